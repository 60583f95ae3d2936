import JvmDerived
import JvmDerived.Pilot.@@N@@Statement
import JvmDerived.Pilot.@@N@@Code
set_option linter.unusedVariables false
set_option linter.unusedSimpArgs false
namespace Jvm.RoadKit
open Sem ClassFile Op Lib Jvm.Stand Jvm.Free Jvm.LawKit
section New
variable {p : Program} {l : Launch} {e : Env} {R : Room} {s : State} {m : MethodId} {args : Array Value} {below : List Frame} {meth : Method} {c : Code} {T : State} {locs : List Loc} {cells slots : Nat}
theorem retI (X : Stand p l e R s m args below meth c T locs cells slots) (hx : p.tables.exec = Jvm.exec) {pc : Nat} {Ls : Array Slot} {z : Int32} {rest : List Value} (hret : meth.sig.returnType = some .int) (hd : decode c.code pc = .ok (.ireturn, 1)) {fs : List Frame}
    (hl : ∀ (f : JFrame) (acts : List Action), f.method = m → f.locked = none → f.entered = [] → (doReturn e (T.setTop f) acts (some (.int z))).1 = T.setFrames fs) : Steps p.tables e below (T.setTop (mkF m pc Ls (.int z :: rest))) (T.setFrames fs) := by
  have hm' : T.vm.method? m = some meth := X.method'
  have hn : narrow .int (.int z) = .int z := rfl
  show Steps p.tables e below (T.setTop { method := m, pc := pc, locals := Ls, stack := _ :: rest, locked := none }) _
  jvm_step X.here [X.here.top, hx, hd, hm', hret, hn]
  first | (intro acts; rw [hl _ acts rfl rfl rfl]) | rw [hl _ _ rfl rfl rfl]
  exact Steps.refl _
end New
end Jvm.RoadKit
namespace Jvm.Pilot.@@N@@
open Jvm Jvm.ClassFile Sem Op Lib Jvm.Free Jvm.Stand Jvm.LawKit Jvm.RoadKit Bundle Jvm.Pilot.@@N@@.Jvm.D
def own_late (y : List Int32) (x : Int32) : Int32 := y.getD x.toNatClampNeg 0
def own_in (x n : Int32) : Bool := decide (¬ (x < 0)) && decide (x < n)
/-- one block of expected: j, and whether it wants the late ones -/
def own_go (y e : List Int32) (m : Int32) (j : Nat) (pol : Bool) : Bool := (j == 0 || decide (Int32.ofNat j < m)) && (pol == !decide (own_late y (e.getD j 0) = 0))
def own_blk (y e : List Int32) (m : Int32) (j : Nat) (pol : Bool) (s : List Int32 × Int32) : List Int32 × Int32 :=
  if own_go y e m j pol then (s.1.set (1 + s.2).toNatClampNeg (e.getD j 0), s.2 + 1) else s
def own_okb (y e : List Int32) (m : Int32) (j : Nat) (pol : Bool) (s : List Int32 × Int32) : Bool :=
  decide (s.1.length = 4) && (!(j == 0 || decide (Int32.ofNat j < m)) || own_in (e.getD j 0) 3) && (!own_go y e m j pol || own_in (1 + s.2) 4)
def own_p1 (x0 x1 : Int32) : List Int32 × Int32 := if x1 = x0 then ([x0, 0, 0], 1) else ([x0, x1, 0], 2)
def own_p2 (n x0 x1 x2 : Int32) (s : List Int32 × Int32) : List Int32 × Int32 := if ¬ (2 < n) ∨ x2 = x0 ∨ x2 = x1 then s else (s.1.set s.2.toNatClampNeg x2, s.2 + 1)
def own_e (n x0 x1 x2 : Int32) : List Int32 × Int32 := own_p2 n x0 x1 x2 (own_p1 x0 x1)
def own_s (y e : List Int32) (m : Int32) : Nat → List Int32 × Int32
  | 0 => ([0, 0, 0, 0], 0)
  | k + 1 => own_blk y e m (k % 3) (decide (3 ≤ k)) (own_s y e m k)
def own_exp (y : List Int32) (n x0 x1 x2 : Int32) : List Int32 :=
  let e := own_e n x0 x1 x2
  let s := own_s y e.1 e.2 6
  s.1.set 0 s.2
def own_okE (y : List Int32) (n x0 x1 x2 : Int32) : Bool :=
  let p := own_p1 x0 x1
  let e := own_e n x0 x1 x2
  decide (y.length = 3) && own_in p.2 3 && decide (e.1.length = 3) && (List.range 6).all (fun k => own_okb y e.1 e.2 (k % 3) (decide (3 ≤ k)) (own_s y e.1 e.2 k)) && decide ((own_s y e.1 e.2 6).1.length = 4)
/-- the queue: waiting, ring 0, ring 1, firsts, counts -/
abbrev own_Q := List Int32 × List Int32 × List Int32 × List Int32 × List Int32
def own_cn (y : List Int32) : Int32 := ((0 + (if y.getD 0 0 = 0 then 0 else 1)) + (if y.getD 1 0 = 0 then 0 else 1)) + (if y.getD 2 0 = 0 then 0 else 1)
def own_q0 (y : List Int32) : own_Q := ([0, 0, 0], List.replicate (3 - own_cn y).toNatClampNeg 0, List.replicate (own_cn y).toNatClampNeg 0, [0, 0], [0, 0])
def own_n (y : List Int32) (k : Bool) : Int32 := if k then own_cn y else 3 - own_cn y
def own_at (q : own_Q) (y : List Int32) (k : Bool) : Int32 := (q.2.2.2.1.getD k.toNat 0 + q.2.2.2.2.getD k.toNat 0) % own_n y k
def own_add (y : List Int32) (x : Int32) (q : own_Q) : own_Q :=
  if q.1.getD x.toNatClampNeg 0 = 0 then
    let k : Bool := !decide (own_late y x = 0)
    let i := own_at q y k
    (q.1.set x.toNatClampNeg 1, if k then q.2.1 else q.2.1.set i.toNatClampNeg x, if k then q.2.2.1.set i.toNatClampNeg x else q.2.2.1, q.2.2.2.1, q.2.2.2.2.set k.toNat (q.2.2.2.2.getD k.toNat 0 + 1))
  else q
def own_okL (y : List Int32) (q : own_Q) : Bool := decide (y.length = 3) && decide (q.1.length = 3) && decide (q.2.1.length = (3 - own_cn y).toNatClampNeg) && decide (q.2.2.1.length = (own_cn y).toNatClampNeg) && decide (q.2.2.2.1.length = 2) && decide (q.2.2.2.2.length = 2)
def own_okA (y : List Int32) (x : Int32) (q : own_Q) : Bool :=
  own_okL y q && own_in x 3 && (!decide (q.1.getD x.toNatClampNeg 0 = 0) || (let k : Bool := !decide (own_late y x = 0); decide (¬ own_n y k = 0) && own_in (own_at q y k) (own_n y k)))
def own_tk (q : own_Q) : Bool := !decide (0 < q.2.2.2.2.getD 0 0)
def own_ring (q : own_Q) (k : Bool) : List Int32 := if k then q.2.2.1 else q.2.1
def own_got (q : own_Q) : Int32 := (own_ring q (own_tk q)).getD (q.2.2.2.1.getD (own_tk q).toNat 0).toNatClampNeg 0
def own_take (y : List Int32) (q : own_Q) : own_Q :=
  let k := own_tk q
  (q.1.set (own_got q).toNatClampNeg 0, q.2.1, q.2.2.1, q.2.2.2.1.set k.toNat ((q.2.2.2.1.getD k.toNat 0 + 1) % own_n y k), q.2.2.2.2.set k.toNat (q.2.2.2.2.getD k.toNat 0 - 1))
def own_okT (y : List Int32) (q : own_Q) : Bool :=
  own_okL y q && (let k := own_tk q; own_in (q.2.2.2.1.getD k.toNat 0) (own_n y k) && decide (¬ own_n y k = 0) && own_in (own_got q) 3)
def own_empty (q : own_Q) : Bool := decide (q.2.2.2.2.getD 0 0 = 0) && decide (q.2.2.2.2.getD 1 0 = 0)
def own_e2 (y : List Int32) (a b c d : Int32) : List Int32 := if (own_exp y 2 a b 0).getD 0 0 = 2 then own_exp y 3 ((own_exp y 2 a b 0).getD 2 0) c d else own_exp y 2 c d 0
def own_Q1 (y : List Int32) (a : Int32) : own_Q := own_add y a (own_q0 y)
def own_Q2 (y : List Int32) (a b : Int32) : own_Q := own_add y b (own_Q1 y a)
def own_Q3 (y : List Int32) (a b : Int32) : own_Q := own_take y (own_Q2 y a b)
def own_Q4 (y : List Int32) (a b c : Int32) : own_Q := own_add y c (own_Q3 y a b)
def own_Q5 (y : List Int32) (a b c d : Int32) : own_Q := own_add y d (own_Q4 y a b c)
def own_Q6 (y : List Int32) (a b c d : Int32) : own_Q := own_take y (own_Q5 y a b c d)
def own_Q7 (y : List Int32) (a b c d : Int32) : own_Q := own_take y (own_Q6 y a b c d)
def own_Q8 (y : List Int32) (a b c d : Int32) : own_Q := own_take y (own_Q7 y a b c d)
def own_fine (y : List Int32) (a b c d : Int32) : Bool :=
  own_okE y 2 a b 0 && (if (own_exp y 2 a b 0).getD 0 0 = 2 then own_okE y 3 ((own_exp y 2 a b 0).getD 2 0) c d else own_okE y 2 c d 0)
  && own_okA y a (own_q0 y) && own_okA y b (own_Q1 y a) && own_okT y (own_Q2 y a b) && decide (own_got (own_Q2 y a b) = (own_exp y 2 a b 0).getD 1 0)
  && own_okA y c (own_Q3 y a b) && own_okA y d (own_Q4 y a b c) && own_okT y (own_Q5 y a b c d) && decide (own_got (own_Q5 y a b c d) = (own_e2 y a b c d).getD 1 0)
  && (if (own_e2 y a b c d).getD 0 0 < 2 then own_empty (own_Q6 y a b c d) else own_okT y (own_Q6 y a b c d) && decide (own_got (own_Q6 y a b c d) = (own_e2 y a b c d).getD 2 0)
    && (if (own_e2 y a b c d).getD 0 0 < 3 then own_empty (own_Q7 y a b c d) else own_okT y (own_Q7 y a b c d) && decide (own_got (own_Q7 y a b c d) = (own_e2 y a b c d).getD 3 0) && own_empty (own_Q8 y a b c d)))
def own_B : List Int32 := [0, 1]
def own_T : List Int32 := [0, 1, 2]

set_option maxRecDepth 65536 in
theorem own_all : (own_B.all fun y0 => own_B.all fun y1 => own_B.all fun y2 => own_T.all fun a => own_T.all fun b => own_T.all fun c => own_T.all fun d => own_fine [y0, y1, y2] a b c d) = true := by decide +kernel
theorem own_inB {y : Int32} (h : y = (0 : Int32) ∨ y = (1 : Int32)) : y ∈ own_B := by rcases h with rfl | rfl <;> decide
theorem own_inT {y : Int32} (h : y = (0 : Int32) ∨ y = (1 : Int32) ∨ y = (2 : Int32)) : y ∈ own_T := by rcases h with rfl | rfl | rfl <;> decide
theorem own_all_e {y0 y1 y2 a b c d : Int32} (h0 : y0 = (0 : Int32) ∨ y0 = (1 : Int32)) (h1 : y1 = (0 : Int32) ∨ y1 = (1 : Int32)) (h2 : y2 = (0 : Int32) ∨ y2 = (1 : Int32)) (ha : a = (0 : Int32) ∨ a = (1 : Int32) ∨ a = (2 : Int32)) (hb : b = (0 : Int32) ∨ b = (1 : Int32) ∨ b = (2 : Int32)) (hc : c = (0 : Int32) ∨ c = (1 : Int32) ∨ c = (2 : Int32)) (hd : d = (0 : Int32) ∨ d = (1 : Int32) ∨ d = (2 : Int32)) : own_fine [y0, y1, y2] a b c d = true :=
  List.all_eq_true.mp (List.all_eq_true.mp (List.all_eq_true.mp (List.all_eq_true.mp (List.all_eq_true.mp (List.all_eq_true.mp (List.all_eq_true.mp own_all y0 (own_inB h0)) y1 (own_inB h1)) y2 (own_inB h2)) a (own_inT ha)) b (own_inT hb)) c (own_inT hc)) d (own_inT hd)
theorem own_fine_e {y : List Int32} {a b c d : Int32} (h : own_fine y a b c d = true) : ∃ E1 E2 : List Int32, own_exp y 2 a b 0 = E1 ∧ own_okE y 2 a b 0 = true ∧ (E1.getD 0 0 = 2 → own_okE y 3 (E1.getD 2 0) c d = true ∧ own_exp y 3 (E1.getD 2 0) c d = E2) ∧ (¬ E1.getD 0 0 = 2 → own_okE y 2 c d 0 = true ∧ own_exp y 2 c d 0 = E2) ∧
    own_okA y a (own_q0 y) = true ∧ own_okA y b (own_Q1 y a) = true ∧ own_okT y (own_Q2 y a b) = true ∧ own_got (own_Q2 y a b) = E1.getD 1 0 ∧ own_okA y c (own_Q3 y a b) = true ∧ own_okA y d (own_Q4 y a b c) = true ∧ own_okT y (own_Q5 y a b c d) = true ∧ own_got (own_Q5 y a b c d) = E2.getD 1 0 ∧
    (E2.getD 0 0 < 2 → own_empty (own_Q6 y a b c d) = true) ∧ (¬ E2.getD 0 0 < 2 → own_okT y (own_Q6 y a b c d) = true ∧ own_got (own_Q6 y a b c d) = E2.getD 2 0 ∧ (E2.getD 0 0 < 3 → own_empty (own_Q7 y a b c d) = true) ∧ (¬ E2.getD 0 0 < 3 → own_okT y (own_Q7 y a b c d) = true ∧ own_got (own_Q7 y a b c d) = E2.getD 3 0 ∧ own_empty (own_Q8 y a b c d) = true)) := by
  simp only [own_fine, Bool.and_eq_true, decide_eq_true_eq] at h
  obtain ⟨⟨⟨⟨⟨⟨⟨⟨⟨⟨h1, h2⟩, h3⟩, h4⟩, h5⟩, h6⟩, h7⟩, h8⟩, h9⟩, h10⟩, h11⟩ := h
  refine ⟨own_exp y 2 a b 0, own_e2 y a b c d, rfl, h1, fun q => ⟨?_, ?_⟩, fun q => ⟨?_, ?_⟩, h3, h4, h5, h6, h7, h8, h9, h10, fun q => ?_, fun q => ?_⟩
  · rw [if_pos q] at h2; exact h2
  · rw [own_e2, if_pos q]
  · rw [if_neg q] at h2; exact h2
  · rw [own_e2, if_neg q]
  · rw [if_pos q] at h11; exact h11
  · rw [if_neg q] at h11
    simp only [Bool.and_eq_true, decide_eq_true_eq] at h11
    obtain ⟨⟨i1, i2⟩, i3⟩ := h11
    refine ⟨i1, i2, fun r => ?_, fun r => ?_⟩
    · rw [if_pos r] at i3; exact i3
    · rw [if_neg r] at i3
      simp only [Bool.and_eq_true, decide_eq_true_eq] at i3
      exact ⟨i3.1.1, i3.1.2, i3.2⟩
theorem own_okL_e {y : List Int32} {σ : own_Q} (h : own_okL y σ = true) : y.length = 3 ∧ σ.1.length = 3 ∧ σ.2.1.length = ((3 : Int32) - own_cn y).toNatClampNeg ∧ σ.2.2.1.length = (own_cn y).toNatClampNeg ∧ σ.2.2.2.1.length = 2 ∧ σ.2.2.2.2.length = 2 := by
  simp only [own_okL, Bool.and_eq_true, decide_eq_true_eq] at h
  obtain ⟨⟨⟨⟨⟨h1, h2⟩, h3⟩, h4⟩, h5⟩, h6⟩ := h
  exact ⟨h1, h2, h3, h4, h5, h6⟩
theorem own_okA_e {y : List Int32} {x : Int32} {σ : own_Q} (h : own_okA y x σ = true) : y.length = 3 ∧ σ.1.length = 3 ∧ σ.2.1.length = ((3 : Int32) - own_cn y).toNatClampNeg ∧ σ.2.2.1.length = (own_cn y).toNatClampNeg ∧ σ.2.2.2.1.length = 2 ∧ σ.2.2.2.2.length = 2 ∧ own_in x 3 = true ∧
    (σ.1.getD x.toNatClampNeg 0 = (0 : Int32) → own_late y x = (0 : Int32) → ¬ ((3 : Int32) - own_cn y = (0 : Int32)) ∧ own_in ((σ.2.2.2.1.getD 0 0 + σ.2.2.2.2.getD 0 0) % ((3 : Int32) - own_cn y)) ((3 : Int32) - own_cn y) = true) ∧
    (σ.1.getD x.toNatClampNeg 0 = (0 : Int32) → ¬ own_late y x = (0 : Int32) → ¬ (own_cn y = (0 : Int32)) ∧ own_in ((σ.2.2.2.1.getD 1 0 + σ.2.2.2.2.getD 1 0) % (own_cn y)) (own_cn y) = true) := by
  simp only [own_okA, Bool.and_eq_true] at h
  obtain ⟨⟨h1, h2⟩, h3⟩ := h
  obtain ⟨l1, l2, l3, l4, l5, l6⟩ := own_okL_e h1
  refine ⟨l1, l2, l3, l4, l5, l6, h2, fun q r => ?_, fun q r => ?_⟩
  · rw [decide_eq_true q, decide_eq_true r] at h3
    simp only [Bool.not_true, Bool.false_or, Bool.and_eq_true, decide_eq_true_eq] at h3
    exact h3
  · rw [decide_eq_true q, decide_eq_false r] at h3
    simp only [Bool.not_true, Bool.false_or, Bool.not_false, Bool.and_eq_true, decide_eq_true_eq] at h3
    exact h3
theorem own_add_n {y : List Int32} {x : Int32} {σ : own_Q} (h : ¬ σ.1.getD x.toNatClampNeg 0 = (0 : Int32)) : own_add y x σ = σ := by rw [own_add, if_neg h]
theorem own_add_0 {y : List Int32} {x : Int32} {σ : own_Q} (h : σ.1.getD x.toNatClampNeg 0 = (0 : Int32)) (r : own_late y x = (0 : Int32)) : own_add y x σ = (σ.1.set x.toNatClampNeg 1, σ.2.1.set ((σ.2.2.2.1.getD 0 0 + σ.2.2.2.2.getD 0 0) % ((3 : Int32) - own_cn y)).toNatClampNeg x, σ.2.2.1, σ.2.2.2.1, σ.2.2.2.2.set 0 (σ.2.2.2.2.getD 0 0 + 1)) := by
  rw [own_add, if_pos h, decide_eq_true r]
  rfl
theorem own_add_1 {y : List Int32} {x : Int32} {σ : own_Q} (h : σ.1.getD x.toNatClampNeg 0 = (0 : Int32)) (r : ¬ own_late y x = (0 : Int32)) : own_add y x σ = (σ.1.set x.toNatClampNeg 1, σ.2.1, σ.2.2.1.set ((σ.2.2.2.1.getD 1 0 + σ.2.2.2.2.getD 1 0) % (own_cn y)).toNatClampNeg x, σ.2.2.2.1, σ.2.2.2.2.set 1 (σ.2.2.2.2.getD 1 0 + 1)) := by
  rw [own_add, if_pos h, decide_eq_false r]
  rfl
theorem own_tk_0 {σ : own_Q} (h : (0 : Int32) < σ.2.2.2.2.getD 0 0) : own_tk σ = false := by rw [own_tk, decide_eq_true h]; rfl
theorem own_tk_1 {σ : own_Q} (h : ¬ (0 : Int32) < σ.2.2.2.2.getD 0 0) : own_tk σ = true := by rw [own_tk, decide_eq_false h]; rfl
theorem own_got_0 {σ : own_Q} (h : (0 : Int32) < σ.2.2.2.2.getD 0 0) : own_got σ = σ.2.1.getD (σ.2.2.2.1.getD 0 0).toNatClampNeg 0 := by rw [own_got, own_tk_0 h]; rfl
theorem own_got_1 {σ : own_Q} (h : ¬ (0 : Int32) < σ.2.2.2.2.getD 0 0) : own_got σ = σ.2.2.1.getD (σ.2.2.2.1.getD 1 0).toNatClampNeg 0 := by rw [own_got, own_tk_1 h]; rfl
theorem own_take_0 {y : List Int32} {σ : own_Q} (h : (0 : Int32) < σ.2.2.2.2.getD 0 0) : own_take y σ = (σ.1.set (σ.2.1.getD (σ.2.2.2.1.getD 0 0).toNatClampNeg 0).toNatClampNeg 0, σ.2.1, σ.2.2.1, σ.2.2.2.1.set 0 ((σ.2.2.2.1.getD 0 0 + 1) % ((3 : Int32) - own_cn y)), σ.2.2.2.2.set 0 (σ.2.2.2.2.getD 0 0 - 1)) := by
  rw [own_take, own_got_0 h, own_tk_0 h]
  rfl
theorem own_take_1 {y : List Int32} {σ : own_Q} (h : ¬ (0 : Int32) < σ.2.2.2.2.getD 0 0) : own_take y σ = (σ.1.set (σ.2.2.1.getD (σ.2.2.2.1.getD 1 0).toNatClampNeg 0).toNatClampNeg 0, σ.2.1, σ.2.2.1, σ.2.2.2.1.set 1 ((σ.2.2.2.1.getD 1 0 + 1) % (own_cn y)), σ.2.2.2.2.set 1 (σ.2.2.2.2.getD 1 0 - 1)) := by
  rw [own_take, own_got_1 h, own_tk_1 h]
  rfl
theorem own_okT_e {y : List Int32} {σ : own_Q} (h : own_okT y σ = true) : y.length = 3 ∧ σ.1.length = 3 ∧ σ.2.1.length = ((3 : Int32) - own_cn y).toNatClampNeg ∧ σ.2.2.1.length = (own_cn y).toNatClampNeg ∧ σ.2.2.2.1.length = 2 ∧ σ.2.2.2.2.length = 2 ∧
    ((0 : Int32) < σ.2.2.2.2.getD 0 0 → own_in (σ.2.2.2.1.getD 0 0) ((3 : Int32) - own_cn y) = true ∧ ¬ ((3 : Int32) - own_cn y = (0 : Int32)) ∧ own_in (σ.2.1.getD (σ.2.2.2.1.getD 0 0).toNatClampNeg 0) 3 = true) ∧
    (¬ (0 : Int32) < σ.2.2.2.2.getD 0 0 → own_in (σ.2.2.2.1.getD 1 0) (own_cn y) = true ∧ ¬ (own_cn y = (0 : Int32)) ∧ own_in (σ.2.2.1.getD (σ.2.2.2.1.getD 1 0).toNatClampNeg 0) 3 = true) := by
  simp only [own_okT, Bool.and_eq_true, decide_eq_true_eq] at h
  obtain ⟨h1, ⟨h2, h3⟩, h4⟩ := h
  obtain ⟨l1, l2, l3, l4, l5, l6⟩ := own_okL_e h1
  refine ⟨l1, l2, l3, l4, l5, l6, fun q => ?_, fun q => ?_⟩
  · rw [own_tk_0 q] at h2 h3
    rw [own_got_0 q] at h4
    exact ⟨h2, h3, h4⟩
  · rw [own_tk_1 q] at h2 h3
    rw [own_got_1 q] at h4
    exact ⟨h2, h3, h4⟩
theorem own_empty_e {σ : own_Q} (h : own_empty σ = true) : σ.2.2.2.2.getD 0 0 = (0 : Int32) ∧ σ.2.2.2.2.getD 1 0 = (0 : Int32) := by
  simp only [own_empty, Bool.and_eq_true, decide_eq_true_eq] at h
  exact h
theorem own_bit {c : Prop} [Decidable c] {t : Int32} (h : (c ∧ t = (0 : Int32)) ∨ (¬ c ∧ t = (1 : Int32))) : t = if c then (0 : Int32) else 1 := by
  rcases h with ⟨h1, h2⟩ | ⟨h1, h2⟩
  · rw [if_pos h1]; exact h2
  · rw [if_neg h1]; exact h2
theorem own_cn_eq {y : List Int32} {t0 t1 t2 : Int32} (h0 : (y.getD 0 0 = (0 : Int32) ∧ t0 = (0 : Int32)) ∨ (¬ y.getD 0 0 = (0 : Int32) ∧ t0 = (1 : Int32))) (h1 : (y.getD 1 0 = (0 : Int32) ∧ t1 = (0 : Int32)) ∨ (¬ y.getD 1 0 = (0 : Int32) ∧ t1 = (1 : Int32))) (h2 : (y.getD 2 0 = (0 : Int32) ∧ t2 = (0 : Int32)) ∨ (¬ y.getD 2 0 = (0 : Int32) ∧ t2 = (1 : Int32))) : (((0 : Int32) + t0) + t1) + t2 = own_cn y := by
  rw [own_bit h0, own_bit h1, own_bit h2]
  rfl
theorem own_cn_b (y : List Int32) : ¬ ((3 : Int32) - own_cn y < 0) ∧ ((3 : Int32) - own_cn y).toNatClampNeg ≤ 3 ∧ ¬ (own_cn y < 0) ∧ (own_cn y).toNatClampNeg ≤ 3 := by
  rw [own_cn]
  split <;> split <;> split <;> decide
theorem own_lt23 {x : Int32} (h : x < (2 : Int32)) : x < (3 : Int32) := by
  have e2 : (2 : Int32).toInt = 2 := by decide
  have e3 : (3 : Int32).toInt = 3 := by decide
  rw [Int32.lt_iff_toInt_lt, e2] at h
  rw [Int32.lt_iff_toInt_lt, e3]
  omega

theorem own_in_e {x n : Int32} (h : own_in x n = true) : ¬ (x < 0) ∧ x < n := by
  simp only [own_in, Bool.and_eq_true, decide_eq_true_eq] at h
  exact h
theorem own_nat_lt {x n : Int32} (h : own_in x n = true) : x.toNatClampNeg < n.toNatClampNeg := by
  have q := own_in_e h
  have e0 : (0 : Int32).toInt = 0 := by decide
  rw [Int32.lt_iff_toInt_lt, Int32.lt_iff_toInt_lt, e0] at q
  show x.toInt.toNat < n.toInt.toNat
  omega
theorem own_lt {x n : Int32} {l : List Int32} (h : own_in x n = true) (hl : l.length = n.toNatClampNeg) : x.toNatClampNeg < (l.map Value.int).length := by
  rw [List.length_map, hl]
  exact own_nat_lt h
theorem own_gm (l : List Int32) (i : Nat) : (l.map Value.int).getD i (.int (0 : Int32)) = .int (l.getD i 0) := by
  simp only [List.getD_eq_getElem?_getD, List.getElem?_map]
  cases l[i]? <;> rfl
theorem own_p1_y {x0 x1 : Int32} (h : x1 = x0) : own_p1 x0 x1 = ([x0, 0, 0], (0 : Int32) + (1 : Int32)) := by rw [own_p1, if_pos h]; rfl
theorem own_p1_n {x0 x1 : Int32} (h : ¬ x1 = x0) : own_p1 x0 x1 = ([x0, x1, 0], ((0 : Int32) + (1 : Int32)) + (1 : Int32)) := by rw [own_p1, if_neg h]; rfl
theorem own_p1_ok (x0 x1 : Int32) : (own_p1 x0 x1).1.length = 3 ∧ own_in (own_p1 x0 x1).2 3 = true := by
  rw [own_p1]
  split
  · exact ⟨rfl, (by decide : own_in 1 3 = true)⟩
  · exact ⟨rfl, (by decide : own_in 2 3 = true)⟩
theorem own_p2_y {n x0 x1 x2 : Int32} {s : List Int32 × Int32} (h : ¬ (2 < n) ∨ x2 = x0 ∨ x2 = x1) : own_p2 n x0 x1 x2 s = s := by rw [own_p2, if_pos h]
theorem own_p2_n {n x0 x1 x2 : Int32} {e : List Int32} {m : Int32} (h1 : (2 : Int32) < n) (h2 : ¬ x2 = x0) (h3 : ¬ x2 = x1) : own_p2 n x0 x1 x2 (e, m) = (e.set m.toNatClampNeg x2, m + (1 : Int32)) := by
  rw [own_p2, if_neg (fun q => q.elim (fun r => r h1) (fun r => r.elim h2 h3))]
theorem own_okE_e {y : List Int32} {n x0 x1 x2 : Int32} {e : List Int32} {m : Int32} (hE : own_e n x0 x1 x2 = (e, m)) (h : own_okE y n x0 x1 x2 = true) :
    y.length = 3 ∧ (own_s y e m 6).1.length = 4 ∧ ∀ k, k < 6 → own_okb y e m (k % 3) (decide (3 ≤ k)) (own_s y e m k) = true := by
  simp only [own_okE, hE, Bool.and_eq_true, decide_eq_true_eq, List.all_eq_true, List.mem_range] at h
  exact ⟨h.1.1.1.1, h.2, h.1.2⟩
theorem own_okb_len {y e : List Int32} {m : Int32} {j : Nat} {pol : Bool} {o : List Int32} {c : Int32} (h : own_okb y e m j pol (o, c) = true) : o.length = (4 : Int32).toNatClampNeg := by
  simp only [own_okb, Bool.and_eq_true, decide_eq_true_eq] at h
  exact h.1.1
theorem own_okb_in {y e : List Int32} {m : Int32} {j : Nat} {pol : Bool} {s : List Int32 × Int32} (h : own_okb y e m j pol s = true) (hj : (j == 0 || decide (Int32.ofNat j < m)) = true) : own_in (e.getD j 0) 3 = true := by
  simp only [own_okb, hj, Bool.and_eq_true] at h
  simpa using h.1.2
theorem own_okb_push {y e : List Int32} {m : Int32} {j : Nat} {pol : Bool} {o : List Int32} {c : Int32} (h : own_okb y e m j pol (o, c) = true) (hg : own_go y e m j pol = true) : own_in ((1 : Int32) + c) 4 = true := by
  simp only [own_okb, hg, Bool.and_eq_true] at h
  simpa using h.2
theorem own_j0 (m : Int32) : ((0 : Nat) == 0 || decide (Int32.ofNat 0 < m)) = true := rfl
theorem own_jm {m : Int32} {j : Nat} (h : Int32.ofNat j < m) : (j == 0 || decide (Int32.ofNat j < m)) = true := by simp [h]
theorem own_go_f {y e : List Int32} {m : Int32} {j : Nat} (hj : (j == 0 || decide (Int32.ofNat j < m)) = true) (h : own_late y (e.getD j 0) = (0 : Int32)) : own_go y e m j false = true := by rw [own_go, hj, decide_eq_true h]; rfl
theorem own_go_f' {y e : List Int32} {m : Int32} {j : Nat} (h : ¬ own_late y (e.getD j 0) = (0 : Int32)) : own_go y e m j false = false := by rw [own_go, decide_eq_false h]; simp
theorem own_go_t {y e : List Int32} {m : Int32} {j : Nat} (hj : (j == 0 || decide (Int32.ofNat j < m)) = true) (h : ¬ own_late y (e.getD j 0) = (0 : Int32)) : own_go y e m j true = true := by rw [own_go, hj, decide_eq_false h]; rfl
theorem own_go_t' {y e : List Int32} {m : Int32} {j : Nat} (h : own_late y (e.getD j 0) = (0 : Int32)) : own_go y e m j true = false := by rw [own_go, decide_eq_true h]; simp
theorem own_go_m {y e : List Int32} {m : Int32} {j : Nat} {pol : Bool} (hj : j ≠ 0) (h : ¬ Int32.ofNat j < m) : own_go y e m j pol = false := by rw [own_go, decide_eq_false h]; simp [hj]
theorem own_s_y {y e : List Int32} {m : Int32} {k : Nat} {o : List Int32} {c : Int32} (r : own_s y e m k = (o, c)) (h : own_go y e m (k % 3) (decide (3 ≤ k)) = true) : own_s y e m (k + 1) = (List.set o ((1 : Int32) + c).toNatClampNeg (e.getD (k % 3) 0), c + (1 : Int32)) := by
  show own_blk y e m (k % 3) (decide (3 ≤ k)) (own_s y e m k) = _
  rw [r, own_blk, h]
  rfl
theorem own_s_n {y e : List Int32} {m : Int32} {k : Nat} {o : List Int32} {c : Int32} (r : own_s y e m k = (o, c)) (h : own_go y e m (k % 3) (decide (3 ≤ k)) = false) : own_s y e m (k + 1) = (o, c) := by
  show own_blk y e m (k % 3) (decide (3 ≤ k)) (own_s y e m k) = _
  rw [r, own_blk, h]
  rfl
theorem own_exp_eq {y : List Int32} {n x0 x1 x2 : Int32} {e : List Int32} {m : Int32} {o : List Int32} {c : Int32} (hE : own_e n x0 x1 x2 = (e, m)) (h6 : own_s y e m 6 = (o, c)) : own_exp y n x0 x1 x2 = o.set 0 c := by
  simp only [own_exp, hE, h6]
theorem own_q0_0 (y : List Int32) : ((own_q0 y).2.1.map Value.int) = [] ++ List.replicate ((3 : Int32) - own_cn y).toNatClampNeg (.int (0 : Int32)) := by
  rw [List.nil_append, own_q0]
  exact List.map_replicate
theorem own_q0_1 (y : List Int32) : ((own_q0 y).2.2.1.map Value.int) = [] ++ List.replicate (own_cn y).toNatClampNeg (.int (0 : Int32)) := by
  rw [List.nil_append, own_q0]
  exact List.map_replicate
theorem own_nz {x : Int32} (h : x = (0 : Int32) ∨ x = (1 : Int32)) : nar .boolean x = x := by rcases h with rfl | rfl <;> rfl
theorem own_mod3 (x : Int32) : ((x &&& (2147483647 : Int32)) % (3 : Int32)) = (0 : Int32) ∨ ((x &&& (2147483647 : Int32)) % (3 : Int32)) = (1 : Int32) ∨ ((x &&& (2147483647 : Int32)) % (3 : Int32)) = (2 : Int32) := by
  have h0 := (c_and x 2147483647 (by decide)).1
  have h1 := (c_iremV (x &&& (2147483647 : Int32)) 3).1 h0 (by decide)
  have e3 : (3 : Int32).toInt = 3 := by decide
  rw [e3] at h1
  generalize ((x &&& (2147483647 : Int32)) % (3 : Int32)) = r at h1
  have h2 : r.toInt = 0 ∨ r.toInt = 1 ∨ r.toInt = 2 := by omega
  rcases h2 with h | h | h
  · exact Or.inl (Int32.toInt_inj.mp (by rw [h]; decide))
  · exact Or.inr (Or.inl (Int32.toInt_inj.mp (by rw [h]; decide)))
  · exact Or.inr (Or.inr (Int32.toInt_inj.mp (by rw [h]; decide)))

theorem pn_com_example_contrepoint_contrepoint_IndexQueueAddPinLaw : plainName "com/example/contrepoint/contrepoint/IndexQueueAddPinLaw" = true := by first | (simp [plainName, overriddenIn]; done) | decide +kernel
theorem ef_1 (m : MethodId) (x0 : Int32) (x1 : Int32) (x2 : Int32) (x3 : Int32) (x4 : Addr) : entryFrame m #[(.int x0), (.int x1), (.int x2), (.int x3), (.ref x4)] 9 = mkF m 0 #[.val (.int x0), .val (.int x1), .val (.int x2), .val (.int x3), .val (.ref x4), .unset, .unset, .unset, .unset] [] := by first | (simp [entryFrame, mkF, argsToLocals, Value.category]; done) | rfl
theorem d1_0 : decode method_2_code 0 = .ok (.iconst 3, 1) := by decide +kernel
theorem d1_1 : decode method_2_code 1 = .ok (.newarray .int, 2) := by decide +kernel
theorem d1_3 : decode method_2_code 3 = .ok (.astore 5, 2) := by decide +kernel
theorem d1_5 : decode method_2_code 5 = .ok (.iconst 0, 1) := by decide +kernel
theorem d1_6 : decode method_2_code 6 = .ok (.istore 6, 2) := by decide +kernel
theorem d1_8 : decode method_2_code 8 = .ok (.aload 5, 2) := by decide +kernel
theorem d1_10 : decode method_2_code 10 = .ok (.iload 6, 2) := by decide +kernel
theorem d1_12 : decode method_2_code 12 = .ok (.iload_n 1, 1) := by decide +kernel
theorem d1_13 : decode method_2_code 13 = .ok (.iastore, 1) := by decide +kernel
theorem d1_14 : decode method_2_code 14 = .ok (.iinc 6 1, 3) := by decide +kernel
theorem d1_17 : decode method_2_code 17 = .ok (.iload_n 2, 1) := by decide +kernel
theorem d1_18 : decode method_2_code 18 = .ok (.iload_n 1, 1) := by decide +kernel
theorem d1_19 : decode method_2_code 19 = .ok (.if_icmp .eq 12, 3) := by decide +kernel
theorem d1_22 : decode method_2_code 22 = .ok (.aload 5, 2) := by decide +kernel
theorem d1_24 : decode method_2_code 24 = .ok (.iload 6, 2) := by decide +kernel
theorem d1_26 : decode method_2_code 26 = .ok (.iload_n 2, 1) := by decide +kernel
theorem d1_27 : decode method_2_code 27 = .ok (.iastore, 1) := by decide +kernel
theorem d1_28 : decode method_2_code 28 = .ok (.iinc 6 1, 3) := by decide +kernel
theorem d1_31 : decode method_2_code 31 = .ok (.iload_n 0, 1) := by decide +kernel
theorem d1_32 : decode method_2_code 32 = .ok (.iconst 2, 1) := by decide +kernel
theorem d1_33 : decode method_2_code 33 = .ok (.if_icmp .le 22, 3) := by decide +kernel
theorem d1_36 : decode method_2_code 36 = .ok (.iload_n 3, 1) := by decide +kernel
theorem d1_37 : decode method_2_code 37 = .ok (.iload_n 1, 1) := by decide +kernel
theorem d1_38 : decode method_2_code 38 = .ok (.if_icmp .eq 17, 3) := by decide +kernel
theorem d1_41 : decode method_2_code 41 = .ok (.iload_n 3, 1) := by decide +kernel
theorem d1_42 : decode method_2_code 42 = .ok (.iload_n 2, 1) := by decide +kernel
theorem d1_43 : decode method_2_code 43 = .ok (.if_icmp .eq 12, 3) := by decide +kernel
theorem d1_46 : decode method_2_code 46 = .ok (.aload 5, 2) := by decide +kernel
theorem d1_48 : decode method_2_code 48 = .ok (.iload 6, 2) := by decide +kernel
theorem d1_50 : decode method_2_code 50 = .ok (.iload_n 3, 1) := by decide +kernel
theorem d1_51 : decode method_2_code 51 = .ok (.iastore, 1) := by decide +kernel
theorem d1_52 : decode method_2_code 52 = .ok (.iinc 6 1, 3) := by decide +kernel
theorem d1_55 : decode method_2_code 55 = .ok (.iconst 4, 1) := by decide +kernel
theorem d1_56 : decode method_2_code 56 = .ok (.newarray .int, 2) := by decide +kernel
theorem d1_58 : decode method_2_code 58 = .ok (.astore 7, 2) := by decide +kernel
theorem d1_60 : decode method_2_code 60 = .ok (.iconst 0, 1) := by decide +kernel
theorem d1_61 : decode method_2_code 61 = .ok (.istore 8, 2) := by decide +kernel
theorem d1_63 : decode method_2_code 63 = .ok (.aload 4, 2) := by decide +kernel
theorem d1_65 : decode method_2_code 65 = .ok (.aload 5, 2) := by decide +kernel
theorem d1_67 : decode method_2_code 67 = .ok (.iconst 0, 1) := by decide +kernel
theorem d1_68 : decode method_2_code 68 = .ok (.iaload, 1) := by decide +kernel
theorem d1_69 : decode method_2_code 69 = .ok (.baload, 1) := by decide +kernel
theorem d1_70 : decode method_2_code 70 = .ok (.ifCond .ne 17, 3) := by decide +kernel
theorem d1_73 : decode method_2_code 73 = .ok (.aload 7, 2) := by decide +kernel
theorem d1_75 : decode method_2_code 75 = .ok (.iconst 1, 1) := by decide +kernel
theorem d1_76 : decode method_2_code 76 = .ok (.iload 8, 2) := by decide +kernel
theorem d1_78 : decode method_2_code 78 = .ok (.iadd, 1) := by decide +kernel
theorem d1_79 : decode method_2_code 79 = .ok (.aload 5, 2) := by decide +kernel
theorem d1_81 : decode method_2_code 81 = .ok (.iconst 0, 1) := by decide +kernel
theorem d1_82 : decode method_2_code 82 = .ok (.iaload, 1) := by decide +kernel
theorem d1_83 : decode method_2_code 83 = .ok (.iastore, 1) := by decide +kernel
theorem d1_84 : decode method_2_code 84 = .ok (.iinc 8 1, 3) := by decide +kernel
theorem d1_87 : decode method_2_code 87 = .ok (.iload 6, 2) := by decide +kernel
theorem d1_89 : decode method_2_code 89 = .ok (.iconst 1, 1) := by decide +kernel
theorem d1_90 : decode method_2_code 90 = .ok (.if_icmp .le 27, 3) := by decide +kernel
theorem d1_93 : decode method_2_code 93 = .ok (.aload 4, 2) := by decide +kernel
theorem d1_95 : decode method_2_code 95 = .ok (.aload 5, 2) := by decide +kernel
theorem d1_97 : decode method_2_code 97 = .ok (.iconst 1, 1) := by decide +kernel
theorem d1_98 : decode method_2_code 98 = .ok (.iaload, 1) := by decide +kernel
theorem d1_99 : decode method_2_code 99 = .ok (.baload, 1) := by decide +kernel
theorem d1_100 : decode method_2_code 100 = .ok (.ifCond .ne 17, 3) := by decide +kernel
theorem d1_103 : decode method_2_code 103 = .ok (.aload 7, 2) := by decide +kernel
theorem d1_105 : decode method_2_code 105 = .ok (.iconst 1, 1) := by decide +kernel
theorem d1_106 : decode method_2_code 106 = .ok (.iload 8, 2) := by decide +kernel
theorem d1_108 : decode method_2_code 108 = .ok (.iadd, 1) := by decide +kernel
theorem d1_109 : decode method_2_code 109 = .ok (.aload 5, 2) := by decide +kernel
theorem d1_111 : decode method_2_code 111 = .ok (.iconst 1, 1) := by decide +kernel
theorem d1_112 : decode method_2_code 112 = .ok (.iaload, 1) := by decide +kernel
theorem d1_113 : decode method_2_code 113 = .ok (.iastore, 1) := by decide +kernel
theorem d1_114 : decode method_2_code 114 = .ok (.iinc 8 1, 3) := by decide +kernel
theorem d1_117 : decode method_2_code 117 = .ok (.iload 6, 2) := by decide +kernel
theorem d1_119 : decode method_2_code 119 = .ok (.iconst 2, 1) := by decide +kernel
theorem d1_120 : decode method_2_code 120 = .ok (.if_icmp .le 27, 3) := by decide +kernel
theorem d1_123 : decode method_2_code 123 = .ok (.aload 4, 2) := by decide +kernel
theorem d1_125 : decode method_2_code 125 = .ok (.aload 5, 2) := by decide +kernel
theorem d1_127 : decode method_2_code 127 = .ok (.iconst 2, 1) := by decide +kernel
theorem d1_128 : decode method_2_code 128 = .ok (.iaload, 1) := by decide +kernel
theorem d1_129 : decode method_2_code 129 = .ok (.baload, 1) := by decide +kernel
theorem d1_130 : decode method_2_code 130 = .ok (.ifCond .ne 17, 3) := by decide +kernel
theorem d1_133 : decode method_2_code 133 = .ok (.aload 7, 2) := by decide +kernel
theorem d1_135 : decode method_2_code 135 = .ok (.iconst 1, 1) := by decide +kernel
theorem d1_136 : decode method_2_code 136 = .ok (.iload 8, 2) := by decide +kernel
theorem d1_138 : decode method_2_code 138 = .ok (.iadd, 1) := by decide +kernel
theorem d1_139 : decode method_2_code 139 = .ok (.aload 5, 2) := by decide +kernel
theorem d1_141 : decode method_2_code 141 = .ok (.iconst 2, 1) := by decide +kernel
theorem d1_142 : decode method_2_code 142 = .ok (.iaload, 1) := by decide +kernel
theorem d1_143 : decode method_2_code 143 = .ok (.iastore, 1) := by decide +kernel
theorem d1_144 : decode method_2_code 144 = .ok (.iinc 8 1, 3) := by decide +kernel
theorem d1_147 : decode method_2_code 147 = .ok (.aload 4, 2) := by decide +kernel
theorem d1_149 : decode method_2_code 149 = .ok (.aload 5, 2) := by decide +kernel
theorem d1_151 : decode method_2_code 151 = .ok (.iconst 0, 1) := by decide +kernel
theorem d1_152 : decode method_2_code 152 = .ok (.iaload, 1) := by decide +kernel
theorem d1_153 : decode method_2_code 153 = .ok (.baload, 1) := by decide +kernel
theorem d1_154 : decode method_2_code 154 = .ok (.ifCond .eq 17, 3) := by decide +kernel
theorem d1_157 : decode method_2_code 157 = .ok (.aload 7, 2) := by decide +kernel
theorem d1_159 : decode method_2_code 159 = .ok (.iconst 1, 1) := by decide +kernel
theorem d1_160 : decode method_2_code 160 = .ok (.iload 8, 2) := by decide +kernel
theorem d1_162 : decode method_2_code 162 = .ok (.iadd, 1) := by decide +kernel
theorem d1_163 : decode method_2_code 163 = .ok (.aload 5, 2) := by decide +kernel
theorem d1_165 : decode method_2_code 165 = .ok (.iconst 0, 1) := by decide +kernel
theorem d1_166 : decode method_2_code 166 = .ok (.iaload, 1) := by decide +kernel
theorem d1_167 : decode method_2_code 167 = .ok (.iastore, 1) := by decide +kernel
theorem d1_168 : decode method_2_code 168 = .ok (.iinc 8 1, 3) := by decide +kernel
theorem d1_171 : decode method_2_code 171 = .ok (.iload 6, 2) := by decide +kernel
theorem d1_173 : decode method_2_code 173 = .ok (.iconst 1, 1) := by decide +kernel
theorem d1_174 : decode method_2_code 174 = .ok (.if_icmp .le 27, 3) := by decide +kernel
theorem d1_177 : decode method_2_code 177 = .ok (.aload 4, 2) := by decide +kernel
theorem d1_179 : decode method_2_code 179 = .ok (.aload 5, 2) := by decide +kernel
theorem d1_181 : decode method_2_code 181 = .ok (.iconst 1, 1) := by decide +kernel
theorem d1_182 : decode method_2_code 182 = .ok (.iaload, 1) := by decide +kernel
theorem d1_183 : decode method_2_code 183 = .ok (.baload, 1) := by decide +kernel
theorem d1_184 : decode method_2_code 184 = .ok (.ifCond .eq 17, 3) := by decide +kernel
theorem d1_187 : decode method_2_code 187 = .ok (.aload 7, 2) := by decide +kernel
theorem d1_189 : decode method_2_code 189 = .ok (.iconst 1, 1) := by decide +kernel
theorem d1_190 : decode method_2_code 190 = .ok (.iload 8, 2) := by decide +kernel
theorem d1_192 : decode method_2_code 192 = .ok (.iadd, 1) := by decide +kernel
theorem d1_193 : decode method_2_code 193 = .ok (.aload 5, 2) := by decide +kernel
theorem d1_195 : decode method_2_code 195 = .ok (.iconst 1, 1) := by decide +kernel
theorem d1_196 : decode method_2_code 196 = .ok (.iaload, 1) := by decide +kernel
theorem d1_197 : decode method_2_code 197 = .ok (.iastore, 1) := by decide +kernel
theorem d1_198 : decode method_2_code 198 = .ok (.iinc 8 1, 3) := by decide +kernel
theorem d1_201 : decode method_2_code 201 = .ok (.iload 6, 2) := by decide +kernel
theorem d1_203 : decode method_2_code 203 = .ok (.iconst 2, 1) := by decide +kernel
theorem d1_204 : decode method_2_code 204 = .ok (.if_icmp .le 27, 3) := by decide +kernel
theorem d1_207 : decode method_2_code 207 = .ok (.aload 4, 2) := by decide +kernel
theorem d1_209 : decode method_2_code 209 = .ok (.aload 5, 2) := by decide +kernel
theorem d1_211 : decode method_2_code 211 = .ok (.iconst 2, 1) := by decide +kernel
theorem d1_212 : decode method_2_code 212 = .ok (.iaload, 1) := by decide +kernel
theorem d1_213 : decode method_2_code 213 = .ok (.baload, 1) := by decide +kernel
theorem d1_214 : decode method_2_code 214 = .ok (.ifCond .eq 17, 3) := by decide +kernel
theorem d1_217 : decode method_2_code 217 = .ok (.aload 7, 2) := by decide +kernel
theorem d1_219 : decode method_2_code 219 = .ok (.iconst 1, 1) := by decide +kernel
theorem d1_220 : decode method_2_code 220 = .ok (.iload 8, 2) := by decide +kernel
theorem d1_222 : decode method_2_code 222 = .ok (.iadd, 1) := by decide +kernel
theorem d1_223 : decode method_2_code 223 = .ok (.aload 5, 2) := by decide +kernel
theorem d1_225 : decode method_2_code 225 = .ok (.iconst 2, 1) := by decide +kernel
theorem d1_226 : decode method_2_code 226 = .ok (.iaload, 1) := by decide +kernel
theorem d1_227 : decode method_2_code 227 = .ok (.iastore, 1) := by decide +kernel
theorem d1_228 : decode method_2_code 228 = .ok (.iinc 8 1, 3) := by decide +kernel
theorem d1_231 : decode method_2_code 231 = .ok (.aload 7, 2) := by decide +kernel
theorem d1_233 : decode method_2_code 233 = .ok (.iconst 0, 1) := by decide +kernel
theorem d1_234 : decode method_2_code 234 = .ok (.iload 8, 2) := by decide +kernel
theorem d1_236 : decode method_2_code 236 = .ok (.iastore, 1) := by decide +kernel
theorem d1_237 : decode method_2_code 237 = .ok (.aload 7, 2) := by decide +kernel
theorem d1_239 : decode method_2_code 239 = .ok (.areturn, 1) := by decide +kernel
def Q_rmE (Z : State) (n : Int32) (x0 : Int32) (x1 : Int32) (x2 : Int32) (bl : Addr) (kl : ClassId) (y : List Int32) (h0 : Heap) (n0 : Nat) (v : Option Value) (h : Heap) (L : List Loc) : Prop := ∃ r : Addr, v = some (.ref r) ∧ Fr n0 L ∧ Keep h0 h [] ∧ h0.size ≤ r ∧ ∃ kr : ClassId, Arv Z h r kr .int (4 : Int32) ((own_exp y n x0 x1 x2).map Value.int) (.int (0 : Int32))
set_option maxRecDepth 65536 in
set_option maxHeartbeats 40000000 in
theorem rmE (l : Launch) (Z : State) (a0 : Array Value) (hw : ∀ d ∈ tables_1, d.before a0 Z = true) (ws : List Jvm.Cond) (n : Int32) (x0 : Int32) (x1 : Int32) (x2 : Int32) (bl : Addr) (kl : ClassId) (y : List Int32) (h0 : Heap) (n0 : Nat) (Z0 : n0 ≤ h0.size) (Vl : Arv Z h0 bl kl .boolean (3 : Int32) (y.map Value.int) (.int (0 : Int32))) (hok : own_okE y n x0 x1 x2 = true) :
    MetFree l (⟨"com/example/contrepoint/contrepoint/IndexQueueAddPinLaw", "expected", "(IIII[Z)[I"⟩ : MethodName) (head1 (Jvm.Cond.code (⟨"com/example/contrepoint/contrepoint/IndexQueueAddPinLaw", "expected", "(IIII[Z)[I"⟩ : MethodName) method_2_code 9 (some (.array .int)) :: ws) ({ frames := 0, cells := 2, slots := 7, locals := 0 } : Room)) (fun a U => a = #[(.int n), (.int x0), (.int x1), (.int x2), (.ref bl)] ∧ Z.Warmed39 U.vm ∧ U.heap = h0) (fun _ _ _ _ _ => True) (fun _ U o U' => ∃ v L, o = .returned v ∧ Q_rmE Z n x0 x1 x2 bl kl y h0 n0 v U'.heap L ∧ FrameEnd U o U' L ({ frames := 0, cells := 2, slots := 7, locals := 0 } : Room).cells ({ frames := 0, cells := 2, slots := 7, locals := 0 } : Room).slots) := by
  refine MetFree.of_bodySF (plainFor_of_name pn_com_example_contrepoint_contrepoint_IndexQueueAddPinLaw) hisR ?_
  intro p e s m args below meth c s₁ Bd hml0 hP hK
  obtain ⟨rfl, hZ, hh⟩ := hP
  have hx := Bd.exec
  have hby := Bd.bytes
  have hml : c.maxLocals = 9 := hml0
  have hown : s.vm.findClass "com/example/contrepoint/contrepoint/IndexQueueAddPinLaw" = some m.cls := findClass_of_methodNamed Bd.named
  have hnm := (name_of_methodNamed Bd.named Bd.method).1
  have X0 : Stand p l e ({ frames := 0, cells := 2, slots := 7, locals := 0 } : Room) s m #[(.int n), (.int x0), (.int x1), (.int x2), (.ref bl)] below meth c s₁ [] 0 0 := Stand.of_body Bd
  have e0 : s₁.heap = h0 := by rw [← hh, Bd.state]; rfl
  have N0 := Fr.nil n0
  have pre0 : ∀ t, Steps p.tables e below (s₁.setTop (mkF m 0 #[.val (.int n), .val (.int x0), .val (.int x1), .val (.int x2), .val (.ref bl), .unset, .unset, .unset, .unset] [])) t → Steps p.tables e below (s₁.setTop (entryFrame m #[(.int n), (.int x0), (.int x1), (.int x2), (.ref bl)] 9)) t := fun t k => castTop (ef_1 m n x0 x1 x2 bl) k
  obtain ⟨S0, hS0⟩ : ∃ S, S = s₁.setTop (entryFrame m #[(.int n), (.int x0), (.int x1), (.int x2), (.ref bl)] 9) := ⟨_, rfl⟩
  rw [← hS0] at pre0 ⊢
  obtain ⟨T1, h1, k1, X1, e1, E1, A1, Ex1, st1⟩ := newPE X0 hx hZ (hw _ (List.mem_of_getElem? (i := 6) rfl)) e0 (g := (mkF m 1 #[.val (.int n), .val (.int x0), .val (.int x1), .val (.int x2), .val (.ref bl), .unset, .unset, .unset, .unset] [(.int (3 : Int32))])) rfl (hb hby d1_1) rfl (by decide) (cap := 3) (by decide) (by decide) (by decide) (by decide) (ad := "[I") rfl
  obtain ⟨b1, g1⟩ : ∃ z, z = h0.size := ⟨_, rfl⟩
  rw [← g1] at A1 Ex1 st1
  have gn_b1 : n0 ≤ b1 := Nat.le_trans (Nat.le_trans Z0 (Keep.refl h0 []).1) (Nat.le_of_eq g1.symm)
  have sz_b1 : h0.size ≤ b1 := Nat.le_trans (Keep.refl h0 []).1 (Nat.le_of_eq g1.symm)
  have K2 : Keep h0 h1 [] := (Keep.refl h0 []).ext E1
  have lt_b1 : b1 < h1.size := A1.lt
  have V_b1 : Arv Z h1 b1 k1 .int (3 : Int32) [(.int (0 : Int32)), (.int (0 : Int32)), (.int (0 : Int32))] (.int (0 : Int32)) := (Arv.new A1 (by decide)).pad (pad_rep [] (.int (0 : Int32)) 3)
  obtain ⟨cl3, Arcl3, qcl3, Scl3, Ncl3, Hcl3, Gcl3⟩ := id V_b1
  have hincl3 : ¬ ((0 : Int32) < 0 ∨ cl3.slots.size ≤ ((0 : Int32)).toNatClampNeg) := inb_of Scl3 ⟨by decide, by decide⟩
  obtain ⟨T4, h4, X4, e4, W4, st4⟩ := stI X1 hx hZ e1 Arcl3 (j := (0 : Int32)) hincl3 (g := (mkF m 13 #[.val (.int n), .val (.int x0), .val (.int x1), .val (.int x2), .val (.ref bl), .val (.ref b1), .val (.int (0 : Int32)), .unset, .unset] [(.int x0), (.int (0 : Int32)), (.ref b1)])) rfl rfl (hb hby d1_13)
  have V4 := Arv.set Arcl3 qcl3 Scl3 Ncl3 Hcl3 Gcl3 rfl W4 0 rfl (Nat.le_of_ble_eq_true rfl)
  have Vn4 : Arv Z h4 b1 k1 .int (3 : Int32) [(.int x0), (.int (0 : Int32)), (.int (0 : Int32))] (.int (0 : Int32)) := V4
  have N4 := Fr.snoc X4 N0 gn_b1
  have K5 : Keep h0 h4 [] := K2.wr W4 (Or.inr sz_b1)
  have ne_el : b1 ≠ bl := Ne.symm (Nat.ne_of_lt (Nat.lt_of_lt_of_le Vl.lt sz_b1))
  have pre6 : ∀ t, Steps p.tables e below (T4.setTop (mkF m 19 #[.val (.int n), .val (.int x0), .val (.int x1), .val (.int x2), .val (.ref bl), .val (.ref b1), .val (.int ((0 : Int32) + (1 : Int32))), .unset, .unset] [(.int x0), (.int x1)])) t → Steps p.tables e below S0 t := by
    intro t k
    refine pre0 t ?_
    show Steps p.tables e below (s₁.setTop (mkF m 0 #[.val (.int n), .val (.int x0), .val (.int x1), .val (.int x2), .val (.ref bl), .unset, .unset, .unset, .unset] [])) _
    refine XS.iconst X0.here hx rfl (hb hby d1_0) ?_
    show Steps p.tables e below (s₁.setTop (mkF m 1 #[.val (.int n), .val (.int x0), .val (.int x1), .val (.int x2), .val (.ref bl), .unset, .unset, .unset, .unset] [(.int (3 : Int32))])) _
    refine st1 _ ?_
    show Steps p.tables e below (T1.setTop (mkF m 3 #[.val (.int n), .val (.int x0), .val (.int x1), .val (.int x2), .val (.ref bl), .unset, .unset, .unset, .unset] [(.ref b1)])) _
    refine XS.astore X1.here hx rfl (hb hby d1_3) rfl rfl (l' := #[.val (.int n), .val (.int x0), .val (.int x1), .val (.int x2), .val (.ref bl), .val (.ref b1), .unset, .unset, .unset]) rfl ?_
    show Steps p.tables e below (T1.setTop (mkF m 5 #[.val (.int n), .val (.int x0), .val (.int x1), .val (.int x2), .val (.ref bl), .val (.ref b1), .unset, .unset, .unset] [])) _
    refine XS.iconst X1.here hx rfl (hb hby d1_5) ?_
    show Steps p.tables e below (T1.setTop (mkF m 6 #[.val (.int n), .val (.int x0), .val (.int x1), .val (.int x2), .val (.ref bl), .val (.ref b1), .unset, .unset, .unset] [(.int (0 : Int32))])) _
    refine XS.istore X1.here hx rfl (hb hby d1_6) rfl (l' := #[.val (.int n), .val (.int x0), .val (.int x1), .val (.int x2), .val (.ref bl), .val (.ref b1), .val (.int (0 : Int32)), .unset, .unset]) rfl ?_
    show Steps p.tables e below (T1.setTop (mkF m 8 #[.val (.int n), .val (.int x0), .val (.int x1), .val (.int x2), .val (.ref bl), .val (.ref b1), .val (.int (0 : Int32)), .unset, .unset] [])) _
    refine XS.aload X1.here hx rfl (hb hby d1_8) rfl rfl ?_
    show Steps p.tables e below (T1.setTop (mkF m 10 #[.val (.int n), .val (.int x0), .val (.int x1), .val (.int x2), .val (.ref bl), .val (.ref b1), .val (.int (0 : Int32)), .unset, .unset] [(.ref b1)])) _
    refine XS.iload X1.here hx rfl (hb hby d1_10) rfl ?_
    show Steps p.tables e below (T1.setTop (mkF m 12 #[.val (.int n), .val (.int x0), .val (.int x1), .val (.int x2), .val (.ref bl), .val (.ref b1), .val (.int (0 : Int32)), .unset, .unset] [(.int (0 : Int32)), (.ref b1)])) _
    refine XS.iloadN X1.here hx rfl (hb hby d1_12) rfl ?_
    show Steps p.tables e below (T1.setTop (mkF m 13 #[.val (.int n), .val (.int x0), .val (.int x1), .val (.int x2), .val (.ref bl), .val (.ref b1), .val (.int (0 : Int32)), .unset, .unset] [(.int x0), (.int (0 : Int32)), (.ref b1)])) _
    refine st4 _ ?_
    show Steps p.tables e below (T4.setTop (mkF m 14 #[.val (.int n), .val (.int x0), .val (.int x1), .val (.int x2), .val (.ref bl), .val (.ref b1), .val (.int (0 : Int32)), .unset, .unset] [])) _
    refine XS.iinc X4.here hx rfl (hb hby d1_14) rfl (l' := #[.val (.int n), .val (.int x0), .val (.int x1), .val (.int x2), .val (.ref bl), .val (.ref b1), .val (.int ((0 : Int32) + (1 : Int32))), .unset, .unset]) rfl ?_
    show Steps p.tables e below (T4.setTop (mkF m 17 #[.val (.int n), .val (.int x0), .val (.int x1), .val (.int x2), .val (.ref bl), .val (.ref b1), .val (.int ((0 : Int32) + (1 : Int32))), .unset, .unset] [])) _
    refine XS.iloadN X4.here hx rfl (hb hby d1_17) rfl ?_
    show Steps p.tables e below (T4.setTop (mkF m 18 #[.val (.int n), .val (.int x0), .val (.int x1), .val (.int x2), .val (.ref bl), .val (.ref b1), .val (.int ((0 : Int32) + (1 : Int32))), .unset, .unset] [(.int x1)])) _
    refine XS.iloadN X4.here hx rfl (hb hby d1_18) rfl ?_
    exact k
  obtain ⟨T_p1, h_p1, L_p1, le1, lm1, X_p1, e_p1, N_p1, K_p1, V0_p1, r_p1, pre_p1⟩ : ∃ (T' : State) (h' : Heap) (L' : List Loc) (le1 : List Int32) (lm1 : Int32), Stand p l e ({ frames := 0, cells := 2, slots := 7, locals := 0 } : Room) s m #[(.int n), (.int x0), (.int x1), (.int x2), (.ref bl)] below meth c T' L' 1 3 ∧ T'.heap = h' ∧ Fr n0 L' ∧ Keep h0 h' [] ∧ Arv Z h' b1 k1 .int (3 : Int32) (le1.map Value.int) (.int (0 : Int32)) ∧ own_p1 x0 x1 = (le1, lm1) ∧ ∀ t, Steps p.tables e below (T'.setTop (mkF m 31 #[.val (.int n), .val (.int x0), .val (.int x1), .val (.int x2), .val (.ref bl), .val (.ref b1), .val (.int lm1), .unset, .unset] [])) t → Steps p.tables e below S0 t := by
    by_cases hc : x1 = x0
    · have pre7 : ∀ t, Steps p.tables e below (T4.setTop (mkF m 31 #[.val (.int n), .val (.int x0), .val (.int x1), .val (.int x2), .val (.ref bl), .val (.ref b1), .val (.int ((0 : Int32) + (1 : Int32))), .unset, .unset] [])) t → Steps p.tables e below S0 t := by
        intro t k
        refine pre6 t ?_
        show Steps p.tables e below (T4.setTop (mkF m 19 #[.val (.int n), .val (.int x0), .val (.int x1), .val (.int x2), .val (.ref bl), .val (.ref b1), .val (.int ((0 : Int32) + (1 : Int32))), .unset, .unset] [(.int x0), (.int x1)])) _
        refine XS.icmpYes X4.here hx rfl (pc0 := 19) (pc' := 31) rfl (hb hby d1_19) rfl (teq hc).1 (by decide) (by decide) ?_
        exact k
      exact ⟨T4, h4, _, [x0, 0, 0], ((0 : Int32) + (1 : Int32)), X4, e4, N4, K5, Vn4, (own_p1_y hc), pre7⟩
    · obtain ⟨cl8, Arcl8, qcl8, Scl8, Ncl8, Hcl8, Gcl8⟩ := id Vn4
      have hincl8 : ¬ (((0 : Int32) + (1 : Int32)) < 0 ∨ cl8.slots.size ≤ (((0 : Int32) + (1 : Int32))).toNatClampNeg) := inb_of Scl8 ⟨by decide, by decide⟩
      obtain ⟨T9, h9, X9, e9, W9, st9⟩ := stI X4 hx hZ e4 Arcl8 (j := ((0 : Int32) + (1 : Int32))) hincl8 (g := (mkF m 27 #[.val (.int n), .val (.int x0), .val (.int x1), .val (.int x2), .val (.ref bl), .val (.ref b1), .val (.int ((0 : Int32) + (1 : Int32))), .unset, .unset] [(.int x1), (.int ((0 : Int32) + (1 : Int32))), (.ref b1)])) rfl rfl (hb hby d1_27)
      have V9 := Arv.set Arcl8 qcl8 Scl8 Ncl8 Hcl8 Gcl8 rfl W9 1 rfl (Nat.le_of_ble_eq_true rfl)
      have Vn9 : Arv Z h9 b1 k1 .int (3 : Int32) [(.int x0), (.int x1), (.int (0 : Int32))] (.int (0 : Int32)) := V9
      have N9 := Fr.snoc X9 N4 gn_b1
      have K10 : Keep h0 h9 [] := K5.wr W9 (Or.inr sz_b1)
      have pre11 : ∀ t, Steps p.tables e below (T9.setTop (mkF m 31 #[.val (.int n), .val (.int x0), .val (.int x1), .val (.int x2), .val (.ref bl), .val (.ref b1), .val (.int (((0 : Int32) + (1 : Int32)) + (1 : Int32))), .unset, .unset] [])) t → Steps p.tables e below S0 t := by
        intro t k
        refine pre6 t ?_
        show Steps p.tables e below (T4.setTop (mkF m 19 #[.val (.int n), .val (.int x0), .val (.int x1), .val (.int x2), .val (.ref bl), .val (.ref b1), .val (.int ((0 : Int32) + (1 : Int32))), .unset, .unset] [(.int x0), (.int x1)])) _
        refine XS.icmpNo X4.here hx rfl (hb hby d1_19) rfl (feq hc).1 ?_
        show Steps p.tables e below (T4.setTop (mkF m 22 #[.val (.int n), .val (.int x0), .val (.int x1), .val (.int x2), .val (.ref bl), .val (.ref b1), .val (.int ((0 : Int32) + (1 : Int32))), .unset, .unset] [])) _
        refine XS.aload X4.here hx rfl (hb hby d1_22) rfl rfl ?_
        show Steps p.tables e below (T4.setTop (mkF m 24 #[.val (.int n), .val (.int x0), .val (.int x1), .val (.int x2), .val (.ref bl), .val (.ref b1), .val (.int ((0 : Int32) + (1 : Int32))), .unset, .unset] [(.ref b1)])) _
        refine XS.iload X4.here hx rfl (hb hby d1_24) rfl ?_
        show Steps p.tables e below (T4.setTop (mkF m 26 #[.val (.int n), .val (.int x0), .val (.int x1), .val (.int x2), .val (.ref bl), .val (.ref b1), .val (.int ((0 : Int32) + (1 : Int32))), .unset, .unset] [(.int ((0 : Int32) + (1 : Int32))), (.ref b1)])) _
        refine XS.iloadN X4.here hx rfl (hb hby d1_26) rfl ?_
        show Steps p.tables e below (T4.setTop (mkF m 27 #[.val (.int n), .val (.int x0), .val (.int x1), .val (.int x2), .val (.ref bl), .val (.ref b1), .val (.int ((0 : Int32) + (1 : Int32))), .unset, .unset] [(.int x1), (.int ((0 : Int32) + (1 : Int32))), (.ref b1)])) _
        refine st9 _ ?_
        show Steps p.tables e below (T9.setTop (mkF m 28 #[.val (.int n), .val (.int x0), .val (.int x1), .val (.int x2), .val (.ref bl), .val (.ref b1), .val (.int ((0 : Int32) + (1 : Int32))), .unset, .unset] [])) _
        refine XS.iinc X9.here hx rfl (hb hby d1_28) rfl (l' := #[.val (.int n), .val (.int x0), .val (.int x1), .val (.int x2), .val (.ref bl), .val (.ref b1), .val (.int (((0 : Int32) + (1 : Int32)) + (1 : Int32))), .unset, .unset]) rfl ?_
        exact k
      exact ⟨T9, h9, _, [x0, x1, 0], (((0 : Int32) + (1 : Int32)) + (1 : Int32)), X9, e9, N9, K10, Vn9, (own_p1_n hc), pre11⟩
  obtain ⟨l_le1, i_m1⟩ : le1.length = 3 ∧ own_in lm1 3 = true := by have q := own_p1_ok x0 x1; rw [r_p1] at q; exact q
  have pre12 : ∀ t, Steps p.tables e below (T_p1.setTop (mkF m 33 #[.val (.int n), .val (.int x0), .val (.int x1), .val (.int x2), .val (.ref bl), .val (.ref b1), .val (.int lm1), .unset, .unset] [(.int (2 : Int32)), (.int n)])) t → Steps p.tables e below S0 t := by
    intro t k
    refine pre_p1 t ?_
    show Steps p.tables e below (T_p1.setTop (mkF m 31 #[.val (.int n), .val (.int x0), .val (.int x1), .val (.int x2), .val (.ref bl), .val (.ref b1), .val (.int lm1), .unset, .unset] [])) _
    refine XS.iloadN X_p1.here hx rfl (hb hby d1_31) rfl ?_
    show Steps p.tables e below (T_p1.setTop (mkF m 32 #[.val (.int n), .val (.int x0), .val (.int x1), .val (.int x2), .val (.ref bl), .val (.ref b1), .val (.int lm1), .unset, .unset] [(.int n)])) _
    refine XS.iconst X_p1.here hx rfl (hb hby d1_32) ?_
    exact k
  obtain ⟨T_p2, h_p2, L_p2, le2, lm2, X_p2, e_p2, N_p2, K_p2, V0_p2, r_p2, pre_p2⟩ : ∃ (T' : State) (h' : Heap) (L' : List Loc) (le2 : List Int32) (lm2 : Int32), Stand p l e ({ frames := 0, cells := 2, slots := 7, locals := 0 } : Room) s m #[(.int n), (.int x0), (.int x1), (.int x2), (.ref bl)] below meth c T' L' 1 3 ∧ T'.heap = h' ∧ Fr n0 L' ∧ Keep h0 h' [] ∧ Arv Z h' b1 k1 .int (3 : Int32) (le2.map Value.int) (.int (0 : Int32)) ∧ own_p2 n x0 x1 x2 (le1, lm1) = (le2, lm2) ∧ ∀ t, Steps p.tables e below (T'.setTop (mkF m 55 #[.val (.int n), .val (.int x0), .val (.int x1), .val (.int x2), .val (.ref bl), .val (.ref b1), .val (.int lm2), .unset, .unset] [])) t → Steps p.tables e below S0 t := by
    by_cases h2 : (2 : Int32) < n
    · have pre13 : ∀ t, Steps p.tables e below (T_p1.setTop (mkF m 38 #[.val (.int n), .val (.int x0), .val (.int x1), .val (.int x2), .val (.ref bl), .val (.ref b1), .val (.int lm1), .unset, .unset] [(.int x0), (.int x2)])) t → Steps p.tables e below S0 t := by
        intro t k
        refine pre12 t ?_
        show Steps p.tables e below (T_p1.setTop (mkF m 33 #[.val (.int n), .val (.int x0), .val (.int x1), .val (.int x2), .val (.ref bl), .val (.ref b1), .val (.int lm1), .unset, .unset] [(.int (2 : Int32)), (.int n)])) _
        refine XS.icmpNo X_p1.here hx rfl (hb hby d1_33) rfl (tlt h2).2.2.2 ?_
        show Steps p.tables e below (T_p1.setTop (mkF m 36 #[.val (.int n), .val (.int x0), .val (.int x1), .val (.int x2), .val (.ref bl), .val (.ref b1), .val (.int lm1), .unset, .unset] [])) _
        refine XS.iloadN X_p1.here hx rfl (hb hby d1_36) rfl ?_
        show Steps p.tables e below (T_p1.setTop (mkF m 37 #[.val (.int n), .val (.int x0), .val (.int x1), .val (.int x2), .val (.ref bl), .val (.ref b1), .val (.int lm1), .unset, .unset] [(.int x2)])) _
        refine XS.iloadN X_p1.here hx rfl (hb hby d1_37) rfl ?_
        exact k
      by_cases h3 : x2 = x0
      · have pre14 : ∀ t, Steps p.tables e below (T_p1.setTop (mkF m 55 #[.val (.int n), .val (.int x0), .val (.int x1), .val (.int x2), .val (.ref bl), .val (.ref b1), .val (.int lm1), .unset, .unset] [])) t → Steps p.tables e below S0 t := by
          intro t k
          refine pre13 t ?_
          show Steps p.tables e below (T_p1.setTop (mkF m 38 #[.val (.int n), .val (.int x0), .val (.int x1), .val (.int x2), .val (.ref bl), .val (.ref b1), .val (.int lm1), .unset, .unset] [(.int x0), (.int x2)])) _
          refine XS.icmpYes X_p1.here hx rfl (pc0 := 38) (pc' := 55) rfl (hb hby d1_38) rfl (teq h3).1 (by decide) (by decide) ?_
          exact k
        exact ⟨T_p1, h_p1, _, le1, lm1, X_p1, e_p1, N_p1, K_p1, V0_p1, (own_p2_y (Or.inr (Or.inl h3))), pre14⟩
      · have pre15 : ∀ t, Steps p.tables e below (T_p1.setTop (mkF m 43 #[.val (.int n), .val (.int x0), .val (.int x1), .val (.int x2), .val (.ref bl), .val (.ref b1), .val (.int lm1), .unset, .unset] [(.int x1), (.int x2)])) t → Steps p.tables e below S0 t := by
          intro t k
          refine pre13 t ?_
          show Steps p.tables e below (T_p1.setTop (mkF m 38 #[.val (.int n), .val (.int x0), .val (.int x1), .val (.int x2), .val (.ref bl), .val (.ref b1), .val (.int lm1), .unset, .unset] [(.int x0), (.int x2)])) _
          refine XS.icmpNo X_p1.here hx rfl (hb hby d1_38) rfl (feq h3).1 ?_
          show Steps p.tables e below (T_p1.setTop (mkF m 41 #[.val (.int n), .val (.int x0), .val (.int x1), .val (.int x2), .val (.ref bl), .val (.ref b1), .val (.int lm1), .unset, .unset] [])) _
          refine XS.iloadN X_p1.here hx rfl (hb hby d1_41) rfl ?_
          show Steps p.tables e below (T_p1.setTop (mkF m 42 #[.val (.int n), .val (.int x0), .val (.int x1), .val (.int x2), .val (.ref bl), .val (.ref b1), .val (.int lm1), .unset, .unset] [(.int x2)])) _
          refine XS.iloadN X_p1.here hx rfl (hb hby d1_42) rfl ?_
          exact k
        by_cases h4 : x2 = x1
        · have pre16 : ∀ t, Steps p.tables e below (T_p1.setTop (mkF m 55 #[.val (.int n), .val (.int x0), .val (.int x1), .val (.int x2), .val (.ref bl), .val (.ref b1), .val (.int lm1), .unset, .unset] [])) t → Steps p.tables e below S0 t := by
            intro t k
            refine pre15 t ?_
            show Steps p.tables e below (T_p1.setTop (mkF m 43 #[.val (.int n), .val (.int x0), .val (.int x1), .val (.int x2), .val (.ref bl), .val (.ref b1), .val (.int lm1), .unset, .unset] [(.int x1), (.int x2)])) _
            refine XS.icmpYes X_p1.here hx rfl (pc0 := 43) (pc' := 55) rfl (hb hby d1_43) rfl (teq h4).1 (by decide) (by decide) ?_
            exact k
          exact ⟨T_p1, h_p1, _, le1, lm1, X_p1, e_p1, N_p1, K_p1, V0_p1, (own_p2_y (Or.inr (Or.inr h4))), pre16⟩
        · obtain ⟨cl17, Arcl17, qcl17, Scl17, Ncl17, Hcl17, Gcl17⟩ := id V0_p1
          have hincl17 : ¬ (lm1 < 0 ∨ cl17.slots.size ≤ (lm1).toNatClampNeg) := inb_of Scl17 (own_in_e i_m1)
          obtain ⟨T18, h18, X18, e18, W18, st18⟩ := stI X_p1 hx hZ e_p1 Arcl17 (j := lm1) hincl17 (g := (mkF m 51 #[.val (.int n), .val (.int x0), .val (.int x1), .val (.int x2), .val (.ref bl), .val (.ref b1), .val (.int lm1), .unset, .unset] [(.int x2), (.int lm1), (.ref b1)])) rfl rfl (hb hby d1_51)
          have V18 := Arv.set Arcl17 qcl17 Scl17 Ncl17 Hcl17 Gcl17 rfl W18 lm1.toNatClampNeg rfl (own_lt i_m1 l_le1)
          have Vn18 : Arv Z h18 b1 k1 .int (3 : Int32) ((le1.set lm1.toNatClampNeg x2).map Value.int) (.int (0 : Int32)) := (by rw [List.map_set]; exact V18)
          have N18 := Fr.snoc X18 N_p1 gn_b1
          have K19 : Keep h0 h18 [] := K_p1.wr W18 (Or.inr sz_b1)
          have pre20 : ∀ t, Steps p.tables e below (T18.setTop (mkF m 55 #[.val (.int n), .val (.int x0), .val (.int x1), .val (.int x2), .val (.ref bl), .val (.ref b1), .val (.int (lm1 + (1 : Int32))), .unset, .unset] [])) t → Steps p.tables e below S0 t := by
            intro t k
            refine pre15 t ?_
            show Steps p.tables e below (T_p1.setTop (mkF m 43 #[.val (.int n), .val (.int x0), .val (.int x1), .val (.int x2), .val (.ref bl), .val (.ref b1), .val (.int lm1), .unset, .unset] [(.int x1), (.int x2)])) _
            refine XS.icmpNo X_p1.here hx rfl (hb hby d1_43) rfl (feq h4).1 ?_
            show Steps p.tables e below (T_p1.setTop (mkF m 46 #[.val (.int n), .val (.int x0), .val (.int x1), .val (.int x2), .val (.ref bl), .val (.ref b1), .val (.int lm1), .unset, .unset] [])) _
            refine XS.aload X_p1.here hx rfl (hb hby d1_46) rfl rfl ?_
            show Steps p.tables e below (T_p1.setTop (mkF m 48 #[.val (.int n), .val (.int x0), .val (.int x1), .val (.int x2), .val (.ref bl), .val (.ref b1), .val (.int lm1), .unset, .unset] [(.ref b1)])) _
            refine XS.iload X_p1.here hx rfl (hb hby d1_48) rfl ?_
            show Steps p.tables e below (T_p1.setTop (mkF m 50 #[.val (.int n), .val (.int x0), .val (.int x1), .val (.int x2), .val (.ref bl), .val (.ref b1), .val (.int lm1), .unset, .unset] [(.int lm1), (.ref b1)])) _
            refine XS.iloadN X_p1.here hx rfl (hb hby d1_50) rfl ?_
            show Steps p.tables e below (T_p1.setTop (mkF m 51 #[.val (.int n), .val (.int x0), .val (.int x1), .val (.int x2), .val (.ref bl), .val (.ref b1), .val (.int lm1), .unset, .unset] [(.int x2), (.int lm1), (.ref b1)])) _
            refine st18 _ ?_
            show Steps p.tables e below (T18.setTop (mkF m 52 #[.val (.int n), .val (.int x0), .val (.int x1), .val (.int x2), .val (.ref bl), .val (.ref b1), .val (.int lm1), .unset, .unset] [])) _
            refine XS.iinc X18.here hx rfl (hb hby d1_52) rfl (l' := #[.val (.int n), .val (.int x0), .val (.int x1), .val (.int x2), .val (.ref bl), .val (.ref b1), .val (.int (lm1 + (1 : Int32))), .unset, .unset]) rfl ?_
            exact k
          exact ⟨T18, h18, _, (le1.set lm1.toNatClampNeg x2), (lm1 + (1 : Int32)), X18, e18, N18, K19, Vn18, (own_p2_n h2 h3 h4), pre20⟩
    · have pre21 : ∀ t, Steps p.tables e below (T_p1.setTop (mkF m 55 #[.val (.int n), .val (.int x0), .val (.int x1), .val (.int x2), .val (.ref bl), .val (.ref b1), .val (.int lm1), .unset, .unset] [])) t → Steps p.tables e below S0 t := by
        intro t k
        refine pre12 t ?_
        show Steps p.tables e below (T_p1.setTop (mkF m 33 #[.val (.int n), .val (.int x0), .val (.int x1), .val (.int x2), .val (.ref bl), .val (.ref b1), .val (.int lm1), .unset, .unset] [(.int (2 : Int32)), (.int n)])) _
        refine XS.icmpYes X_p1.here hx rfl (pc0 := 33) (pc' := 55) rfl (hb hby d1_33) rfl (flt h2).2.2.2 (by decide) (by decide) ?_
        exact k
      exact ⟨T_p1, h_p1, _, le1, lm1, X_p1, e_p1, N_p1, K_p1, V0_p1, (own_p2_y (Or.inl h2)), pre21⟩
  have hE : own_e n x0 x1 x2 = (le2, lm2) := by rw [own_e, r_p1, r_p2]
  obtain ⟨hl3, hle, hbk⟩ := own_okE_e hE hok
  obtain ⟨T22, h22, k22, X22, e22, E22, A22, Ex22, st22⟩ := newPE X_p2 hx hZ (hw _ (List.mem_of_getElem? (i := 6) rfl)) e_p2 (g := (mkF m 56 #[.val (.int n), .val (.int x0), .val (.int x1), .val (.int x2), .val (.ref bl), .val (.ref b1), .val (.int lm2), .unset, .unset] [(.int (4 : Int32))])) rfl (hb hby d1_56) rfl (by decide) (cap := 4) (by decide) (by decide) (by decide) (by decide) (ad := "[I") rfl
  obtain ⟨b22, g22⟩ : ∃ z, z = h_p2.size := ⟨_, rfl⟩
  rw [← g22] at A22 Ex22 st22
  have gn_b22 : n0 ≤ b22 := Nat.le_trans (Nat.le_trans Z0 K_p2.1) (Nat.le_of_eq g22.symm)
  have sz_b22 : h0.size ≤ b22 := Nat.le_trans K_p2.1 (Nat.le_of_eq g22.symm)
  have K23 : Keep h0 h22 [] := K_p2.ext E22
  have lt_b22 : b22 < h22.size := A22.lt
  have V_b22 : Arv Z h22 b22 k22 .int (4 : Int32) [(.int (0 : Int32)), (.int (0 : Int32)), (.int (0 : Int32)), (.int (0 : Int32))] (.int (0 : Int32)) := (Arv.new A22 (by decide)).pad (pad_rep [] (.int (0 : Int32)) 4)
  have ne_ol : b22 ≠ bl := Ne.symm (Nat.ne_of_lt (Nat.lt_of_lt_of_le Vl.lt sz_b22))
  have ne_oe : b22 ≠ b1 := (Ne.symm (Nat.ne_of_lt (Nat.lt_of_lt_of_le V0_p2.lt (Nat.le_of_eq g22.symm))))
  have r_s0 : own_s y le2 lm2 0 = ([0, 0, 0, 0], (0 : Int32)) := rfl
  have ok_0 : own_okb y le2 lm2 0 false ([0, 0, 0, 0], (0 : Int32)) = true := by have q := hbk 0 (by decide); rw [r_s0] at q; exact q
  have pre24 : ∀ t, Steps p.tables e below (T22.setTop (mkF m 63 #[.val (.int n), .val (.int x0), .val (.int x1), .val (.int x2), .val (.ref bl), .val (.ref b1), .val (.int lm2), .val (.ref b22), .val (.int (0 : Int32))] [])) t → Steps p.tables e below S0 t := by
    intro t k
    refine pre_p2 t ?_
    show Steps p.tables e below (T_p2.setTop (mkF m 55 #[.val (.int n), .val (.int x0), .val (.int x1), .val (.int x2), .val (.ref bl), .val (.ref b1), .val (.int lm2), .unset, .unset] [])) _
    refine XS.iconst X_p2.here hx rfl (hb hby d1_55) ?_
    show Steps p.tables e below (T_p2.setTop (mkF m 56 #[.val (.int n), .val (.int x0), .val (.int x1), .val (.int x2), .val (.ref bl), .val (.ref b1), .val (.int lm2), .unset, .unset] [(.int (4 : Int32))])) _
    refine st22 _ ?_
    show Steps p.tables e below (T22.setTop (mkF m 58 #[.val (.int n), .val (.int x0), .val (.int x1), .val (.int x2), .val (.ref bl), .val (.ref b1), .val (.int lm2), .unset, .unset] [(.ref b22)])) _
    refine XS.astore X22.here hx rfl (hb hby d1_58) rfl rfl (l' := #[.val (.int n), .val (.int x0), .val (.int x1), .val (.int x2), .val (.ref bl), .val (.ref b1), .val (.int lm2), .val (.ref b22), .unset]) rfl ?_
    show Steps p.tables e below (T22.setTop (mkF m 60 #[.val (.int n), .val (.int x0), .val (.int x1), .val (.int x2), .val (.ref bl), .val (.ref b1), .val (.int lm2), .val (.ref b22), .unset] [])) _
    refine XS.iconst X22.here hx rfl (hb hby d1_60) ?_
    show Steps p.tables e below (T22.setTop (mkF m 61 #[.val (.int n), .val (.int x0), .val (.int x1), .val (.int x2), .val (.ref bl), .val (.ref b1), .val (.int lm2), .val (.ref b22), .unset] [(.int (0 : Int32))])) _
    refine XS.istore X22.here hx rfl (hb hby d1_61) rfl (l' := #[.val (.int n), .val (.int x0), .val (.int x1), .val (.int x2), .val (.ref bl), .val (.ref b1), .val (.int lm2), .val (.ref b22), .val (.int (0 : Int32))]) rfl ?_
    exact k
  obtain ⟨T_s1, h_s1, L_s1, lo1, lc1, X_s1, e_s1, N_s1, K_s1, V0_s1, V1_s1, r_s1, pre_s1⟩ : ∃ (T' : State) (h' : Heap) (L' : List Loc) (lo1 : List Int32) (lc1 : Int32), Stand p l e ({ frames := 0, cells := 2, slots := 7, locals := 0 } : Room) s m #[(.int n), (.int x0), (.int x1), (.int x2), (.ref bl)] below meth c T' L' 2 7 ∧ T'.heap = h' ∧ Fr n0 L' ∧ Keep h0 h' [] ∧ Arv Z h' b1 k1 .int (3 : Int32) (le2.map Value.int) (.int (0 : Int32)) ∧ Arv Z h' b22 k22 .int (4 : Int32) (lo1.map Value.int) (.int (0 : Int32)) ∧ own_s y le2 lm2 1 = (lo1, lc1) ∧ ∀ t, Steps p.tables e below (T'.setTop (mkF m 87 #[.val (.int n), .val (.int x0), .val (.int x1), .val (.int x2), .val (.ref bl), .val (.ref b1), .val (.int lm2), .val (.ref b22), .val (.int lc1)] [])) t → Steps p.tables e below S0 t := by
    have in_0 : own_in (le2.getD 0 0) 3 = true := own_okb_in ok_0 (own_j0 lm2)
    have f_25 := (V0_p2.ext E22)
    obtain ⟨cl26, Arcl26, qcl26, Scl26, Ncl26, Hcl26, Gcl26⟩ := id f_25
    have hincl26 : ¬ ((0 : Int32) < 0 ∨ cl26.slots.size ≤ ((0 : Int32)).toNatClampNeg) := inb_of Scl26 ⟨by decide, by decide⟩
    have hatcl26 : cl26.slots[((0 : Int32)).toNatClampNeg]? = some (.int (le2.getD 0 0)) := Hcl26.at hincl26 (own_gm le2 0)
    have f_27 := ((Vl.keep K_p2 nin0).ext E22)
    obtain ⟨cl28, Arcl28, qcl28, Scl28, Ncl28, Hcl28, Gcl28⟩ := id f_27
    have hincl28 : ¬ ((le2.getD 0 0) < 0 ∨ cl28.slots.size ≤ ((le2.getD 0 0)).toNatClampNeg) := inb_of Scl28 (own_in_e in_0)
    have hatcl28 : cl28.slots[((le2.getD 0 0)).toNatClampNeg]? = some (.int (own_late y (le2.getD 0 0))) := Hcl28.at hincl28 (own_gm y _)
    have pre29 : ∀ t, Steps p.tables e below (T22.setTop (mkF m 70 #[.val (.int n), .val (.int x0), .val (.int x1), .val (.int x2), .val (.ref bl), .val (.ref b1), .val (.int lm2), .val (.ref b22), .val (.int (0 : Int32))] [(.int (own_late y (le2.getD 0 0)))])) t → Steps p.tables e below S0 t := by
      intro t k
      refine pre24 t ?_
      show Steps p.tables e below (T22.setTop (mkF m 63 #[.val (.int n), .val (.int x0), .val (.int x1), .val (.int x2), .val (.ref bl), .val (.ref b1), .val (.int lm2), .val (.ref b22), .val (.int (0 : Int32))] [])) _
      refine XS.aload X22.here hx rfl (hb hby d1_63) rfl rfl ?_
      show Steps p.tables e below (T22.setTop (mkF m 65 #[.val (.int n), .val (.int x0), .val (.int x1), .val (.int x2), .val (.ref bl), .val (.ref b1), .val (.int lm2), .val (.ref b22), .val (.int (0 : Int32))] [(.ref bl)])) _
      refine XS.aload X22.here hx rfl (hb hby d1_65) rfl rfl ?_
      show Steps p.tables e below (T22.setTop (mkF m 67 #[.val (.int n), .val (.int x0), .val (.int x1), .val (.int x2), .val (.ref bl), .val (.ref b1), .val (.int lm2), .val (.ref b22), .val (.int (0 : Int32))] [(.ref b1), (.ref bl)])) _
      refine XS.iconst X22.here hx rfl (hb hby d1_67) ?_
      show Steps p.tables e below (T22.setTop (mkF m 68 #[.val (.int n), .val (.int x0), .val (.int x1), .val (.int x2), .val (.ref bl), .val (.ref b1), .val (.int lm2), .val (.ref b22), .val (.int (0 : Int32))] [(.int (0 : Int32)), (.ref b1), (.ref bl)])) _
      refine X22.iaload hx (j := (0 : Int32)) (v := (.int (le2.getD 0 0))) (by rw [e22]; exact Arcl26.1) (State.isArrayOf_alike hZ.alike Arcl26.2.1) Arcl26.2.2 hincl26 hatcl26 (g := (mkF m 68 #[.val (.int n), .val (.int x0), .val (.int x1), .val (.int x2), .val (.ref bl), .val (.ref b1), .val (.int lm2), .val (.ref b22), .val (.int (0 : Int32))] [(.int (0 : Int32)), (.ref b1), (.ref bl)])) rfl rfl (hb hby d1_68) _ ?_
      show Steps p.tables e below (T22.setTop (mkF m 69 #[.val (.int n), .val (.int x0), .val (.int x1), .val (.int x2), .val (.ref bl), .val (.ref b1), .val (.int lm2), .val (.ref b22), .val (.int (0 : Int32))] [(.int (le2.getD 0 0)), (.ref bl)])) _
      refine X22.baloadBooleans hx (j := (le2.getD 0 0)) (v := (.int (own_late y (le2.getD 0 0)))) (by rw [e22]; exact Arcl28.1) (State.isArrayOf_alike hZ.alike Arcl28.2.1) Arcl28.2.2 hincl28 hatcl28 (g := (mkF m 69 #[.val (.int n), .val (.int x0), .val (.int x1), .val (.int x2), .val (.ref bl), .val (.ref b1), .val (.int lm2), .val (.ref b22), .val (.int (0 : Int32))] [(.int (le2.getD 0 0)), (.ref bl)])) rfl rfl (hb hby d1_69) _ ?_
      exact k
    by_cases hl : own_late y (le2.getD 0 0) = (0 : Int32)
    · have go_0 : own_go y le2 lm2 0 false = true := own_go_f (own_j0 lm2) hl
      obtain ⟨cl30, Arcl30, qcl30, Scl30, Ncl30, Hcl30, Gcl30⟩ := id f_25
      have hincl30 : ¬ ((0 : Int32) < 0 ∨ cl30.slots.size ≤ ((0 : Int32)).toNatClampNeg) := inb_of Scl30 ⟨by decide, by decide⟩
      have hatcl30 : cl30.slots[((0 : Int32)).toNatClampNeg]? = some (.int (le2.getD 0 0)) := Hcl30.at hincl30 (own_gm le2 0)
      obtain ⟨cl31, Arcl31, qcl31, Scl31, Ncl31, Hcl31, Gcl31⟩ := id V_b22
      have hincl31 : ¬ (((1 : Int32) + (0 : Int32)) < 0 ∨ cl31.slots.size ≤ (((1 : Int32) + (0 : Int32))).toNatClampNeg) := inb_of Scl31 (own_in_e (own_okb_push ok_0 go_0))
      obtain ⟨T32, h32, X32, e32, W32, st32⟩ := stI X22 hx hZ e22 Arcl31 (j := ((1 : Int32) + (0 : Int32))) hincl31 (g := (mkF m 83 #[.val (.int n), .val (.int x0), .val (.int x1), .val (.int x2), .val (.ref bl), .val (.ref b1), .val (.int lm2), .val (.ref b22), .val (.int (0 : Int32))] [(.int (le2.getD 0 0)), (.int ((1 : Int32) + (0 : Int32))), (.ref b22)])) rfl rfl (hb hby d1_83)
      have V32 := Arv.set Arcl31 qcl31 Scl31 Ncl31 Hcl31 Gcl31 rfl W32 ((1 : Int32) + (0 : Int32)).toNatClampNeg rfl (own_lt (own_okb_push ok_0 go_0) (own_okb_len ok_0))
      have Vn32 : Arv Z h32 b22 k22 .int (4 : Int32) ((List.set [0, 0, 0, 0] ((1 : Int32) + (0 : Int32)).toNatClampNeg (le2.getD 0 0)).map Value.int) (.int (0 : Int32)) := (by rw [List.map_set]; exact V32)
      have N32 := Fr.snoc X32 N_p2 gn_b22
      have K33 : Keep h0 h32 [] := K23.wr W32 (Or.inr sz_b22)
      have f_34 := (f_25.other W32 (Ne.symm ne_oe))
      have pre35 : ∀ t, Steps p.tables e below (T32.setTop (mkF m 87 #[.val (.int n), .val (.int x0), .val (.int x1), .val (.int x2), .val (.ref bl), .val (.ref b1), .val (.int lm2), .val (.ref b22), .val (.int ((0 : Int32) + (1 : Int32)))] [])) t → Steps p.tables e below S0 t := by
        intro t k
        refine pre29 t ?_
        show Steps p.tables e below (T22.setTop (mkF m 70 #[.val (.int n), .val (.int x0), .val (.int x1), .val (.int x2), .val (.ref bl), .val (.ref b1), .val (.int lm2), .val (.ref b22), .val (.int (0 : Int32))] [(.int (own_late y (le2.getD 0 0)))])) _
        refine XS.ifNo X22.here hx rfl (hb hby d1_70) rfl ((if0 _ _).trans (teq hl).2) ?_
        show Steps p.tables e below (T22.setTop (mkF m 73 #[.val (.int n), .val (.int x0), .val (.int x1), .val (.int x2), .val (.ref bl), .val (.ref b1), .val (.int lm2), .val (.ref b22), .val (.int (0 : Int32))] [])) _
        refine XS.aload X22.here hx rfl (hb hby d1_73) rfl rfl ?_
        show Steps p.tables e below (T22.setTop (mkF m 75 #[.val (.int n), .val (.int x0), .val (.int x1), .val (.int x2), .val (.ref bl), .val (.ref b1), .val (.int lm2), .val (.ref b22), .val (.int (0 : Int32))] [(.ref b22)])) _
        refine XS.iconst X22.here hx rfl (hb hby d1_75) ?_
        show Steps p.tables e below (T22.setTop (mkF m 76 #[.val (.int n), .val (.int x0), .val (.int x1), .val (.int x2), .val (.ref bl), .val (.ref b1), .val (.int lm2), .val (.ref b22), .val (.int (0 : Int32))] [(.int (1 : Int32)), (.ref b22)])) _
        refine XS.iload X22.here hx rfl (hb hby d1_76) rfl ?_
        show Steps p.tables e below (T22.setTop (mkF m 78 #[.val (.int n), .val (.int x0), .val (.int x1), .val (.int x2), .val (.ref bl), .val (.ref b1), .val (.int lm2), .val (.ref b22), .val (.int (0 : Int32))] [(.int (0 : Int32)), (.int (1 : Int32)), (.ref b22)])) _
        refine XS.iadd X22.here hx rfl (hb hby d1_78) rfl ?_
        show Steps p.tables e below (T22.setTop (mkF m 79 #[.val (.int n), .val (.int x0), .val (.int x1), .val (.int x2), .val (.ref bl), .val (.ref b1), .val (.int lm2), .val (.ref b22), .val (.int (0 : Int32))] [(.int ((1 : Int32) + (0 : Int32))), (.ref b22)])) _
        refine XS.aload X22.here hx rfl (hb hby d1_79) rfl rfl ?_
        show Steps p.tables e below (T22.setTop (mkF m 81 #[.val (.int n), .val (.int x0), .val (.int x1), .val (.int x2), .val (.ref bl), .val (.ref b1), .val (.int lm2), .val (.ref b22), .val (.int (0 : Int32))] [(.ref b1), (.int ((1 : Int32) + (0 : Int32))), (.ref b22)])) _
        refine XS.iconst X22.here hx rfl (hb hby d1_81) ?_
        show Steps p.tables e below (T22.setTop (mkF m 82 #[.val (.int n), .val (.int x0), .val (.int x1), .val (.int x2), .val (.ref bl), .val (.ref b1), .val (.int lm2), .val (.ref b22), .val (.int (0 : Int32))] [(.int (0 : Int32)), (.ref b1), (.int ((1 : Int32) + (0 : Int32))), (.ref b22)])) _
        refine X22.iaload hx (j := (0 : Int32)) (v := (.int (le2.getD 0 0))) (by rw [e22]; exact Arcl30.1) (State.isArrayOf_alike hZ.alike Arcl30.2.1) Arcl30.2.2 hincl30 hatcl30 (g := (mkF m 82 #[.val (.int n), .val (.int x0), .val (.int x1), .val (.int x2), .val (.ref bl), .val (.ref b1), .val (.int lm2), .val (.ref b22), .val (.int (0 : Int32))] [(.int (0 : Int32)), (.ref b1), (.int ((1 : Int32) + (0 : Int32))), (.ref b22)])) rfl rfl (hb hby d1_82) _ ?_
        show Steps p.tables e below (T22.setTop (mkF m 83 #[.val (.int n), .val (.int x0), .val (.int x1), .val (.int x2), .val (.ref bl), .val (.ref b1), .val (.int lm2), .val (.ref b22), .val (.int (0 : Int32))] [(.int (le2.getD 0 0)), (.int ((1 : Int32) + (0 : Int32))), (.ref b22)])) _
        refine st32 _ ?_
        show Steps p.tables e below (T32.setTop (mkF m 84 #[.val (.int n), .val (.int x0), .val (.int x1), .val (.int x2), .val (.ref bl), .val (.ref b1), .val (.int lm2), .val (.ref b22), .val (.int (0 : Int32))] [])) _
        refine XS.iinc X32.here hx rfl (hb hby d1_84) rfl (l' := #[.val (.int n), .val (.int x0), .val (.int x1), .val (.int x2), .val (.ref bl), .val (.ref b1), .val (.int lm2), .val (.ref b22), .val (.int ((0 : Int32) + (1 : Int32)))]) rfl ?_
        exact k
      exact ⟨T32, h32, _, (List.set [0, 0, 0, 0] ((1 : Int32) + (0 : Int32)).toNatClampNeg (le2.getD 0 0)), ((0 : Int32) + (1 : Int32)), X32, e32, N32, K33, f_34, Vn32, (own_s_y r_s0 go_0), pre35⟩
    · have pre36 : ∀ t, Steps p.tables e below (T22.setTop (mkF m 87 #[.val (.int n), .val (.int x0), .val (.int x1), .val (.int x2), .val (.ref bl), .val (.ref b1), .val (.int lm2), .val (.ref b22), .val (.int (0 : Int32))] [])) t → Steps p.tables e below S0 t := by
        intro t k
        refine pre29 t ?_
        show Steps p.tables e below (T22.setTop (mkF m 70 #[.val (.int n), .val (.int x0), .val (.int x1), .val (.int x2), .val (.ref bl), .val (.ref b1), .val (.int lm2), .val (.ref b22), .val (.int (0 : Int32))] [(.int (own_late y (le2.getD 0 0)))])) _
        refine XS.ifYes X22.here hx rfl (pc0 := 70) (pc' := 87) rfl (hb hby d1_70) rfl ((if0 _ _).trans (feq hl).2) (by decide) (by decide) ?_
        exact k
      exact ⟨T22, h22, _, [0, 0, 0, 0], (0 : Int32), X22, e22, N_p2, K23, f_25, V_b22, (own_s_n r_s0 (own_go_f' hl)), pre36⟩
  have ok_1 : own_okb y le2 lm2 1 false (lo1, lc1) = true := by have q := hbk 1 (by decide); rw [r_s1] at q; exact q
  obtain ⟨T_s2, h_s2, L_s2, lo2, lc2, X_s2, e_s2, N_s2, K_s2, V0_s2, V1_s2, r_s2, pre_s2⟩ : ∃ (T' : State) (h' : Heap) (L' : List Loc) (lo2 : List Int32) (lc2 : Int32), Stand p l e ({ frames := 0, cells := 2, slots := 7, locals := 0 } : Room) s m #[(.int n), (.int x0), (.int x1), (.int x2), (.ref bl)] below meth c T' L' 2 7 ∧ T'.heap = h' ∧ Fr n0 L' ∧ Keep h0 h' [] ∧ Arv Z h' b1 k1 .int (3 : Int32) (le2.map Value.int) (.int (0 : Int32)) ∧ Arv Z h' b22 k22 .int (4 : Int32) (lo2.map Value.int) (.int (0 : Int32)) ∧ own_s y le2 lm2 2 = (lo2, lc2) ∧ ∀ t, Steps p.tables e below (T'.setTop (mkF m 117 #[.val (.int n), .val (.int x0), .val (.int x1), .val (.int x2), .val (.ref bl), .val (.ref b1), .val (.int lm2), .val (.ref b22), .val (.int lc2)] [])) t → Steps p.tables e below S0 t := by
    have pre37 : ∀ t, Steps p.tables e below (T_s1.setTop (mkF m 90 #[.val (.int n), .val (.int x0), .val (.int x1), .val (.int x2), .val (.ref bl), .val (.ref b1), .val (.int lm2), .val (.ref b22), .val (.int lc1)] [(.int (1 : Int32)), (.int lm2)])) t → Steps p.tables e below S0 t := by
      intro t k
      refine pre_s1 t ?_
      show Steps p.tables e below (T_s1.setTop (mkF m 87 #[.val (.int n), .val (.int x0), .val (.int x1), .val (.int x2), .val (.ref bl), .val (.ref b1), .val (.int lm2), .val (.ref b22), .val (.int lc1)] [])) _
      refine XS.iload X_s1.here hx rfl (hb hby d1_87) rfl ?_
      show Steps p.tables e below (T_s1.setTop (mkF m 89 #[.val (.int n), .val (.int x0), .val (.int x1), .val (.int x2), .val (.ref bl), .val (.ref b1), .val (.int lm2), .val (.ref b22), .val (.int lc1)] [(.int lm2)])) _
      refine XS.iconst X_s1.here hx rfl (hb hby d1_89) ?_
      exact k
    by_cases hm : (1 : Int32) < lm2
    · have in_1 : own_in (le2.getD 1 0) 3 = true := own_okb_in ok_1 (own_jm hm)
      obtain ⟨cl38, Arcl38, qcl38, Scl38, Ncl38, Hcl38, Gcl38⟩ := id V0_s1
      have hincl38 : ¬ ((1 : Int32) < 0 ∨ cl38.slots.size ≤ ((1 : Int32)).toNatClampNeg) := inb_of Scl38 ⟨by decide, by decide⟩
      have hatcl38 : cl38.slots[((1 : Int32)).toNatClampNeg]? = some (.int (le2.getD 1 0)) := Hcl38.at hincl38 (own_gm le2 1)
      have f_39 := (Vl.keep K_s1 nin0)
      obtain ⟨cl40, Arcl40, qcl40, Scl40, Ncl40, Hcl40, Gcl40⟩ := id f_39
      have hincl40 : ¬ ((le2.getD 1 0) < 0 ∨ cl40.slots.size ≤ ((le2.getD 1 0)).toNatClampNeg) := inb_of Scl40 (own_in_e in_1)
      have hatcl40 : cl40.slots[((le2.getD 1 0)).toNatClampNeg]? = some (.int (own_late y (le2.getD 1 0))) := Hcl40.at hincl40 (own_gm y _)
      have pre41 : ∀ t, Steps p.tables e below (T_s1.setTop (mkF m 100 #[.val (.int n), .val (.int x0), .val (.int x1), .val (.int x2), .val (.ref bl), .val (.ref b1), .val (.int lm2), .val (.ref b22), .val (.int lc1)] [(.int (own_late y (le2.getD 1 0)))])) t → Steps p.tables e below S0 t := by
        intro t k
        refine pre37 t ?_
        show Steps p.tables e below (T_s1.setTop (mkF m 90 #[.val (.int n), .val (.int x0), .val (.int x1), .val (.int x2), .val (.ref bl), .val (.ref b1), .val (.int lm2), .val (.ref b22), .val (.int lc1)] [(.int (1 : Int32)), (.int lm2)])) _
        refine XS.icmpNo X_s1.here hx rfl (hb hby d1_90) rfl (tlt hm).2.2.2 ?_
        show Steps p.tables e below (T_s1.setTop (mkF m 93 #[.val (.int n), .val (.int x0), .val (.int x1), .val (.int x2), .val (.ref bl), .val (.ref b1), .val (.int lm2), .val (.ref b22), .val (.int lc1)] [])) _
        refine XS.aload X_s1.here hx rfl (hb hby d1_93) rfl rfl ?_
        show Steps p.tables e below (T_s1.setTop (mkF m 95 #[.val (.int n), .val (.int x0), .val (.int x1), .val (.int x2), .val (.ref bl), .val (.ref b1), .val (.int lm2), .val (.ref b22), .val (.int lc1)] [(.ref bl)])) _
        refine XS.aload X_s1.here hx rfl (hb hby d1_95) rfl rfl ?_
        show Steps p.tables e below (T_s1.setTop (mkF m 97 #[.val (.int n), .val (.int x0), .val (.int x1), .val (.int x2), .val (.ref bl), .val (.ref b1), .val (.int lm2), .val (.ref b22), .val (.int lc1)] [(.ref b1), (.ref bl)])) _
        refine XS.iconst X_s1.here hx rfl (hb hby d1_97) ?_
        show Steps p.tables e below (T_s1.setTop (mkF m 98 #[.val (.int n), .val (.int x0), .val (.int x1), .val (.int x2), .val (.ref bl), .val (.ref b1), .val (.int lm2), .val (.ref b22), .val (.int lc1)] [(.int (1 : Int32)), (.ref b1), (.ref bl)])) _
        refine X_s1.iaload hx (j := (1 : Int32)) (v := (.int (le2.getD 1 0))) (by rw [e_s1]; exact Arcl38.1) (State.isArrayOf_alike hZ.alike Arcl38.2.1) Arcl38.2.2 hincl38 hatcl38 (g := (mkF m 98 #[.val (.int n), .val (.int x0), .val (.int x1), .val (.int x2), .val (.ref bl), .val (.ref b1), .val (.int lm2), .val (.ref b22), .val (.int lc1)] [(.int (1 : Int32)), (.ref b1), (.ref bl)])) rfl rfl (hb hby d1_98) _ ?_
        show Steps p.tables e below (T_s1.setTop (mkF m 99 #[.val (.int n), .val (.int x0), .val (.int x1), .val (.int x2), .val (.ref bl), .val (.ref b1), .val (.int lm2), .val (.ref b22), .val (.int lc1)] [(.int (le2.getD 1 0)), (.ref bl)])) _
        refine X_s1.baloadBooleans hx (j := (le2.getD 1 0)) (v := (.int (own_late y (le2.getD 1 0)))) (by rw [e_s1]; exact Arcl40.1) (State.isArrayOf_alike hZ.alike Arcl40.2.1) Arcl40.2.2 hincl40 hatcl40 (g := (mkF m 99 #[.val (.int n), .val (.int x0), .val (.int x1), .val (.int x2), .val (.ref bl), .val (.ref b1), .val (.int lm2), .val (.ref b22), .val (.int lc1)] [(.int (le2.getD 1 0)), (.ref bl)])) rfl rfl (hb hby d1_99) _ ?_
        exact k
      by_cases hl : own_late y (le2.getD 1 0) = (0 : Int32)
      · have go_1 : own_go y le2 lm2 1 false = true := own_go_f (own_jm hm) hl
        obtain ⟨cl42, Arcl42, qcl42, Scl42, Ncl42, Hcl42, Gcl42⟩ := id V0_s1
        have hincl42 : ¬ ((1 : Int32) < 0 ∨ cl42.slots.size ≤ ((1 : Int32)).toNatClampNeg) := inb_of Scl42 ⟨by decide, by decide⟩
        have hatcl42 : cl42.slots[((1 : Int32)).toNatClampNeg]? = some (.int (le2.getD 1 0)) := Hcl42.at hincl42 (own_gm le2 1)
        obtain ⟨cl43, Arcl43, qcl43, Scl43, Ncl43, Hcl43, Gcl43⟩ := id V1_s1
        have hincl43 : ¬ (((1 : Int32) + lc1) < 0 ∨ cl43.slots.size ≤ (((1 : Int32) + lc1)).toNatClampNeg) := inb_of Scl43 (own_in_e (own_okb_push ok_1 go_1))
        obtain ⟨T44, h44, X44, e44, W44, st44⟩ := stI X_s1 hx hZ e_s1 Arcl43 (j := ((1 : Int32) + lc1)) hincl43 (g := (mkF m 113 #[.val (.int n), .val (.int x0), .val (.int x1), .val (.int x2), .val (.ref bl), .val (.ref b1), .val (.int lm2), .val (.ref b22), .val (.int lc1)] [(.int (le2.getD 1 0)), (.int ((1 : Int32) + lc1)), (.ref b22)])) rfl rfl (hb hby d1_113)
        have V44 := Arv.set Arcl43 qcl43 Scl43 Ncl43 Hcl43 Gcl43 rfl W44 ((1 : Int32) + lc1).toNatClampNeg rfl (own_lt (own_okb_push ok_1 go_1) (own_okb_len ok_1))
        have Vn44 : Arv Z h44 b22 k22 .int (4 : Int32) ((List.set lo1 ((1 : Int32) + lc1).toNatClampNeg (le2.getD 1 0)).map Value.int) (.int (0 : Int32)) := (by rw [List.map_set]; exact V44)
        have N44 := Fr.snoc X44 N_s1 gn_b22
        have K45 : Keep h0 h44 [] := K_s1.wr W44 (Or.inr sz_b22)
        have f_46 := (V0_s1.other W44 (Ne.symm ne_oe))
        have pre47 : ∀ t, Steps p.tables e below (T44.setTop (mkF m 117 #[.val (.int n), .val (.int x0), .val (.int x1), .val (.int x2), .val (.ref bl), .val (.ref b1), .val (.int lm2), .val (.ref b22), .val (.int (lc1 + (1 : Int32)))] [])) t → Steps p.tables e below S0 t := by
          intro t k
          refine pre41 t ?_
          show Steps p.tables e below (T_s1.setTop (mkF m 100 #[.val (.int n), .val (.int x0), .val (.int x1), .val (.int x2), .val (.ref bl), .val (.ref b1), .val (.int lm2), .val (.ref b22), .val (.int lc1)] [(.int (own_late y (le2.getD 1 0)))])) _
          refine XS.ifNo X_s1.here hx rfl (hb hby d1_100) rfl ((if0 _ _).trans (teq hl).2) ?_
          show Steps p.tables e below (T_s1.setTop (mkF m 103 #[.val (.int n), .val (.int x0), .val (.int x1), .val (.int x2), .val (.ref bl), .val (.ref b1), .val (.int lm2), .val (.ref b22), .val (.int lc1)] [])) _
          refine XS.aload X_s1.here hx rfl (hb hby d1_103) rfl rfl ?_
          show Steps p.tables e below (T_s1.setTop (mkF m 105 #[.val (.int n), .val (.int x0), .val (.int x1), .val (.int x2), .val (.ref bl), .val (.ref b1), .val (.int lm2), .val (.ref b22), .val (.int lc1)] [(.ref b22)])) _
          refine XS.iconst X_s1.here hx rfl (hb hby d1_105) ?_
          show Steps p.tables e below (T_s1.setTop (mkF m 106 #[.val (.int n), .val (.int x0), .val (.int x1), .val (.int x2), .val (.ref bl), .val (.ref b1), .val (.int lm2), .val (.ref b22), .val (.int lc1)] [(.int (1 : Int32)), (.ref b22)])) _
          refine XS.iload X_s1.here hx rfl (hb hby d1_106) rfl ?_
          show Steps p.tables e below (T_s1.setTop (mkF m 108 #[.val (.int n), .val (.int x0), .val (.int x1), .val (.int x2), .val (.ref bl), .val (.ref b1), .val (.int lm2), .val (.ref b22), .val (.int lc1)] [(.int lc1), (.int (1 : Int32)), (.ref b22)])) _
          refine XS.iadd X_s1.here hx rfl (hb hby d1_108) rfl ?_
          show Steps p.tables e below (T_s1.setTop (mkF m 109 #[.val (.int n), .val (.int x0), .val (.int x1), .val (.int x2), .val (.ref bl), .val (.ref b1), .val (.int lm2), .val (.ref b22), .val (.int lc1)] [(.int ((1 : Int32) + lc1)), (.ref b22)])) _
          refine XS.aload X_s1.here hx rfl (hb hby d1_109) rfl rfl ?_
          show Steps p.tables e below (T_s1.setTop (mkF m 111 #[.val (.int n), .val (.int x0), .val (.int x1), .val (.int x2), .val (.ref bl), .val (.ref b1), .val (.int lm2), .val (.ref b22), .val (.int lc1)] [(.ref b1), (.int ((1 : Int32) + lc1)), (.ref b22)])) _
          refine XS.iconst X_s1.here hx rfl (hb hby d1_111) ?_
          show Steps p.tables e below (T_s1.setTop (mkF m 112 #[.val (.int n), .val (.int x0), .val (.int x1), .val (.int x2), .val (.ref bl), .val (.ref b1), .val (.int lm2), .val (.ref b22), .val (.int lc1)] [(.int (1 : Int32)), (.ref b1), (.int ((1 : Int32) + lc1)), (.ref b22)])) _
          refine X_s1.iaload hx (j := (1 : Int32)) (v := (.int (le2.getD 1 0))) (by rw [e_s1]; exact Arcl42.1) (State.isArrayOf_alike hZ.alike Arcl42.2.1) Arcl42.2.2 hincl42 hatcl42 (g := (mkF m 112 #[.val (.int n), .val (.int x0), .val (.int x1), .val (.int x2), .val (.ref bl), .val (.ref b1), .val (.int lm2), .val (.ref b22), .val (.int lc1)] [(.int (1 : Int32)), (.ref b1), (.int ((1 : Int32) + lc1)), (.ref b22)])) rfl rfl (hb hby d1_112) _ ?_
          show Steps p.tables e below (T_s1.setTop (mkF m 113 #[.val (.int n), .val (.int x0), .val (.int x1), .val (.int x2), .val (.ref bl), .val (.ref b1), .val (.int lm2), .val (.ref b22), .val (.int lc1)] [(.int (le2.getD 1 0)), (.int ((1 : Int32) + lc1)), (.ref b22)])) _
          refine st44 _ ?_
          show Steps p.tables e below (T44.setTop (mkF m 114 #[.val (.int n), .val (.int x0), .val (.int x1), .val (.int x2), .val (.ref bl), .val (.ref b1), .val (.int lm2), .val (.ref b22), .val (.int lc1)] [])) _
          refine XS.iinc X44.here hx rfl (hb hby d1_114) rfl (l' := #[.val (.int n), .val (.int x0), .val (.int x1), .val (.int x2), .val (.ref bl), .val (.ref b1), .val (.int lm2), .val (.ref b22), .val (.int (lc1 + (1 : Int32)))]) rfl ?_
          exact k
        exact ⟨T44, h44, _, (List.set lo1 ((1 : Int32) + lc1).toNatClampNeg (le2.getD 1 0)), (lc1 + (1 : Int32)), X44, e44, N44, K45, f_46, Vn44, (own_s_y r_s1 go_1), pre47⟩
      · have pre48 : ∀ t, Steps p.tables e below (T_s1.setTop (mkF m 117 #[.val (.int n), .val (.int x0), .val (.int x1), .val (.int x2), .val (.ref bl), .val (.ref b1), .val (.int lm2), .val (.ref b22), .val (.int lc1)] [])) t → Steps p.tables e below S0 t := by
          intro t k
          refine pre41 t ?_
          show Steps p.tables e below (T_s1.setTop (mkF m 100 #[.val (.int n), .val (.int x0), .val (.int x1), .val (.int x2), .val (.ref bl), .val (.ref b1), .val (.int lm2), .val (.ref b22), .val (.int lc1)] [(.int (own_late y (le2.getD 1 0)))])) _
          refine XS.ifYes X_s1.here hx rfl (pc0 := 100) (pc' := 117) rfl (hb hby d1_100) rfl ((if0 _ _).trans (feq hl).2) (by decide) (by decide) ?_
          exact k
        exact ⟨T_s1, h_s1, _, lo1, lc1, X_s1, e_s1, N_s1, K_s1, V0_s1, V1_s1, (own_s_n r_s1 (own_go_f' hl)), pre48⟩
    · have pre49 : ∀ t, Steps p.tables e below (T_s1.setTop (mkF m 117 #[.val (.int n), .val (.int x0), .val (.int x1), .val (.int x2), .val (.ref bl), .val (.ref b1), .val (.int lm2), .val (.ref b22), .val (.int lc1)] [])) t → Steps p.tables e below S0 t := by
        intro t k
        refine pre37 t ?_
        show Steps p.tables e below (T_s1.setTop (mkF m 90 #[.val (.int n), .val (.int x0), .val (.int x1), .val (.int x2), .val (.ref bl), .val (.ref b1), .val (.int lm2), .val (.ref b22), .val (.int lc1)] [(.int (1 : Int32)), (.int lm2)])) _
        refine XS.icmpYes X_s1.here hx rfl (pc0 := 90) (pc' := 117) rfl (hb hby d1_90) rfl (flt hm).2.2.2 (by decide) (by decide) ?_
        exact k
      exact ⟨T_s1, h_s1, _, lo1, lc1, X_s1, e_s1, N_s1, K_s1, V0_s1, V1_s1, (own_s_n r_s1 (own_go_m (by decide) hm)), pre49⟩
  have ok_2 : own_okb y le2 lm2 2 false (lo2, lc2) = true := by have q := hbk 2 (by decide); rw [r_s2] at q; exact q
  obtain ⟨T_s3, h_s3, L_s3, lo3, lc3, X_s3, e_s3, N_s3, K_s3, V0_s3, V1_s3, r_s3, pre_s3⟩ : ∃ (T' : State) (h' : Heap) (L' : List Loc) (lo3 : List Int32) (lc3 : Int32), Stand p l e ({ frames := 0, cells := 2, slots := 7, locals := 0 } : Room) s m #[(.int n), (.int x0), (.int x1), (.int x2), (.ref bl)] below meth c T' L' 2 7 ∧ T'.heap = h' ∧ Fr n0 L' ∧ Keep h0 h' [] ∧ Arv Z h' b1 k1 .int (3 : Int32) (le2.map Value.int) (.int (0 : Int32)) ∧ Arv Z h' b22 k22 .int (4 : Int32) (lo3.map Value.int) (.int (0 : Int32)) ∧ own_s y le2 lm2 3 = (lo3, lc3) ∧ ∀ t, Steps p.tables e below (T'.setTop (mkF m 147 #[.val (.int n), .val (.int x0), .val (.int x1), .val (.int x2), .val (.ref bl), .val (.ref b1), .val (.int lm2), .val (.ref b22), .val (.int lc3)] [])) t → Steps p.tables e below S0 t := by
    have pre50 : ∀ t, Steps p.tables e below (T_s2.setTop (mkF m 120 #[.val (.int n), .val (.int x0), .val (.int x1), .val (.int x2), .val (.ref bl), .val (.ref b1), .val (.int lm2), .val (.ref b22), .val (.int lc2)] [(.int (2 : Int32)), (.int lm2)])) t → Steps p.tables e below S0 t := by
      intro t k
      refine pre_s2 t ?_
      show Steps p.tables e below (T_s2.setTop (mkF m 117 #[.val (.int n), .val (.int x0), .val (.int x1), .val (.int x2), .val (.ref bl), .val (.ref b1), .val (.int lm2), .val (.ref b22), .val (.int lc2)] [])) _
      refine XS.iload X_s2.here hx rfl (hb hby d1_117) rfl ?_
      show Steps p.tables e below (T_s2.setTop (mkF m 119 #[.val (.int n), .val (.int x0), .val (.int x1), .val (.int x2), .val (.ref bl), .val (.ref b1), .val (.int lm2), .val (.ref b22), .val (.int lc2)] [(.int lm2)])) _
      refine XS.iconst X_s2.here hx rfl (hb hby d1_119) ?_
      exact k
    by_cases hm : (2 : Int32) < lm2
    · have in_2 : own_in (le2.getD 2 0) 3 = true := own_okb_in ok_2 (own_jm hm)
      obtain ⟨cl51, Arcl51, qcl51, Scl51, Ncl51, Hcl51, Gcl51⟩ := id V0_s2
      have hincl51 : ¬ ((2 : Int32) < 0 ∨ cl51.slots.size ≤ ((2 : Int32)).toNatClampNeg) := inb_of Scl51 ⟨by decide, by decide⟩
      have hatcl51 : cl51.slots[((2 : Int32)).toNatClampNeg]? = some (.int (le2.getD 2 0)) := Hcl51.at hincl51 (own_gm le2 2)
      have f_52 := (Vl.keep K_s2 nin0)
      obtain ⟨cl53, Arcl53, qcl53, Scl53, Ncl53, Hcl53, Gcl53⟩ := id f_52
      have hincl53 : ¬ ((le2.getD 2 0) < 0 ∨ cl53.slots.size ≤ ((le2.getD 2 0)).toNatClampNeg) := inb_of Scl53 (own_in_e in_2)
      have hatcl53 : cl53.slots[((le2.getD 2 0)).toNatClampNeg]? = some (.int (own_late y (le2.getD 2 0))) := Hcl53.at hincl53 (own_gm y _)
      have pre54 : ∀ t, Steps p.tables e below (T_s2.setTop (mkF m 130 #[.val (.int n), .val (.int x0), .val (.int x1), .val (.int x2), .val (.ref bl), .val (.ref b1), .val (.int lm2), .val (.ref b22), .val (.int lc2)] [(.int (own_late y (le2.getD 2 0)))])) t → Steps p.tables e below S0 t := by
        intro t k
        refine pre50 t ?_
        show Steps p.tables e below (T_s2.setTop (mkF m 120 #[.val (.int n), .val (.int x0), .val (.int x1), .val (.int x2), .val (.ref bl), .val (.ref b1), .val (.int lm2), .val (.ref b22), .val (.int lc2)] [(.int (2 : Int32)), (.int lm2)])) _
        refine XS.icmpNo X_s2.here hx rfl (hb hby d1_120) rfl (tlt hm).2.2.2 ?_
        show Steps p.tables e below (T_s2.setTop (mkF m 123 #[.val (.int n), .val (.int x0), .val (.int x1), .val (.int x2), .val (.ref bl), .val (.ref b1), .val (.int lm2), .val (.ref b22), .val (.int lc2)] [])) _
        refine XS.aload X_s2.here hx rfl (hb hby d1_123) rfl rfl ?_
        show Steps p.tables e below (T_s2.setTop (mkF m 125 #[.val (.int n), .val (.int x0), .val (.int x1), .val (.int x2), .val (.ref bl), .val (.ref b1), .val (.int lm2), .val (.ref b22), .val (.int lc2)] [(.ref bl)])) _
        refine XS.aload X_s2.here hx rfl (hb hby d1_125) rfl rfl ?_
        show Steps p.tables e below (T_s2.setTop (mkF m 127 #[.val (.int n), .val (.int x0), .val (.int x1), .val (.int x2), .val (.ref bl), .val (.ref b1), .val (.int lm2), .val (.ref b22), .val (.int lc2)] [(.ref b1), (.ref bl)])) _
        refine XS.iconst X_s2.here hx rfl (hb hby d1_127) ?_
        show Steps p.tables e below (T_s2.setTop (mkF m 128 #[.val (.int n), .val (.int x0), .val (.int x1), .val (.int x2), .val (.ref bl), .val (.ref b1), .val (.int lm2), .val (.ref b22), .val (.int lc2)] [(.int (2 : Int32)), (.ref b1), (.ref bl)])) _
        refine X_s2.iaload hx (j := (2 : Int32)) (v := (.int (le2.getD 2 0))) (by rw [e_s2]; exact Arcl51.1) (State.isArrayOf_alike hZ.alike Arcl51.2.1) Arcl51.2.2 hincl51 hatcl51 (g := (mkF m 128 #[.val (.int n), .val (.int x0), .val (.int x1), .val (.int x2), .val (.ref bl), .val (.ref b1), .val (.int lm2), .val (.ref b22), .val (.int lc2)] [(.int (2 : Int32)), (.ref b1), (.ref bl)])) rfl rfl (hb hby d1_128) _ ?_
        show Steps p.tables e below (T_s2.setTop (mkF m 129 #[.val (.int n), .val (.int x0), .val (.int x1), .val (.int x2), .val (.ref bl), .val (.ref b1), .val (.int lm2), .val (.ref b22), .val (.int lc2)] [(.int (le2.getD 2 0)), (.ref bl)])) _
        refine X_s2.baloadBooleans hx (j := (le2.getD 2 0)) (v := (.int (own_late y (le2.getD 2 0)))) (by rw [e_s2]; exact Arcl53.1) (State.isArrayOf_alike hZ.alike Arcl53.2.1) Arcl53.2.2 hincl53 hatcl53 (g := (mkF m 129 #[.val (.int n), .val (.int x0), .val (.int x1), .val (.int x2), .val (.ref bl), .val (.ref b1), .val (.int lm2), .val (.ref b22), .val (.int lc2)] [(.int (le2.getD 2 0)), (.ref bl)])) rfl rfl (hb hby d1_129) _ ?_
        exact k
      by_cases hl : own_late y (le2.getD 2 0) = (0 : Int32)
      · have go_2 : own_go y le2 lm2 2 false = true := own_go_f (own_jm hm) hl
        obtain ⟨cl55, Arcl55, qcl55, Scl55, Ncl55, Hcl55, Gcl55⟩ := id V0_s2
        have hincl55 : ¬ ((2 : Int32) < 0 ∨ cl55.slots.size ≤ ((2 : Int32)).toNatClampNeg) := inb_of Scl55 ⟨by decide, by decide⟩
        have hatcl55 : cl55.slots[((2 : Int32)).toNatClampNeg]? = some (.int (le2.getD 2 0)) := Hcl55.at hincl55 (own_gm le2 2)
        obtain ⟨cl56, Arcl56, qcl56, Scl56, Ncl56, Hcl56, Gcl56⟩ := id V1_s2
        have hincl56 : ¬ (((1 : Int32) + lc2) < 0 ∨ cl56.slots.size ≤ (((1 : Int32) + lc2)).toNatClampNeg) := inb_of Scl56 (own_in_e (own_okb_push ok_2 go_2))
        obtain ⟨T57, h57, X57, e57, W57, st57⟩ := stI X_s2 hx hZ e_s2 Arcl56 (j := ((1 : Int32) + lc2)) hincl56 (g := (mkF m 143 #[.val (.int n), .val (.int x0), .val (.int x1), .val (.int x2), .val (.ref bl), .val (.ref b1), .val (.int lm2), .val (.ref b22), .val (.int lc2)] [(.int (le2.getD 2 0)), (.int ((1 : Int32) + lc2)), (.ref b22)])) rfl rfl (hb hby d1_143)
        have V57 := Arv.set Arcl56 qcl56 Scl56 Ncl56 Hcl56 Gcl56 rfl W57 ((1 : Int32) + lc2).toNatClampNeg rfl (own_lt (own_okb_push ok_2 go_2) (own_okb_len ok_2))
        have Vn57 : Arv Z h57 b22 k22 .int (4 : Int32) ((List.set lo2 ((1 : Int32) + lc2).toNatClampNeg (le2.getD 2 0)).map Value.int) (.int (0 : Int32)) := (by rw [List.map_set]; exact V57)
        have N57 := Fr.snoc X57 N_s2 gn_b22
        have K58 : Keep h0 h57 [] := K_s2.wr W57 (Or.inr sz_b22)
        have f_59 := (V0_s2.other W57 (Ne.symm ne_oe))
        have pre60 : ∀ t, Steps p.tables e below (T57.setTop (mkF m 147 #[.val (.int n), .val (.int x0), .val (.int x1), .val (.int x2), .val (.ref bl), .val (.ref b1), .val (.int lm2), .val (.ref b22), .val (.int (lc2 + (1 : Int32)))] [])) t → Steps p.tables e below S0 t := by
          intro t k
          refine pre54 t ?_
          show Steps p.tables e below (T_s2.setTop (mkF m 130 #[.val (.int n), .val (.int x0), .val (.int x1), .val (.int x2), .val (.ref bl), .val (.ref b1), .val (.int lm2), .val (.ref b22), .val (.int lc2)] [(.int (own_late y (le2.getD 2 0)))])) _
          refine XS.ifNo X_s2.here hx rfl (hb hby d1_130) rfl ((if0 _ _).trans (teq hl).2) ?_
          show Steps p.tables e below (T_s2.setTop (mkF m 133 #[.val (.int n), .val (.int x0), .val (.int x1), .val (.int x2), .val (.ref bl), .val (.ref b1), .val (.int lm2), .val (.ref b22), .val (.int lc2)] [])) _
          refine XS.aload X_s2.here hx rfl (hb hby d1_133) rfl rfl ?_
          show Steps p.tables e below (T_s2.setTop (mkF m 135 #[.val (.int n), .val (.int x0), .val (.int x1), .val (.int x2), .val (.ref bl), .val (.ref b1), .val (.int lm2), .val (.ref b22), .val (.int lc2)] [(.ref b22)])) _
          refine XS.iconst X_s2.here hx rfl (hb hby d1_135) ?_
          show Steps p.tables e below (T_s2.setTop (mkF m 136 #[.val (.int n), .val (.int x0), .val (.int x1), .val (.int x2), .val (.ref bl), .val (.ref b1), .val (.int lm2), .val (.ref b22), .val (.int lc2)] [(.int (1 : Int32)), (.ref b22)])) _
          refine XS.iload X_s2.here hx rfl (hb hby d1_136) rfl ?_
          show Steps p.tables e below (T_s2.setTop (mkF m 138 #[.val (.int n), .val (.int x0), .val (.int x1), .val (.int x2), .val (.ref bl), .val (.ref b1), .val (.int lm2), .val (.ref b22), .val (.int lc2)] [(.int lc2), (.int (1 : Int32)), (.ref b22)])) _
          refine XS.iadd X_s2.here hx rfl (hb hby d1_138) rfl ?_
          show Steps p.tables e below (T_s2.setTop (mkF m 139 #[.val (.int n), .val (.int x0), .val (.int x1), .val (.int x2), .val (.ref bl), .val (.ref b1), .val (.int lm2), .val (.ref b22), .val (.int lc2)] [(.int ((1 : Int32) + lc2)), (.ref b22)])) _
          refine XS.aload X_s2.here hx rfl (hb hby d1_139) rfl rfl ?_
          show Steps p.tables e below (T_s2.setTop (mkF m 141 #[.val (.int n), .val (.int x0), .val (.int x1), .val (.int x2), .val (.ref bl), .val (.ref b1), .val (.int lm2), .val (.ref b22), .val (.int lc2)] [(.ref b1), (.int ((1 : Int32) + lc2)), (.ref b22)])) _
          refine XS.iconst X_s2.here hx rfl (hb hby d1_141) ?_
          show Steps p.tables e below (T_s2.setTop (mkF m 142 #[.val (.int n), .val (.int x0), .val (.int x1), .val (.int x2), .val (.ref bl), .val (.ref b1), .val (.int lm2), .val (.ref b22), .val (.int lc2)] [(.int (2 : Int32)), (.ref b1), (.int ((1 : Int32) + lc2)), (.ref b22)])) _
          refine X_s2.iaload hx (j := (2 : Int32)) (v := (.int (le2.getD 2 0))) (by rw [e_s2]; exact Arcl55.1) (State.isArrayOf_alike hZ.alike Arcl55.2.1) Arcl55.2.2 hincl55 hatcl55 (g := (mkF m 142 #[.val (.int n), .val (.int x0), .val (.int x1), .val (.int x2), .val (.ref bl), .val (.ref b1), .val (.int lm2), .val (.ref b22), .val (.int lc2)] [(.int (2 : Int32)), (.ref b1), (.int ((1 : Int32) + lc2)), (.ref b22)])) rfl rfl (hb hby d1_142) _ ?_
          show Steps p.tables e below (T_s2.setTop (mkF m 143 #[.val (.int n), .val (.int x0), .val (.int x1), .val (.int x2), .val (.ref bl), .val (.ref b1), .val (.int lm2), .val (.ref b22), .val (.int lc2)] [(.int (le2.getD 2 0)), (.int ((1 : Int32) + lc2)), (.ref b22)])) _
          refine st57 _ ?_
          show Steps p.tables e below (T57.setTop (mkF m 144 #[.val (.int n), .val (.int x0), .val (.int x1), .val (.int x2), .val (.ref bl), .val (.ref b1), .val (.int lm2), .val (.ref b22), .val (.int lc2)] [])) _
          refine XS.iinc X57.here hx rfl (hb hby d1_144) rfl (l' := #[.val (.int n), .val (.int x0), .val (.int x1), .val (.int x2), .val (.ref bl), .val (.ref b1), .val (.int lm2), .val (.ref b22), .val (.int (lc2 + (1 : Int32)))]) rfl ?_
          exact k
        exact ⟨T57, h57, _, (List.set lo2 ((1 : Int32) + lc2).toNatClampNeg (le2.getD 2 0)), (lc2 + (1 : Int32)), X57, e57, N57, K58, f_59, Vn57, (own_s_y r_s2 go_2), pre60⟩
      · have pre61 : ∀ t, Steps p.tables e below (T_s2.setTop (mkF m 147 #[.val (.int n), .val (.int x0), .val (.int x1), .val (.int x2), .val (.ref bl), .val (.ref b1), .val (.int lm2), .val (.ref b22), .val (.int lc2)] [])) t → Steps p.tables e below S0 t := by
          intro t k
          refine pre54 t ?_
          show Steps p.tables e below (T_s2.setTop (mkF m 130 #[.val (.int n), .val (.int x0), .val (.int x1), .val (.int x2), .val (.ref bl), .val (.ref b1), .val (.int lm2), .val (.ref b22), .val (.int lc2)] [(.int (own_late y (le2.getD 2 0)))])) _
          refine XS.ifYes X_s2.here hx rfl (pc0 := 130) (pc' := 147) rfl (hb hby d1_130) rfl ((if0 _ _).trans (feq hl).2) (by decide) (by decide) ?_
          exact k
        exact ⟨T_s2, h_s2, _, lo2, lc2, X_s2, e_s2, N_s2, K_s2, V0_s2, V1_s2, (own_s_n r_s2 (own_go_f' hl)), pre61⟩
    · have pre62 : ∀ t, Steps p.tables e below (T_s2.setTop (mkF m 147 #[.val (.int n), .val (.int x0), .val (.int x1), .val (.int x2), .val (.ref bl), .val (.ref b1), .val (.int lm2), .val (.ref b22), .val (.int lc2)] [])) t → Steps p.tables e below S0 t := by
        intro t k
        refine pre50 t ?_
        show Steps p.tables e below (T_s2.setTop (mkF m 120 #[.val (.int n), .val (.int x0), .val (.int x1), .val (.int x2), .val (.ref bl), .val (.ref b1), .val (.int lm2), .val (.ref b22), .val (.int lc2)] [(.int (2 : Int32)), (.int lm2)])) _
        refine XS.icmpYes X_s2.here hx rfl (pc0 := 120) (pc' := 147) rfl (hb hby d1_120) rfl (flt hm).2.2.2 (by decide) (by decide) ?_
        exact k
      exact ⟨T_s2, h_s2, _, lo2, lc2, X_s2, e_s2, N_s2, K_s2, V0_s2, V1_s2, (own_s_n r_s2 (own_go_m (by decide) hm)), pre62⟩
  have ok_3 : own_okb y le2 lm2 0 true (lo3, lc3) = true := by have q := hbk 3 (by decide); rw [r_s3] at q; exact q
  obtain ⟨T_s4, h_s4, L_s4, lo4, lc4, X_s4, e_s4, N_s4, K_s4, V0_s4, V1_s4, r_s4, pre_s4⟩ : ∃ (T' : State) (h' : Heap) (L' : List Loc) (lo4 : List Int32) (lc4 : Int32), Stand p l e ({ frames := 0, cells := 2, slots := 7, locals := 0 } : Room) s m #[(.int n), (.int x0), (.int x1), (.int x2), (.ref bl)] below meth c T' L' 2 7 ∧ T'.heap = h' ∧ Fr n0 L' ∧ Keep h0 h' [] ∧ Arv Z h' b1 k1 .int (3 : Int32) (le2.map Value.int) (.int (0 : Int32)) ∧ Arv Z h' b22 k22 .int (4 : Int32) (lo4.map Value.int) (.int (0 : Int32)) ∧ own_s y le2 lm2 4 = (lo4, lc4) ∧ ∀ t, Steps p.tables e below (T'.setTop (mkF m 171 #[.val (.int n), .val (.int x0), .val (.int x1), .val (.int x2), .val (.ref bl), .val (.ref b1), .val (.int lm2), .val (.ref b22), .val (.int lc4)] [])) t → Steps p.tables e below S0 t := by
    have in_3 : own_in (le2.getD 0 0) 3 = true := own_okb_in ok_3 (own_j0 lm2)
    obtain ⟨cl63, Arcl63, qcl63, Scl63, Ncl63, Hcl63, Gcl63⟩ := id V0_s3
    have hincl63 : ¬ ((0 : Int32) < 0 ∨ cl63.slots.size ≤ ((0 : Int32)).toNatClampNeg) := inb_of Scl63 ⟨by decide, by decide⟩
    have hatcl63 : cl63.slots[((0 : Int32)).toNatClampNeg]? = some (.int (le2.getD 0 0)) := Hcl63.at hincl63 (own_gm le2 0)
    have f_64 := (Vl.keep K_s3 nin0)
    obtain ⟨cl65, Arcl65, qcl65, Scl65, Ncl65, Hcl65, Gcl65⟩ := id f_64
    have hincl65 : ¬ ((le2.getD 0 0) < 0 ∨ cl65.slots.size ≤ ((le2.getD 0 0)).toNatClampNeg) := inb_of Scl65 (own_in_e in_3)
    have hatcl65 : cl65.slots[((le2.getD 0 0)).toNatClampNeg]? = some (.int (own_late y (le2.getD 0 0))) := Hcl65.at hincl65 (own_gm y _)
    have pre66 : ∀ t, Steps p.tables e below (T_s3.setTop (mkF m 154 #[.val (.int n), .val (.int x0), .val (.int x1), .val (.int x2), .val (.ref bl), .val (.ref b1), .val (.int lm2), .val (.ref b22), .val (.int lc3)] [(.int (own_late y (le2.getD 0 0)))])) t → Steps p.tables e below S0 t := by
      intro t k
      refine pre_s3 t ?_
      show Steps p.tables e below (T_s3.setTop (mkF m 147 #[.val (.int n), .val (.int x0), .val (.int x1), .val (.int x2), .val (.ref bl), .val (.ref b1), .val (.int lm2), .val (.ref b22), .val (.int lc3)] [])) _
      refine XS.aload X_s3.here hx rfl (hb hby d1_147) rfl rfl ?_
      show Steps p.tables e below (T_s3.setTop (mkF m 149 #[.val (.int n), .val (.int x0), .val (.int x1), .val (.int x2), .val (.ref bl), .val (.ref b1), .val (.int lm2), .val (.ref b22), .val (.int lc3)] [(.ref bl)])) _
      refine XS.aload X_s3.here hx rfl (hb hby d1_149) rfl rfl ?_
      show Steps p.tables e below (T_s3.setTop (mkF m 151 #[.val (.int n), .val (.int x0), .val (.int x1), .val (.int x2), .val (.ref bl), .val (.ref b1), .val (.int lm2), .val (.ref b22), .val (.int lc3)] [(.ref b1), (.ref bl)])) _
      refine XS.iconst X_s3.here hx rfl (hb hby d1_151) ?_
      show Steps p.tables e below (T_s3.setTop (mkF m 152 #[.val (.int n), .val (.int x0), .val (.int x1), .val (.int x2), .val (.ref bl), .val (.ref b1), .val (.int lm2), .val (.ref b22), .val (.int lc3)] [(.int (0 : Int32)), (.ref b1), (.ref bl)])) _
      refine X_s3.iaload hx (j := (0 : Int32)) (v := (.int (le2.getD 0 0))) (by rw [e_s3]; exact Arcl63.1) (State.isArrayOf_alike hZ.alike Arcl63.2.1) Arcl63.2.2 hincl63 hatcl63 (g := (mkF m 152 #[.val (.int n), .val (.int x0), .val (.int x1), .val (.int x2), .val (.ref bl), .val (.ref b1), .val (.int lm2), .val (.ref b22), .val (.int lc3)] [(.int (0 : Int32)), (.ref b1), (.ref bl)])) rfl rfl (hb hby d1_152) _ ?_
      show Steps p.tables e below (T_s3.setTop (mkF m 153 #[.val (.int n), .val (.int x0), .val (.int x1), .val (.int x2), .val (.ref bl), .val (.ref b1), .val (.int lm2), .val (.ref b22), .val (.int lc3)] [(.int (le2.getD 0 0)), (.ref bl)])) _
      refine X_s3.baloadBooleans hx (j := (le2.getD 0 0)) (v := (.int (own_late y (le2.getD 0 0)))) (by rw [e_s3]; exact Arcl65.1) (State.isArrayOf_alike hZ.alike Arcl65.2.1) Arcl65.2.2 hincl65 hatcl65 (g := (mkF m 153 #[.val (.int n), .val (.int x0), .val (.int x1), .val (.int x2), .val (.ref bl), .val (.ref b1), .val (.int lm2), .val (.ref b22), .val (.int lc3)] [(.int (le2.getD 0 0)), (.ref bl)])) rfl rfl (hb hby d1_153) _ ?_
      exact k
    by_cases hl : own_late y (le2.getD 0 0) = (0 : Int32)
    · have pre67 : ∀ t, Steps p.tables e below (T_s3.setTop (mkF m 171 #[.val (.int n), .val (.int x0), .val (.int x1), .val (.int x2), .val (.ref bl), .val (.ref b1), .val (.int lm2), .val (.ref b22), .val (.int lc3)] [])) t → Steps p.tables e below S0 t := by
        intro t k
        refine pre66 t ?_
        show Steps p.tables e below (T_s3.setTop (mkF m 154 #[.val (.int n), .val (.int x0), .val (.int x1), .val (.int x2), .val (.ref bl), .val (.ref b1), .val (.int lm2), .val (.ref b22), .val (.int lc3)] [(.int (own_late y (le2.getD 0 0)))])) _
        refine XS.ifYes X_s3.here hx rfl (pc0 := 154) (pc' := 171) rfl (hb hby d1_154) rfl ((if0 _ _).trans (teq hl).1) (by decide) (by decide) ?_
        exact k
      exact ⟨T_s3, h_s3, _, lo3, lc3, X_s3, e_s3, N_s3, K_s3, V0_s3, V1_s3, (own_s_n r_s3 (own_go_t' hl)), pre67⟩
    · have go_3 : own_go y le2 lm2 0 true = true := own_go_t (own_j0 lm2) hl
      obtain ⟨cl68, Arcl68, qcl68, Scl68, Ncl68, Hcl68, Gcl68⟩ := id V0_s3
      have hincl68 : ¬ ((0 : Int32) < 0 ∨ cl68.slots.size ≤ ((0 : Int32)).toNatClampNeg) := inb_of Scl68 ⟨by decide, by decide⟩
      have hatcl68 : cl68.slots[((0 : Int32)).toNatClampNeg]? = some (.int (le2.getD 0 0)) := Hcl68.at hincl68 (own_gm le2 0)
      obtain ⟨cl69, Arcl69, qcl69, Scl69, Ncl69, Hcl69, Gcl69⟩ := id V1_s3
      have hincl69 : ¬ (((1 : Int32) + lc3) < 0 ∨ cl69.slots.size ≤ (((1 : Int32) + lc3)).toNatClampNeg) := inb_of Scl69 (own_in_e (own_okb_push ok_3 go_3))
      obtain ⟨T70, h70, X70, e70, W70, st70⟩ := stI X_s3 hx hZ e_s3 Arcl69 (j := ((1 : Int32) + lc3)) hincl69 (g := (mkF m 167 #[.val (.int n), .val (.int x0), .val (.int x1), .val (.int x2), .val (.ref bl), .val (.ref b1), .val (.int lm2), .val (.ref b22), .val (.int lc3)] [(.int (le2.getD 0 0)), (.int ((1 : Int32) + lc3)), (.ref b22)])) rfl rfl (hb hby d1_167)
      have V70 := Arv.set Arcl69 qcl69 Scl69 Ncl69 Hcl69 Gcl69 rfl W70 ((1 : Int32) + lc3).toNatClampNeg rfl (own_lt (own_okb_push ok_3 go_3) (own_okb_len ok_3))
      have Vn70 : Arv Z h70 b22 k22 .int (4 : Int32) ((List.set lo3 ((1 : Int32) + lc3).toNatClampNeg (le2.getD 0 0)).map Value.int) (.int (0 : Int32)) := (by rw [List.map_set]; exact V70)
      have N70 := Fr.snoc X70 N_s3 gn_b22
      have K71 : Keep h0 h70 [] := K_s3.wr W70 (Or.inr sz_b22)
      have f_72 := (V0_s3.other W70 (Ne.symm ne_oe))
      have pre73 : ∀ t, Steps p.tables e below (T70.setTop (mkF m 171 #[.val (.int n), .val (.int x0), .val (.int x1), .val (.int x2), .val (.ref bl), .val (.ref b1), .val (.int lm2), .val (.ref b22), .val (.int (lc3 + (1 : Int32)))] [])) t → Steps p.tables e below S0 t := by
        intro t k
        refine pre66 t ?_
        show Steps p.tables e below (T_s3.setTop (mkF m 154 #[.val (.int n), .val (.int x0), .val (.int x1), .val (.int x2), .val (.ref bl), .val (.ref b1), .val (.int lm2), .val (.ref b22), .val (.int lc3)] [(.int (own_late y (le2.getD 0 0)))])) _
        refine XS.ifNo X_s3.here hx rfl (hb hby d1_154) rfl ((if0 _ _).trans (feq hl).1) ?_
        show Steps p.tables e below (T_s3.setTop (mkF m 157 #[.val (.int n), .val (.int x0), .val (.int x1), .val (.int x2), .val (.ref bl), .val (.ref b1), .val (.int lm2), .val (.ref b22), .val (.int lc3)] [])) _
        refine XS.aload X_s3.here hx rfl (hb hby d1_157) rfl rfl ?_
        show Steps p.tables e below (T_s3.setTop (mkF m 159 #[.val (.int n), .val (.int x0), .val (.int x1), .val (.int x2), .val (.ref bl), .val (.ref b1), .val (.int lm2), .val (.ref b22), .val (.int lc3)] [(.ref b22)])) _
        refine XS.iconst X_s3.here hx rfl (hb hby d1_159) ?_
        show Steps p.tables e below (T_s3.setTop (mkF m 160 #[.val (.int n), .val (.int x0), .val (.int x1), .val (.int x2), .val (.ref bl), .val (.ref b1), .val (.int lm2), .val (.ref b22), .val (.int lc3)] [(.int (1 : Int32)), (.ref b22)])) _
        refine XS.iload X_s3.here hx rfl (hb hby d1_160) rfl ?_
        show Steps p.tables e below (T_s3.setTop (mkF m 162 #[.val (.int n), .val (.int x0), .val (.int x1), .val (.int x2), .val (.ref bl), .val (.ref b1), .val (.int lm2), .val (.ref b22), .val (.int lc3)] [(.int lc3), (.int (1 : Int32)), (.ref b22)])) _
        refine XS.iadd X_s3.here hx rfl (hb hby d1_162) rfl ?_
        show Steps p.tables e below (T_s3.setTop (mkF m 163 #[.val (.int n), .val (.int x0), .val (.int x1), .val (.int x2), .val (.ref bl), .val (.ref b1), .val (.int lm2), .val (.ref b22), .val (.int lc3)] [(.int ((1 : Int32) + lc3)), (.ref b22)])) _
        refine XS.aload X_s3.here hx rfl (hb hby d1_163) rfl rfl ?_
        show Steps p.tables e below (T_s3.setTop (mkF m 165 #[.val (.int n), .val (.int x0), .val (.int x1), .val (.int x2), .val (.ref bl), .val (.ref b1), .val (.int lm2), .val (.ref b22), .val (.int lc3)] [(.ref b1), (.int ((1 : Int32) + lc3)), (.ref b22)])) _
        refine XS.iconst X_s3.here hx rfl (hb hby d1_165) ?_
        show Steps p.tables e below (T_s3.setTop (mkF m 166 #[.val (.int n), .val (.int x0), .val (.int x1), .val (.int x2), .val (.ref bl), .val (.ref b1), .val (.int lm2), .val (.ref b22), .val (.int lc3)] [(.int (0 : Int32)), (.ref b1), (.int ((1 : Int32) + lc3)), (.ref b22)])) _
        refine X_s3.iaload hx (j := (0 : Int32)) (v := (.int (le2.getD 0 0))) (by rw [e_s3]; exact Arcl68.1) (State.isArrayOf_alike hZ.alike Arcl68.2.1) Arcl68.2.2 hincl68 hatcl68 (g := (mkF m 166 #[.val (.int n), .val (.int x0), .val (.int x1), .val (.int x2), .val (.ref bl), .val (.ref b1), .val (.int lm2), .val (.ref b22), .val (.int lc3)] [(.int (0 : Int32)), (.ref b1), (.int ((1 : Int32) + lc3)), (.ref b22)])) rfl rfl (hb hby d1_166) _ ?_
        show Steps p.tables e below (T_s3.setTop (mkF m 167 #[.val (.int n), .val (.int x0), .val (.int x1), .val (.int x2), .val (.ref bl), .val (.ref b1), .val (.int lm2), .val (.ref b22), .val (.int lc3)] [(.int (le2.getD 0 0)), (.int ((1 : Int32) + lc3)), (.ref b22)])) _
        refine st70 _ ?_
        show Steps p.tables e below (T70.setTop (mkF m 168 #[.val (.int n), .val (.int x0), .val (.int x1), .val (.int x2), .val (.ref bl), .val (.ref b1), .val (.int lm2), .val (.ref b22), .val (.int lc3)] [])) _
        refine XS.iinc X70.here hx rfl (hb hby d1_168) rfl (l' := #[.val (.int n), .val (.int x0), .val (.int x1), .val (.int x2), .val (.ref bl), .val (.ref b1), .val (.int lm2), .val (.ref b22), .val (.int (lc3 + (1 : Int32)))]) rfl ?_
        exact k
      exact ⟨T70, h70, _, (List.set lo3 ((1 : Int32) + lc3).toNatClampNeg (le2.getD 0 0)), (lc3 + (1 : Int32)), X70, e70, N70, K71, f_72, Vn70, (own_s_y r_s3 go_3), pre73⟩
  have ok_4 : own_okb y le2 lm2 1 true (lo4, lc4) = true := by have q := hbk 4 (by decide); rw [r_s4] at q; exact q
  obtain ⟨T_s5, h_s5, L_s5, lo5, lc5, X_s5, e_s5, N_s5, K_s5, V0_s5, V1_s5, r_s5, pre_s5⟩ : ∃ (T' : State) (h' : Heap) (L' : List Loc) (lo5 : List Int32) (lc5 : Int32), Stand p l e ({ frames := 0, cells := 2, slots := 7, locals := 0 } : Room) s m #[(.int n), (.int x0), (.int x1), (.int x2), (.ref bl)] below meth c T' L' 2 7 ∧ T'.heap = h' ∧ Fr n0 L' ∧ Keep h0 h' [] ∧ Arv Z h' b1 k1 .int (3 : Int32) (le2.map Value.int) (.int (0 : Int32)) ∧ Arv Z h' b22 k22 .int (4 : Int32) (lo5.map Value.int) (.int (0 : Int32)) ∧ own_s y le2 lm2 5 = (lo5, lc5) ∧ ∀ t, Steps p.tables e below (T'.setTop (mkF m 201 #[.val (.int n), .val (.int x0), .val (.int x1), .val (.int x2), .val (.ref bl), .val (.ref b1), .val (.int lm2), .val (.ref b22), .val (.int lc5)] [])) t → Steps p.tables e below S0 t := by
    have pre74 : ∀ t, Steps p.tables e below (T_s4.setTop (mkF m 174 #[.val (.int n), .val (.int x0), .val (.int x1), .val (.int x2), .val (.ref bl), .val (.ref b1), .val (.int lm2), .val (.ref b22), .val (.int lc4)] [(.int (1 : Int32)), (.int lm2)])) t → Steps p.tables e below S0 t := by
      intro t k
      refine pre_s4 t ?_
      show Steps p.tables e below (T_s4.setTop (mkF m 171 #[.val (.int n), .val (.int x0), .val (.int x1), .val (.int x2), .val (.ref bl), .val (.ref b1), .val (.int lm2), .val (.ref b22), .val (.int lc4)] [])) _
      refine XS.iload X_s4.here hx rfl (hb hby d1_171) rfl ?_
      show Steps p.tables e below (T_s4.setTop (mkF m 173 #[.val (.int n), .val (.int x0), .val (.int x1), .val (.int x2), .val (.ref bl), .val (.ref b1), .val (.int lm2), .val (.ref b22), .val (.int lc4)] [(.int lm2)])) _
      refine XS.iconst X_s4.here hx rfl (hb hby d1_173) ?_
      exact k
    by_cases hm : (1 : Int32) < lm2
    · have in_4 : own_in (le2.getD 1 0) 3 = true := own_okb_in ok_4 (own_jm hm)
      obtain ⟨cl75, Arcl75, qcl75, Scl75, Ncl75, Hcl75, Gcl75⟩ := id V0_s4
      have hincl75 : ¬ ((1 : Int32) < 0 ∨ cl75.slots.size ≤ ((1 : Int32)).toNatClampNeg) := inb_of Scl75 ⟨by decide, by decide⟩
      have hatcl75 : cl75.slots[((1 : Int32)).toNatClampNeg]? = some (.int (le2.getD 1 0)) := Hcl75.at hincl75 (own_gm le2 1)
      have f_76 := (Vl.keep K_s4 nin0)
      obtain ⟨cl77, Arcl77, qcl77, Scl77, Ncl77, Hcl77, Gcl77⟩ := id f_76
      have hincl77 : ¬ ((le2.getD 1 0) < 0 ∨ cl77.slots.size ≤ ((le2.getD 1 0)).toNatClampNeg) := inb_of Scl77 (own_in_e in_4)
      have hatcl77 : cl77.slots[((le2.getD 1 0)).toNatClampNeg]? = some (.int (own_late y (le2.getD 1 0))) := Hcl77.at hincl77 (own_gm y _)
      have pre78 : ∀ t, Steps p.tables e below (T_s4.setTop (mkF m 184 #[.val (.int n), .val (.int x0), .val (.int x1), .val (.int x2), .val (.ref bl), .val (.ref b1), .val (.int lm2), .val (.ref b22), .val (.int lc4)] [(.int (own_late y (le2.getD 1 0)))])) t → Steps p.tables e below S0 t := by
        intro t k
        refine pre74 t ?_
        show Steps p.tables e below (T_s4.setTop (mkF m 174 #[.val (.int n), .val (.int x0), .val (.int x1), .val (.int x2), .val (.ref bl), .val (.ref b1), .val (.int lm2), .val (.ref b22), .val (.int lc4)] [(.int (1 : Int32)), (.int lm2)])) _
        refine XS.icmpNo X_s4.here hx rfl (hb hby d1_174) rfl (tlt hm).2.2.2 ?_
        show Steps p.tables e below (T_s4.setTop (mkF m 177 #[.val (.int n), .val (.int x0), .val (.int x1), .val (.int x2), .val (.ref bl), .val (.ref b1), .val (.int lm2), .val (.ref b22), .val (.int lc4)] [])) _
        refine XS.aload X_s4.here hx rfl (hb hby d1_177) rfl rfl ?_
        show Steps p.tables e below (T_s4.setTop (mkF m 179 #[.val (.int n), .val (.int x0), .val (.int x1), .val (.int x2), .val (.ref bl), .val (.ref b1), .val (.int lm2), .val (.ref b22), .val (.int lc4)] [(.ref bl)])) _
        refine XS.aload X_s4.here hx rfl (hb hby d1_179) rfl rfl ?_
        show Steps p.tables e below (T_s4.setTop (mkF m 181 #[.val (.int n), .val (.int x0), .val (.int x1), .val (.int x2), .val (.ref bl), .val (.ref b1), .val (.int lm2), .val (.ref b22), .val (.int lc4)] [(.ref b1), (.ref bl)])) _
        refine XS.iconst X_s4.here hx rfl (hb hby d1_181) ?_
        show Steps p.tables e below (T_s4.setTop (mkF m 182 #[.val (.int n), .val (.int x0), .val (.int x1), .val (.int x2), .val (.ref bl), .val (.ref b1), .val (.int lm2), .val (.ref b22), .val (.int lc4)] [(.int (1 : Int32)), (.ref b1), (.ref bl)])) _
        refine X_s4.iaload hx (j := (1 : Int32)) (v := (.int (le2.getD 1 0))) (by rw [e_s4]; exact Arcl75.1) (State.isArrayOf_alike hZ.alike Arcl75.2.1) Arcl75.2.2 hincl75 hatcl75 (g := (mkF m 182 #[.val (.int n), .val (.int x0), .val (.int x1), .val (.int x2), .val (.ref bl), .val (.ref b1), .val (.int lm2), .val (.ref b22), .val (.int lc4)] [(.int (1 : Int32)), (.ref b1), (.ref bl)])) rfl rfl (hb hby d1_182) _ ?_
        show Steps p.tables e below (T_s4.setTop (mkF m 183 #[.val (.int n), .val (.int x0), .val (.int x1), .val (.int x2), .val (.ref bl), .val (.ref b1), .val (.int lm2), .val (.ref b22), .val (.int lc4)] [(.int (le2.getD 1 0)), (.ref bl)])) _
        refine X_s4.baloadBooleans hx (j := (le2.getD 1 0)) (v := (.int (own_late y (le2.getD 1 0)))) (by rw [e_s4]; exact Arcl77.1) (State.isArrayOf_alike hZ.alike Arcl77.2.1) Arcl77.2.2 hincl77 hatcl77 (g := (mkF m 183 #[.val (.int n), .val (.int x0), .val (.int x1), .val (.int x2), .val (.ref bl), .val (.ref b1), .val (.int lm2), .val (.ref b22), .val (.int lc4)] [(.int (le2.getD 1 0)), (.ref bl)])) rfl rfl (hb hby d1_183) _ ?_
        exact k
      by_cases hl : own_late y (le2.getD 1 0) = (0 : Int32)
      · have pre79 : ∀ t, Steps p.tables e below (T_s4.setTop (mkF m 201 #[.val (.int n), .val (.int x0), .val (.int x1), .val (.int x2), .val (.ref bl), .val (.ref b1), .val (.int lm2), .val (.ref b22), .val (.int lc4)] [])) t → Steps p.tables e below S0 t := by
          intro t k
          refine pre78 t ?_
          show Steps p.tables e below (T_s4.setTop (mkF m 184 #[.val (.int n), .val (.int x0), .val (.int x1), .val (.int x2), .val (.ref bl), .val (.ref b1), .val (.int lm2), .val (.ref b22), .val (.int lc4)] [(.int (own_late y (le2.getD 1 0)))])) _
          refine XS.ifYes X_s4.here hx rfl (pc0 := 184) (pc' := 201) rfl (hb hby d1_184) rfl ((if0 _ _).trans (teq hl).1) (by decide) (by decide) ?_
          exact k
        exact ⟨T_s4, h_s4, _, lo4, lc4, X_s4, e_s4, N_s4, K_s4, V0_s4, V1_s4, (own_s_n r_s4 (own_go_t' hl)), pre79⟩
      · have go_4 : own_go y le2 lm2 1 true = true := own_go_t (own_jm hm) hl
        obtain ⟨cl80, Arcl80, qcl80, Scl80, Ncl80, Hcl80, Gcl80⟩ := id V0_s4
        have hincl80 : ¬ ((1 : Int32) < 0 ∨ cl80.slots.size ≤ ((1 : Int32)).toNatClampNeg) := inb_of Scl80 ⟨by decide, by decide⟩
        have hatcl80 : cl80.slots[((1 : Int32)).toNatClampNeg]? = some (.int (le2.getD 1 0)) := Hcl80.at hincl80 (own_gm le2 1)
        obtain ⟨cl81, Arcl81, qcl81, Scl81, Ncl81, Hcl81, Gcl81⟩ := id V1_s4
        have hincl81 : ¬ (((1 : Int32) + lc4) < 0 ∨ cl81.slots.size ≤ (((1 : Int32) + lc4)).toNatClampNeg) := inb_of Scl81 (own_in_e (own_okb_push ok_4 go_4))
        obtain ⟨T82, h82, X82, e82, W82, st82⟩ := stI X_s4 hx hZ e_s4 Arcl81 (j := ((1 : Int32) + lc4)) hincl81 (g := (mkF m 197 #[.val (.int n), .val (.int x0), .val (.int x1), .val (.int x2), .val (.ref bl), .val (.ref b1), .val (.int lm2), .val (.ref b22), .val (.int lc4)] [(.int (le2.getD 1 0)), (.int ((1 : Int32) + lc4)), (.ref b22)])) rfl rfl (hb hby d1_197)
        have V82 := Arv.set Arcl81 qcl81 Scl81 Ncl81 Hcl81 Gcl81 rfl W82 ((1 : Int32) + lc4).toNatClampNeg rfl (own_lt (own_okb_push ok_4 go_4) (own_okb_len ok_4))
        have Vn82 : Arv Z h82 b22 k22 .int (4 : Int32) ((List.set lo4 ((1 : Int32) + lc4).toNatClampNeg (le2.getD 1 0)).map Value.int) (.int (0 : Int32)) := (by rw [List.map_set]; exact V82)
        have N82 := Fr.snoc X82 N_s4 gn_b22
        have K83 : Keep h0 h82 [] := K_s4.wr W82 (Or.inr sz_b22)
        have f_84 := (V0_s4.other W82 (Ne.symm ne_oe))
        have pre85 : ∀ t, Steps p.tables e below (T82.setTop (mkF m 201 #[.val (.int n), .val (.int x0), .val (.int x1), .val (.int x2), .val (.ref bl), .val (.ref b1), .val (.int lm2), .val (.ref b22), .val (.int (lc4 + (1 : Int32)))] [])) t → Steps p.tables e below S0 t := by
          intro t k
          refine pre78 t ?_
          show Steps p.tables e below (T_s4.setTop (mkF m 184 #[.val (.int n), .val (.int x0), .val (.int x1), .val (.int x2), .val (.ref bl), .val (.ref b1), .val (.int lm2), .val (.ref b22), .val (.int lc4)] [(.int (own_late y (le2.getD 1 0)))])) _
          refine XS.ifNo X_s4.here hx rfl (hb hby d1_184) rfl ((if0 _ _).trans (feq hl).1) ?_
          show Steps p.tables e below (T_s4.setTop (mkF m 187 #[.val (.int n), .val (.int x0), .val (.int x1), .val (.int x2), .val (.ref bl), .val (.ref b1), .val (.int lm2), .val (.ref b22), .val (.int lc4)] [])) _
          refine XS.aload X_s4.here hx rfl (hb hby d1_187) rfl rfl ?_
          show Steps p.tables e below (T_s4.setTop (mkF m 189 #[.val (.int n), .val (.int x0), .val (.int x1), .val (.int x2), .val (.ref bl), .val (.ref b1), .val (.int lm2), .val (.ref b22), .val (.int lc4)] [(.ref b22)])) _
          refine XS.iconst X_s4.here hx rfl (hb hby d1_189) ?_
          show Steps p.tables e below (T_s4.setTop (mkF m 190 #[.val (.int n), .val (.int x0), .val (.int x1), .val (.int x2), .val (.ref bl), .val (.ref b1), .val (.int lm2), .val (.ref b22), .val (.int lc4)] [(.int (1 : Int32)), (.ref b22)])) _
          refine XS.iload X_s4.here hx rfl (hb hby d1_190) rfl ?_
          show Steps p.tables e below (T_s4.setTop (mkF m 192 #[.val (.int n), .val (.int x0), .val (.int x1), .val (.int x2), .val (.ref bl), .val (.ref b1), .val (.int lm2), .val (.ref b22), .val (.int lc4)] [(.int lc4), (.int (1 : Int32)), (.ref b22)])) _
          refine XS.iadd X_s4.here hx rfl (hb hby d1_192) rfl ?_
          show Steps p.tables e below (T_s4.setTop (mkF m 193 #[.val (.int n), .val (.int x0), .val (.int x1), .val (.int x2), .val (.ref bl), .val (.ref b1), .val (.int lm2), .val (.ref b22), .val (.int lc4)] [(.int ((1 : Int32) + lc4)), (.ref b22)])) _
          refine XS.aload X_s4.here hx rfl (hb hby d1_193) rfl rfl ?_
          show Steps p.tables e below (T_s4.setTop (mkF m 195 #[.val (.int n), .val (.int x0), .val (.int x1), .val (.int x2), .val (.ref bl), .val (.ref b1), .val (.int lm2), .val (.ref b22), .val (.int lc4)] [(.ref b1), (.int ((1 : Int32) + lc4)), (.ref b22)])) _
          refine XS.iconst X_s4.here hx rfl (hb hby d1_195) ?_
          show Steps p.tables e below (T_s4.setTop (mkF m 196 #[.val (.int n), .val (.int x0), .val (.int x1), .val (.int x2), .val (.ref bl), .val (.ref b1), .val (.int lm2), .val (.ref b22), .val (.int lc4)] [(.int (1 : Int32)), (.ref b1), (.int ((1 : Int32) + lc4)), (.ref b22)])) _
          refine X_s4.iaload hx (j := (1 : Int32)) (v := (.int (le2.getD 1 0))) (by rw [e_s4]; exact Arcl80.1) (State.isArrayOf_alike hZ.alike Arcl80.2.1) Arcl80.2.2 hincl80 hatcl80 (g := (mkF m 196 #[.val (.int n), .val (.int x0), .val (.int x1), .val (.int x2), .val (.ref bl), .val (.ref b1), .val (.int lm2), .val (.ref b22), .val (.int lc4)] [(.int (1 : Int32)), (.ref b1), (.int ((1 : Int32) + lc4)), (.ref b22)])) rfl rfl (hb hby d1_196) _ ?_
          show Steps p.tables e below (T_s4.setTop (mkF m 197 #[.val (.int n), .val (.int x0), .val (.int x1), .val (.int x2), .val (.ref bl), .val (.ref b1), .val (.int lm2), .val (.ref b22), .val (.int lc4)] [(.int (le2.getD 1 0)), (.int ((1 : Int32) + lc4)), (.ref b22)])) _
          refine st82 _ ?_
          show Steps p.tables e below (T82.setTop (mkF m 198 #[.val (.int n), .val (.int x0), .val (.int x1), .val (.int x2), .val (.ref bl), .val (.ref b1), .val (.int lm2), .val (.ref b22), .val (.int lc4)] [])) _
          refine XS.iinc X82.here hx rfl (hb hby d1_198) rfl (l' := #[.val (.int n), .val (.int x0), .val (.int x1), .val (.int x2), .val (.ref bl), .val (.ref b1), .val (.int lm2), .val (.ref b22), .val (.int (lc4 + (1 : Int32)))]) rfl ?_
          exact k
        exact ⟨T82, h82, _, (List.set lo4 ((1 : Int32) + lc4).toNatClampNeg (le2.getD 1 0)), (lc4 + (1 : Int32)), X82, e82, N82, K83, f_84, Vn82, (own_s_y r_s4 go_4), pre85⟩
    · have pre86 : ∀ t, Steps p.tables e below (T_s4.setTop (mkF m 201 #[.val (.int n), .val (.int x0), .val (.int x1), .val (.int x2), .val (.ref bl), .val (.ref b1), .val (.int lm2), .val (.ref b22), .val (.int lc4)] [])) t → Steps p.tables e below S0 t := by
        intro t k
        refine pre74 t ?_
        show Steps p.tables e below (T_s4.setTop (mkF m 174 #[.val (.int n), .val (.int x0), .val (.int x1), .val (.int x2), .val (.ref bl), .val (.ref b1), .val (.int lm2), .val (.ref b22), .val (.int lc4)] [(.int (1 : Int32)), (.int lm2)])) _
        refine XS.icmpYes X_s4.here hx rfl (pc0 := 174) (pc' := 201) rfl (hb hby d1_174) rfl (flt hm).2.2.2 (by decide) (by decide) ?_
        exact k
      exact ⟨T_s4, h_s4, _, lo4, lc4, X_s4, e_s4, N_s4, K_s4, V0_s4, V1_s4, (own_s_n r_s4 (own_go_m (by decide) hm)), pre86⟩
  have ok_5 : own_okb y le2 lm2 2 true (lo5, lc5) = true := by have q := hbk 5 (by decide); rw [r_s5] at q; exact q
  obtain ⟨T_s6, h_s6, L_s6, lo6, lc6, X_s6, e_s6, N_s6, K_s6, V0_s6, V1_s6, r_s6, pre_s6⟩ : ∃ (T' : State) (h' : Heap) (L' : List Loc) (lo6 : List Int32) (lc6 : Int32), Stand p l e ({ frames := 0, cells := 2, slots := 7, locals := 0 } : Room) s m #[(.int n), (.int x0), (.int x1), (.int x2), (.ref bl)] below meth c T' L' 2 7 ∧ T'.heap = h' ∧ Fr n0 L' ∧ Keep h0 h' [] ∧ Arv Z h' b1 k1 .int (3 : Int32) (le2.map Value.int) (.int (0 : Int32)) ∧ Arv Z h' b22 k22 .int (4 : Int32) (lo6.map Value.int) (.int (0 : Int32)) ∧ own_s y le2 lm2 6 = (lo6, lc6) ∧ ∀ t, Steps p.tables e below (T'.setTop (mkF m 231 #[.val (.int n), .val (.int x0), .val (.int x1), .val (.int x2), .val (.ref bl), .val (.ref b1), .val (.int lm2), .val (.ref b22), .val (.int lc6)] [])) t → Steps p.tables e below S0 t := by
    have pre87 : ∀ t, Steps p.tables e below (T_s5.setTop (mkF m 204 #[.val (.int n), .val (.int x0), .val (.int x1), .val (.int x2), .val (.ref bl), .val (.ref b1), .val (.int lm2), .val (.ref b22), .val (.int lc5)] [(.int (2 : Int32)), (.int lm2)])) t → Steps p.tables e below S0 t := by
      intro t k
      refine pre_s5 t ?_
      show Steps p.tables e below (T_s5.setTop (mkF m 201 #[.val (.int n), .val (.int x0), .val (.int x1), .val (.int x2), .val (.ref bl), .val (.ref b1), .val (.int lm2), .val (.ref b22), .val (.int lc5)] [])) _
      refine XS.iload X_s5.here hx rfl (hb hby d1_201) rfl ?_
      show Steps p.tables e below (T_s5.setTop (mkF m 203 #[.val (.int n), .val (.int x0), .val (.int x1), .val (.int x2), .val (.ref bl), .val (.ref b1), .val (.int lm2), .val (.ref b22), .val (.int lc5)] [(.int lm2)])) _
      refine XS.iconst X_s5.here hx rfl (hb hby d1_203) ?_
      exact k
    by_cases hm : (2 : Int32) < lm2
    · have in_5 : own_in (le2.getD 2 0) 3 = true := own_okb_in ok_5 (own_jm hm)
      obtain ⟨cl88, Arcl88, qcl88, Scl88, Ncl88, Hcl88, Gcl88⟩ := id V0_s5
      have hincl88 : ¬ ((2 : Int32) < 0 ∨ cl88.slots.size ≤ ((2 : Int32)).toNatClampNeg) := inb_of Scl88 ⟨by decide, by decide⟩
      have hatcl88 : cl88.slots[((2 : Int32)).toNatClampNeg]? = some (.int (le2.getD 2 0)) := Hcl88.at hincl88 (own_gm le2 2)
      have f_89 := (Vl.keep K_s5 nin0)
      obtain ⟨cl90, Arcl90, qcl90, Scl90, Ncl90, Hcl90, Gcl90⟩ := id f_89
      have hincl90 : ¬ ((le2.getD 2 0) < 0 ∨ cl90.slots.size ≤ ((le2.getD 2 0)).toNatClampNeg) := inb_of Scl90 (own_in_e in_5)
      have hatcl90 : cl90.slots[((le2.getD 2 0)).toNatClampNeg]? = some (.int (own_late y (le2.getD 2 0))) := Hcl90.at hincl90 (own_gm y _)
      have pre91 : ∀ t, Steps p.tables e below (T_s5.setTop (mkF m 214 #[.val (.int n), .val (.int x0), .val (.int x1), .val (.int x2), .val (.ref bl), .val (.ref b1), .val (.int lm2), .val (.ref b22), .val (.int lc5)] [(.int (own_late y (le2.getD 2 0)))])) t → Steps p.tables e below S0 t := by
        intro t k
        refine pre87 t ?_
        show Steps p.tables e below (T_s5.setTop (mkF m 204 #[.val (.int n), .val (.int x0), .val (.int x1), .val (.int x2), .val (.ref bl), .val (.ref b1), .val (.int lm2), .val (.ref b22), .val (.int lc5)] [(.int (2 : Int32)), (.int lm2)])) _
        refine XS.icmpNo X_s5.here hx rfl (hb hby d1_204) rfl (tlt hm).2.2.2 ?_
        show Steps p.tables e below (T_s5.setTop (mkF m 207 #[.val (.int n), .val (.int x0), .val (.int x1), .val (.int x2), .val (.ref bl), .val (.ref b1), .val (.int lm2), .val (.ref b22), .val (.int lc5)] [])) _
        refine XS.aload X_s5.here hx rfl (hb hby d1_207) rfl rfl ?_
        show Steps p.tables e below (T_s5.setTop (mkF m 209 #[.val (.int n), .val (.int x0), .val (.int x1), .val (.int x2), .val (.ref bl), .val (.ref b1), .val (.int lm2), .val (.ref b22), .val (.int lc5)] [(.ref bl)])) _
        refine XS.aload X_s5.here hx rfl (hb hby d1_209) rfl rfl ?_
        show Steps p.tables e below (T_s5.setTop (mkF m 211 #[.val (.int n), .val (.int x0), .val (.int x1), .val (.int x2), .val (.ref bl), .val (.ref b1), .val (.int lm2), .val (.ref b22), .val (.int lc5)] [(.ref b1), (.ref bl)])) _
        refine XS.iconst X_s5.here hx rfl (hb hby d1_211) ?_
        show Steps p.tables e below (T_s5.setTop (mkF m 212 #[.val (.int n), .val (.int x0), .val (.int x1), .val (.int x2), .val (.ref bl), .val (.ref b1), .val (.int lm2), .val (.ref b22), .val (.int lc5)] [(.int (2 : Int32)), (.ref b1), (.ref bl)])) _
        refine X_s5.iaload hx (j := (2 : Int32)) (v := (.int (le2.getD 2 0))) (by rw [e_s5]; exact Arcl88.1) (State.isArrayOf_alike hZ.alike Arcl88.2.1) Arcl88.2.2 hincl88 hatcl88 (g := (mkF m 212 #[.val (.int n), .val (.int x0), .val (.int x1), .val (.int x2), .val (.ref bl), .val (.ref b1), .val (.int lm2), .val (.ref b22), .val (.int lc5)] [(.int (2 : Int32)), (.ref b1), (.ref bl)])) rfl rfl (hb hby d1_212) _ ?_
        show Steps p.tables e below (T_s5.setTop (mkF m 213 #[.val (.int n), .val (.int x0), .val (.int x1), .val (.int x2), .val (.ref bl), .val (.ref b1), .val (.int lm2), .val (.ref b22), .val (.int lc5)] [(.int (le2.getD 2 0)), (.ref bl)])) _
        refine X_s5.baloadBooleans hx (j := (le2.getD 2 0)) (v := (.int (own_late y (le2.getD 2 0)))) (by rw [e_s5]; exact Arcl90.1) (State.isArrayOf_alike hZ.alike Arcl90.2.1) Arcl90.2.2 hincl90 hatcl90 (g := (mkF m 213 #[.val (.int n), .val (.int x0), .val (.int x1), .val (.int x2), .val (.ref bl), .val (.ref b1), .val (.int lm2), .val (.ref b22), .val (.int lc5)] [(.int (le2.getD 2 0)), (.ref bl)])) rfl rfl (hb hby d1_213) _ ?_
        exact k
      by_cases hl : own_late y (le2.getD 2 0) = (0 : Int32)
      · have pre92 : ∀ t, Steps p.tables e below (T_s5.setTop (mkF m 231 #[.val (.int n), .val (.int x0), .val (.int x1), .val (.int x2), .val (.ref bl), .val (.ref b1), .val (.int lm2), .val (.ref b22), .val (.int lc5)] [])) t → Steps p.tables e below S0 t := by
          intro t k
          refine pre91 t ?_
          show Steps p.tables e below (T_s5.setTop (mkF m 214 #[.val (.int n), .val (.int x0), .val (.int x1), .val (.int x2), .val (.ref bl), .val (.ref b1), .val (.int lm2), .val (.ref b22), .val (.int lc5)] [(.int (own_late y (le2.getD 2 0)))])) _
          refine XS.ifYes X_s5.here hx rfl (pc0 := 214) (pc' := 231) rfl (hb hby d1_214) rfl ((if0 _ _).trans (teq hl).1) (by decide) (by decide) ?_
          exact k
        exact ⟨T_s5, h_s5, _, lo5, lc5, X_s5, e_s5, N_s5, K_s5, V0_s5, V1_s5, (own_s_n r_s5 (own_go_t' hl)), pre92⟩
      · have go_5 : own_go y le2 lm2 2 true = true := own_go_t (own_jm hm) hl
        obtain ⟨cl93, Arcl93, qcl93, Scl93, Ncl93, Hcl93, Gcl93⟩ := id V0_s5
        have hincl93 : ¬ ((2 : Int32) < 0 ∨ cl93.slots.size ≤ ((2 : Int32)).toNatClampNeg) := inb_of Scl93 ⟨by decide, by decide⟩
        have hatcl93 : cl93.slots[((2 : Int32)).toNatClampNeg]? = some (.int (le2.getD 2 0)) := Hcl93.at hincl93 (own_gm le2 2)
        obtain ⟨cl94, Arcl94, qcl94, Scl94, Ncl94, Hcl94, Gcl94⟩ := id V1_s5
        have hincl94 : ¬ (((1 : Int32) + lc5) < 0 ∨ cl94.slots.size ≤ (((1 : Int32) + lc5)).toNatClampNeg) := inb_of Scl94 (own_in_e (own_okb_push ok_5 go_5))
        obtain ⟨T95, h95, X95, e95, W95, st95⟩ := stI X_s5 hx hZ e_s5 Arcl94 (j := ((1 : Int32) + lc5)) hincl94 (g := (mkF m 227 #[.val (.int n), .val (.int x0), .val (.int x1), .val (.int x2), .val (.ref bl), .val (.ref b1), .val (.int lm2), .val (.ref b22), .val (.int lc5)] [(.int (le2.getD 2 0)), (.int ((1 : Int32) + lc5)), (.ref b22)])) rfl rfl (hb hby d1_227)
        have V95 := Arv.set Arcl94 qcl94 Scl94 Ncl94 Hcl94 Gcl94 rfl W95 ((1 : Int32) + lc5).toNatClampNeg rfl (own_lt (own_okb_push ok_5 go_5) (own_okb_len ok_5))
        have Vn95 : Arv Z h95 b22 k22 .int (4 : Int32) ((List.set lo5 ((1 : Int32) + lc5).toNatClampNeg (le2.getD 2 0)).map Value.int) (.int (0 : Int32)) := (by rw [List.map_set]; exact V95)
        have N95 := Fr.snoc X95 N_s5 gn_b22
        have K96 : Keep h0 h95 [] := K_s5.wr W95 (Or.inr sz_b22)
        have f_97 := (V0_s5.other W95 (Ne.symm ne_oe))
        have pre98 : ∀ t, Steps p.tables e below (T95.setTop (mkF m 231 #[.val (.int n), .val (.int x0), .val (.int x1), .val (.int x2), .val (.ref bl), .val (.ref b1), .val (.int lm2), .val (.ref b22), .val (.int (lc5 + (1 : Int32)))] [])) t → Steps p.tables e below S0 t := by
          intro t k
          refine pre91 t ?_
          show Steps p.tables e below (T_s5.setTop (mkF m 214 #[.val (.int n), .val (.int x0), .val (.int x1), .val (.int x2), .val (.ref bl), .val (.ref b1), .val (.int lm2), .val (.ref b22), .val (.int lc5)] [(.int (own_late y (le2.getD 2 0)))])) _
          refine XS.ifNo X_s5.here hx rfl (hb hby d1_214) rfl ((if0 _ _).trans (feq hl).1) ?_
          show Steps p.tables e below (T_s5.setTop (mkF m 217 #[.val (.int n), .val (.int x0), .val (.int x1), .val (.int x2), .val (.ref bl), .val (.ref b1), .val (.int lm2), .val (.ref b22), .val (.int lc5)] [])) _
          refine XS.aload X_s5.here hx rfl (hb hby d1_217) rfl rfl ?_
          show Steps p.tables e below (T_s5.setTop (mkF m 219 #[.val (.int n), .val (.int x0), .val (.int x1), .val (.int x2), .val (.ref bl), .val (.ref b1), .val (.int lm2), .val (.ref b22), .val (.int lc5)] [(.ref b22)])) _
          refine XS.iconst X_s5.here hx rfl (hb hby d1_219) ?_
          show Steps p.tables e below (T_s5.setTop (mkF m 220 #[.val (.int n), .val (.int x0), .val (.int x1), .val (.int x2), .val (.ref bl), .val (.ref b1), .val (.int lm2), .val (.ref b22), .val (.int lc5)] [(.int (1 : Int32)), (.ref b22)])) _
          refine XS.iload X_s5.here hx rfl (hb hby d1_220) rfl ?_
          show Steps p.tables e below (T_s5.setTop (mkF m 222 #[.val (.int n), .val (.int x0), .val (.int x1), .val (.int x2), .val (.ref bl), .val (.ref b1), .val (.int lm2), .val (.ref b22), .val (.int lc5)] [(.int lc5), (.int (1 : Int32)), (.ref b22)])) _
          refine XS.iadd X_s5.here hx rfl (hb hby d1_222) rfl ?_
          show Steps p.tables e below (T_s5.setTop (mkF m 223 #[.val (.int n), .val (.int x0), .val (.int x1), .val (.int x2), .val (.ref bl), .val (.ref b1), .val (.int lm2), .val (.ref b22), .val (.int lc5)] [(.int ((1 : Int32) + lc5)), (.ref b22)])) _
          refine XS.aload X_s5.here hx rfl (hb hby d1_223) rfl rfl ?_
          show Steps p.tables e below (T_s5.setTop (mkF m 225 #[.val (.int n), .val (.int x0), .val (.int x1), .val (.int x2), .val (.ref bl), .val (.ref b1), .val (.int lm2), .val (.ref b22), .val (.int lc5)] [(.ref b1), (.int ((1 : Int32) + lc5)), (.ref b22)])) _
          refine XS.iconst X_s5.here hx rfl (hb hby d1_225) ?_
          show Steps p.tables e below (T_s5.setTop (mkF m 226 #[.val (.int n), .val (.int x0), .val (.int x1), .val (.int x2), .val (.ref bl), .val (.ref b1), .val (.int lm2), .val (.ref b22), .val (.int lc5)] [(.int (2 : Int32)), (.ref b1), (.int ((1 : Int32) + lc5)), (.ref b22)])) _
          refine X_s5.iaload hx (j := (2 : Int32)) (v := (.int (le2.getD 2 0))) (by rw [e_s5]; exact Arcl93.1) (State.isArrayOf_alike hZ.alike Arcl93.2.1) Arcl93.2.2 hincl93 hatcl93 (g := (mkF m 226 #[.val (.int n), .val (.int x0), .val (.int x1), .val (.int x2), .val (.ref bl), .val (.ref b1), .val (.int lm2), .val (.ref b22), .val (.int lc5)] [(.int (2 : Int32)), (.ref b1), (.int ((1 : Int32) + lc5)), (.ref b22)])) rfl rfl (hb hby d1_226) _ ?_
          show Steps p.tables e below (T_s5.setTop (mkF m 227 #[.val (.int n), .val (.int x0), .val (.int x1), .val (.int x2), .val (.ref bl), .val (.ref b1), .val (.int lm2), .val (.ref b22), .val (.int lc5)] [(.int (le2.getD 2 0)), (.int ((1 : Int32) + lc5)), (.ref b22)])) _
          refine st95 _ ?_
          show Steps p.tables e below (T95.setTop (mkF m 228 #[.val (.int n), .val (.int x0), .val (.int x1), .val (.int x2), .val (.ref bl), .val (.ref b1), .val (.int lm2), .val (.ref b22), .val (.int lc5)] [])) _
          refine XS.iinc X95.here hx rfl (hb hby d1_228) rfl (l' := #[.val (.int n), .val (.int x0), .val (.int x1), .val (.int x2), .val (.ref bl), .val (.ref b1), .val (.int lm2), .val (.ref b22), .val (.int (lc5 + (1 : Int32)))]) rfl ?_
          exact k
        exact ⟨T95, h95, _, (List.set lo5 ((1 : Int32) + lc5).toNatClampNeg (le2.getD 2 0)), (lc5 + (1 : Int32)), X95, e95, N95, K96, f_97, Vn95, (own_s_y r_s5 go_5), pre98⟩
    · have pre99 : ∀ t, Steps p.tables e below (T_s5.setTop (mkF m 231 #[.val (.int n), .val (.int x0), .val (.int x1), .val (.int x2), .val (.ref bl), .val (.ref b1), .val (.int lm2), .val (.ref b22), .val (.int lc5)] [])) t → Steps p.tables e below S0 t := by
        intro t k
        refine pre87 t ?_
        show Steps p.tables e below (T_s5.setTop (mkF m 204 #[.val (.int n), .val (.int x0), .val (.int x1), .val (.int x2), .val (.ref bl), .val (.ref b1), .val (.int lm2), .val (.ref b22), .val (.int lc5)] [(.int (2 : Int32)), (.int lm2)])) _
        refine XS.icmpYes X_s5.here hx rfl (pc0 := 204) (pc' := 231) rfl (hb hby d1_204) rfl (flt hm).2.2.2 (by decide) (by decide) ?_
        exact k
      exact ⟨T_s5, h_s5, _, lo5, lc5, X_s5, e_s5, N_s5, K_s5, V0_s5, V1_s5, (own_s_n r_s5 (own_go_m (by decide) hm)), pre99⟩
  have l_o : lo6.length = 4 := by have q := hle; rw [r_s6] at q; exact q
  obtain ⟨cl100, Arcl100, qcl100, Scl100, Ncl100, Hcl100, Gcl100⟩ := id V1_s6
  have hincl100 : ¬ ((0 : Int32) < 0 ∨ cl100.slots.size ≤ ((0 : Int32)).toNatClampNeg) := inb_of Scl100 ⟨by decide, by decide⟩
  obtain ⟨T101, h101, X101, e101, W101, st101⟩ := stI X_s6 hx hZ e_s6 Arcl100 (j := (0 : Int32)) hincl100 (g := (mkF m 236 #[.val (.int n), .val (.int x0), .val (.int x1), .val (.int x2), .val (.ref bl), .val (.ref b1), .val (.int lm2), .val (.ref b22), .val (.int lc6)] [(.int lc6), (.int (0 : Int32)), (.ref b22)])) rfl rfl (hb hby d1_236)
  have V101 := Arv.set Arcl100 qcl100 Scl100 Ncl100 Hcl100 Gcl100 rfl W101 0 rfl (by rw [List.length_map, l_o]; decide)
  have Vn101 : Arv Z h101 b22 k22 .int (4 : Int32) ((lo6.set 0 lc6).map Value.int) (.int (0 : Int32)) := (by rw [List.map_set]; exact V101)
  have N101 := Fr.snoc X101 N_s6 gn_b22
  have K102 : Keep h0 h101 [] := K_s6.wr W101 (Or.inr sz_b22)
  obtain ⟨fs, hr, hrun, hended, hW, hsame⟩ := X101.leave (v := some (.ref b22)) (fun h => by rw [Bd.returns] at h; cases h) Bd.notSynchronized
  refine ⟨_, _, pre_s6 _ ?_, hrun, hended, _, _, rfl, ?_, ⟨_, rfl⟩, hW, hsame.mono (by decide) (by decide)⟩
  · show Steps p.tables e below (T_s6.setTop (mkF m 231 #[.val (.int n), .val (.int x0), .val (.int x1), .val (.int x2), .val (.ref bl), .val (.ref b1), .val (.int lm2), .val (.ref b22), .val (.int lc6)] [])) _
    refine XS.aload X_s6.here hx rfl (hb hby d1_231) rfl rfl ?_
    show Steps p.tables e below (T_s6.setTop (mkF m 233 #[.val (.int n), .val (.int x0), .val (.int x1), .val (.int x2), .val (.ref bl), .val (.ref b1), .val (.int lm2), .val (.ref b22), .val (.int lc6)] [(.ref b22)])) _
    refine XS.iconst X_s6.here hx rfl (hb hby d1_233) ?_
    show Steps p.tables e below (T_s6.setTop (mkF m 234 #[.val (.int n), .val (.int x0), .val (.int x1), .val (.int x2), .val (.ref bl), .val (.ref b1), .val (.int lm2), .val (.ref b22), .val (.int lc6)] [(.int (0 : Int32)), (.ref b22)])) _
    refine XS.iload X_s6.here hx rfl (hb hby d1_234) rfl ?_
    show Steps p.tables e below (T_s6.setTop (mkF m 236 #[.val (.int n), .val (.int x0), .val (.int x1), .val (.int x2), .val (.ref bl), .val (.ref b1), .val (.int lm2), .val (.ref b22), .val (.int lc6)] [(.int lc6), (.int (0 : Int32)), (.ref b22)])) _
    refine st101 _ ?_
    show Steps p.tables e below (T101.setTop (mkF m 237 #[.val (.int n), .val (.int x0), .val (.int x1), .val (.int x2), .val (.ref bl), .val (.ref b1), .val (.int lm2), .val (.ref b22), .val (.int lc6)] [])) _
    refine XS.aload X101.here hx rfl (hb hby d1_237) rfl rfl ?_
    show Steps p.tables e below (T101.setTop (mkF m 239 #[.val (.int n), .val (.int x0), .val (.int x1), .val (.int x2), .val (.ref bl), .val (.ref b1), .val (.int lm2), .val (.ref b22), .val (.int lc6)] [(.ref b22)])) _
    jvm_step X101.here [X101.here.top, hx, (hb hby d1_239), X101.method', Bd.returns, Value.isRef, FieldType.isReference]
    first | (intro acts; rw [hr _ acts rfl rfl rfl]) | rw [hr _ _ rfl rfl rfl]
    exact Steps.refl _
  · show Q_rmE Z n x0 x1 x2 bl kl y h0 n0 _ T101.heap _
    rw [e101]
    exact ⟨b22, rfl, N101, K102, sz_b22, k22, (by rw [own_exp_eq hE r_s6]; exact Vn101)⟩
def own_QI (Z : State) (h : Heap) (aq bl bw br r0 r1 bf bc : Addr) (y : List Int32) (σ : own_Q) : Prop := ∃ kl kw kr k0 k1 kf kc : ClassId, Exa Z h aq "com/example/contrepoint/contrepoint/IndexQueue" ∧ Fld Z h aq "com/example/contrepoint/contrepoint/IndexQueue" "late" "[Z" (.ref bl) ∧ Fld Z h aq "com/example/contrepoint/contrepoint/IndexQueue" "waiting" "[Z" (.ref bw) ∧ Fld Z h aq "com/example/contrepoint/contrepoint/IndexQueue" "rings" "[[I" (.ref br) ∧ Fld Z h aq "com/example/contrepoint/contrepoint/IndexQueue" "firsts" "[I" (.ref bf) ∧ Fld Z h aq "com/example/contrepoint/contrepoint/IndexQueue" "counts" "[I" (.ref bc) ∧ Arv Z h bl kl .boolean (3 : Int32) (y.map Value.int) (.int (0 : Int32)) ∧ Arv Z h bw kw .boolean (3 : Int32) (σ.1.map Value.int) (.int (0 : Int32)) ∧ Arv Z h br kr (.array .int) (2 : Int32) [(.ref r0), (.ref r1)] .null ∧ Arv Z h r0 k0 .int ((3 : Int32) - own_cn y) (σ.2.1.map Value.int) (.int (0 : Int32)) ∧ Arv Z h r1 k1 .int (own_cn y) (σ.2.2.1.map Value.int) (.int (0 : Int32)) ∧ Arv Z h bf kf .int (2 : Int32) (σ.2.2.2.1.map Value.int) (.int (0 : Int32)) ∧ Arv Z h bc kc .int (2 : Int32) (σ.2.2.2.2.map Value.int) (.int (0 : Int32))
theorem own_QI_E {Z : State} {h : Heap} {aq bl bw br r0 r1 bf bc : Addr} {y : List Int32} {σ : own_Q} (H : own_QI Z h aq bl bw br r0 r1 bf bc y σ) : Exa Z h aq "com/example/contrepoint/contrepoint/IndexQueue" := by
  obtain ⟨_, _, _, _, _, _, _, E, -⟩ := H
  exact E
theorem pn_com_example_contrepoint_contrepoint_IndexQueue : plainName "com/example/contrepoint/contrepoint/IndexQueue" = true := by first | (simp [plainName, overriddenIn]; done) | decide +kernel
theorem ef_4 (m : MethodId) (x0 : Addr) (x1 : Int32) : entryFrame m #[(.ref x0), (.int x1)] 4 = mkF m 0 #[.val (.ref x0), .val (.int x1), .unset, .unset] [] := by first | (simp [entryFrame, mkF, argsToLocals, Value.category]; done) | rfl
theorem d4_0 : decode prog_32_method_4_code 0 = .ok (.aload_n 0, 1) := by decide +kernel
theorem d4_1 : decode prog_32_method_4_code 1 = .ok (.getfield 21, 3) := by decide +kernel
theorem d4_4 : decode prog_32_method_4_code 4 = .ok (.iload_n 1, 1) := by decide +kernel
theorem d4_5 : decode prog_32_method_4_code 5 = .ok (.baload, 1) := by decide +kernel
theorem d4_6 : decode prog_32_method_4_code 6 = .ok (.ifCond .ne 61, 3) := by decide +kernel
theorem d4_9 : decode prog_32_method_4_code 9 = .ok (.aload_n 0, 1) := by decide +kernel
theorem d4_10 : decode prog_32_method_4_code 10 = .ok (.getfield 21, 3) := by decide +kernel
theorem d4_13 : decode prog_32_method_4_code 13 = .ok (.iload_n 1, 1) := by decide +kernel
theorem d4_14 : decode prog_32_method_4_code 14 = .ok (.iconst 1, 1) := by decide +kernel
theorem d4_15 : decode prog_32_method_4_code 15 = .ok (.bastore, 1) := by decide +kernel
theorem d4_16 : decode prog_32_method_4_code 16 = .ok (.aload_n 0, 1) := by decide +kernel
theorem d4_17 : decode prog_32_method_4_code 17 = .ok (.getfield 18, 3) := by decide +kernel
theorem d4_20 : decode prog_32_method_4_code 20 = .ok (.iload_n 1, 1) := by decide +kernel
theorem d4_21 : decode prog_32_method_4_code 21 = .ok (.baload, 1) := by decide +kernel
theorem d4_22 : decode prog_32_method_4_code 22 = .ok (.ifCond .eq 7, 3) := by decide +kernel
theorem d4_29 : decode prog_32_method_4_code 29 = .ok (.iconst 0, 1) := by decide +kernel
theorem d4_30 : decode prog_32_method_4_code 30 = .ok (.istore_n 2, 1) := by decide +kernel
theorem d4_31 : decode prog_32_method_4_code 31 = .ok (.aload_n 0, 1) := by decide +kernel
theorem d4_32 : decode prog_32_method_4_code 32 = .ok (.getfield 26, 3) := by decide +kernel
theorem d4_35 : decode prog_32_method_4_code 35 = .ok (.iload_n 2, 1) := by decide +kernel
theorem d4_36 : decode prog_32_method_4_code 36 = .ok (.aaload, 1) := by decide +kernel
theorem d4_37 : decode prog_32_method_4_code 37 = .ok (.astore_n 3, 1) := by decide +kernel
theorem d4_38 : decode prog_32_method_4_code 38 = .ok (.aload_n 3, 1) := by decide +kernel
theorem d4_39 : decode prog_32_method_4_code 39 = .ok (.aload_n 0, 1) := by decide +kernel
theorem d4_40 : decode prog_32_method_4_code 40 = .ok (.getfield 30, 3) := by decide +kernel
theorem d4_43 : decode prog_32_method_4_code 43 = .ok (.iload_n 2, 1) := by decide +kernel
theorem d4_44 : decode prog_32_method_4_code 44 = .ok (.iaload, 1) := by decide +kernel
theorem d4_45 : decode prog_32_method_4_code 45 = .ok (.aload_n 0, 1) := by decide +kernel
theorem d4_46 : decode prog_32_method_4_code 46 = .ok (.getfield 33, 3) := by decide +kernel
theorem d4_49 : decode prog_32_method_4_code 49 = .ok (.iload_n 2, 1) := by decide +kernel
theorem d4_50 : decode prog_32_method_4_code 50 = .ok (.iaload, 1) := by decide +kernel
theorem d4_51 : decode prog_32_method_4_code 51 = .ok (.iadd, 1) := by decide +kernel
theorem d4_52 : decode prog_32_method_4_code 52 = .ok (.aload_n 3, 1) := by decide +kernel
theorem d4_53 : decode prog_32_method_4_code 53 = .ok (.arraylength, 1) := by decide +kernel
theorem d4_54 : decode prog_32_method_4_code 54 = .ok (.irem, 1) := by decide +kernel
theorem d4_55 : decode prog_32_method_4_code 55 = .ok (.iload_n 1, 1) := by decide +kernel
theorem d4_56 : decode prog_32_method_4_code 56 = .ok (.iastore, 1) := by decide +kernel
theorem d4_57 : decode prog_32_method_4_code 57 = .ok (.aload_n 0, 1) := by decide +kernel
theorem d4_58 : decode prog_32_method_4_code 58 = .ok (.getfield 33, 3) := by decide +kernel
theorem d4_61 : decode prog_32_method_4_code 61 = .ok (.iload_n 2, 1) := by decide +kernel
theorem d4_62 : decode prog_32_method_4_code 62 = .ok (.dup2, 1) := by decide +kernel
theorem d4_63 : decode prog_32_method_4_code 63 = .ok (.iaload, 1) := by decide +kernel
theorem d4_64 : decode prog_32_method_4_code 64 = .ok (.iconst 1, 1) := by decide +kernel
theorem d4_65 : decode prog_32_method_4_code 65 = .ok (.iadd, 1) := by decide +kernel
theorem d4_66 : decode prog_32_method_4_code 66 = .ok (.iastore, 1) := by decide +kernel
theorem d4_67 : decode prog_32_method_4_code 67 = .ok (.return_, 1) := by decide +kernel
theorem d4_25 : decode prog_32_method_4_code 25 = .ok (.iconst 1, 1) := by decide +kernel
theorem d4_26 : decode prog_32_method_4_code 26 = .ok (.goto 4, 3) := by decide +kernel
def Q_rmA (Z : State) (aq : Addr) (x : Int32) (bl : Addr) (bw : Addr) (br : Addr) (r0 : Addr) (r1 : Addr) (bf : Addr) (bc : Addr) (y : List Int32) (σ : own_Q) (h0 : Heap) (n0 : Nat) (v : Option Value) (h : Heap) (L : List Loc) : Prop := v = none ∧ Fr n0 L ∧ Keep h0 h [bw, r0, r1, bc] ∧ own_QI Z h aq bl bw br r0 r1 bf bc y (own_add y x σ)
set_option maxRecDepth 65536 in
set_option maxHeartbeats 40000000 in
theorem rmA (l : Launch) (Z : State) (a0 : Array Value) (hw : ∀ d ∈ tables_1, d.before a0 Z = true) (ws : List Jvm.Cond) (aq : Addr) (x : Int32) (bl : Addr) (bw : Addr) (br : Addr) (r0 : Addr) (r1 : Addr) (bf : Addr) (bc : Addr) (y : List Int32) (σ : own_Q) (h0 : Heap) (n0 : Nat) (Z0 : n0 ≤ h0.size) (gq : n0 ≤ aq) (od : aq < bl ∧ bl < bw ∧ bw < br ∧ br < r0 ∧ r0 < r1 ∧ r1 < bf ∧ bf < bc) (QI : own_QI Z h0 aq bl bw br r0 r1 bf bc y σ) (hok : own_okA y x σ = true) :
    MetFree l (⟨"com/example/contrepoint/contrepoint/IndexQueue", "add", "(I)V"⟩ : MethodName) (head1 (Jvm.Cond.code (⟨"com/example/contrepoint/contrepoint/IndexQueue", "add", "(I)V"⟩ : MethodName) prog_32_method_4_code 4 none :: ws) ({ frames := 0, cells := 0, slots := 0, locals := 0 } : Room)) (fun a U => a = #[(.ref aq), (.int x)] ∧ Z.Warmed39 U.vm ∧ U.heap = h0) (fun _ _ _ _ _ => True) (fun _ U o U' => ∃ v L, o = .returned v ∧ Q_rmA Z aq x bl bw br r0 r1 bf bc y σ h0 n0 v U'.heap L ∧ FrameEnd U o U' L ({ frames := 0, cells := 0, slots := 0, locals := 0 } : Room).cells ({ frames := 0, cells := 0, slots := 0, locals := 0 } : Room).slots) := by
  refine MetFree.of_bodySF (plainFor_of_name pn_com_example_contrepoint_contrepoint_IndexQueue) hisR ?_
  intro p e s m args below meth c s₁ Bd hml0 hP hK
  obtain ⟨rfl, hZ, hh⟩ := hP
  have hx := Bd.exec
  have hby := Bd.bytes
  have hml : c.maxLocals = 4 := hml0
  have hown : s.vm.findClass "com/example/contrepoint/contrepoint/IndexQueue" = some m.cls := findClass_of_methodNamed Bd.named
  have hnm := (name_of_methodNamed Bd.named Bd.method).1
  have X0 : Stand p l e ({ frames := 0, cells := 0, slots := 0, locals := 0 } : Room) s m #[(.ref aq), (.int x)] below meth c s₁ [] 0 0 := Stand.of_body Bd
  have e0 : s₁.heap = h0 := by rw [← hh, Bd.state]; rfl
  have N0 := Fr.nil n0
  have pre0 : ∀ t, Steps p.tables e below (s₁.setTop (mkF m 0 #[.val (.ref aq), .val (.int x), .unset, .unset] [])) t → Steps p.tables e below (s₁.setTop (entryFrame m #[(.ref aq), (.int x)] 4)) t := fun t k => castTop (ef_4 m aq x) k
  obtain ⟨S0, hS0⟩ : ∃ S, S = s₁.setTop (entryFrame m #[(.ref aq), (.int x)] 4) := ⟨_, rfl⟩
  rw [← hS0] at pre0 ⊢
  have QI0 := QI
  obtain ⟨kl, kw, kr, k0, k1, kf, kc, EQ, fd_late, fd_waiting, fd_rings, fd_firsts, fd_counts, va_bl, va_bw, va_br, va_r0, va_r1, va_bf, va_bc⟩ := QI
  obtain ⟨od1, od2, od3, od4, od5, od6, od7⟩ := od
  have od1 : @LT.lt Nat _ aq bl := od1
  have od2 : @LT.lt Nat _ bl bw := od2
  have od3 : @LT.lt Nat _ bw br := od3
  have od4 : @LT.lt Nat _ br r0 := od4
  have od5 : @LT.lt Nat _ r0 r1 := od5
  have od6 : @LT.lt Nat _ r1 bf := od6
  have od7 : @LT.lt Nat _ bf bc := od7
  obtain ⟨hly, hl1, hl2, hl3, hl4, hl5, hix, hq0, hq1⟩ := own_okA_e hok
  obtain ⟨T1, X1, e1, st1⟩ := getF X0 hx hZ hown (host := "") (Or.inl (hw _ (List.mem_of_getElem? (i := 27) rfl))) Via.refl e0 fd_waiting (g := (mkF m 1 #[.val (.ref aq), .val (.int x), .unset, .unset] [(.ref aq)])) rfl rfl (hb hby d4_1)
  obtain ⟨cl2, Arcl2, qcl2, Scl2, Ncl2, Hcl2, Gcl2⟩ := id va_bw
  have hincl2 : ¬ (x < 0 ∨ cl2.slots.size ≤ (x).toNatClampNeg) := inb_of Scl2 (own_in_e hix)
  have hatcl2 : cl2.slots[(x).toNatClampNeg]? = some (.int (σ.1.getD x.toNatClampNeg 0)) := Hcl2.at hincl2 (own_gm σ.1 _)
  have pre3 : ∀ t, Steps p.tables e below (T1.setTop (mkF m 6 #[.val (.ref aq), .val (.int x), .unset, .unset] [(.int (σ.1.getD x.toNatClampNeg 0))])) t → Steps p.tables e below S0 t := by
    intro t k
    refine pre0 t ?_
    show Steps p.tables e below (s₁.setTop (mkF m 0 #[.val (.ref aq), .val (.int x), .unset, .unset] [])) _
    refine XS.aloadN X0.here hx rfl (hb hby d4_0) rfl rfl ?_
    show Steps p.tables e below (s₁.setTop (mkF m 1 #[.val (.ref aq), .val (.int x), .unset, .unset] [(.ref aq)])) _
    refine st1 _ ?_
    show Steps p.tables e below (T1.setTop (mkF m 4 #[.val (.ref aq), .val (.int x), .unset, .unset] [(.ref bw)])) _
    refine XS.iloadN X1.here hx rfl (hb hby d4_4) rfl ?_
    show Steps p.tables e below (T1.setTop (mkF m 5 #[.val (.ref aq), .val (.int x), .unset, .unset] [(.int x), (.ref bw)])) _
    refine X1.baloadBooleans hx (j := x) (v := (.int (σ.1.getD x.toNatClampNeg 0))) (by rw [e1]; exact Arcl2.1) (State.isArrayOf_alike hZ.alike Arcl2.2.1) Arcl2.2.2 hincl2 hatcl2 (g := (mkF m 5 #[.val (.ref aq), .val (.int x), .unset, .unset] [(.int x), (.ref bw)])) rfl rfl (hb hby d4_5) _ ?_
    exact k
  by_cases hw0 : (σ.1.getD x.toNatClampNeg 0) = (0 : Int32)
  · obtain ⟨T4, X4, e4, st4⟩ := getF X1 hx hZ hown (host := "") (Or.inl (hw _ (List.mem_of_getElem? (i := 27) rfl))) Via.refl e1 fd_waiting (g := (mkF m 10 #[.val (.ref aq), .val (.int x), .unset, .unset] [(.ref aq)])) rfl rfl (hb hby d4_10)
    obtain ⟨cl5, Arcl5, qcl5, Scl5, Ncl5, Hcl5, Gcl5⟩ := id va_bw
    have hincl5 : ¬ (x < 0 ∨ cl5.slots.size ≤ (x).toNatClampNeg) := inb_of Scl5 (own_in_e hix)
    obtain ⟨T6, h6, X6, e6, W6, st6⟩ := stZ X4 hx hZ e4 Arcl5 (j := x) hincl5 (g := (mkF m 15 #[.val (.ref aq), .val (.int x), .unset, .unset] [(.int (1 : Int32)), (.int x), (.ref bw)])) rfl rfl (hb hby d4_15)
    have V6 := Arv.set Arcl5 qcl5 Scl5 Ncl5 Hcl5 Gcl5 (fits_nar_bool _) W6 x.toNatClampNeg rfl (own_lt hix hl1)
    have Vn6 : Arv Z h6 bw kw .boolean (3 : Int32) ((σ.1.set x.toNatClampNeg 1).map Value.int) (.int (0 : Int32)) := (by rw [List.map_set]; exact V6)
    have N6 := Fr.snoc X6 N0 (by omega)
    have K7 : Keep h0 h6 [bw, r0, r1, bc] := (Keep.refl h0 [bw, r0, r1, bc]).wr W6 (Or.inl (List.mem_of_getElem? (i := 0) rfl))
    have f_8 := (fd_late.other W6 (Or.inl (Nat.ne_of_lt (by omega))))
    obtain ⟨T9, X9, e9, st9⟩ := getF X6 hx hZ hown (host := "") (Or.inl (hw _ (List.mem_of_getElem? (i := 25) rfl))) Via.refl e6 f_8 (g := (mkF m 17 #[.val (.ref aq), .val (.int x), .unset, .unset] [(.ref aq)])) rfl rfl (hb hby d4_17)
    have f_10 := (va_bl.other W6 (Nat.ne_of_lt (by omega)))
    obtain ⟨cl11, Arcl11, qcl11, Scl11, Ncl11, Hcl11, Gcl11⟩ := id f_10
    have hincl11 : ¬ (x < 0 ∨ cl11.slots.size ≤ (x).toNatClampNeg) := inb_of Scl11 (own_in_e hix)
    have hatcl11 : cl11.slots[(x).toNatClampNeg]? = some (.int (own_late y x)) := Hcl11.at hincl11 (own_gm y _)
    have pre12 : ∀ t, Steps p.tables e below (T9.setTop (mkF m 22 #[.val (.ref aq), .val (.int x), .unset, .unset] [(.int (own_late y x))])) t → Steps p.tables e below S0 t := by
      intro t k
      refine pre3 t ?_
      show Steps p.tables e below (T1.setTop (mkF m 6 #[.val (.ref aq), .val (.int x), .unset, .unset] [(.int (σ.1.getD x.toNatClampNeg 0))])) _
      refine XS.ifNo X1.here hx rfl (hb hby d4_6) rfl ((if0 _ _).trans (teq hw0).2) ?_
      show Steps p.tables e below (T1.setTop (mkF m 9 #[.val (.ref aq), .val (.int x), .unset, .unset] [])) _
      refine XS.aloadN X1.here hx rfl (hb hby d4_9) rfl rfl ?_
      show Steps p.tables e below (T1.setTop (mkF m 10 #[.val (.ref aq), .val (.int x), .unset, .unset] [(.ref aq)])) _
      refine st4 _ ?_
      show Steps p.tables e below (T4.setTop (mkF m 13 #[.val (.ref aq), .val (.int x), .unset, .unset] [(.ref bw)])) _
      refine XS.iloadN X4.here hx rfl (hb hby d4_13) rfl ?_
      show Steps p.tables e below (T4.setTop (mkF m 14 #[.val (.ref aq), .val (.int x), .unset, .unset] [(.int x), (.ref bw)])) _
      refine XS.iconst X4.here hx rfl (hb hby d4_14) ?_
      show Steps p.tables e below (T4.setTop (mkF m 15 #[.val (.ref aq), .val (.int x), .unset, .unset] [(.int (1 : Int32)), (.int x), (.ref bw)])) _
      refine st6 _ ?_
      show Steps p.tables e below (T6.setTop (mkF m 16 #[.val (.ref aq), .val (.int x), .unset, .unset] [])) _
      refine XS.aloadN X6.here hx rfl (hb hby d4_16) rfl rfl ?_
      show Steps p.tables e below (T6.setTop (mkF m 17 #[.val (.ref aq), .val (.int x), .unset, .unset] [(.ref aq)])) _
      refine st9 _ ?_
      show Steps p.tables e below (T9.setTop (mkF m 20 #[.val (.ref aq), .val (.int x), .unset, .unset] [(.ref bl)])) _
      refine XS.iloadN X9.here hx rfl (hb hby d4_20) rfl ?_
      show Steps p.tables e below (T9.setTop (mkF m 21 #[.val (.ref aq), .val (.int x), .unset, .unset] [(.int x), (.ref bl)])) _
      refine X9.baloadBooleans hx (j := x) (v := (.int (own_late y x))) (by rw [e9]; exact Arcl11.1) (State.isArrayOf_alike hZ.alike Arcl11.2.1) Arcl11.2.2 hincl11 hatcl11 (g := (mkF m 21 #[.val (.ref aq), .val (.int x), .unset, .unset] [(.int x), (.ref bl)])) rfl rfl (hb hby d4_21) _ ?_
      exact k
    by_cases hl : own_late y x = (0 : Int32)
    · obtain ⟨hnz, hii⟩ := hq0 hw0 hl
      have f_13 := (fd_rings.other W6 (Or.inl (Nat.ne_of_lt (by omega))))
      obtain ⟨T14, X14, e14, st14⟩ := getF X9 hx hZ hown (host := "") (Or.inl (hw _ (List.mem_of_getElem? (i := 32) rfl))) Via.refl e9 f_13 (g := (mkF m 32 #[.val (.ref aq), .val (.int x), .val (.int (0 : Int32)), .unset] [(.ref aq)])) rfl rfl (hb hby d4_32)
      have f_15 := (va_br.other W6 (Ne.symm (Nat.ne_of_lt (by omega))))
      obtain ⟨cl16, Arcl16, qcl16, Scl16, Ncl16, Hcl16, Gcl16⟩ := id f_15
      have hincl16 : ¬ ((0 : Int32) < 0 ∨ cl16.slots.size ≤ ((0 : Int32)).toNatClampNeg) := inb_of Scl16 ⟨by decide, by decide⟩
      have hatcl16 : cl16.slots[((0 : Int32)).toNatClampNeg]? = some (.ref r0) := Hcl16.at hincl16 rfl
      have f_17 := (fd_firsts.other W6 (Or.inl (Nat.ne_of_lt (by omega))))
      obtain ⟨T18, X18, e18, st18⟩ := getF X14 hx hZ hown (host := "") (Or.inl (hw _ (List.mem_of_getElem? (i := 34) rfl))) Via.refl e14 f_17 (g := (mkF m 40 #[.val (.ref aq), .val (.int x), .val (.int (0 : Int32)), .val (.ref r0)] [(.ref aq), (.ref r0)])) rfl rfl (hb hby d4_40)
      have f_19 := (va_bf.other W6 (Ne.symm (Nat.ne_of_lt (by omega))))
      obtain ⟨cl20, Arcl20, qcl20, Scl20, Ncl20, Hcl20, Gcl20⟩ := id f_19
      have hincl20 : ¬ ((0 : Int32) < 0 ∨ cl20.slots.size ≤ ((0 : Int32)).toNatClampNeg) := inb_of Scl20 ⟨by decide, by decide⟩
      have hatcl20 : cl20.slots[((0 : Int32)).toNatClampNeg]? = some (.int (σ.2.2.2.1.getD 0 0)) := Hcl20.at hincl20 (own_gm σ.2.2.2.1 0)
      have f_21 := (fd_counts.other W6 (Or.inl (Nat.ne_of_lt (by omega))))
      obtain ⟨T22, X22, e22, st22⟩ := getF X18 hx hZ hown (host := "") (Or.inl (hw _ (List.mem_of_getElem? (i := 36) rfl))) Via.refl e18 f_21 (g := (mkF m 46 #[.val (.ref aq), .val (.int x), .val (.int (0 : Int32)), .val (.ref r0)] [(.ref aq), (.int (σ.2.2.2.1.getD 0 0)), (.ref r0)])) rfl rfl (hb hby d4_46)
      have f_23 := (va_bc.other W6 (Ne.symm (Nat.ne_of_lt (by omega))))
      obtain ⟨cl24, Arcl24, qcl24, Scl24, Ncl24, Hcl24, Gcl24⟩ := id f_23
      have hincl24 : ¬ ((0 : Int32) < 0 ∨ cl24.slots.size ≤ ((0 : Int32)).toNatClampNeg) := inb_of Scl24 ⟨by decide, by decide⟩
      have hatcl24 : cl24.slots[((0 : Int32)).toNatClampNeg]? = some (.int (σ.2.2.2.2.getD 0 0)) := Hcl24.at hincl24 (own_gm σ.2.2.2.2 0)
      have f_25 := (va_r0.other W6 (Ne.symm (Nat.ne_of_lt (by omega))))
      obtain ⟨cl26, Arcl26, -, Scl26, Ncl26, -, -⟩ := id f_25
      obtain ⟨cl27, Arcl27, qcl27, Scl27, Ncl27, Hcl27, Gcl27⟩ := id f_25
      have hincl27 : ¬ ((((σ.2.2.2.1.getD 0 0) + (σ.2.2.2.2.getD 0 0)) % ((3 : Int32) - own_cn y)) < 0 ∨ cl27.slots.size ≤ ((((σ.2.2.2.1.getD 0 0) + (σ.2.2.2.2.getD 0 0)) % ((3 : Int32) - own_cn y))).toNatClampNeg) := inb_of Scl27 (own_in_e hii)
      obtain ⟨T28, h28, X28, e28, W28, st28⟩ := stI X22 hx hZ e22 Arcl27 (j := (((σ.2.2.2.1.getD 0 0) + (σ.2.2.2.2.getD 0 0)) % ((3 : Int32) - own_cn y))) hincl27 (g := (mkF m 56 #[.val (.ref aq), .val (.int x), .val (.int (0 : Int32)), .val (.ref r0)] [(.int x), (.int (((σ.2.2.2.1.getD 0 0) + (σ.2.2.2.2.getD 0 0)) % ((3 : Int32) - own_cn y))), (.ref r0)])) rfl rfl (hb hby d4_56)
      have V28 := Arv.set Arcl27 qcl27 Scl27 Ncl27 Hcl27 Gcl27 rfl W28 (((σ.2.2.2.1.getD 0 0) + (σ.2.2.2.2.getD 0 0)) % ((3 : Int32) - own_cn y)).toNatClampNeg rfl (own_lt hii hl2)
      have Vn28 : Arv Z h28 r0 k0 .int ((3 : Int32) - own_cn y) ((σ.2.1.set (((σ.2.2.2.1.getD 0 0) + (σ.2.2.2.2.getD 0 0)) % ((3 : Int32) - own_cn y)).toNatClampNeg x).map Value.int) (.int (0 : Int32)) := (by rw [List.map_set]; exact V28)
      have N28 := Fr.snoc X28 N6 (by omega)
      have K29 : Keep h0 h28 [bw, r0, r1, bc] := K7.wr W28 (Or.inl (List.mem_of_getElem? (i := 1) rfl))
      have f_30 := (f_21.other W28 (Or.inl (Nat.ne_of_lt (by omega))))
      obtain ⟨T31, X31, e31, st31⟩ := getF X28 hx hZ hown (host := "") (Or.inl (hw _ (List.mem_of_getElem? (i := 36) rfl))) Via.refl e28 f_30 (g := (mkF m 58 #[.val (.ref aq), .val (.int x), .val (.int (0 : Int32)), .val (.ref r0)] [(.ref aq)])) rfl rfl (hb hby d4_58)
      have f_32 := (f_23.other W28 (Ne.symm (Nat.ne_of_lt (by omega))))
      obtain ⟨cl33, Arcl33, qcl33, Scl33, Ncl33, Hcl33, Gcl33⟩ := id f_32
      have hincl33 : ¬ ((0 : Int32) < 0 ∨ cl33.slots.size ≤ ((0 : Int32)).toNatClampNeg) := inb_of Scl33 ⟨by decide, by decide⟩
      have hatcl33 : cl33.slots[((0 : Int32)).toNatClampNeg]? = some (.int (σ.2.2.2.2.getD 0 0)) := Hcl33.at hincl33 (own_gm σ.2.2.2.2 0)
      have pre34 : ∀ t, Steps p.tables e below (T31.setTop (mkF m 66 #[.val (.ref aq), .val (.int x), .val (.int (0 : Int32)), .val (.ref r0)] [(.int ((σ.2.2.2.2.getD 0 0) + (1 : Int32))), (.int (0 : Int32)), (.ref bc)])) t → Steps p.tables e below S0 t := by
        intro t k
        refine pre12 t ?_
        show Steps p.tables e below (T9.setTop (mkF m 22 #[.val (.ref aq), .val (.int x), .unset, .unset] [(.int (own_late y x))])) _
        refine XS.ifYes X9.here hx rfl (pc0 := 22) (pc' := 29) rfl (hb hby d4_22) rfl ((if0 _ _).trans (teq hl).1) (by decide) (by decide) ?_
        show Steps p.tables e below (T9.setTop (mkF m 29 #[.val (.ref aq), .val (.int x), .unset, .unset] [])) _
        refine XS.iconst X9.here hx rfl (hb hby d4_29) ?_
        show Steps p.tables e below (T9.setTop (mkF m 30 #[.val (.ref aq), .val (.int x), .unset, .unset] [(.int (0 : Int32))])) _
        refine XS.istoreN X9.here hx rfl (hb hby d4_30) rfl (l' := #[.val (.ref aq), .val (.int x), .val (.int (0 : Int32)), .unset]) rfl ?_
        show Steps p.tables e below (T9.setTop (mkF m 31 #[.val (.ref aq), .val (.int x), .val (.int (0 : Int32)), .unset] [])) _
        refine XS.aloadN X9.here hx rfl (hb hby d4_31) rfl rfl ?_
        show Steps p.tables e below (T9.setTop (mkF m 32 #[.val (.ref aq), .val (.int x), .val (.int (0 : Int32)), .unset] [(.ref aq)])) _
        refine st14 _ ?_
        show Steps p.tables e below (T14.setTop (mkF m 35 #[.val (.ref aq), .val (.int x), .val (.int (0 : Int32)), .unset] [(.ref br)])) _
        refine XS.iloadN X14.here hx rfl (hb hby d4_35) rfl ?_
        show Steps p.tables e below (T14.setTop (mkF m 36 #[.val (.ref aq), .val (.int x), .val (.int (0 : Int32)), .unset] [(.int (0 : Int32)), (.ref br)])) _
        refine X14.aaload hx (j := (0 : Int32)) (v := (.ref r0)) (by rw [e14]; exact Arcl16.1) (State.isArrayOf_alike hZ.alike Arcl16.2.1) rfl Arcl16.2.2 hincl16 hatcl16 (g := (mkF m 36 #[.val (.ref aq), .val (.int x), .val (.int (0 : Int32)), .unset] [(.int (0 : Int32)), (.ref br)])) rfl rfl (hb hby d4_36) _ ?_
        show Steps p.tables e below (T14.setTop (mkF m 37 #[.val (.ref aq), .val (.int x), .val (.int (0 : Int32)), .unset] [(.ref r0)])) _
        refine XS.astoreN X14.here hx rfl (hb hby d4_37) rfl rfl (l' := #[.val (.ref aq), .val (.int x), .val (.int (0 : Int32)), .val (.ref r0)]) rfl ?_
        show Steps p.tables e below (T14.setTop (mkF m 38 #[.val (.ref aq), .val (.int x), .val (.int (0 : Int32)), .val (.ref r0)] [])) _
        refine XS.aloadN X14.here hx rfl (hb hby d4_38) rfl rfl ?_
        show Steps p.tables e below (T14.setTop (mkF m 39 #[.val (.ref aq), .val (.int x), .val (.int (0 : Int32)), .val (.ref r0)] [(.ref r0)])) _
        refine XS.aloadN X14.here hx rfl (hb hby d4_39) rfl rfl ?_
        show Steps p.tables e below (T14.setTop (mkF m 40 #[.val (.ref aq), .val (.int x), .val (.int (0 : Int32)), .val (.ref r0)] [(.ref aq), (.ref r0)])) _
        refine st18 _ ?_
        show Steps p.tables e below (T18.setTop (mkF m 43 #[.val (.ref aq), .val (.int x), .val (.int (0 : Int32)), .val (.ref r0)] [(.ref bf), (.ref r0)])) _
        refine XS.iloadN X18.here hx rfl (hb hby d4_43) rfl ?_
        show Steps p.tables e below (T18.setTop (mkF m 44 #[.val (.ref aq), .val (.int x), .val (.int (0 : Int32)), .val (.ref r0)] [(.int (0 : Int32)), (.ref bf), (.ref r0)])) _
        refine X18.iaload hx (j := (0 : Int32)) (v := (.int (σ.2.2.2.1.getD 0 0))) (by rw [e18]; exact Arcl20.1) (State.isArrayOf_alike hZ.alike Arcl20.2.1) Arcl20.2.2 hincl20 hatcl20 (g := (mkF m 44 #[.val (.ref aq), .val (.int x), .val (.int (0 : Int32)), .val (.ref r0)] [(.int (0 : Int32)), (.ref bf), (.ref r0)])) rfl rfl (hb hby d4_44) _ ?_
        show Steps p.tables e below (T18.setTop (mkF m 45 #[.val (.ref aq), .val (.int x), .val (.int (0 : Int32)), .val (.ref r0)] [(.int (σ.2.2.2.1.getD 0 0)), (.ref r0)])) _
        refine XS.aloadN X18.here hx rfl (hb hby d4_45) rfl rfl ?_
        show Steps p.tables e below (T18.setTop (mkF m 46 #[.val (.ref aq), .val (.int x), .val (.int (0 : Int32)), .val (.ref r0)] [(.ref aq), (.int (σ.2.2.2.1.getD 0 0)), (.ref r0)])) _
        refine st22 _ ?_
        show Steps p.tables e below (T22.setTop (mkF m 49 #[.val (.ref aq), .val (.int x), .val (.int (0 : Int32)), .val (.ref r0)] [(.ref bc), (.int (σ.2.2.2.1.getD 0 0)), (.ref r0)])) _
        refine XS.iloadN X22.here hx rfl (hb hby d4_49) rfl ?_
        show Steps p.tables e below (T22.setTop (mkF m 50 #[.val (.ref aq), .val (.int x), .val (.int (0 : Int32)), .val (.ref r0)] [(.int (0 : Int32)), (.ref bc), (.int (σ.2.2.2.1.getD 0 0)), (.ref r0)])) _
        refine X22.iaload hx (j := (0 : Int32)) (v := (.int (σ.2.2.2.2.getD 0 0))) (by rw [e22]; exact Arcl24.1) (State.isArrayOf_alike hZ.alike Arcl24.2.1) Arcl24.2.2 hincl24 hatcl24 (g := (mkF m 50 #[.val (.ref aq), .val (.int x), .val (.int (0 : Int32)), .val (.ref r0)] [(.int (0 : Int32)), (.ref bc), (.int (σ.2.2.2.1.getD 0 0)), (.ref r0)])) rfl rfl (hb hby d4_50) _ ?_
        show Steps p.tables e below (T22.setTop (mkF m 51 #[.val (.ref aq), .val (.int x), .val (.int (0 : Int32)), .val (.ref r0)] [(.int (σ.2.2.2.2.getD 0 0)), (.int (σ.2.2.2.1.getD 0 0)), (.ref r0)])) _
        refine XS.iadd X22.here hx rfl (hb hby d4_51) rfl ?_
        show Steps p.tables e below (T22.setTop (mkF m 52 #[.val (.ref aq), .val (.int x), .val (.int (0 : Int32)), .val (.ref r0)] [(.int ((σ.2.2.2.1.getD 0 0) + (σ.2.2.2.2.getD 0 0))), (.ref r0)])) _
        refine XS.aloadN X22.here hx rfl (hb hby d4_52) rfl rfl ?_
        show Steps p.tables e below (T22.setTop (mkF m 53 #[.val (.ref aq), .val (.int x), .val (.int (0 : Int32)), .val (.ref r0)] [(.ref r0), (.int ((σ.2.2.2.1.getD 0 0) + (σ.2.2.2.2.getD 0 0))), (.ref r0)])) _
        refine X22.arraylength hx (by rw [e22]; exact Arcl26.1) (State.isArrayOf_alike hZ.alike Arcl26.2.1) (g := (mkF m 53 #[.val (.ref aq), .val (.int x), .val (.int (0 : Int32)), .val (.ref r0)] [(.ref r0), (.int ((σ.2.2.2.1.getD 0 0) + (σ.2.2.2.2.getD 0 0))), (.ref r0)])) rfl rfl (hb hby d4_53) _ ?_
        rw [len_of Scl26 Ncl26]
        show Steps p.tables e below (T22.setTop (mkF m 54 #[.val (.ref aq), .val (.int x), .val (.int (0 : Int32)), .val (.ref r0)] [(.int ((3 : Int32) - own_cn y)), (.int ((σ.2.2.2.1.getD 0 0) + (σ.2.2.2.2.getD 0 0))), (.ref r0)])) _
        refine iremM (g := (mkF m 54 #[.val (.ref aq), .val (.int x), .val (.int (0 : Int32)), .val (.ref r0)] [(.int ((3 : Int32) - own_cn y)), (.int ((σ.2.2.2.1.getD 0 0) + (σ.2.2.2.2.getD 0 0))), (.ref r0)])) X22 hx rfl (hb hby d4_54) rfl hnz ?_
        show Steps p.tables e below (T22.setTop (mkF m 55 #[.val (.ref aq), .val (.int x), .val (.int (0 : Int32)), .val (.ref r0)] [(.int (((σ.2.2.2.1.getD 0 0) + (σ.2.2.2.2.getD 0 0)) % ((3 : Int32) - own_cn y))), (.ref r0)])) _
        refine XS.iloadN X22.here hx rfl (hb hby d4_55) rfl ?_
        show Steps p.tables e below (T22.setTop (mkF m 56 #[.val (.ref aq), .val (.int x), .val (.int (0 : Int32)), .val (.ref r0)] [(.int x), (.int (((σ.2.2.2.1.getD 0 0) + (σ.2.2.2.2.getD 0 0)) % ((3 : Int32) - own_cn y))), (.ref r0)])) _
        refine st28 _ ?_
        show Steps p.tables e below (T28.setTop (mkF m 57 #[.val (.ref aq), .val (.int x), .val (.int (0 : Int32)), .val (.ref r0)] [])) _
        refine XS.aloadN X28.here hx rfl (hb hby d4_57) rfl rfl ?_
        show Steps p.tables e below (T28.setTop (mkF m 58 #[.val (.ref aq), .val (.int x), .val (.int (0 : Int32)), .val (.ref r0)] [(.ref aq)])) _
        refine st31 _ ?_
        show Steps p.tables e below (T31.setTop (mkF m 61 #[.val (.ref aq), .val (.int x), .val (.int (0 : Int32)), .val (.ref r0)] [(.ref bc)])) _
        refine XS.iloadN X31.here hx rfl (hb hby d4_61) rfl ?_
        show Steps p.tables e below (T31.setTop (mkF m 62 #[.val (.ref aq), .val (.int x), .val (.int (0 : Int32)), .val (.ref r0)] [(.int (0 : Int32)), (.ref bc)])) _
        jvm_step X31.here [X31.here.top, hx, (hb hby d4_62), Value.category]
        show Steps p.tables e below (T31.setTop (mkF m 63 #[.val (.ref aq), .val (.int x), .val (.int (0 : Int32)), .val (.ref r0)] [(.int (0 : Int32)), (.ref bc), (.int (0 : Int32)), (.ref bc)])) _
        refine X31.iaload hx (j := (0 : Int32)) (v := (.int (σ.2.2.2.2.getD 0 0))) (by rw [e31]; exact Arcl33.1) (State.isArrayOf_alike hZ.alike Arcl33.2.1) Arcl33.2.2 hincl33 hatcl33 (g := (mkF m 63 #[.val (.ref aq), .val (.int x), .val (.int (0 : Int32)), .val (.ref r0)] [(.int (0 : Int32)), (.ref bc), (.int (0 : Int32)), (.ref bc)])) rfl rfl (hb hby d4_63) _ ?_
        show Steps p.tables e below (T31.setTop (mkF m 64 #[.val (.ref aq), .val (.int x), .val (.int (0 : Int32)), .val (.ref r0)] [(.int (σ.2.2.2.2.getD 0 0)), (.int (0 : Int32)), (.ref bc)])) _
        refine XS.iconst X31.here hx rfl (hb hby d4_64) ?_
        show Steps p.tables e below (T31.setTop (mkF m 65 #[.val (.ref aq), .val (.int x), .val (.int (0 : Int32)), .val (.ref r0)] [(.int (1 : Int32)), (.int (σ.2.2.2.2.getD 0 0)), (.int (0 : Int32)), (.ref bc)])) _
        refine XS.iadd X31.here hx rfl (hb hby d4_65) rfl ?_
        exact k
      obtain ⟨cl35, Arcl35, qcl35, Scl35, Ncl35, Hcl35, Gcl35⟩ := id f_32
      have hincl35 : ¬ ((0 : Int32) < 0 ∨ cl35.slots.size ≤ ((0 : Int32)).toNatClampNeg) := inb_of Scl35 ⟨by decide, by decide⟩
      obtain ⟨T36, h36, X36, e36, W36, st36⟩ := stI X31 hx hZ e31 Arcl35 (j := (0 : Int32)) hincl35 (g := (mkF m 66 #[.val (.ref aq), .val (.int x), .val (.int (0 : Int32)), .val (.ref r0)] [(.int ((σ.2.2.2.2.getD 0 0) + (1 : Int32))), (.int (0 : Int32)), (.ref bc)])) rfl rfl (hb hby d4_66)
      have V36 := Arv.set Arcl35 qcl35 Scl35 Ncl35 Hcl35 Gcl35 rfl W36 0 rfl (by rw [List.length_map, hl5]; decide)
      have Vn36 : Arv Z h36 bc kc .int (2 : Int32) ((σ.2.2.2.2.set 0 ((σ.2.2.2.2.getD 0 0) + 1)).map Value.int) (.int (0 : Int32)) := (by rw [List.map_set]; exact V36)
      have N36 := Fr.snoc X36 N28 (by omega)
      have K37 : Keep h0 h36 [bw, r0, r1, bc] := K29.wr W36 (Or.inl (List.mem_of_getElem? (i := 3) rfl))
      have f_38 := (((EQ.wr W6).wr W28).wr W36)
      have f_39 := ((f_8.other W28 (Or.inl (Nat.ne_of_lt (by omega)))).other W36 (Or.inl (Nat.ne_of_lt (by omega))))
      have f_40 := (((fd_waiting.other W6 (Or.inl (Nat.ne_of_lt (by omega)))).other W28 (Or.inl (Nat.ne_of_lt (by omega)))).other W36 (Or.inl (Nat.ne_of_lt (by omega))))
      have f_41 := ((f_13.other W28 (Or.inl (Nat.ne_of_lt (by omega)))).other W36 (Or.inl (Nat.ne_of_lt (by omega))))
      have f_42 := ((f_17.other W28 (Or.inl (Nat.ne_of_lt (by omega)))).other W36 (Or.inl (Nat.ne_of_lt (by omega))))
      have f_43 := (f_30.other W36 (Or.inl (Nat.ne_of_lt (by omega))))
      have f_44 := ((f_10.other W28 (Nat.ne_of_lt (by omega))).other W36 (Nat.ne_of_lt (by omega)))
      have f_45 := ((Vn6.other W28 (Nat.ne_of_lt (by omega))).other W36 (Nat.ne_of_lt (by omega)))
      have f_46 := ((f_15.other W28 (Nat.ne_of_lt (by omega))).other W36 (Nat.ne_of_lt (by omega)))
      have f_47 := (Vn28.other W36 (Nat.ne_of_lt (by omega)))
      have f_48 := (((va_r1.other W6 (Ne.symm (Nat.ne_of_lt (by omega)))).other W28 (Ne.symm (Nat.ne_of_lt (by omega)))).other W36 (Nat.ne_of_lt (by omega)))
      have f_49 := ((f_19.other W28 (Ne.symm (Nat.ne_of_lt (by omega)))).other W36 (Nat.ne_of_lt (by omega)))
      have fin : own_QI Z h36 aq bl bw br r0 r1 bf bc y (own_add y x σ) := by
        rw [own_add_0 hw0 hl]
        exact ⟨kl, kw, kr, k0, k1, kf, kc, f_38, f_39, f_40, f_41, f_42, f_43, f_44, f_45, f_46, f_47, f_48, f_49, Vn36⟩
      obtain ⟨fs, hr, hrun, hended, hW, hsame⟩ := X36.leave (v := none) (fun _ => rfl) Bd.notSynchronized
      refine ⟨_, _, pre34 _ ?_, hrun, hended, _, _, rfl, ?_, ⟨_, rfl⟩, hW, hsame.mono (by decide) (by decide)⟩
      · show Steps p.tables e below (T31.setTop (mkF m 66 #[.val (.ref aq), .val (.int x), .val (.int (0 : Int32)), .val (.ref r0)] [(.int ((σ.2.2.2.2.getD 0 0) + (1 : Int32))), (.int (0 : Int32)), (.ref bc)])) _
        refine st36 _ ?_
        show Steps p.tables e below (T36.setTop (mkF m 67 #[.val (.ref aq), .val (.int x), .val (.int (0 : Int32)), .val (.ref r0)] [])) _
        exact X36.returnOut hx Bd.returns (hb hby d4_67) hr
      · show Q_rmA Z aq x bl bw br r0 r1 bf bc y σ h0 n0 _ T36.heap _
        rw [e36]
        exact ⟨rfl, N36, K37, fin⟩
    · obtain ⟨hnz, hii⟩ := hq1 hw0 hl
      have f_50 := (fd_rings.other W6 (Or.inl (Nat.ne_of_lt (by omega))))
      obtain ⟨T51, X51, e51, st51⟩ := getF X9 hx hZ hown (host := "") (Or.inl (hw _ (List.mem_of_getElem? (i := 32) rfl))) Via.refl e9 f_50 (g := (mkF m 32 #[.val (.ref aq), .val (.int x), .val (.int (1 : Int32)), .unset] [(.ref aq)])) rfl rfl (hb hby d4_32)
      have f_52 := (va_br.other W6 (Ne.symm (Nat.ne_of_lt (by omega))))
      obtain ⟨cl53, Arcl53, qcl53, Scl53, Ncl53, Hcl53, Gcl53⟩ := id f_52
      have hincl53 : ¬ ((1 : Int32) < 0 ∨ cl53.slots.size ≤ ((1 : Int32)).toNatClampNeg) := inb_of Scl53 ⟨by decide, by decide⟩
      have hatcl53 : cl53.slots[((1 : Int32)).toNatClampNeg]? = some (.ref r1) := Hcl53.at hincl53 rfl
      have f_54 := (fd_firsts.other W6 (Or.inl (Nat.ne_of_lt (by omega))))
      obtain ⟨T55, X55, e55, st55⟩ := getF X51 hx hZ hown (host := "") (Or.inl (hw _ (List.mem_of_getElem? (i := 34) rfl))) Via.refl e51 f_54 (g := (mkF m 40 #[.val (.ref aq), .val (.int x), .val (.int (1 : Int32)), .val (.ref r1)] [(.ref aq), (.ref r1)])) rfl rfl (hb hby d4_40)
      have f_56 := (va_bf.other W6 (Ne.symm (Nat.ne_of_lt (by omega))))
      obtain ⟨cl57, Arcl57, qcl57, Scl57, Ncl57, Hcl57, Gcl57⟩ := id f_56
      have hincl57 : ¬ ((1 : Int32) < 0 ∨ cl57.slots.size ≤ ((1 : Int32)).toNatClampNeg) := inb_of Scl57 ⟨by decide, by decide⟩
      have hatcl57 : cl57.slots[((1 : Int32)).toNatClampNeg]? = some (.int (σ.2.2.2.1.getD 1 0)) := Hcl57.at hincl57 (own_gm σ.2.2.2.1 1)
      have f_58 := (fd_counts.other W6 (Or.inl (Nat.ne_of_lt (by omega))))
      obtain ⟨T59, X59, e59, st59⟩ := getF X55 hx hZ hown (host := "") (Or.inl (hw _ (List.mem_of_getElem? (i := 36) rfl))) Via.refl e55 f_58 (g := (mkF m 46 #[.val (.ref aq), .val (.int x), .val (.int (1 : Int32)), .val (.ref r1)] [(.ref aq), (.int (σ.2.2.2.1.getD 1 0)), (.ref r1)])) rfl rfl (hb hby d4_46)
      have f_60 := (va_bc.other W6 (Ne.symm (Nat.ne_of_lt (by omega))))
      obtain ⟨cl61, Arcl61, qcl61, Scl61, Ncl61, Hcl61, Gcl61⟩ := id f_60
      have hincl61 : ¬ ((1 : Int32) < 0 ∨ cl61.slots.size ≤ ((1 : Int32)).toNatClampNeg) := inb_of Scl61 ⟨by decide, by decide⟩
      have hatcl61 : cl61.slots[((1 : Int32)).toNatClampNeg]? = some (.int (σ.2.2.2.2.getD 1 0)) := Hcl61.at hincl61 (own_gm σ.2.2.2.2 1)
      have f_62 := (va_r1.other W6 (Ne.symm (Nat.ne_of_lt (by omega))))
      obtain ⟨cl63, Arcl63, -, Scl63, Ncl63, -, -⟩ := id f_62
      obtain ⟨cl64, Arcl64, qcl64, Scl64, Ncl64, Hcl64, Gcl64⟩ := id f_62
      have hincl64 : ¬ ((((σ.2.2.2.1.getD 1 0) + (σ.2.2.2.2.getD 1 0)) % (own_cn y)) < 0 ∨ cl64.slots.size ≤ ((((σ.2.2.2.1.getD 1 0) + (σ.2.2.2.2.getD 1 0)) % (own_cn y))).toNatClampNeg) := inb_of Scl64 (own_in_e hii)
      obtain ⟨T65, h65, X65, e65, W65, st65⟩ := stI X59 hx hZ e59 Arcl64 (j := (((σ.2.2.2.1.getD 1 0) + (σ.2.2.2.2.getD 1 0)) % (own_cn y))) hincl64 (g := (mkF m 56 #[.val (.ref aq), .val (.int x), .val (.int (1 : Int32)), .val (.ref r1)] [(.int x), (.int (((σ.2.2.2.1.getD 1 0) + (σ.2.2.2.2.getD 1 0)) % (own_cn y))), (.ref r1)])) rfl rfl (hb hby d4_56)
      have V65 := Arv.set Arcl64 qcl64 Scl64 Ncl64 Hcl64 Gcl64 rfl W65 (((σ.2.2.2.1.getD 1 0) + (σ.2.2.2.2.getD 1 0)) % (own_cn y)).toNatClampNeg rfl (own_lt hii hl3)
      have Vn65 : Arv Z h65 r1 k1 .int (own_cn y) ((σ.2.2.1.set (((σ.2.2.2.1.getD 1 0) + (σ.2.2.2.2.getD 1 0)) % (own_cn y)).toNatClampNeg x).map Value.int) (.int (0 : Int32)) := (by rw [List.map_set]; exact V65)
      have N65 := Fr.snoc X65 N6 (by omega)
      have K66 : Keep h0 h65 [bw, r0, r1, bc] := K7.wr W65 (Or.inl (List.mem_of_getElem? (i := 2) rfl))
      have f_67 := (f_58.other W65 (Or.inl (Nat.ne_of_lt (by omega))))
      obtain ⟨T68, X68, e68, st68⟩ := getF X65 hx hZ hown (host := "") (Or.inl (hw _ (List.mem_of_getElem? (i := 36) rfl))) Via.refl e65 f_67 (g := (mkF m 58 #[.val (.ref aq), .val (.int x), .val (.int (1 : Int32)), .val (.ref r1)] [(.ref aq)])) rfl rfl (hb hby d4_58)
      have f_69 := (f_60.other W65 (Ne.symm (Nat.ne_of_lt (by omega))))
      obtain ⟨cl70, Arcl70, qcl70, Scl70, Ncl70, Hcl70, Gcl70⟩ := id f_69
      have hincl70 : ¬ ((1 : Int32) < 0 ∨ cl70.slots.size ≤ ((1 : Int32)).toNatClampNeg) := inb_of Scl70 ⟨by decide, by decide⟩
      have hatcl70 : cl70.slots[((1 : Int32)).toNatClampNeg]? = some (.int (σ.2.2.2.2.getD 1 0)) := Hcl70.at hincl70 (own_gm σ.2.2.2.2 1)
      have pre71 : ∀ t, Steps p.tables e below (T68.setTop (mkF m 65 #[.val (.ref aq), .val (.int x), .val (.int (1 : Int32)), .val (.ref r1)] [(.int (1 : Int32)), (.int (σ.2.2.2.2.getD 1 0)), (.int (1 : Int32)), (.ref bc)])) t → Steps p.tables e below S0 t := by
        intro t k
        refine pre12 t ?_
        show Steps p.tables e below (T9.setTop (mkF m 22 #[.val (.ref aq), .val (.int x), .unset, .unset] [(.int (own_late y x))])) _
        refine XS.ifNo X9.here hx rfl (hb hby d4_22) rfl ((if0 _ _).trans (feq hl).1) ?_
        show Steps p.tables e below (T9.setTop (mkF m 25 #[.val (.ref aq), .val (.int x), .unset, .unset] [])) _
        refine XS.iconst X9.here hx rfl (hb hby d4_25) ?_
        show Steps p.tables e below (T9.setTop (mkF m 26 #[.val (.ref aq), .val (.int x), .unset, .unset] [(.int (1 : Int32))])) _
        refine XS.goto X9.here hx rfl (pc0 := 26) (pc' := 30) rfl (hb hby d4_26) (by decide) (by decide) ?_
        show Steps p.tables e below (T9.setTop (mkF m 30 #[.val (.ref aq), .val (.int x), .unset, .unset] [(.int (1 : Int32))])) _
        refine XS.istoreN X9.here hx rfl (hb hby d4_30) rfl (l' := #[.val (.ref aq), .val (.int x), .val (.int (1 : Int32)), .unset]) rfl ?_
        show Steps p.tables e below (T9.setTop (mkF m 31 #[.val (.ref aq), .val (.int x), .val (.int (1 : Int32)), .unset] [])) _
        refine XS.aloadN X9.here hx rfl (hb hby d4_31) rfl rfl ?_
        show Steps p.tables e below (T9.setTop (mkF m 32 #[.val (.ref aq), .val (.int x), .val (.int (1 : Int32)), .unset] [(.ref aq)])) _
        refine st51 _ ?_
        show Steps p.tables e below (T51.setTop (mkF m 35 #[.val (.ref aq), .val (.int x), .val (.int (1 : Int32)), .unset] [(.ref br)])) _
        refine XS.iloadN X51.here hx rfl (hb hby d4_35) rfl ?_
        show Steps p.tables e below (T51.setTop (mkF m 36 #[.val (.ref aq), .val (.int x), .val (.int (1 : Int32)), .unset] [(.int (1 : Int32)), (.ref br)])) _
        refine X51.aaload hx (j := (1 : Int32)) (v := (.ref r1)) (by rw [e51]; exact Arcl53.1) (State.isArrayOf_alike hZ.alike Arcl53.2.1) rfl Arcl53.2.2 hincl53 hatcl53 (g := (mkF m 36 #[.val (.ref aq), .val (.int x), .val (.int (1 : Int32)), .unset] [(.int (1 : Int32)), (.ref br)])) rfl rfl (hb hby d4_36) _ ?_
        show Steps p.tables e below (T51.setTop (mkF m 37 #[.val (.ref aq), .val (.int x), .val (.int (1 : Int32)), .unset] [(.ref r1)])) _
        refine XS.astoreN X51.here hx rfl (hb hby d4_37) rfl rfl (l' := #[.val (.ref aq), .val (.int x), .val (.int (1 : Int32)), .val (.ref r1)]) rfl ?_
        show Steps p.tables e below (T51.setTop (mkF m 38 #[.val (.ref aq), .val (.int x), .val (.int (1 : Int32)), .val (.ref r1)] [])) _
        refine XS.aloadN X51.here hx rfl (hb hby d4_38) rfl rfl ?_
        show Steps p.tables e below (T51.setTop (mkF m 39 #[.val (.ref aq), .val (.int x), .val (.int (1 : Int32)), .val (.ref r1)] [(.ref r1)])) _
        refine XS.aloadN X51.here hx rfl (hb hby d4_39) rfl rfl ?_
        show Steps p.tables e below (T51.setTop (mkF m 40 #[.val (.ref aq), .val (.int x), .val (.int (1 : Int32)), .val (.ref r1)] [(.ref aq), (.ref r1)])) _
        refine st55 _ ?_
        show Steps p.tables e below (T55.setTop (mkF m 43 #[.val (.ref aq), .val (.int x), .val (.int (1 : Int32)), .val (.ref r1)] [(.ref bf), (.ref r1)])) _
        refine XS.iloadN X55.here hx rfl (hb hby d4_43) rfl ?_
        show Steps p.tables e below (T55.setTop (mkF m 44 #[.val (.ref aq), .val (.int x), .val (.int (1 : Int32)), .val (.ref r1)] [(.int (1 : Int32)), (.ref bf), (.ref r1)])) _
        refine X55.iaload hx (j := (1 : Int32)) (v := (.int (σ.2.2.2.1.getD 1 0))) (by rw [e55]; exact Arcl57.1) (State.isArrayOf_alike hZ.alike Arcl57.2.1) Arcl57.2.2 hincl57 hatcl57 (g := (mkF m 44 #[.val (.ref aq), .val (.int x), .val (.int (1 : Int32)), .val (.ref r1)] [(.int (1 : Int32)), (.ref bf), (.ref r1)])) rfl rfl (hb hby d4_44) _ ?_
        show Steps p.tables e below (T55.setTop (mkF m 45 #[.val (.ref aq), .val (.int x), .val (.int (1 : Int32)), .val (.ref r1)] [(.int (σ.2.2.2.1.getD 1 0)), (.ref r1)])) _
        refine XS.aloadN X55.here hx rfl (hb hby d4_45) rfl rfl ?_
        show Steps p.tables e below (T55.setTop (mkF m 46 #[.val (.ref aq), .val (.int x), .val (.int (1 : Int32)), .val (.ref r1)] [(.ref aq), (.int (σ.2.2.2.1.getD 1 0)), (.ref r1)])) _
        refine st59 _ ?_
        show Steps p.tables e below (T59.setTop (mkF m 49 #[.val (.ref aq), .val (.int x), .val (.int (1 : Int32)), .val (.ref r1)] [(.ref bc), (.int (σ.2.2.2.1.getD 1 0)), (.ref r1)])) _
        refine XS.iloadN X59.here hx rfl (hb hby d4_49) rfl ?_
        show Steps p.tables e below (T59.setTop (mkF m 50 #[.val (.ref aq), .val (.int x), .val (.int (1 : Int32)), .val (.ref r1)] [(.int (1 : Int32)), (.ref bc), (.int (σ.2.2.2.1.getD 1 0)), (.ref r1)])) _
        refine X59.iaload hx (j := (1 : Int32)) (v := (.int (σ.2.2.2.2.getD 1 0))) (by rw [e59]; exact Arcl61.1) (State.isArrayOf_alike hZ.alike Arcl61.2.1) Arcl61.2.2 hincl61 hatcl61 (g := (mkF m 50 #[.val (.ref aq), .val (.int x), .val (.int (1 : Int32)), .val (.ref r1)] [(.int (1 : Int32)), (.ref bc), (.int (σ.2.2.2.1.getD 1 0)), (.ref r1)])) rfl rfl (hb hby d4_50) _ ?_
        show Steps p.tables e below (T59.setTop (mkF m 51 #[.val (.ref aq), .val (.int x), .val (.int (1 : Int32)), .val (.ref r1)] [(.int (σ.2.2.2.2.getD 1 0)), (.int (σ.2.2.2.1.getD 1 0)), (.ref r1)])) _
        refine XS.iadd X59.here hx rfl (hb hby d4_51) rfl ?_
        show Steps p.tables e below (T59.setTop (mkF m 52 #[.val (.ref aq), .val (.int x), .val (.int (1 : Int32)), .val (.ref r1)] [(.int ((σ.2.2.2.1.getD 1 0) + (σ.2.2.2.2.getD 1 0))), (.ref r1)])) _
        refine XS.aloadN X59.here hx rfl (hb hby d4_52) rfl rfl ?_
        show Steps p.tables e below (T59.setTop (mkF m 53 #[.val (.ref aq), .val (.int x), .val (.int (1 : Int32)), .val (.ref r1)] [(.ref r1), (.int ((σ.2.2.2.1.getD 1 0) + (σ.2.2.2.2.getD 1 0))), (.ref r1)])) _
        refine X59.arraylength hx (by rw [e59]; exact Arcl63.1) (State.isArrayOf_alike hZ.alike Arcl63.2.1) (g := (mkF m 53 #[.val (.ref aq), .val (.int x), .val (.int (1 : Int32)), .val (.ref r1)] [(.ref r1), (.int ((σ.2.2.2.1.getD 1 0) + (σ.2.2.2.2.getD 1 0))), (.ref r1)])) rfl rfl (hb hby d4_53) _ ?_
        rw [len_of Scl63 Ncl63]
        show Steps p.tables e below (T59.setTop (mkF m 54 #[.val (.ref aq), .val (.int x), .val (.int (1 : Int32)), .val (.ref r1)] [(.int (own_cn y)), (.int ((σ.2.2.2.1.getD 1 0) + (σ.2.2.2.2.getD 1 0))), (.ref r1)])) _
        refine iremM (g := (mkF m 54 #[.val (.ref aq), .val (.int x), .val (.int (1 : Int32)), .val (.ref r1)] [(.int (own_cn y)), (.int ((σ.2.2.2.1.getD 1 0) + (σ.2.2.2.2.getD 1 0))), (.ref r1)])) X59 hx rfl (hb hby d4_54) rfl hnz ?_
        show Steps p.tables e below (T59.setTop (mkF m 55 #[.val (.ref aq), .val (.int x), .val (.int (1 : Int32)), .val (.ref r1)] [(.int (((σ.2.2.2.1.getD 1 0) + (σ.2.2.2.2.getD 1 0)) % (own_cn y))), (.ref r1)])) _
        refine XS.iloadN X59.here hx rfl (hb hby d4_55) rfl ?_
        show Steps p.tables e below (T59.setTop (mkF m 56 #[.val (.ref aq), .val (.int x), .val (.int (1 : Int32)), .val (.ref r1)] [(.int x), (.int (((σ.2.2.2.1.getD 1 0) + (σ.2.2.2.2.getD 1 0)) % (own_cn y))), (.ref r1)])) _
        refine st65 _ ?_
        show Steps p.tables e below (T65.setTop (mkF m 57 #[.val (.ref aq), .val (.int x), .val (.int (1 : Int32)), .val (.ref r1)] [])) _
        refine XS.aloadN X65.here hx rfl (hb hby d4_57) rfl rfl ?_
        show Steps p.tables e below (T65.setTop (mkF m 58 #[.val (.ref aq), .val (.int x), .val (.int (1 : Int32)), .val (.ref r1)] [(.ref aq)])) _
        refine st68 _ ?_
        show Steps p.tables e below (T68.setTop (mkF m 61 #[.val (.ref aq), .val (.int x), .val (.int (1 : Int32)), .val (.ref r1)] [(.ref bc)])) _
        refine XS.iloadN X68.here hx rfl (hb hby d4_61) rfl ?_
        show Steps p.tables e below (T68.setTop (mkF m 62 #[.val (.ref aq), .val (.int x), .val (.int (1 : Int32)), .val (.ref r1)] [(.int (1 : Int32)), (.ref bc)])) _
        jvm_step X68.here [X68.here.top, hx, (hb hby d4_62), Value.category]
        show Steps p.tables e below (T68.setTop (mkF m 63 #[.val (.ref aq), .val (.int x), .val (.int (1 : Int32)), .val (.ref r1)] [(.int (1 : Int32)), (.ref bc), (.int (1 : Int32)), (.ref bc)])) _
        refine X68.iaload hx (j := (1 : Int32)) (v := (.int (σ.2.2.2.2.getD 1 0))) (by rw [e68]; exact Arcl70.1) (State.isArrayOf_alike hZ.alike Arcl70.2.1) Arcl70.2.2 hincl70 hatcl70 (g := (mkF m 63 #[.val (.ref aq), .val (.int x), .val (.int (1 : Int32)), .val (.ref r1)] [(.int (1 : Int32)), (.ref bc), (.int (1 : Int32)), (.ref bc)])) rfl rfl (hb hby d4_63) _ ?_
        show Steps p.tables e below (T68.setTop (mkF m 64 #[.val (.ref aq), .val (.int x), .val (.int (1 : Int32)), .val (.ref r1)] [(.int (σ.2.2.2.2.getD 1 0)), (.int (1 : Int32)), (.ref bc)])) _
        refine XS.iconst X68.here hx rfl (hb hby d4_64) ?_
        exact k
      obtain ⟨cl72, Arcl72, qcl72, Scl72, Ncl72, Hcl72, Gcl72⟩ := id f_69
      have hincl72 : ¬ ((1 : Int32) < 0 ∨ cl72.slots.size ≤ ((1 : Int32)).toNatClampNeg) := inb_of Scl72 ⟨by decide, by decide⟩
      obtain ⟨T73, h73, X73, e73, W73, st73⟩ := stI X68 hx hZ e68 Arcl72 (j := (1 : Int32)) hincl72 (g := (mkF m 66 #[.val (.ref aq), .val (.int x), .val (.int (1 : Int32)), .val (.ref r1)] [(.int ((σ.2.2.2.2.getD 1 0) + (1 : Int32))), (.int (1 : Int32)), (.ref bc)])) rfl rfl (hb hby d4_66)
      have V73 := Arv.set Arcl72 qcl72 Scl72 Ncl72 Hcl72 Gcl72 rfl W73 1 rfl (by rw [List.length_map, hl5]; decide)
      have Vn73 : Arv Z h73 bc kc .int (2 : Int32) ((σ.2.2.2.2.set 1 ((σ.2.2.2.2.getD 1 0) + 1)).map Value.int) (.int (0 : Int32)) := (by rw [List.map_set]; exact V73)
      have N73 := Fr.snoc X73 N65 (by omega)
      have K74 : Keep h0 h73 [bw, r0, r1, bc] := K66.wr W73 (Or.inl (List.mem_of_getElem? (i := 3) rfl))
      have f_75 := (((EQ.wr W6).wr W65).wr W73)
      have f_76 := ((f_8.other W65 (Or.inl (Nat.ne_of_lt (by omega)))).other W73 (Or.inl (Nat.ne_of_lt (by omega))))
      have f_77 := (((fd_waiting.other W6 (Or.inl (Nat.ne_of_lt (by omega)))).other W65 (Or.inl (Nat.ne_of_lt (by omega)))).other W73 (Or.inl (Nat.ne_of_lt (by omega))))
      have f_78 := ((f_50.other W65 (Or.inl (Nat.ne_of_lt (by omega)))).other W73 (Or.inl (Nat.ne_of_lt (by omega))))
      have f_79 := ((f_54.other W65 (Or.inl (Nat.ne_of_lt (by omega)))).other W73 (Or.inl (Nat.ne_of_lt (by omega))))
      have f_80 := (f_67.other W73 (Or.inl (Nat.ne_of_lt (by omega))))
      have f_81 := ((f_10.other W65 (Nat.ne_of_lt (by omega))).other W73 (Nat.ne_of_lt (by omega)))
      have f_82 := ((Vn6.other W65 (Nat.ne_of_lt (by omega))).other W73 (Nat.ne_of_lt (by omega)))
      have f_83 := ((f_52.other W65 (Nat.ne_of_lt (by omega))).other W73 (Nat.ne_of_lt (by omega)))
      have f_84 := (((va_r0.other W6 (Ne.symm (Nat.ne_of_lt (by omega)))).other W65 (Nat.ne_of_lt (by omega))).other W73 (Nat.ne_of_lt (by omega)))
      have f_85 := (Vn65.other W73 (Nat.ne_of_lt (by omega)))
      have f_86 := ((f_56.other W65 (Ne.symm (Nat.ne_of_lt (by omega)))).other W73 (Nat.ne_of_lt (by omega)))
      have fin : own_QI Z h73 aq bl bw br r0 r1 bf bc y (own_add y x σ) := by
        rw [own_add_1 hw0 hl]
        exact ⟨kl, kw, kr, k0, k1, kf, kc, f_75, f_76, f_77, f_78, f_79, f_80, f_81, f_82, f_83, f_84, f_85, f_86, Vn73⟩
      obtain ⟨fs, hr, hrun, hended, hW, hsame⟩ := X73.leave (v := none) (fun _ => rfl) Bd.notSynchronized
      refine ⟨_, _, pre71 _ ?_, hrun, hended, _, _, rfl, ?_, ⟨_, rfl⟩, hW, hsame.mono (by decide) (by decide)⟩
      · show Steps p.tables e below (T68.setTop (mkF m 65 #[.val (.ref aq), .val (.int x), .val (.int (1 : Int32)), .val (.ref r1)] [(.int (1 : Int32)), (.int (σ.2.2.2.2.getD 1 0)), (.int (1 : Int32)), (.ref bc)])) _
        refine XS.iadd X68.here hx rfl (hb hby d4_65) rfl ?_
        show Steps p.tables e below (T68.setTop (mkF m 66 #[.val (.ref aq), .val (.int x), .val (.int (1 : Int32)), .val (.ref r1)] [(.int ((σ.2.2.2.2.getD 1 0) + (1 : Int32))), (.int (1 : Int32)), (.ref bc)])) _
        refine st73 _ ?_
        show Steps p.tables e below (T73.setTop (mkF m 67 #[.val (.ref aq), .val (.int x), .val (.int (1 : Int32)), .val (.ref r1)] [])) _
        exact X73.returnOut hx Bd.returns (hb hby d4_67) hr
      · show Q_rmA Z aq x bl bw br r0 r1 bf bc y σ h0 n0 _ T73.heap _
        rw [e73]
        exact ⟨rfl, N73, K74, fin⟩
  · obtain ⟨fs, hr, hrun, hended, hW, hsame⟩ := X1.leave (v := none) (fun _ => rfl) Bd.notSynchronized
    refine ⟨_, _, pre3 _ ?_, hrun, hended, _, _, rfl, ?_, ⟨_, rfl⟩, hW, hsame.mono (by decide) (by decide)⟩
    · show Steps p.tables e below (T1.setTop (mkF m 6 #[.val (.ref aq), .val (.int x), .unset, .unset] [(.int (σ.1.getD x.toNatClampNeg 0))])) _
      refine XS.ifYes X1.here hx rfl (pc0 := 6) (pc' := 67) rfl (hb hby d4_6) rfl ((if0 _ _).trans (feq hw0).2) (by decide) (by decide) ?_
      show Steps p.tables e below (T1.setTop (mkF m 67 #[.val (.ref aq), .val (.int x), .unset, .unset] [])) _
      exact X1.returnOut hx Bd.returns (hb hby d4_67) hr
    · show Q_rmA Z aq x bl bw br r0 r1 bf bc y σ h0 n0 _ T1.heap _
      rw [e1]
      exact ⟨rfl, N0, (Keep.refl h0 [bw, r0, r1, bc]), (by rw [own_add_n hw0]; exact QI0)⟩
theorem ef_5 (m : MethodId) (x0 : Addr) : entryFrame m #[(.ref x0)] 4 = mkF m 0 #[.val (.ref x0), .unset, .unset, .unset] [] := by first | (simp [entryFrame, mkF, argsToLocals, Value.category]; done) | rfl
theorem d5_0 : decode prog_32_method_5_code 0 = .ok (.aload_n 0, 1) := by decide +kernel
theorem d5_1 : decode prog_32_method_5_code 1 = .ok (.getfield 33, 3) := by decide +kernel
theorem d5_4 : decode prog_32_method_5_code 4 = .ok (.iconst 0, 1) := by decide +kernel
theorem d5_5 : decode prog_32_method_5_code 5 = .ok (.iaload, 1) := by decide +kernel
theorem d5_6 : decode prog_32_method_5_code 6 = .ok (.ifCond .le 7, 3) := by decide +kernel
theorem d5_9 : decode prog_32_method_5_code 9 = .ok (.iconst 0, 1) := by decide +kernel
theorem d5_10 : decode prog_32_method_5_code 10 = .ok (.goto 4, 3) := by decide +kernel
theorem d5_14 : decode prog_32_method_5_code 14 = .ok (.istore_n 1, 1) := by decide +kernel
theorem d5_15 : decode prog_32_method_5_code 15 = .ok (.aload_n 0, 1) := by decide +kernel
theorem d5_16 : decode prog_32_method_5_code 16 = .ok (.getfield 26, 3) := by decide +kernel
theorem d5_19 : decode prog_32_method_5_code 19 = .ok (.iload_n 1, 1) := by decide +kernel
theorem d5_20 : decode prog_32_method_5_code 20 = .ok (.aaload, 1) := by decide +kernel
theorem d5_21 : decode prog_32_method_5_code 21 = .ok (.astore_n 2, 1) := by decide +kernel
theorem d5_22 : decode prog_32_method_5_code 22 = .ok (.aload_n 2, 1) := by decide +kernel
theorem d5_23 : decode prog_32_method_5_code 23 = .ok (.aload_n 0, 1) := by decide +kernel
theorem d5_24 : decode prog_32_method_5_code 24 = .ok (.getfield 30, 3) := by decide +kernel
theorem d5_27 : decode prog_32_method_5_code 27 = .ok (.iload_n 1, 1) := by decide +kernel
theorem d5_28 : decode prog_32_method_5_code 28 = .ok (.iaload, 1) := by decide +kernel
theorem d5_29 : decode prog_32_method_5_code 29 = .ok (.iaload, 1) := by decide +kernel
theorem d5_30 : decode prog_32_method_5_code 30 = .ok (.istore_n 3, 1) := by decide +kernel
theorem d5_31 : decode prog_32_method_5_code 31 = .ok (.aload_n 0, 1) := by decide +kernel
theorem d5_32 : decode prog_32_method_5_code 32 = .ok (.getfield 30, 3) := by decide +kernel
theorem d5_35 : decode prog_32_method_5_code 35 = .ok (.iload_n 1, 1) := by decide +kernel
theorem d5_36 : decode prog_32_method_5_code 36 = .ok (.aload_n 0, 1) := by decide +kernel
theorem d5_37 : decode prog_32_method_5_code 37 = .ok (.getfield 30, 3) := by decide +kernel
theorem d5_40 : decode prog_32_method_5_code 40 = .ok (.iload_n 1, 1) := by decide +kernel
theorem d5_41 : decode prog_32_method_5_code 41 = .ok (.iaload, 1) := by decide +kernel
theorem d5_42 : decode prog_32_method_5_code 42 = .ok (.iconst 1, 1) := by decide +kernel
theorem d5_43 : decode prog_32_method_5_code 43 = .ok (.iadd, 1) := by decide +kernel
theorem d5_44 : decode prog_32_method_5_code 44 = .ok (.aload_n 2, 1) := by decide +kernel
theorem d5_45 : decode prog_32_method_5_code 45 = .ok (.arraylength, 1) := by decide +kernel
theorem d5_46 : decode prog_32_method_5_code 46 = .ok (.irem, 1) := by decide +kernel
theorem d5_47 : decode prog_32_method_5_code 47 = .ok (.iastore, 1) := by decide +kernel
theorem d5_48 : decode prog_32_method_5_code 48 = .ok (.aload_n 0, 1) := by decide +kernel
theorem d5_49 : decode prog_32_method_5_code 49 = .ok (.getfield 33, 3) := by decide +kernel
theorem d5_52 : decode prog_32_method_5_code 52 = .ok (.iload_n 1, 1) := by decide +kernel
theorem d5_53 : decode prog_32_method_5_code 53 = .ok (.dup2, 1) := by decide +kernel
theorem d5_54 : decode prog_32_method_5_code 54 = .ok (.iaload, 1) := by decide +kernel
theorem d5_55 : decode prog_32_method_5_code 55 = .ok (.iconst 1, 1) := by decide +kernel
theorem d5_56 : decode prog_32_method_5_code 56 = .ok (.isub, 1) := by decide +kernel
theorem d5_57 : decode prog_32_method_5_code 57 = .ok (.iastore, 1) := by decide +kernel
theorem d5_58 : decode prog_32_method_5_code 58 = .ok (.aload_n 0, 1) := by decide +kernel
theorem d5_59 : decode prog_32_method_5_code 59 = .ok (.getfield 21, 3) := by decide +kernel
theorem d5_62 : decode prog_32_method_5_code 62 = .ok (.iload_n 3, 1) := by decide +kernel
theorem d5_63 : decode prog_32_method_5_code 63 = .ok (.iconst 0, 1) := by decide +kernel
theorem d5_64 : decode prog_32_method_5_code 64 = .ok (.bastore, 1) := by decide +kernel
theorem d5_65 : decode prog_32_method_5_code 65 = .ok (.iload_n 3, 1) := by decide +kernel
theorem d5_66 : decode prog_32_method_5_code 66 = .ok (.ireturn, 1) := by decide +kernel
theorem d5_13 : decode prog_32_method_5_code 13 = .ok (.iconst 1, 1) := by decide +kernel
def Q_rmT (Z : State) (aq : Addr) (bl : Addr) (bw : Addr) (br : Addr) (r0 : Addr) (r1 : Addr) (bf : Addr) (bc : Addr) (y : List Int32) (σ : own_Q) (h0 : Heap) (n0 : Nat) (v : Option Value) (h : Heap) (L : List Loc) : Prop := v = some (.int (own_got σ)) ∧ Fr n0 L ∧ Keep h0 h [bw, bf, bc] ∧ own_QI Z h aq bl bw br r0 r1 bf bc y (own_take y σ)
set_option maxRecDepth 65536 in
set_option maxHeartbeats 40000000 in
theorem rmT (l : Launch) (Z : State) (a0 : Array Value) (hw : ∀ d ∈ tables_1, d.before a0 Z = true) (ws : List Jvm.Cond) (aq : Addr) (bl : Addr) (bw : Addr) (br : Addr) (r0 : Addr) (r1 : Addr) (bf : Addr) (bc : Addr) (y : List Int32) (σ : own_Q) (h0 : Heap) (n0 : Nat) (Z0 : n0 ≤ h0.size) (gq : n0 ≤ aq) (od : aq < bl ∧ bl < bw ∧ bw < br ∧ br < r0 ∧ r0 < r1 ∧ r1 < bf ∧ bf < bc) (QI : own_QI Z h0 aq bl bw br r0 r1 bf bc y σ) (hok : own_okT y σ = true) :
    MetFree l (⟨"com/example/contrepoint/contrepoint/IndexQueue", "take", "()I"⟩ : MethodName) (head1 (Jvm.Cond.code (⟨"com/example/contrepoint/contrepoint/IndexQueue", "take", "()I"⟩ : MethodName) prog_32_method_5_code 4 (some .int) :: ws) ({ frames := 0, cells := 0, slots := 0, locals := 0 } : Room)) (fun a U => a = #[(.ref aq)] ∧ Z.Warmed39 U.vm ∧ U.heap = h0) (fun _ _ _ _ _ => True) (fun _ U o U' => ∃ v L, o = .returned v ∧ Q_rmT Z aq bl bw br r0 r1 bf bc y σ h0 n0 v U'.heap L ∧ FrameEnd U o U' L ({ frames := 0, cells := 0, slots := 0, locals := 0 } : Room).cells ({ frames := 0, cells := 0, slots := 0, locals := 0 } : Room).slots) := by
  refine MetFree.of_bodySF (plainFor_of_name pn_com_example_contrepoint_contrepoint_IndexQueue) hisR ?_
  intro p e s m args below meth c s₁ Bd hml0 hP hK
  obtain ⟨rfl, hZ, hh⟩ := hP
  have hx := Bd.exec
  have hby := Bd.bytes
  have hml : c.maxLocals = 4 := hml0
  have hown : s.vm.findClass "com/example/contrepoint/contrepoint/IndexQueue" = some m.cls := findClass_of_methodNamed Bd.named
  have hnm := (name_of_methodNamed Bd.named Bd.method).1
  have X0 : Stand p l e ({ frames := 0, cells := 0, slots := 0, locals := 0 } : Room) s m #[(.ref aq)] below meth c s₁ [] 0 0 := Stand.of_body Bd
  have e0 : s₁.heap = h0 := by rw [← hh, Bd.state]; rfl
  have N0 := Fr.nil n0
  have pre0 : ∀ t, Steps p.tables e below (s₁.setTop (mkF m 0 #[.val (.ref aq), .unset, .unset, .unset] [])) t → Steps p.tables e below (s₁.setTop (entryFrame m #[(.ref aq)] 4)) t := fun t k => castTop (ef_5 m aq) k
  obtain ⟨S0, hS0⟩ : ∃ S, S = s₁.setTop (entryFrame m #[(.ref aq)] 4) := ⟨_, rfl⟩
  rw [← hS0] at pre0 ⊢
  have QI0 := QI
  obtain ⟨kl, kw, kr, k0, k1, kf, kc, EQ, fd_late, fd_waiting, fd_rings, fd_firsts, fd_counts, va_bl, va_bw, va_br, va_r0, va_r1, va_bf, va_bc⟩ := QI
  obtain ⟨od1, od2, od3, od4, od5, od6, od7⟩ := od
  have od1 : @LT.lt Nat _ aq bl := od1
  have od2 : @LT.lt Nat _ bl bw := od2
  have od3 : @LT.lt Nat _ bw br := od3
  have od4 : @LT.lt Nat _ br r0 := od4
  have od5 : @LT.lt Nat _ r0 r1 := od5
  have od6 : @LT.lt Nat _ r1 bf := od6
  have od7 : @LT.lt Nat _ bf bc := od7
  obtain ⟨hly, hl1, hl2, hl3, hl4, hl5, ht0, ht1⟩ := own_okT_e hok
  obtain ⟨T1, X1, e1, st1⟩ := getF X0 hx hZ hown (host := "") (Or.inl (hw _ (List.mem_of_getElem? (i := 36) rfl))) Via.refl e0 fd_counts (g := (mkF m 1 #[.val (.ref aq), .unset, .unset, .unset] [(.ref aq)])) rfl rfl (hb hby d5_1)
  obtain ⟨cl2, Arcl2, qcl2, Scl2, Ncl2, Hcl2, Gcl2⟩ := id va_bc
  have hincl2 : ¬ ((0 : Int32) < 0 ∨ cl2.slots.size ≤ ((0 : Int32)).toNatClampNeg) := inb_of Scl2 ⟨by decide, by decide⟩
  have hatcl2 : cl2.slots[((0 : Int32)).toNatClampNeg]? = some (.int (σ.2.2.2.2.getD 0 0)) := Hcl2.at hincl2 (own_gm σ.2.2.2.2 0)
  have pre3 : ∀ t, Steps p.tables e below (T1.setTop (mkF m 6 #[.val (.ref aq), .unset, .unset, .unset] [(.int (σ.2.2.2.2.getD 0 0))])) t → Steps p.tables e below S0 t := by
    intro t k
    refine pre0 t ?_
    show Steps p.tables e below (s₁.setTop (mkF m 0 #[.val (.ref aq), .unset, .unset, .unset] [])) _
    refine XS.aloadN X0.here hx rfl (hb hby d5_0) rfl rfl ?_
    show Steps p.tables e below (s₁.setTop (mkF m 1 #[.val (.ref aq), .unset, .unset, .unset] [(.ref aq)])) _
    refine st1 _ ?_
    show Steps p.tables e below (T1.setTop (mkF m 4 #[.val (.ref aq), .unset, .unset, .unset] [(.ref bc)])) _
    refine XS.iconst X1.here hx rfl (hb hby d5_4) ?_
    show Steps p.tables e below (T1.setTop (mkF m 5 #[.val (.ref aq), .unset, .unset, .unset] [(.int (0 : Int32)), (.ref bc)])) _
    refine X1.iaload hx (j := (0 : Int32)) (v := (.int (σ.2.2.2.2.getD 0 0))) (by rw [e1]; exact Arcl2.1) (State.isArrayOf_alike hZ.alike Arcl2.2.1) Arcl2.2.2 hincl2 hatcl2 (g := (mkF m 5 #[.val (.ref aq), .unset, .unset, .unset] [(.int (0 : Int32)), (.ref bc)])) rfl rfl (hb hby d5_5) _ ?_
    exact k
  by_cases hk : (0 : Int32) < σ.2.2.2.2.getD 0 0
  · obtain ⟨hif, hnz, hig⟩ := ht0 hk
    obtain ⟨T4, X4, e4, st4⟩ := getF X1 hx hZ hown (host := "") (Or.inl (hw _ (List.mem_of_getElem? (i := 32) rfl))) Via.refl e1 fd_rings (g := (mkF m 16 #[.val (.ref aq), .val (.int (0 : Int32)), .unset, .unset] [(.ref aq)])) rfl rfl (hb hby d5_16)
    obtain ⟨cl5, Arcl5, qcl5, Scl5, Ncl5, Hcl5, Gcl5⟩ := id va_br
    have hincl5 : ¬ ((0 : Int32) < 0 ∨ cl5.slots.size ≤ ((0 : Int32)).toNatClampNeg) := inb_of Scl5 ⟨by decide, by decide⟩
    have hatcl5 : cl5.slots[((0 : Int32)).toNatClampNeg]? = some (.ref r0) := Hcl5.at hincl5 rfl
    obtain ⟨T6, X6, e6, st6⟩ := getF X4 hx hZ hown (host := "") (Or.inl (hw _ (List.mem_of_getElem? (i := 34) rfl))) Via.refl e4 fd_firsts (g := (mkF m 24 #[.val (.ref aq), .val (.int (0 : Int32)), .val (.ref r0), .unset] [(.ref aq), (.ref r0)])) rfl rfl (hb hby d5_24)
    obtain ⟨cl7, Arcl7, qcl7, Scl7, Ncl7, Hcl7, Gcl7⟩ := id va_bf
    have hincl7 : ¬ ((0 : Int32) < 0 ∨ cl7.slots.size ≤ ((0 : Int32)).toNatClampNeg) := inb_of Scl7 ⟨by decide, by decide⟩
    have hatcl7 : cl7.slots[((0 : Int32)).toNatClampNeg]? = some (.int (σ.2.2.2.1.getD 0 0)) := Hcl7.at hincl7 (own_gm σ.2.2.2.1 0)
    obtain ⟨cl8, Arcl8, qcl8, Scl8, Ncl8, Hcl8, Gcl8⟩ := id va_r0
    have hincl8 : ¬ ((σ.2.2.2.1.getD 0 0) < 0 ∨ cl8.slots.size ≤ ((σ.2.2.2.1.getD 0 0)).toNatClampNeg) := inb_of Scl8 (own_in_e hif)
    have hatcl8 : cl8.slots[((σ.2.2.2.1.getD 0 0)).toNatClampNeg]? = some (.int (σ.2.1.getD (σ.2.2.2.1.getD 0 0).toNatClampNeg 0)) := Hcl8.at hincl8 (own_gm σ.2.1 _)
    obtain ⟨T9, X9, e9, st9⟩ := getF X6 hx hZ hown (host := "") (Or.inl (hw _ (List.mem_of_getElem? (i := 34) rfl))) Via.refl e6 fd_firsts (g := (mkF m 32 #[.val (.ref aq), .val (.int (0 : Int32)), .val (.ref r0), .val (.int (σ.2.1.getD (σ.2.2.2.1.getD 0 0).toNatClampNeg 0))] [(.ref aq)])) rfl rfl (hb hby d5_32)
    obtain ⟨T10, X10, e10, st10⟩ := getF X9 hx hZ hown (host := "") (Or.inl (hw _ (List.mem_of_getElem? (i := 34) rfl))) Via.refl e9 fd_firsts (g := (mkF m 37 #[.val (.ref aq), .val (.int (0 : Int32)), .val (.ref r0), .val (.int (σ.2.1.getD (σ.2.2.2.1.getD 0 0).toNatClampNeg 0))] [(.ref aq), (.int (0 : Int32)), (.ref bf)])) rfl rfl (hb hby d5_37)
    obtain ⟨cl11, Arcl11, qcl11, Scl11, Ncl11, Hcl11, Gcl11⟩ := id va_bf
    have hincl11 : ¬ ((0 : Int32) < 0 ∨ cl11.slots.size ≤ ((0 : Int32)).toNatClampNeg) := inb_of Scl11 ⟨by decide, by decide⟩
    have hatcl11 : cl11.slots[((0 : Int32)).toNatClampNeg]? = some (.int (σ.2.2.2.1.getD 0 0)) := Hcl11.at hincl11 (own_gm σ.2.2.2.1 0)
    obtain ⟨cl12, Arcl12, -, Scl12, Ncl12, -, -⟩ := id va_r0
    obtain ⟨cl13, Arcl13, qcl13, Scl13, Ncl13, Hcl13, Gcl13⟩ := id va_bf
    have hincl13 : ¬ ((0 : Int32) < 0 ∨ cl13.slots.size ≤ ((0 : Int32)).toNatClampNeg) := inb_of Scl13 ⟨by decide, by decide⟩
    obtain ⟨T14, h14, X14, e14, W14, st14⟩ := stI X10 hx hZ e10 Arcl13 (j := (0 : Int32)) hincl13 (g := (mkF m 47 #[.val (.ref aq), .val (.int (0 : Int32)), .val (.ref r0), .val (.int (σ.2.1.getD (σ.2.2.2.1.getD 0 0).toNatClampNeg 0))] [(.int (((σ.2.2.2.1.getD 0 0) + (1 : Int32)) % ((3 : Int32) - own_cn y))), (.int (0 : Int32)), (.ref bf)])) rfl rfl (hb hby d5_47)
    have V14 := Arv.set Arcl13 qcl13 Scl13 Ncl13 Hcl13 Gcl13 rfl W14 0 rfl (by rw [List.length_map, hl4]; decide)
    have Vn14 : Arv Z h14 bf kf .int (2 : Int32) ((σ.2.2.2.1.set 0 (((σ.2.2.2.1.getD 0 0) + 1) % ((3 : Int32) - own_cn y))).map Value.int) (.int (0 : Int32)) := (by rw [List.map_set]; exact V14)
    have N14 := Fr.snoc X14 N0 (by omega)
    have K15 : Keep h0 h14 [bw, bf, bc] := (Keep.refl h0 [bw, bf, bc]).wr W14 (Or.inl (List.mem_of_getElem? (i := 1) rfl))
    have pre16 : ∀ t, Steps p.tables e below (T14.setTop (mkF m 49 #[.val (.ref aq), .val (.int (0 : Int32)), .val (.ref r0), .val (.int (σ.2.1.getD (σ.2.2.2.1.getD 0 0).toNatClampNeg 0))] [(.ref aq)])) t → Steps p.tables e below S0 t := by
      intro t k
      refine pre3 t ?_
      show Steps p.tables e below (T1.setTop (mkF m 6 #[.val (.ref aq), .unset, .unset, .unset] [(.int (σ.2.2.2.2.getD 0 0))])) _
      refine XS.ifNo X1.here hx rfl (hb hby d5_6) rfl ((if0 _ _).trans (tlt hk).2.2.2) ?_
      show Steps p.tables e below (T1.setTop (mkF m 9 #[.val (.ref aq), .unset, .unset, .unset] [])) _
      refine XS.iconst X1.here hx rfl (hb hby d5_9) ?_
      show Steps p.tables e below (T1.setTop (mkF m 10 #[.val (.ref aq), .unset, .unset, .unset] [(.int (0 : Int32))])) _
      refine XS.goto X1.here hx rfl (pc0 := 10) (pc' := 14) rfl (hb hby d5_10) (by decide) (by decide) ?_
      show Steps p.tables e below (T1.setTop (mkF m 14 #[.val (.ref aq), .unset, .unset, .unset] [(.int (0 : Int32))])) _
      refine XS.istoreN X1.here hx rfl (hb hby d5_14) rfl (l' := #[.val (.ref aq), .val (.int (0 : Int32)), .unset, .unset]) rfl ?_
      show Steps p.tables e below (T1.setTop (mkF m 15 #[.val (.ref aq), .val (.int (0 : Int32)), .unset, .unset] [])) _
      refine XS.aloadN X1.here hx rfl (hb hby d5_15) rfl rfl ?_
      show Steps p.tables e below (T1.setTop (mkF m 16 #[.val (.ref aq), .val (.int (0 : Int32)), .unset, .unset] [(.ref aq)])) _
      refine st4 _ ?_
      show Steps p.tables e below (T4.setTop (mkF m 19 #[.val (.ref aq), .val (.int (0 : Int32)), .unset, .unset] [(.ref br)])) _
      refine XS.iloadN X4.here hx rfl (hb hby d5_19) rfl ?_
      show Steps p.tables e below (T4.setTop (mkF m 20 #[.val (.ref aq), .val (.int (0 : Int32)), .unset, .unset] [(.int (0 : Int32)), (.ref br)])) _
      refine X4.aaload hx (j := (0 : Int32)) (v := (.ref r0)) (by rw [e4]; exact Arcl5.1) (State.isArrayOf_alike hZ.alike Arcl5.2.1) rfl Arcl5.2.2 hincl5 hatcl5 (g := (mkF m 20 #[.val (.ref aq), .val (.int (0 : Int32)), .unset, .unset] [(.int (0 : Int32)), (.ref br)])) rfl rfl (hb hby d5_20) _ ?_
      show Steps p.tables e below (T4.setTop (mkF m 21 #[.val (.ref aq), .val (.int (0 : Int32)), .unset, .unset] [(.ref r0)])) _
      refine XS.astoreN X4.here hx rfl (hb hby d5_21) rfl rfl (l' := #[.val (.ref aq), .val (.int (0 : Int32)), .val (.ref r0), .unset]) rfl ?_
      show Steps p.tables e below (T4.setTop (mkF m 22 #[.val (.ref aq), .val (.int (0 : Int32)), .val (.ref r0), .unset] [])) _
      refine XS.aloadN X4.here hx rfl (hb hby d5_22) rfl rfl ?_
      show Steps p.tables e below (T4.setTop (mkF m 23 #[.val (.ref aq), .val (.int (0 : Int32)), .val (.ref r0), .unset] [(.ref r0)])) _
      refine XS.aloadN X4.here hx rfl (hb hby d5_23) rfl rfl ?_
      show Steps p.tables e below (T4.setTop (mkF m 24 #[.val (.ref aq), .val (.int (0 : Int32)), .val (.ref r0), .unset] [(.ref aq), (.ref r0)])) _
      refine st6 _ ?_
      show Steps p.tables e below (T6.setTop (mkF m 27 #[.val (.ref aq), .val (.int (0 : Int32)), .val (.ref r0), .unset] [(.ref bf), (.ref r0)])) _
      refine XS.iloadN X6.here hx rfl (hb hby d5_27) rfl ?_
      show Steps p.tables e below (T6.setTop (mkF m 28 #[.val (.ref aq), .val (.int (0 : Int32)), .val (.ref r0), .unset] [(.int (0 : Int32)), (.ref bf), (.ref r0)])) _
      refine X6.iaload hx (j := (0 : Int32)) (v := (.int (σ.2.2.2.1.getD 0 0))) (by rw [e6]; exact Arcl7.1) (State.isArrayOf_alike hZ.alike Arcl7.2.1) Arcl7.2.2 hincl7 hatcl7 (g := (mkF m 28 #[.val (.ref aq), .val (.int (0 : Int32)), .val (.ref r0), .unset] [(.int (0 : Int32)), (.ref bf), (.ref r0)])) rfl rfl (hb hby d5_28) _ ?_
      show Steps p.tables e below (T6.setTop (mkF m 29 #[.val (.ref aq), .val (.int (0 : Int32)), .val (.ref r0), .unset] [(.int (σ.2.2.2.1.getD 0 0)), (.ref r0)])) _
      refine X6.iaload hx (j := (σ.2.2.2.1.getD 0 0)) (v := (.int (σ.2.1.getD (σ.2.2.2.1.getD 0 0).toNatClampNeg 0))) (by rw [e6]; exact Arcl8.1) (State.isArrayOf_alike hZ.alike Arcl8.2.1) Arcl8.2.2 hincl8 hatcl8 (g := (mkF m 29 #[.val (.ref aq), .val (.int (0 : Int32)), .val (.ref r0), .unset] [(.int (σ.2.2.2.1.getD 0 0)), (.ref r0)])) rfl rfl (hb hby d5_29) _ ?_
      show Steps p.tables e below (T6.setTop (mkF m 30 #[.val (.ref aq), .val (.int (0 : Int32)), .val (.ref r0), .unset] [(.int (σ.2.1.getD (σ.2.2.2.1.getD 0 0).toNatClampNeg 0))])) _
      refine XS.istoreN X6.here hx rfl (hb hby d5_30) rfl (l' := #[.val (.ref aq), .val (.int (0 : Int32)), .val (.ref r0), .val (.int (σ.2.1.getD (σ.2.2.2.1.getD 0 0).toNatClampNeg 0))]) rfl ?_
      show Steps p.tables e below (T6.setTop (mkF m 31 #[.val (.ref aq), .val (.int (0 : Int32)), .val (.ref r0), .val (.int (σ.2.1.getD (σ.2.2.2.1.getD 0 0).toNatClampNeg 0))] [])) _
      refine XS.aloadN X6.here hx rfl (hb hby d5_31) rfl rfl ?_
      show Steps p.tables e below (T6.setTop (mkF m 32 #[.val (.ref aq), .val (.int (0 : Int32)), .val (.ref r0), .val (.int (σ.2.1.getD (σ.2.2.2.1.getD 0 0).toNatClampNeg 0))] [(.ref aq)])) _
      refine st9 _ ?_
      show Steps p.tables e below (T9.setTop (mkF m 35 #[.val (.ref aq), .val (.int (0 : Int32)), .val (.ref r0), .val (.int (σ.2.1.getD (σ.2.2.2.1.getD 0 0).toNatClampNeg 0))] [(.ref bf)])) _
      refine XS.iloadN X9.here hx rfl (hb hby d5_35) rfl ?_
      show Steps p.tables e below (T9.setTop (mkF m 36 #[.val (.ref aq), .val (.int (0 : Int32)), .val (.ref r0), .val (.int (σ.2.1.getD (σ.2.2.2.1.getD 0 0).toNatClampNeg 0))] [(.int (0 : Int32)), (.ref bf)])) _
      refine XS.aloadN X9.here hx rfl (hb hby d5_36) rfl rfl ?_
      show Steps p.tables e below (T9.setTop (mkF m 37 #[.val (.ref aq), .val (.int (0 : Int32)), .val (.ref r0), .val (.int (σ.2.1.getD (σ.2.2.2.1.getD 0 0).toNatClampNeg 0))] [(.ref aq), (.int (0 : Int32)), (.ref bf)])) _
      refine st10 _ ?_
      show Steps p.tables e below (T10.setTop (mkF m 40 #[.val (.ref aq), .val (.int (0 : Int32)), .val (.ref r0), .val (.int (σ.2.1.getD (σ.2.2.2.1.getD 0 0).toNatClampNeg 0))] [(.ref bf), (.int (0 : Int32)), (.ref bf)])) _
      refine XS.iloadN X10.here hx rfl (hb hby d5_40) rfl ?_
      show Steps p.tables e below (T10.setTop (mkF m 41 #[.val (.ref aq), .val (.int (0 : Int32)), .val (.ref r0), .val (.int (σ.2.1.getD (σ.2.2.2.1.getD 0 0).toNatClampNeg 0))] [(.int (0 : Int32)), (.ref bf), (.int (0 : Int32)), (.ref bf)])) _
      refine X10.iaload hx (j := (0 : Int32)) (v := (.int (σ.2.2.2.1.getD 0 0))) (by rw [e10]; exact Arcl11.1) (State.isArrayOf_alike hZ.alike Arcl11.2.1) Arcl11.2.2 hincl11 hatcl11 (g := (mkF m 41 #[.val (.ref aq), .val (.int (0 : Int32)), .val (.ref r0), .val (.int (σ.2.1.getD (σ.2.2.2.1.getD 0 0).toNatClampNeg 0))] [(.int (0 : Int32)), (.ref bf), (.int (0 : Int32)), (.ref bf)])) rfl rfl (hb hby d5_41) _ ?_
      show Steps p.tables e below (T10.setTop (mkF m 42 #[.val (.ref aq), .val (.int (0 : Int32)), .val (.ref r0), .val (.int (σ.2.1.getD (σ.2.2.2.1.getD 0 0).toNatClampNeg 0))] [(.int (σ.2.2.2.1.getD 0 0)), (.int (0 : Int32)), (.ref bf)])) _
      refine XS.iconst X10.here hx rfl (hb hby d5_42) ?_
      show Steps p.tables e below (T10.setTop (mkF m 43 #[.val (.ref aq), .val (.int (0 : Int32)), .val (.ref r0), .val (.int (σ.2.1.getD (σ.2.2.2.1.getD 0 0).toNatClampNeg 0))] [(.int (1 : Int32)), (.int (σ.2.2.2.1.getD 0 0)), (.int (0 : Int32)), (.ref bf)])) _
      refine XS.iadd X10.here hx rfl (hb hby d5_43) rfl ?_
      show Steps p.tables e below (T10.setTop (mkF m 44 #[.val (.ref aq), .val (.int (0 : Int32)), .val (.ref r0), .val (.int (σ.2.1.getD (σ.2.2.2.1.getD 0 0).toNatClampNeg 0))] [(.int ((σ.2.2.2.1.getD 0 0) + (1 : Int32))), (.int (0 : Int32)), (.ref bf)])) _
      refine XS.aloadN X10.here hx rfl (hb hby d5_44) rfl rfl ?_
      show Steps p.tables e below (T10.setTop (mkF m 45 #[.val (.ref aq), .val (.int (0 : Int32)), .val (.ref r0), .val (.int (σ.2.1.getD (σ.2.2.2.1.getD 0 0).toNatClampNeg 0))] [(.ref r0), (.int ((σ.2.2.2.1.getD 0 0) + (1 : Int32))), (.int (0 : Int32)), (.ref bf)])) _
      refine X10.arraylength hx (by rw [e10]; exact Arcl12.1) (State.isArrayOf_alike hZ.alike Arcl12.2.1) (g := (mkF m 45 #[.val (.ref aq), .val (.int (0 : Int32)), .val (.ref r0), .val (.int (σ.2.1.getD (σ.2.2.2.1.getD 0 0).toNatClampNeg 0))] [(.ref r0), (.int ((σ.2.2.2.1.getD 0 0) + (1 : Int32))), (.int (0 : Int32)), (.ref bf)])) rfl rfl (hb hby d5_45) _ ?_
      rw [len_of Scl12 Ncl12]
      show Steps p.tables e below (T10.setTop (mkF m 46 #[.val (.ref aq), .val (.int (0 : Int32)), .val (.ref r0), .val (.int (σ.2.1.getD (σ.2.2.2.1.getD 0 0).toNatClampNeg 0))] [(.int ((3 : Int32) - own_cn y)), (.int ((σ.2.2.2.1.getD 0 0) + (1 : Int32))), (.int (0 : Int32)), (.ref bf)])) _
      refine iremM (g := (mkF m 46 #[.val (.ref aq), .val (.int (0 : Int32)), .val (.ref r0), .val (.int (σ.2.1.getD (σ.2.2.2.1.getD 0 0).toNatClampNeg 0))] [(.int ((3 : Int32) - own_cn y)), (.int ((σ.2.2.2.1.getD 0 0) + (1 : Int32))), (.int (0 : Int32)), (.ref bf)])) X10 hx rfl (hb hby d5_46) rfl hnz ?_
      show Steps p.tables e below (T10.setTop (mkF m 47 #[.val (.ref aq), .val (.int (0 : Int32)), .val (.ref r0), .val (.int (σ.2.1.getD (σ.2.2.2.1.getD 0 0).toNatClampNeg 0))] [(.int (((σ.2.2.2.1.getD 0 0) + (1 : Int32)) % ((3 : Int32) - own_cn y))), (.int (0 : Int32)), (.ref bf)])) _
      refine st14 _ ?_
      show Steps p.tables e below (T14.setTop (mkF m 48 #[.val (.ref aq), .val (.int (0 : Int32)), .val (.ref r0), .val (.int (σ.2.1.getD (σ.2.2.2.1.getD 0 0).toNatClampNeg 0))] [])) _
      refine XS.aloadN X14.here hx rfl (hb hby d5_48) rfl rfl ?_
      exact k
    have f_17 := (fd_counts.other W14 (Or.inl (Nat.ne_of_lt (by omega))))
    obtain ⟨T18, X18, e18, st18⟩ := getF X14 hx hZ hown (host := "") (Or.inl (hw _ (List.mem_of_getElem? (i := 36) rfl))) Via.refl e14 f_17 (g := (mkF m 49 #[.val (.ref aq), .val (.int (0 : Int32)), .val (.ref r0), .val (.int (σ.2.1.getD (σ.2.2.2.1.getD 0 0).toNatClampNeg 0))] [(.ref aq)])) rfl rfl (hb hby d5_49)
    have f_19 := (va_bc.other W14 (Ne.symm (Nat.ne_of_lt (by omega))))
    obtain ⟨cl20, Arcl20, qcl20, Scl20, Ncl20, Hcl20, Gcl20⟩ := id f_19
    have hincl20 : ¬ ((0 : Int32) < 0 ∨ cl20.slots.size ≤ ((0 : Int32)).toNatClampNeg) := inb_of Scl20 ⟨by decide, by decide⟩
    have hatcl20 : cl20.slots[((0 : Int32)).toNatClampNeg]? = some (.int (σ.2.2.2.2.getD 0 0)) := Hcl20.at hincl20 (own_gm σ.2.2.2.2 0)
    obtain ⟨cl21, Arcl21, qcl21, Scl21, Ncl21, Hcl21, Gcl21⟩ := id f_19
    have hincl21 : ¬ ((0 : Int32) < 0 ∨ cl21.slots.size ≤ ((0 : Int32)).toNatClampNeg) := inb_of Scl21 ⟨by decide, by decide⟩
    obtain ⟨T22, h22, X22, e22, W22, st22⟩ := stI X18 hx hZ e18 Arcl21 (j := (0 : Int32)) hincl21 (g := (mkF m 57 #[.val (.ref aq), .val (.int (0 : Int32)), .val (.ref r0), .val (.int (σ.2.1.getD (σ.2.2.2.1.getD 0 0).toNatClampNeg 0))] [(.int ((σ.2.2.2.2.getD 0 0) - (1 : Int32))), (.int (0 : Int32)), (.ref bc)])) rfl rfl (hb hby d5_57)
    have V22 := Arv.set Arcl21 qcl21 Scl21 Ncl21 Hcl21 Gcl21 rfl W22 0 rfl (by rw [List.length_map, hl5]; decide)
    have Vn22 : Arv Z h22 bc kc .int (2 : Int32) ((σ.2.2.2.2.set 0 ((σ.2.2.2.2.getD 0 0) - 1)).map Value.int) (.int (0 : Int32)) := (by rw [List.map_set]; exact V22)
    have N22 := Fr.snoc X22 N14 (by omega)
    have K23 : Keep h0 h22 [bw, bf, bc] := K15.wr W22 (Or.inl (List.mem_of_getElem? (i := 2) rfl))
    have f_24 := ((fd_waiting.other W14 (Or.inl (Nat.ne_of_lt (by omega)))).other W22 (Or.inl (Nat.ne_of_lt (by omega))))
    obtain ⟨T25, X25, e25, st25⟩ := getF X22 hx hZ hown (host := "") (Or.inl (hw _ (List.mem_of_getElem? (i := 27) rfl))) Via.refl e22 f_24 (g := (mkF m 59 #[.val (.ref aq), .val (.int (0 : Int32)), .val (.ref r0), .val (.int (σ.2.1.getD (σ.2.2.2.1.getD 0 0).toNatClampNeg 0))] [(.ref aq)])) rfl rfl (hb hby d5_59)
    have f_26 := ((va_bw.other W14 (Nat.ne_of_lt (by omega))).other W22 (Nat.ne_of_lt (by omega)))
    obtain ⟨cl27, Arcl27, qcl27, Scl27, Ncl27, Hcl27, Gcl27⟩ := id f_26
    have hincl27 : ¬ ((σ.2.1.getD (σ.2.2.2.1.getD 0 0).toNatClampNeg 0) < 0 ∨ cl27.slots.size ≤ ((σ.2.1.getD (σ.2.2.2.1.getD 0 0).toNatClampNeg 0)).toNatClampNeg) := inb_of Scl27 (own_in_e hig)
    obtain ⟨T28, h28, X28, e28, W28, st28⟩ := stZ X25 hx hZ e25 Arcl27 (j := (σ.2.1.getD (σ.2.2.2.1.getD 0 0).toNatClampNeg 0)) hincl27 (g := (mkF m 64 #[.val (.ref aq), .val (.int (0 : Int32)), .val (.ref r0), .val (.int (σ.2.1.getD (σ.2.2.2.1.getD 0 0).toNatClampNeg 0))] [(.int (0 : Int32)), (.int (σ.2.1.getD (σ.2.2.2.1.getD 0 0).toNatClampNeg 0)), (.ref bw)])) rfl rfl (hb hby d5_64)
    have V28 := Arv.set Arcl27 qcl27 Scl27 Ncl27 Hcl27 Gcl27 (fits_nar_bool _) W28 (σ.2.1.getD (σ.2.2.2.1.getD 0 0).toNatClampNeg 0).toNatClampNeg rfl (own_lt hig hl1)
    have Vn28 : Arv Z h28 bw kw .boolean (3 : Int32) ((σ.1.set (σ.2.1.getD (σ.2.2.2.1.getD 0 0).toNatClampNeg 0).toNatClampNeg 0).map Value.int) (.int (0 : Int32)) := (by rw [List.map_set]; exact V28)
    have N28 := Fr.snoc X28 N22 (by omega)
    have K29 : Keep h0 h28 [bw, bf, bc] := K23.wr W28 (Or.inl (List.mem_of_getElem? (i := 0) rfl))
    have f_30 := (((EQ.wr W14).wr W22).wr W28)
    have f_31 := (((fd_late.other W14 (Or.inl (Nat.ne_of_lt (by omega)))).other W22 (Or.inl (Nat.ne_of_lt (by omega)))).other W28 (Or.inl (Nat.ne_of_lt (by omega))))
    have f_32 := (f_24.other W28 (Or.inl (Nat.ne_of_lt (by omega))))
    have f_33 := (((fd_rings.other W14 (Or.inl (Nat.ne_of_lt (by omega)))).other W22 (Or.inl (Nat.ne_of_lt (by omega)))).other W28 (Or.inl (Nat.ne_of_lt (by omega))))
    have f_34 := (((fd_firsts.other W14 (Or.inl (Nat.ne_of_lt (by omega)))).other W22 (Or.inl (Nat.ne_of_lt (by omega)))).other W28 (Or.inl (Nat.ne_of_lt (by omega))))
    have f_35 := ((f_17.other W22 (Or.inl (Nat.ne_of_lt (by omega)))).other W28 (Or.inl (Nat.ne_of_lt (by omega))))
    have f_36 := (((va_bl.other W14 (Nat.ne_of_lt (by omega))).other W22 (Nat.ne_of_lt (by omega))).other W28 (Nat.ne_of_lt (by omega)))
    have f_37 := (((va_br.other W14 (Nat.ne_of_lt (by omega))).other W22 (Nat.ne_of_lt (by omega))).other W28 (Ne.symm (Nat.ne_of_lt (by omega))))
    have f_38 := (((va_r0.other W14 (Nat.ne_of_lt (by omega))).other W22 (Nat.ne_of_lt (by omega))).other W28 (Ne.symm (Nat.ne_of_lt (by omega))))
    have f_39 := (((va_r1.other W14 (Nat.ne_of_lt (by omega))).other W22 (Nat.ne_of_lt (by omega))).other W28 (Ne.symm (Nat.ne_of_lt (by omega))))
    have f_40 := ((Vn14.other W22 (Nat.ne_of_lt (by omega))).other W28 (Ne.symm (Nat.ne_of_lt (by omega))))
    have f_41 := (Vn22.other W28 (Ne.symm (Nat.ne_of_lt (by omega))))
    have fin : own_QI Z h28 aq bl bw br r0 r1 bf bc y (own_take y σ) := by
      rw [own_take_0 hk]
      exact ⟨kl, kw, kr, k0, k1, kf, kc, f_30, f_31, f_32, f_33, f_34, f_35, f_36, Vn28, f_37, f_38, f_39, f_40, f_41⟩
    obtain ⟨fs, hr, hrun, hended, hW, hsame⟩ := X28.leave (v := some (.int (σ.2.1.getD (σ.2.2.2.1.getD 0 0).toNatClampNeg 0))) (fun h => by rw [Bd.returns] at h; cases h) Bd.notSynchronized
    refine ⟨_, _, pre16 _ ?_, hrun, hended, _, _, rfl, ?_, ⟨_, rfl⟩, hW, hsame.mono (by decide) (by decide)⟩
    · show Steps p.tables e below (T14.setTop (mkF m 49 #[.val (.ref aq), .val (.int (0 : Int32)), .val (.ref r0), .val (.int (σ.2.1.getD (σ.2.2.2.1.getD 0 0).toNatClampNeg 0))] [(.ref aq)])) _
      refine st18 _ ?_
      show Steps p.tables e below (T18.setTop (mkF m 52 #[.val (.ref aq), .val (.int (0 : Int32)), .val (.ref r0), .val (.int (σ.2.1.getD (σ.2.2.2.1.getD 0 0).toNatClampNeg 0))] [(.ref bc)])) _
      refine XS.iloadN X18.here hx rfl (hb hby d5_52) rfl ?_
      show Steps p.tables e below (T18.setTop (mkF m 53 #[.val (.ref aq), .val (.int (0 : Int32)), .val (.ref r0), .val (.int (σ.2.1.getD (σ.2.2.2.1.getD 0 0).toNatClampNeg 0))] [(.int (0 : Int32)), (.ref bc)])) _
      jvm_step X18.here [X18.here.top, hx, (hb hby d5_53), Value.category]
      show Steps p.tables e below (T18.setTop (mkF m 54 #[.val (.ref aq), .val (.int (0 : Int32)), .val (.ref r0), .val (.int (σ.2.1.getD (σ.2.2.2.1.getD 0 0).toNatClampNeg 0))] [(.int (0 : Int32)), (.ref bc), (.int (0 : Int32)), (.ref bc)])) _
      refine X18.iaload hx (j := (0 : Int32)) (v := (.int (σ.2.2.2.2.getD 0 0))) (by rw [e18]; exact Arcl20.1) (State.isArrayOf_alike hZ.alike Arcl20.2.1) Arcl20.2.2 hincl20 hatcl20 (g := (mkF m 54 #[.val (.ref aq), .val (.int (0 : Int32)), .val (.ref r0), .val (.int (σ.2.1.getD (σ.2.2.2.1.getD 0 0).toNatClampNeg 0))] [(.int (0 : Int32)), (.ref bc), (.int (0 : Int32)), (.ref bc)])) rfl rfl (hb hby d5_54) _ ?_
      show Steps p.tables e below (T18.setTop (mkF m 55 #[.val (.ref aq), .val (.int (0 : Int32)), .val (.ref r0), .val (.int (σ.2.1.getD (σ.2.2.2.1.getD 0 0).toNatClampNeg 0))] [(.int (σ.2.2.2.2.getD 0 0)), (.int (0 : Int32)), (.ref bc)])) _
      refine XS.iconst X18.here hx rfl (hb hby d5_55) ?_
      show Steps p.tables e below (T18.setTop (mkF m 56 #[.val (.ref aq), .val (.int (0 : Int32)), .val (.ref r0), .val (.int (σ.2.1.getD (σ.2.2.2.1.getD 0 0).toNatClampNeg 0))] [(.int (1 : Int32)), (.int (σ.2.2.2.2.getD 0 0)), (.int (0 : Int32)), (.ref bc)])) _
      refine XS.isub X18.here hx rfl (hb hby d5_56) rfl ?_
      show Steps p.tables e below (T18.setTop (mkF m 57 #[.val (.ref aq), .val (.int (0 : Int32)), .val (.ref r0), .val (.int (σ.2.1.getD (σ.2.2.2.1.getD 0 0).toNatClampNeg 0))] [(.int ((σ.2.2.2.2.getD 0 0) - (1 : Int32))), (.int (0 : Int32)), (.ref bc)])) _
      refine st22 _ ?_
      show Steps p.tables e below (T22.setTop (mkF m 58 #[.val (.ref aq), .val (.int (0 : Int32)), .val (.ref r0), .val (.int (σ.2.1.getD (σ.2.2.2.1.getD 0 0).toNatClampNeg 0))] [])) _
      refine XS.aloadN X22.here hx rfl (hb hby d5_58) rfl rfl ?_
      show Steps p.tables e below (T22.setTop (mkF m 59 #[.val (.ref aq), .val (.int (0 : Int32)), .val (.ref r0), .val (.int (σ.2.1.getD (σ.2.2.2.1.getD 0 0).toNatClampNeg 0))] [(.ref aq)])) _
      refine st25 _ ?_
      show Steps p.tables e below (T25.setTop (mkF m 62 #[.val (.ref aq), .val (.int (0 : Int32)), .val (.ref r0), .val (.int (σ.2.1.getD (σ.2.2.2.1.getD 0 0).toNatClampNeg 0))] [(.ref bw)])) _
      refine XS.iloadN X25.here hx rfl (hb hby d5_62) rfl ?_
      show Steps p.tables e below (T25.setTop (mkF m 63 #[.val (.ref aq), .val (.int (0 : Int32)), .val (.ref r0), .val (.int (σ.2.1.getD (σ.2.2.2.1.getD 0 0).toNatClampNeg 0))] [(.int (σ.2.1.getD (σ.2.2.2.1.getD 0 0).toNatClampNeg 0)), (.ref bw)])) _
      refine XS.iconst X25.here hx rfl (hb hby d5_63) ?_
      show Steps p.tables e below (T25.setTop (mkF m 64 #[.val (.ref aq), .val (.int (0 : Int32)), .val (.ref r0), .val (.int (σ.2.1.getD (σ.2.2.2.1.getD 0 0).toNatClampNeg 0))] [(.int (0 : Int32)), (.int (σ.2.1.getD (σ.2.2.2.1.getD 0 0).toNatClampNeg 0)), (.ref bw)])) _
      refine st28 _ ?_
      show Steps p.tables e below (T28.setTop (mkF m 65 #[.val (.ref aq), .val (.int (0 : Int32)), .val (.ref r0), .val (.int (σ.2.1.getD (σ.2.2.2.1.getD 0 0).toNatClampNeg 0))] [])) _
      refine XS.iloadN X28.here hx rfl (hb hby d5_65) rfl ?_
      show Steps p.tables e below (T28.setTop (mkF m 66 #[.val (.ref aq), .val (.int (0 : Int32)), .val (.ref r0), .val (.int (σ.2.1.getD (σ.2.2.2.1.getD 0 0).toNatClampNeg 0))] [(.int (σ.2.1.getD (σ.2.2.2.1.getD 0 0).toNatClampNeg 0))])) _
      exact retI X28 hx Bd.returns (hb hby d5_66) hr
    · show Q_rmT Z aq bl bw br r0 r1 bf bc y σ h0 n0 _ T28.heap _
      rw [e28]
      exact ⟨(by rw [own_got_0 hk]), N28, K29, fin⟩
  · obtain ⟨hif, hnz, hig⟩ := ht1 hk
    obtain ⟨T42, X42, e42, st42⟩ := getF X1 hx hZ hown (host := "") (Or.inl (hw _ (List.mem_of_getElem? (i := 32) rfl))) Via.refl e1 fd_rings (g := (mkF m 16 #[.val (.ref aq), .val (.int (1 : Int32)), .unset, .unset] [(.ref aq)])) rfl rfl (hb hby d5_16)
    obtain ⟨cl43, Arcl43, qcl43, Scl43, Ncl43, Hcl43, Gcl43⟩ := id va_br
    have hincl43 : ¬ ((1 : Int32) < 0 ∨ cl43.slots.size ≤ ((1 : Int32)).toNatClampNeg) := inb_of Scl43 ⟨by decide, by decide⟩
    have hatcl43 : cl43.slots[((1 : Int32)).toNatClampNeg]? = some (.ref r1) := Hcl43.at hincl43 rfl
    obtain ⟨T44, X44, e44, st44⟩ := getF X42 hx hZ hown (host := "") (Or.inl (hw _ (List.mem_of_getElem? (i := 34) rfl))) Via.refl e42 fd_firsts (g := (mkF m 24 #[.val (.ref aq), .val (.int (1 : Int32)), .val (.ref r1), .unset] [(.ref aq), (.ref r1)])) rfl rfl (hb hby d5_24)
    obtain ⟨cl45, Arcl45, qcl45, Scl45, Ncl45, Hcl45, Gcl45⟩ := id va_bf
    have hincl45 : ¬ ((1 : Int32) < 0 ∨ cl45.slots.size ≤ ((1 : Int32)).toNatClampNeg) := inb_of Scl45 ⟨by decide, by decide⟩
    have hatcl45 : cl45.slots[((1 : Int32)).toNatClampNeg]? = some (.int (σ.2.2.2.1.getD 1 0)) := Hcl45.at hincl45 (own_gm σ.2.2.2.1 1)
    obtain ⟨cl46, Arcl46, qcl46, Scl46, Ncl46, Hcl46, Gcl46⟩ := id va_r1
    have hincl46 : ¬ ((σ.2.2.2.1.getD 1 0) < 0 ∨ cl46.slots.size ≤ ((σ.2.2.2.1.getD 1 0)).toNatClampNeg) := inb_of Scl46 (own_in_e hif)
    have hatcl46 : cl46.slots[((σ.2.2.2.1.getD 1 0)).toNatClampNeg]? = some (.int (σ.2.2.1.getD (σ.2.2.2.1.getD 1 0).toNatClampNeg 0)) := Hcl46.at hincl46 (own_gm σ.2.2.1 _)
    obtain ⟨T47, X47, e47, st47⟩ := getF X44 hx hZ hown (host := "") (Or.inl (hw _ (List.mem_of_getElem? (i := 34) rfl))) Via.refl e44 fd_firsts (g := (mkF m 32 #[.val (.ref aq), .val (.int (1 : Int32)), .val (.ref r1), .val (.int (σ.2.2.1.getD (σ.2.2.2.1.getD 1 0).toNatClampNeg 0))] [(.ref aq)])) rfl rfl (hb hby d5_32)
    obtain ⟨T48, X48, e48, st48⟩ := getF X47 hx hZ hown (host := "") (Or.inl (hw _ (List.mem_of_getElem? (i := 34) rfl))) Via.refl e47 fd_firsts (g := (mkF m 37 #[.val (.ref aq), .val (.int (1 : Int32)), .val (.ref r1), .val (.int (σ.2.2.1.getD (σ.2.2.2.1.getD 1 0).toNatClampNeg 0))] [(.ref aq), (.int (1 : Int32)), (.ref bf)])) rfl rfl (hb hby d5_37)
    obtain ⟨cl49, Arcl49, qcl49, Scl49, Ncl49, Hcl49, Gcl49⟩ := id va_bf
    have hincl49 : ¬ ((1 : Int32) < 0 ∨ cl49.slots.size ≤ ((1 : Int32)).toNatClampNeg) := inb_of Scl49 ⟨by decide, by decide⟩
    have hatcl49 : cl49.slots[((1 : Int32)).toNatClampNeg]? = some (.int (σ.2.2.2.1.getD 1 0)) := Hcl49.at hincl49 (own_gm σ.2.2.2.1 1)
    obtain ⟨cl50, Arcl50, -, Scl50, Ncl50, -, -⟩ := id va_r1
    obtain ⟨cl51, Arcl51, qcl51, Scl51, Ncl51, Hcl51, Gcl51⟩ := id va_bf
    have hincl51 : ¬ ((1 : Int32) < 0 ∨ cl51.slots.size ≤ ((1 : Int32)).toNatClampNeg) := inb_of Scl51 ⟨by decide, by decide⟩
    obtain ⟨T52, h52, X52, e52, W52, st52⟩ := stI X48 hx hZ e48 Arcl51 (j := (1 : Int32)) hincl51 (g := (mkF m 47 #[.val (.ref aq), .val (.int (1 : Int32)), .val (.ref r1), .val (.int (σ.2.2.1.getD (σ.2.2.2.1.getD 1 0).toNatClampNeg 0))] [(.int (((σ.2.2.2.1.getD 1 0) + (1 : Int32)) % (own_cn y))), (.int (1 : Int32)), (.ref bf)])) rfl rfl (hb hby d5_47)
    have V52 := Arv.set Arcl51 qcl51 Scl51 Ncl51 Hcl51 Gcl51 rfl W52 1 rfl (by rw [List.length_map, hl4]; decide)
    have Vn52 : Arv Z h52 bf kf .int (2 : Int32) ((σ.2.2.2.1.set 1 (((σ.2.2.2.1.getD 1 0) + 1) % (own_cn y))).map Value.int) (.int (0 : Int32)) := (by rw [List.map_set]; exact V52)
    have N52 := Fr.snoc X52 N0 (by omega)
    have K53 : Keep h0 h52 [bw, bf, bc] := (Keep.refl h0 [bw, bf, bc]).wr W52 (Or.inl (List.mem_of_getElem? (i := 1) rfl))
    have f_54 := (fd_counts.other W52 (Or.inl (Nat.ne_of_lt (by omega))))
    obtain ⟨T55, X55, e55, st55⟩ := getF X52 hx hZ hown (host := "") (Or.inl (hw _ (List.mem_of_getElem? (i := 36) rfl))) Via.refl e52 f_54 (g := (mkF m 49 #[.val (.ref aq), .val (.int (1 : Int32)), .val (.ref r1), .val (.int (σ.2.2.1.getD (σ.2.2.2.1.getD 1 0).toNatClampNeg 0))] [(.ref aq)])) rfl rfl (hb hby d5_49)
    have pre56 : ∀ t, Steps p.tables e below (T55.setTop (mkF m 52 #[.val (.ref aq), .val (.int (1 : Int32)), .val (.ref r1), .val (.int (σ.2.2.1.getD (σ.2.2.2.1.getD 1 0).toNatClampNeg 0))] [(.ref bc)])) t → Steps p.tables e below S0 t := by
      intro t k
      refine pre3 t ?_
      show Steps p.tables e below (T1.setTop (mkF m 6 #[.val (.ref aq), .unset, .unset, .unset] [(.int (σ.2.2.2.2.getD 0 0))])) _
      refine XS.ifYes X1.here hx rfl (pc0 := 6) (pc' := 13) rfl (hb hby d5_6) rfl ((if0 _ _).trans (flt hk).2.2.2) (by decide) (by decide) ?_
      show Steps p.tables e below (T1.setTop (mkF m 13 #[.val (.ref aq), .unset, .unset, .unset] [])) _
      refine XS.iconst X1.here hx rfl (hb hby d5_13) ?_
      show Steps p.tables e below (T1.setTop (mkF m 14 #[.val (.ref aq), .unset, .unset, .unset] [(.int (1 : Int32))])) _
      refine XS.istoreN X1.here hx rfl (hb hby d5_14) rfl (l' := #[.val (.ref aq), .val (.int (1 : Int32)), .unset, .unset]) rfl ?_
      show Steps p.tables e below (T1.setTop (mkF m 15 #[.val (.ref aq), .val (.int (1 : Int32)), .unset, .unset] [])) _
      refine XS.aloadN X1.here hx rfl (hb hby d5_15) rfl rfl ?_
      show Steps p.tables e below (T1.setTop (mkF m 16 #[.val (.ref aq), .val (.int (1 : Int32)), .unset, .unset] [(.ref aq)])) _
      refine st42 _ ?_
      show Steps p.tables e below (T42.setTop (mkF m 19 #[.val (.ref aq), .val (.int (1 : Int32)), .unset, .unset] [(.ref br)])) _
      refine XS.iloadN X42.here hx rfl (hb hby d5_19) rfl ?_
      show Steps p.tables e below (T42.setTop (mkF m 20 #[.val (.ref aq), .val (.int (1 : Int32)), .unset, .unset] [(.int (1 : Int32)), (.ref br)])) _
      refine X42.aaload hx (j := (1 : Int32)) (v := (.ref r1)) (by rw [e42]; exact Arcl43.1) (State.isArrayOf_alike hZ.alike Arcl43.2.1) rfl Arcl43.2.2 hincl43 hatcl43 (g := (mkF m 20 #[.val (.ref aq), .val (.int (1 : Int32)), .unset, .unset] [(.int (1 : Int32)), (.ref br)])) rfl rfl (hb hby d5_20) _ ?_
      show Steps p.tables e below (T42.setTop (mkF m 21 #[.val (.ref aq), .val (.int (1 : Int32)), .unset, .unset] [(.ref r1)])) _
      refine XS.astoreN X42.here hx rfl (hb hby d5_21) rfl rfl (l' := #[.val (.ref aq), .val (.int (1 : Int32)), .val (.ref r1), .unset]) rfl ?_
      show Steps p.tables e below (T42.setTop (mkF m 22 #[.val (.ref aq), .val (.int (1 : Int32)), .val (.ref r1), .unset] [])) _
      refine XS.aloadN X42.here hx rfl (hb hby d5_22) rfl rfl ?_
      show Steps p.tables e below (T42.setTop (mkF m 23 #[.val (.ref aq), .val (.int (1 : Int32)), .val (.ref r1), .unset] [(.ref r1)])) _
      refine XS.aloadN X42.here hx rfl (hb hby d5_23) rfl rfl ?_
      show Steps p.tables e below (T42.setTop (mkF m 24 #[.val (.ref aq), .val (.int (1 : Int32)), .val (.ref r1), .unset] [(.ref aq), (.ref r1)])) _
      refine st44 _ ?_
      show Steps p.tables e below (T44.setTop (mkF m 27 #[.val (.ref aq), .val (.int (1 : Int32)), .val (.ref r1), .unset] [(.ref bf), (.ref r1)])) _
      refine XS.iloadN X44.here hx rfl (hb hby d5_27) rfl ?_
      show Steps p.tables e below (T44.setTop (mkF m 28 #[.val (.ref aq), .val (.int (1 : Int32)), .val (.ref r1), .unset] [(.int (1 : Int32)), (.ref bf), (.ref r1)])) _
      refine X44.iaload hx (j := (1 : Int32)) (v := (.int (σ.2.2.2.1.getD 1 0))) (by rw [e44]; exact Arcl45.1) (State.isArrayOf_alike hZ.alike Arcl45.2.1) Arcl45.2.2 hincl45 hatcl45 (g := (mkF m 28 #[.val (.ref aq), .val (.int (1 : Int32)), .val (.ref r1), .unset] [(.int (1 : Int32)), (.ref bf), (.ref r1)])) rfl rfl (hb hby d5_28) _ ?_
      show Steps p.tables e below (T44.setTop (mkF m 29 #[.val (.ref aq), .val (.int (1 : Int32)), .val (.ref r1), .unset] [(.int (σ.2.2.2.1.getD 1 0)), (.ref r1)])) _
      refine X44.iaload hx (j := (σ.2.2.2.1.getD 1 0)) (v := (.int (σ.2.2.1.getD (σ.2.2.2.1.getD 1 0).toNatClampNeg 0))) (by rw [e44]; exact Arcl46.1) (State.isArrayOf_alike hZ.alike Arcl46.2.1) Arcl46.2.2 hincl46 hatcl46 (g := (mkF m 29 #[.val (.ref aq), .val (.int (1 : Int32)), .val (.ref r1), .unset] [(.int (σ.2.2.2.1.getD 1 0)), (.ref r1)])) rfl rfl (hb hby d5_29) _ ?_
      show Steps p.tables e below (T44.setTop (mkF m 30 #[.val (.ref aq), .val (.int (1 : Int32)), .val (.ref r1), .unset] [(.int (σ.2.2.1.getD (σ.2.2.2.1.getD 1 0).toNatClampNeg 0))])) _
      refine XS.istoreN X44.here hx rfl (hb hby d5_30) rfl (l' := #[.val (.ref aq), .val (.int (1 : Int32)), .val (.ref r1), .val (.int (σ.2.2.1.getD (σ.2.2.2.1.getD 1 0).toNatClampNeg 0))]) rfl ?_
      show Steps p.tables e below (T44.setTop (mkF m 31 #[.val (.ref aq), .val (.int (1 : Int32)), .val (.ref r1), .val (.int (σ.2.2.1.getD (σ.2.2.2.1.getD 1 0).toNatClampNeg 0))] [])) _
      refine XS.aloadN X44.here hx rfl (hb hby d5_31) rfl rfl ?_
      show Steps p.tables e below (T44.setTop (mkF m 32 #[.val (.ref aq), .val (.int (1 : Int32)), .val (.ref r1), .val (.int (σ.2.2.1.getD (σ.2.2.2.1.getD 1 0).toNatClampNeg 0))] [(.ref aq)])) _
      refine st47 _ ?_
      show Steps p.tables e below (T47.setTop (mkF m 35 #[.val (.ref aq), .val (.int (1 : Int32)), .val (.ref r1), .val (.int (σ.2.2.1.getD (σ.2.2.2.1.getD 1 0).toNatClampNeg 0))] [(.ref bf)])) _
      refine XS.iloadN X47.here hx rfl (hb hby d5_35) rfl ?_
      show Steps p.tables e below (T47.setTop (mkF m 36 #[.val (.ref aq), .val (.int (1 : Int32)), .val (.ref r1), .val (.int (σ.2.2.1.getD (σ.2.2.2.1.getD 1 0).toNatClampNeg 0))] [(.int (1 : Int32)), (.ref bf)])) _
      refine XS.aloadN X47.here hx rfl (hb hby d5_36) rfl rfl ?_
      show Steps p.tables e below (T47.setTop (mkF m 37 #[.val (.ref aq), .val (.int (1 : Int32)), .val (.ref r1), .val (.int (σ.2.2.1.getD (σ.2.2.2.1.getD 1 0).toNatClampNeg 0))] [(.ref aq), (.int (1 : Int32)), (.ref bf)])) _
      refine st48 _ ?_
      show Steps p.tables e below (T48.setTop (mkF m 40 #[.val (.ref aq), .val (.int (1 : Int32)), .val (.ref r1), .val (.int (σ.2.2.1.getD (σ.2.2.2.1.getD 1 0).toNatClampNeg 0))] [(.ref bf), (.int (1 : Int32)), (.ref bf)])) _
      refine XS.iloadN X48.here hx rfl (hb hby d5_40) rfl ?_
      show Steps p.tables e below (T48.setTop (mkF m 41 #[.val (.ref aq), .val (.int (1 : Int32)), .val (.ref r1), .val (.int (σ.2.2.1.getD (σ.2.2.2.1.getD 1 0).toNatClampNeg 0))] [(.int (1 : Int32)), (.ref bf), (.int (1 : Int32)), (.ref bf)])) _
      refine X48.iaload hx (j := (1 : Int32)) (v := (.int (σ.2.2.2.1.getD 1 0))) (by rw [e48]; exact Arcl49.1) (State.isArrayOf_alike hZ.alike Arcl49.2.1) Arcl49.2.2 hincl49 hatcl49 (g := (mkF m 41 #[.val (.ref aq), .val (.int (1 : Int32)), .val (.ref r1), .val (.int (σ.2.2.1.getD (σ.2.2.2.1.getD 1 0).toNatClampNeg 0))] [(.int (1 : Int32)), (.ref bf), (.int (1 : Int32)), (.ref bf)])) rfl rfl (hb hby d5_41) _ ?_
      show Steps p.tables e below (T48.setTop (mkF m 42 #[.val (.ref aq), .val (.int (1 : Int32)), .val (.ref r1), .val (.int (σ.2.2.1.getD (σ.2.2.2.1.getD 1 0).toNatClampNeg 0))] [(.int (σ.2.2.2.1.getD 1 0)), (.int (1 : Int32)), (.ref bf)])) _
      refine XS.iconst X48.here hx rfl (hb hby d5_42) ?_
      show Steps p.tables e below (T48.setTop (mkF m 43 #[.val (.ref aq), .val (.int (1 : Int32)), .val (.ref r1), .val (.int (σ.2.2.1.getD (σ.2.2.2.1.getD 1 0).toNatClampNeg 0))] [(.int (1 : Int32)), (.int (σ.2.2.2.1.getD 1 0)), (.int (1 : Int32)), (.ref bf)])) _
      refine XS.iadd X48.here hx rfl (hb hby d5_43) rfl ?_
      show Steps p.tables e below (T48.setTop (mkF m 44 #[.val (.ref aq), .val (.int (1 : Int32)), .val (.ref r1), .val (.int (σ.2.2.1.getD (σ.2.2.2.1.getD 1 0).toNatClampNeg 0))] [(.int ((σ.2.2.2.1.getD 1 0) + (1 : Int32))), (.int (1 : Int32)), (.ref bf)])) _
      refine XS.aloadN X48.here hx rfl (hb hby d5_44) rfl rfl ?_
      show Steps p.tables e below (T48.setTop (mkF m 45 #[.val (.ref aq), .val (.int (1 : Int32)), .val (.ref r1), .val (.int (σ.2.2.1.getD (σ.2.2.2.1.getD 1 0).toNatClampNeg 0))] [(.ref r1), (.int ((σ.2.2.2.1.getD 1 0) + (1 : Int32))), (.int (1 : Int32)), (.ref bf)])) _
      refine X48.arraylength hx (by rw [e48]; exact Arcl50.1) (State.isArrayOf_alike hZ.alike Arcl50.2.1) (g := (mkF m 45 #[.val (.ref aq), .val (.int (1 : Int32)), .val (.ref r1), .val (.int (σ.2.2.1.getD (σ.2.2.2.1.getD 1 0).toNatClampNeg 0))] [(.ref r1), (.int ((σ.2.2.2.1.getD 1 0) + (1 : Int32))), (.int (1 : Int32)), (.ref bf)])) rfl rfl (hb hby d5_45) _ ?_
      rw [len_of Scl50 Ncl50]
      show Steps p.tables e below (T48.setTop (mkF m 46 #[.val (.ref aq), .val (.int (1 : Int32)), .val (.ref r1), .val (.int (σ.2.2.1.getD (σ.2.2.2.1.getD 1 0).toNatClampNeg 0))] [(.int (own_cn y)), (.int ((σ.2.2.2.1.getD 1 0) + (1 : Int32))), (.int (1 : Int32)), (.ref bf)])) _
      refine iremM (g := (mkF m 46 #[.val (.ref aq), .val (.int (1 : Int32)), .val (.ref r1), .val (.int (σ.2.2.1.getD (σ.2.2.2.1.getD 1 0).toNatClampNeg 0))] [(.int (own_cn y)), (.int ((σ.2.2.2.1.getD 1 0) + (1 : Int32))), (.int (1 : Int32)), (.ref bf)])) X48 hx rfl (hb hby d5_46) rfl hnz ?_
      show Steps p.tables e below (T48.setTop (mkF m 47 #[.val (.ref aq), .val (.int (1 : Int32)), .val (.ref r1), .val (.int (σ.2.2.1.getD (σ.2.2.2.1.getD 1 0).toNatClampNeg 0))] [(.int (((σ.2.2.2.1.getD 1 0) + (1 : Int32)) % (own_cn y))), (.int (1 : Int32)), (.ref bf)])) _
      refine st52 _ ?_
      show Steps p.tables e below (T52.setTop (mkF m 48 #[.val (.ref aq), .val (.int (1 : Int32)), .val (.ref r1), .val (.int (σ.2.2.1.getD (σ.2.2.2.1.getD 1 0).toNatClampNeg 0))] [])) _
      refine XS.aloadN X52.here hx rfl (hb hby d5_48) rfl rfl ?_
      show Steps p.tables e below (T52.setTop (mkF m 49 #[.val (.ref aq), .val (.int (1 : Int32)), .val (.ref r1), .val (.int (σ.2.2.1.getD (σ.2.2.2.1.getD 1 0).toNatClampNeg 0))] [(.ref aq)])) _
      refine st55 _ ?_
      exact k
    have f_57 := (va_bc.other W52 (Ne.symm (Nat.ne_of_lt (by omega))))
    obtain ⟨cl58, Arcl58, qcl58, Scl58, Ncl58, Hcl58, Gcl58⟩ := id f_57
    have hincl58 : ¬ ((1 : Int32) < 0 ∨ cl58.slots.size ≤ ((1 : Int32)).toNatClampNeg) := inb_of Scl58 ⟨by decide, by decide⟩
    have hatcl58 : cl58.slots[((1 : Int32)).toNatClampNeg]? = some (.int (σ.2.2.2.2.getD 1 0)) := Hcl58.at hincl58 (own_gm σ.2.2.2.2 1)
    obtain ⟨cl59, Arcl59, qcl59, Scl59, Ncl59, Hcl59, Gcl59⟩ := id f_57
    have hincl59 : ¬ ((1 : Int32) < 0 ∨ cl59.slots.size ≤ ((1 : Int32)).toNatClampNeg) := inb_of Scl59 ⟨by decide, by decide⟩
    obtain ⟨T60, h60, X60, e60, W60, st60⟩ := stI X55 hx hZ e55 Arcl59 (j := (1 : Int32)) hincl59 (g := (mkF m 57 #[.val (.ref aq), .val (.int (1 : Int32)), .val (.ref r1), .val (.int (σ.2.2.1.getD (σ.2.2.2.1.getD 1 0).toNatClampNeg 0))] [(.int ((σ.2.2.2.2.getD 1 0) - (1 : Int32))), (.int (1 : Int32)), (.ref bc)])) rfl rfl (hb hby d5_57)
    have V60 := Arv.set Arcl59 qcl59 Scl59 Ncl59 Hcl59 Gcl59 rfl W60 1 rfl (by rw [List.length_map, hl5]; decide)
    have Vn60 : Arv Z h60 bc kc .int (2 : Int32) ((σ.2.2.2.2.set 1 ((σ.2.2.2.2.getD 1 0) - 1)).map Value.int) (.int (0 : Int32)) := (by rw [List.map_set]; exact V60)
    have N60 := Fr.snoc X60 N52 (by omega)
    have K61 : Keep h0 h60 [bw, bf, bc] := K53.wr W60 (Or.inl (List.mem_of_getElem? (i := 2) rfl))
    have f_62 := ((fd_waiting.other W52 (Or.inl (Nat.ne_of_lt (by omega)))).other W60 (Or.inl (Nat.ne_of_lt (by omega))))
    obtain ⟨T63, X63, e63, st63⟩ := getF X60 hx hZ hown (host := "") (Or.inl (hw _ (List.mem_of_getElem? (i := 27) rfl))) Via.refl e60 f_62 (g := (mkF m 59 #[.val (.ref aq), .val (.int (1 : Int32)), .val (.ref r1), .val (.int (σ.2.2.1.getD (σ.2.2.2.1.getD 1 0).toNatClampNeg 0))] [(.ref aq)])) rfl rfl (hb hby d5_59)
    have f_64 := ((va_bw.other W52 (Nat.ne_of_lt (by omega))).other W60 (Nat.ne_of_lt (by omega)))
    obtain ⟨cl65, Arcl65, qcl65, Scl65, Ncl65, Hcl65, Gcl65⟩ := id f_64
    have hincl65 : ¬ ((σ.2.2.1.getD (σ.2.2.2.1.getD 1 0).toNatClampNeg 0) < 0 ∨ cl65.slots.size ≤ ((σ.2.2.1.getD (σ.2.2.2.1.getD 1 0).toNatClampNeg 0)).toNatClampNeg) := inb_of Scl65 (own_in_e hig)
    obtain ⟨T66, h66, X66, e66, W66, st66⟩ := stZ X63 hx hZ e63 Arcl65 (j := (σ.2.2.1.getD (σ.2.2.2.1.getD 1 0).toNatClampNeg 0)) hincl65 (g := (mkF m 64 #[.val (.ref aq), .val (.int (1 : Int32)), .val (.ref r1), .val (.int (σ.2.2.1.getD (σ.2.2.2.1.getD 1 0).toNatClampNeg 0))] [(.int (0 : Int32)), (.int (σ.2.2.1.getD (σ.2.2.2.1.getD 1 0).toNatClampNeg 0)), (.ref bw)])) rfl rfl (hb hby d5_64)
    have V66 := Arv.set Arcl65 qcl65 Scl65 Ncl65 Hcl65 Gcl65 (fits_nar_bool _) W66 (σ.2.2.1.getD (σ.2.2.2.1.getD 1 0).toNatClampNeg 0).toNatClampNeg rfl (own_lt hig hl1)
    have Vn66 : Arv Z h66 bw kw .boolean (3 : Int32) ((σ.1.set (σ.2.2.1.getD (σ.2.2.2.1.getD 1 0).toNatClampNeg 0).toNatClampNeg 0).map Value.int) (.int (0 : Int32)) := (by rw [List.map_set]; exact V66)
    have N66 := Fr.snoc X66 N60 (by omega)
    have K67 : Keep h0 h66 [bw, bf, bc] := K61.wr W66 (Or.inl (List.mem_of_getElem? (i := 0) rfl))
    have f_68 := (((EQ.wr W52).wr W60).wr W66)
    have f_69 := (((fd_late.other W52 (Or.inl (Nat.ne_of_lt (by omega)))).other W60 (Or.inl (Nat.ne_of_lt (by omega)))).other W66 (Or.inl (Nat.ne_of_lt (by omega))))
    have f_70 := (f_62.other W66 (Or.inl (Nat.ne_of_lt (by omega))))
    have f_71 := (((fd_rings.other W52 (Or.inl (Nat.ne_of_lt (by omega)))).other W60 (Or.inl (Nat.ne_of_lt (by omega)))).other W66 (Or.inl (Nat.ne_of_lt (by omega))))
    have f_72 := (((fd_firsts.other W52 (Or.inl (Nat.ne_of_lt (by omega)))).other W60 (Or.inl (Nat.ne_of_lt (by omega)))).other W66 (Or.inl (Nat.ne_of_lt (by omega))))
    have f_73 := ((f_54.other W60 (Or.inl (Nat.ne_of_lt (by omega)))).other W66 (Or.inl (Nat.ne_of_lt (by omega))))
    have f_74 := (((va_bl.other W52 (Nat.ne_of_lt (by omega))).other W60 (Nat.ne_of_lt (by omega))).other W66 (Nat.ne_of_lt (by omega)))
    have f_75 := (((va_br.other W52 (Nat.ne_of_lt (by omega))).other W60 (Nat.ne_of_lt (by omega))).other W66 (Ne.symm (Nat.ne_of_lt (by omega))))
    have f_76 := (((va_r0.other W52 (Nat.ne_of_lt (by omega))).other W60 (Nat.ne_of_lt (by omega))).other W66 (Ne.symm (Nat.ne_of_lt (by omega))))
    have f_77 := (((va_r1.other W52 (Nat.ne_of_lt (by omega))).other W60 (Nat.ne_of_lt (by omega))).other W66 (Ne.symm (Nat.ne_of_lt (by omega))))
    have f_78 := ((Vn52.other W60 (Nat.ne_of_lt (by omega))).other W66 (Ne.symm (Nat.ne_of_lt (by omega))))
    have f_79 := (Vn60.other W66 (Ne.symm (Nat.ne_of_lt (by omega))))
    have fin : own_QI Z h66 aq bl bw br r0 r1 bf bc y (own_take y σ) := by
      rw [own_take_1 hk]
      exact ⟨kl, kw, kr, k0, k1, kf, kc, f_68, f_69, f_70, f_71, f_72, f_73, f_74, Vn66, f_75, f_76, f_77, f_78, f_79⟩
    obtain ⟨fs, hr, hrun, hended, hW, hsame⟩ := X66.leave (v := some (.int (σ.2.2.1.getD (σ.2.2.2.1.getD 1 0).toNatClampNeg 0))) (fun h => by rw [Bd.returns] at h; cases h) Bd.notSynchronized
    refine ⟨_, _, pre56 _ ?_, hrun, hended, _, _, rfl, ?_, ⟨_, rfl⟩, hW, hsame.mono (by decide) (by decide)⟩
    · show Steps p.tables e below (T55.setTop (mkF m 52 #[.val (.ref aq), .val (.int (1 : Int32)), .val (.ref r1), .val (.int (σ.2.2.1.getD (σ.2.2.2.1.getD 1 0).toNatClampNeg 0))] [(.ref bc)])) _
      refine XS.iloadN X55.here hx rfl (hb hby d5_52) rfl ?_
      show Steps p.tables e below (T55.setTop (mkF m 53 #[.val (.ref aq), .val (.int (1 : Int32)), .val (.ref r1), .val (.int (σ.2.2.1.getD (σ.2.2.2.1.getD 1 0).toNatClampNeg 0))] [(.int (1 : Int32)), (.ref bc)])) _
      jvm_step X55.here [X55.here.top, hx, (hb hby d5_53), Value.category]
      show Steps p.tables e below (T55.setTop (mkF m 54 #[.val (.ref aq), .val (.int (1 : Int32)), .val (.ref r1), .val (.int (σ.2.2.1.getD (σ.2.2.2.1.getD 1 0).toNatClampNeg 0))] [(.int (1 : Int32)), (.ref bc), (.int (1 : Int32)), (.ref bc)])) _
      refine X55.iaload hx (j := (1 : Int32)) (v := (.int (σ.2.2.2.2.getD 1 0))) (by rw [e55]; exact Arcl58.1) (State.isArrayOf_alike hZ.alike Arcl58.2.1) Arcl58.2.2 hincl58 hatcl58 (g := (mkF m 54 #[.val (.ref aq), .val (.int (1 : Int32)), .val (.ref r1), .val (.int (σ.2.2.1.getD (σ.2.2.2.1.getD 1 0).toNatClampNeg 0))] [(.int (1 : Int32)), (.ref bc), (.int (1 : Int32)), (.ref bc)])) rfl rfl (hb hby d5_54) _ ?_
      show Steps p.tables e below (T55.setTop (mkF m 55 #[.val (.ref aq), .val (.int (1 : Int32)), .val (.ref r1), .val (.int (σ.2.2.1.getD (σ.2.2.2.1.getD 1 0).toNatClampNeg 0))] [(.int (σ.2.2.2.2.getD 1 0)), (.int (1 : Int32)), (.ref bc)])) _
      refine XS.iconst X55.here hx rfl (hb hby d5_55) ?_
      show Steps p.tables e below (T55.setTop (mkF m 56 #[.val (.ref aq), .val (.int (1 : Int32)), .val (.ref r1), .val (.int (σ.2.2.1.getD (σ.2.2.2.1.getD 1 0).toNatClampNeg 0))] [(.int (1 : Int32)), (.int (σ.2.2.2.2.getD 1 0)), (.int (1 : Int32)), (.ref bc)])) _
      refine XS.isub X55.here hx rfl (hb hby d5_56) rfl ?_
      show Steps p.tables e below (T55.setTop (mkF m 57 #[.val (.ref aq), .val (.int (1 : Int32)), .val (.ref r1), .val (.int (σ.2.2.1.getD (σ.2.2.2.1.getD 1 0).toNatClampNeg 0))] [(.int ((σ.2.2.2.2.getD 1 0) - (1 : Int32))), (.int (1 : Int32)), (.ref bc)])) _
      refine st60 _ ?_
      show Steps p.tables e below (T60.setTop (mkF m 58 #[.val (.ref aq), .val (.int (1 : Int32)), .val (.ref r1), .val (.int (σ.2.2.1.getD (σ.2.2.2.1.getD 1 0).toNatClampNeg 0))] [])) _
      refine XS.aloadN X60.here hx rfl (hb hby d5_58) rfl rfl ?_
      show Steps p.tables e below (T60.setTop (mkF m 59 #[.val (.ref aq), .val (.int (1 : Int32)), .val (.ref r1), .val (.int (σ.2.2.1.getD (σ.2.2.2.1.getD 1 0).toNatClampNeg 0))] [(.ref aq)])) _
      refine st63 _ ?_
      show Steps p.tables e below (T63.setTop (mkF m 62 #[.val (.ref aq), .val (.int (1 : Int32)), .val (.ref r1), .val (.int (σ.2.2.1.getD (σ.2.2.2.1.getD 1 0).toNatClampNeg 0))] [(.ref bw)])) _
      refine XS.iloadN X63.here hx rfl (hb hby d5_62) rfl ?_
      show Steps p.tables e below (T63.setTop (mkF m 63 #[.val (.ref aq), .val (.int (1 : Int32)), .val (.ref r1), .val (.int (σ.2.2.1.getD (σ.2.2.2.1.getD 1 0).toNatClampNeg 0))] [(.int (σ.2.2.1.getD (σ.2.2.2.1.getD 1 0).toNatClampNeg 0)), (.ref bw)])) _
      refine XS.iconst X63.here hx rfl (hb hby d5_63) ?_
      show Steps p.tables e below (T63.setTop (mkF m 64 #[.val (.ref aq), .val (.int (1 : Int32)), .val (.ref r1), .val (.int (σ.2.2.1.getD (σ.2.2.2.1.getD 1 0).toNatClampNeg 0))] [(.int (0 : Int32)), (.int (σ.2.2.1.getD (σ.2.2.2.1.getD 1 0).toNatClampNeg 0)), (.ref bw)])) _
      refine st66 _ ?_
      show Steps p.tables e below (T66.setTop (mkF m 65 #[.val (.ref aq), .val (.int (1 : Int32)), .val (.ref r1), .val (.int (σ.2.2.1.getD (σ.2.2.2.1.getD 1 0).toNatClampNeg 0))] [])) _
      refine XS.iloadN X66.here hx rfl (hb hby d5_65) rfl ?_
      show Steps p.tables e below (T66.setTop (mkF m 66 #[.val (.ref aq), .val (.int (1 : Int32)), .val (.ref r1), .val (.int (σ.2.2.1.getD (σ.2.2.2.1.getD 1 0).toNatClampNeg 0))] [(.int (σ.2.2.1.getD (σ.2.2.2.1.getD 1 0).toNatClampNeg 0))])) _
      exact retI X66 hx Bd.returns (hb hby d5_66) hr
    · show Q_rmT Z aq bl bw br r0 r1 bf bc y σ h0 n0 _ T66.heap _
      rw [e66]
      exact ⟨(by rw [own_got_1 hk]), N66, K67, fin⟩
theorem ef_6 (m : MethodId) (x0 : Addr) : entryFrame m #[(.ref x0)] 1 = mkF m 0 #[.val (.ref x0)] [] := by first | (simp [entryFrame, mkF, argsToLocals, Value.category]; done) | rfl
theorem d6_0 : decode prog_32_method_3_code 0 = .ok (.aload_n 0, 1) := by decide +kernel
theorem d6_1 : decode prog_32_method_3_code 1 = .ok (.getfield 33, 3) := by decide +kernel
theorem d6_4 : decode prog_32_method_3_code 4 = .ok (.iconst 0, 1) := by decide +kernel
theorem d6_5 : decode prog_32_method_3_code 5 = .ok (.iaload, 1) := by decide +kernel
theorem d6_6 : decode prog_32_method_3_code 6 = .ok (.ifCond .ne 16, 3) := by decide +kernel
theorem d6_9 : decode prog_32_method_3_code 9 = .ok (.aload_n 0, 1) := by decide +kernel
theorem d6_10 : decode prog_32_method_3_code 10 = .ok (.getfield 33, 3) := by decide +kernel
theorem d6_13 : decode prog_32_method_3_code 13 = .ok (.iconst 1, 1) := by decide +kernel
theorem d6_14 : decode prog_32_method_3_code 14 = .ok (.iaload, 1) := by decide +kernel
theorem d6_15 : decode prog_32_method_3_code 15 = .ok (.ifCond .ne 7, 3) := by decide +kernel
theorem d6_18 : decode prog_32_method_3_code 18 = .ok (.iconst 1, 1) := by decide +kernel
theorem d6_19 : decode prog_32_method_3_code 19 = .ok (.goto 4, 3) := by decide +kernel
theorem d6_23 : decode prog_32_method_3_code 23 = .ok (.ireturn, 1) := by decide +kernel
def Q_rmM (Z : State) (aq : Addr) (bl : Addr) (bw : Addr) (br : Addr) (r0 : Addr) (r1 : Addr) (bf : Addr) (bc : Addr) (y : List Int32) (σ : own_Q) (h0 : Heap) (n0 : Nat) (v : Option Value) (h : Heap) (L : List Loc) : Prop := v = some (.int 1) ∧ Fr n0 L ∧ h = h0
set_option maxRecDepth 65536 in
set_option maxHeartbeats 40000000 in
theorem rmM (l : Launch) (Z : State) (a0 : Array Value) (hw : ∀ d ∈ tables_1, d.before a0 Z = true) (ws : List Jvm.Cond) (aq : Addr) (bl : Addr) (bw : Addr) (br : Addr) (r0 : Addr) (r1 : Addr) (bf : Addr) (bc : Addr) (y : List Int32) (σ : own_Q) (h0 : Heap) (n0 : Nat) (Z0 : n0 ≤ h0.size) (od : aq < bl ∧ bl < bw ∧ bw < br ∧ br < r0 ∧ r0 < r1 ∧ r1 < bf ∧ bf < bc) (QI : own_QI Z h0 aq bl bw br r0 r1 bf bc y σ) (hemp : own_empty σ = true) :
    MetFree l (⟨"com/example/contrepoint/contrepoint/IndexQueue", "isEmpty", "()Z"⟩ : MethodName) (head1 (Jvm.Cond.code (⟨"com/example/contrepoint/contrepoint/IndexQueue", "isEmpty", "()Z"⟩ : MethodName) prog_32_method_3_code 1 (some .boolean) :: ws) ({ frames := 0, cells := 0, slots := 0, locals := 0 } : Room)) (fun a U => a = #[(.ref aq)] ∧ Z.Warmed39 U.vm ∧ U.heap = h0) (fun _ _ _ _ _ => True) (fun _ U o U' => ∃ v L, o = .returned v ∧ Q_rmM Z aq bl bw br r0 r1 bf bc y σ h0 n0 v U'.heap L ∧ FrameEnd U o U' L ({ frames := 0, cells := 0, slots := 0, locals := 0 } : Room).cells ({ frames := 0, cells := 0, slots := 0, locals := 0 } : Room).slots) := by
  refine MetFree.of_bodySF (plainFor_of_name pn_com_example_contrepoint_contrepoint_IndexQueue) hisR ?_
  intro p e s m args below meth c s₁ Bd hml0 hP hK
  obtain ⟨rfl, hZ, hh⟩ := hP
  have hx := Bd.exec
  have hby := Bd.bytes
  have hml : c.maxLocals = 1 := hml0
  have hown : s.vm.findClass "com/example/contrepoint/contrepoint/IndexQueue" = some m.cls := findClass_of_methodNamed Bd.named
  have hnm := (name_of_methodNamed Bd.named Bd.method).1
  have X0 : Stand p l e ({ frames := 0, cells := 0, slots := 0, locals := 0 } : Room) s m #[(.ref aq)] below meth c s₁ [] 0 0 := Stand.of_body Bd
  have e0 : s₁.heap = h0 := by rw [← hh, Bd.state]; rfl
  have N0 := Fr.nil n0
  have pre0 : ∀ t, Steps p.tables e below (s₁.setTop (mkF m 0 #[.val (.ref aq)] [])) t → Steps p.tables e below (s₁.setTop (entryFrame m #[(.ref aq)] 1)) t := fun t k => castTop (ef_6 m aq) k
  obtain ⟨S0, hS0⟩ : ∃ S, S = s₁.setTop (entryFrame m #[(.ref aq)] 1) := ⟨_, rfl⟩
  rw [← hS0] at pre0 ⊢
  have QI0 := QI
  obtain ⟨kl, kw, kr, k0, k1, kf, kc, EQ, fd_late, fd_waiting, fd_rings, fd_firsts, fd_counts, va_bl, va_bw, va_br, va_r0, va_r1, va_bf, va_bc⟩ := QI
  obtain ⟨od1, od2, od3, od4, od5, od6, od7⟩ := od
  have od1 : @LT.lt Nat _ aq bl := od1
  have od2 : @LT.lt Nat _ bl bw := od2
  have od3 : @LT.lt Nat _ bw br := od3
  have od4 : @LT.lt Nat _ br r0 := od4
  have od5 : @LT.lt Nat _ r0 r1 := od5
  have od6 : @LT.lt Nat _ r1 bf := od6
  have od7 : @LT.lt Nat _ bf bc := od7
  obtain ⟨hc0, hc1⟩ := own_empty_e hemp
  obtain ⟨T1, X1, e1, st1⟩ := getF X0 hx hZ hown (host := "") (Or.inl (hw _ (List.mem_of_getElem? (i := 36) rfl))) Via.refl e0 fd_counts (g := (mkF m 1 #[.val (.ref aq)] [(.ref aq)])) rfl rfl (hb hby d6_1)
  obtain ⟨cl2, Arcl2, qcl2, Scl2, Ncl2, Hcl2, Gcl2⟩ := id va_bc
  have hincl2 : ¬ ((0 : Int32) < 0 ∨ cl2.slots.size ≤ ((0 : Int32)).toNatClampNeg) := inb_of Scl2 ⟨by decide, by decide⟩
  have hatcl2 : cl2.slots[((0 : Int32)).toNatClampNeg]? = some (.int (σ.2.2.2.2.getD 0 0)) := Hcl2.at hincl2 (own_gm σ.2.2.2.2 0)
  obtain ⟨T3, X3, e3, st3⟩ := getF X1 hx hZ hown (host := "") (Or.inl (hw _ (List.mem_of_getElem? (i := 36) rfl))) Via.refl e1 fd_counts (g := (mkF m 10 #[.val (.ref aq)] [(.ref aq)])) rfl rfl (hb hby d6_10)
  obtain ⟨cl4, Arcl4, qcl4, Scl4, Ncl4, Hcl4, Gcl4⟩ := id va_bc
  have hincl4 : ¬ ((1 : Int32) < 0 ∨ cl4.slots.size ≤ ((1 : Int32)).toNatClampNeg) := inb_of Scl4 ⟨by decide, by decide⟩
  have hatcl4 : cl4.slots[((1 : Int32)).toNatClampNeg]? = some (.int (σ.2.2.2.2.getD 1 0)) := Hcl4.at hincl4 (own_gm σ.2.2.2.2 1)
  obtain ⟨fs, hr, hrun, hended, hW, hsame⟩ := X3.leave (v := some (.int (1 : Int32))) (fun h => by rw [Bd.returns] at h; cases h) Bd.notSynchronized
  refine ⟨_, _, pre0 _ ?_, hrun, hended, _, _, rfl, ?_, ⟨_, rfl⟩, hW, hsame.mono (by decide) (by decide)⟩
  · show Steps p.tables e below (s₁.setTop (mkF m 0 #[.val (.ref aq)] [])) _
    refine XS.aloadN X0.here hx rfl (hb hby d6_0) rfl rfl ?_
    show Steps p.tables e below (s₁.setTop (mkF m 1 #[.val (.ref aq)] [(.ref aq)])) _
    refine st1 _ ?_
    show Steps p.tables e below (T1.setTop (mkF m 4 #[.val (.ref aq)] [(.ref bc)])) _
    refine XS.iconst X1.here hx rfl (hb hby d6_4) ?_
    show Steps p.tables e below (T1.setTop (mkF m 5 #[.val (.ref aq)] [(.int (0 : Int32)), (.ref bc)])) _
    refine X1.iaload hx (j := (0 : Int32)) (v := (.int (σ.2.2.2.2.getD 0 0))) (by rw [e1]; exact Arcl2.1) (State.isArrayOf_alike hZ.alike Arcl2.2.1) Arcl2.2.2 hincl2 hatcl2 (g := (mkF m 5 #[.val (.ref aq)] [(.int (0 : Int32)), (.ref bc)])) rfl rfl (hb hby d6_5) _ ?_
    show Steps p.tables e below (T1.setTop (mkF m 6 #[.val (.ref aq)] [(.int (σ.2.2.2.2.getD 0 0))])) _
    refine XS.ifNo X1.here hx rfl (hb hby d6_6) rfl ((if0 _ _).trans (teq hc0).2) ?_
    show Steps p.tables e below (T1.setTop (mkF m 9 #[.val (.ref aq)] [])) _
    refine XS.aloadN X1.here hx rfl (hb hby d6_9) rfl rfl ?_
    show Steps p.tables e below (T1.setTop (mkF m 10 #[.val (.ref aq)] [(.ref aq)])) _
    refine st3 _ ?_
    show Steps p.tables e below (T3.setTop (mkF m 13 #[.val (.ref aq)] [(.ref bc)])) _
    refine XS.iconst X3.here hx rfl (hb hby d6_13) ?_
    show Steps p.tables e below (T3.setTop (mkF m 14 #[.val (.ref aq)] [(.int (1 : Int32)), (.ref bc)])) _
    refine X3.iaload hx (j := (1 : Int32)) (v := (.int (σ.2.2.2.2.getD 1 0))) (by rw [e3]; exact Arcl4.1) (State.isArrayOf_alike hZ.alike Arcl4.2.1) Arcl4.2.2 hincl4 hatcl4 (g := (mkF m 14 #[.val (.ref aq)] [(.int (1 : Int32)), (.ref bc)])) rfl rfl (hb hby d6_14) _ ?_
    show Steps p.tables e below (T3.setTop (mkF m 15 #[.val (.ref aq)] [(.int (σ.2.2.2.2.getD 1 0))])) _
    refine XS.ifNo X3.here hx rfl (hb hby d6_15) rfl ((if0 _ _).trans (teq hc1).2) ?_
    show Steps p.tables e below (T3.setTop (mkF m 18 #[.val (.ref aq)] [])) _
    refine XS.iconst X3.here hx rfl (hb hby d6_18) ?_
    show Steps p.tables e below (T3.setTop (mkF m 19 #[.val (.ref aq)] [(.int (1 : Int32))])) _
    refine XS.goto X3.here hx rfl (pc0 := 19) (pc' := 23) rfl (hb hby d6_19) (by decide) (by decide) ?_
    show Steps p.tables e below (T3.setTop (mkF m 23 #[.val (.ref aq)] [(.int (1 : Int32))])) _
    exact retN X3 hx (t := .boolean) Bd.returns (by simp) (hb hby d6_23) hr
  · show Q_rmM Z aq bl bw br r0 r1 bf bc y σ h0 n0 _ T3.heap _
    rw [e3]
    exact ⟨rfl, N0, rfl⟩
theorem ef_2 (m : MethodId) (x0 : Addr) (x1 : Addr) : entryFrame m #[(.ref x0), (.ref x1)] 7 = mkF m 0 #[.val (.ref x0), .val (.ref x1), .unset, .unset, .unset, .unset, .unset] [] := by first | (simp [entryFrame, mkF, argsToLocals, Value.category]; done) | rfl
theorem d2_0 : decode prog_32_method_2_code 0 = .ok (.aload_n 0, 1) := by decide +kernel
theorem d2_1 : decode prog_32_method_2_code 1 = .ok (.invokespecial 7, 3) := by decide +kernel
theorem d2_4 : decode prog_32_method_2_code 4 = .ok (.aload_n 0, 1) := by decide +kernel
theorem d2_5 : decode prog_32_method_2_code 5 = .ok (.aload_n 1, 1) := by decide +kernel
theorem d2_6 : decode prog_32_method_2_code 6 = .ok (.invokevirtual 12, 3) := by decide +kernel
theorem d2_9 : decode prog_32_method_2_code 9 = .ok (.checkcast 13, 3) := by decide +kernel
theorem d2_12 : decode prog_32_method_2_code 12 = .ok (.putfield 18, 3) := by decide +kernel
theorem d2_15 : decode prog_32_method_2_code 15 = .ok (.aload_n 0, 1) := by decide +kernel
theorem d2_16 : decode prog_32_method_2_code 16 = .ok (.aload_n 1, 1) := by decide +kernel
theorem d2_17 : decode prog_32_method_2_code 17 = .ok (.arraylength, 1) := by decide +kernel
theorem d2_18 : decode prog_32_method_2_code 18 = .ok (.newarray .boolean, 2) := by decide +kernel
theorem d2_20 : decode prog_32_method_2_code 20 = .ok (.putfield 21, 3) := by decide +kernel
theorem d2_23 : decode prog_32_method_2_code 23 = .ok (.iconst 0, 1) := by decide +kernel
theorem d2_24 : decode prog_32_method_2_code 24 = .ok (.istore_n 2, 1) := by decide +kernel
theorem d2_25 : decode prog_32_method_2_code 25 = .ok (.aload_n 1, 1) := by decide +kernel
theorem d2_26 : decode prog_32_method_2_code 26 = .ok (.astore_n 3, 1) := by decide +kernel
theorem d2_27 : decode prog_32_method_2_code 27 = .ok (.aload_n 3, 1) := by decide +kernel
theorem d2_28 : decode prog_32_method_2_code 28 = .ok (.arraylength, 1) := by decide +kernel
theorem d2_29 : decode prog_32_method_2_code 29 = .ok (.istore 4, 2) := by decide +kernel
theorem d2_31 : decode prog_32_method_2_code 31 = .ok (.iconst 0, 1) := by decide +kernel
theorem d2_32 : decode prog_32_method_2_code 32 = .ok (.istore 5, 2) := by decide +kernel
theorem d2_34 : decode prog_32_method_2_code 34 = .ok (.iload 5, 2) := by decide +kernel
theorem d2_36 : decode prog_32_method_2_code 36 = .ok (.iload 4, 2) := by decide +kernel
theorem d2_38 : decode prog_32_method_2_code 38 = .ok (.if_icmp .ge 28, 3) := by decide +kernel
theorem d2_41 : decode prog_32_method_2_code 41 = .ok (.aload_n 3, 1) := by decide +kernel
theorem d2_42 : decode prog_32_method_2_code 42 = .ok (.iload 5, 2) := by decide +kernel
theorem d2_44 : decode prog_32_method_2_code 44 = .ok (.baload, 1) := by decide +kernel
theorem d2_45 : decode prog_32_method_2_code 45 = .ok (.istore 6, 2) := by decide +kernel
theorem d2_47 : decode prog_32_method_2_code 47 = .ok (.iload_n 2, 1) := by decide +kernel
theorem d2_48 : decode prog_32_method_2_code 48 = .ok (.iload 6, 2) := by decide +kernel
theorem d2_50 : decode prog_32_method_2_code 50 = .ok (.ifCond .eq 7, 3) := by decide +kernel
theorem d2_57 : decode prog_32_method_2_code 57 = .ok (.iconst 0, 1) := by decide +kernel
theorem d2_53 : decode prog_32_method_2_code 53 = .ok (.iconst 1, 1) := by decide +kernel
theorem d2_54 : decode prog_32_method_2_code 54 = .ok (.goto 4, 3) := by decide +kernel
theorem d2_58 : decode prog_32_method_2_code 58 = .ok (.iadd, 1) := by decide +kernel
theorem d2_59 : decode prog_32_method_2_code 59 = .ok (.istore_n 2, 1) := by decide +kernel
theorem d2_60 : decode prog_32_method_2_code 60 = .ok (.iinc 5 1, 3) := by decide +kernel
theorem d2_63 : decode prog_32_method_2_code 63 = .ok (.goto (-29), 3) := by decide +kernel
theorem d2_66 : decode prog_32_method_2_code 66 = .ok (.aload_n 0, 1) := by decide +kernel
theorem d2_67 : decode prog_32_method_2_code 67 = .ok (.iconst 2, 1) := by decide +kernel
theorem d2_68 : decode prog_32_method_2_code 68 = .ok (.anewarray 24, 3) := by decide +kernel
theorem d2_71 : decode prog_32_method_2_code 71 = .ok (.dup, 1) := by decide +kernel
theorem d2_72 : decode prog_32_method_2_code 72 = .ok (.iconst 0, 1) := by decide +kernel
theorem d2_73 : decode prog_32_method_2_code 73 = .ok (.aload_n 1, 1) := by decide +kernel
theorem d2_74 : decode prog_32_method_2_code 74 = .ok (.arraylength, 1) := by decide +kernel
theorem d2_75 : decode prog_32_method_2_code 75 = .ok (.iload_n 2, 1) := by decide +kernel
theorem d2_76 : decode prog_32_method_2_code 76 = .ok (.isub, 1) := by decide +kernel
theorem d2_77 : decode prog_32_method_2_code 77 = .ok (.newarray .int, 2) := by decide +kernel
theorem d2_79 : decode prog_32_method_2_code 79 = .ok (.aastore, 1) := by decide +kernel
theorem d2_80 : decode prog_32_method_2_code 80 = .ok (.dup, 1) := by decide +kernel
theorem d2_81 : decode prog_32_method_2_code 81 = .ok (.iconst 1, 1) := by decide +kernel
theorem d2_82 : decode prog_32_method_2_code 82 = .ok (.iload_n 2, 1) := by decide +kernel
theorem d2_83 : decode prog_32_method_2_code 83 = .ok (.newarray .int, 2) := by decide +kernel
theorem d2_85 : decode prog_32_method_2_code 85 = .ok (.aastore, 1) := by decide +kernel
theorem d2_86 : decode prog_32_method_2_code 86 = .ok (.putfield 26, 3) := by decide +kernel
theorem d2_89 : decode prog_32_method_2_code 89 = .ok (.aload_n 0, 1) := by decide +kernel
theorem d2_90 : decode prog_32_method_2_code 90 = .ok (.iconst 2, 1) := by decide +kernel
theorem d2_91 : decode prog_32_method_2_code 91 = .ok (.newarray .int, 2) := by decide +kernel
theorem d2_93 : decode prog_32_method_2_code 93 = .ok (.putfield 30, 3) := by decide +kernel
theorem d2_96 : decode prog_32_method_2_code 96 = .ok (.aload_n 0, 1) := by decide +kernel
theorem d2_97 : decode prog_32_method_2_code 97 = .ok (.iconst 2, 1) := by decide +kernel
theorem d2_98 : decode prog_32_method_2_code 98 = .ok (.newarray .int, 2) := by decide +kernel
theorem d2_100 : decode prog_32_method_2_code 100 = .ok (.putfield 33, 3) := by decide +kernel
theorem d2_103 : decode prog_32_method_2_code 103 = .ok (.return_, 1) := by decide +kernel
def Q_rmC (Z : State) (aq : Addr) (la : Addr) (kl : ClassId) (y : List Int32) (h0 : Heap) (n0 : Nat) (v : Option Value) (h : Heap) (L : List Loc) : Prop := ∃ bl bw br r0 r1 bf bc : Addr, v = none ∧ Fr n0 L ∧ Keep h0 h [aq] ∧ h0.size ≤ bl ∧ (aq < bl ∧ bl < bw ∧ bw < br ∧ br < r0 ∧ r0 < r1 ∧ r1 < bf ∧ bf < bc) ∧ own_QI Z h aq bl bw br r0 r1 bf bc y (own_q0 y)
set_option maxRecDepth 65536 in
set_option maxHeartbeats 40000000 in
theorem rmC (l : Launch) (Z : State) (a0 : Array Value) (hw : ∀ d ∈ tables_1, d.before a0 Z = true) (ws : List Jvm.Cond) (aq : Addr) (la : Addr) (kl : ClassId) (y : List Int32) (h0 : Heap) (n0 : Nat) (Z0 : n0 ≤ h0.size) (E : Exa Z h0 aq "com/example/contrepoint/contrepoint/IndexQueue") (ga : n0 ≤ aq) (fd_late : Fld Z h0 aq "com/example/contrepoint/contrepoint/IndexQueue" "late" "[Z" .null) (fd_waiting : Fld Z h0 aq "com/example/contrepoint/contrepoint/IndexQueue" "waiting" "[Z" .null) (fd_rings : Fld Z h0 aq "com/example/contrepoint/contrepoint/IndexQueue" "rings" "[[I" .null) (fd_firsts : Fld Z h0 aq "com/example/contrepoint/contrepoint/IndexQueue" "firsts" "[I" .null) (fd_counts : Fld Z h0 aq "com/example/contrepoint/contrepoint/IndexQueue" "counts" "[I" .null) (Vla : Arv Z h0 la kl .boolean (3 : Int32) (y.map Value.int) (.int (0 : Int32))) (Ela : Exa Z h0 la "[Z") :
    MetFree l (⟨"com/example/contrepoint/contrepoint/IndexQueue", "<init>", "([Z)V"⟩ : MethodName) (head1 (Jvm.Cond.code (⟨"com/example/contrepoint/contrepoint/IndexQueue", "<init>", "([Z)V"⟩ : MethodName) prog_32_method_2_code 7 none :: ws) ({ frames := 1, cells := 7, slots := 18, locals := 15 } : Room)) (fun a U => a = #[(.ref aq), (.ref la)] ∧ Z.Warmed39 U.vm ∧ U.heap = h0) (fun _ _ _ _ _ => True) (fun _ U o U' => ∃ v L, o = .returned v ∧ Q_rmC Z aq la kl y h0 n0 v U'.heap L ∧ FrameEnd U o U' L ({ frames := 1, cells := 7, slots := 18, locals := 15 } : Room).cells ({ frames := 1, cells := 7, slots := 18, locals := 15 } : Room).slots) := by
  refine MetFree.of_bodySF (plainFor_of_name pn_com_example_contrepoint_contrepoint_IndexQueue) hisR ?_
  intro p e s m args below meth c s₁ Bd hml0 hP hK
  obtain ⟨rfl, hZ, hh⟩ := hP
  have hx := Bd.exec
  have hby := Bd.bytes
  have hml : c.maxLocals = 7 := hml0
  have hown : s.vm.findClass "com/example/contrepoint/contrepoint/IndexQueue" = some m.cls := findClass_of_methodNamed Bd.named
  have hnm := (name_of_methodNamed Bd.named Bd.method).1
  have X0 : Stand p l e ({ frames := 1, cells := 7, slots := 18, locals := 15 } : Room) s m #[(.ref aq), (.ref la)] below meth c s₁ [] 0 0 := Stand.of_body Bd
  have e0 : s₁.heap = h0 := by rw [← hh, Bd.state]; rfl
  have N0 := Fr.nil n0
  have pre0 : ∀ t, Steps p.tables e below (s₁.setTop (mkF m 0 #[.val (.ref aq), .val (.ref la), .unset, .unset, .unset, .unset, .unset] [])) t → Steps p.tables e below (s₁.setTop (entryFrame m #[(.ref aq), (.ref la)] 7)) t := fun t k => castTop (ef_2 m aq la) k
  obtain ⟨S0, hS0⟩ : ∃ S, S = s₁.setTop (entryFrame m #[(.ref aq), (.ref la)] 7) := ⟨_, rfl⟩
  rw [← hS0] at pre0 ⊢
  have ne_ql : aq ≠ la := Exa.neArv E Vla (hw _ (List.mem_of_getElem? (i := 8) rfl))
  obtain ⟨T1, X1, e1, st1⟩ := initO X0 hx hZ hown (hw _ (List.mem_of_getElem? (i := 13) rfl)) (hw _ (List.mem_of_getElem? (i := 14) rfl)) (hw _ (List.mem_of_getElem? (i := 15) rfl)) e0 (g := (mkF m 1 #[.val (.ref aq), .val (.ref la), .unset, .unset, .unset, .unset, .unset] [(.ref aq)])) rfl (by rw [hml]; rfl) rfl (hb hby d2_1) (by decide) (W := 0) (by show 2 * 0 + _ ≤ _; exact Nat.le_of_eq rfl) (by decide)
  obtain ⟨T2, h2, X2, e2, E2, A2, Ex2, st2⟩ := cloneH X1 hx hZ hown (hw _ (List.mem_of_getElem? (i := 16) rfl)) (hw _ (List.mem_of_getElem? (i := 17) rfl)) (hw _ (List.mem_of_getElem? (i := 21) rfl)) (hw _ (List.mem_of_getElem? (i := 19) rfl)) (hw _ (List.mem_of_getElem? (i := 20) rfl)) (hw _ (List.mem_of_getElem? (i := 22) rfl)) e1 Vla.arh Ela (g := (mkF m 6 #[.val (.ref aq), .val (.ref la), .unset, .unset, .unset, .unset, .unset] [(.ref la), (.ref aq)])) rfl (by rw [hml]; rfl) rfl (hb hby d2_6) (by decide) (W := 1) (cap := 3) (by show 2 * 0 + _ ≤ _; exact Nat.le_of_eq rfl) (by decide) (by decide) (by decide) (by decide)
  obtain ⟨b2, g2⟩ : ∃ z, z = h0.size := ⟨_, rfl⟩
  rw [← g2] at A2 Ex2 st2
  have A2 : Arv Z h2 b2 kl .boolean (3 : Int32) (y.map Value.int) (.int (0 : Int32)) := A2
  have gn_b2 : n0 ≤ b2 := Nat.le_trans (Nat.le_trans Z0 (Keep.refl h0 [aq]).1) (Nat.le_of_eq g2.symm)
  have sz_b2 : h0.size ≤ b2 := Nat.le_trans (Keep.refl h0 [aq]).1 (Nat.le_of_eq g2.symm)
  have K3 : Keep h0 h2 [aq] := (Keep.refl h0 [aq]).ext E2
  have lt_b2 : b2 < h2.size := A2.lt
  obtain ⟨T4, X4, e4, st4⟩ := castY X2 hx hZ hown (hw _ (List.mem_of_getElem? (i := 23) rfl)) e2 (Ins.self Ex2) (g := (mkF m 9 #[.val (.ref aq), .val (.ref la), .unset, .unset, .unset, .unset, .unset] [(.ref b2), (.ref aq)])) rfl rfl (hb hby d2_9)
  have f_5 := (fd_late.ext E2)
  have f_6 := (E.ext E2)
  obtain ⟨T7, h7, X7, e7, W7, st7⟩ := putF X4 hx hZ hown (host := "") (Or.inl (hw _ (List.mem_of_getElem? (i := 25) rfl))) Via.refl e4 f_5 f_6 (Or.inr ⟨(hw _ (List.mem_of_getElem? (i := 26) rfl)), rfl, hnm⟩) (hw _ (List.mem_of_getElem? (i := 8) rfl)) (ty := (.array .boolean)) (by decide) rfl rfl (g := (mkF m 12 #[.val (.ref aq), .val (.ref la), .unset, .unset, .unset, .unset, .unset] [(.ref b2), (.ref aq)])) rfl rfl (hb hby d2_12)
  have Fw7 := f_5.same W7
  have N7 := Fr.snoc X7 N0 ga
  have K8 : Keep h0 h7 [aq] := K3.wr W7 (Or.inl (List.mem_of_getElem? (i := 0) rfl))
  have f_9 := ((Vla.ext E2).other W7 (Ne.symm ne_ql))
  obtain ⟨cl10, Arcl10, -, Scl10, Ncl10, -, -⟩ := id f_9
  obtain ⟨T11, h11, k11, X11, e11, E11, A11, Ex11, st11⟩ := newPE X7 hx hZ (hw _ (List.mem_of_getElem? (i := 0) rfl)) e7 (g := (mkF m 18 #[.val (.ref aq), .val (.ref la), .unset, .unset, .unset, .unset, .unset] [(.int (3 : Int32)), (.ref aq)])) rfl (hb hby d2_18) rfl (by decide) (cap := 3) (by decide) (by decide) (by decide) (by decide) (ad := "[Z") rfl
  obtain ⟨b11, g11⟩ : ∃ z, z = h7.size := ⟨_, rfl⟩
  rw [← g11] at A11 Ex11 st11
  have gn_b11 : n0 ≤ b11 := Nat.le_trans (Nat.le_trans Z0 K8.1) (Nat.le_of_eq g11.symm)
  have sz_b11 : h0.size ≤ b11 := Nat.le_trans K8.1 (Nat.le_of_eq g11.symm)
  have K12 : Keep h0 h11 [aq] := K8.ext E11
  have lt_b11 : b11 < h11.size := A11.lt
  have V_b11 : Arv Z h11 b11 k11 .boolean (3 : Int32) [(.int (0 : Int32)), (.int (0 : Int32)), (.int (0 : Int32))] (.int (0 : Int32)) := (Arv.new A11 (by decide)).pad (pad_rep [] (.int (0 : Int32)) 3)
  have f_13 := (((fd_waiting.ext E2).other W7 (Or.inr (slot_ne (Or.inr (hw _ (List.mem_of_getElem? (i := 28) rfl))) (Or.inr (hw _ (List.mem_of_getElem? (i := 26) rfl))) (by decide) (t := (.array .boolean)) (t' := (.array .boolean)) (by decide) (by decide)))).ext E11)
  have f_14 := ((f_6.wr W7).ext E11)
  obtain ⟨T15, h15, X15, e15, W15, st15⟩ := putF X11 hx hZ hown (host := "") (Or.inl (hw _ (List.mem_of_getElem? (i := 27) rfl))) Via.refl e11 f_13 f_14 (Or.inr ⟨(hw _ (List.mem_of_getElem? (i := 28) rfl)), rfl, hnm⟩) (hw _ (List.mem_of_getElem? (i := 8) rfl)) (ty := (.array .boolean)) (by decide) rfl rfl (g := (mkF m 20 #[.val (.ref aq), .val (.ref la), .unset, .unset, .unset, .unset, .unset] [(.ref b11), (.ref aq)])) rfl rfl (hb hby d2_20)
  have Fw15 := f_13.same W15
  have N15 := Fr.snoc X15 N7 ga
  have K16 : Keep h0 h15 [aq] := K12.wr W15 (Or.inl (List.mem_of_getElem? (i := 0) rfl))
  have f_17 := ((f_9.ext E11).other W15 (Ne.symm ne_ql))
  obtain ⟨cl18, Arcl18, -, Scl18, Ncl18, -, -⟩ := id f_17
  obtain ⟨cl19, Arcl19, qcl19, Scl19, Ncl19, Hcl19, Gcl19⟩ := id f_17
  have hincl19 : ¬ ((0 : Int32) < 0 ∨ cl19.slots.size ≤ ((0 : Int32)).toNatClampNeg) := inb_of Scl19 ⟨by decide, by decide⟩
  have hatcl19 : cl19.slots[((0 : Int32)).toNatClampNeg]? = some (.int (y.getD 0 0)) := Hcl19.at hincl19 (own_gm y 0)
  have pre20 : ∀ t, Steps p.tables e below (T15.setTop (mkF m 48 #[.val (.ref aq), .val (.ref la), .val (.int (0 : Int32)), .val (.ref la), .val (.int (3 : Int32)), .val (.int (0 : Int32)), .val (.int (y.getD 0 0))] [(.int (0 : Int32))])) t → Steps p.tables e below S0 t := by
    intro t k
    refine pre0 t ?_
    show Steps p.tables e below (s₁.setTop (mkF m 0 #[.val (.ref aq), .val (.ref la), .unset, .unset, .unset, .unset, .unset] [])) _
    refine XS.aloadN X0.here hx rfl (hb hby d2_0) rfl rfl ?_
    show Steps p.tables e below (s₁.setTop (mkF m 1 #[.val (.ref aq), .val (.ref la), .unset, .unset, .unset, .unset, .unset] [(.ref aq)])) _
    refine st1 _ ?_
    show Steps p.tables e below (T1.setTop (mkF m 4 #[.val (.ref aq), .val (.ref la), .unset, .unset, .unset, .unset, .unset] [])) _
    refine XS.aloadN X1.here hx rfl (hb hby d2_4) rfl rfl ?_
    show Steps p.tables e below (T1.setTop (mkF m 5 #[.val (.ref aq), .val (.ref la), .unset, .unset, .unset, .unset, .unset] [(.ref aq)])) _
    refine XS.aloadN X1.here hx rfl (hb hby d2_5) rfl rfl ?_
    show Steps p.tables e below (T1.setTop (mkF m 6 #[.val (.ref aq), .val (.ref la), .unset, .unset, .unset, .unset, .unset] [(.ref la), (.ref aq)])) _
    refine st2 _ ?_
    show Steps p.tables e below (T2.setTop (mkF m 9 #[.val (.ref aq), .val (.ref la), .unset, .unset, .unset, .unset, .unset] [(.ref b2), (.ref aq)])) _
    refine st4 _ ?_
    show Steps p.tables e below (T4.setTop (mkF m 12 #[.val (.ref aq), .val (.ref la), .unset, .unset, .unset, .unset, .unset] [(.ref b2), (.ref aq)])) _
    refine st7 _ ?_
    show Steps p.tables e below (T7.setTop (mkF m 15 #[.val (.ref aq), .val (.ref la), .unset, .unset, .unset, .unset, .unset] [])) _
    refine XS.aloadN X7.here hx rfl (hb hby d2_15) rfl rfl ?_
    show Steps p.tables e below (T7.setTop (mkF m 16 #[.val (.ref aq), .val (.ref la), .unset, .unset, .unset, .unset, .unset] [(.ref aq)])) _
    refine XS.aloadN X7.here hx rfl (hb hby d2_16) rfl rfl ?_
    show Steps p.tables e below (T7.setTop (mkF m 17 #[.val (.ref aq), .val (.ref la), .unset, .unset, .unset, .unset, .unset] [(.ref la), (.ref aq)])) _
    refine X7.arraylength hx (by rw [e7]; exact Arcl10.1) (State.isArrayOf_alike hZ.alike Arcl10.2.1) (g := (mkF m 17 #[.val (.ref aq), .val (.ref la), .unset, .unset, .unset, .unset, .unset] [(.ref la), (.ref aq)])) rfl rfl (hb hby d2_17) _ ?_
    rw [len_of Scl10 Ncl10]
    show Steps p.tables e below (T7.setTop (mkF m 18 #[.val (.ref aq), .val (.ref la), .unset, .unset, .unset, .unset, .unset] [(.int (3 : Int32)), (.ref aq)])) _
    refine st11 _ ?_
    show Steps p.tables e below (T11.setTop (mkF m 20 #[.val (.ref aq), .val (.ref la), .unset, .unset, .unset, .unset, .unset] [(.ref b11), (.ref aq)])) _
    refine st15 _ ?_
    show Steps p.tables e below (T15.setTop (mkF m 23 #[.val (.ref aq), .val (.ref la), .unset, .unset, .unset, .unset, .unset] [])) _
    refine XS.iconst X15.here hx rfl (hb hby d2_23) ?_
    show Steps p.tables e below (T15.setTop (mkF m 24 #[.val (.ref aq), .val (.ref la), .unset, .unset, .unset, .unset, .unset] [(.int (0 : Int32))])) _
    refine XS.istoreN X15.here hx rfl (hb hby d2_24) rfl (l' := #[.val (.ref aq), .val (.ref la), .val (.int (0 : Int32)), .unset, .unset, .unset, .unset]) rfl ?_
    show Steps p.tables e below (T15.setTop (mkF m 25 #[.val (.ref aq), .val (.ref la), .val (.int (0 : Int32)), .unset, .unset, .unset, .unset] [])) _
    refine XS.aloadN X15.here hx rfl (hb hby d2_25) rfl rfl ?_
    show Steps p.tables e below (T15.setTop (mkF m 26 #[.val (.ref aq), .val (.ref la), .val (.int (0 : Int32)), .unset, .unset, .unset, .unset] [(.ref la)])) _
    refine XS.astoreN X15.here hx rfl (hb hby d2_26) rfl rfl (l' := #[.val (.ref aq), .val (.ref la), .val (.int (0 : Int32)), .val (.ref la), .unset, .unset, .unset]) rfl ?_
    show Steps p.tables e below (T15.setTop (mkF m 27 #[.val (.ref aq), .val (.ref la), .val (.int (0 : Int32)), .val (.ref la), .unset, .unset, .unset] [])) _
    refine XS.aloadN X15.here hx rfl (hb hby d2_27) rfl rfl ?_
    show Steps p.tables e below (T15.setTop (mkF m 28 #[.val (.ref aq), .val (.ref la), .val (.int (0 : Int32)), .val (.ref la), .unset, .unset, .unset] [(.ref la)])) _
    refine X15.arraylength hx (by rw [e15]; exact Arcl18.1) (State.isArrayOf_alike hZ.alike Arcl18.2.1) (g := (mkF m 28 #[.val (.ref aq), .val (.ref la), .val (.int (0 : Int32)), .val (.ref la), .unset, .unset, .unset] [(.ref la)])) rfl rfl (hb hby d2_28) _ ?_
    rw [len_of Scl18 Ncl18]
    show Steps p.tables e below (T15.setTop (mkF m 29 #[.val (.ref aq), .val (.ref la), .val (.int (0 : Int32)), .val (.ref la), .unset, .unset, .unset] [(.int (3 : Int32))])) _
    refine XS.istore X15.here hx rfl (hb hby d2_29) rfl (l' := #[.val (.ref aq), .val (.ref la), .val (.int (0 : Int32)), .val (.ref la), .val (.int (3 : Int32)), .unset, .unset]) rfl ?_
    show Steps p.tables e below (T15.setTop (mkF m 31 #[.val (.ref aq), .val (.ref la), .val (.int (0 : Int32)), .val (.ref la), .val (.int (3 : Int32)), .unset, .unset] [])) _
    refine XS.iconst X15.here hx rfl (hb hby d2_31) ?_
    show Steps p.tables e below (T15.setTop (mkF m 32 #[.val (.ref aq), .val (.ref la), .val (.int (0 : Int32)), .val (.ref la), .val (.int (3 : Int32)), .unset, .unset] [(.int (0 : Int32))])) _
    refine XS.istore X15.here hx rfl (hb hby d2_32) rfl (l' := #[.val (.ref aq), .val (.ref la), .val (.int (0 : Int32)), .val (.ref la), .val (.int (3 : Int32)), .val (.int (0 : Int32)), .unset]) rfl ?_
    show Steps p.tables e below (T15.setTop (mkF m 34 #[.val (.ref aq), .val (.ref la), .val (.int (0 : Int32)), .val (.ref la), .val (.int (3 : Int32)), .val (.int (0 : Int32)), .unset] [])) _
    refine XS.iload X15.here hx rfl (hb hby d2_34) rfl ?_
    show Steps p.tables e below (T15.setTop (mkF m 36 #[.val (.ref aq), .val (.ref la), .val (.int (0 : Int32)), .val (.ref la), .val (.int (3 : Int32)), .val (.int (0 : Int32)), .unset] [(.int (0 : Int32))])) _
    refine XS.iload X15.here hx rfl (hb hby d2_36) rfl ?_
    show Steps p.tables e below (T15.setTop (mkF m 38 #[.val (.ref aq), .val (.ref la), .val (.int (0 : Int32)), .val (.ref la), .val (.int (3 : Int32)), .val (.int (0 : Int32)), .unset] [(.int (3 : Int32)), (.int (0 : Int32))])) _
    refine XS.icmpNo X15.here hx rfl (hb hby d2_38) rfl (tlt (by decide)).2.1 ?_
    show Steps p.tables e below (T15.setTop (mkF m 41 #[.val (.ref aq), .val (.ref la), .val (.int (0 : Int32)), .val (.ref la), .val (.int (3 : Int32)), .val (.int (0 : Int32)), .unset] [])) _
    refine XS.aloadN X15.here hx rfl (hb hby d2_41) rfl rfl ?_
    show Steps p.tables e below (T15.setTop (mkF m 42 #[.val (.ref aq), .val (.ref la), .val (.int (0 : Int32)), .val (.ref la), .val (.int (3 : Int32)), .val (.int (0 : Int32)), .unset] [(.ref la)])) _
    refine XS.iload X15.here hx rfl (hb hby d2_42) rfl ?_
    show Steps p.tables e below (T15.setTop (mkF m 44 #[.val (.ref aq), .val (.ref la), .val (.int (0 : Int32)), .val (.ref la), .val (.int (3 : Int32)), .val (.int (0 : Int32)), .unset] [(.int (0 : Int32)), (.ref la)])) _
    refine X15.baloadBooleans hx (j := (0 : Int32)) (v := (.int (y.getD 0 0))) (by rw [e15]; exact Arcl19.1) (State.isArrayOf_alike hZ.alike Arcl19.2.1) Arcl19.2.2 hincl19 hatcl19 (g := (mkF m 44 #[.val (.ref aq), .val (.ref la), .val (.int (0 : Int32)), .val (.ref la), .val (.int (3 : Int32)), .val (.int (0 : Int32)), .unset] [(.int (0 : Int32)), (.ref la)])) rfl rfl (hb hby d2_44) _ ?_
    show Steps p.tables e below (T15.setTop (mkF m 45 #[.val (.ref aq), .val (.ref la), .val (.int (0 : Int32)), .val (.ref la), .val (.int (3 : Int32)), .val (.int (0 : Int32)), .unset] [(.int (y.getD 0 0))])) _
    refine XS.istore X15.here hx rfl (hb hby d2_45) rfl (l' := #[.val (.ref aq), .val (.ref la), .val (.int (0 : Int32)), .val (.ref la), .val (.int (3 : Int32)), .val (.int (0 : Int32)), .val (.int (y.getD 0 0))]) rfl ?_
    show Steps p.tables e below (T15.setTop (mkF m 47 #[.val (.ref aq), .val (.ref la), .val (.int (0 : Int32)), .val (.ref la), .val (.int (3 : Int32)), .val (.int (0 : Int32)), .val (.int (y.getD 0 0))] [])) _
    refine XS.iloadN X15.here hx rfl (hb hby d2_47) rfl ?_
    exact k
  have pre21 : ∀ t, Steps p.tables e below (T15.setTop (mkF m 50 #[.val (.ref aq), .val (.ref la), .val (.int (0 : Int32)), .val (.ref la), .val (.int (3 : Int32)), .val (.int (0 : Int32)), .val (.int (y.getD 0 0))] [(.int (y.getD 0 0)), (.int (0 : Int32))])) t → Steps p.tables e below S0 t := by
    intro t k
    refine pre20 t ?_
    show Steps p.tables e below (T15.setTop (mkF m 48 #[.val (.ref aq), .val (.ref la), .val (.int (0 : Int32)), .val (.ref la), .val (.int (3 : Int32)), .val (.int (0 : Int32)), .val (.int (y.getD 0 0))] [(.int (0 : Int32))])) _
    refine XS.iload X15.here hx rfl (hb hby d2_48) rfl ?_
    exact k
  obtain ⟨t0, ht0, pre_t0⟩ : ∃ t0 : Int32, (((y.getD 0 0) = (0 : Int32) ∧ t0 = (0 : Int32)) ∨ (¬ ((y.getD 0 0) = (0 : Int32)) ∧ t0 = (1 : Int32))) ∧ ∀ t, Steps p.tables e below (T15.setTop (mkF m 58 #[.val (.ref aq), .val (.ref la), .val (.int (0 : Int32)), .val (.ref la), .val (.int (3 : Int32)), .val (.int (0 : Int32)), .val (.int (y.getD 0 0))] [(.int t0), (.int (0 : Int32))])) t → Steps p.tables e below S0 t := by
    by_cases hc : (y.getD 0 0) = (0 : Int32)
    · refine ⟨(0 : Int32), Or.inl ⟨hc, rfl⟩, fun t k => pre21 t ?_⟩
      show Steps p.tables e below (T15.setTop (mkF m 50 #[.val (.ref aq), .val (.ref la), .val (.int (0 : Int32)), .val (.ref la), .val (.int (3 : Int32)), .val (.int (0 : Int32)), .val (.int (y.getD 0 0))] [(.int (y.getD 0 0)), (.int (0 : Int32))])) _
      refine XS.ifYes X15.here hx rfl (pc0 := 50) (pc' := 57) rfl (hb hby d2_50) rfl ((if0 _ _).trans (teq hc).1) (by decide) (by decide) ?_
      show Steps p.tables e below (T15.setTop (mkF m 57 #[.val (.ref aq), .val (.ref la), .val (.int (0 : Int32)), .val (.ref la), .val (.int (3 : Int32)), .val (.int (0 : Int32)), .val (.int (y.getD 0 0))] [(.int (0 : Int32))])) _
      refine XS.iconst X15.here hx rfl (hb hby d2_57) ?_
      exact k
    · refine ⟨(1 : Int32), Or.inr ⟨hc, rfl⟩, fun t k => pre21 t ?_⟩
      show Steps p.tables e below (T15.setTop (mkF m 50 #[.val (.ref aq), .val (.ref la), .val (.int (0 : Int32)), .val (.ref la), .val (.int (3 : Int32)), .val (.int (0 : Int32)), .val (.int (y.getD 0 0))] [(.int (y.getD 0 0)), (.int (0 : Int32))])) _
      refine XS.ifNo X15.here hx rfl (hb hby d2_50) rfl ((if0 _ _).trans (feq hc).1) ?_
      show Steps p.tables e below (T15.setTop (mkF m 53 #[.val (.ref aq), .val (.ref la), .val (.int (0 : Int32)), .val (.ref la), .val (.int (3 : Int32)), .val (.int (0 : Int32)), .val (.int (y.getD 0 0))] [(.int (0 : Int32))])) _
      refine XS.iconst X15.here hx rfl (hb hby d2_53) ?_
      show Steps p.tables e below (T15.setTop (mkF m 54 #[.val (.ref aq), .val (.ref la), .val (.int (0 : Int32)), .val (.ref la), .val (.int (3 : Int32)), .val (.int (0 : Int32)), .val (.int (y.getD 0 0))] [(.int (1 : Int32)), (.int (0 : Int32))])) _
      refine XS.goto X15.here hx rfl (pc0 := 54) (pc' := 58) rfl (hb hby d2_54) (by decide) (by decide) ?_
      exact k
  obtain ⟨cl22, Arcl22, qcl22, Scl22, Ncl22, Hcl22, Gcl22⟩ := id f_17
  have hincl22 : ¬ (((0 : Int32) + (1 : Int32)) < 0 ∨ cl22.slots.size ≤ (((0 : Int32) + (1 : Int32))).toNatClampNeg) := inb_of Scl22 ⟨by decide, by decide⟩
  have hatcl22 : cl22.slots[(((0 : Int32) + (1 : Int32))).toNatClampNeg]? = some (.int (y.getD 1 0)) := Hcl22.at hincl22 (own_gm y 1)
  have pre23 : ∀ t, Steps p.tables e below (T15.setTop (mkF m 50 #[.val (.ref aq), .val (.ref la), .val (.int ((0 : Int32) + t0)), .val (.ref la), .val (.int (3 : Int32)), .val (.int ((0 : Int32) + (1 : Int32))), .val (.int (y.getD 1 0))] [(.int (y.getD 1 0)), (.int ((0 : Int32) + t0))])) t → Steps p.tables e below S0 t := by
    intro t k
    refine pre_t0 t ?_
    show Steps p.tables e below (T15.setTop (mkF m 58 #[.val (.ref aq), .val (.ref la), .val (.int (0 : Int32)), .val (.ref la), .val (.int (3 : Int32)), .val (.int (0 : Int32)), .val (.int (y.getD 0 0))] [(.int t0), (.int (0 : Int32))])) _
    refine XS.iadd X15.here hx rfl (hb hby d2_58) rfl ?_
    show Steps p.tables e below (T15.setTop (mkF m 59 #[.val (.ref aq), .val (.ref la), .val (.int (0 : Int32)), .val (.ref la), .val (.int (3 : Int32)), .val (.int (0 : Int32)), .val (.int (y.getD 0 0))] [(.int ((0 : Int32) + t0))])) _
    refine XS.istoreN X15.here hx rfl (hb hby d2_59) rfl (l' := #[.val (.ref aq), .val (.ref la), .val (.int ((0 : Int32) + t0)), .val (.ref la), .val (.int (3 : Int32)), .val (.int (0 : Int32)), .val (.int (y.getD 0 0))]) rfl ?_
    show Steps p.tables e below (T15.setTop (mkF m 60 #[.val (.ref aq), .val (.ref la), .val (.int ((0 : Int32) + t0)), .val (.ref la), .val (.int (3 : Int32)), .val (.int (0 : Int32)), .val (.int (y.getD 0 0))] [])) _
    refine XS.iinc X15.here hx rfl (hb hby d2_60) rfl (l' := #[.val (.ref aq), .val (.ref la), .val (.int ((0 : Int32) + t0)), .val (.ref la), .val (.int (3 : Int32)), .val (.int ((0 : Int32) + (1 : Int32))), .val (.int (y.getD 0 0))]) rfl ?_
    show Steps p.tables e below (T15.setTop (mkF m 63 #[.val (.ref aq), .val (.ref la), .val (.int ((0 : Int32) + t0)), .val (.ref la), .val (.int (3 : Int32)), .val (.int ((0 : Int32) + (1 : Int32))), .val (.int (y.getD 0 0))] [])) _
    refine XS.goto X15.here hx rfl (pc0 := 63) (pc' := 34) rfl (hb hby d2_63) (by decide) (by decide) ?_
    show Steps p.tables e below (T15.setTop (mkF m 34 #[.val (.ref aq), .val (.ref la), .val (.int ((0 : Int32) + t0)), .val (.ref la), .val (.int (3 : Int32)), .val (.int ((0 : Int32) + (1 : Int32))), .val (.int (y.getD 0 0))] [])) _
    refine XS.iload X15.here hx rfl (hb hby d2_34) rfl ?_
    show Steps p.tables e below (T15.setTop (mkF m 36 #[.val (.ref aq), .val (.ref la), .val (.int ((0 : Int32) + t0)), .val (.ref la), .val (.int (3 : Int32)), .val (.int ((0 : Int32) + (1 : Int32))), .val (.int (y.getD 0 0))] [(.int ((0 : Int32) + (1 : Int32)))])) _
    refine XS.iload X15.here hx rfl (hb hby d2_36) rfl ?_
    show Steps p.tables e below (T15.setTop (mkF m 38 #[.val (.ref aq), .val (.ref la), .val (.int ((0 : Int32) + t0)), .val (.ref la), .val (.int (3 : Int32)), .val (.int ((0 : Int32) + (1 : Int32))), .val (.int (y.getD 0 0))] [(.int (3 : Int32)), (.int ((0 : Int32) + (1 : Int32)))])) _
    refine XS.icmpNo X15.here hx rfl (hb hby d2_38) rfl (tlt (by decide)).2.1 ?_
    show Steps p.tables e below (T15.setTop (mkF m 41 #[.val (.ref aq), .val (.ref la), .val (.int ((0 : Int32) + t0)), .val (.ref la), .val (.int (3 : Int32)), .val (.int ((0 : Int32) + (1 : Int32))), .val (.int (y.getD 0 0))] [])) _
    refine XS.aloadN X15.here hx rfl (hb hby d2_41) rfl rfl ?_
    show Steps p.tables e below (T15.setTop (mkF m 42 #[.val (.ref aq), .val (.ref la), .val (.int ((0 : Int32) + t0)), .val (.ref la), .val (.int (3 : Int32)), .val (.int ((0 : Int32) + (1 : Int32))), .val (.int (y.getD 0 0))] [(.ref la)])) _
    refine XS.iload X15.here hx rfl (hb hby d2_42) rfl ?_
    show Steps p.tables e below (T15.setTop (mkF m 44 #[.val (.ref aq), .val (.ref la), .val (.int ((0 : Int32) + t0)), .val (.ref la), .val (.int (3 : Int32)), .val (.int ((0 : Int32) + (1 : Int32))), .val (.int (y.getD 0 0))] [(.int ((0 : Int32) + (1 : Int32))), (.ref la)])) _
    refine X15.baloadBooleans hx (j := ((0 : Int32) + (1 : Int32))) (v := (.int (y.getD 1 0))) (by rw [e15]; exact Arcl22.1) (State.isArrayOf_alike hZ.alike Arcl22.2.1) Arcl22.2.2 hincl22 hatcl22 (g := (mkF m 44 #[.val (.ref aq), .val (.ref la), .val (.int ((0 : Int32) + t0)), .val (.ref la), .val (.int (3 : Int32)), .val (.int ((0 : Int32) + (1 : Int32))), .val (.int (y.getD 0 0))] [(.int ((0 : Int32) + (1 : Int32))), (.ref la)])) rfl rfl (hb hby d2_44) _ ?_
    show Steps p.tables e below (T15.setTop (mkF m 45 #[.val (.ref aq), .val (.ref la), .val (.int ((0 : Int32) + t0)), .val (.ref la), .val (.int (3 : Int32)), .val (.int ((0 : Int32) + (1 : Int32))), .val (.int (y.getD 0 0))] [(.int (y.getD 1 0))])) _
    refine XS.istore X15.here hx rfl (hb hby d2_45) rfl (l' := #[.val (.ref aq), .val (.ref la), .val (.int ((0 : Int32) + t0)), .val (.ref la), .val (.int (3 : Int32)), .val (.int ((0 : Int32) + (1 : Int32))), .val (.int (y.getD 1 0))]) rfl ?_
    show Steps p.tables e below (T15.setTop (mkF m 47 #[.val (.ref aq), .val (.ref la), .val (.int ((0 : Int32) + t0)), .val (.ref la), .val (.int (3 : Int32)), .val (.int ((0 : Int32) + (1 : Int32))), .val (.int (y.getD 1 0))] [])) _
    refine XS.iloadN X15.here hx rfl (hb hby d2_47) rfl ?_
    show Steps p.tables e below (T15.setTop (mkF m 48 #[.val (.ref aq), .val (.ref la), .val (.int ((0 : Int32) + t0)), .val (.ref la), .val (.int (3 : Int32)), .val (.int ((0 : Int32) + (1 : Int32))), .val (.int (y.getD 1 0))] [(.int ((0 : Int32) + t0))])) _
    refine XS.iload X15.here hx rfl (hb hby d2_48) rfl ?_
    exact k
  obtain ⟨t1, ht1, pre_t1⟩ : ∃ t1 : Int32, (((y.getD 1 0) = (0 : Int32) ∧ t1 = (0 : Int32)) ∨ (¬ ((y.getD 1 0) = (0 : Int32)) ∧ t1 = (1 : Int32))) ∧ ∀ t, Steps p.tables e below (T15.setTop (mkF m 58 #[.val (.ref aq), .val (.ref la), .val (.int ((0 : Int32) + t0)), .val (.ref la), .val (.int (3 : Int32)), .val (.int ((0 : Int32) + (1 : Int32))), .val (.int (y.getD 1 0))] [(.int t1), (.int ((0 : Int32) + t0))])) t → Steps p.tables e below S0 t := by
    by_cases hc : (y.getD 1 0) = (0 : Int32)
    · refine ⟨(0 : Int32), Or.inl ⟨hc, rfl⟩, fun t k => pre23 t ?_⟩
      show Steps p.tables e below (T15.setTop (mkF m 50 #[.val (.ref aq), .val (.ref la), .val (.int ((0 : Int32) + t0)), .val (.ref la), .val (.int (3 : Int32)), .val (.int ((0 : Int32) + (1 : Int32))), .val (.int (y.getD 1 0))] [(.int (y.getD 1 0)), (.int ((0 : Int32) + t0))])) _
      refine XS.ifYes X15.here hx rfl (pc0 := 50) (pc' := 57) rfl (hb hby d2_50) rfl ((if0 _ _).trans (teq hc).1) (by decide) (by decide) ?_
      show Steps p.tables e below (T15.setTop (mkF m 57 #[.val (.ref aq), .val (.ref la), .val (.int ((0 : Int32) + t0)), .val (.ref la), .val (.int (3 : Int32)), .val (.int ((0 : Int32) + (1 : Int32))), .val (.int (y.getD 1 0))] [(.int ((0 : Int32) + t0))])) _
      refine XS.iconst X15.here hx rfl (hb hby d2_57) ?_
      exact k
    · refine ⟨(1 : Int32), Or.inr ⟨hc, rfl⟩, fun t k => pre23 t ?_⟩
      show Steps p.tables e below (T15.setTop (mkF m 50 #[.val (.ref aq), .val (.ref la), .val (.int ((0 : Int32) + t0)), .val (.ref la), .val (.int (3 : Int32)), .val (.int ((0 : Int32) + (1 : Int32))), .val (.int (y.getD 1 0))] [(.int (y.getD 1 0)), (.int ((0 : Int32) + t0))])) _
      refine XS.ifNo X15.here hx rfl (hb hby d2_50) rfl ((if0 _ _).trans (feq hc).1) ?_
      show Steps p.tables e below (T15.setTop (mkF m 53 #[.val (.ref aq), .val (.ref la), .val (.int ((0 : Int32) + t0)), .val (.ref la), .val (.int (3 : Int32)), .val (.int ((0 : Int32) + (1 : Int32))), .val (.int (y.getD 1 0))] [(.int ((0 : Int32) + t0))])) _
      refine XS.iconst X15.here hx rfl (hb hby d2_53) ?_
      show Steps p.tables e below (T15.setTop (mkF m 54 #[.val (.ref aq), .val (.ref la), .val (.int ((0 : Int32) + t0)), .val (.ref la), .val (.int (3 : Int32)), .val (.int ((0 : Int32) + (1 : Int32))), .val (.int (y.getD 1 0))] [(.int (1 : Int32)), (.int ((0 : Int32) + t0))])) _
      refine XS.goto X15.here hx rfl (pc0 := 54) (pc' := 58) rfl (hb hby d2_54) (by decide) (by decide) ?_
      exact k
  obtain ⟨cl24, Arcl24, qcl24, Scl24, Ncl24, Hcl24, Gcl24⟩ := id f_17
  have hincl24 : ¬ ((((0 : Int32) + (1 : Int32)) + (1 : Int32)) < 0 ∨ cl24.slots.size ≤ ((((0 : Int32) + (1 : Int32)) + (1 : Int32))).toNatClampNeg) := inb_of Scl24 ⟨by decide, by decide⟩
  have hatcl24 : cl24.slots[((((0 : Int32) + (1 : Int32)) + (1 : Int32))).toNatClampNeg]? = some (.int (y.getD 2 0)) := Hcl24.at hincl24 (own_gm y 2)
  have pre25 : ∀ t, Steps p.tables e below (T15.setTop (mkF m 50 #[.val (.ref aq), .val (.ref la), .val (.int (((0 : Int32) + t0) + t1)), .val (.ref la), .val (.int (3 : Int32)), .val (.int (((0 : Int32) + (1 : Int32)) + (1 : Int32))), .val (.int (y.getD 2 0))] [(.int (y.getD 2 0)), (.int (((0 : Int32) + t0) + t1))])) t → Steps p.tables e below S0 t := by
    intro t k
    refine pre_t1 t ?_
    show Steps p.tables e below (T15.setTop (mkF m 58 #[.val (.ref aq), .val (.ref la), .val (.int ((0 : Int32) + t0)), .val (.ref la), .val (.int (3 : Int32)), .val (.int ((0 : Int32) + (1 : Int32))), .val (.int (y.getD 1 0))] [(.int t1), (.int ((0 : Int32) + t0))])) _
    refine XS.iadd X15.here hx rfl (hb hby d2_58) rfl ?_
    show Steps p.tables e below (T15.setTop (mkF m 59 #[.val (.ref aq), .val (.ref la), .val (.int ((0 : Int32) + t0)), .val (.ref la), .val (.int (3 : Int32)), .val (.int ((0 : Int32) + (1 : Int32))), .val (.int (y.getD 1 0))] [(.int (((0 : Int32) + t0) + t1))])) _
    refine XS.istoreN X15.here hx rfl (hb hby d2_59) rfl (l' := #[.val (.ref aq), .val (.ref la), .val (.int (((0 : Int32) + t0) + t1)), .val (.ref la), .val (.int (3 : Int32)), .val (.int ((0 : Int32) + (1 : Int32))), .val (.int (y.getD 1 0))]) rfl ?_
    show Steps p.tables e below (T15.setTop (mkF m 60 #[.val (.ref aq), .val (.ref la), .val (.int (((0 : Int32) + t0) + t1)), .val (.ref la), .val (.int (3 : Int32)), .val (.int ((0 : Int32) + (1 : Int32))), .val (.int (y.getD 1 0))] [])) _
    refine XS.iinc X15.here hx rfl (hb hby d2_60) rfl (l' := #[.val (.ref aq), .val (.ref la), .val (.int (((0 : Int32) + t0) + t1)), .val (.ref la), .val (.int (3 : Int32)), .val (.int (((0 : Int32) + (1 : Int32)) + (1 : Int32))), .val (.int (y.getD 1 0))]) rfl ?_
    show Steps p.tables e below (T15.setTop (mkF m 63 #[.val (.ref aq), .val (.ref la), .val (.int (((0 : Int32) + t0) + t1)), .val (.ref la), .val (.int (3 : Int32)), .val (.int (((0 : Int32) + (1 : Int32)) + (1 : Int32))), .val (.int (y.getD 1 0))] [])) _
    refine XS.goto X15.here hx rfl (pc0 := 63) (pc' := 34) rfl (hb hby d2_63) (by decide) (by decide) ?_
    show Steps p.tables e below (T15.setTop (mkF m 34 #[.val (.ref aq), .val (.ref la), .val (.int (((0 : Int32) + t0) + t1)), .val (.ref la), .val (.int (3 : Int32)), .val (.int (((0 : Int32) + (1 : Int32)) + (1 : Int32))), .val (.int (y.getD 1 0))] [])) _
    refine XS.iload X15.here hx rfl (hb hby d2_34) rfl ?_
    show Steps p.tables e below (T15.setTop (mkF m 36 #[.val (.ref aq), .val (.ref la), .val (.int (((0 : Int32) + t0) + t1)), .val (.ref la), .val (.int (3 : Int32)), .val (.int (((0 : Int32) + (1 : Int32)) + (1 : Int32))), .val (.int (y.getD 1 0))] [(.int (((0 : Int32) + (1 : Int32)) + (1 : Int32)))])) _
    refine XS.iload X15.here hx rfl (hb hby d2_36) rfl ?_
    show Steps p.tables e below (T15.setTop (mkF m 38 #[.val (.ref aq), .val (.ref la), .val (.int (((0 : Int32) + t0) + t1)), .val (.ref la), .val (.int (3 : Int32)), .val (.int (((0 : Int32) + (1 : Int32)) + (1 : Int32))), .val (.int (y.getD 1 0))] [(.int (3 : Int32)), (.int (((0 : Int32) + (1 : Int32)) + (1 : Int32)))])) _
    refine XS.icmpNo X15.here hx rfl (hb hby d2_38) rfl (tlt (by decide)).2.1 ?_
    show Steps p.tables e below (T15.setTop (mkF m 41 #[.val (.ref aq), .val (.ref la), .val (.int (((0 : Int32) + t0) + t1)), .val (.ref la), .val (.int (3 : Int32)), .val (.int (((0 : Int32) + (1 : Int32)) + (1 : Int32))), .val (.int (y.getD 1 0))] [])) _
    refine XS.aloadN X15.here hx rfl (hb hby d2_41) rfl rfl ?_
    show Steps p.tables e below (T15.setTop (mkF m 42 #[.val (.ref aq), .val (.ref la), .val (.int (((0 : Int32) + t0) + t1)), .val (.ref la), .val (.int (3 : Int32)), .val (.int (((0 : Int32) + (1 : Int32)) + (1 : Int32))), .val (.int (y.getD 1 0))] [(.ref la)])) _
    refine XS.iload X15.here hx rfl (hb hby d2_42) rfl ?_
    show Steps p.tables e below (T15.setTop (mkF m 44 #[.val (.ref aq), .val (.ref la), .val (.int (((0 : Int32) + t0) + t1)), .val (.ref la), .val (.int (3 : Int32)), .val (.int (((0 : Int32) + (1 : Int32)) + (1 : Int32))), .val (.int (y.getD 1 0))] [(.int (((0 : Int32) + (1 : Int32)) + (1 : Int32))), (.ref la)])) _
    refine X15.baloadBooleans hx (j := (((0 : Int32) + (1 : Int32)) + (1 : Int32))) (v := (.int (y.getD 2 0))) (by rw [e15]; exact Arcl24.1) (State.isArrayOf_alike hZ.alike Arcl24.2.1) Arcl24.2.2 hincl24 hatcl24 (g := (mkF m 44 #[.val (.ref aq), .val (.ref la), .val (.int (((0 : Int32) + t0) + t1)), .val (.ref la), .val (.int (3 : Int32)), .val (.int (((0 : Int32) + (1 : Int32)) + (1 : Int32))), .val (.int (y.getD 1 0))] [(.int (((0 : Int32) + (1 : Int32)) + (1 : Int32))), (.ref la)])) rfl rfl (hb hby d2_44) _ ?_
    show Steps p.tables e below (T15.setTop (mkF m 45 #[.val (.ref aq), .val (.ref la), .val (.int (((0 : Int32) + t0) + t1)), .val (.ref la), .val (.int (3 : Int32)), .val (.int (((0 : Int32) + (1 : Int32)) + (1 : Int32))), .val (.int (y.getD 1 0))] [(.int (y.getD 2 0))])) _
    refine XS.istore X15.here hx rfl (hb hby d2_45) rfl (l' := #[.val (.ref aq), .val (.ref la), .val (.int (((0 : Int32) + t0) + t1)), .val (.ref la), .val (.int (3 : Int32)), .val (.int (((0 : Int32) + (1 : Int32)) + (1 : Int32))), .val (.int (y.getD 2 0))]) rfl ?_
    show Steps p.tables e below (T15.setTop (mkF m 47 #[.val (.ref aq), .val (.ref la), .val (.int (((0 : Int32) + t0) + t1)), .val (.ref la), .val (.int (3 : Int32)), .val (.int (((0 : Int32) + (1 : Int32)) + (1 : Int32))), .val (.int (y.getD 2 0))] [])) _
    refine XS.iloadN X15.here hx rfl (hb hby d2_47) rfl ?_
    show Steps p.tables e below (T15.setTop (mkF m 48 #[.val (.ref aq), .val (.ref la), .val (.int (((0 : Int32) + t0) + t1)), .val (.ref la), .val (.int (3 : Int32)), .val (.int (((0 : Int32) + (1 : Int32)) + (1 : Int32))), .val (.int (y.getD 2 0))] [(.int (((0 : Int32) + t0) + t1))])) _
    refine XS.iload X15.here hx rfl (hb hby d2_48) rfl ?_
    exact k
  obtain ⟨t2, ht2, pre_t2⟩ : ∃ t2 : Int32, (((y.getD 2 0) = (0 : Int32) ∧ t2 = (0 : Int32)) ∨ (¬ ((y.getD 2 0) = (0 : Int32)) ∧ t2 = (1 : Int32))) ∧ ∀ t, Steps p.tables e below (T15.setTop (mkF m 58 #[.val (.ref aq), .val (.ref la), .val (.int (((0 : Int32) + t0) + t1)), .val (.ref la), .val (.int (3 : Int32)), .val (.int (((0 : Int32) + (1 : Int32)) + (1 : Int32))), .val (.int (y.getD 2 0))] [(.int t2), (.int (((0 : Int32) + t0) + t1))])) t → Steps p.tables e below S0 t := by
    by_cases hc : (y.getD 2 0) = (0 : Int32)
    · refine ⟨(0 : Int32), Or.inl ⟨hc, rfl⟩, fun t k => pre25 t ?_⟩
      show Steps p.tables e below (T15.setTop (mkF m 50 #[.val (.ref aq), .val (.ref la), .val (.int (((0 : Int32) + t0) + t1)), .val (.ref la), .val (.int (3 : Int32)), .val (.int (((0 : Int32) + (1 : Int32)) + (1 : Int32))), .val (.int (y.getD 2 0))] [(.int (y.getD 2 0)), (.int (((0 : Int32) + t0) + t1))])) _
      refine XS.ifYes X15.here hx rfl (pc0 := 50) (pc' := 57) rfl (hb hby d2_50) rfl ((if0 _ _).trans (teq hc).1) (by decide) (by decide) ?_
      show Steps p.tables e below (T15.setTop (mkF m 57 #[.val (.ref aq), .val (.ref la), .val (.int (((0 : Int32) + t0) + t1)), .val (.ref la), .val (.int (3 : Int32)), .val (.int (((0 : Int32) + (1 : Int32)) + (1 : Int32))), .val (.int (y.getD 2 0))] [(.int (((0 : Int32) + t0) + t1))])) _
      refine XS.iconst X15.here hx rfl (hb hby d2_57) ?_
      exact k
    · refine ⟨(1 : Int32), Or.inr ⟨hc, rfl⟩, fun t k => pre25 t ?_⟩
      show Steps p.tables e below (T15.setTop (mkF m 50 #[.val (.ref aq), .val (.ref la), .val (.int (((0 : Int32) + t0) + t1)), .val (.ref la), .val (.int (3 : Int32)), .val (.int (((0 : Int32) + (1 : Int32)) + (1 : Int32))), .val (.int (y.getD 2 0))] [(.int (y.getD 2 0)), (.int (((0 : Int32) + t0) + t1))])) _
      refine XS.ifNo X15.here hx rfl (hb hby d2_50) rfl ((if0 _ _).trans (feq hc).1) ?_
      show Steps p.tables e below (T15.setTop (mkF m 53 #[.val (.ref aq), .val (.ref la), .val (.int (((0 : Int32) + t0) + t1)), .val (.ref la), .val (.int (3 : Int32)), .val (.int (((0 : Int32) + (1 : Int32)) + (1 : Int32))), .val (.int (y.getD 2 0))] [(.int (((0 : Int32) + t0) + t1))])) _
      refine XS.iconst X15.here hx rfl (hb hby d2_53) ?_
      show Steps p.tables e below (T15.setTop (mkF m 54 #[.val (.ref aq), .val (.ref la), .val (.int (((0 : Int32) + t0) + t1)), .val (.ref la), .val (.int (3 : Int32)), .val (.int (((0 : Int32) + (1 : Int32)) + (1 : Int32))), .val (.int (y.getD 2 0))] [(.int (1 : Int32)), (.int (((0 : Int32) + t0) + t1))])) _
      refine XS.goto X15.here hx rfl (pc0 := 54) (pc' := 58) rfl (hb hby d2_54) (by decide) (by decide) ?_
      exact k
  have pre26 : ∀ t, Steps p.tables e below (T15.setTop (mkF m 66 #[.val (.ref aq), .val (.ref la), .val (.int ((((0 : Int32) + t0) + t1) + t2)), .val (.ref la), .val (.int (3 : Int32)), .val (.int ((((0 : Int32) + (1 : Int32)) + (1 : Int32)) + (1 : Int32))), .val (.int (y.getD 2 0))] [])) t → Steps p.tables e below S0 t := by
    intro t k
    refine pre_t2 t ?_
    show Steps p.tables e below (T15.setTop (mkF m 58 #[.val (.ref aq), .val (.ref la), .val (.int (((0 : Int32) + t0) + t1)), .val (.ref la), .val (.int (3 : Int32)), .val (.int (((0 : Int32) + (1 : Int32)) + (1 : Int32))), .val (.int (y.getD 2 0))] [(.int t2), (.int (((0 : Int32) + t0) + t1))])) _
    refine XS.iadd X15.here hx rfl (hb hby d2_58) rfl ?_
    show Steps p.tables e below (T15.setTop (mkF m 59 #[.val (.ref aq), .val (.ref la), .val (.int (((0 : Int32) + t0) + t1)), .val (.ref la), .val (.int (3 : Int32)), .val (.int (((0 : Int32) + (1 : Int32)) + (1 : Int32))), .val (.int (y.getD 2 0))] [(.int ((((0 : Int32) + t0) + t1) + t2))])) _
    refine XS.istoreN X15.here hx rfl (hb hby d2_59) rfl (l' := #[.val (.ref aq), .val (.ref la), .val (.int ((((0 : Int32) + t0) + t1) + t2)), .val (.ref la), .val (.int (3 : Int32)), .val (.int (((0 : Int32) + (1 : Int32)) + (1 : Int32))), .val (.int (y.getD 2 0))]) rfl ?_
    show Steps p.tables e below (T15.setTop (mkF m 60 #[.val (.ref aq), .val (.ref la), .val (.int ((((0 : Int32) + t0) + t1) + t2)), .val (.ref la), .val (.int (3 : Int32)), .val (.int (((0 : Int32) + (1 : Int32)) + (1 : Int32))), .val (.int (y.getD 2 0))] [])) _
    refine XS.iinc X15.here hx rfl (hb hby d2_60) rfl (l' := #[.val (.ref aq), .val (.ref la), .val (.int ((((0 : Int32) + t0) + t1) + t2)), .val (.ref la), .val (.int (3 : Int32)), .val (.int ((((0 : Int32) + (1 : Int32)) + (1 : Int32)) + (1 : Int32))), .val (.int (y.getD 2 0))]) rfl ?_
    show Steps p.tables e below (T15.setTop (mkF m 63 #[.val (.ref aq), .val (.ref la), .val (.int ((((0 : Int32) + t0) + t1) + t2)), .val (.ref la), .val (.int (3 : Int32)), .val (.int ((((0 : Int32) + (1 : Int32)) + (1 : Int32)) + (1 : Int32))), .val (.int (y.getD 2 0))] [])) _
    refine XS.goto X15.here hx rfl (pc0 := 63) (pc' := 34) rfl (hb hby d2_63) (by decide) (by decide) ?_
    show Steps p.tables e below (T15.setTop (mkF m 34 #[.val (.ref aq), .val (.ref la), .val (.int ((((0 : Int32) + t0) + t1) + t2)), .val (.ref la), .val (.int (3 : Int32)), .val (.int ((((0 : Int32) + (1 : Int32)) + (1 : Int32)) + (1 : Int32))), .val (.int (y.getD 2 0))] [])) _
    refine XS.iload X15.here hx rfl (hb hby d2_34) rfl ?_
    show Steps p.tables e below (T15.setTop (mkF m 36 #[.val (.ref aq), .val (.ref la), .val (.int ((((0 : Int32) + t0) + t1) + t2)), .val (.ref la), .val (.int (3 : Int32)), .val (.int ((((0 : Int32) + (1 : Int32)) + (1 : Int32)) + (1 : Int32))), .val (.int (y.getD 2 0))] [(.int ((((0 : Int32) + (1 : Int32)) + (1 : Int32)) + (1 : Int32)))])) _
    refine XS.iload X15.here hx rfl (hb hby d2_36) rfl ?_
    show Steps p.tables e below (T15.setTop (mkF m 38 #[.val (.ref aq), .val (.ref la), .val (.int ((((0 : Int32) + t0) + t1) + t2)), .val (.ref la), .val (.int (3 : Int32)), .val (.int ((((0 : Int32) + (1 : Int32)) + (1 : Int32)) + (1 : Int32))), .val (.int (y.getD 2 0))] [(.int (3 : Int32)), (.int ((((0 : Int32) + (1 : Int32)) + (1 : Int32)) + (1 : Int32)))])) _
    refine XS.icmpYes X15.here hx rfl (pc0 := 38) (pc' := 66) rfl (hb hby d2_38) rfl (flt (by decide)).2.1 (by decide) (by decide) ?_
    exact k
  have hcn : ((((0 : Int32) + t0) + t1) + t2) = own_cn y := own_cn_eq ht0 ht1 ht2
  rw [hcn] at pre26
  obtain ⟨cb0, cb1, cb2, cb3⟩ := own_cn_b y
  obtain ⟨T27, h27, k27, X27, e27, E27, A27, Ex27, O27, st27⟩ := newRA X15 hx hZ hown (ty := Jvm.ClassFile.FieldType.int) rfl (hw _ (List.mem_of_getElem? (i := 29) rfl)) (hw _ (List.mem_of_getElem? (i := 30) rfl)) e15 (g := (mkF m 68 #[.val (.ref aq), .val (.ref la), .val (.int (own_cn y)), .val (.ref la), .val (.int (3 : Int32)), .val (.int ((((0 : Int32) + (1 : Int32)) + (1 : Int32)) + (1 : Int32))), .val (.int (y.getD 2 0))] [(.int (2 : Int32)), (.ref aq)])) rfl (hb hby d2_68) rfl (by decide) (cap := 2) (by decide) (by decide) (by decide) (by decide) (ad := "[[I") rfl
  obtain ⟨b27, g27⟩ : ∃ z, z = h15.size := ⟨_, rfl⟩
  rw [← g27] at A27 Ex27 st27
  have gn_b27 : n0 ≤ b27 := Nat.le_trans (Nat.le_trans Z0 K16.1) (Nat.le_of_eq g27.symm)
  have sz_b27 : h0.size ≤ b27 := Nat.le_trans K16.1 (Nat.le_of_eq g27.symm)
  have K28 : Keep h0 h27 [aq] := K16.ext E27
  have lt_b27 : b27 < h27.size := A27.lt
  have V_b27 : Arv Z h27 b27 k27 (.array Jvm.ClassFile.FieldType.int) (2 : Int32) [.null, .null] .null := (Arv.new A27 (by decide)).pad (pad_rep [] .null 2)
  have f_29 := (f_17.ext E27)
  obtain ⟨cl30, Arcl30, -, Scl30, Ncl30, -, -⟩ := id f_29
  obtain ⟨T31, h31, k31, X31, e31, E31, A31, Ex31, st31⟩ := newPE X27 hx hZ (hw _ (List.mem_of_getElem? (i := 6) rfl)) e27 (g := (mkF m 77 #[.val (.ref aq), .val (.ref la), .val (.int (own_cn y)), .val (.ref la), .val (.int (3 : Int32)), .val (.int ((((0 : Int32) + (1 : Int32)) + (1 : Int32)) + (1 : Int32))), .val (.int (y.getD 2 0))] [(.int ((3 : Int32) - (own_cn y))), (.int (0 : Int32)), (.ref b27), (.ref b27), (.ref aq)])) rfl (hb hby d2_77) rfl cb0 (cap := 3) cb1 (by decide) (by decide) (by decide) (ad := "[I") rfl
  obtain ⟨b31, g31⟩ : ∃ z, z = h27.size := ⟨_, rfl⟩
  rw [← g31] at A31 Ex31 st31
  have gn_b31 : n0 ≤ b31 := Nat.le_trans (Nat.le_trans Z0 K28.1) (Nat.le_of_eq g31.symm)
  have sz_b31 : h0.size ≤ b31 := Nat.le_trans K28.1 (Nat.le_of_eq g31.symm)
  have K32 : Keep h0 h31 [aq] := K28.ext E31
  have lt_b31 : b31 < h31.size := A31.lt
  have V_b31 : Arv Z h31 b31 k31 .int ((3 : Int32) - (own_cn y)) [] (.int (0 : Int32)) := Arv.new A31 cb0
  have f_33 := (V_b27.ext E31)
  obtain ⟨cl34, Arcl34, qcl34, Scl34, Ncl34, Hcl34, Gcl34⟩ := id f_33
  have hincl34 : ¬ ((0 : Int32) < 0 ∨ cl34.slots.size ≤ ((0 : Int32)).toNatClampNeg) := inb_of Scl34 ⟨by decide, by decide⟩
  obtain ⟨T35, h35, X35, e35, W35, st35⟩ := stR X31 hx hZ e31 Arcl34 (j := (0 : Int32)) hincl34 rfl (Sto.ofVA Arcl34 qcl34 O27 (Ins.self Ex31)) (g := (mkF m 79 #[.val (.ref aq), .val (.ref la), .val (.int (own_cn y)), .val (.ref la), .val (.int (3 : Int32)), .val (.int ((((0 : Int32) + (1 : Int32)) + (1 : Int32)) + (1 : Int32))), .val (.int (y.getD 2 0))] [(.ref b31), (.int (0 : Int32)), (.ref b27), (.ref b27), (.ref aq)])) rfl rfl (hb hby d2_79)
  have Vn35 : Arv Z h35 b27 k27 (.array Jvm.ClassFile.FieldType.int) (2 : Int32) [(.ref b31), .null] .null := Arv.set Arcl34 qcl34 Scl34 Ncl34 Hcl34 Gcl34 rfl W35 0 rfl (Nat.le_of_ble_eq_true rfl)
  have N35 := Fr.snoc X35 N15 gn_b27
  have K36 : Keep h0 h35 [aq] := K32.wr W35 (Or.inr sz_b27)
  obtain ⟨T37, h37, k37, X37, e37, E37, A37, Ex37, st37⟩ := newPE X35 hx hZ (hw _ (List.mem_of_getElem? (i := 6) rfl)) e35 (g := (mkF m 83 #[.val (.ref aq), .val (.ref la), .val (.int (own_cn y)), .val (.ref la), .val (.int (3 : Int32)), .val (.int ((((0 : Int32) + (1 : Int32)) + (1 : Int32)) + (1 : Int32))), .val (.int (y.getD 2 0))] [(.int (own_cn y)), (.int (1 : Int32)), (.ref b27), (.ref b27), (.ref aq)])) rfl (hb hby d2_83) rfl cb2 (cap := 3) cb3 (by decide) (by decide) (by decide) (ad := "[I") rfl
  obtain ⟨b37, g37⟩ : ∃ z, z = h35.size := ⟨_, rfl⟩
  rw [← g37] at A37 Ex37 st37
  have gn_b37 : n0 ≤ b37 := Nat.le_trans (Nat.le_trans Z0 K36.1) (Nat.le_of_eq g37.symm)
  have sz_b37 : h0.size ≤ b37 := Nat.le_trans K36.1 (Nat.le_of_eq g37.symm)
  have K38 : Keep h0 h37 [aq] := K36.ext E37
  have lt_b37 : b37 < h37.size := A37.lt
  have V_b37 : Arv Z h37 b37 k37 .int (own_cn y) [] (.int (0 : Int32)) := Arv.new A37 cb2
  have f_39 := (Vn35.ext E37)
  obtain ⟨cl40, Arcl40, qcl40, Scl40, Ncl40, Hcl40, Gcl40⟩ := id f_39
  have hincl40 : ¬ ((1 : Int32) < 0 ∨ cl40.slots.size ≤ ((1 : Int32)).toNatClampNeg) := inb_of Scl40 ⟨by decide, by decide⟩
  obtain ⟨T41, h41, X41, e41, W41, st41⟩ := stR X37 hx hZ e37 Arcl40 (j := (1 : Int32)) hincl40 rfl (Sto.ofVA Arcl40 qcl40 O27 (Ins.self Ex37)) (g := (mkF m 85 #[.val (.ref aq), .val (.ref la), .val (.int (own_cn y)), .val (.ref la), .val (.int (3 : Int32)), .val (.int ((((0 : Int32) + (1 : Int32)) + (1 : Int32)) + (1 : Int32))), .val (.int (y.getD 2 0))] [(.ref b37), (.int (1 : Int32)), (.ref b27), (.ref b27), (.ref aq)])) rfl rfl (hb hby d2_85)
  have Vn41 : Arv Z h41 b27 k27 (.array Jvm.ClassFile.FieldType.int) (2 : Int32) [(.ref b31), (.ref b37)] .null := Arv.set Arcl40 qcl40 Scl40 Ncl40 Hcl40 Gcl40 rfl W41 1 rfl (Nat.le_of_ble_eq_true rfl)
  have N41 := Fr.snoc X41 N35 gn_b27
  have K42 : Keep h0 h41 [aq] := K38.wr W41 (Or.inr sz_b27)
  have f_43 := (((((((((fd_rings.ext E2).other W7 (Or.inr (slot_ne (Or.inr (hw _ (List.mem_of_getElem? (i := 33) rfl))) (Or.inr (hw _ (List.mem_of_getElem? (i := 26) rfl))) (by decide) (t := (.array (.array .int))) (t' := (.array .boolean)) (by decide) (by decide)))).ext E11).other W15 (Or.inr (slot_ne (Or.inr (hw _ (List.mem_of_getElem? (i := 33) rfl))) (Or.inr (hw _ (List.mem_of_getElem? (i := 28) rfl))) (by decide) (t := (.array (.array .int))) (t' := (.array .boolean)) (by decide) (by decide)))).ext E27).ext E31).other W35 (Or.inl (Nat.ne_of_lt (Nat.lt_of_lt_of_le (Nat.lt_of_lt_of_le (Nat.lt_of_lt_of_le (Nat.lt_of_lt_of_le (Nat.lt_of_lt_of_le E.lt E2.1) (Keep.of_wr W7).1) E11.1) (Keep.of_wr W15).1) (Nat.le_of_eq g27.symm))))).ext E37).other W41 (Or.inl (Nat.ne_of_lt (Nat.lt_of_lt_of_le (Nat.lt_of_lt_of_le (Nat.lt_of_lt_of_le (Nat.lt_of_lt_of_le (Nat.lt_of_lt_of_le E.lt E2.1) (Keep.of_wr W7).1) E11.1) (Keep.of_wr W15).1) (Nat.le_of_eq g27.symm)))))
  have f_44 := ((((((f_14.wr W15).ext E27).ext E31).wr W35).ext E37).wr W41)
  obtain ⟨T45, h45, X45, e45, W45, st45⟩ := putF X41 hx hZ hown (host := "") (Or.inl (hw _ (List.mem_of_getElem? (i := 32) rfl))) Via.refl e41 f_43 f_44 (Or.inr ⟨(hw _ (List.mem_of_getElem? (i := 33) rfl)), rfl, hnm⟩) (hw _ (List.mem_of_getElem? (i := 8) rfl)) (ty := (.array (.array .int))) (by decide) rfl rfl (g := (mkF m 86 #[.val (.ref aq), .val (.ref la), .val (.int (own_cn y)), .val (.ref la), .val (.int (3 : Int32)), .val (.int ((((0 : Int32) + (1 : Int32)) + (1 : Int32)) + (1 : Int32))), .val (.int (y.getD 2 0))] [(.ref b27), (.ref aq)])) rfl rfl (hb hby d2_86)
  have Fw45 := f_43.same W45
  have N45 := Fr.snoc X45 N41 ga
  have K46 : Keep h0 h45 [aq] := K42.wr W45 (Or.inl (List.mem_of_getElem? (i := 0) rfl))
  obtain ⟨T47, h47, k47, X47, e47, E47, A47, Ex47, st47⟩ := newPE X45 hx hZ (hw _ (List.mem_of_getElem? (i := 6) rfl)) e45 (g := (mkF m 91 #[.val (.ref aq), .val (.ref la), .val (.int (own_cn y)), .val (.ref la), .val (.int (3 : Int32)), .val (.int ((((0 : Int32) + (1 : Int32)) + (1 : Int32)) + (1 : Int32))), .val (.int (y.getD 2 0))] [(.int (2 : Int32)), (.ref aq)])) rfl (hb hby d2_91) rfl (by decide) (cap := 2) (by decide) (by decide) (by decide) (by decide) (ad := "[I") rfl
  obtain ⟨b47, g47⟩ : ∃ z, z = h45.size := ⟨_, rfl⟩
  rw [← g47] at A47 Ex47 st47
  have gn_b47 : n0 ≤ b47 := Nat.le_trans (Nat.le_trans Z0 K46.1) (Nat.le_of_eq g47.symm)
  have sz_b47 : h0.size ≤ b47 := Nat.le_trans K46.1 (Nat.le_of_eq g47.symm)
  have K48 : Keep h0 h47 [aq] := K46.ext E47
  have lt_b47 : b47 < h47.size := A47.lt
  have V_b47 : Arv Z h47 b47 k47 .int (2 : Int32) [(.int (0 : Int32)), (.int (0 : Int32))] (.int (0 : Int32)) := (Arv.new A47 (by decide)).pad (pad_rep [] (.int (0 : Int32)) 2)
  have f_49 := (((((((((((fd_firsts.ext E2).other W7 (Or.inr (slot_ne (Or.inr (hw _ (List.mem_of_getElem? (i := 35) rfl))) (Or.inr (hw _ (List.mem_of_getElem? (i := 26) rfl))) (by decide) (t := (.array .int)) (t' := (.array .boolean)) (by decide) (by decide)))).ext E11).other W15 (Or.inr (slot_ne (Or.inr (hw _ (List.mem_of_getElem? (i := 35) rfl))) (Or.inr (hw _ (List.mem_of_getElem? (i := 28) rfl))) (by decide) (t := (.array .int)) (t' := (.array .boolean)) (by decide) (by decide)))).ext E27).ext E31).other W35 (Or.inl (Nat.ne_of_lt (Nat.lt_of_lt_of_le (Nat.lt_of_lt_of_le (Nat.lt_of_lt_of_le (Nat.lt_of_lt_of_le (Nat.lt_of_lt_of_le E.lt E2.1) (Keep.of_wr W7).1) E11.1) (Keep.of_wr W15).1) (Nat.le_of_eq g27.symm))))).ext E37).other W41 (Or.inl (Nat.ne_of_lt (Nat.lt_of_lt_of_le (Nat.lt_of_lt_of_le (Nat.lt_of_lt_of_le (Nat.lt_of_lt_of_le (Nat.lt_of_lt_of_le E.lt E2.1) (Keep.of_wr W7).1) E11.1) (Keep.of_wr W15).1) (Nat.le_of_eq g27.symm))))).other W45 (Or.inr (slot_ne (Or.inr (hw _ (List.mem_of_getElem? (i := 35) rfl))) (Or.inr (hw _ (List.mem_of_getElem? (i := 33) rfl))) (by decide) (t := (.array .int)) (t' := (.array (.array .int))) (by decide) (by decide)))).ext E47)
  have f_50 := ((f_44.wr W45).ext E47)
  obtain ⟨T51, h51, X51, e51, W51, st51⟩ := putF X47 hx hZ hown (host := "") (Or.inl (hw _ (List.mem_of_getElem? (i := 34) rfl))) Via.refl e47 f_49 f_50 (Or.inr ⟨(hw _ (List.mem_of_getElem? (i := 35) rfl)), rfl, hnm⟩) (hw _ (List.mem_of_getElem? (i := 8) rfl)) (ty := (.array .int)) (by decide) rfl rfl (g := (mkF m 93 #[.val (.ref aq), .val (.ref la), .val (.int (own_cn y)), .val (.ref la), .val (.int (3 : Int32)), .val (.int ((((0 : Int32) + (1 : Int32)) + (1 : Int32)) + (1 : Int32))), .val (.int (y.getD 2 0))] [(.ref b47), (.ref aq)])) rfl rfl (hb hby d2_93)
  have Fw51 := f_49.same W51
  have N51 := Fr.snoc X51 N45 ga
  have K52 : Keep h0 h51 [aq] := K48.wr W51 (Or.inl (List.mem_of_getElem? (i := 0) rfl))
  obtain ⟨T53, h53, k53, X53, e53, E53, A53, Ex53, st53⟩ := newPE X51 hx hZ (hw _ (List.mem_of_getElem? (i := 6) rfl)) e51 (g := (mkF m 98 #[.val (.ref aq), .val (.ref la), .val (.int (own_cn y)), .val (.ref la), .val (.int (3 : Int32)), .val (.int ((((0 : Int32) + (1 : Int32)) + (1 : Int32)) + (1 : Int32))), .val (.int (y.getD 2 0))] [(.int (2 : Int32)), (.ref aq)])) rfl (hb hby d2_98) rfl (by decide) (cap := 2) (by decide) (by decide) (by decide) (by decide) (ad := "[I") rfl
  obtain ⟨b53, g53⟩ : ∃ z, z = h51.size := ⟨_, rfl⟩
  rw [← g53] at A53 Ex53 st53
  have gn_b53 : n0 ≤ b53 := Nat.le_trans (Nat.le_trans Z0 K52.1) (Nat.le_of_eq g53.symm)
  have sz_b53 : h0.size ≤ b53 := Nat.le_trans K52.1 (Nat.le_of_eq g53.symm)
  have K54 : Keep h0 h53 [aq] := K52.ext E53
  have lt_b53 : b53 < h53.size := A53.lt
  have V_b53 : Arv Z h53 b53 k53 .int (2 : Int32) [(.int (0 : Int32)), (.int (0 : Int32))] (.int (0 : Int32)) := (Arv.new A53 (by decide)).pad (pad_rep [] (.int (0 : Int32)) 2)
  have f_55 := (((((((((((((fd_counts.ext E2).other W7 (Or.inr (slot_ne (Or.inr (hw _ (List.mem_of_getElem? (i := 37) rfl))) (Or.inr (hw _ (List.mem_of_getElem? (i := 26) rfl))) (by decide) (t := (.array .int)) (t' := (.array .boolean)) (by decide) (by decide)))).ext E11).other W15 (Or.inr (slot_ne (Or.inr (hw _ (List.mem_of_getElem? (i := 37) rfl))) (Or.inr (hw _ (List.mem_of_getElem? (i := 28) rfl))) (by decide) (t := (.array .int)) (t' := (.array .boolean)) (by decide) (by decide)))).ext E27).ext E31).other W35 (Or.inl (Nat.ne_of_lt (Nat.lt_of_lt_of_le (Nat.lt_of_lt_of_le (Nat.lt_of_lt_of_le (Nat.lt_of_lt_of_le (Nat.lt_of_lt_of_le E.lt E2.1) (Keep.of_wr W7).1) E11.1) (Keep.of_wr W15).1) (Nat.le_of_eq g27.symm))))).ext E37).other W41 (Or.inl (Nat.ne_of_lt (Nat.lt_of_lt_of_le (Nat.lt_of_lt_of_le (Nat.lt_of_lt_of_le (Nat.lt_of_lt_of_le (Nat.lt_of_lt_of_le E.lt E2.1) (Keep.of_wr W7).1) E11.1) (Keep.of_wr W15).1) (Nat.le_of_eq g27.symm))))).other W45 (Or.inr (slot_ne (Or.inr (hw _ (List.mem_of_getElem? (i := 37) rfl))) (Or.inr (hw _ (List.mem_of_getElem? (i := 33) rfl))) (by decide) (t := (.array .int)) (t' := (.array (.array .int))) (by decide) (by decide)))).ext E47).other W51 (Or.inr (slot_ne (Or.inr (hw _ (List.mem_of_getElem? (i := 37) rfl))) (Or.inr (hw _ (List.mem_of_getElem? (i := 35) rfl))) (by decide) (t := (.array .int)) (t' := (.array .int)) (by decide) (by decide)))).ext E53)
  have f_56 := ((f_50.wr W51).ext E53)
  obtain ⟨T57, h57, X57, e57, W57, st57⟩ := putF X53 hx hZ hown (host := "") (Or.inl (hw _ (List.mem_of_getElem? (i := 36) rfl))) Via.refl e53 f_55 f_56 (Or.inr ⟨(hw _ (List.mem_of_getElem? (i := 37) rfl)), rfl, hnm⟩) (hw _ (List.mem_of_getElem? (i := 8) rfl)) (ty := (.array .int)) (by decide) rfl rfl (g := (mkF m 100 #[.val (.ref aq), .val (.ref la), .val (.int (own_cn y)), .val (.ref la), .val (.int (3 : Int32)), .val (.int ((((0 : Int32) + (1 : Int32)) + (1 : Int32)) + (1 : Int32))), .val (.int (y.getD 2 0))] [(.ref b53), (.ref aq)])) rfl rfl (hb hby d2_100)
  have Fw57 := f_55.same W57
  have N57 := Fr.snoc X57 N51 ga
  have K58 : Keep h0 h57 [aq] := K54.wr W57 (Or.inl (List.mem_of_getElem? (i := 0) rfl))
  have f_59 := (((((((((((((A2.other W7 (Ne.symm (Nat.ne_of_lt (Nat.lt_of_lt_of_le E.lt (Nat.le_of_eq g2.symm))))).ext E11).other W15 (Ne.symm (Nat.ne_of_lt (Nat.lt_of_lt_of_le E.lt (Nat.le_of_eq g2.symm))))).ext E27).ext E31).other W35 (Nat.ne_of_lt (Nat.lt_of_lt_of_le (Nat.lt_of_lt_of_le (Nat.lt_of_lt_of_le (Nat.lt_of_lt_of_le lt_b2 (Keep.of_wr W7).1) E11.1) (Keep.of_wr W15).1) (Nat.le_of_eq g27.symm)))).ext E37).other W41 (Nat.ne_of_lt (Nat.lt_of_lt_of_le (Nat.lt_of_lt_of_le (Nat.lt_of_lt_of_le (Nat.lt_of_lt_of_le lt_b2 (Keep.of_wr W7).1) E11.1) (Keep.of_wr W15).1) (Nat.le_of_eq g27.symm)))).other W45 (Ne.symm (Nat.ne_of_lt (Nat.lt_of_lt_of_le E.lt (Nat.le_of_eq g2.symm))))).ext E47).other W51 (Ne.symm (Nat.ne_of_lt (Nat.lt_of_lt_of_le E.lt (Nat.le_of_eq g2.symm))))).ext E53).other W57 (Ne.symm (Nat.ne_of_lt (Nat.lt_of_lt_of_le E.lt (Nat.le_of_eq g2.symm)))))
  have f_60 := (((((((((((V_b11.other W15 (Ne.symm (Nat.ne_of_lt (Nat.lt_of_lt_of_le (Nat.lt_of_lt_of_le (Nat.lt_of_lt_of_le E.lt E2.1) (Keep.of_wr W7).1) (Nat.le_of_eq g11.symm))))).ext E27).ext E31).other W35 (Nat.ne_of_lt (Nat.lt_of_lt_of_le (Nat.lt_of_lt_of_le lt_b11 (Keep.of_wr W15).1) (Nat.le_of_eq g27.symm)))).ext E37).other W41 (Nat.ne_of_lt (Nat.lt_of_lt_of_le (Nat.lt_of_lt_of_le lt_b11 (Keep.of_wr W15).1) (Nat.le_of_eq g27.symm)))).other W45 (Ne.symm (Nat.ne_of_lt (Nat.lt_of_lt_of_le (Nat.lt_of_lt_of_le (Nat.lt_of_lt_of_le E.lt E2.1) (Keep.of_wr W7).1) (Nat.le_of_eq g11.symm))))).ext E47).other W51 (Ne.symm (Nat.ne_of_lt (Nat.lt_of_lt_of_le (Nat.lt_of_lt_of_le (Nat.lt_of_lt_of_le E.lt E2.1) (Keep.of_wr W7).1) (Nat.le_of_eq g11.symm))))).ext E53).other W57 (Ne.symm (Nat.ne_of_lt (Nat.lt_of_lt_of_le (Nat.lt_of_lt_of_le (Nat.lt_of_lt_of_le E.lt E2.1) (Keep.of_wr W7).1) (Nat.le_of_eq g11.symm)))))
  have f_61 := (((((Vn41.other W45 (Ne.symm (Nat.ne_of_lt (Nat.lt_of_lt_of_le (Nat.lt_of_lt_of_le (Nat.lt_of_lt_of_le (Nat.lt_of_lt_of_le (Nat.lt_of_lt_of_le E.lt E2.1) (Keep.of_wr W7).1) E11.1) (Keep.of_wr W15).1) (Nat.le_of_eq g27.symm))))).ext E47).other W51 (Ne.symm (Nat.ne_of_lt (Nat.lt_of_lt_of_le (Nat.lt_of_lt_of_le (Nat.lt_of_lt_of_le (Nat.lt_of_lt_of_le (Nat.lt_of_lt_of_le E.lt E2.1) (Keep.of_wr W7).1) E11.1) (Keep.of_wr W15).1) (Nat.le_of_eq g27.symm))))).ext E53).other W57 (Ne.symm (Nat.ne_of_lt (Nat.lt_of_lt_of_le (Nat.lt_of_lt_of_le (Nat.lt_of_lt_of_le (Nat.lt_of_lt_of_le (Nat.lt_of_lt_of_le E.lt E2.1) (Keep.of_wr W7).1) E11.1) (Keep.of_wr W15).1) (Nat.le_of_eq g27.symm)))))
  have f_62 := ((((((((V_b31.other W35 (Ne.symm (Nat.ne_of_lt (Nat.lt_of_lt_of_le lt_b27 (Nat.le_of_eq g31.symm))))).ext E37).other W41 (Ne.symm (Nat.ne_of_lt (Nat.lt_of_lt_of_le lt_b27 (Nat.le_of_eq g31.symm))))).other W45 (Ne.symm (Nat.ne_of_lt (Nat.lt_of_lt_of_le (Nat.lt_of_lt_of_le (Nat.lt_of_lt_of_le (Nat.lt_of_lt_of_le (Nat.lt_of_lt_of_le (Nat.lt_of_lt_of_le E.lt E2.1) (Keep.of_wr W7).1) E11.1) (Keep.of_wr W15).1) E27.1) (Nat.le_of_eq g31.symm))))).ext E47).other W51 (Ne.symm (Nat.ne_of_lt (Nat.lt_of_lt_of_le (Nat.lt_of_lt_of_le (Nat.lt_of_lt_of_le (Nat.lt_of_lt_of_le (Nat.lt_of_lt_of_le (Nat.lt_of_lt_of_le E.lt E2.1) (Keep.of_wr W7).1) E11.1) (Keep.of_wr W15).1) E27.1) (Nat.le_of_eq g31.symm))))).ext E53).other W57 (Ne.symm (Nat.ne_of_lt (Nat.lt_of_lt_of_le (Nat.lt_of_lt_of_le (Nat.lt_of_lt_of_le (Nat.lt_of_lt_of_le (Nat.lt_of_lt_of_le (Nat.lt_of_lt_of_le E.lt E2.1) (Keep.of_wr W7).1) E11.1) (Keep.of_wr W15).1) E27.1) (Nat.le_of_eq g31.symm)))))
  have f_63 := ((((((V_b37.other W41 (Ne.symm (Nat.ne_of_lt (Nat.lt_of_lt_of_le (Nat.lt_of_lt_of_le (Nat.lt_of_lt_of_le lt_b27 E31.1) (Keep.of_wr W35).1) (Nat.le_of_eq g37.symm))))).other W45 (Ne.symm (Nat.ne_of_lt (Nat.lt_of_lt_of_le (Nat.lt_of_lt_of_le (Nat.lt_of_lt_of_le (Nat.lt_of_lt_of_le (Nat.lt_of_lt_of_le (Nat.lt_of_lt_of_le (Nat.lt_of_lt_of_le (Nat.lt_of_lt_of_le E.lt E2.1) (Keep.of_wr W7).1) E11.1) (Keep.of_wr W15).1) E27.1) E31.1) (Keep.of_wr W35).1) (Nat.le_of_eq g37.symm))))).ext E47).other W51 (Ne.symm (Nat.ne_of_lt (Nat.lt_of_lt_of_le (Nat.lt_of_lt_of_le (Nat.lt_of_lt_of_le (Nat.lt_of_lt_of_le (Nat.lt_of_lt_of_le (Nat.lt_of_lt_of_le (Nat.lt_of_lt_of_le (Nat.lt_of_lt_of_le E.lt E2.1) (Keep.of_wr W7).1) E11.1) (Keep.of_wr W15).1) E27.1) E31.1) (Keep.of_wr W35).1) (Nat.le_of_eq g37.symm))))).ext E53).other W57 (Ne.symm (Nat.ne_of_lt (Nat.lt_of_lt_of_le (Nat.lt_of_lt_of_le (Nat.lt_of_lt_of_le (Nat.lt_of_lt_of_le (Nat.lt_of_lt_of_le (Nat.lt_of_lt_of_le (Nat.lt_of_lt_of_le (Nat.lt_of_lt_of_le E.lt E2.1) (Keep.of_wr W7).1) E11.1) (Keep.of_wr W15).1) E27.1) E31.1) (Keep.of_wr W35).1) (Nat.le_of_eq g37.symm)))))
  have f_64 := (((V_b47.other W51 (Ne.symm (Nat.ne_of_lt (Nat.lt_of_lt_of_le (Nat.lt_of_lt_of_le (Nat.lt_of_lt_of_le (Nat.lt_of_lt_of_le (Nat.lt_of_lt_of_le (Nat.lt_of_lt_of_le (Nat.lt_of_lt_of_le (Nat.lt_of_lt_of_le (Nat.lt_of_lt_of_le (Nat.lt_of_lt_of_le (Nat.lt_of_lt_of_le E.lt E2.1) (Keep.of_wr W7).1) E11.1) (Keep.of_wr W15).1) E27.1) E31.1) (Keep.of_wr W35).1) E37.1) (Keep.of_wr W41).1) (Keep.of_wr W45).1) (Nat.le_of_eq g47.symm))))).ext E53).other W57 (Ne.symm (Nat.ne_of_lt (Nat.lt_of_lt_of_le (Nat.lt_of_lt_of_le (Nat.lt_of_lt_of_le (Nat.lt_of_lt_of_le (Nat.lt_of_lt_of_le (Nat.lt_of_lt_of_le (Nat.lt_of_lt_of_le (Nat.lt_of_lt_of_le (Nat.lt_of_lt_of_le (Nat.lt_of_lt_of_le (Nat.lt_of_lt_of_le E.lt E2.1) (Keep.of_wr W7).1) E11.1) (Keep.of_wr W15).1) E27.1) E31.1) (Keep.of_wr W35).1) E37.1) (Keep.of_wr W41).1) (Keep.of_wr W45).1) (Nat.le_of_eq g47.symm)))))
  have f_65 := (V_b53.other W57 (Ne.symm (Nat.ne_of_lt (Nat.lt_of_lt_of_le (Nat.lt_of_lt_of_le (Nat.lt_of_lt_of_le (Nat.lt_of_lt_of_le (Nat.lt_of_lt_of_le (Nat.lt_of_lt_of_le (Nat.lt_of_lt_of_le (Nat.lt_of_lt_of_le (Nat.lt_of_lt_of_le (Nat.lt_of_lt_of_le (Nat.lt_of_lt_of_le (Nat.lt_of_lt_of_le (Nat.lt_of_lt_of_le E.lt E2.1) (Keep.of_wr W7).1) E11.1) (Keep.of_wr W15).1) E27.1) E31.1) (Keep.of_wr W35).1) E37.1) (Keep.of_wr W41).1) (Keep.of_wr W45).1) E47.1) (Keep.of_wr W51).1) (Nat.le_of_eq g53.symm)))))
  have f_66 := ((((((((((((Fw7.ext E11).other W15 (Or.inr (slot_ne (Or.inr (hw _ (List.mem_of_getElem? (i := 26) rfl))) (Or.inr (hw _ (List.mem_of_getElem? (i := 28) rfl))) (by decide) (t := (.array .boolean)) (t' := (.array .boolean)) (by decide) (by decide)))).ext E27).ext E31).other W35 (Or.inl (Nat.ne_of_lt (Nat.lt_of_lt_of_le (Nat.lt_of_lt_of_le (Nat.lt_of_lt_of_le (Nat.lt_of_lt_of_le (Nat.lt_of_lt_of_le E.lt E2.1) (Keep.of_wr W7).1) E11.1) (Keep.of_wr W15).1) (Nat.le_of_eq g27.symm))))).ext E37).other W41 (Or.inl (Nat.ne_of_lt (Nat.lt_of_lt_of_le (Nat.lt_of_lt_of_le (Nat.lt_of_lt_of_le (Nat.lt_of_lt_of_le (Nat.lt_of_lt_of_le E.lt E2.1) (Keep.of_wr W7).1) E11.1) (Keep.of_wr W15).1) (Nat.le_of_eq g27.symm))))).other W45 (Or.inr (slot_ne (Or.inr (hw _ (List.mem_of_getElem? (i := 26) rfl))) (Or.inr (hw _ (List.mem_of_getElem? (i := 33) rfl))) (by decide) (t := (.array .boolean)) (t' := (.array (.array .int))) (by decide) (by decide)))).ext E47).other W51 (Or.inr (slot_ne (Or.inr (hw _ (List.mem_of_getElem? (i := 26) rfl))) (Or.inr (hw _ (List.mem_of_getElem? (i := 35) rfl))) (by decide) (t := (.array .boolean)) (t' := (.array .int)) (by decide) (by decide)))).ext E53).other W57 (Or.inr (slot_ne (Or.inr (hw _ (List.mem_of_getElem? (i := 26) rfl))) (Or.inr (hw _ (List.mem_of_getElem? (i := 37) rfl))) (by decide) (t := (.array .boolean)) (t' := (.array .int)) (by decide) (by decide))))
  have f_67 := ((((((((((Fw15.ext E27).ext E31).other W35 (Or.inl (Nat.ne_of_lt (Nat.lt_of_lt_of_le (Nat.lt_of_lt_of_le (Nat.lt_of_lt_of_le (Nat.lt_of_lt_of_le (Nat.lt_of_lt_of_le E.lt E2.1) (Keep.of_wr W7).1) E11.1) (Keep.of_wr W15).1) (Nat.le_of_eq g27.symm))))).ext E37).other W41 (Or.inl (Nat.ne_of_lt (Nat.lt_of_lt_of_le (Nat.lt_of_lt_of_le (Nat.lt_of_lt_of_le (Nat.lt_of_lt_of_le (Nat.lt_of_lt_of_le E.lt E2.1) (Keep.of_wr W7).1) E11.1) (Keep.of_wr W15).1) (Nat.le_of_eq g27.symm))))).other W45 (Or.inr (slot_ne (Or.inr (hw _ (List.mem_of_getElem? (i := 28) rfl))) (Or.inr (hw _ (List.mem_of_getElem? (i := 33) rfl))) (by decide) (t := (.array .boolean)) (t' := (.array (.array .int))) (by decide) (by decide)))).ext E47).other W51 (Or.inr (slot_ne (Or.inr (hw _ (List.mem_of_getElem? (i := 28) rfl))) (Or.inr (hw _ (List.mem_of_getElem? (i := 35) rfl))) (by decide) (t := (.array .boolean)) (t' := (.array .int)) (by decide) (by decide)))).ext E53).other W57 (Or.inr (slot_ne (Or.inr (hw _ (List.mem_of_getElem? (i := 28) rfl))) (Or.inr (hw _ (List.mem_of_getElem? (i := 37) rfl))) (by decide) (t := (.array .boolean)) (t' := (.array .int)) (by decide) (by decide))))
  have f_68 := ((((Fw45.ext E47).other W51 (Or.inr (slot_ne (Or.inr (hw _ (List.mem_of_getElem? (i := 33) rfl))) (Or.inr (hw _ (List.mem_of_getElem? (i := 35) rfl))) (by decide) (t := (.array (.array .int))) (t' := (.array .int)) (by decide) (by decide)))).ext E53).other W57 (Or.inr (slot_ne (Or.inr (hw _ (List.mem_of_getElem? (i := 33) rfl))) (Or.inr (hw _ (List.mem_of_getElem? (i := 37) rfl))) (by decide) (t := (.array (.array .int))) (t' := (.array .int)) (by decide) (by decide))))
  have f_69 := ((Fw51.ext E53).other W57 (Or.inr (slot_ne (Or.inr (hw _ (List.mem_of_getElem? (i := 35) rfl))) (Or.inr (hw _ (List.mem_of_getElem? (i := 37) rfl))) (by decide) (t := (.array .int)) (t' := (.array .int)) (by decide) (by decide))))
  have f_70 := (f_56.wr W57)
  obtain ⟨fs, hr, hrun, hended, hW, hsame⟩ := X57.leave (v := none) (fun _ => rfl) Bd.notSynchronized
  refine ⟨_, _, pre26 _ ?_, hrun, hended, _, _, rfl, ?_, ⟨_, rfl⟩, hW, hsame.mono (by decide) (by decide)⟩
  · show Steps p.tables e below (T15.setTop (mkF m 66 #[.val (.ref aq), .val (.ref la), .val (.int (own_cn y)), .val (.ref la), .val (.int (3 : Int32)), .val (.int ((((0 : Int32) + (1 : Int32)) + (1 : Int32)) + (1 : Int32))), .val (.int (y.getD 2 0))] [])) _
    refine XS.aloadN X15.here hx rfl (hb hby d2_66) rfl rfl ?_
    show Steps p.tables e below (T15.setTop (mkF m 67 #[.val (.ref aq), .val (.ref la), .val (.int (own_cn y)), .val (.ref la), .val (.int (3 : Int32)), .val (.int ((((0 : Int32) + (1 : Int32)) + (1 : Int32)) + (1 : Int32))), .val (.int (y.getD 2 0))] [(.ref aq)])) _
    refine XS.iconst X15.here hx rfl (hb hby d2_67) ?_
    show Steps p.tables e below (T15.setTop (mkF m 68 #[.val (.ref aq), .val (.ref la), .val (.int (own_cn y)), .val (.ref la), .val (.int (3 : Int32)), .val (.int ((((0 : Int32) + (1 : Int32)) + (1 : Int32)) + (1 : Int32))), .val (.int (y.getD 2 0))] [(.int (2 : Int32)), (.ref aq)])) _
    refine st27 _ ?_
    show Steps p.tables e below (T27.setTop (mkF m 71 #[.val (.ref aq), .val (.ref la), .val (.int (own_cn y)), .val (.ref la), .val (.int (3 : Int32)), .val (.int ((((0 : Int32) + (1 : Int32)) + (1 : Int32)) + (1 : Int32))), .val (.int (y.getD 2 0))] [(.ref b27), (.ref aq)])) _
    refine XS.dup X27.here hx rfl (hb hby d2_71) rfl rfl ?_
    show Steps p.tables e below (T27.setTop (mkF m 72 #[.val (.ref aq), .val (.ref la), .val (.int (own_cn y)), .val (.ref la), .val (.int (3 : Int32)), .val (.int ((((0 : Int32) + (1 : Int32)) + (1 : Int32)) + (1 : Int32))), .val (.int (y.getD 2 0))] [(.ref b27), (.ref b27), (.ref aq)])) _
    refine XS.iconst X27.here hx rfl (hb hby d2_72) ?_
    show Steps p.tables e below (T27.setTop (mkF m 73 #[.val (.ref aq), .val (.ref la), .val (.int (own_cn y)), .val (.ref la), .val (.int (3 : Int32)), .val (.int ((((0 : Int32) + (1 : Int32)) + (1 : Int32)) + (1 : Int32))), .val (.int (y.getD 2 0))] [(.int (0 : Int32)), (.ref b27), (.ref b27), (.ref aq)])) _
    refine XS.aloadN X27.here hx rfl (hb hby d2_73) rfl rfl ?_
    show Steps p.tables e below (T27.setTop (mkF m 74 #[.val (.ref aq), .val (.ref la), .val (.int (own_cn y)), .val (.ref la), .val (.int (3 : Int32)), .val (.int ((((0 : Int32) + (1 : Int32)) + (1 : Int32)) + (1 : Int32))), .val (.int (y.getD 2 0))] [(.ref la), (.int (0 : Int32)), (.ref b27), (.ref b27), (.ref aq)])) _
    refine X27.arraylength hx (by rw [e27]; exact Arcl30.1) (State.isArrayOf_alike hZ.alike Arcl30.2.1) (g := (mkF m 74 #[.val (.ref aq), .val (.ref la), .val (.int (own_cn y)), .val (.ref la), .val (.int (3 : Int32)), .val (.int ((((0 : Int32) + (1 : Int32)) + (1 : Int32)) + (1 : Int32))), .val (.int (y.getD 2 0))] [(.ref la), (.int (0 : Int32)), (.ref b27), (.ref b27), (.ref aq)])) rfl rfl (hb hby d2_74) _ ?_
    rw [len_of Scl30 Ncl30]
    show Steps p.tables e below (T27.setTop (mkF m 75 #[.val (.ref aq), .val (.ref la), .val (.int (own_cn y)), .val (.ref la), .val (.int (3 : Int32)), .val (.int ((((0 : Int32) + (1 : Int32)) + (1 : Int32)) + (1 : Int32))), .val (.int (y.getD 2 0))] [(.int (3 : Int32)), (.int (0 : Int32)), (.ref b27), (.ref b27), (.ref aq)])) _
    refine XS.iloadN X27.here hx rfl (hb hby d2_75) rfl ?_
    show Steps p.tables e below (T27.setTop (mkF m 76 #[.val (.ref aq), .val (.ref la), .val (.int (own_cn y)), .val (.ref la), .val (.int (3 : Int32)), .val (.int ((((0 : Int32) + (1 : Int32)) + (1 : Int32)) + (1 : Int32))), .val (.int (y.getD 2 0))] [(.int (own_cn y)), (.int (3 : Int32)), (.int (0 : Int32)), (.ref b27), (.ref b27), (.ref aq)])) _
    refine XS.isub X27.here hx rfl (hb hby d2_76) rfl ?_
    show Steps p.tables e below (T27.setTop (mkF m 77 #[.val (.ref aq), .val (.ref la), .val (.int (own_cn y)), .val (.ref la), .val (.int (3 : Int32)), .val (.int ((((0 : Int32) + (1 : Int32)) + (1 : Int32)) + (1 : Int32))), .val (.int (y.getD 2 0))] [(.int ((3 : Int32) - (own_cn y))), (.int (0 : Int32)), (.ref b27), (.ref b27), (.ref aq)])) _
    refine st31 _ ?_
    show Steps p.tables e below (T31.setTop (mkF m 79 #[.val (.ref aq), .val (.ref la), .val (.int (own_cn y)), .val (.ref la), .val (.int (3 : Int32)), .val (.int ((((0 : Int32) + (1 : Int32)) + (1 : Int32)) + (1 : Int32))), .val (.int (y.getD 2 0))] [(.ref b31), (.int (0 : Int32)), (.ref b27), (.ref b27), (.ref aq)])) _
    refine st35 _ ?_
    show Steps p.tables e below (T35.setTop (mkF m 80 #[.val (.ref aq), .val (.ref la), .val (.int (own_cn y)), .val (.ref la), .val (.int (3 : Int32)), .val (.int ((((0 : Int32) + (1 : Int32)) + (1 : Int32)) + (1 : Int32))), .val (.int (y.getD 2 0))] [(.ref b27), (.ref aq)])) _
    refine XS.dup X35.here hx rfl (hb hby d2_80) rfl rfl ?_
    show Steps p.tables e below (T35.setTop (mkF m 81 #[.val (.ref aq), .val (.ref la), .val (.int (own_cn y)), .val (.ref la), .val (.int (3 : Int32)), .val (.int ((((0 : Int32) + (1 : Int32)) + (1 : Int32)) + (1 : Int32))), .val (.int (y.getD 2 0))] [(.ref b27), (.ref b27), (.ref aq)])) _
    refine XS.iconst X35.here hx rfl (hb hby d2_81) ?_
    show Steps p.tables e below (T35.setTop (mkF m 82 #[.val (.ref aq), .val (.ref la), .val (.int (own_cn y)), .val (.ref la), .val (.int (3 : Int32)), .val (.int ((((0 : Int32) + (1 : Int32)) + (1 : Int32)) + (1 : Int32))), .val (.int (y.getD 2 0))] [(.int (1 : Int32)), (.ref b27), (.ref b27), (.ref aq)])) _
    refine XS.iloadN X35.here hx rfl (hb hby d2_82) rfl ?_
    show Steps p.tables e below (T35.setTop (mkF m 83 #[.val (.ref aq), .val (.ref la), .val (.int (own_cn y)), .val (.ref la), .val (.int (3 : Int32)), .val (.int ((((0 : Int32) + (1 : Int32)) + (1 : Int32)) + (1 : Int32))), .val (.int (y.getD 2 0))] [(.int (own_cn y)), (.int (1 : Int32)), (.ref b27), (.ref b27), (.ref aq)])) _
    refine st37 _ ?_
    show Steps p.tables e below (T37.setTop (mkF m 85 #[.val (.ref aq), .val (.ref la), .val (.int (own_cn y)), .val (.ref la), .val (.int (3 : Int32)), .val (.int ((((0 : Int32) + (1 : Int32)) + (1 : Int32)) + (1 : Int32))), .val (.int (y.getD 2 0))] [(.ref b37), (.int (1 : Int32)), (.ref b27), (.ref b27), (.ref aq)])) _
    refine st41 _ ?_
    show Steps p.tables e below (T41.setTop (mkF m 86 #[.val (.ref aq), .val (.ref la), .val (.int (own_cn y)), .val (.ref la), .val (.int (3 : Int32)), .val (.int ((((0 : Int32) + (1 : Int32)) + (1 : Int32)) + (1 : Int32))), .val (.int (y.getD 2 0))] [(.ref b27), (.ref aq)])) _
    refine st45 _ ?_
    show Steps p.tables e below (T45.setTop (mkF m 89 #[.val (.ref aq), .val (.ref la), .val (.int (own_cn y)), .val (.ref la), .val (.int (3 : Int32)), .val (.int ((((0 : Int32) + (1 : Int32)) + (1 : Int32)) + (1 : Int32))), .val (.int (y.getD 2 0))] [])) _
    refine XS.aloadN X45.here hx rfl (hb hby d2_89) rfl rfl ?_
    show Steps p.tables e below (T45.setTop (mkF m 90 #[.val (.ref aq), .val (.ref la), .val (.int (own_cn y)), .val (.ref la), .val (.int (3 : Int32)), .val (.int ((((0 : Int32) + (1 : Int32)) + (1 : Int32)) + (1 : Int32))), .val (.int (y.getD 2 0))] [(.ref aq)])) _
    refine XS.iconst X45.here hx rfl (hb hby d2_90) ?_
    show Steps p.tables e below (T45.setTop (mkF m 91 #[.val (.ref aq), .val (.ref la), .val (.int (own_cn y)), .val (.ref la), .val (.int (3 : Int32)), .val (.int ((((0 : Int32) + (1 : Int32)) + (1 : Int32)) + (1 : Int32))), .val (.int (y.getD 2 0))] [(.int (2 : Int32)), (.ref aq)])) _
    refine st47 _ ?_
    show Steps p.tables e below (T47.setTop (mkF m 93 #[.val (.ref aq), .val (.ref la), .val (.int (own_cn y)), .val (.ref la), .val (.int (3 : Int32)), .val (.int ((((0 : Int32) + (1 : Int32)) + (1 : Int32)) + (1 : Int32))), .val (.int (y.getD 2 0))] [(.ref b47), (.ref aq)])) _
    refine st51 _ ?_
    show Steps p.tables e below (T51.setTop (mkF m 96 #[.val (.ref aq), .val (.ref la), .val (.int (own_cn y)), .val (.ref la), .val (.int (3 : Int32)), .val (.int ((((0 : Int32) + (1 : Int32)) + (1 : Int32)) + (1 : Int32))), .val (.int (y.getD 2 0))] [])) _
    refine XS.aloadN X51.here hx rfl (hb hby d2_96) rfl rfl ?_
    show Steps p.tables e below (T51.setTop (mkF m 97 #[.val (.ref aq), .val (.ref la), .val (.int (own_cn y)), .val (.ref la), .val (.int (3 : Int32)), .val (.int ((((0 : Int32) + (1 : Int32)) + (1 : Int32)) + (1 : Int32))), .val (.int (y.getD 2 0))] [(.ref aq)])) _
    refine XS.iconst X51.here hx rfl (hb hby d2_97) ?_
    show Steps p.tables e below (T51.setTop (mkF m 98 #[.val (.ref aq), .val (.ref la), .val (.int (own_cn y)), .val (.ref la), .val (.int (3 : Int32)), .val (.int ((((0 : Int32) + (1 : Int32)) + (1 : Int32)) + (1 : Int32))), .val (.int (y.getD 2 0))] [(.int (2 : Int32)), (.ref aq)])) _
    refine st53 _ ?_
    show Steps p.tables e below (T53.setTop (mkF m 100 #[.val (.ref aq), .val (.ref la), .val (.int (own_cn y)), .val (.ref la), .val (.int (3 : Int32)), .val (.int ((((0 : Int32) + (1 : Int32)) + (1 : Int32)) + (1 : Int32))), .val (.int (y.getD 2 0))] [(.ref b53), (.ref aq)])) _
    refine st57 _ ?_
    show Steps p.tables e below (T57.setTop (mkF m 103 #[.val (.ref aq), .val (.ref la), .val (.int (own_cn y)), .val (.ref la), .val (.int (3 : Int32)), .val (.int ((((0 : Int32) + (1 : Int32)) + (1 : Int32)) + (1 : Int32))), .val (.int (y.getD 2 0))] [])) _
    exact X57.returnOut hx Bd.returns (hb hby d2_103) hr
  · show Q_rmC Z aq la kl y h0 n0 _ T57.heap _
    rw [e57]
    exact ⟨b2, b11, b27, b31, b37, b47, b53, rfl, N57, K58, sz_b2, ⟨(Nat.lt_of_lt_of_le E.lt (Nat.le_of_eq g2.symm)), (Nat.lt_of_lt_of_le (Nat.lt_of_lt_of_le lt_b2 (Keep.of_wr W7).1) (Nat.le_of_eq g11.symm)), (Nat.lt_of_lt_of_le (Nat.lt_of_lt_of_le lt_b11 (Keep.of_wr W15).1) (Nat.le_of_eq g27.symm)), (Nat.lt_of_lt_of_le lt_b27 (Nat.le_of_eq g31.symm)), (Nat.lt_of_lt_of_le (Nat.lt_of_lt_of_le lt_b31 (Keep.of_wr W35).1) (Nat.le_of_eq g37.symm)), (Nat.lt_of_lt_of_le (Nat.lt_of_lt_of_le (Nat.lt_of_lt_of_le lt_b37 (Keep.of_wr W41).1) (Keep.of_wr W45).1) (Nat.le_of_eq g47.symm)), (Nat.lt_of_lt_of_le (Nat.lt_of_lt_of_le lt_b47 (Keep.of_wr W51).1) (Nat.le_of_eq g53.symm))⟩, ⟨kl, k11, k27, k31, k37, k47, k53, f_70, f_66, f_67, f_68, f_69, Fw57, f_59, f_60, f_61, (by rw [own_q0_0]; exact f_62.pad (pad_rep [] _ _)), (by rw [own_q0_1]; exact f_63.pad (pad_rep [] _ _)), f_64, f_65⟩⟩
theorem ef_0 (m : MethodId) (x0 : Int32) (x1 : Int32) (x2 : Int32) (x3 : Int32) (x4 : Int32) : entryFrame m #[(.int x0), (.int x1), (.int x2), (.int x3), (.int x4)] maxLocals = mkF m 0 #[.val (.int x0), .val (.int x1), .val (.int x2), .val (.int x3), .val (.int x4), .unset, .unset, .unset, .unset, .unset, .unset, .unset, .unset, .unset, .unset, .unset, .unset] [] := by first | (simp [entryFrame, mkF, argsToLocals, Value.category, maxLocals]; done) | rfl
theorem pd_0 : parseMethodDescriptor "(IIII[Z)[I" = some ⟨[.int, .int, .int, .int, (.array .boolean)], some (.array .int)⟩ := by decide +kernel
theorem pd_1 : parseMethodDescriptor "([Z)V" = some ⟨[(.array .boolean)], none⟩ := by decide +kernel
theorem pd_2 : parseMethodDescriptor "(I)V" = some ⟨[.int], none⟩ := by decide +kernel
theorem pd_3 : parseMethodDescriptor "()I" = some ⟨[], some .int⟩ := by decide +kernel
theorem pd_4 : parseMethodDescriptor "()Z" = some ⟨[], some .boolean⟩ := by decide +kernel
def Q_rm0 (Z : State) (p1 : Int32) (p2 : Int32) (p3 : Int32) (p4 : Int32) (p5 : Int32) (h0 : Heap) (n0 : Nat) (v : Option Value) (h : Heap) (L : List Loc) : Prop := v = some (.int 1) ∧ Fr n0 L ∧ True
set_option maxRecDepth 65536 in
set_option maxHeartbeats 40000000 in
theorem rm0 (l : Launch) (Z : State) (a0 : Array Value) (hw : ∀ d ∈ tables_1, d.before a0 Z = true) (ws : List Jvm.Cond) (p1 : Int32) (p2 : Int32) (p3 : Int32) (p4 : Int32) (p5 : Int32) (h0 : Heap) (n0 : Nat) (Z0 : n0 ≤ h0.size)  :
    MetFree l x (head1 (Jvm.Cond.code x code maxLocals ret :: ws) room_1) (fun a U => a = #[(.int p1), (.int p2), (.int p3), (.int p4), (.int p5)] ∧ Z.Warmed39 U.vm ∧ U.heap = h0) (fun _ _ _ _ _ => True) (fun _ U o U' => ∃ v L, o = .returned v ∧ Q_rm0 Z p1 p2 p3 p4 p5 h0 n0 v U'.heap L ∧ FrameEnd U o U' L room_1.cells room_1.slots) := by
  refine MetFree.of_bodySF (plainFor_of_name pn_com_example_contrepoint_contrepoint_IndexQueueAddPinLaw) hisR ?_
  intro p e s m args below meth c s₁ Bd hml0 hP hK
  obtain ⟨rfl, hZ, hh⟩ := hP
  have hx := Bd.exec
  have hby := Bd.bytes
  have hml : c.maxLocals = 17 := hml0
  have hown : s.vm.findClass "com/example/contrepoint/contrepoint/IndexQueueAddPinLaw" = some m.cls := findClass_of_methodNamed Bd.named
  have hnm := (name_of_methodNamed Bd.named Bd.method).1
  have X0 : Stand p l e room_1 s m #[(.int p1), (.int p2), (.int p3), (.int p4), (.int p5)] below meth c s₁ [] 0 0 := Stand.of_body Bd
  have e0 : s₁.heap = h0 := by rw [← hh, Bd.state]; rfl
  have N0 := Fr.nil n0
  have pre0 : ∀ t, Steps p.tables e below (s₁.setTop (mkF m 0 #[.val (.int p1), .val (.int p2), .val (.int p3), .val (.int p4), .val (.int p5), .unset, .unset, .unset, .unset, .unset, .unset, .unset, .unset, .unset, .unset, .unset, .unset] [])) t → Steps p.tables e below (s₁.setTop (entryFrame m #[(.int p1), (.int p2), (.int p3), (.int p4), (.int p5)] maxLocals)) t := fun t k => castTop (ef_0 m p1 p2 p3 p4 p5) k
  obtain ⟨S0, hS0⟩ : ∃ S, S = s₁.setTop (entryFrame m #[(.int p1), (.int p2), (.int p3), (.int p4), (.int p5)] maxLocals) := ⟨_, rfl⟩
  rw [← hS0] at pre0 ⊢
  obtain ⟨T1, h1, k1, X1, e1, E1, A1, Ex1, st1⟩ := newPE X0 hx hZ (hw _ (List.mem_of_getElem? (i := 0) rfl)) e0 (g := (mkF m 1 #[.val (.int p1), .val (.int p2), .val (.int p3), .val (.int p4), .val (.int p5), .unset, .unset, .unset, .unset, .unset, .unset, .unset, .unset, .unset, .unset, .unset, .unset] [(.int (3 : Int32))])) rfl (hb hby at_1) rfl (by decide) (cap := 3) (by decide) (by decide) (by decide) (by decide) (ad := "[Z") rfl
  obtain ⟨b1, g1⟩ : ∃ z, z = h0.size := ⟨_, rfl⟩
  rw [← g1] at A1 Ex1 st1
  have gn_b1 : n0 ≤ b1 := Nat.le_trans (Nat.le_trans Z0 (Keep.refl h0 []).1) (Nat.le_of_eq g1.symm)
  have sz_b1 : h0.size ≤ b1 := Nat.le_trans (Keep.refl h0 []).1 (Nat.le_of_eq g1.symm)
  have K2 : Keep h0 h1 [] := (Keep.refl h0 []).ext E1
  have lt_b1 : b1 < h1.size := A1.lt
  have V_b1 : Arv Z h1 b1 k1 .boolean (3 : Int32) [(.int (0 : Int32)), (.int (0 : Int32)), (.int (0 : Int32))] (.int (0 : Int32)) := (Arv.new A1 (by decide)).pad (pad_rep [] (.int (0 : Int32)) 3)
  have pre3 : ∀ t, Steps p.tables e below (T1.setTop (mkF m 8 #[.val (.int p1), .val (.int p2), .val (.int p3), .val (.int p4), .val (.int p5), .unset, .unset, .unset, .unset, .unset, .unset, .unset, .unset, .unset, .unset, .unset, .unset] [(.int (p1 &&& (1 : Int32))), (.int (0 : Int32)), (.ref b1), (.ref b1)])) t → Steps p.tables e below S0 t := by
    intro t k
    refine pre0 t ?_
    show Steps p.tables e below (s₁.setTop (mkF m 0 #[.val (.int p1), .val (.int p2), .val (.int p3), .val (.int p4), .val (.int p5), .unset, .unset, .unset, .unset, .unset, .unset, .unset, .unset, .unset, .unset, .unset, .unset] [])) _
    refine XS.iconst X0.here hx rfl (hb hby at_0) ?_
    show Steps p.tables e below (s₁.setTop (mkF m 1 #[.val (.int p1), .val (.int p2), .val (.int p3), .val (.int p4), .val (.int p5), .unset, .unset, .unset, .unset, .unset, .unset, .unset, .unset, .unset, .unset, .unset, .unset] [(.int (3 : Int32))])) _
    refine st1 _ ?_
    show Steps p.tables e below (T1.setTop (mkF m 3 #[.val (.int p1), .val (.int p2), .val (.int p3), .val (.int p4), .val (.int p5), .unset, .unset, .unset, .unset, .unset, .unset, .unset, .unset, .unset, .unset, .unset, .unset] [(.ref b1)])) _
    refine XS.dup X1.here hx rfl (hb hby at_3) rfl rfl ?_
    show Steps p.tables e below (T1.setTop (mkF m 4 #[.val (.int p1), .val (.int p2), .val (.int p3), .val (.int p4), .val (.int p5), .unset, .unset, .unset, .unset, .unset, .unset, .unset, .unset, .unset, .unset, .unset, .unset] [(.ref b1), (.ref b1)])) _
    refine XS.iconst X1.here hx rfl (hb hby at_4) ?_
    show Steps p.tables e below (T1.setTop (mkF m 5 #[.val (.int p1), .val (.int p2), .val (.int p3), .val (.int p4), .val (.int p5), .unset, .unset, .unset, .unset, .unset, .unset, .unset, .unset, .unset, .unset, .unset, .unset] [(.int (0 : Int32)), (.ref b1), (.ref b1)])) _
    refine XS.iloadN X1.here hx rfl (hb hby at_5) rfl ?_
    show Steps p.tables e below (T1.setTop (mkF m 6 #[.val (.int p1), .val (.int p2), .val (.int p3), .val (.int p4), .val (.int p5), .unset, .unset, .unset, .unset, .unset, .unset, .unset, .unset, .unset, .unset, .unset, .unset] [(.int p1), (.int (0 : Int32)), (.ref b1), (.ref b1)])) _
    refine XS.iconst X1.here hx rfl (hb hby at_6) ?_
    show Steps p.tables e below (T1.setTop (mkF m 7 #[.val (.int p1), .val (.int p2), .val (.int p3), .val (.int p4), .val (.int p5), .unset, .unset, .unset, .unset, .unset, .unset, .unset, .unset, .unset, .unset, .unset, .unset] [(.int (1 : Int32)), (.int p1), (.int (0 : Int32)), (.ref b1), (.ref b1)])) _
    refine XS.iand X1.here hx rfl (hb hby at_7) rfl ?_
    exact k
  obtain ⟨y0, hy0, pre_y0⟩ : ∃ y0 : Int32, (((p1 &&& (1 : Int32)) = (0 : Int32) ∧ y0 = (0 : Int32)) ∨ (¬ ((p1 &&& (1 : Int32)) = (0 : Int32)) ∧ y0 = (1 : Int32))) ∧ ∀ t, Steps p.tables e below (T1.setTop (mkF m 16 #[.val (.int p1), .val (.int p2), .val (.int p3), .val (.int p4), .val (.int p5), .unset, .unset, .unset, .unset, .unset, .unset, .unset, .unset, .unset, .unset, .unset, .unset] [(.int y0), (.int (0 : Int32)), (.ref b1), (.ref b1)])) t → Steps p.tables e below S0 t := by
    by_cases hc : (p1 &&& (1 : Int32)) = (0 : Int32)
    · refine ⟨(0 : Int32), Or.inl ⟨hc, rfl⟩, fun t k => pre3 t ?_⟩
      show Steps p.tables e below (T1.setTop (mkF m 8 #[.val (.int p1), .val (.int p2), .val (.int p3), .val (.int p4), .val (.int p5), .unset, .unset, .unset, .unset, .unset, .unset, .unset, .unset, .unset, .unset, .unset, .unset] [(.int (p1 &&& (1 : Int32))), (.int (0 : Int32)), (.ref b1), (.ref b1)])) _
      refine XS.ifYes X1.here hx rfl (pc0 := 8) (pc' := 15) rfl (hb hby at_8) rfl ((if0 _ _).trans (teq hc).1) (by decide) (by decide) ?_
      show Steps p.tables e below (T1.setTop (mkF m 15 #[.val (.int p1), .val (.int p2), .val (.int p3), .val (.int p4), .val (.int p5), .unset, .unset, .unset, .unset, .unset, .unset, .unset, .unset, .unset, .unset, .unset, .unset] [(.int (0 : Int32)), (.ref b1), (.ref b1)])) _
      refine XS.iconst X1.here hx rfl (hb hby at_15) ?_
      exact k
    · refine ⟨(1 : Int32), Or.inr ⟨hc, rfl⟩, fun t k => pre3 t ?_⟩
      show Steps p.tables e below (T1.setTop (mkF m 8 #[.val (.int p1), .val (.int p2), .val (.int p3), .val (.int p4), .val (.int p5), .unset, .unset, .unset, .unset, .unset, .unset, .unset, .unset, .unset, .unset, .unset, .unset] [(.int (p1 &&& (1 : Int32))), (.int (0 : Int32)), (.ref b1), (.ref b1)])) _
      refine XS.ifNo X1.here hx rfl (hb hby at_8) rfl ((if0 _ _).trans (feq hc).1) ?_
      show Steps p.tables e below (T1.setTop (mkF m 11 #[.val (.int p1), .val (.int p2), .val (.int p3), .val (.int p4), .val (.int p5), .unset, .unset, .unset, .unset, .unset, .unset, .unset, .unset, .unset, .unset, .unset, .unset] [(.int (0 : Int32)), (.ref b1), (.ref b1)])) _
      refine XS.iconst X1.here hx rfl (hb hby at_11) ?_
      show Steps p.tables e below (T1.setTop (mkF m 12 #[.val (.int p1), .val (.int p2), .val (.int p3), .val (.int p4), .val (.int p5), .unset, .unset, .unset, .unset, .unset, .unset, .unset, .unset, .unset, .unset, .unset, .unset] [(.int (1 : Int32)), (.int (0 : Int32)), (.ref b1), (.ref b1)])) _
      refine XS.goto X1.here hx rfl (pc0 := 12) (pc' := 16) rfl (hb hby at_12) (by decide) (by decide) ?_
      exact k
  have hy0 : y0 = (0 : Int32) ∨ y0 = (1 : Int32) := hy0.elim (fun r => Or.inl r.2) (fun r => Or.inr r.2)
  obtain ⟨cl4, Arcl4, qcl4, Scl4, Ncl4, Hcl4, Gcl4⟩ := id V_b1
  have hincl4 : ¬ ((0 : Int32) < 0 ∨ cl4.slots.size ≤ ((0 : Int32)).toNatClampNeg) := inb_of Scl4 ⟨by decide, by decide⟩
  obtain ⟨T5, h5, X5, e5, W5, st5⟩ := stZ X1 hx hZ e1 Arcl4 (j := (0 : Int32)) hincl4 (g := (mkF m 16 #[.val (.int p1), .val (.int p2), .val (.int p3), .val (.int p4), .val (.int p5), .unset, .unset, .unset, .unset, .unset, .unset, .unset, .unset, .unset, .unset, .unset, .unset] [(.int y0), (.int (0 : Int32)), (.ref b1), (.ref b1)])) rfl rfl (hb hby at_16)
  have V5 := Arv.set Arcl4 qcl4 Scl4 Ncl4 Hcl4 Gcl4 (fits_nar_bool _) W5 0 rfl (Nat.le_of_ble_eq_true rfl)
  have Vn5 : Arv Z h5 b1 k1 .boolean (3 : Int32) [(.int y0), (.int (0 : Int32)), (.int (0 : Int32))] (.int (0 : Int32)) := (by have q := V5; rw [own_nz hy0] at q; exact q)
  have N5 := Fr.snoc X5 N0 gn_b1
  have K6 : Keep h0 h5 [] := K2.wr W5 (Or.inr sz_b1)
  have pre7 : ∀ t, Steps p.tables e below (T5.setTop (mkF m 22 #[.val (.int p1), .val (.int p2), .val (.int p3), .val (.int p4), .val (.int p5), .unset, .unset, .unset, .unset, .unset, .unset, .unset, .unset, .unset, .unset, .unset, .unset] [(.int (p1 &&& (2 : Int32))), (.int (1 : Int32)), (.ref b1), (.ref b1)])) t → Steps p.tables e below S0 t := by
    intro t k
    refine pre_y0 t ?_
    show Steps p.tables e below (T1.setTop (mkF m 16 #[.val (.int p1), .val (.int p2), .val (.int p3), .val (.int p4), .val (.int p5), .unset, .unset, .unset, .unset, .unset, .unset, .unset, .unset, .unset, .unset, .unset, .unset] [(.int y0), (.int (0 : Int32)), (.ref b1), (.ref b1)])) _
    refine st5 _ ?_
    show Steps p.tables e below (T5.setTop (mkF m 17 #[.val (.int p1), .val (.int p2), .val (.int p3), .val (.int p4), .val (.int p5), .unset, .unset, .unset, .unset, .unset, .unset, .unset, .unset, .unset, .unset, .unset, .unset] [(.ref b1)])) _
    refine XS.dup X5.here hx rfl (hb hby at_17) rfl rfl ?_
    show Steps p.tables e below (T5.setTop (mkF m 18 #[.val (.int p1), .val (.int p2), .val (.int p3), .val (.int p4), .val (.int p5), .unset, .unset, .unset, .unset, .unset, .unset, .unset, .unset, .unset, .unset, .unset, .unset] [(.ref b1), (.ref b1)])) _
    refine XS.iconst X5.here hx rfl (hb hby at_18) ?_
    show Steps p.tables e below (T5.setTop (mkF m 19 #[.val (.int p1), .val (.int p2), .val (.int p3), .val (.int p4), .val (.int p5), .unset, .unset, .unset, .unset, .unset, .unset, .unset, .unset, .unset, .unset, .unset, .unset] [(.int (1 : Int32)), (.ref b1), (.ref b1)])) _
    refine XS.iloadN X5.here hx rfl (hb hby at_19) rfl ?_
    show Steps p.tables e below (T5.setTop (mkF m 20 #[.val (.int p1), .val (.int p2), .val (.int p3), .val (.int p4), .val (.int p5), .unset, .unset, .unset, .unset, .unset, .unset, .unset, .unset, .unset, .unset, .unset, .unset] [(.int p1), (.int (1 : Int32)), (.ref b1), (.ref b1)])) _
    refine XS.iconst X5.here hx rfl (hb hby at_20) ?_
    show Steps p.tables e below (T5.setTop (mkF m 21 #[.val (.int p1), .val (.int p2), .val (.int p3), .val (.int p4), .val (.int p5), .unset, .unset, .unset, .unset, .unset, .unset, .unset, .unset, .unset, .unset, .unset, .unset] [(.int (2 : Int32)), (.int p1), (.int (1 : Int32)), (.ref b1), (.ref b1)])) _
    refine XS.iand X5.here hx rfl (hb hby at_21) rfl ?_
    exact k
  obtain ⟨y1, hy1, pre_y1⟩ : ∃ y1 : Int32, (((p1 &&& (2 : Int32)) = (0 : Int32) ∧ y1 = (0 : Int32)) ∨ (¬ ((p1 &&& (2 : Int32)) = (0 : Int32)) ∧ y1 = (1 : Int32))) ∧ ∀ t, Steps p.tables e below (T5.setTop (mkF m 30 #[.val (.int p1), .val (.int p2), .val (.int p3), .val (.int p4), .val (.int p5), .unset, .unset, .unset, .unset, .unset, .unset, .unset, .unset, .unset, .unset, .unset, .unset] [(.int y1), (.int (1 : Int32)), (.ref b1), (.ref b1)])) t → Steps p.tables e below S0 t := by
    by_cases hc : (p1 &&& (2 : Int32)) = (0 : Int32)
    · refine ⟨(0 : Int32), Or.inl ⟨hc, rfl⟩, fun t k => pre7 t ?_⟩
      show Steps p.tables e below (T5.setTop (mkF m 22 #[.val (.int p1), .val (.int p2), .val (.int p3), .val (.int p4), .val (.int p5), .unset, .unset, .unset, .unset, .unset, .unset, .unset, .unset, .unset, .unset, .unset, .unset] [(.int (p1 &&& (2 : Int32))), (.int (1 : Int32)), (.ref b1), (.ref b1)])) _
      refine XS.ifYes X5.here hx rfl (pc0 := 22) (pc' := 29) rfl (hb hby at_22) rfl ((if0 _ _).trans (teq hc).1) (by decide) (by decide) ?_
      show Steps p.tables e below (T5.setTop (mkF m 29 #[.val (.int p1), .val (.int p2), .val (.int p3), .val (.int p4), .val (.int p5), .unset, .unset, .unset, .unset, .unset, .unset, .unset, .unset, .unset, .unset, .unset, .unset] [(.int (1 : Int32)), (.ref b1), (.ref b1)])) _
      refine XS.iconst X5.here hx rfl (hb hby at_29) ?_
      exact k
    · refine ⟨(1 : Int32), Or.inr ⟨hc, rfl⟩, fun t k => pre7 t ?_⟩
      show Steps p.tables e below (T5.setTop (mkF m 22 #[.val (.int p1), .val (.int p2), .val (.int p3), .val (.int p4), .val (.int p5), .unset, .unset, .unset, .unset, .unset, .unset, .unset, .unset, .unset, .unset, .unset, .unset] [(.int (p1 &&& (2 : Int32))), (.int (1 : Int32)), (.ref b1), (.ref b1)])) _
      refine XS.ifNo X5.here hx rfl (hb hby at_22) rfl ((if0 _ _).trans (feq hc).1) ?_
      show Steps p.tables e below (T5.setTop (mkF m 25 #[.val (.int p1), .val (.int p2), .val (.int p3), .val (.int p4), .val (.int p5), .unset, .unset, .unset, .unset, .unset, .unset, .unset, .unset, .unset, .unset, .unset, .unset] [(.int (1 : Int32)), (.ref b1), (.ref b1)])) _
      refine XS.iconst X5.here hx rfl (hb hby at_25) ?_
      show Steps p.tables e below (T5.setTop (mkF m 26 #[.val (.int p1), .val (.int p2), .val (.int p3), .val (.int p4), .val (.int p5), .unset, .unset, .unset, .unset, .unset, .unset, .unset, .unset, .unset, .unset, .unset, .unset] [(.int (1 : Int32)), (.int (1 : Int32)), (.ref b1), (.ref b1)])) _
      refine XS.goto X5.here hx rfl (pc0 := 26) (pc' := 30) rfl (hb hby at_26) (by decide) (by decide) ?_
      exact k
  have hy1 : y1 = (0 : Int32) ∨ y1 = (1 : Int32) := hy1.elim (fun r => Or.inl r.2) (fun r => Or.inr r.2)
  obtain ⟨cl8, Arcl8, qcl8, Scl8, Ncl8, Hcl8, Gcl8⟩ := id Vn5
  have hincl8 : ¬ ((1 : Int32) < 0 ∨ cl8.slots.size ≤ ((1 : Int32)).toNatClampNeg) := inb_of Scl8 ⟨by decide, by decide⟩
  obtain ⟨T9, h9, X9, e9, W9, st9⟩ := stZ X5 hx hZ e5 Arcl8 (j := (1 : Int32)) hincl8 (g := (mkF m 30 #[.val (.int p1), .val (.int p2), .val (.int p3), .val (.int p4), .val (.int p5), .unset, .unset, .unset, .unset, .unset, .unset, .unset, .unset, .unset, .unset, .unset, .unset] [(.int y1), (.int (1 : Int32)), (.ref b1), (.ref b1)])) rfl rfl (hb hby at_30)
  have V9 := Arv.set Arcl8 qcl8 Scl8 Ncl8 Hcl8 Gcl8 (fits_nar_bool _) W9 1 rfl (Nat.le_of_ble_eq_true rfl)
  have Vn9 : Arv Z h9 b1 k1 .boolean (3 : Int32) [(.int y0), (.int y1), (.int (0 : Int32))] (.int (0 : Int32)) := (by have q := V9; rw [own_nz hy1] at q; exact q)
  have N9 := Fr.snoc X9 N5 gn_b1
  have K10 : Keep h0 h9 [] := K6.wr W9 (Or.inr sz_b1)
  have pre11 : ∀ t, Steps p.tables e below (T9.setTop (mkF m 36 #[.val (.int p1), .val (.int p2), .val (.int p3), .val (.int p4), .val (.int p5), .unset, .unset, .unset, .unset, .unset, .unset, .unset, .unset, .unset, .unset, .unset, .unset] [(.int (p1 &&& (4 : Int32))), (.int (2 : Int32)), (.ref b1), (.ref b1)])) t → Steps p.tables e below S0 t := by
    intro t k
    refine pre_y1 t ?_
    show Steps p.tables e below (T5.setTop (mkF m 30 #[.val (.int p1), .val (.int p2), .val (.int p3), .val (.int p4), .val (.int p5), .unset, .unset, .unset, .unset, .unset, .unset, .unset, .unset, .unset, .unset, .unset, .unset] [(.int y1), (.int (1 : Int32)), (.ref b1), (.ref b1)])) _
    refine st9 _ ?_
    show Steps p.tables e below (T9.setTop (mkF m 31 #[.val (.int p1), .val (.int p2), .val (.int p3), .val (.int p4), .val (.int p5), .unset, .unset, .unset, .unset, .unset, .unset, .unset, .unset, .unset, .unset, .unset, .unset] [(.ref b1)])) _
    refine XS.dup X9.here hx rfl (hb hby at_31) rfl rfl ?_
    show Steps p.tables e below (T9.setTop (mkF m 32 #[.val (.int p1), .val (.int p2), .val (.int p3), .val (.int p4), .val (.int p5), .unset, .unset, .unset, .unset, .unset, .unset, .unset, .unset, .unset, .unset, .unset, .unset] [(.ref b1), (.ref b1)])) _
    refine XS.iconst X9.here hx rfl (hb hby at_32) ?_
    show Steps p.tables e below (T9.setTop (mkF m 33 #[.val (.int p1), .val (.int p2), .val (.int p3), .val (.int p4), .val (.int p5), .unset, .unset, .unset, .unset, .unset, .unset, .unset, .unset, .unset, .unset, .unset, .unset] [(.int (2 : Int32)), (.ref b1), (.ref b1)])) _
    refine XS.iloadN X9.here hx rfl (hb hby at_33) rfl ?_
    show Steps p.tables e below (T9.setTop (mkF m 34 #[.val (.int p1), .val (.int p2), .val (.int p3), .val (.int p4), .val (.int p5), .unset, .unset, .unset, .unset, .unset, .unset, .unset, .unset, .unset, .unset, .unset, .unset] [(.int p1), (.int (2 : Int32)), (.ref b1), (.ref b1)])) _
    refine XS.iconst X9.here hx rfl (hb hby at_34) ?_
    show Steps p.tables e below (T9.setTop (mkF m 35 #[.val (.int p1), .val (.int p2), .val (.int p3), .val (.int p4), .val (.int p5), .unset, .unset, .unset, .unset, .unset, .unset, .unset, .unset, .unset, .unset, .unset, .unset] [(.int (4 : Int32)), (.int p1), (.int (2 : Int32)), (.ref b1), (.ref b1)])) _
    refine XS.iand X9.here hx rfl (hb hby at_35) rfl ?_
    exact k
  obtain ⟨y2, hy2, pre_y2⟩ : ∃ y2 : Int32, (((p1 &&& (4 : Int32)) = (0 : Int32) ∧ y2 = (0 : Int32)) ∨ (¬ ((p1 &&& (4 : Int32)) = (0 : Int32)) ∧ y2 = (1 : Int32))) ∧ ∀ t, Steps p.tables e below (T9.setTop (mkF m 44 #[.val (.int p1), .val (.int p2), .val (.int p3), .val (.int p4), .val (.int p5), .unset, .unset, .unset, .unset, .unset, .unset, .unset, .unset, .unset, .unset, .unset, .unset] [(.int y2), (.int (2 : Int32)), (.ref b1), (.ref b1)])) t → Steps p.tables e below S0 t := by
    by_cases hc : (p1 &&& (4 : Int32)) = (0 : Int32)
    · refine ⟨(0 : Int32), Or.inl ⟨hc, rfl⟩, fun t k => pre11 t ?_⟩
      show Steps p.tables e below (T9.setTop (mkF m 36 #[.val (.int p1), .val (.int p2), .val (.int p3), .val (.int p4), .val (.int p5), .unset, .unset, .unset, .unset, .unset, .unset, .unset, .unset, .unset, .unset, .unset, .unset] [(.int (p1 &&& (4 : Int32))), (.int (2 : Int32)), (.ref b1), (.ref b1)])) _
      refine XS.ifYes X9.here hx rfl (pc0 := 36) (pc' := 43) rfl (hb hby at_36) rfl ((if0 _ _).trans (teq hc).1) (by decide) (by decide) ?_
      show Steps p.tables e below (T9.setTop (mkF m 43 #[.val (.int p1), .val (.int p2), .val (.int p3), .val (.int p4), .val (.int p5), .unset, .unset, .unset, .unset, .unset, .unset, .unset, .unset, .unset, .unset, .unset, .unset] [(.int (2 : Int32)), (.ref b1), (.ref b1)])) _
      refine XS.iconst X9.here hx rfl (hb hby at_43) ?_
      exact k
    · refine ⟨(1 : Int32), Or.inr ⟨hc, rfl⟩, fun t k => pre11 t ?_⟩
      show Steps p.tables e below (T9.setTop (mkF m 36 #[.val (.int p1), .val (.int p2), .val (.int p3), .val (.int p4), .val (.int p5), .unset, .unset, .unset, .unset, .unset, .unset, .unset, .unset, .unset, .unset, .unset, .unset] [(.int (p1 &&& (4 : Int32))), (.int (2 : Int32)), (.ref b1), (.ref b1)])) _
      refine XS.ifNo X9.here hx rfl (hb hby at_36) rfl ((if0 _ _).trans (feq hc).1) ?_
      show Steps p.tables e below (T9.setTop (mkF m 39 #[.val (.int p1), .val (.int p2), .val (.int p3), .val (.int p4), .val (.int p5), .unset, .unset, .unset, .unset, .unset, .unset, .unset, .unset, .unset, .unset, .unset, .unset] [(.int (2 : Int32)), (.ref b1), (.ref b1)])) _
      refine XS.iconst X9.here hx rfl (hb hby at_39) ?_
      show Steps p.tables e below (T9.setTop (mkF m 40 #[.val (.int p1), .val (.int p2), .val (.int p3), .val (.int p4), .val (.int p5), .unset, .unset, .unset, .unset, .unset, .unset, .unset, .unset, .unset, .unset, .unset, .unset] [(.int (1 : Int32)), (.int (2 : Int32)), (.ref b1), (.ref b1)])) _
      refine XS.goto X9.here hx rfl (pc0 := 40) (pc' := 44) rfl (hb hby at_40) (by decide) (by decide) ?_
      exact k
  have hy2 : y2 = (0 : Int32) ∨ y2 = (1 : Int32) := hy2.elim (fun r => Or.inl r.2) (fun r => Or.inr r.2)
  obtain ⟨cl12, Arcl12, qcl12, Scl12, Ncl12, Hcl12, Gcl12⟩ := id Vn9
  have hincl12 : ¬ ((2 : Int32) < 0 ∨ cl12.slots.size ≤ ((2 : Int32)).toNatClampNeg) := inb_of Scl12 ⟨by decide, by decide⟩
  obtain ⟨T13, h13, X13, e13, W13, st13⟩ := stZ X9 hx hZ e9 Arcl12 (j := (2 : Int32)) hincl12 (g := (mkF m 44 #[.val (.int p1), .val (.int p2), .val (.int p3), .val (.int p4), .val (.int p5), .unset, .unset, .unset, .unset, .unset, .unset, .unset, .unset, .unset, .unset, .unset, .unset] [(.int y2), (.int (2 : Int32)), (.ref b1), (.ref b1)])) rfl rfl (hb hby at_44)
  have V13 := Arv.set Arcl12 qcl12 Scl12 Ncl12 Hcl12 Gcl12 (fits_nar_bool _) W13 2 rfl (Nat.le_of_ble_eq_true rfl)
  have Vn13 : Arv Z h13 b1 k1 .boolean (3 : Int32) [(.int y0), (.int y1), (.int y2)] (.int (0 : Int32)) := (by have q := V13; rw [own_nz hy2] at q; exact q)
  have N13 := Fr.snoc X13 N9 gn_b1
  have K14 : Keep h0 h13 [] := K10.wr W13 (Or.inr sz_b1)
  have pre15 : ∀ t, Steps p.tables e below (T13.setTop (mkF m 55 #[.val (.int p1), .val (.int p2), .val (.int p3), .val (.int p4), .val (.int p5), .val (.ref b1), .val (.int ((p2 &&& (2147483647 : Int32)) % (3 : Int32))), .unset, .unset, .unset, .unset, .unset, .unset, .unset, .unset, .unset, .unset] [])) t → Steps p.tables e below S0 t := by
    intro t k
    refine pre_y2 t ?_
    show Steps p.tables e below (T9.setTop (mkF m 44 #[.val (.int p1), .val (.int p2), .val (.int p3), .val (.int p4), .val (.int p5), .unset, .unset, .unset, .unset, .unset, .unset, .unset, .unset, .unset, .unset, .unset, .unset] [(.int y2), (.int (2 : Int32)), (.ref b1), (.ref b1)])) _
    refine st13 _ ?_
    show Steps p.tables e below (T13.setTop (mkF m 45 #[.val (.int p1), .val (.int p2), .val (.int p3), .val (.int p4), .val (.int p5), .unset, .unset, .unset, .unset, .unset, .unset, .unset, .unset, .unset, .unset, .unset, .unset] [(.ref b1)])) _
    refine XS.astore X13.here hx rfl (hb hby at_45) rfl rfl (l' := #[.val (.int p1), .val (.int p2), .val (.int p3), .val (.int p4), .val (.int p5), .val (.ref b1), .unset, .unset, .unset, .unset, .unset, .unset, .unset, .unset, .unset, .unset, .unset]) rfl ?_
    show Steps p.tables e below (T13.setTop (mkF m 47 #[.val (.int p1), .val (.int p2), .val (.int p3), .val (.int p4), .val (.int p5), .val (.ref b1), .unset, .unset, .unset, .unset, .unset, .unset, .unset, .unset, .unset, .unset, .unset] [])) _
    refine XS.iloadN X13.here hx rfl (hb hby at_47) rfl ?_
    show Steps p.tables e below (T13.setTop (mkF m 48 #[.val (.int p1), .val (.int p2), .val (.int p3), .val (.int p4), .val (.int p5), .val (.ref b1), .unset, .unset, .unset, .unset, .unset, .unset, .unset, .unset, .unset, .unset, .unset] [(.int p2)])) _
    refine X13.ldcInt hx hown (mvT hZ (hw _ (List.mem_of_getElem? (i := 1) rfl))) (g := (mkF m 48 #[.val (.int p1), .val (.int p2), .val (.int p3), .val (.int p4), .val (.int p5), .val (.ref b1), .unset, .unset, .unset, .unset, .unset, .unset, .unset, .unset, .unset, .unset, .unset] [(.int p2)])) rfl (hb hby at_48) _ ?_
    show Steps p.tables e below (T13.setTop (mkF m 50 #[.val (.int p1), .val (.int p2), .val (.int p3), .val (.int p4), .val (.int p5), .val (.ref b1), .unset, .unset, .unset, .unset, .unset, .unset, .unset, .unset, .unset, .unset, .unset] [(.int (2147483647 : Int32)), (.int p2)])) _
    refine XS.iand X13.here hx rfl (hb hby at_50) rfl ?_
    show Steps p.tables e below (T13.setTop (mkF m 51 #[.val (.int p1), .val (.int p2), .val (.int p3), .val (.int p4), .val (.int p5), .val (.ref b1), .unset, .unset, .unset, .unset, .unset, .unset, .unset, .unset, .unset, .unset, .unset] [(.int (p2 &&& (2147483647 : Int32)))])) _
    refine XS.iconst X13.here hx rfl (hb hby at_51) ?_
    show Steps p.tables e below (T13.setTop (mkF m 52 #[.val (.int p1), .val (.int p2), .val (.int p3), .val (.int p4), .val (.int p5), .val (.ref b1), .unset, .unset, .unset, .unset, .unset, .unset, .unset, .unset, .unset, .unset, .unset] [(.int (3 : Int32)), (.int (p2 &&& (2147483647 : Int32)))])) _
    refine iremM (g := (mkF m 52 #[.val (.int p1), .val (.int p2), .val (.int p3), .val (.int p4), .val (.int p5), .val (.ref b1), .unset, .unset, .unset, .unset, .unset, .unset, .unset, .unset, .unset, .unset, .unset] [(.int (3 : Int32)), (.int (p2 &&& (2147483647 : Int32)))])) X13 hx rfl (hb hby at_52) rfl (by decide) ?_
    show Steps p.tables e below (T13.setTop (mkF m 53 #[.val (.int p1), .val (.int p2), .val (.int p3), .val (.int p4), .val (.int p5), .val (.ref b1), .unset, .unset, .unset, .unset, .unset, .unset, .unset, .unset, .unset, .unset, .unset] [(.int ((p2 &&& (2147483647 : Int32)) % (3 : Int32)))])) _
    refine XS.istore X13.here hx rfl (hb hby at_53) rfl (l' := #[.val (.int p1), .val (.int p2), .val (.int p3), .val (.int p4), .val (.int p5), .val (.ref b1), .val (.int ((p2 &&& (2147483647 : Int32)) % (3 : Int32))), .unset, .unset, .unset, .unset, .unset, .unset, .unset, .unset, .unset, .unset]) rfl ?_
    exact k
  obtain ⟨xa, e_xa⟩ : ∃ v, v = ((p2 &&& (2147483647 : Int32)) % (3 : Int32)) := ⟨_, rfl⟩
  rw [← e_xa] at pre15
  have t_xa : xa = (0 : Int32) ∨ xa = (1 : Int32) ∨ xa = (2 : Int32) := by rw [e_xa]; exact own_mod3 p2
  have pre16 : ∀ t, Steps p.tables e below (T13.setTop (mkF m 63 #[.val (.int p1), .val (.int p2), .val (.int p3), .val (.int p4), .val (.int p5), .val (.ref b1), .val (.int xa), .val (.int ((p3 &&& (2147483647 : Int32)) % (3 : Int32))), .unset, .unset, .unset, .unset, .unset, .unset, .unset, .unset, .unset] [])) t → Steps p.tables e below S0 t := by
    intro t k
    refine pre15 t ?_
    show Steps p.tables e below (T13.setTop (mkF m 55 #[.val (.int p1), .val (.int p2), .val (.int p3), .val (.int p4), .val (.int p5), .val (.ref b1), .val (.int xa), .unset, .unset, .unset, .unset, .unset, .unset, .unset, .unset, .unset, .unset] [])) _
    refine XS.iloadN X13.here hx rfl (hb hby at_55) rfl ?_
    show Steps p.tables e below (T13.setTop (mkF m 56 #[.val (.int p1), .val (.int p2), .val (.int p3), .val (.int p4), .val (.int p5), .val (.ref b1), .val (.int xa), .unset, .unset, .unset, .unset, .unset, .unset, .unset, .unset, .unset, .unset] [(.int p3)])) _
    refine X13.ldcInt hx hown (mvT hZ (hw _ (List.mem_of_getElem? (i := 1) rfl))) (g := (mkF m 56 #[.val (.int p1), .val (.int p2), .val (.int p3), .val (.int p4), .val (.int p5), .val (.ref b1), .val (.int xa), .unset, .unset, .unset, .unset, .unset, .unset, .unset, .unset, .unset, .unset] [(.int p3)])) rfl (hb hby at_56) _ ?_
    show Steps p.tables e below (T13.setTop (mkF m 58 #[.val (.int p1), .val (.int p2), .val (.int p3), .val (.int p4), .val (.int p5), .val (.ref b1), .val (.int xa), .unset, .unset, .unset, .unset, .unset, .unset, .unset, .unset, .unset, .unset] [(.int (2147483647 : Int32)), (.int p3)])) _
    refine XS.iand X13.here hx rfl (hb hby at_58) rfl ?_
    show Steps p.tables e below (T13.setTop (mkF m 59 #[.val (.int p1), .val (.int p2), .val (.int p3), .val (.int p4), .val (.int p5), .val (.ref b1), .val (.int xa), .unset, .unset, .unset, .unset, .unset, .unset, .unset, .unset, .unset, .unset] [(.int (p3 &&& (2147483647 : Int32)))])) _
    refine XS.iconst X13.here hx rfl (hb hby at_59) ?_
    show Steps p.tables e below (T13.setTop (mkF m 60 #[.val (.int p1), .val (.int p2), .val (.int p3), .val (.int p4), .val (.int p5), .val (.ref b1), .val (.int xa), .unset, .unset, .unset, .unset, .unset, .unset, .unset, .unset, .unset, .unset] [(.int (3 : Int32)), (.int (p3 &&& (2147483647 : Int32)))])) _
    refine iremM (g := (mkF m 60 #[.val (.int p1), .val (.int p2), .val (.int p3), .val (.int p4), .val (.int p5), .val (.ref b1), .val (.int xa), .unset, .unset, .unset, .unset, .unset, .unset, .unset, .unset, .unset, .unset] [(.int (3 : Int32)), (.int (p3 &&& (2147483647 : Int32)))])) X13 hx rfl (hb hby at_60) rfl (by decide) ?_
    show Steps p.tables e below (T13.setTop (mkF m 61 #[.val (.int p1), .val (.int p2), .val (.int p3), .val (.int p4), .val (.int p5), .val (.ref b1), .val (.int xa), .unset, .unset, .unset, .unset, .unset, .unset, .unset, .unset, .unset, .unset] [(.int ((p3 &&& (2147483647 : Int32)) % (3 : Int32)))])) _
    refine XS.istore X13.here hx rfl (hb hby at_61) rfl (l' := #[.val (.int p1), .val (.int p2), .val (.int p3), .val (.int p4), .val (.int p5), .val (.ref b1), .val (.int xa), .val (.int ((p3 &&& (2147483647 : Int32)) % (3 : Int32))), .unset, .unset, .unset, .unset, .unset, .unset, .unset, .unset, .unset]) rfl ?_
    exact k
  obtain ⟨xb, e_xb⟩ : ∃ v, v = ((p3 &&& (2147483647 : Int32)) % (3 : Int32)) := ⟨_, rfl⟩
  rw [← e_xb] at pre16
  have t_xb : xb = (0 : Int32) ∨ xb = (1 : Int32) ∨ xb = (2 : Int32) := by rw [e_xb]; exact own_mod3 p3
  have pre17 : ∀ t, Steps p.tables e below (T13.setTop (mkF m 71 #[.val (.int p1), .val (.int p2), .val (.int p3), .val (.int p4), .val (.int p5), .val (.ref b1), .val (.int xa), .val (.int xb), .val (.int ((p4 &&& (2147483647 : Int32)) % (3 : Int32))), .unset, .unset, .unset, .unset, .unset, .unset, .unset, .unset] [])) t → Steps p.tables e below S0 t := by
    intro t k
    refine pre16 t ?_
    show Steps p.tables e below (T13.setTop (mkF m 63 #[.val (.int p1), .val (.int p2), .val (.int p3), .val (.int p4), .val (.int p5), .val (.ref b1), .val (.int xa), .val (.int xb), .unset, .unset, .unset, .unset, .unset, .unset, .unset, .unset, .unset] [])) _
    refine XS.iloadN X13.here hx rfl (hb hby at_63) rfl ?_
    show Steps p.tables e below (T13.setTop (mkF m 64 #[.val (.int p1), .val (.int p2), .val (.int p3), .val (.int p4), .val (.int p5), .val (.ref b1), .val (.int xa), .val (.int xb), .unset, .unset, .unset, .unset, .unset, .unset, .unset, .unset, .unset] [(.int p4)])) _
    refine X13.ldcInt hx hown (mvT hZ (hw _ (List.mem_of_getElem? (i := 1) rfl))) (g := (mkF m 64 #[.val (.int p1), .val (.int p2), .val (.int p3), .val (.int p4), .val (.int p5), .val (.ref b1), .val (.int xa), .val (.int xb), .unset, .unset, .unset, .unset, .unset, .unset, .unset, .unset, .unset] [(.int p4)])) rfl (hb hby at_64) _ ?_
    show Steps p.tables e below (T13.setTop (mkF m 66 #[.val (.int p1), .val (.int p2), .val (.int p3), .val (.int p4), .val (.int p5), .val (.ref b1), .val (.int xa), .val (.int xb), .unset, .unset, .unset, .unset, .unset, .unset, .unset, .unset, .unset] [(.int (2147483647 : Int32)), (.int p4)])) _
    refine XS.iand X13.here hx rfl (hb hby at_66) rfl ?_
    show Steps p.tables e below (T13.setTop (mkF m 67 #[.val (.int p1), .val (.int p2), .val (.int p3), .val (.int p4), .val (.int p5), .val (.ref b1), .val (.int xa), .val (.int xb), .unset, .unset, .unset, .unset, .unset, .unset, .unset, .unset, .unset] [(.int (p4 &&& (2147483647 : Int32)))])) _
    refine XS.iconst X13.here hx rfl (hb hby at_67) ?_
    show Steps p.tables e below (T13.setTop (mkF m 68 #[.val (.int p1), .val (.int p2), .val (.int p3), .val (.int p4), .val (.int p5), .val (.ref b1), .val (.int xa), .val (.int xb), .unset, .unset, .unset, .unset, .unset, .unset, .unset, .unset, .unset] [(.int (3 : Int32)), (.int (p4 &&& (2147483647 : Int32)))])) _
    refine iremM (g := (mkF m 68 #[.val (.int p1), .val (.int p2), .val (.int p3), .val (.int p4), .val (.int p5), .val (.ref b1), .val (.int xa), .val (.int xb), .unset, .unset, .unset, .unset, .unset, .unset, .unset, .unset, .unset] [(.int (3 : Int32)), (.int (p4 &&& (2147483647 : Int32)))])) X13 hx rfl (hb hby at_68) rfl (by decide) ?_
    show Steps p.tables e below (T13.setTop (mkF m 69 #[.val (.int p1), .val (.int p2), .val (.int p3), .val (.int p4), .val (.int p5), .val (.ref b1), .val (.int xa), .val (.int xb), .unset, .unset, .unset, .unset, .unset, .unset, .unset, .unset, .unset] [(.int ((p4 &&& (2147483647 : Int32)) % (3 : Int32)))])) _
    refine XS.istore X13.here hx rfl (hb hby at_69) rfl (l' := #[.val (.int p1), .val (.int p2), .val (.int p3), .val (.int p4), .val (.int p5), .val (.ref b1), .val (.int xa), .val (.int xb), .val (.int ((p4 &&& (2147483647 : Int32)) % (3 : Int32))), .unset, .unset, .unset, .unset, .unset, .unset, .unset, .unset]) rfl ?_
    exact k
  obtain ⟨xc, e_xc⟩ : ∃ v, v = ((p4 &&& (2147483647 : Int32)) % (3 : Int32)) := ⟨_, rfl⟩
  rw [← e_xc] at pre17
  have t_xc : xc = (0 : Int32) ∨ xc = (1 : Int32) ∨ xc = (2 : Int32) := by rw [e_xc]; exact own_mod3 p4
  have pre18 : ∀ t, Steps p.tables e below (T13.setTop (mkF m 80 #[.val (.int p1), .val (.int p2), .val (.int p3), .val (.int p4), .val (.int p5), .val (.ref b1), .val (.int xa), .val (.int xb), .val (.int xc), .val (.int ((p5 &&& (2147483647 : Int32)) % (3 : Int32))), .unset, .unset, .unset, .unset, .unset, .unset, .unset] [])) t → Steps p.tables e below S0 t := by
    intro t k
    refine pre17 t ?_
    show Steps p.tables e below (T13.setTop (mkF m 71 #[.val (.int p1), .val (.int p2), .val (.int p3), .val (.int p4), .val (.int p5), .val (.ref b1), .val (.int xa), .val (.int xb), .val (.int xc), .unset, .unset, .unset, .unset, .unset, .unset, .unset, .unset] [])) _
    refine XS.iload X13.here hx rfl (hb hby at_71) rfl ?_
    show Steps p.tables e below (T13.setTop (mkF m 73 #[.val (.int p1), .val (.int p2), .val (.int p3), .val (.int p4), .val (.int p5), .val (.ref b1), .val (.int xa), .val (.int xb), .val (.int xc), .unset, .unset, .unset, .unset, .unset, .unset, .unset, .unset] [(.int p5)])) _
    refine X13.ldcInt hx hown (mvT hZ (hw _ (List.mem_of_getElem? (i := 1) rfl))) (g := (mkF m 73 #[.val (.int p1), .val (.int p2), .val (.int p3), .val (.int p4), .val (.int p5), .val (.ref b1), .val (.int xa), .val (.int xb), .val (.int xc), .unset, .unset, .unset, .unset, .unset, .unset, .unset, .unset] [(.int p5)])) rfl (hb hby at_73) _ ?_
    show Steps p.tables e below (T13.setTop (mkF m 75 #[.val (.int p1), .val (.int p2), .val (.int p3), .val (.int p4), .val (.int p5), .val (.ref b1), .val (.int xa), .val (.int xb), .val (.int xc), .unset, .unset, .unset, .unset, .unset, .unset, .unset, .unset] [(.int (2147483647 : Int32)), (.int p5)])) _
    refine XS.iand X13.here hx rfl (hb hby at_75) rfl ?_
    show Steps p.tables e below (T13.setTop (mkF m 76 #[.val (.int p1), .val (.int p2), .val (.int p3), .val (.int p4), .val (.int p5), .val (.ref b1), .val (.int xa), .val (.int xb), .val (.int xc), .unset, .unset, .unset, .unset, .unset, .unset, .unset, .unset] [(.int (p5 &&& (2147483647 : Int32)))])) _
    refine XS.iconst X13.here hx rfl (hb hby at_76) ?_
    show Steps p.tables e below (T13.setTop (mkF m 77 #[.val (.int p1), .val (.int p2), .val (.int p3), .val (.int p4), .val (.int p5), .val (.ref b1), .val (.int xa), .val (.int xb), .val (.int xc), .unset, .unset, .unset, .unset, .unset, .unset, .unset, .unset] [(.int (3 : Int32)), (.int (p5 &&& (2147483647 : Int32)))])) _
    refine iremM (g := (mkF m 77 #[.val (.int p1), .val (.int p2), .val (.int p3), .val (.int p4), .val (.int p5), .val (.ref b1), .val (.int xa), .val (.int xb), .val (.int xc), .unset, .unset, .unset, .unset, .unset, .unset, .unset, .unset] [(.int (3 : Int32)), (.int (p5 &&& (2147483647 : Int32)))])) X13 hx rfl (hb hby at_77) rfl (by decide) ?_
    show Steps p.tables e below (T13.setTop (mkF m 78 #[.val (.int p1), .val (.int p2), .val (.int p3), .val (.int p4), .val (.int p5), .val (.ref b1), .val (.int xa), .val (.int xb), .val (.int xc), .unset, .unset, .unset, .unset, .unset, .unset, .unset, .unset] [(.int ((p5 &&& (2147483647 : Int32)) % (3 : Int32)))])) _
    refine XS.istore X13.here hx rfl (hb hby at_78) rfl (l' := #[.val (.int p1), .val (.int p2), .val (.int p3), .val (.int p4), .val (.int p5), .val (.ref b1), .val (.int xa), .val (.int xb), .val (.int xc), .val (.int ((p5 &&& (2147483647 : Int32)) % (3 : Int32))), .unset, .unset, .unset, .unset, .unset, .unset, .unset]) rfl ?_
    exact k
  obtain ⟨xd, e_xd⟩ : ∃ v, v = ((p5 &&& (2147483647 : Int32)) % (3 : Int32)) := ⟨_, rfl⟩
  rw [← e_xd] at pre18
  have t_xd : xd = (0 : Int32) ∨ xd = (1 : Int32) ∨ xd = (2 : Int32) := by rw [e_xd]; exact own_mod3 p5
  obtain ⟨lE1, lE2, q_e1, q_ok1, q_y, q_n, q_a1, q_a2, q_t3, q_g3, q_a4, q_a5, q_t6, q_g6, q_m6, q_r⟩ := own_fine_e (own_all_e hy0 hy1 hy2 t_xa t_xb t_xc t_xd)
  obtain ⟨_, _, ⟨T19, L19, k19, n19⟩, -, X19, ⟨Lc19, hQ19, l19, y19, z19⟩, st19⟩ := Jvm.LawKit.callS X13 hx (y := (⟨"com/example/contrepoint/contrepoint/IndexQueueAddPinLaw", "expected", "(IIII[Z)[I"⟩ : MethodName)) hown (mvT hZ (hw _ (List.mem_of_getElem? (i := 2) rfl))) (mvT hZ (hw _ (List.mem_of_getElem? (i := 3) rfl))) (mvT hZ (hw _ (List.mem_of_getElem? (i := 4) rfl))) (mvT hZ (hw _ (List.mem_of_getElem? (i := 5) rfl))) (by decide) (backOf (W := 0) (rmE l Z a0 hw [] (2 : Int32) xa xb (0 : Int32) b1 k1 [y0, y1, y2] h13 n0 (Nat.le_trans Z0 K14.1) Vn13 q_ok1) hZ (hw _ (List.mem_of_getElem? (i := 5) rfl)) (hw _ (List.mem_of_getElem? (i := 4) rfl)) (by decide) (by decide)) (g := (mkF m 88 #[.val (.int p1), .val (.int p2), .val (.int p3), .val (.int p4), .val (.int p5), .val (.ref b1), .val (.int xa), .val (.int xb), .val (.int xc), .val (.int xd), .unset, .unset, .unset, .unset, .unset, .unset, .unset] [(.ref b1), (.int (0 : Int32)), (.int xb), (.int xa), (.int (2 : Int32))])) rfl (by rw [hml]; rfl) (argsL := [(.int (2 : Int32)), (.int xa), (.int xb), (.int (0 : Int32)), (.ref b1)]) (rest := []) (lenOf pd_0 rfl) rfl (by show 2 * 0 + _ ≤ _; exact Nat.le_of_eq rfl) (hb hby at_88) (fun _ _ => ⟨rfl, e13, (by decide : 1 + 2 ≤ _), (by decide : 3 + 7 ≤ _)⟩)
  dsimp only [Pt.U, Pt.locs, Pt.cells, Pt.slots] at X19 l19 y19 z19 st19 hQ19
  subst l19 y19 z19
  obtain ⟨r19, rfl, N19q, K19, sz19, kr19, V19⟩ := hQ19
  have N19 := Fr.app N13 N19q
  have K20 : Keep h0 T19.heap [] := K14.trans K19 all0
  rw [q_e1] at V19
  obtain ⟨cl21, Arcl21, qcl21, Scl21, Ncl21, Hcl21, Gcl21⟩ := id V19
  have hincl21 : ¬ ((0 : Int32) < 0 ∨ cl21.slots.size ≤ ((0 : Int32)).toNatClampNeg) := inb_of Scl21 ⟨by decide, by decide⟩
  have hatcl21 : cl21.slots[((0 : Int32)).toNatClampNeg]? = some (.int (lE1.getD 0 0)) := Hcl21.at hincl21 (own_gm lE1 0)
  have pre22 : ∀ t, Steps p.tables e below (T19.setTop (mkF m 98 #[.val (.int p1), .val (.int p2), .val (.int p3), .val (.int p4), .val (.int p5), .val (.ref b1), .val (.int xa), .val (.int xb), .val (.int xc), .val (.int xd), .val (.ref r19), .unset, .unset, .unset, .unset, .unset, .unset] [(.int (2 : Int32)), (.int (lE1.getD 0 0))])) t → Steps p.tables e below S0 t := by
    intro t k
    refine pre18 t ?_
    show Steps p.tables e below (T13.setTop (mkF m 80 #[.val (.int p1), .val (.int p2), .val (.int p3), .val (.int p4), .val (.int p5), .val (.ref b1), .val (.int xa), .val (.int xb), .val (.int xc), .val (.int xd), .unset, .unset, .unset, .unset, .unset, .unset, .unset] [])) _
    refine XS.iconst X13.here hx rfl (hb hby at_80) ?_
    show Steps p.tables e below (T13.setTop (mkF m 81 #[.val (.int p1), .val (.int p2), .val (.int p3), .val (.int p4), .val (.int p5), .val (.ref b1), .val (.int xa), .val (.int xb), .val (.int xc), .val (.int xd), .unset, .unset, .unset, .unset, .unset, .unset, .unset] [(.int (2 : Int32))])) _
    refine XS.iload X13.here hx rfl (hb hby at_81) rfl ?_
    show Steps p.tables e below (T13.setTop (mkF m 83 #[.val (.int p1), .val (.int p2), .val (.int p3), .val (.int p4), .val (.int p5), .val (.ref b1), .val (.int xa), .val (.int xb), .val (.int xc), .val (.int xd), .unset, .unset, .unset, .unset, .unset, .unset, .unset] [(.int xa), (.int (2 : Int32))])) _
    refine XS.iload X13.here hx rfl (hb hby at_83) rfl ?_
    show Steps p.tables e below (T13.setTop (mkF m 85 #[.val (.int p1), .val (.int p2), .val (.int p3), .val (.int p4), .val (.int p5), .val (.ref b1), .val (.int xa), .val (.int xb), .val (.int xc), .val (.int xd), .unset, .unset, .unset, .unset, .unset, .unset, .unset] [(.int xb), (.int xa), (.int (2 : Int32))])) _
    refine XS.iconst X13.here hx rfl (hb hby at_85) ?_
    show Steps p.tables e below (T13.setTop (mkF m 86 #[.val (.int p1), .val (.int p2), .val (.int p3), .val (.int p4), .val (.int p5), .val (.ref b1), .val (.int xa), .val (.int xb), .val (.int xc), .val (.int xd), .unset, .unset, .unset, .unset, .unset, .unset, .unset] [(.int (0 : Int32)), (.int xb), (.int xa), (.int (2 : Int32))])) _
    refine XS.aload X13.here hx rfl (hb hby at_86) rfl rfl ?_
    show Steps p.tables e below (T13.setTop (mkF m 88 #[.val (.int p1), .val (.int p2), .val (.int p3), .val (.int p4), .val (.int p5), .val (.ref b1), .val (.int xa), .val (.int xb), .val (.int xc), .val (.int xd), .unset, .unset, .unset, .unset, .unset, .unset, .unset] [(.ref b1), (.int (0 : Int32)), (.int xb), (.int xa), (.int (2 : Int32))])) _
    refine st19 _ ?_
    show Steps p.tables e below (T19.setTop (mkF m 91 #[.val (.int p1), .val (.int p2), .val (.int p3), .val (.int p4), .val (.int p5), .val (.ref b1), .val (.int xa), .val (.int xb), .val (.int xc), .val (.int xd), .unset, .unset, .unset, .unset, .unset, .unset, .unset] [(.ref r19)])) _
    refine XS.astore X19.here hx rfl (hb hby at_91) rfl rfl (l' := #[.val (.int p1), .val (.int p2), .val (.int p3), .val (.int p4), .val (.int p5), .val (.ref b1), .val (.int xa), .val (.int xb), .val (.int xc), .val (.int xd), .val (.ref r19), .unset, .unset, .unset, .unset, .unset, .unset]) rfl ?_
    show Steps p.tables e below (T19.setTop (mkF m 93 #[.val (.int p1), .val (.int p2), .val (.int p3), .val (.int p4), .val (.int p5), .val (.ref b1), .val (.int xa), .val (.int xb), .val (.int xc), .val (.int xd), .val (.ref r19), .unset, .unset, .unset, .unset, .unset, .unset] [])) _
    refine XS.aload X19.here hx rfl (hb hby at_93) rfl rfl ?_
    show Steps p.tables e below (T19.setTop (mkF m 95 #[.val (.int p1), .val (.int p2), .val (.int p3), .val (.int p4), .val (.int p5), .val (.ref b1), .val (.int xa), .val (.int xb), .val (.int xc), .val (.int xd), .val (.ref r19), .unset, .unset, .unset, .unset, .unset, .unset] [(.ref r19)])) _
    refine XS.iconst X19.here hx rfl (hb hby at_95) ?_
    show Steps p.tables e below (T19.setTop (mkF m 96 #[.val (.int p1), .val (.int p2), .val (.int p3), .val (.int p4), .val (.int p5), .val (.ref b1), .val (.int xa), .val (.int xb), .val (.int xc), .val (.int xd), .val (.ref r19), .unset, .unset, .unset, .unset, .unset, .unset] [(.int (0 : Int32)), (.ref r19)])) _
    refine X19.iaload hx (j := (0 : Int32)) (v := (.int (lE1.getD 0 0))) Arcl21.1 (State.isArrayOf_alike hZ.alike Arcl21.2.1) Arcl21.2.2 hincl21 hatcl21 (g := (mkF m 96 #[.val (.int p1), .val (.int p2), .val (.int p3), .val (.int p4), .val (.int p5), .val (.ref b1), .val (.int xa), .val (.int xb), .val (.int xc), .val (.int xd), .val (.ref r19), .unset, .unset, .unset, .unset, .unset, .unset] [(.int (0 : Int32)), (.ref r19)])) rfl rfl (hb hby at_96) _ ?_
    show Steps p.tables e below (T19.setTop (mkF m 97 #[.val (.int p1), .val (.int p2), .val (.int p3), .val (.int p4), .val (.int p5), .val (.ref b1), .val (.int xa), .val (.int xb), .val (.int xc), .val (.int xd), .val (.ref r19), .unset, .unset, .unset, .unset, .unset, .unset] [(.int (lE1.getD 0 0))])) _
    refine XS.iconst X19.here hx rfl (hb hby at_97) ?_
    exact k
  obtain ⟨T_j, h_j, L_j, r2, kr2, X_j, e_j, N_j, K_j, V0_j, V1_j, V2_j, V3_j, r_j, pre_j⟩ : ∃ (T' : State) (h' : Heap) (L' : List Loc) (r2 : Addr) (kr2 : ClassId), Stand p l e room_1 s m #[(.int p1), (.int p2), (.int p3), (.int p4), (.int p5)] below meth c T' L' 5 17 ∧ T'.heap = h' ∧ Fr n0 L' ∧ Keep h0 h' [] ∧ Arv Z h' b1 k1 .boolean (3 : Int32) [(.int y0), (.int y1), (.int y2)] (.int (0 : Int32)) ∧ Exa Z h' b1 "[Z" ∧ Arv Z h' r19 kr19 .int (4 : Int32) (lE1.map Value.int) (.int (0 : Int32)) ∧ Arv Z h' r2 kr2 .int (4 : Int32) (lE2.map Value.int) (.int (0 : Int32)) ∧ True ∧ ∀ t, Steps p.tables e below (T'.setTop (mkF m 133 #[.val (.int p1), .val (.int p2), .val (.int p3), .val (.int p4), .val (.int p5), .val (.ref b1), .val (.int xa), .val (.int xb), .val (.int xc), .val (.int xd), .val (.ref r19), .val (.ref r2), .unset, .unset, .unset, .unset, .unset] [])) t → Steps p.tables e below S0 t := by
    by_cases h2 : lE1.getD 0 0 = (2 : Int32)
    · obtain ⟨cl23, Arcl23, qcl23, Scl23, Ncl23, Hcl23, Gcl23⟩ := id V19
      have hincl23 : ¬ ((2 : Int32) < 0 ∨ cl23.slots.size ≤ ((2 : Int32)).toNatClampNeg) := inb_of Scl23 ⟨by decide, by decide⟩
      have hatcl23 : cl23.slots[((2 : Int32)).toNatClampNeg]? = some (.int (lE1.getD 2 0)) := Hcl23.at hincl23 (own_gm lE1 2)
      have f_24 := (Vn13.keep K19 nin0)
      obtain ⟨_, _, ⟨T25, L25, k25, n25⟩, -, X25, ⟨Lc25, hQ25, l25, y25, z25⟩, st25⟩ := Jvm.LawKit.callS X19 hx (y := (⟨"com/example/contrepoint/contrepoint/IndexQueueAddPinLaw", "expected", "(IIII[Z)[I"⟩ : MethodName)) hown (mvT hZ (hw _ (List.mem_of_getElem? (i := 2) rfl))) (mvT hZ (hw _ (List.mem_of_getElem? (i := 3) rfl))) (mvT hZ (hw _ (List.mem_of_getElem? (i := 4) rfl))) (mvT hZ (hw _ (List.mem_of_getElem? (i := 5) rfl))) (by decide) (backOf (W := 0) (rmE l Z a0 hw [] (3 : Int32) (lE1.getD 2 0) xc xd b1 k1 [y0, y1, y2] T19.heap n0 (Nat.le_trans Z0 K20.1) f_24 (q_y h2).1) hZ (hw _ (List.mem_of_getElem? (i := 5) rfl)) (hw _ (List.mem_of_getElem? (i := 4) rfl)) (by decide) (by decide)) (g := (mkF m 112 #[.val (.int p1), .val (.int p2), .val (.int p3), .val (.int p4), .val (.int p5), .val (.ref b1), .val (.int xa), .val (.int xb), .val (.int xc), .val (.int xd), .val (.ref r19), .unset, .unset, .unset, .unset, .unset, .unset] [(.ref b1), (.int xd), (.int xc), (.int (lE1.getD 2 0)), (.int (3 : Int32))])) rfl (by rw [hml]; rfl) (argsL := [(.int (3 : Int32)), (.int (lE1.getD 2 0)), (.int xc), (.int xd), (.ref b1)]) (rest := []) (lenOf pd_0 rfl) rfl (by show 2 * 0 + _ ≤ _; exact Nat.le_of_eq rfl) (hb hby at_112) (fun _ _ => ⟨rfl, rfl, (by decide : 3 + 2 ≤ _), (by decide : 10 + 7 ≤ _)⟩)
      dsimp only [Pt.U, Pt.locs, Pt.cells, Pt.slots] at X25 l25 y25 z25 st25 hQ25
      subst l25 y25 z25
      obtain ⟨r25, rfl, N25q, K25, sz25, kr25, V25⟩ := hQ25
      have N25 := Fr.app N19 N25q
      have K26 : Keep h0 T25.heap [] := K20.trans K25 all0
      rw [(q_y h2).2] at V25
      have f_27 := (f_24.keep K25 nin0)
      have f_28 := (((((Ex1.wr W5).wr W9).wr W13).keep K19).keep K25)
      have f_29 := (V19.keep K25 nin0)
      have pre30 : ∀ t, Steps p.tables e below (T25.setTop (mkF m 133 #[.val (.int p1), .val (.int p2), .val (.int p3), .val (.int p4), .val (.int p5), .val (.ref b1), .val (.int xa), .val (.int xb), .val (.int xc), .val (.int xd), .val (.ref r19), .val (.ref r25), .unset, .unset, .unset, .unset, .unset] [])) t → Steps p.tables e below S0 t := by
        intro t k
        refine pre22 t ?_
        show Steps p.tables e below (T19.setTop (mkF m 98 #[.val (.int p1), .val (.int p2), .val (.int p3), .val (.int p4), .val (.int p5), .val (.ref b1), .val (.int xa), .val (.int xb), .val (.int xc), .val (.int xd), .val (.ref r19), .unset, .unset, .unset, .unset, .unset, .unset] [(.int (2 : Int32)), (.int (lE1.getD 0 0))])) _
        refine XS.icmpNo X19.here hx rfl (hb hby at_98) rfl (teq h2).2 ?_
        show Steps p.tables e below (T19.setTop (mkF m 101 #[.val (.int p1), .val (.int p2), .val (.int p3), .val (.int p4), .val (.int p5), .val (.ref b1), .val (.int xa), .val (.int xb), .val (.int xc), .val (.int xd), .val (.ref r19), .unset, .unset, .unset, .unset, .unset, .unset] [])) _
        refine XS.iconst X19.here hx rfl (hb hby at_101) ?_
        show Steps p.tables e below (T19.setTop (mkF m 102 #[.val (.int p1), .val (.int p2), .val (.int p3), .val (.int p4), .val (.int p5), .val (.ref b1), .val (.int xa), .val (.int xb), .val (.int xc), .val (.int xd), .val (.ref r19), .unset, .unset, .unset, .unset, .unset, .unset] [(.int (3 : Int32))])) _
        refine XS.aload X19.here hx rfl (hb hby at_102) rfl rfl ?_
        show Steps p.tables e below (T19.setTop (mkF m 104 #[.val (.int p1), .val (.int p2), .val (.int p3), .val (.int p4), .val (.int p5), .val (.ref b1), .val (.int xa), .val (.int xb), .val (.int xc), .val (.int xd), .val (.ref r19), .unset, .unset, .unset, .unset, .unset, .unset] [(.ref r19), (.int (3 : Int32))])) _
        refine XS.iconst X19.here hx rfl (hb hby at_104) ?_
        show Steps p.tables e below (T19.setTop (mkF m 105 #[.val (.int p1), .val (.int p2), .val (.int p3), .val (.int p4), .val (.int p5), .val (.ref b1), .val (.int xa), .val (.int xb), .val (.int xc), .val (.int xd), .val (.ref r19), .unset, .unset, .unset, .unset, .unset, .unset] [(.int (2 : Int32)), (.ref r19), (.int (3 : Int32))])) _
        refine X19.iaload hx (j := (2 : Int32)) (v := (.int (lE1.getD 2 0))) Arcl23.1 (State.isArrayOf_alike hZ.alike Arcl23.2.1) Arcl23.2.2 hincl23 hatcl23 (g := (mkF m 105 #[.val (.int p1), .val (.int p2), .val (.int p3), .val (.int p4), .val (.int p5), .val (.ref b1), .val (.int xa), .val (.int xb), .val (.int xc), .val (.int xd), .val (.ref r19), .unset, .unset, .unset, .unset, .unset, .unset] [(.int (2 : Int32)), (.ref r19), (.int (3 : Int32))])) rfl rfl (hb hby at_105) _ ?_
        show Steps p.tables e below (T19.setTop (mkF m 106 #[.val (.int p1), .val (.int p2), .val (.int p3), .val (.int p4), .val (.int p5), .val (.ref b1), .val (.int xa), .val (.int xb), .val (.int xc), .val (.int xd), .val (.ref r19), .unset, .unset, .unset, .unset, .unset, .unset] [(.int (lE1.getD 2 0)), (.int (3 : Int32))])) _
        refine XS.iload X19.here hx rfl (hb hby at_106) rfl ?_
        show Steps p.tables e below (T19.setTop (mkF m 108 #[.val (.int p1), .val (.int p2), .val (.int p3), .val (.int p4), .val (.int p5), .val (.ref b1), .val (.int xa), .val (.int xb), .val (.int xc), .val (.int xd), .val (.ref r19), .unset, .unset, .unset, .unset, .unset, .unset] [(.int xc), (.int (lE1.getD 2 0)), (.int (3 : Int32))])) _
        refine XS.iload X19.here hx rfl (hb hby at_108) rfl ?_
        show Steps p.tables e below (T19.setTop (mkF m 110 #[.val (.int p1), .val (.int p2), .val (.int p3), .val (.int p4), .val (.int p5), .val (.ref b1), .val (.int xa), .val (.int xb), .val (.int xc), .val (.int xd), .val (.ref r19), .unset, .unset, .unset, .unset, .unset, .unset] [(.int xd), (.int xc), (.int (lE1.getD 2 0)), (.int (3 : Int32))])) _
        refine XS.aload X19.here hx rfl (hb hby at_110) rfl rfl ?_
        show Steps p.tables e below (T19.setTop (mkF m 112 #[.val (.int p1), .val (.int p2), .val (.int p3), .val (.int p4), .val (.int p5), .val (.ref b1), .val (.int xa), .val (.int xb), .val (.int xc), .val (.int xd), .val (.ref r19), .unset, .unset, .unset, .unset, .unset, .unset] [(.ref b1), (.int xd), (.int xc), (.int (lE1.getD 2 0)), (.int (3 : Int32))])) _
        refine st25 _ ?_
        show Steps p.tables e below (T25.setTop (mkF m 115 #[.val (.int p1), .val (.int p2), .val (.int p3), .val (.int p4), .val (.int p5), .val (.ref b1), .val (.int xa), .val (.int xb), .val (.int xc), .val (.int xd), .val (.ref r19), .unset, .unset, .unset, .unset, .unset, .unset] [(.ref r25)])) _
        refine XS.astore X25.here hx rfl (hb hby at_115) rfl rfl (l' := #[.val (.int p1), .val (.int p2), .val (.int p3), .val (.int p4), .val (.int p5), .val (.ref b1), .val (.int xa), .val (.int xb), .val (.int xc), .val (.int xd), .val (.ref r19), .val (.ref r25), .unset, .unset, .unset, .unset, .unset]) rfl ?_
        show Steps p.tables e below (T25.setTop (mkF m 117 #[.val (.int p1), .val (.int p2), .val (.int p3), .val (.int p4), .val (.int p5), .val (.ref b1), .val (.int xa), .val (.int xb), .val (.int xc), .val (.int xd), .val (.ref r19), .val (.ref r25), .unset, .unset, .unset, .unset, .unset] [])) _
        refine XS.goto X25.here hx rfl (pc0 := 117) (pc' := 133) rfl (hb hby at_117) (by decide) (by decide) ?_
        exact k
      exact ⟨T25, T25.heap, _, r25, kr25, X25, rfl, N25, K26, f_27, f_28, f_29, V25, trivial, pre30⟩
    · have f_31 := (Vn13.keep K19 nin0)
      obtain ⟨_, _, ⟨T32, L32, k32, n32⟩, -, X32, ⟨Lc32, hQ32, l32, y32, z32⟩, st32⟩ := Jvm.LawKit.callS X19 hx (y := (⟨"com/example/contrepoint/contrepoint/IndexQueueAddPinLaw", "expected", "(IIII[Z)[I"⟩ : MethodName)) hown (mvT hZ (hw _ (List.mem_of_getElem? (i := 2) rfl))) (mvT hZ (hw _ (List.mem_of_getElem? (i := 3) rfl))) (mvT hZ (hw _ (List.mem_of_getElem? (i := 4) rfl))) (mvT hZ (hw _ (List.mem_of_getElem? (i := 5) rfl))) (by decide) (backOf (W := 0) (rmE l Z a0 hw [] (2 : Int32) xc xd (0 : Int32) b1 k1 [y0, y1, y2] T19.heap n0 (Nat.le_trans Z0 K20.1) f_31 (q_n h2).1) hZ (hw _ (List.mem_of_getElem? (i := 5) rfl)) (hw _ (List.mem_of_getElem? (i := 4) rfl)) (by decide) (by decide)) (g := (mkF m 128 #[.val (.int p1), .val (.int p2), .val (.int p3), .val (.int p4), .val (.int p5), .val (.ref b1), .val (.int xa), .val (.int xb), .val (.int xc), .val (.int xd), .val (.ref r19), .unset, .unset, .unset, .unset, .unset, .unset] [(.ref b1), (.int (0 : Int32)), (.int xd), (.int xc), (.int (2 : Int32))])) rfl (by rw [hml]; rfl) (argsL := [(.int (2 : Int32)), (.int xc), (.int xd), (.int (0 : Int32)), (.ref b1)]) (rest := []) (lenOf pd_0 rfl) rfl (by show 2 * 0 + _ ≤ _; exact Nat.le_of_eq rfl) (hb hby at_128) (fun _ _ => ⟨rfl, rfl, (by decide : 3 + 2 ≤ _), (by decide : 10 + 7 ≤ _)⟩)
      dsimp only [Pt.U, Pt.locs, Pt.cells, Pt.slots] at X32 l32 y32 z32 st32 hQ32
      subst l32 y32 z32
      obtain ⟨r32, rfl, N32q, K32, sz32, kr32, V32⟩ := hQ32
      have N32 := Fr.app N19 N32q
      have K33 : Keep h0 T32.heap [] := K20.trans K32 all0
      rw [(q_n h2).2] at V32
      have f_34 := (f_31.keep K32 nin0)
      have f_35 := (((((Ex1.wr W5).wr W9).wr W13).keep K19).keep K32)
      have f_36 := (V19.keep K32 nin0)
      have pre37 : ∀ t, Steps p.tables e below (T32.setTop (mkF m 133 #[.val (.int p1), .val (.int p2), .val (.int p3), .val (.int p4), .val (.int p5), .val (.ref b1), .val (.int xa), .val (.int xb), .val (.int xc), .val (.int xd), .val (.ref r19), .val (.ref r32), .unset, .unset, .unset, .unset, .unset] [])) t → Steps p.tables e below S0 t := by
        intro t k
        refine pre22 t ?_
        show Steps p.tables e below (T19.setTop (mkF m 98 #[.val (.int p1), .val (.int p2), .val (.int p3), .val (.int p4), .val (.int p5), .val (.ref b1), .val (.int xa), .val (.int xb), .val (.int xc), .val (.int xd), .val (.ref r19), .unset, .unset, .unset, .unset, .unset, .unset] [(.int (2 : Int32)), (.int (lE1.getD 0 0))])) _
        refine XS.icmpYes X19.here hx rfl (pc0 := 98) (pc' := 120) rfl (hb hby at_98) rfl (feq h2).2 (by decide) (by decide) ?_
        show Steps p.tables e below (T19.setTop (mkF m 120 #[.val (.int p1), .val (.int p2), .val (.int p3), .val (.int p4), .val (.int p5), .val (.ref b1), .val (.int xa), .val (.int xb), .val (.int xc), .val (.int xd), .val (.ref r19), .unset, .unset, .unset, .unset, .unset, .unset] [])) _
        refine XS.iconst X19.here hx rfl (hb hby at_120) ?_
        show Steps p.tables e below (T19.setTop (mkF m 121 #[.val (.int p1), .val (.int p2), .val (.int p3), .val (.int p4), .val (.int p5), .val (.ref b1), .val (.int xa), .val (.int xb), .val (.int xc), .val (.int xd), .val (.ref r19), .unset, .unset, .unset, .unset, .unset, .unset] [(.int (2 : Int32))])) _
        refine XS.iload X19.here hx rfl (hb hby at_121) rfl ?_
        show Steps p.tables e below (T19.setTop (mkF m 123 #[.val (.int p1), .val (.int p2), .val (.int p3), .val (.int p4), .val (.int p5), .val (.ref b1), .val (.int xa), .val (.int xb), .val (.int xc), .val (.int xd), .val (.ref r19), .unset, .unset, .unset, .unset, .unset, .unset] [(.int xc), (.int (2 : Int32))])) _
        refine XS.iload X19.here hx rfl (hb hby at_123) rfl ?_
        show Steps p.tables e below (T19.setTop (mkF m 125 #[.val (.int p1), .val (.int p2), .val (.int p3), .val (.int p4), .val (.int p5), .val (.ref b1), .val (.int xa), .val (.int xb), .val (.int xc), .val (.int xd), .val (.ref r19), .unset, .unset, .unset, .unset, .unset, .unset] [(.int xd), (.int xc), (.int (2 : Int32))])) _
        refine XS.iconst X19.here hx rfl (hb hby at_125) ?_
        show Steps p.tables e below (T19.setTop (mkF m 126 #[.val (.int p1), .val (.int p2), .val (.int p3), .val (.int p4), .val (.int p5), .val (.ref b1), .val (.int xa), .val (.int xb), .val (.int xc), .val (.int xd), .val (.ref r19), .unset, .unset, .unset, .unset, .unset, .unset] [(.int (0 : Int32)), (.int xd), (.int xc), (.int (2 : Int32))])) _
        refine XS.aload X19.here hx rfl (hb hby at_126) rfl rfl ?_
        show Steps p.tables e below (T19.setTop (mkF m 128 #[.val (.int p1), .val (.int p2), .val (.int p3), .val (.int p4), .val (.int p5), .val (.ref b1), .val (.int xa), .val (.int xb), .val (.int xc), .val (.int xd), .val (.ref r19), .unset, .unset, .unset, .unset, .unset, .unset] [(.ref b1), (.int (0 : Int32)), (.int xd), (.int xc), (.int (2 : Int32))])) _
        refine st32 _ ?_
        show Steps p.tables e below (T32.setTop (mkF m 131 #[.val (.int p1), .val (.int p2), .val (.int p3), .val (.int p4), .val (.int p5), .val (.ref b1), .val (.int xa), .val (.int xb), .val (.int xc), .val (.int xd), .val (.ref r19), .unset, .unset, .unset, .unset, .unset, .unset] [(.ref r32)])) _
        refine XS.astore X32.here hx rfl (hb hby at_131) rfl rfl (l' := #[.val (.int p1), .val (.int p2), .val (.int p3), .val (.int p4), .val (.int p5), .val (.ref b1), .val (.int xa), .val (.int xb), .val (.int xc), .val (.int xd), .val (.ref r19), .val (.ref r32), .unset, .unset, .unset, .unset, .unset]) rfl ?_
        exact k
      exact ⟨T32, T32.heap, _, r32, kr32, X32, rfl, N32, K33, f_34, f_35, f_36, V32, trivial, pre37⟩
  obtain ⟨T38, h38, X38, e38, E38, A38, D38, -, st38⟩ := newO X_j hx hZ hown (hw _ (List.mem_of_getElem? (i := 7) rfl)) (hw _ (List.mem_of_getElem? (i := 8) rfl)) (hw _ (List.mem_of_getElem? (i := 9) rfl)) e_j (g := (mkF m 133 #[.val (.int p1), .val (.int p2), .val (.int p3), .val (.int p4), .val (.int p5), .val (.ref b1), .val (.int xa), .val (.int xb), .val (.int xc), .val (.int xd), .val (.ref r19), .val (.ref r2), .unset, .unset, .unset, .unset, .unset] [])) rfl (hb hby at_133) (by decide) (by decide)
  obtain ⟨b38, g38⟩ : ∃ z, z = h_j.size := ⟨_, rfl⟩
  rw [← g38] at A38 D38 st38
  have gn_b38 : n0 ≤ b38 := Nat.le_trans (Nat.le_trans Z0 K_j.1) (Nat.le_of_eq g38.symm)
  have sz_b38 : h0.size ≤ b38 := Nat.le_trans K_j.1 (Nat.le_of_eq g38.symm)
  have K39 : Keep h0 h38 [] := K_j.ext E38
  have lt_b38 : b38 < h38.size := A38.lt
  have F_late_b38 : Fld Z h38 b38 "com/example/contrepoint/contrepoint/IndexQueue" "late" "[Z" .null := D38 (Or.inr (hw _ (List.mem_of_getElem? (i := 26) rfl))) (ty := (.array .boolean)) (by decide)
  have F_waiting_b38 : Fld Z h38 b38 "com/example/contrepoint/contrepoint/IndexQueue" "waiting" "[Z" .null := D38 (Or.inr (hw _ (List.mem_of_getElem? (i := 28) rfl))) (ty := (.array .boolean)) (by decide)
  have F_rings_b38 : Fld Z h38 b38 "com/example/contrepoint/contrepoint/IndexQueue" "rings" "[[I" .null := D38 (Or.inr (hw _ (List.mem_of_getElem? (i := 33) rfl))) (ty := (.array (.array .int))) (by decide)
  have F_firsts_b38 : Fld Z h38 b38 "com/example/contrepoint/contrepoint/IndexQueue" "firsts" "[I" .null := D38 (Or.inr (hw _ (List.mem_of_getElem? (i := 35) rfl))) (ty := (.array .int)) (by decide)
  have F_counts_b38 : Fld Z h38 b38 "com/example/contrepoint/contrepoint/IndexQueue" "counts" "[I" .null := D38 (Or.inr (hw _ (List.mem_of_getElem? (i := 37) rfl))) (ty := (.array .int)) (by decide)
  have lq_b1 : b1 < b38 := Nat.lt_of_lt_of_le V0_j.lt (Nat.le_of_eq g38.symm)
  have lq_r19 : r19 < b38 := Nat.lt_of_lt_of_le V2_j.lt (Nat.le_of_eq g38.symm)
  have lq_r2 : r2 < b38 := Nat.lt_of_lt_of_le V3_j.lt (Nat.le_of_eq g38.symm)
  have ltq := lt_b38
  have f_40 := (V0_j.ext E38)
  have f_41 := (V1_j.ext E38)
  obtain ⟨_, _, ⟨T42, L42, k42, n42⟩, -, X42, ⟨Lc42, hQ42, l42, y42, z42⟩, st42⟩ := X38.specialBack hx (y := (⟨"com/example/contrepoint/contrepoint/IndexQueue", "<init>", "([Z)V"⟩ : MethodName)) rfl hown (mvT hZ (hw _ (List.mem_of_getElem? (i := 10) rfl))) (mvT hZ (hw _ (List.mem_of_getElem? (i := 11) rfl))) (mvT hZ (hw _ (List.mem_of_getElem? (i := 12) rfl))) (by decide) (backOf (W := 1) (rmC l Z a0 hw [] b38 b1 k1 [y0, y1, y2] h38 n0 (Nat.le_trans Z0 K39.1) A38 gn_b38 F_late_b38 F_waiting_b38 F_rings_b38 F_firsts_b38 F_counts_b38 f_40 f_41) hZ (hw _ (List.mem_of_getElem? (i := 12) rfl)) (hw _ (List.mem_of_getElem? (i := 9) rfl)) (by decide) (by decide)) (g := (mkF m 139 #[.val (.int p1), .val (.int p2), .val (.int p3), .val (.int p4), .val (.int p5), .val (.ref b1), .val (.int xa), .val (.int xb), .val (.int xc), .val (.int xd), .val (.ref r19), .val (.ref r2), .unset, .unset, .unset, .unset, .unset] [(.ref b1), (.ref b38), (.ref b38)])) rfl (by rw [hml]; rfl) (Steps.refl _) (a := b38) (argsL := [(.ref b1)]) (rest := [(.ref b38)]) (lenOf pd_1 rfl) rfl (by show 2 * 0 + _ ≤ _; exact Nat.le_of_eq rfl) (hb hby at_139) (fun _ _ => ⟨rfl, e38, (by decide : 6 + 7 ≤ _), (by decide : 22 + 18 ≤ _)⟩)
  dsimp only [Pt.U, Pt.locs, Pt.cells, Pt.slots] at X42 l42 y42 z42 st42 hQ42
  subst l42 y42 z42
  obtain ⟨bl, bw, br, r0, r1, bf, bc, rfl, N42q, K42, sz42, od42, QI42⟩ := hQ42
  have N42 := Fr.app N_j N42q
  have K43 : Keep h0 T42.heap [] := K39.trans K42 (allS (Or.inr sz_b38) all0)
  obtain ⟨od1, od2, od3, od4, od5, od6, od7⟩ := id od42
  have od1 : @LT.lt Nat _ b38 bl := od1
  have od2 : @LT.lt Nat _ bl bw := od2
  have od3 : @LT.lt Nat _ bw br := od3
  have od4 : @LT.lt Nat _ br r0 := od4
  have od5 : @LT.lt Nat _ r0 r1 := od5
  have od6 : @LT.lt Nat _ r1 bf := od6
  have od7 : @LT.lt Nat _ bf bc := od7
  have lq_b1 : @LT.lt Nat _ b1 b38 := lq_b1
  have lq_r19 : @LT.lt Nat _ r19 b38 := lq_r19
  have lq_r2 : @LT.lt Nat _ r2 b38 := lq_r2
  have EQ42 := own_QI_E QI42
  obtain ⟨cq44, kq44, q44a, q44b, q44c⟩ := isOf hZ rfl EQ42
  obtain ⟨_, _, ⟨T44, L44, k44, n44⟩, -, X44, ⟨Lc44, hQ44, l44, y44, z44⟩, st44⟩ := X42.virtualBack hx (y := (⟨"com/example/contrepoint/contrepoint/IndexQueue", "add", "(I)V"⟩ : MethodName)) (z := (⟨"com/example/contrepoint/contrepoint/IndexQueue", "add", "(I)V"⟩ : MethodName)) hown (mvT hZ (hw _ (List.mem_of_getElem? (i := 38) rfl))) (mvT hZ (hw _ (List.mem_of_getElem? (i := 39) rfl))) (notFace_of_selects (args := #[]) (mvT hZ (hw _ (List.mem_of_getElem? (i := 41) rfl)))) (mvT hZ (hw _ (List.mem_of_getElem? (i := 41) rfl))) (mvT hZ (hw _ (List.mem_of_getElem? (i := 40) rfl))) (by decide) (backOf (W := 0) (rmA l Z a0 hw [] b38 xa bl bw br r0 r1 bf bc [y0, y1, y2] (own_q0 [y0, y1, y2]) T42.heap n0 (Nat.le_trans Z0 K43.1) gn_b38 od42 QI42 q_a1) hZ (hw _ (List.mem_of_getElem? (i := 42) rfl)) (hw _ (List.mem_of_getElem? (i := 9) rfl)) (by decide) (by decide)) q44a q44c (g := (mkF m 148 #[.val (.int p1), .val (.int p2), .val (.int p3), .val (.int p4), .val (.int p5), .val (.ref b1), .val (.int xa), .val (.int xb), .val (.int xc), .val (.int xd), .val (.ref r19), .val (.ref r2), .val (.ref b38), .unset, .unset, .unset, .unset] [(.int xa), (.ref b38)])) rfl (by rw [hml]; rfl) (Steps.refl _) (argsL := [(.int xa)]) (rest := []) (lenOf pd_2 rfl) rfl (by show 2 * 0 + _ ≤ _; exact Nat.le_of_eq rfl) (hb hby at_148) (fun _ _ => ⟨rfl, rfl, (by decide : 13 + 0 ≤ _), (by decide : 40 + 0 ≤ _)⟩)
  dsimp only [Pt.U, Pt.locs, Pt.cells, Pt.slots] at X44 l44 y44 z44 st44 hQ44
  subst l44 y44 z44
  obtain ⟨rfl, N44q, K44, QI44⟩ := hQ44
  have N44 := Fr.app N42 N44q
  have K45 : Keep h0 T44.heap [] := K43.trans K44 (allS (Or.inr (by omega)) (allS (Or.inr (by omega)) (allS (Or.inr (by omega)) (allS (Or.inr (by omega)) all0))))
  have EQ44 := own_QI_E QI44
  obtain ⟨cq46, kq46, q46a, q46b, q46c⟩ := isOf hZ rfl EQ44
  obtain ⟨_, _, ⟨T46, L46, k46, n46⟩, -, X46, ⟨Lc46, hQ46, l46, y46, z46⟩, st46⟩ := X44.virtualBack hx (y := (⟨"com/example/contrepoint/contrepoint/IndexQueue", "add", "(I)V"⟩ : MethodName)) (z := (⟨"com/example/contrepoint/contrepoint/IndexQueue", "add", "(I)V"⟩ : MethodName)) hown (mvT hZ (hw _ (List.mem_of_getElem? (i := 38) rfl))) (mvT hZ (hw _ (List.mem_of_getElem? (i := 39) rfl))) (notFace_of_selects (args := #[]) (mvT hZ (hw _ (List.mem_of_getElem? (i := 41) rfl)))) (mvT hZ (hw _ (List.mem_of_getElem? (i := 41) rfl))) (mvT hZ (hw _ (List.mem_of_getElem? (i := 40) rfl))) (by decide) (backOf (W := 0) (rmA l Z a0 hw [] b38 xb bl bw br r0 r1 bf bc [y0, y1, y2] (own_Q1 [y0, y1, y2] xa) T44.heap n0 (Nat.le_trans Z0 K45.1) gn_b38 od42 QI44 q_a2) hZ (hw _ (List.mem_of_getElem? (i := 42) rfl)) (hw _ (List.mem_of_getElem? (i := 9) rfl)) (by decide) (by decide)) q46a q46c (g := (mkF m 155 #[.val (.int p1), .val (.int p2), .val (.int p3), .val (.int p4), .val (.int p5), .val (.ref b1), .val (.int xa), .val (.int xb), .val (.int xc), .val (.int xd), .val (.ref r19), .val (.ref r2), .val (.ref b38), .unset, .unset, .unset, .unset] [(.int xb), (.ref b38)])) rfl (by rw [hml]; rfl) (Steps.refl _) (argsL := [(.int xb)]) (rest := []) (lenOf pd_2 rfl) rfl (by show 2 * 0 + _ ≤ _; exact Nat.le_of_eq rfl) (hb hby at_155) (fun _ _ => ⟨rfl, rfl, (by decide : 13 + 0 ≤ _), (by decide : 40 + 0 ≤ _)⟩)
  dsimp only [Pt.U, Pt.locs, Pt.cells, Pt.slots] at X46 l46 y46 z46 st46 hQ46
  subst l46 y46 z46
  obtain ⟨rfl, N46q, K46, QI46⟩ := hQ46
  have N46 := Fr.app N44 N46q
  have K47 : Keep h0 T46.heap [] := K45.trans K46 (allS (Or.inr (by omega)) (allS (Or.inr (by omega)) (allS (Or.inr (by omega)) (allS (Or.inr (by omega)) all0))))
  have EQ46 := own_QI_E QI46
  obtain ⟨cq48, kq48, q48a, q48b, q48c⟩ := isOf hZ rfl EQ46
  obtain ⟨_, _, ⟨T48, L48, k48, n48⟩, -, X48, ⟨Lc48, hQ48, l48, y48, z48⟩, st48⟩ := X46.virtualBack hx (y := (⟨"com/example/contrepoint/contrepoint/IndexQueue", "take", "()I"⟩ : MethodName)) (z := (⟨"com/example/contrepoint/contrepoint/IndexQueue", "take", "()I"⟩ : MethodName)) hown (mvT hZ (hw _ (List.mem_of_getElem? (i := 43) rfl))) (mvT hZ (hw _ (List.mem_of_getElem? (i := 44) rfl))) (notFace_of_selects (args := #[]) (mvT hZ (hw _ (List.mem_of_getElem? (i := 46) rfl)))) (mvT hZ (hw _ (List.mem_of_getElem? (i := 46) rfl))) (mvT hZ (hw _ (List.mem_of_getElem? (i := 45) rfl))) (by decide) (backOf (W := 0) (rmT l Z a0 hw [] b38 bl bw br r0 r1 bf bc [y0, y1, y2] (own_Q2 [y0, y1, y2] xa xb) T46.heap n0 (Nat.le_trans Z0 K47.1) gn_b38 od42 QI46 q_t3) hZ (hw _ (List.mem_of_getElem? (i := 47) rfl)) (hw _ (List.mem_of_getElem? (i := 9) rfl)) (by decide) (by decide)) q48a q48c (g := (mkF m 160 #[.val (.int p1), .val (.int p2), .val (.int p3), .val (.int p4), .val (.int p5), .val (.ref b1), .val (.int xa), .val (.int xb), .val (.int xc), .val (.int xd), .val (.ref r19), .val (.ref r2), .val (.ref b38), .unset, .unset, .unset, .unset] [(.ref b38)])) rfl (by rw [hml]; rfl) (Steps.refl _) (argsL := []) (rest := []) (lenOf pd_3 rfl) rfl (by show 2 * 0 + _ ≤ _; exact Nat.le_of_eq rfl) (hb hby at_160) (fun _ _ => ⟨rfl, rfl, (by decide : 13 + 0 ≤ _), (by decide : 40 + 0 ≤ _)⟩)
  dsimp only [Pt.U, Pt.locs, Pt.cells, Pt.slots] at X48 l48 y48 z48 st48 hQ48
  subst l48 y48 z48
  obtain ⟨rfl, N48q, K48, QI48⟩ := hQ48
  have N48 := Fr.app N46 N48q
  have K49 : Keep h0 T48.heap [] := K47.trans K48 (allS (Or.inr (by omega)) (allS (Or.inr (by omega)) (allS (Or.inr (by omega)) all0)))
  have EQ48 := own_QI_E QI48
  have f_50 := (((((V2_j.ext E38).keep K42 (ninS (Nat.ne_of_lt (Nat.lt_of_lt_of_le V2_j.lt (Nat.le_of_eq g38.symm))) nin0)).keep K44 (ninS (Nat.ne_of_lt (by omega)) (ninS (Nat.ne_of_lt (by omega)) (ninS (Nat.ne_of_lt (by omega)) (ninS (Nat.ne_of_lt (by omega)) nin0))))).keep K46 (ninS (Nat.ne_of_lt (by omega)) (ninS (Nat.ne_of_lt (by omega)) (ninS (Nat.ne_of_lt (by omega)) (ninS (Nat.ne_of_lt (by omega)) nin0))))).keep K48 (ninS (Nat.ne_of_lt (by omega)) (ninS (Nat.ne_of_lt (by omega)) (ninS (Nat.ne_of_lt (by omega)) nin0))))
  obtain ⟨cl51, Arcl51, qcl51, Scl51, Ncl51, Hcl51, Gcl51⟩ := id f_50
  have hincl51 : ¬ ((1 : Int32) < 0 ∨ cl51.slots.size ≤ ((1 : Int32)).toNatClampNeg) := inb_of Scl51 ⟨by decide, by decide⟩
  have hatcl51 : cl51.slots[((1 : Int32)).toNatClampNeg]? = some (.int (lE1.getD 1 0)) := Hcl51.at hincl51 (own_gm lE1 1)
  obtain ⟨cq52, kq52, q52a, q52b, q52c⟩ := isOf hZ rfl EQ48
  obtain ⟨_, _, ⟨T52, L52, k52, n52⟩, -, X52, ⟨Lc52, hQ52, l52, y52, z52⟩, st52⟩ := X48.virtualBack hx (y := (⟨"com/example/contrepoint/contrepoint/IndexQueue", "add", "(I)V"⟩ : MethodName)) (z := (⟨"com/example/contrepoint/contrepoint/IndexQueue", "add", "(I)V"⟩ : MethodName)) hown (mvT hZ (hw _ (List.mem_of_getElem? (i := 38) rfl))) (mvT hZ (hw _ (List.mem_of_getElem? (i := 39) rfl))) (notFace_of_selects (args := #[]) (mvT hZ (hw _ (List.mem_of_getElem? (i := 41) rfl)))) (mvT hZ (hw _ (List.mem_of_getElem? (i := 41) rfl))) (mvT hZ (hw _ (List.mem_of_getElem? (i := 40) rfl))) (by decide) (backOf (W := 0) (rmA l Z a0 hw [] b38 xc bl bw br r0 r1 bf bc [y0, y1, y2] (own_Q3 [y0, y1, y2] xa xb) T48.heap n0 (Nat.le_trans Z0 K49.1) gn_b38 od42 QI48 q_a4) hZ (hw _ (List.mem_of_getElem? (i := 42) rfl)) (hw _ (List.mem_of_getElem? (i := 9) rfl)) (by decide) (by decide)) q52a q52c (g := (mkF m 180 #[.val (.int p1), .val (.int p2), .val (.int p3), .val (.int p4), .val (.int p5), .val (.ref b1), .val (.int xa), .val (.int xb), .val (.int xc), .val (.int xd), .val (.ref r19), .val (.ref r2), .val (.ref b38), .val (.int (own_got (own_Q2 [y0, y1, y2] xa xb))), .unset, .unset, .unset] [(.int xc), (.ref b38)])) rfl (by rw [hml]; rfl) (Steps.refl _) (argsL := [(.int xc)]) (rest := []) (lenOf pd_2 rfl) rfl (by show 2 * 0 + _ ≤ _; exact Nat.le_of_eq rfl) (hb hby at_180) (fun _ _ => ⟨rfl, rfl, (by decide : 13 + 0 ≤ _), (by decide : 40 + 0 ≤ _)⟩)
  dsimp only [Pt.U, Pt.locs, Pt.cells, Pt.slots] at X52 l52 y52 z52 st52 hQ52
  subst l52 y52 z52
  obtain ⟨rfl, N52q, K52, QI52⟩ := hQ52
  have N52 := Fr.app N48 N52q
  have K53 : Keep h0 T52.heap [] := K49.trans K52 (allS (Or.inr (by omega)) (allS (Or.inr (by omega)) (allS (Or.inr (by omega)) (allS (Or.inr (by omega)) all0))))
  have EQ52 := own_QI_E QI52
  obtain ⟨cq54, kq54, q54a, q54b, q54c⟩ := isOf hZ rfl EQ52
  obtain ⟨_, _, ⟨T54, L54, k54, n54⟩, -, X54, ⟨Lc54, hQ54, l54, y54, z54⟩, st54⟩ := X52.virtualBack hx (y := (⟨"com/example/contrepoint/contrepoint/IndexQueue", "add", "(I)V"⟩ : MethodName)) (z := (⟨"com/example/contrepoint/contrepoint/IndexQueue", "add", "(I)V"⟩ : MethodName)) hown (mvT hZ (hw _ (List.mem_of_getElem? (i := 38) rfl))) (mvT hZ (hw _ (List.mem_of_getElem? (i := 39) rfl))) (notFace_of_selects (args := #[]) (mvT hZ (hw _ (List.mem_of_getElem? (i := 41) rfl)))) (mvT hZ (hw _ (List.mem_of_getElem? (i := 41) rfl))) (mvT hZ (hw _ (List.mem_of_getElem? (i := 40) rfl))) (by decide) (backOf (W := 0) (rmA l Z a0 hw [] b38 xd bl bw br r0 r1 bf bc [y0, y1, y2] (own_Q4 [y0, y1, y2] xa xb xc) T52.heap n0 (Nat.le_trans Z0 K53.1) gn_b38 od42 QI52 q_a5) hZ (hw _ (List.mem_of_getElem? (i := 42) rfl)) (hw _ (List.mem_of_getElem? (i := 9) rfl)) (by decide) (by decide)) q54a q54c (g := (mkF m 187 #[.val (.int p1), .val (.int p2), .val (.int p3), .val (.int p4), .val (.int p5), .val (.ref b1), .val (.int xa), .val (.int xb), .val (.int xc), .val (.int xd), .val (.ref r19), .val (.ref r2), .val (.ref b38), .val (.int (own_got (own_Q2 [y0, y1, y2] xa xb))), .unset, .unset, .unset] [(.int xd), (.ref b38)])) rfl (by rw [hml]; rfl) (Steps.refl _) (argsL := [(.int xd)]) (rest := []) (lenOf pd_2 rfl) rfl (by show 2 * 0 + _ ≤ _; exact Nat.le_of_eq rfl) (hb hby at_187) (fun _ _ => ⟨rfl, rfl, (by decide : 13 + 0 ≤ _), (by decide : 40 + 0 ≤ _)⟩)
  dsimp only [Pt.U, Pt.locs, Pt.cells, Pt.slots] at X54 l54 y54 z54 st54 hQ54
  subst l54 y54 z54
  obtain ⟨rfl, N54q, K54, QI54⟩ := hQ54
  have N54 := Fr.app N52 N54q
  have K55 : Keep h0 T54.heap [] := K53.trans K54 (allS (Or.inr (by omega)) (allS (Or.inr (by omega)) (allS (Or.inr (by omega)) (allS (Or.inr (by omega)) all0))))
  have EQ54 := own_QI_E QI54
  obtain ⟨cq56, kq56, q56a, q56b, q56c⟩ := isOf hZ rfl EQ54
  obtain ⟨_, _, ⟨T56, L56, k56, n56⟩, -, X56, ⟨Lc56, hQ56, l56, y56, z56⟩, st56⟩ := X54.virtualBack hx (y := (⟨"com/example/contrepoint/contrepoint/IndexQueue", "take", "()I"⟩ : MethodName)) (z := (⟨"com/example/contrepoint/contrepoint/IndexQueue", "take", "()I"⟩ : MethodName)) hown (mvT hZ (hw _ (List.mem_of_getElem? (i := 43) rfl))) (mvT hZ (hw _ (List.mem_of_getElem? (i := 44) rfl))) (notFace_of_selects (args := #[]) (mvT hZ (hw _ (List.mem_of_getElem? (i := 46) rfl)))) (mvT hZ (hw _ (List.mem_of_getElem? (i := 46) rfl))) (mvT hZ (hw _ (List.mem_of_getElem? (i := 45) rfl))) (by decide) (backOf (W := 0) (rmT l Z a0 hw [] b38 bl bw br r0 r1 bf bc [y0, y1, y2] (own_Q5 [y0, y1, y2] xa xb xc xd) T54.heap n0 (Nat.le_trans Z0 K55.1) gn_b38 od42 QI54 q_t6) hZ (hw _ (List.mem_of_getElem? (i := 47) rfl)) (hw _ (List.mem_of_getElem? (i := 9) rfl)) (by decide) (by decide)) q56a q56c (g := (mkF m 192 #[.val (.int p1), .val (.int p2), .val (.int p3), .val (.int p4), .val (.int p5), .val (.ref b1), .val (.int xa), .val (.int xb), .val (.int xc), .val (.int xd), .val (.ref r19), .val (.ref r2), .val (.ref b38), .val (.int (own_got (own_Q2 [y0, y1, y2] xa xb))), .unset, .unset, .unset] [(.ref b38)])) rfl (by rw [hml]; rfl) (Steps.refl _) (argsL := []) (rest := []) (lenOf pd_3 rfl) rfl (by show 2 * 0 + _ ≤ _; exact Nat.le_of_eq rfl) (hb hby at_192) (fun _ _ => ⟨rfl, rfl, (by decide : 13 + 0 ≤ _), (by decide : 40 + 0 ≤ _)⟩)
  dsimp only [Pt.U, Pt.locs, Pt.cells, Pt.slots] at X56 l56 y56 z56 st56 hQ56
  subst l56 y56 z56
  obtain ⟨rfl, N56q, K56, QI56⟩ := hQ56
  have N56 := Fr.app N54 N56q
  have K57 : Keep h0 T56.heap [] := K55.trans K56 (allS (Or.inr (by omega)) (allS (Or.inr (by omega)) (allS (Or.inr (by omega)) all0)))
  have EQ56 := own_QI_E QI56
  have pre58 : ∀ t, Steps p.tables e below (T56.setTop (mkF m 201 #[.val (.int p1), .val (.int p2), .val (.int p3), .val (.int p4), .val (.int p5), .val (.ref b1), .val (.int xa), .val (.int xb), .val (.int xc), .val (.int xd), .val (.ref r19), .val (.ref r2), .val (.ref b38), .val (.int (own_got (own_Q2 [y0, y1, y2] xa xb))), .val (.int (own_got (own_Q5 [y0, y1, y2] xa xb xc xd))), .unset, .unset] [(.ref r2), (.int (own_got (own_Q5 [y0, y1, y2] xa xb xc xd)))])) t → Steps p.tables e below S0 t := by
    intro t k
    refine pre_j t ?_
    show Steps p.tables e below (T_j.setTop (mkF m 133 #[.val (.int p1), .val (.int p2), .val (.int p3), .val (.int p4), .val (.int p5), .val (.ref b1), .val (.int xa), .val (.int xb), .val (.int xc), .val (.int xd), .val (.ref r19), .val (.ref r2), .unset, .unset, .unset, .unset, .unset] [])) _
    refine st38 _ ?_
    show Steps p.tables e below (T38.setTop (mkF m 136 #[.val (.int p1), .val (.int p2), .val (.int p3), .val (.int p4), .val (.int p5), .val (.ref b1), .val (.int xa), .val (.int xb), .val (.int xc), .val (.int xd), .val (.ref r19), .val (.ref r2), .unset, .unset, .unset, .unset, .unset] [(.ref b38)])) _
    refine XS.dup X38.here hx rfl (hb hby at_136) rfl rfl ?_
    show Steps p.tables e below (T38.setTop (mkF m 137 #[.val (.int p1), .val (.int p2), .val (.int p3), .val (.int p4), .val (.int p5), .val (.ref b1), .val (.int xa), .val (.int xb), .val (.int xc), .val (.int xd), .val (.ref r19), .val (.ref r2), .unset, .unset, .unset, .unset, .unset] [(.ref b38), (.ref b38)])) _
    refine XS.aload X38.here hx rfl (hb hby at_137) rfl rfl ?_
    show Steps p.tables e below (T38.setTop (mkF m 139 #[.val (.int p1), .val (.int p2), .val (.int p3), .val (.int p4), .val (.int p5), .val (.ref b1), .val (.int xa), .val (.int xb), .val (.int xc), .val (.int xd), .val (.ref r19), .val (.ref r2), .unset, .unset, .unset, .unset, .unset] [(.ref b1), (.ref b38), (.ref b38)])) _
    refine st42.trans ?_
    show Steps p.tables e below (T42.setTop (mkF m 142 #[.val (.int p1), .val (.int p2), .val (.int p3), .val (.int p4), .val (.int p5), .val (.ref b1), .val (.int xa), .val (.int xb), .val (.int xc), .val (.int xd), .val (.ref r19), .val (.ref r2), .unset, .unset, .unset, .unset, .unset] [(.ref b38)])) _
    refine XS.astore X42.here hx rfl (hb hby at_142) rfl rfl (l' := #[.val (.int p1), .val (.int p2), .val (.int p3), .val (.int p4), .val (.int p5), .val (.ref b1), .val (.int xa), .val (.int xb), .val (.int xc), .val (.int xd), .val (.ref r19), .val (.ref r2), .val (.ref b38), .unset, .unset, .unset, .unset]) rfl ?_
    show Steps p.tables e below (T42.setTop (mkF m 144 #[.val (.int p1), .val (.int p2), .val (.int p3), .val (.int p4), .val (.int p5), .val (.ref b1), .val (.int xa), .val (.int xb), .val (.int xc), .val (.int xd), .val (.ref r19), .val (.ref r2), .val (.ref b38), .unset, .unset, .unset, .unset] [])) _
    refine XS.aload X42.here hx rfl (hb hby at_144) rfl rfl ?_
    show Steps p.tables e below (T42.setTop (mkF m 146 #[.val (.int p1), .val (.int p2), .val (.int p3), .val (.int p4), .val (.int p5), .val (.ref b1), .val (.int xa), .val (.int xb), .val (.int xc), .val (.int xd), .val (.ref r19), .val (.ref r2), .val (.ref b38), .unset, .unset, .unset, .unset] [(.ref b38)])) _
    refine XS.iload X42.here hx rfl (hb hby at_146) rfl ?_
    show Steps p.tables e below (T42.setTop (mkF m 148 #[.val (.int p1), .val (.int p2), .val (.int p3), .val (.int p4), .val (.int p5), .val (.ref b1), .val (.int xa), .val (.int xb), .val (.int xc), .val (.int xd), .val (.ref r19), .val (.ref r2), .val (.ref b38), .unset, .unset, .unset, .unset] [(.int xa), (.ref b38)])) _
    refine st44.trans ?_
    show Steps p.tables e below (T44.setTop (mkF m 151 #[.val (.int p1), .val (.int p2), .val (.int p3), .val (.int p4), .val (.int p5), .val (.ref b1), .val (.int xa), .val (.int xb), .val (.int xc), .val (.int xd), .val (.ref r19), .val (.ref r2), .val (.ref b38), .unset, .unset, .unset, .unset] [])) _
    refine XS.aload X44.here hx rfl (hb hby at_151) rfl rfl ?_
    show Steps p.tables e below (T44.setTop (mkF m 153 #[.val (.int p1), .val (.int p2), .val (.int p3), .val (.int p4), .val (.int p5), .val (.ref b1), .val (.int xa), .val (.int xb), .val (.int xc), .val (.int xd), .val (.ref r19), .val (.ref r2), .val (.ref b38), .unset, .unset, .unset, .unset] [(.ref b38)])) _
    refine XS.iload X44.here hx rfl (hb hby at_153) rfl ?_
    show Steps p.tables e below (T44.setTop (mkF m 155 #[.val (.int p1), .val (.int p2), .val (.int p3), .val (.int p4), .val (.int p5), .val (.ref b1), .val (.int xa), .val (.int xb), .val (.int xc), .val (.int xd), .val (.ref r19), .val (.ref r2), .val (.ref b38), .unset, .unset, .unset, .unset] [(.int xb), (.ref b38)])) _
    refine st46.trans ?_
    show Steps p.tables e below (T46.setTop (mkF m 158 #[.val (.int p1), .val (.int p2), .val (.int p3), .val (.int p4), .val (.int p5), .val (.ref b1), .val (.int xa), .val (.int xb), .val (.int xc), .val (.int xd), .val (.ref r19), .val (.ref r2), .val (.ref b38), .unset, .unset, .unset, .unset] [])) _
    refine XS.aload X46.here hx rfl (hb hby at_158) rfl rfl ?_
    show Steps p.tables e below (T46.setTop (mkF m 160 #[.val (.int p1), .val (.int p2), .val (.int p3), .val (.int p4), .val (.int p5), .val (.ref b1), .val (.int xa), .val (.int xb), .val (.int xc), .val (.int xd), .val (.ref r19), .val (.ref r2), .val (.ref b38), .unset, .unset, .unset, .unset] [(.ref b38)])) _
    refine st48.trans ?_
    show Steps p.tables e below (T48.setTop (mkF m 163 #[.val (.int p1), .val (.int p2), .val (.int p3), .val (.int p4), .val (.int p5), .val (.ref b1), .val (.int xa), .val (.int xb), .val (.int xc), .val (.int xd), .val (.ref r19), .val (.ref r2), .val (.ref b38), .unset, .unset, .unset, .unset] [(.int (own_got (own_Q2 [y0, y1, y2] xa xb)))])) _
    refine XS.istore X48.here hx rfl (hb hby at_163) rfl (l' := #[.val (.int p1), .val (.int p2), .val (.int p3), .val (.int p4), .val (.int p5), .val (.ref b1), .val (.int xa), .val (.int xb), .val (.int xc), .val (.int xd), .val (.ref r19), .val (.ref r2), .val (.ref b38), .val (.int (own_got (own_Q2 [y0, y1, y2] xa xb))), .unset, .unset, .unset]) rfl ?_
    show Steps p.tables e below (T48.setTop (mkF m 165 #[.val (.int p1), .val (.int p2), .val (.int p3), .val (.int p4), .val (.int p5), .val (.ref b1), .val (.int xa), .val (.int xb), .val (.int xc), .val (.int xd), .val (.ref r19), .val (.ref r2), .val (.ref b38), .val (.int (own_got (own_Q2 [y0, y1, y2] xa xb))), .unset, .unset, .unset] [])) _
    refine XS.iload X48.here hx rfl (hb hby at_165) rfl ?_
    show Steps p.tables e below (T48.setTop (mkF m 167 #[.val (.int p1), .val (.int p2), .val (.int p3), .val (.int p4), .val (.int p5), .val (.ref b1), .val (.int xa), .val (.int xb), .val (.int xc), .val (.int xd), .val (.ref r19), .val (.ref r2), .val (.ref b38), .val (.int (own_got (own_Q2 [y0, y1, y2] xa xb))), .unset, .unset, .unset] [(.int (own_got (own_Q2 [y0, y1, y2] xa xb)))])) _
    refine XS.aload X48.here hx rfl (hb hby at_167) rfl rfl ?_
    show Steps p.tables e below (T48.setTop (mkF m 169 #[.val (.int p1), .val (.int p2), .val (.int p3), .val (.int p4), .val (.int p5), .val (.ref b1), .val (.int xa), .val (.int xb), .val (.int xc), .val (.int xd), .val (.ref r19), .val (.ref r2), .val (.ref b38), .val (.int (own_got (own_Q2 [y0, y1, y2] xa xb))), .unset, .unset, .unset] [(.ref r19), (.int (own_got (own_Q2 [y0, y1, y2] xa xb)))])) _
    refine XS.iconst X48.here hx rfl (hb hby at_169) ?_
    show Steps p.tables e below (T48.setTop (mkF m 170 #[.val (.int p1), .val (.int p2), .val (.int p3), .val (.int p4), .val (.int p5), .val (.ref b1), .val (.int xa), .val (.int xb), .val (.int xc), .val (.int xd), .val (.ref r19), .val (.ref r2), .val (.ref b38), .val (.int (own_got (own_Q2 [y0, y1, y2] xa xb))), .unset, .unset, .unset] [(.int (1 : Int32)), (.ref r19), (.int (own_got (own_Q2 [y0, y1, y2] xa xb)))])) _
    refine X48.iaload hx (j := (1 : Int32)) (v := (.int (lE1.getD 1 0))) Arcl51.1 (State.isArrayOf_alike hZ.alike Arcl51.2.1) Arcl51.2.2 hincl51 hatcl51 (g := (mkF m 170 #[.val (.int p1), .val (.int p2), .val (.int p3), .val (.int p4), .val (.int p5), .val (.ref b1), .val (.int xa), .val (.int xb), .val (.int xc), .val (.int xd), .val (.ref r19), .val (.ref r2), .val (.ref b38), .val (.int (own_got (own_Q2 [y0, y1, y2] xa xb))), .unset, .unset, .unset] [(.int (1 : Int32)), (.ref r19), (.int (own_got (own_Q2 [y0, y1, y2] xa xb)))])) rfl rfl (hb hby at_170) _ ?_
    show Steps p.tables e below (T48.setTop (mkF m 171 #[.val (.int p1), .val (.int p2), .val (.int p3), .val (.int p4), .val (.int p5), .val (.ref b1), .val (.int xa), .val (.int xb), .val (.int xc), .val (.int xd), .val (.ref r19), .val (.ref r2), .val (.ref b38), .val (.int (own_got (own_Q2 [y0, y1, y2] xa xb))), .unset, .unset, .unset] [(.int (lE1.getD 1 0)), (.int (own_got (own_Q2 [y0, y1, y2] xa xb)))])) _
    refine XS.icmpYes X48.here hx rfl (pc0 := 171) (pc' := 176) rfl (hb hby at_171) rfl (teq q_g3).1 (by decide) (by decide) ?_
    show Steps p.tables e below (T48.setTop (mkF m 176 #[.val (.int p1), .val (.int p2), .val (.int p3), .val (.int p4), .val (.int p5), .val (.ref b1), .val (.int xa), .val (.int xb), .val (.int xc), .val (.int xd), .val (.ref r19), .val (.ref r2), .val (.ref b38), .val (.int (own_got (own_Q2 [y0, y1, y2] xa xb))), .unset, .unset, .unset] [])) _
    refine XS.aload X48.here hx rfl (hb hby at_176) rfl rfl ?_
    show Steps p.tables e below (T48.setTop (mkF m 178 #[.val (.int p1), .val (.int p2), .val (.int p3), .val (.int p4), .val (.int p5), .val (.ref b1), .val (.int xa), .val (.int xb), .val (.int xc), .val (.int xd), .val (.ref r19), .val (.ref r2), .val (.ref b38), .val (.int (own_got (own_Q2 [y0, y1, y2] xa xb))), .unset, .unset, .unset] [(.ref b38)])) _
    refine XS.iload X48.here hx rfl (hb hby at_178) rfl ?_
    show Steps p.tables e below (T48.setTop (mkF m 180 #[.val (.int p1), .val (.int p2), .val (.int p3), .val (.int p4), .val (.int p5), .val (.ref b1), .val (.int xa), .val (.int xb), .val (.int xc), .val (.int xd), .val (.ref r19), .val (.ref r2), .val (.ref b38), .val (.int (own_got (own_Q2 [y0, y1, y2] xa xb))), .unset, .unset, .unset] [(.int xc), (.ref b38)])) _
    refine st52.trans ?_
    show Steps p.tables e below (T52.setTop (mkF m 183 #[.val (.int p1), .val (.int p2), .val (.int p3), .val (.int p4), .val (.int p5), .val (.ref b1), .val (.int xa), .val (.int xb), .val (.int xc), .val (.int xd), .val (.ref r19), .val (.ref r2), .val (.ref b38), .val (.int (own_got (own_Q2 [y0, y1, y2] xa xb))), .unset, .unset, .unset] [])) _
    refine XS.aload X52.here hx rfl (hb hby at_183) rfl rfl ?_
    show Steps p.tables e below (T52.setTop (mkF m 185 #[.val (.int p1), .val (.int p2), .val (.int p3), .val (.int p4), .val (.int p5), .val (.ref b1), .val (.int xa), .val (.int xb), .val (.int xc), .val (.int xd), .val (.ref r19), .val (.ref r2), .val (.ref b38), .val (.int (own_got (own_Q2 [y0, y1, y2] xa xb))), .unset, .unset, .unset] [(.ref b38)])) _
    refine XS.iload X52.here hx rfl (hb hby at_185) rfl ?_
    show Steps p.tables e below (T52.setTop (mkF m 187 #[.val (.int p1), .val (.int p2), .val (.int p3), .val (.int p4), .val (.int p5), .val (.ref b1), .val (.int xa), .val (.int xb), .val (.int xc), .val (.int xd), .val (.ref r19), .val (.ref r2), .val (.ref b38), .val (.int (own_got (own_Q2 [y0, y1, y2] xa xb))), .unset, .unset, .unset] [(.int xd), (.ref b38)])) _
    refine st54.trans ?_
    show Steps p.tables e below (T54.setTop (mkF m 190 #[.val (.int p1), .val (.int p2), .val (.int p3), .val (.int p4), .val (.int p5), .val (.ref b1), .val (.int xa), .val (.int xb), .val (.int xc), .val (.int xd), .val (.ref r19), .val (.ref r2), .val (.ref b38), .val (.int (own_got (own_Q2 [y0, y1, y2] xa xb))), .unset, .unset, .unset] [])) _
    refine XS.aload X54.here hx rfl (hb hby at_190) rfl rfl ?_
    show Steps p.tables e below (T54.setTop (mkF m 192 #[.val (.int p1), .val (.int p2), .val (.int p3), .val (.int p4), .val (.int p5), .val (.ref b1), .val (.int xa), .val (.int xb), .val (.int xc), .val (.int xd), .val (.ref r19), .val (.ref r2), .val (.ref b38), .val (.int (own_got (own_Q2 [y0, y1, y2] xa xb))), .unset, .unset, .unset] [(.ref b38)])) _
    refine st56.trans ?_
    show Steps p.tables e below (T56.setTop (mkF m 195 #[.val (.int p1), .val (.int p2), .val (.int p3), .val (.int p4), .val (.int p5), .val (.ref b1), .val (.int xa), .val (.int xb), .val (.int xc), .val (.int xd), .val (.ref r19), .val (.ref r2), .val (.ref b38), .val (.int (own_got (own_Q2 [y0, y1, y2] xa xb))), .unset, .unset, .unset] [(.int (own_got (own_Q5 [y0, y1, y2] xa xb xc xd)))])) _
    refine XS.istore X56.here hx rfl (hb hby at_195) rfl (l' := #[.val (.int p1), .val (.int p2), .val (.int p3), .val (.int p4), .val (.int p5), .val (.ref b1), .val (.int xa), .val (.int xb), .val (.int xc), .val (.int xd), .val (.ref r19), .val (.ref r2), .val (.ref b38), .val (.int (own_got (own_Q2 [y0, y1, y2] xa xb))), .val (.int (own_got (own_Q5 [y0, y1, y2] xa xb xc xd))), .unset, .unset]) rfl ?_
    show Steps p.tables e below (T56.setTop (mkF m 197 #[.val (.int p1), .val (.int p2), .val (.int p3), .val (.int p4), .val (.int p5), .val (.ref b1), .val (.int xa), .val (.int xb), .val (.int xc), .val (.int xd), .val (.ref r19), .val (.ref r2), .val (.ref b38), .val (.int (own_got (own_Q2 [y0, y1, y2] xa xb))), .val (.int (own_got (own_Q5 [y0, y1, y2] xa xb xc xd))), .unset, .unset] [])) _
    refine XS.iload X56.here hx rfl (hb hby at_197) rfl ?_
    show Steps p.tables e below (T56.setTop (mkF m 199 #[.val (.int p1), .val (.int p2), .val (.int p3), .val (.int p4), .val (.int p5), .val (.ref b1), .val (.int xa), .val (.int xb), .val (.int xc), .val (.int xd), .val (.ref r19), .val (.ref r2), .val (.ref b38), .val (.int (own_got (own_Q2 [y0, y1, y2] xa xb))), .val (.int (own_got (own_Q5 [y0, y1, y2] xa xb xc xd))), .unset, .unset] [(.int (own_got (own_Q5 [y0, y1, y2] xa xb xc xd)))])) _
    refine XS.aload X56.here hx rfl (hb hby at_199) rfl rfl ?_
    exact k
  have f_59 := ((((((((V3_j.ext E38).keep K42 (ninS (Nat.ne_of_lt (Nat.lt_of_lt_of_le V3_j.lt (Nat.le_of_eq g38.symm))) nin0)).keep K44 (ninS (Nat.ne_of_lt (by omega)) (ninS (Nat.ne_of_lt (by omega)) (ninS (Nat.ne_of_lt (by omega)) (ninS (Nat.ne_of_lt (by omega)) nin0))))).keep K46 (ninS (Nat.ne_of_lt (by omega)) (ninS (Nat.ne_of_lt (by omega)) (ninS (Nat.ne_of_lt (by omega)) (ninS (Nat.ne_of_lt (by omega)) nin0))))).keep K48 (ninS (Nat.ne_of_lt (by omega)) (ninS (Nat.ne_of_lt (by omega)) (ninS (Nat.ne_of_lt (by omega)) nin0)))).keep K52 (ninS (Nat.ne_of_lt (by omega)) (ninS (Nat.ne_of_lt (by omega)) (ninS (Nat.ne_of_lt (by omega)) (ninS (Nat.ne_of_lt (by omega)) nin0))))).keep K54 (ninS (Nat.ne_of_lt (by omega)) (ninS (Nat.ne_of_lt (by omega)) (ninS (Nat.ne_of_lt (by omega)) (ninS (Nat.ne_of_lt (by omega)) nin0))))).keep K56 (ninS (Nat.ne_of_lt (by omega)) (ninS (Nat.ne_of_lt (by omega)) (ninS (Nat.ne_of_lt (by omega)) nin0))))
  obtain ⟨cl60, Arcl60, qcl60, Scl60, Ncl60, Hcl60, Gcl60⟩ := id f_59
  have hincl60 : ¬ ((1 : Int32) < 0 ∨ cl60.slots.size ≤ ((1 : Int32)).toNatClampNeg) := inb_of Scl60 ⟨by decide, by decide⟩
  have hatcl60 : cl60.slots[((1 : Int32)).toNatClampNeg]? = some (.int (lE2.getD 1 0)) := Hcl60.at hincl60 (own_gm lE2 1)
  obtain ⟨cl61, Arcl61, qcl61, Scl61, Ncl61, Hcl61, Gcl61⟩ := id f_59
  have hincl61 : ¬ ((0 : Int32) < 0 ∨ cl61.slots.size ≤ ((0 : Int32)).toNatClampNeg) := inb_of Scl61 ⟨by decide, by decide⟩
  have hatcl61 : cl61.slots[((0 : Int32)).toNatClampNeg]? = some (.int (lE2.getD 0 0)) := Hcl61.at hincl61 (own_gm lE2 0)
  have pre62 : ∀ t, Steps p.tables e below (T56.setTop (mkF m 218 #[.val (.int p1), .val (.int p2), .val (.int p3), .val (.int p4), .val (.int p5), .val (.ref b1), .val (.int xa), .val (.int xb), .val (.int xc), .val (.int xd), .val (.ref r19), .val (.ref r2), .val (.ref b38), .val (.int (own_got (own_Q2 [y0, y1, y2] xa xb))), .val (.int (own_got (own_Q5 [y0, y1, y2] xa xb xc xd))), .val (.int (1 : Int32)), .unset] [(.int (2 : Int32)), (.int (lE2.getD 0 0))])) t → Steps p.tables e below S0 t := by
    intro t k
    refine pre58 t ?_
    show Steps p.tables e below (T56.setTop (mkF m 201 #[.val (.int p1), .val (.int p2), .val (.int p3), .val (.int p4), .val (.int p5), .val (.ref b1), .val (.int xa), .val (.int xb), .val (.int xc), .val (.int xd), .val (.ref r19), .val (.ref r2), .val (.ref b38), .val (.int (own_got (own_Q2 [y0, y1, y2] xa xb))), .val (.int (own_got (own_Q5 [y0, y1, y2] xa xb xc xd))), .unset, .unset] [(.ref r2), (.int (own_got (own_Q5 [y0, y1, y2] xa xb xc xd)))])) _
    refine XS.iconst X56.here hx rfl (hb hby at_201) ?_
    show Steps p.tables e below (T56.setTop (mkF m 202 #[.val (.int p1), .val (.int p2), .val (.int p3), .val (.int p4), .val (.int p5), .val (.ref b1), .val (.int xa), .val (.int xb), .val (.int xc), .val (.int xd), .val (.ref r19), .val (.ref r2), .val (.ref b38), .val (.int (own_got (own_Q2 [y0, y1, y2] xa xb))), .val (.int (own_got (own_Q5 [y0, y1, y2] xa xb xc xd))), .unset, .unset] [(.int (1 : Int32)), (.ref r2), (.int (own_got (own_Q5 [y0, y1, y2] xa xb xc xd)))])) _
    refine X56.iaload hx (j := (1 : Int32)) (v := (.int (lE2.getD 1 0))) Arcl60.1 (State.isArrayOf_alike hZ.alike Arcl60.2.1) Arcl60.2.2 hincl60 hatcl60 (g := (mkF m 202 #[.val (.int p1), .val (.int p2), .val (.int p3), .val (.int p4), .val (.int p5), .val (.ref b1), .val (.int xa), .val (.int xb), .val (.int xc), .val (.int xd), .val (.ref r19), .val (.ref r2), .val (.ref b38), .val (.int (own_got (own_Q2 [y0, y1, y2] xa xb))), .val (.int (own_got (own_Q5 [y0, y1, y2] xa xb xc xd))), .unset, .unset] [(.int (1 : Int32)), (.ref r2), (.int (own_got (own_Q5 [y0, y1, y2] xa xb xc xd)))])) rfl rfl (hb hby at_202) _ ?_
    show Steps p.tables e below (T56.setTop (mkF m 203 #[.val (.int p1), .val (.int p2), .val (.int p3), .val (.int p4), .val (.int p5), .val (.ref b1), .val (.int xa), .val (.int xb), .val (.int xc), .val (.int xd), .val (.ref r19), .val (.ref r2), .val (.ref b38), .val (.int (own_got (own_Q2 [y0, y1, y2] xa xb))), .val (.int (own_got (own_Q5 [y0, y1, y2] xa xb xc xd))), .unset, .unset] [(.int (lE2.getD 1 0)), (.int (own_got (own_Q5 [y0, y1, y2] xa xb xc xd)))])) _
    refine XS.icmpNo X56.here hx rfl (hb hby at_203) rfl (teq q_g6).2 ?_
    show Steps p.tables e below (T56.setTop (mkF m 206 #[.val (.int p1), .val (.int p2), .val (.int p3), .val (.int p4), .val (.int p5), .val (.ref b1), .val (.int xa), .val (.int xb), .val (.int xc), .val (.int xd), .val (.ref r19), .val (.ref r2), .val (.ref b38), .val (.int (own_got (own_Q2 [y0, y1, y2] xa xb))), .val (.int (own_got (own_Q5 [y0, y1, y2] xa xb xc xd))), .unset, .unset] [])) _
    refine XS.iconst X56.here hx rfl (hb hby at_206) ?_
    show Steps p.tables e below (T56.setTop (mkF m 207 #[.val (.int p1), .val (.int p2), .val (.int p3), .val (.int p4), .val (.int p5), .val (.ref b1), .val (.int xa), .val (.int xb), .val (.int xc), .val (.int xd), .val (.ref r19), .val (.ref r2), .val (.ref b38), .val (.int (own_got (own_Q2 [y0, y1, y2] xa xb))), .val (.int (own_got (own_Q5 [y0, y1, y2] xa xb xc xd))), .unset, .unset] [(.int (1 : Int32))])) _
    refine XS.goto X56.here hx rfl (pc0 := 207) (pc' := 211) rfl (hb hby at_207) (by decide) (by decide) ?_
    show Steps p.tables e below (T56.setTop (mkF m 211 #[.val (.int p1), .val (.int p2), .val (.int p3), .val (.int p4), .val (.int p5), .val (.ref b1), .val (.int xa), .val (.int xb), .val (.int xc), .val (.int xd), .val (.ref r19), .val (.ref r2), .val (.ref b38), .val (.int (own_got (own_Q2 [y0, y1, y2] xa xb))), .val (.int (own_got (own_Q5 [y0, y1, y2] xa xb xc xd))), .unset, .unset] [(.int (1 : Int32))])) _
    refine XS.istore X56.here hx rfl (hb hby at_211) rfl (l' := #[.val (.int p1), .val (.int p2), .val (.int p3), .val (.int p4), .val (.int p5), .val (.ref b1), .val (.int xa), .val (.int xb), .val (.int xc), .val (.int xd), .val (.ref r19), .val (.ref r2), .val (.ref b38), .val (.int (own_got (own_Q2 [y0, y1, y2] xa xb))), .val (.int (own_got (own_Q5 [y0, y1, y2] xa xb xc xd))), .val (.int (1 : Int32)), .unset]) rfl ?_
    show Steps p.tables e below (T56.setTop (mkF m 213 #[.val (.int p1), .val (.int p2), .val (.int p3), .val (.int p4), .val (.int p5), .val (.ref b1), .val (.int xa), .val (.int xb), .val (.int xc), .val (.int xd), .val (.ref r19), .val (.ref r2), .val (.ref b38), .val (.int (own_got (own_Q2 [y0, y1, y2] xa xb))), .val (.int (own_got (own_Q5 [y0, y1, y2] xa xb xc xd))), .val (.int (1 : Int32)), .unset] [])) _
    refine XS.aload X56.here hx rfl (hb hby at_213) rfl rfl ?_
    show Steps p.tables e below (T56.setTop (mkF m 215 #[.val (.int p1), .val (.int p2), .val (.int p3), .val (.int p4), .val (.int p5), .val (.ref b1), .val (.int xa), .val (.int xb), .val (.int xc), .val (.int xd), .val (.ref r19), .val (.ref r2), .val (.ref b38), .val (.int (own_got (own_Q2 [y0, y1, y2] xa xb))), .val (.int (own_got (own_Q5 [y0, y1, y2] xa xb xc xd))), .val (.int (1 : Int32)), .unset] [(.ref r2)])) _
    refine XS.iconst X56.here hx rfl (hb hby at_215) ?_
    show Steps p.tables e below (T56.setTop (mkF m 216 #[.val (.int p1), .val (.int p2), .val (.int p3), .val (.int p4), .val (.int p5), .val (.ref b1), .val (.int xa), .val (.int xb), .val (.int xc), .val (.int xd), .val (.ref r19), .val (.ref r2), .val (.ref b38), .val (.int (own_got (own_Q2 [y0, y1, y2] xa xb))), .val (.int (own_got (own_Q5 [y0, y1, y2] xa xb xc xd))), .val (.int (1 : Int32)), .unset] [(.int (0 : Int32)), (.ref r2)])) _
    refine X56.iaload hx (j := (0 : Int32)) (v := (.int (lE2.getD 0 0))) Arcl61.1 (State.isArrayOf_alike hZ.alike Arcl61.2.1) Arcl61.2.2 hincl61 hatcl61 (g := (mkF m 216 #[.val (.int p1), .val (.int p2), .val (.int p3), .val (.int p4), .val (.int p5), .val (.ref b1), .val (.int xa), .val (.int xb), .val (.int xc), .val (.int xd), .val (.ref r19), .val (.ref r2), .val (.ref b38), .val (.int (own_got (own_Q2 [y0, y1, y2] xa xb))), .val (.int (own_got (own_Q5 [y0, y1, y2] xa xb xc xd))), .val (.int (1 : Int32)), .unset] [(.int (0 : Int32)), (.ref r2)])) rfl rfl (hb hby at_216) _ ?_
    show Steps p.tables e below (T56.setTop (mkF m 217 #[.val (.int p1), .val (.int p2), .val (.int p3), .val (.int p4), .val (.int p5), .val (.ref b1), .val (.int xa), .val (.int xb), .val (.int xc), .val (.int xd), .val (.ref r19), .val (.ref r2), .val (.ref b38), .val (.int (own_got (own_Q2 [y0, y1, y2] xa xb))), .val (.int (own_got (own_Q5 [y0, y1, y2] xa xb xc xd))), .val (.int (1 : Int32)), .unset] [(.int (lE2.getD 0 0))])) _
    refine XS.iconst X56.here hx rfl (hb hby at_217) ?_
    exact k
  by_cases g2 : lE2.getD 0 0 < (2 : Int32)
  · obtain ⟨cl63, Arcl63, qcl63, Scl63, Ncl63, Hcl63, Gcl63⟩ := id f_59
    have hincl63 : ¬ ((0 : Int32) < 0 ∨ cl63.slots.size ≤ ((0 : Int32)).toNatClampNeg) := inb_of Scl63 ⟨by decide, by decide⟩
    have hatcl63 : cl63.slots[((0 : Int32)).toNatClampNeg]? = some (.int (lE2.getD 0 0)) := Hcl63.at hincl63 (own_gm lE2 0)
    obtain ⟨cq64, kq64, q64a, q64b, q64c⟩ := isOf hZ rfl EQ56
    obtain ⟨_, _, ⟨T64, L64, k64, n64⟩, -, X64, ⟨Lc64, hQ64, l64, y64, z64⟩, st64⟩ := X56.virtualBack hx (y := (⟨"com/example/contrepoint/contrepoint/IndexQueue", "isEmpty", "()Z"⟩ : MethodName)) (z := (⟨"com/example/contrepoint/contrepoint/IndexQueue", "isEmpty", "()Z"⟩ : MethodName)) hown (mvT hZ (hw _ (List.mem_of_getElem? (i := 48) rfl))) (mvT hZ (hw _ (List.mem_of_getElem? (i := 49) rfl))) (notFace_of_selects (args := #[]) (mvT hZ (hw _ (List.mem_of_getElem? (i := 51) rfl)))) (mvT hZ (hw _ (List.mem_of_getElem? (i := 51) rfl))) (mvT hZ (hw _ (List.mem_of_getElem? (i := 50) rfl))) (by decide) (backOf (W := 0) (rmM l Z a0 hw [] b38 bl bw br r0 r1 bf bc [y0, y1, y2] (own_Q6 [y0, y1, y2] xa xb xc xd) T56.heap n0 (Nat.le_trans Z0 K57.1) od42 QI56 (q_m6 g2)) hZ (hw _ (List.mem_of_getElem? (i := 52) rfl)) (hw _ (List.mem_of_getElem? (i := 9) rfl)) (by decide) (by decide)) q64a q64c (g := (mkF m 292 #[.val (.int p1), .val (.int p2), .val (.int p3), .val (.int p4), .val (.int p5), .val (.ref b1), .val (.int xa), .val (.int xb), .val (.int xc), .val (.int xd), .val (.ref r19), .val (.ref r2), .val (.ref b38), .val (.int (own_got (own_Q2 [y0, y1, y2] xa xb))), .val (.int (own_got (own_Q5 [y0, y1, y2] xa xb xc xd))), .val (.int (1 : Int32)), .unset] [(.ref b38)])) rfl (by rw [hml]; rfl) (Steps.refl _) (argsL := []) (rest := []) (lenOf pd_4 rfl) rfl (by show 2 * 0 + _ ≤ _; exact Nat.le_of_eq rfl) (hb hby at_292) (fun _ _ => ⟨rfl, rfl, (by decide : 13 + 0 ≤ _), (by decide : 40 + 0 ≤ _)⟩)
    dsimp only [Pt.U, Pt.locs, Pt.cells, Pt.slots] at X64 l64 y64 z64 st64 hQ64
    subst l64 y64 z64
    obtain ⟨rfl, N64q, eq64⟩ := hQ64
    have N64 := Fr.app N56 N64q
    have e64 : T64.heap = T56.heap := eq64
    obtain ⟨fs, hr, hrun, hended, hW, hsame⟩ := X64.leave (v := some (.int (1 : Int32))) (fun h => by rw [Bd.returns] at h; cases h) Bd.notSynchronized
    refine ⟨_, _, pre62 _ ?_, hrun, hended, _, _, rfl, ?_, ⟨_, rfl⟩, hW, hsame.mono (by decide) (by decide)⟩
    · show Steps p.tables e below (T56.setTop (mkF m 218 #[.val (.int p1), .val (.int p2), .val (.int p3), .val (.int p4), .val (.int p5), .val (.ref b1), .val (.int xa), .val (.int xb), .val (.int xc), .val (.int xd), .val (.ref r19), .val (.ref r2), .val (.ref b38), .val (.int (own_got (own_Q2 [y0, y1, y2] xa xb))), .val (.int (own_got (own_Q5 [y0, y1, y2] xa xb xc xd))), .val (.int (1 : Int32)), .unset] [(.int (2 : Int32)), (.int (lE2.getD 0 0))])) _
      refine XS.icmpYes X56.here hx rfl (pc0 := 218) (pc' := 249) rfl (hb hby at_218) rfl (tlt g2).1 (by decide) (by decide) ?_
      show Steps p.tables e below (T56.setTop (mkF m 249 #[.val (.int p1), .val (.int p2), .val (.int p3), .val (.int p4), .val (.int p5), .val (.ref b1), .val (.int xa), .val (.int xb), .val (.int xc), .val (.int xd), .val (.ref r19), .val (.ref r2), .val (.ref b38), .val (.int (own_got (own_Q2 [y0, y1, y2] xa xb))), .val (.int (own_got (own_Q5 [y0, y1, y2] xa xb xc xd))), .val (.int (1 : Int32)), .unset] [])) _
      refine XS.aload X56.here hx rfl (hb hby at_249) rfl rfl ?_
      show Steps p.tables e below (T56.setTop (mkF m 251 #[.val (.int p1), .val (.int p2), .val (.int p3), .val (.int p4), .val (.int p5), .val (.ref b1), .val (.int xa), .val (.int xb), .val (.int xc), .val (.int xd), .val (.ref r19), .val (.ref r2), .val (.ref b38), .val (.int (own_got (own_Q2 [y0, y1, y2] xa xb))), .val (.int (own_got (own_Q5 [y0, y1, y2] xa xb xc xd))), .val (.int (1 : Int32)), .unset] [(.ref r2)])) _
      refine XS.iconst X56.here hx rfl (hb hby at_251) ?_
      show Steps p.tables e below (T56.setTop (mkF m 252 #[.val (.int p1), .val (.int p2), .val (.int p3), .val (.int p4), .val (.int p5), .val (.ref b1), .val (.int xa), .val (.int xb), .val (.int xc), .val (.int xd), .val (.ref r19), .val (.ref r2), .val (.ref b38), .val (.int (own_got (own_Q2 [y0, y1, y2] xa xb))), .val (.int (own_got (own_Q5 [y0, y1, y2] xa xb xc xd))), .val (.int (1 : Int32)), .unset] [(.int (0 : Int32)), (.ref r2)])) _
      refine X56.iaload hx (j := (0 : Int32)) (v := (.int (lE2.getD 0 0))) Arcl63.1 (State.isArrayOf_alike hZ.alike Arcl63.2.1) Arcl63.2.2 hincl63 hatcl63 (g := (mkF m 252 #[.val (.int p1), .val (.int p2), .val (.int p3), .val (.int p4), .val (.int p5), .val (.ref b1), .val (.int xa), .val (.int xb), .val (.int xc), .val (.int xd), .val (.ref r19), .val (.ref r2), .val (.ref b38), .val (.int (own_got (own_Q2 [y0, y1, y2] xa xb))), .val (.int (own_got (own_Q5 [y0, y1, y2] xa xb xc xd))), .val (.int (1 : Int32)), .unset] [(.int (0 : Int32)), (.ref r2)])) rfl rfl (hb hby at_252) _ ?_
      show Steps p.tables e below (T56.setTop (mkF m 253 #[.val (.int p1), .val (.int p2), .val (.int p3), .val (.int p4), .val (.int p5), .val (.ref b1), .val (.int xa), .val (.int xb), .val (.int xc), .val (.int xd), .val (.ref r19), .val (.ref r2), .val (.ref b38), .val (.int (own_got (own_Q2 [y0, y1, y2] xa xb))), .val (.int (own_got (own_Q5 [y0, y1, y2] xa xb xc xd))), .val (.int (1 : Int32)), .unset] [(.int (lE2.getD 0 0))])) _
      refine XS.iconst X56.here hx rfl (hb hby at_253) ?_
      show Steps p.tables e below (T56.setTop (mkF m 254 #[.val (.int p1), .val (.int p2), .val (.int p3), .val (.int p4), .val (.int p5), .val (.ref b1), .val (.int xa), .val (.int xb), .val (.int xc), .val (.int xd), .val (.ref r19), .val (.ref r2), .val (.ref b38), .val (.int (own_got (own_Q2 [y0, y1, y2] xa xb))), .val (.int (own_got (own_Q5 [y0, y1, y2] xa xb xc xd))), .val (.int (1 : Int32)), .unset] [(.int (3 : Int32)), (.int (lE2.getD 0 0))])) _
      refine XS.icmpYes X56.here hx rfl (pc0 := 254) (pc' := 285) rfl (hb hby at_254) rfl (tlt (own_lt23 g2)).1 (by decide) (by decide) ?_
      show Steps p.tables e below (T56.setTop (mkF m 285 #[.val (.int p1), .val (.int p2), .val (.int p3), .val (.int p4), .val (.int p5), .val (.ref b1), .val (.int xa), .val (.int xb), .val (.int xc), .val (.int xd), .val (.ref r19), .val (.ref r2), .val (.ref b38), .val (.int (own_got (own_Q2 [y0, y1, y2] xa xb))), .val (.int (own_got (own_Q5 [y0, y1, y2] xa xb xc xd))), .val (.int (1 : Int32)), .unset] [])) _
      refine XS.iload X56.here hx rfl (hb hby at_285) rfl ?_
      show Steps p.tables e below (T56.setTop (mkF m 287 #[.val (.int p1), .val (.int p2), .val (.int p3), .val (.int p4), .val (.int p5), .val (.ref b1), .val (.int xa), .val (.int xb), .val (.int xc), .val (.int xd), .val (.ref r19), .val (.ref r2), .val (.ref b38), .val (.int (own_got (own_Q2 [y0, y1, y2] xa xb))), .val (.int (own_got (own_Q5 [y0, y1, y2] xa xb xc xd))), .val (.int (1 : Int32)), .unset] [(.int (1 : Int32))])) _
      refine XS.ifNo X56.here hx rfl (hb hby at_287) rfl ((if0 _ _).trans (feq (by decide)).1) ?_
      show Steps p.tables e below (T56.setTop (mkF m 290 #[.val (.int p1), .val (.int p2), .val (.int p3), .val (.int p4), .val (.int p5), .val (.ref b1), .val (.int xa), .val (.int xb), .val (.int xc), .val (.int xd), .val (.ref r19), .val (.ref r2), .val (.ref b38), .val (.int (own_got (own_Q2 [y0, y1, y2] xa xb))), .val (.int (own_got (own_Q5 [y0, y1, y2] xa xb xc xd))), .val (.int (1 : Int32)), .unset] [])) _
      refine XS.aload X56.here hx rfl (hb hby at_290) rfl rfl ?_
      show Steps p.tables e below (T56.setTop (mkF m 292 #[.val (.int p1), .val (.int p2), .val (.int p3), .val (.int p4), .val (.int p5), .val (.ref b1), .val (.int xa), .val (.int xb), .val (.int xc), .val (.int xd), .val (.ref r19), .val (.ref r2), .val (.ref b38), .val (.int (own_got (own_Q2 [y0, y1, y2] xa xb))), .val (.int (own_got (own_Q5 [y0, y1, y2] xa xb xc xd))), .val (.int (1 : Int32)), .unset] [(.ref b38)])) _
      refine st64.trans ?_
      show Steps p.tables e below (T64.setTop (mkF m 295 #[.val (.int p1), .val (.int p2), .val (.int p3), .val (.int p4), .val (.int p5), .val (.ref b1), .val (.int xa), .val (.int xb), .val (.int xc), .val (.int xd), .val (.ref r19), .val (.ref r2), .val (.ref b38), .val (.int (own_got (own_Q2 [y0, y1, y2] xa xb))), .val (.int (own_got (own_Q5 [y0, y1, y2] xa xb xc xd))), .val (.int (1 : Int32)), .unset] [(.int (1 : Int32))])) _
      refine XS.ifNo X64.here hx rfl (hb hby at_295) rfl ((if0 _ _).trans (feq (by decide)).1) ?_
      show Steps p.tables e below (T64.setTop (mkF m 298 #[.val (.int p1), .val (.int p2), .val (.int p3), .val (.int p4), .val (.int p5), .val (.ref b1), .val (.int xa), .val (.int xb), .val (.int xc), .val (.int xd), .val (.ref r19), .val (.ref r2), .val (.ref b38), .val (.int (own_got (own_Q2 [y0, y1, y2] xa xb))), .val (.int (own_got (own_Q5 [y0, y1, y2] xa xb xc xd))), .val (.int (1 : Int32)), .unset] [])) _
      refine XS.iconst X64.here hx rfl (hb hby at_298) ?_
      show Steps p.tables e below (T64.setTop (mkF m 299 #[.val (.int p1), .val (.int p2), .val (.int p3), .val (.int p4), .val (.int p5), .val (.ref b1), .val (.int xa), .val (.int xb), .val (.int xc), .val (.int xd), .val (.ref r19), .val (.ref r2), .val (.ref b38), .val (.int (own_got (own_Q2 [y0, y1, y2] xa xb))), .val (.int (own_got (own_Q5 [y0, y1, y2] xa xb xc xd))), .val (.int (1 : Int32)), .unset] [(.int (1 : Int32))])) _
      refine XS.goto X64.here hx rfl (pc0 := 299) (pc' := 303) rfl (hb hby at_299) (by decide) (by decide) ?_
      show Steps p.tables e below (T64.setTop (mkF m 303 #[.val (.int p1), .val (.int p2), .val (.int p3), .val (.int p4), .val (.int p5), .val (.ref b1), .val (.int xa), .val (.int xb), .val (.int xc), .val (.int xd), .val (.ref r19), .val (.ref r2), .val (.ref b38), .val (.int (own_got (own_Q2 [y0, y1, y2] xa xb))), .val (.int (own_got (own_Q5 [y0, y1, y2] xa xb xc xd))), .val (.int (1 : Int32)), .unset] [(.int (1 : Int32))])) _
      exact retN X64 hx (t := .boolean) Bd.returns (by simp) (hb hby at_303) hr
    · show Q_rm0 Z p1 p2 p3 p4 p5 h0 n0 _ T64.heap _
      rw [e64]
      exact ⟨rfl, N64, trivial⟩
  · obtain ⟨q_t7, q_g7, q_m7, q_r8⟩ := q_r g2
    obtain ⟨cq65, kq65, q65a, q65b, q65c⟩ := isOf hZ rfl EQ56
    obtain ⟨_, _, ⟨T65, L65, k65, n65⟩, -, X65, ⟨Lc65, hQ65, l65, y65, z65⟩, st65⟩ := X56.virtualBack hx (y := (⟨"com/example/contrepoint/contrepoint/IndexQueue", "take", "()I"⟩ : MethodName)) (z := (⟨"com/example/contrepoint/contrepoint/IndexQueue", "take", "()I"⟩ : MethodName)) hown (mvT hZ (hw _ (List.mem_of_getElem? (i := 43) rfl))) (mvT hZ (hw _ (List.mem_of_getElem? (i := 44) rfl))) (notFace_of_selects (args := #[]) (mvT hZ (hw _ (List.mem_of_getElem? (i := 46) rfl)))) (mvT hZ (hw _ (List.mem_of_getElem? (i := 46) rfl))) (mvT hZ (hw _ (List.mem_of_getElem? (i := 45) rfl))) (by decide) (backOf (W := 0) (rmT l Z a0 hw [] b38 bl bw br r0 r1 bf bc [y0, y1, y2] (own_Q6 [y0, y1, y2] xa xb xc xd) T56.heap n0 (Nat.le_trans Z0 K57.1) gn_b38 od42 QI56 q_t7) hZ (hw _ (List.mem_of_getElem? (i := 47) rfl)) (hw _ (List.mem_of_getElem? (i := 9) rfl)) (by decide) (by decide)) q65a q65c (g := (mkF m 223 #[.val (.int p1), .val (.int p2), .val (.int p3), .val (.int p4), .val (.int p5), .val (.ref b1), .val (.int xa), .val (.int xb), .val (.int xc), .val (.int xd), .val (.ref r19), .val (.ref r2), .val (.ref b38), .val (.int (own_got (own_Q2 [y0, y1, y2] xa xb))), .val (.int (own_got (own_Q5 [y0, y1, y2] xa xb xc xd))), .val (.int (1 : Int32)), .unset] [(.ref b38)])) rfl (by rw [hml]; rfl) (Steps.refl _) (argsL := []) (rest := []) (lenOf pd_3 rfl) rfl (by show 2 * 0 + _ ≤ _; exact Nat.le_of_eq rfl) (hb hby at_223) (fun _ _ => ⟨rfl, rfl, (by decide : 13 + 0 ≤ _), (by decide : 40 + 0 ≤ _)⟩)
    dsimp only [Pt.U, Pt.locs, Pt.cells, Pt.slots] at X65 l65 y65 z65 st65 hQ65
    subst l65 y65 z65
    obtain ⟨rfl, N65q, K65, QI65⟩ := hQ65
    have N65 := Fr.app N56 N65q
    have K66 : Keep h0 T65.heap [] := K57.trans K65 (allS (Or.inr (by omega)) (allS (Or.inr (by omega)) (allS (Or.inr (by omega)) all0)))
    have EQ65 := own_QI_E QI65
    have f_67 := (f_59.keep K65 (ninS (Nat.ne_of_lt (by omega)) (ninS (Nat.ne_of_lt (by omega)) (ninS (Nat.ne_of_lt (by omega)) nin0))))
    obtain ⟨cl68, Arcl68, qcl68, Scl68, Ncl68, Hcl68, Gcl68⟩ := id f_67
    have hincl68 : ¬ ((2 : Int32) < 0 ∨ cl68.slots.size ≤ ((2 : Int32)).toNatClampNeg) := inb_of Scl68 ⟨by decide, by decide⟩
    have hatcl68 : cl68.slots[((2 : Int32)).toNatClampNeg]? = some (.int (lE2.getD 2 0)) := Hcl68.at hincl68 (own_gm lE2 2)
    obtain ⟨cl69, Arcl69, qcl69, Scl69, Ncl69, Hcl69, Gcl69⟩ := id f_67
    have hincl69 : ¬ ((0 : Int32) < 0 ∨ cl69.slots.size ≤ ((0 : Int32)).toNatClampNeg) := inb_of Scl69 ⟨by decide, by decide⟩
    have hatcl69 : cl69.slots[((0 : Int32)).toNatClampNeg]? = some (.int (lE2.getD 0 0)) := Hcl69.at hincl69 (own_gm lE2 0)
    have pre70 : ∀ t, Steps p.tables e below (T65.setTop (mkF m 254 #[.val (.int p1), .val (.int p2), .val (.int p3), .val (.int p4), .val (.int p5), .val (.ref b1), .val (.int xa), .val (.int xb), .val (.int xc), .val (.int xd), .val (.ref r19), .val (.ref r2), .val (.ref b38), .val (.int (own_got (own_Q2 [y0, y1, y2] xa xb))), .val (.int (own_got (own_Q5 [y0, y1, y2] xa xb xc xd))), .val (.int (1 : Int32)), .val (.int (own_got (own_Q6 [y0, y1, y2] xa xb xc xd)))] [(.int (3 : Int32)), (.int (lE2.getD 0 0))])) t → Steps p.tables e below S0 t := by
      intro t k
      refine pre62 t ?_
      show Steps p.tables e below (T56.setTop (mkF m 218 #[.val (.int p1), .val (.int p2), .val (.int p3), .val (.int p4), .val (.int p5), .val (.ref b1), .val (.int xa), .val (.int xb), .val (.int xc), .val (.int xd), .val (.ref r19), .val (.ref r2), .val (.ref b38), .val (.int (own_got (own_Q2 [y0, y1, y2] xa xb))), .val (.int (own_got (own_Q5 [y0, y1, y2] xa xb xc xd))), .val (.int (1 : Int32)), .unset] [(.int (2 : Int32)), (.int (lE2.getD 0 0))])) _
      refine XS.icmpNo X56.here hx rfl (hb hby at_218) rfl (flt g2).1 ?_
      show Steps p.tables e below (T56.setTop (mkF m 221 #[.val (.int p1), .val (.int p2), .val (.int p3), .val (.int p4), .val (.int p5), .val (.ref b1), .val (.int xa), .val (.int xb), .val (.int xc), .val (.int xd), .val (.ref r19), .val (.ref r2), .val (.ref b38), .val (.int (own_got (own_Q2 [y0, y1, y2] xa xb))), .val (.int (own_got (own_Q5 [y0, y1, y2] xa xb xc xd))), .val (.int (1 : Int32)), .unset] [])) _
      refine XS.aload X56.here hx rfl (hb hby at_221) rfl rfl ?_
      show Steps p.tables e below (T56.setTop (mkF m 223 #[.val (.int p1), .val (.int p2), .val (.int p3), .val (.int p4), .val (.int p5), .val (.ref b1), .val (.int xa), .val (.int xb), .val (.int xc), .val (.int xd), .val (.ref r19), .val (.ref r2), .val (.ref b38), .val (.int (own_got (own_Q2 [y0, y1, y2] xa xb))), .val (.int (own_got (own_Q5 [y0, y1, y2] xa xb xc xd))), .val (.int (1 : Int32)), .unset] [(.ref b38)])) _
      refine st65.trans ?_
      show Steps p.tables e below (T65.setTop (mkF m 226 #[.val (.int p1), .val (.int p2), .val (.int p3), .val (.int p4), .val (.int p5), .val (.ref b1), .val (.int xa), .val (.int xb), .val (.int xc), .val (.int xd), .val (.ref r19), .val (.ref r2), .val (.ref b38), .val (.int (own_got (own_Q2 [y0, y1, y2] xa xb))), .val (.int (own_got (own_Q5 [y0, y1, y2] xa xb xc xd))), .val (.int (1 : Int32)), .unset] [(.int (own_got (own_Q6 [y0, y1, y2] xa xb xc xd)))])) _
      refine XS.istore X65.here hx rfl (hb hby at_226) rfl (l' := #[.val (.int p1), .val (.int p2), .val (.int p3), .val (.int p4), .val (.int p5), .val (.ref b1), .val (.int xa), .val (.int xb), .val (.int xc), .val (.int xd), .val (.ref r19), .val (.ref r2), .val (.ref b38), .val (.int (own_got (own_Q2 [y0, y1, y2] xa xb))), .val (.int (own_got (own_Q5 [y0, y1, y2] xa xb xc xd))), .val (.int (1 : Int32)), .val (.int (own_got (own_Q6 [y0, y1, y2] xa xb xc xd)))]) rfl ?_
      show Steps p.tables e below (T65.setTop (mkF m 228 #[.val (.int p1), .val (.int p2), .val (.int p3), .val (.int p4), .val (.int p5), .val (.ref b1), .val (.int xa), .val (.int xb), .val (.int xc), .val (.int xd), .val (.ref r19), .val (.ref r2), .val (.ref b38), .val (.int (own_got (own_Q2 [y0, y1, y2] xa xb))), .val (.int (own_got (own_Q5 [y0, y1, y2] xa xb xc xd))), .val (.int (1 : Int32)), .val (.int (own_got (own_Q6 [y0, y1, y2] xa xb xc xd)))] [])) _
      refine XS.iload X65.here hx rfl (hb hby at_228) rfl ?_
      show Steps p.tables e below (T65.setTop (mkF m 230 #[.val (.int p1), .val (.int p2), .val (.int p3), .val (.int p4), .val (.int p5), .val (.ref b1), .val (.int xa), .val (.int xb), .val (.int xc), .val (.int xd), .val (.ref r19), .val (.ref r2), .val (.ref b38), .val (.int (own_got (own_Q2 [y0, y1, y2] xa xb))), .val (.int (own_got (own_Q5 [y0, y1, y2] xa xb xc xd))), .val (.int (1 : Int32)), .val (.int (own_got (own_Q6 [y0, y1, y2] xa xb xc xd)))] [(.int (1 : Int32))])) _
      refine XS.ifNo X65.here hx rfl (hb hby at_230) rfl ((if0 _ _).trans (feq (by decide)).1) ?_
      show Steps p.tables e below (T65.setTop (mkF m 233 #[.val (.int p1), .val (.int p2), .val (.int p3), .val (.int p4), .val (.int p5), .val (.ref b1), .val (.int xa), .val (.int xb), .val (.int xc), .val (.int xd), .val (.ref r19), .val (.ref r2), .val (.ref b38), .val (.int (own_got (own_Q2 [y0, y1, y2] xa xb))), .val (.int (own_got (own_Q5 [y0, y1, y2] xa xb xc xd))), .val (.int (1 : Int32)), .val (.int (own_got (own_Q6 [y0, y1, y2] xa xb xc xd)))] [])) _
      refine XS.iload X65.here hx rfl (hb hby at_233) rfl ?_
      show Steps p.tables e below (T65.setTop (mkF m 235 #[.val (.int p1), .val (.int p2), .val (.int p3), .val (.int p4), .val (.int p5), .val (.ref b1), .val (.int xa), .val (.int xb), .val (.int xc), .val (.int xd), .val (.ref r19), .val (.ref r2), .val (.ref b38), .val (.int (own_got (own_Q2 [y0, y1, y2] xa xb))), .val (.int (own_got (own_Q5 [y0, y1, y2] xa xb xc xd))), .val (.int (1 : Int32)), .val (.int (own_got (own_Q6 [y0, y1, y2] xa xb xc xd)))] [(.int (own_got (own_Q6 [y0, y1, y2] xa xb xc xd)))])) _
      refine XS.aload X65.here hx rfl (hb hby at_235) rfl rfl ?_
      show Steps p.tables e below (T65.setTop (mkF m 237 #[.val (.int p1), .val (.int p2), .val (.int p3), .val (.int p4), .val (.int p5), .val (.ref b1), .val (.int xa), .val (.int xb), .val (.int xc), .val (.int xd), .val (.ref r19), .val (.ref r2), .val (.ref b38), .val (.int (own_got (own_Q2 [y0, y1, y2] xa xb))), .val (.int (own_got (own_Q5 [y0, y1, y2] xa xb xc xd))), .val (.int (1 : Int32)), .val (.int (own_got (own_Q6 [y0, y1, y2] xa xb xc xd)))] [(.ref r2), (.int (own_got (own_Q6 [y0, y1, y2] xa xb xc xd)))])) _
      refine XS.iconst X65.here hx rfl (hb hby at_237) ?_
      show Steps p.tables e below (T65.setTop (mkF m 238 #[.val (.int p1), .val (.int p2), .val (.int p3), .val (.int p4), .val (.int p5), .val (.ref b1), .val (.int xa), .val (.int xb), .val (.int xc), .val (.int xd), .val (.ref r19), .val (.ref r2), .val (.ref b38), .val (.int (own_got (own_Q2 [y0, y1, y2] xa xb))), .val (.int (own_got (own_Q5 [y0, y1, y2] xa xb xc xd))), .val (.int (1 : Int32)), .val (.int (own_got (own_Q6 [y0, y1, y2] xa xb xc xd)))] [(.int (2 : Int32)), (.ref r2), (.int (own_got (own_Q6 [y0, y1, y2] xa xb xc xd)))])) _
      refine X65.iaload hx (j := (2 : Int32)) (v := (.int (lE2.getD 2 0))) Arcl68.1 (State.isArrayOf_alike hZ.alike Arcl68.2.1) Arcl68.2.2 hincl68 hatcl68 (g := (mkF m 238 #[.val (.int p1), .val (.int p2), .val (.int p3), .val (.int p4), .val (.int p5), .val (.ref b1), .val (.int xa), .val (.int xb), .val (.int xc), .val (.int xd), .val (.ref r19), .val (.ref r2), .val (.ref b38), .val (.int (own_got (own_Q2 [y0, y1, y2] xa xb))), .val (.int (own_got (own_Q5 [y0, y1, y2] xa xb xc xd))), .val (.int (1 : Int32)), .val (.int (own_got (own_Q6 [y0, y1, y2] xa xb xc xd)))] [(.int (2 : Int32)), (.ref r2), (.int (own_got (own_Q6 [y0, y1, y2] xa xb xc xd)))])) rfl rfl (hb hby at_238) _ ?_
      show Steps p.tables e below (T65.setTop (mkF m 239 #[.val (.int p1), .val (.int p2), .val (.int p3), .val (.int p4), .val (.int p5), .val (.ref b1), .val (.int xa), .val (.int xb), .val (.int xc), .val (.int xd), .val (.ref r19), .val (.ref r2), .val (.ref b38), .val (.int (own_got (own_Q2 [y0, y1, y2] xa xb))), .val (.int (own_got (own_Q5 [y0, y1, y2] xa xb xc xd))), .val (.int (1 : Int32)), .val (.int (own_got (own_Q6 [y0, y1, y2] xa xb xc xd)))] [(.int (lE2.getD 2 0)), (.int (own_got (own_Q6 [y0, y1, y2] xa xb xc xd)))])) _
      refine XS.icmpNo X65.here hx rfl (hb hby at_239) rfl (teq q_g7).2 ?_
      show Steps p.tables e below (T65.setTop (mkF m 242 #[.val (.int p1), .val (.int p2), .val (.int p3), .val (.int p4), .val (.int p5), .val (.ref b1), .val (.int xa), .val (.int xb), .val (.int xc), .val (.int xd), .val (.ref r19), .val (.ref r2), .val (.ref b38), .val (.int (own_got (own_Q2 [y0, y1, y2] xa xb))), .val (.int (own_got (own_Q5 [y0, y1, y2] xa xb xc xd))), .val (.int (1 : Int32)), .val (.int (own_got (own_Q6 [y0, y1, y2] xa xb xc xd)))] [])) _
      refine XS.iconst X65.here hx rfl (hb hby at_242) ?_
      show Steps p.tables e below (T65.setTop (mkF m 243 #[.val (.int p1), .val (.int p2), .val (.int p3), .val (.int p4), .val (.int p5), .val (.ref b1), .val (.int xa), .val (.int xb), .val (.int xc), .val (.int xd), .val (.ref r19), .val (.ref r2), .val (.ref b38), .val (.int (own_got (own_Q2 [y0, y1, y2] xa xb))), .val (.int (own_got (own_Q5 [y0, y1, y2] xa xb xc xd))), .val (.int (1 : Int32)), .val (.int (own_got (own_Q6 [y0, y1, y2] xa xb xc xd)))] [(.int (1 : Int32))])) _
      refine XS.goto X65.here hx rfl (pc0 := 243) (pc' := 247) rfl (hb hby at_243) (by decide) (by decide) ?_
      show Steps p.tables e below (T65.setTop (mkF m 247 #[.val (.int p1), .val (.int p2), .val (.int p3), .val (.int p4), .val (.int p5), .val (.ref b1), .val (.int xa), .val (.int xb), .val (.int xc), .val (.int xd), .val (.ref r19), .val (.ref r2), .val (.ref b38), .val (.int (own_got (own_Q2 [y0, y1, y2] xa xb))), .val (.int (own_got (own_Q5 [y0, y1, y2] xa xb xc xd))), .val (.int (1 : Int32)), .val (.int (own_got (own_Q6 [y0, y1, y2] xa xb xc xd)))] [(.int (1 : Int32))])) _
      refine XS.istore X65.here hx rfl (hb hby at_247) rfl (l' := #[.val (.int p1), .val (.int p2), .val (.int p3), .val (.int p4), .val (.int p5), .val (.ref b1), .val (.int xa), .val (.int xb), .val (.int xc), .val (.int xd), .val (.ref r19), .val (.ref r2), .val (.ref b38), .val (.int (own_got (own_Q2 [y0, y1, y2] xa xb))), .val (.int (own_got (own_Q5 [y0, y1, y2] xa xb xc xd))), .val (.int (1 : Int32)), .val (.int (own_got (own_Q6 [y0, y1, y2] xa xb xc xd)))]) rfl ?_
      show Steps p.tables e below (T65.setTop (mkF m 249 #[.val (.int p1), .val (.int p2), .val (.int p3), .val (.int p4), .val (.int p5), .val (.ref b1), .val (.int xa), .val (.int xb), .val (.int xc), .val (.int xd), .val (.ref r19), .val (.ref r2), .val (.ref b38), .val (.int (own_got (own_Q2 [y0, y1, y2] xa xb))), .val (.int (own_got (own_Q5 [y0, y1, y2] xa xb xc xd))), .val (.int (1 : Int32)), .val (.int (own_got (own_Q6 [y0, y1, y2] xa xb xc xd)))] [])) _
      refine XS.aload X65.here hx rfl (hb hby at_249) rfl rfl ?_
      show Steps p.tables e below (T65.setTop (mkF m 251 #[.val (.int p1), .val (.int p2), .val (.int p3), .val (.int p4), .val (.int p5), .val (.ref b1), .val (.int xa), .val (.int xb), .val (.int xc), .val (.int xd), .val (.ref r19), .val (.ref r2), .val (.ref b38), .val (.int (own_got (own_Q2 [y0, y1, y2] xa xb))), .val (.int (own_got (own_Q5 [y0, y1, y2] xa xb xc xd))), .val (.int (1 : Int32)), .val (.int (own_got (own_Q6 [y0, y1, y2] xa xb xc xd)))] [(.ref r2)])) _
      refine XS.iconst X65.here hx rfl (hb hby at_251) ?_
      show Steps p.tables e below (T65.setTop (mkF m 252 #[.val (.int p1), .val (.int p2), .val (.int p3), .val (.int p4), .val (.int p5), .val (.ref b1), .val (.int xa), .val (.int xb), .val (.int xc), .val (.int xd), .val (.ref r19), .val (.ref r2), .val (.ref b38), .val (.int (own_got (own_Q2 [y0, y1, y2] xa xb))), .val (.int (own_got (own_Q5 [y0, y1, y2] xa xb xc xd))), .val (.int (1 : Int32)), .val (.int (own_got (own_Q6 [y0, y1, y2] xa xb xc xd)))] [(.int (0 : Int32)), (.ref r2)])) _
      refine X65.iaload hx (j := (0 : Int32)) (v := (.int (lE2.getD 0 0))) Arcl69.1 (State.isArrayOf_alike hZ.alike Arcl69.2.1) Arcl69.2.2 hincl69 hatcl69 (g := (mkF m 252 #[.val (.int p1), .val (.int p2), .val (.int p3), .val (.int p4), .val (.int p5), .val (.ref b1), .val (.int xa), .val (.int xb), .val (.int xc), .val (.int xd), .val (.ref r19), .val (.ref r2), .val (.ref b38), .val (.int (own_got (own_Q2 [y0, y1, y2] xa xb))), .val (.int (own_got (own_Q5 [y0, y1, y2] xa xb xc xd))), .val (.int (1 : Int32)), .val (.int (own_got (own_Q6 [y0, y1, y2] xa xb xc xd)))] [(.int (0 : Int32)), (.ref r2)])) rfl rfl (hb hby at_252) _ ?_
      show Steps p.tables e below (T65.setTop (mkF m 253 #[.val (.int p1), .val (.int p2), .val (.int p3), .val (.int p4), .val (.int p5), .val (.ref b1), .val (.int xa), .val (.int xb), .val (.int xc), .val (.int xd), .val (.ref r19), .val (.ref r2), .val (.ref b38), .val (.int (own_got (own_Q2 [y0, y1, y2] xa xb))), .val (.int (own_got (own_Q5 [y0, y1, y2] xa xb xc xd))), .val (.int (1 : Int32)), .val (.int (own_got (own_Q6 [y0, y1, y2] xa xb xc xd)))] [(.int (lE2.getD 0 0))])) _
      refine XS.iconst X65.here hx rfl (hb hby at_253) ?_
      exact k
    by_cases g3 : lE2.getD 0 0 < (3 : Int32)
    · obtain ⟨cq71, kq71, q71a, q71b, q71c⟩ := isOf hZ rfl EQ65
      obtain ⟨_, _, ⟨T71, L71, k71, n71⟩, -, X71, ⟨Lc71, hQ71, l71, y71, z71⟩, st71⟩ := X65.virtualBack hx (y := (⟨"com/example/contrepoint/contrepoint/IndexQueue", "isEmpty", "()Z"⟩ : MethodName)) (z := (⟨"com/example/contrepoint/contrepoint/IndexQueue", "isEmpty", "()Z"⟩ : MethodName)) hown (mvT hZ (hw _ (List.mem_of_getElem? (i := 48) rfl))) (mvT hZ (hw _ (List.mem_of_getElem? (i := 49) rfl))) (notFace_of_selects (args := #[]) (mvT hZ (hw _ (List.mem_of_getElem? (i := 51) rfl)))) (mvT hZ (hw _ (List.mem_of_getElem? (i := 51) rfl))) (mvT hZ (hw _ (List.mem_of_getElem? (i := 50) rfl))) (by decide) (backOf (W := 0) (rmM l Z a0 hw [] b38 bl bw br r0 r1 bf bc [y0, y1, y2] (own_Q7 [y0, y1, y2] xa xb xc xd) T65.heap n0 (Nat.le_trans Z0 K66.1) od42 QI65 (q_m7 g3)) hZ (hw _ (List.mem_of_getElem? (i := 52) rfl)) (hw _ (List.mem_of_getElem? (i := 9) rfl)) (by decide) (by decide)) q71a q71c (g := (mkF m 292 #[.val (.int p1), .val (.int p2), .val (.int p3), .val (.int p4), .val (.int p5), .val (.ref b1), .val (.int xa), .val (.int xb), .val (.int xc), .val (.int xd), .val (.ref r19), .val (.ref r2), .val (.ref b38), .val (.int (own_got (own_Q2 [y0, y1, y2] xa xb))), .val (.int (own_got (own_Q5 [y0, y1, y2] xa xb xc xd))), .val (.int (1 : Int32)), .val (.int (own_got (own_Q6 [y0, y1, y2] xa xb xc xd)))] [(.ref b38)])) rfl (by rw [hml]; rfl) (Steps.refl _) (argsL := []) (rest := []) (lenOf pd_4 rfl) rfl (by show 2 * 0 + _ ≤ _; exact Nat.le_of_eq rfl) (hb hby at_292) (fun _ _ => ⟨rfl, rfl, (by decide : 13 + 0 ≤ _), (by decide : 40 + 0 ≤ _)⟩)
      dsimp only [Pt.U, Pt.locs, Pt.cells, Pt.slots] at X71 l71 y71 z71 st71 hQ71
      subst l71 y71 z71
      obtain ⟨rfl, N71q, eq71⟩ := hQ71
      have N71 := Fr.app N65 N71q
      have e71 : T71.heap = T65.heap := eq71
      obtain ⟨fs, hr, hrun, hended, hW, hsame⟩ := X71.leave (v := some (.int (1 : Int32))) (fun h => by rw [Bd.returns] at h; cases h) Bd.notSynchronized
      refine ⟨_, _, pre70 _ ?_, hrun, hended, _, _, rfl, ?_, ⟨_, rfl⟩, hW, hsame.mono (by decide) (by decide)⟩
      · show Steps p.tables e below (T65.setTop (mkF m 254 #[.val (.int p1), .val (.int p2), .val (.int p3), .val (.int p4), .val (.int p5), .val (.ref b1), .val (.int xa), .val (.int xb), .val (.int xc), .val (.int xd), .val (.ref r19), .val (.ref r2), .val (.ref b38), .val (.int (own_got (own_Q2 [y0, y1, y2] xa xb))), .val (.int (own_got (own_Q5 [y0, y1, y2] xa xb xc xd))), .val (.int (1 : Int32)), .val (.int (own_got (own_Q6 [y0, y1, y2] xa xb xc xd)))] [(.int (3 : Int32)), (.int (lE2.getD 0 0))])) _
        refine XS.icmpYes X65.here hx rfl (pc0 := 254) (pc' := 285) rfl (hb hby at_254) rfl (tlt g3).1 (by decide) (by decide) ?_
        show Steps p.tables e below (T65.setTop (mkF m 285 #[.val (.int p1), .val (.int p2), .val (.int p3), .val (.int p4), .val (.int p5), .val (.ref b1), .val (.int xa), .val (.int xb), .val (.int xc), .val (.int xd), .val (.ref r19), .val (.ref r2), .val (.ref b38), .val (.int (own_got (own_Q2 [y0, y1, y2] xa xb))), .val (.int (own_got (own_Q5 [y0, y1, y2] xa xb xc xd))), .val (.int (1 : Int32)), .val (.int (own_got (own_Q6 [y0, y1, y2] xa xb xc xd)))] [])) _
        refine XS.iload X65.here hx rfl (hb hby at_285) rfl ?_
        show Steps p.tables e below (T65.setTop (mkF m 287 #[.val (.int p1), .val (.int p2), .val (.int p3), .val (.int p4), .val (.int p5), .val (.ref b1), .val (.int xa), .val (.int xb), .val (.int xc), .val (.int xd), .val (.ref r19), .val (.ref r2), .val (.ref b38), .val (.int (own_got (own_Q2 [y0, y1, y2] xa xb))), .val (.int (own_got (own_Q5 [y0, y1, y2] xa xb xc xd))), .val (.int (1 : Int32)), .val (.int (own_got (own_Q6 [y0, y1, y2] xa xb xc xd)))] [(.int (1 : Int32))])) _
        refine XS.ifNo X65.here hx rfl (hb hby at_287) rfl ((if0 _ _).trans (feq (by decide)).1) ?_
        show Steps p.tables e below (T65.setTop (mkF m 290 #[.val (.int p1), .val (.int p2), .val (.int p3), .val (.int p4), .val (.int p5), .val (.ref b1), .val (.int xa), .val (.int xb), .val (.int xc), .val (.int xd), .val (.ref r19), .val (.ref r2), .val (.ref b38), .val (.int (own_got (own_Q2 [y0, y1, y2] xa xb))), .val (.int (own_got (own_Q5 [y0, y1, y2] xa xb xc xd))), .val (.int (1 : Int32)), .val (.int (own_got (own_Q6 [y0, y1, y2] xa xb xc xd)))] [])) _
        refine XS.aload X65.here hx rfl (hb hby at_290) rfl rfl ?_
        show Steps p.tables e below (T65.setTop (mkF m 292 #[.val (.int p1), .val (.int p2), .val (.int p3), .val (.int p4), .val (.int p5), .val (.ref b1), .val (.int xa), .val (.int xb), .val (.int xc), .val (.int xd), .val (.ref r19), .val (.ref r2), .val (.ref b38), .val (.int (own_got (own_Q2 [y0, y1, y2] xa xb))), .val (.int (own_got (own_Q5 [y0, y1, y2] xa xb xc xd))), .val (.int (1 : Int32)), .val (.int (own_got (own_Q6 [y0, y1, y2] xa xb xc xd)))] [(.ref b38)])) _
        refine st71.trans ?_
        show Steps p.tables e below (T71.setTop (mkF m 295 #[.val (.int p1), .val (.int p2), .val (.int p3), .val (.int p4), .val (.int p5), .val (.ref b1), .val (.int xa), .val (.int xb), .val (.int xc), .val (.int xd), .val (.ref r19), .val (.ref r2), .val (.ref b38), .val (.int (own_got (own_Q2 [y0, y1, y2] xa xb))), .val (.int (own_got (own_Q5 [y0, y1, y2] xa xb xc xd))), .val (.int (1 : Int32)), .val (.int (own_got (own_Q6 [y0, y1, y2] xa xb xc xd)))] [(.int (1 : Int32))])) _
        refine XS.ifNo X71.here hx rfl (hb hby at_295) rfl ((if0 _ _).trans (feq (by decide)).1) ?_
        show Steps p.tables e below (T71.setTop (mkF m 298 #[.val (.int p1), .val (.int p2), .val (.int p3), .val (.int p4), .val (.int p5), .val (.ref b1), .val (.int xa), .val (.int xb), .val (.int xc), .val (.int xd), .val (.ref r19), .val (.ref r2), .val (.ref b38), .val (.int (own_got (own_Q2 [y0, y1, y2] xa xb))), .val (.int (own_got (own_Q5 [y0, y1, y2] xa xb xc xd))), .val (.int (1 : Int32)), .val (.int (own_got (own_Q6 [y0, y1, y2] xa xb xc xd)))] [])) _
        refine XS.iconst X71.here hx rfl (hb hby at_298) ?_
        show Steps p.tables e below (T71.setTop (mkF m 299 #[.val (.int p1), .val (.int p2), .val (.int p3), .val (.int p4), .val (.int p5), .val (.ref b1), .val (.int xa), .val (.int xb), .val (.int xc), .val (.int xd), .val (.ref r19), .val (.ref r2), .val (.ref b38), .val (.int (own_got (own_Q2 [y0, y1, y2] xa xb))), .val (.int (own_got (own_Q5 [y0, y1, y2] xa xb xc xd))), .val (.int (1 : Int32)), .val (.int (own_got (own_Q6 [y0, y1, y2] xa xb xc xd)))] [(.int (1 : Int32))])) _
        refine XS.goto X71.here hx rfl (pc0 := 299) (pc' := 303) rfl (hb hby at_299) (by decide) (by decide) ?_
        show Steps p.tables e below (T71.setTop (mkF m 303 #[.val (.int p1), .val (.int p2), .val (.int p3), .val (.int p4), .val (.int p5), .val (.ref b1), .val (.int xa), .val (.int xb), .val (.int xc), .val (.int xd), .val (.ref r19), .val (.ref r2), .val (.ref b38), .val (.int (own_got (own_Q2 [y0, y1, y2] xa xb))), .val (.int (own_got (own_Q5 [y0, y1, y2] xa xb xc xd))), .val (.int (1 : Int32)), .val (.int (own_got (own_Q6 [y0, y1, y2] xa xb xc xd)))] [(.int (1 : Int32))])) _
        exact retN X71 hx (t := .boolean) Bd.returns (by simp) (hb hby at_303) hr
      · show Q_rm0 Z p1 p2 p3 p4 p5 h0 n0 _ T71.heap _
        rw [e71]
        exact ⟨rfl, N71, trivial⟩
    · obtain ⟨q_t8, q_g8, q_m8⟩ := q_r8 g3
      obtain ⟨cq72, kq72, q72a, q72b, q72c⟩ := isOf hZ rfl EQ65
      obtain ⟨_, _, ⟨T72, L72, k72, n72⟩, -, X72, ⟨Lc72, hQ72, l72, y72, z72⟩, st72⟩ := X65.virtualBack hx (y := (⟨"com/example/contrepoint/contrepoint/IndexQueue", "take", "()I"⟩ : MethodName)) (z := (⟨"com/example/contrepoint/contrepoint/IndexQueue", "take", "()I"⟩ : MethodName)) hown (mvT hZ (hw _ (List.mem_of_getElem? (i := 43) rfl))) (mvT hZ (hw _ (List.mem_of_getElem? (i := 44) rfl))) (notFace_of_selects (args := #[]) (mvT hZ (hw _ (List.mem_of_getElem? (i := 46) rfl)))) (mvT hZ (hw _ (List.mem_of_getElem? (i := 46) rfl))) (mvT hZ (hw _ (List.mem_of_getElem? (i := 45) rfl))) (by decide) (backOf (W := 0) (rmT l Z a0 hw [] b38 bl bw br r0 r1 bf bc [y0, y1, y2] (own_Q7 [y0, y1, y2] xa xb xc xd) T65.heap n0 (Nat.le_trans Z0 K66.1) gn_b38 od42 QI65 q_t8) hZ (hw _ (List.mem_of_getElem? (i := 47) rfl)) (hw _ (List.mem_of_getElem? (i := 9) rfl)) (by decide) (by decide)) q72a q72c (g := (mkF m 259 #[.val (.int p1), .val (.int p2), .val (.int p3), .val (.int p4), .val (.int p5), .val (.ref b1), .val (.int xa), .val (.int xb), .val (.int xc), .val (.int xd), .val (.ref r19), .val (.ref r2), .val (.ref b38), .val (.int (own_got (own_Q2 [y0, y1, y2] xa xb))), .val (.int (own_got (own_Q5 [y0, y1, y2] xa xb xc xd))), .val (.int (1 : Int32)), .val (.int (own_got (own_Q6 [y0, y1, y2] xa xb xc xd)))] [(.ref b38)])) rfl (by rw [hml]; rfl) (Steps.refl _) (argsL := []) (rest := []) (lenOf pd_3 rfl) rfl (by show 2 * 0 + _ ≤ _; exact Nat.le_of_eq rfl) (hb hby at_259) (fun _ _ => ⟨rfl, rfl, (by decide : 13 + 0 ≤ _), (by decide : 40 + 0 ≤ _)⟩)
      dsimp only [Pt.U, Pt.locs, Pt.cells, Pt.slots] at X72 l72 y72 z72 st72 hQ72
      subst l72 y72 z72
      obtain ⟨rfl, N72q, K72, QI72⟩ := hQ72
      have N72 := Fr.app N65 N72q
      have K73 : Keep h0 T72.heap [] := K66.trans K72 (allS (Or.inr (by omega)) (allS (Or.inr (by omega)) (allS (Or.inr (by omega)) all0)))
      have EQ72 := own_QI_E QI72
      have f_74 := (f_67.keep K72 (ninS (Nat.ne_of_lt (by omega)) (ninS (Nat.ne_of_lt (by omega)) (ninS (Nat.ne_of_lt (by omega)) nin0))))
      obtain ⟨cl75, Arcl75, qcl75, Scl75, Ncl75, Hcl75, Gcl75⟩ := id f_74
      have hincl75 : ¬ ((3 : Int32) < 0 ∨ cl75.slots.size ≤ ((3 : Int32)).toNatClampNeg) := inb_of Scl75 ⟨by decide, by decide⟩
      have hatcl75 : cl75.slots[((3 : Int32)).toNatClampNeg]? = some (.int (lE2.getD 3 0)) := Hcl75.at hincl75 (own_gm lE2 3)
      obtain ⟨cq76, kq76, q76a, q76b, q76c⟩ := isOf hZ rfl EQ72
      obtain ⟨_, _, ⟨T76, L76, k76, n76⟩, -, X76, ⟨Lc76, hQ76, l76, y76, z76⟩, st76⟩ := X72.virtualBack hx (y := (⟨"com/example/contrepoint/contrepoint/IndexQueue", "isEmpty", "()Z"⟩ : MethodName)) (z := (⟨"com/example/contrepoint/contrepoint/IndexQueue", "isEmpty", "()Z"⟩ : MethodName)) hown (mvT hZ (hw _ (List.mem_of_getElem? (i := 48) rfl))) (mvT hZ (hw _ (List.mem_of_getElem? (i := 49) rfl))) (notFace_of_selects (args := #[]) (mvT hZ (hw _ (List.mem_of_getElem? (i := 51) rfl)))) (mvT hZ (hw _ (List.mem_of_getElem? (i := 51) rfl))) (mvT hZ (hw _ (List.mem_of_getElem? (i := 50) rfl))) (by decide) (backOf (W := 0) (rmM l Z a0 hw [] b38 bl bw br r0 r1 bf bc [y0, y1, y2] (own_Q8 [y0, y1, y2] xa xb xc xd) T72.heap n0 (Nat.le_trans Z0 K73.1) od42 QI72 q_m8) hZ (hw _ (List.mem_of_getElem? (i := 52) rfl)) (hw _ (List.mem_of_getElem? (i := 9) rfl)) (by decide) (by decide)) q76a q76c (g := (mkF m 292 #[.val (.int p1), .val (.int p2), .val (.int p3), .val (.int p4), .val (.int p5), .val (.ref b1), .val (.int xa), .val (.int xb), .val (.int xc), .val (.int xd), .val (.ref r19), .val (.ref r2), .val (.ref b38), .val (.int (own_got (own_Q2 [y0, y1, y2] xa xb))), .val (.int (own_got (own_Q5 [y0, y1, y2] xa xb xc xd))), .val (.int (1 : Int32)), .val (.int (own_got (own_Q7 [y0, y1, y2] xa xb xc xd)))] [(.ref b38)])) rfl (by rw [hml]; rfl) (Steps.refl _) (argsL := []) (rest := []) (lenOf pd_4 rfl) rfl (by show 2 * 0 + _ ≤ _; exact Nat.le_of_eq rfl) (hb hby at_292) (fun _ _ => ⟨rfl, rfl, (by decide : 13 + 0 ≤ _), (by decide : 40 + 0 ≤ _)⟩)
      dsimp only [Pt.U, Pt.locs, Pt.cells, Pt.slots] at X76 l76 y76 z76 st76 hQ76
      subst l76 y76 z76
      obtain ⟨rfl, N76q, eq76⟩ := hQ76
      have N76 := Fr.app N72 N76q
      have e76 : T76.heap = T72.heap := eq76
      obtain ⟨fs, hr, hrun, hended, hW, hsame⟩ := X76.leave (v := some (.int (1 : Int32))) (fun h => by rw [Bd.returns] at h; cases h) Bd.notSynchronized
      refine ⟨_, _, pre70 _ ?_, hrun, hended, _, _, rfl, ?_, ⟨_, rfl⟩, hW, hsame.mono (by decide) (by decide)⟩
      · show Steps p.tables e below (T65.setTop (mkF m 254 #[.val (.int p1), .val (.int p2), .val (.int p3), .val (.int p4), .val (.int p5), .val (.ref b1), .val (.int xa), .val (.int xb), .val (.int xc), .val (.int xd), .val (.ref r19), .val (.ref r2), .val (.ref b38), .val (.int (own_got (own_Q2 [y0, y1, y2] xa xb))), .val (.int (own_got (own_Q5 [y0, y1, y2] xa xb xc xd))), .val (.int (1 : Int32)), .val (.int (own_got (own_Q6 [y0, y1, y2] xa xb xc xd)))] [(.int (3 : Int32)), (.int (lE2.getD 0 0))])) _
        refine XS.icmpNo X65.here hx rfl (hb hby at_254) rfl (flt g3).1 ?_
        show Steps p.tables e below (T65.setTop (mkF m 257 #[.val (.int p1), .val (.int p2), .val (.int p3), .val (.int p4), .val (.int p5), .val (.ref b1), .val (.int xa), .val (.int xb), .val (.int xc), .val (.int xd), .val (.ref r19), .val (.ref r2), .val (.ref b38), .val (.int (own_got (own_Q2 [y0, y1, y2] xa xb))), .val (.int (own_got (own_Q5 [y0, y1, y2] xa xb xc xd))), .val (.int (1 : Int32)), .val (.int (own_got (own_Q6 [y0, y1, y2] xa xb xc xd)))] [])) _
        refine XS.aload X65.here hx rfl (hb hby at_257) rfl rfl ?_
        show Steps p.tables e below (T65.setTop (mkF m 259 #[.val (.int p1), .val (.int p2), .val (.int p3), .val (.int p4), .val (.int p5), .val (.ref b1), .val (.int xa), .val (.int xb), .val (.int xc), .val (.int xd), .val (.ref r19), .val (.ref r2), .val (.ref b38), .val (.int (own_got (own_Q2 [y0, y1, y2] xa xb))), .val (.int (own_got (own_Q5 [y0, y1, y2] xa xb xc xd))), .val (.int (1 : Int32)), .val (.int (own_got (own_Q6 [y0, y1, y2] xa xb xc xd)))] [(.ref b38)])) _
        refine st72.trans ?_
        show Steps p.tables e below (T72.setTop (mkF m 262 #[.val (.int p1), .val (.int p2), .val (.int p3), .val (.int p4), .val (.int p5), .val (.ref b1), .val (.int xa), .val (.int xb), .val (.int xc), .val (.int xd), .val (.ref r19), .val (.ref r2), .val (.ref b38), .val (.int (own_got (own_Q2 [y0, y1, y2] xa xb))), .val (.int (own_got (own_Q5 [y0, y1, y2] xa xb xc xd))), .val (.int (1 : Int32)), .val (.int (own_got (own_Q6 [y0, y1, y2] xa xb xc xd)))] [(.int (own_got (own_Q7 [y0, y1, y2] xa xb xc xd)))])) _
        refine XS.istore X72.here hx rfl (hb hby at_262) rfl (l' := #[.val (.int p1), .val (.int p2), .val (.int p3), .val (.int p4), .val (.int p5), .val (.ref b1), .val (.int xa), .val (.int xb), .val (.int xc), .val (.int xd), .val (.ref r19), .val (.ref r2), .val (.ref b38), .val (.int (own_got (own_Q2 [y0, y1, y2] xa xb))), .val (.int (own_got (own_Q5 [y0, y1, y2] xa xb xc xd))), .val (.int (1 : Int32)), .val (.int (own_got (own_Q7 [y0, y1, y2] xa xb xc xd)))]) rfl ?_
        show Steps p.tables e below (T72.setTop (mkF m 264 #[.val (.int p1), .val (.int p2), .val (.int p3), .val (.int p4), .val (.int p5), .val (.ref b1), .val (.int xa), .val (.int xb), .val (.int xc), .val (.int xd), .val (.ref r19), .val (.ref r2), .val (.ref b38), .val (.int (own_got (own_Q2 [y0, y1, y2] xa xb))), .val (.int (own_got (own_Q5 [y0, y1, y2] xa xb xc xd))), .val (.int (1 : Int32)), .val (.int (own_got (own_Q7 [y0, y1, y2] xa xb xc xd)))] [])) _
        refine XS.iload X72.here hx rfl (hb hby at_264) rfl ?_
        show Steps p.tables e below (T72.setTop (mkF m 266 #[.val (.int p1), .val (.int p2), .val (.int p3), .val (.int p4), .val (.int p5), .val (.ref b1), .val (.int xa), .val (.int xb), .val (.int xc), .val (.int xd), .val (.ref r19), .val (.ref r2), .val (.ref b38), .val (.int (own_got (own_Q2 [y0, y1, y2] xa xb))), .val (.int (own_got (own_Q5 [y0, y1, y2] xa xb xc xd))), .val (.int (1 : Int32)), .val (.int (own_got (own_Q7 [y0, y1, y2] xa xb xc xd)))] [(.int (1 : Int32))])) _
        refine XS.ifNo X72.here hx rfl (hb hby at_266) rfl ((if0 _ _).trans (feq (by decide)).1) ?_
        show Steps p.tables e below (T72.setTop (mkF m 269 #[.val (.int p1), .val (.int p2), .val (.int p3), .val (.int p4), .val (.int p5), .val (.ref b1), .val (.int xa), .val (.int xb), .val (.int xc), .val (.int xd), .val (.ref r19), .val (.ref r2), .val (.ref b38), .val (.int (own_got (own_Q2 [y0, y1, y2] xa xb))), .val (.int (own_got (own_Q5 [y0, y1, y2] xa xb xc xd))), .val (.int (1 : Int32)), .val (.int (own_got (own_Q7 [y0, y1, y2] xa xb xc xd)))] [])) _
        refine XS.iload X72.here hx rfl (hb hby at_269) rfl ?_
        show Steps p.tables e below (T72.setTop (mkF m 271 #[.val (.int p1), .val (.int p2), .val (.int p3), .val (.int p4), .val (.int p5), .val (.ref b1), .val (.int xa), .val (.int xb), .val (.int xc), .val (.int xd), .val (.ref r19), .val (.ref r2), .val (.ref b38), .val (.int (own_got (own_Q2 [y0, y1, y2] xa xb))), .val (.int (own_got (own_Q5 [y0, y1, y2] xa xb xc xd))), .val (.int (1 : Int32)), .val (.int (own_got (own_Q7 [y0, y1, y2] xa xb xc xd)))] [(.int (own_got (own_Q7 [y0, y1, y2] xa xb xc xd)))])) _
        refine XS.aload X72.here hx rfl (hb hby at_271) rfl rfl ?_
        show Steps p.tables e below (T72.setTop (mkF m 273 #[.val (.int p1), .val (.int p2), .val (.int p3), .val (.int p4), .val (.int p5), .val (.ref b1), .val (.int xa), .val (.int xb), .val (.int xc), .val (.int xd), .val (.ref r19), .val (.ref r2), .val (.ref b38), .val (.int (own_got (own_Q2 [y0, y1, y2] xa xb))), .val (.int (own_got (own_Q5 [y0, y1, y2] xa xb xc xd))), .val (.int (1 : Int32)), .val (.int (own_got (own_Q7 [y0, y1, y2] xa xb xc xd)))] [(.ref r2), (.int (own_got (own_Q7 [y0, y1, y2] xa xb xc xd)))])) _
        refine XS.iconst X72.here hx rfl (hb hby at_273) ?_
        show Steps p.tables e below (T72.setTop (mkF m 274 #[.val (.int p1), .val (.int p2), .val (.int p3), .val (.int p4), .val (.int p5), .val (.ref b1), .val (.int xa), .val (.int xb), .val (.int xc), .val (.int xd), .val (.ref r19), .val (.ref r2), .val (.ref b38), .val (.int (own_got (own_Q2 [y0, y1, y2] xa xb))), .val (.int (own_got (own_Q5 [y0, y1, y2] xa xb xc xd))), .val (.int (1 : Int32)), .val (.int (own_got (own_Q7 [y0, y1, y2] xa xb xc xd)))] [(.int (3 : Int32)), (.ref r2), (.int (own_got (own_Q7 [y0, y1, y2] xa xb xc xd)))])) _
        refine X72.iaload hx (j := (3 : Int32)) (v := (.int (lE2.getD 3 0))) Arcl75.1 (State.isArrayOf_alike hZ.alike Arcl75.2.1) Arcl75.2.2 hincl75 hatcl75 (g := (mkF m 274 #[.val (.int p1), .val (.int p2), .val (.int p3), .val (.int p4), .val (.int p5), .val (.ref b1), .val (.int xa), .val (.int xb), .val (.int xc), .val (.int xd), .val (.ref r19), .val (.ref r2), .val (.ref b38), .val (.int (own_got (own_Q2 [y0, y1, y2] xa xb))), .val (.int (own_got (own_Q5 [y0, y1, y2] xa xb xc xd))), .val (.int (1 : Int32)), .val (.int (own_got (own_Q7 [y0, y1, y2] xa xb xc xd)))] [(.int (3 : Int32)), (.ref r2), (.int (own_got (own_Q7 [y0, y1, y2] xa xb xc xd)))])) rfl rfl (hb hby at_274) _ ?_
        show Steps p.tables e below (T72.setTop (mkF m 275 #[.val (.int p1), .val (.int p2), .val (.int p3), .val (.int p4), .val (.int p5), .val (.ref b1), .val (.int xa), .val (.int xb), .val (.int xc), .val (.int xd), .val (.ref r19), .val (.ref r2), .val (.ref b38), .val (.int (own_got (own_Q2 [y0, y1, y2] xa xb))), .val (.int (own_got (own_Q5 [y0, y1, y2] xa xb xc xd))), .val (.int (1 : Int32)), .val (.int (own_got (own_Q7 [y0, y1, y2] xa xb xc xd)))] [(.int (lE2.getD 3 0)), (.int (own_got (own_Q7 [y0, y1, y2] xa xb xc xd)))])) _
        refine XS.icmpNo X72.here hx rfl (hb hby at_275) rfl (teq q_g8).2 ?_
        show Steps p.tables e below (T72.setTop (mkF m 278 #[.val (.int p1), .val (.int p2), .val (.int p3), .val (.int p4), .val (.int p5), .val (.ref b1), .val (.int xa), .val (.int xb), .val (.int xc), .val (.int xd), .val (.ref r19), .val (.ref r2), .val (.ref b38), .val (.int (own_got (own_Q2 [y0, y1, y2] xa xb))), .val (.int (own_got (own_Q5 [y0, y1, y2] xa xb xc xd))), .val (.int (1 : Int32)), .val (.int (own_got (own_Q7 [y0, y1, y2] xa xb xc xd)))] [])) _
        refine XS.iconst X72.here hx rfl (hb hby at_278) ?_
        show Steps p.tables e below (T72.setTop (mkF m 279 #[.val (.int p1), .val (.int p2), .val (.int p3), .val (.int p4), .val (.int p5), .val (.ref b1), .val (.int xa), .val (.int xb), .val (.int xc), .val (.int xd), .val (.ref r19), .val (.ref r2), .val (.ref b38), .val (.int (own_got (own_Q2 [y0, y1, y2] xa xb))), .val (.int (own_got (own_Q5 [y0, y1, y2] xa xb xc xd))), .val (.int (1 : Int32)), .val (.int (own_got (own_Q7 [y0, y1, y2] xa xb xc xd)))] [(.int (1 : Int32))])) _
        refine XS.goto X72.here hx rfl (pc0 := 279) (pc' := 283) rfl (hb hby at_279) (by decide) (by decide) ?_
        show Steps p.tables e below (T72.setTop (mkF m 283 #[.val (.int p1), .val (.int p2), .val (.int p3), .val (.int p4), .val (.int p5), .val (.ref b1), .val (.int xa), .val (.int xb), .val (.int xc), .val (.int xd), .val (.ref r19), .val (.ref r2), .val (.ref b38), .val (.int (own_got (own_Q2 [y0, y1, y2] xa xb))), .val (.int (own_got (own_Q5 [y0, y1, y2] xa xb xc xd))), .val (.int (1 : Int32)), .val (.int (own_got (own_Q7 [y0, y1, y2] xa xb xc xd)))] [(.int (1 : Int32))])) _
        refine XS.istore X72.here hx rfl (hb hby at_283) rfl (l' := #[.val (.int p1), .val (.int p2), .val (.int p3), .val (.int p4), .val (.int p5), .val (.ref b1), .val (.int xa), .val (.int xb), .val (.int xc), .val (.int xd), .val (.ref r19), .val (.ref r2), .val (.ref b38), .val (.int (own_got (own_Q2 [y0, y1, y2] xa xb))), .val (.int (own_got (own_Q5 [y0, y1, y2] xa xb xc xd))), .val (.int (1 : Int32)), .val (.int (own_got (own_Q7 [y0, y1, y2] xa xb xc xd)))]) rfl ?_
        show Steps p.tables e below (T72.setTop (mkF m 285 #[.val (.int p1), .val (.int p2), .val (.int p3), .val (.int p4), .val (.int p5), .val (.ref b1), .val (.int xa), .val (.int xb), .val (.int xc), .val (.int xd), .val (.ref r19), .val (.ref r2), .val (.ref b38), .val (.int (own_got (own_Q2 [y0, y1, y2] xa xb))), .val (.int (own_got (own_Q5 [y0, y1, y2] xa xb xc xd))), .val (.int (1 : Int32)), .val (.int (own_got (own_Q7 [y0, y1, y2] xa xb xc xd)))] [])) _
        refine XS.iload X72.here hx rfl (hb hby at_285) rfl ?_
        show Steps p.tables e below (T72.setTop (mkF m 287 #[.val (.int p1), .val (.int p2), .val (.int p3), .val (.int p4), .val (.int p5), .val (.ref b1), .val (.int xa), .val (.int xb), .val (.int xc), .val (.int xd), .val (.ref r19), .val (.ref r2), .val (.ref b38), .val (.int (own_got (own_Q2 [y0, y1, y2] xa xb))), .val (.int (own_got (own_Q5 [y0, y1, y2] xa xb xc xd))), .val (.int (1 : Int32)), .val (.int (own_got (own_Q7 [y0, y1, y2] xa xb xc xd)))] [(.int (1 : Int32))])) _
        refine XS.ifNo X72.here hx rfl (hb hby at_287) rfl ((if0 _ _).trans (feq (by decide)).1) ?_
        show Steps p.tables e below (T72.setTop (mkF m 290 #[.val (.int p1), .val (.int p2), .val (.int p3), .val (.int p4), .val (.int p5), .val (.ref b1), .val (.int xa), .val (.int xb), .val (.int xc), .val (.int xd), .val (.ref r19), .val (.ref r2), .val (.ref b38), .val (.int (own_got (own_Q2 [y0, y1, y2] xa xb))), .val (.int (own_got (own_Q5 [y0, y1, y2] xa xb xc xd))), .val (.int (1 : Int32)), .val (.int (own_got (own_Q7 [y0, y1, y2] xa xb xc xd)))] [])) _
        refine XS.aload X72.here hx rfl (hb hby at_290) rfl rfl ?_
        show Steps p.tables e below (T72.setTop (mkF m 292 #[.val (.int p1), .val (.int p2), .val (.int p3), .val (.int p4), .val (.int p5), .val (.ref b1), .val (.int xa), .val (.int xb), .val (.int xc), .val (.int xd), .val (.ref r19), .val (.ref r2), .val (.ref b38), .val (.int (own_got (own_Q2 [y0, y1, y2] xa xb))), .val (.int (own_got (own_Q5 [y0, y1, y2] xa xb xc xd))), .val (.int (1 : Int32)), .val (.int (own_got (own_Q7 [y0, y1, y2] xa xb xc xd)))] [(.ref b38)])) _
        refine st76.trans ?_
        show Steps p.tables e below (T76.setTop (mkF m 295 #[.val (.int p1), .val (.int p2), .val (.int p3), .val (.int p4), .val (.int p5), .val (.ref b1), .val (.int xa), .val (.int xb), .val (.int xc), .val (.int xd), .val (.ref r19), .val (.ref r2), .val (.ref b38), .val (.int (own_got (own_Q2 [y0, y1, y2] xa xb))), .val (.int (own_got (own_Q5 [y0, y1, y2] xa xb xc xd))), .val (.int (1 : Int32)), .val (.int (own_got (own_Q7 [y0, y1, y2] xa xb xc xd)))] [(.int (1 : Int32))])) _
        refine XS.ifNo X76.here hx rfl (hb hby at_295) rfl ((if0 _ _).trans (feq (by decide)).1) ?_
        show Steps p.tables e below (T76.setTop (mkF m 298 #[.val (.int p1), .val (.int p2), .val (.int p3), .val (.int p4), .val (.int p5), .val (.ref b1), .val (.int xa), .val (.int xb), .val (.int xc), .val (.int xd), .val (.ref r19), .val (.ref r2), .val (.ref b38), .val (.int (own_got (own_Q2 [y0, y1, y2] xa xb))), .val (.int (own_got (own_Q5 [y0, y1, y2] xa xb xc xd))), .val (.int (1 : Int32)), .val (.int (own_got (own_Q7 [y0, y1, y2] xa xb xc xd)))] [])) _
        refine XS.iconst X76.here hx rfl (hb hby at_298) ?_
        show Steps p.tables e below (T76.setTop (mkF m 299 #[.val (.int p1), .val (.int p2), .val (.int p3), .val (.int p4), .val (.int p5), .val (.ref b1), .val (.int xa), .val (.int xb), .val (.int xc), .val (.int xd), .val (.ref r19), .val (.ref r2), .val (.ref b38), .val (.int (own_got (own_Q2 [y0, y1, y2] xa xb))), .val (.int (own_got (own_Q5 [y0, y1, y2] xa xb xc xd))), .val (.int (1 : Int32)), .val (.int (own_got (own_Q7 [y0, y1, y2] xa xb xc xd)))] [(.int (1 : Int32))])) _
        refine XS.goto X76.here hx rfl (pc0 := 299) (pc' := 303) rfl (hb hby at_299) (by decide) (by decide) ?_
        show Steps p.tables e below (T76.setTop (mkF m 303 #[.val (.int p1), .val (.int p2), .val (.int p3), .val (.int p4), .val (.int p5), .val (.ref b1), .val (.int xa), .val (.int xb), .val (.int xc), .val (.int xd), .val (.ref r19), .val (.ref r2), .val (.ref b38), .val (.int (own_got (own_Q2 [y0, y1, y2] xa xb))), .val (.int (own_got (own_Q5 [y0, y1, y2] xa xb xc xd))), .val (.int (1 : Int32)), .val (.int (own_got (own_Q7 [y0, y1, y2] xa xb xc xd)))] [(.int (1 : Int32))])) _
        exact retN X76 hx (t := .boolean) Bd.returns (by simp) (hb hby at_303) hr
      · show Q_rm0 Z p1 p2 p3 p4 p5 h0 n0 _ T76.heap _
        rw [e76]
        exact ⟨rfl, N76, trivial⟩
set_option maxRecDepth 65536 in
set_option maxHeartbeats 40000000 in
theorem comes_1 {Post : Tables → Env → Array Value → State → Outcome → State → Prop} (hpost : ∀ tb e args s v u, (limb_1_1.after args s (.returned v) u = true ∧ limb_1_2.after args s (.returned v) u = true ∧ True) → FrameEnd s (.returned v) u (Jvm.fieldLocs frame_1_writes args s ++ Jvm.arrayLocs frame_1_arrays args s ++ Jvm.staticLocs frame_1_statics s) 40 192 → Post tb e args s (.returned v) u) :
    ArmFor flags0 classFile x code maxLocals ret World_1 tables_1 room_1 Calls_1 rest_1 Pre_1 Post := by
  intro l hfl _ _ p e ha hc hk s m args below hf hA hF happ hP
  obtain ⟨hcalls, hrest, hpre⟩ := hP
  obtain ⟨-, -, -, hnamed, -, -, -, hat⟩ := (Spec.applies_iff hf).mp happ
  obtain ⟨hg, hn⟩ := and_e (Cond.before_iff.mp (show (Jvm.Cond.and given_1 narrow_1).before args s = true from hpre))
  obtain ⟨g0, hg⟩ := and_e hg
  obtain ⟨g1, hg⟩ := and_e hg
  obtain ⟨g2, hg⟩ := and_e hg
  obtain ⟨g3, hg⟩ := and_e hg
  obtain ⟨g4, g5⟩ := and_e hg
  obtain ⟨w0, w1, w2, w3, w4, rfl⟩ : ∃ w0 w1 w2 w3 w4 : Value, args = #[w0, w1, w2, w3, w4] := by
    have hs : args.size = 5 := by simpa [Cond.value, given_1] using g0
    obtain ⟨L⟩ := args
    match L, hs with
    | [w0, w1, w2, w3, w4], _ => exact ⟨w0, w1, w2, w3, w4, rfl⟩
  have hw := fun d (hd : d ∈ tables_1) => atoms_spec (ws := Jvm.Cond.code x code maxLocals ret :: tables_1) hat d (List.mem_cons_of_mem _ hd)
  obtain ⟨i0, ei0⟩ := is_v g1
  obtain rfl : w0 = (.int i0) := Option.some.inj ei0
  obtain ⟨i1, ei1⟩ := is_v g2
  obtain rfl : w1 = (.int i1) := Option.some.inj ei1
  obtain ⟨i2, ei2⟩ := is_v g3
  obtain rfl : w2 = (.int i2) := Option.some.inj ei2
  obtain ⟨i3, ei3⟩ := is_v g4
  obtain rfl : w3 = (.int i3) := Option.some.inj ei3
  obtain ⟨i4, ei4⟩ := is_v g5
  obtain rfl : w4 = (.int i4) := Option.some.inj ei4
  obtain ⟨n, o, h1, h2, h3, _, L, rfl, ⟨rfl, N, -⟩, hq⟩ := rm0 l s _ hw tables_1 i0 i1 i2 i3 i4 s.heap s.heap.size (Nat.le_refl _) p e ha hc hk s m _ below hf ((Spec.applies_iff_loose hf).mp happ).1 ⟨rfl, State.Warmed39.refl s, rfl⟩ trivial
  refine ⟨n, _, h1, h2, h3, hpost _ _ _ _ _ _ ⟨Cond.after_iff.mpr rfl, Cond.after_iff.mpr (eq_i res_at (Term.int_eval (1)) rfl), trivial⟩ ⟨hq.1, hq.2.1, (hq.2.2.sift fun y hy => Or.inr (N y hy)).mono (by decide) (by decide)⟩⟩
theorem main_1_1 : Claimed_1_1 := comes_1 fun _ _ _ _ _ _ h hF => ⟨h.1, hF⟩
theorem main_1_2 : Claimed_1_2 := comes_1 fun _ _ _ _ _ _ h hF => ⟨h.2.1, hF⟩
end Jvm.Pilot.@@N@@
namespace Jvm.Pilot.@@N@@
open Jvm Jvm.ClassFile Sem Op Lib Jvm.Free Jvm.Stand Jvm.Pilot.@@N@@.Jvm.D
/-! MADE BY PROGRAM (witnessworld.py) out of the Statement's table words and the real class files: 12 classes; the members and pool entries that the words name. The judged class is class 1, her method 2. -/
namespace start1
open Jvm.ClassFile
def u (s : String) : CpInfo := .utf8 (stringToUtf16 s)
/-- a pool by its gaps: so many unusable entries, then the entry; so many at the end -/
def gap : Nat → List CpInfo → List CpInfo
  | 0, r => r
  | n + 1, r => .unusable :: gap n r
def poolList (es : List (Nat × CpInfo)) (last : Nat) : List CpInfo := es.foldr (fun e r => gap e.1 (e.2 :: r)) (gap last [])
def pool (es : List (Nat × CpInfo)) (last : Nat) : Array CpInfo := ⟨poolList es last⟩
def fileOf (pool : Array CpInfo) (this : Nat) (attrs : Array Attribute := #[]) (ms : Array MethodInfo := #[]) (fl : Nat := 33) (sup : Nat := 0) (ifs : Array Nat := #[]) (fds : Array FieldInfo := #[]) : ClassFile where
  minorVersion := 0
  majorVersion := 65
  constantPool := pool
  accessFlags := fl
  thisClass := this
  superClass := sup
  interfaces := ifs
  fields := fds
  methods := ms
  attributes := attrs
def plain (name : String) (sup : Option ClassId) : Class where
  name := name
  kind := .ordinary
  loader := none
  accessFlags := 33
  super := sup
  interfaces := #[]
  cf := none
  fields := #[]
  methods := #[]
  instanceTypes := #[]
  staticTypes := #[]
  resolved := #[]
  callSites := []
  init := .initialized
  statics := none
  mirror := none

def pool0 : Array CpInfo := pool [(5, u "<init>"), (0, u "()V"), (1, .class_ 10), (1, u "java/lang/Object"), (85, u "clone"), (0, u "()Ljava/lang/Object;")] 26

def k0c0 : Code := { maxStack := 0, maxLocals := 1, code := object_method_1_code, exceptionTable := #[], attributes := #[] }
def k0m0 : Method := { name := "<init>", desc := "()V", sig := { parameters := [], returnType := none }, accessFlags := 1, code := some k0c0 }
def k0m1 : Method := { name := "clone", desc := "()Ljava/lang/Object;", sig := { parameters := [], returnType := some (.object "java/lang/Object") }, accessFlags := 260, code := none }
/-- java/lang/Object -/
def k0 : Class := { plain "java/lang/Object" none with
  accessFlags := 33
  interfaces := #[]
  cf := some (fileOf pool0 8 #[] #[{ accessFlags := 1, nameIndex := 5, descriptorIndex := 6, attributes := #[] }, { accessFlags := 260, nameIndex := 96, descriptorIndex := 97, attributes := #[] }] 33 0 #[] #[])
  fields := #[]
  methods := #[k0m0, k0m1]
  instanceTypes := #[]
  staticTypes := #[]
  resolved := Array.replicate 124 none
  statics := none }

def pool1 : Array CpInfo := pool [(2, .class_ 4), (1, u "java/lang/Object"), (0, u "<init>"), (0, u "()V"), (0, .integer 2147483647), (0, .methodref 9 10), (0, .class_ 11), (0, .nameAndType 12 13), (0, u "com/example/contrepoint/contrepoint/IndexQueueAddPinLaw"), (0, u "expected"), (0, u "(IIII[Z)[I"), (0, .class_ 15), (0, u "com/example/contrepoint/contrepoint/IndexQueue"), (0, .methodref 14 17), (0, .nameAndType 5 18), (0, u "([Z)V"), (0, .methodref 14 20), (0, .nameAndType 21 22), (0, u "add"), (0, u "(I)V"), (0, .methodref 14 24), (0, .nameAndType 25 26), (0, u "take"), (0, u "()I"), (0, .methodref 14 28), (0, .nameAndType 29 30), (0, u "isEmpty"), (0, u "()Z"), (5, u "law"), (0, u "(IIIII)Z")] 4

def k1m0 : Method := { name := "<init>", desc := "()V", sig := { parameters := [], returnType := none }, accessFlags := 1, code := none }
def k1c1 : Code := { maxStack := 4, maxLocals := 9, code := method_2_code, exceptionTable := #[], attributes := #[] }
def k1m1 : Method := { name := "expected", desc := "(IIII[Z)[I", sig := { parameters := [.int, .int, .int, .int, (.array .boolean)], returnType := some (.array .int) }, accessFlags := 10, code := some k1c1 }
def k1c2 : Code := { maxStack := 5, maxLocals := 17, code := code, exceptionTable := #[], attributes := #[] }
def k1m2 : Method := { name := "law", desc := "(IIIII)Z", sig := { parameters := [.int, .int, .int, .int, .int], returnType := some .boolean }, accessFlags := 9, code := some k1c2 }
/-- com/example/contrepoint/contrepoint/IndexQueueAddPinLaw -/
def k1 : Class := { plain "com/example/contrepoint/contrepoint/IndexQueueAddPinLaw" (some 0) with
  accessFlags := 49
  interfaces := #[]
  cf := some (fileOf pool1 9 #[] #[{ accessFlags := 1, nameIndex := 5, descriptorIndex := 6, attributes := #[] }, { accessFlags := 10, nameIndex := 12, descriptorIndex := 13, attributes := #[] }, { accessFlags := 9, nameIndex := 36, descriptorIndex := 37, attributes := #[] }] 49 2 #[] #[])
  fields := #[]
  methods := #[k1m0, k1m1, k1m2]
  instanceTypes := #[]
  staticTypes := #[]
  resolved := Array.replicate 42 none
  statics := none }

def pool2 : Array CpInfo := pool [(2, .class_ 4), (1, u "com/example/contrepoint/contrepoint/IndexQueue"), (0, u "<init>"), (0, u "([Z)V"), (0, .methodref 8 9), (0, .class_ 10), (0, .nameAndType 5 11), (0, u "java/lang/Object"), (0, u "()V"), (0, .methodref 13 14), (0, .class_ 15), (0, .nameAndType 16 17), (0, u "[Z"), (0, u "clone"), (0, u "()Ljava/lang/Object;"), (0, .fieldref 2 19), (0, .nameAndType 20 15), (0, u "late"), (0, .fieldref 2 22), (0, .nameAndType 23 15), (0, u "waiting"), (0, .class_ 25), (0, u "[I"), (0, .fieldref 2 27), (0, .nameAndType 28 29), (0, u "rings"), (0, u "[[I"), (0, .fieldref 2 31), (0, .nameAndType 32 25), (0, u "firsts"), (0, .fieldref 2 34), (0, .nameAndType 35 25), (0, u "counts"), (2, u "isEmpty"), (0, u "()Z"), (2, u "take"), (0, u "()I"), (0, u "(I)V"), (3, u "add")] 3

def k2c0 : Code := { maxStack := 6, maxLocals := 7, code := prog_32_method_2_code, exceptionTable := #[], attributes := #[] }
def k2m0 : Method := { name := "<init>", desc := "([Z)V", sig := { parameters := [(.array .boolean)], returnType := none }, accessFlags := 0, code := some k2c0 }
def k2c1 : Code := { maxStack := 2, maxLocals := 1, code := prog_32_method_3_code, exceptionTable := #[], attributes := #[] }
def k2m1 : Method := { name := "isEmpty", desc := "()Z", sig := { parameters := [], returnType := some .boolean }, accessFlags := 0, code := some k2c1 }
def k2c2 : Code := { maxStack := 4, maxLocals := 4, code := prog_32_method_4_code, exceptionTable := #[], attributes := #[] }
def k2m2 : Method := { name := "add", desc := "(I)V", sig := { parameters := [.int], returnType := none }, accessFlags := 0, code := some k2c2 }
def k2c3 : Code := { maxStack := 4, maxLocals := 4, code := prog_32_method_5_code, exceptionTable := #[], attributes := #[] }
def k2m3 : Method := { name := "take", desc := "()I", sig := { parameters := [], returnType := some .int }, accessFlags := 0, code := some k2c3 }
/-- com/example/contrepoint/contrepoint/IndexQueue -/
def k2 : Class := { plain "com/example/contrepoint/contrepoint/IndexQueue" (some 0) with
  accessFlags := 48
  interfaces := #[]
  cf := some (fileOf pool2 2 #[] #[{ accessFlags := 0, nameIndex := 5, descriptorIndex := 6, attributes := #[] }, { accessFlags := 0, nameIndex := 38, descriptorIndex := 39, attributes := #[] }, { accessFlags := 0, nameIndex := 48, descriptorIndex := 44, attributes := #[] }, { accessFlags := 0, nameIndex := 42, descriptorIndex := 43, attributes := #[] }] 48 8 #[] #[{ accessFlags := 18, nameIndex := 20, descriptorIndex := 15, attributes := #[] }, { accessFlags := 18, nameIndex := 23, descriptorIndex := 15, attributes := #[] }, { accessFlags := 18, nameIndex := 28, descriptorIndex := 29, attributes := #[] }, { accessFlags := 18, nameIndex := 32, descriptorIndex := 25, attributes := #[] }, { accessFlags := 18, nameIndex := 35, descriptorIndex := 25, attributes := #[] }])
  fields := #[{ name := "late", type := (.array .boolean), accessFlags := 18, slot := 0, constantValue := 0 }, { name := "waiting", type := (.array .boolean), accessFlags := 18, slot := 1, constantValue := 0 }, { name := "rings", type := (.array (.array .int)), accessFlags := 18, slot := 2, constantValue := 0 }, { name := "firsts", type := (.array .int), accessFlags := 18, slot := 3, constantValue := 0 }, { name := "counts", type := (.array .int), accessFlags := 18, slot := 4, constantValue := 0 }]
  methods := #[k2m0, k2m1, k2m2, k2m3]
  instanceTypes := #[(.array .boolean), (.array .boolean), (.array (.array .int)), (.array .int), (.array .int)]
  staticTypes := #[]
  resolved := Array.replicate 52 none
  statics := none }

def pool3 : Array CpInfo := pool [(1, .class_ 2), (0, u "java/lang/Cloneable"), (0, .class_ 4), (0, u "java/lang/Object")] 2

/-- java/lang/Cloneable -/
def k3 : Class := { plain "java/lang/Cloneable" (some 0) with
  accessFlags := 1537
  interfaces := #[]
  cf := some (fileOf pool3 1 #[] #[] 1537 3 #[] #[])
  fields := #[]
  methods := #[]
  instanceTypes := #[]
  staticTypes := #[]
  resolved := Array.replicate 7 none
  statics := none }

def pool4 : Array CpInfo := pool [(1, u "java/io/Serializable"), (0, .class_ 1), (0, u "java/lang/Object"), (0, .class_ 3)] 3

/-- java/io/Serializable -/
def k4 : Class := { plain "java/io/Serializable" (some 0) with
  accessFlags := 1537
  interfaces := #[]
  cf := some (fileOf pool4 2 #[] #[] 1537 4 #[] #[])
  fields := #[]
  methods := #[]
  instanceTypes := #[]
  staticTypes := #[]
  resolved := Array.replicate 8 none
  statics := none }

/-- the primitive boolean -/
def k5 : Class := { plain "boolean" none with kind := .primitive 'Z', accessFlags := 0x411 }
/-- [Z -/
def k6 : Class := { plain "[Z" (some 0) with kind := .array 5 .boolean, interfaces := #[3, 4], accessFlags := 1041 }

/-- the primitive byte -/
def k7 : Class := { plain "byte" none with kind := .primitive 'B', accessFlags := 0x411 }
/-- [B -/
def k8 : Class := { plain "[B" (some 0) with kind := .array 7 .byte, interfaces := #[3, 4], accessFlags := 1041 }

/-- the primitive int -/
def k9 : Class := { plain "int" none with kind := .primitive 'I', accessFlags := 0x411 }
/-- [I -/
def k10 : Class := { plain "[I" (some 0) with kind := .array 9 .int, interfaces := #[3, 4], accessFlags := 1041 }

/-- [[I -/
def k11 : Class := { plain "[[I" (some 0) with kind := .array 10 (.array .int), interfaces := #[3, 4], accessFlags := 1041 }

def heap : Heap := #[{ cls := 11, slots := #[], vm := .none }]
def classes : Array Class := #[k0, k1, k2, k3, k4, k5, k6, k7, k8, k9, k10, k11]
def interned : List (Array UInt16 × Addr) := []
def slotsUsed : Nat := 0
def theMethod : MethodId := ⟨1, 2⟩
def args0 : Array Value := #[.int 5, .int 1, .int 2, .int 3, .int 4]
def aboutOver (below : List Frame) : State where
  vm := { classes := classes, interned := interned.toArray }
  heap := heap
  slotsUsed := slotsUsed
  threads := #[{ frames := .invoking theMethod args0 :: below }]
def below0 : List Frame := [.native { method := ⟨0, 0⟩, args := #[] }]
def about1 : State := aboutOver below0
def p0 : Program := .bare "" "" ""
def e0 : Env := launch0.env 0 0 0
theorem w_frames : about1.frames = Frame.invoking theMethod args0 :: below0 := rfl
set_option maxRecDepth 65536 in
theorem w_args : argsFit about1.vm theMethod args0 = true := by decide +kernel
set_option maxRecDepth 65536 in
theorem w_heap : heapFits about1 = true := by decide +kernel
set_option maxRecDepth 65536 in
theorem w_runnable : about1.curStatus? = some .runnable := by decide +kernel
set_option maxRecDepth 65536 in
theorem w_alone : about1.alone = true := by decide +kernel
set_option maxRecDepth 65536 in
theorem w_named : about1.methodNamed? x = some theMethod := by decide +kernel
set_option maxRecDepth 65536 in
theorem w_hears : about1.hears theMethod below0 = true := by decide +kernel
set_option maxRecDepth 65536 in
theorem w_ripe : about1.ripe theMethod args0 below0 = true := by decide +kernel
theorem w_running : about1.status = .running := rfl
set_option maxRecDepth 65536 in
theorem w_room : about1.hasRoom e0.platform room_1 = true :=
  launch0.hasRoom_least _ room_1 (by decide +kernel) (by decide +kernel) (by decide +kernel) (by decide +kernel) (by decide +kernel) (by decide +kernel)
theorem allAtoms_all (ts : List Jvm.Cond) (a : Array Jvm.Value) (st : Jvm.State) : (allAtoms ts).before a st = ts.all (fun c => c.before a st) := by
  induction ts with
  | nil => rfl
  | cons c t ih =>
    show (Jvm.Cond.and c (allAtoms t)).before a st = _
    rw [Jvm.Cond.before_and, ih, List.all_cons]
def words1 : List Jvm.Cond := Jvm.Cond.code x code maxLocals ret :: tables_1
/-- a 'code' word, met by the world's own term for the bytes: nothing is compared byte by byte -/
theorem code_word {y : MethodName} {bytes : ByteArray} {mx : Nat} {rt : Option FieldType} {a : Array Value} {s : State} {m : MethodId} {meth : Method} {c : Code} (h1 : s.methodNamed? y = some m) (h2 : s.vm.method? m = some meth) (h3 : meth.code = some c) (h4 : c.code = bytes)
    (h5 : (c.maxLocals == mx && c.exceptionTable.isEmpty && decide (c.maxStack ≤ mostOperands) && decide (meth.sig.returnType = rt) && !meth.locks && decide (parseMethodDescriptor y.desc = some meth.sig)) = true) : (Jvm.Cond.code y bytes mx rt).before a s = true := by
  simp only [Bool.and_eq_true, beq_iff_eq, Bool.not_eq_true', decide_eq_true_eq] at h5
  obtain ⟨⟨⟨⟨⟨g1, g2⟩, g3⟩, g4⟩, g5⟩, g6⟩ := h5
  simp [Cond.before, Cond.holds, Cond.value, h1, h2, h3, h4, g1, g2, g3, g4, g5, g6]
def isCode : Jvm.Cond → Bool
  | .code _ _ _ _ => true
  | _ => false
theorem all_split {L : List Jvm.Cond} {P : Jvm.Cond → Bool} (h1 : L.all (fun c => isCode c || P c) = true) (h2 : ∀ c ∈ L.filter isCode, P c = true) : L.all P = true := by
  refine List.all_eq_true.mpr fun c hc => ?_
  have h := List.all_eq_true.mp h1 c hc
  rcases Bool.eq_false_or_eq_true (isCode c) with hi | hi
  · exact h2 c (List.mem_filter.mpr ⟨hc, hi⟩)
  · simpa [hi] using h
set_option maxRecDepth 65536 in
theorem w_c0 : (Jvm.Cond.code x code maxLocals ret).before args0 about1 = true := code_word (m := ⟨1, 2⟩) (meth := k1m2) (c := k1c2) (by decide +kernel) rfl rfl rfl (by decide +kernel)
set_option maxRecDepth 65536 in
theorem w_c1 : (Jvm.Cond.code ({ cls := "com/example/contrepoint/contrepoint/IndexQueueAddPinLaw", name := "expected", desc := "(IIII[Z)[I" } : Jvm.MethodName) method_2_code (9 : Nat) (Option.some (Jvm.ClassFile.FieldType.array Jvm.ClassFile.FieldType.int))).before args0 about1 = true := code_word (m := ⟨1, 1⟩) (meth := k1m1) (c := k1c1) (by decide +kernel) rfl rfl rfl (by decide +kernel)
set_option maxRecDepth 65536 in
theorem w_c2 : (Jvm.Cond.code ({ cls := "com/example/contrepoint/contrepoint/IndexQueue", name := "<init>", desc := "([Z)V" } : Jvm.MethodName) prog_32_method_2_code (7 : Nat) (Option.none : Option Jvm.ClassFile.FieldType)).before args0 about1 = true := code_word (m := ⟨2, 0⟩) (meth := k2m0) (c := k2c0) (by decide +kernel) rfl rfl rfl (by decide +kernel)
set_option maxRecDepth 65536 in
theorem w_c3 : (Jvm.Cond.code ({ cls := "java/lang/Object", name := "<init>", desc := "()V" } : Jvm.MethodName) object_method_1_code (1 : Nat) (Option.none : Option Jvm.ClassFile.FieldType)).before args0 about1 = true := code_word (m := ⟨0, 0⟩) (meth := k0m0) (c := k0c0) (by decide +kernel) rfl rfl rfl (by decide +kernel)
set_option maxRecDepth 65536 in
theorem w_c4 : (Jvm.Cond.code ({ cls := "com/example/contrepoint/contrepoint/IndexQueue", name := "add", desc := "(I)V" } : Jvm.MethodName) prog_32_method_4_code (4 : Nat) (Option.none : Option Jvm.ClassFile.FieldType)).before args0 about1 = true := code_word (m := ⟨2, 2⟩) (meth := k2m2) (c := k2c2) (by decide +kernel) rfl rfl rfl (by decide +kernel)
set_option maxRecDepth 65536 in
theorem w_c5 : (Jvm.Cond.code ({ cls := "com/example/contrepoint/contrepoint/IndexQueue", name := "take", desc := "()I" } : Jvm.MethodName) prog_32_method_5_code (4 : Nat) (Option.some Jvm.ClassFile.FieldType.int)).before args0 about1 = true := code_word (m := ⟨2, 3⟩) (meth := k2m3) (c := k2c3) (by decide +kernel) rfl rfl rfl (by decide +kernel)
set_option maxRecDepth 65536 in
theorem w_c6 : (Jvm.Cond.code ({ cls := "com/example/contrepoint/contrepoint/IndexQueue", name := "isEmpty", desc := "()Z" } : Jvm.MethodName) prog_32_method_3_code (1 : Nat) (Option.some Jvm.ClassFile.FieldType.boolean)).before args0 about1 = true := code_word (m := ⟨2, 1⟩) (meth := k2m1) (c := k2c1) (by decide +kernel) rfl rfl rfl (by decide +kernel)
def codes1 : List Jvm.Cond := [Jvm.Cond.code x code maxLocals ret, Jvm.Cond.code ({ cls := "com/example/contrepoint/contrepoint/IndexQueueAddPinLaw", name := "expected", desc := "(IIII[Z)[I" } : Jvm.MethodName) method_2_code (9 : Nat) (Option.some (Jvm.ClassFile.FieldType.array Jvm.ClassFile.FieldType.int)), Jvm.Cond.code ({ cls := "com/example/contrepoint/contrepoint/IndexQueue", name := "<init>", desc := "([Z)V" } : Jvm.MethodName) prog_32_method_2_code (7 : Nat) (Option.none : Option Jvm.ClassFile.FieldType), Jvm.Cond.code ({ cls := "java/lang/Object", name := "<init>", desc := "()V" } : Jvm.MethodName) object_method_1_code (1 : Nat) (Option.none : Option Jvm.ClassFile.FieldType), Jvm.Cond.code ({ cls := "com/example/contrepoint/contrepoint/IndexQueue", name := "add", desc := "(I)V" } : Jvm.MethodName) prog_32_method_4_code (4 : Nat) (Option.none : Option Jvm.ClassFile.FieldType), Jvm.Cond.code ({ cls := "com/example/contrepoint/contrepoint/IndexQueue", name := "take", desc := "()I" } : Jvm.MethodName) prog_32_method_5_code (4 : Nat) (Option.some Jvm.ClassFile.FieldType.int), Jvm.Cond.code ({ cls := "com/example/contrepoint/contrepoint/IndexQueue", name := "isEmpty", desc := "()Z" } : Jvm.MethodName) prog_32_method_3_code (1 : Nat) (Option.some Jvm.ClassFile.FieldType.boolean)]
set_option maxRecDepth 65536 in
theorem codes_eq : words1.filter isCode = codes1 := rfl
theorem w_codes : ∀ c ∈ words1.filter isCode, c.before args0 about1 = true := by
  rw [codes_eq]
  intro c hc
  simp only [codes1, List.mem_cons, List.not_mem_nil, or_false] at hc
  rcases hc with rfl | rfl | rfl | rfl | rfl | rfl | rfl
  · exact w_c0
  · exact w_c1
  · exact w_c2
  · exact w_c3
  · exact w_c4
  · exact w_c5
  · exact w_c6
set_option maxRecDepth 65536 in
theorem w_t1 : (words1.take 24).all (fun c => isCode c || c.before args0 about1) = true := by decide +kernel
set_option maxRecDepth 65536 in
theorem w_t2 : ((words1.drop 24).take 24).all (fun c => isCode c || c.before args0 about1) = true := by decide +kernel
set_option maxRecDepth 65536 in
theorem w_t3 : ((words1.drop 24).drop 24).all (fun c => isCode c || c.before args0 about1) = true := by decide +kernel
theorem w_tables : (allAtoms (Jvm.Cond.code x code maxLocals ret :: tables_1)).before args0 about1 = true := by
  rw [allAtoms_all]
  show words1.all (fun c => c.before args0 about1) = true
  refine all_split ?_ w_codes
  rw [← List.take_append_drop 24 words1, List.all_append, w_t1, ← List.take_append_drop 24 (words1.drop 24), List.all_append, w_t2, w_t3]
  rfl
set_option maxRecDepth 65536 in
theorem w_case : (Jvm.Cond.and given_1 narrow_1).before args0 about1 = true := by decide +kernel
theorem w_applies : (headSpec (Jvm.Cond.code x code maxLocals ret :: tables_1) room_1).applies x e0.platform about1 = true :=
  (Spec.applies_iff w_frames).mpr ⟨w_running, w_runnable, w_alone, w_named, w_hears, w_ripe, w_room, w_tables⟩
theorem atStart : AtStart classFile x code maxLocals ret World_1 tables_1 room_1 Calls_1 rest_1 Pre_1 launch0 p0 e0 about1 theMethod args0 below0 :=
  ⟨lists_1, trivial, launch0.admits_env _ _ _, launch0.least_env, fairChoices_fair.cas, fairChoices_fair.clock, w_frames, w_args, w_heap, w_applies, trivial, trivial, w_case⟩
end start1
theorem witness_1 : WitnessClaimed_1 := ⟨start1.p0, start1.e0, start1.about1, start1.theMethod, start1.args0, start1.below0, start1.atStart⟩
end Jvm.Pilot.@@N@@
