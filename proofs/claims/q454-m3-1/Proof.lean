import JvmDerived
import JvmDerived.Pilot.@@N@@Statement
import JvmDerived.Pilot.@@N@@Code
set_option linter.unusedVariables false
set_option linter.unusedSimpArgs false
namespace Jvm.RoadKit
open Sem ClassFile Op Lib Jvm.Stand Jvm.Free Jvm.LawKit
section New
variable {p : Program} {l : Launch} {e : Env} {R : Room} {s : State} {m : MethodId} {args : Array Value} {below : List Frame} {meth : Method} {c : Code} {T : State} {locs : List Loc} {cells slots : Nat}
theorem retI (X : Stand p l e R s m args below meth c T locs cells slots) (hx : p.tables.exec = Jvm.exec) {pc : Nat} {Ls : Array Slot} {z : Int32} {rest : List Value} (hret : meth.sig.returnType = some .int) (hd : decode c.code pc = .ok (.ireturn, 1)) {fs : List Frame}
    (hl : ∀ (f : JFrame) (acts : List Action), f.method = m → f.locked = none → f.entered = [] → (doReturn e (T.setTop f) acts (some (.int z))).1 = T.setFrames fs) : Steps p.tables e below (T.setTop (mkF m pc Ls (.int z :: rest))) (T.setFrames fs) := by
  have hm' : T.vm.method? m = some meth := X.method'
  have hn : narrow .int (.int z) = .int z := rfl
  show Steps p.tables e below (T.setTop { method := m, pc := pc, locals := Ls, stack := _ :: rest, locked := none }) _
  jvm_step X.here [X.here.top, hx, hd, hm', hret, hn]
  first | (intro acts; rw [hl _ acts rfl rfl rfl]) | rw [hl _ _ rfl rfl rfl]
  exact Steps.refl _
end New
end Jvm.RoadKit
namespace Jvm.Pilot.@@N@@
open Jvm Jvm.ClassFile Sem Op Lib Jvm.Free Jvm.Stand Jvm.LawKit Jvm.RoadKit Bundle Jvm.Pilot.@@N@@.Jvm.D
theorem own_nm {x a : Addr} (h : x ≠ a) : x ∉ [a] := fun q => h (List.mem_singleton.mp q)
theorem own_nar {v : Int32} (h : v = (0 : Int32) ∨ v = (1 : Int32)) : nar .boolean v = v := by rcases h with rfl | rfl <;> decide
/-- what a body that writes nothing leaves -/
def QP (r : Option Value) (h0 : Heap) (v : Option Value) (h : Heap) (L : List Loc) : Prop := v = r ∧ L = [] ∧ h = h0
theorem pd__I_Z : parseMethodDescriptor "(I)Z" = some ⟨[.int], some .boolean⟩ := by decide +kernel
theorem own_lt {p : Int32} (c : Int32) (k : Int) (hk : c.toInt = k) (h : p.toInt < k) : p < c := Int32.lt_iff_toInt_lt.mpr (by omega)
theorem own_nlt {p : Int32} (c : Int32) (k : Int) (hk : c.toInt = k) (h : k ≤ p.toInt) : ¬ p < c := fun q => by have := Int32.lt_iff_toInt_lt.mp q; omega
theorem own_gt {p : Int32} (c : Int32) (k : Int) (hk : c.toInt = k) (h : k < p.toInt) : c < p := Int32.lt_iff_toInt_lt.mpr (by omega)
theorem own_ngt {p : Int32} (c : Int32) (k : Int) (hk : c.toInt = k) (h : p.toInt ≤ k) : ¬ c < p := fun q => by have := Int32.lt_iff_toInt_lt.mp q; omega
theorem own_ne {p : Int32} (c : Int32) (k : Int) (hk : c.toInt = k) (h : p.toInt ≠ k) : ¬ p = c := fun q => h (by rw [q]; exact hk)
theorem own_eq {p : Int32} (c : Int32) (k : Int) (hk : c.toInt = k) (h : p.toInt = k) : p = c := Int32.toInt_inj.mp (by omega)
theorem own_irem (x y : Int32) (d : Int) (hy : y.toInt = d) (hd : 0 < d) (hx : 0 ≤ x.toInt) : (x - (x / y) * y).toInt = x.toInt % d := by
  have hm : y ≠ -1 := fun h => by rw [h] at hy; have : (-1 : Int32).toInt = -1 := rfl; omega
  have h1 := (c_idiv x y d hy hm).1 hx
  have h2 := c_imul (x / y) y
  have h3 := c_isub x ((x / y) * y)
  have h4 := rng32 (x - (x / y) * y)
  have h5 := rng32 x
  have h10 := rng32 ((x / y) * y)
  rw [h1, hy] at h2
  have h6 : x.toInt / d * d + x.toInt % d = x.toInt := Int.ediv_mul_add_emod x.toInt d
  have h7 := Int.emod_nonneg x.toInt (by omega : d ≠ 0)
  have h8 := Int.emod_lt_of_pos x.toInt (by omega : 0 < d)
  have h9 : 0 ≤ x.toInt / d * d := Int.mul_nonneg (Int.ediv_nonneg hx (by omega)) (by omega)
  generalize x.toInt / d * d = t at *
  omega
theorem own_eqv {args : Array Value} {s : State} {t : Term} {k : Int32} (h : (Jvm.Cond.eq t (.int k)).value args s none s [] = some true) : t.eval args s none [] s = some (.int k) := by
  obtain ⟨x, y, hx, hy, hk, -⟩ := cmp_v (Or.inl h)
  rw [Term.int_eval] at hy
  cases hy
  cases x with
  | int z => have h2 : (Jvm.Cond.eq t (.int k)).value args s none s [] = some (decide (z = k)) := by simp [Jvm.Cond.value, hx, Term.int_eval]
             have := gotT h2 h; rw [hx, this]
  | _ => simp [Kin, Value.isRef] at hk
def fR_33 (p1 : Int32) : Int32 := (if p1 < (127 : Int32) then (0 : Int32) else (if (159 : Int32) < p1 then (0 : Int32) else (if p1 = (133 : Int32) then (0 : Int32) else (1 : Int32))))
def fR_9 (p1 : Int32) : Int32 := (if p1 < (32 : Int32) then (if p1 = (9 : Int32) then (fR_33 p1) else (if p1 = (10 : Int32) then (fR_33 p1) else (if p1 = (13 : Int32) then (fR_33 p1) else (1 : Int32)))) else (fR_33 p1))
def fI_23 (p1 : Int32) : Int32 := (if p1 < (65536 : Int32) then (0 : Int32) else (if (1114111 : Int32) < p1 then (0 : Int32) else (1 : Int32)))
def fI_11 (p1 : Int32) : Int32 := (if p1 < (57344 : Int32) then (fI_23 p1) else (if (65533 : Int32) < p1 then (fI_23 p1) else (1 : Int32)))
def fI_0 (p1 : Int32) : Int32 := (if p1 < (1 : Int32) then (fI_11 p1) else (if (55295 : Int32) < p1 then (fI_11 p1) else (1 : Int32)))
def fX (p1 : Int32) : Int32 := (if p1 < (1 : Int32) then (if p1 = (11 : Int32) then (1 : Int32) else (if p1 = (12 : Int32) then (1 : Int32) else (if p1 < (14 : Int32) then (if p1 < (127 : Int32) then (if p1 < (134 : Int32) then (0 : Int32) else (if (159 : Int32) < p1 then (0 : Int32) else (1 : Int32))) else (if (132 : Int32) < p1 then (if p1 < (134 : Int32) then (0 : Int32) else (if (159 : Int32) < p1 then (0 : Int32) else (1 : Int32))) else (1 : Int32))) else (if (31 : Int32) < p1 then (if p1 < (127 : Int32) then (if p1 < (134 : Int32) then (0 : Int32) else (if (159 : Int32) < p1 then (0 : Int32) else (1 : Int32))) else (if (132 : Int32) < p1 then (if p1 < (134 : Int32) then (0 : Int32) else (if (159 : Int32) < p1 then (0 : Int32) else (1 : Int32))) else (1 : Int32))) else (1 : Int32))))) else (if (8 : Int32) < p1 then (if p1 = (11 : Int32) then (1 : Int32) else (if p1 = (12 : Int32) then (1 : Int32) else (if p1 < (14 : Int32) then (if p1 < (127 : Int32) then (if p1 < (134 : Int32) then (0 : Int32) else (if (159 : Int32) < p1 then (0 : Int32) else (1 : Int32))) else (if (132 : Int32) < p1 then (if p1 < (134 : Int32) then (0 : Int32) else (if (159 : Int32) < p1 then (0 : Int32) else (1 : Int32))) else (1 : Int32))) else (if (31 : Int32) < p1 then (if p1 < (127 : Int32) then (if p1 < (134 : Int32) then (0 : Int32) else (if (159 : Int32) < p1 then (0 : Int32) else (1 : Int32))) else (if (132 : Int32) < p1 then (if p1 < (134 : Int32) then (0 : Int32) else (if (159 : Int32) < p1 then (0 : Int32) else (1 : Int32))) else (1 : Int32))) else (1 : Int32))))) else (1 : Int32)))
theorem fR_b33 (p1 : Int32) : fR_33 p1 = (0 : Int32) ∨ fR_33 p1 = (1 : Int32) := by
  unfold fR_33
  (repeat' split) <;> first | exact Or.inl rfl | exact Or.inr rfl
theorem fR_b9 (p1 : Int32) : fR_9 p1 = (0 : Int32) ∨ fR_9 p1 = (1 : Int32) := by
  unfold fR_9
  (repeat' split) <;> first | exact Or.inl rfl | exact Or.inr rfl | exact fR_b33 p1
theorem fI_b23 (p1 : Int32) : fI_23 p1 = (0 : Int32) ∨ fI_23 p1 = (1 : Int32) := by
  unfold fI_23
  (repeat' split) <;> first | exact Or.inl rfl | exact Or.inr rfl
theorem fI_b11 (p1 : Int32) : fI_11 p1 = (0 : Int32) ∨ fI_11 p1 = (1 : Int32) := by
  unfold fI_11
  (repeat' split) <;> first | exact Or.inl rfl | exact Or.inr rfl | exact fI_b23 p1
theorem fI_b0 (p1 : Int32) : fI_0 p1 = (0 : Int32) ∨ fI_0 p1 = (1 : Int32) := by
  unfold fI_0
  (repeat' split) <;> first | exact Or.inl rfl | exact Or.inr rfl | exact fI_b23 p1 | exact fI_b11 p1
def rs (a1 w0 : Addr) (p1 : Int32) : Int32 := if a1 = w0 then (0 : Int32) else (fR_9 p1)
theorem own_law_0 (p1 : Int32) (h2 : p1.toInt ≤ 0) : fI_0 p1 = (0 : Int32) ∨ fR_9 p1 = fX p1 := by
  have l1 : p1 < (1 : Int32) := own_lt (1 : Int32) 1 rfl (by omega)
  have l14 : p1 < (14 : Int32) := own_lt (14 : Int32) 14 rfl (by omega)
  have l32 : p1 < (32 : Int32) := own_lt (32 : Int32) 32 rfl (by omega)
  have l127 : p1 < (127 : Int32) := own_lt (127 : Int32) 127 rfl (by omega)
  have l134 : p1 < (134 : Int32) := own_lt (134 : Int32) 134 rfl (by omega)
  have l57344 : p1 < (57344 : Int32) := own_lt (57344 : Int32) 57344 rfl (by omega)
  have l65536 : p1 < (65536 : Int32) := own_lt (65536 : Int32) 65536 rfl (by omega)
  have g8 : ¬ (8 : Int32) < p1 := own_ngt (8 : Int32) 8 rfl (by omega)
  have g31 : ¬ (31 : Int32) < p1 := own_ngt (31 : Int32) 31 rfl (by omega)
  have g132 : ¬ (132 : Int32) < p1 := own_ngt (132 : Int32) 132 rfl (by omega)
  have g159 : ¬ (159 : Int32) < p1 := own_ngt (159 : Int32) 159 rfl (by omega)
  have g55295 : ¬ (55295 : Int32) < p1 := own_ngt (55295 : Int32) 55295 rfl (by omega)
  have g65533 : ¬ (65533 : Int32) < p1 := own_ngt (65533 : Int32) 65533 rfl (by omega)
  have g1114111 : ¬ (1114111 : Int32) < p1 := own_ngt (1114111 : Int32) 1114111 rfl (by omega)
  have q9 : ¬ p1 = (9 : Int32) := own_ne (9 : Int32) 9 rfl (by omega)
  have q10 : ¬ p1 = (10 : Int32) := own_ne (10 : Int32) 10 rfl (by omega)
  have q11 : ¬ p1 = (11 : Int32) := own_ne (11 : Int32) 11 rfl (by omega)
  have q12 : ¬ p1 = (12 : Int32) := own_ne (12 : Int32) 12 rfl (by omega)
  have q13 : ¬ p1 = (13 : Int32) := own_ne (13 : Int32) 13 rfl (by omega)
  have q133 : ¬ p1 = (133 : Int32) := own_ne (133 : Int32) 133 rfl (by omega)
  exact Or.inl (by simp only [fR_9, fR_33, fX, fI_0, fI_11, fI_23, l1, l14, l32, l127, l134, l57344, l65536, g8, g31, g132, g159, g55295, g65533, g1114111, q9, q10, q11, q12, q13, q133, if_true, if_false])
theorem own_law_1 (p1 : Int32) (h1 : 1 ≤ p1.toInt) (h2 : p1.toInt ≤ 8) : fI_0 p1 = (0 : Int32) ∨ fR_9 p1 = fX p1 := by
  have l1 : ¬ p1 < (1 : Int32) := own_nlt (1 : Int32) 1 rfl (by omega)
  have l14 : p1 < (14 : Int32) := own_lt (14 : Int32) 14 rfl (by omega)
  have l32 : p1 < (32 : Int32) := own_lt (32 : Int32) 32 rfl (by omega)
  have l127 : p1 < (127 : Int32) := own_lt (127 : Int32) 127 rfl (by omega)
  have l134 : p1 < (134 : Int32) := own_lt (134 : Int32) 134 rfl (by omega)
  have l57344 : p1 < (57344 : Int32) := own_lt (57344 : Int32) 57344 rfl (by omega)
  have l65536 : p1 < (65536 : Int32) := own_lt (65536 : Int32) 65536 rfl (by omega)
  have g8 : ¬ (8 : Int32) < p1 := own_ngt (8 : Int32) 8 rfl (by omega)
  have g31 : ¬ (31 : Int32) < p1 := own_ngt (31 : Int32) 31 rfl (by omega)
  have g132 : ¬ (132 : Int32) < p1 := own_ngt (132 : Int32) 132 rfl (by omega)
  have g159 : ¬ (159 : Int32) < p1 := own_ngt (159 : Int32) 159 rfl (by omega)
  have g55295 : ¬ (55295 : Int32) < p1 := own_ngt (55295 : Int32) 55295 rfl (by omega)
  have g65533 : ¬ (65533 : Int32) < p1 := own_ngt (65533 : Int32) 65533 rfl (by omega)
  have g1114111 : ¬ (1114111 : Int32) < p1 := own_ngt (1114111 : Int32) 1114111 rfl (by omega)
  have q9 : ¬ p1 = (9 : Int32) := own_ne (9 : Int32) 9 rfl (by omega)
  have q10 : ¬ p1 = (10 : Int32) := own_ne (10 : Int32) 10 rfl (by omega)
  have q11 : ¬ p1 = (11 : Int32) := own_ne (11 : Int32) 11 rfl (by omega)
  have q12 : ¬ p1 = (12 : Int32) := own_ne (12 : Int32) 12 rfl (by omega)
  have q13 : ¬ p1 = (13 : Int32) := own_ne (13 : Int32) 13 rfl (by omega)
  have q133 : ¬ p1 = (133 : Int32) := own_ne (133 : Int32) 133 rfl (by omega)
  exact Or.inr (by simp only [fR_9, fR_33, fX, fI_0, fI_11, fI_23, l1, l14, l32, l127, l134, l57344, l65536, g8, g31, g132, g159, g55295, g65533, g1114111, q9, q10, q11, q12, q13, q133, if_true, if_false])
theorem own_law_2 (p1 : Int32) (h1 : 9 ≤ p1.toInt) (h2 : p1.toInt ≤ 9) : fI_0 p1 = (0 : Int32) ∨ fR_9 p1 = fX p1 := by
  have q : p1 = (9 : Int32) := own_eq (9 : Int32) 9 rfl (by omega)
  subst q; decide
theorem own_law_3 (p1 : Int32) (h1 : 10 ≤ p1.toInt) (h2 : p1.toInt ≤ 10) : fI_0 p1 = (0 : Int32) ∨ fR_9 p1 = fX p1 := by
  have q : p1 = (10 : Int32) := own_eq (10 : Int32) 10 rfl (by omega)
  subst q; decide
theorem own_law_4 (p1 : Int32) (h1 : 11 ≤ p1.toInt) (h2 : p1.toInt ≤ 11) : fI_0 p1 = (0 : Int32) ∨ fR_9 p1 = fX p1 := by
  have q : p1 = (11 : Int32) := own_eq (11 : Int32) 11 rfl (by omega)
  subst q; decide
theorem own_law_5 (p1 : Int32) (h1 : 12 ≤ p1.toInt) (h2 : p1.toInt ≤ 12) : fI_0 p1 = (0 : Int32) ∨ fR_9 p1 = fX p1 := by
  have q : p1 = (12 : Int32) := own_eq (12 : Int32) 12 rfl (by omega)
  subst q; decide
theorem own_law_6 (p1 : Int32) (h1 : 13 ≤ p1.toInt) (h2 : p1.toInt ≤ 13) : fI_0 p1 = (0 : Int32) ∨ fR_9 p1 = fX p1 := by
  have q : p1 = (13 : Int32) := own_eq (13 : Int32) 13 rfl (by omega)
  subst q; decide
theorem own_law_7 (p1 : Int32) (h1 : 14 ≤ p1.toInt) (h2 : p1.toInt ≤ 31) : fI_0 p1 = (0 : Int32) ∨ fR_9 p1 = fX p1 := by
  have l1 : ¬ p1 < (1 : Int32) := own_nlt (1 : Int32) 1 rfl (by omega)
  have l14 : ¬ p1 < (14 : Int32) := own_nlt (14 : Int32) 14 rfl (by omega)
  have l32 : p1 < (32 : Int32) := own_lt (32 : Int32) 32 rfl (by omega)
  have l127 : p1 < (127 : Int32) := own_lt (127 : Int32) 127 rfl (by omega)
  have l134 : p1 < (134 : Int32) := own_lt (134 : Int32) 134 rfl (by omega)
  have l57344 : p1 < (57344 : Int32) := own_lt (57344 : Int32) 57344 rfl (by omega)
  have l65536 : p1 < (65536 : Int32) := own_lt (65536 : Int32) 65536 rfl (by omega)
  have g8 : (8 : Int32) < p1 := own_gt (8 : Int32) 8 rfl (by omega)
  have g31 : ¬ (31 : Int32) < p1 := own_ngt (31 : Int32) 31 rfl (by omega)
  have g132 : ¬ (132 : Int32) < p1 := own_ngt (132 : Int32) 132 rfl (by omega)
  have g159 : ¬ (159 : Int32) < p1 := own_ngt (159 : Int32) 159 rfl (by omega)
  have g55295 : ¬ (55295 : Int32) < p1 := own_ngt (55295 : Int32) 55295 rfl (by omega)
  have g65533 : ¬ (65533 : Int32) < p1 := own_ngt (65533 : Int32) 65533 rfl (by omega)
  have g1114111 : ¬ (1114111 : Int32) < p1 := own_ngt (1114111 : Int32) 1114111 rfl (by omega)
  have q9 : ¬ p1 = (9 : Int32) := own_ne (9 : Int32) 9 rfl (by omega)
  have q10 : ¬ p1 = (10 : Int32) := own_ne (10 : Int32) 10 rfl (by omega)
  have q11 : ¬ p1 = (11 : Int32) := own_ne (11 : Int32) 11 rfl (by omega)
  have q12 : ¬ p1 = (12 : Int32) := own_ne (12 : Int32) 12 rfl (by omega)
  have q13 : ¬ p1 = (13 : Int32) := own_ne (13 : Int32) 13 rfl (by omega)
  have q133 : ¬ p1 = (133 : Int32) := own_ne (133 : Int32) 133 rfl (by omega)
  exact Or.inr (by simp only [fR_9, fR_33, fX, fI_0, fI_11, fI_23, l1, l14, l32, l127, l134, l57344, l65536, g8, g31, g132, g159, g55295, g65533, g1114111, q9, q10, q11, q12, q13, q133, if_true, if_false])
theorem own_law_8 (p1 : Int32) (h1 : 32 ≤ p1.toInt) (h2 : p1.toInt ≤ 126) : fI_0 p1 = (0 : Int32) ∨ fR_9 p1 = fX p1 := by
  have l1 : ¬ p1 < (1 : Int32) := own_nlt (1 : Int32) 1 rfl (by omega)
  have l14 : ¬ p1 < (14 : Int32) := own_nlt (14 : Int32) 14 rfl (by omega)
  have l32 : ¬ p1 < (32 : Int32) := own_nlt (32 : Int32) 32 rfl (by omega)
  have l127 : p1 < (127 : Int32) := own_lt (127 : Int32) 127 rfl (by omega)
  have l134 : p1 < (134 : Int32) := own_lt (134 : Int32) 134 rfl (by omega)
  have l57344 : p1 < (57344 : Int32) := own_lt (57344 : Int32) 57344 rfl (by omega)
  have l65536 : p1 < (65536 : Int32) := own_lt (65536 : Int32) 65536 rfl (by omega)
  have g8 : (8 : Int32) < p1 := own_gt (8 : Int32) 8 rfl (by omega)
  have g31 : (31 : Int32) < p1 := own_gt (31 : Int32) 31 rfl (by omega)
  have g132 : ¬ (132 : Int32) < p1 := own_ngt (132 : Int32) 132 rfl (by omega)
  have g159 : ¬ (159 : Int32) < p1 := own_ngt (159 : Int32) 159 rfl (by omega)
  have g55295 : ¬ (55295 : Int32) < p1 := own_ngt (55295 : Int32) 55295 rfl (by omega)
  have g65533 : ¬ (65533 : Int32) < p1 := own_ngt (65533 : Int32) 65533 rfl (by omega)
  have g1114111 : ¬ (1114111 : Int32) < p1 := own_ngt (1114111 : Int32) 1114111 rfl (by omega)
  have q9 : ¬ p1 = (9 : Int32) := own_ne (9 : Int32) 9 rfl (by omega)
  have q10 : ¬ p1 = (10 : Int32) := own_ne (10 : Int32) 10 rfl (by omega)
  have q11 : ¬ p1 = (11 : Int32) := own_ne (11 : Int32) 11 rfl (by omega)
  have q12 : ¬ p1 = (12 : Int32) := own_ne (12 : Int32) 12 rfl (by omega)
  have q13 : ¬ p1 = (13 : Int32) := own_ne (13 : Int32) 13 rfl (by omega)
  have q133 : ¬ p1 = (133 : Int32) := own_ne (133 : Int32) 133 rfl (by omega)
  exact Or.inr (by simp only [fR_9, fR_33, fX, fI_0, fI_11, fI_23, l1, l14, l32, l127, l134, l57344, l65536, g8, g31, g132, g159, g55295, g65533, g1114111, q9, q10, q11, q12, q13, q133, if_true, if_false])
theorem own_law_9 (p1 : Int32) (h1 : 127 ≤ p1.toInt) (h2 : p1.toInt ≤ 132) : fI_0 p1 = (0 : Int32) ∨ fR_9 p1 = fX p1 := by
  have l1 : ¬ p1 < (1 : Int32) := own_nlt (1 : Int32) 1 rfl (by omega)
  have l14 : ¬ p1 < (14 : Int32) := own_nlt (14 : Int32) 14 rfl (by omega)
  have l32 : ¬ p1 < (32 : Int32) := own_nlt (32 : Int32) 32 rfl (by omega)
  have l127 : ¬ p1 < (127 : Int32) := own_nlt (127 : Int32) 127 rfl (by omega)
  have l134 : p1 < (134 : Int32) := own_lt (134 : Int32) 134 rfl (by omega)
  have l57344 : p1 < (57344 : Int32) := own_lt (57344 : Int32) 57344 rfl (by omega)
  have l65536 : p1 < (65536 : Int32) := own_lt (65536 : Int32) 65536 rfl (by omega)
  have g8 : (8 : Int32) < p1 := own_gt (8 : Int32) 8 rfl (by omega)
  have g31 : (31 : Int32) < p1 := own_gt (31 : Int32) 31 rfl (by omega)
  have g132 : ¬ (132 : Int32) < p1 := own_ngt (132 : Int32) 132 rfl (by omega)
  have g159 : ¬ (159 : Int32) < p1 := own_ngt (159 : Int32) 159 rfl (by omega)
  have g55295 : ¬ (55295 : Int32) < p1 := own_ngt (55295 : Int32) 55295 rfl (by omega)
  have g65533 : ¬ (65533 : Int32) < p1 := own_ngt (65533 : Int32) 65533 rfl (by omega)
  have g1114111 : ¬ (1114111 : Int32) < p1 := own_ngt (1114111 : Int32) 1114111 rfl (by omega)
  have q9 : ¬ p1 = (9 : Int32) := own_ne (9 : Int32) 9 rfl (by omega)
  have q10 : ¬ p1 = (10 : Int32) := own_ne (10 : Int32) 10 rfl (by omega)
  have q11 : ¬ p1 = (11 : Int32) := own_ne (11 : Int32) 11 rfl (by omega)
  have q12 : ¬ p1 = (12 : Int32) := own_ne (12 : Int32) 12 rfl (by omega)
  have q13 : ¬ p1 = (13 : Int32) := own_ne (13 : Int32) 13 rfl (by omega)
  have q133 : ¬ p1 = (133 : Int32) := own_ne (133 : Int32) 133 rfl (by omega)
  exact Or.inr (by simp only [fR_9, fR_33, fX, fI_0, fI_11, fI_23, l1, l14, l32, l127, l134, l57344, l65536, g8, g31, g132, g159, g55295, g65533, g1114111, q9, q10, q11, q12, q13, q133, if_true, if_false])
theorem own_law_10 (p1 : Int32) (h1 : 133 ≤ p1.toInt) (h2 : p1.toInt ≤ 133) : fI_0 p1 = (0 : Int32) ∨ fR_9 p1 = fX p1 := by
  have q : p1 = (133 : Int32) := own_eq (133 : Int32) 133 rfl (by omega)
  subst q; decide
theorem own_law_11 (p1 : Int32) (h1 : 134 ≤ p1.toInt) (h2 : p1.toInt ≤ 159) : fI_0 p1 = (0 : Int32) ∨ fR_9 p1 = fX p1 := by
  have l1 : ¬ p1 < (1 : Int32) := own_nlt (1 : Int32) 1 rfl (by omega)
  have l14 : ¬ p1 < (14 : Int32) := own_nlt (14 : Int32) 14 rfl (by omega)
  have l32 : ¬ p1 < (32 : Int32) := own_nlt (32 : Int32) 32 rfl (by omega)
  have l127 : ¬ p1 < (127 : Int32) := own_nlt (127 : Int32) 127 rfl (by omega)
  have l134 : ¬ p1 < (134 : Int32) := own_nlt (134 : Int32) 134 rfl (by omega)
  have l57344 : p1 < (57344 : Int32) := own_lt (57344 : Int32) 57344 rfl (by omega)
  have l65536 : p1 < (65536 : Int32) := own_lt (65536 : Int32) 65536 rfl (by omega)
  have g8 : (8 : Int32) < p1 := own_gt (8 : Int32) 8 rfl (by omega)
  have g31 : (31 : Int32) < p1 := own_gt (31 : Int32) 31 rfl (by omega)
  have g132 : (132 : Int32) < p1 := own_gt (132 : Int32) 132 rfl (by omega)
  have g159 : ¬ (159 : Int32) < p1 := own_ngt (159 : Int32) 159 rfl (by omega)
  have g55295 : ¬ (55295 : Int32) < p1 := own_ngt (55295 : Int32) 55295 rfl (by omega)
  have g65533 : ¬ (65533 : Int32) < p1 := own_ngt (65533 : Int32) 65533 rfl (by omega)
  have g1114111 : ¬ (1114111 : Int32) < p1 := own_ngt (1114111 : Int32) 1114111 rfl (by omega)
  have q9 : ¬ p1 = (9 : Int32) := own_ne (9 : Int32) 9 rfl (by omega)
  have q10 : ¬ p1 = (10 : Int32) := own_ne (10 : Int32) 10 rfl (by omega)
  have q11 : ¬ p1 = (11 : Int32) := own_ne (11 : Int32) 11 rfl (by omega)
  have q12 : ¬ p1 = (12 : Int32) := own_ne (12 : Int32) 12 rfl (by omega)
  have q13 : ¬ p1 = (13 : Int32) := own_ne (13 : Int32) 13 rfl (by omega)
  have q133 : ¬ p1 = (133 : Int32) := own_ne (133 : Int32) 133 rfl (by omega)
  exact Or.inr (by simp only [fR_9, fR_33, fX, fI_0, fI_11, fI_23, l1, l14, l32, l127, l134, l57344, l65536, g8, g31, g132, g159, g55295, g65533, g1114111, q9, q10, q11, q12, q13, q133, if_true, if_false])
theorem own_law_12 (p1 : Int32) (h1 : 160 ≤ p1.toInt) (h2 : p1.toInt ≤ 55295) : fI_0 p1 = (0 : Int32) ∨ fR_9 p1 = fX p1 := by
  have l1 : ¬ p1 < (1 : Int32) := own_nlt (1 : Int32) 1 rfl (by omega)
  have l14 : ¬ p1 < (14 : Int32) := own_nlt (14 : Int32) 14 rfl (by omega)
  have l32 : ¬ p1 < (32 : Int32) := own_nlt (32 : Int32) 32 rfl (by omega)
  have l127 : ¬ p1 < (127 : Int32) := own_nlt (127 : Int32) 127 rfl (by omega)
  have l134 : ¬ p1 < (134 : Int32) := own_nlt (134 : Int32) 134 rfl (by omega)
  have l57344 : p1 < (57344 : Int32) := own_lt (57344 : Int32) 57344 rfl (by omega)
  have l65536 : p1 < (65536 : Int32) := own_lt (65536 : Int32) 65536 rfl (by omega)
  have g8 : (8 : Int32) < p1 := own_gt (8 : Int32) 8 rfl (by omega)
  have g31 : (31 : Int32) < p1 := own_gt (31 : Int32) 31 rfl (by omega)
  have g132 : (132 : Int32) < p1 := own_gt (132 : Int32) 132 rfl (by omega)
  have g159 : (159 : Int32) < p1 := own_gt (159 : Int32) 159 rfl (by omega)
  have g55295 : ¬ (55295 : Int32) < p1 := own_ngt (55295 : Int32) 55295 rfl (by omega)
  have g65533 : ¬ (65533 : Int32) < p1 := own_ngt (65533 : Int32) 65533 rfl (by omega)
  have g1114111 : ¬ (1114111 : Int32) < p1 := own_ngt (1114111 : Int32) 1114111 rfl (by omega)
  have q9 : ¬ p1 = (9 : Int32) := own_ne (9 : Int32) 9 rfl (by omega)
  have q10 : ¬ p1 = (10 : Int32) := own_ne (10 : Int32) 10 rfl (by omega)
  have q11 : ¬ p1 = (11 : Int32) := own_ne (11 : Int32) 11 rfl (by omega)
  have q12 : ¬ p1 = (12 : Int32) := own_ne (12 : Int32) 12 rfl (by omega)
  have q13 : ¬ p1 = (13 : Int32) := own_ne (13 : Int32) 13 rfl (by omega)
  have q133 : ¬ p1 = (133 : Int32) := own_ne (133 : Int32) 133 rfl (by omega)
  exact Or.inr (by simp only [fR_9, fR_33, fX, fI_0, fI_11, fI_23, l1, l14, l32, l127, l134, l57344, l65536, g8, g31, g132, g159, g55295, g65533, g1114111, q9, q10, q11, q12, q13, q133, if_true, if_false])
theorem own_law_13 (p1 : Int32) (h1 : 55296 ≤ p1.toInt) (h2 : p1.toInt ≤ 57343) : fI_0 p1 = (0 : Int32) ∨ fR_9 p1 = fX p1 := by
  have l1 : ¬ p1 < (1 : Int32) := own_nlt (1 : Int32) 1 rfl (by omega)
  have l14 : ¬ p1 < (14 : Int32) := own_nlt (14 : Int32) 14 rfl (by omega)
  have l32 : ¬ p1 < (32 : Int32) := own_nlt (32 : Int32) 32 rfl (by omega)
  have l127 : ¬ p1 < (127 : Int32) := own_nlt (127 : Int32) 127 rfl (by omega)
  have l134 : ¬ p1 < (134 : Int32) := own_nlt (134 : Int32) 134 rfl (by omega)
  have l57344 : p1 < (57344 : Int32) := own_lt (57344 : Int32) 57344 rfl (by omega)
  have l65536 : p1 < (65536 : Int32) := own_lt (65536 : Int32) 65536 rfl (by omega)
  have g8 : (8 : Int32) < p1 := own_gt (8 : Int32) 8 rfl (by omega)
  have g31 : (31 : Int32) < p1 := own_gt (31 : Int32) 31 rfl (by omega)
  have g132 : (132 : Int32) < p1 := own_gt (132 : Int32) 132 rfl (by omega)
  have g159 : (159 : Int32) < p1 := own_gt (159 : Int32) 159 rfl (by omega)
  have g55295 : (55295 : Int32) < p1 := own_gt (55295 : Int32) 55295 rfl (by omega)
  have g65533 : ¬ (65533 : Int32) < p1 := own_ngt (65533 : Int32) 65533 rfl (by omega)
  have g1114111 : ¬ (1114111 : Int32) < p1 := own_ngt (1114111 : Int32) 1114111 rfl (by omega)
  have q9 : ¬ p1 = (9 : Int32) := own_ne (9 : Int32) 9 rfl (by omega)
  have q10 : ¬ p1 = (10 : Int32) := own_ne (10 : Int32) 10 rfl (by omega)
  have q11 : ¬ p1 = (11 : Int32) := own_ne (11 : Int32) 11 rfl (by omega)
  have q12 : ¬ p1 = (12 : Int32) := own_ne (12 : Int32) 12 rfl (by omega)
  have q13 : ¬ p1 = (13 : Int32) := own_ne (13 : Int32) 13 rfl (by omega)
  have q133 : ¬ p1 = (133 : Int32) := own_ne (133 : Int32) 133 rfl (by omega)
  exact Or.inl (by simp only [fR_9, fR_33, fX, fI_0, fI_11, fI_23, l1, l14, l32, l127, l134, l57344, l65536, g8, g31, g132, g159, g55295, g65533, g1114111, q9, q10, q11, q12, q13, q133, if_true, if_false])
theorem own_law_14 (p1 : Int32) (h1 : 57344 ≤ p1.toInt) (h2 : p1.toInt ≤ 65533) : fI_0 p1 = (0 : Int32) ∨ fR_9 p1 = fX p1 := by
  have l1 : ¬ p1 < (1 : Int32) := own_nlt (1 : Int32) 1 rfl (by omega)
  have l14 : ¬ p1 < (14 : Int32) := own_nlt (14 : Int32) 14 rfl (by omega)
  have l32 : ¬ p1 < (32 : Int32) := own_nlt (32 : Int32) 32 rfl (by omega)
  have l127 : ¬ p1 < (127 : Int32) := own_nlt (127 : Int32) 127 rfl (by omega)
  have l134 : ¬ p1 < (134 : Int32) := own_nlt (134 : Int32) 134 rfl (by omega)
  have l57344 : ¬ p1 < (57344 : Int32) := own_nlt (57344 : Int32) 57344 rfl (by omega)
  have l65536 : p1 < (65536 : Int32) := own_lt (65536 : Int32) 65536 rfl (by omega)
  have g8 : (8 : Int32) < p1 := own_gt (8 : Int32) 8 rfl (by omega)
  have g31 : (31 : Int32) < p1 := own_gt (31 : Int32) 31 rfl (by omega)
  have g132 : (132 : Int32) < p1 := own_gt (132 : Int32) 132 rfl (by omega)
  have g159 : (159 : Int32) < p1 := own_gt (159 : Int32) 159 rfl (by omega)
  have g55295 : (55295 : Int32) < p1 := own_gt (55295 : Int32) 55295 rfl (by omega)
  have g65533 : ¬ (65533 : Int32) < p1 := own_ngt (65533 : Int32) 65533 rfl (by omega)
  have g1114111 : ¬ (1114111 : Int32) < p1 := own_ngt (1114111 : Int32) 1114111 rfl (by omega)
  have q9 : ¬ p1 = (9 : Int32) := own_ne (9 : Int32) 9 rfl (by omega)
  have q10 : ¬ p1 = (10 : Int32) := own_ne (10 : Int32) 10 rfl (by omega)
  have q11 : ¬ p1 = (11 : Int32) := own_ne (11 : Int32) 11 rfl (by omega)
  have q12 : ¬ p1 = (12 : Int32) := own_ne (12 : Int32) 12 rfl (by omega)
  have q13 : ¬ p1 = (13 : Int32) := own_ne (13 : Int32) 13 rfl (by omega)
  have q133 : ¬ p1 = (133 : Int32) := own_ne (133 : Int32) 133 rfl (by omega)
  exact Or.inr (by simp only [fR_9, fR_33, fX, fI_0, fI_11, fI_23, l1, l14, l32, l127, l134, l57344, l65536, g8, g31, g132, g159, g55295, g65533, g1114111, q9, q10, q11, q12, q13, q133, if_true, if_false])
theorem own_law_15 (p1 : Int32) (h1 : 65534 ≤ p1.toInt) (h2 : p1.toInt ≤ 65535) : fI_0 p1 = (0 : Int32) ∨ fR_9 p1 = fX p1 := by
  have l1 : ¬ p1 < (1 : Int32) := own_nlt (1 : Int32) 1 rfl (by omega)
  have l14 : ¬ p1 < (14 : Int32) := own_nlt (14 : Int32) 14 rfl (by omega)
  have l32 : ¬ p1 < (32 : Int32) := own_nlt (32 : Int32) 32 rfl (by omega)
  have l127 : ¬ p1 < (127 : Int32) := own_nlt (127 : Int32) 127 rfl (by omega)
  have l134 : ¬ p1 < (134 : Int32) := own_nlt (134 : Int32) 134 rfl (by omega)
  have l57344 : ¬ p1 < (57344 : Int32) := own_nlt (57344 : Int32) 57344 rfl (by omega)
  have l65536 : p1 < (65536 : Int32) := own_lt (65536 : Int32) 65536 rfl (by omega)
  have g8 : (8 : Int32) < p1 := own_gt (8 : Int32) 8 rfl (by omega)
  have g31 : (31 : Int32) < p1 := own_gt (31 : Int32) 31 rfl (by omega)
  have g132 : (132 : Int32) < p1 := own_gt (132 : Int32) 132 rfl (by omega)
  have g159 : (159 : Int32) < p1 := own_gt (159 : Int32) 159 rfl (by omega)
  have g55295 : (55295 : Int32) < p1 := own_gt (55295 : Int32) 55295 rfl (by omega)
  have g65533 : (65533 : Int32) < p1 := own_gt (65533 : Int32) 65533 rfl (by omega)
  have g1114111 : ¬ (1114111 : Int32) < p1 := own_ngt (1114111 : Int32) 1114111 rfl (by omega)
  have q9 : ¬ p1 = (9 : Int32) := own_ne (9 : Int32) 9 rfl (by omega)
  have q10 : ¬ p1 = (10 : Int32) := own_ne (10 : Int32) 10 rfl (by omega)
  have q11 : ¬ p1 = (11 : Int32) := own_ne (11 : Int32) 11 rfl (by omega)
  have q12 : ¬ p1 = (12 : Int32) := own_ne (12 : Int32) 12 rfl (by omega)
  have q13 : ¬ p1 = (13 : Int32) := own_ne (13 : Int32) 13 rfl (by omega)
  have q133 : ¬ p1 = (133 : Int32) := own_ne (133 : Int32) 133 rfl (by omega)
  exact Or.inl (by simp only [fR_9, fR_33, fX, fI_0, fI_11, fI_23, l1, l14, l32, l127, l134, l57344, l65536, g8, g31, g132, g159, g55295, g65533, g1114111, q9, q10, q11, q12, q13, q133, if_true, if_false])
theorem own_law_16 (p1 : Int32) (h1 : 65536 ≤ p1.toInt) (h2 : p1.toInt ≤ 1114111) : fI_0 p1 = (0 : Int32) ∨ fR_9 p1 = fX p1 := by
  have l1 : ¬ p1 < (1 : Int32) := own_nlt (1 : Int32) 1 rfl (by omega)
  have l14 : ¬ p1 < (14 : Int32) := own_nlt (14 : Int32) 14 rfl (by omega)
  have l32 : ¬ p1 < (32 : Int32) := own_nlt (32 : Int32) 32 rfl (by omega)
  have l127 : ¬ p1 < (127 : Int32) := own_nlt (127 : Int32) 127 rfl (by omega)
  have l134 : ¬ p1 < (134 : Int32) := own_nlt (134 : Int32) 134 rfl (by omega)
  have l57344 : ¬ p1 < (57344 : Int32) := own_nlt (57344 : Int32) 57344 rfl (by omega)
  have l65536 : ¬ p1 < (65536 : Int32) := own_nlt (65536 : Int32) 65536 rfl (by omega)
  have g8 : (8 : Int32) < p1 := own_gt (8 : Int32) 8 rfl (by omega)
  have g31 : (31 : Int32) < p1 := own_gt (31 : Int32) 31 rfl (by omega)
  have g132 : (132 : Int32) < p1 := own_gt (132 : Int32) 132 rfl (by omega)
  have g159 : (159 : Int32) < p1 := own_gt (159 : Int32) 159 rfl (by omega)
  have g55295 : (55295 : Int32) < p1 := own_gt (55295 : Int32) 55295 rfl (by omega)
  have g65533 : (65533 : Int32) < p1 := own_gt (65533 : Int32) 65533 rfl (by omega)
  have g1114111 : ¬ (1114111 : Int32) < p1 := own_ngt (1114111 : Int32) 1114111 rfl (by omega)
  have q9 : ¬ p1 = (9 : Int32) := own_ne (9 : Int32) 9 rfl (by omega)
  have q10 : ¬ p1 = (10 : Int32) := own_ne (10 : Int32) 10 rfl (by omega)
  have q11 : ¬ p1 = (11 : Int32) := own_ne (11 : Int32) 11 rfl (by omega)
  have q12 : ¬ p1 = (12 : Int32) := own_ne (12 : Int32) 12 rfl (by omega)
  have q13 : ¬ p1 = (13 : Int32) := own_ne (13 : Int32) 13 rfl (by omega)
  have q133 : ¬ p1 = (133 : Int32) := own_ne (133 : Int32) 133 rfl (by omega)
  exact Or.inr (by simp only [fR_9, fR_33, fX, fI_0, fI_11, fI_23, l1, l14, l32, l127, l134, l57344, l65536, g8, g31, g132, g159, g55295, g65533, g1114111, q9, q10, q11, q12, q13, q133, if_true, if_false])
theorem own_law_17 (p1 : Int32) (h1 : 1114112 ≤ p1.toInt) : fI_0 p1 = (0 : Int32) ∨ fR_9 p1 = fX p1 := by
  have l1 : ¬ p1 < (1 : Int32) := own_nlt (1 : Int32) 1 rfl (by omega)
  have l14 : ¬ p1 < (14 : Int32) := own_nlt (14 : Int32) 14 rfl (by omega)
  have l32 : ¬ p1 < (32 : Int32) := own_nlt (32 : Int32) 32 rfl (by omega)
  have l127 : ¬ p1 < (127 : Int32) := own_nlt (127 : Int32) 127 rfl (by omega)
  have l134 : ¬ p1 < (134 : Int32) := own_nlt (134 : Int32) 134 rfl (by omega)
  have l57344 : ¬ p1 < (57344 : Int32) := own_nlt (57344 : Int32) 57344 rfl (by omega)
  have l65536 : ¬ p1 < (65536 : Int32) := own_nlt (65536 : Int32) 65536 rfl (by omega)
  have g8 : (8 : Int32) < p1 := own_gt (8 : Int32) 8 rfl (by omega)
  have g31 : (31 : Int32) < p1 := own_gt (31 : Int32) 31 rfl (by omega)
  have g132 : (132 : Int32) < p1 := own_gt (132 : Int32) 132 rfl (by omega)
  have g159 : (159 : Int32) < p1 := own_gt (159 : Int32) 159 rfl (by omega)
  have g55295 : (55295 : Int32) < p1 := own_gt (55295 : Int32) 55295 rfl (by omega)
  have g65533 : (65533 : Int32) < p1 := own_gt (65533 : Int32) 65533 rfl (by omega)
  have g1114111 : (1114111 : Int32) < p1 := own_gt (1114111 : Int32) 1114111 rfl (by omega)
  have q9 : ¬ p1 = (9 : Int32) := own_ne (9 : Int32) 9 rfl (by omega)
  have q10 : ¬ p1 = (10 : Int32) := own_ne (10 : Int32) 10 rfl (by omega)
  have q11 : ¬ p1 = (11 : Int32) := own_ne (11 : Int32) 11 rfl (by omega)
  have q12 : ¬ p1 = (12 : Int32) := own_ne (12 : Int32) 12 rfl (by omega)
  have q13 : ¬ p1 = (13 : Int32) := own_ne (13 : Int32) 13 rfl (by omega)
  have q133 : ¬ p1 = (133 : Int32) := own_ne (133 : Int32) 133 rfl (by omega)
  exact Or.inl (by simp only [fR_9, fR_33, fX, fI_0, fI_11, fI_23, l1, l14, l32, l127, l134, l57344, l65536, g8, g31, g132, g159, g55295, g65533, g1114111, q9, q10, q11, q12, q13, q133, if_true, if_false])
theorem own_law (p1 : Int32) : fI_0 p1 = (0 : Int32) ∨ fR_9 p1 = fX p1 := by
  by_cases c0 : p1.toInt < 1
  · exact own_law_0 p1 (by omega)
  by_cases c1 : p1.toInt < 9
  · exact own_law_1 p1 (by omega) (by omega)
  by_cases c2 : p1.toInt < 10
  · exact own_law_2 p1 (by omega) (by omega)
  by_cases c3 : p1.toInt < 11
  · exact own_law_3 p1 (by omega) (by omega)
  by_cases c4 : p1.toInt < 12
  · exact own_law_4 p1 (by omega) (by omega)
  by_cases c5 : p1.toInt < 13
  · exact own_law_5 p1 (by omega) (by omega)
  by_cases c6 : p1.toInt < 14
  · exact own_law_6 p1 (by omega) (by omega)
  by_cases c7 : p1.toInt < 32
  · exact own_law_7 p1 (by omega) (by omega)
  by_cases c8 : p1.toInt < 127
  · exact own_law_8 p1 (by omega) (by omega)
  by_cases c9 : p1.toInt < 133
  · exact own_law_9 p1 (by omega) (by omega)
  by_cases c10 : p1.toInt < 134
  · exact own_law_10 p1 (by omega) (by omega)
  by_cases c11 : p1.toInt < 160
  · exact own_law_11 p1 (by omega) (by omega)
  by_cases c12 : p1.toInt < 55296
  · exact own_law_12 p1 (by omega) (by omega)
  by_cases c13 : p1.toInt < 57344
  · exact own_law_13 p1 (by omega) (by omega)
  by_cases c14 : p1.toInt < 65534
  · exact own_law_14 p1 (by omega) (by omega)
  by_cases c15 : p1.toInt < 65536
  · exact own_law_15 p1 (by omega) (by omega)
  by_cases c16 : p1.toInt < 1114112
  · exact own_law_16 p1 (by omega) (by omega)
  exact own_law_17 p1 (by omega)
theorem dR_0 : decode prog_55_method_7_code 0 = .ok (.aload_n 0, 1) := by decide +kernel
theorem dR_1 : decode prog_55_method_7_code 1 = .ok (.getstatic 3, 3) := by decide +kernel
theorem dR_4 : decode prog_55_method_7_code 4 = .ok (.if_acmp .ne 5, 3) := by decide +kernel
theorem dR_7 : decode prog_55_method_7_code 7 = .ok (.iconst 0, 1) := by decide +kernel
theorem dR_8 : decode prog_55_method_7_code 8 = .ok (.ireturn, 1) := by decide +kernel
theorem dR_9 : decode prog_55_method_7_code 9 = .ok (.iload_n 1, 1) := by decide +kernel
theorem dR_10 : decode prog_55_method_7_code 10 = .ok (.bipush 32, 2) := by decide +kernel
theorem dR_12 : decode prog_55_method_7_code 12 = .ok (.if_icmp .ge 21, 3) := by decide +kernel
theorem dR_15 : decode prog_55_method_7_code 15 = .ok (.iload_n 1, 1) := by decide +kernel
theorem dR_16 : decode prog_55_method_7_code 16 = .ok (.bipush 9, 2) := by decide +kernel
theorem dR_18 : decode prog_55_method_7_code 18 = .ok (.if_icmp .eq 15, 3) := by decide +kernel
theorem dR_21 : decode prog_55_method_7_code 21 = .ok (.iload_n 1, 1) := by decide +kernel
theorem dR_22 : decode prog_55_method_7_code 22 = .ok (.bipush 10, 2) := by decide +kernel
theorem dR_24 : decode prog_55_method_7_code 24 = .ok (.if_icmp .eq 9, 3) := by decide +kernel
theorem dR_27 : decode prog_55_method_7_code 27 = .ok (.iload_n 1, 1) := by decide +kernel
theorem dR_28 : decode prog_55_method_7_code 28 = .ok (.bipush 13, 2) := by decide +kernel
theorem dR_30 : decode prog_55_method_7_code 30 = .ok (.if_icmp .ne 23, 3) := by decide +kernel
theorem dR_33 : decode prog_55_method_7_code 33 = .ok (.iload_n 1, 1) := by decide +kernel
theorem dR_34 : decode prog_55_method_7_code 34 = .ok (.bipush 127, 2) := by decide +kernel
theorem dR_36 : decode prog_55_method_7_code 36 = .ok (.if_icmp .lt 21, 3) := by decide +kernel
theorem dR_39 : decode prog_55_method_7_code 39 = .ok (.iload_n 1, 1) := by decide +kernel
theorem dR_40 : decode prog_55_method_7_code 40 = .ok (.sipush 159, 3) := by decide +kernel
theorem dR_43 : decode prog_55_method_7_code 43 = .ok (.if_icmp .gt 14, 3) := by decide +kernel
theorem dR_46 : decode prog_55_method_7_code 46 = .ok (.iload_n 1, 1) := by decide +kernel
theorem dR_47 : decode prog_55_method_7_code 47 = .ok (.sipush 133, 3) := by decide +kernel
theorem dR_50 : decode prog_55_method_7_code 50 = .ok (.if_icmp .eq 7, 3) := by decide +kernel
theorem dR_53 : decode prog_55_method_7_code 53 = .ok (.iconst 1, 1) := by decide +kernel
theorem dR_54 : decode prog_55_method_7_code 54 = .ok (.goto 4, 3) := by decide +kernel
theorem dR_57 : decode prog_55_method_7_code 57 = .ok (.iconst 0, 1) := by decide +kernel
theorem dR_58 : decode prog_55_method_7_code 58 = .ok (.ireturn, 1) := by decide +kernel
theorem ef_R (m : MethodId) (x0 : Addr) (x1 : Int32) : entryFrame m #[(.ref x0), (.int x1)] 2 = mkF m 0 #[.val (.ref x0), .val (.int x1)] [] := by first | (simp [entryFrame, mkF, argsToLocals, Value.category]; done) | rfl
set_option maxRecDepth 65536 in
set_option maxHeartbeats 40000000 in
theorem rmR (l : Launch) (Z : State) (a0 : Array Value) (hw : ∀ d ∈ tables_1, d.before a0 Z = true) (ws : List Jvm.Cond) (a1 : Addr) (p1 : Int32) (w0 : Addr) (h0 : Heap) (S0 : Sta Z h0 "com/example/libxform/libxform/output/XmlVersion" "V1_0" "Lcom/example/libxform/libxform/output/XmlVersion;" (.ref w0)) :
    MetFree l (⟨"com/example/libxform/libxform/output/XmlVersion", "restricts", "(I)Z"⟩ : MethodName) (head1 (Jvm.Cond.code (⟨"com/example/libxform/libxform/output/XmlVersion", "restricts", "(I)Z"⟩ : MethodName) prog_55_method_7_code 2 (some .boolean) :: ws) ({ frames := 0, cells := 0, slots := 0, locals := 0 } : Room)) (fun a U => a = #[(.ref a1), (.int p1)] ∧ Z.Warmed39 U.vm ∧ U.heap = h0) (fun _ _ _ _ _ => True) (fun _ U o U' => ∃ v L, o = .returned v ∧ QP (some (.int (rs a1 w0 p1))) h0 v U'.heap L ∧ FrameEnd U o U' L ({ frames := 0, cells := 0, slots := 0, locals := 0 } : Room).cells ({ frames := 0, cells := 0, slots := 0, locals := 0 } : Room).slots) := by
  refine MetFree.of_bodySF (plainFor_of_name (by first | (simp [plainName, overriddenIn]; done) | decide +kernel)) hisR ?_
  intro p e s m args below meth c s₁ Bd hml0 hP hK
  obtain ⟨rfl, hZ, hh⟩ := hP
  have hx := Bd.exec
  have hby := Bd.bytes
  have hml : c.maxLocals = 2 := hml0
  have hown : s.vm.findClass "com/example/libxform/libxform/output/XmlVersion" = some m.cls := findClass_of_methodNamed Bd.named
  have hnm := (name_of_methodNamed Bd.named Bd.method).1
  have hlk : meth.locks = false := BodyLoose.notSynchronized Bd
  have X0 : Stand p l e ({ frames := 0, cells := 0, slots := 0, locals := 0 } : Room) s m #[(.ref a1), (.int p1)] below meth c s₁ [] 0 0 := Stand.of_body Bd
  have e0 : s₁.heap = h0 := by rw [← hh, Bd.state]; rfl
  have P0 : ∀ t, Steps p.tables e below (s₁.setTop (mkF m 0 #[.val (.ref a1), .val (.int p1)] [])) t → Steps p.tables e below (s₁.setTop (entryFrame m #[(.ref a1), (.int p1)] 2)) t := fun t kt => castTop (ef_R m a1 p1) kt
  obtain ⟨T101, X101, e101, st101⟩ := getS2 X0 hx hZ hown (host := "") (Or.inl (hw _ (List.mem_of_getElem? (i := 8) rfl))) Via.refl e0 S0 (g := (mkF m 1 #[.val (.ref a1), .val (.int p1)] [(.ref a1)])) rfl (hb hby dR_1)
  have P102 : ∀ t, Steps p.tables e below (T101.setTop (mkF m 4 #[.val (.ref a1), .val (.int p1)] [(.ref w0), (.ref a1)])) t → Steps p.tables e below (s₁.setTop (entryFrame m #[(.ref a1), (.int p1)] 2)) t := fun t kt => P0 t (by
    show Steps p.tables e below (s₁.setTop (mkF m 0 #[.val (.ref a1), .val (.int p1)] [])) _
    refine XS.aloadN X0.here hx rfl (hb hby dR_0) rfl rfl ?_
    show Steps p.tables e below (s₁.setTop (mkF m 1 #[.val (.ref a1), .val (.int p1)] [(.ref a1)])) _
    refine st101 _ ?_
    exact kt)
  by_cases hc4_103 : a1 = w0
  · have P104 : ∀ t, Steps p.tables e below (T101.setTop (mkF m 8 #[.val (.ref a1), .val (.int p1)] [(.int (0 : Int32))])) t → Steps p.tables e below (s₁.setTop (entryFrame m #[(.ref a1), (.int p1)] 2)) t := fun t kt => P102 t (by
      show Steps p.tables e below (T101.setTop (mkF m 4 #[.val (.ref a1), .val (.int p1)] [(.ref w0), (.ref a1)])) _
      refine Jvm.RoadKit.acmp (g := (mkF m 4 #[.val (.ref a1), .val (.int p1)] [(.ref w0), (.ref a1)])) X101 hx rfl rfl rfl (pc0 := 4) (pc' := 7) (same := true) rfl (hb hby dR_4) rfl (decide_eq_true (congrArg Value.ref hc4_103)) (by decide) (by decide) ?_
      show Steps p.tables e below (T101.setTop (mkF m 7 #[.val (.ref a1), .val (.int p1)] [])) _
      refine XS.iconst X101.here hx rfl (hb hby dR_7) ?_
      exact kt)
    obtain ⟨fs, hr, hrun, hended, hW, hsame⟩ := X101.leave (v := some (.int (0 : Int32))) (fun h => by rw [Bd.returns] at h; cases h) (hlocks := hlk)
    refine ⟨_, _, P104 _ ?_, hrun, hended, _, _, rfl, ?_, ⟨_, rfl⟩, hW, hsame.mono (by decide) (by decide)⟩
    · show Steps p.tables e below (T101.setTop (mkF m 8 #[.val (.ref a1), .val (.int p1)] [(.int (0 : Int32))])) _
      exact retN X101 hx (t := .boolean) Bd.returns (by simp) (hb hby dR_8) hr
    · show QP _ h0 _ T101.heap _
      have ev : rs a1 w0 p1 = (0 : Int32) := if_pos hc4_103
      rw [ev]
      exact ⟨rfl, rfl, e101⟩
  · have P105 : ∀ t, Steps p.tables e below (T101.setTop (mkF m 9 #[.val (.ref a1), .val (.int p1)] [])) t → Steps p.tables e below (s₁.setTop (entryFrame m #[(.ref a1), (.int p1)] 2)) t := fun t kt => P102 t (by
      show Steps p.tables e below (T101.setTop (mkF m 4 #[.val (.ref a1), .val (.int p1)] [(.ref w0), (.ref a1)])) _
      refine Jvm.RoadKit.acmp (g := (mkF m 4 #[.val (.ref a1), .val (.int p1)] [(.ref w0), (.ref a1)])) X101 hx rfl rfl rfl (pc0 := 4) (pc' := 9) (same := false) rfl (hb hby dR_4) rfl (decide_eq_false fun q => hc4_103 (Value.ref.inj q)) (by decide) (by decide) ?_
      exact kt)
    have B33 : ∀ t, Steps p.tables e below (T101.setTop (mkF m 58 #[.val (.ref a1), .val (.int p1)] [(.int (fR_33 p1))])) t → Steps p.tables e below (T101.setTop (mkF m 33 #[.val (.ref a1), .val (.int p1)] [])) t := by
      intro t kt
      show Steps p.tables e below (T101.setTop (mkF m 33 #[.val (.ref a1), .val (.int p1)] [])) _
      refine XS.iloadN X101.here hx rfl (hb hby dR_33) rfl ?_
      show Steps p.tables e below (T101.setTop (mkF m 34 #[.val (.ref a1), .val (.int p1)] [(.int p1)])) _
      refine XS.bipush X101.here hx rfl (hb hby dR_34) ?_
      by_cases hk33_0 : p1 < (127 : Int32)
      · have ev : fR_33 p1 = (0 : Int32) := by unfold fR_33; rw [if_pos hk33_0]
        rw [ev] at kt
        show Steps p.tables e below (T101.setTop (mkF m 36 #[.val (.ref a1), .val (.int p1)] [(.int (127 : Int32)), (.int p1)])) _
        refine XS.icmpYes X101.here hx rfl (pc0 := 36) (pc' := 57) rfl (hb hby dR_36) rfl (tlt hk33_0).1 (by decide) (by decide) ?_
        show Steps p.tables e below (T101.setTop (mkF m 57 #[.val (.ref a1), .val (.int p1)] [])) _
        refine XS.iconst X101.here hx rfl (hb hby dR_57) ?_
        exact kt
      · show Steps p.tables e below (T101.setTop (mkF m 36 #[.val (.ref a1), .val (.int p1)] [(.int (127 : Int32)), (.int p1)])) _
        refine XS.icmpNo X101.here hx rfl (hb hby dR_36) rfl (flt hk33_0).1 ?_
        show Steps p.tables e below (T101.setTop (mkF m 39 #[.val (.ref a1), .val (.int p1)] [])) _
        refine XS.iloadN X101.here hx rfl (hb hby dR_39) rfl ?_
        show Steps p.tables e below (T101.setTop (mkF m 40 #[.val (.ref a1), .val (.int p1)] [(.int p1)])) _
        refine XS.sipush X101.here hx rfl (hb hby dR_40) ?_
        by_cases hk33_1 : (159 : Int32) < p1
        · have ev : fR_33 p1 = (0 : Int32) := by unfold fR_33; rw [if_neg hk33_0, if_pos hk33_1]
          rw [ev] at kt
          show Steps p.tables e below (T101.setTop (mkF m 43 #[.val (.ref a1), .val (.int p1)] [(.int (159 : Int32)), (.int p1)])) _
          refine XS.icmpYes X101.here hx rfl (pc0 := 43) (pc' := 57) rfl (hb hby dR_43) rfl (tlt hk33_1).2.2.1 (by decide) (by decide) ?_
          show Steps p.tables e below (T101.setTop (mkF m 57 #[.val (.ref a1), .val (.int p1)] [])) _
          refine XS.iconst X101.here hx rfl (hb hby dR_57) ?_
          exact kt
        · show Steps p.tables e below (T101.setTop (mkF m 43 #[.val (.ref a1), .val (.int p1)] [(.int (159 : Int32)), (.int p1)])) _
          refine XS.icmpNo X101.here hx rfl (hb hby dR_43) rfl (flt hk33_1).2.2.1 ?_
          show Steps p.tables e below (T101.setTop (mkF m 46 #[.val (.ref a1), .val (.int p1)] [])) _
          refine XS.iloadN X101.here hx rfl (hb hby dR_46) rfl ?_
          show Steps p.tables e below (T101.setTop (mkF m 47 #[.val (.ref a1), .val (.int p1)] [(.int p1)])) _
          refine XS.sipush X101.here hx rfl (hb hby dR_47) ?_
          by_cases hk33_2 : p1 = (133 : Int32)
          · have ev : fR_33 p1 = (0 : Int32) := by unfold fR_33; rw [if_neg hk33_0, if_neg hk33_1, if_pos hk33_2]
            rw [ev] at kt
            show Steps p.tables e below (T101.setTop (mkF m 50 #[.val (.ref a1), .val (.int p1)] [(.int (133 : Int32)), (.int p1)])) _
            refine XS.icmpYes X101.here hx rfl (pc0 := 50) (pc' := 57) rfl (hb hby dR_50) rfl (teq hk33_2).1 (by decide) (by decide) ?_
            show Steps p.tables e below (T101.setTop (mkF m 57 #[.val (.ref a1), .val (.int p1)] [])) _
            refine XS.iconst X101.here hx rfl (hb hby dR_57) ?_
            exact kt
          · have ev : fR_33 p1 = (1 : Int32) := by unfold fR_33; rw [if_neg hk33_0, if_neg hk33_1, if_neg hk33_2]
            rw [ev] at kt
            show Steps p.tables e below (T101.setTop (mkF m 50 #[.val (.ref a1), .val (.int p1)] [(.int (133 : Int32)), (.int p1)])) _
            refine XS.icmpNo X101.here hx rfl (hb hby dR_50) rfl (feq hk33_2).1 ?_
            show Steps p.tables e below (T101.setTop (mkF m 53 #[.val (.ref a1), .val (.int p1)] [])) _
            refine XS.iconst X101.here hx rfl (hb hby dR_53) ?_
            show Steps p.tables e below (T101.setTop (mkF m 54 #[.val (.ref a1), .val (.int p1)] [(.int (1 : Int32))])) _
            refine XS.goto X101.here hx rfl (pc0 := 54) (pc' := 58) rfl (hb hby dR_54) (by decide) (by decide) ?_
            exact kt
    have B9 : ∀ t, Steps p.tables e below (T101.setTop (mkF m 58 #[.val (.ref a1), .val (.int p1)] [(.int (fR_9 p1))])) t → Steps p.tables e below (T101.setTop (mkF m 9 #[.val (.ref a1), .val (.int p1)] [])) t := by
      intro t kt
      show Steps p.tables e below (T101.setTop (mkF m 9 #[.val (.ref a1), .val (.int p1)] [])) _
      refine XS.iloadN X101.here hx rfl (hb hby dR_9) rfl ?_
      show Steps p.tables e below (T101.setTop (mkF m 10 #[.val (.ref a1), .val (.int p1)] [(.int p1)])) _
      refine XS.bipush X101.here hx rfl (hb hby dR_10) ?_
      by_cases hk9_0 : p1 < (32 : Int32)
      · show Steps p.tables e below (T101.setTop (mkF m 12 #[.val (.ref a1), .val (.int p1)] [(.int (32 : Int32)), (.int p1)])) _
        refine XS.icmpNo X101.here hx rfl (hb hby dR_12) rfl (tlt hk9_0).2.1 ?_
        show Steps p.tables e below (T101.setTop (mkF m 15 #[.val (.ref a1), .val (.int p1)] [])) _
        refine XS.iloadN X101.here hx rfl (hb hby dR_15) rfl ?_
        show Steps p.tables e below (T101.setTop (mkF m 16 #[.val (.ref a1), .val (.int p1)] [(.int p1)])) _
        refine XS.bipush X101.here hx rfl (hb hby dR_16) ?_
        by_cases hk9_1 : p1 = (9 : Int32)
        · have ev : fR_9 p1 = fR_33 p1 := by unfold fR_9; rw [if_pos hk9_0, if_pos hk9_1]
          rw [ev] at kt
          show Steps p.tables e below (T101.setTop (mkF m 18 #[.val (.ref a1), .val (.int p1)] [(.int (9 : Int32)), (.int p1)])) _
          refine XS.icmpYes X101.here hx rfl (pc0 := 18) (pc' := 33) rfl (hb hby dR_18) rfl (teq hk9_1).1 (by decide) (by decide) ?_
          exact B33 t kt
        · show Steps p.tables e below (T101.setTop (mkF m 18 #[.val (.ref a1), .val (.int p1)] [(.int (9 : Int32)), (.int p1)])) _
          refine XS.icmpNo X101.here hx rfl (hb hby dR_18) rfl (feq hk9_1).1 ?_
          show Steps p.tables e below (T101.setTop (mkF m 21 #[.val (.ref a1), .val (.int p1)] [])) _
          refine XS.iloadN X101.here hx rfl (hb hby dR_21) rfl ?_
          show Steps p.tables e below (T101.setTop (mkF m 22 #[.val (.ref a1), .val (.int p1)] [(.int p1)])) _
          refine XS.bipush X101.here hx rfl (hb hby dR_22) ?_
          by_cases hk9_2 : p1 = (10 : Int32)
          · have ev : fR_9 p1 = fR_33 p1 := by unfold fR_9; rw [if_pos hk9_0, if_neg hk9_1, if_pos hk9_2]
            rw [ev] at kt
            show Steps p.tables e below (T101.setTop (mkF m 24 #[.val (.ref a1), .val (.int p1)] [(.int (10 : Int32)), (.int p1)])) _
            refine XS.icmpYes X101.here hx rfl (pc0 := 24) (pc' := 33) rfl (hb hby dR_24) rfl (teq hk9_2).1 (by decide) (by decide) ?_
            exact B33 t kt
          · show Steps p.tables e below (T101.setTop (mkF m 24 #[.val (.ref a1), .val (.int p1)] [(.int (10 : Int32)), (.int p1)])) _
            refine XS.icmpNo X101.here hx rfl (hb hby dR_24) rfl (feq hk9_2).1 ?_
            show Steps p.tables e below (T101.setTop (mkF m 27 #[.val (.ref a1), .val (.int p1)] [])) _
            refine XS.iloadN X101.here hx rfl (hb hby dR_27) rfl ?_
            show Steps p.tables e below (T101.setTop (mkF m 28 #[.val (.ref a1), .val (.int p1)] [(.int p1)])) _
            refine XS.bipush X101.here hx rfl (hb hby dR_28) ?_
            by_cases hk9_3 : p1 = (13 : Int32)
            · have ev : fR_9 p1 = fR_33 p1 := by unfold fR_9; rw [if_pos hk9_0, if_neg hk9_1, if_neg hk9_2, if_pos hk9_3]
              rw [ev] at kt
              show Steps p.tables e below (T101.setTop (mkF m 30 #[.val (.ref a1), .val (.int p1)] [(.int (13 : Int32)), (.int p1)])) _
              refine XS.icmpNo X101.here hx rfl (hb hby dR_30) rfl (teq hk9_3).2 ?_
              exact B33 t kt
            · have ev : fR_9 p1 = (1 : Int32) := by unfold fR_9; rw [if_pos hk9_0, if_neg hk9_1, if_neg hk9_2, if_neg hk9_3]
              rw [ev] at kt
              show Steps p.tables e below (T101.setTop (mkF m 30 #[.val (.ref a1), .val (.int p1)] [(.int (13 : Int32)), (.int p1)])) _
              refine XS.icmpYes X101.here hx rfl (pc0 := 30) (pc' := 53) rfl (hb hby dR_30) rfl (feq hk9_3).2 (by decide) (by decide) ?_
              show Steps p.tables e below (T101.setTop (mkF m 53 #[.val (.ref a1), .val (.int p1)] [])) _
              refine XS.iconst X101.here hx rfl (hb hby dR_53) ?_
              show Steps p.tables e below (T101.setTop (mkF m 54 #[.val (.ref a1), .val (.int p1)] [(.int (1 : Int32))])) _
              refine XS.goto X101.here hx rfl (pc0 := 54) (pc' := 58) rfl (hb hby dR_54) (by decide) (by decide) ?_
              exact kt
      · have ev : fR_9 p1 = fR_33 p1 := by unfold fR_9; rw [if_neg hk9_0]
        rw [ev] at kt
        show Steps p.tables e below (T101.setTop (mkF m 12 #[.val (.ref a1), .val (.int p1)] [(.int (32 : Int32)), (.int p1)])) _
        refine XS.icmpYes X101.here hx rfl (pc0 := 12) (pc' := 33) rfl (hb hby dR_12) rfl (flt hk9_0).2.1 (by decide) (by decide) ?_
        exact B33 t kt
    have P106 : ∀ t, Steps p.tables e below (T101.setTop (mkF m 58 #[.val (.ref a1), .val (.int p1)] [(.int (fR_9 p1))])) t → Steps p.tables e below (s₁.setTop (entryFrame m #[(.ref a1), (.int p1)] 2)) t := fun t kt => P105 t (B9 t kt)
    obtain ⟨fs, hr, hrun, hended, hW, hsame⟩ := X101.leave (v := some (.int (fR_9 p1))) (fun h => by rw [Bd.returns] at h; cases h) (hlocks := hlk)
    refine ⟨_, _, P106 _ ?_, hrun, hended, _, _, rfl, ?_, ⟨_, rfl⟩, hW, hsame.mono (by decide) (by decide)⟩
    · show Steps p.tables e below (T101.setTop (mkF m 58 #[.val (.ref a1), .val (.int p1)] [(.int (fR_9 p1))])) _
      exact retN X101 hx (t := .boolean) Bd.returns (by simp) (hb hby dR_58) (by rw [own_nar (fR_b9 p1)]; exact hr)
    · show QP _ h0 _ T101.heap _
      have ev : rs a1 w0 p1 = (fR_9 p1) := if_neg hc4_103
      rw [ev]
      exact ⟨rfl, rfl, e101⟩
theorem dI_0 : decode method_2_code 0 = .ok (.iload_n 0, 1) := by decide +kernel
theorem dI_1 : decode method_2_code 1 = .ok (.iconst 1, 1) := by decide +kernel
theorem dI_2 : decode method_2_code 2 = .ok (.if_icmp .lt 9, 3) := by decide +kernel
theorem dI_5 : decode method_2_code 5 = .ok (.iload_n 0, 1) := by decide +kernel
theorem dI_6 : decode method_2_code 6 = .ok (.ldc 7, 2) := by decide +kernel
theorem dI_8 : decode method_2_code 8 = .ok (.if_icmp .le 27, 3) := by decide +kernel
theorem dI_11 : decode method_2_code 11 = .ok (.iload_n 0, 1) := by decide +kernel
theorem dI_12 : decode method_2_code 12 = .ok (.ldc 8, 2) := by decide +kernel
theorem dI_14 : decode method_2_code 14 = .ok (.if_icmp .lt 9, 3) := by decide +kernel
theorem dI_17 : decode method_2_code 17 = .ok (.iload_n 0, 1) := by decide +kernel
theorem dI_18 : decode method_2_code 18 = .ok (.ldc 9, 2) := by decide +kernel
theorem dI_20 : decode method_2_code 20 = .ok (.if_icmp .le 15, 3) := by decide +kernel
theorem dI_23 : decode method_2_code 23 = .ok (.iload_n 0, 1) := by decide +kernel
theorem dI_24 : decode method_2_code 24 = .ok (.ldc 10, 2) := by decide +kernel
theorem dI_26 : decode method_2_code 26 = .ok (.if_icmp .lt 13, 3) := by decide +kernel
theorem dI_29 : decode method_2_code 29 = .ok (.iload_n 0, 1) := by decide +kernel
theorem dI_30 : decode method_2_code 30 = .ok (.ldc 11, 2) := by decide +kernel
theorem dI_32 : decode method_2_code 32 = .ok (.if_icmp .gt 7, 3) := by decide +kernel
theorem dI_35 : decode method_2_code 35 = .ok (.iconst 1, 1) := by decide +kernel
theorem dI_36 : decode method_2_code 36 = .ok (.goto 4, 3) := by decide +kernel
theorem dI_39 : decode method_2_code 39 = .ok (.iconst 0, 1) := by decide +kernel
theorem dI_40 : decode method_2_code 40 = .ok (.ireturn, 1) := by decide +kernel
theorem ef_I (m : MethodId) (x0 : Int32) : entryFrame m #[(.int x0)] 1 = mkF m 0 #[.val (.int x0)] [] := by first | (simp [entryFrame, mkF, argsToLocals, Value.category]; done) | rfl
set_option maxRecDepth 65536 in
set_option maxHeartbeats 40000000 in
theorem rmI (l : Launch) (Z : State) (a0 : Array Value) (hw : ∀ d ∈ tables_1, d.before a0 Z = true) (ws : List Jvm.Cond) (p1 : Int32) (h0 : Heap) :
    MetFree l (⟨"com/example/libxform/libxform/output/XmlVersionRestrictsPinLaw", "isChar11", "(I)Z"⟩ : MethodName) (head1 (Jvm.Cond.code (⟨"com/example/libxform/libxform/output/XmlVersionRestrictsPinLaw", "isChar11", "(I)Z"⟩ : MethodName) method_2_code 1 (some .boolean) :: ws) ({ frames := 0, cells := 0, slots := 0, locals := 0 } : Room)) (fun a U => a = #[(.int p1)] ∧ Z.Warmed39 U.vm ∧ U.heap = h0) (fun _ _ _ _ _ => True) (fun _ U o U' => ∃ v L, o = .returned v ∧ QP (some (.int (fI_0 p1))) h0 v U'.heap L ∧ FrameEnd U o U' L ({ frames := 0, cells := 0, slots := 0, locals := 0 } : Room).cells ({ frames := 0, cells := 0, slots := 0, locals := 0 } : Room).slots) := by
  refine MetFree.of_bodySF (plainFor_of_name (by first | (simp [plainName, overriddenIn]; done) | decide +kernel)) hisR ?_
  intro p e s m args below meth c s₁ Bd hml0 hP hK
  obtain ⟨rfl, hZ, hh⟩ := hP
  have hx := Bd.exec
  have hby := Bd.bytes
  have hml : c.maxLocals = 1 := hml0
  have hown : s.vm.findClass "com/example/libxform/libxform/output/XmlVersionRestrictsPinLaw" = some m.cls := findClass_of_methodNamed Bd.named
  have hnm := (name_of_methodNamed Bd.named Bd.method).1
  have hlk : meth.locks = false := BodyLoose.notSynchronized Bd
  have X0 : Stand p l e ({ frames := 0, cells := 0, slots := 0, locals := 0 } : Room) s m #[(.int p1)] below meth c s₁ [] 0 0 := Stand.of_body Bd
  have e0 : s₁.heap = h0 := by rw [← hh, Bd.state]; rfl
  have P0 : ∀ t, Steps p.tables e below (s₁.setTop (mkF m 0 #[.val (.int p1)] [])) t → Steps p.tables e below (s₁.setTop (entryFrame m #[(.int p1)] 1)) t := fun t kt => castTop (ef_I m p1) kt
  have B23 : ∀ t, Steps p.tables e below (s₁.setTop (mkF m 40 #[.val (.int p1)] [(.int (fI_23 p1))])) t → Steps p.tables e below (s₁.setTop (mkF m 23 #[.val (.int p1)] [])) t := by
    intro t kt
    show Steps p.tables e below (s₁.setTop (mkF m 23 #[.val (.int p1)] [])) _
    refine XS.iloadN X0.here hx rfl (hb hby dI_23) rfl ?_
    show Steps p.tables e below (s₁.setTop (mkF m 24 #[.val (.int p1)] [(.int p1)])) _
    refine X0.ldcInt hx hown (mvT hZ (hw _ (List.mem_of_getElem? (i := 22) rfl))) (g := (mkF m 24 #[.val (.int p1)] [(.int p1)])) rfl (hb hby dI_24) _ ?_
    by_cases hk23_0 : p1 < (65536 : Int32)
    · have ev : fI_23 p1 = (0 : Int32) := by unfold fI_23; rw [if_pos hk23_0]
      rw [ev] at kt
      show Steps p.tables e below (s₁.setTop (mkF m 26 #[.val (.int p1)] [(.int (65536 : Int32)), (.int p1)])) _
      refine XS.icmpYes X0.here hx rfl (pc0 := 26) (pc' := 39) rfl (hb hby dI_26) rfl (tlt hk23_0).1 (by decide) (by decide) ?_
      show Steps p.tables e below (s₁.setTop (mkF m 39 #[.val (.int p1)] [])) _
      refine XS.iconst X0.here hx rfl (hb hby dI_39) ?_
      exact kt
    · show Steps p.tables e below (s₁.setTop (mkF m 26 #[.val (.int p1)] [(.int (65536 : Int32)), (.int p1)])) _
      refine XS.icmpNo X0.here hx rfl (hb hby dI_26) rfl (flt hk23_0).1 ?_
      show Steps p.tables e below (s₁.setTop (mkF m 29 #[.val (.int p1)] [])) _
      refine XS.iloadN X0.here hx rfl (hb hby dI_29) rfl ?_
      show Steps p.tables e below (s₁.setTop (mkF m 30 #[.val (.int p1)] [(.int p1)])) _
      refine X0.ldcInt hx hown (mvT hZ (hw _ (List.mem_of_getElem? (i := 24) rfl))) (g := (mkF m 30 #[.val (.int p1)] [(.int p1)])) rfl (hb hby dI_30) _ ?_
      by_cases hk23_1 : (1114111 : Int32) < p1
      · have ev : fI_23 p1 = (0 : Int32) := by unfold fI_23; rw [if_neg hk23_0, if_pos hk23_1]
        rw [ev] at kt
        show Steps p.tables e below (s₁.setTop (mkF m 32 #[.val (.int p1)] [(.int (1114111 : Int32)), (.int p1)])) _
        refine XS.icmpYes X0.here hx rfl (pc0 := 32) (pc' := 39) rfl (hb hby dI_32) rfl (tlt hk23_1).2.2.1 (by decide) (by decide) ?_
        show Steps p.tables e below (s₁.setTop (mkF m 39 #[.val (.int p1)] [])) _
        refine XS.iconst X0.here hx rfl (hb hby dI_39) ?_
        exact kt
      · have ev : fI_23 p1 = (1 : Int32) := by unfold fI_23; rw [if_neg hk23_0, if_neg hk23_1]
        rw [ev] at kt
        show Steps p.tables e below (s₁.setTop (mkF m 32 #[.val (.int p1)] [(.int (1114111 : Int32)), (.int p1)])) _
        refine XS.icmpNo X0.here hx rfl (hb hby dI_32) rfl (flt hk23_1).2.2.1 ?_
        show Steps p.tables e below (s₁.setTop (mkF m 35 #[.val (.int p1)] [])) _
        refine XS.iconst X0.here hx rfl (hb hby dI_35) ?_
        show Steps p.tables e below (s₁.setTop (mkF m 36 #[.val (.int p1)] [(.int (1 : Int32))])) _
        refine XS.goto X0.here hx rfl (pc0 := 36) (pc' := 40) rfl (hb hby dI_36) (by decide) (by decide) ?_
        exact kt
  have B11 : ∀ t, Steps p.tables e below (s₁.setTop (mkF m 40 #[.val (.int p1)] [(.int (fI_11 p1))])) t → Steps p.tables e below (s₁.setTop (mkF m 11 #[.val (.int p1)] [])) t := by
    intro t kt
    show Steps p.tables e below (s₁.setTop (mkF m 11 #[.val (.int p1)] [])) _
    refine XS.iloadN X0.here hx rfl (hb hby dI_11) rfl ?_
    show Steps p.tables e below (s₁.setTop (mkF m 12 #[.val (.int p1)] [(.int p1)])) _
    refine X0.ldcInt hx hown (mvT hZ (hw _ (List.mem_of_getElem? (i := 21) rfl))) (g := (mkF m 12 #[.val (.int p1)] [(.int p1)])) rfl (hb hby dI_12) _ ?_
    by_cases hk11_0 : p1 < (57344 : Int32)
    · have ev : fI_11 p1 = fI_23 p1 := by unfold fI_11; rw [if_pos hk11_0]
      rw [ev] at kt
      show Steps p.tables e below (s₁.setTop (mkF m 14 #[.val (.int p1)] [(.int (57344 : Int32)), (.int p1)])) _
      refine XS.icmpYes X0.here hx rfl (pc0 := 14) (pc' := 23) rfl (hb hby dI_14) rfl (tlt hk11_0).1 (by decide) (by decide) ?_
      exact B23 t kt
    · show Steps p.tables e below (s₁.setTop (mkF m 14 #[.val (.int p1)] [(.int (57344 : Int32)), (.int p1)])) _
      refine XS.icmpNo X0.here hx rfl (hb hby dI_14) rfl (flt hk11_0).1 ?_
      show Steps p.tables e below (s₁.setTop (mkF m 17 #[.val (.int p1)] [])) _
      refine XS.iloadN X0.here hx rfl (hb hby dI_17) rfl ?_
      show Steps p.tables e below (s₁.setTop (mkF m 18 #[.val (.int p1)] [(.int p1)])) _
      refine X0.ldcInt hx hown (mvT hZ (hw _ (List.mem_of_getElem? (i := 23) rfl))) (g := (mkF m 18 #[.val (.int p1)] [(.int p1)])) rfl (hb hby dI_18) _ ?_
      by_cases hk11_1 : (65533 : Int32) < p1
      · have ev : fI_11 p1 = fI_23 p1 := by unfold fI_11; rw [if_neg hk11_0, if_pos hk11_1]
        rw [ev] at kt
        show Steps p.tables e below (s₁.setTop (mkF m 20 #[.val (.int p1)] [(.int (65533 : Int32)), (.int p1)])) _
        refine XS.icmpNo X0.here hx rfl (hb hby dI_20) rfl (tlt hk11_1).2.2.2 ?_
        exact B23 t kt
      · have ev : fI_11 p1 = (1 : Int32) := by unfold fI_11; rw [if_neg hk11_0, if_neg hk11_1]
        rw [ev] at kt
        show Steps p.tables e below (s₁.setTop (mkF m 20 #[.val (.int p1)] [(.int (65533 : Int32)), (.int p1)])) _
        refine XS.icmpYes X0.here hx rfl (pc0 := 20) (pc' := 35) rfl (hb hby dI_20) rfl (flt hk11_1).2.2.2 (by decide) (by decide) ?_
        show Steps p.tables e below (s₁.setTop (mkF m 35 #[.val (.int p1)] [])) _
        refine XS.iconst X0.here hx rfl (hb hby dI_35) ?_
        show Steps p.tables e below (s₁.setTop (mkF m 36 #[.val (.int p1)] [(.int (1 : Int32))])) _
        refine XS.goto X0.here hx rfl (pc0 := 36) (pc' := 40) rfl (hb hby dI_36) (by decide) (by decide) ?_
        exact kt
  have B0 : ∀ t, Steps p.tables e below (s₁.setTop (mkF m 40 #[.val (.int p1)] [(.int (fI_0 p1))])) t → Steps p.tables e below (s₁.setTop (mkF m 0 #[.val (.int p1)] [])) t := by
    intro t kt
    show Steps p.tables e below (s₁.setTop (mkF m 0 #[.val (.int p1)] [])) _
    refine XS.iloadN X0.here hx rfl (hb hby dI_0) rfl ?_
    show Steps p.tables e below (s₁.setTop (mkF m 1 #[.val (.int p1)] [(.int p1)])) _
    refine XS.iconst X0.here hx rfl (hb hby dI_1) ?_
    by_cases hk0_0 : p1 < (1 : Int32)
    · have ev : fI_0 p1 = fI_11 p1 := by unfold fI_0; rw [if_pos hk0_0]
      rw [ev] at kt
      show Steps p.tables e below (s₁.setTop (mkF m 2 #[.val (.int p1)] [(.int (1 : Int32)), (.int p1)])) _
      refine XS.icmpYes X0.here hx rfl (pc0 := 2) (pc' := 11) rfl (hb hby dI_2) rfl (tlt hk0_0).1 (by decide) (by decide) ?_
      exact B11 t kt
    · show Steps p.tables e below (s₁.setTop (mkF m 2 #[.val (.int p1)] [(.int (1 : Int32)), (.int p1)])) _
      refine XS.icmpNo X0.here hx rfl (hb hby dI_2) rfl (flt hk0_0).1 ?_
      show Steps p.tables e below (s₁.setTop (mkF m 5 #[.val (.int p1)] [])) _
      refine XS.iloadN X0.here hx rfl (hb hby dI_5) rfl ?_
      show Steps p.tables e below (s₁.setTop (mkF m 6 #[.val (.int p1)] [(.int p1)])) _
      refine X0.ldcInt hx hown (mvT hZ (hw _ (List.mem_of_getElem? (i := 16) rfl))) (g := (mkF m 6 #[.val (.int p1)] [(.int p1)])) rfl (hb hby dI_6) _ ?_
      by_cases hk0_1 : (55295 : Int32) < p1
      · have ev : fI_0 p1 = fI_11 p1 := by unfold fI_0; rw [if_neg hk0_0, if_pos hk0_1]
        rw [ev] at kt
        show Steps p.tables e below (s₁.setTop (mkF m 8 #[.val (.int p1)] [(.int (55295 : Int32)), (.int p1)])) _
        refine XS.icmpNo X0.here hx rfl (hb hby dI_8) rfl (tlt hk0_1).2.2.2 ?_
        exact B11 t kt
      · have ev : fI_0 p1 = (1 : Int32) := by unfold fI_0; rw [if_neg hk0_0, if_neg hk0_1]
        rw [ev] at kt
        show Steps p.tables e below (s₁.setTop (mkF m 8 #[.val (.int p1)] [(.int (55295 : Int32)), (.int p1)])) _
        refine XS.icmpYes X0.here hx rfl (pc0 := 8) (pc' := 35) rfl (hb hby dI_8) rfl (flt hk0_1).2.2.2 (by decide) (by decide) ?_
        show Steps p.tables e below (s₁.setTop (mkF m 35 #[.val (.int p1)] [])) _
        refine XS.iconst X0.here hx rfl (hb hby dI_35) ?_
        show Steps p.tables e below (s₁.setTop (mkF m 36 #[.val (.int p1)] [(.int (1 : Int32))])) _
        refine XS.goto X0.here hx rfl (pc0 := 36) (pc' := 40) rfl (hb hby dI_36) (by decide) (by decide) ?_
        exact kt
  have P101 : ∀ t, Steps p.tables e below (s₁.setTop (mkF m 40 #[.val (.int p1)] [(.int (fI_0 p1))])) t → Steps p.tables e below (s₁.setTop (entryFrame m #[(.int p1)] 1)) t := fun t kt => P0 t (B0 t kt)
  obtain ⟨fs, hr, hrun, hended, hW, hsame⟩ := X0.leave (v := some (.int (fI_0 p1))) (fun h => by rw [Bd.returns] at h; cases h) (hlocks := hlk)
  refine ⟨_, _, P101 _ ?_, hrun, hended, _, _, rfl, ?_, ⟨_, rfl⟩, hW, hsame.mono (by decide) (by decide)⟩
  · show Steps p.tables e below (s₁.setTop (mkF m 40 #[.val (.int p1)] [(.int (fI_0 p1))])) _
    exact retN X0 hx (t := .boolean) Bd.returns (by simp) (hb hby dI_40) (by rw [own_nar (fI_b0 p1)]; exact hr)
  · show QP _ h0 _ s₁.heap _
    exact ⟨rfl, rfl, e0⟩
theorem dX_0 : decode method_3_code 0 = .ok (.iload_n 0, 1) := by decide +kernel
theorem dX_1 : decode method_3_code 1 = .ok (.iconst 1, 1) := by decide +kernel
theorem dX_2 : decode method_3_code 2 = .ok (.if_icmp .lt 11, 3) := by decide +kernel
theorem dX_5 : decode method_3_code 5 = .ok (.iload_n 0, 1) := by decide +kernel
theorem dX_6 : decode method_3_code 6 = .ok (.bipush 8, 2) := by decide +kernel
theorem dX_8 : decode method_3_code 8 = .ok (.if_icmp .gt 5, 3) := by decide +kernel
theorem dX_11 : decode method_3_code 11 = .ok (.iconst 1, 1) := by decide +kernel
theorem dX_12 : decode method_3_code 12 = .ok (.ireturn, 1) := by decide +kernel
theorem dX_13 : decode method_3_code 13 = .ok (.iload_n 0, 1) := by decide +kernel
theorem dX_14 : decode method_3_code 14 = .ok (.bipush 11, 2) := by decide +kernel
theorem dX_16 : decode method_3_code 16 = .ok (.if_icmp .eq 9, 3) := by decide +kernel
theorem dX_19 : decode method_3_code 19 = .ok (.iload_n 0, 1) := by decide +kernel
theorem dX_20 : decode method_3_code 20 = .ok (.bipush 12, 2) := by decide +kernel
theorem dX_22 : decode method_3_code 22 = .ok (.if_icmp .ne 5, 3) := by decide +kernel
theorem dX_25 : decode method_3_code 25 = .ok (.iconst 1, 1) := by decide +kernel
theorem dX_26 : decode method_3_code 26 = .ok (.ireturn, 1) := by decide +kernel
theorem dX_27 : decode method_3_code 27 = .ok (.iload_n 0, 1) := by decide +kernel
theorem dX_28 : decode method_3_code 28 = .ok (.bipush 14, 2) := by decide +kernel
theorem dX_30 : decode method_3_code 30 = .ok (.if_icmp .lt 11, 3) := by decide +kernel
theorem dX_33 : decode method_3_code 33 = .ok (.iload_n 0, 1) := by decide +kernel
theorem dX_34 : decode method_3_code 34 = .ok (.bipush 31, 2) := by decide +kernel
theorem dX_36 : decode method_3_code 36 = .ok (.if_icmp .gt 5, 3) := by decide +kernel
theorem dX_39 : decode method_3_code 39 = .ok (.iconst 1, 1) := by decide +kernel
theorem dX_40 : decode method_3_code 40 = .ok (.ireturn, 1) := by decide +kernel
theorem dX_41 : decode method_3_code 41 = .ok (.iload_n 0, 1) := by decide +kernel
theorem dX_42 : decode method_3_code 42 = .ok (.bipush 127, 2) := by decide +kernel
theorem dX_44 : decode method_3_code 44 = .ok (.if_icmp .lt 12, 3) := by decide +kernel
theorem dX_47 : decode method_3_code 47 = .ok (.iload_n 0, 1) := by decide +kernel
theorem dX_48 : decode method_3_code 48 = .ok (.sipush 132, 3) := by decide +kernel
theorem dX_51 : decode method_3_code 51 = .ok (.if_icmp .gt 5, 3) := by decide +kernel
theorem dX_54 : decode method_3_code 54 = .ok (.iconst 1, 1) := by decide +kernel
theorem dX_55 : decode method_3_code 55 = .ok (.ireturn, 1) := by decide +kernel
theorem dX_56 : decode method_3_code 56 = .ok (.iload_n 0, 1) := by decide +kernel
theorem dX_57 : decode method_3_code 57 = .ok (.sipush 134, 3) := by decide +kernel
theorem dX_60 : decode method_3_code 60 = .ok (.if_icmp .lt 12, 3) := by decide +kernel
theorem dX_63 : decode method_3_code 63 = .ok (.iload_n 0, 1) := by decide +kernel
theorem dX_64 : decode method_3_code 64 = .ok (.sipush 159, 3) := by decide +kernel
theorem dX_67 : decode method_3_code 67 = .ok (.if_icmp .gt 5, 3) := by decide +kernel
theorem dX_70 : decode method_3_code 70 = .ok (.iconst 1, 1) := by decide +kernel
theorem dX_71 : decode method_3_code 71 = .ok (.ireturn, 1) := by decide +kernel
theorem dX_72 : decode method_3_code 72 = .ok (.iconst 0, 1) := by decide +kernel
theorem dX_73 : decode method_3_code 73 = .ok (.ireturn, 1) := by decide +kernel
theorem ef_X (m : MethodId) (x0 : Int32) : entryFrame m #[(.int x0)] 1 = mkF m 0 #[.val (.int x0)] [] := by first | (simp [entryFrame, mkF, argsToLocals, Value.category]; done) | rfl
set_option maxRecDepth 65536 in
set_option maxHeartbeats 40000000 in
theorem rmX (l : Launch) (Z : State) (a0 : Array Value) (hw : ∀ d ∈ tables_1, d.before a0 Z = true) (ws : List Jvm.Cond) (p1 : Int32) (h0 : Heap) :
    MetFree l (⟨"com/example/libxform/libxform/output/XmlVersionRestrictsPinLaw", "restricted11", "(I)Z"⟩ : MethodName) (head1 (Jvm.Cond.code (⟨"com/example/libxform/libxform/output/XmlVersionRestrictsPinLaw", "restricted11", "(I)Z"⟩ : MethodName) method_3_code 1 (some .boolean) :: ws) ({ frames := 0, cells := 0, slots := 0, locals := 0 } : Room)) (fun a U => a = #[(.int p1)] ∧ Z.Warmed39 U.vm ∧ U.heap = h0) (fun _ _ _ _ _ => True) (fun _ U o U' => ∃ v L, o = .returned v ∧ QP (some (.int (fX p1))) h0 v U'.heap L ∧ FrameEnd U o U' L ({ frames := 0, cells := 0, slots := 0, locals := 0 } : Room).cells ({ frames := 0, cells := 0, slots := 0, locals := 0 } : Room).slots) := by
  refine MetFree.of_bodySF (plainFor_of_name (by first | (simp [plainName, overriddenIn]; done) | decide +kernel)) hisR ?_
  intro p e s m args below meth c s₁ Bd hml0 hP hK
  obtain ⟨rfl, hZ, hh⟩ := hP
  have hx := Bd.exec
  have hby := Bd.bytes
  have hml : c.maxLocals = 1 := hml0
  have hown : s.vm.findClass "com/example/libxform/libxform/output/XmlVersionRestrictsPinLaw" = some m.cls := findClass_of_methodNamed Bd.named
  have hnm := (name_of_methodNamed Bd.named Bd.method).1
  have hlk : meth.locks = false := BodyLoose.notSynchronized Bd
  have X0 : Stand p l e ({ frames := 0, cells := 0, slots := 0, locals := 0 } : Room) s m #[(.int p1)] below meth c s₁ [] 0 0 := Stand.of_body Bd
  have e0 : s₁.heap = h0 := by rw [← hh, Bd.state]; rfl
  have P0 : ∀ t, Steps p.tables e below (s₁.setTop (mkF m 0 #[.val (.int p1)] [])) t → Steps p.tables e below (s₁.setTop (entryFrame m #[(.int p1)] 1)) t := fun t kt => castTop (ef_X m p1) kt
  have P101 : ∀ t, Steps p.tables e below (s₁.setTop (mkF m 2 #[.val (.int p1)] [(.int (1 : Int32)), (.int p1)])) t → Steps p.tables e below (s₁.setTop (entryFrame m #[(.int p1)] 1)) t := fun t kt => P0 t (by
    show Steps p.tables e below (s₁.setTop (mkF m 0 #[.val (.int p1)] [])) _
    refine XS.iloadN X0.here hx rfl (hb hby dX_0) rfl ?_
    show Steps p.tables e below (s₁.setTop (mkF m 1 #[.val (.int p1)] [(.int p1)])) _
    refine XS.iconst X0.here hx rfl (hb hby dX_1) ?_
    exact kt)
  by_cases hc2_102 : p1 < (1 : Int32)
  · have P103 : ∀ t, Steps p.tables e below (s₁.setTop (mkF m 16 #[.val (.int p1)] [(.int (11 : Int32)), (.int p1)])) t → Steps p.tables e below (s₁.setTop (entryFrame m #[(.int p1)] 1)) t := fun t kt => P101 t (by
      show Steps p.tables e below (s₁.setTop (mkF m 2 #[.val (.int p1)] [(.int (1 : Int32)), (.int p1)])) _
      refine XS.icmpYes X0.here hx rfl (pc0 := 2) (pc' := 13) rfl (hb hby dX_2) rfl (tlt hc2_102).1 (by decide) (by decide) ?_
      show Steps p.tables e below (s₁.setTop (mkF m 13 #[.val (.int p1)] [])) _
      refine XS.iloadN X0.here hx rfl (hb hby dX_13) rfl ?_
      show Steps p.tables e below (s₁.setTop (mkF m 14 #[.val (.int p1)] [(.int p1)])) _
      refine XS.bipush X0.here hx rfl (hb hby dX_14) ?_
      exact kt)
    by_cases hc16_104 : p1 = (11 : Int32)
    · have P105 : ∀ t, Steps p.tables e below (s₁.setTop (mkF m 26 #[.val (.int p1)] [(.int (1 : Int32))])) t → Steps p.tables e below (s₁.setTop (entryFrame m #[(.int p1)] 1)) t := fun t kt => P103 t (by
        show Steps p.tables e below (s₁.setTop (mkF m 16 #[.val (.int p1)] [(.int (11 : Int32)), (.int p1)])) _
        refine XS.icmpYes X0.here hx rfl (pc0 := 16) (pc' := 25) rfl (hb hby dX_16) rfl (teq hc16_104).1 (by decide) (by decide) ?_
        show Steps p.tables e below (s₁.setTop (mkF m 25 #[.val (.int p1)] [])) _
        refine XS.iconst X0.here hx rfl (hb hby dX_25) ?_
        exact kt)
      obtain ⟨fs, hr, hrun, hended, hW, hsame⟩ := X0.leave (v := some (.int (1 : Int32))) (fun h => by rw [Bd.returns] at h; cases h) (hlocks := hlk)
      refine ⟨_, _, P105 _ ?_, hrun, hended, _, _, rfl, ?_, ⟨_, rfl⟩, hW, hsame.mono (by decide) (by decide)⟩
      · show Steps p.tables e below (s₁.setTop (mkF m 26 #[.val (.int p1)] [(.int (1 : Int32))])) _
        exact retN X0 hx (t := .boolean) Bd.returns (by simp) (hb hby dX_26) hr
      · show QP _ h0 _ s₁.heap _
        have ev : fX p1 = (1 : Int32) := by unfold fX; rw [if_pos hc2_102, if_pos hc16_104]
        rw [ev]
        exact ⟨rfl, rfl, e0⟩
    · have P106 : ∀ t, Steps p.tables e below (s₁.setTop (mkF m 22 #[.val (.int p1)] [(.int (12 : Int32)), (.int p1)])) t → Steps p.tables e below (s₁.setTop (entryFrame m #[(.int p1)] 1)) t := fun t kt => P103 t (by
        show Steps p.tables e below (s₁.setTop (mkF m 16 #[.val (.int p1)] [(.int (11 : Int32)), (.int p1)])) _
        refine XS.icmpNo X0.here hx rfl (hb hby dX_16) rfl (feq hc16_104).1 ?_
        show Steps p.tables e below (s₁.setTop (mkF m 19 #[.val (.int p1)] [])) _
        refine XS.iloadN X0.here hx rfl (hb hby dX_19) rfl ?_
        show Steps p.tables e below (s₁.setTop (mkF m 20 #[.val (.int p1)] [(.int p1)])) _
        refine XS.bipush X0.here hx rfl (hb hby dX_20) ?_
        exact kt)
      by_cases hc22_107 : p1 = (12 : Int32)
      · have P108 : ∀ t, Steps p.tables e below (s₁.setTop (mkF m 26 #[.val (.int p1)] [(.int (1 : Int32))])) t → Steps p.tables e below (s₁.setTop (entryFrame m #[(.int p1)] 1)) t := fun t kt => P106 t (by
          show Steps p.tables e below (s₁.setTop (mkF m 22 #[.val (.int p1)] [(.int (12 : Int32)), (.int p1)])) _
          refine XS.icmpNo X0.here hx rfl (hb hby dX_22) rfl (teq hc22_107).2 ?_
          show Steps p.tables e below (s₁.setTop (mkF m 25 #[.val (.int p1)] [])) _
          refine XS.iconst X0.here hx rfl (hb hby dX_25) ?_
          exact kt)
        obtain ⟨fs, hr, hrun, hended, hW, hsame⟩ := X0.leave (v := some (.int (1 : Int32))) (fun h => by rw [Bd.returns] at h; cases h) (hlocks := hlk)
        refine ⟨_, _, P108 _ ?_, hrun, hended, _, _, rfl, ?_, ⟨_, rfl⟩, hW, hsame.mono (by decide) (by decide)⟩
        · show Steps p.tables e below (s₁.setTop (mkF m 26 #[.val (.int p1)] [(.int (1 : Int32))])) _
          exact retN X0 hx (t := .boolean) Bd.returns (by simp) (hb hby dX_26) hr
        · show QP _ h0 _ s₁.heap _
          have ev : fX p1 = (1 : Int32) := by unfold fX; rw [if_pos hc2_102, if_neg hc16_104, if_pos hc22_107]
          rw [ev]
          exact ⟨rfl, rfl, e0⟩
      · have P109 : ∀ t, Steps p.tables e below (s₁.setTop (mkF m 30 #[.val (.int p1)] [(.int (14 : Int32)), (.int p1)])) t → Steps p.tables e below (s₁.setTop (entryFrame m #[(.int p1)] 1)) t := fun t kt => P106 t (by
          show Steps p.tables e below (s₁.setTop (mkF m 22 #[.val (.int p1)] [(.int (12 : Int32)), (.int p1)])) _
          refine XS.icmpYes X0.here hx rfl (pc0 := 22) (pc' := 27) rfl (hb hby dX_22) rfl (feq hc22_107).2 (by decide) (by decide) ?_
          show Steps p.tables e below (s₁.setTop (mkF m 27 #[.val (.int p1)] [])) _
          refine XS.iloadN X0.here hx rfl (hb hby dX_27) rfl ?_
          show Steps p.tables e below (s₁.setTop (mkF m 28 #[.val (.int p1)] [(.int p1)])) _
          refine XS.bipush X0.here hx rfl (hb hby dX_28) ?_
          exact kt)
        by_cases hc30_110 : p1 < (14 : Int32)
        · have P111 : ∀ t, Steps p.tables e below (s₁.setTop (mkF m 44 #[.val (.int p1)] [(.int (127 : Int32)), (.int p1)])) t → Steps p.tables e below (s₁.setTop (entryFrame m #[(.int p1)] 1)) t := fun t kt => P109 t (by
            show Steps p.tables e below (s₁.setTop (mkF m 30 #[.val (.int p1)] [(.int (14 : Int32)), (.int p1)])) _
            refine XS.icmpYes X0.here hx rfl (pc0 := 30) (pc' := 41) rfl (hb hby dX_30) rfl (tlt hc30_110).1 (by decide) (by decide) ?_
            show Steps p.tables e below (s₁.setTop (mkF m 41 #[.val (.int p1)] [])) _
            refine XS.iloadN X0.here hx rfl (hb hby dX_41) rfl ?_
            show Steps p.tables e below (s₁.setTop (mkF m 42 #[.val (.int p1)] [(.int p1)])) _
            refine XS.bipush X0.here hx rfl (hb hby dX_42) ?_
            exact kt)
          by_cases hc44_112 : p1 < (127 : Int32)
          · have P113 : ∀ t, Steps p.tables e below (s₁.setTop (mkF m 60 #[.val (.int p1)] [(.int (134 : Int32)), (.int p1)])) t → Steps p.tables e below (s₁.setTop (entryFrame m #[(.int p1)] 1)) t := fun t kt => P111 t (by
              show Steps p.tables e below (s₁.setTop (mkF m 44 #[.val (.int p1)] [(.int (127 : Int32)), (.int p1)])) _
              refine XS.icmpYes X0.here hx rfl (pc0 := 44) (pc' := 56) rfl (hb hby dX_44) rfl (tlt hc44_112).1 (by decide) (by decide) ?_
              show Steps p.tables e below (s₁.setTop (mkF m 56 #[.val (.int p1)] [])) _
              refine XS.iloadN X0.here hx rfl (hb hby dX_56) rfl ?_
              show Steps p.tables e below (s₁.setTop (mkF m 57 #[.val (.int p1)] [(.int p1)])) _
              refine XS.sipush X0.here hx rfl (hb hby dX_57) ?_
              exact kt)
            by_cases hc60_114 : p1 < (134 : Int32)
            · have P115 : ∀ t, Steps p.tables e below (s₁.setTop (mkF m 73 #[.val (.int p1)] [(.int (0 : Int32))])) t → Steps p.tables e below (s₁.setTop (entryFrame m #[(.int p1)] 1)) t := fun t kt => P113 t (by
                show Steps p.tables e below (s₁.setTop (mkF m 60 #[.val (.int p1)] [(.int (134 : Int32)), (.int p1)])) _
                refine XS.icmpYes X0.here hx rfl (pc0 := 60) (pc' := 72) rfl (hb hby dX_60) rfl (tlt hc60_114).1 (by decide) (by decide) ?_
                show Steps p.tables e below (s₁.setTop (mkF m 72 #[.val (.int p1)] [])) _
                refine XS.iconst X0.here hx rfl (hb hby dX_72) ?_
                exact kt)
              obtain ⟨fs, hr, hrun, hended, hW, hsame⟩ := X0.leave (v := some (.int (0 : Int32))) (fun h => by rw [Bd.returns] at h; cases h) (hlocks := hlk)
              refine ⟨_, _, P115 _ ?_, hrun, hended, _, _, rfl, ?_, ⟨_, rfl⟩, hW, hsame.mono (by decide) (by decide)⟩
              · show Steps p.tables e below (s₁.setTop (mkF m 73 #[.val (.int p1)] [(.int (0 : Int32))])) _
                exact retN X0 hx (t := .boolean) Bd.returns (by simp) (hb hby dX_73) hr
              · show QP _ h0 _ s₁.heap _
                have ev : fX p1 = (0 : Int32) := by unfold fX; rw [if_pos hc2_102, if_neg hc16_104, if_neg hc22_107, if_pos hc30_110, if_pos hc44_112, if_pos hc60_114]
                rw [ev]
                exact ⟨rfl, rfl, e0⟩
            · have P116 : ∀ t, Steps p.tables e below (s₁.setTop (mkF m 67 #[.val (.int p1)] [(.int (159 : Int32)), (.int p1)])) t → Steps p.tables e below (s₁.setTop (entryFrame m #[(.int p1)] 1)) t := fun t kt => P113 t (by
                show Steps p.tables e below (s₁.setTop (mkF m 60 #[.val (.int p1)] [(.int (134 : Int32)), (.int p1)])) _
                refine XS.icmpNo X0.here hx rfl (hb hby dX_60) rfl (flt hc60_114).1 ?_
                show Steps p.tables e below (s₁.setTop (mkF m 63 #[.val (.int p1)] [])) _
                refine XS.iloadN X0.here hx rfl (hb hby dX_63) rfl ?_
                show Steps p.tables e below (s₁.setTop (mkF m 64 #[.val (.int p1)] [(.int p1)])) _
                refine XS.sipush X0.here hx rfl (hb hby dX_64) ?_
                exact kt)
              by_cases hc67_117 : (159 : Int32) < p1
              · have P118 : ∀ t, Steps p.tables e below (s₁.setTop (mkF m 73 #[.val (.int p1)] [(.int (0 : Int32))])) t → Steps p.tables e below (s₁.setTop (entryFrame m #[(.int p1)] 1)) t := fun t kt => P116 t (by
                  show Steps p.tables e below (s₁.setTop (mkF m 67 #[.val (.int p1)] [(.int (159 : Int32)), (.int p1)])) _
                  refine XS.icmpYes X0.here hx rfl (pc0 := 67) (pc' := 72) rfl (hb hby dX_67) rfl (tlt hc67_117).2.2.1 (by decide) (by decide) ?_
                  show Steps p.tables e below (s₁.setTop (mkF m 72 #[.val (.int p1)] [])) _
                  refine XS.iconst X0.here hx rfl (hb hby dX_72) ?_
                  exact kt)
                obtain ⟨fs, hr, hrun, hended, hW, hsame⟩ := X0.leave (v := some (.int (0 : Int32))) (fun h => by rw [Bd.returns] at h; cases h) (hlocks := hlk)
                refine ⟨_, _, P118 _ ?_, hrun, hended, _, _, rfl, ?_, ⟨_, rfl⟩, hW, hsame.mono (by decide) (by decide)⟩
                · show Steps p.tables e below (s₁.setTop (mkF m 73 #[.val (.int p1)] [(.int (0 : Int32))])) _
                  exact retN X0 hx (t := .boolean) Bd.returns (by simp) (hb hby dX_73) hr
                · show QP _ h0 _ s₁.heap _
                  have ev : fX p1 = (0 : Int32) := by unfold fX; rw [if_pos hc2_102, if_neg hc16_104, if_neg hc22_107, if_pos hc30_110, if_pos hc44_112, if_neg hc60_114, if_pos hc67_117]
                  rw [ev]
                  exact ⟨rfl, rfl, e0⟩
              · have P119 : ∀ t, Steps p.tables e below (s₁.setTop (mkF m 71 #[.val (.int p1)] [(.int (1 : Int32))])) t → Steps p.tables e below (s₁.setTop (entryFrame m #[(.int p1)] 1)) t := fun t kt => P116 t (by
                  show Steps p.tables e below (s₁.setTop (mkF m 67 #[.val (.int p1)] [(.int (159 : Int32)), (.int p1)])) _
                  refine XS.icmpNo X0.here hx rfl (hb hby dX_67) rfl (flt hc67_117).2.2.1 ?_
                  show Steps p.tables e below (s₁.setTop (mkF m 70 #[.val (.int p1)] [])) _
                  refine XS.iconst X0.here hx rfl (hb hby dX_70) ?_
                  exact kt)
                obtain ⟨fs, hr, hrun, hended, hW, hsame⟩ := X0.leave (v := some (.int (1 : Int32))) (fun h => by rw [Bd.returns] at h; cases h) (hlocks := hlk)
                refine ⟨_, _, P119 _ ?_, hrun, hended, _, _, rfl, ?_, ⟨_, rfl⟩, hW, hsame.mono (by decide) (by decide)⟩
                · show Steps p.tables e below (s₁.setTop (mkF m 71 #[.val (.int p1)] [(.int (1 : Int32))])) _
                  exact retN X0 hx (t := .boolean) Bd.returns (by simp) (hb hby dX_71) hr
                · show QP _ h0 _ s₁.heap _
                  have ev : fX p1 = (1 : Int32) := by unfold fX; rw [if_pos hc2_102, if_neg hc16_104, if_neg hc22_107, if_pos hc30_110, if_pos hc44_112, if_neg hc60_114, if_neg hc67_117]
                  rw [ev]
                  exact ⟨rfl, rfl, e0⟩
          · have P120 : ∀ t, Steps p.tables e below (s₁.setTop (mkF m 51 #[.val (.int p1)] [(.int (132 : Int32)), (.int p1)])) t → Steps p.tables e below (s₁.setTop (entryFrame m #[(.int p1)] 1)) t := fun t kt => P111 t (by
              show Steps p.tables e below (s₁.setTop (mkF m 44 #[.val (.int p1)] [(.int (127 : Int32)), (.int p1)])) _
              refine XS.icmpNo X0.here hx rfl (hb hby dX_44) rfl (flt hc44_112).1 ?_
              show Steps p.tables e below (s₁.setTop (mkF m 47 #[.val (.int p1)] [])) _
              refine XS.iloadN X0.here hx rfl (hb hby dX_47) rfl ?_
              show Steps p.tables e below (s₁.setTop (mkF m 48 #[.val (.int p1)] [(.int p1)])) _
              refine XS.sipush X0.here hx rfl (hb hby dX_48) ?_
              exact kt)
            by_cases hc51_121 : (132 : Int32) < p1
            · have P122 : ∀ t, Steps p.tables e below (s₁.setTop (mkF m 60 #[.val (.int p1)] [(.int (134 : Int32)), (.int p1)])) t → Steps p.tables e below (s₁.setTop (entryFrame m #[(.int p1)] 1)) t := fun t kt => P120 t (by
                show Steps p.tables e below (s₁.setTop (mkF m 51 #[.val (.int p1)] [(.int (132 : Int32)), (.int p1)])) _
                refine XS.icmpYes X0.here hx rfl (pc0 := 51) (pc' := 56) rfl (hb hby dX_51) rfl (tlt hc51_121).2.2.1 (by decide) (by decide) ?_
                show Steps p.tables e below (s₁.setTop (mkF m 56 #[.val (.int p1)] [])) _
                refine XS.iloadN X0.here hx rfl (hb hby dX_56) rfl ?_
                show Steps p.tables e below (s₁.setTop (mkF m 57 #[.val (.int p1)] [(.int p1)])) _
                refine XS.sipush X0.here hx rfl (hb hby dX_57) ?_
                exact kt)
              by_cases hc60_123 : p1 < (134 : Int32)
              · have P124 : ∀ t, Steps p.tables e below (s₁.setTop (mkF m 73 #[.val (.int p1)] [(.int (0 : Int32))])) t → Steps p.tables e below (s₁.setTop (entryFrame m #[(.int p1)] 1)) t := fun t kt => P122 t (by
                  show Steps p.tables e below (s₁.setTop (mkF m 60 #[.val (.int p1)] [(.int (134 : Int32)), (.int p1)])) _
                  refine XS.icmpYes X0.here hx rfl (pc0 := 60) (pc' := 72) rfl (hb hby dX_60) rfl (tlt hc60_123).1 (by decide) (by decide) ?_
                  show Steps p.tables e below (s₁.setTop (mkF m 72 #[.val (.int p1)] [])) _
                  refine XS.iconst X0.here hx rfl (hb hby dX_72) ?_
                  exact kt)
                obtain ⟨fs, hr, hrun, hended, hW, hsame⟩ := X0.leave (v := some (.int (0 : Int32))) (fun h => by rw [Bd.returns] at h; cases h) (hlocks := hlk)
                refine ⟨_, _, P124 _ ?_, hrun, hended, _, _, rfl, ?_, ⟨_, rfl⟩, hW, hsame.mono (by decide) (by decide)⟩
                · show Steps p.tables e below (s₁.setTop (mkF m 73 #[.val (.int p1)] [(.int (0 : Int32))])) _
                  exact retN X0 hx (t := .boolean) Bd.returns (by simp) (hb hby dX_73) hr
                · show QP _ h0 _ s₁.heap _
                  have ev : fX p1 = (0 : Int32) := by unfold fX; rw [if_pos hc2_102, if_neg hc16_104, if_neg hc22_107, if_pos hc30_110, if_neg hc44_112, if_pos hc51_121, if_pos hc60_123]
                  rw [ev]
                  exact ⟨rfl, rfl, e0⟩
              · have P125 : ∀ t, Steps p.tables e below (s₁.setTop (mkF m 67 #[.val (.int p1)] [(.int (159 : Int32)), (.int p1)])) t → Steps p.tables e below (s₁.setTop (entryFrame m #[(.int p1)] 1)) t := fun t kt => P122 t (by
                  show Steps p.tables e below (s₁.setTop (mkF m 60 #[.val (.int p1)] [(.int (134 : Int32)), (.int p1)])) _
                  refine XS.icmpNo X0.here hx rfl (hb hby dX_60) rfl (flt hc60_123).1 ?_
                  show Steps p.tables e below (s₁.setTop (mkF m 63 #[.val (.int p1)] [])) _
                  refine XS.iloadN X0.here hx rfl (hb hby dX_63) rfl ?_
                  show Steps p.tables e below (s₁.setTop (mkF m 64 #[.val (.int p1)] [(.int p1)])) _
                  refine XS.sipush X0.here hx rfl (hb hby dX_64) ?_
                  exact kt)
                by_cases hc67_126 : (159 : Int32) < p1
                · have P127 : ∀ t, Steps p.tables e below (s₁.setTop (mkF m 73 #[.val (.int p1)] [(.int (0 : Int32))])) t → Steps p.tables e below (s₁.setTop (entryFrame m #[(.int p1)] 1)) t := fun t kt => P125 t (by
                    show Steps p.tables e below (s₁.setTop (mkF m 67 #[.val (.int p1)] [(.int (159 : Int32)), (.int p1)])) _
                    refine XS.icmpYes X0.here hx rfl (pc0 := 67) (pc' := 72) rfl (hb hby dX_67) rfl (tlt hc67_126).2.2.1 (by decide) (by decide) ?_
                    show Steps p.tables e below (s₁.setTop (mkF m 72 #[.val (.int p1)] [])) _
                    refine XS.iconst X0.here hx rfl (hb hby dX_72) ?_
                    exact kt)
                  obtain ⟨fs, hr, hrun, hended, hW, hsame⟩ := X0.leave (v := some (.int (0 : Int32))) (fun h => by rw [Bd.returns] at h; cases h) (hlocks := hlk)
                  refine ⟨_, _, P127 _ ?_, hrun, hended, _, _, rfl, ?_, ⟨_, rfl⟩, hW, hsame.mono (by decide) (by decide)⟩
                  · show Steps p.tables e below (s₁.setTop (mkF m 73 #[.val (.int p1)] [(.int (0 : Int32))])) _
                    exact retN X0 hx (t := .boolean) Bd.returns (by simp) (hb hby dX_73) hr
                  · show QP _ h0 _ s₁.heap _
                    have ev : fX p1 = (0 : Int32) := by unfold fX; rw [if_pos hc2_102, if_neg hc16_104, if_neg hc22_107, if_pos hc30_110, if_neg hc44_112, if_pos hc51_121, if_neg hc60_123, if_pos hc67_126]
                    rw [ev]
                    exact ⟨rfl, rfl, e0⟩
                · have P128 : ∀ t, Steps p.tables e below (s₁.setTop (mkF m 71 #[.val (.int p1)] [(.int (1 : Int32))])) t → Steps p.tables e below (s₁.setTop (entryFrame m #[(.int p1)] 1)) t := fun t kt => P125 t (by
                    show Steps p.tables e below (s₁.setTop (mkF m 67 #[.val (.int p1)] [(.int (159 : Int32)), (.int p1)])) _
                    refine XS.icmpNo X0.here hx rfl (hb hby dX_67) rfl (flt hc67_126).2.2.1 ?_
                    show Steps p.tables e below (s₁.setTop (mkF m 70 #[.val (.int p1)] [])) _
                    refine XS.iconst X0.here hx rfl (hb hby dX_70) ?_
                    exact kt)
                  obtain ⟨fs, hr, hrun, hended, hW, hsame⟩ := X0.leave (v := some (.int (1 : Int32))) (fun h => by rw [Bd.returns] at h; cases h) (hlocks := hlk)
                  refine ⟨_, _, P128 _ ?_, hrun, hended, _, _, rfl, ?_, ⟨_, rfl⟩, hW, hsame.mono (by decide) (by decide)⟩
                  · show Steps p.tables e below (s₁.setTop (mkF m 71 #[.val (.int p1)] [(.int (1 : Int32))])) _
                    exact retN X0 hx (t := .boolean) Bd.returns (by simp) (hb hby dX_71) hr
                  · show QP _ h0 _ s₁.heap _
                    have ev : fX p1 = (1 : Int32) := by unfold fX; rw [if_pos hc2_102, if_neg hc16_104, if_neg hc22_107, if_pos hc30_110, if_neg hc44_112, if_pos hc51_121, if_neg hc60_123, if_neg hc67_126]
                    rw [ev]
                    exact ⟨rfl, rfl, e0⟩
            · have P129 : ∀ t, Steps p.tables e below (s₁.setTop (mkF m 55 #[.val (.int p1)] [(.int (1 : Int32))])) t → Steps p.tables e below (s₁.setTop (entryFrame m #[(.int p1)] 1)) t := fun t kt => P120 t (by
                show Steps p.tables e below (s₁.setTop (mkF m 51 #[.val (.int p1)] [(.int (132 : Int32)), (.int p1)])) _
                refine XS.icmpNo X0.here hx rfl (hb hby dX_51) rfl (flt hc51_121).2.2.1 ?_
                show Steps p.tables e below (s₁.setTop (mkF m 54 #[.val (.int p1)] [])) _
                refine XS.iconst X0.here hx rfl (hb hby dX_54) ?_
                exact kt)
              obtain ⟨fs, hr, hrun, hended, hW, hsame⟩ := X0.leave (v := some (.int (1 : Int32))) (fun h => by rw [Bd.returns] at h; cases h) (hlocks := hlk)
              refine ⟨_, _, P129 _ ?_, hrun, hended, _, _, rfl, ?_, ⟨_, rfl⟩, hW, hsame.mono (by decide) (by decide)⟩
              · show Steps p.tables e below (s₁.setTop (mkF m 55 #[.val (.int p1)] [(.int (1 : Int32))])) _
                exact retN X0 hx (t := .boolean) Bd.returns (by simp) (hb hby dX_55) hr
              · show QP _ h0 _ s₁.heap _
                have ev : fX p1 = (1 : Int32) := by unfold fX; rw [if_pos hc2_102, if_neg hc16_104, if_neg hc22_107, if_pos hc30_110, if_neg hc44_112, if_neg hc51_121]
                rw [ev]
                exact ⟨rfl, rfl, e0⟩
        · have P130 : ∀ t, Steps p.tables e below (s₁.setTop (mkF m 36 #[.val (.int p1)] [(.int (31 : Int32)), (.int p1)])) t → Steps p.tables e below (s₁.setTop (entryFrame m #[(.int p1)] 1)) t := fun t kt => P109 t (by
            show Steps p.tables e below (s₁.setTop (mkF m 30 #[.val (.int p1)] [(.int (14 : Int32)), (.int p1)])) _
            refine XS.icmpNo X0.here hx rfl (hb hby dX_30) rfl (flt hc30_110).1 ?_
            show Steps p.tables e below (s₁.setTop (mkF m 33 #[.val (.int p1)] [])) _
            refine XS.iloadN X0.here hx rfl (hb hby dX_33) rfl ?_
            show Steps p.tables e below (s₁.setTop (mkF m 34 #[.val (.int p1)] [(.int p1)])) _
            refine XS.bipush X0.here hx rfl (hb hby dX_34) ?_
            exact kt)
          by_cases hc36_131 : (31 : Int32) < p1
          · have P132 : ∀ t, Steps p.tables e below (s₁.setTop (mkF m 44 #[.val (.int p1)] [(.int (127 : Int32)), (.int p1)])) t → Steps p.tables e below (s₁.setTop (entryFrame m #[(.int p1)] 1)) t := fun t kt => P130 t (by
              show Steps p.tables e below (s₁.setTop (mkF m 36 #[.val (.int p1)] [(.int (31 : Int32)), (.int p1)])) _
              refine XS.icmpYes X0.here hx rfl (pc0 := 36) (pc' := 41) rfl (hb hby dX_36) rfl (tlt hc36_131).2.2.1 (by decide) (by decide) ?_
              show Steps p.tables e below (s₁.setTop (mkF m 41 #[.val (.int p1)] [])) _
              refine XS.iloadN X0.here hx rfl (hb hby dX_41) rfl ?_
              show Steps p.tables e below (s₁.setTop (mkF m 42 #[.val (.int p1)] [(.int p1)])) _
              refine XS.bipush X0.here hx rfl (hb hby dX_42) ?_
              exact kt)
            by_cases hc44_133 : p1 < (127 : Int32)
            · have P134 : ∀ t, Steps p.tables e below (s₁.setTop (mkF m 60 #[.val (.int p1)] [(.int (134 : Int32)), (.int p1)])) t → Steps p.tables e below (s₁.setTop (entryFrame m #[(.int p1)] 1)) t := fun t kt => P132 t (by
                show Steps p.tables e below (s₁.setTop (mkF m 44 #[.val (.int p1)] [(.int (127 : Int32)), (.int p1)])) _
                refine XS.icmpYes X0.here hx rfl (pc0 := 44) (pc' := 56) rfl (hb hby dX_44) rfl (tlt hc44_133).1 (by decide) (by decide) ?_
                show Steps p.tables e below (s₁.setTop (mkF m 56 #[.val (.int p1)] [])) _
                refine XS.iloadN X0.here hx rfl (hb hby dX_56) rfl ?_
                show Steps p.tables e below (s₁.setTop (mkF m 57 #[.val (.int p1)] [(.int p1)])) _
                refine XS.sipush X0.here hx rfl (hb hby dX_57) ?_
                exact kt)
              by_cases hc60_135 : p1 < (134 : Int32)
              · have P136 : ∀ t, Steps p.tables e below (s₁.setTop (mkF m 73 #[.val (.int p1)] [(.int (0 : Int32))])) t → Steps p.tables e below (s₁.setTop (entryFrame m #[(.int p1)] 1)) t := fun t kt => P134 t (by
                  show Steps p.tables e below (s₁.setTop (mkF m 60 #[.val (.int p1)] [(.int (134 : Int32)), (.int p1)])) _
                  refine XS.icmpYes X0.here hx rfl (pc0 := 60) (pc' := 72) rfl (hb hby dX_60) rfl (tlt hc60_135).1 (by decide) (by decide) ?_
                  show Steps p.tables e below (s₁.setTop (mkF m 72 #[.val (.int p1)] [])) _
                  refine XS.iconst X0.here hx rfl (hb hby dX_72) ?_
                  exact kt)
                obtain ⟨fs, hr, hrun, hended, hW, hsame⟩ := X0.leave (v := some (.int (0 : Int32))) (fun h => by rw [Bd.returns] at h; cases h) (hlocks := hlk)
                refine ⟨_, _, P136 _ ?_, hrun, hended, _, _, rfl, ?_, ⟨_, rfl⟩, hW, hsame.mono (by decide) (by decide)⟩
                · show Steps p.tables e below (s₁.setTop (mkF m 73 #[.val (.int p1)] [(.int (0 : Int32))])) _
                  exact retN X0 hx (t := .boolean) Bd.returns (by simp) (hb hby dX_73) hr
                · show QP _ h0 _ s₁.heap _
                  have ev : fX p1 = (0 : Int32) := by unfold fX; rw [if_pos hc2_102, if_neg hc16_104, if_neg hc22_107, if_neg hc30_110, if_pos hc36_131, if_pos hc44_133, if_pos hc60_135]
                  rw [ev]
                  exact ⟨rfl, rfl, e0⟩
              · have P137 : ∀ t, Steps p.tables e below (s₁.setTop (mkF m 67 #[.val (.int p1)] [(.int (159 : Int32)), (.int p1)])) t → Steps p.tables e below (s₁.setTop (entryFrame m #[(.int p1)] 1)) t := fun t kt => P134 t (by
                  show Steps p.tables e below (s₁.setTop (mkF m 60 #[.val (.int p1)] [(.int (134 : Int32)), (.int p1)])) _
                  refine XS.icmpNo X0.here hx rfl (hb hby dX_60) rfl (flt hc60_135).1 ?_
                  show Steps p.tables e below (s₁.setTop (mkF m 63 #[.val (.int p1)] [])) _
                  refine XS.iloadN X0.here hx rfl (hb hby dX_63) rfl ?_
                  show Steps p.tables e below (s₁.setTop (mkF m 64 #[.val (.int p1)] [(.int p1)])) _
                  refine XS.sipush X0.here hx rfl (hb hby dX_64) ?_
                  exact kt)
                by_cases hc67_138 : (159 : Int32) < p1
                · have P139 : ∀ t, Steps p.tables e below (s₁.setTop (mkF m 73 #[.val (.int p1)] [(.int (0 : Int32))])) t → Steps p.tables e below (s₁.setTop (entryFrame m #[(.int p1)] 1)) t := fun t kt => P137 t (by
                    show Steps p.tables e below (s₁.setTop (mkF m 67 #[.val (.int p1)] [(.int (159 : Int32)), (.int p1)])) _
                    refine XS.icmpYes X0.here hx rfl (pc0 := 67) (pc' := 72) rfl (hb hby dX_67) rfl (tlt hc67_138).2.2.1 (by decide) (by decide) ?_
                    show Steps p.tables e below (s₁.setTop (mkF m 72 #[.val (.int p1)] [])) _
                    refine XS.iconst X0.here hx rfl (hb hby dX_72) ?_
                    exact kt)
                  obtain ⟨fs, hr, hrun, hended, hW, hsame⟩ := X0.leave (v := some (.int (0 : Int32))) (fun h => by rw [Bd.returns] at h; cases h) (hlocks := hlk)
                  refine ⟨_, _, P139 _ ?_, hrun, hended, _, _, rfl, ?_, ⟨_, rfl⟩, hW, hsame.mono (by decide) (by decide)⟩
                  · show Steps p.tables e below (s₁.setTop (mkF m 73 #[.val (.int p1)] [(.int (0 : Int32))])) _
                    exact retN X0 hx (t := .boolean) Bd.returns (by simp) (hb hby dX_73) hr
                  · show QP _ h0 _ s₁.heap _
                    have ev : fX p1 = (0 : Int32) := by unfold fX; rw [if_pos hc2_102, if_neg hc16_104, if_neg hc22_107, if_neg hc30_110, if_pos hc36_131, if_pos hc44_133, if_neg hc60_135, if_pos hc67_138]
                    rw [ev]
                    exact ⟨rfl, rfl, e0⟩
                · have P140 : ∀ t, Steps p.tables e below (s₁.setTop (mkF m 71 #[.val (.int p1)] [(.int (1 : Int32))])) t → Steps p.tables e below (s₁.setTop (entryFrame m #[(.int p1)] 1)) t := fun t kt => P137 t (by
                    show Steps p.tables e below (s₁.setTop (mkF m 67 #[.val (.int p1)] [(.int (159 : Int32)), (.int p1)])) _
                    refine XS.icmpNo X0.here hx rfl (hb hby dX_67) rfl (flt hc67_138).2.2.1 ?_
                    show Steps p.tables e below (s₁.setTop (mkF m 70 #[.val (.int p1)] [])) _
                    refine XS.iconst X0.here hx rfl (hb hby dX_70) ?_
                    exact kt)
                  obtain ⟨fs, hr, hrun, hended, hW, hsame⟩ := X0.leave (v := some (.int (1 : Int32))) (fun h => by rw [Bd.returns] at h; cases h) (hlocks := hlk)
                  refine ⟨_, _, P140 _ ?_, hrun, hended, _, _, rfl, ?_, ⟨_, rfl⟩, hW, hsame.mono (by decide) (by decide)⟩
                  · show Steps p.tables e below (s₁.setTop (mkF m 71 #[.val (.int p1)] [(.int (1 : Int32))])) _
                    exact retN X0 hx (t := .boolean) Bd.returns (by simp) (hb hby dX_71) hr
                  · show QP _ h0 _ s₁.heap _
                    have ev : fX p1 = (1 : Int32) := by unfold fX; rw [if_pos hc2_102, if_neg hc16_104, if_neg hc22_107, if_neg hc30_110, if_pos hc36_131, if_pos hc44_133, if_neg hc60_135, if_neg hc67_138]
                    rw [ev]
                    exact ⟨rfl, rfl, e0⟩
            · have P141 : ∀ t, Steps p.tables e below (s₁.setTop (mkF m 51 #[.val (.int p1)] [(.int (132 : Int32)), (.int p1)])) t → Steps p.tables e below (s₁.setTop (entryFrame m #[(.int p1)] 1)) t := fun t kt => P132 t (by
                show Steps p.tables e below (s₁.setTop (mkF m 44 #[.val (.int p1)] [(.int (127 : Int32)), (.int p1)])) _
                refine XS.icmpNo X0.here hx rfl (hb hby dX_44) rfl (flt hc44_133).1 ?_
                show Steps p.tables e below (s₁.setTop (mkF m 47 #[.val (.int p1)] [])) _
                refine XS.iloadN X0.here hx rfl (hb hby dX_47) rfl ?_
                show Steps p.tables e below (s₁.setTop (mkF m 48 #[.val (.int p1)] [(.int p1)])) _
                refine XS.sipush X0.here hx rfl (hb hby dX_48) ?_
                exact kt)
              by_cases hc51_142 : (132 : Int32) < p1
              · have P143 : ∀ t, Steps p.tables e below (s₁.setTop (mkF m 60 #[.val (.int p1)] [(.int (134 : Int32)), (.int p1)])) t → Steps p.tables e below (s₁.setTop (entryFrame m #[(.int p1)] 1)) t := fun t kt => P141 t (by
                  show Steps p.tables e below (s₁.setTop (mkF m 51 #[.val (.int p1)] [(.int (132 : Int32)), (.int p1)])) _
                  refine XS.icmpYes X0.here hx rfl (pc0 := 51) (pc' := 56) rfl (hb hby dX_51) rfl (tlt hc51_142).2.2.1 (by decide) (by decide) ?_
                  show Steps p.tables e below (s₁.setTop (mkF m 56 #[.val (.int p1)] [])) _
                  refine XS.iloadN X0.here hx rfl (hb hby dX_56) rfl ?_
                  show Steps p.tables e below (s₁.setTop (mkF m 57 #[.val (.int p1)] [(.int p1)])) _
                  refine XS.sipush X0.here hx rfl (hb hby dX_57) ?_
                  exact kt)
                by_cases hc60_144 : p1 < (134 : Int32)
                · have P145 : ∀ t, Steps p.tables e below (s₁.setTop (mkF m 73 #[.val (.int p1)] [(.int (0 : Int32))])) t → Steps p.tables e below (s₁.setTop (entryFrame m #[(.int p1)] 1)) t := fun t kt => P143 t (by
                    show Steps p.tables e below (s₁.setTop (mkF m 60 #[.val (.int p1)] [(.int (134 : Int32)), (.int p1)])) _
                    refine XS.icmpYes X0.here hx rfl (pc0 := 60) (pc' := 72) rfl (hb hby dX_60) rfl (tlt hc60_144).1 (by decide) (by decide) ?_
                    show Steps p.tables e below (s₁.setTop (mkF m 72 #[.val (.int p1)] [])) _
                    refine XS.iconst X0.here hx rfl (hb hby dX_72) ?_
                    exact kt)
                  obtain ⟨fs, hr, hrun, hended, hW, hsame⟩ := X0.leave (v := some (.int (0 : Int32))) (fun h => by rw [Bd.returns] at h; cases h) (hlocks := hlk)
                  refine ⟨_, _, P145 _ ?_, hrun, hended, _, _, rfl, ?_, ⟨_, rfl⟩, hW, hsame.mono (by decide) (by decide)⟩
                  · show Steps p.tables e below (s₁.setTop (mkF m 73 #[.val (.int p1)] [(.int (0 : Int32))])) _
                    exact retN X0 hx (t := .boolean) Bd.returns (by simp) (hb hby dX_73) hr
                  · show QP _ h0 _ s₁.heap _
                    have ev : fX p1 = (0 : Int32) := by unfold fX; rw [if_pos hc2_102, if_neg hc16_104, if_neg hc22_107, if_neg hc30_110, if_pos hc36_131, if_neg hc44_133, if_pos hc51_142, if_pos hc60_144]
                    rw [ev]
                    exact ⟨rfl, rfl, e0⟩
                · have P146 : ∀ t, Steps p.tables e below (s₁.setTop (mkF m 67 #[.val (.int p1)] [(.int (159 : Int32)), (.int p1)])) t → Steps p.tables e below (s₁.setTop (entryFrame m #[(.int p1)] 1)) t := fun t kt => P143 t (by
                    show Steps p.tables e below (s₁.setTop (mkF m 60 #[.val (.int p1)] [(.int (134 : Int32)), (.int p1)])) _
                    refine XS.icmpNo X0.here hx rfl (hb hby dX_60) rfl (flt hc60_144).1 ?_
                    show Steps p.tables e below (s₁.setTop (mkF m 63 #[.val (.int p1)] [])) _
                    refine XS.iloadN X0.here hx rfl (hb hby dX_63) rfl ?_
                    show Steps p.tables e below (s₁.setTop (mkF m 64 #[.val (.int p1)] [(.int p1)])) _
                    refine XS.sipush X0.here hx rfl (hb hby dX_64) ?_
                    exact kt)
                  by_cases hc67_147 : (159 : Int32) < p1
                  · have P148 : ∀ t, Steps p.tables e below (s₁.setTop (mkF m 73 #[.val (.int p1)] [(.int (0 : Int32))])) t → Steps p.tables e below (s₁.setTop (entryFrame m #[(.int p1)] 1)) t := fun t kt => P146 t (by
                      show Steps p.tables e below (s₁.setTop (mkF m 67 #[.val (.int p1)] [(.int (159 : Int32)), (.int p1)])) _
                      refine XS.icmpYes X0.here hx rfl (pc0 := 67) (pc' := 72) rfl (hb hby dX_67) rfl (tlt hc67_147).2.2.1 (by decide) (by decide) ?_
                      show Steps p.tables e below (s₁.setTop (mkF m 72 #[.val (.int p1)] [])) _
                      refine XS.iconst X0.here hx rfl (hb hby dX_72) ?_
                      exact kt)
                    obtain ⟨fs, hr, hrun, hended, hW, hsame⟩ := X0.leave (v := some (.int (0 : Int32))) (fun h => by rw [Bd.returns] at h; cases h) (hlocks := hlk)
                    refine ⟨_, _, P148 _ ?_, hrun, hended, _, _, rfl, ?_, ⟨_, rfl⟩, hW, hsame.mono (by decide) (by decide)⟩
                    · show Steps p.tables e below (s₁.setTop (mkF m 73 #[.val (.int p1)] [(.int (0 : Int32))])) _
                      exact retN X0 hx (t := .boolean) Bd.returns (by simp) (hb hby dX_73) hr
                    · show QP _ h0 _ s₁.heap _
                      have ev : fX p1 = (0 : Int32) := by unfold fX; rw [if_pos hc2_102, if_neg hc16_104, if_neg hc22_107, if_neg hc30_110, if_pos hc36_131, if_neg hc44_133, if_pos hc51_142, if_neg hc60_144, if_pos hc67_147]
                      rw [ev]
                      exact ⟨rfl, rfl, e0⟩
                  · have P149 : ∀ t, Steps p.tables e below (s₁.setTop (mkF m 71 #[.val (.int p1)] [(.int (1 : Int32))])) t → Steps p.tables e below (s₁.setTop (entryFrame m #[(.int p1)] 1)) t := fun t kt => P146 t (by
                      show Steps p.tables e below (s₁.setTop (mkF m 67 #[.val (.int p1)] [(.int (159 : Int32)), (.int p1)])) _
                      refine XS.icmpNo X0.here hx rfl (hb hby dX_67) rfl (flt hc67_147).2.2.1 ?_
                      show Steps p.tables e below (s₁.setTop (mkF m 70 #[.val (.int p1)] [])) _
                      refine XS.iconst X0.here hx rfl (hb hby dX_70) ?_
                      exact kt)
                    obtain ⟨fs, hr, hrun, hended, hW, hsame⟩ := X0.leave (v := some (.int (1 : Int32))) (fun h => by rw [Bd.returns] at h; cases h) (hlocks := hlk)
                    refine ⟨_, _, P149 _ ?_, hrun, hended, _, _, rfl, ?_, ⟨_, rfl⟩, hW, hsame.mono (by decide) (by decide)⟩
                    · show Steps p.tables e below (s₁.setTop (mkF m 71 #[.val (.int p1)] [(.int (1 : Int32))])) _
                      exact retN X0 hx (t := .boolean) Bd.returns (by simp) (hb hby dX_71) hr
                    · show QP _ h0 _ s₁.heap _
                      have ev : fX p1 = (1 : Int32) := by unfold fX; rw [if_pos hc2_102, if_neg hc16_104, if_neg hc22_107, if_neg hc30_110, if_pos hc36_131, if_neg hc44_133, if_pos hc51_142, if_neg hc60_144, if_neg hc67_147]
                      rw [ev]
                      exact ⟨rfl, rfl, e0⟩
              · have P150 : ∀ t, Steps p.tables e below (s₁.setTop (mkF m 55 #[.val (.int p1)] [(.int (1 : Int32))])) t → Steps p.tables e below (s₁.setTop (entryFrame m #[(.int p1)] 1)) t := fun t kt => P141 t (by
                  show Steps p.tables e below (s₁.setTop (mkF m 51 #[.val (.int p1)] [(.int (132 : Int32)), (.int p1)])) _
                  refine XS.icmpNo X0.here hx rfl (hb hby dX_51) rfl (flt hc51_142).2.2.1 ?_
                  show Steps p.tables e below (s₁.setTop (mkF m 54 #[.val (.int p1)] [])) _
                  refine XS.iconst X0.here hx rfl (hb hby dX_54) ?_
                  exact kt)
                obtain ⟨fs, hr, hrun, hended, hW, hsame⟩ := X0.leave (v := some (.int (1 : Int32))) (fun h => by rw [Bd.returns] at h; cases h) (hlocks := hlk)
                refine ⟨_, _, P150 _ ?_, hrun, hended, _, _, rfl, ?_, ⟨_, rfl⟩, hW, hsame.mono (by decide) (by decide)⟩
                · show Steps p.tables e below (s₁.setTop (mkF m 55 #[.val (.int p1)] [(.int (1 : Int32))])) _
                  exact retN X0 hx (t := .boolean) Bd.returns (by simp) (hb hby dX_55) hr
                · show QP _ h0 _ s₁.heap _
                  have ev : fX p1 = (1 : Int32) := by unfold fX; rw [if_pos hc2_102, if_neg hc16_104, if_neg hc22_107, if_neg hc30_110, if_pos hc36_131, if_neg hc44_133, if_neg hc51_142]
                  rw [ev]
                  exact ⟨rfl, rfl, e0⟩
          · have P151 : ∀ t, Steps p.tables e below (s₁.setTop (mkF m 40 #[.val (.int p1)] [(.int (1 : Int32))])) t → Steps p.tables e below (s₁.setTop (entryFrame m #[(.int p1)] 1)) t := fun t kt => P130 t (by
              show Steps p.tables e below (s₁.setTop (mkF m 36 #[.val (.int p1)] [(.int (31 : Int32)), (.int p1)])) _
              refine XS.icmpNo X0.here hx rfl (hb hby dX_36) rfl (flt hc36_131).2.2.1 ?_
              show Steps p.tables e below (s₁.setTop (mkF m 39 #[.val (.int p1)] [])) _
              refine XS.iconst X0.here hx rfl (hb hby dX_39) ?_
              exact kt)
            obtain ⟨fs, hr, hrun, hended, hW, hsame⟩ := X0.leave (v := some (.int (1 : Int32))) (fun h => by rw [Bd.returns] at h; cases h) (hlocks := hlk)
            refine ⟨_, _, P151 _ ?_, hrun, hended, _, _, rfl, ?_, ⟨_, rfl⟩, hW, hsame.mono (by decide) (by decide)⟩
            · show Steps p.tables e below (s₁.setTop (mkF m 40 #[.val (.int p1)] [(.int (1 : Int32))])) _
              exact retN X0 hx (t := .boolean) Bd.returns (by simp) (hb hby dX_40) hr
            · show QP _ h0 _ s₁.heap _
              have ev : fX p1 = (1 : Int32) := by unfold fX; rw [if_pos hc2_102, if_neg hc16_104, if_neg hc22_107, if_neg hc30_110, if_neg hc36_131]
              rw [ev]
              exact ⟨rfl, rfl, e0⟩
  · have P152 : ∀ t, Steps p.tables e below (s₁.setTop (mkF m 8 #[.val (.int p1)] [(.int (8 : Int32)), (.int p1)])) t → Steps p.tables e below (s₁.setTop (entryFrame m #[(.int p1)] 1)) t := fun t kt => P101 t (by
      show Steps p.tables e below (s₁.setTop (mkF m 2 #[.val (.int p1)] [(.int (1 : Int32)), (.int p1)])) _
      refine XS.icmpNo X0.here hx rfl (hb hby dX_2) rfl (flt hc2_102).1 ?_
      show Steps p.tables e below (s₁.setTop (mkF m 5 #[.val (.int p1)] [])) _
      refine XS.iloadN X0.here hx rfl (hb hby dX_5) rfl ?_
      show Steps p.tables e below (s₁.setTop (mkF m 6 #[.val (.int p1)] [(.int p1)])) _
      refine XS.bipush X0.here hx rfl (hb hby dX_6) ?_
      exact kt)
    by_cases hc8_153 : (8 : Int32) < p1
    · have P154 : ∀ t, Steps p.tables e below (s₁.setTop (mkF m 16 #[.val (.int p1)] [(.int (11 : Int32)), (.int p1)])) t → Steps p.tables e below (s₁.setTop (entryFrame m #[(.int p1)] 1)) t := fun t kt => P152 t (by
        show Steps p.tables e below (s₁.setTop (mkF m 8 #[.val (.int p1)] [(.int (8 : Int32)), (.int p1)])) _
        refine XS.icmpYes X0.here hx rfl (pc0 := 8) (pc' := 13) rfl (hb hby dX_8) rfl (tlt hc8_153).2.2.1 (by decide) (by decide) ?_
        show Steps p.tables e below (s₁.setTop (mkF m 13 #[.val (.int p1)] [])) _
        refine XS.iloadN X0.here hx rfl (hb hby dX_13) rfl ?_
        show Steps p.tables e below (s₁.setTop (mkF m 14 #[.val (.int p1)] [(.int p1)])) _
        refine XS.bipush X0.here hx rfl (hb hby dX_14) ?_
        exact kt)
      by_cases hc16_155 : p1 = (11 : Int32)
      · have P156 : ∀ t, Steps p.tables e below (s₁.setTop (mkF m 26 #[.val (.int p1)] [(.int (1 : Int32))])) t → Steps p.tables e below (s₁.setTop (entryFrame m #[(.int p1)] 1)) t := fun t kt => P154 t (by
          show Steps p.tables e below (s₁.setTop (mkF m 16 #[.val (.int p1)] [(.int (11 : Int32)), (.int p1)])) _
          refine XS.icmpYes X0.here hx rfl (pc0 := 16) (pc' := 25) rfl (hb hby dX_16) rfl (teq hc16_155).1 (by decide) (by decide) ?_
          show Steps p.tables e below (s₁.setTop (mkF m 25 #[.val (.int p1)] [])) _
          refine XS.iconst X0.here hx rfl (hb hby dX_25) ?_
          exact kt)
        obtain ⟨fs, hr, hrun, hended, hW, hsame⟩ := X0.leave (v := some (.int (1 : Int32))) (fun h => by rw [Bd.returns] at h; cases h) (hlocks := hlk)
        refine ⟨_, _, P156 _ ?_, hrun, hended, _, _, rfl, ?_, ⟨_, rfl⟩, hW, hsame.mono (by decide) (by decide)⟩
        · show Steps p.tables e below (s₁.setTop (mkF m 26 #[.val (.int p1)] [(.int (1 : Int32))])) _
          exact retN X0 hx (t := .boolean) Bd.returns (by simp) (hb hby dX_26) hr
        · show QP _ h0 _ s₁.heap _
          have ev : fX p1 = (1 : Int32) := by unfold fX; rw [if_neg hc2_102, if_pos hc8_153, if_pos hc16_155]
          rw [ev]
          exact ⟨rfl, rfl, e0⟩
      · have P157 : ∀ t, Steps p.tables e below (s₁.setTop (mkF m 22 #[.val (.int p1)] [(.int (12 : Int32)), (.int p1)])) t → Steps p.tables e below (s₁.setTop (entryFrame m #[(.int p1)] 1)) t := fun t kt => P154 t (by
          show Steps p.tables e below (s₁.setTop (mkF m 16 #[.val (.int p1)] [(.int (11 : Int32)), (.int p1)])) _
          refine XS.icmpNo X0.here hx rfl (hb hby dX_16) rfl (feq hc16_155).1 ?_
          show Steps p.tables e below (s₁.setTop (mkF m 19 #[.val (.int p1)] [])) _
          refine XS.iloadN X0.here hx rfl (hb hby dX_19) rfl ?_
          show Steps p.tables e below (s₁.setTop (mkF m 20 #[.val (.int p1)] [(.int p1)])) _
          refine XS.bipush X0.here hx rfl (hb hby dX_20) ?_
          exact kt)
        by_cases hc22_158 : p1 = (12 : Int32)
        · have P159 : ∀ t, Steps p.tables e below (s₁.setTop (mkF m 26 #[.val (.int p1)] [(.int (1 : Int32))])) t → Steps p.tables e below (s₁.setTop (entryFrame m #[(.int p1)] 1)) t := fun t kt => P157 t (by
            show Steps p.tables e below (s₁.setTop (mkF m 22 #[.val (.int p1)] [(.int (12 : Int32)), (.int p1)])) _
            refine XS.icmpNo X0.here hx rfl (hb hby dX_22) rfl (teq hc22_158).2 ?_
            show Steps p.tables e below (s₁.setTop (mkF m 25 #[.val (.int p1)] [])) _
            refine XS.iconst X0.here hx rfl (hb hby dX_25) ?_
            exact kt)
          obtain ⟨fs, hr, hrun, hended, hW, hsame⟩ := X0.leave (v := some (.int (1 : Int32))) (fun h => by rw [Bd.returns] at h; cases h) (hlocks := hlk)
          refine ⟨_, _, P159 _ ?_, hrun, hended, _, _, rfl, ?_, ⟨_, rfl⟩, hW, hsame.mono (by decide) (by decide)⟩
          · show Steps p.tables e below (s₁.setTop (mkF m 26 #[.val (.int p1)] [(.int (1 : Int32))])) _
            exact retN X0 hx (t := .boolean) Bd.returns (by simp) (hb hby dX_26) hr
          · show QP _ h0 _ s₁.heap _
            have ev : fX p1 = (1 : Int32) := by unfold fX; rw [if_neg hc2_102, if_pos hc8_153, if_neg hc16_155, if_pos hc22_158]
            rw [ev]
            exact ⟨rfl, rfl, e0⟩
        · have P160 : ∀ t, Steps p.tables e below (s₁.setTop (mkF m 30 #[.val (.int p1)] [(.int (14 : Int32)), (.int p1)])) t → Steps p.tables e below (s₁.setTop (entryFrame m #[(.int p1)] 1)) t := fun t kt => P157 t (by
            show Steps p.tables e below (s₁.setTop (mkF m 22 #[.val (.int p1)] [(.int (12 : Int32)), (.int p1)])) _
            refine XS.icmpYes X0.here hx rfl (pc0 := 22) (pc' := 27) rfl (hb hby dX_22) rfl (feq hc22_158).2 (by decide) (by decide) ?_
            show Steps p.tables e below (s₁.setTop (mkF m 27 #[.val (.int p1)] [])) _
            refine XS.iloadN X0.here hx rfl (hb hby dX_27) rfl ?_
            show Steps p.tables e below (s₁.setTop (mkF m 28 #[.val (.int p1)] [(.int p1)])) _
            refine XS.bipush X0.here hx rfl (hb hby dX_28) ?_
            exact kt)
          by_cases hc30_161 : p1 < (14 : Int32)
          · have P162 : ∀ t, Steps p.tables e below (s₁.setTop (mkF m 44 #[.val (.int p1)] [(.int (127 : Int32)), (.int p1)])) t → Steps p.tables e below (s₁.setTop (entryFrame m #[(.int p1)] 1)) t := fun t kt => P160 t (by
              show Steps p.tables e below (s₁.setTop (mkF m 30 #[.val (.int p1)] [(.int (14 : Int32)), (.int p1)])) _
              refine XS.icmpYes X0.here hx rfl (pc0 := 30) (pc' := 41) rfl (hb hby dX_30) rfl (tlt hc30_161).1 (by decide) (by decide) ?_
              show Steps p.tables e below (s₁.setTop (mkF m 41 #[.val (.int p1)] [])) _
              refine XS.iloadN X0.here hx rfl (hb hby dX_41) rfl ?_
              show Steps p.tables e below (s₁.setTop (mkF m 42 #[.val (.int p1)] [(.int p1)])) _
              refine XS.bipush X0.here hx rfl (hb hby dX_42) ?_
              exact kt)
            by_cases hc44_163 : p1 < (127 : Int32)
            · have P164 : ∀ t, Steps p.tables e below (s₁.setTop (mkF m 60 #[.val (.int p1)] [(.int (134 : Int32)), (.int p1)])) t → Steps p.tables e below (s₁.setTop (entryFrame m #[(.int p1)] 1)) t := fun t kt => P162 t (by
                show Steps p.tables e below (s₁.setTop (mkF m 44 #[.val (.int p1)] [(.int (127 : Int32)), (.int p1)])) _
                refine XS.icmpYes X0.here hx rfl (pc0 := 44) (pc' := 56) rfl (hb hby dX_44) rfl (tlt hc44_163).1 (by decide) (by decide) ?_
                show Steps p.tables e below (s₁.setTop (mkF m 56 #[.val (.int p1)] [])) _
                refine XS.iloadN X0.here hx rfl (hb hby dX_56) rfl ?_
                show Steps p.tables e below (s₁.setTop (mkF m 57 #[.val (.int p1)] [(.int p1)])) _
                refine XS.sipush X0.here hx rfl (hb hby dX_57) ?_
                exact kt)
              by_cases hc60_165 : p1 < (134 : Int32)
              · have P166 : ∀ t, Steps p.tables e below (s₁.setTop (mkF m 73 #[.val (.int p1)] [(.int (0 : Int32))])) t → Steps p.tables e below (s₁.setTop (entryFrame m #[(.int p1)] 1)) t := fun t kt => P164 t (by
                  show Steps p.tables e below (s₁.setTop (mkF m 60 #[.val (.int p1)] [(.int (134 : Int32)), (.int p1)])) _
                  refine XS.icmpYes X0.here hx rfl (pc0 := 60) (pc' := 72) rfl (hb hby dX_60) rfl (tlt hc60_165).1 (by decide) (by decide) ?_
                  show Steps p.tables e below (s₁.setTop (mkF m 72 #[.val (.int p1)] [])) _
                  refine XS.iconst X0.here hx rfl (hb hby dX_72) ?_
                  exact kt)
                obtain ⟨fs, hr, hrun, hended, hW, hsame⟩ := X0.leave (v := some (.int (0 : Int32))) (fun h => by rw [Bd.returns] at h; cases h) (hlocks := hlk)
                refine ⟨_, _, P166 _ ?_, hrun, hended, _, _, rfl, ?_, ⟨_, rfl⟩, hW, hsame.mono (by decide) (by decide)⟩
                · show Steps p.tables e below (s₁.setTop (mkF m 73 #[.val (.int p1)] [(.int (0 : Int32))])) _
                  exact retN X0 hx (t := .boolean) Bd.returns (by simp) (hb hby dX_73) hr
                · show QP _ h0 _ s₁.heap _
                  have ev : fX p1 = (0 : Int32) := by unfold fX; rw [if_neg hc2_102, if_pos hc8_153, if_neg hc16_155, if_neg hc22_158, if_pos hc30_161, if_pos hc44_163, if_pos hc60_165]
                  rw [ev]
                  exact ⟨rfl, rfl, e0⟩
              · have P167 : ∀ t, Steps p.tables e below (s₁.setTop (mkF m 67 #[.val (.int p1)] [(.int (159 : Int32)), (.int p1)])) t → Steps p.tables e below (s₁.setTop (entryFrame m #[(.int p1)] 1)) t := fun t kt => P164 t (by
                  show Steps p.tables e below (s₁.setTop (mkF m 60 #[.val (.int p1)] [(.int (134 : Int32)), (.int p1)])) _
                  refine XS.icmpNo X0.here hx rfl (hb hby dX_60) rfl (flt hc60_165).1 ?_
                  show Steps p.tables e below (s₁.setTop (mkF m 63 #[.val (.int p1)] [])) _
                  refine XS.iloadN X0.here hx rfl (hb hby dX_63) rfl ?_
                  show Steps p.tables e below (s₁.setTop (mkF m 64 #[.val (.int p1)] [(.int p1)])) _
                  refine XS.sipush X0.here hx rfl (hb hby dX_64) ?_
                  exact kt)
                by_cases hc67_168 : (159 : Int32) < p1
                · have P169 : ∀ t, Steps p.tables e below (s₁.setTop (mkF m 73 #[.val (.int p1)] [(.int (0 : Int32))])) t → Steps p.tables e below (s₁.setTop (entryFrame m #[(.int p1)] 1)) t := fun t kt => P167 t (by
                    show Steps p.tables e below (s₁.setTop (mkF m 67 #[.val (.int p1)] [(.int (159 : Int32)), (.int p1)])) _
                    refine XS.icmpYes X0.here hx rfl (pc0 := 67) (pc' := 72) rfl (hb hby dX_67) rfl (tlt hc67_168).2.2.1 (by decide) (by decide) ?_
                    show Steps p.tables e below (s₁.setTop (mkF m 72 #[.val (.int p1)] [])) _
                    refine XS.iconst X0.here hx rfl (hb hby dX_72) ?_
                    exact kt)
                  obtain ⟨fs, hr, hrun, hended, hW, hsame⟩ := X0.leave (v := some (.int (0 : Int32))) (fun h => by rw [Bd.returns] at h; cases h) (hlocks := hlk)
                  refine ⟨_, _, P169 _ ?_, hrun, hended, _, _, rfl, ?_, ⟨_, rfl⟩, hW, hsame.mono (by decide) (by decide)⟩
                  · show Steps p.tables e below (s₁.setTop (mkF m 73 #[.val (.int p1)] [(.int (0 : Int32))])) _
                    exact retN X0 hx (t := .boolean) Bd.returns (by simp) (hb hby dX_73) hr
                  · show QP _ h0 _ s₁.heap _
                    have ev : fX p1 = (0 : Int32) := by unfold fX; rw [if_neg hc2_102, if_pos hc8_153, if_neg hc16_155, if_neg hc22_158, if_pos hc30_161, if_pos hc44_163, if_neg hc60_165, if_pos hc67_168]
                    rw [ev]
                    exact ⟨rfl, rfl, e0⟩
                · have P170 : ∀ t, Steps p.tables e below (s₁.setTop (mkF m 71 #[.val (.int p1)] [(.int (1 : Int32))])) t → Steps p.tables e below (s₁.setTop (entryFrame m #[(.int p1)] 1)) t := fun t kt => P167 t (by
                    show Steps p.tables e below (s₁.setTop (mkF m 67 #[.val (.int p1)] [(.int (159 : Int32)), (.int p1)])) _
                    refine XS.icmpNo X0.here hx rfl (hb hby dX_67) rfl (flt hc67_168).2.2.1 ?_
                    show Steps p.tables e below (s₁.setTop (mkF m 70 #[.val (.int p1)] [])) _
                    refine XS.iconst X0.here hx rfl (hb hby dX_70) ?_
                    exact kt)
                  obtain ⟨fs, hr, hrun, hended, hW, hsame⟩ := X0.leave (v := some (.int (1 : Int32))) (fun h => by rw [Bd.returns] at h; cases h) (hlocks := hlk)
                  refine ⟨_, _, P170 _ ?_, hrun, hended, _, _, rfl, ?_, ⟨_, rfl⟩, hW, hsame.mono (by decide) (by decide)⟩
                  · show Steps p.tables e below (s₁.setTop (mkF m 71 #[.val (.int p1)] [(.int (1 : Int32))])) _
                    exact retN X0 hx (t := .boolean) Bd.returns (by simp) (hb hby dX_71) hr
                  · show QP _ h0 _ s₁.heap _
                    have ev : fX p1 = (1 : Int32) := by unfold fX; rw [if_neg hc2_102, if_pos hc8_153, if_neg hc16_155, if_neg hc22_158, if_pos hc30_161, if_pos hc44_163, if_neg hc60_165, if_neg hc67_168]
                    rw [ev]
                    exact ⟨rfl, rfl, e0⟩
            · have P171 : ∀ t, Steps p.tables e below (s₁.setTop (mkF m 51 #[.val (.int p1)] [(.int (132 : Int32)), (.int p1)])) t → Steps p.tables e below (s₁.setTop (entryFrame m #[(.int p1)] 1)) t := fun t kt => P162 t (by
                show Steps p.tables e below (s₁.setTop (mkF m 44 #[.val (.int p1)] [(.int (127 : Int32)), (.int p1)])) _
                refine XS.icmpNo X0.here hx rfl (hb hby dX_44) rfl (flt hc44_163).1 ?_
                show Steps p.tables e below (s₁.setTop (mkF m 47 #[.val (.int p1)] [])) _
                refine XS.iloadN X0.here hx rfl (hb hby dX_47) rfl ?_
                show Steps p.tables e below (s₁.setTop (mkF m 48 #[.val (.int p1)] [(.int p1)])) _
                refine XS.sipush X0.here hx rfl (hb hby dX_48) ?_
                exact kt)
              by_cases hc51_172 : (132 : Int32) < p1
              · have P173 : ∀ t, Steps p.tables e below (s₁.setTop (mkF m 60 #[.val (.int p1)] [(.int (134 : Int32)), (.int p1)])) t → Steps p.tables e below (s₁.setTop (entryFrame m #[(.int p1)] 1)) t := fun t kt => P171 t (by
                  show Steps p.tables e below (s₁.setTop (mkF m 51 #[.val (.int p1)] [(.int (132 : Int32)), (.int p1)])) _
                  refine XS.icmpYes X0.here hx rfl (pc0 := 51) (pc' := 56) rfl (hb hby dX_51) rfl (tlt hc51_172).2.2.1 (by decide) (by decide) ?_
                  show Steps p.tables e below (s₁.setTop (mkF m 56 #[.val (.int p1)] [])) _
                  refine XS.iloadN X0.here hx rfl (hb hby dX_56) rfl ?_
                  show Steps p.tables e below (s₁.setTop (mkF m 57 #[.val (.int p1)] [(.int p1)])) _
                  refine XS.sipush X0.here hx rfl (hb hby dX_57) ?_
                  exact kt)
                by_cases hc60_174 : p1 < (134 : Int32)
                · have P175 : ∀ t, Steps p.tables e below (s₁.setTop (mkF m 73 #[.val (.int p1)] [(.int (0 : Int32))])) t → Steps p.tables e below (s₁.setTop (entryFrame m #[(.int p1)] 1)) t := fun t kt => P173 t (by
                    show Steps p.tables e below (s₁.setTop (mkF m 60 #[.val (.int p1)] [(.int (134 : Int32)), (.int p1)])) _
                    refine XS.icmpYes X0.here hx rfl (pc0 := 60) (pc' := 72) rfl (hb hby dX_60) rfl (tlt hc60_174).1 (by decide) (by decide) ?_
                    show Steps p.tables e below (s₁.setTop (mkF m 72 #[.val (.int p1)] [])) _
                    refine XS.iconst X0.here hx rfl (hb hby dX_72) ?_
                    exact kt)
                  obtain ⟨fs, hr, hrun, hended, hW, hsame⟩ := X0.leave (v := some (.int (0 : Int32))) (fun h => by rw [Bd.returns] at h; cases h) (hlocks := hlk)
                  refine ⟨_, _, P175 _ ?_, hrun, hended, _, _, rfl, ?_, ⟨_, rfl⟩, hW, hsame.mono (by decide) (by decide)⟩
                  · show Steps p.tables e below (s₁.setTop (mkF m 73 #[.val (.int p1)] [(.int (0 : Int32))])) _
                    exact retN X0 hx (t := .boolean) Bd.returns (by simp) (hb hby dX_73) hr
                  · show QP _ h0 _ s₁.heap _
                    have ev : fX p1 = (0 : Int32) := by unfold fX; rw [if_neg hc2_102, if_pos hc8_153, if_neg hc16_155, if_neg hc22_158, if_pos hc30_161, if_neg hc44_163, if_pos hc51_172, if_pos hc60_174]
                    rw [ev]
                    exact ⟨rfl, rfl, e0⟩
                · have P176 : ∀ t, Steps p.tables e below (s₁.setTop (mkF m 67 #[.val (.int p1)] [(.int (159 : Int32)), (.int p1)])) t → Steps p.tables e below (s₁.setTop (entryFrame m #[(.int p1)] 1)) t := fun t kt => P173 t (by
                    show Steps p.tables e below (s₁.setTop (mkF m 60 #[.val (.int p1)] [(.int (134 : Int32)), (.int p1)])) _
                    refine XS.icmpNo X0.here hx rfl (hb hby dX_60) rfl (flt hc60_174).1 ?_
                    show Steps p.tables e below (s₁.setTop (mkF m 63 #[.val (.int p1)] [])) _
                    refine XS.iloadN X0.here hx rfl (hb hby dX_63) rfl ?_
                    show Steps p.tables e below (s₁.setTop (mkF m 64 #[.val (.int p1)] [(.int p1)])) _
                    refine XS.sipush X0.here hx rfl (hb hby dX_64) ?_
                    exact kt)
                  by_cases hc67_177 : (159 : Int32) < p1
                  · have P178 : ∀ t, Steps p.tables e below (s₁.setTop (mkF m 73 #[.val (.int p1)] [(.int (0 : Int32))])) t → Steps p.tables e below (s₁.setTop (entryFrame m #[(.int p1)] 1)) t := fun t kt => P176 t (by
                      show Steps p.tables e below (s₁.setTop (mkF m 67 #[.val (.int p1)] [(.int (159 : Int32)), (.int p1)])) _
                      refine XS.icmpYes X0.here hx rfl (pc0 := 67) (pc' := 72) rfl (hb hby dX_67) rfl (tlt hc67_177).2.2.1 (by decide) (by decide) ?_
                      show Steps p.tables e below (s₁.setTop (mkF m 72 #[.val (.int p1)] [])) _
                      refine XS.iconst X0.here hx rfl (hb hby dX_72) ?_
                      exact kt)
                    obtain ⟨fs, hr, hrun, hended, hW, hsame⟩ := X0.leave (v := some (.int (0 : Int32))) (fun h => by rw [Bd.returns] at h; cases h) (hlocks := hlk)
                    refine ⟨_, _, P178 _ ?_, hrun, hended, _, _, rfl, ?_, ⟨_, rfl⟩, hW, hsame.mono (by decide) (by decide)⟩
                    · show Steps p.tables e below (s₁.setTop (mkF m 73 #[.val (.int p1)] [(.int (0 : Int32))])) _
                      exact retN X0 hx (t := .boolean) Bd.returns (by simp) (hb hby dX_73) hr
                    · show QP _ h0 _ s₁.heap _
                      have ev : fX p1 = (0 : Int32) := by unfold fX; rw [if_neg hc2_102, if_pos hc8_153, if_neg hc16_155, if_neg hc22_158, if_pos hc30_161, if_neg hc44_163, if_pos hc51_172, if_neg hc60_174, if_pos hc67_177]
                      rw [ev]
                      exact ⟨rfl, rfl, e0⟩
                  · have P179 : ∀ t, Steps p.tables e below (s₁.setTop (mkF m 71 #[.val (.int p1)] [(.int (1 : Int32))])) t → Steps p.tables e below (s₁.setTop (entryFrame m #[(.int p1)] 1)) t := fun t kt => P176 t (by
                      show Steps p.tables e below (s₁.setTop (mkF m 67 #[.val (.int p1)] [(.int (159 : Int32)), (.int p1)])) _
                      refine XS.icmpNo X0.here hx rfl (hb hby dX_67) rfl (flt hc67_177).2.2.1 ?_
                      show Steps p.tables e below (s₁.setTop (mkF m 70 #[.val (.int p1)] [])) _
                      refine XS.iconst X0.here hx rfl (hb hby dX_70) ?_
                      exact kt)
                    obtain ⟨fs, hr, hrun, hended, hW, hsame⟩ := X0.leave (v := some (.int (1 : Int32))) (fun h => by rw [Bd.returns] at h; cases h) (hlocks := hlk)
                    refine ⟨_, _, P179 _ ?_, hrun, hended, _, _, rfl, ?_, ⟨_, rfl⟩, hW, hsame.mono (by decide) (by decide)⟩
                    · show Steps p.tables e below (s₁.setTop (mkF m 71 #[.val (.int p1)] [(.int (1 : Int32))])) _
                      exact retN X0 hx (t := .boolean) Bd.returns (by simp) (hb hby dX_71) hr
                    · show QP _ h0 _ s₁.heap _
                      have ev : fX p1 = (1 : Int32) := by unfold fX; rw [if_neg hc2_102, if_pos hc8_153, if_neg hc16_155, if_neg hc22_158, if_pos hc30_161, if_neg hc44_163, if_pos hc51_172, if_neg hc60_174, if_neg hc67_177]
                      rw [ev]
                      exact ⟨rfl, rfl, e0⟩
              · have P180 : ∀ t, Steps p.tables e below (s₁.setTop (mkF m 55 #[.val (.int p1)] [(.int (1 : Int32))])) t → Steps p.tables e below (s₁.setTop (entryFrame m #[(.int p1)] 1)) t := fun t kt => P171 t (by
                  show Steps p.tables e below (s₁.setTop (mkF m 51 #[.val (.int p1)] [(.int (132 : Int32)), (.int p1)])) _
                  refine XS.icmpNo X0.here hx rfl (hb hby dX_51) rfl (flt hc51_172).2.2.1 ?_
                  show Steps p.tables e below (s₁.setTop (mkF m 54 #[.val (.int p1)] [])) _
                  refine XS.iconst X0.here hx rfl (hb hby dX_54) ?_
                  exact kt)
                obtain ⟨fs, hr, hrun, hended, hW, hsame⟩ := X0.leave (v := some (.int (1 : Int32))) (fun h => by rw [Bd.returns] at h; cases h) (hlocks := hlk)
                refine ⟨_, _, P180 _ ?_, hrun, hended, _, _, rfl, ?_, ⟨_, rfl⟩, hW, hsame.mono (by decide) (by decide)⟩
                · show Steps p.tables e below (s₁.setTop (mkF m 55 #[.val (.int p1)] [(.int (1 : Int32))])) _
                  exact retN X0 hx (t := .boolean) Bd.returns (by simp) (hb hby dX_55) hr
                · show QP _ h0 _ s₁.heap _
                  have ev : fX p1 = (1 : Int32) := by unfold fX; rw [if_neg hc2_102, if_pos hc8_153, if_neg hc16_155, if_neg hc22_158, if_pos hc30_161, if_neg hc44_163, if_neg hc51_172]
                  rw [ev]
                  exact ⟨rfl, rfl, e0⟩
          · have P181 : ∀ t, Steps p.tables e below (s₁.setTop (mkF m 36 #[.val (.int p1)] [(.int (31 : Int32)), (.int p1)])) t → Steps p.tables e below (s₁.setTop (entryFrame m #[(.int p1)] 1)) t := fun t kt => P160 t (by
              show Steps p.tables e below (s₁.setTop (mkF m 30 #[.val (.int p1)] [(.int (14 : Int32)), (.int p1)])) _
              refine XS.icmpNo X0.here hx rfl (hb hby dX_30) rfl (flt hc30_161).1 ?_
              show Steps p.tables e below (s₁.setTop (mkF m 33 #[.val (.int p1)] [])) _
              refine XS.iloadN X0.here hx rfl (hb hby dX_33) rfl ?_
              show Steps p.tables e below (s₁.setTop (mkF m 34 #[.val (.int p1)] [(.int p1)])) _
              refine XS.bipush X0.here hx rfl (hb hby dX_34) ?_
              exact kt)
            by_cases hc36_182 : (31 : Int32) < p1
            · have P183 : ∀ t, Steps p.tables e below (s₁.setTop (mkF m 44 #[.val (.int p1)] [(.int (127 : Int32)), (.int p1)])) t → Steps p.tables e below (s₁.setTop (entryFrame m #[(.int p1)] 1)) t := fun t kt => P181 t (by
                show Steps p.tables e below (s₁.setTop (mkF m 36 #[.val (.int p1)] [(.int (31 : Int32)), (.int p1)])) _
                refine XS.icmpYes X0.here hx rfl (pc0 := 36) (pc' := 41) rfl (hb hby dX_36) rfl (tlt hc36_182).2.2.1 (by decide) (by decide) ?_
                show Steps p.tables e below (s₁.setTop (mkF m 41 #[.val (.int p1)] [])) _
                refine XS.iloadN X0.here hx rfl (hb hby dX_41) rfl ?_
                show Steps p.tables e below (s₁.setTop (mkF m 42 #[.val (.int p1)] [(.int p1)])) _
                refine XS.bipush X0.here hx rfl (hb hby dX_42) ?_
                exact kt)
              by_cases hc44_184 : p1 < (127 : Int32)
              · have P185 : ∀ t, Steps p.tables e below (s₁.setTop (mkF m 60 #[.val (.int p1)] [(.int (134 : Int32)), (.int p1)])) t → Steps p.tables e below (s₁.setTop (entryFrame m #[(.int p1)] 1)) t := fun t kt => P183 t (by
                  show Steps p.tables e below (s₁.setTop (mkF m 44 #[.val (.int p1)] [(.int (127 : Int32)), (.int p1)])) _
                  refine XS.icmpYes X0.here hx rfl (pc0 := 44) (pc' := 56) rfl (hb hby dX_44) rfl (tlt hc44_184).1 (by decide) (by decide) ?_
                  show Steps p.tables e below (s₁.setTop (mkF m 56 #[.val (.int p1)] [])) _
                  refine XS.iloadN X0.here hx rfl (hb hby dX_56) rfl ?_
                  show Steps p.tables e below (s₁.setTop (mkF m 57 #[.val (.int p1)] [(.int p1)])) _
                  refine XS.sipush X0.here hx rfl (hb hby dX_57) ?_
                  exact kt)
                by_cases hc60_186 : p1 < (134 : Int32)
                · have P187 : ∀ t, Steps p.tables e below (s₁.setTop (mkF m 73 #[.val (.int p1)] [(.int (0 : Int32))])) t → Steps p.tables e below (s₁.setTop (entryFrame m #[(.int p1)] 1)) t := fun t kt => P185 t (by
                    show Steps p.tables e below (s₁.setTop (mkF m 60 #[.val (.int p1)] [(.int (134 : Int32)), (.int p1)])) _
                    refine XS.icmpYes X0.here hx rfl (pc0 := 60) (pc' := 72) rfl (hb hby dX_60) rfl (tlt hc60_186).1 (by decide) (by decide) ?_
                    show Steps p.tables e below (s₁.setTop (mkF m 72 #[.val (.int p1)] [])) _
                    refine XS.iconst X0.here hx rfl (hb hby dX_72) ?_
                    exact kt)
                  obtain ⟨fs, hr, hrun, hended, hW, hsame⟩ := X0.leave (v := some (.int (0 : Int32))) (fun h => by rw [Bd.returns] at h; cases h) (hlocks := hlk)
                  refine ⟨_, _, P187 _ ?_, hrun, hended, _, _, rfl, ?_, ⟨_, rfl⟩, hW, hsame.mono (by decide) (by decide)⟩
                  · show Steps p.tables e below (s₁.setTop (mkF m 73 #[.val (.int p1)] [(.int (0 : Int32))])) _
                    exact retN X0 hx (t := .boolean) Bd.returns (by simp) (hb hby dX_73) hr
                  · show QP _ h0 _ s₁.heap _
                    have ev : fX p1 = (0 : Int32) := by unfold fX; rw [if_neg hc2_102, if_pos hc8_153, if_neg hc16_155, if_neg hc22_158, if_neg hc30_161, if_pos hc36_182, if_pos hc44_184, if_pos hc60_186]
                    rw [ev]
                    exact ⟨rfl, rfl, e0⟩
                · have P188 : ∀ t, Steps p.tables e below (s₁.setTop (mkF m 67 #[.val (.int p1)] [(.int (159 : Int32)), (.int p1)])) t → Steps p.tables e below (s₁.setTop (entryFrame m #[(.int p1)] 1)) t := fun t kt => P185 t (by
                    show Steps p.tables e below (s₁.setTop (mkF m 60 #[.val (.int p1)] [(.int (134 : Int32)), (.int p1)])) _
                    refine XS.icmpNo X0.here hx rfl (hb hby dX_60) rfl (flt hc60_186).1 ?_
                    show Steps p.tables e below (s₁.setTop (mkF m 63 #[.val (.int p1)] [])) _
                    refine XS.iloadN X0.here hx rfl (hb hby dX_63) rfl ?_
                    show Steps p.tables e below (s₁.setTop (mkF m 64 #[.val (.int p1)] [(.int p1)])) _
                    refine XS.sipush X0.here hx rfl (hb hby dX_64) ?_
                    exact kt)
                  by_cases hc67_189 : (159 : Int32) < p1
                  · have P190 : ∀ t, Steps p.tables e below (s₁.setTop (mkF m 73 #[.val (.int p1)] [(.int (0 : Int32))])) t → Steps p.tables e below (s₁.setTop (entryFrame m #[(.int p1)] 1)) t := fun t kt => P188 t (by
                      show Steps p.tables e below (s₁.setTop (mkF m 67 #[.val (.int p1)] [(.int (159 : Int32)), (.int p1)])) _
                      refine XS.icmpYes X0.here hx rfl (pc0 := 67) (pc' := 72) rfl (hb hby dX_67) rfl (tlt hc67_189).2.2.1 (by decide) (by decide) ?_
                      show Steps p.tables e below (s₁.setTop (mkF m 72 #[.val (.int p1)] [])) _
                      refine XS.iconst X0.here hx rfl (hb hby dX_72) ?_
                      exact kt)
                    obtain ⟨fs, hr, hrun, hended, hW, hsame⟩ := X0.leave (v := some (.int (0 : Int32))) (fun h => by rw [Bd.returns] at h; cases h) (hlocks := hlk)
                    refine ⟨_, _, P190 _ ?_, hrun, hended, _, _, rfl, ?_, ⟨_, rfl⟩, hW, hsame.mono (by decide) (by decide)⟩
                    · show Steps p.tables e below (s₁.setTop (mkF m 73 #[.val (.int p1)] [(.int (0 : Int32))])) _
                      exact retN X0 hx (t := .boolean) Bd.returns (by simp) (hb hby dX_73) hr
                    · show QP _ h0 _ s₁.heap _
                      have ev : fX p1 = (0 : Int32) := by unfold fX; rw [if_neg hc2_102, if_pos hc8_153, if_neg hc16_155, if_neg hc22_158, if_neg hc30_161, if_pos hc36_182, if_pos hc44_184, if_neg hc60_186, if_pos hc67_189]
                      rw [ev]
                      exact ⟨rfl, rfl, e0⟩
                  · have P191 : ∀ t, Steps p.tables e below (s₁.setTop (mkF m 71 #[.val (.int p1)] [(.int (1 : Int32))])) t → Steps p.tables e below (s₁.setTop (entryFrame m #[(.int p1)] 1)) t := fun t kt => P188 t (by
                      show Steps p.tables e below (s₁.setTop (mkF m 67 #[.val (.int p1)] [(.int (159 : Int32)), (.int p1)])) _
                      refine XS.icmpNo X0.here hx rfl (hb hby dX_67) rfl (flt hc67_189).2.2.1 ?_
                      show Steps p.tables e below (s₁.setTop (mkF m 70 #[.val (.int p1)] [])) _
                      refine XS.iconst X0.here hx rfl (hb hby dX_70) ?_
                      exact kt)
                    obtain ⟨fs, hr, hrun, hended, hW, hsame⟩ := X0.leave (v := some (.int (1 : Int32))) (fun h => by rw [Bd.returns] at h; cases h) (hlocks := hlk)
                    refine ⟨_, _, P191 _ ?_, hrun, hended, _, _, rfl, ?_, ⟨_, rfl⟩, hW, hsame.mono (by decide) (by decide)⟩
                    · show Steps p.tables e below (s₁.setTop (mkF m 71 #[.val (.int p1)] [(.int (1 : Int32))])) _
                      exact retN X0 hx (t := .boolean) Bd.returns (by simp) (hb hby dX_71) hr
                    · show QP _ h0 _ s₁.heap _
                      have ev : fX p1 = (1 : Int32) := by unfold fX; rw [if_neg hc2_102, if_pos hc8_153, if_neg hc16_155, if_neg hc22_158, if_neg hc30_161, if_pos hc36_182, if_pos hc44_184, if_neg hc60_186, if_neg hc67_189]
                      rw [ev]
                      exact ⟨rfl, rfl, e0⟩
              · have P192 : ∀ t, Steps p.tables e below (s₁.setTop (mkF m 51 #[.val (.int p1)] [(.int (132 : Int32)), (.int p1)])) t → Steps p.tables e below (s₁.setTop (entryFrame m #[(.int p1)] 1)) t := fun t kt => P183 t (by
                  show Steps p.tables e below (s₁.setTop (mkF m 44 #[.val (.int p1)] [(.int (127 : Int32)), (.int p1)])) _
                  refine XS.icmpNo X0.here hx rfl (hb hby dX_44) rfl (flt hc44_184).1 ?_
                  show Steps p.tables e below (s₁.setTop (mkF m 47 #[.val (.int p1)] [])) _
                  refine XS.iloadN X0.here hx rfl (hb hby dX_47) rfl ?_
                  show Steps p.tables e below (s₁.setTop (mkF m 48 #[.val (.int p1)] [(.int p1)])) _
                  refine XS.sipush X0.here hx rfl (hb hby dX_48) ?_
                  exact kt)
                by_cases hc51_193 : (132 : Int32) < p1
                · have P194 : ∀ t, Steps p.tables e below (s₁.setTop (mkF m 60 #[.val (.int p1)] [(.int (134 : Int32)), (.int p1)])) t → Steps p.tables e below (s₁.setTop (entryFrame m #[(.int p1)] 1)) t := fun t kt => P192 t (by
                    show Steps p.tables e below (s₁.setTop (mkF m 51 #[.val (.int p1)] [(.int (132 : Int32)), (.int p1)])) _
                    refine XS.icmpYes X0.here hx rfl (pc0 := 51) (pc' := 56) rfl (hb hby dX_51) rfl (tlt hc51_193).2.2.1 (by decide) (by decide) ?_
                    show Steps p.tables e below (s₁.setTop (mkF m 56 #[.val (.int p1)] [])) _
                    refine XS.iloadN X0.here hx rfl (hb hby dX_56) rfl ?_
                    show Steps p.tables e below (s₁.setTop (mkF m 57 #[.val (.int p1)] [(.int p1)])) _
                    refine XS.sipush X0.here hx rfl (hb hby dX_57) ?_
                    exact kt)
                  by_cases hc60_195 : p1 < (134 : Int32)
                  · have P196 : ∀ t, Steps p.tables e below (s₁.setTop (mkF m 73 #[.val (.int p1)] [(.int (0 : Int32))])) t → Steps p.tables e below (s₁.setTop (entryFrame m #[(.int p1)] 1)) t := fun t kt => P194 t (by
                      show Steps p.tables e below (s₁.setTop (mkF m 60 #[.val (.int p1)] [(.int (134 : Int32)), (.int p1)])) _
                      refine XS.icmpYes X0.here hx rfl (pc0 := 60) (pc' := 72) rfl (hb hby dX_60) rfl (tlt hc60_195).1 (by decide) (by decide) ?_
                      show Steps p.tables e below (s₁.setTop (mkF m 72 #[.val (.int p1)] [])) _
                      refine XS.iconst X0.here hx rfl (hb hby dX_72) ?_
                      exact kt)
                    obtain ⟨fs, hr, hrun, hended, hW, hsame⟩ := X0.leave (v := some (.int (0 : Int32))) (fun h => by rw [Bd.returns] at h; cases h) (hlocks := hlk)
                    refine ⟨_, _, P196 _ ?_, hrun, hended, _, _, rfl, ?_, ⟨_, rfl⟩, hW, hsame.mono (by decide) (by decide)⟩
                    · show Steps p.tables e below (s₁.setTop (mkF m 73 #[.val (.int p1)] [(.int (0 : Int32))])) _
                      exact retN X0 hx (t := .boolean) Bd.returns (by simp) (hb hby dX_73) hr
                    · show QP _ h0 _ s₁.heap _
                      have ev : fX p1 = (0 : Int32) := by unfold fX; rw [if_neg hc2_102, if_pos hc8_153, if_neg hc16_155, if_neg hc22_158, if_neg hc30_161, if_pos hc36_182, if_neg hc44_184, if_pos hc51_193, if_pos hc60_195]
                      rw [ev]
                      exact ⟨rfl, rfl, e0⟩
                  · have P197 : ∀ t, Steps p.tables e below (s₁.setTop (mkF m 67 #[.val (.int p1)] [(.int (159 : Int32)), (.int p1)])) t → Steps p.tables e below (s₁.setTop (entryFrame m #[(.int p1)] 1)) t := fun t kt => P194 t (by
                      show Steps p.tables e below (s₁.setTop (mkF m 60 #[.val (.int p1)] [(.int (134 : Int32)), (.int p1)])) _
                      refine XS.icmpNo X0.here hx rfl (hb hby dX_60) rfl (flt hc60_195).1 ?_
                      show Steps p.tables e below (s₁.setTop (mkF m 63 #[.val (.int p1)] [])) _
                      refine XS.iloadN X0.here hx rfl (hb hby dX_63) rfl ?_
                      show Steps p.tables e below (s₁.setTop (mkF m 64 #[.val (.int p1)] [(.int p1)])) _
                      refine XS.sipush X0.here hx rfl (hb hby dX_64) ?_
                      exact kt)
                    by_cases hc67_198 : (159 : Int32) < p1
                    · have P199 : ∀ t, Steps p.tables e below (s₁.setTop (mkF m 73 #[.val (.int p1)] [(.int (0 : Int32))])) t → Steps p.tables e below (s₁.setTop (entryFrame m #[(.int p1)] 1)) t := fun t kt => P197 t (by
                        show Steps p.tables e below (s₁.setTop (mkF m 67 #[.val (.int p1)] [(.int (159 : Int32)), (.int p1)])) _
                        refine XS.icmpYes X0.here hx rfl (pc0 := 67) (pc' := 72) rfl (hb hby dX_67) rfl (tlt hc67_198).2.2.1 (by decide) (by decide) ?_
                        show Steps p.tables e below (s₁.setTop (mkF m 72 #[.val (.int p1)] [])) _
                        refine XS.iconst X0.here hx rfl (hb hby dX_72) ?_
                        exact kt)
                      obtain ⟨fs, hr, hrun, hended, hW, hsame⟩ := X0.leave (v := some (.int (0 : Int32))) (fun h => by rw [Bd.returns] at h; cases h) (hlocks := hlk)
                      refine ⟨_, _, P199 _ ?_, hrun, hended, _, _, rfl, ?_, ⟨_, rfl⟩, hW, hsame.mono (by decide) (by decide)⟩
                      · show Steps p.tables e below (s₁.setTop (mkF m 73 #[.val (.int p1)] [(.int (0 : Int32))])) _
                        exact retN X0 hx (t := .boolean) Bd.returns (by simp) (hb hby dX_73) hr
                      · show QP _ h0 _ s₁.heap _
                        have ev : fX p1 = (0 : Int32) := by unfold fX; rw [if_neg hc2_102, if_pos hc8_153, if_neg hc16_155, if_neg hc22_158, if_neg hc30_161, if_pos hc36_182, if_neg hc44_184, if_pos hc51_193, if_neg hc60_195, if_pos hc67_198]
                        rw [ev]
                        exact ⟨rfl, rfl, e0⟩
                    · have P200 : ∀ t, Steps p.tables e below (s₁.setTop (mkF m 71 #[.val (.int p1)] [(.int (1 : Int32))])) t → Steps p.tables e below (s₁.setTop (entryFrame m #[(.int p1)] 1)) t := fun t kt => P197 t (by
                        show Steps p.tables e below (s₁.setTop (mkF m 67 #[.val (.int p1)] [(.int (159 : Int32)), (.int p1)])) _
                        refine XS.icmpNo X0.here hx rfl (hb hby dX_67) rfl (flt hc67_198).2.2.1 ?_
                        show Steps p.tables e below (s₁.setTop (mkF m 70 #[.val (.int p1)] [])) _
                        refine XS.iconst X0.here hx rfl (hb hby dX_70) ?_
                        exact kt)
                      obtain ⟨fs, hr, hrun, hended, hW, hsame⟩ := X0.leave (v := some (.int (1 : Int32))) (fun h => by rw [Bd.returns] at h; cases h) (hlocks := hlk)
                      refine ⟨_, _, P200 _ ?_, hrun, hended, _, _, rfl, ?_, ⟨_, rfl⟩, hW, hsame.mono (by decide) (by decide)⟩
                      · show Steps p.tables e below (s₁.setTop (mkF m 71 #[.val (.int p1)] [(.int (1 : Int32))])) _
                        exact retN X0 hx (t := .boolean) Bd.returns (by simp) (hb hby dX_71) hr
                      · show QP _ h0 _ s₁.heap _
                        have ev : fX p1 = (1 : Int32) := by unfold fX; rw [if_neg hc2_102, if_pos hc8_153, if_neg hc16_155, if_neg hc22_158, if_neg hc30_161, if_pos hc36_182, if_neg hc44_184, if_pos hc51_193, if_neg hc60_195, if_neg hc67_198]
                        rw [ev]
                        exact ⟨rfl, rfl, e0⟩
                · have P201 : ∀ t, Steps p.tables e below (s₁.setTop (mkF m 55 #[.val (.int p1)] [(.int (1 : Int32))])) t → Steps p.tables e below (s₁.setTop (entryFrame m #[(.int p1)] 1)) t := fun t kt => P192 t (by
                    show Steps p.tables e below (s₁.setTop (mkF m 51 #[.val (.int p1)] [(.int (132 : Int32)), (.int p1)])) _
                    refine XS.icmpNo X0.here hx rfl (hb hby dX_51) rfl (flt hc51_193).2.2.1 ?_
                    show Steps p.tables e below (s₁.setTop (mkF m 54 #[.val (.int p1)] [])) _
                    refine XS.iconst X0.here hx rfl (hb hby dX_54) ?_
                    exact kt)
                  obtain ⟨fs, hr, hrun, hended, hW, hsame⟩ := X0.leave (v := some (.int (1 : Int32))) (fun h => by rw [Bd.returns] at h; cases h) (hlocks := hlk)
                  refine ⟨_, _, P201 _ ?_, hrun, hended, _, _, rfl, ?_, ⟨_, rfl⟩, hW, hsame.mono (by decide) (by decide)⟩
                  · show Steps p.tables e below (s₁.setTop (mkF m 55 #[.val (.int p1)] [(.int (1 : Int32))])) _
                    exact retN X0 hx (t := .boolean) Bd.returns (by simp) (hb hby dX_55) hr
                  · show QP _ h0 _ s₁.heap _
                    have ev : fX p1 = (1 : Int32) := by unfold fX; rw [if_neg hc2_102, if_pos hc8_153, if_neg hc16_155, if_neg hc22_158, if_neg hc30_161, if_pos hc36_182, if_neg hc44_184, if_neg hc51_193]
                    rw [ev]
                    exact ⟨rfl, rfl, e0⟩
            · have P202 : ∀ t, Steps p.tables e below (s₁.setTop (mkF m 40 #[.val (.int p1)] [(.int (1 : Int32))])) t → Steps p.tables e below (s₁.setTop (entryFrame m #[(.int p1)] 1)) t := fun t kt => P181 t (by
                show Steps p.tables e below (s₁.setTop (mkF m 36 #[.val (.int p1)] [(.int (31 : Int32)), (.int p1)])) _
                refine XS.icmpNo X0.here hx rfl (hb hby dX_36) rfl (flt hc36_182).2.2.1 ?_
                show Steps p.tables e below (s₁.setTop (mkF m 39 #[.val (.int p1)] [])) _
                refine XS.iconst X0.here hx rfl (hb hby dX_39) ?_
                exact kt)
              obtain ⟨fs, hr, hrun, hended, hW, hsame⟩ := X0.leave (v := some (.int (1 : Int32))) (fun h => by rw [Bd.returns] at h; cases h) (hlocks := hlk)
              refine ⟨_, _, P202 _ ?_, hrun, hended, _, _, rfl, ?_, ⟨_, rfl⟩, hW, hsame.mono (by decide) (by decide)⟩
              · show Steps p.tables e below (s₁.setTop (mkF m 40 #[.val (.int p1)] [(.int (1 : Int32))])) _
                exact retN X0 hx (t := .boolean) Bd.returns (by simp) (hb hby dX_40) hr
              · show QP _ h0 _ s₁.heap _
                have ev : fX p1 = (1 : Int32) := by unfold fX; rw [if_neg hc2_102, if_pos hc8_153, if_neg hc16_155, if_neg hc22_158, if_neg hc30_161, if_neg hc36_182]
                rw [ev]
                exact ⟨rfl, rfl, e0⟩
    · have P203 : ∀ t, Steps p.tables e below (s₁.setTop (mkF m 12 #[.val (.int p1)] [(.int (1 : Int32))])) t → Steps p.tables e below (s₁.setTop (entryFrame m #[(.int p1)] 1)) t := fun t kt => P152 t (by
        show Steps p.tables e below (s₁.setTop (mkF m 8 #[.val (.int p1)] [(.int (8 : Int32)), (.int p1)])) _
        refine XS.icmpNo X0.here hx rfl (hb hby dX_8) rfl (flt hc8_153).2.2.1 ?_
        show Steps p.tables e below (s₁.setTop (mkF m 11 #[.val (.int p1)] [])) _
        refine XS.iconst X0.here hx rfl (hb hby dX_11) ?_
        exact kt)
      obtain ⟨fs, hr, hrun, hended, hW, hsame⟩ := X0.leave (v := some (.int (1 : Int32))) (fun h => by rw [Bd.returns] at h; cases h) (hlocks := hlk)
      refine ⟨_, _, P203 _ ?_, hrun, hended, _, _, rfl, ?_, ⟨_, rfl⟩, hW, hsame.mono (by decide) (by decide)⟩
      · show Steps p.tables e below (s₁.setTop (mkF m 12 #[.val (.int p1)] [(.int (1 : Int32))])) _
        exact retN X0 hx (t := .boolean) Bd.returns (by simp) (hb hby dX_12) hr
      · show QP _ h0 _ s₁.heap _
        have ev : fX p1 = (1 : Int32) := by unfold fX; rw [if_neg hc2_102, if_neg hc8_153]
        rw [ev]
        exact ⟨rfl, rfl, e0⟩
theorem ef_0 (m : MethodId) (x0 : Int32) (x1 : Int32) : entryFrame m #[(.int x0), (.int x1)] maxLocals = mkF m 0 #[.val (.int x0), .val (.int x1), .unset, .unset, .unset, .unset] [] := by first | (simp [entryFrame, mkF, argsToLocals, Value.category, maxLocals]; done) | rfl
set_option maxRecDepth 65536 in
set_option maxHeartbeats 40000000 in
theorem rm0 (l : Launch) (Z : State) (a0 : Array Value) (hw : ∀ d ∈ tables_1, d.before a0 Z = true) (ws : List Jvm.Cond) (p1 : Int32) (p2 : Int32) (w0 : Addr) (w1 : Addr) (h0 : Heap) (S0 : Sta Z h0 "com/example/libxform/libxform/output/XmlVersion" "V1_0" "Lcom/example/libxform/libxform/output/XmlVersion;" (.ref w0)) (S1 : Sta Z h0 "com/example/libxform/libxform/output/XmlVersion" "V1_1" "Lcom/example/libxform/libxform/output/XmlVersion;" (.ref w1)) (E0 : Exa Z h0 w0 "com/example/libxform/libxform/output/XmlVersion") (E1 : Exa Z h0 w1 "com/example/libxform/libxform/output/XmlVersion") :
    MetFree l x (head1 (Jvm.Cond.code x code maxLocals ret :: ws) room_1) (fun a U => a = #[(.int p1), (.int p2)] ∧ Z.Warmed39 U.vm ∧ U.heap = h0) (fun _ _ _ _ _ => True) (fun _ U o U' => ∃ v L, o = .returned v ∧ QP (some (.int (1 : Int32))) h0 v U'.heap L ∧ FrameEnd U o U' L room_1.cells room_1.slots) := by
  refine MetFree.of_bodySF (plainFor_of_name (by first | (simp [plainName, overriddenIn]; done) | decide +kernel)) hisR ?_
  intro p e s m args below meth c s₁ Bd hml0 hP hK
  obtain ⟨rfl, hZ, hh⟩ := hP
  have hx := Bd.exec
  have hby := Bd.bytes
  have hml : c.maxLocals = 6 := hml0
  have hown : s.vm.findClass "com/example/libxform/libxform/output/XmlVersionRestrictsPinLaw" = some m.cls := findClass_of_methodNamed Bd.named
  have hnm := (name_of_methodNamed Bd.named Bd.method).1
  have hlk : meth.locks = false := BodyLoose.notSynchronized Bd
  have X0 : Stand p l e room_1 s m #[(.int p1), (.int p2)] below meth c s₁ [] 0 0 := Stand.of_body Bd
  have e0 : s₁.heap = h0 := by rw [← hh, Bd.state]; rfl
  have P0 : ∀ t, Steps p.tables e below (s₁.setTop (mkF m 0 #[.val (.int p1), .val (.int p2), .unset, .unset, .unset, .unset] [])) t → Steps p.tables e below (s₁.setTop (entryFrame m #[(.int p1), (.int p2)] maxLocals)) t := fun t kt => castTop (ef_0 m p1 p2) kt
  have P101 : ∀ t, Steps p.tables e below (s₁.setTop (mkF m 3 #[.val (.int p1), .val (.int p2), .unset, .unset, .unset, .unset] [(.int (p1 &&& (1 : Int32)))])) t → Steps p.tables e below (s₁.setTop (entryFrame m #[(.int p1), (.int p2)] maxLocals)) t := fun t kt => P0 t (by
    show Steps p.tables e below (s₁.setTop (mkF m 0 #[.val (.int p1), .val (.int p2), .unset, .unset, .unset, .unset] [])) _
    refine XS.iloadN X0.here hx rfl (hb hby at_0) rfl ?_
    show Steps p.tables e below (s₁.setTop (mkF m 1 #[.val (.int p1), .val (.int p2), .unset, .unset, .unset, .unset] [(.int p1)])) _
    refine XS.iconst X0.here hx rfl (hb hby at_1) ?_
    show Steps p.tables e below (s₁.setTop (mkF m 2 #[.val (.int p1), .val (.int p2), .unset, .unset, .unset, .unset] [(.int (1 : Int32)), (.int p1)])) _
    refine XS.iand X0.here hx rfl (hb hby at_2) rfl ?_
    exact kt)
  by_cases hc3_102 : (p1 &&& (1 : Int32)) = (0 : Int32)
  · obtain ⟨T103, X103, e103, st103⟩ := getS2 X0 hx hZ hown (host := "") (Or.inl (hw _ (List.mem_of_getElem? (i := 0) rfl))) Via.refl e0 S0 (g := (mkF m 6 #[.val (.int p1), .val (.int p2), .unset, .unset, .unset, .unset] [])) rfl (hb hby at_6)
    have P104 : ∀ t, Steps p.tables e below (T103.setTop (mkF m 23 #[.val (.int p1), .val (.int p2), .val (.ref w0), .val (.int (((p1.toUInt32 >>> ((1 : Int32) &&& 31).toUInt32).toInt32) &&& (3 : Int32))), .unset, .unset] [(.int (((p1.toUInt32 >>> ((1 : Int32) &&& 31).toUInt32).toInt32) &&& (3 : Int32)))])) t → Steps p.tables e below (s₁.setTop (entryFrame m #[(.int p1), (.int p2)] maxLocals)) t := fun t kt => P101 t (by
      show Steps p.tables e below (s₁.setTop (mkF m 3 #[.val (.int p1), .val (.int p2), .unset, .unset, .unset, .unset] [(.int (p1 &&& (1 : Int32)))])) _
      refine XS.ifNo X0.here hx rfl (hb hby at_3) rfl ((if0 _ _).trans (teq hc3_102).2) ?_
      show Steps p.tables e below (s₁.setTop (mkF m 6 #[.val (.int p1), .val (.int p2), .unset, .unset, .unset, .unset] [])) _
      refine st103 _ ?_
      show Steps p.tables e below (T103.setTop (mkF m 9 #[.val (.int p1), .val (.int p2), .unset, .unset, .unset, .unset] [(.ref w0)])) _
      refine XS.goto X103.here hx rfl (pc0 := 9) (pc' := 15) rfl (hb hby at_9) (by decide) (by decide) ?_
      show Steps p.tables e below (T103.setTop (mkF m 15 #[.val (.int p1), .val (.int p2), .unset, .unset, .unset, .unset] [(.ref w0)])) _
      refine XS.astoreN X103.here hx rfl (hb hby at_15) rfl rfl (l' := #[.val (.int p1), .val (.int p2), .val (.ref w0), .unset, .unset, .unset]) rfl ?_
      show Steps p.tables e below (T103.setTop (mkF m 16 #[.val (.int p1), .val (.int p2), .val (.ref w0), .unset, .unset, .unset] [])) _
      refine XS.iloadN X103.here hx rfl (hb hby at_16) rfl ?_
      show Steps p.tables e below (T103.setTop (mkF m 17 #[.val (.int p1), .val (.int p2), .val (.ref w0), .unset, .unset, .unset] [(.int p1)])) _
      refine XS.iconst X103.here hx rfl (hb hby at_17) ?_
      show Steps p.tables e below (T103.setTop (mkF m 18 #[.val (.int p1), .val (.int p2), .val (.ref w0), .unset, .unset, .unset] [(.int (1 : Int32)), (.int p1)])) _
      refine XS.iushr X103.here hx rfl (hb hby at_18) rfl ?_
      show Steps p.tables e below (T103.setTop (mkF m 19 #[.val (.int p1), .val (.int p2), .val (.ref w0), .unset, .unset, .unset] [(.int ((p1.toUInt32 >>> ((1 : Int32) &&& 31).toUInt32).toInt32))])) _
      refine XS.iconst X103.here hx rfl (hb hby at_19) ?_
      show Steps p.tables e below (T103.setTop (mkF m 20 #[.val (.int p1), .val (.int p2), .val (.ref w0), .unset, .unset, .unset] [(.int (3 : Int32)), (.int ((p1.toUInt32 >>> ((1 : Int32) &&& 31).toUInt32).toInt32))])) _
      refine XS.iand X103.here hx rfl (hb hby at_20) rfl ?_
      show Steps p.tables e below (T103.setTop (mkF m 21 #[.val (.int p1), .val (.int p2), .val (.ref w0), .unset, .unset, .unset] [(.int (((p1.toUInt32 >>> ((1 : Int32) &&& 31).toUInt32).toInt32) &&& (3 : Int32)))])) _
      refine XS.istoreN X103.here hx rfl (hb hby at_21) rfl (l' := #[.val (.int p1), .val (.int p2), .val (.ref w0), .val (.int (((p1.toUInt32 >>> ((1 : Int32) &&& 31).toUInt32).toInt32) &&& (3 : Int32))), .unset, .unset]) rfl ?_
      show Steps p.tables e below (T103.setTop (mkF m 22 #[.val (.int p1), .val (.int p2), .val (.ref w0), .val (.int (((p1.toUInt32 >>> ((1 : Int32) &&& 31).toUInt32).toInt32) &&& (3 : Int32))), .unset, .unset] [])) _
      refine XS.iloadN X103.here hx rfl (hb hby at_22) rfl ?_
      exact kt)
    obtain ⟨cc, hcc⟩ : ∃ z : Int32, z = (if (((p1.toUInt32 >>> ((1 : Int32) &&& 31).toUInt32).toInt32) &&& (3 : Int32)) = (0 : Int32) then (p2 &&& (255 : Int32)) else (if (((p1.toUInt32 >>> ((1 : Int32) &&& 31).toUInt32).toInt32) &&& (3 : Int32)) = (1 : Int32) then (p2 &&& (65535 : Int32)) else (if (((p1.toUInt32 >>> ((1 : Int32) &&& 31).toUInt32).toInt32) &&& (3 : Int32)) = (2 : Int32) then (p2 &&& (2097151 : Int32)) else p2))) := ⟨_, rfl⟩
    have J105 : ∀ t, Steps p.tables e below (T103.setTop (mkF m 67 #[.val (.int p1), .val (.int p2), .val (.ref w0), .val (.int (((p1.toUInt32 >>> ((1 : Int32) &&& 31).toUInt32).toInt32) &&& (3 : Int32))), .val (.int cc), .unset] [])) t → Steps p.tables e below (T103.setTop (mkF m 23 #[.val (.int p1), .val (.int p2), .val (.ref w0), .val (.int (((p1.toUInt32 >>> ((1 : Int32) &&& 31).toUInt32).toInt32) &&& (3 : Int32))), .unset, .unset] [(.int (((p1.toUInt32 >>> ((1 : Int32) &&& 31).toUInt32).toInt32) &&& (3 : Int32)))])) t := by
      intro t kt
      by_cases hr105_23_0 : (((p1.toUInt32 >>> ((1 : Int32) &&& 31).toUInt32).toInt32) &&& (3 : Int32)) = (0 : Int32)
      · have evcc : cc = (p2 &&& (255 : Int32)) := by rw [hcc, if_pos hr105_23_0]
        rw [evcc] at kt
        show Steps p.tables e below (T103.setTop (mkF m 23 #[.val (.int p1), .val (.int p2), .val (.ref w0), .val (.int (((p1.toUInt32 >>> ((1 : Int32) &&& 31).toUInt32).toInt32) &&& (3 : Int32))), .unset, .unset] [(.int (((p1.toUInt32 >>> ((1 : Int32) &&& 31).toUInt32).toInt32) &&& (3 : Int32)))])) _
        refine XS.ifNo X103.here hx rfl (hb hby at_23) rfl ((if0 _ _).trans (teq hr105_23_0).2) ?_
        show Steps p.tables e below (T103.setTop (mkF m 26 #[.val (.int p1), .val (.int p2), .val (.ref w0), .val (.int (((p1.toUInt32 >>> ((1 : Int32) &&& 31).toUInt32).toInt32) &&& (3 : Int32))), .unset, .unset] [])) _
        refine XS.iloadN X103.here hx rfl (hb hby at_26) rfl ?_
        show Steps p.tables e below (T103.setTop (mkF m 27 #[.val (.int p1), .val (.int p2), .val (.ref w0), .val (.int (((p1.toUInt32 >>> ((1 : Int32) &&& 31).toUInt32).toInt32) &&& (3 : Int32))), .unset, .unset] [(.int p2)])) _
        refine XS.sipush X103.here hx rfl (hb hby at_27) ?_
        show Steps p.tables e below (T103.setTop (mkF m 30 #[.val (.int p1), .val (.int p2), .val (.ref w0), .val (.int (((p1.toUInt32 >>> ((1 : Int32) &&& 31).toUInt32).toInt32) &&& (3 : Int32))), .unset, .unset] [(.int (255 : Int32)), (.int p2)])) _
        refine XS.iand X103.here hx rfl (hb hby at_30) rfl ?_
        show Steps p.tables e below (T103.setTop (mkF m 31 #[.val (.int p1), .val (.int p2), .val (.ref w0), .val (.int (((p1.toUInt32 >>> ((1 : Int32) &&& 31).toUInt32).toInt32) &&& (3 : Int32))), .unset, .unset] [(.int (p2 &&& (255 : Int32)))])) _
        refine XS.istore X103.here hx rfl (hb hby at_31) rfl (l' := #[.val (.int p1), .val (.int p2), .val (.ref w0), .val (.int (((p1.toUInt32 >>> ((1 : Int32) &&& 31).toUInt32).toInt32) &&& (3 : Int32))), .val (.int (p2 &&& (255 : Int32))), .unset]) rfl ?_
        show Steps p.tables e below (T103.setTop (mkF m 33 #[.val (.int p1), .val (.int p2), .val (.ref w0), .val (.int (((p1.toUInt32 >>> ((1 : Int32) &&& 31).toUInt32).toInt32) &&& (3 : Int32))), .val (.int (p2 &&& (255 : Int32))), .unset] [])) _
        refine XS.goto X103.here hx rfl (pc0 := 33) (pc' := 67) rfl (hb hby at_33) (by decide) (by decide) ?_
        exact kt
      · show Steps p.tables e below (T103.setTop (mkF m 23 #[.val (.int p1), .val (.int p2), .val (.ref w0), .val (.int (((p1.toUInt32 >>> ((1 : Int32) &&& 31).toUInt32).toInt32) &&& (3 : Int32))), .unset, .unset] [(.int (((p1.toUInt32 >>> ((1 : Int32) &&& 31).toUInt32).toInt32) &&& (3 : Int32)))])) _
        refine XS.ifYes X103.here hx rfl (pc0 := 23) (pc' := 36) rfl (hb hby at_23) rfl ((if0 _ _).trans (feq hr105_23_0).2) (by decide) (by decide) ?_
        show Steps p.tables e below (T103.setTop (mkF m 36 #[.val (.int p1), .val (.int p2), .val (.ref w0), .val (.int (((p1.toUInt32 >>> ((1 : Int32) &&& 31).toUInt32).toInt32) &&& (3 : Int32))), .unset, .unset] [])) _
        refine XS.iloadN X103.here hx rfl (hb hby at_36) rfl ?_
        show Steps p.tables e below (T103.setTop (mkF m 37 #[.val (.int p1), .val (.int p2), .val (.ref w0), .val (.int (((p1.toUInt32 >>> ((1 : Int32) &&& 31).toUInt32).toInt32) &&& (3 : Int32))), .unset, .unset] [(.int (((p1.toUInt32 >>> ((1 : Int32) &&& 31).toUInt32).toInt32) &&& (3 : Int32)))])) _
        refine XS.iconst X103.here hx rfl (hb hby at_37) ?_
        by_cases hr105_38_1 : (((p1.toUInt32 >>> ((1 : Int32) &&& 31).toUInt32).toInt32) &&& (3 : Int32)) = (1 : Int32)
        · have evcc : cc = (p2 &&& (65535 : Int32)) := by rw [hcc, if_neg hr105_23_0, if_pos hr105_38_1]
          rw [evcc] at kt
          show Steps p.tables e below (T103.setTop (mkF m 38 #[.val (.int p1), .val (.int p2), .val (.ref w0), .val (.int (((p1.toUInt32 >>> ((1 : Int32) &&& 31).toUInt32).toInt32) &&& (3 : Int32))), .unset, .unset] [(.int (1 : Int32)), (.int (((p1.toUInt32 >>> ((1 : Int32) &&& 31).toUInt32).toInt32) &&& (3 : Int32)))])) _
          refine XS.icmpNo X103.here hx rfl (hb hby at_38) rfl (teq hr105_38_1).2 ?_
          show Steps p.tables e below (T103.setTop (mkF m 41 #[.val (.int p1), .val (.int p2), .val (.ref w0), .val (.int (((p1.toUInt32 >>> ((1 : Int32) &&& 31).toUInt32).toInt32) &&& (3 : Int32))), .unset, .unset] [])) _
          refine XS.iloadN X103.here hx rfl (hb hby at_41) rfl ?_
          show Steps p.tables e below (T103.setTop (mkF m 42 #[.val (.int p1), .val (.int p2), .val (.ref w0), .val (.int (((p1.toUInt32 >>> ((1 : Int32) &&& 31).toUInt32).toInt32) &&& (3 : Int32))), .unset, .unset] [(.int p2)])) _
          refine X103.ldcInt hx hown (mvT hZ (hw _ (List.mem_of_getElem? (i := 20) rfl))) (g := (mkF m 42 #[.val (.int p1), .val (.int p2), .val (.ref w0), .val (.int (((p1.toUInt32 >>> ((1 : Int32) &&& 31).toUInt32).toInt32) &&& (3 : Int32))), .unset, .unset] [(.int p2)])) rfl (hb hby at_42) _ ?_
          show Steps p.tables e below (T103.setTop (mkF m 44 #[.val (.int p1), .val (.int p2), .val (.ref w0), .val (.int (((p1.toUInt32 >>> ((1 : Int32) &&& 31).toUInt32).toInt32) &&& (3 : Int32))), .unset, .unset] [(.int (65535 : Int32)), (.int p2)])) _
          refine XS.iand X103.here hx rfl (hb hby at_44) rfl ?_
          show Steps p.tables e below (T103.setTop (mkF m 45 #[.val (.int p1), .val (.int p2), .val (.ref w0), .val (.int (((p1.toUInt32 >>> ((1 : Int32) &&& 31).toUInt32).toInt32) &&& (3 : Int32))), .unset, .unset] [(.int (p2 &&& (65535 : Int32)))])) _
          refine XS.istore X103.here hx rfl (hb hby at_45) rfl (l' := #[.val (.int p1), .val (.int p2), .val (.ref w0), .val (.int (((p1.toUInt32 >>> ((1 : Int32) &&& 31).toUInt32).toInt32) &&& (3 : Int32))), .val (.int (p2 &&& (65535 : Int32))), .unset]) rfl ?_
          show Steps p.tables e below (T103.setTop (mkF m 47 #[.val (.int p1), .val (.int p2), .val (.ref w0), .val (.int (((p1.toUInt32 >>> ((1 : Int32) &&& 31).toUInt32).toInt32) &&& (3 : Int32))), .val (.int (p2 &&& (65535 : Int32))), .unset] [])) _
          refine XS.goto X103.here hx rfl (pc0 := 47) (pc' := 67) rfl (hb hby at_47) (by decide) (by decide) ?_
          exact kt
        · show Steps p.tables e below (T103.setTop (mkF m 38 #[.val (.int p1), .val (.int p2), .val (.ref w0), .val (.int (((p1.toUInt32 >>> ((1 : Int32) &&& 31).toUInt32).toInt32) &&& (3 : Int32))), .unset, .unset] [(.int (1 : Int32)), (.int (((p1.toUInt32 >>> ((1 : Int32) &&& 31).toUInt32).toInt32) &&& (3 : Int32)))])) _
          refine XS.icmpYes X103.here hx rfl (pc0 := 38) (pc' := 50) rfl (hb hby at_38) rfl (feq hr105_38_1).2 (by decide) (by decide) ?_
          show Steps p.tables e below (T103.setTop (mkF m 50 #[.val (.int p1), .val (.int p2), .val (.ref w0), .val (.int (((p1.toUInt32 >>> ((1 : Int32) &&& 31).toUInt32).toInt32) &&& (3 : Int32))), .unset, .unset] [])) _
          refine XS.iloadN X103.here hx rfl (hb hby at_50) rfl ?_
          show Steps p.tables e below (T103.setTop (mkF m 51 #[.val (.int p1), .val (.int p2), .val (.ref w0), .val (.int (((p1.toUInt32 >>> ((1 : Int32) &&& 31).toUInt32).toInt32) &&& (3 : Int32))), .unset, .unset] [(.int (((p1.toUInt32 >>> ((1 : Int32) &&& 31).toUInt32).toInt32) &&& (3 : Int32)))])) _
          refine XS.iconst X103.here hx rfl (hb hby at_51) ?_
          by_cases hr105_52_2 : (((p1.toUInt32 >>> ((1 : Int32) &&& 31).toUInt32).toInt32) &&& (3 : Int32)) = (2 : Int32)
          · have evcc : cc = (p2 &&& (2097151 : Int32)) := by rw [hcc, if_neg hr105_23_0, if_neg hr105_38_1, if_pos hr105_52_2]
            rw [evcc] at kt
            show Steps p.tables e below (T103.setTop (mkF m 52 #[.val (.int p1), .val (.int p2), .val (.ref w0), .val (.int (((p1.toUInt32 >>> ((1 : Int32) &&& 31).toUInt32).toInt32) &&& (3 : Int32))), .unset, .unset] [(.int (2 : Int32)), (.int (((p1.toUInt32 >>> ((1 : Int32) &&& 31).toUInt32).toInt32) &&& (3 : Int32)))])) _
            refine XS.icmpNo X103.here hx rfl (hb hby at_52) rfl (teq hr105_52_2).2 ?_
            show Steps p.tables e below (T103.setTop (mkF m 55 #[.val (.int p1), .val (.int p2), .val (.ref w0), .val (.int (((p1.toUInt32 >>> ((1 : Int32) &&& 31).toUInt32).toInt32) &&& (3 : Int32))), .unset, .unset] [])) _
            refine XS.iloadN X103.here hx rfl (hb hby at_55) rfl ?_
            show Steps p.tables e below (T103.setTop (mkF m 56 #[.val (.int p1), .val (.int p2), .val (.ref w0), .val (.int (((p1.toUInt32 >>> ((1 : Int32) &&& 31).toUInt32).toInt32) &&& (3 : Int32))), .unset, .unset] [(.int p2)])) _
            refine X103.ldcInt hx hown (mvT hZ (hw _ (List.mem_of_getElem? (i := 9) rfl))) (g := (mkF m 56 #[.val (.int p1), .val (.int p2), .val (.ref w0), .val (.int (((p1.toUInt32 >>> ((1 : Int32) &&& 31).toUInt32).toInt32) &&& (3 : Int32))), .unset, .unset] [(.int p2)])) rfl (hb hby at_56) _ ?_
            show Steps p.tables e below (T103.setTop (mkF m 58 #[.val (.int p1), .val (.int p2), .val (.ref w0), .val (.int (((p1.toUInt32 >>> ((1 : Int32) &&& 31).toUInt32).toInt32) &&& (3 : Int32))), .unset, .unset] [(.int (2097151 : Int32)), (.int p2)])) _
            refine XS.iand X103.here hx rfl (hb hby at_58) rfl ?_
            show Steps p.tables e below (T103.setTop (mkF m 59 #[.val (.int p1), .val (.int p2), .val (.ref w0), .val (.int (((p1.toUInt32 >>> ((1 : Int32) &&& 31).toUInt32).toInt32) &&& (3 : Int32))), .unset, .unset] [(.int (p2 &&& (2097151 : Int32)))])) _
            refine XS.istore X103.here hx rfl (hb hby at_59) rfl (l' := #[.val (.int p1), .val (.int p2), .val (.ref w0), .val (.int (((p1.toUInt32 >>> ((1 : Int32) &&& 31).toUInt32).toInt32) &&& (3 : Int32))), .val (.int (p2 &&& (2097151 : Int32))), .unset]) rfl ?_
            show Steps p.tables e below (T103.setTop (mkF m 61 #[.val (.int p1), .val (.int p2), .val (.ref w0), .val (.int (((p1.toUInt32 >>> ((1 : Int32) &&& 31).toUInt32).toInt32) &&& (3 : Int32))), .val (.int (p2 &&& (2097151 : Int32))), .unset] [])) _
            refine XS.goto X103.here hx rfl (pc0 := 61) (pc' := 67) rfl (hb hby at_61) (by decide) (by decide) ?_
            exact kt
          · have evcc : cc = p2 := by rw [hcc, if_neg hr105_23_0, if_neg hr105_38_1, if_neg hr105_52_2]
            rw [evcc] at kt
            show Steps p.tables e below (T103.setTop (mkF m 52 #[.val (.int p1), .val (.int p2), .val (.ref w0), .val (.int (((p1.toUInt32 >>> ((1 : Int32) &&& 31).toUInt32).toInt32) &&& (3 : Int32))), .unset, .unset] [(.int (2 : Int32)), (.int (((p1.toUInt32 >>> ((1 : Int32) &&& 31).toUInt32).toInt32) &&& (3 : Int32)))])) _
            refine XS.icmpYes X103.here hx rfl (pc0 := 52) (pc' := 64) rfl (hb hby at_52) rfl (feq hr105_52_2).2 (by decide) (by decide) ?_
            show Steps p.tables e below (T103.setTop (mkF m 64 #[.val (.int p1), .val (.int p2), .val (.ref w0), .val (.int (((p1.toUInt32 >>> ((1 : Int32) &&& 31).toUInt32).toInt32) &&& (3 : Int32))), .unset, .unset] [])) _
            refine XS.iloadN X103.here hx rfl (hb hby at_64) rfl ?_
            show Steps p.tables e below (T103.setTop (mkF m 65 #[.val (.int p1), .val (.int p2), .val (.ref w0), .val (.int (((p1.toUInt32 >>> ((1 : Int32) &&& 31).toUInt32).toInt32) &&& (3 : Int32))), .unset, .unset] [(.int p2)])) _
            refine XS.istore X103.here hx rfl (hb hby at_65) rfl (l' := #[.val (.int p1), .val (.int p2), .val (.ref w0), .val (.int (((p1.toUInt32 >>> ((1 : Int32) &&& 31).toUInt32).toInt32) &&& (3 : Int32))), .val (.int p2), .unset]) rfl ?_
            exact kt
    have P106 : ∀ t, Steps p.tables e below (T103.setTop (mkF m 67 #[.val (.int p1), .val (.int p2), .val (.ref w0), .val (.int (((p1.toUInt32 >>> ((1 : Int32) &&& 31).toUInt32).toInt32) &&& (3 : Int32))), .val (.int cc), .unset] [])) t → Steps p.tables e below (s₁.setTop (entryFrame m #[(.int p1), (.int p2)] maxLocals)) t := fun t kt => P104 t (J105 t kt)
    obtain ⟨cq107, kq107, q107a, q107b, q107c⟩ := isOf hZ e103 E0
    obtain ⟨_, _, ⟨T107, L107, k107, n107⟩, -, X107, ⟨Lc107, hQ107, l107, y107, z107⟩, st107⟩ := X103.virtualBack hx (y := (⟨"com/example/libxform/libxform/output/XmlVersion", "restricts", "(I)Z"⟩ : MethodName)) (z := (⟨"com/example/libxform/libxform/output/XmlVersion", "restricts", "(I)Z"⟩ : MethodName)) hown (mvT hZ (hw _ (List.mem_of_getElem? (i := 3) rfl))) (mvT hZ (hw _ (List.mem_of_getElem? (i := 4) rfl))) (notFace_of_selects (args := #[]) (mvT hZ (hw _ (List.mem_of_getElem? (i := 6) rfl)))) (mvT hZ (hw _ (List.mem_of_getElem? (i := 6) rfl))) (mvT hZ (hw _ (List.mem_of_getElem? (i := 5) rfl))) (by decide) (backOf (W := 0)  (rmR l Z a0 hw [] w0 cc w0 h0 S0) hZ (hw _ (List.mem_of_getElem? (i := 7) rfl)) (hw _ (List.mem_of_getElem? (i := 1) rfl)) (by decide) (by decide)) q107a q107c (g := (mkF m 70 #[.val (.int p1), .val (.int p2), .val (.ref w0), .val (.int (((p1.toUInt32 >>> ((1 : Int32) &&& 31).toUInt32).toInt32) &&& (3 : Int32))), .val (.int cc), .unset] [(.int cc), (.ref w0)])) rfl (by rw [hml]; rfl) (Steps.refl _) (argsL := [(.int cc)]) (rest := []) (lenOf pd__I_Z rfl) rfl (by show 2 * 0 + _ ≤ _; exact Nat.le_of_eq rfl) (hb hby at_70) (fun _ _ => ⟨rfl, e103, (by decide : 0 + 0 ≤ _), (by decide : 0 + 0 ≤ _)⟩)
    dsimp only [Pt.U, Pt.locs, Pt.cells, Pt.slots] at X107 l107 y107 z107 st107 hQ107
    subst l107 y107 z107
    obtain ⟨rfl, rfl, e107⟩ := hQ107
    have X107 : Stand p l e room_1 s m #[(.int p1), (.int p2)] below meth c T107 [] 0 0 := X107
    obtain ⟨T108, X108, e108, st108⟩ := getS2 X107 hx hZ hown (host := "") (Or.inl (hw _ (List.mem_of_getElem? (i := 0) rfl))) Via.refl e107 S0 (g := (mkF m 76 #[.val (.int p1), .val (.int p2), .val (.ref w0), .val (.int (((p1.toUInt32 >>> ((1 : Int32) &&& 31).toUInt32).toInt32) &&& (3 : Int32))), .val (.int cc), .val (.int (rs w0 w0 cc))] [(.ref w0)])) rfl (hb hby at_76)
    have P109 : ∀ t, Steps p.tables e below (T108.setTop (mkF m 92 #[.val (.int p1), .val (.int p2), .val (.ref w0), .val (.int (((p1.toUInt32 >>> ((1 : Int32) &&& 31).toUInt32).toInt32) &&& (3 : Int32))), .val (.int cc), .val (.int (rs w0 w0 cc))] [(.int (1 : Int32))])) t → Steps p.tables e below (s₁.setTop (entryFrame m #[(.int p1), (.int p2)] maxLocals)) t := fun t kt => P106 t (by
      show Steps p.tables e below (T103.setTop (mkF m 67 #[.val (.int p1), .val (.int p2), .val (.ref w0), .val (.int (((p1.toUInt32 >>> ((1 : Int32) &&& 31).toUInt32).toInt32) &&& (3 : Int32))), .val (.int cc), .unset] [])) _
      refine XS.aloadN X103.here hx rfl (hb hby at_67) rfl rfl ?_
      show Steps p.tables e below (T103.setTop (mkF m 68 #[.val (.int p1), .val (.int p2), .val (.ref w0), .val (.int (((p1.toUInt32 >>> ((1 : Int32) &&& 31).toUInt32).toInt32) &&& (3 : Int32))), .val (.int cc), .unset] [(.ref w0)])) _
      refine XS.iload X103.here hx rfl (hb hby at_68) rfl ?_
      show Steps p.tables e below (T103.setTop (mkF m 70 #[.val (.int p1), .val (.int p2), .val (.ref w0), .val (.int (((p1.toUInt32 >>> ((1 : Int32) &&& 31).toUInt32).toInt32) &&& (3 : Int32))), .val (.int cc), .unset] [(.int cc), (.ref w0)])) _
      refine st107.trans ?_
      show Steps p.tables e below (T107.setTop (mkF m 73 #[.val (.int p1), .val (.int p2), .val (.ref w0), .val (.int (((p1.toUInt32 >>> ((1 : Int32) &&& 31).toUInt32).toInt32) &&& (3 : Int32))), .val (.int cc), .unset] [(.int (rs w0 w0 cc))])) _
      refine XS.istore X107.here hx rfl (hb hby at_73) rfl (l' := #[.val (.int p1), .val (.int p2), .val (.ref w0), .val (.int (((p1.toUInt32 >>> ((1 : Int32) &&& 31).toUInt32).toInt32) &&& (3 : Int32))), .val (.int cc), .val (.int (rs w0 w0 cc))]) rfl ?_
      show Steps p.tables e below (T107.setTop (mkF m 75 #[.val (.int p1), .val (.int p2), .val (.ref w0), .val (.int (((p1.toUInt32 >>> ((1 : Int32) &&& 31).toUInt32).toInt32) &&& (3 : Int32))), .val (.int cc), .val (.int (rs w0 w0 cc))] [])) _
      refine XS.aloadN X107.here hx rfl (hb hby at_75) rfl rfl ?_
      show Steps p.tables e below (T107.setTop (mkF m 76 #[.val (.int p1), .val (.int p2), .val (.ref w0), .val (.int (((p1.toUInt32 >>> ((1 : Int32) &&& 31).toUInt32).toInt32) &&& (3 : Int32))), .val (.int cc), .val (.int (rs w0 w0 cc))] [(.ref w0)])) _
      refine st108 _ ?_
      show Steps p.tables e below (T108.setTop (mkF m 79 #[.val (.int p1), .val (.int p2), .val (.ref w0), .val (.int (((p1.toUInt32 >>> ((1 : Int32) &&& 31).toUInt32).toInt32) &&& (3 : Int32))), .val (.int cc), .val (.int (rs w0 w0 cc))] [(.ref w0), (.ref w0)])) _
      refine Jvm.RoadKit.acmp (g := (mkF m 79 #[.val (.int p1), .val (.int p2), .val (.ref w0), .val (.int (((p1.toUInt32 >>> ((1 : Int32) &&& 31).toUInt32).toInt32) &&& (3 : Int32))), .val (.int cc), .val (.int (rs w0 w0 cc))] [(.ref w0), (.ref w0)])) X108 hx rfl rfl rfl (pc0 := 79) (pc' := 82) (same := true) rfl (hb hby at_79) rfl (decide_eq_true (congrArg Value.ref (rfl : w0 = w0))) (by decide) (by decide) ?_
      show Steps p.tables e below (T108.setTop (mkF m 82 #[.val (.int p1), .val (.int p2), .val (.ref w0), .val (.int (((p1.toUInt32 >>> ((1 : Int32) &&& 31).toUInt32).toInt32) &&& (3 : Int32))), .val (.int cc), .val (.int (rs w0 w0 cc))] [])) _
      refine XS.iload X108.here hx rfl (hb hby at_82) rfl ?_
      show Steps p.tables e below (T108.setTop (mkF m 84 #[.val (.int p1), .val (.int p2), .val (.ref w0), .val (.int (((p1.toUInt32 >>> ((1 : Int32) &&& 31).toUInt32).toInt32) &&& (3 : Int32))), .val (.int cc), .val (.int (rs w0 w0 cc))] [(.int (rs w0 w0 cc))])) _
      refine XS.ifNo X108.here hx rfl (hb hby at_84) rfl ((if0 _ _).trans (teq (if_pos rfl : (rs w0 w0 cc) = (0 : Int32))).2) ?_
      show Steps p.tables e below (T108.setTop (mkF m 87 #[.val (.int p1), .val (.int p2), .val (.ref w0), .val (.int (((p1.toUInt32 >>> ((1 : Int32) &&& 31).toUInt32).toInt32) &&& (3 : Int32))), .val (.int cc), .val (.int (rs w0 w0 cc))] [])) _
      refine XS.iconst X108.here hx rfl (hb hby at_87) ?_
      show Steps p.tables e below (T108.setTop (mkF m 88 #[.val (.int p1), .val (.int p2), .val (.ref w0), .val (.int (((p1.toUInt32 >>> ((1 : Int32) &&& 31).toUInt32).toInt32) &&& (3 : Int32))), .val (.int cc), .val (.int (rs w0 w0 cc))] [(.int (1 : Int32))])) _
      refine XS.goto X108.here hx rfl (pc0 := 88) (pc' := 92) rfl (hb hby at_88) (by decide) (by decide) ?_
      exact kt)
    obtain ⟨fs, hr, hrun, hended, hW, hsame⟩ := X108.leave (v := some (.int (1 : Int32))) (fun h => by rw [Bd.returns] at h; cases h) (hlocks := hlk)
    refine ⟨_, _, P109 _ ?_, hrun, hended, _, _, rfl, ?_, ⟨_, rfl⟩, hW, hsame.mono (by decide) (by decide)⟩
    · show Steps p.tables e below (T108.setTop (mkF m 92 #[.val (.int p1), .val (.int p2), .val (.ref w0), .val (.int (((p1.toUInt32 >>> ((1 : Int32) &&& 31).toUInt32).toInt32) &&& (3 : Int32))), .val (.int cc), .val (.int (rs w0 w0 cc))] [(.int (1 : Int32))])) _
      exact retN X108 hx (t := .boolean) Bd.returns (by simp) (hb hby at_92) hr
    · show QP _ h0 _ T108.heap _
      exact ⟨rfl, rfl, e108⟩
  · obtain ⟨T110, X110, e110, st110⟩ := getS2 X0 hx hZ hown (host := "") (Or.inl (hw _ (List.mem_of_getElem? (i := 10) rfl))) Via.refl e0 S1 (g := (mkF m 12 #[.val (.int p1), .val (.int p2), .unset, .unset, .unset, .unset] [])) rfl (hb hby at_12)
    have P111 : ∀ t, Steps p.tables e below (T110.setTop (mkF m 23 #[.val (.int p1), .val (.int p2), .val (.ref w1), .val (.int (((p1.toUInt32 >>> ((1 : Int32) &&& 31).toUInt32).toInt32) &&& (3 : Int32))), .unset, .unset] [(.int (((p1.toUInt32 >>> ((1 : Int32) &&& 31).toUInt32).toInt32) &&& (3 : Int32)))])) t → Steps p.tables e below (s₁.setTop (entryFrame m #[(.int p1), (.int p2)] maxLocals)) t := fun t kt => P101 t (by
      show Steps p.tables e below (s₁.setTop (mkF m 3 #[.val (.int p1), .val (.int p2), .unset, .unset, .unset, .unset] [(.int (p1 &&& (1 : Int32)))])) _
      refine XS.ifYes X0.here hx rfl (pc0 := 3) (pc' := 12) rfl (hb hby at_3) rfl ((if0 _ _).trans (feq hc3_102).2) (by decide) (by decide) ?_
      show Steps p.tables e below (s₁.setTop (mkF m 12 #[.val (.int p1), .val (.int p2), .unset, .unset, .unset, .unset] [])) _
      refine st110 _ ?_
      show Steps p.tables e below (T110.setTop (mkF m 15 #[.val (.int p1), .val (.int p2), .unset, .unset, .unset, .unset] [(.ref w1)])) _
      refine XS.astoreN X110.here hx rfl (hb hby at_15) rfl rfl (l' := #[.val (.int p1), .val (.int p2), .val (.ref w1), .unset, .unset, .unset]) rfl ?_
      show Steps p.tables e below (T110.setTop (mkF m 16 #[.val (.int p1), .val (.int p2), .val (.ref w1), .unset, .unset, .unset] [])) _
      refine XS.iloadN X110.here hx rfl (hb hby at_16) rfl ?_
      show Steps p.tables e below (T110.setTop (mkF m 17 #[.val (.int p1), .val (.int p2), .val (.ref w1), .unset, .unset, .unset] [(.int p1)])) _
      refine XS.iconst X110.here hx rfl (hb hby at_17) ?_
      show Steps p.tables e below (T110.setTop (mkF m 18 #[.val (.int p1), .val (.int p2), .val (.ref w1), .unset, .unset, .unset] [(.int (1 : Int32)), (.int p1)])) _
      refine XS.iushr X110.here hx rfl (hb hby at_18) rfl ?_
      show Steps p.tables e below (T110.setTop (mkF m 19 #[.val (.int p1), .val (.int p2), .val (.ref w1), .unset, .unset, .unset] [(.int ((p1.toUInt32 >>> ((1 : Int32) &&& 31).toUInt32).toInt32))])) _
      refine XS.iconst X110.here hx rfl (hb hby at_19) ?_
      show Steps p.tables e below (T110.setTop (mkF m 20 #[.val (.int p1), .val (.int p2), .val (.ref w1), .unset, .unset, .unset] [(.int (3 : Int32)), (.int ((p1.toUInt32 >>> ((1 : Int32) &&& 31).toUInt32).toInt32))])) _
      refine XS.iand X110.here hx rfl (hb hby at_20) rfl ?_
      show Steps p.tables e below (T110.setTop (mkF m 21 #[.val (.int p1), .val (.int p2), .val (.ref w1), .unset, .unset, .unset] [(.int (((p1.toUInt32 >>> ((1 : Int32) &&& 31).toUInt32).toInt32) &&& (3 : Int32)))])) _
      refine XS.istoreN X110.here hx rfl (hb hby at_21) rfl (l' := #[.val (.int p1), .val (.int p2), .val (.ref w1), .val (.int (((p1.toUInt32 >>> ((1 : Int32) &&& 31).toUInt32).toInt32) &&& (3 : Int32))), .unset, .unset]) rfl ?_
      show Steps p.tables e below (T110.setTop (mkF m 22 #[.val (.int p1), .val (.int p2), .val (.ref w1), .val (.int (((p1.toUInt32 >>> ((1 : Int32) &&& 31).toUInt32).toInt32) &&& (3 : Int32))), .unset, .unset] [])) _
      refine XS.iloadN X110.here hx rfl (hb hby at_22) rfl ?_
      exact kt)
    obtain ⟨cc, hcc⟩ : ∃ z : Int32, z = (if (((p1.toUInt32 >>> ((1 : Int32) &&& 31).toUInt32).toInt32) &&& (3 : Int32)) = (0 : Int32) then (p2 &&& (255 : Int32)) else (if (((p1.toUInt32 >>> ((1 : Int32) &&& 31).toUInt32).toInt32) &&& (3 : Int32)) = (1 : Int32) then (p2 &&& (65535 : Int32)) else (if (((p1.toUInt32 >>> ((1 : Int32) &&& 31).toUInt32).toInt32) &&& (3 : Int32)) = (2 : Int32) then (p2 &&& (2097151 : Int32)) else p2))) := ⟨_, rfl⟩
    have J112 : ∀ t, Steps p.tables e below (T110.setTop (mkF m 67 #[.val (.int p1), .val (.int p2), .val (.ref w1), .val (.int (((p1.toUInt32 >>> ((1 : Int32) &&& 31).toUInt32).toInt32) &&& (3 : Int32))), .val (.int cc), .unset] [])) t → Steps p.tables e below (T110.setTop (mkF m 23 #[.val (.int p1), .val (.int p2), .val (.ref w1), .val (.int (((p1.toUInt32 >>> ((1 : Int32) &&& 31).toUInt32).toInt32) &&& (3 : Int32))), .unset, .unset] [(.int (((p1.toUInt32 >>> ((1 : Int32) &&& 31).toUInt32).toInt32) &&& (3 : Int32)))])) t := by
      intro t kt
      by_cases hr112_23_0 : (((p1.toUInt32 >>> ((1 : Int32) &&& 31).toUInt32).toInt32) &&& (3 : Int32)) = (0 : Int32)
      · have evcc : cc = (p2 &&& (255 : Int32)) := by rw [hcc, if_pos hr112_23_0]
        rw [evcc] at kt
        show Steps p.tables e below (T110.setTop (mkF m 23 #[.val (.int p1), .val (.int p2), .val (.ref w1), .val (.int (((p1.toUInt32 >>> ((1 : Int32) &&& 31).toUInt32).toInt32) &&& (3 : Int32))), .unset, .unset] [(.int (((p1.toUInt32 >>> ((1 : Int32) &&& 31).toUInt32).toInt32) &&& (3 : Int32)))])) _
        refine XS.ifNo X110.here hx rfl (hb hby at_23) rfl ((if0 _ _).trans (teq hr112_23_0).2) ?_
        show Steps p.tables e below (T110.setTop (mkF m 26 #[.val (.int p1), .val (.int p2), .val (.ref w1), .val (.int (((p1.toUInt32 >>> ((1 : Int32) &&& 31).toUInt32).toInt32) &&& (3 : Int32))), .unset, .unset] [])) _
        refine XS.iloadN X110.here hx rfl (hb hby at_26) rfl ?_
        show Steps p.tables e below (T110.setTop (mkF m 27 #[.val (.int p1), .val (.int p2), .val (.ref w1), .val (.int (((p1.toUInt32 >>> ((1 : Int32) &&& 31).toUInt32).toInt32) &&& (3 : Int32))), .unset, .unset] [(.int p2)])) _
        refine XS.sipush X110.here hx rfl (hb hby at_27) ?_
        show Steps p.tables e below (T110.setTop (mkF m 30 #[.val (.int p1), .val (.int p2), .val (.ref w1), .val (.int (((p1.toUInt32 >>> ((1 : Int32) &&& 31).toUInt32).toInt32) &&& (3 : Int32))), .unset, .unset] [(.int (255 : Int32)), (.int p2)])) _
        refine XS.iand X110.here hx rfl (hb hby at_30) rfl ?_
        show Steps p.tables e below (T110.setTop (mkF m 31 #[.val (.int p1), .val (.int p2), .val (.ref w1), .val (.int (((p1.toUInt32 >>> ((1 : Int32) &&& 31).toUInt32).toInt32) &&& (3 : Int32))), .unset, .unset] [(.int (p2 &&& (255 : Int32)))])) _
        refine XS.istore X110.here hx rfl (hb hby at_31) rfl (l' := #[.val (.int p1), .val (.int p2), .val (.ref w1), .val (.int (((p1.toUInt32 >>> ((1 : Int32) &&& 31).toUInt32).toInt32) &&& (3 : Int32))), .val (.int (p2 &&& (255 : Int32))), .unset]) rfl ?_
        show Steps p.tables e below (T110.setTop (mkF m 33 #[.val (.int p1), .val (.int p2), .val (.ref w1), .val (.int (((p1.toUInt32 >>> ((1 : Int32) &&& 31).toUInt32).toInt32) &&& (3 : Int32))), .val (.int (p2 &&& (255 : Int32))), .unset] [])) _
        refine XS.goto X110.here hx rfl (pc0 := 33) (pc' := 67) rfl (hb hby at_33) (by decide) (by decide) ?_
        exact kt
      · show Steps p.tables e below (T110.setTop (mkF m 23 #[.val (.int p1), .val (.int p2), .val (.ref w1), .val (.int (((p1.toUInt32 >>> ((1 : Int32) &&& 31).toUInt32).toInt32) &&& (3 : Int32))), .unset, .unset] [(.int (((p1.toUInt32 >>> ((1 : Int32) &&& 31).toUInt32).toInt32) &&& (3 : Int32)))])) _
        refine XS.ifYes X110.here hx rfl (pc0 := 23) (pc' := 36) rfl (hb hby at_23) rfl ((if0 _ _).trans (feq hr112_23_0).2) (by decide) (by decide) ?_
        show Steps p.tables e below (T110.setTop (mkF m 36 #[.val (.int p1), .val (.int p2), .val (.ref w1), .val (.int (((p1.toUInt32 >>> ((1 : Int32) &&& 31).toUInt32).toInt32) &&& (3 : Int32))), .unset, .unset] [])) _
        refine XS.iloadN X110.here hx rfl (hb hby at_36) rfl ?_
        show Steps p.tables e below (T110.setTop (mkF m 37 #[.val (.int p1), .val (.int p2), .val (.ref w1), .val (.int (((p1.toUInt32 >>> ((1 : Int32) &&& 31).toUInt32).toInt32) &&& (3 : Int32))), .unset, .unset] [(.int (((p1.toUInt32 >>> ((1 : Int32) &&& 31).toUInt32).toInt32) &&& (3 : Int32)))])) _
        refine XS.iconst X110.here hx rfl (hb hby at_37) ?_
        by_cases hr112_38_1 : (((p1.toUInt32 >>> ((1 : Int32) &&& 31).toUInt32).toInt32) &&& (3 : Int32)) = (1 : Int32)
        · have evcc : cc = (p2 &&& (65535 : Int32)) := by rw [hcc, if_neg hr112_23_0, if_pos hr112_38_1]
          rw [evcc] at kt
          show Steps p.tables e below (T110.setTop (mkF m 38 #[.val (.int p1), .val (.int p2), .val (.ref w1), .val (.int (((p1.toUInt32 >>> ((1 : Int32) &&& 31).toUInt32).toInt32) &&& (3 : Int32))), .unset, .unset] [(.int (1 : Int32)), (.int (((p1.toUInt32 >>> ((1 : Int32) &&& 31).toUInt32).toInt32) &&& (3 : Int32)))])) _
          refine XS.icmpNo X110.here hx rfl (hb hby at_38) rfl (teq hr112_38_1).2 ?_
          show Steps p.tables e below (T110.setTop (mkF m 41 #[.val (.int p1), .val (.int p2), .val (.ref w1), .val (.int (((p1.toUInt32 >>> ((1 : Int32) &&& 31).toUInt32).toInt32) &&& (3 : Int32))), .unset, .unset] [])) _
          refine XS.iloadN X110.here hx rfl (hb hby at_41) rfl ?_
          show Steps p.tables e below (T110.setTop (mkF m 42 #[.val (.int p1), .val (.int p2), .val (.ref w1), .val (.int (((p1.toUInt32 >>> ((1 : Int32) &&& 31).toUInt32).toInt32) &&& (3 : Int32))), .unset, .unset] [(.int p2)])) _
          refine X110.ldcInt hx hown (mvT hZ (hw _ (List.mem_of_getElem? (i := 20) rfl))) (g := (mkF m 42 #[.val (.int p1), .val (.int p2), .val (.ref w1), .val (.int (((p1.toUInt32 >>> ((1 : Int32) &&& 31).toUInt32).toInt32) &&& (3 : Int32))), .unset, .unset] [(.int p2)])) rfl (hb hby at_42) _ ?_
          show Steps p.tables e below (T110.setTop (mkF m 44 #[.val (.int p1), .val (.int p2), .val (.ref w1), .val (.int (((p1.toUInt32 >>> ((1 : Int32) &&& 31).toUInt32).toInt32) &&& (3 : Int32))), .unset, .unset] [(.int (65535 : Int32)), (.int p2)])) _
          refine XS.iand X110.here hx rfl (hb hby at_44) rfl ?_
          show Steps p.tables e below (T110.setTop (mkF m 45 #[.val (.int p1), .val (.int p2), .val (.ref w1), .val (.int (((p1.toUInt32 >>> ((1 : Int32) &&& 31).toUInt32).toInt32) &&& (3 : Int32))), .unset, .unset] [(.int (p2 &&& (65535 : Int32)))])) _
          refine XS.istore X110.here hx rfl (hb hby at_45) rfl (l' := #[.val (.int p1), .val (.int p2), .val (.ref w1), .val (.int (((p1.toUInt32 >>> ((1 : Int32) &&& 31).toUInt32).toInt32) &&& (3 : Int32))), .val (.int (p2 &&& (65535 : Int32))), .unset]) rfl ?_
          show Steps p.tables e below (T110.setTop (mkF m 47 #[.val (.int p1), .val (.int p2), .val (.ref w1), .val (.int (((p1.toUInt32 >>> ((1 : Int32) &&& 31).toUInt32).toInt32) &&& (3 : Int32))), .val (.int (p2 &&& (65535 : Int32))), .unset] [])) _
          refine XS.goto X110.here hx rfl (pc0 := 47) (pc' := 67) rfl (hb hby at_47) (by decide) (by decide) ?_
          exact kt
        · show Steps p.tables e below (T110.setTop (mkF m 38 #[.val (.int p1), .val (.int p2), .val (.ref w1), .val (.int (((p1.toUInt32 >>> ((1 : Int32) &&& 31).toUInt32).toInt32) &&& (3 : Int32))), .unset, .unset] [(.int (1 : Int32)), (.int (((p1.toUInt32 >>> ((1 : Int32) &&& 31).toUInt32).toInt32) &&& (3 : Int32)))])) _
          refine XS.icmpYes X110.here hx rfl (pc0 := 38) (pc' := 50) rfl (hb hby at_38) rfl (feq hr112_38_1).2 (by decide) (by decide) ?_
          show Steps p.tables e below (T110.setTop (mkF m 50 #[.val (.int p1), .val (.int p2), .val (.ref w1), .val (.int (((p1.toUInt32 >>> ((1 : Int32) &&& 31).toUInt32).toInt32) &&& (3 : Int32))), .unset, .unset] [])) _
          refine XS.iloadN X110.here hx rfl (hb hby at_50) rfl ?_
          show Steps p.tables e below (T110.setTop (mkF m 51 #[.val (.int p1), .val (.int p2), .val (.ref w1), .val (.int (((p1.toUInt32 >>> ((1 : Int32) &&& 31).toUInt32).toInt32) &&& (3 : Int32))), .unset, .unset] [(.int (((p1.toUInt32 >>> ((1 : Int32) &&& 31).toUInt32).toInt32) &&& (3 : Int32)))])) _
          refine XS.iconst X110.here hx rfl (hb hby at_51) ?_
          by_cases hr112_52_2 : (((p1.toUInt32 >>> ((1 : Int32) &&& 31).toUInt32).toInt32) &&& (3 : Int32)) = (2 : Int32)
          · have evcc : cc = (p2 &&& (2097151 : Int32)) := by rw [hcc, if_neg hr112_23_0, if_neg hr112_38_1, if_pos hr112_52_2]
            rw [evcc] at kt
            show Steps p.tables e below (T110.setTop (mkF m 52 #[.val (.int p1), .val (.int p2), .val (.ref w1), .val (.int (((p1.toUInt32 >>> ((1 : Int32) &&& 31).toUInt32).toInt32) &&& (3 : Int32))), .unset, .unset] [(.int (2 : Int32)), (.int (((p1.toUInt32 >>> ((1 : Int32) &&& 31).toUInt32).toInt32) &&& (3 : Int32)))])) _
            refine XS.icmpNo X110.here hx rfl (hb hby at_52) rfl (teq hr112_52_2).2 ?_
            show Steps p.tables e below (T110.setTop (mkF m 55 #[.val (.int p1), .val (.int p2), .val (.ref w1), .val (.int (((p1.toUInt32 >>> ((1 : Int32) &&& 31).toUInt32).toInt32) &&& (3 : Int32))), .unset, .unset] [])) _
            refine XS.iloadN X110.here hx rfl (hb hby at_55) rfl ?_
            show Steps p.tables e below (T110.setTop (mkF m 56 #[.val (.int p1), .val (.int p2), .val (.ref w1), .val (.int (((p1.toUInt32 >>> ((1 : Int32) &&& 31).toUInt32).toInt32) &&& (3 : Int32))), .unset, .unset] [(.int p2)])) _
            refine X110.ldcInt hx hown (mvT hZ (hw _ (List.mem_of_getElem? (i := 9) rfl))) (g := (mkF m 56 #[.val (.int p1), .val (.int p2), .val (.ref w1), .val (.int (((p1.toUInt32 >>> ((1 : Int32) &&& 31).toUInt32).toInt32) &&& (3 : Int32))), .unset, .unset] [(.int p2)])) rfl (hb hby at_56) _ ?_
            show Steps p.tables e below (T110.setTop (mkF m 58 #[.val (.int p1), .val (.int p2), .val (.ref w1), .val (.int (((p1.toUInt32 >>> ((1 : Int32) &&& 31).toUInt32).toInt32) &&& (3 : Int32))), .unset, .unset] [(.int (2097151 : Int32)), (.int p2)])) _
            refine XS.iand X110.here hx rfl (hb hby at_58) rfl ?_
            show Steps p.tables e below (T110.setTop (mkF m 59 #[.val (.int p1), .val (.int p2), .val (.ref w1), .val (.int (((p1.toUInt32 >>> ((1 : Int32) &&& 31).toUInt32).toInt32) &&& (3 : Int32))), .unset, .unset] [(.int (p2 &&& (2097151 : Int32)))])) _
            refine XS.istore X110.here hx rfl (hb hby at_59) rfl (l' := #[.val (.int p1), .val (.int p2), .val (.ref w1), .val (.int (((p1.toUInt32 >>> ((1 : Int32) &&& 31).toUInt32).toInt32) &&& (3 : Int32))), .val (.int (p2 &&& (2097151 : Int32))), .unset]) rfl ?_
            show Steps p.tables e below (T110.setTop (mkF m 61 #[.val (.int p1), .val (.int p2), .val (.ref w1), .val (.int (((p1.toUInt32 >>> ((1 : Int32) &&& 31).toUInt32).toInt32) &&& (3 : Int32))), .val (.int (p2 &&& (2097151 : Int32))), .unset] [])) _
            refine XS.goto X110.here hx rfl (pc0 := 61) (pc' := 67) rfl (hb hby at_61) (by decide) (by decide) ?_
            exact kt
          · have evcc : cc = p2 := by rw [hcc, if_neg hr112_23_0, if_neg hr112_38_1, if_neg hr112_52_2]
            rw [evcc] at kt
            show Steps p.tables e below (T110.setTop (mkF m 52 #[.val (.int p1), .val (.int p2), .val (.ref w1), .val (.int (((p1.toUInt32 >>> ((1 : Int32) &&& 31).toUInt32).toInt32) &&& (3 : Int32))), .unset, .unset] [(.int (2 : Int32)), (.int (((p1.toUInt32 >>> ((1 : Int32) &&& 31).toUInt32).toInt32) &&& (3 : Int32)))])) _
            refine XS.icmpYes X110.here hx rfl (pc0 := 52) (pc' := 64) rfl (hb hby at_52) rfl (feq hr112_52_2).2 (by decide) (by decide) ?_
            show Steps p.tables e below (T110.setTop (mkF m 64 #[.val (.int p1), .val (.int p2), .val (.ref w1), .val (.int (((p1.toUInt32 >>> ((1 : Int32) &&& 31).toUInt32).toInt32) &&& (3 : Int32))), .unset, .unset] [])) _
            refine XS.iloadN X110.here hx rfl (hb hby at_64) rfl ?_
            show Steps p.tables e below (T110.setTop (mkF m 65 #[.val (.int p1), .val (.int p2), .val (.ref w1), .val (.int (((p1.toUInt32 >>> ((1 : Int32) &&& 31).toUInt32).toInt32) &&& (3 : Int32))), .unset, .unset] [(.int p2)])) _
            refine XS.istore X110.here hx rfl (hb hby at_65) rfl (l' := #[.val (.int p1), .val (.int p2), .val (.ref w1), .val (.int (((p1.toUInt32 >>> ((1 : Int32) &&& 31).toUInt32).toInt32) &&& (3 : Int32))), .val (.int p2), .unset]) rfl ?_
            exact kt
    have P113 : ∀ t, Steps p.tables e below (T110.setTop (mkF m 67 #[.val (.int p1), .val (.int p2), .val (.ref w1), .val (.int (((p1.toUInt32 >>> ((1 : Int32) &&& 31).toUInt32).toInt32) &&& (3 : Int32))), .val (.int cc), .unset] [])) t → Steps p.tables e below (s₁.setTop (entryFrame m #[(.int p1), (.int p2)] maxLocals)) t := fun t kt => P111 t (J112 t kt)
    obtain ⟨cq114, kq114, q114a, q114b, q114c⟩ := isOf hZ e110 E1
    obtain ⟨_, _, ⟨T114, L114, k114, n114⟩, -, X114, ⟨Lc114, hQ114, l114, y114, z114⟩, st114⟩ := X110.virtualBack hx (y := (⟨"com/example/libxform/libxform/output/XmlVersion", "restricts", "(I)Z"⟩ : MethodName)) (z := (⟨"com/example/libxform/libxform/output/XmlVersion", "restricts", "(I)Z"⟩ : MethodName)) hown (mvT hZ (hw _ (List.mem_of_getElem? (i := 3) rfl))) (mvT hZ (hw _ (List.mem_of_getElem? (i := 4) rfl))) (notFace_of_selects (args := #[]) (mvT hZ (hw _ (List.mem_of_getElem? (i := 6) rfl)))) (mvT hZ (hw _ (List.mem_of_getElem? (i := 6) rfl))) (mvT hZ (hw _ (List.mem_of_getElem? (i := 5) rfl))) (by decide) (backOf (W := 0)  (rmR l Z a0 hw [] w1 cc w0 h0 S0) hZ (hw _ (List.mem_of_getElem? (i := 7) rfl)) (hw _ (List.mem_of_getElem? (i := 1) rfl)) (by decide) (by decide)) q114a q114c (g := (mkF m 70 #[.val (.int p1), .val (.int p2), .val (.ref w1), .val (.int (((p1.toUInt32 >>> ((1 : Int32) &&& 31).toUInt32).toInt32) &&& (3 : Int32))), .val (.int cc), .unset] [(.int cc), (.ref w1)])) rfl (by rw [hml]; rfl) (Steps.refl _) (argsL := [(.int cc)]) (rest := []) (lenOf pd__I_Z rfl) rfl (by show 2 * 0 + _ ≤ _; exact Nat.le_of_eq rfl) (hb hby at_70) (fun _ _ => ⟨rfl, e110, (by decide : 0 + 0 ≤ _), (by decide : 0 + 0 ≤ _)⟩)
    dsimp only [Pt.U, Pt.locs, Pt.cells, Pt.slots] at X114 l114 y114 z114 st114 hQ114
    subst l114 y114 z114
    obtain ⟨rfl, rfl, e114⟩ := hQ114
    have X114 : Stand p l e room_1 s m #[(.int p1), (.int p2)] below meth c T114 [] 0 0 := X114
    obtain ⟨T115, X115, e115, st115⟩ := getS2 X114 hx hZ hown (host := "") (Or.inl (hw _ (List.mem_of_getElem? (i := 0) rfl))) Via.refl e114 S0 (g := (mkF m 76 #[.val (.int p1), .val (.int p2), .val (.ref w1), .val (.int (((p1.toUInt32 >>> ((1 : Int32) &&& 31).toUInt32).toInt32) &&& (3 : Int32))), .val (.int cc), .val (.int (rs w1 w0 cc))] [(.ref w1)])) rfl (hb hby at_76)
    have P116 : ∀ t, Steps p.tables e below (T115.setTop (mkF m 79 #[.val (.int p1), .val (.int p2), .val (.ref w1), .val (.int (((p1.toUInt32 >>> ((1 : Int32) &&& 31).toUInt32).toInt32) &&& (3 : Int32))), .val (.int cc), .val (.int (rs w1 w0 cc))] [(.ref w0), (.ref w1)])) t → Steps p.tables e below (s₁.setTop (entryFrame m #[(.int p1), (.int p2)] maxLocals)) t := fun t kt => P113 t (by
      show Steps p.tables e below (T110.setTop (mkF m 67 #[.val (.int p1), .val (.int p2), .val (.ref w1), .val (.int (((p1.toUInt32 >>> ((1 : Int32) &&& 31).toUInt32).toInt32) &&& (3 : Int32))), .val (.int cc), .unset] [])) _
      refine XS.aloadN X110.here hx rfl (hb hby at_67) rfl rfl ?_
      show Steps p.tables e below (T110.setTop (mkF m 68 #[.val (.int p1), .val (.int p2), .val (.ref w1), .val (.int (((p1.toUInt32 >>> ((1 : Int32) &&& 31).toUInt32).toInt32) &&& (3 : Int32))), .val (.int cc), .unset] [(.ref w1)])) _
      refine XS.iload X110.here hx rfl (hb hby at_68) rfl ?_
      show Steps p.tables e below (T110.setTop (mkF m 70 #[.val (.int p1), .val (.int p2), .val (.ref w1), .val (.int (((p1.toUInt32 >>> ((1 : Int32) &&& 31).toUInt32).toInt32) &&& (3 : Int32))), .val (.int cc), .unset] [(.int cc), (.ref w1)])) _
      refine st114.trans ?_
      show Steps p.tables e below (T114.setTop (mkF m 73 #[.val (.int p1), .val (.int p2), .val (.ref w1), .val (.int (((p1.toUInt32 >>> ((1 : Int32) &&& 31).toUInt32).toInt32) &&& (3 : Int32))), .val (.int cc), .unset] [(.int (rs w1 w0 cc))])) _
      refine XS.istore X114.here hx rfl (hb hby at_73) rfl (l' := #[.val (.int p1), .val (.int p2), .val (.ref w1), .val (.int (((p1.toUInt32 >>> ((1 : Int32) &&& 31).toUInt32).toInt32) &&& (3 : Int32))), .val (.int cc), .val (.int (rs w1 w0 cc))]) rfl ?_
      show Steps p.tables e below (T114.setTop (mkF m 75 #[.val (.int p1), .val (.int p2), .val (.ref w1), .val (.int (((p1.toUInt32 >>> ((1 : Int32) &&& 31).toUInt32).toInt32) &&& (3 : Int32))), .val (.int cc), .val (.int (rs w1 w0 cc))] [])) _
      refine XS.aloadN X114.here hx rfl (hb hby at_75) rfl rfl ?_
      show Steps p.tables e below (T114.setTop (mkF m 76 #[.val (.int p1), .val (.int p2), .val (.ref w1), .val (.int (((p1.toUInt32 >>> ((1 : Int32) &&& 31).toUInt32).toInt32) &&& (3 : Int32))), .val (.int cc), .val (.int (rs w1 w0 cc))] [(.ref w1)])) _
      refine st115 _ ?_
      exact kt)
    by_cases hc79_117 : w1 = w0
    · have P118 : ∀ t, Steps p.tables e below (T115.setTop (mkF m 92 #[.val (.int p1), .val (.int p2), .val (.ref w1), .val (.int (((p1.toUInt32 >>> ((1 : Int32) &&& 31).toUInt32).toInt32) &&& (3 : Int32))), .val (.int cc), .val (.int (rs w1 w0 cc))] [(.int (1 : Int32))])) t → Steps p.tables e below (s₁.setTop (entryFrame m #[(.int p1), (.int p2)] maxLocals)) t := fun t kt => P116 t (by
        show Steps p.tables e below (T115.setTop (mkF m 79 #[.val (.int p1), .val (.int p2), .val (.ref w1), .val (.int (((p1.toUInt32 >>> ((1 : Int32) &&& 31).toUInt32).toInt32) &&& (3 : Int32))), .val (.int cc), .val (.int (rs w1 w0 cc))] [(.ref w0), (.ref w1)])) _
        refine Jvm.RoadKit.acmp (g := (mkF m 79 #[.val (.int p1), .val (.int p2), .val (.ref w1), .val (.int (((p1.toUInt32 >>> ((1 : Int32) &&& 31).toUInt32).toInt32) &&& (3 : Int32))), .val (.int cc), .val (.int (rs w1 w0 cc))] [(.ref w0), (.ref w1)])) X115 hx rfl rfl rfl (pc0 := 79) (pc' := 82) (same := true) rfl (hb hby at_79) rfl (decide_eq_true (congrArg Value.ref hc79_117)) (by decide) (by decide) ?_
        show Steps p.tables e below (T115.setTop (mkF m 82 #[.val (.int p1), .val (.int p2), .val (.ref w1), .val (.int (((p1.toUInt32 >>> ((1 : Int32) &&& 31).toUInt32).toInt32) &&& (3 : Int32))), .val (.int cc), .val (.int (rs w1 w0 cc))] [])) _
        refine XS.iload X115.here hx rfl (hb hby at_82) rfl ?_
        show Steps p.tables e below (T115.setTop (mkF m 84 #[.val (.int p1), .val (.int p2), .val (.ref w1), .val (.int (((p1.toUInt32 >>> ((1 : Int32) &&& 31).toUInt32).toInt32) &&& (3 : Int32))), .val (.int cc), .val (.int (rs w1 w0 cc))] [(.int (rs w1 w0 cc))])) _
        refine XS.ifNo X115.here hx rfl (hb hby at_84) rfl ((if0 _ _).trans (teq (if_pos hc79_117 : (rs w1 w0 cc) = (0 : Int32))).2) ?_
        show Steps p.tables e below (T115.setTop (mkF m 87 #[.val (.int p1), .val (.int p2), .val (.ref w1), .val (.int (((p1.toUInt32 >>> ((1 : Int32) &&& 31).toUInt32).toInt32) &&& (3 : Int32))), .val (.int cc), .val (.int (rs w1 w0 cc))] [])) _
        refine XS.iconst X115.here hx rfl (hb hby at_87) ?_
        show Steps p.tables e below (T115.setTop (mkF m 88 #[.val (.int p1), .val (.int p2), .val (.ref w1), .val (.int (((p1.toUInt32 >>> ((1 : Int32) &&& 31).toUInt32).toInt32) &&& (3 : Int32))), .val (.int cc), .val (.int (rs w1 w0 cc))] [(.int (1 : Int32))])) _
        refine XS.goto X115.here hx rfl (pc0 := 88) (pc' := 92) rfl (hb hby at_88) (by decide) (by decide) ?_
        exact kt)
      obtain ⟨fs, hr, hrun, hended, hW, hsame⟩ := X115.leave (v := some (.int (1 : Int32))) (fun h => by rw [Bd.returns] at h; cases h) (hlocks := hlk)
      refine ⟨_, _, P118 _ ?_, hrun, hended, _, _, rfl, ?_, ⟨_, rfl⟩, hW, hsame.mono (by decide) (by decide)⟩
      · show Steps p.tables e below (T115.setTop (mkF m 92 #[.val (.int p1), .val (.int p2), .val (.ref w1), .val (.int (((p1.toUInt32 >>> ((1 : Int32) &&& 31).toUInt32).toInt32) &&& (3 : Int32))), .val (.int cc), .val (.int (rs w1 w0 cc))] [(.int (1 : Int32))])) _
        exact retN X115 hx (t := .boolean) Bd.returns (by simp) (hb hby at_92) hr
      · show QP _ h0 _ T115.heap _
        exact ⟨rfl, rfl, e115⟩
    · obtain ⟨_, _, ⟨T119, L119, k119, n119⟩, -, X119, ⟨Lc119, hQ119, l119, y119, z119⟩, st119⟩ := Jvm.LawKit.callS X115 hx (y := (⟨"com/example/libxform/libxform/output/XmlVersionRestrictsPinLaw", "isChar11", "(I)Z"⟩ : MethodName)) hown (mvT hZ (hw _ (List.mem_of_getElem? (i := 12) rfl))) (mvT hZ (hw _ (List.mem_of_getElem? (i := 13) rfl))) (mvT hZ (hw _ (List.mem_of_getElem? (i := 14) rfl))) (mvT hZ (hw _ (List.mem_of_getElem? (i := 15) rfl))) (by decide) (backOf (W := 0)  (rmI l Z a0 hw [] cc h0) hZ (hw _ (List.mem_of_getElem? (i := 15) rfl)) (hw _ (List.mem_of_getElem? (i := 14) rfl)) (by decide) (by decide)) (g := (mkF m 95 #[.val (.int p1), .val (.int p2), .val (.ref w1), .val (.int (((p1.toUInt32 >>> ((1 : Int32) &&& 31).toUInt32).toInt32) &&& (3 : Int32))), .val (.int cc), .val (.int (rs w1 w0 cc))] [(.int cc)])) rfl (by rw [hml]; rfl) (argsL := [(.int cc)]) (rest := []) (lenOf pd__I_Z rfl) rfl (by show 2 * 0 + _ ≤ _; exact Nat.le_of_eq rfl) (hb hby at_95) (fun _ _ => ⟨rfl, e115, (by decide : 0 + 0 ≤ _), (by decide : 0 + 0 ≤ _)⟩)
      dsimp only [Pt.U, Pt.locs, Pt.cells, Pt.slots] at X119 l119 y119 z119 st119 hQ119
      subst l119 y119 z119
      obtain ⟨rfl, rfl, e119⟩ := hQ119
      have X119 : Stand p l e room_1 s m #[(.int p1), (.int p2)] below meth c T119 [] 0 0 := X119
      have P120 : ∀ t, Steps p.tables e below (T119.setTop (mkF m 98 #[.val (.int p1), .val (.int p2), .val (.ref w1), .val (.int (((p1.toUInt32 >>> ((1 : Int32) &&& 31).toUInt32).toInt32) &&& (3 : Int32))), .val (.int cc), .val (.int (rs w1 w0 cc))] [(.int (fI_0 cc))])) t → Steps p.tables e below (s₁.setTop (entryFrame m #[(.int p1), (.int p2)] maxLocals)) t := fun t kt => P116 t (by
        show Steps p.tables e below (T115.setTop (mkF m 79 #[.val (.int p1), .val (.int p2), .val (.ref w1), .val (.int (((p1.toUInt32 >>> ((1 : Int32) &&& 31).toUInt32).toInt32) &&& (3 : Int32))), .val (.int cc), .val (.int (rs w1 w0 cc))] [(.ref w0), (.ref w1)])) _
        refine Jvm.RoadKit.acmp (g := (mkF m 79 #[.val (.int p1), .val (.int p2), .val (.ref w1), .val (.int (((p1.toUInt32 >>> ((1 : Int32) &&& 31).toUInt32).toInt32) &&& (3 : Int32))), .val (.int cc), .val (.int (rs w1 w0 cc))] [(.ref w0), (.ref w1)])) X115 hx rfl rfl rfl (pc0 := 79) (pc' := 93) (same := false) rfl (hb hby at_79) rfl (decide_eq_false fun q => hc79_117 (Value.ref.inj q)) (by decide) (by decide) ?_
        show Steps p.tables e below (T115.setTop (mkF m 93 #[.val (.int p1), .val (.int p2), .val (.ref w1), .val (.int (((p1.toUInt32 >>> ((1 : Int32) &&& 31).toUInt32).toInt32) &&& (3 : Int32))), .val (.int cc), .val (.int (rs w1 w0 cc))] [])) _
        refine XS.iload X115.here hx rfl (hb hby at_93) rfl ?_
        show Steps p.tables e below (T115.setTop (mkF m 95 #[.val (.int p1), .val (.int p2), .val (.ref w1), .val (.int (((p1.toUInt32 >>> ((1 : Int32) &&& 31).toUInt32).toInt32) &&& (3 : Int32))), .val (.int cc), .val (.int (rs w1 w0 cc))] [(.int cc)])) _
        refine st119 _ ?_
        exact kt)
      by_cases hc98_121 : (fI_0 cc) = (0 : Int32)
      · have P122 : ∀ t, Steps p.tables e below (T119.setTop (mkF m 102 #[.val (.int p1), .val (.int p2), .val (.ref w1), .val (.int (((p1.toUInt32 >>> ((1 : Int32) &&& 31).toUInt32).toInt32) &&& (3 : Int32))), .val (.int cc), .val (.int (rs w1 w0 cc))] [(.int (1 : Int32))])) t → Steps p.tables e below (s₁.setTop (entryFrame m #[(.int p1), (.int p2)] maxLocals)) t := fun t kt => P120 t (by
          show Steps p.tables e below (T119.setTop (mkF m 98 #[.val (.int p1), .val (.int p2), .val (.ref w1), .val (.int (((p1.toUInt32 >>> ((1 : Int32) &&& 31).toUInt32).toInt32) &&& (3 : Int32))), .val (.int cc), .val (.int (rs w1 w0 cc))] [(.int (fI_0 cc))])) _
          refine XS.ifNo X119.here hx rfl (hb hby at_98) rfl ((if0 _ _).trans (teq hc98_121).2) ?_
          show Steps p.tables e below (T119.setTop (mkF m 101 #[.val (.int p1), .val (.int p2), .val (.ref w1), .val (.int (((p1.toUInt32 >>> ((1 : Int32) &&& 31).toUInt32).toInt32) &&& (3 : Int32))), .val (.int cc), .val (.int (rs w1 w0 cc))] [])) _
          refine XS.iconst X119.here hx rfl (hb hby at_101) ?_
          exact kt)
        obtain ⟨fs, hr, hrun, hended, hW, hsame⟩ := X119.leave (v := some (.int (1 : Int32))) (fun h => by rw [Bd.returns] at h; cases h) (hlocks := hlk)
        refine ⟨_, _, P122 _ ?_, hrun, hended, _, _, rfl, ?_, ⟨_, rfl⟩, hW, hsame.mono (by decide) (by decide)⟩
        · show Steps p.tables e below (T119.setTop (mkF m 102 #[.val (.int p1), .val (.int p2), .val (.ref w1), .val (.int (((p1.toUInt32 >>> ((1 : Int32) &&& 31).toUInt32).toInt32) &&& (3 : Int32))), .val (.int cc), .val (.int (rs w1 w0 cc))] [(.int (1 : Int32))])) _
          exact retN X119 hx (t := .boolean) Bd.returns (by simp) (hb hby at_102) hr
        · show QP _ h0 _ T119.heap _
          exact ⟨rfl, rfl, e119⟩
      · obtain ⟨_, _, ⟨T123, L123, k123, n123⟩, -, X123, ⟨Lc123, hQ123, l123, y123, z123⟩, st123⟩ := Jvm.LawKit.callS X119 hx (y := (⟨"com/example/libxform/libxform/output/XmlVersionRestrictsPinLaw", "restricted11", "(I)Z"⟩ : MethodName)) hown (mvT hZ (hw _ (List.mem_of_getElem? (i := 17) rfl))) (mvT hZ (hw _ (List.mem_of_getElem? (i := 18) rfl))) (mvT hZ (hw _ (List.mem_of_getElem? (i := 14) rfl))) (mvT hZ (hw _ (List.mem_of_getElem? (i := 19) rfl))) (by decide) (backOf (W := 1)  (rmX l Z a0 hw [] cc h0) hZ (hw _ (List.mem_of_getElem? (i := 19) rfl)) (hw _ (List.mem_of_getElem? (i := 14) rfl)) (by decide) (by decide)) (g := (mkF m 107 #[.val (.int p1), .val (.int p2), .val (.ref w1), .val (.int (((p1.toUInt32 >>> ((1 : Int32) &&& 31).toUInt32).toInt32) &&& (3 : Int32))), .val (.int cc), .val (.int (rs w1 w0 cc))] [(.int cc), (.int (rs w1 w0 cc))])) rfl (by rw [hml]; rfl) (argsL := [(.int cc)]) (rest := [(.int (rs w1 w0 cc))]) (lenOf pd__I_Z rfl) rfl (by show 2 * 0 + _ ≤ _; exact Nat.le_of_eq rfl) (hb hby at_107) (fun _ _ => ⟨rfl, e119, (by decide : 0 + 0 ≤ _), (by decide : 0 + 0 ≤ _)⟩)
        dsimp only [Pt.U, Pt.locs, Pt.cells, Pt.slots] at X123 l123 y123 z123 st123 hQ123
        subst l123 y123 z123
        obtain ⟨rfl, rfl, e123⟩ := hQ123
        have X123 : Stand p l e room_1 s m #[(.int p1), (.int p2)] below meth c T123 [] 0 0 := X123
        have P124 : ∀ t, Steps p.tables e below (T123.setTop (mkF m 118 #[.val (.int p1), .val (.int p2), .val (.ref w1), .val (.int (((p1.toUInt32 >>> ((1 : Int32) &&& 31).toUInt32).toInt32) &&& (3 : Int32))), .val (.int cc), .val (.int (rs w1 w0 cc))] [(.int (1 : Int32))])) t → Steps p.tables e below (s₁.setTop (entryFrame m #[(.int p1), (.int p2)] maxLocals)) t := fun t kt => P120 t (by
          show Steps p.tables e below (T119.setTop (mkF m 98 #[.val (.int p1), .val (.int p2), .val (.ref w1), .val (.int (((p1.toUInt32 >>> ((1 : Int32) &&& 31).toUInt32).toInt32) &&& (3 : Int32))), .val (.int cc), .val (.int (rs w1 w0 cc))] [(.int (fI_0 cc))])) _
          refine XS.ifYes X119.here hx rfl (pc0 := 98) (pc' := 103) rfl (hb hby at_98) rfl ((if0 _ _).trans (feq hc98_121).2) (by decide) (by decide) ?_
          show Steps p.tables e below (T119.setTop (mkF m 103 #[.val (.int p1), .val (.int p2), .val (.ref w1), .val (.int (((p1.toUInt32 >>> ((1 : Int32) &&& 31).toUInt32).toInt32) &&& (3 : Int32))), .val (.int cc), .val (.int (rs w1 w0 cc))] [])) _
          refine XS.iload X119.here hx rfl (hb hby at_103) rfl ?_
          show Steps p.tables e below (T119.setTop (mkF m 105 #[.val (.int p1), .val (.int p2), .val (.ref w1), .val (.int (((p1.toUInt32 >>> ((1 : Int32) &&& 31).toUInt32).toInt32) &&& (3 : Int32))), .val (.int cc), .val (.int (rs w1 w0 cc))] [(.int (rs w1 w0 cc))])) _
          refine XS.iload X119.here hx rfl (hb hby at_105) rfl ?_
          show Steps p.tables e below (T119.setTop (mkF m 107 #[.val (.int p1), .val (.int p2), .val (.ref w1), .val (.int (((p1.toUInt32 >>> ((1 : Int32) &&& 31).toUInt32).toInt32) &&& (3 : Int32))), .val (.int cc), .val (.int (rs w1 w0 cc))] [(.int cc), (.int (rs w1 w0 cc))])) _
          refine st123 _ ?_
          show Steps p.tables e below (T123.setTop (mkF m 110 #[.val (.int p1), .val (.int p2), .val (.ref w1), .val (.int (((p1.toUInt32 >>> ((1 : Int32) &&& 31).toUInt32).toInt32) &&& (3 : Int32))), .val (.int cc), .val (.int (rs w1 w0 cc))] [(.int (fX cc)), (.int (rs w1 w0 cc))])) _
          refine XS.icmpNo X123.here hx rfl (hb hby at_110) rfl (teq ((if_neg hc79_117).trans ((own_law _).resolve_left hc98_121) : (rs w1 w0 cc) = (fX cc))).2 ?_
          show Steps p.tables e below (T123.setTop (mkF m 113 #[.val (.int p1), .val (.int p2), .val (.ref w1), .val (.int (((p1.toUInt32 >>> ((1 : Int32) &&& 31).toUInt32).toInt32) &&& (3 : Int32))), .val (.int cc), .val (.int (rs w1 w0 cc))] [])) _
          refine XS.iconst X123.here hx rfl (hb hby at_113) ?_
          show Steps p.tables e below (T123.setTop (mkF m 114 #[.val (.int p1), .val (.int p2), .val (.ref w1), .val (.int (((p1.toUInt32 >>> ((1 : Int32) &&& 31).toUInt32).toInt32) &&& (3 : Int32))), .val (.int cc), .val (.int (rs w1 w0 cc))] [(.int (1 : Int32))])) _
          refine XS.goto X123.here hx rfl (pc0 := 114) (pc' := 118) rfl (hb hby at_114) (by decide) (by decide) ?_
          exact kt)
        obtain ⟨fs, hr, hrun, hended, hW, hsame⟩ := X123.leave (v := some (.int (1 : Int32))) (fun h => by rw [Bd.returns] at h; cases h) (hlocks := hlk)
        refine ⟨_, _, P124 _ ?_, hrun, hended, _, _, rfl, ?_, ⟨_, rfl⟩, hW, hsame.mono (by decide) (by decide)⟩
        · show Steps p.tables e below (T123.setTop (mkF m 118 #[.val (.int p1), .val (.int p2), .val (.ref w1), .val (.int (((p1.toUInt32 >>> ((1 : Int32) &&& 31).toUInt32).toInt32) &&& (3 : Int32))), .val (.int cc), .val (.int (rs w1 w0 cc))] [(.int (1 : Int32))])) _
          exact retN X123 hx (t := .boolean) Bd.returns (by simp) (hb hby at_118) hr
        · show QP _ h0 _ T123.heap _
          exact ⟨rfl, rfl, e123⟩
set_option maxRecDepth 65536 in
set_option maxHeartbeats 40000000 in
theorem comes_1 {Post : Tables → Env → Array Value → State → Outcome → State → Prop} (hpost : ∀ tb e args s v u, (limb_1_1.after args s (.returned v) u = true ∧ limb_1_2.after args s (.returned v) u = true ∧ True) → FrameEnd s (.returned v) u (Jvm.fieldLocs frame_1_writes args s ++ Jvm.arrayLocs frame_1_arrays args s ++ Jvm.staticLocs frame_1_statics s) 0 0 → Post tb e args s (.returned v) u) :
    ArmFor flags0 classFile x code maxLocals ret World_1 tables_1 room_1 Calls_1 rest_1 Pre_1 Post := by
  intro l hfl _ _ p e ha hc hk s m args below hf hA hF happ hP
  obtain ⟨hcalls, hrest, hpre⟩ := hP
  obtain ⟨-, -, -, hnamed, -, -, -, hat⟩ := (Spec.applies_iff hf).mp happ
  obtain ⟨hg, hn⟩ := and_e (Cond.before_iff.mp (show (Jvm.Cond.and given_1 narrow_1).before args s = true from hpre))
  obtain ⟨g1, g2⟩ := and_e hg
  obtain ⟨g3, g4⟩ := and_e g2
  obtain ⟨w0, w1, rfl⟩ : ∃ w0 w1 : Value, args = #[w0, w1] := by
    have hs : args.size = 2 := by simpa [Cond.value, given_1] using g1
    obtain ⟨L⟩ := args
    match L, hs with
    | [w0, w1], _ => exact ⟨w0, w1, rfl⟩
  have hw := fun d (hd : d ∈ tables_1) => atoms_spec (ws := Jvm.Cond.code x code maxLocals ret :: tables_1) hat d (List.mem_cons_of_mem _ hd)
  obtain ⟨i0, ei0⟩ := is_v g3
  obtain rfl : w0 = (.int i0) := Option.some.inj ei0
  obtain ⟨i1, ei1⟩ := is_v g4
  obtain rfl : w1 = (.int i1) := Option.some.inj ei1
  obtain ⟨nn1, nn2⟩ := and_e hn
  obtain ⟨nn3, nn4⟩ := and_e nn2
  obtain ⟨nn5, nn6⟩ := and_e nn4
  obtain ⟨w_V1_0, ev_V1_0⟩ := exa_v nn1
  have S_V1_0 : Sta s s.heap "com/example/libxform/libxform/output/XmlVersion" "V1_0" "Lcom/example/libxform/libxform/output/XmlVersion;" (.ref w_V1_0) := Sta.start ev_V1_0 (Or.inr ⟨(hw _ (List.mem_of_getElem? (i := 1) rfl)), (hw _ (List.mem_of_getElem? (i := 2) rfl))⟩)
  have E_V1_0 : Exa s s.heap w_V1_0 "com/example/libxform/libxform/output/XmlVersion" := Exa.start ev_V1_0 nn1
  have ov_V1_0 : s.fieldOf? w_V1_0 "java/lang/Enum" "ordinal" "I" = some (.int (0 : Int32)) := (fld_at ev_V1_0).symm.trans (own_eqv nn6)
  have O_V1_0 : Fld s s.heap w_V1_0 "java/lang/Enum" "ordinal" "I" (.int (0 : Int32)) := Fld.start ((fld_at ev_V1_0).symm.trans (own_eqv nn6))
  obtain ⟨w_V1_1, ev_V1_1⟩ := exa_v nn3
  have S_V1_1 : Sta s s.heap "com/example/libxform/libxform/output/XmlVersion" "V1_1" "Lcom/example/libxform/libxform/output/XmlVersion;" (.ref w_V1_1) := Sta.start ev_V1_1 (Or.inr ⟨(hw _ (List.mem_of_getElem? (i := 1) rfl)), (hw _ (List.mem_of_getElem? (i := 11) rfl))⟩)
  have E_V1_1 : Exa s s.heap w_V1_1 "com/example/libxform/libxform/output/XmlVersion" := Exa.start ev_V1_1 nn3
  have ov_V1_1 : s.fieldOf? w_V1_1 "java/lang/Enum" "ordinal" "I" = some (.int (1 : Int32)) := (fld_at ev_V1_1).symm.trans (own_eqv nn5)
  have O_V1_1 : Fld s s.heap w_V1_1 "java/lang/Enum" "ordinal" "I" (.int (1 : Int32)) := Fld.start ((fld_at ev_V1_1).symm.trans (own_eqv nn5))
  obtain ⟨n, o, h1, h2, h3, _, L, rfl, ⟨rfl, rfl, -⟩, hq⟩ := rm0 l s _ hw tables_1 i0 i1 w_V1_0 w_V1_1 s.heap S_V1_0 S_V1_1 E_V1_0 E_V1_1  p e ha hc hk s m _ below hf ((Spec.applies_iff_loose hf).mp happ).1 ⟨rfl, State.Warmed39.refl s, rfl⟩ trivial
  refine ⟨n, _, h1, h2, h3, hpost _ _ _ _ _ _ ⟨Cond.after_iff.mpr rfl, Cond.after_iff.mpr (eq_i res_at (Term.int_eval (1)) rfl), trivial⟩ ⟨hq.1, hq.2.1, (hq.2.2.sift fun y hy => nomatch hy).mono (by decide) (by decide)⟩⟩
theorem main_1_1 : Claimed_1_1 := comes_1 fun _ _ _ _ _ _ h hF => ⟨h.1, hF⟩
theorem main_1_2 : Claimed_1_2 := comes_1 fun _ _ _ _ _ _ h hF => ⟨h.2.1, hF⟩
end Jvm.Pilot.@@N@@
namespace Jvm.Pilot.@@N@@
open Jvm Jvm.ClassFile Sem Op Lib Jvm.Free Jvm.Stand Jvm.Pilot.@@N@@.Jvm.D
/-! MADE BY PROGRAM (witnessworld.py) out of the Statement's table words and the real class files: 12 classes; the members and pool entries that the words name. The judged class is class 1, her method 3. -/
namespace start1
open Jvm.ClassFile
def u (s : String) : CpInfo := .utf8 (stringToUtf16 s)
/-- a pool by its gaps: so many unusable entries, then the entry; so many at the end -/
def gap : Nat → List CpInfo → List CpInfo
  | 0, r => r
  | n + 1, r => .unusable :: gap n r
def poolList (es : List (Nat × CpInfo)) (last : Nat) : List CpInfo := es.foldr (fun e r => gap e.1 (e.2 :: r)) (gap last [])
def pool (es : List (Nat × CpInfo)) (last : Nat) : Array CpInfo := ⟨poolList es last⟩
def fileOf (pool : Array CpInfo) (this : Nat) (attrs : Array Attribute := #[]) (ms : Array MethodInfo := #[]) (fl : Nat := 33) (sup : Nat := 0) (ifs : Array Nat := #[]) (fds : Array FieldInfo := #[]) : ClassFile where
  minorVersion := 0
  majorVersion := 65
  constantPool := pool
  accessFlags := fl
  thisClass := this
  superClass := sup
  interfaces := ifs
  fields := fds
  methods := ms
  attributes := attrs
def plain (name : String) (sup : Option ClassId) : Class where
  name := name
  kind := .ordinary
  loader := none
  accessFlags := 33
  super := sup
  interfaces := #[]
  cf := none
  fields := #[]
  methods := #[]
  instanceTypes := #[]
  staticTypes := #[]
  resolved := #[]
  callSites := []
  init := .initialized
  statics := none
  mirror := none

def pool0 : Array CpInfo := pool [(5, u "<init>"), (0, u "()V"), (1, .class_ 10), (1, u "java/lang/Object")] 113

def k0m0 : Method := { name := "<init>", desc := "()V", sig := { parameters := [], returnType := none }, accessFlags := 1, code := none }
/-- java/lang/Object -/
def k0 : Class := { plain "java/lang/Object" none with
  accessFlags := 33
  interfaces := #[]
  cf := some (fileOf pool0 8 #[] #[{ accessFlags := 1, nameIndex := 5, descriptorIndex := 6, attributes := #[] }] 33 0 #[] #[])
  fields := #[]
  methods := #[k0m0]
  instanceTypes := #[]
  staticTypes := #[]
  resolved := Array.replicate 124 none
  statics := none }

def pool1 : Array CpInfo := pool [(2, .class_ 4), (1, u "java/lang/Object"), (0, u "<init>"), (0, u "()V"), (0, .integer 55295), (0, .integer 57344), (0, .integer 65533), (0, .integer 65536), (0, .integer 1114111), (0, .fieldref 13 14), (0, .class_ 15), (0, .nameAndType 16 17), (0, u "com/example/libxform/libxform/output/XmlVersion"), (0, u "V1_0"), (0, u "Lcom/example/libxform/libxform/output/XmlVersion;"), (0, .fieldref 13 19), (0, .nameAndType 20 17), (0, u "V1_1"), (0, .integer 65535), (0, .integer 2097151), (0, .methodref 13 24), (0, .nameAndType 25 26), (0, u "restricts"), (0, u "(I)Z"), (0, .methodref 28 29), (0, .class_ 30), (0, .nameAndType 31 26), (0, u "com/example/libxform/libxform/output/XmlVersionRestrictsPinLaw"), (0, u "isChar11"), (0, .methodref 28 33), (0, .nameAndType 34 26), (0, u "restricted11"), (3, u "law"), (0, u "(II)Z")] 2

def k1m0 : Method := { name := "<init>", desc := "()V", sig := { parameters := [], returnType := none }, accessFlags := 2, code := none }
def k1c1 : Code := { maxStack := 2, maxLocals := 1, code := method_2_code, exceptionTable := #[], attributes := #[] }
def k1m1 : Method := { name := "isChar11", desc := "(I)Z", sig := { parameters := [.int], returnType := some .boolean }, accessFlags := 10, code := some k1c1 }
def k1c2 : Code := { maxStack := 2, maxLocals := 1, code := method_3_code, exceptionTable := #[], attributes := #[] }
def k1m2 : Method := { name := "restricted11", desc := "(I)Z", sig := { parameters := [.int], returnType := some .boolean }, accessFlags := 10, code := some k1c2 }
def k1c3 : Code := { maxStack := 2, maxLocals := 6, code := code, exceptionTable := #[], attributes := #[] }
def k1m3 : Method := { name := "law", desc := "(II)Z", sig := { parameters := [.int, .int], returnType := some .boolean }, accessFlags := 9, code := some k1c3 }
/-- com/example/libxform/libxform/output/XmlVersionRestrictsPinLaw -/
def k1 : Class := { plain "com/example/libxform/libxform/output/XmlVersionRestrictsPinLaw" (some 0) with
  accessFlags := 49
  interfaces := #[]
  cf := some (fileOf pool1 28 #[] #[{ accessFlags := 2, nameIndex := 5, descriptorIndex := 6, attributes := #[] }, { accessFlags := 10, nameIndex := 31, descriptorIndex := 26, attributes := #[] }, { accessFlags := 10, nameIndex := 34, descriptorIndex := 26, attributes := #[] }, { accessFlags := 9, nameIndex := 38, descriptorIndex := 39, attributes := #[] }] 49 2 #[] #[])
  fields := #[]
  methods := #[k1m0, k1m1, k1m2, k1m3]
  instanceTypes := #[]
  staticTypes := #[]
  resolved := Array.replicate 42 none
  statics := none }

def pool2 : Array CpInfo := pool [(1, .class_ 2), (0, u "java/lang/constant/Constable"), (0, .class_ 4), (0, u "java/lang/Object")] 6

/-- java/lang/constant/Constable -/
def k2 : Class := { plain "java/lang/constant/Constable" (some 0) with
  accessFlags := 1537
  interfaces := #[]
  cf := some (fileOf pool2 1 #[] #[] 1537 3 #[] #[])
  fields := #[]
  methods := #[]
  instanceTypes := #[]
  staticTypes := #[]
  resolved := Array.replicate 11 none
  statics := none }

def pool3 : Array CpInfo := pool [(1, .class_ 2), (0, u "java/lang/Comparable"), (0, .class_ 4), (0, u "java/lang/Object")] 7

/-- java/lang/Comparable -/
def k3 : Class := { plain "java/lang/Comparable" (some 0) with
  accessFlags := 1537
  interfaces := #[]
  cf := some (fileOf pool3 1 #[] #[] 1537 3 #[] #[])
  fields := #[]
  methods := #[]
  instanceTypes := #[]
  staticTypes := #[]
  resolved := Array.replicate 12 none
  statics := none }

def pool4 : Array CpInfo := pool [(1, .class_ 2), (0, u "java/io/Serializable"), (0, .class_ 4), (0, u "java/lang/Object")] 2

/-- java/io/Serializable -/
def k4 : Class := { plain "java/io/Serializable" (some 0) with
  accessFlags := 1537
  interfaces := #[]
  cf := some (fileOf pool4 1 #[] #[] 1537 3 #[] #[])
  fields := #[]
  methods := #[]
  instanceTypes := #[]
  staticTypes := #[]
  resolved := Array.replicate 7 none
  statics := none }

def pool5 : Array CpInfo := pool [(2, .class_ 4), (1, u "java/lang/Enum"), (0, u "name"), (0, u "Ljava/lang/String;"), (2, u "ordinal"), (0, u "I"), (1, .class_ 14), (1, u "java/lang/Object"), (4, u "hash"), (86, .class_ 108), (1, u "java/lang/Enum$EnumDesc"), (2, .class_ 112), (0, u "java/lang/constant/Constable"), (0, .class_ 114), (0, u "java/lang/Comparable"), (0, .class_ 116), (0, u "java/io/Serializable")] 87

/-- java/lang/Enum -/
def k5 : Class := { plain "java/lang/Enum" (some 0) with
  accessFlags := 1057
  interfaces := #[2, 3, 4]
  cf := some (fileOf pool5 2 #[.nestMembers #[106]] #[] 1057 12 #[111, 113, 115] #[{ accessFlags := 18, nameIndex := 5, descriptorIndex := 6, attributes := #[] }, { accessFlags := 18, nameIndex := 9, descriptorIndex := 10, attributes := #[] }, { accessFlags := 2, nameIndex := 19, descriptorIndex := 10, attributes := #[] }])
  fields := #[{ name := "name", type := (.object "java/lang/String"), accessFlags := 18, slot := 0, constantValue := 0 }, { name := "ordinal", type := .int, accessFlags := 18, slot := 1, constantValue := 0 }, { name := "hash", type := .int, accessFlags := 2, slot := 2, constantValue := 0 }]
  methods := #[]
  instanceTypes := #[(.object "java/lang/String"), .int, .int]
  staticTypes := #[]
  resolved := Array.replicate 204 none
  statics := none }

def pool6 : Array CpInfo := pool [(1, .class_ 2), (0, u "com/example/libxform/libxform/output/XmlVersion"), (0, .fieldref 1 4), (0, .nameAndType 5 6), (0, u "V1_0"), (0, u "Lcom/example/libxform/libxform/output/XmlVersion;"), (2, u "V1_1"), (2, u "$VALUES"), (0, u "[Lcom/example/libxform/libxform/output/XmlVersion;"), (6, .class_ 22), (1, u "java/lang/Enum"), (8, u "number"), (0, u "Ljava/lang/String;"), (41, u "(I)Z"), (0, u "restricts")] 22

def k6c0 : Code := { maxStack := 2, maxLocals := 2, code := prog_55_method_7_code, exceptionTable := #[], attributes := #[] }
def k6m0 : Method := { name := "restricts", desc := "(I)Z", sig := { parameters := [.int], returnType := some .boolean }, accessFlags := 0, code := some k6c0 }
/-- com/example/libxform/libxform/output/XmlVersion -/
def k6 : Class := { plain "com/example/libxform/libxform/output/XmlVersion" (some 5) with
  accessFlags := 16432
  interfaces := #[]
  cf := some (fileOf pool6 1 #[] #[{ accessFlags := 0, nameIndex := 75, descriptorIndex := 74, attributes := #[] }] 16432 20 #[] #[{ accessFlags := 16409, nameIndex := 5, descriptorIndex := 6, attributes := #[] }, { accessFlags := 16409, nameIndex := 9, descriptorIndex := 6, attributes := #[] }, { accessFlags := 18, nameIndex := 31, descriptorIndex := 32, attributes := #[] }, { accessFlags := 4122, nameIndex := 12, descriptorIndex := 13, attributes := #[] }])
  fields := #[{ name := "V1_0", type := (.object "com/example/libxform/libxform/output/XmlVersion"), accessFlags := 16409, slot := 0, constantValue := 0 }, { name := "V1_1", type := (.object "com/example/libxform/libxform/output/XmlVersion"), accessFlags := 16409, slot := 1, constantValue := 0 }, { name := "number", type := (.object "java/lang/String"), accessFlags := 18, slot := 3, constantValue := 0 }, { name := "$VALUES", type := (.array (.object "com/example/libxform/libxform/output/XmlVersion")), accessFlags := 4122, slot := 2, constantValue := 0 }]
  methods := #[k6m0]
  instanceTypes := #[(.object "java/lang/String"), .int, .int, (.object "java/lang/String")]
  staticTypes := #[(.object "com/example/libxform/libxform/output/XmlVersion"), (.object "com/example/libxform/libxform/output/XmlVersion"), (.array (.object "com/example/libxform/libxform/output/XmlVersion"))]
  resolved := Array.replicate 98 none
  statics := some 0 }

def pool7 : Array CpInfo := pool [(1, u "java/lang/Cloneable"), (0, .class_ 1), (0, u "java/lang/Object"), (0, .class_ 3)] 3

/-- java/lang/Cloneable -/
def k7 : Class := { plain "java/lang/Cloneable" (some 0) with
  accessFlags := 1537
  interfaces := #[]
  cf := some (fileOf pool7 2 #[] #[] 1537 4 #[] #[])
  fields := #[]
  methods := #[]
  instanceTypes := #[]
  staticTypes := #[]
  resolved := Array.replicate 8 none
  statics := none }

/-- the primitive byte -/
def k8 : Class := { plain "byte" none with kind := .primitive 'B', accessFlags := 0x411 }
/-- [B -/
def k9 : Class := { plain "[B" (some 0) with kind := .array 8 .byte, interfaces := #[7, 4], accessFlags := 1041 }

/-- the primitive int -/
def k10 : Class := { plain "int" none with kind := .primitive 'I', accessFlags := 0x411 }
/-- [I -/
def k11 : Class := { plain "[I" (some 0) with kind := .array 10 .int, interfaces := #[7, 4], accessFlags := 1041 }

def heap : Heap := #[{ cls := 6, slots := #[.ref 1, .ref 2, .null], vm := .statics 6 },
  { cls := 6, slots := #[.null, .int 0, .int 0, .null], vm := .none },
  { cls := 6, slots := #[.null, .int 1, .int 0, .null], vm := .none }]
def classes : Array Class := #[k0, k1, k2, k3, k4, k5, k6, k7, k8, k9, k10, k11]
def interned : List (Array UInt16 × Addr) := []
def slotsUsed : Nat := 11
def theMethod : MethodId := ⟨1, 3⟩
def args0 : Array Value := #[.int 5, .int 70]
def aboutOver (below : List Frame) : State where
  vm := { classes := classes, interned := interned.toArray }
  heap := heap
  slotsUsed := slotsUsed
  threads := #[{ frames := .invoking theMethod args0 :: below }]
def below0 : List Frame := [.native { method := ⟨0, 0⟩, args := #[] }]
def about1 : State := aboutOver below0
def p0 : Program := .bare "" "" ""
def e0 : Env := launch0.env 0 0 0
theorem w_frames : about1.frames = Frame.invoking theMethod args0 :: below0 := rfl
set_option maxRecDepth 65536 in
theorem w_args : argsFit about1.vm theMethod args0 = true := by decide +kernel
set_option maxRecDepth 65536 in
theorem w_heap : heapFits about1 = true := by decide +kernel
set_option maxRecDepth 65536 in
theorem w_runnable : about1.curStatus? = some .runnable := by decide +kernel
set_option maxRecDepth 65536 in
theorem w_alone : about1.alone = true := by decide +kernel
set_option maxRecDepth 65536 in
theorem w_named : about1.methodNamed? x = some theMethod := by decide +kernel
set_option maxRecDepth 65536 in
theorem w_hears : about1.hears theMethod below0 = true := by decide +kernel
set_option maxRecDepth 65536 in
theorem w_ripe : about1.ripe theMethod args0 below0 = true := by decide +kernel
theorem w_running : about1.status = .running := rfl
set_option maxRecDepth 65536 in
theorem w_room : about1.hasRoom e0.platform room_1 = true :=
  launch0.hasRoom_least _ room_1 (by decide +kernel) (by decide +kernel) (by decide +kernel) (by decide +kernel) (by decide +kernel) (by decide +kernel)
theorem allAtoms_all (ts : List Jvm.Cond) (a : Array Jvm.Value) (st : Jvm.State) : (allAtoms ts).before a st = ts.all (fun c => c.before a st) := by
  induction ts with
  | nil => rfl
  | cons c t ih =>
    show (Jvm.Cond.and c (allAtoms t)).before a st = _
    rw [Jvm.Cond.before_and, ih, List.all_cons]
def words1 : List Jvm.Cond := Jvm.Cond.code x code maxLocals ret :: tables_1
/-- a 'code' word, met by the world's own term for the bytes: nothing is compared byte by byte -/
theorem code_word {y : MethodName} {bytes : ByteArray} {mx : Nat} {rt : Option FieldType} {a : Array Value} {s : State} {m : MethodId} {meth : Method} {c : Code} (h1 : s.methodNamed? y = some m) (h2 : s.vm.method? m = some meth) (h3 : meth.code = some c) (h4 : c.code = bytes)
    (h5 : (c.maxLocals == mx && c.exceptionTable.isEmpty && decide (c.maxStack ≤ mostOperands) && decide (meth.sig.returnType = rt) && !meth.locks && decide (parseMethodDescriptor y.desc = some meth.sig)) = true) : (Jvm.Cond.code y bytes mx rt).before a s = true := by
  simp only [Bool.and_eq_true, beq_iff_eq, Bool.not_eq_true', decide_eq_true_eq] at h5
  obtain ⟨⟨⟨⟨⟨g1, g2⟩, g3⟩, g4⟩, g5⟩, g6⟩ := h5
  simp [Cond.before, Cond.holds, Cond.value, h1, h2, h3, h4, g1, g2, g3, g4, g5, g6]
def isCode : Jvm.Cond → Bool
  | .code _ _ _ _ => true
  | _ => false
theorem all_split {L : List Jvm.Cond} {P : Jvm.Cond → Bool} (h1 : L.all (fun c => isCode c || P c) = true) (h2 : ∀ c ∈ L.filter isCode, P c = true) : L.all P = true := by
  refine List.all_eq_true.mpr fun c hc => ?_
  have h := List.all_eq_true.mp h1 c hc
  rcases Bool.eq_false_or_eq_true (isCode c) with hi | hi
  · exact h2 c (List.mem_filter.mpr ⟨hc, hi⟩)
  · simpa [hi] using h
set_option maxRecDepth 65536 in
theorem w_c0 : (Jvm.Cond.code x code maxLocals ret).before args0 about1 = true := code_word (m := ⟨1, 3⟩) (meth := k1m3) (c := k1c3) (by decide +kernel) rfl rfl rfl (by decide +kernel)
set_option maxRecDepth 65536 in
theorem w_c1 : (Jvm.Cond.code ({ cls := "com/example/libxform/libxform/output/XmlVersion", name := "restricts", desc := "(I)Z" } : Jvm.MethodName) prog_55_method_7_code (2 : Nat) (Option.some Jvm.ClassFile.FieldType.boolean)).before args0 about1 = true := code_word (m := ⟨6, 0⟩) (meth := k6m0) (c := k6c0) (by decide +kernel) rfl rfl rfl (by decide +kernel)
set_option maxRecDepth 65536 in
theorem w_c2 : (Jvm.Cond.code ({ cls := "com/example/libxform/libxform/output/XmlVersionRestrictsPinLaw", name := "isChar11", desc := "(I)Z" } : Jvm.MethodName) method_2_code (1 : Nat) (Option.some Jvm.ClassFile.FieldType.boolean)).before args0 about1 = true := code_word (m := ⟨1, 1⟩) (meth := k1m1) (c := k1c1) (by decide +kernel) rfl rfl rfl (by decide +kernel)
set_option maxRecDepth 65536 in
theorem w_c3 : (Jvm.Cond.code ({ cls := "com/example/libxform/libxform/output/XmlVersionRestrictsPinLaw", name := "restricted11", desc := "(I)Z" } : Jvm.MethodName) method_3_code (1 : Nat) (Option.some Jvm.ClassFile.FieldType.boolean)).before args0 about1 = true := code_word (m := ⟨1, 2⟩) (meth := k1m2) (c := k1c2) (by decide +kernel) rfl rfl rfl (by decide +kernel)
def codes1 : List Jvm.Cond := [Jvm.Cond.code x code maxLocals ret, Jvm.Cond.code ({ cls := "com/example/libxform/libxform/output/XmlVersion", name := "restricts", desc := "(I)Z" } : Jvm.MethodName) prog_55_method_7_code (2 : Nat) (Option.some Jvm.ClassFile.FieldType.boolean), Jvm.Cond.code ({ cls := "com/example/libxform/libxform/output/XmlVersionRestrictsPinLaw", name := "isChar11", desc := "(I)Z" } : Jvm.MethodName) method_2_code (1 : Nat) (Option.some Jvm.ClassFile.FieldType.boolean), Jvm.Cond.code ({ cls := "com/example/libxform/libxform/output/XmlVersionRestrictsPinLaw", name := "restricted11", desc := "(I)Z" } : Jvm.MethodName) method_3_code (1 : Nat) (Option.some Jvm.ClassFile.FieldType.boolean)]
set_option maxRecDepth 65536 in
theorem codes_eq : words1.filter isCode = codes1 := rfl
theorem w_codes : ∀ c ∈ words1.filter isCode, c.before args0 about1 = true := by
  rw [codes_eq]
  intro c hc
  simp only [codes1, List.mem_cons, List.not_mem_nil, or_false] at hc
  rcases hc with rfl | rfl | rfl | rfl
  · exact w_c0
  · exact w_c1
  · exact w_c2
  · exact w_c3
set_option maxRecDepth 65536 in
theorem w_t1 : (words1.take 24).all (fun c => isCode c || c.before args0 about1) = true := by decide +kernel
set_option maxRecDepth 65536 in
theorem w_t2 : (words1.drop 24).all (fun c => isCode c || c.before args0 about1) = true := by decide +kernel
theorem w_tables : (allAtoms (Jvm.Cond.code x code maxLocals ret :: tables_1)).before args0 about1 = true := by
  rw [allAtoms_all]
  show words1.all (fun c => c.before args0 about1) = true
  refine all_split ?_ w_codes
  rw [← List.take_append_drop 24 words1, List.all_append, w_t1, w_t2]
  rfl
set_option maxRecDepth 65536 in
theorem w_case : (Jvm.Cond.and given_1 narrow_1).before args0 about1 = true := by decide +kernel
theorem w_applies : (headSpec (Jvm.Cond.code x code maxLocals ret :: tables_1) room_1).applies x e0.platform about1 = true :=
  (Spec.applies_iff w_frames).mpr ⟨w_running, w_runnable, w_alone, w_named, w_hears, w_ripe, w_room, w_tables⟩
theorem atStart : AtStart classFile x code maxLocals ret World_1 tables_1 room_1 Calls_1 rest_1 Pre_1 launch0 p0 e0 about1 theMethod args0 below0 :=
  ⟨lists_1, trivial, launch0.admits_env _ _ _, launch0.least_env, fairChoices_fair.cas, fairChoices_fair.clock, w_frames, w_args, w_heap, w_applies, trivial, trivial, w_case⟩
end start1
theorem witness_1 : WitnessClaimed_1 := ⟨start1.p0, start1.e0, start1.about1, start1.theMethod, start1.args0, start1.below0, start1.atStart⟩
end Jvm.Pilot.@@N@@
