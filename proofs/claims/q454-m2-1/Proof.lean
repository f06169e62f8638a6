import JvmDerived
import JvmDerived.Pilot.@@N@@Statement
import JvmDerived.Pilot.@@N@@Code
set_option linter.unusedVariables false
set_option linter.unusedSimpArgs false
namespace Jvm.RoadKit
open Sem ClassFile Op Lib Jvm.Stand Jvm.Free Jvm.LawKit
section New
variable {p : Program} {l : Launch} {e : Env} {R : Room} {s : State} {m : MethodId} {args : Array Value} {below : List Frame} {meth : Method} {c : Code} {T : State} {locs : List Loc} {cells slots : Nat}
theorem retI (X : Stand p l e R s m args below meth c T locs cells slots) (hx : p.tables.exec = Jvm.exec) {pc : Nat} {Ls : Array Slot} {z : Int32} {rest : List Value} (hret : meth.sig.returnType = some .int) (hd : decode c.code pc = .ok (.ireturn, 1)) {fs : List Frame}
    (hl : ∀ (f : JFrame) (acts : List Action), f.method = m → f.locked = none → f.entered = [] → (doReturn e (T.setTop f) acts (some (.int z))).1 = T.setFrames fs) : Steps p.tables e below (T.setTop (mkF m pc Ls (.int z :: rest))) (T.setFrames fs) := by
  have hm' : T.vm.method? m = some meth := X.method'
  have hn : narrow .int (.int z) = .int z := rfl
  show Steps p.tables e below (T.setTop { method := m, pc := pc, locals := Ls, stack := _ :: rest, locked := none }) _
  jvm_step X.here [X.here.top, hx, hd, hm', hret, hn]
  first | (intro acts; rw [hl _ acts rfl rfl rfl]) | rw [hl _ _ rfl rfl rfl]
  exact Steps.refl _
end New
end Jvm.RoadKit
namespace Jvm.Pilot.@@N@@
open Jvm Jvm.ClassFile Sem Op Lib Jvm.Free Jvm.Stand Jvm.LawKit Jvm.RoadKit Bundle Jvm.Pilot.@@N@@.Jvm.D
theorem own_nm {x a : Addr} (h : x ≠ a) : x ∉ [a] := fun q => h (List.mem_singleton.mp q)
theorem own_nar {v : Int32} (h : v = (0 : Int32) ∨ v = (1 : Int32)) : nar .boolean v = v := by rcases h with rfl | rfl <;> decide
/-- what a body that writes nothing leaves -/
def QP (r : Option Value) (h0 : Heap) (v : Option Value) (h : Heap) (L : List Loc) : Prop := v = r ∧ L = [] ∧ h = h0
theorem pd__I_Z : parseMethodDescriptor "(I)Z" = some ⟨[.int], some .boolean⟩ := by decide +kernel
theorem own_lt {p : Int32} (c : Int32) (k : Int) (hk : c.toInt = k) (h : p.toInt < k) : p < c := Int32.lt_iff_toInt_lt.mpr (by omega)
theorem own_nlt {p : Int32} (c : Int32) (k : Int) (hk : c.toInt = k) (h : k ≤ p.toInt) : ¬ p < c := fun q => by have := Int32.lt_iff_toInt_lt.mp q; omega
theorem own_gt {p : Int32} (c : Int32) (k : Int) (hk : c.toInt = k) (h : k < p.toInt) : c < p := Int32.lt_iff_toInt_lt.mpr (by omega)
theorem own_ngt {p : Int32} (c : Int32) (k : Int) (hk : c.toInt = k) (h : p.toInt ≤ k) : ¬ c < p := fun q => by have := Int32.lt_iff_toInt_lt.mp q; omega
theorem own_ne {p : Int32} (c : Int32) (k : Int) (hk : c.toInt = k) (h : p.toInt ≠ k) : ¬ p = c := fun q => h (by rw [q]; exact hk)
theorem own_eq {p : Int32} (c : Int32) (k : Int) (hk : c.toInt = k) (h : p.toInt = k) : p = c := Int32.toInt_inj.mp (by omega)
theorem own_irem (x y : Int32) (d : Int) (hy : y.toInt = d) (hd : 0 < d) (hx : 0 ≤ x.toInt) : (x - (x / y) * y).toInt = x.toInt % d := by
  have hm : y ≠ -1 := fun h => by rw [h] at hy; have : (-1 : Int32).toInt = -1 := rfl; omega
  have h1 := (c_idiv x y d hy hm).1 hx
  have h2 := c_imul (x / y) y
  have h3 := c_isub x ((x / y) * y)
  have h4 := rng32 (x - (x / y) * y)
  have h5 := rng32 x
  have h10 := rng32 ((x / y) * y)
  rw [h1, hy] at h2
  have h6 : x.toInt / d * d + x.toInt % d = x.toInt := Int.ediv_mul_add_emod x.toInt d
  have h7 := Int.emod_nonneg x.toInt (by omega : d ≠ 0)
  have h8 := Int.emod_lt_of_pos x.toInt (by omega : 0 < d)
  have h9 : 0 ≤ x.toInt / d * d := Int.mul_nonneg (Int.ediv_nonneg hx (by omega)) (by omega)
  generalize x.toInt / d * d = t at *
  omega
theorem own_eqv {args : Array Value} {s : State} {t : Term} {k : Int32} (h : (Jvm.Cond.eq t (.int k)).value args s none s [] = some true) : t.eval args s none [] s = some (.int k) := by
  obtain ⟨x, y, hx, hy, hk, -⟩ := cmp_v (Or.inl h)
  rw [Term.int_eval] at hy
  cases hy
  cases x with
  | int z => have h2 : (Jvm.Cond.eq t (.int k)).value args s none s [] = some (decide (z = k)) := by simp [Jvm.Cond.value, hx, Term.int_eval]
             have := gotT h2 h; rw [hx, this]
  | _ => simp [Kin, Value.isRef] at hk
def fA (a1 w1 : Addr) (p1 : Int32) : Int32 := (if p1 < (32 : Int32) then (if p1 < (57344 : Int32) then (if p1 < (65536 : Int32) then (if a1 = w1 then (if (0 : Int32) < p1 then (if p1 < (32 : Int32) then (1 : Int32) else (0 : Int32)) else (0 : Int32)) else (if p1 = (9 : Int32) then (1 : Int32) else (if p1 = (10 : Int32) then (1 : Int32) else (if p1 = (13 : Int32) then (1 : Int32) else (0 : Int32))))) else (if (1114111 : Int32) < p1 then (if a1 = w1 then (if (0 : Int32) < p1 then (if p1 < (32 : Int32) then (1 : Int32) else (0 : Int32)) else (0 : Int32)) else (if p1 = (9 : Int32) then (1 : Int32) else (if p1 = (10 : Int32) then (1 : Int32) else (if p1 = (13 : Int32) then (1 : Int32) else (0 : Int32))))) else (1 : Int32))) else (if (65533 : Int32) < p1 then (if p1 < (65536 : Int32) then (if a1 = w1 then (if (0 : Int32) < p1 then (if p1 < (32 : Int32) then (1 : Int32) else (0 : Int32)) else (0 : Int32)) else (if p1 = (9 : Int32) then (1 : Int32) else (if p1 = (10 : Int32) then (1 : Int32) else (if p1 = (13 : Int32) then (1 : Int32) else (0 : Int32))))) else (if (1114111 : Int32) < p1 then (if a1 = w1 then (if (0 : Int32) < p1 then (if p1 < (32 : Int32) then (1 : Int32) else (0 : Int32)) else (0 : Int32)) else (if p1 = (9 : Int32) then (1 : Int32) else (if p1 = (10 : Int32) then (1 : Int32) else (if p1 = (13 : Int32) then (1 : Int32) else (0 : Int32))))) else (1 : Int32))) else (1 : Int32))) else (if (55295 : Int32) < p1 then (if p1 < (57344 : Int32) then (if p1 < (65536 : Int32) then (if a1 = w1 then (if (0 : Int32) < p1 then (if p1 < (32 : Int32) then (1 : Int32) else (0 : Int32)) else (0 : Int32)) else (if p1 = (9 : Int32) then (1 : Int32) else (if p1 = (10 : Int32) then (1 : Int32) else (if p1 = (13 : Int32) then (1 : Int32) else (0 : Int32))))) else (if (1114111 : Int32) < p1 then (if a1 = w1 then (if (0 : Int32) < p1 then (if p1 < (32 : Int32) then (1 : Int32) else (0 : Int32)) else (0 : Int32)) else (if p1 = (9 : Int32) then (1 : Int32) else (if p1 = (10 : Int32) then (1 : Int32) else (if p1 = (13 : Int32) then (1 : Int32) else (0 : Int32))))) else (1 : Int32))) else (if (65533 : Int32) < p1 then (if p1 < (65536 : Int32) then (if a1 = w1 then (if (0 : Int32) < p1 then (if p1 < (32 : Int32) then (1 : Int32) else (0 : Int32)) else (0 : Int32)) else (if p1 = (9 : Int32) then (1 : Int32) else (if p1 = (10 : Int32) then (1 : Int32) else (if p1 = (13 : Int32) then (1 : Int32) else (0 : Int32))))) else (if (1114111 : Int32) < p1 then (if a1 = w1 then (if (0 : Int32) < p1 then (if p1 < (32 : Int32) then (1 : Int32) else (0 : Int32)) else (0 : Int32)) else (if p1 = (9 : Int32) then (1 : Int32) else (if p1 = (10 : Int32) then (1 : Int32) else (if p1 = (13 : Int32) then (1 : Int32) else (0 : Int32))))) else (1 : Int32))) else (1 : Int32))) else (1 : Int32)))
def fIR (p1 : Int32) : Int32 := (if p1 < (0 : Int32) then (0 : Int32) else (if (1114111 : Int32) < p1 then (0 : Int32) else (1 : Int32)))
def fSG (p1 : Int32) : Int32 := (if p1 < (55296 : Int32) then (0 : Int32) else (if (57343 : Int32) < p1 then (0 : Int32) else (1 : Int32)))
def fNC (p1 : Int32) : Int32 := (if p1 = (65534 : Int32) then (1 : Int32) else (if p1 = (65535 : Int32) then (1 : Int32) else (0 : Int32)))
def fCT (p1 : Int32) : Int32 := (if p1 < (32 : Int32) then (1 : Int32) else (0 : Int32))
def fO1 (p1 : Int32) : Int32 := (if p1 = (0 : Int32) then (0 : Int32) else (1 : Int32))
def fO0 (p1 : Int32) : Int32 := (if p1 = (9 : Int32) then (1 : Int32) else (if p1 = (10 : Int32) then (1 : Int32) else (if p1 = (13 : Int32) then (1 : Int32) else (0 : Int32))))
def fEX (ir sg nc ct ok : Int32) : Int32 := (if ir = (0 : Int32) then (0 : Int32) else (if sg = (0 : Int32) then (if nc = (0 : Int32) then (if ct = (0 : Int32) then (1 : Int32) else (if ok = (0 : Int32) then (0 : Int32) else (1 : Int32))) else (0 : Int32)) else (0 : Int32)))
def Q0 (n0 : Nat) (v : Option Value) (h : Heap) (L : List Loc) : Prop := v = some (.int (1 : Int32)) ∧ Fr n0 L
theorem own_law1_0 (w1 : Addr) (p1 : Int32) (h2 : p1.toInt ≤ -1) : fA w1 w1 p1 = fEX (fIR p1) (fSG p1) (fNC p1) (fCT p1) (fO1 p1) := by
  have l0 : p1 < (0 : Int32) := own_lt (0 : Int32) 0 rfl (by omega)
  have l32 : p1 < (32 : Int32) := own_lt (32 : Int32) 32 rfl (by omega)
  have l55296 : p1 < (55296 : Int32) := own_lt (55296 : Int32) 55296 rfl (by omega)
  have l57344 : p1 < (57344 : Int32) := own_lt (57344 : Int32) 57344 rfl (by omega)
  have l65536 : p1 < (65536 : Int32) := own_lt (65536 : Int32) 65536 rfl (by omega)
  have g0 : ¬ (0 : Int32) < p1 := own_ngt (0 : Int32) 0 rfl (by omega)
  have g55295 : ¬ (55295 : Int32) < p1 := own_ngt (55295 : Int32) 55295 rfl (by omega)
  have g57343 : ¬ (57343 : Int32) < p1 := own_ngt (57343 : Int32) 57343 rfl (by omega)
  have g65533 : ¬ (65533 : Int32) < p1 := own_ngt (65533 : Int32) 65533 rfl (by omega)
  have g1114111 : ¬ (1114111 : Int32) < p1 := own_ngt (1114111 : Int32) 1114111 rfl (by omega)
  have q0 : ¬ p1 = (0 : Int32) := own_ne (0 : Int32) 0 rfl (by omega)
  have q9 : ¬ p1 = (9 : Int32) := own_ne (9 : Int32) 9 rfl (by omega)
  have q10 : ¬ p1 = (10 : Int32) := own_ne (10 : Int32) 10 rfl (by omega)
  have q13 : ¬ p1 = (13 : Int32) := own_ne (13 : Int32) 13 rfl (by omega)
  have q65534 : ¬ p1 = (65534 : Int32) := own_ne (65534 : Int32) 65534 rfl (by omega)
  have q65535 : ¬ p1 = (65535 : Int32) := own_ne (65535 : Int32) 65535 rfl (by omega)
  simp only [fIR, fSG, fNC, fCT, fO1, fA, l0, l32, l55296, l57344, l65536, g0, g55295, g57343, g65533, g1114111, q0, q9, q10, q13, q65534, q65535, if_true, if_false, eq_self_iff_true]; decide
theorem own_law1_1 (w1 : Addr) (p1 : Int32) (h1 : 0 ≤ p1.toInt) (h2 : p1.toInt ≤ 0) : fA w1 w1 p1 = fEX (fIR p1) (fSG p1) (fNC p1) (fCT p1) (fO1 p1) := by
  have q : p1 = (0 : Int32) := own_eq (0 : Int32) 0 rfl (by omega)
  subst q; simp only [fA, eq_self_iff_true, if_true, if_false]; decide
theorem own_law1_2 (w1 : Addr) (p1 : Int32) (h1 : 1 ≤ p1.toInt) (h2 : p1.toInt ≤ 8) : fA w1 w1 p1 = fEX (fIR p1) (fSG p1) (fNC p1) (fCT p1) (fO1 p1) := by
  have l0 : ¬ p1 < (0 : Int32) := own_nlt (0 : Int32) 0 rfl (by omega)
  have l32 : p1 < (32 : Int32) := own_lt (32 : Int32) 32 rfl (by omega)
  have l55296 : p1 < (55296 : Int32) := own_lt (55296 : Int32) 55296 rfl (by omega)
  have l57344 : p1 < (57344 : Int32) := own_lt (57344 : Int32) 57344 rfl (by omega)
  have l65536 : p1 < (65536 : Int32) := own_lt (65536 : Int32) 65536 rfl (by omega)
  have g0 : (0 : Int32) < p1 := own_gt (0 : Int32) 0 rfl (by omega)
  have g55295 : ¬ (55295 : Int32) < p1 := own_ngt (55295 : Int32) 55295 rfl (by omega)
  have g57343 : ¬ (57343 : Int32) < p1 := own_ngt (57343 : Int32) 57343 rfl (by omega)
  have g65533 : ¬ (65533 : Int32) < p1 := own_ngt (65533 : Int32) 65533 rfl (by omega)
  have g1114111 : ¬ (1114111 : Int32) < p1 := own_ngt (1114111 : Int32) 1114111 rfl (by omega)
  have q0 : ¬ p1 = (0 : Int32) := own_ne (0 : Int32) 0 rfl (by omega)
  have q9 : ¬ p1 = (9 : Int32) := own_ne (9 : Int32) 9 rfl (by omega)
  have q10 : ¬ p1 = (10 : Int32) := own_ne (10 : Int32) 10 rfl (by omega)
  have q13 : ¬ p1 = (13 : Int32) := own_ne (13 : Int32) 13 rfl (by omega)
  have q65534 : ¬ p1 = (65534 : Int32) := own_ne (65534 : Int32) 65534 rfl (by omega)
  have q65535 : ¬ p1 = (65535 : Int32) := own_ne (65535 : Int32) 65535 rfl (by omega)
  simp only [fIR, fSG, fNC, fCT, fO1, fA, l0, l32, l55296, l57344, l65536, g0, g55295, g57343, g65533, g1114111, q0, q9, q10, q13, q65534, q65535, if_true, if_false, eq_self_iff_true]; decide
theorem own_law1_3 (w1 : Addr) (p1 : Int32) (h1 : 9 ≤ p1.toInt) (h2 : p1.toInt ≤ 9) : fA w1 w1 p1 = fEX (fIR p1) (fSG p1) (fNC p1) (fCT p1) (fO1 p1) := by
  have q : p1 = (9 : Int32) := own_eq (9 : Int32) 9 rfl (by omega)
  subst q; simp only [fA, eq_self_iff_true, if_true, if_false]; decide
theorem own_law1_4 (w1 : Addr) (p1 : Int32) (h1 : 10 ≤ p1.toInt) (h2 : p1.toInt ≤ 10) : fA w1 w1 p1 = fEX (fIR p1) (fSG p1) (fNC p1) (fCT p1) (fO1 p1) := by
  have q : p1 = (10 : Int32) := own_eq (10 : Int32) 10 rfl (by omega)
  subst q; simp only [fA, eq_self_iff_true, if_true, if_false]; decide
theorem own_law1_5 (w1 : Addr) (p1 : Int32) (h1 : 11 ≤ p1.toInt) (h2 : p1.toInt ≤ 12) : fA w1 w1 p1 = fEX (fIR p1) (fSG p1) (fNC p1) (fCT p1) (fO1 p1) := by
  have l0 : ¬ p1 < (0 : Int32) := own_nlt (0 : Int32) 0 rfl (by omega)
  have l32 : p1 < (32 : Int32) := own_lt (32 : Int32) 32 rfl (by omega)
  have l55296 : p1 < (55296 : Int32) := own_lt (55296 : Int32) 55296 rfl (by omega)
  have l57344 : p1 < (57344 : Int32) := own_lt (57344 : Int32) 57344 rfl (by omega)
  have l65536 : p1 < (65536 : Int32) := own_lt (65536 : Int32) 65536 rfl (by omega)
  have g0 : (0 : Int32) < p1 := own_gt (0 : Int32) 0 rfl (by omega)
  have g55295 : ¬ (55295 : Int32) < p1 := own_ngt (55295 : Int32) 55295 rfl (by omega)
  have g57343 : ¬ (57343 : Int32) < p1 := own_ngt (57343 : Int32) 57343 rfl (by omega)
  have g65533 : ¬ (65533 : Int32) < p1 := own_ngt (65533 : Int32) 65533 rfl (by omega)
  have g1114111 : ¬ (1114111 : Int32) < p1 := own_ngt (1114111 : Int32) 1114111 rfl (by omega)
  have q0 : ¬ p1 = (0 : Int32) := own_ne (0 : Int32) 0 rfl (by omega)
  have q9 : ¬ p1 = (9 : Int32) := own_ne (9 : Int32) 9 rfl (by omega)
  have q10 : ¬ p1 = (10 : Int32) := own_ne (10 : Int32) 10 rfl (by omega)
  have q13 : ¬ p1 = (13 : Int32) := own_ne (13 : Int32) 13 rfl (by omega)
  have q65534 : ¬ p1 = (65534 : Int32) := own_ne (65534 : Int32) 65534 rfl (by omega)
  have q65535 : ¬ p1 = (65535 : Int32) := own_ne (65535 : Int32) 65535 rfl (by omega)
  simp only [fIR, fSG, fNC, fCT, fO1, fA, l0, l32, l55296, l57344, l65536, g0, g55295, g57343, g65533, g1114111, q0, q9, q10, q13, q65534, q65535, if_true, if_false, eq_self_iff_true]; decide
theorem own_law1_6 (w1 : Addr) (p1 : Int32) (h1 : 13 ≤ p1.toInt) (h2 : p1.toInt ≤ 13) : fA w1 w1 p1 = fEX (fIR p1) (fSG p1) (fNC p1) (fCT p1) (fO1 p1) := by
  have q : p1 = (13 : Int32) := own_eq (13 : Int32) 13 rfl (by omega)
  subst q; simp only [fA, eq_self_iff_true, if_true, if_false]; decide
theorem own_law1_7 (w1 : Addr) (p1 : Int32) (h1 : 14 ≤ p1.toInt) (h2 : p1.toInt ≤ 31) : fA w1 w1 p1 = fEX (fIR p1) (fSG p1) (fNC p1) (fCT p1) (fO1 p1) := by
  have l0 : ¬ p1 < (0 : Int32) := own_nlt (0 : Int32) 0 rfl (by omega)
  have l32 : p1 < (32 : Int32) := own_lt (32 : Int32) 32 rfl (by omega)
  have l55296 : p1 < (55296 : Int32) := own_lt (55296 : Int32) 55296 rfl (by omega)
  have l57344 : p1 < (57344 : Int32) := own_lt (57344 : Int32) 57344 rfl (by omega)
  have l65536 : p1 < (65536 : Int32) := own_lt (65536 : Int32) 65536 rfl (by omega)
  have g0 : (0 : Int32) < p1 := own_gt (0 : Int32) 0 rfl (by omega)
  have g55295 : ¬ (55295 : Int32) < p1 := own_ngt (55295 : Int32) 55295 rfl (by omega)
  have g57343 : ¬ (57343 : Int32) < p1 := own_ngt (57343 : Int32) 57343 rfl (by omega)
  have g65533 : ¬ (65533 : Int32) < p1 := own_ngt (65533 : Int32) 65533 rfl (by omega)
  have g1114111 : ¬ (1114111 : Int32) < p1 := own_ngt (1114111 : Int32) 1114111 rfl (by omega)
  have q0 : ¬ p1 = (0 : Int32) := own_ne (0 : Int32) 0 rfl (by omega)
  have q9 : ¬ p1 = (9 : Int32) := own_ne (9 : Int32) 9 rfl (by omega)
  have q10 : ¬ p1 = (10 : Int32) := own_ne (10 : Int32) 10 rfl (by omega)
  have q13 : ¬ p1 = (13 : Int32) := own_ne (13 : Int32) 13 rfl (by omega)
  have q65534 : ¬ p1 = (65534 : Int32) := own_ne (65534 : Int32) 65534 rfl (by omega)
  have q65535 : ¬ p1 = (65535 : Int32) := own_ne (65535 : Int32) 65535 rfl (by omega)
  simp only [fIR, fSG, fNC, fCT, fO1, fA, l0, l32, l55296, l57344, l65536, g0, g55295, g57343, g65533, g1114111, q0, q9, q10, q13, q65534, q65535, if_true, if_false, eq_self_iff_true]; decide
theorem own_law1_8 (w1 : Addr) (p1 : Int32) (h1 : 32 ≤ p1.toInt) (h2 : p1.toInt ≤ 55295) : fA w1 w1 p1 = fEX (fIR p1) (fSG p1) (fNC p1) (fCT p1) (fO1 p1) := by
  have l0 : ¬ p1 < (0 : Int32) := own_nlt (0 : Int32) 0 rfl (by omega)
  have l32 : ¬ p1 < (32 : Int32) := own_nlt (32 : Int32) 32 rfl (by omega)
  have l55296 : p1 < (55296 : Int32) := own_lt (55296 : Int32) 55296 rfl (by omega)
  have l57344 : p1 < (57344 : Int32) := own_lt (57344 : Int32) 57344 rfl (by omega)
  have l65536 : p1 < (65536 : Int32) := own_lt (65536 : Int32) 65536 rfl (by omega)
  have g0 : (0 : Int32) < p1 := own_gt (0 : Int32) 0 rfl (by omega)
  have g55295 : ¬ (55295 : Int32) < p1 := own_ngt (55295 : Int32) 55295 rfl (by omega)
  have g57343 : ¬ (57343 : Int32) < p1 := own_ngt (57343 : Int32) 57343 rfl (by omega)
  have g65533 : ¬ (65533 : Int32) < p1 := own_ngt (65533 : Int32) 65533 rfl (by omega)
  have g1114111 : ¬ (1114111 : Int32) < p1 := own_ngt (1114111 : Int32) 1114111 rfl (by omega)
  have q0 : ¬ p1 = (0 : Int32) := own_ne (0 : Int32) 0 rfl (by omega)
  have q9 : ¬ p1 = (9 : Int32) := own_ne (9 : Int32) 9 rfl (by omega)
  have q10 : ¬ p1 = (10 : Int32) := own_ne (10 : Int32) 10 rfl (by omega)
  have q13 : ¬ p1 = (13 : Int32) := own_ne (13 : Int32) 13 rfl (by omega)
  have q65534 : ¬ p1 = (65534 : Int32) := own_ne (65534 : Int32) 65534 rfl (by omega)
  have q65535 : ¬ p1 = (65535 : Int32) := own_ne (65535 : Int32) 65535 rfl (by omega)
  simp only [fIR, fSG, fNC, fCT, fO1, fA, l0, l32, l55296, l57344, l65536, g0, g55295, g57343, g65533, g1114111, q0, q9, q10, q13, q65534, q65535, if_true, if_false, eq_self_iff_true]; decide
theorem own_law1_9 (w1 : Addr) (p1 : Int32) (h1 : 55296 ≤ p1.toInt) (h2 : p1.toInt ≤ 57343) : fA w1 w1 p1 = fEX (fIR p1) (fSG p1) (fNC p1) (fCT p1) (fO1 p1) := by
  have l0 : ¬ p1 < (0 : Int32) := own_nlt (0 : Int32) 0 rfl (by omega)
  have l32 : ¬ p1 < (32 : Int32) := own_nlt (32 : Int32) 32 rfl (by omega)
  have l55296 : ¬ p1 < (55296 : Int32) := own_nlt (55296 : Int32) 55296 rfl (by omega)
  have l57344 : p1 < (57344 : Int32) := own_lt (57344 : Int32) 57344 rfl (by omega)
  have l65536 : p1 < (65536 : Int32) := own_lt (65536 : Int32) 65536 rfl (by omega)
  have g0 : (0 : Int32) < p1 := own_gt (0 : Int32) 0 rfl (by omega)
  have g55295 : (55295 : Int32) < p1 := own_gt (55295 : Int32) 55295 rfl (by omega)
  have g57343 : ¬ (57343 : Int32) < p1 := own_ngt (57343 : Int32) 57343 rfl (by omega)
  have g65533 : ¬ (65533 : Int32) < p1 := own_ngt (65533 : Int32) 65533 rfl (by omega)
  have g1114111 : ¬ (1114111 : Int32) < p1 := own_ngt (1114111 : Int32) 1114111 rfl (by omega)
  have q0 : ¬ p1 = (0 : Int32) := own_ne (0 : Int32) 0 rfl (by omega)
  have q9 : ¬ p1 = (9 : Int32) := own_ne (9 : Int32) 9 rfl (by omega)
  have q10 : ¬ p1 = (10 : Int32) := own_ne (10 : Int32) 10 rfl (by omega)
  have q13 : ¬ p1 = (13 : Int32) := own_ne (13 : Int32) 13 rfl (by omega)
  have q65534 : ¬ p1 = (65534 : Int32) := own_ne (65534 : Int32) 65534 rfl (by omega)
  have q65535 : ¬ p1 = (65535 : Int32) := own_ne (65535 : Int32) 65535 rfl (by omega)
  simp only [fIR, fSG, fNC, fCT, fO1, fA, l0, l32, l55296, l57344, l65536, g0, g55295, g57343, g65533, g1114111, q0, q9, q10, q13, q65534, q65535, if_true, if_false, eq_self_iff_true]; decide
theorem own_law1_10 (w1 : Addr) (p1 : Int32) (h1 : 57344 ≤ p1.toInt) (h2 : p1.toInt ≤ 65533) : fA w1 w1 p1 = fEX (fIR p1) (fSG p1) (fNC p1) (fCT p1) (fO1 p1) := by
  have l0 : ¬ p1 < (0 : Int32) := own_nlt (0 : Int32) 0 rfl (by omega)
  have l32 : ¬ p1 < (32 : Int32) := own_nlt (32 : Int32) 32 rfl (by omega)
  have l55296 : ¬ p1 < (55296 : Int32) := own_nlt (55296 : Int32) 55296 rfl (by omega)
  have l57344 : ¬ p1 < (57344 : Int32) := own_nlt (57344 : Int32) 57344 rfl (by omega)
  have l65536 : p1 < (65536 : Int32) := own_lt (65536 : Int32) 65536 rfl (by omega)
  have g0 : (0 : Int32) < p1 := own_gt (0 : Int32) 0 rfl (by omega)
  have g55295 : (55295 : Int32) < p1 := own_gt (55295 : Int32) 55295 rfl (by omega)
  have g57343 : (57343 : Int32) < p1 := own_gt (57343 : Int32) 57343 rfl (by omega)
  have g65533 : ¬ (65533 : Int32) < p1 := own_ngt (65533 : Int32) 65533 rfl (by omega)
  have g1114111 : ¬ (1114111 : Int32) < p1 := own_ngt (1114111 : Int32) 1114111 rfl (by omega)
  have q0 : ¬ p1 = (0 : Int32) := own_ne (0 : Int32) 0 rfl (by omega)
  have q9 : ¬ p1 = (9 : Int32) := own_ne (9 : Int32) 9 rfl (by omega)
  have q10 : ¬ p1 = (10 : Int32) := own_ne (10 : Int32) 10 rfl (by omega)
  have q13 : ¬ p1 = (13 : Int32) := own_ne (13 : Int32) 13 rfl (by omega)
  have q65534 : ¬ p1 = (65534 : Int32) := own_ne (65534 : Int32) 65534 rfl (by omega)
  have q65535 : ¬ p1 = (65535 : Int32) := own_ne (65535 : Int32) 65535 rfl (by omega)
  simp only [fIR, fSG, fNC, fCT, fO1, fA, l0, l32, l55296, l57344, l65536, g0, g55295, g57343, g65533, g1114111, q0, q9, q10, q13, q65534, q65535, if_true, if_false, eq_self_iff_true]; decide
theorem own_law1_11 (w1 : Addr) (p1 : Int32) (h1 : 65534 ≤ p1.toInt) (h2 : p1.toInt ≤ 65534) : fA w1 w1 p1 = fEX (fIR p1) (fSG p1) (fNC p1) (fCT p1) (fO1 p1) := by
  have q : p1 = (65534 : Int32) := own_eq (65534 : Int32) 65534 rfl (by omega)
  subst q; simp only [fA, eq_self_iff_true, if_true, if_false]; decide
theorem own_law1_12 (w1 : Addr) (p1 : Int32) (h1 : 65535 ≤ p1.toInt) (h2 : p1.toInt ≤ 65535) : fA w1 w1 p1 = fEX (fIR p1) (fSG p1) (fNC p1) (fCT p1) (fO1 p1) := by
  have q : p1 = (65535 : Int32) := own_eq (65535 : Int32) 65535 rfl (by omega)
  subst q; simp only [fA, eq_self_iff_true, if_true, if_false]; decide
theorem own_law1_13 (w1 : Addr) (p1 : Int32) (h1 : 65536 ≤ p1.toInt) (h2 : p1.toInt ≤ 1114111) : fA w1 w1 p1 = fEX (fIR p1) (fSG p1) (fNC p1) (fCT p1) (fO1 p1) := by
  have l0 : ¬ p1 < (0 : Int32) := own_nlt (0 : Int32) 0 rfl (by omega)
  have l32 : ¬ p1 < (32 : Int32) := own_nlt (32 : Int32) 32 rfl (by omega)
  have l55296 : ¬ p1 < (55296 : Int32) := own_nlt (55296 : Int32) 55296 rfl (by omega)
  have l57344 : ¬ p1 < (57344 : Int32) := own_nlt (57344 : Int32) 57344 rfl (by omega)
  have l65536 : ¬ p1 < (65536 : Int32) := own_nlt (65536 : Int32) 65536 rfl (by omega)
  have g0 : (0 : Int32) < p1 := own_gt (0 : Int32) 0 rfl (by omega)
  have g55295 : (55295 : Int32) < p1 := own_gt (55295 : Int32) 55295 rfl (by omega)
  have g57343 : (57343 : Int32) < p1 := own_gt (57343 : Int32) 57343 rfl (by omega)
  have g65533 : (65533 : Int32) < p1 := own_gt (65533 : Int32) 65533 rfl (by omega)
  have g1114111 : ¬ (1114111 : Int32) < p1 := own_ngt (1114111 : Int32) 1114111 rfl (by omega)
  have q0 : ¬ p1 = (0 : Int32) := own_ne (0 : Int32) 0 rfl (by omega)
  have q9 : ¬ p1 = (9 : Int32) := own_ne (9 : Int32) 9 rfl (by omega)
  have q10 : ¬ p1 = (10 : Int32) := own_ne (10 : Int32) 10 rfl (by omega)
  have q13 : ¬ p1 = (13 : Int32) := own_ne (13 : Int32) 13 rfl (by omega)
  have q65534 : ¬ p1 = (65534 : Int32) := own_ne (65534 : Int32) 65534 rfl (by omega)
  have q65535 : ¬ p1 = (65535 : Int32) := own_ne (65535 : Int32) 65535 rfl (by omega)
  simp only [fIR, fSG, fNC, fCT, fO1, fA, l0, l32, l55296, l57344, l65536, g0, g55295, g57343, g65533, g1114111, q0, q9, q10, q13, q65534, q65535, if_true, if_false, eq_self_iff_true]; decide
theorem own_law1_14 (w1 : Addr) (p1 : Int32) (h1 : 1114112 ≤ p1.toInt) : fA w1 w1 p1 = fEX (fIR p1) (fSG p1) (fNC p1) (fCT p1) (fO1 p1) := by
  have l0 : ¬ p1 < (0 : Int32) := own_nlt (0 : Int32) 0 rfl (by omega)
  have l32 : ¬ p1 < (32 : Int32) := own_nlt (32 : Int32) 32 rfl (by omega)
  have l55296 : ¬ p1 < (55296 : Int32) := own_nlt (55296 : Int32) 55296 rfl (by omega)
  have l57344 : ¬ p1 < (57344 : Int32) := own_nlt (57344 : Int32) 57344 rfl (by omega)
  have l65536 : ¬ p1 < (65536 : Int32) := own_nlt (65536 : Int32) 65536 rfl (by omega)
  have g0 : (0 : Int32) < p1 := own_gt (0 : Int32) 0 rfl (by omega)
  have g55295 : (55295 : Int32) < p1 := own_gt (55295 : Int32) 55295 rfl (by omega)
  have g57343 : (57343 : Int32) < p1 := own_gt (57343 : Int32) 57343 rfl (by omega)
  have g65533 : (65533 : Int32) < p1 := own_gt (65533 : Int32) 65533 rfl (by omega)
  have g1114111 : (1114111 : Int32) < p1 := own_gt (1114111 : Int32) 1114111 rfl (by omega)
  have q0 : ¬ p1 = (0 : Int32) := own_ne (0 : Int32) 0 rfl (by omega)
  have q9 : ¬ p1 = (9 : Int32) := own_ne (9 : Int32) 9 rfl (by omega)
  have q10 : ¬ p1 = (10 : Int32) := own_ne (10 : Int32) 10 rfl (by omega)
  have q13 : ¬ p1 = (13 : Int32) := own_ne (13 : Int32) 13 rfl (by omega)
  have q65534 : ¬ p1 = (65534 : Int32) := own_ne (65534 : Int32) 65534 rfl (by omega)
  have q65535 : ¬ p1 = (65535 : Int32) := own_ne (65535 : Int32) 65535 rfl (by omega)
  simp only [fIR, fSG, fNC, fCT, fO1, fA, l0, l32, l55296, l57344, l65536, g0, g55295, g57343, g65533, g1114111, q0, q9, q10, q13, q65534, q65535, if_true, if_false, eq_self_iff_true]; decide
theorem own_law1 (w1 : Addr) (p1 : Int32) : fA w1 w1 p1 = fEX (fIR p1) (fSG p1) (fNC p1) (fCT p1) (fO1 p1) := by
  by_cases c0 : p1.toInt < 0
  · exact own_law1_0 w1 p1 (by omega)
  by_cases c1 : p1.toInt < 1
  · exact own_law1_1 w1 p1 (by omega) (by omega)
  by_cases c2 : p1.toInt < 9
  · exact own_law1_2 w1 p1 (by omega) (by omega)
  by_cases c3 : p1.toInt < 10
  · exact own_law1_3 w1 p1 (by omega) (by omega)
  by_cases c4 : p1.toInt < 11
  · exact own_law1_4 w1 p1 (by omega) (by omega)
  by_cases c5 : p1.toInt < 13
  · exact own_law1_5 w1 p1 (by omega) (by omega)
  by_cases c6 : p1.toInt < 14
  · exact own_law1_6 w1 p1 (by omega) (by omega)
  by_cases c7 : p1.toInt < 32
  · exact own_law1_7 w1 p1 (by omega) (by omega)
  by_cases c8 : p1.toInt < 55296
  · exact own_law1_8 w1 p1 (by omega) (by omega)
  by_cases c9 : p1.toInt < 57344
  · exact own_law1_9 w1 p1 (by omega) (by omega)
  by_cases c10 : p1.toInt < 65534
  · exact own_law1_10 w1 p1 (by omega) (by omega)
  by_cases c11 : p1.toInt < 65535
  · exact own_law1_11 w1 p1 (by omega) (by omega)
  by_cases c12 : p1.toInt < 65536
  · exact own_law1_12 w1 p1 (by omega) (by omega)
  by_cases c13 : p1.toInt < 1114112
  · exact own_law1_13 w1 p1 (by omega) (by omega)
  exact own_law1_14 w1 p1 (by omega)
theorem own_law0_0 (w0 w1 : Addr) (hne : ¬ w0 = w1) (p1 : Int32) (h2 : p1.toInt ≤ -1) : fA w0 w1 p1 = fEX (fIR p1) (fSG p1) (fNC p1) (fCT p1) (fO0 p1) := by
  have l0 : p1 < (0 : Int32) := own_lt (0 : Int32) 0 rfl (by omega)
  have l32 : p1 < (32 : Int32) := own_lt (32 : Int32) 32 rfl (by omega)
  have l55296 : p1 < (55296 : Int32) := own_lt (55296 : Int32) 55296 rfl (by omega)
  have l57344 : p1 < (57344 : Int32) := own_lt (57344 : Int32) 57344 rfl (by omega)
  have l65536 : p1 < (65536 : Int32) := own_lt (65536 : Int32) 65536 rfl (by omega)
  have g0 : ¬ (0 : Int32) < p1 := own_ngt (0 : Int32) 0 rfl (by omega)
  have g55295 : ¬ (55295 : Int32) < p1 := own_ngt (55295 : Int32) 55295 rfl (by omega)
  have g57343 : ¬ (57343 : Int32) < p1 := own_ngt (57343 : Int32) 57343 rfl (by omega)
  have g65533 : ¬ (65533 : Int32) < p1 := own_ngt (65533 : Int32) 65533 rfl (by omega)
  have g1114111 : ¬ (1114111 : Int32) < p1 := own_ngt (1114111 : Int32) 1114111 rfl (by omega)
  have q9 : ¬ p1 = (9 : Int32) := own_ne (9 : Int32) 9 rfl (by omega)
  have q10 : ¬ p1 = (10 : Int32) := own_ne (10 : Int32) 10 rfl (by omega)
  have q13 : ¬ p1 = (13 : Int32) := own_ne (13 : Int32) 13 rfl (by omega)
  have q65534 : ¬ p1 = (65534 : Int32) := own_ne (65534 : Int32) 65534 rfl (by omega)
  have q65535 : ¬ p1 = (65535 : Int32) := own_ne (65535 : Int32) 65535 rfl (by omega)
  simp only [fIR, fSG, fNC, fCT, fO0, fA, l0, l32, l55296, l57344, l65536, g0, g55295, g57343, g65533, g1114111, q9, q10, q13, q65534, q65535, if_true, if_false, hne]; decide
theorem own_law0_1 (w0 w1 : Addr) (hne : ¬ w0 = w1) (p1 : Int32) (h1 : 0 ≤ p1.toInt) (h2 : p1.toInt ≤ 0) : fA w0 w1 p1 = fEX (fIR p1) (fSG p1) (fNC p1) (fCT p1) (fO0 p1) := by
  have q : p1 = (0 : Int32) := own_eq (0 : Int32) 0 rfl (by omega)
  subst q; simp only [fA, hne, if_true, if_false]; decide
theorem own_law0_2 (w0 w1 : Addr) (hne : ¬ w0 = w1) (p1 : Int32) (h1 : 1 ≤ p1.toInt) (h2 : p1.toInt ≤ 8) : fA w0 w1 p1 = fEX (fIR p1) (fSG p1) (fNC p1) (fCT p1) (fO0 p1) := by
  have l0 : ¬ p1 < (0 : Int32) := own_nlt (0 : Int32) 0 rfl (by omega)
  have l32 : p1 < (32 : Int32) := own_lt (32 : Int32) 32 rfl (by omega)
  have l55296 : p1 < (55296 : Int32) := own_lt (55296 : Int32) 55296 rfl (by omega)
  have l57344 : p1 < (57344 : Int32) := own_lt (57344 : Int32) 57344 rfl (by omega)
  have l65536 : p1 < (65536 : Int32) := own_lt (65536 : Int32) 65536 rfl (by omega)
  have g0 : (0 : Int32) < p1 := own_gt (0 : Int32) 0 rfl (by omega)
  have g55295 : ¬ (55295 : Int32) < p1 := own_ngt (55295 : Int32) 55295 rfl (by omega)
  have g57343 : ¬ (57343 : Int32) < p1 := own_ngt (57343 : Int32) 57343 rfl (by omega)
  have g65533 : ¬ (65533 : Int32) < p1 := own_ngt (65533 : Int32) 65533 rfl (by omega)
  have g1114111 : ¬ (1114111 : Int32) < p1 := own_ngt (1114111 : Int32) 1114111 rfl (by omega)
  have q9 : ¬ p1 = (9 : Int32) := own_ne (9 : Int32) 9 rfl (by omega)
  have q10 : ¬ p1 = (10 : Int32) := own_ne (10 : Int32) 10 rfl (by omega)
  have q13 : ¬ p1 = (13 : Int32) := own_ne (13 : Int32) 13 rfl (by omega)
  have q65534 : ¬ p1 = (65534 : Int32) := own_ne (65534 : Int32) 65534 rfl (by omega)
  have q65535 : ¬ p1 = (65535 : Int32) := own_ne (65535 : Int32) 65535 rfl (by omega)
  simp only [fIR, fSG, fNC, fCT, fO0, fA, l0, l32, l55296, l57344, l65536, g0, g55295, g57343, g65533, g1114111, q9, q10, q13, q65534, q65535, if_true, if_false, hne]; decide
theorem own_law0_3 (w0 w1 : Addr) (hne : ¬ w0 = w1) (p1 : Int32) (h1 : 9 ≤ p1.toInt) (h2 : p1.toInt ≤ 9) : fA w0 w1 p1 = fEX (fIR p1) (fSG p1) (fNC p1) (fCT p1) (fO0 p1) := by
  have q : p1 = (9 : Int32) := own_eq (9 : Int32) 9 rfl (by omega)
  subst q; simp only [fA, hne, if_true, if_false]; decide
theorem own_law0_4 (w0 w1 : Addr) (hne : ¬ w0 = w1) (p1 : Int32) (h1 : 10 ≤ p1.toInt) (h2 : p1.toInt ≤ 10) : fA w0 w1 p1 = fEX (fIR p1) (fSG p1) (fNC p1) (fCT p1) (fO0 p1) := by
  have q : p1 = (10 : Int32) := own_eq (10 : Int32) 10 rfl (by omega)
  subst q; simp only [fA, hne, if_true, if_false]; decide
theorem own_law0_5 (w0 w1 : Addr) (hne : ¬ w0 = w1) (p1 : Int32) (h1 : 11 ≤ p1.toInt) (h2 : p1.toInt ≤ 12) : fA w0 w1 p1 = fEX (fIR p1) (fSG p1) (fNC p1) (fCT p1) (fO0 p1) := by
  have l0 : ¬ p1 < (0 : Int32) := own_nlt (0 : Int32) 0 rfl (by omega)
  have l32 : p1 < (32 : Int32) := own_lt (32 : Int32) 32 rfl (by omega)
  have l55296 : p1 < (55296 : Int32) := own_lt (55296 : Int32) 55296 rfl (by omega)
  have l57344 : p1 < (57344 : Int32) := own_lt (57344 : Int32) 57344 rfl (by omega)
  have l65536 : p1 < (65536 : Int32) := own_lt (65536 : Int32) 65536 rfl (by omega)
  have g0 : (0 : Int32) < p1 := own_gt (0 : Int32) 0 rfl (by omega)
  have g55295 : ¬ (55295 : Int32) < p1 := own_ngt (55295 : Int32) 55295 rfl (by omega)
  have g57343 : ¬ (57343 : Int32) < p1 := own_ngt (57343 : Int32) 57343 rfl (by omega)
  have g65533 : ¬ (65533 : Int32) < p1 := own_ngt (65533 : Int32) 65533 rfl (by omega)
  have g1114111 : ¬ (1114111 : Int32) < p1 := own_ngt (1114111 : Int32) 1114111 rfl (by omega)
  have q9 : ¬ p1 = (9 : Int32) := own_ne (9 : Int32) 9 rfl (by omega)
  have q10 : ¬ p1 = (10 : Int32) := own_ne (10 : Int32) 10 rfl (by omega)
  have q13 : ¬ p1 = (13 : Int32) := own_ne (13 : Int32) 13 rfl (by omega)
  have q65534 : ¬ p1 = (65534 : Int32) := own_ne (65534 : Int32) 65534 rfl (by omega)
  have q65535 : ¬ p1 = (65535 : Int32) := own_ne (65535 : Int32) 65535 rfl (by omega)
  simp only [fIR, fSG, fNC, fCT, fO0, fA, l0, l32, l55296, l57344, l65536, g0, g55295, g57343, g65533, g1114111, q9, q10, q13, q65534, q65535, if_true, if_false, hne]; decide
theorem own_law0_6 (w0 w1 : Addr) (hne : ¬ w0 = w1) (p1 : Int32) (h1 : 13 ≤ p1.toInt) (h2 : p1.toInt ≤ 13) : fA w0 w1 p1 = fEX (fIR p1) (fSG p1) (fNC p1) (fCT p1) (fO0 p1) := by
  have q : p1 = (13 : Int32) := own_eq (13 : Int32) 13 rfl (by omega)
  subst q; simp only [fA, hne, if_true, if_false]; decide
theorem own_law0_7 (w0 w1 : Addr) (hne : ¬ w0 = w1) (p1 : Int32) (h1 : 14 ≤ p1.toInt) (h2 : p1.toInt ≤ 31) : fA w0 w1 p1 = fEX (fIR p1) (fSG p1) (fNC p1) (fCT p1) (fO0 p1) := by
  have l0 : ¬ p1 < (0 : Int32) := own_nlt (0 : Int32) 0 rfl (by omega)
  have l32 : p1 < (32 : Int32) := own_lt (32 : Int32) 32 rfl (by omega)
  have l55296 : p1 < (55296 : Int32) := own_lt (55296 : Int32) 55296 rfl (by omega)
  have l57344 : p1 < (57344 : Int32) := own_lt (57344 : Int32) 57344 rfl (by omega)
  have l65536 : p1 < (65536 : Int32) := own_lt (65536 : Int32) 65536 rfl (by omega)
  have g0 : (0 : Int32) < p1 := own_gt (0 : Int32) 0 rfl (by omega)
  have g55295 : ¬ (55295 : Int32) < p1 := own_ngt (55295 : Int32) 55295 rfl (by omega)
  have g57343 : ¬ (57343 : Int32) < p1 := own_ngt (57343 : Int32) 57343 rfl (by omega)
  have g65533 : ¬ (65533 : Int32) < p1 := own_ngt (65533 : Int32) 65533 rfl (by omega)
  have g1114111 : ¬ (1114111 : Int32) < p1 := own_ngt (1114111 : Int32) 1114111 rfl (by omega)
  have q9 : ¬ p1 = (9 : Int32) := own_ne (9 : Int32) 9 rfl (by omega)
  have q10 : ¬ p1 = (10 : Int32) := own_ne (10 : Int32) 10 rfl (by omega)
  have q13 : ¬ p1 = (13 : Int32) := own_ne (13 : Int32) 13 rfl (by omega)
  have q65534 : ¬ p1 = (65534 : Int32) := own_ne (65534 : Int32) 65534 rfl (by omega)
  have q65535 : ¬ p1 = (65535 : Int32) := own_ne (65535 : Int32) 65535 rfl (by omega)
  simp only [fIR, fSG, fNC, fCT, fO0, fA, l0, l32, l55296, l57344, l65536, g0, g55295, g57343, g65533, g1114111, q9, q10, q13, q65534, q65535, if_true, if_false, hne]; decide
theorem own_law0_8 (w0 w1 : Addr) (hne : ¬ w0 = w1) (p1 : Int32) (h1 : 32 ≤ p1.toInt) (h2 : p1.toInt ≤ 55295) : fA w0 w1 p1 = fEX (fIR p1) (fSG p1) (fNC p1) (fCT p1) (fO0 p1) := by
  have l0 : ¬ p1 < (0 : Int32) := own_nlt (0 : Int32) 0 rfl (by omega)
  have l32 : ¬ p1 < (32 : Int32) := own_nlt (32 : Int32) 32 rfl (by omega)
  have l55296 : p1 < (55296 : Int32) := own_lt (55296 : Int32) 55296 rfl (by omega)
  have l57344 : p1 < (57344 : Int32) := own_lt (57344 : Int32) 57344 rfl (by omega)
  have l65536 : p1 < (65536 : Int32) := own_lt (65536 : Int32) 65536 rfl (by omega)
  have g0 : (0 : Int32) < p1 := own_gt (0 : Int32) 0 rfl (by omega)
  have g55295 : ¬ (55295 : Int32) < p1 := own_ngt (55295 : Int32) 55295 rfl (by omega)
  have g57343 : ¬ (57343 : Int32) < p1 := own_ngt (57343 : Int32) 57343 rfl (by omega)
  have g65533 : ¬ (65533 : Int32) < p1 := own_ngt (65533 : Int32) 65533 rfl (by omega)
  have g1114111 : ¬ (1114111 : Int32) < p1 := own_ngt (1114111 : Int32) 1114111 rfl (by omega)
  have q9 : ¬ p1 = (9 : Int32) := own_ne (9 : Int32) 9 rfl (by omega)
  have q10 : ¬ p1 = (10 : Int32) := own_ne (10 : Int32) 10 rfl (by omega)
  have q13 : ¬ p1 = (13 : Int32) := own_ne (13 : Int32) 13 rfl (by omega)
  have q65534 : ¬ p1 = (65534 : Int32) := own_ne (65534 : Int32) 65534 rfl (by omega)
  have q65535 : ¬ p1 = (65535 : Int32) := own_ne (65535 : Int32) 65535 rfl (by omega)
  simp only [fIR, fSG, fNC, fCT, fO0, fA, l0, l32, l55296, l57344, l65536, g0, g55295, g57343, g65533, g1114111, q9, q10, q13, q65534, q65535, if_true, if_false, hne]; decide
theorem own_law0_9 (w0 w1 : Addr) (hne : ¬ w0 = w1) (p1 : Int32) (h1 : 55296 ≤ p1.toInt) (h2 : p1.toInt ≤ 57343) : fA w0 w1 p1 = fEX (fIR p1) (fSG p1) (fNC p1) (fCT p1) (fO0 p1) := by
  have l0 : ¬ p1 < (0 : Int32) := own_nlt (0 : Int32) 0 rfl (by omega)
  have l32 : ¬ p1 < (32 : Int32) := own_nlt (32 : Int32) 32 rfl (by omega)
  have l55296 : ¬ p1 < (55296 : Int32) := own_nlt (55296 : Int32) 55296 rfl (by omega)
  have l57344 : p1 < (57344 : Int32) := own_lt (57344 : Int32) 57344 rfl (by omega)
  have l65536 : p1 < (65536 : Int32) := own_lt (65536 : Int32) 65536 rfl (by omega)
  have g0 : (0 : Int32) < p1 := own_gt (0 : Int32) 0 rfl (by omega)
  have g55295 : (55295 : Int32) < p1 := own_gt (55295 : Int32) 55295 rfl (by omega)
  have g57343 : ¬ (57343 : Int32) < p1 := own_ngt (57343 : Int32) 57343 rfl (by omega)
  have g65533 : ¬ (65533 : Int32) < p1 := own_ngt (65533 : Int32) 65533 rfl (by omega)
  have g1114111 : ¬ (1114111 : Int32) < p1 := own_ngt (1114111 : Int32) 1114111 rfl (by omega)
  have q9 : ¬ p1 = (9 : Int32) := own_ne (9 : Int32) 9 rfl (by omega)
  have q10 : ¬ p1 = (10 : Int32) := own_ne (10 : Int32) 10 rfl (by omega)
  have q13 : ¬ p1 = (13 : Int32) := own_ne (13 : Int32) 13 rfl (by omega)
  have q65534 : ¬ p1 = (65534 : Int32) := own_ne (65534 : Int32) 65534 rfl (by omega)
  have q65535 : ¬ p1 = (65535 : Int32) := own_ne (65535 : Int32) 65535 rfl (by omega)
  simp only [fIR, fSG, fNC, fCT, fO0, fA, l0, l32, l55296, l57344, l65536, g0, g55295, g57343, g65533, g1114111, q9, q10, q13, q65534, q65535, if_true, if_false, hne]; decide
theorem own_law0_10 (w0 w1 : Addr) (hne : ¬ w0 = w1) (p1 : Int32) (h1 : 57344 ≤ p1.toInt) (h2 : p1.toInt ≤ 65533) : fA w0 w1 p1 = fEX (fIR p1) (fSG p1) (fNC p1) (fCT p1) (fO0 p1) := by
  have l0 : ¬ p1 < (0 : Int32) := own_nlt (0 : Int32) 0 rfl (by omega)
  have l32 : ¬ p1 < (32 : Int32) := own_nlt (32 : Int32) 32 rfl (by omega)
  have l55296 : ¬ p1 < (55296 : Int32) := own_nlt (55296 : Int32) 55296 rfl (by omega)
  have l57344 : ¬ p1 < (57344 : Int32) := own_nlt (57344 : Int32) 57344 rfl (by omega)
  have l65536 : p1 < (65536 : Int32) := own_lt (65536 : Int32) 65536 rfl (by omega)
  have g0 : (0 : Int32) < p1 := own_gt (0 : Int32) 0 rfl (by omega)
  have g55295 : (55295 : Int32) < p1 := own_gt (55295 : Int32) 55295 rfl (by omega)
  have g57343 : (57343 : Int32) < p1 := own_gt (57343 : Int32) 57343 rfl (by omega)
  have g65533 : ¬ (65533 : Int32) < p1 := own_ngt (65533 : Int32) 65533 rfl (by omega)
  have g1114111 : ¬ (1114111 : Int32) < p1 := own_ngt (1114111 : Int32) 1114111 rfl (by omega)
  have q9 : ¬ p1 = (9 : Int32) := own_ne (9 : Int32) 9 rfl (by omega)
  have q10 : ¬ p1 = (10 : Int32) := own_ne (10 : Int32) 10 rfl (by omega)
  have q13 : ¬ p1 = (13 : Int32) := own_ne (13 : Int32) 13 rfl (by omega)
  have q65534 : ¬ p1 = (65534 : Int32) := own_ne (65534 : Int32) 65534 rfl (by omega)
  have q65535 : ¬ p1 = (65535 : Int32) := own_ne (65535 : Int32) 65535 rfl (by omega)
  simp only [fIR, fSG, fNC, fCT, fO0, fA, l0, l32, l55296, l57344, l65536, g0, g55295, g57343, g65533, g1114111, q9, q10, q13, q65534, q65535, if_true, if_false, hne]; decide
theorem own_law0_11 (w0 w1 : Addr) (hne : ¬ w0 = w1) (p1 : Int32) (h1 : 65534 ≤ p1.toInt) (h2 : p1.toInt ≤ 65534) : fA w0 w1 p1 = fEX (fIR p1) (fSG p1) (fNC p1) (fCT p1) (fO0 p1) := by
  have q : p1 = (65534 : Int32) := own_eq (65534 : Int32) 65534 rfl (by omega)
  subst q; simp only [fA, hne, if_true, if_false]; decide
theorem own_law0_12 (w0 w1 : Addr) (hne : ¬ w0 = w1) (p1 : Int32) (h1 : 65535 ≤ p1.toInt) (h2 : p1.toInt ≤ 65535) : fA w0 w1 p1 = fEX (fIR p1) (fSG p1) (fNC p1) (fCT p1) (fO0 p1) := by
  have q : p1 = (65535 : Int32) := own_eq (65535 : Int32) 65535 rfl (by omega)
  subst q; simp only [fA, hne, if_true, if_false]; decide
theorem own_law0_13 (w0 w1 : Addr) (hne : ¬ w0 = w1) (p1 : Int32) (h1 : 65536 ≤ p1.toInt) (h2 : p1.toInt ≤ 1114111) : fA w0 w1 p1 = fEX (fIR p1) (fSG p1) (fNC p1) (fCT p1) (fO0 p1) := by
  have l0 : ¬ p1 < (0 : Int32) := own_nlt (0 : Int32) 0 rfl (by omega)
  have l32 : ¬ p1 < (32 : Int32) := own_nlt (32 : Int32) 32 rfl (by omega)
  have l55296 : ¬ p1 < (55296 : Int32) := own_nlt (55296 : Int32) 55296 rfl (by omega)
  have l57344 : ¬ p1 < (57344 : Int32) := own_nlt (57344 : Int32) 57344 rfl (by omega)
  have l65536 : ¬ p1 < (65536 : Int32) := own_nlt (65536 : Int32) 65536 rfl (by omega)
  have g0 : (0 : Int32) < p1 := own_gt (0 : Int32) 0 rfl (by omega)
  have g55295 : (55295 : Int32) < p1 := own_gt (55295 : Int32) 55295 rfl (by omega)
  have g57343 : (57343 : Int32) < p1 := own_gt (57343 : Int32) 57343 rfl (by omega)
  have g65533 : (65533 : Int32) < p1 := own_gt (65533 : Int32) 65533 rfl (by omega)
  have g1114111 : ¬ (1114111 : Int32) < p1 := own_ngt (1114111 : Int32) 1114111 rfl (by omega)
  have q9 : ¬ p1 = (9 : Int32) := own_ne (9 : Int32) 9 rfl (by omega)
  have q10 : ¬ p1 = (10 : Int32) := own_ne (10 : Int32) 10 rfl (by omega)
  have q13 : ¬ p1 = (13 : Int32) := own_ne (13 : Int32) 13 rfl (by omega)
  have q65534 : ¬ p1 = (65534 : Int32) := own_ne (65534 : Int32) 65534 rfl (by omega)
  have q65535 : ¬ p1 = (65535 : Int32) := own_ne (65535 : Int32) 65535 rfl (by omega)
  simp only [fIR, fSG, fNC, fCT, fO0, fA, l0, l32, l55296, l57344, l65536, g0, g55295, g57343, g65533, g1114111, q9, q10, q13, q65534, q65535, if_true, if_false, hne]; decide
theorem own_law0_14 (w0 w1 : Addr) (hne : ¬ w0 = w1) (p1 : Int32) (h1 : 1114112 ≤ p1.toInt) : fA w0 w1 p1 = fEX (fIR p1) (fSG p1) (fNC p1) (fCT p1) (fO0 p1) := by
  have l0 : ¬ p1 < (0 : Int32) := own_nlt (0 : Int32) 0 rfl (by omega)
  have l32 : ¬ p1 < (32 : Int32) := own_nlt (32 : Int32) 32 rfl (by omega)
  have l55296 : ¬ p1 < (55296 : Int32) := own_nlt (55296 : Int32) 55296 rfl (by omega)
  have l57344 : ¬ p1 < (57344 : Int32) := own_nlt (57344 : Int32) 57344 rfl (by omega)
  have l65536 : ¬ p1 < (65536 : Int32) := own_nlt (65536 : Int32) 65536 rfl (by omega)
  have g0 : (0 : Int32) < p1 := own_gt (0 : Int32) 0 rfl (by omega)
  have g55295 : (55295 : Int32) < p1 := own_gt (55295 : Int32) 55295 rfl (by omega)
  have g57343 : (57343 : Int32) < p1 := own_gt (57343 : Int32) 57343 rfl (by omega)
  have g65533 : (65533 : Int32) < p1 := own_gt (65533 : Int32) 65533 rfl (by omega)
  have g1114111 : (1114111 : Int32) < p1 := own_gt (1114111 : Int32) 1114111 rfl (by omega)
  have q9 : ¬ p1 = (9 : Int32) := own_ne (9 : Int32) 9 rfl (by omega)
  have q10 : ¬ p1 = (10 : Int32) := own_ne (10 : Int32) 10 rfl (by omega)
  have q13 : ¬ p1 = (13 : Int32) := own_ne (13 : Int32) 13 rfl (by omega)
  have q65534 : ¬ p1 = (65534 : Int32) := own_ne (65534 : Int32) 65534 rfl (by omega)
  have q65535 : ¬ p1 = (65535 : Int32) := own_ne (65535 : Int32) 65535 rfl (by omega)
  simp only [fIR, fSG, fNC, fCT, fO0, fA, l0, l32, l55296, l57344, l65536, g0, g55295, g57343, g65533, g1114111, q9, q10, q13, q65534, q65535, if_true, if_false, hne]; decide
theorem own_law0 (w0 w1 : Addr) (hne : ¬ w0 = w1) (p1 : Int32) : fA w0 w1 p1 = fEX (fIR p1) (fSG p1) (fNC p1) (fCT p1) (fO0 p1) := by
  by_cases c0 : p1.toInt < 0
  · exact own_law0_0 w0 w1 hne p1 (by omega)
  by_cases c1 : p1.toInt < 1
  · exact own_law0_1 w0 w1 hne p1 (by omega) (by omega)
  by_cases c2 : p1.toInt < 9
  · exact own_law0_2 w0 w1 hne p1 (by omega) (by omega)
  by_cases c3 : p1.toInt < 10
  · exact own_law0_3 w0 w1 hne p1 (by omega) (by omega)
  by_cases c4 : p1.toInt < 11
  · exact own_law0_4 w0 w1 hne p1 (by omega) (by omega)
  by_cases c5 : p1.toInt < 13
  · exact own_law0_5 w0 w1 hne p1 (by omega) (by omega)
  by_cases c6 : p1.toInt < 14
  · exact own_law0_6 w0 w1 hne p1 (by omega) (by omega)
  by_cases c7 : p1.toInt < 32
  · exact own_law0_7 w0 w1 hne p1 (by omega) (by omega)
  by_cases c8 : p1.toInt < 55296
  · exact own_law0_8 w0 w1 hne p1 (by omega) (by omega)
  by_cases c9 : p1.toInt < 57344
  · exact own_law0_9 w0 w1 hne p1 (by omega) (by omega)
  by_cases c10 : p1.toInt < 65534
  · exact own_law0_10 w0 w1 hne p1 (by omega) (by omega)
  by_cases c11 : p1.toInt < 65535
  · exact own_law0_11 w0 w1 hne p1 (by omega) (by omega)
  by_cases c12 : p1.toInt < 65536
  · exact own_law0_12 w0 w1 hne p1 (by omega) (by omega)
  by_cases c13 : p1.toInt < 1114112
  · exact own_law0_13 w0 w1 hne p1 (by omega) (by omega)
  exact own_law0_14 w0 w1 hne p1 (by omega)
theorem own_r10 (r x : Int32) (h : r = ((x &&& (2147483647 : Int32)) - ((x &&& (2147483647 : Int32)) / (10 : Int32)) * (10 : Int32))) (h9 : ¬ r = (9 : Int32)) : ¬ r < (0 : Int32) ∧ r < (9 : Int32) := by
  have h1 := c_mask x (2147483647 : Int32) 31 (by decide) (by decide)
  have h2 := own_irem (x &&& (2147483647 : Int32)) (10 : Int32) 10 rfl (by omega) (by omega)
  rw [← h] at h2
  have h3 : r.toInt ≠ 9 := fun q => h9 (own_eq (9 : Int32) 9 rfl q)
  exact ⟨own_nlt (0 : Int32) 0 rfl (by omega), own_lt (9 : Int32) 9 rfl (by omega)⟩
theorem own_int {v : Value} (h : fits .int v = true) : ∃ w, v = .int w := by
  cases v with
  | int w => exact ⟨w, rfl⟩
  | _ => simp [fits] at h
theorem own_at {Z : State} {h : Heap} {a : Addr} {c : Cell} {vs : List Value} {d : Value} (H : Has c vs d) (G : ∀ i, i < c.slots.size → fits .int (vs.getD i d) = true) (S : c.slots.size = (9 : Int32).toNatClampNeg) (r : Int32) : ∃ w : Int32, (¬ r < (0 : Int32) ∧ r < (9 : Int32)) → c.slots[(r).toNatClampNeg]? = some (.int w) := by
  by_cases q : ¬ r < (0 : Int32) ∧ r < (9 : Int32)
  · have hb := inb_of S q
    have hi : r.toNatClampNeg < c.slots.size := Nat.lt_of_not_le fun z => hb (Or.inr z)
    obtain ⟨w, hw⟩ := own_int (G _ hi)
    exact ⟨w, fun _ => by rw [H _ hi, hw]⟩
  · exact ⟨0, fun z => absurd z q⟩
theorem dA_0 : decode prog_55_method_6_code 0 = .ok (.iload_n 1, 1) := by decide +kernel
theorem dA_1 : decode prog_55_method_6_code 1 = .ok (.bipush 32, 2) := by decide +kernel
theorem dA_3 : decode prog_55_method_6_code 3 = .ok (.if_icmp .lt 9, 3) := by decide +kernel
theorem dA_6 : decode prog_55_method_6_code 6 = .ok (.iload_n 1, 1) := by decide +kernel
theorem dA_7 : decode prog_55_method_6_code 7 = .ok (.ldc 41, 2) := by decide +kernel
theorem dA_9 : decode prog_55_method_6_code 9 = .ok (.if_icmp .le 27, 3) := by decide +kernel
theorem dA_12 : decode prog_55_method_6_code 12 = .ok (.iload_n 1, 1) := by decide +kernel
theorem dA_13 : decode prog_55_method_6_code 13 = .ok (.ldc 42, 2) := by decide +kernel
theorem dA_15 : decode prog_55_method_6_code 15 = .ok (.if_icmp .lt 9, 3) := by decide +kernel
theorem dA_18 : decode prog_55_method_6_code 18 = .ok (.iload_n 1, 1) := by decide +kernel
theorem dA_19 : decode prog_55_method_6_code 19 = .ok (.ldc 43, 2) := by decide +kernel
theorem dA_21 : decode prog_55_method_6_code 21 = .ok (.if_icmp .le 15, 3) := by decide +kernel
theorem dA_24 : decode prog_55_method_6_code 24 = .ok (.iload_n 1, 1) := by decide +kernel
theorem dA_25 : decode prog_55_method_6_code 25 = .ok (.ldc 44, 2) := by decide +kernel
theorem dA_27 : decode prog_55_method_6_code 27 = .ok (.if_icmp .lt 11, 3) := by decide +kernel
theorem dA_30 : decode prog_55_method_6_code 30 = .ok (.iload_n 1, 1) := by decide +kernel
theorem dA_31 : decode prog_55_method_6_code 31 = .ok (.ldc 47, 2) := by decide +kernel
theorem dA_33 : decode prog_55_method_6_code 33 = .ok (.if_icmp .gt 5, 3) := by decide +kernel
theorem dA_36 : decode prog_55_method_6_code 36 = .ok (.iconst 1, 1) := by decide +kernel
theorem dA_37 : decode prog_55_method_6_code 37 = .ok (.ireturn, 1) := by decide +kernel
theorem dA_38 : decode prog_55_method_6_code 38 = .ok (.aload_n 0, 1) := by decide +kernel
theorem dA_39 : decode prog_55_method_6_code 39 = .ok (.getstatic 7, 3) := by decide +kernel
theorem dA_42 : decode prog_55_method_6_code 42 = .ok (.if_acmp .ne 21, 3) := by decide +kernel
theorem dA_45 : decode prog_55_method_6_code 45 = .ok (.iload_n 1, 1) := by decide +kernel
theorem dA_46 : decode prog_55_method_6_code 46 = .ok (.ifCond .le 13, 3) := by decide +kernel
theorem dA_49 : decode prog_55_method_6_code 49 = .ok (.iload_n 1, 1) := by decide +kernel
theorem dA_50 : decode prog_55_method_6_code 50 = .ok (.bipush 32, 2) := by decide +kernel
theorem dA_52 : decode prog_55_method_6_code 52 = .ok (.if_icmp .ge 7, 3) := by decide +kernel
theorem dA_55 : decode prog_55_method_6_code 55 = .ok (.iconst 1, 1) := by decide +kernel
theorem dA_56 : decode prog_55_method_6_code 56 = .ok (.goto 30, 3) := by decide +kernel
theorem dA_59 : decode prog_55_method_6_code 59 = .ok (.iconst 0, 1) := by decide +kernel
theorem dA_60 : decode prog_55_method_6_code 60 = .ok (.goto 26, 3) := by decide +kernel
theorem dA_63 : decode prog_55_method_6_code 63 = .ok (.iload_n 1, 1) := by decide +kernel
theorem dA_64 : decode prog_55_method_6_code 64 = .ok (.bipush 9, 2) := by decide +kernel
theorem dA_66 : decode prog_55_method_6_code 66 = .ok (.if_icmp .eq 15, 3) := by decide +kernel
theorem dA_69 : decode prog_55_method_6_code 69 = .ok (.iload_n 1, 1) := by decide +kernel
theorem dA_70 : decode prog_55_method_6_code 70 = .ok (.bipush 10, 2) := by decide +kernel
theorem dA_72 : decode prog_55_method_6_code 72 = .ok (.if_icmp .eq 9, 3) := by decide +kernel
theorem dA_75 : decode prog_55_method_6_code 75 = .ok (.iload_n 1, 1) := by decide +kernel
theorem dA_76 : decode prog_55_method_6_code 76 = .ok (.bipush 13, 2) := by decide +kernel
theorem dA_78 : decode prog_55_method_6_code 78 = .ok (.if_icmp .ne 7, 3) := by decide +kernel
theorem dA_81 : decode prog_55_method_6_code 81 = .ok (.iconst 1, 1) := by decide +kernel
theorem dA_82 : decode prog_55_method_6_code 82 = .ok (.goto 4, 3) := by decide +kernel
theorem dA_85 : decode prog_55_method_6_code 85 = .ok (.iconst 0, 1) := by decide +kernel
theorem dA_86 : decode prog_55_method_6_code 86 = .ok (.ireturn, 1) := by decide +kernel
theorem ef_A (m : MethodId) (x0 : Addr) (x1 : Int32) : entryFrame m #[(.ref x0), (.int x1)] 2 = mkF m 0 #[.val (.ref x0), .val (.int x1)] [] := by first | (simp [entryFrame, mkF, argsToLocals, Value.category]; done) | rfl
set_option maxRecDepth 65536 in
set_option maxHeartbeats 40000000 in
theorem rmA (l : Launch) (Z : State) (a0 : Array Value) (hw : ∀ d ∈ tables_1, d.before a0 Z = true) (ws : List Jvm.Cond) (a1 : Addr) (p1 : Int32) (w1 : Addr) (h0 : Heap) (S1 : Sta Z h0 "com/example/libxform/libxform/output/XmlVersion" "V1_1" "Lcom/example/libxform/libxform/output/XmlVersion;" (.ref w1)) :
    MetFree l (⟨"com/example/libxform/libxform/output/XmlVersion", "allows", "(I)Z"⟩ : MethodName) (head1 (Jvm.Cond.code (⟨"com/example/libxform/libxform/output/XmlVersion", "allows", "(I)Z"⟩ : MethodName) prog_55_method_6_code 2 (some .boolean) :: ws) ({ frames := 0, cells := 0, slots := 0, locals := 0 } : Room)) (fun a U => a = #[(.ref a1), (.int p1)] ∧ Z.Warmed39 U.vm ∧ U.heap = h0) (fun _ _ _ _ _ => True) (fun _ U o U' => ∃ v L, o = .returned v ∧ QP (some (.int (fA a1 w1 p1))) h0 v U'.heap L ∧ FrameEnd U o U' L ({ frames := 0, cells := 0, slots := 0, locals := 0 } : Room).cells ({ frames := 0, cells := 0, slots := 0, locals := 0 } : Room).slots) := by
  refine MetFree.of_bodySF (plainFor_of_name (by first | (simp [plainName, overriddenIn]; done) | decide +kernel)) hisR ?_
  intro p e s m args below meth c s₁ Bd hml0 hP hK
  obtain ⟨rfl, hZ, hh⟩ := hP
  have hx := Bd.exec
  have hby := Bd.bytes
  have hml : c.maxLocals = 2 := hml0
  have hown : s.vm.findClass "com/example/libxform/libxform/output/XmlVersion" = some m.cls := findClass_of_methodNamed Bd.named
  have hnm := (name_of_methodNamed Bd.named Bd.method).1
  have hlk : meth.locks = false := BodyLoose.notSynchronized Bd
  have X0 : Stand p l e ({ frames := 0, cells := 0, slots := 0, locals := 0 } : Room) s m #[(.ref a1), (.int p1)] below meth c s₁ [] 0 0 := Stand.of_body Bd
  have e0 : s₁.heap = h0 := by rw [← hh, Bd.state]; rfl
  have P0 : ∀ t, Steps p.tables e below (s₁.setTop (mkF m 0 #[.val (.ref a1), .val (.int p1)] [])) t → Steps p.tables e below (s₁.setTop (entryFrame m #[(.ref a1), (.int p1)] 2)) t := fun t kt => castTop (ef_A m a1 p1) kt
  have P101 : ∀ t, Steps p.tables e below (s₁.setTop (mkF m 3 #[.val (.ref a1), .val (.int p1)] [(.int (32 : Int32)), (.int p1)])) t → Steps p.tables e below (s₁.setTop (entryFrame m #[(.ref a1), (.int p1)] 2)) t := fun t kt => P0 t (by
    show Steps p.tables e below (s₁.setTop (mkF m 0 #[.val (.ref a1), .val (.int p1)] [])) _
    refine XS.iloadN X0.here hx rfl (hb hby dA_0) rfl ?_
    show Steps p.tables e below (s₁.setTop (mkF m 1 #[.val (.ref a1), .val (.int p1)] [(.int p1)])) _
    refine XS.bipush X0.here hx rfl (hb hby dA_1) ?_
    exact kt)
  by_cases hc3_102 : p1 < (32 : Int32)
  · have P103 : ∀ t, Steps p.tables e below (s₁.setTop (mkF m 15 #[.val (.ref a1), .val (.int p1)] [(.int (57344 : Int32)), (.int p1)])) t → Steps p.tables e below (s₁.setTop (entryFrame m #[(.ref a1), (.int p1)] 2)) t := fun t kt => P101 t (by
      show Steps p.tables e below (s₁.setTop (mkF m 3 #[.val (.ref a1), .val (.int p1)] [(.int (32 : Int32)), (.int p1)])) _
      refine XS.icmpYes X0.here hx rfl (pc0 := 3) (pc' := 12) rfl (hb hby dA_3) rfl (tlt hc3_102).1 (by decide) (by decide) ?_
      show Steps p.tables e below (s₁.setTop (mkF m 12 #[.val (.ref a1), .val (.int p1)] [])) _
      refine XS.iloadN X0.here hx rfl (hb hby dA_12) rfl ?_
      show Steps p.tables e below (s₁.setTop (mkF m 13 #[.val (.ref a1), .val (.int p1)] [(.int p1)])) _
      refine X0.ldcInt hx hown (mvT hZ (hw _ (List.mem_of_getElem? (i := 19) rfl))) (g := (mkF m 13 #[.val (.ref a1), .val (.int p1)] [(.int p1)])) rfl (hb hby dA_13) _ ?_
      exact kt)
    by_cases hc15_104 : p1 < (57344 : Int32)
    · have P105 : ∀ t, Steps p.tables e below (s₁.setTop (mkF m 27 #[.val (.ref a1), .val (.int p1)] [(.int (65536 : Int32)), (.int p1)])) t → Steps p.tables e below (s₁.setTop (entryFrame m #[(.ref a1), (.int p1)] 2)) t := fun t kt => P103 t (by
        show Steps p.tables e below (s₁.setTop (mkF m 15 #[.val (.ref a1), .val (.int p1)] [(.int (57344 : Int32)), (.int p1)])) _
        refine XS.icmpYes X0.here hx rfl (pc0 := 15) (pc' := 24) rfl (hb hby dA_15) rfl (tlt hc15_104).1 (by decide) (by decide) ?_
        show Steps p.tables e below (s₁.setTop (mkF m 24 #[.val (.ref a1), .val (.int p1)] [])) _
        refine XS.iloadN X0.here hx rfl (hb hby dA_24) rfl ?_
        show Steps p.tables e below (s₁.setTop (mkF m 25 #[.val (.ref a1), .val (.int p1)] [(.int p1)])) _
        refine X0.ldcInt hx hown (mvT hZ (hw _ (List.mem_of_getElem? (i := 23) rfl))) (g := (mkF m 25 #[.val (.ref a1), .val (.int p1)] [(.int p1)])) rfl (hb hby dA_25) _ ?_
        exact kt)
      by_cases hc27_106 : p1 < (65536 : Int32)
      · obtain ⟨T107, X107, e107, st107⟩ := getS2 X0 hx hZ hown (host := "") (Or.inl (hw _ (List.mem_of_getElem? (i := 24) rfl))) Via.refl e0 S1 (g := (mkF m 39 #[.val (.ref a1), .val (.int p1)] [(.ref a1)])) rfl (hb hby dA_39)
        have P108 : ∀ t, Steps p.tables e below (T107.setTop (mkF m 42 #[.val (.ref a1), .val (.int p1)] [(.ref w1), (.ref a1)])) t → Steps p.tables e below (s₁.setTop (entryFrame m #[(.ref a1), (.int p1)] 2)) t := fun t kt => P105 t (by
          show Steps p.tables e below (s₁.setTop (mkF m 27 #[.val (.ref a1), .val (.int p1)] [(.int (65536 : Int32)), (.int p1)])) _
          refine XS.icmpYes X0.here hx rfl (pc0 := 27) (pc' := 38) rfl (hb hby dA_27) rfl (tlt hc27_106).1 (by decide) (by decide) ?_
          show Steps p.tables e below (s₁.setTop (mkF m 38 #[.val (.ref a1), .val (.int p1)] [])) _
          refine XS.aloadN X0.here hx rfl (hb hby dA_38) rfl rfl ?_
          show Steps p.tables e below (s₁.setTop (mkF m 39 #[.val (.ref a1), .val (.int p1)] [(.ref a1)])) _
          refine st107 _ ?_
          exact kt)
        by_cases hc42_109 : a1 = w1
        · have P110 : ∀ t, Steps p.tables e below (T107.setTop (mkF m 46 #[.val (.ref a1), .val (.int p1)] [(.int p1)])) t → Steps p.tables e below (s₁.setTop (entryFrame m #[(.ref a1), (.int p1)] 2)) t := fun t kt => P108 t (by
            show Steps p.tables e below (T107.setTop (mkF m 42 #[.val (.ref a1), .val (.int p1)] [(.ref w1), (.ref a1)])) _
            refine Jvm.RoadKit.acmp (g := (mkF m 42 #[.val (.ref a1), .val (.int p1)] [(.ref w1), (.ref a1)])) X107 hx rfl rfl rfl (pc0 := 42) (pc' := 45) (same := true) rfl (hb hby dA_42) rfl (decide_eq_true (congrArg Value.ref hc42_109)) (by decide) (by decide) ?_
            show Steps p.tables e below (T107.setTop (mkF m 45 #[.val (.ref a1), .val (.int p1)] [])) _
            refine XS.iloadN X107.here hx rfl (hb hby dA_45) rfl ?_
            exact kt)
          by_cases hc46_111 : (0 : Int32) < p1
          · have P112 : ∀ t, Steps p.tables e below (T107.setTop (mkF m 52 #[.val (.ref a1), .val (.int p1)] [(.int (32 : Int32)), (.int p1)])) t → Steps p.tables e below (s₁.setTop (entryFrame m #[(.ref a1), (.int p1)] 2)) t := fun t kt => P110 t (by
              show Steps p.tables e below (T107.setTop (mkF m 46 #[.val (.ref a1), .val (.int p1)] [(.int p1)])) _
              refine XS.ifNo X107.here hx rfl (hb hby dA_46) rfl ((if0 _ _).trans (tlt hc46_111).2.2.2) ?_
              show Steps p.tables e below (T107.setTop (mkF m 49 #[.val (.ref a1), .val (.int p1)] [])) _
              refine XS.iloadN X107.here hx rfl (hb hby dA_49) rfl ?_
              show Steps p.tables e below (T107.setTop (mkF m 50 #[.val (.ref a1), .val (.int p1)] [(.int p1)])) _
              refine XS.bipush X107.here hx rfl (hb hby dA_50) ?_
              exact kt)
            by_cases hc52_113 : p1 < (32 : Int32)
            · have P114 : ∀ t, Steps p.tables e below (T107.setTop (mkF m 86 #[.val (.ref a1), .val (.int p1)] [(.int (1 : Int32))])) t → Steps p.tables e below (s₁.setTop (entryFrame m #[(.ref a1), (.int p1)] 2)) t := fun t kt => P112 t (by
                show Steps p.tables e below (T107.setTop (mkF m 52 #[.val (.ref a1), .val (.int p1)] [(.int (32 : Int32)), (.int p1)])) _
                refine XS.icmpNo X107.here hx rfl (hb hby dA_52) rfl (tlt hc52_113).2.1 ?_
                show Steps p.tables e below (T107.setTop (mkF m 55 #[.val (.ref a1), .val (.int p1)] [])) _
                refine XS.iconst X107.here hx rfl (hb hby dA_55) ?_
                show Steps p.tables e below (T107.setTop (mkF m 56 #[.val (.ref a1), .val (.int p1)] [(.int (1 : Int32))])) _
                refine XS.goto X107.here hx rfl (pc0 := 56) (pc' := 86) rfl (hb hby dA_56) (by decide) (by decide) ?_
                exact kt)
              obtain ⟨fs, hr, hrun, hended, hW, hsame⟩ := X107.leave (v := some (.int (1 : Int32))) (fun h => by rw [Bd.returns] at h; cases h) (hlocks := hlk)
              refine ⟨_, _, P114 _ ?_, hrun, hended, _, _, rfl, ?_, ⟨_, rfl⟩, hW, hsame.mono (by decide) (by decide)⟩
              · show Steps p.tables e below (T107.setTop (mkF m 86 #[.val (.ref a1), .val (.int p1)] [(.int (1 : Int32))])) _
                exact retN X107 hx (t := .boolean) Bd.returns (by simp) (hb hby dA_86) hr
              · show QP _ h0 _ T107.heap _
                have ev : fA a1 w1 p1 = (1 : Int32) := by unfold fA; rw [if_pos hc3_102, if_pos hc15_104, if_pos hc27_106, if_pos hc42_109, if_pos hc46_111, if_pos hc52_113]
                rw [ev]
                exact ⟨rfl, rfl, e107⟩
            · have P115 : ∀ t, Steps p.tables e below (T107.setTop (mkF m 86 #[.val (.ref a1), .val (.int p1)] [(.int (0 : Int32))])) t → Steps p.tables e below (s₁.setTop (entryFrame m #[(.ref a1), (.int p1)] 2)) t := fun t kt => P112 t (by
                show Steps p.tables e below (T107.setTop (mkF m 52 #[.val (.ref a1), .val (.int p1)] [(.int (32 : Int32)), (.int p1)])) _
                refine XS.icmpYes X107.here hx rfl (pc0 := 52) (pc' := 59) rfl (hb hby dA_52) rfl (flt hc52_113).2.1 (by decide) (by decide) ?_
                show Steps p.tables e below (T107.setTop (mkF m 59 #[.val (.ref a1), .val (.int p1)] [])) _
                refine XS.iconst X107.here hx rfl (hb hby dA_59) ?_
                show Steps p.tables e below (T107.setTop (mkF m 60 #[.val (.ref a1), .val (.int p1)] [(.int (0 : Int32))])) _
                refine XS.goto X107.here hx rfl (pc0 := 60) (pc' := 86) rfl (hb hby dA_60) (by decide) (by decide) ?_
                exact kt)
              obtain ⟨fs, hr, hrun, hended, hW, hsame⟩ := X107.leave (v := some (.int (0 : Int32))) (fun h => by rw [Bd.returns] at h; cases h) (hlocks := hlk)
              refine ⟨_, _, P115 _ ?_, hrun, hended, _, _, rfl, ?_, ⟨_, rfl⟩, hW, hsame.mono (by decide) (by decide)⟩
              · show Steps p.tables e below (T107.setTop (mkF m 86 #[.val (.ref a1), .val (.int p1)] [(.int (0 : Int32))])) _
                exact retN X107 hx (t := .boolean) Bd.returns (by simp) (hb hby dA_86) hr
              · show QP _ h0 _ T107.heap _
                have ev : fA a1 w1 p1 = (0 : Int32) := by unfold fA; rw [if_pos hc3_102, if_pos hc15_104, if_pos hc27_106, if_pos hc42_109, if_pos hc46_111, if_neg hc52_113]
                rw [ev]
                exact ⟨rfl, rfl, e107⟩
          · have P116 : ∀ t, Steps p.tables e below (T107.setTop (mkF m 86 #[.val (.ref a1), .val (.int p1)] [(.int (0 : Int32))])) t → Steps p.tables e below (s₁.setTop (entryFrame m #[(.ref a1), (.int p1)] 2)) t := fun t kt => P110 t (by
              show Steps p.tables e below (T107.setTop (mkF m 46 #[.val (.ref a1), .val (.int p1)] [(.int p1)])) _
              refine XS.ifYes X107.here hx rfl (pc0 := 46) (pc' := 59) rfl (hb hby dA_46) rfl ((if0 _ _).trans (flt hc46_111).2.2.2) (by decide) (by decide) ?_
              show Steps p.tables e below (T107.setTop (mkF m 59 #[.val (.ref a1), .val (.int p1)] [])) _
              refine XS.iconst X107.here hx rfl (hb hby dA_59) ?_
              show Steps p.tables e below (T107.setTop (mkF m 60 #[.val (.ref a1), .val (.int p1)] [(.int (0 : Int32))])) _
              refine XS.goto X107.here hx rfl (pc0 := 60) (pc' := 86) rfl (hb hby dA_60) (by decide) (by decide) ?_
              exact kt)
            obtain ⟨fs, hr, hrun, hended, hW, hsame⟩ := X107.leave (v := some (.int (0 : Int32))) (fun h => by rw [Bd.returns] at h; cases h) (hlocks := hlk)
            refine ⟨_, _, P116 _ ?_, hrun, hended, _, _, rfl, ?_, ⟨_, rfl⟩, hW, hsame.mono (by decide) (by decide)⟩
            · show Steps p.tables e below (T107.setTop (mkF m 86 #[.val (.ref a1), .val (.int p1)] [(.int (0 : Int32))])) _
              exact retN X107 hx (t := .boolean) Bd.returns (by simp) (hb hby dA_86) hr
            · show QP _ h0 _ T107.heap _
              have ev : fA a1 w1 p1 = (0 : Int32) := by unfold fA; rw [if_pos hc3_102, if_pos hc15_104, if_pos hc27_106, if_pos hc42_109, if_neg hc46_111]
              rw [ev]
              exact ⟨rfl, rfl, e107⟩
        · have P117 : ∀ t, Steps p.tables e below (T107.setTop (mkF m 66 #[.val (.ref a1), .val (.int p1)] [(.int (9 : Int32)), (.int p1)])) t → Steps p.tables e below (s₁.setTop (entryFrame m #[(.ref a1), (.int p1)] 2)) t := fun t kt => P108 t (by
            show Steps p.tables e below (T107.setTop (mkF m 42 #[.val (.ref a1), .val (.int p1)] [(.ref w1), (.ref a1)])) _
            refine Jvm.RoadKit.acmp (g := (mkF m 42 #[.val (.ref a1), .val (.int p1)] [(.ref w1), (.ref a1)])) X107 hx rfl rfl rfl (pc0 := 42) (pc' := 63) (same := false) rfl (hb hby dA_42) rfl (decide_eq_false fun q => hc42_109 (Value.ref.inj q)) (by decide) (by decide) ?_
            show Steps p.tables e below (T107.setTop (mkF m 63 #[.val (.ref a1), .val (.int p1)] [])) _
            refine XS.iloadN X107.here hx rfl (hb hby dA_63) rfl ?_
            show Steps p.tables e below (T107.setTop (mkF m 64 #[.val (.ref a1), .val (.int p1)] [(.int p1)])) _
            refine XS.bipush X107.here hx rfl (hb hby dA_64) ?_
            exact kt)
          by_cases hc66_118 : p1 = (9 : Int32)
          · have P119 : ∀ t, Steps p.tables e below (T107.setTop (mkF m 86 #[.val (.ref a1), .val (.int p1)] [(.int (1 : Int32))])) t → Steps p.tables e below (s₁.setTop (entryFrame m #[(.ref a1), (.int p1)] 2)) t := fun t kt => P117 t (by
              show Steps p.tables e below (T107.setTop (mkF m 66 #[.val (.ref a1), .val (.int p1)] [(.int (9 : Int32)), (.int p1)])) _
              refine XS.icmpYes X107.here hx rfl (pc0 := 66) (pc' := 81) rfl (hb hby dA_66) rfl (teq hc66_118).1 (by decide) (by decide) ?_
              show Steps p.tables e below (T107.setTop (mkF m 81 #[.val (.ref a1), .val (.int p1)] [])) _
              refine XS.iconst X107.here hx rfl (hb hby dA_81) ?_
              show Steps p.tables e below (T107.setTop (mkF m 82 #[.val (.ref a1), .val (.int p1)] [(.int (1 : Int32))])) _
              refine XS.goto X107.here hx rfl (pc0 := 82) (pc' := 86) rfl (hb hby dA_82) (by decide) (by decide) ?_
              exact kt)
            obtain ⟨fs, hr, hrun, hended, hW, hsame⟩ := X107.leave (v := some (.int (1 : Int32))) (fun h => by rw [Bd.returns] at h; cases h) (hlocks := hlk)
            refine ⟨_, _, P119 _ ?_, hrun, hended, _, _, rfl, ?_, ⟨_, rfl⟩, hW, hsame.mono (by decide) (by decide)⟩
            · show Steps p.tables e below (T107.setTop (mkF m 86 #[.val (.ref a1), .val (.int p1)] [(.int (1 : Int32))])) _
              exact retN X107 hx (t := .boolean) Bd.returns (by simp) (hb hby dA_86) hr
            · show QP _ h0 _ T107.heap _
              have ev : fA a1 w1 p1 = (1 : Int32) := by unfold fA; rw [if_pos hc3_102, if_pos hc15_104, if_pos hc27_106, if_neg hc42_109, if_pos hc66_118]
              rw [ev]
              exact ⟨rfl, rfl, e107⟩
          · have P120 : ∀ t, Steps p.tables e below (T107.setTop (mkF m 72 #[.val (.ref a1), .val (.int p1)] [(.int (10 : Int32)), (.int p1)])) t → Steps p.tables e below (s₁.setTop (entryFrame m #[(.ref a1), (.int p1)] 2)) t := fun t kt => P117 t (by
              show Steps p.tables e below (T107.setTop (mkF m 66 #[.val (.ref a1), .val (.int p1)] [(.int (9 : Int32)), (.int p1)])) _
              refine XS.icmpNo X107.here hx rfl (hb hby dA_66) rfl (feq hc66_118).1 ?_
              show Steps p.tables e below (T107.setTop (mkF m 69 #[.val (.ref a1), .val (.int p1)] [])) _
              refine XS.iloadN X107.here hx rfl (hb hby dA_69) rfl ?_
              show Steps p.tables e below (T107.setTop (mkF m 70 #[.val (.ref a1), .val (.int p1)] [(.int p1)])) _
              refine XS.bipush X107.here hx rfl (hb hby dA_70) ?_
              exact kt)
            by_cases hc72_121 : p1 = (10 : Int32)
            · have P122 : ∀ t, Steps p.tables e below (T107.setTop (mkF m 86 #[.val (.ref a1), .val (.int p1)] [(.int (1 : Int32))])) t → Steps p.tables e below (s₁.setTop (entryFrame m #[(.ref a1), (.int p1)] 2)) t := fun t kt => P120 t (by
                show Steps p.tables e below (T107.setTop (mkF m 72 #[.val (.ref a1), .val (.int p1)] [(.int (10 : Int32)), (.int p1)])) _
                refine XS.icmpYes X107.here hx rfl (pc0 := 72) (pc' := 81) rfl (hb hby dA_72) rfl (teq hc72_121).1 (by decide) (by decide) ?_
                show Steps p.tables e below (T107.setTop (mkF m 81 #[.val (.ref a1), .val (.int p1)] [])) _
                refine XS.iconst X107.here hx rfl (hb hby dA_81) ?_
                show Steps p.tables e below (T107.setTop (mkF m 82 #[.val (.ref a1), .val (.int p1)] [(.int (1 : Int32))])) _
                refine XS.goto X107.here hx rfl (pc0 := 82) (pc' := 86) rfl (hb hby dA_82) (by decide) (by decide) ?_
                exact kt)
              obtain ⟨fs, hr, hrun, hended, hW, hsame⟩ := X107.leave (v := some (.int (1 : Int32))) (fun h => by rw [Bd.returns] at h; cases h) (hlocks := hlk)
              refine ⟨_, _, P122 _ ?_, hrun, hended, _, _, rfl, ?_, ⟨_, rfl⟩, hW, hsame.mono (by decide) (by decide)⟩
              · show Steps p.tables e below (T107.setTop (mkF m 86 #[.val (.ref a1), .val (.int p1)] [(.int (1 : Int32))])) _
                exact retN X107 hx (t := .boolean) Bd.returns (by simp) (hb hby dA_86) hr
              · show QP _ h0 _ T107.heap _
                have ev : fA a1 w1 p1 = (1 : Int32) := by unfold fA; rw [if_pos hc3_102, if_pos hc15_104, if_pos hc27_106, if_neg hc42_109, if_neg hc66_118, if_pos hc72_121]
                rw [ev]
                exact ⟨rfl, rfl, e107⟩
            · have P123 : ∀ t, Steps p.tables e below (T107.setTop (mkF m 78 #[.val (.ref a1), .val (.int p1)] [(.int (13 : Int32)), (.int p1)])) t → Steps p.tables e below (s₁.setTop (entryFrame m #[(.ref a1), (.int p1)] 2)) t := fun t kt => P120 t (by
                show Steps p.tables e below (T107.setTop (mkF m 72 #[.val (.ref a1), .val (.int p1)] [(.int (10 : Int32)), (.int p1)])) _
                refine XS.icmpNo X107.here hx rfl (hb hby dA_72) rfl (feq hc72_121).1 ?_
                show Steps p.tables e below (T107.setTop (mkF m 75 #[.val (.ref a1), .val (.int p1)] [])) _
                refine XS.iloadN X107.here hx rfl (hb hby dA_75) rfl ?_
                show Steps p.tables e below (T107.setTop (mkF m 76 #[.val (.ref a1), .val (.int p1)] [(.int p1)])) _
                refine XS.bipush X107.here hx rfl (hb hby dA_76) ?_
                exact kt)
              by_cases hc78_124 : p1 = (13 : Int32)
              · have P125 : ∀ t, Steps p.tables e below (T107.setTop (mkF m 86 #[.val (.ref a1), .val (.int p1)] [(.int (1 : Int32))])) t → Steps p.tables e below (s₁.setTop (entryFrame m #[(.ref a1), (.int p1)] 2)) t := fun t kt => P123 t (by
                  show Steps p.tables e below (T107.setTop (mkF m 78 #[.val (.ref a1), .val (.int p1)] [(.int (13 : Int32)), (.int p1)])) _
                  refine XS.icmpNo X107.here hx rfl (hb hby dA_78) rfl (teq hc78_124).2 ?_
                  show Steps p.tables e below (T107.setTop (mkF m 81 #[.val (.ref a1), .val (.int p1)] [])) _
                  refine XS.iconst X107.here hx rfl (hb hby dA_81) ?_
                  show Steps p.tables e below (T107.setTop (mkF m 82 #[.val (.ref a1), .val (.int p1)] [(.int (1 : Int32))])) _
                  refine XS.goto X107.here hx rfl (pc0 := 82) (pc' := 86) rfl (hb hby dA_82) (by decide) (by decide) ?_
                  exact kt)
                obtain ⟨fs, hr, hrun, hended, hW, hsame⟩ := X107.leave (v := some (.int (1 : Int32))) (fun h => by rw [Bd.returns] at h; cases h) (hlocks := hlk)
                refine ⟨_, _, P125 _ ?_, hrun, hended, _, _, rfl, ?_, ⟨_, rfl⟩, hW, hsame.mono (by decide) (by decide)⟩
                · show Steps p.tables e below (T107.setTop (mkF m 86 #[.val (.ref a1), .val (.int p1)] [(.int (1 : Int32))])) _
                  exact retN X107 hx (t := .boolean) Bd.returns (by simp) (hb hby dA_86) hr
                · show QP _ h0 _ T107.heap _
                  have ev : fA a1 w1 p1 = (1 : Int32) := by unfold fA; rw [if_pos hc3_102, if_pos hc15_104, if_pos hc27_106, if_neg hc42_109, if_neg hc66_118, if_neg hc72_121, if_pos hc78_124]
                  rw [ev]
                  exact ⟨rfl, rfl, e107⟩
              · have P126 : ∀ t, Steps p.tables e below (T107.setTop (mkF m 86 #[.val (.ref a1), .val (.int p1)] [(.int (0 : Int32))])) t → Steps p.tables e below (s₁.setTop (entryFrame m #[(.ref a1), (.int p1)] 2)) t := fun t kt => P123 t (by
                  show Steps p.tables e below (T107.setTop (mkF m 78 #[.val (.ref a1), .val (.int p1)] [(.int (13 : Int32)), (.int p1)])) _
                  refine XS.icmpYes X107.here hx rfl (pc0 := 78) (pc' := 85) rfl (hb hby dA_78) rfl (feq hc78_124).2 (by decide) (by decide) ?_
                  show Steps p.tables e below (T107.setTop (mkF m 85 #[.val (.ref a1), .val (.int p1)] [])) _
                  refine XS.iconst X107.here hx rfl (hb hby dA_85) ?_
                  exact kt)
                obtain ⟨fs, hr, hrun, hended, hW, hsame⟩ := X107.leave (v := some (.int (0 : Int32))) (fun h => by rw [Bd.returns] at h; cases h) (hlocks := hlk)
                refine ⟨_, _, P126 _ ?_, hrun, hended, _, _, rfl, ?_, ⟨_, rfl⟩, hW, hsame.mono (by decide) (by decide)⟩
                · show Steps p.tables e below (T107.setTop (mkF m 86 #[.val (.ref a1), .val (.int p1)] [(.int (0 : Int32))])) _
                  exact retN X107 hx (t := .boolean) Bd.returns (by simp) (hb hby dA_86) hr
                · show QP _ h0 _ T107.heap _
                  have ev : fA a1 w1 p1 = (0 : Int32) := by unfold fA; rw [if_pos hc3_102, if_pos hc15_104, if_pos hc27_106, if_neg hc42_109, if_neg hc66_118, if_neg hc72_121, if_neg hc78_124]
                  rw [ev]
                  exact ⟨rfl, rfl, e107⟩
      · have P127 : ∀ t, Steps p.tables e below (s₁.setTop (mkF m 33 #[.val (.ref a1), .val (.int p1)] [(.int (1114111 : Int32)), (.int p1)])) t → Steps p.tables e below (s₁.setTop (entryFrame m #[(.ref a1), (.int p1)] 2)) t := fun t kt => P105 t (by
          show Steps p.tables e below (s₁.setTop (mkF m 27 #[.val (.ref a1), .val (.int p1)] [(.int (65536 : Int32)), (.int p1)])) _
          refine XS.icmpNo X0.here hx rfl (hb hby dA_27) rfl (flt hc27_106).1 ?_
          show Steps p.tables e below (s₁.setTop (mkF m 30 #[.val (.ref a1), .val (.int p1)] [])) _
          refine XS.iloadN X0.here hx rfl (hb hby dA_30) rfl ?_
          show Steps p.tables e below (s₁.setTop (mkF m 31 #[.val (.ref a1), .val (.int p1)] [(.int p1)])) _
          refine X0.ldcInt hx hown (mvT hZ (hw _ (List.mem_of_getElem? (i := 25) rfl))) (g := (mkF m 31 #[.val (.ref a1), .val (.int p1)] [(.int p1)])) rfl (hb hby dA_31) _ ?_
          exact kt)
        by_cases hc33_128 : (1114111 : Int32) < p1
        · obtain ⟨T129, X129, e129, st129⟩ := getS2 X0 hx hZ hown (host := "") (Or.inl (hw _ (List.mem_of_getElem? (i := 24) rfl))) Via.refl e0 S1 (g := (mkF m 39 #[.val (.ref a1), .val (.int p1)] [(.ref a1)])) rfl (hb hby dA_39)
          have P130 : ∀ t, Steps p.tables e below (T129.setTop (mkF m 42 #[.val (.ref a1), .val (.int p1)] [(.ref w1), (.ref a1)])) t → Steps p.tables e below (s₁.setTop (entryFrame m #[(.ref a1), (.int p1)] 2)) t := fun t kt => P127 t (by
            show Steps p.tables e below (s₁.setTop (mkF m 33 #[.val (.ref a1), .val (.int p1)] [(.int (1114111 : Int32)), (.int p1)])) _
            refine XS.icmpYes X0.here hx rfl (pc0 := 33) (pc' := 38) rfl (hb hby dA_33) rfl (tlt hc33_128).2.2.1 (by decide) (by decide) ?_
            show Steps p.tables e below (s₁.setTop (mkF m 38 #[.val (.ref a1), .val (.int p1)] [])) _
            refine XS.aloadN X0.here hx rfl (hb hby dA_38) rfl rfl ?_
            show Steps p.tables e below (s₁.setTop (mkF m 39 #[.val (.ref a1), .val (.int p1)] [(.ref a1)])) _
            refine st129 _ ?_
            exact kt)
          by_cases hc42_131 : a1 = w1
          · have P132 : ∀ t, Steps p.tables e below (T129.setTop (mkF m 46 #[.val (.ref a1), .val (.int p1)] [(.int p1)])) t → Steps p.tables e below (s₁.setTop (entryFrame m #[(.ref a1), (.int p1)] 2)) t := fun t kt => P130 t (by
              show Steps p.tables e below (T129.setTop (mkF m 42 #[.val (.ref a1), .val (.int p1)] [(.ref w1), (.ref a1)])) _
              refine Jvm.RoadKit.acmp (g := (mkF m 42 #[.val (.ref a1), .val (.int p1)] [(.ref w1), (.ref a1)])) X129 hx rfl rfl rfl (pc0 := 42) (pc' := 45) (same := true) rfl (hb hby dA_42) rfl (decide_eq_true (congrArg Value.ref hc42_131)) (by decide) (by decide) ?_
              show Steps p.tables e below (T129.setTop (mkF m 45 #[.val (.ref a1), .val (.int p1)] [])) _
              refine XS.iloadN X129.here hx rfl (hb hby dA_45) rfl ?_
              exact kt)
            by_cases hc46_133 : (0 : Int32) < p1
            · have P134 : ∀ t, Steps p.tables e below (T129.setTop (mkF m 52 #[.val (.ref a1), .val (.int p1)] [(.int (32 : Int32)), (.int p1)])) t → Steps p.tables e below (s₁.setTop (entryFrame m #[(.ref a1), (.int p1)] 2)) t := fun t kt => P132 t (by
                show Steps p.tables e below (T129.setTop (mkF m 46 #[.val (.ref a1), .val (.int p1)] [(.int p1)])) _
                refine XS.ifNo X129.here hx rfl (hb hby dA_46) rfl ((if0 _ _).trans (tlt hc46_133).2.2.2) ?_
                show Steps p.tables e below (T129.setTop (mkF m 49 #[.val (.ref a1), .val (.int p1)] [])) _
                refine XS.iloadN X129.here hx rfl (hb hby dA_49) rfl ?_
                show Steps p.tables e below (T129.setTop (mkF m 50 #[.val (.ref a1), .val (.int p1)] [(.int p1)])) _
                refine XS.bipush X129.here hx rfl (hb hby dA_50) ?_
                exact kt)
              by_cases hc52_135 : p1 < (32 : Int32)
              · have P136 : ∀ t, Steps p.tables e below (T129.setTop (mkF m 86 #[.val (.ref a1), .val (.int p1)] [(.int (1 : Int32))])) t → Steps p.tables e below (s₁.setTop (entryFrame m #[(.ref a1), (.int p1)] 2)) t := fun t kt => P134 t (by
                  show Steps p.tables e below (T129.setTop (mkF m 52 #[.val (.ref a1), .val (.int p1)] [(.int (32 : Int32)), (.int p1)])) _
                  refine XS.icmpNo X129.here hx rfl (hb hby dA_52) rfl (tlt hc52_135).2.1 ?_
                  show Steps p.tables e below (T129.setTop (mkF m 55 #[.val (.ref a1), .val (.int p1)] [])) _
                  refine XS.iconst X129.here hx rfl (hb hby dA_55) ?_
                  show Steps p.tables e below (T129.setTop (mkF m 56 #[.val (.ref a1), .val (.int p1)] [(.int (1 : Int32))])) _
                  refine XS.goto X129.here hx rfl (pc0 := 56) (pc' := 86) rfl (hb hby dA_56) (by decide) (by decide) ?_
                  exact kt)
                obtain ⟨fs, hr, hrun, hended, hW, hsame⟩ := X129.leave (v := some (.int (1 : Int32))) (fun h => by rw [Bd.returns] at h; cases h) (hlocks := hlk)
                refine ⟨_, _, P136 _ ?_, hrun, hended, _, _, rfl, ?_, ⟨_, rfl⟩, hW, hsame.mono (by decide) (by decide)⟩
                · show Steps p.tables e below (T129.setTop (mkF m 86 #[.val (.ref a1), .val (.int p1)] [(.int (1 : Int32))])) _
                  exact retN X129 hx (t := .boolean) Bd.returns (by simp) (hb hby dA_86) hr
                · show QP _ h0 _ T129.heap _
                  have ev : fA a1 w1 p1 = (1 : Int32) := by unfold fA; rw [if_pos hc3_102, if_pos hc15_104, if_neg hc27_106, if_pos hc33_128, if_pos hc42_131, if_pos hc46_133, if_pos hc52_135]
                  rw [ev]
                  exact ⟨rfl, rfl, e129⟩
              · have P137 : ∀ t, Steps p.tables e below (T129.setTop (mkF m 86 #[.val (.ref a1), .val (.int p1)] [(.int (0 : Int32))])) t → Steps p.tables e below (s₁.setTop (entryFrame m #[(.ref a1), (.int p1)] 2)) t := fun t kt => P134 t (by
                  show Steps p.tables e below (T129.setTop (mkF m 52 #[.val (.ref a1), .val (.int p1)] [(.int (32 : Int32)), (.int p1)])) _
                  refine XS.icmpYes X129.here hx rfl (pc0 := 52) (pc' := 59) rfl (hb hby dA_52) rfl (flt hc52_135).2.1 (by decide) (by decide) ?_
                  show Steps p.tables e below (T129.setTop (mkF m 59 #[.val (.ref a1), .val (.int p1)] [])) _
                  refine XS.iconst X129.here hx rfl (hb hby dA_59) ?_
                  show Steps p.tables e below (T129.setTop (mkF m 60 #[.val (.ref a1), .val (.int p1)] [(.int (0 : Int32))])) _
                  refine XS.goto X129.here hx rfl (pc0 := 60) (pc' := 86) rfl (hb hby dA_60) (by decide) (by decide) ?_
                  exact kt)
                obtain ⟨fs, hr, hrun, hended, hW, hsame⟩ := X129.leave (v := some (.int (0 : Int32))) (fun h => by rw [Bd.returns] at h; cases h) (hlocks := hlk)
                refine ⟨_, _, P137 _ ?_, hrun, hended, _, _, rfl, ?_, ⟨_, rfl⟩, hW, hsame.mono (by decide) (by decide)⟩
                · show Steps p.tables e below (T129.setTop (mkF m 86 #[.val (.ref a1), .val (.int p1)] [(.int (0 : Int32))])) _
                  exact retN X129 hx (t := .boolean) Bd.returns (by simp) (hb hby dA_86) hr
                · show QP _ h0 _ T129.heap _
                  have ev : fA a1 w1 p1 = (0 : Int32) := by unfold fA; rw [if_pos hc3_102, if_pos hc15_104, if_neg hc27_106, if_pos hc33_128, if_pos hc42_131, if_pos hc46_133, if_neg hc52_135]
                  rw [ev]
                  exact ⟨rfl, rfl, e129⟩
            · have P138 : ∀ t, Steps p.tables e below (T129.setTop (mkF m 86 #[.val (.ref a1), .val (.int p1)] [(.int (0 : Int32))])) t → Steps p.tables e below (s₁.setTop (entryFrame m #[(.ref a1), (.int p1)] 2)) t := fun t kt => P132 t (by
                show Steps p.tables e below (T129.setTop (mkF m 46 #[.val (.ref a1), .val (.int p1)] [(.int p1)])) _
                refine XS.ifYes X129.here hx rfl (pc0 := 46) (pc' := 59) rfl (hb hby dA_46) rfl ((if0 _ _).trans (flt hc46_133).2.2.2) (by decide) (by decide) ?_
                show Steps p.tables e below (T129.setTop (mkF m 59 #[.val (.ref a1), .val (.int p1)] [])) _
                refine XS.iconst X129.here hx rfl (hb hby dA_59) ?_
                show Steps p.tables e below (T129.setTop (mkF m 60 #[.val (.ref a1), .val (.int p1)] [(.int (0 : Int32))])) _
                refine XS.goto X129.here hx rfl (pc0 := 60) (pc' := 86) rfl (hb hby dA_60) (by decide) (by decide) ?_
                exact kt)
              obtain ⟨fs, hr, hrun, hended, hW, hsame⟩ := X129.leave (v := some (.int (0 : Int32))) (fun h => by rw [Bd.returns] at h; cases h) (hlocks := hlk)
              refine ⟨_, _, P138 _ ?_, hrun, hended, _, _, rfl, ?_, ⟨_, rfl⟩, hW, hsame.mono (by decide) (by decide)⟩
              · show Steps p.tables e below (T129.setTop (mkF m 86 #[.val (.ref a1), .val (.int p1)] [(.int (0 : Int32))])) _
                exact retN X129 hx (t := .boolean) Bd.returns (by simp) (hb hby dA_86) hr
              · show QP _ h0 _ T129.heap _
                have ev : fA a1 w1 p1 = (0 : Int32) := by unfold fA; rw [if_pos hc3_102, if_pos hc15_104, if_neg hc27_106, if_pos hc33_128, if_pos hc42_131, if_neg hc46_133]
                rw [ev]
                exact ⟨rfl, rfl, e129⟩
          · have P139 : ∀ t, Steps p.tables e below (T129.setTop (mkF m 66 #[.val (.ref a1), .val (.int p1)] [(.int (9 : Int32)), (.int p1)])) t → Steps p.tables e below (s₁.setTop (entryFrame m #[(.ref a1), (.int p1)] 2)) t := fun t kt => P130 t (by
              show Steps p.tables e below (T129.setTop (mkF m 42 #[.val (.ref a1), .val (.int p1)] [(.ref w1), (.ref a1)])) _
              refine Jvm.RoadKit.acmp (g := (mkF m 42 #[.val (.ref a1), .val (.int p1)] [(.ref w1), (.ref a1)])) X129 hx rfl rfl rfl (pc0 := 42) (pc' := 63) (same := false) rfl (hb hby dA_42) rfl (decide_eq_false fun q => hc42_131 (Value.ref.inj q)) (by decide) (by decide) ?_
              show Steps p.tables e below (T129.setTop (mkF m 63 #[.val (.ref a1), .val (.int p1)] [])) _
              refine XS.iloadN X129.here hx rfl (hb hby dA_63) rfl ?_
              show Steps p.tables e below (T129.setTop (mkF m 64 #[.val (.ref a1), .val (.int p1)] [(.int p1)])) _
              refine XS.bipush X129.here hx rfl (hb hby dA_64) ?_
              exact kt)
            by_cases hc66_140 : p1 = (9 : Int32)
            · have P141 : ∀ t, Steps p.tables e below (T129.setTop (mkF m 86 #[.val (.ref a1), .val (.int p1)] [(.int (1 : Int32))])) t → Steps p.tables e below (s₁.setTop (entryFrame m #[(.ref a1), (.int p1)] 2)) t := fun t kt => P139 t (by
                show Steps p.tables e below (T129.setTop (mkF m 66 #[.val (.ref a1), .val (.int p1)] [(.int (9 : Int32)), (.int p1)])) _
                refine XS.icmpYes X129.here hx rfl (pc0 := 66) (pc' := 81) rfl (hb hby dA_66) rfl (teq hc66_140).1 (by decide) (by decide) ?_
                show Steps p.tables e below (T129.setTop (mkF m 81 #[.val (.ref a1), .val (.int p1)] [])) _
                refine XS.iconst X129.here hx rfl (hb hby dA_81) ?_
                show Steps p.tables e below (T129.setTop (mkF m 82 #[.val (.ref a1), .val (.int p1)] [(.int (1 : Int32))])) _
                refine XS.goto X129.here hx rfl (pc0 := 82) (pc' := 86) rfl (hb hby dA_82) (by decide) (by decide) ?_
                exact kt)
              obtain ⟨fs, hr, hrun, hended, hW, hsame⟩ := X129.leave (v := some (.int (1 : Int32))) (fun h => by rw [Bd.returns] at h; cases h) (hlocks := hlk)
              refine ⟨_, _, P141 _ ?_, hrun, hended, _, _, rfl, ?_, ⟨_, rfl⟩, hW, hsame.mono (by decide) (by decide)⟩
              · show Steps p.tables e below (T129.setTop (mkF m 86 #[.val (.ref a1), .val (.int p1)] [(.int (1 : Int32))])) _
                exact retN X129 hx (t := .boolean) Bd.returns (by simp) (hb hby dA_86) hr
              · show QP _ h0 _ T129.heap _
                have ev : fA a1 w1 p1 = (1 : Int32) := by unfold fA; rw [if_pos hc3_102, if_pos hc15_104, if_neg hc27_106, if_pos hc33_128, if_neg hc42_131, if_pos hc66_140]
                rw [ev]
                exact ⟨rfl, rfl, e129⟩
            · have P142 : ∀ t, Steps p.tables e below (T129.setTop (mkF m 72 #[.val (.ref a1), .val (.int p1)] [(.int (10 : Int32)), (.int p1)])) t → Steps p.tables e below (s₁.setTop (entryFrame m #[(.ref a1), (.int p1)] 2)) t := fun t kt => P139 t (by
                show Steps p.tables e below (T129.setTop (mkF m 66 #[.val (.ref a1), .val (.int p1)] [(.int (9 : Int32)), (.int p1)])) _
                refine XS.icmpNo X129.here hx rfl (hb hby dA_66) rfl (feq hc66_140).1 ?_
                show Steps p.tables e below (T129.setTop (mkF m 69 #[.val (.ref a1), .val (.int p1)] [])) _
                refine XS.iloadN X129.here hx rfl (hb hby dA_69) rfl ?_
                show Steps p.tables e below (T129.setTop (mkF m 70 #[.val (.ref a1), .val (.int p1)] [(.int p1)])) _
                refine XS.bipush X129.here hx rfl (hb hby dA_70) ?_
                exact kt)
              by_cases hc72_143 : p1 = (10 : Int32)
              · have P144 : ∀ t, Steps p.tables e below (T129.setTop (mkF m 86 #[.val (.ref a1), .val (.int p1)] [(.int (1 : Int32))])) t → Steps p.tables e below (s₁.setTop (entryFrame m #[(.ref a1), (.int p1)] 2)) t := fun t kt => P142 t (by
                  show Steps p.tables e below (T129.setTop (mkF m 72 #[.val (.ref a1), .val (.int p1)] [(.int (10 : Int32)), (.int p1)])) _
                  refine XS.icmpYes X129.here hx rfl (pc0 := 72) (pc' := 81) rfl (hb hby dA_72) rfl (teq hc72_143).1 (by decide) (by decide) ?_
                  show Steps p.tables e below (T129.setTop (mkF m 81 #[.val (.ref a1), .val (.int p1)] [])) _
                  refine XS.iconst X129.here hx rfl (hb hby dA_81) ?_
                  show Steps p.tables e below (T129.setTop (mkF m 82 #[.val (.ref a1), .val (.int p1)] [(.int (1 : Int32))])) _
                  refine XS.goto X129.here hx rfl (pc0 := 82) (pc' := 86) rfl (hb hby dA_82) (by decide) (by decide) ?_
                  exact kt)
                obtain ⟨fs, hr, hrun, hended, hW, hsame⟩ := X129.leave (v := some (.int (1 : Int32))) (fun h => by rw [Bd.returns] at h; cases h) (hlocks := hlk)
                refine ⟨_, _, P144 _ ?_, hrun, hended, _, _, rfl, ?_, ⟨_, rfl⟩, hW, hsame.mono (by decide) (by decide)⟩
                · show Steps p.tables e below (T129.setTop (mkF m 86 #[.val (.ref a1), .val (.int p1)] [(.int (1 : Int32))])) _
                  exact retN X129 hx (t := .boolean) Bd.returns (by simp) (hb hby dA_86) hr
                · show QP _ h0 _ T129.heap _
                  have ev : fA a1 w1 p1 = (1 : Int32) := by unfold fA; rw [if_pos hc3_102, if_pos hc15_104, if_neg hc27_106, if_pos hc33_128, if_neg hc42_131, if_neg hc66_140, if_pos hc72_143]
                  rw [ev]
                  exact ⟨rfl, rfl, e129⟩
              · have P145 : ∀ t, Steps p.tables e below (T129.setTop (mkF m 78 #[.val (.ref a1), .val (.int p1)] [(.int (13 : Int32)), (.int p1)])) t → Steps p.tables e below (s₁.setTop (entryFrame m #[(.ref a1), (.int p1)] 2)) t := fun t kt => P142 t (by
                  show Steps p.tables e below (T129.setTop (mkF m 72 #[.val (.ref a1), .val (.int p1)] [(.int (10 : Int32)), (.int p1)])) _
                  refine XS.icmpNo X129.here hx rfl (hb hby dA_72) rfl (feq hc72_143).1 ?_
                  show Steps p.tables e below (T129.setTop (mkF m 75 #[.val (.ref a1), .val (.int p1)] [])) _
                  refine XS.iloadN X129.here hx rfl (hb hby dA_75) rfl ?_
                  show Steps p.tables e below (T129.setTop (mkF m 76 #[.val (.ref a1), .val (.int p1)] [(.int p1)])) _
                  refine XS.bipush X129.here hx rfl (hb hby dA_76) ?_
                  exact kt)
                by_cases hc78_146 : p1 = (13 : Int32)
                · have P147 : ∀ t, Steps p.tables e below (T129.setTop (mkF m 86 #[.val (.ref a1), .val (.int p1)] [(.int (1 : Int32))])) t → Steps p.tables e below (s₁.setTop (entryFrame m #[(.ref a1), (.int p1)] 2)) t := fun t kt => P145 t (by
                    show Steps p.tables e below (T129.setTop (mkF m 78 #[.val (.ref a1), .val (.int p1)] [(.int (13 : Int32)), (.int p1)])) _
                    refine XS.icmpNo X129.here hx rfl (hb hby dA_78) rfl (teq hc78_146).2 ?_
                    show Steps p.tables e below (T129.setTop (mkF m 81 #[.val (.ref a1), .val (.int p1)] [])) _
                    refine XS.iconst X129.here hx rfl (hb hby dA_81) ?_
                    show Steps p.tables e below (T129.setTop (mkF m 82 #[.val (.ref a1), .val (.int p1)] [(.int (1 : Int32))])) _
                    refine XS.goto X129.here hx rfl (pc0 := 82) (pc' := 86) rfl (hb hby dA_82) (by decide) (by decide) ?_
                    exact kt)
                  obtain ⟨fs, hr, hrun, hended, hW, hsame⟩ := X129.leave (v := some (.int (1 : Int32))) (fun h => by rw [Bd.returns] at h; cases h) (hlocks := hlk)
                  refine ⟨_, _, P147 _ ?_, hrun, hended, _, _, rfl, ?_, ⟨_, rfl⟩, hW, hsame.mono (by decide) (by decide)⟩
                  · show Steps p.tables e below (T129.setTop (mkF m 86 #[.val (.ref a1), .val (.int p1)] [(.int (1 : Int32))])) _
                    exact retN X129 hx (t := .boolean) Bd.returns (by simp) (hb hby dA_86) hr
                  · show QP _ h0 _ T129.heap _
                    have ev : fA a1 w1 p1 = (1 : Int32) := by unfold fA; rw [if_pos hc3_102, if_pos hc15_104, if_neg hc27_106, if_pos hc33_128, if_neg hc42_131, if_neg hc66_140, if_neg hc72_143, if_pos hc78_146]
                    rw [ev]
                    exact ⟨rfl, rfl, e129⟩
                · have P148 : ∀ t, Steps p.tables e below (T129.setTop (mkF m 86 #[.val (.ref a1), .val (.int p1)] [(.int (0 : Int32))])) t → Steps p.tables e below (s₁.setTop (entryFrame m #[(.ref a1), (.int p1)] 2)) t := fun t kt => P145 t (by
                    show Steps p.tables e below (T129.setTop (mkF m 78 #[.val (.ref a1), .val (.int p1)] [(.int (13 : Int32)), (.int p1)])) _
                    refine XS.icmpYes X129.here hx rfl (pc0 := 78) (pc' := 85) rfl (hb hby dA_78) rfl (feq hc78_146).2 (by decide) (by decide) ?_
                    show Steps p.tables e below (T129.setTop (mkF m 85 #[.val (.ref a1), .val (.int p1)] [])) _
                    refine XS.iconst X129.here hx rfl (hb hby dA_85) ?_
                    exact kt)
                  obtain ⟨fs, hr, hrun, hended, hW, hsame⟩ := X129.leave (v := some (.int (0 : Int32))) (fun h => by rw [Bd.returns] at h; cases h) (hlocks := hlk)
                  refine ⟨_, _, P148 _ ?_, hrun, hended, _, _, rfl, ?_, ⟨_, rfl⟩, hW, hsame.mono (by decide) (by decide)⟩
                  · show Steps p.tables e below (T129.setTop (mkF m 86 #[.val (.ref a1), .val (.int p1)] [(.int (0 : Int32))])) _
                    exact retN X129 hx (t := .boolean) Bd.returns (by simp) (hb hby dA_86) hr
                  · show QP _ h0 _ T129.heap _
                    have ev : fA a1 w1 p1 = (0 : Int32) := by unfold fA; rw [if_pos hc3_102, if_pos hc15_104, if_neg hc27_106, if_pos hc33_128, if_neg hc42_131, if_neg hc66_140, if_neg hc72_143, if_neg hc78_146]
                    rw [ev]
                    exact ⟨rfl, rfl, e129⟩
        · have P149 : ∀ t, Steps p.tables e below (s₁.setTop (mkF m 37 #[.val (.ref a1), .val (.int p1)] [(.int (1 : Int32))])) t → Steps p.tables e below (s₁.setTop (entryFrame m #[(.ref a1), (.int p1)] 2)) t := fun t kt => P127 t (by
            show Steps p.tables e below (s₁.setTop (mkF m 33 #[.val (.ref a1), .val (.int p1)] [(.int (1114111 : Int32)), (.int p1)])) _
            refine XS.icmpNo X0.here hx rfl (hb hby dA_33) rfl (flt hc33_128).2.2.1 ?_
            show Steps p.tables e below (s₁.setTop (mkF m 36 #[.val (.ref a1), .val (.int p1)] [])) _
            refine XS.iconst X0.here hx rfl (hb hby dA_36) ?_
            exact kt)
          obtain ⟨fs, hr, hrun, hended, hW, hsame⟩ := X0.leave (v := some (.int (1 : Int32))) (fun h => by rw [Bd.returns] at h; cases h) (hlocks := hlk)
          refine ⟨_, _, P149 _ ?_, hrun, hended, _, _, rfl, ?_, ⟨_, rfl⟩, hW, hsame.mono (by decide) (by decide)⟩
          · show Steps p.tables e below (s₁.setTop (mkF m 37 #[.val (.ref a1), .val (.int p1)] [(.int (1 : Int32))])) _
            exact retN X0 hx (t := .boolean) Bd.returns (by simp) (hb hby dA_37) hr
          · show QP _ h0 _ s₁.heap _
            have ev : fA a1 w1 p1 = (1 : Int32) := by unfold fA; rw [if_pos hc3_102, if_pos hc15_104, if_neg hc27_106, if_neg hc33_128]
            rw [ev]
            exact ⟨rfl, rfl, e0⟩
    · have P150 : ∀ t, Steps p.tables e below (s₁.setTop (mkF m 21 #[.val (.ref a1), .val (.int p1)] [(.int (65533 : Int32)), (.int p1)])) t → Steps p.tables e below (s₁.setTop (entryFrame m #[(.ref a1), (.int p1)] 2)) t := fun t kt => P103 t (by
        show Steps p.tables e below (s₁.setTop (mkF m 15 #[.val (.ref a1), .val (.int p1)] [(.int (57344 : Int32)), (.int p1)])) _
        refine XS.icmpNo X0.here hx rfl (hb hby dA_15) rfl (flt hc15_104).1 ?_
        show Steps p.tables e below (s₁.setTop (mkF m 18 #[.val (.ref a1), .val (.int p1)] [])) _
        refine XS.iloadN X0.here hx rfl (hb hby dA_18) rfl ?_
        show Steps p.tables e below (s₁.setTop (mkF m 19 #[.val (.ref a1), .val (.int p1)] [(.int p1)])) _
        refine X0.ldcInt hx hown (mvT hZ (hw _ (List.mem_of_getElem? (i := 20) rfl))) (g := (mkF m 19 #[.val (.ref a1), .val (.int p1)] [(.int p1)])) rfl (hb hby dA_19) _ ?_
        exact kt)
      by_cases hc21_151 : (65533 : Int32) < p1
      · have P152 : ∀ t, Steps p.tables e below (s₁.setTop (mkF m 27 #[.val (.ref a1), .val (.int p1)] [(.int (65536 : Int32)), (.int p1)])) t → Steps p.tables e below (s₁.setTop (entryFrame m #[(.ref a1), (.int p1)] 2)) t := fun t kt => P150 t (by
          show Steps p.tables e below (s₁.setTop (mkF m 21 #[.val (.ref a1), .val (.int p1)] [(.int (65533 : Int32)), (.int p1)])) _
          refine XS.icmpNo X0.here hx rfl (hb hby dA_21) rfl (tlt hc21_151).2.2.2 ?_
          show Steps p.tables e below (s₁.setTop (mkF m 24 #[.val (.ref a1), .val (.int p1)] [])) _
          refine XS.iloadN X0.here hx rfl (hb hby dA_24) rfl ?_
          show Steps p.tables e below (s₁.setTop (mkF m 25 #[.val (.ref a1), .val (.int p1)] [(.int p1)])) _
          refine X0.ldcInt hx hown (mvT hZ (hw _ (List.mem_of_getElem? (i := 23) rfl))) (g := (mkF m 25 #[.val (.ref a1), .val (.int p1)] [(.int p1)])) rfl (hb hby dA_25) _ ?_
          exact kt)
        by_cases hc27_153 : p1 < (65536 : Int32)
        · obtain ⟨T154, X154, e154, st154⟩ := getS2 X0 hx hZ hown (host := "") (Or.inl (hw _ (List.mem_of_getElem? (i := 24) rfl))) Via.refl e0 S1 (g := (mkF m 39 #[.val (.ref a1), .val (.int p1)] [(.ref a1)])) rfl (hb hby dA_39)
          have P155 : ∀ t, Steps p.tables e below (T154.setTop (mkF m 42 #[.val (.ref a1), .val (.int p1)] [(.ref w1), (.ref a1)])) t → Steps p.tables e below (s₁.setTop (entryFrame m #[(.ref a1), (.int p1)] 2)) t := fun t kt => P152 t (by
            show Steps p.tables e below (s₁.setTop (mkF m 27 #[.val (.ref a1), .val (.int p1)] [(.int (65536 : Int32)), (.int p1)])) _
            refine XS.icmpYes X0.here hx rfl (pc0 := 27) (pc' := 38) rfl (hb hby dA_27) rfl (tlt hc27_153).1 (by decide) (by decide) ?_
            show Steps p.tables e below (s₁.setTop (mkF m 38 #[.val (.ref a1), .val (.int p1)] [])) _
            refine XS.aloadN X0.here hx rfl (hb hby dA_38) rfl rfl ?_
            show Steps p.tables e below (s₁.setTop (mkF m 39 #[.val (.ref a1), .val (.int p1)] [(.ref a1)])) _
            refine st154 _ ?_
            exact kt)
          by_cases hc42_156 : a1 = w1
          · have P157 : ∀ t, Steps p.tables e below (T154.setTop (mkF m 46 #[.val (.ref a1), .val (.int p1)] [(.int p1)])) t → Steps p.tables e below (s₁.setTop (entryFrame m #[(.ref a1), (.int p1)] 2)) t := fun t kt => P155 t (by
              show Steps p.tables e below (T154.setTop (mkF m 42 #[.val (.ref a1), .val (.int p1)] [(.ref w1), (.ref a1)])) _
              refine Jvm.RoadKit.acmp (g := (mkF m 42 #[.val (.ref a1), .val (.int p1)] [(.ref w1), (.ref a1)])) X154 hx rfl rfl rfl (pc0 := 42) (pc' := 45) (same := true) rfl (hb hby dA_42) rfl (decide_eq_true (congrArg Value.ref hc42_156)) (by decide) (by decide) ?_
              show Steps p.tables e below (T154.setTop (mkF m 45 #[.val (.ref a1), .val (.int p1)] [])) _
              refine XS.iloadN X154.here hx rfl (hb hby dA_45) rfl ?_
              exact kt)
            by_cases hc46_158 : (0 : Int32) < p1
            · have P159 : ∀ t, Steps p.tables e below (T154.setTop (mkF m 52 #[.val (.ref a1), .val (.int p1)] [(.int (32 : Int32)), (.int p1)])) t → Steps p.tables e below (s₁.setTop (entryFrame m #[(.ref a1), (.int p1)] 2)) t := fun t kt => P157 t (by
                show Steps p.tables e below (T154.setTop (mkF m 46 #[.val (.ref a1), .val (.int p1)] [(.int p1)])) _
                refine XS.ifNo X154.here hx rfl (hb hby dA_46) rfl ((if0 _ _).trans (tlt hc46_158).2.2.2) ?_
                show Steps p.tables e below (T154.setTop (mkF m 49 #[.val (.ref a1), .val (.int p1)] [])) _
                refine XS.iloadN X154.here hx rfl (hb hby dA_49) rfl ?_
                show Steps p.tables e below (T154.setTop (mkF m 50 #[.val (.ref a1), .val (.int p1)] [(.int p1)])) _
                refine XS.bipush X154.here hx rfl (hb hby dA_50) ?_
                exact kt)
              by_cases hc52_160 : p1 < (32 : Int32)
              · have P161 : ∀ t, Steps p.tables e below (T154.setTop (mkF m 86 #[.val (.ref a1), .val (.int p1)] [(.int (1 : Int32))])) t → Steps p.tables e below (s₁.setTop (entryFrame m #[(.ref a1), (.int p1)] 2)) t := fun t kt => P159 t (by
                  show Steps p.tables e below (T154.setTop (mkF m 52 #[.val (.ref a1), .val (.int p1)] [(.int (32 : Int32)), (.int p1)])) _
                  refine XS.icmpNo X154.here hx rfl (hb hby dA_52) rfl (tlt hc52_160).2.1 ?_
                  show Steps p.tables e below (T154.setTop (mkF m 55 #[.val (.ref a1), .val (.int p1)] [])) _
                  refine XS.iconst X154.here hx rfl (hb hby dA_55) ?_
                  show Steps p.tables e below (T154.setTop (mkF m 56 #[.val (.ref a1), .val (.int p1)] [(.int (1 : Int32))])) _
                  refine XS.goto X154.here hx rfl (pc0 := 56) (pc' := 86) rfl (hb hby dA_56) (by decide) (by decide) ?_
                  exact kt)
                obtain ⟨fs, hr, hrun, hended, hW, hsame⟩ := X154.leave (v := some (.int (1 : Int32))) (fun h => by rw [Bd.returns] at h; cases h) (hlocks := hlk)
                refine ⟨_, _, P161 _ ?_, hrun, hended, _, _, rfl, ?_, ⟨_, rfl⟩, hW, hsame.mono (by decide) (by decide)⟩
                · show Steps p.tables e below (T154.setTop (mkF m 86 #[.val (.ref a1), .val (.int p1)] [(.int (1 : Int32))])) _
                  exact retN X154 hx (t := .boolean) Bd.returns (by simp) (hb hby dA_86) hr
                · show QP _ h0 _ T154.heap _
                  have ev : fA a1 w1 p1 = (1 : Int32) := by unfold fA; rw [if_pos hc3_102, if_neg hc15_104, if_pos hc21_151, if_pos hc27_153, if_pos hc42_156, if_pos hc46_158, if_pos hc52_160]
                  rw [ev]
                  exact ⟨rfl, rfl, e154⟩
              · have P162 : ∀ t, Steps p.tables e below (T154.setTop (mkF m 86 #[.val (.ref a1), .val (.int p1)] [(.int (0 : Int32))])) t → Steps p.tables e below (s₁.setTop (entryFrame m #[(.ref a1), (.int p1)] 2)) t := fun t kt => P159 t (by
                  show Steps p.tables e below (T154.setTop (mkF m 52 #[.val (.ref a1), .val (.int p1)] [(.int (32 : Int32)), (.int p1)])) _
                  refine XS.icmpYes X154.here hx rfl (pc0 := 52) (pc' := 59) rfl (hb hby dA_52) rfl (flt hc52_160).2.1 (by decide) (by decide) ?_
                  show Steps p.tables e below (T154.setTop (mkF m 59 #[.val (.ref a1), .val (.int p1)] [])) _
                  refine XS.iconst X154.here hx rfl (hb hby dA_59) ?_
                  show Steps p.tables e below (T154.setTop (mkF m 60 #[.val (.ref a1), .val (.int p1)] [(.int (0 : Int32))])) _
                  refine XS.goto X154.here hx rfl (pc0 := 60) (pc' := 86) rfl (hb hby dA_60) (by decide) (by decide) ?_
                  exact kt)
                obtain ⟨fs, hr, hrun, hended, hW, hsame⟩ := X154.leave (v := some (.int (0 : Int32))) (fun h => by rw [Bd.returns] at h; cases h) (hlocks := hlk)
                refine ⟨_, _, P162 _ ?_, hrun, hended, _, _, rfl, ?_, ⟨_, rfl⟩, hW, hsame.mono (by decide) (by decide)⟩
                · show Steps p.tables e below (T154.setTop (mkF m 86 #[.val (.ref a1), .val (.int p1)] [(.int (0 : Int32))])) _
                  exact retN X154 hx (t := .boolean) Bd.returns (by simp) (hb hby dA_86) hr
                · show QP _ h0 _ T154.heap _
                  have ev : fA a1 w1 p1 = (0 : Int32) := by unfold fA; rw [if_pos hc3_102, if_neg hc15_104, if_pos hc21_151, if_pos hc27_153, if_pos hc42_156, if_pos hc46_158, if_neg hc52_160]
                  rw [ev]
                  exact ⟨rfl, rfl, e154⟩
            · have P163 : ∀ t, Steps p.tables e below (T154.setTop (mkF m 86 #[.val (.ref a1), .val (.int p1)] [(.int (0 : Int32))])) t → Steps p.tables e below (s₁.setTop (entryFrame m #[(.ref a1), (.int p1)] 2)) t := fun t kt => P157 t (by
                show Steps p.tables e below (T154.setTop (mkF m 46 #[.val (.ref a1), .val (.int p1)] [(.int p1)])) _
                refine XS.ifYes X154.here hx rfl (pc0 := 46) (pc' := 59) rfl (hb hby dA_46) rfl ((if0 _ _).trans (flt hc46_158).2.2.2) (by decide) (by decide) ?_
                show Steps p.tables e below (T154.setTop (mkF m 59 #[.val (.ref a1), .val (.int p1)] [])) _
                refine XS.iconst X154.here hx rfl (hb hby dA_59) ?_
                show Steps p.tables e below (T154.setTop (mkF m 60 #[.val (.ref a1), .val (.int p1)] [(.int (0 : Int32))])) _
                refine XS.goto X154.here hx rfl (pc0 := 60) (pc' := 86) rfl (hb hby dA_60) (by decide) (by decide) ?_
                exact kt)
              obtain ⟨fs, hr, hrun, hended, hW, hsame⟩ := X154.leave (v := some (.int (0 : Int32))) (fun h => by rw [Bd.returns] at h; cases h) (hlocks := hlk)
              refine ⟨_, _, P163 _ ?_, hrun, hended, _, _, rfl, ?_, ⟨_, rfl⟩, hW, hsame.mono (by decide) (by decide)⟩
              · show Steps p.tables e below (T154.setTop (mkF m 86 #[.val (.ref a1), .val (.int p1)] [(.int (0 : Int32))])) _
                exact retN X154 hx (t := .boolean) Bd.returns (by simp) (hb hby dA_86) hr
              · show QP _ h0 _ T154.heap _
                have ev : fA a1 w1 p1 = (0 : Int32) := by unfold fA; rw [if_pos hc3_102, if_neg hc15_104, if_pos hc21_151, if_pos hc27_153, if_pos hc42_156, if_neg hc46_158]
                rw [ev]
                exact ⟨rfl, rfl, e154⟩
          · have P164 : ∀ t, Steps p.tables e below (T154.setTop (mkF m 66 #[.val (.ref a1), .val (.int p1)] [(.int (9 : Int32)), (.int p1)])) t → Steps p.tables e below (s₁.setTop (entryFrame m #[(.ref a1), (.int p1)] 2)) t := fun t kt => P155 t (by
              show Steps p.tables e below (T154.setTop (mkF m 42 #[.val (.ref a1), .val (.int p1)] [(.ref w1), (.ref a1)])) _
              refine Jvm.RoadKit.acmp (g := (mkF m 42 #[.val (.ref a1), .val (.int p1)] [(.ref w1), (.ref a1)])) X154 hx rfl rfl rfl (pc0 := 42) (pc' := 63) (same := false) rfl (hb hby dA_42) rfl (decide_eq_false fun q => hc42_156 (Value.ref.inj q)) (by decide) (by decide) ?_
              show Steps p.tables e below (T154.setTop (mkF m 63 #[.val (.ref a1), .val (.int p1)] [])) _
              refine XS.iloadN X154.here hx rfl (hb hby dA_63) rfl ?_
              show Steps p.tables e below (T154.setTop (mkF m 64 #[.val (.ref a1), .val (.int p1)] [(.int p1)])) _
              refine XS.bipush X154.here hx rfl (hb hby dA_64) ?_
              exact kt)
            by_cases hc66_165 : p1 = (9 : Int32)
            · have P166 : ∀ t, Steps p.tables e below (T154.setTop (mkF m 86 #[.val (.ref a1), .val (.int p1)] [(.int (1 : Int32))])) t → Steps p.tables e below (s₁.setTop (entryFrame m #[(.ref a1), (.int p1)] 2)) t := fun t kt => P164 t (by
                show Steps p.tables e below (T154.setTop (mkF m 66 #[.val (.ref a1), .val (.int p1)] [(.int (9 : Int32)), (.int p1)])) _
                refine XS.icmpYes X154.here hx rfl (pc0 := 66) (pc' := 81) rfl (hb hby dA_66) rfl (teq hc66_165).1 (by decide) (by decide) ?_
                show Steps p.tables e below (T154.setTop (mkF m 81 #[.val (.ref a1), .val (.int p1)] [])) _
                refine XS.iconst X154.here hx rfl (hb hby dA_81) ?_
                show Steps p.tables e below (T154.setTop (mkF m 82 #[.val (.ref a1), .val (.int p1)] [(.int (1 : Int32))])) _
                refine XS.goto X154.here hx rfl (pc0 := 82) (pc' := 86) rfl (hb hby dA_82) (by decide) (by decide) ?_
                exact kt)
              obtain ⟨fs, hr, hrun, hended, hW, hsame⟩ := X154.leave (v := some (.int (1 : Int32))) (fun h => by rw [Bd.returns] at h; cases h) (hlocks := hlk)
              refine ⟨_, _, P166 _ ?_, hrun, hended, _, _, rfl, ?_, ⟨_, rfl⟩, hW, hsame.mono (by decide) (by decide)⟩
              · show Steps p.tables e below (T154.setTop (mkF m 86 #[.val (.ref a1), .val (.int p1)] [(.int (1 : Int32))])) _
                exact retN X154 hx (t := .boolean) Bd.returns (by simp) (hb hby dA_86) hr
              · show QP _ h0 _ T154.heap _
                have ev : fA a1 w1 p1 = (1 : Int32) := by unfold fA; rw [if_pos hc3_102, if_neg hc15_104, if_pos hc21_151, if_pos hc27_153, if_neg hc42_156, if_pos hc66_165]
                rw [ev]
                exact ⟨rfl, rfl, e154⟩
            · have P167 : ∀ t, Steps p.tables e below (T154.setTop (mkF m 72 #[.val (.ref a1), .val (.int p1)] [(.int (10 : Int32)), (.int p1)])) t → Steps p.tables e below (s₁.setTop (entryFrame m #[(.ref a1), (.int p1)] 2)) t := fun t kt => P164 t (by
                show Steps p.tables e below (T154.setTop (mkF m 66 #[.val (.ref a1), .val (.int p1)] [(.int (9 : Int32)), (.int p1)])) _
                refine XS.icmpNo X154.here hx rfl (hb hby dA_66) rfl (feq hc66_165).1 ?_
                show Steps p.tables e below (T154.setTop (mkF m 69 #[.val (.ref a1), .val (.int p1)] [])) _
                refine XS.iloadN X154.here hx rfl (hb hby dA_69) rfl ?_
                show Steps p.tables e below (T154.setTop (mkF m 70 #[.val (.ref a1), .val (.int p1)] [(.int p1)])) _
                refine XS.bipush X154.here hx rfl (hb hby dA_70) ?_
                exact kt)
              by_cases hc72_168 : p1 = (10 : Int32)
              · have P169 : ∀ t, Steps p.tables e below (T154.setTop (mkF m 86 #[.val (.ref a1), .val (.int p1)] [(.int (1 : Int32))])) t → Steps p.tables e below (s₁.setTop (entryFrame m #[(.ref a1), (.int p1)] 2)) t := fun t kt => P167 t (by
                  show Steps p.tables e below (T154.setTop (mkF m 72 #[.val (.ref a1), .val (.int p1)] [(.int (10 : Int32)), (.int p1)])) _
                  refine XS.icmpYes X154.here hx rfl (pc0 := 72) (pc' := 81) rfl (hb hby dA_72) rfl (teq hc72_168).1 (by decide) (by decide) ?_
                  show Steps p.tables e below (T154.setTop (mkF m 81 #[.val (.ref a1), .val (.int p1)] [])) _
                  refine XS.iconst X154.here hx rfl (hb hby dA_81) ?_
                  show Steps p.tables e below (T154.setTop (mkF m 82 #[.val (.ref a1), .val (.int p1)] [(.int (1 : Int32))])) _
                  refine XS.goto X154.here hx rfl (pc0 := 82) (pc' := 86) rfl (hb hby dA_82) (by decide) (by decide) ?_
                  exact kt)
                obtain ⟨fs, hr, hrun, hended, hW, hsame⟩ := X154.leave (v := some (.int (1 : Int32))) (fun h => by rw [Bd.returns] at h; cases h) (hlocks := hlk)
                refine ⟨_, _, P169 _ ?_, hrun, hended, _, _, rfl, ?_, ⟨_, rfl⟩, hW, hsame.mono (by decide) (by decide)⟩
                · show Steps p.tables e below (T154.setTop (mkF m 86 #[.val (.ref a1), .val (.int p1)] [(.int (1 : Int32))])) _
                  exact retN X154 hx (t := .boolean) Bd.returns (by simp) (hb hby dA_86) hr
                · show QP _ h0 _ T154.heap _
                  have ev : fA a1 w1 p1 = (1 : Int32) := by unfold fA; rw [if_pos hc3_102, if_neg hc15_104, if_pos hc21_151, if_pos hc27_153, if_neg hc42_156, if_neg hc66_165, if_pos hc72_168]
                  rw [ev]
                  exact ⟨rfl, rfl, e154⟩
              · have P170 : ∀ t, Steps p.tables e below (T154.setTop (mkF m 78 #[.val (.ref a1), .val (.int p1)] [(.int (13 : Int32)), (.int p1)])) t → Steps p.tables e below (s₁.setTop (entryFrame m #[(.ref a1), (.int p1)] 2)) t := fun t kt => P167 t (by
                  show Steps p.tables e below (T154.setTop (mkF m 72 #[.val (.ref a1), .val (.int p1)] [(.int (10 : Int32)), (.int p1)])) _
                  refine XS.icmpNo X154.here hx rfl (hb hby dA_72) rfl (feq hc72_168).1 ?_
                  show Steps p.tables e below (T154.setTop (mkF m 75 #[.val (.ref a1), .val (.int p1)] [])) _
                  refine XS.iloadN X154.here hx rfl (hb hby dA_75) rfl ?_
                  show Steps p.tables e below (T154.setTop (mkF m 76 #[.val (.ref a1), .val (.int p1)] [(.int p1)])) _
                  refine XS.bipush X154.here hx rfl (hb hby dA_76) ?_
                  exact kt)
                by_cases hc78_171 : p1 = (13 : Int32)
                · have P172 : ∀ t, Steps p.tables e below (T154.setTop (mkF m 86 #[.val (.ref a1), .val (.int p1)] [(.int (1 : Int32))])) t → Steps p.tables e below (s₁.setTop (entryFrame m #[(.ref a1), (.int p1)] 2)) t := fun t kt => P170 t (by
                    show Steps p.tables e below (T154.setTop (mkF m 78 #[.val (.ref a1), .val (.int p1)] [(.int (13 : Int32)), (.int p1)])) _
                    refine XS.icmpNo X154.here hx rfl (hb hby dA_78) rfl (teq hc78_171).2 ?_
                    show Steps p.tables e below (T154.setTop (mkF m 81 #[.val (.ref a1), .val (.int p1)] [])) _
                    refine XS.iconst X154.here hx rfl (hb hby dA_81) ?_
                    show Steps p.tables e below (T154.setTop (mkF m 82 #[.val (.ref a1), .val (.int p1)] [(.int (1 : Int32))])) _
                    refine XS.goto X154.here hx rfl (pc0 := 82) (pc' := 86) rfl (hb hby dA_82) (by decide) (by decide) ?_
                    exact kt)
                  obtain ⟨fs, hr, hrun, hended, hW, hsame⟩ := X154.leave (v := some (.int (1 : Int32))) (fun h => by rw [Bd.returns] at h; cases h) (hlocks := hlk)
                  refine ⟨_, _, P172 _ ?_, hrun, hended, _, _, rfl, ?_, ⟨_, rfl⟩, hW, hsame.mono (by decide) (by decide)⟩
                  · show Steps p.tables e below (T154.setTop (mkF m 86 #[.val (.ref a1), .val (.int p1)] [(.int (1 : Int32))])) _
                    exact retN X154 hx (t := .boolean) Bd.returns (by simp) (hb hby dA_86) hr
                  · show QP _ h0 _ T154.heap _
                    have ev : fA a1 w1 p1 = (1 : Int32) := by unfold fA; rw [if_pos hc3_102, if_neg hc15_104, if_pos hc21_151, if_pos hc27_153, if_neg hc42_156, if_neg hc66_165, if_neg hc72_168, if_pos hc78_171]
                    rw [ev]
                    exact ⟨rfl, rfl, e154⟩
                · have P173 : ∀ t, Steps p.tables e below (T154.setTop (mkF m 86 #[.val (.ref a1), .val (.int p1)] [(.int (0 : Int32))])) t → Steps p.tables e below (s₁.setTop (entryFrame m #[(.ref a1), (.int p1)] 2)) t := fun t kt => P170 t (by
                    show Steps p.tables e below (T154.setTop (mkF m 78 #[.val (.ref a1), .val (.int p1)] [(.int (13 : Int32)), (.int p1)])) _
                    refine XS.icmpYes X154.here hx rfl (pc0 := 78) (pc' := 85) rfl (hb hby dA_78) rfl (feq hc78_171).2 (by decide) (by decide) ?_
                    show Steps p.tables e below (T154.setTop (mkF m 85 #[.val (.ref a1), .val (.int p1)] [])) _
                    refine XS.iconst X154.here hx rfl (hb hby dA_85) ?_
                    exact kt)
                  obtain ⟨fs, hr, hrun, hended, hW, hsame⟩ := X154.leave (v := some (.int (0 : Int32))) (fun h => by rw [Bd.returns] at h; cases h) (hlocks := hlk)
                  refine ⟨_, _, P173 _ ?_, hrun, hended, _, _, rfl, ?_, ⟨_, rfl⟩, hW, hsame.mono (by decide) (by decide)⟩
                  · show Steps p.tables e below (T154.setTop (mkF m 86 #[.val (.ref a1), .val (.int p1)] [(.int (0 : Int32))])) _
                    exact retN X154 hx (t := .boolean) Bd.returns (by simp) (hb hby dA_86) hr
                  · show QP _ h0 _ T154.heap _
                    have ev : fA a1 w1 p1 = (0 : Int32) := by unfold fA; rw [if_pos hc3_102, if_neg hc15_104, if_pos hc21_151, if_pos hc27_153, if_neg hc42_156, if_neg hc66_165, if_neg hc72_168, if_neg hc78_171]
                    rw [ev]
                    exact ⟨rfl, rfl, e154⟩
        · have P174 : ∀ t, Steps p.tables e below (s₁.setTop (mkF m 33 #[.val (.ref a1), .val (.int p1)] [(.int (1114111 : Int32)), (.int p1)])) t → Steps p.tables e below (s₁.setTop (entryFrame m #[(.ref a1), (.int p1)] 2)) t := fun t kt => P152 t (by
            show Steps p.tables e below (s₁.setTop (mkF m 27 #[.val (.ref a1), .val (.int p1)] [(.int (65536 : Int32)), (.int p1)])) _
            refine XS.icmpNo X0.here hx rfl (hb hby dA_27) rfl (flt hc27_153).1 ?_
            show Steps p.tables e below (s₁.setTop (mkF m 30 #[.val (.ref a1), .val (.int p1)] [])) _
            refine XS.iloadN X0.here hx rfl (hb hby dA_30) rfl ?_
            show Steps p.tables e below (s₁.setTop (mkF m 31 #[.val (.ref a1), .val (.int p1)] [(.int p1)])) _
            refine X0.ldcInt hx hown (mvT hZ (hw _ (List.mem_of_getElem? (i := 25) rfl))) (g := (mkF m 31 #[.val (.ref a1), .val (.int p1)] [(.int p1)])) rfl (hb hby dA_31) _ ?_
            exact kt)
          by_cases hc33_175 : (1114111 : Int32) < p1
          · obtain ⟨T176, X176, e176, st176⟩ := getS2 X0 hx hZ hown (host := "") (Or.inl (hw _ (List.mem_of_getElem? (i := 24) rfl))) Via.refl e0 S1 (g := (mkF m 39 #[.val (.ref a1), .val (.int p1)] [(.ref a1)])) rfl (hb hby dA_39)
            have P177 : ∀ t, Steps p.tables e below (T176.setTop (mkF m 42 #[.val (.ref a1), .val (.int p1)] [(.ref w1), (.ref a1)])) t → Steps p.tables e below (s₁.setTop (entryFrame m #[(.ref a1), (.int p1)] 2)) t := fun t kt => P174 t (by
              show Steps p.tables e below (s₁.setTop (mkF m 33 #[.val (.ref a1), .val (.int p1)] [(.int (1114111 : Int32)), (.int p1)])) _
              refine XS.icmpYes X0.here hx rfl (pc0 := 33) (pc' := 38) rfl (hb hby dA_33) rfl (tlt hc33_175).2.2.1 (by decide) (by decide) ?_
              show Steps p.tables e below (s₁.setTop (mkF m 38 #[.val (.ref a1), .val (.int p1)] [])) _
              refine XS.aloadN X0.here hx rfl (hb hby dA_38) rfl rfl ?_
              show Steps p.tables e below (s₁.setTop (mkF m 39 #[.val (.ref a1), .val (.int p1)] [(.ref a1)])) _
              refine st176 _ ?_
              exact kt)
            by_cases hc42_178 : a1 = w1
            · have P179 : ∀ t, Steps p.tables e below (T176.setTop (mkF m 46 #[.val (.ref a1), .val (.int p1)] [(.int p1)])) t → Steps p.tables e below (s₁.setTop (entryFrame m #[(.ref a1), (.int p1)] 2)) t := fun t kt => P177 t (by
                show Steps p.tables e below (T176.setTop (mkF m 42 #[.val (.ref a1), .val (.int p1)] [(.ref w1), (.ref a1)])) _
                refine Jvm.RoadKit.acmp (g := (mkF m 42 #[.val (.ref a1), .val (.int p1)] [(.ref w1), (.ref a1)])) X176 hx rfl rfl rfl (pc0 := 42) (pc' := 45) (same := true) rfl (hb hby dA_42) rfl (decide_eq_true (congrArg Value.ref hc42_178)) (by decide) (by decide) ?_
                show Steps p.tables e below (T176.setTop (mkF m 45 #[.val (.ref a1), .val (.int p1)] [])) _
                refine XS.iloadN X176.here hx rfl (hb hby dA_45) rfl ?_
                exact kt)
              by_cases hc46_180 : (0 : Int32) < p1
              · have P181 : ∀ t, Steps p.tables e below (T176.setTop (mkF m 52 #[.val (.ref a1), .val (.int p1)] [(.int (32 : Int32)), (.int p1)])) t → Steps p.tables e below (s₁.setTop (entryFrame m #[(.ref a1), (.int p1)] 2)) t := fun t kt => P179 t (by
                  show Steps p.tables e below (T176.setTop (mkF m 46 #[.val (.ref a1), .val (.int p1)] [(.int p1)])) _
                  refine XS.ifNo X176.here hx rfl (hb hby dA_46) rfl ((if0 _ _).trans (tlt hc46_180).2.2.2) ?_
                  show Steps p.tables e below (T176.setTop (mkF m 49 #[.val (.ref a1), .val (.int p1)] [])) _
                  refine XS.iloadN X176.here hx rfl (hb hby dA_49) rfl ?_
                  show Steps p.tables e below (T176.setTop (mkF m 50 #[.val (.ref a1), .val (.int p1)] [(.int p1)])) _
                  refine XS.bipush X176.here hx rfl (hb hby dA_50) ?_
                  exact kt)
                by_cases hc52_182 : p1 < (32 : Int32)
                · have P183 : ∀ t, Steps p.tables e below (T176.setTop (mkF m 86 #[.val (.ref a1), .val (.int p1)] [(.int (1 : Int32))])) t → Steps p.tables e below (s₁.setTop (entryFrame m #[(.ref a1), (.int p1)] 2)) t := fun t kt => P181 t (by
                    show Steps p.tables e below (T176.setTop (mkF m 52 #[.val (.ref a1), .val (.int p1)] [(.int (32 : Int32)), (.int p1)])) _
                    refine XS.icmpNo X176.here hx rfl (hb hby dA_52) rfl (tlt hc52_182).2.1 ?_
                    show Steps p.tables e below (T176.setTop (mkF m 55 #[.val (.ref a1), .val (.int p1)] [])) _
                    refine XS.iconst X176.here hx rfl (hb hby dA_55) ?_
                    show Steps p.tables e below (T176.setTop (mkF m 56 #[.val (.ref a1), .val (.int p1)] [(.int (1 : Int32))])) _
                    refine XS.goto X176.here hx rfl (pc0 := 56) (pc' := 86) rfl (hb hby dA_56) (by decide) (by decide) ?_
                    exact kt)
                  obtain ⟨fs, hr, hrun, hended, hW, hsame⟩ := X176.leave (v := some (.int (1 : Int32))) (fun h => by rw [Bd.returns] at h; cases h) (hlocks := hlk)
                  refine ⟨_, _, P183 _ ?_, hrun, hended, _, _, rfl, ?_, ⟨_, rfl⟩, hW, hsame.mono (by decide) (by decide)⟩
                  · show Steps p.tables e below (T176.setTop (mkF m 86 #[.val (.ref a1), .val (.int p1)] [(.int (1 : Int32))])) _
                    exact retN X176 hx (t := .boolean) Bd.returns (by simp) (hb hby dA_86) hr
                  · show QP _ h0 _ T176.heap _
                    have ev : fA a1 w1 p1 = (1 : Int32) := by unfold fA; rw [if_pos hc3_102, if_neg hc15_104, if_pos hc21_151, if_neg hc27_153, if_pos hc33_175, if_pos hc42_178, if_pos hc46_180, if_pos hc52_182]
                    rw [ev]
                    exact ⟨rfl, rfl, e176⟩
                · have P184 : ∀ t, Steps p.tables e below (T176.setTop (mkF m 86 #[.val (.ref a1), .val (.int p1)] [(.int (0 : Int32))])) t → Steps p.tables e below (s₁.setTop (entryFrame m #[(.ref a1), (.int p1)] 2)) t := fun t kt => P181 t (by
                    show Steps p.tables e below (T176.setTop (mkF m 52 #[.val (.ref a1), .val (.int p1)] [(.int (32 : Int32)), (.int p1)])) _
                    refine XS.icmpYes X176.here hx rfl (pc0 := 52) (pc' := 59) rfl (hb hby dA_52) rfl (flt hc52_182).2.1 (by decide) (by decide) ?_
                    show Steps p.tables e below (T176.setTop (mkF m 59 #[.val (.ref a1), .val (.int p1)] [])) _
                    refine XS.iconst X176.here hx rfl (hb hby dA_59) ?_
                    show Steps p.tables e below (T176.setTop (mkF m 60 #[.val (.ref a1), .val (.int p1)] [(.int (0 : Int32))])) _
                    refine XS.goto X176.here hx rfl (pc0 := 60) (pc' := 86) rfl (hb hby dA_60) (by decide) (by decide) ?_
                    exact kt)
                  obtain ⟨fs, hr, hrun, hended, hW, hsame⟩ := X176.leave (v := some (.int (0 : Int32))) (fun h => by rw [Bd.returns] at h; cases h) (hlocks := hlk)
                  refine ⟨_, _, P184 _ ?_, hrun, hended, _, _, rfl, ?_, ⟨_, rfl⟩, hW, hsame.mono (by decide) (by decide)⟩
                  · show Steps p.tables e below (T176.setTop (mkF m 86 #[.val (.ref a1), .val (.int p1)] [(.int (0 : Int32))])) _
                    exact retN X176 hx (t := .boolean) Bd.returns (by simp) (hb hby dA_86) hr
                  · show QP _ h0 _ T176.heap _
                    have ev : fA a1 w1 p1 = (0 : Int32) := by unfold fA; rw [if_pos hc3_102, if_neg hc15_104, if_pos hc21_151, if_neg hc27_153, if_pos hc33_175, if_pos hc42_178, if_pos hc46_180, if_neg hc52_182]
                    rw [ev]
                    exact ⟨rfl, rfl, e176⟩
              · have P185 : ∀ t, Steps p.tables e below (T176.setTop (mkF m 86 #[.val (.ref a1), .val (.int p1)] [(.int (0 : Int32))])) t → Steps p.tables e below (s₁.setTop (entryFrame m #[(.ref a1), (.int p1)] 2)) t := fun t kt => P179 t (by
                  show Steps p.tables e below (T176.setTop (mkF m 46 #[.val (.ref a1), .val (.int p1)] [(.int p1)])) _
                  refine XS.ifYes X176.here hx rfl (pc0 := 46) (pc' := 59) rfl (hb hby dA_46) rfl ((if0 _ _).trans (flt hc46_180).2.2.2) (by decide) (by decide) ?_
                  show Steps p.tables e below (T176.setTop (mkF m 59 #[.val (.ref a1), .val (.int p1)] [])) _
                  refine XS.iconst X176.here hx rfl (hb hby dA_59) ?_
                  show Steps p.tables e below (T176.setTop (mkF m 60 #[.val (.ref a1), .val (.int p1)] [(.int (0 : Int32))])) _
                  refine XS.goto X176.here hx rfl (pc0 := 60) (pc' := 86) rfl (hb hby dA_60) (by decide) (by decide) ?_
                  exact kt)
                obtain ⟨fs, hr, hrun, hended, hW, hsame⟩ := X176.leave (v := some (.int (0 : Int32))) (fun h => by rw [Bd.returns] at h; cases h) (hlocks := hlk)
                refine ⟨_, _, P185 _ ?_, hrun, hended, _, _, rfl, ?_, ⟨_, rfl⟩, hW, hsame.mono (by decide) (by decide)⟩
                · show Steps p.tables e below (T176.setTop (mkF m 86 #[.val (.ref a1), .val (.int p1)] [(.int (0 : Int32))])) _
                  exact retN X176 hx (t := .boolean) Bd.returns (by simp) (hb hby dA_86) hr
                · show QP _ h0 _ T176.heap _
                  have ev : fA a1 w1 p1 = (0 : Int32) := by unfold fA; rw [if_pos hc3_102, if_neg hc15_104, if_pos hc21_151, if_neg hc27_153, if_pos hc33_175, if_pos hc42_178, if_neg hc46_180]
                  rw [ev]
                  exact ⟨rfl, rfl, e176⟩
            · have P186 : ∀ t, Steps p.tables e below (T176.setTop (mkF m 66 #[.val (.ref a1), .val (.int p1)] [(.int (9 : Int32)), (.int p1)])) t → Steps p.tables e below (s₁.setTop (entryFrame m #[(.ref a1), (.int p1)] 2)) t := fun t kt => P177 t (by
                show Steps p.tables e below (T176.setTop (mkF m 42 #[.val (.ref a1), .val (.int p1)] [(.ref w1), (.ref a1)])) _
                refine Jvm.RoadKit.acmp (g := (mkF m 42 #[.val (.ref a1), .val (.int p1)] [(.ref w1), (.ref a1)])) X176 hx rfl rfl rfl (pc0 := 42) (pc' := 63) (same := false) rfl (hb hby dA_42) rfl (decide_eq_false fun q => hc42_178 (Value.ref.inj q)) (by decide) (by decide) ?_
                show Steps p.tables e below (T176.setTop (mkF m 63 #[.val (.ref a1), .val (.int p1)] [])) _
                refine XS.iloadN X176.here hx rfl (hb hby dA_63) rfl ?_
                show Steps p.tables e below (T176.setTop (mkF m 64 #[.val (.ref a1), .val (.int p1)] [(.int p1)])) _
                refine XS.bipush X176.here hx rfl (hb hby dA_64) ?_
                exact kt)
              by_cases hc66_187 : p1 = (9 : Int32)
              · have P188 : ∀ t, Steps p.tables e below (T176.setTop (mkF m 86 #[.val (.ref a1), .val (.int p1)] [(.int (1 : Int32))])) t → Steps p.tables e below (s₁.setTop (entryFrame m #[(.ref a1), (.int p1)] 2)) t := fun t kt => P186 t (by
                  show Steps p.tables e below (T176.setTop (mkF m 66 #[.val (.ref a1), .val (.int p1)] [(.int (9 : Int32)), (.int p1)])) _
                  refine XS.icmpYes X176.here hx rfl (pc0 := 66) (pc' := 81) rfl (hb hby dA_66) rfl (teq hc66_187).1 (by decide) (by decide) ?_
                  show Steps p.tables e below (T176.setTop (mkF m 81 #[.val (.ref a1), .val (.int p1)] [])) _
                  refine XS.iconst X176.here hx rfl (hb hby dA_81) ?_
                  show Steps p.tables e below (T176.setTop (mkF m 82 #[.val (.ref a1), .val (.int p1)] [(.int (1 : Int32))])) _
                  refine XS.goto X176.here hx rfl (pc0 := 82) (pc' := 86) rfl (hb hby dA_82) (by decide) (by decide) ?_
                  exact kt)
                obtain ⟨fs, hr, hrun, hended, hW, hsame⟩ := X176.leave (v := some (.int (1 : Int32))) (fun h => by rw [Bd.returns] at h; cases h) (hlocks := hlk)
                refine ⟨_, _, P188 _ ?_, hrun, hended, _, _, rfl, ?_, ⟨_, rfl⟩, hW, hsame.mono (by decide) (by decide)⟩
                · show Steps p.tables e below (T176.setTop (mkF m 86 #[.val (.ref a1), .val (.int p1)] [(.int (1 : Int32))])) _
                  exact retN X176 hx (t := .boolean) Bd.returns (by simp) (hb hby dA_86) hr
                · show QP _ h0 _ T176.heap _
                  have ev : fA a1 w1 p1 = (1 : Int32) := by unfold fA; rw [if_pos hc3_102, if_neg hc15_104, if_pos hc21_151, if_neg hc27_153, if_pos hc33_175, if_neg hc42_178, if_pos hc66_187]
                  rw [ev]
                  exact ⟨rfl, rfl, e176⟩
              · have P189 : ∀ t, Steps p.tables e below (T176.setTop (mkF m 72 #[.val (.ref a1), .val (.int p1)] [(.int (10 : Int32)), (.int p1)])) t → Steps p.tables e below (s₁.setTop (entryFrame m #[(.ref a1), (.int p1)] 2)) t := fun t kt => P186 t (by
                  show Steps p.tables e below (T176.setTop (mkF m 66 #[.val (.ref a1), .val (.int p1)] [(.int (9 : Int32)), (.int p1)])) _
                  refine XS.icmpNo X176.here hx rfl (hb hby dA_66) rfl (feq hc66_187).1 ?_
                  show Steps p.tables e below (T176.setTop (mkF m 69 #[.val (.ref a1), .val (.int p1)] [])) _
                  refine XS.iloadN X176.here hx rfl (hb hby dA_69) rfl ?_
                  show Steps p.tables e below (T176.setTop (mkF m 70 #[.val (.ref a1), .val (.int p1)] [(.int p1)])) _
                  refine XS.bipush X176.here hx rfl (hb hby dA_70) ?_
                  exact kt)
                by_cases hc72_190 : p1 = (10 : Int32)
                · have P191 : ∀ t, Steps p.tables e below (T176.setTop (mkF m 86 #[.val (.ref a1), .val (.int p1)] [(.int (1 : Int32))])) t → Steps p.tables e below (s₁.setTop (entryFrame m #[(.ref a1), (.int p1)] 2)) t := fun t kt => P189 t (by
                    show Steps p.tables e below (T176.setTop (mkF m 72 #[.val (.ref a1), .val (.int p1)] [(.int (10 : Int32)), (.int p1)])) _
                    refine XS.icmpYes X176.here hx rfl (pc0 := 72) (pc' := 81) rfl (hb hby dA_72) rfl (teq hc72_190).1 (by decide) (by decide) ?_
                    show Steps p.tables e below (T176.setTop (mkF m 81 #[.val (.ref a1), .val (.int p1)] [])) _
                    refine XS.iconst X176.here hx rfl (hb hby dA_81) ?_
                    show Steps p.tables e below (T176.setTop (mkF m 82 #[.val (.ref a1), .val (.int p1)] [(.int (1 : Int32))])) _
                    refine XS.goto X176.here hx rfl (pc0 := 82) (pc' := 86) rfl (hb hby dA_82) (by decide) (by decide) ?_
                    exact kt)
                  obtain ⟨fs, hr, hrun, hended, hW, hsame⟩ := X176.leave (v := some (.int (1 : Int32))) (fun h => by rw [Bd.returns] at h; cases h) (hlocks := hlk)
                  refine ⟨_, _, P191 _ ?_, hrun, hended, _, _, rfl, ?_, ⟨_, rfl⟩, hW, hsame.mono (by decide) (by decide)⟩
                  · show Steps p.tables e below (T176.setTop (mkF m 86 #[.val (.ref a1), .val (.int p1)] [(.int (1 : Int32))])) _
                    exact retN X176 hx (t := .boolean) Bd.returns (by simp) (hb hby dA_86) hr
                  · show QP _ h0 _ T176.heap _
                    have ev : fA a1 w1 p1 = (1 : Int32) := by unfold fA; rw [if_pos hc3_102, if_neg hc15_104, if_pos hc21_151, if_neg hc27_153, if_pos hc33_175, if_neg hc42_178, if_neg hc66_187, if_pos hc72_190]
                    rw [ev]
                    exact ⟨rfl, rfl, e176⟩
                · have P192 : ∀ t, Steps p.tables e below (T176.setTop (mkF m 78 #[.val (.ref a1), .val (.int p1)] [(.int (13 : Int32)), (.int p1)])) t → Steps p.tables e below (s₁.setTop (entryFrame m #[(.ref a1), (.int p1)] 2)) t := fun t kt => P189 t (by
                    show Steps p.tables e below (T176.setTop (mkF m 72 #[.val (.ref a1), .val (.int p1)] [(.int (10 : Int32)), (.int p1)])) _
                    refine XS.icmpNo X176.here hx rfl (hb hby dA_72) rfl (feq hc72_190).1 ?_
                    show Steps p.tables e below (T176.setTop (mkF m 75 #[.val (.ref a1), .val (.int p1)] [])) _
                    refine XS.iloadN X176.here hx rfl (hb hby dA_75) rfl ?_
                    show Steps p.tables e below (T176.setTop (mkF m 76 #[.val (.ref a1), .val (.int p1)] [(.int p1)])) _
                    refine XS.bipush X176.here hx rfl (hb hby dA_76) ?_
                    exact kt)
                  by_cases hc78_193 : p1 = (13 : Int32)
                  · have P194 : ∀ t, Steps p.tables e below (T176.setTop (mkF m 86 #[.val (.ref a1), .val (.int p1)] [(.int (1 : Int32))])) t → Steps p.tables e below (s₁.setTop (entryFrame m #[(.ref a1), (.int p1)] 2)) t := fun t kt => P192 t (by
                      show Steps p.tables e below (T176.setTop (mkF m 78 #[.val (.ref a1), .val (.int p1)] [(.int (13 : Int32)), (.int p1)])) _
                      refine XS.icmpNo X176.here hx rfl (hb hby dA_78) rfl (teq hc78_193).2 ?_
                      show Steps p.tables e below (T176.setTop (mkF m 81 #[.val (.ref a1), .val (.int p1)] [])) _
                      refine XS.iconst X176.here hx rfl (hb hby dA_81) ?_
                      show Steps p.tables e below (T176.setTop (mkF m 82 #[.val (.ref a1), .val (.int p1)] [(.int (1 : Int32))])) _
                      refine XS.goto X176.here hx rfl (pc0 := 82) (pc' := 86) rfl (hb hby dA_82) (by decide) (by decide) ?_
                      exact kt)
                    obtain ⟨fs, hr, hrun, hended, hW, hsame⟩ := X176.leave (v := some (.int (1 : Int32))) (fun h => by rw [Bd.returns] at h; cases h) (hlocks := hlk)
                    refine ⟨_, _, P194 _ ?_, hrun, hended, _, _, rfl, ?_, ⟨_, rfl⟩, hW, hsame.mono (by decide) (by decide)⟩
                    · show Steps p.tables e below (T176.setTop (mkF m 86 #[.val (.ref a1), .val (.int p1)] [(.int (1 : Int32))])) _
                      exact retN X176 hx (t := .boolean) Bd.returns (by simp) (hb hby dA_86) hr
                    · show QP _ h0 _ T176.heap _
                      have ev : fA a1 w1 p1 = (1 : Int32) := by unfold fA; rw [if_pos hc3_102, if_neg hc15_104, if_pos hc21_151, if_neg hc27_153, if_pos hc33_175, if_neg hc42_178, if_neg hc66_187, if_neg hc72_190, if_pos hc78_193]
                      rw [ev]
                      exact ⟨rfl, rfl, e176⟩
                  · have P195 : ∀ t, Steps p.tables e below (T176.setTop (mkF m 86 #[.val (.ref a1), .val (.int p1)] [(.int (0 : Int32))])) t → Steps p.tables e below (s₁.setTop (entryFrame m #[(.ref a1), (.int p1)] 2)) t := fun t kt => P192 t (by
                      show Steps p.tables e below (T176.setTop (mkF m 78 #[.val (.ref a1), .val (.int p1)] [(.int (13 : Int32)), (.int p1)])) _
                      refine XS.icmpYes X176.here hx rfl (pc0 := 78) (pc' := 85) rfl (hb hby dA_78) rfl (feq hc78_193).2 (by decide) (by decide) ?_
                      show Steps p.tables e below (T176.setTop (mkF m 85 #[.val (.ref a1), .val (.int p1)] [])) _
                      refine XS.iconst X176.here hx rfl (hb hby dA_85) ?_
                      exact kt)
                    obtain ⟨fs, hr, hrun, hended, hW, hsame⟩ := X176.leave (v := some (.int (0 : Int32))) (fun h => by rw [Bd.returns] at h; cases h) (hlocks := hlk)
                    refine ⟨_, _, P195 _ ?_, hrun, hended, _, _, rfl, ?_, ⟨_, rfl⟩, hW, hsame.mono (by decide) (by decide)⟩
                    · show Steps p.tables e below (T176.setTop (mkF m 86 #[.val (.ref a1), .val (.int p1)] [(.int (0 : Int32))])) _
                      exact retN X176 hx (t := .boolean) Bd.returns (by simp) (hb hby dA_86) hr
                    · show QP _ h0 _ T176.heap _
                      have ev : fA a1 w1 p1 = (0 : Int32) := by unfold fA; rw [if_pos hc3_102, if_neg hc15_104, if_pos hc21_151, if_neg hc27_153, if_pos hc33_175, if_neg hc42_178, if_neg hc66_187, if_neg hc72_190, if_neg hc78_193]
                      rw [ev]
                      exact ⟨rfl, rfl, e176⟩
          · have P196 : ∀ t, Steps p.tables e below (s₁.setTop (mkF m 37 #[.val (.ref a1), .val (.int p1)] [(.int (1 : Int32))])) t → Steps p.tables e below (s₁.setTop (entryFrame m #[(.ref a1), (.int p1)] 2)) t := fun t kt => P174 t (by
              show Steps p.tables e below (s₁.setTop (mkF m 33 #[.val (.ref a1), .val (.int p1)] [(.int (1114111 : Int32)), (.int p1)])) _
              refine XS.icmpNo X0.here hx rfl (hb hby dA_33) rfl (flt hc33_175).2.2.1 ?_
              show Steps p.tables e below (s₁.setTop (mkF m 36 #[.val (.ref a1), .val (.int p1)] [])) _
              refine XS.iconst X0.here hx rfl (hb hby dA_36) ?_
              exact kt)
            obtain ⟨fs, hr, hrun, hended, hW, hsame⟩ := X0.leave (v := some (.int (1 : Int32))) (fun h => by rw [Bd.returns] at h; cases h) (hlocks := hlk)
            refine ⟨_, _, P196 _ ?_, hrun, hended, _, _, rfl, ?_, ⟨_, rfl⟩, hW, hsame.mono (by decide) (by decide)⟩
            · show Steps p.tables e below (s₁.setTop (mkF m 37 #[.val (.ref a1), .val (.int p1)] [(.int (1 : Int32))])) _
              exact retN X0 hx (t := .boolean) Bd.returns (by simp) (hb hby dA_37) hr
            · show QP _ h0 _ s₁.heap _
              have ev : fA a1 w1 p1 = (1 : Int32) := by unfold fA; rw [if_pos hc3_102, if_neg hc15_104, if_pos hc21_151, if_neg hc27_153, if_neg hc33_175]
              rw [ev]
              exact ⟨rfl, rfl, e0⟩
      · have P197 : ∀ t, Steps p.tables e below (s₁.setTop (mkF m 37 #[.val (.ref a1), .val (.int p1)] [(.int (1 : Int32))])) t → Steps p.tables e below (s₁.setTop (entryFrame m #[(.ref a1), (.int p1)] 2)) t := fun t kt => P150 t (by
          show Steps p.tables e below (s₁.setTop (mkF m 21 #[.val (.ref a1), .val (.int p1)] [(.int (65533 : Int32)), (.int p1)])) _
          refine XS.icmpYes X0.here hx rfl (pc0 := 21) (pc' := 36) rfl (hb hby dA_21) rfl (flt hc21_151).2.2.2 (by decide) (by decide) ?_
          show Steps p.tables e below (s₁.setTop (mkF m 36 #[.val (.ref a1), .val (.int p1)] [])) _
          refine XS.iconst X0.here hx rfl (hb hby dA_36) ?_
          exact kt)
        obtain ⟨fs, hr, hrun, hended, hW, hsame⟩ := X0.leave (v := some (.int (1 : Int32))) (fun h => by rw [Bd.returns] at h; cases h) (hlocks := hlk)
        refine ⟨_, _, P197 _ ?_, hrun, hended, _, _, rfl, ?_, ⟨_, rfl⟩, hW, hsame.mono (by decide) (by decide)⟩
        · show Steps p.tables e below (s₁.setTop (mkF m 37 #[.val (.ref a1), .val (.int p1)] [(.int (1 : Int32))])) _
          exact retN X0 hx (t := .boolean) Bd.returns (by simp) (hb hby dA_37) hr
        · show QP _ h0 _ s₁.heap _
          have ev : fA a1 w1 p1 = (1 : Int32) := by unfold fA; rw [if_pos hc3_102, if_neg hc15_104, if_neg hc21_151]
          rw [ev]
          exact ⟨rfl, rfl, e0⟩
  · have P198 : ∀ t, Steps p.tables e below (s₁.setTop (mkF m 9 #[.val (.ref a1), .val (.int p1)] [(.int (55295 : Int32)), (.int p1)])) t → Steps p.tables e below (s₁.setTop (entryFrame m #[(.ref a1), (.int p1)] 2)) t := fun t kt => P101 t (by
      show Steps p.tables e below (s₁.setTop (mkF m 3 #[.val (.ref a1), .val (.int p1)] [(.int (32 : Int32)), (.int p1)])) _
      refine XS.icmpNo X0.here hx rfl (hb hby dA_3) rfl (flt hc3_102).1 ?_
      show Steps p.tables e below (s₁.setTop (mkF m 6 #[.val (.ref a1), .val (.int p1)] [])) _
      refine XS.iloadN X0.here hx rfl (hb hby dA_6) rfl ?_
      show Steps p.tables e below (s₁.setTop (mkF m 7 #[.val (.ref a1), .val (.int p1)] [(.int p1)])) _
      refine X0.ldcInt hx hown (mvT hZ (hw _ (List.mem_of_getElem? (i := 18) rfl))) (g := (mkF m 7 #[.val (.ref a1), .val (.int p1)] [(.int p1)])) rfl (hb hby dA_7) _ ?_
      exact kt)
    by_cases hc9_199 : (55295 : Int32) < p1
    · have P200 : ∀ t, Steps p.tables e below (s₁.setTop (mkF m 15 #[.val (.ref a1), .val (.int p1)] [(.int (57344 : Int32)), (.int p1)])) t → Steps p.tables e below (s₁.setTop (entryFrame m #[(.ref a1), (.int p1)] 2)) t := fun t kt => P198 t (by
        show Steps p.tables e below (s₁.setTop (mkF m 9 #[.val (.ref a1), .val (.int p1)] [(.int (55295 : Int32)), (.int p1)])) _
        refine XS.icmpNo X0.here hx rfl (hb hby dA_9) rfl (tlt hc9_199).2.2.2 ?_
        show Steps p.tables e below (s₁.setTop (mkF m 12 #[.val (.ref a1), .val (.int p1)] [])) _
        refine XS.iloadN X0.here hx rfl (hb hby dA_12) rfl ?_
        show Steps p.tables e below (s₁.setTop (mkF m 13 #[.val (.ref a1), .val (.int p1)] [(.int p1)])) _
        refine X0.ldcInt hx hown (mvT hZ (hw _ (List.mem_of_getElem? (i := 19) rfl))) (g := (mkF m 13 #[.val (.ref a1), .val (.int p1)] [(.int p1)])) rfl (hb hby dA_13) _ ?_
        exact kt)
      by_cases hc15_201 : p1 < (57344 : Int32)
      · have P202 : ∀ t, Steps p.tables e below (s₁.setTop (mkF m 27 #[.val (.ref a1), .val (.int p1)] [(.int (65536 : Int32)), (.int p1)])) t → Steps p.tables e below (s₁.setTop (entryFrame m #[(.ref a1), (.int p1)] 2)) t := fun t kt => P200 t (by
          show Steps p.tables e below (s₁.setTop (mkF m 15 #[.val (.ref a1), .val (.int p1)] [(.int (57344 : Int32)), (.int p1)])) _
          refine XS.icmpYes X0.here hx rfl (pc0 := 15) (pc' := 24) rfl (hb hby dA_15) rfl (tlt hc15_201).1 (by decide) (by decide) ?_
          show Steps p.tables e below (s₁.setTop (mkF m 24 #[.val (.ref a1), .val (.int p1)] [])) _
          refine XS.iloadN X0.here hx rfl (hb hby dA_24) rfl ?_
          show Steps p.tables e below (s₁.setTop (mkF m 25 #[.val (.ref a1), .val (.int p1)] [(.int p1)])) _
          refine X0.ldcInt hx hown (mvT hZ (hw _ (List.mem_of_getElem? (i := 23) rfl))) (g := (mkF m 25 #[.val (.ref a1), .val (.int p1)] [(.int p1)])) rfl (hb hby dA_25) _ ?_
          exact kt)
        by_cases hc27_203 : p1 < (65536 : Int32)
        · obtain ⟨T204, X204, e204, st204⟩ := getS2 X0 hx hZ hown (host := "") (Or.inl (hw _ (List.mem_of_getElem? (i := 24) rfl))) Via.refl e0 S1 (g := (mkF m 39 #[.val (.ref a1), .val (.int p1)] [(.ref a1)])) rfl (hb hby dA_39)
          have P205 : ∀ t, Steps p.tables e below (T204.setTop (mkF m 42 #[.val (.ref a1), .val (.int p1)] [(.ref w1), (.ref a1)])) t → Steps p.tables e below (s₁.setTop (entryFrame m #[(.ref a1), (.int p1)] 2)) t := fun t kt => P202 t (by
            show Steps p.tables e below (s₁.setTop (mkF m 27 #[.val (.ref a1), .val (.int p1)] [(.int (65536 : Int32)), (.int p1)])) _
            refine XS.icmpYes X0.here hx rfl (pc0 := 27) (pc' := 38) rfl (hb hby dA_27) rfl (tlt hc27_203).1 (by decide) (by decide) ?_
            show Steps p.tables e below (s₁.setTop (mkF m 38 #[.val (.ref a1), .val (.int p1)] [])) _
            refine XS.aloadN X0.here hx rfl (hb hby dA_38) rfl rfl ?_
            show Steps p.tables e below (s₁.setTop (mkF m 39 #[.val (.ref a1), .val (.int p1)] [(.ref a1)])) _
            refine st204 _ ?_
            exact kt)
          by_cases hc42_206 : a1 = w1
          · have P207 : ∀ t, Steps p.tables e below (T204.setTop (mkF m 46 #[.val (.ref a1), .val (.int p1)] [(.int p1)])) t → Steps p.tables e below (s₁.setTop (entryFrame m #[(.ref a1), (.int p1)] 2)) t := fun t kt => P205 t (by
              show Steps p.tables e below (T204.setTop (mkF m 42 #[.val (.ref a1), .val (.int p1)] [(.ref w1), (.ref a1)])) _
              refine Jvm.RoadKit.acmp (g := (mkF m 42 #[.val (.ref a1), .val (.int p1)] [(.ref w1), (.ref a1)])) X204 hx rfl rfl rfl (pc0 := 42) (pc' := 45) (same := true) rfl (hb hby dA_42) rfl (decide_eq_true (congrArg Value.ref hc42_206)) (by decide) (by decide) ?_
              show Steps p.tables e below (T204.setTop (mkF m 45 #[.val (.ref a1), .val (.int p1)] [])) _
              refine XS.iloadN X204.here hx rfl (hb hby dA_45) rfl ?_
              exact kt)
            by_cases hc46_208 : (0 : Int32) < p1
            · have P209 : ∀ t, Steps p.tables e below (T204.setTop (mkF m 52 #[.val (.ref a1), .val (.int p1)] [(.int (32 : Int32)), (.int p1)])) t → Steps p.tables e below (s₁.setTop (entryFrame m #[(.ref a1), (.int p1)] 2)) t := fun t kt => P207 t (by
                show Steps p.tables e below (T204.setTop (mkF m 46 #[.val (.ref a1), .val (.int p1)] [(.int p1)])) _
                refine XS.ifNo X204.here hx rfl (hb hby dA_46) rfl ((if0 _ _).trans (tlt hc46_208).2.2.2) ?_
                show Steps p.tables e below (T204.setTop (mkF m 49 #[.val (.ref a1), .val (.int p1)] [])) _
                refine XS.iloadN X204.here hx rfl (hb hby dA_49) rfl ?_
                show Steps p.tables e below (T204.setTop (mkF m 50 #[.val (.ref a1), .val (.int p1)] [(.int p1)])) _
                refine XS.bipush X204.here hx rfl (hb hby dA_50) ?_
                exact kt)
              by_cases hc52_210 : p1 < (32 : Int32)
              · have P211 : ∀ t, Steps p.tables e below (T204.setTop (mkF m 86 #[.val (.ref a1), .val (.int p1)] [(.int (1 : Int32))])) t → Steps p.tables e below (s₁.setTop (entryFrame m #[(.ref a1), (.int p1)] 2)) t := fun t kt => P209 t (by
                  show Steps p.tables e below (T204.setTop (mkF m 52 #[.val (.ref a1), .val (.int p1)] [(.int (32 : Int32)), (.int p1)])) _
                  refine XS.icmpNo X204.here hx rfl (hb hby dA_52) rfl (tlt hc52_210).2.1 ?_
                  show Steps p.tables e below (T204.setTop (mkF m 55 #[.val (.ref a1), .val (.int p1)] [])) _
                  refine XS.iconst X204.here hx rfl (hb hby dA_55) ?_
                  show Steps p.tables e below (T204.setTop (mkF m 56 #[.val (.ref a1), .val (.int p1)] [(.int (1 : Int32))])) _
                  refine XS.goto X204.here hx rfl (pc0 := 56) (pc' := 86) rfl (hb hby dA_56) (by decide) (by decide) ?_
                  exact kt)
                obtain ⟨fs, hr, hrun, hended, hW, hsame⟩ := X204.leave (v := some (.int (1 : Int32))) (fun h => by rw [Bd.returns] at h; cases h) (hlocks := hlk)
                refine ⟨_, _, P211 _ ?_, hrun, hended, _, _, rfl, ?_, ⟨_, rfl⟩, hW, hsame.mono (by decide) (by decide)⟩
                · show Steps p.tables e below (T204.setTop (mkF m 86 #[.val (.ref a1), .val (.int p1)] [(.int (1 : Int32))])) _
                  exact retN X204 hx (t := .boolean) Bd.returns (by simp) (hb hby dA_86) hr
                · show QP _ h0 _ T204.heap _
                  have ev : fA a1 w1 p1 = (1 : Int32) := by unfold fA; rw [if_neg hc3_102, if_pos hc9_199, if_pos hc15_201, if_pos hc27_203, if_pos hc42_206, if_pos hc46_208, if_pos hc52_210]
                  rw [ev]
                  exact ⟨rfl, rfl, e204⟩
              · have P212 : ∀ t, Steps p.tables e below (T204.setTop (mkF m 86 #[.val (.ref a1), .val (.int p1)] [(.int (0 : Int32))])) t → Steps p.tables e below (s₁.setTop (entryFrame m #[(.ref a1), (.int p1)] 2)) t := fun t kt => P209 t (by
                  show Steps p.tables e below (T204.setTop (mkF m 52 #[.val (.ref a1), .val (.int p1)] [(.int (32 : Int32)), (.int p1)])) _
                  refine XS.icmpYes X204.here hx rfl (pc0 := 52) (pc' := 59) rfl (hb hby dA_52) rfl (flt hc52_210).2.1 (by decide) (by decide) ?_
                  show Steps p.tables e below (T204.setTop (mkF m 59 #[.val (.ref a1), .val (.int p1)] [])) _
                  refine XS.iconst X204.here hx rfl (hb hby dA_59) ?_
                  show Steps p.tables e below (T204.setTop (mkF m 60 #[.val (.ref a1), .val (.int p1)] [(.int (0 : Int32))])) _
                  refine XS.goto X204.here hx rfl (pc0 := 60) (pc' := 86) rfl (hb hby dA_60) (by decide) (by decide) ?_
                  exact kt)
                obtain ⟨fs, hr, hrun, hended, hW, hsame⟩ := X204.leave (v := some (.int (0 : Int32))) (fun h => by rw [Bd.returns] at h; cases h) (hlocks := hlk)
                refine ⟨_, _, P212 _ ?_, hrun, hended, _, _, rfl, ?_, ⟨_, rfl⟩, hW, hsame.mono (by decide) (by decide)⟩
                · show Steps p.tables e below (T204.setTop (mkF m 86 #[.val (.ref a1), .val (.int p1)] [(.int (0 : Int32))])) _
                  exact retN X204 hx (t := .boolean) Bd.returns (by simp) (hb hby dA_86) hr
                · show QP _ h0 _ T204.heap _
                  have ev : fA a1 w1 p1 = (0 : Int32) := by unfold fA; rw [if_neg hc3_102, if_pos hc9_199, if_pos hc15_201, if_pos hc27_203, if_pos hc42_206, if_pos hc46_208, if_neg hc52_210]
                  rw [ev]
                  exact ⟨rfl, rfl, e204⟩
            · have P213 : ∀ t, Steps p.tables e below (T204.setTop (mkF m 86 #[.val (.ref a1), .val (.int p1)] [(.int (0 : Int32))])) t → Steps p.tables e below (s₁.setTop (entryFrame m #[(.ref a1), (.int p1)] 2)) t := fun t kt => P207 t (by
                show Steps p.tables e below (T204.setTop (mkF m 46 #[.val (.ref a1), .val (.int p1)] [(.int p1)])) _
                refine XS.ifYes X204.here hx rfl (pc0 := 46) (pc' := 59) rfl (hb hby dA_46) rfl ((if0 _ _).trans (flt hc46_208).2.2.2) (by decide) (by decide) ?_
                show Steps p.tables e below (T204.setTop (mkF m 59 #[.val (.ref a1), .val (.int p1)] [])) _
                refine XS.iconst X204.here hx rfl (hb hby dA_59) ?_
                show Steps p.tables e below (T204.setTop (mkF m 60 #[.val (.ref a1), .val (.int p1)] [(.int (0 : Int32))])) _
                refine XS.goto X204.here hx rfl (pc0 := 60) (pc' := 86) rfl (hb hby dA_60) (by decide) (by decide) ?_
                exact kt)
              obtain ⟨fs, hr, hrun, hended, hW, hsame⟩ := X204.leave (v := some (.int (0 : Int32))) (fun h => by rw [Bd.returns] at h; cases h) (hlocks := hlk)
              refine ⟨_, _, P213 _ ?_, hrun, hended, _, _, rfl, ?_, ⟨_, rfl⟩, hW, hsame.mono (by decide) (by decide)⟩
              · show Steps p.tables e below (T204.setTop (mkF m 86 #[.val (.ref a1), .val (.int p1)] [(.int (0 : Int32))])) _
                exact retN X204 hx (t := .boolean) Bd.returns (by simp) (hb hby dA_86) hr
              · show QP _ h0 _ T204.heap _
                have ev : fA a1 w1 p1 = (0 : Int32) := by unfold fA; rw [if_neg hc3_102, if_pos hc9_199, if_pos hc15_201, if_pos hc27_203, if_pos hc42_206, if_neg hc46_208]
                rw [ev]
                exact ⟨rfl, rfl, e204⟩
          · have P214 : ∀ t, Steps p.tables e below (T204.setTop (mkF m 66 #[.val (.ref a1), .val (.int p1)] [(.int (9 : Int32)), (.int p1)])) t → Steps p.tables e below (s₁.setTop (entryFrame m #[(.ref a1), (.int p1)] 2)) t := fun t kt => P205 t (by
              show Steps p.tables e below (T204.setTop (mkF m 42 #[.val (.ref a1), .val (.int p1)] [(.ref w1), (.ref a1)])) _
              refine Jvm.RoadKit.acmp (g := (mkF m 42 #[.val (.ref a1), .val (.int p1)] [(.ref w1), (.ref a1)])) X204 hx rfl rfl rfl (pc0 := 42) (pc' := 63) (same := false) rfl (hb hby dA_42) rfl (decide_eq_false fun q => hc42_206 (Value.ref.inj q)) (by decide) (by decide) ?_
              show Steps p.tables e below (T204.setTop (mkF m 63 #[.val (.ref a1), .val (.int p1)] [])) _
              refine XS.iloadN X204.here hx rfl (hb hby dA_63) rfl ?_
              show Steps p.tables e below (T204.setTop (mkF m 64 #[.val (.ref a1), .val (.int p1)] [(.int p1)])) _
              refine XS.bipush X204.here hx rfl (hb hby dA_64) ?_
              exact kt)
            by_cases hc66_215 : p1 = (9 : Int32)
            · have P216 : ∀ t, Steps p.tables e below (T204.setTop (mkF m 86 #[.val (.ref a1), .val (.int p1)] [(.int (1 : Int32))])) t → Steps p.tables e below (s₁.setTop (entryFrame m #[(.ref a1), (.int p1)] 2)) t := fun t kt => P214 t (by
                show Steps p.tables e below (T204.setTop (mkF m 66 #[.val (.ref a1), .val (.int p1)] [(.int (9 : Int32)), (.int p1)])) _
                refine XS.icmpYes X204.here hx rfl (pc0 := 66) (pc' := 81) rfl (hb hby dA_66) rfl (teq hc66_215).1 (by decide) (by decide) ?_
                show Steps p.tables e below (T204.setTop (mkF m 81 #[.val (.ref a1), .val (.int p1)] [])) _
                refine XS.iconst X204.here hx rfl (hb hby dA_81) ?_
                show Steps p.tables e below (T204.setTop (mkF m 82 #[.val (.ref a1), .val (.int p1)] [(.int (1 : Int32))])) _
                refine XS.goto X204.here hx rfl (pc0 := 82) (pc' := 86) rfl (hb hby dA_82) (by decide) (by decide) ?_
                exact kt)
              obtain ⟨fs, hr, hrun, hended, hW, hsame⟩ := X204.leave (v := some (.int (1 : Int32))) (fun h => by rw [Bd.returns] at h; cases h) (hlocks := hlk)
              refine ⟨_, _, P216 _ ?_, hrun, hended, _, _, rfl, ?_, ⟨_, rfl⟩, hW, hsame.mono (by decide) (by decide)⟩
              · show Steps p.tables e below (T204.setTop (mkF m 86 #[.val (.ref a1), .val (.int p1)] [(.int (1 : Int32))])) _
                exact retN X204 hx (t := .boolean) Bd.returns (by simp) (hb hby dA_86) hr
              · show QP _ h0 _ T204.heap _
                have ev : fA a1 w1 p1 = (1 : Int32) := by unfold fA; rw [if_neg hc3_102, if_pos hc9_199, if_pos hc15_201, if_pos hc27_203, if_neg hc42_206, if_pos hc66_215]
                rw [ev]
                exact ⟨rfl, rfl, e204⟩
            · have P217 : ∀ t, Steps p.tables e below (T204.setTop (mkF m 72 #[.val (.ref a1), .val (.int p1)] [(.int (10 : Int32)), (.int p1)])) t → Steps p.tables e below (s₁.setTop (entryFrame m #[(.ref a1), (.int p1)] 2)) t := fun t kt => P214 t (by
                show Steps p.tables e below (T204.setTop (mkF m 66 #[.val (.ref a1), .val (.int p1)] [(.int (9 : Int32)), (.int p1)])) _
                refine XS.icmpNo X204.here hx rfl (hb hby dA_66) rfl (feq hc66_215).1 ?_
                show Steps p.tables e below (T204.setTop (mkF m 69 #[.val (.ref a1), .val (.int p1)] [])) _
                refine XS.iloadN X204.here hx rfl (hb hby dA_69) rfl ?_
                show Steps p.tables e below (T204.setTop (mkF m 70 #[.val (.ref a1), .val (.int p1)] [(.int p1)])) _
                refine XS.bipush X204.here hx rfl (hb hby dA_70) ?_
                exact kt)
              by_cases hc72_218 : p1 = (10 : Int32)
              · have P219 : ∀ t, Steps p.tables e below (T204.setTop (mkF m 86 #[.val (.ref a1), .val (.int p1)] [(.int (1 : Int32))])) t → Steps p.tables e below (s₁.setTop (entryFrame m #[(.ref a1), (.int p1)] 2)) t := fun t kt => P217 t (by
                  show Steps p.tables e below (T204.setTop (mkF m 72 #[.val (.ref a1), .val (.int p1)] [(.int (10 : Int32)), (.int p1)])) _
                  refine XS.icmpYes X204.here hx rfl (pc0 := 72) (pc' := 81) rfl (hb hby dA_72) rfl (teq hc72_218).1 (by decide) (by decide) ?_
                  show Steps p.tables e below (T204.setTop (mkF m 81 #[.val (.ref a1), .val (.int p1)] [])) _
                  refine XS.iconst X204.here hx rfl (hb hby dA_81) ?_
                  show Steps p.tables e below (T204.setTop (mkF m 82 #[.val (.ref a1), .val (.int p1)] [(.int (1 : Int32))])) _
                  refine XS.goto X204.here hx rfl (pc0 := 82) (pc' := 86) rfl (hb hby dA_82) (by decide) (by decide) ?_
                  exact kt)
                obtain ⟨fs, hr, hrun, hended, hW, hsame⟩ := X204.leave (v := some (.int (1 : Int32))) (fun h => by rw [Bd.returns] at h; cases h) (hlocks := hlk)
                refine ⟨_, _, P219 _ ?_, hrun, hended, _, _, rfl, ?_, ⟨_, rfl⟩, hW, hsame.mono (by decide) (by decide)⟩
                · show Steps p.tables e below (T204.setTop (mkF m 86 #[.val (.ref a1), .val (.int p1)] [(.int (1 : Int32))])) _
                  exact retN X204 hx (t := .boolean) Bd.returns (by simp) (hb hby dA_86) hr
                · show QP _ h0 _ T204.heap _
                  have ev : fA a1 w1 p1 = (1 : Int32) := by unfold fA; rw [if_neg hc3_102, if_pos hc9_199, if_pos hc15_201, if_pos hc27_203, if_neg hc42_206, if_neg hc66_215, if_pos hc72_218]
                  rw [ev]
                  exact ⟨rfl, rfl, e204⟩
              · have P220 : ∀ t, Steps p.tables e below (T204.setTop (mkF m 78 #[.val (.ref a1), .val (.int p1)] [(.int (13 : Int32)), (.int p1)])) t → Steps p.tables e below (s₁.setTop (entryFrame m #[(.ref a1), (.int p1)] 2)) t := fun t kt => P217 t (by
                  show Steps p.tables e below (T204.setTop (mkF m 72 #[.val (.ref a1), .val (.int p1)] [(.int (10 : Int32)), (.int p1)])) _
                  refine XS.icmpNo X204.here hx rfl (hb hby dA_72) rfl (feq hc72_218).1 ?_
                  show Steps p.tables e below (T204.setTop (mkF m 75 #[.val (.ref a1), .val (.int p1)] [])) _
                  refine XS.iloadN X204.here hx rfl (hb hby dA_75) rfl ?_
                  show Steps p.tables e below (T204.setTop (mkF m 76 #[.val (.ref a1), .val (.int p1)] [(.int p1)])) _
                  refine XS.bipush X204.here hx rfl (hb hby dA_76) ?_
                  exact kt)
                by_cases hc78_221 : p1 = (13 : Int32)
                · have P222 : ∀ t, Steps p.tables e below (T204.setTop (mkF m 86 #[.val (.ref a1), .val (.int p1)] [(.int (1 : Int32))])) t → Steps p.tables e below (s₁.setTop (entryFrame m #[(.ref a1), (.int p1)] 2)) t := fun t kt => P220 t (by
                    show Steps p.tables e below (T204.setTop (mkF m 78 #[.val (.ref a1), .val (.int p1)] [(.int (13 : Int32)), (.int p1)])) _
                    refine XS.icmpNo X204.here hx rfl (hb hby dA_78) rfl (teq hc78_221).2 ?_
                    show Steps p.tables e below (T204.setTop (mkF m 81 #[.val (.ref a1), .val (.int p1)] [])) _
                    refine XS.iconst X204.here hx rfl (hb hby dA_81) ?_
                    show Steps p.tables e below (T204.setTop (mkF m 82 #[.val (.ref a1), .val (.int p1)] [(.int (1 : Int32))])) _
                    refine XS.goto X204.here hx rfl (pc0 := 82) (pc' := 86) rfl (hb hby dA_82) (by decide) (by decide) ?_
                    exact kt)
                  obtain ⟨fs, hr, hrun, hended, hW, hsame⟩ := X204.leave (v := some (.int (1 : Int32))) (fun h => by rw [Bd.returns] at h; cases h) (hlocks := hlk)
                  refine ⟨_, _, P222 _ ?_, hrun, hended, _, _, rfl, ?_, ⟨_, rfl⟩, hW, hsame.mono (by decide) (by decide)⟩
                  · show Steps p.tables e below (T204.setTop (mkF m 86 #[.val (.ref a1), .val (.int p1)] [(.int (1 : Int32))])) _
                    exact retN X204 hx (t := .boolean) Bd.returns (by simp) (hb hby dA_86) hr
                  · show QP _ h0 _ T204.heap _
                    have ev : fA a1 w1 p1 = (1 : Int32) := by unfold fA; rw [if_neg hc3_102, if_pos hc9_199, if_pos hc15_201, if_pos hc27_203, if_neg hc42_206, if_neg hc66_215, if_neg hc72_218, if_pos hc78_221]
                    rw [ev]
                    exact ⟨rfl, rfl, e204⟩
                · have P223 : ∀ t, Steps p.tables e below (T204.setTop (mkF m 86 #[.val (.ref a1), .val (.int p1)] [(.int (0 : Int32))])) t → Steps p.tables e below (s₁.setTop (entryFrame m #[(.ref a1), (.int p1)] 2)) t := fun t kt => P220 t (by
                    show Steps p.tables e below (T204.setTop (mkF m 78 #[.val (.ref a1), .val (.int p1)] [(.int (13 : Int32)), (.int p1)])) _
                    refine XS.icmpYes X204.here hx rfl (pc0 := 78) (pc' := 85) rfl (hb hby dA_78) rfl (feq hc78_221).2 (by decide) (by decide) ?_
                    show Steps p.tables e below (T204.setTop (mkF m 85 #[.val (.ref a1), .val (.int p1)] [])) _
                    refine XS.iconst X204.here hx rfl (hb hby dA_85) ?_
                    exact kt)
                  obtain ⟨fs, hr, hrun, hended, hW, hsame⟩ := X204.leave (v := some (.int (0 : Int32))) (fun h => by rw [Bd.returns] at h; cases h) (hlocks := hlk)
                  refine ⟨_, _, P223 _ ?_, hrun, hended, _, _, rfl, ?_, ⟨_, rfl⟩, hW, hsame.mono (by decide) (by decide)⟩
                  · show Steps p.tables e below (T204.setTop (mkF m 86 #[.val (.ref a1), .val (.int p1)] [(.int (0 : Int32))])) _
                    exact retN X204 hx (t := .boolean) Bd.returns (by simp) (hb hby dA_86) hr
                  · show QP _ h0 _ T204.heap _
                    have ev : fA a1 w1 p1 = (0 : Int32) := by unfold fA; rw [if_neg hc3_102, if_pos hc9_199, if_pos hc15_201, if_pos hc27_203, if_neg hc42_206, if_neg hc66_215, if_neg hc72_218, if_neg hc78_221]
                    rw [ev]
                    exact ⟨rfl, rfl, e204⟩
        · have P224 : ∀ t, Steps p.tables e below (s₁.setTop (mkF m 33 #[.val (.ref a1), .val (.int p1)] [(.int (1114111 : Int32)), (.int p1)])) t → Steps p.tables e below (s₁.setTop (entryFrame m #[(.ref a1), (.int p1)] 2)) t := fun t kt => P202 t (by
            show Steps p.tables e below (s₁.setTop (mkF m 27 #[.val (.ref a1), .val (.int p1)] [(.int (65536 : Int32)), (.int p1)])) _
            refine XS.icmpNo X0.here hx rfl (hb hby dA_27) rfl (flt hc27_203).1 ?_
            show Steps p.tables e below (s₁.setTop (mkF m 30 #[.val (.ref a1), .val (.int p1)] [])) _
            refine XS.iloadN X0.here hx rfl (hb hby dA_30) rfl ?_
            show Steps p.tables e below (s₁.setTop (mkF m 31 #[.val (.ref a1), .val (.int p1)] [(.int p1)])) _
            refine X0.ldcInt hx hown (mvT hZ (hw _ (List.mem_of_getElem? (i := 25) rfl))) (g := (mkF m 31 #[.val (.ref a1), .val (.int p1)] [(.int p1)])) rfl (hb hby dA_31) _ ?_
            exact kt)
          by_cases hc33_225 : (1114111 : Int32) < p1
          · obtain ⟨T226, X226, e226, st226⟩ := getS2 X0 hx hZ hown (host := "") (Or.inl (hw _ (List.mem_of_getElem? (i := 24) rfl))) Via.refl e0 S1 (g := (mkF m 39 #[.val (.ref a1), .val (.int p1)] [(.ref a1)])) rfl (hb hby dA_39)
            have P227 : ∀ t, Steps p.tables e below (T226.setTop (mkF m 42 #[.val (.ref a1), .val (.int p1)] [(.ref w1), (.ref a1)])) t → Steps p.tables e below (s₁.setTop (entryFrame m #[(.ref a1), (.int p1)] 2)) t := fun t kt => P224 t (by
              show Steps p.tables e below (s₁.setTop (mkF m 33 #[.val (.ref a1), .val (.int p1)] [(.int (1114111 : Int32)), (.int p1)])) _
              refine XS.icmpYes X0.here hx rfl (pc0 := 33) (pc' := 38) rfl (hb hby dA_33) rfl (tlt hc33_225).2.2.1 (by decide) (by decide) ?_
              show Steps p.tables e below (s₁.setTop (mkF m 38 #[.val (.ref a1), .val (.int p1)] [])) _
              refine XS.aloadN X0.here hx rfl (hb hby dA_38) rfl rfl ?_
              show Steps p.tables e below (s₁.setTop (mkF m 39 #[.val (.ref a1), .val (.int p1)] [(.ref a1)])) _
              refine st226 _ ?_
              exact kt)
            by_cases hc42_228 : a1 = w1
            · have P229 : ∀ t, Steps p.tables e below (T226.setTop (mkF m 46 #[.val (.ref a1), .val (.int p1)] [(.int p1)])) t → Steps p.tables e below (s₁.setTop (entryFrame m #[(.ref a1), (.int p1)] 2)) t := fun t kt => P227 t (by
                show Steps p.tables e below (T226.setTop (mkF m 42 #[.val (.ref a1), .val (.int p1)] [(.ref w1), (.ref a1)])) _
                refine Jvm.RoadKit.acmp (g := (mkF m 42 #[.val (.ref a1), .val (.int p1)] [(.ref w1), (.ref a1)])) X226 hx rfl rfl rfl (pc0 := 42) (pc' := 45) (same := true) rfl (hb hby dA_42) rfl (decide_eq_true (congrArg Value.ref hc42_228)) (by decide) (by decide) ?_
                show Steps p.tables e below (T226.setTop (mkF m 45 #[.val (.ref a1), .val (.int p1)] [])) _
                refine XS.iloadN X226.here hx rfl (hb hby dA_45) rfl ?_
                exact kt)
              by_cases hc46_230 : (0 : Int32) < p1
              · have P231 : ∀ t, Steps p.tables e below (T226.setTop (mkF m 52 #[.val (.ref a1), .val (.int p1)] [(.int (32 : Int32)), (.int p1)])) t → Steps p.tables e below (s₁.setTop (entryFrame m #[(.ref a1), (.int p1)] 2)) t := fun t kt => P229 t (by
                  show Steps p.tables e below (T226.setTop (mkF m 46 #[.val (.ref a1), .val (.int p1)] [(.int p1)])) _
                  refine XS.ifNo X226.here hx rfl (hb hby dA_46) rfl ((if0 _ _).trans (tlt hc46_230).2.2.2) ?_
                  show Steps p.tables e below (T226.setTop (mkF m 49 #[.val (.ref a1), .val (.int p1)] [])) _
                  refine XS.iloadN X226.here hx rfl (hb hby dA_49) rfl ?_
                  show Steps p.tables e below (T226.setTop (mkF m 50 #[.val (.ref a1), .val (.int p1)] [(.int p1)])) _
                  refine XS.bipush X226.here hx rfl (hb hby dA_50) ?_
                  exact kt)
                by_cases hc52_232 : p1 < (32 : Int32)
                · have P233 : ∀ t, Steps p.tables e below (T226.setTop (mkF m 86 #[.val (.ref a1), .val (.int p1)] [(.int (1 : Int32))])) t → Steps p.tables e below (s₁.setTop (entryFrame m #[(.ref a1), (.int p1)] 2)) t := fun t kt => P231 t (by
                    show Steps p.tables e below (T226.setTop (mkF m 52 #[.val (.ref a1), .val (.int p1)] [(.int (32 : Int32)), (.int p1)])) _
                    refine XS.icmpNo X226.here hx rfl (hb hby dA_52) rfl (tlt hc52_232).2.1 ?_
                    show Steps p.tables e below (T226.setTop (mkF m 55 #[.val (.ref a1), .val (.int p1)] [])) _
                    refine XS.iconst X226.here hx rfl (hb hby dA_55) ?_
                    show Steps p.tables e below (T226.setTop (mkF m 56 #[.val (.ref a1), .val (.int p1)] [(.int (1 : Int32))])) _
                    refine XS.goto X226.here hx rfl (pc0 := 56) (pc' := 86) rfl (hb hby dA_56) (by decide) (by decide) ?_
                    exact kt)
                  obtain ⟨fs, hr, hrun, hended, hW, hsame⟩ := X226.leave (v := some (.int (1 : Int32))) (fun h => by rw [Bd.returns] at h; cases h) (hlocks := hlk)
                  refine ⟨_, _, P233 _ ?_, hrun, hended, _, _, rfl, ?_, ⟨_, rfl⟩, hW, hsame.mono (by decide) (by decide)⟩
                  · show Steps p.tables e below (T226.setTop (mkF m 86 #[.val (.ref a1), .val (.int p1)] [(.int (1 : Int32))])) _
                    exact retN X226 hx (t := .boolean) Bd.returns (by simp) (hb hby dA_86) hr
                  · show QP _ h0 _ T226.heap _
                    have ev : fA a1 w1 p1 = (1 : Int32) := by unfold fA; rw [if_neg hc3_102, if_pos hc9_199, if_pos hc15_201, if_neg hc27_203, if_pos hc33_225, if_pos hc42_228, if_pos hc46_230, if_pos hc52_232]
                    rw [ev]
                    exact ⟨rfl, rfl, e226⟩
                · have P234 : ∀ t, Steps p.tables e below (T226.setTop (mkF m 86 #[.val (.ref a1), .val (.int p1)] [(.int (0 : Int32))])) t → Steps p.tables e below (s₁.setTop (entryFrame m #[(.ref a1), (.int p1)] 2)) t := fun t kt => P231 t (by
                    show Steps p.tables e below (T226.setTop (mkF m 52 #[.val (.ref a1), .val (.int p1)] [(.int (32 : Int32)), (.int p1)])) _
                    refine XS.icmpYes X226.here hx rfl (pc0 := 52) (pc' := 59) rfl (hb hby dA_52) rfl (flt hc52_232).2.1 (by decide) (by decide) ?_
                    show Steps p.tables e below (T226.setTop (mkF m 59 #[.val (.ref a1), .val (.int p1)] [])) _
                    refine XS.iconst X226.here hx rfl (hb hby dA_59) ?_
                    show Steps p.tables e below (T226.setTop (mkF m 60 #[.val (.ref a1), .val (.int p1)] [(.int (0 : Int32))])) _
                    refine XS.goto X226.here hx rfl (pc0 := 60) (pc' := 86) rfl (hb hby dA_60) (by decide) (by decide) ?_
                    exact kt)
                  obtain ⟨fs, hr, hrun, hended, hW, hsame⟩ := X226.leave (v := some (.int (0 : Int32))) (fun h => by rw [Bd.returns] at h; cases h) (hlocks := hlk)
                  refine ⟨_, _, P234 _ ?_, hrun, hended, _, _, rfl, ?_, ⟨_, rfl⟩, hW, hsame.mono (by decide) (by decide)⟩
                  · show Steps p.tables e below (T226.setTop (mkF m 86 #[.val (.ref a1), .val (.int p1)] [(.int (0 : Int32))])) _
                    exact retN X226 hx (t := .boolean) Bd.returns (by simp) (hb hby dA_86) hr
                  · show QP _ h0 _ T226.heap _
                    have ev : fA a1 w1 p1 = (0 : Int32) := by unfold fA; rw [if_neg hc3_102, if_pos hc9_199, if_pos hc15_201, if_neg hc27_203, if_pos hc33_225, if_pos hc42_228, if_pos hc46_230, if_neg hc52_232]
                    rw [ev]
                    exact ⟨rfl, rfl, e226⟩
              · have P235 : ∀ t, Steps p.tables e below (T226.setTop (mkF m 86 #[.val (.ref a1), .val (.int p1)] [(.int (0 : Int32))])) t → Steps p.tables e below (s₁.setTop (entryFrame m #[(.ref a1), (.int p1)] 2)) t := fun t kt => P229 t (by
                  show Steps p.tables e below (T226.setTop (mkF m 46 #[.val (.ref a1), .val (.int p1)] [(.int p1)])) _
                  refine XS.ifYes X226.here hx rfl (pc0 := 46) (pc' := 59) rfl (hb hby dA_46) rfl ((if0 _ _).trans (flt hc46_230).2.2.2) (by decide) (by decide) ?_
                  show Steps p.tables e below (T226.setTop (mkF m 59 #[.val (.ref a1), .val (.int p1)] [])) _
                  refine XS.iconst X226.here hx rfl (hb hby dA_59) ?_
                  show Steps p.tables e below (T226.setTop (mkF m 60 #[.val (.ref a1), .val (.int p1)] [(.int (0 : Int32))])) _
                  refine XS.goto X226.here hx rfl (pc0 := 60) (pc' := 86) rfl (hb hby dA_60) (by decide) (by decide) ?_
                  exact kt)
                obtain ⟨fs, hr, hrun, hended, hW, hsame⟩ := X226.leave (v := some (.int (0 : Int32))) (fun h => by rw [Bd.returns] at h; cases h) (hlocks := hlk)
                refine ⟨_, _, P235 _ ?_, hrun, hended, _, _, rfl, ?_, ⟨_, rfl⟩, hW, hsame.mono (by decide) (by decide)⟩
                · show Steps p.tables e below (T226.setTop (mkF m 86 #[.val (.ref a1), .val (.int p1)] [(.int (0 : Int32))])) _
                  exact retN X226 hx (t := .boolean) Bd.returns (by simp) (hb hby dA_86) hr
                · show QP _ h0 _ T226.heap _
                  have ev : fA a1 w1 p1 = (0 : Int32) := by unfold fA; rw [if_neg hc3_102, if_pos hc9_199, if_pos hc15_201, if_neg hc27_203, if_pos hc33_225, if_pos hc42_228, if_neg hc46_230]
                  rw [ev]
                  exact ⟨rfl, rfl, e226⟩
            · have P236 : ∀ t, Steps p.tables e below (T226.setTop (mkF m 66 #[.val (.ref a1), .val (.int p1)] [(.int (9 : Int32)), (.int p1)])) t → Steps p.tables e below (s₁.setTop (entryFrame m #[(.ref a1), (.int p1)] 2)) t := fun t kt => P227 t (by
                show Steps p.tables e below (T226.setTop (mkF m 42 #[.val (.ref a1), .val (.int p1)] [(.ref w1), (.ref a1)])) _
                refine Jvm.RoadKit.acmp (g := (mkF m 42 #[.val (.ref a1), .val (.int p1)] [(.ref w1), (.ref a1)])) X226 hx rfl rfl rfl (pc0 := 42) (pc' := 63) (same := false) rfl (hb hby dA_42) rfl (decide_eq_false fun q => hc42_228 (Value.ref.inj q)) (by decide) (by decide) ?_
                show Steps p.tables e below (T226.setTop (mkF m 63 #[.val (.ref a1), .val (.int p1)] [])) _
                refine XS.iloadN X226.here hx rfl (hb hby dA_63) rfl ?_
                show Steps p.tables e below (T226.setTop (mkF m 64 #[.val (.ref a1), .val (.int p1)] [(.int p1)])) _
                refine XS.bipush X226.here hx rfl (hb hby dA_64) ?_
                exact kt)
              by_cases hc66_237 : p1 = (9 : Int32)
              · have P238 : ∀ t, Steps p.tables e below (T226.setTop (mkF m 86 #[.val (.ref a1), .val (.int p1)] [(.int (1 : Int32))])) t → Steps p.tables e below (s₁.setTop (entryFrame m #[(.ref a1), (.int p1)] 2)) t := fun t kt => P236 t (by
                  show Steps p.tables e below (T226.setTop (mkF m 66 #[.val (.ref a1), .val (.int p1)] [(.int (9 : Int32)), (.int p1)])) _
                  refine XS.icmpYes X226.here hx rfl (pc0 := 66) (pc' := 81) rfl (hb hby dA_66) rfl (teq hc66_237).1 (by decide) (by decide) ?_
                  show Steps p.tables e below (T226.setTop (mkF m 81 #[.val (.ref a1), .val (.int p1)] [])) _
                  refine XS.iconst X226.here hx rfl (hb hby dA_81) ?_
                  show Steps p.tables e below (T226.setTop (mkF m 82 #[.val (.ref a1), .val (.int p1)] [(.int (1 : Int32))])) _
                  refine XS.goto X226.here hx rfl (pc0 := 82) (pc' := 86) rfl (hb hby dA_82) (by decide) (by decide) ?_
                  exact kt)
                obtain ⟨fs, hr, hrun, hended, hW, hsame⟩ := X226.leave (v := some (.int (1 : Int32))) (fun h => by rw [Bd.returns] at h; cases h) (hlocks := hlk)
                refine ⟨_, _, P238 _ ?_, hrun, hended, _, _, rfl, ?_, ⟨_, rfl⟩, hW, hsame.mono (by decide) (by decide)⟩
                · show Steps p.tables e below (T226.setTop (mkF m 86 #[.val (.ref a1), .val (.int p1)] [(.int (1 : Int32))])) _
                  exact retN X226 hx (t := .boolean) Bd.returns (by simp) (hb hby dA_86) hr
                · show QP _ h0 _ T226.heap _
                  have ev : fA a1 w1 p1 = (1 : Int32) := by unfold fA; rw [if_neg hc3_102, if_pos hc9_199, if_pos hc15_201, if_neg hc27_203, if_pos hc33_225, if_neg hc42_228, if_pos hc66_237]
                  rw [ev]
                  exact ⟨rfl, rfl, e226⟩
              · have P239 : ∀ t, Steps p.tables e below (T226.setTop (mkF m 72 #[.val (.ref a1), .val (.int p1)] [(.int (10 : Int32)), (.int p1)])) t → Steps p.tables e below (s₁.setTop (entryFrame m #[(.ref a1), (.int p1)] 2)) t := fun t kt => P236 t (by
                  show Steps p.tables e below (T226.setTop (mkF m 66 #[.val (.ref a1), .val (.int p1)] [(.int (9 : Int32)), (.int p1)])) _
                  refine XS.icmpNo X226.here hx rfl (hb hby dA_66) rfl (feq hc66_237).1 ?_
                  show Steps p.tables e below (T226.setTop (mkF m 69 #[.val (.ref a1), .val (.int p1)] [])) _
                  refine XS.iloadN X226.here hx rfl (hb hby dA_69) rfl ?_
                  show Steps p.tables e below (T226.setTop (mkF m 70 #[.val (.ref a1), .val (.int p1)] [(.int p1)])) _
                  refine XS.bipush X226.here hx rfl (hb hby dA_70) ?_
                  exact kt)
                by_cases hc72_240 : p1 = (10 : Int32)
                · have P241 : ∀ t, Steps p.tables e below (T226.setTop (mkF m 86 #[.val (.ref a1), .val (.int p1)] [(.int (1 : Int32))])) t → Steps p.tables e below (s₁.setTop (entryFrame m #[(.ref a1), (.int p1)] 2)) t := fun t kt => P239 t (by
                    show Steps p.tables e below (T226.setTop (mkF m 72 #[.val (.ref a1), .val (.int p1)] [(.int (10 : Int32)), (.int p1)])) _
                    refine XS.icmpYes X226.here hx rfl (pc0 := 72) (pc' := 81) rfl (hb hby dA_72) rfl (teq hc72_240).1 (by decide) (by decide) ?_
                    show Steps p.tables e below (T226.setTop (mkF m 81 #[.val (.ref a1), .val (.int p1)] [])) _
                    refine XS.iconst X226.here hx rfl (hb hby dA_81) ?_
                    show Steps p.tables e below (T226.setTop (mkF m 82 #[.val (.ref a1), .val (.int p1)] [(.int (1 : Int32))])) _
                    refine XS.goto X226.here hx rfl (pc0 := 82) (pc' := 86) rfl (hb hby dA_82) (by decide) (by decide) ?_
                    exact kt)
                  obtain ⟨fs, hr, hrun, hended, hW, hsame⟩ := X226.leave (v := some (.int (1 : Int32))) (fun h => by rw [Bd.returns] at h; cases h) (hlocks := hlk)
                  refine ⟨_, _, P241 _ ?_, hrun, hended, _, _, rfl, ?_, ⟨_, rfl⟩, hW, hsame.mono (by decide) (by decide)⟩
                  · show Steps p.tables e below (T226.setTop (mkF m 86 #[.val (.ref a1), .val (.int p1)] [(.int (1 : Int32))])) _
                    exact retN X226 hx (t := .boolean) Bd.returns (by simp) (hb hby dA_86) hr
                  · show QP _ h0 _ T226.heap _
                    have ev : fA a1 w1 p1 = (1 : Int32) := by unfold fA; rw [if_neg hc3_102, if_pos hc9_199, if_pos hc15_201, if_neg hc27_203, if_pos hc33_225, if_neg hc42_228, if_neg hc66_237, if_pos hc72_240]
                    rw [ev]
                    exact ⟨rfl, rfl, e226⟩
                · have P242 : ∀ t, Steps p.tables e below (T226.setTop (mkF m 78 #[.val (.ref a1), .val (.int p1)] [(.int (13 : Int32)), (.int p1)])) t → Steps p.tables e below (s₁.setTop (entryFrame m #[(.ref a1), (.int p1)] 2)) t := fun t kt => P239 t (by
                    show Steps p.tables e below (T226.setTop (mkF m 72 #[.val (.ref a1), .val (.int p1)] [(.int (10 : Int32)), (.int p1)])) _
                    refine XS.icmpNo X226.here hx rfl (hb hby dA_72) rfl (feq hc72_240).1 ?_
                    show Steps p.tables e below (T226.setTop (mkF m 75 #[.val (.ref a1), .val (.int p1)] [])) _
                    refine XS.iloadN X226.here hx rfl (hb hby dA_75) rfl ?_
                    show Steps p.tables e below (T226.setTop (mkF m 76 #[.val (.ref a1), .val (.int p1)] [(.int p1)])) _
                    refine XS.bipush X226.here hx rfl (hb hby dA_76) ?_
                    exact kt)
                  by_cases hc78_243 : p1 = (13 : Int32)
                  · have P244 : ∀ t, Steps p.tables e below (T226.setTop (mkF m 86 #[.val (.ref a1), .val (.int p1)] [(.int (1 : Int32))])) t → Steps p.tables e below (s₁.setTop (entryFrame m #[(.ref a1), (.int p1)] 2)) t := fun t kt => P242 t (by
                      show Steps p.tables e below (T226.setTop (mkF m 78 #[.val (.ref a1), .val (.int p1)] [(.int (13 : Int32)), (.int p1)])) _
                      refine XS.icmpNo X226.here hx rfl (hb hby dA_78) rfl (teq hc78_243).2 ?_
                      show Steps p.tables e below (T226.setTop (mkF m 81 #[.val (.ref a1), .val (.int p1)] [])) _
                      refine XS.iconst X226.here hx rfl (hb hby dA_81) ?_
                      show Steps p.tables e below (T226.setTop (mkF m 82 #[.val (.ref a1), .val (.int p1)] [(.int (1 : Int32))])) _
                      refine XS.goto X226.here hx rfl (pc0 := 82) (pc' := 86) rfl (hb hby dA_82) (by decide) (by decide) ?_
                      exact kt)
                    obtain ⟨fs, hr, hrun, hended, hW, hsame⟩ := X226.leave (v := some (.int (1 : Int32))) (fun h => by rw [Bd.returns] at h; cases h) (hlocks := hlk)
                    refine ⟨_, _, P244 _ ?_, hrun, hended, _, _, rfl, ?_, ⟨_, rfl⟩, hW, hsame.mono (by decide) (by decide)⟩
                    · show Steps p.tables e below (T226.setTop (mkF m 86 #[.val (.ref a1), .val (.int p1)] [(.int (1 : Int32))])) _
                      exact retN X226 hx (t := .boolean) Bd.returns (by simp) (hb hby dA_86) hr
                    · show QP _ h0 _ T226.heap _
                      have ev : fA a1 w1 p1 = (1 : Int32) := by unfold fA; rw [if_neg hc3_102, if_pos hc9_199, if_pos hc15_201, if_neg hc27_203, if_pos hc33_225, if_neg hc42_228, if_neg hc66_237, if_neg hc72_240, if_pos hc78_243]
                      rw [ev]
                      exact ⟨rfl, rfl, e226⟩
                  · have P245 : ∀ t, Steps p.tables e below (T226.setTop (mkF m 86 #[.val (.ref a1), .val (.int p1)] [(.int (0 : Int32))])) t → Steps p.tables e below (s₁.setTop (entryFrame m #[(.ref a1), (.int p1)] 2)) t := fun t kt => P242 t (by
                      show Steps p.tables e below (T226.setTop (mkF m 78 #[.val (.ref a1), .val (.int p1)] [(.int (13 : Int32)), (.int p1)])) _
                      refine XS.icmpYes X226.here hx rfl (pc0 := 78) (pc' := 85) rfl (hb hby dA_78) rfl (feq hc78_243).2 (by decide) (by decide) ?_
                      show Steps p.tables e below (T226.setTop (mkF m 85 #[.val (.ref a1), .val (.int p1)] [])) _
                      refine XS.iconst X226.here hx rfl (hb hby dA_85) ?_
                      exact kt)
                    obtain ⟨fs, hr, hrun, hended, hW, hsame⟩ := X226.leave (v := some (.int (0 : Int32))) (fun h => by rw [Bd.returns] at h; cases h) (hlocks := hlk)
                    refine ⟨_, _, P245 _ ?_, hrun, hended, _, _, rfl, ?_, ⟨_, rfl⟩, hW, hsame.mono (by decide) (by decide)⟩
                    · show Steps p.tables e below (T226.setTop (mkF m 86 #[.val (.ref a1), .val (.int p1)] [(.int (0 : Int32))])) _
                      exact retN X226 hx (t := .boolean) Bd.returns (by simp) (hb hby dA_86) hr
                    · show QP _ h0 _ T226.heap _
                      have ev : fA a1 w1 p1 = (0 : Int32) := by unfold fA; rw [if_neg hc3_102, if_pos hc9_199, if_pos hc15_201, if_neg hc27_203, if_pos hc33_225, if_neg hc42_228, if_neg hc66_237, if_neg hc72_240, if_neg hc78_243]
                      rw [ev]
                      exact ⟨rfl, rfl, e226⟩
          · have P246 : ∀ t, Steps p.tables e below (s₁.setTop (mkF m 37 #[.val (.ref a1), .val (.int p1)] [(.int (1 : Int32))])) t → Steps p.tables e below (s₁.setTop (entryFrame m #[(.ref a1), (.int p1)] 2)) t := fun t kt => P224 t (by
              show Steps p.tables e below (s₁.setTop (mkF m 33 #[.val (.ref a1), .val (.int p1)] [(.int (1114111 : Int32)), (.int p1)])) _
              refine XS.icmpNo X0.here hx rfl (hb hby dA_33) rfl (flt hc33_225).2.2.1 ?_
              show Steps p.tables e below (s₁.setTop (mkF m 36 #[.val (.ref a1), .val (.int p1)] [])) _
              refine XS.iconst X0.here hx rfl (hb hby dA_36) ?_
              exact kt)
            obtain ⟨fs, hr, hrun, hended, hW, hsame⟩ := X0.leave (v := some (.int (1 : Int32))) (fun h => by rw [Bd.returns] at h; cases h) (hlocks := hlk)
            refine ⟨_, _, P246 _ ?_, hrun, hended, _, _, rfl, ?_, ⟨_, rfl⟩, hW, hsame.mono (by decide) (by decide)⟩
            · show Steps p.tables e below (s₁.setTop (mkF m 37 #[.val (.ref a1), .val (.int p1)] [(.int (1 : Int32))])) _
              exact retN X0 hx (t := .boolean) Bd.returns (by simp) (hb hby dA_37) hr
            · show QP _ h0 _ s₁.heap _
              have ev : fA a1 w1 p1 = (1 : Int32) := by unfold fA; rw [if_neg hc3_102, if_pos hc9_199, if_pos hc15_201, if_neg hc27_203, if_neg hc33_225]
              rw [ev]
              exact ⟨rfl, rfl, e0⟩
      · have P247 : ∀ t, Steps p.tables e below (s₁.setTop (mkF m 21 #[.val (.ref a1), .val (.int p1)] [(.int (65533 : Int32)), (.int p1)])) t → Steps p.tables e below (s₁.setTop (entryFrame m #[(.ref a1), (.int p1)] 2)) t := fun t kt => P200 t (by
          show Steps p.tables e below (s₁.setTop (mkF m 15 #[.val (.ref a1), .val (.int p1)] [(.int (57344 : Int32)), (.int p1)])) _
          refine XS.icmpNo X0.here hx rfl (hb hby dA_15) rfl (flt hc15_201).1 ?_
          show Steps p.tables e below (s₁.setTop (mkF m 18 #[.val (.ref a1), .val (.int p1)] [])) _
          refine XS.iloadN X0.here hx rfl (hb hby dA_18) rfl ?_
          show Steps p.tables e below (s₁.setTop (mkF m 19 #[.val (.ref a1), .val (.int p1)] [(.int p1)])) _
          refine X0.ldcInt hx hown (mvT hZ (hw _ (List.mem_of_getElem? (i := 20) rfl))) (g := (mkF m 19 #[.val (.ref a1), .val (.int p1)] [(.int p1)])) rfl (hb hby dA_19) _ ?_
          exact kt)
        by_cases hc21_248 : (65533 : Int32) < p1
        · have P249 : ∀ t, Steps p.tables e below (s₁.setTop (mkF m 27 #[.val (.ref a1), .val (.int p1)] [(.int (65536 : Int32)), (.int p1)])) t → Steps p.tables e below (s₁.setTop (entryFrame m #[(.ref a1), (.int p1)] 2)) t := fun t kt => P247 t (by
            show Steps p.tables e below (s₁.setTop (mkF m 21 #[.val (.ref a1), .val (.int p1)] [(.int (65533 : Int32)), (.int p1)])) _
            refine XS.icmpNo X0.here hx rfl (hb hby dA_21) rfl (tlt hc21_248).2.2.2 ?_
            show Steps p.tables e below (s₁.setTop (mkF m 24 #[.val (.ref a1), .val (.int p1)] [])) _
            refine XS.iloadN X0.here hx rfl (hb hby dA_24) rfl ?_
            show Steps p.tables e below (s₁.setTop (mkF m 25 #[.val (.ref a1), .val (.int p1)] [(.int p1)])) _
            refine X0.ldcInt hx hown (mvT hZ (hw _ (List.mem_of_getElem? (i := 23) rfl))) (g := (mkF m 25 #[.val (.ref a1), .val (.int p1)] [(.int p1)])) rfl (hb hby dA_25) _ ?_
            exact kt)
          by_cases hc27_250 : p1 < (65536 : Int32)
          · obtain ⟨T251, X251, e251, st251⟩ := getS2 X0 hx hZ hown (host := "") (Or.inl (hw _ (List.mem_of_getElem? (i := 24) rfl))) Via.refl e0 S1 (g := (mkF m 39 #[.val (.ref a1), .val (.int p1)] [(.ref a1)])) rfl (hb hby dA_39)
            have P252 : ∀ t, Steps p.tables e below (T251.setTop (mkF m 42 #[.val (.ref a1), .val (.int p1)] [(.ref w1), (.ref a1)])) t → Steps p.tables e below (s₁.setTop (entryFrame m #[(.ref a1), (.int p1)] 2)) t := fun t kt => P249 t (by
              show Steps p.tables e below (s₁.setTop (mkF m 27 #[.val (.ref a1), .val (.int p1)] [(.int (65536 : Int32)), (.int p1)])) _
              refine XS.icmpYes X0.here hx rfl (pc0 := 27) (pc' := 38) rfl (hb hby dA_27) rfl (tlt hc27_250).1 (by decide) (by decide) ?_
              show Steps p.tables e below (s₁.setTop (mkF m 38 #[.val (.ref a1), .val (.int p1)] [])) _
              refine XS.aloadN X0.here hx rfl (hb hby dA_38) rfl rfl ?_
              show Steps p.tables e below (s₁.setTop (mkF m 39 #[.val (.ref a1), .val (.int p1)] [(.ref a1)])) _
              refine st251 _ ?_
              exact kt)
            by_cases hc42_253 : a1 = w1
            · have P254 : ∀ t, Steps p.tables e below (T251.setTop (mkF m 46 #[.val (.ref a1), .val (.int p1)] [(.int p1)])) t → Steps p.tables e below (s₁.setTop (entryFrame m #[(.ref a1), (.int p1)] 2)) t := fun t kt => P252 t (by
                show Steps p.tables e below (T251.setTop (mkF m 42 #[.val (.ref a1), .val (.int p1)] [(.ref w1), (.ref a1)])) _
                refine Jvm.RoadKit.acmp (g := (mkF m 42 #[.val (.ref a1), .val (.int p1)] [(.ref w1), (.ref a1)])) X251 hx rfl rfl rfl (pc0 := 42) (pc' := 45) (same := true) rfl (hb hby dA_42) rfl (decide_eq_true (congrArg Value.ref hc42_253)) (by decide) (by decide) ?_
                show Steps p.tables e below (T251.setTop (mkF m 45 #[.val (.ref a1), .val (.int p1)] [])) _
                refine XS.iloadN X251.here hx rfl (hb hby dA_45) rfl ?_
                exact kt)
              by_cases hc46_255 : (0 : Int32) < p1
              · have P256 : ∀ t, Steps p.tables e below (T251.setTop (mkF m 52 #[.val (.ref a1), .val (.int p1)] [(.int (32 : Int32)), (.int p1)])) t → Steps p.tables e below (s₁.setTop (entryFrame m #[(.ref a1), (.int p1)] 2)) t := fun t kt => P254 t (by
                  show Steps p.tables e below (T251.setTop (mkF m 46 #[.val (.ref a1), .val (.int p1)] [(.int p1)])) _
                  refine XS.ifNo X251.here hx rfl (hb hby dA_46) rfl ((if0 _ _).trans (tlt hc46_255).2.2.2) ?_
                  show Steps p.tables e below (T251.setTop (mkF m 49 #[.val (.ref a1), .val (.int p1)] [])) _
                  refine XS.iloadN X251.here hx rfl (hb hby dA_49) rfl ?_
                  show Steps p.tables e below (T251.setTop (mkF m 50 #[.val (.ref a1), .val (.int p1)] [(.int p1)])) _
                  refine XS.bipush X251.here hx rfl (hb hby dA_50) ?_
                  exact kt)
                by_cases hc52_257 : p1 < (32 : Int32)
                · have P258 : ∀ t, Steps p.tables e below (T251.setTop (mkF m 86 #[.val (.ref a1), .val (.int p1)] [(.int (1 : Int32))])) t → Steps p.tables e below (s₁.setTop (entryFrame m #[(.ref a1), (.int p1)] 2)) t := fun t kt => P256 t (by
                    show Steps p.tables e below (T251.setTop (mkF m 52 #[.val (.ref a1), .val (.int p1)] [(.int (32 : Int32)), (.int p1)])) _
                    refine XS.icmpNo X251.here hx rfl (hb hby dA_52) rfl (tlt hc52_257).2.1 ?_
                    show Steps p.tables e below (T251.setTop (mkF m 55 #[.val (.ref a1), .val (.int p1)] [])) _
                    refine XS.iconst X251.here hx rfl (hb hby dA_55) ?_
                    show Steps p.tables e below (T251.setTop (mkF m 56 #[.val (.ref a1), .val (.int p1)] [(.int (1 : Int32))])) _
                    refine XS.goto X251.here hx rfl (pc0 := 56) (pc' := 86) rfl (hb hby dA_56) (by decide) (by decide) ?_
                    exact kt)
                  obtain ⟨fs, hr, hrun, hended, hW, hsame⟩ := X251.leave (v := some (.int (1 : Int32))) (fun h => by rw [Bd.returns] at h; cases h) (hlocks := hlk)
                  refine ⟨_, _, P258 _ ?_, hrun, hended, _, _, rfl, ?_, ⟨_, rfl⟩, hW, hsame.mono (by decide) (by decide)⟩
                  · show Steps p.tables e below (T251.setTop (mkF m 86 #[.val (.ref a1), .val (.int p1)] [(.int (1 : Int32))])) _
                    exact retN X251 hx (t := .boolean) Bd.returns (by simp) (hb hby dA_86) hr
                  · show QP _ h0 _ T251.heap _
                    have ev : fA a1 w1 p1 = (1 : Int32) := by unfold fA; rw [if_neg hc3_102, if_pos hc9_199, if_neg hc15_201, if_pos hc21_248, if_pos hc27_250, if_pos hc42_253, if_pos hc46_255, if_pos hc52_257]
                    rw [ev]
                    exact ⟨rfl, rfl, e251⟩
                · have P259 : ∀ t, Steps p.tables e below (T251.setTop (mkF m 86 #[.val (.ref a1), .val (.int p1)] [(.int (0 : Int32))])) t → Steps p.tables e below (s₁.setTop (entryFrame m #[(.ref a1), (.int p1)] 2)) t := fun t kt => P256 t (by
                    show Steps p.tables e below (T251.setTop (mkF m 52 #[.val (.ref a1), .val (.int p1)] [(.int (32 : Int32)), (.int p1)])) _
                    refine XS.icmpYes X251.here hx rfl (pc0 := 52) (pc' := 59) rfl (hb hby dA_52) rfl (flt hc52_257).2.1 (by decide) (by decide) ?_
                    show Steps p.tables e below (T251.setTop (mkF m 59 #[.val (.ref a1), .val (.int p1)] [])) _
                    refine XS.iconst X251.here hx rfl (hb hby dA_59) ?_
                    show Steps p.tables e below (T251.setTop (mkF m 60 #[.val (.ref a1), .val (.int p1)] [(.int (0 : Int32))])) _
                    refine XS.goto X251.here hx rfl (pc0 := 60) (pc' := 86) rfl (hb hby dA_60) (by decide) (by decide) ?_
                    exact kt)
                  obtain ⟨fs, hr, hrun, hended, hW, hsame⟩ := X251.leave (v := some (.int (0 : Int32))) (fun h => by rw [Bd.returns] at h; cases h) (hlocks := hlk)
                  refine ⟨_, _, P259 _ ?_, hrun, hended, _, _, rfl, ?_, ⟨_, rfl⟩, hW, hsame.mono (by decide) (by decide)⟩
                  · show Steps p.tables e below (T251.setTop (mkF m 86 #[.val (.ref a1), .val (.int p1)] [(.int (0 : Int32))])) _
                    exact retN X251 hx (t := .boolean) Bd.returns (by simp) (hb hby dA_86) hr
                  · show QP _ h0 _ T251.heap _
                    have ev : fA a1 w1 p1 = (0 : Int32) := by unfold fA; rw [if_neg hc3_102, if_pos hc9_199, if_neg hc15_201, if_pos hc21_248, if_pos hc27_250, if_pos hc42_253, if_pos hc46_255, if_neg hc52_257]
                    rw [ev]
                    exact ⟨rfl, rfl, e251⟩
              · have P260 : ∀ t, Steps p.tables e below (T251.setTop (mkF m 86 #[.val (.ref a1), .val (.int p1)] [(.int (0 : Int32))])) t → Steps p.tables e below (s₁.setTop (entryFrame m #[(.ref a1), (.int p1)] 2)) t := fun t kt => P254 t (by
                  show Steps p.tables e below (T251.setTop (mkF m 46 #[.val (.ref a1), .val (.int p1)] [(.int p1)])) _
                  refine XS.ifYes X251.here hx rfl (pc0 := 46) (pc' := 59) rfl (hb hby dA_46) rfl ((if0 _ _).trans (flt hc46_255).2.2.2) (by decide) (by decide) ?_
                  show Steps p.tables e below (T251.setTop (mkF m 59 #[.val (.ref a1), .val (.int p1)] [])) _
                  refine XS.iconst X251.here hx rfl (hb hby dA_59) ?_
                  show Steps p.tables e below (T251.setTop (mkF m 60 #[.val (.ref a1), .val (.int p1)] [(.int (0 : Int32))])) _
                  refine XS.goto X251.here hx rfl (pc0 := 60) (pc' := 86) rfl (hb hby dA_60) (by decide) (by decide) ?_
                  exact kt)
                obtain ⟨fs, hr, hrun, hended, hW, hsame⟩ := X251.leave (v := some (.int (0 : Int32))) (fun h => by rw [Bd.returns] at h; cases h) (hlocks := hlk)
                refine ⟨_, _, P260 _ ?_, hrun, hended, _, _, rfl, ?_, ⟨_, rfl⟩, hW, hsame.mono (by decide) (by decide)⟩
                · show Steps p.tables e below (T251.setTop (mkF m 86 #[.val (.ref a1), .val (.int p1)] [(.int (0 : Int32))])) _
                  exact retN X251 hx (t := .boolean) Bd.returns (by simp) (hb hby dA_86) hr
                · show QP _ h0 _ T251.heap _
                  have ev : fA a1 w1 p1 = (0 : Int32) := by unfold fA; rw [if_neg hc3_102, if_pos hc9_199, if_neg hc15_201, if_pos hc21_248, if_pos hc27_250, if_pos hc42_253, if_neg hc46_255]
                  rw [ev]
                  exact ⟨rfl, rfl, e251⟩
            · have P261 : ∀ t, Steps p.tables e below (T251.setTop (mkF m 66 #[.val (.ref a1), .val (.int p1)] [(.int (9 : Int32)), (.int p1)])) t → Steps p.tables e below (s₁.setTop (entryFrame m #[(.ref a1), (.int p1)] 2)) t := fun t kt => P252 t (by
                show Steps p.tables e below (T251.setTop (mkF m 42 #[.val (.ref a1), .val (.int p1)] [(.ref w1), (.ref a1)])) _
                refine Jvm.RoadKit.acmp (g := (mkF m 42 #[.val (.ref a1), .val (.int p1)] [(.ref w1), (.ref a1)])) X251 hx rfl rfl rfl (pc0 := 42) (pc' := 63) (same := false) rfl (hb hby dA_42) rfl (decide_eq_false fun q => hc42_253 (Value.ref.inj q)) (by decide) (by decide) ?_
                show Steps p.tables e below (T251.setTop (mkF m 63 #[.val (.ref a1), .val (.int p1)] [])) _
                refine XS.iloadN X251.here hx rfl (hb hby dA_63) rfl ?_
                show Steps p.tables e below (T251.setTop (mkF m 64 #[.val (.ref a1), .val (.int p1)] [(.int p1)])) _
                refine XS.bipush X251.here hx rfl (hb hby dA_64) ?_
                exact kt)
              by_cases hc66_262 : p1 = (9 : Int32)
              · have P263 : ∀ t, Steps p.tables e below (T251.setTop (mkF m 86 #[.val (.ref a1), .val (.int p1)] [(.int (1 : Int32))])) t → Steps p.tables e below (s₁.setTop (entryFrame m #[(.ref a1), (.int p1)] 2)) t := fun t kt => P261 t (by
                  show Steps p.tables e below (T251.setTop (mkF m 66 #[.val (.ref a1), .val (.int p1)] [(.int (9 : Int32)), (.int p1)])) _
                  refine XS.icmpYes X251.here hx rfl (pc0 := 66) (pc' := 81) rfl (hb hby dA_66) rfl (teq hc66_262).1 (by decide) (by decide) ?_
                  show Steps p.tables e below (T251.setTop (mkF m 81 #[.val (.ref a1), .val (.int p1)] [])) _
                  refine XS.iconst X251.here hx rfl (hb hby dA_81) ?_
                  show Steps p.tables e below (T251.setTop (mkF m 82 #[.val (.ref a1), .val (.int p1)] [(.int (1 : Int32))])) _
                  refine XS.goto X251.here hx rfl (pc0 := 82) (pc' := 86) rfl (hb hby dA_82) (by decide) (by decide) ?_
                  exact kt)
                obtain ⟨fs, hr, hrun, hended, hW, hsame⟩ := X251.leave (v := some (.int (1 : Int32))) (fun h => by rw [Bd.returns] at h; cases h) (hlocks := hlk)
                refine ⟨_, _, P263 _ ?_, hrun, hended, _, _, rfl, ?_, ⟨_, rfl⟩, hW, hsame.mono (by decide) (by decide)⟩
                · show Steps p.tables e below (T251.setTop (mkF m 86 #[.val (.ref a1), .val (.int p1)] [(.int (1 : Int32))])) _
                  exact retN X251 hx (t := .boolean) Bd.returns (by simp) (hb hby dA_86) hr
                · show QP _ h0 _ T251.heap _
                  have ev : fA a1 w1 p1 = (1 : Int32) := by unfold fA; rw [if_neg hc3_102, if_pos hc9_199, if_neg hc15_201, if_pos hc21_248, if_pos hc27_250, if_neg hc42_253, if_pos hc66_262]
                  rw [ev]
                  exact ⟨rfl, rfl, e251⟩
              · have P264 : ∀ t, Steps p.tables e below (T251.setTop (mkF m 72 #[.val (.ref a1), .val (.int p1)] [(.int (10 : Int32)), (.int p1)])) t → Steps p.tables e below (s₁.setTop (entryFrame m #[(.ref a1), (.int p1)] 2)) t := fun t kt => P261 t (by
                  show Steps p.tables e below (T251.setTop (mkF m 66 #[.val (.ref a1), .val (.int p1)] [(.int (9 : Int32)), (.int p1)])) _
                  refine XS.icmpNo X251.here hx rfl (hb hby dA_66) rfl (feq hc66_262).1 ?_
                  show Steps p.tables e below (T251.setTop (mkF m 69 #[.val (.ref a1), .val (.int p1)] [])) _
                  refine XS.iloadN X251.here hx rfl (hb hby dA_69) rfl ?_
                  show Steps p.tables e below (T251.setTop (mkF m 70 #[.val (.ref a1), .val (.int p1)] [(.int p1)])) _
                  refine XS.bipush X251.here hx rfl (hb hby dA_70) ?_
                  exact kt)
                by_cases hc72_265 : p1 = (10 : Int32)
                · have P266 : ∀ t, Steps p.tables e below (T251.setTop (mkF m 86 #[.val (.ref a1), .val (.int p1)] [(.int (1 : Int32))])) t → Steps p.tables e below (s₁.setTop (entryFrame m #[(.ref a1), (.int p1)] 2)) t := fun t kt => P264 t (by
                    show Steps p.tables e below (T251.setTop (mkF m 72 #[.val (.ref a1), .val (.int p1)] [(.int (10 : Int32)), (.int p1)])) _
                    refine XS.icmpYes X251.here hx rfl (pc0 := 72) (pc' := 81) rfl (hb hby dA_72) rfl (teq hc72_265).1 (by decide) (by decide) ?_
                    show Steps p.tables e below (T251.setTop (mkF m 81 #[.val (.ref a1), .val (.int p1)] [])) _
                    refine XS.iconst X251.here hx rfl (hb hby dA_81) ?_
                    show Steps p.tables e below (T251.setTop (mkF m 82 #[.val (.ref a1), .val (.int p1)] [(.int (1 : Int32))])) _
                    refine XS.goto X251.here hx rfl (pc0 := 82) (pc' := 86) rfl (hb hby dA_82) (by decide) (by decide) ?_
                    exact kt)
                  obtain ⟨fs, hr, hrun, hended, hW, hsame⟩ := X251.leave (v := some (.int (1 : Int32))) (fun h => by rw [Bd.returns] at h; cases h) (hlocks := hlk)
                  refine ⟨_, _, P266 _ ?_, hrun, hended, _, _, rfl, ?_, ⟨_, rfl⟩, hW, hsame.mono (by decide) (by decide)⟩
                  · show Steps p.tables e below (T251.setTop (mkF m 86 #[.val (.ref a1), .val (.int p1)] [(.int (1 : Int32))])) _
                    exact retN X251 hx (t := .boolean) Bd.returns (by simp) (hb hby dA_86) hr
                  · show QP _ h0 _ T251.heap _
                    have ev : fA a1 w1 p1 = (1 : Int32) := by unfold fA; rw [if_neg hc3_102, if_pos hc9_199, if_neg hc15_201, if_pos hc21_248, if_pos hc27_250, if_neg hc42_253, if_neg hc66_262, if_pos hc72_265]
                    rw [ev]
                    exact ⟨rfl, rfl, e251⟩
                · have P267 : ∀ t, Steps p.tables e below (T251.setTop (mkF m 78 #[.val (.ref a1), .val (.int p1)] [(.int (13 : Int32)), (.int p1)])) t → Steps p.tables e below (s₁.setTop (entryFrame m #[(.ref a1), (.int p1)] 2)) t := fun t kt => P264 t (by
                    show Steps p.tables e below (T251.setTop (mkF m 72 #[.val (.ref a1), .val (.int p1)] [(.int (10 : Int32)), (.int p1)])) _
                    refine XS.icmpNo X251.here hx rfl (hb hby dA_72) rfl (feq hc72_265).1 ?_
                    show Steps p.tables e below (T251.setTop (mkF m 75 #[.val (.ref a1), .val (.int p1)] [])) _
                    refine XS.iloadN X251.here hx rfl (hb hby dA_75) rfl ?_
                    show Steps p.tables e below (T251.setTop (mkF m 76 #[.val (.ref a1), .val (.int p1)] [(.int p1)])) _
                    refine XS.bipush X251.here hx rfl (hb hby dA_76) ?_
                    exact kt)
                  by_cases hc78_268 : p1 = (13 : Int32)
                  · have P269 : ∀ t, Steps p.tables e below (T251.setTop (mkF m 86 #[.val (.ref a1), .val (.int p1)] [(.int (1 : Int32))])) t → Steps p.tables e below (s₁.setTop (entryFrame m #[(.ref a1), (.int p1)] 2)) t := fun t kt => P267 t (by
                      show Steps p.tables e below (T251.setTop (mkF m 78 #[.val (.ref a1), .val (.int p1)] [(.int (13 : Int32)), (.int p1)])) _
                      refine XS.icmpNo X251.here hx rfl (hb hby dA_78) rfl (teq hc78_268).2 ?_
                      show Steps p.tables e below (T251.setTop (mkF m 81 #[.val (.ref a1), .val (.int p1)] [])) _
                      refine XS.iconst X251.here hx rfl (hb hby dA_81) ?_
                      show Steps p.tables e below (T251.setTop (mkF m 82 #[.val (.ref a1), .val (.int p1)] [(.int (1 : Int32))])) _
                      refine XS.goto X251.here hx rfl (pc0 := 82) (pc' := 86) rfl (hb hby dA_82) (by decide) (by decide) ?_
                      exact kt)
                    obtain ⟨fs, hr, hrun, hended, hW, hsame⟩ := X251.leave (v := some (.int (1 : Int32))) (fun h => by rw [Bd.returns] at h; cases h) (hlocks := hlk)
                    refine ⟨_, _, P269 _ ?_, hrun, hended, _, _, rfl, ?_, ⟨_, rfl⟩, hW, hsame.mono (by decide) (by decide)⟩
                    · show Steps p.tables e below (T251.setTop (mkF m 86 #[.val (.ref a1), .val (.int p1)] [(.int (1 : Int32))])) _
                      exact retN X251 hx (t := .boolean) Bd.returns (by simp) (hb hby dA_86) hr
                    · show QP _ h0 _ T251.heap _
                      have ev : fA a1 w1 p1 = (1 : Int32) := by unfold fA; rw [if_neg hc3_102, if_pos hc9_199, if_neg hc15_201, if_pos hc21_248, if_pos hc27_250, if_neg hc42_253, if_neg hc66_262, if_neg hc72_265, if_pos hc78_268]
                      rw [ev]
                      exact ⟨rfl, rfl, e251⟩
                  · have P270 : ∀ t, Steps p.tables e below (T251.setTop (mkF m 86 #[.val (.ref a1), .val (.int p1)] [(.int (0 : Int32))])) t → Steps p.tables e below (s₁.setTop (entryFrame m #[(.ref a1), (.int p1)] 2)) t := fun t kt => P267 t (by
                      show Steps p.tables e below (T251.setTop (mkF m 78 #[.val (.ref a1), .val (.int p1)] [(.int (13 : Int32)), (.int p1)])) _
                      refine XS.icmpYes X251.here hx rfl (pc0 := 78) (pc' := 85) rfl (hb hby dA_78) rfl (feq hc78_268).2 (by decide) (by decide) ?_
                      show Steps p.tables e below (T251.setTop (mkF m 85 #[.val (.ref a1), .val (.int p1)] [])) _
                      refine XS.iconst X251.here hx rfl (hb hby dA_85) ?_
                      exact kt)
                    obtain ⟨fs, hr, hrun, hended, hW, hsame⟩ := X251.leave (v := some (.int (0 : Int32))) (fun h => by rw [Bd.returns] at h; cases h) (hlocks := hlk)
                    refine ⟨_, _, P270 _ ?_, hrun, hended, _, _, rfl, ?_, ⟨_, rfl⟩, hW, hsame.mono (by decide) (by decide)⟩
                    · show Steps p.tables e below (T251.setTop (mkF m 86 #[.val (.ref a1), .val (.int p1)] [(.int (0 : Int32))])) _
                      exact retN X251 hx (t := .boolean) Bd.returns (by simp) (hb hby dA_86) hr
                    · show QP _ h0 _ T251.heap _
                      have ev : fA a1 w1 p1 = (0 : Int32) := by unfold fA; rw [if_neg hc3_102, if_pos hc9_199, if_neg hc15_201, if_pos hc21_248, if_pos hc27_250, if_neg hc42_253, if_neg hc66_262, if_neg hc72_265, if_neg hc78_268]
                      rw [ev]
                      exact ⟨rfl, rfl, e251⟩
          · have P271 : ∀ t, Steps p.tables e below (s₁.setTop (mkF m 33 #[.val (.ref a1), .val (.int p1)] [(.int (1114111 : Int32)), (.int p1)])) t → Steps p.tables e below (s₁.setTop (entryFrame m #[(.ref a1), (.int p1)] 2)) t := fun t kt => P249 t (by
              show Steps p.tables e below (s₁.setTop (mkF m 27 #[.val (.ref a1), .val (.int p1)] [(.int (65536 : Int32)), (.int p1)])) _
              refine XS.icmpNo X0.here hx rfl (hb hby dA_27) rfl (flt hc27_250).1 ?_
              show Steps p.tables e below (s₁.setTop (mkF m 30 #[.val (.ref a1), .val (.int p1)] [])) _
              refine XS.iloadN X0.here hx rfl (hb hby dA_30) rfl ?_
              show Steps p.tables e below (s₁.setTop (mkF m 31 #[.val (.ref a1), .val (.int p1)] [(.int p1)])) _
              refine X0.ldcInt hx hown (mvT hZ (hw _ (List.mem_of_getElem? (i := 25) rfl))) (g := (mkF m 31 #[.val (.ref a1), .val (.int p1)] [(.int p1)])) rfl (hb hby dA_31) _ ?_
              exact kt)
            by_cases hc33_272 : (1114111 : Int32) < p1
            · obtain ⟨T273, X273, e273, st273⟩ := getS2 X0 hx hZ hown (host := "") (Or.inl (hw _ (List.mem_of_getElem? (i := 24) rfl))) Via.refl e0 S1 (g := (mkF m 39 #[.val (.ref a1), .val (.int p1)] [(.ref a1)])) rfl (hb hby dA_39)
              have P274 : ∀ t, Steps p.tables e below (T273.setTop (mkF m 42 #[.val (.ref a1), .val (.int p1)] [(.ref w1), (.ref a1)])) t → Steps p.tables e below (s₁.setTop (entryFrame m #[(.ref a1), (.int p1)] 2)) t := fun t kt => P271 t (by
                show Steps p.tables e below (s₁.setTop (mkF m 33 #[.val (.ref a1), .val (.int p1)] [(.int (1114111 : Int32)), (.int p1)])) _
                refine XS.icmpYes X0.here hx rfl (pc0 := 33) (pc' := 38) rfl (hb hby dA_33) rfl (tlt hc33_272).2.2.1 (by decide) (by decide) ?_
                show Steps p.tables e below (s₁.setTop (mkF m 38 #[.val (.ref a1), .val (.int p1)] [])) _
                refine XS.aloadN X0.here hx rfl (hb hby dA_38) rfl rfl ?_
                show Steps p.tables e below (s₁.setTop (mkF m 39 #[.val (.ref a1), .val (.int p1)] [(.ref a1)])) _
                refine st273 _ ?_
                exact kt)
              by_cases hc42_275 : a1 = w1
              · have P276 : ∀ t, Steps p.tables e below (T273.setTop (mkF m 46 #[.val (.ref a1), .val (.int p1)] [(.int p1)])) t → Steps p.tables e below (s₁.setTop (entryFrame m #[(.ref a1), (.int p1)] 2)) t := fun t kt => P274 t (by
                  show Steps p.tables e below (T273.setTop (mkF m 42 #[.val (.ref a1), .val (.int p1)] [(.ref w1), (.ref a1)])) _
                  refine Jvm.RoadKit.acmp (g := (mkF m 42 #[.val (.ref a1), .val (.int p1)] [(.ref w1), (.ref a1)])) X273 hx rfl rfl rfl (pc0 := 42) (pc' := 45) (same := true) rfl (hb hby dA_42) rfl (decide_eq_true (congrArg Value.ref hc42_275)) (by decide) (by decide) ?_
                  show Steps p.tables e below (T273.setTop (mkF m 45 #[.val (.ref a1), .val (.int p1)] [])) _
                  refine XS.iloadN X273.here hx rfl (hb hby dA_45) rfl ?_
                  exact kt)
                by_cases hc46_277 : (0 : Int32) < p1
                · have P278 : ∀ t, Steps p.tables e below (T273.setTop (mkF m 52 #[.val (.ref a1), .val (.int p1)] [(.int (32 : Int32)), (.int p1)])) t → Steps p.tables e below (s₁.setTop (entryFrame m #[(.ref a1), (.int p1)] 2)) t := fun t kt => P276 t (by
                    show Steps p.tables e below (T273.setTop (mkF m 46 #[.val (.ref a1), .val (.int p1)] [(.int p1)])) _
                    refine XS.ifNo X273.here hx rfl (hb hby dA_46) rfl ((if0 _ _).trans (tlt hc46_277).2.2.2) ?_
                    show Steps p.tables e below (T273.setTop (mkF m 49 #[.val (.ref a1), .val (.int p1)] [])) _
                    refine XS.iloadN X273.here hx rfl (hb hby dA_49) rfl ?_
                    show Steps p.tables e below (T273.setTop (mkF m 50 #[.val (.ref a1), .val (.int p1)] [(.int p1)])) _
                    refine XS.bipush X273.here hx rfl (hb hby dA_50) ?_
                    exact kt)
                  by_cases hc52_279 : p1 < (32 : Int32)
                  · have P280 : ∀ t, Steps p.tables e below (T273.setTop (mkF m 86 #[.val (.ref a1), .val (.int p1)] [(.int (1 : Int32))])) t → Steps p.tables e below (s₁.setTop (entryFrame m #[(.ref a1), (.int p1)] 2)) t := fun t kt => P278 t (by
                      show Steps p.tables e below (T273.setTop (mkF m 52 #[.val (.ref a1), .val (.int p1)] [(.int (32 : Int32)), (.int p1)])) _
                      refine XS.icmpNo X273.here hx rfl (hb hby dA_52) rfl (tlt hc52_279).2.1 ?_
                      show Steps p.tables e below (T273.setTop (mkF m 55 #[.val (.ref a1), .val (.int p1)] [])) _
                      refine XS.iconst X273.here hx rfl (hb hby dA_55) ?_
                      show Steps p.tables e below (T273.setTop (mkF m 56 #[.val (.ref a1), .val (.int p1)] [(.int (1 : Int32))])) _
                      refine XS.goto X273.here hx rfl (pc0 := 56) (pc' := 86) rfl (hb hby dA_56) (by decide) (by decide) ?_
                      exact kt)
                    obtain ⟨fs, hr, hrun, hended, hW, hsame⟩ := X273.leave (v := some (.int (1 : Int32))) (fun h => by rw [Bd.returns] at h; cases h) (hlocks := hlk)
                    refine ⟨_, _, P280 _ ?_, hrun, hended, _, _, rfl, ?_, ⟨_, rfl⟩, hW, hsame.mono (by decide) (by decide)⟩
                    · show Steps p.tables e below (T273.setTop (mkF m 86 #[.val (.ref a1), .val (.int p1)] [(.int (1 : Int32))])) _
                      exact retN X273 hx (t := .boolean) Bd.returns (by simp) (hb hby dA_86) hr
                    · show QP _ h0 _ T273.heap _
                      have ev : fA a1 w1 p1 = (1 : Int32) := by unfold fA; rw [if_neg hc3_102, if_pos hc9_199, if_neg hc15_201, if_pos hc21_248, if_neg hc27_250, if_pos hc33_272, if_pos hc42_275, if_pos hc46_277, if_pos hc52_279]
                      rw [ev]
                      exact ⟨rfl, rfl, e273⟩
                  · have P281 : ∀ t, Steps p.tables e below (T273.setTop (mkF m 86 #[.val (.ref a1), .val (.int p1)] [(.int (0 : Int32))])) t → Steps p.tables e below (s₁.setTop (entryFrame m #[(.ref a1), (.int p1)] 2)) t := fun t kt => P278 t (by
                      show Steps p.tables e below (T273.setTop (mkF m 52 #[.val (.ref a1), .val (.int p1)] [(.int (32 : Int32)), (.int p1)])) _
                      refine XS.icmpYes X273.here hx rfl (pc0 := 52) (pc' := 59) rfl (hb hby dA_52) rfl (flt hc52_279).2.1 (by decide) (by decide) ?_
                      show Steps p.tables e below (T273.setTop (mkF m 59 #[.val (.ref a1), .val (.int p1)] [])) _
                      refine XS.iconst X273.here hx rfl (hb hby dA_59) ?_
                      show Steps p.tables e below (T273.setTop (mkF m 60 #[.val (.ref a1), .val (.int p1)] [(.int (0 : Int32))])) _
                      refine XS.goto X273.here hx rfl (pc0 := 60) (pc' := 86) rfl (hb hby dA_60) (by decide) (by decide) ?_
                      exact kt)
                    obtain ⟨fs, hr, hrun, hended, hW, hsame⟩ := X273.leave (v := some (.int (0 : Int32))) (fun h => by rw [Bd.returns] at h; cases h) (hlocks := hlk)
                    refine ⟨_, _, P281 _ ?_, hrun, hended, _, _, rfl, ?_, ⟨_, rfl⟩, hW, hsame.mono (by decide) (by decide)⟩
                    · show Steps p.tables e below (T273.setTop (mkF m 86 #[.val (.ref a1), .val (.int p1)] [(.int (0 : Int32))])) _
                      exact retN X273 hx (t := .boolean) Bd.returns (by simp) (hb hby dA_86) hr
                    · show QP _ h0 _ T273.heap _
                      have ev : fA a1 w1 p1 = (0 : Int32) := by unfold fA; rw [if_neg hc3_102, if_pos hc9_199, if_neg hc15_201, if_pos hc21_248, if_neg hc27_250, if_pos hc33_272, if_pos hc42_275, if_pos hc46_277, if_neg hc52_279]
                      rw [ev]
                      exact ⟨rfl, rfl, e273⟩
                · have P282 : ∀ t, Steps p.tables e below (T273.setTop (mkF m 86 #[.val (.ref a1), .val (.int p1)] [(.int (0 : Int32))])) t → Steps p.tables e below (s₁.setTop (entryFrame m #[(.ref a1), (.int p1)] 2)) t := fun t kt => P276 t (by
                    show Steps p.tables e below (T273.setTop (mkF m 46 #[.val (.ref a1), .val (.int p1)] [(.int p1)])) _
                    refine XS.ifYes X273.here hx rfl (pc0 := 46) (pc' := 59) rfl (hb hby dA_46) rfl ((if0 _ _).trans (flt hc46_277).2.2.2) (by decide) (by decide) ?_
                    show Steps p.tables e below (T273.setTop (mkF m 59 #[.val (.ref a1), .val (.int p1)] [])) _
                    refine XS.iconst X273.here hx rfl (hb hby dA_59) ?_
                    show Steps p.tables e below (T273.setTop (mkF m 60 #[.val (.ref a1), .val (.int p1)] [(.int (0 : Int32))])) _
                    refine XS.goto X273.here hx rfl (pc0 := 60) (pc' := 86) rfl (hb hby dA_60) (by decide) (by decide) ?_
                    exact kt)
                  obtain ⟨fs, hr, hrun, hended, hW, hsame⟩ := X273.leave (v := some (.int (0 : Int32))) (fun h => by rw [Bd.returns] at h; cases h) (hlocks := hlk)
                  refine ⟨_, _, P282 _ ?_, hrun, hended, _, _, rfl, ?_, ⟨_, rfl⟩, hW, hsame.mono (by decide) (by decide)⟩
                  · show Steps p.tables e below (T273.setTop (mkF m 86 #[.val (.ref a1), .val (.int p1)] [(.int (0 : Int32))])) _
                    exact retN X273 hx (t := .boolean) Bd.returns (by simp) (hb hby dA_86) hr
                  · show QP _ h0 _ T273.heap _
                    have ev : fA a1 w1 p1 = (0 : Int32) := by unfold fA; rw [if_neg hc3_102, if_pos hc9_199, if_neg hc15_201, if_pos hc21_248, if_neg hc27_250, if_pos hc33_272, if_pos hc42_275, if_neg hc46_277]
                    rw [ev]
                    exact ⟨rfl, rfl, e273⟩
              · have P283 : ∀ t, Steps p.tables e below (T273.setTop (mkF m 66 #[.val (.ref a1), .val (.int p1)] [(.int (9 : Int32)), (.int p1)])) t → Steps p.tables e below (s₁.setTop (entryFrame m #[(.ref a1), (.int p1)] 2)) t := fun t kt => P274 t (by
                  show Steps p.tables e below (T273.setTop (mkF m 42 #[.val (.ref a1), .val (.int p1)] [(.ref w1), (.ref a1)])) _
                  refine Jvm.RoadKit.acmp (g := (mkF m 42 #[.val (.ref a1), .val (.int p1)] [(.ref w1), (.ref a1)])) X273 hx rfl rfl rfl (pc0 := 42) (pc' := 63) (same := false) rfl (hb hby dA_42) rfl (decide_eq_false fun q => hc42_275 (Value.ref.inj q)) (by decide) (by decide) ?_
                  show Steps p.tables e below (T273.setTop (mkF m 63 #[.val (.ref a1), .val (.int p1)] [])) _
                  refine XS.iloadN X273.here hx rfl (hb hby dA_63) rfl ?_
                  show Steps p.tables e below (T273.setTop (mkF m 64 #[.val (.ref a1), .val (.int p1)] [(.int p1)])) _
                  refine XS.bipush X273.here hx rfl (hb hby dA_64) ?_
                  exact kt)
                by_cases hc66_284 : p1 = (9 : Int32)
                · have P285 : ∀ t, Steps p.tables e below (T273.setTop (mkF m 86 #[.val (.ref a1), .val (.int p1)] [(.int (1 : Int32))])) t → Steps p.tables e below (s₁.setTop (entryFrame m #[(.ref a1), (.int p1)] 2)) t := fun t kt => P283 t (by
                    show Steps p.tables e below (T273.setTop (mkF m 66 #[.val (.ref a1), .val (.int p1)] [(.int (9 : Int32)), (.int p1)])) _
                    refine XS.icmpYes X273.here hx rfl (pc0 := 66) (pc' := 81) rfl (hb hby dA_66) rfl (teq hc66_284).1 (by decide) (by decide) ?_
                    show Steps p.tables e below (T273.setTop (mkF m 81 #[.val (.ref a1), .val (.int p1)] [])) _
                    refine XS.iconst X273.here hx rfl (hb hby dA_81) ?_
                    show Steps p.tables e below (T273.setTop (mkF m 82 #[.val (.ref a1), .val (.int p1)] [(.int (1 : Int32))])) _
                    refine XS.goto X273.here hx rfl (pc0 := 82) (pc' := 86) rfl (hb hby dA_82) (by decide) (by decide) ?_
                    exact kt)
                  obtain ⟨fs, hr, hrun, hended, hW, hsame⟩ := X273.leave (v := some (.int (1 : Int32))) (fun h => by rw [Bd.returns] at h; cases h) (hlocks := hlk)
                  refine ⟨_, _, P285 _ ?_, hrun, hended, _, _, rfl, ?_, ⟨_, rfl⟩, hW, hsame.mono (by decide) (by decide)⟩
                  · show Steps p.tables e below (T273.setTop (mkF m 86 #[.val (.ref a1), .val (.int p1)] [(.int (1 : Int32))])) _
                    exact retN X273 hx (t := .boolean) Bd.returns (by simp) (hb hby dA_86) hr
                  · show QP _ h0 _ T273.heap _
                    have ev : fA a1 w1 p1 = (1 : Int32) := by unfold fA; rw [if_neg hc3_102, if_pos hc9_199, if_neg hc15_201, if_pos hc21_248, if_neg hc27_250, if_pos hc33_272, if_neg hc42_275, if_pos hc66_284]
                    rw [ev]
                    exact ⟨rfl, rfl, e273⟩
                · have P286 : ∀ t, Steps p.tables e below (T273.setTop (mkF m 72 #[.val (.ref a1), .val (.int p1)] [(.int (10 : Int32)), (.int p1)])) t → Steps p.tables e below (s₁.setTop (entryFrame m #[(.ref a1), (.int p1)] 2)) t := fun t kt => P283 t (by
                    show Steps p.tables e below (T273.setTop (mkF m 66 #[.val (.ref a1), .val (.int p1)] [(.int (9 : Int32)), (.int p1)])) _
                    refine XS.icmpNo X273.here hx rfl (hb hby dA_66) rfl (feq hc66_284).1 ?_
                    show Steps p.tables e below (T273.setTop (mkF m 69 #[.val (.ref a1), .val (.int p1)] [])) _
                    refine XS.iloadN X273.here hx rfl (hb hby dA_69) rfl ?_
                    show Steps p.tables e below (T273.setTop (mkF m 70 #[.val (.ref a1), .val (.int p1)] [(.int p1)])) _
                    refine XS.bipush X273.here hx rfl (hb hby dA_70) ?_
                    exact kt)
                  by_cases hc72_287 : p1 = (10 : Int32)
                  · have P288 : ∀ t, Steps p.tables e below (T273.setTop (mkF m 86 #[.val (.ref a1), .val (.int p1)] [(.int (1 : Int32))])) t → Steps p.tables e below (s₁.setTop (entryFrame m #[(.ref a1), (.int p1)] 2)) t := fun t kt => P286 t (by
                      show Steps p.tables e below (T273.setTop (mkF m 72 #[.val (.ref a1), .val (.int p1)] [(.int (10 : Int32)), (.int p1)])) _
                      refine XS.icmpYes X273.here hx rfl (pc0 := 72) (pc' := 81) rfl (hb hby dA_72) rfl (teq hc72_287).1 (by decide) (by decide) ?_
                      show Steps p.tables e below (T273.setTop (mkF m 81 #[.val (.ref a1), .val (.int p1)] [])) _
                      refine XS.iconst X273.here hx rfl (hb hby dA_81) ?_
                      show Steps p.tables e below (T273.setTop (mkF m 82 #[.val (.ref a1), .val (.int p1)] [(.int (1 : Int32))])) _
                      refine XS.goto X273.here hx rfl (pc0 := 82) (pc' := 86) rfl (hb hby dA_82) (by decide) (by decide) ?_
                      exact kt)
                    obtain ⟨fs, hr, hrun, hended, hW, hsame⟩ := X273.leave (v := some (.int (1 : Int32))) (fun h => by rw [Bd.returns] at h; cases h) (hlocks := hlk)
                    refine ⟨_, _, P288 _ ?_, hrun, hended, _, _, rfl, ?_, ⟨_, rfl⟩, hW, hsame.mono (by decide) (by decide)⟩
                    · show Steps p.tables e below (T273.setTop (mkF m 86 #[.val (.ref a1), .val (.int p1)] [(.int (1 : Int32))])) _
                      exact retN X273 hx (t := .boolean) Bd.returns (by simp) (hb hby dA_86) hr
                    · show QP _ h0 _ T273.heap _
                      have ev : fA a1 w1 p1 = (1 : Int32) := by unfold fA; rw [if_neg hc3_102, if_pos hc9_199, if_neg hc15_201, if_pos hc21_248, if_neg hc27_250, if_pos hc33_272, if_neg hc42_275, if_neg hc66_284, if_pos hc72_287]
                      rw [ev]
                      exact ⟨rfl, rfl, e273⟩
                  · have P289 : ∀ t, Steps p.tables e below (T273.setTop (mkF m 78 #[.val (.ref a1), .val (.int p1)] [(.int (13 : Int32)), (.int p1)])) t → Steps p.tables e below (s₁.setTop (entryFrame m #[(.ref a1), (.int p1)] 2)) t := fun t kt => P286 t (by
                      show Steps p.tables e below (T273.setTop (mkF m 72 #[.val (.ref a1), .val (.int p1)] [(.int (10 : Int32)), (.int p1)])) _
                      refine XS.icmpNo X273.here hx rfl (hb hby dA_72) rfl (feq hc72_287).1 ?_
                      show Steps p.tables e below (T273.setTop (mkF m 75 #[.val (.ref a1), .val (.int p1)] [])) _
                      refine XS.iloadN X273.here hx rfl (hb hby dA_75) rfl ?_
                      show Steps p.tables e below (T273.setTop (mkF m 76 #[.val (.ref a1), .val (.int p1)] [(.int p1)])) _
                      refine XS.bipush X273.here hx rfl (hb hby dA_76) ?_
                      exact kt)
                    by_cases hc78_290 : p1 = (13 : Int32)
                    · have P291 : ∀ t, Steps p.tables e below (T273.setTop (mkF m 86 #[.val (.ref a1), .val (.int p1)] [(.int (1 : Int32))])) t → Steps p.tables e below (s₁.setTop (entryFrame m #[(.ref a1), (.int p1)] 2)) t := fun t kt => P289 t (by
                        show Steps p.tables e below (T273.setTop (mkF m 78 #[.val (.ref a1), .val (.int p1)] [(.int (13 : Int32)), (.int p1)])) _
                        refine XS.icmpNo X273.here hx rfl (hb hby dA_78) rfl (teq hc78_290).2 ?_
                        show Steps p.tables e below (T273.setTop (mkF m 81 #[.val (.ref a1), .val (.int p1)] [])) _
                        refine XS.iconst X273.here hx rfl (hb hby dA_81) ?_
                        show Steps p.tables e below (T273.setTop (mkF m 82 #[.val (.ref a1), .val (.int p1)] [(.int (1 : Int32))])) _
                        refine XS.goto X273.here hx rfl (pc0 := 82) (pc' := 86) rfl (hb hby dA_82) (by decide) (by decide) ?_
                        exact kt)
                      obtain ⟨fs, hr, hrun, hended, hW, hsame⟩ := X273.leave (v := some (.int (1 : Int32))) (fun h => by rw [Bd.returns] at h; cases h) (hlocks := hlk)
                      refine ⟨_, _, P291 _ ?_, hrun, hended, _, _, rfl, ?_, ⟨_, rfl⟩, hW, hsame.mono (by decide) (by decide)⟩
                      · show Steps p.tables e below (T273.setTop (mkF m 86 #[.val (.ref a1), .val (.int p1)] [(.int (1 : Int32))])) _
                        exact retN X273 hx (t := .boolean) Bd.returns (by simp) (hb hby dA_86) hr
                      · show QP _ h0 _ T273.heap _
                        have ev : fA a1 w1 p1 = (1 : Int32) := by unfold fA; rw [if_neg hc3_102, if_pos hc9_199, if_neg hc15_201, if_pos hc21_248, if_neg hc27_250, if_pos hc33_272, if_neg hc42_275, if_neg hc66_284, if_neg hc72_287, if_pos hc78_290]
                        rw [ev]
                        exact ⟨rfl, rfl, e273⟩
                    · have P292 : ∀ t, Steps p.tables e below (T273.setTop (mkF m 86 #[.val (.ref a1), .val (.int p1)] [(.int (0 : Int32))])) t → Steps p.tables e below (s₁.setTop (entryFrame m #[(.ref a1), (.int p1)] 2)) t := fun t kt => P289 t (by
                        show Steps p.tables e below (T273.setTop (mkF m 78 #[.val (.ref a1), .val (.int p1)] [(.int (13 : Int32)), (.int p1)])) _
                        refine XS.icmpYes X273.here hx rfl (pc0 := 78) (pc' := 85) rfl (hb hby dA_78) rfl (feq hc78_290).2 (by decide) (by decide) ?_
                        show Steps p.tables e below (T273.setTop (mkF m 85 #[.val (.ref a1), .val (.int p1)] [])) _
                        refine XS.iconst X273.here hx rfl (hb hby dA_85) ?_
                        exact kt)
                      obtain ⟨fs, hr, hrun, hended, hW, hsame⟩ := X273.leave (v := some (.int (0 : Int32))) (fun h => by rw [Bd.returns] at h; cases h) (hlocks := hlk)
                      refine ⟨_, _, P292 _ ?_, hrun, hended, _, _, rfl, ?_, ⟨_, rfl⟩, hW, hsame.mono (by decide) (by decide)⟩
                      · show Steps p.tables e below (T273.setTop (mkF m 86 #[.val (.ref a1), .val (.int p1)] [(.int (0 : Int32))])) _
                        exact retN X273 hx (t := .boolean) Bd.returns (by simp) (hb hby dA_86) hr
                      · show QP _ h0 _ T273.heap _
                        have ev : fA a1 w1 p1 = (0 : Int32) := by unfold fA; rw [if_neg hc3_102, if_pos hc9_199, if_neg hc15_201, if_pos hc21_248, if_neg hc27_250, if_pos hc33_272, if_neg hc42_275, if_neg hc66_284, if_neg hc72_287, if_neg hc78_290]
                        rw [ev]
                        exact ⟨rfl, rfl, e273⟩
            · have P293 : ∀ t, Steps p.tables e below (s₁.setTop (mkF m 37 #[.val (.ref a1), .val (.int p1)] [(.int (1 : Int32))])) t → Steps p.tables e below (s₁.setTop (entryFrame m #[(.ref a1), (.int p1)] 2)) t := fun t kt => P271 t (by
                show Steps p.tables e below (s₁.setTop (mkF m 33 #[.val (.ref a1), .val (.int p1)] [(.int (1114111 : Int32)), (.int p1)])) _
                refine XS.icmpNo X0.here hx rfl (hb hby dA_33) rfl (flt hc33_272).2.2.1 ?_
                show Steps p.tables e below (s₁.setTop (mkF m 36 #[.val (.ref a1), .val (.int p1)] [])) _
                refine XS.iconst X0.here hx rfl (hb hby dA_36) ?_
                exact kt)
              obtain ⟨fs, hr, hrun, hended, hW, hsame⟩ := X0.leave (v := some (.int (1 : Int32))) (fun h => by rw [Bd.returns] at h; cases h) (hlocks := hlk)
              refine ⟨_, _, P293 _ ?_, hrun, hended, _, _, rfl, ?_, ⟨_, rfl⟩, hW, hsame.mono (by decide) (by decide)⟩
              · show Steps p.tables e below (s₁.setTop (mkF m 37 #[.val (.ref a1), .val (.int p1)] [(.int (1 : Int32))])) _
                exact retN X0 hx (t := .boolean) Bd.returns (by simp) (hb hby dA_37) hr
              · show QP _ h0 _ s₁.heap _
                have ev : fA a1 w1 p1 = (1 : Int32) := by unfold fA; rw [if_neg hc3_102, if_pos hc9_199, if_neg hc15_201, if_pos hc21_248, if_neg hc27_250, if_neg hc33_272]
                rw [ev]
                exact ⟨rfl, rfl, e0⟩
        · have P294 : ∀ t, Steps p.tables e below (s₁.setTop (mkF m 37 #[.val (.ref a1), .val (.int p1)] [(.int (1 : Int32))])) t → Steps p.tables e below (s₁.setTop (entryFrame m #[(.ref a1), (.int p1)] 2)) t := fun t kt => P247 t (by
            show Steps p.tables e below (s₁.setTop (mkF m 21 #[.val (.ref a1), .val (.int p1)] [(.int (65533 : Int32)), (.int p1)])) _
            refine XS.icmpYes X0.here hx rfl (pc0 := 21) (pc' := 36) rfl (hb hby dA_21) rfl (flt hc21_248).2.2.2 (by decide) (by decide) ?_
            show Steps p.tables e below (s₁.setTop (mkF m 36 #[.val (.ref a1), .val (.int p1)] [])) _
            refine XS.iconst X0.here hx rfl (hb hby dA_36) ?_
            exact kt)
          obtain ⟨fs, hr, hrun, hended, hW, hsame⟩ := X0.leave (v := some (.int (1 : Int32))) (fun h => by rw [Bd.returns] at h; cases h) (hlocks := hlk)
          refine ⟨_, _, P294 _ ?_, hrun, hended, _, _, rfl, ?_, ⟨_, rfl⟩, hW, hsame.mono (by decide) (by decide)⟩
          · show Steps p.tables e below (s₁.setTop (mkF m 37 #[.val (.ref a1), .val (.int p1)] [(.int (1 : Int32))])) _
            exact retN X0 hx (t := .boolean) Bd.returns (by simp) (hb hby dA_37) hr
          · show QP _ h0 _ s₁.heap _
            have ev : fA a1 w1 p1 = (1 : Int32) := by unfold fA; rw [if_neg hc3_102, if_pos hc9_199, if_neg hc15_201, if_neg hc21_248]
            rw [ev]
            exact ⟨rfl, rfl, e0⟩
    · have P295 : ∀ t, Steps p.tables e below (s₁.setTop (mkF m 37 #[.val (.ref a1), .val (.int p1)] [(.int (1 : Int32))])) t → Steps p.tables e below (s₁.setTop (entryFrame m #[(.ref a1), (.int p1)] 2)) t := fun t kt => P198 t (by
        show Steps p.tables e below (s₁.setTop (mkF m 9 #[.val (.ref a1), .val (.int p1)] [(.int (55295 : Int32)), (.int p1)])) _
        refine XS.icmpYes X0.here hx rfl (pc0 := 9) (pc' := 36) rfl (hb hby dA_9) rfl (flt hc9_199).2.2.2 (by decide) (by decide) ?_
        show Steps p.tables e below (s₁.setTop (mkF m 36 #[.val (.ref a1), .val (.int p1)] [])) _
        refine XS.iconst X0.here hx rfl (hb hby dA_36) ?_
        exact kt)
      obtain ⟨fs, hr, hrun, hended, hW, hsame⟩ := X0.leave (v := some (.int (1 : Int32))) (fun h => by rw [Bd.returns] at h; cases h) (hlocks := hlk)
      refine ⟨_, _, P295 _ ?_, hrun, hended, _, _, rfl, ?_, ⟨_, rfl⟩, hW, hsame.mono (by decide) (by decide)⟩
      · show Steps p.tables e below (s₁.setTop (mkF m 37 #[.val (.ref a1), .val (.int p1)] [(.int (1 : Int32))])) _
        exact retN X0 hx (t := .boolean) Bd.returns (by simp) (hb hby dA_37) hr
      · show QP _ h0 _ s₁.heap _
        have ev : fA a1 w1 p1 = (1 : Int32) := by unfold fA; rw [if_neg hc3_102, if_neg hc9_199]
        rw [ev]
        exact ⟨rfl, rfl, e0⟩
theorem ef_0 (m : MethodId) (x0 : Int32) (x1 : Int32) (x2 : Int32) : entryFrame m #[(.int x0), (.int x1), (.int x2)] maxLocals = mkF m 0 #[.val (.int x0), .val (.int x1), .val (.int x2), .unset, .unset, .unset, .unset, .unset, .unset, .unset, .unset, .unset, .unset, .unset] [] := by first | (simp [entryFrame, mkF, argsToLocals, Value.category, maxLocals]; done) | rfl
set_option maxRecDepth 65536 in
set_option maxHeartbeats 40000000 in
theorem rm0 (l : Launch) (Z : State) (a0 : Array Value) (hw : ∀ d ∈ tables_1, d.before a0 Z = true) (ws : List Jvm.Cond) (p1 : Int32) (p2 : Int32) (p3 : Int32) (w0 : Addr) (w1 : Addr) (h0 : Heap) (n0 : Nat) (Z0 : n0 ≤ h0.size) (S0 : Sta Z h0 "com/example/libxform/libxform/output/XmlVersion" "V1_0" "Lcom/example/libxform/libxform/output/XmlVersion;" (.ref w0)) (S1 : Sta Z h0 "com/example/libxform/libxform/output/XmlVersion" "V1_1" "Lcom/example/libxform/libxform/output/XmlVersion;" (.ref w1)) (E0 : Exa Z h0 w0 "com/example/libxform/libxform/output/XmlVersion") (E1 : Exa Z h0 w1 "com/example/libxform/libxform/output/XmlVersion") (hne : ¬ w0 = w1) :
    MetFree l x (head1 (Jvm.Cond.code x code maxLocals ret :: ws) room_1) (fun a U => a = #[(.int p1), (.int p2), (.int p3)] ∧ Z.Warmed39 U.vm ∧ U.heap = h0) (fun _ _ _ _ _ => True) (fun _ U o U' => ∃ v L, o = .returned v ∧ Q0 n0 v U'.heap L ∧ FrameEnd U o U' L room_1.cells room_1.slots) := by
  refine MetFree.of_bodySF (plainFor_of_name (by first | (simp [plainName, overriddenIn]; done) | decide +kernel)) hisR ?_
  intro p e s m args below meth c s₁ Bd hml0 hP hK
  obtain ⟨rfl, hZ, hh⟩ := hP
  have hx := Bd.exec
  have hby := Bd.bytes
  have hml : c.maxLocals = 14 := hml0
  have hown : s.vm.findClass "com/example/libxform/libxform/output/XmlVersionAllowsPinLaw" = some m.cls := findClass_of_methodNamed Bd.named
  have hnm := (name_of_methodNamed Bd.named Bd.method).1
  have hlk : meth.locks = false := BodyLoose.notSynchronized Bd
  have X0 : Stand p l e room_1 s m #[(.int p1), (.int p2), (.int p3)] below meth c s₁ [] 0 0 := Stand.of_body Bd
  have e0 : s₁.heap = h0 := by rw [← hh, Bd.state]; rfl
  have P0 : ∀ t, Steps p.tables e below (s₁.setTop (mkF m 0 #[.val (.int p1), .val (.int p2), .val (.int p3), .unset, .unset, .unset, .unset, .unset, .unset, .unset, .unset, .unset, .unset, .unset] [])) t → Steps p.tables e below (s₁.setTop (entryFrame m #[(.int p1), (.int p2), (.int p3)] maxLocals)) t := fun t kt => castTop (ef_0 m p1 p2 p3) kt
  have N0 := Fr.nil n0
  have P101 : ∀ t, Steps p.tables e below (s₁.setTop (mkF m 3 #[.val (.int p1), .val (.int p2), .val (.int p3), .unset, .unset, .unset, .unset, .unset, .unset, .unset, .unset, .unset, .unset, .unset] [(.int (p3 &&& (1 : Int32)))])) t → Steps p.tables e below (s₁.setTop (entryFrame m #[(.int p1), (.int p2), (.int p3)] maxLocals)) t := fun t kt => P0 t (by
    show Steps p.tables e below (s₁.setTop (mkF m 0 #[.val (.int p1), .val (.int p2), .val (.int p3), .unset, .unset, .unset, .unset, .unset, .unset, .unset, .unset, .unset, .unset, .unset] [])) _
    refine XS.iloadN X0.here hx rfl (hb hby at_0) rfl ?_
    show Steps p.tables e below (s₁.setTop (mkF m 1 #[.val (.int p1), .val (.int p2), .val (.int p3), .unset, .unset, .unset, .unset, .unset, .unset, .unset, .unset, .unset, .unset, .unset] [(.int p3)])) _
    refine XS.iconst X0.here hx rfl (hb hby at_1) ?_
    show Steps p.tables e below (s₁.setTop (mkF m 2 #[.val (.int p1), .val (.int p2), .val (.int p3), .unset, .unset, .unset, .unset, .unset, .unset, .unset, .unset, .unset, .unset, .unset] [(.int (1 : Int32)), (.int p3)])) _
    refine XS.iand X0.here hx rfl (hb hby at_2) rfl ?_
    exact kt)
  by_cases hc3_102 : (p3 &&& (1 : Int32)) = (0 : Int32)
  · obtain ⟨T103, X103, e103, st103⟩ := getS2 X0 hx hZ hown (host := "") (Or.inl (hw _ (List.mem_of_getElem? (i := 0) rfl))) Via.refl e0 S0 (g := (mkF m 22 #[.val (.int p1), .val (.int p2), .val (.int p3), .val (.int (0 : Int32)), .unset, .unset, .unset, .unset, .unset, .unset, .unset, .unset, .unset, .unset] [])) rfl (hb hby at_22)
    obtain ⟨T104, h104, k104, X104, e104, E104, A104, B104, st104⟩ := newPE X103 hx hZ (hw _ (List.mem_of_getElem? (i := 3) rfl)) e103 (g := (mkF m 29 #[.val (.int p1), .val (.int p2), .val (.int p3), .val (.int (0 : Int32)), .val (.ref w0), .unset, .unset, .unset, .unset, .unset, .unset, .unset, .unset, .unset] [(.int (9 : Int32))])) rfl (hb hby at_29) rfl (by decide) (cap := 9) (by decide) (by decide) (by decide) (by decide) (ad := "[I") (by decide)
    obtain ⟨b104, g104⟩ : ∃ z, z = h0.size := ⟨_, rfl⟩
    rw [← g104] at A104 B104 st104
    have ne104_w0 : w0 ≠ b104 := Nat.ne_of_lt (Nat.lt_of_lt_of_le E0.lt (Nat.le_of_eq g104.symm))
    have ne104_w1 : w1 ≠ b104 := Nat.ne_of_lt (Nat.lt_of_lt_of_le E1.lt (Nat.le_of_eq g104.symm))
    have gb104 : n0 ≤ b104 := Nat.le_trans Z0 (Nat.le_of_eq g104.symm)
    have sz104 : n0 ≤ h104.size := Nat.le_trans Z0 E104.1
    have f105 := S0.ext E104
    have f106 := S1.ext E104
    have f107 := E0.ext E104
    have f108 := E1.ext E104
    have V104 : Arv Z h104 b104 k104 .int (9 : Int32) [(.int (0 : Int32)), (.int (0 : Int32)), (.int (0 : Int32)), (.int (0 : Int32)), (.int (0 : Int32)), (.int (0 : Int32)), (.int (0 : Int32)), (.int (0 : Int32)), (.int (0 : Int32))] (.int (0 : Int32)) := (Arv.new A104 (by decide)).pad (pad_rep [] (.int (0 : Int32)) 9)
    obtain ⟨cl109, Ar109, q109, S109, Nn109, H109, G109⟩ := id V104
    have hin109 : ¬ ((0 : Int32) < 0 ∨ cl109.slots.size ≤ ((0 : Int32)).toNatClampNeg) := inb_of S109 ⟨by decide, by decide⟩
    obtain ⟨T110, h110, X110, e110, W110, st110⟩ := stI X104 hx hZ e104 Ar109 (j := (0 : Int32)) hin109 (g := (mkF m 34 #[.val (.int p1), .val (.int p2), .val (.int p3), .val (.int (0 : Int32)), .val (.ref w0), .unset, .unset, .unset, .unset, .unset, .unset, .unset, .unset, .unset] [(.int (0 : Int32)), (.int (0 : Int32)), (.ref b104), (.ref b104)])) rfl rfl (hb hby at_34)
    have f111 := f105.wr W110
    have f112 := f106.wr W110
    have f113 := f107.wr W110
    have f114 := f108.wr W110
    have f115 := B104.wr W110
    have V110 : Arv Z h110 b104 k104 .int (9 : Int32) [(.int (0 : Int32)), (.int (0 : Int32)), (.int (0 : Int32)), (.int (0 : Int32)), (.int (0 : Int32)), (.int (0 : Int32)), (.int (0 : Int32)), (.int (0 : Int32)), (.int (0 : Int32))] (.int (0 : Int32)) := Arv.set Ar109 q109 S109 Nn109 H109 G109 rfl W110 0 rfl (Nat.le_of_ble_eq_true rfl)
    have N110 := Fr.snoc X110 N0 gb104
    have sz110 : n0 ≤ h110.size := Nat.le_trans sz104 (Keep.of_wr W110).1
    obtain ⟨cl116, Ar116, q116, S116, Nn116, H116, G116⟩ := id V110
    have hin116 : ¬ ((1 : Int32) < 0 ∨ cl116.slots.size ≤ ((1 : Int32)).toNatClampNeg) := inb_of S116 ⟨by decide, by decide⟩
    obtain ⟨T117, h117, X117, e117, W117, st117⟩ := stI X110 hx hZ e110 Ar116 (j := (1 : Int32)) hin116 (g := (mkF m 39 #[.val (.int p1), .val (.int p2), .val (.int p3), .val (.int (0 : Int32)), .val (.ref w0), .unset, .unset, .unset, .unset, .unset, .unset, .unset, .unset, .unset] [(.int (32 : Int32)), (.int (1 : Int32)), (.ref b104), (.ref b104)])) rfl rfl (hb hby at_39)
    have f118 := f111.wr W117
    have f119 := f112.wr W117
    have f120 := f113.wr W117
    have f121 := f114.wr W117
    have f122 := f115.wr W117
    have V117 : Arv Z h117 b104 k104 .int (9 : Int32) [(.int (0 : Int32)), (.int (32 : Int32)), (.int (0 : Int32)), (.int (0 : Int32)), (.int (0 : Int32)), (.int (0 : Int32)), (.int (0 : Int32)), (.int (0 : Int32)), (.int (0 : Int32))] (.int (0 : Int32)) := Arv.set Ar116 q116 S116 Nn116 H116 G116 rfl W117 1 rfl (Nat.le_of_ble_eq_true rfl)
    have N117 := Fr.snoc X117 N110 gb104
    have sz117 : n0 ≤ h117.size := Nat.le_trans sz110 (Keep.of_wr W117).1
    obtain ⟨cl123, Ar123, q123, S123, Nn123, H123, G123⟩ := id V117
    have hin123 : ¬ ((2 : Int32) < 0 ∨ cl123.slots.size ≤ ((2 : Int32)).toNatClampNeg) := inb_of S123 ⟨by decide, by decide⟩
    obtain ⟨T124, h124, X124, e124, W124, st124⟩ := stI X117 hx hZ e117 Ar123 (j := (2 : Int32)) hin123 (g := (mkF m 44 #[.val (.int p1), .val (.int p2), .val (.int p3), .val (.int (0 : Int32)), .val (.ref w0), .unset, .unset, .unset, .unset, .unset, .unset, .unset, .unset, .unset] [(.int (55296 : Int32)), (.int (2 : Int32)), (.ref b104), (.ref b104)])) rfl rfl (hb hby at_44)
    have f125 := f118.wr W124
    have f126 := f119.wr W124
    have f127 := f120.wr W124
    have f128 := f121.wr W124
    have f129 := f122.wr W124
    have V124 : Arv Z h124 b104 k104 .int (9 : Int32) [(.int (0 : Int32)), (.int (32 : Int32)), (.int (55296 : Int32)), (.int (0 : Int32)), (.int (0 : Int32)), (.int (0 : Int32)), (.int (0 : Int32)), (.int (0 : Int32)), (.int (0 : Int32))] (.int (0 : Int32)) := Arv.set Ar123 q123 S123 Nn123 H123 G123 rfl W124 2 rfl (Nat.le_of_ble_eq_true rfl)
    have N124 := Fr.snoc X124 N117 gb104
    have sz124 : n0 ≤ h124.size := Nat.le_trans sz117 (Keep.of_wr W124).1
    obtain ⟨cl130, Ar130, q130, S130, Nn130, H130, G130⟩ := id V124
    have hin130 : ¬ ((3 : Int32) < 0 ∨ cl130.slots.size ≤ ((3 : Int32)).toNatClampNeg) := inb_of S130 ⟨by decide, by decide⟩
    obtain ⟨T131, h131, X131, e131, W131, st131⟩ := stI X124 hx hZ e124 Ar130 (j := (3 : Int32)) hin130 (g := (mkF m 49 #[.val (.int p1), .val (.int p2), .val (.int p3), .val (.int (0 : Int32)), .val (.ref w0), .unset, .unset, .unset, .unset, .unset, .unset, .unset, .unset, .unset] [(.int (57344 : Int32)), (.int (3 : Int32)), (.ref b104), (.ref b104)])) rfl rfl (hb hby at_49)
    have f132 := f125.wr W131
    have f133 := f126.wr W131
    have f134 := f127.wr W131
    have f135 := f128.wr W131
    have f136 := f129.wr W131
    have V131 : Arv Z h131 b104 k104 .int (9 : Int32) [(.int (0 : Int32)), (.int (32 : Int32)), (.int (55296 : Int32)), (.int (57344 : Int32)), (.int (0 : Int32)), (.int (0 : Int32)), (.int (0 : Int32)), (.int (0 : Int32)), (.int (0 : Int32))] (.int (0 : Int32)) := Arv.set Ar130 q130 S130 Nn130 H130 G130 rfl W131 3 rfl (Nat.le_of_ble_eq_true rfl)
    have N131 := Fr.snoc X131 N124 gb104
    have sz131 : n0 ≤ h131.size := Nat.le_trans sz124 (Keep.of_wr W131).1
    obtain ⟨cl137, Ar137, q137, S137, Nn137, H137, G137⟩ := id V131
    have hin137 : ¬ ((4 : Int32) < 0 ∨ cl137.slots.size ≤ ((4 : Int32)).toNatClampNeg) := inb_of S137 ⟨by decide, by decide⟩
    obtain ⟨T138, h138, X138, e138, W138, st138⟩ := stI X131 hx hZ e131 Ar137 (j := (4 : Int32)) hin137 (g := (mkF m 54 #[.val (.int p1), .val (.int p2), .val (.int p3), .val (.int (0 : Int32)), .val (.ref w0), .unset, .unset, .unset, .unset, .unset, .unset, .unset, .unset, .unset] [(.int (65534 : Int32)), (.int (4 : Int32)), (.ref b104), (.ref b104)])) rfl rfl (hb hby at_54)
    have f139 := f132.wr W138
    have f140 := f133.wr W138
    have f141 := f134.wr W138
    have f142 := f135.wr W138
    have f143 := f136.wr W138
    have V138 : Arv Z h138 b104 k104 .int (9 : Int32) [(.int (0 : Int32)), (.int (32 : Int32)), (.int (55296 : Int32)), (.int (57344 : Int32)), (.int (65534 : Int32)), (.int (0 : Int32)), (.int (0 : Int32)), (.int (0 : Int32)), (.int (0 : Int32))] (.int (0 : Int32)) := Arv.set Ar137 q137 S137 Nn137 H137 G137 rfl W138 4 rfl (Nat.le_of_ble_eq_true rfl)
    have N138 := Fr.snoc X138 N131 gb104
    have sz138 : n0 ≤ h138.size := Nat.le_trans sz131 (Keep.of_wr W138).1
    obtain ⟨cl144, Ar144, q144, S144, Nn144, H144, G144⟩ := id V138
    have hin144 : ¬ ((5 : Int32) < 0 ∨ cl144.slots.size ≤ ((5 : Int32)).toNatClampNeg) := inb_of S144 ⟨by decide, by decide⟩
    obtain ⟨T145, h145, X145, e145, W145, st145⟩ := stI X138 hx hZ e138 Ar144 (j := (5 : Int32)) hin144 (g := (mkF m 59 #[.val (.int p1), .val (.int p2), .val (.int p3), .val (.int (0 : Int32)), .val (.ref w0), .unset, .unset, .unset, .unset, .unset, .unset, .unset, .unset, .unset] [(.int (65536 : Int32)), (.int (5 : Int32)), (.ref b104), (.ref b104)])) rfl rfl (hb hby at_59)
    have f146 := f139.wr W145
    have f147 := f140.wr W145
    have f148 := f141.wr W145
    have f149 := f142.wr W145
    have f150 := f143.wr W145
    have V145 : Arv Z h145 b104 k104 .int (9 : Int32) [(.int (0 : Int32)), (.int (32 : Int32)), (.int (55296 : Int32)), (.int (57344 : Int32)), (.int (65534 : Int32)), (.int (65536 : Int32)), (.int (0 : Int32)), (.int (0 : Int32)), (.int (0 : Int32))] (.int (0 : Int32)) := Arv.set Ar144 q144 S144 Nn144 H144 G144 rfl W145 5 rfl (Nat.le_of_ble_eq_true rfl)
    have N145 := Fr.snoc X145 N138 gb104
    have sz145 : n0 ≤ h145.size := Nat.le_trans sz138 (Keep.of_wr W145).1
    obtain ⟨cl151, Ar151, q151, S151, Nn151, H151, G151⟩ := id V145
    have hin151 : ¬ ((6 : Int32) < 0 ∨ cl151.slots.size ≤ ((6 : Int32)).toNatClampNeg) := inb_of S151 ⟨by decide, by decide⟩
    obtain ⟨T152, h152, X152, e152, W152, st152⟩ := stI X145 hx hZ e145 Ar151 (j := (6 : Int32)) hin151 (g := (mkF m 65 #[.val (.int p1), .val (.int p2), .val (.int p3), .val (.int (0 : Int32)), .val (.ref w0), .unset, .unset, .unset, .unset, .unset, .unset, .unset, .unset, .unset] [(.int (1114112 : Int32)), (.int (6 : Int32)), (.ref b104), (.ref b104)])) rfl rfl (hb hby at_65)
    have f153 := f146.wr W152
    have f154 := f147.wr W152
    have f155 := f148.wr W152
    have f156 := f149.wr W152
    have f157 := f150.wr W152
    have V152 : Arv Z h152 b104 k104 .int (9 : Int32) [(.int (0 : Int32)), (.int (32 : Int32)), (.int (55296 : Int32)), (.int (57344 : Int32)), (.int (65534 : Int32)), (.int (65536 : Int32)), (.int (1114112 : Int32)), (.int (0 : Int32)), (.int (0 : Int32))] (.int (0 : Int32)) := Arv.set Ar151 q151 S151 Nn151 H151 G151 rfl W152 6 rfl (Nat.le_of_ble_eq_true rfl)
    have N152 := Fr.snoc X152 N145 gb104
    have sz152 : n0 ≤ h152.size := Nat.le_trans sz145 (Keep.of_wr W152).1
    obtain ⟨cl158, Ar158, q158, S158, Nn158, H158, G158⟩ := id V152
    have hin158 : ¬ ((7 : Int32) < 0 ∨ cl158.slots.size ≤ ((7 : Int32)).toNatClampNeg) := inb_of S158 ⟨by decide, by decide⟩
    obtain ⟨T159, h159, X159, e159, W159, st159⟩ := stI X152 hx hZ e152 Ar158 (j := (7 : Int32)) hin158 (g := (mkF m 71 #[.val (.int p1), .val (.int p2), .val (.int p3), .val (.int (0 : Int32)), .val (.ref w0), .unset, .unset, .unset, .unset, .unset, .unset, .unset, .unset, .unset] [(.int (9 : Int32)), (.int (7 : Int32)), (.ref b104), (.ref b104)])) rfl rfl (hb hby at_71)
    have f160 := f153.wr W159
    have f161 := f154.wr W159
    have f162 := f155.wr W159
    have f163 := f156.wr W159
    have f164 := f157.wr W159
    have V159 : Arv Z h159 b104 k104 .int (9 : Int32) [(.int (0 : Int32)), (.int (32 : Int32)), (.int (55296 : Int32)), (.int (57344 : Int32)), (.int (65534 : Int32)), (.int (65536 : Int32)), (.int (1114112 : Int32)), (.int (9 : Int32)), (.int (0 : Int32))] (.int (0 : Int32)) := Arv.set Ar158 q158 S158 Nn158 H158 G158 rfl W159 7 rfl (Nat.le_of_ble_eq_true rfl)
    have N159 := Fr.snoc X159 N152 gb104
    have sz159 : n0 ≤ h159.size := Nat.le_trans sz152 (Keep.of_wr W159).1
    obtain ⟨cl165, Ar165, q165, S165, Nn165, H165, G165⟩ := id V159
    have hin165 : ¬ ((8 : Int32) < 0 ∨ cl165.slots.size ≤ ((8 : Int32)).toNatClampNeg) := inb_of S165 ⟨by decide, by decide⟩
    obtain ⟨T166, h166, X166, e166, W166, st166⟩ := stI X159 hx hZ e159 Ar165 (j := (8 : Int32)) hin165 (g := (mkF m 77 #[.val (.int p1), .val (.int p2), .val (.int p3), .val (.int (0 : Int32)), .val (.ref w0), .unset, .unset, .unset, .unset, .unset, .unset, .unset, .unset, .unset] [(.int (13 : Int32)), (.int (8 : Int32)), (.ref b104), (.ref b104)])) rfl rfl (hb hby at_77)
    have f167 := f160.wr W166
    have f168 := f161.wr W166
    have f169 := f162.wr W166
    have f170 := f163.wr W166
    have f171 := f164.wr W166
    have V166 : Arv Z h166 b104 k104 .int (9 : Int32) [(.int (0 : Int32)), (.int (32 : Int32)), (.int (55296 : Int32)), (.int (57344 : Int32)), (.int (65534 : Int32)), (.int (65536 : Int32)), (.int (1114112 : Int32)), (.int (9 : Int32)), (.int (13 : Int32))] (.int (0 : Int32)) := Arv.set Ar165 q165 S165 Nn165 H165 G165 rfl W166 8 rfl (Nat.le_of_ble_eq_true rfl)
    have N166 := Fr.snoc X166 N159 gb104
    have sz166 : n0 ≤ h166.size := Nat.le_trans sz159 (Keep.of_wr W166).1
    have P172 : ∀ t, Steps p.tables e below (T166.setTop (mkF m 89 #[.val (.int p1), .val (.int p2), .val (.int p3), .val (.int (0 : Int32)), .val (.ref w0), .val (.ref b104), .val (.int ((p2 &&& (2147483647 : Int32)) - ((p2 &&& (2147483647 : Int32)) / (10 : Int32)) * (10 : Int32))), .unset, .unset, .unset, .unset, .unset, .unset, .unset] [])) t → Steps p.tables e below (s₁.setTop (entryFrame m #[(.int p1), (.int p2), (.int p3)] maxLocals)) t := fun t kt => P101 t (by
      show Steps p.tables e below (s₁.setTop (mkF m 3 #[.val (.int p1), .val (.int p2), .val (.int p3), .unset, .unset, .unset, .unset, .unset, .unset, .unset, .unset, .unset, .unset, .unset] [(.int (p3 &&& (1 : Int32)))])) _
      refine XS.ifYes X0.here hx rfl (pc0 := 3) (pc' := 10) rfl (hb hby at_3) rfl ((if0 _ _).trans (teq hc3_102).1) (by decide) (by decide) ?_
      show Steps p.tables e below (s₁.setTop (mkF m 10 #[.val (.int p1), .val (.int p2), .val (.int p3), .unset, .unset, .unset, .unset, .unset, .unset, .unset, .unset, .unset, .unset, .unset] [])) _
      refine XS.iconst X0.here hx rfl (hb hby at_10) ?_
      show Steps p.tables e below (s₁.setTop (mkF m 11 #[.val (.int p1), .val (.int p2), .val (.int p3), .unset, .unset, .unset, .unset, .unset, .unset, .unset, .unset, .unset, .unset, .unset] [(.int (0 : Int32))])) _
      refine XS.istoreN X0.here hx rfl (hb hby at_11) rfl (l' := #[.val (.int p1), .val (.int p2), .val (.int p3), .val (.int (0 : Int32)), .unset, .unset, .unset, .unset, .unset, .unset, .unset, .unset, .unset, .unset]) rfl ?_
      show Steps p.tables e below (s₁.setTop (mkF m 12 #[.val (.int p1), .val (.int p2), .val (.int p3), .val (.int (0 : Int32)), .unset, .unset, .unset, .unset, .unset, .unset, .unset, .unset, .unset, .unset] [])) _
      refine XS.iloadN X0.here hx rfl (hb hby at_12) rfl ?_
      show Steps p.tables e below (s₁.setTop (mkF m 13 #[.val (.int p1), .val (.int p2), .val (.int p3), .val (.int (0 : Int32)), .unset, .unset, .unset, .unset, .unset, .unset, .unset, .unset, .unset, .unset] [(.int (0 : Int32))])) _
      refine XS.ifYes X0.here hx rfl (pc0 := 13) (pc' := 22) rfl (hb hby at_13) rfl ((if0 _ _).trans (teq ((by decide) : (0 : Int32) = (0 : Int32))).1) (by decide) (by decide) ?_
      show Steps p.tables e below (s₁.setTop (mkF m 22 #[.val (.int p1), .val (.int p2), .val (.int p3), .val (.int (0 : Int32)), .unset, .unset, .unset, .unset, .unset, .unset, .unset, .unset, .unset, .unset] [])) _
      refine st103 _ ?_
      show Steps p.tables e below (T103.setTop (mkF m 25 #[.val (.int p1), .val (.int p2), .val (.int p3), .val (.int (0 : Int32)), .unset, .unset, .unset, .unset, .unset, .unset, .unset, .unset, .unset, .unset] [(.ref w0)])) _
      refine XS.astore X103.here hx rfl (hb hby at_25) rfl rfl (l' := #[.val (.int p1), .val (.int p2), .val (.int p3), .val (.int (0 : Int32)), .val (.ref w0), .unset, .unset, .unset, .unset, .unset, .unset, .unset, .unset, .unset]) rfl ?_
      show Steps p.tables e below (T103.setTop (mkF m 27 #[.val (.int p1), .val (.int p2), .val (.int p3), .val (.int (0 : Int32)), .val (.ref w0), .unset, .unset, .unset, .unset, .unset, .unset, .unset, .unset, .unset] [])) _
      refine XS.bipush X103.here hx rfl (hb hby at_27) ?_
      show Steps p.tables e below (T103.setTop (mkF m 29 #[.val (.int p1), .val (.int p2), .val (.int p3), .val (.int (0 : Int32)), .val (.ref w0), .unset, .unset, .unset, .unset, .unset, .unset, .unset, .unset, .unset] [(.int (9 : Int32))])) _
      refine st104 _ ?_
      show Steps p.tables e below (T104.setTop (mkF m 31 #[.val (.int p1), .val (.int p2), .val (.int p3), .val (.int (0 : Int32)), .val (.ref w0), .unset, .unset, .unset, .unset, .unset, .unset, .unset, .unset, .unset] [(.ref b104)])) _
      refine XS.dup X104.here hx rfl (hb hby at_31) rfl rfl ?_
      show Steps p.tables e below (T104.setTop (mkF m 32 #[.val (.int p1), .val (.int p2), .val (.int p3), .val (.int (0 : Int32)), .val (.ref w0), .unset, .unset, .unset, .unset, .unset, .unset, .unset, .unset, .unset] [(.ref b104), (.ref b104)])) _
      refine XS.iconst X104.here hx rfl (hb hby at_32) ?_
      show Steps p.tables e below (T104.setTop (mkF m 33 #[.val (.int p1), .val (.int p2), .val (.int p3), .val (.int (0 : Int32)), .val (.ref w0), .unset, .unset, .unset, .unset, .unset, .unset, .unset, .unset, .unset] [(.int (0 : Int32)), (.ref b104), (.ref b104)])) _
      refine XS.iconst X104.here hx rfl (hb hby at_33) ?_
      show Steps p.tables e below (T104.setTop (mkF m 34 #[.val (.int p1), .val (.int p2), .val (.int p3), .val (.int (0 : Int32)), .val (.ref w0), .unset, .unset, .unset, .unset, .unset, .unset, .unset, .unset, .unset] [(.int (0 : Int32)), (.int (0 : Int32)), (.ref b104), (.ref b104)])) _
      refine st110 _ ?_
      show Steps p.tables e below (T110.setTop (mkF m 35 #[.val (.int p1), .val (.int p2), .val (.int p3), .val (.int (0 : Int32)), .val (.ref w0), .unset, .unset, .unset, .unset, .unset, .unset, .unset, .unset, .unset] [(.ref b104)])) _
      refine XS.dup X110.here hx rfl (hb hby at_35) rfl rfl ?_
      show Steps p.tables e below (T110.setTop (mkF m 36 #[.val (.int p1), .val (.int p2), .val (.int p3), .val (.int (0 : Int32)), .val (.ref w0), .unset, .unset, .unset, .unset, .unset, .unset, .unset, .unset, .unset] [(.ref b104), (.ref b104)])) _
      refine XS.iconst X110.here hx rfl (hb hby at_36) ?_
      show Steps p.tables e below (T110.setTop (mkF m 37 #[.val (.int p1), .val (.int p2), .val (.int p3), .val (.int (0 : Int32)), .val (.ref w0), .unset, .unset, .unset, .unset, .unset, .unset, .unset, .unset, .unset] [(.int (1 : Int32)), (.ref b104), (.ref b104)])) _
      refine XS.bipush X110.here hx rfl (hb hby at_37) ?_
      show Steps p.tables e below (T110.setTop (mkF m 39 #[.val (.int p1), .val (.int p2), .val (.int p3), .val (.int (0 : Int32)), .val (.ref w0), .unset, .unset, .unset, .unset, .unset, .unset, .unset, .unset, .unset] [(.int (32 : Int32)), (.int (1 : Int32)), (.ref b104), (.ref b104)])) _
      refine st117 _ ?_
      show Steps p.tables e below (T117.setTop (mkF m 40 #[.val (.int p1), .val (.int p2), .val (.int p3), .val (.int (0 : Int32)), .val (.ref w0), .unset, .unset, .unset, .unset, .unset, .unset, .unset, .unset, .unset] [(.ref b104)])) _
      refine XS.dup X117.here hx rfl (hb hby at_40) rfl rfl ?_
      show Steps p.tables e below (T117.setTop (mkF m 41 #[.val (.int p1), .val (.int p2), .val (.int p3), .val (.int (0 : Int32)), .val (.ref w0), .unset, .unset, .unset, .unset, .unset, .unset, .unset, .unset, .unset] [(.ref b104), (.ref b104)])) _
      refine XS.iconst X117.here hx rfl (hb hby at_41) ?_
      show Steps p.tables e below (T117.setTop (mkF m 42 #[.val (.int p1), .val (.int p2), .val (.int p3), .val (.int (0 : Int32)), .val (.ref w0), .unset, .unset, .unset, .unset, .unset, .unset, .unset, .unset, .unset] [(.int (2 : Int32)), (.ref b104), (.ref b104)])) _
      refine X117.ldcInt hx hown (mvT hZ (hw _ (List.mem_of_getElem? (i := 4) rfl))) (g := (mkF m 42 #[.val (.int p1), .val (.int p2), .val (.int p3), .val (.int (0 : Int32)), .val (.ref w0), .unset, .unset, .unset, .unset, .unset, .unset, .unset, .unset, .unset] [(.int (2 : Int32)), (.ref b104), (.ref b104)])) rfl (hb hby at_42) _ ?_
      show Steps p.tables e below (T117.setTop (mkF m 44 #[.val (.int p1), .val (.int p2), .val (.int p3), .val (.int (0 : Int32)), .val (.ref w0), .unset, .unset, .unset, .unset, .unset, .unset, .unset, .unset, .unset] [(.int (55296 : Int32)), (.int (2 : Int32)), (.ref b104), (.ref b104)])) _
      refine st124 _ ?_
      show Steps p.tables e below (T124.setTop (mkF m 45 #[.val (.int p1), .val (.int p2), .val (.int p3), .val (.int (0 : Int32)), .val (.ref w0), .unset, .unset, .unset, .unset, .unset, .unset, .unset, .unset, .unset] [(.ref b104)])) _
      refine XS.dup X124.here hx rfl (hb hby at_45) rfl rfl ?_
      show Steps p.tables e below (T124.setTop (mkF m 46 #[.val (.int p1), .val (.int p2), .val (.int p3), .val (.int (0 : Int32)), .val (.ref w0), .unset, .unset, .unset, .unset, .unset, .unset, .unset, .unset, .unset] [(.ref b104), (.ref b104)])) _
      refine XS.iconst X124.here hx rfl (hb hby at_46) ?_
      show Steps p.tables e below (T124.setTop (mkF m 47 #[.val (.int p1), .val (.int p2), .val (.int p3), .val (.int (0 : Int32)), .val (.ref w0), .unset, .unset, .unset, .unset, .unset, .unset, .unset, .unset, .unset] [(.int (3 : Int32)), (.ref b104), (.ref b104)])) _
      refine X124.ldcInt hx hown (mvT hZ (hw _ (List.mem_of_getElem? (i := 5) rfl))) (g := (mkF m 47 #[.val (.int p1), .val (.int p2), .val (.int p3), .val (.int (0 : Int32)), .val (.ref w0), .unset, .unset, .unset, .unset, .unset, .unset, .unset, .unset, .unset] [(.int (3 : Int32)), (.ref b104), (.ref b104)])) rfl (hb hby at_47) _ ?_
      show Steps p.tables e below (T124.setTop (mkF m 49 #[.val (.int p1), .val (.int p2), .val (.int p3), .val (.int (0 : Int32)), .val (.ref w0), .unset, .unset, .unset, .unset, .unset, .unset, .unset, .unset, .unset] [(.int (57344 : Int32)), (.int (3 : Int32)), (.ref b104), (.ref b104)])) _
      refine st131 _ ?_
      show Steps p.tables e below (T131.setTop (mkF m 50 #[.val (.int p1), .val (.int p2), .val (.int p3), .val (.int (0 : Int32)), .val (.ref w0), .unset, .unset, .unset, .unset, .unset, .unset, .unset, .unset, .unset] [(.ref b104)])) _
      refine XS.dup X131.here hx rfl (hb hby at_50) rfl rfl ?_
      show Steps p.tables e below (T131.setTop (mkF m 51 #[.val (.int p1), .val (.int p2), .val (.int p3), .val (.int (0 : Int32)), .val (.ref w0), .unset, .unset, .unset, .unset, .unset, .unset, .unset, .unset, .unset] [(.ref b104), (.ref b104)])) _
      refine XS.iconst X131.here hx rfl (hb hby at_51) ?_
      show Steps p.tables e below (T131.setTop (mkF m 52 #[.val (.int p1), .val (.int p2), .val (.int p3), .val (.int (0 : Int32)), .val (.ref w0), .unset, .unset, .unset, .unset, .unset, .unset, .unset, .unset, .unset] [(.int (4 : Int32)), (.ref b104), (.ref b104)])) _
      refine X131.ldcInt hx hown (mvT hZ (hw _ (List.mem_of_getElem? (i := 6) rfl))) (g := (mkF m 52 #[.val (.int p1), .val (.int p2), .val (.int p3), .val (.int (0 : Int32)), .val (.ref w0), .unset, .unset, .unset, .unset, .unset, .unset, .unset, .unset, .unset] [(.int (4 : Int32)), (.ref b104), (.ref b104)])) rfl (hb hby at_52) _ ?_
      show Steps p.tables e below (T131.setTop (mkF m 54 #[.val (.int p1), .val (.int p2), .val (.int p3), .val (.int (0 : Int32)), .val (.ref w0), .unset, .unset, .unset, .unset, .unset, .unset, .unset, .unset, .unset] [(.int (65534 : Int32)), (.int (4 : Int32)), (.ref b104), (.ref b104)])) _
      refine st138 _ ?_
      show Steps p.tables e below (T138.setTop (mkF m 55 #[.val (.int p1), .val (.int p2), .val (.int p3), .val (.int (0 : Int32)), .val (.ref w0), .unset, .unset, .unset, .unset, .unset, .unset, .unset, .unset, .unset] [(.ref b104)])) _
      refine XS.dup X138.here hx rfl (hb hby at_55) rfl rfl ?_
      show Steps p.tables e below (T138.setTop (mkF m 56 #[.val (.int p1), .val (.int p2), .val (.int p3), .val (.int (0 : Int32)), .val (.ref w0), .unset, .unset, .unset, .unset, .unset, .unset, .unset, .unset, .unset] [(.ref b104), (.ref b104)])) _
      refine XS.iconst X138.here hx rfl (hb hby at_56) ?_
      show Steps p.tables e below (T138.setTop (mkF m 57 #[.val (.int p1), .val (.int p2), .val (.int p3), .val (.int (0 : Int32)), .val (.ref w0), .unset, .unset, .unset, .unset, .unset, .unset, .unset, .unset, .unset] [(.int (5 : Int32)), (.ref b104), (.ref b104)])) _
      refine X138.ldcInt hx hown (mvT hZ (hw _ (List.mem_of_getElem? (i := 7) rfl))) (g := (mkF m 57 #[.val (.int p1), .val (.int p2), .val (.int p3), .val (.int (0 : Int32)), .val (.ref w0), .unset, .unset, .unset, .unset, .unset, .unset, .unset, .unset, .unset] [(.int (5 : Int32)), (.ref b104), (.ref b104)])) rfl (hb hby at_57) _ ?_
      show Steps p.tables e below (T138.setTop (mkF m 59 #[.val (.int p1), .val (.int p2), .val (.int p3), .val (.int (0 : Int32)), .val (.ref w0), .unset, .unset, .unset, .unset, .unset, .unset, .unset, .unset, .unset] [(.int (65536 : Int32)), (.int (5 : Int32)), (.ref b104), (.ref b104)])) _
      refine st145 _ ?_
      show Steps p.tables e below (T145.setTop (mkF m 60 #[.val (.int p1), .val (.int p2), .val (.int p3), .val (.int (0 : Int32)), .val (.ref w0), .unset, .unset, .unset, .unset, .unset, .unset, .unset, .unset, .unset] [(.ref b104)])) _
      refine XS.dup X145.here hx rfl (hb hby at_60) rfl rfl ?_
      show Steps p.tables e below (T145.setTop (mkF m 61 #[.val (.int p1), .val (.int p2), .val (.int p3), .val (.int (0 : Int32)), .val (.ref w0), .unset, .unset, .unset, .unset, .unset, .unset, .unset, .unset, .unset] [(.ref b104), (.ref b104)])) _
      refine XS.bipush X145.here hx rfl (hb hby at_61) ?_
      show Steps p.tables e below (T145.setTop (mkF m 63 #[.val (.int p1), .val (.int p2), .val (.int p3), .val (.int (0 : Int32)), .val (.ref w0), .unset, .unset, .unset, .unset, .unset, .unset, .unset, .unset, .unset] [(.int (6 : Int32)), (.ref b104), (.ref b104)])) _
      refine X145.ldcInt hx hown (mvT hZ (hw _ (List.mem_of_getElem? (i := 8) rfl))) (g := (mkF m 63 #[.val (.int p1), .val (.int p2), .val (.int p3), .val (.int (0 : Int32)), .val (.ref w0), .unset, .unset, .unset, .unset, .unset, .unset, .unset, .unset, .unset] [(.int (6 : Int32)), (.ref b104), (.ref b104)])) rfl (hb hby at_63) _ ?_
      show Steps p.tables e below (T145.setTop (mkF m 65 #[.val (.int p1), .val (.int p2), .val (.int p3), .val (.int (0 : Int32)), .val (.ref w0), .unset, .unset, .unset, .unset, .unset, .unset, .unset, .unset, .unset] [(.int (1114112 : Int32)), (.int (6 : Int32)), (.ref b104), (.ref b104)])) _
      refine st152 _ ?_
      show Steps p.tables e below (T152.setTop (mkF m 66 #[.val (.int p1), .val (.int p2), .val (.int p3), .val (.int (0 : Int32)), .val (.ref w0), .unset, .unset, .unset, .unset, .unset, .unset, .unset, .unset, .unset] [(.ref b104)])) _
      refine XS.dup X152.here hx rfl (hb hby at_66) rfl rfl ?_
      show Steps p.tables e below (T152.setTop (mkF m 67 #[.val (.int p1), .val (.int p2), .val (.int p3), .val (.int (0 : Int32)), .val (.ref w0), .unset, .unset, .unset, .unset, .unset, .unset, .unset, .unset, .unset] [(.ref b104), (.ref b104)])) _
      refine XS.bipush X152.here hx rfl (hb hby at_67) ?_
      show Steps p.tables e below (T152.setTop (mkF m 69 #[.val (.int p1), .val (.int p2), .val (.int p3), .val (.int (0 : Int32)), .val (.ref w0), .unset, .unset, .unset, .unset, .unset, .unset, .unset, .unset, .unset] [(.int (7 : Int32)), (.ref b104), (.ref b104)])) _
      refine XS.bipush X152.here hx rfl (hb hby at_69) ?_
      show Steps p.tables e below (T152.setTop (mkF m 71 #[.val (.int p1), .val (.int p2), .val (.int p3), .val (.int (0 : Int32)), .val (.ref w0), .unset, .unset, .unset, .unset, .unset, .unset, .unset, .unset, .unset] [(.int (9 : Int32)), (.int (7 : Int32)), (.ref b104), (.ref b104)])) _
      refine st159 _ ?_
      show Steps p.tables e below (T159.setTop (mkF m 72 #[.val (.int p1), .val (.int p2), .val (.int p3), .val (.int (0 : Int32)), .val (.ref w0), .unset, .unset, .unset, .unset, .unset, .unset, .unset, .unset, .unset] [(.ref b104)])) _
      refine XS.dup X159.here hx rfl (hb hby at_72) rfl rfl ?_
      show Steps p.tables e below (T159.setTop (mkF m 73 #[.val (.int p1), .val (.int p2), .val (.int p3), .val (.int (0 : Int32)), .val (.ref w0), .unset, .unset, .unset, .unset, .unset, .unset, .unset, .unset, .unset] [(.ref b104), (.ref b104)])) _
      refine XS.bipush X159.here hx rfl (hb hby at_73) ?_
      show Steps p.tables e below (T159.setTop (mkF m 75 #[.val (.int p1), .val (.int p2), .val (.int p3), .val (.int (0 : Int32)), .val (.ref w0), .unset, .unset, .unset, .unset, .unset, .unset, .unset, .unset, .unset] [(.int (8 : Int32)), (.ref b104), (.ref b104)])) _
      refine XS.bipush X159.here hx rfl (hb hby at_75) ?_
      show Steps p.tables e below (T159.setTop (mkF m 77 #[.val (.int p1), .val (.int p2), .val (.int p3), .val (.int (0 : Int32)), .val (.ref w0), .unset, .unset, .unset, .unset, .unset, .unset, .unset, .unset, .unset] [(.int (13 : Int32)), (.int (8 : Int32)), (.ref b104), (.ref b104)])) _
      refine st166 _ ?_
      show Steps p.tables e below (T166.setTop (mkF m 78 #[.val (.int p1), .val (.int p2), .val (.int p3), .val (.int (0 : Int32)), .val (.ref w0), .unset, .unset, .unset, .unset, .unset, .unset, .unset, .unset, .unset] [(.ref b104)])) _
      refine XS.astore X166.here hx rfl (hb hby at_78) rfl rfl (l' := #[.val (.int p1), .val (.int p2), .val (.int p3), .val (.int (0 : Int32)), .val (.ref w0), .val (.ref b104), .unset, .unset, .unset, .unset, .unset, .unset, .unset, .unset]) rfl ?_
      show Steps p.tables e below (T166.setTop (mkF m 80 #[.val (.int p1), .val (.int p2), .val (.int p3), .val (.int (0 : Int32)), .val (.ref w0), .val (.ref b104), .unset, .unset, .unset, .unset, .unset, .unset, .unset, .unset] [])) _
      refine XS.iloadN X166.here hx rfl (hb hby at_80) rfl ?_
      show Steps p.tables e below (T166.setTop (mkF m 81 #[.val (.int p1), .val (.int p2), .val (.int p3), .val (.int (0 : Int32)), .val (.ref w0), .val (.ref b104), .unset, .unset, .unset, .unset, .unset, .unset, .unset, .unset] [(.int p2)])) _
      refine X166.ldcInt hx hown (mvT hZ (hw _ (List.mem_of_getElem? (i := 9) rfl))) (g := (mkF m 81 #[.val (.int p1), .val (.int p2), .val (.int p3), .val (.int (0 : Int32)), .val (.ref w0), .val (.ref b104), .unset, .unset, .unset, .unset, .unset, .unset, .unset, .unset] [(.int p2)])) rfl (hb hby at_81) _ ?_
      show Steps p.tables e below (T166.setTop (mkF m 83 #[.val (.int p1), .val (.int p2), .val (.int p3), .val (.int (0 : Int32)), .val (.ref w0), .val (.ref b104), .unset, .unset, .unset, .unset, .unset, .unset, .unset, .unset] [(.int (2147483647 : Int32)), (.int p2)])) _
      refine XS.iand X166.here hx rfl (hb hby at_83) rfl ?_
      show Steps p.tables e below (T166.setTop (mkF m 84 #[.val (.int p1), .val (.int p2), .val (.int p3), .val (.int (0 : Int32)), .val (.ref w0), .val (.ref b104), .unset, .unset, .unset, .unset, .unset, .unset, .unset, .unset] [(.int (p2 &&& (2147483647 : Int32)))])) _
      refine XS.bipush X166.here hx rfl (hb hby at_84) ?_
      show Steps p.tables e below (T166.setTop (mkF m 86 #[.val (.int p1), .val (.int p2), .val (.int p3), .val (.int (0 : Int32)), .val (.ref w0), .val (.ref b104), .unset, .unset, .unset, .unset, .unset, .unset, .unset, .unset] [(.int (10 : Int32)), (.int (p2 &&& (2147483647 : Int32)))])) _
      refine XS.irem X166.here hx rfl (hb hby at_86) rfl (by decide) ?_
      show Steps p.tables e below (T166.setTop (mkF m 87 #[.val (.int p1), .val (.int p2), .val (.int p3), .val (.int (0 : Int32)), .val (.ref w0), .val (.ref b104), .unset, .unset, .unset, .unset, .unset, .unset, .unset, .unset] [(.int ((p2 &&& (2147483647 : Int32)) - ((p2 &&& (2147483647 : Int32)) / (10 : Int32)) * (10 : Int32)))])) _
      refine XS.istore X166.here hx rfl (hb hby at_87) rfl (l' := #[.val (.int p1), .val (.int p2), .val (.int p3), .val (.int (0 : Int32)), .val (.ref w0), .val (.ref b104), .val (.int ((p2 &&& (2147483647 : Int32)) - ((p2 &&& (2147483647 : Int32)) / (10 : Int32)) * (10 : Int32))), .unset, .unset, .unset, .unset, .unset, .unset, .unset]) rfl ?_
      exact kt)
    obtain ⟨r, hr⟩ : ∃ z : Int32, z = ((p2 &&& (2147483647 : Int32)) - ((p2 &&& (2147483647 : Int32)) / (10 : Int32)) * (10 : Int32)) := ⟨_, rfl⟩
    rw [← hr] at P172
    obtain ⟨clR, ArR, qR, SR, NnR, HR, GR⟩ := V166
    obtain ⟨ww, hww⟩ := own_at (Z := Z) (h := h166) (a := 0) HR GR SR r
    have P173 : ∀ t, Steps p.tables e below (T166.setTop (mkF m 93 #[.val (.int p1), .val (.int p2), .val (.int p3), .val (.int (0 : Int32)), .val (.ref w0), .val (.ref b104), .val (.int r), .unset, .unset, .unset, .unset, .unset, .unset, .unset] [(.int (9 : Int32)), (.int r)])) t → Steps p.tables e below (s₁.setTop (entryFrame m #[(.int p1), (.int p2), (.int p3)] maxLocals)) t := fun t kt => P172 t (by
      show Steps p.tables e below (T166.setTop (mkF m 89 #[.val (.int p1), .val (.int p2), .val (.int p3), .val (.int (0 : Int32)), .val (.ref w0), .val (.ref b104), .val (.int r), .unset, .unset, .unset, .unset, .unset, .unset, .unset] [])) _
      refine XS.iload X166.here hx rfl (hb hby at_89) rfl ?_
      show Steps p.tables e below (T166.setTop (mkF m 91 #[.val (.int p1), .val (.int p2), .val (.int p3), .val (.int (0 : Int32)), .val (.ref w0), .val (.ref b104), .val (.int r), .unset, .unset, .unset, .unset, .unset, .unset, .unset] [(.int r)])) _
      refine XS.bipush X166.here hx rfl (hb hby at_91) ?_
      exact kt)
    obtain ⟨cc, hcc⟩ : ∃ z : Int32, z = (if r = (9 : Int32) then p1 else (ww + (p1 - (p1 / (4 : Int32)) * (4 : Int32)))) := ⟨_, rfl⟩
    have J174 : ∀ t, Steps p.tables e below (T166.setTop (mkF m 109 #[.val (.int p1), .val (.int p2), .val (.int p3), .val (.int (0 : Int32)), .val (.ref w0), .val (.ref b104), .val (.int r), .unset, .unset, .unset, .unset, .unset, .unset, .unset] [(.int cc)])) t → Steps p.tables e below (T166.setTop (mkF m 93 #[.val (.int p1), .val (.int p2), .val (.int p3), .val (.int (0 : Int32)), .val (.ref w0), .val (.ref b104), .val (.int r), .unset, .unset, .unset, .unset, .unset, .unset, .unset] [(.int (9 : Int32)), (.int r)])) t := by
      intro t kt
      by_cases hr174_93_0 : r = (9 : Int32)
      · have evcc : cc = p1 := by rw [hcc, if_pos hr174_93_0]
        rw [evcc] at kt
        show Steps p.tables e below (T166.setTop (mkF m 93 #[.val (.int p1), .val (.int p2), .val (.int p3), .val (.int (0 : Int32)), .val (.ref w0), .val (.ref b104), .val (.int r), .unset, .unset, .unset, .unset, .unset, .unset, .unset] [(.int (9 : Int32)), (.int r)])) _
        refine XS.icmpNo X166.here hx rfl (hb hby at_93) rfl (teq hr174_93_0).2 ?_
        show Steps p.tables e below (T166.setTop (mkF m 96 #[.val (.int p1), .val (.int p2), .val (.int p3), .val (.int (0 : Int32)), .val (.ref w0), .val (.ref b104), .val (.int r), .unset, .unset, .unset, .unset, .unset, .unset, .unset] [])) _
        refine XS.iloadN X166.here hx rfl (hb hby at_96) rfl ?_
        show Steps p.tables e below (T166.setTop (mkF m 97 #[.val (.int p1), .val (.int p2), .val (.int p3), .val (.int (0 : Int32)), .val (.ref w0), .val (.ref b104), .val (.int r), .unset, .unset, .unset, .unset, .unset, .unset, .unset] [(.int p1)])) _
        refine XS.goto X166.here hx rfl (pc0 := 97) (pc' := 109) rfl (hb hby at_97) (by decide) (by decide) ?_
        exact kt
      · have evcc : cc = (ww + (p1 - (p1 / (4 : Int32)) * (4 : Int32))) := by rw [hcc, if_neg hr174_93_0]
        rw [evcc] at kt
        show Steps p.tables e below (T166.setTop (mkF m 93 #[.val (.int p1), .val (.int p2), .val (.int p3), .val (.int (0 : Int32)), .val (.ref w0), .val (.ref b104), .val (.int r), .unset, .unset, .unset, .unset, .unset, .unset, .unset] [(.int (9 : Int32)), (.int r)])) _
        refine XS.icmpYes X166.here hx rfl (pc0 := 93) (pc' := 100) rfl (hb hby at_93) rfl (feq hr174_93_0).2 (by decide) (by decide) ?_
        show Steps p.tables e below (T166.setTop (mkF m 100 #[.val (.int p1), .val (.int p2), .val (.int p3), .val (.int (0 : Int32)), .val (.ref w0), .val (.ref b104), .val (.int r), .unset, .unset, .unset, .unset, .unset, .unset, .unset] [])) _
        refine XS.aload X166.here hx rfl (hb hby at_100) rfl rfl ?_
        show Steps p.tables e below (T166.setTop (mkF m 102 #[.val (.int p1), .val (.int p2), .val (.int p3), .val (.int (0 : Int32)), .val (.ref w0), .val (.ref b104), .val (.int r), .unset, .unset, .unset, .unset, .unset, .unset, .unset] [(.ref b104)])) _
        refine XS.iload X166.here hx rfl (hb hby at_102) rfl ?_
        show Steps p.tables e below (T166.setTop (mkF m 104 #[.val (.int p1), .val (.int p2), .val (.int p3), .val (.int (0 : Int32)), .val (.ref w0), .val (.ref b104), .val (.int r), .unset, .unset, .unset, .unset, .unset, .unset, .unset] [(.int r), (.ref b104)])) _
        refine X166.iaload hx (j := r) (v := (.int ww)) (by rw [e166]; exact ArR.1) (State.isArrayOf_alike hZ.alike ArR.2.1) ArR.2.2 (inb_of SR (own_r10 r p2 hr hr174_93_0)) (hww (own_r10 r p2 hr hr174_93_0)) (g := (mkF m 104 #[.val (.int p1), .val (.int p2), .val (.int p3), .val (.int (0 : Int32)), .val (.ref w0), .val (.ref b104), .val (.int r), .unset, .unset, .unset, .unset, .unset, .unset, .unset] [(.int r), (.ref b104)])) rfl rfl (hb hby at_104) _ ?_
        show Steps p.tables e below (T166.setTop (mkF m 105 #[.val (.int p1), .val (.int p2), .val (.int p3), .val (.int (0 : Int32)), .val (.ref w0), .val (.ref b104), .val (.int r), .unset, .unset, .unset, .unset, .unset, .unset, .unset] [(.int ww)])) _
        refine XS.iloadN X166.here hx rfl (hb hby at_105) rfl ?_
        show Steps p.tables e below (T166.setTop (mkF m 106 #[.val (.int p1), .val (.int p2), .val (.int p3), .val (.int (0 : Int32)), .val (.ref w0), .val (.ref b104), .val (.int r), .unset, .unset, .unset, .unset, .unset, .unset, .unset] [(.int p1), (.int ww)])) _
        refine XS.iconst X166.here hx rfl (hb hby at_106) ?_
        show Steps p.tables e below (T166.setTop (mkF m 107 #[.val (.int p1), .val (.int p2), .val (.int p3), .val (.int (0 : Int32)), .val (.ref w0), .val (.ref b104), .val (.int r), .unset, .unset, .unset, .unset, .unset, .unset, .unset] [(.int (4 : Int32)), (.int p1), (.int ww)])) _
        refine XS.irem X166.here hx rfl (hb hby at_107) rfl (by decide) ?_
        show Steps p.tables e below (T166.setTop (mkF m 108 #[.val (.int p1), .val (.int p2), .val (.int p3), .val (.int (0 : Int32)), .val (.ref w0), .val (.ref b104), .val (.int r), .unset, .unset, .unset, .unset, .unset, .unset, .unset] [(.int (p1 - (p1 / (4 : Int32)) * (4 : Int32))), (.int ww)])) _
        refine XS.iadd X166.here hx rfl (hb hby at_108) rfl ?_
        exact kt
    have P175 : ∀ t, Steps p.tables e below (T166.setTop (mkF m 109 #[.val (.int p1), .val (.int p2), .val (.int p3), .val (.int (0 : Int32)), .val (.ref w0), .val (.ref b104), .val (.int r), .unset, .unset, .unset, .unset, .unset, .unset, .unset] [(.int cc)])) t → Steps p.tables e below (s₁.setTop (entryFrame m #[(.int p1), (.int p2), (.int p3)] maxLocals)) t := fun t kt => P173 t (J174 t kt)
    have P176 : ∀ t, Steps p.tables e below (T166.setTop (mkF m 113 #[.val (.int p1), .val (.int p2), .val (.int p3), .val (.int (0 : Int32)), .val (.ref w0), .val (.ref b104), .val (.int r), .val (.int cc), .unset, .unset, .unset, .unset, .unset, .unset] [(.int cc)])) t → Steps p.tables e below (s₁.setTop (entryFrame m #[(.int p1), (.int p2), (.int p3)] maxLocals)) t := fun t kt => P175 t (by
      show Steps p.tables e below (T166.setTop (mkF m 109 #[.val (.int p1), .val (.int p2), .val (.int p3), .val (.int (0 : Int32)), .val (.ref w0), .val (.ref b104), .val (.int r), .unset, .unset, .unset, .unset, .unset, .unset, .unset] [(.int cc)])) _
      refine XS.istore X166.here hx rfl (hb hby at_109) rfl (l' := #[.val (.int p1), .val (.int p2), .val (.int p3), .val (.int (0 : Int32)), .val (.ref w0), .val (.ref b104), .val (.int r), .val (.int cc), .unset, .unset, .unset, .unset, .unset, .unset]) rfl ?_
      show Steps p.tables e below (T166.setTop (mkF m 111 #[.val (.int p1), .val (.int p2), .val (.int p3), .val (.int (0 : Int32)), .val (.ref w0), .val (.ref b104), .val (.int r), .val (.int cc), .unset, .unset, .unset, .unset, .unset, .unset] [])) _
      refine XS.iload X166.here hx rfl (hb hby at_111) rfl ?_
      exact kt)
    obtain ⟨ir, hir⟩ : ∃ z : Int32, z = (if cc < (0 : Int32) then (0 : Int32) else (if (1114111 : Int32) < cc then (0 : Int32) else (1 : Int32))) := ⟨_, rfl⟩
    have J177 : ∀ t, Steps p.tables e below (T166.setTop (mkF m 128 #[.val (.int p1), .val (.int p2), .val (.int p3), .val (.int (0 : Int32)), .val (.ref w0), .val (.ref b104), .val (.int r), .val (.int cc), .unset, .unset, .unset, .unset, .unset, .unset] [(.int ir)])) t → Steps p.tables e below (T166.setTop (mkF m 113 #[.val (.int p1), .val (.int p2), .val (.int p3), .val (.int (0 : Int32)), .val (.ref w0), .val (.ref b104), .val (.int r), .val (.int cc), .unset, .unset, .unset, .unset, .unset, .unset] [(.int cc)])) t := by
      intro t kt
      by_cases hr177_113_0 : cc < (0 : Int32)
      · have evir : ir = (0 : Int32) := by rw [hir, if_pos hr177_113_0]
        rw [evir] at kt
        show Steps p.tables e below (T166.setTop (mkF m 113 #[.val (.int p1), .val (.int p2), .val (.int p3), .val (.int (0 : Int32)), .val (.ref w0), .val (.ref b104), .val (.int r), .val (.int cc), .unset, .unset, .unset, .unset, .unset, .unset] [(.int cc)])) _
        refine XS.ifYes X166.here hx rfl (pc0 := 113) (pc' := 127) rfl (hb hby at_113) rfl ((if0 _ _).trans (tlt hr177_113_0).1) (by decide) (by decide) ?_
        show Steps p.tables e below (T166.setTop (mkF m 127 #[.val (.int p1), .val (.int p2), .val (.int p3), .val (.int (0 : Int32)), .val (.ref w0), .val (.ref b104), .val (.int r), .val (.int cc), .unset, .unset, .unset, .unset, .unset, .unset] [])) _
        refine XS.iconst X166.here hx rfl (hb hby at_127) ?_
        exact kt
      · show Steps p.tables e below (T166.setTop (mkF m 113 #[.val (.int p1), .val (.int p2), .val (.int p3), .val (.int (0 : Int32)), .val (.ref w0), .val (.ref b104), .val (.int r), .val (.int cc), .unset, .unset, .unset, .unset, .unset, .unset] [(.int cc)])) _
        refine XS.ifNo X166.here hx rfl (hb hby at_113) rfl ((if0 _ _).trans (flt hr177_113_0).1) ?_
        show Steps p.tables e below (T166.setTop (mkF m 116 #[.val (.int p1), .val (.int p2), .val (.int p3), .val (.int (0 : Int32)), .val (.ref w0), .val (.ref b104), .val (.int r), .val (.int cc), .unset, .unset, .unset, .unset, .unset, .unset] [])) _
        refine XS.iload X166.here hx rfl (hb hby at_116) rfl ?_
        show Steps p.tables e below (T166.setTop (mkF m 118 #[.val (.int p1), .val (.int p2), .val (.int p3), .val (.int (0 : Int32)), .val (.ref w0), .val (.ref b104), .val (.int r), .val (.int cc), .unset, .unset, .unset, .unset, .unset, .unset] [(.int cc)])) _
        refine X166.ldcInt hx hown (mvT hZ (hw _ (List.mem_of_getElem? (i := 10) rfl))) (g := (mkF m 118 #[.val (.int p1), .val (.int p2), .val (.int p3), .val (.int (0 : Int32)), .val (.ref w0), .val (.ref b104), .val (.int r), .val (.int cc), .unset, .unset, .unset, .unset, .unset, .unset] [(.int cc)])) rfl (hb hby at_118) _ ?_
        by_cases hr177_120_1 : (1114111 : Int32) < cc
        · have evir : ir = (0 : Int32) := by rw [hir, if_neg hr177_113_0, if_pos hr177_120_1]
          rw [evir] at kt
          show Steps p.tables e below (T166.setTop (mkF m 120 #[.val (.int p1), .val (.int p2), .val (.int p3), .val (.int (0 : Int32)), .val (.ref w0), .val (.ref b104), .val (.int r), .val (.int cc), .unset, .unset, .unset, .unset, .unset, .unset] [(.int (1114111 : Int32)), (.int cc)])) _
          refine XS.icmpYes X166.here hx rfl (pc0 := 120) (pc' := 127) rfl (hb hby at_120) rfl (tlt hr177_120_1).2.2.1 (by decide) (by decide) ?_
          show Steps p.tables e below (T166.setTop (mkF m 127 #[.val (.int p1), .val (.int p2), .val (.int p3), .val (.int (0 : Int32)), .val (.ref w0), .val (.ref b104), .val (.int r), .val (.int cc), .unset, .unset, .unset, .unset, .unset, .unset] [])) _
          refine XS.iconst X166.here hx rfl (hb hby at_127) ?_
          exact kt
        · have evir : ir = (1 : Int32) := by rw [hir, if_neg hr177_113_0, if_neg hr177_120_1]
          rw [evir] at kt
          show Steps p.tables e below (T166.setTop (mkF m 120 #[.val (.int p1), .val (.int p2), .val (.int p3), .val (.int (0 : Int32)), .val (.ref w0), .val (.ref b104), .val (.int r), .val (.int cc), .unset, .unset, .unset, .unset, .unset, .unset] [(.int (1114111 : Int32)), (.int cc)])) _
          refine XS.icmpNo X166.here hx rfl (hb hby at_120) rfl (flt hr177_120_1).2.2.1 ?_
          show Steps p.tables e below (T166.setTop (mkF m 123 #[.val (.int p1), .val (.int p2), .val (.int p3), .val (.int (0 : Int32)), .val (.ref w0), .val (.ref b104), .val (.int r), .val (.int cc), .unset, .unset, .unset, .unset, .unset, .unset] [])) _
          refine XS.iconst X166.here hx rfl (hb hby at_123) ?_
          show Steps p.tables e below (T166.setTop (mkF m 124 #[.val (.int p1), .val (.int p2), .val (.int p3), .val (.int (0 : Int32)), .val (.ref w0), .val (.ref b104), .val (.int r), .val (.int cc), .unset, .unset, .unset, .unset, .unset, .unset] [(.int (1 : Int32))])) _
          refine XS.goto X166.here hx rfl (pc0 := 124) (pc' := 128) rfl (hb hby at_124) (by decide) (by decide) ?_
          exact kt
    have P178 : ∀ t, Steps p.tables e below (T166.setTop (mkF m 128 #[.val (.int p1), .val (.int p2), .val (.int p3), .val (.int (0 : Int32)), .val (.ref w0), .val (.ref b104), .val (.int r), .val (.int cc), .unset, .unset, .unset, .unset, .unset, .unset] [(.int ir)])) t → Steps p.tables e below (s₁.setTop (entryFrame m #[(.int p1), (.int p2), (.int p3)] maxLocals)) t := fun t kt => P176 t (J177 t kt)
    have P179 : ∀ t, Steps p.tables e below (T166.setTop (mkF m 134 #[.val (.int p1), .val (.int p2), .val (.int p3), .val (.int (0 : Int32)), .val (.ref w0), .val (.ref b104), .val (.int r), .val (.int cc), .val (.int ir), .unset, .unset, .unset, .unset, .unset] [(.int (55296 : Int32)), (.int cc)])) t → Steps p.tables e below (s₁.setTop (entryFrame m #[(.int p1), (.int p2), (.int p3)] maxLocals)) t := fun t kt => P178 t (by
      show Steps p.tables e below (T166.setTop (mkF m 128 #[.val (.int p1), .val (.int p2), .val (.int p3), .val (.int (0 : Int32)), .val (.ref w0), .val (.ref b104), .val (.int r), .val (.int cc), .unset, .unset, .unset, .unset, .unset, .unset] [(.int ir)])) _
      refine XS.istore X166.here hx rfl (hb hby at_128) rfl (l' := #[.val (.int p1), .val (.int p2), .val (.int p3), .val (.int (0 : Int32)), .val (.ref w0), .val (.ref b104), .val (.int r), .val (.int cc), .val (.int ir), .unset, .unset, .unset, .unset, .unset]) rfl ?_
      show Steps p.tables e below (T166.setTop (mkF m 130 #[.val (.int p1), .val (.int p2), .val (.int p3), .val (.int (0 : Int32)), .val (.ref w0), .val (.ref b104), .val (.int r), .val (.int cc), .val (.int ir), .unset, .unset, .unset, .unset, .unset] [])) _
      refine XS.iload X166.here hx rfl (hb hby at_130) rfl ?_
      show Steps p.tables e below (T166.setTop (mkF m 132 #[.val (.int p1), .val (.int p2), .val (.int p3), .val (.int (0 : Int32)), .val (.ref w0), .val (.ref b104), .val (.int r), .val (.int cc), .val (.int ir), .unset, .unset, .unset, .unset, .unset] [(.int cc)])) _
      refine X166.ldcInt hx hown (mvT hZ (hw _ (List.mem_of_getElem? (i := 4) rfl))) (g := (mkF m 132 #[.val (.int p1), .val (.int p2), .val (.int p3), .val (.int (0 : Int32)), .val (.ref w0), .val (.ref b104), .val (.int r), .val (.int cc), .val (.int ir), .unset, .unset, .unset, .unset, .unset] [(.int cc)])) rfl (hb hby at_132) _ ?_
      exact kt)
    obtain ⟨sg, hsg⟩ : ∃ z : Int32, z = (if cc < (55296 : Int32) then (0 : Int32) else (if (57343 : Int32) < cc then (0 : Int32) else (1 : Int32))) := ⟨_, rfl⟩
    have J180 : ∀ t, Steps p.tables e below (T166.setTop (mkF m 149 #[.val (.int p1), .val (.int p2), .val (.int p3), .val (.int (0 : Int32)), .val (.ref w0), .val (.ref b104), .val (.int r), .val (.int cc), .val (.int ir), .unset, .unset, .unset, .unset, .unset] [(.int sg)])) t → Steps p.tables e below (T166.setTop (mkF m 134 #[.val (.int p1), .val (.int p2), .val (.int p3), .val (.int (0 : Int32)), .val (.ref w0), .val (.ref b104), .val (.int r), .val (.int cc), .val (.int ir), .unset, .unset, .unset, .unset, .unset] [(.int (55296 : Int32)), (.int cc)])) t := by
      intro t kt
      by_cases hr180_134_0 : cc < (55296 : Int32)
      · have evsg : sg = (0 : Int32) := by rw [hsg, if_pos hr180_134_0]
        rw [evsg] at kt
        show Steps p.tables e below (T166.setTop (mkF m 134 #[.val (.int p1), .val (.int p2), .val (.int p3), .val (.int (0 : Int32)), .val (.ref w0), .val (.ref b104), .val (.int r), .val (.int cc), .val (.int ir), .unset, .unset, .unset, .unset, .unset] [(.int (55296 : Int32)), (.int cc)])) _
        refine XS.icmpYes X166.here hx rfl (pc0 := 134) (pc' := 148) rfl (hb hby at_134) rfl (tlt hr180_134_0).1 (by decide) (by decide) ?_
        show Steps p.tables e below (T166.setTop (mkF m 148 #[.val (.int p1), .val (.int p2), .val (.int p3), .val (.int (0 : Int32)), .val (.ref w0), .val (.ref b104), .val (.int r), .val (.int cc), .val (.int ir), .unset, .unset, .unset, .unset, .unset] [])) _
        refine XS.iconst X166.here hx rfl (hb hby at_148) ?_
        exact kt
      · show Steps p.tables e below (T166.setTop (mkF m 134 #[.val (.int p1), .val (.int p2), .val (.int p3), .val (.int (0 : Int32)), .val (.ref w0), .val (.ref b104), .val (.int r), .val (.int cc), .val (.int ir), .unset, .unset, .unset, .unset, .unset] [(.int (55296 : Int32)), (.int cc)])) _
        refine XS.icmpNo X166.here hx rfl (hb hby at_134) rfl (flt hr180_134_0).1 ?_
        show Steps p.tables e below (T166.setTop (mkF m 137 #[.val (.int p1), .val (.int p2), .val (.int p3), .val (.int (0 : Int32)), .val (.ref w0), .val (.ref b104), .val (.int r), .val (.int cc), .val (.int ir), .unset, .unset, .unset, .unset, .unset] [])) _
        refine XS.iload X166.here hx rfl (hb hby at_137) rfl ?_
        show Steps p.tables e below (T166.setTop (mkF m 139 #[.val (.int p1), .val (.int p2), .val (.int p3), .val (.int (0 : Int32)), .val (.ref w0), .val (.ref b104), .val (.int r), .val (.int cc), .val (.int ir), .unset, .unset, .unset, .unset, .unset] [(.int cc)])) _
        refine X166.ldcInt hx hown (mvT hZ (hw _ (List.mem_of_getElem? (i := 11) rfl))) (g := (mkF m 139 #[.val (.int p1), .val (.int p2), .val (.int p3), .val (.int (0 : Int32)), .val (.ref w0), .val (.ref b104), .val (.int r), .val (.int cc), .val (.int ir), .unset, .unset, .unset, .unset, .unset] [(.int cc)])) rfl (hb hby at_139) _ ?_
        by_cases hr180_141_1 : (57343 : Int32) < cc
        · have evsg : sg = (0 : Int32) := by rw [hsg, if_neg hr180_134_0, if_pos hr180_141_1]
          rw [evsg] at kt
          show Steps p.tables e below (T166.setTop (mkF m 141 #[.val (.int p1), .val (.int p2), .val (.int p3), .val (.int (0 : Int32)), .val (.ref w0), .val (.ref b104), .val (.int r), .val (.int cc), .val (.int ir), .unset, .unset, .unset, .unset, .unset] [(.int (57343 : Int32)), (.int cc)])) _
          refine XS.icmpYes X166.here hx rfl (pc0 := 141) (pc' := 148) rfl (hb hby at_141) rfl (tlt hr180_141_1).2.2.1 (by decide) (by decide) ?_
          show Steps p.tables e below (T166.setTop (mkF m 148 #[.val (.int p1), .val (.int p2), .val (.int p3), .val (.int (0 : Int32)), .val (.ref w0), .val (.ref b104), .val (.int r), .val (.int cc), .val (.int ir), .unset, .unset, .unset, .unset, .unset] [])) _
          refine XS.iconst X166.here hx rfl (hb hby at_148) ?_
          exact kt
        · have evsg : sg = (1 : Int32) := by rw [hsg, if_neg hr180_134_0, if_neg hr180_141_1]
          rw [evsg] at kt
          show Steps p.tables e below (T166.setTop (mkF m 141 #[.val (.int p1), .val (.int p2), .val (.int p3), .val (.int (0 : Int32)), .val (.ref w0), .val (.ref b104), .val (.int r), .val (.int cc), .val (.int ir), .unset, .unset, .unset, .unset, .unset] [(.int (57343 : Int32)), (.int cc)])) _
          refine XS.icmpNo X166.here hx rfl (hb hby at_141) rfl (flt hr180_141_1).2.2.1 ?_
          show Steps p.tables e below (T166.setTop (mkF m 144 #[.val (.int p1), .val (.int p2), .val (.int p3), .val (.int (0 : Int32)), .val (.ref w0), .val (.ref b104), .val (.int r), .val (.int cc), .val (.int ir), .unset, .unset, .unset, .unset, .unset] [])) _
          refine XS.iconst X166.here hx rfl (hb hby at_144) ?_
          show Steps p.tables e below (T166.setTop (mkF m 145 #[.val (.int p1), .val (.int p2), .val (.int p3), .val (.int (0 : Int32)), .val (.ref w0), .val (.ref b104), .val (.int r), .val (.int cc), .val (.int ir), .unset, .unset, .unset, .unset, .unset] [(.int (1 : Int32))])) _
          refine XS.goto X166.here hx rfl (pc0 := 145) (pc' := 149) rfl (hb hby at_145) (by decide) (by decide) ?_
          exact kt
    have P181 : ∀ t, Steps p.tables e below (T166.setTop (mkF m 149 #[.val (.int p1), .val (.int p2), .val (.int p3), .val (.int (0 : Int32)), .val (.ref w0), .val (.ref b104), .val (.int r), .val (.int cc), .val (.int ir), .unset, .unset, .unset, .unset, .unset] [(.int sg)])) t → Steps p.tables e below (s₁.setTop (entryFrame m #[(.int p1), (.int p2), (.int p3)] maxLocals)) t := fun t kt => P179 t (J180 t kt)
    have P182 : ∀ t, Steps p.tables e below (T166.setTop (mkF m 155 #[.val (.int p1), .val (.int p2), .val (.int p3), .val (.int (0 : Int32)), .val (.ref w0), .val (.ref b104), .val (.int r), .val (.int cc), .val (.int ir), .val (.int sg), .unset, .unset, .unset, .unset] [(.int (65534 : Int32)), (.int cc)])) t → Steps p.tables e below (s₁.setTop (entryFrame m #[(.int p1), (.int p2), (.int p3)] maxLocals)) t := fun t kt => P181 t (by
      show Steps p.tables e below (T166.setTop (mkF m 149 #[.val (.int p1), .val (.int p2), .val (.int p3), .val (.int (0 : Int32)), .val (.ref w0), .val (.ref b104), .val (.int r), .val (.int cc), .val (.int ir), .unset, .unset, .unset, .unset, .unset] [(.int sg)])) _
      refine XS.istore X166.here hx rfl (hb hby at_149) rfl (l' := #[.val (.int p1), .val (.int p2), .val (.int p3), .val (.int (0 : Int32)), .val (.ref w0), .val (.ref b104), .val (.int r), .val (.int cc), .val (.int ir), .val (.int sg), .unset, .unset, .unset, .unset]) rfl ?_
      show Steps p.tables e below (T166.setTop (mkF m 151 #[.val (.int p1), .val (.int p2), .val (.int p3), .val (.int (0 : Int32)), .val (.ref w0), .val (.ref b104), .val (.int r), .val (.int cc), .val (.int ir), .val (.int sg), .unset, .unset, .unset, .unset] [])) _
      refine XS.iload X166.here hx rfl (hb hby at_151) rfl ?_
      show Steps p.tables e below (T166.setTop (mkF m 153 #[.val (.int p1), .val (.int p2), .val (.int p3), .val (.int (0 : Int32)), .val (.ref w0), .val (.ref b104), .val (.int r), .val (.int cc), .val (.int ir), .val (.int sg), .unset, .unset, .unset, .unset] [(.int cc)])) _
      refine X166.ldcInt hx hown (mvT hZ (hw _ (List.mem_of_getElem? (i := 6) rfl))) (g := (mkF m 153 #[.val (.int p1), .val (.int p2), .val (.int p3), .val (.int (0 : Int32)), .val (.ref w0), .val (.ref b104), .val (.int r), .val (.int cc), .val (.int ir), .val (.int sg), .unset, .unset, .unset, .unset] [(.int cc)])) rfl (hb hby at_153) _ ?_
      exact kt)
    obtain ⟨nc, hnc⟩ : ∃ z : Int32, z = (if cc = (65534 : Int32) then (1 : Int32) else (if cc = (65535 : Int32) then (1 : Int32) else (0 : Int32))) := ⟨_, rfl⟩
    have J183 : ∀ t, Steps p.tables e below (T166.setTop (mkF m 170 #[.val (.int p1), .val (.int p2), .val (.int p3), .val (.int (0 : Int32)), .val (.ref w0), .val (.ref b104), .val (.int r), .val (.int cc), .val (.int ir), .val (.int sg), .unset, .unset, .unset, .unset] [(.int nc)])) t → Steps p.tables e below (T166.setTop (mkF m 155 #[.val (.int p1), .val (.int p2), .val (.int p3), .val (.int (0 : Int32)), .val (.ref w0), .val (.ref b104), .val (.int r), .val (.int cc), .val (.int ir), .val (.int sg), .unset, .unset, .unset, .unset] [(.int (65534 : Int32)), (.int cc)])) t := by
      intro t kt
      by_cases hr183_155_0 : cc = (65534 : Int32)
      · have evnc : nc = (1 : Int32) := by rw [hnc, if_pos hr183_155_0]
        rw [evnc] at kt
        show Steps p.tables e below (T166.setTop (mkF m 155 #[.val (.int p1), .val (.int p2), .val (.int p3), .val (.int (0 : Int32)), .val (.ref w0), .val (.ref b104), .val (.int r), .val (.int cc), .val (.int ir), .val (.int sg), .unset, .unset, .unset, .unset] [(.int (65534 : Int32)), (.int cc)])) _
        refine XS.icmpYes X166.here hx rfl (pc0 := 155) (pc' := 165) rfl (hb hby at_155) rfl (teq hr183_155_0).1 (by decide) (by decide) ?_
        show Steps p.tables e below (T166.setTop (mkF m 165 #[.val (.int p1), .val (.int p2), .val (.int p3), .val (.int (0 : Int32)), .val (.ref w0), .val (.ref b104), .val (.int r), .val (.int cc), .val (.int ir), .val (.int sg), .unset, .unset, .unset, .unset] [])) _
        refine XS.iconst X166.here hx rfl (hb hby at_165) ?_
        show Steps p.tables e below (T166.setTop (mkF m 166 #[.val (.int p1), .val (.int p2), .val (.int p3), .val (.int (0 : Int32)), .val (.ref w0), .val (.ref b104), .val (.int r), .val (.int cc), .val (.int ir), .val (.int sg), .unset, .unset, .unset, .unset] [(.int (1 : Int32))])) _
        refine XS.goto X166.here hx rfl (pc0 := 166) (pc' := 170) rfl (hb hby at_166) (by decide) (by decide) ?_
        exact kt
      · show Steps p.tables e below (T166.setTop (mkF m 155 #[.val (.int p1), .val (.int p2), .val (.int p3), .val (.int (0 : Int32)), .val (.ref w0), .val (.ref b104), .val (.int r), .val (.int cc), .val (.int ir), .val (.int sg), .unset, .unset, .unset, .unset] [(.int (65534 : Int32)), (.int cc)])) _
        refine XS.icmpNo X166.here hx rfl (hb hby at_155) rfl (feq hr183_155_0).1 ?_
        show Steps p.tables e below (T166.setTop (mkF m 158 #[.val (.int p1), .val (.int p2), .val (.int p3), .val (.int (0 : Int32)), .val (.ref w0), .val (.ref b104), .val (.int r), .val (.int cc), .val (.int ir), .val (.int sg), .unset, .unset, .unset, .unset] [])) _
        refine XS.iload X166.here hx rfl (hb hby at_158) rfl ?_
        show Steps p.tables e below (T166.setTop (mkF m 160 #[.val (.int p1), .val (.int p2), .val (.int p3), .val (.int (0 : Int32)), .val (.ref w0), .val (.ref b104), .val (.int r), .val (.int cc), .val (.int ir), .val (.int sg), .unset, .unset, .unset, .unset] [(.int cc)])) _
        refine X166.ldcInt hx hown (mvT hZ (hw _ (List.mem_of_getElem? (i := 12) rfl))) (g := (mkF m 160 #[.val (.int p1), .val (.int p2), .val (.int p3), .val (.int (0 : Int32)), .val (.ref w0), .val (.ref b104), .val (.int r), .val (.int cc), .val (.int ir), .val (.int sg), .unset, .unset, .unset, .unset] [(.int cc)])) rfl (hb hby at_160) _ ?_
        by_cases hr183_162_1 : cc = (65535 : Int32)
        · have evnc : nc = (1 : Int32) := by rw [hnc, if_neg hr183_155_0, if_pos hr183_162_1]
          rw [evnc] at kt
          show Steps p.tables e below (T166.setTop (mkF m 162 #[.val (.int p1), .val (.int p2), .val (.int p3), .val (.int (0 : Int32)), .val (.ref w0), .val (.ref b104), .val (.int r), .val (.int cc), .val (.int ir), .val (.int sg), .unset, .unset, .unset, .unset] [(.int (65535 : Int32)), (.int cc)])) _
          refine XS.icmpNo X166.here hx rfl (hb hby at_162) rfl (teq hr183_162_1).2 ?_
          show Steps p.tables e below (T166.setTop (mkF m 165 #[.val (.int p1), .val (.int p2), .val (.int p3), .val (.int (0 : Int32)), .val (.ref w0), .val (.ref b104), .val (.int r), .val (.int cc), .val (.int ir), .val (.int sg), .unset, .unset, .unset, .unset] [])) _
          refine XS.iconst X166.here hx rfl (hb hby at_165) ?_
          show Steps p.tables e below (T166.setTop (mkF m 166 #[.val (.int p1), .val (.int p2), .val (.int p3), .val (.int (0 : Int32)), .val (.ref w0), .val (.ref b104), .val (.int r), .val (.int cc), .val (.int ir), .val (.int sg), .unset, .unset, .unset, .unset] [(.int (1 : Int32))])) _
          refine XS.goto X166.here hx rfl (pc0 := 166) (pc' := 170) rfl (hb hby at_166) (by decide) (by decide) ?_
          exact kt
        · have evnc : nc = (0 : Int32) := by rw [hnc, if_neg hr183_155_0, if_neg hr183_162_1]
          rw [evnc] at kt
          show Steps p.tables e below (T166.setTop (mkF m 162 #[.val (.int p1), .val (.int p2), .val (.int p3), .val (.int (0 : Int32)), .val (.ref w0), .val (.ref b104), .val (.int r), .val (.int cc), .val (.int ir), .val (.int sg), .unset, .unset, .unset, .unset] [(.int (65535 : Int32)), (.int cc)])) _
          refine XS.icmpYes X166.here hx rfl (pc0 := 162) (pc' := 169) rfl (hb hby at_162) rfl (feq hr183_162_1).2 (by decide) (by decide) ?_
          show Steps p.tables e below (T166.setTop (mkF m 169 #[.val (.int p1), .val (.int p2), .val (.int p3), .val (.int (0 : Int32)), .val (.ref w0), .val (.ref b104), .val (.int r), .val (.int cc), .val (.int ir), .val (.int sg), .unset, .unset, .unset, .unset] [])) _
          refine XS.iconst X166.here hx rfl (hb hby at_169) ?_
          exact kt
    have P184 : ∀ t, Steps p.tables e below (T166.setTop (mkF m 170 #[.val (.int p1), .val (.int p2), .val (.int p3), .val (.int (0 : Int32)), .val (.ref w0), .val (.ref b104), .val (.int r), .val (.int cc), .val (.int ir), .val (.int sg), .unset, .unset, .unset, .unset] [(.int nc)])) t → Steps p.tables e below (s₁.setTop (entryFrame m #[(.int p1), (.int p2), (.int p3)] maxLocals)) t := fun t kt => P182 t (J183 t kt)
    have P185 : ∀ t, Steps p.tables e below (T166.setTop (mkF m 176 #[.val (.int p1), .val (.int p2), .val (.int p3), .val (.int (0 : Int32)), .val (.ref w0), .val (.ref b104), .val (.int r), .val (.int cc), .val (.int ir), .val (.int sg), .val (.int nc), .unset, .unset, .unset] [(.int (32 : Int32)), (.int cc)])) t → Steps p.tables e below (s₁.setTop (entryFrame m #[(.int p1), (.int p2), (.int p3)] maxLocals)) t := fun t kt => P184 t (by
      show Steps p.tables e below (T166.setTop (mkF m 170 #[.val (.int p1), .val (.int p2), .val (.int p3), .val (.int (0 : Int32)), .val (.ref w0), .val (.ref b104), .val (.int r), .val (.int cc), .val (.int ir), .val (.int sg), .unset, .unset, .unset, .unset] [(.int nc)])) _
      refine XS.istore X166.here hx rfl (hb hby at_170) rfl (l' := #[.val (.int p1), .val (.int p2), .val (.int p3), .val (.int (0 : Int32)), .val (.ref w0), .val (.ref b104), .val (.int r), .val (.int cc), .val (.int ir), .val (.int sg), .val (.int nc), .unset, .unset, .unset]) rfl ?_
      show Steps p.tables e below (T166.setTop (mkF m 172 #[.val (.int p1), .val (.int p2), .val (.int p3), .val (.int (0 : Int32)), .val (.ref w0), .val (.ref b104), .val (.int r), .val (.int cc), .val (.int ir), .val (.int sg), .val (.int nc), .unset, .unset, .unset] [])) _
      refine XS.iload X166.here hx rfl (hb hby at_172) rfl ?_
      show Steps p.tables e below (T166.setTop (mkF m 174 #[.val (.int p1), .val (.int p2), .val (.int p3), .val (.int (0 : Int32)), .val (.ref w0), .val (.ref b104), .val (.int r), .val (.int cc), .val (.int ir), .val (.int sg), .val (.int nc), .unset, .unset, .unset] [(.int cc)])) _
      refine XS.bipush X166.here hx rfl (hb hby at_174) ?_
      exact kt)
    obtain ⟨ct, hct⟩ : ∃ z : Int32, z = (if cc < (32 : Int32) then (1 : Int32) else (0 : Int32)) := ⟨_, rfl⟩
    have J186 : ∀ t, Steps p.tables e below (T166.setTop (mkF m 184 #[.val (.int p1), .val (.int p2), .val (.int p3), .val (.int (0 : Int32)), .val (.ref w0), .val (.ref b104), .val (.int r), .val (.int cc), .val (.int ir), .val (.int sg), .val (.int nc), .unset, .unset, .unset] [(.int ct)])) t → Steps p.tables e below (T166.setTop (mkF m 176 #[.val (.int p1), .val (.int p2), .val (.int p3), .val (.int (0 : Int32)), .val (.ref w0), .val (.ref b104), .val (.int r), .val (.int cc), .val (.int ir), .val (.int sg), .val (.int nc), .unset, .unset, .unset] [(.int (32 : Int32)), (.int cc)])) t := by
      intro t kt
      by_cases hr186_176_0 : cc < (32 : Int32)
      · have evct : ct = (1 : Int32) := by rw [hct, if_pos hr186_176_0]
        rw [evct] at kt
        show Steps p.tables e below (T166.setTop (mkF m 176 #[.val (.int p1), .val (.int p2), .val (.int p3), .val (.int (0 : Int32)), .val (.ref w0), .val (.ref b104), .val (.int r), .val (.int cc), .val (.int ir), .val (.int sg), .val (.int nc), .unset, .unset, .unset] [(.int (32 : Int32)), (.int cc)])) _
        refine XS.icmpNo X166.here hx rfl (hb hby at_176) rfl (tlt hr186_176_0).2.1 ?_
        show Steps p.tables e below (T166.setTop (mkF m 179 #[.val (.int p1), .val (.int p2), .val (.int p3), .val (.int (0 : Int32)), .val (.ref w0), .val (.ref b104), .val (.int r), .val (.int cc), .val (.int ir), .val (.int sg), .val (.int nc), .unset, .unset, .unset] [])) _
        refine XS.iconst X166.here hx rfl (hb hby at_179) ?_
        show Steps p.tables e below (T166.setTop (mkF m 180 #[.val (.int p1), .val (.int p2), .val (.int p3), .val (.int (0 : Int32)), .val (.ref w0), .val (.ref b104), .val (.int r), .val (.int cc), .val (.int ir), .val (.int sg), .val (.int nc), .unset, .unset, .unset] [(.int (1 : Int32))])) _
        refine XS.goto X166.here hx rfl (pc0 := 180) (pc' := 184) rfl (hb hby at_180) (by decide) (by decide) ?_
        exact kt
      · have evct : ct = (0 : Int32) := by rw [hct, if_neg hr186_176_0]
        rw [evct] at kt
        show Steps p.tables e below (T166.setTop (mkF m 176 #[.val (.int p1), .val (.int p2), .val (.int p3), .val (.int (0 : Int32)), .val (.ref w0), .val (.ref b104), .val (.int r), .val (.int cc), .val (.int ir), .val (.int sg), .val (.int nc), .unset, .unset, .unset] [(.int (32 : Int32)), (.int cc)])) _
        refine XS.icmpYes X166.here hx rfl (pc0 := 176) (pc' := 183) rfl (hb hby at_176) rfl (flt hr186_176_0).2.1 (by decide) (by decide) ?_
        show Steps p.tables e below (T166.setTop (mkF m 183 #[.val (.int p1), .val (.int p2), .val (.int p3), .val (.int (0 : Int32)), .val (.ref w0), .val (.ref b104), .val (.int r), .val (.int cc), .val (.int ir), .val (.int sg), .val (.int nc), .unset, .unset, .unset] [])) _
        refine XS.iconst X166.here hx rfl (hb hby at_183) ?_
        exact kt
    have P187 : ∀ t, Steps p.tables e below (T166.setTop (mkF m 184 #[.val (.int p1), .val (.int p2), .val (.int p3), .val (.int (0 : Int32)), .val (.ref w0), .val (.ref b104), .val (.int r), .val (.int cc), .val (.int ir), .val (.int sg), .val (.int nc), .unset, .unset, .unset] [(.int ct)])) t → Steps p.tables e below (s₁.setTop (entryFrame m #[(.int p1), (.int p2), (.int p3)] maxLocals)) t := fun t kt => P185 t (J186 t kt)
    have P188 : ∀ t, Steps p.tables e below (T166.setTop (mkF m 207 #[.val (.int p1), .val (.int p2), .val (.int p3), .val (.int (0 : Int32)), .val (.ref w0), .val (.ref b104), .val (.int r), .val (.int cc), .val (.int ir), .val (.int sg), .val (.int nc), .val (.int ct), .unset, .unset] [(.int (9 : Int32)), (.int cc)])) t → Steps p.tables e below (s₁.setTop (entryFrame m #[(.int p1), (.int p2), (.int p3)] maxLocals)) t := fun t kt => P187 t (by
      show Steps p.tables e below (T166.setTop (mkF m 184 #[.val (.int p1), .val (.int p2), .val (.int p3), .val (.int (0 : Int32)), .val (.ref w0), .val (.ref b104), .val (.int r), .val (.int cc), .val (.int ir), .val (.int sg), .val (.int nc), .unset, .unset, .unset] [(.int ct)])) _
      refine XS.istore X166.here hx rfl (hb hby at_184) rfl (l' := #[.val (.int p1), .val (.int p2), .val (.int p3), .val (.int (0 : Int32)), .val (.ref w0), .val (.ref b104), .val (.int r), .val (.int cc), .val (.int ir), .val (.int sg), .val (.int nc), .val (.int ct), .unset, .unset]) rfl ?_
      show Steps p.tables e below (T166.setTop (mkF m 186 #[.val (.int p1), .val (.int p2), .val (.int p3), .val (.int (0 : Int32)), .val (.ref w0), .val (.ref b104), .val (.int r), .val (.int cc), .val (.int ir), .val (.int sg), .val (.int nc), .val (.int ct), .unset, .unset] [])) _
      refine XS.iloadN X166.here hx rfl (hb hby at_186) rfl ?_
      show Steps p.tables e below (T166.setTop (mkF m 187 #[.val (.int p1), .val (.int p2), .val (.int p3), .val (.int (0 : Int32)), .val (.ref w0), .val (.ref b104), .val (.int r), .val (.int cc), .val (.int ir), .val (.int sg), .val (.int nc), .val (.int ct), .unset, .unset] [(.int (0 : Int32))])) _
      refine XS.ifYes X166.here hx rfl (pc0 := 187) (pc' := 203) rfl (hb hby at_187) rfl ((if0 _ _).trans (teq ((by decide) : (0 : Int32) = (0 : Int32))).1) (by decide) (by decide) ?_
      show Steps p.tables e below (T166.setTop (mkF m 203 #[.val (.int p1), .val (.int p2), .val (.int p3), .val (.int (0 : Int32)), .val (.ref w0), .val (.ref b104), .val (.int r), .val (.int cc), .val (.int ir), .val (.int sg), .val (.int nc), .val (.int ct), .unset, .unset] [])) _
      refine XS.iload X166.here hx rfl (hb hby at_203) rfl ?_
      show Steps p.tables e below (T166.setTop (mkF m 205 #[.val (.int p1), .val (.int p2), .val (.int p3), .val (.int (0 : Int32)), .val (.ref w0), .val (.ref b104), .val (.int r), .val (.int cc), .val (.int ir), .val (.int sg), .val (.int nc), .val (.int ct), .unset, .unset] [(.int cc)])) _
      refine XS.bipush X166.here hx rfl (hb hby at_205) ?_
      exact kt)
    obtain ⟨ok, hok⟩ : ∃ z : Int32, z = (if cc = (9 : Int32) then (1 : Int32) else (if cc = (10 : Int32) then (1 : Int32) else (if cc = (13 : Int32) then (1 : Int32) else (0 : Int32)))) := ⟨_, rfl⟩
    have J189 : ∀ t, Steps p.tables e below (T166.setTop (mkF m 229 #[.val (.int p1), .val (.int p2), .val (.int p3), .val (.int (0 : Int32)), .val (.ref w0), .val (.ref b104), .val (.int r), .val (.int cc), .val (.int ir), .val (.int sg), .val (.int nc), .val (.int ct), .unset, .unset] [(.int ok)])) t → Steps p.tables e below (T166.setTop (mkF m 207 #[.val (.int p1), .val (.int p2), .val (.int p3), .val (.int (0 : Int32)), .val (.ref w0), .val (.ref b104), .val (.int r), .val (.int cc), .val (.int ir), .val (.int sg), .val (.int nc), .val (.int ct), .unset, .unset] [(.int (9 : Int32)), (.int cc)])) t := by
      intro t kt
      by_cases hr189_207_0 : cc = (9 : Int32)
      · have evok : ok = (1 : Int32) := by rw [hok, if_pos hr189_207_0]
        rw [evok] at kt
        show Steps p.tables e below (T166.setTop (mkF m 207 #[.val (.int p1), .val (.int p2), .val (.int p3), .val (.int (0 : Int32)), .val (.ref w0), .val (.ref b104), .val (.int r), .val (.int cc), .val (.int ir), .val (.int sg), .val (.int nc), .val (.int ct), .unset, .unset] [(.int (9 : Int32)), (.int cc)])) _
        refine XS.icmpYes X166.here hx rfl (pc0 := 207) (pc' := 224) rfl (hb hby at_207) rfl (teq hr189_207_0).1 (by decide) (by decide) ?_
        show Steps p.tables e below (T166.setTop (mkF m 224 #[.val (.int p1), .val (.int p2), .val (.int p3), .val (.int (0 : Int32)), .val (.ref w0), .val (.ref b104), .val (.int r), .val (.int cc), .val (.int ir), .val (.int sg), .val (.int nc), .val (.int ct), .unset, .unset] [])) _
        refine XS.iconst X166.here hx rfl (hb hby at_224) ?_
        show Steps p.tables e below (T166.setTop (mkF m 225 #[.val (.int p1), .val (.int p2), .val (.int p3), .val (.int (0 : Int32)), .val (.ref w0), .val (.ref b104), .val (.int r), .val (.int cc), .val (.int ir), .val (.int sg), .val (.int nc), .val (.int ct), .unset, .unset] [(.int (1 : Int32))])) _
        refine XS.goto X166.here hx rfl (pc0 := 225) (pc' := 229) rfl (hb hby at_225) (by decide) (by decide) ?_
        exact kt
      · show Steps p.tables e below (T166.setTop (mkF m 207 #[.val (.int p1), .val (.int p2), .val (.int p3), .val (.int (0 : Int32)), .val (.ref w0), .val (.ref b104), .val (.int r), .val (.int cc), .val (.int ir), .val (.int sg), .val (.int nc), .val (.int ct), .unset, .unset] [(.int (9 : Int32)), (.int cc)])) _
        refine XS.icmpNo X166.here hx rfl (hb hby at_207) rfl (feq hr189_207_0).1 ?_
        show Steps p.tables e below (T166.setTop (mkF m 210 #[.val (.int p1), .val (.int p2), .val (.int p3), .val (.int (0 : Int32)), .val (.ref w0), .val (.ref b104), .val (.int r), .val (.int cc), .val (.int ir), .val (.int sg), .val (.int nc), .val (.int ct), .unset, .unset] [])) _
        refine XS.iload X166.here hx rfl (hb hby at_210) rfl ?_
        show Steps p.tables e below (T166.setTop (mkF m 212 #[.val (.int p1), .val (.int p2), .val (.int p3), .val (.int (0 : Int32)), .val (.ref w0), .val (.ref b104), .val (.int r), .val (.int cc), .val (.int ir), .val (.int sg), .val (.int nc), .val (.int ct), .unset, .unset] [(.int cc)])) _
        refine XS.bipush X166.here hx rfl (hb hby at_212) ?_
        by_cases hr189_214_1 : cc = (10 : Int32)
        · have evok : ok = (1 : Int32) := by rw [hok, if_neg hr189_207_0, if_pos hr189_214_1]
          rw [evok] at kt
          show Steps p.tables e below (T166.setTop (mkF m 214 #[.val (.int p1), .val (.int p2), .val (.int p3), .val (.int (0 : Int32)), .val (.ref w0), .val (.ref b104), .val (.int r), .val (.int cc), .val (.int ir), .val (.int sg), .val (.int nc), .val (.int ct), .unset, .unset] [(.int (10 : Int32)), (.int cc)])) _
          refine XS.icmpYes X166.here hx rfl (pc0 := 214) (pc' := 224) rfl (hb hby at_214) rfl (teq hr189_214_1).1 (by decide) (by decide) ?_
          show Steps p.tables e below (T166.setTop (mkF m 224 #[.val (.int p1), .val (.int p2), .val (.int p3), .val (.int (0 : Int32)), .val (.ref w0), .val (.ref b104), .val (.int r), .val (.int cc), .val (.int ir), .val (.int sg), .val (.int nc), .val (.int ct), .unset, .unset] [])) _
          refine XS.iconst X166.here hx rfl (hb hby at_224) ?_
          show Steps p.tables e below (T166.setTop (mkF m 225 #[.val (.int p1), .val (.int p2), .val (.int p3), .val (.int (0 : Int32)), .val (.ref w0), .val (.ref b104), .val (.int r), .val (.int cc), .val (.int ir), .val (.int sg), .val (.int nc), .val (.int ct), .unset, .unset] [(.int (1 : Int32))])) _
          refine XS.goto X166.here hx rfl (pc0 := 225) (pc' := 229) rfl (hb hby at_225) (by decide) (by decide) ?_
          exact kt
        · show Steps p.tables e below (T166.setTop (mkF m 214 #[.val (.int p1), .val (.int p2), .val (.int p3), .val (.int (0 : Int32)), .val (.ref w0), .val (.ref b104), .val (.int r), .val (.int cc), .val (.int ir), .val (.int sg), .val (.int nc), .val (.int ct), .unset, .unset] [(.int (10 : Int32)), (.int cc)])) _
          refine XS.icmpNo X166.here hx rfl (hb hby at_214) rfl (feq hr189_214_1).1 ?_
          show Steps p.tables e below (T166.setTop (mkF m 217 #[.val (.int p1), .val (.int p2), .val (.int p3), .val (.int (0 : Int32)), .val (.ref w0), .val (.ref b104), .val (.int r), .val (.int cc), .val (.int ir), .val (.int sg), .val (.int nc), .val (.int ct), .unset, .unset] [])) _
          refine XS.iload X166.here hx rfl (hb hby at_217) rfl ?_
          show Steps p.tables e below (T166.setTop (mkF m 219 #[.val (.int p1), .val (.int p2), .val (.int p3), .val (.int (0 : Int32)), .val (.ref w0), .val (.ref b104), .val (.int r), .val (.int cc), .val (.int ir), .val (.int sg), .val (.int nc), .val (.int ct), .unset, .unset] [(.int cc)])) _
          refine XS.bipush X166.here hx rfl (hb hby at_219) ?_
          by_cases hr189_221_2 : cc = (13 : Int32)
          · have evok : ok = (1 : Int32) := by rw [hok, if_neg hr189_207_0, if_neg hr189_214_1, if_pos hr189_221_2]
            rw [evok] at kt
            show Steps p.tables e below (T166.setTop (mkF m 221 #[.val (.int p1), .val (.int p2), .val (.int p3), .val (.int (0 : Int32)), .val (.ref w0), .val (.ref b104), .val (.int r), .val (.int cc), .val (.int ir), .val (.int sg), .val (.int nc), .val (.int ct), .unset, .unset] [(.int (13 : Int32)), (.int cc)])) _
            refine XS.icmpNo X166.here hx rfl (hb hby at_221) rfl (teq hr189_221_2).2 ?_
            show Steps p.tables e below (T166.setTop (mkF m 224 #[.val (.int p1), .val (.int p2), .val (.int p3), .val (.int (0 : Int32)), .val (.ref w0), .val (.ref b104), .val (.int r), .val (.int cc), .val (.int ir), .val (.int sg), .val (.int nc), .val (.int ct), .unset, .unset] [])) _
            refine XS.iconst X166.here hx rfl (hb hby at_224) ?_
            show Steps p.tables e below (T166.setTop (mkF m 225 #[.val (.int p1), .val (.int p2), .val (.int p3), .val (.int (0 : Int32)), .val (.ref w0), .val (.ref b104), .val (.int r), .val (.int cc), .val (.int ir), .val (.int sg), .val (.int nc), .val (.int ct), .unset, .unset] [(.int (1 : Int32))])) _
            refine XS.goto X166.here hx rfl (pc0 := 225) (pc' := 229) rfl (hb hby at_225) (by decide) (by decide) ?_
            exact kt
          · have evok : ok = (0 : Int32) := by rw [hok, if_neg hr189_207_0, if_neg hr189_214_1, if_neg hr189_221_2]
            rw [evok] at kt
            show Steps p.tables e below (T166.setTop (mkF m 221 #[.val (.int p1), .val (.int p2), .val (.int p3), .val (.int (0 : Int32)), .val (.ref w0), .val (.ref b104), .val (.int r), .val (.int cc), .val (.int ir), .val (.int sg), .val (.int nc), .val (.int ct), .unset, .unset] [(.int (13 : Int32)), (.int cc)])) _
            refine XS.icmpYes X166.here hx rfl (pc0 := 221) (pc' := 228) rfl (hb hby at_221) rfl (feq hr189_221_2).2 (by decide) (by decide) ?_
            show Steps p.tables e below (T166.setTop (mkF m 228 #[.val (.int p1), .val (.int p2), .val (.int p3), .val (.int (0 : Int32)), .val (.ref w0), .val (.ref b104), .val (.int r), .val (.int cc), .val (.int ir), .val (.int sg), .val (.int nc), .val (.int ct), .unset, .unset] [])) _
            refine XS.iconst X166.here hx rfl (hb hby at_228) ?_
            exact kt
    have P190 : ∀ t, Steps p.tables e below (T166.setTop (mkF m 229 #[.val (.int p1), .val (.int p2), .val (.int p3), .val (.int (0 : Int32)), .val (.ref w0), .val (.ref b104), .val (.int r), .val (.int cc), .val (.int ir), .val (.int sg), .val (.int nc), .val (.int ct), .unset, .unset] [(.int ok)])) t → Steps p.tables e below (s₁.setTop (entryFrame m #[(.int p1), (.int p2), (.int p3)] maxLocals)) t := fun t kt => P188 t (J189 t kt)
    have P191 : ∀ t, Steps p.tables e below (T166.setTop (mkF m 233 #[.val (.int p1), .val (.int p2), .val (.int p3), .val (.int (0 : Int32)), .val (.ref w0), .val (.ref b104), .val (.int r), .val (.int cc), .val (.int ir), .val (.int sg), .val (.int nc), .val (.int ct), .val (.int ok), .unset] [(.int ir)])) t → Steps p.tables e below (s₁.setTop (entryFrame m #[(.int p1), (.int p2), (.int p3)] maxLocals)) t := fun t kt => P190 t (by
      show Steps p.tables e below (T166.setTop (mkF m 229 #[.val (.int p1), .val (.int p2), .val (.int p3), .val (.int (0 : Int32)), .val (.ref w0), .val (.ref b104), .val (.int r), .val (.int cc), .val (.int ir), .val (.int sg), .val (.int nc), .val (.int ct), .unset, .unset] [(.int ok)])) _
      refine XS.istore X166.here hx rfl (hb hby at_229) rfl (l' := #[.val (.int p1), .val (.int p2), .val (.int p3), .val (.int (0 : Int32)), .val (.ref w0), .val (.ref b104), .val (.int r), .val (.int cc), .val (.int ir), .val (.int sg), .val (.int nc), .val (.int ct), .val (.int ok), .unset]) rfl ?_
      show Steps p.tables e below (T166.setTop (mkF m 231 #[.val (.int p1), .val (.int p2), .val (.int p3), .val (.int (0 : Int32)), .val (.ref w0), .val (.ref b104), .val (.int r), .val (.int cc), .val (.int ir), .val (.int sg), .val (.int nc), .val (.int ct), .val (.int ok), .unset] [])) _
      refine XS.iload X166.here hx rfl (hb hby at_231) rfl ?_
      exact kt)
    obtain ⟨ex, hex⟩ : ∃ z : Int32, z = (if ir = (0 : Int32) then (0 : Int32) else (if sg = (0 : Int32) then (if nc = (0 : Int32) then (if ct = (0 : Int32) then (1 : Int32) else (if ok = (0 : Int32) then (0 : Int32) else (1 : Int32))) else (0 : Int32)) else (0 : Int32))) := ⟨_, rfl⟩
    have J192 : ∀ t, Steps p.tables e below (T166.setTop (mkF m 261 #[.val (.int p1), .val (.int p2), .val (.int p3), .val (.int (0 : Int32)), .val (.ref w0), .val (.ref b104), .val (.int r), .val (.int cc), .val (.int ir), .val (.int sg), .val (.int nc), .val (.int ct), .val (.int ok), .unset] [(.int ex)])) t → Steps p.tables e below (T166.setTop (mkF m 233 #[.val (.int p1), .val (.int p2), .val (.int p3), .val (.int (0 : Int32)), .val (.ref w0), .val (.ref b104), .val (.int r), .val (.int cc), .val (.int ir), .val (.int sg), .val (.int nc), .val (.int ct), .val (.int ok), .unset] [(.int ir)])) t := by
      intro t kt
      by_cases hr192_233_0 : ir = (0 : Int32)
      · have evex : ex = (0 : Int32) := by rw [hex, if_pos hr192_233_0]
        rw [evex] at kt
        show Steps p.tables e below (T166.setTop (mkF m 233 #[.val (.int p1), .val (.int p2), .val (.int p3), .val (.int (0 : Int32)), .val (.ref w0), .val (.ref b104), .val (.int r), .val (.int cc), .val (.int ir), .val (.int sg), .val (.int nc), .val (.int ct), .val (.int ok), .unset] [(.int ir)])) _
        refine XS.ifYes X166.here hx rfl (pc0 := 233) (pc' := 260) rfl (hb hby at_233) rfl ((if0 _ _).trans (teq hr192_233_0).1) (by decide) (by decide) ?_
        show Steps p.tables e below (T166.setTop (mkF m 260 #[.val (.int p1), .val (.int p2), .val (.int p3), .val (.int (0 : Int32)), .val (.ref w0), .val (.ref b104), .val (.int r), .val (.int cc), .val (.int ir), .val (.int sg), .val (.int nc), .val (.int ct), .val (.int ok), .unset] [])) _
        refine XS.iconst X166.here hx rfl (hb hby at_260) ?_
        exact kt
      · show Steps p.tables e below (T166.setTop (mkF m 233 #[.val (.int p1), .val (.int p2), .val (.int p3), .val (.int (0 : Int32)), .val (.ref w0), .val (.ref b104), .val (.int r), .val (.int cc), .val (.int ir), .val (.int sg), .val (.int nc), .val (.int ct), .val (.int ok), .unset] [(.int ir)])) _
        refine XS.ifNo X166.here hx rfl (hb hby at_233) rfl ((if0 _ _).trans (feq hr192_233_0).1) ?_
        show Steps p.tables e below (T166.setTop (mkF m 236 #[.val (.int p1), .val (.int p2), .val (.int p3), .val (.int (0 : Int32)), .val (.ref w0), .val (.ref b104), .val (.int r), .val (.int cc), .val (.int ir), .val (.int sg), .val (.int nc), .val (.int ct), .val (.int ok), .unset] [])) _
        refine XS.iload X166.here hx rfl (hb hby at_236) rfl ?_
        by_cases hr192_238_1 : sg = (0 : Int32)
        · show Steps p.tables e below (T166.setTop (mkF m 238 #[.val (.int p1), .val (.int p2), .val (.int p3), .val (.int (0 : Int32)), .val (.ref w0), .val (.ref b104), .val (.int r), .val (.int cc), .val (.int ir), .val (.int sg), .val (.int nc), .val (.int ct), .val (.int ok), .unset] [(.int sg)])) _
          refine XS.ifNo X166.here hx rfl (hb hby at_238) rfl ((if0 _ _).trans (teq hr192_238_1).2) ?_
          show Steps p.tables e below (T166.setTop (mkF m 241 #[.val (.int p1), .val (.int p2), .val (.int p3), .val (.int (0 : Int32)), .val (.ref w0), .val (.ref b104), .val (.int r), .val (.int cc), .val (.int ir), .val (.int sg), .val (.int nc), .val (.int ct), .val (.int ok), .unset] [])) _
          refine XS.iload X166.here hx rfl (hb hby at_241) rfl ?_
          by_cases hr192_243_2 : nc = (0 : Int32)
          · show Steps p.tables e below (T166.setTop (mkF m 243 #[.val (.int p1), .val (.int p2), .val (.int p3), .val (.int (0 : Int32)), .val (.ref w0), .val (.ref b104), .val (.int r), .val (.int cc), .val (.int ir), .val (.int sg), .val (.int nc), .val (.int ct), .val (.int ok), .unset] [(.int nc)])) _
            refine XS.ifNo X166.here hx rfl (hb hby at_243) rfl ((if0 _ _).trans (teq hr192_243_2).2) ?_
            show Steps p.tables e below (T166.setTop (mkF m 246 #[.val (.int p1), .val (.int p2), .val (.int p3), .val (.int (0 : Int32)), .val (.ref w0), .val (.ref b104), .val (.int r), .val (.int cc), .val (.int ir), .val (.int sg), .val (.int nc), .val (.int ct), .val (.int ok), .unset] [])) _
            refine XS.iload X166.here hx rfl (hb hby at_246) rfl ?_
            by_cases hr192_248_3 : ct = (0 : Int32)
            · have evex : ex = (1 : Int32) := by rw [hex, if_neg hr192_233_0, if_pos hr192_238_1, if_pos hr192_243_2, if_pos hr192_248_3]
              rw [evex] at kt
              show Steps p.tables e below (T166.setTop (mkF m 248 #[.val (.int p1), .val (.int p2), .val (.int p3), .val (.int (0 : Int32)), .val (.ref w0), .val (.ref b104), .val (.int r), .val (.int cc), .val (.int ir), .val (.int sg), .val (.int nc), .val (.int ct), .val (.int ok), .unset] [(.int ct)])) _
              refine XS.ifYes X166.here hx rfl (pc0 := 248) (pc' := 256) rfl (hb hby at_248) rfl ((if0 _ _).trans (teq hr192_248_3).1) (by decide) (by decide) ?_
              show Steps p.tables e below (T166.setTop (mkF m 256 #[.val (.int p1), .val (.int p2), .val (.int p3), .val (.int (0 : Int32)), .val (.ref w0), .val (.ref b104), .val (.int r), .val (.int cc), .val (.int ir), .val (.int sg), .val (.int nc), .val (.int ct), .val (.int ok), .unset] [])) _
              refine XS.iconst X166.here hx rfl (hb hby at_256) ?_
              show Steps p.tables e below (T166.setTop (mkF m 257 #[.val (.int p1), .val (.int p2), .val (.int p3), .val (.int (0 : Int32)), .val (.ref w0), .val (.ref b104), .val (.int r), .val (.int cc), .val (.int ir), .val (.int sg), .val (.int nc), .val (.int ct), .val (.int ok), .unset] [(.int (1 : Int32))])) _
              refine XS.goto X166.here hx rfl (pc0 := 257) (pc' := 261) rfl (hb hby at_257) (by decide) (by decide) ?_
              exact kt
            · show Steps p.tables e below (T166.setTop (mkF m 248 #[.val (.int p1), .val (.int p2), .val (.int p3), .val (.int (0 : Int32)), .val (.ref w0), .val (.ref b104), .val (.int r), .val (.int cc), .val (.int ir), .val (.int sg), .val (.int nc), .val (.int ct), .val (.int ok), .unset] [(.int ct)])) _
              refine XS.ifNo X166.here hx rfl (hb hby at_248) rfl ((if0 _ _).trans (feq hr192_248_3).1) ?_
              show Steps p.tables e below (T166.setTop (mkF m 251 #[.val (.int p1), .val (.int p2), .val (.int p3), .val (.int (0 : Int32)), .val (.ref w0), .val (.ref b104), .val (.int r), .val (.int cc), .val (.int ir), .val (.int sg), .val (.int nc), .val (.int ct), .val (.int ok), .unset] [])) _
              refine XS.iload X166.here hx rfl (hb hby at_251) rfl ?_
              by_cases hr192_253_4 : ok = (0 : Int32)
              · have evex : ex = (0 : Int32) := by rw [hex, if_neg hr192_233_0, if_pos hr192_238_1, if_pos hr192_243_2, if_neg hr192_248_3, if_pos hr192_253_4]
                rw [evex] at kt
                show Steps p.tables e below (T166.setTop (mkF m 253 #[.val (.int p1), .val (.int p2), .val (.int p3), .val (.int (0 : Int32)), .val (.ref w0), .val (.ref b104), .val (.int r), .val (.int cc), .val (.int ir), .val (.int sg), .val (.int nc), .val (.int ct), .val (.int ok), .unset] [(.int ok)])) _
                refine XS.ifYes X166.here hx rfl (pc0 := 253) (pc' := 260) rfl (hb hby at_253) rfl ((if0 _ _).trans (teq hr192_253_4).1) (by decide) (by decide) ?_
                show Steps p.tables e below (T166.setTop (mkF m 260 #[.val (.int p1), .val (.int p2), .val (.int p3), .val (.int (0 : Int32)), .val (.ref w0), .val (.ref b104), .val (.int r), .val (.int cc), .val (.int ir), .val (.int sg), .val (.int nc), .val (.int ct), .val (.int ok), .unset] [])) _
                refine XS.iconst X166.here hx rfl (hb hby at_260) ?_
                exact kt
              · have evex : ex = (1 : Int32) := by rw [hex, if_neg hr192_233_0, if_pos hr192_238_1, if_pos hr192_243_2, if_neg hr192_248_3, if_neg hr192_253_4]
                rw [evex] at kt
                show Steps p.tables e below (T166.setTop (mkF m 253 #[.val (.int p1), .val (.int p2), .val (.int p3), .val (.int (0 : Int32)), .val (.ref w0), .val (.ref b104), .val (.int r), .val (.int cc), .val (.int ir), .val (.int sg), .val (.int nc), .val (.int ct), .val (.int ok), .unset] [(.int ok)])) _
                refine XS.ifNo X166.here hx rfl (hb hby at_253) rfl ((if0 _ _).trans (feq hr192_253_4).1) ?_
                show Steps p.tables e below (T166.setTop (mkF m 256 #[.val (.int p1), .val (.int p2), .val (.int p3), .val (.int (0 : Int32)), .val (.ref w0), .val (.ref b104), .val (.int r), .val (.int cc), .val (.int ir), .val (.int sg), .val (.int nc), .val (.int ct), .val (.int ok), .unset] [])) _
                refine XS.iconst X166.here hx rfl (hb hby at_256) ?_
                show Steps p.tables e below (T166.setTop (mkF m 257 #[.val (.int p1), .val (.int p2), .val (.int p3), .val (.int (0 : Int32)), .val (.ref w0), .val (.ref b104), .val (.int r), .val (.int cc), .val (.int ir), .val (.int sg), .val (.int nc), .val (.int ct), .val (.int ok), .unset] [(.int (1 : Int32))])) _
                refine XS.goto X166.here hx rfl (pc0 := 257) (pc' := 261) rfl (hb hby at_257) (by decide) (by decide) ?_
                exact kt
          · have evex : ex = (0 : Int32) := by rw [hex, if_neg hr192_233_0, if_pos hr192_238_1, if_neg hr192_243_2]
            rw [evex] at kt
            show Steps p.tables e below (T166.setTop (mkF m 243 #[.val (.int p1), .val (.int p2), .val (.int p3), .val (.int (0 : Int32)), .val (.ref w0), .val (.ref b104), .val (.int r), .val (.int cc), .val (.int ir), .val (.int sg), .val (.int nc), .val (.int ct), .val (.int ok), .unset] [(.int nc)])) _
            refine XS.ifYes X166.here hx rfl (pc0 := 243) (pc' := 260) rfl (hb hby at_243) rfl ((if0 _ _).trans (feq hr192_243_2).2) (by decide) (by decide) ?_
            show Steps p.tables e below (T166.setTop (mkF m 260 #[.val (.int p1), .val (.int p2), .val (.int p3), .val (.int (0 : Int32)), .val (.ref w0), .val (.ref b104), .val (.int r), .val (.int cc), .val (.int ir), .val (.int sg), .val (.int nc), .val (.int ct), .val (.int ok), .unset] [])) _
            refine XS.iconst X166.here hx rfl (hb hby at_260) ?_
            exact kt
        · have evex : ex = (0 : Int32) := by rw [hex, if_neg hr192_233_0, if_neg hr192_238_1]
          rw [evex] at kt
          show Steps p.tables e below (T166.setTop (mkF m 238 #[.val (.int p1), .val (.int p2), .val (.int p3), .val (.int (0 : Int32)), .val (.ref w0), .val (.ref b104), .val (.int r), .val (.int cc), .val (.int ir), .val (.int sg), .val (.int nc), .val (.int ct), .val (.int ok), .unset] [(.int sg)])) _
          refine XS.ifYes X166.here hx rfl (pc0 := 238) (pc' := 260) rfl (hb hby at_238) rfl ((if0 _ _).trans (feq hr192_238_1).2) (by decide) (by decide) ?_
          show Steps p.tables e below (T166.setTop (mkF m 260 #[.val (.int p1), .val (.int p2), .val (.int p3), .val (.int (0 : Int32)), .val (.ref w0), .val (.ref b104), .val (.int r), .val (.int cc), .val (.int ir), .val (.int sg), .val (.int nc), .val (.int ct), .val (.int ok), .unset] [])) _
          refine XS.iconst X166.here hx rfl (hb hby at_260) ?_
          exact kt
    have P193 : ∀ t, Steps p.tables e below (T166.setTop (mkF m 261 #[.val (.int p1), .val (.int p2), .val (.int p3), .val (.int (0 : Int32)), .val (.ref w0), .val (.ref b104), .val (.int r), .val (.int cc), .val (.int ir), .val (.int sg), .val (.int nc), .val (.int ct), .val (.int ok), .unset] [(.int ex)])) t → Steps p.tables e below (s₁.setTop (entryFrame m #[(.int p1), (.int p2), (.int p3)] maxLocals)) t := fun t kt => P191 t (J192 t kt)
    obtain ⟨cq194, kq194, q194a, q194b, q194c⟩ := isOf hZ e166 f169
    obtain ⟨_, _, ⟨T194, L194, k194, n194⟩, -, X194, ⟨Lc194, hQ194, l194, y194, z194⟩, st194⟩ := X166.virtualBack hx (y := (⟨"com/example/libxform/libxform/output/XmlVersion", "allows", "(I)Z"⟩ : MethodName)) (z := (⟨"com/example/libxform/libxform/output/XmlVersion", "allows", "(I)Z"⟩ : MethodName)) hown (mvT hZ (hw _ (List.mem_of_getElem? (i := 13) rfl))) (mvT hZ (hw _ (List.mem_of_getElem? (i := 14) rfl))) (notFace_of_selects (args := #[]) (mvT hZ (hw _ (List.mem_of_getElem? (i := 16) rfl)))) (mvT hZ (hw _ (List.mem_of_getElem? (i := 16) rfl))) (mvT hZ (hw _ (List.mem_of_getElem? (i := 15) rfl))) (by decide) (backOf (W := 0)  (rmA l Z a0 hw [] w0 cc w1 h166 f168) hZ (hw _ (List.mem_of_getElem? (i := 17) rfl)) (hw _ (List.mem_of_getElem? (i := 1) rfl)) (by decide) (by decide)) q194a q194c (g := (mkF m 267 #[.val (.int p1), .val (.int p2), .val (.int p3), .val (.int (0 : Int32)), .val (.ref w0), .val (.ref b104), .val (.int r), .val (.int cc), .val (.int ir), .val (.int sg), .val (.int nc), .val (.int ct), .val (.int ok), .val (.int ex)] [(.int cc), (.ref w0)])) rfl (by rw [hml]; rfl) (Steps.refl _) (argsL := [(.int cc)]) (rest := []) (lenOf pd__I_Z rfl) rfl (by show 2 * 0 + _ ≤ _; exact Nat.le_of_eq rfl) (hb hby at_267) (fun _ _ => ⟨rfl, e166, (by decide : 1 + 0 ≤ _), (by decide : 9 + 0 ≤ _)⟩)
    dsimp only [Pt.U, Pt.locs, Pt.cells, Pt.slots] at X194 l194 y194 z194 st194 hQ194
    subst l194 y194 z194
    obtain ⟨rfl, rfl, e194⟩ := hQ194
    have N194 := Fr.app N166 (Fr.nil n0)
    have P195 : ∀ t, Steps p.tables e below (T194.setTop (mkF m 280 #[.val (.int p1), .val (.int p2), .val (.int p3), .val (.int (0 : Int32)), .val (.ref w0), .val (.ref b104), .val (.int r), .val (.int cc), .val (.int ir), .val (.int sg), .val (.int nc), .val (.int ct), .val (.int ok), .val (.int ex)] [(.int (1 : Int32))])) t → Steps p.tables e below (s₁.setTop (entryFrame m #[(.int p1), (.int p2), (.int p3)] maxLocals)) t := fun t kt => P193 t (by
      show Steps p.tables e below (T166.setTop (mkF m 261 #[.val (.int p1), .val (.int p2), .val (.int p3), .val (.int (0 : Int32)), .val (.ref w0), .val (.ref b104), .val (.int r), .val (.int cc), .val (.int ir), .val (.int sg), .val (.int nc), .val (.int ct), .val (.int ok), .unset] [(.int ex)])) _
      refine XS.istore X166.here hx rfl (hb hby at_261) rfl (l' := #[.val (.int p1), .val (.int p2), .val (.int p3), .val (.int (0 : Int32)), .val (.ref w0), .val (.ref b104), .val (.int r), .val (.int cc), .val (.int ir), .val (.int sg), .val (.int nc), .val (.int ct), .val (.int ok), .val (.int ex)]) rfl ?_
      show Steps p.tables e below (T166.setTop (mkF m 263 #[.val (.int p1), .val (.int p2), .val (.int p3), .val (.int (0 : Int32)), .val (.ref w0), .val (.ref b104), .val (.int r), .val (.int cc), .val (.int ir), .val (.int sg), .val (.int nc), .val (.int ct), .val (.int ok), .val (.int ex)] [])) _
      refine XS.aload X166.here hx rfl (hb hby at_263) rfl rfl ?_
      show Steps p.tables e below (T166.setTop (mkF m 265 #[.val (.int p1), .val (.int p2), .val (.int p3), .val (.int (0 : Int32)), .val (.ref w0), .val (.ref b104), .val (.int r), .val (.int cc), .val (.int ir), .val (.int sg), .val (.int nc), .val (.int ct), .val (.int ok), .val (.int ex)] [(.ref w0)])) _
      refine XS.iload X166.here hx rfl (hb hby at_265) rfl ?_
      show Steps p.tables e below (T166.setTop (mkF m 267 #[.val (.int p1), .val (.int p2), .val (.int p3), .val (.int (0 : Int32)), .val (.ref w0), .val (.ref b104), .val (.int r), .val (.int cc), .val (.int ir), .val (.int sg), .val (.int nc), .val (.int ct), .val (.int ok), .val (.int ex)] [(.int cc), (.ref w0)])) _
      refine st194.trans ?_
      show Steps p.tables e below (T194.setTop (mkF m 270 #[.val (.int p1), .val (.int p2), .val (.int p3), .val (.int (0 : Int32)), .val (.ref w0), .val (.ref b104), .val (.int r), .val (.int cc), .val (.int ir), .val (.int sg), .val (.int nc), .val (.int ct), .val (.int ok), .val (.int ex)] [(.int (fA w0 w1 cc))])) _
      refine XS.iload X194.here hx rfl (hb hby at_270) rfl ?_
      show Steps p.tables e below (T194.setTop (mkF m 272 #[.val (.int p1), .val (.int p2), .val (.int p3), .val (.int (0 : Int32)), .val (.ref w0), .val (.ref b104), .val (.int r), .val (.int cc), .val (.int ir), .val (.int sg), .val (.int nc), .val (.int ct), .val (.int ok), .val (.int ex)] [(.int ex), (.int (fA w0 w1 cc))])) _
      refine XS.icmpNo X194.here hx rfl (hb hby at_272) rfl (teq ((own_law0 w0 w1 hne cc).trans ((by rw [hex, hir, hsg, hnc, hct, hok]; rfl : ex = fEX (fIR cc) (fSG cc) (fNC cc) (fCT cc) (fO0 cc)).symm : _ = ex) : (fA w0 w1 cc) = ex)).2 ?_
      show Steps p.tables e below (T194.setTop (mkF m 275 #[.val (.int p1), .val (.int p2), .val (.int p3), .val (.int (0 : Int32)), .val (.ref w0), .val (.ref b104), .val (.int r), .val (.int cc), .val (.int ir), .val (.int sg), .val (.int nc), .val (.int ct), .val (.int ok), .val (.int ex)] [])) _
      refine XS.iconst X194.here hx rfl (hb hby at_275) ?_
      show Steps p.tables e below (T194.setTop (mkF m 276 #[.val (.int p1), .val (.int p2), .val (.int p3), .val (.int (0 : Int32)), .val (.ref w0), .val (.ref b104), .val (.int r), .val (.int cc), .val (.int ir), .val (.int sg), .val (.int nc), .val (.int ct), .val (.int ok), .val (.int ex)] [(.int (1 : Int32))])) _
      refine XS.goto X194.here hx rfl (pc0 := 276) (pc' := 280) rfl (hb hby at_276) (by decide) (by decide) ?_
      exact kt)
    obtain ⟨fs, hr, hrun, hended, hW, hsame⟩ := X194.leave (v := some (.int (1 : Int32))) (fun h => by rw [Bd.returns] at h; cases h) (hlocks := hlk)
    refine ⟨_, _, P195 _ ?_, hrun, hended, _, _, rfl, ?_, ⟨_, rfl⟩, hW, hsame.mono (by decide) (by decide)⟩
    · show Steps p.tables e below (T194.setTop (mkF m 280 #[.val (.int p1), .val (.int p2), .val (.int p3), .val (.int (0 : Int32)), .val (.ref w0), .val (.ref b104), .val (.int r), .val (.int cc), .val (.int ir), .val (.int sg), .val (.int nc), .val (.int ct), .val (.int ok), .val (.int ex)] [(.int (1 : Int32))])) _
      exact retN X194 hx (t := .boolean) Bd.returns (by simp) (hb hby at_280) hr
    · show Q0 n0 _ T194.heap _
      exact ⟨rfl, N194⟩
  · obtain ⟨T196, X196, e196, st196⟩ := getS2 X0 hx hZ hown (host := "") (Or.inl (hw _ (List.mem_of_getElem? (i := 21) rfl))) Via.refl e0 S1 (g := (mkF m 16 #[.val (.int p1), .val (.int p2), .val (.int p3), .val (.int (1 : Int32)), .unset, .unset, .unset, .unset, .unset, .unset, .unset, .unset, .unset, .unset] [])) rfl (hb hby at_16)
    obtain ⟨T197, h197, k197, X197, e197, E197, A197, B197, st197⟩ := newPE X196 hx hZ (hw _ (List.mem_of_getElem? (i := 3) rfl)) e196 (g := (mkF m 29 #[.val (.int p1), .val (.int p2), .val (.int p3), .val (.int (1 : Int32)), .val (.ref w1), .unset, .unset, .unset, .unset, .unset, .unset, .unset, .unset, .unset] [(.int (9 : Int32))])) rfl (hb hby at_29) rfl (by decide) (cap := 9) (by decide) (by decide) (by decide) (by decide) (ad := "[I") (by decide)
    obtain ⟨b197, g197⟩ : ∃ z, z = h0.size := ⟨_, rfl⟩
    rw [← g197] at A197 B197 st197
    have ne197_w0 : w0 ≠ b197 := Nat.ne_of_lt (Nat.lt_of_lt_of_le E0.lt (Nat.le_of_eq g197.symm))
    have ne197_w1 : w1 ≠ b197 := Nat.ne_of_lt (Nat.lt_of_lt_of_le E1.lt (Nat.le_of_eq g197.symm))
    have gb197 : n0 ≤ b197 := Nat.le_trans Z0 (Nat.le_of_eq g197.symm)
    have sz197 : n0 ≤ h197.size := Nat.le_trans Z0 E197.1
    have f198 := S0.ext E197
    have f199 := S1.ext E197
    have f200 := E0.ext E197
    have f201 := E1.ext E197
    have V197 : Arv Z h197 b197 k197 .int (9 : Int32) [(.int (0 : Int32)), (.int (0 : Int32)), (.int (0 : Int32)), (.int (0 : Int32)), (.int (0 : Int32)), (.int (0 : Int32)), (.int (0 : Int32)), (.int (0 : Int32)), (.int (0 : Int32))] (.int (0 : Int32)) := (Arv.new A197 (by decide)).pad (pad_rep [] (.int (0 : Int32)) 9)
    obtain ⟨cl202, Ar202, q202, S202, Nn202, H202, G202⟩ := id V197
    have hin202 : ¬ ((0 : Int32) < 0 ∨ cl202.slots.size ≤ ((0 : Int32)).toNatClampNeg) := inb_of S202 ⟨by decide, by decide⟩
    obtain ⟨T203, h203, X203, e203, W203, st203⟩ := stI X197 hx hZ e197 Ar202 (j := (0 : Int32)) hin202 (g := (mkF m 34 #[.val (.int p1), .val (.int p2), .val (.int p3), .val (.int (1 : Int32)), .val (.ref w1), .unset, .unset, .unset, .unset, .unset, .unset, .unset, .unset, .unset] [(.int (0 : Int32)), (.int (0 : Int32)), (.ref b197), (.ref b197)])) rfl rfl (hb hby at_34)
    have f204 := f198.wr W203
    have f205 := f199.wr W203
    have f206 := f200.wr W203
    have f207 := f201.wr W203
    have f208 := B197.wr W203
    have V203 : Arv Z h203 b197 k197 .int (9 : Int32) [(.int (0 : Int32)), (.int (0 : Int32)), (.int (0 : Int32)), (.int (0 : Int32)), (.int (0 : Int32)), (.int (0 : Int32)), (.int (0 : Int32)), (.int (0 : Int32)), (.int (0 : Int32))] (.int (0 : Int32)) := Arv.set Ar202 q202 S202 Nn202 H202 G202 rfl W203 0 rfl (Nat.le_of_ble_eq_true rfl)
    have N203 := Fr.snoc X203 N0 gb197
    have sz203 : n0 ≤ h203.size := Nat.le_trans sz197 (Keep.of_wr W203).1
    obtain ⟨cl209, Ar209, q209, S209, Nn209, H209, G209⟩ := id V203
    have hin209 : ¬ ((1 : Int32) < 0 ∨ cl209.slots.size ≤ ((1 : Int32)).toNatClampNeg) := inb_of S209 ⟨by decide, by decide⟩
    obtain ⟨T210, h210, X210, e210, W210, st210⟩ := stI X203 hx hZ e203 Ar209 (j := (1 : Int32)) hin209 (g := (mkF m 39 #[.val (.int p1), .val (.int p2), .val (.int p3), .val (.int (1 : Int32)), .val (.ref w1), .unset, .unset, .unset, .unset, .unset, .unset, .unset, .unset, .unset] [(.int (32 : Int32)), (.int (1 : Int32)), (.ref b197), (.ref b197)])) rfl rfl (hb hby at_39)
    have f211 := f204.wr W210
    have f212 := f205.wr W210
    have f213 := f206.wr W210
    have f214 := f207.wr W210
    have f215 := f208.wr W210
    have V210 : Arv Z h210 b197 k197 .int (9 : Int32) [(.int (0 : Int32)), (.int (32 : Int32)), (.int (0 : Int32)), (.int (0 : Int32)), (.int (0 : Int32)), (.int (0 : Int32)), (.int (0 : Int32)), (.int (0 : Int32)), (.int (0 : Int32))] (.int (0 : Int32)) := Arv.set Ar209 q209 S209 Nn209 H209 G209 rfl W210 1 rfl (Nat.le_of_ble_eq_true rfl)
    have N210 := Fr.snoc X210 N203 gb197
    have sz210 : n0 ≤ h210.size := Nat.le_trans sz203 (Keep.of_wr W210).1
    obtain ⟨cl216, Ar216, q216, S216, Nn216, H216, G216⟩ := id V210
    have hin216 : ¬ ((2 : Int32) < 0 ∨ cl216.slots.size ≤ ((2 : Int32)).toNatClampNeg) := inb_of S216 ⟨by decide, by decide⟩
    obtain ⟨T217, h217, X217, e217, W217, st217⟩ := stI X210 hx hZ e210 Ar216 (j := (2 : Int32)) hin216 (g := (mkF m 44 #[.val (.int p1), .val (.int p2), .val (.int p3), .val (.int (1 : Int32)), .val (.ref w1), .unset, .unset, .unset, .unset, .unset, .unset, .unset, .unset, .unset] [(.int (55296 : Int32)), (.int (2 : Int32)), (.ref b197), (.ref b197)])) rfl rfl (hb hby at_44)
    have f218 := f211.wr W217
    have f219 := f212.wr W217
    have f220 := f213.wr W217
    have f221 := f214.wr W217
    have f222 := f215.wr W217
    have V217 : Arv Z h217 b197 k197 .int (9 : Int32) [(.int (0 : Int32)), (.int (32 : Int32)), (.int (55296 : Int32)), (.int (0 : Int32)), (.int (0 : Int32)), (.int (0 : Int32)), (.int (0 : Int32)), (.int (0 : Int32)), (.int (0 : Int32))] (.int (0 : Int32)) := Arv.set Ar216 q216 S216 Nn216 H216 G216 rfl W217 2 rfl (Nat.le_of_ble_eq_true rfl)
    have N217 := Fr.snoc X217 N210 gb197
    have sz217 : n0 ≤ h217.size := Nat.le_trans sz210 (Keep.of_wr W217).1
    obtain ⟨cl223, Ar223, q223, S223, Nn223, H223, G223⟩ := id V217
    have hin223 : ¬ ((3 : Int32) < 0 ∨ cl223.slots.size ≤ ((3 : Int32)).toNatClampNeg) := inb_of S223 ⟨by decide, by decide⟩
    obtain ⟨T224, h224, X224, e224, W224, st224⟩ := stI X217 hx hZ e217 Ar223 (j := (3 : Int32)) hin223 (g := (mkF m 49 #[.val (.int p1), .val (.int p2), .val (.int p3), .val (.int (1 : Int32)), .val (.ref w1), .unset, .unset, .unset, .unset, .unset, .unset, .unset, .unset, .unset] [(.int (57344 : Int32)), (.int (3 : Int32)), (.ref b197), (.ref b197)])) rfl rfl (hb hby at_49)
    have f225 := f218.wr W224
    have f226 := f219.wr W224
    have f227 := f220.wr W224
    have f228 := f221.wr W224
    have f229 := f222.wr W224
    have V224 : Arv Z h224 b197 k197 .int (9 : Int32) [(.int (0 : Int32)), (.int (32 : Int32)), (.int (55296 : Int32)), (.int (57344 : Int32)), (.int (0 : Int32)), (.int (0 : Int32)), (.int (0 : Int32)), (.int (0 : Int32)), (.int (0 : Int32))] (.int (0 : Int32)) := Arv.set Ar223 q223 S223 Nn223 H223 G223 rfl W224 3 rfl (Nat.le_of_ble_eq_true rfl)
    have N224 := Fr.snoc X224 N217 gb197
    have sz224 : n0 ≤ h224.size := Nat.le_trans sz217 (Keep.of_wr W224).1
    obtain ⟨cl230, Ar230, q230, S230, Nn230, H230, G230⟩ := id V224
    have hin230 : ¬ ((4 : Int32) < 0 ∨ cl230.slots.size ≤ ((4 : Int32)).toNatClampNeg) := inb_of S230 ⟨by decide, by decide⟩
    obtain ⟨T231, h231, X231, e231, W231, st231⟩ := stI X224 hx hZ e224 Ar230 (j := (4 : Int32)) hin230 (g := (mkF m 54 #[.val (.int p1), .val (.int p2), .val (.int p3), .val (.int (1 : Int32)), .val (.ref w1), .unset, .unset, .unset, .unset, .unset, .unset, .unset, .unset, .unset] [(.int (65534 : Int32)), (.int (4 : Int32)), (.ref b197), (.ref b197)])) rfl rfl (hb hby at_54)
    have f232 := f225.wr W231
    have f233 := f226.wr W231
    have f234 := f227.wr W231
    have f235 := f228.wr W231
    have f236 := f229.wr W231
    have V231 : Arv Z h231 b197 k197 .int (9 : Int32) [(.int (0 : Int32)), (.int (32 : Int32)), (.int (55296 : Int32)), (.int (57344 : Int32)), (.int (65534 : Int32)), (.int (0 : Int32)), (.int (0 : Int32)), (.int (0 : Int32)), (.int (0 : Int32))] (.int (0 : Int32)) := Arv.set Ar230 q230 S230 Nn230 H230 G230 rfl W231 4 rfl (Nat.le_of_ble_eq_true rfl)
    have N231 := Fr.snoc X231 N224 gb197
    have sz231 : n0 ≤ h231.size := Nat.le_trans sz224 (Keep.of_wr W231).1
    obtain ⟨cl237, Ar237, q237, S237, Nn237, H237, G237⟩ := id V231
    have hin237 : ¬ ((5 : Int32) < 0 ∨ cl237.slots.size ≤ ((5 : Int32)).toNatClampNeg) := inb_of S237 ⟨by decide, by decide⟩
    obtain ⟨T238, h238, X238, e238, W238, st238⟩ := stI X231 hx hZ e231 Ar237 (j := (5 : Int32)) hin237 (g := (mkF m 59 #[.val (.int p1), .val (.int p2), .val (.int p3), .val (.int (1 : Int32)), .val (.ref w1), .unset, .unset, .unset, .unset, .unset, .unset, .unset, .unset, .unset] [(.int (65536 : Int32)), (.int (5 : Int32)), (.ref b197), (.ref b197)])) rfl rfl (hb hby at_59)
    have f239 := f232.wr W238
    have f240 := f233.wr W238
    have f241 := f234.wr W238
    have f242 := f235.wr W238
    have f243 := f236.wr W238
    have V238 : Arv Z h238 b197 k197 .int (9 : Int32) [(.int (0 : Int32)), (.int (32 : Int32)), (.int (55296 : Int32)), (.int (57344 : Int32)), (.int (65534 : Int32)), (.int (65536 : Int32)), (.int (0 : Int32)), (.int (0 : Int32)), (.int (0 : Int32))] (.int (0 : Int32)) := Arv.set Ar237 q237 S237 Nn237 H237 G237 rfl W238 5 rfl (Nat.le_of_ble_eq_true rfl)
    have N238 := Fr.snoc X238 N231 gb197
    have sz238 : n0 ≤ h238.size := Nat.le_trans sz231 (Keep.of_wr W238).1
    obtain ⟨cl244, Ar244, q244, S244, Nn244, H244, G244⟩ := id V238
    have hin244 : ¬ ((6 : Int32) < 0 ∨ cl244.slots.size ≤ ((6 : Int32)).toNatClampNeg) := inb_of S244 ⟨by decide, by decide⟩
    obtain ⟨T245, h245, X245, e245, W245, st245⟩ := stI X238 hx hZ e238 Ar244 (j := (6 : Int32)) hin244 (g := (mkF m 65 #[.val (.int p1), .val (.int p2), .val (.int p3), .val (.int (1 : Int32)), .val (.ref w1), .unset, .unset, .unset, .unset, .unset, .unset, .unset, .unset, .unset] [(.int (1114112 : Int32)), (.int (6 : Int32)), (.ref b197), (.ref b197)])) rfl rfl (hb hby at_65)
    have f246 := f239.wr W245
    have f247 := f240.wr W245
    have f248 := f241.wr W245
    have f249 := f242.wr W245
    have f250 := f243.wr W245
    have V245 : Arv Z h245 b197 k197 .int (9 : Int32) [(.int (0 : Int32)), (.int (32 : Int32)), (.int (55296 : Int32)), (.int (57344 : Int32)), (.int (65534 : Int32)), (.int (65536 : Int32)), (.int (1114112 : Int32)), (.int (0 : Int32)), (.int (0 : Int32))] (.int (0 : Int32)) := Arv.set Ar244 q244 S244 Nn244 H244 G244 rfl W245 6 rfl (Nat.le_of_ble_eq_true rfl)
    have N245 := Fr.snoc X245 N238 gb197
    have sz245 : n0 ≤ h245.size := Nat.le_trans sz238 (Keep.of_wr W245).1
    obtain ⟨cl251, Ar251, q251, S251, Nn251, H251, G251⟩ := id V245
    have hin251 : ¬ ((7 : Int32) < 0 ∨ cl251.slots.size ≤ ((7 : Int32)).toNatClampNeg) := inb_of S251 ⟨by decide, by decide⟩
    obtain ⟨T252, h252, X252, e252, W252, st252⟩ := stI X245 hx hZ e245 Ar251 (j := (7 : Int32)) hin251 (g := (mkF m 71 #[.val (.int p1), .val (.int p2), .val (.int p3), .val (.int (1 : Int32)), .val (.ref w1), .unset, .unset, .unset, .unset, .unset, .unset, .unset, .unset, .unset] [(.int (9 : Int32)), (.int (7 : Int32)), (.ref b197), (.ref b197)])) rfl rfl (hb hby at_71)
    have f253 := f246.wr W252
    have f254 := f247.wr W252
    have f255 := f248.wr W252
    have f256 := f249.wr W252
    have f257 := f250.wr W252
    have V252 : Arv Z h252 b197 k197 .int (9 : Int32) [(.int (0 : Int32)), (.int (32 : Int32)), (.int (55296 : Int32)), (.int (57344 : Int32)), (.int (65534 : Int32)), (.int (65536 : Int32)), (.int (1114112 : Int32)), (.int (9 : Int32)), (.int (0 : Int32))] (.int (0 : Int32)) := Arv.set Ar251 q251 S251 Nn251 H251 G251 rfl W252 7 rfl (Nat.le_of_ble_eq_true rfl)
    have N252 := Fr.snoc X252 N245 gb197
    have sz252 : n0 ≤ h252.size := Nat.le_trans sz245 (Keep.of_wr W252).1
    obtain ⟨cl258, Ar258, q258, S258, Nn258, H258, G258⟩ := id V252
    have hin258 : ¬ ((8 : Int32) < 0 ∨ cl258.slots.size ≤ ((8 : Int32)).toNatClampNeg) := inb_of S258 ⟨by decide, by decide⟩
    obtain ⟨T259, h259, X259, e259, W259, st259⟩ := stI X252 hx hZ e252 Ar258 (j := (8 : Int32)) hin258 (g := (mkF m 77 #[.val (.int p1), .val (.int p2), .val (.int p3), .val (.int (1 : Int32)), .val (.ref w1), .unset, .unset, .unset, .unset, .unset, .unset, .unset, .unset, .unset] [(.int (13 : Int32)), (.int (8 : Int32)), (.ref b197), (.ref b197)])) rfl rfl (hb hby at_77)
    have f260 := f253.wr W259
    have f261 := f254.wr W259
    have f262 := f255.wr W259
    have f263 := f256.wr W259
    have f264 := f257.wr W259
    have V259 : Arv Z h259 b197 k197 .int (9 : Int32) [(.int (0 : Int32)), (.int (32 : Int32)), (.int (55296 : Int32)), (.int (57344 : Int32)), (.int (65534 : Int32)), (.int (65536 : Int32)), (.int (1114112 : Int32)), (.int (9 : Int32)), (.int (13 : Int32))] (.int (0 : Int32)) := Arv.set Ar258 q258 S258 Nn258 H258 G258 rfl W259 8 rfl (Nat.le_of_ble_eq_true rfl)
    have N259 := Fr.snoc X259 N252 gb197
    have sz259 : n0 ≤ h259.size := Nat.le_trans sz252 (Keep.of_wr W259).1
    have P265 : ∀ t, Steps p.tables e below (T259.setTop (mkF m 89 #[.val (.int p1), .val (.int p2), .val (.int p3), .val (.int (1 : Int32)), .val (.ref w1), .val (.ref b197), .val (.int ((p2 &&& (2147483647 : Int32)) - ((p2 &&& (2147483647 : Int32)) / (10 : Int32)) * (10 : Int32))), .unset, .unset, .unset, .unset, .unset, .unset, .unset] [])) t → Steps p.tables e below (s₁.setTop (entryFrame m #[(.int p1), (.int p2), (.int p3)] maxLocals)) t := fun t kt => P101 t (by
      show Steps p.tables e below (s₁.setTop (mkF m 3 #[.val (.int p1), .val (.int p2), .val (.int p3), .unset, .unset, .unset, .unset, .unset, .unset, .unset, .unset, .unset, .unset, .unset] [(.int (p3 &&& (1 : Int32)))])) _
      refine XS.ifNo X0.here hx rfl (hb hby at_3) rfl ((if0 _ _).trans (feq hc3_102).1) ?_
      show Steps p.tables e below (s₁.setTop (mkF m 6 #[.val (.int p1), .val (.int p2), .val (.int p3), .unset, .unset, .unset, .unset, .unset, .unset, .unset, .unset, .unset, .unset, .unset] [])) _
      refine XS.iconst X0.here hx rfl (hb hby at_6) ?_
      show Steps p.tables e below (s₁.setTop (mkF m 7 #[.val (.int p1), .val (.int p2), .val (.int p3), .unset, .unset, .unset, .unset, .unset, .unset, .unset, .unset, .unset, .unset, .unset] [(.int (1 : Int32))])) _
      refine XS.goto X0.here hx rfl (pc0 := 7) (pc' := 11) rfl (hb hby at_7) (by decide) (by decide) ?_
      show Steps p.tables e below (s₁.setTop (mkF m 11 #[.val (.int p1), .val (.int p2), .val (.int p3), .unset, .unset, .unset, .unset, .unset, .unset, .unset, .unset, .unset, .unset, .unset] [(.int (1 : Int32))])) _
      refine XS.istoreN X0.here hx rfl (hb hby at_11) rfl (l' := #[.val (.int p1), .val (.int p2), .val (.int p3), .val (.int (1 : Int32)), .unset, .unset, .unset, .unset, .unset, .unset, .unset, .unset, .unset, .unset]) rfl ?_
      show Steps p.tables e below (s₁.setTop (mkF m 12 #[.val (.int p1), .val (.int p2), .val (.int p3), .val (.int (1 : Int32)), .unset, .unset, .unset, .unset, .unset, .unset, .unset, .unset, .unset, .unset] [])) _
      refine XS.iloadN X0.here hx rfl (hb hby at_12) rfl ?_
      show Steps p.tables e below (s₁.setTop (mkF m 13 #[.val (.int p1), .val (.int p2), .val (.int p3), .val (.int (1 : Int32)), .unset, .unset, .unset, .unset, .unset, .unset, .unset, .unset, .unset, .unset] [(.int (1 : Int32))])) _
      refine XS.ifNo X0.here hx rfl (hb hby at_13) rfl ((if0 _ _).trans (feq ((by decide) : ¬ ((1 : Int32) = (0 : Int32)))).1) ?_
      show Steps p.tables e below (s₁.setTop (mkF m 16 #[.val (.int p1), .val (.int p2), .val (.int p3), .val (.int (1 : Int32)), .unset, .unset, .unset, .unset, .unset, .unset, .unset, .unset, .unset, .unset] [])) _
      refine st196 _ ?_
      show Steps p.tables e below (T196.setTop (mkF m 19 #[.val (.int p1), .val (.int p2), .val (.int p3), .val (.int (1 : Int32)), .unset, .unset, .unset, .unset, .unset, .unset, .unset, .unset, .unset, .unset] [(.ref w1)])) _
      refine XS.goto X196.here hx rfl (pc0 := 19) (pc' := 25) rfl (hb hby at_19) (by decide) (by decide) ?_
      show Steps p.tables e below (T196.setTop (mkF m 25 #[.val (.int p1), .val (.int p2), .val (.int p3), .val (.int (1 : Int32)), .unset, .unset, .unset, .unset, .unset, .unset, .unset, .unset, .unset, .unset] [(.ref w1)])) _
      refine XS.astore X196.here hx rfl (hb hby at_25) rfl rfl (l' := #[.val (.int p1), .val (.int p2), .val (.int p3), .val (.int (1 : Int32)), .val (.ref w1), .unset, .unset, .unset, .unset, .unset, .unset, .unset, .unset, .unset]) rfl ?_
      show Steps p.tables e below (T196.setTop (mkF m 27 #[.val (.int p1), .val (.int p2), .val (.int p3), .val (.int (1 : Int32)), .val (.ref w1), .unset, .unset, .unset, .unset, .unset, .unset, .unset, .unset, .unset] [])) _
      refine XS.bipush X196.here hx rfl (hb hby at_27) ?_
      show Steps p.tables e below (T196.setTop (mkF m 29 #[.val (.int p1), .val (.int p2), .val (.int p3), .val (.int (1 : Int32)), .val (.ref w1), .unset, .unset, .unset, .unset, .unset, .unset, .unset, .unset, .unset] [(.int (9 : Int32))])) _
      refine st197 _ ?_
      show Steps p.tables e below (T197.setTop (mkF m 31 #[.val (.int p1), .val (.int p2), .val (.int p3), .val (.int (1 : Int32)), .val (.ref w1), .unset, .unset, .unset, .unset, .unset, .unset, .unset, .unset, .unset] [(.ref b197)])) _
      refine XS.dup X197.here hx rfl (hb hby at_31) rfl rfl ?_
      show Steps p.tables e below (T197.setTop (mkF m 32 #[.val (.int p1), .val (.int p2), .val (.int p3), .val (.int (1 : Int32)), .val (.ref w1), .unset, .unset, .unset, .unset, .unset, .unset, .unset, .unset, .unset] [(.ref b197), (.ref b197)])) _
      refine XS.iconst X197.here hx rfl (hb hby at_32) ?_
      show Steps p.tables e below (T197.setTop (mkF m 33 #[.val (.int p1), .val (.int p2), .val (.int p3), .val (.int (1 : Int32)), .val (.ref w1), .unset, .unset, .unset, .unset, .unset, .unset, .unset, .unset, .unset] [(.int (0 : Int32)), (.ref b197), (.ref b197)])) _
      refine XS.iconst X197.here hx rfl (hb hby at_33) ?_
      show Steps p.tables e below (T197.setTop (mkF m 34 #[.val (.int p1), .val (.int p2), .val (.int p3), .val (.int (1 : Int32)), .val (.ref w1), .unset, .unset, .unset, .unset, .unset, .unset, .unset, .unset, .unset] [(.int (0 : Int32)), (.int (0 : Int32)), (.ref b197), (.ref b197)])) _
      refine st203 _ ?_
      show Steps p.tables e below (T203.setTop (mkF m 35 #[.val (.int p1), .val (.int p2), .val (.int p3), .val (.int (1 : Int32)), .val (.ref w1), .unset, .unset, .unset, .unset, .unset, .unset, .unset, .unset, .unset] [(.ref b197)])) _
      refine XS.dup X203.here hx rfl (hb hby at_35) rfl rfl ?_
      show Steps p.tables e below (T203.setTop (mkF m 36 #[.val (.int p1), .val (.int p2), .val (.int p3), .val (.int (1 : Int32)), .val (.ref w1), .unset, .unset, .unset, .unset, .unset, .unset, .unset, .unset, .unset] [(.ref b197), (.ref b197)])) _
      refine XS.iconst X203.here hx rfl (hb hby at_36) ?_
      show Steps p.tables e below (T203.setTop (mkF m 37 #[.val (.int p1), .val (.int p2), .val (.int p3), .val (.int (1 : Int32)), .val (.ref w1), .unset, .unset, .unset, .unset, .unset, .unset, .unset, .unset, .unset] [(.int (1 : Int32)), (.ref b197), (.ref b197)])) _
      refine XS.bipush X203.here hx rfl (hb hby at_37) ?_
      show Steps p.tables e below (T203.setTop (mkF m 39 #[.val (.int p1), .val (.int p2), .val (.int p3), .val (.int (1 : Int32)), .val (.ref w1), .unset, .unset, .unset, .unset, .unset, .unset, .unset, .unset, .unset] [(.int (32 : Int32)), (.int (1 : Int32)), (.ref b197), (.ref b197)])) _
      refine st210 _ ?_
      show Steps p.tables e below (T210.setTop (mkF m 40 #[.val (.int p1), .val (.int p2), .val (.int p3), .val (.int (1 : Int32)), .val (.ref w1), .unset, .unset, .unset, .unset, .unset, .unset, .unset, .unset, .unset] [(.ref b197)])) _
      refine XS.dup X210.here hx rfl (hb hby at_40) rfl rfl ?_
      show Steps p.tables e below (T210.setTop (mkF m 41 #[.val (.int p1), .val (.int p2), .val (.int p3), .val (.int (1 : Int32)), .val (.ref w1), .unset, .unset, .unset, .unset, .unset, .unset, .unset, .unset, .unset] [(.ref b197), (.ref b197)])) _
      refine XS.iconst X210.here hx rfl (hb hby at_41) ?_
      show Steps p.tables e below (T210.setTop (mkF m 42 #[.val (.int p1), .val (.int p2), .val (.int p3), .val (.int (1 : Int32)), .val (.ref w1), .unset, .unset, .unset, .unset, .unset, .unset, .unset, .unset, .unset] [(.int (2 : Int32)), (.ref b197), (.ref b197)])) _
      refine X210.ldcInt hx hown (mvT hZ (hw _ (List.mem_of_getElem? (i := 4) rfl))) (g := (mkF m 42 #[.val (.int p1), .val (.int p2), .val (.int p3), .val (.int (1 : Int32)), .val (.ref w1), .unset, .unset, .unset, .unset, .unset, .unset, .unset, .unset, .unset] [(.int (2 : Int32)), (.ref b197), (.ref b197)])) rfl (hb hby at_42) _ ?_
      show Steps p.tables e below (T210.setTop (mkF m 44 #[.val (.int p1), .val (.int p2), .val (.int p3), .val (.int (1 : Int32)), .val (.ref w1), .unset, .unset, .unset, .unset, .unset, .unset, .unset, .unset, .unset] [(.int (55296 : Int32)), (.int (2 : Int32)), (.ref b197), (.ref b197)])) _
      refine st217 _ ?_
      show Steps p.tables e below (T217.setTop (mkF m 45 #[.val (.int p1), .val (.int p2), .val (.int p3), .val (.int (1 : Int32)), .val (.ref w1), .unset, .unset, .unset, .unset, .unset, .unset, .unset, .unset, .unset] [(.ref b197)])) _
      refine XS.dup X217.here hx rfl (hb hby at_45) rfl rfl ?_
      show Steps p.tables e below (T217.setTop (mkF m 46 #[.val (.int p1), .val (.int p2), .val (.int p3), .val (.int (1 : Int32)), .val (.ref w1), .unset, .unset, .unset, .unset, .unset, .unset, .unset, .unset, .unset] [(.ref b197), (.ref b197)])) _
      refine XS.iconst X217.here hx rfl (hb hby at_46) ?_
      show Steps p.tables e below (T217.setTop (mkF m 47 #[.val (.int p1), .val (.int p2), .val (.int p3), .val (.int (1 : Int32)), .val (.ref w1), .unset, .unset, .unset, .unset, .unset, .unset, .unset, .unset, .unset] [(.int (3 : Int32)), (.ref b197), (.ref b197)])) _
      refine X217.ldcInt hx hown (mvT hZ (hw _ (List.mem_of_getElem? (i := 5) rfl))) (g := (mkF m 47 #[.val (.int p1), .val (.int p2), .val (.int p3), .val (.int (1 : Int32)), .val (.ref w1), .unset, .unset, .unset, .unset, .unset, .unset, .unset, .unset, .unset] [(.int (3 : Int32)), (.ref b197), (.ref b197)])) rfl (hb hby at_47) _ ?_
      show Steps p.tables e below (T217.setTop (mkF m 49 #[.val (.int p1), .val (.int p2), .val (.int p3), .val (.int (1 : Int32)), .val (.ref w1), .unset, .unset, .unset, .unset, .unset, .unset, .unset, .unset, .unset] [(.int (57344 : Int32)), (.int (3 : Int32)), (.ref b197), (.ref b197)])) _
      refine st224 _ ?_
      show Steps p.tables e below (T224.setTop (mkF m 50 #[.val (.int p1), .val (.int p2), .val (.int p3), .val (.int (1 : Int32)), .val (.ref w1), .unset, .unset, .unset, .unset, .unset, .unset, .unset, .unset, .unset] [(.ref b197)])) _
      refine XS.dup X224.here hx rfl (hb hby at_50) rfl rfl ?_
      show Steps p.tables e below (T224.setTop (mkF m 51 #[.val (.int p1), .val (.int p2), .val (.int p3), .val (.int (1 : Int32)), .val (.ref w1), .unset, .unset, .unset, .unset, .unset, .unset, .unset, .unset, .unset] [(.ref b197), (.ref b197)])) _
      refine XS.iconst X224.here hx rfl (hb hby at_51) ?_
      show Steps p.tables e below (T224.setTop (mkF m 52 #[.val (.int p1), .val (.int p2), .val (.int p3), .val (.int (1 : Int32)), .val (.ref w1), .unset, .unset, .unset, .unset, .unset, .unset, .unset, .unset, .unset] [(.int (4 : Int32)), (.ref b197), (.ref b197)])) _
      refine X224.ldcInt hx hown (mvT hZ (hw _ (List.mem_of_getElem? (i := 6) rfl))) (g := (mkF m 52 #[.val (.int p1), .val (.int p2), .val (.int p3), .val (.int (1 : Int32)), .val (.ref w1), .unset, .unset, .unset, .unset, .unset, .unset, .unset, .unset, .unset] [(.int (4 : Int32)), (.ref b197), (.ref b197)])) rfl (hb hby at_52) _ ?_
      show Steps p.tables e below (T224.setTop (mkF m 54 #[.val (.int p1), .val (.int p2), .val (.int p3), .val (.int (1 : Int32)), .val (.ref w1), .unset, .unset, .unset, .unset, .unset, .unset, .unset, .unset, .unset] [(.int (65534 : Int32)), (.int (4 : Int32)), (.ref b197), (.ref b197)])) _
      refine st231 _ ?_
      show Steps p.tables e below (T231.setTop (mkF m 55 #[.val (.int p1), .val (.int p2), .val (.int p3), .val (.int (1 : Int32)), .val (.ref w1), .unset, .unset, .unset, .unset, .unset, .unset, .unset, .unset, .unset] [(.ref b197)])) _
      refine XS.dup X231.here hx rfl (hb hby at_55) rfl rfl ?_
      show Steps p.tables e below (T231.setTop (mkF m 56 #[.val (.int p1), .val (.int p2), .val (.int p3), .val (.int (1 : Int32)), .val (.ref w1), .unset, .unset, .unset, .unset, .unset, .unset, .unset, .unset, .unset] [(.ref b197), (.ref b197)])) _
      refine XS.iconst X231.here hx rfl (hb hby at_56) ?_
      show Steps p.tables e below (T231.setTop (mkF m 57 #[.val (.int p1), .val (.int p2), .val (.int p3), .val (.int (1 : Int32)), .val (.ref w1), .unset, .unset, .unset, .unset, .unset, .unset, .unset, .unset, .unset] [(.int (5 : Int32)), (.ref b197), (.ref b197)])) _
      refine X231.ldcInt hx hown (mvT hZ (hw _ (List.mem_of_getElem? (i := 7) rfl))) (g := (mkF m 57 #[.val (.int p1), .val (.int p2), .val (.int p3), .val (.int (1 : Int32)), .val (.ref w1), .unset, .unset, .unset, .unset, .unset, .unset, .unset, .unset, .unset] [(.int (5 : Int32)), (.ref b197), (.ref b197)])) rfl (hb hby at_57) _ ?_
      show Steps p.tables e below (T231.setTop (mkF m 59 #[.val (.int p1), .val (.int p2), .val (.int p3), .val (.int (1 : Int32)), .val (.ref w1), .unset, .unset, .unset, .unset, .unset, .unset, .unset, .unset, .unset] [(.int (65536 : Int32)), (.int (5 : Int32)), (.ref b197), (.ref b197)])) _
      refine st238 _ ?_
      show Steps p.tables e below (T238.setTop (mkF m 60 #[.val (.int p1), .val (.int p2), .val (.int p3), .val (.int (1 : Int32)), .val (.ref w1), .unset, .unset, .unset, .unset, .unset, .unset, .unset, .unset, .unset] [(.ref b197)])) _
      refine XS.dup X238.here hx rfl (hb hby at_60) rfl rfl ?_
      show Steps p.tables e below (T238.setTop (mkF m 61 #[.val (.int p1), .val (.int p2), .val (.int p3), .val (.int (1 : Int32)), .val (.ref w1), .unset, .unset, .unset, .unset, .unset, .unset, .unset, .unset, .unset] [(.ref b197), (.ref b197)])) _
      refine XS.bipush X238.here hx rfl (hb hby at_61) ?_
      show Steps p.tables e below (T238.setTop (mkF m 63 #[.val (.int p1), .val (.int p2), .val (.int p3), .val (.int (1 : Int32)), .val (.ref w1), .unset, .unset, .unset, .unset, .unset, .unset, .unset, .unset, .unset] [(.int (6 : Int32)), (.ref b197), (.ref b197)])) _
      refine X238.ldcInt hx hown (mvT hZ (hw _ (List.mem_of_getElem? (i := 8) rfl))) (g := (mkF m 63 #[.val (.int p1), .val (.int p2), .val (.int p3), .val (.int (1 : Int32)), .val (.ref w1), .unset, .unset, .unset, .unset, .unset, .unset, .unset, .unset, .unset] [(.int (6 : Int32)), (.ref b197), (.ref b197)])) rfl (hb hby at_63) _ ?_
      show Steps p.tables e below (T238.setTop (mkF m 65 #[.val (.int p1), .val (.int p2), .val (.int p3), .val (.int (1 : Int32)), .val (.ref w1), .unset, .unset, .unset, .unset, .unset, .unset, .unset, .unset, .unset] [(.int (1114112 : Int32)), (.int (6 : Int32)), (.ref b197), (.ref b197)])) _
      refine st245 _ ?_
      show Steps p.tables e below (T245.setTop (mkF m 66 #[.val (.int p1), .val (.int p2), .val (.int p3), .val (.int (1 : Int32)), .val (.ref w1), .unset, .unset, .unset, .unset, .unset, .unset, .unset, .unset, .unset] [(.ref b197)])) _
      refine XS.dup X245.here hx rfl (hb hby at_66) rfl rfl ?_
      show Steps p.tables e below (T245.setTop (mkF m 67 #[.val (.int p1), .val (.int p2), .val (.int p3), .val (.int (1 : Int32)), .val (.ref w1), .unset, .unset, .unset, .unset, .unset, .unset, .unset, .unset, .unset] [(.ref b197), (.ref b197)])) _
      refine XS.bipush X245.here hx rfl (hb hby at_67) ?_
      show Steps p.tables e below (T245.setTop (mkF m 69 #[.val (.int p1), .val (.int p2), .val (.int p3), .val (.int (1 : Int32)), .val (.ref w1), .unset, .unset, .unset, .unset, .unset, .unset, .unset, .unset, .unset] [(.int (7 : Int32)), (.ref b197), (.ref b197)])) _
      refine XS.bipush X245.here hx rfl (hb hby at_69) ?_
      show Steps p.tables e below (T245.setTop (mkF m 71 #[.val (.int p1), .val (.int p2), .val (.int p3), .val (.int (1 : Int32)), .val (.ref w1), .unset, .unset, .unset, .unset, .unset, .unset, .unset, .unset, .unset] [(.int (9 : Int32)), (.int (7 : Int32)), (.ref b197), (.ref b197)])) _
      refine st252 _ ?_
      show Steps p.tables e below (T252.setTop (mkF m 72 #[.val (.int p1), .val (.int p2), .val (.int p3), .val (.int (1 : Int32)), .val (.ref w1), .unset, .unset, .unset, .unset, .unset, .unset, .unset, .unset, .unset] [(.ref b197)])) _
      refine XS.dup X252.here hx rfl (hb hby at_72) rfl rfl ?_
      show Steps p.tables e below (T252.setTop (mkF m 73 #[.val (.int p1), .val (.int p2), .val (.int p3), .val (.int (1 : Int32)), .val (.ref w1), .unset, .unset, .unset, .unset, .unset, .unset, .unset, .unset, .unset] [(.ref b197), (.ref b197)])) _
      refine XS.bipush X252.here hx rfl (hb hby at_73) ?_
      show Steps p.tables e below (T252.setTop (mkF m 75 #[.val (.int p1), .val (.int p2), .val (.int p3), .val (.int (1 : Int32)), .val (.ref w1), .unset, .unset, .unset, .unset, .unset, .unset, .unset, .unset, .unset] [(.int (8 : Int32)), (.ref b197), (.ref b197)])) _
      refine XS.bipush X252.here hx rfl (hb hby at_75) ?_
      show Steps p.tables e below (T252.setTop (mkF m 77 #[.val (.int p1), .val (.int p2), .val (.int p3), .val (.int (1 : Int32)), .val (.ref w1), .unset, .unset, .unset, .unset, .unset, .unset, .unset, .unset, .unset] [(.int (13 : Int32)), (.int (8 : Int32)), (.ref b197), (.ref b197)])) _
      refine st259 _ ?_
      show Steps p.tables e below (T259.setTop (mkF m 78 #[.val (.int p1), .val (.int p2), .val (.int p3), .val (.int (1 : Int32)), .val (.ref w1), .unset, .unset, .unset, .unset, .unset, .unset, .unset, .unset, .unset] [(.ref b197)])) _
      refine XS.astore X259.here hx rfl (hb hby at_78) rfl rfl (l' := #[.val (.int p1), .val (.int p2), .val (.int p3), .val (.int (1 : Int32)), .val (.ref w1), .val (.ref b197), .unset, .unset, .unset, .unset, .unset, .unset, .unset, .unset]) rfl ?_
      show Steps p.tables e below (T259.setTop (mkF m 80 #[.val (.int p1), .val (.int p2), .val (.int p3), .val (.int (1 : Int32)), .val (.ref w1), .val (.ref b197), .unset, .unset, .unset, .unset, .unset, .unset, .unset, .unset] [])) _
      refine XS.iloadN X259.here hx rfl (hb hby at_80) rfl ?_
      show Steps p.tables e below (T259.setTop (mkF m 81 #[.val (.int p1), .val (.int p2), .val (.int p3), .val (.int (1 : Int32)), .val (.ref w1), .val (.ref b197), .unset, .unset, .unset, .unset, .unset, .unset, .unset, .unset] [(.int p2)])) _
      refine X259.ldcInt hx hown (mvT hZ (hw _ (List.mem_of_getElem? (i := 9) rfl))) (g := (mkF m 81 #[.val (.int p1), .val (.int p2), .val (.int p3), .val (.int (1 : Int32)), .val (.ref w1), .val (.ref b197), .unset, .unset, .unset, .unset, .unset, .unset, .unset, .unset] [(.int p2)])) rfl (hb hby at_81) _ ?_
      show Steps p.tables e below (T259.setTop (mkF m 83 #[.val (.int p1), .val (.int p2), .val (.int p3), .val (.int (1 : Int32)), .val (.ref w1), .val (.ref b197), .unset, .unset, .unset, .unset, .unset, .unset, .unset, .unset] [(.int (2147483647 : Int32)), (.int p2)])) _
      refine XS.iand X259.here hx rfl (hb hby at_83) rfl ?_
      show Steps p.tables e below (T259.setTop (mkF m 84 #[.val (.int p1), .val (.int p2), .val (.int p3), .val (.int (1 : Int32)), .val (.ref w1), .val (.ref b197), .unset, .unset, .unset, .unset, .unset, .unset, .unset, .unset] [(.int (p2 &&& (2147483647 : Int32)))])) _
      refine XS.bipush X259.here hx rfl (hb hby at_84) ?_
      show Steps p.tables e below (T259.setTop (mkF m 86 #[.val (.int p1), .val (.int p2), .val (.int p3), .val (.int (1 : Int32)), .val (.ref w1), .val (.ref b197), .unset, .unset, .unset, .unset, .unset, .unset, .unset, .unset] [(.int (10 : Int32)), (.int (p2 &&& (2147483647 : Int32)))])) _
      refine XS.irem X259.here hx rfl (hb hby at_86) rfl (by decide) ?_
      show Steps p.tables e below (T259.setTop (mkF m 87 #[.val (.int p1), .val (.int p2), .val (.int p3), .val (.int (1 : Int32)), .val (.ref w1), .val (.ref b197), .unset, .unset, .unset, .unset, .unset, .unset, .unset, .unset] [(.int ((p2 &&& (2147483647 : Int32)) - ((p2 &&& (2147483647 : Int32)) / (10 : Int32)) * (10 : Int32)))])) _
      refine XS.istore X259.here hx rfl (hb hby at_87) rfl (l' := #[.val (.int p1), .val (.int p2), .val (.int p3), .val (.int (1 : Int32)), .val (.ref w1), .val (.ref b197), .val (.int ((p2 &&& (2147483647 : Int32)) - ((p2 &&& (2147483647 : Int32)) / (10 : Int32)) * (10 : Int32))), .unset, .unset, .unset, .unset, .unset, .unset, .unset]) rfl ?_
      exact kt)
    obtain ⟨r, hr⟩ : ∃ z : Int32, z = ((p2 &&& (2147483647 : Int32)) - ((p2 &&& (2147483647 : Int32)) / (10 : Int32)) * (10 : Int32)) := ⟨_, rfl⟩
    rw [← hr] at P265
    obtain ⟨clR, ArR, qR, SR, NnR, HR, GR⟩ := V259
    obtain ⟨ww, hww⟩ := own_at (Z := Z) (h := h259) (a := 0) HR GR SR r
    have P266 : ∀ t, Steps p.tables e below (T259.setTop (mkF m 93 #[.val (.int p1), .val (.int p2), .val (.int p3), .val (.int (1 : Int32)), .val (.ref w1), .val (.ref b197), .val (.int r), .unset, .unset, .unset, .unset, .unset, .unset, .unset] [(.int (9 : Int32)), (.int r)])) t → Steps p.tables e below (s₁.setTop (entryFrame m #[(.int p1), (.int p2), (.int p3)] maxLocals)) t := fun t kt => P265 t (by
      show Steps p.tables e below (T259.setTop (mkF m 89 #[.val (.int p1), .val (.int p2), .val (.int p3), .val (.int (1 : Int32)), .val (.ref w1), .val (.ref b197), .val (.int r), .unset, .unset, .unset, .unset, .unset, .unset, .unset] [])) _
      refine XS.iload X259.here hx rfl (hb hby at_89) rfl ?_
      show Steps p.tables e below (T259.setTop (mkF m 91 #[.val (.int p1), .val (.int p2), .val (.int p3), .val (.int (1 : Int32)), .val (.ref w1), .val (.ref b197), .val (.int r), .unset, .unset, .unset, .unset, .unset, .unset, .unset] [(.int r)])) _
      refine XS.bipush X259.here hx rfl (hb hby at_91) ?_
      exact kt)
    obtain ⟨cc, hcc⟩ : ∃ z : Int32, z = (if r = (9 : Int32) then p1 else (ww + (p1 - (p1 / (4 : Int32)) * (4 : Int32)))) := ⟨_, rfl⟩
    have J267 : ∀ t, Steps p.tables e below (T259.setTop (mkF m 109 #[.val (.int p1), .val (.int p2), .val (.int p3), .val (.int (1 : Int32)), .val (.ref w1), .val (.ref b197), .val (.int r), .unset, .unset, .unset, .unset, .unset, .unset, .unset] [(.int cc)])) t → Steps p.tables e below (T259.setTop (mkF m 93 #[.val (.int p1), .val (.int p2), .val (.int p3), .val (.int (1 : Int32)), .val (.ref w1), .val (.ref b197), .val (.int r), .unset, .unset, .unset, .unset, .unset, .unset, .unset] [(.int (9 : Int32)), (.int r)])) t := by
      intro t kt
      by_cases hr267_93_0 : r = (9 : Int32)
      · have evcc : cc = p1 := by rw [hcc, if_pos hr267_93_0]
        rw [evcc] at kt
        show Steps p.tables e below (T259.setTop (mkF m 93 #[.val (.int p1), .val (.int p2), .val (.int p3), .val (.int (1 : Int32)), .val (.ref w1), .val (.ref b197), .val (.int r), .unset, .unset, .unset, .unset, .unset, .unset, .unset] [(.int (9 : Int32)), (.int r)])) _
        refine XS.icmpNo X259.here hx rfl (hb hby at_93) rfl (teq hr267_93_0).2 ?_
        show Steps p.tables e below (T259.setTop (mkF m 96 #[.val (.int p1), .val (.int p2), .val (.int p3), .val (.int (1 : Int32)), .val (.ref w1), .val (.ref b197), .val (.int r), .unset, .unset, .unset, .unset, .unset, .unset, .unset] [])) _
        refine XS.iloadN X259.here hx rfl (hb hby at_96) rfl ?_
        show Steps p.tables e below (T259.setTop (mkF m 97 #[.val (.int p1), .val (.int p2), .val (.int p3), .val (.int (1 : Int32)), .val (.ref w1), .val (.ref b197), .val (.int r), .unset, .unset, .unset, .unset, .unset, .unset, .unset] [(.int p1)])) _
        refine XS.goto X259.here hx rfl (pc0 := 97) (pc' := 109) rfl (hb hby at_97) (by decide) (by decide) ?_
        exact kt
      · have evcc : cc = (ww + (p1 - (p1 / (4 : Int32)) * (4 : Int32))) := by rw [hcc, if_neg hr267_93_0]
        rw [evcc] at kt
        show Steps p.tables e below (T259.setTop (mkF m 93 #[.val (.int p1), .val (.int p2), .val (.int p3), .val (.int (1 : Int32)), .val (.ref w1), .val (.ref b197), .val (.int r), .unset, .unset, .unset, .unset, .unset, .unset, .unset] [(.int (9 : Int32)), (.int r)])) _
        refine XS.icmpYes X259.here hx rfl (pc0 := 93) (pc' := 100) rfl (hb hby at_93) rfl (feq hr267_93_0).2 (by decide) (by decide) ?_
        show Steps p.tables e below (T259.setTop (mkF m 100 #[.val (.int p1), .val (.int p2), .val (.int p3), .val (.int (1 : Int32)), .val (.ref w1), .val (.ref b197), .val (.int r), .unset, .unset, .unset, .unset, .unset, .unset, .unset] [])) _
        refine XS.aload X259.here hx rfl (hb hby at_100) rfl rfl ?_
        show Steps p.tables e below (T259.setTop (mkF m 102 #[.val (.int p1), .val (.int p2), .val (.int p3), .val (.int (1 : Int32)), .val (.ref w1), .val (.ref b197), .val (.int r), .unset, .unset, .unset, .unset, .unset, .unset, .unset] [(.ref b197)])) _
        refine XS.iload X259.here hx rfl (hb hby at_102) rfl ?_
        show Steps p.tables e below (T259.setTop (mkF m 104 #[.val (.int p1), .val (.int p2), .val (.int p3), .val (.int (1 : Int32)), .val (.ref w1), .val (.ref b197), .val (.int r), .unset, .unset, .unset, .unset, .unset, .unset, .unset] [(.int r), (.ref b197)])) _
        refine X259.iaload hx (j := r) (v := (.int ww)) (by rw [e259]; exact ArR.1) (State.isArrayOf_alike hZ.alike ArR.2.1) ArR.2.2 (inb_of SR (own_r10 r p2 hr hr267_93_0)) (hww (own_r10 r p2 hr hr267_93_0)) (g := (mkF m 104 #[.val (.int p1), .val (.int p2), .val (.int p3), .val (.int (1 : Int32)), .val (.ref w1), .val (.ref b197), .val (.int r), .unset, .unset, .unset, .unset, .unset, .unset, .unset] [(.int r), (.ref b197)])) rfl rfl (hb hby at_104) _ ?_
        show Steps p.tables e below (T259.setTop (mkF m 105 #[.val (.int p1), .val (.int p2), .val (.int p3), .val (.int (1 : Int32)), .val (.ref w1), .val (.ref b197), .val (.int r), .unset, .unset, .unset, .unset, .unset, .unset, .unset] [(.int ww)])) _
        refine XS.iloadN X259.here hx rfl (hb hby at_105) rfl ?_
        show Steps p.tables e below (T259.setTop (mkF m 106 #[.val (.int p1), .val (.int p2), .val (.int p3), .val (.int (1 : Int32)), .val (.ref w1), .val (.ref b197), .val (.int r), .unset, .unset, .unset, .unset, .unset, .unset, .unset] [(.int p1), (.int ww)])) _
        refine XS.iconst X259.here hx rfl (hb hby at_106) ?_
        show Steps p.tables e below (T259.setTop (mkF m 107 #[.val (.int p1), .val (.int p2), .val (.int p3), .val (.int (1 : Int32)), .val (.ref w1), .val (.ref b197), .val (.int r), .unset, .unset, .unset, .unset, .unset, .unset, .unset] [(.int (4 : Int32)), (.int p1), (.int ww)])) _
        refine XS.irem X259.here hx rfl (hb hby at_107) rfl (by decide) ?_
        show Steps p.tables e below (T259.setTop (mkF m 108 #[.val (.int p1), .val (.int p2), .val (.int p3), .val (.int (1 : Int32)), .val (.ref w1), .val (.ref b197), .val (.int r), .unset, .unset, .unset, .unset, .unset, .unset, .unset] [(.int (p1 - (p1 / (4 : Int32)) * (4 : Int32))), (.int ww)])) _
        refine XS.iadd X259.here hx rfl (hb hby at_108) rfl ?_
        exact kt
    have P268 : ∀ t, Steps p.tables e below (T259.setTop (mkF m 109 #[.val (.int p1), .val (.int p2), .val (.int p3), .val (.int (1 : Int32)), .val (.ref w1), .val (.ref b197), .val (.int r), .unset, .unset, .unset, .unset, .unset, .unset, .unset] [(.int cc)])) t → Steps p.tables e below (s₁.setTop (entryFrame m #[(.int p1), (.int p2), (.int p3)] maxLocals)) t := fun t kt => P266 t (J267 t kt)
    have P269 : ∀ t, Steps p.tables e below (T259.setTop (mkF m 113 #[.val (.int p1), .val (.int p2), .val (.int p3), .val (.int (1 : Int32)), .val (.ref w1), .val (.ref b197), .val (.int r), .val (.int cc), .unset, .unset, .unset, .unset, .unset, .unset] [(.int cc)])) t → Steps p.tables e below (s₁.setTop (entryFrame m #[(.int p1), (.int p2), (.int p3)] maxLocals)) t := fun t kt => P268 t (by
      show Steps p.tables e below (T259.setTop (mkF m 109 #[.val (.int p1), .val (.int p2), .val (.int p3), .val (.int (1 : Int32)), .val (.ref w1), .val (.ref b197), .val (.int r), .unset, .unset, .unset, .unset, .unset, .unset, .unset] [(.int cc)])) _
      refine XS.istore X259.here hx rfl (hb hby at_109) rfl (l' := #[.val (.int p1), .val (.int p2), .val (.int p3), .val (.int (1 : Int32)), .val (.ref w1), .val (.ref b197), .val (.int r), .val (.int cc), .unset, .unset, .unset, .unset, .unset, .unset]) rfl ?_
      show Steps p.tables e below (T259.setTop (mkF m 111 #[.val (.int p1), .val (.int p2), .val (.int p3), .val (.int (1 : Int32)), .val (.ref w1), .val (.ref b197), .val (.int r), .val (.int cc), .unset, .unset, .unset, .unset, .unset, .unset] [])) _
      refine XS.iload X259.here hx rfl (hb hby at_111) rfl ?_
      exact kt)
    obtain ⟨ir, hir⟩ : ∃ z : Int32, z = (if cc < (0 : Int32) then (0 : Int32) else (if (1114111 : Int32) < cc then (0 : Int32) else (1 : Int32))) := ⟨_, rfl⟩
    have J270 : ∀ t, Steps p.tables e below (T259.setTop (mkF m 128 #[.val (.int p1), .val (.int p2), .val (.int p3), .val (.int (1 : Int32)), .val (.ref w1), .val (.ref b197), .val (.int r), .val (.int cc), .unset, .unset, .unset, .unset, .unset, .unset] [(.int ir)])) t → Steps p.tables e below (T259.setTop (mkF m 113 #[.val (.int p1), .val (.int p2), .val (.int p3), .val (.int (1 : Int32)), .val (.ref w1), .val (.ref b197), .val (.int r), .val (.int cc), .unset, .unset, .unset, .unset, .unset, .unset] [(.int cc)])) t := by
      intro t kt
      by_cases hr270_113_0 : cc < (0 : Int32)
      · have evir : ir = (0 : Int32) := by rw [hir, if_pos hr270_113_0]
        rw [evir] at kt
        show Steps p.tables e below (T259.setTop (mkF m 113 #[.val (.int p1), .val (.int p2), .val (.int p3), .val (.int (1 : Int32)), .val (.ref w1), .val (.ref b197), .val (.int r), .val (.int cc), .unset, .unset, .unset, .unset, .unset, .unset] [(.int cc)])) _
        refine XS.ifYes X259.here hx rfl (pc0 := 113) (pc' := 127) rfl (hb hby at_113) rfl ((if0 _ _).trans (tlt hr270_113_0).1) (by decide) (by decide) ?_
        show Steps p.tables e below (T259.setTop (mkF m 127 #[.val (.int p1), .val (.int p2), .val (.int p3), .val (.int (1 : Int32)), .val (.ref w1), .val (.ref b197), .val (.int r), .val (.int cc), .unset, .unset, .unset, .unset, .unset, .unset] [])) _
        refine XS.iconst X259.here hx rfl (hb hby at_127) ?_
        exact kt
      · show Steps p.tables e below (T259.setTop (mkF m 113 #[.val (.int p1), .val (.int p2), .val (.int p3), .val (.int (1 : Int32)), .val (.ref w1), .val (.ref b197), .val (.int r), .val (.int cc), .unset, .unset, .unset, .unset, .unset, .unset] [(.int cc)])) _
        refine XS.ifNo X259.here hx rfl (hb hby at_113) rfl ((if0 _ _).trans (flt hr270_113_0).1) ?_
        show Steps p.tables e below (T259.setTop (mkF m 116 #[.val (.int p1), .val (.int p2), .val (.int p3), .val (.int (1 : Int32)), .val (.ref w1), .val (.ref b197), .val (.int r), .val (.int cc), .unset, .unset, .unset, .unset, .unset, .unset] [])) _
        refine XS.iload X259.here hx rfl (hb hby at_116) rfl ?_
        show Steps p.tables e below (T259.setTop (mkF m 118 #[.val (.int p1), .val (.int p2), .val (.int p3), .val (.int (1 : Int32)), .val (.ref w1), .val (.ref b197), .val (.int r), .val (.int cc), .unset, .unset, .unset, .unset, .unset, .unset] [(.int cc)])) _
        refine X259.ldcInt hx hown (mvT hZ (hw _ (List.mem_of_getElem? (i := 10) rfl))) (g := (mkF m 118 #[.val (.int p1), .val (.int p2), .val (.int p3), .val (.int (1 : Int32)), .val (.ref w1), .val (.ref b197), .val (.int r), .val (.int cc), .unset, .unset, .unset, .unset, .unset, .unset] [(.int cc)])) rfl (hb hby at_118) _ ?_
        by_cases hr270_120_1 : (1114111 : Int32) < cc
        · have evir : ir = (0 : Int32) := by rw [hir, if_neg hr270_113_0, if_pos hr270_120_1]
          rw [evir] at kt
          show Steps p.tables e below (T259.setTop (mkF m 120 #[.val (.int p1), .val (.int p2), .val (.int p3), .val (.int (1 : Int32)), .val (.ref w1), .val (.ref b197), .val (.int r), .val (.int cc), .unset, .unset, .unset, .unset, .unset, .unset] [(.int (1114111 : Int32)), (.int cc)])) _
          refine XS.icmpYes X259.here hx rfl (pc0 := 120) (pc' := 127) rfl (hb hby at_120) rfl (tlt hr270_120_1).2.2.1 (by decide) (by decide) ?_
          show Steps p.tables e below (T259.setTop (mkF m 127 #[.val (.int p1), .val (.int p2), .val (.int p3), .val (.int (1 : Int32)), .val (.ref w1), .val (.ref b197), .val (.int r), .val (.int cc), .unset, .unset, .unset, .unset, .unset, .unset] [])) _
          refine XS.iconst X259.here hx rfl (hb hby at_127) ?_
          exact kt
        · have evir : ir = (1 : Int32) := by rw [hir, if_neg hr270_113_0, if_neg hr270_120_1]
          rw [evir] at kt
          show Steps p.tables e below (T259.setTop (mkF m 120 #[.val (.int p1), .val (.int p2), .val (.int p3), .val (.int (1 : Int32)), .val (.ref w1), .val (.ref b197), .val (.int r), .val (.int cc), .unset, .unset, .unset, .unset, .unset, .unset] [(.int (1114111 : Int32)), (.int cc)])) _
          refine XS.icmpNo X259.here hx rfl (hb hby at_120) rfl (flt hr270_120_1).2.2.1 ?_
          show Steps p.tables e below (T259.setTop (mkF m 123 #[.val (.int p1), .val (.int p2), .val (.int p3), .val (.int (1 : Int32)), .val (.ref w1), .val (.ref b197), .val (.int r), .val (.int cc), .unset, .unset, .unset, .unset, .unset, .unset] [])) _
          refine XS.iconst X259.here hx rfl (hb hby at_123) ?_
          show Steps p.tables e below (T259.setTop (mkF m 124 #[.val (.int p1), .val (.int p2), .val (.int p3), .val (.int (1 : Int32)), .val (.ref w1), .val (.ref b197), .val (.int r), .val (.int cc), .unset, .unset, .unset, .unset, .unset, .unset] [(.int (1 : Int32))])) _
          refine XS.goto X259.here hx rfl (pc0 := 124) (pc' := 128) rfl (hb hby at_124) (by decide) (by decide) ?_
          exact kt
    have P271 : ∀ t, Steps p.tables e below (T259.setTop (mkF m 128 #[.val (.int p1), .val (.int p2), .val (.int p3), .val (.int (1 : Int32)), .val (.ref w1), .val (.ref b197), .val (.int r), .val (.int cc), .unset, .unset, .unset, .unset, .unset, .unset] [(.int ir)])) t → Steps p.tables e below (s₁.setTop (entryFrame m #[(.int p1), (.int p2), (.int p3)] maxLocals)) t := fun t kt => P269 t (J270 t kt)
    have P272 : ∀ t, Steps p.tables e below (T259.setTop (mkF m 134 #[.val (.int p1), .val (.int p2), .val (.int p3), .val (.int (1 : Int32)), .val (.ref w1), .val (.ref b197), .val (.int r), .val (.int cc), .val (.int ir), .unset, .unset, .unset, .unset, .unset] [(.int (55296 : Int32)), (.int cc)])) t → Steps p.tables e below (s₁.setTop (entryFrame m #[(.int p1), (.int p2), (.int p3)] maxLocals)) t := fun t kt => P271 t (by
      show Steps p.tables e below (T259.setTop (mkF m 128 #[.val (.int p1), .val (.int p2), .val (.int p3), .val (.int (1 : Int32)), .val (.ref w1), .val (.ref b197), .val (.int r), .val (.int cc), .unset, .unset, .unset, .unset, .unset, .unset] [(.int ir)])) _
      refine XS.istore X259.here hx rfl (hb hby at_128) rfl (l' := #[.val (.int p1), .val (.int p2), .val (.int p3), .val (.int (1 : Int32)), .val (.ref w1), .val (.ref b197), .val (.int r), .val (.int cc), .val (.int ir), .unset, .unset, .unset, .unset, .unset]) rfl ?_
      show Steps p.tables e below (T259.setTop (mkF m 130 #[.val (.int p1), .val (.int p2), .val (.int p3), .val (.int (1 : Int32)), .val (.ref w1), .val (.ref b197), .val (.int r), .val (.int cc), .val (.int ir), .unset, .unset, .unset, .unset, .unset] [])) _
      refine XS.iload X259.here hx rfl (hb hby at_130) rfl ?_
      show Steps p.tables e below (T259.setTop (mkF m 132 #[.val (.int p1), .val (.int p2), .val (.int p3), .val (.int (1 : Int32)), .val (.ref w1), .val (.ref b197), .val (.int r), .val (.int cc), .val (.int ir), .unset, .unset, .unset, .unset, .unset] [(.int cc)])) _
      refine X259.ldcInt hx hown (mvT hZ (hw _ (List.mem_of_getElem? (i := 4) rfl))) (g := (mkF m 132 #[.val (.int p1), .val (.int p2), .val (.int p3), .val (.int (1 : Int32)), .val (.ref w1), .val (.ref b197), .val (.int r), .val (.int cc), .val (.int ir), .unset, .unset, .unset, .unset, .unset] [(.int cc)])) rfl (hb hby at_132) _ ?_
      exact kt)
    obtain ⟨sg, hsg⟩ : ∃ z : Int32, z = (if cc < (55296 : Int32) then (0 : Int32) else (if (57343 : Int32) < cc then (0 : Int32) else (1 : Int32))) := ⟨_, rfl⟩
    have J273 : ∀ t, Steps p.tables e below (T259.setTop (mkF m 149 #[.val (.int p1), .val (.int p2), .val (.int p3), .val (.int (1 : Int32)), .val (.ref w1), .val (.ref b197), .val (.int r), .val (.int cc), .val (.int ir), .unset, .unset, .unset, .unset, .unset] [(.int sg)])) t → Steps p.tables e below (T259.setTop (mkF m 134 #[.val (.int p1), .val (.int p2), .val (.int p3), .val (.int (1 : Int32)), .val (.ref w1), .val (.ref b197), .val (.int r), .val (.int cc), .val (.int ir), .unset, .unset, .unset, .unset, .unset] [(.int (55296 : Int32)), (.int cc)])) t := by
      intro t kt
      by_cases hr273_134_0 : cc < (55296 : Int32)
      · have evsg : sg = (0 : Int32) := by rw [hsg, if_pos hr273_134_0]
        rw [evsg] at kt
        show Steps p.tables e below (T259.setTop (mkF m 134 #[.val (.int p1), .val (.int p2), .val (.int p3), .val (.int (1 : Int32)), .val (.ref w1), .val (.ref b197), .val (.int r), .val (.int cc), .val (.int ir), .unset, .unset, .unset, .unset, .unset] [(.int (55296 : Int32)), (.int cc)])) _
        refine XS.icmpYes X259.here hx rfl (pc0 := 134) (pc' := 148) rfl (hb hby at_134) rfl (tlt hr273_134_0).1 (by decide) (by decide) ?_
        show Steps p.tables e below (T259.setTop (mkF m 148 #[.val (.int p1), .val (.int p2), .val (.int p3), .val (.int (1 : Int32)), .val (.ref w1), .val (.ref b197), .val (.int r), .val (.int cc), .val (.int ir), .unset, .unset, .unset, .unset, .unset] [])) _
        refine XS.iconst X259.here hx rfl (hb hby at_148) ?_
        exact kt
      · show Steps p.tables e below (T259.setTop (mkF m 134 #[.val (.int p1), .val (.int p2), .val (.int p3), .val (.int (1 : Int32)), .val (.ref w1), .val (.ref b197), .val (.int r), .val (.int cc), .val (.int ir), .unset, .unset, .unset, .unset, .unset] [(.int (55296 : Int32)), (.int cc)])) _
        refine XS.icmpNo X259.here hx rfl (hb hby at_134) rfl (flt hr273_134_0).1 ?_
        show Steps p.tables e below (T259.setTop (mkF m 137 #[.val (.int p1), .val (.int p2), .val (.int p3), .val (.int (1 : Int32)), .val (.ref w1), .val (.ref b197), .val (.int r), .val (.int cc), .val (.int ir), .unset, .unset, .unset, .unset, .unset] [])) _
        refine XS.iload X259.here hx rfl (hb hby at_137) rfl ?_
        show Steps p.tables e below (T259.setTop (mkF m 139 #[.val (.int p1), .val (.int p2), .val (.int p3), .val (.int (1 : Int32)), .val (.ref w1), .val (.ref b197), .val (.int r), .val (.int cc), .val (.int ir), .unset, .unset, .unset, .unset, .unset] [(.int cc)])) _
        refine X259.ldcInt hx hown (mvT hZ (hw _ (List.mem_of_getElem? (i := 11) rfl))) (g := (mkF m 139 #[.val (.int p1), .val (.int p2), .val (.int p3), .val (.int (1 : Int32)), .val (.ref w1), .val (.ref b197), .val (.int r), .val (.int cc), .val (.int ir), .unset, .unset, .unset, .unset, .unset] [(.int cc)])) rfl (hb hby at_139) _ ?_
        by_cases hr273_141_1 : (57343 : Int32) < cc
        · have evsg : sg = (0 : Int32) := by rw [hsg, if_neg hr273_134_0, if_pos hr273_141_1]
          rw [evsg] at kt
          show Steps p.tables e below (T259.setTop (mkF m 141 #[.val (.int p1), .val (.int p2), .val (.int p3), .val (.int (1 : Int32)), .val (.ref w1), .val (.ref b197), .val (.int r), .val (.int cc), .val (.int ir), .unset, .unset, .unset, .unset, .unset] [(.int (57343 : Int32)), (.int cc)])) _
          refine XS.icmpYes X259.here hx rfl (pc0 := 141) (pc' := 148) rfl (hb hby at_141) rfl (tlt hr273_141_1).2.2.1 (by decide) (by decide) ?_
          show Steps p.tables e below (T259.setTop (mkF m 148 #[.val (.int p1), .val (.int p2), .val (.int p3), .val (.int (1 : Int32)), .val (.ref w1), .val (.ref b197), .val (.int r), .val (.int cc), .val (.int ir), .unset, .unset, .unset, .unset, .unset] [])) _
          refine XS.iconst X259.here hx rfl (hb hby at_148) ?_
          exact kt
        · have evsg : sg = (1 : Int32) := by rw [hsg, if_neg hr273_134_0, if_neg hr273_141_1]
          rw [evsg] at kt
          show Steps p.tables e below (T259.setTop (mkF m 141 #[.val (.int p1), .val (.int p2), .val (.int p3), .val (.int (1 : Int32)), .val (.ref w1), .val (.ref b197), .val (.int r), .val (.int cc), .val (.int ir), .unset, .unset, .unset, .unset, .unset] [(.int (57343 : Int32)), (.int cc)])) _
          refine XS.icmpNo X259.here hx rfl (hb hby at_141) rfl (flt hr273_141_1).2.2.1 ?_
          show Steps p.tables e below (T259.setTop (mkF m 144 #[.val (.int p1), .val (.int p2), .val (.int p3), .val (.int (1 : Int32)), .val (.ref w1), .val (.ref b197), .val (.int r), .val (.int cc), .val (.int ir), .unset, .unset, .unset, .unset, .unset] [])) _
          refine XS.iconst X259.here hx rfl (hb hby at_144) ?_
          show Steps p.tables e below (T259.setTop (mkF m 145 #[.val (.int p1), .val (.int p2), .val (.int p3), .val (.int (1 : Int32)), .val (.ref w1), .val (.ref b197), .val (.int r), .val (.int cc), .val (.int ir), .unset, .unset, .unset, .unset, .unset] [(.int (1 : Int32))])) _
          refine XS.goto X259.here hx rfl (pc0 := 145) (pc' := 149) rfl (hb hby at_145) (by decide) (by decide) ?_
          exact kt
    have P274 : ∀ t, Steps p.tables e below (T259.setTop (mkF m 149 #[.val (.int p1), .val (.int p2), .val (.int p3), .val (.int (1 : Int32)), .val (.ref w1), .val (.ref b197), .val (.int r), .val (.int cc), .val (.int ir), .unset, .unset, .unset, .unset, .unset] [(.int sg)])) t → Steps p.tables e below (s₁.setTop (entryFrame m #[(.int p1), (.int p2), (.int p3)] maxLocals)) t := fun t kt => P272 t (J273 t kt)
    have P275 : ∀ t, Steps p.tables e below (T259.setTop (mkF m 155 #[.val (.int p1), .val (.int p2), .val (.int p3), .val (.int (1 : Int32)), .val (.ref w1), .val (.ref b197), .val (.int r), .val (.int cc), .val (.int ir), .val (.int sg), .unset, .unset, .unset, .unset] [(.int (65534 : Int32)), (.int cc)])) t → Steps p.tables e below (s₁.setTop (entryFrame m #[(.int p1), (.int p2), (.int p3)] maxLocals)) t := fun t kt => P274 t (by
      show Steps p.tables e below (T259.setTop (mkF m 149 #[.val (.int p1), .val (.int p2), .val (.int p3), .val (.int (1 : Int32)), .val (.ref w1), .val (.ref b197), .val (.int r), .val (.int cc), .val (.int ir), .unset, .unset, .unset, .unset, .unset] [(.int sg)])) _
      refine XS.istore X259.here hx rfl (hb hby at_149) rfl (l' := #[.val (.int p1), .val (.int p2), .val (.int p3), .val (.int (1 : Int32)), .val (.ref w1), .val (.ref b197), .val (.int r), .val (.int cc), .val (.int ir), .val (.int sg), .unset, .unset, .unset, .unset]) rfl ?_
      show Steps p.tables e below (T259.setTop (mkF m 151 #[.val (.int p1), .val (.int p2), .val (.int p3), .val (.int (1 : Int32)), .val (.ref w1), .val (.ref b197), .val (.int r), .val (.int cc), .val (.int ir), .val (.int sg), .unset, .unset, .unset, .unset] [])) _
      refine XS.iload X259.here hx rfl (hb hby at_151) rfl ?_
      show Steps p.tables e below (T259.setTop (mkF m 153 #[.val (.int p1), .val (.int p2), .val (.int p3), .val (.int (1 : Int32)), .val (.ref w1), .val (.ref b197), .val (.int r), .val (.int cc), .val (.int ir), .val (.int sg), .unset, .unset, .unset, .unset] [(.int cc)])) _
      refine X259.ldcInt hx hown (mvT hZ (hw _ (List.mem_of_getElem? (i := 6) rfl))) (g := (mkF m 153 #[.val (.int p1), .val (.int p2), .val (.int p3), .val (.int (1 : Int32)), .val (.ref w1), .val (.ref b197), .val (.int r), .val (.int cc), .val (.int ir), .val (.int sg), .unset, .unset, .unset, .unset] [(.int cc)])) rfl (hb hby at_153) _ ?_
      exact kt)
    obtain ⟨nc, hnc⟩ : ∃ z : Int32, z = (if cc = (65534 : Int32) then (1 : Int32) else (if cc = (65535 : Int32) then (1 : Int32) else (0 : Int32))) := ⟨_, rfl⟩
    have J276 : ∀ t, Steps p.tables e below (T259.setTop (mkF m 170 #[.val (.int p1), .val (.int p2), .val (.int p3), .val (.int (1 : Int32)), .val (.ref w1), .val (.ref b197), .val (.int r), .val (.int cc), .val (.int ir), .val (.int sg), .unset, .unset, .unset, .unset] [(.int nc)])) t → Steps p.tables e below (T259.setTop (mkF m 155 #[.val (.int p1), .val (.int p2), .val (.int p3), .val (.int (1 : Int32)), .val (.ref w1), .val (.ref b197), .val (.int r), .val (.int cc), .val (.int ir), .val (.int sg), .unset, .unset, .unset, .unset] [(.int (65534 : Int32)), (.int cc)])) t := by
      intro t kt
      by_cases hr276_155_0 : cc = (65534 : Int32)
      · have evnc : nc = (1 : Int32) := by rw [hnc, if_pos hr276_155_0]
        rw [evnc] at kt
        show Steps p.tables e below (T259.setTop (mkF m 155 #[.val (.int p1), .val (.int p2), .val (.int p3), .val (.int (1 : Int32)), .val (.ref w1), .val (.ref b197), .val (.int r), .val (.int cc), .val (.int ir), .val (.int sg), .unset, .unset, .unset, .unset] [(.int (65534 : Int32)), (.int cc)])) _
        refine XS.icmpYes X259.here hx rfl (pc0 := 155) (pc' := 165) rfl (hb hby at_155) rfl (teq hr276_155_0).1 (by decide) (by decide) ?_
        show Steps p.tables e below (T259.setTop (mkF m 165 #[.val (.int p1), .val (.int p2), .val (.int p3), .val (.int (1 : Int32)), .val (.ref w1), .val (.ref b197), .val (.int r), .val (.int cc), .val (.int ir), .val (.int sg), .unset, .unset, .unset, .unset] [])) _
        refine XS.iconst X259.here hx rfl (hb hby at_165) ?_
        show Steps p.tables e below (T259.setTop (mkF m 166 #[.val (.int p1), .val (.int p2), .val (.int p3), .val (.int (1 : Int32)), .val (.ref w1), .val (.ref b197), .val (.int r), .val (.int cc), .val (.int ir), .val (.int sg), .unset, .unset, .unset, .unset] [(.int (1 : Int32))])) _
        refine XS.goto X259.here hx rfl (pc0 := 166) (pc' := 170) rfl (hb hby at_166) (by decide) (by decide) ?_
        exact kt
      · show Steps p.tables e below (T259.setTop (mkF m 155 #[.val (.int p1), .val (.int p2), .val (.int p3), .val (.int (1 : Int32)), .val (.ref w1), .val (.ref b197), .val (.int r), .val (.int cc), .val (.int ir), .val (.int sg), .unset, .unset, .unset, .unset] [(.int (65534 : Int32)), (.int cc)])) _
        refine XS.icmpNo X259.here hx rfl (hb hby at_155) rfl (feq hr276_155_0).1 ?_
        show Steps p.tables e below (T259.setTop (mkF m 158 #[.val (.int p1), .val (.int p2), .val (.int p3), .val (.int (1 : Int32)), .val (.ref w1), .val (.ref b197), .val (.int r), .val (.int cc), .val (.int ir), .val (.int sg), .unset, .unset, .unset, .unset] [])) _
        refine XS.iload X259.here hx rfl (hb hby at_158) rfl ?_
        show Steps p.tables e below (T259.setTop (mkF m 160 #[.val (.int p1), .val (.int p2), .val (.int p3), .val (.int (1 : Int32)), .val (.ref w1), .val (.ref b197), .val (.int r), .val (.int cc), .val (.int ir), .val (.int sg), .unset, .unset, .unset, .unset] [(.int cc)])) _
        refine X259.ldcInt hx hown (mvT hZ (hw _ (List.mem_of_getElem? (i := 12) rfl))) (g := (mkF m 160 #[.val (.int p1), .val (.int p2), .val (.int p3), .val (.int (1 : Int32)), .val (.ref w1), .val (.ref b197), .val (.int r), .val (.int cc), .val (.int ir), .val (.int sg), .unset, .unset, .unset, .unset] [(.int cc)])) rfl (hb hby at_160) _ ?_
        by_cases hr276_162_1 : cc = (65535 : Int32)
        · have evnc : nc = (1 : Int32) := by rw [hnc, if_neg hr276_155_0, if_pos hr276_162_1]
          rw [evnc] at kt
          show Steps p.tables e below (T259.setTop (mkF m 162 #[.val (.int p1), .val (.int p2), .val (.int p3), .val (.int (1 : Int32)), .val (.ref w1), .val (.ref b197), .val (.int r), .val (.int cc), .val (.int ir), .val (.int sg), .unset, .unset, .unset, .unset] [(.int (65535 : Int32)), (.int cc)])) _
          refine XS.icmpNo X259.here hx rfl (hb hby at_162) rfl (teq hr276_162_1).2 ?_
          show Steps p.tables e below (T259.setTop (mkF m 165 #[.val (.int p1), .val (.int p2), .val (.int p3), .val (.int (1 : Int32)), .val (.ref w1), .val (.ref b197), .val (.int r), .val (.int cc), .val (.int ir), .val (.int sg), .unset, .unset, .unset, .unset] [])) _
          refine XS.iconst X259.here hx rfl (hb hby at_165) ?_
          show Steps p.tables e below (T259.setTop (mkF m 166 #[.val (.int p1), .val (.int p2), .val (.int p3), .val (.int (1 : Int32)), .val (.ref w1), .val (.ref b197), .val (.int r), .val (.int cc), .val (.int ir), .val (.int sg), .unset, .unset, .unset, .unset] [(.int (1 : Int32))])) _
          refine XS.goto X259.here hx rfl (pc0 := 166) (pc' := 170) rfl (hb hby at_166) (by decide) (by decide) ?_
          exact kt
        · have evnc : nc = (0 : Int32) := by rw [hnc, if_neg hr276_155_0, if_neg hr276_162_1]
          rw [evnc] at kt
          show Steps p.tables e below (T259.setTop (mkF m 162 #[.val (.int p1), .val (.int p2), .val (.int p3), .val (.int (1 : Int32)), .val (.ref w1), .val (.ref b197), .val (.int r), .val (.int cc), .val (.int ir), .val (.int sg), .unset, .unset, .unset, .unset] [(.int (65535 : Int32)), (.int cc)])) _
          refine XS.icmpYes X259.here hx rfl (pc0 := 162) (pc' := 169) rfl (hb hby at_162) rfl (feq hr276_162_1).2 (by decide) (by decide) ?_
          show Steps p.tables e below (T259.setTop (mkF m 169 #[.val (.int p1), .val (.int p2), .val (.int p3), .val (.int (1 : Int32)), .val (.ref w1), .val (.ref b197), .val (.int r), .val (.int cc), .val (.int ir), .val (.int sg), .unset, .unset, .unset, .unset] [])) _
          refine XS.iconst X259.here hx rfl (hb hby at_169) ?_
          exact kt
    have P277 : ∀ t, Steps p.tables e below (T259.setTop (mkF m 170 #[.val (.int p1), .val (.int p2), .val (.int p3), .val (.int (1 : Int32)), .val (.ref w1), .val (.ref b197), .val (.int r), .val (.int cc), .val (.int ir), .val (.int sg), .unset, .unset, .unset, .unset] [(.int nc)])) t → Steps p.tables e below (s₁.setTop (entryFrame m #[(.int p1), (.int p2), (.int p3)] maxLocals)) t := fun t kt => P275 t (J276 t kt)
    have P278 : ∀ t, Steps p.tables e below (T259.setTop (mkF m 176 #[.val (.int p1), .val (.int p2), .val (.int p3), .val (.int (1 : Int32)), .val (.ref w1), .val (.ref b197), .val (.int r), .val (.int cc), .val (.int ir), .val (.int sg), .val (.int nc), .unset, .unset, .unset] [(.int (32 : Int32)), (.int cc)])) t → Steps p.tables e below (s₁.setTop (entryFrame m #[(.int p1), (.int p2), (.int p3)] maxLocals)) t := fun t kt => P277 t (by
      show Steps p.tables e below (T259.setTop (mkF m 170 #[.val (.int p1), .val (.int p2), .val (.int p3), .val (.int (1 : Int32)), .val (.ref w1), .val (.ref b197), .val (.int r), .val (.int cc), .val (.int ir), .val (.int sg), .unset, .unset, .unset, .unset] [(.int nc)])) _
      refine XS.istore X259.here hx rfl (hb hby at_170) rfl (l' := #[.val (.int p1), .val (.int p2), .val (.int p3), .val (.int (1 : Int32)), .val (.ref w1), .val (.ref b197), .val (.int r), .val (.int cc), .val (.int ir), .val (.int sg), .val (.int nc), .unset, .unset, .unset]) rfl ?_
      show Steps p.tables e below (T259.setTop (mkF m 172 #[.val (.int p1), .val (.int p2), .val (.int p3), .val (.int (1 : Int32)), .val (.ref w1), .val (.ref b197), .val (.int r), .val (.int cc), .val (.int ir), .val (.int sg), .val (.int nc), .unset, .unset, .unset] [])) _
      refine XS.iload X259.here hx rfl (hb hby at_172) rfl ?_
      show Steps p.tables e below (T259.setTop (mkF m 174 #[.val (.int p1), .val (.int p2), .val (.int p3), .val (.int (1 : Int32)), .val (.ref w1), .val (.ref b197), .val (.int r), .val (.int cc), .val (.int ir), .val (.int sg), .val (.int nc), .unset, .unset, .unset] [(.int cc)])) _
      refine XS.bipush X259.here hx rfl (hb hby at_174) ?_
      exact kt)
    obtain ⟨ct, hct⟩ : ∃ z : Int32, z = (if cc < (32 : Int32) then (1 : Int32) else (0 : Int32)) := ⟨_, rfl⟩
    have J279 : ∀ t, Steps p.tables e below (T259.setTop (mkF m 184 #[.val (.int p1), .val (.int p2), .val (.int p3), .val (.int (1 : Int32)), .val (.ref w1), .val (.ref b197), .val (.int r), .val (.int cc), .val (.int ir), .val (.int sg), .val (.int nc), .unset, .unset, .unset] [(.int ct)])) t → Steps p.tables e below (T259.setTop (mkF m 176 #[.val (.int p1), .val (.int p2), .val (.int p3), .val (.int (1 : Int32)), .val (.ref w1), .val (.ref b197), .val (.int r), .val (.int cc), .val (.int ir), .val (.int sg), .val (.int nc), .unset, .unset, .unset] [(.int (32 : Int32)), (.int cc)])) t := by
      intro t kt
      by_cases hr279_176_0 : cc < (32 : Int32)
      · have evct : ct = (1 : Int32) := by rw [hct, if_pos hr279_176_0]
        rw [evct] at kt
        show Steps p.tables e below (T259.setTop (mkF m 176 #[.val (.int p1), .val (.int p2), .val (.int p3), .val (.int (1 : Int32)), .val (.ref w1), .val (.ref b197), .val (.int r), .val (.int cc), .val (.int ir), .val (.int sg), .val (.int nc), .unset, .unset, .unset] [(.int (32 : Int32)), (.int cc)])) _
        refine XS.icmpNo X259.here hx rfl (hb hby at_176) rfl (tlt hr279_176_0).2.1 ?_
        show Steps p.tables e below (T259.setTop (mkF m 179 #[.val (.int p1), .val (.int p2), .val (.int p3), .val (.int (1 : Int32)), .val (.ref w1), .val (.ref b197), .val (.int r), .val (.int cc), .val (.int ir), .val (.int sg), .val (.int nc), .unset, .unset, .unset] [])) _
        refine XS.iconst X259.here hx rfl (hb hby at_179) ?_
        show Steps p.tables e below (T259.setTop (mkF m 180 #[.val (.int p1), .val (.int p2), .val (.int p3), .val (.int (1 : Int32)), .val (.ref w1), .val (.ref b197), .val (.int r), .val (.int cc), .val (.int ir), .val (.int sg), .val (.int nc), .unset, .unset, .unset] [(.int (1 : Int32))])) _
        refine XS.goto X259.here hx rfl (pc0 := 180) (pc' := 184) rfl (hb hby at_180) (by decide) (by decide) ?_
        exact kt
      · have evct : ct = (0 : Int32) := by rw [hct, if_neg hr279_176_0]
        rw [evct] at kt
        show Steps p.tables e below (T259.setTop (mkF m 176 #[.val (.int p1), .val (.int p2), .val (.int p3), .val (.int (1 : Int32)), .val (.ref w1), .val (.ref b197), .val (.int r), .val (.int cc), .val (.int ir), .val (.int sg), .val (.int nc), .unset, .unset, .unset] [(.int (32 : Int32)), (.int cc)])) _
        refine XS.icmpYes X259.here hx rfl (pc0 := 176) (pc' := 183) rfl (hb hby at_176) rfl (flt hr279_176_0).2.1 (by decide) (by decide) ?_
        show Steps p.tables e below (T259.setTop (mkF m 183 #[.val (.int p1), .val (.int p2), .val (.int p3), .val (.int (1 : Int32)), .val (.ref w1), .val (.ref b197), .val (.int r), .val (.int cc), .val (.int ir), .val (.int sg), .val (.int nc), .unset, .unset, .unset] [])) _
        refine XS.iconst X259.here hx rfl (hb hby at_183) ?_
        exact kt
    have P280 : ∀ t, Steps p.tables e below (T259.setTop (mkF m 184 #[.val (.int p1), .val (.int p2), .val (.int p3), .val (.int (1 : Int32)), .val (.ref w1), .val (.ref b197), .val (.int r), .val (.int cc), .val (.int ir), .val (.int sg), .val (.int nc), .unset, .unset, .unset] [(.int ct)])) t → Steps p.tables e below (s₁.setTop (entryFrame m #[(.int p1), (.int p2), (.int p3)] maxLocals)) t := fun t kt => P278 t (J279 t kt)
    have P281 : ∀ t, Steps p.tables e below (T259.setTop (mkF m 192 #[.val (.int p1), .val (.int p2), .val (.int p3), .val (.int (1 : Int32)), .val (.ref w1), .val (.ref b197), .val (.int r), .val (.int cc), .val (.int ir), .val (.int sg), .val (.int nc), .val (.int ct), .unset, .unset] [(.int cc)])) t → Steps p.tables e below (s₁.setTop (entryFrame m #[(.int p1), (.int p2), (.int p3)] maxLocals)) t := fun t kt => P280 t (by
      show Steps p.tables e below (T259.setTop (mkF m 184 #[.val (.int p1), .val (.int p2), .val (.int p3), .val (.int (1 : Int32)), .val (.ref w1), .val (.ref b197), .val (.int r), .val (.int cc), .val (.int ir), .val (.int sg), .val (.int nc), .unset, .unset, .unset] [(.int ct)])) _
      refine XS.istore X259.here hx rfl (hb hby at_184) rfl (l' := #[.val (.int p1), .val (.int p2), .val (.int p3), .val (.int (1 : Int32)), .val (.ref w1), .val (.ref b197), .val (.int r), .val (.int cc), .val (.int ir), .val (.int sg), .val (.int nc), .val (.int ct), .unset, .unset]) rfl ?_
      show Steps p.tables e below (T259.setTop (mkF m 186 #[.val (.int p1), .val (.int p2), .val (.int p3), .val (.int (1 : Int32)), .val (.ref w1), .val (.ref b197), .val (.int r), .val (.int cc), .val (.int ir), .val (.int sg), .val (.int nc), .val (.int ct), .unset, .unset] [])) _
      refine XS.iloadN X259.here hx rfl (hb hby at_186) rfl ?_
      show Steps p.tables e below (T259.setTop (mkF m 187 #[.val (.int p1), .val (.int p2), .val (.int p3), .val (.int (1 : Int32)), .val (.ref w1), .val (.ref b197), .val (.int r), .val (.int cc), .val (.int ir), .val (.int sg), .val (.int nc), .val (.int ct), .unset, .unset] [(.int (1 : Int32))])) _
      refine XS.ifNo X259.here hx rfl (hb hby at_187) rfl ((if0 _ _).trans (feq ((by decide) : ¬ ((1 : Int32) = (0 : Int32)))).1) ?_
      show Steps p.tables e below (T259.setTop (mkF m 190 #[.val (.int p1), .val (.int p2), .val (.int p3), .val (.int (1 : Int32)), .val (.ref w1), .val (.ref b197), .val (.int r), .val (.int cc), .val (.int ir), .val (.int sg), .val (.int nc), .val (.int ct), .unset, .unset] [])) _
      refine XS.iload X259.here hx rfl (hb hby at_190) rfl ?_
      exact kt)
    obtain ⟨ok, hok⟩ : ∃ z : Int32, z = (if cc = (0 : Int32) then (0 : Int32) else (1 : Int32)) := ⟨_, rfl⟩
    have J282 : ∀ t, Steps p.tables e below (T259.setTop (mkF m 229 #[.val (.int p1), .val (.int p2), .val (.int p3), .val (.int (1 : Int32)), .val (.ref w1), .val (.ref b197), .val (.int r), .val (.int cc), .val (.int ir), .val (.int sg), .val (.int nc), .val (.int ct), .unset, .unset] [(.int ok)])) t → Steps p.tables e below (T259.setTop (mkF m 192 #[.val (.int p1), .val (.int p2), .val (.int p3), .val (.int (1 : Int32)), .val (.ref w1), .val (.ref b197), .val (.int r), .val (.int cc), .val (.int ir), .val (.int sg), .val (.int nc), .val (.int ct), .unset, .unset] [(.int cc)])) t := by
      intro t kt
      by_cases hr282_192_0 : cc = (0 : Int32)
      · have evok : ok = (0 : Int32) := by rw [hok, if_pos hr282_192_0]
        rw [evok] at kt
        show Steps p.tables e below (T259.setTop (mkF m 192 #[.val (.int p1), .val (.int p2), .val (.int p3), .val (.int (1 : Int32)), .val (.ref w1), .val (.ref b197), .val (.int r), .val (.int cc), .val (.int ir), .val (.int sg), .val (.int nc), .val (.int ct), .unset, .unset] [(.int cc)])) _
        refine XS.ifYes X259.here hx rfl (pc0 := 192) (pc' := 199) rfl (hb hby at_192) rfl ((if0 _ _).trans (teq hr282_192_0).1) (by decide) (by decide) ?_
        show Steps p.tables e below (T259.setTop (mkF m 199 #[.val (.int p1), .val (.int p2), .val (.int p3), .val (.int (1 : Int32)), .val (.ref w1), .val (.ref b197), .val (.int r), .val (.int cc), .val (.int ir), .val (.int sg), .val (.int nc), .val (.int ct), .unset, .unset] [])) _
        refine XS.iconst X259.here hx rfl (hb hby at_199) ?_
        show Steps p.tables e below (T259.setTop (mkF m 200 #[.val (.int p1), .val (.int p2), .val (.int p3), .val (.int (1 : Int32)), .val (.ref w1), .val (.ref b197), .val (.int r), .val (.int cc), .val (.int ir), .val (.int sg), .val (.int nc), .val (.int ct), .unset, .unset] [(.int (0 : Int32))])) _
        refine XS.goto X259.here hx rfl (pc0 := 200) (pc' := 229) rfl (hb hby at_200) (by decide) (by decide) ?_
        exact kt
      · have evok : ok = (1 : Int32) := by rw [hok, if_neg hr282_192_0]
        rw [evok] at kt
        show Steps p.tables e below (T259.setTop (mkF m 192 #[.val (.int p1), .val (.int p2), .val (.int p3), .val (.int (1 : Int32)), .val (.ref w1), .val (.ref b197), .val (.int r), .val (.int cc), .val (.int ir), .val (.int sg), .val (.int nc), .val (.int ct), .unset, .unset] [(.int cc)])) _
        refine XS.ifNo X259.here hx rfl (hb hby at_192) rfl ((if0 _ _).trans (feq hr282_192_0).1) ?_
        show Steps p.tables e below (T259.setTop (mkF m 195 #[.val (.int p1), .val (.int p2), .val (.int p3), .val (.int (1 : Int32)), .val (.ref w1), .val (.ref b197), .val (.int r), .val (.int cc), .val (.int ir), .val (.int sg), .val (.int nc), .val (.int ct), .unset, .unset] [])) _
        refine XS.iconst X259.here hx rfl (hb hby at_195) ?_
        show Steps p.tables e below (T259.setTop (mkF m 196 #[.val (.int p1), .val (.int p2), .val (.int p3), .val (.int (1 : Int32)), .val (.ref w1), .val (.ref b197), .val (.int r), .val (.int cc), .val (.int ir), .val (.int sg), .val (.int nc), .val (.int ct), .unset, .unset] [(.int (1 : Int32))])) _
        refine XS.goto X259.here hx rfl (pc0 := 196) (pc' := 229) rfl (hb hby at_196) (by decide) (by decide) ?_
        exact kt
    have P283 : ∀ t, Steps p.tables e below (T259.setTop (mkF m 229 #[.val (.int p1), .val (.int p2), .val (.int p3), .val (.int (1 : Int32)), .val (.ref w1), .val (.ref b197), .val (.int r), .val (.int cc), .val (.int ir), .val (.int sg), .val (.int nc), .val (.int ct), .unset, .unset] [(.int ok)])) t → Steps p.tables e below (s₁.setTop (entryFrame m #[(.int p1), (.int p2), (.int p3)] maxLocals)) t := fun t kt => P281 t (J282 t kt)
    have P284 : ∀ t, Steps p.tables e below (T259.setTop (mkF m 233 #[.val (.int p1), .val (.int p2), .val (.int p3), .val (.int (1 : Int32)), .val (.ref w1), .val (.ref b197), .val (.int r), .val (.int cc), .val (.int ir), .val (.int sg), .val (.int nc), .val (.int ct), .val (.int ok), .unset] [(.int ir)])) t → Steps p.tables e below (s₁.setTop (entryFrame m #[(.int p1), (.int p2), (.int p3)] maxLocals)) t := fun t kt => P283 t (by
      show Steps p.tables e below (T259.setTop (mkF m 229 #[.val (.int p1), .val (.int p2), .val (.int p3), .val (.int (1 : Int32)), .val (.ref w1), .val (.ref b197), .val (.int r), .val (.int cc), .val (.int ir), .val (.int sg), .val (.int nc), .val (.int ct), .unset, .unset] [(.int ok)])) _
      refine XS.istore X259.here hx rfl (hb hby at_229) rfl (l' := #[.val (.int p1), .val (.int p2), .val (.int p3), .val (.int (1 : Int32)), .val (.ref w1), .val (.ref b197), .val (.int r), .val (.int cc), .val (.int ir), .val (.int sg), .val (.int nc), .val (.int ct), .val (.int ok), .unset]) rfl ?_
      show Steps p.tables e below (T259.setTop (mkF m 231 #[.val (.int p1), .val (.int p2), .val (.int p3), .val (.int (1 : Int32)), .val (.ref w1), .val (.ref b197), .val (.int r), .val (.int cc), .val (.int ir), .val (.int sg), .val (.int nc), .val (.int ct), .val (.int ok), .unset] [])) _
      refine XS.iload X259.here hx rfl (hb hby at_231) rfl ?_
      exact kt)
    obtain ⟨ex, hex⟩ : ∃ z : Int32, z = (if ir = (0 : Int32) then (0 : Int32) else (if sg = (0 : Int32) then (if nc = (0 : Int32) then (if ct = (0 : Int32) then (1 : Int32) else (if ok = (0 : Int32) then (0 : Int32) else (1 : Int32))) else (0 : Int32)) else (0 : Int32))) := ⟨_, rfl⟩
    have J285 : ∀ t, Steps p.tables e below (T259.setTop (mkF m 261 #[.val (.int p1), .val (.int p2), .val (.int p3), .val (.int (1 : Int32)), .val (.ref w1), .val (.ref b197), .val (.int r), .val (.int cc), .val (.int ir), .val (.int sg), .val (.int nc), .val (.int ct), .val (.int ok), .unset] [(.int ex)])) t → Steps p.tables e below (T259.setTop (mkF m 233 #[.val (.int p1), .val (.int p2), .val (.int p3), .val (.int (1 : Int32)), .val (.ref w1), .val (.ref b197), .val (.int r), .val (.int cc), .val (.int ir), .val (.int sg), .val (.int nc), .val (.int ct), .val (.int ok), .unset] [(.int ir)])) t := by
      intro t kt
      by_cases hr285_233_0 : ir = (0 : Int32)
      · have evex : ex = (0 : Int32) := by rw [hex, if_pos hr285_233_0]
        rw [evex] at kt
        show Steps p.tables e below (T259.setTop (mkF m 233 #[.val (.int p1), .val (.int p2), .val (.int p3), .val (.int (1 : Int32)), .val (.ref w1), .val (.ref b197), .val (.int r), .val (.int cc), .val (.int ir), .val (.int sg), .val (.int nc), .val (.int ct), .val (.int ok), .unset] [(.int ir)])) _
        refine XS.ifYes X259.here hx rfl (pc0 := 233) (pc' := 260) rfl (hb hby at_233) rfl ((if0 _ _).trans (teq hr285_233_0).1) (by decide) (by decide) ?_
        show Steps p.tables e below (T259.setTop (mkF m 260 #[.val (.int p1), .val (.int p2), .val (.int p3), .val (.int (1 : Int32)), .val (.ref w1), .val (.ref b197), .val (.int r), .val (.int cc), .val (.int ir), .val (.int sg), .val (.int nc), .val (.int ct), .val (.int ok), .unset] [])) _
        refine XS.iconst X259.here hx rfl (hb hby at_260) ?_
        exact kt
      · show Steps p.tables e below (T259.setTop (mkF m 233 #[.val (.int p1), .val (.int p2), .val (.int p3), .val (.int (1 : Int32)), .val (.ref w1), .val (.ref b197), .val (.int r), .val (.int cc), .val (.int ir), .val (.int sg), .val (.int nc), .val (.int ct), .val (.int ok), .unset] [(.int ir)])) _
        refine XS.ifNo X259.here hx rfl (hb hby at_233) rfl ((if0 _ _).trans (feq hr285_233_0).1) ?_
        show Steps p.tables e below (T259.setTop (mkF m 236 #[.val (.int p1), .val (.int p2), .val (.int p3), .val (.int (1 : Int32)), .val (.ref w1), .val (.ref b197), .val (.int r), .val (.int cc), .val (.int ir), .val (.int sg), .val (.int nc), .val (.int ct), .val (.int ok), .unset] [])) _
        refine XS.iload X259.here hx rfl (hb hby at_236) rfl ?_
        by_cases hr285_238_1 : sg = (0 : Int32)
        · show Steps p.tables e below (T259.setTop (mkF m 238 #[.val (.int p1), .val (.int p2), .val (.int p3), .val (.int (1 : Int32)), .val (.ref w1), .val (.ref b197), .val (.int r), .val (.int cc), .val (.int ir), .val (.int sg), .val (.int nc), .val (.int ct), .val (.int ok), .unset] [(.int sg)])) _
          refine XS.ifNo X259.here hx rfl (hb hby at_238) rfl ((if0 _ _).trans (teq hr285_238_1).2) ?_
          show Steps p.tables e below (T259.setTop (mkF m 241 #[.val (.int p1), .val (.int p2), .val (.int p3), .val (.int (1 : Int32)), .val (.ref w1), .val (.ref b197), .val (.int r), .val (.int cc), .val (.int ir), .val (.int sg), .val (.int nc), .val (.int ct), .val (.int ok), .unset] [])) _
          refine XS.iload X259.here hx rfl (hb hby at_241) rfl ?_
          by_cases hr285_243_2 : nc = (0 : Int32)
          · show Steps p.tables e below (T259.setTop (mkF m 243 #[.val (.int p1), .val (.int p2), .val (.int p3), .val (.int (1 : Int32)), .val (.ref w1), .val (.ref b197), .val (.int r), .val (.int cc), .val (.int ir), .val (.int sg), .val (.int nc), .val (.int ct), .val (.int ok), .unset] [(.int nc)])) _
            refine XS.ifNo X259.here hx rfl (hb hby at_243) rfl ((if0 _ _).trans (teq hr285_243_2).2) ?_
            show Steps p.tables e below (T259.setTop (mkF m 246 #[.val (.int p1), .val (.int p2), .val (.int p3), .val (.int (1 : Int32)), .val (.ref w1), .val (.ref b197), .val (.int r), .val (.int cc), .val (.int ir), .val (.int sg), .val (.int nc), .val (.int ct), .val (.int ok), .unset] [])) _
            refine XS.iload X259.here hx rfl (hb hby at_246) rfl ?_
            by_cases hr285_248_3 : ct = (0 : Int32)
            · have evex : ex = (1 : Int32) := by rw [hex, if_neg hr285_233_0, if_pos hr285_238_1, if_pos hr285_243_2, if_pos hr285_248_3]
              rw [evex] at kt
              show Steps p.tables e below (T259.setTop (mkF m 248 #[.val (.int p1), .val (.int p2), .val (.int p3), .val (.int (1 : Int32)), .val (.ref w1), .val (.ref b197), .val (.int r), .val (.int cc), .val (.int ir), .val (.int sg), .val (.int nc), .val (.int ct), .val (.int ok), .unset] [(.int ct)])) _
              refine XS.ifYes X259.here hx rfl (pc0 := 248) (pc' := 256) rfl (hb hby at_248) rfl ((if0 _ _).trans (teq hr285_248_3).1) (by decide) (by decide) ?_
              show Steps p.tables e below (T259.setTop (mkF m 256 #[.val (.int p1), .val (.int p2), .val (.int p3), .val (.int (1 : Int32)), .val (.ref w1), .val (.ref b197), .val (.int r), .val (.int cc), .val (.int ir), .val (.int sg), .val (.int nc), .val (.int ct), .val (.int ok), .unset] [])) _
              refine XS.iconst X259.here hx rfl (hb hby at_256) ?_
              show Steps p.tables e below (T259.setTop (mkF m 257 #[.val (.int p1), .val (.int p2), .val (.int p3), .val (.int (1 : Int32)), .val (.ref w1), .val (.ref b197), .val (.int r), .val (.int cc), .val (.int ir), .val (.int sg), .val (.int nc), .val (.int ct), .val (.int ok), .unset] [(.int (1 : Int32))])) _
              refine XS.goto X259.here hx rfl (pc0 := 257) (pc' := 261) rfl (hb hby at_257) (by decide) (by decide) ?_
              exact kt
            · show Steps p.tables e below (T259.setTop (mkF m 248 #[.val (.int p1), .val (.int p2), .val (.int p3), .val (.int (1 : Int32)), .val (.ref w1), .val (.ref b197), .val (.int r), .val (.int cc), .val (.int ir), .val (.int sg), .val (.int nc), .val (.int ct), .val (.int ok), .unset] [(.int ct)])) _
              refine XS.ifNo X259.here hx rfl (hb hby at_248) rfl ((if0 _ _).trans (feq hr285_248_3).1) ?_
              show Steps p.tables e below (T259.setTop (mkF m 251 #[.val (.int p1), .val (.int p2), .val (.int p3), .val (.int (1 : Int32)), .val (.ref w1), .val (.ref b197), .val (.int r), .val (.int cc), .val (.int ir), .val (.int sg), .val (.int nc), .val (.int ct), .val (.int ok), .unset] [])) _
              refine XS.iload X259.here hx rfl (hb hby at_251) rfl ?_
              by_cases hr285_253_4 : ok = (0 : Int32)
              · have evex : ex = (0 : Int32) := by rw [hex, if_neg hr285_233_0, if_pos hr285_238_1, if_pos hr285_243_2, if_neg hr285_248_3, if_pos hr285_253_4]
                rw [evex] at kt
                show Steps p.tables e below (T259.setTop (mkF m 253 #[.val (.int p1), .val (.int p2), .val (.int p3), .val (.int (1 : Int32)), .val (.ref w1), .val (.ref b197), .val (.int r), .val (.int cc), .val (.int ir), .val (.int sg), .val (.int nc), .val (.int ct), .val (.int ok), .unset] [(.int ok)])) _
                refine XS.ifYes X259.here hx rfl (pc0 := 253) (pc' := 260) rfl (hb hby at_253) rfl ((if0 _ _).trans (teq hr285_253_4).1) (by decide) (by decide) ?_
                show Steps p.tables e below (T259.setTop (mkF m 260 #[.val (.int p1), .val (.int p2), .val (.int p3), .val (.int (1 : Int32)), .val (.ref w1), .val (.ref b197), .val (.int r), .val (.int cc), .val (.int ir), .val (.int sg), .val (.int nc), .val (.int ct), .val (.int ok), .unset] [])) _
                refine XS.iconst X259.here hx rfl (hb hby at_260) ?_
                exact kt
              · have evex : ex = (1 : Int32) := by rw [hex, if_neg hr285_233_0, if_pos hr285_238_1, if_pos hr285_243_2, if_neg hr285_248_3, if_neg hr285_253_4]
                rw [evex] at kt
                show Steps p.tables e below (T259.setTop (mkF m 253 #[.val (.int p1), .val (.int p2), .val (.int p3), .val (.int (1 : Int32)), .val (.ref w1), .val (.ref b197), .val (.int r), .val (.int cc), .val (.int ir), .val (.int sg), .val (.int nc), .val (.int ct), .val (.int ok), .unset] [(.int ok)])) _
                refine XS.ifNo X259.here hx rfl (hb hby at_253) rfl ((if0 _ _).trans (feq hr285_253_4).1) ?_
                show Steps p.tables e below (T259.setTop (mkF m 256 #[.val (.int p1), .val (.int p2), .val (.int p3), .val (.int (1 : Int32)), .val (.ref w1), .val (.ref b197), .val (.int r), .val (.int cc), .val (.int ir), .val (.int sg), .val (.int nc), .val (.int ct), .val (.int ok), .unset] [])) _
                refine XS.iconst X259.here hx rfl (hb hby at_256) ?_
                show Steps p.tables e below (T259.setTop (mkF m 257 #[.val (.int p1), .val (.int p2), .val (.int p3), .val (.int (1 : Int32)), .val (.ref w1), .val (.ref b197), .val (.int r), .val (.int cc), .val (.int ir), .val (.int sg), .val (.int nc), .val (.int ct), .val (.int ok), .unset] [(.int (1 : Int32))])) _
                refine XS.goto X259.here hx rfl (pc0 := 257) (pc' := 261) rfl (hb hby at_257) (by decide) (by decide) ?_
                exact kt
          · have evex : ex = (0 : Int32) := by rw [hex, if_neg hr285_233_0, if_pos hr285_238_1, if_neg hr285_243_2]
            rw [evex] at kt
            show Steps p.tables e below (T259.setTop (mkF m 243 #[.val (.int p1), .val (.int p2), .val (.int p3), .val (.int (1 : Int32)), .val (.ref w1), .val (.ref b197), .val (.int r), .val (.int cc), .val (.int ir), .val (.int sg), .val (.int nc), .val (.int ct), .val (.int ok), .unset] [(.int nc)])) _
            refine XS.ifYes X259.here hx rfl (pc0 := 243) (pc' := 260) rfl (hb hby at_243) rfl ((if0 _ _).trans (feq hr285_243_2).2) (by decide) (by decide) ?_
            show Steps p.tables e below (T259.setTop (mkF m 260 #[.val (.int p1), .val (.int p2), .val (.int p3), .val (.int (1 : Int32)), .val (.ref w1), .val (.ref b197), .val (.int r), .val (.int cc), .val (.int ir), .val (.int sg), .val (.int nc), .val (.int ct), .val (.int ok), .unset] [])) _
            refine XS.iconst X259.here hx rfl (hb hby at_260) ?_
            exact kt
        · have evex : ex = (0 : Int32) := by rw [hex, if_neg hr285_233_0, if_neg hr285_238_1]
          rw [evex] at kt
          show Steps p.tables e below (T259.setTop (mkF m 238 #[.val (.int p1), .val (.int p2), .val (.int p3), .val (.int (1 : Int32)), .val (.ref w1), .val (.ref b197), .val (.int r), .val (.int cc), .val (.int ir), .val (.int sg), .val (.int nc), .val (.int ct), .val (.int ok), .unset] [(.int sg)])) _
          refine XS.ifYes X259.here hx rfl (pc0 := 238) (pc' := 260) rfl (hb hby at_238) rfl ((if0 _ _).trans (feq hr285_238_1).2) (by decide) (by decide) ?_
          show Steps p.tables e below (T259.setTop (mkF m 260 #[.val (.int p1), .val (.int p2), .val (.int p3), .val (.int (1 : Int32)), .val (.ref w1), .val (.ref b197), .val (.int r), .val (.int cc), .val (.int ir), .val (.int sg), .val (.int nc), .val (.int ct), .val (.int ok), .unset] [])) _
          refine XS.iconst X259.here hx rfl (hb hby at_260) ?_
          exact kt
    have P286 : ∀ t, Steps p.tables e below (T259.setTop (mkF m 261 #[.val (.int p1), .val (.int p2), .val (.int p3), .val (.int (1 : Int32)), .val (.ref w1), .val (.ref b197), .val (.int r), .val (.int cc), .val (.int ir), .val (.int sg), .val (.int nc), .val (.int ct), .val (.int ok), .unset] [(.int ex)])) t → Steps p.tables e below (s₁.setTop (entryFrame m #[(.int p1), (.int p2), (.int p3)] maxLocals)) t := fun t kt => P284 t (J285 t kt)
    obtain ⟨cq287, kq287, q287a, q287b, q287c⟩ := isOf hZ e259 f263
    obtain ⟨_, _, ⟨T287, L287, k287, n287⟩, -, X287, ⟨Lc287, hQ287, l287, y287, z287⟩, st287⟩ := X259.virtualBack hx (y := (⟨"com/example/libxform/libxform/output/XmlVersion", "allows", "(I)Z"⟩ : MethodName)) (z := (⟨"com/example/libxform/libxform/output/XmlVersion", "allows", "(I)Z"⟩ : MethodName)) hown (mvT hZ (hw _ (List.mem_of_getElem? (i := 13) rfl))) (mvT hZ (hw _ (List.mem_of_getElem? (i := 14) rfl))) (notFace_of_selects (args := #[]) (mvT hZ (hw _ (List.mem_of_getElem? (i := 16) rfl)))) (mvT hZ (hw _ (List.mem_of_getElem? (i := 16) rfl))) (mvT hZ (hw _ (List.mem_of_getElem? (i := 15) rfl))) (by decide) (backOf (W := 0)  (rmA l Z a0 hw [] w1 cc w1 h259 f261) hZ (hw _ (List.mem_of_getElem? (i := 17) rfl)) (hw _ (List.mem_of_getElem? (i := 1) rfl)) (by decide) (by decide)) q287a q287c (g := (mkF m 267 #[.val (.int p1), .val (.int p2), .val (.int p3), .val (.int (1 : Int32)), .val (.ref w1), .val (.ref b197), .val (.int r), .val (.int cc), .val (.int ir), .val (.int sg), .val (.int nc), .val (.int ct), .val (.int ok), .val (.int ex)] [(.int cc), (.ref w1)])) rfl (by rw [hml]; rfl) (Steps.refl _) (argsL := [(.int cc)]) (rest := []) (lenOf pd__I_Z rfl) rfl (by show 2 * 0 + _ ≤ _; exact Nat.le_of_eq rfl) (hb hby at_267) (fun _ _ => ⟨rfl, e259, (by decide : 1 + 0 ≤ _), (by decide : 9 + 0 ≤ _)⟩)
    dsimp only [Pt.U, Pt.locs, Pt.cells, Pt.slots] at X287 l287 y287 z287 st287 hQ287
    subst l287 y287 z287
    obtain ⟨rfl, rfl, e287⟩ := hQ287
    have N287 := Fr.app N259 (Fr.nil n0)
    have P288 : ∀ t, Steps p.tables e below (T287.setTop (mkF m 280 #[.val (.int p1), .val (.int p2), .val (.int p3), .val (.int (1 : Int32)), .val (.ref w1), .val (.ref b197), .val (.int r), .val (.int cc), .val (.int ir), .val (.int sg), .val (.int nc), .val (.int ct), .val (.int ok), .val (.int ex)] [(.int (1 : Int32))])) t → Steps p.tables e below (s₁.setTop (entryFrame m #[(.int p1), (.int p2), (.int p3)] maxLocals)) t := fun t kt => P286 t (by
      show Steps p.tables e below (T259.setTop (mkF m 261 #[.val (.int p1), .val (.int p2), .val (.int p3), .val (.int (1 : Int32)), .val (.ref w1), .val (.ref b197), .val (.int r), .val (.int cc), .val (.int ir), .val (.int sg), .val (.int nc), .val (.int ct), .val (.int ok), .unset] [(.int ex)])) _
      refine XS.istore X259.here hx rfl (hb hby at_261) rfl (l' := #[.val (.int p1), .val (.int p2), .val (.int p3), .val (.int (1 : Int32)), .val (.ref w1), .val (.ref b197), .val (.int r), .val (.int cc), .val (.int ir), .val (.int sg), .val (.int nc), .val (.int ct), .val (.int ok), .val (.int ex)]) rfl ?_
      show Steps p.tables e below (T259.setTop (mkF m 263 #[.val (.int p1), .val (.int p2), .val (.int p3), .val (.int (1 : Int32)), .val (.ref w1), .val (.ref b197), .val (.int r), .val (.int cc), .val (.int ir), .val (.int sg), .val (.int nc), .val (.int ct), .val (.int ok), .val (.int ex)] [])) _
      refine XS.aload X259.here hx rfl (hb hby at_263) rfl rfl ?_
      show Steps p.tables e below (T259.setTop (mkF m 265 #[.val (.int p1), .val (.int p2), .val (.int p3), .val (.int (1 : Int32)), .val (.ref w1), .val (.ref b197), .val (.int r), .val (.int cc), .val (.int ir), .val (.int sg), .val (.int nc), .val (.int ct), .val (.int ok), .val (.int ex)] [(.ref w1)])) _
      refine XS.iload X259.here hx rfl (hb hby at_265) rfl ?_
      show Steps p.tables e below (T259.setTop (mkF m 267 #[.val (.int p1), .val (.int p2), .val (.int p3), .val (.int (1 : Int32)), .val (.ref w1), .val (.ref b197), .val (.int r), .val (.int cc), .val (.int ir), .val (.int sg), .val (.int nc), .val (.int ct), .val (.int ok), .val (.int ex)] [(.int cc), (.ref w1)])) _
      refine st287.trans ?_
      show Steps p.tables e below (T287.setTop (mkF m 270 #[.val (.int p1), .val (.int p2), .val (.int p3), .val (.int (1 : Int32)), .val (.ref w1), .val (.ref b197), .val (.int r), .val (.int cc), .val (.int ir), .val (.int sg), .val (.int nc), .val (.int ct), .val (.int ok), .val (.int ex)] [(.int (fA w1 w1 cc))])) _
      refine XS.iload X287.here hx rfl (hb hby at_270) rfl ?_
      show Steps p.tables e below (T287.setTop (mkF m 272 #[.val (.int p1), .val (.int p2), .val (.int p3), .val (.int (1 : Int32)), .val (.ref w1), .val (.ref b197), .val (.int r), .val (.int cc), .val (.int ir), .val (.int sg), .val (.int nc), .val (.int ct), .val (.int ok), .val (.int ex)] [(.int ex), (.int (fA w1 w1 cc))])) _
      refine XS.icmpNo X287.here hx rfl (hb hby at_272) rfl (teq ((own_law1 w1 cc).trans ((by rw [hex, hir, hsg, hnc, hct, hok]; rfl : ex = fEX (fIR cc) (fSG cc) (fNC cc) (fCT cc) (fO1 cc)).symm : _ = ex) : (fA w1 w1 cc) = ex)).2 ?_
      show Steps p.tables e below (T287.setTop (mkF m 275 #[.val (.int p1), .val (.int p2), .val (.int p3), .val (.int (1 : Int32)), .val (.ref w1), .val (.ref b197), .val (.int r), .val (.int cc), .val (.int ir), .val (.int sg), .val (.int nc), .val (.int ct), .val (.int ok), .val (.int ex)] [])) _
      refine XS.iconst X287.here hx rfl (hb hby at_275) ?_
      show Steps p.tables e below (T287.setTop (mkF m 276 #[.val (.int p1), .val (.int p2), .val (.int p3), .val (.int (1 : Int32)), .val (.ref w1), .val (.ref b197), .val (.int r), .val (.int cc), .val (.int ir), .val (.int sg), .val (.int nc), .val (.int ct), .val (.int ok), .val (.int ex)] [(.int (1 : Int32))])) _
      refine XS.goto X287.here hx rfl (pc0 := 276) (pc' := 280) rfl (hb hby at_276) (by decide) (by decide) ?_
      exact kt)
    obtain ⟨fs, hr, hrun, hended, hW, hsame⟩ := X287.leave (v := some (.int (1 : Int32))) (fun h => by rw [Bd.returns] at h; cases h) (hlocks := hlk)
    refine ⟨_, _, P288 _ ?_, hrun, hended, _, _, rfl, ?_, ⟨_, rfl⟩, hW, hsame.mono (by decide) (by decide)⟩
    · show Steps p.tables e below (T287.setTop (mkF m 280 #[.val (.int p1), .val (.int p2), .val (.int p3), .val (.int (1 : Int32)), .val (.ref w1), .val (.ref b197), .val (.int r), .val (.int cc), .val (.int ir), .val (.int sg), .val (.int nc), .val (.int ct), .val (.int ok), .val (.int ex)] [(.int (1 : Int32))])) _
      exact retN X287 hx (t := .boolean) Bd.returns (by simp) (hb hby at_280) hr
    · show Q0 n0 _ T287.heap _
      exact ⟨rfl, N287⟩
set_option maxRecDepth 65536 in
set_option maxHeartbeats 40000000 in
theorem comes_1 {Post : Tables → Env → Array Value → State → Outcome → State → Prop} (hpost : ∀ tb e args s v u, (limb_1_1.after args s (.returned v) u = true ∧ limb_1_2.after args s (.returned v) u = true ∧ True) → FrameEnd s (.returned v) u (Jvm.fieldLocs frame_1_writes args s ++ Jvm.arrayLocs frame_1_arrays args s ++ Jvm.staticLocs frame_1_statics s) 16 128 → Post tb e args s (.returned v) u) :
    ArmFor flags0 classFile x code maxLocals ret World_1 tables_1 room_1 Calls_1 rest_1 Pre_1 Post := by
  intro l hfl _ _ p e ha hc hk s m args below hf hA hF happ hP
  obtain ⟨hcalls, hrest, hpre⟩ := hP
  obtain ⟨-, -, -, hnamed, -, -, -, hat⟩ := (Spec.applies_iff hf).mp happ
  obtain ⟨hg, hn⟩ := and_e (Cond.before_iff.mp (show (Jvm.Cond.and given_1 narrow_1).before args s = true from hpre))
  obtain ⟨g1, g2⟩ := and_e hg
  obtain ⟨g3, g4⟩ := and_e g2
  obtain ⟨g5, g6⟩ := and_e g4
  obtain ⟨w0, w1, w2, rfl⟩ : ∃ w0 w1 w2 : Value, args = #[w0, w1, w2] := by
    have hs : args.size = 3 := by simpa [Cond.value, given_1] using g1
    obtain ⟨L⟩ := args
    match L, hs with
    | [w0, w1, w2], _ => exact ⟨w0, w1, w2, rfl⟩
  have hw := fun d (hd : d ∈ tables_1) => atoms_spec (ws := Jvm.Cond.code x code maxLocals ret :: tables_1) hat d (List.mem_cons_of_mem _ hd)
  obtain ⟨i0, ei0⟩ := is_v g3
  obtain rfl : w0 = (.int i0) := Option.some.inj ei0
  obtain ⟨i1, ei1⟩ := is_v g5
  obtain rfl : w1 = (.int i1) := Option.some.inj ei1
  obtain ⟨i2, ei2⟩ := is_v g6
  obtain rfl : w2 = (.int i2) := Option.some.inj ei2
  obtain ⟨nn1, nn2⟩ := and_e hn
  obtain ⟨nn3, nn4⟩ := and_e nn2
  obtain ⟨nn5, nn6⟩ := and_e nn4
  obtain ⟨w_V1_0, ev_V1_0⟩ := exa_v nn1
  have S_V1_0 : Sta s s.heap "com/example/libxform/libxform/output/XmlVersion" "V1_0" "Lcom/example/libxform/libxform/output/XmlVersion;" (.ref w_V1_0) := Sta.start ev_V1_0 (Or.inr ⟨(hw _ (List.mem_of_getElem? (i := 1) rfl)), (hw _ (List.mem_of_getElem? (i := 2) rfl))⟩)
  have E_V1_0 : Exa s s.heap w_V1_0 "com/example/libxform/libxform/output/XmlVersion" := Exa.start ev_V1_0 nn1
  have ov_V1_0 : s.fieldOf? w_V1_0 "java/lang/Enum" "ordinal" "I" = some (.int (0 : Int32)) := (fld_at ev_V1_0).symm.trans (own_eqv nn5)
  have O_V1_0 : Fld s s.heap w_V1_0 "java/lang/Enum" "ordinal" "I" (.int (0 : Int32)) := Fld.start ((fld_at ev_V1_0).symm.trans (own_eqv nn5))
  obtain ⟨w_V1_1, ev_V1_1⟩ := exa_v nn3
  have S_V1_1 : Sta s s.heap "com/example/libxform/libxform/output/XmlVersion" "V1_1" "Lcom/example/libxform/libxform/output/XmlVersion;" (.ref w_V1_1) := Sta.start ev_V1_1 (Or.inr ⟨(hw _ (List.mem_of_getElem? (i := 1) rfl)), (hw _ (List.mem_of_getElem? (i := 22) rfl))⟩)
  have E_V1_1 : Exa s s.heap w_V1_1 "com/example/libxform/libxform/output/XmlVersion" := Exa.start ev_V1_1 nn3
  have ov_V1_1 : s.fieldOf? w_V1_1 "java/lang/Enum" "ordinal" "I" = some (.int (1 : Int32)) := (fld_at ev_V1_1).symm.trans (own_eqv nn6)
  have O_V1_1 : Fld s s.heap w_V1_1 "java/lang/Enum" "ordinal" "I" (.int (1 : Int32)) := Fld.start ((fld_at ev_V1_1).symm.trans (own_eqv nn6))
  have hne : ¬ w_V1_0 = w_V1_1 := fun q => by rw [q, ov_V1_1] at ov_V1_0; exact absurd (Value.int.inj (Option.some.inj ov_V1_0)) (by decide)
  obtain ⟨n, o, h1, h2, h3, _, L, rfl, ⟨rfl, N⟩, hq⟩ := rm0 l s _ hw tables_1 i0 i1 i2 w_V1_0 w_V1_1 s.heap s.heap.size (Nat.le_refl _) S_V1_0 S_V1_1 E_V1_0 E_V1_1 hne  p e ha hc hk s m _ below hf ((Spec.applies_iff_loose hf).mp happ).1 ⟨rfl, State.Warmed39.refl s, rfl⟩ trivial
  refine ⟨n, _, h1, h2, h3, hpost _ _ _ _ _ _ ⟨Cond.after_iff.mpr rfl, Cond.after_iff.mpr (eq_i res_at (Term.int_eval (1)) rfl), trivial⟩ ⟨hq.1, hq.2.1, (hq.2.2.sift fun y hy => Or.inr (N y hy)).mono (by decide) (by decide)⟩⟩
theorem main_1_1 : Claimed_1_1 := comes_1 fun _ _ _ _ _ _ h hF => ⟨h.1, hF⟩
theorem main_1_2 : Claimed_1_2 := comes_1 fun _ _ _ _ _ _ h hF => ⟨h.2.1, hF⟩
end Jvm.Pilot.@@N@@
namespace Jvm.Pilot.@@N@@
open Jvm Jvm.ClassFile Sem Op Lib Jvm.Free Jvm.Stand Jvm.Pilot.@@N@@.Jvm.D
/-! MADE BY PROGRAM (witnessworld.py) out of the Statement's table words and the real class files: 12 classes; the members and pool entries that the words name. The judged class is class 1, her method 1. -/
namespace start1
open Jvm.ClassFile
def u (s : String) : CpInfo := .utf8 (stringToUtf16 s)
/-- a pool by its gaps: so many unusable entries, then the entry; so many at the end -/
def gap : Nat → List CpInfo → List CpInfo
  | 0, r => r
  | n + 1, r => .unusable :: gap n r
def poolList (es : List (Nat × CpInfo)) (last : Nat) : List CpInfo := es.foldr (fun e r => gap e.1 (e.2 :: r)) (gap last [])
def pool (es : List (Nat × CpInfo)) (last : Nat) : Array CpInfo := ⟨poolList es last⟩
def fileOf (pool : Array CpInfo) (this : Nat) (attrs : Array Attribute := #[]) (ms : Array MethodInfo := #[]) (fl : Nat := 33) (sup : Nat := 0) (ifs : Array Nat := #[]) (fds : Array FieldInfo := #[]) : ClassFile where
  minorVersion := 0
  majorVersion := 65
  constantPool := pool
  accessFlags := fl
  thisClass := this
  superClass := sup
  interfaces := ifs
  fields := fds
  methods := ms
  attributes := attrs
def plain (name : String) (sup : Option ClassId) : Class where
  name := name
  kind := .ordinary
  loader := none
  accessFlags := 33
  super := sup
  interfaces := #[]
  cf := none
  fields := #[]
  methods := #[]
  instanceTypes := #[]
  staticTypes := #[]
  resolved := #[]
  callSites := []
  init := .initialized
  statics := none
  mirror := none

def pool0 : Array CpInfo := pool [(5, u "<init>"), (0, u "()V"), (1, .class_ 10), (1, u "java/lang/Object")] 113

def k0m0 : Method := { name := "<init>", desc := "()V", sig := { parameters := [], returnType := none }, accessFlags := 1, code := none }
/-- java/lang/Object -/
def k0 : Class := { plain "java/lang/Object" none with
  accessFlags := 33
  interfaces := #[]
  cf := some (fileOf pool0 8 #[] #[{ accessFlags := 1, nameIndex := 5, descriptorIndex := 6, attributes := #[] }] 33 0 #[] #[])
  fields := #[]
  methods := #[k0m0]
  instanceTypes := #[]
  staticTypes := #[]
  resolved := Array.replicate 124 none
  statics := none }

def pool1 : Array CpInfo := pool [(2, .class_ 4), (1, u "java/lang/Object"), (0, u "<init>"), (0, u "()V"), (0, .fieldref 8 9), (0, .class_ 10), (0, .nameAndType 11 12), (0, u "com/example/libxform/libxform/output/XmlVersion"), (0, u "V1_1"), (0, u "Lcom/example/libxform/libxform/output/XmlVersion;"), (0, .fieldref 8 14), (0, .nameAndType 15 12), (0, u "V1_0"), (0, .integer 55296), (0, .integer 57344), (0, .integer 65534), (0, .integer 65536), (0, .integer 1114112), (0, .integer 2147483647), (0, .integer 1114111), (0, .integer 57343), (0, .integer 65535), (0, .methodref 8 26), (0, .nameAndType 27 28), (0, u "allows"), (0, u "(I)Z"), (0, .class_ 30), (0, u "com/example/libxform/libxform/output/XmlVersionAllowsPinLaw"), (2, u "law"), (0, u "(III)Z")] 5

def k1m0 : Method := { name := "<init>", desc := "()V", sig := { parameters := [], returnType := none }, accessFlags := 1, code := none }
def k1c1 : Code := { maxStack := 4, maxLocals := 14, code := code, exceptionTable := #[], attributes := #[] }
def k1m1 : Method := { name := "law", desc := "(III)Z", sig := { parameters := [.int, .int, .int], returnType := some .boolean }, accessFlags := 9, code := some k1c1 }
/-- com/example/libxform/libxform/output/XmlVersionAllowsPinLaw -/
def k1 : Class := { plain "com/example/libxform/libxform/output/XmlVersionAllowsPinLaw" (some 0) with
  accessFlags := 49
  interfaces := #[]
  cf := some (fileOf pool1 29 #[] #[{ accessFlags := 1, nameIndex := 5, descriptorIndex := 6, attributes := #[] }, { accessFlags := 9, nameIndex := 33, descriptorIndex := 34, attributes := #[] }] 49 2 #[] #[])
  fields := #[]
  methods := #[k1m0, k1m1]
  instanceTypes := #[]
  staticTypes := #[]
  resolved := Array.replicate 40 none
  statics := none }

def pool2 : Array CpInfo := pool [(1, .class_ 2), (0, u "java/lang/constant/Constable"), (0, .class_ 4), (0, u "java/lang/Object")] 6

/-- java/lang/constant/Constable -/
def k2 : Class := { plain "java/lang/constant/Constable" (some 0) with
  accessFlags := 1537
  interfaces := #[]
  cf := some (fileOf pool2 1 #[] #[] 1537 3 #[] #[])
  fields := #[]
  methods := #[]
  instanceTypes := #[]
  staticTypes := #[]
  resolved := Array.replicate 11 none
  statics := none }

def pool3 : Array CpInfo := pool [(1, .class_ 2), (0, u "java/lang/Comparable"), (0, .class_ 4), (0, u "java/lang/Object")] 7

/-- java/lang/Comparable -/
def k3 : Class := { plain "java/lang/Comparable" (some 0) with
  accessFlags := 1537
  interfaces := #[]
  cf := some (fileOf pool3 1 #[] #[] 1537 3 #[] #[])
  fields := #[]
  methods := #[]
  instanceTypes := #[]
  staticTypes := #[]
  resolved := Array.replicate 12 none
  statics := none }

def pool4 : Array CpInfo := pool [(1, .class_ 2), (0, u "java/io/Serializable"), (0, .class_ 4), (0, u "java/lang/Object")] 2

/-- java/io/Serializable -/
def k4 : Class := { plain "java/io/Serializable" (some 0) with
  accessFlags := 1537
  interfaces := #[]
  cf := some (fileOf pool4 1 #[] #[] 1537 3 #[] #[])
  fields := #[]
  methods := #[]
  instanceTypes := #[]
  staticTypes := #[]
  resolved := Array.replicate 7 none
  statics := none }

def pool5 : Array CpInfo := pool [(2, .class_ 4), (1, u "java/lang/Enum"), (0, u "name"), (0, u "Ljava/lang/String;"), (2, u "ordinal"), (0, u "I"), (1, .class_ 14), (1, u "java/lang/Object"), (4, u "hash"), (86, .class_ 108), (1, u "java/lang/Enum$EnumDesc"), (2, .class_ 112), (0, u "java/lang/constant/Constable"), (0, .class_ 114), (0, u "java/lang/Comparable"), (0, .class_ 116), (0, u "java/io/Serializable")] 87

/-- java/lang/Enum -/
def k5 : Class := { plain "java/lang/Enum" (some 0) with
  accessFlags := 1057
  interfaces := #[2, 3, 4]
  cf := some (fileOf pool5 2 #[.nestMembers #[106]] #[] 1057 12 #[111, 113, 115] #[{ accessFlags := 18, nameIndex := 5, descriptorIndex := 6, attributes := #[] }, { accessFlags := 18, nameIndex := 9, descriptorIndex := 10, attributes := #[] }, { accessFlags := 2, nameIndex := 19, descriptorIndex := 10, attributes := #[] }])
  fields := #[{ name := "name", type := (.object "java/lang/String"), accessFlags := 18, slot := 0, constantValue := 0 }, { name := "ordinal", type := .int, accessFlags := 18, slot := 1, constantValue := 0 }, { name := "hash", type := .int, accessFlags := 2, slot := 2, constantValue := 0 }]
  methods := #[]
  instanceTypes := #[(.object "java/lang/String"), .int, .int]
  staticTypes := #[]
  resolved := Array.replicate 204 none
  statics := none }

def pool6 : Array CpInfo := pool [(1, .class_ 2), (0, u "com/example/libxform/libxform/output/XmlVersion"), (2, u "V1_0"), (0, u "Lcom/example/libxform/libxform/output/XmlVersion;"), (0, .fieldref 1 8), (0, .nameAndType 9 6), (0, u "V1_1"), (2, u "$VALUES"), (0, u "[Lcom/example/libxform/libxform/output/XmlVersion;"), (6, .class_ 22), (1, u "java/lang/Enum"), (8, u "number"), (0, u "Ljava/lang/String;"), (8, .integer 55295), (0, .integer 57344), (0, .integer 65533), (0, .integer 65536), (2, .integer 1114111), (25, u "allows"), (0, u "(I)Z")] 23

def k6c0 : Code := { maxStack := 2, maxLocals := 2, code := prog_55_method_6_code, exceptionTable := #[], attributes := #[] }
def k6m0 : Method := { name := "allows", desc := "(I)Z", sig := { parameters := [.int], returnType := some .boolean }, accessFlags := 0, code := some k6c0 }
/-- com/example/libxform/libxform/output/XmlVersion -/
def k6 : Class := { plain "com/example/libxform/libxform/output/XmlVersion" (some 5) with
  accessFlags := 16432
  interfaces := #[]
  cf := some (fileOf pool6 1 #[] #[{ accessFlags := 0, nameIndex := 73, descriptorIndex := 74, attributes := #[] }] 16432 20 #[] #[{ accessFlags := 16409, nameIndex := 5, descriptorIndex := 6, attributes := #[] }, { accessFlags := 16409, nameIndex := 9, descriptorIndex := 6, attributes := #[] }, { accessFlags := 18, nameIndex := 31, descriptorIndex := 32, attributes := #[] }, { accessFlags := 4122, nameIndex := 12, descriptorIndex := 13, attributes := #[] }])
  fields := #[{ name := "V1_0", type := (.object "com/example/libxform/libxform/output/XmlVersion"), accessFlags := 16409, slot := 0, constantValue := 0 }, { name := "V1_1", type := (.object "com/example/libxform/libxform/output/XmlVersion"), accessFlags := 16409, slot := 1, constantValue := 0 }, { name := "number", type := (.object "java/lang/String"), accessFlags := 18, slot := 3, constantValue := 0 }, { name := "$VALUES", type := (.array (.object "com/example/libxform/libxform/output/XmlVersion")), accessFlags := 4122, slot := 2, constantValue := 0 }]
  methods := #[k6m0]
  instanceTypes := #[(.object "java/lang/String"), .int, .int, (.object "java/lang/String")]
  staticTypes := #[(.object "com/example/libxform/libxform/output/XmlVersion"), (.object "com/example/libxform/libxform/output/XmlVersion"), (.array (.object "com/example/libxform/libxform/output/XmlVersion"))]
  resolved := Array.replicate 98 none
  statics := some 0 }

def pool7 : Array CpInfo := pool [(1, u "java/lang/Cloneable"), (0, .class_ 1), (0, u "java/lang/Object"), (0, .class_ 3)] 3

/-- java/lang/Cloneable -/
def k7 : Class := { plain "java/lang/Cloneable" (some 0) with
  accessFlags := 1537
  interfaces := #[]
  cf := some (fileOf pool7 2 #[] #[] 1537 4 #[] #[])
  fields := #[]
  methods := #[]
  instanceTypes := #[]
  staticTypes := #[]
  resolved := Array.replicate 8 none
  statics := none }

/-- the primitive byte -/
def k8 : Class := { plain "byte" none with kind := .primitive 'B', accessFlags := 0x411 }
/-- [B -/
def k9 : Class := { plain "[B" (some 0) with kind := .array 8 .byte, interfaces := #[7, 4], accessFlags := 1041 }

/-- the primitive int -/
def k10 : Class := { plain "int" none with kind := .primitive 'I', accessFlags := 0x411 }
/-- [I -/
def k11 : Class := { plain "[I" (some 0) with kind := .array 10 .int, interfaces := #[7, 4], accessFlags := 1041 }

def heap : Heap := #[{ cls := 6, slots := #[.ref 1, .ref 2, .null], vm := .statics 6 },
  { cls := 6, slots := #[.null, .int 0, .int 0, .null], vm := .none },
  { cls := 6, slots := #[.null, .int 1, .int 0, .null], vm := .none }]
def classes : Array Class := #[k0, k1, k2, k3, k4, k5, k6, k7, k8, k9, k10, k11]
def interned : List (Array UInt16 × Addr) := []
def slotsUsed : Nat := 11
def theMethod : MethodId := ⟨1, 1⟩
def args0 : Array Value := #[.int 5, .int 3, .int 1]
def aboutOver (below : List Frame) : State where
  vm := { classes := classes, interned := interned.toArray }
  heap := heap
  slotsUsed := slotsUsed
  threads := #[{ frames := .invoking theMethod args0 :: below }]
def below0 : List Frame := [.native { method := ⟨0, 0⟩, args := #[] }]
def about1 : State := aboutOver below0
def p0 : Program := .bare "" "" ""
def e0 : Env := launch0.env 0 0 0
theorem w_frames : about1.frames = Frame.invoking theMethod args0 :: below0 := rfl
set_option maxRecDepth 65536 in
theorem w_args : argsFit about1.vm theMethod args0 = true := by decide +kernel
set_option maxRecDepth 65536 in
theorem w_heap : heapFits about1 = true := by decide +kernel
set_option maxRecDepth 65536 in
theorem w_runnable : about1.curStatus? = some .runnable := by decide +kernel
set_option maxRecDepth 65536 in
theorem w_alone : about1.alone = true := by decide +kernel
set_option maxRecDepth 65536 in
theorem w_named : about1.methodNamed? x = some theMethod := by decide +kernel
set_option maxRecDepth 65536 in
theorem w_hears : about1.hears theMethod below0 = true := by decide +kernel
set_option maxRecDepth 65536 in
theorem w_ripe : about1.ripe theMethod args0 below0 = true := by decide +kernel
theorem w_running : about1.status = .running := rfl
set_option maxRecDepth 65536 in
theorem w_room : about1.hasRoom e0.platform room_1 = true :=
  launch0.hasRoom_least _ room_1 (by decide +kernel) (by decide +kernel) (by decide +kernel) (by decide +kernel) (by decide +kernel) (by decide +kernel)
theorem allAtoms_all (ts : List Jvm.Cond) (a : Array Jvm.Value) (st : Jvm.State) : (allAtoms ts).before a st = ts.all (fun c => c.before a st) := by
  induction ts with
  | nil => rfl
  | cons c t ih =>
    show (Jvm.Cond.and c (allAtoms t)).before a st = _
    rw [Jvm.Cond.before_and, ih, List.all_cons]
def words1 : List Jvm.Cond := Jvm.Cond.code x code maxLocals ret :: tables_1
/-- a 'code' word, met by the world's own term for the bytes: nothing is compared byte by byte -/
theorem code_word {y : MethodName} {bytes : ByteArray} {mx : Nat} {rt : Option FieldType} {a : Array Value} {s : State} {m : MethodId} {meth : Method} {c : Code} (h1 : s.methodNamed? y = some m) (h2 : s.vm.method? m = some meth) (h3 : meth.code = some c) (h4 : c.code = bytes)
    (h5 : (c.maxLocals == mx && c.exceptionTable.isEmpty && decide (c.maxStack ≤ mostOperands) && decide (meth.sig.returnType = rt) && !meth.locks && decide (parseMethodDescriptor y.desc = some meth.sig)) = true) : (Jvm.Cond.code y bytes mx rt).before a s = true := by
  simp only [Bool.and_eq_true, beq_iff_eq, Bool.not_eq_true', decide_eq_true_eq] at h5
  obtain ⟨⟨⟨⟨⟨g1, g2⟩, g3⟩, g4⟩, g5⟩, g6⟩ := h5
  simp [Cond.before, Cond.holds, Cond.value, h1, h2, h3, h4, g1, g2, g3, g4, g5, g6]
def isCode : Jvm.Cond → Bool
  | .code _ _ _ _ => true
  | _ => false
theorem all_split {L : List Jvm.Cond} {P : Jvm.Cond → Bool} (h1 : L.all (fun c => isCode c || P c) = true) (h2 : ∀ c ∈ L.filter isCode, P c = true) : L.all P = true := by
  refine List.all_eq_true.mpr fun c hc => ?_
  have h := List.all_eq_true.mp h1 c hc
  rcases Bool.eq_false_or_eq_true (isCode c) with hi | hi
  · exact h2 c (List.mem_filter.mpr ⟨hc, hi⟩)
  · simpa [hi] using h
set_option maxRecDepth 65536 in
theorem w_c0 : (Jvm.Cond.code x code maxLocals ret).before args0 about1 = true := code_word (m := ⟨1, 1⟩) (meth := k1m1) (c := k1c1) (by decide +kernel) rfl rfl rfl (by decide +kernel)
set_option maxRecDepth 65536 in
theorem w_c1 : (Jvm.Cond.code ({ cls := "com/example/libxform/libxform/output/XmlVersion", name := "allows", desc := "(I)Z" } : Jvm.MethodName) prog_55_method_6_code (2 : Nat) (Option.some Jvm.ClassFile.FieldType.boolean)).before args0 about1 = true := code_word (m := ⟨6, 0⟩) (meth := k6m0) (c := k6c0) (by decide +kernel) rfl rfl rfl (by decide +kernel)
def codes1 : List Jvm.Cond := [Jvm.Cond.code x code maxLocals ret, Jvm.Cond.code ({ cls := "com/example/libxform/libxform/output/XmlVersion", name := "allows", desc := "(I)Z" } : Jvm.MethodName) prog_55_method_6_code (2 : Nat) (Option.some Jvm.ClassFile.FieldType.boolean)]
set_option maxRecDepth 65536 in
theorem codes_eq : words1.filter isCode = codes1 := rfl
theorem w_codes : ∀ c ∈ words1.filter isCode, c.before args0 about1 = true := by
  rw [codes_eq]
  intro c hc
  simp only [codes1, List.mem_cons, List.not_mem_nil, or_false] at hc
  rcases hc with rfl | rfl
  · exact w_c0
  · exact w_c1
set_option maxRecDepth 65536 in
theorem w_t1 : (words1.take 24).all (fun c => isCode c || c.before args0 about1) = true := by decide +kernel
set_option maxRecDepth 65536 in
theorem w_t2 : (words1.drop 24).all (fun c => isCode c || c.before args0 about1) = true := by decide +kernel
theorem w_tables : (allAtoms (Jvm.Cond.code x code maxLocals ret :: tables_1)).before args0 about1 = true := by
  rw [allAtoms_all]
  show words1.all (fun c => c.before args0 about1) = true
  refine all_split ?_ w_codes
  rw [← List.take_append_drop 24 words1, List.all_append, w_t1, w_t2]
  rfl
set_option maxRecDepth 65536 in
theorem w_case : (Jvm.Cond.and given_1 narrow_1).before args0 about1 = true := by decide +kernel
theorem w_applies : (headSpec (Jvm.Cond.code x code maxLocals ret :: tables_1) room_1).applies x e0.platform about1 = true :=
  (Spec.applies_iff w_frames).mpr ⟨w_running, w_runnable, w_alone, w_named, w_hears, w_ripe, w_room, w_tables⟩
theorem atStart : AtStart classFile x code maxLocals ret World_1 tables_1 room_1 Calls_1 rest_1 Pre_1 launch0 p0 e0 about1 theMethod args0 below0 :=
  ⟨lists_1, trivial, launch0.admits_env _ _ _, launch0.least_env, fairChoices_fair.cas, fairChoices_fair.clock, w_frames, w_args, w_heap, w_applies, trivial, trivial, w_case⟩
end start1
theorem witness_1 : WitnessClaimed_1 := ⟨start1.p0, start1.e0, start1.about1, start1.theMethod, start1.args0, start1.below0, start1.atStart⟩
end Jvm.Pilot.@@N@@
