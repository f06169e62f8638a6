import JvmDerived
import JvmDerived.Pilot.@@N@@Statement
import JvmDerived.Pilot.@@N@@Code
set_option linter.unusedVariables false
set_option linter.unusedSimpArgs false
namespace Jvm.RoadKit
open Sem ClassFile Op Lib Jvm.Stand Jvm.Free Jvm.LawKit
section New
variable {p : Program} {l : Launch} {e : Env} {R : Room} {s : State} {m : MethodId} {args : Array Value} {below : List Frame} {meth : Method} {c : Code} {T : State} {locs : List Loc} {cells slots : Nat}
theorem retI (X : Stand p l e R s m args below meth c T locs cells slots) (hx : p.tables.exec = Jvm.exec) {pc : Nat} {Ls : Array Slot} {z : Int32} {rest : List Value} (hret : meth.sig.returnType = some .int) (hd : decode c.code pc = .ok (.ireturn, 1)) {fs : List Frame}
    (hl : ∀ (f : JFrame) (acts : List Action), f.method = m → f.locked = none → f.entered = [] → (doReturn e (T.setTop f) acts (some (.int z))).1 = T.setFrames fs) : Steps p.tables e below (T.setTop (mkF m pc Ls (.int z :: rest))) (T.setFrames fs) := by
  have hm' : T.vm.method? m = some meth := X.method'
  have hn : narrow .int (.int z) = .int z := rfl
  show Steps p.tables e below (T.setTop { method := m, pc := pc, locals := Ls, stack := _ :: rest, locked := none }) _
  jvm_step X.here [X.here.top, hx, hd, hm', hret, hn]
  first | (intro acts; rw [hl _ acts rfl rfl rfl]) | rw [hl _ _ rfl rfl rfl]
  exact Steps.refl _
end New
end Jvm.RoadKit
namespace Jvm.Pilot.@@N@@
open Jvm Jvm.ClassFile Sem Op Lib Jvm.Free Jvm.Stand Jvm.LawKit Jvm.RoadKit Bundle Jvm.Pilot.@@N@@.Jvm.D
theorem own_nm {x a : Addr} (h : x ≠ a) : x ∉ [a] := fun q => h (List.mem_singleton.mp q)
theorem own_nar {v : Int32} (h : v = (0 : Int32) ∨ v = (1 : Int32)) : nar .boolean v = v := by rcases h with rfl | rfl <;> decide
/-- what a body that writes nothing leaves -/
def QP (r : Option Value) (h0 : Heap) (v : Option Value) (h : Heap) (L : List Loc) : Prop := v = r ∧ L = [] ∧ h = h0
theorem pd__I_Z : parseMethodDescriptor "(I)Z" = some ⟨[.int], some .boolean⟩ := by decide +kernel
def fN_179 (p1 : Int32) : Int32 := (if p1 < (65536 : Int32) then (0 : Int32) else (if (983039 : Int32) < p1 then (0 : Int32) else (1 : Int32)))
def fN_167 (p1 : Int32) : Int32 := (if p1 < (65008 : Int32) then (fN_179 p1) else (if (65533 : Int32) < p1 then (fN_179 p1) else (1 : Int32)))
def fN_155 (p1 : Int32) : Int32 := (if p1 < (63744 : Int32) then (fN_167 p1) else (if (64975 : Int32) < p1 then (fN_167 p1) else (1 : Int32)))
def fN_142 (p1 : Int32) : Int32 := (if p1 < (12289 : Int32) then (fN_155 p1) else (if (55295 : Int32) < p1 then (fN_155 p1) else (1 : Int32)))
def fN_128 (p1 : Int32) : Int32 := (if p1 < (11264 : Int32) then (fN_142 p1) else (if (12271 : Int32) < p1 then (fN_142 p1) else (1 : Int32)))
def fN_114 (p1 : Int32) : Int32 := (if p1 < (8304 : Int32) then (fN_128 p1) else (if (8591 : Int32) < p1 then (fN_128 p1) else (1 : Int32)))
def fN_100 (p1 : Int32) : Int32 := (if p1 < (8204 : Int32) then (fN_114 p1) else (if (8205 : Int32) < p1 then (fN_114 p1) else (1 : Int32)))
def fN_86 (p1 : Int32) : Int32 := (if p1 < (895 : Int32) then (fN_100 p1) else (if (8191 : Int32) < p1 then (fN_100 p1) else (1 : Int32)))
def fN_72 (p1 : Int32) : Int32 := (if p1 < (880 : Int32) then (fN_86 p1) else (if (893 : Int32) < p1 then (fN_86 p1) else (1 : Int32)))
def fN_58 (p1 : Int32) : Int32 := (if p1 < (248 : Int32) then (fN_72 p1) else (if (767 : Int32) < p1 then (fN_72 p1) else (1 : Int32)))
def fN_44 (p1 : Int32) : Int32 := (if p1 < (216 : Int32) then (fN_58 p1) else (if (246 : Int32) < p1 then (fN_58 p1) else (1 : Int32)))
def fN_24 (p1 : Int32) : Int32 := (if p1 = (95 : Int32) then (1 : Int32) else (if p1 < (192 : Int32) then (fN_44 p1) else (if (214 : Int32) < p1 then (fN_44 p1) else (1 : Int32))))
def fN_12 (p1 : Int32) : Int32 := (if p1 < (65 : Int32) then (fN_24 p1) else (if (90 : Int32) < p1 then (fN_24 p1) else (1 : Int32)))
def fN_0 (p1 : Int32) : Int32 := (if p1 < (97 : Int32) then (fN_12 p1) else (if (122 : Int32) < p1 then (fN_12 p1) else (1 : Int32)))
theorem fN_b179 (p1 : Int32) : fN_179 p1 = (0 : Int32) ∨ fN_179 p1 = (1 : Int32) := by
  unfold fN_179
  (repeat' split) <;> first | exact Or.inl rfl | exact Or.inr rfl
theorem fN_b167 (p1 : Int32) : fN_167 p1 = (0 : Int32) ∨ fN_167 p1 = (1 : Int32) := by
  unfold fN_167
  (repeat' split) <;> first | exact Or.inl rfl | exact Or.inr rfl | exact fN_b179 p1
theorem fN_b155 (p1 : Int32) : fN_155 p1 = (0 : Int32) ∨ fN_155 p1 = (1 : Int32) := by
  unfold fN_155
  (repeat' split) <;> first | exact Or.inl rfl | exact Or.inr rfl | exact fN_b179 p1 | exact fN_b167 p1
theorem fN_b142 (p1 : Int32) : fN_142 p1 = (0 : Int32) ∨ fN_142 p1 = (1 : Int32) := by
  unfold fN_142
  (repeat' split) <;> first | exact Or.inl rfl | exact Or.inr rfl | exact fN_b179 p1 | exact fN_b167 p1 | exact fN_b155 p1
theorem fN_b128 (p1 : Int32) : fN_128 p1 = (0 : Int32) ∨ fN_128 p1 = (1 : Int32) := by
  unfold fN_128
  (repeat' split) <;> first | exact Or.inl rfl | exact Or.inr rfl | exact fN_b179 p1 | exact fN_b167 p1 | exact fN_b155 p1 | exact fN_b142 p1
theorem fN_b114 (p1 : Int32) : fN_114 p1 = (0 : Int32) ∨ fN_114 p1 = (1 : Int32) := by
  unfold fN_114
  (repeat' split) <;> first | exact Or.inl rfl | exact Or.inr rfl | exact fN_b179 p1 | exact fN_b167 p1 | exact fN_b155 p1 | exact fN_b142 p1 | exact fN_b128 p1
theorem fN_b100 (p1 : Int32) : fN_100 p1 = (0 : Int32) ∨ fN_100 p1 = (1 : Int32) := by
  unfold fN_100
  (repeat' split) <;> first | exact Or.inl rfl | exact Or.inr rfl | exact fN_b179 p1 | exact fN_b167 p1 | exact fN_b155 p1 | exact fN_b142 p1 | exact fN_b128 p1 | exact fN_b114 p1
theorem fN_b86 (p1 : Int32) : fN_86 p1 = (0 : Int32) ∨ fN_86 p1 = (1 : Int32) := by
  unfold fN_86
  (repeat' split) <;> first | exact Or.inl rfl | exact Or.inr rfl | exact fN_b179 p1 | exact fN_b167 p1 | exact fN_b155 p1 | exact fN_b142 p1 | exact fN_b128 p1 | exact fN_b114 p1 | exact fN_b100 p1
theorem fN_b72 (p1 : Int32) : fN_72 p1 = (0 : Int32) ∨ fN_72 p1 = (1 : Int32) := by
  unfold fN_72
  (repeat' split) <;> first | exact Or.inl rfl | exact Or.inr rfl | exact fN_b179 p1 | exact fN_b167 p1 | exact fN_b155 p1 | exact fN_b142 p1 | exact fN_b128 p1 | exact fN_b114 p1 | exact fN_b100 p1 | exact fN_b86 p1
theorem fN_b58 (p1 : Int32) : fN_58 p1 = (0 : Int32) ∨ fN_58 p1 = (1 : Int32) := by
  unfold fN_58
  (repeat' split) <;> first | exact Or.inl rfl | exact Or.inr rfl | exact fN_b179 p1 | exact fN_b167 p1 | exact fN_b155 p1 | exact fN_b142 p1 | exact fN_b128 p1 | exact fN_b114 p1 | exact fN_b100 p1 | exact fN_b86 p1 | exact fN_b72 p1
theorem fN_b44 (p1 : Int32) : fN_44 p1 = (0 : Int32) ∨ fN_44 p1 = (1 : Int32) := by
  unfold fN_44
  (repeat' split) <;> first | exact Or.inl rfl | exact Or.inr rfl | exact fN_b179 p1 | exact fN_b167 p1 | exact fN_b155 p1 | exact fN_b142 p1 | exact fN_b128 p1 | exact fN_b114 p1 | exact fN_b100 p1 | exact fN_b86 p1 | exact fN_b72 p1 | exact fN_b58 p1
theorem fN_b24 (p1 : Int32) : fN_24 p1 = (0 : Int32) ∨ fN_24 p1 = (1 : Int32) := by
  unfold fN_24
  (repeat' split) <;> first | exact Or.inl rfl | exact Or.inr rfl | exact fN_b179 p1 | exact fN_b167 p1 | exact fN_b155 p1 | exact fN_b142 p1 | exact fN_b128 p1 | exact fN_b114 p1 | exact fN_b100 p1 | exact fN_b86 p1 | exact fN_b72 p1 | exact fN_b58 p1 | exact fN_b44 p1
theorem fN_b12 (p1 : Int32) : fN_12 p1 = (0 : Int32) ∨ fN_12 p1 = (1 : Int32) := by
  unfold fN_12
  (repeat' split) <;> first | exact Or.inl rfl | exact Or.inr rfl | exact fN_b179 p1 | exact fN_b167 p1 | exact fN_b155 p1 | exact fN_b142 p1 | exact fN_b128 p1 | exact fN_b114 p1 | exact fN_b100 p1 | exact fN_b86 p1 | exact fN_b72 p1 | exact fN_b58 p1 | exact fN_b44 p1 | exact fN_b24 p1
theorem fN_b0 (p1 : Int32) : fN_0 p1 = (0 : Int32) ∨ fN_0 p1 = (1 : Int32) := by
  unfold fN_0
  (repeat' split) <;> first | exact Or.inl rfl | exact Or.inr rfl | exact fN_b179 p1 | exact fN_b167 p1 | exact fN_b155 p1 | exact fN_b142 p1 | exact fN_b128 p1 | exact fN_b114 p1 | exact fN_b100 p1 | exact fN_b86 p1 | exact fN_b72 p1 | exact fN_b58 p1 | exact fN_b44 p1 | exact fN_b24 p1 | exact fN_b12 p1
def fE (p1 : Int32) : Int32 := (if p1 < (65 : Int32) then (0 : Int32) else (if (90 : Int32) < p1 then (if p1 < (95 : Int32) then (0 : Int32) else (if p1 = (95 : Int32) then (1 : Int32) else (if p1 < (97 : Int32) then (0 : Int32) else (if (122 : Int32) < p1 then (if p1 < (192 : Int32) then (0 : Int32) else (if (214 : Int32) < p1 then (if p1 = (215 : Int32) then (0 : Int32) else (if (246 : Int32) < p1 then (if p1 = (247 : Int32) then (0 : Int32) else (if (767 : Int32) < p1 then (if p1 < (880 : Int32) then (0 : Int32) else (if (893 : Int32) < p1 then (if p1 = (894 : Int32) then (0 : Int32) else (if (8191 : Int32) < p1 then (if p1 < (8204 : Int32) then (0 : Int32) else (if (8205 : Int32) < p1 then (if p1 < (8304 : Int32) then (0 : Int32) else (if (8591 : Int32) < p1 then (if p1 < (11264 : Int32) then (0 : Int32) else (if (12271 : Int32) < p1 then (if p1 < (12289 : Int32) then (0 : Int32) else (if (55295 : Int32) < p1 then (if p1 < (63744 : Int32) then (0 : Int32) else (if (64975 : Int32) < p1 then (if p1 < (65008 : Int32) then (0 : Int32) else (if (65533 : Int32) < p1 then (if p1 < (65536 : Int32) then (0 : Int32) else (if (983039 : Int32) < p1 then (0 : Int32) else (1 : Int32))) else (1 : Int32))) else (1 : Int32))) else (1 : Int32))) else (1 : Int32))) else (1 : Int32))) else (1 : Int32))) else (1 : Int32))) else (1 : Int32))) else (1 : Int32))) else (1 : Int32))) else (1 : Int32))) else (1 : Int32))))) else (1 : Int32)))
theorem own_lt {p : Int32} (c : Int32) (k : Int) (hk : c.toInt = k) (h : p.toInt < k) : p < c := Int32.lt_iff_toInt_lt.mpr (by omega)
theorem own_nlt {p : Int32} (c : Int32) (k : Int) (hk : c.toInt = k) (h : k ≤ p.toInt) : ¬ p < c := fun q => by have := Int32.lt_iff_toInt_lt.mp q; omega
theorem own_gt {p : Int32} (c : Int32) (k : Int) (hk : c.toInt = k) (h : k < p.toInt) : c < p := Int32.lt_iff_toInt_lt.mpr (by omega)
theorem own_ngt {p : Int32} (c : Int32) (k : Int) (hk : c.toInt = k) (h : p.toInt ≤ k) : ¬ c < p := fun q => by have := Int32.lt_iff_toInt_lt.mp q; omega
theorem own_ne {p : Int32} (c : Int32) (k : Int) (hk : c.toInt = k) (h : p.toInt ≠ k) : ¬ p = c := fun q => h (by rw [q]; exact hk)
theorem own_eq {p : Int32} (c : Int32) (k : Int) (hk : c.toInt = k) (h : p.toInt = k) : p = c := Int32.toInt_inj.mp (by omega)
theorem own_i0 (p1 : Int32) (h2 : p1.toInt ≤ 64) : fN_0 p1 = fE p1 := by
  have l65 : p1 < (65 : Int32) := own_lt (65 : Int32) 65 rfl (by omega)
  have l95 : p1 < (95 : Int32) := own_lt (95 : Int32) 95 rfl (by omega)
  have l97 : p1 < (97 : Int32) := own_lt (97 : Int32) 97 rfl (by omega)
  have l192 : p1 < (192 : Int32) := own_lt (192 : Int32) 192 rfl (by omega)
  have l216 : p1 < (216 : Int32) := own_lt (216 : Int32) 216 rfl (by omega)
  have l248 : p1 < (248 : Int32) := own_lt (248 : Int32) 248 rfl (by omega)
  have l880 : p1 < (880 : Int32) := own_lt (880 : Int32) 880 rfl (by omega)
  have l895 : p1 < (895 : Int32) := own_lt (895 : Int32) 895 rfl (by omega)
  have l8204 : p1 < (8204 : Int32) := own_lt (8204 : Int32) 8204 rfl (by omega)
  have l8304 : p1 < (8304 : Int32) := own_lt (8304 : Int32) 8304 rfl (by omega)
  have l11264 : p1 < (11264 : Int32) := own_lt (11264 : Int32) 11264 rfl (by omega)
  have l12289 : p1 < (12289 : Int32) := own_lt (12289 : Int32) 12289 rfl (by omega)
  have l63744 : p1 < (63744 : Int32) := own_lt (63744 : Int32) 63744 rfl (by omega)
  have l65008 : p1 < (65008 : Int32) := own_lt (65008 : Int32) 65008 rfl (by omega)
  have l65536 : p1 < (65536 : Int32) := own_lt (65536 : Int32) 65536 rfl (by omega)
  have g90 : ¬ (90 : Int32) < p1 := own_ngt (90 : Int32) 90 rfl (by omega)
  have g122 : ¬ (122 : Int32) < p1 := own_ngt (122 : Int32) 122 rfl (by omega)
  have g214 : ¬ (214 : Int32) < p1 := own_ngt (214 : Int32) 214 rfl (by omega)
  have g246 : ¬ (246 : Int32) < p1 := own_ngt (246 : Int32) 246 rfl (by omega)
  have g767 : ¬ (767 : Int32) < p1 := own_ngt (767 : Int32) 767 rfl (by omega)
  have g893 : ¬ (893 : Int32) < p1 := own_ngt (893 : Int32) 893 rfl (by omega)
  have g8191 : ¬ (8191 : Int32) < p1 := own_ngt (8191 : Int32) 8191 rfl (by omega)
  have g8205 : ¬ (8205 : Int32) < p1 := own_ngt (8205 : Int32) 8205 rfl (by omega)
  have g8591 : ¬ (8591 : Int32) < p1 := own_ngt (8591 : Int32) 8591 rfl (by omega)
  have g12271 : ¬ (12271 : Int32) < p1 := own_ngt (12271 : Int32) 12271 rfl (by omega)
  have g55295 : ¬ (55295 : Int32) < p1 := own_ngt (55295 : Int32) 55295 rfl (by omega)
  have g64975 : ¬ (64975 : Int32) < p1 := own_ngt (64975 : Int32) 64975 rfl (by omega)
  have g65533 : ¬ (65533 : Int32) < p1 := own_ngt (65533 : Int32) 65533 rfl (by omega)
  have g983039 : ¬ (983039 : Int32) < p1 := own_ngt (983039 : Int32) 983039 rfl (by omega)
  have q95 : ¬ p1 = (95 : Int32) := own_ne (95 : Int32) 95 rfl (by omega)
  have q215 : ¬ p1 = (215 : Int32) := own_ne (215 : Int32) 215 rfl (by omega)
  have q247 : ¬ p1 = (247 : Int32) := own_ne (247 : Int32) 247 rfl (by omega)
  have q894 : ¬ p1 = (894 : Int32) := own_ne (894 : Int32) 894 rfl (by omega)
  simp only [fN_0, fN_12, fN_24, fN_44, fN_58, fN_72, fN_86, fN_100, fN_114, fN_128, fN_142, fN_155, fN_167, fN_179, fE, l65, l95, l97, l192, l216, l248, l880, l895, l8204, l8304, l11264, l12289, l63744, l65008, l65536, g90, g122, g214, g246, g767, g893, g8191, g8205, g8591, g12271, g55295, g64975, g65533, g983039, q95, q215, q247, q894, if_true, if_false]
theorem own_i1 (p1 : Int32) (h1 : 65 ≤ p1.toInt) (h2 : p1.toInt ≤ 90) : fN_0 p1 = fE p1 := by
  have l65 : ¬ p1 < (65 : Int32) := own_nlt (65 : Int32) 65 rfl (by omega)
  have l95 : p1 < (95 : Int32) := own_lt (95 : Int32) 95 rfl (by omega)
  have l97 : p1 < (97 : Int32) := own_lt (97 : Int32) 97 rfl (by omega)
  have l192 : p1 < (192 : Int32) := own_lt (192 : Int32) 192 rfl (by omega)
  have l216 : p1 < (216 : Int32) := own_lt (216 : Int32) 216 rfl (by omega)
  have l248 : p1 < (248 : Int32) := own_lt (248 : Int32) 248 rfl (by omega)
  have l880 : p1 < (880 : Int32) := own_lt (880 : Int32) 880 rfl (by omega)
  have l895 : p1 < (895 : Int32) := own_lt (895 : Int32) 895 rfl (by omega)
  have l8204 : p1 < (8204 : Int32) := own_lt (8204 : Int32) 8204 rfl (by omega)
  have l8304 : p1 < (8304 : Int32) := own_lt (8304 : Int32) 8304 rfl (by omega)
  have l11264 : p1 < (11264 : Int32) := own_lt (11264 : Int32) 11264 rfl (by omega)
  have l12289 : p1 < (12289 : Int32) := own_lt (12289 : Int32) 12289 rfl (by omega)
  have l63744 : p1 < (63744 : Int32) := own_lt (63744 : Int32) 63744 rfl (by omega)
  have l65008 : p1 < (65008 : Int32) := own_lt (65008 : Int32) 65008 rfl (by omega)
  have l65536 : p1 < (65536 : Int32) := own_lt (65536 : Int32) 65536 rfl (by omega)
  have g90 : ¬ (90 : Int32) < p1 := own_ngt (90 : Int32) 90 rfl (by omega)
  have g122 : ¬ (122 : Int32) < p1 := own_ngt (122 : Int32) 122 rfl (by omega)
  have g214 : ¬ (214 : Int32) < p1 := own_ngt (214 : Int32) 214 rfl (by omega)
  have g246 : ¬ (246 : Int32) < p1 := own_ngt (246 : Int32) 246 rfl (by omega)
  have g767 : ¬ (767 : Int32) < p1 := own_ngt (767 : Int32) 767 rfl (by omega)
  have g893 : ¬ (893 : Int32) < p1 := own_ngt (893 : Int32) 893 rfl (by omega)
  have g8191 : ¬ (8191 : Int32) < p1 := own_ngt (8191 : Int32) 8191 rfl (by omega)
  have g8205 : ¬ (8205 : Int32) < p1 := own_ngt (8205 : Int32) 8205 rfl (by omega)
  have g8591 : ¬ (8591 : Int32) < p1 := own_ngt (8591 : Int32) 8591 rfl (by omega)
  have g12271 : ¬ (12271 : Int32) < p1 := own_ngt (12271 : Int32) 12271 rfl (by omega)
  have g55295 : ¬ (55295 : Int32) < p1 := own_ngt (55295 : Int32) 55295 rfl (by omega)
  have g64975 : ¬ (64975 : Int32) < p1 := own_ngt (64975 : Int32) 64975 rfl (by omega)
  have g65533 : ¬ (65533 : Int32) < p1 := own_ngt (65533 : Int32) 65533 rfl (by omega)
  have g983039 : ¬ (983039 : Int32) < p1 := own_ngt (983039 : Int32) 983039 rfl (by omega)
  have q95 : ¬ p1 = (95 : Int32) := own_ne (95 : Int32) 95 rfl (by omega)
  have q215 : ¬ p1 = (215 : Int32) := own_ne (215 : Int32) 215 rfl (by omega)
  have q247 : ¬ p1 = (247 : Int32) := own_ne (247 : Int32) 247 rfl (by omega)
  have q894 : ¬ p1 = (894 : Int32) := own_ne (894 : Int32) 894 rfl (by omega)
  simp only [fN_0, fN_12, fN_24, fN_44, fN_58, fN_72, fN_86, fN_100, fN_114, fN_128, fN_142, fN_155, fN_167, fN_179, fE, l65, l95, l97, l192, l216, l248, l880, l895, l8204, l8304, l11264, l12289, l63744, l65008, l65536, g90, g122, g214, g246, g767, g893, g8191, g8205, g8591, g12271, g55295, g64975, g65533, g983039, q95, q215, q247, q894, if_true, if_false]
theorem own_i2 (p1 : Int32) (h1 : 91 ≤ p1.toInt) (h2 : p1.toInt ≤ 94) : fN_0 p1 = fE p1 := by
  have l65 : ¬ p1 < (65 : Int32) := own_nlt (65 : Int32) 65 rfl (by omega)
  have l95 : p1 < (95 : Int32) := own_lt (95 : Int32) 95 rfl (by omega)
  have l97 : p1 < (97 : Int32) := own_lt (97 : Int32) 97 rfl (by omega)
  have l192 : p1 < (192 : Int32) := own_lt (192 : Int32) 192 rfl (by omega)
  have l216 : p1 < (216 : Int32) := own_lt (216 : Int32) 216 rfl (by omega)
  have l248 : p1 < (248 : Int32) := own_lt (248 : Int32) 248 rfl (by omega)
  have l880 : p1 < (880 : Int32) := own_lt (880 : Int32) 880 rfl (by omega)
  have l895 : p1 < (895 : Int32) := own_lt (895 : Int32) 895 rfl (by omega)
  have l8204 : p1 < (8204 : Int32) := own_lt (8204 : Int32) 8204 rfl (by omega)
  have l8304 : p1 < (8304 : Int32) := own_lt (8304 : Int32) 8304 rfl (by omega)
  have l11264 : p1 < (11264 : Int32) := own_lt (11264 : Int32) 11264 rfl (by omega)
  have l12289 : p1 < (12289 : Int32) := own_lt (12289 : Int32) 12289 rfl (by omega)
  have l63744 : p1 < (63744 : Int32) := own_lt (63744 : Int32) 63744 rfl (by omega)
  have l65008 : p1 < (65008 : Int32) := own_lt (65008 : Int32) 65008 rfl (by omega)
  have l65536 : p1 < (65536 : Int32) := own_lt (65536 : Int32) 65536 rfl (by omega)
  have g90 : (90 : Int32) < p1 := own_gt (90 : Int32) 90 rfl (by omega)
  have g122 : ¬ (122 : Int32) < p1 := own_ngt (122 : Int32) 122 rfl (by omega)
  have g214 : ¬ (214 : Int32) < p1 := own_ngt (214 : Int32) 214 rfl (by omega)
  have g246 : ¬ (246 : Int32) < p1 := own_ngt (246 : Int32) 246 rfl (by omega)
  have g767 : ¬ (767 : Int32) < p1 := own_ngt (767 : Int32) 767 rfl (by omega)
  have g893 : ¬ (893 : Int32) < p1 := own_ngt (893 : Int32) 893 rfl (by omega)
  have g8191 : ¬ (8191 : Int32) < p1 := own_ngt (8191 : Int32) 8191 rfl (by omega)
  have g8205 : ¬ (8205 : Int32) < p1 := own_ngt (8205 : Int32) 8205 rfl (by omega)
  have g8591 : ¬ (8591 : Int32) < p1 := own_ngt (8591 : Int32) 8591 rfl (by omega)
  have g12271 : ¬ (12271 : Int32) < p1 := own_ngt (12271 : Int32) 12271 rfl (by omega)
  have g55295 : ¬ (55295 : Int32) < p1 := own_ngt (55295 : Int32) 55295 rfl (by omega)
  have g64975 : ¬ (64975 : Int32) < p1 := own_ngt (64975 : Int32) 64975 rfl (by omega)
  have g65533 : ¬ (65533 : Int32) < p1 := own_ngt (65533 : Int32) 65533 rfl (by omega)
  have g983039 : ¬ (983039 : Int32) < p1 := own_ngt (983039 : Int32) 983039 rfl (by omega)
  have q95 : ¬ p1 = (95 : Int32) := own_ne (95 : Int32) 95 rfl (by omega)
  have q215 : ¬ p1 = (215 : Int32) := own_ne (215 : Int32) 215 rfl (by omega)
  have q247 : ¬ p1 = (247 : Int32) := own_ne (247 : Int32) 247 rfl (by omega)
  have q894 : ¬ p1 = (894 : Int32) := own_ne (894 : Int32) 894 rfl (by omega)
  simp only [fN_0, fN_12, fN_24, fN_44, fN_58, fN_72, fN_86, fN_100, fN_114, fN_128, fN_142, fN_155, fN_167, fN_179, fE, l65, l95, l97, l192, l216, l248, l880, l895, l8204, l8304, l11264, l12289, l63744, l65008, l65536, g90, g122, g214, g246, g767, g893, g8191, g8205, g8591, g12271, g55295, g64975, g65533, g983039, q95, q215, q247, q894, if_true, if_false]
theorem own_i3 (p1 : Int32) (h1 : 95 ≤ p1.toInt) (h2 : p1.toInt ≤ 95) : fN_0 p1 = fE p1 := by
  have q : p1 = (95 : Int32) := own_eq (95 : Int32) 95 rfl (by omega)
  subst q; decide
theorem own_i4 (p1 : Int32) (h1 : 96 ≤ p1.toInt) (h2 : p1.toInt ≤ 96) : fN_0 p1 = fE p1 := by
  have l65 : ¬ p1 < (65 : Int32) := own_nlt (65 : Int32) 65 rfl (by omega)
  have l95 : ¬ p1 < (95 : Int32) := own_nlt (95 : Int32) 95 rfl (by omega)
  have l97 : p1 < (97 : Int32) := own_lt (97 : Int32) 97 rfl (by omega)
  have l192 : p1 < (192 : Int32) := own_lt (192 : Int32) 192 rfl (by omega)
  have l216 : p1 < (216 : Int32) := own_lt (216 : Int32) 216 rfl (by omega)
  have l248 : p1 < (248 : Int32) := own_lt (248 : Int32) 248 rfl (by omega)
  have l880 : p1 < (880 : Int32) := own_lt (880 : Int32) 880 rfl (by omega)
  have l895 : p1 < (895 : Int32) := own_lt (895 : Int32) 895 rfl (by omega)
  have l8204 : p1 < (8204 : Int32) := own_lt (8204 : Int32) 8204 rfl (by omega)
  have l8304 : p1 < (8304 : Int32) := own_lt (8304 : Int32) 8304 rfl (by omega)
  have l11264 : p1 < (11264 : Int32) := own_lt (11264 : Int32) 11264 rfl (by omega)
  have l12289 : p1 < (12289 : Int32) := own_lt (12289 : Int32) 12289 rfl (by omega)
  have l63744 : p1 < (63744 : Int32) := own_lt (63744 : Int32) 63744 rfl (by omega)
  have l65008 : p1 < (65008 : Int32) := own_lt (65008 : Int32) 65008 rfl (by omega)
  have l65536 : p1 < (65536 : Int32) := own_lt (65536 : Int32) 65536 rfl (by omega)
  have g90 : (90 : Int32) < p1 := own_gt (90 : Int32) 90 rfl (by omega)
  have g122 : ¬ (122 : Int32) < p1 := own_ngt (122 : Int32) 122 rfl (by omega)
  have g214 : ¬ (214 : Int32) < p1 := own_ngt (214 : Int32) 214 rfl (by omega)
  have g246 : ¬ (246 : Int32) < p1 := own_ngt (246 : Int32) 246 rfl (by omega)
  have g767 : ¬ (767 : Int32) < p1 := own_ngt (767 : Int32) 767 rfl (by omega)
  have g893 : ¬ (893 : Int32) < p1 := own_ngt (893 : Int32) 893 rfl (by omega)
  have g8191 : ¬ (8191 : Int32) < p1 := own_ngt (8191 : Int32) 8191 rfl (by omega)
  have g8205 : ¬ (8205 : Int32) < p1 := own_ngt (8205 : Int32) 8205 rfl (by omega)
  have g8591 : ¬ (8591 : Int32) < p1 := own_ngt (8591 : Int32) 8591 rfl (by omega)
  have g12271 : ¬ (12271 : Int32) < p1 := own_ngt (12271 : Int32) 12271 rfl (by omega)
  have g55295 : ¬ (55295 : Int32) < p1 := own_ngt (55295 : Int32) 55295 rfl (by omega)
  have g64975 : ¬ (64975 : Int32) < p1 := own_ngt (64975 : Int32) 64975 rfl (by omega)
  have g65533 : ¬ (65533 : Int32) < p1 := own_ngt (65533 : Int32) 65533 rfl (by omega)
  have g983039 : ¬ (983039 : Int32) < p1 := own_ngt (983039 : Int32) 983039 rfl (by omega)
  have q95 : ¬ p1 = (95 : Int32) := own_ne (95 : Int32) 95 rfl (by omega)
  have q215 : ¬ p1 = (215 : Int32) := own_ne (215 : Int32) 215 rfl (by omega)
  have q247 : ¬ p1 = (247 : Int32) := own_ne (247 : Int32) 247 rfl (by omega)
  have q894 : ¬ p1 = (894 : Int32) := own_ne (894 : Int32) 894 rfl (by omega)
  simp only [fN_0, fN_12, fN_24, fN_44, fN_58, fN_72, fN_86, fN_100, fN_114, fN_128, fN_142, fN_155, fN_167, fN_179, fE, l65, l95, l97, l192, l216, l248, l880, l895, l8204, l8304, l11264, l12289, l63744, l65008, l65536, g90, g122, g214, g246, g767, g893, g8191, g8205, g8591, g12271, g55295, g64975, g65533, g983039, q95, q215, q247, q894, if_true, if_false]
theorem own_i5 (p1 : Int32) (h1 : 97 ≤ p1.toInt) (h2 : p1.toInt ≤ 122) : fN_0 p1 = fE p1 := by
  have l65 : ¬ p1 < (65 : Int32) := own_nlt (65 : Int32) 65 rfl (by omega)
  have l95 : ¬ p1 < (95 : Int32) := own_nlt (95 : Int32) 95 rfl (by omega)
  have l97 : ¬ p1 < (97 : Int32) := own_nlt (97 : Int32) 97 rfl (by omega)
  have l192 : p1 < (192 : Int32) := own_lt (192 : Int32) 192 rfl (by omega)
  have l216 : p1 < (216 : Int32) := own_lt (216 : Int32) 216 rfl (by omega)
  have l248 : p1 < (248 : Int32) := own_lt (248 : Int32) 248 rfl (by omega)
  have l880 : p1 < (880 : Int32) := own_lt (880 : Int32) 880 rfl (by omega)
  have l895 : p1 < (895 : Int32) := own_lt (895 : Int32) 895 rfl (by omega)
  have l8204 : p1 < (8204 : Int32) := own_lt (8204 : Int32) 8204 rfl (by omega)
  have l8304 : p1 < (8304 : Int32) := own_lt (8304 : Int32) 8304 rfl (by omega)
  have l11264 : p1 < (11264 : Int32) := own_lt (11264 : Int32) 11264 rfl (by omega)
  have l12289 : p1 < (12289 : Int32) := own_lt (12289 : Int32) 12289 rfl (by omega)
  have l63744 : p1 < (63744 : Int32) := own_lt (63744 : Int32) 63744 rfl (by omega)
  have l65008 : p1 < (65008 : Int32) := own_lt (65008 : Int32) 65008 rfl (by omega)
  have l65536 : p1 < (65536 : Int32) := own_lt (65536 : Int32) 65536 rfl (by omega)
  have g90 : (90 : Int32) < p1 := own_gt (90 : Int32) 90 rfl (by omega)
  have g122 : ¬ (122 : Int32) < p1 := own_ngt (122 : Int32) 122 rfl (by omega)
  have g214 : ¬ (214 : Int32) < p1 := own_ngt (214 : Int32) 214 rfl (by omega)
  have g246 : ¬ (246 : Int32) < p1 := own_ngt (246 : Int32) 246 rfl (by omega)
  have g767 : ¬ (767 : Int32) < p1 := own_ngt (767 : Int32) 767 rfl (by omega)
  have g893 : ¬ (893 : Int32) < p1 := own_ngt (893 : Int32) 893 rfl (by omega)
  have g8191 : ¬ (8191 : Int32) < p1 := own_ngt (8191 : Int32) 8191 rfl (by omega)
  have g8205 : ¬ (8205 : Int32) < p1 := own_ngt (8205 : Int32) 8205 rfl (by omega)
  have g8591 : ¬ (8591 : Int32) < p1 := own_ngt (8591 : Int32) 8591 rfl (by omega)
  have g12271 : ¬ (12271 : Int32) < p1 := own_ngt (12271 : Int32) 12271 rfl (by omega)
  have g55295 : ¬ (55295 : Int32) < p1 := own_ngt (55295 : Int32) 55295 rfl (by omega)
  have g64975 : ¬ (64975 : Int32) < p1 := own_ngt (64975 : Int32) 64975 rfl (by omega)
  have g65533 : ¬ (65533 : Int32) < p1 := own_ngt (65533 : Int32) 65533 rfl (by omega)
  have g983039 : ¬ (983039 : Int32) < p1 := own_ngt (983039 : Int32) 983039 rfl (by omega)
  have q95 : ¬ p1 = (95 : Int32) := own_ne (95 : Int32) 95 rfl (by omega)
  have q215 : ¬ p1 = (215 : Int32) := own_ne (215 : Int32) 215 rfl (by omega)
  have q247 : ¬ p1 = (247 : Int32) := own_ne (247 : Int32) 247 rfl (by omega)
  have q894 : ¬ p1 = (894 : Int32) := own_ne (894 : Int32) 894 rfl (by omega)
  simp only [fN_0, fN_12, fN_24, fN_44, fN_58, fN_72, fN_86, fN_100, fN_114, fN_128, fN_142, fN_155, fN_167, fN_179, fE, l65, l95, l97, l192, l216, l248, l880, l895, l8204, l8304, l11264, l12289, l63744, l65008, l65536, g90, g122, g214, g246, g767, g893, g8191, g8205, g8591, g12271, g55295, g64975, g65533, g983039, q95, q215, q247, q894, if_true, if_false]
theorem own_i6 (p1 : Int32) (h1 : 123 ≤ p1.toInt) (h2 : p1.toInt ≤ 191) : fN_0 p1 = fE p1 := by
  have l65 : ¬ p1 < (65 : Int32) := own_nlt (65 : Int32) 65 rfl (by omega)
  have l95 : ¬ p1 < (95 : Int32) := own_nlt (95 : Int32) 95 rfl (by omega)
  have l97 : ¬ p1 < (97 : Int32) := own_nlt (97 : Int32) 97 rfl (by omega)
  have l192 : p1 < (192 : Int32) := own_lt (192 : Int32) 192 rfl (by omega)
  have l216 : p1 < (216 : Int32) := own_lt (216 : Int32) 216 rfl (by omega)
  have l248 : p1 < (248 : Int32) := own_lt (248 : Int32) 248 rfl (by omega)
  have l880 : p1 < (880 : Int32) := own_lt (880 : Int32) 880 rfl (by omega)
  have l895 : p1 < (895 : Int32) := own_lt (895 : Int32) 895 rfl (by omega)
  have l8204 : p1 < (8204 : Int32) := own_lt (8204 : Int32) 8204 rfl (by omega)
  have l8304 : p1 < (8304 : Int32) := own_lt (8304 : Int32) 8304 rfl (by omega)
  have l11264 : p1 < (11264 : Int32) := own_lt (11264 : Int32) 11264 rfl (by omega)
  have l12289 : p1 < (12289 : Int32) := own_lt (12289 : Int32) 12289 rfl (by omega)
  have l63744 : p1 < (63744 : Int32) := own_lt (63744 : Int32) 63744 rfl (by omega)
  have l65008 : p1 < (65008 : Int32) := own_lt (65008 : Int32) 65008 rfl (by omega)
  have l65536 : p1 < (65536 : Int32) := own_lt (65536 : Int32) 65536 rfl (by omega)
  have g90 : (90 : Int32) < p1 := own_gt (90 : Int32) 90 rfl (by omega)
  have g122 : (122 : Int32) < p1 := own_gt (122 : Int32) 122 rfl (by omega)
  have g214 : ¬ (214 : Int32) < p1 := own_ngt (214 : Int32) 214 rfl (by omega)
  have g246 : ¬ (246 : Int32) < p1 := own_ngt (246 : Int32) 246 rfl (by omega)
  have g767 : ¬ (767 : Int32) < p1 := own_ngt (767 : Int32) 767 rfl (by omega)
  have g893 : ¬ (893 : Int32) < p1 := own_ngt (893 : Int32) 893 rfl (by omega)
  have g8191 : ¬ (8191 : Int32) < p1 := own_ngt (8191 : Int32) 8191 rfl (by omega)
  have g8205 : ¬ (8205 : Int32) < p1 := own_ngt (8205 : Int32) 8205 rfl (by omega)
  have g8591 : ¬ (8591 : Int32) < p1 := own_ngt (8591 : Int32) 8591 rfl (by omega)
  have g12271 : ¬ (12271 : Int32) < p1 := own_ngt (12271 : Int32) 12271 rfl (by omega)
  have g55295 : ¬ (55295 : Int32) < p1 := own_ngt (55295 : Int32) 55295 rfl (by omega)
  have g64975 : ¬ (64975 : Int32) < p1 := own_ngt (64975 : Int32) 64975 rfl (by omega)
  have g65533 : ¬ (65533 : Int32) < p1 := own_ngt (65533 : Int32) 65533 rfl (by omega)
  have g983039 : ¬ (983039 : Int32) < p1 := own_ngt (983039 : Int32) 983039 rfl (by omega)
  have q95 : ¬ p1 = (95 : Int32) := own_ne (95 : Int32) 95 rfl (by omega)
  have q215 : ¬ p1 = (215 : Int32) := own_ne (215 : Int32) 215 rfl (by omega)
  have q247 : ¬ p1 = (247 : Int32) := own_ne (247 : Int32) 247 rfl (by omega)
  have q894 : ¬ p1 = (894 : Int32) := own_ne (894 : Int32) 894 rfl (by omega)
  simp only [fN_0, fN_12, fN_24, fN_44, fN_58, fN_72, fN_86, fN_100, fN_114, fN_128, fN_142, fN_155, fN_167, fN_179, fE, l65, l95, l97, l192, l216, l248, l880, l895, l8204, l8304, l11264, l12289, l63744, l65008, l65536, g90, g122, g214, g246, g767, g893, g8191, g8205, g8591, g12271, g55295, g64975, g65533, g983039, q95, q215, q247, q894, if_true, if_false]
theorem own_i7 (p1 : Int32) (h1 : 192 ≤ p1.toInt) (h2 : p1.toInt ≤ 214) : fN_0 p1 = fE p1 := by
  have l65 : ¬ p1 < (65 : Int32) := own_nlt (65 : Int32) 65 rfl (by omega)
  have l95 : ¬ p1 < (95 : Int32) := own_nlt (95 : Int32) 95 rfl (by omega)
  have l97 : ¬ p1 < (97 : Int32) := own_nlt (97 : Int32) 97 rfl (by omega)
  have l192 : ¬ p1 < (192 : Int32) := own_nlt (192 : Int32) 192 rfl (by omega)
  have l216 : p1 < (216 : Int32) := own_lt (216 : Int32) 216 rfl (by omega)
  have l248 : p1 < (248 : Int32) := own_lt (248 : Int32) 248 rfl (by omega)
  have l880 : p1 < (880 : Int32) := own_lt (880 : Int32) 880 rfl (by omega)
  have l895 : p1 < (895 : Int32) := own_lt (895 : Int32) 895 rfl (by omega)
  have l8204 : p1 < (8204 : Int32) := own_lt (8204 : Int32) 8204 rfl (by omega)
  have l8304 : p1 < (8304 : Int32) := own_lt (8304 : Int32) 8304 rfl (by omega)
  have l11264 : p1 < (11264 : Int32) := own_lt (11264 : Int32) 11264 rfl (by omega)
  have l12289 : p1 < (12289 : Int32) := own_lt (12289 : Int32) 12289 rfl (by omega)
  have l63744 : p1 < (63744 : Int32) := own_lt (63744 : Int32) 63744 rfl (by omega)
  have l65008 : p1 < (65008 : Int32) := own_lt (65008 : Int32) 65008 rfl (by omega)
  have l65536 : p1 < (65536 : Int32) := own_lt (65536 : Int32) 65536 rfl (by omega)
  have g90 : (90 : Int32) < p1 := own_gt (90 : Int32) 90 rfl (by omega)
  have g122 : (122 : Int32) < p1 := own_gt (122 : Int32) 122 rfl (by omega)
  have g214 : ¬ (214 : Int32) < p1 := own_ngt (214 : Int32) 214 rfl (by omega)
  have g246 : ¬ (246 : Int32) < p1 := own_ngt (246 : Int32) 246 rfl (by omega)
  have g767 : ¬ (767 : Int32) < p1 := own_ngt (767 : Int32) 767 rfl (by omega)
  have g893 : ¬ (893 : Int32) < p1 := own_ngt (893 : Int32) 893 rfl (by omega)
  have g8191 : ¬ (8191 : Int32) < p1 := own_ngt (8191 : Int32) 8191 rfl (by omega)
  have g8205 : ¬ (8205 : Int32) < p1 := own_ngt (8205 : Int32) 8205 rfl (by omega)
  have g8591 : ¬ (8591 : Int32) < p1 := own_ngt (8591 : Int32) 8591 rfl (by omega)
  have g12271 : ¬ (12271 : Int32) < p1 := own_ngt (12271 : Int32) 12271 rfl (by omega)
  have g55295 : ¬ (55295 : Int32) < p1 := own_ngt (55295 : Int32) 55295 rfl (by omega)
  have g64975 : ¬ (64975 : Int32) < p1 := own_ngt (64975 : Int32) 64975 rfl (by omega)
  have g65533 : ¬ (65533 : Int32) < p1 := own_ngt (65533 : Int32) 65533 rfl (by omega)
  have g983039 : ¬ (983039 : Int32) < p1 := own_ngt (983039 : Int32) 983039 rfl (by omega)
  have q95 : ¬ p1 = (95 : Int32) := own_ne (95 : Int32) 95 rfl (by omega)
  have q215 : ¬ p1 = (215 : Int32) := own_ne (215 : Int32) 215 rfl (by omega)
  have q247 : ¬ p1 = (247 : Int32) := own_ne (247 : Int32) 247 rfl (by omega)
  have q894 : ¬ p1 = (894 : Int32) := own_ne (894 : Int32) 894 rfl (by omega)
  simp only [fN_0, fN_12, fN_24, fN_44, fN_58, fN_72, fN_86, fN_100, fN_114, fN_128, fN_142, fN_155, fN_167, fN_179, fE, l65, l95, l97, l192, l216, l248, l880, l895, l8204, l8304, l11264, l12289, l63744, l65008, l65536, g90, g122, g214, g246, g767, g893, g8191, g8205, g8591, g12271, g55295, g64975, g65533, g983039, q95, q215, q247, q894, if_true, if_false]
theorem own_i8 (p1 : Int32) (h1 : 215 ≤ p1.toInt) (h2 : p1.toInt ≤ 215) : fN_0 p1 = fE p1 := by
  have q : p1 = (215 : Int32) := own_eq (215 : Int32) 215 rfl (by omega)
  subst q; decide
theorem own_i9 (p1 : Int32) (h1 : 216 ≤ p1.toInt) (h2 : p1.toInt ≤ 246) : fN_0 p1 = fE p1 := by
  have l65 : ¬ p1 < (65 : Int32) := own_nlt (65 : Int32) 65 rfl (by omega)
  have l95 : ¬ p1 < (95 : Int32) := own_nlt (95 : Int32) 95 rfl (by omega)
  have l97 : ¬ p1 < (97 : Int32) := own_nlt (97 : Int32) 97 rfl (by omega)
  have l192 : ¬ p1 < (192 : Int32) := own_nlt (192 : Int32) 192 rfl (by omega)
  have l216 : ¬ p1 < (216 : Int32) := own_nlt (216 : Int32) 216 rfl (by omega)
  have l248 : p1 < (248 : Int32) := own_lt (248 : Int32) 248 rfl (by omega)
  have l880 : p1 < (880 : Int32) := own_lt (880 : Int32) 880 rfl (by omega)
  have l895 : p1 < (895 : Int32) := own_lt (895 : Int32) 895 rfl (by omega)
  have l8204 : p1 < (8204 : Int32) := own_lt (8204 : Int32) 8204 rfl (by omega)
  have l8304 : p1 < (8304 : Int32) := own_lt (8304 : Int32) 8304 rfl (by omega)
  have l11264 : p1 < (11264 : Int32) := own_lt (11264 : Int32) 11264 rfl (by omega)
  have l12289 : p1 < (12289 : Int32) := own_lt (12289 : Int32) 12289 rfl (by omega)
  have l63744 : p1 < (63744 : Int32) := own_lt (63744 : Int32) 63744 rfl (by omega)
  have l65008 : p1 < (65008 : Int32) := own_lt (65008 : Int32) 65008 rfl (by omega)
  have l65536 : p1 < (65536 : Int32) := own_lt (65536 : Int32) 65536 rfl (by omega)
  have g90 : (90 : Int32) < p1 := own_gt (90 : Int32) 90 rfl (by omega)
  have g122 : (122 : Int32) < p1 := own_gt (122 : Int32) 122 rfl (by omega)
  have g214 : (214 : Int32) < p1 := own_gt (214 : Int32) 214 rfl (by omega)
  have g246 : ¬ (246 : Int32) < p1 := own_ngt (246 : Int32) 246 rfl (by omega)
  have g767 : ¬ (767 : Int32) < p1 := own_ngt (767 : Int32) 767 rfl (by omega)
  have g893 : ¬ (893 : Int32) < p1 := own_ngt (893 : Int32) 893 rfl (by omega)
  have g8191 : ¬ (8191 : Int32) < p1 := own_ngt (8191 : Int32) 8191 rfl (by omega)
  have g8205 : ¬ (8205 : Int32) < p1 := own_ngt (8205 : Int32) 8205 rfl (by omega)
  have g8591 : ¬ (8591 : Int32) < p1 := own_ngt (8591 : Int32) 8591 rfl (by omega)
  have g12271 : ¬ (12271 : Int32) < p1 := own_ngt (12271 : Int32) 12271 rfl (by omega)
  have g55295 : ¬ (55295 : Int32) < p1 := own_ngt (55295 : Int32) 55295 rfl (by omega)
  have g64975 : ¬ (64975 : Int32) < p1 := own_ngt (64975 : Int32) 64975 rfl (by omega)
  have g65533 : ¬ (65533 : Int32) < p1 := own_ngt (65533 : Int32) 65533 rfl (by omega)
  have g983039 : ¬ (983039 : Int32) < p1 := own_ngt (983039 : Int32) 983039 rfl (by omega)
  have q95 : ¬ p1 = (95 : Int32) := own_ne (95 : Int32) 95 rfl (by omega)
  have q215 : ¬ p1 = (215 : Int32) := own_ne (215 : Int32) 215 rfl (by omega)
  have q247 : ¬ p1 = (247 : Int32) := own_ne (247 : Int32) 247 rfl (by omega)
  have q894 : ¬ p1 = (894 : Int32) := own_ne (894 : Int32) 894 rfl (by omega)
  simp only [fN_0, fN_12, fN_24, fN_44, fN_58, fN_72, fN_86, fN_100, fN_114, fN_128, fN_142, fN_155, fN_167, fN_179, fE, l65, l95, l97, l192, l216, l248, l880, l895, l8204, l8304, l11264, l12289, l63744, l65008, l65536, g90, g122, g214, g246, g767, g893, g8191, g8205, g8591, g12271, g55295, g64975, g65533, g983039, q95, q215, q247, q894, if_true, if_false]
theorem own_i10 (p1 : Int32) (h1 : 247 ≤ p1.toInt) (h2 : p1.toInt ≤ 247) : fN_0 p1 = fE p1 := by
  have q : p1 = (247 : Int32) := own_eq (247 : Int32) 247 rfl (by omega)
  subst q; decide
theorem own_i11 (p1 : Int32) (h1 : 248 ≤ p1.toInt) (h2 : p1.toInt ≤ 767) : fN_0 p1 = fE p1 := by
  have l65 : ¬ p1 < (65 : Int32) := own_nlt (65 : Int32) 65 rfl (by omega)
  have l95 : ¬ p1 < (95 : Int32) := own_nlt (95 : Int32) 95 rfl (by omega)
  have l97 : ¬ p1 < (97 : Int32) := own_nlt (97 : Int32) 97 rfl (by omega)
  have l192 : ¬ p1 < (192 : Int32) := own_nlt (192 : Int32) 192 rfl (by omega)
  have l216 : ¬ p1 < (216 : Int32) := own_nlt (216 : Int32) 216 rfl (by omega)
  have l248 : ¬ p1 < (248 : Int32) := own_nlt (248 : Int32) 248 rfl (by omega)
  have l880 : p1 < (880 : Int32) := own_lt (880 : Int32) 880 rfl (by omega)
  have l895 : p1 < (895 : Int32) := own_lt (895 : Int32) 895 rfl (by omega)
  have l8204 : p1 < (8204 : Int32) := own_lt (8204 : Int32) 8204 rfl (by omega)
  have l8304 : p1 < (8304 : Int32) := own_lt (8304 : Int32) 8304 rfl (by omega)
  have l11264 : p1 < (11264 : Int32) := own_lt (11264 : Int32) 11264 rfl (by omega)
  have l12289 : p1 < (12289 : Int32) := own_lt (12289 : Int32) 12289 rfl (by omega)
  have l63744 : p1 < (63744 : Int32) := own_lt (63744 : Int32) 63744 rfl (by omega)
  have l65008 : p1 < (65008 : Int32) := own_lt (65008 : Int32) 65008 rfl (by omega)
  have l65536 : p1 < (65536 : Int32) := own_lt (65536 : Int32) 65536 rfl (by omega)
  have g90 : (90 : Int32) < p1 := own_gt (90 : Int32) 90 rfl (by omega)
  have g122 : (122 : Int32) < p1 := own_gt (122 : Int32) 122 rfl (by omega)
  have g214 : (214 : Int32) < p1 := own_gt (214 : Int32) 214 rfl (by omega)
  have g246 : (246 : Int32) < p1 := own_gt (246 : Int32) 246 rfl (by omega)
  have g767 : ¬ (767 : Int32) < p1 := own_ngt (767 : Int32) 767 rfl (by omega)
  have g893 : ¬ (893 : Int32) < p1 := own_ngt (893 : Int32) 893 rfl (by omega)
  have g8191 : ¬ (8191 : Int32) < p1 := own_ngt (8191 : Int32) 8191 rfl (by omega)
  have g8205 : ¬ (8205 : Int32) < p1 := own_ngt (8205 : Int32) 8205 rfl (by omega)
  have g8591 : ¬ (8591 : Int32) < p1 := own_ngt (8591 : Int32) 8591 rfl (by omega)
  have g12271 : ¬ (12271 : Int32) < p1 := own_ngt (12271 : Int32) 12271 rfl (by omega)
  have g55295 : ¬ (55295 : Int32) < p1 := own_ngt (55295 : Int32) 55295 rfl (by omega)
  have g64975 : ¬ (64975 : Int32) < p1 := own_ngt (64975 : Int32) 64975 rfl (by omega)
  have g65533 : ¬ (65533 : Int32) < p1 := own_ngt (65533 : Int32) 65533 rfl (by omega)
  have g983039 : ¬ (983039 : Int32) < p1 := own_ngt (983039 : Int32) 983039 rfl (by omega)
  have q95 : ¬ p1 = (95 : Int32) := own_ne (95 : Int32) 95 rfl (by omega)
  have q215 : ¬ p1 = (215 : Int32) := own_ne (215 : Int32) 215 rfl (by omega)
  have q247 : ¬ p1 = (247 : Int32) := own_ne (247 : Int32) 247 rfl (by omega)
  have q894 : ¬ p1 = (894 : Int32) := own_ne (894 : Int32) 894 rfl (by omega)
  simp only [fN_0, fN_12, fN_24, fN_44, fN_58, fN_72, fN_86, fN_100, fN_114, fN_128, fN_142, fN_155, fN_167, fN_179, fE, l65, l95, l97, l192, l216, l248, l880, l895, l8204, l8304, l11264, l12289, l63744, l65008, l65536, g90, g122, g214, g246, g767, g893, g8191, g8205, g8591, g12271, g55295, g64975, g65533, g983039, q95, q215, q247, q894, if_true, if_false]
theorem own_i12 (p1 : Int32) (h1 : 768 ≤ p1.toInt) (h2 : p1.toInt ≤ 879) : fN_0 p1 = fE p1 := by
  have l65 : ¬ p1 < (65 : Int32) := own_nlt (65 : Int32) 65 rfl (by omega)
  have l95 : ¬ p1 < (95 : Int32) := own_nlt (95 : Int32) 95 rfl (by omega)
  have l97 : ¬ p1 < (97 : Int32) := own_nlt (97 : Int32) 97 rfl (by omega)
  have l192 : ¬ p1 < (192 : Int32) := own_nlt (192 : Int32) 192 rfl (by omega)
  have l216 : ¬ p1 < (216 : Int32) := own_nlt (216 : Int32) 216 rfl (by omega)
  have l248 : ¬ p1 < (248 : Int32) := own_nlt (248 : Int32) 248 rfl (by omega)
  have l880 : p1 < (880 : Int32) := own_lt (880 : Int32) 880 rfl (by omega)
  have l895 : p1 < (895 : Int32) := own_lt (895 : Int32) 895 rfl (by omega)
  have l8204 : p1 < (8204 : Int32) := own_lt (8204 : Int32) 8204 rfl (by omega)
  have l8304 : p1 < (8304 : Int32) := own_lt (8304 : Int32) 8304 rfl (by omega)
  have l11264 : p1 < (11264 : Int32) := own_lt (11264 : Int32) 11264 rfl (by omega)
  have l12289 : p1 < (12289 : Int32) := own_lt (12289 : Int32) 12289 rfl (by omega)
  have l63744 : p1 < (63744 : Int32) := own_lt (63744 : Int32) 63744 rfl (by omega)
  have l65008 : p1 < (65008 : Int32) := own_lt (65008 : Int32) 65008 rfl (by omega)
  have l65536 : p1 < (65536 : Int32) := own_lt (65536 : Int32) 65536 rfl (by omega)
  have g90 : (90 : Int32) < p1 := own_gt (90 : Int32) 90 rfl (by omega)
  have g122 : (122 : Int32) < p1 := own_gt (122 : Int32) 122 rfl (by omega)
  have g214 : (214 : Int32) < p1 := own_gt (214 : Int32) 214 rfl (by omega)
  have g246 : (246 : Int32) < p1 := own_gt (246 : Int32) 246 rfl (by omega)
  have g767 : (767 : Int32) < p1 := own_gt (767 : Int32) 767 rfl (by omega)
  have g893 : ¬ (893 : Int32) < p1 := own_ngt (893 : Int32) 893 rfl (by omega)
  have g8191 : ¬ (8191 : Int32) < p1 := own_ngt (8191 : Int32) 8191 rfl (by omega)
  have g8205 : ¬ (8205 : Int32) < p1 := own_ngt (8205 : Int32) 8205 rfl (by omega)
  have g8591 : ¬ (8591 : Int32) < p1 := own_ngt (8591 : Int32) 8591 rfl (by omega)
  have g12271 : ¬ (12271 : Int32) < p1 := own_ngt (12271 : Int32) 12271 rfl (by omega)
  have g55295 : ¬ (55295 : Int32) < p1 := own_ngt (55295 : Int32) 55295 rfl (by omega)
  have g64975 : ¬ (64975 : Int32) < p1 := own_ngt (64975 : Int32) 64975 rfl (by omega)
  have g65533 : ¬ (65533 : Int32) < p1 := own_ngt (65533 : Int32) 65533 rfl (by omega)
  have g983039 : ¬ (983039 : Int32) < p1 := own_ngt (983039 : Int32) 983039 rfl (by omega)
  have q95 : ¬ p1 = (95 : Int32) := own_ne (95 : Int32) 95 rfl (by omega)
  have q215 : ¬ p1 = (215 : Int32) := own_ne (215 : Int32) 215 rfl (by omega)
  have q247 : ¬ p1 = (247 : Int32) := own_ne (247 : Int32) 247 rfl (by omega)
  have q894 : ¬ p1 = (894 : Int32) := own_ne (894 : Int32) 894 rfl (by omega)
  simp only [fN_0, fN_12, fN_24, fN_44, fN_58, fN_72, fN_86, fN_100, fN_114, fN_128, fN_142, fN_155, fN_167, fN_179, fE, l65, l95, l97, l192, l216, l248, l880, l895, l8204, l8304, l11264, l12289, l63744, l65008, l65536, g90, g122, g214, g246, g767, g893, g8191, g8205, g8591, g12271, g55295, g64975, g65533, g983039, q95, q215, q247, q894, if_true, if_false]
theorem own_i13 (p1 : Int32) (h1 : 880 ≤ p1.toInt) (h2 : p1.toInt ≤ 893) : fN_0 p1 = fE p1 := by
  have l65 : ¬ p1 < (65 : Int32) := own_nlt (65 : Int32) 65 rfl (by omega)
  have l95 : ¬ p1 < (95 : Int32) := own_nlt (95 : Int32) 95 rfl (by omega)
  have l97 : ¬ p1 < (97 : Int32) := own_nlt (97 : Int32) 97 rfl (by omega)
  have l192 : ¬ p1 < (192 : Int32) := own_nlt (192 : Int32) 192 rfl (by omega)
  have l216 : ¬ p1 < (216 : Int32) := own_nlt (216 : Int32) 216 rfl (by omega)
  have l248 : ¬ p1 < (248 : Int32) := own_nlt (248 : Int32) 248 rfl (by omega)
  have l880 : ¬ p1 < (880 : Int32) := own_nlt (880 : Int32) 880 rfl (by omega)
  have l895 : p1 < (895 : Int32) := own_lt (895 : Int32) 895 rfl (by omega)
  have l8204 : p1 < (8204 : Int32) := own_lt (8204 : Int32) 8204 rfl (by omega)
  have l8304 : p1 < (8304 : Int32) := own_lt (8304 : Int32) 8304 rfl (by omega)
  have l11264 : p1 < (11264 : Int32) := own_lt (11264 : Int32) 11264 rfl (by omega)
  have l12289 : p1 < (12289 : Int32) := own_lt (12289 : Int32) 12289 rfl (by omega)
  have l63744 : p1 < (63744 : Int32) := own_lt (63744 : Int32) 63744 rfl (by omega)
  have l65008 : p1 < (65008 : Int32) := own_lt (65008 : Int32) 65008 rfl (by omega)
  have l65536 : p1 < (65536 : Int32) := own_lt (65536 : Int32) 65536 rfl (by omega)
  have g90 : (90 : Int32) < p1 := own_gt (90 : Int32) 90 rfl (by omega)
  have g122 : (122 : Int32) < p1 := own_gt (122 : Int32) 122 rfl (by omega)
  have g214 : (214 : Int32) < p1 := own_gt (214 : Int32) 214 rfl (by omega)
  have g246 : (246 : Int32) < p1 := own_gt (246 : Int32) 246 rfl (by omega)
  have g767 : (767 : Int32) < p1 := own_gt (767 : Int32) 767 rfl (by omega)
  have g893 : ¬ (893 : Int32) < p1 := own_ngt (893 : Int32) 893 rfl (by omega)
  have g8191 : ¬ (8191 : Int32) < p1 := own_ngt (8191 : Int32) 8191 rfl (by omega)
  have g8205 : ¬ (8205 : Int32) < p1 := own_ngt (8205 : Int32) 8205 rfl (by omega)
  have g8591 : ¬ (8591 : Int32) < p1 := own_ngt (8591 : Int32) 8591 rfl (by omega)
  have g12271 : ¬ (12271 : Int32) < p1 := own_ngt (12271 : Int32) 12271 rfl (by omega)
  have g55295 : ¬ (55295 : Int32) < p1 := own_ngt (55295 : Int32) 55295 rfl (by omega)
  have g64975 : ¬ (64975 : Int32) < p1 := own_ngt (64975 : Int32) 64975 rfl (by omega)
  have g65533 : ¬ (65533 : Int32) < p1 := own_ngt (65533 : Int32) 65533 rfl (by omega)
  have g983039 : ¬ (983039 : Int32) < p1 := own_ngt (983039 : Int32) 983039 rfl (by omega)
  have q95 : ¬ p1 = (95 : Int32) := own_ne (95 : Int32) 95 rfl (by omega)
  have q215 : ¬ p1 = (215 : Int32) := own_ne (215 : Int32) 215 rfl (by omega)
  have q247 : ¬ p1 = (247 : Int32) := own_ne (247 : Int32) 247 rfl (by omega)
  have q894 : ¬ p1 = (894 : Int32) := own_ne (894 : Int32) 894 rfl (by omega)
  simp only [fN_0, fN_12, fN_24, fN_44, fN_58, fN_72, fN_86, fN_100, fN_114, fN_128, fN_142, fN_155, fN_167, fN_179, fE, l65, l95, l97, l192, l216, l248, l880, l895, l8204, l8304, l11264, l12289, l63744, l65008, l65536, g90, g122, g214, g246, g767, g893, g8191, g8205, g8591, g12271, g55295, g64975, g65533, g983039, q95, q215, q247, q894, if_true, if_false]
theorem own_i14 (p1 : Int32) (h1 : 894 ≤ p1.toInt) (h2 : p1.toInt ≤ 894) : fN_0 p1 = fE p1 := by
  have q : p1 = (894 : Int32) := own_eq (894 : Int32) 894 rfl (by omega)
  subst q; decide
theorem own_i15 (p1 : Int32) (h1 : 895 ≤ p1.toInt) (h2 : p1.toInt ≤ 8191) : fN_0 p1 = fE p1 := by
  have l65 : ¬ p1 < (65 : Int32) := own_nlt (65 : Int32) 65 rfl (by omega)
  have l95 : ¬ p1 < (95 : Int32) := own_nlt (95 : Int32) 95 rfl (by omega)
  have l97 : ¬ p1 < (97 : Int32) := own_nlt (97 : Int32) 97 rfl (by omega)
  have l192 : ¬ p1 < (192 : Int32) := own_nlt (192 : Int32) 192 rfl (by omega)
  have l216 : ¬ p1 < (216 : Int32) := own_nlt (216 : Int32) 216 rfl (by omega)
  have l248 : ¬ p1 < (248 : Int32) := own_nlt (248 : Int32) 248 rfl (by omega)
  have l880 : ¬ p1 < (880 : Int32) := own_nlt (880 : Int32) 880 rfl (by omega)
  have l895 : ¬ p1 < (895 : Int32) := own_nlt (895 : Int32) 895 rfl (by omega)
  have l8204 : p1 < (8204 : Int32) := own_lt (8204 : Int32) 8204 rfl (by omega)
  have l8304 : p1 < (8304 : Int32) := own_lt (8304 : Int32) 8304 rfl (by omega)
  have l11264 : p1 < (11264 : Int32) := own_lt (11264 : Int32) 11264 rfl (by omega)
  have l12289 : p1 < (12289 : Int32) := own_lt (12289 : Int32) 12289 rfl (by omega)
  have l63744 : p1 < (63744 : Int32) := own_lt (63744 : Int32) 63744 rfl (by omega)
  have l65008 : p1 < (65008 : Int32) := own_lt (65008 : Int32) 65008 rfl (by omega)
  have l65536 : p1 < (65536 : Int32) := own_lt (65536 : Int32) 65536 rfl (by omega)
  have g90 : (90 : Int32) < p1 := own_gt (90 : Int32) 90 rfl (by omega)
  have g122 : (122 : Int32) < p1 := own_gt (122 : Int32) 122 rfl (by omega)
  have g214 : (214 : Int32) < p1 := own_gt (214 : Int32) 214 rfl (by omega)
  have g246 : (246 : Int32) < p1 := own_gt (246 : Int32) 246 rfl (by omega)
  have g767 : (767 : Int32) < p1 := own_gt (767 : Int32) 767 rfl (by omega)
  have g893 : (893 : Int32) < p1 := own_gt (893 : Int32) 893 rfl (by omega)
  have g8191 : ¬ (8191 : Int32) < p1 := own_ngt (8191 : Int32) 8191 rfl (by omega)
  have g8205 : ¬ (8205 : Int32) < p1 := own_ngt (8205 : Int32) 8205 rfl (by omega)
  have g8591 : ¬ (8591 : Int32) < p1 := own_ngt (8591 : Int32) 8591 rfl (by omega)
  have g12271 : ¬ (12271 : Int32) < p1 := own_ngt (12271 : Int32) 12271 rfl (by omega)
  have g55295 : ¬ (55295 : Int32) < p1 := own_ngt (55295 : Int32) 55295 rfl (by omega)
  have g64975 : ¬ (64975 : Int32) < p1 := own_ngt (64975 : Int32) 64975 rfl (by omega)
  have g65533 : ¬ (65533 : Int32) < p1 := own_ngt (65533 : Int32) 65533 rfl (by omega)
  have g983039 : ¬ (983039 : Int32) < p1 := own_ngt (983039 : Int32) 983039 rfl (by omega)
  have q95 : ¬ p1 = (95 : Int32) := own_ne (95 : Int32) 95 rfl (by omega)
  have q215 : ¬ p1 = (215 : Int32) := own_ne (215 : Int32) 215 rfl (by omega)
  have q247 : ¬ p1 = (247 : Int32) := own_ne (247 : Int32) 247 rfl (by omega)
  have q894 : ¬ p1 = (894 : Int32) := own_ne (894 : Int32) 894 rfl (by omega)
  simp only [fN_0, fN_12, fN_24, fN_44, fN_58, fN_72, fN_86, fN_100, fN_114, fN_128, fN_142, fN_155, fN_167, fN_179, fE, l65, l95, l97, l192, l216, l248, l880, l895, l8204, l8304, l11264, l12289, l63744, l65008, l65536, g90, g122, g214, g246, g767, g893, g8191, g8205, g8591, g12271, g55295, g64975, g65533, g983039, q95, q215, q247, q894, if_true, if_false]
theorem own_i16 (p1 : Int32) (h1 : 8192 ≤ p1.toInt) (h2 : p1.toInt ≤ 8203) : fN_0 p1 = fE p1 := by
  have l65 : ¬ p1 < (65 : Int32) := own_nlt (65 : Int32) 65 rfl (by omega)
  have l95 : ¬ p1 < (95 : Int32) := own_nlt (95 : Int32) 95 rfl (by omega)
  have l97 : ¬ p1 < (97 : Int32) := own_nlt (97 : Int32) 97 rfl (by omega)
  have l192 : ¬ p1 < (192 : Int32) := own_nlt (192 : Int32) 192 rfl (by omega)
  have l216 : ¬ p1 < (216 : Int32) := own_nlt (216 : Int32) 216 rfl (by omega)
  have l248 : ¬ p1 < (248 : Int32) := own_nlt (248 : Int32) 248 rfl (by omega)
  have l880 : ¬ p1 < (880 : Int32) := own_nlt (880 : Int32) 880 rfl (by omega)
  have l895 : ¬ p1 < (895 : Int32) := own_nlt (895 : Int32) 895 rfl (by omega)
  have l8204 : p1 < (8204 : Int32) := own_lt (8204 : Int32) 8204 rfl (by omega)
  have l8304 : p1 < (8304 : Int32) := own_lt (8304 : Int32) 8304 rfl (by omega)
  have l11264 : p1 < (11264 : Int32) := own_lt (11264 : Int32) 11264 rfl (by omega)
  have l12289 : p1 < (12289 : Int32) := own_lt (12289 : Int32) 12289 rfl (by omega)
  have l63744 : p1 < (63744 : Int32) := own_lt (63744 : Int32) 63744 rfl (by omega)
  have l65008 : p1 < (65008 : Int32) := own_lt (65008 : Int32) 65008 rfl (by omega)
  have l65536 : p1 < (65536 : Int32) := own_lt (65536 : Int32) 65536 rfl (by omega)
  have g90 : (90 : Int32) < p1 := own_gt (90 : Int32) 90 rfl (by omega)
  have g122 : (122 : Int32) < p1 := own_gt (122 : Int32) 122 rfl (by omega)
  have g214 : (214 : Int32) < p1 := own_gt (214 : Int32) 214 rfl (by omega)
  have g246 : (246 : Int32) < p1 := own_gt (246 : Int32) 246 rfl (by omega)
  have g767 : (767 : Int32) < p1 := own_gt (767 : Int32) 767 rfl (by omega)
  have g893 : (893 : Int32) < p1 := own_gt (893 : Int32) 893 rfl (by omega)
  have g8191 : (8191 : Int32) < p1 := own_gt (8191 : Int32) 8191 rfl (by omega)
  have g8205 : ¬ (8205 : Int32) < p1 := own_ngt (8205 : Int32) 8205 rfl (by omega)
  have g8591 : ¬ (8591 : Int32) < p1 := own_ngt (8591 : Int32) 8591 rfl (by omega)
  have g12271 : ¬ (12271 : Int32) < p1 := own_ngt (12271 : Int32) 12271 rfl (by omega)
  have g55295 : ¬ (55295 : Int32) < p1 := own_ngt (55295 : Int32) 55295 rfl (by omega)
  have g64975 : ¬ (64975 : Int32) < p1 := own_ngt (64975 : Int32) 64975 rfl (by omega)
  have g65533 : ¬ (65533 : Int32) < p1 := own_ngt (65533 : Int32) 65533 rfl (by omega)
  have g983039 : ¬ (983039 : Int32) < p1 := own_ngt (983039 : Int32) 983039 rfl (by omega)
  have q95 : ¬ p1 = (95 : Int32) := own_ne (95 : Int32) 95 rfl (by omega)
  have q215 : ¬ p1 = (215 : Int32) := own_ne (215 : Int32) 215 rfl (by omega)
  have q247 : ¬ p1 = (247 : Int32) := own_ne (247 : Int32) 247 rfl (by omega)
  have q894 : ¬ p1 = (894 : Int32) := own_ne (894 : Int32) 894 rfl (by omega)
  simp only [fN_0, fN_12, fN_24, fN_44, fN_58, fN_72, fN_86, fN_100, fN_114, fN_128, fN_142, fN_155, fN_167, fN_179, fE, l65, l95, l97, l192, l216, l248, l880, l895, l8204, l8304, l11264, l12289, l63744, l65008, l65536, g90, g122, g214, g246, g767, g893, g8191, g8205, g8591, g12271, g55295, g64975, g65533, g983039, q95, q215, q247, q894, if_true, if_false]
theorem own_i17 (p1 : Int32) (h1 : 8204 ≤ p1.toInt) (h2 : p1.toInt ≤ 8205) : fN_0 p1 = fE p1 := by
  have l65 : ¬ p1 < (65 : Int32) := own_nlt (65 : Int32) 65 rfl (by omega)
  have l95 : ¬ p1 < (95 : Int32) := own_nlt (95 : Int32) 95 rfl (by omega)
  have l97 : ¬ p1 < (97 : Int32) := own_nlt (97 : Int32) 97 rfl (by omega)
  have l192 : ¬ p1 < (192 : Int32) := own_nlt (192 : Int32) 192 rfl (by omega)
  have l216 : ¬ p1 < (216 : Int32) := own_nlt (216 : Int32) 216 rfl (by omega)
  have l248 : ¬ p1 < (248 : Int32) := own_nlt (248 : Int32) 248 rfl (by omega)
  have l880 : ¬ p1 < (880 : Int32) := own_nlt (880 : Int32) 880 rfl (by omega)
  have l895 : ¬ p1 < (895 : Int32) := own_nlt (895 : Int32) 895 rfl (by omega)
  have l8204 : ¬ p1 < (8204 : Int32) := own_nlt (8204 : Int32) 8204 rfl (by omega)
  have l8304 : p1 < (8304 : Int32) := own_lt (8304 : Int32) 8304 rfl (by omega)
  have l11264 : p1 < (11264 : Int32) := own_lt (11264 : Int32) 11264 rfl (by omega)
  have l12289 : p1 < (12289 : Int32) := own_lt (12289 : Int32) 12289 rfl (by omega)
  have l63744 : p1 < (63744 : Int32) := own_lt (63744 : Int32) 63744 rfl (by omega)
  have l65008 : p1 < (65008 : Int32) := own_lt (65008 : Int32) 65008 rfl (by omega)
  have l65536 : p1 < (65536 : Int32) := own_lt (65536 : Int32) 65536 rfl (by omega)
  have g90 : (90 : Int32) < p1 := own_gt (90 : Int32) 90 rfl (by omega)
  have g122 : (122 : Int32) < p1 := own_gt (122 : Int32) 122 rfl (by omega)
  have g214 : (214 : Int32) < p1 := own_gt (214 : Int32) 214 rfl (by omega)
  have g246 : (246 : Int32) < p1 := own_gt (246 : Int32) 246 rfl (by omega)
  have g767 : (767 : Int32) < p1 := own_gt (767 : Int32) 767 rfl (by omega)
  have g893 : (893 : Int32) < p1 := own_gt (893 : Int32) 893 rfl (by omega)
  have g8191 : (8191 : Int32) < p1 := own_gt (8191 : Int32) 8191 rfl (by omega)
  have g8205 : ¬ (8205 : Int32) < p1 := own_ngt (8205 : Int32) 8205 rfl (by omega)
  have g8591 : ¬ (8591 : Int32) < p1 := own_ngt (8591 : Int32) 8591 rfl (by omega)
  have g12271 : ¬ (12271 : Int32) < p1 := own_ngt (12271 : Int32) 12271 rfl (by omega)
  have g55295 : ¬ (55295 : Int32) < p1 := own_ngt (55295 : Int32) 55295 rfl (by omega)
  have g64975 : ¬ (64975 : Int32) < p1 := own_ngt (64975 : Int32) 64975 rfl (by omega)
  have g65533 : ¬ (65533 : Int32) < p1 := own_ngt (65533 : Int32) 65533 rfl (by omega)
  have g983039 : ¬ (983039 : Int32) < p1 := own_ngt (983039 : Int32) 983039 rfl (by omega)
  have q95 : ¬ p1 = (95 : Int32) := own_ne (95 : Int32) 95 rfl (by omega)
  have q215 : ¬ p1 = (215 : Int32) := own_ne (215 : Int32) 215 rfl (by omega)
  have q247 : ¬ p1 = (247 : Int32) := own_ne (247 : Int32) 247 rfl (by omega)
  have q894 : ¬ p1 = (894 : Int32) := own_ne (894 : Int32) 894 rfl (by omega)
  simp only [fN_0, fN_12, fN_24, fN_44, fN_58, fN_72, fN_86, fN_100, fN_114, fN_128, fN_142, fN_155, fN_167, fN_179, fE, l65, l95, l97, l192, l216, l248, l880, l895, l8204, l8304, l11264, l12289, l63744, l65008, l65536, g90, g122, g214, g246, g767, g893, g8191, g8205, g8591, g12271, g55295, g64975, g65533, g983039, q95, q215, q247, q894, if_true, if_false]
theorem own_i18 (p1 : Int32) (h1 : 8206 ≤ p1.toInt) (h2 : p1.toInt ≤ 8303) : fN_0 p1 = fE p1 := by
  have l65 : ¬ p1 < (65 : Int32) := own_nlt (65 : Int32) 65 rfl (by omega)
  have l95 : ¬ p1 < (95 : Int32) := own_nlt (95 : Int32) 95 rfl (by omega)
  have l97 : ¬ p1 < (97 : Int32) := own_nlt (97 : Int32) 97 rfl (by omega)
  have l192 : ¬ p1 < (192 : Int32) := own_nlt (192 : Int32) 192 rfl (by omega)
  have l216 : ¬ p1 < (216 : Int32) := own_nlt (216 : Int32) 216 rfl (by omega)
  have l248 : ¬ p1 < (248 : Int32) := own_nlt (248 : Int32) 248 rfl (by omega)
  have l880 : ¬ p1 < (880 : Int32) := own_nlt (880 : Int32) 880 rfl (by omega)
  have l895 : ¬ p1 < (895 : Int32) := own_nlt (895 : Int32) 895 rfl (by omega)
  have l8204 : ¬ p1 < (8204 : Int32) := own_nlt (8204 : Int32) 8204 rfl (by omega)
  have l8304 : p1 < (8304 : Int32) := own_lt (8304 : Int32) 8304 rfl (by omega)
  have l11264 : p1 < (11264 : Int32) := own_lt (11264 : Int32) 11264 rfl (by omega)
  have l12289 : p1 < (12289 : Int32) := own_lt (12289 : Int32) 12289 rfl (by omega)
  have l63744 : p1 < (63744 : Int32) := own_lt (63744 : Int32) 63744 rfl (by omega)
  have l65008 : p1 < (65008 : Int32) := own_lt (65008 : Int32) 65008 rfl (by omega)
  have l65536 : p1 < (65536 : Int32) := own_lt (65536 : Int32) 65536 rfl (by omega)
  have g90 : (90 : Int32) < p1 := own_gt (90 : Int32) 90 rfl (by omega)
  have g122 : (122 : Int32) < p1 := own_gt (122 : Int32) 122 rfl (by omega)
  have g214 : (214 : Int32) < p1 := own_gt (214 : Int32) 214 rfl (by omega)
  have g246 : (246 : Int32) < p1 := own_gt (246 : Int32) 246 rfl (by omega)
  have g767 : (767 : Int32) < p1 := own_gt (767 : Int32) 767 rfl (by omega)
  have g893 : (893 : Int32) < p1 := own_gt (893 : Int32) 893 rfl (by omega)
  have g8191 : (8191 : Int32) < p1 := own_gt (8191 : Int32) 8191 rfl (by omega)
  have g8205 : (8205 : Int32) < p1 := own_gt (8205 : Int32) 8205 rfl (by omega)
  have g8591 : ¬ (8591 : Int32) < p1 := own_ngt (8591 : Int32) 8591 rfl (by omega)
  have g12271 : ¬ (12271 : Int32) < p1 := own_ngt (12271 : Int32) 12271 rfl (by omega)
  have g55295 : ¬ (55295 : Int32) < p1 := own_ngt (55295 : Int32) 55295 rfl (by omega)
  have g64975 : ¬ (64975 : Int32) < p1 := own_ngt (64975 : Int32) 64975 rfl (by omega)
  have g65533 : ¬ (65533 : Int32) < p1 := own_ngt (65533 : Int32) 65533 rfl (by omega)
  have g983039 : ¬ (983039 : Int32) < p1 := own_ngt (983039 : Int32) 983039 rfl (by omega)
  have q95 : ¬ p1 = (95 : Int32) := own_ne (95 : Int32) 95 rfl (by omega)
  have q215 : ¬ p1 = (215 : Int32) := own_ne (215 : Int32) 215 rfl (by omega)
  have q247 : ¬ p1 = (247 : Int32) := own_ne (247 : Int32) 247 rfl (by omega)
  have q894 : ¬ p1 = (894 : Int32) := own_ne (894 : Int32) 894 rfl (by omega)
  simp only [fN_0, fN_12, fN_24, fN_44, fN_58, fN_72, fN_86, fN_100, fN_114, fN_128, fN_142, fN_155, fN_167, fN_179, fE, l65, l95, l97, l192, l216, l248, l880, l895, l8204, l8304, l11264, l12289, l63744, l65008, l65536, g90, g122, g214, g246, g767, g893, g8191, g8205, g8591, g12271, g55295, g64975, g65533, g983039, q95, q215, q247, q894, if_true, if_false]
theorem own_i19 (p1 : Int32) (h1 : 8304 ≤ p1.toInt) (h2 : p1.toInt ≤ 8591) : fN_0 p1 = fE p1 := by
  have l65 : ¬ p1 < (65 : Int32) := own_nlt (65 : Int32) 65 rfl (by omega)
  have l95 : ¬ p1 < (95 : Int32) := own_nlt (95 : Int32) 95 rfl (by omega)
  have l97 : ¬ p1 < (97 : Int32) := own_nlt (97 : Int32) 97 rfl (by omega)
  have l192 : ¬ p1 < (192 : Int32) := own_nlt (192 : Int32) 192 rfl (by omega)
  have l216 : ¬ p1 < (216 : Int32) := own_nlt (216 : Int32) 216 rfl (by omega)
  have l248 : ¬ p1 < (248 : Int32) := own_nlt (248 : Int32) 248 rfl (by omega)
  have l880 : ¬ p1 < (880 : Int32) := own_nlt (880 : Int32) 880 rfl (by omega)
  have l895 : ¬ p1 < (895 : Int32) := own_nlt (895 : Int32) 895 rfl (by omega)
  have l8204 : ¬ p1 < (8204 : Int32) := own_nlt (8204 : Int32) 8204 rfl (by omega)
  have l8304 : ¬ p1 < (8304 : Int32) := own_nlt (8304 : Int32) 8304 rfl (by omega)
  have l11264 : p1 < (11264 : Int32) := own_lt (11264 : Int32) 11264 rfl (by omega)
  have l12289 : p1 < (12289 : Int32) := own_lt (12289 : Int32) 12289 rfl (by omega)
  have l63744 : p1 < (63744 : Int32) := own_lt (63744 : Int32) 63744 rfl (by omega)
  have l65008 : p1 < (65008 : Int32) := own_lt (65008 : Int32) 65008 rfl (by omega)
  have l65536 : p1 < (65536 : Int32) := own_lt (65536 : Int32) 65536 rfl (by omega)
  have g90 : (90 : Int32) < p1 := own_gt (90 : Int32) 90 rfl (by omega)
  have g122 : (122 : Int32) < p1 := own_gt (122 : Int32) 122 rfl (by omega)
  have g214 : (214 : Int32) < p1 := own_gt (214 : Int32) 214 rfl (by omega)
  have g246 : (246 : Int32) < p1 := own_gt (246 : Int32) 246 rfl (by omega)
  have g767 : (767 : Int32) < p1 := own_gt (767 : Int32) 767 rfl (by omega)
  have g893 : (893 : Int32) < p1 := own_gt (893 : Int32) 893 rfl (by omega)
  have g8191 : (8191 : Int32) < p1 := own_gt (8191 : Int32) 8191 rfl (by omega)
  have g8205 : (8205 : Int32) < p1 := own_gt (8205 : Int32) 8205 rfl (by omega)
  have g8591 : ¬ (8591 : Int32) < p1 := own_ngt (8591 : Int32) 8591 rfl (by omega)
  have g12271 : ¬ (12271 : Int32) < p1 := own_ngt (12271 : Int32) 12271 rfl (by omega)
  have g55295 : ¬ (55295 : Int32) < p1 := own_ngt (55295 : Int32) 55295 rfl (by omega)
  have g64975 : ¬ (64975 : Int32) < p1 := own_ngt (64975 : Int32) 64975 rfl (by omega)
  have g65533 : ¬ (65533 : Int32) < p1 := own_ngt (65533 : Int32) 65533 rfl (by omega)
  have g983039 : ¬ (983039 : Int32) < p1 := own_ngt (983039 : Int32) 983039 rfl (by omega)
  have q95 : ¬ p1 = (95 : Int32) := own_ne (95 : Int32) 95 rfl (by omega)
  have q215 : ¬ p1 = (215 : Int32) := own_ne (215 : Int32) 215 rfl (by omega)
  have q247 : ¬ p1 = (247 : Int32) := own_ne (247 : Int32) 247 rfl (by omega)
  have q894 : ¬ p1 = (894 : Int32) := own_ne (894 : Int32) 894 rfl (by omega)
  simp only [fN_0, fN_12, fN_24, fN_44, fN_58, fN_72, fN_86, fN_100, fN_114, fN_128, fN_142, fN_155, fN_167, fN_179, fE, l65, l95, l97, l192, l216, l248, l880, l895, l8204, l8304, l11264, l12289, l63744, l65008, l65536, g90, g122, g214, g246, g767, g893, g8191, g8205, g8591, g12271, g55295, g64975, g65533, g983039, q95, q215, q247, q894, if_true, if_false]
theorem own_i20 (p1 : Int32) (h1 : 8592 ≤ p1.toInt) (h2 : p1.toInt ≤ 11263) : fN_0 p1 = fE p1 := by
  have l65 : ¬ p1 < (65 : Int32) := own_nlt (65 : Int32) 65 rfl (by omega)
  have l95 : ¬ p1 < (95 : Int32) := own_nlt (95 : Int32) 95 rfl (by omega)
  have l97 : ¬ p1 < (97 : Int32) := own_nlt (97 : Int32) 97 rfl (by omega)
  have l192 : ¬ p1 < (192 : Int32) := own_nlt (192 : Int32) 192 rfl (by omega)
  have l216 : ¬ p1 < (216 : Int32) := own_nlt (216 : Int32) 216 rfl (by omega)
  have l248 : ¬ p1 < (248 : Int32) := own_nlt (248 : Int32) 248 rfl (by omega)
  have l880 : ¬ p1 < (880 : Int32) := own_nlt (880 : Int32) 880 rfl (by omega)
  have l895 : ¬ p1 < (895 : Int32) := own_nlt (895 : Int32) 895 rfl (by omega)
  have l8204 : ¬ p1 < (8204 : Int32) := own_nlt (8204 : Int32) 8204 rfl (by omega)
  have l8304 : ¬ p1 < (8304 : Int32) := own_nlt (8304 : Int32) 8304 rfl (by omega)
  have l11264 : p1 < (11264 : Int32) := own_lt (11264 : Int32) 11264 rfl (by omega)
  have l12289 : p1 < (12289 : Int32) := own_lt (12289 : Int32) 12289 rfl (by omega)
  have l63744 : p1 < (63744 : Int32) := own_lt (63744 : Int32) 63744 rfl (by omega)
  have l65008 : p1 < (65008 : Int32) := own_lt (65008 : Int32) 65008 rfl (by omega)
  have l65536 : p1 < (65536 : Int32) := own_lt (65536 : Int32) 65536 rfl (by omega)
  have g90 : (90 : Int32) < p1 := own_gt (90 : Int32) 90 rfl (by omega)
  have g122 : (122 : Int32) < p1 := own_gt (122 : Int32) 122 rfl (by omega)
  have g214 : (214 : Int32) < p1 := own_gt (214 : Int32) 214 rfl (by omega)
  have g246 : (246 : Int32) < p1 := own_gt (246 : Int32) 246 rfl (by omega)
  have g767 : (767 : Int32) < p1 := own_gt (767 : Int32) 767 rfl (by omega)
  have g893 : (893 : Int32) < p1 := own_gt (893 : Int32) 893 rfl (by omega)
  have g8191 : (8191 : Int32) < p1 := own_gt (8191 : Int32) 8191 rfl (by omega)
  have g8205 : (8205 : Int32) < p1 := own_gt (8205 : Int32) 8205 rfl (by omega)
  have g8591 : (8591 : Int32) < p1 := own_gt (8591 : Int32) 8591 rfl (by omega)
  have g12271 : ¬ (12271 : Int32) < p1 := own_ngt (12271 : Int32) 12271 rfl (by omega)
  have g55295 : ¬ (55295 : Int32) < p1 := own_ngt (55295 : Int32) 55295 rfl (by omega)
  have g64975 : ¬ (64975 : Int32) < p1 := own_ngt (64975 : Int32) 64975 rfl (by omega)
  have g65533 : ¬ (65533 : Int32) < p1 := own_ngt (65533 : Int32) 65533 rfl (by omega)
  have g983039 : ¬ (983039 : Int32) < p1 := own_ngt (983039 : Int32) 983039 rfl (by omega)
  have q95 : ¬ p1 = (95 : Int32) := own_ne (95 : Int32) 95 rfl (by omega)
  have q215 : ¬ p1 = (215 : Int32) := own_ne (215 : Int32) 215 rfl (by omega)
  have q247 : ¬ p1 = (247 : Int32) := own_ne (247 : Int32) 247 rfl (by omega)
  have q894 : ¬ p1 = (894 : Int32) := own_ne (894 : Int32) 894 rfl (by omega)
  simp only [fN_0, fN_12, fN_24, fN_44, fN_58, fN_72, fN_86, fN_100, fN_114, fN_128, fN_142, fN_155, fN_167, fN_179, fE, l65, l95, l97, l192, l216, l248, l880, l895, l8204, l8304, l11264, l12289, l63744, l65008, l65536, g90, g122, g214, g246, g767, g893, g8191, g8205, g8591, g12271, g55295, g64975, g65533, g983039, q95, q215, q247, q894, if_true, if_false]
theorem own_i21 (p1 : Int32) (h1 : 11264 ≤ p1.toInt) (h2 : p1.toInt ≤ 12271) : fN_0 p1 = fE p1 := by
  have l65 : ¬ p1 < (65 : Int32) := own_nlt (65 : Int32) 65 rfl (by omega)
  have l95 : ¬ p1 < (95 : Int32) := own_nlt (95 : Int32) 95 rfl (by omega)
  have l97 : ¬ p1 < (97 : Int32) := own_nlt (97 : Int32) 97 rfl (by omega)
  have l192 : ¬ p1 < (192 : Int32) := own_nlt (192 : Int32) 192 rfl (by omega)
  have l216 : ¬ p1 < (216 : Int32) := own_nlt (216 : Int32) 216 rfl (by omega)
  have l248 : ¬ p1 < (248 : Int32) := own_nlt (248 : Int32) 248 rfl (by omega)
  have l880 : ¬ p1 < (880 : Int32) := own_nlt (880 : Int32) 880 rfl (by omega)
  have l895 : ¬ p1 < (895 : Int32) := own_nlt (895 : Int32) 895 rfl (by omega)
  have l8204 : ¬ p1 < (8204 : Int32) := own_nlt (8204 : Int32) 8204 rfl (by omega)
  have l8304 : ¬ p1 < (8304 : Int32) := own_nlt (8304 : Int32) 8304 rfl (by omega)
  have l11264 : ¬ p1 < (11264 : Int32) := own_nlt (11264 : Int32) 11264 rfl (by omega)
  have l12289 : p1 < (12289 : Int32) := own_lt (12289 : Int32) 12289 rfl (by omega)
  have l63744 : p1 < (63744 : Int32) := own_lt (63744 : Int32) 63744 rfl (by omega)
  have l65008 : p1 < (65008 : Int32) := own_lt (65008 : Int32) 65008 rfl (by omega)
  have l65536 : p1 < (65536 : Int32) := own_lt (65536 : Int32) 65536 rfl (by omega)
  have g90 : (90 : Int32) < p1 := own_gt (90 : Int32) 90 rfl (by omega)
  have g122 : (122 : Int32) < p1 := own_gt (122 : Int32) 122 rfl (by omega)
  have g214 : (214 : Int32) < p1 := own_gt (214 : Int32) 214 rfl (by omega)
  have g246 : (246 : Int32) < p1 := own_gt (246 : Int32) 246 rfl (by omega)
  have g767 : (767 : Int32) < p1 := own_gt (767 : Int32) 767 rfl (by omega)
  have g893 : (893 : Int32) < p1 := own_gt (893 : Int32) 893 rfl (by omega)
  have g8191 : (8191 : Int32) < p1 := own_gt (8191 : Int32) 8191 rfl (by omega)
  have g8205 : (8205 : Int32) < p1 := own_gt (8205 : Int32) 8205 rfl (by omega)
  have g8591 : (8591 : Int32) < p1 := own_gt (8591 : Int32) 8591 rfl (by omega)
  have g12271 : ¬ (12271 : Int32) < p1 := own_ngt (12271 : Int32) 12271 rfl (by omega)
  have g55295 : ¬ (55295 : Int32) < p1 := own_ngt (55295 : Int32) 55295 rfl (by omega)
  have g64975 : ¬ (64975 : Int32) < p1 := own_ngt (64975 : Int32) 64975 rfl (by omega)
  have g65533 : ¬ (65533 : Int32) < p1 := own_ngt (65533 : Int32) 65533 rfl (by omega)
  have g983039 : ¬ (983039 : Int32) < p1 := own_ngt (983039 : Int32) 983039 rfl (by omega)
  have q95 : ¬ p1 = (95 : Int32) := own_ne (95 : Int32) 95 rfl (by omega)
  have q215 : ¬ p1 = (215 : Int32) := own_ne (215 : Int32) 215 rfl (by omega)
  have q247 : ¬ p1 = (247 : Int32) := own_ne (247 : Int32) 247 rfl (by omega)
  have q894 : ¬ p1 = (894 : Int32) := own_ne (894 : Int32) 894 rfl (by omega)
  simp only [fN_0, fN_12, fN_24, fN_44, fN_58, fN_72, fN_86, fN_100, fN_114, fN_128, fN_142, fN_155, fN_167, fN_179, fE, l65, l95, l97, l192, l216, l248, l880, l895, l8204, l8304, l11264, l12289, l63744, l65008, l65536, g90, g122, g214, g246, g767, g893, g8191, g8205, g8591, g12271, g55295, g64975, g65533, g983039, q95, q215, q247, q894, if_true, if_false]
theorem own_i22 (p1 : Int32) (h1 : 12272 ≤ p1.toInt) (h2 : p1.toInt ≤ 12288) : fN_0 p1 = fE p1 := by
  have l65 : ¬ p1 < (65 : Int32) := own_nlt (65 : Int32) 65 rfl (by omega)
  have l95 : ¬ p1 < (95 : Int32) := own_nlt (95 : Int32) 95 rfl (by omega)
  have l97 : ¬ p1 < (97 : Int32) := own_nlt (97 : Int32) 97 rfl (by omega)
  have l192 : ¬ p1 < (192 : Int32) := own_nlt (192 : Int32) 192 rfl (by omega)
  have l216 : ¬ p1 < (216 : Int32) := own_nlt (216 : Int32) 216 rfl (by omega)
  have l248 : ¬ p1 < (248 : Int32) := own_nlt (248 : Int32) 248 rfl (by omega)
  have l880 : ¬ p1 < (880 : Int32) := own_nlt (880 : Int32) 880 rfl (by omega)
  have l895 : ¬ p1 < (895 : Int32) := own_nlt (895 : Int32) 895 rfl (by omega)
  have l8204 : ¬ p1 < (8204 : Int32) := own_nlt (8204 : Int32) 8204 rfl (by omega)
  have l8304 : ¬ p1 < (8304 : Int32) := own_nlt (8304 : Int32) 8304 rfl (by omega)
  have l11264 : ¬ p1 < (11264 : Int32) := own_nlt (11264 : Int32) 11264 rfl (by omega)
  have l12289 : p1 < (12289 : Int32) := own_lt (12289 : Int32) 12289 rfl (by omega)
  have l63744 : p1 < (63744 : Int32) := own_lt (63744 : Int32) 63744 rfl (by omega)
  have l65008 : p1 < (65008 : Int32) := own_lt (65008 : Int32) 65008 rfl (by omega)
  have l65536 : p1 < (65536 : Int32) := own_lt (65536 : Int32) 65536 rfl (by omega)
  have g90 : (90 : Int32) < p1 := own_gt (90 : Int32) 90 rfl (by omega)
  have g122 : (122 : Int32) < p1 := own_gt (122 : Int32) 122 rfl (by omega)
  have g214 : (214 : Int32) < p1 := own_gt (214 : Int32) 214 rfl (by omega)
  have g246 : (246 : Int32) < p1 := own_gt (246 : Int32) 246 rfl (by omega)
  have g767 : (767 : Int32) < p1 := own_gt (767 : Int32) 767 rfl (by omega)
  have g893 : (893 : Int32) < p1 := own_gt (893 : Int32) 893 rfl (by omega)
  have g8191 : (8191 : Int32) < p1 := own_gt (8191 : Int32) 8191 rfl (by omega)
  have g8205 : (8205 : Int32) < p1 := own_gt (8205 : Int32) 8205 rfl (by omega)
  have g8591 : (8591 : Int32) < p1 := own_gt (8591 : Int32) 8591 rfl (by omega)
  have g12271 : (12271 : Int32) < p1 := own_gt (12271 : Int32) 12271 rfl (by omega)
  have g55295 : ¬ (55295 : Int32) < p1 := own_ngt (55295 : Int32) 55295 rfl (by omega)
  have g64975 : ¬ (64975 : Int32) < p1 := own_ngt (64975 : Int32) 64975 rfl (by omega)
  have g65533 : ¬ (65533 : Int32) < p1 := own_ngt (65533 : Int32) 65533 rfl (by omega)
  have g983039 : ¬ (983039 : Int32) < p1 := own_ngt (983039 : Int32) 983039 rfl (by omega)
  have q95 : ¬ p1 = (95 : Int32) := own_ne (95 : Int32) 95 rfl (by omega)
  have q215 : ¬ p1 = (215 : Int32) := own_ne (215 : Int32) 215 rfl (by omega)
  have q247 : ¬ p1 = (247 : Int32) := own_ne (247 : Int32) 247 rfl (by omega)
  have q894 : ¬ p1 = (894 : Int32) := own_ne (894 : Int32) 894 rfl (by omega)
  simp only [fN_0, fN_12, fN_24, fN_44, fN_58, fN_72, fN_86, fN_100, fN_114, fN_128, fN_142, fN_155, fN_167, fN_179, fE, l65, l95, l97, l192, l216, l248, l880, l895, l8204, l8304, l11264, l12289, l63744, l65008, l65536, g90, g122, g214, g246, g767, g893, g8191, g8205, g8591, g12271, g55295, g64975, g65533, g983039, q95, q215, q247, q894, if_true, if_false]
theorem own_i23 (p1 : Int32) (h1 : 12289 ≤ p1.toInt) (h2 : p1.toInt ≤ 55295) : fN_0 p1 = fE p1 := by
  have l65 : ¬ p1 < (65 : Int32) := own_nlt (65 : Int32) 65 rfl (by omega)
  have l95 : ¬ p1 < (95 : Int32) := own_nlt (95 : Int32) 95 rfl (by omega)
  have l97 : ¬ p1 < (97 : Int32) := own_nlt (97 : Int32) 97 rfl (by omega)
  have l192 : ¬ p1 < (192 : Int32) := own_nlt (192 : Int32) 192 rfl (by omega)
  have l216 : ¬ p1 < (216 : Int32) := own_nlt (216 : Int32) 216 rfl (by omega)
  have l248 : ¬ p1 < (248 : Int32) := own_nlt (248 : Int32) 248 rfl (by omega)
  have l880 : ¬ p1 < (880 : Int32) := own_nlt (880 : Int32) 880 rfl (by omega)
  have l895 : ¬ p1 < (895 : Int32) := own_nlt (895 : Int32) 895 rfl (by omega)
  have l8204 : ¬ p1 < (8204 : Int32) := own_nlt (8204 : Int32) 8204 rfl (by omega)
  have l8304 : ¬ p1 < (8304 : Int32) := own_nlt (8304 : Int32) 8304 rfl (by omega)
  have l11264 : ¬ p1 < (11264 : Int32) := own_nlt (11264 : Int32) 11264 rfl (by omega)
  have l12289 : ¬ p1 < (12289 : Int32) := own_nlt (12289 : Int32) 12289 rfl (by omega)
  have l63744 : p1 < (63744 : Int32) := own_lt (63744 : Int32) 63744 rfl (by omega)
  have l65008 : p1 < (65008 : Int32) := own_lt (65008 : Int32) 65008 rfl (by omega)
  have l65536 : p1 < (65536 : Int32) := own_lt (65536 : Int32) 65536 rfl (by omega)
  have g90 : (90 : Int32) < p1 := own_gt (90 : Int32) 90 rfl (by omega)
  have g122 : (122 : Int32) < p1 := own_gt (122 : Int32) 122 rfl (by omega)
  have g214 : (214 : Int32) < p1 := own_gt (214 : Int32) 214 rfl (by omega)
  have g246 : (246 : Int32) < p1 := own_gt (246 : Int32) 246 rfl (by omega)
  have g767 : (767 : Int32) < p1 := own_gt (767 : Int32) 767 rfl (by omega)
  have g893 : (893 : Int32) < p1 := own_gt (893 : Int32) 893 rfl (by omega)
  have g8191 : (8191 : Int32) < p1 := own_gt (8191 : Int32) 8191 rfl (by omega)
  have g8205 : (8205 : Int32) < p1 := own_gt (8205 : Int32) 8205 rfl (by omega)
  have g8591 : (8591 : Int32) < p1 := own_gt (8591 : Int32) 8591 rfl (by omega)
  have g12271 : (12271 : Int32) < p1 := own_gt (12271 : Int32) 12271 rfl (by omega)
  have g55295 : ¬ (55295 : Int32) < p1 := own_ngt (55295 : Int32) 55295 rfl (by omega)
  have g64975 : ¬ (64975 : Int32) < p1 := own_ngt (64975 : Int32) 64975 rfl (by omega)
  have g65533 : ¬ (65533 : Int32) < p1 := own_ngt (65533 : Int32) 65533 rfl (by omega)
  have g983039 : ¬ (983039 : Int32) < p1 := own_ngt (983039 : Int32) 983039 rfl (by omega)
  have q95 : ¬ p1 = (95 : Int32) := own_ne (95 : Int32) 95 rfl (by omega)
  have q215 : ¬ p1 = (215 : Int32) := own_ne (215 : Int32) 215 rfl (by omega)
  have q247 : ¬ p1 = (247 : Int32) := own_ne (247 : Int32) 247 rfl (by omega)
  have q894 : ¬ p1 = (894 : Int32) := own_ne (894 : Int32) 894 rfl (by omega)
  simp only [fN_0, fN_12, fN_24, fN_44, fN_58, fN_72, fN_86, fN_100, fN_114, fN_128, fN_142, fN_155, fN_167, fN_179, fE, l65, l95, l97, l192, l216, l248, l880, l895, l8204, l8304, l11264, l12289, l63744, l65008, l65536, g90, g122, g214, g246, g767, g893, g8191, g8205, g8591, g12271, g55295, g64975, g65533, g983039, q95, q215, q247, q894, if_true, if_false]
theorem own_i24 (p1 : Int32) (h1 : 55296 ≤ p1.toInt) (h2 : p1.toInt ≤ 63743) : fN_0 p1 = fE p1 := by
  have l65 : ¬ p1 < (65 : Int32) := own_nlt (65 : Int32) 65 rfl (by omega)
  have l95 : ¬ p1 < (95 : Int32) := own_nlt (95 : Int32) 95 rfl (by omega)
  have l97 : ¬ p1 < (97 : Int32) := own_nlt (97 : Int32) 97 rfl (by omega)
  have l192 : ¬ p1 < (192 : Int32) := own_nlt (192 : Int32) 192 rfl (by omega)
  have l216 : ¬ p1 < (216 : Int32) := own_nlt (216 : Int32) 216 rfl (by omega)
  have l248 : ¬ p1 < (248 : Int32) := own_nlt (248 : Int32) 248 rfl (by omega)
  have l880 : ¬ p1 < (880 : Int32) := own_nlt (880 : Int32) 880 rfl (by omega)
  have l895 : ¬ p1 < (895 : Int32) := own_nlt (895 : Int32) 895 rfl (by omega)
  have l8204 : ¬ p1 < (8204 : Int32) := own_nlt (8204 : Int32) 8204 rfl (by omega)
  have l8304 : ¬ p1 < (8304 : Int32) := own_nlt (8304 : Int32) 8304 rfl (by omega)
  have l11264 : ¬ p1 < (11264 : Int32) := own_nlt (11264 : Int32) 11264 rfl (by omega)
  have l12289 : ¬ p1 < (12289 : Int32) := own_nlt (12289 : Int32) 12289 rfl (by omega)
  have l63744 : p1 < (63744 : Int32) := own_lt (63744 : Int32) 63744 rfl (by omega)
  have l65008 : p1 < (65008 : Int32) := own_lt (65008 : Int32) 65008 rfl (by omega)
  have l65536 : p1 < (65536 : Int32) := own_lt (65536 : Int32) 65536 rfl (by omega)
  have g90 : (90 : Int32) < p1 := own_gt (90 : Int32) 90 rfl (by omega)
  have g122 : (122 : Int32) < p1 := own_gt (122 : Int32) 122 rfl (by omega)
  have g214 : (214 : Int32) < p1 := own_gt (214 : Int32) 214 rfl (by omega)
  have g246 : (246 : Int32) < p1 := own_gt (246 : Int32) 246 rfl (by omega)
  have g767 : (767 : Int32) < p1 := own_gt (767 : Int32) 767 rfl (by omega)
  have g893 : (893 : Int32) < p1 := own_gt (893 : Int32) 893 rfl (by omega)
  have g8191 : (8191 : Int32) < p1 := own_gt (8191 : Int32) 8191 rfl (by omega)
  have g8205 : (8205 : Int32) < p1 := own_gt (8205 : Int32) 8205 rfl (by omega)
  have g8591 : (8591 : Int32) < p1 := own_gt (8591 : Int32) 8591 rfl (by omega)
  have g12271 : (12271 : Int32) < p1 := own_gt (12271 : Int32) 12271 rfl (by omega)
  have g55295 : (55295 : Int32) < p1 := own_gt (55295 : Int32) 55295 rfl (by omega)
  have g64975 : ¬ (64975 : Int32) < p1 := own_ngt (64975 : Int32) 64975 rfl (by omega)
  have g65533 : ¬ (65533 : Int32) < p1 := own_ngt (65533 : Int32) 65533 rfl (by omega)
  have g983039 : ¬ (983039 : Int32) < p1 := own_ngt (983039 : Int32) 983039 rfl (by omega)
  have q95 : ¬ p1 = (95 : Int32) := own_ne (95 : Int32) 95 rfl (by omega)
  have q215 : ¬ p1 = (215 : Int32) := own_ne (215 : Int32) 215 rfl (by omega)
  have q247 : ¬ p1 = (247 : Int32) := own_ne (247 : Int32) 247 rfl (by omega)
  have q894 : ¬ p1 = (894 : Int32) := own_ne (894 : Int32) 894 rfl (by omega)
  simp only [fN_0, fN_12, fN_24, fN_44, fN_58, fN_72, fN_86, fN_100, fN_114, fN_128, fN_142, fN_155, fN_167, fN_179, fE, l65, l95, l97, l192, l216, l248, l880, l895, l8204, l8304, l11264, l12289, l63744, l65008, l65536, g90, g122, g214, g246, g767, g893, g8191, g8205, g8591, g12271, g55295, g64975, g65533, g983039, q95, q215, q247, q894, if_true, if_false]
theorem own_i25 (p1 : Int32) (h1 : 63744 ≤ p1.toInt) (h2 : p1.toInt ≤ 64975) : fN_0 p1 = fE p1 := by
  have l65 : ¬ p1 < (65 : Int32) := own_nlt (65 : Int32) 65 rfl (by omega)
  have l95 : ¬ p1 < (95 : Int32) := own_nlt (95 : Int32) 95 rfl (by omega)
  have l97 : ¬ p1 < (97 : Int32) := own_nlt (97 : Int32) 97 rfl (by omega)
  have l192 : ¬ p1 < (192 : Int32) := own_nlt (192 : Int32) 192 rfl (by omega)
  have l216 : ¬ p1 < (216 : Int32) := own_nlt (216 : Int32) 216 rfl (by omega)
  have l248 : ¬ p1 < (248 : Int32) := own_nlt (248 : Int32) 248 rfl (by omega)
  have l880 : ¬ p1 < (880 : Int32) := own_nlt (880 : Int32) 880 rfl (by omega)
  have l895 : ¬ p1 < (895 : Int32) := own_nlt (895 : Int32) 895 rfl (by omega)
  have l8204 : ¬ p1 < (8204 : Int32) := own_nlt (8204 : Int32) 8204 rfl (by omega)
  have l8304 : ¬ p1 < (8304 : Int32) := own_nlt (8304 : Int32) 8304 rfl (by omega)
  have l11264 : ¬ p1 < (11264 : Int32) := own_nlt (11264 : Int32) 11264 rfl (by omega)
  have l12289 : ¬ p1 < (12289 : Int32) := own_nlt (12289 : Int32) 12289 rfl (by omega)
  have l63744 : ¬ p1 < (63744 : Int32) := own_nlt (63744 : Int32) 63744 rfl (by omega)
  have l65008 : p1 < (65008 : Int32) := own_lt (65008 : Int32) 65008 rfl (by omega)
  have l65536 : p1 < (65536 : Int32) := own_lt (65536 : Int32) 65536 rfl (by omega)
  have g90 : (90 : Int32) < p1 := own_gt (90 : Int32) 90 rfl (by omega)
  have g122 : (122 : Int32) < p1 := own_gt (122 : Int32) 122 rfl (by omega)
  have g214 : (214 : Int32) < p1 := own_gt (214 : Int32) 214 rfl (by omega)
  have g246 : (246 : Int32) < p1 := own_gt (246 : Int32) 246 rfl (by omega)
  have g767 : (767 : Int32) < p1 := own_gt (767 : Int32) 767 rfl (by omega)
  have g893 : (893 : Int32) < p1 := own_gt (893 : Int32) 893 rfl (by omega)
  have g8191 : (8191 : Int32) < p1 := own_gt (8191 : Int32) 8191 rfl (by omega)
  have g8205 : (8205 : Int32) < p1 := own_gt (8205 : Int32) 8205 rfl (by omega)
  have g8591 : (8591 : Int32) < p1 := own_gt (8591 : Int32) 8591 rfl (by omega)
  have g12271 : (12271 : Int32) < p1 := own_gt (12271 : Int32) 12271 rfl (by omega)
  have g55295 : (55295 : Int32) < p1 := own_gt (55295 : Int32) 55295 rfl (by omega)
  have g64975 : ¬ (64975 : Int32) < p1 := own_ngt (64975 : Int32) 64975 rfl (by omega)
  have g65533 : ¬ (65533 : Int32) < p1 := own_ngt (65533 : Int32) 65533 rfl (by omega)
  have g983039 : ¬ (983039 : Int32) < p1 := own_ngt (983039 : Int32) 983039 rfl (by omega)
  have q95 : ¬ p1 = (95 : Int32) := own_ne (95 : Int32) 95 rfl (by omega)
  have q215 : ¬ p1 = (215 : Int32) := own_ne (215 : Int32) 215 rfl (by omega)
  have q247 : ¬ p1 = (247 : Int32) := own_ne (247 : Int32) 247 rfl (by omega)
  have q894 : ¬ p1 = (894 : Int32) := own_ne (894 : Int32) 894 rfl (by omega)
  simp only [fN_0, fN_12, fN_24, fN_44, fN_58, fN_72, fN_86, fN_100, fN_114, fN_128, fN_142, fN_155, fN_167, fN_179, fE, l65, l95, l97, l192, l216, l248, l880, l895, l8204, l8304, l11264, l12289, l63744, l65008, l65536, g90, g122, g214, g246, g767, g893, g8191, g8205, g8591, g12271, g55295, g64975, g65533, g983039, q95, q215, q247, q894, if_true, if_false]
theorem own_i26 (p1 : Int32) (h1 : 64976 ≤ p1.toInt) (h2 : p1.toInt ≤ 65007) : fN_0 p1 = fE p1 := by
  have l65 : ¬ p1 < (65 : Int32) := own_nlt (65 : Int32) 65 rfl (by omega)
  have l95 : ¬ p1 < (95 : Int32) := own_nlt (95 : Int32) 95 rfl (by omega)
  have l97 : ¬ p1 < (97 : Int32) := own_nlt (97 : Int32) 97 rfl (by omega)
  have l192 : ¬ p1 < (192 : Int32) := own_nlt (192 : Int32) 192 rfl (by omega)
  have l216 : ¬ p1 < (216 : Int32) := own_nlt (216 : Int32) 216 rfl (by omega)
  have l248 : ¬ p1 < (248 : Int32) := own_nlt (248 : Int32) 248 rfl (by omega)
  have l880 : ¬ p1 < (880 : Int32) := own_nlt (880 : Int32) 880 rfl (by omega)
  have l895 : ¬ p1 < (895 : Int32) := own_nlt (895 : Int32) 895 rfl (by omega)
  have l8204 : ¬ p1 < (8204 : Int32) := own_nlt (8204 : Int32) 8204 rfl (by omega)
  have l8304 : ¬ p1 < (8304 : Int32) := own_nlt (8304 : Int32) 8304 rfl (by omega)
  have l11264 : ¬ p1 < (11264 : Int32) := own_nlt (11264 : Int32) 11264 rfl (by omega)
  have l12289 : ¬ p1 < (12289 : Int32) := own_nlt (12289 : Int32) 12289 rfl (by omega)
  have l63744 : ¬ p1 < (63744 : Int32) := own_nlt (63744 : Int32) 63744 rfl (by omega)
  have l65008 : p1 < (65008 : Int32) := own_lt (65008 : Int32) 65008 rfl (by omega)
  have l65536 : p1 < (65536 : Int32) := own_lt (65536 : Int32) 65536 rfl (by omega)
  have g90 : (90 : Int32) < p1 := own_gt (90 : Int32) 90 rfl (by omega)
  have g122 : (122 : Int32) < p1 := own_gt (122 : Int32) 122 rfl (by omega)
  have g214 : (214 : Int32) < p1 := own_gt (214 : Int32) 214 rfl (by omega)
  have g246 : (246 : Int32) < p1 := own_gt (246 : Int32) 246 rfl (by omega)
  have g767 : (767 : Int32) < p1 := own_gt (767 : Int32) 767 rfl (by omega)
  have g893 : (893 : Int32) < p1 := own_gt (893 : Int32) 893 rfl (by omega)
  have g8191 : (8191 : Int32) < p1 := own_gt (8191 : Int32) 8191 rfl (by omega)
  have g8205 : (8205 : Int32) < p1 := own_gt (8205 : Int32) 8205 rfl (by omega)
  have g8591 : (8591 : Int32) < p1 := own_gt (8591 : Int32) 8591 rfl (by omega)
  have g12271 : (12271 : Int32) < p1 := own_gt (12271 : Int32) 12271 rfl (by omega)
  have g55295 : (55295 : Int32) < p1 := own_gt (55295 : Int32) 55295 rfl (by omega)
  have g64975 : (64975 : Int32) < p1 := own_gt (64975 : Int32) 64975 rfl (by omega)
  have g65533 : ¬ (65533 : Int32) < p1 := own_ngt (65533 : Int32) 65533 rfl (by omega)
  have g983039 : ¬ (983039 : Int32) < p1 := own_ngt (983039 : Int32) 983039 rfl (by omega)
  have q95 : ¬ p1 = (95 : Int32) := own_ne (95 : Int32) 95 rfl (by omega)
  have q215 : ¬ p1 = (215 : Int32) := own_ne (215 : Int32) 215 rfl (by omega)
  have q247 : ¬ p1 = (247 : Int32) := own_ne (247 : Int32) 247 rfl (by omega)
  have q894 : ¬ p1 = (894 : Int32) := own_ne (894 : Int32) 894 rfl (by omega)
  simp only [fN_0, fN_12, fN_24, fN_44, fN_58, fN_72, fN_86, fN_100, fN_114, fN_128, fN_142, fN_155, fN_167, fN_179, fE, l65, l95, l97, l192, l216, l248, l880, l895, l8204, l8304, l11264, l12289, l63744, l65008, l65536, g90, g122, g214, g246, g767, g893, g8191, g8205, g8591, g12271, g55295, g64975, g65533, g983039, q95, q215, q247, q894, if_true, if_false]
theorem own_i27 (p1 : Int32) (h1 : 65008 ≤ p1.toInt) (h2 : p1.toInt ≤ 65533) : fN_0 p1 = fE p1 := by
  have l65 : ¬ p1 < (65 : Int32) := own_nlt (65 : Int32) 65 rfl (by omega)
  have l95 : ¬ p1 < (95 : Int32) := own_nlt (95 : Int32) 95 rfl (by omega)
  have l97 : ¬ p1 < (97 : Int32) := own_nlt (97 : Int32) 97 rfl (by omega)
  have l192 : ¬ p1 < (192 : Int32) := own_nlt (192 : Int32) 192 rfl (by omega)
  have l216 : ¬ p1 < (216 : Int32) := own_nlt (216 : Int32) 216 rfl (by omega)
  have l248 : ¬ p1 < (248 : Int32) := own_nlt (248 : Int32) 248 rfl (by omega)
  have l880 : ¬ p1 < (880 : Int32) := own_nlt (880 : Int32) 880 rfl (by omega)
  have l895 : ¬ p1 < (895 : Int32) := own_nlt (895 : Int32) 895 rfl (by omega)
  have l8204 : ¬ p1 < (8204 : Int32) := own_nlt (8204 : Int32) 8204 rfl (by omega)
  have l8304 : ¬ p1 < (8304 : Int32) := own_nlt (8304 : Int32) 8304 rfl (by omega)
  have l11264 : ¬ p1 < (11264 : Int32) := own_nlt (11264 : Int32) 11264 rfl (by omega)
  have l12289 : ¬ p1 < (12289 : Int32) := own_nlt (12289 : Int32) 12289 rfl (by omega)
  have l63744 : ¬ p1 < (63744 : Int32) := own_nlt (63744 : Int32) 63744 rfl (by omega)
  have l65008 : ¬ p1 < (65008 : Int32) := own_nlt (65008 : Int32) 65008 rfl (by omega)
  have l65536 : p1 < (65536 : Int32) := own_lt (65536 : Int32) 65536 rfl (by omega)
  have g90 : (90 : Int32) < p1 := own_gt (90 : Int32) 90 rfl (by omega)
  have g122 : (122 : Int32) < p1 := own_gt (122 : Int32) 122 rfl (by omega)
  have g214 : (214 : Int32) < p1 := own_gt (214 : Int32) 214 rfl (by omega)
  have g246 : (246 : Int32) < p1 := own_gt (246 : Int32) 246 rfl (by omega)
  have g767 : (767 : Int32) < p1 := own_gt (767 : Int32) 767 rfl (by omega)
  have g893 : (893 : Int32) < p1 := own_gt (893 : Int32) 893 rfl (by omega)
  have g8191 : (8191 : Int32) < p1 := own_gt (8191 : Int32) 8191 rfl (by omega)
  have g8205 : (8205 : Int32) < p1 := own_gt (8205 : Int32) 8205 rfl (by omega)
  have g8591 : (8591 : Int32) < p1 := own_gt (8591 : Int32) 8591 rfl (by omega)
  have g12271 : (12271 : Int32) < p1 := own_gt (12271 : Int32) 12271 rfl (by omega)
  have g55295 : (55295 : Int32) < p1 := own_gt (55295 : Int32) 55295 rfl (by omega)
  have g64975 : (64975 : Int32) < p1 := own_gt (64975 : Int32) 64975 rfl (by omega)
  have g65533 : ¬ (65533 : Int32) < p1 := own_ngt (65533 : Int32) 65533 rfl (by omega)
  have g983039 : ¬ (983039 : Int32) < p1 := own_ngt (983039 : Int32) 983039 rfl (by omega)
  have q95 : ¬ p1 = (95 : Int32) := own_ne (95 : Int32) 95 rfl (by omega)
  have q215 : ¬ p1 = (215 : Int32) := own_ne (215 : Int32) 215 rfl (by omega)
  have q247 : ¬ p1 = (247 : Int32) := own_ne (247 : Int32) 247 rfl (by omega)
  have q894 : ¬ p1 = (894 : Int32) := own_ne (894 : Int32) 894 rfl (by omega)
  simp only [fN_0, fN_12, fN_24, fN_44, fN_58, fN_72, fN_86, fN_100, fN_114, fN_128, fN_142, fN_155, fN_167, fN_179, fE, l65, l95, l97, l192, l216, l248, l880, l895, l8204, l8304, l11264, l12289, l63744, l65008, l65536, g90, g122, g214, g246, g767, g893, g8191, g8205, g8591, g12271, g55295, g64975, g65533, g983039, q95, q215, q247, q894, if_true, if_false]
theorem own_i28 (p1 : Int32) (h1 : 65534 ≤ p1.toInt) (h2 : p1.toInt ≤ 65535) : fN_0 p1 = fE p1 := by
  have l65 : ¬ p1 < (65 : Int32) := own_nlt (65 : Int32) 65 rfl (by omega)
  have l95 : ¬ p1 < (95 : Int32) := own_nlt (95 : Int32) 95 rfl (by omega)
  have l97 : ¬ p1 < (97 : Int32) := own_nlt (97 : Int32) 97 rfl (by omega)
  have l192 : ¬ p1 < (192 : Int32) := own_nlt (192 : Int32) 192 rfl (by omega)
  have l216 : ¬ p1 < (216 : Int32) := own_nlt (216 : Int32) 216 rfl (by omega)
  have l248 : ¬ p1 < (248 : Int32) := own_nlt (248 : Int32) 248 rfl (by omega)
  have l880 : ¬ p1 < (880 : Int32) := own_nlt (880 : Int32) 880 rfl (by omega)
  have l895 : ¬ p1 < (895 : Int32) := own_nlt (895 : Int32) 895 rfl (by omega)
  have l8204 : ¬ p1 < (8204 : Int32) := own_nlt (8204 : Int32) 8204 rfl (by omega)
  have l8304 : ¬ p1 < (8304 : Int32) := own_nlt (8304 : Int32) 8304 rfl (by omega)
  have l11264 : ¬ p1 < (11264 : Int32) := own_nlt (11264 : Int32) 11264 rfl (by omega)
  have l12289 : ¬ p1 < (12289 : Int32) := own_nlt (12289 : Int32) 12289 rfl (by omega)
  have l63744 : ¬ p1 < (63744 : Int32) := own_nlt (63744 : Int32) 63744 rfl (by omega)
  have l65008 : ¬ p1 < (65008 : Int32) := own_nlt (65008 : Int32) 65008 rfl (by omega)
  have l65536 : p1 < (65536 : Int32) := own_lt (65536 : Int32) 65536 rfl (by omega)
  have g90 : (90 : Int32) < p1 := own_gt (90 : Int32) 90 rfl (by omega)
  have g122 : (122 : Int32) < p1 := own_gt (122 : Int32) 122 rfl (by omega)
  have g214 : (214 : Int32) < p1 := own_gt (214 : Int32) 214 rfl (by omega)
  have g246 : (246 : Int32) < p1 := own_gt (246 : Int32) 246 rfl (by omega)
  have g767 : (767 : Int32) < p1 := own_gt (767 : Int32) 767 rfl (by omega)
  have g893 : (893 : Int32) < p1 := own_gt (893 : Int32) 893 rfl (by omega)
  have g8191 : (8191 : Int32) < p1 := own_gt (8191 : Int32) 8191 rfl (by omega)
  have g8205 : (8205 : Int32) < p1 := own_gt (8205 : Int32) 8205 rfl (by omega)
  have g8591 : (8591 : Int32) < p1 := own_gt (8591 : Int32) 8591 rfl (by omega)
  have g12271 : (12271 : Int32) < p1 := own_gt (12271 : Int32) 12271 rfl (by omega)
  have g55295 : (55295 : Int32) < p1 := own_gt (55295 : Int32) 55295 rfl (by omega)
  have g64975 : (64975 : Int32) < p1 := own_gt (64975 : Int32) 64975 rfl (by omega)
  have g65533 : (65533 : Int32) < p1 := own_gt (65533 : Int32) 65533 rfl (by omega)
  have g983039 : ¬ (983039 : Int32) < p1 := own_ngt (983039 : Int32) 983039 rfl (by omega)
  have q95 : ¬ p1 = (95 : Int32) := own_ne (95 : Int32) 95 rfl (by omega)
  have q215 : ¬ p1 = (215 : Int32) := own_ne (215 : Int32) 215 rfl (by omega)
  have q247 : ¬ p1 = (247 : Int32) := own_ne (247 : Int32) 247 rfl (by omega)
  have q894 : ¬ p1 = (894 : Int32) := own_ne (894 : Int32) 894 rfl (by omega)
  simp only [fN_0, fN_12, fN_24, fN_44, fN_58, fN_72, fN_86, fN_100, fN_114, fN_128, fN_142, fN_155, fN_167, fN_179, fE, l65, l95, l97, l192, l216, l248, l880, l895, l8204, l8304, l11264, l12289, l63744, l65008, l65536, g90, g122, g214, g246, g767, g893, g8191, g8205, g8591, g12271, g55295, g64975, g65533, g983039, q95, q215, q247, q894, if_true, if_false]
theorem own_i29 (p1 : Int32) (h1 : 65536 ≤ p1.toInt) (h2 : p1.toInt ≤ 983039) : fN_0 p1 = fE p1 := by
  have l65 : ¬ p1 < (65 : Int32) := own_nlt (65 : Int32) 65 rfl (by omega)
  have l95 : ¬ p1 < (95 : Int32) := own_nlt (95 : Int32) 95 rfl (by omega)
  have l97 : ¬ p1 < (97 : Int32) := own_nlt (97 : Int32) 97 rfl (by omega)
  have l192 : ¬ p1 < (192 : Int32) := own_nlt (192 : Int32) 192 rfl (by omega)
  have l216 : ¬ p1 < (216 : Int32) := own_nlt (216 : Int32) 216 rfl (by omega)
  have l248 : ¬ p1 < (248 : Int32) := own_nlt (248 : Int32) 248 rfl (by omega)
  have l880 : ¬ p1 < (880 : Int32) := own_nlt (880 : Int32) 880 rfl (by omega)
  have l895 : ¬ p1 < (895 : Int32) := own_nlt (895 : Int32) 895 rfl (by omega)
  have l8204 : ¬ p1 < (8204 : Int32) := own_nlt (8204 : Int32) 8204 rfl (by omega)
  have l8304 : ¬ p1 < (8304 : Int32) := own_nlt (8304 : Int32) 8304 rfl (by omega)
  have l11264 : ¬ p1 < (11264 : Int32) := own_nlt (11264 : Int32) 11264 rfl (by omega)
  have l12289 : ¬ p1 < (12289 : Int32) := own_nlt (12289 : Int32) 12289 rfl (by omega)
  have l63744 : ¬ p1 < (63744 : Int32) := own_nlt (63744 : Int32) 63744 rfl (by omega)
  have l65008 : ¬ p1 < (65008 : Int32) := own_nlt (65008 : Int32) 65008 rfl (by omega)
  have l65536 : ¬ p1 < (65536 : Int32) := own_nlt (65536 : Int32) 65536 rfl (by omega)
  have g90 : (90 : Int32) < p1 := own_gt (90 : Int32) 90 rfl (by omega)
  have g122 : (122 : Int32) < p1 := own_gt (122 : Int32) 122 rfl (by omega)
  have g214 : (214 : Int32) < p1 := own_gt (214 : Int32) 214 rfl (by omega)
  have g246 : (246 : Int32) < p1 := own_gt (246 : Int32) 246 rfl (by omega)
  have g767 : (767 : Int32) < p1 := own_gt (767 : Int32) 767 rfl (by omega)
  have g893 : (893 : Int32) < p1 := own_gt (893 : Int32) 893 rfl (by omega)
  have g8191 : (8191 : Int32) < p1 := own_gt (8191 : Int32) 8191 rfl (by omega)
  have g8205 : (8205 : Int32) < p1 := own_gt (8205 : Int32) 8205 rfl (by omega)
  have g8591 : (8591 : Int32) < p1 := own_gt (8591 : Int32) 8591 rfl (by omega)
  have g12271 : (12271 : Int32) < p1 := own_gt (12271 : Int32) 12271 rfl (by omega)
  have g55295 : (55295 : Int32) < p1 := own_gt (55295 : Int32) 55295 rfl (by omega)
  have g64975 : (64975 : Int32) < p1 := own_gt (64975 : Int32) 64975 rfl (by omega)
  have g65533 : (65533 : Int32) < p1 := own_gt (65533 : Int32) 65533 rfl (by omega)
  have g983039 : ¬ (983039 : Int32) < p1 := own_ngt (983039 : Int32) 983039 rfl (by omega)
  have q95 : ¬ p1 = (95 : Int32) := own_ne (95 : Int32) 95 rfl (by omega)
  have q215 : ¬ p1 = (215 : Int32) := own_ne (215 : Int32) 215 rfl (by omega)
  have q247 : ¬ p1 = (247 : Int32) := own_ne (247 : Int32) 247 rfl (by omega)
  have q894 : ¬ p1 = (894 : Int32) := own_ne (894 : Int32) 894 rfl (by omega)
  simp only [fN_0, fN_12, fN_24, fN_44, fN_58, fN_72, fN_86, fN_100, fN_114, fN_128, fN_142, fN_155, fN_167, fN_179, fE, l65, l95, l97, l192, l216, l248, l880, l895, l8204, l8304, l11264, l12289, l63744, l65008, l65536, g90, g122, g214, g246, g767, g893, g8191, g8205, g8591, g12271, g55295, g64975, g65533, g983039, q95, q215, q247, q894, if_true, if_false]
theorem own_i30 (p1 : Int32) (h1 : 983040 ≤ p1.toInt) : fN_0 p1 = fE p1 := by
  have l65 : ¬ p1 < (65 : Int32) := own_nlt (65 : Int32) 65 rfl (by omega)
  have l95 : ¬ p1 < (95 : Int32) := own_nlt (95 : Int32) 95 rfl (by omega)
  have l97 : ¬ p1 < (97 : Int32) := own_nlt (97 : Int32) 97 rfl (by omega)
  have l192 : ¬ p1 < (192 : Int32) := own_nlt (192 : Int32) 192 rfl (by omega)
  have l216 : ¬ p1 < (216 : Int32) := own_nlt (216 : Int32) 216 rfl (by omega)
  have l248 : ¬ p1 < (248 : Int32) := own_nlt (248 : Int32) 248 rfl (by omega)
  have l880 : ¬ p1 < (880 : Int32) := own_nlt (880 : Int32) 880 rfl (by omega)
  have l895 : ¬ p1 < (895 : Int32) := own_nlt (895 : Int32) 895 rfl (by omega)
  have l8204 : ¬ p1 < (8204 : Int32) := own_nlt (8204 : Int32) 8204 rfl (by omega)
  have l8304 : ¬ p1 < (8304 : Int32) := own_nlt (8304 : Int32) 8304 rfl (by omega)
  have l11264 : ¬ p1 < (11264 : Int32) := own_nlt (11264 : Int32) 11264 rfl (by omega)
  have l12289 : ¬ p1 < (12289 : Int32) := own_nlt (12289 : Int32) 12289 rfl (by omega)
  have l63744 : ¬ p1 < (63744 : Int32) := own_nlt (63744 : Int32) 63744 rfl (by omega)
  have l65008 : ¬ p1 < (65008 : Int32) := own_nlt (65008 : Int32) 65008 rfl (by omega)
  have l65536 : ¬ p1 < (65536 : Int32) := own_nlt (65536 : Int32) 65536 rfl (by omega)
  have g90 : (90 : Int32) < p1 := own_gt (90 : Int32) 90 rfl (by omega)
  have g122 : (122 : Int32) < p1 := own_gt (122 : Int32) 122 rfl (by omega)
  have g214 : (214 : Int32) < p1 := own_gt (214 : Int32) 214 rfl (by omega)
  have g246 : (246 : Int32) < p1 := own_gt (246 : Int32) 246 rfl (by omega)
  have g767 : (767 : Int32) < p1 := own_gt (767 : Int32) 767 rfl (by omega)
  have g893 : (893 : Int32) < p1 := own_gt (893 : Int32) 893 rfl (by omega)
  have g8191 : (8191 : Int32) < p1 := own_gt (8191 : Int32) 8191 rfl (by omega)
  have g8205 : (8205 : Int32) < p1 := own_gt (8205 : Int32) 8205 rfl (by omega)
  have g8591 : (8591 : Int32) < p1 := own_gt (8591 : Int32) 8591 rfl (by omega)
  have g12271 : (12271 : Int32) < p1 := own_gt (12271 : Int32) 12271 rfl (by omega)
  have g55295 : (55295 : Int32) < p1 := own_gt (55295 : Int32) 55295 rfl (by omega)
  have g64975 : (64975 : Int32) < p1 := own_gt (64975 : Int32) 64975 rfl (by omega)
  have g65533 : (65533 : Int32) < p1 := own_gt (65533 : Int32) 65533 rfl (by omega)
  have g983039 : (983039 : Int32) < p1 := own_gt (983039 : Int32) 983039 rfl (by omega)
  have q95 : ¬ p1 = (95 : Int32) := own_ne (95 : Int32) 95 rfl (by omega)
  have q215 : ¬ p1 = (215 : Int32) := own_ne (215 : Int32) 215 rfl (by omega)
  have q247 : ¬ p1 = (247 : Int32) := own_ne (247 : Int32) 247 rfl (by omega)
  have q894 : ¬ p1 = (894 : Int32) := own_ne (894 : Int32) 894 rfl (by omega)
  simp only [fN_0, fN_12, fN_24, fN_44, fN_58, fN_72, fN_86, fN_100, fN_114, fN_128, fN_142, fN_155, fN_167, fN_179, fE, l65, l95, l97, l192, l216, l248, l880, l895, l8204, l8304, l11264, l12289, l63744, l65008, l65536, g90, g122, g214, g246, g767, g893, g8191, g8205, g8591, g12271, g55295, g64975, g65533, g983039, q95, q215, q247, q894, if_true, if_false]
theorem own_law (p1 : Int32) : fN_0 p1 = fE p1 := by
  by_cases c0 : p1.toInt < 65
  · exact own_i0 p1 (by omega)
  by_cases c1 : p1.toInt < 91
  · exact own_i1 p1 (by omega) (by omega)
  by_cases c2 : p1.toInt < 95
  · exact own_i2 p1 (by omega) (by omega)
  by_cases c3 : p1.toInt < 96
  · exact own_i3 p1 (by omega) (by omega)
  by_cases c4 : p1.toInt < 97
  · exact own_i4 p1 (by omega) (by omega)
  by_cases c5 : p1.toInt < 123
  · exact own_i5 p1 (by omega) (by omega)
  by_cases c6 : p1.toInt < 192
  · exact own_i6 p1 (by omega) (by omega)
  by_cases c7 : p1.toInt < 215
  · exact own_i7 p1 (by omega) (by omega)
  by_cases c8 : p1.toInt < 216
  · exact own_i8 p1 (by omega) (by omega)
  by_cases c9 : p1.toInt < 247
  · exact own_i9 p1 (by omega) (by omega)
  by_cases c10 : p1.toInt < 248
  · exact own_i10 p1 (by omega) (by omega)
  by_cases c11 : p1.toInt < 768
  · exact own_i11 p1 (by omega) (by omega)
  by_cases c12 : p1.toInt < 880
  · exact own_i12 p1 (by omega) (by omega)
  by_cases c13 : p1.toInt < 894
  · exact own_i13 p1 (by omega) (by omega)
  by_cases c14 : p1.toInt < 895
  · exact own_i14 p1 (by omega) (by omega)
  by_cases c15 : p1.toInt < 8192
  · exact own_i15 p1 (by omega) (by omega)
  by_cases c16 : p1.toInt < 8204
  · exact own_i16 p1 (by omega) (by omega)
  by_cases c17 : p1.toInt < 8206
  · exact own_i17 p1 (by omega) (by omega)
  by_cases c18 : p1.toInt < 8304
  · exact own_i18 p1 (by omega) (by omega)
  by_cases c19 : p1.toInt < 8592
  · exact own_i19 p1 (by omega) (by omega)
  by_cases c20 : p1.toInt < 11264
  · exact own_i20 p1 (by omega) (by omega)
  by_cases c21 : p1.toInt < 12272
  · exact own_i21 p1 (by omega) (by omega)
  by_cases c22 : p1.toInt < 12289
  · exact own_i22 p1 (by omega) (by omega)
  by_cases c23 : p1.toInt < 55296
  · exact own_i23 p1 (by omega) (by omega)
  by_cases c24 : p1.toInt < 63744
  · exact own_i24 p1 (by omega) (by omega)
  by_cases c25 : p1.toInt < 64976
  · exact own_i25 p1 (by omega) (by omega)
  by_cases c26 : p1.toInt < 65008
  · exact own_i26 p1 (by omega) (by omega)
  by_cases c27 : p1.toInt < 65534
  · exact own_i27 p1 (by omega) (by omega)
  by_cases c28 : p1.toInt < 65536
  · exact own_i28 p1 (by omega) (by omega)
  by_cases c29 : p1.toInt < 983040
  · exact own_i29 p1 (by omega) (by omega)
  exact own_i30 p1 (by omega)
theorem dN_0 : decode prog_41_method_4_code 0 = .ok (.iload_n 0, 1) := by decide +kernel
theorem dN_1 : decode prog_41_method_4_code 1 = .ok (.bipush 97, 2) := by decide +kernel
theorem dN_3 : decode prog_41_method_4_code 3 = .ok (.if_icmp .lt 9, 3) := by decide +kernel
theorem dN_6 : decode prog_41_method_4_code 6 = .ok (.iload_n 0, 1) := by decide +kernel
theorem dN_7 : decode prog_41_method_4_code 7 = .ok (.bipush 122, 2) := by decide +kernel
theorem dN_9 : decode prog_41_method_4_code 9 = .ok (.if_icmp .le 182, 3) := by decide +kernel
theorem dN_12 : decode prog_41_method_4_code 12 = .ok (.iload_n 0, 1) := by decide +kernel
theorem dN_13 : decode prog_41_method_4_code 13 = .ok (.bipush 65, 2) := by decide +kernel
theorem dN_15 : decode prog_41_method_4_code 15 = .ok (.if_icmp .lt 9, 3) := by decide +kernel
theorem dN_18 : decode prog_41_method_4_code 18 = .ok (.iload_n 0, 1) := by decide +kernel
theorem dN_19 : decode prog_41_method_4_code 19 = .ok (.bipush 90, 2) := by decide +kernel
theorem dN_21 : decode prog_41_method_4_code 21 = .ok (.if_icmp .le 170, 3) := by decide +kernel
theorem dN_24 : decode prog_41_method_4_code 24 = .ok (.iload_n 0, 1) := by decide +kernel
theorem dN_25 : decode prog_41_method_4_code 25 = .ok (.bipush 95, 2) := by decide +kernel
theorem dN_27 : decode prog_41_method_4_code 27 = .ok (.if_icmp .eq 164, 3) := by decide +kernel
theorem dN_30 : decode prog_41_method_4_code 30 = .ok (.iload_n 0, 1) := by decide +kernel
theorem dN_31 : decode prog_41_method_4_code 31 = .ok (.sipush 192, 3) := by decide +kernel
theorem dN_34 : decode prog_41_method_4_code 34 = .ok (.if_icmp .lt 10, 3) := by decide +kernel
theorem dN_37 : decode prog_41_method_4_code 37 = .ok (.iload_n 0, 1) := by decide +kernel
theorem dN_38 : decode prog_41_method_4_code 38 = .ok (.sipush 214, 3) := by decide +kernel
theorem dN_41 : decode prog_41_method_4_code 41 = .ok (.if_icmp .le 150, 3) := by decide +kernel
theorem dN_44 : decode prog_41_method_4_code 44 = .ok (.iload_n 0, 1) := by decide +kernel
theorem dN_45 : decode prog_41_method_4_code 45 = .ok (.sipush 216, 3) := by decide +kernel
theorem dN_48 : decode prog_41_method_4_code 48 = .ok (.if_icmp .lt 10, 3) := by decide +kernel
theorem dN_51 : decode prog_41_method_4_code 51 = .ok (.iload_n 0, 1) := by decide +kernel
theorem dN_52 : decode prog_41_method_4_code 52 = .ok (.sipush 246, 3) := by decide +kernel
theorem dN_55 : decode prog_41_method_4_code 55 = .ok (.if_icmp .le 136, 3) := by decide +kernel
theorem dN_58 : decode prog_41_method_4_code 58 = .ok (.iload_n 0, 1) := by decide +kernel
theorem dN_59 : decode prog_41_method_4_code 59 = .ok (.sipush 248, 3) := by decide +kernel
theorem dN_62 : decode prog_41_method_4_code 62 = .ok (.if_icmp .lt 10, 3) := by decide +kernel
theorem dN_65 : decode prog_41_method_4_code 65 = .ok (.iload_n 0, 1) := by decide +kernel
theorem dN_66 : decode prog_41_method_4_code 66 = .ok (.sipush 767, 3) := by decide +kernel
theorem dN_69 : decode prog_41_method_4_code 69 = .ok (.if_icmp .le 122, 3) := by decide +kernel
theorem dN_72 : decode prog_41_method_4_code 72 = .ok (.iload_n 0, 1) := by decide +kernel
theorem dN_73 : decode prog_41_method_4_code 73 = .ok (.sipush 880, 3) := by decide +kernel
theorem dN_76 : decode prog_41_method_4_code 76 = .ok (.if_icmp .lt 10, 3) := by decide +kernel
theorem dN_79 : decode prog_41_method_4_code 79 = .ok (.iload_n 0, 1) := by decide +kernel
theorem dN_80 : decode prog_41_method_4_code 80 = .ok (.sipush 893, 3) := by decide +kernel
theorem dN_83 : decode prog_41_method_4_code 83 = .ok (.if_icmp .le 108, 3) := by decide +kernel
theorem dN_86 : decode prog_41_method_4_code 86 = .ok (.iload_n 0, 1) := by decide +kernel
theorem dN_87 : decode prog_41_method_4_code 87 = .ok (.sipush 895, 3) := by decide +kernel
theorem dN_90 : decode prog_41_method_4_code 90 = .ok (.if_icmp .lt 10, 3) := by decide +kernel
theorem dN_93 : decode prog_41_method_4_code 93 = .ok (.iload_n 0, 1) := by decide +kernel
theorem dN_94 : decode prog_41_method_4_code 94 = .ok (.sipush 8191, 3) := by decide +kernel
theorem dN_97 : decode prog_41_method_4_code 97 = .ok (.if_icmp .le 94, 3) := by decide +kernel
theorem dN_100 : decode prog_41_method_4_code 100 = .ok (.iload_n 0, 1) := by decide +kernel
theorem dN_101 : decode prog_41_method_4_code 101 = .ok (.sipush 8204, 3) := by decide +kernel
theorem dN_104 : decode prog_41_method_4_code 104 = .ok (.if_icmp .lt 10, 3) := by decide +kernel
theorem dN_107 : decode prog_41_method_4_code 107 = .ok (.iload_n 0, 1) := by decide +kernel
theorem dN_108 : decode prog_41_method_4_code 108 = .ok (.sipush 8205, 3) := by decide +kernel
theorem dN_111 : decode prog_41_method_4_code 111 = .ok (.if_icmp .le 80, 3) := by decide +kernel
theorem dN_114 : decode prog_41_method_4_code 114 = .ok (.iload_n 0, 1) := by decide +kernel
theorem dN_115 : decode prog_41_method_4_code 115 = .ok (.sipush 8304, 3) := by decide +kernel
theorem dN_118 : decode prog_41_method_4_code 118 = .ok (.if_icmp .lt 10, 3) := by decide +kernel
theorem dN_121 : decode prog_41_method_4_code 121 = .ok (.iload_n 0, 1) := by decide +kernel
theorem dN_122 : decode prog_41_method_4_code 122 = .ok (.sipush 8591, 3) := by decide +kernel
theorem dN_125 : decode prog_41_method_4_code 125 = .ok (.if_icmp .le 66, 3) := by decide +kernel
theorem dN_128 : decode prog_41_method_4_code 128 = .ok (.iload_n 0, 1) := by decide +kernel
theorem dN_129 : decode prog_41_method_4_code 129 = .ok (.sipush 11264, 3) := by decide +kernel
theorem dN_132 : decode prog_41_method_4_code 132 = .ok (.if_icmp .lt 10, 3) := by decide +kernel
theorem dN_135 : decode prog_41_method_4_code 135 = .ok (.iload_n 0, 1) := by decide +kernel
theorem dN_136 : decode prog_41_method_4_code 136 = .ok (.sipush 12271, 3) := by decide +kernel
theorem dN_139 : decode prog_41_method_4_code 139 = .ok (.if_icmp .le 52, 3) := by decide +kernel
theorem dN_142 : decode prog_41_method_4_code 142 = .ok (.iload_n 0, 1) := by decide +kernel
theorem dN_143 : decode prog_41_method_4_code 143 = .ok (.sipush 12289, 3) := by decide +kernel
theorem dN_146 : decode prog_41_method_4_code 146 = .ok (.if_icmp .lt 9, 3) := by decide +kernel
theorem dN_149 : decode prog_41_method_4_code 149 = .ok (.iload_n 0, 1) := by decide +kernel
theorem dN_150 : decode prog_41_method_4_code 150 = .ok (.ldc 48, 2) := by decide +kernel
theorem dN_152 : decode prog_41_method_4_code 152 = .ok (.if_icmp .le 39, 3) := by decide +kernel
theorem dN_155 : decode prog_41_method_4_code 155 = .ok (.iload_n 0, 1) := by decide +kernel
theorem dN_156 : decode prog_41_method_4_code 156 = .ok (.ldc 49, 2) := by decide +kernel
theorem dN_158 : decode prog_41_method_4_code 158 = .ok (.if_icmp .lt 9, 3) := by decide +kernel
theorem dN_161 : decode prog_41_method_4_code 161 = .ok (.iload_n 0, 1) := by decide +kernel
theorem dN_162 : decode prog_41_method_4_code 162 = .ok (.ldc 50, 2) := by decide +kernel
theorem dN_164 : decode prog_41_method_4_code 164 = .ok (.if_icmp .le 27, 3) := by decide +kernel
theorem dN_167 : decode prog_41_method_4_code 167 = .ok (.iload_n 0, 1) := by decide +kernel
theorem dN_168 : decode prog_41_method_4_code 168 = .ok (.ldc 51, 2) := by decide +kernel
theorem dN_170 : decode prog_41_method_4_code 170 = .ok (.if_icmp .lt 9, 3) := by decide +kernel
theorem dN_173 : decode prog_41_method_4_code 173 = .ok (.iload_n 0, 1) := by decide +kernel
theorem dN_174 : decode prog_41_method_4_code 174 = .ok (.ldc 52, 2) := by decide +kernel
theorem dN_176 : decode prog_41_method_4_code 176 = .ok (.if_icmp .le 15, 3) := by decide +kernel
theorem dN_179 : decode prog_41_method_4_code 179 = .ok (.iload_n 0, 1) := by decide +kernel
theorem dN_180 : decode prog_41_method_4_code 180 = .ok (.ldc 53, 2) := by decide +kernel
theorem dN_182 : decode prog_41_method_4_code 182 = .ok (.if_icmp .lt 13, 3) := by decide +kernel
theorem dN_185 : decode prog_41_method_4_code 185 = .ok (.iload_n 0, 1) := by decide +kernel
theorem dN_186 : decode prog_41_method_4_code 186 = .ok (.ldc 54, 2) := by decide +kernel
theorem dN_188 : decode prog_41_method_4_code 188 = .ok (.if_icmp .gt 7, 3) := by decide +kernel
theorem dN_191 : decode prog_41_method_4_code 191 = .ok (.iconst 1, 1) := by decide +kernel
theorem dN_192 : decode prog_41_method_4_code 192 = .ok (.goto 4, 3) := by decide +kernel
theorem dN_195 : decode prog_41_method_4_code 195 = .ok (.iconst 0, 1) := by decide +kernel
theorem dN_196 : decode prog_41_method_4_code 196 = .ok (.ireturn, 1) := by decide +kernel
theorem ef_N (m : MethodId) (x0 : Int32) : entryFrame m #[(.int x0)] 1 = mkF m 0 #[.val (.int x0)] [] := by first | (simp [entryFrame, mkF, argsToLocals, Value.category]; done) | rfl
set_option maxRecDepth 65536 in
set_option maxHeartbeats 40000000 in
theorem rmN (l : Launch) (Z : State) (a0 : Array Value) (hw : ∀ d ∈ tables_1, d.before a0 Z = true) (ws : List Jvm.Cond) (p1 : Int32) (h0 : Heap) :
    MetFree l (⟨"com/example/libxform/libxform/output/QualifiedNames", "isNameStart", "(I)Z"⟩ : MethodName) (head1 (Jvm.Cond.code (⟨"com/example/libxform/libxform/output/QualifiedNames", "isNameStart", "(I)Z"⟩ : MethodName) prog_41_method_4_code 1 (some .boolean) :: ws) ({ frames := 0, cells := 0, slots := 0, locals := 0 } : Room)) (fun a U => a = #[(.int p1)] ∧ Z.Warmed39 U.vm ∧ U.heap = h0) (fun _ _ _ _ _ => True) (fun _ U o U' => ∃ v L, o = .returned v ∧ QP (some (.int (fN_0 p1))) h0 v U'.heap L ∧ FrameEnd U o U' L ({ frames := 0, cells := 0, slots := 0, locals := 0 } : Room).cells ({ frames := 0, cells := 0, slots := 0, locals := 0 } : Room).slots) := by
  refine MetFree.of_bodySF (plainFor_of_name (by first | (simp [plainName, overriddenIn]; done) | decide +kernel)) hisR ?_
  intro p e s m args below meth c s₁ Bd hml0 hP hK
  obtain ⟨rfl, hZ, hh⟩ := hP
  have hx := Bd.exec
  have hby := Bd.bytes
  have hml : c.maxLocals = 1 := hml0
  have hown : s.vm.findClass "com/example/libxform/libxform/output/QualifiedNames" = some m.cls := findClass_of_methodNamed Bd.named
  have hnm := (name_of_methodNamed Bd.named Bd.method).1
  have hlk : meth.locks = false := BodyLoose.notSynchronized Bd
  have X0 : Stand p l e ({ frames := 0, cells := 0, slots := 0, locals := 0 } : Room) s m #[(.int p1)] below meth c s₁ [] 0 0 := Stand.of_body Bd
  have e0 : s₁.heap = h0 := by rw [← hh, Bd.state]; rfl
  have P0 : ∀ t, Steps p.tables e below (s₁.setTop (mkF m 0 #[.val (.int p1)] [])) t → Steps p.tables e below (s₁.setTop (entryFrame m #[(.int p1)] 1)) t := fun t kt => castTop (ef_N m p1) kt
  have B179 : ∀ t, Steps p.tables e below (s₁.setTop (mkF m 196 #[.val (.int p1)] [(.int (fN_179 p1))])) t → Steps p.tables e below (s₁.setTop (mkF m 179 #[.val (.int p1)] [])) t := by
    intro t kt
    show Steps p.tables e below (s₁.setTop (mkF m 179 #[.val (.int p1)] [])) _
    refine XS.iloadN X0.here hx rfl (hb hby dN_179) rfl ?_
    show Steps p.tables e below (s₁.setTop (mkF m 180 #[.val (.int p1)] [(.int p1)])) _
    refine X0.ldcInt hx hown (mvT hZ (hw _ (List.mem_of_getElem? (i := 10) rfl))) (g := (mkF m 180 #[.val (.int p1)] [(.int p1)])) rfl (hb hby dN_180) _ ?_
    by_cases hk179_0 : p1 < (65536 : Int32)
    · have ev : fN_179 p1 = (0 : Int32) := by unfold fN_179; rw [if_pos hk179_0]
      rw [ev] at kt
      show Steps p.tables e below (s₁.setTop (mkF m 182 #[.val (.int p1)] [(.int (65536 : Int32)), (.int p1)])) _
      refine XS.icmpYes X0.here hx rfl (pc0 := 182) (pc' := 195) rfl (hb hby dN_182) rfl (tlt hk179_0).1 (by decide) (by decide) ?_
      show Steps p.tables e below (s₁.setTop (mkF m 195 #[.val (.int p1)] [])) _
      refine XS.iconst X0.here hx rfl (hb hby dN_195) ?_
      exact kt
    · show Steps p.tables e below (s₁.setTop (mkF m 182 #[.val (.int p1)] [(.int (65536 : Int32)), (.int p1)])) _
      refine XS.icmpNo X0.here hx rfl (hb hby dN_182) rfl (flt hk179_0).1 ?_
      show Steps p.tables e below (s₁.setTop (mkF m 185 #[.val (.int p1)] [])) _
      refine XS.iloadN X0.here hx rfl (hb hby dN_185) rfl ?_
      show Steps p.tables e below (s₁.setTop (mkF m 186 #[.val (.int p1)] [(.int p1)])) _
      refine X0.ldcInt hx hown (mvT hZ (hw _ (List.mem_of_getElem? (i := 19) rfl))) (g := (mkF m 186 #[.val (.int p1)] [(.int p1)])) rfl (hb hby dN_186) _ ?_
      by_cases hk179_1 : (983039 : Int32) < p1
      · have ev : fN_179 p1 = (0 : Int32) := by unfold fN_179; rw [if_neg hk179_0, if_pos hk179_1]
        rw [ev] at kt
        show Steps p.tables e below (s₁.setTop (mkF m 188 #[.val (.int p1)] [(.int (983039 : Int32)), (.int p1)])) _
        refine XS.icmpYes X0.here hx rfl (pc0 := 188) (pc' := 195) rfl (hb hby dN_188) rfl (tlt hk179_1).2.2.1 (by decide) (by decide) ?_
        show Steps p.tables e below (s₁.setTop (mkF m 195 #[.val (.int p1)] [])) _
        refine XS.iconst X0.here hx rfl (hb hby dN_195) ?_
        exact kt
      · have ev : fN_179 p1 = (1 : Int32) := by unfold fN_179; rw [if_neg hk179_0, if_neg hk179_1]
        rw [ev] at kt
        show Steps p.tables e below (s₁.setTop (mkF m 188 #[.val (.int p1)] [(.int (983039 : Int32)), (.int p1)])) _
        refine XS.icmpNo X0.here hx rfl (hb hby dN_188) rfl (flt hk179_1).2.2.1 ?_
        show Steps p.tables e below (s₁.setTop (mkF m 191 #[.val (.int p1)] [])) _
        refine XS.iconst X0.here hx rfl (hb hby dN_191) ?_
        show Steps p.tables e below (s₁.setTop (mkF m 192 #[.val (.int p1)] [(.int (1 : Int32))])) _
        refine XS.goto X0.here hx rfl (pc0 := 192) (pc' := 196) rfl (hb hby dN_192) (by decide) (by decide) ?_
        exact kt
  have B167 : ∀ t, Steps p.tables e below (s₁.setTop (mkF m 196 #[.val (.int p1)] [(.int (fN_167 p1))])) t → Steps p.tables e below (s₁.setTop (mkF m 167 #[.val (.int p1)] [])) t := by
    intro t kt
    show Steps p.tables e below (s₁.setTop (mkF m 167 #[.val (.int p1)] [])) _
    refine XS.iloadN X0.here hx rfl (hb hby dN_167) rfl ?_
    show Steps p.tables e below (s₁.setTop (mkF m 168 #[.val (.int p1)] [(.int p1)])) _
    refine X0.ldcInt hx hown (mvT hZ (hw _ (List.mem_of_getElem? (i := 9) rfl))) (g := (mkF m 168 #[.val (.int p1)] [(.int p1)])) rfl (hb hby dN_168) _ ?_
    by_cases hk167_0 : p1 < (65008 : Int32)
    · have ev : fN_167 p1 = fN_179 p1 := by unfold fN_167; rw [if_pos hk167_0]
      rw [ev] at kt
      show Steps p.tables e below (s₁.setTop (mkF m 170 #[.val (.int p1)] [(.int (65008 : Int32)), (.int p1)])) _
      refine XS.icmpYes X0.here hx rfl (pc0 := 170) (pc' := 179) rfl (hb hby dN_170) rfl (tlt hk167_0).1 (by decide) (by decide) ?_
      exact B179 t kt
    · show Steps p.tables e below (s₁.setTop (mkF m 170 #[.val (.int p1)] [(.int (65008 : Int32)), (.int p1)])) _
      refine XS.icmpNo X0.here hx rfl (hb hby dN_170) rfl (flt hk167_0).1 ?_
      show Steps p.tables e below (s₁.setTop (mkF m 173 #[.val (.int p1)] [])) _
      refine XS.iloadN X0.here hx rfl (hb hby dN_173) rfl ?_
      show Steps p.tables e below (s₁.setTop (mkF m 174 #[.val (.int p1)] [(.int p1)])) _
      refine X0.ldcInt hx hown (mvT hZ (hw _ (List.mem_of_getElem? (i := 18) rfl))) (g := (mkF m 174 #[.val (.int p1)] [(.int p1)])) rfl (hb hby dN_174) _ ?_
      by_cases hk167_1 : (65533 : Int32) < p1
      · have ev : fN_167 p1 = fN_179 p1 := by unfold fN_167; rw [if_neg hk167_0, if_pos hk167_1]
        rw [ev] at kt
        show Steps p.tables e below (s₁.setTop (mkF m 176 #[.val (.int p1)] [(.int (65533 : Int32)), (.int p1)])) _
        refine XS.icmpNo X0.here hx rfl (hb hby dN_176) rfl (tlt hk167_1).2.2.2 ?_
        exact B179 t kt
      · have ev : fN_167 p1 = (1 : Int32) := by unfold fN_167; rw [if_neg hk167_0, if_neg hk167_1]
        rw [ev] at kt
        show Steps p.tables e below (s₁.setTop (mkF m 176 #[.val (.int p1)] [(.int (65533 : Int32)), (.int p1)])) _
        refine XS.icmpYes X0.here hx rfl (pc0 := 176) (pc' := 191) rfl (hb hby dN_176) rfl (flt hk167_1).2.2.2 (by decide) (by decide) ?_
        show Steps p.tables e below (s₁.setTop (mkF m 191 #[.val (.int p1)] [])) _
        refine XS.iconst X0.here hx rfl (hb hby dN_191) ?_
        show Steps p.tables e below (s₁.setTop (mkF m 192 #[.val (.int p1)] [(.int (1 : Int32))])) _
        refine XS.goto X0.here hx rfl (pc0 := 192) (pc' := 196) rfl (hb hby dN_192) (by decide) (by decide) ?_
        exact kt
  have B155 : ∀ t, Steps p.tables e below (s₁.setTop (mkF m 196 #[.val (.int p1)] [(.int (fN_155 p1))])) t → Steps p.tables e below (s₁.setTop (mkF m 155 #[.val (.int p1)] [])) t := by
    intro t kt
    show Steps p.tables e below (s₁.setTop (mkF m 155 #[.val (.int p1)] [])) _
    refine XS.iloadN X0.here hx rfl (hb hby dN_155) rfl ?_
    show Steps p.tables e below (s₁.setTop (mkF m 156 #[.val (.int p1)] [(.int p1)])) _
    refine X0.ldcInt hx hown (mvT hZ (hw _ (List.mem_of_getElem? (i := 8) rfl))) (g := (mkF m 156 #[.val (.int p1)] [(.int p1)])) rfl (hb hby dN_156) _ ?_
    by_cases hk155_0 : p1 < (63744 : Int32)
    · have ev : fN_155 p1 = fN_167 p1 := by unfold fN_155; rw [if_pos hk155_0]
      rw [ev] at kt
      show Steps p.tables e below (s₁.setTop (mkF m 158 #[.val (.int p1)] [(.int (63744 : Int32)), (.int p1)])) _
      refine XS.icmpYes X0.here hx rfl (pc0 := 158) (pc' := 167) rfl (hb hby dN_158) rfl (tlt hk155_0).1 (by decide) (by decide) ?_
      exact B167 t kt
    · show Steps p.tables e below (s₁.setTop (mkF m 158 #[.val (.int p1)] [(.int (63744 : Int32)), (.int p1)])) _
      refine XS.icmpNo X0.here hx rfl (hb hby dN_158) rfl (flt hk155_0).1 ?_
      show Steps p.tables e below (s₁.setTop (mkF m 161 #[.val (.int p1)] [])) _
      refine XS.iloadN X0.here hx rfl (hb hby dN_161) rfl ?_
      show Steps p.tables e below (s₁.setTop (mkF m 162 #[.val (.int p1)] [(.int p1)])) _
      refine X0.ldcInt hx hown (mvT hZ (hw _ (List.mem_of_getElem? (i := 17) rfl))) (g := (mkF m 162 #[.val (.int p1)] [(.int p1)])) rfl (hb hby dN_162) _ ?_
      by_cases hk155_1 : (64975 : Int32) < p1
      · have ev : fN_155 p1 = fN_167 p1 := by unfold fN_155; rw [if_neg hk155_0, if_pos hk155_1]
        rw [ev] at kt
        show Steps p.tables e below (s₁.setTop (mkF m 164 #[.val (.int p1)] [(.int (64975 : Int32)), (.int p1)])) _
        refine XS.icmpNo X0.here hx rfl (hb hby dN_164) rfl (tlt hk155_1).2.2.2 ?_
        exact B167 t kt
      · have ev : fN_155 p1 = (1 : Int32) := by unfold fN_155; rw [if_neg hk155_0, if_neg hk155_1]
        rw [ev] at kt
        show Steps p.tables e below (s₁.setTop (mkF m 164 #[.val (.int p1)] [(.int (64975 : Int32)), (.int p1)])) _
        refine XS.icmpYes X0.here hx rfl (pc0 := 164) (pc' := 191) rfl (hb hby dN_164) rfl (flt hk155_1).2.2.2 (by decide) (by decide) ?_
        show Steps p.tables e below (s₁.setTop (mkF m 191 #[.val (.int p1)] [])) _
        refine XS.iconst X0.here hx rfl (hb hby dN_191) ?_
        show Steps p.tables e below (s₁.setTop (mkF m 192 #[.val (.int p1)] [(.int (1 : Int32))])) _
        refine XS.goto X0.here hx rfl (pc0 := 192) (pc' := 196) rfl (hb hby dN_192) (by decide) (by decide) ?_
        exact kt
  have B142 : ∀ t, Steps p.tables e below (s₁.setTop (mkF m 196 #[.val (.int p1)] [(.int (fN_142 p1))])) t → Steps p.tables e below (s₁.setTop (mkF m 142 #[.val (.int p1)] [])) t := by
    intro t kt
    show Steps p.tables e below (s₁.setTop (mkF m 142 #[.val (.int p1)] [])) _
    refine XS.iloadN X0.here hx rfl (hb hby dN_142) rfl ?_
    show Steps p.tables e below (s₁.setTop (mkF m 143 #[.val (.int p1)] [(.int p1)])) _
    refine XS.sipush X0.here hx rfl (hb hby dN_143) ?_
    by_cases hk142_0 : p1 < (12289 : Int32)
    · have ev : fN_142 p1 = fN_155 p1 := by unfold fN_142; rw [if_pos hk142_0]
      rw [ev] at kt
      show Steps p.tables e below (s₁.setTop (mkF m 146 #[.val (.int p1)] [(.int (12289 : Int32)), (.int p1)])) _
      refine XS.icmpYes X0.here hx rfl (pc0 := 146) (pc' := 155) rfl (hb hby dN_146) rfl (tlt hk142_0).1 (by decide) (by decide) ?_
      exact B155 t kt
    · show Steps p.tables e below (s₁.setTop (mkF m 146 #[.val (.int p1)] [(.int (12289 : Int32)), (.int p1)])) _
      refine XS.icmpNo X0.here hx rfl (hb hby dN_146) rfl (flt hk142_0).1 ?_
      show Steps p.tables e below (s₁.setTop (mkF m 149 #[.val (.int p1)] [])) _
      refine XS.iloadN X0.here hx rfl (hb hby dN_149) rfl ?_
      show Steps p.tables e below (s₁.setTop (mkF m 150 #[.val (.int p1)] [(.int p1)])) _
      refine X0.ldcInt hx hown (mvT hZ (hw _ (List.mem_of_getElem? (i := 16) rfl))) (g := (mkF m 150 #[.val (.int p1)] [(.int p1)])) rfl (hb hby dN_150) _ ?_
      by_cases hk142_1 : (55295 : Int32) < p1
      · have ev : fN_142 p1 = fN_155 p1 := by unfold fN_142; rw [if_neg hk142_0, if_pos hk142_1]
        rw [ev] at kt
        show Steps p.tables e below (s₁.setTop (mkF m 152 #[.val (.int p1)] [(.int (55295 : Int32)), (.int p1)])) _
        refine XS.icmpNo X0.here hx rfl (hb hby dN_152) rfl (tlt hk142_1).2.2.2 ?_
        exact B155 t kt
      · have ev : fN_142 p1 = (1 : Int32) := by unfold fN_142; rw [if_neg hk142_0, if_neg hk142_1]
        rw [ev] at kt
        show Steps p.tables e below (s₁.setTop (mkF m 152 #[.val (.int p1)] [(.int (55295 : Int32)), (.int p1)])) _
        refine XS.icmpYes X0.here hx rfl (pc0 := 152) (pc' := 191) rfl (hb hby dN_152) rfl (flt hk142_1).2.2.2 (by decide) (by decide) ?_
        show Steps p.tables e below (s₁.setTop (mkF m 191 #[.val (.int p1)] [])) _
        refine XS.iconst X0.here hx rfl (hb hby dN_191) ?_
        show Steps p.tables e below (s₁.setTop (mkF m 192 #[.val (.int p1)] [(.int (1 : Int32))])) _
        refine XS.goto X0.here hx rfl (pc0 := 192) (pc' := 196) rfl (hb hby dN_192) (by decide) (by decide) ?_
        exact kt
  have B128 : ∀ t, Steps p.tables e below (s₁.setTop (mkF m 196 #[.val (.int p1)] [(.int (fN_128 p1))])) t → Steps p.tables e below (s₁.setTop (mkF m 128 #[.val (.int p1)] [])) t := by
    intro t kt
    show Steps p.tables e below (s₁.setTop (mkF m 128 #[.val (.int p1)] [])) _
    refine XS.iloadN X0.here hx rfl (hb hby dN_128) rfl ?_
    show Steps p.tables e below (s₁.setTop (mkF m 129 #[.val (.int p1)] [(.int p1)])) _
    refine XS.sipush X0.here hx rfl (hb hby dN_129) ?_
    by_cases hk128_0 : p1 < (11264 : Int32)
    · have ev : fN_128 p1 = fN_142 p1 := by unfold fN_128; rw [if_pos hk128_0]
      rw [ev] at kt
      show Steps p.tables e below (s₁.setTop (mkF m 132 #[.val (.int p1)] [(.int (11264 : Int32)), (.int p1)])) _
      refine XS.icmpYes X0.here hx rfl (pc0 := 132) (pc' := 142) rfl (hb hby dN_132) rfl (tlt hk128_0).1 (by decide) (by decide) ?_
      exact B142 t kt
    · show Steps p.tables e below (s₁.setTop (mkF m 132 #[.val (.int p1)] [(.int (11264 : Int32)), (.int p1)])) _
      refine XS.icmpNo X0.here hx rfl (hb hby dN_132) rfl (flt hk128_0).1 ?_
      show Steps p.tables e below (s₁.setTop (mkF m 135 #[.val (.int p1)] [])) _
      refine XS.iloadN X0.here hx rfl (hb hby dN_135) rfl ?_
      show Steps p.tables e below (s₁.setTop (mkF m 136 #[.val (.int p1)] [(.int p1)])) _
      refine XS.sipush X0.here hx rfl (hb hby dN_136) ?_
      by_cases hk128_1 : (12271 : Int32) < p1
      · have ev : fN_128 p1 = fN_142 p1 := by unfold fN_128; rw [if_neg hk128_0, if_pos hk128_1]
        rw [ev] at kt
        show Steps p.tables e below (s₁.setTop (mkF m 139 #[.val (.int p1)] [(.int (12271 : Int32)), (.int p1)])) _
        refine XS.icmpNo X0.here hx rfl (hb hby dN_139) rfl (tlt hk128_1).2.2.2 ?_
        exact B142 t kt
      · have ev : fN_128 p1 = (1 : Int32) := by unfold fN_128; rw [if_neg hk128_0, if_neg hk128_1]
        rw [ev] at kt
        show Steps p.tables e below (s₁.setTop (mkF m 139 #[.val (.int p1)] [(.int (12271 : Int32)), (.int p1)])) _
        refine XS.icmpYes X0.here hx rfl (pc0 := 139) (pc' := 191) rfl (hb hby dN_139) rfl (flt hk128_1).2.2.2 (by decide) (by decide) ?_
        show Steps p.tables e below (s₁.setTop (mkF m 191 #[.val (.int p1)] [])) _
        refine XS.iconst X0.here hx rfl (hb hby dN_191) ?_
        show Steps p.tables e below (s₁.setTop (mkF m 192 #[.val (.int p1)] [(.int (1 : Int32))])) _
        refine XS.goto X0.here hx rfl (pc0 := 192) (pc' := 196) rfl (hb hby dN_192) (by decide) (by decide) ?_
        exact kt
  have B114 : ∀ t, Steps p.tables e below (s₁.setTop (mkF m 196 #[.val (.int p1)] [(.int (fN_114 p1))])) t → Steps p.tables e below (s₁.setTop (mkF m 114 #[.val (.int p1)] [])) t := by
    intro t kt
    show Steps p.tables e below (s₁.setTop (mkF m 114 #[.val (.int p1)] [])) _
    refine XS.iloadN X0.here hx rfl (hb hby dN_114) rfl ?_
    show Steps p.tables e below (s₁.setTop (mkF m 115 #[.val (.int p1)] [(.int p1)])) _
    refine XS.sipush X0.here hx rfl (hb hby dN_115) ?_
    by_cases hk114_0 : p1 < (8304 : Int32)
    · have ev : fN_114 p1 = fN_128 p1 := by unfold fN_114; rw [if_pos hk114_0]
      rw [ev] at kt
      show Steps p.tables e below (s₁.setTop (mkF m 118 #[.val (.int p1)] [(.int (8304 : Int32)), (.int p1)])) _
      refine XS.icmpYes X0.here hx rfl (pc0 := 118) (pc' := 128) rfl (hb hby dN_118) rfl (tlt hk114_0).1 (by decide) (by decide) ?_
      exact B128 t kt
    · show Steps p.tables e below (s₁.setTop (mkF m 118 #[.val (.int p1)] [(.int (8304 : Int32)), (.int p1)])) _
      refine XS.icmpNo X0.here hx rfl (hb hby dN_118) rfl (flt hk114_0).1 ?_
      show Steps p.tables e below (s₁.setTop (mkF m 121 #[.val (.int p1)] [])) _
      refine XS.iloadN X0.here hx rfl (hb hby dN_121) rfl ?_
      show Steps p.tables e below (s₁.setTop (mkF m 122 #[.val (.int p1)] [(.int p1)])) _
      refine XS.sipush X0.here hx rfl (hb hby dN_122) ?_
      by_cases hk114_1 : (8591 : Int32) < p1
      · have ev : fN_114 p1 = fN_128 p1 := by unfold fN_114; rw [if_neg hk114_0, if_pos hk114_1]
        rw [ev] at kt
        show Steps p.tables e below (s₁.setTop (mkF m 125 #[.val (.int p1)] [(.int (8591 : Int32)), (.int p1)])) _
        refine XS.icmpNo X0.here hx rfl (hb hby dN_125) rfl (tlt hk114_1).2.2.2 ?_
        exact B128 t kt
      · have ev : fN_114 p1 = (1 : Int32) := by unfold fN_114; rw [if_neg hk114_0, if_neg hk114_1]
        rw [ev] at kt
        show Steps p.tables e below (s₁.setTop (mkF m 125 #[.val (.int p1)] [(.int (8591 : Int32)), (.int p1)])) _
        refine XS.icmpYes X0.here hx rfl (pc0 := 125) (pc' := 191) rfl (hb hby dN_125) rfl (flt hk114_1).2.2.2 (by decide) (by decide) ?_
        show Steps p.tables e below (s₁.setTop (mkF m 191 #[.val (.int p1)] [])) _
        refine XS.iconst X0.here hx rfl (hb hby dN_191) ?_
        show Steps p.tables e below (s₁.setTop (mkF m 192 #[.val (.int p1)] [(.int (1 : Int32))])) _
        refine XS.goto X0.here hx rfl (pc0 := 192) (pc' := 196) rfl (hb hby dN_192) (by decide) (by decide) ?_
        exact kt
  have B100 : ∀ t, Steps p.tables e below (s₁.setTop (mkF m 196 #[.val (.int p1)] [(.int (fN_100 p1))])) t → Steps p.tables e below (s₁.setTop (mkF m 100 #[.val (.int p1)] [])) t := by
    intro t kt
    show Steps p.tables e below (s₁.setTop (mkF m 100 #[.val (.int p1)] [])) _
    refine XS.iloadN X0.here hx rfl (hb hby dN_100) rfl ?_
    show Steps p.tables e below (s₁.setTop (mkF m 101 #[.val (.int p1)] [(.int p1)])) _
    refine XS.sipush X0.here hx rfl (hb hby dN_101) ?_
    by_cases hk100_0 : p1 < (8204 : Int32)
    · have ev : fN_100 p1 = fN_114 p1 := by unfold fN_100; rw [if_pos hk100_0]
      rw [ev] at kt
      show Steps p.tables e below (s₁.setTop (mkF m 104 #[.val (.int p1)] [(.int (8204 : Int32)), (.int p1)])) _
      refine XS.icmpYes X0.here hx rfl (pc0 := 104) (pc' := 114) rfl (hb hby dN_104) rfl (tlt hk100_0).1 (by decide) (by decide) ?_
      exact B114 t kt
    · show Steps p.tables e below (s₁.setTop (mkF m 104 #[.val (.int p1)] [(.int (8204 : Int32)), (.int p1)])) _
      refine XS.icmpNo X0.here hx rfl (hb hby dN_104) rfl (flt hk100_0).1 ?_
      show Steps p.tables e below (s₁.setTop (mkF m 107 #[.val (.int p1)] [])) _
      refine XS.iloadN X0.here hx rfl (hb hby dN_107) rfl ?_
      show Steps p.tables e below (s₁.setTop (mkF m 108 #[.val (.int p1)] [(.int p1)])) _
      refine XS.sipush X0.here hx rfl (hb hby dN_108) ?_
      by_cases hk100_1 : (8205 : Int32) < p1
      · have ev : fN_100 p1 = fN_114 p1 := by unfold fN_100; rw [if_neg hk100_0, if_pos hk100_1]
        rw [ev] at kt
        show Steps p.tables e below (s₁.setTop (mkF m 111 #[.val (.int p1)] [(.int (8205 : Int32)), (.int p1)])) _
        refine XS.icmpNo X0.here hx rfl (hb hby dN_111) rfl (tlt hk100_1).2.2.2 ?_
        exact B114 t kt
      · have ev : fN_100 p1 = (1 : Int32) := by unfold fN_100; rw [if_neg hk100_0, if_neg hk100_1]
        rw [ev] at kt
        show Steps p.tables e below (s₁.setTop (mkF m 111 #[.val (.int p1)] [(.int (8205 : Int32)), (.int p1)])) _
        refine XS.icmpYes X0.here hx rfl (pc0 := 111) (pc' := 191) rfl (hb hby dN_111) rfl (flt hk100_1).2.2.2 (by decide) (by decide) ?_
        show Steps p.tables e below (s₁.setTop (mkF m 191 #[.val (.int p1)] [])) _
        refine XS.iconst X0.here hx rfl (hb hby dN_191) ?_
        show Steps p.tables e below (s₁.setTop (mkF m 192 #[.val (.int p1)] [(.int (1 : Int32))])) _
        refine XS.goto X0.here hx rfl (pc0 := 192) (pc' := 196) rfl (hb hby dN_192) (by decide) (by decide) ?_
        exact kt
  have B86 : ∀ t, Steps p.tables e below (s₁.setTop (mkF m 196 #[.val (.int p1)] [(.int (fN_86 p1))])) t → Steps p.tables e below (s₁.setTop (mkF m 86 #[.val (.int p1)] [])) t := by
    intro t kt
    show Steps p.tables e below (s₁.setTop (mkF m 86 #[.val (.int p1)] [])) _
    refine XS.iloadN X0.here hx rfl (hb hby dN_86) rfl ?_
    show Steps p.tables e below (s₁.setTop (mkF m 87 #[.val (.int p1)] [(.int p1)])) _
    refine XS.sipush X0.here hx rfl (hb hby dN_87) ?_
    by_cases hk86_0 : p1 < (895 : Int32)
    · have ev : fN_86 p1 = fN_100 p1 := by unfold fN_86; rw [if_pos hk86_0]
      rw [ev] at kt
      show Steps p.tables e below (s₁.setTop (mkF m 90 #[.val (.int p1)] [(.int (895 : Int32)), (.int p1)])) _
      refine XS.icmpYes X0.here hx rfl (pc0 := 90) (pc' := 100) rfl (hb hby dN_90) rfl (tlt hk86_0).1 (by decide) (by decide) ?_
      exact B100 t kt
    · show Steps p.tables e below (s₁.setTop (mkF m 90 #[.val (.int p1)] [(.int (895 : Int32)), (.int p1)])) _
      refine XS.icmpNo X0.here hx rfl (hb hby dN_90) rfl (flt hk86_0).1 ?_
      show Steps p.tables e below (s₁.setTop (mkF m 93 #[.val (.int p1)] [])) _
      refine XS.iloadN X0.here hx rfl (hb hby dN_93) rfl ?_
      show Steps p.tables e below (s₁.setTop (mkF m 94 #[.val (.int p1)] [(.int p1)])) _
      refine XS.sipush X0.here hx rfl (hb hby dN_94) ?_
      by_cases hk86_1 : (8191 : Int32) < p1
      · have ev : fN_86 p1 = fN_100 p1 := by unfold fN_86; rw [if_neg hk86_0, if_pos hk86_1]
        rw [ev] at kt
        show Steps p.tables e below (s₁.setTop (mkF m 97 #[.val (.int p1)] [(.int (8191 : Int32)), (.int p1)])) _
        refine XS.icmpNo X0.here hx rfl (hb hby dN_97) rfl (tlt hk86_1).2.2.2 ?_
        exact B100 t kt
      · have ev : fN_86 p1 = (1 : Int32) := by unfold fN_86; rw [if_neg hk86_0, if_neg hk86_1]
        rw [ev] at kt
        show Steps p.tables e below (s₁.setTop (mkF m 97 #[.val (.int p1)] [(.int (8191 : Int32)), (.int p1)])) _
        refine XS.icmpYes X0.here hx rfl (pc0 := 97) (pc' := 191) rfl (hb hby dN_97) rfl (flt hk86_1).2.2.2 (by decide) (by decide) ?_
        show Steps p.tables e below (s₁.setTop (mkF m 191 #[.val (.int p1)] [])) _
        refine XS.iconst X0.here hx rfl (hb hby dN_191) ?_
        show Steps p.tables e below (s₁.setTop (mkF m 192 #[.val (.int p1)] [(.int (1 : Int32))])) _
        refine XS.goto X0.here hx rfl (pc0 := 192) (pc' := 196) rfl (hb hby dN_192) (by decide) (by decide) ?_
        exact kt
  have B72 : ∀ t, Steps p.tables e below (s₁.setTop (mkF m 196 #[.val (.int p1)] [(.int (fN_72 p1))])) t → Steps p.tables e below (s₁.setTop (mkF m 72 #[.val (.int p1)] [])) t := by
    intro t kt
    show Steps p.tables e below (s₁.setTop (mkF m 72 #[.val (.int p1)] [])) _
    refine XS.iloadN X0.here hx rfl (hb hby dN_72) rfl ?_
    show Steps p.tables e below (s₁.setTop (mkF m 73 #[.val (.int p1)] [(.int p1)])) _
    refine XS.sipush X0.here hx rfl (hb hby dN_73) ?_
    by_cases hk72_0 : p1 < (880 : Int32)
    · have ev : fN_72 p1 = fN_86 p1 := by unfold fN_72; rw [if_pos hk72_0]
      rw [ev] at kt
      show Steps p.tables e below (s₁.setTop (mkF m 76 #[.val (.int p1)] [(.int (880 : Int32)), (.int p1)])) _
      refine XS.icmpYes X0.here hx rfl (pc0 := 76) (pc' := 86) rfl (hb hby dN_76) rfl (tlt hk72_0).1 (by decide) (by decide) ?_
      exact B86 t kt
    · show Steps p.tables e below (s₁.setTop (mkF m 76 #[.val (.int p1)] [(.int (880 : Int32)), (.int p1)])) _
      refine XS.icmpNo X0.here hx rfl (hb hby dN_76) rfl (flt hk72_0).1 ?_
      show Steps p.tables e below (s₁.setTop (mkF m 79 #[.val (.int p1)] [])) _
      refine XS.iloadN X0.here hx rfl (hb hby dN_79) rfl ?_
      show Steps p.tables e below (s₁.setTop (mkF m 80 #[.val (.int p1)] [(.int p1)])) _
      refine XS.sipush X0.here hx rfl (hb hby dN_80) ?_
      by_cases hk72_1 : (893 : Int32) < p1
      · have ev : fN_72 p1 = fN_86 p1 := by unfold fN_72; rw [if_neg hk72_0, if_pos hk72_1]
        rw [ev] at kt
        show Steps p.tables e below (s₁.setTop (mkF m 83 #[.val (.int p1)] [(.int (893 : Int32)), (.int p1)])) _
        refine XS.icmpNo X0.here hx rfl (hb hby dN_83) rfl (tlt hk72_1).2.2.2 ?_
        exact B86 t kt
      · have ev : fN_72 p1 = (1 : Int32) := by unfold fN_72; rw [if_neg hk72_0, if_neg hk72_1]
        rw [ev] at kt
        show Steps p.tables e below (s₁.setTop (mkF m 83 #[.val (.int p1)] [(.int (893 : Int32)), (.int p1)])) _
        refine XS.icmpYes X0.here hx rfl (pc0 := 83) (pc' := 191) rfl (hb hby dN_83) rfl (flt hk72_1).2.2.2 (by decide) (by decide) ?_
        show Steps p.tables e below (s₁.setTop (mkF m 191 #[.val (.int p1)] [])) _
        refine XS.iconst X0.here hx rfl (hb hby dN_191) ?_
        show Steps p.tables e below (s₁.setTop (mkF m 192 #[.val (.int p1)] [(.int (1 : Int32))])) _
        refine XS.goto X0.here hx rfl (pc0 := 192) (pc' := 196) rfl (hb hby dN_192) (by decide) (by decide) ?_
        exact kt
  have B58 : ∀ t, Steps p.tables e below (s₁.setTop (mkF m 196 #[.val (.int p1)] [(.int (fN_58 p1))])) t → Steps p.tables e below (s₁.setTop (mkF m 58 #[.val (.int p1)] [])) t := by
    intro t kt
    show Steps p.tables e below (s₁.setTop (mkF m 58 #[.val (.int p1)] [])) _
    refine XS.iloadN X0.here hx rfl (hb hby dN_58) rfl ?_
    show Steps p.tables e below (s₁.setTop (mkF m 59 #[.val (.int p1)] [(.int p1)])) _
    refine XS.sipush X0.here hx rfl (hb hby dN_59) ?_
    by_cases hk58_0 : p1 < (248 : Int32)
    · have ev : fN_58 p1 = fN_72 p1 := by unfold fN_58; rw [if_pos hk58_0]
      rw [ev] at kt
      show Steps p.tables e below (s₁.setTop (mkF m 62 #[.val (.int p1)] [(.int (248 : Int32)), (.int p1)])) _
      refine XS.icmpYes X0.here hx rfl (pc0 := 62) (pc' := 72) rfl (hb hby dN_62) rfl (tlt hk58_0).1 (by decide) (by decide) ?_
      exact B72 t kt
    · show Steps p.tables e below (s₁.setTop (mkF m 62 #[.val (.int p1)] [(.int (248 : Int32)), (.int p1)])) _
      refine XS.icmpNo X0.here hx rfl (hb hby dN_62) rfl (flt hk58_0).1 ?_
      show Steps p.tables e below (s₁.setTop (mkF m 65 #[.val (.int p1)] [])) _
      refine XS.iloadN X0.here hx rfl (hb hby dN_65) rfl ?_
      show Steps p.tables e below (s₁.setTop (mkF m 66 #[.val (.int p1)] [(.int p1)])) _
      refine XS.sipush X0.here hx rfl (hb hby dN_66) ?_
      by_cases hk58_1 : (767 : Int32) < p1
      · have ev : fN_58 p1 = fN_72 p1 := by unfold fN_58; rw [if_neg hk58_0, if_pos hk58_1]
        rw [ev] at kt
        show Steps p.tables e below (s₁.setTop (mkF m 69 #[.val (.int p1)] [(.int (767 : Int32)), (.int p1)])) _
        refine XS.icmpNo X0.here hx rfl (hb hby dN_69) rfl (tlt hk58_1).2.2.2 ?_
        exact B72 t kt
      · have ev : fN_58 p1 = (1 : Int32) := by unfold fN_58; rw [if_neg hk58_0, if_neg hk58_1]
        rw [ev] at kt
        show Steps p.tables e below (s₁.setTop (mkF m 69 #[.val (.int p1)] [(.int (767 : Int32)), (.int p1)])) _
        refine XS.icmpYes X0.here hx rfl (pc0 := 69) (pc' := 191) rfl (hb hby dN_69) rfl (flt hk58_1).2.2.2 (by decide) (by decide) ?_
        show Steps p.tables e below (s₁.setTop (mkF m 191 #[.val (.int p1)] [])) _
        refine XS.iconst X0.here hx rfl (hb hby dN_191) ?_
        show Steps p.tables e below (s₁.setTop (mkF m 192 #[.val (.int p1)] [(.int (1 : Int32))])) _
        refine XS.goto X0.here hx rfl (pc0 := 192) (pc' := 196) rfl (hb hby dN_192) (by decide) (by decide) ?_
        exact kt
  have B44 : ∀ t, Steps p.tables e below (s₁.setTop (mkF m 196 #[.val (.int p1)] [(.int (fN_44 p1))])) t → Steps p.tables e below (s₁.setTop (mkF m 44 #[.val (.int p1)] [])) t := by
    intro t kt
    show Steps p.tables e below (s₁.setTop (mkF m 44 #[.val (.int p1)] [])) _
    refine XS.iloadN X0.here hx rfl (hb hby dN_44) rfl ?_
    show Steps p.tables e below (s₁.setTop (mkF m 45 #[.val (.int p1)] [(.int p1)])) _
    refine XS.sipush X0.here hx rfl (hb hby dN_45) ?_
    by_cases hk44_0 : p1 < (216 : Int32)
    · have ev : fN_44 p1 = fN_58 p1 := by unfold fN_44; rw [if_pos hk44_0]
      rw [ev] at kt
      show Steps p.tables e below (s₁.setTop (mkF m 48 #[.val (.int p1)] [(.int (216 : Int32)), (.int p1)])) _
      refine XS.icmpYes X0.here hx rfl (pc0 := 48) (pc' := 58) rfl (hb hby dN_48) rfl (tlt hk44_0).1 (by decide) (by decide) ?_
      exact B58 t kt
    · show Steps p.tables e below (s₁.setTop (mkF m 48 #[.val (.int p1)] [(.int (216 : Int32)), (.int p1)])) _
      refine XS.icmpNo X0.here hx rfl (hb hby dN_48) rfl (flt hk44_0).1 ?_
      show Steps p.tables e below (s₁.setTop (mkF m 51 #[.val (.int p1)] [])) _
      refine XS.iloadN X0.here hx rfl (hb hby dN_51) rfl ?_
      show Steps p.tables e below (s₁.setTop (mkF m 52 #[.val (.int p1)] [(.int p1)])) _
      refine XS.sipush X0.here hx rfl (hb hby dN_52) ?_
      by_cases hk44_1 : (246 : Int32) < p1
      · have ev : fN_44 p1 = fN_58 p1 := by unfold fN_44; rw [if_neg hk44_0, if_pos hk44_1]
        rw [ev] at kt
        show Steps p.tables e below (s₁.setTop (mkF m 55 #[.val (.int p1)] [(.int (246 : Int32)), (.int p1)])) _
        refine XS.icmpNo X0.here hx rfl (hb hby dN_55) rfl (tlt hk44_1).2.2.2 ?_
        exact B58 t kt
      · have ev : fN_44 p1 = (1 : Int32) := by unfold fN_44; rw [if_neg hk44_0, if_neg hk44_1]
        rw [ev] at kt
        show Steps p.tables e below (s₁.setTop (mkF m 55 #[.val (.int p1)] [(.int (246 : Int32)), (.int p1)])) _
        refine XS.icmpYes X0.here hx rfl (pc0 := 55) (pc' := 191) rfl (hb hby dN_55) rfl (flt hk44_1).2.2.2 (by decide) (by decide) ?_
        show Steps p.tables e below (s₁.setTop (mkF m 191 #[.val (.int p1)] [])) _
        refine XS.iconst X0.here hx rfl (hb hby dN_191) ?_
        show Steps p.tables e below (s₁.setTop (mkF m 192 #[.val (.int p1)] [(.int (1 : Int32))])) _
        refine XS.goto X0.here hx rfl (pc0 := 192) (pc' := 196) rfl (hb hby dN_192) (by decide) (by decide) ?_
        exact kt
  have B24 : ∀ t, Steps p.tables e below (s₁.setTop (mkF m 196 #[.val (.int p1)] [(.int (fN_24 p1))])) t → Steps p.tables e below (s₁.setTop (mkF m 24 #[.val (.int p1)] [])) t := by
    intro t kt
    show Steps p.tables e below (s₁.setTop (mkF m 24 #[.val (.int p1)] [])) _
    refine XS.iloadN X0.here hx rfl (hb hby dN_24) rfl ?_
    show Steps p.tables e below (s₁.setTop (mkF m 25 #[.val (.int p1)] [(.int p1)])) _
    refine XS.bipush X0.here hx rfl (hb hby dN_25) ?_
    by_cases hk24_0 : p1 = (95 : Int32)
    · have ev : fN_24 p1 = (1 : Int32) := by unfold fN_24; rw [if_pos hk24_0]
      rw [ev] at kt
      show Steps p.tables e below (s₁.setTop (mkF m 27 #[.val (.int p1)] [(.int (95 : Int32)), (.int p1)])) _
      refine XS.icmpYes X0.here hx rfl (pc0 := 27) (pc' := 191) rfl (hb hby dN_27) rfl (teq hk24_0).1 (by decide) (by decide) ?_
      show Steps p.tables e below (s₁.setTop (mkF m 191 #[.val (.int p1)] [])) _
      refine XS.iconst X0.here hx rfl (hb hby dN_191) ?_
      show Steps p.tables e below (s₁.setTop (mkF m 192 #[.val (.int p1)] [(.int (1 : Int32))])) _
      refine XS.goto X0.here hx rfl (pc0 := 192) (pc' := 196) rfl (hb hby dN_192) (by decide) (by decide) ?_
      exact kt
    · show Steps p.tables e below (s₁.setTop (mkF m 27 #[.val (.int p1)] [(.int (95 : Int32)), (.int p1)])) _
      refine XS.icmpNo X0.here hx rfl (hb hby dN_27) rfl (feq hk24_0).1 ?_
      show Steps p.tables e below (s₁.setTop (mkF m 30 #[.val (.int p1)] [])) _
      refine XS.iloadN X0.here hx rfl (hb hby dN_30) rfl ?_
      show Steps p.tables e below (s₁.setTop (mkF m 31 #[.val (.int p1)] [(.int p1)])) _
      refine XS.sipush X0.here hx rfl (hb hby dN_31) ?_
      by_cases hk24_1 : p1 < (192 : Int32)
      · have ev : fN_24 p1 = fN_44 p1 := by unfold fN_24; rw [if_neg hk24_0, if_pos hk24_1]
        rw [ev] at kt
        show Steps p.tables e below (s₁.setTop (mkF m 34 #[.val (.int p1)] [(.int (192 : Int32)), (.int p1)])) _
        refine XS.icmpYes X0.here hx rfl (pc0 := 34) (pc' := 44) rfl (hb hby dN_34) rfl (tlt hk24_1).1 (by decide) (by decide) ?_
        exact B44 t kt
      · show Steps p.tables e below (s₁.setTop (mkF m 34 #[.val (.int p1)] [(.int (192 : Int32)), (.int p1)])) _
        refine XS.icmpNo X0.here hx rfl (hb hby dN_34) rfl (flt hk24_1).1 ?_
        show Steps p.tables e below (s₁.setTop (mkF m 37 #[.val (.int p1)] [])) _
        refine XS.iloadN X0.here hx rfl (hb hby dN_37) rfl ?_
        show Steps p.tables e below (s₁.setTop (mkF m 38 #[.val (.int p1)] [(.int p1)])) _
        refine XS.sipush X0.here hx rfl (hb hby dN_38) ?_
        by_cases hk24_2 : (214 : Int32) < p1
        · have ev : fN_24 p1 = fN_44 p1 := by unfold fN_24; rw [if_neg hk24_0, if_neg hk24_1, if_pos hk24_2]
          rw [ev] at kt
          show Steps p.tables e below (s₁.setTop (mkF m 41 #[.val (.int p1)] [(.int (214 : Int32)), (.int p1)])) _
          refine XS.icmpNo X0.here hx rfl (hb hby dN_41) rfl (tlt hk24_2).2.2.2 ?_
          exact B44 t kt
        · have ev : fN_24 p1 = (1 : Int32) := by unfold fN_24; rw [if_neg hk24_0, if_neg hk24_1, if_neg hk24_2]
          rw [ev] at kt
          show Steps p.tables e below (s₁.setTop (mkF m 41 #[.val (.int p1)] [(.int (214 : Int32)), (.int p1)])) _
          refine XS.icmpYes X0.here hx rfl (pc0 := 41) (pc' := 191) rfl (hb hby dN_41) rfl (flt hk24_2).2.2.2 (by decide) (by decide) ?_
          show Steps p.tables e below (s₁.setTop (mkF m 191 #[.val (.int p1)] [])) _
          refine XS.iconst X0.here hx rfl (hb hby dN_191) ?_
          show Steps p.tables e below (s₁.setTop (mkF m 192 #[.val (.int p1)] [(.int (1 : Int32))])) _
          refine XS.goto X0.here hx rfl (pc0 := 192) (pc' := 196) rfl (hb hby dN_192) (by decide) (by decide) ?_
          exact kt
  have B12 : ∀ t, Steps p.tables e below (s₁.setTop (mkF m 196 #[.val (.int p1)] [(.int (fN_12 p1))])) t → Steps p.tables e below (s₁.setTop (mkF m 12 #[.val (.int p1)] [])) t := by
    intro t kt
    show Steps p.tables e below (s₁.setTop (mkF m 12 #[.val (.int p1)] [])) _
    refine XS.iloadN X0.here hx rfl (hb hby dN_12) rfl ?_
    show Steps p.tables e below (s₁.setTop (mkF m 13 #[.val (.int p1)] [(.int p1)])) _
    refine XS.bipush X0.here hx rfl (hb hby dN_13) ?_
    by_cases hk12_0 : p1 < (65 : Int32)
    · have ev : fN_12 p1 = fN_24 p1 := by unfold fN_12; rw [if_pos hk12_0]
      rw [ev] at kt
      show Steps p.tables e below (s₁.setTop (mkF m 15 #[.val (.int p1)] [(.int (65 : Int32)), (.int p1)])) _
      refine XS.icmpYes X0.here hx rfl (pc0 := 15) (pc' := 24) rfl (hb hby dN_15) rfl (tlt hk12_0).1 (by decide) (by decide) ?_
      exact B24 t kt
    · show Steps p.tables e below (s₁.setTop (mkF m 15 #[.val (.int p1)] [(.int (65 : Int32)), (.int p1)])) _
      refine XS.icmpNo X0.here hx rfl (hb hby dN_15) rfl (flt hk12_0).1 ?_
      show Steps p.tables e below (s₁.setTop (mkF m 18 #[.val (.int p1)] [])) _
      refine XS.iloadN X0.here hx rfl (hb hby dN_18) rfl ?_
      show Steps p.tables e below (s₁.setTop (mkF m 19 #[.val (.int p1)] [(.int p1)])) _
      refine XS.bipush X0.here hx rfl (hb hby dN_19) ?_
      by_cases hk12_1 : (90 : Int32) < p1
      · have ev : fN_12 p1 = fN_24 p1 := by unfold fN_12; rw [if_neg hk12_0, if_pos hk12_1]
        rw [ev] at kt
        show Steps p.tables e below (s₁.setTop (mkF m 21 #[.val (.int p1)] [(.int (90 : Int32)), (.int p1)])) _
        refine XS.icmpNo X0.here hx rfl (hb hby dN_21) rfl (tlt hk12_1).2.2.2 ?_
        exact B24 t kt
      · have ev : fN_12 p1 = (1 : Int32) := by unfold fN_12; rw [if_neg hk12_0, if_neg hk12_1]
        rw [ev] at kt
        show Steps p.tables e below (s₁.setTop (mkF m 21 #[.val (.int p1)] [(.int (90 : Int32)), (.int p1)])) _
        refine XS.icmpYes X0.here hx rfl (pc0 := 21) (pc' := 191) rfl (hb hby dN_21) rfl (flt hk12_1).2.2.2 (by decide) (by decide) ?_
        show Steps p.tables e below (s₁.setTop (mkF m 191 #[.val (.int p1)] [])) _
        refine XS.iconst X0.here hx rfl (hb hby dN_191) ?_
        show Steps p.tables e below (s₁.setTop (mkF m 192 #[.val (.int p1)] [(.int (1 : Int32))])) _
        refine XS.goto X0.here hx rfl (pc0 := 192) (pc' := 196) rfl (hb hby dN_192) (by decide) (by decide) ?_
        exact kt
  have B0 : ∀ t, Steps p.tables e below (s₁.setTop (mkF m 196 #[.val (.int p1)] [(.int (fN_0 p1))])) t → Steps p.tables e below (s₁.setTop (mkF m 0 #[.val (.int p1)] [])) t := by
    intro t kt
    show Steps p.tables e below (s₁.setTop (mkF m 0 #[.val (.int p1)] [])) _
    refine XS.iloadN X0.here hx rfl (hb hby dN_0) rfl ?_
    show Steps p.tables e below (s₁.setTop (mkF m 1 #[.val (.int p1)] [(.int p1)])) _
    refine XS.bipush X0.here hx rfl (hb hby dN_1) ?_
    by_cases hk0_0 : p1 < (97 : Int32)
    · have ev : fN_0 p1 = fN_12 p1 := by unfold fN_0; rw [if_pos hk0_0]
      rw [ev] at kt
      show Steps p.tables e below (s₁.setTop (mkF m 3 #[.val (.int p1)] [(.int (97 : Int32)), (.int p1)])) _
      refine XS.icmpYes X0.here hx rfl (pc0 := 3) (pc' := 12) rfl (hb hby dN_3) rfl (tlt hk0_0).1 (by decide) (by decide) ?_
      exact B12 t kt
    · show Steps p.tables e below (s₁.setTop (mkF m 3 #[.val (.int p1)] [(.int (97 : Int32)), (.int p1)])) _
      refine XS.icmpNo X0.here hx rfl (hb hby dN_3) rfl (flt hk0_0).1 ?_
      show Steps p.tables e below (s₁.setTop (mkF m 6 #[.val (.int p1)] [])) _
      refine XS.iloadN X0.here hx rfl (hb hby dN_6) rfl ?_
      show Steps p.tables e below (s₁.setTop (mkF m 7 #[.val (.int p1)] [(.int p1)])) _
      refine XS.bipush X0.here hx rfl (hb hby dN_7) ?_
      by_cases hk0_1 : (122 : Int32) < p1
      · have ev : fN_0 p1 = fN_12 p1 := by unfold fN_0; rw [if_neg hk0_0, if_pos hk0_1]
        rw [ev] at kt
        show Steps p.tables e below (s₁.setTop (mkF m 9 #[.val (.int p1)] [(.int (122 : Int32)), (.int p1)])) _
        refine XS.icmpNo X0.here hx rfl (hb hby dN_9) rfl (tlt hk0_1).2.2.2 ?_
        exact B12 t kt
      · have ev : fN_0 p1 = (1 : Int32) := by unfold fN_0; rw [if_neg hk0_0, if_neg hk0_1]
        rw [ev] at kt
        show Steps p.tables e below (s₁.setTop (mkF m 9 #[.val (.int p1)] [(.int (122 : Int32)), (.int p1)])) _
        refine XS.icmpYes X0.here hx rfl (pc0 := 9) (pc' := 191) rfl (hb hby dN_9) rfl (flt hk0_1).2.2.2 (by decide) (by decide) ?_
        show Steps p.tables e below (s₁.setTop (mkF m 191 #[.val (.int p1)] [])) _
        refine XS.iconst X0.here hx rfl (hb hby dN_191) ?_
        show Steps p.tables e below (s₁.setTop (mkF m 192 #[.val (.int p1)] [(.int (1 : Int32))])) _
        refine XS.goto X0.here hx rfl (pc0 := 192) (pc' := 196) rfl (hb hby dN_192) (by decide) (by decide) ?_
        exact kt
  have P101 : ∀ t, Steps p.tables e below (s₁.setTop (mkF m 196 #[.val (.int p1)] [(.int (fN_0 p1))])) t → Steps p.tables e below (s₁.setTop (entryFrame m #[(.int p1)] 1)) t := fun t kt => P0 t (B0 t kt)
  obtain ⟨fs, hr, hrun, hended, hW, hsame⟩ := X0.leave (v := some (.int (fN_0 p1))) (fun h => by rw [Bd.returns] at h; cases h) (hlocks := hlk)
  refine ⟨_, _, P101 _ ?_, hrun, hended, _, _, rfl, ?_, ⟨_, rfl⟩, hW, hsame.mono (by decide) (by decide)⟩
  · show Steps p.tables e below (s₁.setTop (mkF m 196 #[.val (.int p1)] [(.int (fN_0 p1))])) _
    exact retN X0 hx (t := .boolean) Bd.returns (by simp) (hb hby dN_196) (by rw [own_nar (fN_b0 p1)]; exact hr)
  · show QP _ h0 _ s₁.heap _
    exact ⟨rfl, rfl, e0⟩
theorem dE_0 : decode method_2_code 0 = .ok (.iload_n 0, 1) := by decide +kernel
theorem dE_1 : decode method_2_code 1 = .ok (.bipush 65, 2) := by decide +kernel
theorem dE_3 : decode method_2_code 3 = .ok (.if_icmp .ge 5, 3) := by decide +kernel
theorem dE_6 : decode method_2_code 6 = .ok (.iconst 0, 1) := by decide +kernel
theorem dE_7 : decode method_2_code 7 = .ok (.ireturn, 1) := by decide +kernel
theorem dE_8 : decode method_2_code 8 = .ok (.iload_n 0, 1) := by decide +kernel
theorem dE_9 : decode method_2_code 9 = .ok (.bipush 90, 2) := by decide +kernel
theorem dE_11 : decode method_2_code 11 = .ok (.if_icmp .gt 5, 3) := by decide +kernel
theorem dE_14 : decode method_2_code 14 = .ok (.iconst 1, 1) := by decide +kernel
theorem dE_15 : decode method_2_code 15 = .ok (.ireturn, 1) := by decide +kernel
theorem dE_16 : decode method_2_code 16 = .ok (.iload_n 0, 1) := by decide +kernel
theorem dE_17 : decode method_2_code 17 = .ok (.bipush 95, 2) := by decide +kernel
theorem dE_19 : decode method_2_code 19 = .ok (.if_icmp .ge 5, 3) := by decide +kernel
theorem dE_22 : decode method_2_code 22 = .ok (.iconst 0, 1) := by decide +kernel
theorem dE_23 : decode method_2_code 23 = .ok (.ireturn, 1) := by decide +kernel
theorem dE_24 : decode method_2_code 24 = .ok (.iload_n 0, 1) := by decide +kernel
theorem dE_25 : decode method_2_code 25 = .ok (.bipush 95, 2) := by decide +kernel
theorem dE_27 : decode method_2_code 27 = .ok (.if_icmp .ne 5, 3) := by decide +kernel
theorem dE_30 : decode method_2_code 30 = .ok (.iconst 1, 1) := by decide +kernel
theorem dE_31 : decode method_2_code 31 = .ok (.ireturn, 1) := by decide +kernel
theorem dE_32 : decode method_2_code 32 = .ok (.iload_n 0, 1) := by decide +kernel
theorem dE_33 : decode method_2_code 33 = .ok (.bipush 97, 2) := by decide +kernel
theorem dE_35 : decode method_2_code 35 = .ok (.if_icmp .ge 5, 3) := by decide +kernel
theorem dE_38 : decode method_2_code 38 = .ok (.iconst 0, 1) := by decide +kernel
theorem dE_39 : decode method_2_code 39 = .ok (.ireturn, 1) := by decide +kernel
theorem dE_40 : decode method_2_code 40 = .ok (.iload_n 0, 1) := by decide +kernel
theorem dE_41 : decode method_2_code 41 = .ok (.bipush 122, 2) := by decide +kernel
theorem dE_43 : decode method_2_code 43 = .ok (.if_icmp .gt 5, 3) := by decide +kernel
theorem dE_46 : decode method_2_code 46 = .ok (.iconst 1, 1) := by decide +kernel
theorem dE_47 : decode method_2_code 47 = .ok (.ireturn, 1) := by decide +kernel
theorem dE_48 : decode method_2_code 48 = .ok (.iload_n 0, 1) := by decide +kernel
theorem dE_49 : decode method_2_code 49 = .ok (.sipush 192, 3) := by decide +kernel
theorem dE_52 : decode method_2_code 52 = .ok (.if_icmp .ge 5, 3) := by decide +kernel
theorem dE_55 : decode method_2_code 55 = .ok (.iconst 0, 1) := by decide +kernel
theorem dE_56 : decode method_2_code 56 = .ok (.ireturn, 1) := by decide +kernel
theorem dE_57 : decode method_2_code 57 = .ok (.iload_n 0, 1) := by decide +kernel
theorem dE_58 : decode method_2_code 58 = .ok (.sipush 214, 3) := by decide +kernel
theorem dE_61 : decode method_2_code 61 = .ok (.if_icmp .gt 5, 3) := by decide +kernel
theorem dE_64 : decode method_2_code 64 = .ok (.iconst 1, 1) := by decide +kernel
theorem dE_65 : decode method_2_code 65 = .ok (.ireturn, 1) := by decide +kernel
theorem dE_66 : decode method_2_code 66 = .ok (.iload_n 0, 1) := by decide +kernel
theorem dE_67 : decode method_2_code 67 = .ok (.sipush 215, 3) := by decide +kernel
theorem dE_70 : decode method_2_code 70 = .ok (.if_icmp .ne 5, 3) := by decide +kernel
theorem dE_73 : decode method_2_code 73 = .ok (.iconst 0, 1) := by decide +kernel
theorem dE_74 : decode method_2_code 74 = .ok (.ireturn, 1) := by decide +kernel
theorem dE_75 : decode method_2_code 75 = .ok (.iload_n 0, 1) := by decide +kernel
theorem dE_76 : decode method_2_code 76 = .ok (.sipush 246, 3) := by decide +kernel
theorem dE_79 : decode method_2_code 79 = .ok (.if_icmp .gt 5, 3) := by decide +kernel
theorem dE_82 : decode method_2_code 82 = .ok (.iconst 1, 1) := by decide +kernel
theorem dE_83 : decode method_2_code 83 = .ok (.ireturn, 1) := by decide +kernel
theorem dE_84 : decode method_2_code 84 = .ok (.iload_n 0, 1) := by decide +kernel
theorem dE_85 : decode method_2_code 85 = .ok (.sipush 247, 3) := by decide +kernel
theorem dE_88 : decode method_2_code 88 = .ok (.if_icmp .ne 5, 3) := by decide +kernel
theorem dE_91 : decode method_2_code 91 = .ok (.iconst 0, 1) := by decide +kernel
theorem dE_92 : decode method_2_code 92 = .ok (.ireturn, 1) := by decide +kernel
theorem dE_93 : decode method_2_code 93 = .ok (.iload_n 0, 1) := by decide +kernel
theorem dE_94 : decode method_2_code 94 = .ok (.sipush 767, 3) := by decide +kernel
theorem dE_97 : decode method_2_code 97 = .ok (.if_icmp .gt 5, 3) := by decide +kernel
theorem dE_100 : decode method_2_code 100 = .ok (.iconst 1, 1) := by decide +kernel
theorem dE_101 : decode method_2_code 101 = .ok (.ireturn, 1) := by decide +kernel
theorem dE_102 : decode method_2_code 102 = .ok (.iload_n 0, 1) := by decide +kernel
theorem dE_103 : decode method_2_code 103 = .ok (.sipush 880, 3) := by decide +kernel
theorem dE_106 : decode method_2_code 106 = .ok (.if_icmp .ge 5, 3) := by decide +kernel
theorem dE_109 : decode method_2_code 109 = .ok (.iconst 0, 1) := by decide +kernel
theorem dE_110 : decode method_2_code 110 = .ok (.ireturn, 1) := by decide +kernel
theorem dE_111 : decode method_2_code 111 = .ok (.iload_n 0, 1) := by decide +kernel
theorem dE_112 : decode method_2_code 112 = .ok (.sipush 893, 3) := by decide +kernel
theorem dE_115 : decode method_2_code 115 = .ok (.if_icmp .gt 5, 3) := by decide +kernel
theorem dE_118 : decode method_2_code 118 = .ok (.iconst 1, 1) := by decide +kernel
theorem dE_119 : decode method_2_code 119 = .ok (.ireturn, 1) := by decide +kernel
theorem dE_120 : decode method_2_code 120 = .ok (.iload_n 0, 1) := by decide +kernel
theorem dE_121 : decode method_2_code 121 = .ok (.sipush 894, 3) := by decide +kernel
theorem dE_124 : decode method_2_code 124 = .ok (.if_icmp .ne 5, 3) := by decide +kernel
theorem dE_127 : decode method_2_code 127 = .ok (.iconst 0, 1) := by decide +kernel
theorem dE_128 : decode method_2_code 128 = .ok (.ireturn, 1) := by decide +kernel
theorem dE_129 : decode method_2_code 129 = .ok (.iload_n 0, 1) := by decide +kernel
theorem dE_130 : decode method_2_code 130 = .ok (.sipush 8191, 3) := by decide +kernel
theorem dE_133 : decode method_2_code 133 = .ok (.if_icmp .gt 5, 3) := by decide +kernel
theorem dE_136 : decode method_2_code 136 = .ok (.iconst 1, 1) := by decide +kernel
theorem dE_137 : decode method_2_code 137 = .ok (.ireturn, 1) := by decide +kernel
theorem dE_138 : decode method_2_code 138 = .ok (.iload_n 0, 1) := by decide +kernel
theorem dE_139 : decode method_2_code 139 = .ok (.sipush 8204, 3) := by decide +kernel
theorem dE_142 : decode method_2_code 142 = .ok (.if_icmp .ge 5, 3) := by decide +kernel
theorem dE_145 : decode method_2_code 145 = .ok (.iconst 0, 1) := by decide +kernel
theorem dE_146 : decode method_2_code 146 = .ok (.ireturn, 1) := by decide +kernel
theorem dE_147 : decode method_2_code 147 = .ok (.iload_n 0, 1) := by decide +kernel
theorem dE_148 : decode method_2_code 148 = .ok (.sipush 8205, 3) := by decide +kernel
theorem dE_151 : decode method_2_code 151 = .ok (.if_icmp .gt 5, 3) := by decide +kernel
theorem dE_154 : decode method_2_code 154 = .ok (.iconst 1, 1) := by decide +kernel
theorem dE_155 : decode method_2_code 155 = .ok (.ireturn, 1) := by decide +kernel
theorem dE_156 : decode method_2_code 156 = .ok (.iload_n 0, 1) := by decide +kernel
theorem dE_157 : decode method_2_code 157 = .ok (.sipush 8304, 3) := by decide +kernel
theorem dE_160 : decode method_2_code 160 = .ok (.if_icmp .ge 5, 3) := by decide +kernel
theorem dE_163 : decode method_2_code 163 = .ok (.iconst 0, 1) := by decide +kernel
theorem dE_164 : decode method_2_code 164 = .ok (.ireturn, 1) := by decide +kernel
theorem dE_165 : decode method_2_code 165 = .ok (.iload_n 0, 1) := by decide +kernel
theorem dE_166 : decode method_2_code 166 = .ok (.sipush 8591, 3) := by decide +kernel
theorem dE_169 : decode method_2_code 169 = .ok (.if_icmp .gt 5, 3) := by decide +kernel
theorem dE_172 : decode method_2_code 172 = .ok (.iconst 1, 1) := by decide +kernel
theorem dE_173 : decode method_2_code 173 = .ok (.ireturn, 1) := by decide +kernel
theorem dE_174 : decode method_2_code 174 = .ok (.iload_n 0, 1) := by decide +kernel
theorem dE_175 : decode method_2_code 175 = .ok (.sipush 11264, 3) := by decide +kernel
theorem dE_178 : decode method_2_code 178 = .ok (.if_icmp .ge 5, 3) := by decide +kernel
theorem dE_181 : decode method_2_code 181 = .ok (.iconst 0, 1) := by decide +kernel
theorem dE_182 : decode method_2_code 182 = .ok (.ireturn, 1) := by decide +kernel
theorem dE_183 : decode method_2_code 183 = .ok (.iload_n 0, 1) := by decide +kernel
theorem dE_184 : decode method_2_code 184 = .ok (.sipush 12271, 3) := by decide +kernel
theorem dE_187 : decode method_2_code 187 = .ok (.if_icmp .gt 5, 3) := by decide +kernel
theorem dE_190 : decode method_2_code 190 = .ok (.iconst 1, 1) := by decide +kernel
theorem dE_191 : decode method_2_code 191 = .ok (.ireturn, 1) := by decide +kernel
theorem dE_192 : decode method_2_code 192 = .ok (.iload_n 0, 1) := by decide +kernel
theorem dE_193 : decode method_2_code 193 = .ok (.sipush 12289, 3) := by decide +kernel
theorem dE_196 : decode method_2_code 196 = .ok (.if_icmp .ge 5, 3) := by decide +kernel
theorem dE_199 : decode method_2_code 199 = .ok (.iconst 0, 1) := by decide +kernel
theorem dE_200 : decode method_2_code 200 = .ok (.ireturn, 1) := by decide +kernel
theorem dE_201 : decode method_2_code 201 = .ok (.iload_n 0, 1) := by decide +kernel
theorem dE_202 : decode method_2_code 202 = .ok (.ldc 7, 2) := by decide +kernel
theorem dE_204 : decode method_2_code 204 = .ok (.if_icmp .gt 5, 3) := by decide +kernel
theorem dE_207 : decode method_2_code 207 = .ok (.iconst 1, 1) := by decide +kernel
theorem dE_208 : decode method_2_code 208 = .ok (.ireturn, 1) := by decide +kernel
theorem dE_209 : decode method_2_code 209 = .ok (.iload_n 0, 1) := by decide +kernel
theorem dE_210 : decode method_2_code 210 = .ok (.ldc 8, 2) := by decide +kernel
theorem dE_212 : decode method_2_code 212 = .ok (.if_icmp .ge 5, 3) := by decide +kernel
theorem dE_215 : decode method_2_code 215 = .ok (.iconst 0, 1) := by decide +kernel
theorem dE_216 : decode method_2_code 216 = .ok (.ireturn, 1) := by decide +kernel
theorem dE_217 : decode method_2_code 217 = .ok (.iload_n 0, 1) := by decide +kernel
theorem dE_218 : decode method_2_code 218 = .ok (.ldc 9, 2) := by decide +kernel
theorem dE_220 : decode method_2_code 220 = .ok (.if_icmp .gt 5, 3) := by decide +kernel
theorem dE_223 : decode method_2_code 223 = .ok (.iconst 1, 1) := by decide +kernel
theorem dE_224 : decode method_2_code 224 = .ok (.ireturn, 1) := by decide +kernel
theorem dE_225 : decode method_2_code 225 = .ok (.iload_n 0, 1) := by decide +kernel
theorem dE_226 : decode method_2_code 226 = .ok (.ldc 10, 2) := by decide +kernel
theorem dE_228 : decode method_2_code 228 = .ok (.if_icmp .ge 5, 3) := by decide +kernel
theorem dE_231 : decode method_2_code 231 = .ok (.iconst 0, 1) := by decide +kernel
theorem dE_232 : decode method_2_code 232 = .ok (.ireturn, 1) := by decide +kernel
theorem dE_233 : decode method_2_code 233 = .ok (.iload_n 0, 1) := by decide +kernel
theorem dE_234 : decode method_2_code 234 = .ok (.ldc 11, 2) := by decide +kernel
theorem dE_236 : decode method_2_code 236 = .ok (.if_icmp .gt 5, 3) := by decide +kernel
theorem dE_239 : decode method_2_code 239 = .ok (.iconst 1, 1) := by decide +kernel
theorem dE_240 : decode method_2_code 240 = .ok (.ireturn, 1) := by decide +kernel
theorem dE_241 : decode method_2_code 241 = .ok (.iload_n 0, 1) := by decide +kernel
theorem dE_242 : decode method_2_code 242 = .ok (.ldc 12, 2) := by decide +kernel
theorem dE_244 : decode method_2_code 244 = .ok (.if_icmp .ge 5, 3) := by decide +kernel
theorem dE_247 : decode method_2_code 247 = .ok (.iconst 0, 1) := by decide +kernel
theorem dE_248 : decode method_2_code 248 = .ok (.ireturn, 1) := by decide +kernel
theorem dE_249 : decode method_2_code 249 = .ok (.iload_n 0, 1) := by decide +kernel
theorem dE_250 : decode method_2_code 250 = .ok (.ldc 13, 2) := by decide +kernel
theorem dE_252 : decode method_2_code 252 = .ok (.if_icmp .gt 7, 3) := by decide +kernel
theorem dE_255 : decode method_2_code 255 = .ok (.iconst 1, 1) := by decide +kernel
theorem dE_256 : decode method_2_code 256 = .ok (.goto 4, 3) := by decide +kernel
theorem dE_259 : decode method_2_code 259 = .ok (.iconst 0, 1) := by decide +kernel
theorem dE_260 : decode method_2_code 260 = .ok (.ireturn, 1) := by decide +kernel
theorem ef_E (m : MethodId) (x0 : Int32) : entryFrame m #[(.int x0)] 1 = mkF m 0 #[.val (.int x0)] [] := by first | (simp [entryFrame, mkF, argsToLocals, Value.category]; done) | rfl
set_option maxRecDepth 65536 in
set_option maxHeartbeats 40000000 in
theorem rmE (l : Launch) (Z : State) (a0 : Array Value) (hw : ∀ d ∈ tables_1, d.before a0 Z = true) (ws : List Jvm.Cond) (p1 : Int32) (h0 : Heap) :
    MetFree l (⟨"com/example/libxform/libxform/output/QualifiedNamesIsNameStartPinLaw", "expected", "(I)Z"⟩ : MethodName) (head1 (Jvm.Cond.code (⟨"com/example/libxform/libxform/output/QualifiedNamesIsNameStartPinLaw", "expected", "(I)Z"⟩ : MethodName) method_2_code 1 (some .boolean) :: ws) ({ frames := 0, cells := 0, slots := 0, locals := 0 } : Room)) (fun a U => a = #[(.int p1)] ∧ Z.Warmed39 U.vm ∧ U.heap = h0) (fun _ _ _ _ _ => True) (fun _ U o U' => ∃ v L, o = .returned v ∧ QP (some (.int (fE p1))) h0 v U'.heap L ∧ FrameEnd U o U' L ({ frames := 0, cells := 0, slots := 0, locals := 0 } : Room).cells ({ frames := 0, cells := 0, slots := 0, locals := 0 } : Room).slots) := by
  refine MetFree.of_bodySF (plainFor_of_name (by first | (simp [plainName, overriddenIn]; done) | decide +kernel)) hisR ?_
  intro p e s m args below meth c s₁ Bd hml0 hP hK
  obtain ⟨rfl, hZ, hh⟩ := hP
  have hx := Bd.exec
  have hby := Bd.bytes
  have hml : c.maxLocals = 1 := hml0
  have hown : s.vm.findClass "com/example/libxform/libxform/output/QualifiedNamesIsNameStartPinLaw" = some m.cls := findClass_of_methodNamed Bd.named
  have hnm := (name_of_methodNamed Bd.named Bd.method).1
  have hlk : meth.locks = false := BodyLoose.notSynchronized Bd
  have X0 : Stand p l e ({ frames := 0, cells := 0, slots := 0, locals := 0 } : Room) s m #[(.int p1)] below meth c s₁ [] 0 0 := Stand.of_body Bd
  have e0 : s₁.heap = h0 := by rw [← hh, Bd.state]; rfl
  have P0 : ∀ t, Steps p.tables e below (s₁.setTop (mkF m 0 #[.val (.int p1)] [])) t → Steps p.tables e below (s₁.setTop (entryFrame m #[(.int p1)] 1)) t := fun t kt => castTop (ef_E m p1) kt
  have P101 : ∀ t, Steps p.tables e below (s₁.setTop (mkF m 3 #[.val (.int p1)] [(.int (65 : Int32)), (.int p1)])) t → Steps p.tables e below (s₁.setTop (entryFrame m #[(.int p1)] 1)) t := fun t kt => P0 t (by
    show Steps p.tables e below (s₁.setTop (mkF m 0 #[.val (.int p1)] [])) _
    refine XS.iloadN X0.here hx rfl (hb hby dE_0) rfl ?_
    show Steps p.tables e below (s₁.setTop (mkF m 1 #[.val (.int p1)] [(.int p1)])) _
    refine XS.bipush X0.here hx rfl (hb hby dE_1) ?_
    exact kt)
  by_cases hc3_102 : p1 < (65 : Int32)
  · have P103 : ∀ t, Steps p.tables e below (s₁.setTop (mkF m 7 #[.val (.int p1)] [(.int (0 : Int32))])) t → Steps p.tables e below (s₁.setTop (entryFrame m #[(.int p1)] 1)) t := fun t kt => P101 t (by
      show Steps p.tables e below (s₁.setTop (mkF m 3 #[.val (.int p1)] [(.int (65 : Int32)), (.int p1)])) _
      refine XS.icmpNo X0.here hx rfl (hb hby dE_3) rfl (tlt hc3_102).2.1 ?_
      show Steps p.tables e below (s₁.setTop (mkF m 6 #[.val (.int p1)] [])) _
      refine XS.iconst X0.here hx rfl (hb hby dE_6) ?_
      exact kt)
    obtain ⟨fs, hr, hrun, hended, hW, hsame⟩ := X0.leave (v := some (.int (0 : Int32))) (fun h => by rw [Bd.returns] at h; cases h) (hlocks := hlk)
    refine ⟨_, _, P103 _ ?_, hrun, hended, _, _, rfl, ?_, ⟨_, rfl⟩, hW, hsame.mono (by decide) (by decide)⟩
    · show Steps p.tables e below (s₁.setTop (mkF m 7 #[.val (.int p1)] [(.int (0 : Int32))])) _
      exact retN X0 hx (t := .boolean) Bd.returns (by simp) (hb hby dE_7) hr
    · show QP _ h0 _ s₁.heap _
      have ev : fE p1 = (0 : Int32) := by unfold fE; rw [if_pos hc3_102]
      rw [ev]
      exact ⟨rfl, rfl, e0⟩
  · have P104 : ∀ t, Steps p.tables e below (s₁.setTop (mkF m 11 #[.val (.int p1)] [(.int (90 : Int32)), (.int p1)])) t → Steps p.tables e below (s₁.setTop (entryFrame m #[(.int p1)] 1)) t := fun t kt => P101 t (by
      show Steps p.tables e below (s₁.setTop (mkF m 3 #[.val (.int p1)] [(.int (65 : Int32)), (.int p1)])) _
      refine XS.icmpYes X0.here hx rfl (pc0 := 3) (pc' := 8) rfl (hb hby dE_3) rfl (flt hc3_102).2.1 (by decide) (by decide) ?_
      show Steps p.tables e below (s₁.setTop (mkF m 8 #[.val (.int p1)] [])) _
      refine XS.iloadN X0.here hx rfl (hb hby dE_8) rfl ?_
      show Steps p.tables e below (s₁.setTop (mkF m 9 #[.val (.int p1)] [(.int p1)])) _
      refine XS.bipush X0.here hx rfl (hb hby dE_9) ?_
      exact kt)
    by_cases hc11_105 : (90 : Int32) < p1
    · have P106 : ∀ t, Steps p.tables e below (s₁.setTop (mkF m 19 #[.val (.int p1)] [(.int (95 : Int32)), (.int p1)])) t → Steps p.tables e below (s₁.setTop (entryFrame m #[(.int p1)] 1)) t := fun t kt => P104 t (by
        show Steps p.tables e below (s₁.setTop (mkF m 11 #[.val (.int p1)] [(.int (90 : Int32)), (.int p1)])) _
        refine XS.icmpYes X0.here hx rfl (pc0 := 11) (pc' := 16) rfl (hb hby dE_11) rfl (tlt hc11_105).2.2.1 (by decide) (by decide) ?_
        show Steps p.tables e below (s₁.setTop (mkF m 16 #[.val (.int p1)] [])) _
        refine XS.iloadN X0.here hx rfl (hb hby dE_16) rfl ?_
        show Steps p.tables e below (s₁.setTop (mkF m 17 #[.val (.int p1)] [(.int p1)])) _
        refine XS.bipush X0.here hx rfl (hb hby dE_17) ?_
        exact kt)
      by_cases hc19_107 : p1 < (95 : Int32)
      · have P108 : ∀ t, Steps p.tables e below (s₁.setTop (mkF m 23 #[.val (.int p1)] [(.int (0 : Int32))])) t → Steps p.tables e below (s₁.setTop (entryFrame m #[(.int p1)] 1)) t := fun t kt => P106 t (by
          show Steps p.tables e below (s₁.setTop (mkF m 19 #[.val (.int p1)] [(.int (95 : Int32)), (.int p1)])) _
          refine XS.icmpNo X0.here hx rfl (hb hby dE_19) rfl (tlt hc19_107).2.1 ?_
          show Steps p.tables e below (s₁.setTop (mkF m 22 #[.val (.int p1)] [])) _
          refine XS.iconst X0.here hx rfl (hb hby dE_22) ?_
          exact kt)
        obtain ⟨fs, hr, hrun, hended, hW, hsame⟩ := X0.leave (v := some (.int (0 : Int32))) (fun h => by rw [Bd.returns] at h; cases h) (hlocks := hlk)
        refine ⟨_, _, P108 _ ?_, hrun, hended, _, _, rfl, ?_, ⟨_, rfl⟩, hW, hsame.mono (by decide) (by decide)⟩
        · show Steps p.tables e below (s₁.setTop (mkF m 23 #[.val (.int p1)] [(.int (0 : Int32))])) _
          exact retN X0 hx (t := .boolean) Bd.returns (by simp) (hb hby dE_23) hr
        · show QP _ h0 _ s₁.heap _
          have ev : fE p1 = (0 : Int32) := by unfold fE; rw [if_neg hc3_102, if_pos hc11_105, if_pos hc19_107]
          rw [ev]
          exact ⟨rfl, rfl, e0⟩
      · have P109 : ∀ t, Steps p.tables e below (s₁.setTop (mkF m 27 #[.val (.int p1)] [(.int (95 : Int32)), (.int p1)])) t → Steps p.tables e below (s₁.setTop (entryFrame m #[(.int p1)] 1)) t := fun t kt => P106 t (by
          show Steps p.tables e below (s₁.setTop (mkF m 19 #[.val (.int p1)] [(.int (95 : Int32)), (.int p1)])) _
          refine XS.icmpYes X0.here hx rfl (pc0 := 19) (pc' := 24) rfl (hb hby dE_19) rfl (flt hc19_107).2.1 (by decide) (by decide) ?_
          show Steps p.tables e below (s₁.setTop (mkF m 24 #[.val (.int p1)] [])) _
          refine XS.iloadN X0.here hx rfl (hb hby dE_24) rfl ?_
          show Steps p.tables e below (s₁.setTop (mkF m 25 #[.val (.int p1)] [(.int p1)])) _
          refine XS.bipush X0.here hx rfl (hb hby dE_25) ?_
          exact kt)
        by_cases hc27_110 : p1 = (95 : Int32)
        · have P111 : ∀ t, Steps p.tables e below (s₁.setTop (mkF m 31 #[.val (.int p1)] [(.int (1 : Int32))])) t → Steps p.tables e below (s₁.setTop (entryFrame m #[(.int p1)] 1)) t := fun t kt => P109 t (by
            show Steps p.tables e below (s₁.setTop (mkF m 27 #[.val (.int p1)] [(.int (95 : Int32)), (.int p1)])) _
            refine XS.icmpNo X0.here hx rfl (hb hby dE_27) rfl (teq hc27_110).2 ?_
            show Steps p.tables e below (s₁.setTop (mkF m 30 #[.val (.int p1)] [])) _
            refine XS.iconst X0.here hx rfl (hb hby dE_30) ?_
            exact kt)
          obtain ⟨fs, hr, hrun, hended, hW, hsame⟩ := X0.leave (v := some (.int (1 : Int32))) (fun h => by rw [Bd.returns] at h; cases h) (hlocks := hlk)
          refine ⟨_, _, P111 _ ?_, hrun, hended, _, _, rfl, ?_, ⟨_, rfl⟩, hW, hsame.mono (by decide) (by decide)⟩
          · show Steps p.tables e below (s₁.setTop (mkF m 31 #[.val (.int p1)] [(.int (1 : Int32))])) _
            exact retN X0 hx (t := .boolean) Bd.returns (by simp) (hb hby dE_31) hr
          · show QP _ h0 _ s₁.heap _
            have ev : fE p1 = (1 : Int32) := by unfold fE; rw [if_neg hc3_102, if_pos hc11_105, if_neg hc19_107, if_pos hc27_110]
            rw [ev]
            exact ⟨rfl, rfl, e0⟩
        · have P112 : ∀ t, Steps p.tables e below (s₁.setTop (mkF m 35 #[.val (.int p1)] [(.int (97 : Int32)), (.int p1)])) t → Steps p.tables e below (s₁.setTop (entryFrame m #[(.int p1)] 1)) t := fun t kt => P109 t (by
            show Steps p.tables e below (s₁.setTop (mkF m 27 #[.val (.int p1)] [(.int (95 : Int32)), (.int p1)])) _
            refine XS.icmpYes X0.here hx rfl (pc0 := 27) (pc' := 32) rfl (hb hby dE_27) rfl (feq hc27_110).2 (by decide) (by decide) ?_
            show Steps p.tables e below (s₁.setTop (mkF m 32 #[.val (.int p1)] [])) _
            refine XS.iloadN X0.here hx rfl (hb hby dE_32) rfl ?_
            show Steps p.tables e below (s₁.setTop (mkF m 33 #[.val (.int p1)] [(.int p1)])) _
            refine XS.bipush X0.here hx rfl (hb hby dE_33) ?_
            exact kt)
          by_cases hc35_113 : p1 < (97 : Int32)
          · have P114 : ∀ t, Steps p.tables e below (s₁.setTop (mkF m 39 #[.val (.int p1)] [(.int (0 : Int32))])) t → Steps p.tables e below (s₁.setTop (entryFrame m #[(.int p1)] 1)) t := fun t kt => P112 t (by
              show Steps p.tables e below (s₁.setTop (mkF m 35 #[.val (.int p1)] [(.int (97 : Int32)), (.int p1)])) _
              refine XS.icmpNo X0.here hx rfl (hb hby dE_35) rfl (tlt hc35_113).2.1 ?_
              show Steps p.tables e below (s₁.setTop (mkF m 38 #[.val (.int p1)] [])) _
              refine XS.iconst X0.here hx rfl (hb hby dE_38) ?_
              exact kt)
            obtain ⟨fs, hr, hrun, hended, hW, hsame⟩ := X0.leave (v := some (.int (0 : Int32))) (fun h => by rw [Bd.returns] at h; cases h) (hlocks := hlk)
            refine ⟨_, _, P114 _ ?_, hrun, hended, _, _, rfl, ?_, ⟨_, rfl⟩, hW, hsame.mono (by decide) (by decide)⟩
            · show Steps p.tables e below (s₁.setTop (mkF m 39 #[.val (.int p1)] [(.int (0 : Int32))])) _
              exact retN X0 hx (t := .boolean) Bd.returns (by simp) (hb hby dE_39) hr
            · show QP _ h0 _ s₁.heap _
              have ev : fE p1 = (0 : Int32) := by unfold fE; rw [if_neg hc3_102, if_pos hc11_105, if_neg hc19_107, if_neg hc27_110, if_pos hc35_113]
              rw [ev]
              exact ⟨rfl, rfl, e0⟩
          · have P115 : ∀ t, Steps p.tables e below (s₁.setTop (mkF m 43 #[.val (.int p1)] [(.int (122 : Int32)), (.int p1)])) t → Steps p.tables e below (s₁.setTop (entryFrame m #[(.int p1)] 1)) t := fun t kt => P112 t (by
              show Steps p.tables e below (s₁.setTop (mkF m 35 #[.val (.int p1)] [(.int (97 : Int32)), (.int p1)])) _
              refine XS.icmpYes X0.here hx rfl (pc0 := 35) (pc' := 40) rfl (hb hby dE_35) rfl (flt hc35_113).2.1 (by decide) (by decide) ?_
              show Steps p.tables e below (s₁.setTop (mkF m 40 #[.val (.int p1)] [])) _
              refine XS.iloadN X0.here hx rfl (hb hby dE_40) rfl ?_
              show Steps p.tables e below (s₁.setTop (mkF m 41 #[.val (.int p1)] [(.int p1)])) _
              refine XS.bipush X0.here hx rfl (hb hby dE_41) ?_
              exact kt)
            by_cases hc43_116 : (122 : Int32) < p1
            · have P117 : ∀ t, Steps p.tables e below (s₁.setTop (mkF m 52 #[.val (.int p1)] [(.int (192 : Int32)), (.int p1)])) t → Steps p.tables e below (s₁.setTop (entryFrame m #[(.int p1)] 1)) t := fun t kt => P115 t (by
                show Steps p.tables e below (s₁.setTop (mkF m 43 #[.val (.int p1)] [(.int (122 : Int32)), (.int p1)])) _
                refine XS.icmpYes X0.here hx rfl (pc0 := 43) (pc' := 48) rfl (hb hby dE_43) rfl (tlt hc43_116).2.2.1 (by decide) (by decide) ?_
                show Steps p.tables e below (s₁.setTop (mkF m 48 #[.val (.int p1)] [])) _
                refine XS.iloadN X0.here hx rfl (hb hby dE_48) rfl ?_
                show Steps p.tables e below (s₁.setTop (mkF m 49 #[.val (.int p1)] [(.int p1)])) _
                refine XS.sipush X0.here hx rfl (hb hby dE_49) ?_
                exact kt)
              by_cases hc52_118 : p1 < (192 : Int32)
              · have P119 : ∀ t, Steps p.tables e below (s₁.setTop (mkF m 56 #[.val (.int p1)] [(.int (0 : Int32))])) t → Steps p.tables e below (s₁.setTop (entryFrame m #[(.int p1)] 1)) t := fun t kt => P117 t (by
                  show Steps p.tables e below (s₁.setTop (mkF m 52 #[.val (.int p1)] [(.int (192 : Int32)), (.int p1)])) _
                  refine XS.icmpNo X0.here hx rfl (hb hby dE_52) rfl (tlt hc52_118).2.1 ?_
                  show Steps p.tables e below (s₁.setTop (mkF m 55 #[.val (.int p1)] [])) _
                  refine XS.iconst X0.here hx rfl (hb hby dE_55) ?_
                  exact kt)
                obtain ⟨fs, hr, hrun, hended, hW, hsame⟩ := X0.leave (v := some (.int (0 : Int32))) (fun h => by rw [Bd.returns] at h; cases h) (hlocks := hlk)
                refine ⟨_, _, P119 _ ?_, hrun, hended, _, _, rfl, ?_, ⟨_, rfl⟩, hW, hsame.mono (by decide) (by decide)⟩
                · show Steps p.tables e below (s₁.setTop (mkF m 56 #[.val (.int p1)] [(.int (0 : Int32))])) _
                  exact retN X0 hx (t := .boolean) Bd.returns (by simp) (hb hby dE_56) hr
                · show QP _ h0 _ s₁.heap _
                  have ev : fE p1 = (0 : Int32) := by unfold fE; rw [if_neg hc3_102, if_pos hc11_105, if_neg hc19_107, if_neg hc27_110, if_neg hc35_113, if_pos hc43_116, if_pos hc52_118]
                  rw [ev]
                  exact ⟨rfl, rfl, e0⟩
              · have P120 : ∀ t, Steps p.tables e below (s₁.setTop (mkF m 61 #[.val (.int p1)] [(.int (214 : Int32)), (.int p1)])) t → Steps p.tables e below (s₁.setTop (entryFrame m #[(.int p1)] 1)) t := fun t kt => P117 t (by
                  show Steps p.tables e below (s₁.setTop (mkF m 52 #[.val (.int p1)] [(.int (192 : Int32)), (.int p1)])) _
                  refine XS.icmpYes X0.here hx rfl (pc0 := 52) (pc' := 57) rfl (hb hby dE_52) rfl (flt hc52_118).2.1 (by decide) (by decide) ?_
                  show Steps p.tables e below (s₁.setTop (mkF m 57 #[.val (.int p1)] [])) _
                  refine XS.iloadN X0.here hx rfl (hb hby dE_57) rfl ?_
                  show Steps p.tables e below (s₁.setTop (mkF m 58 #[.val (.int p1)] [(.int p1)])) _
                  refine XS.sipush X0.here hx rfl (hb hby dE_58) ?_
                  exact kt)
                by_cases hc61_121 : (214 : Int32) < p1
                · have P122 : ∀ t, Steps p.tables e below (s₁.setTop (mkF m 70 #[.val (.int p1)] [(.int (215 : Int32)), (.int p1)])) t → Steps p.tables e below (s₁.setTop (entryFrame m #[(.int p1)] 1)) t := fun t kt => P120 t (by
                    show Steps p.tables e below (s₁.setTop (mkF m 61 #[.val (.int p1)] [(.int (214 : Int32)), (.int p1)])) _
                    refine XS.icmpYes X0.here hx rfl (pc0 := 61) (pc' := 66) rfl (hb hby dE_61) rfl (tlt hc61_121).2.2.1 (by decide) (by decide) ?_
                    show Steps p.tables e below (s₁.setTop (mkF m 66 #[.val (.int p1)] [])) _
                    refine XS.iloadN X0.here hx rfl (hb hby dE_66) rfl ?_
                    show Steps p.tables e below (s₁.setTop (mkF m 67 #[.val (.int p1)] [(.int p1)])) _
                    refine XS.sipush X0.here hx rfl (hb hby dE_67) ?_
                    exact kt)
                  by_cases hc70_123 : p1 = (215 : Int32)
                  · have P124 : ∀ t, Steps p.tables e below (s₁.setTop (mkF m 74 #[.val (.int p1)] [(.int (0 : Int32))])) t → Steps p.tables e below (s₁.setTop (entryFrame m #[(.int p1)] 1)) t := fun t kt => P122 t (by
                      show Steps p.tables e below (s₁.setTop (mkF m 70 #[.val (.int p1)] [(.int (215 : Int32)), (.int p1)])) _
                      refine XS.icmpNo X0.here hx rfl (hb hby dE_70) rfl (teq hc70_123).2 ?_
                      show Steps p.tables e below (s₁.setTop (mkF m 73 #[.val (.int p1)] [])) _
                      refine XS.iconst X0.here hx rfl (hb hby dE_73) ?_
                      exact kt)
                    obtain ⟨fs, hr, hrun, hended, hW, hsame⟩ := X0.leave (v := some (.int (0 : Int32))) (fun h => by rw [Bd.returns] at h; cases h) (hlocks := hlk)
                    refine ⟨_, _, P124 _ ?_, hrun, hended, _, _, rfl, ?_, ⟨_, rfl⟩, hW, hsame.mono (by decide) (by decide)⟩
                    · show Steps p.tables e below (s₁.setTop (mkF m 74 #[.val (.int p1)] [(.int (0 : Int32))])) _
                      exact retN X0 hx (t := .boolean) Bd.returns (by simp) (hb hby dE_74) hr
                    · show QP _ h0 _ s₁.heap _
                      have ev : fE p1 = (0 : Int32) := by unfold fE; rw [if_neg hc3_102, if_pos hc11_105, if_neg hc19_107, if_neg hc27_110, if_neg hc35_113, if_pos hc43_116, if_neg hc52_118, if_pos hc61_121, if_pos hc70_123]
                      rw [ev]
                      exact ⟨rfl, rfl, e0⟩
                  · have P125 : ∀ t, Steps p.tables e below (s₁.setTop (mkF m 79 #[.val (.int p1)] [(.int (246 : Int32)), (.int p1)])) t → Steps p.tables e below (s₁.setTop (entryFrame m #[(.int p1)] 1)) t := fun t kt => P122 t (by
                      show Steps p.tables e below (s₁.setTop (mkF m 70 #[.val (.int p1)] [(.int (215 : Int32)), (.int p1)])) _
                      refine XS.icmpYes X0.here hx rfl (pc0 := 70) (pc' := 75) rfl (hb hby dE_70) rfl (feq hc70_123).2 (by decide) (by decide) ?_
                      show Steps p.tables e below (s₁.setTop (mkF m 75 #[.val (.int p1)] [])) _
                      refine XS.iloadN X0.here hx rfl (hb hby dE_75) rfl ?_
                      show Steps p.tables e below (s₁.setTop (mkF m 76 #[.val (.int p1)] [(.int p1)])) _
                      refine XS.sipush X0.here hx rfl (hb hby dE_76) ?_
                      exact kt)
                    by_cases hc79_126 : (246 : Int32) < p1
                    · have P127 : ∀ t, Steps p.tables e below (s₁.setTop (mkF m 88 #[.val (.int p1)] [(.int (247 : Int32)), (.int p1)])) t → Steps p.tables e below (s₁.setTop (entryFrame m #[(.int p1)] 1)) t := fun t kt => P125 t (by
                        show Steps p.tables e below (s₁.setTop (mkF m 79 #[.val (.int p1)] [(.int (246 : Int32)), (.int p1)])) _
                        refine XS.icmpYes X0.here hx rfl (pc0 := 79) (pc' := 84) rfl (hb hby dE_79) rfl (tlt hc79_126).2.2.1 (by decide) (by decide) ?_
                        show Steps p.tables e below (s₁.setTop (mkF m 84 #[.val (.int p1)] [])) _
                        refine XS.iloadN X0.here hx rfl (hb hby dE_84) rfl ?_
                        show Steps p.tables e below (s₁.setTop (mkF m 85 #[.val (.int p1)] [(.int p1)])) _
                        refine XS.sipush X0.here hx rfl (hb hby dE_85) ?_
                        exact kt)
                      by_cases hc88_128 : p1 = (247 : Int32)
                      · have P129 : ∀ t, Steps p.tables e below (s₁.setTop (mkF m 92 #[.val (.int p1)] [(.int (0 : Int32))])) t → Steps p.tables e below (s₁.setTop (entryFrame m #[(.int p1)] 1)) t := fun t kt => P127 t (by
                          show Steps p.tables e below (s₁.setTop (mkF m 88 #[.val (.int p1)] [(.int (247 : Int32)), (.int p1)])) _
                          refine XS.icmpNo X0.here hx rfl (hb hby dE_88) rfl (teq hc88_128).2 ?_
                          show Steps p.tables e below (s₁.setTop (mkF m 91 #[.val (.int p1)] [])) _
                          refine XS.iconst X0.here hx rfl (hb hby dE_91) ?_
                          exact kt)
                        obtain ⟨fs, hr, hrun, hended, hW, hsame⟩ := X0.leave (v := some (.int (0 : Int32))) (fun h => by rw [Bd.returns] at h; cases h) (hlocks := hlk)
                        refine ⟨_, _, P129 _ ?_, hrun, hended, _, _, rfl, ?_, ⟨_, rfl⟩, hW, hsame.mono (by decide) (by decide)⟩
                        · show Steps p.tables e below (s₁.setTop (mkF m 92 #[.val (.int p1)] [(.int (0 : Int32))])) _
                          exact retN X0 hx (t := .boolean) Bd.returns (by simp) (hb hby dE_92) hr
                        · show QP _ h0 _ s₁.heap _
                          have ev : fE p1 = (0 : Int32) := by unfold fE; rw [if_neg hc3_102, if_pos hc11_105, if_neg hc19_107, if_neg hc27_110, if_neg hc35_113, if_pos hc43_116, if_neg hc52_118, if_pos hc61_121, if_neg hc70_123, if_pos hc79_126, if_pos hc88_128]
                          rw [ev]
                          exact ⟨rfl, rfl, e0⟩
                      · have P130 : ∀ t, Steps p.tables e below (s₁.setTop (mkF m 97 #[.val (.int p1)] [(.int (767 : Int32)), (.int p1)])) t → Steps p.tables e below (s₁.setTop (entryFrame m #[(.int p1)] 1)) t := fun t kt => P127 t (by
                          show Steps p.tables e below (s₁.setTop (mkF m 88 #[.val (.int p1)] [(.int (247 : Int32)), (.int p1)])) _
                          refine XS.icmpYes X0.here hx rfl (pc0 := 88) (pc' := 93) rfl (hb hby dE_88) rfl (feq hc88_128).2 (by decide) (by decide) ?_
                          show Steps p.tables e below (s₁.setTop (mkF m 93 #[.val (.int p1)] [])) _
                          refine XS.iloadN X0.here hx rfl (hb hby dE_93) rfl ?_
                          show Steps p.tables e below (s₁.setTop (mkF m 94 #[.val (.int p1)] [(.int p1)])) _
                          refine XS.sipush X0.here hx rfl (hb hby dE_94) ?_
                          exact kt)
                        by_cases hc97_131 : (767 : Int32) < p1
                        · have P132 : ∀ t, Steps p.tables e below (s₁.setTop (mkF m 106 #[.val (.int p1)] [(.int (880 : Int32)), (.int p1)])) t → Steps p.tables e below (s₁.setTop (entryFrame m #[(.int p1)] 1)) t := fun t kt => P130 t (by
                            show Steps p.tables e below (s₁.setTop (mkF m 97 #[.val (.int p1)] [(.int (767 : Int32)), (.int p1)])) _
                            refine XS.icmpYes X0.here hx rfl (pc0 := 97) (pc' := 102) rfl (hb hby dE_97) rfl (tlt hc97_131).2.2.1 (by decide) (by decide) ?_
                            show Steps p.tables e below (s₁.setTop (mkF m 102 #[.val (.int p1)] [])) _
                            refine XS.iloadN X0.here hx rfl (hb hby dE_102) rfl ?_
                            show Steps p.tables e below (s₁.setTop (mkF m 103 #[.val (.int p1)] [(.int p1)])) _
                            refine XS.sipush X0.here hx rfl (hb hby dE_103) ?_
                            exact kt)
                          by_cases hc106_133 : p1 < (880 : Int32)
                          · have P134 : ∀ t, Steps p.tables e below (s₁.setTop (mkF m 110 #[.val (.int p1)] [(.int (0 : Int32))])) t → Steps p.tables e below (s₁.setTop (entryFrame m #[(.int p1)] 1)) t := fun t kt => P132 t (by
                              show Steps p.tables e below (s₁.setTop (mkF m 106 #[.val (.int p1)] [(.int (880 : Int32)), (.int p1)])) _
                              refine XS.icmpNo X0.here hx rfl (hb hby dE_106) rfl (tlt hc106_133).2.1 ?_
                              show Steps p.tables e below (s₁.setTop (mkF m 109 #[.val (.int p1)] [])) _
                              refine XS.iconst X0.here hx rfl (hb hby dE_109) ?_
                              exact kt)
                            obtain ⟨fs, hr, hrun, hended, hW, hsame⟩ := X0.leave (v := some (.int (0 : Int32))) (fun h => by rw [Bd.returns] at h; cases h) (hlocks := hlk)
                            refine ⟨_, _, P134 _ ?_, hrun, hended, _, _, rfl, ?_, ⟨_, rfl⟩, hW, hsame.mono (by decide) (by decide)⟩
                            · show Steps p.tables e below (s₁.setTop (mkF m 110 #[.val (.int p1)] [(.int (0 : Int32))])) _
                              exact retN X0 hx (t := .boolean) Bd.returns (by simp) (hb hby dE_110) hr
                            · show QP _ h0 _ s₁.heap _
                              have ev : fE p1 = (0 : Int32) := by unfold fE; rw [if_neg hc3_102, if_pos hc11_105, if_neg hc19_107, if_neg hc27_110, if_neg hc35_113, if_pos hc43_116, if_neg hc52_118, if_pos hc61_121, if_neg hc70_123, if_pos hc79_126, if_neg hc88_128, if_pos hc97_131, if_pos hc106_133]
                              rw [ev]
                              exact ⟨rfl, rfl, e0⟩
                          · have P135 : ∀ t, Steps p.tables e below (s₁.setTop (mkF m 115 #[.val (.int p1)] [(.int (893 : Int32)), (.int p1)])) t → Steps p.tables e below (s₁.setTop (entryFrame m #[(.int p1)] 1)) t := fun t kt => P132 t (by
                              show Steps p.tables e below (s₁.setTop (mkF m 106 #[.val (.int p1)] [(.int (880 : Int32)), (.int p1)])) _
                              refine XS.icmpYes X0.here hx rfl (pc0 := 106) (pc' := 111) rfl (hb hby dE_106) rfl (flt hc106_133).2.1 (by decide) (by decide) ?_
                              show Steps p.tables e below (s₁.setTop (mkF m 111 #[.val (.int p1)] [])) _
                              refine XS.iloadN X0.here hx rfl (hb hby dE_111) rfl ?_
                              show Steps p.tables e below (s₁.setTop (mkF m 112 #[.val (.int p1)] [(.int p1)])) _
                              refine XS.sipush X0.here hx rfl (hb hby dE_112) ?_
                              exact kt)
                            by_cases hc115_136 : (893 : Int32) < p1
                            · have P137 : ∀ t, Steps p.tables e below (s₁.setTop (mkF m 124 #[.val (.int p1)] [(.int (894 : Int32)), (.int p1)])) t → Steps p.tables e below (s₁.setTop (entryFrame m #[(.int p1)] 1)) t := fun t kt => P135 t (by
                                show Steps p.tables e below (s₁.setTop (mkF m 115 #[.val (.int p1)] [(.int (893 : Int32)), (.int p1)])) _
                                refine XS.icmpYes X0.here hx rfl (pc0 := 115) (pc' := 120) rfl (hb hby dE_115) rfl (tlt hc115_136).2.2.1 (by decide) (by decide) ?_
                                show Steps p.tables e below (s₁.setTop (mkF m 120 #[.val (.int p1)] [])) _
                                refine XS.iloadN X0.here hx rfl (hb hby dE_120) rfl ?_
                                show Steps p.tables e below (s₁.setTop (mkF m 121 #[.val (.int p1)] [(.int p1)])) _
                                refine XS.sipush X0.here hx rfl (hb hby dE_121) ?_
                                exact kt)
                              by_cases hc124_138 : p1 = (894 : Int32)
                              · have P139 : ∀ t, Steps p.tables e below (s₁.setTop (mkF m 128 #[.val (.int p1)] [(.int (0 : Int32))])) t → Steps p.tables e below (s₁.setTop (entryFrame m #[(.int p1)] 1)) t := fun t kt => P137 t (by
                                  show Steps p.tables e below (s₁.setTop (mkF m 124 #[.val (.int p1)] [(.int (894 : Int32)), (.int p1)])) _
                                  refine XS.icmpNo X0.here hx rfl (hb hby dE_124) rfl (teq hc124_138).2 ?_
                                  show Steps p.tables e below (s₁.setTop (mkF m 127 #[.val (.int p1)] [])) _
                                  refine XS.iconst X0.here hx rfl (hb hby dE_127) ?_
                                  exact kt)
                                obtain ⟨fs, hr, hrun, hended, hW, hsame⟩ := X0.leave (v := some (.int (0 : Int32))) (fun h => by rw [Bd.returns] at h; cases h) (hlocks := hlk)
                                refine ⟨_, _, P139 _ ?_, hrun, hended, _, _, rfl, ?_, ⟨_, rfl⟩, hW, hsame.mono (by decide) (by decide)⟩
                                · show Steps p.tables e below (s₁.setTop (mkF m 128 #[.val (.int p1)] [(.int (0 : Int32))])) _
                                  exact retN X0 hx (t := .boolean) Bd.returns (by simp) (hb hby dE_128) hr
                                · show QP _ h0 _ s₁.heap _
                                  have ev : fE p1 = (0 : Int32) := by unfold fE; rw [if_neg hc3_102, if_pos hc11_105, if_neg hc19_107, if_neg hc27_110, if_neg hc35_113, if_pos hc43_116, if_neg hc52_118, if_pos hc61_121, if_neg hc70_123, if_pos hc79_126, if_neg hc88_128, if_pos hc97_131, if_neg hc106_133, if_pos hc115_136, if_pos hc124_138]
                                  rw [ev]
                                  exact ⟨rfl, rfl, e0⟩
                              · have P140 : ∀ t, Steps p.tables e below (s₁.setTop (mkF m 133 #[.val (.int p1)] [(.int (8191 : Int32)), (.int p1)])) t → Steps p.tables e below (s₁.setTop (entryFrame m #[(.int p1)] 1)) t := fun t kt => P137 t (by
                                  show Steps p.tables e below (s₁.setTop (mkF m 124 #[.val (.int p1)] [(.int (894 : Int32)), (.int p1)])) _
                                  refine XS.icmpYes X0.here hx rfl (pc0 := 124) (pc' := 129) rfl (hb hby dE_124) rfl (feq hc124_138).2 (by decide) (by decide) ?_
                                  show Steps p.tables e below (s₁.setTop (mkF m 129 #[.val (.int p1)] [])) _
                                  refine XS.iloadN X0.here hx rfl (hb hby dE_129) rfl ?_
                                  show Steps p.tables e below (s₁.setTop (mkF m 130 #[.val (.int p1)] [(.int p1)])) _
                                  refine XS.sipush X0.here hx rfl (hb hby dE_130) ?_
                                  exact kt)
                                by_cases hc133_141 : (8191 : Int32) < p1
                                · have P142 : ∀ t, Steps p.tables e below (s₁.setTop (mkF m 142 #[.val (.int p1)] [(.int (8204 : Int32)), (.int p1)])) t → Steps p.tables e below (s₁.setTop (entryFrame m #[(.int p1)] 1)) t := fun t kt => P140 t (by
                                    show Steps p.tables e below (s₁.setTop (mkF m 133 #[.val (.int p1)] [(.int (8191 : Int32)), (.int p1)])) _
                                    refine XS.icmpYes X0.here hx rfl (pc0 := 133) (pc' := 138) rfl (hb hby dE_133) rfl (tlt hc133_141).2.2.1 (by decide) (by decide) ?_
                                    show Steps p.tables e below (s₁.setTop (mkF m 138 #[.val (.int p1)] [])) _
                                    refine XS.iloadN X0.here hx rfl (hb hby dE_138) rfl ?_
                                    show Steps p.tables e below (s₁.setTop (mkF m 139 #[.val (.int p1)] [(.int p1)])) _
                                    refine XS.sipush X0.here hx rfl (hb hby dE_139) ?_
                                    exact kt)
                                  by_cases hc142_143 : p1 < (8204 : Int32)
                                  · have P144 : ∀ t, Steps p.tables e below (s₁.setTop (mkF m 146 #[.val (.int p1)] [(.int (0 : Int32))])) t → Steps p.tables e below (s₁.setTop (entryFrame m #[(.int p1)] 1)) t := fun t kt => P142 t (by
                                      show Steps p.tables e below (s₁.setTop (mkF m 142 #[.val (.int p1)] [(.int (8204 : Int32)), (.int p1)])) _
                                      refine XS.icmpNo X0.here hx rfl (hb hby dE_142) rfl (tlt hc142_143).2.1 ?_
                                      show Steps p.tables e below (s₁.setTop (mkF m 145 #[.val (.int p1)] [])) _
                                      refine XS.iconst X0.here hx rfl (hb hby dE_145) ?_
                                      exact kt)
                                    obtain ⟨fs, hr, hrun, hended, hW, hsame⟩ := X0.leave (v := some (.int (0 : Int32))) (fun h => by rw [Bd.returns] at h; cases h) (hlocks := hlk)
                                    refine ⟨_, _, P144 _ ?_, hrun, hended, _, _, rfl, ?_, ⟨_, rfl⟩, hW, hsame.mono (by decide) (by decide)⟩
                                    · show Steps p.tables e below (s₁.setTop (mkF m 146 #[.val (.int p1)] [(.int (0 : Int32))])) _
                                      exact retN X0 hx (t := .boolean) Bd.returns (by simp) (hb hby dE_146) hr
                                    · show QP _ h0 _ s₁.heap _
                                      have ev : fE p1 = (0 : Int32) := by unfold fE; rw [if_neg hc3_102, if_pos hc11_105, if_neg hc19_107, if_neg hc27_110, if_neg hc35_113, if_pos hc43_116, if_neg hc52_118, if_pos hc61_121, if_neg hc70_123, if_pos hc79_126, if_neg hc88_128, if_pos hc97_131, if_neg hc106_133, if_pos hc115_136, if_neg hc124_138, if_pos hc133_141, if_pos hc142_143]
                                      rw [ev]
                                      exact ⟨rfl, rfl, e0⟩
                                  · have P145 : ∀ t, Steps p.tables e below (s₁.setTop (mkF m 151 #[.val (.int p1)] [(.int (8205 : Int32)), (.int p1)])) t → Steps p.tables e below (s₁.setTop (entryFrame m #[(.int p1)] 1)) t := fun t kt => P142 t (by
                                      show Steps p.tables e below (s₁.setTop (mkF m 142 #[.val (.int p1)] [(.int (8204 : Int32)), (.int p1)])) _
                                      refine XS.icmpYes X0.here hx rfl (pc0 := 142) (pc' := 147) rfl (hb hby dE_142) rfl (flt hc142_143).2.1 (by decide) (by decide) ?_
                                      show Steps p.tables e below (s₁.setTop (mkF m 147 #[.val (.int p1)] [])) _
                                      refine XS.iloadN X0.here hx rfl (hb hby dE_147) rfl ?_
                                      show Steps p.tables e below (s₁.setTop (mkF m 148 #[.val (.int p1)] [(.int p1)])) _
                                      refine XS.sipush X0.here hx rfl (hb hby dE_148) ?_
                                      exact kt)
                                    by_cases hc151_146 : (8205 : Int32) < p1
                                    · have P147 : ∀ t, Steps p.tables e below (s₁.setTop (mkF m 160 #[.val (.int p1)] [(.int (8304 : Int32)), (.int p1)])) t → Steps p.tables e below (s₁.setTop (entryFrame m #[(.int p1)] 1)) t := fun t kt => P145 t (by
                                        show Steps p.tables e below (s₁.setTop (mkF m 151 #[.val (.int p1)] [(.int (8205 : Int32)), (.int p1)])) _
                                        refine XS.icmpYes X0.here hx rfl (pc0 := 151) (pc' := 156) rfl (hb hby dE_151) rfl (tlt hc151_146).2.2.1 (by decide) (by decide) ?_
                                        show Steps p.tables e below (s₁.setTop (mkF m 156 #[.val (.int p1)] [])) _
                                        refine XS.iloadN X0.here hx rfl (hb hby dE_156) rfl ?_
                                        show Steps p.tables e below (s₁.setTop (mkF m 157 #[.val (.int p1)] [(.int p1)])) _
                                        refine XS.sipush X0.here hx rfl (hb hby dE_157) ?_
                                        exact kt)
                                      by_cases hc160_148 : p1 < (8304 : Int32)
                                      · have P149 : ∀ t, Steps p.tables e below (s₁.setTop (mkF m 164 #[.val (.int p1)] [(.int (0 : Int32))])) t → Steps p.tables e below (s₁.setTop (entryFrame m #[(.int p1)] 1)) t := fun t kt => P147 t (by
                                          show Steps p.tables e below (s₁.setTop (mkF m 160 #[.val (.int p1)] [(.int (8304 : Int32)), (.int p1)])) _
                                          refine XS.icmpNo X0.here hx rfl (hb hby dE_160) rfl (tlt hc160_148).2.1 ?_
                                          show Steps p.tables e below (s₁.setTop (mkF m 163 #[.val (.int p1)] [])) _
                                          refine XS.iconst X0.here hx rfl (hb hby dE_163) ?_
                                          exact kt)
                                        obtain ⟨fs, hr, hrun, hended, hW, hsame⟩ := X0.leave (v := some (.int (0 : Int32))) (fun h => by rw [Bd.returns] at h; cases h) (hlocks := hlk)
                                        refine ⟨_, _, P149 _ ?_, hrun, hended, _, _, rfl, ?_, ⟨_, rfl⟩, hW, hsame.mono (by decide) (by decide)⟩
                                        · show Steps p.tables e below (s₁.setTop (mkF m 164 #[.val (.int p1)] [(.int (0 : Int32))])) _
                                          exact retN X0 hx (t := .boolean) Bd.returns (by simp) (hb hby dE_164) hr
                                        · show QP _ h0 _ s₁.heap _
                                          have ev : fE p1 = (0 : Int32) := by unfold fE; rw [if_neg hc3_102, if_pos hc11_105, if_neg hc19_107, if_neg hc27_110, if_neg hc35_113, if_pos hc43_116, if_neg hc52_118, if_pos hc61_121, if_neg hc70_123, if_pos hc79_126, if_neg hc88_128, if_pos hc97_131, if_neg hc106_133, if_pos hc115_136, if_neg hc124_138, if_pos hc133_141, if_neg hc142_143, if_pos hc151_146, if_pos hc160_148]
                                          rw [ev]
                                          exact ⟨rfl, rfl, e0⟩
                                      · have P150 : ∀ t, Steps p.tables e below (s₁.setTop (mkF m 169 #[.val (.int p1)] [(.int (8591 : Int32)), (.int p1)])) t → Steps p.tables e below (s₁.setTop (entryFrame m #[(.int p1)] 1)) t := fun t kt => P147 t (by
                                          show Steps p.tables e below (s₁.setTop (mkF m 160 #[.val (.int p1)] [(.int (8304 : Int32)), (.int p1)])) _
                                          refine XS.icmpYes X0.here hx rfl (pc0 := 160) (pc' := 165) rfl (hb hby dE_160) rfl (flt hc160_148).2.1 (by decide) (by decide) ?_
                                          show Steps p.tables e below (s₁.setTop (mkF m 165 #[.val (.int p1)] [])) _
                                          refine XS.iloadN X0.here hx rfl (hb hby dE_165) rfl ?_
                                          show Steps p.tables e below (s₁.setTop (mkF m 166 #[.val (.int p1)] [(.int p1)])) _
                                          refine XS.sipush X0.here hx rfl (hb hby dE_166) ?_
                                          exact kt)
                                        by_cases hc169_151 : (8591 : Int32) < p1
                                        · have P152 : ∀ t, Steps p.tables e below (s₁.setTop (mkF m 178 #[.val (.int p1)] [(.int (11264 : Int32)), (.int p1)])) t → Steps p.tables e below (s₁.setTop (entryFrame m #[(.int p1)] 1)) t := fun t kt => P150 t (by
                                            show Steps p.tables e below (s₁.setTop (mkF m 169 #[.val (.int p1)] [(.int (8591 : Int32)), (.int p1)])) _
                                            refine XS.icmpYes X0.here hx rfl (pc0 := 169) (pc' := 174) rfl (hb hby dE_169) rfl (tlt hc169_151).2.2.1 (by decide) (by decide) ?_
                                            show Steps p.tables e below (s₁.setTop (mkF m 174 #[.val (.int p1)] [])) _
                                            refine XS.iloadN X0.here hx rfl (hb hby dE_174) rfl ?_
                                            show Steps p.tables e below (s₁.setTop (mkF m 175 #[.val (.int p1)] [(.int p1)])) _
                                            refine XS.sipush X0.here hx rfl (hb hby dE_175) ?_
                                            exact kt)
                                          by_cases hc178_153 : p1 < (11264 : Int32)
                                          · have P154 : ∀ t, Steps p.tables e below (s₁.setTop (mkF m 182 #[.val (.int p1)] [(.int (0 : Int32))])) t → Steps p.tables e below (s₁.setTop (entryFrame m #[(.int p1)] 1)) t := fun t kt => P152 t (by
                                              show Steps p.tables e below (s₁.setTop (mkF m 178 #[.val (.int p1)] [(.int (11264 : Int32)), (.int p1)])) _
                                              refine XS.icmpNo X0.here hx rfl (hb hby dE_178) rfl (tlt hc178_153).2.1 ?_
                                              show Steps p.tables e below (s₁.setTop (mkF m 181 #[.val (.int p1)] [])) _
                                              refine XS.iconst X0.here hx rfl (hb hby dE_181) ?_
                                              exact kt)
                                            obtain ⟨fs, hr, hrun, hended, hW, hsame⟩ := X0.leave (v := some (.int (0 : Int32))) (fun h => by rw [Bd.returns] at h; cases h) (hlocks := hlk)
                                            refine ⟨_, _, P154 _ ?_, hrun, hended, _, _, rfl, ?_, ⟨_, rfl⟩, hW, hsame.mono (by decide) (by decide)⟩
                                            · show Steps p.tables e below (s₁.setTop (mkF m 182 #[.val (.int p1)] [(.int (0 : Int32))])) _
                                              exact retN X0 hx (t := .boolean) Bd.returns (by simp) (hb hby dE_182) hr
                                            · show QP _ h0 _ s₁.heap _
                                              have ev : fE p1 = (0 : Int32) := by unfold fE; rw [if_neg hc3_102, if_pos hc11_105, if_neg hc19_107, if_neg hc27_110, if_neg hc35_113, if_pos hc43_116, if_neg hc52_118, if_pos hc61_121, if_neg hc70_123, if_pos hc79_126, if_neg hc88_128, if_pos hc97_131, if_neg hc106_133, if_pos hc115_136, if_neg hc124_138, if_pos hc133_141, if_neg hc142_143, if_pos hc151_146, if_neg hc160_148, if_pos hc169_151, if_pos hc178_153]
                                              rw [ev]
                                              exact ⟨rfl, rfl, e0⟩
                                          · have P155 : ∀ t, Steps p.tables e below (s₁.setTop (mkF m 187 #[.val (.int p1)] [(.int (12271 : Int32)), (.int p1)])) t → Steps p.tables e below (s₁.setTop (entryFrame m #[(.int p1)] 1)) t := fun t kt => P152 t (by
                                              show Steps p.tables e below (s₁.setTop (mkF m 178 #[.val (.int p1)] [(.int (11264 : Int32)), (.int p1)])) _
                                              refine XS.icmpYes X0.here hx rfl (pc0 := 178) (pc' := 183) rfl (hb hby dE_178) rfl (flt hc178_153).2.1 (by decide) (by decide) ?_
                                              show Steps p.tables e below (s₁.setTop (mkF m 183 #[.val (.int p1)] [])) _
                                              refine XS.iloadN X0.here hx rfl (hb hby dE_183) rfl ?_
                                              show Steps p.tables e below (s₁.setTop (mkF m 184 #[.val (.int p1)] [(.int p1)])) _
                                              refine XS.sipush X0.here hx rfl (hb hby dE_184) ?_
                                              exact kt)
                                            by_cases hc187_156 : (12271 : Int32) < p1
                                            · have P157 : ∀ t, Steps p.tables e below (s₁.setTop (mkF m 196 #[.val (.int p1)] [(.int (12289 : Int32)), (.int p1)])) t → Steps p.tables e below (s₁.setTop (entryFrame m #[(.int p1)] 1)) t := fun t kt => P155 t (by
                                                show Steps p.tables e below (s₁.setTop (mkF m 187 #[.val (.int p1)] [(.int (12271 : Int32)), (.int p1)])) _
                                                refine XS.icmpYes X0.here hx rfl (pc0 := 187) (pc' := 192) rfl (hb hby dE_187) rfl (tlt hc187_156).2.2.1 (by decide) (by decide) ?_
                                                show Steps p.tables e below (s₁.setTop (mkF m 192 #[.val (.int p1)] [])) _
                                                refine XS.iloadN X0.here hx rfl (hb hby dE_192) rfl ?_
                                                show Steps p.tables e below (s₁.setTop (mkF m 193 #[.val (.int p1)] [(.int p1)])) _
                                                refine XS.sipush X0.here hx rfl (hb hby dE_193) ?_
                                                exact kt)
                                              by_cases hc196_158 : p1 < (12289 : Int32)
                                              · have P159 : ∀ t, Steps p.tables e below (s₁.setTop (mkF m 200 #[.val (.int p1)] [(.int (0 : Int32))])) t → Steps p.tables e below (s₁.setTop (entryFrame m #[(.int p1)] 1)) t := fun t kt => P157 t (by
                                                  show Steps p.tables e below (s₁.setTop (mkF m 196 #[.val (.int p1)] [(.int (12289 : Int32)), (.int p1)])) _
                                                  refine XS.icmpNo X0.here hx rfl (hb hby dE_196) rfl (tlt hc196_158).2.1 ?_
                                                  show Steps p.tables e below (s₁.setTop (mkF m 199 #[.val (.int p1)] [])) _
                                                  refine XS.iconst X0.here hx rfl (hb hby dE_199) ?_
                                                  exact kt)
                                                obtain ⟨fs, hr, hrun, hended, hW, hsame⟩ := X0.leave (v := some (.int (0 : Int32))) (fun h => by rw [Bd.returns] at h; cases h) (hlocks := hlk)
                                                refine ⟨_, _, P159 _ ?_, hrun, hended, _, _, rfl, ?_, ⟨_, rfl⟩, hW, hsame.mono (by decide) (by decide)⟩
                                                · show Steps p.tables e below (s₁.setTop (mkF m 200 #[.val (.int p1)] [(.int (0 : Int32))])) _
                                                  exact retN X0 hx (t := .boolean) Bd.returns (by simp) (hb hby dE_200) hr
                                                · show QP _ h0 _ s₁.heap _
                                                  have ev : fE p1 = (0 : Int32) := by unfold fE; rw [if_neg hc3_102, if_pos hc11_105, if_neg hc19_107, if_neg hc27_110, if_neg hc35_113, if_pos hc43_116, if_neg hc52_118, if_pos hc61_121, if_neg hc70_123, if_pos hc79_126, if_neg hc88_128, if_pos hc97_131, if_neg hc106_133, if_pos hc115_136, if_neg hc124_138, if_pos hc133_141, if_neg hc142_143, if_pos hc151_146, if_neg hc160_148, if_pos hc169_151, if_neg hc178_153, if_pos hc187_156, if_pos hc196_158]
                                                  rw [ev]
                                                  exact ⟨rfl, rfl, e0⟩
                                              · have P160 : ∀ t, Steps p.tables e below (s₁.setTop (mkF m 204 #[.val (.int p1)] [(.int (55295 : Int32)), (.int p1)])) t → Steps p.tables e below (s₁.setTop (entryFrame m #[(.int p1)] 1)) t := fun t kt => P157 t (by
                                                  show Steps p.tables e below (s₁.setTop (mkF m 196 #[.val (.int p1)] [(.int (12289 : Int32)), (.int p1)])) _
                                                  refine XS.icmpYes X0.here hx rfl (pc0 := 196) (pc' := 201) rfl (hb hby dE_196) rfl (flt hc196_158).2.1 (by decide) (by decide) ?_
                                                  show Steps p.tables e below (s₁.setTop (mkF m 201 #[.val (.int p1)] [])) _
                                                  refine XS.iloadN X0.here hx rfl (hb hby dE_201) rfl ?_
                                                  show Steps p.tables e below (s₁.setTop (mkF m 202 #[.val (.int p1)] [(.int p1)])) _
                                                  refine X0.ldcInt hx hown (mvT hZ (hw _ (List.mem_of_getElem? (i := 20) rfl))) (g := (mkF m 202 #[.val (.int p1)] [(.int p1)])) rfl (hb hby dE_202) _ ?_
                                                  exact kt)
                                                by_cases hc204_161 : (55295 : Int32) < p1
                                                · have P162 : ∀ t, Steps p.tables e below (s₁.setTop (mkF m 212 #[.val (.int p1)] [(.int (63744 : Int32)), (.int p1)])) t → Steps p.tables e below (s₁.setTop (entryFrame m #[(.int p1)] 1)) t := fun t kt => P160 t (by
                                                    show Steps p.tables e below (s₁.setTop (mkF m 204 #[.val (.int p1)] [(.int (55295 : Int32)), (.int p1)])) _
                                                    refine XS.icmpYes X0.here hx rfl (pc0 := 204) (pc' := 209) rfl (hb hby dE_204) rfl (tlt hc204_161).2.2.1 (by decide) (by decide) ?_
                                                    show Steps p.tables e below (s₁.setTop (mkF m 209 #[.val (.int p1)] [])) _
                                                    refine XS.iloadN X0.here hx rfl (hb hby dE_209) rfl ?_
                                                    show Steps p.tables e below (s₁.setTop (mkF m 210 #[.val (.int p1)] [(.int p1)])) _
                                                    refine X0.ldcInt hx hown (mvT hZ (hw _ (List.mem_of_getElem? (i := 21) rfl))) (g := (mkF m 210 #[.val (.int p1)] [(.int p1)])) rfl (hb hby dE_210) _ ?_
                                                    exact kt)
                                                  by_cases hc212_163 : p1 < (63744 : Int32)
                                                  · have P164 : ∀ t, Steps p.tables e below (s₁.setTop (mkF m 216 #[.val (.int p1)] [(.int (0 : Int32))])) t → Steps p.tables e below (s₁.setTop (entryFrame m #[(.int p1)] 1)) t := fun t kt => P162 t (by
                                                      show Steps p.tables e below (s₁.setTop (mkF m 212 #[.val (.int p1)] [(.int (63744 : Int32)), (.int p1)])) _
                                                      refine XS.icmpNo X0.here hx rfl (hb hby dE_212) rfl (tlt hc212_163).2.1 ?_
                                                      show Steps p.tables e below (s₁.setTop (mkF m 215 #[.val (.int p1)] [])) _
                                                      refine XS.iconst X0.here hx rfl (hb hby dE_215) ?_
                                                      exact kt)
                                                    obtain ⟨fs, hr, hrun, hended, hW, hsame⟩ := X0.leave (v := some (.int (0 : Int32))) (fun h => by rw [Bd.returns] at h; cases h) (hlocks := hlk)
                                                    refine ⟨_, _, P164 _ ?_, hrun, hended, _, _, rfl, ?_, ⟨_, rfl⟩, hW, hsame.mono (by decide) (by decide)⟩
                                                    · show Steps p.tables e below (s₁.setTop (mkF m 216 #[.val (.int p1)] [(.int (0 : Int32))])) _
                                                      exact retN X0 hx (t := .boolean) Bd.returns (by simp) (hb hby dE_216) hr
                                                    · show QP _ h0 _ s₁.heap _
                                                      have ev : fE p1 = (0 : Int32) := by unfold fE; rw [if_neg hc3_102, if_pos hc11_105, if_neg hc19_107, if_neg hc27_110, if_neg hc35_113, if_pos hc43_116, if_neg hc52_118, if_pos hc61_121, if_neg hc70_123, if_pos hc79_126, if_neg hc88_128, if_pos hc97_131, if_neg hc106_133, if_pos hc115_136, if_neg hc124_138, if_pos hc133_141, if_neg hc142_143, if_pos hc151_146, if_neg hc160_148, if_pos hc169_151, if_neg hc178_153, if_pos hc187_156, if_neg hc196_158, if_pos hc204_161, if_pos hc212_163]
                                                      rw [ev]
                                                      exact ⟨rfl, rfl, e0⟩
                                                  · have P165 : ∀ t, Steps p.tables e below (s₁.setTop (mkF m 220 #[.val (.int p1)] [(.int (64975 : Int32)), (.int p1)])) t → Steps p.tables e below (s₁.setTop (entryFrame m #[(.int p1)] 1)) t := fun t kt => P162 t (by
                                                      show Steps p.tables e below (s₁.setTop (mkF m 212 #[.val (.int p1)] [(.int (63744 : Int32)), (.int p1)])) _
                                                      refine XS.icmpYes X0.here hx rfl (pc0 := 212) (pc' := 217) rfl (hb hby dE_212) rfl (flt hc212_163).2.1 (by decide) (by decide) ?_
                                                      show Steps p.tables e below (s₁.setTop (mkF m 217 #[.val (.int p1)] [])) _
                                                      refine XS.iloadN X0.here hx rfl (hb hby dE_217) rfl ?_
                                                      show Steps p.tables e below (s₁.setTop (mkF m 218 #[.val (.int p1)] [(.int p1)])) _
                                                      refine X0.ldcInt hx hown (mvT hZ (hw _ (List.mem_of_getElem? (i := 22) rfl))) (g := (mkF m 218 #[.val (.int p1)] [(.int p1)])) rfl (hb hby dE_218) _ ?_
                                                      exact kt)
                                                    by_cases hc220_166 : (64975 : Int32) < p1
                                                    · have P167 : ∀ t, Steps p.tables e below (s₁.setTop (mkF m 228 #[.val (.int p1)] [(.int (65008 : Int32)), (.int p1)])) t → Steps p.tables e below (s₁.setTop (entryFrame m #[(.int p1)] 1)) t := fun t kt => P165 t (by
                                                        show Steps p.tables e below (s₁.setTop (mkF m 220 #[.val (.int p1)] [(.int (64975 : Int32)), (.int p1)])) _
                                                        refine XS.icmpYes X0.here hx rfl (pc0 := 220) (pc' := 225) rfl (hb hby dE_220) rfl (tlt hc220_166).2.2.1 (by decide) (by decide) ?_
                                                        show Steps p.tables e below (s₁.setTop (mkF m 225 #[.val (.int p1)] [])) _
                                                        refine XS.iloadN X0.here hx rfl (hb hby dE_225) rfl ?_
                                                        show Steps p.tables e below (s₁.setTop (mkF m 226 #[.val (.int p1)] [(.int p1)])) _
                                                        refine X0.ldcInt hx hown (mvT hZ (hw _ (List.mem_of_getElem? (i := 23) rfl))) (g := (mkF m 226 #[.val (.int p1)] [(.int p1)])) rfl (hb hby dE_226) _ ?_
                                                        exact kt)
                                                      by_cases hc228_168 : p1 < (65008 : Int32)
                                                      · have P169 : ∀ t, Steps p.tables e below (s₁.setTop (mkF m 232 #[.val (.int p1)] [(.int (0 : Int32))])) t → Steps p.tables e below (s₁.setTop (entryFrame m #[(.int p1)] 1)) t := fun t kt => P167 t (by
                                                          show Steps p.tables e below (s₁.setTop (mkF m 228 #[.val (.int p1)] [(.int (65008 : Int32)), (.int p1)])) _
                                                          refine XS.icmpNo X0.here hx rfl (hb hby dE_228) rfl (tlt hc228_168).2.1 ?_
                                                          show Steps p.tables e below (s₁.setTop (mkF m 231 #[.val (.int p1)] [])) _
                                                          refine XS.iconst X0.here hx rfl (hb hby dE_231) ?_
                                                          exact kt)
                                                        obtain ⟨fs, hr, hrun, hended, hW, hsame⟩ := X0.leave (v := some (.int (0 : Int32))) (fun h => by rw [Bd.returns] at h; cases h) (hlocks := hlk)
                                                        refine ⟨_, _, P169 _ ?_, hrun, hended, _, _, rfl, ?_, ⟨_, rfl⟩, hW, hsame.mono (by decide) (by decide)⟩
                                                        · show Steps p.tables e below (s₁.setTop (mkF m 232 #[.val (.int p1)] [(.int (0 : Int32))])) _
                                                          exact retN X0 hx (t := .boolean) Bd.returns (by simp) (hb hby dE_232) hr
                                                        · show QP _ h0 _ s₁.heap _
                                                          have ev : fE p1 = (0 : Int32) := by unfold fE; rw [if_neg hc3_102, if_pos hc11_105, if_neg hc19_107, if_neg hc27_110, if_neg hc35_113, if_pos hc43_116, if_neg hc52_118, if_pos hc61_121, if_neg hc70_123, if_pos hc79_126, if_neg hc88_128, if_pos hc97_131, if_neg hc106_133, if_pos hc115_136, if_neg hc124_138, if_pos hc133_141, if_neg hc142_143, if_pos hc151_146, if_neg hc160_148, if_pos hc169_151, if_neg hc178_153, if_pos hc187_156, if_neg hc196_158, if_pos hc204_161, if_neg hc212_163, if_pos hc220_166, if_pos hc228_168]
                                                          rw [ev]
                                                          exact ⟨rfl, rfl, e0⟩
                                                      · have P170 : ∀ t, Steps p.tables e below (s₁.setTop (mkF m 236 #[.val (.int p1)] [(.int (65533 : Int32)), (.int p1)])) t → Steps p.tables e below (s₁.setTop (entryFrame m #[(.int p1)] 1)) t := fun t kt => P167 t (by
                                                          show Steps p.tables e below (s₁.setTop (mkF m 228 #[.val (.int p1)] [(.int (65008 : Int32)), (.int p1)])) _
                                                          refine XS.icmpYes X0.here hx rfl (pc0 := 228) (pc' := 233) rfl (hb hby dE_228) rfl (flt hc228_168).2.1 (by decide) (by decide) ?_
                                                          show Steps p.tables e below (s₁.setTop (mkF m 233 #[.val (.int p1)] [])) _
                                                          refine XS.iloadN X0.here hx rfl (hb hby dE_233) rfl ?_
                                                          show Steps p.tables e below (s₁.setTop (mkF m 234 #[.val (.int p1)] [(.int p1)])) _
                                                          refine X0.ldcInt hx hown (mvT hZ (hw _ (List.mem_of_getElem? (i := 24) rfl))) (g := (mkF m 234 #[.val (.int p1)] [(.int p1)])) rfl (hb hby dE_234) _ ?_
                                                          exact kt)
                                                        by_cases hc236_171 : (65533 : Int32) < p1
                                                        · have P172 : ∀ t, Steps p.tables e below (s₁.setTop (mkF m 244 #[.val (.int p1)] [(.int (65536 : Int32)), (.int p1)])) t → Steps p.tables e below (s₁.setTop (entryFrame m #[(.int p1)] 1)) t := fun t kt => P170 t (by
                                                            show Steps p.tables e below (s₁.setTop (mkF m 236 #[.val (.int p1)] [(.int (65533 : Int32)), (.int p1)])) _
                                                            refine XS.icmpYes X0.here hx rfl (pc0 := 236) (pc' := 241) rfl (hb hby dE_236) rfl (tlt hc236_171).2.2.1 (by decide) (by decide) ?_
                                                            show Steps p.tables e below (s₁.setTop (mkF m 241 #[.val (.int p1)] [])) _
                                                            refine XS.iloadN X0.here hx rfl (hb hby dE_241) rfl ?_
                                                            show Steps p.tables e below (s₁.setTop (mkF m 242 #[.val (.int p1)] [(.int p1)])) _
                                                            refine X0.ldcInt hx hown (mvT hZ (hw _ (List.mem_of_getElem? (i := 25) rfl))) (g := (mkF m 242 #[.val (.int p1)] [(.int p1)])) rfl (hb hby dE_242) _ ?_
                                                            exact kt)
                                                          by_cases hc244_173 : p1 < (65536 : Int32)
                                                          · have P174 : ∀ t, Steps p.tables e below (s₁.setTop (mkF m 248 #[.val (.int p1)] [(.int (0 : Int32))])) t → Steps p.tables e below (s₁.setTop (entryFrame m #[(.int p1)] 1)) t := fun t kt => P172 t (by
                                                              show Steps p.tables e below (s₁.setTop (mkF m 244 #[.val (.int p1)] [(.int (65536 : Int32)), (.int p1)])) _
                                                              refine XS.icmpNo X0.here hx rfl (hb hby dE_244) rfl (tlt hc244_173).2.1 ?_
                                                              show Steps p.tables e below (s₁.setTop (mkF m 247 #[.val (.int p1)] [])) _
                                                              refine XS.iconst X0.here hx rfl (hb hby dE_247) ?_
                                                              exact kt)
                                                            obtain ⟨fs, hr, hrun, hended, hW, hsame⟩ := X0.leave (v := some (.int (0 : Int32))) (fun h => by rw [Bd.returns] at h; cases h) (hlocks := hlk)
                                                            refine ⟨_, _, P174 _ ?_, hrun, hended, _, _, rfl, ?_, ⟨_, rfl⟩, hW, hsame.mono (by decide) (by decide)⟩
                                                            · show Steps p.tables e below (s₁.setTop (mkF m 248 #[.val (.int p1)] [(.int (0 : Int32))])) _
                                                              exact retN X0 hx (t := .boolean) Bd.returns (by simp) (hb hby dE_248) hr
                                                            · show QP _ h0 _ s₁.heap _
                                                              have ev : fE p1 = (0 : Int32) := by unfold fE; rw [if_neg hc3_102, if_pos hc11_105, if_neg hc19_107, if_neg hc27_110, if_neg hc35_113, if_pos hc43_116, if_neg hc52_118, if_pos hc61_121, if_neg hc70_123, if_pos hc79_126, if_neg hc88_128, if_pos hc97_131, if_neg hc106_133, if_pos hc115_136, if_neg hc124_138, if_pos hc133_141, if_neg hc142_143, if_pos hc151_146, if_neg hc160_148, if_pos hc169_151, if_neg hc178_153, if_pos hc187_156, if_neg hc196_158, if_pos hc204_161, if_neg hc212_163, if_pos hc220_166, if_neg hc228_168, if_pos hc236_171, if_pos hc244_173]
                                                              rw [ev]
                                                              exact ⟨rfl, rfl, e0⟩
                                                          · have P175 : ∀ t, Steps p.tables e below (s₁.setTop (mkF m 252 #[.val (.int p1)] [(.int (983039 : Int32)), (.int p1)])) t → Steps p.tables e below (s₁.setTop (entryFrame m #[(.int p1)] 1)) t := fun t kt => P172 t (by
                                                              show Steps p.tables e below (s₁.setTop (mkF m 244 #[.val (.int p1)] [(.int (65536 : Int32)), (.int p1)])) _
                                                              refine XS.icmpYes X0.here hx rfl (pc0 := 244) (pc' := 249) rfl (hb hby dE_244) rfl (flt hc244_173).2.1 (by decide) (by decide) ?_
                                                              show Steps p.tables e below (s₁.setTop (mkF m 249 #[.val (.int p1)] [])) _
                                                              refine XS.iloadN X0.here hx rfl (hb hby dE_249) rfl ?_
                                                              show Steps p.tables e below (s₁.setTop (mkF m 250 #[.val (.int p1)] [(.int p1)])) _
                                                              refine X0.ldcInt hx hown (mvT hZ (hw _ (List.mem_of_getElem? (i := 26) rfl))) (g := (mkF m 250 #[.val (.int p1)] [(.int p1)])) rfl (hb hby dE_250) _ ?_
                                                              exact kt)
                                                            by_cases hc252_176 : (983039 : Int32) < p1
                                                            · have P177 : ∀ t, Steps p.tables e below (s₁.setTop (mkF m 260 #[.val (.int p1)] [(.int (0 : Int32))])) t → Steps p.tables e below (s₁.setTop (entryFrame m #[(.int p1)] 1)) t := fun t kt => P175 t (by
                                                                show Steps p.tables e below (s₁.setTop (mkF m 252 #[.val (.int p1)] [(.int (983039 : Int32)), (.int p1)])) _
                                                                refine XS.icmpYes X0.here hx rfl (pc0 := 252) (pc' := 259) rfl (hb hby dE_252) rfl (tlt hc252_176).2.2.1 (by decide) (by decide) ?_
                                                                show Steps p.tables e below (s₁.setTop (mkF m 259 #[.val (.int p1)] [])) _
                                                                refine XS.iconst X0.here hx rfl (hb hby dE_259) ?_
                                                                exact kt)
                                                              obtain ⟨fs, hr, hrun, hended, hW, hsame⟩ := X0.leave (v := some (.int (0 : Int32))) (fun h => by rw [Bd.returns] at h; cases h) (hlocks := hlk)
                                                              refine ⟨_, _, P177 _ ?_, hrun, hended, _, _, rfl, ?_, ⟨_, rfl⟩, hW, hsame.mono (by decide) (by decide)⟩
                                                              · show Steps p.tables e below (s₁.setTop (mkF m 260 #[.val (.int p1)] [(.int (0 : Int32))])) _
                                                                exact retN X0 hx (t := .boolean) Bd.returns (by simp) (hb hby dE_260) hr
                                                              · show QP _ h0 _ s₁.heap _
                                                                have ev : fE p1 = (0 : Int32) := by unfold fE; rw [if_neg hc3_102, if_pos hc11_105, if_neg hc19_107, if_neg hc27_110, if_neg hc35_113, if_pos hc43_116, if_neg hc52_118, if_pos hc61_121, if_neg hc70_123, if_pos hc79_126, if_neg hc88_128, if_pos hc97_131, if_neg hc106_133, if_pos hc115_136, if_neg hc124_138, if_pos hc133_141, if_neg hc142_143, if_pos hc151_146, if_neg hc160_148, if_pos hc169_151, if_neg hc178_153, if_pos hc187_156, if_neg hc196_158, if_pos hc204_161, if_neg hc212_163, if_pos hc220_166, if_neg hc228_168, if_pos hc236_171, if_neg hc244_173, if_pos hc252_176]
                                                                rw [ev]
                                                                exact ⟨rfl, rfl, e0⟩
                                                            · have P178 : ∀ t, Steps p.tables e below (s₁.setTop (mkF m 260 #[.val (.int p1)] [(.int (1 : Int32))])) t → Steps p.tables e below (s₁.setTop (entryFrame m #[(.int p1)] 1)) t := fun t kt => P175 t (by
                                                                show Steps p.tables e below (s₁.setTop (mkF m 252 #[.val (.int p1)] [(.int (983039 : Int32)), (.int p1)])) _
                                                                refine XS.icmpNo X0.here hx rfl (hb hby dE_252) rfl (flt hc252_176).2.2.1 ?_
                                                                show Steps p.tables e below (s₁.setTop (mkF m 255 #[.val (.int p1)] [])) _
                                                                refine XS.iconst X0.here hx rfl (hb hby dE_255) ?_
                                                                show Steps p.tables e below (s₁.setTop (mkF m 256 #[.val (.int p1)] [(.int (1 : Int32))])) _
                                                                refine XS.goto X0.here hx rfl (pc0 := 256) (pc' := 260) rfl (hb hby dE_256) (by decide) (by decide) ?_
                                                                exact kt)
                                                              obtain ⟨fs, hr, hrun, hended, hW, hsame⟩ := X0.leave (v := some (.int (1 : Int32))) (fun h => by rw [Bd.returns] at h; cases h) (hlocks := hlk)
                                                              refine ⟨_, _, P178 _ ?_, hrun, hended, _, _, rfl, ?_, ⟨_, rfl⟩, hW, hsame.mono (by decide) (by decide)⟩
                                                              · show Steps p.tables e below (s₁.setTop (mkF m 260 #[.val (.int p1)] [(.int (1 : Int32))])) _
                                                                exact retN X0 hx (t := .boolean) Bd.returns (by simp) (hb hby dE_260) hr
                                                              · show QP _ h0 _ s₁.heap _
                                                                have ev : fE p1 = (1 : Int32) := by unfold fE; rw [if_neg hc3_102, if_pos hc11_105, if_neg hc19_107, if_neg hc27_110, if_neg hc35_113, if_pos hc43_116, if_neg hc52_118, if_pos hc61_121, if_neg hc70_123, if_pos hc79_126, if_neg hc88_128, if_pos hc97_131, if_neg hc106_133, if_pos hc115_136, if_neg hc124_138, if_pos hc133_141, if_neg hc142_143, if_pos hc151_146, if_neg hc160_148, if_pos hc169_151, if_neg hc178_153, if_pos hc187_156, if_neg hc196_158, if_pos hc204_161, if_neg hc212_163, if_pos hc220_166, if_neg hc228_168, if_pos hc236_171, if_neg hc244_173, if_neg hc252_176]
                                                                rw [ev]
                                                                exact ⟨rfl, rfl, e0⟩
                                                        · have P179 : ∀ t, Steps p.tables e below (s₁.setTop (mkF m 240 #[.val (.int p1)] [(.int (1 : Int32))])) t → Steps p.tables e below (s₁.setTop (entryFrame m #[(.int p1)] 1)) t := fun t kt => P170 t (by
                                                            show Steps p.tables e below (s₁.setTop (mkF m 236 #[.val (.int p1)] [(.int (65533 : Int32)), (.int p1)])) _
                                                            refine XS.icmpNo X0.here hx rfl (hb hby dE_236) rfl (flt hc236_171).2.2.1 ?_
                                                            show Steps p.tables e below (s₁.setTop (mkF m 239 #[.val (.int p1)] [])) _
                                                            refine XS.iconst X0.here hx rfl (hb hby dE_239) ?_
                                                            exact kt)
                                                          obtain ⟨fs, hr, hrun, hended, hW, hsame⟩ := X0.leave (v := some (.int (1 : Int32))) (fun h => by rw [Bd.returns] at h; cases h) (hlocks := hlk)
                                                          refine ⟨_, _, P179 _ ?_, hrun, hended, _, _, rfl, ?_, ⟨_, rfl⟩, hW, hsame.mono (by decide) (by decide)⟩
                                                          · show Steps p.tables e below (s₁.setTop (mkF m 240 #[.val (.int p1)] [(.int (1 : Int32))])) _
                                                            exact retN X0 hx (t := .boolean) Bd.returns (by simp) (hb hby dE_240) hr
                                                          · show QP _ h0 _ s₁.heap _
                                                            have ev : fE p1 = (1 : Int32) := by unfold fE; rw [if_neg hc3_102, if_pos hc11_105, if_neg hc19_107, if_neg hc27_110, if_neg hc35_113, if_pos hc43_116, if_neg hc52_118, if_pos hc61_121, if_neg hc70_123, if_pos hc79_126, if_neg hc88_128, if_pos hc97_131, if_neg hc106_133, if_pos hc115_136, if_neg hc124_138, if_pos hc133_141, if_neg hc142_143, if_pos hc151_146, if_neg hc160_148, if_pos hc169_151, if_neg hc178_153, if_pos hc187_156, if_neg hc196_158, if_pos hc204_161, if_neg hc212_163, if_pos hc220_166, if_neg hc228_168, if_neg hc236_171]
                                                            rw [ev]
                                                            exact ⟨rfl, rfl, e0⟩
                                                    · have P180 : ∀ t, Steps p.tables e below (s₁.setTop (mkF m 224 #[.val (.int p1)] [(.int (1 : Int32))])) t → Steps p.tables e below (s₁.setTop (entryFrame m #[(.int p1)] 1)) t := fun t kt => P165 t (by
                                                        show Steps p.tables e below (s₁.setTop (mkF m 220 #[.val (.int p1)] [(.int (64975 : Int32)), (.int p1)])) _
                                                        refine XS.icmpNo X0.here hx rfl (hb hby dE_220) rfl (flt hc220_166).2.2.1 ?_
                                                        show Steps p.tables e below (s₁.setTop (mkF m 223 #[.val (.int p1)] [])) _
                                                        refine XS.iconst X0.here hx rfl (hb hby dE_223) ?_
                                                        exact kt)
                                                      obtain ⟨fs, hr, hrun, hended, hW, hsame⟩ := X0.leave (v := some (.int (1 : Int32))) (fun h => by rw [Bd.returns] at h; cases h) (hlocks := hlk)
                                                      refine ⟨_, _, P180 _ ?_, hrun, hended, _, _, rfl, ?_, ⟨_, rfl⟩, hW, hsame.mono (by decide) (by decide)⟩
                                                      · show Steps p.tables e below (s₁.setTop (mkF m 224 #[.val (.int p1)] [(.int (1 : Int32))])) _
                                                        exact retN X0 hx (t := .boolean) Bd.returns (by simp) (hb hby dE_224) hr
                                                      · show QP _ h0 _ s₁.heap _
                                                        have ev : fE p1 = (1 : Int32) := by unfold fE; rw [if_neg hc3_102, if_pos hc11_105, if_neg hc19_107, if_neg hc27_110, if_neg hc35_113, if_pos hc43_116, if_neg hc52_118, if_pos hc61_121, if_neg hc70_123, if_pos hc79_126, if_neg hc88_128, if_pos hc97_131, if_neg hc106_133, if_pos hc115_136, if_neg hc124_138, if_pos hc133_141, if_neg hc142_143, if_pos hc151_146, if_neg hc160_148, if_pos hc169_151, if_neg hc178_153, if_pos hc187_156, if_neg hc196_158, if_pos hc204_161, if_neg hc212_163, if_neg hc220_166]
                                                        rw [ev]
                                                        exact ⟨rfl, rfl, e0⟩
                                                · have P181 : ∀ t, Steps p.tables e below (s₁.setTop (mkF m 208 #[.val (.int p1)] [(.int (1 : Int32))])) t → Steps p.tables e below (s₁.setTop (entryFrame m #[(.int p1)] 1)) t := fun t kt => P160 t (by
                                                    show Steps p.tables e below (s₁.setTop (mkF m 204 #[.val (.int p1)] [(.int (55295 : Int32)), (.int p1)])) _
                                                    refine XS.icmpNo X0.here hx rfl (hb hby dE_204) rfl (flt hc204_161).2.2.1 ?_
                                                    show Steps p.tables e below (s₁.setTop (mkF m 207 #[.val (.int p1)] [])) _
                                                    refine XS.iconst X0.here hx rfl (hb hby dE_207) ?_
                                                    exact kt)
                                                  obtain ⟨fs, hr, hrun, hended, hW, hsame⟩ := X0.leave (v := some (.int (1 : Int32))) (fun h => by rw [Bd.returns] at h; cases h) (hlocks := hlk)
                                                  refine ⟨_, _, P181 _ ?_, hrun, hended, _, _, rfl, ?_, ⟨_, rfl⟩, hW, hsame.mono (by decide) (by decide)⟩
                                                  · show Steps p.tables e below (s₁.setTop (mkF m 208 #[.val (.int p1)] [(.int (1 : Int32))])) _
                                                    exact retN X0 hx (t := .boolean) Bd.returns (by simp) (hb hby dE_208) hr
                                                  · show QP _ h0 _ s₁.heap _
                                                    have ev : fE p1 = (1 : Int32) := by unfold fE; rw [if_neg hc3_102, if_pos hc11_105, if_neg hc19_107, if_neg hc27_110, if_neg hc35_113, if_pos hc43_116, if_neg hc52_118, if_pos hc61_121, if_neg hc70_123, if_pos hc79_126, if_neg hc88_128, if_pos hc97_131, if_neg hc106_133, if_pos hc115_136, if_neg hc124_138, if_pos hc133_141, if_neg hc142_143, if_pos hc151_146, if_neg hc160_148, if_pos hc169_151, if_neg hc178_153, if_pos hc187_156, if_neg hc196_158, if_neg hc204_161]
                                                    rw [ev]
                                                    exact ⟨rfl, rfl, e0⟩
                                            · have P182 : ∀ t, Steps p.tables e below (s₁.setTop (mkF m 191 #[.val (.int p1)] [(.int (1 : Int32))])) t → Steps p.tables e below (s₁.setTop (entryFrame m #[(.int p1)] 1)) t := fun t kt => P155 t (by
                                                show Steps p.tables e below (s₁.setTop (mkF m 187 #[.val (.int p1)] [(.int (12271 : Int32)), (.int p1)])) _
                                                refine XS.icmpNo X0.here hx rfl (hb hby dE_187) rfl (flt hc187_156).2.2.1 ?_
                                                show Steps p.tables e below (s₁.setTop (mkF m 190 #[.val (.int p1)] [])) _
                                                refine XS.iconst X0.here hx rfl (hb hby dE_190) ?_
                                                exact kt)
                                              obtain ⟨fs, hr, hrun, hended, hW, hsame⟩ := X0.leave (v := some (.int (1 : Int32))) (fun h => by rw [Bd.returns] at h; cases h) (hlocks := hlk)
                                              refine ⟨_, _, P182 _ ?_, hrun, hended, _, _, rfl, ?_, ⟨_, rfl⟩, hW, hsame.mono (by decide) (by decide)⟩
                                              · show Steps p.tables e below (s₁.setTop (mkF m 191 #[.val (.int p1)] [(.int (1 : Int32))])) _
                                                exact retN X0 hx (t := .boolean) Bd.returns (by simp) (hb hby dE_191) hr
                                              · show QP _ h0 _ s₁.heap _
                                                have ev : fE p1 = (1 : Int32) := by unfold fE; rw [if_neg hc3_102, if_pos hc11_105, if_neg hc19_107, if_neg hc27_110, if_neg hc35_113, if_pos hc43_116, if_neg hc52_118, if_pos hc61_121, if_neg hc70_123, if_pos hc79_126, if_neg hc88_128, if_pos hc97_131, if_neg hc106_133, if_pos hc115_136, if_neg hc124_138, if_pos hc133_141, if_neg hc142_143, if_pos hc151_146, if_neg hc160_148, if_pos hc169_151, if_neg hc178_153, if_neg hc187_156]
                                                rw [ev]
                                                exact ⟨rfl, rfl, e0⟩
                                        · have P183 : ∀ t, Steps p.tables e below (s₁.setTop (mkF m 173 #[.val (.int p1)] [(.int (1 : Int32))])) t → Steps p.tables e below (s₁.setTop (entryFrame m #[(.int p1)] 1)) t := fun t kt => P150 t (by
                                            show Steps p.tables e below (s₁.setTop (mkF m 169 #[.val (.int p1)] [(.int (8591 : Int32)), (.int p1)])) _
                                            refine XS.icmpNo X0.here hx rfl (hb hby dE_169) rfl (flt hc169_151).2.2.1 ?_
                                            show Steps p.tables e below (s₁.setTop (mkF m 172 #[.val (.int p1)] [])) _
                                            refine XS.iconst X0.here hx rfl (hb hby dE_172) ?_
                                            exact kt)
                                          obtain ⟨fs, hr, hrun, hended, hW, hsame⟩ := X0.leave (v := some (.int (1 : Int32))) (fun h => by rw [Bd.returns] at h; cases h) (hlocks := hlk)
                                          refine ⟨_, _, P183 _ ?_, hrun, hended, _, _, rfl, ?_, ⟨_, rfl⟩, hW, hsame.mono (by decide) (by decide)⟩
                                          · show Steps p.tables e below (s₁.setTop (mkF m 173 #[.val (.int p1)] [(.int (1 : Int32))])) _
                                            exact retN X0 hx (t := .boolean) Bd.returns (by simp) (hb hby dE_173) hr
                                          · show QP _ h0 _ s₁.heap _
                                            have ev : fE p1 = (1 : Int32) := by unfold fE; rw [if_neg hc3_102, if_pos hc11_105, if_neg hc19_107, if_neg hc27_110, if_neg hc35_113, if_pos hc43_116, if_neg hc52_118, if_pos hc61_121, if_neg hc70_123, if_pos hc79_126, if_neg hc88_128, if_pos hc97_131, if_neg hc106_133, if_pos hc115_136, if_neg hc124_138, if_pos hc133_141, if_neg hc142_143, if_pos hc151_146, if_neg hc160_148, if_neg hc169_151]
                                            rw [ev]
                                            exact ⟨rfl, rfl, e0⟩
                                    · have P184 : ∀ t, Steps p.tables e below (s₁.setTop (mkF m 155 #[.val (.int p1)] [(.int (1 : Int32))])) t → Steps p.tables e below (s₁.setTop (entryFrame m #[(.int p1)] 1)) t := fun t kt => P145 t (by
                                        show Steps p.tables e below (s₁.setTop (mkF m 151 #[.val (.int p1)] [(.int (8205 : Int32)), (.int p1)])) _
                                        refine XS.icmpNo X0.here hx rfl (hb hby dE_151) rfl (flt hc151_146).2.2.1 ?_
                                        show Steps p.tables e below (s₁.setTop (mkF m 154 #[.val (.int p1)] [])) _
                                        refine XS.iconst X0.here hx rfl (hb hby dE_154) ?_
                                        exact kt)
                                      obtain ⟨fs, hr, hrun, hended, hW, hsame⟩ := X0.leave (v := some (.int (1 : Int32))) (fun h => by rw [Bd.returns] at h; cases h) (hlocks := hlk)
                                      refine ⟨_, _, P184 _ ?_, hrun, hended, _, _, rfl, ?_, ⟨_, rfl⟩, hW, hsame.mono (by decide) (by decide)⟩
                                      · show Steps p.tables e below (s₁.setTop (mkF m 155 #[.val (.int p1)] [(.int (1 : Int32))])) _
                                        exact retN X0 hx (t := .boolean) Bd.returns (by simp) (hb hby dE_155) hr
                                      · show QP _ h0 _ s₁.heap _
                                        have ev : fE p1 = (1 : Int32) := by unfold fE; rw [if_neg hc3_102, if_pos hc11_105, if_neg hc19_107, if_neg hc27_110, if_neg hc35_113, if_pos hc43_116, if_neg hc52_118, if_pos hc61_121, if_neg hc70_123, if_pos hc79_126, if_neg hc88_128, if_pos hc97_131, if_neg hc106_133, if_pos hc115_136, if_neg hc124_138, if_pos hc133_141, if_neg hc142_143, if_neg hc151_146]
                                        rw [ev]
                                        exact ⟨rfl, rfl, e0⟩
                                · have P185 : ∀ t, Steps p.tables e below (s₁.setTop (mkF m 137 #[.val (.int p1)] [(.int (1 : Int32))])) t → Steps p.tables e below (s₁.setTop (entryFrame m #[(.int p1)] 1)) t := fun t kt => P140 t (by
                                    show Steps p.tables e below (s₁.setTop (mkF m 133 #[.val (.int p1)] [(.int (8191 : Int32)), (.int p1)])) _
                                    refine XS.icmpNo X0.here hx rfl (hb hby dE_133) rfl (flt hc133_141).2.2.1 ?_
                                    show Steps p.tables e below (s₁.setTop (mkF m 136 #[.val (.int p1)] [])) _
                                    refine XS.iconst X0.here hx rfl (hb hby dE_136) ?_
                                    exact kt)
                                  obtain ⟨fs, hr, hrun, hended, hW, hsame⟩ := X0.leave (v := some (.int (1 : Int32))) (fun h => by rw [Bd.returns] at h; cases h) (hlocks := hlk)
                                  refine ⟨_, _, P185 _ ?_, hrun, hended, _, _, rfl, ?_, ⟨_, rfl⟩, hW, hsame.mono (by decide) (by decide)⟩
                                  · show Steps p.tables e below (s₁.setTop (mkF m 137 #[.val (.int p1)] [(.int (1 : Int32))])) _
                                    exact retN X0 hx (t := .boolean) Bd.returns (by simp) (hb hby dE_137) hr
                                  · show QP _ h0 _ s₁.heap _
                                    have ev : fE p1 = (1 : Int32) := by unfold fE; rw [if_neg hc3_102, if_pos hc11_105, if_neg hc19_107, if_neg hc27_110, if_neg hc35_113, if_pos hc43_116, if_neg hc52_118, if_pos hc61_121, if_neg hc70_123, if_pos hc79_126, if_neg hc88_128, if_pos hc97_131, if_neg hc106_133, if_pos hc115_136, if_neg hc124_138, if_neg hc133_141]
                                    rw [ev]
                                    exact ⟨rfl, rfl, e0⟩
                            · have P186 : ∀ t, Steps p.tables e below (s₁.setTop (mkF m 119 #[.val (.int p1)] [(.int (1 : Int32))])) t → Steps p.tables e below (s₁.setTop (entryFrame m #[(.int p1)] 1)) t := fun t kt => P135 t (by
                                show Steps p.tables e below (s₁.setTop (mkF m 115 #[.val (.int p1)] [(.int (893 : Int32)), (.int p1)])) _
                                refine XS.icmpNo X0.here hx rfl (hb hby dE_115) rfl (flt hc115_136).2.2.1 ?_
                                show Steps p.tables e below (s₁.setTop (mkF m 118 #[.val (.int p1)] [])) _
                                refine XS.iconst X0.here hx rfl (hb hby dE_118) ?_
                                exact kt)
                              obtain ⟨fs, hr, hrun, hended, hW, hsame⟩ := X0.leave (v := some (.int (1 : Int32))) (fun h => by rw [Bd.returns] at h; cases h) (hlocks := hlk)
                              refine ⟨_, _, P186 _ ?_, hrun, hended, _, _, rfl, ?_, ⟨_, rfl⟩, hW, hsame.mono (by decide) (by decide)⟩
                              · show Steps p.tables e below (s₁.setTop (mkF m 119 #[.val (.int p1)] [(.int (1 : Int32))])) _
                                exact retN X0 hx (t := .boolean) Bd.returns (by simp) (hb hby dE_119) hr
                              · show QP _ h0 _ s₁.heap _
                                have ev : fE p1 = (1 : Int32) := by unfold fE; rw [if_neg hc3_102, if_pos hc11_105, if_neg hc19_107, if_neg hc27_110, if_neg hc35_113, if_pos hc43_116, if_neg hc52_118, if_pos hc61_121, if_neg hc70_123, if_pos hc79_126, if_neg hc88_128, if_pos hc97_131, if_neg hc106_133, if_neg hc115_136]
                                rw [ev]
                                exact ⟨rfl, rfl, e0⟩
                        · have P187 : ∀ t, Steps p.tables e below (s₁.setTop (mkF m 101 #[.val (.int p1)] [(.int (1 : Int32))])) t → Steps p.tables e below (s₁.setTop (entryFrame m #[(.int p1)] 1)) t := fun t kt => P130 t (by
                            show Steps p.tables e below (s₁.setTop (mkF m 97 #[.val (.int p1)] [(.int (767 : Int32)), (.int p1)])) _
                            refine XS.icmpNo X0.here hx rfl (hb hby dE_97) rfl (flt hc97_131).2.2.1 ?_
                            show Steps p.tables e below (s₁.setTop (mkF m 100 #[.val (.int p1)] [])) _
                            refine XS.iconst X0.here hx rfl (hb hby dE_100) ?_
                            exact kt)
                          obtain ⟨fs, hr, hrun, hended, hW, hsame⟩ := X0.leave (v := some (.int (1 : Int32))) (fun h => by rw [Bd.returns] at h; cases h) (hlocks := hlk)
                          refine ⟨_, _, P187 _ ?_, hrun, hended, _, _, rfl, ?_, ⟨_, rfl⟩, hW, hsame.mono (by decide) (by decide)⟩
                          · show Steps p.tables e below (s₁.setTop (mkF m 101 #[.val (.int p1)] [(.int (1 : Int32))])) _
                            exact retN X0 hx (t := .boolean) Bd.returns (by simp) (hb hby dE_101) hr
                          · show QP _ h0 _ s₁.heap _
                            have ev : fE p1 = (1 : Int32) := by unfold fE; rw [if_neg hc3_102, if_pos hc11_105, if_neg hc19_107, if_neg hc27_110, if_neg hc35_113, if_pos hc43_116, if_neg hc52_118, if_pos hc61_121, if_neg hc70_123, if_pos hc79_126, if_neg hc88_128, if_neg hc97_131]
                            rw [ev]
                            exact ⟨rfl, rfl, e0⟩
                    · have P188 : ∀ t, Steps p.tables e below (s₁.setTop (mkF m 83 #[.val (.int p1)] [(.int (1 : Int32))])) t → Steps p.tables e below (s₁.setTop (entryFrame m #[(.int p1)] 1)) t := fun t kt => P125 t (by
                        show Steps p.tables e below (s₁.setTop (mkF m 79 #[.val (.int p1)] [(.int (246 : Int32)), (.int p1)])) _
                        refine XS.icmpNo X0.here hx rfl (hb hby dE_79) rfl (flt hc79_126).2.2.1 ?_
                        show Steps p.tables e below (s₁.setTop (mkF m 82 #[.val (.int p1)] [])) _
                        refine XS.iconst X0.here hx rfl (hb hby dE_82) ?_
                        exact kt)
                      obtain ⟨fs, hr, hrun, hended, hW, hsame⟩ := X0.leave (v := some (.int (1 : Int32))) (fun h => by rw [Bd.returns] at h; cases h) (hlocks := hlk)
                      refine ⟨_, _, P188 _ ?_, hrun, hended, _, _, rfl, ?_, ⟨_, rfl⟩, hW, hsame.mono (by decide) (by decide)⟩
                      · show Steps p.tables e below (s₁.setTop (mkF m 83 #[.val (.int p1)] [(.int (1 : Int32))])) _
                        exact retN X0 hx (t := .boolean) Bd.returns (by simp) (hb hby dE_83) hr
                      · show QP _ h0 _ s₁.heap _
                        have ev : fE p1 = (1 : Int32) := by unfold fE; rw [if_neg hc3_102, if_pos hc11_105, if_neg hc19_107, if_neg hc27_110, if_neg hc35_113, if_pos hc43_116, if_neg hc52_118, if_pos hc61_121, if_neg hc70_123, if_neg hc79_126]
                        rw [ev]
                        exact ⟨rfl, rfl, e0⟩
                · have P189 : ∀ t, Steps p.tables e below (s₁.setTop (mkF m 65 #[.val (.int p1)] [(.int (1 : Int32))])) t → Steps p.tables e below (s₁.setTop (entryFrame m #[(.int p1)] 1)) t := fun t kt => P120 t (by
                    show Steps p.tables e below (s₁.setTop (mkF m 61 #[.val (.int p1)] [(.int (214 : Int32)), (.int p1)])) _
                    refine XS.icmpNo X0.here hx rfl (hb hby dE_61) rfl (flt hc61_121).2.2.1 ?_
                    show Steps p.tables e below (s₁.setTop (mkF m 64 #[.val (.int p1)] [])) _
                    refine XS.iconst X0.here hx rfl (hb hby dE_64) ?_
                    exact kt)
                  obtain ⟨fs, hr, hrun, hended, hW, hsame⟩ := X0.leave (v := some (.int (1 : Int32))) (fun h => by rw [Bd.returns] at h; cases h) (hlocks := hlk)
                  refine ⟨_, _, P189 _ ?_, hrun, hended, _, _, rfl, ?_, ⟨_, rfl⟩, hW, hsame.mono (by decide) (by decide)⟩
                  · show Steps p.tables e below (s₁.setTop (mkF m 65 #[.val (.int p1)] [(.int (1 : Int32))])) _
                    exact retN X0 hx (t := .boolean) Bd.returns (by simp) (hb hby dE_65) hr
                  · show QP _ h0 _ s₁.heap _
                    have ev : fE p1 = (1 : Int32) := by unfold fE; rw [if_neg hc3_102, if_pos hc11_105, if_neg hc19_107, if_neg hc27_110, if_neg hc35_113, if_pos hc43_116, if_neg hc52_118, if_neg hc61_121]
                    rw [ev]
                    exact ⟨rfl, rfl, e0⟩
            · have P190 : ∀ t, Steps p.tables e below (s₁.setTop (mkF m 47 #[.val (.int p1)] [(.int (1 : Int32))])) t → Steps p.tables e below (s₁.setTop (entryFrame m #[(.int p1)] 1)) t := fun t kt => P115 t (by
                show Steps p.tables e below (s₁.setTop (mkF m 43 #[.val (.int p1)] [(.int (122 : Int32)), (.int p1)])) _
                refine XS.icmpNo X0.here hx rfl (hb hby dE_43) rfl (flt hc43_116).2.2.1 ?_
                show Steps p.tables e below (s₁.setTop (mkF m 46 #[.val (.int p1)] [])) _
                refine XS.iconst X0.here hx rfl (hb hby dE_46) ?_
                exact kt)
              obtain ⟨fs, hr, hrun, hended, hW, hsame⟩ := X0.leave (v := some (.int (1 : Int32))) (fun h => by rw [Bd.returns] at h; cases h) (hlocks := hlk)
              refine ⟨_, _, P190 _ ?_, hrun, hended, _, _, rfl, ?_, ⟨_, rfl⟩, hW, hsame.mono (by decide) (by decide)⟩
              · show Steps p.tables e below (s₁.setTop (mkF m 47 #[.val (.int p1)] [(.int (1 : Int32))])) _
                exact retN X0 hx (t := .boolean) Bd.returns (by simp) (hb hby dE_47) hr
              · show QP _ h0 _ s₁.heap _
                have ev : fE p1 = (1 : Int32) := by unfold fE; rw [if_neg hc3_102, if_pos hc11_105, if_neg hc19_107, if_neg hc27_110, if_neg hc35_113, if_neg hc43_116]
                rw [ev]
                exact ⟨rfl, rfl, e0⟩
    · have P191 : ∀ t, Steps p.tables e below (s₁.setTop (mkF m 15 #[.val (.int p1)] [(.int (1 : Int32))])) t → Steps p.tables e below (s₁.setTop (entryFrame m #[(.int p1)] 1)) t := fun t kt => P104 t (by
        show Steps p.tables e below (s₁.setTop (mkF m 11 #[.val (.int p1)] [(.int (90 : Int32)), (.int p1)])) _
        refine XS.icmpNo X0.here hx rfl (hb hby dE_11) rfl (flt hc11_105).2.2.1 ?_
        show Steps p.tables e below (s₁.setTop (mkF m 14 #[.val (.int p1)] [])) _
        refine XS.iconst X0.here hx rfl (hb hby dE_14) ?_
        exact kt)
      obtain ⟨fs, hr, hrun, hended, hW, hsame⟩ := X0.leave (v := some (.int (1 : Int32))) (fun h => by rw [Bd.returns] at h; cases h) (hlocks := hlk)
      refine ⟨_, _, P191 _ ?_, hrun, hended, _, _, rfl, ?_, ⟨_, rfl⟩, hW, hsame.mono (by decide) (by decide)⟩
      · show Steps p.tables e below (s₁.setTop (mkF m 15 #[.val (.int p1)] [(.int (1 : Int32))])) _
        exact retN X0 hx (t := .boolean) Bd.returns (by simp) (hb hby dE_15) hr
      · show QP _ h0 _ s₁.heap _
        have ev : fE p1 = (1 : Int32) := by unfold fE; rw [if_neg hc3_102, if_neg hc11_105]
        rw [ev]
        exact ⟨rfl, rfl, e0⟩
theorem dC_0 : decode method_3_code 0 = .ok (.iload_n 0, 1) := by decide +kernel
theorem dC_1 : decode method_3_code 1 = .ok (.invokestatic 14, 3) := by decide +kernel
theorem dC_4 : decode method_3_code 4 = .ok (.iload_n 0, 1) := by decide +kernel
theorem dC_5 : decode method_3_code 5 = .ok (.invokestatic 20, 3) := by decide +kernel
theorem dC_8 : decode method_3_code 8 = .ok (.if_icmp .ne 7, 3) := by decide +kernel
theorem dC_11 : decode method_3_code 11 = .ok (.iconst 1, 1) := by decide +kernel
theorem dC_12 : decode method_3_code 12 = .ok (.goto 4, 3) := by decide +kernel
theorem dC_16 : decode method_3_code 16 = .ok (.ireturn, 1) := by decide +kernel
theorem ef_C (m : MethodId) (x0 : Int32) : entryFrame m #[(.int x0)] 1 = mkF m 0 #[.val (.int x0)] [] := by first | (simp [entryFrame, mkF, argsToLocals, Value.category]; done) | rfl
set_option maxRecDepth 65536 in
set_option maxHeartbeats 40000000 in
theorem rmC (l : Launch) (Z : State) (a0 : Array Value) (hw : ∀ d ∈ tables_1, d.before a0 Z = true) (ws : List Jvm.Cond) (p1 : Int32) (h0 : Heap) :
    MetFree l (⟨"com/example/libxform/libxform/output/QualifiedNamesIsNameStartPinLaw", "check", "(I)Z"⟩ : MethodName) (head1 (Jvm.Cond.code (⟨"com/example/libxform/libxform/output/QualifiedNamesIsNameStartPinLaw", "check", "(I)Z"⟩ : MethodName) method_3_code 1 (some .boolean) :: ws) ({ frames := 1, cells := 0, slots := 0, locals := 13 } : Room)) (fun a U => a = #[(.int p1)] ∧ Z.Warmed39 U.vm ∧ U.heap = h0) (fun _ _ _ _ _ => True) (fun _ U o U' => ∃ v L, o = .returned v ∧ QP (some (.int (1 : Int32))) h0 v U'.heap L ∧ FrameEnd U o U' L ({ frames := 1, cells := 0, slots := 0, locals := 13 } : Room).cells ({ frames := 1, cells := 0, slots := 0, locals := 13 } : Room).slots) := by
  refine MetFree.of_bodySF (plainFor_of_name (by first | (simp [plainName, overriddenIn]; done) | decide +kernel)) hisR ?_
  intro p e s m args below meth c s₁ Bd hml0 hP hK
  obtain ⟨rfl, hZ, hh⟩ := hP
  have hx := Bd.exec
  have hby := Bd.bytes
  have hml : c.maxLocals = 1 := hml0
  have hown : s.vm.findClass "com/example/libxform/libxform/output/QualifiedNamesIsNameStartPinLaw" = some m.cls := findClass_of_methodNamed Bd.named
  have hnm := (name_of_methodNamed Bd.named Bd.method).1
  have hlk : meth.locks = false := BodyLoose.notSynchronized Bd
  have X0 : Stand p l e ({ frames := 1, cells := 0, slots := 0, locals := 13 } : Room) s m #[(.int p1)] below meth c s₁ [] 0 0 := Stand.of_body Bd
  have e0 : s₁.heap = h0 := by rw [← hh, Bd.state]; rfl
  have P0 : ∀ t, Steps p.tables e below (s₁.setTop (mkF m 0 #[.val (.int p1)] [])) t → Steps p.tables e below (s₁.setTop (entryFrame m #[(.int p1)] 1)) t := fun t kt => castTop (ef_C m p1) kt
  obtain ⟨_, _, ⟨T101, L101, k101, n101⟩, -, X101, ⟨Lc101, hQ101, l101, y101, z101⟩, st101⟩ := Jvm.LawKit.callS X0 hx (y := (⟨"com/example/libxform/libxform/output/QualifiedNames", "isNameStart", "(I)Z"⟩ : MethodName)) hown (mvT hZ (hw _ (List.mem_of_getElem? (i := 4) rfl))) (mvT hZ (hw _ (List.mem_of_getElem? (i := 5) rfl))) (mvT hZ (hw _ (List.mem_of_getElem? (i := 6) rfl))) (mvT hZ (hw _ (List.mem_of_getElem? (i := 7) rfl))) (by decide) (backOf (W := 0)  (rmN l Z a0 hw [] p1 h0) hZ (hw _ (List.mem_of_getElem? (i := 7) rfl)) (hw _ (List.mem_of_getElem? (i := 6) rfl)) (by decide) (by decide)) (g := (mkF m 1 #[.val (.int p1)] [(.int p1)])) rfl (by rw [hml]; rfl) (argsL := [(.int p1)]) (rest := []) (lenOf pd__I_Z rfl) rfl (by show 2 * 0 + _ ≤ _; exact Nat.le_of_eq rfl) (hb hby dC_1) (fun _ _ => ⟨rfl, e0, (by decide : 0 + 0 ≤ _), (by decide : 0 + 0 ≤ _)⟩)
  dsimp only [Pt.U, Pt.locs, Pt.cells, Pt.slots] at X101 l101 y101 z101 st101 hQ101
  subst l101 y101 z101
  obtain ⟨rfl, rfl, e101⟩ := hQ101
  have X101 : Stand p l e ({ frames := 1, cells := 0, slots := 0, locals := 13 } : Room) s m #[(.int p1)] below meth c T101 [] 0 0 := X101
  obtain ⟨_, _, ⟨T102, L102, k102, n102⟩, -, X102, ⟨Lc102, hQ102, l102, y102, z102⟩, st102⟩ := Jvm.LawKit.callS X101 hx (y := (⟨"com/example/libxform/libxform/output/QualifiedNamesIsNameStartPinLaw", "expected", "(I)Z"⟩ : MethodName)) hown (mvT hZ (hw _ (List.mem_of_getElem? (i := 11) rfl))) (mvT hZ (hw _ (List.mem_of_getElem? (i := 12) rfl))) (mvT hZ (hw _ (List.mem_of_getElem? (i := 2) rfl))) (mvT hZ (hw _ (List.mem_of_getElem? (i := 13) rfl))) (by decide) (backOf (W := 1)  (rmE l Z a0 hw [] p1 h0) hZ (hw _ (List.mem_of_getElem? (i := 13) rfl)) (hw _ (List.mem_of_getElem? (i := 2) rfl)) (by decide) (by decide)) (g := (mkF m 5 #[.val (.int p1)] [(.int p1), (.int (fN_0 p1))])) rfl (by rw [hml]; rfl) (argsL := [(.int p1)]) (rest := [(.int (fN_0 p1))]) (lenOf pd__I_Z rfl) rfl (by show 2 * 0 + _ ≤ _; exact Nat.le_of_eq rfl) (hb hby dC_5) (fun _ _ => ⟨rfl, e101, (by decide : 0 + 0 ≤ _), (by decide : 0 + 0 ≤ _)⟩)
  dsimp only [Pt.U, Pt.locs, Pt.cells, Pt.slots] at X102 l102 y102 z102 st102 hQ102
  subst l102 y102 z102
  obtain ⟨rfl, rfl, e102⟩ := hQ102
  have X102 : Stand p l e ({ frames := 1, cells := 0, slots := 0, locals := 13 } : Room) s m #[(.int p1)] below meth c T102 [] 0 0 := X102
  have P103 : ∀ t, Steps p.tables e below (T102.setTop (mkF m 16 #[.val (.int p1)] [(.int (1 : Int32))])) t → Steps p.tables e below (s₁.setTop (entryFrame m #[(.int p1)] 1)) t := fun t kt => P0 t (by
    show Steps p.tables e below (s₁.setTop (mkF m 0 #[.val (.int p1)] [])) _
    refine XS.iloadN X0.here hx rfl (hb hby dC_0) rfl ?_
    show Steps p.tables e below (s₁.setTop (mkF m 1 #[.val (.int p1)] [(.int p1)])) _
    refine st101 _ ?_
    show Steps p.tables e below (T101.setTop (mkF m 4 #[.val (.int p1)] [(.int (fN_0 p1))])) _
    refine XS.iloadN X101.here hx rfl (hb hby dC_4) rfl ?_
    show Steps p.tables e below (T101.setTop (mkF m 5 #[.val (.int p1)] [(.int p1), (.int (fN_0 p1))])) _
    refine st102 _ ?_
    show Steps p.tables e below (T102.setTop (mkF m 8 #[.val (.int p1)] [(.int (fE p1)), (.int (fN_0 p1))])) _
    refine XS.icmpNo X102.here hx rfl (hb hby dC_8) rfl (teq (own_law p1 : (fN_0 p1) = (fE p1))).2 ?_
    show Steps p.tables e below (T102.setTop (mkF m 11 #[.val (.int p1)] [])) _
    refine XS.iconst X102.here hx rfl (hb hby dC_11) ?_
    show Steps p.tables e below (T102.setTop (mkF m 12 #[.val (.int p1)] [(.int (1 : Int32))])) _
    refine XS.goto X102.here hx rfl (pc0 := 12) (pc' := 16) rfl (hb hby dC_12) (by decide) (by decide) ?_
    exact kt)
  obtain ⟨fs, hr, hrun, hended, hW, hsame⟩ := X102.leave (v := some (.int (1 : Int32))) (fun h => by rw [Bd.returns] at h; cases h) (hlocks := hlk)
  refine ⟨_, _, P103 _ ?_, hrun, hended, _, _, rfl, ?_, ⟨_, rfl⟩, hW, hsame.mono (by decide) (by decide)⟩
  · show Steps p.tables e below (T102.setTop (mkF m 16 #[.val (.int p1)] [(.int (1 : Int32))])) _
    exact retN X102 hx (t := .boolean) Bd.returns (by simp) (hb hby dC_16) hr
  · show QP _ h0 _ T102.heap _
    exact ⟨rfl, rfl, e102⟩
theorem ef_0 (m : MethodId) (x0 : Int32) : entryFrame m #[(.int x0)] maxLocals = mkF m 0 #[.val (.int x0)] [] := by first | (simp [entryFrame, mkF, argsToLocals, Value.category, maxLocals]; done) | rfl
set_option maxRecDepth 65536 in
set_option maxHeartbeats 40000000 in
theorem rm0 (l : Launch) (Z : State) (a0 : Array Value) (hw : ∀ d ∈ tables_1, d.before a0 Z = true) (ws : List Jvm.Cond) (p1 : Int32) (h0 : Heap) :
    MetFree l x (head1 (Jvm.Cond.code x code maxLocals ret :: ws) room_1) (fun a U => a = #[(.int p1)] ∧ Z.Warmed39 U.vm ∧ U.heap = h0) (fun _ _ _ _ _ => True) (fun _ U o U' => ∃ v L, o = .returned v ∧ QP (some (.int (1 : Int32))) h0 v U'.heap L ∧ FrameEnd U o U' L room_1.cells room_1.slots) := by
  refine MetFree.of_bodySF (plainFor_of_name (by first | (simp [plainName, overriddenIn]; done) | decide +kernel)) hisR ?_
  intro p e s m args below meth c s₁ Bd hml0 hP hK
  obtain ⟨rfl, hZ, hh⟩ := hP
  have hx := Bd.exec
  have hby := Bd.bytes
  have hml : c.maxLocals = 1 := hml0
  have hown : s.vm.findClass "com/example/libxform/libxform/output/QualifiedNamesIsNameStartPinLaw" = some m.cls := findClass_of_methodNamed Bd.named
  have hnm := (name_of_methodNamed Bd.named Bd.method).1
  have hlk : meth.locks = false := BodyLoose.notSynchronized Bd
  have X0 : Stand p l e room_1 s m #[(.int p1)] below meth c s₁ [] 0 0 := Stand.of_body Bd
  have e0 : s₁.heap = h0 := by rw [← hh, Bd.state]; rfl
  have P0 : ∀ t, Steps p.tables e below (s₁.setTop (mkF m 0 #[.val (.int p1)] [])) t → Steps p.tables e below (s₁.setTop (entryFrame m #[(.int p1)] maxLocals)) t := fun t kt => castTop (ef_0 m p1) kt
  obtain ⟨_, _, ⟨T101, L101, k101, n101⟩, -, X101, ⟨Lc101, hQ101, l101, y101, z101⟩, st101⟩ := Jvm.LawKit.callS X0 hx (y := (⟨"com/example/libxform/libxform/output/QualifiedNamesIsNameStartPinLaw", "check", "(I)Z"⟩ : MethodName)) hown (mvT hZ (hw _ (List.mem_of_getElem? (i := 0) rfl))) (mvT hZ (hw _ (List.mem_of_getElem? (i := 1) rfl))) (mvT hZ (hw _ (List.mem_of_getElem? (i := 2) rfl))) (mvT hZ (hw _ (List.mem_of_getElem? (i := 3) rfl))) (by decide) (backOf (W := 0)  (rmC l Z a0 hw [] p1 h0) hZ (hw _ (List.mem_of_getElem? (i := 3) rfl)) (hw _ (List.mem_of_getElem? (i := 2) rfl)) (by decide) (by decide)) (g := (mkF m 1 #[.val (.int p1)] [(.int p1)])) rfl (by rw [hml]; rfl) (argsL := [(.int p1)]) (rest := []) (lenOf pd__I_Z rfl) rfl (by show 2 * 0 + _ ≤ _; exact Nat.le_of_eq rfl) (hb hby at_1) (fun _ _ => ⟨rfl, e0, (by decide : 0 + 0 ≤ _), (by decide : 0 + 0 ≤ _)⟩)
  dsimp only [Pt.U, Pt.locs, Pt.cells, Pt.slots] at X101 l101 y101 z101 st101 hQ101
  subst l101 y101 z101
  obtain ⟨rfl, rfl, e101⟩ := hQ101
  have X101 : Stand p l e room_1 s m #[(.int p1)] below meth c T101 [] 0 0 := X101
  obtain ⟨_, _, ⟨T102, L102, k102, n102⟩, -, X102, ⟨Lc102, hQ102, l102, y102, z102⟩, st102⟩ := Jvm.LawKit.callS X101 hx (y := (⟨"com/example/libxform/libxform/output/QualifiedNamesIsNameStartPinLaw", "check", "(I)Z"⟩ : MethodName)) hown (mvT hZ (hw _ (List.mem_of_getElem? (i := 0) rfl))) (mvT hZ (hw _ (List.mem_of_getElem? (i := 1) rfl))) (mvT hZ (hw _ (List.mem_of_getElem? (i := 2) rfl))) (mvT hZ (hw _ (List.mem_of_getElem? (i := 3) rfl))) (by decide) (backOf (W := 0)  (rmC l Z a0 hw [] (p1 &&& (1023 : Int32)) h0) hZ (hw _ (List.mem_of_getElem? (i := 3) rfl)) (hw _ (List.mem_of_getElem? (i := 2) rfl)) (by decide) (by decide)) (g := (mkF m 12 #[.val (.int p1)] [(.int (p1 &&& (1023 : Int32)))])) rfl (by rw [hml]; rfl) (argsL := [(.int (p1 &&& (1023 : Int32)))]) (rest := []) (lenOf pd__I_Z rfl) rfl (by show 2 * 0 + _ ≤ _; exact Nat.le_of_eq rfl) (hb hby at_12) (fun _ _ => ⟨rfl, e101, (by decide : 0 + 0 ≤ _), (by decide : 0 + 0 ≤ _)⟩)
  dsimp only [Pt.U, Pt.locs, Pt.cells, Pt.slots] at X102 l102 y102 z102 st102 hQ102
  subst l102 y102 z102
  obtain ⟨rfl, rfl, e102⟩ := hQ102
  have X102 : Stand p l e room_1 s m #[(.int p1)] below meth c T102 [] 0 0 := X102
  obtain ⟨_, _, ⟨T103, L103, k103, n103⟩, -, X103, ⟨Lc103, hQ103, l103, y103, z103⟩, st103⟩ := Jvm.LawKit.callS X102 hx (y := (⟨"com/example/libxform/libxform/output/QualifiedNamesIsNameStartPinLaw", "check", "(I)Z"⟩ : MethodName)) hown (mvT hZ (hw _ (List.mem_of_getElem? (i := 0) rfl))) (mvT hZ (hw _ (List.mem_of_getElem? (i := 1) rfl))) (mvT hZ (hw _ (List.mem_of_getElem? (i := 2) rfl))) (mvT hZ (hw _ (List.mem_of_getElem? (i := 3) rfl))) (by decide) (backOf (W := 0)  (rmC l Z a0 hw [] (p1 &&& (65535 : Int32)) h0) hZ (hw _ (List.mem_of_getElem? (i := 3) rfl)) (hw _ (List.mem_of_getElem? (i := 2) rfl)) (by decide) (by decide)) (g := (mkF m 22 #[.val (.int p1)] [(.int (p1 &&& (65535 : Int32)))])) rfl (by rw [hml]; rfl) (argsL := [(.int (p1 &&& (65535 : Int32)))]) (rest := []) (lenOf pd__I_Z rfl) rfl (by show 2 * 0 + _ ≤ _; exact Nat.le_of_eq rfl) (hb hby at_22) (fun _ _ => ⟨rfl, e102, (by decide : 0 + 0 ≤ _), (by decide : 0 + 0 ≤ _)⟩)
  dsimp only [Pt.U, Pt.locs, Pt.cells, Pt.slots] at X103 l103 y103 z103 st103 hQ103
  subst l103 y103 z103
  obtain ⟨rfl, rfl, e103⟩ := hQ103
  have X103 : Stand p l e room_1 s m #[(.int p1)] below meth c T103 [] 0 0 := X103
  obtain ⟨_, _, ⟨T104, L104, k104, n104⟩, -, X104, ⟨Lc104, hQ104, l104, y104, z104⟩, st104⟩ := Jvm.LawKit.callS X103 hx (y := (⟨"com/example/libxform/libxform/output/QualifiedNamesIsNameStartPinLaw", "check", "(I)Z"⟩ : MethodName)) hown (mvT hZ (hw _ (List.mem_of_getElem? (i := 0) rfl))) (mvT hZ (hw _ (List.mem_of_getElem? (i := 1) rfl))) (mvT hZ (hw _ (List.mem_of_getElem? (i := 2) rfl))) (mvT hZ (hw _ (List.mem_of_getElem? (i := 3) rfl))) (by decide) (backOf (W := 0)  (rmC l Z a0 hw [] (p1 &&& (2097151 : Int32)) h0) hZ (hw _ (List.mem_of_getElem? (i := 3) rfl)) (hw _ (List.mem_of_getElem? (i := 2) rfl)) (by decide) (by decide)) (g := (mkF m 32 #[.val (.int p1)] [(.int (p1 &&& (2097151 : Int32)))])) rfl (by rw [hml]; rfl) (argsL := [(.int (p1 &&& (2097151 : Int32)))]) (rest := []) (lenOf pd__I_Z rfl) rfl (by show 2 * 0 + _ ≤ _; exact Nat.le_of_eq rfl) (hb hby at_32) (fun _ _ => ⟨rfl, e103, (by decide : 0 + 0 ≤ _), (by decide : 0 + 0 ≤ _)⟩)
  dsimp only [Pt.U, Pt.locs, Pt.cells, Pt.slots] at X104 l104 y104 z104 st104 hQ104
  subst l104 y104 z104
  obtain ⟨rfl, rfl, e104⟩ := hQ104
  have X104 : Stand p l e room_1 s m #[(.int p1)] below meth c T104 [] 0 0 := X104
  have P105 : ∀ t, Steps p.tables e below (T104.setTop (mkF m 43 #[.val (.int p1)] [(.int (1 : Int32))])) t → Steps p.tables e below (s₁.setTop (entryFrame m #[(.int p1)] maxLocals)) t := fun t kt => P0 t (by
    show Steps p.tables e below (s₁.setTop (mkF m 0 #[.val (.int p1)] [])) _
    refine XS.iloadN X0.here hx rfl (hb hby at_0) rfl ?_
    show Steps p.tables e below (s₁.setTop (mkF m 1 #[.val (.int p1)] [(.int p1)])) _
    refine st101 _ ?_
    show Steps p.tables e below (T101.setTop (mkF m 4 #[.val (.int p1)] [(.int (1 : Int32))])) _
    refine XS.ifNo X101.here hx rfl (hb hby at_4) rfl ((if0 _ _).trans (feq ((by decide) : ¬ ((1 : Int32) = (0 : Int32)))).1) ?_
    show Steps p.tables e below (T101.setTop (mkF m 7 #[.val (.int p1)] [])) _
    refine XS.iloadN X101.here hx rfl (hb hby at_7) rfl ?_
    show Steps p.tables e below (T101.setTop (mkF m 8 #[.val (.int p1)] [(.int p1)])) _
    refine XS.sipush X101.here hx rfl (hb hby at_8) ?_
    show Steps p.tables e below (T101.setTop (mkF m 11 #[.val (.int p1)] [(.int (1023 : Int32)), (.int p1)])) _
    refine XS.iand X101.here hx rfl (hb hby at_11) rfl ?_
    show Steps p.tables e below (T101.setTop (mkF m 12 #[.val (.int p1)] [(.int (p1 &&& (1023 : Int32)))])) _
    refine st102 _ ?_
    show Steps p.tables e below (T102.setTop (mkF m 15 #[.val (.int p1)] [(.int (1 : Int32))])) _
    refine XS.ifNo X102.here hx rfl (hb hby at_15) rfl ((if0 _ _).trans (feq ((by decide) : ¬ ((1 : Int32) = (0 : Int32)))).1) ?_
    show Steps p.tables e below (T102.setTop (mkF m 18 #[.val (.int p1)] [])) _
    refine XS.iloadN X102.here hx rfl (hb hby at_18) rfl ?_
    show Steps p.tables e below (T102.setTop (mkF m 19 #[.val (.int p1)] [(.int p1)])) _
    refine X102.ldcInt hx hown (mvT hZ (hw _ (List.mem_of_getElem? (i := 14) rfl))) (g := (mkF m 19 #[.val (.int p1)] [(.int p1)])) rfl (hb hby at_19) _ ?_
    show Steps p.tables e below (T102.setTop (mkF m 21 #[.val (.int p1)] [(.int (65535 : Int32)), (.int p1)])) _
    refine XS.iand X102.here hx rfl (hb hby at_21) rfl ?_
    show Steps p.tables e below (T102.setTop (mkF m 22 #[.val (.int p1)] [(.int (p1 &&& (65535 : Int32)))])) _
    refine st103 _ ?_
    show Steps p.tables e below (T103.setTop (mkF m 25 #[.val (.int p1)] [(.int (1 : Int32))])) _
    refine XS.ifNo X103.here hx rfl (hb hby at_25) rfl ((if0 _ _).trans (feq ((by decide) : ¬ ((1 : Int32) = (0 : Int32)))).1) ?_
    show Steps p.tables e below (T103.setTop (mkF m 28 #[.val (.int p1)] [])) _
    refine XS.iloadN X103.here hx rfl (hb hby at_28) rfl ?_
    show Steps p.tables e below (T103.setTop (mkF m 29 #[.val (.int p1)] [(.int p1)])) _
    refine X103.ldcInt hx hown (mvT hZ (hw _ (List.mem_of_getElem? (i := 15) rfl))) (g := (mkF m 29 #[.val (.int p1)] [(.int p1)])) rfl (hb hby at_29) _ ?_
    show Steps p.tables e below (T103.setTop (mkF m 31 #[.val (.int p1)] [(.int (2097151 : Int32)), (.int p1)])) _
    refine XS.iand X103.here hx rfl (hb hby at_31) rfl ?_
    show Steps p.tables e below (T103.setTop (mkF m 32 #[.val (.int p1)] [(.int (p1 &&& (2097151 : Int32)))])) _
    refine st104 _ ?_
    show Steps p.tables e below (T104.setTop (mkF m 35 #[.val (.int p1)] [(.int (1 : Int32))])) _
    refine XS.ifNo X104.here hx rfl (hb hby at_35) rfl ((if0 _ _).trans (feq ((by decide) : ¬ ((1 : Int32) = (0 : Int32)))).1) ?_
    show Steps p.tables e below (T104.setTop (mkF m 38 #[.val (.int p1)] [])) _
    refine XS.iconst X104.here hx rfl (hb hby at_38) ?_
    show Steps p.tables e below (T104.setTop (mkF m 39 #[.val (.int p1)] [(.int (1 : Int32))])) _
    refine XS.goto X104.here hx rfl (pc0 := 39) (pc' := 43) rfl (hb hby at_39) (by decide) (by decide) ?_
    exact kt)
  obtain ⟨fs, hr, hrun, hended, hW, hsame⟩ := X104.leave (v := some (.int (1 : Int32))) (fun h => by rw [Bd.returns] at h; cases h) (hlocks := hlk)
  refine ⟨_, _, P105 _ ?_, hrun, hended, _, _, rfl, ?_, ⟨_, rfl⟩, hW, hsame.mono (by decide) (by decide)⟩
  · show Steps p.tables e below (T104.setTop (mkF m 43 #[.val (.int p1)] [(.int (1 : Int32))])) _
    exact retN X104 hx (t := .boolean) Bd.returns (by simp) (hb hby at_43) hr
  · show QP _ h0 _ T104.heap _
    exact ⟨rfl, rfl, e104⟩
set_option maxRecDepth 65536 in
set_option maxHeartbeats 40000000 in
theorem comes_1 {Post : Tables → Env → Array Value → State → Outcome → State → Prop} (hpost : ∀ tb e args s v u, (limb_1_1.after args s (.returned v) u = true ∧ limb_1_2.after args s (.returned v) u = true ∧ True) → FrameEnd s (.returned v) u (Jvm.fieldLocs frame_1_writes args s ++ Jvm.arrayLocs frame_1_arrays args s ++ Jvm.staticLocs frame_1_statics s) 0 0 → Post tb e args s (.returned v) u) :
    ArmFor flags0 classFile x code maxLocals ret World_1 tables_1 room_1 Calls_1 rest_1 Pre_1 Post := by
  intro l hfl _ _ p e ha hc hk s m args below hf hA hF happ hP
  obtain ⟨hcalls, hrest, hpre⟩ := hP
  obtain ⟨-, -, -, hnamed, -, -, -, hat⟩ := (Spec.applies_iff hf).mp happ
  obtain ⟨hg, hn⟩ := and_e (Cond.before_iff.mp (show (Jvm.Cond.and given_1 narrow_1).before args s = true from hpre))
  obtain ⟨g1, g2⟩ := and_e hg
  obtain ⟨w0, rfl⟩ : ∃ w0 : Value, args = #[w0] := by
    have hs : args.size = 1 := by simpa [Cond.value, given_1] using g1
    obtain ⟨L⟩ := args
    match L, hs with
    | [w0], _ => exact ⟨w0, rfl⟩
  have hw := fun d (hd : d ∈ tables_1) => atoms_spec (ws := Jvm.Cond.code x code maxLocals ret :: tables_1) hat d (List.mem_cons_of_mem _ hd)
  obtain ⟨i0, ei0⟩ := is_v g2
  obtain rfl : w0 = (.int i0) := Option.some.inj ei0
  obtain ⟨n, o, h1, h2, h3, _, L, rfl, ⟨rfl, rfl, -⟩, hq⟩ := rm0 l s _ hw tables_1 i0 s.heap  p e ha hc hk s m _ below hf ((Spec.applies_iff_loose hf).mp happ).1 ⟨rfl, State.Warmed39.refl s, rfl⟩ trivial
  refine ⟨n, _, h1, h2, h3, hpost _ _ _ _ _ _ ⟨Cond.after_iff.mpr rfl, Cond.after_iff.mpr (eq_i res_at (Term.int_eval (1)) rfl), trivial⟩ ⟨hq.1, hq.2.1, (hq.2.2.sift fun y hy => nomatch hy).mono (by decide) (by decide)⟩⟩
theorem main_1_1 : Claimed_1_1 := comes_1 fun _ _ _ _ _ _ h hF => ⟨h.1, hF⟩
theorem main_1_2 : Claimed_1_2 := comes_1 fun _ _ _ _ _ _ h hF => ⟨h.2.1, hF⟩
end Jvm.Pilot.@@N@@
namespace Jvm.Pilot.@@N@@
open Jvm Jvm.ClassFile Sem Op Lib Jvm.Free Jvm.Stand Jvm.Pilot.@@N@@.Jvm.D
/-! MADE BY PROGRAM (witnessworld.py) out of the Statement's table words and the real class files: 9 classes; the members and pool entries that the words name. The judged class is class 1, her method 3. -/
namespace start1
open Jvm.ClassFile
def u (s : String) : CpInfo := .utf8 (stringToUtf16 s)
/-- a pool by its gaps: so many unusable entries, then the entry; so many at the end -/
def gap : Nat → List CpInfo → List CpInfo
  | 0, r => r
  | n + 1, r => .unusable :: gap n r
def poolList (es : List (Nat × CpInfo)) (last : Nat) : List CpInfo := es.foldr (fun e r => gap e.1 (e.2 :: r)) (gap last [])
def pool (es : List (Nat × CpInfo)) (last : Nat) : Array CpInfo := ⟨poolList es last⟩
def fileOf (pool : Array CpInfo) (this : Nat) (attrs : Array Attribute := #[]) (ms : Array MethodInfo := #[]) (fl : Nat := 33) (sup : Nat := 0) (ifs : Array Nat := #[]) (fds : Array FieldInfo := #[]) : ClassFile where
  minorVersion := 0
  majorVersion := 65
  constantPool := pool
  accessFlags := fl
  thisClass := this
  superClass := sup
  interfaces := ifs
  fields := fds
  methods := ms
  attributes := attrs
def plain (name : String) (sup : Option ClassId) : Class where
  name := name
  kind := .ordinary
  loader := none
  accessFlags := 33
  super := sup
  interfaces := #[]
  cf := none
  fields := #[]
  methods := #[]
  instanceTypes := #[]
  staticTypes := #[]
  resolved := #[]
  callSites := []
  init := .initialized
  statics := none
  mirror := none

def pool0 : Array CpInfo := pool [(5, u "<init>"), (0, u "()V"), (1, .class_ 10), (1, u "java/lang/Object")] 113

def k0m0 : Method := { name := "<init>", desc := "()V", sig := { parameters := [], returnType := none }, accessFlags := 1, code := none }
/-- java/lang/Object -/
def k0 : Class := { plain "java/lang/Object" none with
  accessFlags := 33
  interfaces := #[]
  cf := some (fileOf pool0 8 #[] #[{ accessFlags := 1, nameIndex := 5, descriptorIndex := 6, attributes := #[] }] 33 0 #[] #[])
  fields := #[]
  methods := #[k0m0]
  instanceTypes := #[]
  staticTypes := #[]
  resolved := Array.replicate 124 none
  statics := none }

def pool1 : Array CpInfo := pool [(2, .class_ 4), (1, u "java/lang/Object"), (0, u "<init>"), (0, u "()V"), (0, .integer 55295), (0, .integer 63744), (0, .integer 64975), (0, .integer 65008), (0, .integer 65533), (0, .integer 65536), (0, .integer 983039), (0, .methodref 15 16), (0, .class_ 17), (0, .nameAndType 18 19), (0, u "com/example/libxform/libxform/output/QualifiedNames"), (0, u "isNameStart"), (0, u "(I)Z"), (0, .methodref 21 22), (0, .class_ 23), (0, .nameAndType 24 19), (0, u "com/example/libxform/libxform/output/QualifiedNamesIsNameStartPinLaw"), (0, u "expected"), (0, .methodref 21 26), (0, .nameAndType 27 19), (0, u "check"), (0, .integer 65535), (0, .integer 2097151), (3, u "law")] 2

def k1m0 : Method := { name := "<init>", desc := "()V", sig := { parameters := [], returnType := none }, accessFlags := 2, code := none }
def k1c1 : Code := { maxStack := 2, maxLocals := 1, code := method_2_code, exceptionTable := #[], attributes := #[] }
def k1m1 : Method := { name := "expected", desc := "(I)Z", sig := { parameters := [.int], returnType := some .boolean }, accessFlags := 10, code := some k1c1 }
def k1c2 : Code := { maxStack := 2, maxLocals := 1, code := method_3_code, exceptionTable := #[], attributes := #[] }
def k1m2 : Method := { name := "check", desc := "(I)Z", sig := { parameters := [.int], returnType := some .boolean }, accessFlags := 10, code := some k1c2 }
def k1c3 : Code := { maxStack := 2, maxLocals := 1, code := code, exceptionTable := #[], attributes := #[] }
def k1m3 : Method := { name := "law", desc := "(I)Z", sig := { parameters := [.int], returnType := some .boolean }, accessFlags := 9, code := some k1c3 }
/-- com/example/libxform/libxform/output/QualifiedNamesIsNameStartPinLaw -/
def k1 : Class := { plain "com/example/libxform/libxform/output/QualifiedNamesIsNameStartPinLaw" (some 0) with
  accessFlags := 49
  interfaces := #[]
  cf := some (fileOf pool1 21 #[] #[{ accessFlags := 2, nameIndex := 5, descriptorIndex := 6, attributes := #[] }, { accessFlags := 10, nameIndex := 24, descriptorIndex := 19, attributes := #[] }, { accessFlags := 10, nameIndex := 27, descriptorIndex := 19, attributes := #[] }, { accessFlags := 9, nameIndex := 33, descriptorIndex := 19, attributes := #[] }] 49 2 #[] #[])
  fields := #[]
  methods := #[k1m0, k1m1, k1m2, k1m3]
  instanceTypes := #[]
  staticTypes := #[]
  resolved := Array.replicate 36 none
  statics := none }

def pool2 : Array CpInfo := pool [(2, .class_ 4), (1, u "java/lang/Object"), (0, u "<init>"), (0, u "()V"), (24, .class_ 33), (1, u "com/example/libxform/libxform/output/QualifiedNames"), (0, u "isNameStart"), (0, u "(I)Z"), (12, .integer 55295), (0, .integer 63744), (0, .integer 64975), (0, .integer 65008), (0, .integer 65533), (0, .integer 65536), (0, .integer 983039)] 24

def k2m0 : Method := { name := "<init>", desc := "()V", sig := { parameters := [], returnType := none }, accessFlags := 2, code := none }
def k2c1 : Code := { maxStack := 2, maxLocals := 1, code := prog_41_method_4_code, exceptionTable := #[], attributes := #[] }
def k2m1 : Method := { name := "isNameStart", desc := "(I)Z", sig := { parameters := [.int], returnType := some .boolean }, accessFlags := 9, code := some k2c1 }
/-- com/example/libxform/libxform/output/QualifiedNames -/
def k2 : Class := { plain "com/example/libxform/libxform/output/QualifiedNames" (some 0) with
  accessFlags := 49
  interfaces := #[]
  cf := some (fileOf pool2 31 #[] #[{ accessFlags := 2, nameIndex := 5, descriptorIndex := 6, attributes := #[] }, { accessFlags := 9, nameIndex := 34, descriptorIndex := 35, attributes := #[] }] 49 2 #[] #[])
  fields := #[]
  methods := #[k2m0, k2m1]
  instanceTypes := #[]
  staticTypes := #[]
  resolved := Array.replicate 79 none
  statics := none }

def pool3 : Array CpInfo := pool [(1, u "java/lang/Cloneable"), (0, .class_ 1), (0, u "java/lang/Object"), (0, .class_ 3)] 3

/-- java/lang/Cloneable -/
def k3 : Class := { plain "java/lang/Cloneable" (some 0) with
  accessFlags := 1537
  interfaces := #[]
  cf := some (fileOf pool3 2 #[] #[] 1537 4 #[] #[])
  fields := #[]
  methods := #[]
  instanceTypes := #[]
  staticTypes := #[]
  resolved := Array.replicate 8 none
  statics := none }

def pool4 : Array CpInfo := pool [(1, u "java/io/Serializable"), (0, .class_ 1), (0, u "java/lang/Object"), (0, .class_ 3)] 3

/-- java/io/Serializable -/
def k4 : Class := { plain "java/io/Serializable" (some 0) with
  accessFlags := 1537
  interfaces := #[]
  cf := some (fileOf pool4 2 #[] #[] 1537 4 #[] #[])
  fields := #[]
  methods := #[]
  instanceTypes := #[]
  staticTypes := #[]
  resolved := Array.replicate 8 none
  statics := none }

/-- the primitive byte -/
def k5 : Class := { plain "byte" none with kind := .primitive 'B', accessFlags := 0x411 }
/-- [B -/
def k6 : Class := { plain "[B" (some 0) with kind := .array 5 .byte, interfaces := #[3, 4], accessFlags := 1041 }

/-- the primitive int -/
def k7 : Class := { plain "int" none with kind := .primitive 'I', accessFlags := 0x411 }
/-- [I -/
def k8 : Class := { plain "[I" (some 0) with kind := .array 7 .int, interfaces := #[3, 4], accessFlags := 1041 }

def heap : Heap := #[]
def classes : Array Class := #[k0, k1, k2, k3, k4, k5, k6, k7, k8]
def interned : List (Array UInt16 × Addr) := []
def slotsUsed : Nat := 0
def theMethod : MethodId := ⟨1, 3⟩
def args0 : Array Value := #[.int 5]
def aboutOver (below : List Frame) : State where
  vm := { classes := classes, interned := interned.toArray }
  heap := heap
  slotsUsed := slotsUsed
  threads := #[{ frames := .invoking theMethod args0 :: below }]
def below0 : List Frame := [.native { method := ⟨0, 0⟩, args := #[] }]
def about1 : State := aboutOver below0
def p0 : Program := .bare "" "" ""
def e0 : Env := launch0.env 0 0 0
theorem w_frames : about1.frames = Frame.invoking theMethod args0 :: below0 := rfl
set_option maxRecDepth 65536 in
theorem w_args : argsFit about1.vm theMethod args0 = true := by decide +kernel
set_option maxRecDepth 65536 in
theorem w_heap : heapFits about1 = true := by decide +kernel
set_option maxRecDepth 65536 in
theorem w_runnable : about1.curStatus? = some .runnable := by decide +kernel
set_option maxRecDepth 65536 in
theorem w_alone : about1.alone = true := by decide +kernel
set_option maxRecDepth 65536 in
theorem w_named : about1.methodNamed? x = some theMethod := by decide +kernel
set_option maxRecDepth 65536 in
theorem w_hears : about1.hears theMethod below0 = true := by decide +kernel
set_option maxRecDepth 65536 in
theorem w_ripe : about1.ripe theMethod args0 below0 = true := by decide +kernel
theorem w_running : about1.status = .running := rfl
set_option maxRecDepth 65536 in
theorem w_room : about1.hasRoom e0.platform room_1 = true :=
  launch0.hasRoom_least _ room_1 (by decide +kernel) (by decide +kernel) (by decide +kernel) (by decide +kernel) (by decide +kernel) (by decide +kernel)
theorem allAtoms_all (ts : List Jvm.Cond) (a : Array Jvm.Value) (st : Jvm.State) : (allAtoms ts).before a st = ts.all (fun c => c.before a st) := by
  induction ts with
  | nil => rfl
  | cons c t ih =>
    show (Jvm.Cond.and c (allAtoms t)).before a st = _
    rw [Jvm.Cond.before_and, ih, List.all_cons]
def words1 : List Jvm.Cond := Jvm.Cond.code x code maxLocals ret :: tables_1
/-- a 'code' word, met by the world's own term for the bytes: nothing is compared byte by byte -/
theorem code_word {y : MethodName} {bytes : ByteArray} {mx : Nat} {rt : Option FieldType} {a : Array Value} {s : State} {m : MethodId} {meth : Method} {c : Code} (h1 : s.methodNamed? y = some m) (h2 : s.vm.method? m = some meth) (h3 : meth.code = some c) (h4 : c.code = bytes)
    (h5 : (c.maxLocals == mx && c.exceptionTable.isEmpty && decide (c.maxStack ≤ mostOperands) && decide (meth.sig.returnType = rt) && !meth.locks && decide (parseMethodDescriptor y.desc = some meth.sig)) = true) : (Jvm.Cond.code y bytes mx rt).before a s = true := by
  simp only [Bool.and_eq_true, beq_iff_eq, Bool.not_eq_true', decide_eq_true_eq] at h5
  obtain ⟨⟨⟨⟨⟨g1, g2⟩, g3⟩, g4⟩, g5⟩, g6⟩ := h5
  simp [Cond.before, Cond.holds, Cond.value, h1, h2, h3, h4, g1, g2, g3, g4, g5, g6]
def isCode : Jvm.Cond → Bool
  | .code _ _ _ _ => true
  | _ => false
theorem all_split {L : List Jvm.Cond} {P : Jvm.Cond → Bool} (h1 : L.all (fun c => isCode c || P c) = true) (h2 : ∀ c ∈ L.filter isCode, P c = true) : L.all P = true := by
  refine List.all_eq_true.mpr fun c hc => ?_
  have h := List.all_eq_true.mp h1 c hc
  rcases Bool.eq_false_or_eq_true (isCode c) with hi | hi
  · exact h2 c (List.mem_filter.mpr ⟨hc, hi⟩)
  · simpa [hi] using h
set_option maxRecDepth 65536 in
theorem w_c0 : (Jvm.Cond.code x code maxLocals ret).before args0 about1 = true := code_word (m := ⟨1, 3⟩) (meth := k1m3) (c := k1c3) (by decide +kernel) rfl rfl rfl (by decide +kernel)
set_option maxRecDepth 65536 in
theorem w_c1 : (Jvm.Cond.code ({ cls := "com/example/libxform/libxform/output/QualifiedNamesIsNameStartPinLaw", name := "check", desc := "(I)Z" } : Jvm.MethodName) method_3_code (1 : Nat) (Option.some Jvm.ClassFile.FieldType.boolean)).before args0 about1 = true := code_word (m := ⟨1, 2⟩) (meth := k1m2) (c := k1c2) (by decide +kernel) rfl rfl rfl (by decide +kernel)
set_option maxRecDepth 65536 in
theorem w_c2 : (Jvm.Cond.code ({ cls := "com/example/libxform/libxform/output/QualifiedNames", name := "isNameStart", desc := "(I)Z" } : Jvm.MethodName) prog_41_method_4_code (1 : Nat) (Option.some Jvm.ClassFile.FieldType.boolean)).before args0 about1 = true := code_word (m := ⟨2, 1⟩) (meth := k2m1) (c := k2c1) (by decide +kernel) rfl rfl rfl (by decide +kernel)
set_option maxRecDepth 65536 in
theorem w_c3 : (Jvm.Cond.code ({ cls := "com/example/libxform/libxform/output/QualifiedNamesIsNameStartPinLaw", name := "expected", desc := "(I)Z" } : Jvm.MethodName) method_2_code (1 : Nat) (Option.some Jvm.ClassFile.FieldType.boolean)).before args0 about1 = true := code_word (m := ⟨1, 1⟩) (meth := k1m1) (c := k1c1) (by decide +kernel) rfl rfl rfl (by decide +kernel)
def codes1 : List Jvm.Cond := [Jvm.Cond.code x code maxLocals ret, Jvm.Cond.code ({ cls := "com/example/libxform/libxform/output/QualifiedNamesIsNameStartPinLaw", name := "check", desc := "(I)Z" } : Jvm.MethodName) method_3_code (1 : Nat) (Option.some Jvm.ClassFile.FieldType.boolean), Jvm.Cond.code ({ cls := "com/example/libxform/libxform/output/QualifiedNames", name := "isNameStart", desc := "(I)Z" } : Jvm.MethodName) prog_41_method_4_code (1 : Nat) (Option.some Jvm.ClassFile.FieldType.boolean), Jvm.Cond.code ({ cls := "com/example/libxform/libxform/output/QualifiedNamesIsNameStartPinLaw", name := "expected", desc := "(I)Z" } : Jvm.MethodName) method_2_code (1 : Nat) (Option.some Jvm.ClassFile.FieldType.boolean)]
set_option maxRecDepth 65536 in
theorem codes_eq : words1.filter isCode = codes1 := rfl
theorem w_codes : ∀ c ∈ words1.filter isCode, c.before args0 about1 = true := by
  rw [codes_eq]
  intro c hc
  simp only [codes1, List.mem_cons, List.not_mem_nil, or_false] at hc
  rcases hc with rfl | rfl | rfl | rfl
  · exact w_c0
  · exact w_c1
  · exact w_c2
  · exact w_c3
set_option maxRecDepth 65536 in
theorem w_t1 : (words1.take 24).all (fun c => isCode c || c.before args0 about1) = true := by decide +kernel
set_option maxRecDepth 65536 in
theorem w_t2 : (words1.drop 24).all (fun c => isCode c || c.before args0 about1) = true := by decide +kernel
theorem w_tables : (allAtoms (Jvm.Cond.code x code maxLocals ret :: tables_1)).before args0 about1 = true := by
  rw [allAtoms_all]
  show words1.all (fun c => c.before args0 about1) = true
  refine all_split ?_ w_codes
  rw [← List.take_append_drop 24 words1, List.all_append, w_t1, w_t2]
  rfl
set_option maxRecDepth 65536 in
theorem w_case : (Jvm.Cond.and given_1 narrow_1).before args0 about1 = true := by decide +kernel
theorem w_applies : (headSpec (Jvm.Cond.code x code maxLocals ret :: tables_1) room_1).applies x e0.platform about1 = true :=
  (Spec.applies_iff w_frames).mpr ⟨w_running, w_runnable, w_alone, w_named, w_hears, w_ripe, w_room, w_tables⟩
theorem atStart : AtStart classFile x code maxLocals ret World_1 tables_1 room_1 Calls_1 rest_1 Pre_1 launch0 p0 e0 about1 theMethod args0 below0 :=
  ⟨lists_1, trivial, launch0.admits_env _ _ _, launch0.least_env, fairChoices_fair.cas, fairChoices_fair.clock, w_frames, w_args, w_heap, w_applies, trivial, trivial, w_case⟩
end start1
theorem witness_1 : WitnessClaimed_1 := ⟨start1.p0, start1.e0, start1.about1, start1.theMethod, start1.args0, start1.below0, start1.atStart⟩
end Jvm.Pilot.@@N@@
