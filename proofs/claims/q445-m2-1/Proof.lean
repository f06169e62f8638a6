import JvmDerived
import JvmDerived.Pilot.@@N@@Statement
import JvmDerived.Pilot.@@N@@Code
set_option linter.unusedVariables false
set_option linter.unusedSimpArgs false
namespace Jvm.RoadKit
open Sem ClassFile Op Lib Jvm.Stand Jvm.Free Jvm.LawKit
section New
variable {p : Program} {l : Launch} {e : Env} {R : Room} {s : State} {m : MethodId} {args : Array Value} {below : List Frame} {meth : Method} {c : Code} {T : State} {locs : List Loc} {cells slots : Nat}
theorem retI (X : Stand p l e R s m args below meth c T locs cells slots) (hx : p.tables.exec = Jvm.exec) {pc : Nat} {Ls : Array Slot} {z : Int32} {rest : List Value} (hret : meth.sig.returnType = some .int) (hd : decode c.code pc = .ok (.ireturn, 1)) {fs : List Frame}
    (hl : ∀ (f : JFrame) (acts : List Action), f.method = m → f.locked = none → f.entered = [] → (doReturn e (T.setTop f) acts (some (.int z))).1 = T.setFrames fs) : Steps p.tables e below (T.setTop (mkF m pc Ls (.int z :: rest))) (T.setFrames fs) := by
  have hm' : T.vm.method? m = some meth := X.method'
  have hn : narrow .int (.int z) = .int z := rfl
  show Steps p.tables e below (T.setTop { method := m, pc := pc, locals := Ls, stack := _ :: rest, locked := none }) _
  jvm_step X.here [X.here.top, hx, hd, hm', hret, hn]
  first | (intro acts; rw [hl _ acts rfl rfl rfl]) | rw [hl _ _ rfl rfl rfl]
  exact Steps.refl _
end New
end Jvm.RoadKit
namespace Jvm.Pilot.@@N@@
open Jvm Jvm.ClassFile Sem Op Lib Jvm.Free Jvm.Stand Jvm.LawKit Jvm.RoadKit Bundle Jvm.Pilot.@@N@@.Jvm.D
theorem own_nm {x a : Addr} (h : x ≠ a) : x ∉ [a] := fun q => h (List.mem_singleton.mp q)
theorem own_nar {v : Int32} (h : v = (0 : Int32) ∨ v = (1 : Int32)) : nar .boolean v = v := by rcases h with rfl | rfl <;> decide
/-- what a body that writes nothing leaves -/
def QP (r : Option Value) (h0 : Heap) (v : Option Value) (h : Heap) (L : List Loc) : Prop := v = r ∧ L = [] ∧ h = h0
theorem pd___I : parseMethodDescriptor "()I" = some ⟨[], some .int⟩ := by decide +kernel
theorem pd__JJ_Z : parseMethodDescriptor "(JJ)Z" = some ⟨[.long, .long], some .boolean⟩ := by decide +kernel
theorem own_lt {p : Int32} (c : Int32) (k : Int) (hk : c.toInt = k) (h : p.toInt < k) : p < c := Int32.lt_iff_toInt_lt.mpr (by omega)
theorem own_nlt {p : Int32} (c : Int32) (k : Int) (hk : c.toInt = k) (h : k ≤ p.toInt) : ¬ p < c := fun q => by have := Int32.lt_iff_toInt_lt.mp q; omega
theorem own_gt {p : Int32} (c : Int32) (k : Int) (hk : c.toInt = k) (h : k < p.toInt) : c < p := Int32.lt_iff_toInt_lt.mpr (by omega)
theorem own_ngt {p : Int32} (c : Int32) (k : Int) (hk : c.toInt = k) (h : p.toInt ≤ k) : ¬ c < p := fun q => by have := Int32.lt_iff_toInt_lt.mp q; omega
theorem own_ne {p : Int32} (c : Int32) (k : Int) (hk : c.toInt = k) (h : p.toInt ≠ k) : ¬ p = c := fun q => h (by rw [q]; exact hk)
theorem own_eq {p : Int32} (c : Int32) (k : Int) (hk : c.toInt = k) (h : p.toInt = k) : p = c := Int32.toInt_inj.mp (by omega)
theorem own_irem (x y : Int32) (d : Int) (hy : y.toInt = d) (hd : 0 < d) (hx : 0 ≤ x.toInt) : (x - (x / y) * y).toInt = x.toInt % d := by
  have hm : y ≠ -1 := fun h => by rw [h] at hy; have : (-1 : Int32).toInt = -1 := rfl; omega
  have h1 := (c_idiv x y d hy hm).1 hx
  have h2 := c_imul (x / y) y
  have h3 := c_isub x ((x / y) * y)
  have h4 := rng32 (x - (x / y) * y)
  have h5 := rng32 x
  have h10 := rng32 ((x / y) * y)
  rw [h1, hy] at h2
  have h6 : x.toInt / d * d + x.toInt % d = x.toInt := Int.ediv_mul_add_emod x.toInt d
  have h7 := Int.emod_nonneg x.toInt (by omega : d ≠ 0)
  have h8 := Int.emod_lt_of_pos x.toInt (by omega : 0 < d)
  have h9 : 0 ≤ x.toInt / d * d := Int.mul_nonneg (Int.ediv_nonneg hx (by omega)) (by omega)
  generalize x.toInt / d * d = t at *
  omega
theorem own_eqv {args : Array Value} {s : State} {t : Term} {k : Int32} (h : (Jvm.Cond.eq t (.int k)).value args s none s [] = some true) : t.eval args s none [] s = some (.int k) := by
  obtain ⟨x, y, hx, hy, hk, -⟩ := cmp_v (Or.inl h)
  rw [Term.int_eval] at hy
  cases hy
  cases x with
  | int z => have h2 : (Jvm.Cond.eq t (.int k)).value args s none s [] = some (decide (z = k)) := by simp [Jvm.Cond.value, hx, Term.int_eval]
             have := gotT h2 h; rw [hx, this]
  | _ => simp [Kin, Value.isRef] at hk
def tst (k : Int32) (q1 q2 : Int64) : Int32 := if k = (0 : Int32) then (if lcmpW q1 q2 = (0 : Int32) then (1 : Int32) else (0 : Int32)) else if k = (1 : Int32) then (if lcmpW q1 q2 = (0 : Int32) then (0 : Int32) else (1 : Int32)) else if k = (2 : Int32) then (if lcmpW q1 q2 < (0 : Int32) then (1 : Int32) else (0 : Int32)) else if k = (3 : Int32) then (if lcmpW q1 q2 < (0 : Int32) then (0 : Int32) else (1 : Int32)) else if k = (4 : Int32) then (if (0 : Int32) < lcmpW q1 q2 then (1 : Int32) else (0 : Int32)) else (if (0 : Int32) < lcmpW q1 q2 then (0 : Int32) else (1 : Int32))
def pk (k : Int32) (w_EQ w_NE w_LT w_GE w_GT w_LE : Addr) : Addr := if k = (0 : Int32) then w_EQ else if k = (1 : Int32) then w_NE else if k = (2 : Int32) then w_LT else if k = (3 : Int32) then w_GE else if k = (4 : Int32) then w_GT else w_LE
def ng (k : Int32) (w_EQ w_NE w_LT w_GE w_GT w_LE : Addr) : Addr := if k = (0 : Int32) then w_NE else if k = (1 : Int32) then w_EQ else if k = (2 : Int32) then w_GE else if k = (3 : Int32) then w_LT else if k = (4 : Int32) then w_LE else w_GT
theorem tst0 (q1 q2 : Int64) : tst (0 : Int32) q1 q2 = (if lcmpW q1 q2 = (0 : Int32) then (1 : Int32) else (0 : Int32)) := rfl
theorem tst1 (q1 q2 : Int64) : tst (1 : Int32) q1 q2 = (if lcmpW q1 q2 = (0 : Int32) then (0 : Int32) else (1 : Int32)) := rfl
theorem tst2 (q1 q2 : Int64) : tst (2 : Int32) q1 q2 = (if lcmpW q1 q2 < (0 : Int32) then (1 : Int32) else (0 : Int32)) := rfl
theorem tst3 (q1 q2 : Int64) : tst (3 : Int32) q1 q2 = (if lcmpW q1 q2 < (0 : Int32) then (0 : Int32) else (1 : Int32)) := rfl
theorem tst4 (q1 q2 : Int64) : tst (4 : Int32) q1 q2 = (if (0 : Int32) < lcmpW q1 q2 then (1 : Int32) else (0 : Int32)) := rfl
theorem tst5 (q1 q2 : Int64) : tst (5 : Int32) q1 q2 = (if (0 : Int32) < lcmpW q1 q2 then (0 : Int32) else (1 : Int32)) := rfl
theorem own_c6 (r : Int32) (h : 0 ≤ r.toInt ∧ r.toInt < 6) : r = (0 : Int32) ∨ r = (1 : Int32) ∨ r = (2 : Int32) ∨ r = (3 : Int32) ∨ r = (4 : Int32) ∨ r = (5 : Int32) := by
  have h3 : r.toInt = 0 ∨ r.toInt = 1 ∨ r.toInt = 2 ∨ r.toInt = 3 ∨ r.toInt = 4 ∨ r.toInt = 5 := by omega
  rcases h3 with q | q | q | q | q | q
  · exact Or.inl (own_eq (0 : Int32) 0 rfl q)
  · exact Or.inr (Or.inl (own_eq (1 : Int32) 1 rfl q))
  · exact Or.inr (Or.inr (Or.inl (own_eq (2 : Int32) 2 rfl q)))
  · exact Or.inr (Or.inr (Or.inr (Or.inl (own_eq (3 : Int32) 3 rfl q))))
  · exact Or.inr (Or.inr (Or.inr (Or.inr (Or.inl (own_eq (4 : Int32) 4 rfl q)))))
  · exact Or.inr (Or.inr (Or.inr (Or.inr (Or.inr (own_eq (5 : Int32) 5 rfl q)))))
theorem own_k6 (r x : Int32) (h : r = ((x &&& (255 : Int32)) - ((x &&& (255 : Int32)) / (6 : Int32)) * (6 : Int32))) : r = (0 : Int32) ∨ r = (1 : Int32) ∨ r = (2 : Int32) ∨ r = (3 : Int32) ∨ r = (4 : Int32) ∨ r = (5 : Int32) := by
  have h1 := c_mask x (255 : Int32) 8 (by decide) (by decide)
  have h2 := own_irem (x &&& (255 : Int32)) (6 : Int32) 6 rfl (by omega) (by omega)
  rw [← h] at h2
  exact own_c6 r (by omega)
theorem own_e0 (q1 q2 : Int64) (c e : Int32) (hc : c = (if (lcmpW q1 q2) < (0 : Int32) then (-1 : Int32) else (if (lcmpW q1 q2) = (0 : Int32) then (0 : Int32) else (1 : Int32)))) (he : e = (if c = (0 : Int32) then (1 : Int32) else (0 : Int32))) : tst (0 : Int32) q1 q2 = e := by
  rw [tst0, he, hc]
  have hl := c_lcmp q1 q2
  have hw : lcmpW q1 q2 = (-1 : Int32) ∨ lcmpW q1 q2 = (0 : Int32) ∨ lcmpW q1 q2 = (1 : Int32) := by
    rcases Int.lt_trichotomy q1.toInt q2.toInt with h | h | h
    · exact Or.inl (own_eq (-1 : Int32) (-1) rfl (hl.1 h))
    · exact Or.inr (Or.inl (own_eq (0 : Int32) 0 rfl (hl.2.1 h)))
    · exact Or.inr (Or.inr (own_eq (1 : Int32) 1 rfl (hl.2.2 h)))
  rcases hw with h | h | h <;> rw [h] <;> decide
theorem own_e1 (q1 q2 : Int64) (c e : Int32) (hc : c = (if (lcmpW q1 q2) < (0 : Int32) then (-1 : Int32) else (if (lcmpW q1 q2) = (0 : Int32) then (0 : Int32) else (1 : Int32)))) (he : e = (if c = (0 : Int32) then (0 : Int32) else (1 : Int32))) : tst (1 : Int32) q1 q2 = e := by
  rw [tst1, he, hc]
  have hl := c_lcmp q1 q2
  have hw : lcmpW q1 q2 = (-1 : Int32) ∨ lcmpW q1 q2 = (0 : Int32) ∨ lcmpW q1 q2 = (1 : Int32) := by
    rcases Int.lt_trichotomy q1.toInt q2.toInt with h | h | h
    · exact Or.inl (own_eq (-1 : Int32) (-1) rfl (hl.1 h))
    · exact Or.inr (Or.inl (own_eq (0 : Int32) 0 rfl (hl.2.1 h)))
    · exact Or.inr (Or.inr (own_eq (1 : Int32) 1 rfl (hl.2.2 h)))
  rcases hw with h | h | h <;> rw [h] <;> decide
theorem own_e2 (q1 q2 : Int64) (c e : Int32) (hc : c = (if (lcmpW q1 q2) < (0 : Int32) then (-1 : Int32) else (if (lcmpW q1 q2) = (0 : Int32) then (0 : Int32) else (1 : Int32)))) (he : e = (if c < (0 : Int32) then (1 : Int32) else (0 : Int32))) : tst (2 : Int32) q1 q2 = e := by
  rw [tst2, he, hc]
  have hl := c_lcmp q1 q2
  have hw : lcmpW q1 q2 = (-1 : Int32) ∨ lcmpW q1 q2 = (0 : Int32) ∨ lcmpW q1 q2 = (1 : Int32) := by
    rcases Int.lt_trichotomy q1.toInt q2.toInt with h | h | h
    · exact Or.inl (own_eq (-1 : Int32) (-1) rfl (hl.1 h))
    · exact Or.inr (Or.inl (own_eq (0 : Int32) 0 rfl (hl.2.1 h)))
    · exact Or.inr (Or.inr (own_eq (1 : Int32) 1 rfl (hl.2.2 h)))
  rcases hw with h | h | h <;> rw [h] <;> decide
theorem own_e3 (q1 q2 : Int64) (c e : Int32) (hc : c = (if (lcmpW q1 q2) < (0 : Int32) then (-1 : Int32) else (if (lcmpW q1 q2) = (0 : Int32) then (0 : Int32) else (1 : Int32)))) (he : e = (if c < (0 : Int32) then (0 : Int32) else (1 : Int32))) : tst (3 : Int32) q1 q2 = e := by
  rw [tst3, he, hc]
  have hl := c_lcmp q1 q2
  have hw : lcmpW q1 q2 = (-1 : Int32) ∨ lcmpW q1 q2 = (0 : Int32) ∨ lcmpW q1 q2 = (1 : Int32) := by
    rcases Int.lt_trichotomy q1.toInt q2.toInt with h | h | h
    · exact Or.inl (own_eq (-1 : Int32) (-1) rfl (hl.1 h))
    · exact Or.inr (Or.inl (own_eq (0 : Int32) 0 rfl (hl.2.1 h)))
    · exact Or.inr (Or.inr (own_eq (1 : Int32) 1 rfl (hl.2.2 h)))
  rcases hw with h | h | h <;> rw [h] <;> decide
theorem own_e4 (q1 q2 : Int64) (c e : Int32) (hc : c = (if (lcmpW q1 q2) < (0 : Int32) then (-1 : Int32) else (if (lcmpW q1 q2) = (0 : Int32) then (0 : Int32) else (1 : Int32)))) (he : e = (if (0 : Int32) < c then (1 : Int32) else (0 : Int32))) : tst (4 : Int32) q1 q2 = e := by
  rw [tst4, he, hc]
  have hl := c_lcmp q1 q2
  have hw : lcmpW q1 q2 = (-1 : Int32) ∨ lcmpW q1 q2 = (0 : Int32) ∨ lcmpW q1 q2 = (1 : Int32) := by
    rcases Int.lt_trichotomy q1.toInt q2.toInt with h | h | h
    · exact Or.inl (own_eq (-1 : Int32) (-1) rfl (hl.1 h))
    · exact Or.inr (Or.inl (own_eq (0 : Int32) 0 rfl (hl.2.1 h)))
    · exact Or.inr (Or.inr (own_eq (1 : Int32) 1 rfl (hl.2.2 h)))
  rcases hw with h | h | h <;> rw [h] <;> decide
theorem own_e5 (q1 q2 : Int64) (c e : Int32) (hc : c = (if (lcmpW q1 q2) < (0 : Int32) then (-1 : Int32) else (if (lcmpW q1 q2) = (0 : Int32) then (0 : Int32) else (1 : Int32)))) (he : e = (if (0 : Int32) < c then (0 : Int32) else (1 : Int32))) : tst (5 : Int32) q1 q2 = e := by
  rw [tst5, he, hc]
  have hl := c_lcmp q1 q2
  have hw : lcmpW q1 q2 = (-1 : Int32) ∨ lcmpW q1 q2 = (0 : Int32) ∨ lcmpW q1 q2 = (1 : Int32) := by
    rcases Int.lt_trichotomy q1.toInt q2.toInt with h | h | h
    · exact Or.inl (own_eq (-1 : Int32) (-1) rfl (hl.1 h))
    · exact Or.inr (Or.inl (own_eq (0 : Int32) 0 rfl (hl.2.1 h)))
    · exact Or.inr (Or.inr (own_eq (1 : Int32) 1 rfl (hl.2.2 h)))
  rcases hw with h | h | h <;> rw [h] <;> decide
theorem dO_0 : decode jdk_37_method_2_code 0 = .ok (.aload_n 0, 1) := by decide +kernel
theorem dO_1 : decode jdk_37_method_2_code 1 = .ok (.getfield 7, 3) := by decide +kernel
theorem dO_4 : decode jdk_37_method_2_code 4 = .ok (.ireturn, 1) := by decide +kernel
theorem ef_O (m : MethodId) (x0 : Addr) : entryFrame m #[(.ref x0)] 1 = mkF m 0 #[.val (.ref x0)] [] := by first | (simp [entryFrame, mkF, argsToLocals, Value.category]; done) | rfl
set_option maxRecDepth 65536 in
set_option maxHeartbeats 40000000 in
theorem rmO (l : Launch) (Z : State) (a0 : Array Value) (hw : ∀ d ∈ tables_1, d.before a0 Z = true) (ws : List Jvm.Cond) (a1 : Addr) (k : Int32) (h0 : Heap) (F1 : Fld Z h0 a1 "java/lang/Enum" "ordinal" "I" (.int k)) :
    MetFree l (⟨"java/lang/Enum", "ordinal", "()I"⟩ : MethodName) (head1 (Jvm.Cond.code (⟨"java/lang/Enum", "ordinal", "()I"⟩ : MethodName) jdk_37_method_2_code 1 (some .int) :: ws) ({ frames := 0, cells := 0, slots := 0, locals := 0 } : Room)) (fun a U => a = #[(.ref a1)] ∧ Z.Warmed39 U.vm ∧ U.heap = h0) (fun _ _ _ _ _ => True) (fun _ U o U' => ∃ v L, o = .returned v ∧ QP (some (.int k)) h0 v U'.heap L ∧ FrameEnd U o U' L ({ frames := 0, cells := 0, slots := 0, locals := 0 } : Room).cells ({ frames := 0, cells := 0, slots := 0, locals := 0 } : Room).slots) := by
  refine MetFree.of_bodySF (plainFor_of_name (by first | (simp [plainName, overriddenIn]; done) | decide +kernel)) hisR ?_
  intro p e s m args below meth c s₁ Bd hml0 hP hK
  obtain ⟨rfl, hZ, hh⟩ := hP
  have hx := Bd.exec
  have hby := Bd.bytes
  have hml : c.maxLocals = 1 := hml0
  have hown : s.vm.findClass "java/lang/Enum" = some m.cls := findClass_of_methodNamed Bd.named
  have hnm := (name_of_methodNamed Bd.named Bd.method).1
  have hlk : meth.locks = false := BodyLoose.notSynchronized Bd
  have X0 : Stand p l e ({ frames := 0, cells := 0, slots := 0, locals := 0 } : Room) s m #[(.ref a1)] below meth c s₁ [] 0 0 := Stand.of_body Bd
  have e0 : s₁.heap = h0 := by rw [← hh, Bd.state]; rfl
  have P0 : ∀ t, Steps p.tables e below (s₁.setTop (mkF m 0 #[.val (.ref a1)] [])) t → Steps p.tables e below (s₁.setTop (entryFrame m #[(.ref a1)] 1)) t := fun t kt => castTop (ef_O m a1) kt
  obtain ⟨T101, X101, e101, st101⟩ := getF X0 hx hZ hown (host := "") (Or.inl (hw _ (List.mem_of_getElem? (i := 15) rfl))) Via.refl e0 F1 (g := (mkF m 1 #[.val (.ref a1)] [(.ref a1)])) rfl rfl (hb hby dO_1)
  have P102 : ∀ t, Steps p.tables e below (T101.setTop (mkF m 4 #[.val (.ref a1)] [(.int k)])) t → Steps p.tables e below (s₁.setTop (entryFrame m #[(.ref a1)] 1)) t := fun t kt => P0 t (by
    show Steps p.tables e below (s₁.setTop (mkF m 0 #[.val (.ref a1)] [])) _
    refine XS.aloadN X0.here hx rfl (hb hby dO_0) rfl rfl ?_
    show Steps p.tables e below (s₁.setTop (mkF m 1 #[.val (.ref a1)] [(.ref a1)])) _
    refine st101 _ ?_
    exact kt)
  obtain ⟨fs, hr, hrun, hended, hW, hsame⟩ := X101.leave (v := some (.int k)) (fun h => by rw [Bd.returns] at h; cases h) (hlocks := hlk)
  refine ⟨_, _, P102 _ ?_, hrun, hended, _, _, rfl, ?_, ⟨_, rfl⟩, hW, hsame.mono (by decide) (by decide)⟩
  · show Steps p.tables e below (T101.setTop (mkF m 4 #[.val (.ref a1)] [(.int k)])) _
    exact retI X101 hx Bd.returns (hb hby dO_4) hr
  · show QP _ h0 _ T101.heap _
    exact ⟨rfl, rfl, e101⟩
theorem dT_0 : decode prog_28_method_4_code 0 = .ok (.aload_n 0, 1) := by decide +kernel
theorem dT_1 : decode prog_28_method_4_code 1 = .ok (.invokevirtual 45, 3) := by decide +kernel
theorem dT_4 : decode prog_28_method_4_code 4 = .ok (.tableswitch 40 0 5 #[50, 64, 78, 92, 106, 120], 40) := by decide +kernel
theorem dT_54 : decode prog_28_method_4_code 54 = .ok (.lload_n 1, 1) := by decide +kernel
theorem dT_55 : decode prog_28_method_4_code 55 = .ok (.lload_n 3, 1) := by decide +kernel
theorem dT_56 : decode prog_28_method_4_code 56 = .ok (.lcmp, 1) := by decide +kernel
theorem dT_57 : decode prog_28_method_4_code 57 = .ok (.ifCond .ne 7, 3) := by decide +kernel
theorem dT_60 : decode prog_28_method_4_code 60 = .ok (.iconst 1, 1) := by decide +kernel
theorem dT_61 : decode prog_28_method_4_code 61 = .ok (.goto 74, 3) := by decide +kernel
theorem dT_64 : decode prog_28_method_4_code 64 = .ok (.iconst 0, 1) := by decide +kernel
theorem dT_65 : decode prog_28_method_4_code 65 = .ok (.goto 70, 3) := by decide +kernel
theorem dT_68 : decode prog_28_method_4_code 68 = .ok (.lload_n 1, 1) := by decide +kernel
theorem dT_69 : decode prog_28_method_4_code 69 = .ok (.lload_n 3, 1) := by decide +kernel
theorem dT_70 : decode prog_28_method_4_code 70 = .ok (.lcmp, 1) := by decide +kernel
theorem dT_71 : decode prog_28_method_4_code 71 = .ok (.ifCond .eq 7, 3) := by decide +kernel
theorem dT_74 : decode prog_28_method_4_code 74 = .ok (.iconst 1, 1) := by decide +kernel
theorem dT_75 : decode prog_28_method_4_code 75 = .ok (.goto 60, 3) := by decide +kernel
theorem dT_78 : decode prog_28_method_4_code 78 = .ok (.iconst 0, 1) := by decide +kernel
theorem dT_79 : decode prog_28_method_4_code 79 = .ok (.goto 56, 3) := by decide +kernel
theorem dT_82 : decode prog_28_method_4_code 82 = .ok (.lload_n 1, 1) := by decide +kernel
theorem dT_83 : decode prog_28_method_4_code 83 = .ok (.lload_n 3, 1) := by decide +kernel
theorem dT_84 : decode prog_28_method_4_code 84 = .ok (.lcmp, 1) := by decide +kernel
theorem dT_85 : decode prog_28_method_4_code 85 = .ok (.ifCond .ge 7, 3) := by decide +kernel
theorem dT_88 : decode prog_28_method_4_code 88 = .ok (.iconst 1, 1) := by decide +kernel
theorem dT_89 : decode prog_28_method_4_code 89 = .ok (.goto 46, 3) := by decide +kernel
theorem dT_92 : decode prog_28_method_4_code 92 = .ok (.iconst 0, 1) := by decide +kernel
theorem dT_93 : decode prog_28_method_4_code 93 = .ok (.goto 42, 3) := by decide +kernel
theorem dT_96 : decode prog_28_method_4_code 96 = .ok (.lload_n 1, 1) := by decide +kernel
theorem dT_97 : decode prog_28_method_4_code 97 = .ok (.lload_n 3, 1) := by decide +kernel
theorem dT_98 : decode prog_28_method_4_code 98 = .ok (.lcmp, 1) := by decide +kernel
theorem dT_99 : decode prog_28_method_4_code 99 = .ok (.ifCond .lt 7, 3) := by decide +kernel
theorem dT_102 : decode prog_28_method_4_code 102 = .ok (.iconst 1, 1) := by decide +kernel
theorem dT_103 : decode prog_28_method_4_code 103 = .ok (.goto 32, 3) := by decide +kernel
theorem dT_106 : decode prog_28_method_4_code 106 = .ok (.iconst 0, 1) := by decide +kernel
theorem dT_107 : decode prog_28_method_4_code 107 = .ok (.goto 28, 3) := by decide +kernel
theorem dT_110 : decode prog_28_method_4_code 110 = .ok (.lload_n 1, 1) := by decide +kernel
theorem dT_111 : decode prog_28_method_4_code 111 = .ok (.lload_n 3, 1) := by decide +kernel
theorem dT_112 : decode prog_28_method_4_code 112 = .ok (.lcmp, 1) := by decide +kernel
theorem dT_113 : decode prog_28_method_4_code 113 = .ok (.ifCond .le 7, 3) := by decide +kernel
theorem dT_116 : decode prog_28_method_4_code 116 = .ok (.iconst 1, 1) := by decide +kernel
theorem dT_117 : decode prog_28_method_4_code 117 = .ok (.goto 18, 3) := by decide +kernel
theorem dT_120 : decode prog_28_method_4_code 120 = .ok (.iconst 0, 1) := by decide +kernel
theorem dT_121 : decode prog_28_method_4_code 121 = .ok (.goto 14, 3) := by decide +kernel
theorem dT_124 : decode prog_28_method_4_code 124 = .ok (.lload_n 1, 1) := by decide +kernel
theorem dT_125 : decode prog_28_method_4_code 125 = .ok (.lload_n 3, 1) := by decide +kernel
theorem dT_126 : decode prog_28_method_4_code 126 = .ok (.lcmp, 1) := by decide +kernel
theorem dT_127 : decode prog_28_method_4_code 127 = .ok (.ifCond .gt 7, 3) := by decide +kernel
theorem dT_130 : decode prog_28_method_4_code 130 = .ok (.iconst 1, 1) := by decide +kernel
theorem dT_131 : decode prog_28_method_4_code 131 = .ok (.goto 4, 3) := by decide +kernel
theorem dT_134 : decode prog_28_method_4_code 134 = .ok (.iconst 0, 1) := by decide +kernel
theorem dT_135 : decode prog_28_method_4_code 135 = .ok (.ireturn, 1) := by decide +kernel
theorem ef_T (m : MethodId) (x0 : Addr) (x1 : Int64) (x2 : Int64) : entryFrame m #[(.ref x0), (.long x1), (.long x2)] 5 = mkF m 0 #[.val (.ref x0), .val (.long x1), .second, .val (.long x2), .second] [] := by first | (simp [entryFrame, mkF, argsToLocals, Value.category]; done) | rfl
set_option maxRecDepth 65536 in
set_option maxHeartbeats 40000000 in
theorem rmT (l : Launch) (Z : State) (a0 : Array Value) (hw : ∀ d ∈ tables_1, d.before a0 Z = true) (ws : List Jvm.Cond) (a1 : Addr) (k : Int32) (q1 : Int64) (q2 : Int64) (h0 : Heap) (E1 : Exa Z h0 a1 "com/example/probex/probex/symbolic/Relation") (F1 : Fld Z h0 a1 "java/lang/Enum" "ordinal" "I" (.int k)) (hk : k = (0 : Int32) ∨ k = (1 : Int32) ∨ k = (2 : Int32) ∨ k = (3 : Int32) ∨ k = (4 : Int32) ∨ k = (5 : Int32)) :
    MetFree l (⟨"com/example/probex/probex/symbolic/Relation", "test", "(JJ)Z"⟩ : MethodName) (head1 (Jvm.Cond.code (⟨"com/example/probex/probex/symbolic/Relation", "test", "(JJ)Z"⟩ : MethodName) prog_28_method_4_code 5 (some .boolean) :: ws) ({ frames := 1, cells := 0, slots := 0, locals := 12 } : Room)) (fun a U => a = #[(.ref a1), (.long q1), (.long q2)] ∧ Z.Warmed39 U.vm ∧ U.heap = h0) (fun _ _ _ _ _ => True) (fun _ U o U' => ∃ v L, o = .returned v ∧ QP (some (.int (tst k q1 q2))) h0 v U'.heap L ∧ FrameEnd U o U' L ({ frames := 1, cells := 0, slots := 0, locals := 12 } : Room).cells ({ frames := 1, cells := 0, slots := 0, locals := 12 } : Room).slots) := by
  refine MetFree.of_bodySF (plainFor_of_name (by first | (simp [plainName, overriddenIn]; done) | decide +kernel)) hisR ?_
  intro p e s m args below meth c s₁ Bd hml0 hP hK
  obtain ⟨rfl, hZ, hh⟩ := hP
  have hx := Bd.exec
  have hby := Bd.bytes
  have hml : c.maxLocals = 5 := hml0
  have hown : s.vm.findClass "com/example/probex/probex/symbolic/Relation" = some m.cls := findClass_of_methodNamed Bd.named
  have hnm := (name_of_methodNamed Bd.named Bd.method).1
  have hlk : meth.locks = false := BodyLoose.notSynchronized Bd
  have X0 : Stand p l e ({ frames := 1, cells := 0, slots := 0, locals := 12 } : Room) s m #[(.ref a1), (.long q1), (.long q2)] below meth c s₁ [] 0 0 := Stand.of_body Bd
  have e0 : s₁.heap = h0 := by rw [← hh, Bd.state]; rfl
  have P0 : ∀ t, Steps p.tables e below (s₁.setTop (mkF m 0 #[.val (.ref a1), .val (.long q1), .second, .val (.long q2), .second] [])) t → Steps p.tables e below (s₁.setTop (entryFrame m #[(.ref a1), (.long q1), (.long q2)] 5)) t := fun t kt => castTop (ef_T m a1 q1 q2) kt
  obtain ⟨cq101, kq101, q101a, q101b, q101c⟩ := isOf hZ e0 E1
  obtain ⟨_, _, ⟨T101, L101, k101, n101⟩, -, X101, ⟨Lc101, hQ101, l101, y101, z101⟩, st101⟩ := X0.virtualBackUp hx (x := (⟨"com/example/probex/probex/symbolic/Relation", "ordinal", "()I"⟩ : MethodName)) (y := (⟨"java/lang/Enum", "ordinal", "()I"⟩ : MethodName)) hown (mvT hZ (hw _ (List.mem_of_getElem? (i := 8) rfl))) (mvT hZ (hw _ (List.mem_of_getElem? (i := 9) rfl))) (mvT hZ (hw _ (List.mem_of_getElem? (i := 10) rfl))) (by decide) (mvT hZ (hw _ (List.mem_of_getElem? (i := 12) rfl))) (mvT hZ (hw _ (List.mem_of_getElem? (i := 11) rfl))) (backOf (W := 0)  (rmO l Z a0 hw [] a1 k h0 F1) hZ (hw _ (List.mem_of_getElem? (i := 14) rfl)) (hw _ (List.mem_of_getElem? (i := 13) rfl)) (by decide) (by decide)) q101a q101c (g := (mkF m 1 #[.val (.ref a1), .val (.long q1), .second, .val (.long q2), .second] [(.ref a1)])) rfl (by rw [hml]; rfl) (Steps.refl _) (argsL := []) (rest := []) (lenOf pd___I rfl) rfl (by show 2 * 0 + _ ≤ _; exact Nat.le_of_eq rfl) (hb hby dT_1) (fun _ _ => ⟨rfl, e0, (by decide : 0 + 0 ≤ _), (by decide : 0 + 0 ≤ _)⟩)
  dsimp only [Pt.U, Pt.locs, Pt.cells, Pt.slots] at X101 l101 y101 z101 st101 hQ101
  subst l101 y101 z101
  obtain ⟨rfl, rfl, e101⟩ := hQ101
  have X101 : Stand p l e ({ frames := 1, cells := 0, slots := 0, locals := 12 } : Room) s m #[(.ref a1), (.long q1), (.long q2)] below meth c T101 [] 0 0 := X101
  have P102 : ∀ t, Steps p.tables e below (T101.setTop (mkF m 4 #[.val (.ref a1), .val (.long q1), .second, .val (.long q2), .second] [(.int k)])) t → Steps p.tables e below (s₁.setTop (entryFrame m #[(.ref a1), (.long q1), (.long q2)] 5)) t := fun t kt => P0 t (by
    show Steps p.tables e below (s₁.setTop (mkF m 0 #[.val (.ref a1), .val (.long q1), .second, .val (.long q2), .second] [])) _
    refine XS.aloadN X0.here hx rfl (hb hby dT_0) rfl rfl ?_
    show Steps p.tables e below (s₁.setTop (mkF m 1 #[.val (.ref a1), .val (.long q1), .second, .val (.long q2), .second] [(.ref a1)])) _
    refine st101.trans ?_
    exact kt)
  rcases hk with rfl | rfl | rfl | rfl | rfl | rfl
  · have P103 : ∀ t, Steps p.tables e below (T101.setTop (mkF m 57 #[.val (.ref a1), .val (.long q1), .second, .val (.long q2), .second] [(.int (lcmpW q1 q2))])) t → Steps p.tables e below (s₁.setTop (entryFrame m #[(.ref a1), (.long q1), (.long q2)] 5)) t := fun t kt => P102 t (by
      show Steps p.tables e below (T101.setTop (mkF m 4 #[.val (.ref a1), .val (.long q1), .second, .val (.long q2), .second] [(.int (0 : Int32))])) _
      refine XS.tswIn X101.here hx rfl (pc0 := 4) (pc' := 54) (o := 50) rfl (hb hby dT_4) rfl (by decide) (by decide) (by decide) (by decide) ?_
      show Steps p.tables e below (T101.setTop (mkF m 54 #[.val (.ref a1), .val (.long q1), .second, .val (.long q2), .second] [])) _
      refine XS.lloadN X101.here hx rfl (hb hby dT_54) rfl ?_
      show Steps p.tables e below (T101.setTop (mkF m 55 #[.val (.ref a1), .val (.long q1), .second, .val (.long q2), .second] [(.long q1)])) _
      refine XS.lloadN X101.here hx rfl (hb hby dT_55) rfl ?_
      show Steps p.tables e below (T101.setTop (mkF m 56 #[.val (.ref a1), .val (.long q1), .second, .val (.long q2), .second] [(.long q2), (.long q1)])) _
      refine XS.lcmp X101.here hx rfl (hb hby dT_56) rfl ?_
      exact kt)
    by_cases hc57_104 : (lcmpW q1 q2) = (0 : Int32)
    · have P105 : ∀ t, Steps p.tables e below (T101.setTop (mkF m 135 #[.val (.ref a1), .val (.long q1), .second, .val (.long q2), .second] [(.int (1 : Int32))])) t → Steps p.tables e below (s₁.setTop (entryFrame m #[(.ref a1), (.long q1), (.long q2)] 5)) t := fun t kt => P103 t (by
        show Steps p.tables e below (T101.setTop (mkF m 57 #[.val (.ref a1), .val (.long q1), .second, .val (.long q2), .second] [(.int (lcmpW q1 q2))])) _
        refine XS.ifNo X101.here hx rfl (hb hby dT_57) rfl ((if0 _ _).trans (teq hc57_104).2) ?_
        show Steps p.tables e below (T101.setTop (mkF m 60 #[.val (.ref a1), .val (.long q1), .second, .val (.long q2), .second] [])) _
        refine XS.iconst X101.here hx rfl (hb hby dT_60) ?_
        show Steps p.tables e below (T101.setTop (mkF m 61 #[.val (.ref a1), .val (.long q1), .second, .val (.long q2), .second] [(.int (1 : Int32))])) _
        refine XS.goto X101.here hx rfl (pc0 := 61) (pc' := 135) rfl (hb hby dT_61) (by decide) (by decide) ?_
        exact kt)
      obtain ⟨fs, hr, hrun, hended, hW, hsame⟩ := X101.leave (v := some (.int (1 : Int32))) (fun h => by rw [Bd.returns] at h; cases h) (hlocks := hlk)
      refine ⟨_, _, P105 _ ?_, hrun, hended, _, _, rfl, ?_, ⟨_, rfl⟩, hW, hsame.mono (by decide) (by decide)⟩
      · show Steps p.tables e below (T101.setTop (mkF m 135 #[.val (.ref a1), .val (.long q1), .second, .val (.long q2), .second] [(.int (1 : Int32))])) _
        exact retN X101 hx (t := .boolean) Bd.returns (by simp) (hb hby dT_135) hr
      · show QP _ h0 _ T101.heap _
        have ev : tst (0 : Int32) q1 q2 = (1 : Int32) := by rw [tst0]; exact if_pos hc57_104
        rw [ev]
        exact ⟨rfl, rfl, e101⟩
    · have P106 : ∀ t, Steps p.tables e below (T101.setTop (mkF m 135 #[.val (.ref a1), .val (.long q1), .second, .val (.long q2), .second] [(.int (0 : Int32))])) t → Steps p.tables e below (s₁.setTop (entryFrame m #[(.ref a1), (.long q1), (.long q2)] 5)) t := fun t kt => P103 t (by
        show Steps p.tables e below (T101.setTop (mkF m 57 #[.val (.ref a1), .val (.long q1), .second, .val (.long q2), .second] [(.int (lcmpW q1 q2))])) _
        refine XS.ifYes X101.here hx rfl (pc0 := 57) (pc' := 64) rfl (hb hby dT_57) rfl ((if0 _ _).trans (feq hc57_104).2) (by decide) (by decide) ?_
        show Steps p.tables e below (T101.setTop (mkF m 64 #[.val (.ref a1), .val (.long q1), .second, .val (.long q2), .second] [])) _
        refine XS.iconst X101.here hx rfl (hb hby dT_64) ?_
        show Steps p.tables e below (T101.setTop (mkF m 65 #[.val (.ref a1), .val (.long q1), .second, .val (.long q2), .second] [(.int (0 : Int32))])) _
        refine XS.goto X101.here hx rfl (pc0 := 65) (pc' := 135) rfl (hb hby dT_65) (by decide) (by decide) ?_
        exact kt)
      obtain ⟨fs, hr, hrun, hended, hW, hsame⟩ := X101.leave (v := some (.int (0 : Int32))) (fun h => by rw [Bd.returns] at h; cases h) (hlocks := hlk)
      refine ⟨_, _, P106 _ ?_, hrun, hended, _, _, rfl, ?_, ⟨_, rfl⟩, hW, hsame.mono (by decide) (by decide)⟩
      · show Steps p.tables e below (T101.setTop (mkF m 135 #[.val (.ref a1), .val (.long q1), .second, .val (.long q2), .second] [(.int (0 : Int32))])) _
        exact retN X101 hx (t := .boolean) Bd.returns (by simp) (hb hby dT_135) hr
      · show QP _ h0 _ T101.heap _
        have ev : tst (0 : Int32) q1 q2 = (0 : Int32) := by rw [tst0]; exact if_neg hc57_104
        rw [ev]
        exact ⟨rfl, rfl, e101⟩
  · have P107 : ∀ t, Steps p.tables e below (T101.setTop (mkF m 71 #[.val (.ref a1), .val (.long q1), .second, .val (.long q2), .second] [(.int (lcmpW q1 q2))])) t → Steps p.tables e below (s₁.setTop (entryFrame m #[(.ref a1), (.long q1), (.long q2)] 5)) t := fun t kt => P102 t (by
      show Steps p.tables e below (T101.setTop (mkF m 4 #[.val (.ref a1), .val (.long q1), .second, .val (.long q2), .second] [(.int (1 : Int32))])) _
      refine XS.tswIn X101.here hx rfl (pc0 := 4) (pc' := 68) (o := 64) rfl (hb hby dT_4) rfl (by decide) (by decide) (by decide) (by decide) ?_
      show Steps p.tables e below (T101.setTop (mkF m 68 #[.val (.ref a1), .val (.long q1), .second, .val (.long q2), .second] [])) _
      refine XS.lloadN X101.here hx rfl (hb hby dT_68) rfl ?_
      show Steps p.tables e below (T101.setTop (mkF m 69 #[.val (.ref a1), .val (.long q1), .second, .val (.long q2), .second] [(.long q1)])) _
      refine XS.lloadN X101.here hx rfl (hb hby dT_69) rfl ?_
      show Steps p.tables e below (T101.setTop (mkF m 70 #[.val (.ref a1), .val (.long q1), .second, .val (.long q2), .second] [(.long q2), (.long q1)])) _
      refine XS.lcmp X101.here hx rfl (hb hby dT_70) rfl ?_
      exact kt)
    by_cases hc71_108 : (lcmpW q1 q2) = (0 : Int32)
    · have P109 : ∀ t, Steps p.tables e below (T101.setTop (mkF m 135 #[.val (.ref a1), .val (.long q1), .second, .val (.long q2), .second] [(.int (0 : Int32))])) t → Steps p.tables e below (s₁.setTop (entryFrame m #[(.ref a1), (.long q1), (.long q2)] 5)) t := fun t kt => P107 t (by
        show Steps p.tables e below (T101.setTop (mkF m 71 #[.val (.ref a1), .val (.long q1), .second, .val (.long q2), .second] [(.int (lcmpW q1 q2))])) _
        refine XS.ifYes X101.here hx rfl (pc0 := 71) (pc' := 78) rfl (hb hby dT_71) rfl ((if0 _ _).trans (teq hc71_108).1) (by decide) (by decide) ?_
        show Steps p.tables e below (T101.setTop (mkF m 78 #[.val (.ref a1), .val (.long q1), .second, .val (.long q2), .second] [])) _
        refine XS.iconst X101.here hx rfl (hb hby dT_78) ?_
        show Steps p.tables e below (T101.setTop (mkF m 79 #[.val (.ref a1), .val (.long q1), .second, .val (.long q2), .second] [(.int (0 : Int32))])) _
        refine XS.goto X101.here hx rfl (pc0 := 79) (pc' := 135) rfl (hb hby dT_79) (by decide) (by decide) ?_
        exact kt)
      obtain ⟨fs, hr, hrun, hended, hW, hsame⟩ := X101.leave (v := some (.int (0 : Int32))) (fun h => by rw [Bd.returns] at h; cases h) (hlocks := hlk)
      refine ⟨_, _, P109 _ ?_, hrun, hended, _, _, rfl, ?_, ⟨_, rfl⟩, hW, hsame.mono (by decide) (by decide)⟩
      · show Steps p.tables e below (T101.setTop (mkF m 135 #[.val (.ref a1), .val (.long q1), .second, .val (.long q2), .second] [(.int (0 : Int32))])) _
        exact retN X101 hx (t := .boolean) Bd.returns (by simp) (hb hby dT_135) hr
      · show QP _ h0 _ T101.heap _
        have ev : tst (1 : Int32) q1 q2 = (0 : Int32) := by rw [tst1]; exact if_pos hc71_108
        rw [ev]
        exact ⟨rfl, rfl, e101⟩
    · have P110 : ∀ t, Steps p.tables e below (T101.setTop (mkF m 135 #[.val (.ref a1), .val (.long q1), .second, .val (.long q2), .second] [(.int (1 : Int32))])) t → Steps p.tables e below (s₁.setTop (entryFrame m #[(.ref a1), (.long q1), (.long q2)] 5)) t := fun t kt => P107 t (by
        show Steps p.tables e below (T101.setTop (mkF m 71 #[.val (.ref a1), .val (.long q1), .second, .val (.long q2), .second] [(.int (lcmpW q1 q2))])) _
        refine XS.ifNo X101.here hx rfl (hb hby dT_71) rfl ((if0 _ _).trans (feq hc71_108).1) ?_
        show Steps p.tables e below (T101.setTop (mkF m 74 #[.val (.ref a1), .val (.long q1), .second, .val (.long q2), .second] [])) _
        refine XS.iconst X101.here hx rfl (hb hby dT_74) ?_
        show Steps p.tables e below (T101.setTop (mkF m 75 #[.val (.ref a1), .val (.long q1), .second, .val (.long q2), .second] [(.int (1 : Int32))])) _
        refine XS.goto X101.here hx rfl (pc0 := 75) (pc' := 135) rfl (hb hby dT_75) (by decide) (by decide) ?_
        exact kt)
      obtain ⟨fs, hr, hrun, hended, hW, hsame⟩ := X101.leave (v := some (.int (1 : Int32))) (fun h => by rw [Bd.returns] at h; cases h) (hlocks := hlk)
      refine ⟨_, _, P110 _ ?_, hrun, hended, _, _, rfl, ?_, ⟨_, rfl⟩, hW, hsame.mono (by decide) (by decide)⟩
      · show Steps p.tables e below (T101.setTop (mkF m 135 #[.val (.ref a1), .val (.long q1), .second, .val (.long q2), .second] [(.int (1 : Int32))])) _
        exact retN X101 hx (t := .boolean) Bd.returns (by simp) (hb hby dT_135) hr
      · show QP _ h0 _ T101.heap _
        have ev : tst (1 : Int32) q1 q2 = (1 : Int32) := by rw [tst1]; exact if_neg hc71_108
        rw [ev]
        exact ⟨rfl, rfl, e101⟩
  · have P111 : ∀ t, Steps p.tables e below (T101.setTop (mkF m 85 #[.val (.ref a1), .val (.long q1), .second, .val (.long q2), .second] [(.int (lcmpW q1 q2))])) t → Steps p.tables e below (s₁.setTop (entryFrame m #[(.ref a1), (.long q1), (.long q2)] 5)) t := fun t kt => P102 t (by
      show Steps p.tables e below (T101.setTop (mkF m 4 #[.val (.ref a1), .val (.long q1), .second, .val (.long q2), .second] [(.int (2 : Int32))])) _
      refine XS.tswIn X101.here hx rfl (pc0 := 4) (pc' := 82) (o := 78) rfl (hb hby dT_4) rfl (by decide) (by decide) (by decide) (by decide) ?_
      show Steps p.tables e below (T101.setTop (mkF m 82 #[.val (.ref a1), .val (.long q1), .second, .val (.long q2), .second] [])) _
      refine XS.lloadN X101.here hx rfl (hb hby dT_82) rfl ?_
      show Steps p.tables e below (T101.setTop (mkF m 83 #[.val (.ref a1), .val (.long q1), .second, .val (.long q2), .second] [(.long q1)])) _
      refine XS.lloadN X101.here hx rfl (hb hby dT_83) rfl ?_
      show Steps p.tables e below (T101.setTop (mkF m 84 #[.val (.ref a1), .val (.long q1), .second, .val (.long q2), .second] [(.long q2), (.long q1)])) _
      refine XS.lcmp X101.here hx rfl (hb hby dT_84) rfl ?_
      exact kt)
    by_cases hc85_112 : (lcmpW q1 q2) < (0 : Int32)
    · have P113 : ∀ t, Steps p.tables e below (T101.setTop (mkF m 135 #[.val (.ref a1), .val (.long q1), .second, .val (.long q2), .second] [(.int (1 : Int32))])) t → Steps p.tables e below (s₁.setTop (entryFrame m #[(.ref a1), (.long q1), (.long q2)] 5)) t := fun t kt => P111 t (by
        show Steps p.tables e below (T101.setTop (mkF m 85 #[.val (.ref a1), .val (.long q1), .second, .val (.long q2), .second] [(.int (lcmpW q1 q2))])) _
        refine XS.ifNo X101.here hx rfl (hb hby dT_85) rfl ((if0 _ _).trans (tlt hc85_112).2.1) ?_
        show Steps p.tables e below (T101.setTop (mkF m 88 #[.val (.ref a1), .val (.long q1), .second, .val (.long q2), .second] [])) _
        refine XS.iconst X101.here hx rfl (hb hby dT_88) ?_
        show Steps p.tables e below (T101.setTop (mkF m 89 #[.val (.ref a1), .val (.long q1), .second, .val (.long q2), .second] [(.int (1 : Int32))])) _
        refine XS.goto X101.here hx rfl (pc0 := 89) (pc' := 135) rfl (hb hby dT_89) (by decide) (by decide) ?_
        exact kt)
      obtain ⟨fs, hr, hrun, hended, hW, hsame⟩ := X101.leave (v := some (.int (1 : Int32))) (fun h => by rw [Bd.returns] at h; cases h) (hlocks := hlk)
      refine ⟨_, _, P113 _ ?_, hrun, hended, _, _, rfl, ?_, ⟨_, rfl⟩, hW, hsame.mono (by decide) (by decide)⟩
      · show Steps p.tables e below (T101.setTop (mkF m 135 #[.val (.ref a1), .val (.long q1), .second, .val (.long q2), .second] [(.int (1 : Int32))])) _
        exact retN X101 hx (t := .boolean) Bd.returns (by simp) (hb hby dT_135) hr
      · show QP _ h0 _ T101.heap _
        have ev : tst (2 : Int32) q1 q2 = (1 : Int32) := by rw [tst2]; exact if_pos hc85_112
        rw [ev]
        exact ⟨rfl, rfl, e101⟩
    · have P114 : ∀ t, Steps p.tables e below (T101.setTop (mkF m 135 #[.val (.ref a1), .val (.long q1), .second, .val (.long q2), .second] [(.int (0 : Int32))])) t → Steps p.tables e below (s₁.setTop (entryFrame m #[(.ref a1), (.long q1), (.long q2)] 5)) t := fun t kt => P111 t (by
        show Steps p.tables e below (T101.setTop (mkF m 85 #[.val (.ref a1), .val (.long q1), .second, .val (.long q2), .second] [(.int (lcmpW q1 q2))])) _
        refine XS.ifYes X101.here hx rfl (pc0 := 85) (pc' := 92) rfl (hb hby dT_85) rfl ((if0 _ _).trans (flt hc85_112).2.1) (by decide) (by decide) ?_
        show Steps p.tables e below (T101.setTop (mkF m 92 #[.val (.ref a1), .val (.long q1), .second, .val (.long q2), .second] [])) _
        refine XS.iconst X101.here hx rfl (hb hby dT_92) ?_
        show Steps p.tables e below (T101.setTop (mkF m 93 #[.val (.ref a1), .val (.long q1), .second, .val (.long q2), .second] [(.int (0 : Int32))])) _
        refine XS.goto X101.here hx rfl (pc0 := 93) (pc' := 135) rfl (hb hby dT_93) (by decide) (by decide) ?_
        exact kt)
      obtain ⟨fs, hr, hrun, hended, hW, hsame⟩ := X101.leave (v := some (.int (0 : Int32))) (fun h => by rw [Bd.returns] at h; cases h) (hlocks := hlk)
      refine ⟨_, _, P114 _ ?_, hrun, hended, _, _, rfl, ?_, ⟨_, rfl⟩, hW, hsame.mono (by decide) (by decide)⟩
      · show Steps p.tables e below (T101.setTop (mkF m 135 #[.val (.ref a1), .val (.long q1), .second, .val (.long q2), .second] [(.int (0 : Int32))])) _
        exact retN X101 hx (t := .boolean) Bd.returns (by simp) (hb hby dT_135) hr
      · show QP _ h0 _ T101.heap _
        have ev : tst (2 : Int32) q1 q2 = (0 : Int32) := by rw [tst2]; exact if_neg hc85_112
        rw [ev]
        exact ⟨rfl, rfl, e101⟩
  · have P115 : ∀ t, Steps p.tables e below (T101.setTop (mkF m 99 #[.val (.ref a1), .val (.long q1), .second, .val (.long q2), .second] [(.int (lcmpW q1 q2))])) t → Steps p.tables e below (s₁.setTop (entryFrame m #[(.ref a1), (.long q1), (.long q2)] 5)) t := fun t kt => P102 t (by
      show Steps p.tables e below (T101.setTop (mkF m 4 #[.val (.ref a1), .val (.long q1), .second, .val (.long q2), .second] [(.int (3 : Int32))])) _
      refine XS.tswIn X101.here hx rfl (pc0 := 4) (pc' := 96) (o := 92) rfl (hb hby dT_4) rfl (by decide) (by decide) (by decide) (by decide) ?_
      show Steps p.tables e below (T101.setTop (mkF m 96 #[.val (.ref a1), .val (.long q1), .second, .val (.long q2), .second] [])) _
      refine XS.lloadN X101.here hx rfl (hb hby dT_96) rfl ?_
      show Steps p.tables e below (T101.setTop (mkF m 97 #[.val (.ref a1), .val (.long q1), .second, .val (.long q2), .second] [(.long q1)])) _
      refine XS.lloadN X101.here hx rfl (hb hby dT_97) rfl ?_
      show Steps p.tables e below (T101.setTop (mkF m 98 #[.val (.ref a1), .val (.long q1), .second, .val (.long q2), .second] [(.long q2), (.long q1)])) _
      refine XS.lcmp X101.here hx rfl (hb hby dT_98) rfl ?_
      exact kt)
    by_cases hc99_116 : (lcmpW q1 q2) < (0 : Int32)
    · have P117 : ∀ t, Steps p.tables e below (T101.setTop (mkF m 135 #[.val (.ref a1), .val (.long q1), .second, .val (.long q2), .second] [(.int (0 : Int32))])) t → Steps p.tables e below (s₁.setTop (entryFrame m #[(.ref a1), (.long q1), (.long q2)] 5)) t := fun t kt => P115 t (by
        show Steps p.tables e below (T101.setTop (mkF m 99 #[.val (.ref a1), .val (.long q1), .second, .val (.long q2), .second] [(.int (lcmpW q1 q2))])) _
        refine XS.ifYes X101.here hx rfl (pc0 := 99) (pc' := 106) rfl (hb hby dT_99) rfl ((if0 _ _).trans (tlt hc99_116).1) (by decide) (by decide) ?_
        show Steps p.tables e below (T101.setTop (mkF m 106 #[.val (.ref a1), .val (.long q1), .second, .val (.long q2), .second] [])) _
        refine XS.iconst X101.here hx rfl (hb hby dT_106) ?_
        show Steps p.tables e below (T101.setTop (mkF m 107 #[.val (.ref a1), .val (.long q1), .second, .val (.long q2), .second] [(.int (0 : Int32))])) _
        refine XS.goto X101.here hx rfl (pc0 := 107) (pc' := 135) rfl (hb hby dT_107) (by decide) (by decide) ?_
        exact kt)
      obtain ⟨fs, hr, hrun, hended, hW, hsame⟩ := X101.leave (v := some (.int (0 : Int32))) (fun h => by rw [Bd.returns] at h; cases h) (hlocks := hlk)
      refine ⟨_, _, P117 _ ?_, hrun, hended, _, _, rfl, ?_, ⟨_, rfl⟩, hW, hsame.mono (by decide) (by decide)⟩
      · show Steps p.tables e below (T101.setTop (mkF m 135 #[.val (.ref a1), .val (.long q1), .second, .val (.long q2), .second] [(.int (0 : Int32))])) _
        exact retN X101 hx (t := .boolean) Bd.returns (by simp) (hb hby dT_135) hr
      · show QP _ h0 _ T101.heap _
        have ev : tst (3 : Int32) q1 q2 = (0 : Int32) := by rw [tst3]; exact if_pos hc99_116
        rw [ev]
        exact ⟨rfl, rfl, e101⟩
    · have P118 : ∀ t, Steps p.tables e below (T101.setTop (mkF m 135 #[.val (.ref a1), .val (.long q1), .second, .val (.long q2), .second] [(.int (1 : Int32))])) t → Steps p.tables e below (s₁.setTop (entryFrame m #[(.ref a1), (.long q1), (.long q2)] 5)) t := fun t kt => P115 t (by
        show Steps p.tables e below (T101.setTop (mkF m 99 #[.val (.ref a1), .val (.long q1), .second, .val (.long q2), .second] [(.int (lcmpW q1 q2))])) _
        refine XS.ifNo X101.here hx rfl (hb hby dT_99) rfl ((if0 _ _).trans (flt hc99_116).1) ?_
        show Steps p.tables e below (T101.setTop (mkF m 102 #[.val (.ref a1), .val (.long q1), .second, .val (.long q2), .second] [])) _
        refine XS.iconst X101.here hx rfl (hb hby dT_102) ?_
        show Steps p.tables e below (T101.setTop (mkF m 103 #[.val (.ref a1), .val (.long q1), .second, .val (.long q2), .second] [(.int (1 : Int32))])) _
        refine XS.goto X101.here hx rfl (pc0 := 103) (pc' := 135) rfl (hb hby dT_103) (by decide) (by decide) ?_
        exact kt)
      obtain ⟨fs, hr, hrun, hended, hW, hsame⟩ := X101.leave (v := some (.int (1 : Int32))) (fun h => by rw [Bd.returns] at h; cases h) (hlocks := hlk)
      refine ⟨_, _, P118 _ ?_, hrun, hended, _, _, rfl, ?_, ⟨_, rfl⟩, hW, hsame.mono (by decide) (by decide)⟩
      · show Steps p.tables e below (T101.setTop (mkF m 135 #[.val (.ref a1), .val (.long q1), .second, .val (.long q2), .second] [(.int (1 : Int32))])) _
        exact retN X101 hx (t := .boolean) Bd.returns (by simp) (hb hby dT_135) hr
      · show QP _ h0 _ T101.heap _
        have ev : tst (3 : Int32) q1 q2 = (1 : Int32) := by rw [tst3]; exact if_neg hc99_116
        rw [ev]
        exact ⟨rfl, rfl, e101⟩
  · have P119 : ∀ t, Steps p.tables e below (T101.setTop (mkF m 113 #[.val (.ref a1), .val (.long q1), .second, .val (.long q2), .second] [(.int (lcmpW q1 q2))])) t → Steps p.tables e below (s₁.setTop (entryFrame m #[(.ref a1), (.long q1), (.long q2)] 5)) t := fun t kt => P102 t (by
      show Steps p.tables e below (T101.setTop (mkF m 4 #[.val (.ref a1), .val (.long q1), .second, .val (.long q2), .second] [(.int (4 : Int32))])) _
      refine XS.tswIn X101.here hx rfl (pc0 := 4) (pc' := 110) (o := 106) rfl (hb hby dT_4) rfl (by decide) (by decide) (by decide) (by decide) ?_
      show Steps p.tables e below (T101.setTop (mkF m 110 #[.val (.ref a1), .val (.long q1), .second, .val (.long q2), .second] [])) _
      refine XS.lloadN X101.here hx rfl (hb hby dT_110) rfl ?_
      show Steps p.tables e below (T101.setTop (mkF m 111 #[.val (.ref a1), .val (.long q1), .second, .val (.long q2), .second] [(.long q1)])) _
      refine XS.lloadN X101.here hx rfl (hb hby dT_111) rfl ?_
      show Steps p.tables e below (T101.setTop (mkF m 112 #[.val (.ref a1), .val (.long q1), .second, .val (.long q2), .second] [(.long q2), (.long q1)])) _
      refine XS.lcmp X101.here hx rfl (hb hby dT_112) rfl ?_
      exact kt)
    by_cases hc113_120 : (0 : Int32) < (lcmpW q1 q2)
    · have P121 : ∀ t, Steps p.tables e below (T101.setTop (mkF m 135 #[.val (.ref a1), .val (.long q1), .second, .val (.long q2), .second] [(.int (1 : Int32))])) t → Steps p.tables e below (s₁.setTop (entryFrame m #[(.ref a1), (.long q1), (.long q2)] 5)) t := fun t kt => P119 t (by
        show Steps p.tables e below (T101.setTop (mkF m 113 #[.val (.ref a1), .val (.long q1), .second, .val (.long q2), .second] [(.int (lcmpW q1 q2))])) _
        refine XS.ifNo X101.here hx rfl (hb hby dT_113) rfl ((if0 _ _).trans (tlt hc113_120).2.2.2) ?_
        show Steps p.tables e below (T101.setTop (mkF m 116 #[.val (.ref a1), .val (.long q1), .second, .val (.long q2), .second] [])) _
        refine XS.iconst X101.here hx rfl (hb hby dT_116) ?_
        show Steps p.tables e below (T101.setTop (mkF m 117 #[.val (.ref a1), .val (.long q1), .second, .val (.long q2), .second] [(.int (1 : Int32))])) _
        refine XS.goto X101.here hx rfl (pc0 := 117) (pc' := 135) rfl (hb hby dT_117) (by decide) (by decide) ?_
        exact kt)
      obtain ⟨fs, hr, hrun, hended, hW, hsame⟩ := X101.leave (v := some (.int (1 : Int32))) (fun h => by rw [Bd.returns] at h; cases h) (hlocks := hlk)
      refine ⟨_, _, P121 _ ?_, hrun, hended, _, _, rfl, ?_, ⟨_, rfl⟩, hW, hsame.mono (by decide) (by decide)⟩
      · show Steps p.tables e below (T101.setTop (mkF m 135 #[.val (.ref a1), .val (.long q1), .second, .val (.long q2), .second] [(.int (1 : Int32))])) _
        exact retN X101 hx (t := .boolean) Bd.returns (by simp) (hb hby dT_135) hr
      · show QP _ h0 _ T101.heap _
        have ev : tst (4 : Int32) q1 q2 = (1 : Int32) := by rw [tst4]; exact if_pos hc113_120
        rw [ev]
        exact ⟨rfl, rfl, e101⟩
    · have P122 : ∀ t, Steps p.tables e below (T101.setTop (mkF m 135 #[.val (.ref a1), .val (.long q1), .second, .val (.long q2), .second] [(.int (0 : Int32))])) t → Steps p.tables e below (s₁.setTop (entryFrame m #[(.ref a1), (.long q1), (.long q2)] 5)) t := fun t kt => P119 t (by
        show Steps p.tables e below (T101.setTop (mkF m 113 #[.val (.ref a1), .val (.long q1), .second, .val (.long q2), .second] [(.int (lcmpW q1 q2))])) _
        refine XS.ifYes X101.here hx rfl (pc0 := 113) (pc' := 120) rfl (hb hby dT_113) rfl ((if0 _ _).trans (flt hc113_120).2.2.2) (by decide) (by decide) ?_
        show Steps p.tables e below (T101.setTop (mkF m 120 #[.val (.ref a1), .val (.long q1), .second, .val (.long q2), .second] [])) _
        refine XS.iconst X101.here hx rfl (hb hby dT_120) ?_
        show Steps p.tables e below (T101.setTop (mkF m 121 #[.val (.ref a1), .val (.long q1), .second, .val (.long q2), .second] [(.int (0 : Int32))])) _
        refine XS.goto X101.here hx rfl (pc0 := 121) (pc' := 135) rfl (hb hby dT_121) (by decide) (by decide) ?_
        exact kt)
      obtain ⟨fs, hr, hrun, hended, hW, hsame⟩ := X101.leave (v := some (.int (0 : Int32))) (fun h => by rw [Bd.returns] at h; cases h) (hlocks := hlk)
      refine ⟨_, _, P122 _ ?_, hrun, hended, _, _, rfl, ?_, ⟨_, rfl⟩, hW, hsame.mono (by decide) (by decide)⟩
      · show Steps p.tables e below (T101.setTop (mkF m 135 #[.val (.ref a1), .val (.long q1), .second, .val (.long q2), .second] [(.int (0 : Int32))])) _
        exact retN X101 hx (t := .boolean) Bd.returns (by simp) (hb hby dT_135) hr
      · show QP _ h0 _ T101.heap _
        have ev : tst (4 : Int32) q1 q2 = (0 : Int32) := by rw [tst4]; exact if_neg hc113_120
        rw [ev]
        exact ⟨rfl, rfl, e101⟩
  · have P123 : ∀ t, Steps p.tables e below (T101.setTop (mkF m 127 #[.val (.ref a1), .val (.long q1), .second, .val (.long q2), .second] [(.int (lcmpW q1 q2))])) t → Steps p.tables e below (s₁.setTop (entryFrame m #[(.ref a1), (.long q1), (.long q2)] 5)) t := fun t kt => P102 t (by
      show Steps p.tables e below (T101.setTop (mkF m 4 #[.val (.ref a1), .val (.long q1), .second, .val (.long q2), .second] [(.int (5 : Int32))])) _
      refine XS.tswIn X101.here hx rfl (pc0 := 4) (pc' := 124) (o := 120) rfl (hb hby dT_4) rfl (by decide) (by decide) (by decide) (by decide) ?_
      show Steps p.tables e below (T101.setTop (mkF m 124 #[.val (.ref a1), .val (.long q1), .second, .val (.long q2), .second] [])) _
      refine XS.lloadN X101.here hx rfl (hb hby dT_124) rfl ?_
      show Steps p.tables e below (T101.setTop (mkF m 125 #[.val (.ref a1), .val (.long q1), .second, .val (.long q2), .second] [(.long q1)])) _
      refine XS.lloadN X101.here hx rfl (hb hby dT_125) rfl ?_
      show Steps p.tables e below (T101.setTop (mkF m 126 #[.val (.ref a1), .val (.long q1), .second, .val (.long q2), .second] [(.long q2), (.long q1)])) _
      refine XS.lcmp X101.here hx rfl (hb hby dT_126) rfl ?_
      exact kt)
    by_cases hc127_124 : (0 : Int32) < (lcmpW q1 q2)
    · have P125 : ∀ t, Steps p.tables e below (T101.setTop (mkF m 135 #[.val (.ref a1), .val (.long q1), .second, .val (.long q2), .second] [(.int (0 : Int32))])) t → Steps p.tables e below (s₁.setTop (entryFrame m #[(.ref a1), (.long q1), (.long q2)] 5)) t := fun t kt => P123 t (by
        show Steps p.tables e below (T101.setTop (mkF m 127 #[.val (.ref a1), .val (.long q1), .second, .val (.long q2), .second] [(.int (lcmpW q1 q2))])) _
        refine XS.ifYes X101.here hx rfl (pc0 := 127) (pc' := 134) rfl (hb hby dT_127) rfl ((if0 _ _).trans (tlt hc127_124).2.2.1) (by decide) (by decide) ?_
        show Steps p.tables e below (T101.setTop (mkF m 134 #[.val (.ref a1), .val (.long q1), .second, .val (.long q2), .second] [])) _
        refine XS.iconst X101.here hx rfl (hb hby dT_134) ?_
        exact kt)
      obtain ⟨fs, hr, hrun, hended, hW, hsame⟩ := X101.leave (v := some (.int (0 : Int32))) (fun h => by rw [Bd.returns] at h; cases h) (hlocks := hlk)
      refine ⟨_, _, P125 _ ?_, hrun, hended, _, _, rfl, ?_, ⟨_, rfl⟩, hW, hsame.mono (by decide) (by decide)⟩
      · show Steps p.tables e below (T101.setTop (mkF m 135 #[.val (.ref a1), .val (.long q1), .second, .val (.long q2), .second] [(.int (0 : Int32))])) _
        exact retN X101 hx (t := .boolean) Bd.returns (by simp) (hb hby dT_135) hr
      · show QP _ h0 _ T101.heap _
        have ev : tst (5 : Int32) q1 q2 = (0 : Int32) := by rw [tst5]; exact if_pos hc127_124
        rw [ev]
        exact ⟨rfl, rfl, e101⟩
    · have P126 : ∀ t, Steps p.tables e below (T101.setTop (mkF m 135 #[.val (.ref a1), .val (.long q1), .second, .val (.long q2), .second] [(.int (1 : Int32))])) t → Steps p.tables e below (s₁.setTop (entryFrame m #[(.ref a1), (.long q1), (.long q2)] 5)) t := fun t kt => P123 t (by
        show Steps p.tables e below (T101.setTop (mkF m 127 #[.val (.ref a1), .val (.long q1), .second, .val (.long q2), .second] [(.int (lcmpW q1 q2))])) _
        refine XS.ifNo X101.here hx rfl (hb hby dT_127) rfl ((if0 _ _).trans (flt hc127_124).2.2.1) ?_
        show Steps p.tables e below (T101.setTop (mkF m 130 #[.val (.ref a1), .val (.long q1), .second, .val (.long q2), .second] [])) _
        refine XS.iconst X101.here hx rfl (hb hby dT_130) ?_
        show Steps p.tables e below (T101.setTop (mkF m 131 #[.val (.ref a1), .val (.long q1), .second, .val (.long q2), .second] [(.int (1 : Int32))])) _
        refine XS.goto X101.here hx rfl (pc0 := 131) (pc' := 135) rfl (hb hby dT_131) (by decide) (by decide) ?_
        exact kt)
      obtain ⟨fs, hr, hrun, hended, hW, hsame⟩ := X101.leave (v := some (.int (1 : Int32))) (fun h => by rw [Bd.returns] at h; cases h) (hlocks := hlk)
      refine ⟨_, _, P126 _ ?_, hrun, hended, _, _, rfl, ?_, ⟨_, rfl⟩, hW, hsame.mono (by decide) (by decide)⟩
      · show Steps p.tables e below (T101.setTop (mkF m 135 #[.val (.ref a1), .val (.long q1), .second, .val (.long q2), .second] [(.int (1 : Int32))])) _
        exact retN X101 hx (t := .boolean) Bd.returns (by simp) (hb hby dT_135) hr
      · show QP _ h0 _ T101.heap _
        have ev : tst (5 : Int32) q1 q2 = (1 : Int32) := by rw [tst5]; exact if_neg hc127_124
        rw [ev]
        exact ⟨rfl, rfl, e101⟩
theorem ef_0 (m : MethodId) (x0 : Int32) (x1 : Int64) (x2 : Int64) : entryFrame m #[(.int x0), (.long x1), (.long x2)] maxLocals = mkF m 0 #[.val (.int x0), .val (.long x1), .second, .val (.long x2), .second, .unset, .unset, .unset, .unset, .unset, .unset, .unset] [] := by first | (simp [entryFrame, mkF, argsToLocals, Value.category, maxLocals]; done) | rfl
set_option maxRecDepth 65536 in
set_option maxHeartbeats 40000000 in
theorem rm0 (l : Launch) (Z : State) (a0 : Array Value) (hw : ∀ d ∈ tables_1, d.before a0 Z = true) (ws : List Jvm.Cond) (p1 : Int32) (q1 : Int64) (q2 : Int64) (w_EQ w_NE w_LT w_GE w_GT w_LE : Addr) (h0 : Heap) (S_EQ : Sta Z h0 "com/example/probex/probex/symbolic/Relation" "EQ" "Lcom/example/probex/probex/symbolic/Relation;" (.ref w_EQ)) (S_NE : Sta Z h0 "com/example/probex/probex/symbolic/Relation" "NE" "Lcom/example/probex/probex/symbolic/Relation;" (.ref w_NE)) (S_LT : Sta Z h0 "com/example/probex/probex/symbolic/Relation" "LT" "Lcom/example/probex/probex/symbolic/Relation;" (.ref w_LT)) (S_GE : Sta Z h0 "com/example/probex/probex/symbolic/Relation" "GE" "Lcom/example/probex/probex/symbolic/Relation;" (.ref w_GE)) (S_GT : Sta Z h0 "com/example/probex/probex/symbolic/Relation" "GT" "Lcom/example/probex/probex/symbolic/Relation;" (.ref w_GT)) (S_LE : Sta Z h0 "com/example/probex/probex/symbolic/Relation" "LE" "Lcom/example/probex/probex/symbolic/Relation;" (.ref w_LE)) (E_EQ : Exa Z h0 w_EQ "com/example/probex/probex/symbolic/Relation") (E_NE : Exa Z h0 w_NE "com/example/probex/probex/symbolic/Relation") (E_LT : Exa Z h0 w_LT "com/example/probex/probex/symbolic/Relation") (E_GE : Exa Z h0 w_GE "com/example/probex/probex/symbolic/Relation") (E_GT : Exa Z h0 w_GT "com/example/probex/probex/symbolic/Relation") (E_LE : Exa Z h0 w_LE "com/example/probex/probex/symbolic/Relation") (O_EQ : Fld Z h0 w_EQ "java/lang/Enum" "ordinal" "I" (.int (0 : Int32))) (O_NE : Fld Z h0 w_NE "java/lang/Enum" "ordinal" "I" (.int (1 : Int32))) (O_LT : Fld Z h0 w_LT "java/lang/Enum" "ordinal" "I" (.int (2 : Int32))) (O_GE : Fld Z h0 w_GE "java/lang/Enum" "ordinal" "I" (.int (3 : Int32))) (O_GT : Fld Z h0 w_GT "java/lang/Enum" "ordinal" "I" (.int (4 : Int32))) (O_LE : Fld Z h0 w_LE "java/lang/Enum" "ordinal" "I" (.int (5 : Int32))) :
    MetFree l x (head1 (Jvm.Cond.code x code maxLocals ret :: ws) room_1) (fun a U => a = #[(.int p1), (.long q1), (.long q2)] ∧ Z.Warmed39 U.vm ∧ U.heap = h0) (fun _ _ _ _ _ => True) (fun _ U o U' => ∃ v L, o = .returned v ∧ QP (some (.int (1 : Int32))) h0 v U'.heap L ∧ FrameEnd U o U' L room_1.cells room_1.slots) := by
  refine MetFree.of_bodySF (plainFor_of_name (by first | (simp [plainName, overriddenIn]; done) | decide +kernel)) hisR ?_
  intro p e s m args below meth c s₁ Bd hml0 hP hK
  obtain ⟨rfl, hZ, hh⟩ := hP
  have hx := Bd.exec
  have hby := Bd.bytes
  have hml : c.maxLocals = 12 := hml0
  have hown : s.vm.findClass "com/example/probex/probex/symbolic/RelationTestPinLaw" = some m.cls := findClass_of_methodNamed Bd.named
  have hnm := (name_of_methodNamed Bd.named Bd.method).1
  have hlk : meth.locks = false := BodyLoose.notSynchronized Bd
  have X0 : Stand p l e room_1 s m #[(.int p1), (.long q1), (.long q2)] below meth c s₁ [] 0 0 := Stand.of_body Bd
  have e0 : s₁.heap = h0 := by rw [← hh, Bd.state]; rfl
  have P0 : ∀ t, Steps p.tables e below (s₁.setTop (mkF m 0 #[.val (.int p1), .val (.long q1), .second, .val (.long q2), .second, .unset, .unset, .unset, .unset, .unset, .unset, .unset] [])) t → Steps p.tables e below (s₁.setTop (entryFrame m #[(.int p1), (.long q1), (.long q2)] maxLocals)) t := fun t kt => castTop (ef_0 m p1 q1 q2) kt
  have P101 : ∀ t, Steps p.tables e below (s₁.setTop (mkF m 24 #[.val (.int p1), .val (.long q1), .second, .val (.long q2), .second, .val (.int ((p1 &&& (255 : Int32)) - ((p1 &&& (255 : Int32)) / (6 : Int32)) * (6 : Int32))), .val (.int (((p1.toUInt32 >>> ((8 : Int32) &&& 31).toUInt32).toInt32) &&& (3 : Int32))), .val (.long q2), .second, .unset, .unset, .unset] [(.int (1 : Int32)), (.int (((p1.toUInt32 >>> ((8 : Int32) &&& 31).toUInt32).toInt32) &&& (3 : Int32)))])) t → Steps p.tables e below (s₁.setTop (entryFrame m #[(.int p1), (.long q1), (.long q2)] maxLocals)) t := fun t kt => P0 t (by
    show Steps p.tables e below (s₁.setTop (mkF m 0 #[.val (.int p1), .val (.long q1), .second, .val (.long q2), .second, .unset, .unset, .unset, .unset, .unset, .unset, .unset] [])) _
    refine XS.iloadN X0.here hx rfl (hb hby at_0) rfl ?_
    show Steps p.tables e below (s₁.setTop (mkF m 1 #[.val (.int p1), .val (.long q1), .second, .val (.long q2), .second, .unset, .unset, .unset, .unset, .unset, .unset, .unset] [(.int p1)])) _
    refine XS.sipush X0.here hx rfl (hb hby at_1) ?_
    show Steps p.tables e below (s₁.setTop (mkF m 4 #[.val (.int p1), .val (.long q1), .second, .val (.long q2), .second, .unset, .unset, .unset, .unset, .unset, .unset, .unset] [(.int (255 : Int32)), (.int p1)])) _
    refine XS.iand X0.here hx rfl (hb hby at_4) rfl ?_
    show Steps p.tables e below (s₁.setTop (mkF m 5 #[.val (.int p1), .val (.long q1), .second, .val (.long q2), .second, .unset, .unset, .unset, .unset, .unset, .unset, .unset] [(.int (p1 &&& (255 : Int32)))])) _
    refine XS.bipush X0.here hx rfl (hb hby at_5) ?_
    show Steps p.tables e below (s₁.setTop (mkF m 7 #[.val (.int p1), .val (.long q1), .second, .val (.long q2), .second, .unset, .unset, .unset, .unset, .unset, .unset, .unset] [(.int (6 : Int32)), (.int (p1 &&& (255 : Int32)))])) _
    refine XS.irem X0.here hx rfl (hb hby at_7) rfl (by decide) ?_
    show Steps p.tables e below (s₁.setTop (mkF m 8 #[.val (.int p1), .val (.long q1), .second, .val (.long q2), .second, .unset, .unset, .unset, .unset, .unset, .unset, .unset] [(.int ((p1 &&& (255 : Int32)) - ((p1 &&& (255 : Int32)) / (6 : Int32)) * (6 : Int32)))])) _
    refine XS.istore X0.here hx rfl (hb hby at_8) rfl (l' := #[.val (.int p1), .val (.long q1), .second, .val (.long q2), .second, .val (.int ((p1 &&& (255 : Int32)) - ((p1 &&& (255 : Int32)) / (6 : Int32)) * (6 : Int32))), .unset, .unset, .unset, .unset, .unset, .unset]) rfl ?_
    show Steps p.tables e below (s₁.setTop (mkF m 10 #[.val (.int p1), .val (.long q1), .second, .val (.long q2), .second, .val (.int ((p1 &&& (255 : Int32)) - ((p1 &&& (255 : Int32)) / (6 : Int32)) * (6 : Int32))), .unset, .unset, .unset, .unset, .unset, .unset] [])) _
    refine XS.iloadN X0.here hx rfl (hb hby at_10) rfl ?_
    show Steps p.tables e below (s₁.setTop (mkF m 11 #[.val (.int p1), .val (.long q1), .second, .val (.long q2), .second, .val (.int ((p1 &&& (255 : Int32)) - ((p1 &&& (255 : Int32)) / (6 : Int32)) * (6 : Int32))), .unset, .unset, .unset, .unset, .unset, .unset] [(.int p1)])) _
    refine XS.bipush X0.here hx rfl (hb hby at_11) ?_
    show Steps p.tables e below (s₁.setTop (mkF m 13 #[.val (.int p1), .val (.long q1), .second, .val (.long q2), .second, .val (.int ((p1 &&& (255 : Int32)) - ((p1 &&& (255 : Int32)) / (6 : Int32)) * (6 : Int32))), .unset, .unset, .unset, .unset, .unset, .unset] [(.int (8 : Int32)), (.int p1)])) _
    refine XS.iushr X0.here hx rfl (hb hby at_13) rfl ?_
    show Steps p.tables e below (s₁.setTop (mkF m 14 #[.val (.int p1), .val (.long q1), .second, .val (.long q2), .second, .val (.int ((p1 &&& (255 : Int32)) - ((p1 &&& (255 : Int32)) / (6 : Int32)) * (6 : Int32))), .unset, .unset, .unset, .unset, .unset, .unset] [(.int ((p1.toUInt32 >>> ((8 : Int32) &&& 31).toUInt32).toInt32))])) _
    refine XS.iconst X0.here hx rfl (hb hby at_14) ?_
    show Steps p.tables e below (s₁.setTop (mkF m 15 #[.val (.int p1), .val (.long q1), .second, .val (.long q2), .second, .val (.int ((p1 &&& (255 : Int32)) - ((p1 &&& (255 : Int32)) / (6 : Int32)) * (6 : Int32))), .unset, .unset, .unset, .unset, .unset, .unset] [(.int (3 : Int32)), (.int ((p1.toUInt32 >>> ((8 : Int32) &&& 31).toUInt32).toInt32))])) _
    refine XS.iand X0.here hx rfl (hb hby at_15) rfl ?_
    show Steps p.tables e below (s₁.setTop (mkF m 16 #[.val (.int p1), .val (.long q1), .second, .val (.long q2), .second, .val (.int ((p1 &&& (255 : Int32)) - ((p1 &&& (255 : Int32)) / (6 : Int32)) * (6 : Int32))), .unset, .unset, .unset, .unset, .unset, .unset] [(.int (((p1.toUInt32 >>> ((8 : Int32) &&& 31).toUInt32).toInt32) &&& (3 : Int32)))])) _
    refine XS.istore X0.here hx rfl (hb hby at_16) rfl (l' := #[.val (.int p1), .val (.long q1), .second, .val (.long q2), .second, .val (.int ((p1 &&& (255 : Int32)) - ((p1 &&& (255 : Int32)) / (6 : Int32)) * (6 : Int32))), .val (.int (((p1.toUInt32 >>> ((8 : Int32) &&& 31).toUInt32).toInt32) &&& (3 : Int32))), .unset, .unset, .unset, .unset, .unset]) rfl ?_
    show Steps p.tables e below (s₁.setTop (mkF m 18 #[.val (.int p1), .val (.long q1), .second, .val (.long q2), .second, .val (.int ((p1 &&& (255 : Int32)) - ((p1 &&& (255 : Int32)) / (6 : Int32)) * (6 : Int32))), .val (.int (((p1.toUInt32 >>> ((8 : Int32) &&& 31).toUInt32).toInt32) &&& (3 : Int32))), .unset, .unset, .unset, .unset, .unset] [])) _
    refine XS.lloadN X0.here hx rfl (hb hby at_18) rfl ?_
    show Steps p.tables e below (s₁.setTop (mkF m 19 #[.val (.int p1), .val (.long q1), .second, .val (.long q2), .second, .val (.int ((p1 &&& (255 : Int32)) - ((p1 &&& (255 : Int32)) / (6 : Int32)) * (6 : Int32))), .val (.int (((p1.toUInt32 >>> ((8 : Int32) &&& 31).toUInt32).toInt32) &&& (3 : Int32))), .unset, .unset, .unset, .unset, .unset] [(.long q2)])) _
    refine XS.lstore X0.here hx rfl (hb hby at_19) rfl (l' := #[.val (.int p1), .val (.long q1), .second, .val (.long q2), .second, .val (.int ((p1 &&& (255 : Int32)) - ((p1 &&& (255 : Int32)) / (6 : Int32)) * (6 : Int32))), .val (.int (((p1.toUInt32 >>> ((8 : Int32) &&& 31).toUInt32).toInt32) &&& (3 : Int32))), .val (.long q2), .second, .unset, .unset, .unset]) rfl ?_
    show Steps p.tables e below (s₁.setTop (mkF m 21 #[.val (.int p1), .val (.long q1), .second, .val (.long q2), .second, .val (.int ((p1 &&& (255 : Int32)) - ((p1 &&& (255 : Int32)) / (6 : Int32)) * (6 : Int32))), .val (.int (((p1.toUInt32 >>> ((8 : Int32) &&& 31).toUInt32).toInt32) &&& (3 : Int32))), .val (.long q2), .second, .unset, .unset, .unset] [])) _
    refine XS.iload X0.here hx rfl (hb hby at_21) rfl ?_
    show Steps p.tables e below (s₁.setTop (mkF m 23 #[.val (.int p1), .val (.long q1), .second, .val (.long q2), .second, .val (.int ((p1 &&& (255 : Int32)) - ((p1 &&& (255 : Int32)) / (6 : Int32)) * (6 : Int32))), .val (.int (((p1.toUInt32 >>> ((8 : Int32) &&& 31).toUInt32).toInt32) &&& (3 : Int32))), .val (.long q2), .second, .unset, .unset, .unset] [(.int (((p1.toUInt32 >>> ((8 : Int32) &&& 31).toUInt32).toInt32) &&& (3 : Int32)))])) _
    refine XS.iconst X0.here hx rfl (hb hby at_23) ?_
    exact kt)
  obtain ⟨v102_L7, hv102_L7⟩ : ∃ z : Int64, z = (if (((p1.toUInt32 >>> ((8 : Int32) &&& 31).toUInt32).toInt32) &&& (3 : Int32)) = (1 : Int32) then q1 else (if (((p1.toUInt32 >>> ((8 : Int32) &&& 31).toUInt32).toInt32) &&& (3 : Int32)) = (2 : Int32) then (q1 + (1 : Int64)) else (if (((p1.toUInt32 >>> ((8 : Int32) &&& 31).toUInt32).toInt32) &&& (3 : Int32)) = (3 : Int32) then (q1 - (1 : Int64)) else q2))) := ⟨_, rfl⟩
  have J102 : ∀ t, Steps p.tables e below (s₁.setTop (mkF m 58 #[.val (.int p1), .val (.long q1), .second, .val (.long q2), .second, .val (.int ((p1 &&& (255 : Int32)) - ((p1 &&& (255 : Int32)) / (6 : Int32)) * (6 : Int32))), .val (.int (((p1.toUInt32 >>> ((8 : Int32) &&& 31).toUInt32).toInt32) &&& (3 : Int32))), .val (.long v102_L7), .second, .unset, .unset, .unset] [])) t → Steps p.tables e below (s₁.setTop (mkF m 24 #[.val (.int p1), .val (.long q1), .second, .val (.long q2), .second, .val (.int ((p1 &&& (255 : Int32)) - ((p1 &&& (255 : Int32)) / (6 : Int32)) * (6 : Int32))), .val (.int (((p1.toUInt32 >>> ((8 : Int32) &&& 31).toUInt32).toInt32) &&& (3 : Int32))), .val (.long q2), .second, .unset, .unset, .unset] [(.int (1 : Int32)), (.int (((p1.toUInt32 >>> ((8 : Int32) &&& 31).toUInt32).toInt32) &&& (3 : Int32)))])) t := by
    intro t kt
    by_cases hr102_24_0 : (((p1.toUInt32 >>> ((8 : Int32) &&& 31).toUInt32).toInt32) &&& (3 : Int32)) = (1 : Int32)
    · have evv102_L7 : v102_L7 = q1 := by rw [hv102_L7, if_pos hr102_24_0]
      rw [evv102_L7] at kt
      show Steps p.tables e below (s₁.setTop (mkF m 24 #[.val (.int p1), .val (.long q1), .second, .val (.long q2), .second, .val (.int ((p1 &&& (255 : Int32)) - ((p1 &&& (255 : Int32)) / (6 : Int32)) * (6 : Int32))), .val (.int (((p1.toUInt32 >>> ((8 : Int32) &&& 31).toUInt32).toInt32) &&& (3 : Int32))), .val (.long q2), .second, .unset, .unset, .unset] [(.int (1 : Int32)), (.int (((p1.toUInt32 >>> ((8 : Int32) &&& 31).toUInt32).toInt32) &&& (3 : Int32)))])) _
      refine XS.icmpNo X0.here hx rfl (hb hby at_24) rfl (teq hr102_24_0).2 ?_
      show Steps p.tables e below (s₁.setTop (mkF m 27 #[.val (.int p1), .val (.long q1), .second, .val (.long q2), .second, .val (.int ((p1 &&& (255 : Int32)) - ((p1 &&& (255 : Int32)) / (6 : Int32)) * (6 : Int32))), .val (.int (((p1.toUInt32 >>> ((8 : Int32) &&& 31).toUInt32).toInt32) &&& (3 : Int32))), .val (.long q2), .second, .unset, .unset, .unset] [])) _
      refine XS.lloadN X0.here hx rfl (hb hby at_27) rfl ?_
      show Steps p.tables e below (s₁.setTop (mkF m 28 #[.val (.int p1), .val (.long q1), .second, .val (.long q2), .second, .val (.int ((p1 &&& (255 : Int32)) - ((p1 &&& (255 : Int32)) / (6 : Int32)) * (6 : Int32))), .val (.int (((p1.toUInt32 >>> ((8 : Int32) &&& 31).toUInt32).toInt32) &&& (3 : Int32))), .val (.long q2), .second, .unset, .unset, .unset] [(.long q1)])) _
      refine XS.lstore X0.here hx rfl (hb hby at_28) rfl (l' := #[.val (.int p1), .val (.long q1), .second, .val (.long q2), .second, .val (.int ((p1 &&& (255 : Int32)) - ((p1 &&& (255 : Int32)) / (6 : Int32)) * (6 : Int32))), .val (.int (((p1.toUInt32 >>> ((8 : Int32) &&& 31).toUInt32).toInt32) &&& (3 : Int32))), .val (.long q1), .second, .unset, .unset, .unset]) rfl ?_
      show Steps p.tables e below (s₁.setTop (mkF m 30 #[.val (.int p1), .val (.long q1), .second, .val (.long q2), .second, .val (.int ((p1 &&& (255 : Int32)) - ((p1 &&& (255 : Int32)) / (6 : Int32)) * (6 : Int32))), .val (.int (((p1.toUInt32 >>> ((8 : Int32) &&& 31).toUInt32).toInt32) &&& (3 : Int32))), .val (.long q1), .second, .unset, .unset, .unset] [])) _
      refine XS.goto X0.here hx rfl (pc0 := 30) (pc' := 58) rfl (hb hby at_30) (by decide) (by decide) ?_
      exact kt
    · show Steps p.tables e below (s₁.setTop (mkF m 24 #[.val (.int p1), .val (.long q1), .second, .val (.long q2), .second, .val (.int ((p1 &&& (255 : Int32)) - ((p1 &&& (255 : Int32)) / (6 : Int32)) * (6 : Int32))), .val (.int (((p1.toUInt32 >>> ((8 : Int32) &&& 31).toUInt32).toInt32) &&& (3 : Int32))), .val (.long q2), .second, .unset, .unset, .unset] [(.int (1 : Int32)), (.int (((p1.toUInt32 >>> ((8 : Int32) &&& 31).toUInt32).toInt32) &&& (3 : Int32)))])) _
      refine XS.icmpYes X0.here hx rfl (pc0 := 24) (pc' := 33) rfl (hb hby at_24) rfl (feq hr102_24_0).2 (by decide) (by decide) ?_
      show Steps p.tables e below (s₁.setTop (mkF m 33 #[.val (.int p1), .val (.long q1), .second, .val (.long q2), .second, .val (.int ((p1 &&& (255 : Int32)) - ((p1 &&& (255 : Int32)) / (6 : Int32)) * (6 : Int32))), .val (.int (((p1.toUInt32 >>> ((8 : Int32) &&& 31).toUInt32).toInt32) &&& (3 : Int32))), .val (.long q2), .second, .unset, .unset, .unset] [])) _
      refine XS.iload X0.here hx rfl (hb hby at_33) rfl ?_
      show Steps p.tables e below (s₁.setTop (mkF m 35 #[.val (.int p1), .val (.long q1), .second, .val (.long q2), .second, .val (.int ((p1 &&& (255 : Int32)) - ((p1 &&& (255 : Int32)) / (6 : Int32)) * (6 : Int32))), .val (.int (((p1.toUInt32 >>> ((8 : Int32) &&& 31).toUInt32).toInt32) &&& (3 : Int32))), .val (.long q2), .second, .unset, .unset, .unset] [(.int (((p1.toUInt32 >>> ((8 : Int32) &&& 31).toUInt32).toInt32) &&& (3 : Int32)))])) _
      refine XS.iconst X0.here hx rfl (hb hby at_35) ?_
      by_cases hr102_36_1 : (((p1.toUInt32 >>> ((8 : Int32) &&& 31).toUInt32).toInt32) &&& (3 : Int32)) = (2 : Int32)
      · have evv102_L7 : v102_L7 = (q1 + (1 : Int64)) := by rw [hv102_L7, if_neg hr102_24_0, if_pos hr102_36_1]
        rw [evv102_L7] at kt
        show Steps p.tables e below (s₁.setTop (mkF m 36 #[.val (.int p1), .val (.long q1), .second, .val (.long q2), .second, .val (.int ((p1 &&& (255 : Int32)) - ((p1 &&& (255 : Int32)) / (6 : Int32)) * (6 : Int32))), .val (.int (((p1.toUInt32 >>> ((8 : Int32) &&& 31).toUInt32).toInt32) &&& (3 : Int32))), .val (.long q2), .second, .unset, .unset, .unset] [(.int (2 : Int32)), (.int (((p1.toUInt32 >>> ((8 : Int32) &&& 31).toUInt32).toInt32) &&& (3 : Int32)))])) _
        refine XS.icmpNo X0.here hx rfl (hb hby at_36) rfl (teq hr102_36_1).2 ?_
        show Steps p.tables e below (s₁.setTop (mkF m 39 #[.val (.int p1), .val (.long q1), .second, .val (.long q2), .second, .val (.int ((p1 &&& (255 : Int32)) - ((p1 &&& (255 : Int32)) / (6 : Int32)) * (6 : Int32))), .val (.int (((p1.toUInt32 >>> ((8 : Int32) &&& 31).toUInt32).toInt32) &&& (3 : Int32))), .val (.long q2), .second, .unset, .unset, .unset] [])) _
        refine XS.lloadN X0.here hx rfl (hb hby at_39) rfl ?_
        show Steps p.tables e below (s₁.setTop (mkF m 40 #[.val (.int p1), .val (.long q1), .second, .val (.long q2), .second, .val (.int ((p1 &&& (255 : Int32)) - ((p1 &&& (255 : Int32)) / (6 : Int32)) * (6 : Int32))), .val (.int (((p1.toUInt32 >>> ((8 : Int32) &&& 31).toUInt32).toInt32) &&& (3 : Int32))), .val (.long q2), .second, .unset, .unset, .unset] [(.long q1)])) _
        refine XS.lconst X0.here hx rfl (hb hby at_40) ?_
        show Steps p.tables e below (s₁.setTop (mkF m 41 #[.val (.int p1), .val (.long q1), .second, .val (.long q2), .second, .val (.int ((p1 &&& (255 : Int32)) - ((p1 &&& (255 : Int32)) / (6 : Int32)) * (6 : Int32))), .val (.int (((p1.toUInt32 >>> ((8 : Int32) &&& 31).toUInt32).toInt32) &&& (3 : Int32))), .val (.long q2), .second, .unset, .unset, .unset] [(.long (1 : Int64)), (.long q1)])) _
        refine XS.ladd X0.here hx rfl (hb hby at_41) rfl ?_
        show Steps p.tables e below (s₁.setTop (mkF m 42 #[.val (.int p1), .val (.long q1), .second, .val (.long q2), .second, .val (.int ((p1 &&& (255 : Int32)) - ((p1 &&& (255 : Int32)) / (6 : Int32)) * (6 : Int32))), .val (.int (((p1.toUInt32 >>> ((8 : Int32) &&& 31).toUInt32).toInt32) &&& (3 : Int32))), .val (.long q2), .second, .unset, .unset, .unset] [(.long (q1 + (1 : Int64)))])) _
        refine XS.lstore X0.here hx rfl (hb hby at_42) rfl (l' := #[.val (.int p1), .val (.long q1), .second, .val (.long q2), .second, .val (.int ((p1 &&& (255 : Int32)) - ((p1 &&& (255 : Int32)) / (6 : Int32)) * (6 : Int32))), .val (.int (((p1.toUInt32 >>> ((8 : Int32) &&& 31).toUInt32).toInt32) &&& (3 : Int32))), .val (.long (q1 + (1 : Int64))), .second, .unset, .unset, .unset]) rfl ?_
        show Steps p.tables e below (s₁.setTop (mkF m 44 #[.val (.int p1), .val (.long q1), .second, .val (.long q2), .second, .val (.int ((p1 &&& (255 : Int32)) - ((p1 &&& (255 : Int32)) / (6 : Int32)) * (6 : Int32))), .val (.int (((p1.toUInt32 >>> ((8 : Int32) &&& 31).toUInt32).toInt32) &&& (3 : Int32))), .val (.long (q1 + (1 : Int64))), .second, .unset, .unset, .unset] [])) _
        refine XS.goto X0.here hx rfl (pc0 := 44) (pc' := 58) rfl (hb hby at_44) (by decide) (by decide) ?_
        exact kt
      · show Steps p.tables e below (s₁.setTop (mkF m 36 #[.val (.int p1), .val (.long q1), .second, .val (.long q2), .second, .val (.int ((p1 &&& (255 : Int32)) - ((p1 &&& (255 : Int32)) / (6 : Int32)) * (6 : Int32))), .val (.int (((p1.toUInt32 >>> ((8 : Int32) &&& 31).toUInt32).toInt32) &&& (3 : Int32))), .val (.long q2), .second, .unset, .unset, .unset] [(.int (2 : Int32)), (.int (((p1.toUInt32 >>> ((8 : Int32) &&& 31).toUInt32).toInt32) &&& (3 : Int32)))])) _
        refine XS.icmpYes X0.here hx rfl (pc0 := 36) (pc' := 47) rfl (hb hby at_36) rfl (feq hr102_36_1).2 (by decide) (by decide) ?_
        show Steps p.tables e below (s₁.setTop (mkF m 47 #[.val (.int p1), .val (.long q1), .second, .val (.long q2), .second, .val (.int ((p1 &&& (255 : Int32)) - ((p1 &&& (255 : Int32)) / (6 : Int32)) * (6 : Int32))), .val (.int (((p1.toUInt32 >>> ((8 : Int32) &&& 31).toUInt32).toInt32) &&& (3 : Int32))), .val (.long q2), .second, .unset, .unset, .unset] [])) _
        refine XS.iload X0.here hx rfl (hb hby at_47) rfl ?_
        show Steps p.tables e below (s₁.setTop (mkF m 49 #[.val (.int p1), .val (.long q1), .second, .val (.long q2), .second, .val (.int ((p1 &&& (255 : Int32)) - ((p1 &&& (255 : Int32)) / (6 : Int32)) * (6 : Int32))), .val (.int (((p1.toUInt32 >>> ((8 : Int32) &&& 31).toUInt32).toInt32) &&& (3 : Int32))), .val (.long q2), .second, .unset, .unset, .unset] [(.int (((p1.toUInt32 >>> ((8 : Int32) &&& 31).toUInt32).toInt32) &&& (3 : Int32)))])) _
        refine XS.iconst X0.here hx rfl (hb hby at_49) ?_
        by_cases hr102_50_2 : (((p1.toUInt32 >>> ((8 : Int32) &&& 31).toUInt32).toInt32) &&& (3 : Int32)) = (3 : Int32)
        · have evv102_L7 : v102_L7 = (q1 - (1 : Int64)) := by rw [hv102_L7, if_neg hr102_24_0, if_neg hr102_36_1, if_pos hr102_50_2]
          rw [evv102_L7] at kt
          show Steps p.tables e below (s₁.setTop (mkF m 50 #[.val (.int p1), .val (.long q1), .second, .val (.long q2), .second, .val (.int ((p1 &&& (255 : Int32)) - ((p1 &&& (255 : Int32)) / (6 : Int32)) * (6 : Int32))), .val (.int (((p1.toUInt32 >>> ((8 : Int32) &&& 31).toUInt32).toInt32) &&& (3 : Int32))), .val (.long q2), .second, .unset, .unset, .unset] [(.int (3 : Int32)), (.int (((p1.toUInt32 >>> ((8 : Int32) &&& 31).toUInt32).toInt32) &&& (3 : Int32)))])) _
          refine XS.icmpNo X0.here hx rfl (hb hby at_50) rfl (teq hr102_50_2).2 ?_
          show Steps p.tables e below (s₁.setTop (mkF m 53 #[.val (.int p1), .val (.long q1), .second, .val (.long q2), .second, .val (.int ((p1 &&& (255 : Int32)) - ((p1 &&& (255 : Int32)) / (6 : Int32)) * (6 : Int32))), .val (.int (((p1.toUInt32 >>> ((8 : Int32) &&& 31).toUInt32).toInt32) &&& (3 : Int32))), .val (.long q2), .second, .unset, .unset, .unset] [])) _
          refine XS.lloadN X0.here hx rfl (hb hby at_53) rfl ?_
          show Steps p.tables e below (s₁.setTop (mkF m 54 #[.val (.int p1), .val (.long q1), .second, .val (.long q2), .second, .val (.int ((p1 &&& (255 : Int32)) - ((p1 &&& (255 : Int32)) / (6 : Int32)) * (6 : Int32))), .val (.int (((p1.toUInt32 >>> ((8 : Int32) &&& 31).toUInt32).toInt32) &&& (3 : Int32))), .val (.long q2), .second, .unset, .unset, .unset] [(.long q1)])) _
          refine XS.lconst X0.here hx rfl (hb hby at_54) ?_
          show Steps p.tables e below (s₁.setTop (mkF m 55 #[.val (.int p1), .val (.long q1), .second, .val (.long q2), .second, .val (.int ((p1 &&& (255 : Int32)) - ((p1 &&& (255 : Int32)) / (6 : Int32)) * (6 : Int32))), .val (.int (((p1.toUInt32 >>> ((8 : Int32) &&& 31).toUInt32).toInt32) &&& (3 : Int32))), .val (.long q2), .second, .unset, .unset, .unset] [(.long (1 : Int64)), (.long q1)])) _
          refine XS.lsub X0.here hx rfl (hb hby at_55) rfl ?_
          show Steps p.tables e below (s₁.setTop (mkF m 56 #[.val (.int p1), .val (.long q1), .second, .val (.long q2), .second, .val (.int ((p1 &&& (255 : Int32)) - ((p1 &&& (255 : Int32)) / (6 : Int32)) * (6 : Int32))), .val (.int (((p1.toUInt32 >>> ((8 : Int32) &&& 31).toUInt32).toInt32) &&& (3 : Int32))), .val (.long q2), .second, .unset, .unset, .unset] [(.long (q1 - (1 : Int64)))])) _
          refine XS.lstore X0.here hx rfl (hb hby at_56) rfl (l' := #[.val (.int p1), .val (.long q1), .second, .val (.long q2), .second, .val (.int ((p1 &&& (255 : Int32)) - ((p1 &&& (255 : Int32)) / (6 : Int32)) * (6 : Int32))), .val (.int (((p1.toUInt32 >>> ((8 : Int32) &&& 31).toUInt32).toInt32) &&& (3 : Int32))), .val (.long (q1 - (1 : Int64))), .second, .unset, .unset, .unset]) rfl ?_
          exact kt
        · have evv102_L7 : v102_L7 = q2 := by rw [hv102_L7, if_neg hr102_24_0, if_neg hr102_36_1, if_neg hr102_50_2]
          rw [evv102_L7] at kt
          show Steps p.tables e below (s₁.setTop (mkF m 50 #[.val (.int p1), .val (.long q1), .second, .val (.long q2), .second, .val (.int ((p1 &&& (255 : Int32)) - ((p1 &&& (255 : Int32)) / (6 : Int32)) * (6 : Int32))), .val (.int (((p1.toUInt32 >>> ((8 : Int32) &&& 31).toUInt32).toInt32) &&& (3 : Int32))), .val (.long q2), .second, .unset, .unset, .unset] [(.int (3 : Int32)), (.int (((p1.toUInt32 >>> ((8 : Int32) &&& 31).toUInt32).toInt32) &&& (3 : Int32)))])) _
          refine XS.icmpYes X0.here hx rfl (pc0 := 50) (pc' := 58) rfl (hb hby at_50) rfl (feq hr102_50_2).2 (by decide) (by decide) ?_
          exact kt
  have P103 : ∀ t, Steps p.tables e below (s₁.setTop (mkF m 58 #[.val (.int p1), .val (.long q1), .second, .val (.long q2), .second, .val (.int ((p1 &&& (255 : Int32)) - ((p1 &&& (255 : Int32)) / (6 : Int32)) * (6 : Int32))), .val (.int (((p1.toUInt32 >>> ((8 : Int32) &&& 31).toUInt32).toInt32) &&& (3 : Int32))), .val (.long v102_L7), .second, .unset, .unset, .unset] [])) t → Steps p.tables e below (s₁.setTop (entryFrame m #[(.int p1), (.long q1), (.long q2)] maxLocals)) t := fun t kt => P101 t (J102 t kt)
  have P104 : ∀ t, Steps p.tables e below (s₁.setTop (mkF m 62 #[.val (.int p1), .val (.long q1), .second, .val (.long q2), .second, .val (.int ((p1 &&& (255 : Int32)) - ((p1 &&& (255 : Int32)) / (6 : Int32)) * (6 : Int32))), .val (.int (((p1.toUInt32 >>> ((8 : Int32) &&& 31).toUInt32).toInt32) &&& (3 : Int32))), .val (.long v102_L7), .second, .unset, .unset, .unset] [(.int (lcmpW q1 v102_L7))])) t → Steps p.tables e below (s₁.setTop (entryFrame m #[(.int p1), (.long q1), (.long q2)] maxLocals)) t := fun t kt => P103 t (by
    show Steps p.tables e below (s₁.setTop (mkF m 58 #[.val (.int p1), .val (.long q1), .second, .val (.long q2), .second, .val (.int ((p1 &&& (255 : Int32)) - ((p1 &&& (255 : Int32)) / (6 : Int32)) * (6 : Int32))), .val (.int (((p1.toUInt32 >>> ((8 : Int32) &&& 31).toUInt32).toInt32) &&& (3 : Int32))), .val (.long v102_L7), .second, .unset, .unset, .unset] [])) _
    refine XS.lloadN X0.here hx rfl (hb hby at_58) rfl ?_
    show Steps p.tables e below (s₁.setTop (mkF m 59 #[.val (.int p1), .val (.long q1), .second, .val (.long q2), .second, .val (.int ((p1 &&& (255 : Int32)) - ((p1 &&& (255 : Int32)) / (6 : Int32)) * (6 : Int32))), .val (.int (((p1.toUInt32 >>> ((8 : Int32) &&& 31).toUInt32).toInt32) &&& (3 : Int32))), .val (.long v102_L7), .second, .unset, .unset, .unset] [(.long q1)])) _
    refine XS.lload X0.here hx rfl (hb hby at_59) rfl ?_
    show Steps p.tables e below (s₁.setTop (mkF m 61 #[.val (.int p1), .val (.long q1), .second, .val (.long q2), .second, .val (.int ((p1 &&& (255 : Int32)) - ((p1 &&& (255 : Int32)) / (6 : Int32)) * (6 : Int32))), .val (.int (((p1.toUInt32 >>> ((8 : Int32) &&& 31).toUInt32).toInt32) &&& (3 : Int32))), .val (.long v102_L7), .second, .unset, .unset, .unset] [(.long v102_L7), (.long q1)])) _
    refine XS.lcmp X0.here hx rfl (hb hby at_61) rfl ?_
    exact kt)
  obtain ⟨cc, hcc⟩ : ∃ z : Int32, z = (if (lcmpW q1 v102_L7) < (0 : Int32) then (-1 : Int32) else (if (lcmpW q1 v102_L7) = (0 : Int32) then (0 : Int32) else (1 : Int32))) := ⟨_, rfl⟩
  have J105 : ∀ t, Steps p.tables e below (s₁.setTop (mkF m 87 #[.val (.int p1), .val (.long q1), .second, .val (.long q2), .second, .val (.int ((p1 &&& (255 : Int32)) - ((p1 &&& (255 : Int32)) / (6 : Int32)) * (6 : Int32))), .val (.int (((p1.toUInt32 >>> ((8 : Int32) &&& 31).toUInt32).toInt32) &&& (3 : Int32))), .val (.long v102_L7), .second, .val (.int cc), .unset, .unset] [])) t → Steps p.tables e below (s₁.setTop (mkF m 62 #[.val (.int p1), .val (.long q1), .second, .val (.long q2), .second, .val (.int ((p1 &&& (255 : Int32)) - ((p1 &&& (255 : Int32)) / (6 : Int32)) * (6 : Int32))), .val (.int (((p1.toUInt32 >>> ((8 : Int32) &&& 31).toUInt32).toInt32) &&& (3 : Int32))), .val (.long v102_L7), .second, .unset, .unset, .unset] [(.int (lcmpW q1 v102_L7))])) t := by
    intro t kt
    by_cases hr105_62_0 : (lcmpW q1 v102_L7) < (0 : Int32)
    · have evcc : cc = (-1 : Int32) := by rw [hcc, if_pos hr105_62_0]
      rw [evcc] at kt
      show Steps p.tables e below (s₁.setTop (mkF m 62 #[.val (.int p1), .val (.long q1), .second, .val (.long q2), .second, .val (.int ((p1 &&& (255 : Int32)) - ((p1 &&& (255 : Int32)) / (6 : Int32)) * (6 : Int32))), .val (.int (((p1.toUInt32 >>> ((8 : Int32) &&& 31).toUInt32).toInt32) &&& (3 : Int32))), .val (.long v102_L7), .second, .unset, .unset, .unset] [(.int (lcmpW q1 v102_L7))])) _
      refine XS.ifNo X0.here hx rfl (hb hby at_62) rfl ((if0 _ _).trans (tlt hr105_62_0).2.1) ?_
      show Steps p.tables e below (s₁.setTop (mkF m 65 #[.val (.int p1), .val (.long q1), .second, .val (.long q2), .second, .val (.int ((p1 &&& (255 : Int32)) - ((p1 &&& (255 : Int32)) / (6 : Int32)) * (6 : Int32))), .val (.int (((p1.toUInt32 >>> ((8 : Int32) &&& 31).toUInt32).toInt32) &&& (3 : Int32))), .val (.long v102_L7), .second, .unset, .unset, .unset] [])) _
      refine XS.iconst X0.here hx rfl (hb hby at_65) ?_
      show Steps p.tables e below (s₁.setTop (mkF m 66 #[.val (.int p1), .val (.long q1), .second, .val (.long q2), .second, .val (.int ((p1 &&& (255 : Int32)) - ((p1 &&& (255 : Int32)) / (6 : Int32)) * (6 : Int32))), .val (.int (((p1.toUInt32 >>> ((8 : Int32) &&& 31).toUInt32).toInt32) &&& (3 : Int32))), .val (.long v102_L7), .second, .unset, .unset, .unset] [(.int (-1 : Int32))])) _
      refine XS.istore X0.here hx rfl (hb hby at_66) rfl (l' := #[.val (.int p1), .val (.long q1), .second, .val (.long q2), .second, .val (.int ((p1 &&& (255 : Int32)) - ((p1 &&& (255 : Int32)) / (6 : Int32)) * (6 : Int32))), .val (.int (((p1.toUInt32 >>> ((8 : Int32) &&& 31).toUInt32).toInt32) &&& (3 : Int32))), .val (.long v102_L7), .second, .val (.int (-1 : Int32)), .unset, .unset]) rfl ?_
      show Steps p.tables e below (s₁.setTop (mkF m 68 #[.val (.int p1), .val (.long q1), .second, .val (.long q2), .second, .val (.int ((p1 &&& (255 : Int32)) - ((p1 &&& (255 : Int32)) / (6 : Int32)) * (6 : Int32))), .val (.int (((p1.toUInt32 >>> ((8 : Int32) &&& 31).toUInt32).toInt32) &&& (3 : Int32))), .val (.long v102_L7), .second, .val (.int (-1 : Int32)), .unset, .unset] [])) _
      refine XS.goto X0.here hx rfl (pc0 := 68) (pc' := 87) rfl (hb hby at_68) (by decide) (by decide) ?_
      exact kt
    · show Steps p.tables e below (s₁.setTop (mkF m 62 #[.val (.int p1), .val (.long q1), .second, .val (.long q2), .second, .val (.int ((p1 &&& (255 : Int32)) - ((p1 &&& (255 : Int32)) / (6 : Int32)) * (6 : Int32))), .val (.int (((p1.toUInt32 >>> ((8 : Int32) &&& 31).toUInt32).toInt32) &&& (3 : Int32))), .val (.long v102_L7), .second, .unset, .unset, .unset] [(.int (lcmpW q1 v102_L7))])) _
      refine XS.ifYes X0.here hx rfl (pc0 := 62) (pc' := 71) rfl (hb hby at_62) rfl ((if0 _ _).trans (flt hr105_62_0).2.1) (by decide) (by decide) ?_
      show Steps p.tables e below (s₁.setTop (mkF m 71 #[.val (.int p1), .val (.long q1), .second, .val (.long q2), .second, .val (.int ((p1 &&& (255 : Int32)) - ((p1 &&& (255 : Int32)) / (6 : Int32)) * (6 : Int32))), .val (.int (((p1.toUInt32 >>> ((8 : Int32) &&& 31).toUInt32).toInt32) &&& (3 : Int32))), .val (.long v102_L7), .second, .unset, .unset, .unset] [])) _
      refine XS.lloadN X0.here hx rfl (hb hby at_71) rfl ?_
      show Steps p.tables e below (s₁.setTop (mkF m 72 #[.val (.int p1), .val (.long q1), .second, .val (.long q2), .second, .val (.int ((p1 &&& (255 : Int32)) - ((p1 &&& (255 : Int32)) / (6 : Int32)) * (6 : Int32))), .val (.int (((p1.toUInt32 >>> ((8 : Int32) &&& 31).toUInt32).toInt32) &&& (3 : Int32))), .val (.long v102_L7), .second, .unset, .unset, .unset] [(.long q1)])) _
      refine XS.lload X0.here hx rfl (hb hby at_72) rfl ?_
      show Steps p.tables e below (s₁.setTop (mkF m 74 #[.val (.int p1), .val (.long q1), .second, .val (.long q2), .second, .val (.int ((p1 &&& (255 : Int32)) - ((p1 &&& (255 : Int32)) / (6 : Int32)) * (6 : Int32))), .val (.int (((p1.toUInt32 >>> ((8 : Int32) &&& 31).toUInt32).toInt32) &&& (3 : Int32))), .val (.long v102_L7), .second, .unset, .unset, .unset] [(.long v102_L7), (.long q1)])) _
      refine XS.lcmp X0.here hx rfl (hb hby at_74) rfl ?_
      by_cases hr105_75_1 : (lcmpW q1 v102_L7) = (0 : Int32)
      · have evcc : cc = (0 : Int32) := by rw [hcc, if_neg hr105_62_0, if_pos hr105_75_1]
        rw [evcc] at kt
        show Steps p.tables e below (s₁.setTop (mkF m 75 #[.val (.int p1), .val (.long q1), .second, .val (.long q2), .second, .val (.int ((p1 &&& (255 : Int32)) - ((p1 &&& (255 : Int32)) / (6 : Int32)) * (6 : Int32))), .val (.int (((p1.toUInt32 >>> ((8 : Int32) &&& 31).toUInt32).toInt32) &&& (3 : Int32))), .val (.long v102_L7), .second, .unset, .unset, .unset] [(.int (lcmpW q1 v102_L7))])) _
        refine XS.ifNo X0.here hx rfl (hb hby at_75) rfl ((if0 _ _).trans (teq hr105_75_1).2) ?_
        show Steps p.tables e below (s₁.setTop (mkF m 78 #[.val (.int p1), .val (.long q1), .second, .val (.long q2), .second, .val (.int ((p1 &&& (255 : Int32)) - ((p1 &&& (255 : Int32)) / (6 : Int32)) * (6 : Int32))), .val (.int (((p1.toUInt32 >>> ((8 : Int32) &&& 31).toUInt32).toInt32) &&& (3 : Int32))), .val (.long v102_L7), .second, .unset, .unset, .unset] [])) _
        refine XS.iconst X0.here hx rfl (hb hby at_78) ?_
        show Steps p.tables e below (s₁.setTop (mkF m 79 #[.val (.int p1), .val (.long q1), .second, .val (.long q2), .second, .val (.int ((p1 &&& (255 : Int32)) - ((p1 &&& (255 : Int32)) / (6 : Int32)) * (6 : Int32))), .val (.int (((p1.toUInt32 >>> ((8 : Int32) &&& 31).toUInt32).toInt32) &&& (3 : Int32))), .val (.long v102_L7), .second, .unset, .unset, .unset] [(.int (0 : Int32))])) _
        refine XS.istore X0.here hx rfl (hb hby at_79) rfl (l' := #[.val (.int p1), .val (.long q1), .second, .val (.long q2), .second, .val (.int ((p1 &&& (255 : Int32)) - ((p1 &&& (255 : Int32)) / (6 : Int32)) * (6 : Int32))), .val (.int (((p1.toUInt32 >>> ((8 : Int32) &&& 31).toUInt32).toInt32) &&& (3 : Int32))), .val (.long v102_L7), .second, .val (.int (0 : Int32)), .unset, .unset]) rfl ?_
        show Steps p.tables e below (s₁.setTop (mkF m 81 #[.val (.int p1), .val (.long q1), .second, .val (.long q2), .second, .val (.int ((p1 &&& (255 : Int32)) - ((p1 &&& (255 : Int32)) / (6 : Int32)) * (6 : Int32))), .val (.int (((p1.toUInt32 >>> ((8 : Int32) &&& 31).toUInt32).toInt32) &&& (3 : Int32))), .val (.long v102_L7), .second, .val (.int (0 : Int32)), .unset, .unset] [])) _
        refine XS.goto X0.here hx rfl (pc0 := 81) (pc' := 87) rfl (hb hby at_81) (by decide) (by decide) ?_
        exact kt
      · have evcc : cc = (1 : Int32) := by rw [hcc, if_neg hr105_62_0, if_neg hr105_75_1]
        rw [evcc] at kt
        show Steps p.tables e below (s₁.setTop (mkF m 75 #[.val (.int p1), .val (.long q1), .second, .val (.long q2), .second, .val (.int ((p1 &&& (255 : Int32)) - ((p1 &&& (255 : Int32)) / (6 : Int32)) * (6 : Int32))), .val (.int (((p1.toUInt32 >>> ((8 : Int32) &&& 31).toUInt32).toInt32) &&& (3 : Int32))), .val (.long v102_L7), .second, .unset, .unset, .unset] [(.int (lcmpW q1 v102_L7))])) _
        refine XS.ifYes X0.here hx rfl (pc0 := 75) (pc' := 84) rfl (hb hby at_75) rfl ((if0 _ _).trans (feq hr105_75_1).2) (by decide) (by decide) ?_
        show Steps p.tables e below (s₁.setTop (mkF m 84 #[.val (.int p1), .val (.long q1), .second, .val (.long q2), .second, .val (.int ((p1 &&& (255 : Int32)) - ((p1 &&& (255 : Int32)) / (6 : Int32)) * (6 : Int32))), .val (.int (((p1.toUInt32 >>> ((8 : Int32) &&& 31).toUInt32).toInt32) &&& (3 : Int32))), .val (.long v102_L7), .second, .unset, .unset, .unset] [])) _
        refine XS.iconst X0.here hx rfl (hb hby at_84) ?_
        show Steps p.tables e below (s₁.setTop (mkF m 85 #[.val (.int p1), .val (.long q1), .second, .val (.long q2), .second, .val (.int ((p1 &&& (255 : Int32)) - ((p1 &&& (255 : Int32)) / (6 : Int32)) * (6 : Int32))), .val (.int (((p1.toUInt32 >>> ((8 : Int32) &&& 31).toUInt32).toInt32) &&& (3 : Int32))), .val (.long v102_L7), .second, .unset, .unset, .unset] [(.int (1 : Int32))])) _
        refine XS.istore X0.here hx rfl (hb hby at_85) rfl (l' := #[.val (.int p1), .val (.long q1), .second, .val (.long q2), .second, .val (.int ((p1 &&& (255 : Int32)) - ((p1 &&& (255 : Int32)) / (6 : Int32)) * (6 : Int32))), .val (.int (((p1.toUInt32 >>> ((8 : Int32) &&& 31).toUInt32).toInt32) &&& (3 : Int32))), .val (.long v102_L7), .second, .val (.int (1 : Int32)), .unset, .unset]) rfl ?_
        exact kt
  have P106 : ∀ t, Steps p.tables e below (s₁.setTop (mkF m 87 #[.val (.int p1), .val (.long q1), .second, .val (.long q2), .second, .val (.int ((p1 &&& (255 : Int32)) - ((p1 &&& (255 : Int32)) / (6 : Int32)) * (6 : Int32))), .val (.int (((p1.toUInt32 >>> ((8 : Int32) &&& 31).toUInt32).toInt32) &&& (3 : Int32))), .val (.long v102_L7), .second, .val (.int cc), .unset, .unset] [])) t → Steps p.tables e below (s₁.setTop (entryFrame m #[(.int p1), (.long q1), (.long q2)] maxLocals)) t := fun t kt => P104 t (J105 t kt)
  obtain ⟨r, hr⟩ : ∃ z : Int32, z = ((p1 &&& (255 : Int32)) - ((p1 &&& (255 : Int32)) / (6 : Int32)) * (6 : Int32)) := ⟨_, rfl⟩
  rw [← hr] at P106
  have hcr := own_k6 r p1 hr
  rcases hcr with rfl | rfl | rfl | rfl | rfl | rfl
  · obtain ⟨T107, X107, e107, st107⟩ := getS2 X0 hx hZ hown (host := "") (Or.inl (hw _ (List.mem_of_getElem? (i := 0) rfl))) Via.refl e0 S_EQ (g := (mkF m 92 #[.val (.int p1), .val (.long q1), .second, .val (.long q2), .second, .val (.int (0 : Int32)), .val (.int (((p1.toUInt32 >>> ((8 : Int32) &&& 31).toUInt32).toInt32) &&& (3 : Int32))), .val (.long v102_L7), .second, .val (.int cc), .unset, .unset] [])) rfl (hb hby at_92)
    have P108 : ∀ t, Steps p.tables e below (T107.setTop (mkF m 99 #[.val (.int p1), .val (.long q1), .second, .val (.long q2), .second, .val (.int (0 : Int32)), .val (.int (((p1.toUInt32 >>> ((8 : Int32) &&& 31).toUInt32).toInt32) &&& (3 : Int32))), .val (.long v102_L7), .second, .val (.int cc), .val (.ref w_EQ), .unset] [(.int cc)])) t → Steps p.tables e below (s₁.setTop (entryFrame m #[(.int p1), (.long q1), (.long q2)] maxLocals)) t := fun t kt => P106 t (by
      show Steps p.tables e below (s₁.setTop (mkF m 87 #[.val (.int p1), .val (.long q1), .second, .val (.long q2), .second, .val (.int (0 : Int32)), .val (.int (((p1.toUInt32 >>> ((8 : Int32) &&& 31).toUInt32).toInt32) &&& (3 : Int32))), .val (.long v102_L7), .second, .val (.int cc), .unset, .unset] [])) _
      refine XS.iload X0.here hx rfl (hb hby at_87) rfl ?_
      show Steps p.tables e below (s₁.setTop (mkF m 89 #[.val (.int p1), .val (.long q1), .second, .val (.long q2), .second, .val (.int (0 : Int32)), .val (.int (((p1.toUInt32 >>> ((8 : Int32) &&& 31).toUInt32).toInt32) &&& (3 : Int32))), .val (.long v102_L7), .second, .val (.int cc), .unset, .unset] [(.int (0 : Int32))])) _
      refine XS.ifNo X0.here hx rfl (hb hby at_89) rfl ((if0 _ _).trans (teq ((by decide) : (0 : Int32) = (0 : Int32))).2) ?_
      show Steps p.tables e below (s₁.setTop (mkF m 92 #[.val (.int p1), .val (.long q1), .second, .val (.long q2), .second, .val (.int (0 : Int32)), .val (.int (((p1.toUInt32 >>> ((8 : Int32) &&& 31).toUInt32).toInt32) &&& (3 : Int32))), .val (.long v102_L7), .second, .val (.int cc), .unset, .unset] [])) _
      refine st107 _ ?_
      show Steps p.tables e below (T107.setTop (mkF m 95 #[.val (.int p1), .val (.long q1), .second, .val (.long q2), .second, .val (.int (0 : Int32)), .val (.int (((p1.toUInt32 >>> ((8 : Int32) &&& 31).toUInt32).toInt32) &&& (3 : Int32))), .val (.long v102_L7), .second, .val (.int cc), .unset, .unset] [(.ref w_EQ)])) _
      refine XS.astore X107.here hx rfl (hb hby at_95) rfl rfl (l' := #[.val (.int p1), .val (.long q1), .second, .val (.long q2), .second, .val (.int (0 : Int32)), .val (.int (((p1.toUInt32 >>> ((8 : Int32) &&& 31).toUInt32).toInt32) &&& (3 : Int32))), .val (.long v102_L7), .second, .val (.int cc), .val (.ref w_EQ), .unset]) rfl ?_
      show Steps p.tables e below (T107.setTop (mkF m 97 #[.val (.int p1), .val (.long q1), .second, .val (.long q2), .second, .val (.int (0 : Int32)), .val (.int (((p1.toUInt32 >>> ((8 : Int32) &&& 31).toUInt32).toInt32) &&& (3 : Int32))), .val (.long v102_L7), .second, .val (.int cc), .val (.ref w_EQ), .unset] [])) _
      refine XS.iload X107.here hx rfl (hb hby at_97) rfl ?_
      exact kt)
    obtain ⟨ex0, hex0⟩ : ∃ z : Int32, z = (if cc = (0 : Int32) then (1 : Int32) else (0 : Int32)) := ⟨_, rfl⟩
    have J109 : ∀ t, Steps p.tables e below (T107.setTop (mkF m 107 #[.val (.int p1), .val (.long q1), .second, .val (.long q2), .second, .val (.int (0 : Int32)), .val (.int (((p1.toUInt32 >>> ((8 : Int32) &&& 31).toUInt32).toInt32) &&& (3 : Int32))), .val (.long v102_L7), .second, .val (.int cc), .val (.ref w_EQ), .unset] [(.int ex0)])) t → Steps p.tables e below (T107.setTop (mkF m 99 #[.val (.int p1), .val (.long q1), .second, .val (.long q2), .second, .val (.int (0 : Int32)), .val (.int (((p1.toUInt32 >>> ((8 : Int32) &&& 31).toUInt32).toInt32) &&& (3 : Int32))), .val (.long v102_L7), .second, .val (.int cc), .val (.ref w_EQ), .unset] [(.int cc)])) t := by
      intro t kt
      by_cases hr109_99_0 : cc = (0 : Int32)
      · have evex0 : ex0 = (1 : Int32) := by rw [hex0, if_pos hr109_99_0]
        rw [evex0] at kt
        show Steps p.tables e below (T107.setTop (mkF m 99 #[.val (.int p1), .val (.long q1), .second, .val (.long q2), .second, .val (.int (0 : Int32)), .val (.int (((p1.toUInt32 >>> ((8 : Int32) &&& 31).toUInt32).toInt32) &&& (3 : Int32))), .val (.long v102_L7), .second, .val (.int cc), .val (.ref w_EQ), .unset] [(.int cc)])) _
        refine XS.ifNo X107.here hx rfl (hb hby at_99) rfl ((if0 _ _).trans (teq hr109_99_0).2) ?_
        show Steps p.tables e below (T107.setTop (mkF m 102 #[.val (.int p1), .val (.long q1), .second, .val (.long q2), .second, .val (.int (0 : Int32)), .val (.int (((p1.toUInt32 >>> ((8 : Int32) &&& 31).toUInt32).toInt32) &&& (3 : Int32))), .val (.long v102_L7), .second, .val (.int cc), .val (.ref w_EQ), .unset] [])) _
        refine XS.iconst X107.here hx rfl (hb hby at_102) ?_
        show Steps p.tables e below (T107.setTop (mkF m 103 #[.val (.int p1), .val (.long q1), .second, .val (.long q2), .second, .val (.int (0 : Int32)), .val (.int (((p1.toUInt32 >>> ((8 : Int32) &&& 31).toUInt32).toInt32) &&& (3 : Int32))), .val (.long v102_L7), .second, .val (.int cc), .val (.ref w_EQ), .unset] [(.int (1 : Int32))])) _
        refine XS.goto X107.here hx rfl (pc0 := 103) (pc' := 107) rfl (hb hby at_103) (by decide) (by decide) ?_
        exact kt
      · have evex0 : ex0 = (0 : Int32) := by rw [hex0, if_neg hr109_99_0]
        rw [evex0] at kt
        show Steps p.tables e below (T107.setTop (mkF m 99 #[.val (.int p1), .val (.long q1), .second, .val (.long q2), .second, .val (.int (0 : Int32)), .val (.int (((p1.toUInt32 >>> ((8 : Int32) &&& 31).toUInt32).toInt32) &&& (3 : Int32))), .val (.long v102_L7), .second, .val (.int cc), .val (.ref w_EQ), .unset] [(.int cc)])) _
        refine XS.ifYes X107.here hx rfl (pc0 := 99) (pc' := 106) rfl (hb hby at_99) rfl ((if0 _ _).trans (feq hr109_99_0).2) (by decide) (by decide) ?_
        show Steps p.tables e below (T107.setTop (mkF m 106 #[.val (.int p1), .val (.long q1), .second, .val (.long q2), .second, .val (.int (0 : Int32)), .val (.int (((p1.toUInt32 >>> ((8 : Int32) &&& 31).toUInt32).toInt32) &&& (3 : Int32))), .val (.long v102_L7), .second, .val (.int cc), .val (.ref w_EQ), .unset] [])) _
        refine XS.iconst X107.here hx rfl (hb hby at_106) ?_
        exact kt
    have P110 : ∀ t, Steps p.tables e below (T107.setTop (mkF m 107 #[.val (.int p1), .val (.long q1), .second, .val (.long q2), .second, .val (.int (0 : Int32)), .val (.int (((p1.toUInt32 >>> ((8 : Int32) &&& 31).toUInt32).toInt32) &&& (3 : Int32))), .val (.long v102_L7), .second, .val (.int cc), .val (.ref w_EQ), .unset] [(.int ex0)])) t → Steps p.tables e below (s₁.setTop (entryFrame m #[(.int p1), (.long q1), (.long q2)] maxLocals)) t := fun t kt => P108 t (J109 t kt)
    obtain ⟨cq111, kq111, q111a, q111b, q111c⟩ := isOf hZ e107 E_EQ
    obtain ⟨_, _, ⟨T111, L111, k111, n111⟩, -, X111, ⟨Lc111, hQ111, l111, y111, z111⟩, st111⟩ := X107.virtualBack hx (y := (⟨"com/example/probex/probex/symbolic/Relation", "test", "(JJ)Z"⟩ : MethodName)) (z := (⟨"com/example/probex/probex/symbolic/Relation", "test", "(JJ)Z"⟩ : MethodName)) hown (mvT hZ (hw _ (List.mem_of_getElem? (i := 3) rfl))) (mvT hZ (hw _ (List.mem_of_getElem? (i := 4) rfl))) (notFace_of_selects (args := #[]) (mvT hZ (hw _ (List.mem_of_getElem? (i := 6) rfl)))) (mvT hZ (hw _ (List.mem_of_getElem? (i := 6) rfl))) (mvT hZ (hw _ (List.mem_of_getElem? (i := 5) rfl))) (by decide) (backOf (W := 0)  (rmT l Z a0 hw [] w_EQ (0 : Int32) q1 v102_L7 h0 E_EQ O_EQ (by decide)) hZ (hw _ (List.mem_of_getElem? (i := 7) rfl)) (hw _ (List.mem_of_getElem? (i := 1) rfl)) (by decide) (by decide)) q111a q111c (g := (mkF m 238 #[.val (.int p1), .val (.long q1), .second, .val (.long q2), .second, .val (.int (0 : Int32)), .val (.int (((p1.toUInt32 >>> ((8 : Int32) &&& 31).toUInt32).toInt32) &&& (3 : Int32))), .val (.long v102_L7), .second, .val (.int cc), .val (.ref w_EQ), .val (.int ex0)] [(.long v102_L7), (.long q1), (.ref w_EQ)])) rfl (by rw [hml]; rfl) (Steps.refl _) (argsL := [(.long q1), (.long v102_L7)]) (rest := []) (lenOf pd__JJ_Z rfl) rfl (by show 2 * 0 + _ ≤ _; exact Nat.le_of_eq rfl) (hb hby at_238) (fun _ _ => ⟨rfl, e107, (by decide : 0 + 0 ≤ _), (by decide : 0 + 0 ≤ _)⟩)
    dsimp only [Pt.U, Pt.locs, Pt.cells, Pt.slots] at X111 l111 y111 z111 st111 hQ111
    subst l111 y111 z111
    obtain ⟨rfl, rfl, e111⟩ := hQ111
    have X111 : Stand p l e room_1 s m #[(.int p1), (.long q1), (.long q2)] below meth c T111 [] 0 0 := X111
    have P112 : ∀ t, Steps p.tables e below (T111.setTop (mkF m 251 #[.val (.int p1), .val (.long q1), .second, .val (.long q2), .second, .val (.int (0 : Int32)), .val (.int (((p1.toUInt32 >>> ((8 : Int32) &&& 31).toUInt32).toInt32) &&& (3 : Int32))), .val (.long v102_L7), .second, .val (.int cc), .val (.ref w_EQ), .val (.int ex0)] [(.int (1 : Int32))])) t → Steps p.tables e below (s₁.setTop (entryFrame m #[(.int p1), (.long q1), (.long q2)] maxLocals)) t := fun t kt => P110 t (by
      show Steps p.tables e below (T107.setTop (mkF m 107 #[.val (.int p1), .val (.long q1), .second, .val (.long q2), .second, .val (.int (0 : Int32)), .val (.int (((p1.toUInt32 >>> ((8 : Int32) &&& 31).toUInt32).toInt32) &&& (3 : Int32))), .val (.long v102_L7), .second, .val (.int cc), .val (.ref w_EQ), .unset] [(.int ex0)])) _
      refine XS.istore X107.here hx rfl (hb hby at_107) rfl (l' := #[.val (.int p1), .val (.long q1), .second, .val (.long q2), .second, .val (.int (0 : Int32)), .val (.int (((p1.toUInt32 >>> ((8 : Int32) &&& 31).toUInt32).toInt32) &&& (3 : Int32))), .val (.long v102_L7), .second, .val (.int cc), .val (.ref w_EQ), .val (.int ex0)]) rfl ?_
      show Steps p.tables e below (T107.setTop (mkF m 109 #[.val (.int p1), .val (.long q1), .second, .val (.long q2), .second, .val (.int (0 : Int32)), .val (.int (((p1.toUInt32 >>> ((8 : Int32) &&& 31).toUInt32).toInt32) &&& (3 : Int32))), .val (.long v102_L7), .second, .val (.int cc), .val (.ref w_EQ), .val (.int ex0)] [])) _
      refine XS.goto X107.here hx rfl (pc0 := 109) (pc' := 233) rfl (hb hby at_109) (by decide) (by decide) ?_
      show Steps p.tables e below (T107.setTop (mkF m 233 #[.val (.int p1), .val (.long q1), .second, .val (.long q2), .second, .val (.int (0 : Int32)), .val (.int (((p1.toUInt32 >>> ((8 : Int32) &&& 31).toUInt32).toInt32) &&& (3 : Int32))), .val (.long v102_L7), .second, .val (.int cc), .val (.ref w_EQ), .val (.int ex0)] [])) _
      refine XS.aload X107.here hx rfl (hb hby at_233) rfl rfl ?_
      show Steps p.tables e below (T107.setTop (mkF m 235 #[.val (.int p1), .val (.long q1), .second, .val (.long q2), .second, .val (.int (0 : Int32)), .val (.int (((p1.toUInt32 >>> ((8 : Int32) &&& 31).toUInt32).toInt32) &&& (3 : Int32))), .val (.long v102_L7), .second, .val (.int cc), .val (.ref w_EQ), .val (.int ex0)] [(.ref w_EQ)])) _
      refine XS.lloadN X107.here hx rfl (hb hby at_235) rfl ?_
      show Steps p.tables e below (T107.setTop (mkF m 236 #[.val (.int p1), .val (.long q1), .second, .val (.long q2), .second, .val (.int (0 : Int32)), .val (.int (((p1.toUInt32 >>> ((8 : Int32) &&& 31).toUInt32).toInt32) &&& (3 : Int32))), .val (.long v102_L7), .second, .val (.int cc), .val (.ref w_EQ), .val (.int ex0)] [(.long q1), (.ref w_EQ)])) _
      refine XS.lload X107.here hx rfl (hb hby at_236) rfl ?_
      show Steps p.tables e below (T107.setTop (mkF m 238 #[.val (.int p1), .val (.long q1), .second, .val (.long q2), .second, .val (.int (0 : Int32)), .val (.int (((p1.toUInt32 >>> ((8 : Int32) &&& 31).toUInt32).toInt32) &&& (3 : Int32))), .val (.long v102_L7), .second, .val (.int cc), .val (.ref w_EQ), .val (.int ex0)] [(.long v102_L7), (.long q1), (.ref w_EQ)])) _
      refine st111.trans ?_
      show Steps p.tables e below (T111.setTop (mkF m 241 #[.val (.int p1), .val (.long q1), .second, .val (.long q2), .second, .val (.int (0 : Int32)), .val (.int (((p1.toUInt32 >>> ((8 : Int32) &&& 31).toUInt32).toInt32) &&& (3 : Int32))), .val (.long v102_L7), .second, .val (.int cc), .val (.ref w_EQ), .val (.int ex0)] [(.int (tst (0 : Int32) q1 v102_L7))])) _
      refine XS.iload X111.here hx rfl (hb hby at_241) rfl ?_
      show Steps p.tables e below (T111.setTop (mkF m 243 #[.val (.int p1), .val (.long q1), .second, .val (.long q2), .second, .val (.int (0 : Int32)), .val (.int (((p1.toUInt32 >>> ((8 : Int32) &&& 31).toUInt32).toInt32) &&& (3 : Int32))), .val (.long v102_L7), .second, .val (.int cc), .val (.ref w_EQ), .val (.int ex0)] [(.int ex0), (.int (tst (0 : Int32) q1 v102_L7))])) _
      refine XS.icmpNo X111.here hx rfl (hb hby at_243) rfl (teq (own_e0 _ _ cc ex0 hcc hex0 : (tst (0 : Int32) q1 v102_L7) = ex0)).2 ?_
      show Steps p.tables e below (T111.setTop (mkF m 246 #[.val (.int p1), .val (.long q1), .second, .val (.long q2), .second, .val (.int (0 : Int32)), .val (.int (((p1.toUInt32 >>> ((8 : Int32) &&& 31).toUInt32).toInt32) &&& (3 : Int32))), .val (.long v102_L7), .second, .val (.int cc), .val (.ref w_EQ), .val (.int ex0)] [])) _
      refine XS.iconst X111.here hx rfl (hb hby at_246) ?_
      show Steps p.tables e below (T111.setTop (mkF m 247 #[.val (.int p1), .val (.long q1), .second, .val (.long q2), .second, .val (.int (0 : Int32)), .val (.int (((p1.toUInt32 >>> ((8 : Int32) &&& 31).toUInt32).toInt32) &&& (3 : Int32))), .val (.long v102_L7), .second, .val (.int cc), .val (.ref w_EQ), .val (.int ex0)] [(.int (1 : Int32))])) _
      refine XS.goto X111.here hx rfl (pc0 := 247) (pc' := 251) rfl (hb hby at_247) (by decide) (by decide) ?_
      exact kt)
    obtain ⟨fs, hr, hrun, hended, hW, hsame⟩ := X111.leave (v := some (.int (1 : Int32))) (fun h => by rw [Bd.returns] at h; cases h) (hlocks := hlk)
    refine ⟨_, _, P112 _ ?_, hrun, hended, _, _, rfl, ?_, ⟨_, rfl⟩, hW, hsame.mono (by decide) (by decide)⟩
    · show Steps p.tables e below (T111.setTop (mkF m 251 #[.val (.int p1), .val (.long q1), .second, .val (.long q2), .second, .val (.int (0 : Int32)), .val (.int (((p1.toUInt32 >>> ((8 : Int32) &&& 31).toUInt32).toInt32) &&& (3 : Int32))), .val (.long v102_L7), .second, .val (.int cc), .val (.ref w_EQ), .val (.int ex0)] [(.int (1 : Int32))])) _
      exact retN X111 hx (t := .boolean) Bd.returns (by simp) (hb hby at_251) hr
    · show QP _ h0 _ T111.heap _
      exact ⟨rfl, rfl, e111⟩
  · obtain ⟨T113, X113, e113, st113⟩ := getS2 X0 hx hZ hown (host := "") (Or.inl (hw _ (List.mem_of_getElem? (i := 25) rfl))) Via.refl e0 S_NE (g := (mkF m 118 #[.val (.int p1), .val (.long q1), .second, .val (.long q2), .second, .val (.int (1 : Int32)), .val (.int (((p1.toUInt32 >>> ((8 : Int32) &&& 31).toUInt32).toInt32) &&& (3 : Int32))), .val (.long v102_L7), .second, .val (.int cc), .unset, .unset] [])) rfl (hb hby at_118)
    have P114 : ∀ t, Steps p.tables e below (T113.setTop (mkF m 125 #[.val (.int p1), .val (.long q1), .second, .val (.long q2), .second, .val (.int (1 : Int32)), .val (.int (((p1.toUInt32 >>> ((8 : Int32) &&& 31).toUInt32).toInt32) &&& (3 : Int32))), .val (.long v102_L7), .second, .val (.int cc), .val (.ref w_NE), .unset] [(.int cc)])) t → Steps p.tables e below (s₁.setTop (entryFrame m #[(.int p1), (.long q1), (.long q2)] maxLocals)) t := fun t kt => P106 t (by
      show Steps p.tables e below (s₁.setTop (mkF m 87 #[.val (.int p1), .val (.long q1), .second, .val (.long q2), .second, .val (.int (1 : Int32)), .val (.int (((p1.toUInt32 >>> ((8 : Int32) &&& 31).toUInt32).toInt32) &&& (3 : Int32))), .val (.long v102_L7), .second, .val (.int cc), .unset, .unset] [])) _
      refine XS.iload X0.here hx rfl (hb hby at_87) rfl ?_
      show Steps p.tables e below (s₁.setTop (mkF m 89 #[.val (.int p1), .val (.long q1), .second, .val (.long q2), .second, .val (.int (1 : Int32)), .val (.int (((p1.toUInt32 >>> ((8 : Int32) &&& 31).toUInt32).toInt32) &&& (3 : Int32))), .val (.long v102_L7), .second, .val (.int cc), .unset, .unset] [(.int (1 : Int32))])) _
      refine XS.ifYes X0.here hx rfl (pc0 := 89) (pc' := 112) rfl (hb hby at_89) rfl ((if0 _ _).trans (feq ((by decide) : ¬ ((1 : Int32) = (0 : Int32)))).2) (by decide) (by decide) ?_
      show Steps p.tables e below (s₁.setTop (mkF m 112 #[.val (.int p1), .val (.long q1), .second, .val (.long q2), .second, .val (.int (1 : Int32)), .val (.int (((p1.toUInt32 >>> ((8 : Int32) &&& 31).toUInt32).toInt32) &&& (3 : Int32))), .val (.long v102_L7), .second, .val (.int cc), .unset, .unset] [])) _
      refine XS.iload X0.here hx rfl (hb hby at_112) rfl ?_
      show Steps p.tables e below (s₁.setTop (mkF m 114 #[.val (.int p1), .val (.long q1), .second, .val (.long q2), .second, .val (.int (1 : Int32)), .val (.int (((p1.toUInt32 >>> ((8 : Int32) &&& 31).toUInt32).toInt32) &&& (3 : Int32))), .val (.long v102_L7), .second, .val (.int cc), .unset, .unset] [(.int (1 : Int32))])) _
      refine XS.iconst X0.here hx rfl (hb hby at_114) ?_
      show Steps p.tables e below (s₁.setTop (mkF m 115 #[.val (.int p1), .val (.long q1), .second, .val (.long q2), .second, .val (.int (1 : Int32)), .val (.int (((p1.toUInt32 >>> ((8 : Int32) &&& 31).toUInt32).toInt32) &&& (3 : Int32))), .val (.long v102_L7), .second, .val (.int cc), .unset, .unset] [(.int (1 : Int32)), (.int (1 : Int32))])) _
      refine XS.icmpNo X0.here hx rfl (hb hby at_115) rfl (teq ((by decide) : (1 : Int32) = (1 : Int32))).2 ?_
      show Steps p.tables e below (s₁.setTop (mkF m 118 #[.val (.int p1), .val (.long q1), .second, .val (.long q2), .second, .val (.int (1 : Int32)), .val (.int (((p1.toUInt32 >>> ((8 : Int32) &&& 31).toUInt32).toInt32) &&& (3 : Int32))), .val (.long v102_L7), .second, .val (.int cc), .unset, .unset] [])) _
      refine st113 _ ?_
      show Steps p.tables e below (T113.setTop (mkF m 121 #[.val (.int p1), .val (.long q1), .second, .val (.long q2), .second, .val (.int (1 : Int32)), .val (.int (((p1.toUInt32 >>> ((8 : Int32) &&& 31).toUInt32).toInt32) &&& (3 : Int32))), .val (.long v102_L7), .second, .val (.int cc), .unset, .unset] [(.ref w_NE)])) _
      refine XS.astore X113.here hx rfl (hb hby at_121) rfl rfl (l' := #[.val (.int p1), .val (.long q1), .second, .val (.long q2), .second, .val (.int (1 : Int32)), .val (.int (((p1.toUInt32 >>> ((8 : Int32) &&& 31).toUInt32).toInt32) &&& (3 : Int32))), .val (.long v102_L7), .second, .val (.int cc), .val (.ref w_NE), .unset]) rfl ?_
      show Steps p.tables e below (T113.setTop (mkF m 123 #[.val (.int p1), .val (.long q1), .second, .val (.long q2), .second, .val (.int (1 : Int32)), .val (.int (((p1.toUInt32 >>> ((8 : Int32) &&& 31).toUInt32).toInt32) &&& (3 : Int32))), .val (.long v102_L7), .second, .val (.int cc), .val (.ref w_NE), .unset] [])) _
      refine XS.iload X113.here hx rfl (hb hby at_123) rfl ?_
      exact kt)
    obtain ⟨ex1, hex1⟩ : ∃ z : Int32, z = (if cc = (0 : Int32) then (0 : Int32) else (1 : Int32)) := ⟨_, rfl⟩
    have J115 : ∀ t, Steps p.tables e below (T113.setTop (mkF m 133 #[.val (.int p1), .val (.long q1), .second, .val (.long q2), .second, .val (.int (1 : Int32)), .val (.int (((p1.toUInt32 >>> ((8 : Int32) &&& 31).toUInt32).toInt32) &&& (3 : Int32))), .val (.long v102_L7), .second, .val (.int cc), .val (.ref w_NE), .unset] [(.int ex1)])) t → Steps p.tables e below (T113.setTop (mkF m 125 #[.val (.int p1), .val (.long q1), .second, .val (.long q2), .second, .val (.int (1 : Int32)), .val (.int (((p1.toUInt32 >>> ((8 : Int32) &&& 31).toUInt32).toInt32) &&& (3 : Int32))), .val (.long v102_L7), .second, .val (.int cc), .val (.ref w_NE), .unset] [(.int cc)])) t := by
      intro t kt
      by_cases hr115_125_0 : cc = (0 : Int32)
      · have evex1 : ex1 = (0 : Int32) := by rw [hex1, if_pos hr115_125_0]
        rw [evex1] at kt
        show Steps p.tables e below (T113.setTop (mkF m 125 #[.val (.int p1), .val (.long q1), .second, .val (.long q2), .second, .val (.int (1 : Int32)), .val (.int (((p1.toUInt32 >>> ((8 : Int32) &&& 31).toUInt32).toInt32) &&& (3 : Int32))), .val (.long v102_L7), .second, .val (.int cc), .val (.ref w_NE), .unset] [(.int cc)])) _
        refine XS.ifYes X113.here hx rfl (pc0 := 125) (pc' := 132) rfl (hb hby at_125) rfl ((if0 _ _).trans (teq hr115_125_0).1) (by decide) (by decide) ?_
        show Steps p.tables e below (T113.setTop (mkF m 132 #[.val (.int p1), .val (.long q1), .second, .val (.long q2), .second, .val (.int (1 : Int32)), .val (.int (((p1.toUInt32 >>> ((8 : Int32) &&& 31).toUInt32).toInt32) &&& (3 : Int32))), .val (.long v102_L7), .second, .val (.int cc), .val (.ref w_NE), .unset] [])) _
        refine XS.iconst X113.here hx rfl (hb hby at_132) ?_
        exact kt
      · have evex1 : ex1 = (1 : Int32) := by rw [hex1, if_neg hr115_125_0]
        rw [evex1] at kt
        show Steps p.tables e below (T113.setTop (mkF m 125 #[.val (.int p1), .val (.long q1), .second, .val (.long q2), .second, .val (.int (1 : Int32)), .val (.int (((p1.toUInt32 >>> ((8 : Int32) &&& 31).toUInt32).toInt32) &&& (3 : Int32))), .val (.long v102_L7), .second, .val (.int cc), .val (.ref w_NE), .unset] [(.int cc)])) _
        refine XS.ifNo X113.here hx rfl (hb hby at_125) rfl ((if0 _ _).trans (feq hr115_125_0).1) ?_
        show Steps p.tables e below (T113.setTop (mkF m 128 #[.val (.int p1), .val (.long q1), .second, .val (.long q2), .second, .val (.int (1 : Int32)), .val (.int (((p1.toUInt32 >>> ((8 : Int32) &&& 31).toUInt32).toInt32) &&& (3 : Int32))), .val (.long v102_L7), .second, .val (.int cc), .val (.ref w_NE), .unset] [])) _
        refine XS.iconst X113.here hx rfl (hb hby at_128) ?_
        show Steps p.tables e below (T113.setTop (mkF m 129 #[.val (.int p1), .val (.long q1), .second, .val (.long q2), .second, .val (.int (1 : Int32)), .val (.int (((p1.toUInt32 >>> ((8 : Int32) &&& 31).toUInt32).toInt32) &&& (3 : Int32))), .val (.long v102_L7), .second, .val (.int cc), .val (.ref w_NE), .unset] [(.int (1 : Int32))])) _
        refine XS.goto X113.here hx rfl (pc0 := 129) (pc' := 133) rfl (hb hby at_129) (by decide) (by decide) ?_
        exact kt
    have P116 : ∀ t, Steps p.tables e below (T113.setTop (mkF m 133 #[.val (.int p1), .val (.long q1), .second, .val (.long q2), .second, .val (.int (1 : Int32)), .val (.int (((p1.toUInt32 >>> ((8 : Int32) &&& 31).toUInt32).toInt32) &&& (3 : Int32))), .val (.long v102_L7), .second, .val (.int cc), .val (.ref w_NE), .unset] [(.int ex1)])) t → Steps p.tables e below (s₁.setTop (entryFrame m #[(.int p1), (.long q1), (.long q2)] maxLocals)) t := fun t kt => P114 t (J115 t kt)
    obtain ⟨cq117, kq117, q117a, q117b, q117c⟩ := isOf hZ e113 E_NE
    obtain ⟨_, _, ⟨T117, L117, k117, n117⟩, -, X117, ⟨Lc117, hQ117, l117, y117, z117⟩, st117⟩ := X113.virtualBack hx (y := (⟨"com/example/probex/probex/symbolic/Relation", "test", "(JJ)Z"⟩ : MethodName)) (z := (⟨"com/example/probex/probex/symbolic/Relation", "test", "(JJ)Z"⟩ : MethodName)) hown (mvT hZ (hw _ (List.mem_of_getElem? (i := 3) rfl))) (mvT hZ (hw _ (List.mem_of_getElem? (i := 4) rfl))) (notFace_of_selects (args := #[]) (mvT hZ (hw _ (List.mem_of_getElem? (i := 6) rfl)))) (mvT hZ (hw _ (List.mem_of_getElem? (i := 6) rfl))) (mvT hZ (hw _ (List.mem_of_getElem? (i := 5) rfl))) (by decide) (backOf (W := 0)  (rmT l Z a0 hw [] w_NE (1 : Int32) q1 v102_L7 h0 E_NE O_NE (by decide)) hZ (hw _ (List.mem_of_getElem? (i := 7) rfl)) (hw _ (List.mem_of_getElem? (i := 1) rfl)) (by decide) (by decide)) q117a q117c (g := (mkF m 238 #[.val (.int p1), .val (.long q1), .second, .val (.long q2), .second, .val (.int (1 : Int32)), .val (.int (((p1.toUInt32 >>> ((8 : Int32) &&& 31).toUInt32).toInt32) &&& (3 : Int32))), .val (.long v102_L7), .second, .val (.int cc), .val (.ref w_NE), .val (.int ex1)] [(.long v102_L7), (.long q1), (.ref w_NE)])) rfl (by rw [hml]; rfl) (Steps.refl _) (argsL := [(.long q1), (.long v102_L7)]) (rest := []) (lenOf pd__JJ_Z rfl) rfl (by show 2 * 0 + _ ≤ _; exact Nat.le_of_eq rfl) (hb hby at_238) (fun _ _ => ⟨rfl, e113, (by decide : 0 + 0 ≤ _), (by decide : 0 + 0 ≤ _)⟩)
    dsimp only [Pt.U, Pt.locs, Pt.cells, Pt.slots] at X117 l117 y117 z117 st117 hQ117
    subst l117 y117 z117
    obtain ⟨rfl, rfl, e117⟩ := hQ117
    have X117 : Stand p l e room_1 s m #[(.int p1), (.long q1), (.long q2)] below meth c T117 [] 0 0 := X117
    have P118 : ∀ t, Steps p.tables e below (T117.setTop (mkF m 251 #[.val (.int p1), .val (.long q1), .second, .val (.long q2), .second, .val (.int (1 : Int32)), .val (.int (((p1.toUInt32 >>> ((8 : Int32) &&& 31).toUInt32).toInt32) &&& (3 : Int32))), .val (.long v102_L7), .second, .val (.int cc), .val (.ref w_NE), .val (.int ex1)] [(.int (1 : Int32))])) t → Steps p.tables e below (s₁.setTop (entryFrame m #[(.int p1), (.long q1), (.long q2)] maxLocals)) t := fun t kt => P116 t (by
      show Steps p.tables e below (T113.setTop (mkF m 133 #[.val (.int p1), .val (.long q1), .second, .val (.long q2), .second, .val (.int (1 : Int32)), .val (.int (((p1.toUInt32 >>> ((8 : Int32) &&& 31).toUInt32).toInt32) &&& (3 : Int32))), .val (.long v102_L7), .second, .val (.int cc), .val (.ref w_NE), .unset] [(.int ex1)])) _
      refine XS.istore X113.here hx rfl (hb hby at_133) rfl (l' := #[.val (.int p1), .val (.long q1), .second, .val (.long q2), .second, .val (.int (1 : Int32)), .val (.int (((p1.toUInt32 >>> ((8 : Int32) &&& 31).toUInt32).toInt32) &&& (3 : Int32))), .val (.long v102_L7), .second, .val (.int cc), .val (.ref w_NE), .val (.int ex1)]) rfl ?_
      show Steps p.tables e below (T113.setTop (mkF m 135 #[.val (.int p1), .val (.long q1), .second, .val (.long q2), .second, .val (.int (1 : Int32)), .val (.int (((p1.toUInt32 >>> ((8 : Int32) &&& 31).toUInt32).toInt32) &&& (3 : Int32))), .val (.long v102_L7), .second, .val (.int cc), .val (.ref w_NE), .val (.int ex1)] [])) _
      refine XS.goto X113.here hx rfl (pc0 := 135) (pc' := 233) rfl (hb hby at_135) (by decide) (by decide) ?_
      show Steps p.tables e below (T113.setTop (mkF m 233 #[.val (.int p1), .val (.long q1), .second, .val (.long q2), .second, .val (.int (1 : Int32)), .val (.int (((p1.toUInt32 >>> ((8 : Int32) &&& 31).toUInt32).toInt32) &&& (3 : Int32))), .val (.long v102_L7), .second, .val (.int cc), .val (.ref w_NE), .val (.int ex1)] [])) _
      refine XS.aload X113.here hx rfl (hb hby at_233) rfl rfl ?_
      show Steps p.tables e below (T113.setTop (mkF m 235 #[.val (.int p1), .val (.long q1), .second, .val (.long q2), .second, .val (.int (1 : Int32)), .val (.int (((p1.toUInt32 >>> ((8 : Int32) &&& 31).toUInt32).toInt32) &&& (3 : Int32))), .val (.long v102_L7), .second, .val (.int cc), .val (.ref w_NE), .val (.int ex1)] [(.ref w_NE)])) _
      refine XS.lloadN X113.here hx rfl (hb hby at_235) rfl ?_
      show Steps p.tables e below (T113.setTop (mkF m 236 #[.val (.int p1), .val (.long q1), .second, .val (.long q2), .second, .val (.int (1 : Int32)), .val (.int (((p1.toUInt32 >>> ((8 : Int32) &&& 31).toUInt32).toInt32) &&& (3 : Int32))), .val (.long v102_L7), .second, .val (.int cc), .val (.ref w_NE), .val (.int ex1)] [(.long q1), (.ref w_NE)])) _
      refine XS.lload X113.here hx rfl (hb hby at_236) rfl ?_
      show Steps p.tables e below (T113.setTop (mkF m 238 #[.val (.int p1), .val (.long q1), .second, .val (.long q2), .second, .val (.int (1 : Int32)), .val (.int (((p1.toUInt32 >>> ((8 : Int32) &&& 31).toUInt32).toInt32) &&& (3 : Int32))), .val (.long v102_L7), .second, .val (.int cc), .val (.ref w_NE), .val (.int ex1)] [(.long v102_L7), (.long q1), (.ref w_NE)])) _
      refine st117.trans ?_
      show Steps p.tables e below (T117.setTop (mkF m 241 #[.val (.int p1), .val (.long q1), .second, .val (.long q2), .second, .val (.int (1 : Int32)), .val (.int (((p1.toUInt32 >>> ((8 : Int32) &&& 31).toUInt32).toInt32) &&& (3 : Int32))), .val (.long v102_L7), .second, .val (.int cc), .val (.ref w_NE), .val (.int ex1)] [(.int (tst (1 : Int32) q1 v102_L7))])) _
      refine XS.iload X117.here hx rfl (hb hby at_241) rfl ?_
      show Steps p.tables e below (T117.setTop (mkF m 243 #[.val (.int p1), .val (.long q1), .second, .val (.long q2), .second, .val (.int (1 : Int32)), .val (.int (((p1.toUInt32 >>> ((8 : Int32) &&& 31).toUInt32).toInt32) &&& (3 : Int32))), .val (.long v102_L7), .second, .val (.int cc), .val (.ref w_NE), .val (.int ex1)] [(.int ex1), (.int (tst (1 : Int32) q1 v102_L7))])) _
      refine XS.icmpNo X117.here hx rfl (hb hby at_243) rfl (teq (own_e1 _ _ cc ex1 hcc hex1 : (tst (1 : Int32) q1 v102_L7) = ex1)).2 ?_
      show Steps p.tables e below (T117.setTop (mkF m 246 #[.val (.int p1), .val (.long q1), .second, .val (.long q2), .second, .val (.int (1 : Int32)), .val (.int (((p1.toUInt32 >>> ((8 : Int32) &&& 31).toUInt32).toInt32) &&& (3 : Int32))), .val (.long v102_L7), .second, .val (.int cc), .val (.ref w_NE), .val (.int ex1)] [])) _
      refine XS.iconst X117.here hx rfl (hb hby at_246) ?_
      show Steps p.tables e below (T117.setTop (mkF m 247 #[.val (.int p1), .val (.long q1), .second, .val (.long q2), .second, .val (.int (1 : Int32)), .val (.int (((p1.toUInt32 >>> ((8 : Int32) &&& 31).toUInt32).toInt32) &&& (3 : Int32))), .val (.long v102_L7), .second, .val (.int cc), .val (.ref w_NE), .val (.int ex1)] [(.int (1 : Int32))])) _
      refine XS.goto X117.here hx rfl (pc0 := 247) (pc' := 251) rfl (hb hby at_247) (by decide) (by decide) ?_
      exact kt)
    obtain ⟨fs, hr, hrun, hended, hW, hsame⟩ := X117.leave (v := some (.int (1 : Int32))) (fun h => by rw [Bd.returns] at h; cases h) (hlocks := hlk)
    refine ⟨_, _, P118 _ ?_, hrun, hended, _, _, rfl, ?_, ⟨_, rfl⟩, hW, hsame.mono (by decide) (by decide)⟩
    · show Steps p.tables e below (T117.setTop (mkF m 251 #[.val (.int p1), .val (.long q1), .second, .val (.long q2), .second, .val (.int (1 : Int32)), .val (.int (((p1.toUInt32 >>> ((8 : Int32) &&& 31).toUInt32).toInt32) &&& (3 : Int32))), .val (.long v102_L7), .second, .val (.int cc), .val (.ref w_NE), .val (.int ex1)] [(.int (1 : Int32))])) _
      exact retN X117 hx (t := .boolean) Bd.returns (by simp) (hb hby at_251) hr
    · show QP _ h0 _ T117.heap _
      exact ⟨rfl, rfl, e117⟩
  · obtain ⟨T119, X119, e119, st119⟩ := getS2 X0 hx hZ hown (host := "") (Or.inl (hw _ (List.mem_of_getElem? (i := 21) rfl))) Via.refl e0 S_LT (g := (mkF m 144 #[.val (.int p1), .val (.long q1), .second, .val (.long q2), .second, .val (.int (2 : Int32)), .val (.int (((p1.toUInt32 >>> ((8 : Int32) &&& 31).toUInt32).toInt32) &&& (3 : Int32))), .val (.long v102_L7), .second, .val (.int cc), .unset, .unset] [])) rfl (hb hby at_144)
    have P120 : ∀ t, Steps p.tables e below (T119.setTop (mkF m 151 #[.val (.int p1), .val (.long q1), .second, .val (.long q2), .second, .val (.int (2 : Int32)), .val (.int (((p1.toUInt32 >>> ((8 : Int32) &&& 31).toUInt32).toInt32) &&& (3 : Int32))), .val (.long v102_L7), .second, .val (.int cc), .val (.ref w_LT), .unset] [(.int cc)])) t → Steps p.tables e below (s₁.setTop (entryFrame m #[(.int p1), (.long q1), (.long q2)] maxLocals)) t := fun t kt => P106 t (by
      show Steps p.tables e below (s₁.setTop (mkF m 87 #[.val (.int p1), .val (.long q1), .second, .val (.long q2), .second, .val (.int (2 : Int32)), .val (.int (((p1.toUInt32 >>> ((8 : Int32) &&& 31).toUInt32).toInt32) &&& (3 : Int32))), .val (.long v102_L7), .second, .val (.int cc), .unset, .unset] [])) _
      refine XS.iload X0.here hx rfl (hb hby at_87) rfl ?_
      show Steps p.tables e below (s₁.setTop (mkF m 89 #[.val (.int p1), .val (.long q1), .second, .val (.long q2), .second, .val (.int (2 : Int32)), .val (.int (((p1.toUInt32 >>> ((8 : Int32) &&& 31).toUInt32).toInt32) &&& (3 : Int32))), .val (.long v102_L7), .second, .val (.int cc), .unset, .unset] [(.int (2 : Int32))])) _
      refine XS.ifYes X0.here hx rfl (pc0 := 89) (pc' := 112) rfl (hb hby at_89) rfl ((if0 _ _).trans (feq ((by decide) : ¬ ((2 : Int32) = (0 : Int32)))).2) (by decide) (by decide) ?_
      show Steps p.tables e below (s₁.setTop (mkF m 112 #[.val (.int p1), .val (.long q1), .second, .val (.long q2), .second, .val (.int (2 : Int32)), .val (.int (((p1.toUInt32 >>> ((8 : Int32) &&& 31).toUInt32).toInt32) &&& (3 : Int32))), .val (.long v102_L7), .second, .val (.int cc), .unset, .unset] [])) _
      refine XS.iload X0.here hx rfl (hb hby at_112) rfl ?_
      show Steps p.tables e below (s₁.setTop (mkF m 114 #[.val (.int p1), .val (.long q1), .second, .val (.long q2), .second, .val (.int (2 : Int32)), .val (.int (((p1.toUInt32 >>> ((8 : Int32) &&& 31).toUInt32).toInt32) &&& (3 : Int32))), .val (.long v102_L7), .second, .val (.int cc), .unset, .unset] [(.int (2 : Int32))])) _
      refine XS.iconst X0.here hx rfl (hb hby at_114) ?_
      show Steps p.tables e below (s₁.setTop (mkF m 115 #[.val (.int p1), .val (.long q1), .second, .val (.long q2), .second, .val (.int (2 : Int32)), .val (.int (((p1.toUInt32 >>> ((8 : Int32) &&& 31).toUInt32).toInt32) &&& (3 : Int32))), .val (.long v102_L7), .second, .val (.int cc), .unset, .unset] [(.int (1 : Int32)), (.int (2 : Int32))])) _
      refine XS.icmpYes X0.here hx rfl (pc0 := 115) (pc' := 138) rfl (hb hby at_115) rfl (feq ((by decide) : ¬ ((2 : Int32) = (1 : Int32)))).2 (by decide) (by decide) ?_
      show Steps p.tables e below (s₁.setTop (mkF m 138 #[.val (.int p1), .val (.long q1), .second, .val (.long q2), .second, .val (.int (2 : Int32)), .val (.int (((p1.toUInt32 >>> ((8 : Int32) &&& 31).toUInt32).toInt32) &&& (3 : Int32))), .val (.long v102_L7), .second, .val (.int cc), .unset, .unset] [])) _
      refine XS.iload X0.here hx rfl (hb hby at_138) rfl ?_
      show Steps p.tables e below (s₁.setTop (mkF m 140 #[.val (.int p1), .val (.long q1), .second, .val (.long q2), .second, .val (.int (2 : Int32)), .val (.int (((p1.toUInt32 >>> ((8 : Int32) &&& 31).toUInt32).toInt32) &&& (3 : Int32))), .val (.long v102_L7), .second, .val (.int cc), .unset, .unset] [(.int (2 : Int32))])) _
      refine XS.iconst X0.here hx rfl (hb hby at_140) ?_
      show Steps p.tables e below (s₁.setTop (mkF m 141 #[.val (.int p1), .val (.long q1), .second, .val (.long q2), .second, .val (.int (2 : Int32)), .val (.int (((p1.toUInt32 >>> ((8 : Int32) &&& 31).toUInt32).toInt32) &&& (3 : Int32))), .val (.long v102_L7), .second, .val (.int cc), .unset, .unset] [(.int (2 : Int32)), (.int (2 : Int32))])) _
      refine XS.icmpNo X0.here hx rfl (hb hby at_141) rfl (teq ((by decide) : (2 : Int32) = (2 : Int32))).2 ?_
      show Steps p.tables e below (s₁.setTop (mkF m 144 #[.val (.int p1), .val (.long q1), .second, .val (.long q2), .second, .val (.int (2 : Int32)), .val (.int (((p1.toUInt32 >>> ((8 : Int32) &&& 31).toUInt32).toInt32) &&& (3 : Int32))), .val (.long v102_L7), .second, .val (.int cc), .unset, .unset] [])) _
      refine st119 _ ?_
      show Steps p.tables e below (T119.setTop (mkF m 147 #[.val (.int p1), .val (.long q1), .second, .val (.long q2), .second, .val (.int (2 : Int32)), .val (.int (((p1.toUInt32 >>> ((8 : Int32) &&& 31).toUInt32).toInt32) &&& (3 : Int32))), .val (.long v102_L7), .second, .val (.int cc), .unset, .unset] [(.ref w_LT)])) _
      refine XS.astore X119.here hx rfl (hb hby at_147) rfl rfl (l' := #[.val (.int p1), .val (.long q1), .second, .val (.long q2), .second, .val (.int (2 : Int32)), .val (.int (((p1.toUInt32 >>> ((8 : Int32) &&& 31).toUInt32).toInt32) &&& (3 : Int32))), .val (.long v102_L7), .second, .val (.int cc), .val (.ref w_LT), .unset]) rfl ?_
      show Steps p.tables e below (T119.setTop (mkF m 149 #[.val (.int p1), .val (.long q1), .second, .val (.long q2), .second, .val (.int (2 : Int32)), .val (.int (((p1.toUInt32 >>> ((8 : Int32) &&& 31).toUInt32).toInt32) &&& (3 : Int32))), .val (.long v102_L7), .second, .val (.int cc), .val (.ref w_LT), .unset] [])) _
      refine XS.iload X119.here hx rfl (hb hby at_149) rfl ?_
      exact kt)
    obtain ⟨ex2, hex2⟩ : ∃ z : Int32, z = (if cc < (0 : Int32) then (1 : Int32) else (0 : Int32)) := ⟨_, rfl⟩
    have J121 : ∀ t, Steps p.tables e below (T119.setTop (mkF m 159 #[.val (.int p1), .val (.long q1), .second, .val (.long q2), .second, .val (.int (2 : Int32)), .val (.int (((p1.toUInt32 >>> ((8 : Int32) &&& 31).toUInt32).toInt32) &&& (3 : Int32))), .val (.long v102_L7), .second, .val (.int cc), .val (.ref w_LT), .unset] [(.int ex2)])) t → Steps p.tables e below (T119.setTop (mkF m 151 #[.val (.int p1), .val (.long q1), .second, .val (.long q2), .second, .val (.int (2 : Int32)), .val (.int (((p1.toUInt32 >>> ((8 : Int32) &&& 31).toUInt32).toInt32) &&& (3 : Int32))), .val (.long v102_L7), .second, .val (.int cc), .val (.ref w_LT), .unset] [(.int cc)])) t := by
      intro t kt
      by_cases hr121_151_0 : cc < (0 : Int32)
      · have evex2 : ex2 = (1 : Int32) := by rw [hex2, if_pos hr121_151_0]
        rw [evex2] at kt
        show Steps p.tables e below (T119.setTop (mkF m 151 #[.val (.int p1), .val (.long q1), .second, .val (.long q2), .second, .val (.int (2 : Int32)), .val (.int (((p1.toUInt32 >>> ((8 : Int32) &&& 31).toUInt32).toInt32) &&& (3 : Int32))), .val (.long v102_L7), .second, .val (.int cc), .val (.ref w_LT), .unset] [(.int cc)])) _
        refine XS.ifNo X119.here hx rfl (hb hby at_151) rfl ((if0 _ _).trans (tlt hr121_151_0).2.1) ?_
        show Steps p.tables e below (T119.setTop (mkF m 154 #[.val (.int p1), .val (.long q1), .second, .val (.long q2), .second, .val (.int (2 : Int32)), .val (.int (((p1.toUInt32 >>> ((8 : Int32) &&& 31).toUInt32).toInt32) &&& (3 : Int32))), .val (.long v102_L7), .second, .val (.int cc), .val (.ref w_LT), .unset] [])) _
        refine XS.iconst X119.here hx rfl (hb hby at_154) ?_
        show Steps p.tables e below (T119.setTop (mkF m 155 #[.val (.int p1), .val (.long q1), .second, .val (.long q2), .second, .val (.int (2 : Int32)), .val (.int (((p1.toUInt32 >>> ((8 : Int32) &&& 31).toUInt32).toInt32) &&& (3 : Int32))), .val (.long v102_L7), .second, .val (.int cc), .val (.ref w_LT), .unset] [(.int (1 : Int32))])) _
        refine XS.goto X119.here hx rfl (pc0 := 155) (pc' := 159) rfl (hb hby at_155) (by decide) (by decide) ?_
        exact kt
      · have evex2 : ex2 = (0 : Int32) := by rw [hex2, if_neg hr121_151_0]
        rw [evex2] at kt
        show Steps p.tables e below (T119.setTop (mkF m 151 #[.val (.int p1), .val (.long q1), .second, .val (.long q2), .second, .val (.int (2 : Int32)), .val (.int (((p1.toUInt32 >>> ((8 : Int32) &&& 31).toUInt32).toInt32) &&& (3 : Int32))), .val (.long v102_L7), .second, .val (.int cc), .val (.ref w_LT), .unset] [(.int cc)])) _
        refine XS.ifYes X119.here hx rfl (pc0 := 151) (pc' := 158) rfl (hb hby at_151) rfl ((if0 _ _).trans (flt hr121_151_0).2.1) (by decide) (by decide) ?_
        show Steps p.tables e below (T119.setTop (mkF m 158 #[.val (.int p1), .val (.long q1), .second, .val (.long q2), .second, .val (.int (2 : Int32)), .val (.int (((p1.toUInt32 >>> ((8 : Int32) &&& 31).toUInt32).toInt32) &&& (3 : Int32))), .val (.long v102_L7), .second, .val (.int cc), .val (.ref w_LT), .unset] [])) _
        refine XS.iconst X119.here hx rfl (hb hby at_158) ?_
        exact kt
    have P122 : ∀ t, Steps p.tables e below (T119.setTop (mkF m 159 #[.val (.int p1), .val (.long q1), .second, .val (.long q2), .second, .val (.int (2 : Int32)), .val (.int (((p1.toUInt32 >>> ((8 : Int32) &&& 31).toUInt32).toInt32) &&& (3 : Int32))), .val (.long v102_L7), .second, .val (.int cc), .val (.ref w_LT), .unset] [(.int ex2)])) t → Steps p.tables e below (s₁.setTop (entryFrame m #[(.int p1), (.long q1), (.long q2)] maxLocals)) t := fun t kt => P120 t (J121 t kt)
    obtain ⟨cq123, kq123, q123a, q123b, q123c⟩ := isOf hZ e119 E_LT
    obtain ⟨_, _, ⟨T123, L123, k123, n123⟩, -, X123, ⟨Lc123, hQ123, l123, y123, z123⟩, st123⟩ := X119.virtualBack hx (y := (⟨"com/example/probex/probex/symbolic/Relation", "test", "(JJ)Z"⟩ : MethodName)) (z := (⟨"com/example/probex/probex/symbolic/Relation", "test", "(JJ)Z"⟩ : MethodName)) hown (mvT hZ (hw _ (List.mem_of_getElem? (i := 3) rfl))) (mvT hZ (hw _ (List.mem_of_getElem? (i := 4) rfl))) (notFace_of_selects (args := #[]) (mvT hZ (hw _ (List.mem_of_getElem? (i := 6) rfl)))) (mvT hZ (hw _ (List.mem_of_getElem? (i := 6) rfl))) (mvT hZ (hw _ (List.mem_of_getElem? (i := 5) rfl))) (by decide) (backOf (W := 0)  (rmT l Z a0 hw [] w_LT (2 : Int32) q1 v102_L7 h0 E_LT O_LT (by decide)) hZ (hw _ (List.mem_of_getElem? (i := 7) rfl)) (hw _ (List.mem_of_getElem? (i := 1) rfl)) (by decide) (by decide)) q123a q123c (g := (mkF m 238 #[.val (.int p1), .val (.long q1), .second, .val (.long q2), .second, .val (.int (2 : Int32)), .val (.int (((p1.toUInt32 >>> ((8 : Int32) &&& 31).toUInt32).toInt32) &&& (3 : Int32))), .val (.long v102_L7), .second, .val (.int cc), .val (.ref w_LT), .val (.int ex2)] [(.long v102_L7), (.long q1), (.ref w_LT)])) rfl (by rw [hml]; rfl) (Steps.refl _) (argsL := [(.long q1), (.long v102_L7)]) (rest := []) (lenOf pd__JJ_Z rfl) rfl (by show 2 * 0 + _ ≤ _; exact Nat.le_of_eq rfl) (hb hby at_238) (fun _ _ => ⟨rfl, e119, (by decide : 0 + 0 ≤ _), (by decide : 0 + 0 ≤ _)⟩)
    dsimp only [Pt.U, Pt.locs, Pt.cells, Pt.slots] at X123 l123 y123 z123 st123 hQ123
    subst l123 y123 z123
    obtain ⟨rfl, rfl, e123⟩ := hQ123
    have X123 : Stand p l e room_1 s m #[(.int p1), (.long q1), (.long q2)] below meth c T123 [] 0 0 := X123
    have P124 : ∀ t, Steps p.tables e below (T123.setTop (mkF m 251 #[.val (.int p1), .val (.long q1), .second, .val (.long q2), .second, .val (.int (2 : Int32)), .val (.int (((p1.toUInt32 >>> ((8 : Int32) &&& 31).toUInt32).toInt32) &&& (3 : Int32))), .val (.long v102_L7), .second, .val (.int cc), .val (.ref w_LT), .val (.int ex2)] [(.int (1 : Int32))])) t → Steps p.tables e below (s₁.setTop (entryFrame m #[(.int p1), (.long q1), (.long q2)] maxLocals)) t := fun t kt => P122 t (by
      show Steps p.tables e below (T119.setTop (mkF m 159 #[.val (.int p1), .val (.long q1), .second, .val (.long q2), .second, .val (.int (2 : Int32)), .val (.int (((p1.toUInt32 >>> ((8 : Int32) &&& 31).toUInt32).toInt32) &&& (3 : Int32))), .val (.long v102_L7), .second, .val (.int cc), .val (.ref w_LT), .unset] [(.int ex2)])) _
      refine XS.istore X119.here hx rfl (hb hby at_159) rfl (l' := #[.val (.int p1), .val (.long q1), .second, .val (.long q2), .second, .val (.int (2 : Int32)), .val (.int (((p1.toUInt32 >>> ((8 : Int32) &&& 31).toUInt32).toInt32) &&& (3 : Int32))), .val (.long v102_L7), .second, .val (.int cc), .val (.ref w_LT), .val (.int ex2)]) rfl ?_
      show Steps p.tables e below (T119.setTop (mkF m 161 #[.val (.int p1), .val (.long q1), .second, .val (.long q2), .second, .val (.int (2 : Int32)), .val (.int (((p1.toUInt32 >>> ((8 : Int32) &&& 31).toUInt32).toInt32) &&& (3 : Int32))), .val (.long v102_L7), .second, .val (.int cc), .val (.ref w_LT), .val (.int ex2)] [])) _
      refine XS.goto X119.here hx rfl (pc0 := 161) (pc' := 233) rfl (hb hby at_161) (by decide) (by decide) ?_
      show Steps p.tables e below (T119.setTop (mkF m 233 #[.val (.int p1), .val (.long q1), .second, .val (.long q2), .second, .val (.int (2 : Int32)), .val (.int (((p1.toUInt32 >>> ((8 : Int32) &&& 31).toUInt32).toInt32) &&& (3 : Int32))), .val (.long v102_L7), .second, .val (.int cc), .val (.ref w_LT), .val (.int ex2)] [])) _
      refine XS.aload X119.here hx rfl (hb hby at_233) rfl rfl ?_
      show Steps p.tables e below (T119.setTop (mkF m 235 #[.val (.int p1), .val (.long q1), .second, .val (.long q2), .second, .val (.int (2 : Int32)), .val (.int (((p1.toUInt32 >>> ((8 : Int32) &&& 31).toUInt32).toInt32) &&& (3 : Int32))), .val (.long v102_L7), .second, .val (.int cc), .val (.ref w_LT), .val (.int ex2)] [(.ref w_LT)])) _
      refine XS.lloadN X119.here hx rfl (hb hby at_235) rfl ?_
      show Steps p.tables e below (T119.setTop (mkF m 236 #[.val (.int p1), .val (.long q1), .second, .val (.long q2), .second, .val (.int (2 : Int32)), .val (.int (((p1.toUInt32 >>> ((8 : Int32) &&& 31).toUInt32).toInt32) &&& (3 : Int32))), .val (.long v102_L7), .second, .val (.int cc), .val (.ref w_LT), .val (.int ex2)] [(.long q1), (.ref w_LT)])) _
      refine XS.lload X119.here hx rfl (hb hby at_236) rfl ?_
      show Steps p.tables e below (T119.setTop (mkF m 238 #[.val (.int p1), .val (.long q1), .second, .val (.long q2), .second, .val (.int (2 : Int32)), .val (.int (((p1.toUInt32 >>> ((8 : Int32) &&& 31).toUInt32).toInt32) &&& (3 : Int32))), .val (.long v102_L7), .second, .val (.int cc), .val (.ref w_LT), .val (.int ex2)] [(.long v102_L7), (.long q1), (.ref w_LT)])) _
      refine st123.trans ?_
      show Steps p.tables e below (T123.setTop (mkF m 241 #[.val (.int p1), .val (.long q1), .second, .val (.long q2), .second, .val (.int (2 : Int32)), .val (.int (((p1.toUInt32 >>> ((8 : Int32) &&& 31).toUInt32).toInt32) &&& (3 : Int32))), .val (.long v102_L7), .second, .val (.int cc), .val (.ref w_LT), .val (.int ex2)] [(.int (tst (2 : Int32) q1 v102_L7))])) _
      refine XS.iload X123.here hx rfl (hb hby at_241) rfl ?_
      show Steps p.tables e below (T123.setTop (mkF m 243 #[.val (.int p1), .val (.long q1), .second, .val (.long q2), .second, .val (.int (2 : Int32)), .val (.int (((p1.toUInt32 >>> ((8 : Int32) &&& 31).toUInt32).toInt32) &&& (3 : Int32))), .val (.long v102_L7), .second, .val (.int cc), .val (.ref w_LT), .val (.int ex2)] [(.int ex2), (.int (tst (2 : Int32) q1 v102_L7))])) _
      refine XS.icmpNo X123.here hx rfl (hb hby at_243) rfl (teq (own_e2 _ _ cc ex2 hcc hex2 : (tst (2 : Int32) q1 v102_L7) = ex2)).2 ?_
      show Steps p.tables e below (T123.setTop (mkF m 246 #[.val (.int p1), .val (.long q1), .second, .val (.long q2), .second, .val (.int (2 : Int32)), .val (.int (((p1.toUInt32 >>> ((8 : Int32) &&& 31).toUInt32).toInt32) &&& (3 : Int32))), .val (.long v102_L7), .second, .val (.int cc), .val (.ref w_LT), .val (.int ex2)] [])) _
      refine XS.iconst X123.here hx rfl (hb hby at_246) ?_
      show Steps p.tables e below (T123.setTop (mkF m 247 #[.val (.int p1), .val (.long q1), .second, .val (.long q2), .second, .val (.int (2 : Int32)), .val (.int (((p1.toUInt32 >>> ((8 : Int32) &&& 31).toUInt32).toInt32) &&& (3 : Int32))), .val (.long v102_L7), .second, .val (.int cc), .val (.ref w_LT), .val (.int ex2)] [(.int (1 : Int32))])) _
      refine XS.goto X123.here hx rfl (pc0 := 247) (pc' := 251) rfl (hb hby at_247) (by decide) (by decide) ?_
      exact kt)
    obtain ⟨fs, hr, hrun, hended, hW, hsame⟩ := X123.leave (v := some (.int (1 : Int32))) (fun h => by rw [Bd.returns] at h; cases h) (hlocks := hlk)
    refine ⟨_, _, P124 _ ?_, hrun, hended, _, _, rfl, ?_, ⟨_, rfl⟩, hW, hsame.mono (by decide) (by decide)⟩
    · show Steps p.tables e below (T123.setTop (mkF m 251 #[.val (.int p1), .val (.long q1), .second, .val (.long q2), .second, .val (.int (2 : Int32)), .val (.int (((p1.toUInt32 >>> ((8 : Int32) &&& 31).toUInt32).toInt32) &&& (3 : Int32))), .val (.long v102_L7), .second, .val (.int cc), .val (.ref w_LT), .val (.int ex2)] [(.int (1 : Int32))])) _
      exact retN X123 hx (t := .boolean) Bd.returns (by simp) (hb hby at_251) hr
    · show QP _ h0 _ T123.heap _
      exact ⟨rfl, rfl, e123⟩
  · obtain ⟨T125, X125, e125, st125⟩ := getS2 X0 hx hZ hown (host := "") (Or.inl (hw _ (List.mem_of_getElem? (i := 19) rfl))) Via.refl e0 S_GE (g := (mkF m 170 #[.val (.int p1), .val (.long q1), .second, .val (.long q2), .second, .val (.int (3 : Int32)), .val (.int (((p1.toUInt32 >>> ((8 : Int32) &&& 31).toUInt32).toInt32) &&& (3 : Int32))), .val (.long v102_L7), .second, .val (.int cc), .unset, .unset] [])) rfl (hb hby at_170)
    have P126 : ∀ t, Steps p.tables e below (T125.setTop (mkF m 177 #[.val (.int p1), .val (.long q1), .second, .val (.long q2), .second, .val (.int (3 : Int32)), .val (.int (((p1.toUInt32 >>> ((8 : Int32) &&& 31).toUInt32).toInt32) &&& (3 : Int32))), .val (.long v102_L7), .second, .val (.int cc), .val (.ref w_GE), .unset] [(.int cc)])) t → Steps p.tables e below (s₁.setTop (entryFrame m #[(.int p1), (.long q1), (.long q2)] maxLocals)) t := fun t kt => P106 t (by
      show Steps p.tables e below (s₁.setTop (mkF m 87 #[.val (.int p1), .val (.long q1), .second, .val (.long q2), .second, .val (.int (3 : Int32)), .val (.int (((p1.toUInt32 >>> ((8 : Int32) &&& 31).toUInt32).toInt32) &&& (3 : Int32))), .val (.long v102_L7), .second, .val (.int cc), .unset, .unset] [])) _
      refine XS.iload X0.here hx rfl (hb hby at_87) rfl ?_
      show Steps p.tables e below (s₁.setTop (mkF m 89 #[.val (.int p1), .val (.long q1), .second, .val (.long q2), .second, .val (.int (3 : Int32)), .val (.int (((p1.toUInt32 >>> ((8 : Int32) &&& 31).toUInt32).toInt32) &&& (3 : Int32))), .val (.long v102_L7), .second, .val (.int cc), .unset, .unset] [(.int (3 : Int32))])) _
      refine XS.ifYes X0.here hx rfl (pc0 := 89) (pc' := 112) rfl (hb hby at_89) rfl ((if0 _ _).trans (feq ((by decide) : ¬ ((3 : Int32) = (0 : Int32)))).2) (by decide) (by decide) ?_
      show Steps p.tables e below (s₁.setTop (mkF m 112 #[.val (.int p1), .val (.long q1), .second, .val (.long q2), .second, .val (.int (3 : Int32)), .val (.int (((p1.toUInt32 >>> ((8 : Int32) &&& 31).toUInt32).toInt32) &&& (3 : Int32))), .val (.long v102_L7), .second, .val (.int cc), .unset, .unset] [])) _
      refine XS.iload X0.here hx rfl (hb hby at_112) rfl ?_
      show Steps p.tables e below (s₁.setTop (mkF m 114 #[.val (.int p1), .val (.long q1), .second, .val (.long q2), .second, .val (.int (3 : Int32)), .val (.int (((p1.toUInt32 >>> ((8 : Int32) &&& 31).toUInt32).toInt32) &&& (3 : Int32))), .val (.long v102_L7), .second, .val (.int cc), .unset, .unset] [(.int (3 : Int32))])) _
      refine XS.iconst X0.here hx rfl (hb hby at_114) ?_
      show Steps p.tables e below (s₁.setTop (mkF m 115 #[.val (.int p1), .val (.long q1), .second, .val (.long q2), .second, .val (.int (3 : Int32)), .val (.int (((p1.toUInt32 >>> ((8 : Int32) &&& 31).toUInt32).toInt32) &&& (3 : Int32))), .val (.long v102_L7), .second, .val (.int cc), .unset, .unset] [(.int (1 : Int32)), (.int (3 : Int32))])) _
      refine XS.icmpYes X0.here hx rfl (pc0 := 115) (pc' := 138) rfl (hb hby at_115) rfl (feq ((by decide) : ¬ ((3 : Int32) = (1 : Int32)))).2 (by decide) (by decide) ?_
      show Steps p.tables e below (s₁.setTop (mkF m 138 #[.val (.int p1), .val (.long q1), .second, .val (.long q2), .second, .val (.int (3 : Int32)), .val (.int (((p1.toUInt32 >>> ((8 : Int32) &&& 31).toUInt32).toInt32) &&& (3 : Int32))), .val (.long v102_L7), .second, .val (.int cc), .unset, .unset] [])) _
      refine XS.iload X0.here hx rfl (hb hby at_138) rfl ?_
      show Steps p.tables e below (s₁.setTop (mkF m 140 #[.val (.int p1), .val (.long q1), .second, .val (.long q2), .second, .val (.int (3 : Int32)), .val (.int (((p1.toUInt32 >>> ((8 : Int32) &&& 31).toUInt32).toInt32) &&& (3 : Int32))), .val (.long v102_L7), .second, .val (.int cc), .unset, .unset] [(.int (3 : Int32))])) _
      refine XS.iconst X0.here hx rfl (hb hby at_140) ?_
      show Steps p.tables e below (s₁.setTop (mkF m 141 #[.val (.int p1), .val (.long q1), .second, .val (.long q2), .second, .val (.int (3 : Int32)), .val (.int (((p1.toUInt32 >>> ((8 : Int32) &&& 31).toUInt32).toInt32) &&& (3 : Int32))), .val (.long v102_L7), .second, .val (.int cc), .unset, .unset] [(.int (2 : Int32)), (.int (3 : Int32))])) _
      refine XS.icmpYes X0.here hx rfl (pc0 := 141) (pc' := 164) rfl (hb hby at_141) rfl (feq ((by decide) : ¬ ((3 : Int32) = (2 : Int32)))).2 (by decide) (by decide) ?_
      show Steps p.tables e below (s₁.setTop (mkF m 164 #[.val (.int p1), .val (.long q1), .second, .val (.long q2), .second, .val (.int (3 : Int32)), .val (.int (((p1.toUInt32 >>> ((8 : Int32) &&& 31).toUInt32).toInt32) &&& (3 : Int32))), .val (.long v102_L7), .second, .val (.int cc), .unset, .unset] [])) _
      refine XS.iload X0.here hx rfl (hb hby at_164) rfl ?_
      show Steps p.tables e below (s₁.setTop (mkF m 166 #[.val (.int p1), .val (.long q1), .second, .val (.long q2), .second, .val (.int (3 : Int32)), .val (.int (((p1.toUInt32 >>> ((8 : Int32) &&& 31).toUInt32).toInt32) &&& (3 : Int32))), .val (.long v102_L7), .second, .val (.int cc), .unset, .unset] [(.int (3 : Int32))])) _
      refine XS.iconst X0.here hx rfl (hb hby at_166) ?_
      show Steps p.tables e below (s₁.setTop (mkF m 167 #[.val (.int p1), .val (.long q1), .second, .val (.long q2), .second, .val (.int (3 : Int32)), .val (.int (((p1.toUInt32 >>> ((8 : Int32) &&& 31).toUInt32).toInt32) &&& (3 : Int32))), .val (.long v102_L7), .second, .val (.int cc), .unset, .unset] [(.int (3 : Int32)), (.int (3 : Int32))])) _
      refine XS.icmpNo X0.here hx rfl (hb hby at_167) rfl (teq ((by decide) : (3 : Int32) = (3 : Int32))).2 ?_
      show Steps p.tables e below (s₁.setTop (mkF m 170 #[.val (.int p1), .val (.long q1), .second, .val (.long q2), .second, .val (.int (3 : Int32)), .val (.int (((p1.toUInt32 >>> ((8 : Int32) &&& 31).toUInt32).toInt32) &&& (3 : Int32))), .val (.long v102_L7), .second, .val (.int cc), .unset, .unset] [])) _
      refine st125 _ ?_
      show Steps p.tables e below (T125.setTop (mkF m 173 #[.val (.int p1), .val (.long q1), .second, .val (.long q2), .second, .val (.int (3 : Int32)), .val (.int (((p1.toUInt32 >>> ((8 : Int32) &&& 31).toUInt32).toInt32) &&& (3 : Int32))), .val (.long v102_L7), .second, .val (.int cc), .unset, .unset] [(.ref w_GE)])) _
      refine XS.astore X125.here hx rfl (hb hby at_173) rfl rfl (l' := #[.val (.int p1), .val (.long q1), .second, .val (.long q2), .second, .val (.int (3 : Int32)), .val (.int (((p1.toUInt32 >>> ((8 : Int32) &&& 31).toUInt32).toInt32) &&& (3 : Int32))), .val (.long v102_L7), .second, .val (.int cc), .val (.ref w_GE), .unset]) rfl ?_
      show Steps p.tables e below (T125.setTop (mkF m 175 #[.val (.int p1), .val (.long q1), .second, .val (.long q2), .second, .val (.int (3 : Int32)), .val (.int (((p1.toUInt32 >>> ((8 : Int32) &&& 31).toUInt32).toInt32) &&& (3 : Int32))), .val (.long v102_L7), .second, .val (.int cc), .val (.ref w_GE), .unset] [])) _
      refine XS.iload X125.here hx rfl (hb hby at_175) rfl ?_
      exact kt)
    obtain ⟨ex3, hex3⟩ : ∃ z : Int32, z = (if cc < (0 : Int32) then (0 : Int32) else (1 : Int32)) := ⟨_, rfl⟩
    have J127 : ∀ t, Steps p.tables e below (T125.setTop (mkF m 185 #[.val (.int p1), .val (.long q1), .second, .val (.long q2), .second, .val (.int (3 : Int32)), .val (.int (((p1.toUInt32 >>> ((8 : Int32) &&& 31).toUInt32).toInt32) &&& (3 : Int32))), .val (.long v102_L7), .second, .val (.int cc), .val (.ref w_GE), .unset] [(.int ex3)])) t → Steps p.tables e below (T125.setTop (mkF m 177 #[.val (.int p1), .val (.long q1), .second, .val (.long q2), .second, .val (.int (3 : Int32)), .val (.int (((p1.toUInt32 >>> ((8 : Int32) &&& 31).toUInt32).toInt32) &&& (3 : Int32))), .val (.long v102_L7), .second, .val (.int cc), .val (.ref w_GE), .unset] [(.int cc)])) t := by
      intro t kt
      by_cases hr127_177_0 : cc < (0 : Int32)
      · have evex3 : ex3 = (0 : Int32) := by rw [hex3, if_pos hr127_177_0]
        rw [evex3] at kt
        show Steps p.tables e below (T125.setTop (mkF m 177 #[.val (.int p1), .val (.long q1), .second, .val (.long q2), .second, .val (.int (3 : Int32)), .val (.int (((p1.toUInt32 >>> ((8 : Int32) &&& 31).toUInt32).toInt32) &&& (3 : Int32))), .val (.long v102_L7), .second, .val (.int cc), .val (.ref w_GE), .unset] [(.int cc)])) _
        refine XS.ifYes X125.here hx rfl (pc0 := 177) (pc' := 184) rfl (hb hby at_177) rfl ((if0 _ _).trans (tlt hr127_177_0).1) (by decide) (by decide) ?_
        show Steps p.tables e below (T125.setTop (mkF m 184 #[.val (.int p1), .val (.long q1), .second, .val (.long q2), .second, .val (.int (3 : Int32)), .val (.int (((p1.toUInt32 >>> ((8 : Int32) &&& 31).toUInt32).toInt32) &&& (3 : Int32))), .val (.long v102_L7), .second, .val (.int cc), .val (.ref w_GE), .unset] [])) _
        refine XS.iconst X125.here hx rfl (hb hby at_184) ?_
        exact kt
      · have evex3 : ex3 = (1 : Int32) := by rw [hex3, if_neg hr127_177_0]
        rw [evex3] at kt
        show Steps p.tables e below (T125.setTop (mkF m 177 #[.val (.int p1), .val (.long q1), .second, .val (.long q2), .second, .val (.int (3 : Int32)), .val (.int (((p1.toUInt32 >>> ((8 : Int32) &&& 31).toUInt32).toInt32) &&& (3 : Int32))), .val (.long v102_L7), .second, .val (.int cc), .val (.ref w_GE), .unset] [(.int cc)])) _
        refine XS.ifNo X125.here hx rfl (hb hby at_177) rfl ((if0 _ _).trans (flt hr127_177_0).1) ?_
        show Steps p.tables e below (T125.setTop (mkF m 180 #[.val (.int p1), .val (.long q1), .second, .val (.long q2), .second, .val (.int (3 : Int32)), .val (.int (((p1.toUInt32 >>> ((8 : Int32) &&& 31).toUInt32).toInt32) &&& (3 : Int32))), .val (.long v102_L7), .second, .val (.int cc), .val (.ref w_GE), .unset] [])) _
        refine XS.iconst X125.here hx rfl (hb hby at_180) ?_
        show Steps p.tables e below (T125.setTop (mkF m 181 #[.val (.int p1), .val (.long q1), .second, .val (.long q2), .second, .val (.int (3 : Int32)), .val (.int (((p1.toUInt32 >>> ((8 : Int32) &&& 31).toUInt32).toInt32) &&& (3 : Int32))), .val (.long v102_L7), .second, .val (.int cc), .val (.ref w_GE), .unset] [(.int (1 : Int32))])) _
        refine XS.goto X125.here hx rfl (pc0 := 181) (pc' := 185) rfl (hb hby at_181) (by decide) (by decide) ?_
        exact kt
    have P128 : ∀ t, Steps p.tables e below (T125.setTop (mkF m 185 #[.val (.int p1), .val (.long q1), .second, .val (.long q2), .second, .val (.int (3 : Int32)), .val (.int (((p1.toUInt32 >>> ((8 : Int32) &&& 31).toUInt32).toInt32) &&& (3 : Int32))), .val (.long v102_L7), .second, .val (.int cc), .val (.ref w_GE), .unset] [(.int ex3)])) t → Steps p.tables e below (s₁.setTop (entryFrame m #[(.int p1), (.long q1), (.long q2)] maxLocals)) t := fun t kt => P126 t (J127 t kt)
    obtain ⟨cq129, kq129, q129a, q129b, q129c⟩ := isOf hZ e125 E_GE
    obtain ⟨_, _, ⟨T129, L129, k129, n129⟩, -, X129, ⟨Lc129, hQ129, l129, y129, z129⟩, st129⟩ := X125.virtualBack hx (y := (⟨"com/example/probex/probex/symbolic/Relation", "test", "(JJ)Z"⟩ : MethodName)) (z := (⟨"com/example/probex/probex/symbolic/Relation", "test", "(JJ)Z"⟩ : MethodName)) hown (mvT hZ (hw _ (List.mem_of_getElem? (i := 3) rfl))) (mvT hZ (hw _ (List.mem_of_getElem? (i := 4) rfl))) (notFace_of_selects (args := #[]) (mvT hZ (hw _ (List.mem_of_getElem? (i := 6) rfl)))) (mvT hZ (hw _ (List.mem_of_getElem? (i := 6) rfl))) (mvT hZ (hw _ (List.mem_of_getElem? (i := 5) rfl))) (by decide) (backOf (W := 0)  (rmT l Z a0 hw [] w_GE (3 : Int32) q1 v102_L7 h0 E_GE O_GE (by decide)) hZ (hw _ (List.mem_of_getElem? (i := 7) rfl)) (hw _ (List.mem_of_getElem? (i := 1) rfl)) (by decide) (by decide)) q129a q129c (g := (mkF m 238 #[.val (.int p1), .val (.long q1), .second, .val (.long q2), .second, .val (.int (3 : Int32)), .val (.int (((p1.toUInt32 >>> ((8 : Int32) &&& 31).toUInt32).toInt32) &&& (3 : Int32))), .val (.long v102_L7), .second, .val (.int cc), .val (.ref w_GE), .val (.int ex3)] [(.long v102_L7), (.long q1), (.ref w_GE)])) rfl (by rw [hml]; rfl) (Steps.refl _) (argsL := [(.long q1), (.long v102_L7)]) (rest := []) (lenOf pd__JJ_Z rfl) rfl (by show 2 * 0 + _ ≤ _; exact Nat.le_of_eq rfl) (hb hby at_238) (fun _ _ => ⟨rfl, e125, (by decide : 0 + 0 ≤ _), (by decide : 0 + 0 ≤ _)⟩)
    dsimp only [Pt.U, Pt.locs, Pt.cells, Pt.slots] at X129 l129 y129 z129 st129 hQ129
    subst l129 y129 z129
    obtain ⟨rfl, rfl, e129⟩ := hQ129
    have X129 : Stand p l e room_1 s m #[(.int p1), (.long q1), (.long q2)] below meth c T129 [] 0 0 := X129
    have P130 : ∀ t, Steps p.tables e below (T129.setTop (mkF m 251 #[.val (.int p1), .val (.long q1), .second, .val (.long q2), .second, .val (.int (3 : Int32)), .val (.int (((p1.toUInt32 >>> ((8 : Int32) &&& 31).toUInt32).toInt32) &&& (3 : Int32))), .val (.long v102_L7), .second, .val (.int cc), .val (.ref w_GE), .val (.int ex3)] [(.int (1 : Int32))])) t → Steps p.tables e below (s₁.setTop (entryFrame m #[(.int p1), (.long q1), (.long q2)] maxLocals)) t := fun t kt => P128 t (by
      show Steps p.tables e below (T125.setTop (mkF m 185 #[.val (.int p1), .val (.long q1), .second, .val (.long q2), .second, .val (.int (3 : Int32)), .val (.int (((p1.toUInt32 >>> ((8 : Int32) &&& 31).toUInt32).toInt32) &&& (3 : Int32))), .val (.long v102_L7), .second, .val (.int cc), .val (.ref w_GE), .unset] [(.int ex3)])) _
      refine XS.istore X125.here hx rfl (hb hby at_185) rfl (l' := #[.val (.int p1), .val (.long q1), .second, .val (.long q2), .second, .val (.int (3 : Int32)), .val (.int (((p1.toUInt32 >>> ((8 : Int32) &&& 31).toUInt32).toInt32) &&& (3 : Int32))), .val (.long v102_L7), .second, .val (.int cc), .val (.ref w_GE), .val (.int ex3)]) rfl ?_
      show Steps p.tables e below (T125.setTop (mkF m 187 #[.val (.int p1), .val (.long q1), .second, .val (.long q2), .second, .val (.int (3 : Int32)), .val (.int (((p1.toUInt32 >>> ((8 : Int32) &&& 31).toUInt32).toInt32) &&& (3 : Int32))), .val (.long v102_L7), .second, .val (.int cc), .val (.ref w_GE), .val (.int ex3)] [])) _
      refine XS.goto X125.here hx rfl (pc0 := 187) (pc' := 233) rfl (hb hby at_187) (by decide) (by decide) ?_
      show Steps p.tables e below (T125.setTop (mkF m 233 #[.val (.int p1), .val (.long q1), .second, .val (.long q2), .second, .val (.int (3 : Int32)), .val (.int (((p1.toUInt32 >>> ((8 : Int32) &&& 31).toUInt32).toInt32) &&& (3 : Int32))), .val (.long v102_L7), .second, .val (.int cc), .val (.ref w_GE), .val (.int ex3)] [])) _
      refine XS.aload X125.here hx rfl (hb hby at_233) rfl rfl ?_
      show Steps p.tables e below (T125.setTop (mkF m 235 #[.val (.int p1), .val (.long q1), .second, .val (.long q2), .second, .val (.int (3 : Int32)), .val (.int (((p1.toUInt32 >>> ((8 : Int32) &&& 31).toUInt32).toInt32) &&& (3 : Int32))), .val (.long v102_L7), .second, .val (.int cc), .val (.ref w_GE), .val (.int ex3)] [(.ref w_GE)])) _
      refine XS.lloadN X125.here hx rfl (hb hby at_235) rfl ?_
      show Steps p.tables e below (T125.setTop (mkF m 236 #[.val (.int p1), .val (.long q1), .second, .val (.long q2), .second, .val (.int (3 : Int32)), .val (.int (((p1.toUInt32 >>> ((8 : Int32) &&& 31).toUInt32).toInt32) &&& (3 : Int32))), .val (.long v102_L7), .second, .val (.int cc), .val (.ref w_GE), .val (.int ex3)] [(.long q1), (.ref w_GE)])) _
      refine XS.lload X125.here hx rfl (hb hby at_236) rfl ?_
      show Steps p.tables e below (T125.setTop (mkF m 238 #[.val (.int p1), .val (.long q1), .second, .val (.long q2), .second, .val (.int (3 : Int32)), .val (.int (((p1.toUInt32 >>> ((8 : Int32) &&& 31).toUInt32).toInt32) &&& (3 : Int32))), .val (.long v102_L7), .second, .val (.int cc), .val (.ref w_GE), .val (.int ex3)] [(.long v102_L7), (.long q1), (.ref w_GE)])) _
      refine st129.trans ?_
      show Steps p.tables e below (T129.setTop (mkF m 241 #[.val (.int p1), .val (.long q1), .second, .val (.long q2), .second, .val (.int (3 : Int32)), .val (.int (((p1.toUInt32 >>> ((8 : Int32) &&& 31).toUInt32).toInt32) &&& (3 : Int32))), .val (.long v102_L7), .second, .val (.int cc), .val (.ref w_GE), .val (.int ex3)] [(.int (tst (3 : Int32) q1 v102_L7))])) _
      refine XS.iload X129.here hx rfl (hb hby at_241) rfl ?_
      show Steps p.tables e below (T129.setTop (mkF m 243 #[.val (.int p1), .val (.long q1), .second, .val (.long q2), .second, .val (.int (3 : Int32)), .val (.int (((p1.toUInt32 >>> ((8 : Int32) &&& 31).toUInt32).toInt32) &&& (3 : Int32))), .val (.long v102_L7), .second, .val (.int cc), .val (.ref w_GE), .val (.int ex3)] [(.int ex3), (.int (tst (3 : Int32) q1 v102_L7))])) _
      refine XS.icmpNo X129.here hx rfl (hb hby at_243) rfl (teq (own_e3 _ _ cc ex3 hcc hex3 : (tst (3 : Int32) q1 v102_L7) = ex3)).2 ?_
      show Steps p.tables e below (T129.setTop (mkF m 246 #[.val (.int p1), .val (.long q1), .second, .val (.long q2), .second, .val (.int (3 : Int32)), .val (.int (((p1.toUInt32 >>> ((8 : Int32) &&& 31).toUInt32).toInt32) &&& (3 : Int32))), .val (.long v102_L7), .second, .val (.int cc), .val (.ref w_GE), .val (.int ex3)] [])) _
      refine XS.iconst X129.here hx rfl (hb hby at_246) ?_
      show Steps p.tables e below (T129.setTop (mkF m 247 #[.val (.int p1), .val (.long q1), .second, .val (.long q2), .second, .val (.int (3 : Int32)), .val (.int (((p1.toUInt32 >>> ((8 : Int32) &&& 31).toUInt32).toInt32) &&& (3 : Int32))), .val (.long v102_L7), .second, .val (.int cc), .val (.ref w_GE), .val (.int ex3)] [(.int (1 : Int32))])) _
      refine XS.goto X129.here hx rfl (pc0 := 247) (pc' := 251) rfl (hb hby at_247) (by decide) (by decide) ?_
      exact kt)
    obtain ⟨fs, hr, hrun, hended, hW, hsame⟩ := X129.leave (v := some (.int (1 : Int32))) (fun h => by rw [Bd.returns] at h; cases h) (hlocks := hlk)
    refine ⟨_, _, P130 _ ?_, hrun, hended, _, _, rfl, ?_, ⟨_, rfl⟩, hW, hsame.mono (by decide) (by decide)⟩
    · show Steps p.tables e below (T129.setTop (mkF m 251 #[.val (.int p1), .val (.long q1), .second, .val (.long q2), .second, .val (.int (3 : Int32)), .val (.int (((p1.toUInt32 >>> ((8 : Int32) &&& 31).toUInt32).toInt32) &&& (3 : Int32))), .val (.long v102_L7), .second, .val (.int cc), .val (.ref w_GE), .val (.int ex3)] [(.int (1 : Int32))])) _
      exact retN X129 hx (t := .boolean) Bd.returns (by simp) (hb hby at_251) hr
    · show QP _ h0 _ T129.heap _
      exact ⟨rfl, rfl, e129⟩
  · obtain ⟨T131, X131, e131, st131⟩ := getS2 X0 hx hZ hown (host := "") (Or.inl (hw _ (List.mem_of_getElem? (i := 17) rfl))) Via.refl e0 S_GT (g := (mkF m 196 #[.val (.int p1), .val (.long q1), .second, .val (.long q2), .second, .val (.int (4 : Int32)), .val (.int (((p1.toUInt32 >>> ((8 : Int32) &&& 31).toUInt32).toInt32) &&& (3 : Int32))), .val (.long v102_L7), .second, .val (.int cc), .unset, .unset] [])) rfl (hb hby at_196)
    have P132 : ∀ t, Steps p.tables e below (T131.setTop (mkF m 203 #[.val (.int p1), .val (.long q1), .second, .val (.long q2), .second, .val (.int (4 : Int32)), .val (.int (((p1.toUInt32 >>> ((8 : Int32) &&& 31).toUInt32).toInt32) &&& (3 : Int32))), .val (.long v102_L7), .second, .val (.int cc), .val (.ref w_GT), .unset] [(.int cc)])) t → Steps p.tables e below (s₁.setTop (entryFrame m #[(.int p1), (.long q1), (.long q2)] maxLocals)) t := fun t kt => P106 t (by
      show Steps p.tables e below (s₁.setTop (mkF m 87 #[.val (.int p1), .val (.long q1), .second, .val (.long q2), .second, .val (.int (4 : Int32)), .val (.int (((p1.toUInt32 >>> ((8 : Int32) &&& 31).toUInt32).toInt32) &&& (3 : Int32))), .val (.long v102_L7), .second, .val (.int cc), .unset, .unset] [])) _
      refine XS.iload X0.here hx rfl (hb hby at_87) rfl ?_
      show Steps p.tables e below (s₁.setTop (mkF m 89 #[.val (.int p1), .val (.long q1), .second, .val (.long q2), .second, .val (.int (4 : Int32)), .val (.int (((p1.toUInt32 >>> ((8 : Int32) &&& 31).toUInt32).toInt32) &&& (3 : Int32))), .val (.long v102_L7), .second, .val (.int cc), .unset, .unset] [(.int (4 : Int32))])) _
      refine XS.ifYes X0.here hx rfl (pc0 := 89) (pc' := 112) rfl (hb hby at_89) rfl ((if0 _ _).trans (feq ((by decide) : ¬ ((4 : Int32) = (0 : Int32)))).2) (by decide) (by decide) ?_
      show Steps p.tables e below (s₁.setTop (mkF m 112 #[.val (.int p1), .val (.long q1), .second, .val (.long q2), .second, .val (.int (4 : Int32)), .val (.int (((p1.toUInt32 >>> ((8 : Int32) &&& 31).toUInt32).toInt32) &&& (3 : Int32))), .val (.long v102_L7), .second, .val (.int cc), .unset, .unset] [])) _
      refine XS.iload X0.here hx rfl (hb hby at_112) rfl ?_
      show Steps p.tables e below (s₁.setTop (mkF m 114 #[.val (.int p1), .val (.long q1), .second, .val (.long q2), .second, .val (.int (4 : Int32)), .val (.int (((p1.toUInt32 >>> ((8 : Int32) &&& 31).toUInt32).toInt32) &&& (3 : Int32))), .val (.long v102_L7), .second, .val (.int cc), .unset, .unset] [(.int (4 : Int32))])) _
      refine XS.iconst X0.here hx rfl (hb hby at_114) ?_
      show Steps p.tables e below (s₁.setTop (mkF m 115 #[.val (.int p1), .val (.long q1), .second, .val (.long q2), .second, .val (.int (4 : Int32)), .val (.int (((p1.toUInt32 >>> ((8 : Int32) &&& 31).toUInt32).toInt32) &&& (3 : Int32))), .val (.long v102_L7), .second, .val (.int cc), .unset, .unset] [(.int (1 : Int32)), (.int (4 : Int32))])) _
      refine XS.icmpYes X0.here hx rfl (pc0 := 115) (pc' := 138) rfl (hb hby at_115) rfl (feq ((by decide) : ¬ ((4 : Int32) = (1 : Int32)))).2 (by decide) (by decide) ?_
      show Steps p.tables e below (s₁.setTop (mkF m 138 #[.val (.int p1), .val (.long q1), .second, .val (.long q2), .second, .val (.int (4 : Int32)), .val (.int (((p1.toUInt32 >>> ((8 : Int32) &&& 31).toUInt32).toInt32) &&& (3 : Int32))), .val (.long v102_L7), .second, .val (.int cc), .unset, .unset] [])) _
      refine XS.iload X0.here hx rfl (hb hby at_138) rfl ?_
      show Steps p.tables e below (s₁.setTop (mkF m 140 #[.val (.int p1), .val (.long q1), .second, .val (.long q2), .second, .val (.int (4 : Int32)), .val (.int (((p1.toUInt32 >>> ((8 : Int32) &&& 31).toUInt32).toInt32) &&& (3 : Int32))), .val (.long v102_L7), .second, .val (.int cc), .unset, .unset] [(.int (4 : Int32))])) _
      refine XS.iconst X0.here hx rfl (hb hby at_140) ?_
      show Steps p.tables e below (s₁.setTop (mkF m 141 #[.val (.int p1), .val (.long q1), .second, .val (.long q2), .second, .val (.int (4 : Int32)), .val (.int (((p1.toUInt32 >>> ((8 : Int32) &&& 31).toUInt32).toInt32) &&& (3 : Int32))), .val (.long v102_L7), .second, .val (.int cc), .unset, .unset] [(.int (2 : Int32)), (.int (4 : Int32))])) _
      refine XS.icmpYes X0.here hx rfl (pc0 := 141) (pc' := 164) rfl (hb hby at_141) rfl (feq ((by decide) : ¬ ((4 : Int32) = (2 : Int32)))).2 (by decide) (by decide) ?_
      show Steps p.tables e below (s₁.setTop (mkF m 164 #[.val (.int p1), .val (.long q1), .second, .val (.long q2), .second, .val (.int (4 : Int32)), .val (.int (((p1.toUInt32 >>> ((8 : Int32) &&& 31).toUInt32).toInt32) &&& (3 : Int32))), .val (.long v102_L7), .second, .val (.int cc), .unset, .unset] [])) _
      refine XS.iload X0.here hx rfl (hb hby at_164) rfl ?_
      show Steps p.tables e below (s₁.setTop (mkF m 166 #[.val (.int p1), .val (.long q1), .second, .val (.long q2), .second, .val (.int (4 : Int32)), .val (.int (((p1.toUInt32 >>> ((8 : Int32) &&& 31).toUInt32).toInt32) &&& (3 : Int32))), .val (.long v102_L7), .second, .val (.int cc), .unset, .unset] [(.int (4 : Int32))])) _
      refine XS.iconst X0.here hx rfl (hb hby at_166) ?_
      show Steps p.tables e below (s₁.setTop (mkF m 167 #[.val (.int p1), .val (.long q1), .second, .val (.long q2), .second, .val (.int (4 : Int32)), .val (.int (((p1.toUInt32 >>> ((8 : Int32) &&& 31).toUInt32).toInt32) &&& (3 : Int32))), .val (.long v102_L7), .second, .val (.int cc), .unset, .unset] [(.int (3 : Int32)), (.int (4 : Int32))])) _
      refine XS.icmpYes X0.here hx rfl (pc0 := 167) (pc' := 190) rfl (hb hby at_167) rfl (feq ((by decide) : ¬ ((4 : Int32) = (3 : Int32)))).2 (by decide) (by decide) ?_
      show Steps p.tables e below (s₁.setTop (mkF m 190 #[.val (.int p1), .val (.long q1), .second, .val (.long q2), .second, .val (.int (4 : Int32)), .val (.int (((p1.toUInt32 >>> ((8 : Int32) &&& 31).toUInt32).toInt32) &&& (3 : Int32))), .val (.long v102_L7), .second, .val (.int cc), .unset, .unset] [])) _
      refine XS.iload X0.here hx rfl (hb hby at_190) rfl ?_
      show Steps p.tables e below (s₁.setTop (mkF m 192 #[.val (.int p1), .val (.long q1), .second, .val (.long q2), .second, .val (.int (4 : Int32)), .val (.int (((p1.toUInt32 >>> ((8 : Int32) &&& 31).toUInt32).toInt32) &&& (3 : Int32))), .val (.long v102_L7), .second, .val (.int cc), .unset, .unset] [(.int (4 : Int32))])) _
      refine XS.iconst X0.here hx rfl (hb hby at_192) ?_
      show Steps p.tables e below (s₁.setTop (mkF m 193 #[.val (.int p1), .val (.long q1), .second, .val (.long q2), .second, .val (.int (4 : Int32)), .val (.int (((p1.toUInt32 >>> ((8 : Int32) &&& 31).toUInt32).toInt32) &&& (3 : Int32))), .val (.long v102_L7), .second, .val (.int cc), .unset, .unset] [(.int (4 : Int32)), (.int (4 : Int32))])) _
      refine XS.icmpNo X0.here hx rfl (hb hby at_193) rfl (teq ((by decide) : (4 : Int32) = (4 : Int32))).2 ?_
      show Steps p.tables e below (s₁.setTop (mkF m 196 #[.val (.int p1), .val (.long q1), .second, .val (.long q2), .second, .val (.int (4 : Int32)), .val (.int (((p1.toUInt32 >>> ((8 : Int32) &&& 31).toUInt32).toInt32) &&& (3 : Int32))), .val (.long v102_L7), .second, .val (.int cc), .unset, .unset] [])) _
      refine st131 _ ?_
      show Steps p.tables e below (T131.setTop (mkF m 199 #[.val (.int p1), .val (.long q1), .second, .val (.long q2), .second, .val (.int (4 : Int32)), .val (.int (((p1.toUInt32 >>> ((8 : Int32) &&& 31).toUInt32).toInt32) &&& (3 : Int32))), .val (.long v102_L7), .second, .val (.int cc), .unset, .unset] [(.ref w_GT)])) _
      refine XS.astore X131.here hx rfl (hb hby at_199) rfl rfl (l' := #[.val (.int p1), .val (.long q1), .second, .val (.long q2), .second, .val (.int (4 : Int32)), .val (.int (((p1.toUInt32 >>> ((8 : Int32) &&& 31).toUInt32).toInt32) &&& (3 : Int32))), .val (.long v102_L7), .second, .val (.int cc), .val (.ref w_GT), .unset]) rfl ?_
      show Steps p.tables e below (T131.setTop (mkF m 201 #[.val (.int p1), .val (.long q1), .second, .val (.long q2), .second, .val (.int (4 : Int32)), .val (.int (((p1.toUInt32 >>> ((8 : Int32) &&& 31).toUInt32).toInt32) &&& (3 : Int32))), .val (.long v102_L7), .second, .val (.int cc), .val (.ref w_GT), .unset] [])) _
      refine XS.iload X131.here hx rfl (hb hby at_201) rfl ?_
      exact kt)
    obtain ⟨ex4, hex4⟩ : ∃ z : Int32, z = (if (0 : Int32) < cc then (1 : Int32) else (0 : Int32)) := ⟨_, rfl⟩
    have J133 : ∀ t, Steps p.tables e below (T131.setTop (mkF m 211 #[.val (.int p1), .val (.long q1), .second, .val (.long q2), .second, .val (.int (4 : Int32)), .val (.int (((p1.toUInt32 >>> ((8 : Int32) &&& 31).toUInt32).toInt32) &&& (3 : Int32))), .val (.long v102_L7), .second, .val (.int cc), .val (.ref w_GT), .unset] [(.int ex4)])) t → Steps p.tables e below (T131.setTop (mkF m 203 #[.val (.int p1), .val (.long q1), .second, .val (.long q2), .second, .val (.int (4 : Int32)), .val (.int (((p1.toUInt32 >>> ((8 : Int32) &&& 31).toUInt32).toInt32) &&& (3 : Int32))), .val (.long v102_L7), .second, .val (.int cc), .val (.ref w_GT), .unset] [(.int cc)])) t := by
      intro t kt
      by_cases hr133_203_0 : (0 : Int32) < cc
      · have evex4 : ex4 = (1 : Int32) := by rw [hex4, if_pos hr133_203_0]
        rw [evex4] at kt
        show Steps p.tables e below (T131.setTop (mkF m 203 #[.val (.int p1), .val (.long q1), .second, .val (.long q2), .second, .val (.int (4 : Int32)), .val (.int (((p1.toUInt32 >>> ((8 : Int32) &&& 31).toUInt32).toInt32) &&& (3 : Int32))), .val (.long v102_L7), .second, .val (.int cc), .val (.ref w_GT), .unset] [(.int cc)])) _
        refine XS.ifNo X131.here hx rfl (hb hby at_203) rfl ((if0 _ _).trans (tlt hr133_203_0).2.2.2) ?_
        show Steps p.tables e below (T131.setTop (mkF m 206 #[.val (.int p1), .val (.long q1), .second, .val (.long q2), .second, .val (.int (4 : Int32)), .val (.int (((p1.toUInt32 >>> ((8 : Int32) &&& 31).toUInt32).toInt32) &&& (3 : Int32))), .val (.long v102_L7), .second, .val (.int cc), .val (.ref w_GT), .unset] [])) _
        refine XS.iconst X131.here hx rfl (hb hby at_206) ?_
        show Steps p.tables e below (T131.setTop (mkF m 207 #[.val (.int p1), .val (.long q1), .second, .val (.long q2), .second, .val (.int (4 : Int32)), .val (.int (((p1.toUInt32 >>> ((8 : Int32) &&& 31).toUInt32).toInt32) &&& (3 : Int32))), .val (.long v102_L7), .second, .val (.int cc), .val (.ref w_GT), .unset] [(.int (1 : Int32))])) _
        refine XS.goto X131.here hx rfl (pc0 := 207) (pc' := 211) rfl (hb hby at_207) (by decide) (by decide) ?_
        exact kt
      · have evex4 : ex4 = (0 : Int32) := by rw [hex4, if_neg hr133_203_0]
        rw [evex4] at kt
        show Steps p.tables e below (T131.setTop (mkF m 203 #[.val (.int p1), .val (.long q1), .second, .val (.long q2), .second, .val (.int (4 : Int32)), .val (.int (((p1.toUInt32 >>> ((8 : Int32) &&& 31).toUInt32).toInt32) &&& (3 : Int32))), .val (.long v102_L7), .second, .val (.int cc), .val (.ref w_GT), .unset] [(.int cc)])) _
        refine XS.ifYes X131.here hx rfl (pc0 := 203) (pc' := 210) rfl (hb hby at_203) rfl ((if0 _ _).trans (flt hr133_203_0).2.2.2) (by decide) (by decide) ?_
        show Steps p.tables e below (T131.setTop (mkF m 210 #[.val (.int p1), .val (.long q1), .second, .val (.long q2), .second, .val (.int (4 : Int32)), .val (.int (((p1.toUInt32 >>> ((8 : Int32) &&& 31).toUInt32).toInt32) &&& (3 : Int32))), .val (.long v102_L7), .second, .val (.int cc), .val (.ref w_GT), .unset] [])) _
        refine XS.iconst X131.here hx rfl (hb hby at_210) ?_
        exact kt
    have P134 : ∀ t, Steps p.tables e below (T131.setTop (mkF m 211 #[.val (.int p1), .val (.long q1), .second, .val (.long q2), .second, .val (.int (4 : Int32)), .val (.int (((p1.toUInt32 >>> ((8 : Int32) &&& 31).toUInt32).toInt32) &&& (3 : Int32))), .val (.long v102_L7), .second, .val (.int cc), .val (.ref w_GT), .unset] [(.int ex4)])) t → Steps p.tables e below (s₁.setTop (entryFrame m #[(.int p1), (.long q1), (.long q2)] maxLocals)) t := fun t kt => P132 t (J133 t kt)
    obtain ⟨cq135, kq135, q135a, q135b, q135c⟩ := isOf hZ e131 E_GT
    obtain ⟨_, _, ⟨T135, L135, k135, n135⟩, -, X135, ⟨Lc135, hQ135, l135, y135, z135⟩, st135⟩ := X131.virtualBack hx (y := (⟨"com/example/probex/probex/symbolic/Relation", "test", "(JJ)Z"⟩ : MethodName)) (z := (⟨"com/example/probex/probex/symbolic/Relation", "test", "(JJ)Z"⟩ : MethodName)) hown (mvT hZ (hw _ (List.mem_of_getElem? (i := 3) rfl))) (mvT hZ (hw _ (List.mem_of_getElem? (i := 4) rfl))) (notFace_of_selects (args := #[]) (mvT hZ (hw _ (List.mem_of_getElem? (i := 6) rfl)))) (mvT hZ (hw _ (List.mem_of_getElem? (i := 6) rfl))) (mvT hZ (hw _ (List.mem_of_getElem? (i := 5) rfl))) (by decide) (backOf (W := 0)  (rmT l Z a0 hw [] w_GT (4 : Int32) q1 v102_L7 h0 E_GT O_GT (by decide)) hZ (hw _ (List.mem_of_getElem? (i := 7) rfl)) (hw _ (List.mem_of_getElem? (i := 1) rfl)) (by decide) (by decide)) q135a q135c (g := (mkF m 238 #[.val (.int p1), .val (.long q1), .second, .val (.long q2), .second, .val (.int (4 : Int32)), .val (.int (((p1.toUInt32 >>> ((8 : Int32) &&& 31).toUInt32).toInt32) &&& (3 : Int32))), .val (.long v102_L7), .second, .val (.int cc), .val (.ref w_GT), .val (.int ex4)] [(.long v102_L7), (.long q1), (.ref w_GT)])) rfl (by rw [hml]; rfl) (Steps.refl _) (argsL := [(.long q1), (.long v102_L7)]) (rest := []) (lenOf pd__JJ_Z rfl) rfl (by show 2 * 0 + _ ≤ _; exact Nat.le_of_eq rfl) (hb hby at_238) (fun _ _ => ⟨rfl, e131, (by decide : 0 + 0 ≤ _), (by decide : 0 + 0 ≤ _)⟩)
    dsimp only [Pt.U, Pt.locs, Pt.cells, Pt.slots] at X135 l135 y135 z135 st135 hQ135
    subst l135 y135 z135
    obtain ⟨rfl, rfl, e135⟩ := hQ135
    have X135 : Stand p l e room_1 s m #[(.int p1), (.long q1), (.long q2)] below meth c T135 [] 0 0 := X135
    have P136 : ∀ t, Steps p.tables e below (T135.setTop (mkF m 251 #[.val (.int p1), .val (.long q1), .second, .val (.long q2), .second, .val (.int (4 : Int32)), .val (.int (((p1.toUInt32 >>> ((8 : Int32) &&& 31).toUInt32).toInt32) &&& (3 : Int32))), .val (.long v102_L7), .second, .val (.int cc), .val (.ref w_GT), .val (.int ex4)] [(.int (1 : Int32))])) t → Steps p.tables e below (s₁.setTop (entryFrame m #[(.int p1), (.long q1), (.long q2)] maxLocals)) t := fun t kt => P134 t (by
      show Steps p.tables e below (T131.setTop (mkF m 211 #[.val (.int p1), .val (.long q1), .second, .val (.long q2), .second, .val (.int (4 : Int32)), .val (.int (((p1.toUInt32 >>> ((8 : Int32) &&& 31).toUInt32).toInt32) &&& (3 : Int32))), .val (.long v102_L7), .second, .val (.int cc), .val (.ref w_GT), .unset] [(.int ex4)])) _
      refine XS.istore X131.here hx rfl (hb hby at_211) rfl (l' := #[.val (.int p1), .val (.long q1), .second, .val (.long q2), .second, .val (.int (4 : Int32)), .val (.int (((p1.toUInt32 >>> ((8 : Int32) &&& 31).toUInt32).toInt32) &&& (3 : Int32))), .val (.long v102_L7), .second, .val (.int cc), .val (.ref w_GT), .val (.int ex4)]) rfl ?_
      show Steps p.tables e below (T131.setTop (mkF m 213 #[.val (.int p1), .val (.long q1), .second, .val (.long q2), .second, .val (.int (4 : Int32)), .val (.int (((p1.toUInt32 >>> ((8 : Int32) &&& 31).toUInt32).toInt32) &&& (3 : Int32))), .val (.long v102_L7), .second, .val (.int cc), .val (.ref w_GT), .val (.int ex4)] [])) _
      refine XS.goto X131.here hx rfl (pc0 := 213) (pc' := 233) rfl (hb hby at_213) (by decide) (by decide) ?_
      show Steps p.tables e below (T131.setTop (mkF m 233 #[.val (.int p1), .val (.long q1), .second, .val (.long q2), .second, .val (.int (4 : Int32)), .val (.int (((p1.toUInt32 >>> ((8 : Int32) &&& 31).toUInt32).toInt32) &&& (3 : Int32))), .val (.long v102_L7), .second, .val (.int cc), .val (.ref w_GT), .val (.int ex4)] [])) _
      refine XS.aload X131.here hx rfl (hb hby at_233) rfl rfl ?_
      show Steps p.tables e below (T131.setTop (mkF m 235 #[.val (.int p1), .val (.long q1), .second, .val (.long q2), .second, .val (.int (4 : Int32)), .val (.int (((p1.toUInt32 >>> ((8 : Int32) &&& 31).toUInt32).toInt32) &&& (3 : Int32))), .val (.long v102_L7), .second, .val (.int cc), .val (.ref w_GT), .val (.int ex4)] [(.ref w_GT)])) _
      refine XS.lloadN X131.here hx rfl (hb hby at_235) rfl ?_
      show Steps p.tables e below (T131.setTop (mkF m 236 #[.val (.int p1), .val (.long q1), .second, .val (.long q2), .second, .val (.int (4 : Int32)), .val (.int (((p1.toUInt32 >>> ((8 : Int32) &&& 31).toUInt32).toInt32) &&& (3 : Int32))), .val (.long v102_L7), .second, .val (.int cc), .val (.ref w_GT), .val (.int ex4)] [(.long q1), (.ref w_GT)])) _
      refine XS.lload X131.here hx rfl (hb hby at_236) rfl ?_
      show Steps p.tables e below (T131.setTop (mkF m 238 #[.val (.int p1), .val (.long q1), .second, .val (.long q2), .second, .val (.int (4 : Int32)), .val (.int (((p1.toUInt32 >>> ((8 : Int32) &&& 31).toUInt32).toInt32) &&& (3 : Int32))), .val (.long v102_L7), .second, .val (.int cc), .val (.ref w_GT), .val (.int ex4)] [(.long v102_L7), (.long q1), (.ref w_GT)])) _
      refine st135.trans ?_
      show Steps p.tables e below (T135.setTop (mkF m 241 #[.val (.int p1), .val (.long q1), .second, .val (.long q2), .second, .val (.int (4 : Int32)), .val (.int (((p1.toUInt32 >>> ((8 : Int32) &&& 31).toUInt32).toInt32) &&& (3 : Int32))), .val (.long v102_L7), .second, .val (.int cc), .val (.ref w_GT), .val (.int ex4)] [(.int (tst (4 : Int32) q1 v102_L7))])) _
      refine XS.iload X135.here hx rfl (hb hby at_241) rfl ?_
      show Steps p.tables e below (T135.setTop (mkF m 243 #[.val (.int p1), .val (.long q1), .second, .val (.long q2), .second, .val (.int (4 : Int32)), .val (.int (((p1.toUInt32 >>> ((8 : Int32) &&& 31).toUInt32).toInt32) &&& (3 : Int32))), .val (.long v102_L7), .second, .val (.int cc), .val (.ref w_GT), .val (.int ex4)] [(.int ex4), (.int (tst (4 : Int32) q1 v102_L7))])) _
      refine XS.icmpNo X135.here hx rfl (hb hby at_243) rfl (teq (own_e4 _ _ cc ex4 hcc hex4 : (tst (4 : Int32) q1 v102_L7) = ex4)).2 ?_
      show Steps p.tables e below (T135.setTop (mkF m 246 #[.val (.int p1), .val (.long q1), .second, .val (.long q2), .second, .val (.int (4 : Int32)), .val (.int (((p1.toUInt32 >>> ((8 : Int32) &&& 31).toUInt32).toInt32) &&& (3 : Int32))), .val (.long v102_L7), .second, .val (.int cc), .val (.ref w_GT), .val (.int ex4)] [])) _
      refine XS.iconst X135.here hx rfl (hb hby at_246) ?_
      show Steps p.tables e below (T135.setTop (mkF m 247 #[.val (.int p1), .val (.long q1), .second, .val (.long q2), .second, .val (.int (4 : Int32)), .val (.int (((p1.toUInt32 >>> ((8 : Int32) &&& 31).toUInt32).toInt32) &&& (3 : Int32))), .val (.long v102_L7), .second, .val (.int cc), .val (.ref w_GT), .val (.int ex4)] [(.int (1 : Int32))])) _
      refine XS.goto X135.here hx rfl (pc0 := 247) (pc' := 251) rfl (hb hby at_247) (by decide) (by decide) ?_
      exact kt)
    obtain ⟨fs, hr, hrun, hended, hW, hsame⟩ := X135.leave (v := some (.int (1 : Int32))) (fun h => by rw [Bd.returns] at h; cases h) (hlocks := hlk)
    refine ⟨_, _, P136 _ ?_, hrun, hended, _, _, rfl, ?_, ⟨_, rfl⟩, hW, hsame.mono (by decide) (by decide)⟩
    · show Steps p.tables e below (T135.setTop (mkF m 251 #[.val (.int p1), .val (.long q1), .second, .val (.long q2), .second, .val (.int (4 : Int32)), .val (.int (((p1.toUInt32 >>> ((8 : Int32) &&& 31).toUInt32).toInt32) &&& (3 : Int32))), .val (.long v102_L7), .second, .val (.int cc), .val (.ref w_GT), .val (.int ex4)] [(.int (1 : Int32))])) _
      exact retN X135 hx (t := .boolean) Bd.returns (by simp) (hb hby at_251) hr
    · show QP _ h0 _ T135.heap _
      exact ⟨rfl, rfl, e135⟩
  · obtain ⟨T137, X137, e137, st137⟩ := getS2 X0 hx hZ hown (host := "") (Or.inl (hw _ (List.mem_of_getElem? (i := 23) rfl))) Via.refl e0 S_LE (g := (mkF m 216 #[.val (.int p1), .val (.long q1), .second, .val (.long q2), .second, .val (.int (5 : Int32)), .val (.int (((p1.toUInt32 >>> ((8 : Int32) &&& 31).toUInt32).toInt32) &&& (3 : Int32))), .val (.long v102_L7), .second, .val (.int cc), .unset, .unset] [])) rfl (hb hby at_216)
    have P138 : ∀ t, Steps p.tables e below (T137.setTop (mkF m 223 #[.val (.int p1), .val (.long q1), .second, .val (.long q2), .second, .val (.int (5 : Int32)), .val (.int (((p1.toUInt32 >>> ((8 : Int32) &&& 31).toUInt32).toInt32) &&& (3 : Int32))), .val (.long v102_L7), .second, .val (.int cc), .val (.ref w_LE), .unset] [(.int cc)])) t → Steps p.tables e below (s₁.setTop (entryFrame m #[(.int p1), (.long q1), (.long q2)] maxLocals)) t := fun t kt => P106 t (by
      show Steps p.tables e below (s₁.setTop (mkF m 87 #[.val (.int p1), .val (.long q1), .second, .val (.long q2), .second, .val (.int (5 : Int32)), .val (.int (((p1.toUInt32 >>> ((8 : Int32) &&& 31).toUInt32).toInt32) &&& (3 : Int32))), .val (.long v102_L7), .second, .val (.int cc), .unset, .unset] [])) _
      refine XS.iload X0.here hx rfl (hb hby at_87) rfl ?_
      show Steps p.tables e below (s₁.setTop (mkF m 89 #[.val (.int p1), .val (.long q1), .second, .val (.long q2), .second, .val (.int (5 : Int32)), .val (.int (((p1.toUInt32 >>> ((8 : Int32) &&& 31).toUInt32).toInt32) &&& (3 : Int32))), .val (.long v102_L7), .second, .val (.int cc), .unset, .unset] [(.int (5 : Int32))])) _
      refine XS.ifYes X0.here hx rfl (pc0 := 89) (pc' := 112) rfl (hb hby at_89) rfl ((if0 _ _).trans (feq ((by decide) : ¬ ((5 : Int32) = (0 : Int32)))).2) (by decide) (by decide) ?_
      show Steps p.tables e below (s₁.setTop (mkF m 112 #[.val (.int p1), .val (.long q1), .second, .val (.long q2), .second, .val (.int (5 : Int32)), .val (.int (((p1.toUInt32 >>> ((8 : Int32) &&& 31).toUInt32).toInt32) &&& (3 : Int32))), .val (.long v102_L7), .second, .val (.int cc), .unset, .unset] [])) _
      refine XS.iload X0.here hx rfl (hb hby at_112) rfl ?_
      show Steps p.tables e below (s₁.setTop (mkF m 114 #[.val (.int p1), .val (.long q1), .second, .val (.long q2), .second, .val (.int (5 : Int32)), .val (.int (((p1.toUInt32 >>> ((8 : Int32) &&& 31).toUInt32).toInt32) &&& (3 : Int32))), .val (.long v102_L7), .second, .val (.int cc), .unset, .unset] [(.int (5 : Int32))])) _
      refine XS.iconst X0.here hx rfl (hb hby at_114) ?_
      show Steps p.tables e below (s₁.setTop (mkF m 115 #[.val (.int p1), .val (.long q1), .second, .val (.long q2), .second, .val (.int (5 : Int32)), .val (.int (((p1.toUInt32 >>> ((8 : Int32) &&& 31).toUInt32).toInt32) &&& (3 : Int32))), .val (.long v102_L7), .second, .val (.int cc), .unset, .unset] [(.int (1 : Int32)), (.int (5 : Int32))])) _
      refine XS.icmpYes X0.here hx rfl (pc0 := 115) (pc' := 138) rfl (hb hby at_115) rfl (feq ((by decide) : ¬ ((5 : Int32) = (1 : Int32)))).2 (by decide) (by decide) ?_
      show Steps p.tables e below (s₁.setTop (mkF m 138 #[.val (.int p1), .val (.long q1), .second, .val (.long q2), .second, .val (.int (5 : Int32)), .val (.int (((p1.toUInt32 >>> ((8 : Int32) &&& 31).toUInt32).toInt32) &&& (3 : Int32))), .val (.long v102_L7), .second, .val (.int cc), .unset, .unset] [])) _
      refine XS.iload X0.here hx rfl (hb hby at_138) rfl ?_
      show Steps p.tables e below (s₁.setTop (mkF m 140 #[.val (.int p1), .val (.long q1), .second, .val (.long q2), .second, .val (.int (5 : Int32)), .val (.int (((p1.toUInt32 >>> ((8 : Int32) &&& 31).toUInt32).toInt32) &&& (3 : Int32))), .val (.long v102_L7), .second, .val (.int cc), .unset, .unset] [(.int (5 : Int32))])) _
      refine XS.iconst X0.here hx rfl (hb hby at_140) ?_
      show Steps p.tables e below (s₁.setTop (mkF m 141 #[.val (.int p1), .val (.long q1), .second, .val (.long q2), .second, .val (.int (5 : Int32)), .val (.int (((p1.toUInt32 >>> ((8 : Int32) &&& 31).toUInt32).toInt32) &&& (3 : Int32))), .val (.long v102_L7), .second, .val (.int cc), .unset, .unset] [(.int (2 : Int32)), (.int (5 : Int32))])) _
      refine XS.icmpYes X0.here hx rfl (pc0 := 141) (pc' := 164) rfl (hb hby at_141) rfl (feq ((by decide) : ¬ ((5 : Int32) = (2 : Int32)))).2 (by decide) (by decide) ?_
      show Steps p.tables e below (s₁.setTop (mkF m 164 #[.val (.int p1), .val (.long q1), .second, .val (.long q2), .second, .val (.int (5 : Int32)), .val (.int (((p1.toUInt32 >>> ((8 : Int32) &&& 31).toUInt32).toInt32) &&& (3 : Int32))), .val (.long v102_L7), .second, .val (.int cc), .unset, .unset] [])) _
      refine XS.iload X0.here hx rfl (hb hby at_164) rfl ?_
      show Steps p.tables e below (s₁.setTop (mkF m 166 #[.val (.int p1), .val (.long q1), .second, .val (.long q2), .second, .val (.int (5 : Int32)), .val (.int (((p1.toUInt32 >>> ((8 : Int32) &&& 31).toUInt32).toInt32) &&& (3 : Int32))), .val (.long v102_L7), .second, .val (.int cc), .unset, .unset] [(.int (5 : Int32))])) _
      refine XS.iconst X0.here hx rfl (hb hby at_166) ?_
      show Steps p.tables e below (s₁.setTop (mkF m 167 #[.val (.int p1), .val (.long q1), .second, .val (.long q2), .second, .val (.int (5 : Int32)), .val (.int (((p1.toUInt32 >>> ((8 : Int32) &&& 31).toUInt32).toInt32) &&& (3 : Int32))), .val (.long v102_L7), .second, .val (.int cc), .unset, .unset] [(.int (3 : Int32)), (.int (5 : Int32))])) _
      refine XS.icmpYes X0.here hx rfl (pc0 := 167) (pc' := 190) rfl (hb hby at_167) rfl (feq ((by decide) : ¬ ((5 : Int32) = (3 : Int32)))).2 (by decide) (by decide) ?_
      show Steps p.tables e below (s₁.setTop (mkF m 190 #[.val (.int p1), .val (.long q1), .second, .val (.long q2), .second, .val (.int (5 : Int32)), .val (.int (((p1.toUInt32 >>> ((8 : Int32) &&& 31).toUInt32).toInt32) &&& (3 : Int32))), .val (.long v102_L7), .second, .val (.int cc), .unset, .unset] [])) _
      refine XS.iload X0.here hx rfl (hb hby at_190) rfl ?_
      show Steps p.tables e below (s₁.setTop (mkF m 192 #[.val (.int p1), .val (.long q1), .second, .val (.long q2), .second, .val (.int (5 : Int32)), .val (.int (((p1.toUInt32 >>> ((8 : Int32) &&& 31).toUInt32).toInt32) &&& (3 : Int32))), .val (.long v102_L7), .second, .val (.int cc), .unset, .unset] [(.int (5 : Int32))])) _
      refine XS.iconst X0.here hx rfl (hb hby at_192) ?_
      show Steps p.tables e below (s₁.setTop (mkF m 193 #[.val (.int p1), .val (.long q1), .second, .val (.long q2), .second, .val (.int (5 : Int32)), .val (.int (((p1.toUInt32 >>> ((8 : Int32) &&& 31).toUInt32).toInt32) &&& (3 : Int32))), .val (.long v102_L7), .second, .val (.int cc), .unset, .unset] [(.int (4 : Int32)), (.int (5 : Int32))])) _
      refine XS.icmpYes X0.here hx rfl (pc0 := 193) (pc' := 216) rfl (hb hby at_193) rfl (feq ((by decide) : ¬ ((5 : Int32) = (4 : Int32)))).2 (by decide) (by decide) ?_
      show Steps p.tables e below (s₁.setTop (mkF m 216 #[.val (.int p1), .val (.long q1), .second, .val (.long q2), .second, .val (.int (5 : Int32)), .val (.int (((p1.toUInt32 >>> ((8 : Int32) &&& 31).toUInt32).toInt32) &&& (3 : Int32))), .val (.long v102_L7), .second, .val (.int cc), .unset, .unset] [])) _
      refine st137 _ ?_
      show Steps p.tables e below (T137.setTop (mkF m 219 #[.val (.int p1), .val (.long q1), .second, .val (.long q2), .second, .val (.int (5 : Int32)), .val (.int (((p1.toUInt32 >>> ((8 : Int32) &&& 31).toUInt32).toInt32) &&& (3 : Int32))), .val (.long v102_L7), .second, .val (.int cc), .unset, .unset] [(.ref w_LE)])) _
      refine XS.astore X137.here hx rfl (hb hby at_219) rfl rfl (l' := #[.val (.int p1), .val (.long q1), .second, .val (.long q2), .second, .val (.int (5 : Int32)), .val (.int (((p1.toUInt32 >>> ((8 : Int32) &&& 31).toUInt32).toInt32) &&& (3 : Int32))), .val (.long v102_L7), .second, .val (.int cc), .val (.ref w_LE), .unset]) rfl ?_
      show Steps p.tables e below (T137.setTop (mkF m 221 #[.val (.int p1), .val (.long q1), .second, .val (.long q2), .second, .val (.int (5 : Int32)), .val (.int (((p1.toUInt32 >>> ((8 : Int32) &&& 31).toUInt32).toInt32) &&& (3 : Int32))), .val (.long v102_L7), .second, .val (.int cc), .val (.ref w_LE), .unset] [])) _
      refine XS.iload X137.here hx rfl (hb hby at_221) rfl ?_
      exact kt)
    obtain ⟨ex5, hex5⟩ : ∃ z : Int32, z = (if (0 : Int32) < cc then (0 : Int32) else (1 : Int32)) := ⟨_, rfl⟩
    have J139 : ∀ t, Steps p.tables e below (T137.setTop (mkF m 231 #[.val (.int p1), .val (.long q1), .second, .val (.long q2), .second, .val (.int (5 : Int32)), .val (.int (((p1.toUInt32 >>> ((8 : Int32) &&& 31).toUInt32).toInt32) &&& (3 : Int32))), .val (.long v102_L7), .second, .val (.int cc), .val (.ref w_LE), .unset] [(.int ex5)])) t → Steps p.tables e below (T137.setTop (mkF m 223 #[.val (.int p1), .val (.long q1), .second, .val (.long q2), .second, .val (.int (5 : Int32)), .val (.int (((p1.toUInt32 >>> ((8 : Int32) &&& 31).toUInt32).toInt32) &&& (3 : Int32))), .val (.long v102_L7), .second, .val (.int cc), .val (.ref w_LE), .unset] [(.int cc)])) t := by
      intro t kt
      by_cases hr139_223_0 : (0 : Int32) < cc
      · have evex5 : ex5 = (0 : Int32) := by rw [hex5, if_pos hr139_223_0]
        rw [evex5] at kt
        show Steps p.tables e below (T137.setTop (mkF m 223 #[.val (.int p1), .val (.long q1), .second, .val (.long q2), .second, .val (.int (5 : Int32)), .val (.int (((p1.toUInt32 >>> ((8 : Int32) &&& 31).toUInt32).toInt32) &&& (3 : Int32))), .val (.long v102_L7), .second, .val (.int cc), .val (.ref w_LE), .unset] [(.int cc)])) _
        refine XS.ifYes X137.here hx rfl (pc0 := 223) (pc' := 230) rfl (hb hby at_223) rfl ((if0 _ _).trans (tlt hr139_223_0).2.2.1) (by decide) (by decide) ?_
        show Steps p.tables e below (T137.setTop (mkF m 230 #[.val (.int p1), .val (.long q1), .second, .val (.long q2), .second, .val (.int (5 : Int32)), .val (.int (((p1.toUInt32 >>> ((8 : Int32) &&& 31).toUInt32).toInt32) &&& (3 : Int32))), .val (.long v102_L7), .second, .val (.int cc), .val (.ref w_LE), .unset] [])) _
        refine XS.iconst X137.here hx rfl (hb hby at_230) ?_
        exact kt
      · have evex5 : ex5 = (1 : Int32) := by rw [hex5, if_neg hr139_223_0]
        rw [evex5] at kt
        show Steps p.tables e below (T137.setTop (mkF m 223 #[.val (.int p1), .val (.long q1), .second, .val (.long q2), .second, .val (.int (5 : Int32)), .val (.int (((p1.toUInt32 >>> ((8 : Int32) &&& 31).toUInt32).toInt32) &&& (3 : Int32))), .val (.long v102_L7), .second, .val (.int cc), .val (.ref w_LE), .unset] [(.int cc)])) _
        refine XS.ifNo X137.here hx rfl (hb hby at_223) rfl ((if0 _ _).trans (flt hr139_223_0).2.2.1) ?_
        show Steps p.tables e below (T137.setTop (mkF m 226 #[.val (.int p1), .val (.long q1), .second, .val (.long q2), .second, .val (.int (5 : Int32)), .val (.int (((p1.toUInt32 >>> ((8 : Int32) &&& 31).toUInt32).toInt32) &&& (3 : Int32))), .val (.long v102_L7), .second, .val (.int cc), .val (.ref w_LE), .unset] [])) _
        refine XS.iconst X137.here hx rfl (hb hby at_226) ?_
        show Steps p.tables e below (T137.setTop (mkF m 227 #[.val (.int p1), .val (.long q1), .second, .val (.long q2), .second, .val (.int (5 : Int32)), .val (.int (((p1.toUInt32 >>> ((8 : Int32) &&& 31).toUInt32).toInt32) &&& (3 : Int32))), .val (.long v102_L7), .second, .val (.int cc), .val (.ref w_LE), .unset] [(.int (1 : Int32))])) _
        refine XS.goto X137.here hx rfl (pc0 := 227) (pc' := 231) rfl (hb hby at_227) (by decide) (by decide) ?_
        exact kt
    have P140 : ∀ t, Steps p.tables e below (T137.setTop (mkF m 231 #[.val (.int p1), .val (.long q1), .second, .val (.long q2), .second, .val (.int (5 : Int32)), .val (.int (((p1.toUInt32 >>> ((8 : Int32) &&& 31).toUInt32).toInt32) &&& (3 : Int32))), .val (.long v102_L7), .second, .val (.int cc), .val (.ref w_LE), .unset] [(.int ex5)])) t → Steps p.tables e below (s₁.setTop (entryFrame m #[(.int p1), (.long q1), (.long q2)] maxLocals)) t := fun t kt => P138 t (J139 t kt)
    obtain ⟨cq141, kq141, q141a, q141b, q141c⟩ := isOf hZ e137 E_LE
    obtain ⟨_, _, ⟨T141, L141, k141, n141⟩, -, X141, ⟨Lc141, hQ141, l141, y141, z141⟩, st141⟩ := X137.virtualBack hx (y := (⟨"com/example/probex/probex/symbolic/Relation", "test", "(JJ)Z"⟩ : MethodName)) (z := (⟨"com/example/probex/probex/symbolic/Relation", "test", "(JJ)Z"⟩ : MethodName)) hown (mvT hZ (hw _ (List.mem_of_getElem? (i := 3) rfl))) (mvT hZ (hw _ (List.mem_of_getElem? (i := 4) rfl))) (notFace_of_selects (args := #[]) (mvT hZ (hw _ (List.mem_of_getElem? (i := 6) rfl)))) (mvT hZ (hw _ (List.mem_of_getElem? (i := 6) rfl))) (mvT hZ (hw _ (List.mem_of_getElem? (i := 5) rfl))) (by decide) (backOf (W := 0)  (rmT l Z a0 hw [] w_LE (5 : Int32) q1 v102_L7 h0 E_LE O_LE (by decide)) hZ (hw _ (List.mem_of_getElem? (i := 7) rfl)) (hw _ (List.mem_of_getElem? (i := 1) rfl)) (by decide) (by decide)) q141a q141c (g := (mkF m 238 #[.val (.int p1), .val (.long q1), .second, .val (.long q2), .second, .val (.int (5 : Int32)), .val (.int (((p1.toUInt32 >>> ((8 : Int32) &&& 31).toUInt32).toInt32) &&& (3 : Int32))), .val (.long v102_L7), .second, .val (.int cc), .val (.ref w_LE), .val (.int ex5)] [(.long v102_L7), (.long q1), (.ref w_LE)])) rfl (by rw [hml]; rfl) (Steps.refl _) (argsL := [(.long q1), (.long v102_L7)]) (rest := []) (lenOf pd__JJ_Z rfl) rfl (by show 2 * 0 + _ ≤ _; exact Nat.le_of_eq rfl) (hb hby at_238) (fun _ _ => ⟨rfl, e137, (by decide : 0 + 0 ≤ _), (by decide : 0 + 0 ≤ _)⟩)
    dsimp only [Pt.U, Pt.locs, Pt.cells, Pt.slots] at X141 l141 y141 z141 st141 hQ141
    subst l141 y141 z141
    obtain ⟨rfl, rfl, e141⟩ := hQ141
    have X141 : Stand p l e room_1 s m #[(.int p1), (.long q1), (.long q2)] below meth c T141 [] 0 0 := X141
    have P142 : ∀ t, Steps p.tables e below (T141.setTop (mkF m 251 #[.val (.int p1), .val (.long q1), .second, .val (.long q2), .second, .val (.int (5 : Int32)), .val (.int (((p1.toUInt32 >>> ((8 : Int32) &&& 31).toUInt32).toInt32) &&& (3 : Int32))), .val (.long v102_L7), .second, .val (.int cc), .val (.ref w_LE), .val (.int ex5)] [(.int (1 : Int32))])) t → Steps p.tables e below (s₁.setTop (entryFrame m #[(.int p1), (.long q1), (.long q2)] maxLocals)) t := fun t kt => P140 t (by
      show Steps p.tables e below (T137.setTop (mkF m 231 #[.val (.int p1), .val (.long q1), .second, .val (.long q2), .second, .val (.int (5 : Int32)), .val (.int (((p1.toUInt32 >>> ((8 : Int32) &&& 31).toUInt32).toInt32) &&& (3 : Int32))), .val (.long v102_L7), .second, .val (.int cc), .val (.ref w_LE), .unset] [(.int ex5)])) _
      refine XS.istore X137.here hx rfl (hb hby at_231) rfl (l' := #[.val (.int p1), .val (.long q1), .second, .val (.long q2), .second, .val (.int (5 : Int32)), .val (.int (((p1.toUInt32 >>> ((8 : Int32) &&& 31).toUInt32).toInt32) &&& (3 : Int32))), .val (.long v102_L7), .second, .val (.int cc), .val (.ref w_LE), .val (.int ex5)]) rfl ?_
      show Steps p.tables e below (T137.setTop (mkF m 233 #[.val (.int p1), .val (.long q1), .second, .val (.long q2), .second, .val (.int (5 : Int32)), .val (.int (((p1.toUInt32 >>> ((8 : Int32) &&& 31).toUInt32).toInt32) &&& (3 : Int32))), .val (.long v102_L7), .second, .val (.int cc), .val (.ref w_LE), .val (.int ex5)] [])) _
      refine XS.aload X137.here hx rfl (hb hby at_233) rfl rfl ?_
      show Steps p.tables e below (T137.setTop (mkF m 235 #[.val (.int p1), .val (.long q1), .second, .val (.long q2), .second, .val (.int (5 : Int32)), .val (.int (((p1.toUInt32 >>> ((8 : Int32) &&& 31).toUInt32).toInt32) &&& (3 : Int32))), .val (.long v102_L7), .second, .val (.int cc), .val (.ref w_LE), .val (.int ex5)] [(.ref w_LE)])) _
      refine XS.lloadN X137.here hx rfl (hb hby at_235) rfl ?_
      show Steps p.tables e below (T137.setTop (mkF m 236 #[.val (.int p1), .val (.long q1), .second, .val (.long q2), .second, .val (.int (5 : Int32)), .val (.int (((p1.toUInt32 >>> ((8 : Int32) &&& 31).toUInt32).toInt32) &&& (3 : Int32))), .val (.long v102_L7), .second, .val (.int cc), .val (.ref w_LE), .val (.int ex5)] [(.long q1), (.ref w_LE)])) _
      refine XS.lload X137.here hx rfl (hb hby at_236) rfl ?_
      show Steps p.tables e below (T137.setTop (mkF m 238 #[.val (.int p1), .val (.long q1), .second, .val (.long q2), .second, .val (.int (5 : Int32)), .val (.int (((p1.toUInt32 >>> ((8 : Int32) &&& 31).toUInt32).toInt32) &&& (3 : Int32))), .val (.long v102_L7), .second, .val (.int cc), .val (.ref w_LE), .val (.int ex5)] [(.long v102_L7), (.long q1), (.ref w_LE)])) _
      refine st141.trans ?_
      show Steps p.tables e below (T141.setTop (mkF m 241 #[.val (.int p1), .val (.long q1), .second, .val (.long q2), .second, .val (.int (5 : Int32)), .val (.int (((p1.toUInt32 >>> ((8 : Int32) &&& 31).toUInt32).toInt32) &&& (3 : Int32))), .val (.long v102_L7), .second, .val (.int cc), .val (.ref w_LE), .val (.int ex5)] [(.int (tst (5 : Int32) q1 v102_L7))])) _
      refine XS.iload X141.here hx rfl (hb hby at_241) rfl ?_
      show Steps p.tables e below (T141.setTop (mkF m 243 #[.val (.int p1), .val (.long q1), .second, .val (.long q2), .second, .val (.int (5 : Int32)), .val (.int (((p1.toUInt32 >>> ((8 : Int32) &&& 31).toUInt32).toInt32) &&& (3 : Int32))), .val (.long v102_L7), .second, .val (.int cc), .val (.ref w_LE), .val (.int ex5)] [(.int ex5), (.int (tst (5 : Int32) q1 v102_L7))])) _
      refine XS.icmpNo X141.here hx rfl (hb hby at_243) rfl (teq (own_e5 _ _ cc ex5 hcc hex5 : (tst (5 : Int32) q1 v102_L7) = ex5)).2 ?_
      show Steps p.tables e below (T141.setTop (mkF m 246 #[.val (.int p1), .val (.long q1), .second, .val (.long q2), .second, .val (.int (5 : Int32)), .val (.int (((p1.toUInt32 >>> ((8 : Int32) &&& 31).toUInt32).toInt32) &&& (3 : Int32))), .val (.long v102_L7), .second, .val (.int cc), .val (.ref w_LE), .val (.int ex5)] [])) _
      refine XS.iconst X141.here hx rfl (hb hby at_246) ?_
      show Steps p.tables e below (T141.setTop (mkF m 247 #[.val (.int p1), .val (.long q1), .second, .val (.long q2), .second, .val (.int (5 : Int32)), .val (.int (((p1.toUInt32 >>> ((8 : Int32) &&& 31).toUInt32).toInt32) &&& (3 : Int32))), .val (.long v102_L7), .second, .val (.int cc), .val (.ref w_LE), .val (.int ex5)] [(.int (1 : Int32))])) _
      refine XS.goto X141.here hx rfl (pc0 := 247) (pc' := 251) rfl (hb hby at_247) (by decide) (by decide) ?_
      exact kt)
    obtain ⟨fs, hr, hrun, hended, hW, hsame⟩ := X141.leave (v := some (.int (1 : Int32))) (fun h => by rw [Bd.returns] at h; cases h) (hlocks := hlk)
    refine ⟨_, _, P142 _ ?_, hrun, hended, _, _, rfl, ?_, ⟨_, rfl⟩, hW, hsame.mono (by decide) (by decide)⟩
    · show Steps p.tables e below (T141.setTop (mkF m 251 #[.val (.int p1), .val (.long q1), .second, .val (.long q2), .second, .val (.int (5 : Int32)), .val (.int (((p1.toUInt32 >>> ((8 : Int32) &&& 31).toUInt32).toInt32) &&& (3 : Int32))), .val (.long v102_L7), .second, .val (.int cc), .val (.ref w_LE), .val (.int ex5)] [(.int (1 : Int32))])) _
      exact retN X141 hx (t := .boolean) Bd.returns (by simp) (hb hby at_251) hr
    · show QP _ h0 _ T141.heap _
      exact ⟨rfl, rfl, e141⟩
set_option maxRecDepth 65536 in
set_option maxHeartbeats 40000000 in
theorem comes_1 {Post : Tables → Env → Array Value → State → Outcome → State → Prop} (hpost : ∀ tb e args s v u, (limb_1_1.after args s (.returned v) u = true ∧ limb_1_2.after args s (.returned v) u = true ∧ True) → FrameEnd s (.returned v) u (Jvm.fieldLocs frame_1_writes args s ++ Jvm.arrayLocs frame_1_arrays args s ++ Jvm.staticLocs frame_1_statics s) 0 0 → Post tb e args s (.returned v) u) :
    ArmFor flags0 classFile x code maxLocals ret World_1 tables_1 room_1 Calls_1 rest_1 Pre_1 Post := by
  intro l hfl _ _ p e ha hc hk s m args below hf hA hF happ hP
  obtain ⟨hcalls, hrest, hpre⟩ := hP
  obtain ⟨-, -, -, hnamed, -, -, -, hat⟩ := (Spec.applies_iff hf).mp happ
  obtain ⟨hg, hn⟩ := and_e (Cond.before_iff.mp (show (Jvm.Cond.and given_1 narrow_1).before args s = true from hpre))
  obtain ⟨g1, g2⟩ := and_e hg
  obtain ⟨g3, g4⟩ := and_e g2
  obtain ⟨g5, g6⟩ := and_e g4
  obtain ⟨w0, w1, w2, rfl⟩ : ∃ w0 w1 w2 : Value, args = #[w0, w1, w2] := by
    have hs : args.size = 3 := by simpa [Cond.value, given_1] using g1
    obtain ⟨L⟩ := args
    match L, hs with
    | [w0, w1, w2], _ => exact ⟨w0, w1, w2, rfl⟩
  have hw := fun d (hd : d ∈ tables_1) => atoms_spec (ws := Jvm.Cond.code x code maxLocals ret :: tables_1) hat d (List.mem_cons_of_mem _ hd)
  obtain ⟨i0, ei0⟩ := is_v g3
  obtain rfl : w0 = (.int i0) := Option.some.inj ei0
  obtain ⟨i1, ei1⟩ := isL_v g5
  obtain rfl : w1 = (.long i1) := Option.some.inj ei1
  obtain ⟨i2, ei2⟩ := isL_v g6
  obtain rfl : w2 = (.long i2) := Option.some.inj ei2
  obtain ⟨nn1, nn2⟩ := and_e hn
  obtain ⟨nn3, nn4⟩ := and_e nn2
  obtain ⟨nn5, nn6⟩ := and_e nn4
  obtain ⟨nn7, nn8⟩ := and_e nn6
  obtain ⟨nn9, nn10⟩ := and_e nn8
  obtain ⟨nn11, nn12⟩ := and_e nn10
  obtain ⟨nn13, nn14⟩ := and_e nn12
  obtain ⟨nn15, nn16⟩ := and_e nn14
  obtain ⟨nn17, nn18⟩ := and_e nn16
  obtain ⟨nn19, nn20⟩ := and_e nn18
  obtain ⟨nn21, nn22⟩ := and_e nn20
  obtain ⟨w_EQ, ev_EQ⟩ := exa_v nn1
  have S_EQ : Sta s s.heap "com/example/probex/probex/symbolic/Relation" "EQ" "Lcom/example/probex/probex/symbolic/Relation;" (.ref w_EQ) := Sta.start ev_EQ (Or.inr ⟨(hw _ (List.mem_of_getElem? (i := 1) rfl)), (hw _ (List.mem_of_getElem? (i := 2) rfl))⟩)
  have E_EQ : Exa s s.heap w_EQ "com/example/probex/probex/symbolic/Relation" := Exa.start ev_EQ nn1
  have ov_EQ : s.fieldOf? w_EQ "java/lang/Enum" "ordinal" "I" = some (.int (0 : Int32)) := (fld_at ev_EQ).symm.trans (own_eqv nn3)
  have O_EQ : Fld s s.heap w_EQ "java/lang/Enum" "ordinal" "I" (.int (0 : Int32)) := Fld.start ((fld_at ev_EQ).symm.trans (own_eqv nn3))
  obtain ⟨w_NE, ev_NE⟩ := exa_v nn21
  have S_NE : Sta s s.heap "com/example/probex/probex/symbolic/Relation" "NE" "Lcom/example/probex/probex/symbolic/Relation;" (.ref w_NE) := Sta.start ev_NE (Or.inr ⟨(hw _ (List.mem_of_getElem? (i := 1) rfl)), (hw _ (List.mem_of_getElem? (i := 26) rfl))⟩)
  have E_NE : Exa s s.heap w_NE "com/example/probex/probex/symbolic/Relation" := Exa.start ev_NE nn21
  have ov_NE : s.fieldOf? w_NE "java/lang/Enum" "ordinal" "I" = some (.int (1 : Int32)) := (fld_at ev_NE).symm.trans (own_eqv nn22)
  have O_NE : Fld s s.heap w_NE "java/lang/Enum" "ordinal" "I" (.int (1 : Int32)) := Fld.start ((fld_at ev_NE).symm.trans (own_eqv nn22))
  obtain ⟨w_LT, ev_LT⟩ := exa_v nn13
  have S_LT : Sta s s.heap "com/example/probex/probex/symbolic/Relation" "LT" "Lcom/example/probex/probex/symbolic/Relation;" (.ref w_LT) := Sta.start ev_LT (Or.inr ⟨(hw _ (List.mem_of_getElem? (i := 1) rfl)), (hw _ (List.mem_of_getElem? (i := 22) rfl))⟩)
  have E_LT : Exa s s.heap w_LT "com/example/probex/probex/symbolic/Relation" := Exa.start ev_LT nn13
  have ov_LT : s.fieldOf? w_LT "java/lang/Enum" "ordinal" "I" = some (.int (2 : Int32)) := (fld_at ev_LT).symm.trans (own_eqv nn15)
  have O_LT : Fld s s.heap w_LT "java/lang/Enum" "ordinal" "I" (.int (2 : Int32)) := Fld.start ((fld_at ev_LT).symm.trans (own_eqv nn15))
  obtain ⟨w_GE, ev_GE⟩ := exa_v nn9
  have S_GE : Sta s s.heap "com/example/probex/probex/symbolic/Relation" "GE" "Lcom/example/probex/probex/symbolic/Relation;" (.ref w_GE) := Sta.start ev_GE (Or.inr ⟨(hw _ (List.mem_of_getElem? (i := 1) rfl)), (hw _ (List.mem_of_getElem? (i := 20) rfl))⟩)
  have E_GE : Exa s s.heap w_GE "com/example/probex/probex/symbolic/Relation" := Exa.start ev_GE nn9
  have ov_GE : s.fieldOf? w_GE "java/lang/Enum" "ordinal" "I" = some (.int (3 : Int32)) := (fld_at ev_GE).symm.trans (own_eqv nn11)
  have O_GE : Fld s s.heap w_GE "java/lang/Enum" "ordinal" "I" (.int (3 : Int32)) := Fld.start ((fld_at ev_GE).symm.trans (own_eqv nn11))
  obtain ⟨w_GT, ev_GT⟩ := exa_v nn5
  have S_GT : Sta s s.heap "com/example/probex/probex/symbolic/Relation" "GT" "Lcom/example/probex/probex/symbolic/Relation;" (.ref w_GT) := Sta.start ev_GT (Or.inr ⟨(hw _ (List.mem_of_getElem? (i := 1) rfl)), (hw _ (List.mem_of_getElem? (i := 18) rfl))⟩)
  have E_GT : Exa s s.heap w_GT "com/example/probex/probex/symbolic/Relation" := Exa.start ev_GT nn5
  have ov_GT : s.fieldOf? w_GT "java/lang/Enum" "ordinal" "I" = some (.int (4 : Int32)) := (fld_at ev_GT).symm.trans (own_eqv nn7)
  have O_GT : Fld s s.heap w_GT "java/lang/Enum" "ordinal" "I" (.int (4 : Int32)) := Fld.start ((fld_at ev_GT).symm.trans (own_eqv nn7))
  obtain ⟨w_LE, ev_LE⟩ := exa_v nn17
  have S_LE : Sta s s.heap "com/example/probex/probex/symbolic/Relation" "LE" "Lcom/example/probex/probex/symbolic/Relation;" (.ref w_LE) := Sta.start ev_LE (Or.inr ⟨(hw _ (List.mem_of_getElem? (i := 1) rfl)), (hw _ (List.mem_of_getElem? (i := 24) rfl))⟩)
  have E_LE : Exa s s.heap w_LE "com/example/probex/probex/symbolic/Relation" := Exa.start ev_LE nn17
  have ov_LE : s.fieldOf? w_LE "java/lang/Enum" "ordinal" "I" = some (.int (5 : Int32)) := (fld_at ev_LE).symm.trans (own_eqv nn19)
  have O_LE : Fld s s.heap w_LE "java/lang/Enum" "ordinal" "I" (.int (5 : Int32)) := Fld.start ((fld_at ev_LE).symm.trans (own_eqv nn19))
  obtain ⟨n, o, h1, h2, h3, _, L, rfl, ⟨rfl, rfl, -⟩, hq⟩ := rm0 l s _ hw tables_1 i0 i1 i2 w_EQ w_NE w_LT w_GE w_GT w_LE s.heap S_EQ S_NE S_LT S_GE S_GT S_LE E_EQ E_NE E_LT E_GE E_GT E_LE O_EQ O_NE O_LT O_GE O_GT O_LE  p e ha hc hk s m _ below hf ((Spec.applies_iff_loose hf).mp happ).1 ⟨rfl, State.Warmed39.refl s, rfl⟩ trivial
  refine ⟨n, _, h1, h2, h3, hpost _ _ _ _ _ _ ⟨Cond.after_iff.mpr rfl, Cond.after_iff.mpr (eq_i res_at (Term.int_eval (1)) rfl), trivial⟩ ⟨hq.1, hq.2.1, (hq.2.2.sift fun y hy => nomatch hy).mono (by decide) (by decide)⟩⟩
theorem main_1_1 : Claimed_1_1 := comes_1 fun _ _ _ _ _ _ h hF => ⟨h.1, hF⟩
theorem main_1_2 : Claimed_1_2 := comes_1 fun _ _ _ _ _ _ h hF => ⟨h.2.1, hF⟩
end Jvm.Pilot.@@N@@
namespace Jvm.Pilot.@@N@@
open Jvm Jvm.ClassFile Sem Op Lib Jvm.Free Jvm.Stand Jvm.Pilot.@@N@@.Jvm.D
/-! MADE BY PROGRAM (witnessworld.py) out of the Statement's table words and the real class files: 12 classes; the members and pool entries that the words name. The judged class is class 1, her method 1. -/
namespace start1
open Jvm.ClassFile
def u (s : String) : CpInfo := .utf8 (stringToUtf16 s)
/-- a pool by its gaps: so many unusable entries, then the entry; so many at the end -/
def gap : Nat → List CpInfo → List CpInfo
  | 0, r => r
  | n + 1, r => .unusable :: gap n r
def poolList (es : List (Nat × CpInfo)) (last : Nat) : List CpInfo := es.foldr (fun e r => gap e.1 (e.2 :: r)) (gap last [])
def pool (es : List (Nat × CpInfo)) (last : Nat) : Array CpInfo := ⟨poolList es last⟩
def fileOf (pool : Array CpInfo) (this : Nat) (attrs : Array Attribute := #[]) (ms : Array MethodInfo := #[]) (fl : Nat := 33) (sup : Nat := 0) (ifs : Array Nat := #[]) (fds : Array FieldInfo := #[]) : ClassFile where
  minorVersion := 0
  majorVersion := 65
  constantPool := pool
  accessFlags := fl
  thisClass := this
  superClass := sup
  interfaces := ifs
  fields := fds
  methods := ms
  attributes := attrs
def plain (name : String) (sup : Option ClassId) : Class where
  name := name
  kind := .ordinary
  loader := none
  accessFlags := 33
  super := sup
  interfaces := #[]
  cf := none
  fields := #[]
  methods := #[]
  instanceTypes := #[]
  staticTypes := #[]
  resolved := #[]
  callSites := []
  init := .initialized
  statics := none
  mirror := none

def pool0 : Array CpInfo := pool [(5, u "<init>"), (0, u "()V"), (1, .class_ 10), (1, u "java/lang/Object")] 113

def k0m0 : Method := { name := "<init>", desc := "()V", sig := { parameters := [], returnType := none }, accessFlags := 1, code := none }
/-- java/lang/Object -/
def k0 : Class := { plain "java/lang/Object" none with
  accessFlags := 33
  interfaces := #[]
  cf := some (fileOf pool0 8 #[] #[{ accessFlags := 1, nameIndex := 5, descriptorIndex := 6, attributes := #[] }] 33 0 #[] #[])
  fields := #[]
  methods := #[k0m0]
  instanceTypes := #[]
  staticTypes := #[]
  resolved := Array.replicate 124 none
  statics := none }

def pool1 : Array CpInfo := pool [(2, .class_ 4), (1, u "java/lang/Object"), (0, u "<init>"), (0, u "()V"), (0, .fieldref 8 9), (0, .class_ 10), (0, .nameAndType 11 12), (0, u "com/example/probex/probex/symbolic/Relation"), (0, u "EQ"), (0, u "Lcom/example/probex/probex/symbolic/Relation;"), (0, .fieldref 8 14), (0, .nameAndType 15 12), (0, u "NE"), (0, .fieldref 8 17), (0, .nameAndType 18 12), (0, u "LT"), (0, .fieldref 8 20), (0, .nameAndType 21 12), (0, u "GE"), (0, .fieldref 8 23), (0, .nameAndType 24 12), (0, u "GT"), (0, .fieldref 8 26), (0, .nameAndType 27 12), (0, u "LE"), (0, .methodref 8 29), (0, .nameAndType 30 31), (0, u "test"), (0, u "(JJ)Z"), (0, .class_ 33), (0, u "com/example/probex/probex/symbolic/RelationTestPinLaw"), (2, u "law"), (0, u "(IJJ)Z")] 3

def k1m0 : Method := { name := "<init>", desc := "()V", sig := { parameters := [], returnType := none }, accessFlags := 1, code := none }
def k1c1 : Code := { maxStack := 5, maxLocals := 12, code := code, exceptionTable := #[], attributes := #[] }
def k1m1 : Method := { name := "law", desc := "(IJJ)Z", sig := { parameters := [.int, .long, .long], returnType := some .boolean }, accessFlags := 9, code := some k1c1 }
/-- com/example/probex/probex/symbolic/RelationTestPinLaw -/
def k1 : Class := { plain "com/example/probex/probex/symbolic/RelationTestPinLaw" (some 0) with
  accessFlags := 49
  interfaces := #[]
  cf := some (fileOf pool1 32 #[] #[{ accessFlags := 1, nameIndex := 5, descriptorIndex := 6, attributes := #[] }, { accessFlags := 9, nameIndex := 36, descriptorIndex := 37, attributes := #[] }] 49 2 #[] #[])
  fields := #[]
  methods := #[k1m0, k1m1]
  instanceTypes := #[]
  staticTypes := #[]
  resolved := Array.replicate 41 none
  statics := none }

def pool2 : Array CpInfo := pool [(1, .class_ 2), (0, u "java/lang/constant/Constable"), (0, .class_ 4), (0, u "java/lang/Object")] 6

/-- java/lang/constant/Constable -/
def k2 : Class := { plain "java/lang/constant/Constable" (some 0) with
  accessFlags := 1537
  interfaces := #[]
  cf := some (fileOf pool2 1 #[] #[] 1537 3 #[] #[])
  fields := #[]
  methods := #[]
  instanceTypes := #[]
  staticTypes := #[]
  resolved := Array.replicate 11 none
  statics := none }

def pool3 : Array CpInfo := pool [(1, .class_ 2), (0, u "java/lang/Comparable"), (0, .class_ 4), (0, u "java/lang/Object")] 7

/-- java/lang/Comparable -/
def k3 : Class := { plain "java/lang/Comparable" (some 0) with
  accessFlags := 1537
  interfaces := #[]
  cf := some (fileOf pool3 1 #[] #[] 1537 3 #[] #[])
  fields := #[]
  methods := #[]
  instanceTypes := #[]
  staticTypes := #[]
  resolved := Array.replicate 12 none
  statics := none }

def pool4 : Array CpInfo := pool [(1, .class_ 2), (0, u "java/io/Serializable"), (0, .class_ 4), (0, u "java/lang/Object")] 2

/-- java/io/Serializable -/
def k4 : Class := { plain "java/io/Serializable" (some 0) with
  accessFlags := 1537
  interfaces := #[]
  cf := some (fileOf pool4 1 #[] #[] 1537 3 #[] #[])
  fields := #[]
  methods := #[]
  instanceTypes := #[]
  staticTypes := #[]
  resolved := Array.replicate 7 none
  statics := none }

def pool5 : Array CpInfo := pool [(2, .class_ 4), (1, u "java/lang/Enum"), (0, u "name"), (0, u "Ljava/lang/String;"), (0, .fieldref 2 8), (0, .nameAndType 9 10), (0, u "ordinal"), (0, u "I"), (1, .class_ 14), (1, u "java/lang/Object"), (4, u "hash"), (86, .class_ 108), (1, u "java/lang/Enum$EnumDesc"), (2, .class_ 112), (0, u "java/lang/constant/Constable"), (0, .class_ 114), (0, u "java/lang/Comparable"), (0, .class_ 116), (0, u "java/io/Serializable"), (9, u "()I")] 77

def k5c0 : Code := { maxStack := 1, maxLocals := 1, code := jdk_37_method_2_code, exceptionTable := #[], attributes := #[] }
def k5m0 : Method := { name := "ordinal", desc := "()I", sig := { parameters := [], returnType := some .int }, accessFlags := 17, code := some k5c0 }
/-- java/lang/Enum -/
def k5 : Class := { plain "java/lang/Enum" (some 0) with
  accessFlags := 1057
  interfaces := #[2, 3, 4]
  cf := some (fileOf pool5 2 #[.nestMembers #[106]] #[{ accessFlags := 17, nameIndex := 9, descriptorIndex := 126, attributes := #[] }] 1057 12 #[111, 113, 115] #[{ accessFlags := 18, nameIndex := 5, descriptorIndex := 6, attributes := #[] }, { accessFlags := 18, nameIndex := 9, descriptorIndex := 10, attributes := #[] }, { accessFlags := 2, nameIndex := 19, descriptorIndex := 10, attributes := #[] }])
  fields := #[{ name := "name", type := (.object "java/lang/String"), accessFlags := 18, slot := 0, constantValue := 0 }, { name := "ordinal", type := .int, accessFlags := 18, slot := 1, constantValue := 0 }, { name := "hash", type := .int, accessFlags := 2, slot := 2, constantValue := 0 }]
  methods := #[k5m0]
  instanceTypes := #[(.object "java/lang/String"), .int, .int]
  staticTypes := #[]
  resolved := Array.replicate 204 none
  statics := none }

def pool6 : Array CpInfo := pool [(1, .class_ 2), (0, u "com/example/probex/probex/symbolic/Relation"), (2, u "EQ"), (0, u "Lcom/example/probex/probex/symbolic/Relation;"), (2, u "NE"), (2, u "LT"), (2, u "GE"), (2, u "GT"), (2, u "LE"), (2, u "$VALUES"), (0, u "[Lcom/example/probex/probex/symbolic/Relation;"), (6, .class_ 34), (1, u "java/lang/Enum"), (8, u "symbol"), (0, u "Ljava/lang/String;"), (0, .methodref 1 46), (0, .nameAndType 47 48), (0, u "ordinal"), (0, u "()I"), (37, u "test"), (0, u "(JJ)Z")] 9

def k6c0 : Code := { maxStack := 4, maxLocals := 5, code := prog_28_method_4_code, exceptionTable := #[], attributes := #[] }
def k6m0 : Method := { name := "test", desc := "(JJ)Z", sig := { parameters := [.long, .long], returnType := some .boolean }, accessFlags := 1, code := some k6c0 }
/-- com/example/probex/probex/symbolic/Relation -/
def k6 : Class := { plain "com/example/probex/probex/symbolic/Relation" (some 5) with
  accessFlags := 16433
  interfaces := #[]
  cf := some (fileOf pool6 1 #[] #[{ accessFlags := 1, nameIndex := 86, descriptorIndex := 87, attributes := #[] }] 16433 32 #[] #[{ accessFlags := 16409, nameIndex := 5, descriptorIndex := 6, attributes := #[] }, { accessFlags := 16409, nameIndex := 9, descriptorIndex := 6, attributes := #[] }, { accessFlags := 16409, nameIndex := 12, descriptorIndex := 6, attributes := #[] }, { accessFlags := 16409, nameIndex := 15, descriptorIndex := 6, attributes := #[] }, { accessFlags := 16409, nameIndex := 18, descriptorIndex := 6, attributes := #[] }, { accessFlags := 16409, nameIndex := 21, descriptorIndex := 6, attributes := #[] }, { accessFlags := 18, nameIndex := 43, descriptorIndex := 44, attributes := #[] }, { accessFlags := 4122, nameIndex := 24, descriptorIndex := 25, attributes := #[] }])
  fields := #[{ name := "EQ", type := (.object "com/example/probex/probex/symbolic/Relation"), accessFlags := 16409, slot := 0, constantValue := 0 }, { name := "NE", type := (.object "com/example/probex/probex/symbolic/Relation"), accessFlags := 16409, slot := 1, constantValue := 0 }, { name := "LT", type := (.object "com/example/probex/probex/symbolic/Relation"), accessFlags := 16409, slot := 2, constantValue := 0 }, { name := "GE", type := (.object "com/example/probex/probex/symbolic/Relation"), accessFlags := 16409, slot := 3, constantValue := 0 }, { name := "GT", type := (.object "com/example/probex/probex/symbolic/Relation"), accessFlags := 16409, slot := 4, constantValue := 0 }, { name := "LE", type := (.object "com/example/probex/probex/symbolic/Relation"), accessFlags := 16409, slot := 5, constantValue := 0 }, { name := "symbol", type := (.object "java/lang/String"), accessFlags := 18, slot := 3, constantValue := 0 }, { name := "$VALUES", type := (.array (.object "com/example/probex/probex/symbolic/Relation")), accessFlags := 4122, slot := 6, constantValue := 0 }]
  methods := #[k6m0]
  instanceTypes := #[(.object "java/lang/String"), .int, .int, (.object "java/lang/String")]
  staticTypes := #[(.object "com/example/probex/probex/symbolic/Relation"), (.object "com/example/probex/probex/symbolic/Relation"), (.object "com/example/probex/probex/symbolic/Relation"), (.object "com/example/probex/probex/symbolic/Relation"), (.object "com/example/probex/probex/symbolic/Relation"), (.object "com/example/probex/probex/symbolic/Relation"), (.array (.object "com/example/probex/probex/symbolic/Relation"))]
  resolved := Array.replicate 97 none
  statics := some 0 }

def pool7 : Array CpInfo := pool [(1, u "java/lang/Cloneable"), (0, .class_ 1), (0, u "java/lang/Object"), (0, .class_ 3)] 3

/-- java/lang/Cloneable -/
def k7 : Class := { plain "java/lang/Cloneable" (some 0) with
  accessFlags := 1537
  interfaces := #[]
  cf := some (fileOf pool7 2 #[] #[] 1537 4 #[] #[])
  fields := #[]
  methods := #[]
  instanceTypes := #[]
  staticTypes := #[]
  resolved := Array.replicate 8 none
  statics := none }

/-- the primitive byte -/
def k8 : Class := { plain "byte" none with kind := .primitive 'B', accessFlags := 0x411 }
/-- [B -/
def k9 : Class := { plain "[B" (some 0) with kind := .array 8 .byte, interfaces := #[7, 4], accessFlags := 1041 }

/-- the primitive int -/
def k10 : Class := { plain "int" none with kind := .primitive 'I', accessFlags := 0x411 }
/-- [I -/
def k11 : Class := { plain "[I" (some 0) with kind := .array 10 .int, interfaces := #[7, 4], accessFlags := 1041 }

def heap : Heap := #[{ cls := 6, slots := #[.ref 1, .ref 2, .ref 3, .ref 4, .ref 5, .ref 6, .null], vm := .statics 6 },
  { cls := 6, slots := #[.null, .int 0, .int 0, .null], vm := .none },
  { cls := 6, slots := #[.null, .int 1, .int 0, .null], vm := .none },
  { cls := 6, slots := #[.null, .int 2, .int 0, .null], vm := .none },
  { cls := 6, slots := #[.null, .int 3, .int 0, .null], vm := .none },
  { cls := 6, slots := #[.null, .int 4, .int 0, .null], vm := .none },
  { cls := 6, slots := #[.null, .int 5, .int 0, .null], vm := .none }]
def classes : Array Class := #[k0, k1, k2, k3, k4, k5, k6, k7, k8, k9, k10, k11]
def interned : List (Array UInt16 × Addr) := []
def slotsUsed : Nat := 31
def theMethod : MethodId := ⟨1, 1⟩
def args0 : Array Value := #[.int 5, .long 3, .long 4]
def aboutOver (below : List Frame) : State where
  vm := { classes := classes, interned := interned.toArray }
  heap := heap
  slotsUsed := slotsUsed
  threads := #[{ frames := .invoking theMethod args0 :: below }]
def below0 : List Frame := [.native { method := ⟨0, 0⟩, args := #[] }]
def about1 : State := aboutOver below0
def p0 : Program := .bare "" "" ""
def e0 : Env := launch0.env 0 0 0
theorem w_frames : about1.frames = Frame.invoking theMethod args0 :: below0 := rfl
set_option maxRecDepth 65536 in
theorem w_args : argsFit about1.vm theMethod args0 = true := by decide +kernel
set_option maxRecDepth 65536 in
theorem w_heap : heapFits about1 = true := by decide +kernel
set_option maxRecDepth 65536 in
theorem w_runnable : about1.curStatus? = some .runnable := by decide +kernel
set_option maxRecDepth 65536 in
theorem w_alone : about1.alone = true := by decide +kernel
set_option maxRecDepth 65536 in
theorem w_named : about1.methodNamed? x = some theMethod := by decide +kernel
set_option maxRecDepth 65536 in
theorem w_hears : about1.hears theMethod below0 = true := by decide +kernel
set_option maxRecDepth 65536 in
theorem w_ripe : about1.ripe theMethod args0 below0 = true := by decide +kernel
theorem w_running : about1.status = .running := rfl
set_option maxRecDepth 65536 in
theorem w_room : about1.hasRoom e0.platform room_1 = true :=
  launch0.hasRoom_least _ room_1 (by decide +kernel) (by decide +kernel) (by decide +kernel) (by decide +kernel) (by decide +kernel) (by decide +kernel)
theorem allAtoms_all (ts : List Jvm.Cond) (a : Array Jvm.Value) (st : Jvm.State) : (allAtoms ts).before a st = ts.all (fun c => c.before a st) := by
  induction ts with
  | nil => rfl
  | cons c t ih =>
    show (Jvm.Cond.and c (allAtoms t)).before a st = _
    rw [Jvm.Cond.before_and, ih, List.all_cons]
def words1 : List Jvm.Cond := Jvm.Cond.code x code maxLocals ret :: tables_1
/-- a 'code' word, met by the world's own term for the bytes: nothing is compared byte by byte -/
theorem code_word {y : MethodName} {bytes : ByteArray} {mx : Nat} {rt : Option FieldType} {a : Array Value} {s : State} {m : MethodId} {meth : Method} {c : Code} (h1 : s.methodNamed? y = some m) (h2 : s.vm.method? m = some meth) (h3 : meth.code = some c) (h4 : c.code = bytes)
    (h5 : (c.maxLocals == mx && c.exceptionTable.isEmpty && decide (c.maxStack ≤ mostOperands) && decide (meth.sig.returnType = rt) && !meth.locks && decide (parseMethodDescriptor y.desc = some meth.sig)) = true) : (Jvm.Cond.code y bytes mx rt).before a s = true := by
  simp only [Bool.and_eq_true, beq_iff_eq, Bool.not_eq_true', decide_eq_true_eq] at h5
  obtain ⟨⟨⟨⟨⟨g1, g2⟩, g3⟩, g4⟩, g5⟩, g6⟩ := h5
  simp [Cond.before, Cond.holds, Cond.value, h1, h2, h3, h4, g1, g2, g3, g4, g5, g6]
def isCode : Jvm.Cond → Bool
  | .code _ _ _ _ => true
  | _ => false
theorem all_split {L : List Jvm.Cond} {P : Jvm.Cond → Bool} (h1 : L.all (fun c => isCode c || P c) = true) (h2 : ∀ c ∈ L.filter isCode, P c = true) : L.all P = true := by
  refine List.all_eq_true.mpr fun c hc => ?_
  have h := List.all_eq_true.mp h1 c hc
  rcases Bool.eq_false_or_eq_true (isCode c) with hi | hi
  · exact h2 c (List.mem_filter.mpr ⟨hc, hi⟩)
  · simpa [hi] using h
set_option maxRecDepth 65536 in
theorem w_c0 : (Jvm.Cond.code x code maxLocals ret).before args0 about1 = true := code_word (m := ⟨1, 1⟩) (meth := k1m1) (c := k1c1) (by decide +kernel) rfl rfl rfl (by decide +kernel)
set_option maxRecDepth 65536 in
theorem w_c1 : (Jvm.Cond.code ({ cls := "com/example/probex/probex/symbolic/Relation", name := "test", desc := "(JJ)Z" } : Jvm.MethodName) prog_28_method_4_code (5 : Nat) (Option.some Jvm.ClassFile.FieldType.boolean)).before args0 about1 = true := code_word (m := ⟨6, 0⟩) (meth := k6m0) (c := k6c0) (by decide +kernel) rfl rfl rfl (by decide +kernel)
set_option maxRecDepth 65536 in
theorem w_c2 : (Jvm.Cond.code ({ cls := "java/lang/Enum", name := "ordinal", desc := "()I" } : Jvm.MethodName) jdk_37_method_2_code (1 : Nat) (Option.some Jvm.ClassFile.FieldType.int)).before args0 about1 = true := code_word (m := ⟨5, 0⟩) (meth := k5m0) (c := k5c0) (by decide +kernel) rfl rfl rfl (by decide +kernel)
def codes1 : List Jvm.Cond := [Jvm.Cond.code x code maxLocals ret, Jvm.Cond.code ({ cls := "com/example/probex/probex/symbolic/Relation", name := "test", desc := "(JJ)Z" } : Jvm.MethodName) prog_28_method_4_code (5 : Nat) (Option.some Jvm.ClassFile.FieldType.boolean), Jvm.Cond.code ({ cls := "java/lang/Enum", name := "ordinal", desc := "()I" } : Jvm.MethodName) jdk_37_method_2_code (1 : Nat) (Option.some Jvm.ClassFile.FieldType.int)]
set_option maxRecDepth 65536 in
theorem codes_eq : words1.filter isCode = codes1 := rfl
theorem w_codes : ∀ c ∈ words1.filter isCode, c.before args0 about1 = true := by
  rw [codes_eq]
  intro c hc
  simp only [codes1, List.mem_cons, List.not_mem_nil, or_false] at hc
  rcases hc with rfl | rfl | rfl
  · exact w_c0
  · exact w_c1
  · exact w_c2
set_option maxRecDepth 65536 in
theorem w_t1 : (words1.take 24).all (fun c => isCode c || c.before args0 about1) = true := by decide +kernel
set_option maxRecDepth 65536 in
theorem w_t2 : (words1.drop 24).all (fun c => isCode c || c.before args0 about1) = true := by decide +kernel
theorem w_tables : (allAtoms (Jvm.Cond.code x code maxLocals ret :: tables_1)).before args0 about1 = true := by
  rw [allAtoms_all]
  show words1.all (fun c => c.before args0 about1) = true
  refine all_split ?_ w_codes
  rw [← List.take_append_drop 24 words1, List.all_append, w_t1, w_t2]
  rfl
set_option maxRecDepth 65536 in
theorem w_case : (Jvm.Cond.and given_1 narrow_1).before args0 about1 = true := by decide +kernel
theorem w_applies : (headSpec (Jvm.Cond.code x code maxLocals ret :: tables_1) room_1).applies x e0.platform about1 = true :=
  (Spec.applies_iff w_frames).mpr ⟨w_running, w_runnable, w_alone, w_named, w_hears, w_ripe, w_room, w_tables⟩
theorem atStart : AtStart classFile x code maxLocals ret World_1 tables_1 room_1 Calls_1 rest_1 Pre_1 launch0 p0 e0 about1 theMethod args0 below0 :=
  ⟨lists_1, trivial, launch0.admits_env _ _ _, launch0.least_env, fairChoices_fair.cas, fairChoices_fair.clock, w_frames, w_args, w_heap, w_applies, trivial, trivial, w_case⟩
end start1
theorem witness_1 : WitnessClaimed_1 := ⟨start1.p0, start1.e0, start1.about1, start1.theMethod, start1.args0, start1.below0, start1.atStart⟩
end Jvm.Pilot.@@N@@
