import JvmDerived
import JvmDerived.Pilot.@@N@@Statement
import JvmDerived.Pilot.@@N@@Code
set_option linter.unusedVariables false
set_option linter.unusedSimpArgs false
namespace Jvm.RoadKit
open Sem ClassFile Op Lib Jvm.Stand Jvm.Free Jvm.LawKit
section New
variable {p : Program} {l : Launch} {e : Env} {R : Room} {s : State} {m : MethodId} {args : Array Value} {below : List Frame} {meth : Method} {c : Code} {T : State} {locs : List Loc} {cells slots : Nat}
theorem retI (X : Stand p l e R s m args below meth c T locs cells slots) (hx : p.tables.exec = Jvm.exec) {pc : Nat} {Ls : Array Slot} {z : Int32} {rest : List Value} (hret : meth.sig.returnType = some .int) (hd : decode c.code pc = .ok (.ireturn, 1)) {fs : List Frame}
    (hl : ∀ (f : JFrame) (acts : List Action), f.method = m → f.locked = none → f.entered = [] → (doReturn e (T.setTop f) acts (some (.int z))).1 = T.setFrames fs) : Steps p.tables e below (T.setTop (mkF m pc Ls (.int z :: rest))) (T.setFrames fs) := by
  have hm' : T.vm.method? m = some meth := X.method'
  have hn : narrow .int (.int z) = .int z := rfl
  show Steps p.tables e below (T.setTop { method := m, pc := pc, locals := Ls, stack := _ :: rest, locked := none }) _
  jvm_step X.here [X.here.top, hx, hd, hm', hret, hn]
  first | (intro acts; rw [hl _ acts rfl rfl rfl]) | rw [hl _ _ rfl rfl rfl]
  exact Steps.refl _
end New
end Jvm.RoadKit
namespace Jvm.Pilot.@@N@@
open Jvm Jvm.ClassFile Sem Op Lib Jvm.Free Jvm.Stand Jvm.LawKit Jvm.RoadKit Bundle Jvm.Pilot.@@N@@.Jvm.D
theorem own_nm {x a : Addr} (h : x ≠ a) : x ∉ [a] := fun q => h (List.mem_singleton.mp q)
theorem own_nar {v : Int32} (h : v = (0 : Int32) ∨ v = (1 : Int32)) : nar .boolean v = v := by rcases h with rfl | rfl <;> decide
/-- what a body that writes nothing leaves -/
def QP (r : Option Value) (h0 : Heap) (v : Option Value) (h : Heap) (L : List Loc) : Prop := v = r ∧ L = [] ∧ h = h0
theorem pd___I : parseMethodDescriptor "()I" = some ⟨[], some .int⟩ := by decide +kernel
theorem pd__I_Lcom_example_probex_probex_symbolic_Relation_ : parseMethodDescriptor "(I)Lcom/example/probex/probex/symbolic/Relation;" = some ⟨[.int], some (.object "com/example/probex/probex/symbolic/Relation")⟩ := by decide +kernel
theorem pd___Lcom_example_probex_probex_symbolic_Relation_ : parseMethodDescriptor "()Lcom/example/probex/probex/symbolic/Relation;" = some ⟨[], some (.object "com/example/probex/probex/symbolic/Relation")⟩ := by decide +kernel
theorem pd__JJ_Z : parseMethodDescriptor "(JJ)Z" = some ⟨[.long, .long], some .boolean⟩ := by decide +kernel
theorem own_lt {p : Int32} (c : Int32) (k : Int) (hk : c.toInt = k) (h : p.toInt < k) : p < c := Int32.lt_iff_toInt_lt.mpr (by omega)
theorem own_nlt {p : Int32} (c : Int32) (k : Int) (hk : c.toInt = k) (h : k ≤ p.toInt) : ¬ p < c := fun q => by have := Int32.lt_iff_toInt_lt.mp q; omega
theorem own_gt {p : Int32} (c : Int32) (k : Int) (hk : c.toInt = k) (h : k < p.toInt) : c < p := Int32.lt_iff_toInt_lt.mpr (by omega)
theorem own_ngt {p : Int32} (c : Int32) (k : Int) (hk : c.toInt = k) (h : p.toInt ≤ k) : ¬ c < p := fun q => by have := Int32.lt_iff_toInt_lt.mp q; omega
theorem own_ne {p : Int32} (c : Int32) (k : Int) (hk : c.toInt = k) (h : p.toInt ≠ k) : ¬ p = c := fun q => h (by rw [q]; exact hk)
theorem own_eq {p : Int32} (c : Int32) (k : Int) (hk : c.toInt = k) (h : p.toInt = k) : p = c := Int32.toInt_inj.mp (by omega)
theorem own_irem (x y : Int32) (d : Int) (hy : y.toInt = d) (hd : 0 < d) (hx : 0 ≤ x.toInt) : (x - (x / y) * y).toInt = x.toInt % d := by
  have hm : y ≠ -1 := fun h => by rw [h] at hy; have : (-1 : Int32).toInt = -1 := rfl; omega
  have h1 := (c_idiv x y d hy hm).1 hx
  have h2 := c_imul (x / y) y
  have h3 := c_isub x ((x / y) * y)
  have h4 := rng32 (x - (x / y) * y)
  have h5 := rng32 x
  have h10 := rng32 ((x / y) * y)
  rw [h1, hy] at h2
  have h6 : x.toInt / d * d + x.toInt % d = x.toInt := Int.ediv_mul_add_emod x.toInt d
  have h7 := Int.emod_nonneg x.toInt (by omega : d ≠ 0)
  have h8 := Int.emod_lt_of_pos x.toInt (by omega : 0 < d)
  have h9 : 0 ≤ x.toInt / d * d := Int.mul_nonneg (Int.ediv_nonneg hx (by omega)) (by omega)
  generalize x.toInt / d * d = t at *
  omega
theorem own_eqv {args : Array Value} {s : State} {t : Term} {k : Int32} (h : (Jvm.Cond.eq t (.int k)).value args s none s [] = some true) : t.eval args s none [] s = some (.int k) := by
  obtain ⟨x, y, hx, hy, hk, -⟩ := cmp_v (Or.inl h)
  rw [Term.int_eval] at hy
  cases hy
  cases x with
  | int z => have h2 : (Jvm.Cond.eq t (.int k)).value args s none s [] = some (decide (z = k)) := by simp [Jvm.Cond.value, hx, Term.int_eval]
             have := gotT h2 h; rw [hx, this]
  | _ => simp [Kin, Value.isRef] at hk
def tst (k : Int32) (q1 q2 : Int64) : Int32 := if k = (0 : Int32) then (if lcmpW q1 q2 = (0 : Int32) then (1 : Int32) else (0 : Int32)) else if k = (1 : Int32) then (if lcmpW q1 q2 = (0 : Int32) then (0 : Int32) else (1 : Int32)) else if k = (2 : Int32) then (if lcmpW q1 q2 < (0 : Int32) then (1 : Int32) else (0 : Int32)) else if k = (3 : Int32) then (if lcmpW q1 q2 < (0 : Int32) then (0 : Int32) else (1 : Int32)) else if k = (4 : Int32) then (if (0 : Int32) < lcmpW q1 q2 then (1 : Int32) else (0 : Int32)) else (if (0 : Int32) < lcmpW q1 q2 then (0 : Int32) else (1 : Int32))
def pk (k : Int32) (w_EQ w_NE w_LT w_GE w_GT w_LE : Addr) : Addr := if k = (0 : Int32) then w_EQ else if k = (1 : Int32) then w_NE else if k = (2 : Int32) then w_LT else if k = (3 : Int32) then w_GE else if k = (4 : Int32) then w_GT else w_LE
def ng (k : Int32) (w_EQ w_NE w_LT w_GE w_GT w_LE : Addr) : Addr := if k = (0 : Int32) then w_NE else if k = (1 : Int32) then w_EQ else if k = (2 : Int32) then w_GE else if k = (3 : Int32) then w_LT else if k = (4 : Int32) then w_LE else w_GT
theorem tst0 (q1 q2 : Int64) : tst (0 : Int32) q1 q2 = (if lcmpW q1 q2 = (0 : Int32) then (1 : Int32) else (0 : Int32)) := rfl
theorem tst1 (q1 q2 : Int64) : tst (1 : Int32) q1 q2 = (if lcmpW q1 q2 = (0 : Int32) then (0 : Int32) else (1 : Int32)) := rfl
theorem tst2 (q1 q2 : Int64) : tst (2 : Int32) q1 q2 = (if lcmpW q1 q2 < (0 : Int32) then (1 : Int32) else (0 : Int32)) := rfl
theorem tst3 (q1 q2 : Int64) : tst (3 : Int32) q1 q2 = (if lcmpW q1 q2 < (0 : Int32) then (0 : Int32) else (1 : Int32)) := rfl
theorem tst4 (q1 q2 : Int64) : tst (4 : Int32) q1 q2 = (if (0 : Int32) < lcmpW q1 q2 then (1 : Int32) else (0 : Int32)) := rfl
theorem tst5 (q1 q2 : Int64) : tst (5 : Int32) q1 q2 = (if (0 : Int32) < lcmpW q1 q2 then (0 : Int32) else (1 : Int32)) := rfl
theorem own_c6 (r : Int32) (h : 0 ≤ r.toInt ∧ r.toInt < 6) : r = (0 : Int32) ∨ r = (1 : Int32) ∨ r = (2 : Int32) ∨ r = (3 : Int32) ∨ r = (4 : Int32) ∨ r = (5 : Int32) := by
  have h3 : r.toInt = 0 ∨ r.toInt = 1 ∨ r.toInt = 2 ∨ r.toInt = 3 ∨ r.toInt = 4 ∨ r.toInt = 5 := by omega
  rcases h3 with q | q | q | q | q | q
  · exact Or.inl (own_eq (0 : Int32) 0 rfl q)
  · exact Or.inr (Or.inl (own_eq (1 : Int32) 1 rfl q))
  · exact Or.inr (Or.inr (Or.inl (own_eq (2 : Int32) 2 rfl q)))
  · exact Or.inr (Or.inr (Or.inr (Or.inl (own_eq (3 : Int32) 3 rfl q))))
  · exact Or.inr (Or.inr (Or.inr (Or.inr (Or.inl (own_eq (4 : Int32) 4 rfl q)))))
  · exact Or.inr (Or.inr (Or.inr (Or.inr (Or.inr (own_eq (5 : Int32) 5 rfl q)))))
theorem own_k6 (r x : Int32) (h : r = ((x &&& (2147483647 : Int32)) - ((x &&& (2147483647 : Int32)) / (6 : Int32)) * (6 : Int32))) : r = (0 : Int32) ∨ r = (1 : Int32) ∨ r = (2 : Int32) ∨ r = (3 : Int32) ∨ r = (4 : Int32) ∨ r = (5 : Int32) := by
  have h1 := c_mask x (2147483647 : Int32) 31 (by decide) (by decide)
  have h2 := own_irem (x &&& (2147483647 : Int32)) (6 : Int32) 6 rfl (by omega) (by omega)
  rw [← h] at h2
  exact own_c6 r (by omega)
theorem own_n0 (q1 q2 : Int64) : ¬ (tst (1 : Int32) q1 q2 = tst (0 : Int32) q1 q2) := by
  rw [tst1, tst0]; split <;> decide
theorem own_n1 (q1 q2 : Int64) : ¬ (tst (0 : Int32) q1 q2 = tst (1 : Int32) q1 q2) := by
  rw [tst0, tst1]; split <;> decide
theorem own_n2 (q1 q2 : Int64) : ¬ (tst (3 : Int32) q1 q2 = tst (2 : Int32) q1 q2) := by
  rw [tst3, tst2]; split <;> decide
theorem own_n3 (q1 q2 : Int64) : ¬ (tst (2 : Int32) q1 q2 = tst (3 : Int32) q1 q2) := by
  rw [tst2, tst3]; split <;> decide
theorem own_n4 (q1 q2 : Int64) : ¬ (tst (5 : Int32) q1 q2 = tst (4 : Int32) q1 q2) := by
  rw [tst5, tst4]; split <;> decide
theorem own_n5 (q1 q2 : Int64) : ¬ (tst (4 : Int32) q1 q2 = tst (5 : Int32) q1 q2) := by
  rw [tst4, tst5]; split <;> decide
theorem dO_0 : decode jdk_37_method_2_code 0 = .ok (.aload_n 0, 1) := by decide +kernel
theorem dO_1 : decode jdk_37_method_2_code 1 = .ok (.getfield 7, 3) := by decide +kernel
theorem dO_4 : decode jdk_37_method_2_code 4 = .ok (.ireturn, 1) := by decide +kernel
theorem ef_O (m : MethodId) (x0 : Addr) : entryFrame m #[(.ref x0)] 1 = mkF m 0 #[.val (.ref x0)] [] := by first | (simp [entryFrame, mkF, argsToLocals, Value.category]; done) | rfl
set_option maxRecDepth 65536 in
set_option maxHeartbeats 40000000 in
theorem rmO (l : Launch) (Z : State) (a0 : Array Value) (hw : ∀ d ∈ tables_1, d.before a0 Z = true) (ws : List Jvm.Cond) (a1 : Addr) (k : Int32) (h0 : Heap) (F1 : Fld Z h0 a1 "java/lang/Enum" "ordinal" "I" (.int k)) :
    MetFree l (⟨"java/lang/Enum", "ordinal", "()I"⟩ : MethodName) (head1 (Jvm.Cond.code (⟨"java/lang/Enum", "ordinal", "()I"⟩ : MethodName) jdk_37_method_2_code 1 (some .int) :: ws) ({ frames := 0, cells := 0, slots := 0, locals := 0 } : Room)) (fun a U => a = #[(.ref a1)] ∧ Z.Warmed39 U.vm ∧ U.heap = h0) (fun _ _ _ _ _ => True) (fun _ U o U' => ∃ v L, o = .returned v ∧ QP (some (.int k)) h0 v U'.heap L ∧ FrameEnd U o U' L ({ frames := 0, cells := 0, slots := 0, locals := 0 } : Room).cells ({ frames := 0, cells := 0, slots := 0, locals := 0 } : Room).slots) := by
  refine MetFree.of_bodySF (plainFor_of_name (by first | (simp [plainName, overriddenIn]; done) | decide +kernel)) hisR ?_
  intro p e s m args below meth c s₁ Bd hml0 hP hK
  obtain ⟨rfl, hZ, hh⟩ := hP
  have hx := Bd.exec
  have hby := Bd.bytes
  have hml : c.maxLocals = 1 := hml0
  have hown : s.vm.findClass "java/lang/Enum" = some m.cls := findClass_of_methodNamed Bd.named
  have hnm := (name_of_methodNamed Bd.named Bd.method).1
  have hlk : meth.locks = false := BodyLoose.notSynchronized Bd
  have X0 : Stand p l e ({ frames := 0, cells := 0, slots := 0, locals := 0 } : Room) s m #[(.ref a1)] below meth c s₁ [] 0 0 := Stand.of_body Bd
  have e0 : s₁.heap = h0 := by rw [← hh, Bd.state]; rfl
  have P0 : ∀ t, Steps p.tables e below (s₁.setTop (mkF m 0 #[.val (.ref a1)] [])) t → Steps p.tables e below (s₁.setTop (entryFrame m #[(.ref a1)] 1)) t := fun t kt => castTop (ef_O m a1) kt
  obtain ⟨T101, X101, e101, st101⟩ := getF X0 hx hZ hown (host := "") (Or.inl (hw _ (List.mem_of_getElem? (i := 20) rfl))) Via.refl e0 F1 (g := (mkF m 1 #[.val (.ref a1)] [(.ref a1)])) rfl rfl (hb hby dO_1)
  have P102 : ∀ t, Steps p.tables e below (T101.setTop (mkF m 4 #[.val (.ref a1)] [(.int k)])) t → Steps p.tables e below (s₁.setTop (entryFrame m #[(.ref a1)] 1)) t := fun t kt => P0 t (by
    show Steps p.tables e below (s₁.setTop (mkF m 0 #[.val (.ref a1)] [])) _
    refine XS.aloadN X0.here hx rfl (hb hby dO_0) rfl rfl ?_
    show Steps p.tables e below (s₁.setTop (mkF m 1 #[.val (.ref a1)] [(.ref a1)])) _
    refine st101 _ ?_
    exact kt)
  obtain ⟨fs, hr, hrun, hended, hW, hsame⟩ := X101.leave (v := some (.int k)) (fun h => by rw [Bd.returns] at h; cases h) (hlocks := hlk)
  refine ⟨_, _, P102 _ ?_, hrun, hended, _, _, rfl, ?_, ⟨_, rfl⟩, hW, hsame.mono (by decide) (by decide)⟩
  · show Steps p.tables e below (T101.setTop (mkF m 4 #[.val (.ref a1)] [(.int k)])) _
    exact retI X101 hx Bd.returns (hb hby dO_4) hr
  · show QP _ h0 _ T101.heap _
    exact ⟨rfl, rfl, e101⟩
theorem dK_0 : decode method_2_code 0 = .ok (.iload_n 0, 1) := by decide +kernel
theorem dK_1 : decode method_2_code 1 = .ok (.ifCond .ne 7, 3) := by decide +kernel
theorem dK_4 : decode method_2_code 4 = .ok (.getstatic 7, 3) := by decide +kernel
theorem dK_7 : decode method_2_code 7 = .ok (.areturn, 1) := by decide +kernel
theorem dK_8 : decode method_2_code 8 = .ok (.iload_n 0, 1) := by decide +kernel
theorem dK_9 : decode method_2_code 9 = .ok (.iconst 1, 1) := by decide +kernel
theorem dK_10 : decode method_2_code 10 = .ok (.if_icmp .ne 7, 3) := by decide +kernel
theorem dK_13 : decode method_2_code 13 = .ok (.getstatic 13, 3) := by decide +kernel
theorem dK_16 : decode method_2_code 16 = .ok (.areturn, 1) := by decide +kernel
theorem dK_17 : decode method_2_code 17 = .ok (.iload_n 0, 1) := by decide +kernel
theorem dK_18 : decode method_2_code 18 = .ok (.iconst 2, 1) := by decide +kernel
theorem dK_19 : decode method_2_code 19 = .ok (.if_icmp .ne 7, 3) := by decide +kernel
theorem dK_22 : decode method_2_code 22 = .ok (.getstatic 16, 3) := by decide +kernel
theorem dK_25 : decode method_2_code 25 = .ok (.areturn, 1) := by decide +kernel
theorem dK_26 : decode method_2_code 26 = .ok (.iload_n 0, 1) := by decide +kernel
theorem dK_27 : decode method_2_code 27 = .ok (.iconst 3, 1) := by decide +kernel
theorem dK_28 : decode method_2_code 28 = .ok (.if_icmp .ne 7, 3) := by decide +kernel
theorem dK_31 : decode method_2_code 31 = .ok (.getstatic 19, 3) := by decide +kernel
theorem dK_34 : decode method_2_code 34 = .ok (.areturn, 1) := by decide +kernel
theorem dK_35 : decode method_2_code 35 = .ok (.iload_n 0, 1) := by decide +kernel
theorem dK_36 : decode method_2_code 36 = .ok (.iconst 4, 1) := by decide +kernel
theorem dK_37 : decode method_2_code 37 = .ok (.if_icmp .ne 7, 3) := by decide +kernel
theorem dK_40 : decode method_2_code 40 = .ok (.getstatic 22, 3) := by decide +kernel
theorem dK_43 : decode method_2_code 43 = .ok (.areturn, 1) := by decide +kernel
theorem dK_44 : decode method_2_code 44 = .ok (.getstatic 25, 3) := by decide +kernel
theorem dK_47 : decode method_2_code 47 = .ok (.areturn, 1) := by decide +kernel
theorem ef_K (m : MethodId) (x0 : Int32) : entryFrame m #[(.int x0)] 1 = mkF m 0 #[.val (.int x0)] [] := by first | (simp [entryFrame, mkF, argsToLocals, Value.category]; done) | rfl
set_option maxRecDepth 65536 in
set_option maxHeartbeats 40000000 in
theorem rmK (l : Launch) (Z : State) (a0 : Array Value) (hw : ∀ d ∈ tables_1, d.before a0 Z = true) (ws : List Jvm.Cond) (k : Int32) (w_EQ w_NE w_LT w_GE w_GT w_LE a : Addr) (h0 : Heap) (S_EQ : Sta Z h0 "com/example/probex/probex/symbolic/Relation" "EQ" "Lcom/example/probex/probex/symbolic/Relation;" (.ref w_EQ)) (S_NE : Sta Z h0 "com/example/probex/probex/symbolic/Relation" "NE" "Lcom/example/probex/probex/symbolic/Relation;" (.ref w_NE)) (S_LT : Sta Z h0 "com/example/probex/probex/symbolic/Relation" "LT" "Lcom/example/probex/probex/symbolic/Relation;" (.ref w_LT)) (S_GE : Sta Z h0 "com/example/probex/probex/symbolic/Relation" "GE" "Lcom/example/probex/probex/symbolic/Relation;" (.ref w_GE)) (S_GT : Sta Z h0 "com/example/probex/probex/symbolic/Relation" "GT" "Lcom/example/probex/probex/symbolic/Relation;" (.ref w_GT)) (S_LE : Sta Z h0 "com/example/probex/probex/symbolic/Relation" "LE" "Lcom/example/probex/probex/symbolic/Relation;" (.ref w_LE)) (hk : pk k w_EQ w_NE w_LT w_GE w_GT w_LE = a) :
    MetFree l (⟨"com/example/probex/probex/symbolic/RelationNegatePinLaw", "pick", "(I)Lcom/example/probex/probex/symbolic/Relation;"⟩ : MethodName) (head1 (Jvm.Cond.code (⟨"com/example/probex/probex/symbolic/RelationNegatePinLaw", "pick", "(I)Lcom/example/probex/probex/symbolic/Relation;"⟩ : MethodName) method_2_code 1 (some (.object "com/example/probex/probex/symbolic/Relation")) :: ws) ({ frames := 0, cells := 0, slots := 0, locals := 0 } : Room)) (fun a U => a = #[(.int k)] ∧ Z.Warmed39 U.vm ∧ U.heap = h0) (fun _ _ _ _ _ => True) (fun _ U o U' => ∃ v L, o = .returned v ∧ QP (some (.ref a)) h0 v U'.heap L ∧ FrameEnd U o U' L ({ frames := 0, cells := 0, slots := 0, locals := 0 } : Room).cells ({ frames := 0, cells := 0, slots := 0, locals := 0 } : Room).slots) := by
  refine MetFree.of_bodySF (plainFor_of_name (by first | (simp [plainName, overriddenIn]; done) | decide +kernel)) hisR ?_
  intro p e s m args below meth c s₁ Bd hml0 hP hK
  obtain ⟨rfl, hZ, hh⟩ := hP
  have hx := Bd.exec
  have hby := Bd.bytes
  have hml : c.maxLocals = 1 := hml0
  have hown : s.vm.findClass "com/example/probex/probex/symbolic/RelationNegatePinLaw" = some m.cls := findClass_of_methodNamed Bd.named
  have hnm := (name_of_methodNamed Bd.named Bd.method).1
  have hlk : meth.locks = false := BodyLoose.notSynchronized Bd
  have X0 : Stand p l e ({ frames := 0, cells := 0, slots := 0, locals := 0 } : Room) s m #[(.int k)] below meth c s₁ [] 0 0 := Stand.of_body Bd
  have e0 : s₁.heap = h0 := by rw [← hh, Bd.state]; rfl
  have P0 : ∀ t, Steps p.tables e below (s₁.setTop (mkF m 0 #[.val (.int k)] [])) t → Steps p.tables e below (s₁.setTop (entryFrame m #[(.int k)] 1)) t := fun t kt => castTop (ef_K m k) kt
  have P101 : ∀ t, Steps p.tables e below (s₁.setTop (mkF m 1 #[.val (.int k)] [(.int k)])) t → Steps p.tables e below (s₁.setTop (entryFrame m #[(.int k)] 1)) t := fun t kt => P0 t (by
    show Steps p.tables e below (s₁.setTop (mkF m 0 #[.val (.int k)] [])) _
    refine XS.iloadN X0.here hx rfl (hb hby dK_0) rfl ?_
    exact kt)
  by_cases hc1_102 : k = (0 : Int32)
  · obtain ⟨T103, X103, e103, st103⟩ := getS2 X0 hx hZ hown (host := "") (Or.inl (hw _ (List.mem_of_getElem? (i := 5) rfl))) Via.refl e0 S_EQ (g := (mkF m 4 #[.val (.int k)] [])) rfl (hb hby dK_4)
    have P104 : ∀ t, Steps p.tables e below (T103.setTop (mkF m 7 #[.val (.int k)] [(.ref w_EQ)])) t → Steps p.tables e below (s₁.setTop (entryFrame m #[(.int k)] 1)) t := fun t kt => P101 t (by
      show Steps p.tables e below (s₁.setTop (mkF m 1 #[.val (.int k)] [(.int k)])) _
      refine XS.ifNo X0.here hx rfl (hb hby dK_1) rfl ((if0 _ _).trans (teq hc1_102).2) ?_
      show Steps p.tables e below (s₁.setTop (mkF m 4 #[.val (.int k)] [])) _
      refine st103 _ ?_
      exact kt)
    obtain ⟨fs, hr, hrun, hended, hW, hsame⟩ := X103.leave (v := some (.ref w_EQ)) (fun h => by rw [Bd.returns] at h; cases h) (hlocks := hlk)
    refine ⟨_, _, P104 _ ?_, hrun, hended, _, _, rfl, ?_, ⟨_, rfl⟩, hW, hsame.mono (by decide) (by decide)⟩
    · show Steps p.tables e below (T103.setTop (mkF m 7 #[.val (.int k)] [(.ref w_EQ)])) _
      exact X103.areturnOut hx (w := (.ref w_EQ)) rfl Bd.returns rfl (hb hby dK_7) hr
    · show QP _ h0 _ T103.heap _
      have ev : a = w_EQ := by rw [← hk]; unfold pk; rw [if_pos hc1_102]
      rw [ev]
      exact ⟨rfl, rfl, e103⟩
  · have P105 : ∀ t, Steps p.tables e below (s₁.setTop (mkF m 10 #[.val (.int k)] [(.int (1 : Int32)), (.int k)])) t → Steps p.tables e below (s₁.setTop (entryFrame m #[(.int k)] 1)) t := fun t kt => P101 t (by
      show Steps p.tables e below (s₁.setTop (mkF m 1 #[.val (.int k)] [(.int k)])) _
      refine XS.ifYes X0.here hx rfl (pc0 := 1) (pc' := 8) rfl (hb hby dK_1) rfl ((if0 _ _).trans (feq hc1_102).2) (by decide) (by decide) ?_
      show Steps p.tables e below (s₁.setTop (mkF m 8 #[.val (.int k)] [])) _
      refine XS.iloadN X0.here hx rfl (hb hby dK_8) rfl ?_
      show Steps p.tables e below (s₁.setTop (mkF m 9 #[.val (.int k)] [(.int k)])) _
      refine XS.iconst X0.here hx rfl (hb hby dK_9) ?_
      exact kt)
    by_cases hc10_106 : k = (1 : Int32)
    · obtain ⟨T107, X107, e107, st107⟩ := getS2 X0 hx hZ hown (host := "") (Or.inl (hw _ (List.mem_of_getElem? (i := 39) rfl))) Via.refl e0 S_NE (g := (mkF m 13 #[.val (.int k)] [])) rfl (hb hby dK_13)
      have P108 : ∀ t, Steps p.tables e below (T107.setTop (mkF m 16 #[.val (.int k)] [(.ref w_NE)])) t → Steps p.tables e below (s₁.setTop (entryFrame m #[(.int k)] 1)) t := fun t kt => P105 t (by
        show Steps p.tables e below (s₁.setTop (mkF m 10 #[.val (.int k)] [(.int (1 : Int32)), (.int k)])) _
        refine XS.icmpNo X0.here hx rfl (hb hby dK_10) rfl (teq hc10_106).2 ?_
        show Steps p.tables e below (s₁.setTop (mkF m 13 #[.val (.int k)] [])) _
        refine st107 _ ?_
        exact kt)
      obtain ⟨fs, hr, hrun, hended, hW, hsame⟩ := X107.leave (v := some (.ref w_NE)) (fun h => by rw [Bd.returns] at h; cases h) (hlocks := hlk)
      refine ⟨_, _, P108 _ ?_, hrun, hended, _, _, rfl, ?_, ⟨_, rfl⟩, hW, hsame.mono (by decide) (by decide)⟩
      · show Steps p.tables e below (T107.setTop (mkF m 16 #[.val (.int k)] [(.ref w_NE)])) _
        exact X107.areturnOut hx (w := (.ref w_NE)) rfl Bd.returns rfl (hb hby dK_16) hr
      · show QP _ h0 _ T107.heap _
        have ev : a = w_NE := by rw [← hk]; unfold pk; rw [if_neg hc1_102, if_pos hc10_106]
        rw [ev]
        exact ⟨rfl, rfl, e107⟩
    · have P109 : ∀ t, Steps p.tables e below (s₁.setTop (mkF m 19 #[.val (.int k)] [(.int (2 : Int32)), (.int k)])) t → Steps p.tables e below (s₁.setTop (entryFrame m #[(.int k)] 1)) t := fun t kt => P105 t (by
        show Steps p.tables e below (s₁.setTop (mkF m 10 #[.val (.int k)] [(.int (1 : Int32)), (.int k)])) _
        refine XS.icmpYes X0.here hx rfl (pc0 := 10) (pc' := 17) rfl (hb hby dK_10) rfl (feq hc10_106).2 (by decide) (by decide) ?_
        show Steps p.tables e below (s₁.setTop (mkF m 17 #[.val (.int k)] [])) _
        refine XS.iloadN X0.here hx rfl (hb hby dK_17) rfl ?_
        show Steps p.tables e below (s₁.setTop (mkF m 18 #[.val (.int k)] [(.int k)])) _
        refine XS.iconst X0.here hx rfl (hb hby dK_18) ?_
        exact kt)
      by_cases hc19_110 : k = (2 : Int32)
      · obtain ⟨T111, X111, e111, st111⟩ := getS2 X0 hx hZ hown (host := "") (Or.inl (hw _ (List.mem_of_getElem? (i := 41) rfl))) Via.refl e0 S_LT (g := (mkF m 22 #[.val (.int k)] [])) rfl (hb hby dK_22)
        have P112 : ∀ t, Steps p.tables e below (T111.setTop (mkF m 25 #[.val (.int k)] [(.ref w_LT)])) t → Steps p.tables e below (s₁.setTop (entryFrame m #[(.int k)] 1)) t := fun t kt => P109 t (by
          show Steps p.tables e below (s₁.setTop (mkF m 19 #[.val (.int k)] [(.int (2 : Int32)), (.int k)])) _
          refine XS.icmpNo X0.here hx rfl (hb hby dK_19) rfl (teq hc19_110).2 ?_
          show Steps p.tables e below (s₁.setTop (mkF m 22 #[.val (.int k)] [])) _
          refine st111 _ ?_
          exact kt)
        obtain ⟨fs, hr, hrun, hended, hW, hsame⟩ := X111.leave (v := some (.ref w_LT)) (fun h => by rw [Bd.returns] at h; cases h) (hlocks := hlk)
        refine ⟨_, _, P112 _ ?_, hrun, hended, _, _, rfl, ?_, ⟨_, rfl⟩, hW, hsame.mono (by decide) (by decide)⟩
        · show Steps p.tables e below (T111.setTop (mkF m 25 #[.val (.int k)] [(.ref w_LT)])) _
          exact X111.areturnOut hx (w := (.ref w_LT)) rfl Bd.returns rfl (hb hby dK_25) hr
        · show QP _ h0 _ T111.heap _
          have ev : a = w_LT := by rw [← hk]; unfold pk; rw [if_neg hc1_102, if_neg hc10_106, if_pos hc19_110]
          rw [ev]
          exact ⟨rfl, rfl, e111⟩
      · have P113 : ∀ t, Steps p.tables e below (s₁.setTop (mkF m 28 #[.val (.int k)] [(.int (3 : Int32)), (.int k)])) t → Steps p.tables e below (s₁.setTop (entryFrame m #[(.int k)] 1)) t := fun t kt => P109 t (by
          show Steps p.tables e below (s₁.setTop (mkF m 19 #[.val (.int k)] [(.int (2 : Int32)), (.int k)])) _
          refine XS.icmpYes X0.here hx rfl (pc0 := 19) (pc' := 26) rfl (hb hby dK_19) rfl (feq hc19_110).2 (by decide) (by decide) ?_
          show Steps p.tables e below (s₁.setTop (mkF m 26 #[.val (.int k)] [])) _
          refine XS.iloadN X0.here hx rfl (hb hby dK_26) rfl ?_
          show Steps p.tables e below (s₁.setTop (mkF m 27 #[.val (.int k)] [(.int k)])) _
          refine XS.iconst X0.here hx rfl (hb hby dK_27) ?_
          exact kt)
        by_cases hc28_114 : k = (3 : Int32)
        · obtain ⟨T115, X115, e115, st115⟩ := getS2 X0 hx hZ hown (host := "") (Or.inl (hw _ (List.mem_of_getElem? (i := 35) rfl))) Via.refl e0 S_GE (g := (mkF m 31 #[.val (.int k)] [])) rfl (hb hby dK_31)
          have P116 : ∀ t, Steps p.tables e below (T115.setTop (mkF m 34 #[.val (.int k)] [(.ref w_GE)])) t → Steps p.tables e below (s₁.setTop (entryFrame m #[(.int k)] 1)) t := fun t kt => P113 t (by
            show Steps p.tables e below (s₁.setTop (mkF m 28 #[.val (.int k)] [(.int (3 : Int32)), (.int k)])) _
            refine XS.icmpNo X0.here hx rfl (hb hby dK_28) rfl (teq hc28_114).2 ?_
            show Steps p.tables e below (s₁.setTop (mkF m 31 #[.val (.int k)] [])) _
            refine st115 _ ?_
            exact kt)
          obtain ⟨fs, hr, hrun, hended, hW, hsame⟩ := X115.leave (v := some (.ref w_GE)) (fun h => by rw [Bd.returns] at h; cases h) (hlocks := hlk)
          refine ⟨_, _, P116 _ ?_, hrun, hended, _, _, rfl, ?_, ⟨_, rfl⟩, hW, hsame.mono (by decide) (by decide)⟩
          · show Steps p.tables e below (T115.setTop (mkF m 34 #[.val (.int k)] [(.ref w_GE)])) _
            exact X115.areturnOut hx (w := (.ref w_GE)) rfl Bd.returns rfl (hb hby dK_34) hr
          · show QP _ h0 _ T115.heap _
            have ev : a = w_GE := by rw [← hk]; unfold pk; rw [if_neg hc1_102, if_neg hc10_106, if_neg hc19_110, if_pos hc28_114]
            rw [ev]
            exact ⟨rfl, rfl, e115⟩
        · have P117 : ∀ t, Steps p.tables e below (s₁.setTop (mkF m 37 #[.val (.int k)] [(.int (4 : Int32)), (.int k)])) t → Steps p.tables e below (s₁.setTop (entryFrame m #[(.int k)] 1)) t := fun t kt => P113 t (by
            show Steps p.tables e below (s₁.setTop (mkF m 28 #[.val (.int k)] [(.int (3 : Int32)), (.int k)])) _
            refine XS.icmpYes X0.here hx rfl (pc0 := 28) (pc' := 35) rfl (hb hby dK_28) rfl (feq hc28_114).2 (by decide) (by decide) ?_
            show Steps p.tables e below (s₁.setTop (mkF m 35 #[.val (.int k)] [])) _
            refine XS.iloadN X0.here hx rfl (hb hby dK_35) rfl ?_
            show Steps p.tables e below (s₁.setTop (mkF m 36 #[.val (.int k)] [(.int k)])) _
            refine XS.iconst X0.here hx rfl (hb hby dK_36) ?_
            exact kt)
          by_cases hc37_118 : k = (4 : Int32)
          · obtain ⟨T119, X119, e119, st119⟩ := getS2 X0 hx hZ hown (host := "") (Or.inl (hw _ (List.mem_of_getElem? (i := 29) rfl))) Via.refl e0 S_GT (g := (mkF m 40 #[.val (.int k)] [])) rfl (hb hby dK_40)
            have P120 : ∀ t, Steps p.tables e below (T119.setTop (mkF m 43 #[.val (.int k)] [(.ref w_GT)])) t → Steps p.tables e below (s₁.setTop (entryFrame m #[(.int k)] 1)) t := fun t kt => P117 t (by
              show Steps p.tables e below (s₁.setTop (mkF m 37 #[.val (.int k)] [(.int (4 : Int32)), (.int k)])) _
              refine XS.icmpNo X0.here hx rfl (hb hby dK_37) rfl (teq hc37_118).2 ?_
              show Steps p.tables e below (s₁.setTop (mkF m 40 #[.val (.int k)] [])) _
              refine st119 _ ?_
              exact kt)
            obtain ⟨fs, hr, hrun, hended, hW, hsame⟩ := X119.leave (v := some (.ref w_GT)) (fun h => by rw [Bd.returns] at h; cases h) (hlocks := hlk)
            refine ⟨_, _, P120 _ ?_, hrun, hended, _, _, rfl, ?_, ⟨_, rfl⟩, hW, hsame.mono (by decide) (by decide)⟩
            · show Steps p.tables e below (T119.setTop (mkF m 43 #[.val (.int k)] [(.ref w_GT)])) _
              exact X119.areturnOut hx (w := (.ref w_GT)) rfl Bd.returns rfl (hb hby dK_43) hr
            · show QP _ h0 _ T119.heap _
              have ev : a = w_GT := by rw [← hk]; unfold pk; rw [if_neg hc1_102, if_neg hc10_106, if_neg hc19_110, if_neg hc28_114, if_pos hc37_118]
              rw [ev]
              exact ⟨rfl, rfl, e119⟩
          · obtain ⟨T121, X121, e121, st121⟩ := getS2 X0 hx hZ hown (host := "") (Or.inl (hw _ (List.mem_of_getElem? (i := 33) rfl))) Via.refl e0 S_LE (g := (mkF m 44 #[.val (.int k)] [])) rfl (hb hby dK_44)
            have P122 : ∀ t, Steps p.tables e below (T121.setTop (mkF m 47 #[.val (.int k)] [(.ref w_LE)])) t → Steps p.tables e below (s₁.setTop (entryFrame m #[(.int k)] 1)) t := fun t kt => P117 t (by
              show Steps p.tables e below (s₁.setTop (mkF m 37 #[.val (.int k)] [(.int (4 : Int32)), (.int k)])) _
              refine XS.icmpYes X0.here hx rfl (pc0 := 37) (pc' := 44) rfl (hb hby dK_37) rfl (feq hc37_118).2 (by decide) (by decide) ?_
              show Steps p.tables e below (s₁.setTop (mkF m 44 #[.val (.int k)] [])) _
              refine st121 _ ?_
              exact kt)
            obtain ⟨fs, hr, hrun, hended, hW, hsame⟩ := X121.leave (v := some (.ref w_LE)) (fun h => by rw [Bd.returns] at h; cases h) (hlocks := hlk)
            refine ⟨_, _, P122 _ ?_, hrun, hended, _, _, rfl, ?_, ⟨_, rfl⟩, hW, hsame.mono (by decide) (by decide)⟩
            · show Steps p.tables e below (T121.setTop (mkF m 47 #[.val (.int k)] [(.ref w_LE)])) _
              exact X121.areturnOut hx (w := (.ref w_LE)) rfl Bd.returns rfl (hb hby dK_47) hr
            · show QP _ h0 _ T121.heap _
              have ev : a = w_LE := by rw [← hk]; unfold pk; rw [if_neg hc1_102, if_neg hc10_106, if_neg hc19_110, if_neg hc28_114, if_neg hc37_118]
              rw [ev]
              exact ⟨rfl, rfl, e121⟩
theorem dG_0 : decode prog_28_method_5_code 0 = .ok (.aload_n 0, 1) := by decide +kernel
theorem dG_1 : decode prog_28_method_5_code 1 = .ok (.invokevirtual 45, 3) := by decide +kernel
theorem dG_4 : decode prog_28_method_5_code 4 = .ok (.tableswitch 40 0 5 #[50, 56, 62, 68, 74, 80], 40) := by decide +kernel
theorem dG_54 : decode prog_28_method_5_code 54 = .ok (.getstatic 7, 3) := by decide +kernel
theorem dG_57 : decode prog_28_method_5_code 57 = .ok (.goto 30, 3) := by decide +kernel
theorem dG_60 : decode prog_28_method_5_code 60 = .ok (.getstatic 3, 3) := by decide +kernel
theorem dG_63 : decode prog_28_method_5_code 63 = .ok (.goto 24, 3) := by decide +kernel
theorem dG_66 : decode prog_28_method_5_code 66 = .ok (.getstatic 13, 3) := by decide +kernel
theorem dG_69 : decode prog_28_method_5_code 69 = .ok (.goto 18, 3) := by decide +kernel
theorem dG_72 : decode prog_28_method_5_code 72 = .ok (.getstatic 10, 3) := by decide +kernel
theorem dG_75 : decode prog_28_method_5_code 75 = .ok (.goto 12, 3) := by decide +kernel
theorem dG_78 : decode prog_28_method_5_code 78 = .ok (.getstatic 19, 3) := by decide +kernel
theorem dG_81 : decode prog_28_method_5_code 81 = .ok (.goto 6, 3) := by decide +kernel
theorem dG_84 : decode prog_28_method_5_code 84 = .ok (.getstatic 16, 3) := by decide +kernel
theorem dG_87 : decode prog_28_method_5_code 87 = .ok (.areturn, 1) := by decide +kernel
theorem ef_G (m : MethodId) (x0 : Addr) : entryFrame m #[(.ref x0)] 1 = mkF m 0 #[.val (.ref x0)] [] := by first | (simp [entryFrame, mkF, argsToLocals, Value.category]; done) | rfl
set_option maxRecDepth 65536 in
set_option maxHeartbeats 40000000 in
theorem rmG (l : Launch) (Z : State) (a0 : Array Value) (hw : ∀ d ∈ tables_1, d.before a0 Z = true) (ws : List Jvm.Cond) (a1 : Addr) (k : Int32) (w_EQ w_NE w_LT w_GE w_GT w_LE a : Addr) (h0 : Heap) (S_EQ : Sta Z h0 "com/example/probex/probex/symbolic/Relation" "EQ" "Lcom/example/probex/probex/symbolic/Relation;" (.ref w_EQ)) (S_NE : Sta Z h0 "com/example/probex/probex/symbolic/Relation" "NE" "Lcom/example/probex/probex/symbolic/Relation;" (.ref w_NE)) (S_LT : Sta Z h0 "com/example/probex/probex/symbolic/Relation" "LT" "Lcom/example/probex/probex/symbolic/Relation;" (.ref w_LT)) (S_GE : Sta Z h0 "com/example/probex/probex/symbolic/Relation" "GE" "Lcom/example/probex/probex/symbolic/Relation;" (.ref w_GE)) (S_GT : Sta Z h0 "com/example/probex/probex/symbolic/Relation" "GT" "Lcom/example/probex/probex/symbolic/Relation;" (.ref w_GT)) (S_LE : Sta Z h0 "com/example/probex/probex/symbolic/Relation" "LE" "Lcom/example/probex/probex/symbolic/Relation;" (.ref w_LE)) (E1 : Exa Z h0 a1 "com/example/probex/probex/symbolic/Relation") (F1 : Fld Z h0 a1 "java/lang/Enum" "ordinal" "I" (.int k)) (hk : k = (0 : Int32) ∨ k = (1 : Int32) ∨ k = (2 : Int32) ∨ k = (3 : Int32) ∨ k = (4 : Int32) ∨ k = (5 : Int32)) (hg : ng k w_EQ w_NE w_LT w_GE w_GT w_LE = a) :
    MetFree l (⟨"com/example/probex/probex/symbolic/Relation", "negate", "()Lcom/example/probex/probex/symbolic/Relation;"⟩ : MethodName) (head1 (Jvm.Cond.code (⟨"com/example/probex/probex/symbolic/Relation", "negate", "()Lcom/example/probex/probex/symbolic/Relation;"⟩ : MethodName) prog_28_method_5_code 1 (some (.object "com/example/probex/probex/symbolic/Relation")) :: ws) ({ frames := 1, cells := 0, slots := 0, locals := 12 } : Room)) (fun a U => a = #[(.ref a1)] ∧ Z.Warmed39 U.vm ∧ U.heap = h0) (fun _ _ _ _ _ => True) (fun _ U o U' => ∃ v L, o = .returned v ∧ QP (some (.ref a)) h0 v U'.heap L ∧ FrameEnd U o U' L ({ frames := 1, cells := 0, slots := 0, locals := 12 } : Room).cells ({ frames := 1, cells := 0, slots := 0, locals := 12 } : Room).slots) := by
  refine MetFree.of_bodySF (plainFor_of_name (by first | (simp [plainName, overriddenIn]; done) | decide +kernel)) hisR ?_
  intro p e s m args below meth c s₁ Bd hml0 hP hK
  obtain ⟨rfl, hZ, hh⟩ := hP
  have hx := Bd.exec
  have hby := Bd.bytes
  have hml : c.maxLocals = 1 := hml0
  have hown : s.vm.findClass "com/example/probex/probex/symbolic/Relation" = some m.cls := findClass_of_methodNamed Bd.named
  have hnm := (name_of_methodNamed Bd.named Bd.method).1
  have hlk : meth.locks = false := BodyLoose.notSynchronized Bd
  have X0 : Stand p l e ({ frames := 1, cells := 0, slots := 0, locals := 12 } : Room) s m #[(.ref a1)] below meth c s₁ [] 0 0 := Stand.of_body Bd
  have e0 : s₁.heap = h0 := by rw [← hh, Bd.state]; rfl
  have P0 : ∀ t, Steps p.tables e below (s₁.setTop (mkF m 0 #[.val (.ref a1)] [])) t → Steps p.tables e below (s₁.setTop (entryFrame m #[(.ref a1)] 1)) t := fun t kt => castTop (ef_G m a1) kt
  obtain ⟨cq101, kq101, q101a, q101b, q101c⟩ := isOf hZ e0 E1
  obtain ⟨_, _, ⟨T101, L101, k101, n101⟩, -, X101, ⟨Lc101, hQ101, l101, y101, z101⟩, st101⟩ := X0.virtualBackUp hx (x := (⟨"com/example/probex/probex/symbolic/Relation", "ordinal", "()I"⟩ : MethodName)) (y := (⟨"java/lang/Enum", "ordinal", "()I"⟩ : MethodName)) hown (mvT hZ (hw _ (List.mem_of_getElem? (i := 13) rfl))) (mvT hZ (hw _ (List.mem_of_getElem? (i := 14) rfl))) (mvT hZ (hw _ (List.mem_of_getElem? (i := 15) rfl))) (by decide) (mvT hZ (hw _ (List.mem_of_getElem? (i := 17) rfl))) (mvT hZ (hw _ (List.mem_of_getElem? (i := 16) rfl))) (backOf (W := 0)  (rmO l Z a0 hw [] a1 k h0 F1) hZ (hw _ (List.mem_of_getElem? (i := 19) rfl)) (hw _ (List.mem_of_getElem? (i := 18) rfl)) (by decide) (by decide)) q101a q101c (g := (mkF m 1 #[.val (.ref a1)] [(.ref a1)])) rfl (by rw [hml]; rfl) (Steps.refl _) (argsL := []) (rest := []) (lenOf pd___I rfl) rfl (by show 2 * 0 + _ ≤ _; exact Nat.le_of_eq rfl) (hb hby dG_1) (fun _ _ => ⟨rfl, e0, (by decide : 0 + 0 ≤ _), (by decide : 0 + 0 ≤ _)⟩)
  dsimp only [Pt.U, Pt.locs, Pt.cells, Pt.slots] at X101 l101 y101 z101 st101 hQ101
  subst l101 y101 z101
  obtain ⟨rfl, rfl, e101⟩ := hQ101
  have X101 : Stand p l e ({ frames := 1, cells := 0, slots := 0, locals := 12 } : Room) s m #[(.ref a1)] below meth c T101 [] 0 0 := X101
  have P102 : ∀ t, Steps p.tables e below (T101.setTop (mkF m 4 #[.val (.ref a1)] [(.int k)])) t → Steps p.tables e below (s₁.setTop (entryFrame m #[(.ref a1)] 1)) t := fun t kt => P0 t (by
    show Steps p.tables e below (s₁.setTop (mkF m 0 #[.val (.ref a1)] [])) _
    refine XS.aloadN X0.here hx rfl (hb hby dG_0) rfl rfl ?_
    show Steps p.tables e below (s₁.setTop (mkF m 1 #[.val (.ref a1)] [(.ref a1)])) _
    refine st101.trans ?_
    exact kt)
  rcases hk with rfl | rfl | rfl | rfl | rfl | rfl
  · obtain ⟨T103, X103, e103, st103⟩ := getS2 X101 hx hZ hown (host := "") (Or.inl (hw _ (List.mem_of_getElem? (i := 22) rfl))) Via.refl e101 S_NE (g := (mkF m 54 #[.val (.ref a1)] [])) rfl (hb hby dG_54)
    have P104 : ∀ t, Steps p.tables e below (T103.setTop (mkF m 87 #[.val (.ref a1)] [(.ref w_NE)])) t → Steps p.tables e below (s₁.setTop (entryFrame m #[(.ref a1)] 1)) t := fun t kt => P102 t (by
      show Steps p.tables e below (T101.setTop (mkF m 4 #[.val (.ref a1)] [(.int (0 : Int32))])) _
      refine XS.tswIn X101.here hx rfl (pc0 := 4) (pc' := 54) (o := 50) rfl (hb hby dG_4) rfl (by decide) (by decide) (by decide) (by decide) ?_
      show Steps p.tables e below (T101.setTop (mkF m 54 #[.val (.ref a1)] [])) _
      refine st103 _ ?_
      show Steps p.tables e below (T103.setTop (mkF m 57 #[.val (.ref a1)] [(.ref w_NE)])) _
      refine XS.goto X103.here hx rfl (pc0 := 57) (pc' := 87) rfl (hb hby dG_57) (by decide) (by decide) ?_
      exact kt)
    obtain ⟨fs, hr, hrun, hended, hW, hsame⟩ := X103.leave (v := some (.ref w_NE)) (fun h => by rw [Bd.returns] at h; cases h) (hlocks := hlk)
    refine ⟨_, _, P104 _ ?_, hrun, hended, _, _, rfl, ?_, ⟨_, rfl⟩, hW, hsame.mono (by decide) (by decide)⟩
    · show Steps p.tables e below (T103.setTop (mkF m 87 #[.val (.ref a1)] [(.ref w_NE)])) _
      exact X103.areturnOut hx (w := (.ref w_NE)) rfl Bd.returns rfl (hb hby dG_87) hr
    · show QP _ h0 _ T103.heap _
      have ev : a = w_NE := hg.symm
      rw [ev]
      exact ⟨rfl, rfl, e103⟩
  · obtain ⟨T105, X105, e105, st105⟩ := getS2 X101 hx hZ hown (host := "") (Or.inl (hw _ (List.mem_of_getElem? (i := 40) rfl))) Via.refl e101 S_EQ (g := (mkF m 60 #[.val (.ref a1)] [])) rfl (hb hby dG_60)
    have P106 : ∀ t, Steps p.tables e below (T105.setTop (mkF m 87 #[.val (.ref a1)] [(.ref w_EQ)])) t → Steps p.tables e below (s₁.setTop (entryFrame m #[(.ref a1)] 1)) t := fun t kt => P102 t (by
      show Steps p.tables e below (T101.setTop (mkF m 4 #[.val (.ref a1)] [(.int (1 : Int32))])) _
      refine XS.tswIn X101.here hx rfl (pc0 := 4) (pc' := 60) (o := 56) rfl (hb hby dG_4) rfl (by decide) (by decide) (by decide) (by decide) ?_
      show Steps p.tables e below (T101.setTop (mkF m 60 #[.val (.ref a1)] [])) _
      refine st105 _ ?_
      show Steps p.tables e below (T105.setTop (mkF m 63 #[.val (.ref a1)] [(.ref w_EQ)])) _
      refine XS.goto X105.here hx rfl (pc0 := 63) (pc' := 87) rfl (hb hby dG_63) (by decide) (by decide) ?_
      exact kt)
    obtain ⟨fs, hr, hrun, hended, hW, hsame⟩ := X105.leave (v := some (.ref w_EQ)) (fun h => by rw [Bd.returns] at h; cases h) (hlocks := hlk)
    refine ⟨_, _, P106 _ ?_, hrun, hended, _, _, rfl, ?_, ⟨_, rfl⟩, hW, hsame.mono (by decide) (by decide)⟩
    · show Steps p.tables e below (T105.setTop (mkF m 87 #[.val (.ref a1)] [(.ref w_EQ)])) _
      exact X105.areturnOut hx (w := (.ref w_EQ)) rfl Bd.returns rfl (hb hby dG_87) hr
    · show QP _ h0 _ T105.heap _
      have ev : a = w_EQ := hg.symm
      rw [ev]
      exact ⟨rfl, rfl, e105⟩
  · obtain ⟨T107, X107, e107, st107⟩ := getS2 X101 hx hZ hown (host := "") (Or.inl (hw _ (List.mem_of_getElem? (i := 42) rfl))) Via.refl e101 S_GE (g := (mkF m 66 #[.val (.ref a1)] [])) rfl (hb hby dG_66)
    have P108 : ∀ t, Steps p.tables e below (T107.setTop (mkF m 87 #[.val (.ref a1)] [(.ref w_GE)])) t → Steps p.tables e below (s₁.setTop (entryFrame m #[(.ref a1)] 1)) t := fun t kt => P102 t (by
      show Steps p.tables e below (T101.setTop (mkF m 4 #[.val (.ref a1)] [(.int (2 : Int32))])) _
      refine XS.tswIn X101.here hx rfl (pc0 := 4) (pc' := 66) (o := 62) rfl (hb hby dG_4) rfl (by decide) (by decide) (by decide) (by decide) ?_
      show Steps p.tables e below (T101.setTop (mkF m 66 #[.val (.ref a1)] [])) _
      refine st107 _ ?_
      show Steps p.tables e below (T107.setTop (mkF m 69 #[.val (.ref a1)] [(.ref w_GE)])) _
      refine XS.goto X107.here hx rfl (pc0 := 69) (pc' := 87) rfl (hb hby dG_69) (by decide) (by decide) ?_
      exact kt)
    obtain ⟨fs, hr, hrun, hended, hW, hsame⟩ := X107.leave (v := some (.ref w_GE)) (fun h => by rw [Bd.returns] at h; cases h) (hlocks := hlk)
    refine ⟨_, _, P108 _ ?_, hrun, hended, _, _, rfl, ?_, ⟨_, rfl⟩, hW, hsame.mono (by decide) (by decide)⟩
    · show Steps p.tables e below (T107.setTop (mkF m 87 #[.val (.ref a1)] [(.ref w_GE)])) _
      exact X107.areturnOut hx (w := (.ref w_GE)) rfl Bd.returns rfl (hb hby dG_87) hr
    · show QP _ h0 _ T107.heap _
      have ev : a = w_GE := hg.symm
      rw [ev]
      exact ⟨rfl, rfl, e107⟩
  · obtain ⟨T109, X109, e109, st109⟩ := getS2 X101 hx hZ hown (host := "") (Or.inl (hw _ (List.mem_of_getElem? (i := 37) rfl))) Via.refl e101 S_LT (g := (mkF m 72 #[.val (.ref a1)] [])) rfl (hb hby dG_72)
    have P110 : ∀ t, Steps p.tables e below (T109.setTop (mkF m 87 #[.val (.ref a1)] [(.ref w_LT)])) t → Steps p.tables e below (s₁.setTop (entryFrame m #[(.ref a1)] 1)) t := fun t kt => P102 t (by
      show Steps p.tables e below (T101.setTop (mkF m 4 #[.val (.ref a1)] [(.int (3 : Int32))])) _
      refine XS.tswIn X101.here hx rfl (pc0 := 4) (pc' := 72) (o := 68) rfl (hb hby dG_4) rfl (by decide) (by decide) (by decide) (by decide) ?_
      show Steps p.tables e below (T101.setTop (mkF m 72 #[.val (.ref a1)] [])) _
      refine st109 _ ?_
      show Steps p.tables e below (T109.setTop (mkF m 75 #[.val (.ref a1)] [(.ref w_LT)])) _
      refine XS.goto X109.here hx rfl (pc0 := 75) (pc' := 87) rfl (hb hby dG_75) (by decide) (by decide) ?_
      exact kt)
    obtain ⟨fs, hr, hrun, hended, hW, hsame⟩ := X109.leave (v := some (.ref w_LT)) (fun h => by rw [Bd.returns] at h; cases h) (hlocks := hlk)
    refine ⟨_, _, P110 _ ?_, hrun, hended, _, _, rfl, ?_, ⟨_, rfl⟩, hW, hsame.mono (by decide) (by decide)⟩
    · show Steps p.tables e below (T109.setTop (mkF m 87 #[.val (.ref a1)] [(.ref w_LT)])) _
      exact X109.areturnOut hx (w := (.ref w_LT)) rfl Bd.returns rfl (hb hby dG_87) hr
    · show QP _ h0 _ T109.heap _
      have ev : a = w_LT := hg.symm
      rw [ev]
      exact ⟨rfl, rfl, e109⟩
  · obtain ⟨T111, X111, e111, st111⟩ := getS2 X101 hx hZ hown (host := "") (Or.inl (hw _ (List.mem_of_getElem? (i := 31) rfl))) Via.refl e101 S_LE (g := (mkF m 78 #[.val (.ref a1)] [])) rfl (hb hby dG_78)
    have P112 : ∀ t, Steps p.tables e below (T111.setTop (mkF m 87 #[.val (.ref a1)] [(.ref w_LE)])) t → Steps p.tables e below (s₁.setTop (entryFrame m #[(.ref a1)] 1)) t := fun t kt => P102 t (by
      show Steps p.tables e below (T101.setTop (mkF m 4 #[.val (.ref a1)] [(.int (4 : Int32))])) _
      refine XS.tswIn X101.here hx rfl (pc0 := 4) (pc' := 78) (o := 74) rfl (hb hby dG_4) rfl (by decide) (by decide) (by decide) (by decide) ?_
      show Steps p.tables e below (T101.setTop (mkF m 78 #[.val (.ref a1)] [])) _
      refine st111 _ ?_
      show Steps p.tables e below (T111.setTop (mkF m 81 #[.val (.ref a1)] [(.ref w_LE)])) _
      refine XS.goto X111.here hx rfl (pc0 := 81) (pc' := 87) rfl (hb hby dG_81) (by decide) (by decide) ?_
      exact kt)
    obtain ⟨fs, hr, hrun, hended, hW, hsame⟩ := X111.leave (v := some (.ref w_LE)) (fun h => by rw [Bd.returns] at h; cases h) (hlocks := hlk)
    refine ⟨_, _, P112 _ ?_, hrun, hended, _, _, rfl, ?_, ⟨_, rfl⟩, hW, hsame.mono (by decide) (by decide)⟩
    · show Steps p.tables e below (T111.setTop (mkF m 87 #[.val (.ref a1)] [(.ref w_LE)])) _
      exact X111.areturnOut hx (w := (.ref w_LE)) rfl Bd.returns rfl (hb hby dG_87) hr
    · show QP _ h0 _ T111.heap _
      have ev : a = w_LE := hg.symm
      rw [ev]
      exact ⟨rfl, rfl, e111⟩
  · obtain ⟨T113, X113, e113, st113⟩ := getS2 X101 hx hZ hown (host := "") (Or.inl (hw _ (List.mem_of_getElem? (i := 34) rfl))) Via.refl e101 S_GT (g := (mkF m 84 #[.val (.ref a1)] [])) rfl (hb hby dG_84)
    have P114 : ∀ t, Steps p.tables e below (T113.setTop (mkF m 87 #[.val (.ref a1)] [(.ref w_GT)])) t → Steps p.tables e below (s₁.setTop (entryFrame m #[(.ref a1)] 1)) t := fun t kt => P102 t (by
      show Steps p.tables e below (T101.setTop (mkF m 4 #[.val (.ref a1)] [(.int (5 : Int32))])) _
      refine XS.tswIn X101.here hx rfl (pc0 := 4) (pc' := 84) (o := 80) rfl (hb hby dG_4) rfl (by decide) (by decide) (by decide) (by decide) ?_
      show Steps p.tables e below (T101.setTop (mkF m 84 #[.val (.ref a1)] [])) _
      refine st113 _ ?_
      exact kt)
    obtain ⟨fs, hr, hrun, hended, hW, hsame⟩ := X113.leave (v := some (.ref w_GT)) (fun h => by rw [Bd.returns] at h; cases h) (hlocks := hlk)
    refine ⟨_, _, P114 _ ?_, hrun, hended, _, _, rfl, ?_, ⟨_, rfl⟩, hW, hsame.mono (by decide) (by decide)⟩
    · show Steps p.tables e below (T113.setTop (mkF m 87 #[.val (.ref a1)] [(.ref w_GT)])) _
      exact X113.areturnOut hx (w := (.ref w_GT)) rfl Bd.returns rfl (hb hby dG_87) hr
    · show QP _ h0 _ T113.heap _
      have ev : a = w_GT := hg.symm
      rw [ev]
      exact ⟨rfl, rfl, e113⟩
theorem dT_0 : decode prog_28_method_4_code 0 = .ok (.aload_n 0, 1) := by decide +kernel
theorem dT_1 : decode prog_28_method_4_code 1 = .ok (.invokevirtual 45, 3) := by decide +kernel
theorem dT_4 : decode prog_28_method_4_code 4 = .ok (.tableswitch 40 0 5 #[50, 64, 78, 92, 106, 120], 40) := by decide +kernel
theorem dT_54 : decode prog_28_method_4_code 54 = .ok (.lload_n 1, 1) := by decide +kernel
theorem dT_55 : decode prog_28_method_4_code 55 = .ok (.lload_n 3, 1) := by decide +kernel
theorem dT_56 : decode prog_28_method_4_code 56 = .ok (.lcmp, 1) := by decide +kernel
theorem dT_57 : decode prog_28_method_4_code 57 = .ok (.ifCond .ne 7, 3) := by decide +kernel
theorem dT_60 : decode prog_28_method_4_code 60 = .ok (.iconst 1, 1) := by decide +kernel
theorem dT_61 : decode prog_28_method_4_code 61 = .ok (.goto 74, 3) := by decide +kernel
theorem dT_64 : decode prog_28_method_4_code 64 = .ok (.iconst 0, 1) := by decide +kernel
theorem dT_65 : decode prog_28_method_4_code 65 = .ok (.goto 70, 3) := by decide +kernel
theorem dT_68 : decode prog_28_method_4_code 68 = .ok (.lload_n 1, 1) := by decide +kernel
theorem dT_69 : decode prog_28_method_4_code 69 = .ok (.lload_n 3, 1) := by decide +kernel
theorem dT_70 : decode prog_28_method_4_code 70 = .ok (.lcmp, 1) := by decide +kernel
theorem dT_71 : decode prog_28_method_4_code 71 = .ok (.ifCond .eq 7, 3) := by decide +kernel
theorem dT_74 : decode prog_28_method_4_code 74 = .ok (.iconst 1, 1) := by decide +kernel
theorem dT_75 : decode prog_28_method_4_code 75 = .ok (.goto 60, 3) := by decide +kernel
theorem dT_78 : decode prog_28_method_4_code 78 = .ok (.iconst 0, 1) := by decide +kernel
theorem dT_79 : decode prog_28_method_4_code 79 = .ok (.goto 56, 3) := by decide +kernel
theorem dT_82 : decode prog_28_method_4_code 82 = .ok (.lload_n 1, 1) := by decide +kernel
theorem dT_83 : decode prog_28_method_4_code 83 = .ok (.lload_n 3, 1) := by decide +kernel
theorem dT_84 : decode prog_28_method_4_code 84 = .ok (.lcmp, 1) := by decide +kernel
theorem dT_85 : decode prog_28_method_4_code 85 = .ok (.ifCond .ge 7, 3) := by decide +kernel
theorem dT_88 : decode prog_28_method_4_code 88 = .ok (.iconst 1, 1) := by decide +kernel
theorem dT_89 : decode prog_28_method_4_code 89 = .ok (.goto 46, 3) := by decide +kernel
theorem dT_92 : decode prog_28_method_4_code 92 = .ok (.iconst 0, 1) := by decide +kernel
theorem dT_93 : decode prog_28_method_4_code 93 = .ok (.goto 42, 3) := by decide +kernel
theorem dT_96 : decode prog_28_method_4_code 96 = .ok (.lload_n 1, 1) := by decide +kernel
theorem dT_97 : decode prog_28_method_4_code 97 = .ok (.lload_n 3, 1) := by decide +kernel
theorem dT_98 : decode prog_28_method_4_code 98 = .ok (.lcmp, 1) := by decide +kernel
theorem dT_99 : decode prog_28_method_4_code 99 = .ok (.ifCond .lt 7, 3) := by decide +kernel
theorem dT_102 : decode prog_28_method_4_code 102 = .ok (.iconst 1, 1) := by decide +kernel
theorem dT_103 : decode prog_28_method_4_code 103 = .ok (.goto 32, 3) := by decide +kernel
theorem dT_106 : decode prog_28_method_4_code 106 = .ok (.iconst 0, 1) := by decide +kernel
theorem dT_107 : decode prog_28_method_4_code 107 = .ok (.goto 28, 3) := by decide +kernel
theorem dT_110 : decode prog_28_method_4_code 110 = .ok (.lload_n 1, 1) := by decide +kernel
theorem dT_111 : decode prog_28_method_4_code 111 = .ok (.lload_n 3, 1) := by decide +kernel
theorem dT_112 : decode prog_28_method_4_code 112 = .ok (.lcmp, 1) := by decide +kernel
theorem dT_113 : decode prog_28_method_4_code 113 = .ok (.ifCond .le 7, 3) := by decide +kernel
theorem dT_116 : decode prog_28_method_4_code 116 = .ok (.iconst 1, 1) := by decide +kernel
theorem dT_117 : decode prog_28_method_4_code 117 = .ok (.goto 18, 3) := by decide +kernel
theorem dT_120 : decode prog_28_method_4_code 120 = .ok (.iconst 0, 1) := by decide +kernel
theorem dT_121 : decode prog_28_method_4_code 121 = .ok (.goto 14, 3) := by decide +kernel
theorem dT_124 : decode prog_28_method_4_code 124 = .ok (.lload_n 1, 1) := by decide +kernel
theorem dT_125 : decode prog_28_method_4_code 125 = .ok (.lload_n 3, 1) := by decide +kernel
theorem dT_126 : decode prog_28_method_4_code 126 = .ok (.lcmp, 1) := by decide +kernel
theorem dT_127 : decode prog_28_method_4_code 127 = .ok (.ifCond .gt 7, 3) := by decide +kernel
theorem dT_130 : decode prog_28_method_4_code 130 = .ok (.iconst 1, 1) := by decide +kernel
theorem dT_131 : decode prog_28_method_4_code 131 = .ok (.goto 4, 3) := by decide +kernel
theorem dT_134 : decode prog_28_method_4_code 134 = .ok (.iconst 0, 1) := by decide +kernel
theorem dT_135 : decode prog_28_method_4_code 135 = .ok (.ireturn, 1) := by decide +kernel
theorem ef_T (m : MethodId) (x0 : Addr) (x1 : Int64) (x2 : Int64) : entryFrame m #[(.ref x0), (.long x1), (.long x2)] 5 = mkF m 0 #[.val (.ref x0), .val (.long x1), .second, .val (.long x2), .second] [] := by first | (simp [entryFrame, mkF, argsToLocals, Value.category]; done) | rfl
set_option maxRecDepth 65536 in
set_option maxHeartbeats 40000000 in
theorem rmT (l : Launch) (Z : State) (a0 : Array Value) (hw : ∀ d ∈ tables_1, d.before a0 Z = true) (ws : List Jvm.Cond) (a1 : Addr) (k : Int32) (q1 : Int64) (q2 : Int64) (h0 : Heap) (E1 : Exa Z h0 a1 "com/example/probex/probex/symbolic/Relation") (F1 : Fld Z h0 a1 "java/lang/Enum" "ordinal" "I" (.int k)) (hk : k = (0 : Int32) ∨ k = (1 : Int32) ∨ k = (2 : Int32) ∨ k = (3 : Int32) ∨ k = (4 : Int32) ∨ k = (5 : Int32)) :
    MetFree l (⟨"com/example/probex/probex/symbolic/Relation", "test", "(JJ)Z"⟩ : MethodName) (head1 (Jvm.Cond.code (⟨"com/example/probex/probex/symbolic/Relation", "test", "(JJ)Z"⟩ : MethodName) prog_28_method_4_code 5 (some .boolean) :: ws) ({ frames := 1, cells := 0, slots := 0, locals := 12 } : Room)) (fun a U => a = #[(.ref a1), (.long q1), (.long q2)] ∧ Z.Warmed39 U.vm ∧ U.heap = h0) (fun _ _ _ _ _ => True) (fun _ U o U' => ∃ v L, o = .returned v ∧ QP (some (.int (tst k q1 q2))) h0 v U'.heap L ∧ FrameEnd U o U' L ({ frames := 1, cells := 0, slots := 0, locals := 12 } : Room).cells ({ frames := 1, cells := 0, slots := 0, locals := 12 } : Room).slots) := by
  refine MetFree.of_bodySF (plainFor_of_name (by first | (simp [plainName, overriddenIn]; done) | decide +kernel)) hisR ?_
  intro p e s m args below meth c s₁ Bd hml0 hP hK
  obtain ⟨rfl, hZ, hh⟩ := hP
  have hx := Bd.exec
  have hby := Bd.bytes
  have hml : c.maxLocals = 5 := hml0
  have hown : s.vm.findClass "com/example/probex/probex/symbolic/Relation" = some m.cls := findClass_of_methodNamed Bd.named
  have hnm := (name_of_methodNamed Bd.named Bd.method).1
  have hlk : meth.locks = false := BodyLoose.notSynchronized Bd
  have X0 : Stand p l e ({ frames := 1, cells := 0, slots := 0, locals := 12 } : Room) s m #[(.ref a1), (.long q1), (.long q2)] below meth c s₁ [] 0 0 := Stand.of_body Bd
  have e0 : s₁.heap = h0 := by rw [← hh, Bd.state]; rfl
  have P0 : ∀ t, Steps p.tables e below (s₁.setTop (mkF m 0 #[.val (.ref a1), .val (.long q1), .second, .val (.long q2), .second] [])) t → Steps p.tables e below (s₁.setTop (entryFrame m #[(.ref a1), (.long q1), (.long q2)] 5)) t := fun t kt => castTop (ef_T m a1 q1 q2) kt
  obtain ⟨cq101, kq101, q101a, q101b, q101c⟩ := isOf hZ e0 E1
  obtain ⟨_, _, ⟨T101, L101, k101, n101⟩, -, X101, ⟨Lc101, hQ101, l101, y101, z101⟩, st101⟩ := X0.virtualBackUp hx (x := (⟨"com/example/probex/probex/symbolic/Relation", "ordinal", "()I"⟩ : MethodName)) (y := (⟨"java/lang/Enum", "ordinal", "()I"⟩ : MethodName)) hown (mvT hZ (hw _ (List.mem_of_getElem? (i := 13) rfl))) (mvT hZ (hw _ (List.mem_of_getElem? (i := 14) rfl))) (mvT hZ (hw _ (List.mem_of_getElem? (i := 15) rfl))) (by decide) (mvT hZ (hw _ (List.mem_of_getElem? (i := 17) rfl))) (mvT hZ (hw _ (List.mem_of_getElem? (i := 16) rfl))) (backOf (W := 0)  (rmO l Z a0 hw [] a1 k h0 F1) hZ (hw _ (List.mem_of_getElem? (i := 19) rfl)) (hw _ (List.mem_of_getElem? (i := 18) rfl)) (by decide) (by decide)) q101a q101c (g := (mkF m 1 #[.val (.ref a1), .val (.long q1), .second, .val (.long q2), .second] [(.ref a1)])) rfl (by rw [hml]; rfl) (Steps.refl _) (argsL := []) (rest := []) (lenOf pd___I rfl) rfl (by show 2 * 0 + _ ≤ _; exact Nat.le_of_eq rfl) (hb hby dT_1) (fun _ _ => ⟨rfl, e0, (by decide : 0 + 0 ≤ _), (by decide : 0 + 0 ≤ _)⟩)
  dsimp only [Pt.U, Pt.locs, Pt.cells, Pt.slots] at X101 l101 y101 z101 st101 hQ101
  subst l101 y101 z101
  obtain ⟨rfl, rfl, e101⟩ := hQ101
  have X101 : Stand p l e ({ frames := 1, cells := 0, slots := 0, locals := 12 } : Room) s m #[(.ref a1), (.long q1), (.long q2)] below meth c T101 [] 0 0 := X101
  have P102 : ∀ t, Steps p.tables e below (T101.setTop (mkF m 4 #[.val (.ref a1), .val (.long q1), .second, .val (.long q2), .second] [(.int k)])) t → Steps p.tables e below (s₁.setTop (entryFrame m #[(.ref a1), (.long q1), (.long q2)] 5)) t := fun t kt => P0 t (by
    show Steps p.tables e below (s₁.setTop (mkF m 0 #[.val (.ref a1), .val (.long q1), .second, .val (.long q2), .second] [])) _
    refine XS.aloadN X0.here hx rfl (hb hby dT_0) rfl rfl ?_
    show Steps p.tables e below (s₁.setTop (mkF m 1 #[.val (.ref a1), .val (.long q1), .second, .val (.long q2), .second] [(.ref a1)])) _
    refine st101.trans ?_
    exact kt)
  rcases hk with rfl | rfl | rfl | rfl | rfl | rfl
  · have P103 : ∀ t, Steps p.tables e below (T101.setTop (mkF m 57 #[.val (.ref a1), .val (.long q1), .second, .val (.long q2), .second] [(.int (lcmpW q1 q2))])) t → Steps p.tables e below (s₁.setTop (entryFrame m #[(.ref a1), (.long q1), (.long q2)] 5)) t := fun t kt => P102 t (by
      show Steps p.tables e below (T101.setTop (mkF m 4 #[.val (.ref a1), .val (.long q1), .second, .val (.long q2), .second] [(.int (0 : Int32))])) _
      refine XS.tswIn X101.here hx rfl (pc0 := 4) (pc' := 54) (o := 50) rfl (hb hby dT_4) rfl (by decide) (by decide) (by decide) (by decide) ?_
      show Steps p.tables e below (T101.setTop (mkF m 54 #[.val (.ref a1), .val (.long q1), .second, .val (.long q2), .second] [])) _
      refine XS.lloadN X101.here hx rfl (hb hby dT_54) rfl ?_
      show Steps p.tables e below (T101.setTop (mkF m 55 #[.val (.ref a1), .val (.long q1), .second, .val (.long q2), .second] [(.long q1)])) _
      refine XS.lloadN X101.here hx rfl (hb hby dT_55) rfl ?_
      show Steps p.tables e below (T101.setTop (mkF m 56 #[.val (.ref a1), .val (.long q1), .second, .val (.long q2), .second] [(.long q2), (.long q1)])) _
      refine XS.lcmp X101.here hx rfl (hb hby dT_56) rfl ?_
      exact kt)
    by_cases hc57_104 : (lcmpW q1 q2) = (0 : Int32)
    · have P105 : ∀ t, Steps p.tables e below (T101.setTop (mkF m 135 #[.val (.ref a1), .val (.long q1), .second, .val (.long q2), .second] [(.int (1 : Int32))])) t → Steps p.tables e below (s₁.setTop (entryFrame m #[(.ref a1), (.long q1), (.long q2)] 5)) t := fun t kt => P103 t (by
        show Steps p.tables e below (T101.setTop (mkF m 57 #[.val (.ref a1), .val (.long q1), .second, .val (.long q2), .second] [(.int (lcmpW q1 q2))])) _
        refine XS.ifNo X101.here hx rfl (hb hby dT_57) rfl ((if0 _ _).trans (teq hc57_104).2) ?_
        show Steps p.tables e below (T101.setTop (mkF m 60 #[.val (.ref a1), .val (.long q1), .second, .val (.long q2), .second] [])) _
        refine XS.iconst X101.here hx rfl (hb hby dT_60) ?_
        show Steps p.tables e below (T101.setTop (mkF m 61 #[.val (.ref a1), .val (.long q1), .second, .val (.long q2), .second] [(.int (1 : Int32))])) _
        refine XS.goto X101.here hx rfl (pc0 := 61) (pc' := 135) rfl (hb hby dT_61) (by decide) (by decide) ?_
        exact kt)
      obtain ⟨fs, hr, hrun, hended, hW, hsame⟩ := X101.leave (v := some (.int (1 : Int32))) (fun h => by rw [Bd.returns] at h; cases h) (hlocks := hlk)
      refine ⟨_, _, P105 _ ?_, hrun, hended, _, _, rfl, ?_, ⟨_, rfl⟩, hW, hsame.mono (by decide) (by decide)⟩
      · show Steps p.tables e below (T101.setTop (mkF m 135 #[.val (.ref a1), .val (.long q1), .second, .val (.long q2), .second] [(.int (1 : Int32))])) _
        exact retN X101 hx (t := .boolean) Bd.returns (by simp) (hb hby dT_135) hr
      · show QP _ h0 _ T101.heap _
        have ev : tst (0 : Int32) q1 q2 = (1 : Int32) := by rw [tst0]; exact if_pos hc57_104
        rw [ev]
        exact ⟨rfl, rfl, e101⟩
    · have P106 : ∀ t, Steps p.tables e below (T101.setTop (mkF m 135 #[.val (.ref a1), .val (.long q1), .second, .val (.long q2), .second] [(.int (0 : Int32))])) t → Steps p.tables e below (s₁.setTop (entryFrame m #[(.ref a1), (.long q1), (.long q2)] 5)) t := fun t kt => P103 t (by
        show Steps p.tables e below (T101.setTop (mkF m 57 #[.val (.ref a1), .val (.long q1), .second, .val (.long q2), .second] [(.int (lcmpW q1 q2))])) _
        refine XS.ifYes X101.here hx rfl (pc0 := 57) (pc' := 64) rfl (hb hby dT_57) rfl ((if0 _ _).trans (feq hc57_104).2) (by decide) (by decide) ?_
        show Steps p.tables e below (T101.setTop (mkF m 64 #[.val (.ref a1), .val (.long q1), .second, .val (.long q2), .second] [])) _
        refine XS.iconst X101.here hx rfl (hb hby dT_64) ?_
        show Steps p.tables e below (T101.setTop (mkF m 65 #[.val (.ref a1), .val (.long q1), .second, .val (.long q2), .second] [(.int (0 : Int32))])) _
        refine XS.goto X101.here hx rfl (pc0 := 65) (pc' := 135) rfl (hb hby dT_65) (by decide) (by decide) ?_
        exact kt)
      obtain ⟨fs, hr, hrun, hended, hW, hsame⟩ := X101.leave (v := some (.int (0 : Int32))) (fun h => by rw [Bd.returns] at h; cases h) (hlocks := hlk)
      refine ⟨_, _, P106 _ ?_, hrun, hended, _, _, rfl, ?_, ⟨_, rfl⟩, hW, hsame.mono (by decide) (by decide)⟩
      · show Steps p.tables e below (T101.setTop (mkF m 135 #[.val (.ref a1), .val (.long q1), .second, .val (.long q2), .second] [(.int (0 : Int32))])) _
        exact retN X101 hx (t := .boolean) Bd.returns (by simp) (hb hby dT_135) hr
      · show QP _ h0 _ T101.heap _
        have ev : tst (0 : Int32) q1 q2 = (0 : Int32) := by rw [tst0]; exact if_neg hc57_104
        rw [ev]
        exact ⟨rfl, rfl, e101⟩
  · have P107 : ∀ t, Steps p.tables e below (T101.setTop (mkF m 71 #[.val (.ref a1), .val (.long q1), .second, .val (.long q2), .second] [(.int (lcmpW q1 q2))])) t → Steps p.tables e below (s₁.setTop (entryFrame m #[(.ref a1), (.long q1), (.long q2)] 5)) t := fun t kt => P102 t (by
      show Steps p.tables e below (T101.setTop (mkF m 4 #[.val (.ref a1), .val (.long q1), .second, .val (.long q2), .second] [(.int (1 : Int32))])) _
      refine XS.tswIn X101.here hx rfl (pc0 := 4) (pc' := 68) (o := 64) rfl (hb hby dT_4) rfl (by decide) (by decide) (by decide) (by decide) ?_
      show Steps p.tables e below (T101.setTop (mkF m 68 #[.val (.ref a1), .val (.long q1), .second, .val (.long q2), .second] [])) _
      refine XS.lloadN X101.here hx rfl (hb hby dT_68) rfl ?_
      show Steps p.tables e below (T101.setTop (mkF m 69 #[.val (.ref a1), .val (.long q1), .second, .val (.long q2), .second] [(.long q1)])) _
      refine XS.lloadN X101.here hx rfl (hb hby dT_69) rfl ?_
      show Steps p.tables e below (T101.setTop (mkF m 70 #[.val (.ref a1), .val (.long q1), .second, .val (.long q2), .second] [(.long q2), (.long q1)])) _
      refine XS.lcmp X101.here hx rfl (hb hby dT_70) rfl ?_
      exact kt)
    by_cases hc71_108 : (lcmpW q1 q2) = (0 : Int32)
    · have P109 : ∀ t, Steps p.tables e below (T101.setTop (mkF m 135 #[.val (.ref a1), .val (.long q1), .second, .val (.long q2), .second] [(.int (0 : Int32))])) t → Steps p.tables e below (s₁.setTop (entryFrame m #[(.ref a1), (.long q1), (.long q2)] 5)) t := fun t kt => P107 t (by
        show Steps p.tables e below (T101.setTop (mkF m 71 #[.val (.ref a1), .val (.long q1), .second, .val (.long q2), .second] [(.int (lcmpW q1 q2))])) _
        refine XS.ifYes X101.here hx rfl (pc0 := 71) (pc' := 78) rfl (hb hby dT_71) rfl ((if0 _ _).trans (teq hc71_108).1) (by decide) (by decide) ?_
        show Steps p.tables e below (T101.setTop (mkF m 78 #[.val (.ref a1), .val (.long q1), .second, .val (.long q2), .second] [])) _
        refine XS.iconst X101.here hx rfl (hb hby dT_78) ?_
        show Steps p.tables e below (T101.setTop (mkF m 79 #[.val (.ref a1), .val (.long q1), .second, .val (.long q2), .second] [(.int (0 : Int32))])) _
        refine XS.goto X101.here hx rfl (pc0 := 79) (pc' := 135) rfl (hb hby dT_79) (by decide) (by decide) ?_
        exact kt)
      obtain ⟨fs, hr, hrun, hended, hW, hsame⟩ := X101.leave (v := some (.int (0 : Int32))) (fun h => by rw [Bd.returns] at h; cases h) (hlocks := hlk)
      refine ⟨_, _, P109 _ ?_, hrun, hended, _, _, rfl, ?_, ⟨_, rfl⟩, hW, hsame.mono (by decide) (by decide)⟩
      · show Steps p.tables e below (T101.setTop (mkF m 135 #[.val (.ref a1), .val (.long q1), .second, .val (.long q2), .second] [(.int (0 : Int32))])) _
        exact retN X101 hx (t := .boolean) Bd.returns (by simp) (hb hby dT_135) hr
      · show QP _ h0 _ T101.heap _
        have ev : tst (1 : Int32) q1 q2 = (0 : Int32) := by rw [tst1]; exact if_pos hc71_108
        rw [ev]
        exact ⟨rfl, rfl, e101⟩
    · have P110 : ∀ t, Steps p.tables e below (T101.setTop (mkF m 135 #[.val (.ref a1), .val (.long q1), .second, .val (.long q2), .second] [(.int (1 : Int32))])) t → Steps p.tables e below (s₁.setTop (entryFrame m #[(.ref a1), (.long q1), (.long q2)] 5)) t := fun t kt => P107 t (by
        show Steps p.tables e below (T101.setTop (mkF m 71 #[.val (.ref a1), .val (.long q1), .second, .val (.long q2), .second] [(.int (lcmpW q1 q2))])) _
        refine XS.ifNo X101.here hx rfl (hb hby dT_71) rfl ((if0 _ _).trans (feq hc71_108).1) ?_
        show Steps p.tables e below (T101.setTop (mkF m 74 #[.val (.ref a1), .val (.long q1), .second, .val (.long q2), .second] [])) _
        refine XS.iconst X101.here hx rfl (hb hby dT_74) ?_
        show Steps p.tables e below (T101.setTop (mkF m 75 #[.val (.ref a1), .val (.long q1), .second, .val (.long q2), .second] [(.int (1 : Int32))])) _
        refine XS.goto X101.here hx rfl (pc0 := 75) (pc' := 135) rfl (hb hby dT_75) (by decide) (by decide) ?_
        exact kt)
      obtain ⟨fs, hr, hrun, hended, hW, hsame⟩ := X101.leave (v := some (.int (1 : Int32))) (fun h => by rw [Bd.returns] at h; cases h) (hlocks := hlk)
      refine ⟨_, _, P110 _ ?_, hrun, hended, _, _, rfl, ?_, ⟨_, rfl⟩, hW, hsame.mono (by decide) (by decide)⟩
      · show Steps p.tables e below (T101.setTop (mkF m 135 #[.val (.ref a1), .val (.long q1), .second, .val (.long q2), .second] [(.int (1 : Int32))])) _
        exact retN X101 hx (t := .boolean) Bd.returns (by simp) (hb hby dT_135) hr
      · show QP _ h0 _ T101.heap _
        have ev : tst (1 : Int32) q1 q2 = (1 : Int32) := by rw [tst1]; exact if_neg hc71_108
        rw [ev]
        exact ⟨rfl, rfl, e101⟩
  · have P111 : ∀ t, Steps p.tables e below (T101.setTop (mkF m 85 #[.val (.ref a1), .val (.long q1), .second, .val (.long q2), .second] [(.int (lcmpW q1 q2))])) t → Steps p.tables e below (s₁.setTop (entryFrame m #[(.ref a1), (.long q1), (.long q2)] 5)) t := fun t kt => P102 t (by
      show Steps p.tables e below (T101.setTop (mkF m 4 #[.val (.ref a1), .val (.long q1), .second, .val (.long q2), .second] [(.int (2 : Int32))])) _
      refine XS.tswIn X101.here hx rfl (pc0 := 4) (pc' := 82) (o := 78) rfl (hb hby dT_4) rfl (by decide) (by decide) (by decide) (by decide) ?_
      show Steps p.tables e below (T101.setTop (mkF m 82 #[.val (.ref a1), .val (.long q1), .second, .val (.long q2), .second] [])) _
      refine XS.lloadN X101.here hx rfl (hb hby dT_82) rfl ?_
      show Steps p.tables e below (T101.setTop (mkF m 83 #[.val (.ref a1), .val (.long q1), .second, .val (.long q2), .second] [(.long q1)])) _
      refine XS.lloadN X101.here hx rfl (hb hby dT_83) rfl ?_
      show Steps p.tables e below (T101.setTop (mkF m 84 #[.val (.ref a1), .val (.long q1), .second, .val (.long q2), .second] [(.long q2), (.long q1)])) _
      refine XS.lcmp X101.here hx rfl (hb hby dT_84) rfl ?_
      exact kt)
    by_cases hc85_112 : (lcmpW q1 q2) < (0 : Int32)
    · have P113 : ∀ t, Steps p.tables e below (T101.setTop (mkF m 135 #[.val (.ref a1), .val (.long q1), .second, .val (.long q2), .second] [(.int (1 : Int32))])) t → Steps p.tables e below (s₁.setTop (entryFrame m #[(.ref a1), (.long q1), (.long q2)] 5)) t := fun t kt => P111 t (by
        show Steps p.tables e below (T101.setTop (mkF m 85 #[.val (.ref a1), .val (.long q1), .second, .val (.long q2), .second] [(.int (lcmpW q1 q2))])) _
        refine XS.ifNo X101.here hx rfl (hb hby dT_85) rfl ((if0 _ _).trans (tlt hc85_112).2.1) ?_
        show Steps p.tables e below (T101.setTop (mkF m 88 #[.val (.ref a1), .val (.long q1), .second, .val (.long q2), .second] [])) _
        refine XS.iconst X101.here hx rfl (hb hby dT_88) ?_
        show Steps p.tables e below (T101.setTop (mkF m 89 #[.val (.ref a1), .val (.long q1), .second, .val (.long q2), .second] [(.int (1 : Int32))])) _
        refine XS.goto X101.here hx rfl (pc0 := 89) (pc' := 135) rfl (hb hby dT_89) (by decide) (by decide) ?_
        exact kt)
      obtain ⟨fs, hr, hrun, hended, hW, hsame⟩ := X101.leave (v := some (.int (1 : Int32))) (fun h => by rw [Bd.returns] at h; cases h) (hlocks := hlk)
      refine ⟨_, _, P113 _ ?_, hrun, hended, _, _, rfl, ?_, ⟨_, rfl⟩, hW, hsame.mono (by decide) (by decide)⟩
      · show Steps p.tables e below (T101.setTop (mkF m 135 #[.val (.ref a1), .val (.long q1), .second, .val (.long q2), .second] [(.int (1 : Int32))])) _
        exact retN X101 hx (t := .boolean) Bd.returns (by simp) (hb hby dT_135) hr
      · show QP _ h0 _ T101.heap _
        have ev : tst (2 : Int32) q1 q2 = (1 : Int32) := by rw [tst2]; exact if_pos hc85_112
        rw [ev]
        exact ⟨rfl, rfl, e101⟩
    · have P114 : ∀ t, Steps p.tables e below (T101.setTop (mkF m 135 #[.val (.ref a1), .val (.long q1), .second, .val (.long q2), .second] [(.int (0 : Int32))])) t → Steps p.tables e below (s₁.setTop (entryFrame m #[(.ref a1), (.long q1), (.long q2)] 5)) t := fun t kt => P111 t (by
        show Steps p.tables e below (T101.setTop (mkF m 85 #[.val (.ref a1), .val (.long q1), .second, .val (.long q2), .second] [(.int (lcmpW q1 q2))])) _
        refine XS.ifYes X101.here hx rfl (pc0 := 85) (pc' := 92) rfl (hb hby dT_85) rfl ((if0 _ _).trans (flt hc85_112).2.1) (by decide) (by decide) ?_
        show Steps p.tables e below (T101.setTop (mkF m 92 #[.val (.ref a1), .val (.long q1), .second, .val (.long q2), .second] [])) _
        refine XS.iconst X101.here hx rfl (hb hby dT_92) ?_
        show Steps p.tables e below (T101.setTop (mkF m 93 #[.val (.ref a1), .val (.long q1), .second, .val (.long q2), .second] [(.int (0 : Int32))])) _
        refine XS.goto X101.here hx rfl (pc0 := 93) (pc' := 135) rfl (hb hby dT_93) (by decide) (by decide) ?_
        exact kt)
      obtain ⟨fs, hr, hrun, hended, hW, hsame⟩ := X101.leave (v := some (.int (0 : Int32))) (fun h => by rw [Bd.returns] at h; cases h) (hlocks := hlk)
      refine ⟨_, _, P114 _ ?_, hrun, hended, _, _, rfl, ?_, ⟨_, rfl⟩, hW, hsame.mono (by decide) (by decide)⟩
      · show Steps p.tables e below (T101.setTop (mkF m 135 #[.val (.ref a1), .val (.long q1), .second, .val (.long q2), .second] [(.int (0 : Int32))])) _
        exact retN X101 hx (t := .boolean) Bd.returns (by simp) (hb hby dT_135) hr
      · show QP _ h0 _ T101.heap _
        have ev : tst (2 : Int32) q1 q2 = (0 : Int32) := by rw [tst2]; exact if_neg hc85_112
        rw [ev]
        exact ⟨rfl, rfl, e101⟩
  · have P115 : ∀ t, Steps p.tables e below (T101.setTop (mkF m 99 #[.val (.ref a1), .val (.long q1), .second, .val (.long q2), .second] [(.int (lcmpW q1 q2))])) t → Steps p.tables e below (s₁.setTop (entryFrame m #[(.ref a1), (.long q1), (.long q2)] 5)) t := fun t kt => P102 t (by
      show Steps p.tables e below (T101.setTop (mkF m 4 #[.val (.ref a1), .val (.long q1), .second, .val (.long q2), .second] [(.int (3 : Int32))])) _
      refine XS.tswIn X101.here hx rfl (pc0 := 4) (pc' := 96) (o := 92) rfl (hb hby dT_4) rfl (by decide) (by decide) (by decide) (by decide) ?_
      show Steps p.tables e below (T101.setTop (mkF m 96 #[.val (.ref a1), .val (.long q1), .second, .val (.long q2), .second] [])) _
      refine XS.lloadN X101.here hx rfl (hb hby dT_96) rfl ?_
      show Steps p.tables e below (T101.setTop (mkF m 97 #[.val (.ref a1), .val (.long q1), .second, .val (.long q2), .second] [(.long q1)])) _
      refine XS.lloadN X101.here hx rfl (hb hby dT_97) rfl ?_
      show Steps p.tables e below (T101.setTop (mkF m 98 #[.val (.ref a1), .val (.long q1), .second, .val (.long q2), .second] [(.long q2), (.long q1)])) _
      refine XS.lcmp X101.here hx rfl (hb hby dT_98) rfl ?_
      exact kt)
    by_cases hc99_116 : (lcmpW q1 q2) < (0 : Int32)
    · have P117 : ∀ t, Steps p.tables e below (T101.setTop (mkF m 135 #[.val (.ref a1), .val (.long q1), .second, .val (.long q2), .second] [(.int (0 : Int32))])) t → Steps p.tables e below (s₁.setTop (entryFrame m #[(.ref a1), (.long q1), (.long q2)] 5)) t := fun t kt => P115 t (by
        show Steps p.tables e below (T101.setTop (mkF m 99 #[.val (.ref a1), .val (.long q1), .second, .val (.long q2), .second] [(.int (lcmpW q1 q2))])) _
        refine XS.ifYes X101.here hx rfl (pc0 := 99) (pc' := 106) rfl (hb hby dT_99) rfl ((if0 _ _).trans (tlt hc99_116).1) (by decide) (by decide) ?_
        show Steps p.tables e below (T101.setTop (mkF m 106 #[.val (.ref a1), .val (.long q1), .second, .val (.long q2), .second] [])) _
        refine XS.iconst X101.here hx rfl (hb hby dT_106) ?_
        show Steps p.tables e below (T101.setTop (mkF m 107 #[.val (.ref a1), .val (.long q1), .second, .val (.long q2), .second] [(.int (0 : Int32))])) _
        refine XS.goto X101.here hx rfl (pc0 := 107) (pc' := 135) rfl (hb hby dT_107) (by decide) (by decide) ?_
        exact kt)
      obtain ⟨fs, hr, hrun, hended, hW, hsame⟩ := X101.leave (v := some (.int (0 : Int32))) (fun h => by rw [Bd.returns] at h; cases h) (hlocks := hlk)
      refine ⟨_, _, P117 _ ?_, hrun, hended, _, _, rfl, ?_, ⟨_, rfl⟩, hW, hsame.mono (by decide) (by decide)⟩
      · show Steps p.tables e below (T101.setTop (mkF m 135 #[.val (.ref a1), .val (.long q1), .second, .val (.long q2), .second] [(.int (0 : Int32))])) _
        exact retN X101 hx (t := .boolean) Bd.returns (by simp) (hb hby dT_135) hr
      · show QP _ h0 _ T101.heap _
        have ev : tst (3 : Int32) q1 q2 = (0 : Int32) := by rw [tst3]; exact if_pos hc99_116
        rw [ev]
        exact ⟨rfl, rfl, e101⟩
    · have P118 : ∀ t, Steps p.tables e below (T101.setTop (mkF m 135 #[.val (.ref a1), .val (.long q1), .second, .val (.long q2), .second] [(.int (1 : Int32))])) t → Steps p.tables e below (s₁.setTop (entryFrame m #[(.ref a1), (.long q1), (.long q2)] 5)) t := fun t kt => P115 t (by
        show Steps p.tables e below (T101.setTop (mkF m 99 #[.val (.ref a1), .val (.long q1), .second, .val (.long q2), .second] [(.int (lcmpW q1 q2))])) _
        refine XS.ifNo X101.here hx rfl (hb hby dT_99) rfl ((if0 _ _).trans (flt hc99_116).1) ?_
        show Steps p.tables e below (T101.setTop (mkF m 102 #[.val (.ref a1), .val (.long q1), .second, .val (.long q2), .second] [])) _
        refine XS.iconst X101.here hx rfl (hb hby dT_102) ?_
        show Steps p.tables e below (T101.setTop (mkF m 103 #[.val (.ref a1), .val (.long q1), .second, .val (.long q2), .second] [(.int (1 : Int32))])) _
        refine XS.goto X101.here hx rfl (pc0 := 103) (pc' := 135) rfl (hb hby dT_103) (by decide) (by decide) ?_
        exact kt)
      obtain ⟨fs, hr, hrun, hended, hW, hsame⟩ := X101.leave (v := some (.int (1 : Int32))) (fun h => by rw [Bd.returns] at h; cases h) (hlocks := hlk)
      refine ⟨_, _, P118 _ ?_, hrun, hended, _, _, rfl, ?_, ⟨_, rfl⟩, hW, hsame.mono (by decide) (by decide)⟩
      · show Steps p.tables e below (T101.setTop (mkF m 135 #[.val (.ref a1), .val (.long q1), .second, .val (.long q2), .second] [(.int (1 : Int32))])) _
        exact retN X101 hx (t := .boolean) Bd.returns (by simp) (hb hby dT_135) hr
      · show QP _ h0 _ T101.heap _
        have ev : tst (3 : Int32) q1 q2 = (1 : Int32) := by rw [tst3]; exact if_neg hc99_116
        rw [ev]
        exact ⟨rfl, rfl, e101⟩
  · have P119 : ∀ t, Steps p.tables e below (T101.setTop (mkF m 113 #[.val (.ref a1), .val (.long q1), .second, .val (.long q2), .second] [(.int (lcmpW q1 q2))])) t → Steps p.tables e below (s₁.setTop (entryFrame m #[(.ref a1), (.long q1), (.long q2)] 5)) t := fun t kt => P102 t (by
      show Steps p.tables e below (T101.setTop (mkF m 4 #[.val (.ref a1), .val (.long q1), .second, .val (.long q2), .second] [(.int (4 : Int32))])) _
      refine XS.tswIn X101.here hx rfl (pc0 := 4) (pc' := 110) (o := 106) rfl (hb hby dT_4) rfl (by decide) (by decide) (by decide) (by decide) ?_
      show Steps p.tables e below (T101.setTop (mkF m 110 #[.val (.ref a1), .val (.long q1), .second, .val (.long q2), .second] [])) _
      refine XS.lloadN X101.here hx rfl (hb hby dT_110) rfl ?_
      show Steps p.tables e below (T101.setTop (mkF m 111 #[.val (.ref a1), .val (.long q1), .second, .val (.long q2), .second] [(.long q1)])) _
      refine XS.lloadN X101.here hx rfl (hb hby dT_111) rfl ?_
      show Steps p.tables e below (T101.setTop (mkF m 112 #[.val (.ref a1), .val (.long q1), .second, .val (.long q2), .second] [(.long q2), (.long q1)])) _
      refine XS.lcmp X101.here hx rfl (hb hby dT_112) rfl ?_
      exact kt)
    by_cases hc113_120 : (0 : Int32) < (lcmpW q1 q2)
    · have P121 : ∀ t, Steps p.tables e below (T101.setTop (mkF m 135 #[.val (.ref a1), .val (.long q1), .second, .val (.long q2), .second] [(.int (1 : Int32))])) t → Steps p.tables e below (s₁.setTop (entryFrame m #[(.ref a1), (.long q1), (.long q2)] 5)) t := fun t kt => P119 t (by
        show Steps p.tables e below (T101.setTop (mkF m 113 #[.val (.ref a1), .val (.long q1), .second, .val (.long q2), .second] [(.int (lcmpW q1 q2))])) _
        refine XS.ifNo X101.here hx rfl (hb hby dT_113) rfl ((if0 _ _).trans (tlt hc113_120).2.2.2) ?_
        show Steps p.tables e below (T101.setTop (mkF m 116 #[.val (.ref a1), .val (.long q1), .second, .val (.long q2), .second] [])) _
        refine XS.iconst X101.here hx rfl (hb hby dT_116) ?_
        show Steps p.tables e below (T101.setTop (mkF m 117 #[.val (.ref a1), .val (.long q1), .second, .val (.long q2), .second] [(.int (1 : Int32))])) _
        refine XS.goto X101.here hx rfl (pc0 := 117) (pc' := 135) rfl (hb hby dT_117) (by decide) (by decide) ?_
        exact kt)
      obtain ⟨fs, hr, hrun, hended, hW, hsame⟩ := X101.leave (v := some (.int (1 : Int32))) (fun h => by rw [Bd.returns] at h; cases h) (hlocks := hlk)
      refine ⟨_, _, P121 _ ?_, hrun, hended, _, _, rfl, ?_, ⟨_, rfl⟩, hW, hsame.mono (by decide) (by decide)⟩
      · show Steps p.tables e below (T101.setTop (mkF m 135 #[.val (.ref a1), .val (.long q1), .second, .val (.long q2), .second] [(.int (1 : Int32))])) _
        exact retN X101 hx (t := .boolean) Bd.returns (by simp) (hb hby dT_135) hr
      · show QP _ h0 _ T101.heap _
        have ev : tst (4 : Int32) q1 q2 = (1 : Int32) := by rw [tst4]; exact if_pos hc113_120
        rw [ev]
        exact ⟨rfl, rfl, e101⟩
    · have P122 : ∀ t, Steps p.tables e below (T101.setTop (mkF m 135 #[.val (.ref a1), .val (.long q1), .second, .val (.long q2), .second] [(.int (0 : Int32))])) t → Steps p.tables e below (s₁.setTop (entryFrame m #[(.ref a1), (.long q1), (.long q2)] 5)) t := fun t kt => P119 t (by
        show Steps p.tables e below (T101.setTop (mkF m 113 #[.val (.ref a1), .val (.long q1), .second, .val (.long q2), .second] [(.int (lcmpW q1 q2))])) _
        refine XS.ifYes X101.here hx rfl (pc0 := 113) (pc' := 120) rfl (hb hby dT_113) rfl ((if0 _ _).trans (flt hc113_120).2.2.2) (by decide) (by decide) ?_
        show Steps p.tables e below (T101.setTop (mkF m 120 #[.val (.ref a1), .val (.long q1), .second, .val (.long q2), .second] [])) _
        refine XS.iconst X101.here hx rfl (hb hby dT_120) ?_
        show Steps p.tables e below (T101.setTop (mkF m 121 #[.val (.ref a1), .val (.long q1), .second, .val (.long q2), .second] [(.int (0 : Int32))])) _
        refine XS.goto X101.here hx rfl (pc0 := 121) (pc' := 135) rfl (hb hby dT_121) (by decide) (by decide) ?_
        exact kt)
      obtain ⟨fs, hr, hrun, hended, hW, hsame⟩ := X101.leave (v := some (.int (0 : Int32))) (fun h => by rw [Bd.returns] at h; cases h) (hlocks := hlk)
      refine ⟨_, _, P122 _ ?_, hrun, hended, _, _, rfl, ?_, ⟨_, rfl⟩, hW, hsame.mono (by decide) (by decide)⟩
      · show Steps p.tables e below (T101.setTop (mkF m 135 #[.val (.ref a1), .val (.long q1), .second, .val (.long q2), .second] [(.int (0 : Int32))])) _
        exact retN X101 hx (t := .boolean) Bd.returns (by simp) (hb hby dT_135) hr
      · show QP _ h0 _ T101.heap _
        have ev : tst (4 : Int32) q1 q2 = (0 : Int32) := by rw [tst4]; exact if_neg hc113_120
        rw [ev]
        exact ⟨rfl, rfl, e101⟩
  · have P123 : ∀ t, Steps p.tables e below (T101.setTop (mkF m 127 #[.val (.ref a1), .val (.long q1), .second, .val (.long q2), .second] [(.int (lcmpW q1 q2))])) t → Steps p.tables e below (s₁.setTop (entryFrame m #[(.ref a1), (.long q1), (.long q2)] 5)) t := fun t kt => P102 t (by
      show Steps p.tables e below (T101.setTop (mkF m 4 #[.val (.ref a1), .val (.long q1), .second, .val (.long q2), .second] [(.int (5 : Int32))])) _
      refine XS.tswIn X101.here hx rfl (pc0 := 4) (pc' := 124) (o := 120) rfl (hb hby dT_4) rfl (by decide) (by decide) (by decide) (by decide) ?_
      show Steps p.tables e below (T101.setTop (mkF m 124 #[.val (.ref a1), .val (.long q1), .second, .val (.long q2), .second] [])) _
      refine XS.lloadN X101.here hx rfl (hb hby dT_124) rfl ?_
      show Steps p.tables e below (T101.setTop (mkF m 125 #[.val (.ref a1), .val (.long q1), .second, .val (.long q2), .second] [(.long q1)])) _
      refine XS.lloadN X101.here hx rfl (hb hby dT_125) rfl ?_
      show Steps p.tables e below (T101.setTop (mkF m 126 #[.val (.ref a1), .val (.long q1), .second, .val (.long q2), .second] [(.long q2), (.long q1)])) _
      refine XS.lcmp X101.here hx rfl (hb hby dT_126) rfl ?_
      exact kt)
    by_cases hc127_124 : (0 : Int32) < (lcmpW q1 q2)
    · have P125 : ∀ t, Steps p.tables e below (T101.setTop (mkF m 135 #[.val (.ref a1), .val (.long q1), .second, .val (.long q2), .second] [(.int (0 : Int32))])) t → Steps p.tables e below (s₁.setTop (entryFrame m #[(.ref a1), (.long q1), (.long q2)] 5)) t := fun t kt => P123 t (by
        show Steps p.tables e below (T101.setTop (mkF m 127 #[.val (.ref a1), .val (.long q1), .second, .val (.long q2), .second] [(.int (lcmpW q1 q2))])) _
        refine XS.ifYes X101.here hx rfl (pc0 := 127) (pc' := 134) rfl (hb hby dT_127) rfl ((if0 _ _).trans (tlt hc127_124).2.2.1) (by decide) (by decide) ?_
        show Steps p.tables e below (T101.setTop (mkF m 134 #[.val (.ref a1), .val (.long q1), .second, .val (.long q2), .second] [])) _
        refine XS.iconst X101.here hx rfl (hb hby dT_134) ?_
        exact kt)
      obtain ⟨fs, hr, hrun, hended, hW, hsame⟩ := X101.leave (v := some (.int (0 : Int32))) (fun h => by rw [Bd.returns] at h; cases h) (hlocks := hlk)
      refine ⟨_, _, P125 _ ?_, hrun, hended, _, _, rfl, ?_, ⟨_, rfl⟩, hW, hsame.mono (by decide) (by decide)⟩
      · show Steps p.tables e below (T101.setTop (mkF m 135 #[.val (.ref a1), .val (.long q1), .second, .val (.long q2), .second] [(.int (0 : Int32))])) _
        exact retN X101 hx (t := .boolean) Bd.returns (by simp) (hb hby dT_135) hr
      · show QP _ h0 _ T101.heap _
        have ev : tst (5 : Int32) q1 q2 = (0 : Int32) := by rw [tst5]; exact if_pos hc127_124
        rw [ev]
        exact ⟨rfl, rfl, e101⟩
    · have P126 : ∀ t, Steps p.tables e below (T101.setTop (mkF m 135 #[.val (.ref a1), .val (.long q1), .second, .val (.long q2), .second] [(.int (1 : Int32))])) t → Steps p.tables e below (s₁.setTop (entryFrame m #[(.ref a1), (.long q1), (.long q2)] 5)) t := fun t kt => P123 t (by
        show Steps p.tables e below (T101.setTop (mkF m 127 #[.val (.ref a1), .val (.long q1), .second, .val (.long q2), .second] [(.int (lcmpW q1 q2))])) _
        refine XS.ifNo X101.here hx rfl (hb hby dT_127) rfl ((if0 _ _).trans (flt hc127_124).2.2.1) ?_
        show Steps p.tables e below (T101.setTop (mkF m 130 #[.val (.ref a1), .val (.long q1), .second, .val (.long q2), .second] [])) _
        refine XS.iconst X101.here hx rfl (hb hby dT_130) ?_
        show Steps p.tables e below (T101.setTop (mkF m 131 #[.val (.ref a1), .val (.long q1), .second, .val (.long q2), .second] [(.int (1 : Int32))])) _
        refine XS.goto X101.here hx rfl (pc0 := 131) (pc' := 135) rfl (hb hby dT_131) (by decide) (by decide) ?_
        exact kt)
      obtain ⟨fs, hr, hrun, hended, hW, hsame⟩ := X101.leave (v := some (.int (1 : Int32))) (fun h => by rw [Bd.returns] at h; cases h) (hlocks := hlk)
      refine ⟨_, _, P126 _ ?_, hrun, hended, _, _, rfl, ?_, ⟨_, rfl⟩, hW, hsame.mono (by decide) (by decide)⟩
      · show Steps p.tables e below (T101.setTop (mkF m 135 #[.val (.ref a1), .val (.long q1), .second, .val (.long q2), .second] [(.int (1 : Int32))])) _
        exact retN X101 hx (t := .boolean) Bd.returns (by simp) (hb hby dT_135) hr
      · show QP _ h0 _ T101.heap _
        have ev : tst (5 : Int32) q1 q2 = (1 : Int32) := by rw [tst5]; exact if_neg hc127_124
        rw [ev]
        exact ⟨rfl, rfl, e101⟩
theorem ef_0 (m : MethodId) (x0 : Int32) (x1 : Int32) (x2 : Int64) (x3 : Int64) : entryFrame m #[(.int x0), (.int x1), (.long x2), (.long x3)] maxLocals = mkF m 0 #[.val (.int x0), .val (.int x1), .val (.long x2), .second, .val (.long x3), .second, .unset, .unset, .unset, .unset, .unset] [] := by first | (simp [entryFrame, mkF, argsToLocals, Value.category, maxLocals]; done) | rfl
set_option maxRecDepth 65536 in
set_option maxHeartbeats 40000000 in
theorem rm0 (l : Launch) (Z : State) (a0 : Array Value) (hw : ∀ d ∈ tables_1, d.before a0 Z = true) (ws : List Jvm.Cond) (p1 : Int32) (p2 : Int32) (q1 : Int64) (q2 : Int64) (w_EQ w_NE w_LT w_GE w_GT w_LE : Addr) (h0 : Heap) (S_EQ : Sta Z h0 "com/example/probex/probex/symbolic/Relation" "EQ" "Lcom/example/probex/probex/symbolic/Relation;" (.ref w_EQ)) (S_NE : Sta Z h0 "com/example/probex/probex/symbolic/Relation" "NE" "Lcom/example/probex/probex/symbolic/Relation;" (.ref w_NE)) (S_LT : Sta Z h0 "com/example/probex/probex/symbolic/Relation" "LT" "Lcom/example/probex/probex/symbolic/Relation;" (.ref w_LT)) (S_GE : Sta Z h0 "com/example/probex/probex/symbolic/Relation" "GE" "Lcom/example/probex/probex/symbolic/Relation;" (.ref w_GE)) (S_GT : Sta Z h0 "com/example/probex/probex/symbolic/Relation" "GT" "Lcom/example/probex/probex/symbolic/Relation;" (.ref w_GT)) (S_LE : Sta Z h0 "com/example/probex/probex/symbolic/Relation" "LE" "Lcom/example/probex/probex/symbolic/Relation;" (.ref w_LE)) (E_EQ : Exa Z h0 w_EQ "com/example/probex/probex/symbolic/Relation") (E_NE : Exa Z h0 w_NE "com/example/probex/probex/symbolic/Relation") (E_LT : Exa Z h0 w_LT "com/example/probex/probex/symbolic/Relation") (E_GE : Exa Z h0 w_GE "com/example/probex/probex/symbolic/Relation") (E_GT : Exa Z h0 w_GT "com/example/probex/probex/symbolic/Relation") (E_LE : Exa Z h0 w_LE "com/example/probex/probex/symbolic/Relation") (O_EQ : Fld Z h0 w_EQ "java/lang/Enum" "ordinal" "I" (.int (0 : Int32))) (O_NE : Fld Z h0 w_NE "java/lang/Enum" "ordinal" "I" (.int (1 : Int32))) (O_LT : Fld Z h0 w_LT "java/lang/Enum" "ordinal" "I" (.int (2 : Int32))) (O_GE : Fld Z h0 w_GE "java/lang/Enum" "ordinal" "I" (.int (3 : Int32))) (O_GT : Fld Z h0 w_GT "java/lang/Enum" "ordinal" "I" (.int (4 : Int32))) (O_LE : Fld Z h0 w_LE "java/lang/Enum" "ordinal" "I" (.int (5 : Int32))) :
    MetFree l x (head1 (Jvm.Cond.code x code maxLocals ret :: ws) room_1) (fun a U => a = #[(.int p1), (.int p2), (.long q1), (.long q2)] ∧ Z.Warmed39 U.vm ∧ U.heap = h0) (fun _ _ _ _ _ => True) (fun _ U o U' => ∃ v L, o = .returned v ∧ QP (some (.int (1 : Int32))) h0 v U'.heap L ∧ FrameEnd U o U' L room_1.cells room_1.slots) := by
  refine MetFree.of_bodySF (plainFor_of_name (by first | (simp [plainName, overriddenIn]; done) | decide +kernel)) hisR ?_
  intro p e s m args below meth c s₁ Bd hml0 hP hK
  obtain ⟨rfl, hZ, hh⟩ := hP
  have hx := Bd.exec
  have hby := Bd.bytes
  have hml : c.maxLocals = 11 := hml0
  have hown : s.vm.findClass "com/example/probex/probex/symbolic/RelationNegatePinLaw" = some m.cls := findClass_of_methodNamed Bd.named
  have hnm := (name_of_methodNamed Bd.named Bd.method).1
  have hlk : meth.locks = false := BodyLoose.notSynchronized Bd
  have X0 : Stand p l e room_1 s m #[(.int p1), (.int p2), (.long q1), (.long q2)] below meth c s₁ [] 0 0 := Stand.of_body Bd
  have e0 : s₁.heap = h0 := by rw [← hh, Bd.state]; rfl
  have P0 : ∀ t, Steps p.tables e below (s₁.setTop (mkF m 0 #[.val (.int p1), .val (.int p2), .val (.long q1), .second, .val (.long q2), .second, .unset, .unset, .unset, .unset, .unset] [])) t → Steps p.tables e below (s₁.setTop (entryFrame m #[(.int p1), (.int p2), (.long q1), (.long q2)] maxLocals)) t := fun t kt => castTop (ef_0 m p1 p2 q1 q2) kt
  have P101 : ∀ t, Steps p.tables e below (s₁.setTop (mkF m 7 #[.val (.int p1), .val (.int p2), .val (.long q1), .second, .val (.long q2), .second, .unset, .unset, .unset, .unset, .unset] [(.int ((p1 &&& (2147483647 : Int32)) - ((p1 &&& (2147483647 : Int32)) / (6 : Int32)) * (6 : Int32)))])) t → Steps p.tables e below (s₁.setTop (entryFrame m #[(.int p1), (.int p2), (.long q1), (.long q2)] maxLocals)) t := fun t kt => P0 t (by
    show Steps p.tables e below (s₁.setTop (mkF m 0 #[.val (.int p1), .val (.int p2), .val (.long q1), .second, .val (.long q2), .second, .unset, .unset, .unset, .unset, .unset] [])) _
    refine XS.iloadN X0.here hx rfl (hb hby at_0) rfl ?_
    show Steps p.tables e below (s₁.setTop (mkF m 1 #[.val (.int p1), .val (.int p2), .val (.long q1), .second, .val (.long q2), .second, .unset, .unset, .unset, .unset, .unset] [(.int p1)])) _
    refine X0.ldcInt hx hown (mvT hZ (hw _ (List.mem_of_getElem? (i := 0) rfl))) (g := (mkF m 1 #[.val (.int p1), .val (.int p2), .val (.long q1), .second, .val (.long q2), .second, .unset, .unset, .unset, .unset, .unset] [(.int p1)])) rfl (hb hby at_1) _ ?_
    show Steps p.tables e below (s₁.setTop (mkF m 3 #[.val (.int p1), .val (.int p2), .val (.long q1), .second, .val (.long q2), .second, .unset, .unset, .unset, .unset, .unset] [(.int (2147483647 : Int32)), (.int p1)])) _
    refine XS.iand X0.here hx rfl (hb hby at_3) rfl ?_
    show Steps p.tables e below (s₁.setTop (mkF m 4 #[.val (.int p1), .val (.int p2), .val (.long q1), .second, .val (.long q2), .second, .unset, .unset, .unset, .unset, .unset] [(.int (p1 &&& (2147483647 : Int32)))])) _
    refine XS.bipush X0.here hx rfl (hb hby at_4) ?_
    show Steps p.tables e below (s₁.setTop (mkF m 6 #[.val (.int p1), .val (.int p2), .val (.long q1), .second, .val (.long q2), .second, .unset, .unset, .unset, .unset, .unset] [(.int (6 : Int32)), (.int (p1 &&& (2147483647 : Int32)))])) _
    refine XS.irem X0.here hx rfl (hb hby at_6) rfl (by decide) ?_
    exact kt)
  obtain ⟨r, hr⟩ : ∃ z : Int32, z = ((p1 &&& (2147483647 : Int32)) - ((p1 &&& (2147483647 : Int32)) / (6 : Int32)) * (6 : Int32)) := ⟨_, rfl⟩
  rw [← hr] at P101
  have hcr := own_k6 r p1 hr
  rcases hcr with rfl | rfl | rfl | rfl | rfl | rfl
  · obtain ⟨_, _, ⟨T102, L102, k102, n102⟩, -, X102, ⟨Lc102, hQ102, l102, y102, z102⟩, st102⟩ := Jvm.LawKit.callS X0 hx (y := (⟨"com/example/probex/probex/symbolic/RelationNegatePinLaw", "pick", "(I)Lcom/example/probex/probex/symbolic/Relation;"⟩ : MethodName)) hown (mvT hZ (hw _ (List.mem_of_getElem? (i := 1) rfl))) (mvT hZ (hw _ (List.mem_of_getElem? (i := 2) rfl))) (mvT hZ (hw _ (List.mem_of_getElem? (i := 3) rfl))) (mvT hZ (hw _ (List.mem_of_getElem? (i := 4) rfl))) (by decide) (backOf (W := 0)  (rmK l Z a0 hw [] (0 : Int32) w_EQ w_NE w_LT w_GE w_GT w_LE w_EQ h0 S_EQ S_NE S_LT S_GE S_GT S_LE rfl) hZ (hw _ (List.mem_of_getElem? (i := 4) rfl)) (hw _ (List.mem_of_getElem? (i := 3) rfl)) (by decide) (by decide)) (g := (mkF m 7 #[.val (.int p1), .val (.int p2), .val (.long q1), .second, .val (.long q2), .second, .unset, .unset, .unset, .unset, .unset] [(.int (0 : Int32))])) rfl (by rw [hml]; rfl) (argsL := [(.int (0 : Int32))]) (rest := []) (lenOf pd__I_Lcom_example_probex_probex_symbolic_Relation_ rfl) rfl (by show 2 * 0 + _ ≤ _; exact Nat.le_of_eq rfl) (hb hby at_7) (fun _ _ => ⟨rfl, e0, (by decide : 0 + 0 ≤ _), (by decide : 0 + 0 ≤ _)⟩)
    dsimp only [Pt.U, Pt.locs, Pt.cells, Pt.slots] at X102 l102 y102 z102 st102 hQ102
    subst l102 y102 z102
    obtain ⟨rfl, rfl, e102⟩ := hQ102
    have X102 : Stand p l e room_1 s m #[(.int p1), (.int p2), (.long q1), (.long q2)] below meth c T102 [] 0 0 := X102
    have P103 : ∀ t, Steps p.tables e below (T102.setTop (mkF m 24 #[.val (.int p1), .val (.int p2), .val (.long q1), .second, .val (.long q2), .second, .val (.ref w_EQ), .val (.long q2), .second, .val (.int (p2 &&& (3 : Int32))), .unset] [(.int (1 : Int32)), (.int (p2 &&& (3 : Int32)))])) t → Steps p.tables e below (s₁.setTop (entryFrame m #[(.int p1), (.int p2), (.long q1), (.long q2)] maxLocals)) t := fun t kt => P101 t (by
      show Steps p.tables e below (s₁.setTop (mkF m 7 #[.val (.int p1), .val (.int p2), .val (.long q1), .second, .val (.long q2), .second, .unset, .unset, .unset, .unset, .unset] [(.int (0 : Int32))])) _
      refine st102 _ ?_
      show Steps p.tables e below (T102.setTop (mkF m 10 #[.val (.int p1), .val (.int p2), .val (.long q1), .second, .val (.long q2), .second, .unset, .unset, .unset, .unset, .unset] [(.ref w_EQ)])) _
      refine XS.astore X102.here hx rfl (hb hby at_10) rfl rfl (l' := #[.val (.int p1), .val (.int p2), .val (.long q1), .second, .val (.long q2), .second, .val (.ref w_EQ), .unset, .unset, .unset, .unset]) rfl ?_
      show Steps p.tables e below (T102.setTop (mkF m 12 #[.val (.int p1), .val (.int p2), .val (.long q1), .second, .val (.long q2), .second, .val (.ref w_EQ), .unset, .unset, .unset, .unset] [])) _
      refine XS.lload X102.here hx rfl (hb hby at_12) rfl ?_
      show Steps p.tables e below (T102.setTop (mkF m 14 #[.val (.int p1), .val (.int p2), .val (.long q1), .second, .val (.long q2), .second, .val (.ref w_EQ), .unset, .unset, .unset, .unset] [(.long q2)])) _
      refine XS.lstore X102.here hx rfl (hb hby at_14) rfl (l' := #[.val (.int p1), .val (.int p2), .val (.long q1), .second, .val (.long q2), .second, .val (.ref w_EQ), .val (.long q2), .second, .unset, .unset]) rfl ?_
      show Steps p.tables e below (T102.setTop (mkF m 16 #[.val (.int p1), .val (.int p2), .val (.long q1), .second, .val (.long q2), .second, .val (.ref w_EQ), .val (.long q2), .second, .unset, .unset] [])) _
      refine XS.iloadN X102.here hx rfl (hb hby at_16) rfl ?_
      show Steps p.tables e below (T102.setTop (mkF m 17 #[.val (.int p1), .val (.int p2), .val (.long q1), .second, .val (.long q2), .second, .val (.ref w_EQ), .val (.long q2), .second, .unset, .unset] [(.int p2)])) _
      refine XS.iconst X102.here hx rfl (hb hby at_17) ?_
      show Steps p.tables e below (T102.setTop (mkF m 18 #[.val (.int p1), .val (.int p2), .val (.long q1), .second, .val (.long q2), .second, .val (.ref w_EQ), .val (.long q2), .second, .unset, .unset] [(.int (3 : Int32)), (.int p2)])) _
      refine XS.iand X102.here hx rfl (hb hby at_18) rfl ?_
      show Steps p.tables e below (T102.setTop (mkF m 19 #[.val (.int p1), .val (.int p2), .val (.long q1), .second, .val (.long q2), .second, .val (.ref w_EQ), .val (.long q2), .second, .unset, .unset] [(.int (p2 &&& (3 : Int32)))])) _
      refine XS.istore X102.here hx rfl (hb hby at_19) rfl (l' := #[.val (.int p1), .val (.int p2), .val (.long q1), .second, .val (.long q2), .second, .val (.ref w_EQ), .val (.long q2), .second, .val (.int (p2 &&& (3 : Int32))), .unset]) rfl ?_
      show Steps p.tables e below (T102.setTop (mkF m 21 #[.val (.int p1), .val (.int p2), .val (.long q1), .second, .val (.long q2), .second, .val (.ref w_EQ), .val (.long q2), .second, .val (.int (p2 &&& (3 : Int32))), .unset] [])) _
      refine XS.iload X102.here hx rfl (hb hby at_21) rfl ?_
      show Steps p.tables e below (T102.setTop (mkF m 23 #[.val (.int p1), .val (.int p2), .val (.long q1), .second, .val (.long q2), .second, .val (.ref w_EQ), .val (.long q2), .second, .val (.int (p2 &&& (3 : Int32))), .unset] [(.int (p2 &&& (3 : Int32)))])) _
      refine XS.iconst X102.here hx rfl (hb hby at_23) ?_
      exact kt)
    obtain ⟨v104_L7, hv104_L7⟩ : ∃ z : Int64, z = (if (p2 &&& (3 : Int32)) = (1 : Int32) then q1 else (if (p2 &&& (3 : Int32)) = (2 : Int32) then (q1 + (1 : Int64)) else (if (p2 &&& (3 : Int32)) = (3 : Int32) then (q1 - (1 : Int64)) else q2))) := ⟨_, rfl⟩
    have J104 : ∀ t, Steps p.tables e below (T102.setTop (mkF m 58 #[.val (.int p1), .val (.int p2), .val (.long q1), .second, .val (.long q2), .second, .val (.ref w_EQ), .val (.long v104_L7), .second, .val (.int (p2 &&& (3 : Int32))), .unset] [])) t → Steps p.tables e below (T102.setTop (mkF m 24 #[.val (.int p1), .val (.int p2), .val (.long q1), .second, .val (.long q2), .second, .val (.ref w_EQ), .val (.long q2), .second, .val (.int (p2 &&& (3 : Int32))), .unset] [(.int (1 : Int32)), (.int (p2 &&& (3 : Int32)))])) t := by
      intro t kt
      by_cases hr104_24_0 : (p2 &&& (3 : Int32)) = (1 : Int32)
      · have evv104_L7 : v104_L7 = q1 := by rw [hv104_L7, if_pos hr104_24_0]
        rw [evv104_L7] at kt
        show Steps p.tables e below (T102.setTop (mkF m 24 #[.val (.int p1), .val (.int p2), .val (.long q1), .second, .val (.long q2), .second, .val (.ref w_EQ), .val (.long q2), .second, .val (.int (p2 &&& (3 : Int32))), .unset] [(.int (1 : Int32)), (.int (p2 &&& (3 : Int32)))])) _
        refine XS.icmpNo X102.here hx rfl (hb hby at_24) rfl (teq hr104_24_0).2 ?_
        show Steps p.tables e below (T102.setTop (mkF m 27 #[.val (.int p1), .val (.int p2), .val (.long q1), .second, .val (.long q2), .second, .val (.ref w_EQ), .val (.long q2), .second, .val (.int (p2 &&& (3 : Int32))), .unset] [])) _
        refine XS.lloadN X102.here hx rfl (hb hby at_27) rfl ?_
        show Steps p.tables e below (T102.setTop (mkF m 28 #[.val (.int p1), .val (.int p2), .val (.long q1), .second, .val (.long q2), .second, .val (.ref w_EQ), .val (.long q2), .second, .val (.int (p2 &&& (3 : Int32))), .unset] [(.long q1)])) _
        refine XS.lstore X102.here hx rfl (hb hby at_28) rfl (l' := #[.val (.int p1), .val (.int p2), .val (.long q1), .second, .val (.long q2), .second, .val (.ref w_EQ), .val (.long q1), .second, .val (.int (p2 &&& (3 : Int32))), .unset]) rfl ?_
        show Steps p.tables e below (T102.setTop (mkF m 30 #[.val (.int p1), .val (.int p2), .val (.long q1), .second, .val (.long q2), .second, .val (.ref w_EQ), .val (.long q1), .second, .val (.int (p2 &&& (3 : Int32))), .unset] [])) _
        refine XS.goto X102.here hx rfl (pc0 := 30) (pc' := 58) rfl (hb hby at_30) (by decide) (by decide) ?_
        exact kt
      · show Steps p.tables e below (T102.setTop (mkF m 24 #[.val (.int p1), .val (.int p2), .val (.long q1), .second, .val (.long q2), .second, .val (.ref w_EQ), .val (.long q2), .second, .val (.int (p2 &&& (3 : Int32))), .unset] [(.int (1 : Int32)), (.int (p2 &&& (3 : Int32)))])) _
        refine XS.icmpYes X102.here hx rfl (pc0 := 24) (pc' := 33) rfl (hb hby at_24) rfl (feq hr104_24_0).2 (by decide) (by decide) ?_
        show Steps p.tables e below (T102.setTop (mkF m 33 #[.val (.int p1), .val (.int p2), .val (.long q1), .second, .val (.long q2), .second, .val (.ref w_EQ), .val (.long q2), .second, .val (.int (p2 &&& (3 : Int32))), .unset] [])) _
        refine XS.iload X102.here hx rfl (hb hby at_33) rfl ?_
        show Steps p.tables e below (T102.setTop (mkF m 35 #[.val (.int p1), .val (.int p2), .val (.long q1), .second, .val (.long q2), .second, .val (.ref w_EQ), .val (.long q2), .second, .val (.int (p2 &&& (3 : Int32))), .unset] [(.int (p2 &&& (3 : Int32)))])) _
        refine XS.iconst X102.here hx rfl (hb hby at_35) ?_
        by_cases hr104_36_1 : (p2 &&& (3 : Int32)) = (2 : Int32)
        · have evv104_L7 : v104_L7 = (q1 + (1 : Int64)) := by rw [hv104_L7, if_neg hr104_24_0, if_pos hr104_36_1]
          rw [evv104_L7] at kt
          show Steps p.tables e below (T102.setTop (mkF m 36 #[.val (.int p1), .val (.int p2), .val (.long q1), .second, .val (.long q2), .second, .val (.ref w_EQ), .val (.long q2), .second, .val (.int (p2 &&& (3 : Int32))), .unset] [(.int (2 : Int32)), (.int (p2 &&& (3 : Int32)))])) _
          refine XS.icmpNo X102.here hx rfl (hb hby at_36) rfl (teq hr104_36_1).2 ?_
          show Steps p.tables e below (T102.setTop (mkF m 39 #[.val (.int p1), .val (.int p2), .val (.long q1), .second, .val (.long q2), .second, .val (.ref w_EQ), .val (.long q2), .second, .val (.int (p2 &&& (3 : Int32))), .unset] [])) _
          refine XS.lloadN X102.here hx rfl (hb hby at_39) rfl ?_
          show Steps p.tables e below (T102.setTop (mkF m 40 #[.val (.int p1), .val (.int p2), .val (.long q1), .second, .val (.long q2), .second, .val (.ref w_EQ), .val (.long q2), .second, .val (.int (p2 &&& (3 : Int32))), .unset] [(.long q1)])) _
          refine XS.lconst X102.here hx rfl (hb hby at_40) ?_
          show Steps p.tables e below (T102.setTop (mkF m 41 #[.val (.int p1), .val (.int p2), .val (.long q1), .second, .val (.long q2), .second, .val (.ref w_EQ), .val (.long q2), .second, .val (.int (p2 &&& (3 : Int32))), .unset] [(.long (1 : Int64)), (.long q1)])) _
          refine XS.ladd X102.here hx rfl (hb hby at_41) rfl ?_
          show Steps p.tables e below (T102.setTop (mkF m 42 #[.val (.int p1), .val (.int p2), .val (.long q1), .second, .val (.long q2), .second, .val (.ref w_EQ), .val (.long q2), .second, .val (.int (p2 &&& (3 : Int32))), .unset] [(.long (q1 + (1 : Int64)))])) _
          refine XS.lstore X102.here hx rfl (hb hby at_42) rfl (l' := #[.val (.int p1), .val (.int p2), .val (.long q1), .second, .val (.long q2), .second, .val (.ref w_EQ), .val (.long (q1 + (1 : Int64))), .second, .val (.int (p2 &&& (3 : Int32))), .unset]) rfl ?_
          show Steps p.tables e below (T102.setTop (mkF m 44 #[.val (.int p1), .val (.int p2), .val (.long q1), .second, .val (.long q2), .second, .val (.ref w_EQ), .val (.long (q1 + (1 : Int64))), .second, .val (.int (p2 &&& (3 : Int32))), .unset] [])) _
          refine XS.goto X102.here hx rfl (pc0 := 44) (pc' := 58) rfl (hb hby at_44) (by decide) (by decide) ?_
          exact kt
        · show Steps p.tables e below (T102.setTop (mkF m 36 #[.val (.int p1), .val (.int p2), .val (.long q1), .second, .val (.long q2), .second, .val (.ref w_EQ), .val (.long q2), .second, .val (.int (p2 &&& (3 : Int32))), .unset] [(.int (2 : Int32)), (.int (p2 &&& (3 : Int32)))])) _
          refine XS.icmpYes X102.here hx rfl (pc0 := 36) (pc' := 47) rfl (hb hby at_36) rfl (feq hr104_36_1).2 (by decide) (by decide) ?_
          show Steps p.tables e below (T102.setTop (mkF m 47 #[.val (.int p1), .val (.int p2), .val (.long q1), .second, .val (.long q2), .second, .val (.ref w_EQ), .val (.long q2), .second, .val (.int (p2 &&& (3 : Int32))), .unset] [])) _
          refine XS.iload X102.here hx rfl (hb hby at_47) rfl ?_
          show Steps p.tables e below (T102.setTop (mkF m 49 #[.val (.int p1), .val (.int p2), .val (.long q1), .second, .val (.long q2), .second, .val (.ref w_EQ), .val (.long q2), .second, .val (.int (p2 &&& (3 : Int32))), .unset] [(.int (p2 &&& (3 : Int32)))])) _
          refine XS.iconst X102.here hx rfl (hb hby at_49) ?_
          by_cases hr104_50_2 : (p2 &&& (3 : Int32)) = (3 : Int32)
          · have evv104_L7 : v104_L7 = (q1 - (1 : Int64)) := by rw [hv104_L7, if_neg hr104_24_0, if_neg hr104_36_1, if_pos hr104_50_2]
            rw [evv104_L7] at kt
            show Steps p.tables e below (T102.setTop (mkF m 50 #[.val (.int p1), .val (.int p2), .val (.long q1), .second, .val (.long q2), .second, .val (.ref w_EQ), .val (.long q2), .second, .val (.int (p2 &&& (3 : Int32))), .unset] [(.int (3 : Int32)), (.int (p2 &&& (3 : Int32)))])) _
            refine XS.icmpNo X102.here hx rfl (hb hby at_50) rfl (teq hr104_50_2).2 ?_
            show Steps p.tables e below (T102.setTop (mkF m 53 #[.val (.int p1), .val (.int p2), .val (.long q1), .second, .val (.long q2), .second, .val (.ref w_EQ), .val (.long q2), .second, .val (.int (p2 &&& (3 : Int32))), .unset] [])) _
            refine XS.lloadN X102.here hx rfl (hb hby at_53) rfl ?_
            show Steps p.tables e below (T102.setTop (mkF m 54 #[.val (.int p1), .val (.int p2), .val (.long q1), .second, .val (.long q2), .second, .val (.ref w_EQ), .val (.long q2), .second, .val (.int (p2 &&& (3 : Int32))), .unset] [(.long q1)])) _
            refine XS.lconst X102.here hx rfl (hb hby at_54) ?_
            show Steps p.tables e below (T102.setTop (mkF m 55 #[.val (.int p1), .val (.int p2), .val (.long q1), .second, .val (.long q2), .second, .val (.ref w_EQ), .val (.long q2), .second, .val (.int (p2 &&& (3 : Int32))), .unset] [(.long (1 : Int64)), (.long q1)])) _
            refine XS.lsub X102.here hx rfl (hb hby at_55) rfl ?_
            show Steps p.tables e below (T102.setTop (mkF m 56 #[.val (.int p1), .val (.int p2), .val (.long q1), .second, .val (.long q2), .second, .val (.ref w_EQ), .val (.long q2), .second, .val (.int (p2 &&& (3 : Int32))), .unset] [(.long (q1 - (1 : Int64)))])) _
            refine XS.lstore X102.here hx rfl (hb hby at_56) rfl (l' := #[.val (.int p1), .val (.int p2), .val (.long q1), .second, .val (.long q2), .second, .val (.ref w_EQ), .val (.long (q1 - (1 : Int64))), .second, .val (.int (p2 &&& (3 : Int32))), .unset]) rfl ?_
            exact kt
          · have evv104_L7 : v104_L7 = q2 := by rw [hv104_L7, if_neg hr104_24_0, if_neg hr104_36_1, if_neg hr104_50_2]
            rw [evv104_L7] at kt
            show Steps p.tables e below (T102.setTop (mkF m 50 #[.val (.int p1), .val (.int p2), .val (.long q1), .second, .val (.long q2), .second, .val (.ref w_EQ), .val (.long q2), .second, .val (.int (p2 &&& (3 : Int32))), .unset] [(.int (3 : Int32)), (.int (p2 &&& (3 : Int32)))])) _
            refine XS.icmpYes X102.here hx rfl (pc0 := 50) (pc' := 58) rfl (hb hby at_50) rfl (feq hr104_50_2).2 (by decide) (by decide) ?_
            exact kt
    have P105 : ∀ t, Steps p.tables e below (T102.setTop (mkF m 58 #[.val (.int p1), .val (.int p2), .val (.long q1), .second, .val (.long q2), .second, .val (.ref w_EQ), .val (.long v104_L7), .second, .val (.int (p2 &&& (3 : Int32))), .unset] [])) t → Steps p.tables e below (s₁.setTop (entryFrame m #[(.int p1), (.int p2), (.long q1), (.long q2)] maxLocals)) t := fun t kt => P103 t (J104 t kt)
    obtain ⟨cq106, kq106, q106a, q106b, q106c⟩ := isOf hZ e102 E_EQ
    obtain ⟨_, _, ⟨T106, L106, k106, n106⟩, -, X106, ⟨Lc106, hQ106, l106, y106, z106⟩, st106⟩ := X102.virtualBack hx (y := (⟨"com/example/probex/probex/symbolic/Relation", "negate", "()Lcom/example/probex/probex/symbolic/Relation;"⟩ : MethodName)) (z := (⟨"com/example/probex/probex/symbolic/Relation", "negate", "()Lcom/example/probex/probex/symbolic/Relation;"⟩ : MethodName)) hown (mvT hZ (hw _ (List.mem_of_getElem? (i := 8) rfl))) (mvT hZ (hw _ (List.mem_of_getElem? (i := 9) rfl))) (notFace_of_selects (args := #[]) (mvT hZ (hw _ (List.mem_of_getElem? (i := 11) rfl)))) (mvT hZ (hw _ (List.mem_of_getElem? (i := 11) rfl))) (mvT hZ (hw _ (List.mem_of_getElem? (i := 10) rfl))) (by decide) (backOf (W := 0)  (rmG l Z a0 hw [] w_EQ (0 : Int32) w_EQ w_NE w_LT w_GE w_GT w_LE w_NE h0 S_EQ S_NE S_LT S_GE S_GT S_LE E_EQ O_EQ (by decide) rfl) hZ (hw _ (List.mem_of_getElem? (i := 12) rfl)) (hw _ (List.mem_of_getElem? (i := 6) rfl)) (by decide) (by decide)) q106a q106c (g := (mkF m 60 #[.val (.int p1), .val (.int p2), .val (.long q1), .second, .val (.long q2), .second, .val (.ref w_EQ), .val (.long v104_L7), .second, .val (.int (p2 &&& (3 : Int32))), .unset] [(.ref w_EQ)])) rfl (by rw [hml]; rfl) (Steps.refl _) (argsL := []) (rest := []) (lenOf pd___Lcom_example_probex_probex_symbolic_Relation_ rfl) rfl (by show 2 * 0 + _ ≤ _; exact Nat.le_of_eq rfl) (hb hby at_60) (fun _ _ => ⟨rfl, e102, (by decide : 0 + 0 ≤ _), (by decide : 0 + 0 ≤ _)⟩)
    dsimp only [Pt.U, Pt.locs, Pt.cells, Pt.slots] at X106 l106 y106 z106 st106 hQ106
    subst l106 y106 z106
    obtain ⟨rfl, rfl, e106⟩ := hQ106
    have X106 : Stand p l e room_1 s m #[(.int p1), (.int p2), (.long q1), (.long q2)] below meth c T106 [] 0 0 := X106
    obtain ⟨cq107, kq107, q107a, q107b, q107c⟩ := isOf hZ e106 E_NE
    obtain ⟨_, _, ⟨T107, L107, k107, n107⟩, -, X107, ⟨Lc107, hQ107, l107, y107, z107⟩, st107⟩ := X106.virtualBack hx (y := (⟨"com/example/probex/probex/symbolic/Relation", "test", "(JJ)Z"⟩ : MethodName)) (z := (⟨"com/example/probex/probex/symbolic/Relation", "test", "(JJ)Z"⟩ : MethodName)) hown (mvT hZ (hw _ (List.mem_of_getElem? (i := 24) rfl))) (mvT hZ (hw _ (List.mem_of_getElem? (i := 25) rfl))) (notFace_of_selects (args := #[]) (mvT hZ (hw _ (List.mem_of_getElem? (i := 27) rfl)))) (mvT hZ (hw _ (List.mem_of_getElem? (i := 27) rfl))) (mvT hZ (hw _ (List.mem_of_getElem? (i := 26) rfl))) (by decide) (backOf (W := 0)  (rmT l Z a0 hw [] w_NE (1 : Int32) q1 v104_L7 h0 E_NE O_NE (by decide)) hZ (hw _ (List.mem_of_getElem? (i := 28) rfl)) (hw _ (List.mem_of_getElem? (i := 6) rfl)) (by decide) (by decide)) q107a q107c (g := (mkF m 77 #[.val (.int p1), .val (.int p2), .val (.long q1), .second, .val (.long q2), .second, .val (.ref w_EQ), .val (.long v104_L7), .second, .val (.int (p2 &&& (3 : Int32))), .val (.ref w_NE)] [(.long v104_L7), (.long q1), (.ref w_NE)])) rfl (by rw [hml]; rfl) (Steps.refl _) (argsL := [(.long q1), (.long v104_L7)]) (rest := []) (lenOf pd__JJ_Z rfl) rfl (by show 2 * 0 + _ ≤ _; exact Nat.le_of_eq rfl) (hb hby at_77) (fun _ _ => ⟨rfl, e106, (by decide : 0 + 0 ≤ _), (by decide : 0 + 0 ≤ _)⟩)
    dsimp only [Pt.U, Pt.locs, Pt.cells, Pt.slots] at X107 l107 y107 z107 st107 hQ107
    subst l107 y107 z107
    obtain ⟨rfl, rfl, e107⟩ := hQ107
    have X107 : Stand p l e room_1 s m #[(.int p1), (.int p2), (.long q1), (.long q2)] below meth c T107 [] 0 0 := X107
    obtain ⟨cq108, kq108, q108a, q108b, q108c⟩ := isOf hZ e107 E_EQ
    obtain ⟨_, _, ⟨T108, L108, k108, n108⟩, -, X108, ⟨Lc108, hQ108, l108, y108, z108⟩, st108⟩ := X107.virtualBack hx (y := (⟨"com/example/probex/probex/symbolic/Relation", "test", "(JJ)Z"⟩ : MethodName)) (z := (⟨"com/example/probex/probex/symbolic/Relation", "test", "(JJ)Z"⟩ : MethodName)) hown (mvT hZ (hw _ (List.mem_of_getElem? (i := 24) rfl))) (mvT hZ (hw _ (List.mem_of_getElem? (i := 25) rfl))) (notFace_of_selects (args := #[]) (mvT hZ (hw _ (List.mem_of_getElem? (i := 27) rfl)))) (mvT hZ (hw _ (List.mem_of_getElem? (i := 27) rfl))) (mvT hZ (hw _ (List.mem_of_getElem? (i := 26) rfl))) (by decide) (backOf (W := 1)  (rmT l Z a0 hw [] w_EQ (0 : Int32) q1 v104_L7 h0 E_EQ O_EQ (by decide)) hZ (hw _ (List.mem_of_getElem? (i := 28) rfl)) (hw _ (List.mem_of_getElem? (i := 6) rfl)) (by decide) (by decide)) q108a q108c (g := (mkF m 85 #[.val (.int p1), .val (.int p2), .val (.long q1), .second, .val (.long q2), .second, .val (.ref w_EQ), .val (.long v104_L7), .second, .val (.int (p2 &&& (3 : Int32))), .val (.ref w_NE)] [(.long v104_L7), (.long q1), (.ref w_EQ), (.int (tst (1 : Int32) q1 v104_L7))])) rfl (by rw [hml]; rfl) (Steps.refl _) (argsL := [(.long q1), (.long v104_L7)]) (rest := [(.int (tst (1 : Int32) q1 v104_L7))]) (lenOf pd__JJ_Z rfl) rfl (by show 2 * 0 + _ ≤ _; exact Nat.le_of_eq rfl) (hb hby at_85) (fun _ _ => ⟨rfl, e107, (by decide : 0 + 0 ≤ _), (by decide : 0 + 0 ≤ _)⟩)
    dsimp only [Pt.U, Pt.locs, Pt.cells, Pt.slots] at X108 l108 y108 z108 st108 hQ108
    subst l108 y108 z108
    obtain ⟨rfl, rfl, e108⟩ := hQ108
    have X108 : Stand p l e room_1 s m #[(.int p1), (.int p2), (.long q1), (.long q2)] below meth c T108 [] 0 0 := X108
    have P109 : ∀ t, Steps p.tables e below (T108.setTop (mkF m 96 #[.val (.int p1), .val (.int p2), .val (.long q1), .second, .val (.long q2), .second, .val (.ref w_EQ), .val (.long v104_L7), .second, .val (.int (p2 &&& (3 : Int32))), .val (.ref w_NE)] [(.int (1 : Int32))])) t → Steps p.tables e below (s₁.setTop (entryFrame m #[(.int p1), (.int p2), (.long q1), (.long q2)] maxLocals)) t := fun t kt => P105 t (by
      show Steps p.tables e below (T102.setTop (mkF m 58 #[.val (.int p1), .val (.int p2), .val (.long q1), .second, .val (.long q2), .second, .val (.ref w_EQ), .val (.long v104_L7), .second, .val (.int (p2 &&& (3 : Int32))), .unset] [])) _
      refine XS.aload X102.here hx rfl (hb hby at_58) rfl rfl ?_
      show Steps p.tables e below (T102.setTop (mkF m 60 #[.val (.int p1), .val (.int p2), .val (.long q1), .second, .val (.long q2), .second, .val (.ref w_EQ), .val (.long v104_L7), .second, .val (.int (p2 &&& (3 : Int32))), .unset] [(.ref w_EQ)])) _
      refine st106.trans ?_
      show Steps p.tables e below (T106.setTop (mkF m 63 #[.val (.int p1), .val (.int p2), .val (.long q1), .second, .val (.long q2), .second, .val (.ref w_EQ), .val (.long v104_L7), .second, .val (.int (p2 &&& (3 : Int32))), .unset] [(.ref w_NE)])) _
      refine XS.astore X106.here hx rfl (hb hby at_63) rfl rfl (l' := #[.val (.int p1), .val (.int p2), .val (.long q1), .second, .val (.long q2), .second, .val (.ref w_EQ), .val (.long v104_L7), .second, .val (.int (p2 &&& (3 : Int32))), .val (.ref w_NE)]) rfl ?_
      show Steps p.tables e below (T106.setTop (mkF m 65 #[.val (.int p1), .val (.int p2), .val (.long q1), .second, .val (.long q2), .second, .val (.ref w_EQ), .val (.long v104_L7), .second, .val (.int (p2 &&& (3 : Int32))), .val (.ref w_NE)] [])) _
      refine XS.aload X106.here hx rfl (hb hby at_65) rfl rfl ?_
      show Steps p.tables e below (T106.setTop (mkF m 67 #[.val (.int p1), .val (.int p2), .val (.long q1), .second, .val (.long q2), .second, .val (.ref w_EQ), .val (.long v104_L7), .second, .val (.int (p2 &&& (3 : Int32))), .val (.ref w_NE)] [(.ref w_NE)])) _
      refine XS.ifnonnullYes X106.here hx rfl (pc0 := 67) (pc' := 72) rfl (hb hby at_67) rfl (by decide) (by decide) ?_
      show Steps p.tables e below (T106.setTop (mkF m 72 #[.val (.int p1), .val (.int p2), .val (.long q1), .second, .val (.long q2), .second, .val (.ref w_EQ), .val (.long v104_L7), .second, .val (.int (p2 &&& (3 : Int32))), .val (.ref w_NE)] [])) _
      refine XS.aload X106.here hx rfl (hb hby at_72) rfl rfl ?_
      show Steps p.tables e below (T106.setTop (mkF m 74 #[.val (.int p1), .val (.int p2), .val (.long q1), .second, .val (.long q2), .second, .val (.ref w_EQ), .val (.long v104_L7), .second, .val (.int (p2 &&& (3 : Int32))), .val (.ref w_NE)] [(.ref w_NE)])) _
      refine XS.lloadN X106.here hx rfl (hb hby at_74) rfl ?_
      show Steps p.tables e below (T106.setTop (mkF m 75 #[.val (.int p1), .val (.int p2), .val (.long q1), .second, .val (.long q2), .second, .val (.ref w_EQ), .val (.long v104_L7), .second, .val (.int (p2 &&& (3 : Int32))), .val (.ref w_NE)] [(.long q1), (.ref w_NE)])) _
      refine XS.lload X106.here hx rfl (hb hby at_75) rfl ?_
      show Steps p.tables e below (T106.setTop (mkF m 77 #[.val (.int p1), .val (.int p2), .val (.long q1), .second, .val (.long q2), .second, .val (.ref w_EQ), .val (.long v104_L7), .second, .val (.int (p2 &&& (3 : Int32))), .val (.ref w_NE)] [(.long v104_L7), (.long q1), (.ref w_NE)])) _
      refine st107.trans ?_
      show Steps p.tables e below (T107.setTop (mkF m 80 #[.val (.int p1), .val (.int p2), .val (.long q1), .second, .val (.long q2), .second, .val (.ref w_EQ), .val (.long v104_L7), .second, .val (.int (p2 &&& (3 : Int32))), .val (.ref w_NE)] [(.int (tst (1 : Int32) q1 v104_L7))])) _
      refine XS.aload X107.here hx rfl (hb hby at_80) rfl rfl ?_
      show Steps p.tables e below (T107.setTop (mkF m 82 #[.val (.int p1), .val (.int p2), .val (.long q1), .second, .val (.long q2), .second, .val (.ref w_EQ), .val (.long v104_L7), .second, .val (.int (p2 &&& (3 : Int32))), .val (.ref w_NE)] [(.ref w_EQ), (.int (tst (1 : Int32) q1 v104_L7))])) _
      refine XS.lloadN X107.here hx rfl (hb hby at_82) rfl ?_
      show Steps p.tables e below (T107.setTop (mkF m 83 #[.val (.int p1), .val (.int p2), .val (.long q1), .second, .val (.long q2), .second, .val (.ref w_EQ), .val (.long v104_L7), .second, .val (.int (p2 &&& (3 : Int32))), .val (.ref w_NE)] [(.long q1), (.ref w_EQ), (.int (tst (1 : Int32) q1 v104_L7))])) _
      refine XS.lload X107.here hx rfl (hb hby at_83) rfl ?_
      show Steps p.tables e below (T107.setTop (mkF m 85 #[.val (.int p1), .val (.int p2), .val (.long q1), .second, .val (.long q2), .second, .val (.ref w_EQ), .val (.long v104_L7), .second, .val (.int (p2 &&& (3 : Int32))), .val (.ref w_NE)] [(.long v104_L7), (.long q1), (.ref w_EQ), (.int (tst (1 : Int32) q1 v104_L7))])) _
      refine st108.trans ?_
      show Steps p.tables e below (T108.setTop (mkF m 88 #[.val (.int p1), .val (.int p2), .val (.long q1), .second, .val (.long q2), .second, .val (.ref w_EQ), .val (.long v104_L7), .second, .val (.int (p2 &&& (3 : Int32))), .val (.ref w_NE)] [(.int (tst (0 : Int32) q1 v104_L7)), (.int (tst (1 : Int32) q1 v104_L7))])) _
      refine XS.icmpNo X108.here hx rfl (hb hby at_88) rfl (feq (own_n0 _ _ : ¬ ((tst (1 : Int32) q1 v104_L7) = (tst (0 : Int32) q1 v104_L7)))).1 ?_
      show Steps p.tables e below (T108.setTop (mkF m 91 #[.val (.int p1), .val (.int p2), .val (.long q1), .second, .val (.long q2), .second, .val (.ref w_EQ), .val (.long v104_L7), .second, .val (.int (p2 &&& (3 : Int32))), .val (.ref w_NE)] [])) _
      refine XS.iconst X108.here hx rfl (hb hby at_91) ?_
      show Steps p.tables e below (T108.setTop (mkF m 92 #[.val (.int p1), .val (.int p2), .val (.long q1), .second, .val (.long q2), .second, .val (.ref w_EQ), .val (.long v104_L7), .second, .val (.int (p2 &&& (3 : Int32))), .val (.ref w_NE)] [(.int (1 : Int32))])) _
      refine XS.goto X108.here hx rfl (pc0 := 92) (pc' := 96) rfl (hb hby at_92) (by decide) (by decide) ?_
      exact kt)
    obtain ⟨fs, hr, hrun, hended, hW, hsame⟩ := X108.leave (v := some (.int (1 : Int32))) (fun h => by rw [Bd.returns] at h; cases h) (hlocks := hlk)
    refine ⟨_, _, P109 _ ?_, hrun, hended, _, _, rfl, ?_, ⟨_, rfl⟩, hW, hsame.mono (by decide) (by decide)⟩
    · show Steps p.tables e below (T108.setTop (mkF m 96 #[.val (.int p1), .val (.int p2), .val (.long q1), .second, .val (.long q2), .second, .val (.ref w_EQ), .val (.long v104_L7), .second, .val (.int (p2 &&& (3 : Int32))), .val (.ref w_NE)] [(.int (1 : Int32))])) _
      exact retN X108 hx (t := .boolean) Bd.returns (by simp) (hb hby at_96) hr
    · show QP _ h0 _ T108.heap _
      exact ⟨rfl, rfl, e108⟩
  · obtain ⟨_, _, ⟨T110, L110, k110, n110⟩, -, X110, ⟨Lc110, hQ110, l110, y110, z110⟩, st110⟩ := Jvm.LawKit.callS X0 hx (y := (⟨"com/example/probex/probex/symbolic/RelationNegatePinLaw", "pick", "(I)Lcom/example/probex/probex/symbolic/Relation;"⟩ : MethodName)) hown (mvT hZ (hw _ (List.mem_of_getElem? (i := 1) rfl))) (mvT hZ (hw _ (List.mem_of_getElem? (i := 2) rfl))) (mvT hZ (hw _ (List.mem_of_getElem? (i := 3) rfl))) (mvT hZ (hw _ (List.mem_of_getElem? (i := 4) rfl))) (by decide) (backOf (W := 0)  (rmK l Z a0 hw [] (1 : Int32) w_EQ w_NE w_LT w_GE w_GT w_LE w_NE h0 S_EQ S_NE S_LT S_GE S_GT S_LE rfl) hZ (hw _ (List.mem_of_getElem? (i := 4) rfl)) (hw _ (List.mem_of_getElem? (i := 3) rfl)) (by decide) (by decide)) (g := (mkF m 7 #[.val (.int p1), .val (.int p2), .val (.long q1), .second, .val (.long q2), .second, .unset, .unset, .unset, .unset, .unset] [(.int (1 : Int32))])) rfl (by rw [hml]; rfl) (argsL := [(.int (1 : Int32))]) (rest := []) (lenOf pd__I_Lcom_example_probex_probex_symbolic_Relation_ rfl) rfl (by show 2 * 0 + _ ≤ _; exact Nat.le_of_eq rfl) (hb hby at_7) (fun _ _ => ⟨rfl, e0, (by decide : 0 + 0 ≤ _), (by decide : 0 + 0 ≤ _)⟩)
    dsimp only [Pt.U, Pt.locs, Pt.cells, Pt.slots] at X110 l110 y110 z110 st110 hQ110
    subst l110 y110 z110
    obtain ⟨rfl, rfl, e110⟩ := hQ110
    have X110 : Stand p l e room_1 s m #[(.int p1), (.int p2), (.long q1), (.long q2)] below meth c T110 [] 0 0 := X110
    have P111 : ∀ t, Steps p.tables e below (T110.setTop (mkF m 24 #[.val (.int p1), .val (.int p2), .val (.long q1), .second, .val (.long q2), .second, .val (.ref w_NE), .val (.long q2), .second, .val (.int (p2 &&& (3 : Int32))), .unset] [(.int (1 : Int32)), (.int (p2 &&& (3 : Int32)))])) t → Steps p.tables e below (s₁.setTop (entryFrame m #[(.int p1), (.int p2), (.long q1), (.long q2)] maxLocals)) t := fun t kt => P101 t (by
      show Steps p.tables e below (s₁.setTop (mkF m 7 #[.val (.int p1), .val (.int p2), .val (.long q1), .second, .val (.long q2), .second, .unset, .unset, .unset, .unset, .unset] [(.int (1 : Int32))])) _
      refine st110 _ ?_
      show Steps p.tables e below (T110.setTop (mkF m 10 #[.val (.int p1), .val (.int p2), .val (.long q1), .second, .val (.long q2), .second, .unset, .unset, .unset, .unset, .unset] [(.ref w_NE)])) _
      refine XS.astore X110.here hx rfl (hb hby at_10) rfl rfl (l' := #[.val (.int p1), .val (.int p2), .val (.long q1), .second, .val (.long q2), .second, .val (.ref w_NE), .unset, .unset, .unset, .unset]) rfl ?_
      show Steps p.tables e below (T110.setTop (mkF m 12 #[.val (.int p1), .val (.int p2), .val (.long q1), .second, .val (.long q2), .second, .val (.ref w_NE), .unset, .unset, .unset, .unset] [])) _
      refine XS.lload X110.here hx rfl (hb hby at_12) rfl ?_
      show Steps p.tables e below (T110.setTop (mkF m 14 #[.val (.int p1), .val (.int p2), .val (.long q1), .second, .val (.long q2), .second, .val (.ref w_NE), .unset, .unset, .unset, .unset] [(.long q2)])) _
      refine XS.lstore X110.here hx rfl (hb hby at_14) rfl (l' := #[.val (.int p1), .val (.int p2), .val (.long q1), .second, .val (.long q2), .second, .val (.ref w_NE), .val (.long q2), .second, .unset, .unset]) rfl ?_
      show Steps p.tables e below (T110.setTop (mkF m 16 #[.val (.int p1), .val (.int p2), .val (.long q1), .second, .val (.long q2), .second, .val (.ref w_NE), .val (.long q2), .second, .unset, .unset] [])) _
      refine XS.iloadN X110.here hx rfl (hb hby at_16) rfl ?_
      show Steps p.tables e below (T110.setTop (mkF m 17 #[.val (.int p1), .val (.int p2), .val (.long q1), .second, .val (.long q2), .second, .val (.ref w_NE), .val (.long q2), .second, .unset, .unset] [(.int p2)])) _
      refine XS.iconst X110.here hx rfl (hb hby at_17) ?_
      show Steps p.tables e below (T110.setTop (mkF m 18 #[.val (.int p1), .val (.int p2), .val (.long q1), .second, .val (.long q2), .second, .val (.ref w_NE), .val (.long q2), .second, .unset, .unset] [(.int (3 : Int32)), (.int p2)])) _
      refine XS.iand X110.here hx rfl (hb hby at_18) rfl ?_
      show Steps p.tables e below (T110.setTop (mkF m 19 #[.val (.int p1), .val (.int p2), .val (.long q1), .second, .val (.long q2), .second, .val (.ref w_NE), .val (.long q2), .second, .unset, .unset] [(.int (p2 &&& (3 : Int32)))])) _
      refine XS.istore X110.here hx rfl (hb hby at_19) rfl (l' := #[.val (.int p1), .val (.int p2), .val (.long q1), .second, .val (.long q2), .second, .val (.ref w_NE), .val (.long q2), .second, .val (.int (p2 &&& (3 : Int32))), .unset]) rfl ?_
      show Steps p.tables e below (T110.setTop (mkF m 21 #[.val (.int p1), .val (.int p2), .val (.long q1), .second, .val (.long q2), .second, .val (.ref w_NE), .val (.long q2), .second, .val (.int (p2 &&& (3 : Int32))), .unset] [])) _
      refine XS.iload X110.here hx rfl (hb hby at_21) rfl ?_
      show Steps p.tables e below (T110.setTop (mkF m 23 #[.val (.int p1), .val (.int p2), .val (.long q1), .second, .val (.long q2), .second, .val (.ref w_NE), .val (.long q2), .second, .val (.int (p2 &&& (3 : Int32))), .unset] [(.int (p2 &&& (3 : Int32)))])) _
      refine XS.iconst X110.here hx rfl (hb hby at_23) ?_
      exact kt)
    obtain ⟨v112_L7, hv112_L7⟩ : ∃ z : Int64, z = (if (p2 &&& (3 : Int32)) = (1 : Int32) then q1 else (if (p2 &&& (3 : Int32)) = (2 : Int32) then (q1 + (1 : Int64)) else (if (p2 &&& (3 : Int32)) = (3 : Int32) then (q1 - (1 : Int64)) else q2))) := ⟨_, rfl⟩
    have J112 : ∀ t, Steps p.tables e below (T110.setTop (mkF m 58 #[.val (.int p1), .val (.int p2), .val (.long q1), .second, .val (.long q2), .second, .val (.ref w_NE), .val (.long v112_L7), .second, .val (.int (p2 &&& (3 : Int32))), .unset] [])) t → Steps p.tables e below (T110.setTop (mkF m 24 #[.val (.int p1), .val (.int p2), .val (.long q1), .second, .val (.long q2), .second, .val (.ref w_NE), .val (.long q2), .second, .val (.int (p2 &&& (3 : Int32))), .unset] [(.int (1 : Int32)), (.int (p2 &&& (3 : Int32)))])) t := by
      intro t kt
      by_cases hr112_24_0 : (p2 &&& (3 : Int32)) = (1 : Int32)
      · have evv112_L7 : v112_L7 = q1 := by rw [hv112_L7, if_pos hr112_24_0]
        rw [evv112_L7] at kt
        show Steps p.tables e below (T110.setTop (mkF m 24 #[.val (.int p1), .val (.int p2), .val (.long q1), .second, .val (.long q2), .second, .val (.ref w_NE), .val (.long q2), .second, .val (.int (p2 &&& (3 : Int32))), .unset] [(.int (1 : Int32)), (.int (p2 &&& (3 : Int32)))])) _
        refine XS.icmpNo X110.here hx rfl (hb hby at_24) rfl (teq hr112_24_0).2 ?_
        show Steps p.tables e below (T110.setTop (mkF m 27 #[.val (.int p1), .val (.int p2), .val (.long q1), .second, .val (.long q2), .second, .val (.ref w_NE), .val (.long q2), .second, .val (.int (p2 &&& (3 : Int32))), .unset] [])) _
        refine XS.lloadN X110.here hx rfl (hb hby at_27) rfl ?_
        show Steps p.tables e below (T110.setTop (mkF m 28 #[.val (.int p1), .val (.int p2), .val (.long q1), .second, .val (.long q2), .second, .val (.ref w_NE), .val (.long q2), .second, .val (.int (p2 &&& (3 : Int32))), .unset] [(.long q1)])) _
        refine XS.lstore X110.here hx rfl (hb hby at_28) rfl (l' := #[.val (.int p1), .val (.int p2), .val (.long q1), .second, .val (.long q2), .second, .val (.ref w_NE), .val (.long q1), .second, .val (.int (p2 &&& (3 : Int32))), .unset]) rfl ?_
        show Steps p.tables e below (T110.setTop (mkF m 30 #[.val (.int p1), .val (.int p2), .val (.long q1), .second, .val (.long q2), .second, .val (.ref w_NE), .val (.long q1), .second, .val (.int (p2 &&& (3 : Int32))), .unset] [])) _
        refine XS.goto X110.here hx rfl (pc0 := 30) (pc' := 58) rfl (hb hby at_30) (by decide) (by decide) ?_
        exact kt
      · show Steps p.tables e below (T110.setTop (mkF m 24 #[.val (.int p1), .val (.int p2), .val (.long q1), .second, .val (.long q2), .second, .val (.ref w_NE), .val (.long q2), .second, .val (.int (p2 &&& (3 : Int32))), .unset] [(.int (1 : Int32)), (.int (p2 &&& (3 : Int32)))])) _
        refine XS.icmpYes X110.here hx rfl (pc0 := 24) (pc' := 33) rfl (hb hby at_24) rfl (feq hr112_24_0).2 (by decide) (by decide) ?_
        show Steps p.tables e below (T110.setTop (mkF m 33 #[.val (.int p1), .val (.int p2), .val (.long q1), .second, .val (.long q2), .second, .val (.ref w_NE), .val (.long q2), .second, .val (.int (p2 &&& (3 : Int32))), .unset] [])) _
        refine XS.iload X110.here hx rfl (hb hby at_33) rfl ?_
        show Steps p.tables e below (T110.setTop (mkF m 35 #[.val (.int p1), .val (.int p2), .val (.long q1), .second, .val (.long q2), .second, .val (.ref w_NE), .val (.long q2), .second, .val (.int (p2 &&& (3 : Int32))), .unset] [(.int (p2 &&& (3 : Int32)))])) _
        refine XS.iconst X110.here hx rfl (hb hby at_35) ?_
        by_cases hr112_36_1 : (p2 &&& (3 : Int32)) = (2 : Int32)
        · have evv112_L7 : v112_L7 = (q1 + (1 : Int64)) := by rw [hv112_L7, if_neg hr112_24_0, if_pos hr112_36_1]
          rw [evv112_L7] at kt
          show Steps p.tables e below (T110.setTop (mkF m 36 #[.val (.int p1), .val (.int p2), .val (.long q1), .second, .val (.long q2), .second, .val (.ref w_NE), .val (.long q2), .second, .val (.int (p2 &&& (3 : Int32))), .unset] [(.int (2 : Int32)), (.int (p2 &&& (3 : Int32)))])) _
          refine XS.icmpNo X110.here hx rfl (hb hby at_36) rfl (teq hr112_36_1).2 ?_
          show Steps p.tables e below (T110.setTop (mkF m 39 #[.val (.int p1), .val (.int p2), .val (.long q1), .second, .val (.long q2), .second, .val (.ref w_NE), .val (.long q2), .second, .val (.int (p2 &&& (3 : Int32))), .unset] [])) _
          refine XS.lloadN X110.here hx rfl (hb hby at_39) rfl ?_
          show Steps p.tables e below (T110.setTop (mkF m 40 #[.val (.int p1), .val (.int p2), .val (.long q1), .second, .val (.long q2), .second, .val (.ref w_NE), .val (.long q2), .second, .val (.int (p2 &&& (3 : Int32))), .unset] [(.long q1)])) _
          refine XS.lconst X110.here hx rfl (hb hby at_40) ?_
          show Steps p.tables e below (T110.setTop (mkF m 41 #[.val (.int p1), .val (.int p2), .val (.long q1), .second, .val (.long q2), .second, .val (.ref w_NE), .val (.long q2), .second, .val (.int (p2 &&& (3 : Int32))), .unset] [(.long (1 : Int64)), (.long q1)])) _
          refine XS.ladd X110.here hx rfl (hb hby at_41) rfl ?_
          show Steps p.tables e below (T110.setTop (mkF m 42 #[.val (.int p1), .val (.int p2), .val (.long q1), .second, .val (.long q2), .second, .val (.ref w_NE), .val (.long q2), .second, .val (.int (p2 &&& (3 : Int32))), .unset] [(.long (q1 + (1 : Int64)))])) _
          refine XS.lstore X110.here hx rfl (hb hby at_42) rfl (l' := #[.val (.int p1), .val (.int p2), .val (.long q1), .second, .val (.long q2), .second, .val (.ref w_NE), .val (.long (q1 + (1 : Int64))), .second, .val (.int (p2 &&& (3 : Int32))), .unset]) rfl ?_
          show Steps p.tables e below (T110.setTop (mkF m 44 #[.val (.int p1), .val (.int p2), .val (.long q1), .second, .val (.long q2), .second, .val (.ref w_NE), .val (.long (q1 + (1 : Int64))), .second, .val (.int (p2 &&& (3 : Int32))), .unset] [])) _
          refine XS.goto X110.here hx rfl (pc0 := 44) (pc' := 58) rfl (hb hby at_44) (by decide) (by decide) ?_
          exact kt
        · show Steps p.tables e below (T110.setTop (mkF m 36 #[.val (.int p1), .val (.int p2), .val (.long q1), .second, .val (.long q2), .second, .val (.ref w_NE), .val (.long q2), .second, .val (.int (p2 &&& (3 : Int32))), .unset] [(.int (2 : Int32)), (.int (p2 &&& (3 : Int32)))])) _
          refine XS.icmpYes X110.here hx rfl (pc0 := 36) (pc' := 47) rfl (hb hby at_36) rfl (feq hr112_36_1).2 (by decide) (by decide) ?_
          show Steps p.tables e below (T110.setTop (mkF m 47 #[.val (.int p1), .val (.int p2), .val (.long q1), .second, .val (.long q2), .second, .val (.ref w_NE), .val (.long q2), .second, .val (.int (p2 &&& (3 : Int32))), .unset] [])) _
          refine XS.iload X110.here hx rfl (hb hby at_47) rfl ?_
          show Steps p.tables e below (T110.setTop (mkF m 49 #[.val (.int p1), .val (.int p2), .val (.long q1), .second, .val (.long q2), .second, .val (.ref w_NE), .val (.long q2), .second, .val (.int (p2 &&& (3 : Int32))), .unset] [(.int (p2 &&& (3 : Int32)))])) _
          refine XS.iconst X110.here hx rfl (hb hby at_49) ?_
          by_cases hr112_50_2 : (p2 &&& (3 : Int32)) = (3 : Int32)
          · have evv112_L7 : v112_L7 = (q1 - (1 : Int64)) := by rw [hv112_L7, if_neg hr112_24_0, if_neg hr112_36_1, if_pos hr112_50_2]
            rw [evv112_L7] at kt
            show Steps p.tables e below (T110.setTop (mkF m 50 #[.val (.int p1), .val (.int p2), .val (.long q1), .second, .val (.long q2), .second, .val (.ref w_NE), .val (.long q2), .second, .val (.int (p2 &&& (3 : Int32))), .unset] [(.int (3 : Int32)), (.int (p2 &&& (3 : Int32)))])) _
            refine XS.icmpNo X110.here hx rfl (hb hby at_50) rfl (teq hr112_50_2).2 ?_
            show Steps p.tables e below (T110.setTop (mkF m 53 #[.val (.int p1), .val (.int p2), .val (.long q1), .second, .val (.long q2), .second, .val (.ref w_NE), .val (.long q2), .second, .val (.int (p2 &&& (3 : Int32))), .unset] [])) _
            refine XS.lloadN X110.here hx rfl (hb hby at_53) rfl ?_
            show Steps p.tables e below (T110.setTop (mkF m 54 #[.val (.int p1), .val (.int p2), .val (.long q1), .second, .val (.long q2), .second, .val (.ref w_NE), .val (.long q2), .second, .val (.int (p2 &&& (3 : Int32))), .unset] [(.long q1)])) _
            refine XS.lconst X110.here hx rfl (hb hby at_54) ?_
            show Steps p.tables e below (T110.setTop (mkF m 55 #[.val (.int p1), .val (.int p2), .val (.long q1), .second, .val (.long q2), .second, .val (.ref w_NE), .val (.long q2), .second, .val (.int (p2 &&& (3 : Int32))), .unset] [(.long (1 : Int64)), (.long q1)])) _
            refine XS.lsub X110.here hx rfl (hb hby at_55) rfl ?_
            show Steps p.tables e below (T110.setTop (mkF m 56 #[.val (.int p1), .val (.int p2), .val (.long q1), .second, .val (.long q2), .second, .val (.ref w_NE), .val (.long q2), .second, .val (.int (p2 &&& (3 : Int32))), .unset] [(.long (q1 - (1 : Int64)))])) _
            refine XS.lstore X110.here hx rfl (hb hby at_56) rfl (l' := #[.val (.int p1), .val (.int p2), .val (.long q1), .second, .val (.long q2), .second, .val (.ref w_NE), .val (.long (q1 - (1 : Int64))), .second, .val (.int (p2 &&& (3 : Int32))), .unset]) rfl ?_
            exact kt
          · have evv112_L7 : v112_L7 = q2 := by rw [hv112_L7, if_neg hr112_24_0, if_neg hr112_36_1, if_neg hr112_50_2]
            rw [evv112_L7] at kt
            show Steps p.tables e below (T110.setTop (mkF m 50 #[.val (.int p1), .val (.int p2), .val (.long q1), .second, .val (.long q2), .second, .val (.ref w_NE), .val (.long q2), .second, .val (.int (p2 &&& (3 : Int32))), .unset] [(.int (3 : Int32)), (.int (p2 &&& (3 : Int32)))])) _
            refine XS.icmpYes X110.here hx rfl (pc0 := 50) (pc' := 58) rfl (hb hby at_50) rfl (feq hr112_50_2).2 (by decide) (by decide) ?_
            exact kt
    have P113 : ∀ t, Steps p.tables e below (T110.setTop (mkF m 58 #[.val (.int p1), .val (.int p2), .val (.long q1), .second, .val (.long q2), .second, .val (.ref w_NE), .val (.long v112_L7), .second, .val (.int (p2 &&& (3 : Int32))), .unset] [])) t → Steps p.tables e below (s₁.setTop (entryFrame m #[(.int p1), (.int p2), (.long q1), (.long q2)] maxLocals)) t := fun t kt => P111 t (J112 t kt)
    obtain ⟨cq114, kq114, q114a, q114b, q114c⟩ := isOf hZ e110 E_NE
    obtain ⟨_, _, ⟨T114, L114, k114, n114⟩, -, X114, ⟨Lc114, hQ114, l114, y114, z114⟩, st114⟩ := X110.virtualBack hx (y := (⟨"com/example/probex/probex/symbolic/Relation", "negate", "()Lcom/example/probex/probex/symbolic/Relation;"⟩ : MethodName)) (z := (⟨"com/example/probex/probex/symbolic/Relation", "negate", "()Lcom/example/probex/probex/symbolic/Relation;"⟩ : MethodName)) hown (mvT hZ (hw _ (List.mem_of_getElem? (i := 8) rfl))) (mvT hZ (hw _ (List.mem_of_getElem? (i := 9) rfl))) (notFace_of_selects (args := #[]) (mvT hZ (hw _ (List.mem_of_getElem? (i := 11) rfl)))) (mvT hZ (hw _ (List.mem_of_getElem? (i := 11) rfl))) (mvT hZ (hw _ (List.mem_of_getElem? (i := 10) rfl))) (by decide) (backOf (W := 0)  (rmG l Z a0 hw [] w_NE (1 : Int32) w_EQ w_NE w_LT w_GE w_GT w_LE w_EQ h0 S_EQ S_NE S_LT S_GE S_GT S_LE E_NE O_NE (by decide) rfl) hZ (hw _ (List.mem_of_getElem? (i := 12) rfl)) (hw _ (List.mem_of_getElem? (i := 6) rfl)) (by decide) (by decide)) q114a q114c (g := (mkF m 60 #[.val (.int p1), .val (.int p2), .val (.long q1), .second, .val (.long q2), .second, .val (.ref w_NE), .val (.long v112_L7), .second, .val (.int (p2 &&& (3 : Int32))), .unset] [(.ref w_NE)])) rfl (by rw [hml]; rfl) (Steps.refl _) (argsL := []) (rest := []) (lenOf pd___Lcom_example_probex_probex_symbolic_Relation_ rfl) rfl (by show 2 * 0 + _ ≤ _; exact Nat.le_of_eq rfl) (hb hby at_60) (fun _ _ => ⟨rfl, e110, (by decide : 0 + 0 ≤ _), (by decide : 0 + 0 ≤ _)⟩)
    dsimp only [Pt.U, Pt.locs, Pt.cells, Pt.slots] at X114 l114 y114 z114 st114 hQ114
    subst l114 y114 z114
    obtain ⟨rfl, rfl, e114⟩ := hQ114
    have X114 : Stand p l e room_1 s m #[(.int p1), (.int p2), (.long q1), (.long q2)] below meth c T114 [] 0 0 := X114
    obtain ⟨cq115, kq115, q115a, q115b, q115c⟩ := isOf hZ e114 E_EQ
    obtain ⟨_, _, ⟨T115, L115, k115, n115⟩, -, X115, ⟨Lc115, hQ115, l115, y115, z115⟩, st115⟩ := X114.virtualBack hx (y := (⟨"com/example/probex/probex/symbolic/Relation", "test", "(JJ)Z"⟩ : MethodName)) (z := (⟨"com/example/probex/probex/symbolic/Relation", "test", "(JJ)Z"⟩ : MethodName)) hown (mvT hZ (hw _ (List.mem_of_getElem? (i := 24) rfl))) (mvT hZ (hw _ (List.mem_of_getElem? (i := 25) rfl))) (notFace_of_selects (args := #[]) (mvT hZ (hw _ (List.mem_of_getElem? (i := 27) rfl)))) (mvT hZ (hw _ (List.mem_of_getElem? (i := 27) rfl))) (mvT hZ (hw _ (List.mem_of_getElem? (i := 26) rfl))) (by decide) (backOf (W := 0)  (rmT l Z a0 hw [] w_EQ (0 : Int32) q1 v112_L7 h0 E_EQ O_EQ (by decide)) hZ (hw _ (List.mem_of_getElem? (i := 28) rfl)) (hw _ (List.mem_of_getElem? (i := 6) rfl)) (by decide) (by decide)) q115a q115c (g := (mkF m 77 #[.val (.int p1), .val (.int p2), .val (.long q1), .second, .val (.long q2), .second, .val (.ref w_NE), .val (.long v112_L7), .second, .val (.int (p2 &&& (3 : Int32))), .val (.ref w_EQ)] [(.long v112_L7), (.long q1), (.ref w_EQ)])) rfl (by rw [hml]; rfl) (Steps.refl _) (argsL := [(.long q1), (.long v112_L7)]) (rest := []) (lenOf pd__JJ_Z rfl) rfl (by show 2 * 0 + _ ≤ _; exact Nat.le_of_eq rfl) (hb hby at_77) (fun _ _ => ⟨rfl, e114, (by decide : 0 + 0 ≤ _), (by decide : 0 + 0 ≤ _)⟩)
    dsimp only [Pt.U, Pt.locs, Pt.cells, Pt.slots] at X115 l115 y115 z115 st115 hQ115
    subst l115 y115 z115
    obtain ⟨rfl, rfl, e115⟩ := hQ115
    have X115 : Stand p l e room_1 s m #[(.int p1), (.int p2), (.long q1), (.long q2)] below meth c T115 [] 0 0 := X115
    obtain ⟨cq116, kq116, q116a, q116b, q116c⟩ := isOf hZ e115 E_NE
    obtain ⟨_, _, ⟨T116, L116, k116, n116⟩, -, X116, ⟨Lc116, hQ116, l116, y116, z116⟩, st116⟩ := X115.virtualBack hx (y := (⟨"com/example/probex/probex/symbolic/Relation", "test", "(JJ)Z"⟩ : MethodName)) (z := (⟨"com/example/probex/probex/symbolic/Relation", "test", "(JJ)Z"⟩ : MethodName)) hown (mvT hZ (hw _ (List.mem_of_getElem? (i := 24) rfl))) (mvT hZ (hw _ (List.mem_of_getElem? (i := 25) rfl))) (notFace_of_selects (args := #[]) (mvT hZ (hw _ (List.mem_of_getElem? (i := 27) rfl)))) (mvT hZ (hw _ (List.mem_of_getElem? (i := 27) rfl))) (mvT hZ (hw _ (List.mem_of_getElem? (i := 26) rfl))) (by decide) (backOf (W := 1)  (rmT l Z a0 hw [] w_NE (1 : Int32) q1 v112_L7 h0 E_NE O_NE (by decide)) hZ (hw _ (List.mem_of_getElem? (i := 28) rfl)) (hw _ (List.mem_of_getElem? (i := 6) rfl)) (by decide) (by decide)) q116a q116c (g := (mkF m 85 #[.val (.int p1), .val (.int p2), .val (.long q1), .second, .val (.long q2), .second, .val (.ref w_NE), .val (.long v112_L7), .second, .val (.int (p2 &&& (3 : Int32))), .val (.ref w_EQ)] [(.long v112_L7), (.long q1), (.ref w_NE), (.int (tst (0 : Int32) q1 v112_L7))])) rfl (by rw [hml]; rfl) (Steps.refl _) (argsL := [(.long q1), (.long v112_L7)]) (rest := [(.int (tst (0 : Int32) q1 v112_L7))]) (lenOf pd__JJ_Z rfl) rfl (by show 2 * 0 + _ ≤ _; exact Nat.le_of_eq rfl) (hb hby at_85) (fun _ _ => ⟨rfl, e115, (by decide : 0 + 0 ≤ _), (by decide : 0 + 0 ≤ _)⟩)
    dsimp only [Pt.U, Pt.locs, Pt.cells, Pt.slots] at X116 l116 y116 z116 st116 hQ116
    subst l116 y116 z116
    obtain ⟨rfl, rfl, e116⟩ := hQ116
    have X116 : Stand p l e room_1 s m #[(.int p1), (.int p2), (.long q1), (.long q2)] below meth c T116 [] 0 0 := X116
    have P117 : ∀ t, Steps p.tables e below (T116.setTop (mkF m 96 #[.val (.int p1), .val (.int p2), .val (.long q1), .second, .val (.long q2), .second, .val (.ref w_NE), .val (.long v112_L7), .second, .val (.int (p2 &&& (3 : Int32))), .val (.ref w_EQ)] [(.int (1 : Int32))])) t → Steps p.tables e below (s₁.setTop (entryFrame m #[(.int p1), (.int p2), (.long q1), (.long q2)] maxLocals)) t := fun t kt => P113 t (by
      show Steps p.tables e below (T110.setTop (mkF m 58 #[.val (.int p1), .val (.int p2), .val (.long q1), .second, .val (.long q2), .second, .val (.ref w_NE), .val (.long v112_L7), .second, .val (.int (p2 &&& (3 : Int32))), .unset] [])) _
      refine XS.aload X110.here hx rfl (hb hby at_58) rfl rfl ?_
      show Steps p.tables e below (T110.setTop (mkF m 60 #[.val (.int p1), .val (.int p2), .val (.long q1), .second, .val (.long q2), .second, .val (.ref w_NE), .val (.long v112_L7), .second, .val (.int (p2 &&& (3 : Int32))), .unset] [(.ref w_NE)])) _
      refine st114.trans ?_
      show Steps p.tables e below (T114.setTop (mkF m 63 #[.val (.int p1), .val (.int p2), .val (.long q1), .second, .val (.long q2), .second, .val (.ref w_NE), .val (.long v112_L7), .second, .val (.int (p2 &&& (3 : Int32))), .unset] [(.ref w_EQ)])) _
      refine XS.astore X114.here hx rfl (hb hby at_63) rfl rfl (l' := #[.val (.int p1), .val (.int p2), .val (.long q1), .second, .val (.long q2), .second, .val (.ref w_NE), .val (.long v112_L7), .second, .val (.int (p2 &&& (3 : Int32))), .val (.ref w_EQ)]) rfl ?_
      show Steps p.tables e below (T114.setTop (mkF m 65 #[.val (.int p1), .val (.int p2), .val (.long q1), .second, .val (.long q2), .second, .val (.ref w_NE), .val (.long v112_L7), .second, .val (.int (p2 &&& (3 : Int32))), .val (.ref w_EQ)] [])) _
      refine XS.aload X114.here hx rfl (hb hby at_65) rfl rfl ?_
      show Steps p.tables e below (T114.setTop (mkF m 67 #[.val (.int p1), .val (.int p2), .val (.long q1), .second, .val (.long q2), .second, .val (.ref w_NE), .val (.long v112_L7), .second, .val (.int (p2 &&& (3 : Int32))), .val (.ref w_EQ)] [(.ref w_EQ)])) _
      refine XS.ifnonnullYes X114.here hx rfl (pc0 := 67) (pc' := 72) rfl (hb hby at_67) rfl (by decide) (by decide) ?_
      show Steps p.tables e below (T114.setTop (mkF m 72 #[.val (.int p1), .val (.int p2), .val (.long q1), .second, .val (.long q2), .second, .val (.ref w_NE), .val (.long v112_L7), .second, .val (.int (p2 &&& (3 : Int32))), .val (.ref w_EQ)] [])) _
      refine XS.aload X114.here hx rfl (hb hby at_72) rfl rfl ?_
      show Steps p.tables e below (T114.setTop (mkF m 74 #[.val (.int p1), .val (.int p2), .val (.long q1), .second, .val (.long q2), .second, .val (.ref w_NE), .val (.long v112_L7), .second, .val (.int (p2 &&& (3 : Int32))), .val (.ref w_EQ)] [(.ref w_EQ)])) _
      refine XS.lloadN X114.here hx rfl (hb hby at_74) rfl ?_
      show Steps p.tables e below (T114.setTop (mkF m 75 #[.val (.int p1), .val (.int p2), .val (.long q1), .second, .val (.long q2), .second, .val (.ref w_NE), .val (.long v112_L7), .second, .val (.int (p2 &&& (3 : Int32))), .val (.ref w_EQ)] [(.long q1), (.ref w_EQ)])) _
      refine XS.lload X114.here hx rfl (hb hby at_75) rfl ?_
      show Steps p.tables e below (T114.setTop (mkF m 77 #[.val (.int p1), .val (.int p2), .val (.long q1), .second, .val (.long q2), .second, .val (.ref w_NE), .val (.long v112_L7), .second, .val (.int (p2 &&& (3 : Int32))), .val (.ref w_EQ)] [(.long v112_L7), (.long q1), (.ref w_EQ)])) _
      refine st115.trans ?_
      show Steps p.tables e below (T115.setTop (mkF m 80 #[.val (.int p1), .val (.int p2), .val (.long q1), .second, .val (.long q2), .second, .val (.ref w_NE), .val (.long v112_L7), .second, .val (.int (p2 &&& (3 : Int32))), .val (.ref w_EQ)] [(.int (tst (0 : Int32) q1 v112_L7))])) _
      refine XS.aload X115.here hx rfl (hb hby at_80) rfl rfl ?_
      show Steps p.tables e below (T115.setTop (mkF m 82 #[.val (.int p1), .val (.int p2), .val (.long q1), .second, .val (.long q2), .second, .val (.ref w_NE), .val (.long v112_L7), .second, .val (.int (p2 &&& (3 : Int32))), .val (.ref w_EQ)] [(.ref w_NE), (.int (tst (0 : Int32) q1 v112_L7))])) _
      refine XS.lloadN X115.here hx rfl (hb hby at_82) rfl ?_
      show Steps p.tables e below (T115.setTop (mkF m 83 #[.val (.int p1), .val (.int p2), .val (.long q1), .second, .val (.long q2), .second, .val (.ref w_NE), .val (.long v112_L7), .second, .val (.int (p2 &&& (3 : Int32))), .val (.ref w_EQ)] [(.long q1), (.ref w_NE), (.int (tst (0 : Int32) q1 v112_L7))])) _
      refine XS.lload X115.here hx rfl (hb hby at_83) rfl ?_
      show Steps p.tables e below (T115.setTop (mkF m 85 #[.val (.int p1), .val (.int p2), .val (.long q1), .second, .val (.long q2), .second, .val (.ref w_NE), .val (.long v112_L7), .second, .val (.int (p2 &&& (3 : Int32))), .val (.ref w_EQ)] [(.long v112_L7), (.long q1), (.ref w_NE), (.int (tst (0 : Int32) q1 v112_L7))])) _
      refine st116.trans ?_
      show Steps p.tables e below (T116.setTop (mkF m 88 #[.val (.int p1), .val (.int p2), .val (.long q1), .second, .val (.long q2), .second, .val (.ref w_NE), .val (.long v112_L7), .second, .val (.int (p2 &&& (3 : Int32))), .val (.ref w_EQ)] [(.int (tst (1 : Int32) q1 v112_L7)), (.int (tst (0 : Int32) q1 v112_L7))])) _
      refine XS.icmpNo X116.here hx rfl (hb hby at_88) rfl (feq (own_n1 _ _ : ¬ ((tst (0 : Int32) q1 v112_L7) = (tst (1 : Int32) q1 v112_L7)))).1 ?_
      show Steps p.tables e below (T116.setTop (mkF m 91 #[.val (.int p1), .val (.int p2), .val (.long q1), .second, .val (.long q2), .second, .val (.ref w_NE), .val (.long v112_L7), .second, .val (.int (p2 &&& (3 : Int32))), .val (.ref w_EQ)] [])) _
      refine XS.iconst X116.here hx rfl (hb hby at_91) ?_
      show Steps p.tables e below (T116.setTop (mkF m 92 #[.val (.int p1), .val (.int p2), .val (.long q1), .second, .val (.long q2), .second, .val (.ref w_NE), .val (.long v112_L7), .second, .val (.int (p2 &&& (3 : Int32))), .val (.ref w_EQ)] [(.int (1 : Int32))])) _
      refine XS.goto X116.here hx rfl (pc0 := 92) (pc' := 96) rfl (hb hby at_92) (by decide) (by decide) ?_
      exact kt)
    obtain ⟨fs, hr, hrun, hended, hW, hsame⟩ := X116.leave (v := some (.int (1 : Int32))) (fun h => by rw [Bd.returns] at h; cases h) (hlocks := hlk)
    refine ⟨_, _, P117 _ ?_, hrun, hended, _, _, rfl, ?_, ⟨_, rfl⟩, hW, hsame.mono (by decide) (by decide)⟩
    · show Steps p.tables e below (T116.setTop (mkF m 96 #[.val (.int p1), .val (.int p2), .val (.long q1), .second, .val (.long q2), .second, .val (.ref w_NE), .val (.long v112_L7), .second, .val (.int (p2 &&& (3 : Int32))), .val (.ref w_EQ)] [(.int (1 : Int32))])) _
      exact retN X116 hx (t := .boolean) Bd.returns (by simp) (hb hby at_96) hr
    · show QP _ h0 _ T116.heap _
      exact ⟨rfl, rfl, e116⟩
  · obtain ⟨_, _, ⟨T118, L118, k118, n118⟩, -, X118, ⟨Lc118, hQ118, l118, y118, z118⟩, st118⟩ := Jvm.LawKit.callS X0 hx (y := (⟨"com/example/probex/probex/symbolic/RelationNegatePinLaw", "pick", "(I)Lcom/example/probex/probex/symbolic/Relation;"⟩ : MethodName)) hown (mvT hZ (hw _ (List.mem_of_getElem? (i := 1) rfl))) (mvT hZ (hw _ (List.mem_of_getElem? (i := 2) rfl))) (mvT hZ (hw _ (List.mem_of_getElem? (i := 3) rfl))) (mvT hZ (hw _ (List.mem_of_getElem? (i := 4) rfl))) (by decide) (backOf (W := 0)  (rmK l Z a0 hw [] (2 : Int32) w_EQ w_NE w_LT w_GE w_GT w_LE w_LT h0 S_EQ S_NE S_LT S_GE S_GT S_LE rfl) hZ (hw _ (List.mem_of_getElem? (i := 4) rfl)) (hw _ (List.mem_of_getElem? (i := 3) rfl)) (by decide) (by decide)) (g := (mkF m 7 #[.val (.int p1), .val (.int p2), .val (.long q1), .second, .val (.long q2), .second, .unset, .unset, .unset, .unset, .unset] [(.int (2 : Int32))])) rfl (by rw [hml]; rfl) (argsL := [(.int (2 : Int32))]) (rest := []) (lenOf pd__I_Lcom_example_probex_probex_symbolic_Relation_ rfl) rfl (by show 2 * 0 + _ ≤ _; exact Nat.le_of_eq rfl) (hb hby at_7) (fun _ _ => ⟨rfl, e0, (by decide : 0 + 0 ≤ _), (by decide : 0 + 0 ≤ _)⟩)
    dsimp only [Pt.U, Pt.locs, Pt.cells, Pt.slots] at X118 l118 y118 z118 st118 hQ118
    subst l118 y118 z118
    obtain ⟨rfl, rfl, e118⟩ := hQ118
    have X118 : Stand p l e room_1 s m #[(.int p1), (.int p2), (.long q1), (.long q2)] below meth c T118 [] 0 0 := X118
    have P119 : ∀ t, Steps p.tables e below (T118.setTop (mkF m 24 #[.val (.int p1), .val (.int p2), .val (.long q1), .second, .val (.long q2), .second, .val (.ref w_LT), .val (.long q2), .second, .val (.int (p2 &&& (3 : Int32))), .unset] [(.int (1 : Int32)), (.int (p2 &&& (3 : Int32)))])) t → Steps p.tables e below (s₁.setTop (entryFrame m #[(.int p1), (.int p2), (.long q1), (.long q2)] maxLocals)) t := fun t kt => P101 t (by
      show Steps p.tables e below (s₁.setTop (mkF m 7 #[.val (.int p1), .val (.int p2), .val (.long q1), .second, .val (.long q2), .second, .unset, .unset, .unset, .unset, .unset] [(.int (2 : Int32))])) _
      refine st118 _ ?_
      show Steps p.tables e below (T118.setTop (mkF m 10 #[.val (.int p1), .val (.int p2), .val (.long q1), .second, .val (.long q2), .second, .unset, .unset, .unset, .unset, .unset] [(.ref w_LT)])) _
      refine XS.astore X118.here hx rfl (hb hby at_10) rfl rfl (l' := #[.val (.int p1), .val (.int p2), .val (.long q1), .second, .val (.long q2), .second, .val (.ref w_LT), .unset, .unset, .unset, .unset]) rfl ?_
      show Steps p.tables e below (T118.setTop (mkF m 12 #[.val (.int p1), .val (.int p2), .val (.long q1), .second, .val (.long q2), .second, .val (.ref w_LT), .unset, .unset, .unset, .unset] [])) _
      refine XS.lload X118.here hx rfl (hb hby at_12) rfl ?_
      show Steps p.tables e below (T118.setTop (mkF m 14 #[.val (.int p1), .val (.int p2), .val (.long q1), .second, .val (.long q2), .second, .val (.ref w_LT), .unset, .unset, .unset, .unset] [(.long q2)])) _
      refine XS.lstore X118.here hx rfl (hb hby at_14) rfl (l' := #[.val (.int p1), .val (.int p2), .val (.long q1), .second, .val (.long q2), .second, .val (.ref w_LT), .val (.long q2), .second, .unset, .unset]) rfl ?_
      show Steps p.tables e below (T118.setTop (mkF m 16 #[.val (.int p1), .val (.int p2), .val (.long q1), .second, .val (.long q2), .second, .val (.ref w_LT), .val (.long q2), .second, .unset, .unset] [])) _
      refine XS.iloadN X118.here hx rfl (hb hby at_16) rfl ?_
      show Steps p.tables e below (T118.setTop (mkF m 17 #[.val (.int p1), .val (.int p2), .val (.long q1), .second, .val (.long q2), .second, .val (.ref w_LT), .val (.long q2), .second, .unset, .unset] [(.int p2)])) _
      refine XS.iconst X118.here hx rfl (hb hby at_17) ?_
      show Steps p.tables e below (T118.setTop (mkF m 18 #[.val (.int p1), .val (.int p2), .val (.long q1), .second, .val (.long q2), .second, .val (.ref w_LT), .val (.long q2), .second, .unset, .unset] [(.int (3 : Int32)), (.int p2)])) _
      refine XS.iand X118.here hx rfl (hb hby at_18) rfl ?_
      show Steps p.tables e below (T118.setTop (mkF m 19 #[.val (.int p1), .val (.int p2), .val (.long q1), .second, .val (.long q2), .second, .val (.ref w_LT), .val (.long q2), .second, .unset, .unset] [(.int (p2 &&& (3 : Int32)))])) _
      refine XS.istore X118.here hx rfl (hb hby at_19) rfl (l' := #[.val (.int p1), .val (.int p2), .val (.long q1), .second, .val (.long q2), .second, .val (.ref w_LT), .val (.long q2), .second, .val (.int (p2 &&& (3 : Int32))), .unset]) rfl ?_
      show Steps p.tables e below (T118.setTop (mkF m 21 #[.val (.int p1), .val (.int p2), .val (.long q1), .second, .val (.long q2), .second, .val (.ref w_LT), .val (.long q2), .second, .val (.int (p2 &&& (3 : Int32))), .unset] [])) _
      refine XS.iload X118.here hx rfl (hb hby at_21) rfl ?_
      show Steps p.tables e below (T118.setTop (mkF m 23 #[.val (.int p1), .val (.int p2), .val (.long q1), .second, .val (.long q2), .second, .val (.ref w_LT), .val (.long q2), .second, .val (.int (p2 &&& (3 : Int32))), .unset] [(.int (p2 &&& (3 : Int32)))])) _
      refine XS.iconst X118.here hx rfl (hb hby at_23) ?_
      exact kt)
    obtain ⟨v120_L7, hv120_L7⟩ : ∃ z : Int64, z = (if (p2 &&& (3 : Int32)) = (1 : Int32) then q1 else (if (p2 &&& (3 : Int32)) = (2 : Int32) then (q1 + (1 : Int64)) else (if (p2 &&& (3 : Int32)) = (3 : Int32) then (q1 - (1 : Int64)) else q2))) := ⟨_, rfl⟩
    have J120 : ∀ t, Steps p.tables e below (T118.setTop (mkF m 58 #[.val (.int p1), .val (.int p2), .val (.long q1), .second, .val (.long q2), .second, .val (.ref w_LT), .val (.long v120_L7), .second, .val (.int (p2 &&& (3 : Int32))), .unset] [])) t → Steps p.tables e below (T118.setTop (mkF m 24 #[.val (.int p1), .val (.int p2), .val (.long q1), .second, .val (.long q2), .second, .val (.ref w_LT), .val (.long q2), .second, .val (.int (p2 &&& (3 : Int32))), .unset] [(.int (1 : Int32)), (.int (p2 &&& (3 : Int32)))])) t := by
      intro t kt
      by_cases hr120_24_0 : (p2 &&& (3 : Int32)) = (1 : Int32)
      · have evv120_L7 : v120_L7 = q1 := by rw [hv120_L7, if_pos hr120_24_0]
        rw [evv120_L7] at kt
        show Steps p.tables e below (T118.setTop (mkF m 24 #[.val (.int p1), .val (.int p2), .val (.long q1), .second, .val (.long q2), .second, .val (.ref w_LT), .val (.long q2), .second, .val (.int (p2 &&& (3 : Int32))), .unset] [(.int (1 : Int32)), (.int (p2 &&& (3 : Int32)))])) _
        refine XS.icmpNo X118.here hx rfl (hb hby at_24) rfl (teq hr120_24_0).2 ?_
        show Steps p.tables e below (T118.setTop (mkF m 27 #[.val (.int p1), .val (.int p2), .val (.long q1), .second, .val (.long q2), .second, .val (.ref w_LT), .val (.long q2), .second, .val (.int (p2 &&& (3 : Int32))), .unset] [])) _
        refine XS.lloadN X118.here hx rfl (hb hby at_27) rfl ?_
        show Steps p.tables e below (T118.setTop (mkF m 28 #[.val (.int p1), .val (.int p2), .val (.long q1), .second, .val (.long q2), .second, .val (.ref w_LT), .val (.long q2), .second, .val (.int (p2 &&& (3 : Int32))), .unset] [(.long q1)])) _
        refine XS.lstore X118.here hx rfl (hb hby at_28) rfl (l' := #[.val (.int p1), .val (.int p2), .val (.long q1), .second, .val (.long q2), .second, .val (.ref w_LT), .val (.long q1), .second, .val (.int (p2 &&& (3 : Int32))), .unset]) rfl ?_
        show Steps p.tables e below (T118.setTop (mkF m 30 #[.val (.int p1), .val (.int p2), .val (.long q1), .second, .val (.long q2), .second, .val (.ref w_LT), .val (.long q1), .second, .val (.int (p2 &&& (3 : Int32))), .unset] [])) _
        refine XS.goto X118.here hx rfl (pc0 := 30) (pc' := 58) rfl (hb hby at_30) (by decide) (by decide) ?_
        exact kt
      · show Steps p.tables e below (T118.setTop (mkF m 24 #[.val (.int p1), .val (.int p2), .val (.long q1), .second, .val (.long q2), .second, .val (.ref w_LT), .val (.long q2), .second, .val (.int (p2 &&& (3 : Int32))), .unset] [(.int (1 : Int32)), (.int (p2 &&& (3 : Int32)))])) _
        refine XS.icmpYes X118.here hx rfl (pc0 := 24) (pc' := 33) rfl (hb hby at_24) rfl (feq hr120_24_0).2 (by decide) (by decide) ?_
        show Steps p.tables e below (T118.setTop (mkF m 33 #[.val (.int p1), .val (.int p2), .val (.long q1), .second, .val (.long q2), .second, .val (.ref w_LT), .val (.long q2), .second, .val (.int (p2 &&& (3 : Int32))), .unset] [])) _
        refine XS.iload X118.here hx rfl (hb hby at_33) rfl ?_
        show Steps p.tables e below (T118.setTop (mkF m 35 #[.val (.int p1), .val (.int p2), .val (.long q1), .second, .val (.long q2), .second, .val (.ref w_LT), .val (.long q2), .second, .val (.int (p2 &&& (3 : Int32))), .unset] [(.int (p2 &&& (3 : Int32)))])) _
        refine XS.iconst X118.here hx rfl (hb hby at_35) ?_
        by_cases hr120_36_1 : (p2 &&& (3 : Int32)) = (2 : Int32)
        · have evv120_L7 : v120_L7 = (q1 + (1 : Int64)) := by rw [hv120_L7, if_neg hr120_24_0, if_pos hr120_36_1]
          rw [evv120_L7] at kt
          show Steps p.tables e below (T118.setTop (mkF m 36 #[.val (.int p1), .val (.int p2), .val (.long q1), .second, .val (.long q2), .second, .val (.ref w_LT), .val (.long q2), .second, .val (.int (p2 &&& (3 : Int32))), .unset] [(.int (2 : Int32)), (.int (p2 &&& (3 : Int32)))])) _
          refine XS.icmpNo X118.here hx rfl (hb hby at_36) rfl (teq hr120_36_1).2 ?_
          show Steps p.tables e below (T118.setTop (mkF m 39 #[.val (.int p1), .val (.int p2), .val (.long q1), .second, .val (.long q2), .second, .val (.ref w_LT), .val (.long q2), .second, .val (.int (p2 &&& (3 : Int32))), .unset] [])) _
          refine XS.lloadN X118.here hx rfl (hb hby at_39) rfl ?_
          show Steps p.tables e below (T118.setTop (mkF m 40 #[.val (.int p1), .val (.int p2), .val (.long q1), .second, .val (.long q2), .second, .val (.ref w_LT), .val (.long q2), .second, .val (.int (p2 &&& (3 : Int32))), .unset] [(.long q1)])) _
          refine XS.lconst X118.here hx rfl (hb hby at_40) ?_
          show Steps p.tables e below (T118.setTop (mkF m 41 #[.val (.int p1), .val (.int p2), .val (.long q1), .second, .val (.long q2), .second, .val (.ref w_LT), .val (.long q2), .second, .val (.int (p2 &&& (3 : Int32))), .unset] [(.long (1 : Int64)), (.long q1)])) _
          refine XS.ladd X118.here hx rfl (hb hby at_41) rfl ?_
          show Steps p.tables e below (T118.setTop (mkF m 42 #[.val (.int p1), .val (.int p2), .val (.long q1), .second, .val (.long q2), .second, .val (.ref w_LT), .val (.long q2), .second, .val (.int (p2 &&& (3 : Int32))), .unset] [(.long (q1 + (1 : Int64)))])) _
          refine XS.lstore X118.here hx rfl (hb hby at_42) rfl (l' := #[.val (.int p1), .val (.int p2), .val (.long q1), .second, .val (.long q2), .second, .val (.ref w_LT), .val (.long (q1 + (1 : Int64))), .second, .val (.int (p2 &&& (3 : Int32))), .unset]) rfl ?_
          show Steps p.tables e below (T118.setTop (mkF m 44 #[.val (.int p1), .val (.int p2), .val (.long q1), .second, .val (.long q2), .second, .val (.ref w_LT), .val (.long (q1 + (1 : Int64))), .second, .val (.int (p2 &&& (3 : Int32))), .unset] [])) _
          refine XS.goto X118.here hx rfl (pc0 := 44) (pc' := 58) rfl (hb hby at_44) (by decide) (by decide) ?_
          exact kt
        · show Steps p.tables e below (T118.setTop (mkF m 36 #[.val (.int p1), .val (.int p2), .val (.long q1), .second, .val (.long q2), .second, .val (.ref w_LT), .val (.long q2), .second, .val (.int (p2 &&& (3 : Int32))), .unset] [(.int (2 : Int32)), (.int (p2 &&& (3 : Int32)))])) _
          refine XS.icmpYes X118.here hx rfl (pc0 := 36) (pc' := 47) rfl (hb hby at_36) rfl (feq hr120_36_1).2 (by decide) (by decide) ?_
          show Steps p.tables e below (T118.setTop (mkF m 47 #[.val (.int p1), .val (.int p2), .val (.long q1), .second, .val (.long q2), .second, .val (.ref w_LT), .val (.long q2), .second, .val (.int (p2 &&& (3 : Int32))), .unset] [])) _
          refine XS.iload X118.here hx rfl (hb hby at_47) rfl ?_
          show Steps p.tables e below (T118.setTop (mkF m 49 #[.val (.int p1), .val (.int p2), .val (.long q1), .second, .val (.long q2), .second, .val (.ref w_LT), .val (.long q2), .second, .val (.int (p2 &&& (3 : Int32))), .unset] [(.int (p2 &&& (3 : Int32)))])) _
          refine XS.iconst X118.here hx rfl (hb hby at_49) ?_
          by_cases hr120_50_2 : (p2 &&& (3 : Int32)) = (3 : Int32)
          · have evv120_L7 : v120_L7 = (q1 - (1 : Int64)) := by rw [hv120_L7, if_neg hr120_24_0, if_neg hr120_36_1, if_pos hr120_50_2]
            rw [evv120_L7] at kt
            show Steps p.tables e below (T118.setTop (mkF m 50 #[.val (.int p1), .val (.int p2), .val (.long q1), .second, .val (.long q2), .second, .val (.ref w_LT), .val (.long q2), .second, .val (.int (p2 &&& (3 : Int32))), .unset] [(.int (3 : Int32)), (.int (p2 &&& (3 : Int32)))])) _
            refine XS.icmpNo X118.here hx rfl (hb hby at_50) rfl (teq hr120_50_2).2 ?_
            show Steps p.tables e below (T118.setTop (mkF m 53 #[.val (.int p1), .val (.int p2), .val (.long q1), .second, .val (.long q2), .second, .val (.ref w_LT), .val (.long q2), .second, .val (.int (p2 &&& (3 : Int32))), .unset] [])) _
            refine XS.lloadN X118.here hx rfl (hb hby at_53) rfl ?_
            show Steps p.tables e below (T118.setTop (mkF m 54 #[.val (.int p1), .val (.int p2), .val (.long q1), .second, .val (.long q2), .second, .val (.ref w_LT), .val (.long q2), .second, .val (.int (p2 &&& (3 : Int32))), .unset] [(.long q1)])) _
            refine XS.lconst X118.here hx rfl (hb hby at_54) ?_
            show Steps p.tables e below (T118.setTop (mkF m 55 #[.val (.int p1), .val (.int p2), .val (.long q1), .second, .val (.long q2), .second, .val (.ref w_LT), .val (.long q2), .second, .val (.int (p2 &&& (3 : Int32))), .unset] [(.long (1 : Int64)), (.long q1)])) _
            refine XS.lsub X118.here hx rfl (hb hby at_55) rfl ?_
            show Steps p.tables e below (T118.setTop (mkF m 56 #[.val (.int p1), .val (.int p2), .val (.long q1), .second, .val (.long q2), .second, .val (.ref w_LT), .val (.long q2), .second, .val (.int (p2 &&& (3 : Int32))), .unset] [(.long (q1 - (1 : Int64)))])) _
            refine XS.lstore X118.here hx rfl (hb hby at_56) rfl (l' := #[.val (.int p1), .val (.int p2), .val (.long q1), .second, .val (.long q2), .second, .val (.ref w_LT), .val (.long (q1 - (1 : Int64))), .second, .val (.int (p2 &&& (3 : Int32))), .unset]) rfl ?_
            exact kt
          · have evv120_L7 : v120_L7 = q2 := by rw [hv120_L7, if_neg hr120_24_0, if_neg hr120_36_1, if_neg hr120_50_2]
            rw [evv120_L7] at kt
            show Steps p.tables e below (T118.setTop (mkF m 50 #[.val (.int p1), .val (.int p2), .val (.long q1), .second, .val (.long q2), .second, .val (.ref w_LT), .val (.long q2), .second, .val (.int (p2 &&& (3 : Int32))), .unset] [(.int (3 : Int32)), (.int (p2 &&& (3 : Int32)))])) _
            refine XS.icmpYes X118.here hx rfl (pc0 := 50) (pc' := 58) rfl (hb hby at_50) rfl (feq hr120_50_2).2 (by decide) (by decide) ?_
            exact kt
    have P121 : ∀ t, Steps p.tables e below (T118.setTop (mkF m 58 #[.val (.int p1), .val (.int p2), .val (.long q1), .second, .val (.long q2), .second, .val (.ref w_LT), .val (.long v120_L7), .second, .val (.int (p2 &&& (3 : Int32))), .unset] [])) t → Steps p.tables e below (s₁.setTop (entryFrame m #[(.int p1), (.int p2), (.long q1), (.long q2)] maxLocals)) t := fun t kt => P119 t (J120 t kt)
    obtain ⟨cq122, kq122, q122a, q122b, q122c⟩ := isOf hZ e118 E_LT
    obtain ⟨_, _, ⟨T122, L122, k122, n122⟩, -, X122, ⟨Lc122, hQ122, l122, y122, z122⟩, st122⟩ := X118.virtualBack hx (y := (⟨"com/example/probex/probex/symbolic/Relation", "negate", "()Lcom/example/probex/probex/symbolic/Relation;"⟩ : MethodName)) (z := (⟨"com/example/probex/probex/symbolic/Relation", "negate", "()Lcom/example/probex/probex/symbolic/Relation;"⟩ : MethodName)) hown (mvT hZ (hw _ (List.mem_of_getElem? (i := 8) rfl))) (mvT hZ (hw _ (List.mem_of_getElem? (i := 9) rfl))) (notFace_of_selects (args := #[]) (mvT hZ (hw _ (List.mem_of_getElem? (i := 11) rfl)))) (mvT hZ (hw _ (List.mem_of_getElem? (i := 11) rfl))) (mvT hZ (hw _ (List.mem_of_getElem? (i := 10) rfl))) (by decide) (backOf (W := 0)  (rmG l Z a0 hw [] w_LT (2 : Int32) w_EQ w_NE w_LT w_GE w_GT w_LE w_GE h0 S_EQ S_NE S_LT S_GE S_GT S_LE E_LT O_LT (by decide) rfl) hZ (hw _ (List.mem_of_getElem? (i := 12) rfl)) (hw _ (List.mem_of_getElem? (i := 6) rfl)) (by decide) (by decide)) q122a q122c (g := (mkF m 60 #[.val (.int p1), .val (.int p2), .val (.long q1), .second, .val (.long q2), .second, .val (.ref w_LT), .val (.long v120_L7), .second, .val (.int (p2 &&& (3 : Int32))), .unset] [(.ref w_LT)])) rfl (by rw [hml]; rfl) (Steps.refl _) (argsL := []) (rest := []) (lenOf pd___Lcom_example_probex_probex_symbolic_Relation_ rfl) rfl (by show 2 * 0 + _ ≤ _; exact Nat.le_of_eq rfl) (hb hby at_60) (fun _ _ => ⟨rfl, e118, (by decide : 0 + 0 ≤ _), (by decide : 0 + 0 ≤ _)⟩)
    dsimp only [Pt.U, Pt.locs, Pt.cells, Pt.slots] at X122 l122 y122 z122 st122 hQ122
    subst l122 y122 z122
    obtain ⟨rfl, rfl, e122⟩ := hQ122
    have X122 : Stand p l e room_1 s m #[(.int p1), (.int p2), (.long q1), (.long q2)] below meth c T122 [] 0 0 := X122
    obtain ⟨cq123, kq123, q123a, q123b, q123c⟩ := isOf hZ e122 E_GE
    obtain ⟨_, _, ⟨T123, L123, k123, n123⟩, -, X123, ⟨Lc123, hQ123, l123, y123, z123⟩, st123⟩ := X122.virtualBack hx (y := (⟨"com/example/probex/probex/symbolic/Relation", "test", "(JJ)Z"⟩ : MethodName)) (z := (⟨"com/example/probex/probex/symbolic/Relation", "test", "(JJ)Z"⟩ : MethodName)) hown (mvT hZ (hw _ (List.mem_of_getElem? (i := 24) rfl))) (mvT hZ (hw _ (List.mem_of_getElem? (i := 25) rfl))) (notFace_of_selects (args := #[]) (mvT hZ (hw _ (List.mem_of_getElem? (i := 27) rfl)))) (mvT hZ (hw _ (List.mem_of_getElem? (i := 27) rfl))) (mvT hZ (hw _ (List.mem_of_getElem? (i := 26) rfl))) (by decide) (backOf (W := 0)  (rmT l Z a0 hw [] w_GE (3 : Int32) q1 v120_L7 h0 E_GE O_GE (by decide)) hZ (hw _ (List.mem_of_getElem? (i := 28) rfl)) (hw _ (List.mem_of_getElem? (i := 6) rfl)) (by decide) (by decide)) q123a q123c (g := (mkF m 77 #[.val (.int p1), .val (.int p2), .val (.long q1), .second, .val (.long q2), .second, .val (.ref w_LT), .val (.long v120_L7), .second, .val (.int (p2 &&& (3 : Int32))), .val (.ref w_GE)] [(.long v120_L7), (.long q1), (.ref w_GE)])) rfl (by rw [hml]; rfl) (Steps.refl _) (argsL := [(.long q1), (.long v120_L7)]) (rest := []) (lenOf pd__JJ_Z rfl) rfl (by show 2 * 0 + _ ≤ _; exact Nat.le_of_eq rfl) (hb hby at_77) (fun _ _ => ⟨rfl, e122, (by decide : 0 + 0 ≤ _), (by decide : 0 + 0 ≤ _)⟩)
    dsimp only [Pt.U, Pt.locs, Pt.cells, Pt.slots] at X123 l123 y123 z123 st123 hQ123
    subst l123 y123 z123
    obtain ⟨rfl, rfl, e123⟩ := hQ123
    have X123 : Stand p l e room_1 s m #[(.int p1), (.int p2), (.long q1), (.long q2)] below meth c T123 [] 0 0 := X123
    obtain ⟨cq124, kq124, q124a, q124b, q124c⟩ := isOf hZ e123 E_LT
    obtain ⟨_, _, ⟨T124, L124, k124, n124⟩, -, X124, ⟨Lc124, hQ124, l124, y124, z124⟩, st124⟩ := X123.virtualBack hx (y := (⟨"com/example/probex/probex/symbolic/Relation", "test", "(JJ)Z"⟩ : MethodName)) (z := (⟨"com/example/probex/probex/symbolic/Relation", "test", "(JJ)Z"⟩ : MethodName)) hown (mvT hZ (hw _ (List.mem_of_getElem? (i := 24) rfl))) (mvT hZ (hw _ (List.mem_of_getElem? (i := 25) rfl))) (notFace_of_selects (args := #[]) (mvT hZ (hw _ (List.mem_of_getElem? (i := 27) rfl)))) (mvT hZ (hw _ (List.mem_of_getElem? (i := 27) rfl))) (mvT hZ (hw _ (List.mem_of_getElem? (i := 26) rfl))) (by decide) (backOf (W := 1)  (rmT l Z a0 hw [] w_LT (2 : Int32) q1 v120_L7 h0 E_LT O_LT (by decide)) hZ (hw _ (List.mem_of_getElem? (i := 28) rfl)) (hw _ (List.mem_of_getElem? (i := 6) rfl)) (by decide) (by decide)) q124a q124c (g := (mkF m 85 #[.val (.int p1), .val (.int p2), .val (.long q1), .second, .val (.long q2), .second, .val (.ref w_LT), .val (.long v120_L7), .second, .val (.int (p2 &&& (3 : Int32))), .val (.ref w_GE)] [(.long v120_L7), (.long q1), (.ref w_LT), (.int (tst (3 : Int32) q1 v120_L7))])) rfl (by rw [hml]; rfl) (Steps.refl _) (argsL := [(.long q1), (.long v120_L7)]) (rest := [(.int (tst (3 : Int32) q1 v120_L7))]) (lenOf pd__JJ_Z rfl) rfl (by show 2 * 0 + _ ≤ _; exact Nat.le_of_eq rfl) (hb hby at_85) (fun _ _ => ⟨rfl, e123, (by decide : 0 + 0 ≤ _), (by decide : 0 + 0 ≤ _)⟩)
    dsimp only [Pt.U, Pt.locs, Pt.cells, Pt.slots] at X124 l124 y124 z124 st124 hQ124
    subst l124 y124 z124
    obtain ⟨rfl, rfl, e124⟩ := hQ124
    have X124 : Stand p l e room_1 s m #[(.int p1), (.int p2), (.long q1), (.long q2)] below meth c T124 [] 0 0 := X124
    have P125 : ∀ t, Steps p.tables e below (T124.setTop (mkF m 96 #[.val (.int p1), .val (.int p2), .val (.long q1), .second, .val (.long q2), .second, .val (.ref w_LT), .val (.long v120_L7), .second, .val (.int (p2 &&& (3 : Int32))), .val (.ref w_GE)] [(.int (1 : Int32))])) t → Steps p.tables e below (s₁.setTop (entryFrame m #[(.int p1), (.int p2), (.long q1), (.long q2)] maxLocals)) t := fun t kt => P121 t (by
      show Steps p.tables e below (T118.setTop (mkF m 58 #[.val (.int p1), .val (.int p2), .val (.long q1), .second, .val (.long q2), .second, .val (.ref w_LT), .val (.long v120_L7), .second, .val (.int (p2 &&& (3 : Int32))), .unset] [])) _
      refine XS.aload X118.here hx rfl (hb hby at_58) rfl rfl ?_
      show Steps p.tables e below (T118.setTop (mkF m 60 #[.val (.int p1), .val (.int p2), .val (.long q1), .second, .val (.long q2), .second, .val (.ref w_LT), .val (.long v120_L7), .second, .val (.int (p2 &&& (3 : Int32))), .unset] [(.ref w_LT)])) _
      refine st122.trans ?_
      show Steps p.tables e below (T122.setTop (mkF m 63 #[.val (.int p1), .val (.int p2), .val (.long q1), .second, .val (.long q2), .second, .val (.ref w_LT), .val (.long v120_L7), .second, .val (.int (p2 &&& (3 : Int32))), .unset] [(.ref w_GE)])) _
      refine XS.astore X122.here hx rfl (hb hby at_63) rfl rfl (l' := #[.val (.int p1), .val (.int p2), .val (.long q1), .second, .val (.long q2), .second, .val (.ref w_LT), .val (.long v120_L7), .second, .val (.int (p2 &&& (3 : Int32))), .val (.ref w_GE)]) rfl ?_
      show Steps p.tables e below (T122.setTop (mkF m 65 #[.val (.int p1), .val (.int p2), .val (.long q1), .second, .val (.long q2), .second, .val (.ref w_LT), .val (.long v120_L7), .second, .val (.int (p2 &&& (3 : Int32))), .val (.ref w_GE)] [])) _
      refine XS.aload X122.here hx rfl (hb hby at_65) rfl rfl ?_
      show Steps p.tables e below (T122.setTop (mkF m 67 #[.val (.int p1), .val (.int p2), .val (.long q1), .second, .val (.long q2), .second, .val (.ref w_LT), .val (.long v120_L7), .second, .val (.int (p2 &&& (3 : Int32))), .val (.ref w_GE)] [(.ref w_GE)])) _
      refine XS.ifnonnullYes X122.here hx rfl (pc0 := 67) (pc' := 72) rfl (hb hby at_67) rfl (by decide) (by decide) ?_
      show Steps p.tables e below (T122.setTop (mkF m 72 #[.val (.int p1), .val (.int p2), .val (.long q1), .second, .val (.long q2), .second, .val (.ref w_LT), .val (.long v120_L7), .second, .val (.int (p2 &&& (3 : Int32))), .val (.ref w_GE)] [])) _
      refine XS.aload X122.here hx rfl (hb hby at_72) rfl rfl ?_
      show Steps p.tables e below (T122.setTop (mkF m 74 #[.val (.int p1), .val (.int p2), .val (.long q1), .second, .val (.long q2), .second, .val (.ref w_LT), .val (.long v120_L7), .second, .val (.int (p2 &&& (3 : Int32))), .val (.ref w_GE)] [(.ref w_GE)])) _
      refine XS.lloadN X122.here hx rfl (hb hby at_74) rfl ?_
      show Steps p.tables e below (T122.setTop (mkF m 75 #[.val (.int p1), .val (.int p2), .val (.long q1), .second, .val (.long q2), .second, .val (.ref w_LT), .val (.long v120_L7), .second, .val (.int (p2 &&& (3 : Int32))), .val (.ref w_GE)] [(.long q1), (.ref w_GE)])) _
      refine XS.lload X122.here hx rfl (hb hby at_75) rfl ?_
      show Steps p.tables e below (T122.setTop (mkF m 77 #[.val (.int p1), .val (.int p2), .val (.long q1), .second, .val (.long q2), .second, .val (.ref w_LT), .val (.long v120_L7), .second, .val (.int (p2 &&& (3 : Int32))), .val (.ref w_GE)] [(.long v120_L7), (.long q1), (.ref w_GE)])) _
      refine st123.trans ?_
      show Steps p.tables e below (T123.setTop (mkF m 80 #[.val (.int p1), .val (.int p2), .val (.long q1), .second, .val (.long q2), .second, .val (.ref w_LT), .val (.long v120_L7), .second, .val (.int (p2 &&& (3 : Int32))), .val (.ref w_GE)] [(.int (tst (3 : Int32) q1 v120_L7))])) _
      refine XS.aload X123.here hx rfl (hb hby at_80) rfl rfl ?_
      show Steps p.tables e below (T123.setTop (mkF m 82 #[.val (.int p1), .val (.int p2), .val (.long q1), .second, .val (.long q2), .second, .val (.ref w_LT), .val (.long v120_L7), .second, .val (.int (p2 &&& (3 : Int32))), .val (.ref w_GE)] [(.ref w_LT), (.int (tst (3 : Int32) q1 v120_L7))])) _
      refine XS.lloadN X123.here hx rfl (hb hby at_82) rfl ?_
      show Steps p.tables e below (T123.setTop (mkF m 83 #[.val (.int p1), .val (.int p2), .val (.long q1), .second, .val (.long q2), .second, .val (.ref w_LT), .val (.long v120_L7), .second, .val (.int (p2 &&& (3 : Int32))), .val (.ref w_GE)] [(.long q1), (.ref w_LT), (.int (tst (3 : Int32) q1 v120_L7))])) _
      refine XS.lload X123.here hx rfl (hb hby at_83) rfl ?_
      show Steps p.tables e below (T123.setTop (mkF m 85 #[.val (.int p1), .val (.int p2), .val (.long q1), .second, .val (.long q2), .second, .val (.ref w_LT), .val (.long v120_L7), .second, .val (.int (p2 &&& (3 : Int32))), .val (.ref w_GE)] [(.long v120_L7), (.long q1), (.ref w_LT), (.int (tst (3 : Int32) q1 v120_L7))])) _
      refine st124.trans ?_
      show Steps p.tables e below (T124.setTop (mkF m 88 #[.val (.int p1), .val (.int p2), .val (.long q1), .second, .val (.long q2), .second, .val (.ref w_LT), .val (.long v120_L7), .second, .val (.int (p2 &&& (3 : Int32))), .val (.ref w_GE)] [(.int (tst (2 : Int32) q1 v120_L7)), (.int (tst (3 : Int32) q1 v120_L7))])) _
      refine XS.icmpNo X124.here hx rfl (hb hby at_88) rfl (feq (own_n2 _ _ : ¬ ((tst (3 : Int32) q1 v120_L7) = (tst (2 : Int32) q1 v120_L7)))).1 ?_
      show Steps p.tables e below (T124.setTop (mkF m 91 #[.val (.int p1), .val (.int p2), .val (.long q1), .second, .val (.long q2), .second, .val (.ref w_LT), .val (.long v120_L7), .second, .val (.int (p2 &&& (3 : Int32))), .val (.ref w_GE)] [])) _
      refine XS.iconst X124.here hx rfl (hb hby at_91) ?_
      show Steps p.tables e below (T124.setTop (mkF m 92 #[.val (.int p1), .val (.int p2), .val (.long q1), .second, .val (.long q2), .second, .val (.ref w_LT), .val (.long v120_L7), .second, .val (.int (p2 &&& (3 : Int32))), .val (.ref w_GE)] [(.int (1 : Int32))])) _
      refine XS.goto X124.here hx rfl (pc0 := 92) (pc' := 96) rfl (hb hby at_92) (by decide) (by decide) ?_
      exact kt)
    obtain ⟨fs, hr, hrun, hended, hW, hsame⟩ := X124.leave (v := some (.int (1 : Int32))) (fun h => by rw [Bd.returns] at h; cases h) (hlocks := hlk)
    refine ⟨_, _, P125 _ ?_, hrun, hended, _, _, rfl, ?_, ⟨_, rfl⟩, hW, hsame.mono (by decide) (by decide)⟩
    · show Steps p.tables e below (T124.setTop (mkF m 96 #[.val (.int p1), .val (.int p2), .val (.long q1), .second, .val (.long q2), .second, .val (.ref w_LT), .val (.long v120_L7), .second, .val (.int (p2 &&& (3 : Int32))), .val (.ref w_GE)] [(.int (1 : Int32))])) _
      exact retN X124 hx (t := .boolean) Bd.returns (by simp) (hb hby at_96) hr
    · show QP _ h0 _ T124.heap _
      exact ⟨rfl, rfl, e124⟩
  · obtain ⟨_, _, ⟨T126, L126, k126, n126⟩, -, X126, ⟨Lc126, hQ126, l126, y126, z126⟩, st126⟩ := Jvm.LawKit.callS X0 hx (y := (⟨"com/example/probex/probex/symbolic/RelationNegatePinLaw", "pick", "(I)Lcom/example/probex/probex/symbolic/Relation;"⟩ : MethodName)) hown (mvT hZ (hw _ (List.mem_of_getElem? (i := 1) rfl))) (mvT hZ (hw _ (List.mem_of_getElem? (i := 2) rfl))) (mvT hZ (hw _ (List.mem_of_getElem? (i := 3) rfl))) (mvT hZ (hw _ (List.mem_of_getElem? (i := 4) rfl))) (by decide) (backOf (W := 0)  (rmK l Z a0 hw [] (3 : Int32) w_EQ w_NE w_LT w_GE w_GT w_LE w_GE h0 S_EQ S_NE S_LT S_GE S_GT S_LE rfl) hZ (hw _ (List.mem_of_getElem? (i := 4) rfl)) (hw _ (List.mem_of_getElem? (i := 3) rfl)) (by decide) (by decide)) (g := (mkF m 7 #[.val (.int p1), .val (.int p2), .val (.long q1), .second, .val (.long q2), .second, .unset, .unset, .unset, .unset, .unset] [(.int (3 : Int32))])) rfl (by rw [hml]; rfl) (argsL := [(.int (3 : Int32))]) (rest := []) (lenOf pd__I_Lcom_example_probex_probex_symbolic_Relation_ rfl) rfl (by show 2 * 0 + _ ≤ _; exact Nat.le_of_eq rfl) (hb hby at_7) (fun _ _ => ⟨rfl, e0, (by decide : 0 + 0 ≤ _), (by decide : 0 + 0 ≤ _)⟩)
    dsimp only [Pt.U, Pt.locs, Pt.cells, Pt.slots] at X126 l126 y126 z126 st126 hQ126
    subst l126 y126 z126
    obtain ⟨rfl, rfl, e126⟩ := hQ126
    have X126 : Stand p l e room_1 s m #[(.int p1), (.int p2), (.long q1), (.long q2)] below meth c T126 [] 0 0 := X126
    have P127 : ∀ t, Steps p.tables e below (T126.setTop (mkF m 24 #[.val (.int p1), .val (.int p2), .val (.long q1), .second, .val (.long q2), .second, .val (.ref w_GE), .val (.long q2), .second, .val (.int (p2 &&& (3 : Int32))), .unset] [(.int (1 : Int32)), (.int (p2 &&& (3 : Int32)))])) t → Steps p.tables e below (s₁.setTop (entryFrame m #[(.int p1), (.int p2), (.long q1), (.long q2)] maxLocals)) t := fun t kt => P101 t (by
      show Steps p.tables e below (s₁.setTop (mkF m 7 #[.val (.int p1), .val (.int p2), .val (.long q1), .second, .val (.long q2), .second, .unset, .unset, .unset, .unset, .unset] [(.int (3 : Int32))])) _
      refine st126 _ ?_
      show Steps p.tables e below (T126.setTop (mkF m 10 #[.val (.int p1), .val (.int p2), .val (.long q1), .second, .val (.long q2), .second, .unset, .unset, .unset, .unset, .unset] [(.ref w_GE)])) _
      refine XS.astore X126.here hx rfl (hb hby at_10) rfl rfl (l' := #[.val (.int p1), .val (.int p2), .val (.long q1), .second, .val (.long q2), .second, .val (.ref w_GE), .unset, .unset, .unset, .unset]) rfl ?_
      show Steps p.tables e below (T126.setTop (mkF m 12 #[.val (.int p1), .val (.int p2), .val (.long q1), .second, .val (.long q2), .second, .val (.ref w_GE), .unset, .unset, .unset, .unset] [])) _
      refine XS.lload X126.here hx rfl (hb hby at_12) rfl ?_
      show Steps p.tables e below (T126.setTop (mkF m 14 #[.val (.int p1), .val (.int p2), .val (.long q1), .second, .val (.long q2), .second, .val (.ref w_GE), .unset, .unset, .unset, .unset] [(.long q2)])) _
      refine XS.lstore X126.here hx rfl (hb hby at_14) rfl (l' := #[.val (.int p1), .val (.int p2), .val (.long q1), .second, .val (.long q2), .second, .val (.ref w_GE), .val (.long q2), .second, .unset, .unset]) rfl ?_
      show Steps p.tables e below (T126.setTop (mkF m 16 #[.val (.int p1), .val (.int p2), .val (.long q1), .second, .val (.long q2), .second, .val (.ref w_GE), .val (.long q2), .second, .unset, .unset] [])) _
      refine XS.iloadN X126.here hx rfl (hb hby at_16) rfl ?_
      show Steps p.tables e below (T126.setTop (mkF m 17 #[.val (.int p1), .val (.int p2), .val (.long q1), .second, .val (.long q2), .second, .val (.ref w_GE), .val (.long q2), .second, .unset, .unset] [(.int p2)])) _
      refine XS.iconst X126.here hx rfl (hb hby at_17) ?_
      show Steps p.tables e below (T126.setTop (mkF m 18 #[.val (.int p1), .val (.int p2), .val (.long q1), .second, .val (.long q2), .second, .val (.ref w_GE), .val (.long q2), .second, .unset, .unset] [(.int (3 : Int32)), (.int p2)])) _
      refine XS.iand X126.here hx rfl (hb hby at_18) rfl ?_
      show Steps p.tables e below (T126.setTop (mkF m 19 #[.val (.int p1), .val (.int p2), .val (.long q1), .second, .val (.long q2), .second, .val (.ref w_GE), .val (.long q2), .second, .unset, .unset] [(.int (p2 &&& (3 : Int32)))])) _
      refine XS.istore X126.here hx rfl (hb hby at_19) rfl (l' := #[.val (.int p1), .val (.int p2), .val (.long q1), .second, .val (.long q2), .second, .val (.ref w_GE), .val (.long q2), .second, .val (.int (p2 &&& (3 : Int32))), .unset]) rfl ?_
      show Steps p.tables e below (T126.setTop (mkF m 21 #[.val (.int p1), .val (.int p2), .val (.long q1), .second, .val (.long q2), .second, .val (.ref w_GE), .val (.long q2), .second, .val (.int (p2 &&& (3 : Int32))), .unset] [])) _
      refine XS.iload X126.here hx rfl (hb hby at_21) rfl ?_
      show Steps p.tables e below (T126.setTop (mkF m 23 #[.val (.int p1), .val (.int p2), .val (.long q1), .second, .val (.long q2), .second, .val (.ref w_GE), .val (.long q2), .second, .val (.int (p2 &&& (3 : Int32))), .unset] [(.int (p2 &&& (3 : Int32)))])) _
      refine XS.iconst X126.here hx rfl (hb hby at_23) ?_
      exact kt)
    obtain ⟨v128_L7, hv128_L7⟩ : ∃ z : Int64, z = (if (p2 &&& (3 : Int32)) = (1 : Int32) then q1 else (if (p2 &&& (3 : Int32)) = (2 : Int32) then (q1 + (1 : Int64)) else (if (p2 &&& (3 : Int32)) = (3 : Int32) then (q1 - (1 : Int64)) else q2))) := ⟨_, rfl⟩
    have J128 : ∀ t, Steps p.tables e below (T126.setTop (mkF m 58 #[.val (.int p1), .val (.int p2), .val (.long q1), .second, .val (.long q2), .second, .val (.ref w_GE), .val (.long v128_L7), .second, .val (.int (p2 &&& (3 : Int32))), .unset] [])) t → Steps p.tables e below (T126.setTop (mkF m 24 #[.val (.int p1), .val (.int p2), .val (.long q1), .second, .val (.long q2), .second, .val (.ref w_GE), .val (.long q2), .second, .val (.int (p2 &&& (3 : Int32))), .unset] [(.int (1 : Int32)), (.int (p2 &&& (3 : Int32)))])) t := by
      intro t kt
      by_cases hr128_24_0 : (p2 &&& (3 : Int32)) = (1 : Int32)
      · have evv128_L7 : v128_L7 = q1 := by rw [hv128_L7, if_pos hr128_24_0]
        rw [evv128_L7] at kt
        show Steps p.tables e below (T126.setTop (mkF m 24 #[.val (.int p1), .val (.int p2), .val (.long q1), .second, .val (.long q2), .second, .val (.ref w_GE), .val (.long q2), .second, .val (.int (p2 &&& (3 : Int32))), .unset] [(.int (1 : Int32)), (.int (p2 &&& (3 : Int32)))])) _
        refine XS.icmpNo X126.here hx rfl (hb hby at_24) rfl (teq hr128_24_0).2 ?_
        show Steps p.tables e below (T126.setTop (mkF m 27 #[.val (.int p1), .val (.int p2), .val (.long q1), .second, .val (.long q2), .second, .val (.ref w_GE), .val (.long q2), .second, .val (.int (p2 &&& (3 : Int32))), .unset] [])) _
        refine XS.lloadN X126.here hx rfl (hb hby at_27) rfl ?_
        show Steps p.tables e below (T126.setTop (mkF m 28 #[.val (.int p1), .val (.int p2), .val (.long q1), .second, .val (.long q2), .second, .val (.ref w_GE), .val (.long q2), .second, .val (.int (p2 &&& (3 : Int32))), .unset] [(.long q1)])) _
        refine XS.lstore X126.here hx rfl (hb hby at_28) rfl (l' := #[.val (.int p1), .val (.int p2), .val (.long q1), .second, .val (.long q2), .second, .val (.ref w_GE), .val (.long q1), .second, .val (.int (p2 &&& (3 : Int32))), .unset]) rfl ?_
        show Steps p.tables e below (T126.setTop (mkF m 30 #[.val (.int p1), .val (.int p2), .val (.long q1), .second, .val (.long q2), .second, .val (.ref w_GE), .val (.long q1), .second, .val (.int (p2 &&& (3 : Int32))), .unset] [])) _
        refine XS.goto X126.here hx rfl (pc0 := 30) (pc' := 58) rfl (hb hby at_30) (by decide) (by decide) ?_
        exact kt
      · show Steps p.tables e below (T126.setTop (mkF m 24 #[.val (.int p1), .val (.int p2), .val (.long q1), .second, .val (.long q2), .second, .val (.ref w_GE), .val (.long q2), .second, .val (.int (p2 &&& (3 : Int32))), .unset] [(.int (1 : Int32)), (.int (p2 &&& (3 : Int32)))])) _
        refine XS.icmpYes X126.here hx rfl (pc0 := 24) (pc' := 33) rfl (hb hby at_24) rfl (feq hr128_24_0).2 (by decide) (by decide) ?_
        show Steps p.tables e below (T126.setTop (mkF m 33 #[.val (.int p1), .val (.int p2), .val (.long q1), .second, .val (.long q2), .second, .val (.ref w_GE), .val (.long q2), .second, .val (.int (p2 &&& (3 : Int32))), .unset] [])) _
        refine XS.iload X126.here hx rfl (hb hby at_33) rfl ?_
        show Steps p.tables e below (T126.setTop (mkF m 35 #[.val (.int p1), .val (.int p2), .val (.long q1), .second, .val (.long q2), .second, .val (.ref w_GE), .val (.long q2), .second, .val (.int (p2 &&& (3 : Int32))), .unset] [(.int (p2 &&& (3 : Int32)))])) _
        refine XS.iconst X126.here hx rfl (hb hby at_35) ?_
        by_cases hr128_36_1 : (p2 &&& (3 : Int32)) = (2 : Int32)
        · have evv128_L7 : v128_L7 = (q1 + (1 : Int64)) := by rw [hv128_L7, if_neg hr128_24_0, if_pos hr128_36_1]
          rw [evv128_L7] at kt
          show Steps p.tables e below (T126.setTop (mkF m 36 #[.val (.int p1), .val (.int p2), .val (.long q1), .second, .val (.long q2), .second, .val (.ref w_GE), .val (.long q2), .second, .val (.int (p2 &&& (3 : Int32))), .unset] [(.int (2 : Int32)), (.int (p2 &&& (3 : Int32)))])) _
          refine XS.icmpNo X126.here hx rfl (hb hby at_36) rfl (teq hr128_36_1).2 ?_
          show Steps p.tables e below (T126.setTop (mkF m 39 #[.val (.int p1), .val (.int p2), .val (.long q1), .second, .val (.long q2), .second, .val (.ref w_GE), .val (.long q2), .second, .val (.int (p2 &&& (3 : Int32))), .unset] [])) _
          refine XS.lloadN X126.here hx rfl (hb hby at_39) rfl ?_
          show Steps p.tables e below (T126.setTop (mkF m 40 #[.val (.int p1), .val (.int p2), .val (.long q1), .second, .val (.long q2), .second, .val (.ref w_GE), .val (.long q2), .second, .val (.int (p2 &&& (3 : Int32))), .unset] [(.long q1)])) _
          refine XS.lconst X126.here hx rfl (hb hby at_40) ?_
          show Steps p.tables e below (T126.setTop (mkF m 41 #[.val (.int p1), .val (.int p2), .val (.long q1), .second, .val (.long q2), .second, .val (.ref w_GE), .val (.long q2), .second, .val (.int (p2 &&& (3 : Int32))), .unset] [(.long (1 : Int64)), (.long q1)])) _
          refine XS.ladd X126.here hx rfl (hb hby at_41) rfl ?_
          show Steps p.tables e below (T126.setTop (mkF m 42 #[.val (.int p1), .val (.int p2), .val (.long q1), .second, .val (.long q2), .second, .val (.ref w_GE), .val (.long q2), .second, .val (.int (p2 &&& (3 : Int32))), .unset] [(.long (q1 + (1 : Int64)))])) _
          refine XS.lstore X126.here hx rfl (hb hby at_42) rfl (l' := #[.val (.int p1), .val (.int p2), .val (.long q1), .second, .val (.long q2), .second, .val (.ref w_GE), .val (.long (q1 + (1 : Int64))), .second, .val (.int (p2 &&& (3 : Int32))), .unset]) rfl ?_
          show Steps p.tables e below (T126.setTop (mkF m 44 #[.val (.int p1), .val (.int p2), .val (.long q1), .second, .val (.long q2), .second, .val (.ref w_GE), .val (.long (q1 + (1 : Int64))), .second, .val (.int (p2 &&& (3 : Int32))), .unset] [])) _
          refine XS.goto X126.here hx rfl (pc0 := 44) (pc' := 58) rfl (hb hby at_44) (by decide) (by decide) ?_
          exact kt
        · show Steps p.tables e below (T126.setTop (mkF m 36 #[.val (.int p1), .val (.int p2), .val (.long q1), .second, .val (.long q2), .second, .val (.ref w_GE), .val (.long q2), .second, .val (.int (p2 &&& (3 : Int32))), .unset] [(.int (2 : Int32)), (.int (p2 &&& (3 : Int32)))])) _
          refine XS.icmpYes X126.here hx rfl (pc0 := 36) (pc' := 47) rfl (hb hby at_36) rfl (feq hr128_36_1).2 (by decide) (by decide) ?_
          show Steps p.tables e below (T126.setTop (mkF m 47 #[.val (.int p1), .val (.int p2), .val (.long q1), .second, .val (.long q2), .second, .val (.ref w_GE), .val (.long q2), .second, .val (.int (p2 &&& (3 : Int32))), .unset] [])) _
          refine XS.iload X126.here hx rfl (hb hby at_47) rfl ?_
          show Steps p.tables e below (T126.setTop (mkF m 49 #[.val (.int p1), .val (.int p2), .val (.long q1), .second, .val (.long q2), .second, .val (.ref w_GE), .val (.long q2), .second, .val (.int (p2 &&& (3 : Int32))), .unset] [(.int (p2 &&& (3 : Int32)))])) _
          refine XS.iconst X126.here hx rfl (hb hby at_49) ?_
          by_cases hr128_50_2 : (p2 &&& (3 : Int32)) = (3 : Int32)
          · have evv128_L7 : v128_L7 = (q1 - (1 : Int64)) := by rw [hv128_L7, if_neg hr128_24_0, if_neg hr128_36_1, if_pos hr128_50_2]
            rw [evv128_L7] at kt
            show Steps p.tables e below (T126.setTop (mkF m 50 #[.val (.int p1), .val (.int p2), .val (.long q1), .second, .val (.long q2), .second, .val (.ref w_GE), .val (.long q2), .second, .val (.int (p2 &&& (3 : Int32))), .unset] [(.int (3 : Int32)), (.int (p2 &&& (3 : Int32)))])) _
            refine XS.icmpNo X126.here hx rfl (hb hby at_50) rfl (teq hr128_50_2).2 ?_
            show Steps p.tables e below (T126.setTop (mkF m 53 #[.val (.int p1), .val (.int p2), .val (.long q1), .second, .val (.long q2), .second, .val (.ref w_GE), .val (.long q2), .second, .val (.int (p2 &&& (3 : Int32))), .unset] [])) _
            refine XS.lloadN X126.here hx rfl (hb hby at_53) rfl ?_
            show Steps p.tables e below (T126.setTop (mkF m 54 #[.val (.int p1), .val (.int p2), .val (.long q1), .second, .val (.long q2), .second, .val (.ref w_GE), .val (.long q2), .second, .val (.int (p2 &&& (3 : Int32))), .unset] [(.long q1)])) _
            refine XS.lconst X126.here hx rfl (hb hby at_54) ?_
            show Steps p.tables e below (T126.setTop (mkF m 55 #[.val (.int p1), .val (.int p2), .val (.long q1), .second, .val (.long q2), .second, .val (.ref w_GE), .val (.long q2), .second, .val (.int (p2 &&& (3 : Int32))), .unset] [(.long (1 : Int64)), (.long q1)])) _
            refine XS.lsub X126.here hx rfl (hb hby at_55) rfl ?_
            show Steps p.tables e below (T126.setTop (mkF m 56 #[.val (.int p1), .val (.int p2), .val (.long q1), .second, .val (.long q2), .second, .val (.ref w_GE), .val (.long q2), .second, .val (.int (p2 &&& (3 : Int32))), .unset] [(.long (q1 - (1 : Int64)))])) _
            refine XS.lstore X126.here hx rfl (hb hby at_56) rfl (l' := #[.val (.int p1), .val (.int p2), .val (.long q1), .second, .val (.long q2), .second, .val (.ref w_GE), .val (.long (q1 - (1 : Int64))), .second, .val (.int (p2 &&& (3 : Int32))), .unset]) rfl ?_
            exact kt
          · have evv128_L7 : v128_L7 = q2 := by rw [hv128_L7, if_neg hr128_24_0, if_neg hr128_36_1, if_neg hr128_50_2]
            rw [evv128_L7] at kt
            show Steps p.tables e below (T126.setTop (mkF m 50 #[.val (.int p1), .val (.int p2), .val (.long q1), .second, .val (.long q2), .second, .val (.ref w_GE), .val (.long q2), .second, .val (.int (p2 &&& (3 : Int32))), .unset] [(.int (3 : Int32)), (.int (p2 &&& (3 : Int32)))])) _
            refine XS.icmpYes X126.here hx rfl (pc0 := 50) (pc' := 58) rfl (hb hby at_50) rfl (feq hr128_50_2).2 (by decide) (by decide) ?_
            exact kt
    have P129 : ∀ t, Steps p.tables e below (T126.setTop (mkF m 58 #[.val (.int p1), .val (.int p2), .val (.long q1), .second, .val (.long q2), .second, .val (.ref w_GE), .val (.long v128_L7), .second, .val (.int (p2 &&& (3 : Int32))), .unset] [])) t → Steps p.tables e below (s₁.setTop (entryFrame m #[(.int p1), (.int p2), (.long q1), (.long q2)] maxLocals)) t := fun t kt => P127 t (J128 t kt)
    obtain ⟨cq130, kq130, q130a, q130b, q130c⟩ := isOf hZ e126 E_GE
    obtain ⟨_, _, ⟨T130, L130, k130, n130⟩, -, X130, ⟨Lc130, hQ130, l130, y130, z130⟩, st130⟩ := X126.virtualBack hx (y := (⟨"com/example/probex/probex/symbolic/Relation", "negate", "()Lcom/example/probex/probex/symbolic/Relation;"⟩ : MethodName)) (z := (⟨"com/example/probex/probex/symbolic/Relation", "negate", "()Lcom/example/probex/probex/symbolic/Relation;"⟩ : MethodName)) hown (mvT hZ (hw _ (List.mem_of_getElem? (i := 8) rfl))) (mvT hZ (hw _ (List.mem_of_getElem? (i := 9) rfl))) (notFace_of_selects (args := #[]) (mvT hZ (hw _ (List.mem_of_getElem? (i := 11) rfl)))) (mvT hZ (hw _ (List.mem_of_getElem? (i := 11) rfl))) (mvT hZ (hw _ (List.mem_of_getElem? (i := 10) rfl))) (by decide) (backOf (W := 0)  (rmG l Z a0 hw [] w_GE (3 : Int32) w_EQ w_NE w_LT w_GE w_GT w_LE w_LT h0 S_EQ S_NE S_LT S_GE S_GT S_LE E_GE O_GE (by decide) rfl) hZ (hw _ (List.mem_of_getElem? (i := 12) rfl)) (hw _ (List.mem_of_getElem? (i := 6) rfl)) (by decide) (by decide)) q130a q130c (g := (mkF m 60 #[.val (.int p1), .val (.int p2), .val (.long q1), .second, .val (.long q2), .second, .val (.ref w_GE), .val (.long v128_L7), .second, .val (.int (p2 &&& (3 : Int32))), .unset] [(.ref w_GE)])) rfl (by rw [hml]; rfl) (Steps.refl _) (argsL := []) (rest := []) (lenOf pd___Lcom_example_probex_probex_symbolic_Relation_ rfl) rfl (by show 2 * 0 + _ ≤ _; exact Nat.le_of_eq rfl) (hb hby at_60) (fun _ _ => ⟨rfl, e126, (by decide : 0 + 0 ≤ _), (by decide : 0 + 0 ≤ _)⟩)
    dsimp only [Pt.U, Pt.locs, Pt.cells, Pt.slots] at X130 l130 y130 z130 st130 hQ130
    subst l130 y130 z130
    obtain ⟨rfl, rfl, e130⟩ := hQ130
    have X130 : Stand p l e room_1 s m #[(.int p1), (.int p2), (.long q1), (.long q2)] below meth c T130 [] 0 0 := X130
    obtain ⟨cq131, kq131, q131a, q131b, q131c⟩ := isOf hZ e130 E_LT
    obtain ⟨_, _, ⟨T131, L131, k131, n131⟩, -, X131, ⟨Lc131, hQ131, l131, y131, z131⟩, st131⟩ := X130.virtualBack hx (y := (⟨"com/example/probex/probex/symbolic/Relation", "test", "(JJ)Z"⟩ : MethodName)) (z := (⟨"com/example/probex/probex/symbolic/Relation", "test", "(JJ)Z"⟩ : MethodName)) hown (mvT hZ (hw _ (List.mem_of_getElem? (i := 24) rfl))) (mvT hZ (hw _ (List.mem_of_getElem? (i := 25) rfl))) (notFace_of_selects (args := #[]) (mvT hZ (hw _ (List.mem_of_getElem? (i := 27) rfl)))) (mvT hZ (hw _ (List.mem_of_getElem? (i := 27) rfl))) (mvT hZ (hw _ (List.mem_of_getElem? (i := 26) rfl))) (by decide) (backOf (W := 0)  (rmT l Z a0 hw [] w_LT (2 : Int32) q1 v128_L7 h0 E_LT O_LT (by decide)) hZ (hw _ (List.mem_of_getElem? (i := 28) rfl)) (hw _ (List.mem_of_getElem? (i := 6) rfl)) (by decide) (by decide)) q131a q131c (g := (mkF m 77 #[.val (.int p1), .val (.int p2), .val (.long q1), .second, .val (.long q2), .second, .val (.ref w_GE), .val (.long v128_L7), .second, .val (.int (p2 &&& (3 : Int32))), .val (.ref w_LT)] [(.long v128_L7), (.long q1), (.ref w_LT)])) rfl (by rw [hml]; rfl) (Steps.refl _) (argsL := [(.long q1), (.long v128_L7)]) (rest := []) (lenOf pd__JJ_Z rfl) rfl (by show 2 * 0 + _ ≤ _; exact Nat.le_of_eq rfl) (hb hby at_77) (fun _ _ => ⟨rfl, e130, (by decide : 0 + 0 ≤ _), (by decide : 0 + 0 ≤ _)⟩)
    dsimp only [Pt.U, Pt.locs, Pt.cells, Pt.slots] at X131 l131 y131 z131 st131 hQ131
    subst l131 y131 z131
    obtain ⟨rfl, rfl, e131⟩ := hQ131
    have X131 : Stand p l e room_1 s m #[(.int p1), (.int p2), (.long q1), (.long q2)] below meth c T131 [] 0 0 := X131
    obtain ⟨cq132, kq132, q132a, q132b, q132c⟩ := isOf hZ e131 E_GE
    obtain ⟨_, _, ⟨T132, L132, k132, n132⟩, -, X132, ⟨Lc132, hQ132, l132, y132, z132⟩, st132⟩ := X131.virtualBack hx (y := (⟨"com/example/probex/probex/symbolic/Relation", "test", "(JJ)Z"⟩ : MethodName)) (z := (⟨"com/example/probex/probex/symbolic/Relation", "test", "(JJ)Z"⟩ : MethodName)) hown (mvT hZ (hw _ (List.mem_of_getElem? (i := 24) rfl))) (mvT hZ (hw _ (List.mem_of_getElem? (i := 25) rfl))) (notFace_of_selects (args := #[]) (mvT hZ (hw _ (List.mem_of_getElem? (i := 27) rfl)))) (mvT hZ (hw _ (List.mem_of_getElem? (i := 27) rfl))) (mvT hZ (hw _ (List.mem_of_getElem? (i := 26) rfl))) (by decide) (backOf (W := 1)  (rmT l Z a0 hw [] w_GE (3 : Int32) q1 v128_L7 h0 E_GE O_GE (by decide)) hZ (hw _ (List.mem_of_getElem? (i := 28) rfl)) (hw _ (List.mem_of_getElem? (i := 6) rfl)) (by decide) (by decide)) q132a q132c (g := (mkF m 85 #[.val (.int p1), .val (.int p2), .val (.long q1), .second, .val (.long q2), .second, .val (.ref w_GE), .val (.long v128_L7), .second, .val (.int (p2 &&& (3 : Int32))), .val (.ref w_LT)] [(.long v128_L7), (.long q1), (.ref w_GE), (.int (tst (2 : Int32) q1 v128_L7))])) rfl (by rw [hml]; rfl) (Steps.refl _) (argsL := [(.long q1), (.long v128_L7)]) (rest := [(.int (tst (2 : Int32) q1 v128_L7))]) (lenOf pd__JJ_Z rfl) rfl (by show 2 * 0 + _ ≤ _; exact Nat.le_of_eq rfl) (hb hby at_85) (fun _ _ => ⟨rfl, e131, (by decide : 0 + 0 ≤ _), (by decide : 0 + 0 ≤ _)⟩)
    dsimp only [Pt.U, Pt.locs, Pt.cells, Pt.slots] at X132 l132 y132 z132 st132 hQ132
    subst l132 y132 z132
    obtain ⟨rfl, rfl, e132⟩ := hQ132
    have X132 : Stand p l e room_1 s m #[(.int p1), (.int p2), (.long q1), (.long q2)] below meth c T132 [] 0 0 := X132
    have P133 : ∀ t, Steps p.tables e below (T132.setTop (mkF m 96 #[.val (.int p1), .val (.int p2), .val (.long q1), .second, .val (.long q2), .second, .val (.ref w_GE), .val (.long v128_L7), .second, .val (.int (p2 &&& (3 : Int32))), .val (.ref w_LT)] [(.int (1 : Int32))])) t → Steps p.tables e below (s₁.setTop (entryFrame m #[(.int p1), (.int p2), (.long q1), (.long q2)] maxLocals)) t := fun t kt => P129 t (by
      show Steps p.tables e below (T126.setTop (mkF m 58 #[.val (.int p1), .val (.int p2), .val (.long q1), .second, .val (.long q2), .second, .val (.ref w_GE), .val (.long v128_L7), .second, .val (.int (p2 &&& (3 : Int32))), .unset] [])) _
      refine XS.aload X126.here hx rfl (hb hby at_58) rfl rfl ?_
      show Steps p.tables e below (T126.setTop (mkF m 60 #[.val (.int p1), .val (.int p2), .val (.long q1), .second, .val (.long q2), .second, .val (.ref w_GE), .val (.long v128_L7), .second, .val (.int (p2 &&& (3 : Int32))), .unset] [(.ref w_GE)])) _
      refine st130.trans ?_
      show Steps p.tables e below (T130.setTop (mkF m 63 #[.val (.int p1), .val (.int p2), .val (.long q1), .second, .val (.long q2), .second, .val (.ref w_GE), .val (.long v128_L7), .second, .val (.int (p2 &&& (3 : Int32))), .unset] [(.ref w_LT)])) _
      refine XS.astore X130.here hx rfl (hb hby at_63) rfl rfl (l' := #[.val (.int p1), .val (.int p2), .val (.long q1), .second, .val (.long q2), .second, .val (.ref w_GE), .val (.long v128_L7), .second, .val (.int (p2 &&& (3 : Int32))), .val (.ref w_LT)]) rfl ?_
      show Steps p.tables e below (T130.setTop (mkF m 65 #[.val (.int p1), .val (.int p2), .val (.long q1), .second, .val (.long q2), .second, .val (.ref w_GE), .val (.long v128_L7), .second, .val (.int (p2 &&& (3 : Int32))), .val (.ref w_LT)] [])) _
      refine XS.aload X130.here hx rfl (hb hby at_65) rfl rfl ?_
      show Steps p.tables e below (T130.setTop (mkF m 67 #[.val (.int p1), .val (.int p2), .val (.long q1), .second, .val (.long q2), .second, .val (.ref w_GE), .val (.long v128_L7), .second, .val (.int (p2 &&& (3 : Int32))), .val (.ref w_LT)] [(.ref w_LT)])) _
      refine XS.ifnonnullYes X130.here hx rfl (pc0 := 67) (pc' := 72) rfl (hb hby at_67) rfl (by decide) (by decide) ?_
      show Steps p.tables e below (T130.setTop (mkF m 72 #[.val (.int p1), .val (.int p2), .val (.long q1), .second, .val (.long q2), .second, .val (.ref w_GE), .val (.long v128_L7), .second, .val (.int (p2 &&& (3 : Int32))), .val (.ref w_LT)] [])) _
      refine XS.aload X130.here hx rfl (hb hby at_72) rfl rfl ?_
      show Steps p.tables e below (T130.setTop (mkF m 74 #[.val (.int p1), .val (.int p2), .val (.long q1), .second, .val (.long q2), .second, .val (.ref w_GE), .val (.long v128_L7), .second, .val (.int (p2 &&& (3 : Int32))), .val (.ref w_LT)] [(.ref w_LT)])) _
      refine XS.lloadN X130.here hx rfl (hb hby at_74) rfl ?_
      show Steps p.tables e below (T130.setTop (mkF m 75 #[.val (.int p1), .val (.int p2), .val (.long q1), .second, .val (.long q2), .second, .val (.ref w_GE), .val (.long v128_L7), .second, .val (.int (p2 &&& (3 : Int32))), .val (.ref w_LT)] [(.long q1), (.ref w_LT)])) _
      refine XS.lload X130.here hx rfl (hb hby at_75) rfl ?_
      show Steps p.tables e below (T130.setTop (mkF m 77 #[.val (.int p1), .val (.int p2), .val (.long q1), .second, .val (.long q2), .second, .val (.ref w_GE), .val (.long v128_L7), .second, .val (.int (p2 &&& (3 : Int32))), .val (.ref w_LT)] [(.long v128_L7), (.long q1), (.ref w_LT)])) _
      refine st131.trans ?_
      show Steps p.tables e below (T131.setTop (mkF m 80 #[.val (.int p1), .val (.int p2), .val (.long q1), .second, .val (.long q2), .second, .val (.ref w_GE), .val (.long v128_L7), .second, .val (.int (p2 &&& (3 : Int32))), .val (.ref w_LT)] [(.int (tst (2 : Int32) q1 v128_L7))])) _
      refine XS.aload X131.here hx rfl (hb hby at_80) rfl rfl ?_
      show Steps p.tables e below (T131.setTop (mkF m 82 #[.val (.int p1), .val (.int p2), .val (.long q1), .second, .val (.long q2), .second, .val (.ref w_GE), .val (.long v128_L7), .second, .val (.int (p2 &&& (3 : Int32))), .val (.ref w_LT)] [(.ref w_GE), (.int (tst (2 : Int32) q1 v128_L7))])) _
      refine XS.lloadN X131.here hx rfl (hb hby at_82) rfl ?_
      show Steps p.tables e below (T131.setTop (mkF m 83 #[.val (.int p1), .val (.int p2), .val (.long q1), .second, .val (.long q2), .second, .val (.ref w_GE), .val (.long v128_L7), .second, .val (.int (p2 &&& (3 : Int32))), .val (.ref w_LT)] [(.long q1), (.ref w_GE), (.int (tst (2 : Int32) q1 v128_L7))])) _
      refine XS.lload X131.here hx rfl (hb hby at_83) rfl ?_
      show Steps p.tables e below (T131.setTop (mkF m 85 #[.val (.int p1), .val (.int p2), .val (.long q1), .second, .val (.long q2), .second, .val (.ref w_GE), .val (.long v128_L7), .second, .val (.int (p2 &&& (3 : Int32))), .val (.ref w_LT)] [(.long v128_L7), (.long q1), (.ref w_GE), (.int (tst (2 : Int32) q1 v128_L7))])) _
      refine st132.trans ?_
      show Steps p.tables e below (T132.setTop (mkF m 88 #[.val (.int p1), .val (.int p2), .val (.long q1), .second, .val (.long q2), .second, .val (.ref w_GE), .val (.long v128_L7), .second, .val (.int (p2 &&& (3 : Int32))), .val (.ref w_LT)] [(.int (tst (3 : Int32) q1 v128_L7)), (.int (tst (2 : Int32) q1 v128_L7))])) _
      refine XS.icmpNo X132.here hx rfl (hb hby at_88) rfl (feq (own_n3 _ _ : ¬ ((tst (2 : Int32) q1 v128_L7) = (tst (3 : Int32) q1 v128_L7)))).1 ?_
      show Steps p.tables e below (T132.setTop (mkF m 91 #[.val (.int p1), .val (.int p2), .val (.long q1), .second, .val (.long q2), .second, .val (.ref w_GE), .val (.long v128_L7), .second, .val (.int (p2 &&& (3 : Int32))), .val (.ref w_LT)] [])) _
      refine XS.iconst X132.here hx rfl (hb hby at_91) ?_
      show Steps p.tables e below (T132.setTop (mkF m 92 #[.val (.int p1), .val (.int p2), .val (.long q1), .second, .val (.long q2), .second, .val (.ref w_GE), .val (.long v128_L7), .second, .val (.int (p2 &&& (3 : Int32))), .val (.ref w_LT)] [(.int (1 : Int32))])) _
      refine XS.goto X132.here hx rfl (pc0 := 92) (pc' := 96) rfl (hb hby at_92) (by decide) (by decide) ?_
      exact kt)
    obtain ⟨fs, hr, hrun, hended, hW, hsame⟩ := X132.leave (v := some (.int (1 : Int32))) (fun h => by rw [Bd.returns] at h; cases h) (hlocks := hlk)
    refine ⟨_, _, P133 _ ?_, hrun, hended, _, _, rfl, ?_, ⟨_, rfl⟩, hW, hsame.mono (by decide) (by decide)⟩
    · show Steps p.tables e below (T132.setTop (mkF m 96 #[.val (.int p1), .val (.int p2), .val (.long q1), .second, .val (.long q2), .second, .val (.ref w_GE), .val (.long v128_L7), .second, .val (.int (p2 &&& (3 : Int32))), .val (.ref w_LT)] [(.int (1 : Int32))])) _
      exact retN X132 hx (t := .boolean) Bd.returns (by simp) (hb hby at_96) hr
    · show QP _ h0 _ T132.heap _
      exact ⟨rfl, rfl, e132⟩
  · obtain ⟨_, _, ⟨T134, L134, k134, n134⟩, -, X134, ⟨Lc134, hQ134, l134, y134, z134⟩, st134⟩ := Jvm.LawKit.callS X0 hx (y := (⟨"com/example/probex/probex/symbolic/RelationNegatePinLaw", "pick", "(I)Lcom/example/probex/probex/symbolic/Relation;"⟩ : MethodName)) hown (mvT hZ (hw _ (List.mem_of_getElem? (i := 1) rfl))) (mvT hZ (hw _ (List.mem_of_getElem? (i := 2) rfl))) (mvT hZ (hw _ (List.mem_of_getElem? (i := 3) rfl))) (mvT hZ (hw _ (List.mem_of_getElem? (i := 4) rfl))) (by decide) (backOf (W := 0)  (rmK l Z a0 hw [] (4 : Int32) w_EQ w_NE w_LT w_GE w_GT w_LE w_GT h0 S_EQ S_NE S_LT S_GE S_GT S_LE rfl) hZ (hw _ (List.mem_of_getElem? (i := 4) rfl)) (hw _ (List.mem_of_getElem? (i := 3) rfl)) (by decide) (by decide)) (g := (mkF m 7 #[.val (.int p1), .val (.int p2), .val (.long q1), .second, .val (.long q2), .second, .unset, .unset, .unset, .unset, .unset] [(.int (4 : Int32))])) rfl (by rw [hml]; rfl) (argsL := [(.int (4 : Int32))]) (rest := []) (lenOf pd__I_Lcom_example_probex_probex_symbolic_Relation_ rfl) rfl (by show 2 * 0 + _ ≤ _; exact Nat.le_of_eq rfl) (hb hby at_7) (fun _ _ => ⟨rfl, e0, (by decide : 0 + 0 ≤ _), (by decide : 0 + 0 ≤ _)⟩)
    dsimp only [Pt.U, Pt.locs, Pt.cells, Pt.slots] at X134 l134 y134 z134 st134 hQ134
    subst l134 y134 z134
    obtain ⟨rfl, rfl, e134⟩ := hQ134
    have X134 : Stand p l e room_1 s m #[(.int p1), (.int p2), (.long q1), (.long q2)] below meth c T134 [] 0 0 := X134
    have P135 : ∀ t, Steps p.tables e below (T134.setTop (mkF m 24 #[.val (.int p1), .val (.int p2), .val (.long q1), .second, .val (.long q2), .second, .val (.ref w_GT), .val (.long q2), .second, .val (.int (p2 &&& (3 : Int32))), .unset] [(.int (1 : Int32)), (.int (p2 &&& (3 : Int32)))])) t → Steps p.tables e below (s₁.setTop (entryFrame m #[(.int p1), (.int p2), (.long q1), (.long q2)] maxLocals)) t := fun t kt => P101 t (by
      show Steps p.tables e below (s₁.setTop (mkF m 7 #[.val (.int p1), .val (.int p2), .val (.long q1), .second, .val (.long q2), .second, .unset, .unset, .unset, .unset, .unset] [(.int (4 : Int32))])) _
      refine st134 _ ?_
      show Steps p.tables e below (T134.setTop (mkF m 10 #[.val (.int p1), .val (.int p2), .val (.long q1), .second, .val (.long q2), .second, .unset, .unset, .unset, .unset, .unset] [(.ref w_GT)])) _
      refine XS.astore X134.here hx rfl (hb hby at_10) rfl rfl (l' := #[.val (.int p1), .val (.int p2), .val (.long q1), .second, .val (.long q2), .second, .val (.ref w_GT), .unset, .unset, .unset, .unset]) rfl ?_
      show Steps p.tables e below (T134.setTop (mkF m 12 #[.val (.int p1), .val (.int p2), .val (.long q1), .second, .val (.long q2), .second, .val (.ref w_GT), .unset, .unset, .unset, .unset] [])) _
      refine XS.lload X134.here hx rfl (hb hby at_12) rfl ?_
      show Steps p.tables e below (T134.setTop (mkF m 14 #[.val (.int p1), .val (.int p2), .val (.long q1), .second, .val (.long q2), .second, .val (.ref w_GT), .unset, .unset, .unset, .unset] [(.long q2)])) _
      refine XS.lstore X134.here hx rfl (hb hby at_14) rfl (l' := #[.val (.int p1), .val (.int p2), .val (.long q1), .second, .val (.long q2), .second, .val (.ref w_GT), .val (.long q2), .second, .unset, .unset]) rfl ?_
      show Steps p.tables e below (T134.setTop (mkF m 16 #[.val (.int p1), .val (.int p2), .val (.long q1), .second, .val (.long q2), .second, .val (.ref w_GT), .val (.long q2), .second, .unset, .unset] [])) _
      refine XS.iloadN X134.here hx rfl (hb hby at_16) rfl ?_
      show Steps p.tables e below (T134.setTop (mkF m 17 #[.val (.int p1), .val (.int p2), .val (.long q1), .second, .val (.long q2), .second, .val (.ref w_GT), .val (.long q2), .second, .unset, .unset] [(.int p2)])) _
      refine XS.iconst X134.here hx rfl (hb hby at_17) ?_
      show Steps p.tables e below (T134.setTop (mkF m 18 #[.val (.int p1), .val (.int p2), .val (.long q1), .second, .val (.long q2), .second, .val (.ref w_GT), .val (.long q2), .second, .unset, .unset] [(.int (3 : Int32)), (.int p2)])) _
      refine XS.iand X134.here hx rfl (hb hby at_18) rfl ?_
      show Steps p.tables e below (T134.setTop (mkF m 19 #[.val (.int p1), .val (.int p2), .val (.long q1), .second, .val (.long q2), .second, .val (.ref w_GT), .val (.long q2), .second, .unset, .unset] [(.int (p2 &&& (3 : Int32)))])) _
      refine XS.istore X134.here hx rfl (hb hby at_19) rfl (l' := #[.val (.int p1), .val (.int p2), .val (.long q1), .second, .val (.long q2), .second, .val (.ref w_GT), .val (.long q2), .second, .val (.int (p2 &&& (3 : Int32))), .unset]) rfl ?_
      show Steps p.tables e below (T134.setTop (mkF m 21 #[.val (.int p1), .val (.int p2), .val (.long q1), .second, .val (.long q2), .second, .val (.ref w_GT), .val (.long q2), .second, .val (.int (p2 &&& (3 : Int32))), .unset] [])) _
      refine XS.iload X134.here hx rfl (hb hby at_21) rfl ?_
      show Steps p.tables e below (T134.setTop (mkF m 23 #[.val (.int p1), .val (.int p2), .val (.long q1), .second, .val (.long q2), .second, .val (.ref w_GT), .val (.long q2), .second, .val (.int (p2 &&& (3 : Int32))), .unset] [(.int (p2 &&& (3 : Int32)))])) _
      refine XS.iconst X134.here hx rfl (hb hby at_23) ?_
      exact kt)
    obtain ⟨v136_L7, hv136_L7⟩ : ∃ z : Int64, z = (if (p2 &&& (3 : Int32)) = (1 : Int32) then q1 else (if (p2 &&& (3 : Int32)) = (2 : Int32) then (q1 + (1 : Int64)) else (if (p2 &&& (3 : Int32)) = (3 : Int32) then (q1 - (1 : Int64)) else q2))) := ⟨_, rfl⟩
    have J136 : ∀ t, Steps p.tables e below (T134.setTop (mkF m 58 #[.val (.int p1), .val (.int p2), .val (.long q1), .second, .val (.long q2), .second, .val (.ref w_GT), .val (.long v136_L7), .second, .val (.int (p2 &&& (3 : Int32))), .unset] [])) t → Steps p.tables e below (T134.setTop (mkF m 24 #[.val (.int p1), .val (.int p2), .val (.long q1), .second, .val (.long q2), .second, .val (.ref w_GT), .val (.long q2), .second, .val (.int (p2 &&& (3 : Int32))), .unset] [(.int (1 : Int32)), (.int (p2 &&& (3 : Int32)))])) t := by
      intro t kt
      by_cases hr136_24_0 : (p2 &&& (3 : Int32)) = (1 : Int32)
      · have evv136_L7 : v136_L7 = q1 := by rw [hv136_L7, if_pos hr136_24_0]
        rw [evv136_L7] at kt
        show Steps p.tables e below (T134.setTop (mkF m 24 #[.val (.int p1), .val (.int p2), .val (.long q1), .second, .val (.long q2), .second, .val (.ref w_GT), .val (.long q2), .second, .val (.int (p2 &&& (3 : Int32))), .unset] [(.int (1 : Int32)), (.int (p2 &&& (3 : Int32)))])) _
        refine XS.icmpNo X134.here hx rfl (hb hby at_24) rfl (teq hr136_24_0).2 ?_
        show Steps p.tables e below (T134.setTop (mkF m 27 #[.val (.int p1), .val (.int p2), .val (.long q1), .second, .val (.long q2), .second, .val (.ref w_GT), .val (.long q2), .second, .val (.int (p2 &&& (3 : Int32))), .unset] [])) _
        refine XS.lloadN X134.here hx rfl (hb hby at_27) rfl ?_
        show Steps p.tables e below (T134.setTop (mkF m 28 #[.val (.int p1), .val (.int p2), .val (.long q1), .second, .val (.long q2), .second, .val (.ref w_GT), .val (.long q2), .second, .val (.int (p2 &&& (3 : Int32))), .unset] [(.long q1)])) _
        refine XS.lstore X134.here hx rfl (hb hby at_28) rfl (l' := #[.val (.int p1), .val (.int p2), .val (.long q1), .second, .val (.long q2), .second, .val (.ref w_GT), .val (.long q1), .second, .val (.int (p2 &&& (3 : Int32))), .unset]) rfl ?_
        show Steps p.tables e below (T134.setTop (mkF m 30 #[.val (.int p1), .val (.int p2), .val (.long q1), .second, .val (.long q2), .second, .val (.ref w_GT), .val (.long q1), .second, .val (.int (p2 &&& (3 : Int32))), .unset] [])) _
        refine XS.goto X134.here hx rfl (pc0 := 30) (pc' := 58) rfl (hb hby at_30) (by decide) (by decide) ?_
        exact kt
      · show Steps p.tables e below (T134.setTop (mkF m 24 #[.val (.int p1), .val (.int p2), .val (.long q1), .second, .val (.long q2), .second, .val (.ref w_GT), .val (.long q2), .second, .val (.int (p2 &&& (3 : Int32))), .unset] [(.int (1 : Int32)), (.int (p2 &&& (3 : Int32)))])) _
        refine XS.icmpYes X134.here hx rfl (pc0 := 24) (pc' := 33) rfl (hb hby at_24) rfl (feq hr136_24_0).2 (by decide) (by decide) ?_
        show Steps p.tables e below (T134.setTop (mkF m 33 #[.val (.int p1), .val (.int p2), .val (.long q1), .second, .val (.long q2), .second, .val (.ref w_GT), .val (.long q2), .second, .val (.int (p2 &&& (3 : Int32))), .unset] [])) _
        refine XS.iload X134.here hx rfl (hb hby at_33) rfl ?_
        show Steps p.tables e below (T134.setTop (mkF m 35 #[.val (.int p1), .val (.int p2), .val (.long q1), .second, .val (.long q2), .second, .val (.ref w_GT), .val (.long q2), .second, .val (.int (p2 &&& (3 : Int32))), .unset] [(.int (p2 &&& (3 : Int32)))])) _
        refine XS.iconst X134.here hx rfl (hb hby at_35) ?_
        by_cases hr136_36_1 : (p2 &&& (3 : Int32)) = (2 : Int32)
        · have evv136_L7 : v136_L7 = (q1 + (1 : Int64)) := by rw [hv136_L7, if_neg hr136_24_0, if_pos hr136_36_1]
          rw [evv136_L7] at kt
          show Steps p.tables e below (T134.setTop (mkF m 36 #[.val (.int p1), .val (.int p2), .val (.long q1), .second, .val (.long q2), .second, .val (.ref w_GT), .val (.long q2), .second, .val (.int (p2 &&& (3 : Int32))), .unset] [(.int (2 : Int32)), (.int (p2 &&& (3 : Int32)))])) _
          refine XS.icmpNo X134.here hx rfl (hb hby at_36) rfl (teq hr136_36_1).2 ?_
          show Steps p.tables e below (T134.setTop (mkF m 39 #[.val (.int p1), .val (.int p2), .val (.long q1), .second, .val (.long q2), .second, .val (.ref w_GT), .val (.long q2), .second, .val (.int (p2 &&& (3 : Int32))), .unset] [])) _
          refine XS.lloadN X134.here hx rfl (hb hby at_39) rfl ?_
          show Steps p.tables e below (T134.setTop (mkF m 40 #[.val (.int p1), .val (.int p2), .val (.long q1), .second, .val (.long q2), .second, .val (.ref w_GT), .val (.long q2), .second, .val (.int (p2 &&& (3 : Int32))), .unset] [(.long q1)])) _
          refine XS.lconst X134.here hx rfl (hb hby at_40) ?_
          show Steps p.tables e below (T134.setTop (mkF m 41 #[.val (.int p1), .val (.int p2), .val (.long q1), .second, .val (.long q2), .second, .val (.ref w_GT), .val (.long q2), .second, .val (.int (p2 &&& (3 : Int32))), .unset] [(.long (1 : Int64)), (.long q1)])) _
          refine XS.ladd X134.here hx rfl (hb hby at_41) rfl ?_
          show Steps p.tables e below (T134.setTop (mkF m 42 #[.val (.int p1), .val (.int p2), .val (.long q1), .second, .val (.long q2), .second, .val (.ref w_GT), .val (.long q2), .second, .val (.int (p2 &&& (3 : Int32))), .unset] [(.long (q1 + (1 : Int64)))])) _
          refine XS.lstore X134.here hx rfl (hb hby at_42) rfl (l' := #[.val (.int p1), .val (.int p2), .val (.long q1), .second, .val (.long q2), .second, .val (.ref w_GT), .val (.long (q1 + (1 : Int64))), .second, .val (.int (p2 &&& (3 : Int32))), .unset]) rfl ?_
          show Steps p.tables e below (T134.setTop (mkF m 44 #[.val (.int p1), .val (.int p2), .val (.long q1), .second, .val (.long q2), .second, .val (.ref w_GT), .val (.long (q1 + (1 : Int64))), .second, .val (.int (p2 &&& (3 : Int32))), .unset] [])) _
          refine XS.goto X134.here hx rfl (pc0 := 44) (pc' := 58) rfl (hb hby at_44) (by decide) (by decide) ?_
          exact kt
        · show Steps p.tables e below (T134.setTop (mkF m 36 #[.val (.int p1), .val (.int p2), .val (.long q1), .second, .val (.long q2), .second, .val (.ref w_GT), .val (.long q2), .second, .val (.int (p2 &&& (3 : Int32))), .unset] [(.int (2 : Int32)), (.int (p2 &&& (3 : Int32)))])) _
          refine XS.icmpYes X134.here hx rfl (pc0 := 36) (pc' := 47) rfl (hb hby at_36) rfl (feq hr136_36_1).2 (by decide) (by decide) ?_
          show Steps p.tables e below (T134.setTop (mkF m 47 #[.val (.int p1), .val (.int p2), .val (.long q1), .second, .val (.long q2), .second, .val (.ref w_GT), .val (.long q2), .second, .val (.int (p2 &&& (3 : Int32))), .unset] [])) _
          refine XS.iload X134.here hx rfl (hb hby at_47) rfl ?_
          show Steps p.tables e below (T134.setTop (mkF m 49 #[.val (.int p1), .val (.int p2), .val (.long q1), .second, .val (.long q2), .second, .val (.ref w_GT), .val (.long q2), .second, .val (.int (p2 &&& (3 : Int32))), .unset] [(.int (p2 &&& (3 : Int32)))])) _
          refine XS.iconst X134.here hx rfl (hb hby at_49) ?_
          by_cases hr136_50_2 : (p2 &&& (3 : Int32)) = (3 : Int32)
          · have evv136_L7 : v136_L7 = (q1 - (1 : Int64)) := by rw [hv136_L7, if_neg hr136_24_0, if_neg hr136_36_1, if_pos hr136_50_2]
            rw [evv136_L7] at kt
            show Steps p.tables e below (T134.setTop (mkF m 50 #[.val (.int p1), .val (.int p2), .val (.long q1), .second, .val (.long q2), .second, .val (.ref w_GT), .val (.long q2), .second, .val (.int (p2 &&& (3 : Int32))), .unset] [(.int (3 : Int32)), (.int (p2 &&& (3 : Int32)))])) _
            refine XS.icmpNo X134.here hx rfl (hb hby at_50) rfl (teq hr136_50_2).2 ?_
            show Steps p.tables e below (T134.setTop (mkF m 53 #[.val (.int p1), .val (.int p2), .val (.long q1), .second, .val (.long q2), .second, .val (.ref w_GT), .val (.long q2), .second, .val (.int (p2 &&& (3 : Int32))), .unset] [])) _
            refine XS.lloadN X134.here hx rfl (hb hby at_53) rfl ?_
            show Steps p.tables e below (T134.setTop (mkF m 54 #[.val (.int p1), .val (.int p2), .val (.long q1), .second, .val (.long q2), .second, .val (.ref w_GT), .val (.long q2), .second, .val (.int (p2 &&& (3 : Int32))), .unset] [(.long q1)])) _
            refine XS.lconst X134.here hx rfl (hb hby at_54) ?_
            show Steps p.tables e below (T134.setTop (mkF m 55 #[.val (.int p1), .val (.int p2), .val (.long q1), .second, .val (.long q2), .second, .val (.ref w_GT), .val (.long q2), .second, .val (.int (p2 &&& (3 : Int32))), .unset] [(.long (1 : Int64)), (.long q1)])) _
            refine XS.lsub X134.here hx rfl (hb hby at_55) rfl ?_
            show Steps p.tables e below (T134.setTop (mkF m 56 #[.val (.int p1), .val (.int p2), .val (.long q1), .second, .val (.long q2), .second, .val (.ref w_GT), .val (.long q2), .second, .val (.int (p2 &&& (3 : Int32))), .unset] [(.long (q1 - (1 : Int64)))])) _
            refine XS.lstore X134.here hx rfl (hb hby at_56) rfl (l' := #[.val (.int p1), .val (.int p2), .val (.long q1), .second, .val (.long q2), .second, .val (.ref w_GT), .val (.long (q1 - (1 : Int64))), .second, .val (.int (p2 &&& (3 : Int32))), .unset]) rfl ?_
            exact kt
          · have evv136_L7 : v136_L7 = q2 := by rw [hv136_L7, if_neg hr136_24_0, if_neg hr136_36_1, if_neg hr136_50_2]
            rw [evv136_L7] at kt
            show Steps p.tables e below (T134.setTop (mkF m 50 #[.val (.int p1), .val (.int p2), .val (.long q1), .second, .val (.long q2), .second, .val (.ref w_GT), .val (.long q2), .second, .val (.int (p2 &&& (3 : Int32))), .unset] [(.int (3 : Int32)), (.int (p2 &&& (3 : Int32)))])) _
            refine XS.icmpYes X134.here hx rfl (pc0 := 50) (pc' := 58) rfl (hb hby at_50) rfl (feq hr136_50_2).2 (by decide) (by decide) ?_
            exact kt
    have P137 : ∀ t, Steps p.tables e below (T134.setTop (mkF m 58 #[.val (.int p1), .val (.int p2), .val (.long q1), .second, .val (.long q2), .second, .val (.ref w_GT), .val (.long v136_L7), .second, .val (.int (p2 &&& (3 : Int32))), .unset] [])) t → Steps p.tables e below (s₁.setTop (entryFrame m #[(.int p1), (.int p2), (.long q1), (.long q2)] maxLocals)) t := fun t kt => P135 t (J136 t kt)
    obtain ⟨cq138, kq138, q138a, q138b, q138c⟩ := isOf hZ e134 E_GT
    obtain ⟨_, _, ⟨T138, L138, k138, n138⟩, -, X138, ⟨Lc138, hQ138, l138, y138, z138⟩, st138⟩ := X134.virtualBack hx (y := (⟨"com/example/probex/probex/symbolic/Relation", "negate", "()Lcom/example/probex/probex/symbolic/Relation;"⟩ : MethodName)) (z := (⟨"com/example/probex/probex/symbolic/Relation", "negate", "()Lcom/example/probex/probex/symbolic/Relation;"⟩ : MethodName)) hown (mvT hZ (hw _ (List.mem_of_getElem? (i := 8) rfl))) (mvT hZ (hw _ (List.mem_of_getElem? (i := 9) rfl))) (notFace_of_selects (args := #[]) (mvT hZ (hw _ (List.mem_of_getElem? (i := 11) rfl)))) (mvT hZ (hw _ (List.mem_of_getElem? (i := 11) rfl))) (mvT hZ (hw _ (List.mem_of_getElem? (i := 10) rfl))) (by decide) (backOf (W := 0)  (rmG l Z a0 hw [] w_GT (4 : Int32) w_EQ w_NE w_LT w_GE w_GT w_LE w_LE h0 S_EQ S_NE S_LT S_GE S_GT S_LE E_GT O_GT (by decide) rfl) hZ (hw _ (List.mem_of_getElem? (i := 12) rfl)) (hw _ (List.mem_of_getElem? (i := 6) rfl)) (by decide) (by decide)) q138a q138c (g := (mkF m 60 #[.val (.int p1), .val (.int p2), .val (.long q1), .second, .val (.long q2), .second, .val (.ref w_GT), .val (.long v136_L7), .second, .val (.int (p2 &&& (3 : Int32))), .unset] [(.ref w_GT)])) rfl (by rw [hml]; rfl) (Steps.refl _) (argsL := []) (rest := []) (lenOf pd___Lcom_example_probex_probex_symbolic_Relation_ rfl) rfl (by show 2 * 0 + _ ≤ _; exact Nat.le_of_eq rfl) (hb hby at_60) (fun _ _ => ⟨rfl, e134, (by decide : 0 + 0 ≤ _), (by decide : 0 + 0 ≤ _)⟩)
    dsimp only [Pt.U, Pt.locs, Pt.cells, Pt.slots] at X138 l138 y138 z138 st138 hQ138
    subst l138 y138 z138
    obtain ⟨rfl, rfl, e138⟩ := hQ138
    have X138 : Stand p l e room_1 s m #[(.int p1), (.int p2), (.long q1), (.long q2)] below meth c T138 [] 0 0 := X138
    obtain ⟨cq139, kq139, q139a, q139b, q139c⟩ := isOf hZ e138 E_LE
    obtain ⟨_, _, ⟨T139, L139, k139, n139⟩, -, X139, ⟨Lc139, hQ139, l139, y139, z139⟩, st139⟩ := X138.virtualBack hx (y := (⟨"com/example/probex/probex/symbolic/Relation", "test", "(JJ)Z"⟩ : MethodName)) (z := (⟨"com/example/probex/probex/symbolic/Relation", "test", "(JJ)Z"⟩ : MethodName)) hown (mvT hZ (hw _ (List.mem_of_getElem? (i := 24) rfl))) (mvT hZ (hw _ (List.mem_of_getElem? (i := 25) rfl))) (notFace_of_selects (args := #[]) (mvT hZ (hw _ (List.mem_of_getElem? (i := 27) rfl)))) (mvT hZ (hw _ (List.mem_of_getElem? (i := 27) rfl))) (mvT hZ (hw _ (List.mem_of_getElem? (i := 26) rfl))) (by decide) (backOf (W := 0)  (rmT l Z a0 hw [] w_LE (5 : Int32) q1 v136_L7 h0 E_LE O_LE (by decide)) hZ (hw _ (List.mem_of_getElem? (i := 28) rfl)) (hw _ (List.mem_of_getElem? (i := 6) rfl)) (by decide) (by decide)) q139a q139c (g := (mkF m 77 #[.val (.int p1), .val (.int p2), .val (.long q1), .second, .val (.long q2), .second, .val (.ref w_GT), .val (.long v136_L7), .second, .val (.int (p2 &&& (3 : Int32))), .val (.ref w_LE)] [(.long v136_L7), (.long q1), (.ref w_LE)])) rfl (by rw [hml]; rfl) (Steps.refl _) (argsL := [(.long q1), (.long v136_L7)]) (rest := []) (lenOf pd__JJ_Z rfl) rfl (by show 2 * 0 + _ ≤ _; exact Nat.le_of_eq rfl) (hb hby at_77) (fun _ _ => ⟨rfl, e138, (by decide : 0 + 0 ≤ _), (by decide : 0 + 0 ≤ _)⟩)
    dsimp only [Pt.U, Pt.locs, Pt.cells, Pt.slots] at X139 l139 y139 z139 st139 hQ139
    subst l139 y139 z139
    obtain ⟨rfl, rfl, e139⟩ := hQ139
    have X139 : Stand p l e room_1 s m #[(.int p1), (.int p2), (.long q1), (.long q2)] below meth c T139 [] 0 0 := X139
    obtain ⟨cq140, kq140, q140a, q140b, q140c⟩ := isOf hZ e139 E_GT
    obtain ⟨_, _, ⟨T140, L140, k140, n140⟩, -, X140, ⟨Lc140, hQ140, l140, y140, z140⟩, st140⟩ := X139.virtualBack hx (y := (⟨"com/example/probex/probex/symbolic/Relation", "test", "(JJ)Z"⟩ : MethodName)) (z := (⟨"com/example/probex/probex/symbolic/Relation", "test", "(JJ)Z"⟩ : MethodName)) hown (mvT hZ (hw _ (List.mem_of_getElem? (i := 24) rfl))) (mvT hZ (hw _ (List.mem_of_getElem? (i := 25) rfl))) (notFace_of_selects (args := #[]) (mvT hZ (hw _ (List.mem_of_getElem? (i := 27) rfl)))) (mvT hZ (hw _ (List.mem_of_getElem? (i := 27) rfl))) (mvT hZ (hw _ (List.mem_of_getElem? (i := 26) rfl))) (by decide) (backOf (W := 1)  (rmT l Z a0 hw [] w_GT (4 : Int32) q1 v136_L7 h0 E_GT O_GT (by decide)) hZ (hw _ (List.mem_of_getElem? (i := 28) rfl)) (hw _ (List.mem_of_getElem? (i := 6) rfl)) (by decide) (by decide)) q140a q140c (g := (mkF m 85 #[.val (.int p1), .val (.int p2), .val (.long q1), .second, .val (.long q2), .second, .val (.ref w_GT), .val (.long v136_L7), .second, .val (.int (p2 &&& (3 : Int32))), .val (.ref w_LE)] [(.long v136_L7), (.long q1), (.ref w_GT), (.int (tst (5 : Int32) q1 v136_L7))])) rfl (by rw [hml]; rfl) (Steps.refl _) (argsL := [(.long q1), (.long v136_L7)]) (rest := [(.int (tst (5 : Int32) q1 v136_L7))]) (lenOf pd__JJ_Z rfl) rfl (by show 2 * 0 + _ ≤ _; exact Nat.le_of_eq rfl) (hb hby at_85) (fun _ _ => ⟨rfl, e139, (by decide : 0 + 0 ≤ _), (by decide : 0 + 0 ≤ _)⟩)
    dsimp only [Pt.U, Pt.locs, Pt.cells, Pt.slots] at X140 l140 y140 z140 st140 hQ140
    subst l140 y140 z140
    obtain ⟨rfl, rfl, e140⟩ := hQ140
    have X140 : Stand p l e room_1 s m #[(.int p1), (.int p2), (.long q1), (.long q2)] below meth c T140 [] 0 0 := X140
    have P141 : ∀ t, Steps p.tables e below (T140.setTop (mkF m 96 #[.val (.int p1), .val (.int p2), .val (.long q1), .second, .val (.long q2), .second, .val (.ref w_GT), .val (.long v136_L7), .second, .val (.int (p2 &&& (3 : Int32))), .val (.ref w_LE)] [(.int (1 : Int32))])) t → Steps p.tables e below (s₁.setTop (entryFrame m #[(.int p1), (.int p2), (.long q1), (.long q2)] maxLocals)) t := fun t kt => P137 t (by
      show Steps p.tables e below (T134.setTop (mkF m 58 #[.val (.int p1), .val (.int p2), .val (.long q1), .second, .val (.long q2), .second, .val (.ref w_GT), .val (.long v136_L7), .second, .val (.int (p2 &&& (3 : Int32))), .unset] [])) _
      refine XS.aload X134.here hx rfl (hb hby at_58) rfl rfl ?_
      show Steps p.tables e below (T134.setTop (mkF m 60 #[.val (.int p1), .val (.int p2), .val (.long q1), .second, .val (.long q2), .second, .val (.ref w_GT), .val (.long v136_L7), .second, .val (.int (p2 &&& (3 : Int32))), .unset] [(.ref w_GT)])) _
      refine st138.trans ?_
      show Steps p.tables e below (T138.setTop (mkF m 63 #[.val (.int p1), .val (.int p2), .val (.long q1), .second, .val (.long q2), .second, .val (.ref w_GT), .val (.long v136_L7), .second, .val (.int (p2 &&& (3 : Int32))), .unset] [(.ref w_LE)])) _
      refine XS.astore X138.here hx rfl (hb hby at_63) rfl rfl (l' := #[.val (.int p1), .val (.int p2), .val (.long q1), .second, .val (.long q2), .second, .val (.ref w_GT), .val (.long v136_L7), .second, .val (.int (p2 &&& (3 : Int32))), .val (.ref w_LE)]) rfl ?_
      show Steps p.tables e below (T138.setTop (mkF m 65 #[.val (.int p1), .val (.int p2), .val (.long q1), .second, .val (.long q2), .second, .val (.ref w_GT), .val (.long v136_L7), .second, .val (.int (p2 &&& (3 : Int32))), .val (.ref w_LE)] [])) _
      refine XS.aload X138.here hx rfl (hb hby at_65) rfl rfl ?_
      show Steps p.tables e below (T138.setTop (mkF m 67 #[.val (.int p1), .val (.int p2), .val (.long q1), .second, .val (.long q2), .second, .val (.ref w_GT), .val (.long v136_L7), .second, .val (.int (p2 &&& (3 : Int32))), .val (.ref w_LE)] [(.ref w_LE)])) _
      refine XS.ifnonnullYes X138.here hx rfl (pc0 := 67) (pc' := 72) rfl (hb hby at_67) rfl (by decide) (by decide) ?_
      show Steps p.tables e below (T138.setTop (mkF m 72 #[.val (.int p1), .val (.int p2), .val (.long q1), .second, .val (.long q2), .second, .val (.ref w_GT), .val (.long v136_L7), .second, .val (.int (p2 &&& (3 : Int32))), .val (.ref w_LE)] [])) _
      refine XS.aload X138.here hx rfl (hb hby at_72) rfl rfl ?_
      show Steps p.tables e below (T138.setTop (mkF m 74 #[.val (.int p1), .val (.int p2), .val (.long q1), .second, .val (.long q2), .second, .val (.ref w_GT), .val (.long v136_L7), .second, .val (.int (p2 &&& (3 : Int32))), .val (.ref w_LE)] [(.ref w_LE)])) _
      refine XS.lloadN X138.here hx rfl (hb hby at_74) rfl ?_
      show Steps p.tables e below (T138.setTop (mkF m 75 #[.val (.int p1), .val (.int p2), .val (.long q1), .second, .val (.long q2), .second, .val (.ref w_GT), .val (.long v136_L7), .second, .val (.int (p2 &&& (3 : Int32))), .val (.ref w_LE)] [(.long q1), (.ref w_LE)])) _
      refine XS.lload X138.here hx rfl (hb hby at_75) rfl ?_
      show Steps p.tables e below (T138.setTop (mkF m 77 #[.val (.int p1), .val (.int p2), .val (.long q1), .second, .val (.long q2), .second, .val (.ref w_GT), .val (.long v136_L7), .second, .val (.int (p2 &&& (3 : Int32))), .val (.ref w_LE)] [(.long v136_L7), (.long q1), (.ref w_LE)])) _
      refine st139.trans ?_
      show Steps p.tables e below (T139.setTop (mkF m 80 #[.val (.int p1), .val (.int p2), .val (.long q1), .second, .val (.long q2), .second, .val (.ref w_GT), .val (.long v136_L7), .second, .val (.int (p2 &&& (3 : Int32))), .val (.ref w_LE)] [(.int (tst (5 : Int32) q1 v136_L7))])) _
      refine XS.aload X139.here hx rfl (hb hby at_80) rfl rfl ?_
      show Steps p.tables e below (T139.setTop (mkF m 82 #[.val (.int p1), .val (.int p2), .val (.long q1), .second, .val (.long q2), .second, .val (.ref w_GT), .val (.long v136_L7), .second, .val (.int (p2 &&& (3 : Int32))), .val (.ref w_LE)] [(.ref w_GT), (.int (tst (5 : Int32) q1 v136_L7))])) _
      refine XS.lloadN X139.here hx rfl (hb hby at_82) rfl ?_
      show Steps p.tables e below (T139.setTop (mkF m 83 #[.val (.int p1), .val (.int p2), .val (.long q1), .second, .val (.long q2), .second, .val (.ref w_GT), .val (.long v136_L7), .second, .val (.int (p2 &&& (3 : Int32))), .val (.ref w_LE)] [(.long q1), (.ref w_GT), (.int (tst (5 : Int32) q1 v136_L7))])) _
      refine XS.lload X139.here hx rfl (hb hby at_83) rfl ?_
      show Steps p.tables e below (T139.setTop (mkF m 85 #[.val (.int p1), .val (.int p2), .val (.long q1), .second, .val (.long q2), .second, .val (.ref w_GT), .val (.long v136_L7), .second, .val (.int (p2 &&& (3 : Int32))), .val (.ref w_LE)] [(.long v136_L7), (.long q1), (.ref w_GT), (.int (tst (5 : Int32) q1 v136_L7))])) _
      refine st140.trans ?_
      show Steps p.tables e below (T140.setTop (mkF m 88 #[.val (.int p1), .val (.int p2), .val (.long q1), .second, .val (.long q2), .second, .val (.ref w_GT), .val (.long v136_L7), .second, .val (.int (p2 &&& (3 : Int32))), .val (.ref w_LE)] [(.int (tst (4 : Int32) q1 v136_L7)), (.int (tst (5 : Int32) q1 v136_L7))])) _
      refine XS.icmpNo X140.here hx rfl (hb hby at_88) rfl (feq (own_n4 _ _ : ¬ ((tst (5 : Int32) q1 v136_L7) = (tst (4 : Int32) q1 v136_L7)))).1 ?_
      show Steps p.tables e below (T140.setTop (mkF m 91 #[.val (.int p1), .val (.int p2), .val (.long q1), .second, .val (.long q2), .second, .val (.ref w_GT), .val (.long v136_L7), .second, .val (.int (p2 &&& (3 : Int32))), .val (.ref w_LE)] [])) _
      refine XS.iconst X140.here hx rfl (hb hby at_91) ?_
      show Steps p.tables e below (T140.setTop (mkF m 92 #[.val (.int p1), .val (.int p2), .val (.long q1), .second, .val (.long q2), .second, .val (.ref w_GT), .val (.long v136_L7), .second, .val (.int (p2 &&& (3 : Int32))), .val (.ref w_LE)] [(.int (1 : Int32))])) _
      refine XS.goto X140.here hx rfl (pc0 := 92) (pc' := 96) rfl (hb hby at_92) (by decide) (by decide) ?_
      exact kt)
    obtain ⟨fs, hr, hrun, hended, hW, hsame⟩ := X140.leave (v := some (.int (1 : Int32))) (fun h => by rw [Bd.returns] at h; cases h) (hlocks := hlk)
    refine ⟨_, _, P141 _ ?_, hrun, hended, _, _, rfl, ?_, ⟨_, rfl⟩, hW, hsame.mono (by decide) (by decide)⟩
    · show Steps p.tables e below (T140.setTop (mkF m 96 #[.val (.int p1), .val (.int p2), .val (.long q1), .second, .val (.long q2), .second, .val (.ref w_GT), .val (.long v136_L7), .second, .val (.int (p2 &&& (3 : Int32))), .val (.ref w_LE)] [(.int (1 : Int32))])) _
      exact retN X140 hx (t := .boolean) Bd.returns (by simp) (hb hby at_96) hr
    · show QP _ h0 _ T140.heap _
      exact ⟨rfl, rfl, e140⟩
  · obtain ⟨_, _, ⟨T142, L142, k142, n142⟩, -, X142, ⟨Lc142, hQ142, l142, y142, z142⟩, st142⟩ := Jvm.LawKit.callS X0 hx (y := (⟨"com/example/probex/probex/symbolic/RelationNegatePinLaw", "pick", "(I)Lcom/example/probex/probex/symbolic/Relation;"⟩ : MethodName)) hown (mvT hZ (hw _ (List.mem_of_getElem? (i := 1) rfl))) (mvT hZ (hw _ (List.mem_of_getElem? (i := 2) rfl))) (mvT hZ (hw _ (List.mem_of_getElem? (i := 3) rfl))) (mvT hZ (hw _ (List.mem_of_getElem? (i := 4) rfl))) (by decide) (backOf (W := 0)  (rmK l Z a0 hw [] (5 : Int32) w_EQ w_NE w_LT w_GE w_GT w_LE w_LE h0 S_EQ S_NE S_LT S_GE S_GT S_LE rfl) hZ (hw _ (List.mem_of_getElem? (i := 4) rfl)) (hw _ (List.mem_of_getElem? (i := 3) rfl)) (by decide) (by decide)) (g := (mkF m 7 #[.val (.int p1), .val (.int p2), .val (.long q1), .second, .val (.long q2), .second, .unset, .unset, .unset, .unset, .unset] [(.int (5 : Int32))])) rfl (by rw [hml]; rfl) (argsL := [(.int (5 : Int32))]) (rest := []) (lenOf pd__I_Lcom_example_probex_probex_symbolic_Relation_ rfl) rfl (by show 2 * 0 + _ ≤ _; exact Nat.le_of_eq rfl) (hb hby at_7) (fun _ _ => ⟨rfl, e0, (by decide : 0 + 0 ≤ _), (by decide : 0 + 0 ≤ _)⟩)
    dsimp only [Pt.U, Pt.locs, Pt.cells, Pt.slots] at X142 l142 y142 z142 st142 hQ142
    subst l142 y142 z142
    obtain ⟨rfl, rfl, e142⟩ := hQ142
    have X142 : Stand p l e room_1 s m #[(.int p1), (.int p2), (.long q1), (.long q2)] below meth c T142 [] 0 0 := X142
    have P143 : ∀ t, Steps p.tables e below (T142.setTop (mkF m 24 #[.val (.int p1), .val (.int p2), .val (.long q1), .second, .val (.long q2), .second, .val (.ref w_LE), .val (.long q2), .second, .val (.int (p2 &&& (3 : Int32))), .unset] [(.int (1 : Int32)), (.int (p2 &&& (3 : Int32)))])) t → Steps p.tables e below (s₁.setTop (entryFrame m #[(.int p1), (.int p2), (.long q1), (.long q2)] maxLocals)) t := fun t kt => P101 t (by
      show Steps p.tables e below (s₁.setTop (mkF m 7 #[.val (.int p1), .val (.int p2), .val (.long q1), .second, .val (.long q2), .second, .unset, .unset, .unset, .unset, .unset] [(.int (5 : Int32))])) _
      refine st142 _ ?_
      show Steps p.tables e below (T142.setTop (mkF m 10 #[.val (.int p1), .val (.int p2), .val (.long q1), .second, .val (.long q2), .second, .unset, .unset, .unset, .unset, .unset] [(.ref w_LE)])) _
      refine XS.astore X142.here hx rfl (hb hby at_10) rfl rfl (l' := #[.val (.int p1), .val (.int p2), .val (.long q1), .second, .val (.long q2), .second, .val (.ref w_LE), .unset, .unset, .unset, .unset]) rfl ?_
      show Steps p.tables e below (T142.setTop (mkF m 12 #[.val (.int p1), .val (.int p2), .val (.long q1), .second, .val (.long q2), .second, .val (.ref w_LE), .unset, .unset, .unset, .unset] [])) _
      refine XS.lload X142.here hx rfl (hb hby at_12) rfl ?_
      show Steps p.tables e below (T142.setTop (mkF m 14 #[.val (.int p1), .val (.int p2), .val (.long q1), .second, .val (.long q2), .second, .val (.ref w_LE), .unset, .unset, .unset, .unset] [(.long q2)])) _
      refine XS.lstore X142.here hx rfl (hb hby at_14) rfl (l' := #[.val (.int p1), .val (.int p2), .val (.long q1), .second, .val (.long q2), .second, .val (.ref w_LE), .val (.long q2), .second, .unset, .unset]) rfl ?_
      show Steps p.tables e below (T142.setTop (mkF m 16 #[.val (.int p1), .val (.int p2), .val (.long q1), .second, .val (.long q2), .second, .val (.ref w_LE), .val (.long q2), .second, .unset, .unset] [])) _
      refine XS.iloadN X142.here hx rfl (hb hby at_16) rfl ?_
      show Steps p.tables e below (T142.setTop (mkF m 17 #[.val (.int p1), .val (.int p2), .val (.long q1), .second, .val (.long q2), .second, .val (.ref w_LE), .val (.long q2), .second, .unset, .unset] [(.int p2)])) _
      refine XS.iconst X142.here hx rfl (hb hby at_17) ?_
      show Steps p.tables e below (T142.setTop (mkF m 18 #[.val (.int p1), .val (.int p2), .val (.long q1), .second, .val (.long q2), .second, .val (.ref w_LE), .val (.long q2), .second, .unset, .unset] [(.int (3 : Int32)), (.int p2)])) _
      refine XS.iand X142.here hx rfl (hb hby at_18) rfl ?_
      show Steps p.tables e below (T142.setTop (mkF m 19 #[.val (.int p1), .val (.int p2), .val (.long q1), .second, .val (.long q2), .second, .val (.ref w_LE), .val (.long q2), .second, .unset, .unset] [(.int (p2 &&& (3 : Int32)))])) _
      refine XS.istore X142.here hx rfl (hb hby at_19) rfl (l' := #[.val (.int p1), .val (.int p2), .val (.long q1), .second, .val (.long q2), .second, .val (.ref w_LE), .val (.long q2), .second, .val (.int (p2 &&& (3 : Int32))), .unset]) rfl ?_
      show Steps p.tables e below (T142.setTop (mkF m 21 #[.val (.int p1), .val (.int p2), .val (.long q1), .second, .val (.long q2), .second, .val (.ref w_LE), .val (.long q2), .second, .val (.int (p2 &&& (3 : Int32))), .unset] [])) _
      refine XS.iload X142.here hx rfl (hb hby at_21) rfl ?_
      show Steps p.tables e below (T142.setTop (mkF m 23 #[.val (.int p1), .val (.int p2), .val (.long q1), .second, .val (.long q2), .second, .val (.ref w_LE), .val (.long q2), .second, .val (.int (p2 &&& (3 : Int32))), .unset] [(.int (p2 &&& (3 : Int32)))])) _
      refine XS.iconst X142.here hx rfl (hb hby at_23) ?_
      exact kt)
    obtain ⟨v144_L7, hv144_L7⟩ : ∃ z : Int64, z = (if (p2 &&& (3 : Int32)) = (1 : Int32) then q1 else (if (p2 &&& (3 : Int32)) = (2 : Int32) then (q1 + (1 : Int64)) else (if (p2 &&& (3 : Int32)) = (3 : Int32) then (q1 - (1 : Int64)) else q2))) := ⟨_, rfl⟩
    have J144 : ∀ t, Steps p.tables e below (T142.setTop (mkF m 58 #[.val (.int p1), .val (.int p2), .val (.long q1), .second, .val (.long q2), .second, .val (.ref w_LE), .val (.long v144_L7), .second, .val (.int (p2 &&& (3 : Int32))), .unset] [])) t → Steps p.tables e below (T142.setTop (mkF m 24 #[.val (.int p1), .val (.int p2), .val (.long q1), .second, .val (.long q2), .second, .val (.ref w_LE), .val (.long q2), .second, .val (.int (p2 &&& (3 : Int32))), .unset] [(.int (1 : Int32)), (.int (p2 &&& (3 : Int32)))])) t := by
      intro t kt
      by_cases hr144_24_0 : (p2 &&& (3 : Int32)) = (1 : Int32)
      · have evv144_L7 : v144_L7 = q1 := by rw [hv144_L7, if_pos hr144_24_0]
        rw [evv144_L7] at kt
        show Steps p.tables e below (T142.setTop (mkF m 24 #[.val (.int p1), .val (.int p2), .val (.long q1), .second, .val (.long q2), .second, .val (.ref w_LE), .val (.long q2), .second, .val (.int (p2 &&& (3 : Int32))), .unset] [(.int (1 : Int32)), (.int (p2 &&& (3 : Int32)))])) _
        refine XS.icmpNo X142.here hx rfl (hb hby at_24) rfl (teq hr144_24_0).2 ?_
        show Steps p.tables e below (T142.setTop (mkF m 27 #[.val (.int p1), .val (.int p2), .val (.long q1), .second, .val (.long q2), .second, .val (.ref w_LE), .val (.long q2), .second, .val (.int (p2 &&& (3 : Int32))), .unset] [])) _
        refine XS.lloadN X142.here hx rfl (hb hby at_27) rfl ?_
        show Steps p.tables e below (T142.setTop (mkF m 28 #[.val (.int p1), .val (.int p2), .val (.long q1), .second, .val (.long q2), .second, .val (.ref w_LE), .val (.long q2), .second, .val (.int (p2 &&& (3 : Int32))), .unset] [(.long q1)])) _
        refine XS.lstore X142.here hx rfl (hb hby at_28) rfl (l' := #[.val (.int p1), .val (.int p2), .val (.long q1), .second, .val (.long q2), .second, .val (.ref w_LE), .val (.long q1), .second, .val (.int (p2 &&& (3 : Int32))), .unset]) rfl ?_
        show Steps p.tables e below (T142.setTop (mkF m 30 #[.val (.int p1), .val (.int p2), .val (.long q1), .second, .val (.long q2), .second, .val (.ref w_LE), .val (.long q1), .second, .val (.int (p2 &&& (3 : Int32))), .unset] [])) _
        refine XS.goto X142.here hx rfl (pc0 := 30) (pc' := 58) rfl (hb hby at_30) (by decide) (by decide) ?_
        exact kt
      · show Steps p.tables e below (T142.setTop (mkF m 24 #[.val (.int p1), .val (.int p2), .val (.long q1), .second, .val (.long q2), .second, .val (.ref w_LE), .val (.long q2), .second, .val (.int (p2 &&& (3 : Int32))), .unset] [(.int (1 : Int32)), (.int (p2 &&& (3 : Int32)))])) _
        refine XS.icmpYes X142.here hx rfl (pc0 := 24) (pc' := 33) rfl (hb hby at_24) rfl (feq hr144_24_0).2 (by decide) (by decide) ?_
        show Steps p.tables e below (T142.setTop (mkF m 33 #[.val (.int p1), .val (.int p2), .val (.long q1), .second, .val (.long q2), .second, .val (.ref w_LE), .val (.long q2), .second, .val (.int (p2 &&& (3 : Int32))), .unset] [])) _
        refine XS.iload X142.here hx rfl (hb hby at_33) rfl ?_
        show Steps p.tables e below (T142.setTop (mkF m 35 #[.val (.int p1), .val (.int p2), .val (.long q1), .second, .val (.long q2), .second, .val (.ref w_LE), .val (.long q2), .second, .val (.int (p2 &&& (3 : Int32))), .unset] [(.int (p2 &&& (3 : Int32)))])) _
        refine XS.iconst X142.here hx rfl (hb hby at_35) ?_
        by_cases hr144_36_1 : (p2 &&& (3 : Int32)) = (2 : Int32)
        · have evv144_L7 : v144_L7 = (q1 + (1 : Int64)) := by rw [hv144_L7, if_neg hr144_24_0, if_pos hr144_36_1]
          rw [evv144_L7] at kt
          show Steps p.tables e below (T142.setTop (mkF m 36 #[.val (.int p1), .val (.int p2), .val (.long q1), .second, .val (.long q2), .second, .val (.ref w_LE), .val (.long q2), .second, .val (.int (p2 &&& (3 : Int32))), .unset] [(.int (2 : Int32)), (.int (p2 &&& (3 : Int32)))])) _
          refine XS.icmpNo X142.here hx rfl (hb hby at_36) rfl (teq hr144_36_1).2 ?_
          show Steps p.tables e below (T142.setTop (mkF m 39 #[.val (.int p1), .val (.int p2), .val (.long q1), .second, .val (.long q2), .second, .val (.ref w_LE), .val (.long q2), .second, .val (.int (p2 &&& (3 : Int32))), .unset] [])) _
          refine XS.lloadN X142.here hx rfl (hb hby at_39) rfl ?_
          show Steps p.tables e below (T142.setTop (mkF m 40 #[.val (.int p1), .val (.int p2), .val (.long q1), .second, .val (.long q2), .second, .val (.ref w_LE), .val (.long q2), .second, .val (.int (p2 &&& (3 : Int32))), .unset] [(.long q1)])) _
          refine XS.lconst X142.here hx rfl (hb hby at_40) ?_
          show Steps p.tables e below (T142.setTop (mkF m 41 #[.val (.int p1), .val (.int p2), .val (.long q1), .second, .val (.long q2), .second, .val (.ref w_LE), .val (.long q2), .second, .val (.int (p2 &&& (3 : Int32))), .unset] [(.long (1 : Int64)), (.long q1)])) _
          refine XS.ladd X142.here hx rfl (hb hby at_41) rfl ?_
          show Steps p.tables e below (T142.setTop (mkF m 42 #[.val (.int p1), .val (.int p2), .val (.long q1), .second, .val (.long q2), .second, .val (.ref w_LE), .val (.long q2), .second, .val (.int (p2 &&& (3 : Int32))), .unset] [(.long (q1 + (1 : Int64)))])) _
          refine XS.lstore X142.here hx rfl (hb hby at_42) rfl (l' := #[.val (.int p1), .val (.int p2), .val (.long q1), .second, .val (.long q2), .second, .val (.ref w_LE), .val (.long (q1 + (1 : Int64))), .second, .val (.int (p2 &&& (3 : Int32))), .unset]) rfl ?_
          show Steps p.tables e below (T142.setTop (mkF m 44 #[.val (.int p1), .val (.int p2), .val (.long q1), .second, .val (.long q2), .second, .val (.ref w_LE), .val (.long (q1 + (1 : Int64))), .second, .val (.int (p2 &&& (3 : Int32))), .unset] [])) _
          refine XS.goto X142.here hx rfl (pc0 := 44) (pc' := 58) rfl (hb hby at_44) (by decide) (by decide) ?_
          exact kt
        · show Steps p.tables e below (T142.setTop (mkF m 36 #[.val (.int p1), .val (.int p2), .val (.long q1), .second, .val (.long q2), .second, .val (.ref w_LE), .val (.long q2), .second, .val (.int (p2 &&& (3 : Int32))), .unset] [(.int (2 : Int32)), (.int (p2 &&& (3 : Int32)))])) _
          refine XS.icmpYes X142.here hx rfl (pc0 := 36) (pc' := 47) rfl (hb hby at_36) rfl (feq hr144_36_1).2 (by decide) (by decide) ?_
          show Steps p.tables e below (T142.setTop (mkF m 47 #[.val (.int p1), .val (.int p2), .val (.long q1), .second, .val (.long q2), .second, .val (.ref w_LE), .val (.long q2), .second, .val (.int (p2 &&& (3 : Int32))), .unset] [])) _
          refine XS.iload X142.here hx rfl (hb hby at_47) rfl ?_
          show Steps p.tables e below (T142.setTop (mkF m 49 #[.val (.int p1), .val (.int p2), .val (.long q1), .second, .val (.long q2), .second, .val (.ref w_LE), .val (.long q2), .second, .val (.int (p2 &&& (3 : Int32))), .unset] [(.int (p2 &&& (3 : Int32)))])) _
          refine XS.iconst X142.here hx rfl (hb hby at_49) ?_
          by_cases hr144_50_2 : (p2 &&& (3 : Int32)) = (3 : Int32)
          · have evv144_L7 : v144_L7 = (q1 - (1 : Int64)) := by rw [hv144_L7, if_neg hr144_24_0, if_neg hr144_36_1, if_pos hr144_50_2]
            rw [evv144_L7] at kt
            show Steps p.tables e below (T142.setTop (mkF m 50 #[.val (.int p1), .val (.int p2), .val (.long q1), .second, .val (.long q2), .second, .val (.ref w_LE), .val (.long q2), .second, .val (.int (p2 &&& (3 : Int32))), .unset] [(.int (3 : Int32)), (.int (p2 &&& (3 : Int32)))])) _
            refine XS.icmpNo X142.here hx rfl (hb hby at_50) rfl (teq hr144_50_2).2 ?_
            show Steps p.tables e below (T142.setTop (mkF m 53 #[.val (.int p1), .val (.int p2), .val (.long q1), .second, .val (.long q2), .second, .val (.ref w_LE), .val (.long q2), .second, .val (.int (p2 &&& (3 : Int32))), .unset] [])) _
            refine XS.lloadN X142.here hx rfl (hb hby at_53) rfl ?_
            show Steps p.tables e below (T142.setTop (mkF m 54 #[.val (.int p1), .val (.int p2), .val (.long q1), .second, .val (.long q2), .second, .val (.ref w_LE), .val (.long q2), .second, .val (.int (p2 &&& (3 : Int32))), .unset] [(.long q1)])) _
            refine XS.lconst X142.here hx rfl (hb hby at_54) ?_
            show Steps p.tables e below (T142.setTop (mkF m 55 #[.val (.int p1), .val (.int p2), .val (.long q1), .second, .val (.long q2), .second, .val (.ref w_LE), .val (.long q2), .second, .val (.int (p2 &&& (3 : Int32))), .unset] [(.long (1 : Int64)), (.long q1)])) _
            refine XS.lsub X142.here hx rfl (hb hby at_55) rfl ?_
            show Steps p.tables e below (T142.setTop (mkF m 56 #[.val (.int p1), .val (.int p2), .val (.long q1), .second, .val (.long q2), .second, .val (.ref w_LE), .val (.long q2), .second, .val (.int (p2 &&& (3 : Int32))), .unset] [(.long (q1 - (1 : Int64)))])) _
            refine XS.lstore X142.here hx rfl (hb hby at_56) rfl (l' := #[.val (.int p1), .val (.int p2), .val (.long q1), .second, .val (.long q2), .second, .val (.ref w_LE), .val (.long (q1 - (1 : Int64))), .second, .val (.int (p2 &&& (3 : Int32))), .unset]) rfl ?_
            exact kt
          · have evv144_L7 : v144_L7 = q2 := by rw [hv144_L7, if_neg hr144_24_0, if_neg hr144_36_1, if_neg hr144_50_2]
            rw [evv144_L7] at kt
            show Steps p.tables e below (T142.setTop (mkF m 50 #[.val (.int p1), .val (.int p2), .val (.long q1), .second, .val (.long q2), .second, .val (.ref w_LE), .val (.long q2), .second, .val (.int (p2 &&& (3 : Int32))), .unset] [(.int (3 : Int32)), (.int (p2 &&& (3 : Int32)))])) _
            refine XS.icmpYes X142.here hx rfl (pc0 := 50) (pc' := 58) rfl (hb hby at_50) rfl (feq hr144_50_2).2 (by decide) (by decide) ?_
            exact kt
    have P145 : ∀ t, Steps p.tables e below (T142.setTop (mkF m 58 #[.val (.int p1), .val (.int p2), .val (.long q1), .second, .val (.long q2), .second, .val (.ref w_LE), .val (.long v144_L7), .second, .val (.int (p2 &&& (3 : Int32))), .unset] [])) t → Steps p.tables e below (s₁.setTop (entryFrame m #[(.int p1), (.int p2), (.long q1), (.long q2)] maxLocals)) t := fun t kt => P143 t (J144 t kt)
    obtain ⟨cq146, kq146, q146a, q146b, q146c⟩ := isOf hZ e142 E_LE
    obtain ⟨_, _, ⟨T146, L146, k146, n146⟩, -, X146, ⟨Lc146, hQ146, l146, y146, z146⟩, st146⟩ := X142.virtualBack hx (y := (⟨"com/example/probex/probex/symbolic/Relation", "negate", "()Lcom/example/probex/probex/symbolic/Relation;"⟩ : MethodName)) (z := (⟨"com/example/probex/probex/symbolic/Relation", "negate", "()Lcom/example/probex/probex/symbolic/Relation;"⟩ : MethodName)) hown (mvT hZ (hw _ (List.mem_of_getElem? (i := 8) rfl))) (mvT hZ (hw _ (List.mem_of_getElem? (i := 9) rfl))) (notFace_of_selects (args := #[]) (mvT hZ (hw _ (List.mem_of_getElem? (i := 11) rfl)))) (mvT hZ (hw _ (List.mem_of_getElem? (i := 11) rfl))) (mvT hZ (hw _ (List.mem_of_getElem? (i := 10) rfl))) (by decide) (backOf (W := 0)  (rmG l Z a0 hw [] w_LE (5 : Int32) w_EQ w_NE w_LT w_GE w_GT w_LE w_GT h0 S_EQ S_NE S_LT S_GE S_GT S_LE E_LE O_LE (by decide) rfl) hZ (hw _ (List.mem_of_getElem? (i := 12) rfl)) (hw _ (List.mem_of_getElem? (i := 6) rfl)) (by decide) (by decide)) q146a q146c (g := (mkF m 60 #[.val (.int p1), .val (.int p2), .val (.long q1), .second, .val (.long q2), .second, .val (.ref w_LE), .val (.long v144_L7), .second, .val (.int (p2 &&& (3 : Int32))), .unset] [(.ref w_LE)])) rfl (by rw [hml]; rfl) (Steps.refl _) (argsL := []) (rest := []) (lenOf pd___Lcom_example_probex_probex_symbolic_Relation_ rfl) rfl (by show 2 * 0 + _ ≤ _; exact Nat.le_of_eq rfl) (hb hby at_60) (fun _ _ => ⟨rfl, e142, (by decide : 0 + 0 ≤ _), (by decide : 0 + 0 ≤ _)⟩)
    dsimp only [Pt.U, Pt.locs, Pt.cells, Pt.slots] at X146 l146 y146 z146 st146 hQ146
    subst l146 y146 z146
    obtain ⟨rfl, rfl, e146⟩ := hQ146
    have X146 : Stand p l e room_1 s m #[(.int p1), (.int p2), (.long q1), (.long q2)] below meth c T146 [] 0 0 := X146
    obtain ⟨cq147, kq147, q147a, q147b, q147c⟩ := isOf hZ e146 E_GT
    obtain ⟨_, _, ⟨T147, L147, k147, n147⟩, -, X147, ⟨Lc147, hQ147, l147, y147, z147⟩, st147⟩ := X146.virtualBack hx (y := (⟨"com/example/probex/probex/symbolic/Relation", "test", "(JJ)Z"⟩ : MethodName)) (z := (⟨"com/example/probex/probex/symbolic/Relation", "test", "(JJ)Z"⟩ : MethodName)) hown (mvT hZ (hw _ (List.mem_of_getElem? (i := 24) rfl))) (mvT hZ (hw _ (List.mem_of_getElem? (i := 25) rfl))) (notFace_of_selects (args := #[]) (mvT hZ (hw _ (List.mem_of_getElem? (i := 27) rfl)))) (mvT hZ (hw _ (List.mem_of_getElem? (i := 27) rfl))) (mvT hZ (hw _ (List.mem_of_getElem? (i := 26) rfl))) (by decide) (backOf (W := 0)  (rmT l Z a0 hw [] w_GT (4 : Int32) q1 v144_L7 h0 E_GT O_GT (by decide)) hZ (hw _ (List.mem_of_getElem? (i := 28) rfl)) (hw _ (List.mem_of_getElem? (i := 6) rfl)) (by decide) (by decide)) q147a q147c (g := (mkF m 77 #[.val (.int p1), .val (.int p2), .val (.long q1), .second, .val (.long q2), .second, .val (.ref w_LE), .val (.long v144_L7), .second, .val (.int (p2 &&& (3 : Int32))), .val (.ref w_GT)] [(.long v144_L7), (.long q1), (.ref w_GT)])) rfl (by rw [hml]; rfl) (Steps.refl _) (argsL := [(.long q1), (.long v144_L7)]) (rest := []) (lenOf pd__JJ_Z rfl) rfl (by show 2 * 0 + _ ≤ _; exact Nat.le_of_eq rfl) (hb hby at_77) (fun _ _ => ⟨rfl, e146, (by decide : 0 + 0 ≤ _), (by decide : 0 + 0 ≤ _)⟩)
    dsimp only [Pt.U, Pt.locs, Pt.cells, Pt.slots] at X147 l147 y147 z147 st147 hQ147
    subst l147 y147 z147
    obtain ⟨rfl, rfl, e147⟩ := hQ147
    have X147 : Stand p l e room_1 s m #[(.int p1), (.int p2), (.long q1), (.long q2)] below meth c T147 [] 0 0 := X147
    obtain ⟨cq148, kq148, q148a, q148b, q148c⟩ := isOf hZ e147 E_LE
    obtain ⟨_, _, ⟨T148, L148, k148, n148⟩, -, X148, ⟨Lc148, hQ148, l148, y148, z148⟩, st148⟩ := X147.virtualBack hx (y := (⟨"com/example/probex/probex/symbolic/Relation", "test", "(JJ)Z"⟩ : MethodName)) (z := (⟨"com/example/probex/probex/symbolic/Relation", "test", "(JJ)Z"⟩ : MethodName)) hown (mvT hZ (hw _ (List.mem_of_getElem? (i := 24) rfl))) (mvT hZ (hw _ (List.mem_of_getElem? (i := 25) rfl))) (notFace_of_selects (args := #[]) (mvT hZ (hw _ (List.mem_of_getElem? (i := 27) rfl)))) (mvT hZ (hw _ (List.mem_of_getElem? (i := 27) rfl))) (mvT hZ (hw _ (List.mem_of_getElem? (i := 26) rfl))) (by decide) (backOf (W := 1)  (rmT l Z a0 hw [] w_LE (5 : Int32) q1 v144_L7 h0 E_LE O_LE (by decide)) hZ (hw _ (List.mem_of_getElem? (i := 28) rfl)) (hw _ (List.mem_of_getElem? (i := 6) rfl)) (by decide) (by decide)) q148a q148c (g := (mkF m 85 #[.val (.int p1), .val (.int p2), .val (.long q1), .second, .val (.long q2), .second, .val (.ref w_LE), .val (.long v144_L7), .second, .val (.int (p2 &&& (3 : Int32))), .val (.ref w_GT)] [(.long v144_L7), (.long q1), (.ref w_LE), (.int (tst (4 : Int32) q1 v144_L7))])) rfl (by rw [hml]; rfl) (Steps.refl _) (argsL := [(.long q1), (.long v144_L7)]) (rest := [(.int (tst (4 : Int32) q1 v144_L7))]) (lenOf pd__JJ_Z rfl) rfl (by show 2 * 0 + _ ≤ _; exact Nat.le_of_eq rfl) (hb hby at_85) (fun _ _ => ⟨rfl, e147, (by decide : 0 + 0 ≤ _), (by decide : 0 + 0 ≤ _)⟩)
    dsimp only [Pt.U, Pt.locs, Pt.cells, Pt.slots] at X148 l148 y148 z148 st148 hQ148
    subst l148 y148 z148
    obtain ⟨rfl, rfl, e148⟩ := hQ148
    have X148 : Stand p l e room_1 s m #[(.int p1), (.int p2), (.long q1), (.long q2)] below meth c T148 [] 0 0 := X148
    have P149 : ∀ t, Steps p.tables e below (T148.setTop (mkF m 96 #[.val (.int p1), .val (.int p2), .val (.long q1), .second, .val (.long q2), .second, .val (.ref w_LE), .val (.long v144_L7), .second, .val (.int (p2 &&& (3 : Int32))), .val (.ref w_GT)] [(.int (1 : Int32))])) t → Steps p.tables e below (s₁.setTop (entryFrame m #[(.int p1), (.int p2), (.long q1), (.long q2)] maxLocals)) t := fun t kt => P145 t (by
      show Steps p.tables e below (T142.setTop (mkF m 58 #[.val (.int p1), .val (.int p2), .val (.long q1), .second, .val (.long q2), .second, .val (.ref w_LE), .val (.long v144_L7), .second, .val (.int (p2 &&& (3 : Int32))), .unset] [])) _
      refine XS.aload X142.here hx rfl (hb hby at_58) rfl rfl ?_
      show Steps p.tables e below (T142.setTop (mkF m 60 #[.val (.int p1), .val (.int p2), .val (.long q1), .second, .val (.long q2), .second, .val (.ref w_LE), .val (.long v144_L7), .second, .val (.int (p2 &&& (3 : Int32))), .unset] [(.ref w_LE)])) _
      refine st146.trans ?_
      show Steps p.tables e below (T146.setTop (mkF m 63 #[.val (.int p1), .val (.int p2), .val (.long q1), .second, .val (.long q2), .second, .val (.ref w_LE), .val (.long v144_L7), .second, .val (.int (p2 &&& (3 : Int32))), .unset] [(.ref w_GT)])) _
      refine XS.astore X146.here hx rfl (hb hby at_63) rfl rfl (l' := #[.val (.int p1), .val (.int p2), .val (.long q1), .second, .val (.long q2), .second, .val (.ref w_LE), .val (.long v144_L7), .second, .val (.int (p2 &&& (3 : Int32))), .val (.ref w_GT)]) rfl ?_
      show Steps p.tables e below (T146.setTop (mkF m 65 #[.val (.int p1), .val (.int p2), .val (.long q1), .second, .val (.long q2), .second, .val (.ref w_LE), .val (.long v144_L7), .second, .val (.int (p2 &&& (3 : Int32))), .val (.ref w_GT)] [])) _
      refine XS.aload X146.here hx rfl (hb hby at_65) rfl rfl ?_
      show Steps p.tables e below (T146.setTop (mkF m 67 #[.val (.int p1), .val (.int p2), .val (.long q1), .second, .val (.long q2), .second, .val (.ref w_LE), .val (.long v144_L7), .second, .val (.int (p2 &&& (3 : Int32))), .val (.ref w_GT)] [(.ref w_GT)])) _
      refine XS.ifnonnullYes X146.here hx rfl (pc0 := 67) (pc' := 72) rfl (hb hby at_67) rfl (by decide) (by decide) ?_
      show Steps p.tables e below (T146.setTop (mkF m 72 #[.val (.int p1), .val (.int p2), .val (.long q1), .second, .val (.long q2), .second, .val (.ref w_LE), .val (.long v144_L7), .second, .val (.int (p2 &&& (3 : Int32))), .val (.ref w_GT)] [])) _
      refine XS.aload X146.here hx rfl (hb hby at_72) rfl rfl ?_
      show Steps p.tables e below (T146.setTop (mkF m 74 #[.val (.int p1), .val (.int p2), .val (.long q1), .second, .val (.long q2), .second, .val (.ref w_LE), .val (.long v144_L7), .second, .val (.int (p2 &&& (3 : Int32))), .val (.ref w_GT)] [(.ref w_GT)])) _
      refine XS.lloadN X146.here hx rfl (hb hby at_74) rfl ?_
      show Steps p.tables e below (T146.setTop (mkF m 75 #[.val (.int p1), .val (.int p2), .val (.long q1), .second, .val (.long q2), .second, .val (.ref w_LE), .val (.long v144_L7), .second, .val (.int (p2 &&& (3 : Int32))), .val (.ref w_GT)] [(.long q1), (.ref w_GT)])) _
      refine XS.lload X146.here hx rfl (hb hby at_75) rfl ?_
      show Steps p.tables e below (T146.setTop (mkF m 77 #[.val (.int p1), .val (.int p2), .val (.long q1), .second, .val (.long q2), .second, .val (.ref w_LE), .val (.long v144_L7), .second, .val (.int (p2 &&& (3 : Int32))), .val (.ref w_GT)] [(.long v144_L7), (.long q1), (.ref w_GT)])) _
      refine st147.trans ?_
      show Steps p.tables e below (T147.setTop (mkF m 80 #[.val (.int p1), .val (.int p2), .val (.long q1), .second, .val (.long q2), .second, .val (.ref w_LE), .val (.long v144_L7), .second, .val (.int (p2 &&& (3 : Int32))), .val (.ref w_GT)] [(.int (tst (4 : Int32) q1 v144_L7))])) _
      refine XS.aload X147.here hx rfl (hb hby at_80) rfl rfl ?_
      show Steps p.tables e below (T147.setTop (mkF m 82 #[.val (.int p1), .val (.int p2), .val (.long q1), .second, .val (.long q2), .second, .val (.ref w_LE), .val (.long v144_L7), .second, .val (.int (p2 &&& (3 : Int32))), .val (.ref w_GT)] [(.ref w_LE), (.int (tst (4 : Int32) q1 v144_L7))])) _
      refine XS.lloadN X147.here hx rfl (hb hby at_82) rfl ?_
      show Steps p.tables e below (T147.setTop (mkF m 83 #[.val (.int p1), .val (.int p2), .val (.long q1), .second, .val (.long q2), .second, .val (.ref w_LE), .val (.long v144_L7), .second, .val (.int (p2 &&& (3 : Int32))), .val (.ref w_GT)] [(.long q1), (.ref w_LE), (.int (tst (4 : Int32) q1 v144_L7))])) _
      refine XS.lload X147.here hx rfl (hb hby at_83) rfl ?_
      show Steps p.tables e below (T147.setTop (mkF m 85 #[.val (.int p1), .val (.int p2), .val (.long q1), .second, .val (.long q2), .second, .val (.ref w_LE), .val (.long v144_L7), .second, .val (.int (p2 &&& (3 : Int32))), .val (.ref w_GT)] [(.long v144_L7), (.long q1), (.ref w_LE), (.int (tst (4 : Int32) q1 v144_L7))])) _
      refine st148.trans ?_
      show Steps p.tables e below (T148.setTop (mkF m 88 #[.val (.int p1), .val (.int p2), .val (.long q1), .second, .val (.long q2), .second, .val (.ref w_LE), .val (.long v144_L7), .second, .val (.int (p2 &&& (3 : Int32))), .val (.ref w_GT)] [(.int (tst (5 : Int32) q1 v144_L7)), (.int (tst (4 : Int32) q1 v144_L7))])) _
      refine XS.icmpNo X148.here hx rfl (hb hby at_88) rfl (feq (own_n5 _ _ : ¬ ((tst (4 : Int32) q1 v144_L7) = (tst (5 : Int32) q1 v144_L7)))).1 ?_
      show Steps p.tables e below (T148.setTop (mkF m 91 #[.val (.int p1), .val (.int p2), .val (.long q1), .second, .val (.long q2), .second, .val (.ref w_LE), .val (.long v144_L7), .second, .val (.int (p2 &&& (3 : Int32))), .val (.ref w_GT)] [])) _
      refine XS.iconst X148.here hx rfl (hb hby at_91) ?_
      show Steps p.tables e below (T148.setTop (mkF m 92 #[.val (.int p1), .val (.int p2), .val (.long q1), .second, .val (.long q2), .second, .val (.ref w_LE), .val (.long v144_L7), .second, .val (.int (p2 &&& (3 : Int32))), .val (.ref w_GT)] [(.int (1 : Int32))])) _
      refine XS.goto X148.here hx rfl (pc0 := 92) (pc' := 96) rfl (hb hby at_92) (by decide) (by decide) ?_
      exact kt)
    obtain ⟨fs, hr, hrun, hended, hW, hsame⟩ := X148.leave (v := some (.int (1 : Int32))) (fun h => by rw [Bd.returns] at h; cases h) (hlocks := hlk)
    refine ⟨_, _, P149 _ ?_, hrun, hended, _, _, rfl, ?_, ⟨_, rfl⟩, hW, hsame.mono (by decide) (by decide)⟩
    · show Steps p.tables e below (T148.setTop (mkF m 96 #[.val (.int p1), .val (.int p2), .val (.long q1), .second, .val (.long q2), .second, .val (.ref w_LE), .val (.long v144_L7), .second, .val (.int (p2 &&& (3 : Int32))), .val (.ref w_GT)] [(.int (1 : Int32))])) _
      exact retN X148 hx (t := .boolean) Bd.returns (by simp) (hb hby at_96) hr
    · show QP _ h0 _ T148.heap _
      exact ⟨rfl, rfl, e148⟩
set_option maxRecDepth 65536 in
set_option maxHeartbeats 40000000 in
theorem comes_1 {Post : Tables → Env → Array Value → State → Outcome → State → Prop} (hpost : ∀ tb e args s v u, (limb_1_1.after args s (.returned v) u = true ∧ limb_1_2.after args s (.returned v) u = true ∧ True) → FrameEnd s (.returned v) u (Jvm.fieldLocs frame_1_writes args s ++ Jvm.arrayLocs frame_1_arrays args s ++ Jvm.staticLocs frame_1_statics s) 0 0 → Post tb e args s (.returned v) u) :
    ArmFor flags0 classFile x code maxLocals ret World_1 tables_1 room_1 Calls_1 rest_1 Pre_1 Post := by
  intro l hfl _ _ p e ha hc hk s m args below hf hA hF happ hP
  obtain ⟨hcalls, hrest, hpre⟩ := hP
  obtain ⟨-, -, -, hnamed, -, -, -, hat⟩ := (Spec.applies_iff hf).mp happ
  obtain ⟨hg, hn⟩ := and_e (Cond.before_iff.mp (show (Jvm.Cond.and given_1 narrow_1).before args s = true from hpre))
  obtain ⟨g1, g2⟩ := and_e hg
  obtain ⟨g3, g4⟩ := and_e g2
  obtain ⟨g5, g6⟩ := and_e g4
  obtain ⟨g7, g8⟩ := and_e g6
  obtain ⟨w0, w1, w2, w3, rfl⟩ : ∃ w0 w1 w2 w3 : Value, args = #[w0, w1, w2, w3] := by
    have hs : args.size = 4 := by simpa [Cond.value, given_1] using g1
    obtain ⟨L⟩ := args
    match L, hs with
    | [w0, w1, w2, w3], _ => exact ⟨w0, w1, w2, w3, rfl⟩
  have hw := fun d (hd : d ∈ tables_1) => atoms_spec (ws := Jvm.Cond.code x code maxLocals ret :: tables_1) hat d (List.mem_cons_of_mem _ hd)
  obtain ⟨i0, ei0⟩ := is_v g3
  obtain rfl : w0 = (.int i0) := Option.some.inj ei0
  obtain ⟨i1, ei1⟩ := is_v g5
  obtain rfl : w1 = (.int i1) := Option.some.inj ei1
  obtain ⟨i2, ei2⟩ := isL_v g7
  obtain rfl : w2 = (.long i2) := Option.some.inj ei2
  obtain ⟨i3, ei3⟩ := isL_v g8
  obtain rfl : w3 = (.long i3) := Option.some.inj ei3
  obtain ⟨nn1, nn2⟩ := and_e hn
  obtain ⟨nn3, nn4⟩ := and_e nn2
  obtain ⟨nn5, nn6⟩ := and_e nn4
  obtain ⟨nn7, nn8⟩ := and_e nn6
  obtain ⟨nn9, nn10⟩ := and_e nn8
  obtain ⟨nn11, nn12⟩ := and_e nn10
  obtain ⟨nn13, nn14⟩ := and_e nn12
  obtain ⟨nn15, nn16⟩ := and_e nn14
  obtain ⟨nn17, nn18⟩ := and_e nn16
  obtain ⟨nn19, nn20⟩ := and_e nn18
  obtain ⟨nn21, nn22⟩ := and_e nn20
  obtain ⟨w_EQ, ev_EQ⟩ := exa_v nn1
  have S_EQ : Sta s s.heap "com/example/probex/probex/symbolic/Relation" "EQ" "Lcom/example/probex/probex/symbolic/Relation;" (.ref w_EQ) := Sta.start ev_EQ (Or.inr ⟨(hw _ (List.mem_of_getElem? (i := 6) rfl)), (hw _ (List.mem_of_getElem? (i := 7) rfl))⟩)
  have E_EQ : Exa s s.heap w_EQ "com/example/probex/probex/symbolic/Relation" := Exa.start ev_EQ nn1
  have ov_EQ : s.fieldOf? w_EQ "java/lang/Enum" "ordinal" "I" = some (.int (0 : Int32)) := (fld_at ev_EQ).symm.trans (own_eqv nn3)
  have O_EQ : Fld s s.heap w_EQ "java/lang/Enum" "ordinal" "I" (.int (0 : Int32)) := Fld.start ((fld_at ev_EQ).symm.trans (own_eqv nn3))
  obtain ⟨w_NE, ev_NE⟩ := exa_v nn5
  have S_NE : Sta s s.heap "com/example/probex/probex/symbolic/Relation" "NE" "Lcom/example/probex/probex/symbolic/Relation;" (.ref w_NE) := Sta.start ev_NE (Or.inr ⟨(hw _ (List.mem_of_getElem? (i := 6) rfl)), (hw _ (List.mem_of_getElem? (i := 23) rfl))⟩)
  have E_NE : Exa s s.heap w_NE "com/example/probex/probex/symbolic/Relation" := Exa.start ev_NE nn5
  have ov_NE : s.fieldOf? w_NE "java/lang/Enum" "ordinal" "I" = some (.int (1 : Int32)) := (fld_at ev_NE).symm.trans (own_eqv nn7)
  have O_NE : Fld s s.heap w_NE "java/lang/Enum" "ordinal" "I" (.int (1 : Int32)) := Fld.start ((fld_at ev_NE).symm.trans (own_eqv nn7))
  obtain ⟨w_LT, ev_LT⟩ := exa_v nn21
  have S_LT : Sta s s.heap "com/example/probex/probex/symbolic/Relation" "LT" "Lcom/example/probex/probex/symbolic/Relation;" (.ref w_LT) := Sta.start ev_LT (Or.inr ⟨(hw _ (List.mem_of_getElem? (i := 6) rfl)), (hw _ (List.mem_of_getElem? (i := 38) rfl))⟩)
  have E_LT : Exa s s.heap w_LT "com/example/probex/probex/symbolic/Relation" := Exa.start ev_LT nn21
  have ov_LT : s.fieldOf? w_LT "java/lang/Enum" "ordinal" "I" = some (.int (2 : Int32)) := (fld_at ev_LT).symm.trans (own_eqv nn22)
  have O_LT : Fld s s.heap w_LT "java/lang/Enum" "ordinal" "I" (.int (2 : Int32)) := Fld.start ((fld_at ev_LT).symm.trans (own_eqv nn22))
  obtain ⟨w_GE, ev_GE⟩ := exa_v nn17
  have S_GE : Sta s s.heap "com/example/probex/probex/symbolic/Relation" "GE" "Lcom/example/probex/probex/symbolic/Relation;" (.ref w_GE) := Sta.start ev_GE (Or.inr ⟨(hw _ (List.mem_of_getElem? (i := 6) rfl)), (hw _ (List.mem_of_getElem? (i := 36) rfl))⟩)
  have E_GE : Exa s s.heap w_GE "com/example/probex/probex/symbolic/Relation" := Exa.start ev_GE nn17
  have ov_GE : s.fieldOf? w_GE "java/lang/Enum" "ordinal" "I" = some (.int (3 : Int32)) := (fld_at ev_GE).symm.trans (own_eqv nn19)
  have O_GE : Fld s s.heap w_GE "java/lang/Enum" "ordinal" "I" (.int (3 : Int32)) := Fld.start ((fld_at ev_GE).symm.trans (own_eqv nn19))
  obtain ⟨w_GT, ev_GT⟩ := exa_v nn9
  have S_GT : Sta s s.heap "com/example/probex/probex/symbolic/Relation" "GT" "Lcom/example/probex/probex/symbolic/Relation;" (.ref w_GT) := Sta.start ev_GT (Or.inr ⟨(hw _ (List.mem_of_getElem? (i := 6) rfl)), (hw _ (List.mem_of_getElem? (i := 30) rfl))⟩)
  have E_GT : Exa s s.heap w_GT "com/example/probex/probex/symbolic/Relation" := Exa.start ev_GT nn9
  have ov_GT : s.fieldOf? w_GT "java/lang/Enum" "ordinal" "I" = some (.int (4 : Int32)) := (fld_at ev_GT).symm.trans (own_eqv nn11)
  have O_GT : Fld s s.heap w_GT "java/lang/Enum" "ordinal" "I" (.int (4 : Int32)) := Fld.start ((fld_at ev_GT).symm.trans (own_eqv nn11))
  obtain ⟨w_LE, ev_LE⟩ := exa_v nn13
  have S_LE : Sta s s.heap "com/example/probex/probex/symbolic/Relation" "LE" "Lcom/example/probex/probex/symbolic/Relation;" (.ref w_LE) := Sta.start ev_LE (Or.inr ⟨(hw _ (List.mem_of_getElem? (i := 6) rfl)), (hw _ (List.mem_of_getElem? (i := 32) rfl))⟩)
  have E_LE : Exa s s.heap w_LE "com/example/probex/probex/symbolic/Relation" := Exa.start ev_LE nn13
  have ov_LE : s.fieldOf? w_LE "java/lang/Enum" "ordinal" "I" = some (.int (5 : Int32)) := (fld_at ev_LE).symm.trans (own_eqv nn15)
  have O_LE : Fld s s.heap w_LE "java/lang/Enum" "ordinal" "I" (.int (5 : Int32)) := Fld.start ((fld_at ev_LE).symm.trans (own_eqv nn15))
  obtain ⟨n, o, h1, h2, h3, _, L, rfl, ⟨rfl, rfl, -⟩, hq⟩ := rm0 l s _ hw tables_1 i0 i1 i2 i3 w_EQ w_NE w_LT w_GE w_GT w_LE s.heap S_EQ S_NE S_LT S_GE S_GT S_LE E_EQ E_NE E_LT E_GE E_GT E_LE O_EQ O_NE O_LT O_GE O_GT O_LE  p e ha hc hk s m _ below hf ((Spec.applies_iff_loose hf).mp happ).1 ⟨rfl, State.Warmed39.refl s, rfl⟩ trivial
  refine ⟨n, _, h1, h2, h3, hpost _ _ _ _ _ _ ⟨Cond.after_iff.mpr rfl, Cond.after_iff.mpr (eq_i res_at (Term.int_eval (1)) rfl), trivial⟩ ⟨hq.1, hq.2.1, (hq.2.2.sift fun y hy => nomatch hy).mono (by decide) (by decide)⟩⟩
theorem main_1_1 : Claimed_1_1 := comes_1 fun _ _ _ _ _ _ h hF => ⟨h.1, hF⟩
theorem main_1_2 : Claimed_1_2 := comes_1 fun _ _ _ _ _ _ h hF => ⟨h.2.1, hF⟩
end Jvm.Pilot.@@N@@
namespace Jvm.Pilot.@@N@@
open Jvm Jvm.ClassFile Sem Op Lib Jvm.Free Jvm.Stand Jvm.Pilot.@@N@@.Jvm.D
/-! MADE BY PROGRAM (witnessworld.py) out of the Statement's table words and the real class files: 12 classes; the members and pool entries that the words name. The judged class is class 1, her method 2. -/
namespace start1
open Jvm.ClassFile
def u (s : String) : CpInfo := .utf8 (stringToUtf16 s)
/-- a pool by its gaps: so many unusable entries, then the entry; so many at the end -/
def gap : Nat → List CpInfo → List CpInfo
  | 0, r => r
  | n + 1, r => .unusable :: gap n r
def poolList (es : List (Nat × CpInfo)) (last : Nat) : List CpInfo := es.foldr (fun e r => gap e.1 (e.2 :: r)) (gap last [])
def pool (es : List (Nat × CpInfo)) (last : Nat) : Array CpInfo := ⟨poolList es last⟩
def fileOf (pool : Array CpInfo) (this : Nat) (attrs : Array Attribute := #[]) (ms : Array MethodInfo := #[]) (fl : Nat := 33) (sup : Nat := 0) (ifs : Array Nat := #[]) (fds : Array FieldInfo := #[]) : ClassFile where
  minorVersion := 0
  majorVersion := 65
  constantPool := pool
  accessFlags := fl
  thisClass := this
  superClass := sup
  interfaces := ifs
  fields := fds
  methods := ms
  attributes := attrs
def plain (name : String) (sup : Option ClassId) : Class where
  name := name
  kind := .ordinary
  loader := none
  accessFlags := 33
  super := sup
  interfaces := #[]
  cf := none
  fields := #[]
  methods := #[]
  instanceTypes := #[]
  staticTypes := #[]
  resolved := #[]
  callSites := []
  init := .initialized
  statics := none
  mirror := none

def pool0 : Array CpInfo := pool [(5, u "<init>"), (0, u "()V"), (1, .class_ 10), (1, u "java/lang/Object")] 113

def k0m0 : Method := { name := "<init>", desc := "()V", sig := { parameters := [], returnType := none }, accessFlags := 1, code := none }
/-- java/lang/Object -/
def k0 : Class := { plain "java/lang/Object" none with
  accessFlags := 33
  interfaces := #[]
  cf := some (fileOf pool0 8 #[] #[{ accessFlags := 1, nameIndex := 5, descriptorIndex := 6, attributes := #[] }] 33 0 #[] #[])
  fields := #[]
  methods := #[k0m0]
  instanceTypes := #[]
  staticTypes := #[]
  resolved := Array.replicate 124 none
  statics := none }

def pool1 : Array CpInfo := pool [(2, .class_ 4), (1, u "java/lang/Object"), (0, u "<init>"), (0, u "()V"), (0, .fieldref 8 9), (0, .class_ 10), (0, .nameAndType 11 12), (0, u "com/example/probex/probex/symbolic/Relation"), (0, u "EQ"), (0, u "Lcom/example/probex/probex/symbolic/Relation;"), (0, .fieldref 8 14), (0, .nameAndType 15 12), (0, u "NE"), (0, .fieldref 8 17), (0, .nameAndType 18 12), (0, u "LT"), (0, .fieldref 8 20), (0, .nameAndType 21 12), (0, u "GE"), (0, .fieldref 8 23), (0, .nameAndType 24 12), (0, u "GT"), (0, .fieldref 8 26), (0, .nameAndType 27 12), (0, u "LE"), (0, .integer 2147483647), (0, .methodref 30 31), (0, .class_ 32), (0, .nameAndType 33 34), (0, u "com/example/probex/probex/symbolic/RelationNegatePinLaw"), (0, u "pick"), (0, u "(I)Lcom/example/probex/probex/symbolic/Relation;"), (0, .methodref 8 36), (0, .nameAndType 37 38), (0, u "negate"), (0, u "()Lcom/example/probex/probex/symbolic/Relation;"), (0, .methodref 8 40), (0, .nameAndType 41 42), (0, u "test"), (0, u "(JJ)Z"), (3, u "law"), (0, u "(IIJJ)Z")] 2

def k1m0 : Method := { name := "<init>", desc := "()V", sig := { parameters := [], returnType := none }, accessFlags := 2, code := none }
def k1c1 : Code := { maxStack := 2, maxLocals := 1, code := method_2_code, exceptionTable := #[], attributes := #[] }
def k1m1 : Method := { name := "pick", desc := "(I)Lcom/example/probex/probex/symbolic/Relation;", sig := { parameters := [.int], returnType := some (.object "com/example/probex/probex/symbolic/Relation") }, accessFlags := 10, code := some k1c1 }
def k1c2 : Code := { maxStack := 6, maxLocals := 11, code := code, exceptionTable := #[], attributes := #[] }
def k1m2 : Method := { name := "law", desc := "(IIJJ)Z", sig := { parameters := [.int, .int, .long, .long], returnType := some .boolean }, accessFlags := 9, code := some k1c2 }
/-- com/example/probex/probex/symbolic/RelationNegatePinLaw -/
def k1 : Class := { plain "com/example/probex/probex/symbolic/RelationNegatePinLaw" (some 0) with
  accessFlags := 49
  interfaces := #[]
  cf := some (fileOf pool1 30 #[] #[{ accessFlags := 2, nameIndex := 5, descriptorIndex := 6, attributes := #[] }, { accessFlags := 10, nameIndex := 33, descriptorIndex := 34, attributes := #[] }, { accessFlags := 9, nameIndex := 46, descriptorIndex := 47, attributes := #[] }] 49 2 #[] #[])
  fields := #[]
  methods := #[k1m0, k1m1, k1m2]
  instanceTypes := #[]
  staticTypes := #[]
  resolved := Array.replicate 50 none
  statics := none }

def pool2 : Array CpInfo := pool [(1, .class_ 2), (0, u "java/lang/constant/Constable"), (0, .class_ 4), (0, u "java/lang/Object")] 6

/-- java/lang/constant/Constable -/
def k2 : Class := { plain "java/lang/constant/Constable" (some 0) with
  accessFlags := 1537
  interfaces := #[]
  cf := some (fileOf pool2 1 #[] #[] 1537 3 #[] #[])
  fields := #[]
  methods := #[]
  instanceTypes := #[]
  staticTypes := #[]
  resolved := Array.replicate 11 none
  statics := none }

def pool3 : Array CpInfo := pool [(1, .class_ 2), (0, u "java/lang/Comparable"), (0, .class_ 4), (0, u "java/lang/Object")] 7

/-- java/lang/Comparable -/
def k3 : Class := { plain "java/lang/Comparable" (some 0) with
  accessFlags := 1537
  interfaces := #[]
  cf := some (fileOf pool3 1 #[] #[] 1537 3 #[] #[])
  fields := #[]
  methods := #[]
  instanceTypes := #[]
  staticTypes := #[]
  resolved := Array.replicate 12 none
  statics := none }

def pool4 : Array CpInfo := pool [(1, .class_ 2), (0, u "java/io/Serializable"), (0, .class_ 4), (0, u "java/lang/Object")] 2

/-- java/io/Serializable -/
def k4 : Class := { plain "java/io/Serializable" (some 0) with
  accessFlags := 1537
  interfaces := #[]
  cf := some (fileOf pool4 1 #[] #[] 1537 3 #[] #[])
  fields := #[]
  methods := #[]
  instanceTypes := #[]
  staticTypes := #[]
  resolved := Array.replicate 7 none
  statics := none }

def pool5 : Array CpInfo := pool [(2, .class_ 4), (1, u "java/lang/Enum"), (0, u "name"), (0, u "Ljava/lang/String;"), (0, .fieldref 2 8), (0, .nameAndType 9 10), (0, u "ordinal"), (0, u "I"), (1, .class_ 14), (1, u "java/lang/Object"), (4, u "hash"), (86, .class_ 108), (1, u "java/lang/Enum$EnumDesc"), (2, .class_ 112), (0, u "java/lang/constant/Constable"), (0, .class_ 114), (0, u "java/lang/Comparable"), (0, .class_ 116), (0, u "java/io/Serializable"), (9, u "()I")] 77

def k5c0 : Code := { maxStack := 1, maxLocals := 1, code := jdk_37_method_2_code, exceptionTable := #[], attributes := #[] }
def k5m0 : Method := { name := "ordinal", desc := "()I", sig := { parameters := [], returnType := some .int }, accessFlags := 17, code := some k5c0 }
/-- java/lang/Enum -/
def k5 : Class := { plain "java/lang/Enum" (some 0) with
  accessFlags := 1057
  interfaces := #[2, 3, 4]
  cf := some (fileOf pool5 2 #[.nestMembers #[106]] #[{ accessFlags := 17, nameIndex := 9, descriptorIndex := 126, attributes := #[] }] 1057 12 #[111, 113, 115] #[{ accessFlags := 18, nameIndex := 5, descriptorIndex := 6, attributes := #[] }, { accessFlags := 18, nameIndex := 9, descriptorIndex := 10, attributes := #[] }, { accessFlags := 2, nameIndex := 19, descriptorIndex := 10, attributes := #[] }])
  fields := #[{ name := "name", type := (.object "java/lang/String"), accessFlags := 18, slot := 0, constantValue := 0 }, { name := "ordinal", type := .int, accessFlags := 18, slot := 1, constantValue := 0 }, { name := "hash", type := .int, accessFlags := 2, slot := 2, constantValue := 0 }]
  methods := #[k5m0]
  instanceTypes := #[(.object "java/lang/String"), .int, .int]
  staticTypes := #[]
  resolved := Array.replicate 204 none
  statics := none }

def pool6 : Array CpInfo := pool [(1, .class_ 2), (0, u "com/example/probex/probex/symbolic/Relation"), (0, .fieldref 1 4), (0, .nameAndType 5 6), (0, u "EQ"), (0, u "Lcom/example/probex/probex/symbolic/Relation;"), (0, .fieldref 1 8), (0, .nameAndType 9 6), (0, u "NE"), (0, .fieldref 1 11), (0, .nameAndType 12 6), (0, u "LT"), (0, .fieldref 1 14), (0, .nameAndType 15 6), (0, u "GE"), (0, .fieldref 1 17), (0, .nameAndType 18 6), (0, u "GT"), (0, .fieldref 1 20), (0, .nameAndType 21 6), (0, u "LE"), (2, u "$VALUES"), (0, u "[Lcom/example/probex/probex/symbolic/Relation;"), (6, .class_ 34), (1, u "java/lang/Enum"), (8, u "symbol"), (0, u "Ljava/lang/String;"), (0, .methodref 1 46), (0, .nameAndType 47 48), (0, u "ordinal"), (0, u "()I"), (37, u "test"), (0, u "(JJ)Z"), (1, u "negate"), (0, u "()Lcom/example/probex/probex/symbolic/Relation;")] 6

def k6c0 : Code := { maxStack := 4, maxLocals := 5, code := prog_28_method_4_code, exceptionTable := #[], attributes := #[] }
def k6m0 : Method := { name := "test", desc := "(JJ)Z", sig := { parameters := [.long, .long], returnType := some .boolean }, accessFlags := 1, code := some k6c0 }
def k6c1 : Code := { maxStack := 4, maxLocals := 1, code := prog_28_method_5_code, exceptionTable := #[], attributes := #[] }
def k6m1 : Method := { name := "negate", desc := "()Lcom/example/probex/probex/symbolic/Relation;", sig := { parameters := [], returnType := some (.object "com/example/probex/probex/symbolic/Relation") }, accessFlags := 1, code := some k6c1 }
/-- com/example/probex/probex/symbolic/Relation -/
def k6 : Class := { plain "com/example/probex/probex/symbolic/Relation" (some 5) with
  accessFlags := 16433
  interfaces := #[]
  cf := some (fileOf pool6 1 #[] #[{ accessFlags := 1, nameIndex := 86, descriptorIndex := 87, attributes := #[] }, { accessFlags := 1, nameIndex := 89, descriptorIndex := 90, attributes := #[] }] 16433 32 #[] #[{ accessFlags := 16409, nameIndex := 5, descriptorIndex := 6, attributes := #[] }, { accessFlags := 16409, nameIndex := 9, descriptorIndex := 6, attributes := #[] }, { accessFlags := 16409, nameIndex := 12, descriptorIndex := 6, attributes := #[] }, { accessFlags := 16409, nameIndex := 15, descriptorIndex := 6, attributes := #[] }, { accessFlags := 16409, nameIndex := 18, descriptorIndex := 6, attributes := #[] }, { accessFlags := 16409, nameIndex := 21, descriptorIndex := 6, attributes := #[] }, { accessFlags := 18, nameIndex := 43, descriptorIndex := 44, attributes := #[] }, { accessFlags := 4122, nameIndex := 24, descriptorIndex := 25, attributes := #[] }])
  fields := #[{ name := "EQ", type := (.object "com/example/probex/probex/symbolic/Relation"), accessFlags := 16409, slot := 0, constantValue := 0 }, { name := "NE", type := (.object "com/example/probex/probex/symbolic/Relation"), accessFlags := 16409, slot := 1, constantValue := 0 }, { name := "LT", type := (.object "com/example/probex/probex/symbolic/Relation"), accessFlags := 16409, slot := 2, constantValue := 0 }, { name := "GE", type := (.object "com/example/probex/probex/symbolic/Relation"), accessFlags := 16409, slot := 3, constantValue := 0 }, { name := "GT", type := (.object "com/example/probex/probex/symbolic/Relation"), accessFlags := 16409, slot := 4, constantValue := 0 }, { name := "LE", type := (.object "com/example/probex/probex/symbolic/Relation"), accessFlags := 16409, slot := 5, constantValue := 0 }, { name := "symbol", type := (.object "java/lang/String"), accessFlags := 18, slot := 3, constantValue := 0 }, { name := "$VALUES", type := (.array (.object "com/example/probex/probex/symbolic/Relation")), accessFlags := 4122, slot := 6, constantValue := 0 }]
  methods := #[k6m0, k6m1]
  instanceTypes := #[(.object "java/lang/String"), .int, .int, (.object "java/lang/String")]
  staticTypes := #[(.object "com/example/probex/probex/symbolic/Relation"), (.object "com/example/probex/probex/symbolic/Relation"), (.object "com/example/probex/probex/symbolic/Relation"), (.object "com/example/probex/probex/symbolic/Relation"), (.object "com/example/probex/probex/symbolic/Relation"), (.object "com/example/probex/probex/symbolic/Relation"), (.array (.object "com/example/probex/probex/symbolic/Relation"))]
  resolved := Array.replicate 97 none
  statics := some 0 }

def pool7 : Array CpInfo := pool [(1, u "java/lang/Cloneable"), (0, .class_ 1), (0, u "java/lang/Object"), (0, .class_ 3)] 3

/-- java/lang/Cloneable -/
def k7 : Class := { plain "java/lang/Cloneable" (some 0) with
  accessFlags := 1537
  interfaces := #[]
  cf := some (fileOf pool7 2 #[] #[] 1537 4 #[] #[])
  fields := #[]
  methods := #[]
  instanceTypes := #[]
  staticTypes := #[]
  resolved := Array.replicate 8 none
  statics := none }

/-- the primitive byte -/
def k8 : Class := { plain "byte" none with kind := .primitive 'B', accessFlags := 0x411 }
/-- [B -/
def k9 : Class := { plain "[B" (some 0) with kind := .array 8 .byte, interfaces := #[7, 4], accessFlags := 1041 }

/-- the primitive int -/
def k10 : Class := { plain "int" none with kind := .primitive 'I', accessFlags := 0x411 }
/-- [I -/
def k11 : Class := { plain "[I" (some 0) with kind := .array 10 .int, interfaces := #[7, 4], accessFlags := 1041 }

def heap : Heap := #[{ cls := 6, slots := #[.ref 1, .ref 2, .ref 3, .ref 4, .ref 5, .ref 6, .null], vm := .statics 6 },
  { cls := 6, slots := #[.null, .int 0, .int 0, .null], vm := .none },
  { cls := 6, slots := #[.null, .int 1, .int 0, .null], vm := .none },
  { cls := 6, slots := #[.null, .int 2, .int 0, .null], vm := .none },
  { cls := 6, slots := #[.null, .int 3, .int 0, .null], vm := .none },
  { cls := 6, slots := #[.null, .int 4, .int 0, .null], vm := .none },
  { cls := 6, slots := #[.null, .int 5, .int 0, .null], vm := .none }]
def classes : Array Class := #[k0, k1, k2, k3, k4, k5, k6, k7, k8, k9, k10, k11]
def interned : List (Array UInt16 × Addr) := []
def slotsUsed : Nat := 31
def theMethod : MethodId := ⟨1, 2⟩
def args0 : Array Value := #[.int 5, .int 2, .long 3, .long 4]
def aboutOver (below : List Frame) : State where
  vm := { classes := classes, interned := interned.toArray }
  heap := heap
  slotsUsed := slotsUsed
  threads := #[{ frames := .invoking theMethod args0 :: below }]
def below0 : List Frame := [.native { method := ⟨0, 0⟩, args := #[] }]
def about1 : State := aboutOver below0
def p0 : Program := .bare "" "" ""
def e0 : Env := launch0.env 0 0 0
theorem w_frames : about1.frames = Frame.invoking theMethod args0 :: below0 := rfl
set_option maxRecDepth 65536 in
theorem w_args : argsFit about1.vm theMethod args0 = true := by decide +kernel
set_option maxRecDepth 65536 in
theorem w_heap : heapFits about1 = true := by decide +kernel
set_option maxRecDepth 65536 in
theorem w_runnable : about1.curStatus? = some .runnable := by decide +kernel
set_option maxRecDepth 65536 in
theorem w_alone : about1.alone = true := by decide +kernel
set_option maxRecDepth 65536 in
theorem w_named : about1.methodNamed? x = some theMethod := by decide +kernel
set_option maxRecDepth 65536 in
theorem w_hears : about1.hears theMethod below0 = true := by decide +kernel
set_option maxRecDepth 65536 in
theorem w_ripe : about1.ripe theMethod args0 below0 = true := by decide +kernel
theorem w_running : about1.status = .running := rfl
set_option maxRecDepth 65536 in
theorem w_room : about1.hasRoom e0.platform room_1 = true :=
  launch0.hasRoom_least _ room_1 (by decide +kernel) (by decide +kernel) (by decide +kernel) (by decide +kernel) (by decide +kernel) (by decide +kernel)
theorem allAtoms_all (ts : List Jvm.Cond) (a : Array Jvm.Value) (st : Jvm.State) : (allAtoms ts).before a st = ts.all (fun c => c.before a st) := by
  induction ts with
  | nil => rfl
  | cons c t ih =>
    show (Jvm.Cond.and c (allAtoms t)).before a st = _
    rw [Jvm.Cond.before_and, ih, List.all_cons]
def words1 : List Jvm.Cond := Jvm.Cond.code x code maxLocals ret :: tables_1
/-- a 'code' word, met by the world's own term for the bytes: nothing is compared byte by byte -/
theorem code_word {y : MethodName} {bytes : ByteArray} {mx : Nat} {rt : Option FieldType} {a : Array Value} {s : State} {m : MethodId} {meth : Method} {c : Code} (h1 : s.methodNamed? y = some m) (h2 : s.vm.method? m = some meth) (h3 : meth.code = some c) (h4 : c.code = bytes)
    (h5 : (c.maxLocals == mx && c.exceptionTable.isEmpty && decide (c.maxStack ≤ mostOperands) && decide (meth.sig.returnType = rt) && !meth.locks && decide (parseMethodDescriptor y.desc = some meth.sig)) = true) : (Jvm.Cond.code y bytes mx rt).before a s = true := by
  simp only [Bool.and_eq_true, beq_iff_eq, Bool.not_eq_true', decide_eq_true_eq] at h5
  obtain ⟨⟨⟨⟨⟨g1, g2⟩, g3⟩, g4⟩, g5⟩, g6⟩ := h5
  simp [Cond.before, Cond.holds, Cond.value, h1, h2, h3, h4, g1, g2, g3, g4, g5, g6]
def isCode : Jvm.Cond → Bool
  | .code _ _ _ _ => true
  | _ => false
theorem all_split {L : List Jvm.Cond} {P : Jvm.Cond → Bool} (h1 : L.all (fun c => isCode c || P c) = true) (h2 : ∀ c ∈ L.filter isCode, P c = true) : L.all P = true := by
  refine List.all_eq_true.mpr fun c hc => ?_
  have h := List.all_eq_true.mp h1 c hc
  rcases Bool.eq_false_or_eq_true (isCode c) with hi | hi
  · exact h2 c (List.mem_filter.mpr ⟨hc, hi⟩)
  · simpa [hi] using h
set_option maxRecDepth 65536 in
theorem w_c0 : (Jvm.Cond.code x code maxLocals ret).before args0 about1 = true := code_word (m := ⟨1, 2⟩) (meth := k1m2) (c := k1c2) (by decide +kernel) rfl rfl rfl (by decide +kernel)
set_option maxRecDepth 65536 in
theorem w_c1 : (Jvm.Cond.code ({ cls := "com/example/probex/probex/symbolic/RelationNegatePinLaw", name := "pick", desc := "(I)Lcom/example/probex/probex/symbolic/Relation;" } : Jvm.MethodName) method_2_code (1 : Nat) (Option.some (Jvm.ClassFile.FieldType.object "com/example/probex/probex/symbolic/Relation"))).before args0 about1 = true := code_word (m := ⟨1, 1⟩) (meth := k1m1) (c := k1c1) (by decide +kernel) rfl rfl rfl (by decide +kernel)
set_option maxRecDepth 65536 in
theorem w_c2 : (Jvm.Cond.code ({ cls := "com/example/probex/probex/symbolic/Relation", name := "negate", desc := "()Lcom/example/probex/probex/symbolic/Relation;" } : Jvm.MethodName) prog_28_method_5_code (1 : Nat) (Option.some (Jvm.ClassFile.FieldType.object "com/example/probex/probex/symbolic/Relation"))).before args0 about1 = true := code_word (m := ⟨6, 1⟩) (meth := k6m1) (c := k6c1) (by decide +kernel) rfl rfl rfl (by decide +kernel)
set_option maxRecDepth 65536 in
theorem w_c3 : (Jvm.Cond.code ({ cls := "java/lang/Enum", name := "ordinal", desc := "()I" } : Jvm.MethodName) jdk_37_method_2_code (1 : Nat) (Option.some Jvm.ClassFile.FieldType.int)).before args0 about1 = true := code_word (m := ⟨5, 0⟩) (meth := k5m0) (c := k5c0) (by decide +kernel) rfl rfl rfl (by decide +kernel)
set_option maxRecDepth 65536 in
theorem w_c4 : (Jvm.Cond.code ({ cls := "com/example/probex/probex/symbolic/Relation", name := "test", desc := "(JJ)Z" } : Jvm.MethodName) prog_28_method_4_code (5 : Nat) (Option.some Jvm.ClassFile.FieldType.boolean)).before args0 about1 = true := code_word (m := ⟨6, 0⟩) (meth := k6m0) (c := k6c0) (by decide +kernel) rfl rfl rfl (by decide +kernel)
def codes1 : List Jvm.Cond := [Jvm.Cond.code x code maxLocals ret, Jvm.Cond.code ({ cls := "com/example/probex/probex/symbolic/RelationNegatePinLaw", name := "pick", desc := "(I)Lcom/example/probex/probex/symbolic/Relation;" } : Jvm.MethodName) method_2_code (1 : Nat) (Option.some (Jvm.ClassFile.FieldType.object "com/example/probex/probex/symbolic/Relation")), Jvm.Cond.code ({ cls := "com/example/probex/probex/symbolic/Relation", name := "negate", desc := "()Lcom/example/probex/probex/symbolic/Relation;" } : Jvm.MethodName) prog_28_method_5_code (1 : Nat) (Option.some (Jvm.ClassFile.FieldType.object "com/example/probex/probex/symbolic/Relation")), Jvm.Cond.code ({ cls := "java/lang/Enum", name := "ordinal", desc := "()I" } : Jvm.MethodName) jdk_37_method_2_code (1 : Nat) (Option.some Jvm.ClassFile.FieldType.int), Jvm.Cond.code ({ cls := "com/example/probex/probex/symbolic/Relation", name := "test", desc := "(JJ)Z" } : Jvm.MethodName) prog_28_method_4_code (5 : Nat) (Option.some Jvm.ClassFile.FieldType.boolean)]
set_option maxRecDepth 65536 in
theorem codes_eq : words1.filter isCode = codes1 := rfl
theorem w_codes : ∀ c ∈ words1.filter isCode, c.before args0 about1 = true := by
  rw [codes_eq]
  intro c hc
  simp only [codes1, List.mem_cons, List.not_mem_nil, or_false] at hc
  rcases hc with rfl | rfl | rfl | rfl | rfl
  · exact w_c0
  · exact w_c1
  · exact w_c2
  · exact w_c3
  · exact w_c4
set_option maxRecDepth 65536 in
theorem w_t1 : (words1.take 24).all (fun c => isCode c || c.before args0 about1) = true := by decide +kernel
set_option maxRecDepth 65536 in
theorem w_t2 : (words1.drop 24).all (fun c => isCode c || c.before args0 about1) = true := by decide +kernel
theorem w_tables : (allAtoms (Jvm.Cond.code x code maxLocals ret :: tables_1)).before args0 about1 = true := by
  rw [allAtoms_all]
  show words1.all (fun c => c.before args0 about1) = true
  refine all_split ?_ w_codes
  rw [← List.take_append_drop 24 words1, List.all_append, w_t1, w_t2]
  rfl
set_option maxRecDepth 65536 in
theorem w_case : (Jvm.Cond.and given_1 narrow_1).before args0 about1 = true := by decide +kernel
theorem w_applies : (headSpec (Jvm.Cond.code x code maxLocals ret :: tables_1) room_1).applies x e0.platform about1 = true :=
  (Spec.applies_iff w_frames).mpr ⟨w_running, w_runnable, w_alone, w_named, w_hears, w_ripe, w_room, w_tables⟩
theorem atStart : AtStart classFile x code maxLocals ret World_1 tables_1 room_1 Calls_1 rest_1 Pre_1 launch0 p0 e0 about1 theMethod args0 below0 :=
  ⟨lists_1, trivial, launch0.admits_env _ _ _, launch0.least_env, fairChoices_fair.cas, fairChoices_fair.clock, w_frames, w_args, w_heap, w_applies, trivial, trivial, w_case⟩
end start1
theorem witness_1 : WitnessClaimed_1 := ⟨start1.p0, start1.e0, start1.about1, start1.theMethod, start1.args0, start1.below0, start1.atStart⟩
end Jvm.Pilot.@@N@@
