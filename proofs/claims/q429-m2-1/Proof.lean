import JvmDerived
import JvmDerived.Pilot.@@N@@Statement
import JvmDerived.Pilot.@@N@@Code
set_option linter.unusedVariables false
set_option linter.unusedSimpArgs false
namespace Jvm.RoadKit
open Sem ClassFile Op Lib Jvm.Stand Jvm.Free Jvm.LawKit
section New
variable {p : Program} {l : Launch} {e : Env} {R : Room} {s : State} {m : MethodId} {args : Array Value} {below : List Frame} {meth : Method} {c : Code} {T : State} {locs : List Loc} {cells slots : Nat}
theorem retI (X : Stand p l e R s m args below meth c T locs cells slots) (hx : p.tables.exec = Jvm.exec) {pc : Nat} {Ls : Array Slot} {z : Int32} {rest : List Value} (hret : meth.sig.returnType = some .int) (hd : decode c.code pc = .ok (.ireturn, 1)) {fs : List Frame}
    (hl : ∀ (f : JFrame) (acts : List Action), f.method = m → f.locked = none → f.entered = [] → (doReturn e (T.setTop f) acts (some (.int z))).1 = T.setFrames fs) : Steps p.tables e below (T.setTop (mkF m pc Ls (.int z :: rest))) (T.setFrames fs) := by
  have hm' : T.vm.method? m = some meth := X.method'
  have hn : narrow .int (.int z) = .int z := rfl
  show Steps p.tables e below (T.setTop { method := m, pc := pc, locals := Ls, stack := _ :: rest, locked := none }) _
  jvm_step X.here [X.here.top, hx, hd, hm', hret, hn]
  first | (intro acts; rw [hl _ acts rfl rfl rfl]) | rw [hl _ _ rfl rfl rfl]
  exact Steps.refl _
end New
end Jvm.RoadKit
namespace Jvm.Pilot.@@N@@
open Jvm Jvm.ClassFile Sem Op Lib Jvm.Free Jvm.Stand Jvm.LawKit Jvm.RoadKit Bundle Jvm.Pilot.@@N@@.Jvm.D
theorem own_nm {x a : Addr} (h : x ≠ a) : x ∉ [a] := fun q => h (List.mem_singleton.mp q)
theorem own_nar {v : Int32} (h : v = (0 : Int32) ∨ v = (1 : Int32)) : nar .boolean v = v := by rcases h with rfl | rfl <;> decide
/-- what a body that writes nothing leaves -/
def QP (r : Option Value) (h0 : Heap) (v : Option Value) (h : Heap) (L : List Loc) : Prop := v = r ∧ L = [] ∧ h = h0
theorem pd___III_V : parseMethodDescriptor "([III)V" = some ⟨[(.array .int), .int, .int], none⟩ := by decide +kernel
theorem pd__Ljava_util_DualPivotQuicksort_Sorter__IIII_V : parseMethodDescriptor "(Ljava/util/DualPivotQuicksort$Sorter;[IIII)V" = some ⟨[(.object "java/util/DualPivotQuicksort$Sorter"), (.array .int), .int, .int, .int], none⟩ := by decide +kernel
theorem pd___IIII_V : parseMethodDescriptor "([IIII)V" = some ⟨[(.array .int), .int, .int, .int], none⟩ := by decide +kernel
theorem pd___V : parseMethodDescriptor "()V" = some ⟨[], none⟩ := by decide +kernel
theorem pd__Ljava_lang_Object_Ljava_lang_String__Ljava_lang_Object_ : parseMethodDescriptor "(Ljava/lang/Object;Ljava/lang/String;)Ljava/lang/Object;" = some ⟨[(.object "java/lang/Object"), (.object "java/lang/String")], some (.object "java/lang/Object")⟩ := by decide +kernel
theorem pd___I_V : parseMethodDescriptor "([I)V" = some ⟨[(.array .int)], none⟩ := by decide +kernel
theorem pd__Ljava_lang_String_ILjava_lang_String_I_V : parseMethodDescriptor "(Ljava/lang/String;ILjava/lang/String;I)V" = some ⟨[(.object "java/lang/String"), .int, (.object "java/lang/String"), .int], none⟩ := by decide +kernel
theorem pd__IILjava_util_function_BiFunction__I : parseMethodDescriptor "(IILjava/util/function/BiFunction;)I" = some ⟨[.int, .int, (.object "java/util/function/BiFunction")], some .int⟩ := by decide +kernel
theorem pd___I : parseMethodDescriptor "()I" = some ⟨[], some .int⟩ := by decide +kernel
theorem pd__II_I : parseMethodDescriptor "(II)I" = some ⟨[.int, .int], some .int⟩ := by decide +kernel
theorem pd__Ljava_lang_String_I_I_V : parseMethodDescriptor "(Ljava/lang/String;I[I)V" = some ⟨[(.object "java/lang/String"), .int, (.array .int)], none⟩ := by decide +kernel
theorem pd__I_I : parseMethodDescriptor "(I)I" = some ⟨[.int], some .int⟩ := by decide +kernel
theorem own_lt {p : Int32} (c : Int32) (k : Int) (hk : c.toInt = k) (h : p.toInt < k) : p < c := Int32.lt_iff_toInt_lt.mpr (by omega)
theorem own_nlt {p : Int32} (c : Int32) (k : Int) (hk : c.toInt = k) (h : k ≤ p.toInt) : ¬ p < c := fun q => by have := Int32.lt_iff_toInt_lt.mp q; omega
theorem own_gt {p : Int32} (c : Int32) (k : Int) (hk : c.toInt = k) (h : k < p.toInt) : c < p := Int32.lt_iff_toInt_lt.mpr (by omega)
theorem own_ngt {p : Int32} (c : Int32) (k : Int) (hk : c.toInt = k) (h : p.toInt ≤ k) : ¬ c < p := fun q => by have := Int32.lt_iff_toInt_lt.mp q; omega
theorem own_ne {p : Int32} (c : Int32) (k : Int) (hk : c.toInt = k) (h : p.toInt ≠ k) : ¬ p = c := fun q => h (by rw [q]; exact hk)
theorem own_eq {p : Int32} (c : Int32) (k : Int) (hk : c.toInt = k) (h : p.toInt = k) : p = c := Int32.toInt_inj.mp (by omega)
theorem own_irem (x y : Int32) (d : Int) (hy : y.toInt = d) (hd : 0 < d) (hx : 0 ≤ x.toInt) : (x - (x / y) * y).toInt = x.toInt % d := by
  have hm : y ≠ -1 := fun h => by rw [h] at hy; have : (-1 : Int32).toInt = -1 := rfl; omega
  have h1 := (c_idiv x y d hy hm).1 hx
  have h2 := c_imul (x / y) y
  have h3 := c_isub x ((x / y) * y)
  have h4 := rng32 (x - (x / y) * y)
  have h5 := rng32 x
  have h10 := rng32 ((x / y) * y)
  rw [h1, hy] at h2
  have h6 : x.toInt / d * d + x.toInt % d = x.toInt := Int.ediv_mul_add_emod x.toInt d
  have h7 := Int.emod_nonneg x.toInt (by omega : d ≠ 0)
  have h8 := Int.emod_lt_of_pos x.toInt (by omega : 0 < d)
  have h9 : 0 ≤ x.toInt / d * d := Int.mul_nonneg (Int.ediv_nonneg hx (by omega)) (by omega)
  generalize x.toInt / d * d = t at *
  omega
def QS (Z : State) (a1 : Addr) (k : ClassId) (n : Int32) (vs : List Value) (h0 : Heap) (n0 : Nat) (v : Option Value) (h : Heap) (L : List Loc) : Prop := v = none ∧ Fr n0 L ∧ Keep h0 h [a1] ∧ Arv Z h a1 k .int n vs (.int (0 : Int32))
def QT (Z : State) (a1 a2 : Addr) (p3 : Int32) (n : Int32) (vs : List Value) (h0 : Heap) (n0 : Nat) (v : Option Value) (h : Heap) (L : List Loc) : Prop := v = none ∧ Fr n0 L ∧ Keep h0 h [a1] ∧ Exa Z h a1 "com/example/allot/allot/partition/Topic" ∧ Fld Z h a1 "com/example/allot/allot/partition/Topic" "name" "Ljava/lang/String;" (.ref a2) ∧ Fld Z h a1 "com/example/allot/allot/partition/Topic" "partitions" "I" (.int p3) ∧ ∃ (b : Addr) (k : ClassId), Fld Z h a1 "com/example/allot/allot/partition/Topic" "unavailable" "[I" (.ref b) ∧ Arv Z h b k .int n vs (.int (0 : Int32))
def Q0 (n0 : Nat) (v : Option Value) (h : Heap) (L : List Loc) : Prop := v = some (.int (1 : Int32)) ∧ Fr n0 L
def fAA0 (ii : Int32) : Int32 := (ii + (0 : Int32))
def fAA1 (ii x0 : Int32) : Int32 := (if ii < (x0 - (0 : Int32)) then (ii + (0 : Int32)) else (ii + (1 : Int32)))
def fAA2 (ii x0 x1 : Int32) : Int32 := (if ii < (x1 - (1 : Int32)) then (if ii < (x0 - (0 : Int32)) then (ii + (0 : Int32)) else (ii + (1 : Int32))) else (ii + (2 : Int32)))
def fAA3 (ii x0 x1 x2 : Int32) : Int32 := (if ii < (x1 - (1 : Int32)) then (if ii < (x0 - (0 : Int32)) then (ii + (0 : Int32)) else (ii + (1 : Int32))) else (if ii < (x2 - (2 : Int32)) then (ii + (2 : Int32)) else (ii + (3 : Int32))))
theorem own_wS {Z : State} {a0 : Array Value} (hw : ∀ d ∈ tables_1, d.before a0 Z = true) : ∀ a ∈ Bundle.stringAtoms, a.before a0 Z = true := by
  intro a ha
  simp only [Bundle.stringAtoms, List.mem_cons, List.not_mem_nil, or_false] at ha
  rcases ha with rfl | rfl | rfl | rfl | rfl | rfl | rfl
  · exact (hw _ (List.mem_of_getElem? (i := 9) rfl))
  · exact (hw _ (List.mem_of_getElem? (i := 10) rfl))
  · exact (hw _ (List.mem_of_getElem? (i := 11) rfl))
  · exact (hw _ (List.mem_of_getElem? (i := 12) rfl))
  · exact (hw _ (List.mem_of_getElem? (i := 13) rfl))
  · exact (hw _ (List.mem_of_getElem? (i := 14) rfl))
  · exact (hw _ (List.mem_of_getElem? (i := 15) rfl))
def mxI (p1 p2 : Int32) : Int32 := if p1 < p2 then p2 else p1
theorem dMx_0 : decode jdk_29_method_65_code 0 = .ok (.iload_n 0, 1) := by decide +kernel
theorem dMx_1 : decode jdk_29_method_65_code 1 = .ok (.iload_n 1, 1) := by decide +kernel
theorem dMx_2 : decode jdk_29_method_65_code 2 = .ok (.if_icmp .lt 7, 3) := by decide +kernel
theorem dMx_5 : decode jdk_29_method_65_code 5 = .ok (.iload_n 0, 1) := by decide +kernel
theorem dMx_6 : decode jdk_29_method_65_code 6 = .ok (.goto 4, 3) := by decide +kernel
theorem dMx_9 : decode jdk_29_method_65_code 9 = .ok (.iload_n 1, 1) := by decide +kernel
theorem dMx_10 : decode jdk_29_method_65_code 10 = .ok (.ireturn, 1) := by decide +kernel
theorem ef_Mx (m : MethodId) (x0 : Int32) (x1 : Int32) : entryFrame m #[(.int x0), (.int x1)] 2 = mkF m 0 #[.val (.int x0), .val (.int x1)] [] := by first | (simp [entryFrame, mkF, argsToLocals, Value.category]; done) | rfl
set_option maxRecDepth 65536 in
set_option maxHeartbeats 40000000 in
theorem rmMx (l : Launch) (Z : State) (a0 : Array Value) (hw : ∀ d ∈ tables_1, d.before a0 Z = true) (ws : List Jvm.Cond) (p1 : Int32) (p2 : Int32) (h0 : Heap) :
    MetFree l (⟨"java/lang/Math", "max", "(II)I"⟩ : MethodName) (head1 (Jvm.Cond.code (⟨"java/lang/Math", "max", "(II)I"⟩ : MethodName) jdk_29_method_65_code 2 (some .int) :: ws) ({ frames := 0, cells := 0, slots := 0, locals := 0 } : Room)) (fun a U => a = #[(.int p1), (.int p2)] ∧ Z.Warmed39 U.vm ∧ U.heap = h0) (fun _ _ _ _ _ => True) (fun _ U o U' => ∃ v L, o = .returned v ∧ QP (some (.int (mxI p1 p2))) h0 v U'.heap L ∧ FrameEnd U o U' L ({ frames := 0, cells := 0, slots := 0, locals := 0 } : Room).cells ({ frames := 0, cells := 0, slots := 0, locals := 0 } : Room).slots) := by
  refine MetFree.of_bodySF (Jvm.Free.JP.mathPlain rfl (by decide +kernel)) hisR ?_
  intro p e s m args below meth c s₁ Bd hml0 hP hK
  obtain ⟨rfl, hZ, hh⟩ := hP
  have hx := Bd.exec
  have hby := Bd.bytes
  have hml : c.maxLocals = 2 := hml0
  have hown : s.vm.findClass "java/lang/Math" = some m.cls := findClass_of_methodNamed Bd.named
  have hnm := (name_of_methodNamed Bd.named Bd.method).1
  have hlk : meth.locks = false := BodyLoose.notSynchronized Bd
  have X0 : Stand p l e ({ frames := 0, cells := 0, slots := 0, locals := 0 } : Room) s m #[(.int p1), (.int p2)] below meth c s₁ [] 0 0 := Stand.of_body Bd
  have e0 : s₁.heap = h0 := by rw [← hh, Bd.state]; rfl
  have P0 : ∀ t, Steps p.tables e below (s₁.setTop (mkF m 0 #[.val (.int p1), .val (.int p2)] [])) t → Steps p.tables e below (s₁.setTop (entryFrame m #[(.int p1), (.int p2)] 2)) t := fun t kt => castTop (ef_Mx m p1 p2) kt
  have P101 : ∀ t, Steps p.tables e below (s₁.setTop (mkF m 2 #[.val (.int p1), .val (.int p2)] [(.int p2), (.int p1)])) t → Steps p.tables e below (s₁.setTop (entryFrame m #[(.int p1), (.int p2)] 2)) t := fun t kt => P0 t (by
    show Steps p.tables e below (s₁.setTop (mkF m 0 #[.val (.int p1), .val (.int p2)] [])) _
    refine XS.iloadN X0.here hx rfl (hb hby dMx_0) rfl ?_
    show Steps p.tables e below (s₁.setTop (mkF m 1 #[.val (.int p1), .val (.int p2)] [(.int p1)])) _
    refine XS.iloadN X0.here hx rfl (hb hby dMx_1) rfl ?_
    exact kt)
  by_cases hc2_102 : p1 < p2
  · have P103 : ∀ t, Steps p.tables e below (s₁.setTop (mkF m 10 #[.val (.int p1), .val (.int p2)] [(.int p2)])) t → Steps p.tables e below (s₁.setTop (entryFrame m #[(.int p1), (.int p2)] 2)) t := fun t kt => P101 t (by
      show Steps p.tables e below (s₁.setTop (mkF m 2 #[.val (.int p1), .val (.int p2)] [(.int p2), (.int p1)])) _
      refine XS.icmpYes X0.here hx rfl (pc0 := 2) (pc' := 9) rfl (hb hby dMx_2) rfl (tlt hc2_102).1 (by decide) (by decide) ?_
      show Steps p.tables e below (s₁.setTop (mkF m 9 #[.val (.int p1), .val (.int p2)] [])) _
      refine XS.iloadN X0.here hx rfl (hb hby dMx_9) rfl ?_
      exact kt)
    obtain ⟨fs, hr, hrun, hended, hW, hsame⟩ := X0.leave (v := some (.int p2)) (fun h => by rw [Bd.returns] at h; cases h) (hlocks := hlk)
    refine ⟨_, _, P103 _ ?_, hrun, hended, _, _, rfl, ?_, ⟨_, rfl⟩, hW, hsame.mono (by decide) (by decide)⟩
    · show Steps p.tables e below (s₁.setTop (mkF m 10 #[.val (.int p1), .val (.int p2)] [(.int p2)])) _
      exact retI X0 hx Bd.returns (hb hby dMx_10) hr
    · show QP _ h0 _ s₁.heap _
      have ev : mxI p1 p2 = p2 := by unfold mxI; exact if_pos hc2_102
      rw [ev]
      exact ⟨rfl, rfl, e0⟩
  · have P104 : ∀ t, Steps p.tables e below (s₁.setTop (mkF m 10 #[.val (.int p1), .val (.int p2)] [(.int p1)])) t → Steps p.tables e below (s₁.setTop (entryFrame m #[(.int p1), (.int p2)] 2)) t := fun t kt => P101 t (by
      show Steps p.tables e below (s₁.setTop (mkF m 2 #[.val (.int p1), .val (.int p2)] [(.int p2), (.int p1)])) _
      refine XS.icmpNo X0.here hx rfl (hb hby dMx_2) rfl (flt hc2_102).1 ?_
      show Steps p.tables e below (s₁.setTop (mkF m 5 #[.val (.int p1), .val (.int p2)] [])) _
      refine XS.iloadN X0.here hx rfl (hb hby dMx_5) rfl ?_
      show Steps p.tables e below (s₁.setTop (mkF m 6 #[.val (.int p1), .val (.int p2)] [(.int p1)])) _
      refine XS.goto X0.here hx rfl (pc0 := 6) (pc' := 10) rfl (hb hby dMx_6) (by decide) (by decide) ?_
      exact kt)
    obtain ⟨fs, hr, hrun, hended, hW, hsame⟩ := X0.leave (v := some (.int p1)) (fun h => by rw [Bd.returns] at h; cases h) (hlocks := hlk)
    refine ⟨_, _, P104 _ ?_, hrun, hended, _, _, rfl, ?_, ⟨_, rfl⟩, hW, hsame.mono (by decide) (by decide)⟩
    · show Steps p.tables e below (s₁.setTop (mkF m 10 #[.val (.int p1), .val (.int p2)] [(.int p1)])) _
      exact retI X0 hx Bd.returns (hb hby dMx_10) hr
    · show QP _ h0 _ s₁.heap _
      have ev : mxI p1 p2 = p1 := by unfold mxI; exact if_neg hc2_102
      rw [ev]
      exact ⟨rfl, rfl, e0⟩
theorem dR_0 : decode jdk_30_method_1_code 0 = .ok (.aload_n 0, 1) := by decide +kernel
theorem dR_1 : decode jdk_30_method_1_code 1 = .ok (.invokespecial 1, 3) := by decide +kernel
theorem dR_4 : decode jdk_30_method_1_code 4 = .ok (.return_, 1) := by decide +kernel
theorem ef_R (m : MethodId) (x0 : Addr) : entryFrame m #[(.ref x0)] 1 = mkF m 0 #[.val (.ref x0)] [] := by first | (simp [entryFrame, mkF, argsToLocals, Value.category]; done) | rfl
set_option maxRecDepth 65536 in
set_option maxHeartbeats 40000000 in
theorem rmR (l : Launch) (Z : State) (a0 : Array Value) (hw : ∀ d ∈ tables_1, d.before a0 Z = true) (ws : List Jvm.Cond) (a1 : Addr) (h0 : Heap) :
    MetFree l (⟨"java/lang/Record", "<init>", "()V"⟩ : MethodName) (head1 (Jvm.Cond.code (⟨"java/lang/Record", "<init>", "()V"⟩ : MethodName) jdk_30_method_1_code 1 none :: ws) ({ frames := 1, cells := 0, slots := 0, locals := 12 } : Room)) (fun a U => a = #[(.ref a1)] ∧ Z.Warmed39 U.vm ∧ U.heap = h0) (fun _ _ _ _ _ => True) (fun _ U o U' => ∃ v L, o = .returned v ∧ QP none h0 v U'.heap L ∧ FrameEnd U o U' L ({ frames := 1, cells := 0, slots := 0, locals := 12 } : Room).cells ({ frames := 1, cells := 0, slots := 0, locals := 12 } : Room).slots) := by
  refine MetFree.of_bodySF (plainFor_of_name (by first | (simp [plainName, overriddenIn]; done) | decide +kernel)) hisR ?_
  intro p e s m args below meth c s₁ Bd hml0 hP hK
  obtain ⟨rfl, hZ, hh⟩ := hP
  have hx := Bd.exec
  have hby := Bd.bytes
  have hml : c.maxLocals = 1 := hml0
  have hown : s.vm.findClass "java/lang/Record" = some m.cls := findClass_of_methodNamed Bd.named
  have hnm := (name_of_methodNamed Bd.named Bd.method).1
  have hlk : meth.locks = false := BodyLoose.notSynchronized Bd
  have X0 : Stand p l e ({ frames := 1, cells := 0, slots := 0, locals := 12 } : Room) s m #[(.ref a1)] below meth c s₁ [] 0 0 := Stand.of_body Bd
  have e0 : s₁.heap = h0 := by rw [← hh, Bd.state]; rfl
  have P0 : ∀ t, Steps p.tables e below (s₁.setTop (mkF m 0 #[.val (.ref a1)] [])) t → Steps p.tables e below (s₁.setTop (entryFrame m #[(.ref a1)] 1)) t := fun t kt => castTop (ef_R m a1) kt
  obtain ⟨T101, X101, e101, st101⟩ := initO X0 hx hZ hown (hw _ (List.mem_of_getElem? (i := 24) rfl)) (hw _ (List.mem_of_getElem? (i := 25) rfl)) (hw _ (List.mem_of_getElem? (i := 26) rfl)) e0 (g := (mkF m 1 #[.val (.ref a1)] [(.ref a1)])) rfl (by rw [hml]; rfl) rfl (hb hby dR_1) (by decide) (W := 0) (by show 2 * 0 + _ ≤ _; exact Nat.le_of_eq rfl) (by decide)
  have P102 : ∀ t, Steps p.tables e below (T101.setTop (mkF m 4 #[.val (.ref a1)] [])) t → Steps p.tables e below (s₁.setTop (entryFrame m #[(.ref a1)] 1)) t := fun t kt => P0 t (by
    show Steps p.tables e below (s₁.setTop (mkF m 0 #[.val (.ref a1)] [])) _
    refine XS.aloadN X0.here hx rfl (hb hby dR_0) rfl rfl ?_
    show Steps p.tables e below (s₁.setTop (mkF m 1 #[.val (.ref a1)] [(.ref a1)])) _
    refine st101 _ ?_
    exact kt)
  obtain ⟨fs, hr, hrun, hended, hW, hsame⟩ := X101.leave (v := none) (fun _ => rfl) (hlocks := hlk)
  refine ⟨_, _, P102 _ ?_, hrun, hended, _, _, rfl, ?_, ⟨_, rfl⟩, hW, hsame.mono (by decide) (by decide)⟩
  · show Steps p.tables e below (T101.setTop (mkF m 4 #[.val (.ref a1)] [])) _
    exact X101.returnOut hx Bd.returns (hb hby dR_4) hr
  · show QP _ h0 _ T101.heap _
    exact ⟨rfl, rfl, e101⟩
theorem dNN_0 : decode jdk_31_method_11_code 0 = .ok (.aload_n 0, 1) := by decide +kernel
theorem dNN_1 : decode jdk_31_method_11_code 1 = .ok (.ifnonnull 12, 3) := by decide +kernel
theorem dNN_13 : decode jdk_31_method_11_code 13 = .ok (.aload_n 0, 1) := by decide +kernel
theorem dNN_14 : decode jdk_31_method_11_code 14 = .ok (.areturn, 1) := by decide +kernel
theorem ef_NN (m : MethodId) (x0 : Addr) (x1 : Addr) : entryFrame m #[(.ref x0), (.ref x1)] 2 = mkF m 0 #[.val (.ref x0), .val (.ref x1)] [] := by first | (simp [entryFrame, mkF, argsToLocals, Value.category]; done) | rfl
set_option maxRecDepth 65536 in
set_option maxHeartbeats 40000000 in
theorem rmNN (l : Launch) (Z : State) (a0 : Array Value) (hw : ∀ d ∈ tables_1, d.before a0 Z = true) (ws : List Jvm.Cond) (a1 : Addr) (a2 : Addr) (h0 : Heap) :
    MetFree l (⟨"java/util/Objects", "requireNonNull", "(Ljava/lang/Object;Ljava/lang/String;)Ljava/lang/Object;"⟩ : MethodName) (head1 (Jvm.Cond.code (⟨"java/util/Objects", "requireNonNull", "(Ljava/lang/Object;Ljava/lang/String;)Ljava/lang/Object;"⟩ : MethodName) jdk_31_method_11_code 2 (some (.object "java/lang/Object")) :: ws) ({ frames := 0, cells := 0, slots := 0, locals := 0 } : Room)) (fun a U => a = #[(.ref a1), (.ref a2)] ∧ Z.Warmed39 U.vm ∧ U.heap = h0) (fun _ _ _ _ _ => True) (fun _ U o U' => ∃ v L, o = .returned v ∧ QP (some (.ref a1)) h0 v U'.heap L ∧ FrameEnd U o U' L ({ frames := 0, cells := 0, slots := 0, locals := 0 } : Room).cells ({ frames := 0, cells := 0, slots := 0, locals := 0 } : Room).slots) := by
  refine MetFree.of_bodySF (plainFor_of_name (by first | (simp [plainName, overriddenIn]; done) | decide +kernel)) hisR ?_
  intro p e s m args below meth c s₁ Bd hml0 hP hK
  obtain ⟨rfl, hZ, hh⟩ := hP
  have hx := Bd.exec
  have hby := Bd.bytes
  have hml : c.maxLocals = 2 := hml0
  have hown : s.vm.findClass "java/util/Objects" = some m.cls := findClass_of_methodNamed Bd.named
  have hnm := (name_of_methodNamed Bd.named Bd.method).1
  have hlk : meth.locks = false := BodyLoose.notSynchronized Bd
  have X0 : Stand p l e ({ frames := 0, cells := 0, slots := 0, locals := 0 } : Room) s m #[(.ref a1), (.ref a2)] below meth c s₁ [] 0 0 := Stand.of_body Bd
  have e0 : s₁.heap = h0 := by rw [← hh, Bd.state]; rfl
  have P0 : ∀ t, Steps p.tables e below (s₁.setTop (mkF m 0 #[.val (.ref a1), .val (.ref a2)] [])) t → Steps p.tables e below (s₁.setTop (entryFrame m #[(.ref a1), (.ref a2)] 2)) t := fun t kt => castTop (ef_NN m a1 a2) kt
  have P101 : ∀ t, Steps p.tables e below (s₁.setTop (mkF m 14 #[.val (.ref a1), .val (.ref a2)] [(.ref a1)])) t → Steps p.tables e below (s₁.setTop (entryFrame m #[(.ref a1), (.ref a2)] 2)) t := fun t kt => P0 t (by
    show Steps p.tables e below (s₁.setTop (mkF m 0 #[.val (.ref a1), .val (.ref a2)] [])) _
    refine XS.aloadN X0.here hx rfl (hb hby dNN_0) rfl rfl ?_
    show Steps p.tables e below (s₁.setTop (mkF m 1 #[.val (.ref a1), .val (.ref a2)] [(.ref a1)])) _
    refine XS.ifnonnullYes X0.here hx rfl (pc0 := 1) (pc' := 13) rfl (hb hby dNN_1) rfl (by decide) (by decide) ?_
    show Steps p.tables e below (s₁.setTop (mkF m 13 #[.val (.ref a1), .val (.ref a2)] [])) _
    refine XS.aloadN X0.here hx rfl (hb hby dNN_13) rfl rfl ?_
    exact kt)
  obtain ⟨fs, hr, hrun, hended, hW, hsame⟩ := X0.leave (v := some (.ref a1)) (fun h => by rw [Bd.returns] at h; cases h) (hlocks := hlk)
  refine ⟨_, _, P101 _ ?_, hrun, hended, _, _, rfl, ?_, ⟨_, rfl⟩, hW, hsame.mono (by decide) (by decide)⟩
  · show Steps p.tables e below (s₁.setTop (mkF m 14 #[.val (.ref a1), .val (.ref a2)] [(.ref a1)])) _
    exact X0.areturnOut hx (w := (.ref a1)) rfl Bd.returns rfl (hb hby dNN_14) hr
  · show QP _ h0 _ s₁.heap _
    exact ⟨rfl, rfl, e0⟩
theorem dRO_0 : decode prog_83_method_11_code 0 = .ok (.iload_n 3, 1) := by decide +kernel
theorem dRO_1 : decode prog_83_method_11_code 1 = .ok (.ifCond .lt 8, 3) := by decide +kernel
theorem dRO_4 : decode prog_83_method_11_code 4 = .ok (.iload_n 3, 1) := by decide +kernel
theorem dRO_5 : decode prog_83_method_11_code 5 = .ok (.iload_n 1, 1) := by decide +kernel
theorem dRO_6 : decode prog_83_method_11_code 6 = .ok (.if_icmp .lt 20, 3) := by decide +kernel
theorem dRO_26 : decode prog_83_method_11_code 26 = .ok (.return_, 1) := by decide +kernel
theorem ef_RO (m : MethodId) (x0 : Addr) (x1 : Int32) (x2 : Addr) (x3 : Int32) : entryFrame m #[(.ref x0), (.int x1), (.ref x2), (.int x3)] 4 = mkF m 0 #[.val (.ref x0), .val (.int x1), .val (.ref x2), .val (.int x3)] [] := by first | (simp [entryFrame, mkF, argsToLocals, Value.category]; done) | rfl
set_option maxRecDepth 65536 in
set_option maxHeartbeats 40000000 in
theorem rmRO (l : Launch) (Z : State) (a0 : Array Value) (hw : ∀ d ∈ tables_1, d.before a0 Z = true) (ws : List Jvm.Cond) (a1 : Addr) (p2 : Int32) (a3 : Addr) (p4 : Int32) (h0 : Heap) (h1 : ¬ p4 < (0 : Int32)) (h2 : p4 < p2) :
    MetFree l (⟨"com/example/allot/allot/partition/Topic", "requireOneOf", "(Ljava/lang/String;ILjava/lang/String;I)V"⟩ : MethodName) (head1 (Jvm.Cond.code (⟨"com/example/allot/allot/partition/Topic", "requireOneOf", "(Ljava/lang/String;ILjava/lang/String;I)V"⟩ : MethodName) prog_83_method_11_code 4 none :: ws) ({ frames := 0, cells := 0, slots := 0, locals := 0 } : Room)) (fun a U => a = #[(.ref a1), (.int p2), (.ref a3), (.int p4)] ∧ Z.Warmed39 U.vm ∧ U.heap = h0) (fun _ _ _ _ _ => True) (fun _ U o U' => ∃ v L, o = .returned v ∧ QP none h0 v U'.heap L ∧ FrameEnd U o U' L ({ frames := 0, cells := 0, slots := 0, locals := 0 } : Room).cells ({ frames := 0, cells := 0, slots := 0, locals := 0 } : Room).slots) := by
  refine MetFree.of_bodySF (plainFor_of_name (by first | (simp [plainName, overriddenIn]; done) | decide +kernel)) hisR ?_
  intro p e s m args below meth c s₁ Bd hml0 hP hK
  obtain ⟨rfl, hZ, hh⟩ := hP
  have hx := Bd.exec
  have hby := Bd.bytes
  have hml : c.maxLocals = 4 := hml0
  have hown : s.vm.findClass "com/example/allot/allot/partition/Topic" = some m.cls := findClass_of_methodNamed Bd.named
  have hnm := (name_of_methodNamed Bd.named Bd.method).1
  have hlk : meth.locks = false := BodyLoose.notSynchronized Bd
  have X0 : Stand p l e ({ frames := 0, cells := 0, slots := 0, locals := 0 } : Room) s m #[(.ref a1), (.int p2), (.ref a3), (.int p4)] below meth c s₁ [] 0 0 := Stand.of_body Bd
  have e0 : s₁.heap = h0 := by rw [← hh, Bd.state]; rfl
  have P0 : ∀ t, Steps p.tables e below (s₁.setTop (mkF m 0 #[.val (.ref a1), .val (.int p2), .val (.ref a3), .val (.int p4)] [])) t → Steps p.tables e below (s₁.setTop (entryFrame m #[(.ref a1), (.int p2), (.ref a3), (.int p4)] 4)) t := fun t kt => castTop (ef_RO m a1 p2 a3 p4) kt
  have P101 : ∀ t, Steps p.tables e below (s₁.setTop (mkF m 26 #[.val (.ref a1), .val (.int p2), .val (.ref a3), .val (.int p4)] [])) t → Steps p.tables e below (s₁.setTop (entryFrame m #[(.ref a1), (.int p2), (.ref a3), (.int p4)] 4)) t := fun t kt => P0 t (by
    show Steps p.tables e below (s₁.setTop (mkF m 0 #[.val (.ref a1), .val (.int p2), .val (.ref a3), .val (.int p4)] [])) _
    refine XS.iloadN X0.here hx rfl (hb hby dRO_0) rfl ?_
    show Steps p.tables e below (s₁.setTop (mkF m 1 #[.val (.ref a1), .val (.int p2), .val (.ref a3), .val (.int p4)] [(.int p4)])) _
    refine XS.ifNo X0.here hx rfl (hb hby dRO_1) rfl ((if0 _ _).trans (flt (h1 : ¬ (p4 < (0 : Int32)))).1) ?_
    show Steps p.tables e below (s₁.setTop (mkF m 4 #[.val (.ref a1), .val (.int p2), .val (.ref a3), .val (.int p4)] [])) _
    refine XS.iloadN X0.here hx rfl (hb hby dRO_4) rfl ?_
    show Steps p.tables e below (s₁.setTop (mkF m 5 #[.val (.ref a1), .val (.int p2), .val (.ref a3), .val (.int p4)] [(.int p4)])) _
    refine XS.iloadN X0.here hx rfl (hb hby dRO_5) rfl ?_
    show Steps p.tables e below (s₁.setTop (mkF m 6 #[.val (.ref a1), .val (.int p2), .val (.ref a3), .val (.int p4)] [(.int p2), (.int p4)])) _
    refine XS.icmpYes X0.here hx rfl (pc0 := 6) (pc' := 26) rfl (hb hby dRO_6) rfl (tlt (h2 : p4 < p2)).1 (by decide) (by decide) ?_
    exact kt)
  obtain ⟨fs, hr, hrun, hended, hW, hsame⟩ := X0.leave (v := none) (fun _ => rfl) (hlocks := hlk)
  refine ⟨_, _, P101 _ ?_, hrun, hended, _, _, rfl, ?_, ⟨_, rfl⟩, hW, hsame.mono (by decide) (by decide)⟩
  · show Steps p.tables e below (s₁.setTop (mkF m 26 #[.val (.ref a1), .val (.int p2), .val (.ref a3), .val (.int p4)] [])) _
    exact X0.returnOut hx Bd.returns (hb hby dRO_26) hr
  · show QP _ h0 _ s₁.heap _
    exact ⟨rfl, rfl, e0⟩
theorem dIS0_0 : decode jdk_2529_method_6_code 0 = .ok (.iload_n 1, 1) := by decide +kernel
theorem dIS0_1 : decode jdk_2529_method_6_code 1 = .ok (.istore 4, 2) := by decide +kernel
theorem dIS0_3 : decode jdk_2529_method_6_code 3 = .ok (.iinc 4 1, 3) := by decide +kernel
theorem dIS0_6 : decode jdk_2529_method_6_code 6 = .ok (.iload 4, 2) := by decide +kernel
theorem dIS0_8 : decode jdk_2529_method_6_code 8 = .ok (.iload_n 2, 1) := by decide +kernel
theorem dIS0_9 : decode jdk_2529_method_6_code 9 = .ok (.if_icmp .ge 58, 3) := by decide +kernel
theorem dIS0_67 : decode jdk_2529_method_6_code 67 = .ok (.return_, 1) := by decide +kernel
theorem ef_IS0 (m : MethodId) (x0 : Addr) : entryFrame m #[(.ref x0), (.int (0 : Int32)), (.int (0 : Int32))] 6 = mkF m 0 #[.val (.ref x0), .val (.int (0 : Int32)), .val (.int (0 : Int32)), .unset, .unset, .unset] [] := by first | (simp [entryFrame, mkF, argsToLocals, Value.category]; done) | rfl
set_option maxRecDepth 65536 in
set_option maxHeartbeats 40000000 in
theorem rmIS0 (l : Launch) (Z : State) (a0 : Array Value) (hw : ∀ d ∈ tables_1, d.before a0 Z = true) (ws : List Jvm.Cond) (a1 : Addr) (k : ClassId) (h0 : Heap) (n0 : Nat) (Z0 : n0 ≤ h0.size) (V1 : Arv Z h0 a1 k .int (0 : Int32) [] (.int (0 : Int32))) (ga : n0 ≤ a1) :
    MetFree l (⟨"java/util/DualPivotQuicksort", "insertionSort", "([III)V"⟩ : MethodName) (head1 (Jvm.Cond.code (⟨"java/util/DualPivotQuicksort", "insertionSort", "([III)V"⟩ : MethodName) jdk_2529_method_6_code 6 none :: ws) ({ frames := 0, cells := 0, slots := 0, locals := 0 } : Room)) (fun a U => a = #[(.ref a1), (.int (0 : Int32)), (.int (0 : Int32))] ∧ Z.Warmed39 U.vm ∧ U.heap = h0) (fun _ _ _ _ _ => True) (fun _ U o U' => ∃ v L, o = .returned v ∧ QS Z a1 k (0 : Int32) [] h0 n0 v U'.heap L ∧ FrameEnd U o U' L ({ frames := 0, cells := 0, slots := 0, locals := 0 } : Room).cells ({ frames := 0, cells := 0, slots := 0, locals := 0 } : Room).slots) := by
  refine MetFree.of_bodySF (plainFor_of_name (by first | (simp [plainName, overriddenIn]; done) | decide +kernel)) hisR ?_
  intro p e s m args below meth c s₁ Bd hml0 hP hK
  obtain ⟨rfl, hZ, hh⟩ := hP
  have hx := Bd.exec
  have hby := Bd.bytes
  have hml : c.maxLocals = 6 := hml0
  have hown : s.vm.findClass "java/util/DualPivotQuicksort" = some m.cls := findClass_of_methodNamed Bd.named
  have hnm := (name_of_methodNamed Bd.named Bd.method).1
  have hlk : meth.locks = false := BodyLoose.notSynchronized Bd
  have X0 : Stand p l e ({ frames := 0, cells := 0, slots := 0, locals := 0 } : Room) s m #[(.ref a1), (.int (0 : Int32)), (.int (0 : Int32))] below meth c s₁ [] 0 0 := Stand.of_body Bd
  have e0 : s₁.heap = h0 := by rw [← hh, Bd.state]; rfl
  have P0 : ∀ t, Steps p.tables e below (s₁.setTop (mkF m 0 #[.val (.ref a1), .val (.int (0 : Int32)), .val (.int (0 : Int32)), .unset, .unset, .unset] [])) t → Steps p.tables e below (s₁.setTop (entryFrame m #[(.ref a1), (.int (0 : Int32)), (.int (0 : Int32))] 6)) t := fun t kt => castTop (ef_IS0 m a1) kt
  have N0 := Fr.nil n0
  have K0 := Keep.refl h0 [a1]
  have P101 : ∀ t, Steps p.tables e below (s₁.setTop (mkF m 67 #[.val (.ref a1), .val (.int (0 : Int32)), .val (.int (0 : Int32)), .unset, .val (.int (1 : Int32)), .unset] [])) t → Steps p.tables e below (s₁.setTop (entryFrame m #[(.ref a1), (.int (0 : Int32)), (.int (0 : Int32))] 6)) t := fun t kt => P0 t (by
    show Steps p.tables e below (s₁.setTop (mkF m 0 #[.val (.ref a1), .val (.int (0 : Int32)), .val (.int (0 : Int32)), .unset, .unset, .unset] [])) _
    refine XS.iloadN X0.here hx rfl (hb hby dIS0_0) rfl ?_
    show Steps p.tables e below (s₁.setTop (mkF m 1 #[.val (.ref a1), .val (.int (0 : Int32)), .val (.int (0 : Int32)), .unset, .unset, .unset] [(.int (0 : Int32))])) _
    refine XS.istore X0.here hx rfl (hb hby dIS0_1) rfl (l' := #[.val (.ref a1), .val (.int (0 : Int32)), .val (.int (0 : Int32)), .unset, .val (.int (0 : Int32)), .unset]) rfl ?_
    show Steps p.tables e below (s₁.setTop (mkF m 3 #[.val (.ref a1), .val (.int (0 : Int32)), .val (.int (0 : Int32)), .unset, .val (.int (0 : Int32)), .unset] [])) _
    refine XS.iinc X0.here hx rfl (hb hby dIS0_3) rfl (l' := #[.val (.ref a1), .val (.int (0 : Int32)), .val (.int (0 : Int32)), .unset, .val (.int (1 : Int32)), .unset]) rfl ?_
    show Steps p.tables e below (s₁.setTop (mkF m 6 #[.val (.ref a1), .val (.int (0 : Int32)), .val (.int (0 : Int32)), .unset, .val (.int (1 : Int32)), .unset] [])) _
    refine XS.iload X0.here hx rfl (hb hby dIS0_6) rfl ?_
    show Steps p.tables e below (s₁.setTop (mkF m 8 #[.val (.ref a1), .val (.int (0 : Int32)), .val (.int (0 : Int32)), .unset, .val (.int (1 : Int32)), .unset] [(.int (1 : Int32))])) _
    refine XS.iloadN X0.here hx rfl (hb hby dIS0_8) rfl ?_
    show Steps p.tables e below (s₁.setTop (mkF m 9 #[.val (.ref a1), .val (.int (0 : Int32)), .val (.int (0 : Int32)), .unset, .val (.int (1 : Int32)), .unset] [(.int (0 : Int32)), (.int (1 : Int32))])) _
    refine XS.icmpYes X0.here hx rfl (pc0 := 9) (pc' := 67) rfl (hb hby dIS0_9) rfl (flt ((by decide) : ¬ ((1 : Int32) < (0 : Int32)))).2.1 (by decide) (by decide) ?_
    exact kt)
  obtain ⟨fs, hr, hrun, hended, hW, hsame⟩ := X0.leave (v := none) (fun _ => rfl) (hlocks := hlk)
  refine ⟨_, _, P101 _ ?_, hrun, hended, _, _, rfl, ?_, ⟨_, rfl⟩, hW, hsame.mono (by decide) (by decide)⟩
  · show Steps p.tables e below (s₁.setTop (mkF m 67 #[.val (.ref a1), .val (.int (0 : Int32)), .val (.int (0 : Int32)), .unset, .val (.int (1 : Int32)), .unset] [])) _
    exact X0.returnOut hx Bd.returns (hb hby dIS0_67) hr
  · show QS Z a1 k (0 : Int32) [] h0 n0 _ s₁.heap _
    rw [e0]
    exact ⟨rfl, N0, K0, V1⟩
theorem dS50_0 : decode jdk_2529_method_4_code 0 = .ok (.iload 4, 2) := by decide +kernel
theorem dS50_2 : decode jdk_2529_method_4_code 2 = .ok (.iconst 1, 1) := by decide +kernel
theorem dS50_3 : decode jdk_2529_method_4_code 3 = .ok (.isub, 1) := by decide +kernel
theorem dS50_4 : decode jdk_2529_method_4_code 4 = .ok (.istore 5, 2) := by decide +kernel
theorem dS50_6 : decode jdk_2529_method_4_code 6 = .ok (.iload 4, 2) := by decide +kernel
theorem dS50_8 : decode jdk_2529_method_4_code 8 = .ok (.iload_n 3, 1) := by decide +kernel
theorem dS50_9 : decode jdk_2529_method_4_code 9 = .ok (.isub, 1) := by decide +kernel
theorem dS50_10 : decode jdk_2529_method_4_code 10 = .ok (.istore 6, 2) := by decide +kernel
theorem dS50_12 : decode jdk_2529_method_4_code 12 = .ok (.iload 6, 2) := by decide +kernel
theorem dS50_14 : decode jdk_2529_method_4_code 14 = .ok (.bipush 65, 2) := by decide +kernel
theorem dS50_16 : decode jdk_2529_method_4_code 16 = .ok (.iload_n 2, 1) := by decide +kernel
theorem dS50_17 : decode jdk_2529_method_4_code 17 = .ok (.iadd, 1) := by decide +kernel
theorem dS50_18 : decode jdk_2529_method_4_code 18 = .ok (.if_icmp .ge 28, 3) := by decide +kernel
theorem dS50_21 : decode jdk_2529_method_4_code 21 = .ok (.iload_n 2, 1) := by decide +kernel
theorem dS50_22 : decode jdk_2529_method_4_code 22 = .ok (.iconst 1, 1) := by decide +kernel
theorem dS50_23 : decode jdk_2529_method_4_code 23 = .ok (.iand, 1) := by decide +kernel
theorem dS50_24 : decode jdk_2529_method_4_code 24 = .ok (.ifCond .le 22, 3) := by decide +kernel
theorem dS50_46 : decode jdk_2529_method_4_code 46 = .ok (.iload 6, 2) := by decide +kernel
theorem dS50_48 : decode jdk_2529_method_4_code 48 = .ok (.bipush 44, 2) := by decide +kernel
theorem dS50_50 : decode jdk_2529_method_4_code 50 = .ok (.if_icmp .ge 11, 3) := by decide +kernel
theorem dS50_53 : decode jdk_2529_method_4_code 53 = .ok (.aload_n 1, 1) := by decide +kernel
theorem dS50_54 : decode jdk_2529_method_4_code 54 = .ok (.iload_n 3, 1) := by decide +kernel
theorem dS50_55 : decode jdk_2529_method_4_code 55 = .ok (.iload 4, 2) := by decide +kernel
theorem dS50_57 : decode jdk_2529_method_4_code 57 = .ok (.invokestatic 34, 3) := by decide +kernel
theorem dS50_60 : decode jdk_2529_method_4_code 60 = .ok (.return_, 1) := by decide +kernel
theorem ef_S50 (m : MethodId) (x1 : Addr) : entryFrame m #[.null, (.ref x1), (.int (0 : Int32)), (.int (0 : Int32)), (.int (0 : Int32))] 21 = mkF m 0 #[.val .null, .val (.ref x1), .val (.int (0 : Int32)), .val (.int (0 : Int32)), .val (.int (0 : Int32)), .unset, .unset, .unset, .unset, .unset, .unset, .unset, .unset, .unset, .unset, .unset, .unset, .unset, .unset, .unset, .unset] [] := by first | (simp [entryFrame, mkF, argsToLocals, Value.category]; done) | rfl
set_option maxRecDepth 65536 in
set_option maxHeartbeats 40000000 in
theorem rmS50 (l : Launch) (Z : State) (a0 : Array Value) (hw : ∀ d ∈ tables_1, d.before a0 Z = true) (ws : List Jvm.Cond) (a1 : Addr) (k : ClassId) (h0 : Heap) (n0 : Nat) (Z0 : n0 ≤ h0.size) (V1 : Arv Z h0 a1 k .int (0 : Int32) [] (.int (0 : Int32))) (ga : n0 ≤ a1) :
    MetFree l (⟨"java/util/DualPivotQuicksort", "sort", "(Ljava/util/DualPivotQuicksort$Sorter;[IIII)V"⟩ : MethodName) (head1 (Jvm.Cond.code (⟨"java/util/DualPivotQuicksort", "sort", "(Ljava/util/DualPivotQuicksort$Sorter;[IIII)V"⟩ : MethodName) jdk_2529_method_4_code 21 none :: ws) ({ frames := 1, cells := 0, slots := 0, locals := 17 } : Room)) (fun a U => a = #[.null, (.ref a1), (.int (0 : Int32)), (.int (0 : Int32)), (.int (0 : Int32))] ∧ Z.Warmed39 U.vm ∧ U.heap = h0) (fun _ _ _ _ _ => True) (fun _ U o U' => ∃ v L, o = .returned v ∧ QS Z a1 k (0 : Int32) [] h0 n0 v U'.heap L ∧ FrameEnd U o U' L ({ frames := 1, cells := 0, slots := 0, locals := 17 } : Room).cells ({ frames := 1, cells := 0, slots := 0, locals := 17 } : Room).slots) := by
  refine MetFree.of_bodySF (plainFor_of_name (by first | (simp [plainName, overriddenIn]; done) | decide +kernel)) hisR ?_
  intro p e s m args below meth c s₁ Bd hml0 hP hK
  obtain ⟨rfl, hZ, hh⟩ := hP
  have hx := Bd.exec
  have hby := Bd.bytes
  have hml : c.maxLocals = 21 := hml0
  have hown : s.vm.findClass "java/util/DualPivotQuicksort" = some m.cls := findClass_of_methodNamed Bd.named
  have hnm := (name_of_methodNamed Bd.named Bd.method).1
  have hlk : meth.locks = false := BodyLoose.notSynchronized Bd
  have X0 : Stand p l e ({ frames := 1, cells := 0, slots := 0, locals := 17 } : Room) s m #[.null, (.ref a1), (.int (0 : Int32)), (.int (0 : Int32)), (.int (0 : Int32))] below meth c s₁ [] 0 0 := Stand.of_body Bd
  have e0 : s₁.heap = h0 := by rw [← hh, Bd.state]; rfl
  have P0 : ∀ t, Steps p.tables e below (s₁.setTop (mkF m 0 #[.val .null, .val (.ref a1), .val (.int (0 : Int32)), .val (.int (0 : Int32)), .val (.int (0 : Int32)), .unset, .unset, .unset, .unset, .unset, .unset, .unset, .unset, .unset, .unset, .unset, .unset, .unset, .unset, .unset, .unset] [])) t → Steps p.tables e below (s₁.setTop (entryFrame m #[.null, (.ref a1), (.int (0 : Int32)), (.int (0 : Int32)), (.int (0 : Int32))] 21)) t := fun t kt => castTop (ef_S50 m a1) kt
  have N0 := Fr.nil n0
  have K0 := Keep.refl h0 [a1]
  obtain ⟨_, _, ⟨T101, L101, k101, n101⟩, -, X101, ⟨Lc101, hQ101, l101, y101, z101⟩, st101⟩ := Jvm.LawKit.callS X0 hx (y := (⟨"java/util/DualPivotQuicksort", "insertionSort", "([III)V"⟩ : MethodName)) hown (mvT hZ (hw _ (List.mem_of_getElem? (i := 53) rfl))) (mvT hZ (hw _ (List.mem_of_getElem? (i := 54) rfl))) (mvT hZ (hw _ (List.mem_of_getElem? (i := 48) rfl))) (mvT hZ (hw _ (List.mem_of_getElem? (i := 55) rfl))) (by decide) (backOf (W := 0)  (rmIS0 l Z a0 hw [] a1 k  h0 n0 Z0 V1 ga ) hZ (hw _ (List.mem_of_getElem? (i := 55) rfl)) (hw _ (List.mem_of_getElem? (i := 48) rfl)) (by decide) (by decide)) (g := (mkF m 57 #[.val .null, .val (.ref a1), .val (.int (0 : Int32)), .val (.int (0 : Int32)), .val (.int (0 : Int32)), .val (.int (-1 : Int32)), .val (.int (0 : Int32)), .unset, .unset, .unset, .unset, .unset, .unset, .unset, .unset, .unset, .unset, .unset, .unset, .unset, .unset] [(.int (0 : Int32)), (.int (0 : Int32)), (.ref a1)])) rfl (by rw [hml]; rfl) (argsL := [(.ref a1), (.int (0 : Int32)), (.int (0 : Int32))]) (rest := []) (lenOf pd___III_V rfl) rfl (by show 2 * 0 + _ ≤ _; exact Nat.le_of_eq rfl) (hb hby dS50_57) (fun _ _ => ⟨rfl, e0, (by decide : 0 + 0 ≤ _), (by decide : 0 + 0 ≤ _)⟩)
  dsimp only [Pt.U, Pt.locs, Pt.cells, Pt.slots] at X101 l101 y101 z101 st101 hQ101
  subst l101 y101 z101
  obtain ⟨rfl, Nq101, K101x, V101x⟩ := hQ101
  have N101 := Fr.app N0 Nq101
  have sz101 : n0 ≤ T101.heap.size := Nat.le_trans Z0 K101x.1
  have K101 : Keep h0 T101.heap [a1] := K0.trans K101x (fun x hx => by cases List.mem_singleton.mp hx; exact Or.inl (List.mem_of_getElem? (i := 0) rfl))
  have P102 : ∀ t, Steps p.tables e below (T101.setTop (mkF m 60 #[.val .null, .val (.ref a1), .val (.int (0 : Int32)), .val (.int (0 : Int32)), .val (.int (0 : Int32)), .val (.int (-1 : Int32)), .val (.int (0 : Int32)), .unset, .unset, .unset, .unset, .unset, .unset, .unset, .unset, .unset, .unset, .unset, .unset, .unset, .unset] [])) t → Steps p.tables e below (s₁.setTop (entryFrame m #[.null, (.ref a1), (.int (0 : Int32)), (.int (0 : Int32)), (.int (0 : Int32))] 21)) t := fun t kt => P0 t (by
    show Steps p.tables e below (s₁.setTop (mkF m 0 #[.val .null, .val (.ref a1), .val (.int (0 : Int32)), .val (.int (0 : Int32)), .val (.int (0 : Int32)), .unset, .unset, .unset, .unset, .unset, .unset, .unset, .unset, .unset, .unset, .unset, .unset, .unset, .unset, .unset, .unset] [])) _
    refine XS.iload X0.here hx rfl (hb hby dS50_0) rfl ?_
    show Steps p.tables e below (s₁.setTop (mkF m 2 #[.val .null, .val (.ref a1), .val (.int (0 : Int32)), .val (.int (0 : Int32)), .val (.int (0 : Int32)), .unset, .unset, .unset, .unset, .unset, .unset, .unset, .unset, .unset, .unset, .unset, .unset, .unset, .unset, .unset, .unset] [(.int (0 : Int32))])) _
    refine XS.iconst X0.here hx rfl (hb hby dS50_2) ?_
    show Steps p.tables e below (s₁.setTop (mkF m 3 #[.val .null, .val (.ref a1), .val (.int (0 : Int32)), .val (.int (0 : Int32)), .val (.int (0 : Int32)), .unset, .unset, .unset, .unset, .unset, .unset, .unset, .unset, .unset, .unset, .unset, .unset, .unset, .unset, .unset, .unset] [(.int (1 : Int32)), (.int (0 : Int32))])) _
    refine XS.isub X0.here hx rfl (hb hby dS50_3) rfl ?_
    show Steps p.tables e below (s₁.setTop (mkF m 4 #[.val .null, .val (.ref a1), .val (.int (0 : Int32)), .val (.int (0 : Int32)), .val (.int (0 : Int32)), .unset, .unset, .unset, .unset, .unset, .unset, .unset, .unset, .unset, .unset, .unset, .unset, .unset, .unset, .unset, .unset] [(.int (-1 : Int32))])) _
    refine XS.istore X0.here hx rfl (hb hby dS50_4) rfl (l' := #[.val .null, .val (.ref a1), .val (.int (0 : Int32)), .val (.int (0 : Int32)), .val (.int (0 : Int32)), .val (.int (-1 : Int32)), .unset, .unset, .unset, .unset, .unset, .unset, .unset, .unset, .unset, .unset, .unset, .unset, .unset, .unset, .unset]) rfl ?_
    show Steps p.tables e below (s₁.setTop (mkF m 6 #[.val .null, .val (.ref a1), .val (.int (0 : Int32)), .val (.int (0 : Int32)), .val (.int (0 : Int32)), .val (.int (-1 : Int32)), .unset, .unset, .unset, .unset, .unset, .unset, .unset, .unset, .unset, .unset, .unset, .unset, .unset, .unset, .unset] [])) _
    refine XS.iload X0.here hx rfl (hb hby dS50_6) rfl ?_
    show Steps p.tables e below (s₁.setTop (mkF m 8 #[.val .null, .val (.ref a1), .val (.int (0 : Int32)), .val (.int (0 : Int32)), .val (.int (0 : Int32)), .val (.int (-1 : Int32)), .unset, .unset, .unset, .unset, .unset, .unset, .unset, .unset, .unset, .unset, .unset, .unset, .unset, .unset, .unset] [(.int (0 : Int32))])) _
    refine XS.iloadN X0.here hx rfl (hb hby dS50_8) rfl ?_
    show Steps p.tables e below (s₁.setTop (mkF m 9 #[.val .null, .val (.ref a1), .val (.int (0 : Int32)), .val (.int (0 : Int32)), .val (.int (0 : Int32)), .val (.int (-1 : Int32)), .unset, .unset, .unset, .unset, .unset, .unset, .unset, .unset, .unset, .unset, .unset, .unset, .unset, .unset, .unset] [(.int (0 : Int32)), (.int (0 : Int32))])) _
    refine XS.isub X0.here hx rfl (hb hby dS50_9) rfl ?_
    show Steps p.tables e below (s₁.setTop (mkF m 10 #[.val .null, .val (.ref a1), .val (.int (0 : Int32)), .val (.int (0 : Int32)), .val (.int (0 : Int32)), .val (.int (-1 : Int32)), .unset, .unset, .unset, .unset, .unset, .unset, .unset, .unset, .unset, .unset, .unset, .unset, .unset, .unset, .unset] [(.int (0 : Int32))])) _
    refine XS.istore X0.here hx rfl (hb hby dS50_10) rfl (l' := #[.val .null, .val (.ref a1), .val (.int (0 : Int32)), .val (.int (0 : Int32)), .val (.int (0 : Int32)), .val (.int (-1 : Int32)), .val (.int (0 : Int32)), .unset, .unset, .unset, .unset, .unset, .unset, .unset, .unset, .unset, .unset, .unset, .unset, .unset, .unset]) rfl ?_
    show Steps p.tables e below (s₁.setTop (mkF m 12 #[.val .null, .val (.ref a1), .val (.int (0 : Int32)), .val (.int (0 : Int32)), .val (.int (0 : Int32)), .val (.int (-1 : Int32)), .val (.int (0 : Int32)), .unset, .unset, .unset, .unset, .unset, .unset, .unset, .unset, .unset, .unset, .unset, .unset, .unset, .unset] [])) _
    refine XS.iload X0.here hx rfl (hb hby dS50_12) rfl ?_
    show Steps p.tables e below (s₁.setTop (mkF m 14 #[.val .null, .val (.ref a1), .val (.int (0 : Int32)), .val (.int (0 : Int32)), .val (.int (0 : Int32)), .val (.int (-1 : Int32)), .val (.int (0 : Int32)), .unset, .unset, .unset, .unset, .unset, .unset, .unset, .unset, .unset, .unset, .unset, .unset, .unset, .unset] [(.int (0 : Int32))])) _
    refine XS.bipush X0.here hx rfl (hb hby dS50_14) ?_
    show Steps p.tables e below (s₁.setTop (mkF m 16 #[.val .null, .val (.ref a1), .val (.int (0 : Int32)), .val (.int (0 : Int32)), .val (.int (0 : Int32)), .val (.int (-1 : Int32)), .val (.int (0 : Int32)), .unset, .unset, .unset, .unset, .unset, .unset, .unset, .unset, .unset, .unset, .unset, .unset, .unset, .unset] [(.int (65 : Int32)), (.int (0 : Int32))])) _
    refine XS.iloadN X0.here hx rfl (hb hby dS50_16) rfl ?_
    show Steps p.tables e below (s₁.setTop (mkF m 17 #[.val .null, .val (.ref a1), .val (.int (0 : Int32)), .val (.int (0 : Int32)), .val (.int (0 : Int32)), .val (.int (-1 : Int32)), .val (.int (0 : Int32)), .unset, .unset, .unset, .unset, .unset, .unset, .unset, .unset, .unset, .unset, .unset, .unset, .unset, .unset] [(.int (0 : Int32)), (.int (65 : Int32)), (.int (0 : Int32))])) _
    refine XS.iadd X0.here hx rfl (hb hby dS50_17) rfl ?_
    show Steps p.tables e below (s₁.setTop (mkF m 18 #[.val .null, .val (.ref a1), .val (.int (0 : Int32)), .val (.int (0 : Int32)), .val (.int (0 : Int32)), .val (.int (-1 : Int32)), .val (.int (0 : Int32)), .unset, .unset, .unset, .unset, .unset, .unset, .unset, .unset, .unset, .unset, .unset, .unset, .unset, .unset] [(.int (65 : Int32)), (.int (0 : Int32))])) _
    refine XS.icmpNo X0.here hx rfl (hb hby dS50_18) rfl (tlt ((by decide) : (0 : Int32) < (65 : Int32))).2.1 ?_
    show Steps p.tables e below (s₁.setTop (mkF m 21 #[.val .null, .val (.ref a1), .val (.int (0 : Int32)), .val (.int (0 : Int32)), .val (.int (0 : Int32)), .val (.int (-1 : Int32)), .val (.int (0 : Int32)), .unset, .unset, .unset, .unset, .unset, .unset, .unset, .unset, .unset, .unset, .unset, .unset, .unset, .unset] [])) _
    refine XS.iloadN X0.here hx rfl (hb hby dS50_21) rfl ?_
    show Steps p.tables e below (s₁.setTop (mkF m 22 #[.val .null, .val (.ref a1), .val (.int (0 : Int32)), .val (.int (0 : Int32)), .val (.int (0 : Int32)), .val (.int (-1 : Int32)), .val (.int (0 : Int32)), .unset, .unset, .unset, .unset, .unset, .unset, .unset, .unset, .unset, .unset, .unset, .unset, .unset, .unset] [(.int (0 : Int32))])) _
    refine XS.iconst X0.here hx rfl (hb hby dS50_22) ?_
    show Steps p.tables e below (s₁.setTop (mkF m 23 #[.val .null, .val (.ref a1), .val (.int (0 : Int32)), .val (.int (0 : Int32)), .val (.int (0 : Int32)), .val (.int (-1 : Int32)), .val (.int (0 : Int32)), .unset, .unset, .unset, .unset, .unset, .unset, .unset, .unset, .unset, .unset, .unset, .unset, .unset, .unset] [(.int (1 : Int32)), (.int (0 : Int32))])) _
    refine XS.iand X0.here hx rfl (hb hby dS50_23) rfl ?_
    show Steps p.tables e below (s₁.setTop (mkF m 24 #[.val .null, .val (.ref a1), .val (.int (0 : Int32)), .val (.int (0 : Int32)), .val (.int (0 : Int32)), .val (.int (-1 : Int32)), .val (.int (0 : Int32)), .unset, .unset, .unset, .unset, .unset, .unset, .unset, .unset, .unset, .unset, .unset, .unset, .unset, .unset] [(.int (0 : Int32))])) _
    refine XS.ifYes X0.here hx rfl (pc0 := 24) (pc' := 46) rfl (hb hby dS50_24) rfl ((if0 _ _).trans (flt ((by decide) : ¬ ((0 : Int32) < (0 : Int32)))).2.2.2) (by decide) (by decide) ?_
    show Steps p.tables e below (s₁.setTop (mkF m 46 #[.val .null, .val (.ref a1), .val (.int (0 : Int32)), .val (.int (0 : Int32)), .val (.int (0 : Int32)), .val (.int (-1 : Int32)), .val (.int (0 : Int32)), .unset, .unset, .unset, .unset, .unset, .unset, .unset, .unset, .unset, .unset, .unset, .unset, .unset, .unset] [])) _
    refine XS.iload X0.here hx rfl (hb hby dS50_46) rfl ?_
    show Steps p.tables e below (s₁.setTop (mkF m 48 #[.val .null, .val (.ref a1), .val (.int (0 : Int32)), .val (.int (0 : Int32)), .val (.int (0 : Int32)), .val (.int (-1 : Int32)), .val (.int (0 : Int32)), .unset, .unset, .unset, .unset, .unset, .unset, .unset, .unset, .unset, .unset, .unset, .unset, .unset, .unset] [(.int (0 : Int32))])) _
    refine XS.bipush X0.here hx rfl (hb hby dS50_48) ?_
    show Steps p.tables e below (s₁.setTop (mkF m 50 #[.val .null, .val (.ref a1), .val (.int (0 : Int32)), .val (.int (0 : Int32)), .val (.int (0 : Int32)), .val (.int (-1 : Int32)), .val (.int (0 : Int32)), .unset, .unset, .unset, .unset, .unset, .unset, .unset, .unset, .unset, .unset, .unset, .unset, .unset, .unset] [(.int (44 : Int32)), (.int (0 : Int32))])) _
    refine XS.icmpNo X0.here hx rfl (hb hby dS50_50) rfl (tlt ((by decide) : (0 : Int32) < (44 : Int32))).2.1 ?_
    show Steps p.tables e below (s₁.setTop (mkF m 53 #[.val .null, .val (.ref a1), .val (.int (0 : Int32)), .val (.int (0 : Int32)), .val (.int (0 : Int32)), .val (.int (-1 : Int32)), .val (.int (0 : Int32)), .unset, .unset, .unset, .unset, .unset, .unset, .unset, .unset, .unset, .unset, .unset, .unset, .unset, .unset] [])) _
    refine XS.aloadN X0.here hx rfl (hb hby dS50_53) rfl rfl ?_
    show Steps p.tables e below (s₁.setTop (mkF m 54 #[.val .null, .val (.ref a1), .val (.int (0 : Int32)), .val (.int (0 : Int32)), .val (.int (0 : Int32)), .val (.int (-1 : Int32)), .val (.int (0 : Int32)), .unset, .unset, .unset, .unset, .unset, .unset, .unset, .unset, .unset, .unset, .unset, .unset, .unset, .unset] [(.ref a1)])) _
    refine XS.iloadN X0.here hx rfl (hb hby dS50_54) rfl ?_
    show Steps p.tables e below (s₁.setTop (mkF m 55 #[.val .null, .val (.ref a1), .val (.int (0 : Int32)), .val (.int (0 : Int32)), .val (.int (0 : Int32)), .val (.int (-1 : Int32)), .val (.int (0 : Int32)), .unset, .unset, .unset, .unset, .unset, .unset, .unset, .unset, .unset, .unset, .unset, .unset, .unset, .unset] [(.int (0 : Int32)), (.ref a1)])) _
    refine XS.iload X0.here hx rfl (hb hby dS50_55) rfl ?_
    show Steps p.tables e below (s₁.setTop (mkF m 57 #[.val .null, .val (.ref a1), .val (.int (0 : Int32)), .val (.int (0 : Int32)), .val (.int (0 : Int32)), .val (.int (-1 : Int32)), .val (.int (0 : Int32)), .unset, .unset, .unset, .unset, .unset, .unset, .unset, .unset, .unset, .unset, .unset, .unset, .unset, .unset] [(.int (0 : Int32)), (.int (0 : Int32)), (.ref a1)])) _
    refine st101 _ ?_
    exact kt)
  obtain ⟨fs, hr, hrun, hended, hW, hsame⟩ := X101.leave (v := none) (fun _ => rfl) (hlocks := hlk)
  refine ⟨_, _, P102 _ ?_, hrun, hended, _, _, rfl, ?_, ⟨_, rfl⟩, hW, hsame.mono (by decide) (by decide)⟩
  · show Steps p.tables e below (T101.setTop (mkF m 60 #[.val .null, .val (.ref a1), .val (.int (0 : Int32)), .val (.int (0 : Int32)), .val (.int (0 : Int32)), .val (.int (-1 : Int32)), .val (.int (0 : Int32)), .unset, .unset, .unset, .unset, .unset, .unset, .unset, .unset, .unset, .unset, .unset, .unset, .unset, .unset] [])) _
    exact X101.returnOut hx Bd.returns (hb hby dS50_60) hr
  · show QS Z a1 k (0 : Int32) [] h0 n0 _ T101.heap _
    skip
    exact ⟨rfl, N101, K101, V101x⟩
theorem dS40_0 : decode jdk_2529_method_3_code 0 = .ok (.iload_n 3, 1) := by decide +kernel
theorem dS40_1 : decode jdk_2529_method_3_code 1 = .ok (.iload_n 2, 1) := by decide +kernel
theorem dS40_2 : decode jdk_2529_method_3_code 2 = .ok (.isub, 1) := by decide +kernel
theorem dS40_3 : decode jdk_2529_method_3_code 3 = .ok (.istore 4, 2) := by decide +kernel
theorem dS40_5 : decode jdk_2529_method_3_code 5 = .ok (.iload_n 1, 1) := by decide +kernel
theorem dS40_6 : decode jdk_2529_method_3_code 6 = .ok (.iconst 1, 1) := by decide +kernel
theorem dS40_7 : decode jdk_2529_method_3_code 7 = .ok (.if_icmp .le 61, 3) := by decide +kernel
theorem dS40_68 : decode jdk_2529_method_3_code 68 = .ok (.aconst_null, 1) := by decide +kernel
theorem dS40_69 : decode jdk_2529_method_3_code 69 = .ok (.aload_n 0, 1) := by decide +kernel
theorem dS40_70 : decode jdk_2529_method_3_code 70 = .ok (.iconst 0, 1) := by decide +kernel
theorem dS40_71 : decode jdk_2529_method_3_code 71 = .ok (.iload_n 2, 1) := by decide +kernel
theorem dS40_72 : decode jdk_2529_method_3_code 72 = .ok (.iload_n 3, 1) := by decide +kernel
theorem dS40_73 : decode jdk_2529_method_3_code 73 = .ok (.invokestatic 26, 3) := by decide +kernel
theorem dS40_76 : decode jdk_2529_method_3_code 76 = .ok (.return_, 1) := by decide +kernel
theorem ef_S40 (m : MethodId) (x0 : Addr) : entryFrame m #[(.ref x0), (.int (0 : Int32)), (.int (0 : Int32)), (.int (0 : Int32))] 7 = mkF m 0 #[.val (.ref x0), .val (.int (0 : Int32)), .val (.int (0 : Int32)), .val (.int (0 : Int32)), .unset, .unset, .unset] [] := by first | (simp [entryFrame, mkF, argsToLocals, Value.category]; done) | rfl
set_option maxRecDepth 65536 in
set_option maxHeartbeats 40000000 in
theorem rmS40 (l : Launch) (Z : State) (a0 : Array Value) (hw : ∀ d ∈ tables_1, d.before a0 Z = true) (ws : List Jvm.Cond) (a1 : Addr) (k : ClassId) (h0 : Heap) (n0 : Nat) (Z0 : n0 ≤ h0.size) (V1 : Arv Z h0 a1 k .int (0 : Int32) [] (.int (0 : Int32))) (ga : n0 ≤ a1) :
    MetFree l (⟨"java/util/DualPivotQuicksort", "sort", "([IIII)V"⟩ : MethodName) (head1 (Jvm.Cond.code (⟨"java/util/DualPivotQuicksort", "sort", "([IIII)V"⟩ : MethodName) jdk_2529_method_3_code 7 none :: ws) ({ frames := 2, cells := 0, slots := 0, locals := 49 } : Room)) (fun a U => a = #[(.ref a1), (.int (0 : Int32)), (.int (0 : Int32)), (.int (0 : Int32))] ∧ Z.Warmed39 U.vm ∧ U.heap = h0) (fun _ _ _ _ _ => True) (fun _ U o U' => ∃ v L, o = .returned v ∧ QS Z a1 k (0 : Int32) [] h0 n0 v U'.heap L ∧ FrameEnd U o U' L ({ frames := 2, cells := 0, slots := 0, locals := 49 } : Room).cells ({ frames := 2, cells := 0, slots := 0, locals := 49 } : Room).slots) := by
  refine MetFree.of_bodySF (plainFor_of_name (by first | (simp [plainName, overriddenIn]; done) | decide +kernel)) hisR ?_
  intro p e s m args below meth c s₁ Bd hml0 hP hK
  obtain ⟨rfl, hZ, hh⟩ := hP
  have hx := Bd.exec
  have hby := Bd.bytes
  have hml : c.maxLocals = 7 := hml0
  have hown : s.vm.findClass "java/util/DualPivotQuicksort" = some m.cls := findClass_of_methodNamed Bd.named
  have hnm := (name_of_methodNamed Bd.named Bd.method).1
  have hlk : meth.locks = false := BodyLoose.notSynchronized Bd
  have X0 : Stand p l e ({ frames := 2, cells := 0, slots := 0, locals := 49 } : Room) s m #[(.ref a1), (.int (0 : Int32)), (.int (0 : Int32)), (.int (0 : Int32))] below meth c s₁ [] 0 0 := Stand.of_body Bd
  have e0 : s₁.heap = h0 := by rw [← hh, Bd.state]; rfl
  have P0 : ∀ t, Steps p.tables e below (s₁.setTop (mkF m 0 #[.val (.ref a1), .val (.int (0 : Int32)), .val (.int (0 : Int32)), .val (.int (0 : Int32)), .unset, .unset, .unset] [])) t → Steps p.tables e below (s₁.setTop (entryFrame m #[(.ref a1), (.int (0 : Int32)), (.int (0 : Int32)), (.int (0 : Int32))] 7)) t := fun t kt => castTop (ef_S40 m a1) kt
  have N0 := Fr.nil n0
  have K0 := Keep.refl h0 [a1]
  obtain ⟨_, _, ⟨T101, L101, k101, n101⟩, -, X101, ⟨Lc101, hQ101, l101, y101, z101⟩, st101⟩ := Jvm.LawKit.callS X0 hx (y := (⟨"java/util/DualPivotQuicksort", "sort", "(Ljava/util/DualPivotQuicksort$Sorter;[IIII)V"⟩ : MethodName)) hown (mvT hZ (hw _ (List.mem_of_getElem? (i := 50) rfl))) (mvT hZ (hw _ (List.mem_of_getElem? (i := 51) rfl))) (mvT hZ (hw _ (List.mem_of_getElem? (i := 48) rfl))) (mvT hZ (hw _ (List.mem_of_getElem? (i := 52) rfl))) (by decide) (backOf (W := 0)  (rmS50 l Z a0 hw [] a1 k  h0 n0 Z0 V1 ga ) hZ (hw _ (List.mem_of_getElem? (i := 52) rfl)) (hw _ (List.mem_of_getElem? (i := 48) rfl)) (by decide) (by decide)) (g := (mkF m 73 #[.val (.ref a1), .val (.int (0 : Int32)), .val (.int (0 : Int32)), .val (.int (0 : Int32)), .val (.int (0 : Int32)), .unset, .unset] [(.int (0 : Int32)), (.int (0 : Int32)), (.int (0 : Int32)), (.ref a1), .null])) rfl (by rw [hml]; rfl) (argsL := [.null, (.ref a1), (.int (0 : Int32)), (.int (0 : Int32)), (.int (0 : Int32))]) (rest := []) (lenOf pd__Ljava_util_DualPivotQuicksort_Sorter__IIII_V rfl) rfl (by show 2 * 0 + _ ≤ _; exact Nat.le_of_eq rfl) (hb hby dS40_73) (fun _ _ => ⟨rfl, e0, (by decide : 0 + 0 ≤ _), (by decide : 0 + 0 ≤ _)⟩)
  dsimp only [Pt.U, Pt.locs, Pt.cells, Pt.slots] at X101 l101 y101 z101 st101 hQ101
  subst l101 y101 z101
  obtain ⟨rfl, Nq101, K101x, V101x⟩ := hQ101
  have N101 := Fr.app N0 Nq101
  have sz101 : n0 ≤ T101.heap.size := Nat.le_trans Z0 K101x.1
  have K101 : Keep h0 T101.heap [a1] := K0.trans K101x (fun x hx => by cases List.mem_singleton.mp hx; exact Or.inl (List.mem_of_getElem? (i := 0) rfl))
  have P102 : ∀ t, Steps p.tables e below (T101.setTop (mkF m 76 #[.val (.ref a1), .val (.int (0 : Int32)), .val (.int (0 : Int32)), .val (.int (0 : Int32)), .val (.int (0 : Int32)), .unset, .unset] [])) t → Steps p.tables e below (s₁.setTop (entryFrame m #[(.ref a1), (.int (0 : Int32)), (.int (0 : Int32)), (.int (0 : Int32))] 7)) t := fun t kt => P0 t (by
    show Steps p.tables e below (s₁.setTop (mkF m 0 #[.val (.ref a1), .val (.int (0 : Int32)), .val (.int (0 : Int32)), .val (.int (0 : Int32)), .unset, .unset, .unset] [])) _
    refine XS.iloadN X0.here hx rfl (hb hby dS40_0) rfl ?_
    show Steps p.tables e below (s₁.setTop (mkF m 1 #[.val (.ref a1), .val (.int (0 : Int32)), .val (.int (0 : Int32)), .val (.int (0 : Int32)), .unset, .unset, .unset] [(.int (0 : Int32))])) _
    refine XS.iloadN X0.here hx rfl (hb hby dS40_1) rfl ?_
    show Steps p.tables e below (s₁.setTop (mkF m 2 #[.val (.ref a1), .val (.int (0 : Int32)), .val (.int (0 : Int32)), .val (.int (0 : Int32)), .unset, .unset, .unset] [(.int (0 : Int32)), (.int (0 : Int32))])) _
    refine XS.isub X0.here hx rfl (hb hby dS40_2) rfl ?_
    show Steps p.tables e below (s₁.setTop (mkF m 3 #[.val (.ref a1), .val (.int (0 : Int32)), .val (.int (0 : Int32)), .val (.int (0 : Int32)), .unset, .unset, .unset] [(.int (0 : Int32))])) _
    refine XS.istore X0.here hx rfl (hb hby dS40_3) rfl (l' := #[.val (.ref a1), .val (.int (0 : Int32)), .val (.int (0 : Int32)), .val (.int (0 : Int32)), .val (.int (0 : Int32)), .unset, .unset]) rfl ?_
    show Steps p.tables e below (s₁.setTop (mkF m 5 #[.val (.ref a1), .val (.int (0 : Int32)), .val (.int (0 : Int32)), .val (.int (0 : Int32)), .val (.int (0 : Int32)), .unset, .unset] [])) _
    refine XS.iloadN X0.here hx rfl (hb hby dS40_5) rfl ?_
    show Steps p.tables e below (s₁.setTop (mkF m 6 #[.val (.ref a1), .val (.int (0 : Int32)), .val (.int (0 : Int32)), .val (.int (0 : Int32)), .val (.int (0 : Int32)), .unset, .unset] [(.int (0 : Int32))])) _
    refine XS.iconst X0.here hx rfl (hb hby dS40_6) ?_
    show Steps p.tables e below (s₁.setTop (mkF m 7 #[.val (.ref a1), .val (.int (0 : Int32)), .val (.int (0 : Int32)), .val (.int (0 : Int32)), .val (.int (0 : Int32)), .unset, .unset] [(.int (1 : Int32)), (.int (0 : Int32))])) _
    refine XS.icmpYes X0.here hx rfl (pc0 := 7) (pc' := 68) rfl (hb hby dS40_7) rfl (flt ((by decide) : ¬ ((1 : Int32) < (0 : Int32)))).2.2.2 (by decide) (by decide) ?_
    show Steps p.tables e below (s₁.setTop (mkF m 68 #[.val (.ref a1), .val (.int (0 : Int32)), .val (.int (0 : Int32)), .val (.int (0 : Int32)), .val (.int (0 : Int32)), .unset, .unset] [])) _
    refine XS.aconstNull X0.here hx rfl (hb hby dS40_68) ?_
    show Steps p.tables e below (s₁.setTop (mkF m 69 #[.val (.ref a1), .val (.int (0 : Int32)), .val (.int (0 : Int32)), .val (.int (0 : Int32)), .val (.int (0 : Int32)), .unset, .unset] [.null])) _
    refine XS.aloadN X0.here hx rfl (hb hby dS40_69) rfl rfl ?_
    show Steps p.tables e below (s₁.setTop (mkF m 70 #[.val (.ref a1), .val (.int (0 : Int32)), .val (.int (0 : Int32)), .val (.int (0 : Int32)), .val (.int (0 : Int32)), .unset, .unset] [(.ref a1), .null])) _
    refine XS.iconst X0.here hx rfl (hb hby dS40_70) ?_
    show Steps p.tables e below (s₁.setTop (mkF m 71 #[.val (.ref a1), .val (.int (0 : Int32)), .val (.int (0 : Int32)), .val (.int (0 : Int32)), .val (.int (0 : Int32)), .unset, .unset] [(.int (0 : Int32)), (.ref a1), .null])) _
    refine XS.iloadN X0.here hx rfl (hb hby dS40_71) rfl ?_
    show Steps p.tables e below (s₁.setTop (mkF m 72 #[.val (.ref a1), .val (.int (0 : Int32)), .val (.int (0 : Int32)), .val (.int (0 : Int32)), .val (.int (0 : Int32)), .unset, .unset] [(.int (0 : Int32)), (.int (0 : Int32)), (.ref a1), .null])) _
    refine XS.iloadN X0.here hx rfl (hb hby dS40_72) rfl ?_
    show Steps p.tables e below (s₁.setTop (mkF m 73 #[.val (.ref a1), .val (.int (0 : Int32)), .val (.int (0 : Int32)), .val (.int (0 : Int32)), .val (.int (0 : Int32)), .unset, .unset] [(.int (0 : Int32)), (.int (0 : Int32)), (.int (0 : Int32)), (.ref a1), .null])) _
    refine st101 _ ?_
    exact kt)
  obtain ⟨fs, hr, hrun, hended, hW, hsame⟩ := X101.leave (v := none) (fun _ => rfl) (hlocks := hlk)
  refine ⟨_, _, P102 _ ?_, hrun, hended, _, _, rfl, ?_, ⟨_, rfl⟩, hW, hsame.mono (by decide) (by decide)⟩
  · show Steps p.tables e below (T101.setTop (mkF m 76 #[.val (.ref a1), .val (.int (0 : Int32)), .val (.int (0 : Int32)), .val (.int (0 : Int32)), .val (.int (0 : Int32)), .unset, .unset] [])) _
    exact X101.returnOut hx Bd.returns (hb hby dS40_76) hr
  · show QS Z a1 k (0 : Int32) [] h0 n0 _ T101.heap _
    skip
    exact ⟨rfl, N101, K101, V101x⟩
theorem dAS0_0 : decode jdk_65_method_2_code 0 = .ok (.aload_n 0, 1) := by decide +kernel
theorem dAS0_1 : decode jdk_65_method_2_code 1 = .ok (.iconst 0, 1) := by decide +kernel
theorem dAS0_2 : decode jdk_65_method_2_code 2 = .ok (.iconst 0, 1) := by decide +kernel
theorem dAS0_3 : decode jdk_65_method_2_code 3 = .ok (.aload_n 0, 1) := by decide +kernel
theorem dAS0_4 : decode jdk_65_method_2_code 4 = .ok (.arraylength, 1) := by decide +kernel
theorem dAS0_5 : decode jdk_65_method_2_code 5 = .ok (.invokestatic 7, 3) := by decide +kernel
theorem dAS0_8 : decode jdk_65_method_2_code 8 = .ok (.return_, 1) := by decide +kernel
theorem ef_AS0 (m : MethodId) (x0 : Addr) : entryFrame m #[(.ref x0)] 1 = mkF m 0 #[.val (.ref x0)] [] := by first | (simp [entryFrame, mkF, argsToLocals, Value.category]; done) | rfl
set_option maxRecDepth 65536 in
set_option maxHeartbeats 40000000 in
theorem rmAS0 (l : Launch) (Z : State) (a0 : Array Value) (hw : ∀ d ∈ tables_1, d.before a0 Z = true) (ws : List Jvm.Cond) (a1 : Addr) (k : ClassId) (h0 : Heap) (n0 : Nat) (Z0 : n0 ≤ h0.size) (V1 : Arv Z h0 a1 k .int (0 : Int32) [] (.int (0 : Int32))) (ga : n0 ≤ a1) :
    MetFree l (⟨"java/util/Arrays", "sort", "([I)V"⟩ : MethodName) (head1 (Jvm.Cond.code (⟨"java/util/Arrays", "sort", "([I)V"⟩ : MethodName) jdk_65_method_2_code 1 none :: ws) ({ frames := 3, cells := 0, slots := 0, locals := 67 } : Room)) (fun a U => a = #[(.ref a1)] ∧ Z.Warmed39 U.vm ∧ U.heap = h0) (fun _ _ _ _ _ => True) (fun _ U o U' => ∃ v L, o = .returned v ∧ QS Z a1 k (0 : Int32) [] h0 n0 v U'.heap L ∧ FrameEnd U o U' L ({ frames := 3, cells := 0, slots := 0, locals := 67 } : Room).cells ({ frames := 3, cells := 0, slots := 0, locals := 67 } : Room).slots) := by
  refine MetFree.of_bodySF (plainFor_of_name (by first | (simp [plainName, overriddenIn]; done) | decide +kernel)) hisR ?_
  intro p e s m args below meth c s₁ Bd hml0 hP hK
  obtain ⟨rfl, hZ, hh⟩ := hP
  have hx := Bd.exec
  have hby := Bd.bytes
  have hml : c.maxLocals = 1 := hml0
  have hown : s.vm.findClass "java/util/Arrays" = some m.cls := findClass_of_methodNamed Bd.named
  have hnm := (name_of_methodNamed Bd.named Bd.method).1
  have hlk : meth.locks = false := BodyLoose.notSynchronized Bd
  have X0 : Stand p l e ({ frames := 3, cells := 0, slots := 0, locals := 67 } : Room) s m #[(.ref a1)] below meth c s₁ [] 0 0 := Stand.of_body Bd
  have e0 : s₁.heap = h0 := by rw [← hh, Bd.state]; rfl
  have P0 : ∀ t, Steps p.tables e below (s₁.setTop (mkF m 0 #[.val (.ref a1)] [])) t → Steps p.tables e below (s₁.setTop (entryFrame m #[(.ref a1)] 1)) t := fun t kt => castTop (ef_AS0 m a1) kt
  have N0 := Fr.nil n0
  have K0 := Keep.refl h0 [a1]
  obtain ⟨cl101, Ar101, q101, S101, Nn101, H101, G101⟩ := id V1
  obtain ⟨_, _, ⟨T102, L102, k102, n102⟩, -, X102, ⟨Lc102, hQ102, l102, y102, z102⟩, st102⟩ := Jvm.LawKit.callS X0 hx (y := (⟨"java/util/DualPivotQuicksort", "sort", "([IIII)V"⟩ : MethodName)) hown (mvT hZ (hw _ (List.mem_of_getElem? (i := 46) rfl))) (mvT hZ (hw _ (List.mem_of_getElem? (i := 47) rfl))) (mvT hZ (hw _ (List.mem_of_getElem? (i := 48) rfl))) (mvT hZ (hw _ (List.mem_of_getElem? (i := 49) rfl))) (by decide) (backOf (W := 0)  (rmS40 l Z a0 hw [] a1 k  h0 n0 Z0 V1 ga ) hZ (hw _ (List.mem_of_getElem? (i := 49) rfl)) (hw _ (List.mem_of_getElem? (i := 48) rfl)) (by decide) (by decide)) (g := (mkF m 5 #[.val (.ref a1)] [(.int (0 : Int32)), (.int (0 : Int32)), (.int (0 : Int32)), (.ref a1)])) rfl (by rw [hml]; rfl) (argsL := [(.ref a1), (.int (0 : Int32)), (.int (0 : Int32)), (.int (0 : Int32))]) (rest := []) (lenOf pd___IIII_V rfl) rfl (by show 2 * 0 + _ ≤ _; exact Nat.le_of_eq rfl) (hb hby dAS0_5) (fun _ _ => ⟨rfl, e0, (by decide : 0 + 0 ≤ _), (by decide : 0 + 0 ≤ _)⟩)
  dsimp only [Pt.U, Pt.locs, Pt.cells, Pt.slots] at X102 l102 y102 z102 st102 hQ102
  subst l102 y102 z102
  obtain ⟨rfl, Nq102, K102x, V102x⟩ := hQ102
  have N102 := Fr.app N0 Nq102
  have sz102 : n0 ≤ T102.heap.size := Nat.le_trans Z0 K102x.1
  have K102 : Keep h0 T102.heap [a1] := K0.trans K102x (fun x hx => by cases List.mem_singleton.mp hx; exact Or.inl (List.mem_of_getElem? (i := 0) rfl))
  have P103 : ∀ t, Steps p.tables e below (T102.setTop (mkF m 8 #[.val (.ref a1)] [])) t → Steps p.tables e below (s₁.setTop (entryFrame m #[(.ref a1)] 1)) t := fun t kt => P0 t (by
    show Steps p.tables e below (s₁.setTop (mkF m 0 #[.val (.ref a1)] [])) _
    refine XS.aloadN X0.here hx rfl (hb hby dAS0_0) rfl rfl ?_
    show Steps p.tables e below (s₁.setTop (mkF m 1 #[.val (.ref a1)] [(.ref a1)])) _
    refine XS.iconst X0.here hx rfl (hb hby dAS0_1) ?_
    show Steps p.tables e below (s₁.setTop (mkF m 2 #[.val (.ref a1)] [(.int (0 : Int32)), (.ref a1)])) _
    refine XS.iconst X0.here hx rfl (hb hby dAS0_2) ?_
    show Steps p.tables e below (s₁.setTop (mkF m 3 #[.val (.ref a1)] [(.int (0 : Int32)), (.int (0 : Int32)), (.ref a1)])) _
    refine XS.aloadN X0.here hx rfl (hb hby dAS0_3) rfl rfl ?_
    show Steps p.tables e below (s₁.setTop (mkF m 4 #[.val (.ref a1)] [(.ref a1), (.int (0 : Int32)), (.int (0 : Int32)), (.ref a1)])) _
    refine X0.arraylength hx (by rw [e0]; exact Ar101.1) (State.isArrayOf_alike hZ.alike Ar101.2.1) (g := (mkF m 4 #[.val (.ref a1)] [(.ref a1), (.int (0 : Int32)), (.int (0 : Int32)), (.ref a1)])) rfl rfl (hb hby dAS0_4) _ ?_
    rw [len_of S101 Nn101]
    show Steps p.tables e below (s₁.setTop (mkF m 5 #[.val (.ref a1)] [(.int (0 : Int32)), (.int (0 : Int32)), (.int (0 : Int32)), (.ref a1)])) _
    refine st102 _ ?_
    exact kt)
  obtain ⟨fs, hr, hrun, hended, hW, hsame⟩ := X102.leave (v := none) (fun _ => rfl) (hlocks := hlk)
  refine ⟨_, _, P103 _ ?_, hrun, hended, _, _, rfl, ?_, ⟨_, rfl⟩, hW, hsame.mono (by decide) (by decide)⟩
  · show Steps p.tables e below (T102.setTop (mkF m 8 #[.val (.ref a1)] [])) _
    exact X102.returnOut hx Bd.returns (hb hby dAS0_8) hr
  · show QS Z a1 k (0 : Int32) [] h0 n0 _ T102.heap _
    skip
    exact ⟨rfl, N102, K102, V102x⟩
theorem dT0_0 : decode prog_83_method_1_code 0 = .ok (.aload_n 0, 1) := by decide +kernel
theorem dT0_1 : decode prog_83_method_1_code 1 = .ok (.invokespecial 1, 3) := by decide +kernel
theorem dT0_4 : decode prog_83_method_1_code 4 = .ok (.aload_n 1, 1) := by decide +kernel
theorem dT0_5 : decode prog_83_method_1_code 5 = .ok (.ldc 7, 2) := by decide +kernel
theorem dT0_7 : decode prog_83_method_1_code 7 = .ok (.invokestatic 9, 3) := by decide +kernel
theorem dT0_10 : decode prog_83_method_1_code 10 = .ok (.pop, 1) := by decide +kernel
theorem dT0_11 : decode prog_83_method_1_code 11 = .ok (.iload_n 2, 1) := by decide +kernel
theorem dT0_12 : decode prog_83_method_1_code 12 = .ok (.iconst 1, 1) := by decide +kernel
theorem dT0_13 : decode prog_83_method_1_code 13 = .ok (.if_icmp .ge 17, 3) := by decide +kernel
theorem dT0_30 : decode prog_83_method_1_code 30 = .ok (.aload_n 3, 1) := by decide +kernel
theorem dT0_31 : decode prog_83_method_1_code 31 = .ok (.ldc 24, 2) := by decide +kernel
theorem dT0_33 : decode prog_83_method_1_code 33 = .ok (.invokestatic 9, 3) := by decide +kernel
theorem dT0_36 : decode prog_83_method_1_code 36 = .ok (.checkcast 26, 3) := by decide +kernel
theorem dT0_39 : decode prog_83_method_1_code 39 = .ok (.invokevirtual 28, 3) := by decide +kernel
theorem dT0_42 : decode prog_83_method_1_code 42 = .ok (.checkcast 26, 3) := by decide +kernel
theorem dT0_45 : decode prog_83_method_1_code 45 = .ok (.astore_n 3, 1) := by decide +kernel
theorem dT0_46 : decode prog_83_method_1_code 46 = .ok (.aload_n 3, 1) := by decide +kernel
theorem dT0_47 : decode prog_83_method_1_code 47 = .ok (.invokestatic 32, 3) := by decide +kernel
theorem dT0_50 : decode prog_83_method_1_code 50 = .ok (.iconst 0, 1) := by decide +kernel
theorem dT0_51 : decode prog_83_method_1_code 51 = .ok (.istore 4, 2) := by decide +kernel
theorem dT0_53 : decode prog_83_method_1_code 53 = .ok (.iload 4, 2) := by decide +kernel
theorem dT0_55 : decode prog_83_method_1_code 55 = .ok (.aload_n 3, 1) := by decide +kernel
theorem dT0_56 : decode prog_83_method_1_code 56 = .ok (.arraylength, 1) := by decide +kernel
theorem dT0_57 : decode prog_83_method_1_code 57 = .ok (.if_icmp .ge 55, 3) := by decide +kernel
theorem dT0_112 : decode prog_83_method_1_code 112 = .ok (.aload_n 0, 1) := by decide +kernel
theorem dT0_113 : decode prog_83_method_1_code 113 = .ok (.aload_n 1, 1) := by decide +kernel
theorem dT0_114 : decode prog_83_method_1_code 114 = .ok (.putfield 47, 3) := by decide +kernel
theorem dT0_117 : decode prog_83_method_1_code 117 = .ok (.aload_n 0, 1) := by decide +kernel
theorem dT0_118 : decode prog_83_method_1_code 118 = .ok (.iload_n 2, 1) := by decide +kernel
theorem dT0_119 : decode prog_83_method_1_code 119 = .ok (.putfield 50, 3) := by decide +kernel
theorem dT0_122 : decode prog_83_method_1_code 122 = .ok (.aload_n 0, 1) := by decide +kernel
theorem dT0_123 : decode prog_83_method_1_code 123 = .ok (.aload_n 3, 1) := by decide +kernel
theorem dT0_124 : decode prog_83_method_1_code 124 = .ok (.putfield 54, 3) := by decide +kernel
theorem dT0_127 : decode prog_83_method_1_code 127 = .ok (.return_, 1) := by decide +kernel
theorem ef_T0 (m : MethodId) (x0 : Addr) (x1 : Addr) (x2 : Int32) (x3 : Addr) : entryFrame m #[(.ref x0), (.ref x1), (.int x2), (.ref x3)] 5 = mkF m 0 #[.val (.ref x0), .val (.ref x1), .val (.int x2), .val (.ref x3), .unset] [] := by first | (simp [entryFrame, mkF, argsToLocals, Value.category]; done) | rfl
set_option maxRecDepth 65536 in
set_option maxHeartbeats 40000000 in
theorem rmT0 (l : Launch) (Z : State) (a0 : Array Value) (hw : ∀ d ∈ tables_1, d.before a0 Z = true) (ws : List Jvm.Cond) (a1 : Addr) (a2 : Addr) (p3 : Int32) (a4 : Addr) (k : ClassId) (h0 : Heap) (n0 : Nat) (Z0 : n0 ≤ h0.size) (E1 : Exa Z h0 a1 "com/example/allot/allot/partition/Topic") (Fn : Fld Z h0 a1 "com/example/allot/allot/partition/Topic" "name" "Ljava/lang/String;" .null) (Fp : Fld Z h0 a1 "com/example/allot/allot/partition/Topic" "partitions" "I" (.int (0 : Int32))) (Fu : Fld Z h0 a1 "com/example/allot/allot/partition/Topic" "unavailable" "[I" .null) (ga : n0 ≤ a1) (E4 : Exa Z h0 a4 "[I") (V4 : Arv Z h0 a4 k .int (0 : Int32) [] (.int (0 : Int32))) (h14 : a1 ≠ a4) (hp : ¬ p3 < (1 : Int32)) :
    MetFree l (⟨"com/example/allot/allot/partition/Topic", "<init>", "(Ljava/lang/String;I[I)V"⟩ : MethodName) (head1 (Jvm.Cond.code (⟨"com/example/allot/allot/partition/Topic", "<init>", "(Ljava/lang/String;I[I)V"⟩ : MethodName) prog_83_method_1_code 5 none :: ws) ({ frames := 4, cells := 5, slots := 68, locals := 79 } : Room)) (fun a U => a = #[(.ref a1), (.ref a2), (.int p3), (.ref a4)] ∧ Z.Warmed39 U.vm ∧ U.heap = h0) (fun _ _ _ _ _ => True) (fun _ U o U' => ∃ v L, o = .returned v ∧ QT Z a1 a2 p3 (0 : Int32) [] h0 n0 v U'.heap L ∧ ReturnedEndW U o U' L ({ frames := 4, cells := 5, slots := 68, locals := 79 } : Room).cells ({ frames := 4, cells := 5, slots := 68, locals := 79 } : Room).slots) := by
  refine MetFree.of_bodySF (plainFor_of_name (by first | (simp [plainName, overriddenIn]; done) | decide +kernel)) hisR ?_
  intro p e s m args below meth c s₁ Bd hml0 hP hK
  obtain ⟨rfl, hZ, hh⟩ := hP
  have hx := Bd.exec
  have hby := Bd.bytes
  have hml : c.maxLocals = 5 := hml0
  have hown : s.vm.findClass "com/example/allot/allot/partition/Topic" = some m.cls := findClass_of_methodNamed Bd.named
  have hnm := (name_of_methodNamed Bd.named Bd.method).1
  have hlk : meth.locks = false := BodyLoose.notSynchronized Bd
  have X0 : Stand p l e ({ frames := 4, cells := 5, slots := 68, locals := 79 } : Room) (s.setVm s.vm) m #[(.ref a1), (.ref a2), (.int p3), (.ref a4)] below meth c s₁ [] 0 0 := Stand.of_body Bd
  have e0 : s₁.heap = h0 := by rw [← hh, Bd.state]; rfl
  have P0 : ∀ t, Steps p.tables e below (s₁.setTop (mkF m 0 #[.val (.ref a1), .val (.ref a2), .val (.int p3), .val (.ref a4), .unset] [])) t → Steps p.tables e below (s₁.setTop (entryFrame m #[(.ref a1), (.ref a2), (.int p3), (.ref a4)] 5)) t := fun t kt => castTop (ef_T0 m a1 a2 p3 a4) kt
  have N0 := Fr.nil n0
  have hS0 : s.Since s.vm 0 := State.WarmedH.since (State.WarmedH.refl s) 0
  have hk0 : 0 ≤ h0.size := Nat.zero_le _
  have K0 := Keep.refl h0 [a1]
  obtain ⟨_, _, ⟨T101, L101, k101, n101⟩, -, X101, ⟨Lc101, hQ101, l101, y101, z101⟩, st101⟩ := X0.specialBack hx (y := (⟨"java/lang/Record", "<init>", "()V"⟩ : MethodName)) rfl hown (mvT hZ (hw _ (List.mem_of_getElem? (i := 19) rfl))) (mvT hZ (hw _ (List.mem_of_getElem? (i := 20) rfl))) (mvT hZ (hw _ (List.mem_of_getElem? (i := 23) rfl))) (by decide) (backOf (W := 0)  (rmR l Z a0 hw [] a1 h0) hZ (hw _ (List.mem_of_getElem? (i := 23) rfl)) (hw _ (List.mem_of_getElem? (i := 22) rfl)) (by decide) (by decide)) (g := (mkF m 1 #[.val (.ref a1), .val (.ref a2), .val (.int p3), .val (.ref a4), .unset] [(.ref a1)])) rfl (by rw [hml]; rfl) (Steps.refl _) (a := a1) (argsL := []) (rest := []) (lenOf pd___V rfl) rfl (by show 2 * 0 + _ ≤ _; exact Nat.le_of_eq rfl) (hb hby dT0_1) (fun _ _ => ⟨rfl, e0, (by decide : 0 + 0 ≤ _), (by decide : 0 + 0 ≤ _)⟩)
  dsimp only [Pt.U, Pt.locs, Pt.cells, Pt.slots] at X101 l101 y101 z101 st101 hQ101
  subst l101 y101 z101
  obtain ⟨rfl, rfl, e101⟩ := hQ101
  have N101 := Fr.app N0 (Fr.nil n0)
  have P102 : ∀ t, Steps p.tables e below (T101.setTop (mkF m 5 #[.val (.ref a1), .val (.ref a2), .val (.int p3), .val (.ref a4), .unset] [(.ref a2)])) t → Steps p.tables e below (s₁.setTop (entryFrame m #[(.ref a1), (.ref a2), (.int p3), (.ref a4)] 5)) t := fun t kt => P0 t (by
    show Steps p.tables e below (s₁.setTop (mkF m 0 #[.val (.ref a1), .val (.ref a2), .val (.int p3), .val (.ref a4), .unset] [])) _
    refine XS.aloadN X0.here hx rfl (hb hby dT0_0) rfl rfl ?_
    show Steps p.tables e below (s₁.setTop (mkF m 1 #[.val (.ref a1), .val (.ref a2), .val (.int p3), .val (.ref a4), .unset] [(.ref a1)])) _
    refine st101.trans ?_
    show Steps p.tables e below (T101.setTop (mkF m 4 #[.val (.ref a1), .val (.ref a2), .val (.int p3), .val (.ref a4), .unset] [])) _
    refine XS.aloadN X101.here hx rfl (hb hby dT0_4) rfl rfl ?_
    exact kt)
  obtain ⟨sa103, T103, h103, j103, X103, e103, E103, hS103, hk103, hZ, hown, st103⟩ := ldcS X101 hx hZ hown (hw _ (List.mem_of_getElem? (i := 27) rfl)) (own_wS hw) e101 hS0 hk0 (g := (mkF m 5 #[.val (.ref a1), .val (.ref a2), .val (.int p3), .val (.ref a4), .unset] [(.ref a2)])) rfl (hb hby dT0_5) (n := 16) (by decide) (by decide) (by decide) (by decide)
  have f104 := E1.ext E103
  have f105 := Fn.ext E103
  have f106 := Fp.ext E103
  have f107 := Fu.ext E103
  have f108 := E4.ext E103
  have f109 := V4.ext E103
  have sz103 : n0 ≤ h103.size := Nat.le_trans Z0 E103.1
  have K103 : Keep h0 h103 [a1] := K0.ext E103
  obtain ⟨_, _, ⟨T110, L110, k110, n110⟩, -, X110, ⟨Lc110, hQ110, l110, y110, z110⟩, st110⟩ := Jvm.LawKit.callS X103 hx (y := (⟨"java/util/Objects", "requireNonNull", "(Ljava/lang/Object;Ljava/lang/String;)Ljava/lang/Object;"⟩ : MethodName)) hown (mvT hZ (hw _ (List.mem_of_getElem? (i := 28) rfl))) (mvT hZ (hw _ (List.mem_of_getElem? (i := 29) rfl))) (mvT hZ (hw _ (List.mem_of_getElem? (i := 30) rfl))) (mvT hZ (hw _ (List.mem_of_getElem? (i := 31) rfl))) (by decide) (backOf (W := 0)  (rmNN l Z a0 hw [] a2 sa103 h103) hZ (hw _ (List.mem_of_getElem? (i := 31) rfl)) (hw _ (List.mem_of_getElem? (i := 30) rfl)) (by decide) (by decide)) (g := (mkF m 7 #[.val (.ref a1), .val (.ref a2), .val (.int p3), .val (.ref a4), .unset] [(.ref sa103), (.ref a2)])) rfl (by rw [hml]; rfl) (argsL := [(.ref a2), (.ref sa103)]) (rest := []) (lenOf pd__Ljava_lang_Object_Ljava_lang_String__Ljava_lang_Object_ rfl) rfl (by show 2 * 0 + _ ≤ _; exact Nat.le_of_eq rfl) (hb hby dT0_7) (fun _ _ => ⟨rfl, e103, (by decide : 2 + 0 ≤ _), (by decide : 20 + 0 ≤ _)⟩)
  dsimp only [Pt.U, Pt.locs, Pt.cells, Pt.slots] at X110 l110 y110 z110 st110 hQ110
  subst l110 y110 z110
  obtain ⟨rfl, rfl, e110⟩ := hQ110
  have N110 := Fr.app N101 (Fr.nil n0)
  have P111 : ∀ t, Steps p.tables e below (T110.setTop (mkF m 31 #[.val (.ref a1), .val (.ref a2), .val (.int p3), .val (.ref a4), .unset] [(.ref a4)])) t → Steps p.tables e below (s₁.setTop (entryFrame m #[(.ref a1), (.ref a2), (.int p3), (.ref a4)] 5)) t := fun t kt => P102 t (by
    show Steps p.tables e below (T101.setTop (mkF m 5 #[.val (.ref a1), .val (.ref a2), .val (.int p3), .val (.ref a4), .unset] [(.ref a2)])) _
    refine st103 _ ?_
    show Steps p.tables e below (T103.setTop (mkF m 7 #[.val (.ref a1), .val (.ref a2), .val (.int p3), .val (.ref a4), .unset] [(.ref sa103), (.ref a2)])) _
    refine st110 _ ?_
    show Steps p.tables e below (T110.setTop (mkF m 10 #[.val (.ref a1), .val (.ref a2), .val (.int p3), .val (.ref a4), .unset] [(.ref a2)])) _
    refine XS.pop X110.here hx rfl (hb hby dT0_10) rfl rfl ?_
    show Steps p.tables e below (T110.setTop (mkF m 11 #[.val (.ref a1), .val (.ref a2), .val (.int p3), .val (.ref a4), .unset] [])) _
    refine XS.iloadN X110.here hx rfl (hb hby dT0_11) rfl ?_
    show Steps p.tables e below (T110.setTop (mkF m 12 #[.val (.ref a1), .val (.ref a2), .val (.int p3), .val (.ref a4), .unset] [(.int p3)])) _
    refine XS.iconst X110.here hx rfl (hb hby dT0_12) ?_
    show Steps p.tables e below (T110.setTop (mkF m 13 #[.val (.ref a1), .val (.ref a2), .val (.int p3), .val (.ref a4), .unset] [(.int (1 : Int32)), (.int p3)])) _
    refine XS.icmpYes X110.here hx rfl (pc0 := 13) (pc' := 30) rfl (hb hby dT0_13) rfl (flt (hp : ¬ (p3 < (1 : Int32)))).2.1 (by decide) (by decide) ?_
    show Steps p.tables e below (T110.setTop (mkF m 30 #[.val (.ref a1), .val (.ref a2), .val (.int p3), .val (.ref a4), .unset] [])) _
    refine XS.aloadN X110.here hx rfl (hb hby dT0_30) rfl rfl ?_
    exact kt)
  obtain ⟨sa112, T112, h112, j112, X112, e112, E112, hS112, hk112, hZ, hown, st112⟩ := ldcS X110 hx hZ hown (hw _ (List.mem_of_getElem? (i := 32) rfl)) (own_wS hw) e110 hS103 hk103 (g := (mkF m 31 #[.val (.ref a1), .val (.ref a2), .val (.int p3), .val (.ref a4), .unset] [(.ref a4)])) rfl (hb hby dT0_31) (n := 44) (by decide) (by decide) (by decide) (by decide)
  have f113 := f104.ext E112
  have f114 := f105.ext E112
  have f115 := f106.ext E112
  have f116 := f107.ext E112
  have f117 := f108.ext E112
  have f118 := f109.ext E112
  have sz112 : n0 ≤ h112.size := Nat.le_trans sz103 E112.1
  have K112 : Keep h0 h112 [a1] := K103.ext E112
  obtain ⟨_, _, ⟨T119, L119, k119, n119⟩, -, X119, ⟨Lc119, hQ119, l119, y119, z119⟩, st119⟩ := Jvm.LawKit.callS X112 hx (y := (⟨"java/util/Objects", "requireNonNull", "(Ljava/lang/Object;Ljava/lang/String;)Ljava/lang/Object;"⟩ : MethodName)) hown (mvT hZ (hw _ (List.mem_of_getElem? (i := 28) rfl))) (mvT hZ (hw _ (List.mem_of_getElem? (i := 29) rfl))) (mvT hZ (hw _ (List.mem_of_getElem? (i := 30) rfl))) (mvT hZ (hw _ (List.mem_of_getElem? (i := 31) rfl))) (by decide) (backOf (W := 0)  (rmNN l Z a0 hw [] a4 sa112 h112) hZ (hw _ (List.mem_of_getElem? (i := 31) rfl)) (hw _ (List.mem_of_getElem? (i := 30) rfl)) (by decide) (by decide)) (g := (mkF m 33 #[.val (.ref a1), .val (.ref a2), .val (.int p3), .val (.ref a4), .unset] [(.ref sa112), (.ref a4)])) rfl (by rw [hml]; rfl) (argsL := [(.ref a4), (.ref sa112)]) (rest := []) (lenOf pd__Ljava_lang_Object_Ljava_lang_String__Ljava_lang_Object_ rfl) rfl (by show 2 * 0 + _ ≤ _; exact Nat.le_of_eq rfl) (hb hby dT0_33) (fun _ _ => ⟨rfl, e112, (by decide : 4 + 0 ≤ _), (by decide : 68 + 0 ≤ _)⟩)
  dsimp only [Pt.U, Pt.locs, Pt.cells, Pt.slots] at X119 l119 y119 z119 st119 hQ119
  subst l119 y119 z119
  obtain ⟨rfl, rfl, e119⟩ := hQ119
  have N119 := Fr.app N110 (Fr.nil n0)
  obtain ⟨T120, X120, e120, st120⟩ := castY X119 hx hZ hown (hw _ (List.mem_of_getElem? (i := 33) rfl)) e119 (Ins.self f117) (g := (mkF m 36 #[.val (.ref a1), .val (.ref a2), .val (.int p3), .val (.ref a4), .unset] [(.ref a4)])) rfl rfl (hb hby dT0_36)
  obtain ⟨T121, h121, X121, e121, E121, V121, A121, st121⟩ := cloneH X120 hx hZ hown (hw _ (List.mem_of_getElem? (i := 35) rfl)) (hw _ (List.mem_of_getElem? (i := 36) rfl)) (hw _ (List.mem_of_getElem? (i := 40) rfl)) (hw _ (List.mem_of_getElem? (i := 38) rfl)) (hw _ (List.mem_of_getElem? (i := 39) rfl)) (hw _ (List.mem_of_getElem? (i := 41) rfl)) e120 (hs := []) f118 f117 (g := (mkF m 39 #[.val (.ref a1), .val (.ref a2), .val (.int p3), .val (.ref a4), .unset] [(.ref a4)])) rfl (by rw [hml]; rfl) rfl (hb hby dT0_39) (by decide) (W := 0) (by show 2 * 0 + _ ≤ _; exact Nat.le_of_eq rfl) (by decide) (cap := 0) (by decide) (by decide) (by decide)
  obtain ⟨b121, g121⟩ : ∃ z, z = h112.size := ⟨_, rfl⟩
  rw [← g121] at A121 V121 st121
  have ne121_a1 : a1 ≠ b121 := Nat.ne_of_lt (Nat.lt_of_lt_of_le f113.lt (Nat.le_of_eq g121.symm))
  have ne121_a4 : a4 ≠ b121 := Nat.ne_of_lt (Nat.lt_of_lt_of_le f117.lt (Nat.le_of_eq g121.symm))
  have gb121 : n0 ≤ b121 := Nat.le_trans sz112 (Nat.le_of_eq g121.symm)
  have sz121 : n0 ≤ h121.size := Nat.le_trans sz112 E121.1
  have hk121 := Nat.le_trans hk112 E121.1
  have sb121 : h0.size ≤ b121 := Nat.le_trans K112.1 (Nat.le_of_eq g121.symm)
  have f122 := f113.ext E121
  have f123 := f114.ext E121
  have f124 := f115.ext E121
  have f125 := f116.ext E121
  have f126 := f117.ext E121
  have f127 := f118.ext E121
  have V121v : Arv Z h121 b121 k .int (0 : Int32) [] (.int (0 : Int32)) := V121
  have K121 : Keep h0 h121 [a1] := K112.ext E121
  obtain ⟨T128, X128, e128, st128⟩ := castY X121 hx hZ hown (hw _ (List.mem_of_getElem? (i := 33) rfl)) e121 (Ins.self A121) (g := (mkF m 42 #[.val (.ref a1), .val (.ref a2), .val (.int p3), .val (.ref a4), .unset] [(.ref b121)])) rfl rfl (hb hby dT0_42)
  obtain ⟨_, _, ⟨T129, L129, k129, n129⟩, -, X129, ⟨Lc129, hQ129, l129, y129, z129⟩, st129⟩ := Jvm.LawKit.callS X128 hx (y := (⟨"java/util/Arrays", "sort", "([I)V"⟩ : MethodName)) hown (mvT hZ (hw _ (List.mem_of_getElem? (i := 42) rfl))) (mvT hZ (hw _ (List.mem_of_getElem? (i := 43) rfl))) (mvT hZ (hw _ (List.mem_of_getElem? (i := 44) rfl))) (mvT hZ (hw _ (List.mem_of_getElem? (i := 45) rfl))) (by decide) (backOf (W := 0)  (rmAS0 l Z a0 hw [] b121 k  h121 n0 sz121 V121v gb121 ) hZ (hw _ (List.mem_of_getElem? (i := 45) rfl)) (hw _ (List.mem_of_getElem? (i := 44) rfl)) (by decide) (by decide)) (g := (mkF m 47 #[.val (.ref a1), .val (.ref a2), .val (.int p3), .val (.ref b121), .unset] [(.ref b121)])) rfl (by rw [hml]; rfl) (argsL := [(.ref b121)]) (rest := []) (lenOf pd___I_V rfl) rfl (by show 2 * 0 + _ ≤ _; exact Nat.le_of_eq rfl) (hb hby dT0_47) (fun _ _ => ⟨rfl, e128, (by decide : 5 + 0 ≤ _), (by decide : 68 + 0 ≤ _)⟩)
  dsimp only [Pt.U, Pt.locs, Pt.cells, Pt.slots] at X129 l129 y129 z129 st129 hQ129
  subst l129 y129 z129
  obtain ⟨rfl, Nq129, K129x, V129x⟩ := hQ129
  have N129 := Fr.app N119 Nq129
  have sz129 : n0 ≤ T129.heap.size := Nat.le_trans sz121 K129x.1
  have hk129 := Nat.le_trans hk121 K129x.1
  have f130 := f122.keep K129x
  have f131 := f123.keep K129x (own_nm ne121_a1)
  have f132 := f124.keep K129x (own_nm ne121_a1)
  have f133 := f125.keep K129x (own_nm ne121_a1)
  have f134 := f126.keep K129x
  have f135 := f127.keep K129x (own_nm ne121_a4)
  have f136 := A121.keep K129x
  have K129 : Keep h0 T129.heap [a1] := K121.trans K129x (fun x hx => by cases List.mem_singleton.mp hx; exact Or.inr sb121)
  obtain ⟨cl137, Ar137, q137, S137, Nn137, H137, G137⟩ := id V129x
  obtain ⟨T138, h138, X138, e138, W138, st138⟩ := putF X129 hx hZ hown (host := "") (Or.inl (hw _ (List.mem_of_getElem? (i := 56) rfl))) Via.refl rfl f131 f130 (Or.inr ⟨(hw _ (List.mem_of_getElem? (i := 57) rfl)), rfl, hnm⟩) (hw _ (List.mem_of_getElem? (i := 6) rfl)) (ty := (.object "java/lang/String")) (by decide) rfl rfl (g := (mkF m 114 #[.val (.ref a1), .val (.ref a2), .val (.int p3), .val (.ref b121), .val (.int (0 : Int32))] [(.ref a2), (.ref a1)])) rfl rfl (hb hby dT0_114)
  have f139 := f130.wr W138
  have f140 := f132.other W138 (Or.inr (slot_ne (Or.inr (hw _ (List.mem_of_getElem? (i := 59) rfl))) (Or.inr (hw _ (List.mem_of_getElem? (i := 57) rfl))) (by decide) (t := .int) (t' := (.object "java/lang/String")) (by decide) (by decide)))
  have f141 := f133.other W138 (Or.inr (slot_ne (Or.inr (hw _ (List.mem_of_getElem? (i := 61) rfl))) (Or.inr (hw _ (List.mem_of_getElem? (i := 57) rfl))) (by decide) (t := (.array .int)) (t' := (.object "java/lang/String")) (by decide) (by decide)))
  have f142 := f134.wr W138
  have f143 := f135.other W138 (Ne.symm h14)
  have f144 := f136.wr W138
  have f145 := V129x.other W138 (Ne.symm ne121_a1)
  have F138 := f131.same W138
  have N138 := Fr.snoc X138 N129 ga
  have sz138 : n0 ≤ h138.size := Nat.le_trans sz129 (Keep.of_wr W138).1
  have hk138 := Nat.le_trans hk129 (Keep.of_wr W138).1
  have K138 : Keep h0 h138 [a1] := K129.wr W138 (Or.inl (List.mem_of_getElem? (i := 0) rfl))
  obtain ⟨T146, h146, X146, e146, W146, st146⟩ := putF X138 hx hZ hown (host := "") (Or.inl (hw _ (List.mem_of_getElem? (i := 58) rfl))) Via.refl e138 f140 f139 (Or.inr ⟨(hw _ (List.mem_of_getElem? (i := 59) rfl)), rfl, hnm⟩) (hw _ (List.mem_of_getElem? (i := 6) rfl)) (ty := .int) (by decide) rfl rfl (g := (mkF m 119 #[.val (.ref a1), .val (.ref a2), .val (.int p3), .val (.ref b121), .val (.int (0 : Int32))] [(.int p3), (.ref a1)])) rfl rfl (hb hby dT0_119)
  have f147 := f139.wr W146
  have f148 := f141.other W146 (Or.inr (slot_ne (Or.inr (hw _ (List.mem_of_getElem? (i := 61) rfl))) (Or.inr (hw _ (List.mem_of_getElem? (i := 59) rfl))) (by decide) (t := (.array .int)) (t' := .int) (by decide) (by decide)))
  have f149 := f142.wr W146
  have f150 := f143.other W146 (Ne.symm h14)
  have f151 := f144.wr W146
  have f152 := f145.other W146 (Ne.symm ne121_a1)
  have f153 := F138.other W146 (Or.inr (slot_ne (Or.inr (hw _ (List.mem_of_getElem? (i := 57) rfl))) (Or.inr (hw _ (List.mem_of_getElem? (i := 59) rfl))) (by decide) (t := (.object "java/lang/String")) (t' := .int) (by decide) (by decide)))
  have F146 := f140.same W146
  have N146 := Fr.snoc X146 N138 ga
  have sz146 : n0 ≤ h146.size := Nat.le_trans sz138 (Keep.of_wr W146).1
  have hk146 := Nat.le_trans hk138 (Keep.of_wr W146).1
  have K146 : Keep h0 h146 [a1] := K138.wr W146 (Or.inl (List.mem_of_getElem? (i := 0) rfl))
  obtain ⟨T154, h154, X154, e154, W154, st154⟩ := putF X146 hx hZ hown (host := "") (Or.inl (hw _ (List.mem_of_getElem? (i := 60) rfl))) Via.refl e146 f148 f147 (Or.inr ⟨(hw _ (List.mem_of_getElem? (i := 61) rfl)), rfl, hnm⟩) (hw _ (List.mem_of_getElem? (i := 6) rfl)) (ty := (.array .int)) (by decide) rfl rfl (g := (mkF m 124 #[.val (.ref a1), .val (.ref a2), .val (.int p3), .val (.ref b121), .val (.int (0 : Int32))] [(.ref b121), (.ref a1)])) rfl rfl (hb hby dT0_124)
  have f155 := f147.wr W154
  have f156 := f149.wr W154
  have f157 := f150.other W154 (Ne.symm h14)
  have f158 := f151.wr W154
  have f159 := f152.other W154 (Ne.symm ne121_a1)
  have f160 := f153.other W154 (Or.inr (slot_ne (Or.inr (hw _ (List.mem_of_getElem? (i := 57) rfl))) (Or.inr (hw _ (List.mem_of_getElem? (i := 61) rfl))) (by decide) (t := (.object "java/lang/String")) (t' := (.array .int)) (by decide) (by decide)))
  have f161 := F146.other W154 (Or.inr (slot_ne (Or.inr (hw _ (List.mem_of_getElem? (i := 59) rfl))) (Or.inr (hw _ (List.mem_of_getElem? (i := 61) rfl))) (by decide) (t := .int) (t' := (.array .int)) (by decide) (by decide)))
  have F154 := f148.same W154
  have N154 := Fr.snoc X154 N146 ga
  have sz154 : n0 ≤ h154.size := Nat.le_trans sz146 (Keep.of_wr W154).1
  have hk154 := Nat.le_trans hk146 (Keep.of_wr W154).1
  have K154 : Keep h0 h154 [a1] := K146.wr W154 (Or.inl (List.mem_of_getElem? (i := 0) rfl))
  have P162 : ∀ t, Steps p.tables e below (T154.setTop (mkF m 127 #[.val (.ref a1), .val (.ref a2), .val (.int p3), .val (.ref b121), .val (.int (0 : Int32))] [])) t → Steps p.tables e below (s₁.setTop (entryFrame m #[(.ref a1), (.ref a2), (.int p3), (.ref a4)] 5)) t := fun t kt => P111 t (by
    show Steps p.tables e below (T110.setTop (mkF m 31 #[.val (.ref a1), .val (.ref a2), .val (.int p3), .val (.ref a4), .unset] [(.ref a4)])) _
    refine st112 _ ?_
    show Steps p.tables e below (T112.setTop (mkF m 33 #[.val (.ref a1), .val (.ref a2), .val (.int p3), .val (.ref a4), .unset] [(.ref sa112), (.ref a4)])) _
    refine st119 _ ?_
    show Steps p.tables e below (T119.setTop (mkF m 36 #[.val (.ref a1), .val (.ref a2), .val (.int p3), .val (.ref a4), .unset] [(.ref a4)])) _
    refine st120 _ ?_
    show Steps p.tables e below (T120.setTop (mkF m 39 #[.val (.ref a1), .val (.ref a2), .val (.int p3), .val (.ref a4), .unset] [(.ref a4)])) _
    refine st121 _ ?_
    show Steps p.tables e below (T121.setTop (mkF m 42 #[.val (.ref a1), .val (.ref a2), .val (.int p3), .val (.ref a4), .unset] [(.ref b121)])) _
    refine st128 _ ?_
    show Steps p.tables e below (T128.setTop (mkF m 45 #[.val (.ref a1), .val (.ref a2), .val (.int p3), .val (.ref a4), .unset] [(.ref b121)])) _
    refine XS.astoreN X128.here hx rfl (hb hby dT0_45) rfl rfl (l' := #[.val (.ref a1), .val (.ref a2), .val (.int p3), .val (.ref b121), .unset]) rfl ?_
    show Steps p.tables e below (T128.setTop (mkF m 46 #[.val (.ref a1), .val (.ref a2), .val (.int p3), .val (.ref b121), .unset] [])) _
    refine XS.aloadN X128.here hx rfl (hb hby dT0_46) rfl rfl ?_
    show Steps p.tables e below (T128.setTop (mkF m 47 #[.val (.ref a1), .val (.ref a2), .val (.int p3), .val (.ref b121), .unset] [(.ref b121)])) _
    refine st129 _ ?_
    show Steps p.tables e below (T129.setTop (mkF m 50 #[.val (.ref a1), .val (.ref a2), .val (.int p3), .val (.ref b121), .unset] [])) _
    refine XS.iconst X129.here hx rfl (hb hby dT0_50) ?_
    show Steps p.tables e below (T129.setTop (mkF m 51 #[.val (.ref a1), .val (.ref a2), .val (.int p3), .val (.ref b121), .unset] [(.int (0 : Int32))])) _
    refine XS.istore X129.here hx rfl (hb hby dT0_51) rfl (l' := #[.val (.ref a1), .val (.ref a2), .val (.int p3), .val (.ref b121), .val (.int (0 : Int32))]) rfl ?_
    show Steps p.tables e below (T129.setTop (mkF m 53 #[.val (.ref a1), .val (.ref a2), .val (.int p3), .val (.ref b121), .val (.int (0 : Int32))] [])) _
    refine XS.iload X129.here hx rfl (hb hby dT0_53) rfl ?_
    show Steps p.tables e below (T129.setTop (mkF m 55 #[.val (.ref a1), .val (.ref a2), .val (.int p3), .val (.ref b121), .val (.int (0 : Int32))] [(.int (0 : Int32))])) _
    refine XS.aloadN X129.here hx rfl (hb hby dT0_55) rfl rfl ?_
    show Steps p.tables e below (T129.setTop (mkF m 56 #[.val (.ref a1), .val (.ref a2), .val (.int p3), .val (.ref b121), .val (.int (0 : Int32))] [(.ref b121), (.int (0 : Int32))])) _
    refine X129.arraylength hx Ar137.1 (State.isArrayOf_alike hZ.alike Ar137.2.1) (g := (mkF m 56 #[.val (.ref a1), .val (.ref a2), .val (.int p3), .val (.ref b121), .val (.int (0 : Int32))] [(.ref b121), (.int (0 : Int32))])) rfl rfl (hb hby dT0_56) _ ?_
    rw [len_of S137 Nn137]
    show Steps p.tables e below (T129.setTop (mkF m 57 #[.val (.ref a1), .val (.ref a2), .val (.int p3), .val (.ref b121), .val (.int (0 : Int32))] [(.int (0 : Int32)), (.int (0 : Int32))])) _
    refine XS.icmpYes X129.here hx rfl (pc0 := 57) (pc' := 112) rfl (hb hby dT0_57) rfl (flt ((by decide) : ¬ ((0 : Int32) < (0 : Int32)))).2.1 (by decide) (by decide) ?_
    show Steps p.tables e below (T129.setTop (mkF m 112 #[.val (.ref a1), .val (.ref a2), .val (.int p3), .val (.ref b121), .val (.int (0 : Int32))] [])) _
    refine XS.aloadN X129.here hx rfl (hb hby dT0_112) rfl rfl ?_
    show Steps p.tables e below (T129.setTop (mkF m 113 #[.val (.ref a1), .val (.ref a2), .val (.int p3), .val (.ref b121), .val (.int (0 : Int32))] [(.ref a1)])) _
    refine XS.aloadN X129.here hx rfl (hb hby dT0_113) rfl rfl ?_
    show Steps p.tables e below (T129.setTop (mkF m 114 #[.val (.ref a1), .val (.ref a2), .val (.int p3), .val (.ref b121), .val (.int (0 : Int32))] [(.ref a2), (.ref a1)])) _
    refine st138 _ ?_
    show Steps p.tables e below (T138.setTop (mkF m 117 #[.val (.ref a1), .val (.ref a2), .val (.int p3), .val (.ref b121), .val (.int (0 : Int32))] [])) _
    refine XS.aloadN X138.here hx rfl (hb hby dT0_117) rfl rfl ?_
    show Steps p.tables e below (T138.setTop (mkF m 118 #[.val (.ref a1), .val (.ref a2), .val (.int p3), .val (.ref b121), .val (.int (0 : Int32))] [(.ref a1)])) _
    refine XS.iloadN X138.here hx rfl (hb hby dT0_118) rfl ?_
    show Steps p.tables e below (T138.setTop (mkF m 119 #[.val (.ref a1), .val (.ref a2), .val (.int p3), .val (.ref b121), .val (.int (0 : Int32))] [(.int p3), (.ref a1)])) _
    refine st146 _ ?_
    show Steps p.tables e below (T146.setTop (mkF m 122 #[.val (.ref a1), .val (.ref a2), .val (.int p3), .val (.ref b121), .val (.int (0 : Int32))] [])) _
    refine XS.aloadN X146.here hx rfl (hb hby dT0_122) rfl rfl ?_
    show Steps p.tables e below (T146.setTop (mkF m 123 #[.val (.ref a1), .val (.ref a2), .val (.int p3), .val (.ref b121), .val (.int (0 : Int32))] [(.ref a1)])) _
    refine XS.aloadN X146.here hx rfl (hb hby dT0_123) rfl rfl ?_
    show Steps p.tables e below (T146.setTop (mkF m 124 #[.val (.ref a1), .val (.ref a2), .val (.int p3), .val (.ref b121), .val (.int (0 : Int32))] [(.ref b121), (.ref a1)])) _
    refine st154 _ ?_
    exact kt)
  obtain ⟨fs, hr, hrun, hended, hE1, hE2, hE3, hE4⟩ := X154.leaveW hS112 (by rw [e154]; exact hk154) (v := none) (fun _ => rfl) (hlocks := hlk)
  refine ⟨_, _, P162 _ ?_, hrun, hended, _, _, rfl, ?_, hE1, hE2, hE3, hE4.mono (by decide) (by decide)⟩
  · show Steps p.tables e below (T154.setTop (mkF m 127 #[.val (.ref a1), .val (.ref a2), .val (.int p3), .val (.ref b121), .val (.int (0 : Int32))] [])) _
    exact X154.returnOut hx Bd.returns (hb hby dT0_127) hr
  · show QT Z a1 a2 p3 (0 : Int32) [] h0 n0 _ T154.heap _
    rw [e154]
    exact ⟨rfl, N154, K154, f155, f160, f161, b121, k, F154, f159⟩
theorem dIS1_0 : decode jdk_2529_method_6_code 0 = .ok (.iload_n 1, 1) := by decide +kernel
theorem dIS1_1 : decode jdk_2529_method_6_code 1 = .ok (.istore 4, 2) := by decide +kernel
theorem dIS1_3 : decode jdk_2529_method_6_code 3 = .ok (.iinc 4 1, 3) := by decide +kernel
theorem dIS1_6 : decode jdk_2529_method_6_code 6 = .ok (.iload 4, 2) := by decide +kernel
theorem dIS1_8 : decode jdk_2529_method_6_code 8 = .ok (.iload_n 2, 1) := by decide +kernel
theorem dIS1_9 : decode jdk_2529_method_6_code 9 = .ok (.if_icmp .ge 58, 3) := by decide +kernel
theorem dIS1_67 : decode jdk_2529_method_6_code 67 = .ok (.return_, 1) := by decide +kernel
theorem ef_IS1 (m : MethodId) (x0 : Addr) : entryFrame m #[(.ref x0), (.int (0 : Int32)), (.int (1 : Int32))] 6 = mkF m 0 #[.val (.ref x0), .val (.int (0 : Int32)), .val (.int (1 : Int32)), .unset, .unset, .unset] [] := by first | (simp [entryFrame, mkF, argsToLocals, Value.category]; done) | rfl
set_option maxRecDepth 65536 in
set_option maxHeartbeats 40000000 in
theorem rmIS1 (l : Launch) (Z : State) (a0 : Array Value) (hw : ∀ d ∈ tables_1, d.before a0 Z = true) (ws : List Jvm.Cond) (a1 : Addr) (k : ClassId) (x0 : Int32) (h0 : Heap) (n0 : Nat) (Z0 : n0 ≤ h0.size) (V1 : Arv Z h0 a1 k .int (1 : Int32) [(.int x0)] (.int (0 : Int32))) (ga : n0 ≤ a1) :
    MetFree l (⟨"java/util/DualPivotQuicksort", "insertionSort", "([III)V"⟩ : MethodName) (head1 (Jvm.Cond.code (⟨"java/util/DualPivotQuicksort", "insertionSort", "([III)V"⟩ : MethodName) jdk_2529_method_6_code 6 none :: ws) ({ frames := 0, cells := 0, slots := 0, locals := 0 } : Room)) (fun a U => a = #[(.ref a1), (.int (0 : Int32)), (.int (1 : Int32))] ∧ Z.Warmed39 U.vm ∧ U.heap = h0) (fun _ _ _ _ _ => True) (fun _ U o U' => ∃ v L, o = .returned v ∧ QS Z a1 k (1 : Int32) [(.int x0)] h0 n0 v U'.heap L ∧ FrameEnd U o U' L ({ frames := 0, cells := 0, slots := 0, locals := 0 } : Room).cells ({ frames := 0, cells := 0, slots := 0, locals := 0 } : Room).slots) := by
  refine MetFree.of_bodySF (plainFor_of_name (by first | (simp [plainName, overriddenIn]; done) | decide +kernel)) hisR ?_
  intro p e s m args below meth c s₁ Bd hml0 hP hK
  obtain ⟨rfl, hZ, hh⟩ := hP
  have hx := Bd.exec
  have hby := Bd.bytes
  have hml : c.maxLocals = 6 := hml0
  have hown : s.vm.findClass "java/util/DualPivotQuicksort" = some m.cls := findClass_of_methodNamed Bd.named
  have hnm := (name_of_methodNamed Bd.named Bd.method).1
  have hlk : meth.locks = false := BodyLoose.notSynchronized Bd
  have X0 : Stand p l e ({ frames := 0, cells := 0, slots := 0, locals := 0 } : Room) s m #[(.ref a1), (.int (0 : Int32)), (.int (1 : Int32))] below meth c s₁ [] 0 0 := Stand.of_body Bd
  have e0 : s₁.heap = h0 := by rw [← hh, Bd.state]; rfl
  have P0 : ∀ t, Steps p.tables e below (s₁.setTop (mkF m 0 #[.val (.ref a1), .val (.int (0 : Int32)), .val (.int (1 : Int32)), .unset, .unset, .unset] [])) t → Steps p.tables e below (s₁.setTop (entryFrame m #[(.ref a1), (.int (0 : Int32)), (.int (1 : Int32))] 6)) t := fun t kt => castTop (ef_IS1 m a1) kt
  have N0 := Fr.nil n0
  have K0 := Keep.refl h0 [a1]
  have P101 : ∀ t, Steps p.tables e below (s₁.setTop (mkF m 67 #[.val (.ref a1), .val (.int (0 : Int32)), .val (.int (1 : Int32)), .unset, .val (.int (1 : Int32)), .unset] [])) t → Steps p.tables e below (s₁.setTop (entryFrame m #[(.ref a1), (.int (0 : Int32)), (.int (1 : Int32))] 6)) t := fun t kt => P0 t (by
    show Steps p.tables e below (s₁.setTop (mkF m 0 #[.val (.ref a1), .val (.int (0 : Int32)), .val (.int (1 : Int32)), .unset, .unset, .unset] [])) _
    refine XS.iloadN X0.here hx rfl (hb hby dIS1_0) rfl ?_
    show Steps p.tables e below (s₁.setTop (mkF m 1 #[.val (.ref a1), .val (.int (0 : Int32)), .val (.int (1 : Int32)), .unset, .unset, .unset] [(.int (0 : Int32))])) _
    refine XS.istore X0.here hx rfl (hb hby dIS1_1) rfl (l' := #[.val (.ref a1), .val (.int (0 : Int32)), .val (.int (1 : Int32)), .unset, .val (.int (0 : Int32)), .unset]) rfl ?_
    show Steps p.tables e below (s₁.setTop (mkF m 3 #[.val (.ref a1), .val (.int (0 : Int32)), .val (.int (1 : Int32)), .unset, .val (.int (0 : Int32)), .unset] [])) _
    refine XS.iinc X0.here hx rfl (hb hby dIS1_3) rfl (l' := #[.val (.ref a1), .val (.int (0 : Int32)), .val (.int (1 : Int32)), .unset, .val (.int (1 : Int32)), .unset]) rfl ?_
    show Steps p.tables e below (s₁.setTop (mkF m 6 #[.val (.ref a1), .val (.int (0 : Int32)), .val (.int (1 : Int32)), .unset, .val (.int (1 : Int32)), .unset] [])) _
    refine XS.iload X0.here hx rfl (hb hby dIS1_6) rfl ?_
    show Steps p.tables e below (s₁.setTop (mkF m 8 #[.val (.ref a1), .val (.int (0 : Int32)), .val (.int (1 : Int32)), .unset, .val (.int (1 : Int32)), .unset] [(.int (1 : Int32))])) _
    refine XS.iloadN X0.here hx rfl (hb hby dIS1_8) rfl ?_
    show Steps p.tables e below (s₁.setTop (mkF m 9 #[.val (.ref a1), .val (.int (0 : Int32)), .val (.int (1 : Int32)), .unset, .val (.int (1 : Int32)), .unset] [(.int (1 : Int32)), (.int (1 : Int32))])) _
    refine XS.icmpYes X0.here hx rfl (pc0 := 9) (pc' := 67) rfl (hb hby dIS1_9) rfl (flt ((by decide) : ¬ ((1 : Int32) < (1 : Int32)))).2.1 (by decide) (by decide) ?_
    exact kt)
  obtain ⟨fs, hr, hrun, hended, hW, hsame⟩ := X0.leave (v := none) (fun _ => rfl) (hlocks := hlk)
  refine ⟨_, _, P101 _ ?_, hrun, hended, _, _, rfl, ?_, ⟨_, rfl⟩, hW, hsame.mono (by decide) (by decide)⟩
  · show Steps p.tables e below (s₁.setTop (mkF m 67 #[.val (.ref a1), .val (.int (0 : Int32)), .val (.int (1 : Int32)), .unset, .val (.int (1 : Int32)), .unset] [])) _
    exact X0.returnOut hx Bd.returns (hb hby dIS1_67) hr
  · show QS Z a1 k (1 : Int32) [(.int x0)] h0 n0 _ s₁.heap _
    rw [e0]
    exact ⟨rfl, N0, K0, V1⟩
theorem dS51_0 : decode jdk_2529_method_4_code 0 = .ok (.iload 4, 2) := by decide +kernel
theorem dS51_2 : decode jdk_2529_method_4_code 2 = .ok (.iconst 1, 1) := by decide +kernel
theorem dS51_3 : decode jdk_2529_method_4_code 3 = .ok (.isub, 1) := by decide +kernel
theorem dS51_4 : decode jdk_2529_method_4_code 4 = .ok (.istore 5, 2) := by decide +kernel
theorem dS51_6 : decode jdk_2529_method_4_code 6 = .ok (.iload 4, 2) := by decide +kernel
theorem dS51_8 : decode jdk_2529_method_4_code 8 = .ok (.iload_n 3, 1) := by decide +kernel
theorem dS51_9 : decode jdk_2529_method_4_code 9 = .ok (.isub, 1) := by decide +kernel
theorem dS51_10 : decode jdk_2529_method_4_code 10 = .ok (.istore 6, 2) := by decide +kernel
theorem dS51_12 : decode jdk_2529_method_4_code 12 = .ok (.iload 6, 2) := by decide +kernel
theorem dS51_14 : decode jdk_2529_method_4_code 14 = .ok (.bipush 65, 2) := by decide +kernel
theorem dS51_16 : decode jdk_2529_method_4_code 16 = .ok (.iload_n 2, 1) := by decide +kernel
theorem dS51_17 : decode jdk_2529_method_4_code 17 = .ok (.iadd, 1) := by decide +kernel
theorem dS51_18 : decode jdk_2529_method_4_code 18 = .ok (.if_icmp .ge 28, 3) := by decide +kernel
theorem dS51_21 : decode jdk_2529_method_4_code 21 = .ok (.iload_n 2, 1) := by decide +kernel
theorem dS51_22 : decode jdk_2529_method_4_code 22 = .ok (.iconst 1, 1) := by decide +kernel
theorem dS51_23 : decode jdk_2529_method_4_code 23 = .ok (.iand, 1) := by decide +kernel
theorem dS51_24 : decode jdk_2529_method_4_code 24 = .ok (.ifCond .le 22, 3) := by decide +kernel
theorem dS51_46 : decode jdk_2529_method_4_code 46 = .ok (.iload 6, 2) := by decide +kernel
theorem dS51_48 : decode jdk_2529_method_4_code 48 = .ok (.bipush 44, 2) := by decide +kernel
theorem dS51_50 : decode jdk_2529_method_4_code 50 = .ok (.if_icmp .ge 11, 3) := by decide +kernel
theorem dS51_53 : decode jdk_2529_method_4_code 53 = .ok (.aload_n 1, 1) := by decide +kernel
theorem dS51_54 : decode jdk_2529_method_4_code 54 = .ok (.iload_n 3, 1) := by decide +kernel
theorem dS51_55 : decode jdk_2529_method_4_code 55 = .ok (.iload 4, 2) := by decide +kernel
theorem dS51_57 : decode jdk_2529_method_4_code 57 = .ok (.invokestatic 34, 3) := by decide +kernel
theorem dS51_60 : decode jdk_2529_method_4_code 60 = .ok (.return_, 1) := by decide +kernel
theorem ef_S51 (m : MethodId) (x1 : Addr) : entryFrame m #[.null, (.ref x1), (.int (0 : Int32)), (.int (0 : Int32)), (.int (1 : Int32))] 21 = mkF m 0 #[.val .null, .val (.ref x1), .val (.int (0 : Int32)), .val (.int (0 : Int32)), .val (.int (1 : Int32)), .unset, .unset, .unset, .unset, .unset, .unset, .unset, .unset, .unset, .unset, .unset, .unset, .unset, .unset, .unset, .unset] [] := by first | (simp [entryFrame, mkF, argsToLocals, Value.category]; done) | rfl
set_option maxRecDepth 65536 in
set_option maxHeartbeats 40000000 in
theorem rmS51 (l : Launch) (Z : State) (a0 : Array Value) (hw : ∀ d ∈ tables_1, d.before a0 Z = true) (ws : List Jvm.Cond) (a1 : Addr) (k : ClassId) (x0 : Int32) (h0 : Heap) (n0 : Nat) (Z0 : n0 ≤ h0.size) (V1 : Arv Z h0 a1 k .int (1 : Int32) [(.int x0)] (.int (0 : Int32))) (ga : n0 ≤ a1) :
    MetFree l (⟨"java/util/DualPivotQuicksort", "sort", "(Ljava/util/DualPivotQuicksort$Sorter;[IIII)V"⟩ : MethodName) (head1 (Jvm.Cond.code (⟨"java/util/DualPivotQuicksort", "sort", "(Ljava/util/DualPivotQuicksort$Sorter;[IIII)V"⟩ : MethodName) jdk_2529_method_4_code 21 none :: ws) ({ frames := 1, cells := 0, slots := 0, locals := 17 } : Room)) (fun a U => a = #[.null, (.ref a1), (.int (0 : Int32)), (.int (0 : Int32)), (.int (1 : Int32))] ∧ Z.Warmed39 U.vm ∧ U.heap = h0) (fun _ _ _ _ _ => True) (fun _ U o U' => ∃ v L, o = .returned v ∧ QS Z a1 k (1 : Int32) [(.int x0)] h0 n0 v U'.heap L ∧ FrameEnd U o U' L ({ frames := 1, cells := 0, slots := 0, locals := 17 } : Room).cells ({ frames := 1, cells := 0, slots := 0, locals := 17 } : Room).slots) := by
  refine MetFree.of_bodySF (plainFor_of_name (by first | (simp [plainName, overriddenIn]; done) | decide +kernel)) hisR ?_
  intro p e s m args below meth c s₁ Bd hml0 hP hK
  obtain ⟨rfl, hZ, hh⟩ := hP
  have hx := Bd.exec
  have hby := Bd.bytes
  have hml : c.maxLocals = 21 := hml0
  have hown : s.vm.findClass "java/util/DualPivotQuicksort" = some m.cls := findClass_of_methodNamed Bd.named
  have hnm := (name_of_methodNamed Bd.named Bd.method).1
  have hlk : meth.locks = false := BodyLoose.notSynchronized Bd
  have X0 : Stand p l e ({ frames := 1, cells := 0, slots := 0, locals := 17 } : Room) s m #[.null, (.ref a1), (.int (0 : Int32)), (.int (0 : Int32)), (.int (1 : Int32))] below meth c s₁ [] 0 0 := Stand.of_body Bd
  have e0 : s₁.heap = h0 := by rw [← hh, Bd.state]; rfl
  have P0 : ∀ t, Steps p.tables e below (s₁.setTop (mkF m 0 #[.val .null, .val (.ref a1), .val (.int (0 : Int32)), .val (.int (0 : Int32)), .val (.int (1 : Int32)), .unset, .unset, .unset, .unset, .unset, .unset, .unset, .unset, .unset, .unset, .unset, .unset, .unset, .unset, .unset, .unset] [])) t → Steps p.tables e below (s₁.setTop (entryFrame m #[.null, (.ref a1), (.int (0 : Int32)), (.int (0 : Int32)), (.int (1 : Int32))] 21)) t := fun t kt => castTop (ef_S51 m a1) kt
  have N0 := Fr.nil n0
  have K0 := Keep.refl h0 [a1]
  obtain ⟨_, _, ⟨T101, L101, k101, n101⟩, -, X101, ⟨Lc101, hQ101, l101, y101, z101⟩, st101⟩ := Jvm.LawKit.callS X0 hx (y := (⟨"java/util/DualPivotQuicksort", "insertionSort", "([III)V"⟩ : MethodName)) hown (mvT hZ (hw _ (List.mem_of_getElem? (i := 53) rfl))) (mvT hZ (hw _ (List.mem_of_getElem? (i := 54) rfl))) (mvT hZ (hw _ (List.mem_of_getElem? (i := 48) rfl))) (mvT hZ (hw _ (List.mem_of_getElem? (i := 55) rfl))) (by decide) (backOf (W := 0)  (rmIS1 l Z a0 hw [] a1 k x0 h0 n0 Z0 V1 ga ) hZ (hw _ (List.mem_of_getElem? (i := 55) rfl)) (hw _ (List.mem_of_getElem? (i := 48) rfl)) (by decide) (by decide)) (g := (mkF m 57 #[.val .null, .val (.ref a1), .val (.int (0 : Int32)), .val (.int (0 : Int32)), .val (.int (1 : Int32)), .val (.int (0 : Int32)), .val (.int (1 : Int32)), .unset, .unset, .unset, .unset, .unset, .unset, .unset, .unset, .unset, .unset, .unset, .unset, .unset, .unset] [(.int (1 : Int32)), (.int (0 : Int32)), (.ref a1)])) rfl (by rw [hml]; rfl) (argsL := [(.ref a1), (.int (0 : Int32)), (.int (1 : Int32))]) (rest := []) (lenOf pd___III_V rfl) rfl (by show 2 * 0 + _ ≤ _; exact Nat.le_of_eq rfl) (hb hby dS51_57) (fun _ _ => ⟨rfl, e0, (by decide : 0 + 0 ≤ _), (by decide : 0 + 0 ≤ _)⟩)
  dsimp only [Pt.U, Pt.locs, Pt.cells, Pt.slots] at X101 l101 y101 z101 st101 hQ101
  subst l101 y101 z101
  obtain ⟨rfl, Nq101, K101x, V101x⟩ := hQ101
  have N101 := Fr.app N0 Nq101
  have sz101 : n0 ≤ T101.heap.size := Nat.le_trans Z0 K101x.1
  have K101 : Keep h0 T101.heap [a1] := K0.trans K101x (fun x hx => by cases List.mem_singleton.mp hx; exact Or.inl (List.mem_of_getElem? (i := 0) rfl))
  have P102 : ∀ t, Steps p.tables e below (T101.setTop (mkF m 60 #[.val .null, .val (.ref a1), .val (.int (0 : Int32)), .val (.int (0 : Int32)), .val (.int (1 : Int32)), .val (.int (0 : Int32)), .val (.int (1 : Int32)), .unset, .unset, .unset, .unset, .unset, .unset, .unset, .unset, .unset, .unset, .unset, .unset, .unset, .unset] [])) t → Steps p.tables e below (s₁.setTop (entryFrame m #[.null, (.ref a1), (.int (0 : Int32)), (.int (0 : Int32)), (.int (1 : Int32))] 21)) t := fun t kt => P0 t (by
    show Steps p.tables e below (s₁.setTop (mkF m 0 #[.val .null, .val (.ref a1), .val (.int (0 : Int32)), .val (.int (0 : Int32)), .val (.int (1 : Int32)), .unset, .unset, .unset, .unset, .unset, .unset, .unset, .unset, .unset, .unset, .unset, .unset, .unset, .unset, .unset, .unset] [])) _
    refine XS.iload X0.here hx rfl (hb hby dS51_0) rfl ?_
    show Steps p.tables e below (s₁.setTop (mkF m 2 #[.val .null, .val (.ref a1), .val (.int (0 : Int32)), .val (.int (0 : Int32)), .val (.int (1 : Int32)), .unset, .unset, .unset, .unset, .unset, .unset, .unset, .unset, .unset, .unset, .unset, .unset, .unset, .unset, .unset, .unset] [(.int (1 : Int32))])) _
    refine XS.iconst X0.here hx rfl (hb hby dS51_2) ?_
    show Steps p.tables e below (s₁.setTop (mkF m 3 #[.val .null, .val (.ref a1), .val (.int (0 : Int32)), .val (.int (0 : Int32)), .val (.int (1 : Int32)), .unset, .unset, .unset, .unset, .unset, .unset, .unset, .unset, .unset, .unset, .unset, .unset, .unset, .unset, .unset, .unset] [(.int (1 : Int32)), (.int (1 : Int32))])) _
    refine XS.isub X0.here hx rfl (hb hby dS51_3) rfl ?_
    show Steps p.tables e below (s₁.setTop (mkF m 4 #[.val .null, .val (.ref a1), .val (.int (0 : Int32)), .val (.int (0 : Int32)), .val (.int (1 : Int32)), .unset, .unset, .unset, .unset, .unset, .unset, .unset, .unset, .unset, .unset, .unset, .unset, .unset, .unset, .unset, .unset] [(.int (0 : Int32))])) _
    refine XS.istore X0.here hx rfl (hb hby dS51_4) rfl (l' := #[.val .null, .val (.ref a1), .val (.int (0 : Int32)), .val (.int (0 : Int32)), .val (.int (1 : Int32)), .val (.int (0 : Int32)), .unset, .unset, .unset, .unset, .unset, .unset, .unset, .unset, .unset, .unset, .unset, .unset, .unset, .unset, .unset]) rfl ?_
    show Steps p.tables e below (s₁.setTop (mkF m 6 #[.val .null, .val (.ref a1), .val (.int (0 : Int32)), .val (.int (0 : Int32)), .val (.int (1 : Int32)), .val (.int (0 : Int32)), .unset, .unset, .unset, .unset, .unset, .unset, .unset, .unset, .unset, .unset, .unset, .unset, .unset, .unset, .unset] [])) _
    refine XS.iload X0.here hx rfl (hb hby dS51_6) rfl ?_
    show Steps p.tables e below (s₁.setTop (mkF m 8 #[.val .null, .val (.ref a1), .val (.int (0 : Int32)), .val (.int (0 : Int32)), .val (.int (1 : Int32)), .val (.int (0 : Int32)), .unset, .unset, .unset, .unset, .unset, .unset, .unset, .unset, .unset, .unset, .unset, .unset, .unset, .unset, .unset] [(.int (1 : Int32))])) _
    refine XS.iloadN X0.here hx rfl (hb hby dS51_8) rfl ?_
    show Steps p.tables e below (s₁.setTop (mkF m 9 #[.val .null, .val (.ref a1), .val (.int (0 : Int32)), .val (.int (0 : Int32)), .val (.int (1 : Int32)), .val (.int (0 : Int32)), .unset, .unset, .unset, .unset, .unset, .unset, .unset, .unset, .unset, .unset, .unset, .unset, .unset, .unset, .unset] [(.int (0 : Int32)), (.int (1 : Int32))])) _
    refine XS.isub X0.here hx rfl (hb hby dS51_9) rfl ?_
    show Steps p.tables e below (s₁.setTop (mkF m 10 #[.val .null, .val (.ref a1), .val (.int (0 : Int32)), .val (.int (0 : Int32)), .val (.int (1 : Int32)), .val (.int (0 : Int32)), .unset, .unset, .unset, .unset, .unset, .unset, .unset, .unset, .unset, .unset, .unset, .unset, .unset, .unset, .unset] [(.int (1 : Int32))])) _
    refine XS.istore X0.here hx rfl (hb hby dS51_10) rfl (l' := #[.val .null, .val (.ref a1), .val (.int (0 : Int32)), .val (.int (0 : Int32)), .val (.int (1 : Int32)), .val (.int (0 : Int32)), .val (.int (1 : Int32)), .unset, .unset, .unset, .unset, .unset, .unset, .unset, .unset, .unset, .unset, .unset, .unset, .unset, .unset]) rfl ?_
    show Steps p.tables e below (s₁.setTop (mkF m 12 #[.val .null, .val (.ref a1), .val (.int (0 : Int32)), .val (.int (0 : Int32)), .val (.int (1 : Int32)), .val (.int (0 : Int32)), .val (.int (1 : Int32)), .unset, .unset, .unset, .unset, .unset, .unset, .unset, .unset, .unset, .unset, .unset, .unset, .unset, .unset] [])) _
    refine XS.iload X0.here hx rfl (hb hby dS51_12) rfl ?_
    show Steps p.tables e below (s₁.setTop (mkF m 14 #[.val .null, .val (.ref a1), .val (.int (0 : Int32)), .val (.int (0 : Int32)), .val (.int (1 : Int32)), .val (.int (0 : Int32)), .val (.int (1 : Int32)), .unset, .unset, .unset, .unset, .unset, .unset, .unset, .unset, .unset, .unset, .unset, .unset, .unset, .unset] [(.int (1 : Int32))])) _
    refine XS.bipush X0.here hx rfl (hb hby dS51_14) ?_
    show Steps p.tables e below (s₁.setTop (mkF m 16 #[.val .null, .val (.ref a1), .val (.int (0 : Int32)), .val (.int (0 : Int32)), .val (.int (1 : Int32)), .val (.int (0 : Int32)), .val (.int (1 : Int32)), .unset, .unset, .unset, .unset, .unset, .unset, .unset, .unset, .unset, .unset, .unset, .unset, .unset, .unset] [(.int (65 : Int32)), (.int (1 : Int32))])) _
    refine XS.iloadN X0.here hx rfl (hb hby dS51_16) rfl ?_
    show Steps p.tables e below (s₁.setTop (mkF m 17 #[.val .null, .val (.ref a1), .val (.int (0 : Int32)), .val (.int (0 : Int32)), .val (.int (1 : Int32)), .val (.int (0 : Int32)), .val (.int (1 : Int32)), .unset, .unset, .unset, .unset, .unset, .unset, .unset, .unset, .unset, .unset, .unset, .unset, .unset, .unset] [(.int (0 : Int32)), (.int (65 : Int32)), (.int (1 : Int32))])) _
    refine XS.iadd X0.here hx rfl (hb hby dS51_17) rfl ?_
    show Steps p.tables e below (s₁.setTop (mkF m 18 #[.val .null, .val (.ref a1), .val (.int (0 : Int32)), .val (.int (0 : Int32)), .val (.int (1 : Int32)), .val (.int (0 : Int32)), .val (.int (1 : Int32)), .unset, .unset, .unset, .unset, .unset, .unset, .unset, .unset, .unset, .unset, .unset, .unset, .unset, .unset] [(.int (65 : Int32)), (.int (1 : Int32))])) _
    refine XS.icmpNo X0.here hx rfl (hb hby dS51_18) rfl (tlt ((by decide) : (1 : Int32) < (65 : Int32))).2.1 ?_
    show Steps p.tables e below (s₁.setTop (mkF m 21 #[.val .null, .val (.ref a1), .val (.int (0 : Int32)), .val (.int (0 : Int32)), .val (.int (1 : Int32)), .val (.int (0 : Int32)), .val (.int (1 : Int32)), .unset, .unset, .unset, .unset, .unset, .unset, .unset, .unset, .unset, .unset, .unset, .unset, .unset, .unset] [])) _
    refine XS.iloadN X0.here hx rfl (hb hby dS51_21) rfl ?_
    show Steps p.tables e below (s₁.setTop (mkF m 22 #[.val .null, .val (.ref a1), .val (.int (0 : Int32)), .val (.int (0 : Int32)), .val (.int (1 : Int32)), .val (.int (0 : Int32)), .val (.int (1 : Int32)), .unset, .unset, .unset, .unset, .unset, .unset, .unset, .unset, .unset, .unset, .unset, .unset, .unset, .unset] [(.int (0 : Int32))])) _
    refine XS.iconst X0.here hx rfl (hb hby dS51_22) ?_
    show Steps p.tables e below (s₁.setTop (mkF m 23 #[.val .null, .val (.ref a1), .val (.int (0 : Int32)), .val (.int (0 : Int32)), .val (.int (1 : Int32)), .val (.int (0 : Int32)), .val (.int (1 : Int32)), .unset, .unset, .unset, .unset, .unset, .unset, .unset, .unset, .unset, .unset, .unset, .unset, .unset, .unset] [(.int (1 : Int32)), (.int (0 : Int32))])) _
    refine XS.iand X0.here hx rfl (hb hby dS51_23) rfl ?_
    show Steps p.tables e below (s₁.setTop (mkF m 24 #[.val .null, .val (.ref a1), .val (.int (0 : Int32)), .val (.int (0 : Int32)), .val (.int (1 : Int32)), .val (.int (0 : Int32)), .val (.int (1 : Int32)), .unset, .unset, .unset, .unset, .unset, .unset, .unset, .unset, .unset, .unset, .unset, .unset, .unset, .unset] [(.int (0 : Int32))])) _
    refine XS.ifYes X0.here hx rfl (pc0 := 24) (pc' := 46) rfl (hb hby dS51_24) rfl ((if0 _ _).trans (flt ((by decide) : ¬ ((0 : Int32) < (0 : Int32)))).2.2.2) (by decide) (by decide) ?_
    show Steps p.tables e below (s₁.setTop (mkF m 46 #[.val .null, .val (.ref a1), .val (.int (0 : Int32)), .val (.int (0 : Int32)), .val (.int (1 : Int32)), .val (.int (0 : Int32)), .val (.int (1 : Int32)), .unset, .unset, .unset, .unset, .unset, .unset, .unset, .unset, .unset, .unset, .unset, .unset, .unset, .unset] [])) _
    refine XS.iload X0.here hx rfl (hb hby dS51_46) rfl ?_
    show Steps p.tables e below (s₁.setTop (mkF m 48 #[.val .null, .val (.ref a1), .val (.int (0 : Int32)), .val (.int (0 : Int32)), .val (.int (1 : Int32)), .val (.int (0 : Int32)), .val (.int (1 : Int32)), .unset, .unset, .unset, .unset, .unset, .unset, .unset, .unset, .unset, .unset, .unset, .unset, .unset, .unset] [(.int (1 : Int32))])) _
    refine XS.bipush X0.here hx rfl (hb hby dS51_48) ?_
    show Steps p.tables e below (s₁.setTop (mkF m 50 #[.val .null, .val (.ref a1), .val (.int (0 : Int32)), .val (.int (0 : Int32)), .val (.int (1 : Int32)), .val (.int (0 : Int32)), .val (.int (1 : Int32)), .unset, .unset, .unset, .unset, .unset, .unset, .unset, .unset, .unset, .unset, .unset, .unset, .unset, .unset] [(.int (44 : Int32)), (.int (1 : Int32))])) _
    refine XS.icmpNo X0.here hx rfl (hb hby dS51_50) rfl (tlt ((by decide) : (1 : Int32) < (44 : Int32))).2.1 ?_
    show Steps p.tables e below (s₁.setTop (mkF m 53 #[.val .null, .val (.ref a1), .val (.int (0 : Int32)), .val (.int (0 : Int32)), .val (.int (1 : Int32)), .val (.int (0 : Int32)), .val (.int (1 : Int32)), .unset, .unset, .unset, .unset, .unset, .unset, .unset, .unset, .unset, .unset, .unset, .unset, .unset, .unset] [])) _
    refine XS.aloadN X0.here hx rfl (hb hby dS51_53) rfl rfl ?_
    show Steps p.tables e below (s₁.setTop (mkF m 54 #[.val .null, .val (.ref a1), .val (.int (0 : Int32)), .val (.int (0 : Int32)), .val (.int (1 : Int32)), .val (.int (0 : Int32)), .val (.int (1 : Int32)), .unset, .unset, .unset, .unset, .unset, .unset, .unset, .unset, .unset, .unset, .unset, .unset, .unset, .unset] [(.ref a1)])) _
    refine XS.iloadN X0.here hx rfl (hb hby dS51_54) rfl ?_
    show Steps p.tables e below (s₁.setTop (mkF m 55 #[.val .null, .val (.ref a1), .val (.int (0 : Int32)), .val (.int (0 : Int32)), .val (.int (1 : Int32)), .val (.int (0 : Int32)), .val (.int (1 : Int32)), .unset, .unset, .unset, .unset, .unset, .unset, .unset, .unset, .unset, .unset, .unset, .unset, .unset, .unset] [(.int (0 : Int32)), (.ref a1)])) _
    refine XS.iload X0.here hx rfl (hb hby dS51_55) rfl ?_
    show Steps p.tables e below (s₁.setTop (mkF m 57 #[.val .null, .val (.ref a1), .val (.int (0 : Int32)), .val (.int (0 : Int32)), .val (.int (1 : Int32)), .val (.int (0 : Int32)), .val (.int (1 : Int32)), .unset, .unset, .unset, .unset, .unset, .unset, .unset, .unset, .unset, .unset, .unset, .unset, .unset, .unset] [(.int (1 : Int32)), (.int (0 : Int32)), (.ref a1)])) _
    refine st101 _ ?_
    exact kt)
  obtain ⟨fs, hr, hrun, hended, hW, hsame⟩ := X101.leave (v := none) (fun _ => rfl) (hlocks := hlk)
  refine ⟨_, _, P102 _ ?_, hrun, hended, _, _, rfl, ?_, ⟨_, rfl⟩, hW, hsame.mono (by decide) (by decide)⟩
  · show Steps p.tables e below (T101.setTop (mkF m 60 #[.val .null, .val (.ref a1), .val (.int (0 : Int32)), .val (.int (0 : Int32)), .val (.int (1 : Int32)), .val (.int (0 : Int32)), .val (.int (1 : Int32)), .unset, .unset, .unset, .unset, .unset, .unset, .unset, .unset, .unset, .unset, .unset, .unset, .unset, .unset] [])) _
    exact X101.returnOut hx Bd.returns (hb hby dS51_60) hr
  · show QS Z a1 k (1 : Int32) [(.int x0)] h0 n0 _ T101.heap _
    skip
    exact ⟨rfl, N101, K101, V101x⟩
theorem dS41_0 : decode jdk_2529_method_3_code 0 = .ok (.iload_n 3, 1) := by decide +kernel
theorem dS41_1 : decode jdk_2529_method_3_code 1 = .ok (.iload_n 2, 1) := by decide +kernel
theorem dS41_2 : decode jdk_2529_method_3_code 2 = .ok (.isub, 1) := by decide +kernel
theorem dS41_3 : decode jdk_2529_method_3_code 3 = .ok (.istore 4, 2) := by decide +kernel
theorem dS41_5 : decode jdk_2529_method_3_code 5 = .ok (.iload_n 1, 1) := by decide +kernel
theorem dS41_6 : decode jdk_2529_method_3_code 6 = .ok (.iconst 1, 1) := by decide +kernel
theorem dS41_7 : decode jdk_2529_method_3_code 7 = .ok (.if_icmp .le 61, 3) := by decide +kernel
theorem dS41_68 : decode jdk_2529_method_3_code 68 = .ok (.aconst_null, 1) := by decide +kernel
theorem dS41_69 : decode jdk_2529_method_3_code 69 = .ok (.aload_n 0, 1) := by decide +kernel
theorem dS41_70 : decode jdk_2529_method_3_code 70 = .ok (.iconst 0, 1) := by decide +kernel
theorem dS41_71 : decode jdk_2529_method_3_code 71 = .ok (.iload_n 2, 1) := by decide +kernel
theorem dS41_72 : decode jdk_2529_method_3_code 72 = .ok (.iload_n 3, 1) := by decide +kernel
theorem dS41_73 : decode jdk_2529_method_3_code 73 = .ok (.invokestatic 26, 3) := by decide +kernel
theorem dS41_76 : decode jdk_2529_method_3_code 76 = .ok (.return_, 1) := by decide +kernel
theorem ef_S41 (m : MethodId) (x0 : Addr) : entryFrame m #[(.ref x0), (.int (0 : Int32)), (.int (0 : Int32)), (.int (1 : Int32))] 7 = mkF m 0 #[.val (.ref x0), .val (.int (0 : Int32)), .val (.int (0 : Int32)), .val (.int (1 : Int32)), .unset, .unset, .unset] [] := by first | (simp [entryFrame, mkF, argsToLocals, Value.category]; done) | rfl
set_option maxRecDepth 65536 in
set_option maxHeartbeats 40000000 in
theorem rmS41 (l : Launch) (Z : State) (a0 : Array Value) (hw : ∀ d ∈ tables_1, d.before a0 Z = true) (ws : List Jvm.Cond) (a1 : Addr) (k : ClassId) (x0 : Int32) (h0 : Heap) (n0 : Nat) (Z0 : n0 ≤ h0.size) (V1 : Arv Z h0 a1 k .int (1 : Int32) [(.int x0)] (.int (0 : Int32))) (ga : n0 ≤ a1) :
    MetFree l (⟨"java/util/DualPivotQuicksort", "sort", "([IIII)V"⟩ : MethodName) (head1 (Jvm.Cond.code (⟨"java/util/DualPivotQuicksort", "sort", "([IIII)V"⟩ : MethodName) jdk_2529_method_3_code 7 none :: ws) ({ frames := 2, cells := 0, slots := 0, locals := 49 } : Room)) (fun a U => a = #[(.ref a1), (.int (0 : Int32)), (.int (0 : Int32)), (.int (1 : Int32))] ∧ Z.Warmed39 U.vm ∧ U.heap = h0) (fun _ _ _ _ _ => True) (fun _ U o U' => ∃ v L, o = .returned v ∧ QS Z a1 k (1 : Int32) [(.int x0)] h0 n0 v U'.heap L ∧ FrameEnd U o U' L ({ frames := 2, cells := 0, slots := 0, locals := 49 } : Room).cells ({ frames := 2, cells := 0, slots := 0, locals := 49 } : Room).slots) := by
  refine MetFree.of_bodySF (plainFor_of_name (by first | (simp [plainName, overriddenIn]; done) | decide +kernel)) hisR ?_
  intro p e s m args below meth c s₁ Bd hml0 hP hK
  obtain ⟨rfl, hZ, hh⟩ := hP
  have hx := Bd.exec
  have hby := Bd.bytes
  have hml : c.maxLocals = 7 := hml0
  have hown : s.vm.findClass "java/util/DualPivotQuicksort" = some m.cls := findClass_of_methodNamed Bd.named
  have hnm := (name_of_methodNamed Bd.named Bd.method).1
  have hlk : meth.locks = false := BodyLoose.notSynchronized Bd
  have X0 : Stand p l e ({ frames := 2, cells := 0, slots := 0, locals := 49 } : Room) s m #[(.ref a1), (.int (0 : Int32)), (.int (0 : Int32)), (.int (1 : Int32))] below meth c s₁ [] 0 0 := Stand.of_body Bd
  have e0 : s₁.heap = h0 := by rw [← hh, Bd.state]; rfl
  have P0 : ∀ t, Steps p.tables e below (s₁.setTop (mkF m 0 #[.val (.ref a1), .val (.int (0 : Int32)), .val (.int (0 : Int32)), .val (.int (1 : Int32)), .unset, .unset, .unset] [])) t → Steps p.tables e below (s₁.setTop (entryFrame m #[(.ref a1), (.int (0 : Int32)), (.int (0 : Int32)), (.int (1 : Int32))] 7)) t := fun t kt => castTop (ef_S41 m a1) kt
  have N0 := Fr.nil n0
  have K0 := Keep.refl h0 [a1]
  obtain ⟨_, _, ⟨T101, L101, k101, n101⟩, -, X101, ⟨Lc101, hQ101, l101, y101, z101⟩, st101⟩ := Jvm.LawKit.callS X0 hx (y := (⟨"java/util/DualPivotQuicksort", "sort", "(Ljava/util/DualPivotQuicksort$Sorter;[IIII)V"⟩ : MethodName)) hown (mvT hZ (hw _ (List.mem_of_getElem? (i := 50) rfl))) (mvT hZ (hw _ (List.mem_of_getElem? (i := 51) rfl))) (mvT hZ (hw _ (List.mem_of_getElem? (i := 48) rfl))) (mvT hZ (hw _ (List.mem_of_getElem? (i := 52) rfl))) (by decide) (backOf (W := 0)  (rmS51 l Z a0 hw [] a1 k x0 h0 n0 Z0 V1 ga ) hZ (hw _ (List.mem_of_getElem? (i := 52) rfl)) (hw _ (List.mem_of_getElem? (i := 48) rfl)) (by decide) (by decide)) (g := (mkF m 73 #[.val (.ref a1), .val (.int (0 : Int32)), .val (.int (0 : Int32)), .val (.int (1 : Int32)), .val (.int (1 : Int32)), .unset, .unset] [(.int (1 : Int32)), (.int (0 : Int32)), (.int (0 : Int32)), (.ref a1), .null])) rfl (by rw [hml]; rfl) (argsL := [.null, (.ref a1), (.int (0 : Int32)), (.int (0 : Int32)), (.int (1 : Int32))]) (rest := []) (lenOf pd__Ljava_util_DualPivotQuicksort_Sorter__IIII_V rfl) rfl (by show 2 * 0 + _ ≤ _; exact Nat.le_of_eq rfl) (hb hby dS41_73) (fun _ _ => ⟨rfl, e0, (by decide : 0 + 0 ≤ _), (by decide : 0 + 0 ≤ _)⟩)
  dsimp only [Pt.U, Pt.locs, Pt.cells, Pt.slots] at X101 l101 y101 z101 st101 hQ101
  subst l101 y101 z101
  obtain ⟨rfl, Nq101, K101x, V101x⟩ := hQ101
  have N101 := Fr.app N0 Nq101
  have sz101 : n0 ≤ T101.heap.size := Nat.le_trans Z0 K101x.1
  have K101 : Keep h0 T101.heap [a1] := K0.trans K101x (fun x hx => by cases List.mem_singleton.mp hx; exact Or.inl (List.mem_of_getElem? (i := 0) rfl))
  have P102 : ∀ t, Steps p.tables e below (T101.setTop (mkF m 76 #[.val (.ref a1), .val (.int (0 : Int32)), .val (.int (0 : Int32)), .val (.int (1 : Int32)), .val (.int (1 : Int32)), .unset, .unset] [])) t → Steps p.tables e below (s₁.setTop (entryFrame m #[(.ref a1), (.int (0 : Int32)), (.int (0 : Int32)), (.int (1 : Int32))] 7)) t := fun t kt => P0 t (by
    show Steps p.tables e below (s₁.setTop (mkF m 0 #[.val (.ref a1), .val (.int (0 : Int32)), .val (.int (0 : Int32)), .val (.int (1 : Int32)), .unset, .unset, .unset] [])) _
    refine XS.iloadN X0.here hx rfl (hb hby dS41_0) rfl ?_
    show Steps p.tables e below (s₁.setTop (mkF m 1 #[.val (.ref a1), .val (.int (0 : Int32)), .val (.int (0 : Int32)), .val (.int (1 : Int32)), .unset, .unset, .unset] [(.int (1 : Int32))])) _
    refine XS.iloadN X0.here hx rfl (hb hby dS41_1) rfl ?_
    show Steps p.tables e below (s₁.setTop (mkF m 2 #[.val (.ref a1), .val (.int (0 : Int32)), .val (.int (0 : Int32)), .val (.int (1 : Int32)), .unset, .unset, .unset] [(.int (0 : Int32)), (.int (1 : Int32))])) _
    refine XS.isub X0.here hx rfl (hb hby dS41_2) rfl ?_
    show Steps p.tables e below (s₁.setTop (mkF m 3 #[.val (.ref a1), .val (.int (0 : Int32)), .val (.int (0 : Int32)), .val (.int (1 : Int32)), .unset, .unset, .unset] [(.int (1 : Int32))])) _
    refine XS.istore X0.here hx rfl (hb hby dS41_3) rfl (l' := #[.val (.ref a1), .val (.int (0 : Int32)), .val (.int (0 : Int32)), .val (.int (1 : Int32)), .val (.int (1 : Int32)), .unset, .unset]) rfl ?_
    show Steps p.tables e below (s₁.setTop (mkF m 5 #[.val (.ref a1), .val (.int (0 : Int32)), .val (.int (0 : Int32)), .val (.int (1 : Int32)), .val (.int (1 : Int32)), .unset, .unset] [])) _
    refine XS.iloadN X0.here hx rfl (hb hby dS41_5) rfl ?_
    show Steps p.tables e below (s₁.setTop (mkF m 6 #[.val (.ref a1), .val (.int (0 : Int32)), .val (.int (0 : Int32)), .val (.int (1 : Int32)), .val (.int (1 : Int32)), .unset, .unset] [(.int (0 : Int32))])) _
    refine XS.iconst X0.here hx rfl (hb hby dS41_6) ?_
    show Steps p.tables e below (s₁.setTop (mkF m 7 #[.val (.ref a1), .val (.int (0 : Int32)), .val (.int (0 : Int32)), .val (.int (1 : Int32)), .val (.int (1 : Int32)), .unset, .unset] [(.int (1 : Int32)), (.int (0 : Int32))])) _
    refine XS.icmpYes X0.here hx rfl (pc0 := 7) (pc' := 68) rfl (hb hby dS41_7) rfl (flt ((by decide) : ¬ ((1 : Int32) < (0 : Int32)))).2.2.2 (by decide) (by decide) ?_
    show Steps p.tables e below (s₁.setTop (mkF m 68 #[.val (.ref a1), .val (.int (0 : Int32)), .val (.int (0 : Int32)), .val (.int (1 : Int32)), .val (.int (1 : Int32)), .unset, .unset] [])) _
    refine XS.aconstNull X0.here hx rfl (hb hby dS41_68) ?_
    show Steps p.tables e below (s₁.setTop (mkF m 69 #[.val (.ref a1), .val (.int (0 : Int32)), .val (.int (0 : Int32)), .val (.int (1 : Int32)), .val (.int (1 : Int32)), .unset, .unset] [.null])) _
    refine XS.aloadN X0.here hx rfl (hb hby dS41_69) rfl rfl ?_
    show Steps p.tables e below (s₁.setTop (mkF m 70 #[.val (.ref a1), .val (.int (0 : Int32)), .val (.int (0 : Int32)), .val (.int (1 : Int32)), .val (.int (1 : Int32)), .unset, .unset] [(.ref a1), .null])) _
    refine XS.iconst X0.here hx rfl (hb hby dS41_70) ?_
    show Steps p.tables e below (s₁.setTop (mkF m 71 #[.val (.ref a1), .val (.int (0 : Int32)), .val (.int (0 : Int32)), .val (.int (1 : Int32)), .val (.int (1 : Int32)), .unset, .unset] [(.int (0 : Int32)), (.ref a1), .null])) _
    refine XS.iloadN X0.here hx rfl (hb hby dS41_71) rfl ?_
    show Steps p.tables e below (s₁.setTop (mkF m 72 #[.val (.ref a1), .val (.int (0 : Int32)), .val (.int (0 : Int32)), .val (.int (1 : Int32)), .val (.int (1 : Int32)), .unset, .unset] [(.int (0 : Int32)), (.int (0 : Int32)), (.ref a1), .null])) _
    refine XS.iloadN X0.here hx rfl (hb hby dS41_72) rfl ?_
    show Steps p.tables e below (s₁.setTop (mkF m 73 #[.val (.ref a1), .val (.int (0 : Int32)), .val (.int (0 : Int32)), .val (.int (1 : Int32)), .val (.int (1 : Int32)), .unset, .unset] [(.int (1 : Int32)), (.int (0 : Int32)), (.int (0 : Int32)), (.ref a1), .null])) _
    refine st101 _ ?_
    exact kt)
  obtain ⟨fs, hr, hrun, hended, hW, hsame⟩ := X101.leave (v := none) (fun _ => rfl) (hlocks := hlk)
  refine ⟨_, _, P102 _ ?_, hrun, hended, _, _, rfl, ?_, ⟨_, rfl⟩, hW, hsame.mono (by decide) (by decide)⟩
  · show Steps p.tables e below (T101.setTop (mkF m 76 #[.val (.ref a1), .val (.int (0 : Int32)), .val (.int (0 : Int32)), .val (.int (1 : Int32)), .val (.int (1 : Int32)), .unset, .unset] [])) _
    exact X101.returnOut hx Bd.returns (hb hby dS41_76) hr
  · show QS Z a1 k (1 : Int32) [(.int x0)] h0 n0 _ T101.heap _
    skip
    exact ⟨rfl, N101, K101, V101x⟩
theorem dAS1_0 : decode jdk_65_method_2_code 0 = .ok (.aload_n 0, 1) := by decide +kernel
theorem dAS1_1 : decode jdk_65_method_2_code 1 = .ok (.iconst 0, 1) := by decide +kernel
theorem dAS1_2 : decode jdk_65_method_2_code 2 = .ok (.iconst 0, 1) := by decide +kernel
theorem dAS1_3 : decode jdk_65_method_2_code 3 = .ok (.aload_n 0, 1) := by decide +kernel
theorem dAS1_4 : decode jdk_65_method_2_code 4 = .ok (.arraylength, 1) := by decide +kernel
theorem dAS1_5 : decode jdk_65_method_2_code 5 = .ok (.invokestatic 7, 3) := by decide +kernel
theorem dAS1_8 : decode jdk_65_method_2_code 8 = .ok (.return_, 1) := by decide +kernel
theorem ef_AS1 (m : MethodId) (x0 : Addr) : entryFrame m #[(.ref x0)] 1 = mkF m 0 #[.val (.ref x0)] [] := by first | (simp [entryFrame, mkF, argsToLocals, Value.category]; done) | rfl
set_option maxRecDepth 65536 in
set_option maxHeartbeats 40000000 in
theorem rmAS1 (l : Launch) (Z : State) (a0 : Array Value) (hw : ∀ d ∈ tables_1, d.before a0 Z = true) (ws : List Jvm.Cond) (a1 : Addr) (k : ClassId) (x0 : Int32) (h0 : Heap) (n0 : Nat) (Z0 : n0 ≤ h0.size) (V1 : Arv Z h0 a1 k .int (1 : Int32) [(.int x0)] (.int (0 : Int32))) (ga : n0 ≤ a1) :
    MetFree l (⟨"java/util/Arrays", "sort", "([I)V"⟩ : MethodName) (head1 (Jvm.Cond.code (⟨"java/util/Arrays", "sort", "([I)V"⟩ : MethodName) jdk_65_method_2_code 1 none :: ws) ({ frames := 3, cells := 0, slots := 0, locals := 67 } : Room)) (fun a U => a = #[(.ref a1)] ∧ Z.Warmed39 U.vm ∧ U.heap = h0) (fun _ _ _ _ _ => True) (fun _ U o U' => ∃ v L, o = .returned v ∧ QS Z a1 k (1 : Int32) [(.int x0)] h0 n0 v U'.heap L ∧ FrameEnd U o U' L ({ frames := 3, cells := 0, slots := 0, locals := 67 } : Room).cells ({ frames := 3, cells := 0, slots := 0, locals := 67 } : Room).slots) := by
  refine MetFree.of_bodySF (plainFor_of_name (by first | (simp [plainName, overriddenIn]; done) | decide +kernel)) hisR ?_
  intro p e s m args below meth c s₁ Bd hml0 hP hK
  obtain ⟨rfl, hZ, hh⟩ := hP
  have hx := Bd.exec
  have hby := Bd.bytes
  have hml : c.maxLocals = 1 := hml0
  have hown : s.vm.findClass "java/util/Arrays" = some m.cls := findClass_of_methodNamed Bd.named
  have hnm := (name_of_methodNamed Bd.named Bd.method).1
  have hlk : meth.locks = false := BodyLoose.notSynchronized Bd
  have X0 : Stand p l e ({ frames := 3, cells := 0, slots := 0, locals := 67 } : Room) s m #[(.ref a1)] below meth c s₁ [] 0 0 := Stand.of_body Bd
  have e0 : s₁.heap = h0 := by rw [← hh, Bd.state]; rfl
  have P0 : ∀ t, Steps p.tables e below (s₁.setTop (mkF m 0 #[.val (.ref a1)] [])) t → Steps p.tables e below (s₁.setTop (entryFrame m #[(.ref a1)] 1)) t := fun t kt => castTop (ef_AS1 m a1) kt
  have N0 := Fr.nil n0
  have K0 := Keep.refl h0 [a1]
  obtain ⟨cl101, Ar101, q101, S101, Nn101, H101, G101⟩ := id V1
  obtain ⟨_, _, ⟨T102, L102, k102, n102⟩, -, X102, ⟨Lc102, hQ102, l102, y102, z102⟩, st102⟩ := Jvm.LawKit.callS X0 hx (y := (⟨"java/util/DualPivotQuicksort", "sort", "([IIII)V"⟩ : MethodName)) hown (mvT hZ (hw _ (List.mem_of_getElem? (i := 46) rfl))) (mvT hZ (hw _ (List.mem_of_getElem? (i := 47) rfl))) (mvT hZ (hw _ (List.mem_of_getElem? (i := 48) rfl))) (mvT hZ (hw _ (List.mem_of_getElem? (i := 49) rfl))) (by decide) (backOf (W := 0)  (rmS41 l Z a0 hw [] a1 k x0 h0 n0 Z0 V1 ga ) hZ (hw _ (List.mem_of_getElem? (i := 49) rfl)) (hw _ (List.mem_of_getElem? (i := 48) rfl)) (by decide) (by decide)) (g := (mkF m 5 #[.val (.ref a1)] [(.int (1 : Int32)), (.int (0 : Int32)), (.int (0 : Int32)), (.ref a1)])) rfl (by rw [hml]; rfl) (argsL := [(.ref a1), (.int (0 : Int32)), (.int (0 : Int32)), (.int (1 : Int32))]) (rest := []) (lenOf pd___IIII_V rfl) rfl (by show 2 * 0 + _ ≤ _; exact Nat.le_of_eq rfl) (hb hby dAS1_5) (fun _ _ => ⟨rfl, e0, (by decide : 0 + 0 ≤ _), (by decide : 0 + 0 ≤ _)⟩)
  dsimp only [Pt.U, Pt.locs, Pt.cells, Pt.slots] at X102 l102 y102 z102 st102 hQ102
  subst l102 y102 z102
  obtain ⟨rfl, Nq102, K102x, V102x⟩ := hQ102
  have N102 := Fr.app N0 Nq102
  have sz102 : n0 ≤ T102.heap.size := Nat.le_trans Z0 K102x.1
  have K102 : Keep h0 T102.heap [a1] := K0.trans K102x (fun x hx => by cases List.mem_singleton.mp hx; exact Or.inl (List.mem_of_getElem? (i := 0) rfl))
  have P103 : ∀ t, Steps p.tables e below (T102.setTop (mkF m 8 #[.val (.ref a1)] [])) t → Steps p.tables e below (s₁.setTop (entryFrame m #[(.ref a1)] 1)) t := fun t kt => P0 t (by
    show Steps p.tables e below (s₁.setTop (mkF m 0 #[.val (.ref a1)] [])) _
    refine XS.aloadN X0.here hx rfl (hb hby dAS1_0) rfl rfl ?_
    show Steps p.tables e below (s₁.setTop (mkF m 1 #[.val (.ref a1)] [(.ref a1)])) _
    refine XS.iconst X0.here hx rfl (hb hby dAS1_1) ?_
    show Steps p.tables e below (s₁.setTop (mkF m 2 #[.val (.ref a1)] [(.int (0 : Int32)), (.ref a1)])) _
    refine XS.iconst X0.here hx rfl (hb hby dAS1_2) ?_
    show Steps p.tables e below (s₁.setTop (mkF m 3 #[.val (.ref a1)] [(.int (0 : Int32)), (.int (0 : Int32)), (.ref a1)])) _
    refine XS.aloadN X0.here hx rfl (hb hby dAS1_3) rfl rfl ?_
    show Steps p.tables e below (s₁.setTop (mkF m 4 #[.val (.ref a1)] [(.ref a1), (.int (0 : Int32)), (.int (0 : Int32)), (.ref a1)])) _
    refine X0.arraylength hx (by rw [e0]; exact Ar101.1) (State.isArrayOf_alike hZ.alike Ar101.2.1) (g := (mkF m 4 #[.val (.ref a1)] [(.ref a1), (.int (0 : Int32)), (.int (0 : Int32)), (.ref a1)])) rfl rfl (hb hby dAS1_4) _ ?_
    rw [len_of S101 Nn101]
    show Steps p.tables e below (s₁.setTop (mkF m 5 #[.val (.ref a1)] [(.int (1 : Int32)), (.int (0 : Int32)), (.int (0 : Int32)), (.ref a1)])) _
    refine st102 _ ?_
    exact kt)
  obtain ⟨fs, hr, hrun, hended, hW, hsame⟩ := X102.leave (v := none) (fun _ => rfl) (hlocks := hlk)
  refine ⟨_, _, P103 _ ?_, hrun, hended, _, _, rfl, ?_, ⟨_, rfl⟩, hW, hsame.mono (by decide) (by decide)⟩
  · show Steps p.tables e below (T102.setTop (mkF m 8 #[.val (.ref a1)] [])) _
    exact X102.returnOut hx Bd.returns (hb hby dAS1_8) hr
  · show QS Z a1 k (1 : Int32) [(.int x0)] h0 n0 _ T102.heap _
    skip
    exact ⟨rfl, N102, K102, V102x⟩
theorem dT1_0 : decode prog_83_method_1_code 0 = .ok (.aload_n 0, 1) := by decide +kernel
theorem dT1_1 : decode prog_83_method_1_code 1 = .ok (.invokespecial 1, 3) := by decide +kernel
theorem dT1_4 : decode prog_83_method_1_code 4 = .ok (.aload_n 1, 1) := by decide +kernel
theorem dT1_5 : decode prog_83_method_1_code 5 = .ok (.ldc 7, 2) := by decide +kernel
theorem dT1_7 : decode prog_83_method_1_code 7 = .ok (.invokestatic 9, 3) := by decide +kernel
theorem dT1_10 : decode prog_83_method_1_code 10 = .ok (.pop, 1) := by decide +kernel
theorem dT1_11 : decode prog_83_method_1_code 11 = .ok (.iload_n 2, 1) := by decide +kernel
theorem dT1_12 : decode prog_83_method_1_code 12 = .ok (.iconst 1, 1) := by decide +kernel
theorem dT1_13 : decode prog_83_method_1_code 13 = .ok (.if_icmp .ge 17, 3) := by decide +kernel
theorem dT1_30 : decode prog_83_method_1_code 30 = .ok (.aload_n 3, 1) := by decide +kernel
theorem dT1_31 : decode prog_83_method_1_code 31 = .ok (.ldc 24, 2) := by decide +kernel
theorem dT1_33 : decode prog_83_method_1_code 33 = .ok (.invokestatic 9, 3) := by decide +kernel
theorem dT1_36 : decode prog_83_method_1_code 36 = .ok (.checkcast 26, 3) := by decide +kernel
theorem dT1_39 : decode prog_83_method_1_code 39 = .ok (.invokevirtual 28, 3) := by decide +kernel
theorem dT1_42 : decode prog_83_method_1_code 42 = .ok (.checkcast 26, 3) := by decide +kernel
theorem dT1_45 : decode prog_83_method_1_code 45 = .ok (.astore_n 3, 1) := by decide +kernel
theorem dT1_46 : decode prog_83_method_1_code 46 = .ok (.aload_n 3, 1) := by decide +kernel
theorem dT1_47 : decode prog_83_method_1_code 47 = .ok (.invokestatic 32, 3) := by decide +kernel
theorem dT1_50 : decode prog_83_method_1_code 50 = .ok (.iconst 0, 1) := by decide +kernel
theorem dT1_51 : decode prog_83_method_1_code 51 = .ok (.istore 4, 2) := by decide +kernel
theorem dT1_53 : decode prog_83_method_1_code 53 = .ok (.iload 4, 2) := by decide +kernel
theorem dT1_55 : decode prog_83_method_1_code 55 = .ok (.aload_n 3, 1) := by decide +kernel
theorem dT1_56 : decode prog_83_method_1_code 56 = .ok (.arraylength, 1) := by decide +kernel
theorem dT1_57 : decode prog_83_method_1_code 57 = .ok (.if_icmp .ge 55, 3) := by decide +kernel
theorem dT1_60 : decode prog_83_method_1_code 60 = .ok (.aload_n 1, 1) := by decide +kernel
theorem dT1_61 : decode prog_83_method_1_code 61 = .ok (.iload_n 2, 1) := by decide +kernel
theorem dT1_62 : decode prog_83_method_1_code 62 = .ok (.ldc 38, 2) := by decide +kernel
theorem dT1_64 : decode prog_83_method_1_code 64 = .ok (.aload_n 3, 1) := by decide +kernel
theorem dT1_65 : decode prog_83_method_1_code 65 = .ok (.iload 4, 2) := by decide +kernel
theorem dT1_67 : decode prog_83_method_1_code 67 = .ok (.iaload, 1) := by decide +kernel
theorem dT1_68 : decode prog_83_method_1_code 68 = .ok (.invokestatic 40, 3) := by decide +kernel
theorem dT1_71 : decode prog_83_method_1_code 71 = .ok (.iload 4, 2) := by decide +kernel
theorem dT1_73 : decode prog_83_method_1_code 73 = .ok (.ifCond .le 33, 3) := by decide +kernel
theorem dT1_106 : decode prog_83_method_1_code 106 = .ok (.iinc 4 1, 3) := by decide +kernel
theorem dT1_109 : decode prog_83_method_1_code 109 = .ok (.goto (-56), 3) := by decide +kernel
theorem dT1_112 : decode prog_83_method_1_code 112 = .ok (.aload_n 0, 1) := by decide +kernel
theorem dT1_113 : decode prog_83_method_1_code 113 = .ok (.aload_n 1, 1) := by decide +kernel
theorem dT1_114 : decode prog_83_method_1_code 114 = .ok (.putfield 47, 3) := by decide +kernel
theorem dT1_117 : decode prog_83_method_1_code 117 = .ok (.aload_n 0, 1) := by decide +kernel
theorem dT1_118 : decode prog_83_method_1_code 118 = .ok (.iload_n 2, 1) := by decide +kernel
theorem dT1_119 : decode prog_83_method_1_code 119 = .ok (.putfield 50, 3) := by decide +kernel
theorem dT1_122 : decode prog_83_method_1_code 122 = .ok (.aload_n 0, 1) := by decide +kernel
theorem dT1_123 : decode prog_83_method_1_code 123 = .ok (.aload_n 3, 1) := by decide +kernel
theorem dT1_124 : decode prog_83_method_1_code 124 = .ok (.putfield 54, 3) := by decide +kernel
theorem dT1_127 : decode prog_83_method_1_code 127 = .ok (.return_, 1) := by decide +kernel
theorem ef_T1 (m : MethodId) (x0 : Addr) (x1 : Addr) (x2 : Int32) (x3 : Addr) : entryFrame m #[(.ref x0), (.ref x1), (.int x2), (.ref x3)] 5 = mkF m 0 #[.val (.ref x0), .val (.ref x1), .val (.int x2), .val (.ref x3), .unset] [] := by first | (simp [entryFrame, mkF, argsToLocals, Value.category]; done) | rfl
set_option maxRecDepth 65536 in
set_option maxHeartbeats 40000000 in
theorem rmT1 (l : Launch) (Z : State) (a0 : Array Value) (hw : ∀ d ∈ tables_1, d.before a0 Z = true) (ws : List Jvm.Cond) (a1 : Addr) (a2 : Addr) (p3 : Int32) (a4 : Addr) (k : ClassId) (x0 : Int32) (h0 : Heap) (n0 : Nat) (Z0 : n0 ≤ h0.size) (E1 : Exa Z h0 a1 "com/example/allot/allot/partition/Topic") (Fn : Fld Z h0 a1 "com/example/allot/allot/partition/Topic" "name" "Ljava/lang/String;" .null) (Fp : Fld Z h0 a1 "com/example/allot/allot/partition/Topic" "partitions" "I" (.int (0 : Int32))) (Fu : Fld Z h0 a1 "com/example/allot/allot/partition/Topic" "unavailable" "[I" .null) (ga : n0 ≤ a1) (E4 : Exa Z h0 a4 "[I") (V4 : Arv Z h0 a4 k .int (1 : Int32) [(.int x0)] (.int (0 : Int32))) (h14 : a1 ≠ a4) (hp : ¬ p3 < (1 : Int32)) (hx0 : ¬ x0 < (0 : Int32)) (hy0 : x0 < p3) :
    MetFree l (⟨"com/example/allot/allot/partition/Topic", "<init>", "(Ljava/lang/String;I[I)V"⟩ : MethodName) (head1 (Jvm.Cond.code (⟨"com/example/allot/allot/partition/Topic", "<init>", "(Ljava/lang/String;I[I)V"⟩ : MethodName) prog_83_method_1_code 5 none :: ws) ({ frames := 4, cells := 7, slots := 157, locals := 79 } : Room)) (fun a U => a = #[(.ref a1), (.ref a2), (.int p3), (.ref a4)] ∧ Z.Warmed39 U.vm ∧ U.heap = h0) (fun _ _ _ _ _ => True) (fun _ U o U' => ∃ v L, o = .returned v ∧ QT Z a1 a2 p3 (1 : Int32) [(.int x0)] h0 n0 v U'.heap L ∧ ReturnedEndW U o U' L ({ frames := 4, cells := 7, slots := 157, locals := 79 } : Room).cells ({ frames := 4, cells := 7, slots := 157, locals := 79 } : Room).slots) := by
  refine MetFree.of_bodySF (plainFor_of_name (by first | (simp [plainName, overriddenIn]; done) | decide +kernel)) hisR ?_
  intro p e s m args below meth c s₁ Bd hml0 hP hK
  obtain ⟨rfl, hZ, hh⟩ := hP
  have hx := Bd.exec
  have hby := Bd.bytes
  have hml : c.maxLocals = 5 := hml0
  have hown : s.vm.findClass "com/example/allot/allot/partition/Topic" = some m.cls := findClass_of_methodNamed Bd.named
  have hnm := (name_of_methodNamed Bd.named Bd.method).1
  have hlk : meth.locks = false := BodyLoose.notSynchronized Bd
  have X0 : Stand p l e ({ frames := 4, cells := 7, slots := 157, locals := 79 } : Room) (s.setVm s.vm) m #[(.ref a1), (.ref a2), (.int p3), (.ref a4)] below meth c s₁ [] 0 0 := Stand.of_body Bd
  have e0 : s₁.heap = h0 := by rw [← hh, Bd.state]; rfl
  have P0 : ∀ t, Steps p.tables e below (s₁.setTop (mkF m 0 #[.val (.ref a1), .val (.ref a2), .val (.int p3), .val (.ref a4), .unset] [])) t → Steps p.tables e below (s₁.setTop (entryFrame m #[(.ref a1), (.ref a2), (.int p3), (.ref a4)] 5)) t := fun t kt => castTop (ef_T1 m a1 a2 p3 a4) kt
  have N0 := Fr.nil n0
  have hS0 : s.Since s.vm 0 := State.WarmedH.since (State.WarmedH.refl s) 0
  have hk0 : 0 ≤ h0.size := Nat.zero_le _
  have K0 := Keep.refl h0 [a1]
  obtain ⟨_, _, ⟨T101, L101, k101, n101⟩, -, X101, ⟨Lc101, hQ101, l101, y101, z101⟩, st101⟩ := X0.specialBack hx (y := (⟨"java/lang/Record", "<init>", "()V"⟩ : MethodName)) rfl hown (mvT hZ (hw _ (List.mem_of_getElem? (i := 19) rfl))) (mvT hZ (hw _ (List.mem_of_getElem? (i := 20) rfl))) (mvT hZ (hw _ (List.mem_of_getElem? (i := 23) rfl))) (by decide) (backOf (W := 0)  (rmR l Z a0 hw [] a1 h0) hZ (hw _ (List.mem_of_getElem? (i := 23) rfl)) (hw _ (List.mem_of_getElem? (i := 22) rfl)) (by decide) (by decide)) (g := (mkF m 1 #[.val (.ref a1), .val (.ref a2), .val (.int p3), .val (.ref a4), .unset] [(.ref a1)])) rfl (by rw [hml]; rfl) (Steps.refl _) (a := a1) (argsL := []) (rest := []) (lenOf pd___V rfl) rfl (by show 2 * 0 + _ ≤ _; exact Nat.le_of_eq rfl) (hb hby dT1_1) (fun _ _ => ⟨rfl, e0, (by decide : 0 + 0 ≤ _), (by decide : 0 + 0 ≤ _)⟩)
  dsimp only [Pt.U, Pt.locs, Pt.cells, Pt.slots] at X101 l101 y101 z101 st101 hQ101
  subst l101 y101 z101
  obtain ⟨rfl, rfl, e101⟩ := hQ101
  have N101 := Fr.app N0 (Fr.nil n0)
  have P102 : ∀ t, Steps p.tables e below (T101.setTop (mkF m 5 #[.val (.ref a1), .val (.ref a2), .val (.int p3), .val (.ref a4), .unset] [(.ref a2)])) t → Steps p.tables e below (s₁.setTop (entryFrame m #[(.ref a1), (.ref a2), (.int p3), (.ref a4)] 5)) t := fun t kt => P0 t (by
    show Steps p.tables e below (s₁.setTop (mkF m 0 #[.val (.ref a1), .val (.ref a2), .val (.int p3), .val (.ref a4), .unset] [])) _
    refine XS.aloadN X0.here hx rfl (hb hby dT1_0) rfl rfl ?_
    show Steps p.tables e below (s₁.setTop (mkF m 1 #[.val (.ref a1), .val (.ref a2), .val (.int p3), .val (.ref a4), .unset] [(.ref a1)])) _
    refine st101.trans ?_
    show Steps p.tables e below (T101.setTop (mkF m 4 #[.val (.ref a1), .val (.ref a2), .val (.int p3), .val (.ref a4), .unset] [])) _
    refine XS.aloadN X101.here hx rfl (hb hby dT1_4) rfl rfl ?_
    exact kt)
  obtain ⟨sa103, T103, h103, j103, X103, e103, E103, hS103, hk103, hZ, hown, st103⟩ := ldcS X101 hx hZ hown (hw _ (List.mem_of_getElem? (i := 27) rfl)) (own_wS hw) e101 hS0 hk0 (g := (mkF m 5 #[.val (.ref a1), .val (.ref a2), .val (.int p3), .val (.ref a4), .unset] [(.ref a2)])) rfl (hb hby dT1_5) (n := 16) (by decide) (by decide) (by decide) (by decide)
  have f104 := E1.ext E103
  have f105 := Fn.ext E103
  have f106 := Fp.ext E103
  have f107 := Fu.ext E103
  have f108 := E4.ext E103
  have f109 := V4.ext E103
  have sz103 : n0 ≤ h103.size := Nat.le_trans Z0 E103.1
  have K103 : Keep h0 h103 [a1] := K0.ext E103
  obtain ⟨_, _, ⟨T110, L110, k110, n110⟩, -, X110, ⟨Lc110, hQ110, l110, y110, z110⟩, st110⟩ := Jvm.LawKit.callS X103 hx (y := (⟨"java/util/Objects", "requireNonNull", "(Ljava/lang/Object;Ljava/lang/String;)Ljava/lang/Object;"⟩ : MethodName)) hown (mvT hZ (hw _ (List.mem_of_getElem? (i := 28) rfl))) (mvT hZ (hw _ (List.mem_of_getElem? (i := 29) rfl))) (mvT hZ (hw _ (List.mem_of_getElem? (i := 30) rfl))) (mvT hZ (hw _ (List.mem_of_getElem? (i := 31) rfl))) (by decide) (backOf (W := 0)  (rmNN l Z a0 hw [] a2 sa103 h103) hZ (hw _ (List.mem_of_getElem? (i := 31) rfl)) (hw _ (List.mem_of_getElem? (i := 30) rfl)) (by decide) (by decide)) (g := (mkF m 7 #[.val (.ref a1), .val (.ref a2), .val (.int p3), .val (.ref a4), .unset] [(.ref sa103), (.ref a2)])) rfl (by rw [hml]; rfl) (argsL := [(.ref a2), (.ref sa103)]) (rest := []) (lenOf pd__Ljava_lang_Object_Ljava_lang_String__Ljava_lang_Object_ rfl) rfl (by show 2 * 0 + _ ≤ _; exact Nat.le_of_eq rfl) (hb hby dT1_7) (fun _ _ => ⟨rfl, e103, (by decide : 2 + 0 ≤ _), (by decide : 20 + 0 ≤ _)⟩)
  dsimp only [Pt.U, Pt.locs, Pt.cells, Pt.slots] at X110 l110 y110 z110 st110 hQ110
  subst l110 y110 z110
  obtain ⟨rfl, rfl, e110⟩ := hQ110
  have N110 := Fr.app N101 (Fr.nil n0)
  have P111 : ∀ t, Steps p.tables e below (T110.setTop (mkF m 31 #[.val (.ref a1), .val (.ref a2), .val (.int p3), .val (.ref a4), .unset] [(.ref a4)])) t → Steps p.tables e below (s₁.setTop (entryFrame m #[(.ref a1), (.ref a2), (.int p3), (.ref a4)] 5)) t := fun t kt => P102 t (by
    show Steps p.tables e below (T101.setTop (mkF m 5 #[.val (.ref a1), .val (.ref a2), .val (.int p3), .val (.ref a4), .unset] [(.ref a2)])) _
    refine st103 _ ?_
    show Steps p.tables e below (T103.setTop (mkF m 7 #[.val (.ref a1), .val (.ref a2), .val (.int p3), .val (.ref a4), .unset] [(.ref sa103), (.ref a2)])) _
    refine st110 _ ?_
    show Steps p.tables e below (T110.setTop (mkF m 10 #[.val (.ref a1), .val (.ref a2), .val (.int p3), .val (.ref a4), .unset] [(.ref a2)])) _
    refine XS.pop X110.here hx rfl (hb hby dT1_10) rfl rfl ?_
    show Steps p.tables e below (T110.setTop (mkF m 11 #[.val (.ref a1), .val (.ref a2), .val (.int p3), .val (.ref a4), .unset] [])) _
    refine XS.iloadN X110.here hx rfl (hb hby dT1_11) rfl ?_
    show Steps p.tables e below (T110.setTop (mkF m 12 #[.val (.ref a1), .val (.ref a2), .val (.int p3), .val (.ref a4), .unset] [(.int p3)])) _
    refine XS.iconst X110.here hx rfl (hb hby dT1_12) ?_
    show Steps p.tables e below (T110.setTop (mkF m 13 #[.val (.ref a1), .val (.ref a2), .val (.int p3), .val (.ref a4), .unset] [(.int (1 : Int32)), (.int p3)])) _
    refine XS.icmpYes X110.here hx rfl (pc0 := 13) (pc' := 30) rfl (hb hby dT1_13) rfl (flt (hp : ¬ (p3 < (1 : Int32)))).2.1 (by decide) (by decide) ?_
    show Steps p.tables e below (T110.setTop (mkF m 30 #[.val (.ref a1), .val (.ref a2), .val (.int p3), .val (.ref a4), .unset] [])) _
    refine XS.aloadN X110.here hx rfl (hb hby dT1_30) rfl rfl ?_
    exact kt)
  obtain ⟨sa112, T112, h112, j112, X112, e112, E112, hS112, hk112, hZ, hown, st112⟩ := ldcS X110 hx hZ hown (hw _ (List.mem_of_getElem? (i := 32) rfl)) (own_wS hw) e110 hS103 hk103 (g := (mkF m 31 #[.val (.ref a1), .val (.ref a2), .val (.int p3), .val (.ref a4), .unset] [(.ref a4)])) rfl (hb hby dT1_31) (n := 44) (by decide) (by decide) (by decide) (by decide)
  have f113 := f104.ext E112
  have f114 := f105.ext E112
  have f115 := f106.ext E112
  have f116 := f107.ext E112
  have f117 := f108.ext E112
  have f118 := f109.ext E112
  have sz112 : n0 ≤ h112.size := Nat.le_trans sz103 E112.1
  have K112 : Keep h0 h112 [a1] := K103.ext E112
  obtain ⟨_, _, ⟨T119, L119, k119, n119⟩, -, X119, ⟨Lc119, hQ119, l119, y119, z119⟩, st119⟩ := Jvm.LawKit.callS X112 hx (y := (⟨"java/util/Objects", "requireNonNull", "(Ljava/lang/Object;Ljava/lang/String;)Ljava/lang/Object;"⟩ : MethodName)) hown (mvT hZ (hw _ (List.mem_of_getElem? (i := 28) rfl))) (mvT hZ (hw _ (List.mem_of_getElem? (i := 29) rfl))) (mvT hZ (hw _ (List.mem_of_getElem? (i := 30) rfl))) (mvT hZ (hw _ (List.mem_of_getElem? (i := 31) rfl))) (by decide) (backOf (W := 0)  (rmNN l Z a0 hw [] a4 sa112 h112) hZ (hw _ (List.mem_of_getElem? (i := 31) rfl)) (hw _ (List.mem_of_getElem? (i := 30) rfl)) (by decide) (by decide)) (g := (mkF m 33 #[.val (.ref a1), .val (.ref a2), .val (.int p3), .val (.ref a4), .unset] [(.ref sa112), (.ref a4)])) rfl (by rw [hml]; rfl) (argsL := [(.ref a4), (.ref sa112)]) (rest := []) (lenOf pd__Ljava_lang_Object_Ljava_lang_String__Ljava_lang_Object_ rfl) rfl (by show 2 * 0 + _ ≤ _; exact Nat.le_of_eq rfl) (hb hby dT1_33) (fun _ _ => ⟨rfl, e112, (by decide : 4 + 0 ≤ _), (by decide : 68 + 0 ≤ _)⟩)
  dsimp only [Pt.U, Pt.locs, Pt.cells, Pt.slots] at X119 l119 y119 z119 st119 hQ119
  subst l119 y119 z119
  obtain ⟨rfl, rfl, e119⟩ := hQ119
  have N119 := Fr.app N110 (Fr.nil n0)
  obtain ⟨T120, X120, e120, st120⟩ := castY X119 hx hZ hown (hw _ (List.mem_of_getElem? (i := 33) rfl)) e119 (Ins.self f117) (g := (mkF m 36 #[.val (.ref a1), .val (.ref a2), .val (.int p3), .val (.ref a4), .unset] [(.ref a4)])) rfl rfl (hb hby dT1_36)
  obtain ⟨T121, h121, X121, e121, E121, V121, A121, st121⟩ := cloneH X120 hx hZ hown (hw _ (List.mem_of_getElem? (i := 35) rfl)) (hw _ (List.mem_of_getElem? (i := 36) rfl)) (hw _ (List.mem_of_getElem? (i := 40) rfl)) (hw _ (List.mem_of_getElem? (i := 38) rfl)) (hw _ (List.mem_of_getElem? (i := 39) rfl)) (hw _ (List.mem_of_getElem? (i := 41) rfl)) e120 (hs := []) f118 f117 (g := (mkF m 39 #[.val (.ref a1), .val (.ref a2), .val (.int p3), .val (.ref a4), .unset] [(.ref a4)])) rfl (by rw [hml]; rfl) rfl (hb hby dT1_39) (by decide) (W := 0) (by show 2 * 0 + _ ≤ _; exact Nat.le_of_eq rfl) (by decide) (cap := 1) (by decide) (by decide) (by decide)
  obtain ⟨b121, g121⟩ : ∃ z, z = h112.size := ⟨_, rfl⟩
  rw [← g121] at A121 V121 st121
  have ne121_a1 : a1 ≠ b121 := Nat.ne_of_lt (Nat.lt_of_lt_of_le f113.lt (Nat.le_of_eq g121.symm))
  have ne121_a4 : a4 ≠ b121 := Nat.ne_of_lt (Nat.lt_of_lt_of_le f117.lt (Nat.le_of_eq g121.symm))
  have gb121 : n0 ≤ b121 := Nat.le_trans sz112 (Nat.le_of_eq g121.symm)
  have sz121 : n0 ≤ h121.size := Nat.le_trans sz112 E121.1
  have hk121 := Nat.le_trans hk112 E121.1
  have sb121 : h0.size ≤ b121 := Nat.le_trans K112.1 (Nat.le_of_eq g121.symm)
  have f122 := f113.ext E121
  have f123 := f114.ext E121
  have f124 := f115.ext E121
  have f125 := f116.ext E121
  have f126 := f117.ext E121
  have f127 := f118.ext E121
  have V121v : Arv Z h121 b121 k .int (1 : Int32) [(.int x0)] (.int (0 : Int32)) := V121
  have K121 : Keep h0 h121 [a1] := K112.ext E121
  obtain ⟨T128, X128, e128, st128⟩ := castY X121 hx hZ hown (hw _ (List.mem_of_getElem? (i := 33) rfl)) e121 (Ins.self A121) (g := (mkF m 42 #[.val (.ref a1), .val (.ref a2), .val (.int p3), .val (.ref a4), .unset] [(.ref b121)])) rfl rfl (hb hby dT1_42)
  obtain ⟨_, _, ⟨T129, L129, k129, n129⟩, -, X129, ⟨Lc129, hQ129, l129, y129, z129⟩, st129⟩ := Jvm.LawKit.callS X128 hx (y := (⟨"java/util/Arrays", "sort", "([I)V"⟩ : MethodName)) hown (mvT hZ (hw _ (List.mem_of_getElem? (i := 42) rfl))) (mvT hZ (hw _ (List.mem_of_getElem? (i := 43) rfl))) (mvT hZ (hw _ (List.mem_of_getElem? (i := 44) rfl))) (mvT hZ (hw _ (List.mem_of_getElem? (i := 45) rfl))) (by decide) (backOf (W := 0)  (rmAS1 l Z a0 hw [] b121 k x0 h121 n0 sz121 V121v gb121 ) hZ (hw _ (List.mem_of_getElem? (i := 45) rfl)) (hw _ (List.mem_of_getElem? (i := 44) rfl)) (by decide) (by decide)) (g := (mkF m 47 #[.val (.ref a1), .val (.ref a2), .val (.int p3), .val (.ref b121), .unset] [(.ref b121)])) rfl (by rw [hml]; rfl) (argsL := [(.ref b121)]) (rest := []) (lenOf pd___I_V rfl) rfl (by show 2 * 0 + _ ≤ _; exact Nat.le_of_eq rfl) (hb hby dT1_47) (fun _ _ => ⟨rfl, e128, (by decide : 5 + 0 ≤ _), (by decide : 69 + 0 ≤ _)⟩)
  dsimp only [Pt.U, Pt.locs, Pt.cells, Pt.slots] at X129 l129 y129 z129 st129 hQ129
  subst l129 y129 z129
  obtain ⟨rfl, Nq129, K129x, V129x⟩ := hQ129
  have N129 := Fr.app N119 Nq129
  have sz129 : n0 ≤ T129.heap.size := Nat.le_trans sz121 K129x.1
  have hk129 := Nat.le_trans hk121 K129x.1
  have f130 := f122.keep K129x
  have f131 := f123.keep K129x (own_nm ne121_a1)
  have f132 := f124.keep K129x (own_nm ne121_a1)
  have f133 := f125.keep K129x (own_nm ne121_a1)
  have f134 := f126.keep K129x
  have f135 := f127.keep K129x (own_nm ne121_a4)
  have f136 := A121.keep K129x
  have K129 : Keep h0 T129.heap [a1] := K121.trans K129x (fun x hx => by cases List.mem_singleton.mp hx; exact Or.inr sb121)
  obtain ⟨cl137, Ar137, q137, S137, Nn137, H137, G137⟩ := id V129x
  have P138 : ∀ t, Steps p.tables e below (T129.setTop (mkF m 62 #[.val (.ref a1), .val (.ref a2), .val (.int p3), .val (.ref b121), .val (.int (0 : Int32))] [(.int p3), (.ref a2)])) t → Steps p.tables e below (s₁.setTop (entryFrame m #[(.ref a1), (.ref a2), (.int p3), (.ref a4)] 5)) t := fun t kt => P111 t (by
    show Steps p.tables e below (T110.setTop (mkF m 31 #[.val (.ref a1), .val (.ref a2), .val (.int p3), .val (.ref a4), .unset] [(.ref a4)])) _
    refine st112 _ ?_
    show Steps p.tables e below (T112.setTop (mkF m 33 #[.val (.ref a1), .val (.ref a2), .val (.int p3), .val (.ref a4), .unset] [(.ref sa112), (.ref a4)])) _
    refine st119 _ ?_
    show Steps p.tables e below (T119.setTop (mkF m 36 #[.val (.ref a1), .val (.ref a2), .val (.int p3), .val (.ref a4), .unset] [(.ref a4)])) _
    refine st120 _ ?_
    show Steps p.tables e below (T120.setTop (mkF m 39 #[.val (.ref a1), .val (.ref a2), .val (.int p3), .val (.ref a4), .unset] [(.ref a4)])) _
    refine st121 _ ?_
    show Steps p.tables e below (T121.setTop (mkF m 42 #[.val (.ref a1), .val (.ref a2), .val (.int p3), .val (.ref a4), .unset] [(.ref b121)])) _
    refine st128 _ ?_
    show Steps p.tables e below (T128.setTop (mkF m 45 #[.val (.ref a1), .val (.ref a2), .val (.int p3), .val (.ref a4), .unset] [(.ref b121)])) _
    refine XS.astoreN X128.here hx rfl (hb hby dT1_45) rfl rfl (l' := #[.val (.ref a1), .val (.ref a2), .val (.int p3), .val (.ref b121), .unset]) rfl ?_
    show Steps p.tables e below (T128.setTop (mkF m 46 #[.val (.ref a1), .val (.ref a2), .val (.int p3), .val (.ref b121), .unset] [])) _
    refine XS.aloadN X128.here hx rfl (hb hby dT1_46) rfl rfl ?_
    show Steps p.tables e below (T128.setTop (mkF m 47 #[.val (.ref a1), .val (.ref a2), .val (.int p3), .val (.ref b121), .unset] [(.ref b121)])) _
    refine st129 _ ?_
    show Steps p.tables e below (T129.setTop (mkF m 50 #[.val (.ref a1), .val (.ref a2), .val (.int p3), .val (.ref b121), .unset] [])) _
    refine XS.iconst X129.here hx rfl (hb hby dT1_50) ?_
    show Steps p.tables e below (T129.setTop (mkF m 51 #[.val (.ref a1), .val (.ref a2), .val (.int p3), .val (.ref b121), .unset] [(.int (0 : Int32))])) _
    refine XS.istore X129.here hx rfl (hb hby dT1_51) rfl (l' := #[.val (.ref a1), .val (.ref a2), .val (.int p3), .val (.ref b121), .val (.int (0 : Int32))]) rfl ?_
    show Steps p.tables e below (T129.setTop (mkF m 53 #[.val (.ref a1), .val (.ref a2), .val (.int p3), .val (.ref b121), .val (.int (0 : Int32))] [])) _
    refine XS.iload X129.here hx rfl (hb hby dT1_53) rfl ?_
    show Steps p.tables e below (T129.setTop (mkF m 55 #[.val (.ref a1), .val (.ref a2), .val (.int p3), .val (.ref b121), .val (.int (0 : Int32))] [(.int (0 : Int32))])) _
    refine XS.aloadN X129.here hx rfl (hb hby dT1_55) rfl rfl ?_
    show Steps p.tables e below (T129.setTop (mkF m 56 #[.val (.ref a1), .val (.ref a2), .val (.int p3), .val (.ref b121), .val (.int (0 : Int32))] [(.ref b121), (.int (0 : Int32))])) _
    refine X129.arraylength hx Ar137.1 (State.isArrayOf_alike hZ.alike Ar137.2.1) (g := (mkF m 56 #[.val (.ref a1), .val (.ref a2), .val (.int p3), .val (.ref b121), .val (.int (0 : Int32))] [(.ref b121), (.int (0 : Int32))])) rfl rfl (hb hby dT1_56) _ ?_
    rw [len_of S137 Nn137]
    show Steps p.tables e below (T129.setTop (mkF m 57 #[.val (.ref a1), .val (.ref a2), .val (.int p3), .val (.ref b121), .val (.int (0 : Int32))] [(.int (1 : Int32)), (.int (0 : Int32))])) _
    refine XS.icmpNo X129.here hx rfl (hb hby dT1_57) rfl (tlt ((by decide) : (0 : Int32) < (1 : Int32))).2.1 ?_
    show Steps p.tables e below (T129.setTop (mkF m 60 #[.val (.ref a1), .val (.ref a2), .val (.int p3), .val (.ref b121), .val (.int (0 : Int32))] [])) _
    refine XS.aloadN X129.here hx rfl (hb hby dT1_60) rfl rfl ?_
    show Steps p.tables e below (T129.setTop (mkF m 61 #[.val (.ref a1), .val (.ref a2), .val (.int p3), .val (.ref b121), .val (.int (0 : Int32))] [(.ref a2)])) _
    refine XS.iloadN X129.here hx rfl (hb hby dT1_61) rfl ?_
    exact kt)
  obtain ⟨sa139, T139, h139, j139, X139, e139, E139, hS139, hk139, hZ, hown, st139⟩ := ldcS X129 hx hZ hown (hw _ (List.mem_of_getElem? (i := 81) rfl)) (own_wS hw) rfl hS112 hk129 (g := (mkF m 62 #[.val (.ref a1), .val (.ref a2), .val (.int p3), .val (.ref b121), .val (.int (0 : Int32))] [(.int p3), (.ref a2)])) rfl (hb hby dT1_62) (n := 84) (by decide) (by decide) (by decide) (by decide)
  have f140 := f130.ext E139
  have f141 := f131.ext E139
  have f142 := f132.ext E139
  have f143 := f133.ext E139
  have f144 := f134.ext E139
  have f145 := f135.ext E139
  have f146 := f136.ext E139
  have f147 := V129x.ext E139
  have sz139 : n0 ≤ h139.size := Nat.le_trans sz129 E139.1
  have K139 : Keep h0 h139 [a1] := K129.ext E139
  obtain ⟨cl148, Ar148, q148, S148, Nn148, H148, G148⟩ := id f147
  obtain ⟨_, _, ⟨T149, L149, k149, n149⟩, -, X149, ⟨Lc149, hQ149, l149, y149, z149⟩, st149⟩ := Jvm.LawKit.callS X139 hx (y := (⟨"com/example/allot/allot/partition/Topic", "requireOneOf", "(Ljava/lang/String;ILjava/lang/String;I)V"⟩ : MethodName)) hown (mvT hZ (hw _ (List.mem_of_getElem? (i := 82) rfl))) (mvT hZ (hw _ (List.mem_of_getElem? (i := 83) rfl))) (mvT hZ (hw _ (List.mem_of_getElem? (i := 7) rfl))) (mvT hZ (hw _ (List.mem_of_getElem? (i := 84) rfl))) (by decide) (backOf (W := 0)  (rmRO l Z a0 hw [] a2 p3 sa139 x0 h139 hx0 hy0) hZ (hw _ (List.mem_of_getElem? (i := 84) rfl)) (hw _ (List.mem_of_getElem? (i := 7) rfl)) (by decide) (by decide)) (g := (mkF m 68 #[.val (.ref a1), .val (.ref a2), .val (.int p3), .val (.ref b121), .val (.int (0 : Int32))] [(.int x0), (.ref sa139), (.int p3), (.ref a2)])) rfl (by rw [hml]; rfl) (argsL := [(.ref a2), (.int p3), (.ref sa139), (.int x0)]) (rest := []) (lenOf pd__Ljava_lang_String_ILjava_lang_String_I_V rfl) rfl (by show 2 * 0 + _ ≤ _; exact Nat.le_of_eq rfl) (hb hby dT1_68) (fun _ _ => ⟨rfl, e139, (by decide : 7 + 0 ≤ _), (by decide : 157 + 0 ≤ _)⟩)
  dsimp only [Pt.U, Pt.locs, Pt.cells, Pt.slots] at X149 l149 y149 z149 st149 hQ149
  subst l149 y149 z149
  obtain ⟨rfl, rfl, e149⟩ := hQ149
  have N149 := Fr.app N129 (Fr.nil n0)
  obtain ⟨cl150, Ar150, q150, S150, Nn150, H150, G150⟩ := id f147
  obtain ⟨T151, h151, X151, e151, W151, st151⟩ := putF X149 hx hZ hown (host := "") (Or.inl (hw _ (List.mem_of_getElem? (i := 56) rfl))) Via.refl e149 f141 f140 (Or.inr ⟨(hw _ (List.mem_of_getElem? (i := 57) rfl)), rfl, hnm⟩) (hw _ (List.mem_of_getElem? (i := 6) rfl)) (ty := (.object "java/lang/String")) (by decide) rfl rfl (g := (mkF m 114 #[.val (.ref a1), .val (.ref a2), .val (.int p3), .val (.ref b121), .val (.int (1 : Int32))] [(.ref a2), (.ref a1)])) rfl rfl (hb hby dT1_114)
  have f152 := f140.wr W151
  have f153 := f142.other W151 (Or.inr (slot_ne (Or.inr (hw _ (List.mem_of_getElem? (i := 59) rfl))) (Or.inr (hw _ (List.mem_of_getElem? (i := 57) rfl))) (by decide) (t := .int) (t' := (.object "java/lang/String")) (by decide) (by decide)))
  have f154 := f143.other W151 (Or.inr (slot_ne (Or.inr (hw _ (List.mem_of_getElem? (i := 61) rfl))) (Or.inr (hw _ (List.mem_of_getElem? (i := 57) rfl))) (by decide) (t := (.array .int)) (t' := (.object "java/lang/String")) (by decide) (by decide)))
  have f155 := f144.wr W151
  have f156 := f145.other W151 (Ne.symm h14)
  have f157 := f146.wr W151
  have f158 := f147.other W151 (Ne.symm ne121_a1)
  have F151 := f141.same W151
  have N151 := Fr.snoc X151 N149 ga
  have sz151 : n0 ≤ h151.size := Nat.le_trans sz139 (Keep.of_wr W151).1
  have hk151 := Nat.le_trans hk139 (Keep.of_wr W151).1
  have K151 : Keep h0 h151 [a1] := K139.wr W151 (Or.inl (List.mem_of_getElem? (i := 0) rfl))
  obtain ⟨T159, h159, X159, e159, W159, st159⟩ := putF X151 hx hZ hown (host := "") (Or.inl (hw _ (List.mem_of_getElem? (i := 58) rfl))) Via.refl e151 f153 f152 (Or.inr ⟨(hw _ (List.mem_of_getElem? (i := 59) rfl)), rfl, hnm⟩) (hw _ (List.mem_of_getElem? (i := 6) rfl)) (ty := .int) (by decide) rfl rfl (g := (mkF m 119 #[.val (.ref a1), .val (.ref a2), .val (.int p3), .val (.ref b121), .val (.int (1 : Int32))] [(.int p3), (.ref a1)])) rfl rfl (hb hby dT1_119)
  have f160 := f152.wr W159
  have f161 := f154.other W159 (Or.inr (slot_ne (Or.inr (hw _ (List.mem_of_getElem? (i := 61) rfl))) (Or.inr (hw _ (List.mem_of_getElem? (i := 59) rfl))) (by decide) (t := (.array .int)) (t' := .int) (by decide) (by decide)))
  have f162 := f155.wr W159
  have f163 := f156.other W159 (Ne.symm h14)
  have f164 := f157.wr W159
  have f165 := f158.other W159 (Ne.symm ne121_a1)
  have f166 := F151.other W159 (Or.inr (slot_ne (Or.inr (hw _ (List.mem_of_getElem? (i := 57) rfl))) (Or.inr (hw _ (List.mem_of_getElem? (i := 59) rfl))) (by decide) (t := (.object "java/lang/String")) (t' := .int) (by decide) (by decide)))
  have F159 := f153.same W159
  have N159 := Fr.snoc X159 N151 ga
  have sz159 : n0 ≤ h159.size := Nat.le_trans sz151 (Keep.of_wr W159).1
  have hk159 := Nat.le_trans hk151 (Keep.of_wr W159).1
  have K159 : Keep h0 h159 [a1] := K151.wr W159 (Or.inl (List.mem_of_getElem? (i := 0) rfl))
  obtain ⟨T167, h167, X167, e167, W167, st167⟩ := putF X159 hx hZ hown (host := "") (Or.inl (hw _ (List.mem_of_getElem? (i := 60) rfl))) Via.refl e159 f161 f160 (Or.inr ⟨(hw _ (List.mem_of_getElem? (i := 61) rfl)), rfl, hnm⟩) (hw _ (List.mem_of_getElem? (i := 6) rfl)) (ty := (.array .int)) (by decide) rfl rfl (g := (mkF m 124 #[.val (.ref a1), .val (.ref a2), .val (.int p3), .val (.ref b121), .val (.int (1 : Int32))] [(.ref b121), (.ref a1)])) rfl rfl (hb hby dT1_124)
  have f168 := f160.wr W167
  have f169 := f162.wr W167
  have f170 := f163.other W167 (Ne.symm h14)
  have f171 := f164.wr W167
  have f172 := f165.other W167 (Ne.symm ne121_a1)
  have f173 := f166.other W167 (Or.inr (slot_ne (Or.inr (hw _ (List.mem_of_getElem? (i := 57) rfl))) (Or.inr (hw _ (List.mem_of_getElem? (i := 61) rfl))) (by decide) (t := (.object "java/lang/String")) (t' := (.array .int)) (by decide) (by decide)))
  have f174 := F159.other W167 (Or.inr (slot_ne (Or.inr (hw _ (List.mem_of_getElem? (i := 59) rfl))) (Or.inr (hw _ (List.mem_of_getElem? (i := 61) rfl))) (by decide) (t := .int) (t' := (.array .int)) (by decide) (by decide)))
  have F167 := f161.same W167
  have N167 := Fr.snoc X167 N159 ga
  have sz167 : n0 ≤ h167.size := Nat.le_trans sz159 (Keep.of_wr W167).1
  have hk167 := Nat.le_trans hk159 (Keep.of_wr W167).1
  have K167 : Keep h0 h167 [a1] := K159.wr W167 (Or.inl (List.mem_of_getElem? (i := 0) rfl))
  have P175 : ∀ t, Steps p.tables e below (T167.setTop (mkF m 127 #[.val (.ref a1), .val (.ref a2), .val (.int p3), .val (.ref b121), .val (.int (1 : Int32))] [])) t → Steps p.tables e below (s₁.setTop (entryFrame m #[(.ref a1), (.ref a2), (.int p3), (.ref a4)] 5)) t := fun t kt => P138 t (by
    show Steps p.tables e below (T129.setTop (mkF m 62 #[.val (.ref a1), .val (.ref a2), .val (.int p3), .val (.ref b121), .val (.int (0 : Int32))] [(.int p3), (.ref a2)])) _
    refine st139 _ ?_
    show Steps p.tables e below (T139.setTop (mkF m 64 #[.val (.ref a1), .val (.ref a2), .val (.int p3), .val (.ref b121), .val (.int (0 : Int32))] [(.ref sa139), (.int p3), (.ref a2)])) _
    refine XS.aloadN X139.here hx rfl (hb hby dT1_64) rfl rfl ?_
    show Steps p.tables e below (T139.setTop (mkF m 65 #[.val (.ref a1), .val (.ref a2), .val (.int p3), .val (.ref b121), .val (.int (0 : Int32))] [(.ref b121), (.ref sa139), (.int p3), (.ref a2)])) _
    refine XS.iload X139.here hx rfl (hb hby dT1_65) rfl ?_
    show Steps p.tables e below (T139.setTop (mkF m 67 #[.val (.ref a1), .val (.ref a2), .val (.int p3), .val (.ref b121), .val (.int (0 : Int32))] [(.int (0 : Int32)), (.ref b121), (.ref sa139), (.int p3), (.ref a2)])) _
    refine X139.iaload hx (j := (0 : Int32)) (v := (.int x0)) (by rw [e139]; exact Ar148.1) (State.isArrayOf_alike hZ.alike Ar148.2.1) Ar148.2.2 (inb_of S148 ⟨by decide, by decide⟩) (H148 0 (by rw [S148]; decide)) (g := (mkF m 67 #[.val (.ref a1), .val (.ref a2), .val (.int p3), .val (.ref b121), .val (.int (0 : Int32))] [(.int (0 : Int32)), (.ref b121), (.ref sa139), (.int p3), (.ref a2)])) rfl rfl (hb hby dT1_67) _ ?_
    show Steps p.tables e below (T139.setTop (mkF m 68 #[.val (.ref a1), .val (.ref a2), .val (.int p3), .val (.ref b121), .val (.int (0 : Int32))] [(.int x0), (.ref sa139), (.int p3), (.ref a2)])) _
    refine st149 _ ?_
    show Steps p.tables e below (T149.setTop (mkF m 71 #[.val (.ref a1), .val (.ref a2), .val (.int p3), .val (.ref b121), .val (.int (0 : Int32))] [])) _
    refine XS.iload X149.here hx rfl (hb hby dT1_71) rfl ?_
    show Steps p.tables e below (T149.setTop (mkF m 73 #[.val (.ref a1), .val (.ref a2), .val (.int p3), .val (.ref b121), .val (.int (0 : Int32))] [(.int (0 : Int32))])) _
    refine XS.ifYes X149.here hx rfl (pc0 := 73) (pc' := 106) rfl (hb hby dT1_73) rfl ((if0 _ _).trans (flt ((by decide) : ¬ ((0 : Int32) < (0 : Int32)))).2.2.2) (by decide) (by decide) ?_
    show Steps p.tables e below (T149.setTop (mkF m 106 #[.val (.ref a1), .val (.ref a2), .val (.int p3), .val (.ref b121), .val (.int (0 : Int32))] [])) _
    refine XS.iinc X149.here hx rfl (hb hby dT1_106) rfl (l' := #[.val (.ref a1), .val (.ref a2), .val (.int p3), .val (.ref b121), .val (.int (1 : Int32))]) rfl ?_
    show Steps p.tables e below (T149.setTop (mkF m 109 #[.val (.ref a1), .val (.ref a2), .val (.int p3), .val (.ref b121), .val (.int (1 : Int32))] [])) _
    refine XS.goto X149.here hx rfl (pc0 := 109) (pc' := 53) rfl (hb hby dT1_109) (by decide) (by decide) ?_
    show Steps p.tables e below (T149.setTop (mkF m 53 #[.val (.ref a1), .val (.ref a2), .val (.int p3), .val (.ref b121), .val (.int (1 : Int32))] [])) _
    refine XS.iload X149.here hx rfl (hb hby dT1_53) rfl ?_
    show Steps p.tables e below (T149.setTop (mkF m 55 #[.val (.ref a1), .val (.ref a2), .val (.int p3), .val (.ref b121), .val (.int (1 : Int32))] [(.int (1 : Int32))])) _
    refine XS.aloadN X149.here hx rfl (hb hby dT1_55) rfl rfl ?_
    show Steps p.tables e below (T149.setTop (mkF m 56 #[.val (.ref a1), .val (.ref a2), .val (.int p3), .val (.ref b121), .val (.int (1 : Int32))] [(.ref b121), (.int (1 : Int32))])) _
    refine X149.arraylength hx (by rw [e149]; exact Ar150.1) (State.isArrayOf_alike hZ.alike Ar150.2.1) (g := (mkF m 56 #[.val (.ref a1), .val (.ref a2), .val (.int p3), .val (.ref b121), .val (.int (1 : Int32))] [(.ref b121), (.int (1 : Int32))])) rfl rfl (hb hby dT1_56) _ ?_
    rw [len_of S150 Nn150]
    show Steps p.tables e below (T149.setTop (mkF m 57 #[.val (.ref a1), .val (.ref a2), .val (.int p3), .val (.ref b121), .val (.int (1 : Int32))] [(.int (1 : Int32)), (.int (1 : Int32))])) _
    refine XS.icmpYes X149.here hx rfl (pc0 := 57) (pc' := 112) rfl (hb hby dT1_57) rfl (flt ((by decide) : ¬ ((1 : Int32) < (1 : Int32)))).2.1 (by decide) (by decide) ?_
    show Steps p.tables e below (T149.setTop (mkF m 112 #[.val (.ref a1), .val (.ref a2), .val (.int p3), .val (.ref b121), .val (.int (1 : Int32))] [])) _
    refine XS.aloadN X149.here hx rfl (hb hby dT1_112) rfl rfl ?_
    show Steps p.tables e below (T149.setTop (mkF m 113 #[.val (.ref a1), .val (.ref a2), .val (.int p3), .val (.ref b121), .val (.int (1 : Int32))] [(.ref a1)])) _
    refine XS.aloadN X149.here hx rfl (hb hby dT1_113) rfl rfl ?_
    show Steps p.tables e below (T149.setTop (mkF m 114 #[.val (.ref a1), .val (.ref a2), .val (.int p3), .val (.ref b121), .val (.int (1 : Int32))] [(.ref a2), (.ref a1)])) _
    refine st151 _ ?_
    show Steps p.tables e below (T151.setTop (mkF m 117 #[.val (.ref a1), .val (.ref a2), .val (.int p3), .val (.ref b121), .val (.int (1 : Int32))] [])) _
    refine XS.aloadN X151.here hx rfl (hb hby dT1_117) rfl rfl ?_
    show Steps p.tables e below (T151.setTop (mkF m 118 #[.val (.ref a1), .val (.ref a2), .val (.int p3), .val (.ref b121), .val (.int (1 : Int32))] [(.ref a1)])) _
    refine XS.iloadN X151.here hx rfl (hb hby dT1_118) rfl ?_
    show Steps p.tables e below (T151.setTop (mkF m 119 #[.val (.ref a1), .val (.ref a2), .val (.int p3), .val (.ref b121), .val (.int (1 : Int32))] [(.int p3), (.ref a1)])) _
    refine st159 _ ?_
    show Steps p.tables e below (T159.setTop (mkF m 122 #[.val (.ref a1), .val (.ref a2), .val (.int p3), .val (.ref b121), .val (.int (1 : Int32))] [])) _
    refine XS.aloadN X159.here hx rfl (hb hby dT1_122) rfl rfl ?_
    show Steps p.tables e below (T159.setTop (mkF m 123 #[.val (.ref a1), .val (.ref a2), .val (.int p3), .val (.ref b121), .val (.int (1 : Int32))] [(.ref a1)])) _
    refine XS.aloadN X159.here hx rfl (hb hby dT1_123) rfl rfl ?_
    show Steps p.tables e below (T159.setTop (mkF m 124 #[.val (.ref a1), .val (.ref a2), .val (.int p3), .val (.ref b121), .val (.int (1 : Int32))] [(.ref b121), (.ref a1)])) _
    refine st167 _ ?_
    exact kt)
  obtain ⟨fs, hr, hrun, hended, hE1, hE2, hE3, hE4⟩ := X167.leaveW hS139 (by rw [e167]; exact hk167) (v := none) (fun _ => rfl) (hlocks := hlk)
  refine ⟨_, _, P175 _ ?_, hrun, hended, _, _, rfl, ?_, hE1, hE2, hE3, hE4.mono (by decide) (by decide)⟩
  · show Steps p.tables e below (T167.setTop (mkF m 127 #[.val (.ref a1), .val (.ref a2), .val (.int p3), .val (.ref b121), .val (.int (1 : Int32))] [])) _
    exact X167.returnOut hx Bd.returns (hb hby dT1_127) hr
  · show QT Z a1 a2 p3 (1 : Int32) [(.int x0)] h0 n0 _ T167.heap _
    rw [e167]
    exact ⟨rfl, N167, K167, f168, f173, f174, b121, k, F167, f172⟩
theorem dIS2_0 : decode jdk_2529_method_6_code 0 = .ok (.iload_n 1, 1) := by decide +kernel
theorem dIS2_1 : decode jdk_2529_method_6_code 1 = .ok (.istore 4, 2) := by decide +kernel
theorem dIS2_3 : decode jdk_2529_method_6_code 3 = .ok (.iinc 4 1, 3) := by decide +kernel
theorem dIS2_6 : decode jdk_2529_method_6_code 6 = .ok (.iload 4, 2) := by decide +kernel
theorem dIS2_8 : decode jdk_2529_method_6_code 8 = .ok (.iload_n 2, 1) := by decide +kernel
theorem dIS2_9 : decode jdk_2529_method_6_code 9 = .ok (.if_icmp .ge 58, 3) := by decide +kernel
theorem dIS2_12 : decode jdk_2529_method_6_code 12 = .ok (.aload_n 0, 1) := by decide +kernel
theorem dIS2_13 : decode jdk_2529_method_6_code 13 = .ok (.iload 4, 2) := by decide +kernel
theorem dIS2_15 : decode jdk_2529_method_6_code 15 = .ok (.dup, 1) := by decide +kernel
theorem dIS2_16 : decode jdk_2529_method_6_code 16 = .ok (.istore_n 3, 1) := by decide +kernel
theorem dIS2_17 : decode jdk_2529_method_6_code 17 = .ok (.iaload, 1) := by decide +kernel
theorem dIS2_18 : decode jdk_2529_method_6_code 18 = .ok (.istore 5, 2) := by decide +kernel
theorem dIS2_20 : decode jdk_2529_method_6_code 20 = .ok (.iload 5, 2) := by decide +kernel
theorem dIS2_22 : decode jdk_2529_method_6_code 22 = .ok (.aload_n 0, 1) := by decide +kernel
theorem dIS2_23 : decode jdk_2529_method_6_code 23 = .ok (.iload_n 3, 1) := by decide +kernel
theorem dIS2_24 : decode jdk_2529_method_6_code 24 = .ok (.iconst 1, 1) := by decide +kernel
theorem dIS2_25 : decode jdk_2529_method_6_code 25 = .ok (.isub, 1) := by decide +kernel
theorem dIS2_26 : decode jdk_2529_method_6_code 26 = .ok (.iaload, 1) := by decide +kernel
theorem dIS2_27 : decode jdk_2529_method_6_code 27 = .ok (.if_icmp .ge 37, 3) := by decide +kernel
theorem dIS2_30 : decode jdk_2529_method_6_code 30 = .ok (.iinc 3 (-1), 3) := by decide +kernel
theorem dIS2_33 : decode jdk_2529_method_6_code 33 = .ok (.iload_n 3, 1) := by decide +kernel
theorem dIS2_34 : decode jdk_2529_method_6_code 34 = .ok (.iload_n 1, 1) := by decide +kernel
theorem dIS2_35 : decode jdk_2529_method_6_code 35 = .ok (.if_icmp .lt 22, 3) := by decide +kernel
theorem dIS2_38 : decode jdk_2529_method_6_code 38 = .ok (.iload 5, 2) := by decide +kernel
theorem dIS2_40 : decode jdk_2529_method_6_code 40 = .ok (.aload_n 0, 1) := by decide +kernel
theorem dIS2_41 : decode jdk_2529_method_6_code 41 = .ok (.iload_n 3, 1) := by decide +kernel
theorem dIS2_42 : decode jdk_2529_method_6_code 42 = .ok (.iaload, 1) := by decide +kernel
theorem dIS2_43 : decode jdk_2529_method_6_code 43 = .ok (.if_icmp .ge 14, 3) := by decide +kernel
theorem dIS2_46 : decode jdk_2529_method_6_code 46 = .ok (.aload_n 0, 1) := by decide +kernel
theorem dIS2_47 : decode jdk_2529_method_6_code 47 = .ok (.iload_n 3, 1) := by decide +kernel
theorem dIS2_48 : decode jdk_2529_method_6_code 48 = .ok (.iconst 1, 1) := by decide +kernel
theorem dIS2_49 : decode jdk_2529_method_6_code 49 = .ok (.iadd, 1) := by decide +kernel
theorem dIS2_50 : decode jdk_2529_method_6_code 50 = .ok (.aload_n 0, 1) := by decide +kernel
theorem dIS2_51 : decode jdk_2529_method_6_code 51 = .ok (.iload_n 3, 1) := by decide +kernel
theorem dIS2_52 : decode jdk_2529_method_6_code 52 = .ok (.iaload, 1) := by decide +kernel
theorem dIS2_53 : decode jdk_2529_method_6_code 53 = .ok (.iastore, 1) := by decide +kernel
theorem dIS2_54 : decode jdk_2529_method_6_code 54 = .ok (.goto (-24), 3) := by decide +kernel
theorem dIS2_57 : decode jdk_2529_method_6_code 57 = .ok (.aload_n 0, 1) := by decide +kernel
theorem dIS2_58 : decode jdk_2529_method_6_code 58 = .ok (.iload_n 3, 1) := by decide +kernel
theorem dIS2_59 : decode jdk_2529_method_6_code 59 = .ok (.iconst 1, 1) := by decide +kernel
theorem dIS2_60 : decode jdk_2529_method_6_code 60 = .ok (.iadd, 1) := by decide +kernel
theorem dIS2_61 : decode jdk_2529_method_6_code 61 = .ok (.iload 5, 2) := by decide +kernel
theorem dIS2_63 : decode jdk_2529_method_6_code 63 = .ok (.iastore, 1) := by decide +kernel
theorem dIS2_64 : decode jdk_2529_method_6_code 64 = .ok (.goto (-61), 3) := by decide +kernel
theorem dIS2_67 : decode jdk_2529_method_6_code 67 = .ok (.return_, 1) := by decide +kernel
theorem ef_IS2 (m : MethodId) (x0 : Addr) : entryFrame m #[(.ref x0), (.int (0 : Int32)), (.int (2 : Int32))] 6 = mkF m 0 #[.val (.ref x0), .val (.int (0 : Int32)), .val (.int (2 : Int32)), .unset, .unset, .unset] [] := by first | (simp [entryFrame, mkF, argsToLocals, Value.category]; done) | rfl
set_option maxRecDepth 65536 in
set_option maxHeartbeats 40000000 in
theorem rmIS2 (l : Launch) (Z : State) (a0 : Array Value) (hw : ∀ d ∈ tables_1, d.before a0 Z = true) (ws : List Jvm.Cond) (a1 : Addr) (k : ClassId) (x0 x1 : Int32) (h0 : Heap) (n0 : Nat) (Z0 : n0 ≤ h0.size) (V1 : Arv Z h0 a1 k .int (2 : Int32) [(.int x1), (.int x0)] (.int (0 : Int32))) (ga : n0 ≤ a1) (h01 : x0 < x1) :
    MetFree l (⟨"java/util/DualPivotQuicksort", "insertionSort", "([III)V"⟩ : MethodName) (head1 (Jvm.Cond.code (⟨"java/util/DualPivotQuicksort", "insertionSort", "([III)V"⟩ : MethodName) jdk_2529_method_6_code 6 none :: ws) ({ frames := 0, cells := 0, slots := 0, locals := 0 } : Room)) (fun a U => a = #[(.ref a1), (.int (0 : Int32)), (.int (2 : Int32))] ∧ Z.Warmed39 U.vm ∧ U.heap = h0) (fun _ _ _ _ _ => True) (fun _ U o U' => ∃ v L, o = .returned v ∧ QS Z a1 k (2 : Int32) [(.int x0), (.int x1)] h0 n0 v U'.heap L ∧ FrameEnd U o U' L ({ frames := 0, cells := 0, slots := 0, locals := 0 } : Room).cells ({ frames := 0, cells := 0, slots := 0, locals := 0 } : Room).slots) := by
  refine MetFree.of_bodySF (plainFor_of_name (by first | (simp [plainName, overriddenIn]; done) | decide +kernel)) hisR ?_
  intro p e s m args below meth c s₁ Bd hml0 hP hK
  obtain ⟨rfl, hZ, hh⟩ := hP
  have hx := Bd.exec
  have hby := Bd.bytes
  have hml : c.maxLocals = 6 := hml0
  have hown : s.vm.findClass "java/util/DualPivotQuicksort" = some m.cls := findClass_of_methodNamed Bd.named
  have hnm := (name_of_methodNamed Bd.named Bd.method).1
  have hlk : meth.locks = false := BodyLoose.notSynchronized Bd
  have X0 : Stand p l e ({ frames := 0, cells := 0, slots := 0, locals := 0 } : Room) s m #[(.ref a1), (.int (0 : Int32)), (.int (2 : Int32))] below meth c s₁ [] 0 0 := Stand.of_body Bd
  have e0 : s₁.heap = h0 := by rw [← hh, Bd.state]; rfl
  have P0 : ∀ t, Steps p.tables e below (s₁.setTop (mkF m 0 #[.val (.ref a1), .val (.int (0 : Int32)), .val (.int (2 : Int32)), .unset, .unset, .unset] [])) t → Steps p.tables e below (s₁.setTop (entryFrame m #[(.ref a1), (.int (0 : Int32)), (.int (2 : Int32))] 6)) t := fun t kt => castTop (ef_IS2 m a1) kt
  have N0 := Fr.nil n0
  have K0 := Keep.refl h0 [a1]
  obtain ⟨cl101, Ar101, q101, S101, Nn101, H101, G101⟩ := id V1
  obtain ⟨cl102, Ar102, q102, S102, Nn102, H102, G102⟩ := id V1
  obtain ⟨cl103, Ar103, q103, S103, Nn103, H103, G103⟩ := id V1
  obtain ⟨cl104, Ar104, q104, S104, Nn104, H104, G104⟩ := id V1
  obtain ⟨cl105, Ar105, q105, S105, Nn105, H105, G105⟩ := id V1
  have hin105 : ¬ ((1 : Int32) < 0 ∨ cl105.slots.size ≤ ((1 : Int32)).toNatClampNeg) := inb_of S105 ⟨by decide, by decide⟩
  obtain ⟨T106, h106, X106, e106, W106, st106⟩ := stI X0 hx hZ e0 Ar105 (j := (1 : Int32)) hin105 (g := (mkF m 53 #[.val (.ref a1), .val (.int (0 : Int32)), .val (.int (2 : Int32)), .val (.int (0 : Int32)), .val (.int (1 : Int32)), .val (.int x0)] [(.int x1), (.int (1 : Int32)), (.ref a1)])) rfl rfl (hb hby dIS2_53)
  have V106 : Arv Z h106 a1 k .int (2 : Int32) [(.int x1), (.int x1)] (.int (0 : Int32)) := Arv.set Ar105 q105 S105 Nn105 H105 G105 rfl W106 1 rfl (Nat.le_of_ble_eq_true rfl)
  have N106 := Fr.snoc X106 N0 ga
  have sz106 : n0 ≤ h106.size := Nat.le_trans Z0 (Keep.of_wr W106).1
  have K106 : Keep h0 h106 [a1] := K0.wr W106 (Or.inl (List.mem_of_getElem? (i := 0) rfl))
  obtain ⟨cl107, Ar107, q107, S107, Nn107, H107, G107⟩ := id V106
  have hin107 : ¬ ((0 : Int32) < 0 ∨ cl107.slots.size ≤ ((0 : Int32)).toNatClampNeg) := inb_of S107 ⟨by decide, by decide⟩
  obtain ⟨T108, h108, X108, e108, W108, st108⟩ := stI X106 hx hZ e106 Ar107 (j := (0 : Int32)) hin107 (g := (mkF m 63 #[.val (.ref a1), .val (.int (0 : Int32)), .val (.int (2 : Int32)), .val (.int (-1 : Int32)), .val (.int (1 : Int32)), .val (.int x0)] [(.int x0), (.int (0 : Int32)), (.ref a1)])) rfl rfl (hb hby dIS2_63)
  have V108 : Arv Z h108 a1 k .int (2 : Int32) [(.int x0), (.int x1)] (.int (0 : Int32)) := Arv.set Ar107 q107 S107 Nn107 H107 G107 rfl W108 0 rfl (Nat.le_of_ble_eq_true rfl)
  have N108 := Fr.snoc X108 N106 ga
  have sz108 : n0 ≤ h108.size := Nat.le_trans sz106 (Keep.of_wr W108).1
  have K108 : Keep h0 h108 [a1] := K106.wr W108 (Or.inl (List.mem_of_getElem? (i := 0) rfl))
  have P109 : ∀ t, Steps p.tables e below (T108.setTop (mkF m 67 #[.val (.ref a1), .val (.int (0 : Int32)), .val (.int (2 : Int32)), .val (.int (-1 : Int32)), .val (.int (2 : Int32)), .val (.int x0)] [])) t → Steps p.tables e below (s₁.setTop (entryFrame m #[(.ref a1), (.int (0 : Int32)), (.int (2 : Int32))] 6)) t := fun t kt => P0 t (by
    show Steps p.tables e below (s₁.setTop (mkF m 0 #[.val (.ref a1), .val (.int (0 : Int32)), .val (.int (2 : Int32)), .unset, .unset, .unset] [])) _
    refine XS.iloadN X0.here hx rfl (hb hby dIS2_0) rfl ?_
    show Steps p.tables e below (s₁.setTop (mkF m 1 #[.val (.ref a1), .val (.int (0 : Int32)), .val (.int (2 : Int32)), .unset, .unset, .unset] [(.int (0 : Int32))])) _
    refine XS.istore X0.here hx rfl (hb hby dIS2_1) rfl (l' := #[.val (.ref a1), .val (.int (0 : Int32)), .val (.int (2 : Int32)), .unset, .val (.int (0 : Int32)), .unset]) rfl ?_
    show Steps p.tables e below (s₁.setTop (mkF m 3 #[.val (.ref a1), .val (.int (0 : Int32)), .val (.int (2 : Int32)), .unset, .val (.int (0 : Int32)), .unset] [])) _
    refine XS.iinc X0.here hx rfl (hb hby dIS2_3) rfl (l' := #[.val (.ref a1), .val (.int (0 : Int32)), .val (.int (2 : Int32)), .unset, .val (.int (1 : Int32)), .unset]) rfl ?_
    show Steps p.tables e below (s₁.setTop (mkF m 6 #[.val (.ref a1), .val (.int (0 : Int32)), .val (.int (2 : Int32)), .unset, .val (.int (1 : Int32)), .unset] [])) _
    refine XS.iload X0.here hx rfl (hb hby dIS2_6) rfl ?_
    show Steps p.tables e below (s₁.setTop (mkF m 8 #[.val (.ref a1), .val (.int (0 : Int32)), .val (.int (2 : Int32)), .unset, .val (.int (1 : Int32)), .unset] [(.int (1 : Int32))])) _
    refine XS.iloadN X0.here hx rfl (hb hby dIS2_8) rfl ?_
    show Steps p.tables e below (s₁.setTop (mkF m 9 #[.val (.ref a1), .val (.int (0 : Int32)), .val (.int (2 : Int32)), .unset, .val (.int (1 : Int32)), .unset] [(.int (2 : Int32)), (.int (1 : Int32))])) _
    refine XS.icmpNo X0.here hx rfl (hb hby dIS2_9) rfl (tlt ((by decide) : (1 : Int32) < (2 : Int32))).2.1 ?_
    show Steps p.tables e below (s₁.setTop (mkF m 12 #[.val (.ref a1), .val (.int (0 : Int32)), .val (.int (2 : Int32)), .unset, .val (.int (1 : Int32)), .unset] [])) _
    refine XS.aloadN X0.here hx rfl (hb hby dIS2_12) rfl rfl ?_
    show Steps p.tables e below (s₁.setTop (mkF m 13 #[.val (.ref a1), .val (.int (0 : Int32)), .val (.int (2 : Int32)), .unset, .val (.int (1 : Int32)), .unset] [(.ref a1)])) _
    refine XS.iload X0.here hx rfl (hb hby dIS2_13) rfl ?_
    show Steps p.tables e below (s₁.setTop (mkF m 15 #[.val (.ref a1), .val (.int (0 : Int32)), .val (.int (2 : Int32)), .unset, .val (.int (1 : Int32)), .unset] [(.int (1 : Int32)), (.ref a1)])) _
    refine XS.dup X0.here hx rfl (hb hby dIS2_15) rfl rfl ?_
    show Steps p.tables e below (s₁.setTop (mkF m 16 #[.val (.ref a1), .val (.int (0 : Int32)), .val (.int (2 : Int32)), .unset, .val (.int (1 : Int32)), .unset] [(.int (1 : Int32)), (.int (1 : Int32)), (.ref a1)])) _
    refine XS.istoreN X0.here hx rfl (hb hby dIS2_16) rfl (l' := #[.val (.ref a1), .val (.int (0 : Int32)), .val (.int (2 : Int32)), .val (.int (1 : Int32)), .val (.int (1 : Int32)), .unset]) rfl ?_
    show Steps p.tables e below (s₁.setTop (mkF m 17 #[.val (.ref a1), .val (.int (0 : Int32)), .val (.int (2 : Int32)), .val (.int (1 : Int32)), .val (.int (1 : Int32)), .unset] [(.int (1 : Int32)), (.ref a1)])) _
    refine X0.iaload hx (j := (1 : Int32)) (v := (.int x0)) (by rw [e0]; exact Ar101.1) (State.isArrayOf_alike hZ.alike Ar101.2.1) Ar101.2.2 (inb_of S101 ⟨by decide, by decide⟩) (H101 1 (by rw [S101]; decide)) (g := (mkF m 17 #[.val (.ref a1), .val (.int (0 : Int32)), .val (.int (2 : Int32)), .val (.int (1 : Int32)), .val (.int (1 : Int32)), .unset] [(.int (1 : Int32)), (.ref a1)])) rfl rfl (hb hby dIS2_17) _ ?_
    show Steps p.tables e below (s₁.setTop (mkF m 18 #[.val (.ref a1), .val (.int (0 : Int32)), .val (.int (2 : Int32)), .val (.int (1 : Int32)), .val (.int (1 : Int32)), .unset] [(.int x0)])) _
    refine XS.istore X0.here hx rfl (hb hby dIS2_18) rfl (l' := #[.val (.ref a1), .val (.int (0 : Int32)), .val (.int (2 : Int32)), .val (.int (1 : Int32)), .val (.int (1 : Int32)), .val (.int x0)]) rfl ?_
    show Steps p.tables e below (s₁.setTop (mkF m 20 #[.val (.ref a1), .val (.int (0 : Int32)), .val (.int (2 : Int32)), .val (.int (1 : Int32)), .val (.int (1 : Int32)), .val (.int x0)] [])) _
    refine XS.iload X0.here hx rfl (hb hby dIS2_20) rfl ?_
    show Steps p.tables e below (s₁.setTop (mkF m 22 #[.val (.ref a1), .val (.int (0 : Int32)), .val (.int (2 : Int32)), .val (.int (1 : Int32)), .val (.int (1 : Int32)), .val (.int x0)] [(.int x0)])) _
    refine XS.aloadN X0.here hx rfl (hb hby dIS2_22) rfl rfl ?_
    show Steps p.tables e below (s₁.setTop (mkF m 23 #[.val (.ref a1), .val (.int (0 : Int32)), .val (.int (2 : Int32)), .val (.int (1 : Int32)), .val (.int (1 : Int32)), .val (.int x0)] [(.ref a1), (.int x0)])) _
    refine XS.iloadN X0.here hx rfl (hb hby dIS2_23) rfl ?_
    show Steps p.tables e below (s₁.setTop (mkF m 24 #[.val (.ref a1), .val (.int (0 : Int32)), .val (.int (2 : Int32)), .val (.int (1 : Int32)), .val (.int (1 : Int32)), .val (.int x0)] [(.int (1 : Int32)), (.ref a1), (.int x0)])) _
    refine XS.iconst X0.here hx rfl (hb hby dIS2_24) ?_
    show Steps p.tables e below (s₁.setTop (mkF m 25 #[.val (.ref a1), .val (.int (0 : Int32)), .val (.int (2 : Int32)), .val (.int (1 : Int32)), .val (.int (1 : Int32)), .val (.int x0)] [(.int (1 : Int32)), (.int (1 : Int32)), (.ref a1), (.int x0)])) _
    refine XS.isub X0.here hx rfl (hb hby dIS2_25) rfl ?_
    show Steps p.tables e below (s₁.setTop (mkF m 26 #[.val (.ref a1), .val (.int (0 : Int32)), .val (.int (2 : Int32)), .val (.int (1 : Int32)), .val (.int (1 : Int32)), .val (.int x0)] [(.int (0 : Int32)), (.ref a1), (.int x0)])) _
    refine X0.iaload hx (j := (0 : Int32)) (v := (.int x1)) (by rw [e0]; exact Ar102.1) (State.isArrayOf_alike hZ.alike Ar102.2.1) Ar102.2.2 (inb_of S102 ⟨by decide, by decide⟩) (H102 0 (by rw [S102]; decide)) (g := (mkF m 26 #[.val (.ref a1), .val (.int (0 : Int32)), .val (.int (2 : Int32)), .val (.int (1 : Int32)), .val (.int (1 : Int32)), .val (.int x0)] [(.int (0 : Int32)), (.ref a1), (.int x0)])) rfl rfl (hb hby dIS2_26) _ ?_
    show Steps p.tables e below (s₁.setTop (mkF m 27 #[.val (.ref a1), .val (.int (0 : Int32)), .val (.int (2 : Int32)), .val (.int (1 : Int32)), .val (.int (1 : Int32)), .val (.int x0)] [(.int x1), (.int x0)])) _
    refine XS.icmpNo X0.here hx rfl (hb hby dIS2_27) rfl (tlt (h01 : x0 < x1)).2.1 ?_
    show Steps p.tables e below (s₁.setTop (mkF m 30 #[.val (.ref a1), .val (.int (0 : Int32)), .val (.int (2 : Int32)), .val (.int (1 : Int32)), .val (.int (1 : Int32)), .val (.int x0)] [])) _
    refine XS.iinc X0.here hx rfl (hb hby dIS2_30) rfl (l' := #[.val (.ref a1), .val (.int (0 : Int32)), .val (.int (2 : Int32)), .val (.int (0 : Int32)), .val (.int (1 : Int32)), .val (.int x0)]) rfl ?_
    show Steps p.tables e below (s₁.setTop (mkF m 33 #[.val (.ref a1), .val (.int (0 : Int32)), .val (.int (2 : Int32)), .val (.int (0 : Int32)), .val (.int (1 : Int32)), .val (.int x0)] [])) _
    refine XS.iloadN X0.here hx rfl (hb hby dIS2_33) rfl ?_
    show Steps p.tables e below (s₁.setTop (mkF m 34 #[.val (.ref a1), .val (.int (0 : Int32)), .val (.int (2 : Int32)), .val (.int (0 : Int32)), .val (.int (1 : Int32)), .val (.int x0)] [(.int (0 : Int32))])) _
    refine XS.iloadN X0.here hx rfl (hb hby dIS2_34) rfl ?_
    show Steps p.tables e below (s₁.setTop (mkF m 35 #[.val (.ref a1), .val (.int (0 : Int32)), .val (.int (2 : Int32)), .val (.int (0 : Int32)), .val (.int (1 : Int32)), .val (.int x0)] [(.int (0 : Int32)), (.int (0 : Int32))])) _
    refine XS.icmpNo X0.here hx rfl (hb hby dIS2_35) rfl (flt ((by decide) : ¬ ((0 : Int32) < (0 : Int32)))).1 ?_
    show Steps p.tables e below (s₁.setTop (mkF m 38 #[.val (.ref a1), .val (.int (0 : Int32)), .val (.int (2 : Int32)), .val (.int (0 : Int32)), .val (.int (1 : Int32)), .val (.int x0)] [])) _
    refine XS.iload X0.here hx rfl (hb hby dIS2_38) rfl ?_
    show Steps p.tables e below (s₁.setTop (mkF m 40 #[.val (.ref a1), .val (.int (0 : Int32)), .val (.int (2 : Int32)), .val (.int (0 : Int32)), .val (.int (1 : Int32)), .val (.int x0)] [(.int x0)])) _
    refine XS.aloadN X0.here hx rfl (hb hby dIS2_40) rfl rfl ?_
    show Steps p.tables e below (s₁.setTop (mkF m 41 #[.val (.ref a1), .val (.int (0 : Int32)), .val (.int (2 : Int32)), .val (.int (0 : Int32)), .val (.int (1 : Int32)), .val (.int x0)] [(.ref a1), (.int x0)])) _
    refine XS.iloadN X0.here hx rfl (hb hby dIS2_41) rfl ?_
    show Steps p.tables e below (s₁.setTop (mkF m 42 #[.val (.ref a1), .val (.int (0 : Int32)), .val (.int (2 : Int32)), .val (.int (0 : Int32)), .val (.int (1 : Int32)), .val (.int x0)] [(.int (0 : Int32)), (.ref a1), (.int x0)])) _
    refine X0.iaload hx (j := (0 : Int32)) (v := (.int x1)) (by rw [e0]; exact Ar103.1) (State.isArrayOf_alike hZ.alike Ar103.2.1) Ar103.2.2 (inb_of S103 ⟨by decide, by decide⟩) (H103 0 (by rw [S103]; decide)) (g := (mkF m 42 #[.val (.ref a1), .val (.int (0 : Int32)), .val (.int (2 : Int32)), .val (.int (0 : Int32)), .val (.int (1 : Int32)), .val (.int x0)] [(.int (0 : Int32)), (.ref a1), (.int x0)])) rfl rfl (hb hby dIS2_42) _ ?_
    show Steps p.tables e below (s₁.setTop (mkF m 43 #[.val (.ref a1), .val (.int (0 : Int32)), .val (.int (2 : Int32)), .val (.int (0 : Int32)), .val (.int (1 : Int32)), .val (.int x0)] [(.int x1), (.int x0)])) _
    refine XS.icmpNo X0.here hx rfl (hb hby dIS2_43) rfl (tlt (h01 : x0 < x1)).2.1 ?_
    show Steps p.tables e below (s₁.setTop (mkF m 46 #[.val (.ref a1), .val (.int (0 : Int32)), .val (.int (2 : Int32)), .val (.int (0 : Int32)), .val (.int (1 : Int32)), .val (.int x0)] [])) _
    refine XS.aloadN X0.here hx rfl (hb hby dIS2_46) rfl rfl ?_
    show Steps p.tables e below (s₁.setTop (mkF m 47 #[.val (.ref a1), .val (.int (0 : Int32)), .val (.int (2 : Int32)), .val (.int (0 : Int32)), .val (.int (1 : Int32)), .val (.int x0)] [(.ref a1)])) _
    refine XS.iloadN X0.here hx rfl (hb hby dIS2_47) rfl ?_
    show Steps p.tables e below (s₁.setTop (mkF m 48 #[.val (.ref a1), .val (.int (0 : Int32)), .val (.int (2 : Int32)), .val (.int (0 : Int32)), .val (.int (1 : Int32)), .val (.int x0)] [(.int (0 : Int32)), (.ref a1)])) _
    refine XS.iconst X0.here hx rfl (hb hby dIS2_48) ?_
    show Steps p.tables e below (s₁.setTop (mkF m 49 #[.val (.ref a1), .val (.int (0 : Int32)), .val (.int (2 : Int32)), .val (.int (0 : Int32)), .val (.int (1 : Int32)), .val (.int x0)] [(.int (1 : Int32)), (.int (0 : Int32)), (.ref a1)])) _
    refine XS.iadd X0.here hx rfl (hb hby dIS2_49) rfl ?_
    show Steps p.tables e below (s₁.setTop (mkF m 50 #[.val (.ref a1), .val (.int (0 : Int32)), .val (.int (2 : Int32)), .val (.int (0 : Int32)), .val (.int (1 : Int32)), .val (.int x0)] [(.int (1 : Int32)), (.ref a1)])) _
    refine XS.aloadN X0.here hx rfl (hb hby dIS2_50) rfl rfl ?_
    show Steps p.tables e below (s₁.setTop (mkF m 51 #[.val (.ref a1), .val (.int (0 : Int32)), .val (.int (2 : Int32)), .val (.int (0 : Int32)), .val (.int (1 : Int32)), .val (.int x0)] [(.ref a1), (.int (1 : Int32)), (.ref a1)])) _
    refine XS.iloadN X0.here hx rfl (hb hby dIS2_51) rfl ?_
    show Steps p.tables e below (s₁.setTop (mkF m 52 #[.val (.ref a1), .val (.int (0 : Int32)), .val (.int (2 : Int32)), .val (.int (0 : Int32)), .val (.int (1 : Int32)), .val (.int x0)] [(.int (0 : Int32)), (.ref a1), (.int (1 : Int32)), (.ref a1)])) _
    refine X0.iaload hx (j := (0 : Int32)) (v := (.int x1)) (by rw [e0]; exact Ar104.1) (State.isArrayOf_alike hZ.alike Ar104.2.1) Ar104.2.2 (inb_of S104 ⟨by decide, by decide⟩) (H104 0 (by rw [S104]; decide)) (g := (mkF m 52 #[.val (.ref a1), .val (.int (0 : Int32)), .val (.int (2 : Int32)), .val (.int (0 : Int32)), .val (.int (1 : Int32)), .val (.int x0)] [(.int (0 : Int32)), (.ref a1), (.int (1 : Int32)), (.ref a1)])) rfl rfl (hb hby dIS2_52) _ ?_
    show Steps p.tables e below (s₁.setTop (mkF m 53 #[.val (.ref a1), .val (.int (0 : Int32)), .val (.int (2 : Int32)), .val (.int (0 : Int32)), .val (.int (1 : Int32)), .val (.int x0)] [(.int x1), (.int (1 : Int32)), (.ref a1)])) _
    refine st106 _ ?_
    show Steps p.tables e below (T106.setTop (mkF m 54 #[.val (.ref a1), .val (.int (0 : Int32)), .val (.int (2 : Int32)), .val (.int (0 : Int32)), .val (.int (1 : Int32)), .val (.int x0)] [])) _
    refine XS.goto X106.here hx rfl (pc0 := 54) (pc' := 30) rfl (hb hby dIS2_54) (by decide) (by decide) ?_
    show Steps p.tables e below (T106.setTop (mkF m 30 #[.val (.ref a1), .val (.int (0 : Int32)), .val (.int (2 : Int32)), .val (.int (0 : Int32)), .val (.int (1 : Int32)), .val (.int x0)] [])) _
    refine XS.iinc X106.here hx rfl (hb hby dIS2_30) rfl (l' := #[.val (.ref a1), .val (.int (0 : Int32)), .val (.int (2 : Int32)), .val (.int (-1 : Int32)), .val (.int (1 : Int32)), .val (.int x0)]) rfl ?_
    show Steps p.tables e below (T106.setTop (mkF m 33 #[.val (.ref a1), .val (.int (0 : Int32)), .val (.int (2 : Int32)), .val (.int (-1 : Int32)), .val (.int (1 : Int32)), .val (.int x0)] [])) _
    refine XS.iloadN X106.here hx rfl (hb hby dIS2_33) rfl ?_
    show Steps p.tables e below (T106.setTop (mkF m 34 #[.val (.ref a1), .val (.int (0 : Int32)), .val (.int (2 : Int32)), .val (.int (-1 : Int32)), .val (.int (1 : Int32)), .val (.int x0)] [(.int (-1 : Int32))])) _
    refine XS.iloadN X106.here hx rfl (hb hby dIS2_34) rfl ?_
    show Steps p.tables e below (T106.setTop (mkF m 35 #[.val (.ref a1), .val (.int (0 : Int32)), .val (.int (2 : Int32)), .val (.int (-1 : Int32)), .val (.int (1 : Int32)), .val (.int x0)] [(.int (0 : Int32)), (.int (-1 : Int32))])) _
    refine XS.icmpYes X106.here hx rfl (pc0 := 35) (pc' := 57) rfl (hb hby dIS2_35) rfl (tlt ((by decide) : (-1 : Int32) < (0 : Int32))).1 (by decide) (by decide) ?_
    show Steps p.tables e below (T106.setTop (mkF m 57 #[.val (.ref a1), .val (.int (0 : Int32)), .val (.int (2 : Int32)), .val (.int (-1 : Int32)), .val (.int (1 : Int32)), .val (.int x0)] [])) _
    refine XS.aloadN X106.here hx rfl (hb hby dIS2_57) rfl rfl ?_
    show Steps p.tables e below (T106.setTop (mkF m 58 #[.val (.ref a1), .val (.int (0 : Int32)), .val (.int (2 : Int32)), .val (.int (-1 : Int32)), .val (.int (1 : Int32)), .val (.int x0)] [(.ref a1)])) _
    refine XS.iloadN X106.here hx rfl (hb hby dIS2_58) rfl ?_
    show Steps p.tables e below (T106.setTop (mkF m 59 #[.val (.ref a1), .val (.int (0 : Int32)), .val (.int (2 : Int32)), .val (.int (-1 : Int32)), .val (.int (1 : Int32)), .val (.int x0)] [(.int (-1 : Int32)), (.ref a1)])) _
    refine XS.iconst X106.here hx rfl (hb hby dIS2_59) ?_
    show Steps p.tables e below (T106.setTop (mkF m 60 #[.val (.ref a1), .val (.int (0 : Int32)), .val (.int (2 : Int32)), .val (.int (-1 : Int32)), .val (.int (1 : Int32)), .val (.int x0)] [(.int (1 : Int32)), (.int (-1 : Int32)), (.ref a1)])) _
    refine XS.iadd X106.here hx rfl (hb hby dIS2_60) rfl ?_
    show Steps p.tables e below (T106.setTop (mkF m 61 #[.val (.ref a1), .val (.int (0 : Int32)), .val (.int (2 : Int32)), .val (.int (-1 : Int32)), .val (.int (1 : Int32)), .val (.int x0)] [(.int (0 : Int32)), (.ref a1)])) _
    refine XS.iload X106.here hx rfl (hb hby dIS2_61) rfl ?_
    show Steps p.tables e below (T106.setTop (mkF m 63 #[.val (.ref a1), .val (.int (0 : Int32)), .val (.int (2 : Int32)), .val (.int (-1 : Int32)), .val (.int (1 : Int32)), .val (.int x0)] [(.int x0), (.int (0 : Int32)), (.ref a1)])) _
    refine st108 _ ?_
    show Steps p.tables e below (T108.setTop (mkF m 64 #[.val (.ref a1), .val (.int (0 : Int32)), .val (.int (2 : Int32)), .val (.int (-1 : Int32)), .val (.int (1 : Int32)), .val (.int x0)] [])) _
    refine XS.goto X108.here hx rfl (pc0 := 64) (pc' := 3) rfl (hb hby dIS2_64) (by decide) (by decide) ?_
    show Steps p.tables e below (T108.setTop (mkF m 3 #[.val (.ref a1), .val (.int (0 : Int32)), .val (.int (2 : Int32)), .val (.int (-1 : Int32)), .val (.int (1 : Int32)), .val (.int x0)] [])) _
    refine XS.iinc X108.here hx rfl (hb hby dIS2_3) rfl (l' := #[.val (.ref a1), .val (.int (0 : Int32)), .val (.int (2 : Int32)), .val (.int (-1 : Int32)), .val (.int (2 : Int32)), .val (.int x0)]) rfl ?_
    show Steps p.tables e below (T108.setTop (mkF m 6 #[.val (.ref a1), .val (.int (0 : Int32)), .val (.int (2 : Int32)), .val (.int (-1 : Int32)), .val (.int (2 : Int32)), .val (.int x0)] [])) _
    refine XS.iload X108.here hx rfl (hb hby dIS2_6) rfl ?_
    show Steps p.tables e below (T108.setTop (mkF m 8 #[.val (.ref a1), .val (.int (0 : Int32)), .val (.int (2 : Int32)), .val (.int (-1 : Int32)), .val (.int (2 : Int32)), .val (.int x0)] [(.int (2 : Int32))])) _
    refine XS.iloadN X108.here hx rfl (hb hby dIS2_8) rfl ?_
    show Steps p.tables e below (T108.setTop (mkF m 9 #[.val (.ref a1), .val (.int (0 : Int32)), .val (.int (2 : Int32)), .val (.int (-1 : Int32)), .val (.int (2 : Int32)), .val (.int x0)] [(.int (2 : Int32)), (.int (2 : Int32))])) _
    refine XS.icmpYes X108.here hx rfl (pc0 := 9) (pc' := 67) rfl (hb hby dIS2_9) rfl (flt ((by decide) : ¬ ((2 : Int32) < (2 : Int32)))).2.1 (by decide) (by decide) ?_
    exact kt)
  obtain ⟨fs, hr, hrun, hended, hW, hsame⟩ := X108.leave (v := none) (fun _ => rfl) (hlocks := hlk)
  refine ⟨_, _, P109 _ ?_, hrun, hended, _, _, rfl, ?_, ⟨_, rfl⟩, hW, hsame.mono (by decide) (by decide)⟩
  · show Steps p.tables e below (T108.setTop (mkF m 67 #[.val (.ref a1), .val (.int (0 : Int32)), .val (.int (2 : Int32)), .val (.int (-1 : Int32)), .val (.int (2 : Int32)), .val (.int x0)] [])) _
    exact X108.returnOut hx Bd.returns (hb hby dIS2_67) hr
  · show QS Z a1 k (2 : Int32) [(.int x0), (.int x1)] h0 n0 _ T108.heap _
    rw [e108]
    exact ⟨rfl, N108, K108, V108⟩
theorem dS52_0 : decode jdk_2529_method_4_code 0 = .ok (.iload 4, 2) := by decide +kernel
theorem dS52_2 : decode jdk_2529_method_4_code 2 = .ok (.iconst 1, 1) := by decide +kernel
theorem dS52_3 : decode jdk_2529_method_4_code 3 = .ok (.isub, 1) := by decide +kernel
theorem dS52_4 : decode jdk_2529_method_4_code 4 = .ok (.istore 5, 2) := by decide +kernel
theorem dS52_6 : decode jdk_2529_method_4_code 6 = .ok (.iload 4, 2) := by decide +kernel
theorem dS52_8 : decode jdk_2529_method_4_code 8 = .ok (.iload_n 3, 1) := by decide +kernel
theorem dS52_9 : decode jdk_2529_method_4_code 9 = .ok (.isub, 1) := by decide +kernel
theorem dS52_10 : decode jdk_2529_method_4_code 10 = .ok (.istore 6, 2) := by decide +kernel
theorem dS52_12 : decode jdk_2529_method_4_code 12 = .ok (.iload 6, 2) := by decide +kernel
theorem dS52_14 : decode jdk_2529_method_4_code 14 = .ok (.bipush 65, 2) := by decide +kernel
theorem dS52_16 : decode jdk_2529_method_4_code 16 = .ok (.iload_n 2, 1) := by decide +kernel
theorem dS52_17 : decode jdk_2529_method_4_code 17 = .ok (.iadd, 1) := by decide +kernel
theorem dS52_18 : decode jdk_2529_method_4_code 18 = .ok (.if_icmp .ge 28, 3) := by decide +kernel
theorem dS52_21 : decode jdk_2529_method_4_code 21 = .ok (.iload_n 2, 1) := by decide +kernel
theorem dS52_22 : decode jdk_2529_method_4_code 22 = .ok (.iconst 1, 1) := by decide +kernel
theorem dS52_23 : decode jdk_2529_method_4_code 23 = .ok (.iand, 1) := by decide +kernel
theorem dS52_24 : decode jdk_2529_method_4_code 24 = .ok (.ifCond .le 22, 3) := by decide +kernel
theorem dS52_46 : decode jdk_2529_method_4_code 46 = .ok (.iload 6, 2) := by decide +kernel
theorem dS52_48 : decode jdk_2529_method_4_code 48 = .ok (.bipush 44, 2) := by decide +kernel
theorem dS52_50 : decode jdk_2529_method_4_code 50 = .ok (.if_icmp .ge 11, 3) := by decide +kernel
theorem dS52_53 : decode jdk_2529_method_4_code 53 = .ok (.aload_n 1, 1) := by decide +kernel
theorem dS52_54 : decode jdk_2529_method_4_code 54 = .ok (.iload_n 3, 1) := by decide +kernel
theorem dS52_55 : decode jdk_2529_method_4_code 55 = .ok (.iload 4, 2) := by decide +kernel
theorem dS52_57 : decode jdk_2529_method_4_code 57 = .ok (.invokestatic 34, 3) := by decide +kernel
theorem dS52_60 : decode jdk_2529_method_4_code 60 = .ok (.return_, 1) := by decide +kernel
theorem ef_S52 (m : MethodId) (x1 : Addr) : entryFrame m #[.null, (.ref x1), (.int (0 : Int32)), (.int (0 : Int32)), (.int (2 : Int32))] 21 = mkF m 0 #[.val .null, .val (.ref x1), .val (.int (0 : Int32)), .val (.int (0 : Int32)), .val (.int (2 : Int32)), .unset, .unset, .unset, .unset, .unset, .unset, .unset, .unset, .unset, .unset, .unset, .unset, .unset, .unset, .unset, .unset] [] := by first | (simp [entryFrame, mkF, argsToLocals, Value.category]; done) | rfl
set_option maxRecDepth 65536 in
set_option maxHeartbeats 40000000 in
theorem rmS52 (l : Launch) (Z : State) (a0 : Array Value) (hw : ∀ d ∈ tables_1, d.before a0 Z = true) (ws : List Jvm.Cond) (a1 : Addr) (k : ClassId) (x0 x1 : Int32) (h0 : Heap) (n0 : Nat) (Z0 : n0 ≤ h0.size) (V1 : Arv Z h0 a1 k .int (2 : Int32) [(.int x1), (.int x0)] (.int (0 : Int32))) (ga : n0 ≤ a1) (h01 : x0 < x1) :
    MetFree l (⟨"java/util/DualPivotQuicksort", "sort", "(Ljava/util/DualPivotQuicksort$Sorter;[IIII)V"⟩ : MethodName) (head1 (Jvm.Cond.code (⟨"java/util/DualPivotQuicksort", "sort", "(Ljava/util/DualPivotQuicksort$Sorter;[IIII)V"⟩ : MethodName) jdk_2529_method_4_code 21 none :: ws) ({ frames := 1, cells := 0, slots := 0, locals := 17 } : Room)) (fun a U => a = #[.null, (.ref a1), (.int (0 : Int32)), (.int (0 : Int32)), (.int (2 : Int32))] ∧ Z.Warmed39 U.vm ∧ U.heap = h0) (fun _ _ _ _ _ => True) (fun _ U o U' => ∃ v L, o = .returned v ∧ QS Z a1 k (2 : Int32) [(.int x0), (.int x1)] h0 n0 v U'.heap L ∧ FrameEnd U o U' L ({ frames := 1, cells := 0, slots := 0, locals := 17 } : Room).cells ({ frames := 1, cells := 0, slots := 0, locals := 17 } : Room).slots) := by
  refine MetFree.of_bodySF (plainFor_of_name (by first | (simp [plainName, overriddenIn]; done) | decide +kernel)) hisR ?_
  intro p e s m args below meth c s₁ Bd hml0 hP hK
  obtain ⟨rfl, hZ, hh⟩ := hP
  have hx := Bd.exec
  have hby := Bd.bytes
  have hml : c.maxLocals = 21 := hml0
  have hown : s.vm.findClass "java/util/DualPivotQuicksort" = some m.cls := findClass_of_methodNamed Bd.named
  have hnm := (name_of_methodNamed Bd.named Bd.method).1
  have hlk : meth.locks = false := BodyLoose.notSynchronized Bd
  have X0 : Stand p l e ({ frames := 1, cells := 0, slots := 0, locals := 17 } : Room) s m #[.null, (.ref a1), (.int (0 : Int32)), (.int (0 : Int32)), (.int (2 : Int32))] below meth c s₁ [] 0 0 := Stand.of_body Bd
  have e0 : s₁.heap = h0 := by rw [← hh, Bd.state]; rfl
  have P0 : ∀ t, Steps p.tables e below (s₁.setTop (mkF m 0 #[.val .null, .val (.ref a1), .val (.int (0 : Int32)), .val (.int (0 : Int32)), .val (.int (2 : Int32)), .unset, .unset, .unset, .unset, .unset, .unset, .unset, .unset, .unset, .unset, .unset, .unset, .unset, .unset, .unset, .unset] [])) t → Steps p.tables e below (s₁.setTop (entryFrame m #[.null, (.ref a1), (.int (0 : Int32)), (.int (0 : Int32)), (.int (2 : Int32))] 21)) t := fun t kt => castTop (ef_S52 m a1) kt
  have N0 := Fr.nil n0
  have K0 := Keep.refl h0 [a1]
  obtain ⟨_, _, ⟨T101, L101, k101, n101⟩, -, X101, ⟨Lc101, hQ101, l101, y101, z101⟩, st101⟩ := Jvm.LawKit.callS X0 hx (y := (⟨"java/util/DualPivotQuicksort", "insertionSort", "([III)V"⟩ : MethodName)) hown (mvT hZ (hw _ (List.mem_of_getElem? (i := 53) rfl))) (mvT hZ (hw _ (List.mem_of_getElem? (i := 54) rfl))) (mvT hZ (hw _ (List.mem_of_getElem? (i := 48) rfl))) (mvT hZ (hw _ (List.mem_of_getElem? (i := 55) rfl))) (by decide) (backOf (W := 0)  (rmIS2 l Z a0 hw [] a1 k x0 x1 h0 n0 Z0 V1 ga h01) hZ (hw _ (List.mem_of_getElem? (i := 55) rfl)) (hw _ (List.mem_of_getElem? (i := 48) rfl)) (by decide) (by decide)) (g := (mkF m 57 #[.val .null, .val (.ref a1), .val (.int (0 : Int32)), .val (.int (0 : Int32)), .val (.int (2 : Int32)), .val (.int (1 : Int32)), .val (.int (2 : Int32)), .unset, .unset, .unset, .unset, .unset, .unset, .unset, .unset, .unset, .unset, .unset, .unset, .unset, .unset] [(.int (2 : Int32)), (.int (0 : Int32)), (.ref a1)])) rfl (by rw [hml]; rfl) (argsL := [(.ref a1), (.int (0 : Int32)), (.int (2 : Int32))]) (rest := []) (lenOf pd___III_V rfl) rfl (by show 2 * 0 + _ ≤ _; exact Nat.le_of_eq rfl) (hb hby dS52_57) (fun _ _ => ⟨rfl, e0, (by decide : 0 + 0 ≤ _), (by decide : 0 + 0 ≤ _)⟩)
  dsimp only [Pt.U, Pt.locs, Pt.cells, Pt.slots] at X101 l101 y101 z101 st101 hQ101
  subst l101 y101 z101
  obtain ⟨rfl, Nq101, K101x, V101x⟩ := hQ101
  have N101 := Fr.app N0 Nq101
  have sz101 : n0 ≤ T101.heap.size := Nat.le_trans Z0 K101x.1
  have K101 : Keep h0 T101.heap [a1] := K0.trans K101x (fun x hx => by cases List.mem_singleton.mp hx; exact Or.inl (List.mem_of_getElem? (i := 0) rfl))
  have P102 : ∀ t, Steps p.tables e below (T101.setTop (mkF m 60 #[.val .null, .val (.ref a1), .val (.int (0 : Int32)), .val (.int (0 : Int32)), .val (.int (2 : Int32)), .val (.int (1 : Int32)), .val (.int (2 : Int32)), .unset, .unset, .unset, .unset, .unset, .unset, .unset, .unset, .unset, .unset, .unset, .unset, .unset, .unset] [])) t → Steps p.tables e below (s₁.setTop (entryFrame m #[.null, (.ref a1), (.int (0 : Int32)), (.int (0 : Int32)), (.int (2 : Int32))] 21)) t := fun t kt => P0 t (by
    show Steps p.tables e below (s₁.setTop (mkF m 0 #[.val .null, .val (.ref a1), .val (.int (0 : Int32)), .val (.int (0 : Int32)), .val (.int (2 : Int32)), .unset, .unset, .unset, .unset, .unset, .unset, .unset, .unset, .unset, .unset, .unset, .unset, .unset, .unset, .unset, .unset] [])) _
    refine XS.iload X0.here hx rfl (hb hby dS52_0) rfl ?_
    show Steps p.tables e below (s₁.setTop (mkF m 2 #[.val .null, .val (.ref a1), .val (.int (0 : Int32)), .val (.int (0 : Int32)), .val (.int (2 : Int32)), .unset, .unset, .unset, .unset, .unset, .unset, .unset, .unset, .unset, .unset, .unset, .unset, .unset, .unset, .unset, .unset] [(.int (2 : Int32))])) _
    refine XS.iconst X0.here hx rfl (hb hby dS52_2) ?_
    show Steps p.tables e below (s₁.setTop (mkF m 3 #[.val .null, .val (.ref a1), .val (.int (0 : Int32)), .val (.int (0 : Int32)), .val (.int (2 : Int32)), .unset, .unset, .unset, .unset, .unset, .unset, .unset, .unset, .unset, .unset, .unset, .unset, .unset, .unset, .unset, .unset] [(.int (1 : Int32)), (.int (2 : Int32))])) _
    refine XS.isub X0.here hx rfl (hb hby dS52_3) rfl ?_
    show Steps p.tables e below (s₁.setTop (mkF m 4 #[.val .null, .val (.ref a1), .val (.int (0 : Int32)), .val (.int (0 : Int32)), .val (.int (2 : Int32)), .unset, .unset, .unset, .unset, .unset, .unset, .unset, .unset, .unset, .unset, .unset, .unset, .unset, .unset, .unset, .unset] [(.int (1 : Int32))])) _
    refine XS.istore X0.here hx rfl (hb hby dS52_4) rfl (l' := #[.val .null, .val (.ref a1), .val (.int (0 : Int32)), .val (.int (0 : Int32)), .val (.int (2 : Int32)), .val (.int (1 : Int32)), .unset, .unset, .unset, .unset, .unset, .unset, .unset, .unset, .unset, .unset, .unset, .unset, .unset, .unset, .unset]) rfl ?_
    show Steps p.tables e below (s₁.setTop (mkF m 6 #[.val .null, .val (.ref a1), .val (.int (0 : Int32)), .val (.int (0 : Int32)), .val (.int (2 : Int32)), .val (.int (1 : Int32)), .unset, .unset, .unset, .unset, .unset, .unset, .unset, .unset, .unset, .unset, .unset, .unset, .unset, .unset, .unset] [])) _
    refine XS.iload X0.here hx rfl (hb hby dS52_6) rfl ?_
    show Steps p.tables e below (s₁.setTop (mkF m 8 #[.val .null, .val (.ref a1), .val (.int (0 : Int32)), .val (.int (0 : Int32)), .val (.int (2 : Int32)), .val (.int (1 : Int32)), .unset, .unset, .unset, .unset, .unset, .unset, .unset, .unset, .unset, .unset, .unset, .unset, .unset, .unset, .unset] [(.int (2 : Int32))])) _
    refine XS.iloadN X0.here hx rfl (hb hby dS52_8) rfl ?_
    show Steps p.tables e below (s₁.setTop (mkF m 9 #[.val .null, .val (.ref a1), .val (.int (0 : Int32)), .val (.int (0 : Int32)), .val (.int (2 : Int32)), .val (.int (1 : Int32)), .unset, .unset, .unset, .unset, .unset, .unset, .unset, .unset, .unset, .unset, .unset, .unset, .unset, .unset, .unset] [(.int (0 : Int32)), (.int (2 : Int32))])) _
    refine XS.isub X0.here hx rfl (hb hby dS52_9) rfl ?_
    show Steps p.tables e below (s₁.setTop (mkF m 10 #[.val .null, .val (.ref a1), .val (.int (0 : Int32)), .val (.int (0 : Int32)), .val (.int (2 : Int32)), .val (.int (1 : Int32)), .unset, .unset, .unset, .unset, .unset, .unset, .unset, .unset, .unset, .unset, .unset, .unset, .unset, .unset, .unset] [(.int (2 : Int32))])) _
    refine XS.istore X0.here hx rfl (hb hby dS52_10) rfl (l' := #[.val .null, .val (.ref a1), .val (.int (0 : Int32)), .val (.int (0 : Int32)), .val (.int (2 : Int32)), .val (.int (1 : Int32)), .val (.int (2 : Int32)), .unset, .unset, .unset, .unset, .unset, .unset, .unset, .unset, .unset, .unset, .unset, .unset, .unset, .unset]) rfl ?_
    show Steps p.tables e below (s₁.setTop (mkF m 12 #[.val .null, .val (.ref a1), .val (.int (0 : Int32)), .val (.int (0 : Int32)), .val (.int (2 : Int32)), .val (.int (1 : Int32)), .val (.int (2 : Int32)), .unset, .unset, .unset, .unset, .unset, .unset, .unset, .unset, .unset, .unset, .unset, .unset, .unset, .unset] [])) _
    refine XS.iload X0.here hx rfl (hb hby dS52_12) rfl ?_
    show Steps p.tables e below (s₁.setTop (mkF m 14 #[.val .null, .val (.ref a1), .val (.int (0 : Int32)), .val (.int (0 : Int32)), .val (.int (2 : Int32)), .val (.int (1 : Int32)), .val (.int (2 : Int32)), .unset, .unset, .unset, .unset, .unset, .unset, .unset, .unset, .unset, .unset, .unset, .unset, .unset, .unset] [(.int (2 : Int32))])) _
    refine XS.bipush X0.here hx rfl (hb hby dS52_14) ?_
    show Steps p.tables e below (s₁.setTop (mkF m 16 #[.val .null, .val (.ref a1), .val (.int (0 : Int32)), .val (.int (0 : Int32)), .val (.int (2 : Int32)), .val (.int (1 : Int32)), .val (.int (2 : Int32)), .unset, .unset, .unset, .unset, .unset, .unset, .unset, .unset, .unset, .unset, .unset, .unset, .unset, .unset] [(.int (65 : Int32)), (.int (2 : Int32))])) _
    refine XS.iloadN X0.here hx rfl (hb hby dS52_16) rfl ?_
    show Steps p.tables e below (s₁.setTop (mkF m 17 #[.val .null, .val (.ref a1), .val (.int (0 : Int32)), .val (.int (0 : Int32)), .val (.int (2 : Int32)), .val (.int (1 : Int32)), .val (.int (2 : Int32)), .unset, .unset, .unset, .unset, .unset, .unset, .unset, .unset, .unset, .unset, .unset, .unset, .unset, .unset] [(.int (0 : Int32)), (.int (65 : Int32)), (.int (2 : Int32))])) _
    refine XS.iadd X0.here hx rfl (hb hby dS52_17) rfl ?_
    show Steps p.tables e below (s₁.setTop (mkF m 18 #[.val .null, .val (.ref a1), .val (.int (0 : Int32)), .val (.int (0 : Int32)), .val (.int (2 : Int32)), .val (.int (1 : Int32)), .val (.int (2 : Int32)), .unset, .unset, .unset, .unset, .unset, .unset, .unset, .unset, .unset, .unset, .unset, .unset, .unset, .unset] [(.int (65 : Int32)), (.int (2 : Int32))])) _
    refine XS.icmpNo X0.here hx rfl (hb hby dS52_18) rfl (tlt ((by decide) : (2 : Int32) < (65 : Int32))).2.1 ?_
    show Steps p.tables e below (s₁.setTop (mkF m 21 #[.val .null, .val (.ref a1), .val (.int (0 : Int32)), .val (.int (0 : Int32)), .val (.int (2 : Int32)), .val (.int (1 : Int32)), .val (.int (2 : Int32)), .unset, .unset, .unset, .unset, .unset, .unset, .unset, .unset, .unset, .unset, .unset, .unset, .unset, .unset] [])) _
    refine XS.iloadN X0.here hx rfl (hb hby dS52_21) rfl ?_
    show Steps p.tables e below (s₁.setTop (mkF m 22 #[.val .null, .val (.ref a1), .val (.int (0 : Int32)), .val (.int (0 : Int32)), .val (.int (2 : Int32)), .val (.int (1 : Int32)), .val (.int (2 : Int32)), .unset, .unset, .unset, .unset, .unset, .unset, .unset, .unset, .unset, .unset, .unset, .unset, .unset, .unset] [(.int (0 : Int32))])) _
    refine XS.iconst X0.here hx rfl (hb hby dS52_22) ?_
    show Steps p.tables e below (s₁.setTop (mkF m 23 #[.val .null, .val (.ref a1), .val (.int (0 : Int32)), .val (.int (0 : Int32)), .val (.int (2 : Int32)), .val (.int (1 : Int32)), .val (.int (2 : Int32)), .unset, .unset, .unset, .unset, .unset, .unset, .unset, .unset, .unset, .unset, .unset, .unset, .unset, .unset] [(.int (1 : Int32)), (.int (0 : Int32))])) _
    refine XS.iand X0.here hx rfl (hb hby dS52_23) rfl ?_
    show Steps p.tables e below (s₁.setTop (mkF m 24 #[.val .null, .val (.ref a1), .val (.int (0 : Int32)), .val (.int (0 : Int32)), .val (.int (2 : Int32)), .val (.int (1 : Int32)), .val (.int (2 : Int32)), .unset, .unset, .unset, .unset, .unset, .unset, .unset, .unset, .unset, .unset, .unset, .unset, .unset, .unset] [(.int (0 : Int32))])) _
    refine XS.ifYes X0.here hx rfl (pc0 := 24) (pc' := 46) rfl (hb hby dS52_24) rfl ((if0 _ _).trans (flt ((by decide) : ¬ ((0 : Int32) < (0 : Int32)))).2.2.2) (by decide) (by decide) ?_
    show Steps p.tables e below (s₁.setTop (mkF m 46 #[.val .null, .val (.ref a1), .val (.int (0 : Int32)), .val (.int (0 : Int32)), .val (.int (2 : Int32)), .val (.int (1 : Int32)), .val (.int (2 : Int32)), .unset, .unset, .unset, .unset, .unset, .unset, .unset, .unset, .unset, .unset, .unset, .unset, .unset, .unset] [])) _
    refine XS.iload X0.here hx rfl (hb hby dS52_46) rfl ?_
    show Steps p.tables e below (s₁.setTop (mkF m 48 #[.val .null, .val (.ref a1), .val (.int (0 : Int32)), .val (.int (0 : Int32)), .val (.int (2 : Int32)), .val (.int (1 : Int32)), .val (.int (2 : Int32)), .unset, .unset, .unset, .unset, .unset, .unset, .unset, .unset, .unset, .unset, .unset, .unset, .unset, .unset] [(.int (2 : Int32))])) _
    refine XS.bipush X0.here hx rfl (hb hby dS52_48) ?_
    show Steps p.tables e below (s₁.setTop (mkF m 50 #[.val .null, .val (.ref a1), .val (.int (0 : Int32)), .val (.int (0 : Int32)), .val (.int (2 : Int32)), .val (.int (1 : Int32)), .val (.int (2 : Int32)), .unset, .unset, .unset, .unset, .unset, .unset, .unset, .unset, .unset, .unset, .unset, .unset, .unset, .unset] [(.int (44 : Int32)), (.int (2 : Int32))])) _
    refine XS.icmpNo X0.here hx rfl (hb hby dS52_50) rfl (tlt ((by decide) : (2 : Int32) < (44 : Int32))).2.1 ?_
    show Steps p.tables e below (s₁.setTop (mkF m 53 #[.val .null, .val (.ref a1), .val (.int (0 : Int32)), .val (.int (0 : Int32)), .val (.int (2 : Int32)), .val (.int (1 : Int32)), .val (.int (2 : Int32)), .unset, .unset, .unset, .unset, .unset, .unset, .unset, .unset, .unset, .unset, .unset, .unset, .unset, .unset] [])) _
    refine XS.aloadN X0.here hx rfl (hb hby dS52_53) rfl rfl ?_
    show Steps p.tables e below (s₁.setTop (mkF m 54 #[.val .null, .val (.ref a1), .val (.int (0 : Int32)), .val (.int (0 : Int32)), .val (.int (2 : Int32)), .val (.int (1 : Int32)), .val (.int (2 : Int32)), .unset, .unset, .unset, .unset, .unset, .unset, .unset, .unset, .unset, .unset, .unset, .unset, .unset, .unset] [(.ref a1)])) _
    refine XS.iloadN X0.here hx rfl (hb hby dS52_54) rfl ?_
    show Steps p.tables e below (s₁.setTop (mkF m 55 #[.val .null, .val (.ref a1), .val (.int (0 : Int32)), .val (.int (0 : Int32)), .val (.int (2 : Int32)), .val (.int (1 : Int32)), .val (.int (2 : Int32)), .unset, .unset, .unset, .unset, .unset, .unset, .unset, .unset, .unset, .unset, .unset, .unset, .unset, .unset] [(.int (0 : Int32)), (.ref a1)])) _
    refine XS.iload X0.here hx rfl (hb hby dS52_55) rfl ?_
    show Steps p.tables e below (s₁.setTop (mkF m 57 #[.val .null, .val (.ref a1), .val (.int (0 : Int32)), .val (.int (0 : Int32)), .val (.int (2 : Int32)), .val (.int (1 : Int32)), .val (.int (2 : Int32)), .unset, .unset, .unset, .unset, .unset, .unset, .unset, .unset, .unset, .unset, .unset, .unset, .unset, .unset] [(.int (2 : Int32)), (.int (0 : Int32)), (.ref a1)])) _
    refine st101 _ ?_
    exact kt)
  obtain ⟨fs, hr, hrun, hended, hW, hsame⟩ := X101.leave (v := none) (fun _ => rfl) (hlocks := hlk)
  refine ⟨_, _, P102 _ ?_, hrun, hended, _, _, rfl, ?_, ⟨_, rfl⟩, hW, hsame.mono (by decide) (by decide)⟩
  · show Steps p.tables e below (T101.setTop (mkF m 60 #[.val .null, .val (.ref a1), .val (.int (0 : Int32)), .val (.int (0 : Int32)), .val (.int (2 : Int32)), .val (.int (1 : Int32)), .val (.int (2 : Int32)), .unset, .unset, .unset, .unset, .unset, .unset, .unset, .unset, .unset, .unset, .unset, .unset, .unset, .unset] [])) _
    exact X101.returnOut hx Bd.returns (hb hby dS52_60) hr
  · show QS Z a1 k (2 : Int32) [(.int x0), (.int x1)] h0 n0 _ T101.heap _
    skip
    exact ⟨rfl, N101, K101, V101x⟩
theorem dS42_0 : decode jdk_2529_method_3_code 0 = .ok (.iload_n 3, 1) := by decide +kernel
theorem dS42_1 : decode jdk_2529_method_3_code 1 = .ok (.iload_n 2, 1) := by decide +kernel
theorem dS42_2 : decode jdk_2529_method_3_code 2 = .ok (.isub, 1) := by decide +kernel
theorem dS42_3 : decode jdk_2529_method_3_code 3 = .ok (.istore 4, 2) := by decide +kernel
theorem dS42_5 : decode jdk_2529_method_3_code 5 = .ok (.iload_n 1, 1) := by decide +kernel
theorem dS42_6 : decode jdk_2529_method_3_code 6 = .ok (.iconst 1, 1) := by decide +kernel
theorem dS42_7 : decode jdk_2529_method_3_code 7 = .ok (.if_icmp .le 61, 3) := by decide +kernel
theorem dS42_68 : decode jdk_2529_method_3_code 68 = .ok (.aconst_null, 1) := by decide +kernel
theorem dS42_69 : decode jdk_2529_method_3_code 69 = .ok (.aload_n 0, 1) := by decide +kernel
theorem dS42_70 : decode jdk_2529_method_3_code 70 = .ok (.iconst 0, 1) := by decide +kernel
theorem dS42_71 : decode jdk_2529_method_3_code 71 = .ok (.iload_n 2, 1) := by decide +kernel
theorem dS42_72 : decode jdk_2529_method_3_code 72 = .ok (.iload_n 3, 1) := by decide +kernel
theorem dS42_73 : decode jdk_2529_method_3_code 73 = .ok (.invokestatic 26, 3) := by decide +kernel
theorem dS42_76 : decode jdk_2529_method_3_code 76 = .ok (.return_, 1) := by decide +kernel
theorem ef_S42 (m : MethodId) (x0 : Addr) : entryFrame m #[(.ref x0), (.int (0 : Int32)), (.int (0 : Int32)), (.int (2 : Int32))] 7 = mkF m 0 #[.val (.ref x0), .val (.int (0 : Int32)), .val (.int (0 : Int32)), .val (.int (2 : Int32)), .unset, .unset, .unset] [] := by first | (simp [entryFrame, mkF, argsToLocals, Value.category]; done) | rfl
set_option maxRecDepth 65536 in
set_option maxHeartbeats 40000000 in
theorem rmS42 (l : Launch) (Z : State) (a0 : Array Value) (hw : ∀ d ∈ tables_1, d.before a0 Z = true) (ws : List Jvm.Cond) (a1 : Addr) (k : ClassId) (x0 x1 : Int32) (h0 : Heap) (n0 : Nat) (Z0 : n0 ≤ h0.size) (V1 : Arv Z h0 a1 k .int (2 : Int32) [(.int x1), (.int x0)] (.int (0 : Int32))) (ga : n0 ≤ a1) (h01 : x0 < x1) :
    MetFree l (⟨"java/util/DualPivotQuicksort", "sort", "([IIII)V"⟩ : MethodName) (head1 (Jvm.Cond.code (⟨"java/util/DualPivotQuicksort", "sort", "([IIII)V"⟩ : MethodName) jdk_2529_method_3_code 7 none :: ws) ({ frames := 2, cells := 0, slots := 0, locals := 49 } : Room)) (fun a U => a = #[(.ref a1), (.int (0 : Int32)), (.int (0 : Int32)), (.int (2 : Int32))] ∧ Z.Warmed39 U.vm ∧ U.heap = h0) (fun _ _ _ _ _ => True) (fun _ U o U' => ∃ v L, o = .returned v ∧ QS Z a1 k (2 : Int32) [(.int x0), (.int x1)] h0 n0 v U'.heap L ∧ FrameEnd U o U' L ({ frames := 2, cells := 0, slots := 0, locals := 49 } : Room).cells ({ frames := 2, cells := 0, slots := 0, locals := 49 } : Room).slots) := by
  refine MetFree.of_bodySF (plainFor_of_name (by first | (simp [plainName, overriddenIn]; done) | decide +kernel)) hisR ?_
  intro p e s m args below meth c s₁ Bd hml0 hP hK
  obtain ⟨rfl, hZ, hh⟩ := hP
  have hx := Bd.exec
  have hby := Bd.bytes
  have hml : c.maxLocals = 7 := hml0
  have hown : s.vm.findClass "java/util/DualPivotQuicksort" = some m.cls := findClass_of_methodNamed Bd.named
  have hnm := (name_of_methodNamed Bd.named Bd.method).1
  have hlk : meth.locks = false := BodyLoose.notSynchronized Bd
  have X0 : Stand p l e ({ frames := 2, cells := 0, slots := 0, locals := 49 } : Room) s m #[(.ref a1), (.int (0 : Int32)), (.int (0 : Int32)), (.int (2 : Int32))] below meth c s₁ [] 0 0 := Stand.of_body Bd
  have e0 : s₁.heap = h0 := by rw [← hh, Bd.state]; rfl
  have P0 : ∀ t, Steps p.tables e below (s₁.setTop (mkF m 0 #[.val (.ref a1), .val (.int (0 : Int32)), .val (.int (0 : Int32)), .val (.int (2 : Int32)), .unset, .unset, .unset] [])) t → Steps p.tables e below (s₁.setTop (entryFrame m #[(.ref a1), (.int (0 : Int32)), (.int (0 : Int32)), (.int (2 : Int32))] 7)) t := fun t kt => castTop (ef_S42 m a1) kt
  have N0 := Fr.nil n0
  have K0 := Keep.refl h0 [a1]
  obtain ⟨_, _, ⟨T101, L101, k101, n101⟩, -, X101, ⟨Lc101, hQ101, l101, y101, z101⟩, st101⟩ := Jvm.LawKit.callS X0 hx (y := (⟨"java/util/DualPivotQuicksort", "sort", "(Ljava/util/DualPivotQuicksort$Sorter;[IIII)V"⟩ : MethodName)) hown (mvT hZ (hw _ (List.mem_of_getElem? (i := 50) rfl))) (mvT hZ (hw _ (List.mem_of_getElem? (i := 51) rfl))) (mvT hZ (hw _ (List.mem_of_getElem? (i := 48) rfl))) (mvT hZ (hw _ (List.mem_of_getElem? (i := 52) rfl))) (by decide) (backOf (W := 0)  (rmS52 l Z a0 hw [] a1 k x0 x1 h0 n0 Z0 V1 ga h01) hZ (hw _ (List.mem_of_getElem? (i := 52) rfl)) (hw _ (List.mem_of_getElem? (i := 48) rfl)) (by decide) (by decide)) (g := (mkF m 73 #[.val (.ref a1), .val (.int (0 : Int32)), .val (.int (0 : Int32)), .val (.int (2 : Int32)), .val (.int (2 : Int32)), .unset, .unset] [(.int (2 : Int32)), (.int (0 : Int32)), (.int (0 : Int32)), (.ref a1), .null])) rfl (by rw [hml]; rfl) (argsL := [.null, (.ref a1), (.int (0 : Int32)), (.int (0 : Int32)), (.int (2 : Int32))]) (rest := []) (lenOf pd__Ljava_util_DualPivotQuicksort_Sorter__IIII_V rfl) rfl (by show 2 * 0 + _ ≤ _; exact Nat.le_of_eq rfl) (hb hby dS42_73) (fun _ _ => ⟨rfl, e0, (by decide : 0 + 0 ≤ _), (by decide : 0 + 0 ≤ _)⟩)
  dsimp only [Pt.U, Pt.locs, Pt.cells, Pt.slots] at X101 l101 y101 z101 st101 hQ101
  subst l101 y101 z101
  obtain ⟨rfl, Nq101, K101x, V101x⟩ := hQ101
  have N101 := Fr.app N0 Nq101
  have sz101 : n0 ≤ T101.heap.size := Nat.le_trans Z0 K101x.1
  have K101 : Keep h0 T101.heap [a1] := K0.trans K101x (fun x hx => by cases List.mem_singleton.mp hx; exact Or.inl (List.mem_of_getElem? (i := 0) rfl))
  have P102 : ∀ t, Steps p.tables e below (T101.setTop (mkF m 76 #[.val (.ref a1), .val (.int (0 : Int32)), .val (.int (0 : Int32)), .val (.int (2 : Int32)), .val (.int (2 : Int32)), .unset, .unset] [])) t → Steps p.tables e below (s₁.setTop (entryFrame m #[(.ref a1), (.int (0 : Int32)), (.int (0 : Int32)), (.int (2 : Int32))] 7)) t := fun t kt => P0 t (by
    show Steps p.tables e below (s₁.setTop (mkF m 0 #[.val (.ref a1), .val (.int (0 : Int32)), .val (.int (0 : Int32)), .val (.int (2 : Int32)), .unset, .unset, .unset] [])) _
    refine XS.iloadN X0.here hx rfl (hb hby dS42_0) rfl ?_
    show Steps p.tables e below (s₁.setTop (mkF m 1 #[.val (.ref a1), .val (.int (0 : Int32)), .val (.int (0 : Int32)), .val (.int (2 : Int32)), .unset, .unset, .unset] [(.int (2 : Int32))])) _
    refine XS.iloadN X0.here hx rfl (hb hby dS42_1) rfl ?_
    show Steps p.tables e below (s₁.setTop (mkF m 2 #[.val (.ref a1), .val (.int (0 : Int32)), .val (.int (0 : Int32)), .val (.int (2 : Int32)), .unset, .unset, .unset] [(.int (0 : Int32)), (.int (2 : Int32))])) _
    refine XS.isub X0.here hx rfl (hb hby dS42_2) rfl ?_
    show Steps p.tables e below (s₁.setTop (mkF m 3 #[.val (.ref a1), .val (.int (0 : Int32)), .val (.int (0 : Int32)), .val (.int (2 : Int32)), .unset, .unset, .unset] [(.int (2 : Int32))])) _
    refine XS.istore X0.here hx rfl (hb hby dS42_3) rfl (l' := #[.val (.ref a1), .val (.int (0 : Int32)), .val (.int (0 : Int32)), .val (.int (2 : Int32)), .val (.int (2 : Int32)), .unset, .unset]) rfl ?_
    show Steps p.tables e below (s₁.setTop (mkF m 5 #[.val (.ref a1), .val (.int (0 : Int32)), .val (.int (0 : Int32)), .val (.int (2 : Int32)), .val (.int (2 : Int32)), .unset, .unset] [])) _
    refine XS.iloadN X0.here hx rfl (hb hby dS42_5) rfl ?_
    show Steps p.tables e below (s₁.setTop (mkF m 6 #[.val (.ref a1), .val (.int (0 : Int32)), .val (.int (0 : Int32)), .val (.int (2 : Int32)), .val (.int (2 : Int32)), .unset, .unset] [(.int (0 : Int32))])) _
    refine XS.iconst X0.here hx rfl (hb hby dS42_6) ?_
    show Steps p.tables e below (s₁.setTop (mkF m 7 #[.val (.ref a1), .val (.int (0 : Int32)), .val (.int (0 : Int32)), .val (.int (2 : Int32)), .val (.int (2 : Int32)), .unset, .unset] [(.int (1 : Int32)), (.int (0 : Int32))])) _
    refine XS.icmpYes X0.here hx rfl (pc0 := 7) (pc' := 68) rfl (hb hby dS42_7) rfl (flt ((by decide) : ¬ ((1 : Int32) < (0 : Int32)))).2.2.2 (by decide) (by decide) ?_
    show Steps p.tables e below (s₁.setTop (mkF m 68 #[.val (.ref a1), .val (.int (0 : Int32)), .val (.int (0 : Int32)), .val (.int (2 : Int32)), .val (.int (2 : Int32)), .unset, .unset] [])) _
    refine XS.aconstNull X0.here hx rfl (hb hby dS42_68) ?_
    show Steps p.tables e below (s₁.setTop (mkF m 69 #[.val (.ref a1), .val (.int (0 : Int32)), .val (.int (0 : Int32)), .val (.int (2 : Int32)), .val (.int (2 : Int32)), .unset, .unset] [.null])) _
    refine XS.aloadN X0.here hx rfl (hb hby dS42_69) rfl rfl ?_
    show Steps p.tables e below (s₁.setTop (mkF m 70 #[.val (.ref a1), .val (.int (0 : Int32)), .val (.int (0 : Int32)), .val (.int (2 : Int32)), .val (.int (2 : Int32)), .unset, .unset] [(.ref a1), .null])) _
    refine XS.iconst X0.here hx rfl (hb hby dS42_70) ?_
    show Steps p.tables e below (s₁.setTop (mkF m 71 #[.val (.ref a1), .val (.int (0 : Int32)), .val (.int (0 : Int32)), .val (.int (2 : Int32)), .val (.int (2 : Int32)), .unset, .unset] [(.int (0 : Int32)), (.ref a1), .null])) _
    refine XS.iloadN X0.here hx rfl (hb hby dS42_71) rfl ?_
    show Steps p.tables e below (s₁.setTop (mkF m 72 #[.val (.ref a1), .val (.int (0 : Int32)), .val (.int (0 : Int32)), .val (.int (2 : Int32)), .val (.int (2 : Int32)), .unset, .unset] [(.int (0 : Int32)), (.int (0 : Int32)), (.ref a1), .null])) _
    refine XS.iloadN X0.here hx rfl (hb hby dS42_72) rfl ?_
    show Steps p.tables e below (s₁.setTop (mkF m 73 #[.val (.ref a1), .val (.int (0 : Int32)), .val (.int (0 : Int32)), .val (.int (2 : Int32)), .val (.int (2 : Int32)), .unset, .unset] [(.int (2 : Int32)), (.int (0 : Int32)), (.int (0 : Int32)), (.ref a1), .null])) _
    refine st101 _ ?_
    exact kt)
  obtain ⟨fs, hr, hrun, hended, hW, hsame⟩ := X101.leave (v := none) (fun _ => rfl) (hlocks := hlk)
  refine ⟨_, _, P102 _ ?_, hrun, hended, _, _, rfl, ?_, ⟨_, rfl⟩, hW, hsame.mono (by decide) (by decide)⟩
  · show Steps p.tables e below (T101.setTop (mkF m 76 #[.val (.ref a1), .val (.int (0 : Int32)), .val (.int (0 : Int32)), .val (.int (2 : Int32)), .val (.int (2 : Int32)), .unset, .unset] [])) _
    exact X101.returnOut hx Bd.returns (hb hby dS42_76) hr
  · show QS Z a1 k (2 : Int32) [(.int x0), (.int x1)] h0 n0 _ T101.heap _
    skip
    exact ⟨rfl, N101, K101, V101x⟩
theorem dAS2_0 : decode jdk_65_method_2_code 0 = .ok (.aload_n 0, 1) := by decide +kernel
theorem dAS2_1 : decode jdk_65_method_2_code 1 = .ok (.iconst 0, 1) := by decide +kernel
theorem dAS2_2 : decode jdk_65_method_2_code 2 = .ok (.iconst 0, 1) := by decide +kernel
theorem dAS2_3 : decode jdk_65_method_2_code 3 = .ok (.aload_n 0, 1) := by decide +kernel
theorem dAS2_4 : decode jdk_65_method_2_code 4 = .ok (.arraylength, 1) := by decide +kernel
theorem dAS2_5 : decode jdk_65_method_2_code 5 = .ok (.invokestatic 7, 3) := by decide +kernel
theorem dAS2_8 : decode jdk_65_method_2_code 8 = .ok (.return_, 1) := by decide +kernel
theorem ef_AS2 (m : MethodId) (x0 : Addr) : entryFrame m #[(.ref x0)] 1 = mkF m 0 #[.val (.ref x0)] [] := by first | (simp [entryFrame, mkF, argsToLocals, Value.category]; done) | rfl
set_option maxRecDepth 65536 in
set_option maxHeartbeats 40000000 in
theorem rmAS2 (l : Launch) (Z : State) (a0 : Array Value) (hw : ∀ d ∈ tables_1, d.before a0 Z = true) (ws : List Jvm.Cond) (a1 : Addr) (k : ClassId) (x0 x1 : Int32) (h0 : Heap) (n0 : Nat) (Z0 : n0 ≤ h0.size) (V1 : Arv Z h0 a1 k .int (2 : Int32) [(.int x1), (.int x0)] (.int (0 : Int32))) (ga : n0 ≤ a1) (h01 : x0 < x1) :
    MetFree l (⟨"java/util/Arrays", "sort", "([I)V"⟩ : MethodName) (head1 (Jvm.Cond.code (⟨"java/util/Arrays", "sort", "([I)V"⟩ : MethodName) jdk_65_method_2_code 1 none :: ws) ({ frames := 3, cells := 0, slots := 0, locals := 67 } : Room)) (fun a U => a = #[(.ref a1)] ∧ Z.Warmed39 U.vm ∧ U.heap = h0) (fun _ _ _ _ _ => True) (fun _ U o U' => ∃ v L, o = .returned v ∧ QS Z a1 k (2 : Int32) [(.int x0), (.int x1)] h0 n0 v U'.heap L ∧ FrameEnd U o U' L ({ frames := 3, cells := 0, slots := 0, locals := 67 } : Room).cells ({ frames := 3, cells := 0, slots := 0, locals := 67 } : Room).slots) := by
  refine MetFree.of_bodySF (plainFor_of_name (by first | (simp [plainName, overriddenIn]; done) | decide +kernel)) hisR ?_
  intro p e s m args below meth c s₁ Bd hml0 hP hK
  obtain ⟨rfl, hZ, hh⟩ := hP
  have hx := Bd.exec
  have hby := Bd.bytes
  have hml : c.maxLocals = 1 := hml0
  have hown : s.vm.findClass "java/util/Arrays" = some m.cls := findClass_of_methodNamed Bd.named
  have hnm := (name_of_methodNamed Bd.named Bd.method).1
  have hlk : meth.locks = false := BodyLoose.notSynchronized Bd
  have X0 : Stand p l e ({ frames := 3, cells := 0, slots := 0, locals := 67 } : Room) s m #[(.ref a1)] below meth c s₁ [] 0 0 := Stand.of_body Bd
  have e0 : s₁.heap = h0 := by rw [← hh, Bd.state]; rfl
  have P0 : ∀ t, Steps p.tables e below (s₁.setTop (mkF m 0 #[.val (.ref a1)] [])) t → Steps p.tables e below (s₁.setTop (entryFrame m #[(.ref a1)] 1)) t := fun t kt => castTop (ef_AS2 m a1) kt
  have N0 := Fr.nil n0
  have K0 := Keep.refl h0 [a1]
  obtain ⟨cl101, Ar101, q101, S101, Nn101, H101, G101⟩ := id V1
  obtain ⟨_, _, ⟨T102, L102, k102, n102⟩, -, X102, ⟨Lc102, hQ102, l102, y102, z102⟩, st102⟩ := Jvm.LawKit.callS X0 hx (y := (⟨"java/util/DualPivotQuicksort", "sort", "([IIII)V"⟩ : MethodName)) hown (mvT hZ (hw _ (List.mem_of_getElem? (i := 46) rfl))) (mvT hZ (hw _ (List.mem_of_getElem? (i := 47) rfl))) (mvT hZ (hw _ (List.mem_of_getElem? (i := 48) rfl))) (mvT hZ (hw _ (List.mem_of_getElem? (i := 49) rfl))) (by decide) (backOf (W := 0)  (rmS42 l Z a0 hw [] a1 k x0 x1 h0 n0 Z0 V1 ga h01) hZ (hw _ (List.mem_of_getElem? (i := 49) rfl)) (hw _ (List.mem_of_getElem? (i := 48) rfl)) (by decide) (by decide)) (g := (mkF m 5 #[.val (.ref a1)] [(.int (2 : Int32)), (.int (0 : Int32)), (.int (0 : Int32)), (.ref a1)])) rfl (by rw [hml]; rfl) (argsL := [(.ref a1), (.int (0 : Int32)), (.int (0 : Int32)), (.int (2 : Int32))]) (rest := []) (lenOf pd___IIII_V rfl) rfl (by show 2 * 0 + _ ≤ _; exact Nat.le_of_eq rfl) (hb hby dAS2_5) (fun _ _ => ⟨rfl, e0, (by decide : 0 + 0 ≤ _), (by decide : 0 + 0 ≤ _)⟩)
  dsimp only [Pt.U, Pt.locs, Pt.cells, Pt.slots] at X102 l102 y102 z102 st102 hQ102
  subst l102 y102 z102
  obtain ⟨rfl, Nq102, K102x, V102x⟩ := hQ102
  have N102 := Fr.app N0 Nq102
  have sz102 : n0 ≤ T102.heap.size := Nat.le_trans Z0 K102x.1
  have K102 : Keep h0 T102.heap [a1] := K0.trans K102x (fun x hx => by cases List.mem_singleton.mp hx; exact Or.inl (List.mem_of_getElem? (i := 0) rfl))
  have P103 : ∀ t, Steps p.tables e below (T102.setTop (mkF m 8 #[.val (.ref a1)] [])) t → Steps p.tables e below (s₁.setTop (entryFrame m #[(.ref a1)] 1)) t := fun t kt => P0 t (by
    show Steps p.tables e below (s₁.setTop (mkF m 0 #[.val (.ref a1)] [])) _
    refine XS.aloadN X0.here hx rfl (hb hby dAS2_0) rfl rfl ?_
    show Steps p.tables e below (s₁.setTop (mkF m 1 #[.val (.ref a1)] [(.ref a1)])) _
    refine XS.iconst X0.here hx rfl (hb hby dAS2_1) ?_
    show Steps p.tables e below (s₁.setTop (mkF m 2 #[.val (.ref a1)] [(.int (0 : Int32)), (.ref a1)])) _
    refine XS.iconst X0.here hx rfl (hb hby dAS2_2) ?_
    show Steps p.tables e below (s₁.setTop (mkF m 3 #[.val (.ref a1)] [(.int (0 : Int32)), (.int (0 : Int32)), (.ref a1)])) _
    refine XS.aloadN X0.here hx rfl (hb hby dAS2_3) rfl rfl ?_
    show Steps p.tables e below (s₁.setTop (mkF m 4 #[.val (.ref a1)] [(.ref a1), (.int (0 : Int32)), (.int (0 : Int32)), (.ref a1)])) _
    refine X0.arraylength hx (by rw [e0]; exact Ar101.1) (State.isArrayOf_alike hZ.alike Ar101.2.1) (g := (mkF m 4 #[.val (.ref a1)] [(.ref a1), (.int (0 : Int32)), (.int (0 : Int32)), (.ref a1)])) rfl rfl (hb hby dAS2_4) _ ?_
    rw [len_of S101 Nn101]
    show Steps p.tables e below (s₁.setTop (mkF m 5 #[.val (.ref a1)] [(.int (2 : Int32)), (.int (0 : Int32)), (.int (0 : Int32)), (.ref a1)])) _
    refine st102 _ ?_
    exact kt)
  obtain ⟨fs, hr, hrun, hended, hW, hsame⟩ := X102.leave (v := none) (fun _ => rfl) (hlocks := hlk)
  refine ⟨_, _, P103 _ ?_, hrun, hended, _, _, rfl, ?_, ⟨_, rfl⟩, hW, hsame.mono (by decide) (by decide)⟩
  · show Steps p.tables e below (T102.setTop (mkF m 8 #[.val (.ref a1)] [])) _
    exact X102.returnOut hx Bd.returns (hb hby dAS2_8) hr
  · show QS Z a1 k (2 : Int32) [(.int x0), (.int x1)] h0 n0 _ T102.heap _
    skip
    exact ⟨rfl, N102, K102, V102x⟩
theorem dT2_0 : decode prog_83_method_1_code 0 = .ok (.aload_n 0, 1) := by decide +kernel
theorem dT2_1 : decode prog_83_method_1_code 1 = .ok (.invokespecial 1, 3) := by decide +kernel
theorem dT2_4 : decode prog_83_method_1_code 4 = .ok (.aload_n 1, 1) := by decide +kernel
theorem dT2_5 : decode prog_83_method_1_code 5 = .ok (.ldc 7, 2) := by decide +kernel
theorem dT2_7 : decode prog_83_method_1_code 7 = .ok (.invokestatic 9, 3) := by decide +kernel
theorem dT2_10 : decode prog_83_method_1_code 10 = .ok (.pop, 1) := by decide +kernel
theorem dT2_11 : decode prog_83_method_1_code 11 = .ok (.iload_n 2, 1) := by decide +kernel
theorem dT2_12 : decode prog_83_method_1_code 12 = .ok (.iconst 1, 1) := by decide +kernel
theorem dT2_13 : decode prog_83_method_1_code 13 = .ok (.if_icmp .ge 17, 3) := by decide +kernel
theorem dT2_30 : decode prog_83_method_1_code 30 = .ok (.aload_n 3, 1) := by decide +kernel
theorem dT2_31 : decode prog_83_method_1_code 31 = .ok (.ldc 24, 2) := by decide +kernel
theorem dT2_33 : decode prog_83_method_1_code 33 = .ok (.invokestatic 9, 3) := by decide +kernel
theorem dT2_36 : decode prog_83_method_1_code 36 = .ok (.checkcast 26, 3) := by decide +kernel
theorem dT2_39 : decode prog_83_method_1_code 39 = .ok (.invokevirtual 28, 3) := by decide +kernel
theorem dT2_42 : decode prog_83_method_1_code 42 = .ok (.checkcast 26, 3) := by decide +kernel
theorem dT2_45 : decode prog_83_method_1_code 45 = .ok (.astore_n 3, 1) := by decide +kernel
theorem dT2_46 : decode prog_83_method_1_code 46 = .ok (.aload_n 3, 1) := by decide +kernel
theorem dT2_47 : decode prog_83_method_1_code 47 = .ok (.invokestatic 32, 3) := by decide +kernel
theorem dT2_50 : decode prog_83_method_1_code 50 = .ok (.iconst 0, 1) := by decide +kernel
theorem dT2_51 : decode prog_83_method_1_code 51 = .ok (.istore 4, 2) := by decide +kernel
theorem dT2_53 : decode prog_83_method_1_code 53 = .ok (.iload 4, 2) := by decide +kernel
theorem dT2_55 : decode prog_83_method_1_code 55 = .ok (.aload_n 3, 1) := by decide +kernel
theorem dT2_56 : decode prog_83_method_1_code 56 = .ok (.arraylength, 1) := by decide +kernel
theorem dT2_57 : decode prog_83_method_1_code 57 = .ok (.if_icmp .ge 55, 3) := by decide +kernel
theorem dT2_60 : decode prog_83_method_1_code 60 = .ok (.aload_n 1, 1) := by decide +kernel
theorem dT2_61 : decode prog_83_method_1_code 61 = .ok (.iload_n 2, 1) := by decide +kernel
theorem dT2_62 : decode prog_83_method_1_code 62 = .ok (.ldc 38, 2) := by decide +kernel
theorem dT2_64 : decode prog_83_method_1_code 64 = .ok (.aload_n 3, 1) := by decide +kernel
theorem dT2_65 : decode prog_83_method_1_code 65 = .ok (.iload 4, 2) := by decide +kernel
theorem dT2_67 : decode prog_83_method_1_code 67 = .ok (.iaload, 1) := by decide +kernel
theorem dT2_68 : decode prog_83_method_1_code 68 = .ok (.invokestatic 40, 3) := by decide +kernel
theorem dT2_71 : decode prog_83_method_1_code 71 = .ok (.iload 4, 2) := by decide +kernel
theorem dT2_73 : decode prog_83_method_1_code 73 = .ok (.ifCond .le 33, 3) := by decide +kernel
theorem dT2_76 : decode prog_83_method_1_code 76 = .ok (.aload_n 3, 1) := by decide +kernel
theorem dT2_77 : decode prog_83_method_1_code 77 = .ok (.iload 4, 2) := by decide +kernel
theorem dT2_79 : decode prog_83_method_1_code 79 = .ok (.iaload, 1) := by decide +kernel
theorem dT2_80 : decode prog_83_method_1_code 80 = .ok (.aload_n 3, 1) := by decide +kernel
theorem dT2_81 : decode prog_83_method_1_code 81 = .ok (.iload 4, 2) := by decide +kernel
theorem dT2_83 : decode prog_83_method_1_code 83 = .ok (.iconst 1, 1) := by decide +kernel
theorem dT2_84 : decode prog_83_method_1_code 84 = .ok (.isub, 1) := by decide +kernel
theorem dT2_85 : decode prog_83_method_1_code 85 = .ok (.iaload, 1) := by decide +kernel
theorem dT2_86 : decode prog_83_method_1_code 86 = .ok (.if_icmp .ne 20, 3) := by decide +kernel
theorem dT2_106 : decode prog_83_method_1_code 106 = .ok (.iinc 4 1, 3) := by decide +kernel
theorem dT2_109 : decode prog_83_method_1_code 109 = .ok (.goto (-56), 3) := by decide +kernel
theorem dT2_112 : decode prog_83_method_1_code 112 = .ok (.aload_n 0, 1) := by decide +kernel
theorem dT2_113 : decode prog_83_method_1_code 113 = .ok (.aload_n 1, 1) := by decide +kernel
theorem dT2_114 : decode prog_83_method_1_code 114 = .ok (.putfield 47, 3) := by decide +kernel
theorem dT2_117 : decode prog_83_method_1_code 117 = .ok (.aload_n 0, 1) := by decide +kernel
theorem dT2_118 : decode prog_83_method_1_code 118 = .ok (.iload_n 2, 1) := by decide +kernel
theorem dT2_119 : decode prog_83_method_1_code 119 = .ok (.putfield 50, 3) := by decide +kernel
theorem dT2_122 : decode prog_83_method_1_code 122 = .ok (.aload_n 0, 1) := by decide +kernel
theorem dT2_123 : decode prog_83_method_1_code 123 = .ok (.aload_n 3, 1) := by decide +kernel
theorem dT2_124 : decode prog_83_method_1_code 124 = .ok (.putfield 54, 3) := by decide +kernel
theorem dT2_127 : decode prog_83_method_1_code 127 = .ok (.return_, 1) := by decide +kernel
theorem ef_T2 (m : MethodId) (x0 : Addr) (x1 : Addr) (x2 : Int32) (x3 : Addr) : entryFrame m #[(.ref x0), (.ref x1), (.int x2), (.ref x3)] 5 = mkF m 0 #[.val (.ref x0), .val (.ref x1), .val (.int x2), .val (.ref x3), .unset] [] := by first | (simp [entryFrame, mkF, argsToLocals, Value.category]; done) | rfl
set_option maxRecDepth 65536 in
set_option maxHeartbeats 40000000 in
theorem rmT2 (l : Launch) (Z : State) (a0 : Array Value) (hw : ∀ d ∈ tables_1, d.before a0 Z = true) (ws : List Jvm.Cond) (a1 : Addr) (a2 : Addr) (p3 : Int32) (a4 : Addr) (k : ClassId) (x0 x1 : Int32) (h0 : Heap) (n0 : Nat) (Z0 : n0 ≤ h0.size) (E1 : Exa Z h0 a1 "com/example/allot/allot/partition/Topic") (Fn : Fld Z h0 a1 "com/example/allot/allot/partition/Topic" "name" "Ljava/lang/String;" .null) (Fp : Fld Z h0 a1 "com/example/allot/allot/partition/Topic" "partitions" "I" (.int (0 : Int32))) (Fu : Fld Z h0 a1 "com/example/allot/allot/partition/Topic" "unavailable" "[I" .null) (ga : n0 ≤ a1) (E4 : Exa Z h0 a4 "[I") (V4 : Arv Z h0 a4 k .int (2 : Int32) [(.int x1), (.int x0)] (.int (0 : Int32))) (h14 : a1 ≠ a4) (hp : ¬ p3 < (1 : Int32)) (h01 : x0 < x1) (hx0 : ¬ x0 < (0 : Int32)) (hx1 : ¬ x1 < (0 : Int32)) (hy0 : x0 < p3) (hy1 : x1 < p3) :
    MetFree l (⟨"com/example/allot/allot/partition/Topic", "<init>", "(Ljava/lang/String;I[I)V"⟩ : MethodName) (head1 (Jvm.Cond.code (⟨"com/example/allot/allot/partition/Topic", "<init>", "(Ljava/lang/String;I[I)V"⟩ : MethodName) prog_83_method_1_code 5 none :: ws) ({ frames := 4, cells := 9, slots := 246, locals := 79 } : Room)) (fun a U => a = #[(.ref a1), (.ref a2), (.int p3), (.ref a4)] ∧ Z.Warmed39 U.vm ∧ U.heap = h0) (fun _ _ _ _ _ => True) (fun _ U o U' => ∃ v L, o = .returned v ∧ QT Z a1 a2 p3 (2 : Int32) [(.int x0), (.int x1)] h0 n0 v U'.heap L ∧ ReturnedEndW U o U' L ({ frames := 4, cells := 9, slots := 246, locals := 79 } : Room).cells ({ frames := 4, cells := 9, slots := 246, locals := 79 } : Room).slots) := by
  refine MetFree.of_bodySF (plainFor_of_name (by first | (simp [plainName, overriddenIn]; done) | decide +kernel)) hisR ?_
  intro p e s m args below meth c s₁ Bd hml0 hP hK
  obtain ⟨rfl, hZ, hh⟩ := hP
  have hx := Bd.exec
  have hby := Bd.bytes
  have hml : c.maxLocals = 5 := hml0
  have hown : s.vm.findClass "com/example/allot/allot/partition/Topic" = some m.cls := findClass_of_methodNamed Bd.named
  have hnm := (name_of_methodNamed Bd.named Bd.method).1
  have hlk : meth.locks = false := BodyLoose.notSynchronized Bd
  have X0 : Stand p l e ({ frames := 4, cells := 9, slots := 246, locals := 79 } : Room) (s.setVm s.vm) m #[(.ref a1), (.ref a2), (.int p3), (.ref a4)] below meth c s₁ [] 0 0 := Stand.of_body Bd
  have e0 : s₁.heap = h0 := by rw [← hh, Bd.state]; rfl
  have P0 : ∀ t, Steps p.tables e below (s₁.setTop (mkF m 0 #[.val (.ref a1), .val (.ref a2), .val (.int p3), .val (.ref a4), .unset] [])) t → Steps p.tables e below (s₁.setTop (entryFrame m #[(.ref a1), (.ref a2), (.int p3), (.ref a4)] 5)) t := fun t kt => castTop (ef_T2 m a1 a2 p3 a4) kt
  have N0 := Fr.nil n0
  have hS0 : s.Since s.vm 0 := State.WarmedH.since (State.WarmedH.refl s) 0
  have hk0 : 0 ≤ h0.size := Nat.zero_le _
  have K0 := Keep.refl h0 [a1]
  obtain ⟨_, _, ⟨T101, L101, k101, n101⟩, -, X101, ⟨Lc101, hQ101, l101, y101, z101⟩, st101⟩ := X0.specialBack hx (y := (⟨"java/lang/Record", "<init>", "()V"⟩ : MethodName)) rfl hown (mvT hZ (hw _ (List.mem_of_getElem? (i := 19) rfl))) (mvT hZ (hw _ (List.mem_of_getElem? (i := 20) rfl))) (mvT hZ (hw _ (List.mem_of_getElem? (i := 23) rfl))) (by decide) (backOf (W := 0)  (rmR l Z a0 hw [] a1 h0) hZ (hw _ (List.mem_of_getElem? (i := 23) rfl)) (hw _ (List.mem_of_getElem? (i := 22) rfl)) (by decide) (by decide)) (g := (mkF m 1 #[.val (.ref a1), .val (.ref a2), .val (.int p3), .val (.ref a4), .unset] [(.ref a1)])) rfl (by rw [hml]; rfl) (Steps.refl _) (a := a1) (argsL := []) (rest := []) (lenOf pd___V rfl) rfl (by show 2 * 0 + _ ≤ _; exact Nat.le_of_eq rfl) (hb hby dT2_1) (fun _ _ => ⟨rfl, e0, (by decide : 0 + 0 ≤ _), (by decide : 0 + 0 ≤ _)⟩)
  dsimp only [Pt.U, Pt.locs, Pt.cells, Pt.slots] at X101 l101 y101 z101 st101 hQ101
  subst l101 y101 z101
  obtain ⟨rfl, rfl, e101⟩ := hQ101
  have N101 := Fr.app N0 (Fr.nil n0)
  have P102 : ∀ t, Steps p.tables e below (T101.setTop (mkF m 5 #[.val (.ref a1), .val (.ref a2), .val (.int p3), .val (.ref a4), .unset] [(.ref a2)])) t → Steps p.tables e below (s₁.setTop (entryFrame m #[(.ref a1), (.ref a2), (.int p3), (.ref a4)] 5)) t := fun t kt => P0 t (by
    show Steps p.tables e below (s₁.setTop (mkF m 0 #[.val (.ref a1), .val (.ref a2), .val (.int p3), .val (.ref a4), .unset] [])) _
    refine XS.aloadN X0.here hx rfl (hb hby dT2_0) rfl rfl ?_
    show Steps p.tables e below (s₁.setTop (mkF m 1 #[.val (.ref a1), .val (.ref a2), .val (.int p3), .val (.ref a4), .unset] [(.ref a1)])) _
    refine st101.trans ?_
    show Steps p.tables e below (T101.setTop (mkF m 4 #[.val (.ref a1), .val (.ref a2), .val (.int p3), .val (.ref a4), .unset] [])) _
    refine XS.aloadN X101.here hx rfl (hb hby dT2_4) rfl rfl ?_
    exact kt)
  obtain ⟨sa103, T103, h103, j103, X103, e103, E103, hS103, hk103, hZ, hown, st103⟩ := ldcS X101 hx hZ hown (hw _ (List.mem_of_getElem? (i := 27) rfl)) (own_wS hw) e101 hS0 hk0 (g := (mkF m 5 #[.val (.ref a1), .val (.ref a2), .val (.int p3), .val (.ref a4), .unset] [(.ref a2)])) rfl (hb hby dT2_5) (n := 16) (by decide) (by decide) (by decide) (by decide)
  have f104 := E1.ext E103
  have f105 := Fn.ext E103
  have f106 := Fp.ext E103
  have f107 := Fu.ext E103
  have f108 := E4.ext E103
  have f109 := V4.ext E103
  have sz103 : n0 ≤ h103.size := Nat.le_trans Z0 E103.1
  have K103 : Keep h0 h103 [a1] := K0.ext E103
  obtain ⟨_, _, ⟨T110, L110, k110, n110⟩, -, X110, ⟨Lc110, hQ110, l110, y110, z110⟩, st110⟩ := Jvm.LawKit.callS X103 hx (y := (⟨"java/util/Objects", "requireNonNull", "(Ljava/lang/Object;Ljava/lang/String;)Ljava/lang/Object;"⟩ : MethodName)) hown (mvT hZ (hw _ (List.mem_of_getElem? (i := 28) rfl))) (mvT hZ (hw _ (List.mem_of_getElem? (i := 29) rfl))) (mvT hZ (hw _ (List.mem_of_getElem? (i := 30) rfl))) (mvT hZ (hw _ (List.mem_of_getElem? (i := 31) rfl))) (by decide) (backOf (W := 0)  (rmNN l Z a0 hw [] a2 sa103 h103) hZ (hw _ (List.mem_of_getElem? (i := 31) rfl)) (hw _ (List.mem_of_getElem? (i := 30) rfl)) (by decide) (by decide)) (g := (mkF m 7 #[.val (.ref a1), .val (.ref a2), .val (.int p3), .val (.ref a4), .unset] [(.ref sa103), (.ref a2)])) rfl (by rw [hml]; rfl) (argsL := [(.ref a2), (.ref sa103)]) (rest := []) (lenOf pd__Ljava_lang_Object_Ljava_lang_String__Ljava_lang_Object_ rfl) rfl (by show 2 * 0 + _ ≤ _; exact Nat.le_of_eq rfl) (hb hby dT2_7) (fun _ _ => ⟨rfl, e103, (by decide : 2 + 0 ≤ _), (by decide : 20 + 0 ≤ _)⟩)
  dsimp only [Pt.U, Pt.locs, Pt.cells, Pt.slots] at X110 l110 y110 z110 st110 hQ110
  subst l110 y110 z110
  obtain ⟨rfl, rfl, e110⟩ := hQ110
  have N110 := Fr.app N101 (Fr.nil n0)
  have P111 : ∀ t, Steps p.tables e below (T110.setTop (mkF m 31 #[.val (.ref a1), .val (.ref a2), .val (.int p3), .val (.ref a4), .unset] [(.ref a4)])) t → Steps p.tables e below (s₁.setTop (entryFrame m #[(.ref a1), (.ref a2), (.int p3), (.ref a4)] 5)) t := fun t kt => P102 t (by
    show Steps p.tables e below (T101.setTop (mkF m 5 #[.val (.ref a1), .val (.ref a2), .val (.int p3), .val (.ref a4), .unset] [(.ref a2)])) _
    refine st103 _ ?_
    show Steps p.tables e below (T103.setTop (mkF m 7 #[.val (.ref a1), .val (.ref a2), .val (.int p3), .val (.ref a4), .unset] [(.ref sa103), (.ref a2)])) _
    refine st110 _ ?_
    show Steps p.tables e below (T110.setTop (mkF m 10 #[.val (.ref a1), .val (.ref a2), .val (.int p3), .val (.ref a4), .unset] [(.ref a2)])) _
    refine XS.pop X110.here hx rfl (hb hby dT2_10) rfl rfl ?_
    show Steps p.tables e below (T110.setTop (mkF m 11 #[.val (.ref a1), .val (.ref a2), .val (.int p3), .val (.ref a4), .unset] [])) _
    refine XS.iloadN X110.here hx rfl (hb hby dT2_11) rfl ?_
    show Steps p.tables e below (T110.setTop (mkF m 12 #[.val (.ref a1), .val (.ref a2), .val (.int p3), .val (.ref a4), .unset] [(.int p3)])) _
    refine XS.iconst X110.here hx rfl (hb hby dT2_12) ?_
    show Steps p.tables e below (T110.setTop (mkF m 13 #[.val (.ref a1), .val (.ref a2), .val (.int p3), .val (.ref a4), .unset] [(.int (1 : Int32)), (.int p3)])) _
    refine XS.icmpYes X110.here hx rfl (pc0 := 13) (pc' := 30) rfl (hb hby dT2_13) rfl (flt (hp : ¬ (p3 < (1 : Int32)))).2.1 (by decide) (by decide) ?_
    show Steps p.tables e below (T110.setTop (mkF m 30 #[.val (.ref a1), .val (.ref a2), .val (.int p3), .val (.ref a4), .unset] [])) _
    refine XS.aloadN X110.here hx rfl (hb hby dT2_30) rfl rfl ?_
    exact kt)
  obtain ⟨sa112, T112, h112, j112, X112, e112, E112, hS112, hk112, hZ, hown, st112⟩ := ldcS X110 hx hZ hown (hw _ (List.mem_of_getElem? (i := 32) rfl)) (own_wS hw) e110 hS103 hk103 (g := (mkF m 31 #[.val (.ref a1), .val (.ref a2), .val (.int p3), .val (.ref a4), .unset] [(.ref a4)])) rfl (hb hby dT2_31) (n := 44) (by decide) (by decide) (by decide) (by decide)
  have f113 := f104.ext E112
  have f114 := f105.ext E112
  have f115 := f106.ext E112
  have f116 := f107.ext E112
  have f117 := f108.ext E112
  have f118 := f109.ext E112
  have sz112 : n0 ≤ h112.size := Nat.le_trans sz103 E112.1
  have K112 : Keep h0 h112 [a1] := K103.ext E112
  obtain ⟨_, _, ⟨T119, L119, k119, n119⟩, -, X119, ⟨Lc119, hQ119, l119, y119, z119⟩, st119⟩ := Jvm.LawKit.callS X112 hx (y := (⟨"java/util/Objects", "requireNonNull", "(Ljava/lang/Object;Ljava/lang/String;)Ljava/lang/Object;"⟩ : MethodName)) hown (mvT hZ (hw _ (List.mem_of_getElem? (i := 28) rfl))) (mvT hZ (hw _ (List.mem_of_getElem? (i := 29) rfl))) (mvT hZ (hw _ (List.mem_of_getElem? (i := 30) rfl))) (mvT hZ (hw _ (List.mem_of_getElem? (i := 31) rfl))) (by decide) (backOf (W := 0)  (rmNN l Z a0 hw [] a4 sa112 h112) hZ (hw _ (List.mem_of_getElem? (i := 31) rfl)) (hw _ (List.mem_of_getElem? (i := 30) rfl)) (by decide) (by decide)) (g := (mkF m 33 #[.val (.ref a1), .val (.ref a2), .val (.int p3), .val (.ref a4), .unset] [(.ref sa112), (.ref a4)])) rfl (by rw [hml]; rfl) (argsL := [(.ref a4), (.ref sa112)]) (rest := []) (lenOf pd__Ljava_lang_Object_Ljava_lang_String__Ljava_lang_Object_ rfl) rfl (by show 2 * 0 + _ ≤ _; exact Nat.le_of_eq rfl) (hb hby dT2_33) (fun _ _ => ⟨rfl, e112, (by decide : 4 + 0 ≤ _), (by decide : 68 + 0 ≤ _)⟩)
  dsimp only [Pt.U, Pt.locs, Pt.cells, Pt.slots] at X119 l119 y119 z119 st119 hQ119
  subst l119 y119 z119
  obtain ⟨rfl, rfl, e119⟩ := hQ119
  have N119 := Fr.app N110 (Fr.nil n0)
  obtain ⟨T120, X120, e120, st120⟩ := castY X119 hx hZ hown (hw _ (List.mem_of_getElem? (i := 33) rfl)) e119 (Ins.self f117) (g := (mkF m 36 #[.val (.ref a1), .val (.ref a2), .val (.int p3), .val (.ref a4), .unset] [(.ref a4)])) rfl rfl (hb hby dT2_36)
  obtain ⟨T121, h121, X121, e121, E121, V121, A121, st121⟩ := cloneH X120 hx hZ hown (hw _ (List.mem_of_getElem? (i := 35) rfl)) (hw _ (List.mem_of_getElem? (i := 36) rfl)) (hw _ (List.mem_of_getElem? (i := 40) rfl)) (hw _ (List.mem_of_getElem? (i := 38) rfl)) (hw _ (List.mem_of_getElem? (i := 39) rfl)) (hw _ (List.mem_of_getElem? (i := 41) rfl)) e120 (hs := []) f118 f117 (g := (mkF m 39 #[.val (.ref a1), .val (.ref a2), .val (.int p3), .val (.ref a4), .unset] [(.ref a4)])) rfl (by rw [hml]; rfl) rfl (hb hby dT2_39) (by decide) (W := 0) (by show 2 * 0 + _ ≤ _; exact Nat.le_of_eq rfl) (by decide) (cap := 2) (by decide) (by decide) (by decide)
  obtain ⟨b121, g121⟩ : ∃ z, z = h112.size := ⟨_, rfl⟩
  rw [← g121] at A121 V121 st121
  have ne121_a1 : a1 ≠ b121 := Nat.ne_of_lt (Nat.lt_of_lt_of_le f113.lt (Nat.le_of_eq g121.symm))
  have ne121_a4 : a4 ≠ b121 := Nat.ne_of_lt (Nat.lt_of_lt_of_le f117.lt (Nat.le_of_eq g121.symm))
  have gb121 : n0 ≤ b121 := Nat.le_trans sz112 (Nat.le_of_eq g121.symm)
  have sz121 : n0 ≤ h121.size := Nat.le_trans sz112 E121.1
  have hk121 := Nat.le_trans hk112 E121.1
  have sb121 : h0.size ≤ b121 := Nat.le_trans K112.1 (Nat.le_of_eq g121.symm)
  have f122 := f113.ext E121
  have f123 := f114.ext E121
  have f124 := f115.ext E121
  have f125 := f116.ext E121
  have f126 := f117.ext E121
  have f127 := f118.ext E121
  have V121v : Arv Z h121 b121 k .int (2 : Int32) [(.int x1), (.int x0)] (.int (0 : Int32)) := V121
  have K121 : Keep h0 h121 [a1] := K112.ext E121
  obtain ⟨T128, X128, e128, st128⟩ := castY X121 hx hZ hown (hw _ (List.mem_of_getElem? (i := 33) rfl)) e121 (Ins.self A121) (g := (mkF m 42 #[.val (.ref a1), .val (.ref a2), .val (.int p3), .val (.ref a4), .unset] [(.ref b121)])) rfl rfl (hb hby dT2_42)
  obtain ⟨_, _, ⟨T129, L129, k129, n129⟩, -, X129, ⟨Lc129, hQ129, l129, y129, z129⟩, st129⟩ := Jvm.LawKit.callS X128 hx (y := (⟨"java/util/Arrays", "sort", "([I)V"⟩ : MethodName)) hown (mvT hZ (hw _ (List.mem_of_getElem? (i := 42) rfl))) (mvT hZ (hw _ (List.mem_of_getElem? (i := 43) rfl))) (mvT hZ (hw _ (List.mem_of_getElem? (i := 44) rfl))) (mvT hZ (hw _ (List.mem_of_getElem? (i := 45) rfl))) (by decide) (backOf (W := 0)  (rmAS2 l Z a0 hw [] b121 k x0 x1 h121 n0 sz121 V121v gb121 h01) hZ (hw _ (List.mem_of_getElem? (i := 45) rfl)) (hw _ (List.mem_of_getElem? (i := 44) rfl)) (by decide) (by decide)) (g := (mkF m 47 #[.val (.ref a1), .val (.ref a2), .val (.int p3), .val (.ref b121), .unset] [(.ref b121)])) rfl (by rw [hml]; rfl) (argsL := [(.ref b121)]) (rest := []) (lenOf pd___I_V rfl) rfl (by show 2 * 0 + _ ≤ _; exact Nat.le_of_eq rfl) (hb hby dT2_47) (fun _ _ => ⟨rfl, e128, (by decide : 5 + 0 ≤ _), (by decide : 70 + 0 ≤ _)⟩)
  dsimp only [Pt.U, Pt.locs, Pt.cells, Pt.slots] at X129 l129 y129 z129 st129 hQ129
  subst l129 y129 z129
  obtain ⟨rfl, Nq129, K129x, V129x⟩ := hQ129
  have N129 := Fr.app N119 Nq129
  have sz129 : n0 ≤ T129.heap.size := Nat.le_trans sz121 K129x.1
  have hk129 := Nat.le_trans hk121 K129x.1
  have f130 := f122.keep K129x
  have f131 := f123.keep K129x (own_nm ne121_a1)
  have f132 := f124.keep K129x (own_nm ne121_a1)
  have f133 := f125.keep K129x (own_nm ne121_a1)
  have f134 := f126.keep K129x
  have f135 := f127.keep K129x (own_nm ne121_a4)
  have f136 := A121.keep K129x
  have K129 : Keep h0 T129.heap [a1] := K121.trans K129x (fun x hx => by cases List.mem_singleton.mp hx; exact Or.inr sb121)
  obtain ⟨cl137, Ar137, q137, S137, Nn137, H137, G137⟩ := id V129x
  have P138 : ∀ t, Steps p.tables e below (T129.setTop (mkF m 62 #[.val (.ref a1), .val (.ref a2), .val (.int p3), .val (.ref b121), .val (.int (0 : Int32))] [(.int p3), (.ref a2)])) t → Steps p.tables e below (s₁.setTop (entryFrame m #[(.ref a1), (.ref a2), (.int p3), (.ref a4)] 5)) t := fun t kt => P111 t (by
    show Steps p.tables e below (T110.setTop (mkF m 31 #[.val (.ref a1), .val (.ref a2), .val (.int p3), .val (.ref a4), .unset] [(.ref a4)])) _
    refine st112 _ ?_
    show Steps p.tables e below (T112.setTop (mkF m 33 #[.val (.ref a1), .val (.ref a2), .val (.int p3), .val (.ref a4), .unset] [(.ref sa112), (.ref a4)])) _
    refine st119 _ ?_
    show Steps p.tables e below (T119.setTop (mkF m 36 #[.val (.ref a1), .val (.ref a2), .val (.int p3), .val (.ref a4), .unset] [(.ref a4)])) _
    refine st120 _ ?_
    show Steps p.tables e below (T120.setTop (mkF m 39 #[.val (.ref a1), .val (.ref a2), .val (.int p3), .val (.ref a4), .unset] [(.ref a4)])) _
    refine st121 _ ?_
    show Steps p.tables e below (T121.setTop (mkF m 42 #[.val (.ref a1), .val (.ref a2), .val (.int p3), .val (.ref a4), .unset] [(.ref b121)])) _
    refine st128 _ ?_
    show Steps p.tables e below (T128.setTop (mkF m 45 #[.val (.ref a1), .val (.ref a2), .val (.int p3), .val (.ref a4), .unset] [(.ref b121)])) _
    refine XS.astoreN X128.here hx rfl (hb hby dT2_45) rfl rfl (l' := #[.val (.ref a1), .val (.ref a2), .val (.int p3), .val (.ref b121), .unset]) rfl ?_
    show Steps p.tables e below (T128.setTop (mkF m 46 #[.val (.ref a1), .val (.ref a2), .val (.int p3), .val (.ref b121), .unset] [])) _
    refine XS.aloadN X128.here hx rfl (hb hby dT2_46) rfl rfl ?_
    show Steps p.tables e below (T128.setTop (mkF m 47 #[.val (.ref a1), .val (.ref a2), .val (.int p3), .val (.ref b121), .unset] [(.ref b121)])) _
    refine st129 _ ?_
    show Steps p.tables e below (T129.setTop (mkF m 50 #[.val (.ref a1), .val (.ref a2), .val (.int p3), .val (.ref b121), .unset] [])) _
    refine XS.iconst X129.here hx rfl (hb hby dT2_50) ?_
    show Steps p.tables e below (T129.setTop (mkF m 51 #[.val (.ref a1), .val (.ref a2), .val (.int p3), .val (.ref b121), .unset] [(.int (0 : Int32))])) _
    refine XS.istore X129.here hx rfl (hb hby dT2_51) rfl (l' := #[.val (.ref a1), .val (.ref a2), .val (.int p3), .val (.ref b121), .val (.int (0 : Int32))]) rfl ?_
    show Steps p.tables e below (T129.setTop (mkF m 53 #[.val (.ref a1), .val (.ref a2), .val (.int p3), .val (.ref b121), .val (.int (0 : Int32))] [])) _
    refine XS.iload X129.here hx rfl (hb hby dT2_53) rfl ?_
    show Steps p.tables e below (T129.setTop (mkF m 55 #[.val (.ref a1), .val (.ref a2), .val (.int p3), .val (.ref b121), .val (.int (0 : Int32))] [(.int (0 : Int32))])) _
    refine XS.aloadN X129.here hx rfl (hb hby dT2_55) rfl rfl ?_
    show Steps p.tables e below (T129.setTop (mkF m 56 #[.val (.ref a1), .val (.ref a2), .val (.int p3), .val (.ref b121), .val (.int (0 : Int32))] [(.ref b121), (.int (0 : Int32))])) _
    refine X129.arraylength hx Ar137.1 (State.isArrayOf_alike hZ.alike Ar137.2.1) (g := (mkF m 56 #[.val (.ref a1), .val (.ref a2), .val (.int p3), .val (.ref b121), .val (.int (0 : Int32))] [(.ref b121), (.int (0 : Int32))])) rfl rfl (hb hby dT2_56) _ ?_
    rw [len_of S137 Nn137]
    show Steps p.tables e below (T129.setTop (mkF m 57 #[.val (.ref a1), .val (.ref a2), .val (.int p3), .val (.ref b121), .val (.int (0 : Int32))] [(.int (2 : Int32)), (.int (0 : Int32))])) _
    refine XS.icmpNo X129.here hx rfl (hb hby dT2_57) rfl (tlt ((by decide) : (0 : Int32) < (2 : Int32))).2.1 ?_
    show Steps p.tables e below (T129.setTop (mkF m 60 #[.val (.ref a1), .val (.ref a2), .val (.int p3), .val (.ref b121), .val (.int (0 : Int32))] [])) _
    refine XS.aloadN X129.here hx rfl (hb hby dT2_60) rfl rfl ?_
    show Steps p.tables e below (T129.setTop (mkF m 61 #[.val (.ref a1), .val (.ref a2), .val (.int p3), .val (.ref b121), .val (.int (0 : Int32))] [(.ref a2)])) _
    refine XS.iloadN X129.here hx rfl (hb hby dT2_61) rfl ?_
    exact kt)
  obtain ⟨sa139, T139, h139, j139, X139, e139, E139, hS139, hk139, hZ, hown, st139⟩ := ldcS X129 hx hZ hown (hw _ (List.mem_of_getElem? (i := 81) rfl)) (own_wS hw) rfl hS112 hk129 (g := (mkF m 62 #[.val (.ref a1), .val (.ref a2), .val (.int p3), .val (.ref b121), .val (.int (0 : Int32))] [(.int p3), (.ref a2)])) rfl (hb hby dT2_62) (n := 84) (by decide) (by decide) (by decide) (by decide)
  have f140 := f130.ext E139
  have f141 := f131.ext E139
  have f142 := f132.ext E139
  have f143 := f133.ext E139
  have f144 := f134.ext E139
  have f145 := f135.ext E139
  have f146 := f136.ext E139
  have f147 := V129x.ext E139
  have sz139 : n0 ≤ h139.size := Nat.le_trans sz129 E139.1
  have K139 : Keep h0 h139 [a1] := K129.ext E139
  obtain ⟨cl148, Ar148, q148, S148, Nn148, H148, G148⟩ := id f147
  obtain ⟨_, _, ⟨T149, L149, k149, n149⟩, -, X149, ⟨Lc149, hQ149, l149, y149, z149⟩, st149⟩ := Jvm.LawKit.callS X139 hx (y := (⟨"com/example/allot/allot/partition/Topic", "requireOneOf", "(Ljava/lang/String;ILjava/lang/String;I)V"⟩ : MethodName)) hown (mvT hZ (hw _ (List.mem_of_getElem? (i := 82) rfl))) (mvT hZ (hw _ (List.mem_of_getElem? (i := 83) rfl))) (mvT hZ (hw _ (List.mem_of_getElem? (i := 7) rfl))) (mvT hZ (hw _ (List.mem_of_getElem? (i := 84) rfl))) (by decide) (backOf (W := 0)  (rmRO l Z a0 hw [] a2 p3 sa139 x0 h139 hx0 hy0) hZ (hw _ (List.mem_of_getElem? (i := 84) rfl)) (hw _ (List.mem_of_getElem? (i := 7) rfl)) (by decide) (by decide)) (g := (mkF m 68 #[.val (.ref a1), .val (.ref a2), .val (.int p3), .val (.ref b121), .val (.int (0 : Int32))] [(.int x0), (.ref sa139), (.int p3), (.ref a2)])) rfl (by rw [hml]; rfl) (argsL := [(.ref a2), (.int p3), (.ref sa139), (.int x0)]) (rest := []) (lenOf pd__Ljava_lang_String_ILjava_lang_String_I_V rfl) rfl (by show 2 * 0 + _ ≤ _; exact Nat.le_of_eq rfl) (hb hby dT2_68) (fun _ _ => ⟨rfl, e139, (by decide : 7 + 0 ≤ _), (by decide : 158 + 0 ≤ _)⟩)
  dsimp only [Pt.U, Pt.locs, Pt.cells, Pt.slots] at X149 l149 y149 z149 st149 hQ149
  subst l149 y149 z149
  obtain ⟨rfl, rfl, e149⟩ := hQ149
  have N149 := Fr.app N129 (Fr.nil n0)
  obtain ⟨cl150, Ar150, q150, S150, Nn150, H150, G150⟩ := id f147
  have P151 : ∀ t, Steps p.tables e below (T149.setTop (mkF m 62 #[.val (.ref a1), .val (.ref a2), .val (.int p3), .val (.ref b121), .val (.int (1 : Int32))] [(.int p3), (.ref a2)])) t → Steps p.tables e below (s₁.setTop (entryFrame m #[(.ref a1), (.ref a2), (.int p3), (.ref a4)] 5)) t := fun t kt => P138 t (by
    show Steps p.tables e below (T129.setTop (mkF m 62 #[.val (.ref a1), .val (.ref a2), .val (.int p3), .val (.ref b121), .val (.int (0 : Int32))] [(.int p3), (.ref a2)])) _
    refine st139 _ ?_
    show Steps p.tables e below (T139.setTop (mkF m 64 #[.val (.ref a1), .val (.ref a2), .val (.int p3), .val (.ref b121), .val (.int (0 : Int32))] [(.ref sa139), (.int p3), (.ref a2)])) _
    refine XS.aloadN X139.here hx rfl (hb hby dT2_64) rfl rfl ?_
    show Steps p.tables e below (T139.setTop (mkF m 65 #[.val (.ref a1), .val (.ref a2), .val (.int p3), .val (.ref b121), .val (.int (0 : Int32))] [(.ref b121), (.ref sa139), (.int p3), (.ref a2)])) _
    refine XS.iload X139.here hx rfl (hb hby dT2_65) rfl ?_
    show Steps p.tables e below (T139.setTop (mkF m 67 #[.val (.ref a1), .val (.ref a2), .val (.int p3), .val (.ref b121), .val (.int (0 : Int32))] [(.int (0 : Int32)), (.ref b121), (.ref sa139), (.int p3), (.ref a2)])) _
    refine X139.iaload hx (j := (0 : Int32)) (v := (.int x0)) (by rw [e139]; exact Ar148.1) (State.isArrayOf_alike hZ.alike Ar148.2.1) Ar148.2.2 (inb_of S148 ⟨by decide, by decide⟩) (H148 0 (by rw [S148]; decide)) (g := (mkF m 67 #[.val (.ref a1), .val (.ref a2), .val (.int p3), .val (.ref b121), .val (.int (0 : Int32))] [(.int (0 : Int32)), (.ref b121), (.ref sa139), (.int p3), (.ref a2)])) rfl rfl (hb hby dT2_67) _ ?_
    show Steps p.tables e below (T139.setTop (mkF m 68 #[.val (.ref a1), .val (.ref a2), .val (.int p3), .val (.ref b121), .val (.int (0 : Int32))] [(.int x0), (.ref sa139), (.int p3), (.ref a2)])) _
    refine st149 _ ?_
    show Steps p.tables e below (T149.setTop (mkF m 71 #[.val (.ref a1), .val (.ref a2), .val (.int p3), .val (.ref b121), .val (.int (0 : Int32))] [])) _
    refine XS.iload X149.here hx rfl (hb hby dT2_71) rfl ?_
    show Steps p.tables e below (T149.setTop (mkF m 73 #[.val (.ref a1), .val (.ref a2), .val (.int p3), .val (.ref b121), .val (.int (0 : Int32))] [(.int (0 : Int32))])) _
    refine XS.ifYes X149.here hx rfl (pc0 := 73) (pc' := 106) rfl (hb hby dT2_73) rfl ((if0 _ _).trans (flt ((by decide) : ¬ ((0 : Int32) < (0 : Int32)))).2.2.2) (by decide) (by decide) ?_
    show Steps p.tables e below (T149.setTop (mkF m 106 #[.val (.ref a1), .val (.ref a2), .val (.int p3), .val (.ref b121), .val (.int (0 : Int32))] [])) _
    refine XS.iinc X149.here hx rfl (hb hby dT2_106) rfl (l' := #[.val (.ref a1), .val (.ref a2), .val (.int p3), .val (.ref b121), .val (.int (1 : Int32))]) rfl ?_
    show Steps p.tables e below (T149.setTop (mkF m 109 #[.val (.ref a1), .val (.ref a2), .val (.int p3), .val (.ref b121), .val (.int (1 : Int32))] [])) _
    refine XS.goto X149.here hx rfl (pc0 := 109) (pc' := 53) rfl (hb hby dT2_109) (by decide) (by decide) ?_
    show Steps p.tables e below (T149.setTop (mkF m 53 #[.val (.ref a1), .val (.ref a2), .val (.int p3), .val (.ref b121), .val (.int (1 : Int32))] [])) _
    refine XS.iload X149.here hx rfl (hb hby dT2_53) rfl ?_
    show Steps p.tables e below (T149.setTop (mkF m 55 #[.val (.ref a1), .val (.ref a2), .val (.int p3), .val (.ref b121), .val (.int (1 : Int32))] [(.int (1 : Int32))])) _
    refine XS.aloadN X149.here hx rfl (hb hby dT2_55) rfl rfl ?_
    show Steps p.tables e below (T149.setTop (mkF m 56 #[.val (.ref a1), .val (.ref a2), .val (.int p3), .val (.ref b121), .val (.int (1 : Int32))] [(.ref b121), (.int (1 : Int32))])) _
    refine X149.arraylength hx (by rw [e149]; exact Ar150.1) (State.isArrayOf_alike hZ.alike Ar150.2.1) (g := (mkF m 56 #[.val (.ref a1), .val (.ref a2), .val (.int p3), .val (.ref b121), .val (.int (1 : Int32))] [(.ref b121), (.int (1 : Int32))])) rfl rfl (hb hby dT2_56) _ ?_
    rw [len_of S150 Nn150]
    show Steps p.tables e below (T149.setTop (mkF m 57 #[.val (.ref a1), .val (.ref a2), .val (.int p3), .val (.ref b121), .val (.int (1 : Int32))] [(.int (2 : Int32)), (.int (1 : Int32))])) _
    refine XS.icmpNo X149.here hx rfl (hb hby dT2_57) rfl (tlt ((by decide) : (1 : Int32) < (2 : Int32))).2.1 ?_
    show Steps p.tables e below (T149.setTop (mkF m 60 #[.val (.ref a1), .val (.ref a2), .val (.int p3), .val (.ref b121), .val (.int (1 : Int32))] [])) _
    refine XS.aloadN X149.here hx rfl (hb hby dT2_60) rfl rfl ?_
    show Steps p.tables e below (T149.setTop (mkF m 61 #[.val (.ref a1), .val (.ref a2), .val (.int p3), .val (.ref b121), .val (.int (1 : Int32))] [(.ref a2)])) _
    refine XS.iloadN X149.here hx rfl (hb hby dT2_61) rfl ?_
    exact kt)
  obtain ⟨sa152, T152, h152, j152, X152, e152, E152, hS152, hk152, hZ, hown, st152⟩ := ldcS X149 hx hZ hown (hw _ (List.mem_of_getElem? (i := 81) rfl)) (own_wS hw) e149 hS139 hk139 (g := (mkF m 62 #[.val (.ref a1), .val (.ref a2), .val (.int p3), .val (.ref b121), .val (.int (1 : Int32))] [(.int p3), (.ref a2)])) rfl (hb hby dT2_62) (n := 84) (by decide) (by decide) (by decide) (by decide)
  have f153 := f140.ext E152
  have f154 := f141.ext E152
  have f155 := f142.ext E152
  have f156 := f143.ext E152
  have f157 := f144.ext E152
  have f158 := f145.ext E152
  have f159 := f146.ext E152
  have f160 := f147.ext E152
  have sz152 : n0 ≤ h152.size := Nat.le_trans sz139 E152.1
  have K152 : Keep h0 h152 [a1] := K139.ext E152
  obtain ⟨cl161, Ar161, q161, S161, Nn161, H161, G161⟩ := id f160
  obtain ⟨_, _, ⟨T162, L162, k162, n162⟩, -, X162, ⟨Lc162, hQ162, l162, y162, z162⟩, st162⟩ := Jvm.LawKit.callS X152 hx (y := (⟨"com/example/allot/allot/partition/Topic", "requireOneOf", "(Ljava/lang/String;ILjava/lang/String;I)V"⟩ : MethodName)) hown (mvT hZ (hw _ (List.mem_of_getElem? (i := 82) rfl))) (mvT hZ (hw _ (List.mem_of_getElem? (i := 83) rfl))) (mvT hZ (hw _ (List.mem_of_getElem? (i := 7) rfl))) (mvT hZ (hw _ (List.mem_of_getElem? (i := 84) rfl))) (by decide) (backOf (W := 0)  (rmRO l Z a0 hw [] a2 p3 sa152 x1 h152 hx1 hy1) hZ (hw _ (List.mem_of_getElem? (i := 84) rfl)) (hw _ (List.mem_of_getElem? (i := 7) rfl)) (by decide) (by decide)) (g := (mkF m 68 #[.val (.ref a1), .val (.ref a2), .val (.int p3), .val (.ref b121), .val (.int (1 : Int32))] [(.int x1), (.ref sa152), (.int p3), (.ref a2)])) rfl (by rw [hml]; rfl) (argsL := [(.ref a2), (.int p3), (.ref sa152), (.int x1)]) (rest := []) (lenOf pd__Ljava_lang_String_ILjava_lang_String_I_V rfl) rfl (by show 2 * 0 + _ ≤ _; exact Nat.le_of_eq rfl) (hb hby dT2_68) (fun _ _ => ⟨rfl, e152, (by decide : 9 + 0 ≤ _), (by decide : 246 + 0 ≤ _)⟩)
  dsimp only [Pt.U, Pt.locs, Pt.cells, Pt.slots] at X162 l162 y162 z162 st162 hQ162
  subst l162 y162 z162
  obtain ⟨rfl, rfl, e162⟩ := hQ162
  have N162 := Fr.app N149 (Fr.nil n0)
  obtain ⟨cl163, Ar163, q163, S163, Nn163, H163, G163⟩ := id f160
  obtain ⟨cl164, Ar164, q164, S164, Nn164, H164, G164⟩ := id f160
  obtain ⟨cl165, Ar165, q165, S165, Nn165, H165, G165⟩ := id f160
  obtain ⟨T166, h166, X166, e166, W166, st166⟩ := putF X162 hx hZ hown (host := "") (Or.inl (hw _ (List.mem_of_getElem? (i := 56) rfl))) Via.refl e162 f154 f153 (Or.inr ⟨(hw _ (List.mem_of_getElem? (i := 57) rfl)), rfl, hnm⟩) (hw _ (List.mem_of_getElem? (i := 6) rfl)) (ty := (.object "java/lang/String")) (by decide) rfl rfl (g := (mkF m 114 #[.val (.ref a1), .val (.ref a2), .val (.int p3), .val (.ref b121), .val (.int (2 : Int32))] [(.ref a2), (.ref a1)])) rfl rfl (hb hby dT2_114)
  have f167 := f153.wr W166
  have f168 := f155.other W166 (Or.inr (slot_ne (Or.inr (hw _ (List.mem_of_getElem? (i := 59) rfl))) (Or.inr (hw _ (List.mem_of_getElem? (i := 57) rfl))) (by decide) (t := .int) (t' := (.object "java/lang/String")) (by decide) (by decide)))
  have f169 := f156.other W166 (Or.inr (slot_ne (Or.inr (hw _ (List.mem_of_getElem? (i := 61) rfl))) (Or.inr (hw _ (List.mem_of_getElem? (i := 57) rfl))) (by decide) (t := (.array .int)) (t' := (.object "java/lang/String")) (by decide) (by decide)))
  have f170 := f157.wr W166
  have f171 := f158.other W166 (Ne.symm h14)
  have f172 := f159.wr W166
  have f173 := f160.other W166 (Ne.symm ne121_a1)
  have F166 := f154.same W166
  have N166 := Fr.snoc X166 N162 ga
  have sz166 : n0 ≤ h166.size := Nat.le_trans sz152 (Keep.of_wr W166).1
  have hk166 := Nat.le_trans hk152 (Keep.of_wr W166).1
  have K166 : Keep h0 h166 [a1] := K152.wr W166 (Or.inl (List.mem_of_getElem? (i := 0) rfl))
  obtain ⟨T174, h174, X174, e174, W174, st174⟩ := putF X166 hx hZ hown (host := "") (Or.inl (hw _ (List.mem_of_getElem? (i := 58) rfl))) Via.refl e166 f168 f167 (Or.inr ⟨(hw _ (List.mem_of_getElem? (i := 59) rfl)), rfl, hnm⟩) (hw _ (List.mem_of_getElem? (i := 6) rfl)) (ty := .int) (by decide) rfl rfl (g := (mkF m 119 #[.val (.ref a1), .val (.ref a2), .val (.int p3), .val (.ref b121), .val (.int (2 : Int32))] [(.int p3), (.ref a1)])) rfl rfl (hb hby dT2_119)
  have f175 := f167.wr W174
  have f176 := f169.other W174 (Or.inr (slot_ne (Or.inr (hw _ (List.mem_of_getElem? (i := 61) rfl))) (Or.inr (hw _ (List.mem_of_getElem? (i := 59) rfl))) (by decide) (t := (.array .int)) (t' := .int) (by decide) (by decide)))
  have f177 := f170.wr W174
  have f178 := f171.other W174 (Ne.symm h14)
  have f179 := f172.wr W174
  have f180 := f173.other W174 (Ne.symm ne121_a1)
  have f181 := F166.other W174 (Or.inr (slot_ne (Or.inr (hw _ (List.mem_of_getElem? (i := 57) rfl))) (Or.inr (hw _ (List.mem_of_getElem? (i := 59) rfl))) (by decide) (t := (.object "java/lang/String")) (t' := .int) (by decide) (by decide)))
  have F174 := f168.same W174
  have N174 := Fr.snoc X174 N166 ga
  have sz174 : n0 ≤ h174.size := Nat.le_trans sz166 (Keep.of_wr W174).1
  have hk174 := Nat.le_trans hk166 (Keep.of_wr W174).1
  have K174 : Keep h0 h174 [a1] := K166.wr W174 (Or.inl (List.mem_of_getElem? (i := 0) rfl))
  obtain ⟨T182, h182, X182, e182, W182, st182⟩ := putF X174 hx hZ hown (host := "") (Or.inl (hw _ (List.mem_of_getElem? (i := 60) rfl))) Via.refl e174 f176 f175 (Or.inr ⟨(hw _ (List.mem_of_getElem? (i := 61) rfl)), rfl, hnm⟩) (hw _ (List.mem_of_getElem? (i := 6) rfl)) (ty := (.array .int)) (by decide) rfl rfl (g := (mkF m 124 #[.val (.ref a1), .val (.ref a2), .val (.int p3), .val (.ref b121), .val (.int (2 : Int32))] [(.ref b121), (.ref a1)])) rfl rfl (hb hby dT2_124)
  have f183 := f175.wr W182
  have f184 := f177.wr W182
  have f185 := f178.other W182 (Ne.symm h14)
  have f186 := f179.wr W182
  have f187 := f180.other W182 (Ne.symm ne121_a1)
  have f188 := f181.other W182 (Or.inr (slot_ne (Or.inr (hw _ (List.mem_of_getElem? (i := 57) rfl))) (Or.inr (hw _ (List.mem_of_getElem? (i := 61) rfl))) (by decide) (t := (.object "java/lang/String")) (t' := (.array .int)) (by decide) (by decide)))
  have f189 := F174.other W182 (Or.inr (slot_ne (Or.inr (hw _ (List.mem_of_getElem? (i := 59) rfl))) (Or.inr (hw _ (List.mem_of_getElem? (i := 61) rfl))) (by decide) (t := .int) (t' := (.array .int)) (by decide) (by decide)))
  have F182 := f176.same W182
  have N182 := Fr.snoc X182 N174 ga
  have sz182 : n0 ≤ h182.size := Nat.le_trans sz174 (Keep.of_wr W182).1
  have hk182 := Nat.le_trans hk174 (Keep.of_wr W182).1
  have K182 : Keep h0 h182 [a1] := K174.wr W182 (Or.inl (List.mem_of_getElem? (i := 0) rfl))
  have P190 : ∀ t, Steps p.tables e below (T182.setTop (mkF m 127 #[.val (.ref a1), .val (.ref a2), .val (.int p3), .val (.ref b121), .val (.int (2 : Int32))] [])) t → Steps p.tables e below (s₁.setTop (entryFrame m #[(.ref a1), (.ref a2), (.int p3), (.ref a4)] 5)) t := fun t kt => P151 t (by
    show Steps p.tables e below (T149.setTop (mkF m 62 #[.val (.ref a1), .val (.ref a2), .val (.int p3), .val (.ref b121), .val (.int (1 : Int32))] [(.int p3), (.ref a2)])) _
    refine st152 _ ?_
    show Steps p.tables e below (T152.setTop (mkF m 64 #[.val (.ref a1), .val (.ref a2), .val (.int p3), .val (.ref b121), .val (.int (1 : Int32))] [(.ref sa152), (.int p3), (.ref a2)])) _
    refine XS.aloadN X152.here hx rfl (hb hby dT2_64) rfl rfl ?_
    show Steps p.tables e below (T152.setTop (mkF m 65 #[.val (.ref a1), .val (.ref a2), .val (.int p3), .val (.ref b121), .val (.int (1 : Int32))] [(.ref b121), (.ref sa152), (.int p3), (.ref a2)])) _
    refine XS.iload X152.here hx rfl (hb hby dT2_65) rfl ?_
    show Steps p.tables e below (T152.setTop (mkF m 67 #[.val (.ref a1), .val (.ref a2), .val (.int p3), .val (.ref b121), .val (.int (1 : Int32))] [(.int (1 : Int32)), (.ref b121), (.ref sa152), (.int p3), (.ref a2)])) _
    refine X152.iaload hx (j := (1 : Int32)) (v := (.int x1)) (by rw [e152]; exact Ar161.1) (State.isArrayOf_alike hZ.alike Ar161.2.1) Ar161.2.2 (inb_of S161 ⟨by decide, by decide⟩) (H161 1 (by rw [S161]; decide)) (g := (mkF m 67 #[.val (.ref a1), .val (.ref a2), .val (.int p3), .val (.ref b121), .val (.int (1 : Int32))] [(.int (1 : Int32)), (.ref b121), (.ref sa152), (.int p3), (.ref a2)])) rfl rfl (hb hby dT2_67) _ ?_
    show Steps p.tables e below (T152.setTop (mkF m 68 #[.val (.ref a1), .val (.ref a2), .val (.int p3), .val (.ref b121), .val (.int (1 : Int32))] [(.int x1), (.ref sa152), (.int p3), (.ref a2)])) _
    refine st162 _ ?_
    show Steps p.tables e below (T162.setTop (mkF m 71 #[.val (.ref a1), .val (.ref a2), .val (.int p3), .val (.ref b121), .val (.int (1 : Int32))] [])) _
    refine XS.iload X162.here hx rfl (hb hby dT2_71) rfl ?_
    show Steps p.tables e below (T162.setTop (mkF m 73 #[.val (.ref a1), .val (.ref a2), .val (.int p3), .val (.ref b121), .val (.int (1 : Int32))] [(.int (1 : Int32))])) _
    refine XS.ifNo X162.here hx rfl (hb hby dT2_73) rfl ((if0 _ _).trans (tlt ((by decide) : (0 : Int32) < (1 : Int32))).2.2.2) ?_
    show Steps p.tables e below (T162.setTop (mkF m 76 #[.val (.ref a1), .val (.ref a2), .val (.int p3), .val (.ref b121), .val (.int (1 : Int32))] [])) _
    refine XS.aloadN X162.here hx rfl (hb hby dT2_76) rfl rfl ?_
    show Steps p.tables e below (T162.setTop (mkF m 77 #[.val (.ref a1), .val (.ref a2), .val (.int p3), .val (.ref b121), .val (.int (1 : Int32))] [(.ref b121)])) _
    refine XS.iload X162.here hx rfl (hb hby dT2_77) rfl ?_
    show Steps p.tables e below (T162.setTop (mkF m 79 #[.val (.ref a1), .val (.ref a2), .val (.int p3), .val (.ref b121), .val (.int (1 : Int32))] [(.int (1 : Int32)), (.ref b121)])) _
    refine X162.iaload hx (j := (1 : Int32)) (v := (.int x1)) (by rw [e162]; exact Ar163.1) (State.isArrayOf_alike hZ.alike Ar163.2.1) Ar163.2.2 (inb_of S163 ⟨by decide, by decide⟩) (H163 1 (by rw [S163]; decide)) (g := (mkF m 79 #[.val (.ref a1), .val (.ref a2), .val (.int p3), .val (.ref b121), .val (.int (1 : Int32))] [(.int (1 : Int32)), (.ref b121)])) rfl rfl (hb hby dT2_79) _ ?_
    show Steps p.tables e below (T162.setTop (mkF m 80 #[.val (.ref a1), .val (.ref a2), .val (.int p3), .val (.ref b121), .val (.int (1 : Int32))] [(.int x1)])) _
    refine XS.aloadN X162.here hx rfl (hb hby dT2_80) rfl rfl ?_
    show Steps p.tables e below (T162.setTop (mkF m 81 #[.val (.ref a1), .val (.ref a2), .val (.int p3), .val (.ref b121), .val (.int (1 : Int32))] [(.ref b121), (.int x1)])) _
    refine XS.iload X162.here hx rfl (hb hby dT2_81) rfl ?_
    show Steps p.tables e below (T162.setTop (mkF m 83 #[.val (.ref a1), .val (.ref a2), .val (.int p3), .val (.ref b121), .val (.int (1 : Int32))] [(.int (1 : Int32)), (.ref b121), (.int x1)])) _
    refine XS.iconst X162.here hx rfl (hb hby dT2_83) ?_
    show Steps p.tables e below (T162.setTop (mkF m 84 #[.val (.ref a1), .val (.ref a2), .val (.int p3), .val (.ref b121), .val (.int (1 : Int32))] [(.int (1 : Int32)), (.int (1 : Int32)), (.ref b121), (.int x1)])) _
    refine XS.isub X162.here hx rfl (hb hby dT2_84) rfl ?_
    show Steps p.tables e below (T162.setTop (mkF m 85 #[.val (.ref a1), .val (.ref a2), .val (.int p3), .val (.ref b121), .val (.int (1 : Int32))] [(.int (0 : Int32)), (.ref b121), (.int x1)])) _
    refine X162.iaload hx (j := (0 : Int32)) (v := (.int x0)) (by rw [e162]; exact Ar164.1) (State.isArrayOf_alike hZ.alike Ar164.2.1) Ar164.2.2 (inb_of S164 ⟨by decide, by decide⟩) (H164 0 (by rw [S164]; decide)) (g := (mkF m 85 #[.val (.ref a1), .val (.ref a2), .val (.int p3), .val (.ref b121), .val (.int (1 : Int32))] [(.int (0 : Int32)), (.ref b121), (.int x1)])) rfl rfl (hb hby dT2_85) _ ?_
    show Steps p.tables e below (T162.setTop (mkF m 86 #[.val (.ref a1), .val (.ref a2), .val (.int p3), .val (.ref b121), .val (.int (1 : Int32))] [(.int x0), (.int x1)])) _
    refine XS.icmpYes X162.here hx rfl (pc0 := 86) (pc' := 106) rfl (hb hby dT2_86) rfl (feq (fun q => Int32.lt_irrefl (q ▸ h01) : ¬ (x1 = x0))).2 (by decide) (by decide) ?_
    show Steps p.tables e below (T162.setTop (mkF m 106 #[.val (.ref a1), .val (.ref a2), .val (.int p3), .val (.ref b121), .val (.int (1 : Int32))] [])) _
    refine XS.iinc X162.here hx rfl (hb hby dT2_106) rfl (l' := #[.val (.ref a1), .val (.ref a2), .val (.int p3), .val (.ref b121), .val (.int (2 : Int32))]) rfl ?_
    show Steps p.tables e below (T162.setTop (mkF m 109 #[.val (.ref a1), .val (.ref a2), .val (.int p3), .val (.ref b121), .val (.int (2 : Int32))] [])) _
    refine XS.goto X162.here hx rfl (pc0 := 109) (pc' := 53) rfl (hb hby dT2_109) (by decide) (by decide) ?_
    show Steps p.tables e below (T162.setTop (mkF m 53 #[.val (.ref a1), .val (.ref a2), .val (.int p3), .val (.ref b121), .val (.int (2 : Int32))] [])) _
    refine XS.iload X162.here hx rfl (hb hby dT2_53) rfl ?_
    show Steps p.tables e below (T162.setTop (mkF m 55 #[.val (.ref a1), .val (.ref a2), .val (.int p3), .val (.ref b121), .val (.int (2 : Int32))] [(.int (2 : Int32))])) _
    refine XS.aloadN X162.here hx rfl (hb hby dT2_55) rfl rfl ?_
    show Steps p.tables e below (T162.setTop (mkF m 56 #[.val (.ref a1), .val (.ref a2), .val (.int p3), .val (.ref b121), .val (.int (2 : Int32))] [(.ref b121), (.int (2 : Int32))])) _
    refine X162.arraylength hx (by rw [e162]; exact Ar165.1) (State.isArrayOf_alike hZ.alike Ar165.2.1) (g := (mkF m 56 #[.val (.ref a1), .val (.ref a2), .val (.int p3), .val (.ref b121), .val (.int (2 : Int32))] [(.ref b121), (.int (2 : Int32))])) rfl rfl (hb hby dT2_56) _ ?_
    rw [len_of S165 Nn165]
    show Steps p.tables e below (T162.setTop (mkF m 57 #[.val (.ref a1), .val (.ref a2), .val (.int p3), .val (.ref b121), .val (.int (2 : Int32))] [(.int (2 : Int32)), (.int (2 : Int32))])) _
    refine XS.icmpYes X162.here hx rfl (pc0 := 57) (pc' := 112) rfl (hb hby dT2_57) rfl (flt ((by decide) : ¬ ((2 : Int32) < (2 : Int32)))).2.1 (by decide) (by decide) ?_
    show Steps p.tables e below (T162.setTop (mkF m 112 #[.val (.ref a1), .val (.ref a2), .val (.int p3), .val (.ref b121), .val (.int (2 : Int32))] [])) _
    refine XS.aloadN X162.here hx rfl (hb hby dT2_112) rfl rfl ?_
    show Steps p.tables e below (T162.setTop (mkF m 113 #[.val (.ref a1), .val (.ref a2), .val (.int p3), .val (.ref b121), .val (.int (2 : Int32))] [(.ref a1)])) _
    refine XS.aloadN X162.here hx rfl (hb hby dT2_113) rfl rfl ?_
    show Steps p.tables e below (T162.setTop (mkF m 114 #[.val (.ref a1), .val (.ref a2), .val (.int p3), .val (.ref b121), .val (.int (2 : Int32))] [(.ref a2), (.ref a1)])) _
    refine st166 _ ?_
    show Steps p.tables e below (T166.setTop (mkF m 117 #[.val (.ref a1), .val (.ref a2), .val (.int p3), .val (.ref b121), .val (.int (2 : Int32))] [])) _
    refine XS.aloadN X166.here hx rfl (hb hby dT2_117) rfl rfl ?_
    show Steps p.tables e below (T166.setTop (mkF m 118 #[.val (.ref a1), .val (.ref a2), .val (.int p3), .val (.ref b121), .val (.int (2 : Int32))] [(.ref a1)])) _
    refine XS.iloadN X166.here hx rfl (hb hby dT2_118) rfl ?_
    show Steps p.tables e below (T166.setTop (mkF m 119 #[.val (.ref a1), .val (.ref a2), .val (.int p3), .val (.ref b121), .val (.int (2 : Int32))] [(.int p3), (.ref a1)])) _
    refine st174 _ ?_
    show Steps p.tables e below (T174.setTop (mkF m 122 #[.val (.ref a1), .val (.ref a2), .val (.int p3), .val (.ref b121), .val (.int (2 : Int32))] [])) _
    refine XS.aloadN X174.here hx rfl (hb hby dT2_122) rfl rfl ?_
    show Steps p.tables e below (T174.setTop (mkF m 123 #[.val (.ref a1), .val (.ref a2), .val (.int p3), .val (.ref b121), .val (.int (2 : Int32))] [(.ref a1)])) _
    refine XS.aloadN X174.here hx rfl (hb hby dT2_123) rfl rfl ?_
    show Steps p.tables e below (T174.setTop (mkF m 124 #[.val (.ref a1), .val (.ref a2), .val (.int p3), .val (.ref b121), .val (.int (2 : Int32))] [(.ref b121), (.ref a1)])) _
    refine st182 _ ?_
    exact kt)
  obtain ⟨fs, hr, hrun, hended, hE1, hE2, hE3, hE4⟩ := X182.leaveW hS152 (by rw [e182]; exact hk182) (v := none) (fun _ => rfl) (hlocks := hlk)
  refine ⟨_, _, P190 _ ?_, hrun, hended, _, _, rfl, ?_, hE1, hE2, hE3, hE4.mono (by decide) (by decide)⟩
  · show Steps p.tables e below (T182.setTop (mkF m 127 #[.val (.ref a1), .val (.ref a2), .val (.int p3), .val (.ref b121), .val (.int (2 : Int32))] [])) _
    exact X182.returnOut hx Bd.returns (hb hby dT2_127) hr
  · show QT Z a1 a2 p3 (2 : Int32) [(.int x0), (.int x1)] h0 n0 _ T182.heap _
    rw [e182]
    exact ⟨rfl, N182, K182, f183, f188, f189, b121, k, F182, f187⟩
theorem dIS3_0 : decode jdk_2529_method_6_code 0 = .ok (.iload_n 1, 1) := by decide +kernel
theorem dIS3_1 : decode jdk_2529_method_6_code 1 = .ok (.istore 4, 2) := by decide +kernel
theorem dIS3_3 : decode jdk_2529_method_6_code 3 = .ok (.iinc 4 1, 3) := by decide +kernel
theorem dIS3_6 : decode jdk_2529_method_6_code 6 = .ok (.iload 4, 2) := by decide +kernel
theorem dIS3_8 : decode jdk_2529_method_6_code 8 = .ok (.iload_n 2, 1) := by decide +kernel
theorem dIS3_9 : decode jdk_2529_method_6_code 9 = .ok (.if_icmp .ge 58, 3) := by decide +kernel
theorem dIS3_12 : decode jdk_2529_method_6_code 12 = .ok (.aload_n 0, 1) := by decide +kernel
theorem dIS3_13 : decode jdk_2529_method_6_code 13 = .ok (.iload 4, 2) := by decide +kernel
theorem dIS3_15 : decode jdk_2529_method_6_code 15 = .ok (.dup, 1) := by decide +kernel
theorem dIS3_16 : decode jdk_2529_method_6_code 16 = .ok (.istore_n 3, 1) := by decide +kernel
theorem dIS3_17 : decode jdk_2529_method_6_code 17 = .ok (.iaload, 1) := by decide +kernel
theorem dIS3_18 : decode jdk_2529_method_6_code 18 = .ok (.istore 5, 2) := by decide +kernel
theorem dIS3_20 : decode jdk_2529_method_6_code 20 = .ok (.iload 5, 2) := by decide +kernel
theorem dIS3_22 : decode jdk_2529_method_6_code 22 = .ok (.aload_n 0, 1) := by decide +kernel
theorem dIS3_23 : decode jdk_2529_method_6_code 23 = .ok (.iload_n 3, 1) := by decide +kernel
theorem dIS3_24 : decode jdk_2529_method_6_code 24 = .ok (.iconst 1, 1) := by decide +kernel
theorem dIS3_25 : decode jdk_2529_method_6_code 25 = .ok (.isub, 1) := by decide +kernel
theorem dIS3_26 : decode jdk_2529_method_6_code 26 = .ok (.iaload, 1) := by decide +kernel
theorem dIS3_27 : decode jdk_2529_method_6_code 27 = .ok (.if_icmp .ge 37, 3) := by decide +kernel
theorem dIS3_30 : decode jdk_2529_method_6_code 30 = .ok (.iinc 3 (-1), 3) := by decide +kernel
theorem dIS3_33 : decode jdk_2529_method_6_code 33 = .ok (.iload_n 3, 1) := by decide +kernel
theorem dIS3_34 : decode jdk_2529_method_6_code 34 = .ok (.iload_n 1, 1) := by decide +kernel
theorem dIS3_35 : decode jdk_2529_method_6_code 35 = .ok (.if_icmp .lt 22, 3) := by decide +kernel
theorem dIS3_38 : decode jdk_2529_method_6_code 38 = .ok (.iload 5, 2) := by decide +kernel
theorem dIS3_40 : decode jdk_2529_method_6_code 40 = .ok (.aload_n 0, 1) := by decide +kernel
theorem dIS3_41 : decode jdk_2529_method_6_code 41 = .ok (.iload_n 3, 1) := by decide +kernel
theorem dIS3_42 : decode jdk_2529_method_6_code 42 = .ok (.iaload, 1) := by decide +kernel
theorem dIS3_43 : decode jdk_2529_method_6_code 43 = .ok (.if_icmp .ge 14, 3) := by decide +kernel
theorem dIS3_46 : decode jdk_2529_method_6_code 46 = .ok (.aload_n 0, 1) := by decide +kernel
theorem dIS3_47 : decode jdk_2529_method_6_code 47 = .ok (.iload_n 3, 1) := by decide +kernel
theorem dIS3_48 : decode jdk_2529_method_6_code 48 = .ok (.iconst 1, 1) := by decide +kernel
theorem dIS3_49 : decode jdk_2529_method_6_code 49 = .ok (.iadd, 1) := by decide +kernel
theorem dIS3_50 : decode jdk_2529_method_6_code 50 = .ok (.aload_n 0, 1) := by decide +kernel
theorem dIS3_51 : decode jdk_2529_method_6_code 51 = .ok (.iload_n 3, 1) := by decide +kernel
theorem dIS3_52 : decode jdk_2529_method_6_code 52 = .ok (.iaload, 1) := by decide +kernel
theorem dIS3_53 : decode jdk_2529_method_6_code 53 = .ok (.iastore, 1) := by decide +kernel
theorem dIS3_54 : decode jdk_2529_method_6_code 54 = .ok (.goto (-24), 3) := by decide +kernel
theorem dIS3_57 : decode jdk_2529_method_6_code 57 = .ok (.aload_n 0, 1) := by decide +kernel
theorem dIS3_58 : decode jdk_2529_method_6_code 58 = .ok (.iload_n 3, 1) := by decide +kernel
theorem dIS3_59 : decode jdk_2529_method_6_code 59 = .ok (.iconst 1, 1) := by decide +kernel
theorem dIS3_60 : decode jdk_2529_method_6_code 60 = .ok (.iadd, 1) := by decide +kernel
theorem dIS3_61 : decode jdk_2529_method_6_code 61 = .ok (.iload 5, 2) := by decide +kernel
theorem dIS3_63 : decode jdk_2529_method_6_code 63 = .ok (.iastore, 1) := by decide +kernel
theorem dIS3_64 : decode jdk_2529_method_6_code 64 = .ok (.goto (-61), 3) := by decide +kernel
theorem dIS3_67 : decode jdk_2529_method_6_code 67 = .ok (.return_, 1) := by decide +kernel
theorem ef_IS3 (m : MethodId) (x0 : Addr) : entryFrame m #[(.ref x0), (.int (0 : Int32)), (.int (3 : Int32))] 6 = mkF m 0 #[.val (.ref x0), .val (.int (0 : Int32)), .val (.int (3 : Int32)), .unset, .unset, .unset] [] := by first | (simp [entryFrame, mkF, argsToLocals, Value.category]; done) | rfl
set_option maxRecDepth 65536 in
set_option maxHeartbeats 40000000 in
theorem rmIS3 (l : Launch) (Z : State) (a0 : Array Value) (hw : ∀ d ∈ tables_1, d.before a0 Z = true) (ws : List Jvm.Cond) (a1 : Addr) (k : ClassId) (x0 x1 x2 : Int32) (h0 : Heap) (n0 : Nat) (Z0 : n0 ≤ h0.size) (V1 : Arv Z h0 a1 k .int (3 : Int32) [(.int x2), (.int x0), (.int x1)] (.int (0 : Int32))) (ga : n0 ≤ a1) (h01 : x0 < x1) (h02 : x0 < x2) (h12 : x1 < x2) :
    MetFree l (⟨"java/util/DualPivotQuicksort", "insertionSort", "([III)V"⟩ : MethodName) (head1 (Jvm.Cond.code (⟨"java/util/DualPivotQuicksort", "insertionSort", "([III)V"⟩ : MethodName) jdk_2529_method_6_code 6 none :: ws) ({ frames := 0, cells := 0, slots := 0, locals := 0 } : Room)) (fun a U => a = #[(.ref a1), (.int (0 : Int32)), (.int (3 : Int32))] ∧ Z.Warmed39 U.vm ∧ U.heap = h0) (fun _ _ _ _ _ => True) (fun _ U o U' => ∃ v L, o = .returned v ∧ QS Z a1 k (3 : Int32) [(.int x0), (.int x1), (.int x2)] h0 n0 v U'.heap L ∧ FrameEnd U o U' L ({ frames := 0, cells := 0, slots := 0, locals := 0 } : Room).cells ({ frames := 0, cells := 0, slots := 0, locals := 0 } : Room).slots) := by
  refine MetFree.of_bodySF (plainFor_of_name (by first | (simp [plainName, overriddenIn]; done) | decide +kernel)) hisR ?_
  intro p e s m args below meth c s₁ Bd hml0 hP hK
  obtain ⟨rfl, hZ, hh⟩ := hP
  have hx := Bd.exec
  have hby := Bd.bytes
  have hml : c.maxLocals = 6 := hml0
  have hown : s.vm.findClass "java/util/DualPivotQuicksort" = some m.cls := findClass_of_methodNamed Bd.named
  have hnm := (name_of_methodNamed Bd.named Bd.method).1
  have hlk : meth.locks = false := BodyLoose.notSynchronized Bd
  have X0 : Stand p l e ({ frames := 0, cells := 0, slots := 0, locals := 0 } : Room) s m #[(.ref a1), (.int (0 : Int32)), (.int (3 : Int32))] below meth c s₁ [] 0 0 := Stand.of_body Bd
  have e0 : s₁.heap = h0 := by rw [← hh, Bd.state]; rfl
  have P0 : ∀ t, Steps p.tables e below (s₁.setTop (mkF m 0 #[.val (.ref a1), .val (.int (0 : Int32)), .val (.int (3 : Int32)), .unset, .unset, .unset] [])) t → Steps p.tables e below (s₁.setTop (entryFrame m #[(.ref a1), (.int (0 : Int32)), (.int (3 : Int32))] 6)) t := fun t kt => castTop (ef_IS3 m a1) kt
  have N0 := Fr.nil n0
  have K0 := Keep.refl h0 [a1]
  obtain ⟨cl101, Ar101, q101, S101, Nn101, H101, G101⟩ := id V1
  obtain ⟨cl102, Ar102, q102, S102, Nn102, H102, G102⟩ := id V1
  obtain ⟨cl103, Ar103, q103, S103, Nn103, H103, G103⟩ := id V1
  obtain ⟨cl104, Ar104, q104, S104, Nn104, H104, G104⟩ := id V1
  obtain ⟨cl105, Ar105, q105, S105, Nn105, H105, G105⟩ := id V1
  have hin105 : ¬ ((1 : Int32) < 0 ∨ cl105.slots.size ≤ ((1 : Int32)).toNatClampNeg) := inb_of S105 ⟨by decide, by decide⟩
  obtain ⟨T106, h106, X106, e106, W106, st106⟩ := stI X0 hx hZ e0 Ar105 (j := (1 : Int32)) hin105 (g := (mkF m 53 #[.val (.ref a1), .val (.int (0 : Int32)), .val (.int (3 : Int32)), .val (.int (0 : Int32)), .val (.int (1 : Int32)), .val (.int x0)] [(.int x2), (.int (1 : Int32)), (.ref a1)])) rfl rfl (hb hby dIS3_53)
  have V106 : Arv Z h106 a1 k .int (3 : Int32) [(.int x2), (.int x2), (.int x1)] (.int (0 : Int32)) := Arv.set Ar105 q105 S105 Nn105 H105 G105 rfl W106 1 rfl (Nat.le_of_ble_eq_true rfl)
  have N106 := Fr.snoc X106 N0 ga
  have sz106 : n0 ≤ h106.size := Nat.le_trans Z0 (Keep.of_wr W106).1
  have K106 : Keep h0 h106 [a1] := K0.wr W106 (Or.inl (List.mem_of_getElem? (i := 0) rfl))
  obtain ⟨cl107, Ar107, q107, S107, Nn107, H107, G107⟩ := id V106
  have hin107 : ¬ ((0 : Int32) < 0 ∨ cl107.slots.size ≤ ((0 : Int32)).toNatClampNeg) := inb_of S107 ⟨by decide, by decide⟩
  obtain ⟨T108, h108, X108, e108, W108, st108⟩ := stI X106 hx hZ e106 Ar107 (j := (0 : Int32)) hin107 (g := (mkF m 63 #[.val (.ref a1), .val (.int (0 : Int32)), .val (.int (3 : Int32)), .val (.int (-1 : Int32)), .val (.int (1 : Int32)), .val (.int x0)] [(.int x0), (.int (0 : Int32)), (.ref a1)])) rfl rfl (hb hby dIS3_63)
  have V108 : Arv Z h108 a1 k .int (3 : Int32) [(.int x0), (.int x2), (.int x1)] (.int (0 : Int32)) := Arv.set Ar107 q107 S107 Nn107 H107 G107 rfl W108 0 rfl (Nat.le_of_ble_eq_true rfl)
  have N108 := Fr.snoc X108 N106 ga
  have sz108 : n0 ≤ h108.size := Nat.le_trans sz106 (Keep.of_wr W108).1
  have K108 : Keep h0 h108 [a1] := K106.wr W108 (Or.inl (List.mem_of_getElem? (i := 0) rfl))
  obtain ⟨cl109, Ar109, q109, S109, Nn109, H109, G109⟩ := id V108
  obtain ⟨cl110, Ar110, q110, S110, Nn110, H110, G110⟩ := id V108
  obtain ⟨cl111, Ar111, q111, S111, Nn111, H111, G111⟩ := id V108
  obtain ⟨cl112, Ar112, q112, S112, Nn112, H112, G112⟩ := id V108
  obtain ⟨cl113, Ar113, q113, S113, Nn113, H113, G113⟩ := id V108
  have hin113 : ¬ ((2 : Int32) < 0 ∨ cl113.slots.size ≤ ((2 : Int32)).toNatClampNeg) := inb_of S113 ⟨by decide, by decide⟩
  obtain ⟨T114, h114, X114, e114, W114, st114⟩ := stI X108 hx hZ e108 Ar113 (j := (2 : Int32)) hin113 (g := (mkF m 53 #[.val (.ref a1), .val (.int (0 : Int32)), .val (.int (3 : Int32)), .val (.int (1 : Int32)), .val (.int (2 : Int32)), .val (.int x1)] [(.int x2), (.int (2 : Int32)), (.ref a1)])) rfl rfl (hb hby dIS3_53)
  have V114 : Arv Z h114 a1 k .int (3 : Int32) [(.int x0), (.int x2), (.int x2)] (.int (0 : Int32)) := Arv.set Ar113 q113 S113 Nn113 H113 G113 rfl W114 2 rfl (Nat.le_of_ble_eq_true rfl)
  have N114 := Fr.snoc X114 N108 ga
  have sz114 : n0 ≤ h114.size := Nat.le_trans sz108 (Keep.of_wr W114).1
  have K114 : Keep h0 h114 [a1] := K108.wr W114 (Or.inl (List.mem_of_getElem? (i := 0) rfl))
  obtain ⟨cl115, Ar115, q115, S115, Nn115, H115, G115⟩ := id V114
  obtain ⟨cl116, Ar116, q116, S116, Nn116, H116, G116⟩ := id V114
  have hin116 : ¬ ((1 : Int32) < 0 ∨ cl116.slots.size ≤ ((1 : Int32)).toNatClampNeg) := inb_of S116 ⟨by decide, by decide⟩
  obtain ⟨T117, h117, X117, e117, W117, st117⟩ := stI X114 hx hZ e114 Ar116 (j := (1 : Int32)) hin116 (g := (mkF m 63 #[.val (.ref a1), .val (.int (0 : Int32)), .val (.int (3 : Int32)), .val (.int (0 : Int32)), .val (.int (2 : Int32)), .val (.int x1)] [(.int x1), (.int (1 : Int32)), (.ref a1)])) rfl rfl (hb hby dIS3_63)
  have V117 : Arv Z h117 a1 k .int (3 : Int32) [(.int x0), (.int x1), (.int x2)] (.int (0 : Int32)) := Arv.set Ar116 q116 S116 Nn116 H116 G116 rfl W117 1 rfl (Nat.le_of_ble_eq_true rfl)
  have N117 := Fr.snoc X117 N114 ga
  have sz117 : n0 ≤ h117.size := Nat.le_trans sz114 (Keep.of_wr W117).1
  have K117 : Keep h0 h117 [a1] := K114.wr W117 (Or.inl (List.mem_of_getElem? (i := 0) rfl))
  have P118 : ∀ t, Steps p.tables e below (T117.setTop (mkF m 67 #[.val (.ref a1), .val (.int (0 : Int32)), .val (.int (3 : Int32)), .val (.int (0 : Int32)), .val (.int (3 : Int32)), .val (.int x1)] [])) t → Steps p.tables e below (s₁.setTop (entryFrame m #[(.ref a1), (.int (0 : Int32)), (.int (3 : Int32))] 6)) t := fun t kt => P0 t (by
    show Steps p.tables e below (s₁.setTop (mkF m 0 #[.val (.ref a1), .val (.int (0 : Int32)), .val (.int (3 : Int32)), .unset, .unset, .unset] [])) _
    refine XS.iloadN X0.here hx rfl (hb hby dIS3_0) rfl ?_
    show Steps p.tables e below (s₁.setTop (mkF m 1 #[.val (.ref a1), .val (.int (0 : Int32)), .val (.int (3 : Int32)), .unset, .unset, .unset] [(.int (0 : Int32))])) _
    refine XS.istore X0.here hx rfl (hb hby dIS3_1) rfl (l' := #[.val (.ref a1), .val (.int (0 : Int32)), .val (.int (3 : Int32)), .unset, .val (.int (0 : Int32)), .unset]) rfl ?_
    show Steps p.tables e below (s₁.setTop (mkF m 3 #[.val (.ref a1), .val (.int (0 : Int32)), .val (.int (3 : Int32)), .unset, .val (.int (0 : Int32)), .unset] [])) _
    refine XS.iinc X0.here hx rfl (hb hby dIS3_3) rfl (l' := #[.val (.ref a1), .val (.int (0 : Int32)), .val (.int (3 : Int32)), .unset, .val (.int (1 : Int32)), .unset]) rfl ?_
    show Steps p.tables e below (s₁.setTop (mkF m 6 #[.val (.ref a1), .val (.int (0 : Int32)), .val (.int (3 : Int32)), .unset, .val (.int (1 : Int32)), .unset] [])) _
    refine XS.iload X0.here hx rfl (hb hby dIS3_6) rfl ?_
    show Steps p.tables e below (s₁.setTop (mkF m 8 #[.val (.ref a1), .val (.int (0 : Int32)), .val (.int (3 : Int32)), .unset, .val (.int (1 : Int32)), .unset] [(.int (1 : Int32))])) _
    refine XS.iloadN X0.here hx rfl (hb hby dIS3_8) rfl ?_
    show Steps p.tables e below (s₁.setTop (mkF m 9 #[.val (.ref a1), .val (.int (0 : Int32)), .val (.int (3 : Int32)), .unset, .val (.int (1 : Int32)), .unset] [(.int (3 : Int32)), (.int (1 : Int32))])) _
    refine XS.icmpNo X0.here hx rfl (hb hby dIS3_9) rfl (tlt ((by decide) : (1 : Int32) < (3 : Int32))).2.1 ?_
    show Steps p.tables e below (s₁.setTop (mkF m 12 #[.val (.ref a1), .val (.int (0 : Int32)), .val (.int (3 : Int32)), .unset, .val (.int (1 : Int32)), .unset] [])) _
    refine XS.aloadN X0.here hx rfl (hb hby dIS3_12) rfl rfl ?_
    show Steps p.tables e below (s₁.setTop (mkF m 13 #[.val (.ref a1), .val (.int (0 : Int32)), .val (.int (3 : Int32)), .unset, .val (.int (1 : Int32)), .unset] [(.ref a1)])) _
    refine XS.iload X0.here hx rfl (hb hby dIS3_13) rfl ?_
    show Steps p.tables e below (s₁.setTop (mkF m 15 #[.val (.ref a1), .val (.int (0 : Int32)), .val (.int (3 : Int32)), .unset, .val (.int (1 : Int32)), .unset] [(.int (1 : Int32)), (.ref a1)])) _
    refine XS.dup X0.here hx rfl (hb hby dIS3_15) rfl rfl ?_
    show Steps p.tables e below (s₁.setTop (mkF m 16 #[.val (.ref a1), .val (.int (0 : Int32)), .val (.int (3 : Int32)), .unset, .val (.int (1 : Int32)), .unset] [(.int (1 : Int32)), (.int (1 : Int32)), (.ref a1)])) _
    refine XS.istoreN X0.here hx rfl (hb hby dIS3_16) rfl (l' := #[.val (.ref a1), .val (.int (0 : Int32)), .val (.int (3 : Int32)), .val (.int (1 : Int32)), .val (.int (1 : Int32)), .unset]) rfl ?_
    show Steps p.tables e below (s₁.setTop (mkF m 17 #[.val (.ref a1), .val (.int (0 : Int32)), .val (.int (3 : Int32)), .val (.int (1 : Int32)), .val (.int (1 : Int32)), .unset] [(.int (1 : Int32)), (.ref a1)])) _
    refine X0.iaload hx (j := (1 : Int32)) (v := (.int x0)) (by rw [e0]; exact Ar101.1) (State.isArrayOf_alike hZ.alike Ar101.2.1) Ar101.2.2 (inb_of S101 ⟨by decide, by decide⟩) (H101 1 (by rw [S101]; decide)) (g := (mkF m 17 #[.val (.ref a1), .val (.int (0 : Int32)), .val (.int (3 : Int32)), .val (.int (1 : Int32)), .val (.int (1 : Int32)), .unset] [(.int (1 : Int32)), (.ref a1)])) rfl rfl (hb hby dIS3_17) _ ?_
    show Steps p.tables e below (s₁.setTop (mkF m 18 #[.val (.ref a1), .val (.int (0 : Int32)), .val (.int (3 : Int32)), .val (.int (1 : Int32)), .val (.int (1 : Int32)), .unset] [(.int x0)])) _
    refine XS.istore X0.here hx rfl (hb hby dIS3_18) rfl (l' := #[.val (.ref a1), .val (.int (0 : Int32)), .val (.int (3 : Int32)), .val (.int (1 : Int32)), .val (.int (1 : Int32)), .val (.int x0)]) rfl ?_
    show Steps p.tables e below (s₁.setTop (mkF m 20 #[.val (.ref a1), .val (.int (0 : Int32)), .val (.int (3 : Int32)), .val (.int (1 : Int32)), .val (.int (1 : Int32)), .val (.int x0)] [])) _
    refine XS.iload X0.here hx rfl (hb hby dIS3_20) rfl ?_
    show Steps p.tables e below (s₁.setTop (mkF m 22 #[.val (.ref a1), .val (.int (0 : Int32)), .val (.int (3 : Int32)), .val (.int (1 : Int32)), .val (.int (1 : Int32)), .val (.int x0)] [(.int x0)])) _
    refine XS.aloadN X0.here hx rfl (hb hby dIS3_22) rfl rfl ?_
    show Steps p.tables e below (s₁.setTop (mkF m 23 #[.val (.ref a1), .val (.int (0 : Int32)), .val (.int (3 : Int32)), .val (.int (1 : Int32)), .val (.int (1 : Int32)), .val (.int x0)] [(.ref a1), (.int x0)])) _
    refine XS.iloadN X0.here hx rfl (hb hby dIS3_23) rfl ?_
    show Steps p.tables e below (s₁.setTop (mkF m 24 #[.val (.ref a1), .val (.int (0 : Int32)), .val (.int (3 : Int32)), .val (.int (1 : Int32)), .val (.int (1 : Int32)), .val (.int x0)] [(.int (1 : Int32)), (.ref a1), (.int x0)])) _
    refine XS.iconst X0.here hx rfl (hb hby dIS3_24) ?_
    show Steps p.tables e below (s₁.setTop (mkF m 25 #[.val (.ref a1), .val (.int (0 : Int32)), .val (.int (3 : Int32)), .val (.int (1 : Int32)), .val (.int (1 : Int32)), .val (.int x0)] [(.int (1 : Int32)), (.int (1 : Int32)), (.ref a1), (.int x0)])) _
    refine XS.isub X0.here hx rfl (hb hby dIS3_25) rfl ?_
    show Steps p.tables e below (s₁.setTop (mkF m 26 #[.val (.ref a1), .val (.int (0 : Int32)), .val (.int (3 : Int32)), .val (.int (1 : Int32)), .val (.int (1 : Int32)), .val (.int x0)] [(.int (0 : Int32)), (.ref a1), (.int x0)])) _
    refine X0.iaload hx (j := (0 : Int32)) (v := (.int x2)) (by rw [e0]; exact Ar102.1) (State.isArrayOf_alike hZ.alike Ar102.2.1) Ar102.2.2 (inb_of S102 ⟨by decide, by decide⟩) (H102 0 (by rw [S102]; decide)) (g := (mkF m 26 #[.val (.ref a1), .val (.int (0 : Int32)), .val (.int (3 : Int32)), .val (.int (1 : Int32)), .val (.int (1 : Int32)), .val (.int x0)] [(.int (0 : Int32)), (.ref a1), (.int x0)])) rfl rfl (hb hby dIS3_26) _ ?_
    show Steps p.tables e below (s₁.setTop (mkF m 27 #[.val (.ref a1), .val (.int (0 : Int32)), .val (.int (3 : Int32)), .val (.int (1 : Int32)), .val (.int (1 : Int32)), .val (.int x0)] [(.int x2), (.int x0)])) _
    refine XS.icmpNo X0.here hx rfl (hb hby dIS3_27) rfl (tlt (h02 : x0 < x2)).2.1 ?_
    show Steps p.tables e below (s₁.setTop (mkF m 30 #[.val (.ref a1), .val (.int (0 : Int32)), .val (.int (3 : Int32)), .val (.int (1 : Int32)), .val (.int (1 : Int32)), .val (.int x0)] [])) _
    refine XS.iinc X0.here hx rfl (hb hby dIS3_30) rfl (l' := #[.val (.ref a1), .val (.int (0 : Int32)), .val (.int (3 : Int32)), .val (.int (0 : Int32)), .val (.int (1 : Int32)), .val (.int x0)]) rfl ?_
    show Steps p.tables e below (s₁.setTop (mkF m 33 #[.val (.ref a1), .val (.int (0 : Int32)), .val (.int (3 : Int32)), .val (.int (0 : Int32)), .val (.int (1 : Int32)), .val (.int x0)] [])) _
    refine XS.iloadN X0.here hx rfl (hb hby dIS3_33) rfl ?_
    show Steps p.tables e below (s₁.setTop (mkF m 34 #[.val (.ref a1), .val (.int (0 : Int32)), .val (.int (3 : Int32)), .val (.int (0 : Int32)), .val (.int (1 : Int32)), .val (.int x0)] [(.int (0 : Int32))])) _
    refine XS.iloadN X0.here hx rfl (hb hby dIS3_34) rfl ?_
    show Steps p.tables e below (s₁.setTop (mkF m 35 #[.val (.ref a1), .val (.int (0 : Int32)), .val (.int (3 : Int32)), .val (.int (0 : Int32)), .val (.int (1 : Int32)), .val (.int x0)] [(.int (0 : Int32)), (.int (0 : Int32))])) _
    refine XS.icmpNo X0.here hx rfl (hb hby dIS3_35) rfl (flt ((by decide) : ¬ ((0 : Int32) < (0 : Int32)))).1 ?_
    show Steps p.tables e below (s₁.setTop (mkF m 38 #[.val (.ref a1), .val (.int (0 : Int32)), .val (.int (3 : Int32)), .val (.int (0 : Int32)), .val (.int (1 : Int32)), .val (.int x0)] [])) _
    refine XS.iload X0.here hx rfl (hb hby dIS3_38) rfl ?_
    show Steps p.tables e below (s₁.setTop (mkF m 40 #[.val (.ref a1), .val (.int (0 : Int32)), .val (.int (3 : Int32)), .val (.int (0 : Int32)), .val (.int (1 : Int32)), .val (.int x0)] [(.int x0)])) _
    refine XS.aloadN X0.here hx rfl (hb hby dIS3_40) rfl rfl ?_
    show Steps p.tables e below (s₁.setTop (mkF m 41 #[.val (.ref a1), .val (.int (0 : Int32)), .val (.int (3 : Int32)), .val (.int (0 : Int32)), .val (.int (1 : Int32)), .val (.int x0)] [(.ref a1), (.int x0)])) _
    refine XS.iloadN X0.here hx rfl (hb hby dIS3_41) rfl ?_
    show Steps p.tables e below (s₁.setTop (mkF m 42 #[.val (.ref a1), .val (.int (0 : Int32)), .val (.int (3 : Int32)), .val (.int (0 : Int32)), .val (.int (1 : Int32)), .val (.int x0)] [(.int (0 : Int32)), (.ref a1), (.int x0)])) _
    refine X0.iaload hx (j := (0 : Int32)) (v := (.int x2)) (by rw [e0]; exact Ar103.1) (State.isArrayOf_alike hZ.alike Ar103.2.1) Ar103.2.2 (inb_of S103 ⟨by decide, by decide⟩) (H103 0 (by rw [S103]; decide)) (g := (mkF m 42 #[.val (.ref a1), .val (.int (0 : Int32)), .val (.int (3 : Int32)), .val (.int (0 : Int32)), .val (.int (1 : Int32)), .val (.int x0)] [(.int (0 : Int32)), (.ref a1), (.int x0)])) rfl rfl (hb hby dIS3_42) _ ?_
    show Steps p.tables e below (s₁.setTop (mkF m 43 #[.val (.ref a1), .val (.int (0 : Int32)), .val (.int (3 : Int32)), .val (.int (0 : Int32)), .val (.int (1 : Int32)), .val (.int x0)] [(.int x2), (.int x0)])) _
    refine XS.icmpNo X0.here hx rfl (hb hby dIS3_43) rfl (tlt (h02 : x0 < x2)).2.1 ?_
    show Steps p.tables e below (s₁.setTop (mkF m 46 #[.val (.ref a1), .val (.int (0 : Int32)), .val (.int (3 : Int32)), .val (.int (0 : Int32)), .val (.int (1 : Int32)), .val (.int x0)] [])) _
    refine XS.aloadN X0.here hx rfl (hb hby dIS3_46) rfl rfl ?_
    show Steps p.tables e below (s₁.setTop (mkF m 47 #[.val (.ref a1), .val (.int (0 : Int32)), .val (.int (3 : Int32)), .val (.int (0 : Int32)), .val (.int (1 : Int32)), .val (.int x0)] [(.ref a1)])) _
    refine XS.iloadN X0.here hx rfl (hb hby dIS3_47) rfl ?_
    show Steps p.tables e below (s₁.setTop (mkF m 48 #[.val (.ref a1), .val (.int (0 : Int32)), .val (.int (3 : Int32)), .val (.int (0 : Int32)), .val (.int (1 : Int32)), .val (.int x0)] [(.int (0 : Int32)), (.ref a1)])) _
    refine XS.iconst X0.here hx rfl (hb hby dIS3_48) ?_
    show Steps p.tables e below (s₁.setTop (mkF m 49 #[.val (.ref a1), .val (.int (0 : Int32)), .val (.int (3 : Int32)), .val (.int (0 : Int32)), .val (.int (1 : Int32)), .val (.int x0)] [(.int (1 : Int32)), (.int (0 : Int32)), (.ref a1)])) _
    refine XS.iadd X0.here hx rfl (hb hby dIS3_49) rfl ?_
    show Steps p.tables e below (s₁.setTop (mkF m 50 #[.val (.ref a1), .val (.int (0 : Int32)), .val (.int (3 : Int32)), .val (.int (0 : Int32)), .val (.int (1 : Int32)), .val (.int x0)] [(.int (1 : Int32)), (.ref a1)])) _
    refine XS.aloadN X0.here hx rfl (hb hby dIS3_50) rfl rfl ?_
    show Steps p.tables e below (s₁.setTop (mkF m 51 #[.val (.ref a1), .val (.int (0 : Int32)), .val (.int (3 : Int32)), .val (.int (0 : Int32)), .val (.int (1 : Int32)), .val (.int x0)] [(.ref a1), (.int (1 : Int32)), (.ref a1)])) _
    refine XS.iloadN X0.here hx rfl (hb hby dIS3_51) rfl ?_
    show Steps p.tables e below (s₁.setTop (mkF m 52 #[.val (.ref a1), .val (.int (0 : Int32)), .val (.int (3 : Int32)), .val (.int (0 : Int32)), .val (.int (1 : Int32)), .val (.int x0)] [(.int (0 : Int32)), (.ref a1), (.int (1 : Int32)), (.ref a1)])) _
    refine X0.iaload hx (j := (0 : Int32)) (v := (.int x2)) (by rw [e0]; exact Ar104.1) (State.isArrayOf_alike hZ.alike Ar104.2.1) Ar104.2.2 (inb_of S104 ⟨by decide, by decide⟩) (H104 0 (by rw [S104]; decide)) (g := (mkF m 52 #[.val (.ref a1), .val (.int (0 : Int32)), .val (.int (3 : Int32)), .val (.int (0 : Int32)), .val (.int (1 : Int32)), .val (.int x0)] [(.int (0 : Int32)), (.ref a1), (.int (1 : Int32)), (.ref a1)])) rfl rfl (hb hby dIS3_52) _ ?_
    show Steps p.tables e below (s₁.setTop (mkF m 53 #[.val (.ref a1), .val (.int (0 : Int32)), .val (.int (3 : Int32)), .val (.int (0 : Int32)), .val (.int (1 : Int32)), .val (.int x0)] [(.int x2), (.int (1 : Int32)), (.ref a1)])) _
    refine st106 _ ?_
    show Steps p.tables e below (T106.setTop (mkF m 54 #[.val (.ref a1), .val (.int (0 : Int32)), .val (.int (3 : Int32)), .val (.int (0 : Int32)), .val (.int (1 : Int32)), .val (.int x0)] [])) _
    refine XS.goto X106.here hx rfl (pc0 := 54) (pc' := 30) rfl (hb hby dIS3_54) (by decide) (by decide) ?_
    show Steps p.tables e below (T106.setTop (mkF m 30 #[.val (.ref a1), .val (.int (0 : Int32)), .val (.int (3 : Int32)), .val (.int (0 : Int32)), .val (.int (1 : Int32)), .val (.int x0)] [])) _
    refine XS.iinc X106.here hx rfl (hb hby dIS3_30) rfl (l' := #[.val (.ref a1), .val (.int (0 : Int32)), .val (.int (3 : Int32)), .val (.int (-1 : Int32)), .val (.int (1 : Int32)), .val (.int x0)]) rfl ?_
    show Steps p.tables e below (T106.setTop (mkF m 33 #[.val (.ref a1), .val (.int (0 : Int32)), .val (.int (3 : Int32)), .val (.int (-1 : Int32)), .val (.int (1 : Int32)), .val (.int x0)] [])) _
    refine XS.iloadN X106.here hx rfl (hb hby dIS3_33) rfl ?_
    show Steps p.tables e below (T106.setTop (mkF m 34 #[.val (.ref a1), .val (.int (0 : Int32)), .val (.int (3 : Int32)), .val (.int (-1 : Int32)), .val (.int (1 : Int32)), .val (.int x0)] [(.int (-1 : Int32))])) _
    refine XS.iloadN X106.here hx rfl (hb hby dIS3_34) rfl ?_
    show Steps p.tables e below (T106.setTop (mkF m 35 #[.val (.ref a1), .val (.int (0 : Int32)), .val (.int (3 : Int32)), .val (.int (-1 : Int32)), .val (.int (1 : Int32)), .val (.int x0)] [(.int (0 : Int32)), (.int (-1 : Int32))])) _
    refine XS.icmpYes X106.here hx rfl (pc0 := 35) (pc' := 57) rfl (hb hby dIS3_35) rfl (tlt ((by decide) : (-1 : Int32) < (0 : Int32))).1 (by decide) (by decide) ?_
    show Steps p.tables e below (T106.setTop (mkF m 57 #[.val (.ref a1), .val (.int (0 : Int32)), .val (.int (3 : Int32)), .val (.int (-1 : Int32)), .val (.int (1 : Int32)), .val (.int x0)] [])) _
    refine XS.aloadN X106.here hx rfl (hb hby dIS3_57) rfl rfl ?_
    show Steps p.tables e below (T106.setTop (mkF m 58 #[.val (.ref a1), .val (.int (0 : Int32)), .val (.int (3 : Int32)), .val (.int (-1 : Int32)), .val (.int (1 : Int32)), .val (.int x0)] [(.ref a1)])) _
    refine XS.iloadN X106.here hx rfl (hb hby dIS3_58) rfl ?_
    show Steps p.tables e below (T106.setTop (mkF m 59 #[.val (.ref a1), .val (.int (0 : Int32)), .val (.int (3 : Int32)), .val (.int (-1 : Int32)), .val (.int (1 : Int32)), .val (.int x0)] [(.int (-1 : Int32)), (.ref a1)])) _
    refine XS.iconst X106.here hx rfl (hb hby dIS3_59) ?_
    show Steps p.tables e below (T106.setTop (mkF m 60 #[.val (.ref a1), .val (.int (0 : Int32)), .val (.int (3 : Int32)), .val (.int (-1 : Int32)), .val (.int (1 : Int32)), .val (.int x0)] [(.int (1 : Int32)), (.int (-1 : Int32)), (.ref a1)])) _
    refine XS.iadd X106.here hx rfl (hb hby dIS3_60) rfl ?_
    show Steps p.tables e below (T106.setTop (mkF m 61 #[.val (.ref a1), .val (.int (0 : Int32)), .val (.int (3 : Int32)), .val (.int (-1 : Int32)), .val (.int (1 : Int32)), .val (.int x0)] [(.int (0 : Int32)), (.ref a1)])) _
    refine XS.iload X106.here hx rfl (hb hby dIS3_61) rfl ?_
    show Steps p.tables e below (T106.setTop (mkF m 63 #[.val (.ref a1), .val (.int (0 : Int32)), .val (.int (3 : Int32)), .val (.int (-1 : Int32)), .val (.int (1 : Int32)), .val (.int x0)] [(.int x0), (.int (0 : Int32)), (.ref a1)])) _
    refine st108 _ ?_
    show Steps p.tables e below (T108.setTop (mkF m 64 #[.val (.ref a1), .val (.int (0 : Int32)), .val (.int (3 : Int32)), .val (.int (-1 : Int32)), .val (.int (1 : Int32)), .val (.int x0)] [])) _
    refine XS.goto X108.here hx rfl (pc0 := 64) (pc' := 3) rfl (hb hby dIS3_64) (by decide) (by decide) ?_
    show Steps p.tables e below (T108.setTop (mkF m 3 #[.val (.ref a1), .val (.int (0 : Int32)), .val (.int (3 : Int32)), .val (.int (-1 : Int32)), .val (.int (1 : Int32)), .val (.int x0)] [])) _
    refine XS.iinc X108.here hx rfl (hb hby dIS3_3) rfl (l' := #[.val (.ref a1), .val (.int (0 : Int32)), .val (.int (3 : Int32)), .val (.int (-1 : Int32)), .val (.int (2 : Int32)), .val (.int x0)]) rfl ?_
    show Steps p.tables e below (T108.setTop (mkF m 6 #[.val (.ref a1), .val (.int (0 : Int32)), .val (.int (3 : Int32)), .val (.int (-1 : Int32)), .val (.int (2 : Int32)), .val (.int x0)] [])) _
    refine XS.iload X108.here hx rfl (hb hby dIS3_6) rfl ?_
    show Steps p.tables e below (T108.setTop (mkF m 8 #[.val (.ref a1), .val (.int (0 : Int32)), .val (.int (3 : Int32)), .val (.int (-1 : Int32)), .val (.int (2 : Int32)), .val (.int x0)] [(.int (2 : Int32))])) _
    refine XS.iloadN X108.here hx rfl (hb hby dIS3_8) rfl ?_
    show Steps p.tables e below (T108.setTop (mkF m 9 #[.val (.ref a1), .val (.int (0 : Int32)), .val (.int (3 : Int32)), .val (.int (-1 : Int32)), .val (.int (2 : Int32)), .val (.int x0)] [(.int (3 : Int32)), (.int (2 : Int32))])) _
    refine XS.icmpNo X108.here hx rfl (hb hby dIS3_9) rfl (tlt ((by decide) : (2 : Int32) < (3 : Int32))).2.1 ?_
    show Steps p.tables e below (T108.setTop (mkF m 12 #[.val (.ref a1), .val (.int (0 : Int32)), .val (.int (3 : Int32)), .val (.int (-1 : Int32)), .val (.int (2 : Int32)), .val (.int x0)] [])) _
    refine XS.aloadN X108.here hx rfl (hb hby dIS3_12) rfl rfl ?_
    show Steps p.tables e below (T108.setTop (mkF m 13 #[.val (.ref a1), .val (.int (0 : Int32)), .val (.int (3 : Int32)), .val (.int (-1 : Int32)), .val (.int (2 : Int32)), .val (.int x0)] [(.ref a1)])) _
    refine XS.iload X108.here hx rfl (hb hby dIS3_13) rfl ?_
    show Steps p.tables e below (T108.setTop (mkF m 15 #[.val (.ref a1), .val (.int (0 : Int32)), .val (.int (3 : Int32)), .val (.int (-1 : Int32)), .val (.int (2 : Int32)), .val (.int x0)] [(.int (2 : Int32)), (.ref a1)])) _
    refine XS.dup X108.here hx rfl (hb hby dIS3_15) rfl rfl ?_
    show Steps p.tables e below (T108.setTop (mkF m 16 #[.val (.ref a1), .val (.int (0 : Int32)), .val (.int (3 : Int32)), .val (.int (-1 : Int32)), .val (.int (2 : Int32)), .val (.int x0)] [(.int (2 : Int32)), (.int (2 : Int32)), (.ref a1)])) _
    refine XS.istoreN X108.here hx rfl (hb hby dIS3_16) rfl (l' := #[.val (.ref a1), .val (.int (0 : Int32)), .val (.int (3 : Int32)), .val (.int (2 : Int32)), .val (.int (2 : Int32)), .val (.int x0)]) rfl ?_
    show Steps p.tables e below (T108.setTop (mkF m 17 #[.val (.ref a1), .val (.int (0 : Int32)), .val (.int (3 : Int32)), .val (.int (2 : Int32)), .val (.int (2 : Int32)), .val (.int x0)] [(.int (2 : Int32)), (.ref a1)])) _
    refine X108.iaload hx (j := (2 : Int32)) (v := (.int x1)) (by rw [e108]; exact Ar109.1) (State.isArrayOf_alike hZ.alike Ar109.2.1) Ar109.2.2 (inb_of S109 ⟨by decide, by decide⟩) (H109 2 (by rw [S109]; decide)) (g := (mkF m 17 #[.val (.ref a1), .val (.int (0 : Int32)), .val (.int (3 : Int32)), .val (.int (2 : Int32)), .val (.int (2 : Int32)), .val (.int x0)] [(.int (2 : Int32)), (.ref a1)])) rfl rfl (hb hby dIS3_17) _ ?_
    show Steps p.tables e below (T108.setTop (mkF m 18 #[.val (.ref a1), .val (.int (0 : Int32)), .val (.int (3 : Int32)), .val (.int (2 : Int32)), .val (.int (2 : Int32)), .val (.int x0)] [(.int x1)])) _
    refine XS.istore X108.here hx rfl (hb hby dIS3_18) rfl (l' := #[.val (.ref a1), .val (.int (0 : Int32)), .val (.int (3 : Int32)), .val (.int (2 : Int32)), .val (.int (2 : Int32)), .val (.int x1)]) rfl ?_
    show Steps p.tables e below (T108.setTop (mkF m 20 #[.val (.ref a1), .val (.int (0 : Int32)), .val (.int (3 : Int32)), .val (.int (2 : Int32)), .val (.int (2 : Int32)), .val (.int x1)] [])) _
    refine XS.iload X108.here hx rfl (hb hby dIS3_20) rfl ?_
    show Steps p.tables e below (T108.setTop (mkF m 22 #[.val (.ref a1), .val (.int (0 : Int32)), .val (.int (3 : Int32)), .val (.int (2 : Int32)), .val (.int (2 : Int32)), .val (.int x1)] [(.int x1)])) _
    refine XS.aloadN X108.here hx rfl (hb hby dIS3_22) rfl rfl ?_
    show Steps p.tables e below (T108.setTop (mkF m 23 #[.val (.ref a1), .val (.int (0 : Int32)), .val (.int (3 : Int32)), .val (.int (2 : Int32)), .val (.int (2 : Int32)), .val (.int x1)] [(.ref a1), (.int x1)])) _
    refine XS.iloadN X108.here hx rfl (hb hby dIS3_23) rfl ?_
    show Steps p.tables e below (T108.setTop (mkF m 24 #[.val (.ref a1), .val (.int (0 : Int32)), .val (.int (3 : Int32)), .val (.int (2 : Int32)), .val (.int (2 : Int32)), .val (.int x1)] [(.int (2 : Int32)), (.ref a1), (.int x1)])) _
    refine XS.iconst X108.here hx rfl (hb hby dIS3_24) ?_
    show Steps p.tables e below (T108.setTop (mkF m 25 #[.val (.ref a1), .val (.int (0 : Int32)), .val (.int (3 : Int32)), .val (.int (2 : Int32)), .val (.int (2 : Int32)), .val (.int x1)] [(.int (1 : Int32)), (.int (2 : Int32)), (.ref a1), (.int x1)])) _
    refine XS.isub X108.here hx rfl (hb hby dIS3_25) rfl ?_
    show Steps p.tables e below (T108.setTop (mkF m 26 #[.val (.ref a1), .val (.int (0 : Int32)), .val (.int (3 : Int32)), .val (.int (2 : Int32)), .val (.int (2 : Int32)), .val (.int x1)] [(.int (1 : Int32)), (.ref a1), (.int x1)])) _
    refine X108.iaload hx (j := (1 : Int32)) (v := (.int x2)) (by rw [e108]; exact Ar110.1) (State.isArrayOf_alike hZ.alike Ar110.2.1) Ar110.2.2 (inb_of S110 ⟨by decide, by decide⟩) (H110 1 (by rw [S110]; decide)) (g := (mkF m 26 #[.val (.ref a1), .val (.int (0 : Int32)), .val (.int (3 : Int32)), .val (.int (2 : Int32)), .val (.int (2 : Int32)), .val (.int x1)] [(.int (1 : Int32)), (.ref a1), (.int x1)])) rfl rfl (hb hby dIS3_26) _ ?_
    show Steps p.tables e below (T108.setTop (mkF m 27 #[.val (.ref a1), .val (.int (0 : Int32)), .val (.int (3 : Int32)), .val (.int (2 : Int32)), .val (.int (2 : Int32)), .val (.int x1)] [(.int x2), (.int x1)])) _
    refine XS.icmpNo X108.here hx rfl (hb hby dIS3_27) rfl (tlt (h12 : x1 < x2)).2.1 ?_
    show Steps p.tables e below (T108.setTop (mkF m 30 #[.val (.ref a1), .val (.int (0 : Int32)), .val (.int (3 : Int32)), .val (.int (2 : Int32)), .val (.int (2 : Int32)), .val (.int x1)] [])) _
    refine XS.iinc X108.here hx rfl (hb hby dIS3_30) rfl (l' := #[.val (.ref a1), .val (.int (0 : Int32)), .val (.int (3 : Int32)), .val (.int (1 : Int32)), .val (.int (2 : Int32)), .val (.int x1)]) rfl ?_
    show Steps p.tables e below (T108.setTop (mkF m 33 #[.val (.ref a1), .val (.int (0 : Int32)), .val (.int (3 : Int32)), .val (.int (1 : Int32)), .val (.int (2 : Int32)), .val (.int x1)] [])) _
    refine XS.iloadN X108.here hx rfl (hb hby dIS3_33) rfl ?_
    show Steps p.tables e below (T108.setTop (mkF m 34 #[.val (.ref a1), .val (.int (0 : Int32)), .val (.int (3 : Int32)), .val (.int (1 : Int32)), .val (.int (2 : Int32)), .val (.int x1)] [(.int (1 : Int32))])) _
    refine XS.iloadN X108.here hx rfl (hb hby dIS3_34) rfl ?_
    show Steps p.tables e below (T108.setTop (mkF m 35 #[.val (.ref a1), .val (.int (0 : Int32)), .val (.int (3 : Int32)), .val (.int (1 : Int32)), .val (.int (2 : Int32)), .val (.int x1)] [(.int (0 : Int32)), (.int (1 : Int32))])) _
    refine XS.icmpNo X108.here hx rfl (hb hby dIS3_35) rfl (flt ((by decide) : ¬ ((1 : Int32) < (0 : Int32)))).1 ?_
    show Steps p.tables e below (T108.setTop (mkF m 38 #[.val (.ref a1), .val (.int (0 : Int32)), .val (.int (3 : Int32)), .val (.int (1 : Int32)), .val (.int (2 : Int32)), .val (.int x1)] [])) _
    refine XS.iload X108.here hx rfl (hb hby dIS3_38) rfl ?_
    show Steps p.tables e below (T108.setTop (mkF m 40 #[.val (.ref a1), .val (.int (0 : Int32)), .val (.int (3 : Int32)), .val (.int (1 : Int32)), .val (.int (2 : Int32)), .val (.int x1)] [(.int x1)])) _
    refine XS.aloadN X108.here hx rfl (hb hby dIS3_40) rfl rfl ?_
    show Steps p.tables e below (T108.setTop (mkF m 41 #[.val (.ref a1), .val (.int (0 : Int32)), .val (.int (3 : Int32)), .val (.int (1 : Int32)), .val (.int (2 : Int32)), .val (.int x1)] [(.ref a1), (.int x1)])) _
    refine XS.iloadN X108.here hx rfl (hb hby dIS3_41) rfl ?_
    show Steps p.tables e below (T108.setTop (mkF m 42 #[.val (.ref a1), .val (.int (0 : Int32)), .val (.int (3 : Int32)), .val (.int (1 : Int32)), .val (.int (2 : Int32)), .val (.int x1)] [(.int (1 : Int32)), (.ref a1), (.int x1)])) _
    refine X108.iaload hx (j := (1 : Int32)) (v := (.int x2)) (by rw [e108]; exact Ar111.1) (State.isArrayOf_alike hZ.alike Ar111.2.1) Ar111.2.2 (inb_of S111 ⟨by decide, by decide⟩) (H111 1 (by rw [S111]; decide)) (g := (mkF m 42 #[.val (.ref a1), .val (.int (0 : Int32)), .val (.int (3 : Int32)), .val (.int (1 : Int32)), .val (.int (2 : Int32)), .val (.int x1)] [(.int (1 : Int32)), (.ref a1), (.int x1)])) rfl rfl (hb hby dIS3_42) _ ?_
    show Steps p.tables e below (T108.setTop (mkF m 43 #[.val (.ref a1), .val (.int (0 : Int32)), .val (.int (3 : Int32)), .val (.int (1 : Int32)), .val (.int (2 : Int32)), .val (.int x1)] [(.int x2), (.int x1)])) _
    refine XS.icmpNo X108.here hx rfl (hb hby dIS3_43) rfl (tlt (h12 : x1 < x2)).2.1 ?_
    show Steps p.tables e below (T108.setTop (mkF m 46 #[.val (.ref a1), .val (.int (0 : Int32)), .val (.int (3 : Int32)), .val (.int (1 : Int32)), .val (.int (2 : Int32)), .val (.int x1)] [])) _
    refine XS.aloadN X108.here hx rfl (hb hby dIS3_46) rfl rfl ?_
    show Steps p.tables e below (T108.setTop (mkF m 47 #[.val (.ref a1), .val (.int (0 : Int32)), .val (.int (3 : Int32)), .val (.int (1 : Int32)), .val (.int (2 : Int32)), .val (.int x1)] [(.ref a1)])) _
    refine XS.iloadN X108.here hx rfl (hb hby dIS3_47) rfl ?_
    show Steps p.tables e below (T108.setTop (mkF m 48 #[.val (.ref a1), .val (.int (0 : Int32)), .val (.int (3 : Int32)), .val (.int (1 : Int32)), .val (.int (2 : Int32)), .val (.int x1)] [(.int (1 : Int32)), (.ref a1)])) _
    refine XS.iconst X108.here hx rfl (hb hby dIS3_48) ?_
    show Steps p.tables e below (T108.setTop (mkF m 49 #[.val (.ref a1), .val (.int (0 : Int32)), .val (.int (3 : Int32)), .val (.int (1 : Int32)), .val (.int (2 : Int32)), .val (.int x1)] [(.int (1 : Int32)), (.int (1 : Int32)), (.ref a1)])) _
    refine XS.iadd X108.here hx rfl (hb hby dIS3_49) rfl ?_
    show Steps p.tables e below (T108.setTop (mkF m 50 #[.val (.ref a1), .val (.int (0 : Int32)), .val (.int (3 : Int32)), .val (.int (1 : Int32)), .val (.int (2 : Int32)), .val (.int x1)] [(.int (2 : Int32)), (.ref a1)])) _
    refine XS.aloadN X108.here hx rfl (hb hby dIS3_50) rfl rfl ?_
    show Steps p.tables e below (T108.setTop (mkF m 51 #[.val (.ref a1), .val (.int (0 : Int32)), .val (.int (3 : Int32)), .val (.int (1 : Int32)), .val (.int (2 : Int32)), .val (.int x1)] [(.ref a1), (.int (2 : Int32)), (.ref a1)])) _
    refine XS.iloadN X108.here hx rfl (hb hby dIS3_51) rfl ?_
    show Steps p.tables e below (T108.setTop (mkF m 52 #[.val (.ref a1), .val (.int (0 : Int32)), .val (.int (3 : Int32)), .val (.int (1 : Int32)), .val (.int (2 : Int32)), .val (.int x1)] [(.int (1 : Int32)), (.ref a1), (.int (2 : Int32)), (.ref a1)])) _
    refine X108.iaload hx (j := (1 : Int32)) (v := (.int x2)) (by rw [e108]; exact Ar112.1) (State.isArrayOf_alike hZ.alike Ar112.2.1) Ar112.2.2 (inb_of S112 ⟨by decide, by decide⟩) (H112 1 (by rw [S112]; decide)) (g := (mkF m 52 #[.val (.ref a1), .val (.int (0 : Int32)), .val (.int (3 : Int32)), .val (.int (1 : Int32)), .val (.int (2 : Int32)), .val (.int x1)] [(.int (1 : Int32)), (.ref a1), (.int (2 : Int32)), (.ref a1)])) rfl rfl (hb hby dIS3_52) _ ?_
    show Steps p.tables e below (T108.setTop (mkF m 53 #[.val (.ref a1), .val (.int (0 : Int32)), .val (.int (3 : Int32)), .val (.int (1 : Int32)), .val (.int (2 : Int32)), .val (.int x1)] [(.int x2), (.int (2 : Int32)), (.ref a1)])) _
    refine st114 _ ?_
    show Steps p.tables e below (T114.setTop (mkF m 54 #[.val (.ref a1), .val (.int (0 : Int32)), .val (.int (3 : Int32)), .val (.int (1 : Int32)), .val (.int (2 : Int32)), .val (.int x1)] [])) _
    refine XS.goto X114.here hx rfl (pc0 := 54) (pc' := 30) rfl (hb hby dIS3_54) (by decide) (by decide) ?_
    show Steps p.tables e below (T114.setTop (mkF m 30 #[.val (.ref a1), .val (.int (0 : Int32)), .val (.int (3 : Int32)), .val (.int (1 : Int32)), .val (.int (2 : Int32)), .val (.int x1)] [])) _
    refine XS.iinc X114.here hx rfl (hb hby dIS3_30) rfl (l' := #[.val (.ref a1), .val (.int (0 : Int32)), .val (.int (3 : Int32)), .val (.int (0 : Int32)), .val (.int (2 : Int32)), .val (.int x1)]) rfl ?_
    show Steps p.tables e below (T114.setTop (mkF m 33 #[.val (.ref a1), .val (.int (0 : Int32)), .val (.int (3 : Int32)), .val (.int (0 : Int32)), .val (.int (2 : Int32)), .val (.int x1)] [])) _
    refine XS.iloadN X114.here hx rfl (hb hby dIS3_33) rfl ?_
    show Steps p.tables e below (T114.setTop (mkF m 34 #[.val (.ref a1), .val (.int (0 : Int32)), .val (.int (3 : Int32)), .val (.int (0 : Int32)), .val (.int (2 : Int32)), .val (.int x1)] [(.int (0 : Int32))])) _
    refine XS.iloadN X114.here hx rfl (hb hby dIS3_34) rfl ?_
    show Steps p.tables e below (T114.setTop (mkF m 35 #[.val (.ref a1), .val (.int (0 : Int32)), .val (.int (3 : Int32)), .val (.int (0 : Int32)), .val (.int (2 : Int32)), .val (.int x1)] [(.int (0 : Int32)), (.int (0 : Int32))])) _
    refine XS.icmpNo X114.here hx rfl (hb hby dIS3_35) rfl (flt ((by decide) : ¬ ((0 : Int32) < (0 : Int32)))).1 ?_
    show Steps p.tables e below (T114.setTop (mkF m 38 #[.val (.ref a1), .val (.int (0 : Int32)), .val (.int (3 : Int32)), .val (.int (0 : Int32)), .val (.int (2 : Int32)), .val (.int x1)] [])) _
    refine XS.iload X114.here hx rfl (hb hby dIS3_38) rfl ?_
    show Steps p.tables e below (T114.setTop (mkF m 40 #[.val (.ref a1), .val (.int (0 : Int32)), .val (.int (3 : Int32)), .val (.int (0 : Int32)), .val (.int (2 : Int32)), .val (.int x1)] [(.int x1)])) _
    refine XS.aloadN X114.here hx rfl (hb hby dIS3_40) rfl rfl ?_
    show Steps p.tables e below (T114.setTop (mkF m 41 #[.val (.ref a1), .val (.int (0 : Int32)), .val (.int (3 : Int32)), .val (.int (0 : Int32)), .val (.int (2 : Int32)), .val (.int x1)] [(.ref a1), (.int x1)])) _
    refine XS.iloadN X114.here hx rfl (hb hby dIS3_41) rfl ?_
    show Steps p.tables e below (T114.setTop (mkF m 42 #[.val (.ref a1), .val (.int (0 : Int32)), .val (.int (3 : Int32)), .val (.int (0 : Int32)), .val (.int (2 : Int32)), .val (.int x1)] [(.int (0 : Int32)), (.ref a1), (.int x1)])) _
    refine X114.iaload hx (j := (0 : Int32)) (v := (.int x0)) (by rw [e114]; exact Ar115.1) (State.isArrayOf_alike hZ.alike Ar115.2.1) Ar115.2.2 (inb_of S115 ⟨by decide, by decide⟩) (H115 0 (by rw [S115]; decide)) (g := (mkF m 42 #[.val (.ref a1), .val (.int (0 : Int32)), .val (.int (3 : Int32)), .val (.int (0 : Int32)), .val (.int (2 : Int32)), .val (.int x1)] [(.int (0 : Int32)), (.ref a1), (.int x1)])) rfl rfl (hb hby dIS3_42) _ ?_
    show Steps p.tables e below (T114.setTop (mkF m 43 #[.val (.ref a1), .val (.int (0 : Int32)), .val (.int (3 : Int32)), .val (.int (0 : Int32)), .val (.int (2 : Int32)), .val (.int x1)] [(.int x0), (.int x1)])) _
    refine XS.icmpYes X114.here hx rfl (pc0 := 43) (pc' := 57) rfl (hb hby dIS3_43) rfl (flt (Int32.lt_asymm h01 : ¬ (x1 < x0))).2.1 (by decide) (by decide) ?_
    show Steps p.tables e below (T114.setTop (mkF m 57 #[.val (.ref a1), .val (.int (0 : Int32)), .val (.int (3 : Int32)), .val (.int (0 : Int32)), .val (.int (2 : Int32)), .val (.int x1)] [])) _
    refine XS.aloadN X114.here hx rfl (hb hby dIS3_57) rfl rfl ?_
    show Steps p.tables e below (T114.setTop (mkF m 58 #[.val (.ref a1), .val (.int (0 : Int32)), .val (.int (3 : Int32)), .val (.int (0 : Int32)), .val (.int (2 : Int32)), .val (.int x1)] [(.ref a1)])) _
    refine XS.iloadN X114.here hx rfl (hb hby dIS3_58) rfl ?_
    show Steps p.tables e below (T114.setTop (mkF m 59 #[.val (.ref a1), .val (.int (0 : Int32)), .val (.int (3 : Int32)), .val (.int (0 : Int32)), .val (.int (2 : Int32)), .val (.int x1)] [(.int (0 : Int32)), (.ref a1)])) _
    refine XS.iconst X114.here hx rfl (hb hby dIS3_59) ?_
    show Steps p.tables e below (T114.setTop (mkF m 60 #[.val (.ref a1), .val (.int (0 : Int32)), .val (.int (3 : Int32)), .val (.int (0 : Int32)), .val (.int (2 : Int32)), .val (.int x1)] [(.int (1 : Int32)), (.int (0 : Int32)), (.ref a1)])) _
    refine XS.iadd X114.here hx rfl (hb hby dIS3_60) rfl ?_
    show Steps p.tables e below (T114.setTop (mkF m 61 #[.val (.ref a1), .val (.int (0 : Int32)), .val (.int (3 : Int32)), .val (.int (0 : Int32)), .val (.int (2 : Int32)), .val (.int x1)] [(.int (1 : Int32)), (.ref a1)])) _
    refine XS.iload X114.here hx rfl (hb hby dIS3_61) rfl ?_
    show Steps p.tables e below (T114.setTop (mkF m 63 #[.val (.ref a1), .val (.int (0 : Int32)), .val (.int (3 : Int32)), .val (.int (0 : Int32)), .val (.int (2 : Int32)), .val (.int x1)] [(.int x1), (.int (1 : Int32)), (.ref a1)])) _
    refine st117 _ ?_
    show Steps p.tables e below (T117.setTop (mkF m 64 #[.val (.ref a1), .val (.int (0 : Int32)), .val (.int (3 : Int32)), .val (.int (0 : Int32)), .val (.int (2 : Int32)), .val (.int x1)] [])) _
    refine XS.goto X117.here hx rfl (pc0 := 64) (pc' := 3) rfl (hb hby dIS3_64) (by decide) (by decide) ?_
    show Steps p.tables e below (T117.setTop (mkF m 3 #[.val (.ref a1), .val (.int (0 : Int32)), .val (.int (3 : Int32)), .val (.int (0 : Int32)), .val (.int (2 : Int32)), .val (.int x1)] [])) _
    refine XS.iinc X117.here hx rfl (hb hby dIS3_3) rfl (l' := #[.val (.ref a1), .val (.int (0 : Int32)), .val (.int (3 : Int32)), .val (.int (0 : Int32)), .val (.int (3 : Int32)), .val (.int x1)]) rfl ?_
    show Steps p.tables e below (T117.setTop (mkF m 6 #[.val (.ref a1), .val (.int (0 : Int32)), .val (.int (3 : Int32)), .val (.int (0 : Int32)), .val (.int (3 : Int32)), .val (.int x1)] [])) _
    refine XS.iload X117.here hx rfl (hb hby dIS3_6) rfl ?_
    show Steps p.tables e below (T117.setTop (mkF m 8 #[.val (.ref a1), .val (.int (0 : Int32)), .val (.int (3 : Int32)), .val (.int (0 : Int32)), .val (.int (3 : Int32)), .val (.int x1)] [(.int (3 : Int32))])) _
    refine XS.iloadN X117.here hx rfl (hb hby dIS3_8) rfl ?_
    show Steps p.tables e below (T117.setTop (mkF m 9 #[.val (.ref a1), .val (.int (0 : Int32)), .val (.int (3 : Int32)), .val (.int (0 : Int32)), .val (.int (3 : Int32)), .val (.int x1)] [(.int (3 : Int32)), (.int (3 : Int32))])) _
    refine XS.icmpYes X117.here hx rfl (pc0 := 9) (pc' := 67) rfl (hb hby dIS3_9) rfl (flt ((by decide) : ¬ ((3 : Int32) < (3 : Int32)))).2.1 (by decide) (by decide) ?_
    exact kt)
  obtain ⟨fs, hr, hrun, hended, hW, hsame⟩ := X117.leave (v := none) (fun _ => rfl) (hlocks := hlk)
  refine ⟨_, _, P118 _ ?_, hrun, hended, _, _, rfl, ?_, ⟨_, rfl⟩, hW, hsame.mono (by decide) (by decide)⟩
  · show Steps p.tables e below (T117.setTop (mkF m 67 #[.val (.ref a1), .val (.int (0 : Int32)), .val (.int (3 : Int32)), .val (.int (0 : Int32)), .val (.int (3 : Int32)), .val (.int x1)] [])) _
    exact X117.returnOut hx Bd.returns (hb hby dIS3_67) hr
  · show QS Z a1 k (3 : Int32) [(.int x0), (.int x1), (.int x2)] h0 n0 _ T117.heap _
    rw [e117]
    exact ⟨rfl, N117, K117, V117⟩
theorem dS53_0 : decode jdk_2529_method_4_code 0 = .ok (.iload 4, 2) := by decide +kernel
theorem dS53_2 : decode jdk_2529_method_4_code 2 = .ok (.iconst 1, 1) := by decide +kernel
theorem dS53_3 : decode jdk_2529_method_4_code 3 = .ok (.isub, 1) := by decide +kernel
theorem dS53_4 : decode jdk_2529_method_4_code 4 = .ok (.istore 5, 2) := by decide +kernel
theorem dS53_6 : decode jdk_2529_method_4_code 6 = .ok (.iload 4, 2) := by decide +kernel
theorem dS53_8 : decode jdk_2529_method_4_code 8 = .ok (.iload_n 3, 1) := by decide +kernel
theorem dS53_9 : decode jdk_2529_method_4_code 9 = .ok (.isub, 1) := by decide +kernel
theorem dS53_10 : decode jdk_2529_method_4_code 10 = .ok (.istore 6, 2) := by decide +kernel
theorem dS53_12 : decode jdk_2529_method_4_code 12 = .ok (.iload 6, 2) := by decide +kernel
theorem dS53_14 : decode jdk_2529_method_4_code 14 = .ok (.bipush 65, 2) := by decide +kernel
theorem dS53_16 : decode jdk_2529_method_4_code 16 = .ok (.iload_n 2, 1) := by decide +kernel
theorem dS53_17 : decode jdk_2529_method_4_code 17 = .ok (.iadd, 1) := by decide +kernel
theorem dS53_18 : decode jdk_2529_method_4_code 18 = .ok (.if_icmp .ge 28, 3) := by decide +kernel
theorem dS53_21 : decode jdk_2529_method_4_code 21 = .ok (.iload_n 2, 1) := by decide +kernel
theorem dS53_22 : decode jdk_2529_method_4_code 22 = .ok (.iconst 1, 1) := by decide +kernel
theorem dS53_23 : decode jdk_2529_method_4_code 23 = .ok (.iand, 1) := by decide +kernel
theorem dS53_24 : decode jdk_2529_method_4_code 24 = .ok (.ifCond .le 22, 3) := by decide +kernel
theorem dS53_46 : decode jdk_2529_method_4_code 46 = .ok (.iload 6, 2) := by decide +kernel
theorem dS53_48 : decode jdk_2529_method_4_code 48 = .ok (.bipush 44, 2) := by decide +kernel
theorem dS53_50 : decode jdk_2529_method_4_code 50 = .ok (.if_icmp .ge 11, 3) := by decide +kernel
theorem dS53_53 : decode jdk_2529_method_4_code 53 = .ok (.aload_n 1, 1) := by decide +kernel
theorem dS53_54 : decode jdk_2529_method_4_code 54 = .ok (.iload_n 3, 1) := by decide +kernel
theorem dS53_55 : decode jdk_2529_method_4_code 55 = .ok (.iload 4, 2) := by decide +kernel
theorem dS53_57 : decode jdk_2529_method_4_code 57 = .ok (.invokestatic 34, 3) := by decide +kernel
theorem dS53_60 : decode jdk_2529_method_4_code 60 = .ok (.return_, 1) := by decide +kernel
theorem ef_S53 (m : MethodId) (x1 : Addr) : entryFrame m #[.null, (.ref x1), (.int (0 : Int32)), (.int (0 : Int32)), (.int (3 : Int32))] 21 = mkF m 0 #[.val .null, .val (.ref x1), .val (.int (0 : Int32)), .val (.int (0 : Int32)), .val (.int (3 : Int32)), .unset, .unset, .unset, .unset, .unset, .unset, .unset, .unset, .unset, .unset, .unset, .unset, .unset, .unset, .unset, .unset] [] := by first | (simp [entryFrame, mkF, argsToLocals, Value.category]; done) | rfl
set_option maxRecDepth 65536 in
set_option maxHeartbeats 40000000 in
theorem rmS53 (l : Launch) (Z : State) (a0 : Array Value) (hw : ∀ d ∈ tables_1, d.before a0 Z = true) (ws : List Jvm.Cond) (a1 : Addr) (k : ClassId) (x0 x1 x2 : Int32) (h0 : Heap) (n0 : Nat) (Z0 : n0 ≤ h0.size) (V1 : Arv Z h0 a1 k .int (3 : Int32) [(.int x2), (.int x0), (.int x1)] (.int (0 : Int32))) (ga : n0 ≤ a1) (h01 : x0 < x1) (h02 : x0 < x2) (h12 : x1 < x2) :
    MetFree l (⟨"java/util/DualPivotQuicksort", "sort", "(Ljava/util/DualPivotQuicksort$Sorter;[IIII)V"⟩ : MethodName) (head1 (Jvm.Cond.code (⟨"java/util/DualPivotQuicksort", "sort", "(Ljava/util/DualPivotQuicksort$Sorter;[IIII)V"⟩ : MethodName) jdk_2529_method_4_code 21 none :: ws) ({ frames := 1, cells := 0, slots := 0, locals := 17 } : Room)) (fun a U => a = #[.null, (.ref a1), (.int (0 : Int32)), (.int (0 : Int32)), (.int (3 : Int32))] ∧ Z.Warmed39 U.vm ∧ U.heap = h0) (fun _ _ _ _ _ => True) (fun _ U o U' => ∃ v L, o = .returned v ∧ QS Z a1 k (3 : Int32) [(.int x0), (.int x1), (.int x2)] h0 n0 v U'.heap L ∧ FrameEnd U o U' L ({ frames := 1, cells := 0, slots := 0, locals := 17 } : Room).cells ({ frames := 1, cells := 0, slots := 0, locals := 17 } : Room).slots) := by
  refine MetFree.of_bodySF (plainFor_of_name (by first | (simp [plainName, overriddenIn]; done) | decide +kernel)) hisR ?_
  intro p e s m args below meth c s₁ Bd hml0 hP hK
  obtain ⟨rfl, hZ, hh⟩ := hP
  have hx := Bd.exec
  have hby := Bd.bytes
  have hml : c.maxLocals = 21 := hml0
  have hown : s.vm.findClass "java/util/DualPivotQuicksort" = some m.cls := findClass_of_methodNamed Bd.named
  have hnm := (name_of_methodNamed Bd.named Bd.method).1
  have hlk : meth.locks = false := BodyLoose.notSynchronized Bd
  have X0 : Stand p l e ({ frames := 1, cells := 0, slots := 0, locals := 17 } : Room) s m #[.null, (.ref a1), (.int (0 : Int32)), (.int (0 : Int32)), (.int (3 : Int32))] below meth c s₁ [] 0 0 := Stand.of_body Bd
  have e0 : s₁.heap = h0 := by rw [← hh, Bd.state]; rfl
  have P0 : ∀ t, Steps p.tables e below (s₁.setTop (mkF m 0 #[.val .null, .val (.ref a1), .val (.int (0 : Int32)), .val (.int (0 : Int32)), .val (.int (3 : Int32)), .unset, .unset, .unset, .unset, .unset, .unset, .unset, .unset, .unset, .unset, .unset, .unset, .unset, .unset, .unset, .unset] [])) t → Steps p.tables e below (s₁.setTop (entryFrame m #[.null, (.ref a1), (.int (0 : Int32)), (.int (0 : Int32)), (.int (3 : Int32))] 21)) t := fun t kt => castTop (ef_S53 m a1) kt
  have N0 := Fr.nil n0
  have K0 := Keep.refl h0 [a1]
  obtain ⟨_, _, ⟨T101, L101, k101, n101⟩, -, X101, ⟨Lc101, hQ101, l101, y101, z101⟩, st101⟩ := Jvm.LawKit.callS X0 hx (y := (⟨"java/util/DualPivotQuicksort", "insertionSort", "([III)V"⟩ : MethodName)) hown (mvT hZ (hw _ (List.mem_of_getElem? (i := 53) rfl))) (mvT hZ (hw _ (List.mem_of_getElem? (i := 54) rfl))) (mvT hZ (hw _ (List.mem_of_getElem? (i := 48) rfl))) (mvT hZ (hw _ (List.mem_of_getElem? (i := 55) rfl))) (by decide) (backOf (W := 0)  (rmIS3 l Z a0 hw [] a1 k x0 x1 x2 h0 n0 Z0 V1 ga h01 h02 h12) hZ (hw _ (List.mem_of_getElem? (i := 55) rfl)) (hw _ (List.mem_of_getElem? (i := 48) rfl)) (by decide) (by decide)) (g := (mkF m 57 #[.val .null, .val (.ref a1), .val (.int (0 : Int32)), .val (.int (0 : Int32)), .val (.int (3 : Int32)), .val (.int (2 : Int32)), .val (.int (3 : Int32)), .unset, .unset, .unset, .unset, .unset, .unset, .unset, .unset, .unset, .unset, .unset, .unset, .unset, .unset] [(.int (3 : Int32)), (.int (0 : Int32)), (.ref a1)])) rfl (by rw [hml]; rfl) (argsL := [(.ref a1), (.int (0 : Int32)), (.int (3 : Int32))]) (rest := []) (lenOf pd___III_V rfl) rfl (by show 2 * 0 + _ ≤ _; exact Nat.le_of_eq rfl) (hb hby dS53_57) (fun _ _ => ⟨rfl, e0, (by decide : 0 + 0 ≤ _), (by decide : 0 + 0 ≤ _)⟩)
  dsimp only [Pt.U, Pt.locs, Pt.cells, Pt.slots] at X101 l101 y101 z101 st101 hQ101
  subst l101 y101 z101
  obtain ⟨rfl, Nq101, K101x, V101x⟩ := hQ101
  have N101 := Fr.app N0 Nq101
  have sz101 : n0 ≤ T101.heap.size := Nat.le_trans Z0 K101x.1
  have K101 : Keep h0 T101.heap [a1] := K0.trans K101x (fun x hx => by cases List.mem_singleton.mp hx; exact Or.inl (List.mem_of_getElem? (i := 0) rfl))
  have P102 : ∀ t, Steps p.tables e below (T101.setTop (mkF m 60 #[.val .null, .val (.ref a1), .val (.int (0 : Int32)), .val (.int (0 : Int32)), .val (.int (3 : Int32)), .val (.int (2 : Int32)), .val (.int (3 : Int32)), .unset, .unset, .unset, .unset, .unset, .unset, .unset, .unset, .unset, .unset, .unset, .unset, .unset, .unset] [])) t → Steps p.tables e below (s₁.setTop (entryFrame m #[.null, (.ref a1), (.int (0 : Int32)), (.int (0 : Int32)), (.int (3 : Int32))] 21)) t := fun t kt => P0 t (by
    show Steps p.tables e below (s₁.setTop (mkF m 0 #[.val .null, .val (.ref a1), .val (.int (0 : Int32)), .val (.int (0 : Int32)), .val (.int (3 : Int32)), .unset, .unset, .unset, .unset, .unset, .unset, .unset, .unset, .unset, .unset, .unset, .unset, .unset, .unset, .unset, .unset] [])) _
    refine XS.iload X0.here hx rfl (hb hby dS53_0) rfl ?_
    show Steps p.tables e below (s₁.setTop (mkF m 2 #[.val .null, .val (.ref a1), .val (.int (0 : Int32)), .val (.int (0 : Int32)), .val (.int (3 : Int32)), .unset, .unset, .unset, .unset, .unset, .unset, .unset, .unset, .unset, .unset, .unset, .unset, .unset, .unset, .unset, .unset] [(.int (3 : Int32))])) _
    refine XS.iconst X0.here hx rfl (hb hby dS53_2) ?_
    show Steps p.tables e below (s₁.setTop (mkF m 3 #[.val .null, .val (.ref a1), .val (.int (0 : Int32)), .val (.int (0 : Int32)), .val (.int (3 : Int32)), .unset, .unset, .unset, .unset, .unset, .unset, .unset, .unset, .unset, .unset, .unset, .unset, .unset, .unset, .unset, .unset] [(.int (1 : Int32)), (.int (3 : Int32))])) _
    refine XS.isub X0.here hx rfl (hb hby dS53_3) rfl ?_
    show Steps p.tables e below (s₁.setTop (mkF m 4 #[.val .null, .val (.ref a1), .val (.int (0 : Int32)), .val (.int (0 : Int32)), .val (.int (3 : Int32)), .unset, .unset, .unset, .unset, .unset, .unset, .unset, .unset, .unset, .unset, .unset, .unset, .unset, .unset, .unset, .unset] [(.int (2 : Int32))])) _
    refine XS.istore X0.here hx rfl (hb hby dS53_4) rfl (l' := #[.val .null, .val (.ref a1), .val (.int (0 : Int32)), .val (.int (0 : Int32)), .val (.int (3 : Int32)), .val (.int (2 : Int32)), .unset, .unset, .unset, .unset, .unset, .unset, .unset, .unset, .unset, .unset, .unset, .unset, .unset, .unset, .unset]) rfl ?_
    show Steps p.tables e below (s₁.setTop (mkF m 6 #[.val .null, .val (.ref a1), .val (.int (0 : Int32)), .val (.int (0 : Int32)), .val (.int (3 : Int32)), .val (.int (2 : Int32)), .unset, .unset, .unset, .unset, .unset, .unset, .unset, .unset, .unset, .unset, .unset, .unset, .unset, .unset, .unset] [])) _
    refine XS.iload X0.here hx rfl (hb hby dS53_6) rfl ?_
    show Steps p.tables e below (s₁.setTop (mkF m 8 #[.val .null, .val (.ref a1), .val (.int (0 : Int32)), .val (.int (0 : Int32)), .val (.int (3 : Int32)), .val (.int (2 : Int32)), .unset, .unset, .unset, .unset, .unset, .unset, .unset, .unset, .unset, .unset, .unset, .unset, .unset, .unset, .unset] [(.int (3 : Int32))])) _
    refine XS.iloadN X0.here hx rfl (hb hby dS53_8) rfl ?_
    show Steps p.tables e below (s₁.setTop (mkF m 9 #[.val .null, .val (.ref a1), .val (.int (0 : Int32)), .val (.int (0 : Int32)), .val (.int (3 : Int32)), .val (.int (2 : Int32)), .unset, .unset, .unset, .unset, .unset, .unset, .unset, .unset, .unset, .unset, .unset, .unset, .unset, .unset, .unset] [(.int (0 : Int32)), (.int (3 : Int32))])) _
    refine XS.isub X0.here hx rfl (hb hby dS53_9) rfl ?_
    show Steps p.tables e below (s₁.setTop (mkF m 10 #[.val .null, .val (.ref a1), .val (.int (0 : Int32)), .val (.int (0 : Int32)), .val (.int (3 : Int32)), .val (.int (2 : Int32)), .unset, .unset, .unset, .unset, .unset, .unset, .unset, .unset, .unset, .unset, .unset, .unset, .unset, .unset, .unset] [(.int (3 : Int32))])) _
    refine XS.istore X0.here hx rfl (hb hby dS53_10) rfl (l' := #[.val .null, .val (.ref a1), .val (.int (0 : Int32)), .val (.int (0 : Int32)), .val (.int (3 : Int32)), .val (.int (2 : Int32)), .val (.int (3 : Int32)), .unset, .unset, .unset, .unset, .unset, .unset, .unset, .unset, .unset, .unset, .unset, .unset, .unset, .unset]) rfl ?_
    show Steps p.tables e below (s₁.setTop (mkF m 12 #[.val .null, .val (.ref a1), .val (.int (0 : Int32)), .val (.int (0 : Int32)), .val (.int (3 : Int32)), .val (.int (2 : Int32)), .val (.int (3 : Int32)), .unset, .unset, .unset, .unset, .unset, .unset, .unset, .unset, .unset, .unset, .unset, .unset, .unset, .unset] [])) _
    refine XS.iload X0.here hx rfl (hb hby dS53_12) rfl ?_
    show Steps p.tables e below (s₁.setTop (mkF m 14 #[.val .null, .val (.ref a1), .val (.int (0 : Int32)), .val (.int (0 : Int32)), .val (.int (3 : Int32)), .val (.int (2 : Int32)), .val (.int (3 : Int32)), .unset, .unset, .unset, .unset, .unset, .unset, .unset, .unset, .unset, .unset, .unset, .unset, .unset, .unset] [(.int (3 : Int32))])) _
    refine XS.bipush X0.here hx rfl (hb hby dS53_14) ?_
    show Steps p.tables e below (s₁.setTop (mkF m 16 #[.val .null, .val (.ref a1), .val (.int (0 : Int32)), .val (.int (0 : Int32)), .val (.int (3 : Int32)), .val (.int (2 : Int32)), .val (.int (3 : Int32)), .unset, .unset, .unset, .unset, .unset, .unset, .unset, .unset, .unset, .unset, .unset, .unset, .unset, .unset] [(.int (65 : Int32)), (.int (3 : Int32))])) _
    refine XS.iloadN X0.here hx rfl (hb hby dS53_16) rfl ?_
    show Steps p.tables e below (s₁.setTop (mkF m 17 #[.val .null, .val (.ref a1), .val (.int (0 : Int32)), .val (.int (0 : Int32)), .val (.int (3 : Int32)), .val (.int (2 : Int32)), .val (.int (3 : Int32)), .unset, .unset, .unset, .unset, .unset, .unset, .unset, .unset, .unset, .unset, .unset, .unset, .unset, .unset] [(.int (0 : Int32)), (.int (65 : Int32)), (.int (3 : Int32))])) _
    refine XS.iadd X0.here hx rfl (hb hby dS53_17) rfl ?_
    show Steps p.tables e below (s₁.setTop (mkF m 18 #[.val .null, .val (.ref a1), .val (.int (0 : Int32)), .val (.int (0 : Int32)), .val (.int (3 : Int32)), .val (.int (2 : Int32)), .val (.int (3 : Int32)), .unset, .unset, .unset, .unset, .unset, .unset, .unset, .unset, .unset, .unset, .unset, .unset, .unset, .unset] [(.int (65 : Int32)), (.int (3 : Int32))])) _
    refine XS.icmpNo X0.here hx rfl (hb hby dS53_18) rfl (tlt ((by decide) : (3 : Int32) < (65 : Int32))).2.1 ?_
    show Steps p.tables e below (s₁.setTop (mkF m 21 #[.val .null, .val (.ref a1), .val (.int (0 : Int32)), .val (.int (0 : Int32)), .val (.int (3 : Int32)), .val (.int (2 : Int32)), .val (.int (3 : Int32)), .unset, .unset, .unset, .unset, .unset, .unset, .unset, .unset, .unset, .unset, .unset, .unset, .unset, .unset] [])) _
    refine XS.iloadN X0.here hx rfl (hb hby dS53_21) rfl ?_
    show Steps p.tables e below (s₁.setTop (mkF m 22 #[.val .null, .val (.ref a1), .val (.int (0 : Int32)), .val (.int (0 : Int32)), .val (.int (3 : Int32)), .val (.int (2 : Int32)), .val (.int (3 : Int32)), .unset, .unset, .unset, .unset, .unset, .unset, .unset, .unset, .unset, .unset, .unset, .unset, .unset, .unset] [(.int (0 : Int32))])) _
    refine XS.iconst X0.here hx rfl (hb hby dS53_22) ?_
    show Steps p.tables e below (s₁.setTop (mkF m 23 #[.val .null, .val (.ref a1), .val (.int (0 : Int32)), .val (.int (0 : Int32)), .val (.int (3 : Int32)), .val (.int (2 : Int32)), .val (.int (3 : Int32)), .unset, .unset, .unset, .unset, .unset, .unset, .unset, .unset, .unset, .unset, .unset, .unset, .unset, .unset] [(.int (1 : Int32)), (.int (0 : Int32))])) _
    refine XS.iand X0.here hx rfl (hb hby dS53_23) rfl ?_
    show Steps p.tables e below (s₁.setTop (mkF m 24 #[.val .null, .val (.ref a1), .val (.int (0 : Int32)), .val (.int (0 : Int32)), .val (.int (3 : Int32)), .val (.int (2 : Int32)), .val (.int (3 : Int32)), .unset, .unset, .unset, .unset, .unset, .unset, .unset, .unset, .unset, .unset, .unset, .unset, .unset, .unset] [(.int (0 : Int32))])) _
    refine XS.ifYes X0.here hx rfl (pc0 := 24) (pc' := 46) rfl (hb hby dS53_24) rfl ((if0 _ _).trans (flt ((by decide) : ¬ ((0 : Int32) < (0 : Int32)))).2.2.2) (by decide) (by decide) ?_
    show Steps p.tables e below (s₁.setTop (mkF m 46 #[.val .null, .val (.ref a1), .val (.int (0 : Int32)), .val (.int (0 : Int32)), .val (.int (3 : Int32)), .val (.int (2 : Int32)), .val (.int (3 : Int32)), .unset, .unset, .unset, .unset, .unset, .unset, .unset, .unset, .unset, .unset, .unset, .unset, .unset, .unset] [])) _
    refine XS.iload X0.here hx rfl (hb hby dS53_46) rfl ?_
    show Steps p.tables e below (s₁.setTop (mkF m 48 #[.val .null, .val (.ref a1), .val (.int (0 : Int32)), .val (.int (0 : Int32)), .val (.int (3 : Int32)), .val (.int (2 : Int32)), .val (.int (3 : Int32)), .unset, .unset, .unset, .unset, .unset, .unset, .unset, .unset, .unset, .unset, .unset, .unset, .unset, .unset] [(.int (3 : Int32))])) _
    refine XS.bipush X0.here hx rfl (hb hby dS53_48) ?_
    show Steps p.tables e below (s₁.setTop (mkF m 50 #[.val .null, .val (.ref a1), .val (.int (0 : Int32)), .val (.int (0 : Int32)), .val (.int (3 : Int32)), .val (.int (2 : Int32)), .val (.int (3 : Int32)), .unset, .unset, .unset, .unset, .unset, .unset, .unset, .unset, .unset, .unset, .unset, .unset, .unset, .unset] [(.int (44 : Int32)), (.int (3 : Int32))])) _
    refine XS.icmpNo X0.here hx rfl (hb hby dS53_50) rfl (tlt ((by decide) : (3 : Int32) < (44 : Int32))).2.1 ?_
    show Steps p.tables e below (s₁.setTop (mkF m 53 #[.val .null, .val (.ref a1), .val (.int (0 : Int32)), .val (.int (0 : Int32)), .val (.int (3 : Int32)), .val (.int (2 : Int32)), .val (.int (3 : Int32)), .unset, .unset, .unset, .unset, .unset, .unset, .unset, .unset, .unset, .unset, .unset, .unset, .unset, .unset] [])) _
    refine XS.aloadN X0.here hx rfl (hb hby dS53_53) rfl rfl ?_
    show Steps p.tables e below (s₁.setTop (mkF m 54 #[.val .null, .val (.ref a1), .val (.int (0 : Int32)), .val (.int (0 : Int32)), .val (.int (3 : Int32)), .val (.int (2 : Int32)), .val (.int (3 : Int32)), .unset, .unset, .unset, .unset, .unset, .unset, .unset, .unset, .unset, .unset, .unset, .unset, .unset, .unset] [(.ref a1)])) _
    refine XS.iloadN X0.here hx rfl (hb hby dS53_54) rfl ?_
    show Steps p.tables e below (s₁.setTop (mkF m 55 #[.val .null, .val (.ref a1), .val (.int (0 : Int32)), .val (.int (0 : Int32)), .val (.int (3 : Int32)), .val (.int (2 : Int32)), .val (.int (3 : Int32)), .unset, .unset, .unset, .unset, .unset, .unset, .unset, .unset, .unset, .unset, .unset, .unset, .unset, .unset] [(.int (0 : Int32)), (.ref a1)])) _
    refine XS.iload X0.here hx rfl (hb hby dS53_55) rfl ?_
    show Steps p.tables e below (s₁.setTop (mkF m 57 #[.val .null, .val (.ref a1), .val (.int (0 : Int32)), .val (.int (0 : Int32)), .val (.int (3 : Int32)), .val (.int (2 : Int32)), .val (.int (3 : Int32)), .unset, .unset, .unset, .unset, .unset, .unset, .unset, .unset, .unset, .unset, .unset, .unset, .unset, .unset] [(.int (3 : Int32)), (.int (0 : Int32)), (.ref a1)])) _
    refine st101 _ ?_
    exact kt)
  obtain ⟨fs, hr, hrun, hended, hW, hsame⟩ := X101.leave (v := none) (fun _ => rfl) (hlocks := hlk)
  refine ⟨_, _, P102 _ ?_, hrun, hended, _, _, rfl, ?_, ⟨_, rfl⟩, hW, hsame.mono (by decide) (by decide)⟩
  · show Steps p.tables e below (T101.setTop (mkF m 60 #[.val .null, .val (.ref a1), .val (.int (0 : Int32)), .val (.int (0 : Int32)), .val (.int (3 : Int32)), .val (.int (2 : Int32)), .val (.int (3 : Int32)), .unset, .unset, .unset, .unset, .unset, .unset, .unset, .unset, .unset, .unset, .unset, .unset, .unset, .unset] [])) _
    exact X101.returnOut hx Bd.returns (hb hby dS53_60) hr
  · show QS Z a1 k (3 : Int32) [(.int x0), (.int x1), (.int x2)] h0 n0 _ T101.heap _
    skip
    exact ⟨rfl, N101, K101, V101x⟩
theorem dS43_0 : decode jdk_2529_method_3_code 0 = .ok (.iload_n 3, 1) := by decide +kernel
theorem dS43_1 : decode jdk_2529_method_3_code 1 = .ok (.iload_n 2, 1) := by decide +kernel
theorem dS43_2 : decode jdk_2529_method_3_code 2 = .ok (.isub, 1) := by decide +kernel
theorem dS43_3 : decode jdk_2529_method_3_code 3 = .ok (.istore 4, 2) := by decide +kernel
theorem dS43_5 : decode jdk_2529_method_3_code 5 = .ok (.iload_n 1, 1) := by decide +kernel
theorem dS43_6 : decode jdk_2529_method_3_code 6 = .ok (.iconst 1, 1) := by decide +kernel
theorem dS43_7 : decode jdk_2529_method_3_code 7 = .ok (.if_icmp .le 61, 3) := by decide +kernel
theorem dS43_68 : decode jdk_2529_method_3_code 68 = .ok (.aconst_null, 1) := by decide +kernel
theorem dS43_69 : decode jdk_2529_method_3_code 69 = .ok (.aload_n 0, 1) := by decide +kernel
theorem dS43_70 : decode jdk_2529_method_3_code 70 = .ok (.iconst 0, 1) := by decide +kernel
theorem dS43_71 : decode jdk_2529_method_3_code 71 = .ok (.iload_n 2, 1) := by decide +kernel
theorem dS43_72 : decode jdk_2529_method_3_code 72 = .ok (.iload_n 3, 1) := by decide +kernel
theorem dS43_73 : decode jdk_2529_method_3_code 73 = .ok (.invokestatic 26, 3) := by decide +kernel
theorem dS43_76 : decode jdk_2529_method_3_code 76 = .ok (.return_, 1) := by decide +kernel
theorem ef_S43 (m : MethodId) (x0 : Addr) : entryFrame m #[(.ref x0), (.int (0 : Int32)), (.int (0 : Int32)), (.int (3 : Int32))] 7 = mkF m 0 #[.val (.ref x0), .val (.int (0 : Int32)), .val (.int (0 : Int32)), .val (.int (3 : Int32)), .unset, .unset, .unset] [] := by first | (simp [entryFrame, mkF, argsToLocals, Value.category]; done) | rfl
set_option maxRecDepth 65536 in
set_option maxHeartbeats 40000000 in
theorem rmS43 (l : Launch) (Z : State) (a0 : Array Value) (hw : ∀ d ∈ tables_1, d.before a0 Z = true) (ws : List Jvm.Cond) (a1 : Addr) (k : ClassId) (x0 x1 x2 : Int32) (h0 : Heap) (n0 : Nat) (Z0 : n0 ≤ h0.size) (V1 : Arv Z h0 a1 k .int (3 : Int32) [(.int x2), (.int x0), (.int x1)] (.int (0 : Int32))) (ga : n0 ≤ a1) (h01 : x0 < x1) (h02 : x0 < x2) (h12 : x1 < x2) :
    MetFree l (⟨"java/util/DualPivotQuicksort", "sort", "([IIII)V"⟩ : MethodName) (head1 (Jvm.Cond.code (⟨"java/util/DualPivotQuicksort", "sort", "([IIII)V"⟩ : MethodName) jdk_2529_method_3_code 7 none :: ws) ({ frames := 2, cells := 0, slots := 0, locals := 49 } : Room)) (fun a U => a = #[(.ref a1), (.int (0 : Int32)), (.int (0 : Int32)), (.int (3 : Int32))] ∧ Z.Warmed39 U.vm ∧ U.heap = h0) (fun _ _ _ _ _ => True) (fun _ U o U' => ∃ v L, o = .returned v ∧ QS Z a1 k (3 : Int32) [(.int x0), (.int x1), (.int x2)] h0 n0 v U'.heap L ∧ FrameEnd U o U' L ({ frames := 2, cells := 0, slots := 0, locals := 49 } : Room).cells ({ frames := 2, cells := 0, slots := 0, locals := 49 } : Room).slots) := by
  refine MetFree.of_bodySF (plainFor_of_name (by first | (simp [plainName, overriddenIn]; done) | decide +kernel)) hisR ?_
  intro p e s m args below meth c s₁ Bd hml0 hP hK
  obtain ⟨rfl, hZ, hh⟩ := hP
  have hx := Bd.exec
  have hby := Bd.bytes
  have hml : c.maxLocals = 7 := hml0
  have hown : s.vm.findClass "java/util/DualPivotQuicksort" = some m.cls := findClass_of_methodNamed Bd.named
  have hnm := (name_of_methodNamed Bd.named Bd.method).1
  have hlk : meth.locks = false := BodyLoose.notSynchronized Bd
  have X0 : Stand p l e ({ frames := 2, cells := 0, slots := 0, locals := 49 } : Room) s m #[(.ref a1), (.int (0 : Int32)), (.int (0 : Int32)), (.int (3 : Int32))] below meth c s₁ [] 0 0 := Stand.of_body Bd
  have e0 : s₁.heap = h0 := by rw [← hh, Bd.state]; rfl
  have P0 : ∀ t, Steps p.tables e below (s₁.setTop (mkF m 0 #[.val (.ref a1), .val (.int (0 : Int32)), .val (.int (0 : Int32)), .val (.int (3 : Int32)), .unset, .unset, .unset] [])) t → Steps p.tables e below (s₁.setTop (entryFrame m #[(.ref a1), (.int (0 : Int32)), (.int (0 : Int32)), (.int (3 : Int32))] 7)) t := fun t kt => castTop (ef_S43 m a1) kt
  have N0 := Fr.nil n0
  have K0 := Keep.refl h0 [a1]
  obtain ⟨_, _, ⟨T101, L101, k101, n101⟩, -, X101, ⟨Lc101, hQ101, l101, y101, z101⟩, st101⟩ := Jvm.LawKit.callS X0 hx (y := (⟨"java/util/DualPivotQuicksort", "sort", "(Ljava/util/DualPivotQuicksort$Sorter;[IIII)V"⟩ : MethodName)) hown (mvT hZ (hw _ (List.mem_of_getElem? (i := 50) rfl))) (mvT hZ (hw _ (List.mem_of_getElem? (i := 51) rfl))) (mvT hZ (hw _ (List.mem_of_getElem? (i := 48) rfl))) (mvT hZ (hw _ (List.mem_of_getElem? (i := 52) rfl))) (by decide) (backOf (W := 0)  (rmS53 l Z a0 hw [] a1 k x0 x1 x2 h0 n0 Z0 V1 ga h01 h02 h12) hZ (hw _ (List.mem_of_getElem? (i := 52) rfl)) (hw _ (List.mem_of_getElem? (i := 48) rfl)) (by decide) (by decide)) (g := (mkF m 73 #[.val (.ref a1), .val (.int (0 : Int32)), .val (.int (0 : Int32)), .val (.int (3 : Int32)), .val (.int (3 : Int32)), .unset, .unset] [(.int (3 : Int32)), (.int (0 : Int32)), (.int (0 : Int32)), (.ref a1), .null])) rfl (by rw [hml]; rfl) (argsL := [.null, (.ref a1), (.int (0 : Int32)), (.int (0 : Int32)), (.int (3 : Int32))]) (rest := []) (lenOf pd__Ljava_util_DualPivotQuicksort_Sorter__IIII_V rfl) rfl (by show 2 * 0 + _ ≤ _; exact Nat.le_of_eq rfl) (hb hby dS43_73) (fun _ _ => ⟨rfl, e0, (by decide : 0 + 0 ≤ _), (by decide : 0 + 0 ≤ _)⟩)
  dsimp only [Pt.U, Pt.locs, Pt.cells, Pt.slots] at X101 l101 y101 z101 st101 hQ101
  subst l101 y101 z101
  obtain ⟨rfl, Nq101, K101x, V101x⟩ := hQ101
  have N101 := Fr.app N0 Nq101
  have sz101 : n0 ≤ T101.heap.size := Nat.le_trans Z0 K101x.1
  have K101 : Keep h0 T101.heap [a1] := K0.trans K101x (fun x hx => by cases List.mem_singleton.mp hx; exact Or.inl (List.mem_of_getElem? (i := 0) rfl))
  have P102 : ∀ t, Steps p.tables e below (T101.setTop (mkF m 76 #[.val (.ref a1), .val (.int (0 : Int32)), .val (.int (0 : Int32)), .val (.int (3 : Int32)), .val (.int (3 : Int32)), .unset, .unset] [])) t → Steps p.tables e below (s₁.setTop (entryFrame m #[(.ref a1), (.int (0 : Int32)), (.int (0 : Int32)), (.int (3 : Int32))] 7)) t := fun t kt => P0 t (by
    show Steps p.tables e below (s₁.setTop (mkF m 0 #[.val (.ref a1), .val (.int (0 : Int32)), .val (.int (0 : Int32)), .val (.int (3 : Int32)), .unset, .unset, .unset] [])) _
    refine XS.iloadN X0.here hx rfl (hb hby dS43_0) rfl ?_
    show Steps p.tables e below (s₁.setTop (mkF m 1 #[.val (.ref a1), .val (.int (0 : Int32)), .val (.int (0 : Int32)), .val (.int (3 : Int32)), .unset, .unset, .unset] [(.int (3 : Int32))])) _
    refine XS.iloadN X0.here hx rfl (hb hby dS43_1) rfl ?_
    show Steps p.tables e below (s₁.setTop (mkF m 2 #[.val (.ref a1), .val (.int (0 : Int32)), .val (.int (0 : Int32)), .val (.int (3 : Int32)), .unset, .unset, .unset] [(.int (0 : Int32)), (.int (3 : Int32))])) _
    refine XS.isub X0.here hx rfl (hb hby dS43_2) rfl ?_
    show Steps p.tables e below (s₁.setTop (mkF m 3 #[.val (.ref a1), .val (.int (0 : Int32)), .val (.int (0 : Int32)), .val (.int (3 : Int32)), .unset, .unset, .unset] [(.int (3 : Int32))])) _
    refine XS.istore X0.here hx rfl (hb hby dS43_3) rfl (l' := #[.val (.ref a1), .val (.int (0 : Int32)), .val (.int (0 : Int32)), .val (.int (3 : Int32)), .val (.int (3 : Int32)), .unset, .unset]) rfl ?_
    show Steps p.tables e below (s₁.setTop (mkF m 5 #[.val (.ref a1), .val (.int (0 : Int32)), .val (.int (0 : Int32)), .val (.int (3 : Int32)), .val (.int (3 : Int32)), .unset, .unset] [])) _
    refine XS.iloadN X0.here hx rfl (hb hby dS43_5) rfl ?_
    show Steps p.tables e below (s₁.setTop (mkF m 6 #[.val (.ref a1), .val (.int (0 : Int32)), .val (.int (0 : Int32)), .val (.int (3 : Int32)), .val (.int (3 : Int32)), .unset, .unset] [(.int (0 : Int32))])) _
    refine XS.iconst X0.here hx rfl (hb hby dS43_6) ?_
    show Steps p.tables e below (s₁.setTop (mkF m 7 #[.val (.ref a1), .val (.int (0 : Int32)), .val (.int (0 : Int32)), .val (.int (3 : Int32)), .val (.int (3 : Int32)), .unset, .unset] [(.int (1 : Int32)), (.int (0 : Int32))])) _
    refine XS.icmpYes X0.here hx rfl (pc0 := 7) (pc' := 68) rfl (hb hby dS43_7) rfl (flt ((by decide) : ¬ ((1 : Int32) < (0 : Int32)))).2.2.2 (by decide) (by decide) ?_
    show Steps p.tables e below (s₁.setTop (mkF m 68 #[.val (.ref a1), .val (.int (0 : Int32)), .val (.int (0 : Int32)), .val (.int (3 : Int32)), .val (.int (3 : Int32)), .unset, .unset] [])) _
    refine XS.aconstNull X0.here hx rfl (hb hby dS43_68) ?_
    show Steps p.tables e below (s₁.setTop (mkF m 69 #[.val (.ref a1), .val (.int (0 : Int32)), .val (.int (0 : Int32)), .val (.int (3 : Int32)), .val (.int (3 : Int32)), .unset, .unset] [.null])) _
    refine XS.aloadN X0.here hx rfl (hb hby dS43_69) rfl rfl ?_
    show Steps p.tables e below (s₁.setTop (mkF m 70 #[.val (.ref a1), .val (.int (0 : Int32)), .val (.int (0 : Int32)), .val (.int (3 : Int32)), .val (.int (3 : Int32)), .unset, .unset] [(.ref a1), .null])) _
    refine XS.iconst X0.here hx rfl (hb hby dS43_70) ?_
    show Steps p.tables e below (s₁.setTop (mkF m 71 #[.val (.ref a1), .val (.int (0 : Int32)), .val (.int (0 : Int32)), .val (.int (3 : Int32)), .val (.int (3 : Int32)), .unset, .unset] [(.int (0 : Int32)), (.ref a1), .null])) _
    refine XS.iloadN X0.here hx rfl (hb hby dS43_71) rfl ?_
    show Steps p.tables e below (s₁.setTop (mkF m 72 #[.val (.ref a1), .val (.int (0 : Int32)), .val (.int (0 : Int32)), .val (.int (3 : Int32)), .val (.int (3 : Int32)), .unset, .unset] [(.int (0 : Int32)), (.int (0 : Int32)), (.ref a1), .null])) _
    refine XS.iloadN X0.here hx rfl (hb hby dS43_72) rfl ?_
    show Steps p.tables e below (s₁.setTop (mkF m 73 #[.val (.ref a1), .val (.int (0 : Int32)), .val (.int (0 : Int32)), .val (.int (3 : Int32)), .val (.int (3 : Int32)), .unset, .unset] [(.int (3 : Int32)), (.int (0 : Int32)), (.int (0 : Int32)), (.ref a1), .null])) _
    refine st101 _ ?_
    exact kt)
  obtain ⟨fs, hr, hrun, hended, hW, hsame⟩ := X101.leave (v := none) (fun _ => rfl) (hlocks := hlk)
  refine ⟨_, _, P102 _ ?_, hrun, hended, _, _, rfl, ?_, ⟨_, rfl⟩, hW, hsame.mono (by decide) (by decide)⟩
  · show Steps p.tables e below (T101.setTop (mkF m 76 #[.val (.ref a1), .val (.int (0 : Int32)), .val (.int (0 : Int32)), .val (.int (3 : Int32)), .val (.int (3 : Int32)), .unset, .unset] [])) _
    exact X101.returnOut hx Bd.returns (hb hby dS43_76) hr
  · show QS Z a1 k (3 : Int32) [(.int x0), (.int x1), (.int x2)] h0 n0 _ T101.heap _
    skip
    exact ⟨rfl, N101, K101, V101x⟩
theorem dAS3_0 : decode jdk_65_method_2_code 0 = .ok (.aload_n 0, 1) := by decide +kernel
theorem dAS3_1 : decode jdk_65_method_2_code 1 = .ok (.iconst 0, 1) := by decide +kernel
theorem dAS3_2 : decode jdk_65_method_2_code 2 = .ok (.iconst 0, 1) := by decide +kernel
theorem dAS3_3 : decode jdk_65_method_2_code 3 = .ok (.aload_n 0, 1) := by decide +kernel
theorem dAS3_4 : decode jdk_65_method_2_code 4 = .ok (.arraylength, 1) := by decide +kernel
theorem dAS3_5 : decode jdk_65_method_2_code 5 = .ok (.invokestatic 7, 3) := by decide +kernel
theorem dAS3_8 : decode jdk_65_method_2_code 8 = .ok (.return_, 1) := by decide +kernel
theorem ef_AS3 (m : MethodId) (x0 : Addr) : entryFrame m #[(.ref x0)] 1 = mkF m 0 #[.val (.ref x0)] [] := by first | (simp [entryFrame, mkF, argsToLocals, Value.category]; done) | rfl
set_option maxRecDepth 65536 in
set_option maxHeartbeats 40000000 in
theorem rmAS3 (l : Launch) (Z : State) (a0 : Array Value) (hw : ∀ d ∈ tables_1, d.before a0 Z = true) (ws : List Jvm.Cond) (a1 : Addr) (k : ClassId) (x0 x1 x2 : Int32) (h0 : Heap) (n0 : Nat) (Z0 : n0 ≤ h0.size) (V1 : Arv Z h0 a1 k .int (3 : Int32) [(.int x2), (.int x0), (.int x1)] (.int (0 : Int32))) (ga : n0 ≤ a1) (h01 : x0 < x1) (h02 : x0 < x2) (h12 : x1 < x2) :
    MetFree l (⟨"java/util/Arrays", "sort", "([I)V"⟩ : MethodName) (head1 (Jvm.Cond.code (⟨"java/util/Arrays", "sort", "([I)V"⟩ : MethodName) jdk_65_method_2_code 1 none :: ws) ({ frames := 3, cells := 0, slots := 0, locals := 67 } : Room)) (fun a U => a = #[(.ref a1)] ∧ Z.Warmed39 U.vm ∧ U.heap = h0) (fun _ _ _ _ _ => True) (fun _ U o U' => ∃ v L, o = .returned v ∧ QS Z a1 k (3 : Int32) [(.int x0), (.int x1), (.int x2)] h0 n0 v U'.heap L ∧ FrameEnd U o U' L ({ frames := 3, cells := 0, slots := 0, locals := 67 } : Room).cells ({ frames := 3, cells := 0, slots := 0, locals := 67 } : Room).slots) := by
  refine MetFree.of_bodySF (plainFor_of_name (by first | (simp [plainName, overriddenIn]; done) | decide +kernel)) hisR ?_
  intro p e s m args below meth c s₁ Bd hml0 hP hK
  obtain ⟨rfl, hZ, hh⟩ := hP
  have hx := Bd.exec
  have hby := Bd.bytes
  have hml : c.maxLocals = 1 := hml0
  have hown : s.vm.findClass "java/util/Arrays" = some m.cls := findClass_of_methodNamed Bd.named
  have hnm := (name_of_methodNamed Bd.named Bd.method).1
  have hlk : meth.locks = false := BodyLoose.notSynchronized Bd
  have X0 : Stand p l e ({ frames := 3, cells := 0, slots := 0, locals := 67 } : Room) s m #[(.ref a1)] below meth c s₁ [] 0 0 := Stand.of_body Bd
  have e0 : s₁.heap = h0 := by rw [← hh, Bd.state]; rfl
  have P0 : ∀ t, Steps p.tables e below (s₁.setTop (mkF m 0 #[.val (.ref a1)] [])) t → Steps p.tables e below (s₁.setTop (entryFrame m #[(.ref a1)] 1)) t := fun t kt => castTop (ef_AS3 m a1) kt
  have N0 := Fr.nil n0
  have K0 := Keep.refl h0 [a1]
  obtain ⟨cl101, Ar101, q101, S101, Nn101, H101, G101⟩ := id V1
  obtain ⟨_, _, ⟨T102, L102, k102, n102⟩, -, X102, ⟨Lc102, hQ102, l102, y102, z102⟩, st102⟩ := Jvm.LawKit.callS X0 hx (y := (⟨"java/util/DualPivotQuicksort", "sort", "([IIII)V"⟩ : MethodName)) hown (mvT hZ (hw _ (List.mem_of_getElem? (i := 46) rfl))) (mvT hZ (hw _ (List.mem_of_getElem? (i := 47) rfl))) (mvT hZ (hw _ (List.mem_of_getElem? (i := 48) rfl))) (mvT hZ (hw _ (List.mem_of_getElem? (i := 49) rfl))) (by decide) (backOf (W := 0)  (rmS43 l Z a0 hw [] a1 k x0 x1 x2 h0 n0 Z0 V1 ga h01 h02 h12) hZ (hw _ (List.mem_of_getElem? (i := 49) rfl)) (hw _ (List.mem_of_getElem? (i := 48) rfl)) (by decide) (by decide)) (g := (mkF m 5 #[.val (.ref a1)] [(.int (3 : Int32)), (.int (0 : Int32)), (.int (0 : Int32)), (.ref a1)])) rfl (by rw [hml]; rfl) (argsL := [(.ref a1), (.int (0 : Int32)), (.int (0 : Int32)), (.int (3 : Int32))]) (rest := []) (lenOf pd___IIII_V rfl) rfl (by show 2 * 0 + _ ≤ _; exact Nat.le_of_eq rfl) (hb hby dAS3_5) (fun _ _ => ⟨rfl, e0, (by decide : 0 + 0 ≤ _), (by decide : 0 + 0 ≤ _)⟩)
  dsimp only [Pt.U, Pt.locs, Pt.cells, Pt.slots] at X102 l102 y102 z102 st102 hQ102
  subst l102 y102 z102
  obtain ⟨rfl, Nq102, K102x, V102x⟩ := hQ102
  have N102 := Fr.app N0 Nq102
  have sz102 : n0 ≤ T102.heap.size := Nat.le_trans Z0 K102x.1
  have K102 : Keep h0 T102.heap [a1] := K0.trans K102x (fun x hx => by cases List.mem_singleton.mp hx; exact Or.inl (List.mem_of_getElem? (i := 0) rfl))
  have P103 : ∀ t, Steps p.tables e below (T102.setTop (mkF m 8 #[.val (.ref a1)] [])) t → Steps p.tables e below (s₁.setTop (entryFrame m #[(.ref a1)] 1)) t := fun t kt => P0 t (by
    show Steps p.tables e below (s₁.setTop (mkF m 0 #[.val (.ref a1)] [])) _
    refine XS.aloadN X0.here hx rfl (hb hby dAS3_0) rfl rfl ?_
    show Steps p.tables e below (s₁.setTop (mkF m 1 #[.val (.ref a1)] [(.ref a1)])) _
    refine XS.iconst X0.here hx rfl (hb hby dAS3_1) ?_
    show Steps p.tables e below (s₁.setTop (mkF m 2 #[.val (.ref a1)] [(.int (0 : Int32)), (.ref a1)])) _
    refine XS.iconst X0.here hx rfl (hb hby dAS3_2) ?_
    show Steps p.tables e below (s₁.setTop (mkF m 3 #[.val (.ref a1)] [(.int (0 : Int32)), (.int (0 : Int32)), (.ref a1)])) _
    refine XS.aloadN X0.here hx rfl (hb hby dAS3_3) rfl rfl ?_
    show Steps p.tables e below (s₁.setTop (mkF m 4 #[.val (.ref a1)] [(.ref a1), (.int (0 : Int32)), (.int (0 : Int32)), (.ref a1)])) _
    refine X0.arraylength hx (by rw [e0]; exact Ar101.1) (State.isArrayOf_alike hZ.alike Ar101.2.1) (g := (mkF m 4 #[.val (.ref a1)] [(.ref a1), (.int (0 : Int32)), (.int (0 : Int32)), (.ref a1)])) rfl rfl (hb hby dAS3_4) _ ?_
    rw [len_of S101 Nn101]
    show Steps p.tables e below (s₁.setTop (mkF m 5 #[.val (.ref a1)] [(.int (3 : Int32)), (.int (0 : Int32)), (.int (0 : Int32)), (.ref a1)])) _
    refine st102 _ ?_
    exact kt)
  obtain ⟨fs, hr, hrun, hended, hW, hsame⟩ := X102.leave (v := none) (fun _ => rfl) (hlocks := hlk)
  refine ⟨_, _, P103 _ ?_, hrun, hended, _, _, rfl, ?_, ⟨_, rfl⟩, hW, hsame.mono (by decide) (by decide)⟩
  · show Steps p.tables e below (T102.setTop (mkF m 8 #[.val (.ref a1)] [])) _
    exact X102.returnOut hx Bd.returns (hb hby dAS3_8) hr
  · show QS Z a1 k (3 : Int32) [(.int x0), (.int x1), (.int x2)] h0 n0 _ T102.heap _
    skip
    exact ⟨rfl, N102, K102, V102x⟩
theorem dT3_0 : decode prog_83_method_1_code 0 = .ok (.aload_n 0, 1) := by decide +kernel
theorem dT3_1 : decode prog_83_method_1_code 1 = .ok (.invokespecial 1, 3) := by decide +kernel
theorem dT3_4 : decode prog_83_method_1_code 4 = .ok (.aload_n 1, 1) := by decide +kernel
theorem dT3_5 : decode prog_83_method_1_code 5 = .ok (.ldc 7, 2) := by decide +kernel
theorem dT3_7 : decode prog_83_method_1_code 7 = .ok (.invokestatic 9, 3) := by decide +kernel
theorem dT3_10 : decode prog_83_method_1_code 10 = .ok (.pop, 1) := by decide +kernel
theorem dT3_11 : decode prog_83_method_1_code 11 = .ok (.iload_n 2, 1) := by decide +kernel
theorem dT3_12 : decode prog_83_method_1_code 12 = .ok (.iconst 1, 1) := by decide +kernel
theorem dT3_13 : decode prog_83_method_1_code 13 = .ok (.if_icmp .ge 17, 3) := by decide +kernel
theorem dT3_30 : decode prog_83_method_1_code 30 = .ok (.aload_n 3, 1) := by decide +kernel
theorem dT3_31 : decode prog_83_method_1_code 31 = .ok (.ldc 24, 2) := by decide +kernel
theorem dT3_33 : decode prog_83_method_1_code 33 = .ok (.invokestatic 9, 3) := by decide +kernel
theorem dT3_36 : decode prog_83_method_1_code 36 = .ok (.checkcast 26, 3) := by decide +kernel
theorem dT3_39 : decode prog_83_method_1_code 39 = .ok (.invokevirtual 28, 3) := by decide +kernel
theorem dT3_42 : decode prog_83_method_1_code 42 = .ok (.checkcast 26, 3) := by decide +kernel
theorem dT3_45 : decode prog_83_method_1_code 45 = .ok (.astore_n 3, 1) := by decide +kernel
theorem dT3_46 : decode prog_83_method_1_code 46 = .ok (.aload_n 3, 1) := by decide +kernel
theorem dT3_47 : decode prog_83_method_1_code 47 = .ok (.invokestatic 32, 3) := by decide +kernel
theorem dT3_50 : decode prog_83_method_1_code 50 = .ok (.iconst 0, 1) := by decide +kernel
theorem dT3_51 : decode prog_83_method_1_code 51 = .ok (.istore 4, 2) := by decide +kernel
theorem dT3_53 : decode prog_83_method_1_code 53 = .ok (.iload 4, 2) := by decide +kernel
theorem dT3_55 : decode prog_83_method_1_code 55 = .ok (.aload_n 3, 1) := by decide +kernel
theorem dT3_56 : decode prog_83_method_1_code 56 = .ok (.arraylength, 1) := by decide +kernel
theorem dT3_57 : decode prog_83_method_1_code 57 = .ok (.if_icmp .ge 55, 3) := by decide +kernel
theorem dT3_60 : decode prog_83_method_1_code 60 = .ok (.aload_n 1, 1) := by decide +kernel
theorem dT3_61 : decode prog_83_method_1_code 61 = .ok (.iload_n 2, 1) := by decide +kernel
theorem dT3_62 : decode prog_83_method_1_code 62 = .ok (.ldc 38, 2) := by decide +kernel
theorem dT3_64 : decode prog_83_method_1_code 64 = .ok (.aload_n 3, 1) := by decide +kernel
theorem dT3_65 : decode prog_83_method_1_code 65 = .ok (.iload 4, 2) := by decide +kernel
theorem dT3_67 : decode prog_83_method_1_code 67 = .ok (.iaload, 1) := by decide +kernel
theorem dT3_68 : decode prog_83_method_1_code 68 = .ok (.invokestatic 40, 3) := by decide +kernel
theorem dT3_71 : decode prog_83_method_1_code 71 = .ok (.iload 4, 2) := by decide +kernel
theorem dT3_73 : decode prog_83_method_1_code 73 = .ok (.ifCond .le 33, 3) := by decide +kernel
theorem dT3_76 : decode prog_83_method_1_code 76 = .ok (.aload_n 3, 1) := by decide +kernel
theorem dT3_77 : decode prog_83_method_1_code 77 = .ok (.iload 4, 2) := by decide +kernel
theorem dT3_79 : decode prog_83_method_1_code 79 = .ok (.iaload, 1) := by decide +kernel
theorem dT3_80 : decode prog_83_method_1_code 80 = .ok (.aload_n 3, 1) := by decide +kernel
theorem dT3_81 : decode prog_83_method_1_code 81 = .ok (.iload 4, 2) := by decide +kernel
theorem dT3_83 : decode prog_83_method_1_code 83 = .ok (.iconst 1, 1) := by decide +kernel
theorem dT3_84 : decode prog_83_method_1_code 84 = .ok (.isub, 1) := by decide +kernel
theorem dT3_85 : decode prog_83_method_1_code 85 = .ok (.iaload, 1) := by decide +kernel
theorem dT3_86 : decode prog_83_method_1_code 86 = .ok (.if_icmp .ne 20, 3) := by decide +kernel
theorem dT3_106 : decode prog_83_method_1_code 106 = .ok (.iinc 4 1, 3) := by decide +kernel
theorem dT3_109 : decode prog_83_method_1_code 109 = .ok (.goto (-56), 3) := by decide +kernel
theorem dT3_112 : decode prog_83_method_1_code 112 = .ok (.aload_n 0, 1) := by decide +kernel
theorem dT3_113 : decode prog_83_method_1_code 113 = .ok (.aload_n 1, 1) := by decide +kernel
theorem dT3_114 : decode prog_83_method_1_code 114 = .ok (.putfield 47, 3) := by decide +kernel
theorem dT3_117 : decode prog_83_method_1_code 117 = .ok (.aload_n 0, 1) := by decide +kernel
theorem dT3_118 : decode prog_83_method_1_code 118 = .ok (.iload_n 2, 1) := by decide +kernel
theorem dT3_119 : decode prog_83_method_1_code 119 = .ok (.putfield 50, 3) := by decide +kernel
theorem dT3_122 : decode prog_83_method_1_code 122 = .ok (.aload_n 0, 1) := by decide +kernel
theorem dT3_123 : decode prog_83_method_1_code 123 = .ok (.aload_n 3, 1) := by decide +kernel
theorem dT3_124 : decode prog_83_method_1_code 124 = .ok (.putfield 54, 3) := by decide +kernel
theorem dT3_127 : decode prog_83_method_1_code 127 = .ok (.return_, 1) := by decide +kernel
theorem ef_T3 (m : MethodId) (x0 : Addr) (x1 : Addr) (x2 : Int32) (x3 : Addr) : entryFrame m #[(.ref x0), (.ref x1), (.int x2), (.ref x3)] 5 = mkF m 0 #[.val (.ref x0), .val (.ref x1), .val (.int x2), .val (.ref x3), .unset] [] := by first | (simp [entryFrame, mkF, argsToLocals, Value.category]; done) | rfl
set_option maxRecDepth 65536 in
set_option maxHeartbeats 40000000 in
theorem rmT3 (l : Launch) (Z : State) (a0 : Array Value) (hw : ∀ d ∈ tables_1, d.before a0 Z = true) (ws : List Jvm.Cond) (a1 : Addr) (a2 : Addr) (p3 : Int32) (a4 : Addr) (k : ClassId) (x0 x1 x2 : Int32) (h0 : Heap) (n0 : Nat) (Z0 : n0 ≤ h0.size) (E1 : Exa Z h0 a1 "com/example/allot/allot/partition/Topic") (Fn : Fld Z h0 a1 "com/example/allot/allot/partition/Topic" "name" "Ljava/lang/String;" .null) (Fp : Fld Z h0 a1 "com/example/allot/allot/partition/Topic" "partitions" "I" (.int (0 : Int32))) (Fu : Fld Z h0 a1 "com/example/allot/allot/partition/Topic" "unavailable" "[I" .null) (ga : n0 ≤ a1) (E4 : Exa Z h0 a4 "[I") (V4 : Arv Z h0 a4 k .int (3 : Int32) [(.int x2), (.int x0), (.int x1)] (.int (0 : Int32))) (h14 : a1 ≠ a4) (hp : ¬ p3 < (1 : Int32)) (h01 : x0 < x1) (h02 : x0 < x2) (h12 : x1 < x2) (hx0 : ¬ x0 < (0 : Int32)) (hx1 : ¬ x1 < (0 : Int32)) (hx2 : ¬ x2 < (0 : Int32)) (hy0 : x0 < p3) (hy1 : x1 < p3) (hy2 : x2 < p3) :
    MetFree l (⟨"com/example/allot/allot/partition/Topic", "<init>", "(Ljava/lang/String;I[I)V"⟩ : MethodName) (head1 (Jvm.Cond.code (⟨"com/example/allot/allot/partition/Topic", "<init>", "(Ljava/lang/String;I[I)V"⟩ : MethodName) prog_83_method_1_code 5 none :: ws) ({ frames := 4, cells := 11, slots := 335, locals := 79 } : Room)) (fun a U => a = #[(.ref a1), (.ref a2), (.int p3), (.ref a4)] ∧ Z.Warmed39 U.vm ∧ U.heap = h0) (fun _ _ _ _ _ => True) (fun _ U o U' => ∃ v L, o = .returned v ∧ QT Z a1 a2 p3 (3 : Int32) [(.int x0), (.int x1), (.int x2)] h0 n0 v U'.heap L ∧ ReturnedEndW U o U' L ({ frames := 4, cells := 11, slots := 335, locals := 79 } : Room).cells ({ frames := 4, cells := 11, slots := 335, locals := 79 } : Room).slots) := by
  refine MetFree.of_bodySF (plainFor_of_name (by first | (simp [plainName, overriddenIn]; done) | decide +kernel)) hisR ?_
  intro p e s m args below meth c s₁ Bd hml0 hP hK
  obtain ⟨rfl, hZ, hh⟩ := hP
  have hx := Bd.exec
  have hby := Bd.bytes
  have hml : c.maxLocals = 5 := hml0
  have hown : s.vm.findClass "com/example/allot/allot/partition/Topic" = some m.cls := findClass_of_methodNamed Bd.named
  have hnm := (name_of_methodNamed Bd.named Bd.method).1
  have hlk : meth.locks = false := BodyLoose.notSynchronized Bd
  have X0 : Stand p l e ({ frames := 4, cells := 11, slots := 335, locals := 79 } : Room) (s.setVm s.vm) m #[(.ref a1), (.ref a2), (.int p3), (.ref a4)] below meth c s₁ [] 0 0 := Stand.of_body Bd
  have e0 : s₁.heap = h0 := by rw [← hh, Bd.state]; rfl
  have P0 : ∀ t, Steps p.tables e below (s₁.setTop (mkF m 0 #[.val (.ref a1), .val (.ref a2), .val (.int p3), .val (.ref a4), .unset] [])) t → Steps p.tables e below (s₁.setTop (entryFrame m #[(.ref a1), (.ref a2), (.int p3), (.ref a4)] 5)) t := fun t kt => castTop (ef_T3 m a1 a2 p3 a4) kt
  have N0 := Fr.nil n0
  have hS0 : s.Since s.vm 0 := State.WarmedH.since (State.WarmedH.refl s) 0
  have hk0 : 0 ≤ h0.size := Nat.zero_le _
  have K0 := Keep.refl h0 [a1]
  obtain ⟨_, _, ⟨T101, L101, k101, n101⟩, -, X101, ⟨Lc101, hQ101, l101, y101, z101⟩, st101⟩ := X0.specialBack hx (y := (⟨"java/lang/Record", "<init>", "()V"⟩ : MethodName)) rfl hown (mvT hZ (hw _ (List.mem_of_getElem? (i := 19) rfl))) (mvT hZ (hw _ (List.mem_of_getElem? (i := 20) rfl))) (mvT hZ (hw _ (List.mem_of_getElem? (i := 23) rfl))) (by decide) (backOf (W := 0)  (rmR l Z a0 hw [] a1 h0) hZ (hw _ (List.mem_of_getElem? (i := 23) rfl)) (hw _ (List.mem_of_getElem? (i := 22) rfl)) (by decide) (by decide)) (g := (mkF m 1 #[.val (.ref a1), .val (.ref a2), .val (.int p3), .val (.ref a4), .unset] [(.ref a1)])) rfl (by rw [hml]; rfl) (Steps.refl _) (a := a1) (argsL := []) (rest := []) (lenOf pd___V rfl) rfl (by show 2 * 0 + _ ≤ _; exact Nat.le_of_eq rfl) (hb hby dT3_1) (fun _ _ => ⟨rfl, e0, (by decide : 0 + 0 ≤ _), (by decide : 0 + 0 ≤ _)⟩)
  dsimp only [Pt.U, Pt.locs, Pt.cells, Pt.slots] at X101 l101 y101 z101 st101 hQ101
  subst l101 y101 z101
  obtain ⟨rfl, rfl, e101⟩ := hQ101
  have N101 := Fr.app N0 (Fr.nil n0)
  have P102 : ∀ t, Steps p.tables e below (T101.setTop (mkF m 5 #[.val (.ref a1), .val (.ref a2), .val (.int p3), .val (.ref a4), .unset] [(.ref a2)])) t → Steps p.tables e below (s₁.setTop (entryFrame m #[(.ref a1), (.ref a2), (.int p3), (.ref a4)] 5)) t := fun t kt => P0 t (by
    show Steps p.tables e below (s₁.setTop (mkF m 0 #[.val (.ref a1), .val (.ref a2), .val (.int p3), .val (.ref a4), .unset] [])) _
    refine XS.aloadN X0.here hx rfl (hb hby dT3_0) rfl rfl ?_
    show Steps p.tables e below (s₁.setTop (mkF m 1 #[.val (.ref a1), .val (.ref a2), .val (.int p3), .val (.ref a4), .unset] [(.ref a1)])) _
    refine st101.trans ?_
    show Steps p.tables e below (T101.setTop (mkF m 4 #[.val (.ref a1), .val (.ref a2), .val (.int p3), .val (.ref a4), .unset] [])) _
    refine XS.aloadN X101.here hx rfl (hb hby dT3_4) rfl rfl ?_
    exact kt)
  obtain ⟨sa103, T103, h103, j103, X103, e103, E103, hS103, hk103, hZ, hown, st103⟩ := ldcS X101 hx hZ hown (hw _ (List.mem_of_getElem? (i := 27) rfl)) (own_wS hw) e101 hS0 hk0 (g := (mkF m 5 #[.val (.ref a1), .val (.ref a2), .val (.int p3), .val (.ref a4), .unset] [(.ref a2)])) rfl (hb hby dT3_5) (n := 16) (by decide) (by decide) (by decide) (by decide)
  have f104 := E1.ext E103
  have f105 := Fn.ext E103
  have f106 := Fp.ext E103
  have f107 := Fu.ext E103
  have f108 := E4.ext E103
  have f109 := V4.ext E103
  have sz103 : n0 ≤ h103.size := Nat.le_trans Z0 E103.1
  have K103 : Keep h0 h103 [a1] := K0.ext E103
  obtain ⟨_, _, ⟨T110, L110, k110, n110⟩, -, X110, ⟨Lc110, hQ110, l110, y110, z110⟩, st110⟩ := Jvm.LawKit.callS X103 hx (y := (⟨"java/util/Objects", "requireNonNull", "(Ljava/lang/Object;Ljava/lang/String;)Ljava/lang/Object;"⟩ : MethodName)) hown (mvT hZ (hw _ (List.mem_of_getElem? (i := 28) rfl))) (mvT hZ (hw _ (List.mem_of_getElem? (i := 29) rfl))) (mvT hZ (hw _ (List.mem_of_getElem? (i := 30) rfl))) (mvT hZ (hw _ (List.mem_of_getElem? (i := 31) rfl))) (by decide) (backOf (W := 0)  (rmNN l Z a0 hw [] a2 sa103 h103) hZ (hw _ (List.mem_of_getElem? (i := 31) rfl)) (hw _ (List.mem_of_getElem? (i := 30) rfl)) (by decide) (by decide)) (g := (mkF m 7 #[.val (.ref a1), .val (.ref a2), .val (.int p3), .val (.ref a4), .unset] [(.ref sa103), (.ref a2)])) rfl (by rw [hml]; rfl) (argsL := [(.ref a2), (.ref sa103)]) (rest := []) (lenOf pd__Ljava_lang_Object_Ljava_lang_String__Ljava_lang_Object_ rfl) rfl (by show 2 * 0 + _ ≤ _; exact Nat.le_of_eq rfl) (hb hby dT3_7) (fun _ _ => ⟨rfl, e103, (by decide : 2 + 0 ≤ _), (by decide : 20 + 0 ≤ _)⟩)
  dsimp only [Pt.U, Pt.locs, Pt.cells, Pt.slots] at X110 l110 y110 z110 st110 hQ110
  subst l110 y110 z110
  obtain ⟨rfl, rfl, e110⟩ := hQ110
  have N110 := Fr.app N101 (Fr.nil n0)
  have P111 : ∀ t, Steps p.tables e below (T110.setTop (mkF m 31 #[.val (.ref a1), .val (.ref a2), .val (.int p3), .val (.ref a4), .unset] [(.ref a4)])) t → Steps p.tables e below (s₁.setTop (entryFrame m #[(.ref a1), (.ref a2), (.int p3), (.ref a4)] 5)) t := fun t kt => P102 t (by
    show Steps p.tables e below (T101.setTop (mkF m 5 #[.val (.ref a1), .val (.ref a2), .val (.int p3), .val (.ref a4), .unset] [(.ref a2)])) _
    refine st103 _ ?_
    show Steps p.tables e below (T103.setTop (mkF m 7 #[.val (.ref a1), .val (.ref a2), .val (.int p3), .val (.ref a4), .unset] [(.ref sa103), (.ref a2)])) _
    refine st110 _ ?_
    show Steps p.tables e below (T110.setTop (mkF m 10 #[.val (.ref a1), .val (.ref a2), .val (.int p3), .val (.ref a4), .unset] [(.ref a2)])) _
    refine XS.pop X110.here hx rfl (hb hby dT3_10) rfl rfl ?_
    show Steps p.tables e below (T110.setTop (mkF m 11 #[.val (.ref a1), .val (.ref a2), .val (.int p3), .val (.ref a4), .unset] [])) _
    refine XS.iloadN X110.here hx rfl (hb hby dT3_11) rfl ?_
    show Steps p.tables e below (T110.setTop (mkF m 12 #[.val (.ref a1), .val (.ref a2), .val (.int p3), .val (.ref a4), .unset] [(.int p3)])) _
    refine XS.iconst X110.here hx rfl (hb hby dT3_12) ?_
    show Steps p.tables e below (T110.setTop (mkF m 13 #[.val (.ref a1), .val (.ref a2), .val (.int p3), .val (.ref a4), .unset] [(.int (1 : Int32)), (.int p3)])) _
    refine XS.icmpYes X110.here hx rfl (pc0 := 13) (pc' := 30) rfl (hb hby dT3_13) rfl (flt (hp : ¬ (p3 < (1 : Int32)))).2.1 (by decide) (by decide) ?_
    show Steps p.tables e below (T110.setTop (mkF m 30 #[.val (.ref a1), .val (.ref a2), .val (.int p3), .val (.ref a4), .unset] [])) _
    refine XS.aloadN X110.here hx rfl (hb hby dT3_30) rfl rfl ?_
    exact kt)
  obtain ⟨sa112, T112, h112, j112, X112, e112, E112, hS112, hk112, hZ, hown, st112⟩ := ldcS X110 hx hZ hown (hw _ (List.mem_of_getElem? (i := 32) rfl)) (own_wS hw) e110 hS103 hk103 (g := (mkF m 31 #[.val (.ref a1), .val (.ref a2), .val (.int p3), .val (.ref a4), .unset] [(.ref a4)])) rfl (hb hby dT3_31) (n := 44) (by decide) (by decide) (by decide) (by decide)
  have f113 := f104.ext E112
  have f114 := f105.ext E112
  have f115 := f106.ext E112
  have f116 := f107.ext E112
  have f117 := f108.ext E112
  have f118 := f109.ext E112
  have sz112 : n0 ≤ h112.size := Nat.le_trans sz103 E112.1
  have K112 : Keep h0 h112 [a1] := K103.ext E112
  obtain ⟨_, _, ⟨T119, L119, k119, n119⟩, -, X119, ⟨Lc119, hQ119, l119, y119, z119⟩, st119⟩ := Jvm.LawKit.callS X112 hx (y := (⟨"java/util/Objects", "requireNonNull", "(Ljava/lang/Object;Ljava/lang/String;)Ljava/lang/Object;"⟩ : MethodName)) hown (mvT hZ (hw _ (List.mem_of_getElem? (i := 28) rfl))) (mvT hZ (hw _ (List.mem_of_getElem? (i := 29) rfl))) (mvT hZ (hw _ (List.mem_of_getElem? (i := 30) rfl))) (mvT hZ (hw _ (List.mem_of_getElem? (i := 31) rfl))) (by decide) (backOf (W := 0)  (rmNN l Z a0 hw [] a4 sa112 h112) hZ (hw _ (List.mem_of_getElem? (i := 31) rfl)) (hw _ (List.mem_of_getElem? (i := 30) rfl)) (by decide) (by decide)) (g := (mkF m 33 #[.val (.ref a1), .val (.ref a2), .val (.int p3), .val (.ref a4), .unset] [(.ref sa112), (.ref a4)])) rfl (by rw [hml]; rfl) (argsL := [(.ref a4), (.ref sa112)]) (rest := []) (lenOf pd__Ljava_lang_Object_Ljava_lang_String__Ljava_lang_Object_ rfl) rfl (by show 2 * 0 + _ ≤ _; exact Nat.le_of_eq rfl) (hb hby dT3_33) (fun _ _ => ⟨rfl, e112, (by decide : 4 + 0 ≤ _), (by decide : 68 + 0 ≤ _)⟩)
  dsimp only [Pt.U, Pt.locs, Pt.cells, Pt.slots] at X119 l119 y119 z119 st119 hQ119
  subst l119 y119 z119
  obtain ⟨rfl, rfl, e119⟩ := hQ119
  have N119 := Fr.app N110 (Fr.nil n0)
  obtain ⟨T120, X120, e120, st120⟩ := castY X119 hx hZ hown (hw _ (List.mem_of_getElem? (i := 33) rfl)) e119 (Ins.self f117) (g := (mkF m 36 #[.val (.ref a1), .val (.ref a2), .val (.int p3), .val (.ref a4), .unset] [(.ref a4)])) rfl rfl (hb hby dT3_36)
  obtain ⟨T121, h121, X121, e121, E121, V121, A121, st121⟩ := cloneH X120 hx hZ hown (hw _ (List.mem_of_getElem? (i := 35) rfl)) (hw _ (List.mem_of_getElem? (i := 36) rfl)) (hw _ (List.mem_of_getElem? (i := 40) rfl)) (hw _ (List.mem_of_getElem? (i := 38) rfl)) (hw _ (List.mem_of_getElem? (i := 39) rfl)) (hw _ (List.mem_of_getElem? (i := 41) rfl)) e120 (hs := []) f118 f117 (g := (mkF m 39 #[.val (.ref a1), .val (.ref a2), .val (.int p3), .val (.ref a4), .unset] [(.ref a4)])) rfl (by rw [hml]; rfl) rfl (hb hby dT3_39) (by decide) (W := 0) (by show 2 * 0 + _ ≤ _; exact Nat.le_of_eq rfl) (by decide) (cap := 3) (by decide) (by decide) (by decide)
  obtain ⟨b121, g121⟩ : ∃ z, z = h112.size := ⟨_, rfl⟩
  rw [← g121] at A121 V121 st121
  have ne121_a1 : a1 ≠ b121 := Nat.ne_of_lt (Nat.lt_of_lt_of_le f113.lt (Nat.le_of_eq g121.symm))
  have ne121_a4 : a4 ≠ b121 := Nat.ne_of_lt (Nat.lt_of_lt_of_le f117.lt (Nat.le_of_eq g121.symm))
  have gb121 : n0 ≤ b121 := Nat.le_trans sz112 (Nat.le_of_eq g121.symm)
  have sz121 : n0 ≤ h121.size := Nat.le_trans sz112 E121.1
  have hk121 := Nat.le_trans hk112 E121.1
  have sb121 : h0.size ≤ b121 := Nat.le_trans K112.1 (Nat.le_of_eq g121.symm)
  have f122 := f113.ext E121
  have f123 := f114.ext E121
  have f124 := f115.ext E121
  have f125 := f116.ext E121
  have f126 := f117.ext E121
  have f127 := f118.ext E121
  have V121v : Arv Z h121 b121 k .int (3 : Int32) [(.int x2), (.int x0), (.int x1)] (.int (0 : Int32)) := V121
  have K121 : Keep h0 h121 [a1] := K112.ext E121
  obtain ⟨T128, X128, e128, st128⟩ := castY X121 hx hZ hown (hw _ (List.mem_of_getElem? (i := 33) rfl)) e121 (Ins.self A121) (g := (mkF m 42 #[.val (.ref a1), .val (.ref a2), .val (.int p3), .val (.ref a4), .unset] [(.ref b121)])) rfl rfl (hb hby dT3_42)
  obtain ⟨_, _, ⟨T129, L129, k129, n129⟩, -, X129, ⟨Lc129, hQ129, l129, y129, z129⟩, st129⟩ := Jvm.LawKit.callS X128 hx (y := (⟨"java/util/Arrays", "sort", "([I)V"⟩ : MethodName)) hown (mvT hZ (hw _ (List.mem_of_getElem? (i := 42) rfl))) (mvT hZ (hw _ (List.mem_of_getElem? (i := 43) rfl))) (mvT hZ (hw _ (List.mem_of_getElem? (i := 44) rfl))) (mvT hZ (hw _ (List.mem_of_getElem? (i := 45) rfl))) (by decide) (backOf (W := 0)  (rmAS3 l Z a0 hw [] b121 k x0 x1 x2 h121 n0 sz121 V121v gb121 h01 h02 h12) hZ (hw _ (List.mem_of_getElem? (i := 45) rfl)) (hw _ (List.mem_of_getElem? (i := 44) rfl)) (by decide) (by decide)) (g := (mkF m 47 #[.val (.ref a1), .val (.ref a2), .val (.int p3), .val (.ref b121), .unset] [(.ref b121)])) rfl (by rw [hml]; rfl) (argsL := [(.ref b121)]) (rest := []) (lenOf pd___I_V rfl) rfl (by show 2 * 0 + _ ≤ _; exact Nat.le_of_eq rfl) (hb hby dT3_47) (fun _ _ => ⟨rfl, e128, (by decide : 5 + 0 ≤ _), (by decide : 71 + 0 ≤ _)⟩)
  dsimp only [Pt.U, Pt.locs, Pt.cells, Pt.slots] at X129 l129 y129 z129 st129 hQ129
  subst l129 y129 z129
  obtain ⟨rfl, Nq129, K129x, V129x⟩ := hQ129
  have N129 := Fr.app N119 Nq129
  have sz129 : n0 ≤ T129.heap.size := Nat.le_trans sz121 K129x.1
  have hk129 := Nat.le_trans hk121 K129x.1
  have f130 := f122.keep K129x
  have f131 := f123.keep K129x (own_nm ne121_a1)
  have f132 := f124.keep K129x (own_nm ne121_a1)
  have f133 := f125.keep K129x (own_nm ne121_a1)
  have f134 := f126.keep K129x
  have f135 := f127.keep K129x (own_nm ne121_a4)
  have f136 := A121.keep K129x
  have K129 : Keep h0 T129.heap [a1] := K121.trans K129x (fun x hx => by cases List.mem_singleton.mp hx; exact Or.inr sb121)
  obtain ⟨cl137, Ar137, q137, S137, Nn137, H137, G137⟩ := id V129x
  have P138 : ∀ t, Steps p.tables e below (T129.setTop (mkF m 62 #[.val (.ref a1), .val (.ref a2), .val (.int p3), .val (.ref b121), .val (.int (0 : Int32))] [(.int p3), (.ref a2)])) t → Steps p.tables e below (s₁.setTop (entryFrame m #[(.ref a1), (.ref a2), (.int p3), (.ref a4)] 5)) t := fun t kt => P111 t (by
    show Steps p.tables e below (T110.setTop (mkF m 31 #[.val (.ref a1), .val (.ref a2), .val (.int p3), .val (.ref a4), .unset] [(.ref a4)])) _
    refine st112 _ ?_
    show Steps p.tables e below (T112.setTop (mkF m 33 #[.val (.ref a1), .val (.ref a2), .val (.int p3), .val (.ref a4), .unset] [(.ref sa112), (.ref a4)])) _
    refine st119 _ ?_
    show Steps p.tables e below (T119.setTop (mkF m 36 #[.val (.ref a1), .val (.ref a2), .val (.int p3), .val (.ref a4), .unset] [(.ref a4)])) _
    refine st120 _ ?_
    show Steps p.tables e below (T120.setTop (mkF m 39 #[.val (.ref a1), .val (.ref a2), .val (.int p3), .val (.ref a4), .unset] [(.ref a4)])) _
    refine st121 _ ?_
    show Steps p.tables e below (T121.setTop (mkF m 42 #[.val (.ref a1), .val (.ref a2), .val (.int p3), .val (.ref a4), .unset] [(.ref b121)])) _
    refine st128 _ ?_
    show Steps p.tables e below (T128.setTop (mkF m 45 #[.val (.ref a1), .val (.ref a2), .val (.int p3), .val (.ref a4), .unset] [(.ref b121)])) _
    refine XS.astoreN X128.here hx rfl (hb hby dT3_45) rfl rfl (l' := #[.val (.ref a1), .val (.ref a2), .val (.int p3), .val (.ref b121), .unset]) rfl ?_
    show Steps p.tables e below (T128.setTop (mkF m 46 #[.val (.ref a1), .val (.ref a2), .val (.int p3), .val (.ref b121), .unset] [])) _
    refine XS.aloadN X128.here hx rfl (hb hby dT3_46) rfl rfl ?_
    show Steps p.tables e below (T128.setTop (mkF m 47 #[.val (.ref a1), .val (.ref a2), .val (.int p3), .val (.ref b121), .unset] [(.ref b121)])) _
    refine st129 _ ?_
    show Steps p.tables e below (T129.setTop (mkF m 50 #[.val (.ref a1), .val (.ref a2), .val (.int p3), .val (.ref b121), .unset] [])) _
    refine XS.iconst X129.here hx rfl (hb hby dT3_50) ?_
    show Steps p.tables e below (T129.setTop (mkF m 51 #[.val (.ref a1), .val (.ref a2), .val (.int p3), .val (.ref b121), .unset] [(.int (0 : Int32))])) _
    refine XS.istore X129.here hx rfl (hb hby dT3_51) rfl (l' := #[.val (.ref a1), .val (.ref a2), .val (.int p3), .val (.ref b121), .val (.int (0 : Int32))]) rfl ?_
    show Steps p.tables e below (T129.setTop (mkF m 53 #[.val (.ref a1), .val (.ref a2), .val (.int p3), .val (.ref b121), .val (.int (0 : Int32))] [])) _
    refine XS.iload X129.here hx rfl (hb hby dT3_53) rfl ?_
    show Steps p.tables e below (T129.setTop (mkF m 55 #[.val (.ref a1), .val (.ref a2), .val (.int p3), .val (.ref b121), .val (.int (0 : Int32))] [(.int (0 : Int32))])) _
    refine XS.aloadN X129.here hx rfl (hb hby dT3_55) rfl rfl ?_
    show Steps p.tables e below (T129.setTop (mkF m 56 #[.val (.ref a1), .val (.ref a2), .val (.int p3), .val (.ref b121), .val (.int (0 : Int32))] [(.ref b121), (.int (0 : Int32))])) _
    refine X129.arraylength hx Ar137.1 (State.isArrayOf_alike hZ.alike Ar137.2.1) (g := (mkF m 56 #[.val (.ref a1), .val (.ref a2), .val (.int p3), .val (.ref b121), .val (.int (0 : Int32))] [(.ref b121), (.int (0 : Int32))])) rfl rfl (hb hby dT3_56) _ ?_
    rw [len_of S137 Nn137]
    show Steps p.tables e below (T129.setTop (mkF m 57 #[.val (.ref a1), .val (.ref a2), .val (.int p3), .val (.ref b121), .val (.int (0 : Int32))] [(.int (3 : Int32)), (.int (0 : Int32))])) _
    refine XS.icmpNo X129.here hx rfl (hb hby dT3_57) rfl (tlt ((by decide) : (0 : Int32) < (3 : Int32))).2.1 ?_
    show Steps p.tables e below (T129.setTop (mkF m 60 #[.val (.ref a1), .val (.ref a2), .val (.int p3), .val (.ref b121), .val (.int (0 : Int32))] [])) _
    refine XS.aloadN X129.here hx rfl (hb hby dT3_60) rfl rfl ?_
    show Steps p.tables e below (T129.setTop (mkF m 61 #[.val (.ref a1), .val (.ref a2), .val (.int p3), .val (.ref b121), .val (.int (0 : Int32))] [(.ref a2)])) _
    refine XS.iloadN X129.here hx rfl (hb hby dT3_61) rfl ?_
    exact kt)
  obtain ⟨sa139, T139, h139, j139, X139, e139, E139, hS139, hk139, hZ, hown, st139⟩ := ldcS X129 hx hZ hown (hw _ (List.mem_of_getElem? (i := 81) rfl)) (own_wS hw) rfl hS112 hk129 (g := (mkF m 62 #[.val (.ref a1), .val (.ref a2), .val (.int p3), .val (.ref b121), .val (.int (0 : Int32))] [(.int p3), (.ref a2)])) rfl (hb hby dT3_62) (n := 84) (by decide) (by decide) (by decide) (by decide)
  have f140 := f130.ext E139
  have f141 := f131.ext E139
  have f142 := f132.ext E139
  have f143 := f133.ext E139
  have f144 := f134.ext E139
  have f145 := f135.ext E139
  have f146 := f136.ext E139
  have f147 := V129x.ext E139
  have sz139 : n0 ≤ h139.size := Nat.le_trans sz129 E139.1
  have K139 : Keep h0 h139 [a1] := K129.ext E139
  obtain ⟨cl148, Ar148, q148, S148, Nn148, H148, G148⟩ := id f147
  obtain ⟨_, _, ⟨T149, L149, k149, n149⟩, -, X149, ⟨Lc149, hQ149, l149, y149, z149⟩, st149⟩ := Jvm.LawKit.callS X139 hx (y := (⟨"com/example/allot/allot/partition/Topic", "requireOneOf", "(Ljava/lang/String;ILjava/lang/String;I)V"⟩ : MethodName)) hown (mvT hZ (hw _ (List.mem_of_getElem? (i := 82) rfl))) (mvT hZ (hw _ (List.mem_of_getElem? (i := 83) rfl))) (mvT hZ (hw _ (List.mem_of_getElem? (i := 7) rfl))) (mvT hZ (hw _ (List.mem_of_getElem? (i := 84) rfl))) (by decide) (backOf (W := 0)  (rmRO l Z a0 hw [] a2 p3 sa139 x0 h139 hx0 hy0) hZ (hw _ (List.mem_of_getElem? (i := 84) rfl)) (hw _ (List.mem_of_getElem? (i := 7) rfl)) (by decide) (by decide)) (g := (mkF m 68 #[.val (.ref a1), .val (.ref a2), .val (.int p3), .val (.ref b121), .val (.int (0 : Int32))] [(.int x0), (.ref sa139), (.int p3), (.ref a2)])) rfl (by rw [hml]; rfl) (argsL := [(.ref a2), (.int p3), (.ref sa139), (.int x0)]) (rest := []) (lenOf pd__Ljava_lang_String_ILjava_lang_String_I_V rfl) rfl (by show 2 * 0 + _ ≤ _; exact Nat.le_of_eq rfl) (hb hby dT3_68) (fun _ _ => ⟨rfl, e139, (by decide : 7 + 0 ≤ _), (by decide : 159 + 0 ≤ _)⟩)
  dsimp only [Pt.U, Pt.locs, Pt.cells, Pt.slots] at X149 l149 y149 z149 st149 hQ149
  subst l149 y149 z149
  obtain ⟨rfl, rfl, e149⟩ := hQ149
  have N149 := Fr.app N129 (Fr.nil n0)
  obtain ⟨cl150, Ar150, q150, S150, Nn150, H150, G150⟩ := id f147
  have P151 : ∀ t, Steps p.tables e below (T149.setTop (mkF m 62 #[.val (.ref a1), .val (.ref a2), .val (.int p3), .val (.ref b121), .val (.int (1 : Int32))] [(.int p3), (.ref a2)])) t → Steps p.tables e below (s₁.setTop (entryFrame m #[(.ref a1), (.ref a2), (.int p3), (.ref a4)] 5)) t := fun t kt => P138 t (by
    show Steps p.tables e below (T129.setTop (mkF m 62 #[.val (.ref a1), .val (.ref a2), .val (.int p3), .val (.ref b121), .val (.int (0 : Int32))] [(.int p3), (.ref a2)])) _
    refine st139 _ ?_
    show Steps p.tables e below (T139.setTop (mkF m 64 #[.val (.ref a1), .val (.ref a2), .val (.int p3), .val (.ref b121), .val (.int (0 : Int32))] [(.ref sa139), (.int p3), (.ref a2)])) _
    refine XS.aloadN X139.here hx rfl (hb hby dT3_64) rfl rfl ?_
    show Steps p.tables e below (T139.setTop (mkF m 65 #[.val (.ref a1), .val (.ref a2), .val (.int p3), .val (.ref b121), .val (.int (0 : Int32))] [(.ref b121), (.ref sa139), (.int p3), (.ref a2)])) _
    refine XS.iload X139.here hx rfl (hb hby dT3_65) rfl ?_
    show Steps p.tables e below (T139.setTop (mkF m 67 #[.val (.ref a1), .val (.ref a2), .val (.int p3), .val (.ref b121), .val (.int (0 : Int32))] [(.int (0 : Int32)), (.ref b121), (.ref sa139), (.int p3), (.ref a2)])) _
    refine X139.iaload hx (j := (0 : Int32)) (v := (.int x0)) (by rw [e139]; exact Ar148.1) (State.isArrayOf_alike hZ.alike Ar148.2.1) Ar148.2.2 (inb_of S148 ⟨by decide, by decide⟩) (H148 0 (by rw [S148]; decide)) (g := (mkF m 67 #[.val (.ref a1), .val (.ref a2), .val (.int p3), .val (.ref b121), .val (.int (0 : Int32))] [(.int (0 : Int32)), (.ref b121), (.ref sa139), (.int p3), (.ref a2)])) rfl rfl (hb hby dT3_67) _ ?_
    show Steps p.tables e below (T139.setTop (mkF m 68 #[.val (.ref a1), .val (.ref a2), .val (.int p3), .val (.ref b121), .val (.int (0 : Int32))] [(.int x0), (.ref sa139), (.int p3), (.ref a2)])) _
    refine st149 _ ?_
    show Steps p.tables e below (T149.setTop (mkF m 71 #[.val (.ref a1), .val (.ref a2), .val (.int p3), .val (.ref b121), .val (.int (0 : Int32))] [])) _
    refine XS.iload X149.here hx rfl (hb hby dT3_71) rfl ?_
    show Steps p.tables e below (T149.setTop (mkF m 73 #[.val (.ref a1), .val (.ref a2), .val (.int p3), .val (.ref b121), .val (.int (0 : Int32))] [(.int (0 : Int32))])) _
    refine XS.ifYes X149.here hx rfl (pc0 := 73) (pc' := 106) rfl (hb hby dT3_73) rfl ((if0 _ _).trans (flt ((by decide) : ¬ ((0 : Int32) < (0 : Int32)))).2.2.2) (by decide) (by decide) ?_
    show Steps p.tables e below (T149.setTop (mkF m 106 #[.val (.ref a1), .val (.ref a2), .val (.int p3), .val (.ref b121), .val (.int (0 : Int32))] [])) _
    refine XS.iinc X149.here hx rfl (hb hby dT3_106) rfl (l' := #[.val (.ref a1), .val (.ref a2), .val (.int p3), .val (.ref b121), .val (.int (1 : Int32))]) rfl ?_
    show Steps p.tables e below (T149.setTop (mkF m 109 #[.val (.ref a1), .val (.ref a2), .val (.int p3), .val (.ref b121), .val (.int (1 : Int32))] [])) _
    refine XS.goto X149.here hx rfl (pc0 := 109) (pc' := 53) rfl (hb hby dT3_109) (by decide) (by decide) ?_
    show Steps p.tables e below (T149.setTop (mkF m 53 #[.val (.ref a1), .val (.ref a2), .val (.int p3), .val (.ref b121), .val (.int (1 : Int32))] [])) _
    refine XS.iload X149.here hx rfl (hb hby dT3_53) rfl ?_
    show Steps p.tables e below (T149.setTop (mkF m 55 #[.val (.ref a1), .val (.ref a2), .val (.int p3), .val (.ref b121), .val (.int (1 : Int32))] [(.int (1 : Int32))])) _
    refine XS.aloadN X149.here hx rfl (hb hby dT3_55) rfl rfl ?_
    show Steps p.tables e below (T149.setTop (mkF m 56 #[.val (.ref a1), .val (.ref a2), .val (.int p3), .val (.ref b121), .val (.int (1 : Int32))] [(.ref b121), (.int (1 : Int32))])) _
    refine X149.arraylength hx (by rw [e149]; exact Ar150.1) (State.isArrayOf_alike hZ.alike Ar150.2.1) (g := (mkF m 56 #[.val (.ref a1), .val (.ref a2), .val (.int p3), .val (.ref b121), .val (.int (1 : Int32))] [(.ref b121), (.int (1 : Int32))])) rfl rfl (hb hby dT3_56) _ ?_
    rw [len_of S150 Nn150]
    show Steps p.tables e below (T149.setTop (mkF m 57 #[.val (.ref a1), .val (.ref a2), .val (.int p3), .val (.ref b121), .val (.int (1 : Int32))] [(.int (3 : Int32)), (.int (1 : Int32))])) _
    refine XS.icmpNo X149.here hx rfl (hb hby dT3_57) rfl (tlt ((by decide) : (1 : Int32) < (3 : Int32))).2.1 ?_
    show Steps p.tables e below (T149.setTop (mkF m 60 #[.val (.ref a1), .val (.ref a2), .val (.int p3), .val (.ref b121), .val (.int (1 : Int32))] [])) _
    refine XS.aloadN X149.here hx rfl (hb hby dT3_60) rfl rfl ?_
    show Steps p.tables e below (T149.setTop (mkF m 61 #[.val (.ref a1), .val (.ref a2), .val (.int p3), .val (.ref b121), .val (.int (1 : Int32))] [(.ref a2)])) _
    refine XS.iloadN X149.here hx rfl (hb hby dT3_61) rfl ?_
    exact kt)
  obtain ⟨sa152, T152, h152, j152, X152, e152, E152, hS152, hk152, hZ, hown, st152⟩ := ldcS X149 hx hZ hown (hw _ (List.mem_of_getElem? (i := 81) rfl)) (own_wS hw) e149 hS139 hk139 (g := (mkF m 62 #[.val (.ref a1), .val (.ref a2), .val (.int p3), .val (.ref b121), .val (.int (1 : Int32))] [(.int p3), (.ref a2)])) rfl (hb hby dT3_62) (n := 84) (by decide) (by decide) (by decide) (by decide)
  have f153 := f140.ext E152
  have f154 := f141.ext E152
  have f155 := f142.ext E152
  have f156 := f143.ext E152
  have f157 := f144.ext E152
  have f158 := f145.ext E152
  have f159 := f146.ext E152
  have f160 := f147.ext E152
  have sz152 : n0 ≤ h152.size := Nat.le_trans sz139 E152.1
  have K152 : Keep h0 h152 [a1] := K139.ext E152
  obtain ⟨cl161, Ar161, q161, S161, Nn161, H161, G161⟩ := id f160
  obtain ⟨_, _, ⟨T162, L162, k162, n162⟩, -, X162, ⟨Lc162, hQ162, l162, y162, z162⟩, st162⟩ := Jvm.LawKit.callS X152 hx (y := (⟨"com/example/allot/allot/partition/Topic", "requireOneOf", "(Ljava/lang/String;ILjava/lang/String;I)V"⟩ : MethodName)) hown (mvT hZ (hw _ (List.mem_of_getElem? (i := 82) rfl))) (mvT hZ (hw _ (List.mem_of_getElem? (i := 83) rfl))) (mvT hZ (hw _ (List.mem_of_getElem? (i := 7) rfl))) (mvT hZ (hw _ (List.mem_of_getElem? (i := 84) rfl))) (by decide) (backOf (W := 0)  (rmRO l Z a0 hw [] a2 p3 sa152 x1 h152 hx1 hy1) hZ (hw _ (List.mem_of_getElem? (i := 84) rfl)) (hw _ (List.mem_of_getElem? (i := 7) rfl)) (by decide) (by decide)) (g := (mkF m 68 #[.val (.ref a1), .val (.ref a2), .val (.int p3), .val (.ref b121), .val (.int (1 : Int32))] [(.int x1), (.ref sa152), (.int p3), (.ref a2)])) rfl (by rw [hml]; rfl) (argsL := [(.ref a2), (.int p3), (.ref sa152), (.int x1)]) (rest := []) (lenOf pd__Ljava_lang_String_ILjava_lang_String_I_V rfl) rfl (by show 2 * 0 + _ ≤ _; exact Nat.le_of_eq rfl) (hb hby dT3_68) (fun _ _ => ⟨rfl, e152, (by decide : 9 + 0 ≤ _), (by decide : 247 + 0 ≤ _)⟩)
  dsimp only [Pt.U, Pt.locs, Pt.cells, Pt.slots] at X162 l162 y162 z162 st162 hQ162
  subst l162 y162 z162
  obtain ⟨rfl, rfl, e162⟩ := hQ162
  have N162 := Fr.app N149 (Fr.nil n0)
  obtain ⟨cl163, Ar163, q163, S163, Nn163, H163, G163⟩ := id f160
  obtain ⟨cl164, Ar164, q164, S164, Nn164, H164, G164⟩ := id f160
  obtain ⟨cl165, Ar165, q165, S165, Nn165, H165, G165⟩ := id f160
  have P166 : ∀ t, Steps p.tables e below (T162.setTop (mkF m 62 #[.val (.ref a1), .val (.ref a2), .val (.int p3), .val (.ref b121), .val (.int (2 : Int32))] [(.int p3), (.ref a2)])) t → Steps p.tables e below (s₁.setTop (entryFrame m #[(.ref a1), (.ref a2), (.int p3), (.ref a4)] 5)) t := fun t kt => P151 t (by
    show Steps p.tables e below (T149.setTop (mkF m 62 #[.val (.ref a1), .val (.ref a2), .val (.int p3), .val (.ref b121), .val (.int (1 : Int32))] [(.int p3), (.ref a2)])) _
    refine st152 _ ?_
    show Steps p.tables e below (T152.setTop (mkF m 64 #[.val (.ref a1), .val (.ref a2), .val (.int p3), .val (.ref b121), .val (.int (1 : Int32))] [(.ref sa152), (.int p3), (.ref a2)])) _
    refine XS.aloadN X152.here hx rfl (hb hby dT3_64) rfl rfl ?_
    show Steps p.tables e below (T152.setTop (mkF m 65 #[.val (.ref a1), .val (.ref a2), .val (.int p3), .val (.ref b121), .val (.int (1 : Int32))] [(.ref b121), (.ref sa152), (.int p3), (.ref a2)])) _
    refine XS.iload X152.here hx rfl (hb hby dT3_65) rfl ?_
    show Steps p.tables e below (T152.setTop (mkF m 67 #[.val (.ref a1), .val (.ref a2), .val (.int p3), .val (.ref b121), .val (.int (1 : Int32))] [(.int (1 : Int32)), (.ref b121), (.ref sa152), (.int p3), (.ref a2)])) _
    refine X152.iaload hx (j := (1 : Int32)) (v := (.int x1)) (by rw [e152]; exact Ar161.1) (State.isArrayOf_alike hZ.alike Ar161.2.1) Ar161.2.2 (inb_of S161 ⟨by decide, by decide⟩) (H161 1 (by rw [S161]; decide)) (g := (mkF m 67 #[.val (.ref a1), .val (.ref a2), .val (.int p3), .val (.ref b121), .val (.int (1 : Int32))] [(.int (1 : Int32)), (.ref b121), (.ref sa152), (.int p3), (.ref a2)])) rfl rfl (hb hby dT3_67) _ ?_
    show Steps p.tables e below (T152.setTop (mkF m 68 #[.val (.ref a1), .val (.ref a2), .val (.int p3), .val (.ref b121), .val (.int (1 : Int32))] [(.int x1), (.ref sa152), (.int p3), (.ref a2)])) _
    refine st162 _ ?_
    show Steps p.tables e below (T162.setTop (mkF m 71 #[.val (.ref a1), .val (.ref a2), .val (.int p3), .val (.ref b121), .val (.int (1 : Int32))] [])) _
    refine XS.iload X162.here hx rfl (hb hby dT3_71) rfl ?_
    show Steps p.tables e below (T162.setTop (mkF m 73 #[.val (.ref a1), .val (.ref a2), .val (.int p3), .val (.ref b121), .val (.int (1 : Int32))] [(.int (1 : Int32))])) _
    refine XS.ifNo X162.here hx rfl (hb hby dT3_73) rfl ((if0 _ _).trans (tlt ((by decide) : (0 : Int32) < (1 : Int32))).2.2.2) ?_
    show Steps p.tables e below (T162.setTop (mkF m 76 #[.val (.ref a1), .val (.ref a2), .val (.int p3), .val (.ref b121), .val (.int (1 : Int32))] [])) _
    refine XS.aloadN X162.here hx rfl (hb hby dT3_76) rfl rfl ?_
    show Steps p.tables e below (T162.setTop (mkF m 77 #[.val (.ref a1), .val (.ref a2), .val (.int p3), .val (.ref b121), .val (.int (1 : Int32))] [(.ref b121)])) _
    refine XS.iload X162.here hx rfl (hb hby dT3_77) rfl ?_
    show Steps p.tables e below (T162.setTop (mkF m 79 #[.val (.ref a1), .val (.ref a2), .val (.int p3), .val (.ref b121), .val (.int (1 : Int32))] [(.int (1 : Int32)), (.ref b121)])) _
    refine X162.iaload hx (j := (1 : Int32)) (v := (.int x1)) (by rw [e162]; exact Ar163.1) (State.isArrayOf_alike hZ.alike Ar163.2.1) Ar163.2.2 (inb_of S163 ⟨by decide, by decide⟩) (H163 1 (by rw [S163]; decide)) (g := (mkF m 79 #[.val (.ref a1), .val (.ref a2), .val (.int p3), .val (.ref b121), .val (.int (1 : Int32))] [(.int (1 : Int32)), (.ref b121)])) rfl rfl (hb hby dT3_79) _ ?_
    show Steps p.tables e below (T162.setTop (mkF m 80 #[.val (.ref a1), .val (.ref a2), .val (.int p3), .val (.ref b121), .val (.int (1 : Int32))] [(.int x1)])) _
    refine XS.aloadN X162.here hx rfl (hb hby dT3_80) rfl rfl ?_
    show Steps p.tables e below (T162.setTop (mkF m 81 #[.val (.ref a1), .val (.ref a2), .val (.int p3), .val (.ref b121), .val (.int (1 : Int32))] [(.ref b121), (.int x1)])) _
    refine XS.iload X162.here hx rfl (hb hby dT3_81) rfl ?_
    show Steps p.tables e below (T162.setTop (mkF m 83 #[.val (.ref a1), .val (.ref a2), .val (.int p3), .val (.ref b121), .val (.int (1 : Int32))] [(.int (1 : Int32)), (.ref b121), (.int x1)])) _
    refine XS.iconst X162.here hx rfl (hb hby dT3_83) ?_
    show Steps p.tables e below (T162.setTop (mkF m 84 #[.val (.ref a1), .val (.ref a2), .val (.int p3), .val (.ref b121), .val (.int (1 : Int32))] [(.int (1 : Int32)), (.int (1 : Int32)), (.ref b121), (.int x1)])) _
    refine XS.isub X162.here hx rfl (hb hby dT3_84) rfl ?_
    show Steps p.tables e below (T162.setTop (mkF m 85 #[.val (.ref a1), .val (.ref a2), .val (.int p3), .val (.ref b121), .val (.int (1 : Int32))] [(.int (0 : Int32)), (.ref b121), (.int x1)])) _
    refine X162.iaload hx (j := (0 : Int32)) (v := (.int x0)) (by rw [e162]; exact Ar164.1) (State.isArrayOf_alike hZ.alike Ar164.2.1) Ar164.2.2 (inb_of S164 ⟨by decide, by decide⟩) (H164 0 (by rw [S164]; decide)) (g := (mkF m 85 #[.val (.ref a1), .val (.ref a2), .val (.int p3), .val (.ref b121), .val (.int (1 : Int32))] [(.int (0 : Int32)), (.ref b121), (.int x1)])) rfl rfl (hb hby dT3_85) _ ?_
    show Steps p.tables e below (T162.setTop (mkF m 86 #[.val (.ref a1), .val (.ref a2), .val (.int p3), .val (.ref b121), .val (.int (1 : Int32))] [(.int x0), (.int x1)])) _
    refine XS.icmpYes X162.here hx rfl (pc0 := 86) (pc' := 106) rfl (hb hby dT3_86) rfl (feq (fun q => Int32.lt_irrefl (q ▸ h01) : ¬ (x1 = x0))).2 (by decide) (by decide) ?_
    show Steps p.tables e below (T162.setTop (mkF m 106 #[.val (.ref a1), .val (.ref a2), .val (.int p3), .val (.ref b121), .val (.int (1 : Int32))] [])) _
    refine XS.iinc X162.here hx rfl (hb hby dT3_106) rfl (l' := #[.val (.ref a1), .val (.ref a2), .val (.int p3), .val (.ref b121), .val (.int (2 : Int32))]) rfl ?_
    show Steps p.tables e below (T162.setTop (mkF m 109 #[.val (.ref a1), .val (.ref a2), .val (.int p3), .val (.ref b121), .val (.int (2 : Int32))] [])) _
    refine XS.goto X162.here hx rfl (pc0 := 109) (pc' := 53) rfl (hb hby dT3_109) (by decide) (by decide) ?_
    show Steps p.tables e below (T162.setTop (mkF m 53 #[.val (.ref a1), .val (.ref a2), .val (.int p3), .val (.ref b121), .val (.int (2 : Int32))] [])) _
    refine XS.iload X162.here hx rfl (hb hby dT3_53) rfl ?_
    show Steps p.tables e below (T162.setTop (mkF m 55 #[.val (.ref a1), .val (.ref a2), .val (.int p3), .val (.ref b121), .val (.int (2 : Int32))] [(.int (2 : Int32))])) _
    refine XS.aloadN X162.here hx rfl (hb hby dT3_55) rfl rfl ?_
    show Steps p.tables e below (T162.setTop (mkF m 56 #[.val (.ref a1), .val (.ref a2), .val (.int p3), .val (.ref b121), .val (.int (2 : Int32))] [(.ref b121), (.int (2 : Int32))])) _
    refine X162.arraylength hx (by rw [e162]; exact Ar165.1) (State.isArrayOf_alike hZ.alike Ar165.2.1) (g := (mkF m 56 #[.val (.ref a1), .val (.ref a2), .val (.int p3), .val (.ref b121), .val (.int (2 : Int32))] [(.ref b121), (.int (2 : Int32))])) rfl rfl (hb hby dT3_56) _ ?_
    rw [len_of S165 Nn165]
    show Steps p.tables e below (T162.setTop (mkF m 57 #[.val (.ref a1), .val (.ref a2), .val (.int p3), .val (.ref b121), .val (.int (2 : Int32))] [(.int (3 : Int32)), (.int (2 : Int32))])) _
    refine XS.icmpNo X162.here hx rfl (hb hby dT3_57) rfl (tlt ((by decide) : (2 : Int32) < (3 : Int32))).2.1 ?_
    show Steps p.tables e below (T162.setTop (mkF m 60 #[.val (.ref a1), .val (.ref a2), .val (.int p3), .val (.ref b121), .val (.int (2 : Int32))] [])) _
    refine XS.aloadN X162.here hx rfl (hb hby dT3_60) rfl rfl ?_
    show Steps p.tables e below (T162.setTop (mkF m 61 #[.val (.ref a1), .val (.ref a2), .val (.int p3), .val (.ref b121), .val (.int (2 : Int32))] [(.ref a2)])) _
    refine XS.iloadN X162.here hx rfl (hb hby dT3_61) rfl ?_
    exact kt)
  obtain ⟨sa167, T167, h167, j167, X167, e167, E167, hS167, hk167, hZ, hown, st167⟩ := ldcS X162 hx hZ hown (hw _ (List.mem_of_getElem? (i := 81) rfl)) (own_wS hw) e162 hS152 hk152 (g := (mkF m 62 #[.val (.ref a1), .val (.ref a2), .val (.int p3), .val (.ref b121), .val (.int (2 : Int32))] [(.int p3), (.ref a2)])) rfl (hb hby dT3_62) (n := 84) (by decide) (by decide) (by decide) (by decide)
  have f168 := f153.ext E167
  have f169 := f154.ext E167
  have f170 := f155.ext E167
  have f171 := f156.ext E167
  have f172 := f157.ext E167
  have f173 := f158.ext E167
  have f174 := f159.ext E167
  have f175 := f160.ext E167
  have sz167 : n0 ≤ h167.size := Nat.le_trans sz152 E167.1
  have K167 : Keep h0 h167 [a1] := K152.ext E167
  obtain ⟨cl176, Ar176, q176, S176, Nn176, H176, G176⟩ := id f175
  obtain ⟨_, _, ⟨T177, L177, k177, n177⟩, -, X177, ⟨Lc177, hQ177, l177, y177, z177⟩, st177⟩ := Jvm.LawKit.callS X167 hx (y := (⟨"com/example/allot/allot/partition/Topic", "requireOneOf", "(Ljava/lang/String;ILjava/lang/String;I)V"⟩ : MethodName)) hown (mvT hZ (hw _ (List.mem_of_getElem? (i := 82) rfl))) (mvT hZ (hw _ (List.mem_of_getElem? (i := 83) rfl))) (mvT hZ (hw _ (List.mem_of_getElem? (i := 7) rfl))) (mvT hZ (hw _ (List.mem_of_getElem? (i := 84) rfl))) (by decide) (backOf (W := 0)  (rmRO l Z a0 hw [] a2 p3 sa167 x2 h167 hx2 hy2) hZ (hw _ (List.mem_of_getElem? (i := 84) rfl)) (hw _ (List.mem_of_getElem? (i := 7) rfl)) (by decide) (by decide)) (g := (mkF m 68 #[.val (.ref a1), .val (.ref a2), .val (.int p3), .val (.ref b121), .val (.int (2 : Int32))] [(.int x2), (.ref sa167), (.int p3), (.ref a2)])) rfl (by rw [hml]; rfl) (argsL := [(.ref a2), (.int p3), (.ref sa167), (.int x2)]) (rest := []) (lenOf pd__Ljava_lang_String_ILjava_lang_String_I_V rfl) rfl (by show 2 * 0 + _ ≤ _; exact Nat.le_of_eq rfl) (hb hby dT3_68) (fun _ _ => ⟨rfl, e167, (by decide : 11 + 0 ≤ _), (by decide : 335 + 0 ≤ _)⟩)
  dsimp only [Pt.U, Pt.locs, Pt.cells, Pt.slots] at X177 l177 y177 z177 st177 hQ177
  subst l177 y177 z177
  obtain ⟨rfl, rfl, e177⟩ := hQ177
  have N177 := Fr.app N162 (Fr.nil n0)
  obtain ⟨cl178, Ar178, q178, S178, Nn178, H178, G178⟩ := id f175
  obtain ⟨cl179, Ar179, q179, S179, Nn179, H179, G179⟩ := id f175
  obtain ⟨cl180, Ar180, q180, S180, Nn180, H180, G180⟩ := id f175
  obtain ⟨T181, h181, X181, e181, W181, st181⟩ := putF X177 hx hZ hown (host := "") (Or.inl (hw _ (List.mem_of_getElem? (i := 56) rfl))) Via.refl e177 f169 f168 (Or.inr ⟨(hw _ (List.mem_of_getElem? (i := 57) rfl)), rfl, hnm⟩) (hw _ (List.mem_of_getElem? (i := 6) rfl)) (ty := (.object "java/lang/String")) (by decide) rfl rfl (g := (mkF m 114 #[.val (.ref a1), .val (.ref a2), .val (.int p3), .val (.ref b121), .val (.int (3 : Int32))] [(.ref a2), (.ref a1)])) rfl rfl (hb hby dT3_114)
  have f182 := f168.wr W181
  have f183 := f170.other W181 (Or.inr (slot_ne (Or.inr (hw _ (List.mem_of_getElem? (i := 59) rfl))) (Or.inr (hw _ (List.mem_of_getElem? (i := 57) rfl))) (by decide) (t := .int) (t' := (.object "java/lang/String")) (by decide) (by decide)))
  have f184 := f171.other W181 (Or.inr (slot_ne (Or.inr (hw _ (List.mem_of_getElem? (i := 61) rfl))) (Or.inr (hw _ (List.mem_of_getElem? (i := 57) rfl))) (by decide) (t := (.array .int)) (t' := (.object "java/lang/String")) (by decide) (by decide)))
  have f185 := f172.wr W181
  have f186 := f173.other W181 (Ne.symm h14)
  have f187 := f174.wr W181
  have f188 := f175.other W181 (Ne.symm ne121_a1)
  have F181 := f169.same W181
  have N181 := Fr.snoc X181 N177 ga
  have sz181 : n0 ≤ h181.size := Nat.le_trans sz167 (Keep.of_wr W181).1
  have hk181 := Nat.le_trans hk167 (Keep.of_wr W181).1
  have K181 : Keep h0 h181 [a1] := K167.wr W181 (Or.inl (List.mem_of_getElem? (i := 0) rfl))
  obtain ⟨T189, h189, X189, e189, W189, st189⟩ := putF X181 hx hZ hown (host := "") (Or.inl (hw _ (List.mem_of_getElem? (i := 58) rfl))) Via.refl e181 f183 f182 (Or.inr ⟨(hw _ (List.mem_of_getElem? (i := 59) rfl)), rfl, hnm⟩) (hw _ (List.mem_of_getElem? (i := 6) rfl)) (ty := .int) (by decide) rfl rfl (g := (mkF m 119 #[.val (.ref a1), .val (.ref a2), .val (.int p3), .val (.ref b121), .val (.int (3 : Int32))] [(.int p3), (.ref a1)])) rfl rfl (hb hby dT3_119)
  have f190 := f182.wr W189
  have f191 := f184.other W189 (Or.inr (slot_ne (Or.inr (hw _ (List.mem_of_getElem? (i := 61) rfl))) (Or.inr (hw _ (List.mem_of_getElem? (i := 59) rfl))) (by decide) (t := (.array .int)) (t' := .int) (by decide) (by decide)))
  have f192 := f185.wr W189
  have f193 := f186.other W189 (Ne.symm h14)
  have f194 := f187.wr W189
  have f195 := f188.other W189 (Ne.symm ne121_a1)
  have f196 := F181.other W189 (Or.inr (slot_ne (Or.inr (hw _ (List.mem_of_getElem? (i := 57) rfl))) (Or.inr (hw _ (List.mem_of_getElem? (i := 59) rfl))) (by decide) (t := (.object "java/lang/String")) (t' := .int) (by decide) (by decide)))
  have F189 := f183.same W189
  have N189 := Fr.snoc X189 N181 ga
  have sz189 : n0 ≤ h189.size := Nat.le_trans sz181 (Keep.of_wr W189).1
  have hk189 := Nat.le_trans hk181 (Keep.of_wr W189).1
  have K189 : Keep h0 h189 [a1] := K181.wr W189 (Or.inl (List.mem_of_getElem? (i := 0) rfl))
  obtain ⟨T197, h197, X197, e197, W197, st197⟩ := putF X189 hx hZ hown (host := "") (Or.inl (hw _ (List.mem_of_getElem? (i := 60) rfl))) Via.refl e189 f191 f190 (Or.inr ⟨(hw _ (List.mem_of_getElem? (i := 61) rfl)), rfl, hnm⟩) (hw _ (List.mem_of_getElem? (i := 6) rfl)) (ty := (.array .int)) (by decide) rfl rfl (g := (mkF m 124 #[.val (.ref a1), .val (.ref a2), .val (.int p3), .val (.ref b121), .val (.int (3 : Int32))] [(.ref b121), (.ref a1)])) rfl rfl (hb hby dT3_124)
  have f198 := f190.wr W197
  have f199 := f192.wr W197
  have f200 := f193.other W197 (Ne.symm h14)
  have f201 := f194.wr W197
  have f202 := f195.other W197 (Ne.symm ne121_a1)
  have f203 := f196.other W197 (Or.inr (slot_ne (Or.inr (hw _ (List.mem_of_getElem? (i := 57) rfl))) (Or.inr (hw _ (List.mem_of_getElem? (i := 61) rfl))) (by decide) (t := (.object "java/lang/String")) (t' := (.array .int)) (by decide) (by decide)))
  have f204 := F189.other W197 (Or.inr (slot_ne (Or.inr (hw _ (List.mem_of_getElem? (i := 59) rfl))) (Or.inr (hw _ (List.mem_of_getElem? (i := 61) rfl))) (by decide) (t := .int) (t' := (.array .int)) (by decide) (by decide)))
  have F197 := f191.same W197
  have N197 := Fr.snoc X197 N189 ga
  have sz197 : n0 ≤ h197.size := Nat.le_trans sz189 (Keep.of_wr W197).1
  have hk197 := Nat.le_trans hk189 (Keep.of_wr W197).1
  have K197 : Keep h0 h197 [a1] := K189.wr W197 (Or.inl (List.mem_of_getElem? (i := 0) rfl))
  have P205 : ∀ t, Steps p.tables e below (T197.setTop (mkF m 127 #[.val (.ref a1), .val (.ref a2), .val (.int p3), .val (.ref b121), .val (.int (3 : Int32))] [])) t → Steps p.tables e below (s₁.setTop (entryFrame m #[(.ref a1), (.ref a2), (.int p3), (.ref a4)] 5)) t := fun t kt => P166 t (by
    show Steps p.tables e below (T162.setTop (mkF m 62 #[.val (.ref a1), .val (.ref a2), .val (.int p3), .val (.ref b121), .val (.int (2 : Int32))] [(.int p3), (.ref a2)])) _
    refine st167 _ ?_
    show Steps p.tables e below (T167.setTop (mkF m 64 #[.val (.ref a1), .val (.ref a2), .val (.int p3), .val (.ref b121), .val (.int (2 : Int32))] [(.ref sa167), (.int p3), (.ref a2)])) _
    refine XS.aloadN X167.here hx rfl (hb hby dT3_64) rfl rfl ?_
    show Steps p.tables e below (T167.setTop (mkF m 65 #[.val (.ref a1), .val (.ref a2), .val (.int p3), .val (.ref b121), .val (.int (2 : Int32))] [(.ref b121), (.ref sa167), (.int p3), (.ref a2)])) _
    refine XS.iload X167.here hx rfl (hb hby dT3_65) rfl ?_
    show Steps p.tables e below (T167.setTop (mkF m 67 #[.val (.ref a1), .val (.ref a2), .val (.int p3), .val (.ref b121), .val (.int (2 : Int32))] [(.int (2 : Int32)), (.ref b121), (.ref sa167), (.int p3), (.ref a2)])) _
    refine X167.iaload hx (j := (2 : Int32)) (v := (.int x2)) (by rw [e167]; exact Ar176.1) (State.isArrayOf_alike hZ.alike Ar176.2.1) Ar176.2.2 (inb_of S176 ⟨by decide, by decide⟩) (H176 2 (by rw [S176]; decide)) (g := (mkF m 67 #[.val (.ref a1), .val (.ref a2), .val (.int p3), .val (.ref b121), .val (.int (2 : Int32))] [(.int (2 : Int32)), (.ref b121), (.ref sa167), (.int p3), (.ref a2)])) rfl rfl (hb hby dT3_67) _ ?_
    show Steps p.tables e below (T167.setTop (mkF m 68 #[.val (.ref a1), .val (.ref a2), .val (.int p3), .val (.ref b121), .val (.int (2 : Int32))] [(.int x2), (.ref sa167), (.int p3), (.ref a2)])) _
    refine st177 _ ?_
    show Steps p.tables e below (T177.setTop (mkF m 71 #[.val (.ref a1), .val (.ref a2), .val (.int p3), .val (.ref b121), .val (.int (2 : Int32))] [])) _
    refine XS.iload X177.here hx rfl (hb hby dT3_71) rfl ?_
    show Steps p.tables e below (T177.setTop (mkF m 73 #[.val (.ref a1), .val (.ref a2), .val (.int p3), .val (.ref b121), .val (.int (2 : Int32))] [(.int (2 : Int32))])) _
    refine XS.ifNo X177.here hx rfl (hb hby dT3_73) rfl ((if0 _ _).trans (tlt ((by decide) : (0 : Int32) < (2 : Int32))).2.2.2) ?_
    show Steps p.tables e below (T177.setTop (mkF m 76 #[.val (.ref a1), .val (.ref a2), .val (.int p3), .val (.ref b121), .val (.int (2 : Int32))] [])) _
    refine XS.aloadN X177.here hx rfl (hb hby dT3_76) rfl rfl ?_
    show Steps p.tables e below (T177.setTop (mkF m 77 #[.val (.ref a1), .val (.ref a2), .val (.int p3), .val (.ref b121), .val (.int (2 : Int32))] [(.ref b121)])) _
    refine XS.iload X177.here hx rfl (hb hby dT3_77) rfl ?_
    show Steps p.tables e below (T177.setTop (mkF m 79 #[.val (.ref a1), .val (.ref a2), .val (.int p3), .val (.ref b121), .val (.int (2 : Int32))] [(.int (2 : Int32)), (.ref b121)])) _
    refine X177.iaload hx (j := (2 : Int32)) (v := (.int x2)) (by rw [e177]; exact Ar178.1) (State.isArrayOf_alike hZ.alike Ar178.2.1) Ar178.2.2 (inb_of S178 ⟨by decide, by decide⟩) (H178 2 (by rw [S178]; decide)) (g := (mkF m 79 #[.val (.ref a1), .val (.ref a2), .val (.int p3), .val (.ref b121), .val (.int (2 : Int32))] [(.int (2 : Int32)), (.ref b121)])) rfl rfl (hb hby dT3_79) _ ?_
    show Steps p.tables e below (T177.setTop (mkF m 80 #[.val (.ref a1), .val (.ref a2), .val (.int p3), .val (.ref b121), .val (.int (2 : Int32))] [(.int x2)])) _
    refine XS.aloadN X177.here hx rfl (hb hby dT3_80) rfl rfl ?_
    show Steps p.tables e below (T177.setTop (mkF m 81 #[.val (.ref a1), .val (.ref a2), .val (.int p3), .val (.ref b121), .val (.int (2 : Int32))] [(.ref b121), (.int x2)])) _
    refine XS.iload X177.here hx rfl (hb hby dT3_81) rfl ?_
    show Steps p.tables e below (T177.setTop (mkF m 83 #[.val (.ref a1), .val (.ref a2), .val (.int p3), .val (.ref b121), .val (.int (2 : Int32))] [(.int (2 : Int32)), (.ref b121), (.int x2)])) _
    refine XS.iconst X177.here hx rfl (hb hby dT3_83) ?_
    show Steps p.tables e below (T177.setTop (mkF m 84 #[.val (.ref a1), .val (.ref a2), .val (.int p3), .val (.ref b121), .val (.int (2 : Int32))] [(.int (1 : Int32)), (.int (2 : Int32)), (.ref b121), (.int x2)])) _
    refine XS.isub X177.here hx rfl (hb hby dT3_84) rfl ?_
    show Steps p.tables e below (T177.setTop (mkF m 85 #[.val (.ref a1), .val (.ref a2), .val (.int p3), .val (.ref b121), .val (.int (2 : Int32))] [(.int (1 : Int32)), (.ref b121), (.int x2)])) _
    refine X177.iaload hx (j := (1 : Int32)) (v := (.int x1)) (by rw [e177]; exact Ar179.1) (State.isArrayOf_alike hZ.alike Ar179.2.1) Ar179.2.2 (inb_of S179 ⟨by decide, by decide⟩) (H179 1 (by rw [S179]; decide)) (g := (mkF m 85 #[.val (.ref a1), .val (.ref a2), .val (.int p3), .val (.ref b121), .val (.int (2 : Int32))] [(.int (1 : Int32)), (.ref b121), (.int x2)])) rfl rfl (hb hby dT3_85) _ ?_
    show Steps p.tables e below (T177.setTop (mkF m 86 #[.val (.ref a1), .val (.ref a2), .val (.int p3), .val (.ref b121), .val (.int (2 : Int32))] [(.int x1), (.int x2)])) _
    refine XS.icmpYes X177.here hx rfl (pc0 := 86) (pc' := 106) rfl (hb hby dT3_86) rfl (feq (fun q => Int32.lt_irrefl (q ▸ h12) : ¬ (x2 = x1))).2 (by decide) (by decide) ?_
    show Steps p.tables e below (T177.setTop (mkF m 106 #[.val (.ref a1), .val (.ref a2), .val (.int p3), .val (.ref b121), .val (.int (2 : Int32))] [])) _
    refine XS.iinc X177.here hx rfl (hb hby dT3_106) rfl (l' := #[.val (.ref a1), .val (.ref a2), .val (.int p3), .val (.ref b121), .val (.int (3 : Int32))]) rfl ?_
    show Steps p.tables e below (T177.setTop (mkF m 109 #[.val (.ref a1), .val (.ref a2), .val (.int p3), .val (.ref b121), .val (.int (3 : Int32))] [])) _
    refine XS.goto X177.here hx rfl (pc0 := 109) (pc' := 53) rfl (hb hby dT3_109) (by decide) (by decide) ?_
    show Steps p.tables e below (T177.setTop (mkF m 53 #[.val (.ref a1), .val (.ref a2), .val (.int p3), .val (.ref b121), .val (.int (3 : Int32))] [])) _
    refine XS.iload X177.here hx rfl (hb hby dT3_53) rfl ?_
    show Steps p.tables e below (T177.setTop (mkF m 55 #[.val (.ref a1), .val (.ref a2), .val (.int p3), .val (.ref b121), .val (.int (3 : Int32))] [(.int (3 : Int32))])) _
    refine XS.aloadN X177.here hx rfl (hb hby dT3_55) rfl rfl ?_
    show Steps p.tables e below (T177.setTop (mkF m 56 #[.val (.ref a1), .val (.ref a2), .val (.int p3), .val (.ref b121), .val (.int (3 : Int32))] [(.ref b121), (.int (3 : Int32))])) _
    refine X177.arraylength hx (by rw [e177]; exact Ar180.1) (State.isArrayOf_alike hZ.alike Ar180.2.1) (g := (mkF m 56 #[.val (.ref a1), .val (.ref a2), .val (.int p3), .val (.ref b121), .val (.int (3 : Int32))] [(.ref b121), (.int (3 : Int32))])) rfl rfl (hb hby dT3_56) _ ?_
    rw [len_of S180 Nn180]
    show Steps p.tables e below (T177.setTop (mkF m 57 #[.val (.ref a1), .val (.ref a2), .val (.int p3), .val (.ref b121), .val (.int (3 : Int32))] [(.int (3 : Int32)), (.int (3 : Int32))])) _
    refine XS.icmpYes X177.here hx rfl (pc0 := 57) (pc' := 112) rfl (hb hby dT3_57) rfl (flt ((by decide) : ¬ ((3 : Int32) < (3 : Int32)))).2.1 (by decide) (by decide) ?_
    show Steps p.tables e below (T177.setTop (mkF m 112 #[.val (.ref a1), .val (.ref a2), .val (.int p3), .val (.ref b121), .val (.int (3 : Int32))] [])) _
    refine XS.aloadN X177.here hx rfl (hb hby dT3_112) rfl rfl ?_
    show Steps p.tables e below (T177.setTop (mkF m 113 #[.val (.ref a1), .val (.ref a2), .val (.int p3), .val (.ref b121), .val (.int (3 : Int32))] [(.ref a1)])) _
    refine XS.aloadN X177.here hx rfl (hb hby dT3_113) rfl rfl ?_
    show Steps p.tables e below (T177.setTop (mkF m 114 #[.val (.ref a1), .val (.ref a2), .val (.int p3), .val (.ref b121), .val (.int (3 : Int32))] [(.ref a2), (.ref a1)])) _
    refine st181 _ ?_
    show Steps p.tables e below (T181.setTop (mkF m 117 #[.val (.ref a1), .val (.ref a2), .val (.int p3), .val (.ref b121), .val (.int (3 : Int32))] [])) _
    refine XS.aloadN X181.here hx rfl (hb hby dT3_117) rfl rfl ?_
    show Steps p.tables e below (T181.setTop (mkF m 118 #[.val (.ref a1), .val (.ref a2), .val (.int p3), .val (.ref b121), .val (.int (3 : Int32))] [(.ref a1)])) _
    refine XS.iloadN X181.here hx rfl (hb hby dT3_118) rfl ?_
    show Steps p.tables e below (T181.setTop (mkF m 119 #[.val (.ref a1), .val (.ref a2), .val (.int p3), .val (.ref b121), .val (.int (3 : Int32))] [(.int p3), (.ref a1)])) _
    refine st189 _ ?_
    show Steps p.tables e below (T189.setTop (mkF m 122 #[.val (.ref a1), .val (.ref a2), .val (.int p3), .val (.ref b121), .val (.int (3 : Int32))] [])) _
    refine XS.aloadN X189.here hx rfl (hb hby dT3_122) rfl rfl ?_
    show Steps p.tables e below (T189.setTop (mkF m 123 #[.val (.ref a1), .val (.ref a2), .val (.int p3), .val (.ref b121), .val (.int (3 : Int32))] [(.ref a1)])) _
    refine XS.aloadN X189.here hx rfl (hb hby dT3_123) rfl rfl ?_
    show Steps p.tables e below (T189.setTop (mkF m 124 #[.val (.ref a1), .val (.ref a2), .val (.int p3), .val (.ref b121), .val (.int (3 : Int32))] [(.ref b121), (.ref a1)])) _
    refine st197 _ ?_
    exact kt)
  obtain ⟨fs, hr, hrun, hended, hE1, hE2, hE3, hE4⟩ := X197.leaveW hS167 (by rw [e197]; exact hk197) (v := none) (fun _ => rfl) (hlocks := hlk)
  refine ⟨_, _, P205 _ ?_, hrun, hended, _, _, rfl, ?_, hE1, hE2, hE3, hE4.mono (by decide) (by decide)⟩
  · show Steps p.tables e below (T197.setTop (mkF m 127 #[.val (.ref a1), .val (.ref a2), .val (.int p3), .val (.ref b121), .val (.int (3 : Int32))] [])) _
    exact X197.returnOut hx Bd.returns (hb hby dT3_127) hr
  · show QT Z a1 a2 p3 (3 : Int32) [(.int x0), (.int x1), (.int x2)] h0 n0 _ T197.heap _
    rw [e197]
    exact ⟨rfl, N197, K197, f198, f203, f204, b121, k, F197, f202⟩
theorem dPC_0 : decode jdk_41_method_11_code 0 = .ok (.iload_n 0, 1) := by decide +kernel
theorem dPC_1 : decode jdk_41_method_11_code 1 = .ok (.ifCond .lt 8, 3) := by decide +kernel
theorem dPC_4 : decode jdk_41_method_11_code 4 = .ok (.iload_n 0, 1) := by decide +kernel
theorem dPC_5 : decode jdk_41_method_11_code 5 = .ok (.iload_n 1, 1) := by decide +kernel
theorem dPC_6 : decode jdk_41_method_11_code 6 = .ok (.if_icmp .lt 10, 3) := by decide +kernel
theorem dPC_16 : decode jdk_41_method_11_code 16 = .ok (.iload_n 0, 1) := by decide +kernel
theorem dPC_17 : decode jdk_41_method_11_code 17 = .ok (.ireturn, 1) := by decide +kernel
theorem ef_PC (m : MethodId) (x0 : Int32) (x1 : Int32) : entryFrame m #[(.int x0), (.int x1), .null] 3 = mkF m 0 #[.val (.int x0), .val (.int x1), .val .null] [] := by first | (simp [entryFrame, mkF, argsToLocals, Value.category]; done) | rfl
set_option maxRecDepth 65536 in
set_option maxHeartbeats 40000000 in
theorem rmPC (l : Launch) (Z : State) (a0 : Array Value) (hw : ∀ d ∈ tables_1, d.before a0 Z = true) (ws : List Jvm.Cond) (p1 : Int32) (p2 : Int32) (h0 : Heap) (h1 : ¬ p1 < (0 : Int32)) (h2 : p1 < p2) :
    MetFree l (⟨"jdk/internal/util/Preconditions", "checkIndex", "(IILjava/util/function/BiFunction;)I"⟩ : MethodName) (head1 (Jvm.Cond.code (⟨"jdk/internal/util/Preconditions", "checkIndex", "(IILjava/util/function/BiFunction;)I"⟩ : MethodName) jdk_41_method_11_code 3 (some .int) :: ws) ({ frames := 0, cells := 0, slots := 0, locals := 0 } : Room)) (fun a U => a = #[(.int p1), (.int p2), .null] ∧ Z.Warmed39 U.vm ∧ U.heap = h0) (fun _ _ _ _ _ => True) (fun _ U o U' => ∃ v L, o = .returned v ∧ QP (some (.int p1)) h0 v U'.heap L ∧ FrameEnd U o U' L ({ frames := 0, cells := 0, slots := 0, locals := 0 } : Room).cells ({ frames := 0, cells := 0, slots := 0, locals := 0 } : Room).slots) := by
  refine MetFree.of_bodySF (plainFor_of_name (by first | (simp [plainName, overriddenIn]; done) | decide +kernel)) hisR ?_
  intro p e s m args below meth c s₁ Bd hml0 hP hK
  obtain ⟨rfl, hZ, hh⟩ := hP
  have hx := Bd.exec
  have hby := Bd.bytes
  have hml : c.maxLocals = 3 := hml0
  have hown : s.vm.findClass "jdk/internal/util/Preconditions" = some m.cls := findClass_of_methodNamed Bd.named
  have hnm := (name_of_methodNamed Bd.named Bd.method).1
  have hlk : meth.locks = false := BodyLoose.notSynchronized Bd
  have X0 : Stand p l e ({ frames := 0, cells := 0, slots := 0, locals := 0 } : Room) s m #[(.int p1), (.int p2), .null] below meth c s₁ [] 0 0 := Stand.of_body Bd
  have e0 : s₁.heap = h0 := by rw [← hh, Bd.state]; rfl
  have P0 : ∀ t, Steps p.tables e below (s₁.setTop (mkF m 0 #[.val (.int p1), .val (.int p2), .val .null] [])) t → Steps p.tables e below (s₁.setTop (entryFrame m #[(.int p1), (.int p2), .null] 3)) t := fun t kt => castTop (ef_PC m p1 p2) kt
  have P101 : ∀ t, Steps p.tables e below (s₁.setTop (mkF m 17 #[.val (.int p1), .val (.int p2), .val .null] [(.int p1)])) t → Steps p.tables e below (s₁.setTop (entryFrame m #[(.int p1), (.int p2), .null] 3)) t := fun t kt => P0 t (by
    show Steps p.tables e below (s₁.setTop (mkF m 0 #[.val (.int p1), .val (.int p2), .val .null] [])) _
    refine XS.iloadN X0.here hx rfl (hb hby dPC_0) rfl ?_
    show Steps p.tables e below (s₁.setTop (mkF m 1 #[.val (.int p1), .val (.int p2), .val .null] [(.int p1)])) _
    refine XS.ifNo X0.here hx rfl (hb hby dPC_1) rfl ((if0 _ _).trans (flt (h1 : ¬ (p1 < (0 : Int32)))).1) ?_
    show Steps p.tables e below (s₁.setTop (mkF m 4 #[.val (.int p1), .val (.int p2), .val .null] [])) _
    refine XS.iloadN X0.here hx rfl (hb hby dPC_4) rfl ?_
    show Steps p.tables e below (s₁.setTop (mkF m 5 #[.val (.int p1), .val (.int p2), .val .null] [(.int p1)])) _
    refine XS.iloadN X0.here hx rfl (hb hby dPC_5) rfl ?_
    show Steps p.tables e below (s₁.setTop (mkF m 6 #[.val (.int p1), .val (.int p2), .val .null] [(.int p2), (.int p1)])) _
    refine XS.icmpYes X0.here hx rfl (pc0 := 6) (pc' := 16) rfl (hb hby dPC_6) rfl (tlt (h2 : p1 < p2)).1 (by decide) (by decide) ?_
    show Steps p.tables e below (s₁.setTop (mkF m 16 #[.val (.int p1), .val (.int p2), .val .null] [])) _
    refine XS.iloadN X0.here hx rfl (hb hby dPC_16) rfl ?_
    exact kt)
  obtain ⟨fs, hr, hrun, hended, hW, hsame⟩ := X0.leave (v := some (.int p1)) (fun h => by rw [Bd.returns] at h; cases h) (hlocks := hlk)
  refine ⟨_, _, P101 _ ?_, hrun, hended, _, _, rfl, ?_, ⟨_, rfl⟩, hW, hsame.mono (by decide) (by decide)⟩
  · show Steps p.tables e below (s₁.setTop (mkF m 17 #[.val (.int p1), .val (.int p2), .val .null] [(.int p1)])) _
    exact retI X0 hx Bd.returns (hb hby dPC_17) hr
  · show QP _ h0 _ s₁.heap _
    exact ⟨rfl, rfl, e0⟩
theorem dOC_0 : decode jdk_31_method_17_code 0 = .ok (.iload_n 0, 1) := by decide +kernel
theorem dOC_1 : decode jdk_31_method_17_code 1 = .ok (.iload_n 1, 1) := by decide +kernel
theorem dOC_2 : decode jdk_31_method_17_code 2 = .ok (.aconst_null, 1) := by decide +kernel
theorem dOC_3 : decode jdk_31_method_17_code 3 = .ok (.invokestatic 105, 3) := by decide +kernel
theorem dOC_6 : decode jdk_31_method_17_code 6 = .ok (.ireturn, 1) := by decide +kernel
theorem ef_OC (m : MethodId) (x0 : Int32) (x1 : Int32) : entryFrame m #[(.int x0), (.int x1)] 2 = mkF m 0 #[.val (.int x0), .val (.int x1)] [] := by first | (simp [entryFrame, mkF, argsToLocals, Value.category]; done) | rfl
set_option maxRecDepth 65536 in
set_option maxHeartbeats 40000000 in
theorem rmOC (l : Launch) (Z : State) (a0 : Array Value) (hw : ∀ d ∈ tables_1, d.before a0 Z = true) (ws : List Jvm.Cond) (p1 : Int32) (p2 : Int32) (h0 : Heap) (h1 : ¬ p1 < (0 : Int32)) (h2 : p1 < p2) :
    MetFree l (⟨"java/util/Objects", "checkIndex", "(II)I"⟩ : MethodName) (head1 (Jvm.Cond.code (⟨"java/util/Objects", "checkIndex", "(II)I"⟩ : MethodName) jdk_31_method_17_code 2 (some .int) :: ws) ({ frames := 1, cells := 0, slots := 0, locals := 14 } : Room)) (fun a U => a = #[(.int p1), (.int p2)] ∧ Z.Warmed39 U.vm ∧ U.heap = h0) (fun _ _ _ _ _ => True) (fun _ U o U' => ∃ v L, o = .returned v ∧ QP (some (.int p1)) h0 v U'.heap L ∧ FrameEnd U o U' L ({ frames := 1, cells := 0, slots := 0, locals := 14 } : Room).cells ({ frames := 1, cells := 0, slots := 0, locals := 14 } : Room).slots) := by
  refine MetFree.of_bodySF (plainFor_of_name (by first | (simp [plainName, overriddenIn]; done) | decide +kernel)) hisR ?_
  intro p e s m args below meth c s₁ Bd hml0 hP hK
  obtain ⟨rfl, hZ, hh⟩ := hP
  have hx := Bd.exec
  have hby := Bd.bytes
  have hml : c.maxLocals = 2 := hml0
  have hown : s.vm.findClass "java/util/Objects" = some m.cls := findClass_of_methodNamed Bd.named
  have hnm := (name_of_methodNamed Bd.named Bd.method).1
  have hlk : meth.locks = false := BodyLoose.notSynchronized Bd
  have X0 : Stand p l e ({ frames := 1, cells := 0, slots := 0, locals := 14 } : Room) s m #[(.int p1), (.int p2)] below meth c s₁ [] 0 0 := Stand.of_body Bd
  have e0 : s₁.heap = h0 := by rw [← hh, Bd.state]; rfl
  have P0 : ∀ t, Steps p.tables e below (s₁.setTop (mkF m 0 #[.val (.int p1), .val (.int p2)] [])) t → Steps p.tables e below (s₁.setTop (entryFrame m #[(.int p1), (.int p2)] 2)) t := fun t kt => castTop (ef_OC m p1 p2) kt
  obtain ⟨_, _, ⟨T101, L101, k101, n101⟩, -, X101, ⟨Lc101, hQ101, l101, y101, z101⟩, st101⟩ := Jvm.LawKit.callS X0 hx (y := (⟨"jdk/internal/util/Preconditions", "checkIndex", "(IILjava/util/function/BiFunction;)I"⟩ : MethodName)) hown (mvT hZ (hw _ (List.mem_of_getElem? (i := 76) rfl))) (mvT hZ (hw _ (List.mem_of_getElem? (i := 77) rfl))) (mvT hZ (hw _ (List.mem_of_getElem? (i := 78) rfl))) (mvT hZ (hw _ (List.mem_of_getElem? (i := 79) rfl))) (by decide) (backOf (W := 0)  (rmPC l Z a0 hw [] p1 p2 h0 h1 h2) hZ (hw _ (List.mem_of_getElem? (i := 79) rfl)) (hw _ (List.mem_of_getElem? (i := 78) rfl)) (by decide) (by decide)) (g := (mkF m 3 #[.val (.int p1), .val (.int p2)] [.null, (.int p2), (.int p1)])) rfl (by rw [hml]; rfl) (argsL := [(.int p1), (.int p2), .null]) (rest := []) (lenOf pd__IILjava_util_function_BiFunction__I rfl) rfl (by show 2 * 0 + _ ≤ _; exact Nat.le_of_eq rfl) (hb hby dOC_3) (fun _ _ => ⟨rfl, e0, (by decide : 0 + 0 ≤ _), (by decide : 0 + 0 ≤ _)⟩)
  dsimp only [Pt.U, Pt.locs, Pt.cells, Pt.slots] at X101 l101 y101 z101 st101 hQ101
  subst l101 y101 z101
  obtain ⟨rfl, rfl, e101⟩ := hQ101
  have X101 : Stand p l e ({ frames := 1, cells := 0, slots := 0, locals := 14 } : Room) s m #[(.int p1), (.int p2)] below meth c T101 [] 0 0 := X101
  have P102 : ∀ t, Steps p.tables e below (T101.setTop (mkF m 6 #[.val (.int p1), .val (.int p2)] [(.int p1)])) t → Steps p.tables e below (s₁.setTop (entryFrame m #[(.int p1), (.int p2)] 2)) t := fun t kt => P0 t (by
    show Steps p.tables e below (s₁.setTop (mkF m 0 #[.val (.int p1), .val (.int p2)] [])) _
    refine XS.iloadN X0.here hx rfl (hb hby dOC_0) rfl ?_
    show Steps p.tables e below (s₁.setTop (mkF m 1 #[.val (.int p1), .val (.int p2)] [(.int p1)])) _
    refine XS.iloadN X0.here hx rfl (hb hby dOC_1) rfl ?_
    show Steps p.tables e below (s₁.setTop (mkF m 2 #[.val (.int p1), .val (.int p2)] [(.int p2), (.int p1)])) _
    refine XS.aconstNull X0.here hx rfl (hb hby dOC_2) ?_
    show Steps p.tables e below (s₁.setTop (mkF m 3 #[.val (.int p1), .val (.int p2)] [.null, (.int p2), (.int p1)])) _
    refine st101 _ ?_
    exact kt)
  obtain ⟨fs, hr, hrun, hended, hW, hsame⟩ := X101.leave (v := some (.int p1)) (fun h => by rw [Bd.returns] at h; cases h) (hlocks := hlk)
  refine ⟨_, _, P102 _ ?_, hrun, hended, _, _, rfl, ?_, ⟨_, rfl⟩, hW, hsame.mono (by decide) (by decide)⟩
  · show Steps p.tables e below (T101.setTop (mkF m 6 #[.val (.int p1), .val (.int p2)] [(.int p1)])) _
    exact retI X101 hx Bd.returns (hb hby dOC_6) hr
  · show QP _ h0 _ T101.heap _
    exact ⟨rfl, rfl, e101⟩
theorem dAC0_0 : decode prog_83_method_7_code 0 = .ok (.aload_n 0, 1) := by decide +kernel
theorem dAC0_1 : decode prog_83_method_7_code 1 = .ok (.getfield 50, 3) := by decide +kernel
theorem dAC0_4 : decode prog_83_method_7_code 4 = .ok (.aload_n 0, 1) := by decide +kernel
theorem dAC0_5 : decode prog_83_method_7_code 5 = .ok (.getfield 54, 3) := by decide +kernel
theorem dAC0_8 : decode prog_83_method_7_code 8 = .ok (.arraylength, 1) := by decide +kernel
theorem dAC0_9 : decode prog_83_method_7_code 9 = .ok (.isub, 1) := by decide +kernel
theorem dAC0_10 : decode prog_83_method_7_code 10 = .ok (.ireturn, 1) := by decide +kernel
theorem ef_AC0 (m : MethodId) (x0 : Addr) : entryFrame m #[(.ref x0)] 1 = mkF m 0 #[.val (.ref x0)] [] := by first | (simp [entryFrame, mkF, argsToLocals, Value.category]; done) | rfl
set_option maxRecDepth 65536 in
set_option maxHeartbeats 40000000 in
theorem rmAC0 (l : Launch) (Z : State) (a0 : Array Value) (hw : ∀ d ∈ tables_1, d.before a0 Z = true) (ws : List Jvm.Cond) (a1 : Addr) (pp : Int32) (b : Addr) (k : ClassId) (h0 : Heap) (Fp : Fld Z h0 a1 "com/example/allot/allot/partition/Topic" "partitions" "I" (.int pp)) (Fu : Fld Z h0 a1 "com/example/allot/allot/partition/Topic" "unavailable" "[I" (.ref b)) (Vb : Arv Z h0 b k .int (0 : Int32) [] (.int (0 : Int32))) :
    MetFree l (⟨"com/example/allot/allot/partition/Topic", "availableCount", "()I"⟩ : MethodName) (head1 (Jvm.Cond.code (⟨"com/example/allot/allot/partition/Topic", "availableCount", "()I"⟩ : MethodName) prog_83_method_7_code 1 (some .int) :: ws) ({ frames := 0, cells := 0, slots := 0, locals := 0 } : Room)) (fun a U => a = #[(.ref a1)] ∧ Z.Warmed39 U.vm ∧ U.heap = h0) (fun _ _ _ _ _ => True) (fun _ U o U' => ∃ v L, o = .returned v ∧ QP (some (.int (pp - (0 : Int32)))) h0 v U'.heap L ∧ FrameEnd U o U' L ({ frames := 0, cells := 0, slots := 0, locals := 0 } : Room).cells ({ frames := 0, cells := 0, slots := 0, locals := 0 } : Room).slots) := by
  refine MetFree.of_bodySF (plainFor_of_name (by first | (simp [plainName, overriddenIn]; done) | decide +kernel)) hisR ?_
  intro p e s m args below meth c s₁ Bd hml0 hP hK
  obtain ⟨rfl, hZ, hh⟩ := hP
  have hx := Bd.exec
  have hby := Bd.bytes
  have hml : c.maxLocals = 1 := hml0
  have hown : s.vm.findClass "com/example/allot/allot/partition/Topic" = some m.cls := findClass_of_methodNamed Bd.named
  have hnm := (name_of_methodNamed Bd.named Bd.method).1
  have hlk : meth.locks = false := BodyLoose.notSynchronized Bd
  have X0 : Stand p l e ({ frames := 0, cells := 0, slots := 0, locals := 0 } : Room) s m #[(.ref a1)] below meth c s₁ [] 0 0 := Stand.of_body Bd
  have e0 : s₁.heap = h0 := by rw [← hh, Bd.state]; rfl
  have P0 : ∀ t, Steps p.tables e below (s₁.setTop (mkF m 0 #[.val (.ref a1)] [])) t → Steps p.tables e below (s₁.setTop (entryFrame m #[(.ref a1)] 1)) t := fun t kt => castTop (ef_AC0 m a1) kt
  obtain ⟨T101, X101, e101, st101⟩ := getF X0 hx hZ hown (host := "") (Or.inl (hw _ (List.mem_of_getElem? (i := 58) rfl))) Via.refl e0 Fp (g := (mkF m 1 #[.val (.ref a1)] [(.ref a1)])) rfl rfl (hb hby dAC0_1)
  obtain ⟨T102, X102, e102, st102⟩ := getF X101 hx hZ hown (host := "") (Or.inl (hw _ (List.mem_of_getElem? (i := 60) rfl))) Via.refl e101 Fu (g := (mkF m 5 #[.val (.ref a1)] [(.ref a1), (.int pp)])) rfl rfl (hb hby dAC0_5)
  obtain ⟨cl103, Ar103, q103, S103, Nn103, H103, G103⟩ := id Vb
  have P104 : ∀ t, Steps p.tables e below (T102.setTop (mkF m 10 #[.val (.ref a1)] [(.int (pp - (0 : Int32)))])) t → Steps p.tables e below (s₁.setTop (entryFrame m #[(.ref a1)] 1)) t := fun t kt => P0 t (by
    show Steps p.tables e below (s₁.setTop (mkF m 0 #[.val (.ref a1)] [])) _
    refine XS.aloadN X0.here hx rfl (hb hby dAC0_0) rfl rfl ?_
    show Steps p.tables e below (s₁.setTop (mkF m 1 #[.val (.ref a1)] [(.ref a1)])) _
    refine st101 _ ?_
    show Steps p.tables e below (T101.setTop (mkF m 4 #[.val (.ref a1)] [(.int pp)])) _
    refine XS.aloadN X101.here hx rfl (hb hby dAC0_4) rfl rfl ?_
    show Steps p.tables e below (T101.setTop (mkF m 5 #[.val (.ref a1)] [(.ref a1), (.int pp)])) _
    refine st102 _ ?_
    show Steps p.tables e below (T102.setTop (mkF m 8 #[.val (.ref a1)] [(.ref b), (.int pp)])) _
    refine X102.arraylength hx (by rw [e102]; exact Ar103.1) (State.isArrayOf_alike hZ.alike Ar103.2.1) (g := (mkF m 8 #[.val (.ref a1)] [(.ref b), (.int pp)])) rfl rfl (hb hby dAC0_8) _ ?_
    rw [len_of S103 Nn103]
    show Steps p.tables e below (T102.setTop (mkF m 9 #[.val (.ref a1)] [(.int (0 : Int32)), (.int pp)])) _
    refine XS.isub X102.here hx rfl (hb hby dAC0_9) rfl ?_
    exact kt)
  obtain ⟨fs, hr, hrun, hended, hW, hsame⟩ := X102.leave (v := some (.int (pp - (0 : Int32)))) (fun h => by rw [Bd.returns] at h; cases h) (hlocks := hlk)
  refine ⟨_, _, P104 _ ?_, hrun, hended, _, _, rfl, ?_, ⟨_, rfl⟩, hW, hsame.mono (by decide) (by decide)⟩
  · show Steps p.tables e below (T102.setTop (mkF m 10 #[.val (.ref a1)] [(.int (pp - (0 : Int32)))])) _
    exact retI X102 hx Bd.returns (hb hby dAC0_10) hr
  · show QP _ h0 _ T102.heap _
    exact ⟨rfl, rfl, e102⟩
theorem dAA0_0 : decode prog_83_method_10_code 0 = .ok (.iload_n 1, 1) := by decide +kernel
theorem dAA0_1 : decode prog_83_method_10_code 1 = .ok (.aload_n 0, 1) := by decide +kernel
theorem dAA0_2 : decode prog_83_method_10_code 2 = .ok (.invokevirtual 94, 3) := by decide +kernel
theorem dAA0_5 : decode prog_83_method_10_code 5 = .ok (.invokestatic 98, 3) := by decide +kernel
theorem dAA0_8 : decode prog_83_method_10_code 8 = .ok (.pop, 1) := by decide +kernel
theorem dAA0_9 : decode prog_83_method_10_code 9 = .ok (.iconst 0, 1) := by decide +kernel
theorem dAA0_10 : decode prog_83_method_10_code 10 = .ok (.istore_n 2, 1) := by decide +kernel
theorem dAA0_11 : decode prog_83_method_10_code 11 = .ok (.aload_n 0, 1) := by decide +kernel
theorem dAA0_12 : decode prog_83_method_10_code 12 = .ok (.getfield 54, 3) := by decide +kernel
theorem dAA0_15 : decode prog_83_method_10_code 15 = .ok (.arraylength, 1) := by decide +kernel
theorem dAA0_16 : decode prog_83_method_10_code 16 = .ok (.istore_n 3, 1) := by decide +kernel
theorem dAA0_17 : decode prog_83_method_10_code 17 = .ok (.iload_n 2, 1) := by decide +kernel
theorem dAA0_18 : decode prog_83_method_10_code 18 = .ok (.iload_n 3, 1) := by decide +kernel
theorem dAA0_19 : decode prog_83_method_10_code 19 = .ok (.if_icmp .ge 38, 3) := by decide +kernel
theorem dAA0_57 : decode prog_83_method_10_code 57 = .ok (.iload_n 1, 1) := by decide +kernel
theorem dAA0_58 : decode prog_83_method_10_code 58 = .ok (.iload_n 2, 1) := by decide +kernel
theorem dAA0_59 : decode prog_83_method_10_code 59 = .ok (.iadd, 1) := by decide +kernel
theorem dAA0_60 : decode prog_83_method_10_code 60 = .ok (.ireturn, 1) := by decide +kernel
theorem ef_AA0 (m : MethodId) (x0 : Addr) (x1 : Int32) : entryFrame m #[(.ref x0), (.int x1)] 5 = mkF m 0 #[.val (.ref x0), .val (.int x1), .unset, .unset, .unset] [] := by first | (simp [entryFrame, mkF, argsToLocals, Value.category]; done) | rfl
set_option maxRecDepth 65536 in
set_option maxHeartbeats 40000000 in
theorem rmAA0 (l : Launch) (Z : State) (a0 : Array Value) (hw : ∀ d ∈ tables_1, d.before a0 Z = true) (ws : List Jvm.Cond) (a1 : Addr) (ii : Int32) (pp : Int32) (b : Addr) (k : ClassId) (h0 : Heap) (E1 : Exa Z h0 a1 "com/example/allot/allot/partition/Topic") (Fp : Fld Z h0 a1 "com/example/allot/allot/partition/Topic" "partitions" "I" (.int pp)) (Fu : Fld Z h0 a1 "com/example/allot/allot/partition/Topic" "unavailable" "[I" (.ref b)) (Vb : Arv Z h0 b k .int (0 : Int32) [] (.int (0 : Int32))) (h1 : ¬ ii < (0 : Int32)) (h2 : ii < (pp - (0 : Int32))) :
    MetFree l (⟨"com/example/allot/allot/partition/Topic", "availableAt", "(I)I"⟩ : MethodName) (head1 (Jvm.Cond.code (⟨"com/example/allot/allot/partition/Topic", "availableAt", "(I)I"⟩ : MethodName) prog_83_method_10_code 5 (some .int) :: ws) ({ frames := 2, cells := 0, slots := 0, locals := 27 } : Room)) (fun a U => a = #[(.ref a1), (.int ii)] ∧ Z.Warmed39 U.vm ∧ U.heap = h0) (fun _ _ _ _ _ => True) (fun _ U o U' => ∃ v L, o = .returned v ∧ QP (some (.int (fAA0 ii))) h0 v U'.heap L ∧ FrameEnd U o U' L ({ frames := 2, cells := 0, slots := 0, locals := 27 } : Room).cells ({ frames := 2, cells := 0, slots := 0, locals := 27 } : Room).slots) := by
  refine MetFree.of_bodySF (plainFor_of_name (by first | (simp [plainName, overriddenIn]; done) | decide +kernel)) hisR ?_
  intro p e s m args below meth c s₁ Bd hml0 hP hK
  obtain ⟨rfl, hZ, hh⟩ := hP
  have hx := Bd.exec
  have hby := Bd.bytes
  have hml : c.maxLocals = 5 := hml0
  have hown : s.vm.findClass "com/example/allot/allot/partition/Topic" = some m.cls := findClass_of_methodNamed Bd.named
  have hnm := (name_of_methodNamed Bd.named Bd.method).1
  have hlk : meth.locks = false := BodyLoose.notSynchronized Bd
  have X0 : Stand p l e ({ frames := 2, cells := 0, slots := 0, locals := 27 } : Room) s m #[(.ref a1), (.int ii)] below meth c s₁ [] 0 0 := Stand.of_body Bd
  have e0 : s₁.heap = h0 := by rw [← hh, Bd.state]; rfl
  have P0 : ∀ t, Steps p.tables e below (s₁.setTop (mkF m 0 #[.val (.ref a1), .val (.int ii), .unset, .unset, .unset] [])) t → Steps p.tables e below (s₁.setTop (entryFrame m #[(.ref a1), (.int ii)] 5)) t := fun t kt => castTop (ef_AA0 m a1 ii) kt
  obtain ⟨cq101, kq101, q101a, q101b, q101c⟩ := isOf hZ e0 E1
  obtain ⟨_, _, ⟨T101, L101, k101, n101⟩, -, X101, ⟨Lc101, hQ101, l101, y101, z101⟩, st101⟩ := X0.virtualBack hx (y := (⟨"com/example/allot/allot/partition/Topic", "availableCount", "()I"⟩ : MethodName)) (z := (⟨"com/example/allot/allot/partition/Topic", "availableCount", "()I"⟩ : MethodName)) hown (mvT hZ (hw _ (List.mem_of_getElem? (i := 68) rfl))) (mvT hZ (hw _ (List.mem_of_getElem? (i := 69) rfl))) (notFace_of_selects (args := #[]) (mvT hZ (hw _ (List.mem_of_getElem? (i := 71) rfl)))) (mvT hZ (hw _ (List.mem_of_getElem? (i := 71) rfl))) (mvT hZ (hw _ (List.mem_of_getElem? (i := 70) rfl))) (by decide) (backOf (W := 1)  (rmAC0 l Z a0 hw [] a1 pp b k  h0 Fp Fu Vb) hZ (hw _ (List.mem_of_getElem? (i := 72) rfl)) (hw _ (List.mem_of_getElem? (i := 7) rfl)) (by decide) (by decide)) q101a q101c (g := (mkF m 2 #[.val (.ref a1), .val (.int ii), .unset, .unset, .unset] [(.ref a1), (.int ii)])) rfl (by rw [hml]; rfl) (Steps.refl _) (argsL := []) (rest := [(.int ii)]) (lenOf pd___I rfl) rfl (by show 2 * 0 + _ ≤ _; exact Nat.le_of_eq rfl) (hb hby dAA0_2) (fun _ _ => ⟨rfl, e0, (by decide : 0 + 0 ≤ _), (by decide : 0 + 0 ≤ _)⟩)
  dsimp only [Pt.U, Pt.locs, Pt.cells, Pt.slots] at X101 l101 y101 z101 st101 hQ101
  subst l101 y101 z101
  obtain ⟨rfl, rfl, e101⟩ := hQ101
  have X101 : Stand p l e ({ frames := 2, cells := 0, slots := 0, locals := 27 } : Room) s m #[(.ref a1), (.int ii)] below meth c T101 [] 0 0 := X101
  obtain ⟨_, _, ⟨T102, L102, k102, n102⟩, -, X102, ⟨Lc102, hQ102, l102, y102, z102⟩, st102⟩ := Jvm.LawKit.callS X101 hx (y := (⟨"java/util/Objects", "checkIndex", "(II)I"⟩ : MethodName)) hown (mvT hZ (hw _ (List.mem_of_getElem? (i := 73) rfl))) (mvT hZ (hw _ (List.mem_of_getElem? (i := 74) rfl))) (mvT hZ (hw _ (List.mem_of_getElem? (i := 30) rfl))) (mvT hZ (hw _ (List.mem_of_getElem? (i := 75) rfl))) (by decide) (backOf (W := 0)  (rmOC l Z a0 hw [] ii (pp - (0 : Int32)) h0 h1 h2) hZ (hw _ (List.mem_of_getElem? (i := 75) rfl)) (hw _ (List.mem_of_getElem? (i := 30) rfl)) (by decide) (by decide)) (g := (mkF m 5 #[.val (.ref a1), .val (.int ii), .unset, .unset, .unset] [(.int (pp - (0 : Int32))), (.int ii)])) rfl (by rw [hml]; rfl) (argsL := [(.int ii), (.int (pp - (0 : Int32)))]) (rest := []) (lenOf pd__II_I rfl) rfl (by show 2 * 0 + _ ≤ _; exact Nat.le_of_eq rfl) (hb hby dAA0_5) (fun _ _ => ⟨rfl, e101, (by decide : 0 + 0 ≤ _), (by decide : 0 + 0 ≤ _)⟩)
  dsimp only [Pt.U, Pt.locs, Pt.cells, Pt.slots] at X102 l102 y102 z102 st102 hQ102
  subst l102 y102 z102
  obtain ⟨rfl, rfl, e102⟩ := hQ102
  have X102 : Stand p l e ({ frames := 2, cells := 0, slots := 0, locals := 27 } : Room) s m #[(.ref a1), (.int ii)] below meth c T102 [] 0 0 := X102
  obtain ⟨T103, X103, e103, st103⟩ := getF X102 hx hZ hown (host := "") (Or.inl (hw _ (List.mem_of_getElem? (i := 60) rfl))) Via.refl e102 Fu (g := (mkF m 12 #[.val (.ref a1), .val (.int ii), .val (.int (0 : Int32)), .unset, .unset] [(.ref a1)])) rfl rfl (hb hby dAA0_12)
  obtain ⟨cl104, Ar104, q104, S104, Nn104, H104, G104⟩ := id Vb
  have P105 : ∀ t, Steps p.tables e below (T103.setTop (mkF m 60 #[.val (.ref a1), .val (.int ii), .val (.int (0 : Int32)), .val (.int (0 : Int32)), .unset] [(.int (ii + (0 : Int32)))])) t → Steps p.tables e below (s₁.setTop (entryFrame m #[(.ref a1), (.int ii)] 5)) t := fun t kt => P0 t (by
    show Steps p.tables e below (s₁.setTop (mkF m 0 #[.val (.ref a1), .val (.int ii), .unset, .unset, .unset] [])) _
    refine XS.iloadN X0.here hx rfl (hb hby dAA0_0) rfl ?_
    show Steps p.tables e below (s₁.setTop (mkF m 1 #[.val (.ref a1), .val (.int ii), .unset, .unset, .unset] [(.int ii)])) _
    refine XS.aloadN X0.here hx rfl (hb hby dAA0_1) rfl rfl ?_
    show Steps p.tables e below (s₁.setTop (mkF m 2 #[.val (.ref a1), .val (.int ii), .unset, .unset, .unset] [(.ref a1), (.int ii)])) _
    refine st101.trans ?_
    show Steps p.tables e below (T101.setTop (mkF m 5 #[.val (.ref a1), .val (.int ii), .unset, .unset, .unset] [(.int (pp - (0 : Int32))), (.int ii)])) _
    refine st102 _ ?_
    show Steps p.tables e below (T102.setTop (mkF m 8 #[.val (.ref a1), .val (.int ii), .unset, .unset, .unset] [(.int ii)])) _
    refine XS.pop X102.here hx rfl (hb hby dAA0_8) rfl rfl ?_
    show Steps p.tables e below (T102.setTop (mkF m 9 #[.val (.ref a1), .val (.int ii), .unset, .unset, .unset] [])) _
    refine XS.iconst X102.here hx rfl (hb hby dAA0_9) ?_
    show Steps p.tables e below (T102.setTop (mkF m 10 #[.val (.ref a1), .val (.int ii), .unset, .unset, .unset] [(.int (0 : Int32))])) _
    refine XS.istoreN X102.here hx rfl (hb hby dAA0_10) rfl (l' := #[.val (.ref a1), .val (.int ii), .val (.int (0 : Int32)), .unset, .unset]) rfl ?_
    show Steps p.tables e below (T102.setTop (mkF m 11 #[.val (.ref a1), .val (.int ii), .val (.int (0 : Int32)), .unset, .unset] [])) _
    refine XS.aloadN X102.here hx rfl (hb hby dAA0_11) rfl rfl ?_
    show Steps p.tables e below (T102.setTop (mkF m 12 #[.val (.ref a1), .val (.int ii), .val (.int (0 : Int32)), .unset, .unset] [(.ref a1)])) _
    refine st103 _ ?_
    show Steps p.tables e below (T103.setTop (mkF m 15 #[.val (.ref a1), .val (.int ii), .val (.int (0 : Int32)), .unset, .unset] [(.ref b)])) _
    refine X103.arraylength hx (by rw [e103]; exact Ar104.1) (State.isArrayOf_alike hZ.alike Ar104.2.1) (g := (mkF m 15 #[.val (.ref a1), .val (.int ii), .val (.int (0 : Int32)), .unset, .unset] [(.ref b)])) rfl rfl (hb hby dAA0_15) _ ?_
    rw [len_of S104 Nn104]
    show Steps p.tables e below (T103.setTop (mkF m 16 #[.val (.ref a1), .val (.int ii), .val (.int (0 : Int32)), .unset, .unset] [(.int (0 : Int32))])) _
    refine XS.istoreN X103.here hx rfl (hb hby dAA0_16) rfl (l' := #[.val (.ref a1), .val (.int ii), .val (.int (0 : Int32)), .val (.int (0 : Int32)), .unset]) rfl ?_
    show Steps p.tables e below (T103.setTop (mkF m 17 #[.val (.ref a1), .val (.int ii), .val (.int (0 : Int32)), .val (.int (0 : Int32)), .unset] [])) _
    refine XS.iloadN X103.here hx rfl (hb hby dAA0_17) rfl ?_
    show Steps p.tables e below (T103.setTop (mkF m 18 #[.val (.ref a1), .val (.int ii), .val (.int (0 : Int32)), .val (.int (0 : Int32)), .unset] [(.int (0 : Int32))])) _
    refine XS.iloadN X103.here hx rfl (hb hby dAA0_18) rfl ?_
    show Steps p.tables e below (T103.setTop (mkF m 19 #[.val (.ref a1), .val (.int ii), .val (.int (0 : Int32)), .val (.int (0 : Int32)), .unset] [(.int (0 : Int32)), (.int (0 : Int32))])) _
    refine XS.icmpYes X103.here hx rfl (pc0 := 19) (pc' := 57) rfl (hb hby dAA0_19) rfl (flt ((by decide) : ¬ ((0 : Int32) < (0 : Int32)))).2.1 (by decide) (by decide) ?_
    show Steps p.tables e below (T103.setTop (mkF m 57 #[.val (.ref a1), .val (.int ii), .val (.int (0 : Int32)), .val (.int (0 : Int32)), .unset] [])) _
    refine XS.iloadN X103.here hx rfl (hb hby dAA0_57) rfl ?_
    show Steps p.tables e below (T103.setTop (mkF m 58 #[.val (.ref a1), .val (.int ii), .val (.int (0 : Int32)), .val (.int (0 : Int32)), .unset] [(.int ii)])) _
    refine XS.iloadN X103.here hx rfl (hb hby dAA0_58) rfl ?_
    show Steps p.tables e below (T103.setTop (mkF m 59 #[.val (.ref a1), .val (.int ii), .val (.int (0 : Int32)), .val (.int (0 : Int32)), .unset] [(.int (0 : Int32)), (.int ii)])) _
    refine XS.iadd X103.here hx rfl (hb hby dAA0_59) rfl ?_
    exact kt)
  obtain ⟨fs, hr, hrun, hended, hW, hsame⟩ := X103.leave (v := some (.int (ii + (0 : Int32)))) (fun h => by rw [Bd.returns] at h; cases h) (hlocks := hlk)
  refine ⟨_, _, P105 _ ?_, hrun, hended, _, _, rfl, ?_, ⟨_, rfl⟩, hW, hsame.mono (by decide) (by decide)⟩
  · show Steps p.tables e below (T103.setTop (mkF m 60 #[.val (.ref a1), .val (.int ii), .val (.int (0 : Int32)), .val (.int (0 : Int32)), .unset] [(.int (ii + (0 : Int32)))])) _
    exact retI X103 hx Bd.returns (hb hby dAA0_60) hr
  · show QP _ h0 _ T103.heap _
    have ev : fAA0 ii = (ii + (0 : Int32)) := rfl
    rw [ev]
    exact ⟨rfl, rfl, e103⟩
theorem dAC1_0 : decode prog_83_method_7_code 0 = .ok (.aload_n 0, 1) := by decide +kernel
theorem dAC1_1 : decode prog_83_method_7_code 1 = .ok (.getfield 50, 3) := by decide +kernel
theorem dAC1_4 : decode prog_83_method_7_code 4 = .ok (.aload_n 0, 1) := by decide +kernel
theorem dAC1_5 : decode prog_83_method_7_code 5 = .ok (.getfield 54, 3) := by decide +kernel
theorem dAC1_8 : decode prog_83_method_7_code 8 = .ok (.arraylength, 1) := by decide +kernel
theorem dAC1_9 : decode prog_83_method_7_code 9 = .ok (.isub, 1) := by decide +kernel
theorem dAC1_10 : decode prog_83_method_7_code 10 = .ok (.ireturn, 1) := by decide +kernel
theorem ef_AC1 (m : MethodId) (x0 : Addr) : entryFrame m #[(.ref x0)] 1 = mkF m 0 #[.val (.ref x0)] [] := by first | (simp [entryFrame, mkF, argsToLocals, Value.category]; done) | rfl
set_option maxRecDepth 65536 in
set_option maxHeartbeats 40000000 in
theorem rmAC1 (l : Launch) (Z : State) (a0 : Array Value) (hw : ∀ d ∈ tables_1, d.before a0 Z = true) (ws : List Jvm.Cond) (a1 : Addr) (pp : Int32) (b : Addr) (k : ClassId) (x0 : Int32) (h0 : Heap) (Fp : Fld Z h0 a1 "com/example/allot/allot/partition/Topic" "partitions" "I" (.int pp)) (Fu : Fld Z h0 a1 "com/example/allot/allot/partition/Topic" "unavailable" "[I" (.ref b)) (Vb : Arv Z h0 b k .int (1 : Int32) [(.int x0)] (.int (0 : Int32))) :
    MetFree l (⟨"com/example/allot/allot/partition/Topic", "availableCount", "()I"⟩ : MethodName) (head1 (Jvm.Cond.code (⟨"com/example/allot/allot/partition/Topic", "availableCount", "()I"⟩ : MethodName) prog_83_method_7_code 1 (some .int) :: ws) ({ frames := 0, cells := 0, slots := 0, locals := 0 } : Room)) (fun a U => a = #[(.ref a1)] ∧ Z.Warmed39 U.vm ∧ U.heap = h0) (fun _ _ _ _ _ => True) (fun _ U o U' => ∃ v L, o = .returned v ∧ QP (some (.int (pp - (1 : Int32)))) h0 v U'.heap L ∧ FrameEnd U o U' L ({ frames := 0, cells := 0, slots := 0, locals := 0 } : Room).cells ({ frames := 0, cells := 0, slots := 0, locals := 0 } : Room).slots) := by
  refine MetFree.of_bodySF (plainFor_of_name (by first | (simp [plainName, overriddenIn]; done) | decide +kernel)) hisR ?_
  intro p e s m args below meth c s₁ Bd hml0 hP hK
  obtain ⟨rfl, hZ, hh⟩ := hP
  have hx := Bd.exec
  have hby := Bd.bytes
  have hml : c.maxLocals = 1 := hml0
  have hown : s.vm.findClass "com/example/allot/allot/partition/Topic" = some m.cls := findClass_of_methodNamed Bd.named
  have hnm := (name_of_methodNamed Bd.named Bd.method).1
  have hlk : meth.locks = false := BodyLoose.notSynchronized Bd
  have X0 : Stand p l e ({ frames := 0, cells := 0, slots := 0, locals := 0 } : Room) s m #[(.ref a1)] below meth c s₁ [] 0 0 := Stand.of_body Bd
  have e0 : s₁.heap = h0 := by rw [← hh, Bd.state]; rfl
  have P0 : ∀ t, Steps p.tables e below (s₁.setTop (mkF m 0 #[.val (.ref a1)] [])) t → Steps p.tables e below (s₁.setTop (entryFrame m #[(.ref a1)] 1)) t := fun t kt => castTop (ef_AC1 m a1) kt
  obtain ⟨T101, X101, e101, st101⟩ := getF X0 hx hZ hown (host := "") (Or.inl (hw _ (List.mem_of_getElem? (i := 58) rfl))) Via.refl e0 Fp (g := (mkF m 1 #[.val (.ref a1)] [(.ref a1)])) rfl rfl (hb hby dAC1_1)
  obtain ⟨T102, X102, e102, st102⟩ := getF X101 hx hZ hown (host := "") (Or.inl (hw _ (List.mem_of_getElem? (i := 60) rfl))) Via.refl e101 Fu (g := (mkF m 5 #[.val (.ref a1)] [(.ref a1), (.int pp)])) rfl rfl (hb hby dAC1_5)
  obtain ⟨cl103, Ar103, q103, S103, Nn103, H103, G103⟩ := id Vb
  have P104 : ∀ t, Steps p.tables e below (T102.setTop (mkF m 10 #[.val (.ref a1)] [(.int (pp - (1 : Int32)))])) t → Steps p.tables e below (s₁.setTop (entryFrame m #[(.ref a1)] 1)) t := fun t kt => P0 t (by
    show Steps p.tables e below (s₁.setTop (mkF m 0 #[.val (.ref a1)] [])) _
    refine XS.aloadN X0.here hx rfl (hb hby dAC1_0) rfl rfl ?_
    show Steps p.tables e below (s₁.setTop (mkF m 1 #[.val (.ref a1)] [(.ref a1)])) _
    refine st101 _ ?_
    show Steps p.tables e below (T101.setTop (mkF m 4 #[.val (.ref a1)] [(.int pp)])) _
    refine XS.aloadN X101.here hx rfl (hb hby dAC1_4) rfl rfl ?_
    show Steps p.tables e below (T101.setTop (mkF m 5 #[.val (.ref a1)] [(.ref a1), (.int pp)])) _
    refine st102 _ ?_
    show Steps p.tables e below (T102.setTop (mkF m 8 #[.val (.ref a1)] [(.ref b), (.int pp)])) _
    refine X102.arraylength hx (by rw [e102]; exact Ar103.1) (State.isArrayOf_alike hZ.alike Ar103.2.1) (g := (mkF m 8 #[.val (.ref a1)] [(.ref b), (.int pp)])) rfl rfl (hb hby dAC1_8) _ ?_
    rw [len_of S103 Nn103]
    show Steps p.tables e below (T102.setTop (mkF m 9 #[.val (.ref a1)] [(.int (1 : Int32)), (.int pp)])) _
    refine XS.isub X102.here hx rfl (hb hby dAC1_9) rfl ?_
    exact kt)
  obtain ⟨fs, hr, hrun, hended, hW, hsame⟩ := X102.leave (v := some (.int (pp - (1 : Int32)))) (fun h => by rw [Bd.returns] at h; cases h) (hlocks := hlk)
  refine ⟨_, _, P104 _ ?_, hrun, hended, _, _, rfl, ?_, ⟨_, rfl⟩, hW, hsame.mono (by decide) (by decide)⟩
  · show Steps p.tables e below (T102.setTop (mkF m 10 #[.val (.ref a1)] [(.int (pp - (1 : Int32)))])) _
    exact retI X102 hx Bd.returns (hb hby dAC1_10) hr
  · show QP _ h0 _ T102.heap _
    exact ⟨rfl, rfl, e102⟩
theorem dAA1_0 : decode prog_83_method_10_code 0 = .ok (.iload_n 1, 1) := by decide +kernel
theorem dAA1_1 : decode prog_83_method_10_code 1 = .ok (.aload_n 0, 1) := by decide +kernel
theorem dAA1_2 : decode prog_83_method_10_code 2 = .ok (.invokevirtual 94, 3) := by decide +kernel
theorem dAA1_5 : decode prog_83_method_10_code 5 = .ok (.invokestatic 98, 3) := by decide +kernel
theorem dAA1_8 : decode prog_83_method_10_code 8 = .ok (.pop, 1) := by decide +kernel
theorem dAA1_9 : decode prog_83_method_10_code 9 = .ok (.iconst 0, 1) := by decide +kernel
theorem dAA1_10 : decode prog_83_method_10_code 10 = .ok (.istore_n 2, 1) := by decide +kernel
theorem dAA1_11 : decode prog_83_method_10_code 11 = .ok (.aload_n 0, 1) := by decide +kernel
theorem dAA1_12 : decode prog_83_method_10_code 12 = .ok (.getfield 54, 3) := by decide +kernel
theorem dAA1_15 : decode prog_83_method_10_code 15 = .ok (.arraylength, 1) := by decide +kernel
theorem dAA1_16 : decode prog_83_method_10_code 16 = .ok (.istore_n 3, 1) := by decide +kernel
theorem dAA1_17 : decode prog_83_method_10_code 17 = .ok (.iload_n 2, 1) := by decide +kernel
theorem dAA1_18 : decode prog_83_method_10_code 18 = .ok (.iload_n 3, 1) := by decide +kernel
theorem dAA1_19 : decode prog_83_method_10_code 19 = .ok (.if_icmp .ge 38, 3) := by decide +kernel
theorem dAA1_22 : decode prog_83_method_10_code 22 = .ok (.iload_n 2, 1) := by decide +kernel
theorem dAA1_23 : decode prog_83_method_10_code 23 = .ok (.iload_n 3, 1) := by decide +kernel
theorem dAA1_24 : decode prog_83_method_10_code 24 = .ok (.iadd, 1) := by decide +kernel
theorem dAA1_25 : decode prog_83_method_10_code 25 = .ok (.iconst 1, 1) := by decide +kernel
theorem dAA1_26 : decode prog_83_method_10_code 26 = .ok (.iushr, 1) := by decide +kernel
theorem dAA1_27 : decode prog_83_method_10_code 27 = .ok (.istore 4, 2) := by decide +kernel
theorem dAA1_29 : decode prog_83_method_10_code 29 = .ok (.aload_n 0, 1) := by decide +kernel
theorem dAA1_30 : decode prog_83_method_10_code 30 = .ok (.getfield 54, 3) := by decide +kernel
theorem dAA1_33 : decode prog_83_method_10_code 33 = .ok (.iload 4, 2) := by decide +kernel
theorem dAA1_35 : decode prog_83_method_10_code 35 = .ok (.iaload, 1) := by decide +kernel
theorem dAA1_36 : decode prog_83_method_10_code 36 = .ok (.iload 4, 2) := by decide +kernel
theorem dAA1_38 : decode prog_83_method_10_code 38 = .ok (.isub, 1) := by decide +kernel
theorem dAA1_39 : decode prog_83_method_10_code 39 = .ok (.iload_n 1, 1) := by decide +kernel
theorem dAA1_40 : decode prog_83_method_10_code 40 = .ok (.if_icmp .gt 11, 3) := by decide +kernel
theorem dAA1_43 : decode prog_83_method_10_code 43 = .ok (.iload 4, 2) := by decide +kernel
theorem dAA1_45 : decode prog_83_method_10_code 45 = .ok (.iconst 1, 1) := by decide +kernel
theorem dAA1_46 : decode prog_83_method_10_code 46 = .ok (.iadd, 1) := by decide +kernel
theorem dAA1_47 : decode prog_83_method_10_code 47 = .ok (.istore_n 2, 1) := by decide +kernel
theorem dAA1_48 : decode prog_83_method_10_code 48 = .ok (.goto 6, 3) := by decide +kernel
theorem dAA1_51 : decode prog_83_method_10_code 51 = .ok (.iload 4, 2) := by decide +kernel
theorem dAA1_53 : decode prog_83_method_10_code 53 = .ok (.istore_n 3, 1) := by decide +kernel
theorem dAA1_54 : decode prog_83_method_10_code 54 = .ok (.goto (-37), 3) := by decide +kernel
theorem dAA1_57 : decode prog_83_method_10_code 57 = .ok (.iload_n 1, 1) := by decide +kernel
theorem dAA1_58 : decode prog_83_method_10_code 58 = .ok (.iload_n 2, 1) := by decide +kernel
theorem dAA1_59 : decode prog_83_method_10_code 59 = .ok (.iadd, 1) := by decide +kernel
theorem dAA1_60 : decode prog_83_method_10_code 60 = .ok (.ireturn, 1) := by decide +kernel
theorem ef_AA1 (m : MethodId) (x0 : Addr) (x1 : Int32) : entryFrame m #[(.ref x0), (.int x1)] 5 = mkF m 0 #[.val (.ref x0), .val (.int x1), .unset, .unset, .unset] [] := by first | (simp [entryFrame, mkF, argsToLocals, Value.category]; done) | rfl
set_option maxRecDepth 65536 in
set_option maxHeartbeats 40000000 in
theorem rmAA1 (l : Launch) (Z : State) (a0 : Array Value) (hw : ∀ d ∈ tables_1, d.before a0 Z = true) (ws : List Jvm.Cond) (a1 : Addr) (ii : Int32) (pp : Int32) (b : Addr) (k : ClassId) (x0 : Int32) (h0 : Heap) (E1 : Exa Z h0 a1 "com/example/allot/allot/partition/Topic") (Fp : Fld Z h0 a1 "com/example/allot/allot/partition/Topic" "partitions" "I" (.int pp)) (Fu : Fld Z h0 a1 "com/example/allot/allot/partition/Topic" "unavailable" "[I" (.ref b)) (Vb : Arv Z h0 b k .int (1 : Int32) [(.int x0)] (.int (0 : Int32))) (h1 : ¬ ii < (0 : Int32)) (h2 : ii < (pp - (1 : Int32))) :
    MetFree l (⟨"com/example/allot/allot/partition/Topic", "availableAt", "(I)I"⟩ : MethodName) (head1 (Jvm.Cond.code (⟨"com/example/allot/allot/partition/Topic", "availableAt", "(I)I"⟩ : MethodName) prog_83_method_10_code 5 (some .int) :: ws) ({ frames := 2, cells := 0, slots := 0, locals := 27 } : Room)) (fun a U => a = #[(.ref a1), (.int ii)] ∧ Z.Warmed39 U.vm ∧ U.heap = h0) (fun _ _ _ _ _ => True) (fun _ U o U' => ∃ v L, o = .returned v ∧ QP (some (.int (fAA1 ii x0))) h0 v U'.heap L ∧ FrameEnd U o U' L ({ frames := 2, cells := 0, slots := 0, locals := 27 } : Room).cells ({ frames := 2, cells := 0, slots := 0, locals := 27 } : Room).slots) := by
  refine MetFree.of_bodySF (plainFor_of_name (by first | (simp [plainName, overriddenIn]; done) | decide +kernel)) hisR ?_
  intro p e s m args below meth c s₁ Bd hml0 hP hK
  obtain ⟨rfl, hZ, hh⟩ := hP
  have hx := Bd.exec
  have hby := Bd.bytes
  have hml : c.maxLocals = 5 := hml0
  have hown : s.vm.findClass "com/example/allot/allot/partition/Topic" = some m.cls := findClass_of_methodNamed Bd.named
  have hnm := (name_of_methodNamed Bd.named Bd.method).1
  have hlk : meth.locks = false := BodyLoose.notSynchronized Bd
  have X0 : Stand p l e ({ frames := 2, cells := 0, slots := 0, locals := 27 } : Room) s m #[(.ref a1), (.int ii)] below meth c s₁ [] 0 0 := Stand.of_body Bd
  have e0 : s₁.heap = h0 := by rw [← hh, Bd.state]; rfl
  have P0 : ∀ t, Steps p.tables e below (s₁.setTop (mkF m 0 #[.val (.ref a1), .val (.int ii), .unset, .unset, .unset] [])) t → Steps p.tables e below (s₁.setTop (entryFrame m #[(.ref a1), (.int ii)] 5)) t := fun t kt => castTop (ef_AA1 m a1 ii) kt
  obtain ⟨cq101, kq101, q101a, q101b, q101c⟩ := isOf hZ e0 E1
  obtain ⟨_, _, ⟨T101, L101, k101, n101⟩, -, X101, ⟨Lc101, hQ101, l101, y101, z101⟩, st101⟩ := X0.virtualBack hx (y := (⟨"com/example/allot/allot/partition/Topic", "availableCount", "()I"⟩ : MethodName)) (z := (⟨"com/example/allot/allot/partition/Topic", "availableCount", "()I"⟩ : MethodName)) hown (mvT hZ (hw _ (List.mem_of_getElem? (i := 68) rfl))) (mvT hZ (hw _ (List.mem_of_getElem? (i := 69) rfl))) (notFace_of_selects (args := #[]) (mvT hZ (hw _ (List.mem_of_getElem? (i := 71) rfl)))) (mvT hZ (hw _ (List.mem_of_getElem? (i := 71) rfl))) (mvT hZ (hw _ (List.mem_of_getElem? (i := 70) rfl))) (by decide) (backOf (W := 1)  (rmAC1 l Z a0 hw [] a1 pp b k x0 h0 Fp Fu Vb) hZ (hw _ (List.mem_of_getElem? (i := 72) rfl)) (hw _ (List.mem_of_getElem? (i := 7) rfl)) (by decide) (by decide)) q101a q101c (g := (mkF m 2 #[.val (.ref a1), .val (.int ii), .unset, .unset, .unset] [(.ref a1), (.int ii)])) rfl (by rw [hml]; rfl) (Steps.refl _) (argsL := []) (rest := [(.int ii)]) (lenOf pd___I rfl) rfl (by show 2 * 0 + _ ≤ _; exact Nat.le_of_eq rfl) (hb hby dAA1_2) (fun _ _ => ⟨rfl, e0, (by decide : 0 + 0 ≤ _), (by decide : 0 + 0 ≤ _)⟩)
  dsimp only [Pt.U, Pt.locs, Pt.cells, Pt.slots] at X101 l101 y101 z101 st101 hQ101
  subst l101 y101 z101
  obtain ⟨rfl, rfl, e101⟩ := hQ101
  have X101 : Stand p l e ({ frames := 2, cells := 0, slots := 0, locals := 27 } : Room) s m #[(.ref a1), (.int ii)] below meth c T101 [] 0 0 := X101
  obtain ⟨_, _, ⟨T102, L102, k102, n102⟩, -, X102, ⟨Lc102, hQ102, l102, y102, z102⟩, st102⟩ := Jvm.LawKit.callS X101 hx (y := (⟨"java/util/Objects", "checkIndex", "(II)I"⟩ : MethodName)) hown (mvT hZ (hw _ (List.mem_of_getElem? (i := 73) rfl))) (mvT hZ (hw _ (List.mem_of_getElem? (i := 74) rfl))) (mvT hZ (hw _ (List.mem_of_getElem? (i := 30) rfl))) (mvT hZ (hw _ (List.mem_of_getElem? (i := 75) rfl))) (by decide) (backOf (W := 0)  (rmOC l Z a0 hw [] ii (pp - (1 : Int32)) h0 h1 h2) hZ (hw _ (List.mem_of_getElem? (i := 75) rfl)) (hw _ (List.mem_of_getElem? (i := 30) rfl)) (by decide) (by decide)) (g := (mkF m 5 #[.val (.ref a1), .val (.int ii), .unset, .unset, .unset] [(.int (pp - (1 : Int32))), (.int ii)])) rfl (by rw [hml]; rfl) (argsL := [(.int ii), (.int (pp - (1 : Int32)))]) (rest := []) (lenOf pd__II_I rfl) rfl (by show 2 * 0 + _ ≤ _; exact Nat.le_of_eq rfl) (hb hby dAA1_5) (fun _ _ => ⟨rfl, e101, (by decide : 0 + 0 ≤ _), (by decide : 0 + 0 ≤ _)⟩)
  dsimp only [Pt.U, Pt.locs, Pt.cells, Pt.slots] at X102 l102 y102 z102 st102 hQ102
  subst l102 y102 z102
  obtain ⟨rfl, rfl, e102⟩ := hQ102
  have X102 : Stand p l e ({ frames := 2, cells := 0, slots := 0, locals := 27 } : Room) s m #[(.ref a1), (.int ii)] below meth c T102 [] 0 0 := X102
  obtain ⟨T103, X103, e103, st103⟩ := getF X102 hx hZ hown (host := "") (Or.inl (hw _ (List.mem_of_getElem? (i := 60) rfl))) Via.refl e102 Fu (g := (mkF m 12 #[.val (.ref a1), .val (.int ii), .val (.int (0 : Int32)), .unset, .unset] [(.ref a1)])) rfl rfl (hb hby dAA1_12)
  obtain ⟨cl104, Ar104, q104, S104, Nn104, H104, G104⟩ := id Vb
  obtain ⟨T105, X105, e105, st105⟩ := getF X103 hx hZ hown (host := "") (Or.inl (hw _ (List.mem_of_getElem? (i := 60) rfl))) Via.refl e103 Fu (g := (mkF m 30 #[.val (.ref a1), .val (.int ii), .val (.int (0 : Int32)), .val (.int (1 : Int32)), .val (.int (0 : Int32))] [(.ref a1)])) rfl rfl (hb hby dAA1_30)
  obtain ⟨cl106, Ar106, q106, S106, Nn106, H106, G106⟩ := id Vb
  have P107 : ∀ t, Steps p.tables e below (T105.setTop (mkF m 40 #[.val (.ref a1), .val (.int ii), .val (.int (0 : Int32)), .val (.int (1 : Int32)), .val (.int (0 : Int32))] [(.int ii), (.int (x0 - (0 : Int32)))])) t → Steps p.tables e below (s₁.setTop (entryFrame m #[(.ref a1), (.int ii)] 5)) t := fun t kt => P0 t (by
    show Steps p.tables e below (s₁.setTop (mkF m 0 #[.val (.ref a1), .val (.int ii), .unset, .unset, .unset] [])) _
    refine XS.iloadN X0.here hx rfl (hb hby dAA1_0) rfl ?_
    show Steps p.tables e below (s₁.setTop (mkF m 1 #[.val (.ref a1), .val (.int ii), .unset, .unset, .unset] [(.int ii)])) _
    refine XS.aloadN X0.here hx rfl (hb hby dAA1_1) rfl rfl ?_
    show Steps p.tables e below (s₁.setTop (mkF m 2 #[.val (.ref a1), .val (.int ii), .unset, .unset, .unset] [(.ref a1), (.int ii)])) _
    refine st101.trans ?_
    show Steps p.tables e below (T101.setTop (mkF m 5 #[.val (.ref a1), .val (.int ii), .unset, .unset, .unset] [(.int (pp - (1 : Int32))), (.int ii)])) _
    refine st102 _ ?_
    show Steps p.tables e below (T102.setTop (mkF m 8 #[.val (.ref a1), .val (.int ii), .unset, .unset, .unset] [(.int ii)])) _
    refine XS.pop X102.here hx rfl (hb hby dAA1_8) rfl rfl ?_
    show Steps p.tables e below (T102.setTop (mkF m 9 #[.val (.ref a1), .val (.int ii), .unset, .unset, .unset] [])) _
    refine XS.iconst X102.here hx rfl (hb hby dAA1_9) ?_
    show Steps p.tables e below (T102.setTop (mkF m 10 #[.val (.ref a1), .val (.int ii), .unset, .unset, .unset] [(.int (0 : Int32))])) _
    refine XS.istoreN X102.here hx rfl (hb hby dAA1_10) rfl (l' := #[.val (.ref a1), .val (.int ii), .val (.int (0 : Int32)), .unset, .unset]) rfl ?_
    show Steps p.tables e below (T102.setTop (mkF m 11 #[.val (.ref a1), .val (.int ii), .val (.int (0 : Int32)), .unset, .unset] [])) _
    refine XS.aloadN X102.here hx rfl (hb hby dAA1_11) rfl rfl ?_
    show Steps p.tables e below (T102.setTop (mkF m 12 #[.val (.ref a1), .val (.int ii), .val (.int (0 : Int32)), .unset, .unset] [(.ref a1)])) _
    refine st103 _ ?_
    show Steps p.tables e below (T103.setTop (mkF m 15 #[.val (.ref a1), .val (.int ii), .val (.int (0 : Int32)), .unset, .unset] [(.ref b)])) _
    refine X103.arraylength hx (by rw [e103]; exact Ar104.1) (State.isArrayOf_alike hZ.alike Ar104.2.1) (g := (mkF m 15 #[.val (.ref a1), .val (.int ii), .val (.int (0 : Int32)), .unset, .unset] [(.ref b)])) rfl rfl (hb hby dAA1_15) _ ?_
    rw [len_of S104 Nn104]
    show Steps p.tables e below (T103.setTop (mkF m 16 #[.val (.ref a1), .val (.int ii), .val (.int (0 : Int32)), .unset, .unset] [(.int (1 : Int32))])) _
    refine XS.istoreN X103.here hx rfl (hb hby dAA1_16) rfl (l' := #[.val (.ref a1), .val (.int ii), .val (.int (0 : Int32)), .val (.int (1 : Int32)), .unset]) rfl ?_
    show Steps p.tables e below (T103.setTop (mkF m 17 #[.val (.ref a1), .val (.int ii), .val (.int (0 : Int32)), .val (.int (1 : Int32)), .unset] [])) _
    refine XS.iloadN X103.here hx rfl (hb hby dAA1_17) rfl ?_
    show Steps p.tables e below (T103.setTop (mkF m 18 #[.val (.ref a1), .val (.int ii), .val (.int (0 : Int32)), .val (.int (1 : Int32)), .unset] [(.int (0 : Int32))])) _
    refine XS.iloadN X103.here hx rfl (hb hby dAA1_18) rfl ?_
    show Steps p.tables e below (T103.setTop (mkF m 19 #[.val (.ref a1), .val (.int ii), .val (.int (0 : Int32)), .val (.int (1 : Int32)), .unset] [(.int (1 : Int32)), (.int (0 : Int32))])) _
    refine XS.icmpNo X103.here hx rfl (hb hby dAA1_19) rfl (tlt ((by decide) : (0 : Int32) < (1 : Int32))).2.1 ?_
    show Steps p.tables e below (T103.setTop (mkF m 22 #[.val (.ref a1), .val (.int ii), .val (.int (0 : Int32)), .val (.int (1 : Int32)), .unset] [])) _
    refine XS.iloadN X103.here hx rfl (hb hby dAA1_22) rfl ?_
    show Steps p.tables e below (T103.setTop (mkF m 23 #[.val (.ref a1), .val (.int ii), .val (.int (0 : Int32)), .val (.int (1 : Int32)), .unset] [(.int (0 : Int32))])) _
    refine XS.iloadN X103.here hx rfl (hb hby dAA1_23) rfl ?_
    show Steps p.tables e below (T103.setTop (mkF m 24 #[.val (.ref a1), .val (.int ii), .val (.int (0 : Int32)), .val (.int (1 : Int32)), .unset] [(.int (1 : Int32)), (.int (0 : Int32))])) _
    refine XS.iadd X103.here hx rfl (hb hby dAA1_24) rfl ?_
    show Steps p.tables e below (T103.setTop (mkF m 25 #[.val (.ref a1), .val (.int ii), .val (.int (0 : Int32)), .val (.int (1 : Int32)), .unset] [(.int (1 : Int32))])) _
    refine XS.iconst X103.here hx rfl (hb hby dAA1_25) ?_
    show Steps p.tables e below (T103.setTop (mkF m 26 #[.val (.ref a1), .val (.int ii), .val (.int (0 : Int32)), .val (.int (1 : Int32)), .unset] [(.int (1 : Int32)), (.int (1 : Int32))])) _
    refine XS.iushr X103.here hx rfl (hb hby dAA1_26) rfl ?_
    show Steps p.tables e below (T103.setTop (mkF m 27 #[.val (.ref a1), .val (.int ii), .val (.int (0 : Int32)), .val (.int (1 : Int32)), .unset] [(.int (0 : Int32))])) _
    refine XS.istore X103.here hx rfl (hb hby dAA1_27) rfl (l' := #[.val (.ref a1), .val (.int ii), .val (.int (0 : Int32)), .val (.int (1 : Int32)), .val (.int (0 : Int32))]) rfl ?_
    show Steps p.tables e below (T103.setTop (mkF m 29 #[.val (.ref a1), .val (.int ii), .val (.int (0 : Int32)), .val (.int (1 : Int32)), .val (.int (0 : Int32))] [])) _
    refine XS.aloadN X103.here hx rfl (hb hby dAA1_29) rfl rfl ?_
    show Steps p.tables e below (T103.setTop (mkF m 30 #[.val (.ref a1), .val (.int ii), .val (.int (0 : Int32)), .val (.int (1 : Int32)), .val (.int (0 : Int32))] [(.ref a1)])) _
    refine st105 _ ?_
    show Steps p.tables e below (T105.setTop (mkF m 33 #[.val (.ref a1), .val (.int ii), .val (.int (0 : Int32)), .val (.int (1 : Int32)), .val (.int (0 : Int32))] [(.ref b)])) _
    refine XS.iload X105.here hx rfl (hb hby dAA1_33) rfl ?_
    show Steps p.tables e below (T105.setTop (mkF m 35 #[.val (.ref a1), .val (.int ii), .val (.int (0 : Int32)), .val (.int (1 : Int32)), .val (.int (0 : Int32))] [(.int (0 : Int32)), (.ref b)])) _
    refine X105.iaload hx (j := (0 : Int32)) (v := (.int x0)) (by rw [e105]; exact Ar106.1) (State.isArrayOf_alike hZ.alike Ar106.2.1) Ar106.2.2 (inb_of S106 ⟨by decide, by decide⟩) (H106 0 (by rw [S106]; decide)) (g := (mkF m 35 #[.val (.ref a1), .val (.int ii), .val (.int (0 : Int32)), .val (.int (1 : Int32)), .val (.int (0 : Int32))] [(.int (0 : Int32)), (.ref b)])) rfl rfl (hb hby dAA1_35) _ ?_
    show Steps p.tables e below (T105.setTop (mkF m 36 #[.val (.ref a1), .val (.int ii), .val (.int (0 : Int32)), .val (.int (1 : Int32)), .val (.int (0 : Int32))] [(.int x0)])) _
    refine XS.iload X105.here hx rfl (hb hby dAA1_36) rfl ?_
    show Steps p.tables e below (T105.setTop (mkF m 38 #[.val (.ref a1), .val (.int ii), .val (.int (0 : Int32)), .val (.int (1 : Int32)), .val (.int (0 : Int32))] [(.int (0 : Int32)), (.int x0)])) _
    refine XS.isub X105.here hx rfl (hb hby dAA1_38) rfl ?_
    show Steps p.tables e below (T105.setTop (mkF m 39 #[.val (.ref a1), .val (.int ii), .val (.int (0 : Int32)), .val (.int (1 : Int32)), .val (.int (0 : Int32))] [(.int (x0 - (0 : Int32)))])) _
    refine XS.iloadN X105.here hx rfl (hb hby dAA1_39) rfl ?_
    exact kt)
  by_cases hc40_108 : ii < (x0 - (0 : Int32))
  · have P109 : ∀ t, Steps p.tables e below (T105.setTop (mkF m 60 #[.val (.ref a1), .val (.int ii), .val (.int (0 : Int32)), .val (.int (0 : Int32)), .val (.int (0 : Int32))] [(.int (ii + (0 : Int32)))])) t → Steps p.tables e below (s₁.setTop (entryFrame m #[(.ref a1), (.int ii)] 5)) t := fun t kt => P107 t (by
      show Steps p.tables e below (T105.setTop (mkF m 40 #[.val (.ref a1), .val (.int ii), .val (.int (0 : Int32)), .val (.int (1 : Int32)), .val (.int (0 : Int32))] [(.int ii), (.int (x0 - (0 : Int32)))])) _
      refine XS.icmpYes X105.here hx rfl (pc0 := 40) (pc' := 51) rfl (hb hby dAA1_40) rfl (tlt hc40_108).2.2.1 (by decide) (by decide) ?_
      show Steps p.tables e below (T105.setTop (mkF m 51 #[.val (.ref a1), .val (.int ii), .val (.int (0 : Int32)), .val (.int (1 : Int32)), .val (.int (0 : Int32))] [])) _
      refine XS.iload X105.here hx rfl (hb hby dAA1_51) rfl ?_
      show Steps p.tables e below (T105.setTop (mkF m 53 #[.val (.ref a1), .val (.int ii), .val (.int (0 : Int32)), .val (.int (1 : Int32)), .val (.int (0 : Int32))] [(.int (0 : Int32))])) _
      refine XS.istoreN X105.here hx rfl (hb hby dAA1_53) rfl (l' := #[.val (.ref a1), .val (.int ii), .val (.int (0 : Int32)), .val (.int (0 : Int32)), .val (.int (0 : Int32))]) rfl ?_
      show Steps p.tables e below (T105.setTop (mkF m 54 #[.val (.ref a1), .val (.int ii), .val (.int (0 : Int32)), .val (.int (0 : Int32)), .val (.int (0 : Int32))] [])) _
      refine XS.goto X105.here hx rfl (pc0 := 54) (pc' := 17) rfl (hb hby dAA1_54) (by decide) (by decide) ?_
      show Steps p.tables e below (T105.setTop (mkF m 17 #[.val (.ref a1), .val (.int ii), .val (.int (0 : Int32)), .val (.int (0 : Int32)), .val (.int (0 : Int32))] [])) _
      refine XS.iloadN X105.here hx rfl (hb hby dAA1_17) rfl ?_
      show Steps p.tables e below (T105.setTop (mkF m 18 #[.val (.ref a1), .val (.int ii), .val (.int (0 : Int32)), .val (.int (0 : Int32)), .val (.int (0 : Int32))] [(.int (0 : Int32))])) _
      refine XS.iloadN X105.here hx rfl (hb hby dAA1_18) rfl ?_
      show Steps p.tables e below (T105.setTop (mkF m 19 #[.val (.ref a1), .val (.int ii), .val (.int (0 : Int32)), .val (.int (0 : Int32)), .val (.int (0 : Int32))] [(.int (0 : Int32)), (.int (0 : Int32))])) _
      refine XS.icmpYes X105.here hx rfl (pc0 := 19) (pc' := 57) rfl (hb hby dAA1_19) rfl (flt ((by decide) : ¬ ((0 : Int32) < (0 : Int32)))).2.1 (by decide) (by decide) ?_
      show Steps p.tables e below (T105.setTop (mkF m 57 #[.val (.ref a1), .val (.int ii), .val (.int (0 : Int32)), .val (.int (0 : Int32)), .val (.int (0 : Int32))] [])) _
      refine XS.iloadN X105.here hx rfl (hb hby dAA1_57) rfl ?_
      show Steps p.tables e below (T105.setTop (mkF m 58 #[.val (.ref a1), .val (.int ii), .val (.int (0 : Int32)), .val (.int (0 : Int32)), .val (.int (0 : Int32))] [(.int ii)])) _
      refine XS.iloadN X105.here hx rfl (hb hby dAA1_58) rfl ?_
      show Steps p.tables e below (T105.setTop (mkF m 59 #[.val (.ref a1), .val (.int ii), .val (.int (0 : Int32)), .val (.int (0 : Int32)), .val (.int (0 : Int32))] [(.int (0 : Int32)), (.int ii)])) _
      refine XS.iadd X105.here hx rfl (hb hby dAA1_59) rfl ?_
      exact kt)
    obtain ⟨fs, hr, hrun, hended, hW, hsame⟩ := X105.leave (v := some (.int (ii + (0 : Int32)))) (fun h => by rw [Bd.returns] at h; cases h) (hlocks := hlk)
    refine ⟨_, _, P109 _ ?_, hrun, hended, _, _, rfl, ?_, ⟨_, rfl⟩, hW, hsame.mono (by decide) (by decide)⟩
    · show Steps p.tables e below (T105.setTop (mkF m 60 #[.val (.ref a1), .val (.int ii), .val (.int (0 : Int32)), .val (.int (0 : Int32)), .val (.int (0 : Int32))] [(.int (ii + (0 : Int32)))])) _
      exact retI X105 hx Bd.returns (hb hby dAA1_60) hr
    · show QP _ h0 _ T105.heap _
      have ev : fAA1 ii x0 = (ii + (0 : Int32)) := by unfold fAA1; rw [if_pos hc40_108]
      rw [ev]
      exact ⟨rfl, rfl, e105⟩
  · have P110 : ∀ t, Steps p.tables e below (T105.setTop (mkF m 60 #[.val (.ref a1), .val (.int ii), .val (.int (1 : Int32)), .val (.int (1 : Int32)), .val (.int (0 : Int32))] [(.int (ii + (1 : Int32)))])) t → Steps p.tables e below (s₁.setTop (entryFrame m #[(.ref a1), (.int ii)] 5)) t := fun t kt => P107 t (by
      show Steps p.tables e below (T105.setTop (mkF m 40 #[.val (.ref a1), .val (.int ii), .val (.int (0 : Int32)), .val (.int (1 : Int32)), .val (.int (0 : Int32))] [(.int ii), (.int (x0 - (0 : Int32)))])) _
      refine XS.icmpNo X105.here hx rfl (hb hby dAA1_40) rfl (flt hc40_108).2.2.1 ?_
      show Steps p.tables e below (T105.setTop (mkF m 43 #[.val (.ref a1), .val (.int ii), .val (.int (0 : Int32)), .val (.int (1 : Int32)), .val (.int (0 : Int32))] [])) _
      refine XS.iload X105.here hx rfl (hb hby dAA1_43) rfl ?_
      show Steps p.tables e below (T105.setTop (mkF m 45 #[.val (.ref a1), .val (.int ii), .val (.int (0 : Int32)), .val (.int (1 : Int32)), .val (.int (0 : Int32))] [(.int (0 : Int32))])) _
      refine XS.iconst X105.here hx rfl (hb hby dAA1_45) ?_
      show Steps p.tables e below (T105.setTop (mkF m 46 #[.val (.ref a1), .val (.int ii), .val (.int (0 : Int32)), .val (.int (1 : Int32)), .val (.int (0 : Int32))] [(.int (1 : Int32)), (.int (0 : Int32))])) _
      refine XS.iadd X105.here hx rfl (hb hby dAA1_46) rfl ?_
      show Steps p.tables e below (T105.setTop (mkF m 47 #[.val (.ref a1), .val (.int ii), .val (.int (0 : Int32)), .val (.int (1 : Int32)), .val (.int (0 : Int32))] [(.int (1 : Int32))])) _
      refine XS.istoreN X105.here hx rfl (hb hby dAA1_47) rfl (l' := #[.val (.ref a1), .val (.int ii), .val (.int (1 : Int32)), .val (.int (1 : Int32)), .val (.int (0 : Int32))]) rfl ?_
      show Steps p.tables e below (T105.setTop (mkF m 48 #[.val (.ref a1), .val (.int ii), .val (.int (1 : Int32)), .val (.int (1 : Int32)), .val (.int (0 : Int32))] [])) _
      refine XS.goto X105.here hx rfl (pc0 := 48) (pc' := 54) rfl (hb hby dAA1_48) (by decide) (by decide) ?_
      show Steps p.tables e below (T105.setTop (mkF m 54 #[.val (.ref a1), .val (.int ii), .val (.int (1 : Int32)), .val (.int (1 : Int32)), .val (.int (0 : Int32))] [])) _
      refine XS.goto X105.here hx rfl (pc0 := 54) (pc' := 17) rfl (hb hby dAA1_54) (by decide) (by decide) ?_
      show Steps p.tables e below (T105.setTop (mkF m 17 #[.val (.ref a1), .val (.int ii), .val (.int (1 : Int32)), .val (.int (1 : Int32)), .val (.int (0 : Int32))] [])) _
      refine XS.iloadN X105.here hx rfl (hb hby dAA1_17) rfl ?_
      show Steps p.tables e below (T105.setTop (mkF m 18 #[.val (.ref a1), .val (.int ii), .val (.int (1 : Int32)), .val (.int (1 : Int32)), .val (.int (0 : Int32))] [(.int (1 : Int32))])) _
      refine XS.iloadN X105.here hx rfl (hb hby dAA1_18) rfl ?_
      show Steps p.tables e below (T105.setTop (mkF m 19 #[.val (.ref a1), .val (.int ii), .val (.int (1 : Int32)), .val (.int (1 : Int32)), .val (.int (0 : Int32))] [(.int (1 : Int32)), (.int (1 : Int32))])) _
      refine XS.icmpYes X105.here hx rfl (pc0 := 19) (pc' := 57) rfl (hb hby dAA1_19) rfl (flt ((by decide) : ¬ ((1 : Int32) < (1 : Int32)))).2.1 (by decide) (by decide) ?_
      show Steps p.tables e below (T105.setTop (mkF m 57 #[.val (.ref a1), .val (.int ii), .val (.int (1 : Int32)), .val (.int (1 : Int32)), .val (.int (0 : Int32))] [])) _
      refine XS.iloadN X105.here hx rfl (hb hby dAA1_57) rfl ?_
      show Steps p.tables e below (T105.setTop (mkF m 58 #[.val (.ref a1), .val (.int ii), .val (.int (1 : Int32)), .val (.int (1 : Int32)), .val (.int (0 : Int32))] [(.int ii)])) _
      refine XS.iloadN X105.here hx rfl (hb hby dAA1_58) rfl ?_
      show Steps p.tables e below (T105.setTop (mkF m 59 #[.val (.ref a1), .val (.int ii), .val (.int (1 : Int32)), .val (.int (1 : Int32)), .val (.int (0 : Int32))] [(.int (1 : Int32)), (.int ii)])) _
      refine XS.iadd X105.here hx rfl (hb hby dAA1_59) rfl ?_
      exact kt)
    obtain ⟨fs, hr, hrun, hended, hW, hsame⟩ := X105.leave (v := some (.int (ii + (1 : Int32)))) (fun h => by rw [Bd.returns] at h; cases h) (hlocks := hlk)
    refine ⟨_, _, P110 _ ?_, hrun, hended, _, _, rfl, ?_, ⟨_, rfl⟩, hW, hsame.mono (by decide) (by decide)⟩
    · show Steps p.tables e below (T105.setTop (mkF m 60 #[.val (.ref a1), .val (.int ii), .val (.int (1 : Int32)), .val (.int (1 : Int32)), .val (.int (0 : Int32))] [(.int (ii + (1 : Int32)))])) _
      exact retI X105 hx Bd.returns (hb hby dAA1_60) hr
    · show QP _ h0 _ T105.heap _
      have ev : fAA1 ii x0 = (ii + (1 : Int32)) := by unfold fAA1; rw [if_neg hc40_108]
      rw [ev]
      exact ⟨rfl, rfl, e105⟩
theorem dAC2_0 : decode prog_83_method_7_code 0 = .ok (.aload_n 0, 1) := by decide +kernel
theorem dAC2_1 : decode prog_83_method_7_code 1 = .ok (.getfield 50, 3) := by decide +kernel
theorem dAC2_4 : decode prog_83_method_7_code 4 = .ok (.aload_n 0, 1) := by decide +kernel
theorem dAC2_5 : decode prog_83_method_7_code 5 = .ok (.getfield 54, 3) := by decide +kernel
theorem dAC2_8 : decode prog_83_method_7_code 8 = .ok (.arraylength, 1) := by decide +kernel
theorem dAC2_9 : decode prog_83_method_7_code 9 = .ok (.isub, 1) := by decide +kernel
theorem dAC2_10 : decode prog_83_method_7_code 10 = .ok (.ireturn, 1) := by decide +kernel
theorem ef_AC2 (m : MethodId) (x0 : Addr) : entryFrame m #[(.ref x0)] 1 = mkF m 0 #[.val (.ref x0)] [] := by first | (simp [entryFrame, mkF, argsToLocals, Value.category]; done) | rfl
set_option maxRecDepth 65536 in
set_option maxHeartbeats 40000000 in
theorem rmAC2 (l : Launch) (Z : State) (a0 : Array Value) (hw : ∀ d ∈ tables_1, d.before a0 Z = true) (ws : List Jvm.Cond) (a1 : Addr) (pp : Int32) (b : Addr) (k : ClassId) (x0 x1 : Int32) (h0 : Heap) (Fp : Fld Z h0 a1 "com/example/allot/allot/partition/Topic" "partitions" "I" (.int pp)) (Fu : Fld Z h0 a1 "com/example/allot/allot/partition/Topic" "unavailable" "[I" (.ref b)) (Vb : Arv Z h0 b k .int (2 : Int32) [(.int x0), (.int x1)] (.int (0 : Int32))) :
    MetFree l (⟨"com/example/allot/allot/partition/Topic", "availableCount", "()I"⟩ : MethodName) (head1 (Jvm.Cond.code (⟨"com/example/allot/allot/partition/Topic", "availableCount", "()I"⟩ : MethodName) prog_83_method_7_code 1 (some .int) :: ws) ({ frames := 0, cells := 0, slots := 0, locals := 0 } : Room)) (fun a U => a = #[(.ref a1)] ∧ Z.Warmed39 U.vm ∧ U.heap = h0) (fun _ _ _ _ _ => True) (fun _ U o U' => ∃ v L, o = .returned v ∧ QP (some (.int (pp - (2 : Int32)))) h0 v U'.heap L ∧ FrameEnd U o U' L ({ frames := 0, cells := 0, slots := 0, locals := 0 } : Room).cells ({ frames := 0, cells := 0, slots := 0, locals := 0 } : Room).slots) := by
  refine MetFree.of_bodySF (plainFor_of_name (by first | (simp [plainName, overriddenIn]; done) | decide +kernel)) hisR ?_
  intro p e s m args below meth c s₁ Bd hml0 hP hK
  obtain ⟨rfl, hZ, hh⟩ := hP
  have hx := Bd.exec
  have hby := Bd.bytes
  have hml : c.maxLocals = 1 := hml0
  have hown : s.vm.findClass "com/example/allot/allot/partition/Topic" = some m.cls := findClass_of_methodNamed Bd.named
  have hnm := (name_of_methodNamed Bd.named Bd.method).1
  have hlk : meth.locks = false := BodyLoose.notSynchronized Bd
  have X0 : Stand p l e ({ frames := 0, cells := 0, slots := 0, locals := 0 } : Room) s m #[(.ref a1)] below meth c s₁ [] 0 0 := Stand.of_body Bd
  have e0 : s₁.heap = h0 := by rw [← hh, Bd.state]; rfl
  have P0 : ∀ t, Steps p.tables e below (s₁.setTop (mkF m 0 #[.val (.ref a1)] [])) t → Steps p.tables e below (s₁.setTop (entryFrame m #[(.ref a1)] 1)) t := fun t kt => castTop (ef_AC2 m a1) kt
  obtain ⟨T101, X101, e101, st101⟩ := getF X0 hx hZ hown (host := "") (Or.inl (hw _ (List.mem_of_getElem? (i := 58) rfl))) Via.refl e0 Fp (g := (mkF m 1 #[.val (.ref a1)] [(.ref a1)])) rfl rfl (hb hby dAC2_1)
  obtain ⟨T102, X102, e102, st102⟩ := getF X101 hx hZ hown (host := "") (Or.inl (hw _ (List.mem_of_getElem? (i := 60) rfl))) Via.refl e101 Fu (g := (mkF m 5 #[.val (.ref a1)] [(.ref a1), (.int pp)])) rfl rfl (hb hby dAC2_5)
  obtain ⟨cl103, Ar103, q103, S103, Nn103, H103, G103⟩ := id Vb
  have P104 : ∀ t, Steps p.tables e below (T102.setTop (mkF m 10 #[.val (.ref a1)] [(.int (pp - (2 : Int32)))])) t → Steps p.tables e below (s₁.setTop (entryFrame m #[(.ref a1)] 1)) t := fun t kt => P0 t (by
    show Steps p.tables e below (s₁.setTop (mkF m 0 #[.val (.ref a1)] [])) _
    refine XS.aloadN X0.here hx rfl (hb hby dAC2_0) rfl rfl ?_
    show Steps p.tables e below (s₁.setTop (mkF m 1 #[.val (.ref a1)] [(.ref a1)])) _
    refine st101 _ ?_
    show Steps p.tables e below (T101.setTop (mkF m 4 #[.val (.ref a1)] [(.int pp)])) _
    refine XS.aloadN X101.here hx rfl (hb hby dAC2_4) rfl rfl ?_
    show Steps p.tables e below (T101.setTop (mkF m 5 #[.val (.ref a1)] [(.ref a1), (.int pp)])) _
    refine st102 _ ?_
    show Steps p.tables e below (T102.setTop (mkF m 8 #[.val (.ref a1)] [(.ref b), (.int pp)])) _
    refine X102.arraylength hx (by rw [e102]; exact Ar103.1) (State.isArrayOf_alike hZ.alike Ar103.2.1) (g := (mkF m 8 #[.val (.ref a1)] [(.ref b), (.int pp)])) rfl rfl (hb hby dAC2_8) _ ?_
    rw [len_of S103 Nn103]
    show Steps p.tables e below (T102.setTop (mkF m 9 #[.val (.ref a1)] [(.int (2 : Int32)), (.int pp)])) _
    refine XS.isub X102.here hx rfl (hb hby dAC2_9) rfl ?_
    exact kt)
  obtain ⟨fs, hr, hrun, hended, hW, hsame⟩ := X102.leave (v := some (.int (pp - (2 : Int32)))) (fun h => by rw [Bd.returns] at h; cases h) (hlocks := hlk)
  refine ⟨_, _, P104 _ ?_, hrun, hended, _, _, rfl, ?_, ⟨_, rfl⟩, hW, hsame.mono (by decide) (by decide)⟩
  · show Steps p.tables e below (T102.setTop (mkF m 10 #[.val (.ref a1)] [(.int (pp - (2 : Int32)))])) _
    exact retI X102 hx Bd.returns (hb hby dAC2_10) hr
  · show QP _ h0 _ T102.heap _
    exact ⟨rfl, rfl, e102⟩
theorem dAA2_0 : decode prog_83_method_10_code 0 = .ok (.iload_n 1, 1) := by decide +kernel
theorem dAA2_1 : decode prog_83_method_10_code 1 = .ok (.aload_n 0, 1) := by decide +kernel
theorem dAA2_2 : decode prog_83_method_10_code 2 = .ok (.invokevirtual 94, 3) := by decide +kernel
theorem dAA2_5 : decode prog_83_method_10_code 5 = .ok (.invokestatic 98, 3) := by decide +kernel
theorem dAA2_8 : decode prog_83_method_10_code 8 = .ok (.pop, 1) := by decide +kernel
theorem dAA2_9 : decode prog_83_method_10_code 9 = .ok (.iconst 0, 1) := by decide +kernel
theorem dAA2_10 : decode prog_83_method_10_code 10 = .ok (.istore_n 2, 1) := by decide +kernel
theorem dAA2_11 : decode prog_83_method_10_code 11 = .ok (.aload_n 0, 1) := by decide +kernel
theorem dAA2_12 : decode prog_83_method_10_code 12 = .ok (.getfield 54, 3) := by decide +kernel
theorem dAA2_15 : decode prog_83_method_10_code 15 = .ok (.arraylength, 1) := by decide +kernel
theorem dAA2_16 : decode prog_83_method_10_code 16 = .ok (.istore_n 3, 1) := by decide +kernel
theorem dAA2_17 : decode prog_83_method_10_code 17 = .ok (.iload_n 2, 1) := by decide +kernel
theorem dAA2_18 : decode prog_83_method_10_code 18 = .ok (.iload_n 3, 1) := by decide +kernel
theorem dAA2_19 : decode prog_83_method_10_code 19 = .ok (.if_icmp .ge 38, 3) := by decide +kernel
theorem dAA2_22 : decode prog_83_method_10_code 22 = .ok (.iload_n 2, 1) := by decide +kernel
theorem dAA2_23 : decode prog_83_method_10_code 23 = .ok (.iload_n 3, 1) := by decide +kernel
theorem dAA2_24 : decode prog_83_method_10_code 24 = .ok (.iadd, 1) := by decide +kernel
theorem dAA2_25 : decode prog_83_method_10_code 25 = .ok (.iconst 1, 1) := by decide +kernel
theorem dAA2_26 : decode prog_83_method_10_code 26 = .ok (.iushr, 1) := by decide +kernel
theorem dAA2_27 : decode prog_83_method_10_code 27 = .ok (.istore 4, 2) := by decide +kernel
theorem dAA2_29 : decode prog_83_method_10_code 29 = .ok (.aload_n 0, 1) := by decide +kernel
theorem dAA2_30 : decode prog_83_method_10_code 30 = .ok (.getfield 54, 3) := by decide +kernel
theorem dAA2_33 : decode prog_83_method_10_code 33 = .ok (.iload 4, 2) := by decide +kernel
theorem dAA2_35 : decode prog_83_method_10_code 35 = .ok (.iaload, 1) := by decide +kernel
theorem dAA2_36 : decode prog_83_method_10_code 36 = .ok (.iload 4, 2) := by decide +kernel
theorem dAA2_38 : decode prog_83_method_10_code 38 = .ok (.isub, 1) := by decide +kernel
theorem dAA2_39 : decode prog_83_method_10_code 39 = .ok (.iload_n 1, 1) := by decide +kernel
theorem dAA2_40 : decode prog_83_method_10_code 40 = .ok (.if_icmp .gt 11, 3) := by decide +kernel
theorem dAA2_43 : decode prog_83_method_10_code 43 = .ok (.iload 4, 2) := by decide +kernel
theorem dAA2_45 : decode prog_83_method_10_code 45 = .ok (.iconst 1, 1) := by decide +kernel
theorem dAA2_46 : decode prog_83_method_10_code 46 = .ok (.iadd, 1) := by decide +kernel
theorem dAA2_47 : decode prog_83_method_10_code 47 = .ok (.istore_n 2, 1) := by decide +kernel
theorem dAA2_48 : decode prog_83_method_10_code 48 = .ok (.goto 6, 3) := by decide +kernel
theorem dAA2_51 : decode prog_83_method_10_code 51 = .ok (.iload 4, 2) := by decide +kernel
theorem dAA2_53 : decode prog_83_method_10_code 53 = .ok (.istore_n 3, 1) := by decide +kernel
theorem dAA2_54 : decode prog_83_method_10_code 54 = .ok (.goto (-37), 3) := by decide +kernel
theorem dAA2_57 : decode prog_83_method_10_code 57 = .ok (.iload_n 1, 1) := by decide +kernel
theorem dAA2_58 : decode prog_83_method_10_code 58 = .ok (.iload_n 2, 1) := by decide +kernel
theorem dAA2_59 : decode prog_83_method_10_code 59 = .ok (.iadd, 1) := by decide +kernel
theorem dAA2_60 : decode prog_83_method_10_code 60 = .ok (.ireturn, 1) := by decide +kernel
theorem ef_AA2 (m : MethodId) (x0 : Addr) (x1 : Int32) : entryFrame m #[(.ref x0), (.int x1)] 5 = mkF m 0 #[.val (.ref x0), .val (.int x1), .unset, .unset, .unset] [] := by first | (simp [entryFrame, mkF, argsToLocals, Value.category]; done) | rfl
set_option maxRecDepth 65536 in
set_option maxHeartbeats 40000000 in
theorem rmAA2 (l : Launch) (Z : State) (a0 : Array Value) (hw : ∀ d ∈ tables_1, d.before a0 Z = true) (ws : List Jvm.Cond) (a1 : Addr) (ii : Int32) (pp : Int32) (b : Addr) (k : ClassId) (x0 x1 : Int32) (h0 : Heap) (E1 : Exa Z h0 a1 "com/example/allot/allot/partition/Topic") (Fp : Fld Z h0 a1 "com/example/allot/allot/partition/Topic" "partitions" "I" (.int pp)) (Fu : Fld Z h0 a1 "com/example/allot/allot/partition/Topic" "unavailable" "[I" (.ref b)) (Vb : Arv Z h0 b k .int (2 : Int32) [(.int x0), (.int x1)] (.int (0 : Int32))) (h1 : ¬ ii < (0 : Int32)) (h2 : ii < (pp - (2 : Int32))) :
    MetFree l (⟨"com/example/allot/allot/partition/Topic", "availableAt", "(I)I"⟩ : MethodName) (head1 (Jvm.Cond.code (⟨"com/example/allot/allot/partition/Topic", "availableAt", "(I)I"⟩ : MethodName) prog_83_method_10_code 5 (some .int) :: ws) ({ frames := 2, cells := 0, slots := 0, locals := 27 } : Room)) (fun a U => a = #[(.ref a1), (.int ii)] ∧ Z.Warmed39 U.vm ∧ U.heap = h0) (fun _ _ _ _ _ => True) (fun _ U o U' => ∃ v L, o = .returned v ∧ QP (some (.int (fAA2 ii x0 x1))) h0 v U'.heap L ∧ FrameEnd U o U' L ({ frames := 2, cells := 0, slots := 0, locals := 27 } : Room).cells ({ frames := 2, cells := 0, slots := 0, locals := 27 } : Room).slots) := by
  refine MetFree.of_bodySF (plainFor_of_name (by first | (simp [plainName, overriddenIn]; done) | decide +kernel)) hisR ?_
  intro p e s m args below meth c s₁ Bd hml0 hP hK
  obtain ⟨rfl, hZ, hh⟩ := hP
  have hx := Bd.exec
  have hby := Bd.bytes
  have hml : c.maxLocals = 5 := hml0
  have hown : s.vm.findClass "com/example/allot/allot/partition/Topic" = some m.cls := findClass_of_methodNamed Bd.named
  have hnm := (name_of_methodNamed Bd.named Bd.method).1
  have hlk : meth.locks = false := BodyLoose.notSynchronized Bd
  have X0 : Stand p l e ({ frames := 2, cells := 0, slots := 0, locals := 27 } : Room) s m #[(.ref a1), (.int ii)] below meth c s₁ [] 0 0 := Stand.of_body Bd
  have e0 : s₁.heap = h0 := by rw [← hh, Bd.state]; rfl
  have P0 : ∀ t, Steps p.tables e below (s₁.setTop (mkF m 0 #[.val (.ref a1), .val (.int ii), .unset, .unset, .unset] [])) t → Steps p.tables e below (s₁.setTop (entryFrame m #[(.ref a1), (.int ii)] 5)) t := fun t kt => castTop (ef_AA2 m a1 ii) kt
  obtain ⟨cq101, kq101, q101a, q101b, q101c⟩ := isOf hZ e0 E1
  obtain ⟨_, _, ⟨T101, L101, k101, n101⟩, -, X101, ⟨Lc101, hQ101, l101, y101, z101⟩, st101⟩ := X0.virtualBack hx (y := (⟨"com/example/allot/allot/partition/Topic", "availableCount", "()I"⟩ : MethodName)) (z := (⟨"com/example/allot/allot/partition/Topic", "availableCount", "()I"⟩ : MethodName)) hown (mvT hZ (hw _ (List.mem_of_getElem? (i := 68) rfl))) (mvT hZ (hw _ (List.mem_of_getElem? (i := 69) rfl))) (notFace_of_selects (args := #[]) (mvT hZ (hw _ (List.mem_of_getElem? (i := 71) rfl)))) (mvT hZ (hw _ (List.mem_of_getElem? (i := 71) rfl))) (mvT hZ (hw _ (List.mem_of_getElem? (i := 70) rfl))) (by decide) (backOf (W := 1)  (rmAC2 l Z a0 hw [] a1 pp b k x0 x1 h0 Fp Fu Vb) hZ (hw _ (List.mem_of_getElem? (i := 72) rfl)) (hw _ (List.mem_of_getElem? (i := 7) rfl)) (by decide) (by decide)) q101a q101c (g := (mkF m 2 #[.val (.ref a1), .val (.int ii), .unset, .unset, .unset] [(.ref a1), (.int ii)])) rfl (by rw [hml]; rfl) (Steps.refl _) (argsL := []) (rest := [(.int ii)]) (lenOf pd___I rfl) rfl (by show 2 * 0 + _ ≤ _; exact Nat.le_of_eq rfl) (hb hby dAA2_2) (fun _ _ => ⟨rfl, e0, (by decide : 0 + 0 ≤ _), (by decide : 0 + 0 ≤ _)⟩)
  dsimp only [Pt.U, Pt.locs, Pt.cells, Pt.slots] at X101 l101 y101 z101 st101 hQ101
  subst l101 y101 z101
  obtain ⟨rfl, rfl, e101⟩ := hQ101
  have X101 : Stand p l e ({ frames := 2, cells := 0, slots := 0, locals := 27 } : Room) s m #[(.ref a1), (.int ii)] below meth c T101 [] 0 0 := X101
  obtain ⟨_, _, ⟨T102, L102, k102, n102⟩, -, X102, ⟨Lc102, hQ102, l102, y102, z102⟩, st102⟩ := Jvm.LawKit.callS X101 hx (y := (⟨"java/util/Objects", "checkIndex", "(II)I"⟩ : MethodName)) hown (mvT hZ (hw _ (List.mem_of_getElem? (i := 73) rfl))) (mvT hZ (hw _ (List.mem_of_getElem? (i := 74) rfl))) (mvT hZ (hw _ (List.mem_of_getElem? (i := 30) rfl))) (mvT hZ (hw _ (List.mem_of_getElem? (i := 75) rfl))) (by decide) (backOf (W := 0)  (rmOC l Z a0 hw [] ii (pp - (2 : Int32)) h0 h1 h2) hZ (hw _ (List.mem_of_getElem? (i := 75) rfl)) (hw _ (List.mem_of_getElem? (i := 30) rfl)) (by decide) (by decide)) (g := (mkF m 5 #[.val (.ref a1), .val (.int ii), .unset, .unset, .unset] [(.int (pp - (2 : Int32))), (.int ii)])) rfl (by rw [hml]; rfl) (argsL := [(.int ii), (.int (pp - (2 : Int32)))]) (rest := []) (lenOf pd__II_I rfl) rfl (by show 2 * 0 + _ ≤ _; exact Nat.le_of_eq rfl) (hb hby dAA2_5) (fun _ _ => ⟨rfl, e101, (by decide : 0 + 0 ≤ _), (by decide : 0 + 0 ≤ _)⟩)
  dsimp only [Pt.U, Pt.locs, Pt.cells, Pt.slots] at X102 l102 y102 z102 st102 hQ102
  subst l102 y102 z102
  obtain ⟨rfl, rfl, e102⟩ := hQ102
  have X102 : Stand p l e ({ frames := 2, cells := 0, slots := 0, locals := 27 } : Room) s m #[(.ref a1), (.int ii)] below meth c T102 [] 0 0 := X102
  obtain ⟨T103, X103, e103, st103⟩ := getF X102 hx hZ hown (host := "") (Or.inl (hw _ (List.mem_of_getElem? (i := 60) rfl))) Via.refl e102 Fu (g := (mkF m 12 #[.val (.ref a1), .val (.int ii), .val (.int (0 : Int32)), .unset, .unset] [(.ref a1)])) rfl rfl (hb hby dAA2_12)
  obtain ⟨cl104, Ar104, q104, S104, Nn104, H104, G104⟩ := id Vb
  obtain ⟨T105, X105, e105, st105⟩ := getF X103 hx hZ hown (host := "") (Or.inl (hw _ (List.mem_of_getElem? (i := 60) rfl))) Via.refl e103 Fu (g := (mkF m 30 #[.val (.ref a1), .val (.int ii), .val (.int (0 : Int32)), .val (.int (2 : Int32)), .val (.int (1 : Int32))] [(.ref a1)])) rfl rfl (hb hby dAA2_30)
  obtain ⟨cl106, Ar106, q106, S106, Nn106, H106, G106⟩ := id Vb
  have P107 : ∀ t, Steps p.tables e below (T105.setTop (mkF m 40 #[.val (.ref a1), .val (.int ii), .val (.int (0 : Int32)), .val (.int (2 : Int32)), .val (.int (1 : Int32))] [(.int ii), (.int (x1 - (1 : Int32)))])) t → Steps p.tables e below (s₁.setTop (entryFrame m #[(.ref a1), (.int ii)] 5)) t := fun t kt => P0 t (by
    show Steps p.tables e below (s₁.setTop (mkF m 0 #[.val (.ref a1), .val (.int ii), .unset, .unset, .unset] [])) _
    refine XS.iloadN X0.here hx rfl (hb hby dAA2_0) rfl ?_
    show Steps p.tables e below (s₁.setTop (mkF m 1 #[.val (.ref a1), .val (.int ii), .unset, .unset, .unset] [(.int ii)])) _
    refine XS.aloadN X0.here hx rfl (hb hby dAA2_1) rfl rfl ?_
    show Steps p.tables e below (s₁.setTop (mkF m 2 #[.val (.ref a1), .val (.int ii), .unset, .unset, .unset] [(.ref a1), (.int ii)])) _
    refine st101.trans ?_
    show Steps p.tables e below (T101.setTop (mkF m 5 #[.val (.ref a1), .val (.int ii), .unset, .unset, .unset] [(.int (pp - (2 : Int32))), (.int ii)])) _
    refine st102 _ ?_
    show Steps p.tables e below (T102.setTop (mkF m 8 #[.val (.ref a1), .val (.int ii), .unset, .unset, .unset] [(.int ii)])) _
    refine XS.pop X102.here hx rfl (hb hby dAA2_8) rfl rfl ?_
    show Steps p.tables e below (T102.setTop (mkF m 9 #[.val (.ref a1), .val (.int ii), .unset, .unset, .unset] [])) _
    refine XS.iconst X102.here hx rfl (hb hby dAA2_9) ?_
    show Steps p.tables e below (T102.setTop (mkF m 10 #[.val (.ref a1), .val (.int ii), .unset, .unset, .unset] [(.int (0 : Int32))])) _
    refine XS.istoreN X102.here hx rfl (hb hby dAA2_10) rfl (l' := #[.val (.ref a1), .val (.int ii), .val (.int (0 : Int32)), .unset, .unset]) rfl ?_
    show Steps p.tables e below (T102.setTop (mkF m 11 #[.val (.ref a1), .val (.int ii), .val (.int (0 : Int32)), .unset, .unset] [])) _
    refine XS.aloadN X102.here hx rfl (hb hby dAA2_11) rfl rfl ?_
    show Steps p.tables e below (T102.setTop (mkF m 12 #[.val (.ref a1), .val (.int ii), .val (.int (0 : Int32)), .unset, .unset] [(.ref a1)])) _
    refine st103 _ ?_
    show Steps p.tables e below (T103.setTop (mkF m 15 #[.val (.ref a1), .val (.int ii), .val (.int (0 : Int32)), .unset, .unset] [(.ref b)])) _
    refine X103.arraylength hx (by rw [e103]; exact Ar104.1) (State.isArrayOf_alike hZ.alike Ar104.2.1) (g := (mkF m 15 #[.val (.ref a1), .val (.int ii), .val (.int (0 : Int32)), .unset, .unset] [(.ref b)])) rfl rfl (hb hby dAA2_15) _ ?_
    rw [len_of S104 Nn104]
    show Steps p.tables e below (T103.setTop (mkF m 16 #[.val (.ref a1), .val (.int ii), .val (.int (0 : Int32)), .unset, .unset] [(.int (2 : Int32))])) _
    refine XS.istoreN X103.here hx rfl (hb hby dAA2_16) rfl (l' := #[.val (.ref a1), .val (.int ii), .val (.int (0 : Int32)), .val (.int (2 : Int32)), .unset]) rfl ?_
    show Steps p.tables e below (T103.setTop (mkF m 17 #[.val (.ref a1), .val (.int ii), .val (.int (0 : Int32)), .val (.int (2 : Int32)), .unset] [])) _
    refine XS.iloadN X103.here hx rfl (hb hby dAA2_17) rfl ?_
    show Steps p.tables e below (T103.setTop (mkF m 18 #[.val (.ref a1), .val (.int ii), .val (.int (0 : Int32)), .val (.int (2 : Int32)), .unset] [(.int (0 : Int32))])) _
    refine XS.iloadN X103.here hx rfl (hb hby dAA2_18) rfl ?_
    show Steps p.tables e below (T103.setTop (mkF m 19 #[.val (.ref a1), .val (.int ii), .val (.int (0 : Int32)), .val (.int (2 : Int32)), .unset] [(.int (2 : Int32)), (.int (0 : Int32))])) _
    refine XS.icmpNo X103.here hx rfl (hb hby dAA2_19) rfl (tlt ((by decide) : (0 : Int32) < (2 : Int32))).2.1 ?_
    show Steps p.tables e below (T103.setTop (mkF m 22 #[.val (.ref a1), .val (.int ii), .val (.int (0 : Int32)), .val (.int (2 : Int32)), .unset] [])) _
    refine XS.iloadN X103.here hx rfl (hb hby dAA2_22) rfl ?_
    show Steps p.tables e below (T103.setTop (mkF m 23 #[.val (.ref a1), .val (.int ii), .val (.int (0 : Int32)), .val (.int (2 : Int32)), .unset] [(.int (0 : Int32))])) _
    refine XS.iloadN X103.here hx rfl (hb hby dAA2_23) rfl ?_
    show Steps p.tables e below (T103.setTop (mkF m 24 #[.val (.ref a1), .val (.int ii), .val (.int (0 : Int32)), .val (.int (2 : Int32)), .unset] [(.int (2 : Int32)), (.int (0 : Int32))])) _
    refine XS.iadd X103.here hx rfl (hb hby dAA2_24) rfl ?_
    show Steps p.tables e below (T103.setTop (mkF m 25 #[.val (.ref a1), .val (.int ii), .val (.int (0 : Int32)), .val (.int (2 : Int32)), .unset] [(.int (2 : Int32))])) _
    refine XS.iconst X103.here hx rfl (hb hby dAA2_25) ?_
    show Steps p.tables e below (T103.setTop (mkF m 26 #[.val (.ref a1), .val (.int ii), .val (.int (0 : Int32)), .val (.int (2 : Int32)), .unset] [(.int (1 : Int32)), (.int (2 : Int32))])) _
    refine XS.iushr X103.here hx rfl (hb hby dAA2_26) rfl ?_
    show Steps p.tables e below (T103.setTop (mkF m 27 #[.val (.ref a1), .val (.int ii), .val (.int (0 : Int32)), .val (.int (2 : Int32)), .unset] [(.int (1 : Int32))])) _
    refine XS.istore X103.here hx rfl (hb hby dAA2_27) rfl (l' := #[.val (.ref a1), .val (.int ii), .val (.int (0 : Int32)), .val (.int (2 : Int32)), .val (.int (1 : Int32))]) rfl ?_
    show Steps p.tables e below (T103.setTop (mkF m 29 #[.val (.ref a1), .val (.int ii), .val (.int (0 : Int32)), .val (.int (2 : Int32)), .val (.int (1 : Int32))] [])) _
    refine XS.aloadN X103.here hx rfl (hb hby dAA2_29) rfl rfl ?_
    show Steps p.tables e below (T103.setTop (mkF m 30 #[.val (.ref a1), .val (.int ii), .val (.int (0 : Int32)), .val (.int (2 : Int32)), .val (.int (1 : Int32))] [(.ref a1)])) _
    refine st105 _ ?_
    show Steps p.tables e below (T105.setTop (mkF m 33 #[.val (.ref a1), .val (.int ii), .val (.int (0 : Int32)), .val (.int (2 : Int32)), .val (.int (1 : Int32))] [(.ref b)])) _
    refine XS.iload X105.here hx rfl (hb hby dAA2_33) rfl ?_
    show Steps p.tables e below (T105.setTop (mkF m 35 #[.val (.ref a1), .val (.int ii), .val (.int (0 : Int32)), .val (.int (2 : Int32)), .val (.int (1 : Int32))] [(.int (1 : Int32)), (.ref b)])) _
    refine X105.iaload hx (j := (1 : Int32)) (v := (.int x1)) (by rw [e105]; exact Ar106.1) (State.isArrayOf_alike hZ.alike Ar106.2.1) Ar106.2.2 (inb_of S106 ⟨by decide, by decide⟩) (H106 1 (by rw [S106]; decide)) (g := (mkF m 35 #[.val (.ref a1), .val (.int ii), .val (.int (0 : Int32)), .val (.int (2 : Int32)), .val (.int (1 : Int32))] [(.int (1 : Int32)), (.ref b)])) rfl rfl (hb hby dAA2_35) _ ?_
    show Steps p.tables e below (T105.setTop (mkF m 36 #[.val (.ref a1), .val (.int ii), .val (.int (0 : Int32)), .val (.int (2 : Int32)), .val (.int (1 : Int32))] [(.int x1)])) _
    refine XS.iload X105.here hx rfl (hb hby dAA2_36) rfl ?_
    show Steps p.tables e below (T105.setTop (mkF m 38 #[.val (.ref a1), .val (.int ii), .val (.int (0 : Int32)), .val (.int (2 : Int32)), .val (.int (1 : Int32))] [(.int (1 : Int32)), (.int x1)])) _
    refine XS.isub X105.here hx rfl (hb hby dAA2_38) rfl ?_
    show Steps p.tables e below (T105.setTop (mkF m 39 #[.val (.ref a1), .val (.int ii), .val (.int (0 : Int32)), .val (.int (2 : Int32)), .val (.int (1 : Int32))] [(.int (x1 - (1 : Int32)))])) _
    refine XS.iloadN X105.here hx rfl (hb hby dAA2_39) rfl ?_
    exact kt)
  by_cases hc40_108 : ii < (x1 - (1 : Int32))
  · obtain ⟨T109, X109, e109, st109⟩ := getF X105 hx hZ hown (host := "") (Or.inl (hw _ (List.mem_of_getElem? (i := 60) rfl))) Via.refl e105 Fu (g := (mkF m 30 #[.val (.ref a1), .val (.int ii), .val (.int (0 : Int32)), .val (.int (1 : Int32)), .val (.int (0 : Int32))] [(.ref a1)])) rfl rfl (hb hby dAA2_30)
    obtain ⟨cl110, Ar110, q110, S110, Nn110, H110, G110⟩ := id Vb
    have P111 : ∀ t, Steps p.tables e below (T109.setTop (mkF m 40 #[.val (.ref a1), .val (.int ii), .val (.int (0 : Int32)), .val (.int (1 : Int32)), .val (.int (0 : Int32))] [(.int ii), (.int (x0 - (0 : Int32)))])) t → Steps p.tables e below (s₁.setTop (entryFrame m #[(.ref a1), (.int ii)] 5)) t := fun t kt => P107 t (by
      show Steps p.tables e below (T105.setTop (mkF m 40 #[.val (.ref a1), .val (.int ii), .val (.int (0 : Int32)), .val (.int (2 : Int32)), .val (.int (1 : Int32))] [(.int ii), (.int (x1 - (1 : Int32)))])) _
      refine XS.icmpYes X105.here hx rfl (pc0 := 40) (pc' := 51) rfl (hb hby dAA2_40) rfl (tlt hc40_108).2.2.1 (by decide) (by decide) ?_
      show Steps p.tables e below (T105.setTop (mkF m 51 #[.val (.ref a1), .val (.int ii), .val (.int (0 : Int32)), .val (.int (2 : Int32)), .val (.int (1 : Int32))] [])) _
      refine XS.iload X105.here hx rfl (hb hby dAA2_51) rfl ?_
      show Steps p.tables e below (T105.setTop (mkF m 53 #[.val (.ref a1), .val (.int ii), .val (.int (0 : Int32)), .val (.int (2 : Int32)), .val (.int (1 : Int32))] [(.int (1 : Int32))])) _
      refine XS.istoreN X105.here hx rfl (hb hby dAA2_53) rfl (l' := #[.val (.ref a1), .val (.int ii), .val (.int (0 : Int32)), .val (.int (1 : Int32)), .val (.int (1 : Int32))]) rfl ?_
      show Steps p.tables e below (T105.setTop (mkF m 54 #[.val (.ref a1), .val (.int ii), .val (.int (0 : Int32)), .val (.int (1 : Int32)), .val (.int (1 : Int32))] [])) _
      refine XS.goto X105.here hx rfl (pc0 := 54) (pc' := 17) rfl (hb hby dAA2_54) (by decide) (by decide) ?_
      show Steps p.tables e below (T105.setTop (mkF m 17 #[.val (.ref a1), .val (.int ii), .val (.int (0 : Int32)), .val (.int (1 : Int32)), .val (.int (1 : Int32))] [])) _
      refine XS.iloadN X105.here hx rfl (hb hby dAA2_17) rfl ?_
      show Steps p.tables e below (T105.setTop (mkF m 18 #[.val (.ref a1), .val (.int ii), .val (.int (0 : Int32)), .val (.int (1 : Int32)), .val (.int (1 : Int32))] [(.int (0 : Int32))])) _
      refine XS.iloadN X105.here hx rfl (hb hby dAA2_18) rfl ?_
      show Steps p.tables e below (T105.setTop (mkF m 19 #[.val (.ref a1), .val (.int ii), .val (.int (0 : Int32)), .val (.int (1 : Int32)), .val (.int (1 : Int32))] [(.int (1 : Int32)), (.int (0 : Int32))])) _
      refine XS.icmpNo X105.here hx rfl (hb hby dAA2_19) rfl (tlt ((by decide) : (0 : Int32) < (1 : Int32))).2.1 ?_
      show Steps p.tables e below (T105.setTop (mkF m 22 #[.val (.ref a1), .val (.int ii), .val (.int (0 : Int32)), .val (.int (1 : Int32)), .val (.int (1 : Int32))] [])) _
      refine XS.iloadN X105.here hx rfl (hb hby dAA2_22) rfl ?_
      show Steps p.tables e below (T105.setTop (mkF m 23 #[.val (.ref a1), .val (.int ii), .val (.int (0 : Int32)), .val (.int (1 : Int32)), .val (.int (1 : Int32))] [(.int (0 : Int32))])) _
      refine XS.iloadN X105.here hx rfl (hb hby dAA2_23) rfl ?_
      show Steps p.tables e below (T105.setTop (mkF m 24 #[.val (.ref a1), .val (.int ii), .val (.int (0 : Int32)), .val (.int (1 : Int32)), .val (.int (1 : Int32))] [(.int (1 : Int32)), (.int (0 : Int32))])) _
      refine XS.iadd X105.here hx rfl (hb hby dAA2_24) rfl ?_
      show Steps p.tables e below (T105.setTop (mkF m 25 #[.val (.ref a1), .val (.int ii), .val (.int (0 : Int32)), .val (.int (1 : Int32)), .val (.int (1 : Int32))] [(.int (1 : Int32))])) _
      refine XS.iconst X105.here hx rfl (hb hby dAA2_25) ?_
      show Steps p.tables e below (T105.setTop (mkF m 26 #[.val (.ref a1), .val (.int ii), .val (.int (0 : Int32)), .val (.int (1 : Int32)), .val (.int (1 : Int32))] [(.int (1 : Int32)), (.int (1 : Int32))])) _
      refine XS.iushr X105.here hx rfl (hb hby dAA2_26) rfl ?_
      show Steps p.tables e below (T105.setTop (mkF m 27 #[.val (.ref a1), .val (.int ii), .val (.int (0 : Int32)), .val (.int (1 : Int32)), .val (.int (1 : Int32))] [(.int (0 : Int32))])) _
      refine XS.istore X105.here hx rfl (hb hby dAA2_27) rfl (l' := #[.val (.ref a1), .val (.int ii), .val (.int (0 : Int32)), .val (.int (1 : Int32)), .val (.int (0 : Int32))]) rfl ?_
      show Steps p.tables e below (T105.setTop (mkF m 29 #[.val (.ref a1), .val (.int ii), .val (.int (0 : Int32)), .val (.int (1 : Int32)), .val (.int (0 : Int32))] [])) _
      refine XS.aloadN X105.here hx rfl (hb hby dAA2_29) rfl rfl ?_
      show Steps p.tables e below (T105.setTop (mkF m 30 #[.val (.ref a1), .val (.int ii), .val (.int (0 : Int32)), .val (.int (1 : Int32)), .val (.int (0 : Int32))] [(.ref a1)])) _
      refine st109 _ ?_
      show Steps p.tables e below (T109.setTop (mkF m 33 #[.val (.ref a1), .val (.int ii), .val (.int (0 : Int32)), .val (.int (1 : Int32)), .val (.int (0 : Int32))] [(.ref b)])) _
      refine XS.iload X109.here hx rfl (hb hby dAA2_33) rfl ?_
      show Steps p.tables e below (T109.setTop (mkF m 35 #[.val (.ref a1), .val (.int ii), .val (.int (0 : Int32)), .val (.int (1 : Int32)), .val (.int (0 : Int32))] [(.int (0 : Int32)), (.ref b)])) _
      refine X109.iaload hx (j := (0 : Int32)) (v := (.int x0)) (by rw [e109]; exact Ar110.1) (State.isArrayOf_alike hZ.alike Ar110.2.1) Ar110.2.2 (inb_of S110 ⟨by decide, by decide⟩) (H110 0 (by rw [S110]; decide)) (g := (mkF m 35 #[.val (.ref a1), .val (.int ii), .val (.int (0 : Int32)), .val (.int (1 : Int32)), .val (.int (0 : Int32))] [(.int (0 : Int32)), (.ref b)])) rfl rfl (hb hby dAA2_35) _ ?_
      show Steps p.tables e below (T109.setTop (mkF m 36 #[.val (.ref a1), .val (.int ii), .val (.int (0 : Int32)), .val (.int (1 : Int32)), .val (.int (0 : Int32))] [(.int x0)])) _
      refine XS.iload X109.here hx rfl (hb hby dAA2_36) rfl ?_
      show Steps p.tables e below (T109.setTop (mkF m 38 #[.val (.ref a1), .val (.int ii), .val (.int (0 : Int32)), .val (.int (1 : Int32)), .val (.int (0 : Int32))] [(.int (0 : Int32)), (.int x0)])) _
      refine XS.isub X109.here hx rfl (hb hby dAA2_38) rfl ?_
      show Steps p.tables e below (T109.setTop (mkF m 39 #[.val (.ref a1), .val (.int ii), .val (.int (0 : Int32)), .val (.int (1 : Int32)), .val (.int (0 : Int32))] [(.int (x0 - (0 : Int32)))])) _
      refine XS.iloadN X109.here hx rfl (hb hby dAA2_39) rfl ?_
      exact kt)
    by_cases hc40_112 : ii < (x0 - (0 : Int32))
    · have P113 : ∀ t, Steps p.tables e below (T109.setTop (mkF m 60 #[.val (.ref a1), .val (.int ii), .val (.int (0 : Int32)), .val (.int (0 : Int32)), .val (.int (0 : Int32))] [(.int (ii + (0 : Int32)))])) t → Steps p.tables e below (s₁.setTop (entryFrame m #[(.ref a1), (.int ii)] 5)) t := fun t kt => P111 t (by
        show Steps p.tables e below (T109.setTop (mkF m 40 #[.val (.ref a1), .val (.int ii), .val (.int (0 : Int32)), .val (.int (1 : Int32)), .val (.int (0 : Int32))] [(.int ii), (.int (x0 - (0 : Int32)))])) _
        refine XS.icmpYes X109.here hx rfl (pc0 := 40) (pc' := 51) rfl (hb hby dAA2_40) rfl (tlt hc40_112).2.2.1 (by decide) (by decide) ?_
        show Steps p.tables e below (T109.setTop (mkF m 51 #[.val (.ref a1), .val (.int ii), .val (.int (0 : Int32)), .val (.int (1 : Int32)), .val (.int (0 : Int32))] [])) _
        refine XS.iload X109.here hx rfl (hb hby dAA2_51) rfl ?_
        show Steps p.tables e below (T109.setTop (mkF m 53 #[.val (.ref a1), .val (.int ii), .val (.int (0 : Int32)), .val (.int (1 : Int32)), .val (.int (0 : Int32))] [(.int (0 : Int32))])) _
        refine XS.istoreN X109.here hx rfl (hb hby dAA2_53) rfl (l' := #[.val (.ref a1), .val (.int ii), .val (.int (0 : Int32)), .val (.int (0 : Int32)), .val (.int (0 : Int32))]) rfl ?_
        show Steps p.tables e below (T109.setTop (mkF m 54 #[.val (.ref a1), .val (.int ii), .val (.int (0 : Int32)), .val (.int (0 : Int32)), .val (.int (0 : Int32))] [])) _
        refine XS.goto X109.here hx rfl (pc0 := 54) (pc' := 17) rfl (hb hby dAA2_54) (by decide) (by decide) ?_
        show Steps p.tables e below (T109.setTop (mkF m 17 #[.val (.ref a1), .val (.int ii), .val (.int (0 : Int32)), .val (.int (0 : Int32)), .val (.int (0 : Int32))] [])) _
        refine XS.iloadN X109.here hx rfl (hb hby dAA2_17) rfl ?_
        show Steps p.tables e below (T109.setTop (mkF m 18 #[.val (.ref a1), .val (.int ii), .val (.int (0 : Int32)), .val (.int (0 : Int32)), .val (.int (0 : Int32))] [(.int (0 : Int32))])) _
        refine XS.iloadN X109.here hx rfl (hb hby dAA2_18) rfl ?_
        show Steps p.tables e below (T109.setTop (mkF m 19 #[.val (.ref a1), .val (.int ii), .val (.int (0 : Int32)), .val (.int (0 : Int32)), .val (.int (0 : Int32))] [(.int (0 : Int32)), (.int (0 : Int32))])) _
        refine XS.icmpYes X109.here hx rfl (pc0 := 19) (pc' := 57) rfl (hb hby dAA2_19) rfl (flt ((by decide) : ¬ ((0 : Int32) < (0 : Int32)))).2.1 (by decide) (by decide) ?_
        show Steps p.tables e below (T109.setTop (mkF m 57 #[.val (.ref a1), .val (.int ii), .val (.int (0 : Int32)), .val (.int (0 : Int32)), .val (.int (0 : Int32))] [])) _
        refine XS.iloadN X109.here hx rfl (hb hby dAA2_57) rfl ?_
        show Steps p.tables e below (T109.setTop (mkF m 58 #[.val (.ref a1), .val (.int ii), .val (.int (0 : Int32)), .val (.int (0 : Int32)), .val (.int (0 : Int32))] [(.int ii)])) _
        refine XS.iloadN X109.here hx rfl (hb hby dAA2_58) rfl ?_
        show Steps p.tables e below (T109.setTop (mkF m 59 #[.val (.ref a1), .val (.int ii), .val (.int (0 : Int32)), .val (.int (0 : Int32)), .val (.int (0 : Int32))] [(.int (0 : Int32)), (.int ii)])) _
        refine XS.iadd X109.here hx rfl (hb hby dAA2_59) rfl ?_
        exact kt)
      obtain ⟨fs, hr, hrun, hended, hW, hsame⟩ := X109.leave (v := some (.int (ii + (0 : Int32)))) (fun h => by rw [Bd.returns] at h; cases h) (hlocks := hlk)
      refine ⟨_, _, P113 _ ?_, hrun, hended, _, _, rfl, ?_, ⟨_, rfl⟩, hW, hsame.mono (by decide) (by decide)⟩
      · show Steps p.tables e below (T109.setTop (mkF m 60 #[.val (.ref a1), .val (.int ii), .val (.int (0 : Int32)), .val (.int (0 : Int32)), .val (.int (0 : Int32))] [(.int (ii + (0 : Int32)))])) _
        exact retI X109 hx Bd.returns (hb hby dAA2_60) hr
      · show QP _ h0 _ T109.heap _
        have ev : fAA2 ii x0 x1 = (ii + (0 : Int32)) := by unfold fAA2; rw [if_pos hc40_108, if_pos hc40_112]
        rw [ev]
        exact ⟨rfl, rfl, e109⟩
    · have P114 : ∀ t, Steps p.tables e below (T109.setTop (mkF m 60 #[.val (.ref a1), .val (.int ii), .val (.int (1 : Int32)), .val (.int (1 : Int32)), .val (.int (0 : Int32))] [(.int (ii + (1 : Int32)))])) t → Steps p.tables e below (s₁.setTop (entryFrame m #[(.ref a1), (.int ii)] 5)) t := fun t kt => P111 t (by
        show Steps p.tables e below (T109.setTop (mkF m 40 #[.val (.ref a1), .val (.int ii), .val (.int (0 : Int32)), .val (.int (1 : Int32)), .val (.int (0 : Int32))] [(.int ii), (.int (x0 - (0 : Int32)))])) _
        refine XS.icmpNo X109.here hx rfl (hb hby dAA2_40) rfl (flt hc40_112).2.2.1 ?_
        show Steps p.tables e below (T109.setTop (mkF m 43 #[.val (.ref a1), .val (.int ii), .val (.int (0 : Int32)), .val (.int (1 : Int32)), .val (.int (0 : Int32))] [])) _
        refine XS.iload X109.here hx rfl (hb hby dAA2_43) rfl ?_
        show Steps p.tables e below (T109.setTop (mkF m 45 #[.val (.ref a1), .val (.int ii), .val (.int (0 : Int32)), .val (.int (1 : Int32)), .val (.int (0 : Int32))] [(.int (0 : Int32))])) _
        refine XS.iconst X109.here hx rfl (hb hby dAA2_45) ?_
        show Steps p.tables e below (T109.setTop (mkF m 46 #[.val (.ref a1), .val (.int ii), .val (.int (0 : Int32)), .val (.int (1 : Int32)), .val (.int (0 : Int32))] [(.int (1 : Int32)), (.int (0 : Int32))])) _
        refine XS.iadd X109.here hx rfl (hb hby dAA2_46) rfl ?_
        show Steps p.tables e below (T109.setTop (mkF m 47 #[.val (.ref a1), .val (.int ii), .val (.int (0 : Int32)), .val (.int (1 : Int32)), .val (.int (0 : Int32))] [(.int (1 : Int32))])) _
        refine XS.istoreN X109.here hx rfl (hb hby dAA2_47) rfl (l' := #[.val (.ref a1), .val (.int ii), .val (.int (1 : Int32)), .val (.int (1 : Int32)), .val (.int (0 : Int32))]) rfl ?_
        show Steps p.tables e below (T109.setTop (mkF m 48 #[.val (.ref a1), .val (.int ii), .val (.int (1 : Int32)), .val (.int (1 : Int32)), .val (.int (0 : Int32))] [])) _
        refine XS.goto X109.here hx rfl (pc0 := 48) (pc' := 54) rfl (hb hby dAA2_48) (by decide) (by decide) ?_
        show Steps p.tables e below (T109.setTop (mkF m 54 #[.val (.ref a1), .val (.int ii), .val (.int (1 : Int32)), .val (.int (1 : Int32)), .val (.int (0 : Int32))] [])) _
        refine XS.goto X109.here hx rfl (pc0 := 54) (pc' := 17) rfl (hb hby dAA2_54) (by decide) (by decide) ?_
        show Steps p.tables e below (T109.setTop (mkF m 17 #[.val (.ref a1), .val (.int ii), .val (.int (1 : Int32)), .val (.int (1 : Int32)), .val (.int (0 : Int32))] [])) _
        refine XS.iloadN X109.here hx rfl (hb hby dAA2_17) rfl ?_
        show Steps p.tables e below (T109.setTop (mkF m 18 #[.val (.ref a1), .val (.int ii), .val (.int (1 : Int32)), .val (.int (1 : Int32)), .val (.int (0 : Int32))] [(.int (1 : Int32))])) _
        refine XS.iloadN X109.here hx rfl (hb hby dAA2_18) rfl ?_
        show Steps p.tables e below (T109.setTop (mkF m 19 #[.val (.ref a1), .val (.int ii), .val (.int (1 : Int32)), .val (.int (1 : Int32)), .val (.int (0 : Int32))] [(.int (1 : Int32)), (.int (1 : Int32))])) _
        refine XS.icmpYes X109.here hx rfl (pc0 := 19) (pc' := 57) rfl (hb hby dAA2_19) rfl (flt ((by decide) : ¬ ((1 : Int32) < (1 : Int32)))).2.1 (by decide) (by decide) ?_
        show Steps p.tables e below (T109.setTop (mkF m 57 #[.val (.ref a1), .val (.int ii), .val (.int (1 : Int32)), .val (.int (1 : Int32)), .val (.int (0 : Int32))] [])) _
        refine XS.iloadN X109.here hx rfl (hb hby dAA2_57) rfl ?_
        show Steps p.tables e below (T109.setTop (mkF m 58 #[.val (.ref a1), .val (.int ii), .val (.int (1 : Int32)), .val (.int (1 : Int32)), .val (.int (0 : Int32))] [(.int ii)])) _
        refine XS.iloadN X109.here hx rfl (hb hby dAA2_58) rfl ?_
        show Steps p.tables e below (T109.setTop (mkF m 59 #[.val (.ref a1), .val (.int ii), .val (.int (1 : Int32)), .val (.int (1 : Int32)), .val (.int (0 : Int32))] [(.int (1 : Int32)), (.int ii)])) _
        refine XS.iadd X109.here hx rfl (hb hby dAA2_59) rfl ?_
        exact kt)
      obtain ⟨fs, hr, hrun, hended, hW, hsame⟩ := X109.leave (v := some (.int (ii + (1 : Int32)))) (fun h => by rw [Bd.returns] at h; cases h) (hlocks := hlk)
      refine ⟨_, _, P114 _ ?_, hrun, hended, _, _, rfl, ?_, ⟨_, rfl⟩, hW, hsame.mono (by decide) (by decide)⟩
      · show Steps p.tables e below (T109.setTop (mkF m 60 #[.val (.ref a1), .val (.int ii), .val (.int (1 : Int32)), .val (.int (1 : Int32)), .val (.int (0 : Int32))] [(.int (ii + (1 : Int32)))])) _
        exact retI X109 hx Bd.returns (hb hby dAA2_60) hr
      · show QP _ h0 _ T109.heap _
        have ev : fAA2 ii x0 x1 = (ii + (1 : Int32)) := by unfold fAA2; rw [if_pos hc40_108, if_neg hc40_112]
        rw [ev]
        exact ⟨rfl, rfl, e109⟩
  · have P115 : ∀ t, Steps p.tables e below (T105.setTop (mkF m 60 #[.val (.ref a1), .val (.int ii), .val (.int (2 : Int32)), .val (.int (2 : Int32)), .val (.int (1 : Int32))] [(.int (ii + (2 : Int32)))])) t → Steps p.tables e below (s₁.setTop (entryFrame m #[(.ref a1), (.int ii)] 5)) t := fun t kt => P107 t (by
      show Steps p.tables e below (T105.setTop (mkF m 40 #[.val (.ref a1), .val (.int ii), .val (.int (0 : Int32)), .val (.int (2 : Int32)), .val (.int (1 : Int32))] [(.int ii), (.int (x1 - (1 : Int32)))])) _
      refine XS.icmpNo X105.here hx rfl (hb hby dAA2_40) rfl (flt hc40_108).2.2.1 ?_
      show Steps p.tables e below (T105.setTop (mkF m 43 #[.val (.ref a1), .val (.int ii), .val (.int (0 : Int32)), .val (.int (2 : Int32)), .val (.int (1 : Int32))] [])) _
      refine XS.iload X105.here hx rfl (hb hby dAA2_43) rfl ?_
      show Steps p.tables e below (T105.setTop (mkF m 45 #[.val (.ref a1), .val (.int ii), .val (.int (0 : Int32)), .val (.int (2 : Int32)), .val (.int (1 : Int32))] [(.int (1 : Int32))])) _
      refine XS.iconst X105.here hx rfl (hb hby dAA2_45) ?_
      show Steps p.tables e below (T105.setTop (mkF m 46 #[.val (.ref a1), .val (.int ii), .val (.int (0 : Int32)), .val (.int (2 : Int32)), .val (.int (1 : Int32))] [(.int (1 : Int32)), (.int (1 : Int32))])) _
      refine XS.iadd X105.here hx rfl (hb hby dAA2_46) rfl ?_
      show Steps p.tables e below (T105.setTop (mkF m 47 #[.val (.ref a1), .val (.int ii), .val (.int (0 : Int32)), .val (.int (2 : Int32)), .val (.int (1 : Int32))] [(.int (2 : Int32))])) _
      refine XS.istoreN X105.here hx rfl (hb hby dAA2_47) rfl (l' := #[.val (.ref a1), .val (.int ii), .val (.int (2 : Int32)), .val (.int (2 : Int32)), .val (.int (1 : Int32))]) rfl ?_
      show Steps p.tables e below (T105.setTop (mkF m 48 #[.val (.ref a1), .val (.int ii), .val (.int (2 : Int32)), .val (.int (2 : Int32)), .val (.int (1 : Int32))] [])) _
      refine XS.goto X105.here hx rfl (pc0 := 48) (pc' := 54) rfl (hb hby dAA2_48) (by decide) (by decide) ?_
      show Steps p.tables e below (T105.setTop (mkF m 54 #[.val (.ref a1), .val (.int ii), .val (.int (2 : Int32)), .val (.int (2 : Int32)), .val (.int (1 : Int32))] [])) _
      refine XS.goto X105.here hx rfl (pc0 := 54) (pc' := 17) rfl (hb hby dAA2_54) (by decide) (by decide) ?_
      show Steps p.tables e below (T105.setTop (mkF m 17 #[.val (.ref a1), .val (.int ii), .val (.int (2 : Int32)), .val (.int (2 : Int32)), .val (.int (1 : Int32))] [])) _
      refine XS.iloadN X105.here hx rfl (hb hby dAA2_17) rfl ?_
      show Steps p.tables e below (T105.setTop (mkF m 18 #[.val (.ref a1), .val (.int ii), .val (.int (2 : Int32)), .val (.int (2 : Int32)), .val (.int (1 : Int32))] [(.int (2 : Int32))])) _
      refine XS.iloadN X105.here hx rfl (hb hby dAA2_18) rfl ?_
      show Steps p.tables e below (T105.setTop (mkF m 19 #[.val (.ref a1), .val (.int ii), .val (.int (2 : Int32)), .val (.int (2 : Int32)), .val (.int (1 : Int32))] [(.int (2 : Int32)), (.int (2 : Int32))])) _
      refine XS.icmpYes X105.here hx rfl (pc0 := 19) (pc' := 57) rfl (hb hby dAA2_19) rfl (flt ((by decide) : ¬ ((2 : Int32) < (2 : Int32)))).2.1 (by decide) (by decide) ?_
      show Steps p.tables e below (T105.setTop (mkF m 57 #[.val (.ref a1), .val (.int ii), .val (.int (2 : Int32)), .val (.int (2 : Int32)), .val (.int (1 : Int32))] [])) _
      refine XS.iloadN X105.here hx rfl (hb hby dAA2_57) rfl ?_
      show Steps p.tables e below (T105.setTop (mkF m 58 #[.val (.ref a1), .val (.int ii), .val (.int (2 : Int32)), .val (.int (2 : Int32)), .val (.int (1 : Int32))] [(.int ii)])) _
      refine XS.iloadN X105.here hx rfl (hb hby dAA2_58) rfl ?_
      show Steps p.tables e below (T105.setTop (mkF m 59 #[.val (.ref a1), .val (.int ii), .val (.int (2 : Int32)), .val (.int (2 : Int32)), .val (.int (1 : Int32))] [(.int (2 : Int32)), (.int ii)])) _
      refine XS.iadd X105.here hx rfl (hb hby dAA2_59) rfl ?_
      exact kt)
    obtain ⟨fs, hr, hrun, hended, hW, hsame⟩ := X105.leave (v := some (.int (ii + (2 : Int32)))) (fun h => by rw [Bd.returns] at h; cases h) (hlocks := hlk)
    refine ⟨_, _, P115 _ ?_, hrun, hended, _, _, rfl, ?_, ⟨_, rfl⟩, hW, hsame.mono (by decide) (by decide)⟩
    · show Steps p.tables e below (T105.setTop (mkF m 60 #[.val (.ref a1), .val (.int ii), .val (.int (2 : Int32)), .val (.int (2 : Int32)), .val (.int (1 : Int32))] [(.int (ii + (2 : Int32)))])) _
      exact retI X105 hx Bd.returns (hb hby dAA2_60) hr
    · show QP _ h0 _ T105.heap _
      have ev : fAA2 ii x0 x1 = (ii + (2 : Int32)) := by unfold fAA2; rw [if_neg hc40_108]
      rw [ev]
      exact ⟨rfl, rfl, e105⟩
theorem dAC3_0 : decode prog_83_method_7_code 0 = .ok (.aload_n 0, 1) := by decide +kernel
theorem dAC3_1 : decode prog_83_method_7_code 1 = .ok (.getfield 50, 3) := by decide +kernel
theorem dAC3_4 : decode prog_83_method_7_code 4 = .ok (.aload_n 0, 1) := by decide +kernel
theorem dAC3_5 : decode prog_83_method_7_code 5 = .ok (.getfield 54, 3) := by decide +kernel
theorem dAC3_8 : decode prog_83_method_7_code 8 = .ok (.arraylength, 1) := by decide +kernel
theorem dAC3_9 : decode prog_83_method_7_code 9 = .ok (.isub, 1) := by decide +kernel
theorem dAC3_10 : decode prog_83_method_7_code 10 = .ok (.ireturn, 1) := by decide +kernel
theorem ef_AC3 (m : MethodId) (x0 : Addr) : entryFrame m #[(.ref x0)] 1 = mkF m 0 #[.val (.ref x0)] [] := by first | (simp [entryFrame, mkF, argsToLocals, Value.category]; done) | rfl
set_option maxRecDepth 65536 in
set_option maxHeartbeats 40000000 in
theorem rmAC3 (l : Launch) (Z : State) (a0 : Array Value) (hw : ∀ d ∈ tables_1, d.before a0 Z = true) (ws : List Jvm.Cond) (a1 : Addr) (pp : Int32) (b : Addr) (k : ClassId) (x0 x1 x2 : Int32) (h0 : Heap) (Fp : Fld Z h0 a1 "com/example/allot/allot/partition/Topic" "partitions" "I" (.int pp)) (Fu : Fld Z h0 a1 "com/example/allot/allot/partition/Topic" "unavailable" "[I" (.ref b)) (Vb : Arv Z h0 b k .int (3 : Int32) [(.int x0), (.int x1), (.int x2)] (.int (0 : Int32))) :
    MetFree l (⟨"com/example/allot/allot/partition/Topic", "availableCount", "()I"⟩ : MethodName) (head1 (Jvm.Cond.code (⟨"com/example/allot/allot/partition/Topic", "availableCount", "()I"⟩ : MethodName) prog_83_method_7_code 1 (some .int) :: ws) ({ frames := 0, cells := 0, slots := 0, locals := 0 } : Room)) (fun a U => a = #[(.ref a1)] ∧ Z.Warmed39 U.vm ∧ U.heap = h0) (fun _ _ _ _ _ => True) (fun _ U o U' => ∃ v L, o = .returned v ∧ QP (some (.int (pp - (3 : Int32)))) h0 v U'.heap L ∧ FrameEnd U o U' L ({ frames := 0, cells := 0, slots := 0, locals := 0 } : Room).cells ({ frames := 0, cells := 0, slots := 0, locals := 0 } : Room).slots) := by
  refine MetFree.of_bodySF (plainFor_of_name (by first | (simp [plainName, overriddenIn]; done) | decide +kernel)) hisR ?_
  intro p e s m args below meth c s₁ Bd hml0 hP hK
  obtain ⟨rfl, hZ, hh⟩ := hP
  have hx := Bd.exec
  have hby := Bd.bytes
  have hml : c.maxLocals = 1 := hml0
  have hown : s.vm.findClass "com/example/allot/allot/partition/Topic" = some m.cls := findClass_of_methodNamed Bd.named
  have hnm := (name_of_methodNamed Bd.named Bd.method).1
  have hlk : meth.locks = false := BodyLoose.notSynchronized Bd
  have X0 : Stand p l e ({ frames := 0, cells := 0, slots := 0, locals := 0 } : Room) s m #[(.ref a1)] below meth c s₁ [] 0 0 := Stand.of_body Bd
  have e0 : s₁.heap = h0 := by rw [← hh, Bd.state]; rfl
  have P0 : ∀ t, Steps p.tables e below (s₁.setTop (mkF m 0 #[.val (.ref a1)] [])) t → Steps p.tables e below (s₁.setTop (entryFrame m #[(.ref a1)] 1)) t := fun t kt => castTop (ef_AC3 m a1) kt
  obtain ⟨T101, X101, e101, st101⟩ := getF X0 hx hZ hown (host := "") (Or.inl (hw _ (List.mem_of_getElem? (i := 58) rfl))) Via.refl e0 Fp (g := (mkF m 1 #[.val (.ref a1)] [(.ref a1)])) rfl rfl (hb hby dAC3_1)
  obtain ⟨T102, X102, e102, st102⟩ := getF X101 hx hZ hown (host := "") (Or.inl (hw _ (List.mem_of_getElem? (i := 60) rfl))) Via.refl e101 Fu (g := (mkF m 5 #[.val (.ref a1)] [(.ref a1), (.int pp)])) rfl rfl (hb hby dAC3_5)
  obtain ⟨cl103, Ar103, q103, S103, Nn103, H103, G103⟩ := id Vb
  have P104 : ∀ t, Steps p.tables e below (T102.setTop (mkF m 10 #[.val (.ref a1)] [(.int (pp - (3 : Int32)))])) t → Steps p.tables e below (s₁.setTop (entryFrame m #[(.ref a1)] 1)) t := fun t kt => P0 t (by
    show Steps p.tables e below (s₁.setTop (mkF m 0 #[.val (.ref a1)] [])) _
    refine XS.aloadN X0.here hx rfl (hb hby dAC3_0) rfl rfl ?_
    show Steps p.tables e below (s₁.setTop (mkF m 1 #[.val (.ref a1)] [(.ref a1)])) _
    refine st101 _ ?_
    show Steps p.tables e below (T101.setTop (mkF m 4 #[.val (.ref a1)] [(.int pp)])) _
    refine XS.aloadN X101.here hx rfl (hb hby dAC3_4) rfl rfl ?_
    show Steps p.tables e below (T101.setTop (mkF m 5 #[.val (.ref a1)] [(.ref a1), (.int pp)])) _
    refine st102 _ ?_
    show Steps p.tables e below (T102.setTop (mkF m 8 #[.val (.ref a1)] [(.ref b), (.int pp)])) _
    refine X102.arraylength hx (by rw [e102]; exact Ar103.1) (State.isArrayOf_alike hZ.alike Ar103.2.1) (g := (mkF m 8 #[.val (.ref a1)] [(.ref b), (.int pp)])) rfl rfl (hb hby dAC3_8) _ ?_
    rw [len_of S103 Nn103]
    show Steps p.tables e below (T102.setTop (mkF m 9 #[.val (.ref a1)] [(.int (3 : Int32)), (.int pp)])) _
    refine XS.isub X102.here hx rfl (hb hby dAC3_9) rfl ?_
    exact kt)
  obtain ⟨fs, hr, hrun, hended, hW, hsame⟩ := X102.leave (v := some (.int (pp - (3 : Int32)))) (fun h => by rw [Bd.returns] at h; cases h) (hlocks := hlk)
  refine ⟨_, _, P104 _ ?_, hrun, hended, _, _, rfl, ?_, ⟨_, rfl⟩, hW, hsame.mono (by decide) (by decide)⟩
  · show Steps p.tables e below (T102.setTop (mkF m 10 #[.val (.ref a1)] [(.int (pp - (3 : Int32)))])) _
    exact retI X102 hx Bd.returns (hb hby dAC3_10) hr
  · show QP _ h0 _ T102.heap _
    exact ⟨rfl, rfl, e102⟩
theorem dAA3_0 : decode prog_83_method_10_code 0 = .ok (.iload_n 1, 1) := by decide +kernel
theorem dAA3_1 : decode prog_83_method_10_code 1 = .ok (.aload_n 0, 1) := by decide +kernel
theorem dAA3_2 : decode prog_83_method_10_code 2 = .ok (.invokevirtual 94, 3) := by decide +kernel
theorem dAA3_5 : decode prog_83_method_10_code 5 = .ok (.invokestatic 98, 3) := by decide +kernel
theorem dAA3_8 : decode prog_83_method_10_code 8 = .ok (.pop, 1) := by decide +kernel
theorem dAA3_9 : decode prog_83_method_10_code 9 = .ok (.iconst 0, 1) := by decide +kernel
theorem dAA3_10 : decode prog_83_method_10_code 10 = .ok (.istore_n 2, 1) := by decide +kernel
theorem dAA3_11 : decode prog_83_method_10_code 11 = .ok (.aload_n 0, 1) := by decide +kernel
theorem dAA3_12 : decode prog_83_method_10_code 12 = .ok (.getfield 54, 3) := by decide +kernel
theorem dAA3_15 : decode prog_83_method_10_code 15 = .ok (.arraylength, 1) := by decide +kernel
theorem dAA3_16 : decode prog_83_method_10_code 16 = .ok (.istore_n 3, 1) := by decide +kernel
theorem dAA3_17 : decode prog_83_method_10_code 17 = .ok (.iload_n 2, 1) := by decide +kernel
theorem dAA3_18 : decode prog_83_method_10_code 18 = .ok (.iload_n 3, 1) := by decide +kernel
theorem dAA3_19 : decode prog_83_method_10_code 19 = .ok (.if_icmp .ge 38, 3) := by decide +kernel
theorem dAA3_22 : decode prog_83_method_10_code 22 = .ok (.iload_n 2, 1) := by decide +kernel
theorem dAA3_23 : decode prog_83_method_10_code 23 = .ok (.iload_n 3, 1) := by decide +kernel
theorem dAA3_24 : decode prog_83_method_10_code 24 = .ok (.iadd, 1) := by decide +kernel
theorem dAA3_25 : decode prog_83_method_10_code 25 = .ok (.iconst 1, 1) := by decide +kernel
theorem dAA3_26 : decode prog_83_method_10_code 26 = .ok (.iushr, 1) := by decide +kernel
theorem dAA3_27 : decode prog_83_method_10_code 27 = .ok (.istore 4, 2) := by decide +kernel
theorem dAA3_29 : decode prog_83_method_10_code 29 = .ok (.aload_n 0, 1) := by decide +kernel
theorem dAA3_30 : decode prog_83_method_10_code 30 = .ok (.getfield 54, 3) := by decide +kernel
theorem dAA3_33 : decode prog_83_method_10_code 33 = .ok (.iload 4, 2) := by decide +kernel
theorem dAA3_35 : decode prog_83_method_10_code 35 = .ok (.iaload, 1) := by decide +kernel
theorem dAA3_36 : decode prog_83_method_10_code 36 = .ok (.iload 4, 2) := by decide +kernel
theorem dAA3_38 : decode prog_83_method_10_code 38 = .ok (.isub, 1) := by decide +kernel
theorem dAA3_39 : decode prog_83_method_10_code 39 = .ok (.iload_n 1, 1) := by decide +kernel
theorem dAA3_40 : decode prog_83_method_10_code 40 = .ok (.if_icmp .gt 11, 3) := by decide +kernel
theorem dAA3_43 : decode prog_83_method_10_code 43 = .ok (.iload 4, 2) := by decide +kernel
theorem dAA3_45 : decode prog_83_method_10_code 45 = .ok (.iconst 1, 1) := by decide +kernel
theorem dAA3_46 : decode prog_83_method_10_code 46 = .ok (.iadd, 1) := by decide +kernel
theorem dAA3_47 : decode prog_83_method_10_code 47 = .ok (.istore_n 2, 1) := by decide +kernel
theorem dAA3_48 : decode prog_83_method_10_code 48 = .ok (.goto 6, 3) := by decide +kernel
theorem dAA3_51 : decode prog_83_method_10_code 51 = .ok (.iload 4, 2) := by decide +kernel
theorem dAA3_53 : decode prog_83_method_10_code 53 = .ok (.istore_n 3, 1) := by decide +kernel
theorem dAA3_54 : decode prog_83_method_10_code 54 = .ok (.goto (-37), 3) := by decide +kernel
theorem dAA3_57 : decode prog_83_method_10_code 57 = .ok (.iload_n 1, 1) := by decide +kernel
theorem dAA3_58 : decode prog_83_method_10_code 58 = .ok (.iload_n 2, 1) := by decide +kernel
theorem dAA3_59 : decode prog_83_method_10_code 59 = .ok (.iadd, 1) := by decide +kernel
theorem dAA3_60 : decode prog_83_method_10_code 60 = .ok (.ireturn, 1) := by decide +kernel
theorem ef_AA3 (m : MethodId) (x0 : Addr) (x1 : Int32) : entryFrame m #[(.ref x0), (.int x1)] 5 = mkF m 0 #[.val (.ref x0), .val (.int x1), .unset, .unset, .unset] [] := by first | (simp [entryFrame, mkF, argsToLocals, Value.category]; done) | rfl
set_option maxRecDepth 65536 in
set_option maxHeartbeats 40000000 in
theorem rmAA3 (l : Launch) (Z : State) (a0 : Array Value) (hw : ∀ d ∈ tables_1, d.before a0 Z = true) (ws : List Jvm.Cond) (a1 : Addr) (ii : Int32) (pp : Int32) (b : Addr) (k : ClassId) (x0 x1 x2 : Int32) (h0 : Heap) (E1 : Exa Z h0 a1 "com/example/allot/allot/partition/Topic") (Fp : Fld Z h0 a1 "com/example/allot/allot/partition/Topic" "partitions" "I" (.int pp)) (Fu : Fld Z h0 a1 "com/example/allot/allot/partition/Topic" "unavailable" "[I" (.ref b)) (Vb : Arv Z h0 b k .int (3 : Int32) [(.int x0), (.int x1), (.int x2)] (.int (0 : Int32))) (h1 : ¬ ii < (0 : Int32)) (h2 : ii < (pp - (3 : Int32))) :
    MetFree l (⟨"com/example/allot/allot/partition/Topic", "availableAt", "(I)I"⟩ : MethodName) (head1 (Jvm.Cond.code (⟨"com/example/allot/allot/partition/Topic", "availableAt", "(I)I"⟩ : MethodName) prog_83_method_10_code 5 (some .int) :: ws) ({ frames := 2, cells := 0, slots := 0, locals := 27 } : Room)) (fun a U => a = #[(.ref a1), (.int ii)] ∧ Z.Warmed39 U.vm ∧ U.heap = h0) (fun _ _ _ _ _ => True) (fun _ U o U' => ∃ v L, o = .returned v ∧ QP (some (.int (fAA3 ii x0 x1 x2))) h0 v U'.heap L ∧ FrameEnd U o U' L ({ frames := 2, cells := 0, slots := 0, locals := 27 } : Room).cells ({ frames := 2, cells := 0, slots := 0, locals := 27 } : Room).slots) := by
  refine MetFree.of_bodySF (plainFor_of_name (by first | (simp [plainName, overriddenIn]; done) | decide +kernel)) hisR ?_
  intro p e s m args below meth c s₁ Bd hml0 hP hK
  obtain ⟨rfl, hZ, hh⟩ := hP
  have hx := Bd.exec
  have hby := Bd.bytes
  have hml : c.maxLocals = 5 := hml0
  have hown : s.vm.findClass "com/example/allot/allot/partition/Topic" = some m.cls := findClass_of_methodNamed Bd.named
  have hnm := (name_of_methodNamed Bd.named Bd.method).1
  have hlk : meth.locks = false := BodyLoose.notSynchronized Bd
  have X0 : Stand p l e ({ frames := 2, cells := 0, slots := 0, locals := 27 } : Room) s m #[(.ref a1), (.int ii)] below meth c s₁ [] 0 0 := Stand.of_body Bd
  have e0 : s₁.heap = h0 := by rw [← hh, Bd.state]; rfl
  have P0 : ∀ t, Steps p.tables e below (s₁.setTop (mkF m 0 #[.val (.ref a1), .val (.int ii), .unset, .unset, .unset] [])) t → Steps p.tables e below (s₁.setTop (entryFrame m #[(.ref a1), (.int ii)] 5)) t := fun t kt => castTop (ef_AA3 m a1 ii) kt
  obtain ⟨cq101, kq101, q101a, q101b, q101c⟩ := isOf hZ e0 E1
  obtain ⟨_, _, ⟨T101, L101, k101, n101⟩, -, X101, ⟨Lc101, hQ101, l101, y101, z101⟩, st101⟩ := X0.virtualBack hx (y := (⟨"com/example/allot/allot/partition/Topic", "availableCount", "()I"⟩ : MethodName)) (z := (⟨"com/example/allot/allot/partition/Topic", "availableCount", "()I"⟩ : MethodName)) hown (mvT hZ (hw _ (List.mem_of_getElem? (i := 68) rfl))) (mvT hZ (hw _ (List.mem_of_getElem? (i := 69) rfl))) (notFace_of_selects (args := #[]) (mvT hZ (hw _ (List.mem_of_getElem? (i := 71) rfl)))) (mvT hZ (hw _ (List.mem_of_getElem? (i := 71) rfl))) (mvT hZ (hw _ (List.mem_of_getElem? (i := 70) rfl))) (by decide) (backOf (W := 1)  (rmAC3 l Z a0 hw [] a1 pp b k x0 x1 x2 h0 Fp Fu Vb) hZ (hw _ (List.mem_of_getElem? (i := 72) rfl)) (hw _ (List.mem_of_getElem? (i := 7) rfl)) (by decide) (by decide)) q101a q101c (g := (mkF m 2 #[.val (.ref a1), .val (.int ii), .unset, .unset, .unset] [(.ref a1), (.int ii)])) rfl (by rw [hml]; rfl) (Steps.refl _) (argsL := []) (rest := [(.int ii)]) (lenOf pd___I rfl) rfl (by show 2 * 0 + _ ≤ _; exact Nat.le_of_eq rfl) (hb hby dAA3_2) (fun _ _ => ⟨rfl, e0, (by decide : 0 + 0 ≤ _), (by decide : 0 + 0 ≤ _)⟩)
  dsimp only [Pt.U, Pt.locs, Pt.cells, Pt.slots] at X101 l101 y101 z101 st101 hQ101
  subst l101 y101 z101
  obtain ⟨rfl, rfl, e101⟩ := hQ101
  have X101 : Stand p l e ({ frames := 2, cells := 0, slots := 0, locals := 27 } : Room) s m #[(.ref a1), (.int ii)] below meth c T101 [] 0 0 := X101
  obtain ⟨_, _, ⟨T102, L102, k102, n102⟩, -, X102, ⟨Lc102, hQ102, l102, y102, z102⟩, st102⟩ := Jvm.LawKit.callS X101 hx (y := (⟨"java/util/Objects", "checkIndex", "(II)I"⟩ : MethodName)) hown (mvT hZ (hw _ (List.mem_of_getElem? (i := 73) rfl))) (mvT hZ (hw _ (List.mem_of_getElem? (i := 74) rfl))) (mvT hZ (hw _ (List.mem_of_getElem? (i := 30) rfl))) (mvT hZ (hw _ (List.mem_of_getElem? (i := 75) rfl))) (by decide) (backOf (W := 0)  (rmOC l Z a0 hw [] ii (pp - (3 : Int32)) h0 h1 h2) hZ (hw _ (List.mem_of_getElem? (i := 75) rfl)) (hw _ (List.mem_of_getElem? (i := 30) rfl)) (by decide) (by decide)) (g := (mkF m 5 #[.val (.ref a1), .val (.int ii), .unset, .unset, .unset] [(.int (pp - (3 : Int32))), (.int ii)])) rfl (by rw [hml]; rfl) (argsL := [(.int ii), (.int (pp - (3 : Int32)))]) (rest := []) (lenOf pd__II_I rfl) rfl (by show 2 * 0 + _ ≤ _; exact Nat.le_of_eq rfl) (hb hby dAA3_5) (fun _ _ => ⟨rfl, e101, (by decide : 0 + 0 ≤ _), (by decide : 0 + 0 ≤ _)⟩)
  dsimp only [Pt.U, Pt.locs, Pt.cells, Pt.slots] at X102 l102 y102 z102 st102 hQ102
  subst l102 y102 z102
  obtain ⟨rfl, rfl, e102⟩ := hQ102
  have X102 : Stand p l e ({ frames := 2, cells := 0, slots := 0, locals := 27 } : Room) s m #[(.ref a1), (.int ii)] below meth c T102 [] 0 0 := X102
  obtain ⟨T103, X103, e103, st103⟩ := getF X102 hx hZ hown (host := "") (Or.inl (hw _ (List.mem_of_getElem? (i := 60) rfl))) Via.refl e102 Fu (g := (mkF m 12 #[.val (.ref a1), .val (.int ii), .val (.int (0 : Int32)), .unset, .unset] [(.ref a1)])) rfl rfl (hb hby dAA3_12)
  obtain ⟨cl104, Ar104, q104, S104, Nn104, H104, G104⟩ := id Vb
  obtain ⟨T105, X105, e105, st105⟩ := getF X103 hx hZ hown (host := "") (Or.inl (hw _ (List.mem_of_getElem? (i := 60) rfl))) Via.refl e103 Fu (g := (mkF m 30 #[.val (.ref a1), .val (.int ii), .val (.int (0 : Int32)), .val (.int (3 : Int32)), .val (.int (1 : Int32))] [(.ref a1)])) rfl rfl (hb hby dAA3_30)
  obtain ⟨cl106, Ar106, q106, S106, Nn106, H106, G106⟩ := id Vb
  have P107 : ∀ t, Steps p.tables e below (T105.setTop (mkF m 40 #[.val (.ref a1), .val (.int ii), .val (.int (0 : Int32)), .val (.int (3 : Int32)), .val (.int (1 : Int32))] [(.int ii), (.int (x1 - (1 : Int32)))])) t → Steps p.tables e below (s₁.setTop (entryFrame m #[(.ref a1), (.int ii)] 5)) t := fun t kt => P0 t (by
    show Steps p.tables e below (s₁.setTop (mkF m 0 #[.val (.ref a1), .val (.int ii), .unset, .unset, .unset] [])) _
    refine XS.iloadN X0.here hx rfl (hb hby dAA3_0) rfl ?_
    show Steps p.tables e below (s₁.setTop (mkF m 1 #[.val (.ref a1), .val (.int ii), .unset, .unset, .unset] [(.int ii)])) _
    refine XS.aloadN X0.here hx rfl (hb hby dAA3_1) rfl rfl ?_
    show Steps p.tables e below (s₁.setTop (mkF m 2 #[.val (.ref a1), .val (.int ii), .unset, .unset, .unset] [(.ref a1), (.int ii)])) _
    refine st101.trans ?_
    show Steps p.tables e below (T101.setTop (mkF m 5 #[.val (.ref a1), .val (.int ii), .unset, .unset, .unset] [(.int (pp - (3 : Int32))), (.int ii)])) _
    refine st102 _ ?_
    show Steps p.tables e below (T102.setTop (mkF m 8 #[.val (.ref a1), .val (.int ii), .unset, .unset, .unset] [(.int ii)])) _
    refine XS.pop X102.here hx rfl (hb hby dAA3_8) rfl rfl ?_
    show Steps p.tables e below (T102.setTop (mkF m 9 #[.val (.ref a1), .val (.int ii), .unset, .unset, .unset] [])) _
    refine XS.iconst X102.here hx rfl (hb hby dAA3_9) ?_
    show Steps p.tables e below (T102.setTop (mkF m 10 #[.val (.ref a1), .val (.int ii), .unset, .unset, .unset] [(.int (0 : Int32))])) _
    refine XS.istoreN X102.here hx rfl (hb hby dAA3_10) rfl (l' := #[.val (.ref a1), .val (.int ii), .val (.int (0 : Int32)), .unset, .unset]) rfl ?_
    show Steps p.tables e below (T102.setTop (mkF m 11 #[.val (.ref a1), .val (.int ii), .val (.int (0 : Int32)), .unset, .unset] [])) _
    refine XS.aloadN X102.here hx rfl (hb hby dAA3_11) rfl rfl ?_
    show Steps p.tables e below (T102.setTop (mkF m 12 #[.val (.ref a1), .val (.int ii), .val (.int (0 : Int32)), .unset, .unset] [(.ref a1)])) _
    refine st103 _ ?_
    show Steps p.tables e below (T103.setTop (mkF m 15 #[.val (.ref a1), .val (.int ii), .val (.int (0 : Int32)), .unset, .unset] [(.ref b)])) _
    refine X103.arraylength hx (by rw [e103]; exact Ar104.1) (State.isArrayOf_alike hZ.alike Ar104.2.1) (g := (mkF m 15 #[.val (.ref a1), .val (.int ii), .val (.int (0 : Int32)), .unset, .unset] [(.ref b)])) rfl rfl (hb hby dAA3_15) _ ?_
    rw [len_of S104 Nn104]
    show Steps p.tables e below (T103.setTop (mkF m 16 #[.val (.ref a1), .val (.int ii), .val (.int (0 : Int32)), .unset, .unset] [(.int (3 : Int32))])) _
    refine XS.istoreN X103.here hx rfl (hb hby dAA3_16) rfl (l' := #[.val (.ref a1), .val (.int ii), .val (.int (0 : Int32)), .val (.int (3 : Int32)), .unset]) rfl ?_
    show Steps p.tables e below (T103.setTop (mkF m 17 #[.val (.ref a1), .val (.int ii), .val (.int (0 : Int32)), .val (.int (3 : Int32)), .unset] [])) _
    refine XS.iloadN X103.here hx rfl (hb hby dAA3_17) rfl ?_
    show Steps p.tables e below (T103.setTop (mkF m 18 #[.val (.ref a1), .val (.int ii), .val (.int (0 : Int32)), .val (.int (3 : Int32)), .unset] [(.int (0 : Int32))])) _
    refine XS.iloadN X103.here hx rfl (hb hby dAA3_18) rfl ?_
    show Steps p.tables e below (T103.setTop (mkF m 19 #[.val (.ref a1), .val (.int ii), .val (.int (0 : Int32)), .val (.int (3 : Int32)), .unset] [(.int (3 : Int32)), (.int (0 : Int32))])) _
    refine XS.icmpNo X103.here hx rfl (hb hby dAA3_19) rfl (tlt ((by decide) : (0 : Int32) < (3 : Int32))).2.1 ?_
    show Steps p.tables e below (T103.setTop (mkF m 22 #[.val (.ref a1), .val (.int ii), .val (.int (0 : Int32)), .val (.int (3 : Int32)), .unset] [])) _
    refine XS.iloadN X103.here hx rfl (hb hby dAA3_22) rfl ?_
    show Steps p.tables e below (T103.setTop (mkF m 23 #[.val (.ref a1), .val (.int ii), .val (.int (0 : Int32)), .val (.int (3 : Int32)), .unset] [(.int (0 : Int32))])) _
    refine XS.iloadN X103.here hx rfl (hb hby dAA3_23) rfl ?_
    show Steps p.tables e below (T103.setTop (mkF m 24 #[.val (.ref a1), .val (.int ii), .val (.int (0 : Int32)), .val (.int (3 : Int32)), .unset] [(.int (3 : Int32)), (.int (0 : Int32))])) _
    refine XS.iadd X103.here hx rfl (hb hby dAA3_24) rfl ?_
    show Steps p.tables e below (T103.setTop (mkF m 25 #[.val (.ref a1), .val (.int ii), .val (.int (0 : Int32)), .val (.int (3 : Int32)), .unset] [(.int (3 : Int32))])) _
    refine XS.iconst X103.here hx rfl (hb hby dAA3_25) ?_
    show Steps p.tables e below (T103.setTop (mkF m 26 #[.val (.ref a1), .val (.int ii), .val (.int (0 : Int32)), .val (.int (3 : Int32)), .unset] [(.int (1 : Int32)), (.int (3 : Int32))])) _
    refine XS.iushr X103.here hx rfl (hb hby dAA3_26) rfl ?_
    show Steps p.tables e below (T103.setTop (mkF m 27 #[.val (.ref a1), .val (.int ii), .val (.int (0 : Int32)), .val (.int (3 : Int32)), .unset] [(.int (1 : Int32))])) _
    refine XS.istore X103.here hx rfl (hb hby dAA3_27) rfl (l' := #[.val (.ref a1), .val (.int ii), .val (.int (0 : Int32)), .val (.int (3 : Int32)), .val (.int (1 : Int32))]) rfl ?_
    show Steps p.tables e below (T103.setTop (mkF m 29 #[.val (.ref a1), .val (.int ii), .val (.int (0 : Int32)), .val (.int (3 : Int32)), .val (.int (1 : Int32))] [])) _
    refine XS.aloadN X103.here hx rfl (hb hby dAA3_29) rfl rfl ?_
    show Steps p.tables e below (T103.setTop (mkF m 30 #[.val (.ref a1), .val (.int ii), .val (.int (0 : Int32)), .val (.int (3 : Int32)), .val (.int (1 : Int32))] [(.ref a1)])) _
    refine st105 _ ?_
    show Steps p.tables e below (T105.setTop (mkF m 33 #[.val (.ref a1), .val (.int ii), .val (.int (0 : Int32)), .val (.int (3 : Int32)), .val (.int (1 : Int32))] [(.ref b)])) _
    refine XS.iload X105.here hx rfl (hb hby dAA3_33) rfl ?_
    show Steps p.tables e below (T105.setTop (mkF m 35 #[.val (.ref a1), .val (.int ii), .val (.int (0 : Int32)), .val (.int (3 : Int32)), .val (.int (1 : Int32))] [(.int (1 : Int32)), (.ref b)])) _
    refine X105.iaload hx (j := (1 : Int32)) (v := (.int x1)) (by rw [e105]; exact Ar106.1) (State.isArrayOf_alike hZ.alike Ar106.2.1) Ar106.2.2 (inb_of S106 ⟨by decide, by decide⟩) (H106 1 (by rw [S106]; decide)) (g := (mkF m 35 #[.val (.ref a1), .val (.int ii), .val (.int (0 : Int32)), .val (.int (3 : Int32)), .val (.int (1 : Int32))] [(.int (1 : Int32)), (.ref b)])) rfl rfl (hb hby dAA3_35) _ ?_
    show Steps p.tables e below (T105.setTop (mkF m 36 #[.val (.ref a1), .val (.int ii), .val (.int (0 : Int32)), .val (.int (3 : Int32)), .val (.int (1 : Int32))] [(.int x1)])) _
    refine XS.iload X105.here hx rfl (hb hby dAA3_36) rfl ?_
    show Steps p.tables e below (T105.setTop (mkF m 38 #[.val (.ref a1), .val (.int ii), .val (.int (0 : Int32)), .val (.int (3 : Int32)), .val (.int (1 : Int32))] [(.int (1 : Int32)), (.int x1)])) _
    refine XS.isub X105.here hx rfl (hb hby dAA3_38) rfl ?_
    show Steps p.tables e below (T105.setTop (mkF m 39 #[.val (.ref a1), .val (.int ii), .val (.int (0 : Int32)), .val (.int (3 : Int32)), .val (.int (1 : Int32))] [(.int (x1 - (1 : Int32)))])) _
    refine XS.iloadN X105.here hx rfl (hb hby dAA3_39) rfl ?_
    exact kt)
  by_cases hc40_108 : ii < (x1 - (1 : Int32))
  · obtain ⟨T109, X109, e109, st109⟩ := getF X105 hx hZ hown (host := "") (Or.inl (hw _ (List.mem_of_getElem? (i := 60) rfl))) Via.refl e105 Fu (g := (mkF m 30 #[.val (.ref a1), .val (.int ii), .val (.int (0 : Int32)), .val (.int (1 : Int32)), .val (.int (0 : Int32))] [(.ref a1)])) rfl rfl (hb hby dAA3_30)
    obtain ⟨cl110, Ar110, q110, S110, Nn110, H110, G110⟩ := id Vb
    have P111 : ∀ t, Steps p.tables e below (T109.setTop (mkF m 40 #[.val (.ref a1), .val (.int ii), .val (.int (0 : Int32)), .val (.int (1 : Int32)), .val (.int (0 : Int32))] [(.int ii), (.int (x0 - (0 : Int32)))])) t → Steps p.tables e below (s₁.setTop (entryFrame m #[(.ref a1), (.int ii)] 5)) t := fun t kt => P107 t (by
      show Steps p.tables e below (T105.setTop (mkF m 40 #[.val (.ref a1), .val (.int ii), .val (.int (0 : Int32)), .val (.int (3 : Int32)), .val (.int (1 : Int32))] [(.int ii), (.int (x1 - (1 : Int32)))])) _
      refine XS.icmpYes X105.here hx rfl (pc0 := 40) (pc' := 51) rfl (hb hby dAA3_40) rfl (tlt hc40_108).2.2.1 (by decide) (by decide) ?_
      show Steps p.tables e below (T105.setTop (mkF m 51 #[.val (.ref a1), .val (.int ii), .val (.int (0 : Int32)), .val (.int (3 : Int32)), .val (.int (1 : Int32))] [])) _
      refine XS.iload X105.here hx rfl (hb hby dAA3_51) rfl ?_
      show Steps p.tables e below (T105.setTop (mkF m 53 #[.val (.ref a1), .val (.int ii), .val (.int (0 : Int32)), .val (.int (3 : Int32)), .val (.int (1 : Int32))] [(.int (1 : Int32))])) _
      refine XS.istoreN X105.here hx rfl (hb hby dAA3_53) rfl (l' := #[.val (.ref a1), .val (.int ii), .val (.int (0 : Int32)), .val (.int (1 : Int32)), .val (.int (1 : Int32))]) rfl ?_
      show Steps p.tables e below (T105.setTop (mkF m 54 #[.val (.ref a1), .val (.int ii), .val (.int (0 : Int32)), .val (.int (1 : Int32)), .val (.int (1 : Int32))] [])) _
      refine XS.goto X105.here hx rfl (pc0 := 54) (pc' := 17) rfl (hb hby dAA3_54) (by decide) (by decide) ?_
      show Steps p.tables e below (T105.setTop (mkF m 17 #[.val (.ref a1), .val (.int ii), .val (.int (0 : Int32)), .val (.int (1 : Int32)), .val (.int (1 : Int32))] [])) _
      refine XS.iloadN X105.here hx rfl (hb hby dAA3_17) rfl ?_
      show Steps p.tables e below (T105.setTop (mkF m 18 #[.val (.ref a1), .val (.int ii), .val (.int (0 : Int32)), .val (.int (1 : Int32)), .val (.int (1 : Int32))] [(.int (0 : Int32))])) _
      refine XS.iloadN X105.here hx rfl (hb hby dAA3_18) rfl ?_
      show Steps p.tables e below (T105.setTop (mkF m 19 #[.val (.ref a1), .val (.int ii), .val (.int (0 : Int32)), .val (.int (1 : Int32)), .val (.int (1 : Int32))] [(.int (1 : Int32)), (.int (0 : Int32))])) _
      refine XS.icmpNo X105.here hx rfl (hb hby dAA3_19) rfl (tlt ((by decide) : (0 : Int32) < (1 : Int32))).2.1 ?_
      show Steps p.tables e below (T105.setTop (mkF m 22 #[.val (.ref a1), .val (.int ii), .val (.int (0 : Int32)), .val (.int (1 : Int32)), .val (.int (1 : Int32))] [])) _
      refine XS.iloadN X105.here hx rfl (hb hby dAA3_22) rfl ?_
      show Steps p.tables e below (T105.setTop (mkF m 23 #[.val (.ref a1), .val (.int ii), .val (.int (0 : Int32)), .val (.int (1 : Int32)), .val (.int (1 : Int32))] [(.int (0 : Int32))])) _
      refine XS.iloadN X105.here hx rfl (hb hby dAA3_23) rfl ?_
      show Steps p.tables e below (T105.setTop (mkF m 24 #[.val (.ref a1), .val (.int ii), .val (.int (0 : Int32)), .val (.int (1 : Int32)), .val (.int (1 : Int32))] [(.int (1 : Int32)), (.int (0 : Int32))])) _
      refine XS.iadd X105.here hx rfl (hb hby dAA3_24) rfl ?_
      show Steps p.tables e below (T105.setTop (mkF m 25 #[.val (.ref a1), .val (.int ii), .val (.int (0 : Int32)), .val (.int (1 : Int32)), .val (.int (1 : Int32))] [(.int (1 : Int32))])) _
      refine XS.iconst X105.here hx rfl (hb hby dAA3_25) ?_
      show Steps p.tables e below (T105.setTop (mkF m 26 #[.val (.ref a1), .val (.int ii), .val (.int (0 : Int32)), .val (.int (1 : Int32)), .val (.int (1 : Int32))] [(.int (1 : Int32)), (.int (1 : Int32))])) _
      refine XS.iushr X105.here hx rfl (hb hby dAA3_26) rfl ?_
      show Steps p.tables e below (T105.setTop (mkF m 27 #[.val (.ref a1), .val (.int ii), .val (.int (0 : Int32)), .val (.int (1 : Int32)), .val (.int (1 : Int32))] [(.int (0 : Int32))])) _
      refine XS.istore X105.here hx rfl (hb hby dAA3_27) rfl (l' := #[.val (.ref a1), .val (.int ii), .val (.int (0 : Int32)), .val (.int (1 : Int32)), .val (.int (0 : Int32))]) rfl ?_
      show Steps p.tables e below (T105.setTop (mkF m 29 #[.val (.ref a1), .val (.int ii), .val (.int (0 : Int32)), .val (.int (1 : Int32)), .val (.int (0 : Int32))] [])) _
      refine XS.aloadN X105.here hx rfl (hb hby dAA3_29) rfl rfl ?_
      show Steps p.tables e below (T105.setTop (mkF m 30 #[.val (.ref a1), .val (.int ii), .val (.int (0 : Int32)), .val (.int (1 : Int32)), .val (.int (0 : Int32))] [(.ref a1)])) _
      refine st109 _ ?_
      show Steps p.tables e below (T109.setTop (mkF m 33 #[.val (.ref a1), .val (.int ii), .val (.int (0 : Int32)), .val (.int (1 : Int32)), .val (.int (0 : Int32))] [(.ref b)])) _
      refine XS.iload X109.here hx rfl (hb hby dAA3_33) rfl ?_
      show Steps p.tables e below (T109.setTop (mkF m 35 #[.val (.ref a1), .val (.int ii), .val (.int (0 : Int32)), .val (.int (1 : Int32)), .val (.int (0 : Int32))] [(.int (0 : Int32)), (.ref b)])) _
      refine X109.iaload hx (j := (0 : Int32)) (v := (.int x0)) (by rw [e109]; exact Ar110.1) (State.isArrayOf_alike hZ.alike Ar110.2.1) Ar110.2.2 (inb_of S110 ⟨by decide, by decide⟩) (H110 0 (by rw [S110]; decide)) (g := (mkF m 35 #[.val (.ref a1), .val (.int ii), .val (.int (0 : Int32)), .val (.int (1 : Int32)), .val (.int (0 : Int32))] [(.int (0 : Int32)), (.ref b)])) rfl rfl (hb hby dAA3_35) _ ?_
      show Steps p.tables e below (T109.setTop (mkF m 36 #[.val (.ref a1), .val (.int ii), .val (.int (0 : Int32)), .val (.int (1 : Int32)), .val (.int (0 : Int32))] [(.int x0)])) _
      refine XS.iload X109.here hx rfl (hb hby dAA3_36) rfl ?_
      show Steps p.tables e below (T109.setTop (mkF m 38 #[.val (.ref a1), .val (.int ii), .val (.int (0 : Int32)), .val (.int (1 : Int32)), .val (.int (0 : Int32))] [(.int (0 : Int32)), (.int x0)])) _
      refine XS.isub X109.here hx rfl (hb hby dAA3_38) rfl ?_
      show Steps p.tables e below (T109.setTop (mkF m 39 #[.val (.ref a1), .val (.int ii), .val (.int (0 : Int32)), .val (.int (1 : Int32)), .val (.int (0 : Int32))] [(.int (x0 - (0 : Int32)))])) _
      refine XS.iloadN X109.here hx rfl (hb hby dAA3_39) rfl ?_
      exact kt)
    by_cases hc40_112 : ii < (x0 - (0 : Int32))
    · have P113 : ∀ t, Steps p.tables e below (T109.setTop (mkF m 60 #[.val (.ref a1), .val (.int ii), .val (.int (0 : Int32)), .val (.int (0 : Int32)), .val (.int (0 : Int32))] [(.int (ii + (0 : Int32)))])) t → Steps p.tables e below (s₁.setTop (entryFrame m #[(.ref a1), (.int ii)] 5)) t := fun t kt => P111 t (by
        show Steps p.tables e below (T109.setTop (mkF m 40 #[.val (.ref a1), .val (.int ii), .val (.int (0 : Int32)), .val (.int (1 : Int32)), .val (.int (0 : Int32))] [(.int ii), (.int (x0 - (0 : Int32)))])) _
        refine XS.icmpYes X109.here hx rfl (pc0 := 40) (pc' := 51) rfl (hb hby dAA3_40) rfl (tlt hc40_112).2.2.1 (by decide) (by decide) ?_
        show Steps p.tables e below (T109.setTop (mkF m 51 #[.val (.ref a1), .val (.int ii), .val (.int (0 : Int32)), .val (.int (1 : Int32)), .val (.int (0 : Int32))] [])) _
        refine XS.iload X109.here hx rfl (hb hby dAA3_51) rfl ?_
        show Steps p.tables e below (T109.setTop (mkF m 53 #[.val (.ref a1), .val (.int ii), .val (.int (0 : Int32)), .val (.int (1 : Int32)), .val (.int (0 : Int32))] [(.int (0 : Int32))])) _
        refine XS.istoreN X109.here hx rfl (hb hby dAA3_53) rfl (l' := #[.val (.ref a1), .val (.int ii), .val (.int (0 : Int32)), .val (.int (0 : Int32)), .val (.int (0 : Int32))]) rfl ?_
        show Steps p.tables e below (T109.setTop (mkF m 54 #[.val (.ref a1), .val (.int ii), .val (.int (0 : Int32)), .val (.int (0 : Int32)), .val (.int (0 : Int32))] [])) _
        refine XS.goto X109.here hx rfl (pc0 := 54) (pc' := 17) rfl (hb hby dAA3_54) (by decide) (by decide) ?_
        show Steps p.tables e below (T109.setTop (mkF m 17 #[.val (.ref a1), .val (.int ii), .val (.int (0 : Int32)), .val (.int (0 : Int32)), .val (.int (0 : Int32))] [])) _
        refine XS.iloadN X109.here hx rfl (hb hby dAA3_17) rfl ?_
        show Steps p.tables e below (T109.setTop (mkF m 18 #[.val (.ref a1), .val (.int ii), .val (.int (0 : Int32)), .val (.int (0 : Int32)), .val (.int (0 : Int32))] [(.int (0 : Int32))])) _
        refine XS.iloadN X109.here hx rfl (hb hby dAA3_18) rfl ?_
        show Steps p.tables e below (T109.setTop (mkF m 19 #[.val (.ref a1), .val (.int ii), .val (.int (0 : Int32)), .val (.int (0 : Int32)), .val (.int (0 : Int32))] [(.int (0 : Int32)), (.int (0 : Int32))])) _
        refine XS.icmpYes X109.here hx rfl (pc0 := 19) (pc' := 57) rfl (hb hby dAA3_19) rfl (flt ((by decide) : ¬ ((0 : Int32) < (0 : Int32)))).2.1 (by decide) (by decide) ?_
        show Steps p.tables e below (T109.setTop (mkF m 57 #[.val (.ref a1), .val (.int ii), .val (.int (0 : Int32)), .val (.int (0 : Int32)), .val (.int (0 : Int32))] [])) _
        refine XS.iloadN X109.here hx rfl (hb hby dAA3_57) rfl ?_
        show Steps p.tables e below (T109.setTop (mkF m 58 #[.val (.ref a1), .val (.int ii), .val (.int (0 : Int32)), .val (.int (0 : Int32)), .val (.int (0 : Int32))] [(.int ii)])) _
        refine XS.iloadN X109.here hx rfl (hb hby dAA3_58) rfl ?_
        show Steps p.tables e below (T109.setTop (mkF m 59 #[.val (.ref a1), .val (.int ii), .val (.int (0 : Int32)), .val (.int (0 : Int32)), .val (.int (0 : Int32))] [(.int (0 : Int32)), (.int ii)])) _
        refine XS.iadd X109.here hx rfl (hb hby dAA3_59) rfl ?_
        exact kt)
      obtain ⟨fs, hr, hrun, hended, hW, hsame⟩ := X109.leave (v := some (.int (ii + (0 : Int32)))) (fun h => by rw [Bd.returns] at h; cases h) (hlocks := hlk)
      refine ⟨_, _, P113 _ ?_, hrun, hended, _, _, rfl, ?_, ⟨_, rfl⟩, hW, hsame.mono (by decide) (by decide)⟩
      · show Steps p.tables e below (T109.setTop (mkF m 60 #[.val (.ref a1), .val (.int ii), .val (.int (0 : Int32)), .val (.int (0 : Int32)), .val (.int (0 : Int32))] [(.int (ii + (0 : Int32)))])) _
        exact retI X109 hx Bd.returns (hb hby dAA3_60) hr
      · show QP _ h0 _ T109.heap _
        have ev : fAA3 ii x0 x1 x2 = (ii + (0 : Int32)) := by unfold fAA3; rw [if_pos hc40_108, if_pos hc40_112]
        rw [ev]
        exact ⟨rfl, rfl, e109⟩
    · have P114 : ∀ t, Steps p.tables e below (T109.setTop (mkF m 60 #[.val (.ref a1), .val (.int ii), .val (.int (1 : Int32)), .val (.int (1 : Int32)), .val (.int (0 : Int32))] [(.int (ii + (1 : Int32)))])) t → Steps p.tables e below (s₁.setTop (entryFrame m #[(.ref a1), (.int ii)] 5)) t := fun t kt => P111 t (by
        show Steps p.tables e below (T109.setTop (mkF m 40 #[.val (.ref a1), .val (.int ii), .val (.int (0 : Int32)), .val (.int (1 : Int32)), .val (.int (0 : Int32))] [(.int ii), (.int (x0 - (0 : Int32)))])) _
        refine XS.icmpNo X109.here hx rfl (hb hby dAA3_40) rfl (flt hc40_112).2.2.1 ?_
        show Steps p.tables e below (T109.setTop (mkF m 43 #[.val (.ref a1), .val (.int ii), .val (.int (0 : Int32)), .val (.int (1 : Int32)), .val (.int (0 : Int32))] [])) _
        refine XS.iload X109.here hx rfl (hb hby dAA3_43) rfl ?_
        show Steps p.tables e below (T109.setTop (mkF m 45 #[.val (.ref a1), .val (.int ii), .val (.int (0 : Int32)), .val (.int (1 : Int32)), .val (.int (0 : Int32))] [(.int (0 : Int32))])) _
        refine XS.iconst X109.here hx rfl (hb hby dAA3_45) ?_
        show Steps p.tables e below (T109.setTop (mkF m 46 #[.val (.ref a1), .val (.int ii), .val (.int (0 : Int32)), .val (.int (1 : Int32)), .val (.int (0 : Int32))] [(.int (1 : Int32)), (.int (0 : Int32))])) _
        refine XS.iadd X109.here hx rfl (hb hby dAA3_46) rfl ?_
        show Steps p.tables e below (T109.setTop (mkF m 47 #[.val (.ref a1), .val (.int ii), .val (.int (0 : Int32)), .val (.int (1 : Int32)), .val (.int (0 : Int32))] [(.int (1 : Int32))])) _
        refine XS.istoreN X109.here hx rfl (hb hby dAA3_47) rfl (l' := #[.val (.ref a1), .val (.int ii), .val (.int (1 : Int32)), .val (.int (1 : Int32)), .val (.int (0 : Int32))]) rfl ?_
        show Steps p.tables e below (T109.setTop (mkF m 48 #[.val (.ref a1), .val (.int ii), .val (.int (1 : Int32)), .val (.int (1 : Int32)), .val (.int (0 : Int32))] [])) _
        refine XS.goto X109.here hx rfl (pc0 := 48) (pc' := 54) rfl (hb hby dAA3_48) (by decide) (by decide) ?_
        show Steps p.tables e below (T109.setTop (mkF m 54 #[.val (.ref a1), .val (.int ii), .val (.int (1 : Int32)), .val (.int (1 : Int32)), .val (.int (0 : Int32))] [])) _
        refine XS.goto X109.here hx rfl (pc0 := 54) (pc' := 17) rfl (hb hby dAA3_54) (by decide) (by decide) ?_
        show Steps p.tables e below (T109.setTop (mkF m 17 #[.val (.ref a1), .val (.int ii), .val (.int (1 : Int32)), .val (.int (1 : Int32)), .val (.int (0 : Int32))] [])) _
        refine XS.iloadN X109.here hx rfl (hb hby dAA3_17) rfl ?_
        show Steps p.tables e below (T109.setTop (mkF m 18 #[.val (.ref a1), .val (.int ii), .val (.int (1 : Int32)), .val (.int (1 : Int32)), .val (.int (0 : Int32))] [(.int (1 : Int32))])) _
        refine XS.iloadN X109.here hx rfl (hb hby dAA3_18) rfl ?_
        show Steps p.tables e below (T109.setTop (mkF m 19 #[.val (.ref a1), .val (.int ii), .val (.int (1 : Int32)), .val (.int (1 : Int32)), .val (.int (0 : Int32))] [(.int (1 : Int32)), (.int (1 : Int32))])) _
        refine XS.icmpYes X109.here hx rfl (pc0 := 19) (pc' := 57) rfl (hb hby dAA3_19) rfl (flt ((by decide) : ¬ ((1 : Int32) < (1 : Int32)))).2.1 (by decide) (by decide) ?_
        show Steps p.tables e below (T109.setTop (mkF m 57 #[.val (.ref a1), .val (.int ii), .val (.int (1 : Int32)), .val (.int (1 : Int32)), .val (.int (0 : Int32))] [])) _
        refine XS.iloadN X109.here hx rfl (hb hby dAA3_57) rfl ?_
        show Steps p.tables e below (T109.setTop (mkF m 58 #[.val (.ref a1), .val (.int ii), .val (.int (1 : Int32)), .val (.int (1 : Int32)), .val (.int (0 : Int32))] [(.int ii)])) _
        refine XS.iloadN X109.here hx rfl (hb hby dAA3_58) rfl ?_
        show Steps p.tables e below (T109.setTop (mkF m 59 #[.val (.ref a1), .val (.int ii), .val (.int (1 : Int32)), .val (.int (1 : Int32)), .val (.int (0 : Int32))] [(.int (1 : Int32)), (.int ii)])) _
        refine XS.iadd X109.here hx rfl (hb hby dAA3_59) rfl ?_
        exact kt)
      obtain ⟨fs, hr, hrun, hended, hW, hsame⟩ := X109.leave (v := some (.int (ii + (1 : Int32)))) (fun h => by rw [Bd.returns] at h; cases h) (hlocks := hlk)
      refine ⟨_, _, P114 _ ?_, hrun, hended, _, _, rfl, ?_, ⟨_, rfl⟩, hW, hsame.mono (by decide) (by decide)⟩
      · show Steps p.tables e below (T109.setTop (mkF m 60 #[.val (.ref a1), .val (.int ii), .val (.int (1 : Int32)), .val (.int (1 : Int32)), .val (.int (0 : Int32))] [(.int (ii + (1 : Int32)))])) _
        exact retI X109 hx Bd.returns (hb hby dAA3_60) hr
      · show QP _ h0 _ T109.heap _
        have ev : fAA3 ii x0 x1 x2 = (ii + (1 : Int32)) := by unfold fAA3; rw [if_pos hc40_108, if_neg hc40_112]
        rw [ev]
        exact ⟨rfl, rfl, e109⟩
  · obtain ⟨T115, X115, e115, st115⟩ := getF X105 hx hZ hown (host := "") (Or.inl (hw _ (List.mem_of_getElem? (i := 60) rfl))) Via.refl e105 Fu (g := (mkF m 30 #[.val (.ref a1), .val (.int ii), .val (.int (2 : Int32)), .val (.int (3 : Int32)), .val (.int (2 : Int32))] [(.ref a1)])) rfl rfl (hb hby dAA3_30)
    obtain ⟨cl116, Ar116, q116, S116, Nn116, H116, G116⟩ := id Vb
    have P117 : ∀ t, Steps p.tables e below (T115.setTop (mkF m 40 #[.val (.ref a1), .val (.int ii), .val (.int (2 : Int32)), .val (.int (3 : Int32)), .val (.int (2 : Int32))] [(.int ii), (.int (x2 - (2 : Int32)))])) t → Steps p.tables e below (s₁.setTop (entryFrame m #[(.ref a1), (.int ii)] 5)) t := fun t kt => P107 t (by
      show Steps p.tables e below (T105.setTop (mkF m 40 #[.val (.ref a1), .val (.int ii), .val (.int (0 : Int32)), .val (.int (3 : Int32)), .val (.int (1 : Int32))] [(.int ii), (.int (x1 - (1 : Int32)))])) _
      refine XS.icmpNo X105.here hx rfl (hb hby dAA3_40) rfl (flt hc40_108).2.2.1 ?_
      show Steps p.tables e below (T105.setTop (mkF m 43 #[.val (.ref a1), .val (.int ii), .val (.int (0 : Int32)), .val (.int (3 : Int32)), .val (.int (1 : Int32))] [])) _
      refine XS.iload X105.here hx rfl (hb hby dAA3_43) rfl ?_
      show Steps p.tables e below (T105.setTop (mkF m 45 #[.val (.ref a1), .val (.int ii), .val (.int (0 : Int32)), .val (.int (3 : Int32)), .val (.int (1 : Int32))] [(.int (1 : Int32))])) _
      refine XS.iconst X105.here hx rfl (hb hby dAA3_45) ?_
      show Steps p.tables e below (T105.setTop (mkF m 46 #[.val (.ref a1), .val (.int ii), .val (.int (0 : Int32)), .val (.int (3 : Int32)), .val (.int (1 : Int32))] [(.int (1 : Int32)), (.int (1 : Int32))])) _
      refine XS.iadd X105.here hx rfl (hb hby dAA3_46) rfl ?_
      show Steps p.tables e below (T105.setTop (mkF m 47 #[.val (.ref a1), .val (.int ii), .val (.int (0 : Int32)), .val (.int (3 : Int32)), .val (.int (1 : Int32))] [(.int (2 : Int32))])) _
      refine XS.istoreN X105.here hx rfl (hb hby dAA3_47) rfl (l' := #[.val (.ref a1), .val (.int ii), .val (.int (2 : Int32)), .val (.int (3 : Int32)), .val (.int (1 : Int32))]) rfl ?_
      show Steps p.tables e below (T105.setTop (mkF m 48 #[.val (.ref a1), .val (.int ii), .val (.int (2 : Int32)), .val (.int (3 : Int32)), .val (.int (1 : Int32))] [])) _
      refine XS.goto X105.here hx rfl (pc0 := 48) (pc' := 54) rfl (hb hby dAA3_48) (by decide) (by decide) ?_
      show Steps p.tables e below (T105.setTop (mkF m 54 #[.val (.ref a1), .val (.int ii), .val (.int (2 : Int32)), .val (.int (3 : Int32)), .val (.int (1 : Int32))] [])) _
      refine XS.goto X105.here hx rfl (pc0 := 54) (pc' := 17) rfl (hb hby dAA3_54) (by decide) (by decide) ?_
      show Steps p.tables e below (T105.setTop (mkF m 17 #[.val (.ref a1), .val (.int ii), .val (.int (2 : Int32)), .val (.int (3 : Int32)), .val (.int (1 : Int32))] [])) _
      refine XS.iloadN X105.here hx rfl (hb hby dAA3_17) rfl ?_
      show Steps p.tables e below (T105.setTop (mkF m 18 #[.val (.ref a1), .val (.int ii), .val (.int (2 : Int32)), .val (.int (3 : Int32)), .val (.int (1 : Int32))] [(.int (2 : Int32))])) _
      refine XS.iloadN X105.here hx rfl (hb hby dAA3_18) rfl ?_
      show Steps p.tables e below (T105.setTop (mkF m 19 #[.val (.ref a1), .val (.int ii), .val (.int (2 : Int32)), .val (.int (3 : Int32)), .val (.int (1 : Int32))] [(.int (3 : Int32)), (.int (2 : Int32))])) _
      refine XS.icmpNo X105.here hx rfl (hb hby dAA3_19) rfl (tlt ((by decide) : (2 : Int32) < (3 : Int32))).2.1 ?_
      show Steps p.tables e below (T105.setTop (mkF m 22 #[.val (.ref a1), .val (.int ii), .val (.int (2 : Int32)), .val (.int (3 : Int32)), .val (.int (1 : Int32))] [])) _
      refine XS.iloadN X105.here hx rfl (hb hby dAA3_22) rfl ?_
      show Steps p.tables e below (T105.setTop (mkF m 23 #[.val (.ref a1), .val (.int ii), .val (.int (2 : Int32)), .val (.int (3 : Int32)), .val (.int (1 : Int32))] [(.int (2 : Int32))])) _
      refine XS.iloadN X105.here hx rfl (hb hby dAA3_23) rfl ?_
      show Steps p.tables e below (T105.setTop (mkF m 24 #[.val (.ref a1), .val (.int ii), .val (.int (2 : Int32)), .val (.int (3 : Int32)), .val (.int (1 : Int32))] [(.int (3 : Int32)), (.int (2 : Int32))])) _
      refine XS.iadd X105.here hx rfl (hb hby dAA3_24) rfl ?_
      show Steps p.tables e below (T105.setTop (mkF m 25 #[.val (.ref a1), .val (.int ii), .val (.int (2 : Int32)), .val (.int (3 : Int32)), .val (.int (1 : Int32))] [(.int (5 : Int32))])) _
      refine XS.iconst X105.here hx rfl (hb hby dAA3_25) ?_
      show Steps p.tables e below (T105.setTop (mkF m 26 #[.val (.ref a1), .val (.int ii), .val (.int (2 : Int32)), .val (.int (3 : Int32)), .val (.int (1 : Int32))] [(.int (1 : Int32)), (.int (5 : Int32))])) _
      refine XS.iushr X105.here hx rfl (hb hby dAA3_26) rfl ?_
      show Steps p.tables e below (T105.setTop (mkF m 27 #[.val (.ref a1), .val (.int ii), .val (.int (2 : Int32)), .val (.int (3 : Int32)), .val (.int (1 : Int32))] [(.int (2 : Int32))])) _
      refine XS.istore X105.here hx rfl (hb hby dAA3_27) rfl (l' := #[.val (.ref a1), .val (.int ii), .val (.int (2 : Int32)), .val (.int (3 : Int32)), .val (.int (2 : Int32))]) rfl ?_
      show Steps p.tables e below (T105.setTop (mkF m 29 #[.val (.ref a1), .val (.int ii), .val (.int (2 : Int32)), .val (.int (3 : Int32)), .val (.int (2 : Int32))] [])) _
      refine XS.aloadN X105.here hx rfl (hb hby dAA3_29) rfl rfl ?_
      show Steps p.tables e below (T105.setTop (mkF m 30 #[.val (.ref a1), .val (.int ii), .val (.int (2 : Int32)), .val (.int (3 : Int32)), .val (.int (2 : Int32))] [(.ref a1)])) _
      refine st115 _ ?_
      show Steps p.tables e below (T115.setTop (mkF m 33 #[.val (.ref a1), .val (.int ii), .val (.int (2 : Int32)), .val (.int (3 : Int32)), .val (.int (2 : Int32))] [(.ref b)])) _
      refine XS.iload X115.here hx rfl (hb hby dAA3_33) rfl ?_
      show Steps p.tables e below (T115.setTop (mkF m 35 #[.val (.ref a1), .val (.int ii), .val (.int (2 : Int32)), .val (.int (3 : Int32)), .val (.int (2 : Int32))] [(.int (2 : Int32)), (.ref b)])) _
      refine X115.iaload hx (j := (2 : Int32)) (v := (.int x2)) (by rw [e115]; exact Ar116.1) (State.isArrayOf_alike hZ.alike Ar116.2.1) Ar116.2.2 (inb_of S116 ⟨by decide, by decide⟩) (H116 2 (by rw [S116]; decide)) (g := (mkF m 35 #[.val (.ref a1), .val (.int ii), .val (.int (2 : Int32)), .val (.int (3 : Int32)), .val (.int (2 : Int32))] [(.int (2 : Int32)), (.ref b)])) rfl rfl (hb hby dAA3_35) _ ?_
      show Steps p.tables e below (T115.setTop (mkF m 36 #[.val (.ref a1), .val (.int ii), .val (.int (2 : Int32)), .val (.int (3 : Int32)), .val (.int (2 : Int32))] [(.int x2)])) _
      refine XS.iload X115.here hx rfl (hb hby dAA3_36) rfl ?_
      show Steps p.tables e below (T115.setTop (mkF m 38 #[.val (.ref a1), .val (.int ii), .val (.int (2 : Int32)), .val (.int (3 : Int32)), .val (.int (2 : Int32))] [(.int (2 : Int32)), (.int x2)])) _
      refine XS.isub X115.here hx rfl (hb hby dAA3_38) rfl ?_
      show Steps p.tables e below (T115.setTop (mkF m 39 #[.val (.ref a1), .val (.int ii), .val (.int (2 : Int32)), .val (.int (3 : Int32)), .val (.int (2 : Int32))] [(.int (x2 - (2 : Int32)))])) _
      refine XS.iloadN X115.here hx rfl (hb hby dAA3_39) rfl ?_
      exact kt)
    by_cases hc40_118 : ii < (x2 - (2 : Int32))
    · have P119 : ∀ t, Steps p.tables e below (T115.setTop (mkF m 60 #[.val (.ref a1), .val (.int ii), .val (.int (2 : Int32)), .val (.int (2 : Int32)), .val (.int (2 : Int32))] [(.int (ii + (2 : Int32)))])) t → Steps p.tables e below (s₁.setTop (entryFrame m #[(.ref a1), (.int ii)] 5)) t := fun t kt => P117 t (by
        show Steps p.tables e below (T115.setTop (mkF m 40 #[.val (.ref a1), .val (.int ii), .val (.int (2 : Int32)), .val (.int (3 : Int32)), .val (.int (2 : Int32))] [(.int ii), (.int (x2 - (2 : Int32)))])) _
        refine XS.icmpYes X115.here hx rfl (pc0 := 40) (pc' := 51) rfl (hb hby dAA3_40) rfl (tlt hc40_118).2.2.1 (by decide) (by decide) ?_
        show Steps p.tables e below (T115.setTop (mkF m 51 #[.val (.ref a1), .val (.int ii), .val (.int (2 : Int32)), .val (.int (3 : Int32)), .val (.int (2 : Int32))] [])) _
        refine XS.iload X115.here hx rfl (hb hby dAA3_51) rfl ?_
        show Steps p.tables e below (T115.setTop (mkF m 53 #[.val (.ref a1), .val (.int ii), .val (.int (2 : Int32)), .val (.int (3 : Int32)), .val (.int (2 : Int32))] [(.int (2 : Int32))])) _
        refine XS.istoreN X115.here hx rfl (hb hby dAA3_53) rfl (l' := #[.val (.ref a1), .val (.int ii), .val (.int (2 : Int32)), .val (.int (2 : Int32)), .val (.int (2 : Int32))]) rfl ?_
        show Steps p.tables e below (T115.setTop (mkF m 54 #[.val (.ref a1), .val (.int ii), .val (.int (2 : Int32)), .val (.int (2 : Int32)), .val (.int (2 : Int32))] [])) _
        refine XS.goto X115.here hx rfl (pc0 := 54) (pc' := 17) rfl (hb hby dAA3_54) (by decide) (by decide) ?_
        show Steps p.tables e below (T115.setTop (mkF m 17 #[.val (.ref a1), .val (.int ii), .val (.int (2 : Int32)), .val (.int (2 : Int32)), .val (.int (2 : Int32))] [])) _
        refine XS.iloadN X115.here hx rfl (hb hby dAA3_17) rfl ?_
        show Steps p.tables e below (T115.setTop (mkF m 18 #[.val (.ref a1), .val (.int ii), .val (.int (2 : Int32)), .val (.int (2 : Int32)), .val (.int (2 : Int32))] [(.int (2 : Int32))])) _
        refine XS.iloadN X115.here hx rfl (hb hby dAA3_18) rfl ?_
        show Steps p.tables e below (T115.setTop (mkF m 19 #[.val (.ref a1), .val (.int ii), .val (.int (2 : Int32)), .val (.int (2 : Int32)), .val (.int (2 : Int32))] [(.int (2 : Int32)), (.int (2 : Int32))])) _
        refine XS.icmpYes X115.here hx rfl (pc0 := 19) (pc' := 57) rfl (hb hby dAA3_19) rfl (flt ((by decide) : ¬ ((2 : Int32) < (2 : Int32)))).2.1 (by decide) (by decide) ?_
        show Steps p.tables e below (T115.setTop (mkF m 57 #[.val (.ref a1), .val (.int ii), .val (.int (2 : Int32)), .val (.int (2 : Int32)), .val (.int (2 : Int32))] [])) _
        refine XS.iloadN X115.here hx rfl (hb hby dAA3_57) rfl ?_
        show Steps p.tables e below (T115.setTop (mkF m 58 #[.val (.ref a1), .val (.int ii), .val (.int (2 : Int32)), .val (.int (2 : Int32)), .val (.int (2 : Int32))] [(.int ii)])) _
        refine XS.iloadN X115.here hx rfl (hb hby dAA3_58) rfl ?_
        show Steps p.tables e below (T115.setTop (mkF m 59 #[.val (.ref a1), .val (.int ii), .val (.int (2 : Int32)), .val (.int (2 : Int32)), .val (.int (2 : Int32))] [(.int (2 : Int32)), (.int ii)])) _
        refine XS.iadd X115.here hx rfl (hb hby dAA3_59) rfl ?_
        exact kt)
      obtain ⟨fs, hr, hrun, hended, hW, hsame⟩ := X115.leave (v := some (.int (ii + (2 : Int32)))) (fun h => by rw [Bd.returns] at h; cases h) (hlocks := hlk)
      refine ⟨_, _, P119 _ ?_, hrun, hended, _, _, rfl, ?_, ⟨_, rfl⟩, hW, hsame.mono (by decide) (by decide)⟩
      · show Steps p.tables e below (T115.setTop (mkF m 60 #[.val (.ref a1), .val (.int ii), .val (.int (2 : Int32)), .val (.int (2 : Int32)), .val (.int (2 : Int32))] [(.int (ii + (2 : Int32)))])) _
        exact retI X115 hx Bd.returns (hb hby dAA3_60) hr
      · show QP _ h0 _ T115.heap _
        have ev : fAA3 ii x0 x1 x2 = (ii + (2 : Int32)) := by unfold fAA3; rw [if_neg hc40_108, if_pos hc40_118]
        rw [ev]
        exact ⟨rfl, rfl, e115⟩
    · have P120 : ∀ t, Steps p.tables e below (T115.setTop (mkF m 60 #[.val (.ref a1), .val (.int ii), .val (.int (3 : Int32)), .val (.int (3 : Int32)), .val (.int (2 : Int32))] [(.int (ii + (3 : Int32)))])) t → Steps p.tables e below (s₁.setTop (entryFrame m #[(.ref a1), (.int ii)] 5)) t := fun t kt => P117 t (by
        show Steps p.tables e below (T115.setTop (mkF m 40 #[.val (.ref a1), .val (.int ii), .val (.int (2 : Int32)), .val (.int (3 : Int32)), .val (.int (2 : Int32))] [(.int ii), (.int (x2 - (2 : Int32)))])) _
        refine XS.icmpNo X115.here hx rfl (hb hby dAA3_40) rfl (flt hc40_118).2.2.1 ?_
        show Steps p.tables e below (T115.setTop (mkF m 43 #[.val (.ref a1), .val (.int ii), .val (.int (2 : Int32)), .val (.int (3 : Int32)), .val (.int (2 : Int32))] [])) _
        refine XS.iload X115.here hx rfl (hb hby dAA3_43) rfl ?_
        show Steps p.tables e below (T115.setTop (mkF m 45 #[.val (.ref a1), .val (.int ii), .val (.int (2 : Int32)), .val (.int (3 : Int32)), .val (.int (2 : Int32))] [(.int (2 : Int32))])) _
        refine XS.iconst X115.here hx rfl (hb hby dAA3_45) ?_
        show Steps p.tables e below (T115.setTop (mkF m 46 #[.val (.ref a1), .val (.int ii), .val (.int (2 : Int32)), .val (.int (3 : Int32)), .val (.int (2 : Int32))] [(.int (1 : Int32)), (.int (2 : Int32))])) _
        refine XS.iadd X115.here hx rfl (hb hby dAA3_46) rfl ?_
        show Steps p.tables e below (T115.setTop (mkF m 47 #[.val (.ref a1), .val (.int ii), .val (.int (2 : Int32)), .val (.int (3 : Int32)), .val (.int (2 : Int32))] [(.int (3 : Int32))])) _
        refine XS.istoreN X115.here hx rfl (hb hby dAA3_47) rfl (l' := #[.val (.ref a1), .val (.int ii), .val (.int (3 : Int32)), .val (.int (3 : Int32)), .val (.int (2 : Int32))]) rfl ?_
        show Steps p.tables e below (T115.setTop (mkF m 48 #[.val (.ref a1), .val (.int ii), .val (.int (3 : Int32)), .val (.int (3 : Int32)), .val (.int (2 : Int32))] [])) _
        refine XS.goto X115.here hx rfl (pc0 := 48) (pc' := 54) rfl (hb hby dAA3_48) (by decide) (by decide) ?_
        show Steps p.tables e below (T115.setTop (mkF m 54 #[.val (.ref a1), .val (.int ii), .val (.int (3 : Int32)), .val (.int (3 : Int32)), .val (.int (2 : Int32))] [])) _
        refine XS.goto X115.here hx rfl (pc0 := 54) (pc' := 17) rfl (hb hby dAA3_54) (by decide) (by decide) ?_
        show Steps p.tables e below (T115.setTop (mkF m 17 #[.val (.ref a1), .val (.int ii), .val (.int (3 : Int32)), .val (.int (3 : Int32)), .val (.int (2 : Int32))] [])) _
        refine XS.iloadN X115.here hx rfl (hb hby dAA3_17) rfl ?_
        show Steps p.tables e below (T115.setTop (mkF m 18 #[.val (.ref a1), .val (.int ii), .val (.int (3 : Int32)), .val (.int (3 : Int32)), .val (.int (2 : Int32))] [(.int (3 : Int32))])) _
        refine XS.iloadN X115.here hx rfl (hb hby dAA3_18) rfl ?_
        show Steps p.tables e below (T115.setTop (mkF m 19 #[.val (.ref a1), .val (.int ii), .val (.int (3 : Int32)), .val (.int (3 : Int32)), .val (.int (2 : Int32))] [(.int (3 : Int32)), (.int (3 : Int32))])) _
        refine XS.icmpYes X115.here hx rfl (pc0 := 19) (pc' := 57) rfl (hb hby dAA3_19) rfl (flt ((by decide) : ¬ ((3 : Int32) < (3 : Int32)))).2.1 (by decide) (by decide) ?_
        show Steps p.tables e below (T115.setTop (mkF m 57 #[.val (.ref a1), .val (.int ii), .val (.int (3 : Int32)), .val (.int (3 : Int32)), .val (.int (2 : Int32))] [])) _
        refine XS.iloadN X115.here hx rfl (hb hby dAA3_57) rfl ?_
        show Steps p.tables e below (T115.setTop (mkF m 58 #[.val (.ref a1), .val (.int ii), .val (.int (3 : Int32)), .val (.int (3 : Int32)), .val (.int (2 : Int32))] [(.int ii)])) _
        refine XS.iloadN X115.here hx rfl (hb hby dAA3_58) rfl ?_
        show Steps p.tables e below (T115.setTop (mkF m 59 #[.val (.ref a1), .val (.int ii), .val (.int (3 : Int32)), .val (.int (3 : Int32)), .val (.int (2 : Int32))] [(.int (3 : Int32)), (.int ii)])) _
        refine XS.iadd X115.here hx rfl (hb hby dAA3_59) rfl ?_
        exact kt)
      obtain ⟨fs, hr, hrun, hended, hW, hsame⟩ := X115.leave (v := some (.int (ii + (3 : Int32)))) (fun h => by rw [Bd.returns] at h; cases h) (hlocks := hlk)
      refine ⟨_, _, P120 _ ?_, hrun, hended, _, _, rfl, ?_, ⟨_, rfl⟩, hW, hsame.mono (by decide) (by decide)⟩
      · show Steps p.tables e below (T115.setTop (mkF m 60 #[.val (.ref a1), .val (.int ii), .val (.int (3 : Int32)), .val (.int (3 : Int32)), .val (.int (2 : Int32))] [(.int (ii + (3 : Int32)))])) _
        exact retI X115 hx Bd.returns (hb hby dAA3_60) hr
      · show QP _ h0 _ T115.heap _
        have ev : fAA3 ii x0 x1 x2 = (ii + (3 : Int32)) := by unfold fAA3; rw [if_neg hc40_108, if_neg hc40_118]
        rw [ev]
        exact ⟨rfl, rfl, e115⟩
theorem own_and3 (r x : Int32) (h : r = (x &&& (3 : Int32))) : r = (0 : Int32) ∨ r = (1 : Int32) ∨ r = (2 : Int32) ∨ r = (3 : Int32) := by
  have h1 := c_mask x (3 : Int32) 2 (by decide) (by decide)
  rw [← h] at h1
  have h3 : r.toInt = 0 ∨ r.toInt = 1 ∨ r.toInt = 2 ∨ r.toInt = 3 := by omega
  rcases h3 with q | q | q | q
  · exact Or.inl (own_eq _ 0 rfl q)
  · exact Or.inr (Or.inl (own_eq _ 1 rfl q))
  · exact Or.inr (Or.inr (Or.inl (own_eq _ 2 rfl q)))
  · exact Or.inr (Or.inr (Or.inr (own_eq _ 3 rfl q)))
theorem own_add (a b : Int32) (h1 : -2147483648 ≤ a.toInt + b.toInt) (h2 : a.toInt + b.toInt < 2147483648) : (a + b).toInt = a.toInt + b.toInt := by
  have := c_iadd a b; have := rng32 (a + b); omega
theorem own_sub (a b : Int32) (h1 : -2147483648 ≤ a.toInt - b.toInt) (h2 : a.toInt - b.toInt < 2147483648) : (a - b).toInt = a.toInt - b.toInt := by
  have := c_isub a b; have := rng32 (a - b); omega
theorem own_l0 : (0 : Int32).toInt = 0 := rfl
theorem own_l1 : (1 : Int32).toInt = 1 := rfl
theorem own_l2 : (2 : Int32).toInt = 2 := rfl
theorem own_l3 : (3 : Int32).toInt = 3 := rfl
theorem own_lm1 : (-1 : Int32).toInt = -1 := rfl
theorem own_mx (a b : Int32) : (mxI a b).toInt = max a.toInt b.toInt := by
  unfold mxI; split
  · rename_i h; rw [Int32.lt_iff_toInt_lt] at h; omega
  · rename_i h; rw [Int32.lt_iff_toInt_lt] at h; omega
theorem own_u (d0 d1 d2 x0 x1 x2 : Int32) (h0 : x0 = (d0 &&& (255 : Int32))) (h1 : x1 = ((x0 + (1 : Int32)) + (d1 &&& (255 : Int32)))) (h2 : x2 = ((x1 + (1 : Int32)) + (d2 &&& (255 : Int32)))) : 0 ≤ x0.toInt ∧ x0.toInt < x1.toInt ∧ x1.toInt < x2.toInt ∧ x2.toInt ≤ 800 := by
  have a0 := c_mask d0 (255 : Int32) 8 (by decide) (by decide)
  have a1 := c_mask d1 (255 : Int32) 8 (by decide) (by decide)
  have a2 := c_mask d2 (255 : Int32) 8 (by decide) (by decide)
  rw [← h0] at a0
  have b1 := own_add x0 1 (by rw [own_l1]; omega) (by rw [own_l1]; omega)
  have b2 := own_add (x0 + 1) (d1 &&& (255 : Int32)) (by rw [b1, own_l1]; omega) (by rw [b1, own_l1]; omega)
  rw [← h1, b1, own_l1] at b2
  have b3 := own_add x1 1 (by rw [own_l1]; omega) (by rw [own_l1]; omega)
  have b4 := own_add (x1 + 1) (d2 &&& (255 : Int32)) (by rw [b3, own_l1]; omega) (by rw [b3, own_l1]; omega)
  rw [← h2, b3, own_l1] at b4
  omega
theorem own_p (last ex pp : Int32) (hl : -1 ≤ last.toInt ∧ last.toInt ≤ 800) (h : pp = mxI (1 : Int32) ((last + (1 : Int32)) + (ex &&& (255 : Int32)))) : 1 ≤ pp.toInt ∧ last.toInt < pp.toInt ∧ pp.toInt ≤ 1100 := by
  have a0 := c_mask ex (255 : Int32) 8 (by decide) (by decide)
  have b1 := own_add last 1 (by rw [own_l1]; omega) (by rw [own_l1]; omega)
  have b2 := own_add (last + 1) (ex &&& (255 : Int32)) (by rw [b1, own_l1]; omega) (by rw [b1, own_l1]; omega)
  have b3 := own_mx (1 : Int32) ((last + (1 : Int32)) + (ex &&& (255 : Int32)))
  rw [← h, b2, b1, own_l1] at b3
  omega
theorem own_i (x c ii : Int32) (hc : (0 : Int32) < c) (h : ii = ((x &&& (2147483647 : Int32)) - ((x &&& (2147483647 : Int32)) / c) * c)) : 0 ≤ ii.toInt ∧ ii.toInt < c.toInt := by
  have a0 := c_mask x (2147483647 : Int32) 31 (by decide) (by decide)
  have hc' := Int32.lt_iff_toInt_lt.mp hc
  rw [own_l0] at hc'
  have h2 := own_irem (x &&& (2147483647 : Int32)) c c.toInt rfl hc' (by omega)
  rw [← h] at h2
  have h7 := Int.emod_nonneg (x &&& (2147483647 : Int32)).toInt (by omega : c.toInt ≠ 0)
  have h8 := Int.emod_lt_of_pos (x &&& (2147483647 : Int32)).toInt hc'
  omega
theorem own_nz (c : Int32) (hc : (0 : Int32) < c) : c ≠ 0 := fun q => by rw [q] at hc; exact absurd hc (by decide)
theorem own_aa0 (ii : Int32) (b0 : 0 ≤ ii.toInt) (b1 : ii.toInt ≤ 2000)   : fAA0 ii = ii := by
  have a0 := own_add ii (0 : Int32) (by rw [own_l0]; omega) (by rw [own_l0]; omega)
  have a1 := own_add ii (1 : Int32) (by rw [own_l1]; omega) (by rw [own_l1]; omega)
  have a2 := own_add ii (2 : Int32) (by rw [own_l2]; omega) (by rw [own_l2]; omega)
  have a3 := own_add ii (3 : Int32) (by rw [own_l3]; omega) (by rw [own_l3]; omega)
  have a4 := own_add (ii + (1 : Int32)) (1 : Int32) (by rw [a1, own_l1]; omega) (by rw [a1, own_l1]; omega)
  have a5 := own_add (ii + (1 : Int32) + (1 : Int32)) (1 : Int32) (by rw [a4, a1, own_l1]; omega) (by rw [a4, a1, own_l1]; omega)
  simp only [own_l0, own_l1, own_l2, own_l3] at a0 a1 a2 a3 a4 a5
  unfold fAA0
  apply Int32.toInt_inj.mp
  try simp only [Int32.lt_iff_toInt_lt]
  (repeat' split) <;> omega
theorem own_aa1 (ii x0 r1 : Int32) (b0 : 0 ≤ ii.toInt) (b1 : ii.toInt ≤ 2000) (c0 : 0 ≤ x0.toInt) (c9 : x0.toInt ≤ 2000) (hr1 : r1 = (if ii < x0 then ii else (ii + (1 : Int32)))) : fAA1 ii x0 = r1 := by
  have a0 := own_add ii (0 : Int32) (by rw [own_l0]; omega) (by rw [own_l0]; omega)
  have a1 := own_add ii (1 : Int32) (by rw [own_l1]; omega) (by rw [own_l1]; omega)
  have a2 := own_add ii (2 : Int32) (by rw [own_l2]; omega) (by rw [own_l2]; omega)
  have a3 := own_add ii (3 : Int32) (by rw [own_l3]; omega) (by rw [own_l3]; omega)
  have a4 := own_add (ii + (1 : Int32)) (1 : Int32) (by rw [a1, own_l1]; omega) (by rw [a1, own_l1]; omega)
  have a5 := own_add (ii + (1 : Int32) + (1 : Int32)) (1 : Int32) (by rw [a4, a1, own_l1]; omega) (by rw [a4, a1, own_l1]; omega)
  have s0 := own_sub x0 (0 : Int32) (by rw [own_l0]; omega) (by rw [own_l0]; omega)
  simp only [own_l0, own_l1, own_l2, own_l3] at a0 a1 a2 a3 a4 a5 s0
  subst hr1
  unfold fAA1
  apply Int32.toInt_inj.mp
  try simp only [Int32.lt_iff_toInt_lt]
  (repeat' split) <;> omega
theorem own_aa2 (ii x0 x1 r1 r2 : Int32) (b0 : 0 ≤ ii.toInt) (b1 : ii.toInt ≤ 2000) (c0 : 0 ≤ x0.toInt) (c9 : x1.toInt ≤ 2000) (c1 : x0.toInt < x1.toInt) (hr1 : r1 = (if ii < x0 then ii else (ii + (1 : Int32)))) (hr2 : r2 = (if r1 < x1 then r1 else (r1 + (1 : Int32)))) : fAA2 ii x0 x1 = r2 := by
  have a0 := own_add ii (0 : Int32) (by rw [own_l0]; omega) (by rw [own_l0]; omega)
  have a1 := own_add ii (1 : Int32) (by rw [own_l1]; omega) (by rw [own_l1]; omega)
  have a2 := own_add ii (2 : Int32) (by rw [own_l2]; omega) (by rw [own_l2]; omega)
  have a3 := own_add ii (3 : Int32) (by rw [own_l3]; omega) (by rw [own_l3]; omega)
  have a4 := own_add (ii + (1 : Int32)) (1 : Int32) (by rw [a1, own_l1]; omega) (by rw [a1, own_l1]; omega)
  have a5 := own_add (ii + (1 : Int32) + (1 : Int32)) (1 : Int32) (by rw [a4, a1, own_l1]; omega) (by rw [a4, a1, own_l1]; omega)
  have s0 := own_sub x0 (0 : Int32) (by rw [own_l0]; omega) (by rw [own_l0]; omega)
  have s1 := own_sub x1 (1 : Int32) (by rw [own_l1]; omega) (by rw [own_l1]; omega)
  simp only [own_l0, own_l1, own_l2, own_l3] at a0 a1 a2 a3 a4 a5 s0 s1
  subst hr2 hr1
  unfold fAA2
  apply Int32.toInt_inj.mp
  try simp only [Int32.lt_iff_toInt_lt]
  (repeat' split) <;> omega
theorem own_aa3 (ii x0 x1 x2 r1 r2 r3 : Int32) (b0 : 0 ≤ ii.toInt) (b1 : ii.toInt ≤ 2000) (c0 : 0 ≤ x0.toInt) (c9 : x2.toInt ≤ 2000) (c1 : x0.toInt < x1.toInt) (c2 : x1.toInt < x2.toInt) (hr1 : r1 = (if ii < x0 then ii else (ii + (1 : Int32)))) (hr2 : r2 = (if r1 < x1 then r1 else (r1 + (1 : Int32)))) (hr3 : r3 = (if r2 < x2 then r2 else (r2 + (1 : Int32)))) : fAA3 ii x0 x1 x2 = r3 := by
  have a0 := own_add ii (0 : Int32) (by rw [own_l0]; omega) (by rw [own_l0]; omega)
  have a1 := own_add ii (1 : Int32) (by rw [own_l1]; omega) (by rw [own_l1]; omega)
  have a2 := own_add ii (2 : Int32) (by rw [own_l2]; omega) (by rw [own_l2]; omega)
  have a3 := own_add ii (3 : Int32) (by rw [own_l3]; omega) (by rw [own_l3]; omega)
  have a4 := own_add (ii + (1 : Int32)) (1 : Int32) (by rw [a1, own_l1]; omega) (by rw [a1, own_l1]; omega)
  have a5 := own_add (ii + (1 : Int32) + (1 : Int32)) (1 : Int32) (by rw [a4, a1, own_l1]; omega) (by rw [a4, a1, own_l1]; omega)
  have s0 := own_sub x0 (0 : Int32) (by rw [own_l0]; omega) (by rw [own_l0]; omega)
  have s1 := own_sub x1 (1 : Int32) (by rw [own_l1]; omega) (by rw [own_l1]; omega)
  have s2 := own_sub x2 (2 : Int32) (by rw [own_l2]; omega) (by rw [own_l2]; omega)
  simp only [own_l0, own_l1, own_l2, own_l3] at a0 a1 a2 a3 a4 a5 s0 s1 s2
  subst hr3 hr2 hr1
  unfold fAA3
  apply Int32.toInt_inj.mp
  try simp only [Int32.lt_iff_toInt_lt]
  (repeat' split) <;> omega
theorem ef_0 (m : MethodId) (x0 : Int32) (x1 : Int32) (x2 : Int32) (x3 : Int32) (x4 : Int32) (x5 : Int32) : entryFrame m #[(.int x0), (.int x1), (.int x2), (.int x3), (.int x4), (.int x5)] maxLocals = mkF m 0 #[.val (.int x0), .val (.int x1), .val (.int x2), .val (.int x3), .val (.int x4), .val (.int x5), .unset, .unset, .unset, .unset, .unset, .unset, .unset, .unset, .unset, .unset, .unset] [] := by first | (simp [entryFrame, mkF, argsToLocals, Value.category, maxLocals]; done) | rfl
set_option maxRecDepth 65536 in
set_option maxHeartbeats 40000000 in
theorem rm0 (l : Launch) (Z : State) (a0 : Array Value) (hw : ∀ d ∈ tables_1, d.before a0 Z = true) (ws : List Jvm.Cond) (p1 p2 p3 p4 p5 p6 : Int32) (h0 : Heap) (n0 : Nat) (Z0 : n0 ≤ h0.size) :
    MetFree l x (head1 (Jvm.Cond.code x code maxLocals ret :: ws) room_1) (fun a U => a = #[(.int p1), (.int p2), (.int p3), (.int p4), (.int p5), (.int p6)] ∧ Z.Warmed39 U.vm ∧ U.heap = h0) (fun _ _ _ _ _ => True) (fun _ U o U' => ∃ v L, o = .returned v ∧ Q0 n0 v U'.heap L ∧ ReturnedEndW U o U' L room_1.cells room_1.slots) := by
  refine MetFree.of_bodySF (plainFor_of_name (by first | (simp [plainName, overriddenIn]; done) | decide +kernel)) hisR ?_
  intro p e s m args below meth c s₁ Bd hml0 hP hK
  obtain ⟨rfl, hZ, hh⟩ := hP
  have hx := Bd.exec
  have hby := Bd.bytes
  have hml : c.maxLocals = 17 := hml0
  have hown : s.vm.findClass "com/example/allot/allot/partition/TopicAvailableAtPinLaw" = some m.cls := findClass_of_methodNamed Bd.named
  have hnm := (name_of_methodNamed Bd.named Bd.method).1
  have hlk : meth.locks = false := BodyLoose.notSynchronized Bd
  have X0 : Stand p l e room_1 (s.setVm s.vm) m #[(.int p1), (.int p2), (.int p3), (.int p4), (.int p5), (.int p6)] below meth c s₁ [] 0 0 := Stand.of_body Bd
  have e0 : s₁.heap = h0 := by rw [← hh, Bd.state]; rfl
  have P0 : ∀ t, Steps p.tables e below (s₁.setTop (mkF m 0 #[.val (.int p1), .val (.int p2), .val (.int p3), .val (.int p4), .val (.int p5), .val (.int p6), .unset, .unset, .unset, .unset, .unset, .unset, .unset, .unset, .unset, .unset, .unset] [])) t → Steps p.tables e below (s₁.setTop (entryFrame m #[(.int p1), (.int p2), (.int p3), (.int p4), (.int p5), (.int p6)] maxLocals)) t := fun t kt => castTop (ef_0 m p1 p2 p3 p4 p5 p6) kt
  have N0 := Fr.nil n0
  have hS0 : s.Since s.vm 0 := State.WarmedH.since (State.WarmedH.refl s) 0
  have hk0 : 0 ≤ h0.size := Nat.zero_le _
  have P101 : ∀ t, Steps p.tables e below (s₁.setTop (mkF m 12 #[.val (.int p1), .val (.int p2), .val (.int p3), .val (.int p4), .val (.int p5), .val (.int p6), .val (.int (p1 &&& (3 : Int32))), .val (.int (p2 &&& (255 : Int32))), .unset, .unset, .unset, .unset, .unset, .unset, .unset, .unset, .unset] [])) t → Steps p.tables e below (s₁.setTop (entryFrame m #[(.int p1), (.int p2), (.int p3), (.int p4), (.int p5), (.int p6)] maxLocals)) t := fun t kt => P0 t (by
    show Steps p.tables e below (s₁.setTop (mkF m 0 #[.val (.int p1), .val (.int p2), .val (.int p3), .val (.int p4), .val (.int p5), .val (.int p6), .unset, .unset, .unset, .unset, .unset, .unset, .unset, .unset, .unset, .unset, .unset] [])) _
    refine XS.iloadN X0.here hx rfl (hb hby at_0) rfl ?_
    show Steps p.tables e below (s₁.setTop (mkF m 1 #[.val (.int p1), .val (.int p2), .val (.int p3), .val (.int p4), .val (.int p5), .val (.int p6), .unset, .unset, .unset, .unset, .unset, .unset, .unset, .unset, .unset, .unset, .unset] [(.int p1)])) _
    refine XS.iconst X0.here hx rfl (hb hby at_1) ?_
    show Steps p.tables e below (s₁.setTop (mkF m 2 #[.val (.int p1), .val (.int p2), .val (.int p3), .val (.int p4), .val (.int p5), .val (.int p6), .unset, .unset, .unset, .unset, .unset, .unset, .unset, .unset, .unset, .unset, .unset] [(.int (3 : Int32)), (.int p1)])) _
    refine XS.iand X0.here hx rfl (hb hby at_2) rfl ?_
    show Steps p.tables e below (s₁.setTop (mkF m 3 #[.val (.int p1), .val (.int p2), .val (.int p3), .val (.int p4), .val (.int p5), .val (.int p6), .unset, .unset, .unset, .unset, .unset, .unset, .unset, .unset, .unset, .unset, .unset] [(.int (p1 &&& (3 : Int32)))])) _
    refine XS.istore X0.here hx rfl (hb hby at_3) rfl (l' := #[.val (.int p1), .val (.int p2), .val (.int p3), .val (.int p4), .val (.int p5), .val (.int p6), .val (.int (p1 &&& (3 : Int32))), .unset, .unset, .unset, .unset, .unset, .unset, .unset, .unset, .unset, .unset]) rfl ?_
    show Steps p.tables e below (s₁.setTop (mkF m 5 #[.val (.int p1), .val (.int p2), .val (.int p3), .val (.int p4), .val (.int p5), .val (.int p6), .val (.int (p1 &&& (3 : Int32))), .unset, .unset, .unset, .unset, .unset, .unset, .unset, .unset, .unset, .unset] [])) _
    refine XS.iloadN X0.here hx rfl (hb hby at_5) rfl ?_
    show Steps p.tables e below (s₁.setTop (mkF m 6 #[.val (.int p1), .val (.int p2), .val (.int p3), .val (.int p4), .val (.int p5), .val (.int p6), .val (.int (p1 &&& (3 : Int32))), .unset, .unset, .unset, .unset, .unset, .unset, .unset, .unset, .unset, .unset] [(.int p2)])) _
    refine XS.sipush X0.here hx rfl (hb hby at_6) ?_
    show Steps p.tables e below (s₁.setTop (mkF m 9 #[.val (.int p1), .val (.int p2), .val (.int p3), .val (.int p4), .val (.int p5), .val (.int p6), .val (.int (p1 &&& (3 : Int32))), .unset, .unset, .unset, .unset, .unset, .unset, .unset, .unset, .unset, .unset] [(.int (255 : Int32)), (.int p2)])) _
    refine XS.iand X0.here hx rfl (hb hby at_9) rfl ?_
    show Steps p.tables e below (s₁.setTop (mkF m 10 #[.val (.int p1), .val (.int p2), .val (.int p3), .val (.int p4), .val (.int p5), .val (.int p6), .val (.int (p1 &&& (3 : Int32))), .unset, .unset, .unset, .unset, .unset, .unset, .unset, .unset, .unset, .unset] [(.int (p2 &&& (255 : Int32)))])) _
    refine XS.istore X0.here hx rfl (hb hby at_10) rfl (l' := #[.val (.int p1), .val (.int p2), .val (.int p3), .val (.int p4), .val (.int p5), .val (.int p6), .val (.int (p1 &&& (3 : Int32))), .val (.int (p2 &&& (255 : Int32))), .unset, .unset, .unset, .unset, .unset, .unset, .unset, .unset, .unset]) rfl ?_
    exact kt)
  obtain ⟨x0, hx0⟩ : ∃ z : Int32, z = (p2 &&& (255 : Int32)) := ⟨_, rfl⟩
  rw [← hx0] at P101
  have P102 : ∀ t, Steps p.tables e below (s₁.setTop (mkF m 24 #[.val (.int p1), .val (.int p2), .val (.int p3), .val (.int p4), .val (.int p5), .val (.int p6), .val (.int (p1 &&& (3 : Int32))), .val (.int x0), .val (.int ((x0 + (1 : Int32)) + (p3 &&& (255 : Int32)))), .unset, .unset, .unset, .unset, .unset, .unset, .unset, .unset] [])) t → Steps p.tables e below (s₁.setTop (entryFrame m #[(.int p1), (.int p2), (.int p3), (.int p4), (.int p5), (.int p6)] maxLocals)) t := fun t kt => P101 t (by
    show Steps p.tables e below (s₁.setTop (mkF m 12 #[.val (.int p1), .val (.int p2), .val (.int p3), .val (.int p4), .val (.int p5), .val (.int p6), .val (.int (p1 &&& (3 : Int32))), .val (.int x0), .unset, .unset, .unset, .unset, .unset, .unset, .unset, .unset, .unset] [])) _
    refine XS.iload X0.here hx rfl (hb hby at_12) rfl ?_
    show Steps p.tables e below (s₁.setTop (mkF m 14 #[.val (.int p1), .val (.int p2), .val (.int p3), .val (.int p4), .val (.int p5), .val (.int p6), .val (.int (p1 &&& (3 : Int32))), .val (.int x0), .unset, .unset, .unset, .unset, .unset, .unset, .unset, .unset, .unset] [(.int x0)])) _
    refine XS.iconst X0.here hx rfl (hb hby at_14) ?_
    show Steps p.tables e below (s₁.setTop (mkF m 15 #[.val (.int p1), .val (.int p2), .val (.int p3), .val (.int p4), .val (.int p5), .val (.int p6), .val (.int (p1 &&& (3 : Int32))), .val (.int x0), .unset, .unset, .unset, .unset, .unset, .unset, .unset, .unset, .unset] [(.int (1 : Int32)), (.int x0)])) _
    refine XS.iadd X0.here hx rfl (hb hby at_15) rfl ?_
    show Steps p.tables e below (s₁.setTop (mkF m 16 #[.val (.int p1), .val (.int p2), .val (.int p3), .val (.int p4), .val (.int p5), .val (.int p6), .val (.int (p1 &&& (3 : Int32))), .val (.int x0), .unset, .unset, .unset, .unset, .unset, .unset, .unset, .unset, .unset] [(.int (x0 + (1 : Int32)))])) _
    refine XS.iloadN X0.here hx rfl (hb hby at_16) rfl ?_
    show Steps p.tables e below (s₁.setTop (mkF m 17 #[.val (.int p1), .val (.int p2), .val (.int p3), .val (.int p4), .val (.int p5), .val (.int p6), .val (.int (p1 &&& (3 : Int32))), .val (.int x0), .unset, .unset, .unset, .unset, .unset, .unset, .unset, .unset, .unset] [(.int p3), (.int (x0 + (1 : Int32)))])) _
    refine XS.sipush X0.here hx rfl (hb hby at_17) ?_
    show Steps p.tables e below (s₁.setTop (mkF m 20 #[.val (.int p1), .val (.int p2), .val (.int p3), .val (.int p4), .val (.int p5), .val (.int p6), .val (.int (p1 &&& (3 : Int32))), .val (.int x0), .unset, .unset, .unset, .unset, .unset, .unset, .unset, .unset, .unset] [(.int (255 : Int32)), (.int p3), (.int (x0 + (1 : Int32)))])) _
    refine XS.iand X0.here hx rfl (hb hby at_20) rfl ?_
    show Steps p.tables e below (s₁.setTop (mkF m 21 #[.val (.int p1), .val (.int p2), .val (.int p3), .val (.int p4), .val (.int p5), .val (.int p6), .val (.int (p1 &&& (3 : Int32))), .val (.int x0), .unset, .unset, .unset, .unset, .unset, .unset, .unset, .unset, .unset] [(.int (p3 &&& (255 : Int32))), (.int (x0 + (1 : Int32)))])) _
    refine XS.iadd X0.here hx rfl (hb hby at_21) rfl ?_
    show Steps p.tables e below (s₁.setTop (mkF m 22 #[.val (.int p1), .val (.int p2), .val (.int p3), .val (.int p4), .val (.int p5), .val (.int p6), .val (.int (p1 &&& (3 : Int32))), .val (.int x0), .unset, .unset, .unset, .unset, .unset, .unset, .unset, .unset, .unset] [(.int ((x0 + (1 : Int32)) + (p3 &&& (255 : Int32))))])) _
    refine XS.istore X0.here hx rfl (hb hby at_22) rfl (l' := #[.val (.int p1), .val (.int p2), .val (.int p3), .val (.int p4), .val (.int p5), .val (.int p6), .val (.int (p1 &&& (3 : Int32))), .val (.int x0), .val (.int ((x0 + (1 : Int32)) + (p3 &&& (255 : Int32)))), .unset, .unset, .unset, .unset, .unset, .unset, .unset, .unset]) rfl ?_
    exact kt)
  obtain ⟨x1, hx1⟩ : ∃ z : Int32, z = ((x0 + (1 : Int32)) + (p3 &&& (255 : Int32))) := ⟨_, rfl⟩
  rw [← hx1] at P102
  have P103 : ∀ t, Steps p.tables e below (s₁.setTop (mkF m 36 #[.val (.int p1), .val (.int p2), .val (.int p3), .val (.int p4), .val (.int p5), .val (.int p6), .val (.int (p1 &&& (3 : Int32))), .val (.int x0), .val (.int x1), .val (.int ((x1 + (1 : Int32)) + (p4 &&& (255 : Int32)))), .unset, .unset, .unset, .unset, .unset, .unset, .unset] [])) t → Steps p.tables e below (s₁.setTop (entryFrame m #[(.int p1), (.int p2), (.int p3), (.int p4), (.int p5), (.int p6)] maxLocals)) t := fun t kt => P102 t (by
    show Steps p.tables e below (s₁.setTop (mkF m 24 #[.val (.int p1), .val (.int p2), .val (.int p3), .val (.int p4), .val (.int p5), .val (.int p6), .val (.int (p1 &&& (3 : Int32))), .val (.int x0), .val (.int x1), .unset, .unset, .unset, .unset, .unset, .unset, .unset, .unset] [])) _
    refine XS.iload X0.here hx rfl (hb hby at_24) rfl ?_
    show Steps p.tables e below (s₁.setTop (mkF m 26 #[.val (.int p1), .val (.int p2), .val (.int p3), .val (.int p4), .val (.int p5), .val (.int p6), .val (.int (p1 &&& (3 : Int32))), .val (.int x0), .val (.int x1), .unset, .unset, .unset, .unset, .unset, .unset, .unset, .unset] [(.int x1)])) _
    refine XS.iconst X0.here hx rfl (hb hby at_26) ?_
    show Steps p.tables e below (s₁.setTop (mkF m 27 #[.val (.int p1), .val (.int p2), .val (.int p3), .val (.int p4), .val (.int p5), .val (.int p6), .val (.int (p1 &&& (3 : Int32))), .val (.int x0), .val (.int x1), .unset, .unset, .unset, .unset, .unset, .unset, .unset, .unset] [(.int (1 : Int32)), (.int x1)])) _
    refine XS.iadd X0.here hx rfl (hb hby at_27) rfl ?_
    show Steps p.tables e below (s₁.setTop (mkF m 28 #[.val (.int p1), .val (.int p2), .val (.int p3), .val (.int p4), .val (.int p5), .val (.int p6), .val (.int (p1 &&& (3 : Int32))), .val (.int x0), .val (.int x1), .unset, .unset, .unset, .unset, .unset, .unset, .unset, .unset] [(.int (x1 + (1 : Int32)))])) _
    refine XS.iloadN X0.here hx rfl (hb hby at_28) rfl ?_
    show Steps p.tables e below (s₁.setTop (mkF m 29 #[.val (.int p1), .val (.int p2), .val (.int p3), .val (.int p4), .val (.int p5), .val (.int p6), .val (.int (p1 &&& (3 : Int32))), .val (.int x0), .val (.int x1), .unset, .unset, .unset, .unset, .unset, .unset, .unset, .unset] [(.int p4), (.int (x1 + (1 : Int32)))])) _
    refine XS.sipush X0.here hx rfl (hb hby at_29) ?_
    show Steps p.tables e below (s₁.setTop (mkF m 32 #[.val (.int p1), .val (.int p2), .val (.int p3), .val (.int p4), .val (.int p5), .val (.int p6), .val (.int (p1 &&& (3 : Int32))), .val (.int x0), .val (.int x1), .unset, .unset, .unset, .unset, .unset, .unset, .unset, .unset] [(.int (255 : Int32)), (.int p4), (.int (x1 + (1 : Int32)))])) _
    refine XS.iand X0.here hx rfl (hb hby at_32) rfl ?_
    show Steps p.tables e below (s₁.setTop (mkF m 33 #[.val (.int p1), .val (.int p2), .val (.int p3), .val (.int p4), .val (.int p5), .val (.int p6), .val (.int (p1 &&& (3 : Int32))), .val (.int x0), .val (.int x1), .unset, .unset, .unset, .unset, .unset, .unset, .unset, .unset] [(.int (p4 &&& (255 : Int32))), (.int (x1 + (1 : Int32)))])) _
    refine XS.iadd X0.here hx rfl (hb hby at_33) rfl ?_
    show Steps p.tables e below (s₁.setTop (mkF m 34 #[.val (.int p1), .val (.int p2), .val (.int p3), .val (.int p4), .val (.int p5), .val (.int p6), .val (.int (p1 &&& (3 : Int32))), .val (.int x0), .val (.int x1), .unset, .unset, .unset, .unset, .unset, .unset, .unset, .unset] [(.int ((x1 + (1 : Int32)) + (p4 &&& (255 : Int32))))])) _
    refine XS.istore X0.here hx rfl (hb hby at_34) rfl (l' := #[.val (.int p1), .val (.int p2), .val (.int p3), .val (.int p4), .val (.int p5), .val (.int p6), .val (.int (p1 &&& (3 : Int32))), .val (.int x0), .val (.int x1), .val (.int ((x1 + (1 : Int32)) + (p4 &&& (255 : Int32)))), .unset, .unset, .unset, .unset, .unset, .unset, .unset]) rfl ?_
    exact kt)
  obtain ⟨x2, hx2⟩ : ∃ z : Int32, z = ((x1 + (1 : Int32)) + (p4 &&& (255 : Int32))) := ⟨_, rfl⟩
  rw [← hx2] at P103
  obtain ⟨kk, hkk⟩ : ∃ z : Int32, z = (p1 &&& (3 : Int32)) := ⟨_, rfl⟩
  rw [← hkk] at P103
  have hkc := own_and3 kk p1 hkk
  have hu := own_u p2 p3 p4 x0 x1 x2 hx0 hx1 hx2
  have h01 : x0 < x1 := Int32.lt_iff_toInt_lt.mpr hu.2.1
  have h12 : x1 < x2 := Int32.lt_iff_toInt_lt.mpr hu.2.2.1
  have h02 : x0 < x2 := Int32.lt_iff_toInt_lt.mpr (Int.lt_trans hu.2.1 hu.2.2.1)
  rcases hkc with rfl | rfl | rfl | rfl
  · obtain ⟨_, _, ⟨T104, L104, k104, n104⟩, -, X104, ⟨Lc104, hQ104, l104, y104, z104⟩, st104⟩ := Jvm.LawKit.callS X0 hx (y := (⟨"java/lang/Math", "max", "(II)I"⟩ : MethodName)) hown (mvT hZ (hw _ (List.mem_of_getElem? (i := 0) rfl))) (mvT hZ (hw _ (List.mem_of_getElem? (i := 1) rfl))) (mvT hZ (hw _ (List.mem_of_getElem? (i := 2) rfl))) (mvT hZ (hw _ (List.mem_of_getElem? (i := 3) rfl))) (by decide) (backOf (W := 0)  (rmMx l Z a0 hw [] (1 : Int32) ((0 : Int32) + (p5 &&& (255 : Int32))) h0) hZ (hw _ (List.mem_of_getElem? (i := 3) rfl)) (hw _ (List.mem_of_getElem? (i := 2) rfl)) (by decide) (by decide)) (g := (mkF m 83 #[.val (.int p1), .val (.int p2), .val (.int p3), .val (.int p4), .val (.int p5), .val (.int p6), .val (.int (0 : Int32)), .val (.int x0), .val (.int x1), .val (.int x2), .val (.int (-1 : Int32)), .unset, .unset, .unset, .unset, .unset, .unset] [(.int ((0 : Int32) + (p5 &&& (255 : Int32)))), (.int (1 : Int32))])) rfl (by rw [hml]; rfl) (argsL := [(.int (1 : Int32)), (.int ((0 : Int32) + (p5 &&& (255 : Int32))))]) (rest := []) (lenOf pd__II_I rfl) rfl (by show 2 * 0 + _ ≤ _; exact Nat.le_of_eq rfl) (hb hby at_83) (fun _ _ => ⟨rfl, e0, (by decide : 0 + 0 ≤ _), (by decide : 0 + 0 ≤ _)⟩)
    dsimp only [Pt.U, Pt.locs, Pt.cells, Pt.slots] at X104 l104 y104 z104 st104 hQ104
    subst l104 y104 z104
    obtain ⟨rfl, rfl, e104⟩ := hQ104
    have N104 := Fr.app N0 (Fr.nil n0)
    have P105 : ∀ t, Steps p.tables e below (T104.setTop (mkF m 88 #[.val (.int p1), .val (.int p2), .val (.int p3), .val (.int p4), .val (.int p5), .val (.int p6), .val (.int (0 : Int32)), .val (.int x0), .val (.int x1), .val (.int x2), .val (.int (-1 : Int32)), .val (.int (mxI (1 : Int32) ((0 : Int32) + (p5 &&& (255 : Int32))))), .unset, .unset, .unset, .unset, .unset] [])) t → Steps p.tables e below (s₁.setTop (entryFrame m #[(.int p1), (.int p2), (.int p3), (.int p4), (.int p5), (.int p6)] maxLocals)) t := fun t kt => P103 t (by
      show Steps p.tables e below (s₁.setTop (mkF m 36 #[.val (.int p1), .val (.int p2), .val (.int p3), .val (.int p4), .val (.int p5), .val (.int p6), .val (.int (0 : Int32)), .val (.int x0), .val (.int x1), .val (.int x2), .unset, .unset, .unset, .unset, .unset, .unset, .unset] [])) _
      refine XS.iload X0.here hx rfl (hb hby at_36) rfl ?_
      show Steps p.tables e below (s₁.setTop (mkF m 38 #[.val (.int p1), .val (.int p2), .val (.int p3), .val (.int p4), .val (.int p5), .val (.int p6), .val (.int (0 : Int32)), .val (.int x0), .val (.int x1), .val (.int x2), .unset, .unset, .unset, .unset, .unset, .unset, .unset] [(.int (0 : Int32))])) _
      refine XS.ifNo X0.here hx rfl (hb hby at_38) rfl ((if0 _ _).trans (teq ((by decide) : (0 : Int32) = (0 : Int32))).2) ?_
      show Steps p.tables e below (s₁.setTop (mkF m 41 #[.val (.int p1), .val (.int p2), .val (.int p3), .val (.int p4), .val (.int p5), .val (.int p6), .val (.int (0 : Int32)), .val (.int x0), .val (.int x1), .val (.int x2), .unset, .unset, .unset, .unset, .unset, .unset, .unset] [])) _
      refine XS.iconst X0.here hx rfl (hb hby at_41) ?_
      show Steps p.tables e below (s₁.setTop (mkF m 42 #[.val (.int p1), .val (.int p2), .val (.int p3), .val (.int p4), .val (.int p5), .val (.int p6), .val (.int (0 : Int32)), .val (.int x0), .val (.int x1), .val (.int x2), .unset, .unset, .unset, .unset, .unset, .unset, .unset] [(.int (-1 : Int32))])) _
      refine XS.goto X0.here hx rfl (pc0 := 42) (pc' := 69) rfl (hb hby at_42) (by decide) (by decide) ?_
      show Steps p.tables e below (s₁.setTop (mkF m 69 #[.val (.int p1), .val (.int p2), .val (.int p3), .val (.int p4), .val (.int p5), .val (.int p6), .val (.int (0 : Int32)), .val (.int x0), .val (.int x1), .val (.int x2), .unset, .unset, .unset, .unset, .unset, .unset, .unset] [(.int (-1 : Int32))])) _
      refine XS.istore X0.here hx rfl (hb hby at_69) rfl (l' := #[.val (.int p1), .val (.int p2), .val (.int p3), .val (.int p4), .val (.int p5), .val (.int p6), .val (.int (0 : Int32)), .val (.int x0), .val (.int x1), .val (.int x2), .val (.int (-1 : Int32)), .unset, .unset, .unset, .unset, .unset, .unset]) rfl ?_
      show Steps p.tables e below (s₁.setTop (mkF m 71 #[.val (.int p1), .val (.int p2), .val (.int p3), .val (.int p4), .val (.int p5), .val (.int p6), .val (.int (0 : Int32)), .val (.int x0), .val (.int x1), .val (.int x2), .val (.int (-1 : Int32)), .unset, .unset, .unset, .unset, .unset, .unset] [])) _
      refine XS.iconst X0.here hx rfl (hb hby at_71) ?_
      show Steps p.tables e below (s₁.setTop (mkF m 72 #[.val (.int p1), .val (.int p2), .val (.int p3), .val (.int p4), .val (.int p5), .val (.int p6), .val (.int (0 : Int32)), .val (.int x0), .val (.int x1), .val (.int x2), .val (.int (-1 : Int32)), .unset, .unset, .unset, .unset, .unset, .unset] [(.int (1 : Int32))])) _
      refine XS.iload X0.here hx rfl (hb hby at_72) rfl ?_
      show Steps p.tables e below (s₁.setTop (mkF m 74 #[.val (.int p1), .val (.int p2), .val (.int p3), .val (.int p4), .val (.int p5), .val (.int p6), .val (.int (0 : Int32)), .val (.int x0), .val (.int x1), .val (.int x2), .val (.int (-1 : Int32)), .unset, .unset, .unset, .unset, .unset, .unset] [(.int (-1 : Int32)), (.int (1 : Int32))])) _
      refine XS.iconst X0.here hx rfl (hb hby at_74) ?_
      show Steps p.tables e below (s₁.setTop (mkF m 75 #[.val (.int p1), .val (.int p2), .val (.int p3), .val (.int p4), .val (.int p5), .val (.int p6), .val (.int (0 : Int32)), .val (.int x0), .val (.int x1), .val (.int x2), .val (.int (-1 : Int32)), .unset, .unset, .unset, .unset, .unset, .unset] [(.int (1 : Int32)), (.int (-1 : Int32)), (.int (1 : Int32))])) _
      refine XS.iadd X0.here hx rfl (hb hby at_75) rfl ?_
      show Steps p.tables e below (s₁.setTop (mkF m 76 #[.val (.int p1), .val (.int p2), .val (.int p3), .val (.int p4), .val (.int p5), .val (.int p6), .val (.int (0 : Int32)), .val (.int x0), .val (.int x1), .val (.int x2), .val (.int (-1 : Int32)), .unset, .unset, .unset, .unset, .unset, .unset] [(.int (0 : Int32)), (.int (1 : Int32))])) _
      refine XS.iload X0.here hx rfl (hb hby at_76) rfl ?_
      show Steps p.tables e below (s₁.setTop (mkF m 78 #[.val (.int p1), .val (.int p2), .val (.int p3), .val (.int p4), .val (.int p5), .val (.int p6), .val (.int (0 : Int32)), .val (.int x0), .val (.int x1), .val (.int x2), .val (.int (-1 : Int32)), .unset, .unset, .unset, .unset, .unset, .unset] [(.int p5), (.int (0 : Int32)), (.int (1 : Int32))])) _
      refine XS.sipush X0.here hx rfl (hb hby at_78) ?_
      show Steps p.tables e below (s₁.setTop (mkF m 81 #[.val (.int p1), .val (.int p2), .val (.int p3), .val (.int p4), .val (.int p5), .val (.int p6), .val (.int (0 : Int32)), .val (.int x0), .val (.int x1), .val (.int x2), .val (.int (-1 : Int32)), .unset, .unset, .unset, .unset, .unset, .unset] [(.int (255 : Int32)), (.int p5), (.int (0 : Int32)), (.int (1 : Int32))])) _
      refine XS.iand X0.here hx rfl (hb hby at_81) rfl ?_
      show Steps p.tables e below (s₁.setTop (mkF m 82 #[.val (.int p1), .val (.int p2), .val (.int p3), .val (.int p4), .val (.int p5), .val (.int p6), .val (.int (0 : Int32)), .val (.int x0), .val (.int x1), .val (.int x2), .val (.int (-1 : Int32)), .unset, .unset, .unset, .unset, .unset, .unset] [(.int (p5 &&& (255 : Int32))), (.int (0 : Int32)), (.int (1 : Int32))])) _
      refine XS.iadd X0.here hx rfl (hb hby at_82) rfl ?_
      show Steps p.tables e below (s₁.setTop (mkF m 83 #[.val (.int p1), .val (.int p2), .val (.int p3), .val (.int p4), .val (.int p5), .val (.int p6), .val (.int (0 : Int32)), .val (.int x0), .val (.int x1), .val (.int x2), .val (.int (-1 : Int32)), .unset, .unset, .unset, .unset, .unset, .unset] [(.int ((0 : Int32) + (p5 &&& (255 : Int32)))), (.int (1 : Int32))])) _
      refine st104 _ ?_
      show Steps p.tables e below (T104.setTop (mkF m 86 #[.val (.int p1), .val (.int p2), .val (.int p3), .val (.int p4), .val (.int p5), .val (.int p6), .val (.int (0 : Int32)), .val (.int x0), .val (.int x1), .val (.int x2), .val (.int (-1 : Int32)), .unset, .unset, .unset, .unset, .unset, .unset] [(.int (mxI (1 : Int32) ((0 : Int32) + (p5 &&& (255 : Int32)))))])) _
      refine XS.istore X104.here hx rfl (hb hby at_86) rfl (l' := #[.val (.int p1), .val (.int p2), .val (.int p3), .val (.int p4), .val (.int p5), .val (.int p6), .val (.int (0 : Int32)), .val (.int x0), .val (.int x1), .val (.int x2), .val (.int (-1 : Int32)), .val (.int (mxI (1 : Int32) ((0 : Int32) + (p5 &&& (255 : Int32))))), .unset, .unset, .unset, .unset, .unset]) rfl ?_
      exact kt)
    obtain ⟨pp, hpp⟩ : ∃ z : Int32, z = (mxI (1 : Int32) ((0 : Int32) + (p5 &&& (255 : Int32)))) := ⟨_, rfl⟩
    rw [← hpp] at P105
    have hpq := own_p (-1 : Int32) p5 pp (by rw [own_lm1]; omega) hpp
    have hp1 : ¬ pp < (1 : Int32) := own_nlt _ 1 rfl hpq.1
    obtain ⟨T106, h106, k106, X106, e106, E106, A106, B106, st106⟩ := newPE X104 hx hZ (hw _ (List.mem_of_getElem? (i := 4) rfl)) e104 (g := (mkF m 94 #[.val (.int p1), .val (.int p2), .val (.int p3), .val (.int p4), .val (.int p5), .val (.int p6), .val (.int (0 : Int32)), .val (.int x0), .val (.int x1), .val (.int x2), .val (.int (-1 : Int32)), .val (.int pp), .unset, .unset, .unset, .unset, .unset] [(.int (0 : Int32))])) rfl (hb hby at_94) rfl (by decide) (cap := 0) (by decide) (by decide) (by decide) (by decide) (ad := "[I") (by decide)
    obtain ⟨b106, g106⟩ : ∃ z, z = h0.size := ⟨_, rfl⟩
    rw [← g106] at A106 B106 st106
    have gb106 : n0 ≤ b106 := Nat.le_trans Z0 (Nat.le_of_eq g106.symm)
    have sz106 : n0 ≤ h106.size := Nat.le_trans Z0 E106.1
    have hk106 := Nat.le_trans hk0 E106.1
    have V106 : Arv Z h106 b106 k106 .int (0 : Int32) [] (.int (0 : Int32)) := (Arv.new A106 (by decide)).pad (pad_rep [] (.int (0 : Int32)) 0)
    obtain ⟨T107, h107, X107, e107, E107, A107, D107, -, st107⟩ := newO X106 hx hZ hown (hw _ (List.mem_of_getElem? (i := 5) rfl)) (hw _ (List.mem_of_getElem? (i := 6) rfl)) (hw _ (List.mem_of_getElem? (i := 7) rfl)) e106 (g := (mkF m 164 #[.val (.int p1), .val (.int p2), .val (.int p3), .val (.int p4), .val (.int p5), .val (.int p6), .val (.int (0 : Int32)), .val (.int x0), .val (.int x1), .val (.int x2), .val (.int (-1 : Int32)), .val (.int pp), .val (.ref b106), .unset, .unset, .unset, .unset] [])) rfl (hb hby at_164) (by decide) (by decide)
    obtain ⟨b107, g107⟩ : ∃ z, z = h106.size := ⟨_, rfl⟩
    rw [← g107] at A107 D107 st107
    have ne107_b106 : b106 ≠ b107 := Nat.ne_of_lt (Nat.lt_of_lt_of_le B106.lt (Nat.le_of_eq g107.symm))
    have gb107 : n0 ≤ b107 := Nat.le_trans sz106 (Nat.le_of_eq g107.symm)
    have sz107 : n0 ≤ h107.size := Nat.le_trans sz106 E107.1
    have hk107 := Nat.le_trans hk106 E107.1
    have f108 := B106.ext E107
    have f109 := V106.ext E107
    have F107_name : Fld Z h107 b107 "com/example/allot/allot/partition/Topic" "name" "Ljava/lang/String;" .null := D107 (Or.inr (hw _ (List.mem_of_getElem? (i := 57) rfl))) (ty := (.object "java/lang/String")) (by decide)
    have F107_partitions : Fld Z h107 b107 "com/example/allot/allot/partition/Topic" "partitions" "I" (.int (0 : Int32)) := D107 (Or.inr (hw _ (List.mem_of_getElem? (i := 59) rfl))) (ty := .int) (by decide)
    have F107_unavailable : Fld Z h107 b107 "com/example/allot/allot/partition/Topic" "unavailable" "[I" .null := D107 (Or.inr (hw _ (List.mem_of_getElem? (i := 61) rfl))) (ty := (.array .int)) (by decide)
    have P110 : ∀ t, Steps p.tables e below (T107.setTop (mkF m 168 #[.val (.int p1), .val (.int p2), .val (.int p3), .val (.int p4), .val (.int p5), .val (.int p6), .val (.int (0 : Int32)), .val (.int x0), .val (.int x1), .val (.int x2), .val (.int (-1 : Int32)), .val (.int pp), .val (.ref b106), .unset, .unset, .unset, .unset] [(.ref b107), (.ref b107)])) t → Steps p.tables e below (s₁.setTop (entryFrame m #[(.int p1), (.int p2), (.int p3), (.int p4), (.int p5), (.int p6)] maxLocals)) t := fun t kt => P105 t (by
      show Steps p.tables e below (T104.setTop (mkF m 88 #[.val (.int p1), .val (.int p2), .val (.int p3), .val (.int p4), .val (.int p5), .val (.int p6), .val (.int (0 : Int32)), .val (.int x0), .val (.int x1), .val (.int x2), .val (.int (-1 : Int32)), .val (.int pp), .unset, .unset, .unset, .unset, .unset] [])) _
      refine XS.iload X104.here hx rfl (hb hby at_88) rfl ?_
      show Steps p.tables e below (T104.setTop (mkF m 90 #[.val (.int p1), .val (.int p2), .val (.int p3), .val (.int p4), .val (.int p5), .val (.int p6), .val (.int (0 : Int32)), .val (.int x0), .val (.int x1), .val (.int x2), .val (.int (-1 : Int32)), .val (.int pp), .unset, .unset, .unset, .unset, .unset] [(.int (0 : Int32))])) _
      refine XS.ifNo X104.here hx rfl (hb hby at_90) rfl ((if0 _ _).trans (teq ((by decide) : (0 : Int32) = (0 : Int32))).2) ?_
      show Steps p.tables e below (T104.setTop (mkF m 93 #[.val (.int p1), .val (.int p2), .val (.int p3), .val (.int p4), .val (.int p5), .val (.int p6), .val (.int (0 : Int32)), .val (.int x0), .val (.int x1), .val (.int x2), .val (.int (-1 : Int32)), .val (.int pp), .unset, .unset, .unset, .unset, .unset] [])) _
      refine XS.iconst X104.here hx rfl (hb hby at_93) ?_
      show Steps p.tables e below (T104.setTop (mkF m 94 #[.val (.int p1), .val (.int p2), .val (.int p3), .val (.int p4), .val (.int p5), .val (.int p6), .val (.int (0 : Int32)), .val (.int x0), .val (.int x1), .val (.int x2), .val (.int (-1 : Int32)), .val (.int pp), .unset, .unset, .unset, .unset, .unset] [(.int (0 : Int32))])) _
      refine st106 _ ?_
      show Steps p.tables e below (T106.setTop (mkF m 96 #[.val (.int p1), .val (.int p2), .val (.int p3), .val (.int p4), .val (.int p5), .val (.int p6), .val (.int (0 : Int32)), .val (.int x0), .val (.int x1), .val (.int x2), .val (.int (-1 : Int32)), .val (.int pp), .unset, .unset, .unset, .unset, .unset] [(.ref b106)])) _
      refine XS.astore X106.here hx rfl (hb hby at_96) rfl rfl (l' := #[.val (.int p1), .val (.int p2), .val (.int p3), .val (.int p4), .val (.int p5), .val (.int p6), .val (.int (0 : Int32)), .val (.int x0), .val (.int x1), .val (.int x2), .val (.int (-1 : Int32)), .val (.int pp), .val (.ref b106), .unset, .unset, .unset, .unset]) rfl ?_
      show Steps p.tables e below (T106.setTop (mkF m 98 #[.val (.int p1), .val (.int p2), .val (.int p3), .val (.int p4), .val (.int p5), .val (.int p6), .val (.int (0 : Int32)), .val (.int x0), .val (.int x1), .val (.int x2), .val (.int (-1 : Int32)), .val (.int pp), .val (.ref b106), .unset, .unset, .unset, .unset] [])) _
      refine XS.goto X106.here hx rfl (pc0 := 98) (pc' := 164) rfl (hb hby at_98) (by decide) (by decide) ?_
      show Steps p.tables e below (T106.setTop (mkF m 164 #[.val (.int p1), .val (.int p2), .val (.int p3), .val (.int p4), .val (.int p5), .val (.int p6), .val (.int (0 : Int32)), .val (.int x0), .val (.int x1), .val (.int x2), .val (.int (-1 : Int32)), .val (.int pp), .val (.ref b106), .unset, .unset, .unset, .unset] [])) _
      refine st107 _ ?_
      show Steps p.tables e below (T107.setTop (mkF m 167 #[.val (.int p1), .val (.int p2), .val (.int p3), .val (.int p4), .val (.int p5), .val (.int p6), .val (.int (0 : Int32)), .val (.int x0), .val (.int x1), .val (.int x2), .val (.int (-1 : Int32)), .val (.int pp), .val (.ref b106), .unset, .unset, .unset, .unset] [(.ref b107)])) _
      refine XS.dup X107.here hx rfl (hb hby at_167) rfl rfl ?_
      exact kt)
    obtain ⟨sa111, T111, h111, j111, X111, e111, E111, hS111, hk111, hZ, hown, st111⟩ := ldcS X107 hx hZ hown (hw _ (List.mem_of_getElem? (i := 8) rfl)) (own_wS hw) e107 hS0 hk107 (g := (mkF m 168 #[.val (.int p1), .val (.int p2), .val (.int p3), .val (.int p4), .val (.int p5), .val (.int p6), .val (.int (0 : Int32)), .val (.int x0), .val (.int x1), .val (.int x2), .val (.int (-1 : Int32)), .val (.int pp), .val (.ref b106), .unset, .unset, .unset, .unset] [(.ref b107), (.ref b107)])) rfl (hb hby at_168) (n := 4) (by decide) (by decide) (by decide) (by decide)
    have f112 := f108.ext E111
    have f113 := f109.ext E111
    have f114 := A107.ext E111
    have f115 := F107_name.ext E111
    have f116 := F107_partitions.ext E111
    have f117 := F107_unavailable.ext E111
    have sz111 : n0 ≤ h111.size := Nat.le_trans sz107 E111.1
    have P118 : ∀ t, Steps p.tables e below (T111.setTop (mkF m 174 #[.val (.int p1), .val (.int p2), .val (.int p3), .val (.int p4), .val (.int p5), .val (.int p6), .val (.int (0 : Int32)), .val (.int x0), .val (.int x1), .val (.int x2), .val (.int (-1 : Int32)), .val (.int pp), .val (.ref b106), .unset, .unset, .unset, .unset] [(.ref b106), (.int pp), (.ref sa111), (.ref b107), (.ref b107)])) t → Steps p.tables e below (s₁.setTop (entryFrame m #[(.int p1), (.int p2), (.int p3), (.int p4), (.int p5), (.int p6)] maxLocals)) t := fun t kt => P110 t (by
      show Steps p.tables e below (T107.setTop (mkF m 168 #[.val (.int p1), .val (.int p2), .val (.int p3), .val (.int p4), .val (.int p5), .val (.int p6), .val (.int (0 : Int32)), .val (.int x0), .val (.int x1), .val (.int x2), .val (.int (-1 : Int32)), .val (.int pp), .val (.ref b106), .unset, .unset, .unset, .unset] [(.ref b107), (.ref b107)])) _
      refine st111 _ ?_
      show Steps p.tables e below (T111.setTop (mkF m 170 #[.val (.int p1), .val (.int p2), .val (.int p3), .val (.int p4), .val (.int p5), .val (.int p6), .val (.int (0 : Int32)), .val (.int x0), .val (.int x1), .val (.int x2), .val (.int (-1 : Int32)), .val (.int pp), .val (.ref b106), .unset, .unset, .unset, .unset] [(.ref sa111), (.ref b107), (.ref b107)])) _
      refine XS.iload X111.here hx rfl (hb hby at_170) rfl ?_
      show Steps p.tables e below (T111.setTop (mkF m 172 #[.val (.int p1), .val (.int p2), .val (.int p3), .val (.int p4), .val (.int p5), .val (.int p6), .val (.int (0 : Int32)), .val (.int x0), .val (.int x1), .val (.int x2), .val (.int (-1 : Int32)), .val (.int pp), .val (.ref b106), .unset, .unset, .unset, .unset] [(.int pp), (.ref sa111), (.ref b107), (.ref b107)])) _
      refine XS.aload X111.here hx rfl (hb hby at_172) rfl rfl ?_
      exact kt)
    obtain ⟨_, _, ⟨T119, L119, k119, n119⟩, -, X119, hSi119, hgr119, ⟨Lc119, hQ119, l119, y119, z119⟩, st119⟩ := X111.specialBackS hx (y := (⟨"com/example/allot/allot/partition/Topic", "<init>", "(Ljava/lang/String;I[I)V"⟩ : MethodName)) rfl hown (mvT hZ (hw _ (List.mem_of_getElem? (i := 16) rfl))) (mvT hZ (hw _ (List.mem_of_getElem? (i := 17) rfl))) (mvT hZ (hw _ (List.mem_of_getElem? (i := 18) rfl))) (by decide) (backOfS (W := 1)  (rmT0 l Z a0 hw [] b107 sa111 pp b106 k106  h111 n0 sz111 f114 f115 f116 f117 gb107 f112 f113 (Ne.symm ne107_b106) hp1   ) hZ (hw _ (List.mem_of_getElem? (i := 18) rfl)) (hw _ (List.mem_of_getElem? (i := 7) rfl)) (by decide) (by decide)) (g := (mkF m 174 #[.val (.int p1), .val (.int p2), .val (.int p3), .val (.int p4), .val (.int p5), .val (.int p6), .val (.int (0 : Int32)), .val (.int x0), .val (.int x1), .val (.int x2), .val (.int (-1 : Int32)), .val (.int pp), .val (.ref b106), .unset, .unset, .unset, .unset] [(.ref b106), (.int pp), (.ref sa111), (.ref b107), (.ref b107)])) rfl (by rw [hml]; rfl) (Steps.refl _) (a := b107) (argsL := [(.ref sa111), (.int pp), (.ref b106)]) (rest := [(.ref b107)]) (lenOf pd__Ljava_lang_String_I_I_V rfl) rfl (by show 2 * 0 + _ ≤ _; exact Nat.le_of_eq rfl) (hb hby at_174) (fun _ _ => ⟨rfl, e111, (by decide : 4 + 5 ≤ _), (by decide : 11 + 68 ≤ _)⟩)
    dsimp only [Pt.U, Pt.locs, Pt.cells, Pt.slots] at X119 l119 y119 z119 st119 hQ119
    subst l119 y119 z119
    dsimp only [Pt.U, Pt.locs, Pt.cells, Pt.slots] at hSi119 hgr119
    obtain ⟨X119, hS119, hZ, hown⟩ := rebS hS111 (by rw [e111]; exact hk111) X119 hSi119 hgr119 hZ hown
    obtain ⟨rfl, Nq119, K119x, Ex119, Fnx119, Fpx119, bb, kb, Fux119, Vbx119⟩ := hQ119
    have N119 := Fr.app N104 Nq119
    have sz119 : n0 ≤ T119.heap.size := Nat.le_trans sz111 K119x.1
    have P120 : ∀ t, Steps p.tables e below (T119.setTop (mkF m 188 #[.val (.int p1), .val (.int p2), .val (.int p3), .val (.int p4), .val (.int p5), .val (.int p6), .val (.int (0 : Int32)), .val (.int x0), .val (.int x1), .val (.int x2), .val (.int (-1 : Int32)), .val (.int pp), .val (.ref b106), .val (.ref b107), .val (.int (pp - (0 : Int32))), .unset, .unset] [(.int (pp - (0 : Int32)))])) t → Steps p.tables e below (s₁.setTop (entryFrame m #[(.int p1), (.int p2), (.int p3), (.int p4), (.int p5), (.int p6)] maxLocals)) t := fun t kt => P118 t (by
      show Steps p.tables e below (T111.setTop (mkF m 174 #[.val (.int p1), .val (.int p2), .val (.int p3), .val (.int p4), .val (.int p5), .val (.int p6), .val (.int (0 : Int32)), .val (.int x0), .val (.int x1), .val (.int x2), .val (.int (-1 : Int32)), .val (.int pp), .val (.ref b106), .unset, .unset, .unset, .unset] [(.ref b106), (.int pp), (.ref sa111), (.ref b107), (.ref b107)])) _
      refine st119.trans ?_
      show Steps p.tables e below (T119.setTop (mkF m 177 #[.val (.int p1), .val (.int p2), .val (.int p3), .val (.int p4), .val (.int p5), .val (.int p6), .val (.int (0 : Int32)), .val (.int x0), .val (.int x1), .val (.int x2), .val (.int (-1 : Int32)), .val (.int pp), .val (.ref b106), .unset, .unset, .unset, .unset] [(.ref b107)])) _
      refine XS.astore X119.here hx rfl (hb hby at_177) rfl rfl (l' := #[.val (.int p1), .val (.int p2), .val (.int p3), .val (.int p4), .val (.int p5), .val (.int p6), .val (.int (0 : Int32)), .val (.int x0), .val (.int x1), .val (.int x2), .val (.int (-1 : Int32)), .val (.int pp), .val (.ref b106), .val (.ref b107), .unset, .unset, .unset]) rfl ?_
      show Steps p.tables e below (T119.setTop (mkF m 179 #[.val (.int p1), .val (.int p2), .val (.int p3), .val (.int p4), .val (.int p5), .val (.int p6), .val (.int (0 : Int32)), .val (.int x0), .val (.int x1), .val (.int x2), .val (.int (-1 : Int32)), .val (.int pp), .val (.ref b106), .val (.ref b107), .unset, .unset, .unset] [])) _
      refine XS.iload X119.here hx rfl (hb hby at_179) rfl ?_
      show Steps p.tables e below (T119.setTop (mkF m 181 #[.val (.int p1), .val (.int p2), .val (.int p3), .val (.int p4), .val (.int p5), .val (.int p6), .val (.int (0 : Int32)), .val (.int x0), .val (.int x1), .val (.int x2), .val (.int (-1 : Int32)), .val (.int pp), .val (.ref b106), .val (.ref b107), .unset, .unset, .unset] [(.int pp)])) _
      refine XS.iload X119.here hx rfl (hb hby at_181) rfl ?_
      show Steps p.tables e below (T119.setTop (mkF m 183 #[.val (.int p1), .val (.int p2), .val (.int p3), .val (.int p4), .val (.int p5), .val (.int p6), .val (.int (0 : Int32)), .val (.int x0), .val (.int x1), .val (.int x2), .val (.int (-1 : Int32)), .val (.int pp), .val (.ref b106), .val (.ref b107), .unset, .unset, .unset] [(.int (0 : Int32)), (.int pp)])) _
      refine XS.isub X119.here hx rfl (hb hby at_183) rfl ?_
      show Steps p.tables e below (T119.setTop (mkF m 184 #[.val (.int p1), .val (.int p2), .val (.int p3), .val (.int p4), .val (.int p5), .val (.int p6), .val (.int (0 : Int32)), .val (.int x0), .val (.int x1), .val (.int x2), .val (.int (-1 : Int32)), .val (.int pp), .val (.ref b106), .val (.ref b107), .unset, .unset, .unset] [(.int (pp - (0 : Int32)))])) _
      refine XS.istore X119.here hx rfl (hb hby at_184) rfl (l' := #[.val (.int p1), .val (.int p2), .val (.int p3), .val (.int p4), .val (.int p5), .val (.int p6), .val (.int (0 : Int32)), .val (.int x0), .val (.int x1), .val (.int x2), .val (.int (-1 : Int32)), .val (.int pp), .val (.ref b106), .val (.ref b107), .val (.int (pp - (0 : Int32))), .unset, .unset]) rfl ?_
      show Steps p.tables e below (T119.setTop (mkF m 186 #[.val (.int p1), .val (.int p2), .val (.int p3), .val (.int p4), .val (.int p5), .val (.int p6), .val (.int (0 : Int32)), .val (.int x0), .val (.int x1), .val (.int x2), .val (.int (-1 : Int32)), .val (.int pp), .val (.ref b106), .val (.ref b107), .val (.int (pp - (0 : Int32))), .unset, .unset] [])) _
      refine XS.iload X119.here hx rfl (hb hby at_186) rfl ?_
      exact kt)
    by_cases hc188_121 : (0 : Int32) < (pp - (0 : Int32))
    · have P122 : ∀ t, Steps p.tables e below (T119.setTop (mkF m 203 #[.val (.int p1), .val (.int p2), .val (.int p3), .val (.int p4), .val (.int p5), .val (.int p6), .val (.int (0 : Int32)), .val (.int x0), .val (.int x1), .val (.int x2), .val (.int (-1 : Int32)), .val (.int pp), .val (.ref b106), .val (.ref b107), .val (.int (pp - (0 : Int32))), .val (.int ((p6 &&& (2147483647 : Int32)) - ((p6 &&& (2147483647 : Int32)) / (pp - (0 : Int32))) * (pp - (0 : Int32)))), .unset] [])) t → Steps p.tables e below (s₁.setTop (entryFrame m #[(.int p1), (.int p2), (.int p3), (.int p4), (.int p5), (.int p6)] maxLocals)) t := fun t kt => P120 t (by
        show Steps p.tables e below (T119.setTop (mkF m 188 #[.val (.int p1), .val (.int p2), .val (.int p3), .val (.int p4), .val (.int p5), .val (.int p6), .val (.int (0 : Int32)), .val (.int x0), .val (.int x1), .val (.int x2), .val (.int (-1 : Int32)), .val (.int pp), .val (.ref b106), .val (.ref b107), .val (.int (pp - (0 : Int32))), .unset, .unset] [(.int (pp - (0 : Int32)))])) _
        refine XS.ifYes X119.here hx rfl (pc0 := 188) (pc' := 193) rfl (hb hby at_188) rfl ((if0 _ _).trans (tlt hc188_121).2.2.1) (by decide) (by decide) ?_
        show Steps p.tables e below (T119.setTop (mkF m 193 #[.val (.int p1), .val (.int p2), .val (.int p3), .val (.int p4), .val (.int p5), .val (.int p6), .val (.int (0 : Int32)), .val (.int x0), .val (.int x1), .val (.int x2), .val (.int (-1 : Int32)), .val (.int pp), .val (.ref b106), .val (.ref b107), .val (.int (pp - (0 : Int32))), .unset, .unset] [])) _
        refine XS.iload X119.here hx rfl (hb hby at_193) rfl ?_
        show Steps p.tables e below (T119.setTop (mkF m 195 #[.val (.int p1), .val (.int p2), .val (.int p3), .val (.int p4), .val (.int p5), .val (.int p6), .val (.int (0 : Int32)), .val (.int x0), .val (.int x1), .val (.int x2), .val (.int (-1 : Int32)), .val (.int pp), .val (.ref b106), .val (.ref b107), .val (.int (pp - (0 : Int32))), .unset, .unset] [(.int p6)])) _
        refine X119.ldcInt hx hown (mvT hZ (hw _ (List.mem_of_getElem? (i := 62) rfl))) (g := (mkF m 195 #[.val (.int p1), .val (.int p2), .val (.int p3), .val (.int p4), .val (.int p5), .val (.int p6), .val (.int (0 : Int32)), .val (.int x0), .val (.int x1), .val (.int x2), .val (.int (-1 : Int32)), .val (.int pp), .val (.ref b106), .val (.ref b107), .val (.int (pp - (0 : Int32))), .unset, .unset] [(.int p6)])) rfl (hb hby at_195) _ ?_
        show Steps p.tables e below (T119.setTop (mkF m 197 #[.val (.int p1), .val (.int p2), .val (.int p3), .val (.int p4), .val (.int p5), .val (.int p6), .val (.int (0 : Int32)), .val (.int x0), .val (.int x1), .val (.int x2), .val (.int (-1 : Int32)), .val (.int pp), .val (.ref b106), .val (.ref b107), .val (.int (pp - (0 : Int32))), .unset, .unset] [(.int (2147483647 : Int32)), (.int p6)])) _
        refine XS.iand X119.here hx rfl (hb hby at_197) rfl ?_
        show Steps p.tables e below (T119.setTop (mkF m 198 #[.val (.int p1), .val (.int p2), .val (.int p3), .val (.int p4), .val (.int p5), .val (.int p6), .val (.int (0 : Int32)), .val (.int x0), .val (.int x1), .val (.int x2), .val (.int (-1 : Int32)), .val (.int pp), .val (.ref b106), .val (.ref b107), .val (.int (pp - (0 : Int32))), .unset, .unset] [(.int (p6 &&& (2147483647 : Int32)))])) _
        refine XS.iload X119.here hx rfl (hb hby at_198) rfl ?_
        show Steps p.tables e below (T119.setTop (mkF m 200 #[.val (.int p1), .val (.int p2), .val (.int p3), .val (.int p4), .val (.int p5), .val (.int p6), .val (.int (0 : Int32)), .val (.int x0), .val (.int x1), .val (.int x2), .val (.int (-1 : Int32)), .val (.int pp), .val (.ref b106), .val (.ref b107), .val (.int (pp - (0 : Int32))), .unset, .unset] [(.int (pp - (0 : Int32))), (.int (p6 &&& (2147483647 : Int32)))])) _
        refine XS.irem X119.here hx rfl (hb hby at_200) rfl (own_nz _ hc188_121) ?_
        show Steps p.tables e below (T119.setTop (mkF m 201 #[.val (.int p1), .val (.int p2), .val (.int p3), .val (.int p4), .val (.int p5), .val (.int p6), .val (.int (0 : Int32)), .val (.int x0), .val (.int x1), .val (.int x2), .val (.int (-1 : Int32)), .val (.int pp), .val (.ref b106), .val (.ref b107), .val (.int (pp - (0 : Int32))), .unset, .unset] [(.int ((p6 &&& (2147483647 : Int32)) - ((p6 &&& (2147483647 : Int32)) / (pp - (0 : Int32))) * (pp - (0 : Int32))))])) _
        refine XS.istore X119.here hx rfl (hb hby at_201) rfl (l' := #[.val (.int p1), .val (.int p2), .val (.int p3), .val (.int p4), .val (.int p5), .val (.int p6), .val (.int (0 : Int32)), .val (.int x0), .val (.int x1), .val (.int x2), .val (.int (-1 : Int32)), .val (.int pp), .val (.ref b106), .val (.ref b107), .val (.int (pp - (0 : Int32))), .val (.int ((p6 &&& (2147483647 : Int32)) - ((p6 &&& (2147483647 : Int32)) / (pp - (0 : Int32))) * (pp - (0 : Int32)))), .unset]) rfl ?_
        exact kt)
      obtain ⟨ii, hii⟩ : ∃ z : Int32, z = ((p6 &&& (2147483647 : Int32)) - ((p6 &&& (2147483647 : Int32)) / (pp - (0 : Int32))) * (pp - (0 : Int32))) := ⟨_, rfl⟩
      rw [← hii] at P122
      have hii2 := own_i p6 _ ii hc188_121 hii
      have hcc := own_sub pp (0 : Int32) (by rw [own_l0]; omega) (by rw [own_l0]; omega)
      rw [own_l0] at hcc
      have hi1 : ¬ ii < (0 : Int32) := own_nlt _ 0 rfl hii2.1
      have hi2 : ii < (pp - (0 : Int32)) := Int32.lt_iff_toInt_lt.mpr hii2.2
      obtain ⟨cq123, kq123, q123a, q123b, q123c⟩ := isOf hZ rfl Ex119
      obtain ⟨_, _, ⟨T123, L123, k123, n123⟩, -, X123, ⟨Lc123, hQ123, l123, y123, z123⟩, st123⟩ := X119.virtualBack hx (y := (⟨"com/example/allot/allot/partition/Topic", "availableAt", "(I)I"⟩ : MethodName)) (z := (⟨"com/example/allot/allot/partition/Topic", "availableAt", "(I)I"⟩ : MethodName)) hown (mvT hZ (hw _ (List.mem_of_getElem? (i := 63) rfl))) (mvT hZ (hw _ (List.mem_of_getElem? (i := 64) rfl))) (notFace_of_selects (args := #[]) (mvT hZ (hw _ (List.mem_of_getElem? (i := 66) rfl)))) (mvT hZ (hw _ (List.mem_of_getElem? (i := 66) rfl))) (mvT hZ (hw _ (List.mem_of_getElem? (i := 65) rfl))) (by decide) (backOf (W := 0)  (rmAA0 l Z a0 hw [] b107 ii pp bb kb  T119.heap Ex119 Fpx119 Fux119 Vbx119 hi1 hi2) hZ (hw _ (List.mem_of_getElem? (i := 67) rfl)) (hw _ (List.mem_of_getElem? (i := 7) rfl)) (by decide) (by decide)) q123a q123c (g := (mkF m 259 #[.val (.int p1), .val (.int p2), .val (.int p3), .val (.int p4), .val (.int p5), .val (.int p6), .val (.int (0 : Int32)), .val (.int x0), .val (.int x1), .val (.int x2), .val (.int (-1 : Int32)), .val (.int pp), .val (.ref b106), .val (.ref b107), .val (.int (pp - (0 : Int32))), .val (.int ii), .val (.int ii)] [(.int ii), (.ref b107)])) rfl (by rw [hml]; rfl) (Steps.refl _) (argsL := [(.int ii)]) (rest := []) (lenOf pd__I_I rfl) rfl (by show 2 * 0 + _ ≤ _; exact Nat.le_of_eq rfl) (hb hby at_259) (fun _ _ => ⟨rfl, rfl, (by decide : 9 + 0 ≤ _), (by decide : 79 + 0 ≤ _)⟩)
      dsimp only [Pt.U, Pt.locs, Pt.cells, Pt.slots] at X123 l123 y123 z123 st123 hQ123
      subst l123 y123 z123
      obtain ⟨rfl, rfl, e123⟩ := hQ123
      have N123 := Fr.app N119 (Fr.nil n0)
      obtain ⟨cq124, kq124, q124a, q124b, q124c⟩ := isOf hZ e123 Ex119
      obtain ⟨_, _, ⟨T124, L124, k124, n124⟩, -, X124, ⟨Lc124, hQ124, l124, y124, z124⟩, st124⟩ := X123.virtualBack hx (y := (⟨"com/example/allot/allot/partition/Topic", "availableCount", "()I"⟩ : MethodName)) (z := (⟨"com/example/allot/allot/partition/Topic", "availableCount", "()I"⟩ : MethodName)) hown (mvT hZ (hw _ (List.mem_of_getElem? (i := 80) rfl))) (mvT hZ (hw _ (List.mem_of_getElem? (i := 69) rfl))) (notFace_of_selects (args := #[]) (mvT hZ (hw _ (List.mem_of_getElem? (i := 71) rfl)))) (mvT hZ (hw _ (List.mem_of_getElem? (i := 71) rfl))) (mvT hZ (hw _ (List.mem_of_getElem? (i := 70) rfl))) (by decide) (backOf (W := 0)  (rmAC0 l Z a0 hw [] b107 pp bb kb  T119.heap Fpx119 Fux119 Vbx119) hZ (hw _ (List.mem_of_getElem? (i := 72) rfl)) (hw _ (List.mem_of_getElem? (i := 7) rfl)) (by decide) (by decide)) q124a q124c (g := (mkF m 269 #[.val (.int p1), .val (.int p2), .val (.int p3), .val (.int p4), .val (.int p5), .val (.int p6), .val (.int (0 : Int32)), .val (.int x0), .val (.int x1), .val (.int x2), .val (.int (-1 : Int32)), .val (.int pp), .val (.ref b106), .val (.ref b107), .val (.int (pp - (0 : Int32))), .val (.int ii), .val (.int ii)] [(.ref b107)])) rfl (by rw [hml]; rfl) (Steps.refl _) (argsL := []) (rest := []) (lenOf pd___I rfl) rfl (by show 2 * 0 + _ ≤ _; exact Nat.le_of_eq rfl) (hb hby at_269) (fun _ _ => ⟨rfl, e123, (by decide : 9 + 0 ≤ _), (by decide : 79 + 0 ≤ _)⟩)
      dsimp only [Pt.U, Pt.locs, Pt.cells, Pt.slots] at X124 l124 y124 z124 st124 hQ124
      subst l124 y124 z124
      obtain ⟨rfl, rfl, e124⟩ := hQ124
      have N124 := Fr.app N123 (Fr.nil n0)
      have P125 : ∀ t, Steps p.tables e below (T124.setTop (mkF m 282 #[.val (.int p1), .val (.int p2), .val (.int p3), .val (.int p4), .val (.int p5), .val (.int p6), .val (.int (0 : Int32)), .val (.int x0), .val (.int x1), .val (.int x2), .val (.int (-1 : Int32)), .val (.int pp), .val (.ref b106), .val (.ref b107), .val (.int (pp - (0 : Int32))), .val (.int ii), .val (.int ii)] [(.int (1 : Int32))])) t → Steps p.tables e below (s₁.setTop (entryFrame m #[(.int p1), (.int p2), (.int p3), (.int p4), (.int p5), (.int p6)] maxLocals)) t := fun t kt => P122 t (by
        show Steps p.tables e below (T119.setTop (mkF m 203 #[.val (.int p1), .val (.int p2), .val (.int p3), .val (.int p4), .val (.int p5), .val (.int p6), .val (.int (0 : Int32)), .val (.int x0), .val (.int x1), .val (.int x2), .val (.int (-1 : Int32)), .val (.int pp), .val (.ref b106), .val (.ref b107), .val (.int (pp - (0 : Int32))), .val (.int ii), .unset] [])) _
        refine XS.iload X119.here hx rfl (hb hby at_203) rfl ?_
        show Steps p.tables e below (T119.setTop (mkF m 205 #[.val (.int p1), .val (.int p2), .val (.int p3), .val (.int p4), .val (.int p5), .val (.int p6), .val (.int (0 : Int32)), .val (.int x0), .val (.int x1), .val (.int x2), .val (.int (-1 : Int32)), .val (.int pp), .val (.ref b106), .val (.ref b107), .val (.int (pp - (0 : Int32))), .val (.int ii), .unset] [(.int ii)])) _
        refine XS.istore X119.here hx rfl (hb hby at_205) rfl (l' := #[.val (.int p1), .val (.int p2), .val (.int p3), .val (.int p4), .val (.int p5), .val (.int p6), .val (.int (0 : Int32)), .val (.int x0), .val (.int x1), .val (.int x2), .val (.int (-1 : Int32)), .val (.int pp), .val (.ref b106), .val (.ref b107), .val (.int (pp - (0 : Int32))), .val (.int ii), .val (.int ii)]) rfl ?_
        show Steps p.tables e below (T119.setTop (mkF m 207 #[.val (.int p1), .val (.int p2), .val (.int p3), .val (.int p4), .val (.int p5), .val (.int p6), .val (.int (0 : Int32)), .val (.int x0), .val (.int x1), .val (.int x2), .val (.int (-1 : Int32)), .val (.int pp), .val (.ref b106), .val (.ref b107), .val (.int (pp - (0 : Int32))), .val (.int ii), .val (.int ii)] [])) _
        refine XS.iload X119.here hx rfl (hb hby at_207) rfl ?_
        show Steps p.tables e below (T119.setTop (mkF m 209 #[.val (.int p1), .val (.int p2), .val (.int p3), .val (.int p4), .val (.int p5), .val (.int p6), .val (.int (0 : Int32)), .val (.int x0), .val (.int x1), .val (.int x2), .val (.int (-1 : Int32)), .val (.int pp), .val (.ref b106), .val (.ref b107), .val (.int (pp - (0 : Int32))), .val (.int ii), .val (.int ii)] [(.int (0 : Int32))])) _
        refine XS.iconst X119.here hx rfl (hb hby at_209) ?_
        show Steps p.tables e below (T119.setTop (mkF m 210 #[.val (.int p1), .val (.int p2), .val (.int p3), .val (.int p4), .val (.int p5), .val (.int p6), .val (.int (0 : Int32)), .val (.int x0), .val (.int x1), .val (.int x2), .val (.int (-1 : Int32)), .val (.int pp), .val (.ref b106), .val (.ref b107), .val (.int (pp - (0 : Int32))), .val (.int ii), .val (.int ii)] [(.int (1 : Int32)), (.int (0 : Int32))])) _
        refine XS.icmpYes X119.here hx rfl (pc0 := 210) (pc' := 223) rfl (hb hby at_210) rfl (tlt ((by decide) : (0 : Int32) < (1 : Int32))).1 (by decide) (by decide) ?_
        show Steps p.tables e below (T119.setTop (mkF m 223 #[.val (.int p1), .val (.int p2), .val (.int p3), .val (.int p4), .val (.int p5), .val (.int p6), .val (.int (0 : Int32)), .val (.int x0), .val (.int x1), .val (.int x2), .val (.int (-1 : Int32)), .val (.int pp), .val (.ref b106), .val (.ref b107), .val (.int (pp - (0 : Int32))), .val (.int ii), .val (.int ii)] [])) _
        refine XS.iload X119.here hx rfl (hb hby at_223) rfl ?_
        show Steps p.tables e below (T119.setTop (mkF m 225 #[.val (.int p1), .val (.int p2), .val (.int p3), .val (.int p4), .val (.int p5), .val (.int p6), .val (.int (0 : Int32)), .val (.int x0), .val (.int x1), .val (.int x2), .val (.int (-1 : Int32)), .val (.int pp), .val (.ref b106), .val (.ref b107), .val (.int (pp - (0 : Int32))), .val (.int ii), .val (.int ii)] [(.int (0 : Int32))])) _
        refine XS.iconst X119.here hx rfl (hb hby at_225) ?_
        show Steps p.tables e below (T119.setTop (mkF m 226 #[.val (.int p1), .val (.int p2), .val (.int p3), .val (.int p4), .val (.int p5), .val (.int p6), .val (.int (0 : Int32)), .val (.int x0), .val (.int x1), .val (.int x2), .val (.int (-1 : Int32)), .val (.int pp), .val (.ref b106), .val (.ref b107), .val (.int (pp - (0 : Int32))), .val (.int ii), .val (.int ii)] [(.int (2 : Int32)), (.int (0 : Int32))])) _
        refine XS.icmpYes X119.here hx rfl (pc0 := 226) (pc' := 239) rfl (hb hby at_226) rfl (tlt ((by decide) : (0 : Int32) < (2 : Int32))).1 (by decide) (by decide) ?_
        show Steps p.tables e below (T119.setTop (mkF m 239 #[.val (.int p1), .val (.int p2), .val (.int p3), .val (.int p4), .val (.int p5), .val (.int p6), .val (.int (0 : Int32)), .val (.int x0), .val (.int x1), .val (.int x2), .val (.int (-1 : Int32)), .val (.int pp), .val (.ref b106), .val (.ref b107), .val (.int (pp - (0 : Int32))), .val (.int ii), .val (.int ii)] [])) _
        refine XS.iload X119.here hx rfl (hb hby at_239) rfl ?_
        show Steps p.tables e below (T119.setTop (mkF m 241 #[.val (.int p1), .val (.int p2), .val (.int p3), .val (.int p4), .val (.int p5), .val (.int p6), .val (.int (0 : Int32)), .val (.int x0), .val (.int x1), .val (.int x2), .val (.int (-1 : Int32)), .val (.int pp), .val (.ref b106), .val (.ref b107), .val (.int (pp - (0 : Int32))), .val (.int ii), .val (.int ii)] [(.int (0 : Int32))])) _
        refine XS.iconst X119.here hx rfl (hb hby at_241) ?_
        show Steps p.tables e below (T119.setTop (mkF m 242 #[.val (.int p1), .val (.int p2), .val (.int p3), .val (.int p4), .val (.int p5), .val (.int p6), .val (.int (0 : Int32)), .val (.int x0), .val (.int x1), .val (.int x2), .val (.int (-1 : Int32)), .val (.int pp), .val (.ref b106), .val (.ref b107), .val (.int (pp - (0 : Int32))), .val (.int ii), .val (.int ii)] [(.int (3 : Int32)), (.int (0 : Int32))])) _
        refine XS.icmpYes X119.here hx rfl (pc0 := 242) (pc' := 255) rfl (hb hby at_242) rfl (tlt ((by decide) : (0 : Int32) < (3 : Int32))).1 (by decide) (by decide) ?_
        show Steps p.tables e below (T119.setTop (mkF m 255 #[.val (.int p1), .val (.int p2), .val (.int p3), .val (.int p4), .val (.int p5), .val (.int p6), .val (.int (0 : Int32)), .val (.int x0), .val (.int x1), .val (.int x2), .val (.int (-1 : Int32)), .val (.int pp), .val (.ref b106), .val (.ref b107), .val (.int (pp - (0 : Int32))), .val (.int ii), .val (.int ii)] [])) _
        refine XS.aload X119.here hx rfl (hb hby at_255) rfl rfl ?_
        show Steps p.tables e below (T119.setTop (mkF m 257 #[.val (.int p1), .val (.int p2), .val (.int p3), .val (.int p4), .val (.int p5), .val (.int p6), .val (.int (0 : Int32)), .val (.int x0), .val (.int x1), .val (.int x2), .val (.int (-1 : Int32)), .val (.int pp), .val (.ref b106), .val (.ref b107), .val (.int (pp - (0 : Int32))), .val (.int ii), .val (.int ii)] [(.ref b107)])) _
        refine XS.iload X119.here hx rfl (hb hby at_257) rfl ?_
        show Steps p.tables e below (T119.setTop (mkF m 259 #[.val (.int p1), .val (.int p2), .val (.int p3), .val (.int p4), .val (.int p5), .val (.int p6), .val (.int (0 : Int32)), .val (.int x0), .val (.int x1), .val (.int x2), .val (.int (-1 : Int32)), .val (.int pp), .val (.ref b106), .val (.ref b107), .val (.int (pp - (0 : Int32))), .val (.int ii), .val (.int ii)] [(.int ii), (.ref b107)])) _
        refine st123.trans ?_
        show Steps p.tables e below (T123.setTop (mkF m 262 #[.val (.int p1), .val (.int p2), .val (.int p3), .val (.int p4), .val (.int p5), .val (.int p6), .val (.int (0 : Int32)), .val (.int x0), .val (.int x1), .val (.int x2), .val (.int (-1 : Int32)), .val (.int pp), .val (.ref b106), .val (.ref b107), .val (.int (pp - (0 : Int32))), .val (.int ii), .val (.int ii)] [(.int (fAA0 ii))])) _
        refine XS.iload X123.here hx rfl (hb hby at_262) rfl ?_
        show Steps p.tables e below (T123.setTop (mkF m 264 #[.val (.int p1), .val (.int p2), .val (.int p3), .val (.int p4), .val (.int p5), .val (.int p6), .val (.int (0 : Int32)), .val (.int x0), .val (.int x1), .val (.int x2), .val (.int (-1 : Int32)), .val (.int pp), .val (.ref b106), .val (.ref b107), .val (.int (pp - (0 : Int32))), .val (.int ii), .val (.int ii)] [(.int ii), (.int (fAA0 ii))])) _
        refine XS.icmpNo X123.here hx rfl (hb hby at_264) rfl (teq (own_aa0 ii (by omega) (by omega)   : (fAA0 ii) = ii)).2 ?_
        show Steps p.tables e below (T123.setTop (mkF m 267 #[.val (.int p1), .val (.int p2), .val (.int p3), .val (.int p4), .val (.int p5), .val (.int p6), .val (.int (0 : Int32)), .val (.int x0), .val (.int x1), .val (.int x2), .val (.int (-1 : Int32)), .val (.int pp), .val (.ref b106), .val (.ref b107), .val (.int (pp - (0 : Int32))), .val (.int ii), .val (.int ii)] [])) _
        refine XS.aload X123.here hx rfl (hb hby at_267) rfl rfl ?_
        show Steps p.tables e below (T123.setTop (mkF m 269 #[.val (.int p1), .val (.int p2), .val (.int p3), .val (.int p4), .val (.int p5), .val (.int p6), .val (.int (0 : Int32)), .val (.int x0), .val (.int x1), .val (.int x2), .val (.int (-1 : Int32)), .val (.int pp), .val (.ref b106), .val (.ref b107), .val (.int (pp - (0 : Int32))), .val (.int ii), .val (.int ii)] [(.ref b107)])) _
        refine st124.trans ?_
        show Steps p.tables e below (T124.setTop (mkF m 272 #[.val (.int p1), .val (.int p2), .val (.int p3), .val (.int p4), .val (.int p5), .val (.int p6), .val (.int (0 : Int32)), .val (.int x0), .val (.int x1), .val (.int x2), .val (.int (-1 : Int32)), .val (.int pp), .val (.ref b106), .val (.ref b107), .val (.int (pp - (0 : Int32))), .val (.int ii), .val (.int ii)] [(.int (pp - (0 : Int32)))])) _
        refine XS.iload X124.here hx rfl (hb hby at_272) rfl ?_
        show Steps p.tables e below (T124.setTop (mkF m 274 #[.val (.int p1), .val (.int p2), .val (.int p3), .val (.int p4), .val (.int p5), .val (.int p6), .val (.int (0 : Int32)), .val (.int x0), .val (.int x1), .val (.int x2), .val (.int (-1 : Int32)), .val (.int pp), .val (.ref b106), .val (.ref b107), .val (.int (pp - (0 : Int32))), .val (.int ii), .val (.int ii)] [(.int (pp - (0 : Int32))), (.int (pp - (0 : Int32)))])) _
        refine XS.icmpNo X124.here hx rfl (hb hby at_274) rfl (teq (rfl : (pp - (0 : Int32)) = (pp - (0 : Int32)))).2 ?_
        show Steps p.tables e below (T124.setTop (mkF m 277 #[.val (.int p1), .val (.int p2), .val (.int p3), .val (.int p4), .val (.int p5), .val (.int p6), .val (.int (0 : Int32)), .val (.int x0), .val (.int x1), .val (.int x2), .val (.int (-1 : Int32)), .val (.int pp), .val (.ref b106), .val (.ref b107), .val (.int (pp - (0 : Int32))), .val (.int ii), .val (.int ii)] [])) _
        refine XS.iconst X124.here hx rfl (hb hby at_277) ?_
        show Steps p.tables e below (T124.setTop (mkF m 278 #[.val (.int p1), .val (.int p2), .val (.int p3), .val (.int p4), .val (.int p5), .val (.int p6), .val (.int (0 : Int32)), .val (.int x0), .val (.int x1), .val (.int x2), .val (.int (-1 : Int32)), .val (.int pp), .val (.ref b106), .val (.ref b107), .val (.int (pp - (0 : Int32))), .val (.int ii), .val (.int ii)] [(.int (1 : Int32))])) _
        refine XS.goto X124.here hx rfl (pc0 := 278) (pc' := 282) rfl (hb hby at_278) (by decide) (by decide) ?_
        exact kt)
      obtain ⟨fs, hr, hrun, hended, hE1, hE2, hE3, hE4⟩ := X124.leaveW hS119 (by rw [e124]; exact (Nat.le_refl _)) (v := some (.int (1 : Int32))) (fun h => by rw [Bd.returns] at h; cases h) (hlocks := hlk)
      refine ⟨_, _, P125 _ ?_, hrun, hended, _, _, rfl, ?_, hE1, hE2, hE3, hE4.mono (by decide) (by decide)⟩
      · show Steps p.tables e below (T124.setTop (mkF m 282 #[.val (.int p1), .val (.int p2), .val (.int p3), .val (.int p4), .val (.int p5), .val (.int p6), .val (.int (0 : Int32)), .val (.int x0), .val (.int x1), .val (.int x2), .val (.int (-1 : Int32)), .val (.int pp), .val (.ref b106), .val (.ref b107), .val (.int (pp - (0 : Int32))), .val (.int ii), .val (.int ii)] [(.int (1 : Int32))])) _
        exact retN X124 hx (t := .boolean) Bd.returns (by simp) (hb hby at_282) hr
      · show Q0 n0 _ T124.heap _
        exact ⟨rfl, N124⟩
    · have P126 : ∀ t, Steps p.tables e below (T119.setTop (mkF m 192 #[.val (.int p1), .val (.int p2), .val (.int p3), .val (.int p4), .val (.int p5), .val (.int p6), .val (.int (0 : Int32)), .val (.int x0), .val (.int x1), .val (.int x2), .val (.int (-1 : Int32)), .val (.int pp), .val (.ref b106), .val (.ref b107), .val (.int (pp - (0 : Int32))), .unset, .unset] [(.int (1 : Int32))])) t → Steps p.tables e below (s₁.setTop (entryFrame m #[(.int p1), (.int p2), (.int p3), (.int p4), (.int p5), (.int p6)] maxLocals)) t := fun t kt => P120 t (by
        show Steps p.tables e below (T119.setTop (mkF m 188 #[.val (.int p1), .val (.int p2), .val (.int p3), .val (.int p4), .val (.int p5), .val (.int p6), .val (.int (0 : Int32)), .val (.int x0), .val (.int x1), .val (.int x2), .val (.int (-1 : Int32)), .val (.int pp), .val (.ref b106), .val (.ref b107), .val (.int (pp - (0 : Int32))), .unset, .unset] [(.int (pp - (0 : Int32)))])) _
        refine XS.ifNo X119.here hx rfl (hb hby at_188) rfl ((if0 _ _).trans (flt hc188_121).2.2.1) ?_
        show Steps p.tables e below (T119.setTop (mkF m 191 #[.val (.int p1), .val (.int p2), .val (.int p3), .val (.int p4), .val (.int p5), .val (.int p6), .val (.int (0 : Int32)), .val (.int x0), .val (.int x1), .val (.int x2), .val (.int (-1 : Int32)), .val (.int pp), .val (.ref b106), .val (.ref b107), .val (.int (pp - (0 : Int32))), .unset, .unset] [])) _
        refine XS.iconst X119.here hx rfl (hb hby at_191) ?_
        exact kt)
      obtain ⟨fs, hr, hrun, hended, hE1, hE2, hE3, hE4⟩ := X119.leaveW hS119 (Nat.le_refl _) (v := some (.int (1 : Int32))) (fun h => by rw [Bd.returns] at h; cases h) (hlocks := hlk)
      refine ⟨_, _, P126 _ ?_, hrun, hended, _, _, rfl, ?_, hE1, hE2, hE3, hE4.mono (by decide) (by decide)⟩
      · show Steps p.tables e below (T119.setTop (mkF m 192 #[.val (.int p1), .val (.int p2), .val (.int p3), .val (.int p4), .val (.int p5), .val (.int p6), .val (.int (0 : Int32)), .val (.int x0), .val (.int x1), .val (.int x2), .val (.int (-1 : Int32)), .val (.int pp), .val (.ref b106), .val (.ref b107), .val (.int (pp - (0 : Int32))), .unset, .unset] [(.int (1 : Int32))])) _
        exact retN X119 hx (t := .boolean) Bd.returns (by simp) (hb hby at_192) hr
      · show Q0 n0 _ T119.heap _
        exact ⟨rfl, N119⟩
  · obtain ⟨_, _, ⟨T127, L127, k127, n127⟩, -, X127, ⟨Lc127, hQ127, l127, y127, z127⟩, st127⟩ := Jvm.LawKit.callS X0 hx (y := (⟨"java/lang/Math", "max", "(II)I"⟩ : MethodName)) hown (mvT hZ (hw _ (List.mem_of_getElem? (i := 0) rfl))) (mvT hZ (hw _ (List.mem_of_getElem? (i := 1) rfl))) (mvT hZ (hw _ (List.mem_of_getElem? (i := 2) rfl))) (mvT hZ (hw _ (List.mem_of_getElem? (i := 3) rfl))) (by decide) (backOf (W := 0)  (rmMx l Z a0 hw [] (1 : Int32) ((x0 + (1 : Int32)) + (p5 &&& (255 : Int32))) h0) hZ (hw _ (List.mem_of_getElem? (i := 3) rfl)) (hw _ (List.mem_of_getElem? (i := 2) rfl)) (by decide) (by decide)) (g := (mkF m 83 #[.val (.int p1), .val (.int p2), .val (.int p3), .val (.int p4), .val (.int p5), .val (.int p6), .val (.int (1 : Int32)), .val (.int x0), .val (.int x1), .val (.int x2), .val (.int x0), .unset, .unset, .unset, .unset, .unset, .unset] [(.int ((x0 + (1 : Int32)) + (p5 &&& (255 : Int32)))), (.int (1 : Int32))])) rfl (by rw [hml]; rfl) (argsL := [(.int (1 : Int32)), (.int ((x0 + (1 : Int32)) + (p5 &&& (255 : Int32))))]) (rest := []) (lenOf pd__II_I rfl) rfl (by show 2 * 0 + _ ≤ _; exact Nat.le_of_eq rfl) (hb hby at_83) (fun _ _ => ⟨rfl, e0, (by decide : 0 + 0 ≤ _), (by decide : 0 + 0 ≤ _)⟩)
    dsimp only [Pt.U, Pt.locs, Pt.cells, Pt.slots] at X127 l127 y127 z127 st127 hQ127
    subst l127 y127 z127
    obtain ⟨rfl, rfl, e127⟩ := hQ127
    have N127 := Fr.app N0 (Fr.nil n0)
    have P128 : ∀ t, Steps p.tables e below (T127.setTop (mkF m 88 #[.val (.int p1), .val (.int p2), .val (.int p3), .val (.int p4), .val (.int p5), .val (.int p6), .val (.int (1 : Int32)), .val (.int x0), .val (.int x1), .val (.int x2), .val (.int x0), .val (.int (mxI (1 : Int32) ((x0 + (1 : Int32)) + (p5 &&& (255 : Int32))))), .unset, .unset, .unset, .unset, .unset] [])) t → Steps p.tables e below (s₁.setTop (entryFrame m #[(.int p1), (.int p2), (.int p3), (.int p4), (.int p5), (.int p6)] maxLocals)) t := fun t kt => P103 t (by
      show Steps p.tables e below (s₁.setTop (mkF m 36 #[.val (.int p1), .val (.int p2), .val (.int p3), .val (.int p4), .val (.int p5), .val (.int p6), .val (.int (1 : Int32)), .val (.int x0), .val (.int x1), .val (.int x2), .unset, .unset, .unset, .unset, .unset, .unset, .unset] [])) _
      refine XS.iload X0.here hx rfl (hb hby at_36) rfl ?_
      show Steps p.tables e below (s₁.setTop (mkF m 38 #[.val (.int p1), .val (.int p2), .val (.int p3), .val (.int p4), .val (.int p5), .val (.int p6), .val (.int (1 : Int32)), .val (.int x0), .val (.int x1), .val (.int x2), .unset, .unset, .unset, .unset, .unset, .unset, .unset] [(.int (1 : Int32))])) _
      refine XS.ifYes X0.here hx rfl (pc0 := 38) (pc' := 45) rfl (hb hby at_38) rfl ((if0 _ _).trans (feq ((by decide) : ¬ ((1 : Int32) = (0 : Int32)))).2) (by decide) (by decide) ?_
      show Steps p.tables e below (s₁.setTop (mkF m 45 #[.val (.int p1), .val (.int p2), .val (.int p3), .val (.int p4), .val (.int p5), .val (.int p6), .val (.int (1 : Int32)), .val (.int x0), .val (.int x1), .val (.int x2), .unset, .unset, .unset, .unset, .unset, .unset, .unset] [])) _
      refine XS.iload X0.here hx rfl (hb hby at_45) rfl ?_
      show Steps p.tables e below (s₁.setTop (mkF m 47 #[.val (.int p1), .val (.int p2), .val (.int p3), .val (.int p4), .val (.int p5), .val (.int p6), .val (.int (1 : Int32)), .val (.int x0), .val (.int x1), .val (.int x2), .unset, .unset, .unset, .unset, .unset, .unset, .unset] [(.int (1 : Int32))])) _
      refine XS.iconst X0.here hx rfl (hb hby at_47) ?_
      show Steps p.tables e below (s₁.setTop (mkF m 48 #[.val (.int p1), .val (.int p2), .val (.int p3), .val (.int p4), .val (.int p5), .val (.int p6), .val (.int (1 : Int32)), .val (.int x0), .val (.int x1), .val (.int x2), .unset, .unset, .unset, .unset, .unset, .unset, .unset] [(.int (1 : Int32)), (.int (1 : Int32))])) _
      refine XS.icmpNo X0.here hx rfl (hb hby at_48) rfl (teq ((by decide) : (1 : Int32) = (1 : Int32))).2 ?_
      show Steps p.tables e below (s₁.setTop (mkF m 51 #[.val (.int p1), .val (.int p2), .val (.int p3), .val (.int p4), .val (.int p5), .val (.int p6), .val (.int (1 : Int32)), .val (.int x0), .val (.int x1), .val (.int x2), .unset, .unset, .unset, .unset, .unset, .unset, .unset] [])) _
      refine XS.iload X0.here hx rfl (hb hby at_51) rfl ?_
      show Steps p.tables e below (s₁.setTop (mkF m 53 #[.val (.int p1), .val (.int p2), .val (.int p3), .val (.int p4), .val (.int p5), .val (.int p6), .val (.int (1 : Int32)), .val (.int x0), .val (.int x1), .val (.int x2), .unset, .unset, .unset, .unset, .unset, .unset, .unset] [(.int x0)])) _
      refine XS.goto X0.here hx rfl (pc0 := 53) (pc' := 69) rfl (hb hby at_53) (by decide) (by decide) ?_
      show Steps p.tables e below (s₁.setTop (mkF m 69 #[.val (.int p1), .val (.int p2), .val (.int p3), .val (.int p4), .val (.int p5), .val (.int p6), .val (.int (1 : Int32)), .val (.int x0), .val (.int x1), .val (.int x2), .unset, .unset, .unset, .unset, .unset, .unset, .unset] [(.int x0)])) _
      refine XS.istore X0.here hx rfl (hb hby at_69) rfl (l' := #[.val (.int p1), .val (.int p2), .val (.int p3), .val (.int p4), .val (.int p5), .val (.int p6), .val (.int (1 : Int32)), .val (.int x0), .val (.int x1), .val (.int x2), .val (.int x0), .unset, .unset, .unset, .unset, .unset, .unset]) rfl ?_
      show Steps p.tables e below (s₁.setTop (mkF m 71 #[.val (.int p1), .val (.int p2), .val (.int p3), .val (.int p4), .val (.int p5), .val (.int p6), .val (.int (1 : Int32)), .val (.int x0), .val (.int x1), .val (.int x2), .val (.int x0), .unset, .unset, .unset, .unset, .unset, .unset] [])) _
      refine XS.iconst X0.here hx rfl (hb hby at_71) ?_
      show Steps p.tables e below (s₁.setTop (mkF m 72 #[.val (.int p1), .val (.int p2), .val (.int p3), .val (.int p4), .val (.int p5), .val (.int p6), .val (.int (1 : Int32)), .val (.int x0), .val (.int x1), .val (.int x2), .val (.int x0), .unset, .unset, .unset, .unset, .unset, .unset] [(.int (1 : Int32))])) _
      refine XS.iload X0.here hx rfl (hb hby at_72) rfl ?_
      show Steps p.tables e below (s₁.setTop (mkF m 74 #[.val (.int p1), .val (.int p2), .val (.int p3), .val (.int p4), .val (.int p5), .val (.int p6), .val (.int (1 : Int32)), .val (.int x0), .val (.int x1), .val (.int x2), .val (.int x0), .unset, .unset, .unset, .unset, .unset, .unset] [(.int x0), (.int (1 : Int32))])) _
      refine XS.iconst X0.here hx rfl (hb hby at_74) ?_
      show Steps p.tables e below (s₁.setTop (mkF m 75 #[.val (.int p1), .val (.int p2), .val (.int p3), .val (.int p4), .val (.int p5), .val (.int p6), .val (.int (1 : Int32)), .val (.int x0), .val (.int x1), .val (.int x2), .val (.int x0), .unset, .unset, .unset, .unset, .unset, .unset] [(.int (1 : Int32)), (.int x0), (.int (1 : Int32))])) _
      refine XS.iadd X0.here hx rfl (hb hby at_75) rfl ?_
      show Steps p.tables e below (s₁.setTop (mkF m 76 #[.val (.int p1), .val (.int p2), .val (.int p3), .val (.int p4), .val (.int p5), .val (.int p6), .val (.int (1 : Int32)), .val (.int x0), .val (.int x1), .val (.int x2), .val (.int x0), .unset, .unset, .unset, .unset, .unset, .unset] [(.int (x0 + (1 : Int32))), (.int (1 : Int32))])) _
      refine XS.iload X0.here hx rfl (hb hby at_76) rfl ?_
      show Steps p.tables e below (s₁.setTop (mkF m 78 #[.val (.int p1), .val (.int p2), .val (.int p3), .val (.int p4), .val (.int p5), .val (.int p6), .val (.int (1 : Int32)), .val (.int x0), .val (.int x1), .val (.int x2), .val (.int x0), .unset, .unset, .unset, .unset, .unset, .unset] [(.int p5), (.int (x0 + (1 : Int32))), (.int (1 : Int32))])) _
      refine XS.sipush X0.here hx rfl (hb hby at_78) ?_
      show Steps p.tables e below (s₁.setTop (mkF m 81 #[.val (.int p1), .val (.int p2), .val (.int p3), .val (.int p4), .val (.int p5), .val (.int p6), .val (.int (1 : Int32)), .val (.int x0), .val (.int x1), .val (.int x2), .val (.int x0), .unset, .unset, .unset, .unset, .unset, .unset] [(.int (255 : Int32)), (.int p5), (.int (x0 + (1 : Int32))), (.int (1 : Int32))])) _
      refine XS.iand X0.here hx rfl (hb hby at_81) rfl ?_
      show Steps p.tables e below (s₁.setTop (mkF m 82 #[.val (.int p1), .val (.int p2), .val (.int p3), .val (.int p4), .val (.int p5), .val (.int p6), .val (.int (1 : Int32)), .val (.int x0), .val (.int x1), .val (.int x2), .val (.int x0), .unset, .unset, .unset, .unset, .unset, .unset] [(.int (p5 &&& (255 : Int32))), (.int (x0 + (1 : Int32))), (.int (1 : Int32))])) _
      refine XS.iadd X0.here hx rfl (hb hby at_82) rfl ?_
      show Steps p.tables e below (s₁.setTop (mkF m 83 #[.val (.int p1), .val (.int p2), .val (.int p3), .val (.int p4), .val (.int p5), .val (.int p6), .val (.int (1 : Int32)), .val (.int x0), .val (.int x1), .val (.int x2), .val (.int x0), .unset, .unset, .unset, .unset, .unset, .unset] [(.int ((x0 + (1 : Int32)) + (p5 &&& (255 : Int32)))), (.int (1 : Int32))])) _
      refine st127 _ ?_
      show Steps p.tables e below (T127.setTop (mkF m 86 #[.val (.int p1), .val (.int p2), .val (.int p3), .val (.int p4), .val (.int p5), .val (.int p6), .val (.int (1 : Int32)), .val (.int x0), .val (.int x1), .val (.int x2), .val (.int x0), .unset, .unset, .unset, .unset, .unset, .unset] [(.int (mxI (1 : Int32) ((x0 + (1 : Int32)) + (p5 &&& (255 : Int32)))))])) _
      refine XS.istore X127.here hx rfl (hb hby at_86) rfl (l' := #[.val (.int p1), .val (.int p2), .val (.int p3), .val (.int p4), .val (.int p5), .val (.int p6), .val (.int (1 : Int32)), .val (.int x0), .val (.int x1), .val (.int x2), .val (.int x0), .val (.int (mxI (1 : Int32) ((x0 + (1 : Int32)) + (p5 &&& (255 : Int32))))), .unset, .unset, .unset, .unset, .unset]) rfl ?_
      exact kt)
    obtain ⟨pp, hpp⟩ : ∃ z : Int32, z = (mxI (1 : Int32) ((x0 + (1 : Int32)) + (p5 &&& (255 : Int32)))) := ⟨_, rfl⟩
    rw [← hpp] at P128
    have hpq := own_p x0 p5 pp (by omega) hpp
    have hp1 : ¬ pp < (1 : Int32) := own_nlt _ 1 rfl hpq.1
    have hx0 : ¬ x0 < (0 : Int32) := own_nlt _ 0 rfl (by omega)
    have hy0 : x0 < pp := Int32.lt_iff_toInt_lt.mpr (by omega)
    obtain ⟨T129, h129, k129, X129, e129, E129, A129, B129, st129⟩ := newPE X127 hx hZ (hw _ (List.mem_of_getElem? (i := 4) rfl)) e127 (g := (mkF m 108 #[.val (.int p1), .val (.int p2), .val (.int p3), .val (.int p4), .val (.int p5), .val (.int p6), .val (.int (1 : Int32)), .val (.int x0), .val (.int x1), .val (.int x2), .val (.int x0), .val (.int pp), .unset, .unset, .unset, .unset, .unset] [(.int (1 : Int32))])) rfl (hb hby at_108) rfl (by decide) (cap := 1) (by decide) (by decide) (by decide) (by decide) (ad := "[I") (by decide)
    obtain ⟨b129, g129⟩ : ∃ z, z = h0.size := ⟨_, rfl⟩
    rw [← g129] at A129 B129 st129
    have gb129 : n0 ≤ b129 := Nat.le_trans Z0 (Nat.le_of_eq g129.symm)
    have sz129 : n0 ≤ h129.size := Nat.le_trans Z0 E129.1
    have hk129 := Nat.le_trans hk0 E129.1
    have V129 : Arv Z h129 b129 k129 .int (1 : Int32) [(.int (0 : Int32))] (.int (0 : Int32)) := (Arv.new A129 (by decide)).pad (pad_rep [] (.int (0 : Int32)) 1)
    obtain ⟨cl130, Ar130, q130, S130, Nn130, H130, G130⟩ := id V129
    have hin130 : ¬ ((0 : Int32) < 0 ∨ cl130.slots.size ≤ ((0 : Int32)).toNatClampNeg) := inb_of S130 ⟨by decide, by decide⟩
    obtain ⟨T131, h131, X131, e131, W131, st131⟩ := stI X129 hx hZ e129 Ar130 (j := (0 : Int32)) hin130 (g := (mkF m 114 #[.val (.int p1), .val (.int p2), .val (.int p3), .val (.int p4), .val (.int p5), .val (.int p6), .val (.int (1 : Int32)), .val (.int x0), .val (.int x1), .val (.int x2), .val (.int x0), .val (.int pp), .unset, .unset, .unset, .unset, .unset] [(.int x0), (.int (0 : Int32)), (.ref b129), (.ref b129)])) rfl rfl (hb hby at_114)
    have f132 := B129.wr W131
    have V131 : Arv Z h131 b129 k129 .int (1 : Int32) [(.int x0)] (.int (0 : Int32)) := Arv.set Ar130 q130 S130 Nn130 H130 G130 rfl W131 0 rfl (Nat.le_of_ble_eq_true rfl)
    have N131 := Fr.snoc X131 N127 gb129
    have sz131 : n0 ≤ h131.size := Nat.le_trans sz129 (Keep.of_wr W131).1
    have hk131 := Nat.le_trans hk129 (Keep.of_wr W131).1
    obtain ⟨T133, h133, X133, e133, E133, A133, D133, -, st133⟩ := newO X131 hx hZ hown (hw _ (List.mem_of_getElem? (i := 5) rfl)) (hw _ (List.mem_of_getElem? (i := 6) rfl)) (hw _ (List.mem_of_getElem? (i := 7) rfl)) e131 (g := (mkF m 164 #[.val (.int p1), .val (.int p2), .val (.int p3), .val (.int p4), .val (.int p5), .val (.int p6), .val (.int (1 : Int32)), .val (.int x0), .val (.int x1), .val (.int x2), .val (.int x0), .val (.int pp), .val (.ref b129), .unset, .unset, .unset, .unset] [])) rfl (hb hby at_164) (by decide) (by decide)
    obtain ⟨b133, g133⟩ : ∃ z, z = h131.size := ⟨_, rfl⟩
    rw [← g133] at A133 D133 st133
    have ne133_b129 : b129 ≠ b133 := Nat.ne_of_lt (Nat.lt_of_lt_of_le f132.lt (Nat.le_of_eq g133.symm))
    have gb133 : n0 ≤ b133 := Nat.le_trans sz131 (Nat.le_of_eq g133.symm)
    have sz133 : n0 ≤ h133.size := Nat.le_trans sz131 E133.1
    have hk133 := Nat.le_trans hk131 E133.1
    have f134 := f132.ext E133
    have f135 := V131.ext E133
    have F133_name : Fld Z h133 b133 "com/example/allot/allot/partition/Topic" "name" "Ljava/lang/String;" .null := D133 (Or.inr (hw _ (List.mem_of_getElem? (i := 57) rfl))) (ty := (.object "java/lang/String")) (by decide)
    have F133_partitions : Fld Z h133 b133 "com/example/allot/allot/partition/Topic" "partitions" "I" (.int (0 : Int32)) := D133 (Or.inr (hw _ (List.mem_of_getElem? (i := 59) rfl))) (ty := .int) (by decide)
    have F133_unavailable : Fld Z h133 b133 "com/example/allot/allot/partition/Topic" "unavailable" "[I" .null := D133 (Or.inr (hw _ (List.mem_of_getElem? (i := 61) rfl))) (ty := (.array .int)) (by decide)
    have P136 : ∀ t, Steps p.tables e below (T133.setTop (mkF m 168 #[.val (.int p1), .val (.int p2), .val (.int p3), .val (.int p4), .val (.int p5), .val (.int p6), .val (.int (1 : Int32)), .val (.int x0), .val (.int x1), .val (.int x2), .val (.int x0), .val (.int pp), .val (.ref b129), .unset, .unset, .unset, .unset] [(.ref b133), (.ref b133)])) t → Steps p.tables e below (s₁.setTop (entryFrame m #[(.int p1), (.int p2), (.int p3), (.int p4), (.int p5), (.int p6)] maxLocals)) t := fun t kt => P128 t (by
      show Steps p.tables e below (T127.setTop (mkF m 88 #[.val (.int p1), .val (.int p2), .val (.int p3), .val (.int p4), .val (.int p5), .val (.int p6), .val (.int (1 : Int32)), .val (.int x0), .val (.int x1), .val (.int x2), .val (.int x0), .val (.int pp), .unset, .unset, .unset, .unset, .unset] [])) _
      refine XS.iload X127.here hx rfl (hb hby at_88) rfl ?_
      show Steps p.tables e below (T127.setTop (mkF m 90 #[.val (.int p1), .val (.int p2), .val (.int p3), .val (.int p4), .val (.int p5), .val (.int p6), .val (.int (1 : Int32)), .val (.int x0), .val (.int x1), .val (.int x2), .val (.int x0), .val (.int pp), .unset, .unset, .unset, .unset, .unset] [(.int (1 : Int32))])) _
      refine XS.ifYes X127.here hx rfl (pc0 := 90) (pc' := 101) rfl (hb hby at_90) rfl ((if0 _ _).trans (feq ((by decide) : ¬ ((1 : Int32) = (0 : Int32)))).2) (by decide) (by decide) ?_
      show Steps p.tables e below (T127.setTop (mkF m 101 #[.val (.int p1), .val (.int p2), .val (.int p3), .val (.int p4), .val (.int p5), .val (.int p6), .val (.int (1 : Int32)), .val (.int x0), .val (.int x1), .val (.int x2), .val (.int x0), .val (.int pp), .unset, .unset, .unset, .unset, .unset] [])) _
      refine XS.iload X127.here hx rfl (hb hby at_101) rfl ?_
      show Steps p.tables e below (T127.setTop (mkF m 103 #[.val (.int p1), .val (.int p2), .val (.int p3), .val (.int p4), .val (.int p5), .val (.int p6), .val (.int (1 : Int32)), .val (.int x0), .val (.int x1), .val (.int x2), .val (.int x0), .val (.int pp), .unset, .unset, .unset, .unset, .unset] [(.int (1 : Int32))])) _
      refine XS.iconst X127.here hx rfl (hb hby at_103) ?_
      show Steps p.tables e below (T127.setTop (mkF m 104 #[.val (.int p1), .val (.int p2), .val (.int p3), .val (.int p4), .val (.int p5), .val (.int p6), .val (.int (1 : Int32)), .val (.int x0), .val (.int x1), .val (.int x2), .val (.int x0), .val (.int pp), .unset, .unset, .unset, .unset, .unset] [(.int (1 : Int32)), (.int (1 : Int32))])) _
      refine XS.icmpNo X127.here hx rfl (hb hby at_104) rfl (teq ((by decide) : (1 : Int32) = (1 : Int32))).2 ?_
      show Steps p.tables e below (T127.setTop (mkF m 107 #[.val (.int p1), .val (.int p2), .val (.int p3), .val (.int p4), .val (.int p5), .val (.int p6), .val (.int (1 : Int32)), .val (.int x0), .val (.int x1), .val (.int x2), .val (.int x0), .val (.int pp), .unset, .unset, .unset, .unset, .unset] [])) _
      refine XS.iconst X127.here hx rfl (hb hby at_107) ?_
      show Steps p.tables e below (T127.setTop (mkF m 108 #[.val (.int p1), .val (.int p2), .val (.int p3), .val (.int p4), .val (.int p5), .val (.int p6), .val (.int (1 : Int32)), .val (.int x0), .val (.int x1), .val (.int x2), .val (.int x0), .val (.int pp), .unset, .unset, .unset, .unset, .unset] [(.int (1 : Int32))])) _
      refine st129 _ ?_
      show Steps p.tables e below (T129.setTop (mkF m 110 #[.val (.int p1), .val (.int p2), .val (.int p3), .val (.int p4), .val (.int p5), .val (.int p6), .val (.int (1 : Int32)), .val (.int x0), .val (.int x1), .val (.int x2), .val (.int x0), .val (.int pp), .unset, .unset, .unset, .unset, .unset] [(.ref b129)])) _
      refine XS.dup X129.here hx rfl (hb hby at_110) rfl rfl ?_
      show Steps p.tables e below (T129.setTop (mkF m 111 #[.val (.int p1), .val (.int p2), .val (.int p3), .val (.int p4), .val (.int p5), .val (.int p6), .val (.int (1 : Int32)), .val (.int x0), .val (.int x1), .val (.int x2), .val (.int x0), .val (.int pp), .unset, .unset, .unset, .unset, .unset] [(.ref b129), (.ref b129)])) _
      refine XS.iconst X129.here hx rfl (hb hby at_111) ?_
      show Steps p.tables e below (T129.setTop (mkF m 112 #[.val (.int p1), .val (.int p2), .val (.int p3), .val (.int p4), .val (.int p5), .val (.int p6), .val (.int (1 : Int32)), .val (.int x0), .val (.int x1), .val (.int x2), .val (.int x0), .val (.int pp), .unset, .unset, .unset, .unset, .unset] [(.int (0 : Int32)), (.ref b129), (.ref b129)])) _
      refine XS.iload X129.here hx rfl (hb hby at_112) rfl ?_
      show Steps p.tables e below (T129.setTop (mkF m 114 #[.val (.int p1), .val (.int p2), .val (.int p3), .val (.int p4), .val (.int p5), .val (.int p6), .val (.int (1 : Int32)), .val (.int x0), .val (.int x1), .val (.int x2), .val (.int x0), .val (.int pp), .unset, .unset, .unset, .unset, .unset] [(.int x0), (.int (0 : Int32)), (.ref b129), (.ref b129)])) _
      refine st131 _ ?_
      show Steps p.tables e below (T131.setTop (mkF m 115 #[.val (.int p1), .val (.int p2), .val (.int p3), .val (.int p4), .val (.int p5), .val (.int p6), .val (.int (1 : Int32)), .val (.int x0), .val (.int x1), .val (.int x2), .val (.int x0), .val (.int pp), .unset, .unset, .unset, .unset, .unset] [(.ref b129)])) _
      refine XS.astore X131.here hx rfl (hb hby at_115) rfl rfl (l' := #[.val (.int p1), .val (.int p2), .val (.int p3), .val (.int p4), .val (.int p5), .val (.int p6), .val (.int (1 : Int32)), .val (.int x0), .val (.int x1), .val (.int x2), .val (.int x0), .val (.int pp), .val (.ref b129), .unset, .unset, .unset, .unset]) rfl ?_
      show Steps p.tables e below (T131.setTop (mkF m 117 #[.val (.int p1), .val (.int p2), .val (.int p3), .val (.int p4), .val (.int p5), .val (.int p6), .val (.int (1 : Int32)), .val (.int x0), .val (.int x1), .val (.int x2), .val (.int x0), .val (.int pp), .val (.ref b129), .unset, .unset, .unset, .unset] [])) _
      refine XS.goto X131.here hx rfl (pc0 := 117) (pc' := 164) rfl (hb hby at_117) (by decide) (by decide) ?_
      show Steps p.tables e below (T131.setTop (mkF m 164 #[.val (.int p1), .val (.int p2), .val (.int p3), .val (.int p4), .val (.int p5), .val (.int p6), .val (.int (1 : Int32)), .val (.int x0), .val (.int x1), .val (.int x2), .val (.int x0), .val (.int pp), .val (.ref b129), .unset, .unset, .unset, .unset] [])) _
      refine st133 _ ?_
      show Steps p.tables e below (T133.setTop (mkF m 167 #[.val (.int p1), .val (.int p2), .val (.int p3), .val (.int p4), .val (.int p5), .val (.int p6), .val (.int (1 : Int32)), .val (.int x0), .val (.int x1), .val (.int x2), .val (.int x0), .val (.int pp), .val (.ref b129), .unset, .unset, .unset, .unset] [(.ref b133)])) _
      refine XS.dup X133.here hx rfl (hb hby at_167) rfl rfl ?_
      exact kt)
    obtain ⟨sa137, T137, h137, j137, X137, e137, E137, hS137, hk137, hZ, hown, st137⟩ := ldcS X133 hx hZ hown (hw _ (List.mem_of_getElem? (i := 8) rfl)) (own_wS hw) e133 hS0 hk133 (g := (mkF m 168 #[.val (.int p1), .val (.int p2), .val (.int p3), .val (.int p4), .val (.int p5), .val (.int p6), .val (.int (1 : Int32)), .val (.int x0), .val (.int x1), .val (.int x2), .val (.int x0), .val (.int pp), .val (.ref b129), .unset, .unset, .unset, .unset] [(.ref b133), (.ref b133)])) rfl (hb hby at_168) (n := 4) (by decide) (by decide) (by decide) (by decide)
    have f138 := f134.ext E137
    have f139 := f135.ext E137
    have f140 := A133.ext E137
    have f141 := F133_name.ext E137
    have f142 := F133_partitions.ext E137
    have f143 := F133_unavailable.ext E137
    have sz137 : n0 ≤ h137.size := Nat.le_trans sz133 E137.1
    have P144 : ∀ t, Steps p.tables e below (T137.setTop (mkF m 174 #[.val (.int p1), .val (.int p2), .val (.int p3), .val (.int p4), .val (.int p5), .val (.int p6), .val (.int (1 : Int32)), .val (.int x0), .val (.int x1), .val (.int x2), .val (.int x0), .val (.int pp), .val (.ref b129), .unset, .unset, .unset, .unset] [(.ref b129), (.int pp), (.ref sa137), (.ref b133), (.ref b133)])) t → Steps p.tables e below (s₁.setTop (entryFrame m #[(.int p1), (.int p2), (.int p3), (.int p4), (.int p5), (.int p6)] maxLocals)) t := fun t kt => P136 t (by
      show Steps p.tables e below (T133.setTop (mkF m 168 #[.val (.int p1), .val (.int p2), .val (.int p3), .val (.int p4), .val (.int p5), .val (.int p6), .val (.int (1 : Int32)), .val (.int x0), .val (.int x1), .val (.int x2), .val (.int x0), .val (.int pp), .val (.ref b129), .unset, .unset, .unset, .unset] [(.ref b133), (.ref b133)])) _
      refine st137 _ ?_
      show Steps p.tables e below (T137.setTop (mkF m 170 #[.val (.int p1), .val (.int p2), .val (.int p3), .val (.int p4), .val (.int p5), .val (.int p6), .val (.int (1 : Int32)), .val (.int x0), .val (.int x1), .val (.int x2), .val (.int x0), .val (.int pp), .val (.ref b129), .unset, .unset, .unset, .unset] [(.ref sa137), (.ref b133), (.ref b133)])) _
      refine XS.iload X137.here hx rfl (hb hby at_170) rfl ?_
      show Steps p.tables e below (T137.setTop (mkF m 172 #[.val (.int p1), .val (.int p2), .val (.int p3), .val (.int p4), .val (.int p5), .val (.int p6), .val (.int (1 : Int32)), .val (.int x0), .val (.int x1), .val (.int x2), .val (.int x0), .val (.int pp), .val (.ref b129), .unset, .unset, .unset, .unset] [(.int pp), (.ref sa137), (.ref b133), (.ref b133)])) _
      refine XS.aload X137.here hx rfl (hb hby at_172) rfl rfl ?_
      exact kt)
    obtain ⟨_, _, ⟨T145, L145, k145, n145⟩, -, X145, hSi145, hgr145, ⟨Lc145, hQ145, l145, y145, z145⟩, st145⟩ := X137.specialBackS hx (y := (⟨"com/example/allot/allot/partition/Topic", "<init>", "(Ljava/lang/String;I[I)V"⟩ : MethodName)) rfl hown (mvT hZ (hw _ (List.mem_of_getElem? (i := 16) rfl))) (mvT hZ (hw _ (List.mem_of_getElem? (i := 17) rfl))) (mvT hZ (hw _ (List.mem_of_getElem? (i := 18) rfl))) (by decide) (backOfS (W := 1)  (rmT1 l Z a0 hw [] b133 sa137 pp b129 k129 x0 h137 n0 sz137 f140 f141 f142 f143 gb133 f138 f139 (Ne.symm ne133_b129) hp1  hx0 hy0) hZ (hw _ (List.mem_of_getElem? (i := 18) rfl)) (hw _ (List.mem_of_getElem? (i := 7) rfl)) (by decide) (by decide)) (g := (mkF m 174 #[.val (.int p1), .val (.int p2), .val (.int p3), .val (.int p4), .val (.int p5), .val (.int p6), .val (.int (1 : Int32)), .val (.int x0), .val (.int x1), .val (.int x2), .val (.int x0), .val (.int pp), .val (.ref b129), .unset, .unset, .unset, .unset] [(.ref b129), (.int pp), (.ref sa137), (.ref b133), (.ref b133)])) rfl (by rw [hml]; rfl) (Steps.refl _) (a := b133) (argsL := [(.ref sa137), (.int pp), (.ref b129)]) (rest := [(.ref b133)]) (lenOf pd__Ljava_lang_String_I_I_V rfl) rfl (by show 2 * 0 + _ ≤ _; exact Nat.le_of_eq rfl) (hb hby at_174) (fun _ _ => ⟨rfl, e137, (by decide : 4 + 7 ≤ _), (by decide : 12 + 157 ≤ _)⟩)
    dsimp only [Pt.U, Pt.locs, Pt.cells, Pt.slots] at X145 l145 y145 z145 st145 hQ145
    subst l145 y145 z145
    dsimp only [Pt.U, Pt.locs, Pt.cells, Pt.slots] at hSi145 hgr145
    obtain ⟨X145, hS145, hZ, hown⟩ := rebS hS137 (by rw [e137]; exact hk137) X145 hSi145 hgr145 hZ hown
    obtain ⟨rfl, Nq145, K145x, Ex145, Fnx145, Fpx145, bb, kb, Fux145, Vbx145⟩ := hQ145
    have N145 := Fr.app N131 Nq145
    have sz145 : n0 ≤ T145.heap.size := Nat.le_trans sz137 K145x.1
    have P146 : ∀ t, Steps p.tables e below (T145.setTop (mkF m 188 #[.val (.int p1), .val (.int p2), .val (.int p3), .val (.int p4), .val (.int p5), .val (.int p6), .val (.int (1 : Int32)), .val (.int x0), .val (.int x1), .val (.int x2), .val (.int x0), .val (.int pp), .val (.ref b129), .val (.ref b133), .val (.int (pp - (1 : Int32))), .unset, .unset] [(.int (pp - (1 : Int32)))])) t → Steps p.tables e below (s₁.setTop (entryFrame m #[(.int p1), (.int p2), (.int p3), (.int p4), (.int p5), (.int p6)] maxLocals)) t := fun t kt => P144 t (by
      show Steps p.tables e below (T137.setTop (mkF m 174 #[.val (.int p1), .val (.int p2), .val (.int p3), .val (.int p4), .val (.int p5), .val (.int p6), .val (.int (1 : Int32)), .val (.int x0), .val (.int x1), .val (.int x2), .val (.int x0), .val (.int pp), .val (.ref b129), .unset, .unset, .unset, .unset] [(.ref b129), (.int pp), (.ref sa137), (.ref b133), (.ref b133)])) _
      refine st145.trans ?_
      show Steps p.tables e below (T145.setTop (mkF m 177 #[.val (.int p1), .val (.int p2), .val (.int p3), .val (.int p4), .val (.int p5), .val (.int p6), .val (.int (1 : Int32)), .val (.int x0), .val (.int x1), .val (.int x2), .val (.int x0), .val (.int pp), .val (.ref b129), .unset, .unset, .unset, .unset] [(.ref b133)])) _
      refine XS.astore X145.here hx rfl (hb hby at_177) rfl rfl (l' := #[.val (.int p1), .val (.int p2), .val (.int p3), .val (.int p4), .val (.int p5), .val (.int p6), .val (.int (1 : Int32)), .val (.int x0), .val (.int x1), .val (.int x2), .val (.int x0), .val (.int pp), .val (.ref b129), .val (.ref b133), .unset, .unset, .unset]) rfl ?_
      show Steps p.tables e below (T145.setTop (mkF m 179 #[.val (.int p1), .val (.int p2), .val (.int p3), .val (.int p4), .val (.int p5), .val (.int p6), .val (.int (1 : Int32)), .val (.int x0), .val (.int x1), .val (.int x2), .val (.int x0), .val (.int pp), .val (.ref b129), .val (.ref b133), .unset, .unset, .unset] [])) _
      refine XS.iload X145.here hx rfl (hb hby at_179) rfl ?_
      show Steps p.tables e below (T145.setTop (mkF m 181 #[.val (.int p1), .val (.int p2), .val (.int p3), .val (.int p4), .val (.int p5), .val (.int p6), .val (.int (1 : Int32)), .val (.int x0), .val (.int x1), .val (.int x2), .val (.int x0), .val (.int pp), .val (.ref b129), .val (.ref b133), .unset, .unset, .unset] [(.int pp)])) _
      refine XS.iload X145.here hx rfl (hb hby at_181) rfl ?_
      show Steps p.tables e below (T145.setTop (mkF m 183 #[.val (.int p1), .val (.int p2), .val (.int p3), .val (.int p4), .val (.int p5), .val (.int p6), .val (.int (1 : Int32)), .val (.int x0), .val (.int x1), .val (.int x2), .val (.int x0), .val (.int pp), .val (.ref b129), .val (.ref b133), .unset, .unset, .unset] [(.int (1 : Int32)), (.int pp)])) _
      refine XS.isub X145.here hx rfl (hb hby at_183) rfl ?_
      show Steps p.tables e below (T145.setTop (mkF m 184 #[.val (.int p1), .val (.int p2), .val (.int p3), .val (.int p4), .val (.int p5), .val (.int p6), .val (.int (1 : Int32)), .val (.int x0), .val (.int x1), .val (.int x2), .val (.int x0), .val (.int pp), .val (.ref b129), .val (.ref b133), .unset, .unset, .unset] [(.int (pp - (1 : Int32)))])) _
      refine XS.istore X145.here hx rfl (hb hby at_184) rfl (l' := #[.val (.int p1), .val (.int p2), .val (.int p3), .val (.int p4), .val (.int p5), .val (.int p6), .val (.int (1 : Int32)), .val (.int x0), .val (.int x1), .val (.int x2), .val (.int x0), .val (.int pp), .val (.ref b129), .val (.ref b133), .val (.int (pp - (1 : Int32))), .unset, .unset]) rfl ?_
      show Steps p.tables e below (T145.setTop (mkF m 186 #[.val (.int p1), .val (.int p2), .val (.int p3), .val (.int p4), .val (.int p5), .val (.int p6), .val (.int (1 : Int32)), .val (.int x0), .val (.int x1), .val (.int x2), .val (.int x0), .val (.int pp), .val (.ref b129), .val (.ref b133), .val (.int (pp - (1 : Int32))), .unset, .unset] [])) _
      refine XS.iload X145.here hx rfl (hb hby at_186) rfl ?_
      exact kt)
    by_cases hc188_147 : (0 : Int32) < (pp - (1 : Int32))
    · have P148 : ∀ t, Steps p.tables e below (T145.setTop (mkF m 203 #[.val (.int p1), .val (.int p2), .val (.int p3), .val (.int p4), .val (.int p5), .val (.int p6), .val (.int (1 : Int32)), .val (.int x0), .val (.int x1), .val (.int x2), .val (.int x0), .val (.int pp), .val (.ref b129), .val (.ref b133), .val (.int (pp - (1 : Int32))), .val (.int ((p6 &&& (2147483647 : Int32)) - ((p6 &&& (2147483647 : Int32)) / (pp - (1 : Int32))) * (pp - (1 : Int32)))), .unset] [])) t → Steps p.tables e below (s₁.setTop (entryFrame m #[(.int p1), (.int p2), (.int p3), (.int p4), (.int p5), (.int p6)] maxLocals)) t := fun t kt => P146 t (by
        show Steps p.tables e below (T145.setTop (mkF m 188 #[.val (.int p1), .val (.int p2), .val (.int p3), .val (.int p4), .val (.int p5), .val (.int p6), .val (.int (1 : Int32)), .val (.int x0), .val (.int x1), .val (.int x2), .val (.int x0), .val (.int pp), .val (.ref b129), .val (.ref b133), .val (.int (pp - (1 : Int32))), .unset, .unset] [(.int (pp - (1 : Int32)))])) _
        refine XS.ifYes X145.here hx rfl (pc0 := 188) (pc' := 193) rfl (hb hby at_188) rfl ((if0 _ _).trans (tlt hc188_147).2.2.1) (by decide) (by decide) ?_
        show Steps p.tables e below (T145.setTop (mkF m 193 #[.val (.int p1), .val (.int p2), .val (.int p3), .val (.int p4), .val (.int p5), .val (.int p6), .val (.int (1 : Int32)), .val (.int x0), .val (.int x1), .val (.int x2), .val (.int x0), .val (.int pp), .val (.ref b129), .val (.ref b133), .val (.int (pp - (1 : Int32))), .unset, .unset] [])) _
        refine XS.iload X145.here hx rfl (hb hby at_193) rfl ?_
        show Steps p.tables e below (T145.setTop (mkF m 195 #[.val (.int p1), .val (.int p2), .val (.int p3), .val (.int p4), .val (.int p5), .val (.int p6), .val (.int (1 : Int32)), .val (.int x0), .val (.int x1), .val (.int x2), .val (.int x0), .val (.int pp), .val (.ref b129), .val (.ref b133), .val (.int (pp - (1 : Int32))), .unset, .unset] [(.int p6)])) _
        refine X145.ldcInt hx hown (mvT hZ (hw _ (List.mem_of_getElem? (i := 62) rfl))) (g := (mkF m 195 #[.val (.int p1), .val (.int p2), .val (.int p3), .val (.int p4), .val (.int p5), .val (.int p6), .val (.int (1 : Int32)), .val (.int x0), .val (.int x1), .val (.int x2), .val (.int x0), .val (.int pp), .val (.ref b129), .val (.ref b133), .val (.int (pp - (1 : Int32))), .unset, .unset] [(.int p6)])) rfl (hb hby at_195) _ ?_
        show Steps p.tables e below (T145.setTop (mkF m 197 #[.val (.int p1), .val (.int p2), .val (.int p3), .val (.int p4), .val (.int p5), .val (.int p6), .val (.int (1 : Int32)), .val (.int x0), .val (.int x1), .val (.int x2), .val (.int x0), .val (.int pp), .val (.ref b129), .val (.ref b133), .val (.int (pp - (1 : Int32))), .unset, .unset] [(.int (2147483647 : Int32)), (.int p6)])) _
        refine XS.iand X145.here hx rfl (hb hby at_197) rfl ?_
        show Steps p.tables e below (T145.setTop (mkF m 198 #[.val (.int p1), .val (.int p2), .val (.int p3), .val (.int p4), .val (.int p5), .val (.int p6), .val (.int (1 : Int32)), .val (.int x0), .val (.int x1), .val (.int x2), .val (.int x0), .val (.int pp), .val (.ref b129), .val (.ref b133), .val (.int (pp - (1 : Int32))), .unset, .unset] [(.int (p6 &&& (2147483647 : Int32)))])) _
        refine XS.iload X145.here hx rfl (hb hby at_198) rfl ?_
        show Steps p.tables e below (T145.setTop (mkF m 200 #[.val (.int p1), .val (.int p2), .val (.int p3), .val (.int p4), .val (.int p5), .val (.int p6), .val (.int (1 : Int32)), .val (.int x0), .val (.int x1), .val (.int x2), .val (.int x0), .val (.int pp), .val (.ref b129), .val (.ref b133), .val (.int (pp - (1 : Int32))), .unset, .unset] [(.int (pp - (1 : Int32))), (.int (p6 &&& (2147483647 : Int32)))])) _
        refine XS.irem X145.here hx rfl (hb hby at_200) rfl (own_nz _ hc188_147) ?_
        show Steps p.tables e below (T145.setTop (mkF m 201 #[.val (.int p1), .val (.int p2), .val (.int p3), .val (.int p4), .val (.int p5), .val (.int p6), .val (.int (1 : Int32)), .val (.int x0), .val (.int x1), .val (.int x2), .val (.int x0), .val (.int pp), .val (.ref b129), .val (.ref b133), .val (.int (pp - (1 : Int32))), .unset, .unset] [(.int ((p6 &&& (2147483647 : Int32)) - ((p6 &&& (2147483647 : Int32)) / (pp - (1 : Int32))) * (pp - (1 : Int32))))])) _
        refine XS.istore X145.here hx rfl (hb hby at_201) rfl (l' := #[.val (.int p1), .val (.int p2), .val (.int p3), .val (.int p4), .val (.int p5), .val (.int p6), .val (.int (1 : Int32)), .val (.int x0), .val (.int x1), .val (.int x2), .val (.int x0), .val (.int pp), .val (.ref b129), .val (.ref b133), .val (.int (pp - (1 : Int32))), .val (.int ((p6 &&& (2147483647 : Int32)) - ((p6 &&& (2147483647 : Int32)) / (pp - (1 : Int32))) * (pp - (1 : Int32)))), .unset]) rfl ?_
        exact kt)
      obtain ⟨ii, hii⟩ : ∃ z : Int32, z = ((p6 &&& (2147483647 : Int32)) - ((p6 &&& (2147483647 : Int32)) / (pp - (1 : Int32))) * (pp - (1 : Int32))) := ⟨_, rfl⟩
      rw [← hii] at P148
      have hii2 := own_i p6 _ ii hc188_147 hii
      have hcc := own_sub pp (1 : Int32) (by rw [own_l1]; omega) (by rw [own_l1]; omega)
      rw [own_l1] at hcc
      have hi1 : ¬ ii < (0 : Int32) := own_nlt _ 0 rfl hii2.1
      have hi2 : ii < (pp - (1 : Int32)) := Int32.lt_iff_toInt_lt.mpr hii2.2
      have P149 : ∀ t, Steps p.tables e below (T145.setTop (mkF m 217 #[.val (.int p1), .val (.int p2), .val (.int p3), .val (.int p4), .val (.int p5), .val (.int p6), .val (.int (1 : Int32)), .val (.int x0), .val (.int x1), .val (.int x2), .val (.int x0), .val (.int pp), .val (.ref b129), .val (.ref b133), .val (.int (pp - (1 : Int32))), .val (.int ii), .val (.int ii)] [(.int ii), (.int x0)])) t → Steps p.tables e below (s₁.setTop (entryFrame m #[(.int p1), (.int p2), (.int p3), (.int p4), (.int p5), (.int p6)] maxLocals)) t := fun t kt => P148 t (by
        show Steps p.tables e below (T145.setTop (mkF m 203 #[.val (.int p1), .val (.int p2), .val (.int p3), .val (.int p4), .val (.int p5), .val (.int p6), .val (.int (1 : Int32)), .val (.int x0), .val (.int x1), .val (.int x2), .val (.int x0), .val (.int pp), .val (.ref b129), .val (.ref b133), .val (.int (pp - (1 : Int32))), .val (.int ii), .unset] [])) _
        refine XS.iload X145.here hx rfl (hb hby at_203) rfl ?_
        show Steps p.tables e below (T145.setTop (mkF m 205 #[.val (.int p1), .val (.int p2), .val (.int p3), .val (.int p4), .val (.int p5), .val (.int p6), .val (.int (1 : Int32)), .val (.int x0), .val (.int x1), .val (.int x2), .val (.int x0), .val (.int pp), .val (.ref b129), .val (.ref b133), .val (.int (pp - (1 : Int32))), .val (.int ii), .unset] [(.int ii)])) _
        refine XS.istore X145.here hx rfl (hb hby at_205) rfl (l' := #[.val (.int p1), .val (.int p2), .val (.int p3), .val (.int p4), .val (.int p5), .val (.int p6), .val (.int (1 : Int32)), .val (.int x0), .val (.int x1), .val (.int x2), .val (.int x0), .val (.int pp), .val (.ref b129), .val (.ref b133), .val (.int (pp - (1 : Int32))), .val (.int ii), .val (.int ii)]) rfl ?_
        show Steps p.tables e below (T145.setTop (mkF m 207 #[.val (.int p1), .val (.int p2), .val (.int p3), .val (.int p4), .val (.int p5), .val (.int p6), .val (.int (1 : Int32)), .val (.int x0), .val (.int x1), .val (.int x2), .val (.int x0), .val (.int pp), .val (.ref b129), .val (.ref b133), .val (.int (pp - (1 : Int32))), .val (.int ii), .val (.int ii)] [])) _
        refine XS.iload X145.here hx rfl (hb hby at_207) rfl ?_
        show Steps p.tables e below (T145.setTop (mkF m 209 #[.val (.int p1), .val (.int p2), .val (.int p3), .val (.int p4), .val (.int p5), .val (.int p6), .val (.int (1 : Int32)), .val (.int x0), .val (.int x1), .val (.int x2), .val (.int x0), .val (.int pp), .val (.ref b129), .val (.ref b133), .val (.int (pp - (1 : Int32))), .val (.int ii), .val (.int ii)] [(.int (1 : Int32))])) _
        refine XS.iconst X145.here hx rfl (hb hby at_209) ?_
        show Steps p.tables e below (T145.setTop (mkF m 210 #[.val (.int p1), .val (.int p2), .val (.int p3), .val (.int p4), .val (.int p5), .val (.int p6), .val (.int (1 : Int32)), .val (.int x0), .val (.int x1), .val (.int x2), .val (.int x0), .val (.int pp), .val (.ref b129), .val (.ref b133), .val (.int (pp - (1 : Int32))), .val (.int ii), .val (.int ii)] [(.int (1 : Int32)), (.int (1 : Int32))])) _
        refine XS.icmpNo X145.here hx rfl (hb hby at_210) rfl (flt ((by decide) : ¬ ((1 : Int32) < (1 : Int32)))).1 ?_
        show Steps p.tables e below (T145.setTop (mkF m 213 #[.val (.int p1), .val (.int p2), .val (.int p3), .val (.int p4), .val (.int p5), .val (.int p6), .val (.int (1 : Int32)), .val (.int x0), .val (.int x1), .val (.int x2), .val (.int x0), .val (.int pp), .val (.ref b129), .val (.ref b133), .val (.int (pp - (1 : Int32))), .val (.int ii), .val (.int ii)] [])) _
        refine XS.iload X145.here hx rfl (hb hby at_213) rfl ?_
        show Steps p.tables e below (T145.setTop (mkF m 215 #[.val (.int p1), .val (.int p2), .val (.int p3), .val (.int p4), .val (.int p5), .val (.int p6), .val (.int (1 : Int32)), .val (.int x0), .val (.int x1), .val (.int x2), .val (.int x0), .val (.int pp), .val (.ref b129), .val (.ref b133), .val (.int (pp - (1 : Int32))), .val (.int ii), .val (.int ii)] [(.int x0)])) _
        refine XS.iload X145.here hx rfl (hb hby at_215) rfl ?_
        exact kt)
      obtain ⟨r1, hr1⟩ : ∃ z : Int32, z = (if ii < x0 then ii else (ii + (1 : Int32))) := ⟨_, rfl⟩
      have J150 : ∀ t, Steps p.tables e below (T145.setTop (mkF m 223 #[.val (.int p1), .val (.int p2), .val (.int p3), .val (.int p4), .val (.int p5), .val (.int p6), .val (.int (1 : Int32)), .val (.int x0), .val (.int x1), .val (.int x2), .val (.int x0), .val (.int pp), .val (.ref b129), .val (.ref b133), .val (.int (pp - (1 : Int32))), .val (.int ii), .val (.int r1)] [])) t → Steps p.tables e below (T145.setTop (mkF m 217 #[.val (.int p1), .val (.int p2), .val (.int p3), .val (.int p4), .val (.int p5), .val (.int p6), .val (.int (1 : Int32)), .val (.int x0), .val (.int x1), .val (.int x2), .val (.int x0), .val (.int pp), .val (.ref b129), .val (.ref b133), .val (.int (pp - (1 : Int32))), .val (.int ii), .val (.int ii)] [(.int ii), (.int x0)])) t := by
        intro t kt
        by_cases hr150_217_0 : ii < x0
        · have evr1 : r1 = ii := by rw [hr1, if_pos hr150_217_0]
          rw [evr1] at kt
          show Steps p.tables e below (T145.setTop (mkF m 217 #[.val (.int p1), .val (.int p2), .val (.int p3), .val (.int p4), .val (.int p5), .val (.int p6), .val (.int (1 : Int32)), .val (.int x0), .val (.int x1), .val (.int x2), .val (.int x0), .val (.int pp), .val (.ref b129), .val (.ref b133), .val (.int (pp - (1 : Int32))), .val (.int ii), .val (.int ii)] [(.int ii), (.int x0)])) _
          refine XS.icmpYes X145.here hx rfl (pc0 := 217) (pc' := 223) rfl (hb hby at_217) rfl (tlt hr150_217_0).2.2.1 (by decide) (by decide) ?_
          exact kt
        · have evr1 : r1 = (ii + (1 : Int32)) := by rw [hr1, if_neg hr150_217_0]
          rw [evr1] at kt
          show Steps p.tables e below (T145.setTop (mkF m 217 #[.val (.int p1), .val (.int p2), .val (.int p3), .val (.int p4), .val (.int p5), .val (.int p6), .val (.int (1 : Int32)), .val (.int x0), .val (.int x1), .val (.int x2), .val (.int x0), .val (.int pp), .val (.ref b129), .val (.ref b133), .val (.int (pp - (1 : Int32))), .val (.int ii), .val (.int ii)] [(.int ii), (.int x0)])) _
          refine XS.icmpNo X145.here hx rfl (hb hby at_217) rfl (flt hr150_217_0).2.2.1 ?_
          show Steps p.tables e below (T145.setTop (mkF m 220 #[.val (.int p1), .val (.int p2), .val (.int p3), .val (.int p4), .val (.int p5), .val (.int p6), .val (.int (1 : Int32)), .val (.int x0), .val (.int x1), .val (.int x2), .val (.int x0), .val (.int pp), .val (.ref b129), .val (.ref b133), .val (.int (pp - (1 : Int32))), .val (.int ii), .val (.int ii)] [])) _
          refine XS.iinc X145.here hx rfl (hb hby at_220) rfl (l' := #[.val (.int p1), .val (.int p2), .val (.int p3), .val (.int p4), .val (.int p5), .val (.int p6), .val (.int (1 : Int32)), .val (.int x0), .val (.int x1), .val (.int x2), .val (.int x0), .val (.int pp), .val (.ref b129), .val (.ref b133), .val (.int (pp - (1 : Int32))), .val (.int ii), .val (.int (ii + (1 : Int32)))]) rfl ?_
          exact kt
      have P151 : ∀ t, Steps p.tables e below (T145.setTop (mkF m 223 #[.val (.int p1), .val (.int p2), .val (.int p3), .val (.int p4), .val (.int p5), .val (.int p6), .val (.int (1 : Int32)), .val (.int x0), .val (.int x1), .val (.int x2), .val (.int x0), .val (.int pp), .val (.ref b129), .val (.ref b133), .val (.int (pp - (1 : Int32))), .val (.int ii), .val (.int r1)] [])) t → Steps p.tables e below (s₁.setTop (entryFrame m #[(.int p1), (.int p2), (.int p3), (.int p4), (.int p5), (.int p6)] maxLocals)) t := fun t kt => P149 t (J150 t kt)
      obtain ⟨cq152, kq152, q152a, q152b, q152c⟩ := isOf hZ rfl Ex145
      obtain ⟨_, _, ⟨T152, L152, k152, n152⟩, -, X152, ⟨Lc152, hQ152, l152, y152, z152⟩, st152⟩ := X145.virtualBack hx (y := (⟨"com/example/allot/allot/partition/Topic", "availableAt", "(I)I"⟩ : MethodName)) (z := (⟨"com/example/allot/allot/partition/Topic", "availableAt", "(I)I"⟩ : MethodName)) hown (mvT hZ (hw _ (List.mem_of_getElem? (i := 63) rfl))) (mvT hZ (hw _ (List.mem_of_getElem? (i := 64) rfl))) (notFace_of_selects (args := #[]) (mvT hZ (hw _ (List.mem_of_getElem? (i := 66) rfl)))) (mvT hZ (hw _ (List.mem_of_getElem? (i := 66) rfl))) (mvT hZ (hw _ (List.mem_of_getElem? (i := 65) rfl))) (by decide) (backOf (W := 0)  (rmAA1 l Z a0 hw [] b133 ii pp bb kb x0 T145.heap Ex145 Fpx145 Fux145 Vbx145 hi1 hi2) hZ (hw _ (List.mem_of_getElem? (i := 67) rfl)) (hw _ (List.mem_of_getElem? (i := 7) rfl)) (by decide) (by decide)) q152a q152c (g := (mkF m 259 #[.val (.int p1), .val (.int p2), .val (.int p3), .val (.int p4), .val (.int p5), .val (.int p6), .val (.int (1 : Int32)), .val (.int x0), .val (.int x1), .val (.int x2), .val (.int x0), .val (.int pp), .val (.ref b129), .val (.ref b133), .val (.int (pp - (1 : Int32))), .val (.int ii), .val (.int r1)] [(.int ii), (.ref b133)])) rfl (by rw [hml]; rfl) (Steps.refl _) (argsL := [(.int ii)]) (rest := []) (lenOf pd__I_I rfl) rfl (by show 2 * 0 + _ ≤ _; exact Nat.le_of_eq rfl) (hb hby at_259) (fun _ _ => ⟨rfl, rfl, (by decide : 11 + 0 ≤ _), (by decide : 169 + 0 ≤ _)⟩)
      dsimp only [Pt.U, Pt.locs, Pt.cells, Pt.slots] at X152 l152 y152 z152 st152 hQ152
      subst l152 y152 z152
      obtain ⟨rfl, rfl, e152⟩ := hQ152
      have N152 := Fr.app N145 (Fr.nil n0)
      obtain ⟨cq153, kq153, q153a, q153b, q153c⟩ := isOf hZ e152 Ex145
      obtain ⟨_, _, ⟨T153, L153, k153, n153⟩, -, X153, ⟨Lc153, hQ153, l153, y153, z153⟩, st153⟩ := X152.virtualBack hx (y := (⟨"com/example/allot/allot/partition/Topic", "availableCount", "()I"⟩ : MethodName)) (z := (⟨"com/example/allot/allot/partition/Topic", "availableCount", "()I"⟩ : MethodName)) hown (mvT hZ (hw _ (List.mem_of_getElem? (i := 80) rfl))) (mvT hZ (hw _ (List.mem_of_getElem? (i := 69) rfl))) (notFace_of_selects (args := #[]) (mvT hZ (hw _ (List.mem_of_getElem? (i := 71) rfl)))) (mvT hZ (hw _ (List.mem_of_getElem? (i := 71) rfl))) (mvT hZ (hw _ (List.mem_of_getElem? (i := 70) rfl))) (by decide) (backOf (W := 0)  (rmAC1 l Z a0 hw [] b133 pp bb kb x0 T145.heap Fpx145 Fux145 Vbx145) hZ (hw _ (List.mem_of_getElem? (i := 72) rfl)) (hw _ (List.mem_of_getElem? (i := 7) rfl)) (by decide) (by decide)) q153a q153c (g := (mkF m 269 #[.val (.int p1), .val (.int p2), .val (.int p3), .val (.int p4), .val (.int p5), .val (.int p6), .val (.int (1 : Int32)), .val (.int x0), .val (.int x1), .val (.int x2), .val (.int x0), .val (.int pp), .val (.ref b129), .val (.ref b133), .val (.int (pp - (1 : Int32))), .val (.int ii), .val (.int r1)] [(.ref b133)])) rfl (by rw [hml]; rfl) (Steps.refl _) (argsL := []) (rest := []) (lenOf pd___I rfl) rfl (by show 2 * 0 + _ ≤ _; exact Nat.le_of_eq rfl) (hb hby at_269) (fun _ _ => ⟨rfl, e152, (by decide : 11 + 0 ≤ _), (by decide : 169 + 0 ≤ _)⟩)
      dsimp only [Pt.U, Pt.locs, Pt.cells, Pt.slots] at X153 l153 y153 z153 st153 hQ153
      subst l153 y153 z153
      obtain ⟨rfl, rfl, e153⟩ := hQ153
      have N153 := Fr.app N152 (Fr.nil n0)
      have P154 : ∀ t, Steps p.tables e below (T153.setTop (mkF m 282 #[.val (.int p1), .val (.int p2), .val (.int p3), .val (.int p4), .val (.int p5), .val (.int p6), .val (.int (1 : Int32)), .val (.int x0), .val (.int x1), .val (.int x2), .val (.int x0), .val (.int pp), .val (.ref b129), .val (.ref b133), .val (.int (pp - (1 : Int32))), .val (.int ii), .val (.int r1)] [(.int (1 : Int32))])) t → Steps p.tables e below (s₁.setTop (entryFrame m #[(.int p1), (.int p2), (.int p3), (.int p4), (.int p5), (.int p6)] maxLocals)) t := fun t kt => P151 t (by
        show Steps p.tables e below (T145.setTop (mkF m 223 #[.val (.int p1), .val (.int p2), .val (.int p3), .val (.int p4), .val (.int p5), .val (.int p6), .val (.int (1 : Int32)), .val (.int x0), .val (.int x1), .val (.int x2), .val (.int x0), .val (.int pp), .val (.ref b129), .val (.ref b133), .val (.int (pp - (1 : Int32))), .val (.int ii), .val (.int r1)] [])) _
        refine XS.iload X145.here hx rfl (hb hby at_223) rfl ?_
        show Steps p.tables e below (T145.setTop (mkF m 225 #[.val (.int p1), .val (.int p2), .val (.int p3), .val (.int p4), .val (.int p5), .val (.int p6), .val (.int (1 : Int32)), .val (.int x0), .val (.int x1), .val (.int x2), .val (.int x0), .val (.int pp), .val (.ref b129), .val (.ref b133), .val (.int (pp - (1 : Int32))), .val (.int ii), .val (.int r1)] [(.int (1 : Int32))])) _
        refine XS.iconst X145.here hx rfl (hb hby at_225) ?_
        show Steps p.tables e below (T145.setTop (mkF m 226 #[.val (.int p1), .val (.int p2), .val (.int p3), .val (.int p4), .val (.int p5), .val (.int p6), .val (.int (1 : Int32)), .val (.int x0), .val (.int x1), .val (.int x2), .val (.int x0), .val (.int pp), .val (.ref b129), .val (.ref b133), .val (.int (pp - (1 : Int32))), .val (.int ii), .val (.int r1)] [(.int (2 : Int32)), (.int (1 : Int32))])) _
        refine XS.icmpYes X145.here hx rfl (pc0 := 226) (pc' := 239) rfl (hb hby at_226) rfl (tlt ((by decide) : (1 : Int32) < (2 : Int32))).1 (by decide) (by decide) ?_
        show Steps p.tables e below (T145.setTop (mkF m 239 #[.val (.int p1), .val (.int p2), .val (.int p3), .val (.int p4), .val (.int p5), .val (.int p6), .val (.int (1 : Int32)), .val (.int x0), .val (.int x1), .val (.int x2), .val (.int x0), .val (.int pp), .val (.ref b129), .val (.ref b133), .val (.int (pp - (1 : Int32))), .val (.int ii), .val (.int r1)] [])) _
        refine XS.iload X145.here hx rfl (hb hby at_239) rfl ?_
        show Steps p.tables e below (T145.setTop (mkF m 241 #[.val (.int p1), .val (.int p2), .val (.int p3), .val (.int p4), .val (.int p5), .val (.int p6), .val (.int (1 : Int32)), .val (.int x0), .val (.int x1), .val (.int x2), .val (.int x0), .val (.int pp), .val (.ref b129), .val (.ref b133), .val (.int (pp - (1 : Int32))), .val (.int ii), .val (.int r1)] [(.int (1 : Int32))])) _
        refine XS.iconst X145.here hx rfl (hb hby at_241) ?_
        show Steps p.tables e below (T145.setTop (mkF m 242 #[.val (.int p1), .val (.int p2), .val (.int p3), .val (.int p4), .val (.int p5), .val (.int p6), .val (.int (1 : Int32)), .val (.int x0), .val (.int x1), .val (.int x2), .val (.int x0), .val (.int pp), .val (.ref b129), .val (.ref b133), .val (.int (pp - (1 : Int32))), .val (.int ii), .val (.int r1)] [(.int (3 : Int32)), (.int (1 : Int32))])) _
        refine XS.icmpYes X145.here hx rfl (pc0 := 242) (pc' := 255) rfl (hb hby at_242) rfl (tlt ((by decide) : (1 : Int32) < (3 : Int32))).1 (by decide) (by decide) ?_
        show Steps p.tables e below (T145.setTop (mkF m 255 #[.val (.int p1), .val (.int p2), .val (.int p3), .val (.int p4), .val (.int p5), .val (.int p6), .val (.int (1 : Int32)), .val (.int x0), .val (.int x1), .val (.int x2), .val (.int x0), .val (.int pp), .val (.ref b129), .val (.ref b133), .val (.int (pp - (1 : Int32))), .val (.int ii), .val (.int r1)] [])) _
        refine XS.aload X145.here hx rfl (hb hby at_255) rfl rfl ?_
        show Steps p.tables e below (T145.setTop (mkF m 257 #[.val (.int p1), .val (.int p2), .val (.int p3), .val (.int p4), .val (.int p5), .val (.int p6), .val (.int (1 : Int32)), .val (.int x0), .val (.int x1), .val (.int x2), .val (.int x0), .val (.int pp), .val (.ref b129), .val (.ref b133), .val (.int (pp - (1 : Int32))), .val (.int ii), .val (.int r1)] [(.ref b133)])) _
        refine XS.iload X145.here hx rfl (hb hby at_257) rfl ?_
        show Steps p.tables e below (T145.setTop (mkF m 259 #[.val (.int p1), .val (.int p2), .val (.int p3), .val (.int p4), .val (.int p5), .val (.int p6), .val (.int (1 : Int32)), .val (.int x0), .val (.int x1), .val (.int x2), .val (.int x0), .val (.int pp), .val (.ref b129), .val (.ref b133), .val (.int (pp - (1 : Int32))), .val (.int ii), .val (.int r1)] [(.int ii), (.ref b133)])) _
        refine st152.trans ?_
        show Steps p.tables e below (T152.setTop (mkF m 262 #[.val (.int p1), .val (.int p2), .val (.int p3), .val (.int p4), .val (.int p5), .val (.int p6), .val (.int (1 : Int32)), .val (.int x0), .val (.int x1), .val (.int x2), .val (.int x0), .val (.int pp), .val (.ref b129), .val (.ref b133), .val (.int (pp - (1 : Int32))), .val (.int ii), .val (.int r1)] [(.int (fAA1 ii x0))])) _
        refine XS.iload X152.here hx rfl (hb hby at_262) rfl ?_
        show Steps p.tables e below (T152.setTop (mkF m 264 #[.val (.int p1), .val (.int p2), .val (.int p3), .val (.int p4), .val (.int p5), .val (.int p6), .val (.int (1 : Int32)), .val (.int x0), .val (.int x1), .val (.int x2), .val (.int x0), .val (.int pp), .val (.ref b129), .val (.ref b133), .val (.int (pp - (1 : Int32))), .val (.int ii), .val (.int r1)] [(.int r1), (.int (fAA1 ii x0))])) _
        refine XS.icmpNo X152.here hx rfl (hb hby at_264) rfl (teq (own_aa1 ii x0 r1 (by omega) (by omega) (by omega) (by omega)  hr1 : (fAA1 ii x0) = r1)).2 ?_
        show Steps p.tables e below (T152.setTop (mkF m 267 #[.val (.int p1), .val (.int p2), .val (.int p3), .val (.int p4), .val (.int p5), .val (.int p6), .val (.int (1 : Int32)), .val (.int x0), .val (.int x1), .val (.int x2), .val (.int x0), .val (.int pp), .val (.ref b129), .val (.ref b133), .val (.int (pp - (1 : Int32))), .val (.int ii), .val (.int r1)] [])) _
        refine XS.aload X152.here hx rfl (hb hby at_267) rfl rfl ?_
        show Steps p.tables e below (T152.setTop (mkF m 269 #[.val (.int p1), .val (.int p2), .val (.int p3), .val (.int p4), .val (.int p5), .val (.int p6), .val (.int (1 : Int32)), .val (.int x0), .val (.int x1), .val (.int x2), .val (.int x0), .val (.int pp), .val (.ref b129), .val (.ref b133), .val (.int (pp - (1 : Int32))), .val (.int ii), .val (.int r1)] [(.ref b133)])) _
        refine st153.trans ?_
        show Steps p.tables e below (T153.setTop (mkF m 272 #[.val (.int p1), .val (.int p2), .val (.int p3), .val (.int p4), .val (.int p5), .val (.int p6), .val (.int (1 : Int32)), .val (.int x0), .val (.int x1), .val (.int x2), .val (.int x0), .val (.int pp), .val (.ref b129), .val (.ref b133), .val (.int (pp - (1 : Int32))), .val (.int ii), .val (.int r1)] [(.int (pp - (1 : Int32)))])) _
        refine XS.iload X153.here hx rfl (hb hby at_272) rfl ?_
        show Steps p.tables e below (T153.setTop (mkF m 274 #[.val (.int p1), .val (.int p2), .val (.int p3), .val (.int p4), .val (.int p5), .val (.int p6), .val (.int (1 : Int32)), .val (.int x0), .val (.int x1), .val (.int x2), .val (.int x0), .val (.int pp), .val (.ref b129), .val (.ref b133), .val (.int (pp - (1 : Int32))), .val (.int ii), .val (.int r1)] [(.int (pp - (1 : Int32))), (.int (pp - (1 : Int32)))])) _
        refine XS.icmpNo X153.here hx rfl (hb hby at_274) rfl (teq (rfl : (pp - (1 : Int32)) = (pp - (1 : Int32)))).2 ?_
        show Steps p.tables e below (T153.setTop (mkF m 277 #[.val (.int p1), .val (.int p2), .val (.int p3), .val (.int p4), .val (.int p5), .val (.int p6), .val (.int (1 : Int32)), .val (.int x0), .val (.int x1), .val (.int x2), .val (.int x0), .val (.int pp), .val (.ref b129), .val (.ref b133), .val (.int (pp - (1 : Int32))), .val (.int ii), .val (.int r1)] [])) _
        refine XS.iconst X153.here hx rfl (hb hby at_277) ?_
        show Steps p.tables e below (T153.setTop (mkF m 278 #[.val (.int p1), .val (.int p2), .val (.int p3), .val (.int p4), .val (.int p5), .val (.int p6), .val (.int (1 : Int32)), .val (.int x0), .val (.int x1), .val (.int x2), .val (.int x0), .val (.int pp), .val (.ref b129), .val (.ref b133), .val (.int (pp - (1 : Int32))), .val (.int ii), .val (.int r1)] [(.int (1 : Int32))])) _
        refine XS.goto X153.here hx rfl (pc0 := 278) (pc' := 282) rfl (hb hby at_278) (by decide) (by decide) ?_
        exact kt)
      obtain ⟨fs, hr, hrun, hended, hE1, hE2, hE3, hE4⟩ := X153.leaveW hS145 (by rw [e153]; exact (Nat.le_refl _)) (v := some (.int (1 : Int32))) (fun h => by rw [Bd.returns] at h; cases h) (hlocks := hlk)
      refine ⟨_, _, P154 _ ?_, hrun, hended, _, _, rfl, ?_, hE1, hE2, hE3, hE4.mono (by decide) (by decide)⟩
      · show Steps p.tables e below (T153.setTop (mkF m 282 #[.val (.int p1), .val (.int p2), .val (.int p3), .val (.int p4), .val (.int p5), .val (.int p6), .val (.int (1 : Int32)), .val (.int x0), .val (.int x1), .val (.int x2), .val (.int x0), .val (.int pp), .val (.ref b129), .val (.ref b133), .val (.int (pp - (1 : Int32))), .val (.int ii), .val (.int r1)] [(.int (1 : Int32))])) _
        exact retN X153 hx (t := .boolean) Bd.returns (by simp) (hb hby at_282) hr
      · show Q0 n0 _ T153.heap _
        exact ⟨rfl, N153⟩
    · have P155 : ∀ t, Steps p.tables e below (T145.setTop (mkF m 192 #[.val (.int p1), .val (.int p2), .val (.int p3), .val (.int p4), .val (.int p5), .val (.int p6), .val (.int (1 : Int32)), .val (.int x0), .val (.int x1), .val (.int x2), .val (.int x0), .val (.int pp), .val (.ref b129), .val (.ref b133), .val (.int (pp - (1 : Int32))), .unset, .unset] [(.int (1 : Int32))])) t → Steps p.tables e below (s₁.setTop (entryFrame m #[(.int p1), (.int p2), (.int p3), (.int p4), (.int p5), (.int p6)] maxLocals)) t := fun t kt => P146 t (by
        show Steps p.tables e below (T145.setTop (mkF m 188 #[.val (.int p1), .val (.int p2), .val (.int p3), .val (.int p4), .val (.int p5), .val (.int p6), .val (.int (1 : Int32)), .val (.int x0), .val (.int x1), .val (.int x2), .val (.int x0), .val (.int pp), .val (.ref b129), .val (.ref b133), .val (.int (pp - (1 : Int32))), .unset, .unset] [(.int (pp - (1 : Int32)))])) _
        refine XS.ifNo X145.here hx rfl (hb hby at_188) rfl ((if0 _ _).trans (flt hc188_147).2.2.1) ?_
        show Steps p.tables e below (T145.setTop (mkF m 191 #[.val (.int p1), .val (.int p2), .val (.int p3), .val (.int p4), .val (.int p5), .val (.int p6), .val (.int (1 : Int32)), .val (.int x0), .val (.int x1), .val (.int x2), .val (.int x0), .val (.int pp), .val (.ref b129), .val (.ref b133), .val (.int (pp - (1 : Int32))), .unset, .unset] [])) _
        refine XS.iconst X145.here hx rfl (hb hby at_191) ?_
        exact kt)
      obtain ⟨fs, hr, hrun, hended, hE1, hE2, hE3, hE4⟩ := X145.leaveW hS145 (Nat.le_refl _) (v := some (.int (1 : Int32))) (fun h => by rw [Bd.returns] at h; cases h) (hlocks := hlk)
      refine ⟨_, _, P155 _ ?_, hrun, hended, _, _, rfl, ?_, hE1, hE2, hE3, hE4.mono (by decide) (by decide)⟩
      · show Steps p.tables e below (T145.setTop (mkF m 192 #[.val (.int p1), .val (.int p2), .val (.int p3), .val (.int p4), .val (.int p5), .val (.int p6), .val (.int (1 : Int32)), .val (.int x0), .val (.int x1), .val (.int x2), .val (.int x0), .val (.int pp), .val (.ref b129), .val (.ref b133), .val (.int (pp - (1 : Int32))), .unset, .unset] [(.int (1 : Int32))])) _
        exact retN X145 hx (t := .boolean) Bd.returns (by simp) (hb hby at_192) hr
      · show Q0 n0 _ T145.heap _
        exact ⟨rfl, N145⟩
  · obtain ⟨_, _, ⟨T156, L156, k156, n156⟩, -, X156, ⟨Lc156, hQ156, l156, y156, z156⟩, st156⟩ := Jvm.LawKit.callS X0 hx (y := (⟨"java/lang/Math", "max", "(II)I"⟩ : MethodName)) hown (mvT hZ (hw _ (List.mem_of_getElem? (i := 0) rfl))) (mvT hZ (hw _ (List.mem_of_getElem? (i := 1) rfl))) (mvT hZ (hw _ (List.mem_of_getElem? (i := 2) rfl))) (mvT hZ (hw _ (List.mem_of_getElem? (i := 3) rfl))) (by decide) (backOf (W := 0)  (rmMx l Z a0 hw [] (1 : Int32) ((x1 + (1 : Int32)) + (p5 &&& (255 : Int32))) h0) hZ (hw _ (List.mem_of_getElem? (i := 3) rfl)) (hw _ (List.mem_of_getElem? (i := 2) rfl)) (by decide) (by decide)) (g := (mkF m 83 #[.val (.int p1), .val (.int p2), .val (.int p3), .val (.int p4), .val (.int p5), .val (.int p6), .val (.int (2 : Int32)), .val (.int x0), .val (.int x1), .val (.int x2), .val (.int x1), .unset, .unset, .unset, .unset, .unset, .unset] [(.int ((x1 + (1 : Int32)) + (p5 &&& (255 : Int32)))), (.int (1 : Int32))])) rfl (by rw [hml]; rfl) (argsL := [(.int (1 : Int32)), (.int ((x1 + (1 : Int32)) + (p5 &&& (255 : Int32))))]) (rest := []) (lenOf pd__II_I rfl) rfl (by show 2 * 0 + _ ≤ _; exact Nat.le_of_eq rfl) (hb hby at_83) (fun _ _ => ⟨rfl, e0, (by decide : 0 + 0 ≤ _), (by decide : 0 + 0 ≤ _)⟩)
    dsimp only [Pt.U, Pt.locs, Pt.cells, Pt.slots] at X156 l156 y156 z156 st156 hQ156
    subst l156 y156 z156
    obtain ⟨rfl, rfl, e156⟩ := hQ156
    have N156 := Fr.app N0 (Fr.nil n0)
    have P157 : ∀ t, Steps p.tables e below (T156.setTop (mkF m 88 #[.val (.int p1), .val (.int p2), .val (.int p3), .val (.int p4), .val (.int p5), .val (.int p6), .val (.int (2 : Int32)), .val (.int x0), .val (.int x1), .val (.int x2), .val (.int x1), .val (.int (mxI (1 : Int32) ((x1 + (1 : Int32)) + (p5 &&& (255 : Int32))))), .unset, .unset, .unset, .unset, .unset] [])) t → Steps p.tables e below (s₁.setTop (entryFrame m #[(.int p1), (.int p2), (.int p3), (.int p4), (.int p5), (.int p6)] maxLocals)) t := fun t kt => P103 t (by
      show Steps p.tables e below (s₁.setTop (mkF m 36 #[.val (.int p1), .val (.int p2), .val (.int p3), .val (.int p4), .val (.int p5), .val (.int p6), .val (.int (2 : Int32)), .val (.int x0), .val (.int x1), .val (.int x2), .unset, .unset, .unset, .unset, .unset, .unset, .unset] [])) _
      refine XS.iload X0.here hx rfl (hb hby at_36) rfl ?_
      show Steps p.tables e below (s₁.setTop (mkF m 38 #[.val (.int p1), .val (.int p2), .val (.int p3), .val (.int p4), .val (.int p5), .val (.int p6), .val (.int (2 : Int32)), .val (.int x0), .val (.int x1), .val (.int x2), .unset, .unset, .unset, .unset, .unset, .unset, .unset] [(.int (2 : Int32))])) _
      refine XS.ifYes X0.here hx rfl (pc0 := 38) (pc' := 45) rfl (hb hby at_38) rfl ((if0 _ _).trans (feq ((by decide) : ¬ ((2 : Int32) = (0 : Int32)))).2) (by decide) (by decide) ?_
      show Steps p.tables e below (s₁.setTop (mkF m 45 #[.val (.int p1), .val (.int p2), .val (.int p3), .val (.int p4), .val (.int p5), .val (.int p6), .val (.int (2 : Int32)), .val (.int x0), .val (.int x1), .val (.int x2), .unset, .unset, .unset, .unset, .unset, .unset, .unset] [])) _
      refine XS.iload X0.here hx rfl (hb hby at_45) rfl ?_
      show Steps p.tables e below (s₁.setTop (mkF m 47 #[.val (.int p1), .val (.int p2), .val (.int p3), .val (.int p4), .val (.int p5), .val (.int p6), .val (.int (2 : Int32)), .val (.int x0), .val (.int x1), .val (.int x2), .unset, .unset, .unset, .unset, .unset, .unset, .unset] [(.int (2 : Int32))])) _
      refine XS.iconst X0.here hx rfl (hb hby at_47) ?_
      show Steps p.tables e below (s₁.setTop (mkF m 48 #[.val (.int p1), .val (.int p2), .val (.int p3), .val (.int p4), .val (.int p5), .val (.int p6), .val (.int (2 : Int32)), .val (.int x0), .val (.int x1), .val (.int x2), .unset, .unset, .unset, .unset, .unset, .unset, .unset] [(.int (1 : Int32)), (.int (2 : Int32))])) _
      refine XS.icmpYes X0.here hx rfl (pc0 := 48) (pc' := 56) rfl (hb hby at_48) rfl (feq ((by decide) : ¬ ((2 : Int32) = (1 : Int32)))).2 (by decide) (by decide) ?_
      show Steps p.tables e below (s₁.setTop (mkF m 56 #[.val (.int p1), .val (.int p2), .val (.int p3), .val (.int p4), .val (.int p5), .val (.int p6), .val (.int (2 : Int32)), .val (.int x0), .val (.int x1), .val (.int x2), .unset, .unset, .unset, .unset, .unset, .unset, .unset] [])) _
      refine XS.iload X0.here hx rfl (hb hby at_56) rfl ?_
      show Steps p.tables e below (s₁.setTop (mkF m 58 #[.val (.int p1), .val (.int p2), .val (.int p3), .val (.int p4), .val (.int p5), .val (.int p6), .val (.int (2 : Int32)), .val (.int x0), .val (.int x1), .val (.int x2), .unset, .unset, .unset, .unset, .unset, .unset, .unset] [(.int (2 : Int32))])) _
      refine XS.iconst X0.here hx rfl (hb hby at_58) ?_
      show Steps p.tables e below (s₁.setTop (mkF m 59 #[.val (.int p1), .val (.int p2), .val (.int p3), .val (.int p4), .val (.int p5), .val (.int p6), .val (.int (2 : Int32)), .val (.int x0), .val (.int x1), .val (.int x2), .unset, .unset, .unset, .unset, .unset, .unset, .unset] [(.int (2 : Int32)), (.int (2 : Int32))])) _
      refine XS.icmpNo X0.here hx rfl (hb hby at_59) rfl (teq ((by decide) : (2 : Int32) = (2 : Int32))).2 ?_
      show Steps p.tables e below (s₁.setTop (mkF m 62 #[.val (.int p1), .val (.int p2), .val (.int p3), .val (.int p4), .val (.int p5), .val (.int p6), .val (.int (2 : Int32)), .val (.int x0), .val (.int x1), .val (.int x2), .unset, .unset, .unset, .unset, .unset, .unset, .unset] [])) _
      refine XS.iload X0.here hx rfl (hb hby at_62) rfl ?_
      show Steps p.tables e below (s₁.setTop (mkF m 64 #[.val (.int p1), .val (.int p2), .val (.int p3), .val (.int p4), .val (.int p5), .val (.int p6), .val (.int (2 : Int32)), .val (.int x0), .val (.int x1), .val (.int x2), .unset, .unset, .unset, .unset, .unset, .unset, .unset] [(.int x1)])) _
      refine XS.goto X0.here hx rfl (pc0 := 64) (pc' := 69) rfl (hb hby at_64) (by decide) (by decide) ?_
      show Steps p.tables e below (s₁.setTop (mkF m 69 #[.val (.int p1), .val (.int p2), .val (.int p3), .val (.int p4), .val (.int p5), .val (.int p6), .val (.int (2 : Int32)), .val (.int x0), .val (.int x1), .val (.int x2), .unset, .unset, .unset, .unset, .unset, .unset, .unset] [(.int x1)])) _
      refine XS.istore X0.here hx rfl (hb hby at_69) rfl (l' := #[.val (.int p1), .val (.int p2), .val (.int p3), .val (.int p4), .val (.int p5), .val (.int p6), .val (.int (2 : Int32)), .val (.int x0), .val (.int x1), .val (.int x2), .val (.int x1), .unset, .unset, .unset, .unset, .unset, .unset]) rfl ?_
      show Steps p.tables e below (s₁.setTop (mkF m 71 #[.val (.int p1), .val (.int p2), .val (.int p3), .val (.int p4), .val (.int p5), .val (.int p6), .val (.int (2 : Int32)), .val (.int x0), .val (.int x1), .val (.int x2), .val (.int x1), .unset, .unset, .unset, .unset, .unset, .unset] [])) _
      refine XS.iconst X0.here hx rfl (hb hby at_71) ?_
      show Steps p.tables e below (s₁.setTop (mkF m 72 #[.val (.int p1), .val (.int p2), .val (.int p3), .val (.int p4), .val (.int p5), .val (.int p6), .val (.int (2 : Int32)), .val (.int x0), .val (.int x1), .val (.int x2), .val (.int x1), .unset, .unset, .unset, .unset, .unset, .unset] [(.int (1 : Int32))])) _
      refine XS.iload X0.here hx rfl (hb hby at_72) rfl ?_
      show Steps p.tables e below (s₁.setTop (mkF m 74 #[.val (.int p1), .val (.int p2), .val (.int p3), .val (.int p4), .val (.int p5), .val (.int p6), .val (.int (2 : Int32)), .val (.int x0), .val (.int x1), .val (.int x2), .val (.int x1), .unset, .unset, .unset, .unset, .unset, .unset] [(.int x1), (.int (1 : Int32))])) _
      refine XS.iconst X0.here hx rfl (hb hby at_74) ?_
      show Steps p.tables e below (s₁.setTop (mkF m 75 #[.val (.int p1), .val (.int p2), .val (.int p3), .val (.int p4), .val (.int p5), .val (.int p6), .val (.int (2 : Int32)), .val (.int x0), .val (.int x1), .val (.int x2), .val (.int x1), .unset, .unset, .unset, .unset, .unset, .unset] [(.int (1 : Int32)), (.int x1), (.int (1 : Int32))])) _
      refine XS.iadd X0.here hx rfl (hb hby at_75) rfl ?_
      show Steps p.tables e below (s₁.setTop (mkF m 76 #[.val (.int p1), .val (.int p2), .val (.int p3), .val (.int p4), .val (.int p5), .val (.int p6), .val (.int (2 : Int32)), .val (.int x0), .val (.int x1), .val (.int x2), .val (.int x1), .unset, .unset, .unset, .unset, .unset, .unset] [(.int (x1 + (1 : Int32))), (.int (1 : Int32))])) _
      refine XS.iload X0.here hx rfl (hb hby at_76) rfl ?_
      show Steps p.tables e below (s₁.setTop (mkF m 78 #[.val (.int p1), .val (.int p2), .val (.int p3), .val (.int p4), .val (.int p5), .val (.int p6), .val (.int (2 : Int32)), .val (.int x0), .val (.int x1), .val (.int x2), .val (.int x1), .unset, .unset, .unset, .unset, .unset, .unset] [(.int p5), (.int (x1 + (1 : Int32))), (.int (1 : Int32))])) _
      refine XS.sipush X0.here hx rfl (hb hby at_78) ?_
      show Steps p.tables e below (s₁.setTop (mkF m 81 #[.val (.int p1), .val (.int p2), .val (.int p3), .val (.int p4), .val (.int p5), .val (.int p6), .val (.int (2 : Int32)), .val (.int x0), .val (.int x1), .val (.int x2), .val (.int x1), .unset, .unset, .unset, .unset, .unset, .unset] [(.int (255 : Int32)), (.int p5), (.int (x1 + (1 : Int32))), (.int (1 : Int32))])) _
      refine XS.iand X0.here hx rfl (hb hby at_81) rfl ?_
      show Steps p.tables e below (s₁.setTop (mkF m 82 #[.val (.int p1), .val (.int p2), .val (.int p3), .val (.int p4), .val (.int p5), .val (.int p6), .val (.int (2 : Int32)), .val (.int x0), .val (.int x1), .val (.int x2), .val (.int x1), .unset, .unset, .unset, .unset, .unset, .unset] [(.int (p5 &&& (255 : Int32))), (.int (x1 + (1 : Int32))), (.int (1 : Int32))])) _
      refine XS.iadd X0.here hx rfl (hb hby at_82) rfl ?_
      show Steps p.tables e below (s₁.setTop (mkF m 83 #[.val (.int p1), .val (.int p2), .val (.int p3), .val (.int p4), .val (.int p5), .val (.int p6), .val (.int (2 : Int32)), .val (.int x0), .val (.int x1), .val (.int x2), .val (.int x1), .unset, .unset, .unset, .unset, .unset, .unset] [(.int ((x1 + (1 : Int32)) + (p5 &&& (255 : Int32)))), (.int (1 : Int32))])) _
      refine st156 _ ?_
      show Steps p.tables e below (T156.setTop (mkF m 86 #[.val (.int p1), .val (.int p2), .val (.int p3), .val (.int p4), .val (.int p5), .val (.int p6), .val (.int (2 : Int32)), .val (.int x0), .val (.int x1), .val (.int x2), .val (.int x1), .unset, .unset, .unset, .unset, .unset, .unset] [(.int (mxI (1 : Int32) ((x1 + (1 : Int32)) + (p5 &&& (255 : Int32)))))])) _
      refine XS.istore X156.here hx rfl (hb hby at_86) rfl (l' := #[.val (.int p1), .val (.int p2), .val (.int p3), .val (.int p4), .val (.int p5), .val (.int p6), .val (.int (2 : Int32)), .val (.int x0), .val (.int x1), .val (.int x2), .val (.int x1), .val (.int (mxI (1 : Int32) ((x1 + (1 : Int32)) + (p5 &&& (255 : Int32))))), .unset, .unset, .unset, .unset, .unset]) rfl ?_
      exact kt)
    obtain ⟨pp, hpp⟩ : ∃ z : Int32, z = (mxI (1 : Int32) ((x1 + (1 : Int32)) + (p5 &&& (255 : Int32)))) := ⟨_, rfl⟩
    rw [← hpp] at P157
    have hpq := own_p x1 p5 pp (by omega) hpp
    have hp1 : ¬ pp < (1 : Int32) := own_nlt _ 1 rfl hpq.1
    have hx0 : ¬ x0 < (0 : Int32) := own_nlt _ 0 rfl (by omega)
    have hy0 : x0 < pp := Int32.lt_iff_toInt_lt.mpr (by omega)
    have hx1 : ¬ x1 < (0 : Int32) := own_nlt _ 0 rfl (by omega)
    have hy1 : x1 < pp := Int32.lt_iff_toInt_lt.mpr (by omega)
    obtain ⟨T158, h158, k158, X158, e158, E158, A158, B158, st158⟩ := newPE X156 hx hZ (hw _ (List.mem_of_getElem? (i := 4) rfl)) e156 (g := (mkF m 127 #[.val (.int p1), .val (.int p2), .val (.int p3), .val (.int p4), .val (.int p5), .val (.int p6), .val (.int (2 : Int32)), .val (.int x0), .val (.int x1), .val (.int x2), .val (.int x1), .val (.int pp), .unset, .unset, .unset, .unset, .unset] [(.int (2 : Int32))])) rfl (hb hby at_127) rfl (by decide) (cap := 2) (by decide) (by decide) (by decide) (by decide) (ad := "[I") (by decide)
    obtain ⟨b158, g158⟩ : ∃ z, z = h0.size := ⟨_, rfl⟩
    rw [← g158] at A158 B158 st158
    have gb158 : n0 ≤ b158 := Nat.le_trans Z0 (Nat.le_of_eq g158.symm)
    have sz158 : n0 ≤ h158.size := Nat.le_trans Z0 E158.1
    have hk158 := Nat.le_trans hk0 E158.1
    have V158 : Arv Z h158 b158 k158 .int (2 : Int32) [(.int (0 : Int32)), (.int (0 : Int32))] (.int (0 : Int32)) := (Arv.new A158 (by decide)).pad (pad_rep [] (.int (0 : Int32)) 2)
    obtain ⟨cl159, Ar159, q159, S159, Nn159, H159, G159⟩ := id V158
    have hin159 : ¬ ((0 : Int32) < 0 ∨ cl159.slots.size ≤ ((0 : Int32)).toNatClampNeg) := inb_of S159 ⟨by decide, by decide⟩
    obtain ⟨T160, h160, X160, e160, W160, st160⟩ := stI X158 hx hZ e158 Ar159 (j := (0 : Int32)) hin159 (g := (mkF m 133 #[.val (.int p1), .val (.int p2), .val (.int p3), .val (.int p4), .val (.int p5), .val (.int p6), .val (.int (2 : Int32)), .val (.int x0), .val (.int x1), .val (.int x2), .val (.int x1), .val (.int pp), .unset, .unset, .unset, .unset, .unset] [(.int x1), (.int (0 : Int32)), (.ref b158), (.ref b158)])) rfl rfl (hb hby at_133)
    have f161 := B158.wr W160
    have V160 : Arv Z h160 b158 k158 .int (2 : Int32) [(.int x1), (.int (0 : Int32))] (.int (0 : Int32)) := Arv.set Ar159 q159 S159 Nn159 H159 G159 rfl W160 0 rfl (Nat.le_of_ble_eq_true rfl)
    have N160 := Fr.snoc X160 N156 gb158
    have sz160 : n0 ≤ h160.size := Nat.le_trans sz158 (Keep.of_wr W160).1
    have hk160 := Nat.le_trans hk158 (Keep.of_wr W160).1
    obtain ⟨cl162, Ar162, q162, S162, Nn162, H162, G162⟩ := id V160
    have hin162 : ¬ ((1 : Int32) < 0 ∨ cl162.slots.size ≤ ((1 : Int32)).toNatClampNeg) := inb_of S162 ⟨by decide, by decide⟩
    obtain ⟨T163, h163, X163, e163, W163, st163⟩ := stI X160 hx hZ e160 Ar162 (j := (1 : Int32)) hin162 (g := (mkF m 138 #[.val (.int p1), .val (.int p2), .val (.int p3), .val (.int p4), .val (.int p5), .val (.int p6), .val (.int (2 : Int32)), .val (.int x0), .val (.int x1), .val (.int x2), .val (.int x1), .val (.int pp), .unset, .unset, .unset, .unset, .unset] [(.int x0), (.int (1 : Int32)), (.ref b158), (.ref b158)])) rfl rfl (hb hby at_138)
    have f164 := f161.wr W163
    have V163 : Arv Z h163 b158 k158 .int (2 : Int32) [(.int x1), (.int x0)] (.int (0 : Int32)) := Arv.set Ar162 q162 S162 Nn162 H162 G162 rfl W163 1 rfl (Nat.le_of_ble_eq_true rfl)
    have N163 := Fr.snoc X163 N160 gb158
    have sz163 : n0 ≤ h163.size := Nat.le_trans sz160 (Keep.of_wr W163).1
    have hk163 := Nat.le_trans hk160 (Keep.of_wr W163).1
    obtain ⟨T165, h165, X165, e165, E165, A165, D165, -, st165⟩ := newO X163 hx hZ hown (hw _ (List.mem_of_getElem? (i := 5) rfl)) (hw _ (List.mem_of_getElem? (i := 6) rfl)) (hw _ (List.mem_of_getElem? (i := 7) rfl)) e163 (g := (mkF m 164 #[.val (.int p1), .val (.int p2), .val (.int p3), .val (.int p4), .val (.int p5), .val (.int p6), .val (.int (2 : Int32)), .val (.int x0), .val (.int x1), .val (.int x2), .val (.int x1), .val (.int pp), .val (.ref b158), .unset, .unset, .unset, .unset] [])) rfl (hb hby at_164) (by decide) (by decide)
    obtain ⟨b165, g165⟩ : ∃ z, z = h163.size := ⟨_, rfl⟩
    rw [← g165] at A165 D165 st165
    have ne165_b158 : b158 ≠ b165 := Nat.ne_of_lt (Nat.lt_of_lt_of_le f164.lt (Nat.le_of_eq g165.symm))
    have gb165 : n0 ≤ b165 := Nat.le_trans sz163 (Nat.le_of_eq g165.symm)
    have sz165 : n0 ≤ h165.size := Nat.le_trans sz163 E165.1
    have hk165 := Nat.le_trans hk163 E165.1
    have f166 := f164.ext E165
    have f167 := V163.ext E165
    have F165_name : Fld Z h165 b165 "com/example/allot/allot/partition/Topic" "name" "Ljava/lang/String;" .null := D165 (Or.inr (hw _ (List.mem_of_getElem? (i := 57) rfl))) (ty := (.object "java/lang/String")) (by decide)
    have F165_partitions : Fld Z h165 b165 "com/example/allot/allot/partition/Topic" "partitions" "I" (.int (0 : Int32)) := D165 (Or.inr (hw _ (List.mem_of_getElem? (i := 59) rfl))) (ty := .int) (by decide)
    have F165_unavailable : Fld Z h165 b165 "com/example/allot/allot/partition/Topic" "unavailable" "[I" .null := D165 (Or.inr (hw _ (List.mem_of_getElem? (i := 61) rfl))) (ty := (.array .int)) (by decide)
    have P168 : ∀ t, Steps p.tables e below (T165.setTop (mkF m 168 #[.val (.int p1), .val (.int p2), .val (.int p3), .val (.int p4), .val (.int p5), .val (.int p6), .val (.int (2 : Int32)), .val (.int x0), .val (.int x1), .val (.int x2), .val (.int x1), .val (.int pp), .val (.ref b158), .unset, .unset, .unset, .unset] [(.ref b165), (.ref b165)])) t → Steps p.tables e below (s₁.setTop (entryFrame m #[(.int p1), (.int p2), (.int p3), (.int p4), (.int p5), (.int p6)] maxLocals)) t := fun t kt => P157 t (by
      show Steps p.tables e below (T156.setTop (mkF m 88 #[.val (.int p1), .val (.int p2), .val (.int p3), .val (.int p4), .val (.int p5), .val (.int p6), .val (.int (2 : Int32)), .val (.int x0), .val (.int x1), .val (.int x2), .val (.int x1), .val (.int pp), .unset, .unset, .unset, .unset, .unset] [])) _
      refine XS.iload X156.here hx rfl (hb hby at_88) rfl ?_
      show Steps p.tables e below (T156.setTop (mkF m 90 #[.val (.int p1), .val (.int p2), .val (.int p3), .val (.int p4), .val (.int p5), .val (.int p6), .val (.int (2 : Int32)), .val (.int x0), .val (.int x1), .val (.int x2), .val (.int x1), .val (.int pp), .unset, .unset, .unset, .unset, .unset] [(.int (2 : Int32))])) _
      refine XS.ifYes X156.here hx rfl (pc0 := 90) (pc' := 101) rfl (hb hby at_90) rfl ((if0 _ _).trans (feq ((by decide) : ¬ ((2 : Int32) = (0 : Int32)))).2) (by decide) (by decide) ?_
      show Steps p.tables e below (T156.setTop (mkF m 101 #[.val (.int p1), .val (.int p2), .val (.int p3), .val (.int p4), .val (.int p5), .val (.int p6), .val (.int (2 : Int32)), .val (.int x0), .val (.int x1), .val (.int x2), .val (.int x1), .val (.int pp), .unset, .unset, .unset, .unset, .unset] [])) _
      refine XS.iload X156.here hx rfl (hb hby at_101) rfl ?_
      show Steps p.tables e below (T156.setTop (mkF m 103 #[.val (.int p1), .val (.int p2), .val (.int p3), .val (.int p4), .val (.int p5), .val (.int p6), .val (.int (2 : Int32)), .val (.int x0), .val (.int x1), .val (.int x2), .val (.int x1), .val (.int pp), .unset, .unset, .unset, .unset, .unset] [(.int (2 : Int32))])) _
      refine XS.iconst X156.here hx rfl (hb hby at_103) ?_
      show Steps p.tables e below (T156.setTop (mkF m 104 #[.val (.int p1), .val (.int p2), .val (.int p3), .val (.int p4), .val (.int p5), .val (.int p6), .val (.int (2 : Int32)), .val (.int x0), .val (.int x1), .val (.int x2), .val (.int x1), .val (.int pp), .unset, .unset, .unset, .unset, .unset] [(.int (1 : Int32)), (.int (2 : Int32))])) _
      refine XS.icmpYes X156.here hx rfl (pc0 := 104) (pc' := 120) rfl (hb hby at_104) rfl (feq ((by decide) : ¬ ((2 : Int32) = (1 : Int32)))).2 (by decide) (by decide) ?_
      show Steps p.tables e below (T156.setTop (mkF m 120 #[.val (.int p1), .val (.int p2), .val (.int p3), .val (.int p4), .val (.int p5), .val (.int p6), .val (.int (2 : Int32)), .val (.int x0), .val (.int x1), .val (.int x2), .val (.int x1), .val (.int pp), .unset, .unset, .unset, .unset, .unset] [])) _
      refine XS.iload X156.here hx rfl (hb hby at_120) rfl ?_
      show Steps p.tables e below (T156.setTop (mkF m 122 #[.val (.int p1), .val (.int p2), .val (.int p3), .val (.int p4), .val (.int p5), .val (.int p6), .val (.int (2 : Int32)), .val (.int x0), .val (.int x1), .val (.int x2), .val (.int x1), .val (.int pp), .unset, .unset, .unset, .unset, .unset] [(.int (2 : Int32))])) _
      refine XS.iconst X156.here hx rfl (hb hby at_122) ?_
      show Steps p.tables e below (T156.setTop (mkF m 123 #[.val (.int p1), .val (.int p2), .val (.int p3), .val (.int p4), .val (.int p5), .val (.int p6), .val (.int (2 : Int32)), .val (.int x0), .val (.int x1), .val (.int x2), .val (.int x1), .val (.int pp), .unset, .unset, .unset, .unset, .unset] [(.int (2 : Int32)), (.int (2 : Int32))])) _
      refine XS.icmpNo X156.here hx rfl (hb hby at_123) rfl (teq ((by decide) : (2 : Int32) = (2 : Int32))).2 ?_
      show Steps p.tables e below (T156.setTop (mkF m 126 #[.val (.int p1), .val (.int p2), .val (.int p3), .val (.int p4), .val (.int p5), .val (.int p6), .val (.int (2 : Int32)), .val (.int x0), .val (.int x1), .val (.int x2), .val (.int x1), .val (.int pp), .unset, .unset, .unset, .unset, .unset] [])) _
      refine XS.iconst X156.here hx rfl (hb hby at_126) ?_
      show Steps p.tables e below (T156.setTop (mkF m 127 #[.val (.int p1), .val (.int p2), .val (.int p3), .val (.int p4), .val (.int p5), .val (.int p6), .val (.int (2 : Int32)), .val (.int x0), .val (.int x1), .val (.int x2), .val (.int x1), .val (.int pp), .unset, .unset, .unset, .unset, .unset] [(.int (2 : Int32))])) _
      refine st158 _ ?_
      show Steps p.tables e below (T158.setTop (mkF m 129 #[.val (.int p1), .val (.int p2), .val (.int p3), .val (.int p4), .val (.int p5), .val (.int p6), .val (.int (2 : Int32)), .val (.int x0), .val (.int x1), .val (.int x2), .val (.int x1), .val (.int pp), .unset, .unset, .unset, .unset, .unset] [(.ref b158)])) _
      refine XS.dup X158.here hx rfl (hb hby at_129) rfl rfl ?_
      show Steps p.tables e below (T158.setTop (mkF m 130 #[.val (.int p1), .val (.int p2), .val (.int p3), .val (.int p4), .val (.int p5), .val (.int p6), .val (.int (2 : Int32)), .val (.int x0), .val (.int x1), .val (.int x2), .val (.int x1), .val (.int pp), .unset, .unset, .unset, .unset, .unset] [(.ref b158), (.ref b158)])) _
      refine XS.iconst X158.here hx rfl (hb hby at_130) ?_
      show Steps p.tables e below (T158.setTop (mkF m 131 #[.val (.int p1), .val (.int p2), .val (.int p3), .val (.int p4), .val (.int p5), .val (.int p6), .val (.int (2 : Int32)), .val (.int x0), .val (.int x1), .val (.int x2), .val (.int x1), .val (.int pp), .unset, .unset, .unset, .unset, .unset] [(.int (0 : Int32)), (.ref b158), (.ref b158)])) _
      refine XS.iload X158.here hx rfl (hb hby at_131) rfl ?_
      show Steps p.tables e below (T158.setTop (mkF m 133 #[.val (.int p1), .val (.int p2), .val (.int p3), .val (.int p4), .val (.int p5), .val (.int p6), .val (.int (2 : Int32)), .val (.int x0), .val (.int x1), .val (.int x2), .val (.int x1), .val (.int pp), .unset, .unset, .unset, .unset, .unset] [(.int x1), (.int (0 : Int32)), (.ref b158), (.ref b158)])) _
      refine st160 _ ?_
      show Steps p.tables e below (T160.setTop (mkF m 134 #[.val (.int p1), .val (.int p2), .val (.int p3), .val (.int p4), .val (.int p5), .val (.int p6), .val (.int (2 : Int32)), .val (.int x0), .val (.int x1), .val (.int x2), .val (.int x1), .val (.int pp), .unset, .unset, .unset, .unset, .unset] [(.ref b158)])) _
      refine XS.dup X160.here hx rfl (hb hby at_134) rfl rfl ?_
      show Steps p.tables e below (T160.setTop (mkF m 135 #[.val (.int p1), .val (.int p2), .val (.int p3), .val (.int p4), .val (.int p5), .val (.int p6), .val (.int (2 : Int32)), .val (.int x0), .val (.int x1), .val (.int x2), .val (.int x1), .val (.int pp), .unset, .unset, .unset, .unset, .unset] [(.ref b158), (.ref b158)])) _
      refine XS.iconst X160.here hx rfl (hb hby at_135) ?_
      show Steps p.tables e below (T160.setTop (mkF m 136 #[.val (.int p1), .val (.int p2), .val (.int p3), .val (.int p4), .val (.int p5), .val (.int p6), .val (.int (2 : Int32)), .val (.int x0), .val (.int x1), .val (.int x2), .val (.int x1), .val (.int pp), .unset, .unset, .unset, .unset, .unset] [(.int (1 : Int32)), (.ref b158), (.ref b158)])) _
      refine XS.iload X160.here hx rfl (hb hby at_136) rfl ?_
      show Steps p.tables e below (T160.setTop (mkF m 138 #[.val (.int p1), .val (.int p2), .val (.int p3), .val (.int p4), .val (.int p5), .val (.int p6), .val (.int (2 : Int32)), .val (.int x0), .val (.int x1), .val (.int x2), .val (.int x1), .val (.int pp), .unset, .unset, .unset, .unset, .unset] [(.int x0), (.int (1 : Int32)), (.ref b158), (.ref b158)])) _
      refine st163 _ ?_
      show Steps p.tables e below (T163.setTop (mkF m 139 #[.val (.int p1), .val (.int p2), .val (.int p3), .val (.int p4), .val (.int p5), .val (.int p6), .val (.int (2 : Int32)), .val (.int x0), .val (.int x1), .val (.int x2), .val (.int x1), .val (.int pp), .unset, .unset, .unset, .unset, .unset] [(.ref b158)])) _
      refine XS.astore X163.here hx rfl (hb hby at_139) rfl rfl (l' := #[.val (.int p1), .val (.int p2), .val (.int p3), .val (.int p4), .val (.int p5), .val (.int p6), .val (.int (2 : Int32)), .val (.int x0), .val (.int x1), .val (.int x2), .val (.int x1), .val (.int pp), .val (.ref b158), .unset, .unset, .unset, .unset]) rfl ?_
      show Steps p.tables e below (T163.setTop (mkF m 141 #[.val (.int p1), .val (.int p2), .val (.int p3), .val (.int p4), .val (.int p5), .val (.int p6), .val (.int (2 : Int32)), .val (.int x0), .val (.int x1), .val (.int x2), .val (.int x1), .val (.int pp), .val (.ref b158), .unset, .unset, .unset, .unset] [])) _
      refine XS.goto X163.here hx rfl (pc0 := 141) (pc' := 164) rfl (hb hby at_141) (by decide) (by decide) ?_
      show Steps p.tables e below (T163.setTop (mkF m 164 #[.val (.int p1), .val (.int p2), .val (.int p3), .val (.int p4), .val (.int p5), .val (.int p6), .val (.int (2 : Int32)), .val (.int x0), .val (.int x1), .val (.int x2), .val (.int x1), .val (.int pp), .val (.ref b158), .unset, .unset, .unset, .unset] [])) _
      refine st165 _ ?_
      show Steps p.tables e below (T165.setTop (mkF m 167 #[.val (.int p1), .val (.int p2), .val (.int p3), .val (.int p4), .val (.int p5), .val (.int p6), .val (.int (2 : Int32)), .val (.int x0), .val (.int x1), .val (.int x2), .val (.int x1), .val (.int pp), .val (.ref b158), .unset, .unset, .unset, .unset] [(.ref b165)])) _
      refine XS.dup X165.here hx rfl (hb hby at_167) rfl rfl ?_
      exact kt)
    obtain ⟨sa169, T169, h169, j169, X169, e169, E169, hS169, hk169, hZ, hown, st169⟩ := ldcS X165 hx hZ hown (hw _ (List.mem_of_getElem? (i := 8) rfl)) (own_wS hw) e165 hS0 hk165 (g := (mkF m 168 #[.val (.int p1), .val (.int p2), .val (.int p3), .val (.int p4), .val (.int p5), .val (.int p6), .val (.int (2 : Int32)), .val (.int x0), .val (.int x1), .val (.int x2), .val (.int x1), .val (.int pp), .val (.ref b158), .unset, .unset, .unset, .unset] [(.ref b165), (.ref b165)])) rfl (hb hby at_168) (n := 4) (by decide) (by decide) (by decide) (by decide)
    have f170 := f166.ext E169
    have f171 := f167.ext E169
    have f172 := A165.ext E169
    have f173 := F165_name.ext E169
    have f174 := F165_partitions.ext E169
    have f175 := F165_unavailable.ext E169
    have sz169 : n0 ≤ h169.size := Nat.le_trans sz165 E169.1
    have P176 : ∀ t, Steps p.tables e below (T169.setTop (mkF m 174 #[.val (.int p1), .val (.int p2), .val (.int p3), .val (.int p4), .val (.int p5), .val (.int p6), .val (.int (2 : Int32)), .val (.int x0), .val (.int x1), .val (.int x2), .val (.int x1), .val (.int pp), .val (.ref b158), .unset, .unset, .unset, .unset] [(.ref b158), (.int pp), (.ref sa169), (.ref b165), (.ref b165)])) t → Steps p.tables e below (s₁.setTop (entryFrame m #[(.int p1), (.int p2), (.int p3), (.int p4), (.int p5), (.int p6)] maxLocals)) t := fun t kt => P168 t (by
      show Steps p.tables e below (T165.setTop (mkF m 168 #[.val (.int p1), .val (.int p2), .val (.int p3), .val (.int p4), .val (.int p5), .val (.int p6), .val (.int (2 : Int32)), .val (.int x0), .val (.int x1), .val (.int x2), .val (.int x1), .val (.int pp), .val (.ref b158), .unset, .unset, .unset, .unset] [(.ref b165), (.ref b165)])) _
      refine st169 _ ?_
      show Steps p.tables e below (T169.setTop (mkF m 170 #[.val (.int p1), .val (.int p2), .val (.int p3), .val (.int p4), .val (.int p5), .val (.int p6), .val (.int (2 : Int32)), .val (.int x0), .val (.int x1), .val (.int x2), .val (.int x1), .val (.int pp), .val (.ref b158), .unset, .unset, .unset, .unset] [(.ref sa169), (.ref b165), (.ref b165)])) _
      refine XS.iload X169.here hx rfl (hb hby at_170) rfl ?_
      show Steps p.tables e below (T169.setTop (mkF m 172 #[.val (.int p1), .val (.int p2), .val (.int p3), .val (.int p4), .val (.int p5), .val (.int p6), .val (.int (2 : Int32)), .val (.int x0), .val (.int x1), .val (.int x2), .val (.int x1), .val (.int pp), .val (.ref b158), .unset, .unset, .unset, .unset] [(.int pp), (.ref sa169), (.ref b165), (.ref b165)])) _
      refine XS.aload X169.here hx rfl (hb hby at_172) rfl rfl ?_
      exact kt)
    obtain ⟨_, _, ⟨T177, L177, k177, n177⟩, -, X177, hSi177, hgr177, ⟨Lc177, hQ177, l177, y177, z177⟩, st177⟩ := X169.specialBackS hx (y := (⟨"com/example/allot/allot/partition/Topic", "<init>", "(Ljava/lang/String;I[I)V"⟩ : MethodName)) rfl hown (mvT hZ (hw _ (List.mem_of_getElem? (i := 16) rfl))) (mvT hZ (hw _ (List.mem_of_getElem? (i := 17) rfl))) (mvT hZ (hw _ (List.mem_of_getElem? (i := 18) rfl))) (by decide) (backOfS (W := 1)  (rmT2 l Z a0 hw [] b165 sa169 pp b158 k158 x0 x1 h169 n0 sz169 f172 f173 f174 f175 gb165 f170 f171 (Ne.symm ne165_b158) hp1 h01 hx0 hx1 hy0 hy1) hZ (hw _ (List.mem_of_getElem? (i := 18) rfl)) (hw _ (List.mem_of_getElem? (i := 7) rfl)) (by decide) (by decide)) (g := (mkF m 174 #[.val (.int p1), .val (.int p2), .val (.int p3), .val (.int p4), .val (.int p5), .val (.int p6), .val (.int (2 : Int32)), .val (.int x0), .val (.int x1), .val (.int x2), .val (.int x1), .val (.int pp), .val (.ref b158), .unset, .unset, .unset, .unset] [(.ref b158), (.int pp), (.ref sa169), (.ref b165), (.ref b165)])) rfl (by rw [hml]; rfl) (Steps.refl _) (a := b165) (argsL := [(.ref sa169), (.int pp), (.ref b158)]) (rest := [(.ref b165)]) (lenOf pd__Ljava_lang_String_I_I_V rfl) rfl (by show 2 * 0 + _ ≤ _; exact Nat.le_of_eq rfl) (hb hby at_174) (fun _ _ => ⟨rfl, e169, (by decide : 4 + 9 ≤ _), (by decide : 13 + 246 ≤ _)⟩)
    dsimp only [Pt.U, Pt.locs, Pt.cells, Pt.slots] at X177 l177 y177 z177 st177 hQ177
    subst l177 y177 z177
    dsimp only [Pt.U, Pt.locs, Pt.cells, Pt.slots] at hSi177 hgr177
    obtain ⟨X177, hS177, hZ, hown⟩ := rebS hS169 (by rw [e169]; exact hk169) X177 hSi177 hgr177 hZ hown
    obtain ⟨rfl, Nq177, K177x, Ex177, Fnx177, Fpx177, bb, kb, Fux177, Vbx177⟩ := hQ177
    have N177 := Fr.app N163 Nq177
    have sz177 : n0 ≤ T177.heap.size := Nat.le_trans sz169 K177x.1
    have P178 : ∀ t, Steps p.tables e below (T177.setTop (mkF m 188 #[.val (.int p1), .val (.int p2), .val (.int p3), .val (.int p4), .val (.int p5), .val (.int p6), .val (.int (2 : Int32)), .val (.int x0), .val (.int x1), .val (.int x2), .val (.int x1), .val (.int pp), .val (.ref b158), .val (.ref b165), .val (.int (pp - (2 : Int32))), .unset, .unset] [(.int (pp - (2 : Int32)))])) t → Steps p.tables e below (s₁.setTop (entryFrame m #[(.int p1), (.int p2), (.int p3), (.int p4), (.int p5), (.int p6)] maxLocals)) t := fun t kt => P176 t (by
      show Steps p.tables e below (T169.setTop (mkF m 174 #[.val (.int p1), .val (.int p2), .val (.int p3), .val (.int p4), .val (.int p5), .val (.int p6), .val (.int (2 : Int32)), .val (.int x0), .val (.int x1), .val (.int x2), .val (.int x1), .val (.int pp), .val (.ref b158), .unset, .unset, .unset, .unset] [(.ref b158), (.int pp), (.ref sa169), (.ref b165), (.ref b165)])) _
      refine st177.trans ?_
      show Steps p.tables e below (T177.setTop (mkF m 177 #[.val (.int p1), .val (.int p2), .val (.int p3), .val (.int p4), .val (.int p5), .val (.int p6), .val (.int (2 : Int32)), .val (.int x0), .val (.int x1), .val (.int x2), .val (.int x1), .val (.int pp), .val (.ref b158), .unset, .unset, .unset, .unset] [(.ref b165)])) _
      refine XS.astore X177.here hx rfl (hb hby at_177) rfl rfl (l' := #[.val (.int p1), .val (.int p2), .val (.int p3), .val (.int p4), .val (.int p5), .val (.int p6), .val (.int (2 : Int32)), .val (.int x0), .val (.int x1), .val (.int x2), .val (.int x1), .val (.int pp), .val (.ref b158), .val (.ref b165), .unset, .unset, .unset]) rfl ?_
      show Steps p.tables e below (T177.setTop (mkF m 179 #[.val (.int p1), .val (.int p2), .val (.int p3), .val (.int p4), .val (.int p5), .val (.int p6), .val (.int (2 : Int32)), .val (.int x0), .val (.int x1), .val (.int x2), .val (.int x1), .val (.int pp), .val (.ref b158), .val (.ref b165), .unset, .unset, .unset] [])) _
      refine XS.iload X177.here hx rfl (hb hby at_179) rfl ?_
      show Steps p.tables e below (T177.setTop (mkF m 181 #[.val (.int p1), .val (.int p2), .val (.int p3), .val (.int p4), .val (.int p5), .val (.int p6), .val (.int (2 : Int32)), .val (.int x0), .val (.int x1), .val (.int x2), .val (.int x1), .val (.int pp), .val (.ref b158), .val (.ref b165), .unset, .unset, .unset] [(.int pp)])) _
      refine XS.iload X177.here hx rfl (hb hby at_181) rfl ?_
      show Steps p.tables e below (T177.setTop (mkF m 183 #[.val (.int p1), .val (.int p2), .val (.int p3), .val (.int p4), .val (.int p5), .val (.int p6), .val (.int (2 : Int32)), .val (.int x0), .val (.int x1), .val (.int x2), .val (.int x1), .val (.int pp), .val (.ref b158), .val (.ref b165), .unset, .unset, .unset] [(.int (2 : Int32)), (.int pp)])) _
      refine XS.isub X177.here hx rfl (hb hby at_183) rfl ?_
      show Steps p.tables e below (T177.setTop (mkF m 184 #[.val (.int p1), .val (.int p2), .val (.int p3), .val (.int p4), .val (.int p5), .val (.int p6), .val (.int (2 : Int32)), .val (.int x0), .val (.int x1), .val (.int x2), .val (.int x1), .val (.int pp), .val (.ref b158), .val (.ref b165), .unset, .unset, .unset] [(.int (pp - (2 : Int32)))])) _
      refine XS.istore X177.here hx rfl (hb hby at_184) rfl (l' := #[.val (.int p1), .val (.int p2), .val (.int p3), .val (.int p4), .val (.int p5), .val (.int p6), .val (.int (2 : Int32)), .val (.int x0), .val (.int x1), .val (.int x2), .val (.int x1), .val (.int pp), .val (.ref b158), .val (.ref b165), .val (.int (pp - (2 : Int32))), .unset, .unset]) rfl ?_
      show Steps p.tables e below (T177.setTop (mkF m 186 #[.val (.int p1), .val (.int p2), .val (.int p3), .val (.int p4), .val (.int p5), .val (.int p6), .val (.int (2 : Int32)), .val (.int x0), .val (.int x1), .val (.int x2), .val (.int x1), .val (.int pp), .val (.ref b158), .val (.ref b165), .val (.int (pp - (2 : Int32))), .unset, .unset] [])) _
      refine XS.iload X177.here hx rfl (hb hby at_186) rfl ?_
      exact kt)
    by_cases hc188_179 : (0 : Int32) < (pp - (2 : Int32))
    · have P180 : ∀ t, Steps p.tables e below (T177.setTop (mkF m 203 #[.val (.int p1), .val (.int p2), .val (.int p3), .val (.int p4), .val (.int p5), .val (.int p6), .val (.int (2 : Int32)), .val (.int x0), .val (.int x1), .val (.int x2), .val (.int x1), .val (.int pp), .val (.ref b158), .val (.ref b165), .val (.int (pp - (2 : Int32))), .val (.int ((p6 &&& (2147483647 : Int32)) - ((p6 &&& (2147483647 : Int32)) / (pp - (2 : Int32))) * (pp - (2 : Int32)))), .unset] [])) t → Steps p.tables e below (s₁.setTop (entryFrame m #[(.int p1), (.int p2), (.int p3), (.int p4), (.int p5), (.int p6)] maxLocals)) t := fun t kt => P178 t (by
        show Steps p.tables e below (T177.setTop (mkF m 188 #[.val (.int p1), .val (.int p2), .val (.int p3), .val (.int p4), .val (.int p5), .val (.int p6), .val (.int (2 : Int32)), .val (.int x0), .val (.int x1), .val (.int x2), .val (.int x1), .val (.int pp), .val (.ref b158), .val (.ref b165), .val (.int (pp - (2 : Int32))), .unset, .unset] [(.int (pp - (2 : Int32)))])) _
        refine XS.ifYes X177.here hx rfl (pc0 := 188) (pc' := 193) rfl (hb hby at_188) rfl ((if0 _ _).trans (tlt hc188_179).2.2.1) (by decide) (by decide) ?_
        show Steps p.tables e below (T177.setTop (mkF m 193 #[.val (.int p1), .val (.int p2), .val (.int p3), .val (.int p4), .val (.int p5), .val (.int p6), .val (.int (2 : Int32)), .val (.int x0), .val (.int x1), .val (.int x2), .val (.int x1), .val (.int pp), .val (.ref b158), .val (.ref b165), .val (.int (pp - (2 : Int32))), .unset, .unset] [])) _
        refine XS.iload X177.here hx rfl (hb hby at_193) rfl ?_
        show Steps p.tables e below (T177.setTop (mkF m 195 #[.val (.int p1), .val (.int p2), .val (.int p3), .val (.int p4), .val (.int p5), .val (.int p6), .val (.int (2 : Int32)), .val (.int x0), .val (.int x1), .val (.int x2), .val (.int x1), .val (.int pp), .val (.ref b158), .val (.ref b165), .val (.int (pp - (2 : Int32))), .unset, .unset] [(.int p6)])) _
        refine X177.ldcInt hx hown (mvT hZ (hw _ (List.mem_of_getElem? (i := 62) rfl))) (g := (mkF m 195 #[.val (.int p1), .val (.int p2), .val (.int p3), .val (.int p4), .val (.int p5), .val (.int p6), .val (.int (2 : Int32)), .val (.int x0), .val (.int x1), .val (.int x2), .val (.int x1), .val (.int pp), .val (.ref b158), .val (.ref b165), .val (.int (pp - (2 : Int32))), .unset, .unset] [(.int p6)])) rfl (hb hby at_195) _ ?_
        show Steps p.tables e below (T177.setTop (mkF m 197 #[.val (.int p1), .val (.int p2), .val (.int p3), .val (.int p4), .val (.int p5), .val (.int p6), .val (.int (2 : Int32)), .val (.int x0), .val (.int x1), .val (.int x2), .val (.int x1), .val (.int pp), .val (.ref b158), .val (.ref b165), .val (.int (pp - (2 : Int32))), .unset, .unset] [(.int (2147483647 : Int32)), (.int p6)])) _
        refine XS.iand X177.here hx rfl (hb hby at_197) rfl ?_
        show Steps p.tables e below (T177.setTop (mkF m 198 #[.val (.int p1), .val (.int p2), .val (.int p3), .val (.int p4), .val (.int p5), .val (.int p6), .val (.int (2 : Int32)), .val (.int x0), .val (.int x1), .val (.int x2), .val (.int x1), .val (.int pp), .val (.ref b158), .val (.ref b165), .val (.int (pp - (2 : Int32))), .unset, .unset] [(.int (p6 &&& (2147483647 : Int32)))])) _
        refine XS.iload X177.here hx rfl (hb hby at_198) rfl ?_
        show Steps p.tables e below (T177.setTop (mkF m 200 #[.val (.int p1), .val (.int p2), .val (.int p3), .val (.int p4), .val (.int p5), .val (.int p6), .val (.int (2 : Int32)), .val (.int x0), .val (.int x1), .val (.int x2), .val (.int x1), .val (.int pp), .val (.ref b158), .val (.ref b165), .val (.int (pp - (2 : Int32))), .unset, .unset] [(.int (pp - (2 : Int32))), (.int (p6 &&& (2147483647 : Int32)))])) _
        refine XS.irem X177.here hx rfl (hb hby at_200) rfl (own_nz _ hc188_179) ?_
        show Steps p.tables e below (T177.setTop (mkF m 201 #[.val (.int p1), .val (.int p2), .val (.int p3), .val (.int p4), .val (.int p5), .val (.int p6), .val (.int (2 : Int32)), .val (.int x0), .val (.int x1), .val (.int x2), .val (.int x1), .val (.int pp), .val (.ref b158), .val (.ref b165), .val (.int (pp - (2 : Int32))), .unset, .unset] [(.int ((p6 &&& (2147483647 : Int32)) - ((p6 &&& (2147483647 : Int32)) / (pp - (2 : Int32))) * (pp - (2 : Int32))))])) _
        refine XS.istore X177.here hx rfl (hb hby at_201) rfl (l' := #[.val (.int p1), .val (.int p2), .val (.int p3), .val (.int p4), .val (.int p5), .val (.int p6), .val (.int (2 : Int32)), .val (.int x0), .val (.int x1), .val (.int x2), .val (.int x1), .val (.int pp), .val (.ref b158), .val (.ref b165), .val (.int (pp - (2 : Int32))), .val (.int ((p6 &&& (2147483647 : Int32)) - ((p6 &&& (2147483647 : Int32)) / (pp - (2 : Int32))) * (pp - (2 : Int32)))), .unset]) rfl ?_
        exact kt)
      obtain ⟨ii, hii⟩ : ∃ z : Int32, z = ((p6 &&& (2147483647 : Int32)) - ((p6 &&& (2147483647 : Int32)) / (pp - (2 : Int32))) * (pp - (2 : Int32))) := ⟨_, rfl⟩
      rw [← hii] at P180
      have hii2 := own_i p6 _ ii hc188_179 hii
      have hcc := own_sub pp (2 : Int32) (by rw [own_l2]; omega) (by rw [own_l2]; omega)
      rw [own_l2] at hcc
      have hi1 : ¬ ii < (0 : Int32) := own_nlt _ 0 rfl hii2.1
      have hi2 : ii < (pp - (2 : Int32)) := Int32.lt_iff_toInt_lt.mpr hii2.2
      have P181 : ∀ t, Steps p.tables e below (T177.setTop (mkF m 217 #[.val (.int p1), .val (.int p2), .val (.int p3), .val (.int p4), .val (.int p5), .val (.int p6), .val (.int (2 : Int32)), .val (.int x0), .val (.int x1), .val (.int x2), .val (.int x1), .val (.int pp), .val (.ref b158), .val (.ref b165), .val (.int (pp - (2 : Int32))), .val (.int ii), .val (.int ii)] [(.int ii), (.int x0)])) t → Steps p.tables e below (s₁.setTop (entryFrame m #[(.int p1), (.int p2), (.int p3), (.int p4), (.int p5), (.int p6)] maxLocals)) t := fun t kt => P180 t (by
        show Steps p.tables e below (T177.setTop (mkF m 203 #[.val (.int p1), .val (.int p2), .val (.int p3), .val (.int p4), .val (.int p5), .val (.int p6), .val (.int (2 : Int32)), .val (.int x0), .val (.int x1), .val (.int x2), .val (.int x1), .val (.int pp), .val (.ref b158), .val (.ref b165), .val (.int (pp - (2 : Int32))), .val (.int ii), .unset] [])) _
        refine XS.iload X177.here hx rfl (hb hby at_203) rfl ?_
        show Steps p.tables e below (T177.setTop (mkF m 205 #[.val (.int p1), .val (.int p2), .val (.int p3), .val (.int p4), .val (.int p5), .val (.int p6), .val (.int (2 : Int32)), .val (.int x0), .val (.int x1), .val (.int x2), .val (.int x1), .val (.int pp), .val (.ref b158), .val (.ref b165), .val (.int (pp - (2 : Int32))), .val (.int ii), .unset] [(.int ii)])) _
        refine XS.istore X177.here hx rfl (hb hby at_205) rfl (l' := #[.val (.int p1), .val (.int p2), .val (.int p3), .val (.int p4), .val (.int p5), .val (.int p6), .val (.int (2 : Int32)), .val (.int x0), .val (.int x1), .val (.int x2), .val (.int x1), .val (.int pp), .val (.ref b158), .val (.ref b165), .val (.int (pp - (2 : Int32))), .val (.int ii), .val (.int ii)]) rfl ?_
        show Steps p.tables e below (T177.setTop (mkF m 207 #[.val (.int p1), .val (.int p2), .val (.int p3), .val (.int p4), .val (.int p5), .val (.int p6), .val (.int (2 : Int32)), .val (.int x0), .val (.int x1), .val (.int x2), .val (.int x1), .val (.int pp), .val (.ref b158), .val (.ref b165), .val (.int (pp - (2 : Int32))), .val (.int ii), .val (.int ii)] [])) _
        refine XS.iload X177.here hx rfl (hb hby at_207) rfl ?_
        show Steps p.tables e below (T177.setTop (mkF m 209 #[.val (.int p1), .val (.int p2), .val (.int p3), .val (.int p4), .val (.int p5), .val (.int p6), .val (.int (2 : Int32)), .val (.int x0), .val (.int x1), .val (.int x2), .val (.int x1), .val (.int pp), .val (.ref b158), .val (.ref b165), .val (.int (pp - (2 : Int32))), .val (.int ii), .val (.int ii)] [(.int (2 : Int32))])) _
        refine XS.iconst X177.here hx rfl (hb hby at_209) ?_
        show Steps p.tables e below (T177.setTop (mkF m 210 #[.val (.int p1), .val (.int p2), .val (.int p3), .val (.int p4), .val (.int p5), .val (.int p6), .val (.int (2 : Int32)), .val (.int x0), .val (.int x1), .val (.int x2), .val (.int x1), .val (.int pp), .val (.ref b158), .val (.ref b165), .val (.int (pp - (2 : Int32))), .val (.int ii), .val (.int ii)] [(.int (1 : Int32)), (.int (2 : Int32))])) _
        refine XS.icmpNo X177.here hx rfl (hb hby at_210) rfl (flt ((by decide) : ¬ ((2 : Int32) < (1 : Int32)))).1 ?_
        show Steps p.tables e below (T177.setTop (mkF m 213 #[.val (.int p1), .val (.int p2), .val (.int p3), .val (.int p4), .val (.int p5), .val (.int p6), .val (.int (2 : Int32)), .val (.int x0), .val (.int x1), .val (.int x2), .val (.int x1), .val (.int pp), .val (.ref b158), .val (.ref b165), .val (.int (pp - (2 : Int32))), .val (.int ii), .val (.int ii)] [])) _
        refine XS.iload X177.here hx rfl (hb hby at_213) rfl ?_
        show Steps p.tables e below (T177.setTop (mkF m 215 #[.val (.int p1), .val (.int p2), .val (.int p3), .val (.int p4), .val (.int p5), .val (.int p6), .val (.int (2 : Int32)), .val (.int x0), .val (.int x1), .val (.int x2), .val (.int x1), .val (.int pp), .val (.ref b158), .val (.ref b165), .val (.int (pp - (2 : Int32))), .val (.int ii), .val (.int ii)] [(.int x0)])) _
        refine XS.iload X177.here hx rfl (hb hby at_215) rfl ?_
        exact kt)
      obtain ⟨r1, hr1⟩ : ∃ z : Int32, z = (if ii < x0 then ii else (ii + (1 : Int32))) := ⟨_, rfl⟩
      have J182 : ∀ t, Steps p.tables e below (T177.setTop (mkF m 223 #[.val (.int p1), .val (.int p2), .val (.int p3), .val (.int p4), .val (.int p5), .val (.int p6), .val (.int (2 : Int32)), .val (.int x0), .val (.int x1), .val (.int x2), .val (.int x1), .val (.int pp), .val (.ref b158), .val (.ref b165), .val (.int (pp - (2 : Int32))), .val (.int ii), .val (.int r1)] [])) t → Steps p.tables e below (T177.setTop (mkF m 217 #[.val (.int p1), .val (.int p2), .val (.int p3), .val (.int p4), .val (.int p5), .val (.int p6), .val (.int (2 : Int32)), .val (.int x0), .val (.int x1), .val (.int x2), .val (.int x1), .val (.int pp), .val (.ref b158), .val (.ref b165), .val (.int (pp - (2 : Int32))), .val (.int ii), .val (.int ii)] [(.int ii), (.int x0)])) t := by
        intro t kt
        by_cases hr182_217_0 : ii < x0
        · have evr1 : r1 = ii := by rw [hr1, if_pos hr182_217_0]
          rw [evr1] at kt
          show Steps p.tables e below (T177.setTop (mkF m 217 #[.val (.int p1), .val (.int p2), .val (.int p3), .val (.int p4), .val (.int p5), .val (.int p6), .val (.int (2 : Int32)), .val (.int x0), .val (.int x1), .val (.int x2), .val (.int x1), .val (.int pp), .val (.ref b158), .val (.ref b165), .val (.int (pp - (2 : Int32))), .val (.int ii), .val (.int ii)] [(.int ii), (.int x0)])) _
          refine XS.icmpYes X177.here hx rfl (pc0 := 217) (pc' := 223) rfl (hb hby at_217) rfl (tlt hr182_217_0).2.2.1 (by decide) (by decide) ?_
          exact kt
        · have evr1 : r1 = (ii + (1 : Int32)) := by rw [hr1, if_neg hr182_217_0]
          rw [evr1] at kt
          show Steps p.tables e below (T177.setTop (mkF m 217 #[.val (.int p1), .val (.int p2), .val (.int p3), .val (.int p4), .val (.int p5), .val (.int p6), .val (.int (2 : Int32)), .val (.int x0), .val (.int x1), .val (.int x2), .val (.int x1), .val (.int pp), .val (.ref b158), .val (.ref b165), .val (.int (pp - (2 : Int32))), .val (.int ii), .val (.int ii)] [(.int ii), (.int x0)])) _
          refine XS.icmpNo X177.here hx rfl (hb hby at_217) rfl (flt hr182_217_0).2.2.1 ?_
          show Steps p.tables e below (T177.setTop (mkF m 220 #[.val (.int p1), .val (.int p2), .val (.int p3), .val (.int p4), .val (.int p5), .val (.int p6), .val (.int (2 : Int32)), .val (.int x0), .val (.int x1), .val (.int x2), .val (.int x1), .val (.int pp), .val (.ref b158), .val (.ref b165), .val (.int (pp - (2 : Int32))), .val (.int ii), .val (.int ii)] [])) _
          refine XS.iinc X177.here hx rfl (hb hby at_220) rfl (l' := #[.val (.int p1), .val (.int p2), .val (.int p3), .val (.int p4), .val (.int p5), .val (.int p6), .val (.int (2 : Int32)), .val (.int x0), .val (.int x1), .val (.int x2), .val (.int x1), .val (.int pp), .val (.ref b158), .val (.ref b165), .val (.int (pp - (2 : Int32))), .val (.int ii), .val (.int (ii + (1 : Int32)))]) rfl ?_
          exact kt
      have P183 : ∀ t, Steps p.tables e below (T177.setTop (mkF m 223 #[.val (.int p1), .val (.int p2), .val (.int p3), .val (.int p4), .val (.int p5), .val (.int p6), .val (.int (2 : Int32)), .val (.int x0), .val (.int x1), .val (.int x2), .val (.int x1), .val (.int pp), .val (.ref b158), .val (.ref b165), .val (.int (pp - (2 : Int32))), .val (.int ii), .val (.int r1)] [])) t → Steps p.tables e below (s₁.setTop (entryFrame m #[(.int p1), (.int p2), (.int p3), (.int p4), (.int p5), (.int p6)] maxLocals)) t := fun t kt => P181 t (J182 t kt)
      have P184 : ∀ t, Steps p.tables e below (T177.setTop (mkF m 233 #[.val (.int p1), .val (.int p2), .val (.int p3), .val (.int p4), .val (.int p5), .val (.int p6), .val (.int (2 : Int32)), .val (.int x0), .val (.int x1), .val (.int x2), .val (.int x1), .val (.int pp), .val (.ref b158), .val (.ref b165), .val (.int (pp - (2 : Int32))), .val (.int ii), .val (.int r1)] [(.int r1), (.int x1)])) t → Steps p.tables e below (s₁.setTop (entryFrame m #[(.int p1), (.int p2), (.int p3), (.int p4), (.int p5), (.int p6)] maxLocals)) t := fun t kt => P183 t (by
        show Steps p.tables e below (T177.setTop (mkF m 223 #[.val (.int p1), .val (.int p2), .val (.int p3), .val (.int p4), .val (.int p5), .val (.int p6), .val (.int (2 : Int32)), .val (.int x0), .val (.int x1), .val (.int x2), .val (.int x1), .val (.int pp), .val (.ref b158), .val (.ref b165), .val (.int (pp - (2 : Int32))), .val (.int ii), .val (.int r1)] [])) _
        refine XS.iload X177.here hx rfl (hb hby at_223) rfl ?_
        show Steps p.tables e below (T177.setTop (mkF m 225 #[.val (.int p1), .val (.int p2), .val (.int p3), .val (.int p4), .val (.int p5), .val (.int p6), .val (.int (2 : Int32)), .val (.int x0), .val (.int x1), .val (.int x2), .val (.int x1), .val (.int pp), .val (.ref b158), .val (.ref b165), .val (.int (pp - (2 : Int32))), .val (.int ii), .val (.int r1)] [(.int (2 : Int32))])) _
        refine XS.iconst X177.here hx rfl (hb hby at_225) ?_
        show Steps p.tables e below (T177.setTop (mkF m 226 #[.val (.int p1), .val (.int p2), .val (.int p3), .val (.int p4), .val (.int p5), .val (.int p6), .val (.int (2 : Int32)), .val (.int x0), .val (.int x1), .val (.int x2), .val (.int x1), .val (.int pp), .val (.ref b158), .val (.ref b165), .val (.int (pp - (2 : Int32))), .val (.int ii), .val (.int r1)] [(.int (2 : Int32)), (.int (2 : Int32))])) _
        refine XS.icmpNo X177.here hx rfl (hb hby at_226) rfl (flt ((by decide) : ¬ ((2 : Int32) < (2 : Int32)))).1 ?_
        show Steps p.tables e below (T177.setTop (mkF m 229 #[.val (.int p1), .val (.int p2), .val (.int p3), .val (.int p4), .val (.int p5), .val (.int p6), .val (.int (2 : Int32)), .val (.int x0), .val (.int x1), .val (.int x2), .val (.int x1), .val (.int pp), .val (.ref b158), .val (.ref b165), .val (.int (pp - (2 : Int32))), .val (.int ii), .val (.int r1)] [])) _
        refine XS.iload X177.here hx rfl (hb hby at_229) rfl ?_
        show Steps p.tables e below (T177.setTop (mkF m 231 #[.val (.int p1), .val (.int p2), .val (.int p3), .val (.int p4), .val (.int p5), .val (.int p6), .val (.int (2 : Int32)), .val (.int x0), .val (.int x1), .val (.int x2), .val (.int x1), .val (.int pp), .val (.ref b158), .val (.ref b165), .val (.int (pp - (2 : Int32))), .val (.int ii), .val (.int r1)] [(.int x1)])) _
        refine XS.iload X177.here hx rfl (hb hby at_231) rfl ?_
        exact kt)
      obtain ⟨r2, hr2⟩ : ∃ z : Int32, z = (if r1 < x1 then r1 else (r1 + (1 : Int32))) := ⟨_, rfl⟩
      have J185 : ∀ t, Steps p.tables e below (T177.setTop (mkF m 239 #[.val (.int p1), .val (.int p2), .val (.int p3), .val (.int p4), .val (.int p5), .val (.int p6), .val (.int (2 : Int32)), .val (.int x0), .val (.int x1), .val (.int x2), .val (.int x1), .val (.int pp), .val (.ref b158), .val (.ref b165), .val (.int (pp - (2 : Int32))), .val (.int ii), .val (.int r2)] [])) t → Steps p.tables e below (T177.setTop (mkF m 233 #[.val (.int p1), .val (.int p2), .val (.int p3), .val (.int p4), .val (.int p5), .val (.int p6), .val (.int (2 : Int32)), .val (.int x0), .val (.int x1), .val (.int x2), .val (.int x1), .val (.int pp), .val (.ref b158), .val (.ref b165), .val (.int (pp - (2 : Int32))), .val (.int ii), .val (.int r1)] [(.int r1), (.int x1)])) t := by
        intro t kt
        by_cases hr185_233_0 : r1 < x1
        · have evr2 : r2 = r1 := by rw [hr2, if_pos hr185_233_0]
          rw [evr2] at kt
          show Steps p.tables e below (T177.setTop (mkF m 233 #[.val (.int p1), .val (.int p2), .val (.int p3), .val (.int p4), .val (.int p5), .val (.int p6), .val (.int (2 : Int32)), .val (.int x0), .val (.int x1), .val (.int x2), .val (.int x1), .val (.int pp), .val (.ref b158), .val (.ref b165), .val (.int (pp - (2 : Int32))), .val (.int ii), .val (.int r1)] [(.int r1), (.int x1)])) _
          refine XS.icmpYes X177.here hx rfl (pc0 := 233) (pc' := 239) rfl (hb hby at_233) rfl (tlt hr185_233_0).2.2.1 (by decide) (by decide) ?_
          exact kt
        · have evr2 : r2 = (r1 + (1 : Int32)) := by rw [hr2, if_neg hr185_233_0]
          rw [evr2] at kt
          show Steps p.tables e below (T177.setTop (mkF m 233 #[.val (.int p1), .val (.int p2), .val (.int p3), .val (.int p4), .val (.int p5), .val (.int p6), .val (.int (2 : Int32)), .val (.int x0), .val (.int x1), .val (.int x2), .val (.int x1), .val (.int pp), .val (.ref b158), .val (.ref b165), .val (.int (pp - (2 : Int32))), .val (.int ii), .val (.int r1)] [(.int r1), (.int x1)])) _
          refine XS.icmpNo X177.here hx rfl (hb hby at_233) rfl (flt hr185_233_0).2.2.1 ?_
          show Steps p.tables e below (T177.setTop (mkF m 236 #[.val (.int p1), .val (.int p2), .val (.int p3), .val (.int p4), .val (.int p5), .val (.int p6), .val (.int (2 : Int32)), .val (.int x0), .val (.int x1), .val (.int x2), .val (.int x1), .val (.int pp), .val (.ref b158), .val (.ref b165), .val (.int (pp - (2 : Int32))), .val (.int ii), .val (.int r1)] [])) _
          refine XS.iinc X177.here hx rfl (hb hby at_236) rfl (l' := #[.val (.int p1), .val (.int p2), .val (.int p3), .val (.int p4), .val (.int p5), .val (.int p6), .val (.int (2 : Int32)), .val (.int x0), .val (.int x1), .val (.int x2), .val (.int x1), .val (.int pp), .val (.ref b158), .val (.ref b165), .val (.int (pp - (2 : Int32))), .val (.int ii), .val (.int (r1 + (1 : Int32)))]) rfl ?_
          exact kt
      have P186 : ∀ t, Steps p.tables e below (T177.setTop (mkF m 239 #[.val (.int p1), .val (.int p2), .val (.int p3), .val (.int p4), .val (.int p5), .val (.int p6), .val (.int (2 : Int32)), .val (.int x0), .val (.int x1), .val (.int x2), .val (.int x1), .val (.int pp), .val (.ref b158), .val (.ref b165), .val (.int (pp - (2 : Int32))), .val (.int ii), .val (.int r2)] [])) t → Steps p.tables e below (s₁.setTop (entryFrame m #[(.int p1), (.int p2), (.int p3), (.int p4), (.int p5), (.int p6)] maxLocals)) t := fun t kt => P184 t (J185 t kt)
      obtain ⟨cq187, kq187, q187a, q187b, q187c⟩ := isOf hZ rfl Ex177
      obtain ⟨_, _, ⟨T187, L187, k187, n187⟩, -, X187, ⟨Lc187, hQ187, l187, y187, z187⟩, st187⟩ := X177.virtualBack hx (y := (⟨"com/example/allot/allot/partition/Topic", "availableAt", "(I)I"⟩ : MethodName)) (z := (⟨"com/example/allot/allot/partition/Topic", "availableAt", "(I)I"⟩ : MethodName)) hown (mvT hZ (hw _ (List.mem_of_getElem? (i := 63) rfl))) (mvT hZ (hw _ (List.mem_of_getElem? (i := 64) rfl))) (notFace_of_selects (args := #[]) (mvT hZ (hw _ (List.mem_of_getElem? (i := 66) rfl)))) (mvT hZ (hw _ (List.mem_of_getElem? (i := 66) rfl))) (mvT hZ (hw _ (List.mem_of_getElem? (i := 65) rfl))) (by decide) (backOf (W := 0)  (rmAA2 l Z a0 hw [] b165 ii pp bb kb x0 x1 T177.heap Ex177 Fpx177 Fux177 Vbx177 hi1 hi2) hZ (hw _ (List.mem_of_getElem? (i := 67) rfl)) (hw _ (List.mem_of_getElem? (i := 7) rfl)) (by decide) (by decide)) q187a q187c (g := (mkF m 259 #[.val (.int p1), .val (.int p2), .val (.int p3), .val (.int p4), .val (.int p5), .val (.int p6), .val (.int (2 : Int32)), .val (.int x0), .val (.int x1), .val (.int x2), .val (.int x1), .val (.int pp), .val (.ref b158), .val (.ref b165), .val (.int (pp - (2 : Int32))), .val (.int ii), .val (.int r2)] [(.int ii), (.ref b165)])) rfl (by rw [hml]; rfl) (Steps.refl _) (argsL := [(.int ii)]) (rest := []) (lenOf pd__I_I rfl) rfl (by show 2 * 0 + _ ≤ _; exact Nat.le_of_eq rfl) (hb hby at_259) (fun _ _ => ⟨rfl, rfl, (by decide : 13 + 0 ≤ _), (by decide : 259 + 0 ≤ _)⟩)
      dsimp only [Pt.U, Pt.locs, Pt.cells, Pt.slots] at X187 l187 y187 z187 st187 hQ187
      subst l187 y187 z187
      obtain ⟨rfl, rfl, e187⟩ := hQ187
      have N187 := Fr.app N177 (Fr.nil n0)
      obtain ⟨cq188, kq188, q188a, q188b, q188c⟩ := isOf hZ e187 Ex177
      obtain ⟨_, _, ⟨T188, L188, k188, n188⟩, -, X188, ⟨Lc188, hQ188, l188, y188, z188⟩, st188⟩ := X187.virtualBack hx (y := (⟨"com/example/allot/allot/partition/Topic", "availableCount", "()I"⟩ : MethodName)) (z := (⟨"com/example/allot/allot/partition/Topic", "availableCount", "()I"⟩ : MethodName)) hown (mvT hZ (hw _ (List.mem_of_getElem? (i := 80) rfl))) (mvT hZ (hw _ (List.mem_of_getElem? (i := 69) rfl))) (notFace_of_selects (args := #[]) (mvT hZ (hw _ (List.mem_of_getElem? (i := 71) rfl)))) (mvT hZ (hw _ (List.mem_of_getElem? (i := 71) rfl))) (mvT hZ (hw _ (List.mem_of_getElem? (i := 70) rfl))) (by decide) (backOf (W := 0)  (rmAC2 l Z a0 hw [] b165 pp bb kb x0 x1 T177.heap Fpx177 Fux177 Vbx177) hZ (hw _ (List.mem_of_getElem? (i := 72) rfl)) (hw _ (List.mem_of_getElem? (i := 7) rfl)) (by decide) (by decide)) q188a q188c (g := (mkF m 269 #[.val (.int p1), .val (.int p2), .val (.int p3), .val (.int p4), .val (.int p5), .val (.int p6), .val (.int (2 : Int32)), .val (.int x0), .val (.int x1), .val (.int x2), .val (.int x1), .val (.int pp), .val (.ref b158), .val (.ref b165), .val (.int (pp - (2 : Int32))), .val (.int ii), .val (.int r2)] [(.ref b165)])) rfl (by rw [hml]; rfl) (Steps.refl _) (argsL := []) (rest := []) (lenOf pd___I rfl) rfl (by show 2 * 0 + _ ≤ _; exact Nat.le_of_eq rfl) (hb hby at_269) (fun _ _ => ⟨rfl, e187, (by decide : 13 + 0 ≤ _), (by decide : 259 + 0 ≤ _)⟩)
      dsimp only [Pt.U, Pt.locs, Pt.cells, Pt.slots] at X188 l188 y188 z188 st188 hQ188
      subst l188 y188 z188
      obtain ⟨rfl, rfl, e188⟩ := hQ188
      have N188 := Fr.app N187 (Fr.nil n0)
      have P189 : ∀ t, Steps p.tables e below (T188.setTop (mkF m 282 #[.val (.int p1), .val (.int p2), .val (.int p3), .val (.int p4), .val (.int p5), .val (.int p6), .val (.int (2 : Int32)), .val (.int x0), .val (.int x1), .val (.int x2), .val (.int x1), .val (.int pp), .val (.ref b158), .val (.ref b165), .val (.int (pp - (2 : Int32))), .val (.int ii), .val (.int r2)] [(.int (1 : Int32))])) t → Steps p.tables e below (s₁.setTop (entryFrame m #[(.int p1), (.int p2), (.int p3), (.int p4), (.int p5), (.int p6)] maxLocals)) t := fun t kt => P186 t (by
        show Steps p.tables e below (T177.setTop (mkF m 239 #[.val (.int p1), .val (.int p2), .val (.int p3), .val (.int p4), .val (.int p5), .val (.int p6), .val (.int (2 : Int32)), .val (.int x0), .val (.int x1), .val (.int x2), .val (.int x1), .val (.int pp), .val (.ref b158), .val (.ref b165), .val (.int (pp - (2 : Int32))), .val (.int ii), .val (.int r2)] [])) _
        refine XS.iload X177.here hx rfl (hb hby at_239) rfl ?_
        show Steps p.tables e below (T177.setTop (mkF m 241 #[.val (.int p1), .val (.int p2), .val (.int p3), .val (.int p4), .val (.int p5), .val (.int p6), .val (.int (2 : Int32)), .val (.int x0), .val (.int x1), .val (.int x2), .val (.int x1), .val (.int pp), .val (.ref b158), .val (.ref b165), .val (.int (pp - (2 : Int32))), .val (.int ii), .val (.int r2)] [(.int (2 : Int32))])) _
        refine XS.iconst X177.here hx rfl (hb hby at_241) ?_
        show Steps p.tables e below (T177.setTop (mkF m 242 #[.val (.int p1), .val (.int p2), .val (.int p3), .val (.int p4), .val (.int p5), .val (.int p6), .val (.int (2 : Int32)), .val (.int x0), .val (.int x1), .val (.int x2), .val (.int x1), .val (.int pp), .val (.ref b158), .val (.ref b165), .val (.int (pp - (2 : Int32))), .val (.int ii), .val (.int r2)] [(.int (3 : Int32)), (.int (2 : Int32))])) _
        refine XS.icmpYes X177.here hx rfl (pc0 := 242) (pc' := 255) rfl (hb hby at_242) rfl (tlt ((by decide) : (2 : Int32) < (3 : Int32))).1 (by decide) (by decide) ?_
        show Steps p.tables e below (T177.setTop (mkF m 255 #[.val (.int p1), .val (.int p2), .val (.int p3), .val (.int p4), .val (.int p5), .val (.int p6), .val (.int (2 : Int32)), .val (.int x0), .val (.int x1), .val (.int x2), .val (.int x1), .val (.int pp), .val (.ref b158), .val (.ref b165), .val (.int (pp - (2 : Int32))), .val (.int ii), .val (.int r2)] [])) _
        refine XS.aload X177.here hx rfl (hb hby at_255) rfl rfl ?_
        show Steps p.tables e below (T177.setTop (mkF m 257 #[.val (.int p1), .val (.int p2), .val (.int p3), .val (.int p4), .val (.int p5), .val (.int p6), .val (.int (2 : Int32)), .val (.int x0), .val (.int x1), .val (.int x2), .val (.int x1), .val (.int pp), .val (.ref b158), .val (.ref b165), .val (.int (pp - (2 : Int32))), .val (.int ii), .val (.int r2)] [(.ref b165)])) _
        refine XS.iload X177.here hx rfl (hb hby at_257) rfl ?_
        show Steps p.tables e below (T177.setTop (mkF m 259 #[.val (.int p1), .val (.int p2), .val (.int p3), .val (.int p4), .val (.int p5), .val (.int p6), .val (.int (2 : Int32)), .val (.int x0), .val (.int x1), .val (.int x2), .val (.int x1), .val (.int pp), .val (.ref b158), .val (.ref b165), .val (.int (pp - (2 : Int32))), .val (.int ii), .val (.int r2)] [(.int ii), (.ref b165)])) _
        refine st187.trans ?_
        show Steps p.tables e below (T187.setTop (mkF m 262 #[.val (.int p1), .val (.int p2), .val (.int p3), .val (.int p4), .val (.int p5), .val (.int p6), .val (.int (2 : Int32)), .val (.int x0), .val (.int x1), .val (.int x2), .val (.int x1), .val (.int pp), .val (.ref b158), .val (.ref b165), .val (.int (pp - (2 : Int32))), .val (.int ii), .val (.int r2)] [(.int (fAA2 ii x0 x1))])) _
        refine XS.iload X187.here hx rfl (hb hby at_262) rfl ?_
        show Steps p.tables e below (T187.setTop (mkF m 264 #[.val (.int p1), .val (.int p2), .val (.int p3), .val (.int p4), .val (.int p5), .val (.int p6), .val (.int (2 : Int32)), .val (.int x0), .val (.int x1), .val (.int x2), .val (.int x1), .val (.int pp), .val (.ref b158), .val (.ref b165), .val (.int (pp - (2 : Int32))), .val (.int ii), .val (.int r2)] [(.int r2), (.int (fAA2 ii x0 x1))])) _
        refine XS.icmpNo X187.here hx rfl (hb hby at_264) rfl (teq (own_aa2 ii x0 x1 r1 r2 (by omega) (by omega) (by omega) (by omega) (by omega)  hr1 hr2 : (fAA2 ii x0 x1) = r2)).2 ?_
        show Steps p.tables e below (T187.setTop (mkF m 267 #[.val (.int p1), .val (.int p2), .val (.int p3), .val (.int p4), .val (.int p5), .val (.int p6), .val (.int (2 : Int32)), .val (.int x0), .val (.int x1), .val (.int x2), .val (.int x1), .val (.int pp), .val (.ref b158), .val (.ref b165), .val (.int (pp - (2 : Int32))), .val (.int ii), .val (.int r2)] [])) _
        refine XS.aload X187.here hx rfl (hb hby at_267) rfl rfl ?_
        show Steps p.tables e below (T187.setTop (mkF m 269 #[.val (.int p1), .val (.int p2), .val (.int p3), .val (.int p4), .val (.int p5), .val (.int p6), .val (.int (2 : Int32)), .val (.int x0), .val (.int x1), .val (.int x2), .val (.int x1), .val (.int pp), .val (.ref b158), .val (.ref b165), .val (.int (pp - (2 : Int32))), .val (.int ii), .val (.int r2)] [(.ref b165)])) _
        refine st188.trans ?_
        show Steps p.tables e below (T188.setTop (mkF m 272 #[.val (.int p1), .val (.int p2), .val (.int p3), .val (.int p4), .val (.int p5), .val (.int p6), .val (.int (2 : Int32)), .val (.int x0), .val (.int x1), .val (.int x2), .val (.int x1), .val (.int pp), .val (.ref b158), .val (.ref b165), .val (.int (pp - (2 : Int32))), .val (.int ii), .val (.int r2)] [(.int (pp - (2 : Int32)))])) _
        refine XS.iload X188.here hx rfl (hb hby at_272) rfl ?_
        show Steps p.tables e below (T188.setTop (mkF m 274 #[.val (.int p1), .val (.int p2), .val (.int p3), .val (.int p4), .val (.int p5), .val (.int p6), .val (.int (2 : Int32)), .val (.int x0), .val (.int x1), .val (.int x2), .val (.int x1), .val (.int pp), .val (.ref b158), .val (.ref b165), .val (.int (pp - (2 : Int32))), .val (.int ii), .val (.int r2)] [(.int (pp - (2 : Int32))), (.int (pp - (2 : Int32)))])) _
        refine XS.icmpNo X188.here hx rfl (hb hby at_274) rfl (teq (rfl : (pp - (2 : Int32)) = (pp - (2 : Int32)))).2 ?_
        show Steps p.tables e below (T188.setTop (mkF m 277 #[.val (.int p1), .val (.int p2), .val (.int p3), .val (.int p4), .val (.int p5), .val (.int p6), .val (.int (2 : Int32)), .val (.int x0), .val (.int x1), .val (.int x2), .val (.int x1), .val (.int pp), .val (.ref b158), .val (.ref b165), .val (.int (pp - (2 : Int32))), .val (.int ii), .val (.int r2)] [])) _
        refine XS.iconst X188.here hx rfl (hb hby at_277) ?_
        show Steps p.tables e below (T188.setTop (mkF m 278 #[.val (.int p1), .val (.int p2), .val (.int p3), .val (.int p4), .val (.int p5), .val (.int p6), .val (.int (2 : Int32)), .val (.int x0), .val (.int x1), .val (.int x2), .val (.int x1), .val (.int pp), .val (.ref b158), .val (.ref b165), .val (.int (pp - (2 : Int32))), .val (.int ii), .val (.int r2)] [(.int (1 : Int32))])) _
        refine XS.goto X188.here hx rfl (pc0 := 278) (pc' := 282) rfl (hb hby at_278) (by decide) (by decide) ?_
        exact kt)
      obtain ⟨fs, hr, hrun, hended, hE1, hE2, hE3, hE4⟩ := X188.leaveW hS177 (by rw [e188]; exact (Nat.le_refl _)) (v := some (.int (1 : Int32))) (fun h => by rw [Bd.returns] at h; cases h) (hlocks := hlk)
      refine ⟨_, _, P189 _ ?_, hrun, hended, _, _, rfl, ?_, hE1, hE2, hE3, hE4.mono (by decide) (by decide)⟩
      · show Steps p.tables e below (T188.setTop (mkF m 282 #[.val (.int p1), .val (.int p2), .val (.int p3), .val (.int p4), .val (.int p5), .val (.int p6), .val (.int (2 : Int32)), .val (.int x0), .val (.int x1), .val (.int x2), .val (.int x1), .val (.int pp), .val (.ref b158), .val (.ref b165), .val (.int (pp - (2 : Int32))), .val (.int ii), .val (.int r2)] [(.int (1 : Int32))])) _
        exact retN X188 hx (t := .boolean) Bd.returns (by simp) (hb hby at_282) hr
      · show Q0 n0 _ T188.heap _
        exact ⟨rfl, N188⟩
    · have P190 : ∀ t, Steps p.tables e below (T177.setTop (mkF m 192 #[.val (.int p1), .val (.int p2), .val (.int p3), .val (.int p4), .val (.int p5), .val (.int p6), .val (.int (2 : Int32)), .val (.int x0), .val (.int x1), .val (.int x2), .val (.int x1), .val (.int pp), .val (.ref b158), .val (.ref b165), .val (.int (pp - (2 : Int32))), .unset, .unset] [(.int (1 : Int32))])) t → Steps p.tables e below (s₁.setTop (entryFrame m #[(.int p1), (.int p2), (.int p3), (.int p4), (.int p5), (.int p6)] maxLocals)) t := fun t kt => P178 t (by
        show Steps p.tables e below (T177.setTop (mkF m 188 #[.val (.int p1), .val (.int p2), .val (.int p3), .val (.int p4), .val (.int p5), .val (.int p6), .val (.int (2 : Int32)), .val (.int x0), .val (.int x1), .val (.int x2), .val (.int x1), .val (.int pp), .val (.ref b158), .val (.ref b165), .val (.int (pp - (2 : Int32))), .unset, .unset] [(.int (pp - (2 : Int32)))])) _
        refine XS.ifNo X177.here hx rfl (hb hby at_188) rfl ((if0 _ _).trans (flt hc188_179).2.2.1) ?_
        show Steps p.tables e below (T177.setTop (mkF m 191 #[.val (.int p1), .val (.int p2), .val (.int p3), .val (.int p4), .val (.int p5), .val (.int p6), .val (.int (2 : Int32)), .val (.int x0), .val (.int x1), .val (.int x2), .val (.int x1), .val (.int pp), .val (.ref b158), .val (.ref b165), .val (.int (pp - (2 : Int32))), .unset, .unset] [])) _
        refine XS.iconst X177.here hx rfl (hb hby at_191) ?_
        exact kt)
      obtain ⟨fs, hr, hrun, hended, hE1, hE2, hE3, hE4⟩ := X177.leaveW hS177 (Nat.le_refl _) (v := some (.int (1 : Int32))) (fun h => by rw [Bd.returns] at h; cases h) (hlocks := hlk)
      refine ⟨_, _, P190 _ ?_, hrun, hended, _, _, rfl, ?_, hE1, hE2, hE3, hE4.mono (by decide) (by decide)⟩
      · show Steps p.tables e below (T177.setTop (mkF m 192 #[.val (.int p1), .val (.int p2), .val (.int p3), .val (.int p4), .val (.int p5), .val (.int p6), .val (.int (2 : Int32)), .val (.int x0), .val (.int x1), .val (.int x2), .val (.int x1), .val (.int pp), .val (.ref b158), .val (.ref b165), .val (.int (pp - (2 : Int32))), .unset, .unset] [(.int (1 : Int32))])) _
        exact retN X177 hx (t := .boolean) Bd.returns (by simp) (hb hby at_192) hr
      · show Q0 n0 _ T177.heap _
        exact ⟨rfl, N177⟩
  · obtain ⟨_, _, ⟨T191, L191, k191, n191⟩, -, X191, ⟨Lc191, hQ191, l191, y191, z191⟩, st191⟩ := Jvm.LawKit.callS X0 hx (y := (⟨"java/lang/Math", "max", "(II)I"⟩ : MethodName)) hown (mvT hZ (hw _ (List.mem_of_getElem? (i := 0) rfl))) (mvT hZ (hw _ (List.mem_of_getElem? (i := 1) rfl))) (mvT hZ (hw _ (List.mem_of_getElem? (i := 2) rfl))) (mvT hZ (hw _ (List.mem_of_getElem? (i := 3) rfl))) (by decide) (backOf (W := 0)  (rmMx l Z a0 hw [] (1 : Int32) ((x2 + (1 : Int32)) + (p5 &&& (255 : Int32))) h0) hZ (hw _ (List.mem_of_getElem? (i := 3) rfl)) (hw _ (List.mem_of_getElem? (i := 2) rfl)) (by decide) (by decide)) (g := (mkF m 83 #[.val (.int p1), .val (.int p2), .val (.int p3), .val (.int p4), .val (.int p5), .val (.int p6), .val (.int (3 : Int32)), .val (.int x0), .val (.int x1), .val (.int x2), .val (.int x2), .unset, .unset, .unset, .unset, .unset, .unset] [(.int ((x2 + (1 : Int32)) + (p5 &&& (255 : Int32)))), (.int (1 : Int32))])) rfl (by rw [hml]; rfl) (argsL := [(.int (1 : Int32)), (.int ((x2 + (1 : Int32)) + (p5 &&& (255 : Int32))))]) (rest := []) (lenOf pd__II_I rfl) rfl (by show 2 * 0 + _ ≤ _; exact Nat.le_of_eq rfl) (hb hby at_83) (fun _ _ => ⟨rfl, e0, (by decide : 0 + 0 ≤ _), (by decide : 0 + 0 ≤ _)⟩)
    dsimp only [Pt.U, Pt.locs, Pt.cells, Pt.slots] at X191 l191 y191 z191 st191 hQ191
    subst l191 y191 z191
    obtain ⟨rfl, rfl, e191⟩ := hQ191
    have N191 := Fr.app N0 (Fr.nil n0)
    have P192 : ∀ t, Steps p.tables e below (T191.setTop (mkF m 88 #[.val (.int p1), .val (.int p2), .val (.int p3), .val (.int p4), .val (.int p5), .val (.int p6), .val (.int (3 : Int32)), .val (.int x0), .val (.int x1), .val (.int x2), .val (.int x2), .val (.int (mxI (1 : Int32) ((x2 + (1 : Int32)) + (p5 &&& (255 : Int32))))), .unset, .unset, .unset, .unset, .unset] [])) t → Steps p.tables e below (s₁.setTop (entryFrame m #[(.int p1), (.int p2), (.int p3), (.int p4), (.int p5), (.int p6)] maxLocals)) t := fun t kt => P103 t (by
      show Steps p.tables e below (s₁.setTop (mkF m 36 #[.val (.int p1), .val (.int p2), .val (.int p3), .val (.int p4), .val (.int p5), .val (.int p6), .val (.int (3 : Int32)), .val (.int x0), .val (.int x1), .val (.int x2), .unset, .unset, .unset, .unset, .unset, .unset, .unset] [])) _
      refine XS.iload X0.here hx rfl (hb hby at_36) rfl ?_
      show Steps p.tables e below (s₁.setTop (mkF m 38 #[.val (.int p1), .val (.int p2), .val (.int p3), .val (.int p4), .val (.int p5), .val (.int p6), .val (.int (3 : Int32)), .val (.int x0), .val (.int x1), .val (.int x2), .unset, .unset, .unset, .unset, .unset, .unset, .unset] [(.int (3 : Int32))])) _
      refine XS.ifYes X0.here hx rfl (pc0 := 38) (pc' := 45) rfl (hb hby at_38) rfl ((if0 _ _).trans (feq ((by decide) : ¬ ((3 : Int32) = (0 : Int32)))).2) (by decide) (by decide) ?_
      show Steps p.tables e below (s₁.setTop (mkF m 45 #[.val (.int p1), .val (.int p2), .val (.int p3), .val (.int p4), .val (.int p5), .val (.int p6), .val (.int (3 : Int32)), .val (.int x0), .val (.int x1), .val (.int x2), .unset, .unset, .unset, .unset, .unset, .unset, .unset] [])) _
      refine XS.iload X0.here hx rfl (hb hby at_45) rfl ?_
      show Steps p.tables e below (s₁.setTop (mkF m 47 #[.val (.int p1), .val (.int p2), .val (.int p3), .val (.int p4), .val (.int p5), .val (.int p6), .val (.int (3 : Int32)), .val (.int x0), .val (.int x1), .val (.int x2), .unset, .unset, .unset, .unset, .unset, .unset, .unset] [(.int (3 : Int32))])) _
      refine XS.iconst X0.here hx rfl (hb hby at_47) ?_
      show Steps p.tables e below (s₁.setTop (mkF m 48 #[.val (.int p1), .val (.int p2), .val (.int p3), .val (.int p4), .val (.int p5), .val (.int p6), .val (.int (3 : Int32)), .val (.int x0), .val (.int x1), .val (.int x2), .unset, .unset, .unset, .unset, .unset, .unset, .unset] [(.int (1 : Int32)), (.int (3 : Int32))])) _
      refine XS.icmpYes X0.here hx rfl (pc0 := 48) (pc' := 56) rfl (hb hby at_48) rfl (feq ((by decide) : ¬ ((3 : Int32) = (1 : Int32)))).2 (by decide) (by decide) ?_
      show Steps p.tables e below (s₁.setTop (mkF m 56 #[.val (.int p1), .val (.int p2), .val (.int p3), .val (.int p4), .val (.int p5), .val (.int p6), .val (.int (3 : Int32)), .val (.int x0), .val (.int x1), .val (.int x2), .unset, .unset, .unset, .unset, .unset, .unset, .unset] [])) _
      refine XS.iload X0.here hx rfl (hb hby at_56) rfl ?_
      show Steps p.tables e below (s₁.setTop (mkF m 58 #[.val (.int p1), .val (.int p2), .val (.int p3), .val (.int p4), .val (.int p5), .val (.int p6), .val (.int (3 : Int32)), .val (.int x0), .val (.int x1), .val (.int x2), .unset, .unset, .unset, .unset, .unset, .unset, .unset] [(.int (3 : Int32))])) _
      refine XS.iconst X0.here hx rfl (hb hby at_58) ?_
      show Steps p.tables e below (s₁.setTop (mkF m 59 #[.val (.int p1), .val (.int p2), .val (.int p3), .val (.int p4), .val (.int p5), .val (.int p6), .val (.int (3 : Int32)), .val (.int x0), .val (.int x1), .val (.int x2), .unset, .unset, .unset, .unset, .unset, .unset, .unset] [(.int (2 : Int32)), (.int (3 : Int32))])) _
      refine XS.icmpYes X0.here hx rfl (pc0 := 59) (pc' := 67) rfl (hb hby at_59) rfl (feq ((by decide) : ¬ ((3 : Int32) = (2 : Int32)))).2 (by decide) (by decide) ?_
      show Steps p.tables e below (s₁.setTop (mkF m 67 #[.val (.int p1), .val (.int p2), .val (.int p3), .val (.int p4), .val (.int p5), .val (.int p6), .val (.int (3 : Int32)), .val (.int x0), .val (.int x1), .val (.int x2), .unset, .unset, .unset, .unset, .unset, .unset, .unset] [])) _
      refine XS.iload X0.here hx rfl (hb hby at_67) rfl ?_
      show Steps p.tables e below (s₁.setTop (mkF m 69 #[.val (.int p1), .val (.int p2), .val (.int p3), .val (.int p4), .val (.int p5), .val (.int p6), .val (.int (3 : Int32)), .val (.int x0), .val (.int x1), .val (.int x2), .unset, .unset, .unset, .unset, .unset, .unset, .unset] [(.int x2)])) _
      refine XS.istore X0.here hx rfl (hb hby at_69) rfl (l' := #[.val (.int p1), .val (.int p2), .val (.int p3), .val (.int p4), .val (.int p5), .val (.int p6), .val (.int (3 : Int32)), .val (.int x0), .val (.int x1), .val (.int x2), .val (.int x2), .unset, .unset, .unset, .unset, .unset, .unset]) rfl ?_
      show Steps p.tables e below (s₁.setTop (mkF m 71 #[.val (.int p1), .val (.int p2), .val (.int p3), .val (.int p4), .val (.int p5), .val (.int p6), .val (.int (3 : Int32)), .val (.int x0), .val (.int x1), .val (.int x2), .val (.int x2), .unset, .unset, .unset, .unset, .unset, .unset] [])) _
      refine XS.iconst X0.here hx rfl (hb hby at_71) ?_
      show Steps p.tables e below (s₁.setTop (mkF m 72 #[.val (.int p1), .val (.int p2), .val (.int p3), .val (.int p4), .val (.int p5), .val (.int p6), .val (.int (3 : Int32)), .val (.int x0), .val (.int x1), .val (.int x2), .val (.int x2), .unset, .unset, .unset, .unset, .unset, .unset] [(.int (1 : Int32))])) _
      refine XS.iload X0.here hx rfl (hb hby at_72) rfl ?_
      show Steps p.tables e below (s₁.setTop (mkF m 74 #[.val (.int p1), .val (.int p2), .val (.int p3), .val (.int p4), .val (.int p5), .val (.int p6), .val (.int (3 : Int32)), .val (.int x0), .val (.int x1), .val (.int x2), .val (.int x2), .unset, .unset, .unset, .unset, .unset, .unset] [(.int x2), (.int (1 : Int32))])) _
      refine XS.iconst X0.here hx rfl (hb hby at_74) ?_
      show Steps p.tables e below (s₁.setTop (mkF m 75 #[.val (.int p1), .val (.int p2), .val (.int p3), .val (.int p4), .val (.int p5), .val (.int p6), .val (.int (3 : Int32)), .val (.int x0), .val (.int x1), .val (.int x2), .val (.int x2), .unset, .unset, .unset, .unset, .unset, .unset] [(.int (1 : Int32)), (.int x2), (.int (1 : Int32))])) _
      refine XS.iadd X0.here hx rfl (hb hby at_75) rfl ?_
      show Steps p.tables e below (s₁.setTop (mkF m 76 #[.val (.int p1), .val (.int p2), .val (.int p3), .val (.int p4), .val (.int p5), .val (.int p6), .val (.int (3 : Int32)), .val (.int x0), .val (.int x1), .val (.int x2), .val (.int x2), .unset, .unset, .unset, .unset, .unset, .unset] [(.int (x2 + (1 : Int32))), (.int (1 : Int32))])) _
      refine XS.iload X0.here hx rfl (hb hby at_76) rfl ?_
      show Steps p.tables e below (s₁.setTop (mkF m 78 #[.val (.int p1), .val (.int p2), .val (.int p3), .val (.int p4), .val (.int p5), .val (.int p6), .val (.int (3 : Int32)), .val (.int x0), .val (.int x1), .val (.int x2), .val (.int x2), .unset, .unset, .unset, .unset, .unset, .unset] [(.int p5), (.int (x2 + (1 : Int32))), (.int (1 : Int32))])) _
      refine XS.sipush X0.here hx rfl (hb hby at_78) ?_
      show Steps p.tables e below (s₁.setTop (mkF m 81 #[.val (.int p1), .val (.int p2), .val (.int p3), .val (.int p4), .val (.int p5), .val (.int p6), .val (.int (3 : Int32)), .val (.int x0), .val (.int x1), .val (.int x2), .val (.int x2), .unset, .unset, .unset, .unset, .unset, .unset] [(.int (255 : Int32)), (.int p5), (.int (x2 + (1 : Int32))), (.int (1 : Int32))])) _
      refine XS.iand X0.here hx rfl (hb hby at_81) rfl ?_
      show Steps p.tables e below (s₁.setTop (mkF m 82 #[.val (.int p1), .val (.int p2), .val (.int p3), .val (.int p4), .val (.int p5), .val (.int p6), .val (.int (3 : Int32)), .val (.int x0), .val (.int x1), .val (.int x2), .val (.int x2), .unset, .unset, .unset, .unset, .unset, .unset] [(.int (p5 &&& (255 : Int32))), (.int (x2 + (1 : Int32))), (.int (1 : Int32))])) _
      refine XS.iadd X0.here hx rfl (hb hby at_82) rfl ?_
      show Steps p.tables e below (s₁.setTop (mkF m 83 #[.val (.int p1), .val (.int p2), .val (.int p3), .val (.int p4), .val (.int p5), .val (.int p6), .val (.int (3 : Int32)), .val (.int x0), .val (.int x1), .val (.int x2), .val (.int x2), .unset, .unset, .unset, .unset, .unset, .unset] [(.int ((x2 + (1 : Int32)) + (p5 &&& (255 : Int32)))), (.int (1 : Int32))])) _
      refine st191 _ ?_
      show Steps p.tables e below (T191.setTop (mkF m 86 #[.val (.int p1), .val (.int p2), .val (.int p3), .val (.int p4), .val (.int p5), .val (.int p6), .val (.int (3 : Int32)), .val (.int x0), .val (.int x1), .val (.int x2), .val (.int x2), .unset, .unset, .unset, .unset, .unset, .unset] [(.int (mxI (1 : Int32) ((x2 + (1 : Int32)) + (p5 &&& (255 : Int32)))))])) _
      refine XS.istore X191.here hx rfl (hb hby at_86) rfl (l' := #[.val (.int p1), .val (.int p2), .val (.int p3), .val (.int p4), .val (.int p5), .val (.int p6), .val (.int (3 : Int32)), .val (.int x0), .val (.int x1), .val (.int x2), .val (.int x2), .val (.int (mxI (1 : Int32) ((x2 + (1 : Int32)) + (p5 &&& (255 : Int32))))), .unset, .unset, .unset, .unset, .unset]) rfl ?_
      exact kt)
    obtain ⟨pp, hpp⟩ : ∃ z : Int32, z = (mxI (1 : Int32) ((x2 + (1 : Int32)) + (p5 &&& (255 : Int32)))) := ⟨_, rfl⟩
    rw [← hpp] at P192
    have hpq := own_p x2 p5 pp (by omega) hpp
    have hp1 : ¬ pp < (1 : Int32) := own_nlt _ 1 rfl hpq.1
    have hx0 : ¬ x0 < (0 : Int32) := own_nlt _ 0 rfl (by omega)
    have hy0 : x0 < pp := Int32.lt_iff_toInt_lt.mpr (by omega)
    have hx1 : ¬ x1 < (0 : Int32) := own_nlt _ 0 rfl (by omega)
    have hy1 : x1 < pp := Int32.lt_iff_toInt_lt.mpr (by omega)
    have hx2 : ¬ x2 < (0 : Int32) := own_nlt _ 0 rfl (by omega)
    have hy2 : x2 < pp := Int32.lt_iff_toInt_lt.mpr (by omega)
    obtain ⟨T193, h193, k193, X193, e193, E193, A193, B193, st193⟩ := newPE X191 hx hZ (hw _ (List.mem_of_getElem? (i := 4) rfl)) e191 (g := (mkF m 145 #[.val (.int p1), .val (.int p2), .val (.int p3), .val (.int p4), .val (.int p5), .val (.int p6), .val (.int (3 : Int32)), .val (.int x0), .val (.int x1), .val (.int x2), .val (.int x2), .val (.int pp), .unset, .unset, .unset, .unset, .unset] [(.int (3 : Int32))])) rfl (hb hby at_145) rfl (by decide) (cap := 3) (by decide) (by decide) (by decide) (by decide) (ad := "[I") (by decide)
    obtain ⟨b193, g193⟩ : ∃ z, z = h0.size := ⟨_, rfl⟩
    rw [← g193] at A193 B193 st193
    have gb193 : n0 ≤ b193 := Nat.le_trans Z0 (Nat.le_of_eq g193.symm)
    have sz193 : n0 ≤ h193.size := Nat.le_trans Z0 E193.1
    have hk193 := Nat.le_trans hk0 E193.1
    have V193 : Arv Z h193 b193 k193 .int (3 : Int32) [(.int (0 : Int32)), (.int (0 : Int32)), (.int (0 : Int32))] (.int (0 : Int32)) := (Arv.new A193 (by decide)).pad (pad_rep [] (.int (0 : Int32)) 3)
    obtain ⟨cl194, Ar194, q194, S194, Nn194, H194, G194⟩ := id V193
    have hin194 : ¬ ((0 : Int32) < 0 ∨ cl194.slots.size ≤ ((0 : Int32)).toNatClampNeg) := inb_of S194 ⟨by decide, by decide⟩
    obtain ⟨T195, h195, X195, e195, W195, st195⟩ := stI X193 hx hZ e193 Ar194 (j := (0 : Int32)) hin194 (g := (mkF m 151 #[.val (.int p1), .val (.int p2), .val (.int p3), .val (.int p4), .val (.int p5), .val (.int p6), .val (.int (3 : Int32)), .val (.int x0), .val (.int x1), .val (.int x2), .val (.int x2), .val (.int pp), .unset, .unset, .unset, .unset, .unset] [(.int x2), (.int (0 : Int32)), (.ref b193), (.ref b193)])) rfl rfl (hb hby at_151)
    have f196 := B193.wr W195
    have V195 : Arv Z h195 b193 k193 .int (3 : Int32) [(.int x2), (.int (0 : Int32)), (.int (0 : Int32))] (.int (0 : Int32)) := Arv.set Ar194 q194 S194 Nn194 H194 G194 rfl W195 0 rfl (Nat.le_of_ble_eq_true rfl)
    have N195 := Fr.snoc X195 N191 gb193
    have sz195 : n0 ≤ h195.size := Nat.le_trans sz193 (Keep.of_wr W195).1
    have hk195 := Nat.le_trans hk193 (Keep.of_wr W195).1
    obtain ⟨cl197, Ar197, q197, S197, Nn197, H197, G197⟩ := id V195
    have hin197 : ¬ ((1 : Int32) < 0 ∨ cl197.slots.size ≤ ((1 : Int32)).toNatClampNeg) := inb_of S197 ⟨by decide, by decide⟩
    obtain ⟨T198, h198, X198, e198, W198, st198⟩ := stI X195 hx hZ e195 Ar197 (j := (1 : Int32)) hin197 (g := (mkF m 156 #[.val (.int p1), .val (.int p2), .val (.int p3), .val (.int p4), .val (.int p5), .val (.int p6), .val (.int (3 : Int32)), .val (.int x0), .val (.int x1), .val (.int x2), .val (.int x2), .val (.int pp), .unset, .unset, .unset, .unset, .unset] [(.int x0), (.int (1 : Int32)), (.ref b193), (.ref b193)])) rfl rfl (hb hby at_156)
    have f199 := f196.wr W198
    have V198 : Arv Z h198 b193 k193 .int (3 : Int32) [(.int x2), (.int x0), (.int (0 : Int32))] (.int (0 : Int32)) := Arv.set Ar197 q197 S197 Nn197 H197 G197 rfl W198 1 rfl (Nat.le_of_ble_eq_true rfl)
    have N198 := Fr.snoc X198 N195 gb193
    have sz198 : n0 ≤ h198.size := Nat.le_trans sz195 (Keep.of_wr W198).1
    have hk198 := Nat.le_trans hk195 (Keep.of_wr W198).1
    obtain ⟨cl200, Ar200, q200, S200, Nn200, H200, G200⟩ := id V198
    have hin200 : ¬ ((2 : Int32) < 0 ∨ cl200.slots.size ≤ ((2 : Int32)).toNatClampNeg) := inb_of S200 ⟨by decide, by decide⟩
    obtain ⟨T201, h201, X201, e201, W201, st201⟩ := stI X198 hx hZ e198 Ar200 (j := (2 : Int32)) hin200 (g := (mkF m 161 #[.val (.int p1), .val (.int p2), .val (.int p3), .val (.int p4), .val (.int p5), .val (.int p6), .val (.int (3 : Int32)), .val (.int x0), .val (.int x1), .val (.int x2), .val (.int x2), .val (.int pp), .unset, .unset, .unset, .unset, .unset] [(.int x1), (.int (2 : Int32)), (.ref b193), (.ref b193)])) rfl rfl (hb hby at_161)
    have f202 := f199.wr W201
    have V201 : Arv Z h201 b193 k193 .int (3 : Int32) [(.int x2), (.int x0), (.int x1)] (.int (0 : Int32)) := Arv.set Ar200 q200 S200 Nn200 H200 G200 rfl W201 2 rfl (Nat.le_of_ble_eq_true rfl)
    have N201 := Fr.snoc X201 N198 gb193
    have sz201 : n0 ≤ h201.size := Nat.le_trans sz198 (Keep.of_wr W201).1
    have hk201 := Nat.le_trans hk198 (Keep.of_wr W201).1
    obtain ⟨T203, h203, X203, e203, E203, A203, D203, -, st203⟩ := newO X201 hx hZ hown (hw _ (List.mem_of_getElem? (i := 5) rfl)) (hw _ (List.mem_of_getElem? (i := 6) rfl)) (hw _ (List.mem_of_getElem? (i := 7) rfl)) e201 (g := (mkF m 164 #[.val (.int p1), .val (.int p2), .val (.int p3), .val (.int p4), .val (.int p5), .val (.int p6), .val (.int (3 : Int32)), .val (.int x0), .val (.int x1), .val (.int x2), .val (.int x2), .val (.int pp), .val (.ref b193), .unset, .unset, .unset, .unset] [])) rfl (hb hby at_164) (by decide) (by decide)
    obtain ⟨b203, g203⟩ : ∃ z, z = h201.size := ⟨_, rfl⟩
    rw [← g203] at A203 D203 st203
    have ne203_b193 : b193 ≠ b203 := Nat.ne_of_lt (Nat.lt_of_lt_of_le f202.lt (Nat.le_of_eq g203.symm))
    have gb203 : n0 ≤ b203 := Nat.le_trans sz201 (Nat.le_of_eq g203.symm)
    have sz203 : n0 ≤ h203.size := Nat.le_trans sz201 E203.1
    have hk203 := Nat.le_trans hk201 E203.1
    have f204 := f202.ext E203
    have f205 := V201.ext E203
    have F203_name : Fld Z h203 b203 "com/example/allot/allot/partition/Topic" "name" "Ljava/lang/String;" .null := D203 (Or.inr (hw _ (List.mem_of_getElem? (i := 57) rfl))) (ty := (.object "java/lang/String")) (by decide)
    have F203_partitions : Fld Z h203 b203 "com/example/allot/allot/partition/Topic" "partitions" "I" (.int (0 : Int32)) := D203 (Or.inr (hw _ (List.mem_of_getElem? (i := 59) rfl))) (ty := .int) (by decide)
    have F203_unavailable : Fld Z h203 b203 "com/example/allot/allot/partition/Topic" "unavailable" "[I" .null := D203 (Or.inr (hw _ (List.mem_of_getElem? (i := 61) rfl))) (ty := (.array .int)) (by decide)
    have P206 : ∀ t, Steps p.tables e below (T203.setTop (mkF m 168 #[.val (.int p1), .val (.int p2), .val (.int p3), .val (.int p4), .val (.int p5), .val (.int p6), .val (.int (3 : Int32)), .val (.int x0), .val (.int x1), .val (.int x2), .val (.int x2), .val (.int pp), .val (.ref b193), .unset, .unset, .unset, .unset] [(.ref b203), (.ref b203)])) t → Steps p.tables e below (s₁.setTop (entryFrame m #[(.int p1), (.int p2), (.int p3), (.int p4), (.int p5), (.int p6)] maxLocals)) t := fun t kt => P192 t (by
      show Steps p.tables e below (T191.setTop (mkF m 88 #[.val (.int p1), .val (.int p2), .val (.int p3), .val (.int p4), .val (.int p5), .val (.int p6), .val (.int (3 : Int32)), .val (.int x0), .val (.int x1), .val (.int x2), .val (.int x2), .val (.int pp), .unset, .unset, .unset, .unset, .unset] [])) _
      refine XS.iload X191.here hx rfl (hb hby at_88) rfl ?_
      show Steps p.tables e below (T191.setTop (mkF m 90 #[.val (.int p1), .val (.int p2), .val (.int p3), .val (.int p4), .val (.int p5), .val (.int p6), .val (.int (3 : Int32)), .val (.int x0), .val (.int x1), .val (.int x2), .val (.int x2), .val (.int pp), .unset, .unset, .unset, .unset, .unset] [(.int (3 : Int32))])) _
      refine XS.ifYes X191.here hx rfl (pc0 := 90) (pc' := 101) rfl (hb hby at_90) rfl ((if0 _ _).trans (feq ((by decide) : ¬ ((3 : Int32) = (0 : Int32)))).2) (by decide) (by decide) ?_
      show Steps p.tables e below (T191.setTop (mkF m 101 #[.val (.int p1), .val (.int p2), .val (.int p3), .val (.int p4), .val (.int p5), .val (.int p6), .val (.int (3 : Int32)), .val (.int x0), .val (.int x1), .val (.int x2), .val (.int x2), .val (.int pp), .unset, .unset, .unset, .unset, .unset] [])) _
      refine XS.iload X191.here hx rfl (hb hby at_101) rfl ?_
      show Steps p.tables e below (T191.setTop (mkF m 103 #[.val (.int p1), .val (.int p2), .val (.int p3), .val (.int p4), .val (.int p5), .val (.int p6), .val (.int (3 : Int32)), .val (.int x0), .val (.int x1), .val (.int x2), .val (.int x2), .val (.int pp), .unset, .unset, .unset, .unset, .unset] [(.int (3 : Int32))])) _
      refine XS.iconst X191.here hx rfl (hb hby at_103) ?_
      show Steps p.tables e below (T191.setTop (mkF m 104 #[.val (.int p1), .val (.int p2), .val (.int p3), .val (.int p4), .val (.int p5), .val (.int p6), .val (.int (3 : Int32)), .val (.int x0), .val (.int x1), .val (.int x2), .val (.int x2), .val (.int pp), .unset, .unset, .unset, .unset, .unset] [(.int (1 : Int32)), (.int (3 : Int32))])) _
      refine XS.icmpYes X191.here hx rfl (pc0 := 104) (pc' := 120) rfl (hb hby at_104) rfl (feq ((by decide) : ¬ ((3 : Int32) = (1 : Int32)))).2 (by decide) (by decide) ?_
      show Steps p.tables e below (T191.setTop (mkF m 120 #[.val (.int p1), .val (.int p2), .val (.int p3), .val (.int p4), .val (.int p5), .val (.int p6), .val (.int (3 : Int32)), .val (.int x0), .val (.int x1), .val (.int x2), .val (.int x2), .val (.int pp), .unset, .unset, .unset, .unset, .unset] [])) _
      refine XS.iload X191.here hx rfl (hb hby at_120) rfl ?_
      show Steps p.tables e below (T191.setTop (mkF m 122 #[.val (.int p1), .val (.int p2), .val (.int p3), .val (.int p4), .val (.int p5), .val (.int p6), .val (.int (3 : Int32)), .val (.int x0), .val (.int x1), .val (.int x2), .val (.int x2), .val (.int pp), .unset, .unset, .unset, .unset, .unset] [(.int (3 : Int32))])) _
      refine XS.iconst X191.here hx rfl (hb hby at_122) ?_
      show Steps p.tables e below (T191.setTop (mkF m 123 #[.val (.int p1), .val (.int p2), .val (.int p3), .val (.int p4), .val (.int p5), .val (.int p6), .val (.int (3 : Int32)), .val (.int x0), .val (.int x1), .val (.int x2), .val (.int x2), .val (.int pp), .unset, .unset, .unset, .unset, .unset] [(.int (2 : Int32)), (.int (3 : Int32))])) _
      refine XS.icmpYes X191.here hx rfl (pc0 := 123) (pc' := 144) rfl (hb hby at_123) rfl (feq ((by decide) : ¬ ((3 : Int32) = (2 : Int32)))).2 (by decide) (by decide) ?_
      show Steps p.tables e below (T191.setTop (mkF m 144 #[.val (.int p1), .val (.int p2), .val (.int p3), .val (.int p4), .val (.int p5), .val (.int p6), .val (.int (3 : Int32)), .val (.int x0), .val (.int x1), .val (.int x2), .val (.int x2), .val (.int pp), .unset, .unset, .unset, .unset, .unset] [])) _
      refine XS.iconst X191.here hx rfl (hb hby at_144) ?_
      show Steps p.tables e below (T191.setTop (mkF m 145 #[.val (.int p1), .val (.int p2), .val (.int p3), .val (.int p4), .val (.int p5), .val (.int p6), .val (.int (3 : Int32)), .val (.int x0), .val (.int x1), .val (.int x2), .val (.int x2), .val (.int pp), .unset, .unset, .unset, .unset, .unset] [(.int (3 : Int32))])) _
      refine st193 _ ?_
      show Steps p.tables e below (T193.setTop (mkF m 147 #[.val (.int p1), .val (.int p2), .val (.int p3), .val (.int p4), .val (.int p5), .val (.int p6), .val (.int (3 : Int32)), .val (.int x0), .val (.int x1), .val (.int x2), .val (.int x2), .val (.int pp), .unset, .unset, .unset, .unset, .unset] [(.ref b193)])) _
      refine XS.dup X193.here hx rfl (hb hby at_147) rfl rfl ?_
      show Steps p.tables e below (T193.setTop (mkF m 148 #[.val (.int p1), .val (.int p2), .val (.int p3), .val (.int p4), .val (.int p5), .val (.int p6), .val (.int (3 : Int32)), .val (.int x0), .val (.int x1), .val (.int x2), .val (.int x2), .val (.int pp), .unset, .unset, .unset, .unset, .unset] [(.ref b193), (.ref b193)])) _
      refine XS.iconst X193.here hx rfl (hb hby at_148) ?_
      show Steps p.tables e below (T193.setTop (mkF m 149 #[.val (.int p1), .val (.int p2), .val (.int p3), .val (.int p4), .val (.int p5), .val (.int p6), .val (.int (3 : Int32)), .val (.int x0), .val (.int x1), .val (.int x2), .val (.int x2), .val (.int pp), .unset, .unset, .unset, .unset, .unset] [(.int (0 : Int32)), (.ref b193), (.ref b193)])) _
      refine XS.iload X193.here hx rfl (hb hby at_149) rfl ?_
      show Steps p.tables e below (T193.setTop (mkF m 151 #[.val (.int p1), .val (.int p2), .val (.int p3), .val (.int p4), .val (.int p5), .val (.int p6), .val (.int (3 : Int32)), .val (.int x0), .val (.int x1), .val (.int x2), .val (.int x2), .val (.int pp), .unset, .unset, .unset, .unset, .unset] [(.int x2), (.int (0 : Int32)), (.ref b193), (.ref b193)])) _
      refine st195 _ ?_
      show Steps p.tables e below (T195.setTop (mkF m 152 #[.val (.int p1), .val (.int p2), .val (.int p3), .val (.int p4), .val (.int p5), .val (.int p6), .val (.int (3 : Int32)), .val (.int x0), .val (.int x1), .val (.int x2), .val (.int x2), .val (.int pp), .unset, .unset, .unset, .unset, .unset] [(.ref b193)])) _
      refine XS.dup X195.here hx rfl (hb hby at_152) rfl rfl ?_
      show Steps p.tables e below (T195.setTop (mkF m 153 #[.val (.int p1), .val (.int p2), .val (.int p3), .val (.int p4), .val (.int p5), .val (.int p6), .val (.int (3 : Int32)), .val (.int x0), .val (.int x1), .val (.int x2), .val (.int x2), .val (.int pp), .unset, .unset, .unset, .unset, .unset] [(.ref b193), (.ref b193)])) _
      refine XS.iconst X195.here hx rfl (hb hby at_153) ?_
      show Steps p.tables e below (T195.setTop (mkF m 154 #[.val (.int p1), .val (.int p2), .val (.int p3), .val (.int p4), .val (.int p5), .val (.int p6), .val (.int (3 : Int32)), .val (.int x0), .val (.int x1), .val (.int x2), .val (.int x2), .val (.int pp), .unset, .unset, .unset, .unset, .unset] [(.int (1 : Int32)), (.ref b193), (.ref b193)])) _
      refine XS.iload X195.here hx rfl (hb hby at_154) rfl ?_
      show Steps p.tables e below (T195.setTop (mkF m 156 #[.val (.int p1), .val (.int p2), .val (.int p3), .val (.int p4), .val (.int p5), .val (.int p6), .val (.int (3 : Int32)), .val (.int x0), .val (.int x1), .val (.int x2), .val (.int x2), .val (.int pp), .unset, .unset, .unset, .unset, .unset] [(.int x0), (.int (1 : Int32)), (.ref b193), (.ref b193)])) _
      refine st198 _ ?_
      show Steps p.tables e below (T198.setTop (mkF m 157 #[.val (.int p1), .val (.int p2), .val (.int p3), .val (.int p4), .val (.int p5), .val (.int p6), .val (.int (3 : Int32)), .val (.int x0), .val (.int x1), .val (.int x2), .val (.int x2), .val (.int pp), .unset, .unset, .unset, .unset, .unset] [(.ref b193)])) _
      refine XS.dup X198.here hx rfl (hb hby at_157) rfl rfl ?_
      show Steps p.tables e below (T198.setTop (mkF m 158 #[.val (.int p1), .val (.int p2), .val (.int p3), .val (.int p4), .val (.int p5), .val (.int p6), .val (.int (3 : Int32)), .val (.int x0), .val (.int x1), .val (.int x2), .val (.int x2), .val (.int pp), .unset, .unset, .unset, .unset, .unset] [(.ref b193), (.ref b193)])) _
      refine XS.iconst X198.here hx rfl (hb hby at_158) ?_
      show Steps p.tables e below (T198.setTop (mkF m 159 #[.val (.int p1), .val (.int p2), .val (.int p3), .val (.int p4), .val (.int p5), .val (.int p6), .val (.int (3 : Int32)), .val (.int x0), .val (.int x1), .val (.int x2), .val (.int x2), .val (.int pp), .unset, .unset, .unset, .unset, .unset] [(.int (2 : Int32)), (.ref b193), (.ref b193)])) _
      refine XS.iload X198.here hx rfl (hb hby at_159) rfl ?_
      show Steps p.tables e below (T198.setTop (mkF m 161 #[.val (.int p1), .val (.int p2), .val (.int p3), .val (.int p4), .val (.int p5), .val (.int p6), .val (.int (3 : Int32)), .val (.int x0), .val (.int x1), .val (.int x2), .val (.int x2), .val (.int pp), .unset, .unset, .unset, .unset, .unset] [(.int x1), (.int (2 : Int32)), (.ref b193), (.ref b193)])) _
      refine st201 _ ?_
      show Steps p.tables e below (T201.setTop (mkF m 162 #[.val (.int p1), .val (.int p2), .val (.int p3), .val (.int p4), .val (.int p5), .val (.int p6), .val (.int (3 : Int32)), .val (.int x0), .val (.int x1), .val (.int x2), .val (.int x2), .val (.int pp), .unset, .unset, .unset, .unset, .unset] [(.ref b193)])) _
      refine XS.astore X201.here hx rfl (hb hby at_162) rfl rfl (l' := #[.val (.int p1), .val (.int p2), .val (.int p3), .val (.int p4), .val (.int p5), .val (.int p6), .val (.int (3 : Int32)), .val (.int x0), .val (.int x1), .val (.int x2), .val (.int x2), .val (.int pp), .val (.ref b193), .unset, .unset, .unset, .unset]) rfl ?_
      show Steps p.tables e below (T201.setTop (mkF m 164 #[.val (.int p1), .val (.int p2), .val (.int p3), .val (.int p4), .val (.int p5), .val (.int p6), .val (.int (3 : Int32)), .val (.int x0), .val (.int x1), .val (.int x2), .val (.int x2), .val (.int pp), .val (.ref b193), .unset, .unset, .unset, .unset] [])) _
      refine st203 _ ?_
      show Steps p.tables e below (T203.setTop (mkF m 167 #[.val (.int p1), .val (.int p2), .val (.int p3), .val (.int p4), .val (.int p5), .val (.int p6), .val (.int (3 : Int32)), .val (.int x0), .val (.int x1), .val (.int x2), .val (.int x2), .val (.int pp), .val (.ref b193), .unset, .unset, .unset, .unset] [(.ref b203)])) _
      refine XS.dup X203.here hx rfl (hb hby at_167) rfl rfl ?_
      exact kt)
    obtain ⟨sa207, T207, h207, j207, X207, e207, E207, hS207, hk207, hZ, hown, st207⟩ := ldcS X203 hx hZ hown (hw _ (List.mem_of_getElem? (i := 8) rfl)) (own_wS hw) e203 hS0 hk203 (g := (mkF m 168 #[.val (.int p1), .val (.int p2), .val (.int p3), .val (.int p4), .val (.int p5), .val (.int p6), .val (.int (3 : Int32)), .val (.int x0), .val (.int x1), .val (.int x2), .val (.int x2), .val (.int pp), .val (.ref b193), .unset, .unset, .unset, .unset] [(.ref b203), (.ref b203)])) rfl (hb hby at_168) (n := 4) (by decide) (by decide) (by decide) (by decide)
    have f208 := f204.ext E207
    have f209 := f205.ext E207
    have f210 := A203.ext E207
    have f211 := F203_name.ext E207
    have f212 := F203_partitions.ext E207
    have f213 := F203_unavailable.ext E207
    have sz207 : n0 ≤ h207.size := Nat.le_trans sz203 E207.1
    have P214 : ∀ t, Steps p.tables e below (T207.setTop (mkF m 174 #[.val (.int p1), .val (.int p2), .val (.int p3), .val (.int p4), .val (.int p5), .val (.int p6), .val (.int (3 : Int32)), .val (.int x0), .val (.int x1), .val (.int x2), .val (.int x2), .val (.int pp), .val (.ref b193), .unset, .unset, .unset, .unset] [(.ref b193), (.int pp), (.ref sa207), (.ref b203), (.ref b203)])) t → Steps p.tables e below (s₁.setTop (entryFrame m #[(.int p1), (.int p2), (.int p3), (.int p4), (.int p5), (.int p6)] maxLocals)) t := fun t kt => P206 t (by
      show Steps p.tables e below (T203.setTop (mkF m 168 #[.val (.int p1), .val (.int p2), .val (.int p3), .val (.int p4), .val (.int p5), .val (.int p6), .val (.int (3 : Int32)), .val (.int x0), .val (.int x1), .val (.int x2), .val (.int x2), .val (.int pp), .val (.ref b193), .unset, .unset, .unset, .unset] [(.ref b203), (.ref b203)])) _
      refine st207 _ ?_
      show Steps p.tables e below (T207.setTop (mkF m 170 #[.val (.int p1), .val (.int p2), .val (.int p3), .val (.int p4), .val (.int p5), .val (.int p6), .val (.int (3 : Int32)), .val (.int x0), .val (.int x1), .val (.int x2), .val (.int x2), .val (.int pp), .val (.ref b193), .unset, .unset, .unset, .unset] [(.ref sa207), (.ref b203), (.ref b203)])) _
      refine XS.iload X207.here hx rfl (hb hby at_170) rfl ?_
      show Steps p.tables e below (T207.setTop (mkF m 172 #[.val (.int p1), .val (.int p2), .val (.int p3), .val (.int p4), .val (.int p5), .val (.int p6), .val (.int (3 : Int32)), .val (.int x0), .val (.int x1), .val (.int x2), .val (.int x2), .val (.int pp), .val (.ref b193), .unset, .unset, .unset, .unset] [(.int pp), (.ref sa207), (.ref b203), (.ref b203)])) _
      refine XS.aload X207.here hx rfl (hb hby at_172) rfl rfl ?_
      exact kt)
    obtain ⟨_, _, ⟨T215, L215, k215, n215⟩, -, X215, hSi215, hgr215, ⟨Lc215, hQ215, l215, y215, z215⟩, st215⟩ := X207.specialBackS hx (y := (⟨"com/example/allot/allot/partition/Topic", "<init>", "(Ljava/lang/String;I[I)V"⟩ : MethodName)) rfl hown (mvT hZ (hw _ (List.mem_of_getElem? (i := 16) rfl))) (mvT hZ (hw _ (List.mem_of_getElem? (i := 17) rfl))) (mvT hZ (hw _ (List.mem_of_getElem? (i := 18) rfl))) (by decide) (backOfS (W := 1)  (rmT3 l Z a0 hw [] b203 sa207 pp b193 k193 x0 x1 x2 h207 n0 sz207 f210 f211 f212 f213 gb203 f208 f209 (Ne.symm ne203_b193) hp1 h01 h02 h12 hx0 hx1 hx2 hy0 hy1 hy2) hZ (hw _ (List.mem_of_getElem? (i := 18) rfl)) (hw _ (List.mem_of_getElem? (i := 7) rfl)) (by decide) (by decide)) (g := (mkF m 174 #[.val (.int p1), .val (.int p2), .val (.int p3), .val (.int p4), .val (.int p5), .val (.int p6), .val (.int (3 : Int32)), .val (.int x0), .val (.int x1), .val (.int x2), .val (.int x2), .val (.int pp), .val (.ref b193), .unset, .unset, .unset, .unset] [(.ref b193), (.int pp), (.ref sa207), (.ref b203), (.ref b203)])) rfl (by rw [hml]; rfl) (Steps.refl _) (a := b203) (argsL := [(.ref sa207), (.int pp), (.ref b193)]) (rest := [(.ref b203)]) (lenOf pd__Ljava_lang_String_I_I_V rfl) rfl (by show 2 * 0 + _ ≤ _; exact Nat.le_of_eq rfl) (hb hby at_174) (fun _ _ => ⟨rfl, e207, (by decide : 4 + 11 ≤ _), (by decide : 14 + 335 ≤ _)⟩)
    dsimp only [Pt.U, Pt.locs, Pt.cells, Pt.slots] at X215 l215 y215 z215 st215 hQ215
    subst l215 y215 z215
    dsimp only [Pt.U, Pt.locs, Pt.cells, Pt.slots] at hSi215 hgr215
    obtain ⟨X215, hS215, hZ, hown⟩ := rebS hS207 (by rw [e207]; exact hk207) X215 hSi215 hgr215 hZ hown
    obtain ⟨rfl, Nq215, K215x, Ex215, Fnx215, Fpx215, bb, kb, Fux215, Vbx215⟩ := hQ215
    have N215 := Fr.app N201 Nq215
    have sz215 : n0 ≤ T215.heap.size := Nat.le_trans sz207 K215x.1
    have P216 : ∀ t, Steps p.tables e below (T215.setTop (mkF m 188 #[.val (.int p1), .val (.int p2), .val (.int p3), .val (.int p4), .val (.int p5), .val (.int p6), .val (.int (3 : Int32)), .val (.int x0), .val (.int x1), .val (.int x2), .val (.int x2), .val (.int pp), .val (.ref b193), .val (.ref b203), .val (.int (pp - (3 : Int32))), .unset, .unset] [(.int (pp - (3 : Int32)))])) t → Steps p.tables e below (s₁.setTop (entryFrame m #[(.int p1), (.int p2), (.int p3), (.int p4), (.int p5), (.int p6)] maxLocals)) t := fun t kt => P214 t (by
      show Steps p.tables e below (T207.setTop (mkF m 174 #[.val (.int p1), .val (.int p2), .val (.int p3), .val (.int p4), .val (.int p5), .val (.int p6), .val (.int (3 : Int32)), .val (.int x0), .val (.int x1), .val (.int x2), .val (.int x2), .val (.int pp), .val (.ref b193), .unset, .unset, .unset, .unset] [(.ref b193), (.int pp), (.ref sa207), (.ref b203), (.ref b203)])) _
      refine st215.trans ?_
      show Steps p.tables e below (T215.setTop (mkF m 177 #[.val (.int p1), .val (.int p2), .val (.int p3), .val (.int p4), .val (.int p5), .val (.int p6), .val (.int (3 : Int32)), .val (.int x0), .val (.int x1), .val (.int x2), .val (.int x2), .val (.int pp), .val (.ref b193), .unset, .unset, .unset, .unset] [(.ref b203)])) _
      refine XS.astore X215.here hx rfl (hb hby at_177) rfl rfl (l' := #[.val (.int p1), .val (.int p2), .val (.int p3), .val (.int p4), .val (.int p5), .val (.int p6), .val (.int (3 : Int32)), .val (.int x0), .val (.int x1), .val (.int x2), .val (.int x2), .val (.int pp), .val (.ref b193), .val (.ref b203), .unset, .unset, .unset]) rfl ?_
      show Steps p.tables e below (T215.setTop (mkF m 179 #[.val (.int p1), .val (.int p2), .val (.int p3), .val (.int p4), .val (.int p5), .val (.int p6), .val (.int (3 : Int32)), .val (.int x0), .val (.int x1), .val (.int x2), .val (.int x2), .val (.int pp), .val (.ref b193), .val (.ref b203), .unset, .unset, .unset] [])) _
      refine XS.iload X215.here hx rfl (hb hby at_179) rfl ?_
      show Steps p.tables e below (T215.setTop (mkF m 181 #[.val (.int p1), .val (.int p2), .val (.int p3), .val (.int p4), .val (.int p5), .val (.int p6), .val (.int (3 : Int32)), .val (.int x0), .val (.int x1), .val (.int x2), .val (.int x2), .val (.int pp), .val (.ref b193), .val (.ref b203), .unset, .unset, .unset] [(.int pp)])) _
      refine XS.iload X215.here hx rfl (hb hby at_181) rfl ?_
      show Steps p.tables e below (T215.setTop (mkF m 183 #[.val (.int p1), .val (.int p2), .val (.int p3), .val (.int p4), .val (.int p5), .val (.int p6), .val (.int (3 : Int32)), .val (.int x0), .val (.int x1), .val (.int x2), .val (.int x2), .val (.int pp), .val (.ref b193), .val (.ref b203), .unset, .unset, .unset] [(.int (3 : Int32)), (.int pp)])) _
      refine XS.isub X215.here hx rfl (hb hby at_183) rfl ?_
      show Steps p.tables e below (T215.setTop (mkF m 184 #[.val (.int p1), .val (.int p2), .val (.int p3), .val (.int p4), .val (.int p5), .val (.int p6), .val (.int (3 : Int32)), .val (.int x0), .val (.int x1), .val (.int x2), .val (.int x2), .val (.int pp), .val (.ref b193), .val (.ref b203), .unset, .unset, .unset] [(.int (pp - (3 : Int32)))])) _
      refine XS.istore X215.here hx rfl (hb hby at_184) rfl (l' := #[.val (.int p1), .val (.int p2), .val (.int p3), .val (.int p4), .val (.int p5), .val (.int p6), .val (.int (3 : Int32)), .val (.int x0), .val (.int x1), .val (.int x2), .val (.int x2), .val (.int pp), .val (.ref b193), .val (.ref b203), .val (.int (pp - (3 : Int32))), .unset, .unset]) rfl ?_
      show Steps p.tables e below (T215.setTop (mkF m 186 #[.val (.int p1), .val (.int p2), .val (.int p3), .val (.int p4), .val (.int p5), .val (.int p6), .val (.int (3 : Int32)), .val (.int x0), .val (.int x1), .val (.int x2), .val (.int x2), .val (.int pp), .val (.ref b193), .val (.ref b203), .val (.int (pp - (3 : Int32))), .unset, .unset] [])) _
      refine XS.iload X215.here hx rfl (hb hby at_186) rfl ?_
      exact kt)
    by_cases hc188_217 : (0 : Int32) < (pp - (3 : Int32))
    · have P218 : ∀ t, Steps p.tables e below (T215.setTop (mkF m 203 #[.val (.int p1), .val (.int p2), .val (.int p3), .val (.int p4), .val (.int p5), .val (.int p6), .val (.int (3 : Int32)), .val (.int x0), .val (.int x1), .val (.int x2), .val (.int x2), .val (.int pp), .val (.ref b193), .val (.ref b203), .val (.int (pp - (3 : Int32))), .val (.int ((p6 &&& (2147483647 : Int32)) - ((p6 &&& (2147483647 : Int32)) / (pp - (3 : Int32))) * (pp - (3 : Int32)))), .unset] [])) t → Steps p.tables e below (s₁.setTop (entryFrame m #[(.int p1), (.int p2), (.int p3), (.int p4), (.int p5), (.int p6)] maxLocals)) t := fun t kt => P216 t (by
        show Steps p.tables e below (T215.setTop (mkF m 188 #[.val (.int p1), .val (.int p2), .val (.int p3), .val (.int p4), .val (.int p5), .val (.int p6), .val (.int (3 : Int32)), .val (.int x0), .val (.int x1), .val (.int x2), .val (.int x2), .val (.int pp), .val (.ref b193), .val (.ref b203), .val (.int (pp - (3 : Int32))), .unset, .unset] [(.int (pp - (3 : Int32)))])) _
        refine XS.ifYes X215.here hx rfl (pc0 := 188) (pc' := 193) rfl (hb hby at_188) rfl ((if0 _ _).trans (tlt hc188_217).2.2.1) (by decide) (by decide) ?_
        show Steps p.tables e below (T215.setTop (mkF m 193 #[.val (.int p1), .val (.int p2), .val (.int p3), .val (.int p4), .val (.int p5), .val (.int p6), .val (.int (3 : Int32)), .val (.int x0), .val (.int x1), .val (.int x2), .val (.int x2), .val (.int pp), .val (.ref b193), .val (.ref b203), .val (.int (pp - (3 : Int32))), .unset, .unset] [])) _
        refine XS.iload X215.here hx rfl (hb hby at_193) rfl ?_
        show Steps p.tables e below (T215.setTop (mkF m 195 #[.val (.int p1), .val (.int p2), .val (.int p3), .val (.int p4), .val (.int p5), .val (.int p6), .val (.int (3 : Int32)), .val (.int x0), .val (.int x1), .val (.int x2), .val (.int x2), .val (.int pp), .val (.ref b193), .val (.ref b203), .val (.int (pp - (3 : Int32))), .unset, .unset] [(.int p6)])) _
        refine X215.ldcInt hx hown (mvT hZ (hw _ (List.mem_of_getElem? (i := 62) rfl))) (g := (mkF m 195 #[.val (.int p1), .val (.int p2), .val (.int p3), .val (.int p4), .val (.int p5), .val (.int p6), .val (.int (3 : Int32)), .val (.int x0), .val (.int x1), .val (.int x2), .val (.int x2), .val (.int pp), .val (.ref b193), .val (.ref b203), .val (.int (pp - (3 : Int32))), .unset, .unset] [(.int p6)])) rfl (hb hby at_195) _ ?_
        show Steps p.tables e below (T215.setTop (mkF m 197 #[.val (.int p1), .val (.int p2), .val (.int p3), .val (.int p4), .val (.int p5), .val (.int p6), .val (.int (3 : Int32)), .val (.int x0), .val (.int x1), .val (.int x2), .val (.int x2), .val (.int pp), .val (.ref b193), .val (.ref b203), .val (.int (pp - (3 : Int32))), .unset, .unset] [(.int (2147483647 : Int32)), (.int p6)])) _
        refine XS.iand X215.here hx rfl (hb hby at_197) rfl ?_
        show Steps p.tables e below (T215.setTop (mkF m 198 #[.val (.int p1), .val (.int p2), .val (.int p3), .val (.int p4), .val (.int p5), .val (.int p6), .val (.int (3 : Int32)), .val (.int x0), .val (.int x1), .val (.int x2), .val (.int x2), .val (.int pp), .val (.ref b193), .val (.ref b203), .val (.int (pp - (3 : Int32))), .unset, .unset] [(.int (p6 &&& (2147483647 : Int32)))])) _
        refine XS.iload X215.here hx rfl (hb hby at_198) rfl ?_
        show Steps p.tables e below (T215.setTop (mkF m 200 #[.val (.int p1), .val (.int p2), .val (.int p3), .val (.int p4), .val (.int p5), .val (.int p6), .val (.int (3 : Int32)), .val (.int x0), .val (.int x1), .val (.int x2), .val (.int x2), .val (.int pp), .val (.ref b193), .val (.ref b203), .val (.int (pp - (3 : Int32))), .unset, .unset] [(.int (pp - (3 : Int32))), (.int (p6 &&& (2147483647 : Int32)))])) _
        refine XS.irem X215.here hx rfl (hb hby at_200) rfl (own_nz _ hc188_217) ?_
        show Steps p.tables e below (T215.setTop (mkF m 201 #[.val (.int p1), .val (.int p2), .val (.int p3), .val (.int p4), .val (.int p5), .val (.int p6), .val (.int (3 : Int32)), .val (.int x0), .val (.int x1), .val (.int x2), .val (.int x2), .val (.int pp), .val (.ref b193), .val (.ref b203), .val (.int (pp - (3 : Int32))), .unset, .unset] [(.int ((p6 &&& (2147483647 : Int32)) - ((p6 &&& (2147483647 : Int32)) / (pp - (3 : Int32))) * (pp - (3 : Int32))))])) _
        refine XS.istore X215.here hx rfl (hb hby at_201) rfl (l' := #[.val (.int p1), .val (.int p2), .val (.int p3), .val (.int p4), .val (.int p5), .val (.int p6), .val (.int (3 : Int32)), .val (.int x0), .val (.int x1), .val (.int x2), .val (.int x2), .val (.int pp), .val (.ref b193), .val (.ref b203), .val (.int (pp - (3 : Int32))), .val (.int ((p6 &&& (2147483647 : Int32)) - ((p6 &&& (2147483647 : Int32)) / (pp - (3 : Int32))) * (pp - (3 : Int32)))), .unset]) rfl ?_
        exact kt)
      obtain ⟨ii, hii⟩ : ∃ z : Int32, z = ((p6 &&& (2147483647 : Int32)) - ((p6 &&& (2147483647 : Int32)) / (pp - (3 : Int32))) * (pp - (3 : Int32))) := ⟨_, rfl⟩
      rw [← hii] at P218
      have hii2 := own_i p6 _ ii hc188_217 hii
      have hcc := own_sub pp (3 : Int32) (by rw [own_l3]; omega) (by rw [own_l3]; omega)
      rw [own_l3] at hcc
      have hi1 : ¬ ii < (0 : Int32) := own_nlt _ 0 rfl hii2.1
      have hi2 : ii < (pp - (3 : Int32)) := Int32.lt_iff_toInt_lt.mpr hii2.2
      have P219 : ∀ t, Steps p.tables e below (T215.setTop (mkF m 217 #[.val (.int p1), .val (.int p2), .val (.int p3), .val (.int p4), .val (.int p5), .val (.int p6), .val (.int (3 : Int32)), .val (.int x0), .val (.int x1), .val (.int x2), .val (.int x2), .val (.int pp), .val (.ref b193), .val (.ref b203), .val (.int (pp - (3 : Int32))), .val (.int ii), .val (.int ii)] [(.int ii), (.int x0)])) t → Steps p.tables e below (s₁.setTop (entryFrame m #[(.int p1), (.int p2), (.int p3), (.int p4), (.int p5), (.int p6)] maxLocals)) t := fun t kt => P218 t (by
        show Steps p.tables e below (T215.setTop (mkF m 203 #[.val (.int p1), .val (.int p2), .val (.int p3), .val (.int p4), .val (.int p5), .val (.int p6), .val (.int (3 : Int32)), .val (.int x0), .val (.int x1), .val (.int x2), .val (.int x2), .val (.int pp), .val (.ref b193), .val (.ref b203), .val (.int (pp - (3 : Int32))), .val (.int ii), .unset] [])) _
        refine XS.iload X215.here hx rfl (hb hby at_203) rfl ?_
        show Steps p.tables e below (T215.setTop (mkF m 205 #[.val (.int p1), .val (.int p2), .val (.int p3), .val (.int p4), .val (.int p5), .val (.int p6), .val (.int (3 : Int32)), .val (.int x0), .val (.int x1), .val (.int x2), .val (.int x2), .val (.int pp), .val (.ref b193), .val (.ref b203), .val (.int (pp - (3 : Int32))), .val (.int ii), .unset] [(.int ii)])) _
        refine XS.istore X215.here hx rfl (hb hby at_205) rfl (l' := #[.val (.int p1), .val (.int p2), .val (.int p3), .val (.int p4), .val (.int p5), .val (.int p6), .val (.int (3 : Int32)), .val (.int x0), .val (.int x1), .val (.int x2), .val (.int x2), .val (.int pp), .val (.ref b193), .val (.ref b203), .val (.int (pp - (3 : Int32))), .val (.int ii), .val (.int ii)]) rfl ?_
        show Steps p.tables e below (T215.setTop (mkF m 207 #[.val (.int p1), .val (.int p2), .val (.int p3), .val (.int p4), .val (.int p5), .val (.int p6), .val (.int (3 : Int32)), .val (.int x0), .val (.int x1), .val (.int x2), .val (.int x2), .val (.int pp), .val (.ref b193), .val (.ref b203), .val (.int (pp - (3 : Int32))), .val (.int ii), .val (.int ii)] [])) _
        refine XS.iload X215.here hx rfl (hb hby at_207) rfl ?_
        show Steps p.tables e below (T215.setTop (mkF m 209 #[.val (.int p1), .val (.int p2), .val (.int p3), .val (.int p4), .val (.int p5), .val (.int p6), .val (.int (3 : Int32)), .val (.int x0), .val (.int x1), .val (.int x2), .val (.int x2), .val (.int pp), .val (.ref b193), .val (.ref b203), .val (.int (pp - (3 : Int32))), .val (.int ii), .val (.int ii)] [(.int (3 : Int32))])) _
        refine XS.iconst X215.here hx rfl (hb hby at_209) ?_
        show Steps p.tables e below (T215.setTop (mkF m 210 #[.val (.int p1), .val (.int p2), .val (.int p3), .val (.int p4), .val (.int p5), .val (.int p6), .val (.int (3 : Int32)), .val (.int x0), .val (.int x1), .val (.int x2), .val (.int x2), .val (.int pp), .val (.ref b193), .val (.ref b203), .val (.int (pp - (3 : Int32))), .val (.int ii), .val (.int ii)] [(.int (1 : Int32)), (.int (3 : Int32))])) _
        refine XS.icmpNo X215.here hx rfl (hb hby at_210) rfl (flt ((by decide) : ¬ ((3 : Int32) < (1 : Int32)))).1 ?_
        show Steps p.tables e below (T215.setTop (mkF m 213 #[.val (.int p1), .val (.int p2), .val (.int p3), .val (.int p4), .val (.int p5), .val (.int p6), .val (.int (3 : Int32)), .val (.int x0), .val (.int x1), .val (.int x2), .val (.int x2), .val (.int pp), .val (.ref b193), .val (.ref b203), .val (.int (pp - (3 : Int32))), .val (.int ii), .val (.int ii)] [])) _
        refine XS.iload X215.here hx rfl (hb hby at_213) rfl ?_
        show Steps p.tables e below (T215.setTop (mkF m 215 #[.val (.int p1), .val (.int p2), .val (.int p3), .val (.int p4), .val (.int p5), .val (.int p6), .val (.int (3 : Int32)), .val (.int x0), .val (.int x1), .val (.int x2), .val (.int x2), .val (.int pp), .val (.ref b193), .val (.ref b203), .val (.int (pp - (3 : Int32))), .val (.int ii), .val (.int ii)] [(.int x0)])) _
        refine XS.iload X215.here hx rfl (hb hby at_215) rfl ?_
        exact kt)
      obtain ⟨r1, hr1⟩ : ∃ z : Int32, z = (if ii < x0 then ii else (ii + (1 : Int32))) := ⟨_, rfl⟩
      have J220 : ∀ t, Steps p.tables e below (T215.setTop (mkF m 223 #[.val (.int p1), .val (.int p2), .val (.int p3), .val (.int p4), .val (.int p5), .val (.int p6), .val (.int (3 : Int32)), .val (.int x0), .val (.int x1), .val (.int x2), .val (.int x2), .val (.int pp), .val (.ref b193), .val (.ref b203), .val (.int (pp - (3 : Int32))), .val (.int ii), .val (.int r1)] [])) t → Steps p.tables e below (T215.setTop (mkF m 217 #[.val (.int p1), .val (.int p2), .val (.int p3), .val (.int p4), .val (.int p5), .val (.int p6), .val (.int (3 : Int32)), .val (.int x0), .val (.int x1), .val (.int x2), .val (.int x2), .val (.int pp), .val (.ref b193), .val (.ref b203), .val (.int (pp - (3 : Int32))), .val (.int ii), .val (.int ii)] [(.int ii), (.int x0)])) t := by
        intro t kt
        by_cases hr220_217_0 : ii < x0
        · have evr1 : r1 = ii := by rw [hr1, if_pos hr220_217_0]
          rw [evr1] at kt
          show Steps p.tables e below (T215.setTop (mkF m 217 #[.val (.int p1), .val (.int p2), .val (.int p3), .val (.int p4), .val (.int p5), .val (.int p6), .val (.int (3 : Int32)), .val (.int x0), .val (.int x1), .val (.int x2), .val (.int x2), .val (.int pp), .val (.ref b193), .val (.ref b203), .val (.int (pp - (3 : Int32))), .val (.int ii), .val (.int ii)] [(.int ii), (.int x0)])) _
          refine XS.icmpYes X215.here hx rfl (pc0 := 217) (pc' := 223) rfl (hb hby at_217) rfl (tlt hr220_217_0).2.2.1 (by decide) (by decide) ?_
          exact kt
        · have evr1 : r1 = (ii + (1 : Int32)) := by rw [hr1, if_neg hr220_217_0]
          rw [evr1] at kt
          show Steps p.tables e below (T215.setTop (mkF m 217 #[.val (.int p1), .val (.int p2), .val (.int p3), .val (.int p4), .val (.int p5), .val (.int p6), .val (.int (3 : Int32)), .val (.int x0), .val (.int x1), .val (.int x2), .val (.int x2), .val (.int pp), .val (.ref b193), .val (.ref b203), .val (.int (pp - (3 : Int32))), .val (.int ii), .val (.int ii)] [(.int ii), (.int x0)])) _
          refine XS.icmpNo X215.here hx rfl (hb hby at_217) rfl (flt hr220_217_0).2.2.1 ?_
          show Steps p.tables e below (T215.setTop (mkF m 220 #[.val (.int p1), .val (.int p2), .val (.int p3), .val (.int p4), .val (.int p5), .val (.int p6), .val (.int (3 : Int32)), .val (.int x0), .val (.int x1), .val (.int x2), .val (.int x2), .val (.int pp), .val (.ref b193), .val (.ref b203), .val (.int (pp - (3 : Int32))), .val (.int ii), .val (.int ii)] [])) _
          refine XS.iinc X215.here hx rfl (hb hby at_220) rfl (l' := #[.val (.int p1), .val (.int p2), .val (.int p3), .val (.int p4), .val (.int p5), .val (.int p6), .val (.int (3 : Int32)), .val (.int x0), .val (.int x1), .val (.int x2), .val (.int x2), .val (.int pp), .val (.ref b193), .val (.ref b203), .val (.int (pp - (3 : Int32))), .val (.int ii), .val (.int (ii + (1 : Int32)))]) rfl ?_
          exact kt
      have P221 : ∀ t, Steps p.tables e below (T215.setTop (mkF m 223 #[.val (.int p1), .val (.int p2), .val (.int p3), .val (.int p4), .val (.int p5), .val (.int p6), .val (.int (3 : Int32)), .val (.int x0), .val (.int x1), .val (.int x2), .val (.int x2), .val (.int pp), .val (.ref b193), .val (.ref b203), .val (.int (pp - (3 : Int32))), .val (.int ii), .val (.int r1)] [])) t → Steps p.tables e below (s₁.setTop (entryFrame m #[(.int p1), (.int p2), (.int p3), (.int p4), (.int p5), (.int p6)] maxLocals)) t := fun t kt => P219 t (J220 t kt)
      have P222 : ∀ t, Steps p.tables e below (T215.setTop (mkF m 233 #[.val (.int p1), .val (.int p2), .val (.int p3), .val (.int p4), .val (.int p5), .val (.int p6), .val (.int (3 : Int32)), .val (.int x0), .val (.int x1), .val (.int x2), .val (.int x2), .val (.int pp), .val (.ref b193), .val (.ref b203), .val (.int (pp - (3 : Int32))), .val (.int ii), .val (.int r1)] [(.int r1), (.int x1)])) t → Steps p.tables e below (s₁.setTop (entryFrame m #[(.int p1), (.int p2), (.int p3), (.int p4), (.int p5), (.int p6)] maxLocals)) t := fun t kt => P221 t (by
        show Steps p.tables e below (T215.setTop (mkF m 223 #[.val (.int p1), .val (.int p2), .val (.int p3), .val (.int p4), .val (.int p5), .val (.int p6), .val (.int (3 : Int32)), .val (.int x0), .val (.int x1), .val (.int x2), .val (.int x2), .val (.int pp), .val (.ref b193), .val (.ref b203), .val (.int (pp - (3 : Int32))), .val (.int ii), .val (.int r1)] [])) _
        refine XS.iload X215.here hx rfl (hb hby at_223) rfl ?_
        show Steps p.tables e below (T215.setTop (mkF m 225 #[.val (.int p1), .val (.int p2), .val (.int p3), .val (.int p4), .val (.int p5), .val (.int p6), .val (.int (3 : Int32)), .val (.int x0), .val (.int x1), .val (.int x2), .val (.int x2), .val (.int pp), .val (.ref b193), .val (.ref b203), .val (.int (pp - (3 : Int32))), .val (.int ii), .val (.int r1)] [(.int (3 : Int32))])) _
        refine XS.iconst X215.here hx rfl (hb hby at_225) ?_
        show Steps p.tables e below (T215.setTop (mkF m 226 #[.val (.int p1), .val (.int p2), .val (.int p3), .val (.int p4), .val (.int p5), .val (.int p6), .val (.int (3 : Int32)), .val (.int x0), .val (.int x1), .val (.int x2), .val (.int x2), .val (.int pp), .val (.ref b193), .val (.ref b203), .val (.int (pp - (3 : Int32))), .val (.int ii), .val (.int r1)] [(.int (2 : Int32)), (.int (3 : Int32))])) _
        refine XS.icmpNo X215.here hx rfl (hb hby at_226) rfl (flt ((by decide) : ¬ ((3 : Int32) < (2 : Int32)))).1 ?_
        show Steps p.tables e below (T215.setTop (mkF m 229 #[.val (.int p1), .val (.int p2), .val (.int p3), .val (.int p4), .val (.int p5), .val (.int p6), .val (.int (3 : Int32)), .val (.int x0), .val (.int x1), .val (.int x2), .val (.int x2), .val (.int pp), .val (.ref b193), .val (.ref b203), .val (.int (pp - (3 : Int32))), .val (.int ii), .val (.int r1)] [])) _
        refine XS.iload X215.here hx rfl (hb hby at_229) rfl ?_
        show Steps p.tables e below (T215.setTop (mkF m 231 #[.val (.int p1), .val (.int p2), .val (.int p3), .val (.int p4), .val (.int p5), .val (.int p6), .val (.int (3 : Int32)), .val (.int x0), .val (.int x1), .val (.int x2), .val (.int x2), .val (.int pp), .val (.ref b193), .val (.ref b203), .val (.int (pp - (3 : Int32))), .val (.int ii), .val (.int r1)] [(.int x1)])) _
        refine XS.iload X215.here hx rfl (hb hby at_231) rfl ?_
        exact kt)
      obtain ⟨r2, hr2⟩ : ∃ z : Int32, z = (if r1 < x1 then r1 else (r1 + (1 : Int32))) := ⟨_, rfl⟩
      have J223 : ∀ t, Steps p.tables e below (T215.setTop (mkF m 239 #[.val (.int p1), .val (.int p2), .val (.int p3), .val (.int p4), .val (.int p5), .val (.int p6), .val (.int (3 : Int32)), .val (.int x0), .val (.int x1), .val (.int x2), .val (.int x2), .val (.int pp), .val (.ref b193), .val (.ref b203), .val (.int (pp - (3 : Int32))), .val (.int ii), .val (.int r2)] [])) t → Steps p.tables e below (T215.setTop (mkF m 233 #[.val (.int p1), .val (.int p2), .val (.int p3), .val (.int p4), .val (.int p5), .val (.int p6), .val (.int (3 : Int32)), .val (.int x0), .val (.int x1), .val (.int x2), .val (.int x2), .val (.int pp), .val (.ref b193), .val (.ref b203), .val (.int (pp - (3 : Int32))), .val (.int ii), .val (.int r1)] [(.int r1), (.int x1)])) t := by
        intro t kt
        by_cases hr223_233_0 : r1 < x1
        · have evr2 : r2 = r1 := by rw [hr2, if_pos hr223_233_0]
          rw [evr2] at kt
          show Steps p.tables e below (T215.setTop (mkF m 233 #[.val (.int p1), .val (.int p2), .val (.int p3), .val (.int p4), .val (.int p5), .val (.int p6), .val (.int (3 : Int32)), .val (.int x0), .val (.int x1), .val (.int x2), .val (.int x2), .val (.int pp), .val (.ref b193), .val (.ref b203), .val (.int (pp - (3 : Int32))), .val (.int ii), .val (.int r1)] [(.int r1), (.int x1)])) _
          refine XS.icmpYes X215.here hx rfl (pc0 := 233) (pc' := 239) rfl (hb hby at_233) rfl (tlt hr223_233_0).2.2.1 (by decide) (by decide) ?_
          exact kt
        · have evr2 : r2 = (r1 + (1 : Int32)) := by rw [hr2, if_neg hr223_233_0]
          rw [evr2] at kt
          show Steps p.tables e below (T215.setTop (mkF m 233 #[.val (.int p1), .val (.int p2), .val (.int p3), .val (.int p4), .val (.int p5), .val (.int p6), .val (.int (3 : Int32)), .val (.int x0), .val (.int x1), .val (.int x2), .val (.int x2), .val (.int pp), .val (.ref b193), .val (.ref b203), .val (.int (pp - (3 : Int32))), .val (.int ii), .val (.int r1)] [(.int r1), (.int x1)])) _
          refine XS.icmpNo X215.here hx rfl (hb hby at_233) rfl (flt hr223_233_0).2.2.1 ?_
          show Steps p.tables e below (T215.setTop (mkF m 236 #[.val (.int p1), .val (.int p2), .val (.int p3), .val (.int p4), .val (.int p5), .val (.int p6), .val (.int (3 : Int32)), .val (.int x0), .val (.int x1), .val (.int x2), .val (.int x2), .val (.int pp), .val (.ref b193), .val (.ref b203), .val (.int (pp - (3 : Int32))), .val (.int ii), .val (.int r1)] [])) _
          refine XS.iinc X215.here hx rfl (hb hby at_236) rfl (l' := #[.val (.int p1), .val (.int p2), .val (.int p3), .val (.int p4), .val (.int p5), .val (.int p6), .val (.int (3 : Int32)), .val (.int x0), .val (.int x1), .val (.int x2), .val (.int x2), .val (.int pp), .val (.ref b193), .val (.ref b203), .val (.int (pp - (3 : Int32))), .val (.int ii), .val (.int (r1 + (1 : Int32)))]) rfl ?_
          exact kt
      have P224 : ∀ t, Steps p.tables e below (T215.setTop (mkF m 239 #[.val (.int p1), .val (.int p2), .val (.int p3), .val (.int p4), .val (.int p5), .val (.int p6), .val (.int (3 : Int32)), .val (.int x0), .val (.int x1), .val (.int x2), .val (.int x2), .val (.int pp), .val (.ref b193), .val (.ref b203), .val (.int (pp - (3 : Int32))), .val (.int ii), .val (.int r2)] [])) t → Steps p.tables e below (s₁.setTop (entryFrame m #[(.int p1), (.int p2), (.int p3), (.int p4), (.int p5), (.int p6)] maxLocals)) t := fun t kt => P222 t (J223 t kt)
      have P225 : ∀ t, Steps p.tables e below (T215.setTop (mkF m 249 #[.val (.int p1), .val (.int p2), .val (.int p3), .val (.int p4), .val (.int p5), .val (.int p6), .val (.int (3 : Int32)), .val (.int x0), .val (.int x1), .val (.int x2), .val (.int x2), .val (.int pp), .val (.ref b193), .val (.ref b203), .val (.int (pp - (3 : Int32))), .val (.int ii), .val (.int r2)] [(.int r2), (.int x2)])) t → Steps p.tables e below (s₁.setTop (entryFrame m #[(.int p1), (.int p2), (.int p3), (.int p4), (.int p5), (.int p6)] maxLocals)) t := fun t kt => P224 t (by
        show Steps p.tables e below (T215.setTop (mkF m 239 #[.val (.int p1), .val (.int p2), .val (.int p3), .val (.int p4), .val (.int p5), .val (.int p6), .val (.int (3 : Int32)), .val (.int x0), .val (.int x1), .val (.int x2), .val (.int x2), .val (.int pp), .val (.ref b193), .val (.ref b203), .val (.int (pp - (3 : Int32))), .val (.int ii), .val (.int r2)] [])) _
        refine XS.iload X215.here hx rfl (hb hby at_239) rfl ?_
        show Steps p.tables e below (T215.setTop (mkF m 241 #[.val (.int p1), .val (.int p2), .val (.int p3), .val (.int p4), .val (.int p5), .val (.int p6), .val (.int (3 : Int32)), .val (.int x0), .val (.int x1), .val (.int x2), .val (.int x2), .val (.int pp), .val (.ref b193), .val (.ref b203), .val (.int (pp - (3 : Int32))), .val (.int ii), .val (.int r2)] [(.int (3 : Int32))])) _
        refine XS.iconst X215.here hx rfl (hb hby at_241) ?_
        show Steps p.tables e below (T215.setTop (mkF m 242 #[.val (.int p1), .val (.int p2), .val (.int p3), .val (.int p4), .val (.int p5), .val (.int p6), .val (.int (3 : Int32)), .val (.int x0), .val (.int x1), .val (.int x2), .val (.int x2), .val (.int pp), .val (.ref b193), .val (.ref b203), .val (.int (pp - (3 : Int32))), .val (.int ii), .val (.int r2)] [(.int (3 : Int32)), (.int (3 : Int32))])) _
        refine XS.icmpNo X215.here hx rfl (hb hby at_242) rfl (flt ((by decide) : ¬ ((3 : Int32) < (3 : Int32)))).1 ?_
        show Steps p.tables e below (T215.setTop (mkF m 245 #[.val (.int p1), .val (.int p2), .val (.int p3), .val (.int p4), .val (.int p5), .val (.int p6), .val (.int (3 : Int32)), .val (.int x0), .val (.int x1), .val (.int x2), .val (.int x2), .val (.int pp), .val (.ref b193), .val (.ref b203), .val (.int (pp - (3 : Int32))), .val (.int ii), .val (.int r2)] [])) _
        refine XS.iload X215.here hx rfl (hb hby at_245) rfl ?_
        show Steps p.tables e below (T215.setTop (mkF m 247 #[.val (.int p1), .val (.int p2), .val (.int p3), .val (.int p4), .val (.int p5), .val (.int p6), .val (.int (3 : Int32)), .val (.int x0), .val (.int x1), .val (.int x2), .val (.int x2), .val (.int pp), .val (.ref b193), .val (.ref b203), .val (.int (pp - (3 : Int32))), .val (.int ii), .val (.int r2)] [(.int x2)])) _
        refine XS.iload X215.here hx rfl (hb hby at_247) rfl ?_
        exact kt)
      obtain ⟨r3, hr3⟩ : ∃ z : Int32, z = (if r2 < x2 then r2 else (r2 + (1 : Int32))) := ⟨_, rfl⟩
      have J226 : ∀ t, Steps p.tables e below (T215.setTop (mkF m 255 #[.val (.int p1), .val (.int p2), .val (.int p3), .val (.int p4), .val (.int p5), .val (.int p6), .val (.int (3 : Int32)), .val (.int x0), .val (.int x1), .val (.int x2), .val (.int x2), .val (.int pp), .val (.ref b193), .val (.ref b203), .val (.int (pp - (3 : Int32))), .val (.int ii), .val (.int r3)] [])) t → Steps p.tables e below (T215.setTop (mkF m 249 #[.val (.int p1), .val (.int p2), .val (.int p3), .val (.int p4), .val (.int p5), .val (.int p6), .val (.int (3 : Int32)), .val (.int x0), .val (.int x1), .val (.int x2), .val (.int x2), .val (.int pp), .val (.ref b193), .val (.ref b203), .val (.int (pp - (3 : Int32))), .val (.int ii), .val (.int r2)] [(.int r2), (.int x2)])) t := by
        intro t kt
        by_cases hr226_249_0 : r2 < x2
        · have evr3 : r3 = r2 := by rw [hr3, if_pos hr226_249_0]
          rw [evr3] at kt
          show Steps p.tables e below (T215.setTop (mkF m 249 #[.val (.int p1), .val (.int p2), .val (.int p3), .val (.int p4), .val (.int p5), .val (.int p6), .val (.int (3 : Int32)), .val (.int x0), .val (.int x1), .val (.int x2), .val (.int x2), .val (.int pp), .val (.ref b193), .val (.ref b203), .val (.int (pp - (3 : Int32))), .val (.int ii), .val (.int r2)] [(.int r2), (.int x2)])) _
          refine XS.icmpYes X215.here hx rfl (pc0 := 249) (pc' := 255) rfl (hb hby at_249) rfl (tlt hr226_249_0).2.2.1 (by decide) (by decide) ?_
          exact kt
        · have evr3 : r3 = (r2 + (1 : Int32)) := by rw [hr3, if_neg hr226_249_0]
          rw [evr3] at kt
          show Steps p.tables e below (T215.setTop (mkF m 249 #[.val (.int p1), .val (.int p2), .val (.int p3), .val (.int p4), .val (.int p5), .val (.int p6), .val (.int (3 : Int32)), .val (.int x0), .val (.int x1), .val (.int x2), .val (.int x2), .val (.int pp), .val (.ref b193), .val (.ref b203), .val (.int (pp - (3 : Int32))), .val (.int ii), .val (.int r2)] [(.int r2), (.int x2)])) _
          refine XS.icmpNo X215.here hx rfl (hb hby at_249) rfl (flt hr226_249_0).2.2.1 ?_
          show Steps p.tables e below (T215.setTop (mkF m 252 #[.val (.int p1), .val (.int p2), .val (.int p3), .val (.int p4), .val (.int p5), .val (.int p6), .val (.int (3 : Int32)), .val (.int x0), .val (.int x1), .val (.int x2), .val (.int x2), .val (.int pp), .val (.ref b193), .val (.ref b203), .val (.int (pp - (3 : Int32))), .val (.int ii), .val (.int r2)] [])) _
          refine XS.iinc X215.here hx rfl (hb hby at_252) rfl (l' := #[.val (.int p1), .val (.int p2), .val (.int p3), .val (.int p4), .val (.int p5), .val (.int p6), .val (.int (3 : Int32)), .val (.int x0), .val (.int x1), .val (.int x2), .val (.int x2), .val (.int pp), .val (.ref b193), .val (.ref b203), .val (.int (pp - (3 : Int32))), .val (.int ii), .val (.int (r2 + (1 : Int32)))]) rfl ?_
          exact kt
      have P227 : ∀ t, Steps p.tables e below (T215.setTop (mkF m 255 #[.val (.int p1), .val (.int p2), .val (.int p3), .val (.int p4), .val (.int p5), .val (.int p6), .val (.int (3 : Int32)), .val (.int x0), .val (.int x1), .val (.int x2), .val (.int x2), .val (.int pp), .val (.ref b193), .val (.ref b203), .val (.int (pp - (3 : Int32))), .val (.int ii), .val (.int r3)] [])) t → Steps p.tables e below (s₁.setTop (entryFrame m #[(.int p1), (.int p2), (.int p3), (.int p4), (.int p5), (.int p6)] maxLocals)) t := fun t kt => P225 t (J226 t kt)
      obtain ⟨cq228, kq228, q228a, q228b, q228c⟩ := isOf hZ rfl Ex215
      obtain ⟨_, _, ⟨T228, L228, k228, n228⟩, -, X228, ⟨Lc228, hQ228, l228, y228, z228⟩, st228⟩ := X215.virtualBack hx (y := (⟨"com/example/allot/allot/partition/Topic", "availableAt", "(I)I"⟩ : MethodName)) (z := (⟨"com/example/allot/allot/partition/Topic", "availableAt", "(I)I"⟩ : MethodName)) hown (mvT hZ (hw _ (List.mem_of_getElem? (i := 63) rfl))) (mvT hZ (hw _ (List.mem_of_getElem? (i := 64) rfl))) (notFace_of_selects (args := #[]) (mvT hZ (hw _ (List.mem_of_getElem? (i := 66) rfl)))) (mvT hZ (hw _ (List.mem_of_getElem? (i := 66) rfl))) (mvT hZ (hw _ (List.mem_of_getElem? (i := 65) rfl))) (by decide) (backOf (W := 0)  (rmAA3 l Z a0 hw [] b203 ii pp bb kb x0 x1 x2 T215.heap Ex215 Fpx215 Fux215 Vbx215 hi1 hi2) hZ (hw _ (List.mem_of_getElem? (i := 67) rfl)) (hw _ (List.mem_of_getElem? (i := 7) rfl)) (by decide) (by decide)) q228a q228c (g := (mkF m 259 #[.val (.int p1), .val (.int p2), .val (.int p3), .val (.int p4), .val (.int p5), .val (.int p6), .val (.int (3 : Int32)), .val (.int x0), .val (.int x1), .val (.int x2), .val (.int x2), .val (.int pp), .val (.ref b193), .val (.ref b203), .val (.int (pp - (3 : Int32))), .val (.int ii), .val (.int r3)] [(.int ii), (.ref b203)])) rfl (by rw [hml]; rfl) (Steps.refl _) (argsL := [(.int ii)]) (rest := []) (lenOf pd__I_I rfl) rfl (by show 2 * 0 + _ ≤ _; exact Nat.le_of_eq rfl) (hb hby at_259) (fun _ _ => ⟨rfl, rfl, (by decide : 15 + 0 ≤ _), (by decide : 349 + 0 ≤ _)⟩)
      dsimp only [Pt.U, Pt.locs, Pt.cells, Pt.slots] at X228 l228 y228 z228 st228 hQ228
      subst l228 y228 z228
      obtain ⟨rfl, rfl, e228⟩ := hQ228
      have N228 := Fr.app N215 (Fr.nil n0)
      obtain ⟨cq229, kq229, q229a, q229b, q229c⟩ := isOf hZ e228 Ex215
      obtain ⟨_, _, ⟨T229, L229, k229, n229⟩, -, X229, ⟨Lc229, hQ229, l229, y229, z229⟩, st229⟩ := X228.virtualBack hx (y := (⟨"com/example/allot/allot/partition/Topic", "availableCount", "()I"⟩ : MethodName)) (z := (⟨"com/example/allot/allot/partition/Topic", "availableCount", "()I"⟩ : MethodName)) hown (mvT hZ (hw _ (List.mem_of_getElem? (i := 80) rfl))) (mvT hZ (hw _ (List.mem_of_getElem? (i := 69) rfl))) (notFace_of_selects (args := #[]) (mvT hZ (hw _ (List.mem_of_getElem? (i := 71) rfl)))) (mvT hZ (hw _ (List.mem_of_getElem? (i := 71) rfl))) (mvT hZ (hw _ (List.mem_of_getElem? (i := 70) rfl))) (by decide) (backOf (W := 0)  (rmAC3 l Z a0 hw [] b203 pp bb kb x0 x1 x2 T215.heap Fpx215 Fux215 Vbx215) hZ (hw _ (List.mem_of_getElem? (i := 72) rfl)) (hw _ (List.mem_of_getElem? (i := 7) rfl)) (by decide) (by decide)) q229a q229c (g := (mkF m 269 #[.val (.int p1), .val (.int p2), .val (.int p3), .val (.int p4), .val (.int p5), .val (.int p6), .val (.int (3 : Int32)), .val (.int x0), .val (.int x1), .val (.int x2), .val (.int x2), .val (.int pp), .val (.ref b193), .val (.ref b203), .val (.int (pp - (3 : Int32))), .val (.int ii), .val (.int r3)] [(.ref b203)])) rfl (by rw [hml]; rfl) (Steps.refl _) (argsL := []) (rest := []) (lenOf pd___I rfl) rfl (by show 2 * 0 + _ ≤ _; exact Nat.le_of_eq rfl) (hb hby at_269) (fun _ _ => ⟨rfl, e228, (by decide : 15 + 0 ≤ _), (by decide : 349 + 0 ≤ _)⟩)
      dsimp only [Pt.U, Pt.locs, Pt.cells, Pt.slots] at X229 l229 y229 z229 st229 hQ229
      subst l229 y229 z229
      obtain ⟨rfl, rfl, e229⟩ := hQ229
      have N229 := Fr.app N228 (Fr.nil n0)
      have P230 : ∀ t, Steps p.tables e below (T229.setTop (mkF m 282 #[.val (.int p1), .val (.int p2), .val (.int p3), .val (.int p4), .val (.int p5), .val (.int p6), .val (.int (3 : Int32)), .val (.int x0), .val (.int x1), .val (.int x2), .val (.int x2), .val (.int pp), .val (.ref b193), .val (.ref b203), .val (.int (pp - (3 : Int32))), .val (.int ii), .val (.int r3)] [(.int (1 : Int32))])) t → Steps p.tables e below (s₁.setTop (entryFrame m #[(.int p1), (.int p2), (.int p3), (.int p4), (.int p5), (.int p6)] maxLocals)) t := fun t kt => P227 t (by
        show Steps p.tables e below (T215.setTop (mkF m 255 #[.val (.int p1), .val (.int p2), .val (.int p3), .val (.int p4), .val (.int p5), .val (.int p6), .val (.int (3 : Int32)), .val (.int x0), .val (.int x1), .val (.int x2), .val (.int x2), .val (.int pp), .val (.ref b193), .val (.ref b203), .val (.int (pp - (3 : Int32))), .val (.int ii), .val (.int r3)] [])) _
        refine XS.aload X215.here hx rfl (hb hby at_255) rfl rfl ?_
        show Steps p.tables e below (T215.setTop (mkF m 257 #[.val (.int p1), .val (.int p2), .val (.int p3), .val (.int p4), .val (.int p5), .val (.int p6), .val (.int (3 : Int32)), .val (.int x0), .val (.int x1), .val (.int x2), .val (.int x2), .val (.int pp), .val (.ref b193), .val (.ref b203), .val (.int (pp - (3 : Int32))), .val (.int ii), .val (.int r3)] [(.ref b203)])) _
        refine XS.iload X215.here hx rfl (hb hby at_257) rfl ?_
        show Steps p.tables e below (T215.setTop (mkF m 259 #[.val (.int p1), .val (.int p2), .val (.int p3), .val (.int p4), .val (.int p5), .val (.int p6), .val (.int (3 : Int32)), .val (.int x0), .val (.int x1), .val (.int x2), .val (.int x2), .val (.int pp), .val (.ref b193), .val (.ref b203), .val (.int (pp - (3 : Int32))), .val (.int ii), .val (.int r3)] [(.int ii), (.ref b203)])) _
        refine st228.trans ?_
        show Steps p.tables e below (T228.setTop (mkF m 262 #[.val (.int p1), .val (.int p2), .val (.int p3), .val (.int p4), .val (.int p5), .val (.int p6), .val (.int (3 : Int32)), .val (.int x0), .val (.int x1), .val (.int x2), .val (.int x2), .val (.int pp), .val (.ref b193), .val (.ref b203), .val (.int (pp - (3 : Int32))), .val (.int ii), .val (.int r3)] [(.int (fAA3 ii x0 x1 x2))])) _
        refine XS.iload X228.here hx rfl (hb hby at_262) rfl ?_
        show Steps p.tables e below (T228.setTop (mkF m 264 #[.val (.int p1), .val (.int p2), .val (.int p3), .val (.int p4), .val (.int p5), .val (.int p6), .val (.int (3 : Int32)), .val (.int x0), .val (.int x1), .val (.int x2), .val (.int x2), .val (.int pp), .val (.ref b193), .val (.ref b203), .val (.int (pp - (3 : Int32))), .val (.int ii), .val (.int r3)] [(.int r3), (.int (fAA3 ii x0 x1 x2))])) _
        refine XS.icmpNo X228.here hx rfl (hb hby at_264) rfl (teq (own_aa3 ii x0 x1 x2 r1 r2 r3 (by omega) (by omega) (by omega) (by omega) (by omega) (by omega)  hr1 hr2 hr3 : (fAA3 ii x0 x1 x2) = r3)).2 ?_
        show Steps p.tables e below (T228.setTop (mkF m 267 #[.val (.int p1), .val (.int p2), .val (.int p3), .val (.int p4), .val (.int p5), .val (.int p6), .val (.int (3 : Int32)), .val (.int x0), .val (.int x1), .val (.int x2), .val (.int x2), .val (.int pp), .val (.ref b193), .val (.ref b203), .val (.int (pp - (3 : Int32))), .val (.int ii), .val (.int r3)] [])) _
        refine XS.aload X228.here hx rfl (hb hby at_267) rfl rfl ?_
        show Steps p.tables e below (T228.setTop (mkF m 269 #[.val (.int p1), .val (.int p2), .val (.int p3), .val (.int p4), .val (.int p5), .val (.int p6), .val (.int (3 : Int32)), .val (.int x0), .val (.int x1), .val (.int x2), .val (.int x2), .val (.int pp), .val (.ref b193), .val (.ref b203), .val (.int (pp - (3 : Int32))), .val (.int ii), .val (.int r3)] [(.ref b203)])) _
        refine st229.trans ?_
        show Steps p.tables e below (T229.setTop (mkF m 272 #[.val (.int p1), .val (.int p2), .val (.int p3), .val (.int p4), .val (.int p5), .val (.int p6), .val (.int (3 : Int32)), .val (.int x0), .val (.int x1), .val (.int x2), .val (.int x2), .val (.int pp), .val (.ref b193), .val (.ref b203), .val (.int (pp - (3 : Int32))), .val (.int ii), .val (.int r3)] [(.int (pp - (3 : Int32)))])) _
        refine XS.iload X229.here hx rfl (hb hby at_272) rfl ?_
        show Steps p.tables e below (T229.setTop (mkF m 274 #[.val (.int p1), .val (.int p2), .val (.int p3), .val (.int p4), .val (.int p5), .val (.int p6), .val (.int (3 : Int32)), .val (.int x0), .val (.int x1), .val (.int x2), .val (.int x2), .val (.int pp), .val (.ref b193), .val (.ref b203), .val (.int (pp - (3 : Int32))), .val (.int ii), .val (.int r3)] [(.int (pp - (3 : Int32))), (.int (pp - (3 : Int32)))])) _
        refine XS.icmpNo X229.here hx rfl (hb hby at_274) rfl (teq (rfl : (pp - (3 : Int32)) = (pp - (3 : Int32)))).2 ?_
        show Steps p.tables e below (T229.setTop (mkF m 277 #[.val (.int p1), .val (.int p2), .val (.int p3), .val (.int p4), .val (.int p5), .val (.int p6), .val (.int (3 : Int32)), .val (.int x0), .val (.int x1), .val (.int x2), .val (.int x2), .val (.int pp), .val (.ref b193), .val (.ref b203), .val (.int (pp - (3 : Int32))), .val (.int ii), .val (.int r3)] [])) _
        refine XS.iconst X229.here hx rfl (hb hby at_277) ?_
        show Steps p.tables e below (T229.setTop (mkF m 278 #[.val (.int p1), .val (.int p2), .val (.int p3), .val (.int p4), .val (.int p5), .val (.int p6), .val (.int (3 : Int32)), .val (.int x0), .val (.int x1), .val (.int x2), .val (.int x2), .val (.int pp), .val (.ref b193), .val (.ref b203), .val (.int (pp - (3 : Int32))), .val (.int ii), .val (.int r3)] [(.int (1 : Int32))])) _
        refine XS.goto X229.here hx rfl (pc0 := 278) (pc' := 282) rfl (hb hby at_278) (by decide) (by decide) ?_
        exact kt)
      obtain ⟨fs, hr, hrun, hended, hE1, hE2, hE3, hE4⟩ := X229.leaveW hS215 (by rw [e229]; exact (Nat.le_refl _)) (v := some (.int (1 : Int32))) (fun h => by rw [Bd.returns] at h; cases h) (hlocks := hlk)
      refine ⟨_, _, P230 _ ?_, hrun, hended, _, _, rfl, ?_, hE1, hE2, hE3, hE4.mono (by decide) (by decide)⟩
      · show Steps p.tables e below (T229.setTop (mkF m 282 #[.val (.int p1), .val (.int p2), .val (.int p3), .val (.int p4), .val (.int p5), .val (.int p6), .val (.int (3 : Int32)), .val (.int x0), .val (.int x1), .val (.int x2), .val (.int x2), .val (.int pp), .val (.ref b193), .val (.ref b203), .val (.int (pp - (3 : Int32))), .val (.int ii), .val (.int r3)] [(.int (1 : Int32))])) _
        exact retN X229 hx (t := .boolean) Bd.returns (by simp) (hb hby at_282) hr
      · show Q0 n0 _ T229.heap _
        exact ⟨rfl, N229⟩
    · have P231 : ∀ t, Steps p.tables e below (T215.setTop (mkF m 192 #[.val (.int p1), .val (.int p2), .val (.int p3), .val (.int p4), .val (.int p5), .val (.int p6), .val (.int (3 : Int32)), .val (.int x0), .val (.int x1), .val (.int x2), .val (.int x2), .val (.int pp), .val (.ref b193), .val (.ref b203), .val (.int (pp - (3 : Int32))), .unset, .unset] [(.int (1 : Int32))])) t → Steps p.tables e below (s₁.setTop (entryFrame m #[(.int p1), (.int p2), (.int p3), (.int p4), (.int p5), (.int p6)] maxLocals)) t := fun t kt => P216 t (by
        show Steps p.tables e below (T215.setTop (mkF m 188 #[.val (.int p1), .val (.int p2), .val (.int p3), .val (.int p4), .val (.int p5), .val (.int p6), .val (.int (3 : Int32)), .val (.int x0), .val (.int x1), .val (.int x2), .val (.int x2), .val (.int pp), .val (.ref b193), .val (.ref b203), .val (.int (pp - (3 : Int32))), .unset, .unset] [(.int (pp - (3 : Int32)))])) _
        refine XS.ifNo X215.here hx rfl (hb hby at_188) rfl ((if0 _ _).trans (flt hc188_217).2.2.1) ?_
        show Steps p.tables e below (T215.setTop (mkF m 191 #[.val (.int p1), .val (.int p2), .val (.int p3), .val (.int p4), .val (.int p5), .val (.int p6), .val (.int (3 : Int32)), .val (.int x0), .val (.int x1), .val (.int x2), .val (.int x2), .val (.int pp), .val (.ref b193), .val (.ref b203), .val (.int (pp - (3 : Int32))), .unset, .unset] [])) _
        refine XS.iconst X215.here hx rfl (hb hby at_191) ?_
        exact kt)
      obtain ⟨fs, hr, hrun, hended, hE1, hE2, hE3, hE4⟩ := X215.leaveW hS215 (Nat.le_refl _) (v := some (.int (1 : Int32))) (fun h => by rw [Bd.returns] at h; cases h) (hlocks := hlk)
      refine ⟨_, _, P231 _ ?_, hrun, hended, _, _, rfl, ?_, hE1, hE2, hE3, hE4.mono (by decide) (by decide)⟩
      · show Steps p.tables e below (T215.setTop (mkF m 192 #[.val (.int p1), .val (.int p2), .val (.int p3), .val (.int p4), .val (.int p5), .val (.int p6), .val (.int (3 : Int32)), .val (.int x0), .val (.int x1), .val (.int x2), .val (.int x2), .val (.int pp), .val (.ref b193), .val (.ref b203), .val (.int (pp - (3 : Int32))), .unset, .unset] [(.int (1 : Int32))])) _
        exact retN X215 hx (t := .boolean) Bd.returns (by simp) (hb hby at_192) hr
      · show Q0 n0 _ T215.heap _
        exact ⟨rfl, N215⟩
set_option maxRecDepth 65536 in
set_option maxHeartbeats 40000000 in
theorem comes_1 {Post : Tables → Env → Array Value → State → Outcome → State → Prop} (hpost : ∀ tb e args s v u, (limb_1_1.after args s (.returned v) u = true ∧ limb_1_2.after args s (.returned v) u = true ∧ True) → FramedW s (.returned v) u (Jvm.fieldLocs frame_1_writes args s ++ Jvm.arrayLocs frame_1_arrays args s ++ Jvm.staticLocs frame_1_statics s) 24 4224 → Post tb e args s (.returned v) u) :
    ArmFor flags0 classFile x code maxLocals ret World_1 tables_1 room_1 Calls_1 rest_1 Pre_1 Post := by
  intro l hfl _ _ p e ha hc hk s m args below hf hA hF happ hP
  obtain ⟨hcalls, hrest, hpre⟩ := hP
  obtain ⟨-, -, -, hnamed, -, -, -, hat⟩ := (Spec.applies_iff hf).mp happ
  obtain ⟨hg, hn⟩ := and_e (Cond.before_iff.mp (show (Jvm.Cond.and given_1 narrow_1).before args s = true from hpre))
  obtain ⟨g1, g2⟩ := and_e hg
  obtain ⟨g3, g4⟩ := and_e g2
  obtain ⟨g5, g6⟩ := and_e g4
  obtain ⟨g7, g8⟩ := and_e g6
  obtain ⟨g9, g10⟩ := and_e g8
  obtain ⟨g11, g12⟩ := and_e g10
  obtain ⟨w0, w1, w2, w3, w4, w5, rfl⟩ : ∃ w0 w1 w2 w3 w4 w5 : Value, args = #[w0, w1, w2, w3, w4, w5] := by
    have hs : args.size = 6 := by simpa [Cond.value, given_1] using g1
    obtain ⟨L⟩ := args
    match L, hs with
    | [w0, w1, w2, w3, w4, w5], _ => exact ⟨w0, w1, w2, w3, w4, w5, rfl⟩
  have hw := fun d (hd : d ∈ tables_1) => atoms_spec (ws := Jvm.Cond.code x code maxLocals ret :: tables_1) hat d (List.mem_cons_of_mem _ hd)
  obtain ⟨i0, ei0⟩ := is_v g3
  obtain rfl : w0 = (.int i0) := Option.some.inj ei0
  obtain ⟨i1, ei1⟩ := is_v g5
  obtain rfl : w1 = (.int i1) := Option.some.inj ei1
  obtain ⟨i2, ei2⟩ := is_v g7
  obtain rfl : w2 = (.int i2) := Option.some.inj ei2
  obtain ⟨i3, ei3⟩ := is_v g9
  obtain rfl : w3 = (.int i3) := Option.some.inj ei3
  obtain ⟨i4, ei4⟩ := is_v g11
  obtain rfl : w4 = (.int i4) := Option.some.inj ei4
  obtain ⟨i5, ei5⟩ := is_v g12
  obtain rfl : w5 = (.int i5) := Option.some.inj ei5
  obtain ⟨n, o, h1, h2, h3, _, L, rfl, ⟨rfl, N⟩, hq⟩ := rm0 l s _ hw tables_1 i0 i1 i2 i3 i4 i5 s.heap s.heap.size (Nat.le_refl _) p e ha hc hk s m _ below hf ((Spec.applies_iff_loose hf).mp happ).1 ⟨rfl, State.Warmed39.refl s, rfl⟩ trivial
  refine ⟨n, _, h1, h2, h3, hpost _ _ _ _ _ _ ⟨Cond.after_iff.mpr rfl, Cond.after_iff.mpr (eq_i res_at (Term.int_eval (1)) rfl), trivial⟩ ⟨hq.1, hq.2.1, hq.2.2.1, (hq.2.2.2.sift fun y hy => Or.inr (N y hy)).mono (by decide) (by decide)⟩⟩
theorem main_1_1 : Claimed_1_1 := comes_1 fun _ _ _ _ _ _ h hF => ⟨h.1, hF⟩
theorem main_1_2 : Claimed_1_2 := comes_1 fun _ _ _ _ _ _ h hF => ⟨h.2.1, hF⟩
end Jvm.Pilot.@@N@@
namespace Jvm.Pilot.@@N@@
open Jvm Jvm.ClassFile Sem Op Lib Jvm.Free Jvm.Stand Jvm.Pilot.@@N@@.Jvm.D
/-! MADE BY PROGRAM (witnessworld.py) out of the Statement's table words and the real class files: 20 classes; the members and pool entries that the words name. The judged class is class 1, her method 1. -/
namespace start1
open Jvm.ClassFile
def u (s : String) : CpInfo := .utf8 (stringToUtf16 s)
/-- a pool by its gaps: so many unusable entries, then the entry; so many at the end -/
def gap : Nat → List CpInfo → List CpInfo
  | 0, r => r
  | n + 1, r => .unusable :: gap n r
def poolList (es : List (Nat × CpInfo)) (last : Nat) : List CpInfo := es.foldr (fun e r => gap e.1 (e.2 :: r)) (gap last [])
def pool (es : List (Nat × CpInfo)) (last : Nat) : Array CpInfo := ⟨poolList es last⟩
def fileOf (pool : Array CpInfo) (this : Nat) (attrs : Array Attribute := #[]) (ms : Array MethodInfo := #[]) (fl : Nat := 33) (sup : Nat := 0) (ifs : Array Nat := #[]) (fds : Array FieldInfo := #[]) : ClassFile where
  minorVersion := 0
  majorVersion := 65
  constantPool := pool
  accessFlags := fl
  thisClass := this
  superClass := sup
  interfaces := ifs
  fields := fds
  methods := ms
  attributes := attrs
def plain (name : String) (sup : Option ClassId) : Class where
  name := name
  kind := .ordinary
  loader := none
  accessFlags := 33
  super := sup
  interfaces := #[]
  cf := none
  fields := #[]
  methods := #[]
  instanceTypes := #[]
  staticTypes := #[]
  resolved := #[]
  callSites := []
  init := .initialized
  statics := none
  mirror := none

def pool0 : Array CpInfo := pool [(5, u "<init>"), (0, u "()V"), (1, .class_ 10), (1, u "java/lang/Object"), (85, u "clone"), (0, u "()Ljava/lang/Object;")] 26

def k0c0 : Code := { maxStack := 0, maxLocals := 1, code := object_method_1_code, exceptionTable := #[], attributes := #[] }
def k0m0 : Method := { name := "<init>", desc := "()V", sig := { parameters := [], returnType := none }, accessFlags := 1, code := some k0c0 }
def k0m1 : Method := { name := "clone", desc := "()Ljava/lang/Object;", sig := { parameters := [], returnType := some (.object "java/lang/Object") }, accessFlags := 260, code := none }
/-- java/lang/Object -/
def k0 : Class := { plain "java/lang/Object" none with
  accessFlags := 33
  interfaces := #[]
  cf := some (fileOf pool0 8 #[] #[{ accessFlags := 1, nameIndex := 5, descriptorIndex := 6, attributes := #[] }, { accessFlags := 260, nameIndex := 96, descriptorIndex := 97, attributes := #[] }] 33 0 #[] #[])
  fields := #[]
  methods := #[k0m0, k0m1]
  instanceTypes := #[]
  staticTypes := #[]
  resolved := Array.replicate 124 none
  statics := none }

def pool1 : Array CpInfo := pool [(2, .class_ 4), (1, u "java/lang/Object"), (0, u "<init>"), (0, u "()V"), (0, .methodref 8 9), (0, .class_ 10), (0, .nameAndType 11 12), (0, u "java/lang/Math"), (0, u "max"), (0, u "(II)I"), (0, .class_ 14), (0, u "com/example/allot/allot/partition/Topic"), (0, .string 16), (0, u "t"), (0, .methodref 13 18), (0, .nameAndType 5 19), (0, u "(Ljava/lang/String;I[I)V"), (0, .integer 2147483647), (0, .methodref 13 22), (0, .nameAndType 23 24), (0, u "availableAt"), (0, u "(I)I"), (0, .methodref 13 26), (0, .nameAndType 27 28), (0, u "availableCount"), (0, u "()I"), (0, .class_ 30), (0, u "com/example/allot/allot/partition/TopicAvailableAtPinLaw"), (2, u "law"), (0, u "(IIIIII)Z")] 5

def k1m0 : Method := { name := "<init>", desc := "()V", sig := { parameters := [], returnType := none }, accessFlags := 1, code := none }
def k1c1 : Code := { maxStack := 5, maxLocals := 17, code := code, exceptionTable := #[], attributes := #[] }
def k1m1 : Method := { name := "law", desc := "(IIIIII)Z", sig := { parameters := [.int, .int, .int, .int, .int, .int], returnType := some .boolean }, accessFlags := 9, code := some k1c1 }
/-- com/example/allot/allot/partition/TopicAvailableAtPinLaw -/
def k1 : Class := { plain "com/example/allot/allot/partition/TopicAvailableAtPinLaw" (some 0) with
  accessFlags := 49
  interfaces := #[]
  cf := some (fileOf pool1 29 #[] #[{ accessFlags := 1, nameIndex := 5, descriptorIndex := 6, attributes := #[] }, { accessFlags := 9, nameIndex := 33, descriptorIndex := 34, attributes := #[] }] 49 2 #[] #[])
  fields := #[]
  methods := #[k1m0, k1m1]
  instanceTypes := #[]
  staticTypes := #[]
  resolved := Array.replicate 40 none
  statics := none }

def pool2 : Array CpInfo := pool [(1, .class_ 2), (0, u "java/lang/Math"), (1, .class_ 6), (1, u "java/lang/Object"), (0, u "<init>"), (0, u "()V"), (89, .class_ 100), (1, u "java/lang/Math$RandomNumberGeneratorHolder"), (71, u "negativeZeroFloatBits"), (0, u "J"), (2, u "negativeZeroDoubleBits"), (21, u "max"), (46, u "$assertionsDisabled"), (0, u "Z"), (88, u "(II)I"), (2, u "twoToTheDoubleScaleDown"), (0, u "D"), (4, u "twoToTheDoubleScaleUp"), (9, u "E"), (3, u "PI"), (2, u "TAU"), (2, u "DEGREES_TO_RADIANS"), (0, u "RADIANS_TO_DEGREES")] 94

def k2m0 : Method := { name := "<init>", desc := "()V", sig := { parameters := [], returnType := none }, accessFlags := 2, code := none }
def k2c1 : Code := { maxStack := 2, maxLocals := 2, code := jdk_29_method_65_code, exceptionTable := #[], attributes := #[] }
def k2m1 : Method := { name := "max", desc := "(II)I", sig := { parameters := [.int, .int], returnType := some .int }, accessFlags := 9, code := some k2c1 }
/-- java/lang/Math -/
def k2 : Class := { plain "java/lang/Math" (some 0) with
  accessFlags := 49
  interfaces := #[]
  cf := some (fileOf pool2 1 #[.nestMembers #[98]] #[{ accessFlags := 2, nameIndex := 7, descriptorIndex := 8, attributes := #[] }, { accessFlags := 9, nameIndex := 198, descriptorIndex := 335, attributes := #[] }] 49 4 #[] #[{ accessFlags := 25, nameIndex := 354, descriptorIndex := 339, attributes := #[] }, { accessFlags := 25, nameIndex := 358, descriptorIndex := 339, attributes := #[] }, { accessFlags := 25, nameIndex := 361, descriptorIndex := 339, attributes := #[] }, { accessFlags := 26, nameIndex := 364, descriptorIndex := 339, attributes := #[] }, { accessFlags := 26, nameIndex := 365, descriptorIndex := 339, attributes := #[] }, { accessFlags := 26, nameIndex := 172, descriptorIndex := 173, attributes := #[] }, { accessFlags := 26, nameIndex := 176, descriptorIndex := 173, attributes := #[] }, { accessFlags := 8, nameIndex := 344, descriptorIndex := 339, attributes := #[] }, { accessFlags := 8, nameIndex := 338, descriptorIndex := 339, attributes := #[] }, { accessFlags := 4120, nameIndex := 245, descriptorIndex := 246, attributes := #[] }])
  fields := #[{ name := "E", type := .double, accessFlags := 25, slot := 0, constantValue := 0 }, { name := "PI", type := .double, accessFlags := 25, slot := 1, constantValue := 0 }, { name := "TAU", type := .double, accessFlags := 25, slot := 2, constantValue := 0 }, { name := "DEGREES_TO_RADIANS", type := .double, accessFlags := 26, slot := 3, constantValue := 0 }, { name := "RADIANS_TO_DEGREES", type := .double, accessFlags := 26, slot := 4, constantValue := 0 }, { name := "negativeZeroFloatBits", type := .long, accessFlags := 26, slot := 5, constantValue := 0 }, { name := "negativeZeroDoubleBits", type := .long, accessFlags := 26, slot := 6, constantValue := 0 }, { name := "twoToTheDoubleScaleUp", type := .double, accessFlags := 8, slot := 7, constantValue := 0 }, { name := "twoToTheDoubleScaleDown", type := .double, accessFlags := 8, slot := 8, constantValue := 0 }, { name := "$assertionsDisabled", type := .boolean, accessFlags := 4120, slot := 9, constantValue := 0 }]
  methods := #[k2m0, k2m1]
  instanceTypes := #[]
  staticTypes := #[.double, .double, .double, .double, .double, .long, .long, .double, .double, .boolean]
  resolved := Array.replicate 460 none
  statics := none }

def pool3 : Array CpInfo := pool [(1, .methodref 2 3), (0, .class_ 4), (0, .nameAndType 5 6), (0, u "java/lang/Object"), (0, u "<init>"), (0, u "()V"), (0, .class_ 8), (0, u "java/lang/Record")] 13

def k3c0 : Code := { maxStack := 1, maxLocals := 1, code := jdk_30_method_1_code, exceptionTable := #[], attributes := #[] }
def k3m0 : Method := { name := "<init>", desc := "()V", sig := { parameters := [], returnType := none }, accessFlags := 4, code := some k3c0 }
/-- java/lang/Record -/
def k3 : Class := { plain "java/lang/Record" (some 0) with
  accessFlags := 1057
  interfaces := #[]
  cf := some (fileOf pool3 7 #[] #[{ accessFlags := 4, nameIndex := 5, descriptorIndex := 6, attributes := #[] }] 1057 2 #[] #[])
  fields := #[]
  methods := #[k3m0]
  instanceTypes := #[]
  staticTypes := #[]
  resolved := Array.replicate 22 none
  statics := none }

def pool4 : Array CpInfo := pool [(1, .methodref 2 3), (0, .class_ 4), (0, .nameAndType 5 6), (0, u "java/lang/Record"), (0, u "<init>"), (0, u "()V"), (0, .string 8), (0, u "name"), (0, .methodref 10 11), (0, .class_ 12), (0, .nameAndType 13 14), (0, u "java/util/Objects"), (0, u "requireNonNull"), (0, u "(Ljava/lang/Object;Ljava/lang/String;)Ljava/lang/Object;"), (9, .string 25), (0, u "unavailable"), (0, .class_ 27), (0, u "[I"), (0, .methodref 26 29), (0, .nameAndType 30 31), (0, u "clone"), (0, u "()Ljava/lang/Object;"), (0, .methodref 33 34), (0, .class_ 35), (0, .nameAndType 36 37), (0, u "java/util/Arrays"), (0, u "sort"), (0, u "([I)V"), (0, .string 39), (0, u "unavailable partition"), (0, .methodref 41 42), (0, .class_ 43), (0, .nameAndType 44 45), (0, u "com/example/allot/allot/partition/Topic"), (0, u "requireOneOf"), (0, u "(Ljava/lang/String;ILjava/lang/String;I)V"), (1, .fieldref 41 48), (0, .nameAndType 8 49), (0, u "Ljava/lang/String;"), (0, .fieldref 41 51), (0, .nameAndType 52 53), (0, u "partitions"), (0, u "I"), (0, .fieldref 41 55), (0, .nameAndType 25 27), (38, .methodref 41 95), (0, .nameAndType 96 97), (0, u "availableCount"), (0, u "()I"), (0, .methodref 10 99), (0, .nameAndType 100 101), (0, u "checkIndex"), (0, u "(II)I"), (3, u "(Ljava/lang/String;I[I)V"), (7, u "(I)I"), (3, u "availableAt")] 24

def k4c0 : Code := { maxStack := 5, maxLocals := 5, code := prog_83_method_1_code, exceptionTable := #[], attributes := #[] }
def k4m0 : Method := { name := "<init>", desc := "(Ljava/lang/String;I[I)V", sig := { parameters := [(.object "java/lang/String"), .int, (.array .int)], returnType := none }, accessFlags := 129, code := some k4c0 }
def k4c1 : Code := { maxStack := 2, maxLocals := 1, code := prog_83_method_7_code, exceptionTable := #[], attributes := #[] }
def k4m1 : Method := { name := "availableCount", desc := "()I", sig := { parameters := [], returnType := some .int }, accessFlags := 1, code := some k4c1 }
def k4c2 : Code := { maxStack := 2, maxLocals := 5, code := prog_83_method_10_code, exceptionTable := #[], attributes := #[] }
def k4m2 : Method := { name := "availableAt", desc := "(I)I", sig := { parameters := [.int], returnType := some .int }, accessFlags := 1, code := some k4c2 }
def k4c3 : Code := { maxStack := 6, maxLocals := 4, code := prog_83_method_11_code, exceptionTable := #[], attributes := #[] }
def k4m3 : Method := { name := "requireOneOf", desc := "(Ljava/lang/String;ILjava/lang/String;I)V", sig := { parameters := [(.object "java/lang/String"), .int, (.object "java/lang/String"), .int], returnType := none }, accessFlags := 10, code := some k4c3 }
/-- com/example/allot/allot/partition/Topic -/
def k4 : Class := { plain "com/example/allot/allot/partition/Topic" (some 3) with
  accessFlags := 49
  interfaces := #[]
  cf := some (fileOf pool4 41 #[] #[{ accessFlags := 129, nameIndex := 5, descriptorIndex := 105, attributes := #[] }, { accessFlags := 1, nameIndex := 96, descriptorIndex := 97, attributes := #[] }, { accessFlags := 1, nameIndex := 117, descriptorIndex := 113, attributes := #[] }, { accessFlags := 10, nameIndex := 44, descriptorIndex := 45, attributes := #[] }] 49 2 #[] #[{ accessFlags := 18, nameIndex := 8, descriptorIndex := 49, attributes := #[] }, { accessFlags := 18, nameIndex := 52, descriptorIndex := 53, attributes := #[] }, { accessFlags := 18, nameIndex := 25, descriptorIndex := 27, attributes := #[] }])
  fields := #[{ name := "name", type := (.object "java/lang/String"), accessFlags := 18, slot := 0, constantValue := 0 }, { name := "partitions", type := .int, accessFlags := 18, slot := 1, constantValue := 0 }, { name := "unavailable", type := (.array .int), accessFlags := 18, slot := 2, constantValue := 0 }]
  methods := #[k4m0, k4m1, k4m2, k4m3]
  instanceTypes := #[(.object "java/lang/String"), .int, (.array .int)]
  staticTypes := #[]
  resolved := Array.replicate 142 none
  statics := none }

def pool5 : Array CpInfo := pool [(1, .class_ 2), (0, u "java/io/Serializable"), (0, .class_ 4), (0, u "java/lang/Object")] 2

/-- java/io/Serializable -/
def k5 : Class := { plain "java/io/Serializable" (some 0) with
  accessFlags := 1537
  interfaces := #[]
  cf := some (fileOf pool5 1 #[] #[] 1537 3 #[] #[])
  fields := #[]
  methods := #[]
  instanceTypes := #[]
  staticTypes := #[]
  resolved := Array.replicate 7 none
  statics := none }

def pool6 : Array CpInfo := pool [(1, .class_ 2), (0, u "java/lang/Comparable"), (0, .class_ 4), (0, u "java/lang/Object")] 7

/-- java/lang/Comparable -/
def k6 : Class := { plain "java/lang/Comparable" (some 0) with
  accessFlags := 1537
  interfaces := #[]
  cf := some (fileOf pool6 1 #[] #[] 1537 3 #[] #[])
  fields := #[]
  methods := #[]
  instanceTypes := #[]
  staticTypes := #[]
  resolved := Array.replicate 12 none
  statics := none }

def pool7 : Array CpInfo := pool [(2, .class_ 4), (1, u "java/lang/CharSequence"), (42, .class_ 48), (0, u "java/lang/CharSequence$1CodePointIterator"), (10, .class_ 60), (0, u "java/lang/CharSequence$1CharIterator"), (5, .class_ 67), (0, u "java/lang/Object")] 63

/-- java/lang/CharSequence -/
def k7 : Class := { plain "java/lang/CharSequence" (some 0) with
  accessFlags := 1537
  interfaces := #[]
  cf := some (fileOf pool7 2 #[.nestMembers #[47, 59]] #[] 1537 66 #[] #[])
  fields := #[]
  methods := #[]
  instanceTypes := #[]
  staticTypes := #[]
  resolved := Array.replicate 131 none
  statics := none }

def pool8 : Array CpInfo := pool [(1, .class_ 2), (0, u "java/lang/constant/Constable"), (0, .class_ 4), (0, u "java/lang/Object")] 6

/-- java/lang/constant/Constable -/
def k8 : Class := { plain "java/lang/constant/Constable" (some 0) with
  accessFlags := 1537
  interfaces := #[]
  cf := some (fileOf pool8 1 #[] #[] 1537 3 #[] #[])
  fields := #[]
  methods := #[]
  instanceTypes := #[]
  staticTypes := #[]
  resolved := Array.replicate 11 none
  statics := none }

def pool9 : Array CpInfo := pool [(1, .class_ 2), (0, u "java/lang/constant/ConstantDesc"), (0, .class_ 4), (0, u "java/lang/Object")] 32

/-- java/lang/constant/ConstantDesc -/
def k9 : Class := { plain "java/lang/constant/ConstantDesc" (some 0) with
  accessFlags := 1537
  interfaces := #[]
  cf := some (fileOf pool9 1 #[] #[] 1537 3 #[] #[])
  fields := #[]
  methods := #[]
  instanceTypes := #[]
  staticTypes := #[]
  resolved := Array.replicate 37 none
  statics := none }

def pool10 : Array CpInfo := pool [(2, .class_ 4), (1, u "java/lang/Object"), (0, u "<init>"), (0, u "()V"), (3, .class_ 12), (1, u "java/lang/String"), (0, u "value"), (0, u "[B"), (2, u "coder"), (0, u "B"), (2, u "hash"), (0, u "I"), (2, u "hashIsZero"), (0, u "Z"), (13, u "COMPACT_STRINGS"), (534, .class_ 576), (0, u "java/lang/CharSequence"), (22, u "CASE_INSENSITIVE_ORDER"), (0, u "Ljava/util/Comparator;"), (500, u "serialPersistentFields"), (0, u "[Ljava/io/ObjectStreamField;"), (0, .class_ 1104), (0, u "java/lang/String$CaseInsensitiveComparator"), (1, .class_ 1107), (0, u "java/io/Serializable"), (0, .class_ 1109), (0, u "java/lang/Comparable"), (0, .class_ 1111), (0, u "java/lang/constant/Constable"), (0, .class_ 1113), (0, u "java/lang/constant/ConstantDesc"), (2, u "serialVersionUID"), (0, u "J"), (3, u "REPL"), (0, u "C"), (2, u "LATIN1"), (1, u "UTF16")] 323

def k10m0 : Method := { name := "<init>", desc := "()V", sig := { parameters := [], returnType := none }, accessFlags := 1, code := none }
/-- java/lang/String -/
def k10 : Class := { plain "java/lang/String" (some 0) with
  accessFlags := 49
  interfaces := #[5, 6, 7, 8, 9]
  cf := some (fileOf pool10 10 #[.nestMembers #[1103]] #[{ accessFlags := 1, nameIndex := 5, descriptorIndex := 6, attributes := #[] }] 49 2 #[1106, 1108, 575, 1110, 1112] #[{ accessFlags := 18, nameIndex := 13, descriptorIndex := 14, attributes := #[] }, { accessFlags := 18, nameIndex := 17, descriptorIndex := 18, attributes := #[] }, { accessFlags := 2, nameIndex := 21, descriptorIndex := 22, attributes := #[] }, { accessFlags := 2, nameIndex := 25, descriptorIndex := 26, attributes := #[] }, { accessFlags := 26, nameIndex := 1116, descriptorIndex := 1117, attributes := #[] }, { accessFlags := 24, nameIndex := 40, descriptorIndex := 26, attributes := #[] }, { accessFlags := 26, nameIndex := 1101, descriptorIndex := 1102, attributes := #[] }, { accessFlags := 26, nameIndex := 1121, descriptorIndex := 1122, attributes := #[] }, { accessFlags := 25, nameIndex := 599, descriptorIndex := 600, attributes := #[] }, { accessFlags := 24, nameIndex := 1125, descriptorIndex := 18, attributes := #[] }, { accessFlags := 24, nameIndex := 1127, descriptorIndex := 18, attributes := #[] }])
  fields := #[{ name := "value", type := (.array .byte), accessFlags := 18, slot := 0, constantValue := 0 }, { name := "coder", type := .byte, accessFlags := 18, slot := 1, constantValue := 0 }, { name := "hash", type := .int, accessFlags := 2, slot := 2, constantValue := 0 }, { name := "hashIsZero", type := .boolean, accessFlags := 2, slot := 3, constantValue := 0 }, { name := "serialVersionUID", type := .long, accessFlags := 26, slot := 0, constantValue := 0 }, { name := "COMPACT_STRINGS", type := .boolean, accessFlags := 24, slot := 1, constantValue := 0 }, { name := "serialPersistentFields", type := (.array (.object "java/io/ObjectStreamField")), accessFlags := 26, slot := 2, constantValue := 0 }, { name := "REPL", type := .char, accessFlags := 26, slot := 3, constantValue := 0 }, { name := "CASE_INSENSITIVE_ORDER", type := (.object "java/util/Comparator"), accessFlags := 25, slot := 4, constantValue := 0 }, { name := "LATIN1", type := .byte, accessFlags := 24, slot := 5, constantValue := 0 }, { name := "UTF16", type := .byte, accessFlags := 24, slot := 6, constantValue := 0 }]
  methods := #[k10m0]
  instanceTypes := #[(.array .byte), .byte, .int, .boolean]
  staticTypes := #[.long, .boolean, (.array (.object "java/io/ObjectStreamField")), .char, (.object "java/util/Comparator"), .byte, .byte]
  resolved := Array.replicate 1451 none
  statics := none }

def pool11 : Array CpInfo := pool [(2, .class_ 4), (1, u "java/lang/Object"), (0, u "<init>"), (0, u "()V"), (35, .class_ 44), (1, u "java/util/Objects"), (0, u "requireNonNull"), (48, u "(Ljava/lang/Object;Ljava/lang/String;)Ljava/lang/Object;"), (10, .methodref 106 107), (0, .class_ 108), (0, .nameAndType 109 110), (0, u "jdk/internal/util/Preconditions"), (0, u "checkIndex"), (0, u "(IILjava/util/function/BiFunction;)I"), (60, u "(II)I")] 12

def k11m0 : Method := { name := "<init>", desc := "()V", sig := { parameters := [], returnType := none }, accessFlags := 2, code := none }
def k11c1 : Code := { maxStack := 3, maxLocals := 2, code := jdk_31_method_11_code, exceptionTable := #[], attributes := #[] }
def k11m1 : Method := { name := "requireNonNull", desc := "(Ljava/lang/Object;Ljava/lang/String;)Ljava/lang/Object;", sig := { parameters := [(.object "java/lang/Object"), (.object "java/lang/String")], returnType := some (.object "java/lang/Object") }, accessFlags := 9, code := some k11c1 }
def k11c2 : Code := { maxStack := 3, maxLocals := 2, code := jdk_31_method_17_code, exceptionTable := #[], attributes := #[] }
def k11m2 : Method := { name := "checkIndex", desc := "(II)I", sig := { parameters := [.int, .int], returnType := some .int }, accessFlags := 9, code := some k11c2 }
/-- java/util/Objects -/
def k11 : Class := { plain "java/util/Objects" (some 0) with
  accessFlags := 49
  interfaces := #[]
  cf := some (fileOf pool11 42 #[] #[{ accessFlags := 2, nameIndex := 5, descriptorIndex := 6, attributes := #[] }, { accessFlags := 9, nameIndex := 45, descriptorIndex := 94, attributes := #[] }, { accessFlags := 9, nameIndex := 109, descriptorIndex := 171, attributes := #[] }] 49 2 #[] #[])
  fields := #[]
  methods := #[k11m0, k11m1, k11m2]
  instanceTypes := #[]
  staticTypes := #[]
  resolved := Array.replicate 184 none
  statics := none }

def pool12 : Array CpInfo := pool [(1, .class_ 2), (0, u "java/lang/Cloneable"), (0, .class_ 4), (0, u "java/lang/Object")] 2

/-- java/lang/Cloneable -/
def k12 : Class := { plain "java/lang/Cloneable" (some 0) with
  accessFlags := 1537
  interfaces := #[]
  cf := some (fileOf pool12 1 #[] #[] 1537 3 #[] #[])
  fields := #[]
  methods := #[]
  instanceTypes := #[]
  staticTypes := #[]
  resolved := Array.replicate 7 none
  statics := none }

def pool13 : Array CpInfo := pool [(2, .class_ 4), (1, u "java/lang/Object"), (0, u "<init>"), (0, u "()V"), (0, .methodref 8 9), (0, .class_ 10), (0, .nameAndType 11 12), (0, u "java/util/DualPivotQuicksort"), (0, u "sort"), (0, u "([IIII)V"), (1, .class_ 16), (1, u "java/util/Arrays"), (57, .class_ 76), (1, u "java/util/Arrays$NaturalOrder"), (36, .class_ 115), (1, u "java/util/Arrays$LegacyMergeSort"), (1, u "Z"), (257, .class_ 376), (0, u "java/util/Arrays$ArrayList"), (68, u "$assertionsDisabled"), (269, u "MIN_ARRAY_SORT_GRAN"), (0, u "I"), (2, u "INSERTIONSORT_THRESHOLD"), (6, u "([I)V"), (248, .class_ 976), (0, u "java/util/Arrays$ArrayItr")] 52

def k13m0 : Method := { name := "<init>", desc := "()V", sig := { parameters := [], returnType := none }, accessFlags := 2, code := none }
def k13c1 : Code := { maxStack := 4, maxLocals := 1, code := jdk_65_method_2_code, exceptionTable := #[], attributes := #[] }
def k13m1 : Method := { name := "sort", desc := "([I)V", sig := { parameters := [(.array .int)], returnType := none }, accessFlags := 9, code := some k13c1 }
/-- java/util/Arrays -/
def k13 : Class := { plain "java/util/Arrays" (some 0) with
  accessFlags := 49
  interfaces := #[]
  cf := some (fileOf pool13 14 #[.nestMembers #[975, 375, 113, 74]] #[{ accessFlags := 2, nameIndex := 5, descriptorIndex := 6, attributes := #[] }, { accessFlags := 9, nameIndex := 11, descriptorIndex := 726, attributes := #[] }] 49 2 #[] #[{ accessFlags := 26, nameIndex := 715, descriptorIndex := 716, attributes := #[] }, { accessFlags := 26, nameIndex := 719, descriptorIndex := 716, attributes := #[] }, { accessFlags := 4120, nameIndex := 445, descriptorIndex := 117, attributes := #[] }])
  fields := #[{ name := "MIN_ARRAY_SORT_GRAN", type := .int, accessFlags := 26, slot := 0, constantValue := 0 }, { name := "INSERTIONSORT_THRESHOLD", type := .int, accessFlags := 26, slot := 1, constantValue := 0 }, { name := "$assertionsDisabled", type := .boolean, accessFlags := 4120, slot := 2, constantValue := 0 }]
  methods := #[k13m0, k13m1]
  instanceTypes := #[]
  staticTypes := #[.int, .int, .boolean]
  resolved := Array.replicate 1029 none
  statics := none }

def pool14 : Array CpInfo := pool [(1, .class_ 2), (0, u "java/util/DualPivotQuicksort"), (5, .class_ 10), (1, u "java/lang/Object"), (0, u "<init>"), (0, u "()V"), (4, .class_ 18), (0, u "java/util/DualPivotQuicksort$Sorter"), (7, .methodref 1 27), (0, .nameAndType 28 29), (0, u "sort"), (0, u "(Ljava/util/DualPivotQuicksort$Sorter;[IIII)V"), (3, u "([IIII)V"), (0, .methodref 1 35), (0, .nameAndType 36 37), (0, u "insertionSort"), (0, u "([III)V"), (30, u "I"), (4, .class_ 74), (0, u "java/util/DualPivotQuicksort$RunMerger"), (10, .class_ 86), (0, u "java/util/DualPivotQuicksort$Merger"), (127, u "MAX_MIXED_INSERTION_SORT_SIZE"), (2, u "MAX_INSERTION_SORT_SIZE"), (1, u "MIN_PARALLEL_SORT_SIZE"), (1, u "MIN_TRY_MERGE_SIZE"), (0, u "MIN_FIRST_RUN_SIZE"), (1, u "MIN_FIRST_RUNS_FACTOR"), (1, u "MAX_RUN_CAPACITY"), (1, u "MIN_RUN_COUNT"), (1, u "MIN_PARALLEL_MERGE_PARTS_SIZE"), (0, u "MIN_BYTE_COUNTING_SORT_SIZE"), (1, u "MIN_SHORT_OR_CHAR_COUNTING_SORT_SIZE"), (1, u "DELTA"), (1, u "MAX_RECURSION_DEPTH"), (1, u "NUM_BYTE_VALUES"), (1, u "MAX_BYTE_INDEX"), (0, u "NUM_CHAR_VALUES"), (0, u "NUM_SHORT_VALUES"), (0, u "MAX_SHORT_INDEX")] 86

def k14m0 : Method := { name := "<init>", desc := "()V", sig := { parameters := [], returnType := none }, accessFlags := 2, code := none }
def k14c1 : Code := { maxStack := 9, maxLocals := 7, code := jdk_2529_method_3_code, exceptionTable := #[], attributes := #[] }
def k14m1 : Method := { name := "sort", desc := "([IIII)V", sig := { parameters := [(.array .int), .int, .int, .int], returnType := none }, accessFlags := 8, code := some k14c1 }
def k14c2 : Code := { maxStack := 6, maxLocals := 21, code := jdk_2529_method_4_code, exceptionTable := #[], attributes := #[] }
def k14m2 : Method := { name := "sort", desc := "(Ljava/util/DualPivotQuicksort$Sorter;[IIII)V", sig := { parameters := [(.object "java/util/DualPivotQuicksort$Sorter"), (.array .int), .int, .int, .int], returnType := none }, accessFlags := 8, code := some k14c2 }
def k14c3 : Code := { maxStack := 4, maxLocals := 6, code := jdk_2529_method_6_code, exceptionTable := #[], attributes := #[] }
def k14m3 : Method := { name := "insertionSort", desc := "([III)V", sig := { parameters := [(.array .int), .int, .int], returnType := none }, accessFlags := 10, code := some k14c3 }
/-- java/util/DualPivotQuicksort -/
def k14 : Class := { plain "java/util/DualPivotQuicksort" (some 0) with
  accessFlags := 48
  interfaces := #[]
  cf := some (fileOf pool14 1 #[.nestMembers #[73, 85, 17]] #[{ accessFlags := 2, nameIndex := 11, descriptorIndex := 12, attributes := #[] }, { accessFlags := 8, nameIndex := 28, descriptorIndex := 33, attributes := #[] }, { accessFlags := 8, nameIndex := 28, descriptorIndex := 29, attributes := #[] }, { accessFlags := 10, nameIndex := 36, descriptorIndex := 37, attributes := #[] }] 48 8 #[] #[{ accessFlags := 26, nameIndex := 214, descriptorIndex := 68, attributes := #[] }, { accessFlags := 26, nameIndex := 217, descriptorIndex := 68, attributes := #[] }, { accessFlags := 26, nameIndex := 219, descriptorIndex := 68, attributes := #[] }, { accessFlags := 26, nameIndex := 221, descriptorIndex := 68, attributes := #[] }, { accessFlags := 26, nameIndex := 222, descriptorIndex := 68, attributes := #[] }, { accessFlags := 26, nameIndex := 224, descriptorIndex := 68, attributes := #[] }, { accessFlags := 26, nameIndex := 226, descriptorIndex := 68, attributes := #[] }, { accessFlags := 26, nameIndex := 228, descriptorIndex := 68, attributes := #[] }, { accessFlags := 26, nameIndex := 230, descriptorIndex := 68, attributes := #[] }, { accessFlags := 26, nameIndex := 231, descriptorIndex := 68, attributes := #[] }, { accessFlags := 26, nameIndex := 233, descriptorIndex := 68, attributes := #[] }, { accessFlags := 26, nameIndex := 235, descriptorIndex := 68, attributes := #[] }, { accessFlags := 26, nameIndex := 237, descriptorIndex := 68, attributes := #[] }, { accessFlags := 26, nameIndex := 239, descriptorIndex := 68, attributes := #[] }, { accessFlags := 26, nameIndex := 241, descriptorIndex := 68, attributes := #[] }, { accessFlags := 26, nameIndex := 242, descriptorIndex := 68, attributes := #[] }, { accessFlags := 26, nameIndex := 243, descriptorIndex := 68, attributes := #[] }, { accessFlags := 26, nameIndex := 244, descriptorIndex := 68, attributes := #[] }])
  fields := #[{ name := "MAX_MIXED_INSERTION_SORT_SIZE", type := .int, accessFlags := 26, slot := 0, constantValue := 0 }, { name := "MAX_INSERTION_SORT_SIZE", type := .int, accessFlags := 26, slot := 1, constantValue := 0 }, { name := "MIN_PARALLEL_SORT_SIZE", type := .int, accessFlags := 26, slot := 2, constantValue := 0 }, { name := "MIN_TRY_MERGE_SIZE", type := .int, accessFlags := 26, slot := 3, constantValue := 0 }, { name := "MIN_FIRST_RUN_SIZE", type := .int, accessFlags := 26, slot := 4, constantValue := 0 }, { name := "MIN_FIRST_RUNS_FACTOR", type := .int, accessFlags := 26, slot := 5, constantValue := 0 }, { name := "MAX_RUN_CAPACITY", type := .int, accessFlags := 26, slot := 6, constantValue := 0 }, { name := "MIN_RUN_COUNT", type := .int, accessFlags := 26, slot := 7, constantValue := 0 }, { name := "MIN_PARALLEL_MERGE_PARTS_SIZE", type := .int, accessFlags := 26, slot := 8, constantValue := 0 }, { name := "MIN_BYTE_COUNTING_SORT_SIZE", type := .int, accessFlags := 26, slot := 9, constantValue := 0 }, { name := "MIN_SHORT_OR_CHAR_COUNTING_SORT_SIZE", type := .int, accessFlags := 26, slot := 10, constantValue := 0 }, { name := "DELTA", type := .int, accessFlags := 26, slot := 11, constantValue := 0 }, { name := "MAX_RECURSION_DEPTH", type := .int, accessFlags := 26, slot := 12, constantValue := 0 }, { name := "NUM_BYTE_VALUES", type := .int, accessFlags := 26, slot := 13, constantValue := 0 }, { name := "MAX_BYTE_INDEX", type := .int, accessFlags := 26, slot := 14, constantValue := 0 }, { name := "NUM_CHAR_VALUES", type := .int, accessFlags := 26, slot := 15, constantValue := 0 }, { name := "NUM_SHORT_VALUES", type := .int, accessFlags := 26, slot := 16, constantValue := 0 }, { name := "MAX_SHORT_INDEX", type := .int, accessFlags := 26, slot := 17, constantValue := 0 }]
  methods := #[k14m0, k14m1, k14m2, k14m3]
  instanceTypes := #[]
  staticTypes := #[.int, .int, .int, .int, .int, .int, .int, .int, .int, .int, .int, .int, .int, .int, .int, .int, .int, .int]
  resolved := Array.replicate 331 none
  statics := none }

def pool15 : Array CpInfo := pool [(2, .class_ 4), (1, u "java/lang/Object"), (0, u "<init>"), (0, u "()V"), (17, .class_ 26), (1, u "jdk/internal/util/Preconditions"), (6, u "checkIndex"), (21, .class_ 56), (0, u "jdk/internal/util/Preconditions$4"), (57, .class_ 115), (0, u "jdk/internal/util/Preconditions$1"), (7, u "SIOOBE_FORMATTER"), (0, u "Ljava/util/function/BiFunction;"), (0, .class_ 126), (0, u "jdk/internal/util/Preconditions$2"), (3, u "AIOOBE_FORMATTER"), (0, .class_ 132), (0, u "jdk/internal/util/Preconditions$3"), (3, u "IOOBE_FORMATTER"), (41, u "(IILjava/util/function/BiFunction;)I")] 15

def k15m0 : Method := { name := "<init>", desc := "()V", sig := { parameters := [], returnType := none }, accessFlags := 1, code := none }
def k15c1 : Code := { maxStack := 3, maxLocals := 3, code := jdk_41_method_11_code, exceptionTable := #[], attributes := #[] }
def k15m1 : Method := { name := "checkIndex", desc := "(IILjava/util/function/BiFunction;)I", sig := { parameters := [.int, .int, (.object "java/util/function/BiFunction")], returnType := some .int }, accessFlags := 9, code := some k15c1 }
/-- jdk/internal/util/Preconditions -/
def k15 : Class := { plain "jdk/internal/util/Preconditions" (some 0) with
  accessFlags := 33
  interfaces := #[]
  cf := some (fileOf pool15 24 #[.nestMembers #[55, 131, 125, 114]] #[{ accessFlags := 1, nameIndex := 5, descriptorIndex := 6, attributes := #[] }, { accessFlags := 9, nameIndex := 33, descriptorIndex := 178, attributes := #[] }] 33 2 #[] #[{ accessFlags := 25, nameIndex := 123, descriptorIndex := 124, attributes := #[] }, { accessFlags := 25, nameIndex := 130, descriptorIndex := 124, attributes := #[] }, { accessFlags := 25, nameIndex := 136, descriptorIndex := 124, attributes := #[] }])
  fields := #[{ name := "SIOOBE_FORMATTER", type := (.object "java/util/function/BiFunction"), accessFlags := 25, slot := 0, constantValue := 0 }, { name := "AIOOBE_FORMATTER", type := (.object "java/util/function/BiFunction"), accessFlags := 25, slot := 1, constantValue := 0 }, { name := "IOOBE_FORMATTER", type := (.object "java/util/function/BiFunction"), accessFlags := 25, slot := 2, constantValue := 0 }]
  methods := #[k15m0, k15m1]
  instanceTypes := #[]
  staticTypes := #[(.object "java/util/function/BiFunction"), (.object "java/util/function/BiFunction"), (.object "java/util/function/BiFunction")]
  resolved := Array.replicate 194 none
  statics := none }

/-- the primitive byte -/
def k16 : Class := { plain "byte" none with kind := .primitive 'B', accessFlags := 0x411 }
/-- [B -/
def k17 : Class := { plain "[B" (some 0) with kind := .array 16 .byte, interfaces := #[12, 5], accessFlags := 1041 }

/-- the primitive int -/
def k18 : Class := { plain "int" none with kind := .primitive 'I', accessFlags := 0x411 }
/-- [I -/
def k19 : Class := { plain "[I" (some 0) with kind := .array 18 .int, interfaces := #[12, 5], accessFlags := 1041 }

def heap : Heap := #[]
def classes : Array Class := #[k0, k1, k2, k3, k4, k5, k6, k7, k8, k9, k10, k11, k12, k13, k14, k15, k16, k17, k18, k19]
def interned : List (Array UInt16 × Addr) := []
def slotsUsed : Nat := 0
def theMethod : MethodId := ⟨1, 1⟩
def args0 : Array Value := #[.int 1, .int 2, .int 3, .int 4, .int 5, .int 6]
def aboutOver (below : List Frame) : State where
  vm := { classes := classes, interned := interned.toArray }
  heap := heap
  slotsUsed := slotsUsed
  threads := #[{ frames := .invoking theMethod args0 :: below }]
def below0 : List Frame := [.native { method := ⟨0, 0⟩, args := #[] }]
def about1 : State := aboutOver below0
def p0 : Program := .bare "" "" ""
def e0 : Env := launch0.env 0 0 0
theorem w_frames : about1.frames = Frame.invoking theMethod args0 :: below0 := rfl
set_option maxRecDepth 65536 in
theorem w_args : argsFit about1.vm theMethod args0 = true := by decide +kernel
set_option maxRecDepth 65536 in
theorem w_heap : heapFits about1 = true := by decide +kernel
set_option maxRecDepth 65536 in
theorem w_runnable : about1.curStatus? = some .runnable := by decide +kernel
set_option maxRecDepth 65536 in
theorem w_alone : about1.alone = true := by decide +kernel
set_option maxRecDepth 65536 in
theorem w_named : about1.methodNamed? x = some theMethod := by decide +kernel
set_option maxRecDepth 65536 in
theorem w_hears : about1.hears theMethod below0 = true := by decide +kernel
set_option maxRecDepth 65536 in
theorem w_ripe : about1.ripe theMethod args0 below0 = true := by decide +kernel
theorem w_running : about1.status = .running := rfl
set_option maxRecDepth 65536 in
theorem w_room : about1.hasRoom e0.platform room_1 = true :=
  launch0.hasRoom_least _ room_1 (by decide +kernel) (by decide +kernel) (by decide +kernel) (by decide +kernel) (by decide +kernel) (by decide +kernel)
theorem allAtoms_all (ts : List Jvm.Cond) (a : Array Jvm.Value) (st : Jvm.State) : (allAtoms ts).before a st = ts.all (fun c => c.before a st) := by
  induction ts with
  | nil => rfl
  | cons c t ih =>
    show (Jvm.Cond.and c (allAtoms t)).before a st = _
    rw [Jvm.Cond.before_and, ih, List.all_cons]
def words1 : List Jvm.Cond := Jvm.Cond.code x code maxLocals ret :: tables_1
/-- a 'code' word, met by the world's own term for the bytes: nothing is compared byte by byte -/
theorem code_word {y : MethodName} {bytes : ByteArray} {mx : Nat} {rt : Option FieldType} {a : Array Value} {s : State} {m : MethodId} {meth : Method} {c : Code} (h1 : s.methodNamed? y = some m) (h2 : s.vm.method? m = some meth) (h3 : meth.code = some c) (h4 : c.code = bytes)
    (h5 : (c.maxLocals == mx && c.exceptionTable.isEmpty && decide (c.maxStack ≤ mostOperands) && decide (meth.sig.returnType = rt) && !meth.locks && decide (parseMethodDescriptor y.desc = some meth.sig)) = true) : (Jvm.Cond.code y bytes mx rt).before a s = true := by
  simp only [Bool.and_eq_true, beq_iff_eq, Bool.not_eq_true', decide_eq_true_eq] at h5
  obtain ⟨⟨⟨⟨⟨g1, g2⟩, g3⟩, g4⟩, g5⟩, g6⟩ := h5
  simp [Cond.before, Cond.holds, Cond.value, h1, h2, h3, h4, g1, g2, g3, g4, g5, g6]
def isCode : Jvm.Cond → Bool
  | .code _ _ _ _ => true
  | _ => false
theorem all_split {L : List Jvm.Cond} {P : Jvm.Cond → Bool} (h1 : L.all (fun c => isCode c || P c) = true) (h2 : ∀ c ∈ L.filter isCode, P c = true) : L.all P = true := by
  refine List.all_eq_true.mpr fun c hc => ?_
  have h := List.all_eq_true.mp h1 c hc
  rcases Bool.eq_false_or_eq_true (isCode c) with hi | hi
  · exact h2 c (List.mem_filter.mpr ⟨hc, hi⟩)
  · simpa [hi] using h
set_option maxRecDepth 65536 in
theorem w_c0 : (Jvm.Cond.code x code maxLocals ret).before args0 about1 = true := code_word (m := ⟨1, 1⟩) (meth := k1m1) (c := k1c1) (by decide +kernel) rfl rfl rfl (by decide +kernel)
set_option maxRecDepth 65536 in
theorem w_c1 : (Jvm.Cond.code ({ cls := "java/lang/Math", name := "max", desc := "(II)I" } : Jvm.MethodName) jdk_29_method_65_code (2 : Nat) (Option.some Jvm.ClassFile.FieldType.int)).before args0 about1 = true := code_word (m := ⟨2, 1⟩) (meth := k2m1) (c := k2c1) (by decide +kernel) rfl rfl rfl (by decide +kernel)
set_option maxRecDepth 65536 in
theorem w_c2 : (Jvm.Cond.code ({ cls := "com/example/allot/allot/partition/Topic", name := "<init>", desc := "(Ljava/lang/String;I[I)V" } : Jvm.MethodName) prog_83_method_1_code (5 : Nat) (Option.none : Option Jvm.ClassFile.FieldType)).before args0 about1 = true := code_word (m := ⟨4, 0⟩) (meth := k4m0) (c := k4c0) (by decide +kernel) rfl rfl rfl (by decide +kernel)
set_option maxRecDepth 65536 in
theorem w_c3 : (Jvm.Cond.code ({ cls := "java/lang/Record", name := "<init>", desc := "()V" } : Jvm.MethodName) jdk_30_method_1_code (1 : Nat) (Option.none : Option Jvm.ClassFile.FieldType)).before args0 about1 = true := code_word (m := ⟨3, 0⟩) (meth := k3m0) (c := k3c0) (by decide +kernel) rfl rfl rfl (by decide +kernel)
set_option maxRecDepth 65536 in
theorem w_c4 : (Jvm.Cond.code ({ cls := "java/lang/Object", name := "<init>", desc := "()V" } : Jvm.MethodName) object_method_1_code (1 : Nat) (Option.none : Option Jvm.ClassFile.FieldType)).before args0 about1 = true := code_word (m := ⟨0, 0⟩) (meth := k0m0) (c := k0c0) (by decide +kernel) rfl rfl rfl (by decide +kernel)
set_option maxRecDepth 65536 in
theorem w_c5 : (Jvm.Cond.code ({ cls := "java/util/Objects", name := "requireNonNull", desc := "(Ljava/lang/Object;Ljava/lang/String;)Ljava/lang/Object;" } : Jvm.MethodName) jdk_31_method_11_code (2 : Nat) (Option.some (Jvm.ClassFile.FieldType.object "java/lang/Object"))).before args0 about1 = true := code_word (m := ⟨11, 1⟩) (meth := k11m1) (c := k11c1) (by decide +kernel) rfl rfl rfl (by decide +kernel)
set_option maxRecDepth 65536 in
theorem w_c6 : (Jvm.Cond.code ({ cls := "java/util/Arrays", name := "sort", desc := "([I)V" } : Jvm.MethodName) jdk_65_method_2_code (1 : Nat) (Option.none : Option Jvm.ClassFile.FieldType)).before args0 about1 = true := code_word (m := ⟨13, 1⟩) (meth := k13m1) (c := k13c1) (by decide +kernel) rfl rfl rfl (by decide +kernel)
set_option maxRecDepth 65536 in
theorem w_c7 : (Jvm.Cond.code ({ cls := "java/util/DualPivotQuicksort", name := "sort", desc := "([IIII)V" } : Jvm.MethodName) jdk_2529_method_3_code (7 : Nat) (Option.none : Option Jvm.ClassFile.FieldType)).before args0 about1 = true := code_word (m := ⟨14, 1⟩) (meth := k14m1) (c := k14c1) (by decide +kernel) rfl rfl rfl (by decide +kernel)
set_option maxRecDepth 65536 in
theorem w_c8 : (Jvm.Cond.code ({ cls := "java/util/DualPivotQuicksort", name := "sort", desc := "(Ljava/util/DualPivotQuicksort$Sorter;[IIII)V" } : Jvm.MethodName) jdk_2529_method_4_code (21 : Nat) (Option.none : Option Jvm.ClassFile.FieldType)).before args0 about1 = true := code_word (m := ⟨14, 2⟩) (meth := k14m2) (c := k14c2) (by decide +kernel) rfl rfl rfl (by decide +kernel)
set_option maxRecDepth 65536 in
theorem w_c9 : (Jvm.Cond.code ({ cls := "java/util/DualPivotQuicksort", name := "insertionSort", desc := "([III)V" } : Jvm.MethodName) jdk_2529_method_6_code (6 : Nat) (Option.none : Option Jvm.ClassFile.FieldType)).before args0 about1 = true := code_word (m := ⟨14, 3⟩) (meth := k14m3) (c := k14c3) (by decide +kernel) rfl rfl rfl (by decide +kernel)
set_option maxRecDepth 65536 in
theorem w_c10 : (Jvm.Cond.code ({ cls := "com/example/allot/allot/partition/Topic", name := "availableAt", desc := "(I)I" } : Jvm.MethodName) prog_83_method_10_code (5 : Nat) (Option.some Jvm.ClassFile.FieldType.int)).before args0 about1 = true := code_word (m := ⟨4, 2⟩) (meth := k4m2) (c := k4c2) (by decide +kernel) rfl rfl rfl (by decide +kernel)
set_option maxRecDepth 65536 in
theorem w_c11 : (Jvm.Cond.code ({ cls := "com/example/allot/allot/partition/Topic", name := "availableCount", desc := "()I" } : Jvm.MethodName) prog_83_method_7_code (1 : Nat) (Option.some Jvm.ClassFile.FieldType.int)).before args0 about1 = true := code_word (m := ⟨4, 1⟩) (meth := k4m1) (c := k4c1) (by decide +kernel) rfl rfl rfl (by decide +kernel)
set_option maxRecDepth 65536 in
theorem w_c12 : (Jvm.Cond.code ({ cls := "java/util/Objects", name := "checkIndex", desc := "(II)I" } : Jvm.MethodName) jdk_31_method_17_code (2 : Nat) (Option.some Jvm.ClassFile.FieldType.int)).before args0 about1 = true := code_word (m := ⟨11, 2⟩) (meth := k11m2) (c := k11c2) (by decide +kernel) rfl rfl rfl (by decide +kernel)
set_option maxRecDepth 65536 in
theorem w_c13 : (Jvm.Cond.code ({ cls := "jdk/internal/util/Preconditions", name := "checkIndex", desc := "(IILjava/util/function/BiFunction;)I" } : Jvm.MethodName) jdk_41_method_11_code (3 : Nat) (Option.some Jvm.ClassFile.FieldType.int)).before args0 about1 = true := code_word (m := ⟨15, 1⟩) (meth := k15m1) (c := k15c1) (by decide +kernel) rfl rfl rfl (by decide +kernel)
set_option maxRecDepth 65536 in
theorem w_c14 : (Jvm.Cond.code ({ cls := "com/example/allot/allot/partition/Topic", name := "requireOneOf", desc := "(Ljava/lang/String;ILjava/lang/String;I)V" } : Jvm.MethodName) prog_83_method_11_code (4 : Nat) (Option.none : Option Jvm.ClassFile.FieldType)).before args0 about1 = true := code_word (m := ⟨4, 3⟩) (meth := k4m3) (c := k4c3) (by decide +kernel) rfl rfl rfl (by decide +kernel)
def codes1 : List Jvm.Cond := [Jvm.Cond.code x code maxLocals ret, Jvm.Cond.code ({ cls := "java/lang/Math", name := "max", desc := "(II)I" } : Jvm.MethodName) jdk_29_method_65_code (2 : Nat) (Option.some Jvm.ClassFile.FieldType.int), Jvm.Cond.code ({ cls := "com/example/allot/allot/partition/Topic", name := "<init>", desc := "(Ljava/lang/String;I[I)V" } : Jvm.MethodName) prog_83_method_1_code (5 : Nat) (Option.none : Option Jvm.ClassFile.FieldType), Jvm.Cond.code ({ cls := "java/lang/Record", name := "<init>", desc := "()V" } : Jvm.MethodName) jdk_30_method_1_code (1 : Nat) (Option.none : Option Jvm.ClassFile.FieldType), Jvm.Cond.code ({ cls := "java/lang/Object", name := "<init>", desc := "()V" } : Jvm.MethodName) object_method_1_code (1 : Nat) (Option.none : Option Jvm.ClassFile.FieldType), Jvm.Cond.code ({ cls := "java/util/Objects", name := "requireNonNull", desc := "(Ljava/lang/Object;Ljava/lang/String;)Ljava/lang/Object;" } : Jvm.MethodName) jdk_31_method_11_code (2 : Nat) (Option.some (Jvm.ClassFile.FieldType.object "java/lang/Object")), Jvm.Cond.code ({ cls := "java/util/Arrays", name := "sort", desc := "([I)V" } : Jvm.MethodName) jdk_65_method_2_code (1 : Nat) (Option.none : Option Jvm.ClassFile.FieldType), Jvm.Cond.code ({ cls := "java/util/DualPivotQuicksort", name := "sort", desc := "([IIII)V" } : Jvm.MethodName) jdk_2529_method_3_code (7 : Nat) (Option.none : Option Jvm.ClassFile.FieldType), Jvm.Cond.code ({ cls := "java/util/DualPivotQuicksort", name := "sort", desc := "(Ljava/util/DualPivotQuicksort$Sorter;[IIII)V" } : Jvm.MethodName) jdk_2529_method_4_code (21 : Nat) (Option.none : Option Jvm.ClassFile.FieldType), Jvm.Cond.code ({ cls := "java/util/DualPivotQuicksort", name := "insertionSort", desc := "([III)V" } : Jvm.MethodName) jdk_2529_method_6_code (6 : Nat) (Option.none : Option Jvm.ClassFile.FieldType), Jvm.Cond.code ({ cls := "com/example/allot/allot/partition/Topic", name := "availableAt", desc := "(I)I" } : Jvm.MethodName) prog_83_method_10_code (5 : Nat) (Option.some Jvm.ClassFile.FieldType.int), Jvm.Cond.code ({ cls := "com/example/allot/allot/partition/Topic", name := "availableCount", desc := "()I" } : Jvm.MethodName) prog_83_method_7_code (1 : Nat) (Option.some Jvm.ClassFile.FieldType.int), Jvm.Cond.code ({ cls := "java/util/Objects", name := "checkIndex", desc := "(II)I" } : Jvm.MethodName) jdk_31_method_17_code (2 : Nat) (Option.some Jvm.ClassFile.FieldType.int), Jvm.Cond.code ({ cls := "jdk/internal/util/Preconditions", name := "checkIndex", desc := "(IILjava/util/function/BiFunction;)I" } : Jvm.MethodName) jdk_41_method_11_code (3 : Nat) (Option.some Jvm.ClassFile.FieldType.int), Jvm.Cond.code ({ cls := "com/example/allot/allot/partition/Topic", name := "requireOneOf", desc := "(Ljava/lang/String;ILjava/lang/String;I)V" } : Jvm.MethodName) prog_83_method_11_code (4 : Nat) (Option.none : Option Jvm.ClassFile.FieldType)]
set_option maxRecDepth 65536 in
theorem codes_eq : words1.filter isCode = codes1 := rfl
theorem w_codes : ∀ c ∈ words1.filter isCode, c.before args0 about1 = true := by
  rw [codes_eq]
  intro c hc
  simp only [codes1, List.mem_cons, List.not_mem_nil, or_false] at hc
  rcases hc with rfl | rfl | rfl | rfl | rfl | rfl | rfl | rfl | rfl | rfl | rfl | rfl | rfl | rfl | rfl
  · exact w_c0
  · exact w_c1
  · exact w_c2
  · exact w_c3
  · exact w_c4
  · exact w_c5
  · exact w_c6
  · exact w_c7
  · exact w_c8
  · exact w_c9
  · exact w_c10
  · exact w_c11
  · exact w_c12
  · exact w_c13
  · exact w_c14
set_option maxRecDepth 65536 in
theorem w_t1 : (words1.take 24).all (fun c => isCode c || c.before args0 about1) = true := by decide +kernel
set_option maxRecDepth 65536 in
theorem w_t2 : ((words1.drop 24).take 24).all (fun c => isCode c || c.before args0 about1) = true := by decide +kernel
set_option maxRecDepth 65536 in
theorem w_t3 : (((words1.drop 24).drop 24).take 24).all (fun c => isCode c || c.before args0 about1) = true := by decide +kernel
set_option maxRecDepth 65536 in
theorem w_t4 : (((words1.drop 24).drop 24).drop 24).all (fun c => isCode c || c.before args0 about1) = true := by decide +kernel
theorem w_tables : (allAtoms (Jvm.Cond.code x code maxLocals ret :: tables_1)).before args0 about1 = true := by
  rw [allAtoms_all]
  show words1.all (fun c => c.before args0 about1) = true
  refine all_split ?_ w_codes
  rw [← List.take_append_drop 24 words1, List.all_append, w_t1, ← List.take_append_drop 24 (words1.drop 24), List.all_append, w_t2, ← List.take_append_drop 24 ((words1.drop 24).drop 24), List.all_append, w_t3, w_t4]
  rfl
set_option maxRecDepth 65536 in
theorem w_case : (Jvm.Cond.and given_1 narrow_1).before args0 about1 = true := by decide +kernel
theorem w_applies : (headSpec (Jvm.Cond.code x code maxLocals ret :: tables_1) room_1).applies x e0.platform about1 = true :=
  (Spec.applies_iff w_frames).mpr ⟨w_running, w_runnable, w_alone, w_named, w_hears, w_ripe, w_room, w_tables⟩
theorem atStart : AtStart classFile x code maxLocals ret World_1 tables_1 room_1 Calls_1 rest_1 Pre_1 launch0 p0 e0 about1 theMethod args0 below0 :=
  ⟨lists_1, trivial, launch0.admits_env _ _ _, launch0.least_env, fairChoices_fair.cas, fairChoices_fair.clock, w_frames, w_args, w_heap, w_applies, trivial, trivial, w_case⟩
end start1
theorem witness_1 : WitnessClaimed_1 := ⟨start1.p0, start1.e0, start1.about1, start1.theMethod, start1.args0, start1.below0, start1.atStart⟩
end Jvm.Pilot.@@N@@
