import JvmDerived
import JvmDerived.Pilot.@@N@@Statement
import JvmDerived.Pilot.@@N@@Code
set_option linter.unusedVariables false
set_option linter.unusedSimpArgs false
namespace Jvm.RoadKit
open Sem ClassFile Op Lib Jvm.Stand Jvm.Free Jvm.LawKit
section New
variable {p : Program} {l : Launch} {e : Env} {R : Room} {s : State} {m : MethodId} {args : Array Value} {below : List Frame} {meth : Method} {c : Code} {T : State} {locs : List Loc} {cells slots : Nat}
theorem retI (X : Stand p l e R s m args below meth c T locs cells slots) (hx : p.tables.exec = Jvm.exec) {pc : Nat} {Ls : Array Slot} {z : Int32} {rest : List Value} (hret : meth.sig.returnType = some .int) (hd : decode c.code pc = .ok (.ireturn, 1)) {fs : List Frame}
    (hl : ∀ (f : JFrame) (acts : List Action), f.method = m → f.locked = none → f.entered = [] → (doReturn e (T.setTop f) acts (some (.int z))).1 = T.setFrames fs) : Steps p.tables e below (T.setTop (mkF m pc Ls (.int z :: rest))) (T.setFrames fs) := by
  have hm' : T.vm.method? m = some meth := X.method'
  have hn : narrow .int (.int z) = .int z := rfl
  show Steps p.tables e below (T.setTop { method := m, pc := pc, locals := Ls, stack := _ :: rest, locked := none }) _
  jvm_step X.here [X.here.top, hx, hd, hm', hret, hn]
  first | (intro acts; rw [hl _ acts rfl rfl rfl]) | rw [hl _ _ rfl rfl rfl]
  exact Steps.refl _
end New
end Jvm.RoadKit
namespace Jvm.Pilot.@@N@@
open Jvm Jvm.ClassFile Sem Op Lib Jvm.Free Jvm.Stand Jvm.LawKit Jvm.RoadKit Bundle Jvm.Pilot.@@N@@.Jvm.D
theorem own_nm {x a : Addr} (h : x ≠ a) : x ∉ [a] := fun q => h (List.mem_singleton.mp q)
theorem own_nar {v : Int32} (h : v = (0 : Int32) ∨ v = (1 : Int32)) : nar .boolean v = v := by rcases h with rfl | rfl <;> decide
/-- what a body that writes nothing leaves -/
def QP (r : Option Value) (h0 : Heap) (v : Option Value) (h : Heap) (L : List Loc) : Prop := v = r ∧ L = [] ∧ h = h0
theorem pd___V : parseMethodDescriptor "()V" = some ⟨[], none⟩ := by decide +kernel
theorem pd__JJ_J : parseMethodDescriptor "(JJ)J" = some ⟨[.long, .long], some .long⟩ := by decide +kernel
theorem pd__JJ_V : parseMethodDescriptor "(JJ)V" = some ⟨[.long, .long], none⟩ := by decide +kernel
theorem pd__Lcom_example_probex_probex_count_InputRange__Z : parseMethodDescriptor "(Lcom/example/probex/probex/count/InputRange;)Z" = some ⟨[(.object "com/example/probex/probex/count/InputRange")], some .boolean⟩ := by decide +kernel
def mnL (q1 q2 : Int64) : Int64 := if (0 : Int32) < (lcmpW q1 q2) then q2 else q1
def mxL (q1 q2 : Int64) : Int64 := if (lcmpW q1 q2) < (0 : Int32) then q2 else q1
def cvL (q3 q4 q5 q6 : Int64) : Int32 := if (0 : Int32) < (lcmpW q3 q5) then (0 : Int32) else if (0 : Int32) < (lcmpW q6 q4) then (0 : Int32) else (1 : Int32)
theorem own_mn (a b : Int64) : mnL a b = if b < a then b else a := by unfold mnL; simp only [lw_gt]
theorem own_mx (a b : Int64) : mxL a b = if a < b then b else a := by unfold mxL; simp only [lw_lt]
theorem own_le (p q : Int64) : ¬ (0 : Int32) < lcmpW (mnL p q) (mxL p q) := by
  rw [lw_gt, own_mn, own_mx]
  intro h
  split at h <;> split at h <;> simp only [Int64.lt_iff_toInt_lt] at * <;> omega
theorem own_self (a b : Int64) : cvL a b a b = 1 := by
  unfold cvL
  rw [if_neg, if_neg]
  · rw [lw_gt]; exact Int64.lt_irrefl
  · rw [lw_gt]; exact Int64.lt_irrefl
theorem own_c1 (a b c d : Int64) (h1 : lcmpW (mnL a c) a = (0 : Int32)) (h2 : lcmpW (mxL b d) b = (0 : Int32)) : cvL a b c d = (1 : Int32) := by
  rw [lw_eq, own_mn] at h1
  rw [lw_eq, own_mx] at h2
  unfold cvL
  rw [if_neg, if_neg]
  · rw [lw_gt]; intro h; rw [if_pos h] at h2; rw [h2] at h; exact Int64.lt_irrefl h
  · rw [lw_gt]; intro h; rw [if_pos h] at h1; rw [h1] at h; exact Int64.lt_irrefl h
theorem own_c2 (a b c d : Int64) (h1 : ¬ lcmpW (mnL a c) a = (0 : Int32)) : cvL a b c d = (0 : Int32) := by
  rw [lw_eq, own_mn] at h1
  unfold cvL
  rw [if_pos]
  rw [lw_gt]
  exact Decidable.byContradiction fun h => h1 (if_neg h)
theorem own_c3 (a b c d : Int64) (h2 : ¬ lcmpW (mxL b d) b = (0 : Int32)) : cvL a b c d = (0 : Int32) := by
  rw [lw_eq, own_mx] at h2
  unfold cvL
  split
  · rfl
  rw [if_pos]
  rw [lw_gt]
  exact Decidable.byContradiction fun h => h2 (if_neg h)
def QI (Z : State) (a1 : Addr) (q1 q2 : Int64) (h0 : Heap) (n0 : Nat) (v : Option Value) (h : Heap) (L : List Loc) : Prop := v = none ∧ Fr n0 L ∧ Keep h0 h [a1] ∧ Exa Z h a1 "com/example/probex/probex/count/InputRange" ∧ Fld Z h a1 "com/example/probex/probex/count/InputRange" "low" "J" (.long q1) ∧ Fld Z h a1 "com/example/probex/probex/count/InputRange" "high" "J" (.long q2)
def Q0 (n0 : Nat) (v : Option Value) (h : Heap) (L : List Loc) : Prop := v = some (.int (1 : Int32)) ∧ Fr n0 L
theorem dMin_0 : decode jdk_29_method_70_code 0 = .ok (.lload_n 0, 1) := by decide +kernel
theorem dMin_1 : decode jdk_29_method_70_code 1 = .ok (.lload_n 2, 1) := by decide +kernel
theorem dMin_2 : decode jdk_29_method_70_code 2 = .ok (.lcmp, 1) := by decide +kernel
theorem dMin_3 : decode jdk_29_method_70_code 3 = .ok (.ifCond .gt 7, 3) := by decide +kernel
theorem dMin_6 : decode jdk_29_method_70_code 6 = .ok (.lload_n 0, 1) := by decide +kernel
theorem dMin_7 : decode jdk_29_method_70_code 7 = .ok (.goto 4, 3) := by decide +kernel
theorem dMin_10 : decode jdk_29_method_70_code 10 = .ok (.lload_n 2, 1) := by decide +kernel
theorem dMin_11 : decode jdk_29_method_70_code 11 = .ok (.lreturn, 1) := by decide +kernel
theorem ef_Min (m : MethodId) (x0 : Int64) (x1 : Int64) : entryFrame m #[(.long x0), (.long x1)] 4 = mkF m 0 #[.val (.long x0), .second, .val (.long x1), .second] [] := by first | (simp [entryFrame, mkF, argsToLocals, Value.category]; done) | rfl
set_option maxRecDepth 65536 in
set_option maxHeartbeats 40000000 in
theorem rmMin (l : Launch) (Z : State) (a0 : Array Value) (hw : ∀ d ∈ tables_1, d.before a0 Z = true) (ws : List Jvm.Cond) (q1 : Int64) (q2 : Int64) (h0 : Heap) :
    MetFree l (⟨"java/lang/Math", "min", "(JJ)J"⟩ : MethodName) (head1 (Jvm.Cond.code (⟨"java/lang/Math", "min", "(JJ)J"⟩ : MethodName) jdk_29_method_70_code 4 (some .long) :: ws) ({ frames := 0, cells := 0, slots := 0, locals := 0 } : Room)) (fun a U => a = #[(.long q1), (.long q2)] ∧ Z.Warmed39 U.vm ∧ U.heap = h0) (fun _ _ _ _ _ => True) (fun _ U o U' => ∃ v L, o = .returned v ∧ QP (some (.long (mnL q1 q2))) h0 v U'.heap L ∧ FrameEnd U o U' L ({ frames := 0, cells := 0, slots := 0, locals := 0 } : Room).cells ({ frames := 0, cells := 0, slots := 0, locals := 0 } : Room).slots) := by
  refine MetFree.of_bodySF (Jvm.Free.JP.mathPlain rfl (by decide +kernel)) hisR ?_
  intro p e s m args below meth c s₁ Bd hml0 hP hK
  obtain ⟨rfl, hZ, hh⟩ := hP
  have hx := Bd.exec
  have hby := Bd.bytes
  have hml : c.maxLocals = 4 := hml0
  have hown : s.vm.findClass "java/lang/Math" = some m.cls := findClass_of_methodNamed Bd.named
  have hnm := (name_of_methodNamed Bd.named Bd.method).1
  have hlk : meth.locks = false := BodyLoose.notSynchronized Bd
  have X0 : Stand p l e ({ frames := 0, cells := 0, slots := 0, locals := 0 } : Room) s m #[(.long q1), (.long q2)] below meth c s₁ [] 0 0 := Stand.of_body Bd
  have e0 : s₁.heap = h0 := by rw [← hh, Bd.state]; rfl
  have P0 : ∀ t, Steps p.tables e below (s₁.setTop (mkF m 0 #[.val (.long q1), .second, .val (.long q2), .second] [])) t → Steps p.tables e below (s₁.setTop (entryFrame m #[(.long q1), (.long q2)] 4)) t := fun t kt => castTop (ef_Min m q1 q2) kt
  have P101 : ∀ t, Steps p.tables e below (s₁.setTop (mkF m 3 #[.val (.long q1), .second, .val (.long q2), .second] [(.int (lcmpW q1 q2))])) t → Steps p.tables e below (s₁.setTop (entryFrame m #[(.long q1), (.long q2)] 4)) t := fun t kt => P0 t (by
    show Steps p.tables e below (s₁.setTop (mkF m 0 #[.val (.long q1), .second, .val (.long q2), .second] [])) _
    refine XS.lloadN X0.here hx rfl (hb hby dMin_0) rfl ?_
    show Steps p.tables e below (s₁.setTop (mkF m 1 #[.val (.long q1), .second, .val (.long q2), .second] [(.long q1)])) _
    refine XS.lloadN X0.here hx rfl (hb hby dMin_1) rfl ?_
    show Steps p.tables e below (s₁.setTop (mkF m 2 #[.val (.long q1), .second, .val (.long q2), .second] [(.long q2), (.long q1)])) _
    refine XS.lcmp X0.here hx rfl (hb hby dMin_2) rfl ?_
    exact kt)
  by_cases hc3_102 : (0 : Int32) < (lcmpW q1 q2)
  · have P103 : ∀ t, Steps p.tables e below (s₁.setTop (mkF m 11 #[.val (.long q1), .second, .val (.long q2), .second] [(.long q2)])) t → Steps p.tables e below (s₁.setTop (entryFrame m #[(.long q1), (.long q2)] 4)) t := fun t kt => P101 t (by
      show Steps p.tables e below (s₁.setTop (mkF m 3 #[.val (.long q1), .second, .val (.long q2), .second] [(.int (lcmpW q1 q2))])) _
      refine XS.ifYes X0.here hx rfl (pc0 := 3) (pc' := 10) rfl (hb hby dMin_3) rfl ((if0 _ _).trans (tlt hc3_102).2.2.1) (by decide) (by decide) ?_
      show Steps p.tables e below (s₁.setTop (mkF m 10 #[.val (.long q1), .second, .val (.long q2), .second] [])) _
      refine XS.lloadN X0.here hx rfl (hb hby dMin_10) rfl ?_
      exact kt)
    obtain ⟨fs, hr, hrun, hended, hW, hsame⟩ := X0.leave (v := some (.long q2)) (fun h => by rw [Bd.returns] at h; cases h) (hlocks := hlk)
    refine ⟨_, _, P103 _ ?_, hrun, hended, _, _, rfl, ?_, ⟨_, rfl⟩, hW, hsame.mono (by decide) (by decide)⟩
    · show Steps p.tables e below (s₁.setTop (mkF m 11 #[.val (.long q1), .second, .val (.long q2), .second] [(.long q2)])) _
      exact X0.lreturnOut hx Bd.returns (hb hby dMin_11) hr
    · show QP _ h0 _ s₁.heap _
      have ev : mnL q1 q2 = q2 := by unfold mnL; rw [if_pos hc3_102]
      rw [ev]
      exact ⟨rfl, rfl, e0⟩
  · have P104 : ∀ t, Steps p.tables e below (s₁.setTop (mkF m 11 #[.val (.long q1), .second, .val (.long q2), .second] [(.long q1)])) t → Steps p.tables e below (s₁.setTop (entryFrame m #[(.long q1), (.long q2)] 4)) t := fun t kt => P101 t (by
      show Steps p.tables e below (s₁.setTop (mkF m 3 #[.val (.long q1), .second, .val (.long q2), .second] [(.int (lcmpW q1 q2))])) _
      refine XS.ifNo X0.here hx rfl (hb hby dMin_3) rfl ((if0 _ _).trans (flt hc3_102).2.2.1) ?_
      show Steps p.tables e below (s₁.setTop (mkF m 6 #[.val (.long q1), .second, .val (.long q2), .second] [])) _
      refine XS.lloadN X0.here hx rfl (hb hby dMin_6) rfl ?_
      show Steps p.tables e below (s₁.setTop (mkF m 7 #[.val (.long q1), .second, .val (.long q2), .second] [(.long q1)])) _
      refine XS.goto X0.here hx rfl (pc0 := 7) (pc' := 11) rfl (hb hby dMin_7) (by decide) (by decide) ?_
      exact kt)
    obtain ⟨fs, hr, hrun, hended, hW, hsame⟩ := X0.leave (v := some (.long q1)) (fun h => by rw [Bd.returns] at h; cases h) (hlocks := hlk)
    refine ⟨_, _, P104 _ ?_, hrun, hended, _, _, rfl, ?_, ⟨_, rfl⟩, hW, hsame.mono (by decide) (by decide)⟩
    · show Steps p.tables e below (s₁.setTop (mkF m 11 #[.val (.long q1), .second, .val (.long q2), .second] [(.long q1)])) _
      exact X0.lreturnOut hx Bd.returns (hb hby dMin_11) hr
    · show QP _ h0 _ s₁.heap _
      have ev : mnL q1 q2 = q1 := by unfold mnL; rw [if_neg hc3_102]
      rw [ev]
      exact ⟨rfl, rfl, e0⟩
theorem dMax_0 : decode jdk_29_method_66_code 0 = .ok (.lload_n 0, 1) := by decide +kernel
theorem dMax_1 : decode jdk_29_method_66_code 1 = .ok (.lload_n 2, 1) := by decide +kernel
theorem dMax_2 : decode jdk_29_method_66_code 2 = .ok (.lcmp, 1) := by decide +kernel
theorem dMax_3 : decode jdk_29_method_66_code 3 = .ok (.ifCond .lt 7, 3) := by decide +kernel
theorem dMax_6 : decode jdk_29_method_66_code 6 = .ok (.lload_n 0, 1) := by decide +kernel
theorem dMax_7 : decode jdk_29_method_66_code 7 = .ok (.goto 4, 3) := by decide +kernel
theorem dMax_10 : decode jdk_29_method_66_code 10 = .ok (.lload_n 2, 1) := by decide +kernel
theorem dMax_11 : decode jdk_29_method_66_code 11 = .ok (.lreturn, 1) := by decide +kernel
theorem ef_Max (m : MethodId) (x0 : Int64) (x1 : Int64) : entryFrame m #[(.long x0), (.long x1)] 4 = mkF m 0 #[.val (.long x0), .second, .val (.long x1), .second] [] := by first | (simp [entryFrame, mkF, argsToLocals, Value.category]; done) | rfl
set_option maxRecDepth 65536 in
set_option maxHeartbeats 40000000 in
theorem rmMax (l : Launch) (Z : State) (a0 : Array Value) (hw : ∀ d ∈ tables_1, d.before a0 Z = true) (ws : List Jvm.Cond) (q1 : Int64) (q2 : Int64) (h0 : Heap) :
    MetFree l (⟨"java/lang/Math", "max", "(JJ)J"⟩ : MethodName) (head1 (Jvm.Cond.code (⟨"java/lang/Math", "max", "(JJ)J"⟩ : MethodName) jdk_29_method_66_code 4 (some .long) :: ws) ({ frames := 0, cells := 0, slots := 0, locals := 0 } : Room)) (fun a U => a = #[(.long q1), (.long q2)] ∧ Z.Warmed39 U.vm ∧ U.heap = h0) (fun _ _ _ _ _ => True) (fun _ U o U' => ∃ v L, o = .returned v ∧ QP (some (.long (mxL q1 q2))) h0 v U'.heap L ∧ FrameEnd U o U' L ({ frames := 0, cells := 0, slots := 0, locals := 0 } : Room).cells ({ frames := 0, cells := 0, slots := 0, locals := 0 } : Room).slots) := by
  refine MetFree.of_bodySF (Jvm.Free.JP.mathPlain rfl (by decide +kernel)) hisR ?_
  intro p e s m args below meth c s₁ Bd hml0 hP hK
  obtain ⟨rfl, hZ, hh⟩ := hP
  have hx := Bd.exec
  have hby := Bd.bytes
  have hml : c.maxLocals = 4 := hml0
  have hown : s.vm.findClass "java/lang/Math" = some m.cls := findClass_of_methodNamed Bd.named
  have hnm := (name_of_methodNamed Bd.named Bd.method).1
  have hlk : meth.locks = false := BodyLoose.notSynchronized Bd
  have X0 : Stand p l e ({ frames := 0, cells := 0, slots := 0, locals := 0 } : Room) s m #[(.long q1), (.long q2)] below meth c s₁ [] 0 0 := Stand.of_body Bd
  have e0 : s₁.heap = h0 := by rw [← hh, Bd.state]; rfl
  have P0 : ∀ t, Steps p.tables e below (s₁.setTop (mkF m 0 #[.val (.long q1), .second, .val (.long q2), .second] [])) t → Steps p.tables e below (s₁.setTop (entryFrame m #[(.long q1), (.long q2)] 4)) t := fun t kt => castTop (ef_Max m q1 q2) kt
  have P101 : ∀ t, Steps p.tables e below (s₁.setTop (mkF m 3 #[.val (.long q1), .second, .val (.long q2), .second] [(.int (lcmpW q1 q2))])) t → Steps p.tables e below (s₁.setTop (entryFrame m #[(.long q1), (.long q2)] 4)) t := fun t kt => P0 t (by
    show Steps p.tables e below (s₁.setTop (mkF m 0 #[.val (.long q1), .second, .val (.long q2), .second] [])) _
    refine XS.lloadN X0.here hx rfl (hb hby dMax_0) rfl ?_
    show Steps p.tables e below (s₁.setTop (mkF m 1 #[.val (.long q1), .second, .val (.long q2), .second] [(.long q1)])) _
    refine XS.lloadN X0.here hx rfl (hb hby dMax_1) rfl ?_
    show Steps p.tables e below (s₁.setTop (mkF m 2 #[.val (.long q1), .second, .val (.long q2), .second] [(.long q2), (.long q1)])) _
    refine XS.lcmp X0.here hx rfl (hb hby dMax_2) rfl ?_
    exact kt)
  by_cases hc3_102 : (lcmpW q1 q2) < (0 : Int32)
  · have P103 : ∀ t, Steps p.tables e below (s₁.setTop (mkF m 11 #[.val (.long q1), .second, .val (.long q2), .second] [(.long q2)])) t → Steps p.tables e below (s₁.setTop (entryFrame m #[(.long q1), (.long q2)] 4)) t := fun t kt => P101 t (by
      show Steps p.tables e below (s₁.setTop (mkF m 3 #[.val (.long q1), .second, .val (.long q2), .second] [(.int (lcmpW q1 q2))])) _
      refine XS.ifYes X0.here hx rfl (pc0 := 3) (pc' := 10) rfl (hb hby dMax_3) rfl ((if0 _ _).trans (tlt hc3_102).1) (by decide) (by decide) ?_
      show Steps p.tables e below (s₁.setTop (mkF m 10 #[.val (.long q1), .second, .val (.long q2), .second] [])) _
      refine XS.lloadN X0.here hx rfl (hb hby dMax_10) rfl ?_
      exact kt)
    obtain ⟨fs, hr, hrun, hended, hW, hsame⟩ := X0.leave (v := some (.long q2)) (fun h => by rw [Bd.returns] at h; cases h) (hlocks := hlk)
    refine ⟨_, _, P103 _ ?_, hrun, hended, _, _, rfl, ?_, ⟨_, rfl⟩, hW, hsame.mono (by decide) (by decide)⟩
    · show Steps p.tables e below (s₁.setTop (mkF m 11 #[.val (.long q1), .second, .val (.long q2), .second] [(.long q2)])) _
      exact X0.lreturnOut hx Bd.returns (hb hby dMax_11) hr
    · show QP _ h0 _ s₁.heap _
      have ev : mxL q1 q2 = q2 := by unfold mxL; rw [if_pos hc3_102]
      rw [ev]
      exact ⟨rfl, rfl, e0⟩
  · have P104 : ∀ t, Steps p.tables e below (s₁.setTop (mkF m 11 #[.val (.long q1), .second, .val (.long q2), .second] [(.long q1)])) t → Steps p.tables e below (s₁.setTop (entryFrame m #[(.long q1), (.long q2)] 4)) t := fun t kt => P101 t (by
      show Steps p.tables e below (s₁.setTop (mkF m 3 #[.val (.long q1), .second, .val (.long q2), .second] [(.int (lcmpW q1 q2))])) _
      refine XS.ifNo X0.here hx rfl (hb hby dMax_3) rfl ((if0 _ _).trans (flt hc3_102).1) ?_
      show Steps p.tables e below (s₁.setTop (mkF m 6 #[.val (.long q1), .second, .val (.long q2), .second] [])) _
      refine XS.lloadN X0.here hx rfl (hb hby dMax_6) rfl ?_
      show Steps p.tables e below (s₁.setTop (mkF m 7 #[.val (.long q1), .second, .val (.long q2), .second] [(.long q1)])) _
      refine XS.goto X0.here hx rfl (pc0 := 7) (pc' := 11) rfl (hb hby dMax_7) (by decide) (by decide) ?_
      exact kt)
    obtain ⟨fs, hr, hrun, hended, hW, hsame⟩ := X0.leave (v := some (.long q1)) (fun h => by rw [Bd.returns] at h; cases h) (hlocks := hlk)
    refine ⟨_, _, P104 _ ?_, hrun, hended, _, _, rfl, ?_, ⟨_, rfl⟩, hW, hsame.mono (by decide) (by decide)⟩
    · show Steps p.tables e below (s₁.setTop (mkF m 11 #[.val (.long q1), .second, .val (.long q2), .second] [(.long q1)])) _
      exact X0.lreturnOut hx Bd.returns (hb hby dMax_11) hr
    · show QP _ h0 _ s₁.heap _
      have ev : mxL q1 q2 = q1 := by unfold mxL; rw [if_neg hc3_102]
      rw [ev]
      exact ⟨rfl, rfl, e0⟩
theorem dR_0 : decode jdk_30_method_1_code 0 = .ok (.aload_n 0, 1) := by decide +kernel
theorem dR_1 : decode jdk_30_method_1_code 1 = .ok (.invokespecial 1, 3) := by decide +kernel
theorem dR_4 : decode jdk_30_method_1_code 4 = .ok (.return_, 1) := by decide +kernel
theorem ef_R (m : MethodId) (x0 : Addr) : entryFrame m #[(.ref x0)] 1 = mkF m 0 #[.val (.ref x0)] [] := by first | (simp [entryFrame, mkF, argsToLocals, Value.category]; done) | rfl
set_option maxRecDepth 65536 in
set_option maxHeartbeats 40000000 in
theorem rmR (l : Launch) (Z : State) (a0 : Array Value) (hw : ∀ d ∈ tables_1, d.before a0 Z = true) (ws : List Jvm.Cond) (a1 : Addr) (h0 : Heap) :
    MetFree l (⟨"java/lang/Record", "<init>", "()V"⟩ : MethodName) (head1 (Jvm.Cond.code (⟨"java/lang/Record", "<init>", "()V"⟩ : MethodName) jdk_30_method_1_code 1 none :: ws) ({ frames := 1, cells := 0, slots := 0, locals := 12 } : Room)) (fun a U => a = #[(.ref a1)] ∧ Z.Warmed39 U.vm ∧ U.heap = h0) (fun _ _ _ _ _ => True) (fun _ U o U' => ∃ v L, o = .returned v ∧ QP none h0 v U'.heap L ∧ FrameEnd U o U' L ({ frames := 1, cells := 0, slots := 0, locals := 12 } : Room).cells ({ frames := 1, cells := 0, slots := 0, locals := 12 } : Room).slots) := by
  refine MetFree.of_bodySF (plainFor_of_name (by first | (simp [plainName, overriddenIn]; done) | decide +kernel)) hisR ?_
  intro p e s m args below meth c s₁ Bd hml0 hP hK
  obtain ⟨rfl, hZ, hh⟩ := hP
  have hx := Bd.exec
  have hby := Bd.bytes
  have hml : c.maxLocals = 1 := hml0
  have hown : s.vm.findClass "java/lang/Record" = some m.cls := findClass_of_methodNamed Bd.named
  have hnm := (name_of_methodNamed Bd.named Bd.method).1
  have hlk : meth.locks = false := BodyLoose.notSynchronized Bd
  have X0 : Stand p l e ({ frames := 1, cells := 0, slots := 0, locals := 12 } : Room) s m #[(.ref a1)] below meth c s₁ [] 0 0 := Stand.of_body Bd
  have e0 : s₁.heap = h0 := by rw [← hh, Bd.state]; rfl
  have P0 : ∀ t, Steps p.tables e below (s₁.setTop (mkF m 0 #[.val (.ref a1)] [])) t → Steps p.tables e below (s₁.setTop (entryFrame m #[(.ref a1)] 1)) t := fun t kt => castTop (ef_R m a1) kt
  obtain ⟨T101, X101, e101, st101⟩ := initO X0 hx hZ hown (hw _ (List.mem_of_getElem? (i := 18) rfl)) (hw _ (List.mem_of_getElem? (i := 19) rfl)) (hw _ (List.mem_of_getElem? (i := 20) rfl)) e0 (g := (mkF m 1 #[.val (.ref a1)] [(.ref a1)])) rfl (by rw [hml]; rfl) rfl (hb hby dR_1) (by decide) (W := 0) (by show 2 * 0 + _ ≤ _; exact Nat.le_of_eq rfl) (by decide)
  have P102 : ∀ t, Steps p.tables e below (T101.setTop (mkF m 4 #[.val (.ref a1)] [])) t → Steps p.tables e below (s₁.setTop (entryFrame m #[(.ref a1)] 1)) t := fun t kt => P0 t (by
    show Steps p.tables e below (s₁.setTop (mkF m 0 #[.val (.ref a1)] [])) _
    refine XS.aloadN X0.here hx rfl (hb hby dR_0) rfl rfl ?_
    show Steps p.tables e below (s₁.setTop (mkF m 1 #[.val (.ref a1)] [(.ref a1)])) _
    refine st101 _ ?_
    exact kt)
  obtain ⟨fs, hr, hrun, hended, hW, hsame⟩ := X101.leave (v := none) (fun _ => rfl) (hlocks := hlk)
  refine ⟨_, _, P102 _ ?_, hrun, hended, _, _, rfl, ?_, ⟨_, rfl⟩, hW, hsame.mono (by decide) (by decide)⟩
  · show Steps p.tables e below (T101.setTop (mkF m 4 #[.val (.ref a1)] [])) _
    exact X101.returnOut hx Bd.returns (hb hby dR_4) hr
  · show QP _ h0 _ T101.heap _
    exact ⟨rfl, rfl, e101⟩
theorem dI_0 : decode prog_14_method_1_code 0 = .ok (.aload_n 0, 1) := by decide +kernel
theorem dI_1 : decode prog_14_method_1_code 1 = .ok (.invokespecial 1, 3) := by decide +kernel
theorem dI_4 : decode prog_14_method_1_code 4 = .ok (.lload_n 1, 1) := by decide +kernel
theorem dI_5 : decode prog_14_method_1_code 5 = .ok (.lload_n 3, 1) := by decide +kernel
theorem dI_6 : decode prog_14_method_1_code 6 = .ok (.lcmp, 1) := by decide +kernel
theorem dI_7 : decode prog_14_method_1_code 7 = .ok (.ifCond .le 18, 3) := by decide +kernel
theorem dI_25 : decode prog_14_method_1_code 25 = .ok (.aload_n 0, 1) := by decide +kernel
theorem dI_26 : decode prog_14_method_1_code 26 = .ok (.lload_n 1, 1) := by decide +kernel
theorem dI_27 : decode prog_14_method_1_code 27 = .ok (.putfield 16, 3) := by decide +kernel
theorem dI_30 : decode prog_14_method_1_code 30 = .ok (.aload_n 0, 1) := by decide +kernel
theorem dI_31 : decode prog_14_method_1_code 31 = .ok (.lload_n 3, 1) := by decide +kernel
theorem dI_32 : decode prog_14_method_1_code 32 = .ok (.putfield 22, 3) := by decide +kernel
theorem dI_35 : decode prog_14_method_1_code 35 = .ok (.return_, 1) := by decide +kernel
theorem ef_I (m : MethodId) (x0 : Addr) (x1 : Int64) (x2 : Int64) : entryFrame m #[(.ref x0), (.long x1), (.long x2)] 5 = mkF m 0 #[.val (.ref x0), .val (.long x1), .second, .val (.long x2), .second] [] := by first | (simp [entryFrame, mkF, argsToLocals, Value.category]; done) | rfl
set_option maxRecDepth 65536 in
set_option maxHeartbeats 40000000 in
theorem rmI (l : Launch) (Z : State) (a0 : Array Value) (hw : ∀ d ∈ tables_1, d.before a0 Z = true) (ws : List Jvm.Cond) (a1 : Addr) (q1 : Int64) (q2 : Int64) (h0 : Heap) (n0 : Nat) (Z0 : n0 ≤ h0.size) (E1 : Exa Z h0 a1 "com/example/probex/probex/count/InputRange") (Fl : Fld Z h0 a1 "com/example/probex/probex/count/InputRange" "low" "J" (.long (0 : Int64))) (Fh : Fld Z h0 a1 "com/example/probex/probex/count/InputRange" "high" "J" (.long (0 : Int64))) (ga : n0 ≤ a1) (hle : ¬ ((0 : Int32) < (lcmpW q1 q2))) :
    MetFree l (⟨"com/example/probex/probex/count/InputRange", "<init>", "(JJ)V"⟩ : MethodName) (head1 (Jvm.Cond.code (⟨"com/example/probex/probex/count/InputRange", "<init>", "(JJ)V"⟩ : MethodName) prog_14_method_1_code 5 none :: ws) ({ frames := 2, cells := 0, slots := 0, locals := 24 } : Room)) (fun a U => a = #[(.ref a1), (.long q1), (.long q2)] ∧ Z.Warmed39 U.vm ∧ U.heap = h0) (fun _ _ _ _ _ => True) (fun _ U o U' => ∃ v L, o = .returned v ∧ QI Z a1 q1 q2 h0 n0 v U'.heap L ∧ FrameEnd U o U' L ({ frames := 2, cells := 0, slots := 0, locals := 24 } : Room).cells ({ frames := 2, cells := 0, slots := 0, locals := 24 } : Room).slots) := by
  refine MetFree.of_bodySF (plainFor_of_name (by first | (simp [plainName, overriddenIn]; done) | decide +kernel)) hisR ?_
  intro p e s m args below meth c s₁ Bd hml0 hP hK
  obtain ⟨rfl, hZ, hh⟩ := hP
  have hx := Bd.exec
  have hby := Bd.bytes
  have hml : c.maxLocals = 5 := hml0
  have hown : s.vm.findClass "com/example/probex/probex/count/InputRange" = some m.cls := findClass_of_methodNamed Bd.named
  have hnm := (name_of_methodNamed Bd.named Bd.method).1
  have hlk : meth.locks = false := BodyLoose.notSynchronized Bd
  have X0 : Stand p l e ({ frames := 2, cells := 0, slots := 0, locals := 24 } : Room) s m #[(.ref a1), (.long q1), (.long q2)] below meth c s₁ [] 0 0 := Stand.of_body Bd
  have e0 : s₁.heap = h0 := by rw [← hh, Bd.state]; rfl
  have P0 : ∀ t, Steps p.tables e below (s₁.setTop (mkF m 0 #[.val (.ref a1), .val (.long q1), .second, .val (.long q2), .second] [])) t → Steps p.tables e below (s₁.setTop (entryFrame m #[(.ref a1), (.long q1), (.long q2)] 5)) t := fun t kt => castTop (ef_I m a1 q1 q2) kt
  have N0 := Fr.nil n0
  have K0 := Keep.refl h0 [a1]
  obtain ⟨_, _, ⟨T101, L101, k101, n101⟩, -, X101, ⟨Lc101, hQ101, l101, y101, z101⟩, st101⟩ := X0.specialBack hx (y := (⟨"java/lang/Record", "<init>", "()V"⟩ : MethodName)) rfl hown (mvT hZ (hw _ (List.mem_of_getElem? (i := 13) rfl))) (mvT hZ (hw _ (List.mem_of_getElem? (i := 14) rfl))) (mvT hZ (hw _ (List.mem_of_getElem? (i := 17) rfl))) (by decide) (backOf (W := 0)  (rmR l Z a0 hw [] a1 h0) hZ (hw _ (List.mem_of_getElem? (i := 17) rfl)) (hw _ (List.mem_of_getElem? (i := 16) rfl)) (by decide) (by decide)) (g := (mkF m 1 #[.val (.ref a1), .val (.long q1), .second, .val (.long q2), .second] [(.ref a1)])) rfl (by rw [hml]; rfl) (Steps.refl _) (a := a1) (argsL := []) (rest := []) (lenOf pd___V rfl) rfl (by show 2 * 0 + _ ≤ _; exact Nat.le_of_eq rfl) (hb hby dI_1) (fun _ _ => ⟨rfl, e0, (by decide : 0 + 0 ≤ _), (by decide : 0 + 0 ≤ _)⟩)
  dsimp only [Pt.U, Pt.locs, Pt.cells, Pt.slots] at X101 l101 y101 z101 st101 hQ101
  subst l101 y101 z101
  obtain ⟨rfl, rfl, e101⟩ := hQ101
  have N101 := Fr.app N0 (Fr.nil n0)
  obtain ⟨T102, h102, X102, e102, W102, st102⟩ := putF X101 hx hZ hown (host := "") (Or.inl (hw _ (List.mem_of_getElem? (i := 21) rfl))) Via.refl e101 Fl E1 (Or.inr ⟨(hw _ (List.mem_of_getElem? (i := 22) rfl)), rfl, hnm⟩) (hw _ (List.mem_of_getElem? (i := 8) rfl)) (ty := .long) (by decide) rfl rfl (g := (mkF m 27 #[.val (.ref a1), .val (.long q1), .second, .val (.long q2), .second] [(.long q1), (.ref a1)])) rfl rfl (hb hby dI_27)
  have f103 := E1.wr W102
  have f104 := Fh.other W102 (Or.inr (slot_ne (Or.inr (hw _ (List.mem_of_getElem? (i := 24) rfl))) (Or.inr (hw _ (List.mem_of_getElem? (i := 22) rfl))) (by decide) (t := .long) (t' := .long) (by decide) (by decide)))
  have F102 := Fl.same W102
  have N102 := Fr.snoc X102 N101 ga
  have sz102 : n0 ≤ h102.size := Nat.le_trans Z0 (Keep.of_wr W102).1
  have K102 : Keep h0 h102 [a1] := K0.wr W102 (Or.inl (List.mem_of_getElem? (i := 0) rfl))
  obtain ⟨T105, h105, X105, e105, W105, st105⟩ := putF X102 hx hZ hown (host := "") (Or.inl (hw _ (List.mem_of_getElem? (i := 23) rfl))) Via.refl e102 f104 f103 (Or.inr ⟨(hw _ (List.mem_of_getElem? (i := 24) rfl)), rfl, hnm⟩) (hw _ (List.mem_of_getElem? (i := 8) rfl)) (ty := .long) (by decide) rfl rfl (g := (mkF m 32 #[.val (.ref a1), .val (.long q1), .second, .val (.long q2), .second] [(.long q2), (.ref a1)])) rfl rfl (hb hby dI_32)
  have f106 := f103.wr W105
  have f107 := F102.other W105 (Or.inr (slot_ne (Or.inr (hw _ (List.mem_of_getElem? (i := 22) rfl))) (Or.inr (hw _ (List.mem_of_getElem? (i := 24) rfl))) (by decide) (t := .long) (t' := .long) (by decide) (by decide)))
  have F105 := f104.same W105
  have N105 := Fr.snoc X105 N102 ga
  have sz105 : n0 ≤ h105.size := Nat.le_trans sz102 (Keep.of_wr W105).1
  have K105 : Keep h0 h105 [a1] := K102.wr W105 (Or.inl (List.mem_of_getElem? (i := 0) rfl))
  have P108 : ∀ t, Steps p.tables e below (T105.setTop (mkF m 35 #[.val (.ref a1), .val (.long q1), .second, .val (.long q2), .second] [])) t → Steps p.tables e below (s₁.setTop (entryFrame m #[(.ref a1), (.long q1), (.long q2)] 5)) t := fun t kt => P0 t (by
    show Steps p.tables e below (s₁.setTop (mkF m 0 #[.val (.ref a1), .val (.long q1), .second, .val (.long q2), .second] [])) _
    refine XS.aloadN X0.here hx rfl (hb hby dI_0) rfl rfl ?_
    show Steps p.tables e below (s₁.setTop (mkF m 1 #[.val (.ref a1), .val (.long q1), .second, .val (.long q2), .second] [(.ref a1)])) _
    refine st101.trans ?_
    show Steps p.tables e below (T101.setTop (mkF m 4 #[.val (.ref a1), .val (.long q1), .second, .val (.long q2), .second] [])) _
    refine XS.lloadN X101.here hx rfl (hb hby dI_4) rfl ?_
    show Steps p.tables e below (T101.setTop (mkF m 5 #[.val (.ref a1), .val (.long q1), .second, .val (.long q2), .second] [(.long q1)])) _
    refine XS.lloadN X101.here hx rfl (hb hby dI_5) rfl ?_
    show Steps p.tables e below (T101.setTop (mkF m 6 #[.val (.ref a1), .val (.long q1), .second, .val (.long q2), .second] [(.long q2), (.long q1)])) _
    refine XS.lcmp X101.here hx rfl (hb hby dI_6) rfl ?_
    show Steps p.tables e below (T101.setTop (mkF m 7 #[.val (.ref a1), .val (.long q1), .second, .val (.long q2), .second] [(.int (lcmpW q1 q2))])) _
    refine XS.ifYes X101.here hx rfl (pc0 := 7) (pc' := 25) rfl (hb hby dI_7) rfl ((if0 _ _).trans (flt (hle : ¬ ((0 : Int32) < (lcmpW q1 q2)))).2.2.2) (by decide) (by decide) ?_
    show Steps p.tables e below (T101.setTop (mkF m 25 #[.val (.ref a1), .val (.long q1), .second, .val (.long q2), .second] [])) _
    refine XS.aloadN X101.here hx rfl (hb hby dI_25) rfl rfl ?_
    show Steps p.tables e below (T101.setTop (mkF m 26 #[.val (.ref a1), .val (.long q1), .second, .val (.long q2), .second] [(.ref a1)])) _
    refine XS.lloadN X101.here hx rfl (hb hby dI_26) rfl ?_
    show Steps p.tables e below (T101.setTop (mkF m 27 #[.val (.ref a1), .val (.long q1), .second, .val (.long q2), .second] [(.long q1), (.ref a1)])) _
    refine st102 _ ?_
    show Steps p.tables e below (T102.setTop (mkF m 30 #[.val (.ref a1), .val (.long q1), .second, .val (.long q2), .second] [])) _
    refine XS.aloadN X102.here hx rfl (hb hby dI_30) rfl rfl ?_
    show Steps p.tables e below (T102.setTop (mkF m 31 #[.val (.ref a1), .val (.long q1), .second, .val (.long q2), .second] [(.ref a1)])) _
    refine XS.lloadN X102.here hx rfl (hb hby dI_31) rfl ?_
    show Steps p.tables e below (T102.setTop (mkF m 32 #[.val (.ref a1), .val (.long q1), .second, .val (.long q2), .second] [(.long q2), (.ref a1)])) _
    refine st105 _ ?_
    exact kt)
  obtain ⟨fs, hr, hrun, hended, hW, hsame⟩ := X105.leave (v := none) (fun _ => rfl) (hlocks := hlk)
  refine ⟨_, _, P108 _ ?_, hrun, hended, _, _, rfl, ?_, ⟨_, rfl⟩, hW, hsame.mono (by decide) (by decide)⟩
  · show Steps p.tables e below (T105.setTop (mkF m 35 #[.val (.ref a1), .val (.long q1), .second, .val (.long q2), .second] [])) _
    exact X105.returnOut hx Bd.returns (hb hby dI_35) hr
  · show QI Z a1 q1 q2 h0 n0 _ T105.heap _
    rw [e105]
    exact ⟨rfl, N105, K105, f106, f107, F105⟩
theorem dV_0 : decode prog_14_method_2_code 0 = .ok (.aload_n 0, 1) := by decide +kernel
theorem dV_1 : decode prog_14_method_2_code 1 = .ok (.getfield 16, 3) := by decide +kernel
theorem dV_4 : decode prog_14_method_2_code 4 = .ok (.aload_n 1, 1) := by decide +kernel
theorem dV_5 : decode prog_14_method_2_code 5 = .ok (.getfield 16, 3) := by decide +kernel
theorem dV_8 : decode prog_14_method_2_code 8 = .ok (.lcmp, 1) := by decide +kernel
theorem dV_9 : decode prog_14_method_2_code 9 = .ok (.ifCond .gt 19, 3) := by decide +kernel
theorem dV_12 : decode prog_14_method_2_code 12 = .ok (.aload_n 1, 1) := by decide +kernel
theorem dV_13 : decode prog_14_method_2_code 13 = .ok (.getfield 22, 3) := by decide +kernel
theorem dV_16 : decode prog_14_method_2_code 16 = .ok (.aload_n 0, 1) := by decide +kernel
theorem dV_17 : decode prog_14_method_2_code 17 = .ok (.getfield 22, 3) := by decide +kernel
theorem dV_20 : decode prog_14_method_2_code 20 = .ok (.lcmp, 1) := by decide +kernel
theorem dV_21 : decode prog_14_method_2_code 21 = .ok (.ifCond .gt 7, 3) := by decide +kernel
theorem dV_24 : decode prog_14_method_2_code 24 = .ok (.iconst 1, 1) := by decide +kernel
theorem dV_25 : decode prog_14_method_2_code 25 = .ok (.goto 4, 3) := by decide +kernel
theorem dV_28 : decode prog_14_method_2_code 28 = .ok (.iconst 0, 1) := by decide +kernel
theorem dV_29 : decode prog_14_method_2_code 29 = .ok (.ireturn, 1) := by decide +kernel
theorem ef_V (m : MethodId) (x0 : Addr) (x1 : Addr) : entryFrame m #[(.ref x0), (.ref x1)] 2 = mkF m 0 #[.val (.ref x0), .val (.ref x1)] [] := by first | (simp [entryFrame, mkF, argsToLocals, Value.category]; done) | rfl
set_option maxRecDepth 65536 in
set_option maxHeartbeats 40000000 in
theorem rmV (l : Launch) (Z : State) (a0 : Array Value) (hw : ∀ d ∈ tables_1, d.before a0 Z = true) (ws : List Jvm.Cond) (a1 : Addr) (a2 : Addr) (q3 : Int64) (q4 : Int64) (q5 : Int64) (q6 : Int64) (h0 : Heap) (F1 : Fld Z h0 a1 "com/example/probex/probex/count/InputRange" "low" "J" (.long q3)) (F2 : Fld Z h0 a1 "com/example/probex/probex/count/InputRange" "high" "J" (.long q4)) (F3 : Fld Z h0 a2 "com/example/probex/probex/count/InputRange" "low" "J" (.long q5)) (F4 : Fld Z h0 a2 "com/example/probex/probex/count/InputRange" "high" "J" (.long q6)) :
    MetFree l (⟨"com/example/probex/probex/count/InputRange", "covers", "(Lcom/example/probex/probex/count/InputRange;)Z"⟩ : MethodName) (head1 (Jvm.Cond.code (⟨"com/example/probex/probex/count/InputRange", "covers", "(Lcom/example/probex/probex/count/InputRange;)Z"⟩ : MethodName) prog_14_method_2_code 2 (some .boolean) :: ws) ({ frames := 0, cells := 0, slots := 0, locals := 0 } : Room)) (fun a U => a = #[(.ref a1), (.ref a2)] ∧ Z.Warmed39 U.vm ∧ U.heap = h0) (fun _ _ _ _ _ => True) (fun _ U o U' => ∃ v L, o = .returned v ∧ QP (some (.int (cvL q3 q4 q5 q6))) h0 v U'.heap L ∧ FrameEnd U o U' L ({ frames := 0, cells := 0, slots := 0, locals := 0 } : Room).cells ({ frames := 0, cells := 0, slots := 0, locals := 0 } : Room).slots) := by
  refine MetFree.of_bodySF (plainFor_of_name (by first | (simp [plainName, overriddenIn]; done) | decide +kernel)) hisR ?_
  intro p e s m args below meth c s₁ Bd hml0 hP hK
  obtain ⟨rfl, hZ, hh⟩ := hP
  have hx := Bd.exec
  have hby := Bd.bytes
  have hml : c.maxLocals = 2 := hml0
  have hown : s.vm.findClass "com/example/probex/probex/count/InputRange" = some m.cls := findClass_of_methodNamed Bd.named
  have hnm := (name_of_methodNamed Bd.named Bd.method).1
  have hlk : meth.locks = false := BodyLoose.notSynchronized Bd
  have X0 : Stand p l e ({ frames := 0, cells := 0, slots := 0, locals := 0 } : Room) s m #[(.ref a1), (.ref a2)] below meth c s₁ [] 0 0 := Stand.of_body Bd
  have e0 : s₁.heap = h0 := by rw [← hh, Bd.state]; rfl
  have P0 : ∀ t, Steps p.tables e below (s₁.setTop (mkF m 0 #[.val (.ref a1), .val (.ref a2)] [])) t → Steps p.tables e below (s₁.setTop (entryFrame m #[(.ref a1), (.ref a2)] 2)) t := fun t kt => castTop (ef_V m a1 a2) kt
  obtain ⟨T101, X101, e101, st101⟩ := getF X0 hx hZ hown (host := "") (Or.inl (hw _ (List.mem_of_getElem? (i := 21) rfl))) Via.refl e0 F1 (g := (mkF m 1 #[.val (.ref a1), .val (.ref a2)] [(.ref a1)])) rfl rfl (hb hby dV_1)
  obtain ⟨T102, X102, e102, st102⟩ := getF X101 hx hZ hown (host := "") (Or.inl (hw _ (List.mem_of_getElem? (i := 21) rfl))) Via.refl e101 F3 (g := (mkF m 5 #[.val (.ref a1), .val (.ref a2)] [(.ref a2), (.long q3)])) rfl rfl (hb hby dV_5)
  have P103 : ∀ t, Steps p.tables e below (T102.setTop (mkF m 9 #[.val (.ref a1), .val (.ref a2)] [(.int (lcmpW q3 q5))])) t → Steps p.tables e below (s₁.setTop (entryFrame m #[(.ref a1), (.ref a2)] 2)) t := fun t kt => P0 t (by
    show Steps p.tables e below (s₁.setTop (mkF m 0 #[.val (.ref a1), .val (.ref a2)] [])) _
    refine XS.aloadN X0.here hx rfl (hb hby dV_0) rfl rfl ?_
    show Steps p.tables e below (s₁.setTop (mkF m 1 #[.val (.ref a1), .val (.ref a2)] [(.ref a1)])) _
    refine st101 _ ?_
    show Steps p.tables e below (T101.setTop (mkF m 4 #[.val (.ref a1), .val (.ref a2)] [(.long q3)])) _
    refine XS.aloadN X101.here hx rfl (hb hby dV_4) rfl rfl ?_
    show Steps p.tables e below (T101.setTop (mkF m 5 #[.val (.ref a1), .val (.ref a2)] [(.ref a2), (.long q3)])) _
    refine st102 _ ?_
    show Steps p.tables e below (T102.setTop (mkF m 8 #[.val (.ref a1), .val (.ref a2)] [(.long q5), (.long q3)])) _
    refine XS.lcmp X102.here hx rfl (hb hby dV_8) rfl ?_
    exact kt)
  by_cases hc9_104 : (0 : Int32) < (lcmpW q3 q5)
  · have P105 : ∀ t, Steps p.tables e below (T102.setTop (mkF m 29 #[.val (.ref a1), .val (.ref a2)] [(.int (0 : Int32))])) t → Steps p.tables e below (s₁.setTop (entryFrame m #[(.ref a1), (.ref a2)] 2)) t := fun t kt => P103 t (by
      show Steps p.tables e below (T102.setTop (mkF m 9 #[.val (.ref a1), .val (.ref a2)] [(.int (lcmpW q3 q5))])) _
      refine XS.ifYes X102.here hx rfl (pc0 := 9) (pc' := 28) rfl (hb hby dV_9) rfl ((if0 _ _).trans (tlt hc9_104).2.2.1) (by decide) (by decide) ?_
      show Steps p.tables e below (T102.setTop (mkF m 28 #[.val (.ref a1), .val (.ref a2)] [])) _
      refine XS.iconst X102.here hx rfl (hb hby dV_28) ?_
      exact kt)
    obtain ⟨fs, hr, hrun, hended, hW, hsame⟩ := X102.leave (v := some (.int (0 : Int32))) (fun h => by rw [Bd.returns] at h; cases h) (hlocks := hlk)
    refine ⟨_, _, P105 _ ?_, hrun, hended, _, _, rfl, ?_, ⟨_, rfl⟩, hW, hsame.mono (by decide) (by decide)⟩
    · show Steps p.tables e below (T102.setTop (mkF m 29 #[.val (.ref a1), .val (.ref a2)] [(.int (0 : Int32))])) _
      exact retN X102 hx (t := .boolean) Bd.returns (by simp) (hb hby dV_29) hr
    · show QP _ h0 _ T102.heap _
      have ev : cvL q3 q4 q5 q6 = (0 : Int32) := by unfold cvL; rw [if_pos hc9_104]
      rw [ev]
      exact ⟨rfl, rfl, e102⟩
  · obtain ⟨T106, X106, e106, st106⟩ := getF X102 hx hZ hown (host := "") (Or.inl (hw _ (List.mem_of_getElem? (i := 23) rfl))) Via.refl e102 F4 (g := (mkF m 13 #[.val (.ref a1), .val (.ref a2)] [(.ref a2)])) rfl rfl (hb hby dV_13)
    obtain ⟨T107, X107, e107, st107⟩ := getF X106 hx hZ hown (host := "") (Or.inl (hw _ (List.mem_of_getElem? (i := 23) rfl))) Via.refl e106 F2 (g := (mkF m 17 #[.val (.ref a1), .val (.ref a2)] [(.ref a1), (.long q6)])) rfl rfl (hb hby dV_17)
    have P108 : ∀ t, Steps p.tables e below (T107.setTop (mkF m 21 #[.val (.ref a1), .val (.ref a2)] [(.int (lcmpW q6 q4))])) t → Steps p.tables e below (s₁.setTop (entryFrame m #[(.ref a1), (.ref a2)] 2)) t := fun t kt => P103 t (by
      show Steps p.tables e below (T102.setTop (mkF m 9 #[.val (.ref a1), .val (.ref a2)] [(.int (lcmpW q3 q5))])) _
      refine XS.ifNo X102.here hx rfl (hb hby dV_9) rfl ((if0 _ _).trans (flt hc9_104).2.2.1) ?_
      show Steps p.tables e below (T102.setTop (mkF m 12 #[.val (.ref a1), .val (.ref a2)] [])) _
      refine XS.aloadN X102.here hx rfl (hb hby dV_12) rfl rfl ?_
      show Steps p.tables e below (T102.setTop (mkF m 13 #[.val (.ref a1), .val (.ref a2)] [(.ref a2)])) _
      refine st106 _ ?_
      show Steps p.tables e below (T106.setTop (mkF m 16 #[.val (.ref a1), .val (.ref a2)] [(.long q6)])) _
      refine XS.aloadN X106.here hx rfl (hb hby dV_16) rfl rfl ?_
      show Steps p.tables e below (T106.setTop (mkF m 17 #[.val (.ref a1), .val (.ref a2)] [(.ref a1), (.long q6)])) _
      refine st107 _ ?_
      show Steps p.tables e below (T107.setTop (mkF m 20 #[.val (.ref a1), .val (.ref a2)] [(.long q4), (.long q6)])) _
      refine XS.lcmp X107.here hx rfl (hb hby dV_20) rfl ?_
      exact kt)
    by_cases hc21_109 : (0 : Int32) < (lcmpW q6 q4)
    · have P110 : ∀ t, Steps p.tables e below (T107.setTop (mkF m 29 #[.val (.ref a1), .val (.ref a2)] [(.int (0 : Int32))])) t → Steps p.tables e below (s₁.setTop (entryFrame m #[(.ref a1), (.ref a2)] 2)) t := fun t kt => P108 t (by
        show Steps p.tables e below (T107.setTop (mkF m 21 #[.val (.ref a1), .val (.ref a2)] [(.int (lcmpW q6 q4))])) _
        refine XS.ifYes X107.here hx rfl (pc0 := 21) (pc' := 28) rfl (hb hby dV_21) rfl ((if0 _ _).trans (tlt hc21_109).2.2.1) (by decide) (by decide) ?_
        show Steps p.tables e below (T107.setTop (mkF m 28 #[.val (.ref a1), .val (.ref a2)] [])) _
        refine XS.iconst X107.here hx rfl (hb hby dV_28) ?_
        exact kt)
      obtain ⟨fs, hr, hrun, hended, hW, hsame⟩ := X107.leave (v := some (.int (0 : Int32))) (fun h => by rw [Bd.returns] at h; cases h) (hlocks := hlk)
      refine ⟨_, _, P110 _ ?_, hrun, hended, _, _, rfl, ?_, ⟨_, rfl⟩, hW, hsame.mono (by decide) (by decide)⟩
      · show Steps p.tables e below (T107.setTop (mkF m 29 #[.val (.ref a1), .val (.ref a2)] [(.int (0 : Int32))])) _
        exact retN X107 hx (t := .boolean) Bd.returns (by simp) (hb hby dV_29) hr
      · show QP _ h0 _ T107.heap _
        have ev : cvL q3 q4 q5 q6 = (0 : Int32) := by unfold cvL; rw [if_neg hc9_104, if_pos hc21_109]
        rw [ev]
        exact ⟨rfl, rfl, e107⟩
    · have P111 : ∀ t, Steps p.tables e below (T107.setTop (mkF m 29 #[.val (.ref a1), .val (.ref a2)] [(.int (1 : Int32))])) t → Steps p.tables e below (s₁.setTop (entryFrame m #[(.ref a1), (.ref a2)] 2)) t := fun t kt => P108 t (by
        show Steps p.tables e below (T107.setTop (mkF m 21 #[.val (.ref a1), .val (.ref a2)] [(.int (lcmpW q6 q4))])) _
        refine XS.ifNo X107.here hx rfl (hb hby dV_21) rfl ((if0 _ _).trans (flt hc21_109).2.2.1) ?_
        show Steps p.tables e below (T107.setTop (mkF m 24 #[.val (.ref a1), .val (.ref a2)] [])) _
        refine XS.iconst X107.here hx rfl (hb hby dV_24) ?_
        show Steps p.tables e below (T107.setTop (mkF m 25 #[.val (.ref a1), .val (.ref a2)] [(.int (1 : Int32))])) _
        refine XS.goto X107.here hx rfl (pc0 := 25) (pc' := 29) rfl (hb hby dV_25) (by decide) (by decide) ?_
        exact kt)
      obtain ⟨fs, hr, hrun, hended, hW, hsame⟩ := X107.leave (v := some (.int (1 : Int32))) (fun h => by rw [Bd.returns] at h; cases h) (hlocks := hlk)
      refine ⟨_, _, P111 _ ?_, hrun, hended, _, _, rfl, ?_, ⟨_, rfl⟩, hW, hsame.mono (by decide) (by decide)⟩
      · show Steps p.tables e below (T107.setTop (mkF m 29 #[.val (.ref a1), .val (.ref a2)] [(.int (1 : Int32))])) _
        exact retN X107 hx (t := .boolean) Bd.returns (by simp) (hb hby dV_29) hr
      · show QP _ h0 _ T107.heap _
        have ev : cvL q3 q4 q5 q6 = (1 : Int32) := by unfold cvL; rw [if_neg hc9_104, if_neg hc21_109]
        rw [ev]
        exact ⟨rfl, rfl, e107⟩
theorem ef_0 (m : MethodId) (x0 : Int64) (x1 : Int64) (x2 : Int64) (x3 : Int64) : entryFrame m #[(.long x0), (.long x1), (.long x2), (.long x3)] maxLocals = mkF m 0 #[.val (.long x0), .second, .val (.long x1), .second, .val (.long x2), .second, .val (.long x3), .second, .unset, .unset, .unset, .unset, .unset, .unset, .unset, .unset, .unset, .unset, .unset] [] := by first | (simp [entryFrame, mkF, argsToLocals, Value.category, maxLocals]; done) | rfl
set_option maxRecDepth 65536 in
set_option maxHeartbeats 40000000 in
theorem rm0 (l : Launch) (Z : State) (a0 : Array Value) (hw : ∀ d ∈ tables_1, d.before a0 Z = true) (ws : List Jvm.Cond) (i1 : Int64) (i2 : Int64) (i3 : Int64) (i4 : Int64) (h0 : Heap) (n0 : Nat) (Z0 : n0 ≤ h0.size) :
    MetFree l x (head1 (Jvm.Cond.code x code maxLocals ret :: ws) room_1) (fun a U => a = #[(.long i1), (.long i2), (.long i3), (.long i4)] ∧ Z.Warmed39 U.vm ∧ U.heap = h0) (fun _ _ _ _ _ => True) (fun _ U o U' => ∃ v L, o = .returned v ∧ Q0 n0 v U'.heap L ∧ FrameEnd U o U' L room_1.cells room_1.slots) := by
  refine MetFree.of_bodySF (plainFor_of_name (by first | (simp [plainName, overriddenIn]; done) | decide +kernel)) hisR ?_
  intro p e s m args below meth c s₁ Bd hml0 hP hK
  obtain ⟨rfl, hZ, hh⟩ := hP
  have hx := Bd.exec
  have hby := Bd.bytes
  have hml : c.maxLocals = 19 := hml0
  have hown : s.vm.findClass "com/example/probex/probex/count/InputRangeCoversPinLaw" = some m.cls := findClass_of_methodNamed Bd.named
  have hnm := (name_of_methodNamed Bd.named Bd.method).1
  have hlk : meth.locks = false := BodyLoose.notSynchronized Bd
  have X0 : Stand p l e room_1 s m #[(.long i1), (.long i2), (.long i3), (.long i4)] below meth c s₁ [] 0 0 := Stand.of_body Bd
  have e0 : s₁.heap = h0 := by rw [← hh, Bd.state]; rfl
  have P0 : ∀ t, Steps p.tables e below (s₁.setTop (mkF m 0 #[.val (.long i1), .second, .val (.long i2), .second, .val (.long i3), .second, .val (.long i4), .second, .unset, .unset, .unset, .unset, .unset, .unset, .unset, .unset, .unset, .unset, .unset] [])) t → Steps p.tables e below (s₁.setTop (entryFrame m #[(.long i1), (.long i2), (.long i3), (.long i4)] maxLocals)) t := fun t kt => castTop (ef_0 m i1 i2 i3 i4) kt
  have N0 := Fr.nil n0
  obtain ⟨_, _, ⟨T101, L101, k101, n101⟩, -, X101, ⟨Lc101, hQ101, l101, y101, z101⟩, st101⟩ := Jvm.LawKit.callS X0 hx (y := (⟨"java/lang/Math", "min", "(JJ)J"⟩ : MethodName)) hown (mvT hZ (hw _ (List.mem_of_getElem? (i := 0) rfl))) (mvT hZ (hw _ (List.mem_of_getElem? (i := 1) rfl))) (mvT hZ (hw _ (List.mem_of_getElem? (i := 2) rfl))) (mvT hZ (hw _ (List.mem_of_getElem? (i := 3) rfl))) (by decide) (backOf (W := 0)  (rmMin l Z a0 hw [] i1 i2 h0) hZ (hw _ (List.mem_of_getElem? (i := 3) rfl)) (hw _ (List.mem_of_getElem? (i := 2) rfl)) (by decide) (by decide)) (g := (mkF m 2 #[.val (.long i1), .second, .val (.long i2), .second, .val (.long i3), .second, .val (.long i4), .second, .unset, .unset, .unset, .unset, .unset, .unset, .unset, .unset, .unset, .unset, .unset] [(.long i2), (.long i1)])) rfl (by rw [hml]; rfl) (argsL := [(.long i1), (.long i2)]) (rest := []) (lenOf pd__JJ_J rfl) rfl (by show 2 * 0 + _ ≤ _; exact Nat.le_of_eq rfl) (hb hby at_2) (fun _ _ => ⟨rfl, e0, (by decide : 0 + 0 ≤ _), (by decide : 0 + 0 ≤ _)⟩)
  dsimp only [Pt.U, Pt.locs, Pt.cells, Pt.slots] at X101 l101 y101 z101 st101 hQ101
  subst l101 y101 z101
  obtain ⟨rfl, rfl, e101⟩ := hQ101
  have N101 := Fr.app N0 (Fr.nil n0)
  obtain ⟨_, _, ⟨T102, L102, k102, n102⟩, -, X102, ⟨Lc102, hQ102, l102, y102, z102⟩, st102⟩ := Jvm.LawKit.callS X101 hx (y := (⟨"java/lang/Math", "max", "(JJ)J"⟩ : MethodName)) hown (mvT hZ (hw _ (List.mem_of_getElem? (i := 4) rfl))) (mvT hZ (hw _ (List.mem_of_getElem? (i := 5) rfl))) (mvT hZ (hw _ (List.mem_of_getElem? (i := 2) rfl))) (mvT hZ (hw _ (List.mem_of_getElem? (i := 6) rfl))) (by decide) (backOf (W := 0)  (rmMax l Z a0 hw [] i1 i2 h0) hZ (hw _ (List.mem_of_getElem? (i := 6) rfl)) (hw _ (List.mem_of_getElem? (i := 2) rfl)) (by decide) (by decide)) (g := (mkF m 9 #[.val (.long i1), .second, .val (.long i2), .second, .val (.long i3), .second, .val (.long i4), .second, .val (.long (mnL i1 i2)), .second, .unset, .unset, .unset, .unset, .unset, .unset, .unset, .unset, .unset] [(.long i2), (.long i1)])) rfl (by rw [hml]; rfl) (argsL := [(.long i1), (.long i2)]) (rest := []) (lenOf pd__JJ_J rfl) rfl (by show 2 * 0 + _ ≤ _; exact Nat.le_of_eq rfl) (hb hby at_9) (fun _ _ => ⟨rfl, e101, (by decide : 0 + 0 ≤ _), (by decide : 0 + 0 ≤ _)⟩)
  dsimp only [Pt.U, Pt.locs, Pt.cells, Pt.slots] at X102 l102 y102 z102 st102 hQ102
  subst l102 y102 z102
  obtain ⟨rfl, rfl, e102⟩ := hQ102
  have N102 := Fr.app N101 (Fr.nil n0)
  obtain ⟨_, _, ⟨T103, L103, k103, n103⟩, -, X103, ⟨Lc103, hQ103, l103, y103, z103⟩, st103⟩ := Jvm.LawKit.callS X102 hx (y := (⟨"java/lang/Math", "min", "(JJ)J"⟩ : MethodName)) hown (mvT hZ (hw _ (List.mem_of_getElem? (i := 0) rfl))) (mvT hZ (hw _ (List.mem_of_getElem? (i := 1) rfl))) (mvT hZ (hw _ (List.mem_of_getElem? (i := 2) rfl))) (mvT hZ (hw _ (List.mem_of_getElem? (i := 3) rfl))) (by decide) (backOf (W := 0)  (rmMin l Z a0 hw [] i3 i4 h0) hZ (hw _ (List.mem_of_getElem? (i := 3) rfl)) (hw _ (List.mem_of_getElem? (i := 2) rfl)) (by decide) (by decide)) (g := (mkF m 18 #[.val (.long i1), .second, .val (.long i2), .second, .val (.long i3), .second, .val (.long i4), .second, .val (.long (mnL i1 i2)), .second, .val (.long (mxL i1 i2)), .second, .unset, .unset, .unset, .unset, .unset, .unset, .unset] [(.long i4), (.long i3)])) rfl (by rw [hml]; rfl) (argsL := [(.long i3), (.long i4)]) (rest := []) (lenOf pd__JJ_J rfl) rfl (by show 2 * 0 + _ ≤ _; exact Nat.le_of_eq rfl) (hb hby at_18) (fun _ _ => ⟨rfl, e102, (by decide : 0 + 0 ≤ _), (by decide : 0 + 0 ≤ _)⟩)
  dsimp only [Pt.U, Pt.locs, Pt.cells, Pt.slots] at X103 l103 y103 z103 st103 hQ103
  subst l103 y103 z103
  obtain ⟨rfl, rfl, e103⟩ := hQ103
  have N103 := Fr.app N102 (Fr.nil n0)
  obtain ⟨_, _, ⟨T104, L104, k104, n104⟩, -, X104, ⟨Lc104, hQ104, l104, y104, z104⟩, st104⟩ := Jvm.LawKit.callS X103 hx (y := (⟨"java/lang/Math", "max", "(JJ)J"⟩ : MethodName)) hown (mvT hZ (hw _ (List.mem_of_getElem? (i := 4) rfl))) (mvT hZ (hw _ (List.mem_of_getElem? (i := 5) rfl))) (mvT hZ (hw _ (List.mem_of_getElem? (i := 2) rfl))) (mvT hZ (hw _ (List.mem_of_getElem? (i := 6) rfl))) (by decide) (backOf (W := 0)  (rmMax l Z a0 hw [] i3 i4 h0) hZ (hw _ (List.mem_of_getElem? (i := 6) rfl)) (hw _ (List.mem_of_getElem? (i := 2) rfl)) (by decide) (by decide)) (g := (mkF m 27 #[.val (.long i1), .second, .val (.long i2), .second, .val (.long i3), .second, .val (.long i4), .second, .val (.long (mnL i1 i2)), .second, .val (.long (mxL i1 i2)), .second, .val (.long (mnL i3 i4)), .second, .unset, .unset, .unset, .unset, .unset] [(.long i4), (.long i3)])) rfl (by rw [hml]; rfl) (argsL := [(.long i3), (.long i4)]) (rest := []) (lenOf pd__JJ_J rfl) rfl (by show 2 * 0 + _ ≤ _; exact Nat.le_of_eq rfl) (hb hby at_27) (fun _ _ => ⟨rfl, e103, (by decide : 0 + 0 ≤ _), (by decide : 0 + 0 ≤ _)⟩)
  dsimp only [Pt.U, Pt.locs, Pt.cells, Pt.slots] at X104 l104 y104 z104 st104 hQ104
  subst l104 y104 z104
  obtain ⟨rfl, rfl, e104⟩ := hQ104
  have N104 := Fr.app N103 (Fr.nil n0)
  obtain ⟨T105, h105, X105, e105, E105, A105, D105, -, st105⟩ := newO X104 hx hZ hown (hw _ (List.mem_of_getElem? (i := 7) rfl)) (hw _ (List.mem_of_getElem? (i := 8) rfl)) (hw _ (List.mem_of_getElem? (i := 9) rfl)) e104 (g := (mkF m 32 #[.val (.long i1), .second, .val (.long i2), .second, .val (.long i3), .second, .val (.long i4), .second, .val (.long (mnL i1 i2)), .second, .val (.long (mxL i1 i2)), .second, .val (.long (mnL i3 i4)), .second, .val (.long (mxL i3 i4)), .second, .unset, .unset, .unset] [])) rfl (hb hby at_32) (by decide) (by decide)
  obtain ⟨b105, g105⟩ : ∃ z, z = h0.size := ⟨_, rfl⟩
  rw [← g105] at A105 D105 st105
  have gb105 : n0 ≤ b105 := Nat.le_trans Z0 (Nat.le_of_eq g105.symm)
  have sz105 : n0 ≤ h105.size := Nat.le_trans Z0 E105.1
  have F105_low : Fld Z h105 b105 "com/example/probex/probex/count/InputRange" "low" "J" (.long (0 : Int64)) := D105 (Or.inr (hw _ (List.mem_of_getElem? (i := 22) rfl))) (ty := .long) (by decide)
  have F105_high : Fld Z h105 b105 "com/example/probex/probex/count/InputRange" "high" "J" (.long (0 : Int64)) := D105 (Or.inr (hw _ (List.mem_of_getElem? (i := 24) rfl))) (ty := .long) (by decide)
  obtain ⟨_, _, ⟨T106, L106, k106, n106⟩, -, X106, ⟨Lc106, hQ106, l106, y106, z106⟩, st106⟩ := X105.specialBack hx (y := (⟨"com/example/probex/probex/count/InputRange", "<init>", "(JJ)V"⟩ : MethodName)) rfl hown (mvT hZ (hw _ (List.mem_of_getElem? (i := 10) rfl))) (mvT hZ (hw _ (List.mem_of_getElem? (i := 11) rfl))) (mvT hZ (hw _ (List.mem_of_getElem? (i := 12) rfl))) (by decide) (backOf (W := 1)  (rmI l Z a0 hw [] b105 (mnL i1 i2) (mxL i1 i2) h105 n0 sz105 A105 F105_low F105_high gb105 (own_le i1 i2)) hZ (hw _ (List.mem_of_getElem? (i := 12) rfl)) (hw _ (List.mem_of_getElem? (i := 9) rfl)) (by decide) (by decide)) (g := (mkF m 40 #[.val (.long i1), .second, .val (.long i2), .second, .val (.long i3), .second, .val (.long i4), .second, .val (.long (mnL i1 i2)), .second, .val (.long (mxL i1 i2)), .second, .val (.long (mnL i3 i4)), .second, .val (.long (mxL i3 i4)), .second, .unset, .unset, .unset] [(.long (mxL i1 i2)), (.long (mnL i1 i2)), (.ref b105), (.ref b105)])) rfl (by rw [hml]; rfl) (Steps.refl _) (a := b105) (argsL := [(.long (mnL i1 i2)), (.long (mxL i1 i2))]) (rest := [(.ref b105)]) (lenOf pd__JJ_V rfl) rfl (by show 2 * 0 + _ ≤ _; exact Nat.le_of_eq rfl) (hb hby at_40) (fun _ _ => ⟨rfl, e105, (by decide : 1 + 0 ≤ _), (by decide : 2 + 0 ≤ _)⟩)
  dsimp only [Pt.U, Pt.locs, Pt.cells, Pt.slots] at X106 l106 y106 z106 st106 hQ106
  subst l106 y106 z106
  obtain ⟨rfl, Nq106, K106, E106x, F106l, F106h⟩ := hQ106
  have N106 := Fr.app N104 Nq106
  have sz106 : n0 ≤ T106.heap.size := Nat.le_trans sz105 K106.1
  obtain ⟨T107, h107, X107, e107, E107, A107, D107, -, st107⟩ := newO X106 hx hZ hown (hw _ (List.mem_of_getElem? (i := 7) rfl)) (hw _ (List.mem_of_getElem? (i := 8) rfl)) (hw _ (List.mem_of_getElem? (i := 9) rfl)) rfl (g := (mkF m 45 #[.val (.long i1), .second, .val (.long i2), .second, .val (.long i3), .second, .val (.long i4), .second, .val (.long (mnL i1 i2)), .second, .val (.long (mxL i1 i2)), .second, .val (.long (mnL i3 i4)), .second, .val (.long (mxL i3 i4)), .second, .val (.ref b105), .unset, .unset] [])) rfl (hb hby at_45) (by decide) (by decide)
  obtain ⟨b107, g107⟩ : ∃ z, z = T106.heap.size := ⟨_, rfl⟩
  rw [← g107] at A107 D107 st107
  have ne107_b105 : b105 ≠ b107 := Nat.ne_of_lt (Nat.lt_of_lt_of_le E106x.lt (Nat.le_of_eq g107.symm))
  have gb107 : n0 ≤ b107 := Nat.le_trans sz106 (Nat.le_of_eq g107.symm)
  have sz107 : n0 ≤ h107.size := Nat.le_trans sz106 E107.1
  have f108 := E106x.ext E107
  have f109 := F106l.ext E107
  have f110 := F106h.ext E107
  have F107_low : Fld Z h107 b107 "com/example/probex/probex/count/InputRange" "low" "J" (.long (0 : Int64)) := D107 (Or.inr (hw _ (List.mem_of_getElem? (i := 22) rfl))) (ty := .long) (by decide)
  have F107_high : Fld Z h107 b107 "com/example/probex/probex/count/InputRange" "high" "J" (.long (0 : Int64)) := D107 (Or.inr (hw _ (List.mem_of_getElem? (i := 24) rfl))) (ty := .long) (by decide)
  obtain ⟨_, _, ⟨T111, L111, k111, n111⟩, -, X111, ⟨Lc111, hQ111, l111, y111, z111⟩, st111⟩ := X107.specialBack hx (y := (⟨"com/example/probex/probex/count/InputRange", "<init>", "(JJ)V"⟩ : MethodName)) rfl hown (mvT hZ (hw _ (List.mem_of_getElem? (i := 10) rfl))) (mvT hZ (hw _ (List.mem_of_getElem? (i := 11) rfl))) (mvT hZ (hw _ (List.mem_of_getElem? (i := 12) rfl))) (by decide) (backOf (W := 1)  (rmI l Z a0 hw [] b107 (mnL i3 i4) (mxL i3 i4) h107 n0 sz107 A107 F107_low F107_high gb107 (own_le i3 i4)) hZ (hw _ (List.mem_of_getElem? (i := 12) rfl)) (hw _ (List.mem_of_getElem? (i := 9) rfl)) (by decide) (by decide)) (g := (mkF m 53 #[.val (.long i1), .second, .val (.long i2), .second, .val (.long i3), .second, .val (.long i4), .second, .val (.long (mnL i1 i2)), .second, .val (.long (mxL i1 i2)), .second, .val (.long (mnL i3 i4)), .second, .val (.long (mxL i3 i4)), .second, .val (.ref b105), .unset, .unset] [(.long (mxL i3 i4)), (.long (mnL i3 i4)), (.ref b107), (.ref b107)])) rfl (by rw [hml]; rfl) (Steps.refl _) (a := b107) (argsL := [(.long (mnL i3 i4)), (.long (mxL i3 i4))]) (rest := [(.ref b107)]) (lenOf pd__JJ_V rfl) rfl (by show 2 * 0 + _ ≤ _; exact Nat.le_of_eq rfl) (hb hby at_53) (fun _ _ => ⟨rfl, e107, (by decide : 2 + 0 ≤ _), (by decide : 4 + 0 ≤ _)⟩)
  dsimp only [Pt.U, Pt.locs, Pt.cells, Pt.slots] at X111 l111 y111 z111 st111 hQ111
  subst l111 y111 z111
  obtain ⟨rfl, Nq111, K111, E111x, F111l, F111h⟩ := hQ111
  have N111 := Fr.app N106 Nq111
  have sz111 : n0 ≤ T111.heap.size := Nat.le_trans sz107 K111.1
  have f112 := f108.keep K111
  have f113 := f109.keep K111 (own_nm ne107_b105)
  have f114 := f110.keep K111 (own_nm ne107_b105)
  obtain ⟨_, _, ⟨T115, L115, k115, n115⟩, -, X115, ⟨Lc115, hQ115, l115, y115, z115⟩, st115⟩ := Jvm.LawKit.callS X111 hx (y := (⟨"java/lang/Math", "min", "(JJ)J"⟩ : MethodName)) hown (mvT hZ (hw _ (List.mem_of_getElem? (i := 0) rfl))) (mvT hZ (hw _ (List.mem_of_getElem? (i := 1) rfl))) (mvT hZ (hw _ (List.mem_of_getElem? (i := 2) rfl))) (mvT hZ (hw _ (List.mem_of_getElem? (i := 3) rfl))) (by decide) (backOf (W := 0)  (rmMin l Z a0 hw [] (mnL i1 i2) (mnL i3 i4) T111.heap) hZ (hw _ (List.mem_of_getElem? (i := 3) rfl)) (hw _ (List.mem_of_getElem? (i := 2) rfl)) (by decide) (by decide)) (g := (mkF m 62 #[.val (.long i1), .second, .val (.long i2), .second, .val (.long i3), .second, .val (.long i4), .second, .val (.long (mnL i1 i2)), .second, .val (.long (mxL i1 i2)), .second, .val (.long (mnL i3 i4)), .second, .val (.long (mxL i3 i4)), .second, .val (.ref b105), .val (.ref b107), .unset] [(.long (mnL i3 i4)), (.long (mnL i1 i2))])) rfl (by rw [hml]; rfl) (argsL := [(.long (mnL i1 i2)), (.long (mnL i3 i4))]) (rest := []) (lenOf pd__JJ_J rfl) rfl (by show 2 * 0 + _ ≤ _; exact Nat.le_of_eq rfl) (hb hby at_62) (fun _ _ => ⟨rfl, rfl, (by decide : 2 + 0 ≤ _), (by decide : 4 + 0 ≤ _)⟩)
  dsimp only [Pt.U, Pt.locs, Pt.cells, Pt.slots] at X115 l115 y115 z115 st115 hQ115
  subst l115 y115 z115
  obtain ⟨rfl, rfl, e115⟩ := hQ115
  have N115 := Fr.app N111 (Fr.nil n0)
  have P116 : ∀ t, Steps p.tables e below (T115.setTop (mkF m 68 #[.val (.long i1), .second, .val (.long i2), .second, .val (.long i3), .second, .val (.long i4), .second, .val (.long (mnL i1 i2)), .second, .val (.long (mxL i1 i2)), .second, .val (.long (mnL i3 i4)), .second, .val (.long (mxL i3 i4)), .second, .val (.ref b105), .val (.ref b107), .unset] [(.int (lcmpW (mnL (mnL i1 i2) (mnL i3 i4)) (mnL i1 i2)))])) t → Steps p.tables e below (s₁.setTop (entryFrame m #[(.long i1), (.long i2), (.long i3), (.long i4)] maxLocals)) t := fun t kt => P0 t (by
    show Steps p.tables e below (s₁.setTop (mkF m 0 #[.val (.long i1), .second, .val (.long i2), .second, .val (.long i3), .second, .val (.long i4), .second, .unset, .unset, .unset, .unset, .unset, .unset, .unset, .unset, .unset, .unset, .unset] [])) _
    refine XS.lloadN X0.here hx rfl (hb hby at_0) rfl ?_
    show Steps p.tables e below (s₁.setTop (mkF m 1 #[.val (.long i1), .second, .val (.long i2), .second, .val (.long i3), .second, .val (.long i4), .second, .unset, .unset, .unset, .unset, .unset, .unset, .unset, .unset, .unset, .unset, .unset] [(.long i1)])) _
    refine XS.lloadN X0.here hx rfl (hb hby at_1) rfl ?_
    show Steps p.tables e below (s₁.setTop (mkF m 2 #[.val (.long i1), .second, .val (.long i2), .second, .val (.long i3), .second, .val (.long i4), .second, .unset, .unset, .unset, .unset, .unset, .unset, .unset, .unset, .unset, .unset, .unset] [(.long i2), (.long i1)])) _
    refine st101 _ ?_
    show Steps p.tables e below (T101.setTop (mkF m 5 #[.val (.long i1), .second, .val (.long i2), .second, .val (.long i3), .second, .val (.long i4), .second, .unset, .unset, .unset, .unset, .unset, .unset, .unset, .unset, .unset, .unset, .unset] [(.long (mnL i1 i2))])) _
    refine XS.lstore X101.here hx rfl (hb hby at_5) rfl (l' := #[.val (.long i1), .second, .val (.long i2), .second, .val (.long i3), .second, .val (.long i4), .second, .val (.long (mnL i1 i2)), .second, .unset, .unset, .unset, .unset, .unset, .unset, .unset, .unset, .unset]) rfl ?_
    show Steps p.tables e below (T101.setTop (mkF m 7 #[.val (.long i1), .second, .val (.long i2), .second, .val (.long i3), .second, .val (.long i4), .second, .val (.long (mnL i1 i2)), .second, .unset, .unset, .unset, .unset, .unset, .unset, .unset, .unset, .unset] [])) _
    refine XS.lloadN X101.here hx rfl (hb hby at_7) rfl ?_
    show Steps p.tables e below (T101.setTop (mkF m 8 #[.val (.long i1), .second, .val (.long i2), .second, .val (.long i3), .second, .val (.long i4), .second, .val (.long (mnL i1 i2)), .second, .unset, .unset, .unset, .unset, .unset, .unset, .unset, .unset, .unset] [(.long i1)])) _
    refine XS.lloadN X101.here hx rfl (hb hby at_8) rfl ?_
    show Steps p.tables e below (T101.setTop (mkF m 9 #[.val (.long i1), .second, .val (.long i2), .second, .val (.long i3), .second, .val (.long i4), .second, .val (.long (mnL i1 i2)), .second, .unset, .unset, .unset, .unset, .unset, .unset, .unset, .unset, .unset] [(.long i2), (.long i1)])) _
    refine st102 _ ?_
    show Steps p.tables e below (T102.setTop (mkF m 12 #[.val (.long i1), .second, .val (.long i2), .second, .val (.long i3), .second, .val (.long i4), .second, .val (.long (mnL i1 i2)), .second, .unset, .unset, .unset, .unset, .unset, .unset, .unset, .unset, .unset] [(.long (mxL i1 i2))])) _
    refine XS.lstore X102.here hx rfl (hb hby at_12) rfl (l' := #[.val (.long i1), .second, .val (.long i2), .second, .val (.long i3), .second, .val (.long i4), .second, .val (.long (mnL i1 i2)), .second, .val (.long (mxL i1 i2)), .second, .unset, .unset, .unset, .unset, .unset, .unset, .unset]) rfl ?_
    show Steps p.tables e below (T102.setTop (mkF m 14 #[.val (.long i1), .second, .val (.long i2), .second, .val (.long i3), .second, .val (.long i4), .second, .val (.long (mnL i1 i2)), .second, .val (.long (mxL i1 i2)), .second, .unset, .unset, .unset, .unset, .unset, .unset, .unset] [])) _
    refine XS.lload X102.here hx rfl (hb hby at_14) rfl ?_
    show Steps p.tables e below (T102.setTop (mkF m 16 #[.val (.long i1), .second, .val (.long i2), .second, .val (.long i3), .second, .val (.long i4), .second, .val (.long (mnL i1 i2)), .second, .val (.long (mxL i1 i2)), .second, .unset, .unset, .unset, .unset, .unset, .unset, .unset] [(.long i3)])) _
    refine XS.lload X102.here hx rfl (hb hby at_16) rfl ?_
    show Steps p.tables e below (T102.setTop (mkF m 18 #[.val (.long i1), .second, .val (.long i2), .second, .val (.long i3), .second, .val (.long i4), .second, .val (.long (mnL i1 i2)), .second, .val (.long (mxL i1 i2)), .second, .unset, .unset, .unset, .unset, .unset, .unset, .unset] [(.long i4), (.long i3)])) _
    refine st103 _ ?_
    show Steps p.tables e below (T103.setTop (mkF m 21 #[.val (.long i1), .second, .val (.long i2), .second, .val (.long i3), .second, .val (.long i4), .second, .val (.long (mnL i1 i2)), .second, .val (.long (mxL i1 i2)), .second, .unset, .unset, .unset, .unset, .unset, .unset, .unset] [(.long (mnL i3 i4))])) _
    refine XS.lstore X103.here hx rfl (hb hby at_21) rfl (l' := #[.val (.long i1), .second, .val (.long i2), .second, .val (.long i3), .second, .val (.long i4), .second, .val (.long (mnL i1 i2)), .second, .val (.long (mxL i1 i2)), .second, .val (.long (mnL i3 i4)), .second, .unset, .unset, .unset, .unset, .unset]) rfl ?_
    show Steps p.tables e below (T103.setTop (mkF m 23 #[.val (.long i1), .second, .val (.long i2), .second, .val (.long i3), .second, .val (.long i4), .second, .val (.long (mnL i1 i2)), .second, .val (.long (mxL i1 i2)), .second, .val (.long (mnL i3 i4)), .second, .unset, .unset, .unset, .unset, .unset] [])) _
    refine XS.lload X103.here hx rfl (hb hby at_23) rfl ?_
    show Steps p.tables e below (T103.setTop (mkF m 25 #[.val (.long i1), .second, .val (.long i2), .second, .val (.long i3), .second, .val (.long i4), .second, .val (.long (mnL i1 i2)), .second, .val (.long (mxL i1 i2)), .second, .val (.long (mnL i3 i4)), .second, .unset, .unset, .unset, .unset, .unset] [(.long i3)])) _
    refine XS.lload X103.here hx rfl (hb hby at_25) rfl ?_
    show Steps p.tables e below (T103.setTop (mkF m 27 #[.val (.long i1), .second, .val (.long i2), .second, .val (.long i3), .second, .val (.long i4), .second, .val (.long (mnL i1 i2)), .second, .val (.long (mxL i1 i2)), .second, .val (.long (mnL i3 i4)), .second, .unset, .unset, .unset, .unset, .unset] [(.long i4), (.long i3)])) _
    refine st104 _ ?_
    show Steps p.tables e below (T104.setTop (mkF m 30 #[.val (.long i1), .second, .val (.long i2), .second, .val (.long i3), .second, .val (.long i4), .second, .val (.long (mnL i1 i2)), .second, .val (.long (mxL i1 i2)), .second, .val (.long (mnL i3 i4)), .second, .unset, .unset, .unset, .unset, .unset] [(.long (mxL i3 i4))])) _
    refine XS.lstore X104.here hx rfl (hb hby at_30) rfl (l' := #[.val (.long i1), .second, .val (.long i2), .second, .val (.long i3), .second, .val (.long i4), .second, .val (.long (mnL i1 i2)), .second, .val (.long (mxL i1 i2)), .second, .val (.long (mnL i3 i4)), .second, .val (.long (mxL i3 i4)), .second, .unset, .unset, .unset]) rfl ?_
    show Steps p.tables e below (T104.setTop (mkF m 32 #[.val (.long i1), .second, .val (.long i2), .second, .val (.long i3), .second, .val (.long i4), .second, .val (.long (mnL i1 i2)), .second, .val (.long (mxL i1 i2)), .second, .val (.long (mnL i3 i4)), .second, .val (.long (mxL i3 i4)), .second, .unset, .unset, .unset] [])) _
    refine st105 _ ?_
    show Steps p.tables e below (T105.setTop (mkF m 35 #[.val (.long i1), .second, .val (.long i2), .second, .val (.long i3), .second, .val (.long i4), .second, .val (.long (mnL i1 i2)), .second, .val (.long (mxL i1 i2)), .second, .val (.long (mnL i3 i4)), .second, .val (.long (mxL i3 i4)), .second, .unset, .unset, .unset] [(.ref b105)])) _
    refine XS.dup X105.here hx rfl (hb hby at_35) rfl rfl ?_
    show Steps p.tables e below (T105.setTop (mkF m 36 #[.val (.long i1), .second, .val (.long i2), .second, .val (.long i3), .second, .val (.long i4), .second, .val (.long (mnL i1 i2)), .second, .val (.long (mxL i1 i2)), .second, .val (.long (mnL i3 i4)), .second, .val (.long (mxL i3 i4)), .second, .unset, .unset, .unset] [(.ref b105), (.ref b105)])) _
    refine XS.lload X105.here hx rfl (hb hby at_36) rfl ?_
    show Steps p.tables e below (T105.setTop (mkF m 38 #[.val (.long i1), .second, .val (.long i2), .second, .val (.long i3), .second, .val (.long i4), .second, .val (.long (mnL i1 i2)), .second, .val (.long (mxL i1 i2)), .second, .val (.long (mnL i3 i4)), .second, .val (.long (mxL i3 i4)), .second, .unset, .unset, .unset] [(.long (mnL i1 i2)), (.ref b105), (.ref b105)])) _
    refine XS.lload X105.here hx rfl (hb hby at_38) rfl ?_
    show Steps p.tables e below (T105.setTop (mkF m 40 #[.val (.long i1), .second, .val (.long i2), .second, .val (.long i3), .second, .val (.long i4), .second, .val (.long (mnL i1 i2)), .second, .val (.long (mxL i1 i2)), .second, .val (.long (mnL i3 i4)), .second, .val (.long (mxL i3 i4)), .second, .unset, .unset, .unset] [(.long (mxL i1 i2)), (.long (mnL i1 i2)), (.ref b105), (.ref b105)])) _
    refine st106.trans ?_
    show Steps p.tables e below (T106.setTop (mkF m 43 #[.val (.long i1), .second, .val (.long i2), .second, .val (.long i3), .second, .val (.long i4), .second, .val (.long (mnL i1 i2)), .second, .val (.long (mxL i1 i2)), .second, .val (.long (mnL i3 i4)), .second, .val (.long (mxL i3 i4)), .second, .unset, .unset, .unset] [(.ref b105)])) _
    refine XS.astore X106.here hx rfl (hb hby at_43) rfl rfl (l' := #[.val (.long i1), .second, .val (.long i2), .second, .val (.long i3), .second, .val (.long i4), .second, .val (.long (mnL i1 i2)), .second, .val (.long (mxL i1 i2)), .second, .val (.long (mnL i3 i4)), .second, .val (.long (mxL i3 i4)), .second, .val (.ref b105), .unset, .unset]) rfl ?_
    show Steps p.tables e below (T106.setTop (mkF m 45 #[.val (.long i1), .second, .val (.long i2), .second, .val (.long i3), .second, .val (.long i4), .second, .val (.long (mnL i1 i2)), .second, .val (.long (mxL i1 i2)), .second, .val (.long (mnL i3 i4)), .second, .val (.long (mxL i3 i4)), .second, .val (.ref b105), .unset, .unset] [])) _
    refine st107 _ ?_
    show Steps p.tables e below (T107.setTop (mkF m 48 #[.val (.long i1), .second, .val (.long i2), .second, .val (.long i3), .second, .val (.long i4), .second, .val (.long (mnL i1 i2)), .second, .val (.long (mxL i1 i2)), .second, .val (.long (mnL i3 i4)), .second, .val (.long (mxL i3 i4)), .second, .val (.ref b105), .unset, .unset] [(.ref b107)])) _
    refine XS.dup X107.here hx rfl (hb hby at_48) rfl rfl ?_
    show Steps p.tables e below (T107.setTop (mkF m 49 #[.val (.long i1), .second, .val (.long i2), .second, .val (.long i3), .second, .val (.long i4), .second, .val (.long (mnL i1 i2)), .second, .val (.long (mxL i1 i2)), .second, .val (.long (mnL i3 i4)), .second, .val (.long (mxL i3 i4)), .second, .val (.ref b105), .unset, .unset] [(.ref b107), (.ref b107)])) _
    refine XS.lload X107.here hx rfl (hb hby at_49) rfl ?_
    show Steps p.tables e below (T107.setTop (mkF m 51 #[.val (.long i1), .second, .val (.long i2), .second, .val (.long i3), .second, .val (.long i4), .second, .val (.long (mnL i1 i2)), .second, .val (.long (mxL i1 i2)), .second, .val (.long (mnL i3 i4)), .second, .val (.long (mxL i3 i4)), .second, .val (.ref b105), .unset, .unset] [(.long (mnL i3 i4)), (.ref b107), (.ref b107)])) _
    refine XS.lload X107.here hx rfl (hb hby at_51) rfl ?_
    show Steps p.tables e below (T107.setTop (mkF m 53 #[.val (.long i1), .second, .val (.long i2), .second, .val (.long i3), .second, .val (.long i4), .second, .val (.long (mnL i1 i2)), .second, .val (.long (mxL i1 i2)), .second, .val (.long (mnL i3 i4)), .second, .val (.long (mxL i3 i4)), .second, .val (.ref b105), .unset, .unset] [(.long (mxL i3 i4)), (.long (mnL i3 i4)), (.ref b107), (.ref b107)])) _
    refine st111.trans ?_
    show Steps p.tables e below (T111.setTop (mkF m 56 #[.val (.long i1), .second, .val (.long i2), .second, .val (.long i3), .second, .val (.long i4), .second, .val (.long (mnL i1 i2)), .second, .val (.long (mxL i1 i2)), .second, .val (.long (mnL i3 i4)), .second, .val (.long (mxL i3 i4)), .second, .val (.ref b105), .unset, .unset] [(.ref b107)])) _
    refine XS.astore X111.here hx rfl (hb hby at_56) rfl rfl (l' := #[.val (.long i1), .second, .val (.long i2), .second, .val (.long i3), .second, .val (.long i4), .second, .val (.long (mnL i1 i2)), .second, .val (.long (mxL i1 i2)), .second, .val (.long (mnL i3 i4)), .second, .val (.long (mxL i3 i4)), .second, .val (.ref b105), .val (.ref b107), .unset]) rfl ?_
    show Steps p.tables e below (T111.setTop (mkF m 58 #[.val (.long i1), .second, .val (.long i2), .second, .val (.long i3), .second, .val (.long i4), .second, .val (.long (mnL i1 i2)), .second, .val (.long (mxL i1 i2)), .second, .val (.long (mnL i3 i4)), .second, .val (.long (mxL i3 i4)), .second, .val (.ref b105), .val (.ref b107), .unset] [])) _
    refine XS.lload X111.here hx rfl (hb hby at_58) rfl ?_
    show Steps p.tables e below (T111.setTop (mkF m 60 #[.val (.long i1), .second, .val (.long i2), .second, .val (.long i3), .second, .val (.long i4), .second, .val (.long (mnL i1 i2)), .second, .val (.long (mxL i1 i2)), .second, .val (.long (mnL i3 i4)), .second, .val (.long (mxL i3 i4)), .second, .val (.ref b105), .val (.ref b107), .unset] [(.long (mnL i1 i2))])) _
    refine XS.lload X111.here hx rfl (hb hby at_60) rfl ?_
    show Steps p.tables e below (T111.setTop (mkF m 62 #[.val (.long i1), .second, .val (.long i2), .second, .val (.long i3), .second, .val (.long i4), .second, .val (.long (mnL i1 i2)), .second, .val (.long (mxL i1 i2)), .second, .val (.long (mnL i3 i4)), .second, .val (.long (mxL i3 i4)), .second, .val (.ref b105), .val (.ref b107), .unset] [(.long (mnL i3 i4)), (.long (mnL i1 i2))])) _
    refine st115 _ ?_
    show Steps p.tables e below (T115.setTop (mkF m 65 #[.val (.long i1), .second, .val (.long i2), .second, .val (.long i3), .second, .val (.long i4), .second, .val (.long (mnL i1 i2)), .second, .val (.long (mxL i1 i2)), .second, .val (.long (mnL i3 i4)), .second, .val (.long (mxL i3 i4)), .second, .val (.ref b105), .val (.ref b107), .unset] [(.long (mnL (mnL i1 i2) (mnL i3 i4)))])) _
    refine XS.lload X115.here hx rfl (hb hby at_65) rfl ?_
    show Steps p.tables e below (T115.setTop (mkF m 67 #[.val (.long i1), .second, .val (.long i2), .second, .val (.long i3), .second, .val (.long i4), .second, .val (.long (mnL i1 i2)), .second, .val (.long (mxL i1 i2)), .second, .val (.long (mnL i3 i4)), .second, .val (.long (mxL i3 i4)), .second, .val (.ref b105), .val (.ref b107), .unset] [(.long (mnL i1 i2)), (.long (mnL (mnL i1 i2) (mnL i3 i4)))])) _
    refine XS.lcmp X115.here hx rfl (hb hby at_67) rfl ?_
    exact kt)
  by_cases hc68_117 : (lcmpW (mnL (mnL i1 i2) (mnL i3 i4)) (mnL i1 i2)) = (0 : Int32)
  · obtain ⟨_, _, ⟨T118, L118, k118, n118⟩, -, X118, ⟨Lc118, hQ118, l118, y118, z118⟩, st118⟩ := Jvm.LawKit.callS X115 hx (y := (⟨"java/lang/Math", "max", "(JJ)J"⟩ : MethodName)) hown (mvT hZ (hw _ (List.mem_of_getElem? (i := 4) rfl))) (mvT hZ (hw _ (List.mem_of_getElem? (i := 5) rfl))) (mvT hZ (hw _ (List.mem_of_getElem? (i := 2) rfl))) (mvT hZ (hw _ (List.mem_of_getElem? (i := 6) rfl))) (by decide) (backOf (W := 0)  (rmMax l Z a0 hw [] (mxL i1 i2) (mxL i3 i4) T111.heap) hZ (hw _ (List.mem_of_getElem? (i := 6) rfl)) (hw _ (List.mem_of_getElem? (i := 2) rfl)) (by decide) (by decide)) (g := (mkF m 75 #[.val (.long i1), .second, .val (.long i2), .second, .val (.long i3), .second, .val (.long i4), .second, .val (.long (mnL i1 i2)), .second, .val (.long (mxL i1 i2)), .second, .val (.long (mnL i3 i4)), .second, .val (.long (mxL i3 i4)), .second, .val (.ref b105), .val (.ref b107), .unset] [(.long (mxL i3 i4)), (.long (mxL i1 i2))])) rfl (by rw [hml]; rfl) (argsL := [(.long (mxL i1 i2)), (.long (mxL i3 i4))]) (rest := []) (lenOf pd__JJ_J rfl) rfl (by show 2 * 0 + _ ≤ _; exact Nat.le_of_eq rfl) (hb hby at_75) (fun _ _ => ⟨rfl, e115, (by decide : 2 + 0 ≤ _), (by decide : 4 + 0 ≤ _)⟩)
    dsimp only [Pt.U, Pt.locs, Pt.cells, Pt.slots] at X118 l118 y118 z118 st118 hQ118
    subst l118 y118 z118
    obtain ⟨rfl, rfl, e118⟩ := hQ118
    have N118 := Fr.app N115 (Fr.nil n0)
    have P119 : ∀ t, Steps p.tables e below (T118.setTop (mkF m 81 #[.val (.long i1), .second, .val (.long i2), .second, .val (.long i3), .second, .val (.long i4), .second, .val (.long (mnL i1 i2)), .second, .val (.long (mxL i1 i2)), .second, .val (.long (mnL i3 i4)), .second, .val (.long (mxL i3 i4)), .second, .val (.ref b105), .val (.ref b107), .unset] [(.int (lcmpW (mxL (mxL i1 i2) (mxL i3 i4)) (mxL i1 i2)))])) t → Steps p.tables e below (s₁.setTop (entryFrame m #[(.long i1), (.long i2), (.long i3), (.long i4)] maxLocals)) t := fun t kt => P116 t (by
      show Steps p.tables e below (T115.setTop (mkF m 68 #[.val (.long i1), .second, .val (.long i2), .second, .val (.long i3), .second, .val (.long i4), .second, .val (.long (mnL i1 i2)), .second, .val (.long (mxL i1 i2)), .second, .val (.long (mnL i3 i4)), .second, .val (.long (mxL i3 i4)), .second, .val (.ref b105), .val (.ref b107), .unset] [(.int (lcmpW (mnL (mnL i1 i2) (mnL i3 i4)) (mnL i1 i2)))])) _
      refine XS.ifNo X115.here hx rfl (hb hby at_68) rfl ((if0 _ _).trans (teq hc68_117).2) ?_
      show Steps p.tables e below (T115.setTop (mkF m 71 #[.val (.long i1), .second, .val (.long i2), .second, .val (.long i3), .second, .val (.long i4), .second, .val (.long (mnL i1 i2)), .second, .val (.long (mxL i1 i2)), .second, .val (.long (mnL i3 i4)), .second, .val (.long (mxL i3 i4)), .second, .val (.ref b105), .val (.ref b107), .unset] [])) _
      refine XS.lload X115.here hx rfl (hb hby at_71) rfl ?_
      show Steps p.tables e below (T115.setTop (mkF m 73 #[.val (.long i1), .second, .val (.long i2), .second, .val (.long i3), .second, .val (.long i4), .second, .val (.long (mnL i1 i2)), .second, .val (.long (mxL i1 i2)), .second, .val (.long (mnL i3 i4)), .second, .val (.long (mxL i3 i4)), .second, .val (.ref b105), .val (.ref b107), .unset] [(.long (mxL i1 i2))])) _
      refine XS.lload X115.here hx rfl (hb hby at_73) rfl ?_
      show Steps p.tables e below (T115.setTop (mkF m 75 #[.val (.long i1), .second, .val (.long i2), .second, .val (.long i3), .second, .val (.long i4), .second, .val (.long (mnL i1 i2)), .second, .val (.long (mxL i1 i2)), .second, .val (.long (mnL i3 i4)), .second, .val (.long (mxL i3 i4)), .second, .val (.ref b105), .val (.ref b107), .unset] [(.long (mxL i3 i4)), (.long (mxL i1 i2))])) _
      refine st118 _ ?_
      show Steps p.tables e below (T118.setTop (mkF m 78 #[.val (.long i1), .second, .val (.long i2), .second, .val (.long i3), .second, .val (.long i4), .second, .val (.long (mnL i1 i2)), .second, .val (.long (mxL i1 i2)), .second, .val (.long (mnL i3 i4)), .second, .val (.long (mxL i3 i4)), .second, .val (.ref b105), .val (.ref b107), .unset] [(.long (mxL (mxL i1 i2) (mxL i3 i4)))])) _
      refine XS.lload X118.here hx rfl (hb hby at_78) rfl ?_
      show Steps p.tables e below (T118.setTop (mkF m 80 #[.val (.long i1), .second, .val (.long i2), .second, .val (.long i3), .second, .val (.long i4), .second, .val (.long (mnL i1 i2)), .second, .val (.long (mxL i1 i2)), .second, .val (.long (mnL i3 i4)), .second, .val (.long (mxL i3 i4)), .second, .val (.ref b105), .val (.ref b107), .unset] [(.long (mxL i1 i2)), (.long (mxL (mxL i1 i2) (mxL i3 i4)))])) _
      refine XS.lcmp X118.here hx rfl (hb hby at_80) rfl ?_
      exact kt)
    by_cases hc81_120 : (lcmpW (mxL (mxL i1 i2) (mxL i3 i4)) (mxL i1 i2)) = (0 : Int32)
    · obtain ⟨cq121, kq121, q121a, q121b, q121c⟩ := isOf hZ e118 f112
      obtain ⟨_, _, ⟨T121, L121, k121, n121⟩, -, X121, ⟨Lc121, hQ121, l121, y121, z121⟩, st121⟩ := X118.virtualBack hx (y := (⟨"com/example/probex/probex/count/InputRange", "covers", "(Lcom/example/probex/probex/count/InputRange;)Z"⟩ : MethodName)) (z := (⟨"com/example/probex/probex/count/InputRange", "covers", "(Lcom/example/probex/probex/count/InputRange;)Z"⟩ : MethodName)) hown (mvT hZ (hw _ (List.mem_of_getElem? (i := 25) rfl))) (mvT hZ (hw _ (List.mem_of_getElem? (i := 26) rfl))) (notFace_of_selects (args := #[]) (mvT hZ (hw _ (List.mem_of_getElem? (i := 28) rfl)))) (mvT hZ (hw _ (List.mem_of_getElem? (i := 28) rfl))) (mvT hZ (hw _ (List.mem_of_getElem? (i := 27) rfl))) (by decide) (backOf (W := 0)  (rmV l Z a0 hw [] b105 b107 (mnL i1 i2) (mxL i1 i2) (mnL i3 i4) (mxL i3 i4) T111.heap f113 f114 F111l F111h) hZ (hw _ (List.mem_of_getElem? (i := 29) rfl)) (hw _ (List.mem_of_getElem? (i := 9) rfl)) (by decide) (by decide)) q121a q121c (g := (mkF m 95 #[.val (.long i1), .second, .val (.long i2), .second, .val (.long i3), .second, .val (.long i4), .second, .val (.long (mnL i1 i2)), .second, .val (.long (mxL i1 i2)), .second, .val (.long (mnL i3 i4)), .second, .val (.long (mxL i3 i4)), .second, .val (.ref b105), .val (.ref b107), .val (.int (1 : Int32))] [(.ref b107), (.ref b105)])) rfl (by rw [hml]; rfl) (Steps.refl _) (argsL := [(.ref b107)]) (rest := []) (lenOf pd__Lcom_example_probex_probex_count_InputRange__Z rfl) rfl (by show 2 * 0 + _ ≤ _; exact Nat.le_of_eq rfl) (hb hby at_95) (fun _ _ => ⟨rfl, e118, (by decide : 2 + 0 ≤ _), (by decide : 4 + 0 ≤ _)⟩)
      dsimp only [Pt.U, Pt.locs, Pt.cells, Pt.slots] at X121 l121 y121 z121 st121 hQ121
      subst l121 y121 z121
      obtain ⟨rfl, rfl, e121⟩ := hQ121
      have N121 := Fr.app N118 (Fr.nil n0)
      obtain ⟨cq122, kq122, q122a, q122b, q122c⟩ := isOf hZ e121 f112
      obtain ⟨_, _, ⟨T122, L122, k122, n122⟩, -, X122, ⟨Lc122, hQ122, l122, y122, z122⟩, st122⟩ := X121.virtualBack hx (y := (⟨"com/example/probex/probex/count/InputRange", "covers", "(Lcom/example/probex/probex/count/InputRange;)Z"⟩ : MethodName)) (z := (⟨"com/example/probex/probex/count/InputRange", "covers", "(Lcom/example/probex/probex/count/InputRange;)Z"⟩ : MethodName)) hown (mvT hZ (hw _ (List.mem_of_getElem? (i := 25) rfl))) (mvT hZ (hw _ (List.mem_of_getElem? (i := 26) rfl))) (notFace_of_selects (args := #[]) (mvT hZ (hw _ (List.mem_of_getElem? (i := 28) rfl)))) (mvT hZ (hw _ (List.mem_of_getElem? (i := 28) rfl))) (mvT hZ (hw _ (List.mem_of_getElem? (i := 27) rfl))) (by decide) (backOf (W := 0)  (rmV l Z a0 hw [] b105 b105 (mnL i1 i2) (mxL i1 i2) (mnL i1 i2) (mxL i1 i2) T111.heap f113 f114 f113 f114) hZ (hw _ (List.mem_of_getElem? (i := 29) rfl)) (hw _ (List.mem_of_getElem? (i := 9) rfl)) (by decide) (by decide)) q122a q122c (g := (mkF m 107 #[.val (.long i1), .second, .val (.long i2), .second, .val (.long i3), .second, .val (.long i4), .second, .val (.long (mnL i1 i2)), .second, .val (.long (mxL i1 i2)), .second, .val (.long (mnL i3 i4)), .second, .val (.long (mxL i3 i4)), .second, .val (.ref b105), .val (.ref b107), .val (.int (1 : Int32))] [(.ref b105), (.ref b105)])) rfl (by rw [hml]; rfl) (Steps.refl _) (argsL := [(.ref b105)]) (rest := []) (lenOf pd__Lcom_example_probex_probex_count_InputRange__Z rfl) rfl (by show 2 * 0 + _ ≤ _; exact Nat.le_of_eq rfl) (hb hby at_107) (fun _ _ => ⟨rfl, e121, (by decide : 2 + 0 ≤ _), (by decide : 4 + 0 ≤ _)⟩)
      dsimp only [Pt.U, Pt.locs, Pt.cells, Pt.slots] at X122 l122 y122 z122 st122 hQ122
      subst l122 y122 z122
      obtain ⟨rfl, rfl, e122⟩ := hQ122
      have N122 := Fr.app N121 (Fr.nil n0)
      have P123 : ∀ t, Steps p.tables e below (T122.setTop (mkF m 118 #[.val (.long i1), .second, .val (.long i2), .second, .val (.long i3), .second, .val (.long i4), .second, .val (.long (mnL i1 i2)), .second, .val (.long (mxL i1 i2)), .second, .val (.long (mnL i3 i4)), .second, .val (.long (mxL i3 i4)), .second, .val (.ref b105), .val (.ref b107), .val (.int (1 : Int32))] [(.int (1 : Int32))])) t → Steps p.tables e below (s₁.setTop (entryFrame m #[(.long i1), (.long i2), (.long i3), (.long i4)] maxLocals)) t := fun t kt => P119 t (by
        show Steps p.tables e below (T118.setTop (mkF m 81 #[.val (.long i1), .second, .val (.long i2), .second, .val (.long i3), .second, .val (.long i4), .second, .val (.long (mnL i1 i2)), .second, .val (.long (mxL i1 i2)), .second, .val (.long (mnL i3 i4)), .second, .val (.long (mxL i3 i4)), .second, .val (.ref b105), .val (.ref b107), .unset] [(.int (lcmpW (mxL (mxL i1 i2) (mxL i3 i4)) (mxL i1 i2)))])) _
        refine XS.ifNo X118.here hx rfl (hb hby at_81) rfl ((if0 _ _).trans (teq hc81_120).2) ?_
        show Steps p.tables e below (T118.setTop (mkF m 84 #[.val (.long i1), .second, .val (.long i2), .second, .val (.long i3), .second, .val (.long i4), .second, .val (.long (mnL i1 i2)), .second, .val (.long (mxL i1 i2)), .second, .val (.long (mnL i3 i4)), .second, .val (.long (mxL i3 i4)), .second, .val (.ref b105), .val (.ref b107), .unset] [])) _
        refine XS.iconst X118.here hx rfl (hb hby at_84) ?_
        show Steps p.tables e below (T118.setTop (mkF m 85 #[.val (.long i1), .second, .val (.long i2), .second, .val (.long i3), .second, .val (.long i4), .second, .val (.long (mnL i1 i2)), .second, .val (.long (mxL i1 i2)), .second, .val (.long (mnL i3 i4)), .second, .val (.long (mxL i3 i4)), .second, .val (.ref b105), .val (.ref b107), .unset] [(.int (1 : Int32))])) _
        refine XS.goto X118.here hx rfl (pc0 := 85) (pc' := 89) rfl (hb hby at_85) (by decide) (by decide) ?_
        show Steps p.tables e below (T118.setTop (mkF m 89 #[.val (.long i1), .second, .val (.long i2), .second, .val (.long i3), .second, .val (.long i4), .second, .val (.long (mnL i1 i2)), .second, .val (.long (mxL i1 i2)), .second, .val (.long (mnL i3 i4)), .second, .val (.long (mxL i3 i4)), .second, .val (.ref b105), .val (.ref b107), .unset] [(.int (1 : Int32))])) _
        refine XS.istore X118.here hx rfl (hb hby at_89) rfl (l' := #[.val (.long i1), .second, .val (.long i2), .second, .val (.long i3), .second, .val (.long i4), .second, .val (.long (mnL i1 i2)), .second, .val (.long (mxL i1 i2)), .second, .val (.long (mnL i3 i4)), .second, .val (.long (mxL i3 i4)), .second, .val (.ref b105), .val (.ref b107), .val (.int (1 : Int32))]) rfl ?_
        show Steps p.tables e below (T118.setTop (mkF m 91 #[.val (.long i1), .second, .val (.long i2), .second, .val (.long i3), .second, .val (.long i4), .second, .val (.long (mnL i1 i2)), .second, .val (.long (mxL i1 i2)), .second, .val (.long (mnL i3 i4)), .second, .val (.long (mxL i3 i4)), .second, .val (.ref b105), .val (.ref b107), .val (.int (1 : Int32))] [])) _
        refine XS.aload X118.here hx rfl (hb hby at_91) rfl rfl ?_
        show Steps p.tables e below (T118.setTop (mkF m 93 #[.val (.long i1), .second, .val (.long i2), .second, .val (.long i3), .second, .val (.long i4), .second, .val (.long (mnL i1 i2)), .second, .val (.long (mxL i1 i2)), .second, .val (.long (mnL i3 i4)), .second, .val (.long (mxL i3 i4)), .second, .val (.ref b105), .val (.ref b107), .val (.int (1 : Int32))] [(.ref b105)])) _
        refine XS.aload X118.here hx rfl (hb hby at_93) rfl rfl ?_
        show Steps p.tables e below (T118.setTop (mkF m 95 #[.val (.long i1), .second, .val (.long i2), .second, .val (.long i3), .second, .val (.long i4), .second, .val (.long (mnL i1 i2)), .second, .val (.long (mxL i1 i2)), .second, .val (.long (mnL i3 i4)), .second, .val (.long (mxL i3 i4)), .second, .val (.ref b105), .val (.ref b107), .val (.int (1 : Int32))] [(.ref b107), (.ref b105)])) _
        refine st121.trans ?_
        show Steps p.tables e below (T121.setTop (mkF m 98 #[.val (.long i1), .second, .val (.long i2), .second, .val (.long i3), .second, .val (.long i4), .second, .val (.long (mnL i1 i2)), .second, .val (.long (mxL i1 i2)), .second, .val (.long (mnL i3 i4)), .second, .val (.long (mxL i3 i4)), .second, .val (.ref b105), .val (.ref b107), .val (.int (1 : Int32))] [(.int (cvL (mnL i1 i2) (mxL i1 i2) (mnL i3 i4) (mxL i3 i4)))])) _
        refine XS.iload X121.here hx rfl (hb hby at_98) rfl ?_
        show Steps p.tables e below (T121.setTop (mkF m 100 #[.val (.long i1), .second, .val (.long i2), .second, .val (.long i3), .second, .val (.long i4), .second, .val (.long (mnL i1 i2)), .second, .val (.long (mxL i1 i2)), .second, .val (.long (mnL i3 i4)), .second, .val (.long (mxL i3 i4)), .second, .val (.ref b105), .val (.ref b107), .val (.int (1 : Int32))] [(.int (1 : Int32)), (.int (cvL (mnL i1 i2) (mxL i1 i2) (mnL i3 i4) (mxL i3 i4)))])) _
        refine XS.icmpNo X121.here hx rfl (hb hby at_100) rfl (teq (own_c1 _ _ _ _ hc68_117 hc81_120 : (cvL (mnL i1 i2) (mxL i1 i2) (mnL i3 i4) (mxL i3 i4)) = (1 : Int32))).2 ?_
        show Steps p.tables e below (T121.setTop (mkF m 103 #[.val (.long i1), .second, .val (.long i2), .second, .val (.long i3), .second, .val (.long i4), .second, .val (.long (mnL i1 i2)), .second, .val (.long (mxL i1 i2)), .second, .val (.long (mnL i3 i4)), .second, .val (.long (mxL i3 i4)), .second, .val (.ref b105), .val (.ref b107), .val (.int (1 : Int32))] [])) _
        refine XS.aload X121.here hx rfl (hb hby at_103) rfl rfl ?_
        show Steps p.tables e below (T121.setTop (mkF m 105 #[.val (.long i1), .second, .val (.long i2), .second, .val (.long i3), .second, .val (.long i4), .second, .val (.long (mnL i1 i2)), .second, .val (.long (mxL i1 i2)), .second, .val (.long (mnL i3 i4)), .second, .val (.long (mxL i3 i4)), .second, .val (.ref b105), .val (.ref b107), .val (.int (1 : Int32))] [(.ref b105)])) _
        refine XS.aload X121.here hx rfl (hb hby at_105) rfl rfl ?_
        show Steps p.tables e below (T121.setTop (mkF m 107 #[.val (.long i1), .second, .val (.long i2), .second, .val (.long i3), .second, .val (.long i4), .second, .val (.long (mnL i1 i2)), .second, .val (.long (mxL i1 i2)), .second, .val (.long (mnL i3 i4)), .second, .val (.long (mxL i3 i4)), .second, .val (.ref b105), .val (.ref b107), .val (.int (1 : Int32))] [(.ref b105), (.ref b105)])) _
        refine st122.trans ?_
        show Steps p.tables e below (T122.setTop (mkF m 110 #[.val (.long i1), .second, .val (.long i2), .second, .val (.long i3), .second, .val (.long i4), .second, .val (.long (mnL i1 i2)), .second, .val (.long (mxL i1 i2)), .second, .val (.long (mnL i3 i4)), .second, .val (.long (mxL i3 i4)), .second, .val (.ref b105), .val (.ref b107), .val (.int (1 : Int32))] [(.int (cvL (mnL i1 i2) (mxL i1 i2) (mnL i1 i2) (mxL i1 i2)))])) _
        refine XS.ifNo X122.here hx rfl (hb hby at_110) rfl ((if0 _ _).trans (feq (by rw [own_self]; decide : ¬ ((cvL (mnL i1 i2) (mxL i1 i2) (mnL i1 i2) (mxL i1 i2)) = (0 : Int32)))).1) ?_
        show Steps p.tables e below (T122.setTop (mkF m 113 #[.val (.long i1), .second, .val (.long i2), .second, .val (.long i3), .second, .val (.long i4), .second, .val (.long (mnL i1 i2)), .second, .val (.long (mxL i1 i2)), .second, .val (.long (mnL i3 i4)), .second, .val (.long (mxL i3 i4)), .second, .val (.ref b105), .val (.ref b107), .val (.int (1 : Int32))] [])) _
        refine XS.iconst X122.here hx rfl (hb hby at_113) ?_
        show Steps p.tables e below (T122.setTop (mkF m 114 #[.val (.long i1), .second, .val (.long i2), .second, .val (.long i3), .second, .val (.long i4), .second, .val (.long (mnL i1 i2)), .second, .val (.long (mxL i1 i2)), .second, .val (.long (mnL i3 i4)), .second, .val (.long (mxL i3 i4)), .second, .val (.ref b105), .val (.ref b107), .val (.int (1 : Int32))] [(.int (1 : Int32))])) _
        refine XS.goto X122.here hx rfl (pc0 := 114) (pc' := 118) rfl (hb hby at_114) (by decide) (by decide) ?_
        exact kt)
      obtain ⟨fs, hr, hrun, hended, hW, hsame⟩ := X122.leave (v := some (.int (1 : Int32))) (fun h => by rw [Bd.returns] at h; cases h) (hlocks := hlk)
      refine ⟨_, _, P123 _ ?_, hrun, hended, _, _, rfl, ?_, ⟨_, rfl⟩, hW, hsame.mono (by decide) (by decide)⟩
      · show Steps p.tables e below (T122.setTop (mkF m 118 #[.val (.long i1), .second, .val (.long i2), .second, .val (.long i3), .second, .val (.long i4), .second, .val (.long (mnL i1 i2)), .second, .val (.long (mxL i1 i2)), .second, .val (.long (mnL i3 i4)), .second, .val (.long (mxL i3 i4)), .second, .val (.ref b105), .val (.ref b107), .val (.int (1 : Int32))] [(.int (1 : Int32))])) _
        exact retN X122 hx (t := .boolean) Bd.returns (by simp) (hb hby at_118) hr
      · show Q0 n0 _ T122.heap _
        exact ⟨rfl, N122⟩
    · obtain ⟨cq124, kq124, q124a, q124b, q124c⟩ := isOf hZ e118 f112
      obtain ⟨_, _, ⟨T124, L124, k124, n124⟩, -, X124, ⟨Lc124, hQ124, l124, y124, z124⟩, st124⟩ := X118.virtualBack hx (y := (⟨"com/example/probex/probex/count/InputRange", "covers", "(Lcom/example/probex/probex/count/InputRange;)Z"⟩ : MethodName)) (z := (⟨"com/example/probex/probex/count/InputRange", "covers", "(Lcom/example/probex/probex/count/InputRange;)Z"⟩ : MethodName)) hown (mvT hZ (hw _ (List.mem_of_getElem? (i := 25) rfl))) (mvT hZ (hw _ (List.mem_of_getElem? (i := 26) rfl))) (notFace_of_selects (args := #[]) (mvT hZ (hw _ (List.mem_of_getElem? (i := 28) rfl)))) (mvT hZ (hw _ (List.mem_of_getElem? (i := 28) rfl))) (mvT hZ (hw _ (List.mem_of_getElem? (i := 27) rfl))) (by decide) (backOf (W := 0)  (rmV l Z a0 hw [] b105 b107 (mnL i1 i2) (mxL i1 i2) (mnL i3 i4) (mxL i3 i4) T111.heap f113 f114 F111l F111h) hZ (hw _ (List.mem_of_getElem? (i := 29) rfl)) (hw _ (List.mem_of_getElem? (i := 9) rfl)) (by decide) (by decide)) q124a q124c (g := (mkF m 95 #[.val (.long i1), .second, .val (.long i2), .second, .val (.long i3), .second, .val (.long i4), .second, .val (.long (mnL i1 i2)), .second, .val (.long (mxL i1 i2)), .second, .val (.long (mnL i3 i4)), .second, .val (.long (mxL i3 i4)), .second, .val (.ref b105), .val (.ref b107), .val (.int (0 : Int32))] [(.ref b107), (.ref b105)])) rfl (by rw [hml]; rfl) (Steps.refl _) (argsL := [(.ref b107)]) (rest := []) (lenOf pd__Lcom_example_probex_probex_count_InputRange__Z rfl) rfl (by show 2 * 0 + _ ≤ _; exact Nat.le_of_eq rfl) (hb hby at_95) (fun _ _ => ⟨rfl, e118, (by decide : 2 + 0 ≤ _), (by decide : 4 + 0 ≤ _)⟩)
      dsimp only [Pt.U, Pt.locs, Pt.cells, Pt.slots] at X124 l124 y124 z124 st124 hQ124
      subst l124 y124 z124
      obtain ⟨rfl, rfl, e124⟩ := hQ124
      have N124 := Fr.app N118 (Fr.nil n0)
      obtain ⟨cq125, kq125, q125a, q125b, q125c⟩ := isOf hZ e124 f112
      obtain ⟨_, _, ⟨T125, L125, k125, n125⟩, -, X125, ⟨Lc125, hQ125, l125, y125, z125⟩, st125⟩ := X124.virtualBack hx (y := (⟨"com/example/probex/probex/count/InputRange", "covers", "(Lcom/example/probex/probex/count/InputRange;)Z"⟩ : MethodName)) (z := (⟨"com/example/probex/probex/count/InputRange", "covers", "(Lcom/example/probex/probex/count/InputRange;)Z"⟩ : MethodName)) hown (mvT hZ (hw _ (List.mem_of_getElem? (i := 25) rfl))) (mvT hZ (hw _ (List.mem_of_getElem? (i := 26) rfl))) (notFace_of_selects (args := #[]) (mvT hZ (hw _ (List.mem_of_getElem? (i := 28) rfl)))) (mvT hZ (hw _ (List.mem_of_getElem? (i := 28) rfl))) (mvT hZ (hw _ (List.mem_of_getElem? (i := 27) rfl))) (by decide) (backOf (W := 0)  (rmV l Z a0 hw [] b105 b105 (mnL i1 i2) (mxL i1 i2) (mnL i1 i2) (mxL i1 i2) T111.heap f113 f114 f113 f114) hZ (hw _ (List.mem_of_getElem? (i := 29) rfl)) (hw _ (List.mem_of_getElem? (i := 9) rfl)) (by decide) (by decide)) q125a q125c (g := (mkF m 107 #[.val (.long i1), .second, .val (.long i2), .second, .val (.long i3), .second, .val (.long i4), .second, .val (.long (mnL i1 i2)), .second, .val (.long (mxL i1 i2)), .second, .val (.long (mnL i3 i4)), .second, .val (.long (mxL i3 i4)), .second, .val (.ref b105), .val (.ref b107), .val (.int (0 : Int32))] [(.ref b105), (.ref b105)])) rfl (by rw [hml]; rfl) (Steps.refl _) (argsL := [(.ref b105)]) (rest := []) (lenOf pd__Lcom_example_probex_probex_count_InputRange__Z rfl) rfl (by show 2 * 0 + _ ≤ _; exact Nat.le_of_eq rfl) (hb hby at_107) (fun _ _ => ⟨rfl, e124, (by decide : 2 + 0 ≤ _), (by decide : 4 + 0 ≤ _)⟩)
      dsimp only [Pt.U, Pt.locs, Pt.cells, Pt.slots] at X125 l125 y125 z125 st125 hQ125
      subst l125 y125 z125
      obtain ⟨rfl, rfl, e125⟩ := hQ125
      have N125 := Fr.app N124 (Fr.nil n0)
      have P126 : ∀ t, Steps p.tables e below (T125.setTop (mkF m 118 #[.val (.long i1), .second, .val (.long i2), .second, .val (.long i3), .second, .val (.long i4), .second, .val (.long (mnL i1 i2)), .second, .val (.long (mxL i1 i2)), .second, .val (.long (mnL i3 i4)), .second, .val (.long (mxL i3 i4)), .second, .val (.ref b105), .val (.ref b107), .val (.int (0 : Int32))] [(.int (1 : Int32))])) t → Steps p.tables e below (s₁.setTop (entryFrame m #[(.long i1), (.long i2), (.long i3), (.long i4)] maxLocals)) t := fun t kt => P119 t (by
        show Steps p.tables e below (T118.setTop (mkF m 81 #[.val (.long i1), .second, .val (.long i2), .second, .val (.long i3), .second, .val (.long i4), .second, .val (.long (mnL i1 i2)), .second, .val (.long (mxL i1 i2)), .second, .val (.long (mnL i3 i4)), .second, .val (.long (mxL i3 i4)), .second, .val (.ref b105), .val (.ref b107), .unset] [(.int (lcmpW (mxL (mxL i1 i2) (mxL i3 i4)) (mxL i1 i2)))])) _
        refine XS.ifYes X118.here hx rfl (pc0 := 81) (pc' := 88) rfl (hb hby at_81) rfl ((if0 _ _).trans (feq hc81_120).2) (by decide) (by decide) ?_
        show Steps p.tables e below (T118.setTop (mkF m 88 #[.val (.long i1), .second, .val (.long i2), .second, .val (.long i3), .second, .val (.long i4), .second, .val (.long (mnL i1 i2)), .second, .val (.long (mxL i1 i2)), .second, .val (.long (mnL i3 i4)), .second, .val (.long (mxL i3 i4)), .second, .val (.ref b105), .val (.ref b107), .unset] [])) _
        refine XS.iconst X118.here hx rfl (hb hby at_88) ?_
        show Steps p.tables e below (T118.setTop (mkF m 89 #[.val (.long i1), .second, .val (.long i2), .second, .val (.long i3), .second, .val (.long i4), .second, .val (.long (mnL i1 i2)), .second, .val (.long (mxL i1 i2)), .second, .val (.long (mnL i3 i4)), .second, .val (.long (mxL i3 i4)), .second, .val (.ref b105), .val (.ref b107), .unset] [(.int (0 : Int32))])) _
        refine XS.istore X118.here hx rfl (hb hby at_89) rfl (l' := #[.val (.long i1), .second, .val (.long i2), .second, .val (.long i3), .second, .val (.long i4), .second, .val (.long (mnL i1 i2)), .second, .val (.long (mxL i1 i2)), .second, .val (.long (mnL i3 i4)), .second, .val (.long (mxL i3 i4)), .second, .val (.ref b105), .val (.ref b107), .val (.int (0 : Int32))]) rfl ?_
        show Steps p.tables e below (T118.setTop (mkF m 91 #[.val (.long i1), .second, .val (.long i2), .second, .val (.long i3), .second, .val (.long i4), .second, .val (.long (mnL i1 i2)), .second, .val (.long (mxL i1 i2)), .second, .val (.long (mnL i3 i4)), .second, .val (.long (mxL i3 i4)), .second, .val (.ref b105), .val (.ref b107), .val (.int (0 : Int32))] [])) _
        refine XS.aload X118.here hx rfl (hb hby at_91) rfl rfl ?_
        show Steps p.tables e below (T118.setTop (mkF m 93 #[.val (.long i1), .second, .val (.long i2), .second, .val (.long i3), .second, .val (.long i4), .second, .val (.long (mnL i1 i2)), .second, .val (.long (mxL i1 i2)), .second, .val (.long (mnL i3 i4)), .second, .val (.long (mxL i3 i4)), .second, .val (.ref b105), .val (.ref b107), .val (.int (0 : Int32))] [(.ref b105)])) _
        refine XS.aload X118.here hx rfl (hb hby at_93) rfl rfl ?_
        show Steps p.tables e below (T118.setTop (mkF m 95 #[.val (.long i1), .second, .val (.long i2), .second, .val (.long i3), .second, .val (.long i4), .second, .val (.long (mnL i1 i2)), .second, .val (.long (mxL i1 i2)), .second, .val (.long (mnL i3 i4)), .second, .val (.long (mxL i3 i4)), .second, .val (.ref b105), .val (.ref b107), .val (.int (0 : Int32))] [(.ref b107), (.ref b105)])) _
        refine st124.trans ?_
        show Steps p.tables e below (T124.setTop (mkF m 98 #[.val (.long i1), .second, .val (.long i2), .second, .val (.long i3), .second, .val (.long i4), .second, .val (.long (mnL i1 i2)), .second, .val (.long (mxL i1 i2)), .second, .val (.long (mnL i3 i4)), .second, .val (.long (mxL i3 i4)), .second, .val (.ref b105), .val (.ref b107), .val (.int (0 : Int32))] [(.int (cvL (mnL i1 i2) (mxL i1 i2) (mnL i3 i4) (mxL i3 i4)))])) _
        refine XS.iload X124.here hx rfl (hb hby at_98) rfl ?_
        show Steps p.tables e below (T124.setTop (mkF m 100 #[.val (.long i1), .second, .val (.long i2), .second, .val (.long i3), .second, .val (.long i4), .second, .val (.long (mnL i1 i2)), .second, .val (.long (mxL i1 i2)), .second, .val (.long (mnL i3 i4)), .second, .val (.long (mxL i3 i4)), .second, .val (.ref b105), .val (.ref b107), .val (.int (0 : Int32))] [(.int (0 : Int32)), (.int (cvL (mnL i1 i2) (mxL i1 i2) (mnL i3 i4) (mxL i3 i4)))])) _
        refine XS.icmpNo X124.here hx rfl (hb hby at_100) rfl (teq (own_c3 _ _ _ _ hc81_120 : (cvL (mnL i1 i2) (mxL i1 i2) (mnL i3 i4) (mxL i3 i4)) = (0 : Int32))).2 ?_
        show Steps p.tables e below (T124.setTop (mkF m 103 #[.val (.long i1), .second, .val (.long i2), .second, .val (.long i3), .second, .val (.long i4), .second, .val (.long (mnL i1 i2)), .second, .val (.long (mxL i1 i2)), .second, .val (.long (mnL i3 i4)), .second, .val (.long (mxL i3 i4)), .second, .val (.ref b105), .val (.ref b107), .val (.int (0 : Int32))] [])) _
        refine XS.aload X124.here hx rfl (hb hby at_103) rfl rfl ?_
        show Steps p.tables e below (T124.setTop (mkF m 105 #[.val (.long i1), .second, .val (.long i2), .second, .val (.long i3), .second, .val (.long i4), .second, .val (.long (mnL i1 i2)), .second, .val (.long (mxL i1 i2)), .second, .val (.long (mnL i3 i4)), .second, .val (.long (mxL i3 i4)), .second, .val (.ref b105), .val (.ref b107), .val (.int (0 : Int32))] [(.ref b105)])) _
        refine XS.aload X124.here hx rfl (hb hby at_105) rfl rfl ?_
        show Steps p.tables e below (T124.setTop (mkF m 107 #[.val (.long i1), .second, .val (.long i2), .second, .val (.long i3), .second, .val (.long i4), .second, .val (.long (mnL i1 i2)), .second, .val (.long (mxL i1 i2)), .second, .val (.long (mnL i3 i4)), .second, .val (.long (mxL i3 i4)), .second, .val (.ref b105), .val (.ref b107), .val (.int (0 : Int32))] [(.ref b105), (.ref b105)])) _
        refine st125.trans ?_
        show Steps p.tables e below (T125.setTop (mkF m 110 #[.val (.long i1), .second, .val (.long i2), .second, .val (.long i3), .second, .val (.long i4), .second, .val (.long (mnL i1 i2)), .second, .val (.long (mxL i1 i2)), .second, .val (.long (mnL i3 i4)), .second, .val (.long (mxL i3 i4)), .second, .val (.ref b105), .val (.ref b107), .val (.int (0 : Int32))] [(.int (cvL (mnL i1 i2) (mxL i1 i2) (mnL i1 i2) (mxL i1 i2)))])) _
        refine XS.ifNo X125.here hx rfl (hb hby at_110) rfl ((if0 _ _).trans (feq (by rw [own_self]; decide : ¬ ((cvL (mnL i1 i2) (mxL i1 i2) (mnL i1 i2) (mxL i1 i2)) = (0 : Int32)))).1) ?_
        show Steps p.tables e below (T125.setTop (mkF m 113 #[.val (.long i1), .second, .val (.long i2), .second, .val (.long i3), .second, .val (.long i4), .second, .val (.long (mnL i1 i2)), .second, .val (.long (mxL i1 i2)), .second, .val (.long (mnL i3 i4)), .second, .val (.long (mxL i3 i4)), .second, .val (.ref b105), .val (.ref b107), .val (.int (0 : Int32))] [])) _
        refine XS.iconst X125.here hx rfl (hb hby at_113) ?_
        show Steps p.tables e below (T125.setTop (mkF m 114 #[.val (.long i1), .second, .val (.long i2), .second, .val (.long i3), .second, .val (.long i4), .second, .val (.long (mnL i1 i2)), .second, .val (.long (mxL i1 i2)), .second, .val (.long (mnL i3 i4)), .second, .val (.long (mxL i3 i4)), .second, .val (.ref b105), .val (.ref b107), .val (.int (0 : Int32))] [(.int (1 : Int32))])) _
        refine XS.goto X125.here hx rfl (pc0 := 114) (pc' := 118) rfl (hb hby at_114) (by decide) (by decide) ?_
        exact kt)
      obtain ⟨fs, hr, hrun, hended, hW, hsame⟩ := X125.leave (v := some (.int (1 : Int32))) (fun h => by rw [Bd.returns] at h; cases h) (hlocks := hlk)
      refine ⟨_, _, P126 _ ?_, hrun, hended, _, _, rfl, ?_, ⟨_, rfl⟩, hW, hsame.mono (by decide) (by decide)⟩
      · show Steps p.tables e below (T125.setTop (mkF m 118 #[.val (.long i1), .second, .val (.long i2), .second, .val (.long i3), .second, .val (.long i4), .second, .val (.long (mnL i1 i2)), .second, .val (.long (mxL i1 i2)), .second, .val (.long (mnL i3 i4)), .second, .val (.long (mxL i3 i4)), .second, .val (.ref b105), .val (.ref b107), .val (.int (0 : Int32))] [(.int (1 : Int32))])) _
        exact retN X125 hx (t := .boolean) Bd.returns (by simp) (hb hby at_118) hr
      · show Q0 n0 _ T125.heap _
        exact ⟨rfl, N125⟩
  · obtain ⟨cq127, kq127, q127a, q127b, q127c⟩ := isOf hZ e115 f112
    obtain ⟨_, _, ⟨T127, L127, k127, n127⟩, -, X127, ⟨Lc127, hQ127, l127, y127, z127⟩, st127⟩ := X115.virtualBack hx (y := (⟨"com/example/probex/probex/count/InputRange", "covers", "(Lcom/example/probex/probex/count/InputRange;)Z"⟩ : MethodName)) (z := (⟨"com/example/probex/probex/count/InputRange", "covers", "(Lcom/example/probex/probex/count/InputRange;)Z"⟩ : MethodName)) hown (mvT hZ (hw _ (List.mem_of_getElem? (i := 25) rfl))) (mvT hZ (hw _ (List.mem_of_getElem? (i := 26) rfl))) (notFace_of_selects (args := #[]) (mvT hZ (hw _ (List.mem_of_getElem? (i := 28) rfl)))) (mvT hZ (hw _ (List.mem_of_getElem? (i := 28) rfl))) (mvT hZ (hw _ (List.mem_of_getElem? (i := 27) rfl))) (by decide) (backOf (W := 0)  (rmV l Z a0 hw [] b105 b107 (mnL i1 i2) (mxL i1 i2) (mnL i3 i4) (mxL i3 i4) T111.heap f113 f114 F111l F111h) hZ (hw _ (List.mem_of_getElem? (i := 29) rfl)) (hw _ (List.mem_of_getElem? (i := 9) rfl)) (by decide) (by decide)) q127a q127c (g := (mkF m 95 #[.val (.long i1), .second, .val (.long i2), .second, .val (.long i3), .second, .val (.long i4), .second, .val (.long (mnL i1 i2)), .second, .val (.long (mxL i1 i2)), .second, .val (.long (mnL i3 i4)), .second, .val (.long (mxL i3 i4)), .second, .val (.ref b105), .val (.ref b107), .val (.int (0 : Int32))] [(.ref b107), (.ref b105)])) rfl (by rw [hml]; rfl) (Steps.refl _) (argsL := [(.ref b107)]) (rest := []) (lenOf pd__Lcom_example_probex_probex_count_InputRange__Z rfl) rfl (by show 2 * 0 + _ ≤ _; exact Nat.le_of_eq rfl) (hb hby at_95) (fun _ _ => ⟨rfl, e115, (by decide : 2 + 0 ≤ _), (by decide : 4 + 0 ≤ _)⟩)
    dsimp only [Pt.U, Pt.locs, Pt.cells, Pt.slots] at X127 l127 y127 z127 st127 hQ127
    subst l127 y127 z127
    obtain ⟨rfl, rfl, e127⟩ := hQ127
    have N127 := Fr.app N115 (Fr.nil n0)
    obtain ⟨cq128, kq128, q128a, q128b, q128c⟩ := isOf hZ e127 f112
    obtain ⟨_, _, ⟨T128, L128, k128, n128⟩, -, X128, ⟨Lc128, hQ128, l128, y128, z128⟩, st128⟩ := X127.virtualBack hx (y := (⟨"com/example/probex/probex/count/InputRange", "covers", "(Lcom/example/probex/probex/count/InputRange;)Z"⟩ : MethodName)) (z := (⟨"com/example/probex/probex/count/InputRange", "covers", "(Lcom/example/probex/probex/count/InputRange;)Z"⟩ : MethodName)) hown (mvT hZ (hw _ (List.mem_of_getElem? (i := 25) rfl))) (mvT hZ (hw _ (List.mem_of_getElem? (i := 26) rfl))) (notFace_of_selects (args := #[]) (mvT hZ (hw _ (List.mem_of_getElem? (i := 28) rfl)))) (mvT hZ (hw _ (List.mem_of_getElem? (i := 28) rfl))) (mvT hZ (hw _ (List.mem_of_getElem? (i := 27) rfl))) (by decide) (backOf (W := 0)  (rmV l Z a0 hw [] b105 b105 (mnL i1 i2) (mxL i1 i2) (mnL i1 i2) (mxL i1 i2) T111.heap f113 f114 f113 f114) hZ (hw _ (List.mem_of_getElem? (i := 29) rfl)) (hw _ (List.mem_of_getElem? (i := 9) rfl)) (by decide) (by decide)) q128a q128c (g := (mkF m 107 #[.val (.long i1), .second, .val (.long i2), .second, .val (.long i3), .second, .val (.long i4), .second, .val (.long (mnL i1 i2)), .second, .val (.long (mxL i1 i2)), .second, .val (.long (mnL i3 i4)), .second, .val (.long (mxL i3 i4)), .second, .val (.ref b105), .val (.ref b107), .val (.int (0 : Int32))] [(.ref b105), (.ref b105)])) rfl (by rw [hml]; rfl) (Steps.refl _) (argsL := [(.ref b105)]) (rest := []) (lenOf pd__Lcom_example_probex_probex_count_InputRange__Z rfl) rfl (by show 2 * 0 + _ ≤ _; exact Nat.le_of_eq rfl) (hb hby at_107) (fun _ _ => ⟨rfl, e127, (by decide : 2 + 0 ≤ _), (by decide : 4 + 0 ≤ _)⟩)
    dsimp only [Pt.U, Pt.locs, Pt.cells, Pt.slots] at X128 l128 y128 z128 st128 hQ128
    subst l128 y128 z128
    obtain ⟨rfl, rfl, e128⟩ := hQ128
    have N128 := Fr.app N127 (Fr.nil n0)
    have P129 : ∀ t, Steps p.tables e below (T128.setTop (mkF m 118 #[.val (.long i1), .second, .val (.long i2), .second, .val (.long i3), .second, .val (.long i4), .second, .val (.long (mnL i1 i2)), .second, .val (.long (mxL i1 i2)), .second, .val (.long (mnL i3 i4)), .second, .val (.long (mxL i3 i4)), .second, .val (.ref b105), .val (.ref b107), .val (.int (0 : Int32))] [(.int (1 : Int32))])) t → Steps p.tables e below (s₁.setTop (entryFrame m #[(.long i1), (.long i2), (.long i3), (.long i4)] maxLocals)) t := fun t kt => P116 t (by
      show Steps p.tables e below (T115.setTop (mkF m 68 #[.val (.long i1), .second, .val (.long i2), .second, .val (.long i3), .second, .val (.long i4), .second, .val (.long (mnL i1 i2)), .second, .val (.long (mxL i1 i2)), .second, .val (.long (mnL i3 i4)), .second, .val (.long (mxL i3 i4)), .second, .val (.ref b105), .val (.ref b107), .unset] [(.int (lcmpW (mnL (mnL i1 i2) (mnL i3 i4)) (mnL i1 i2)))])) _
      refine XS.ifYes X115.here hx rfl (pc0 := 68) (pc' := 88) rfl (hb hby at_68) rfl ((if0 _ _).trans (feq hc68_117).2) (by decide) (by decide) ?_
      show Steps p.tables e below (T115.setTop (mkF m 88 #[.val (.long i1), .second, .val (.long i2), .second, .val (.long i3), .second, .val (.long i4), .second, .val (.long (mnL i1 i2)), .second, .val (.long (mxL i1 i2)), .second, .val (.long (mnL i3 i4)), .second, .val (.long (mxL i3 i4)), .second, .val (.ref b105), .val (.ref b107), .unset] [])) _
      refine XS.iconst X115.here hx rfl (hb hby at_88) ?_
      show Steps p.tables e below (T115.setTop (mkF m 89 #[.val (.long i1), .second, .val (.long i2), .second, .val (.long i3), .second, .val (.long i4), .second, .val (.long (mnL i1 i2)), .second, .val (.long (mxL i1 i2)), .second, .val (.long (mnL i3 i4)), .second, .val (.long (mxL i3 i4)), .second, .val (.ref b105), .val (.ref b107), .unset] [(.int (0 : Int32))])) _
      refine XS.istore X115.here hx rfl (hb hby at_89) rfl (l' := #[.val (.long i1), .second, .val (.long i2), .second, .val (.long i3), .second, .val (.long i4), .second, .val (.long (mnL i1 i2)), .second, .val (.long (mxL i1 i2)), .second, .val (.long (mnL i3 i4)), .second, .val (.long (mxL i3 i4)), .second, .val (.ref b105), .val (.ref b107), .val (.int (0 : Int32))]) rfl ?_
      show Steps p.tables e below (T115.setTop (mkF m 91 #[.val (.long i1), .second, .val (.long i2), .second, .val (.long i3), .second, .val (.long i4), .second, .val (.long (mnL i1 i2)), .second, .val (.long (mxL i1 i2)), .second, .val (.long (mnL i3 i4)), .second, .val (.long (mxL i3 i4)), .second, .val (.ref b105), .val (.ref b107), .val (.int (0 : Int32))] [])) _
      refine XS.aload X115.here hx rfl (hb hby at_91) rfl rfl ?_
      show Steps p.tables e below (T115.setTop (mkF m 93 #[.val (.long i1), .second, .val (.long i2), .second, .val (.long i3), .second, .val (.long i4), .second, .val (.long (mnL i1 i2)), .second, .val (.long (mxL i1 i2)), .second, .val (.long (mnL i3 i4)), .second, .val (.long (mxL i3 i4)), .second, .val (.ref b105), .val (.ref b107), .val (.int (0 : Int32))] [(.ref b105)])) _
      refine XS.aload X115.here hx rfl (hb hby at_93) rfl rfl ?_
      show Steps p.tables e below (T115.setTop (mkF m 95 #[.val (.long i1), .second, .val (.long i2), .second, .val (.long i3), .second, .val (.long i4), .second, .val (.long (mnL i1 i2)), .second, .val (.long (mxL i1 i2)), .second, .val (.long (mnL i3 i4)), .second, .val (.long (mxL i3 i4)), .second, .val (.ref b105), .val (.ref b107), .val (.int (0 : Int32))] [(.ref b107), (.ref b105)])) _
      refine st127.trans ?_
      show Steps p.tables e below (T127.setTop (mkF m 98 #[.val (.long i1), .second, .val (.long i2), .second, .val (.long i3), .second, .val (.long i4), .second, .val (.long (mnL i1 i2)), .second, .val (.long (mxL i1 i2)), .second, .val (.long (mnL i3 i4)), .second, .val (.long (mxL i3 i4)), .second, .val (.ref b105), .val (.ref b107), .val (.int (0 : Int32))] [(.int (cvL (mnL i1 i2) (mxL i1 i2) (mnL i3 i4) (mxL i3 i4)))])) _
      refine XS.iload X127.here hx rfl (hb hby at_98) rfl ?_
      show Steps p.tables e below (T127.setTop (mkF m 100 #[.val (.long i1), .second, .val (.long i2), .second, .val (.long i3), .second, .val (.long i4), .second, .val (.long (mnL i1 i2)), .second, .val (.long (mxL i1 i2)), .second, .val (.long (mnL i3 i4)), .second, .val (.long (mxL i3 i4)), .second, .val (.ref b105), .val (.ref b107), .val (.int (0 : Int32))] [(.int (0 : Int32)), (.int (cvL (mnL i1 i2) (mxL i1 i2) (mnL i3 i4) (mxL i3 i4)))])) _
      refine XS.icmpNo X127.here hx rfl (hb hby at_100) rfl (teq (own_c2 _ _ _ _ hc68_117 : (cvL (mnL i1 i2) (mxL i1 i2) (mnL i3 i4) (mxL i3 i4)) = (0 : Int32))).2 ?_
      show Steps p.tables e below (T127.setTop (mkF m 103 #[.val (.long i1), .second, .val (.long i2), .second, .val (.long i3), .second, .val (.long i4), .second, .val (.long (mnL i1 i2)), .second, .val (.long (mxL i1 i2)), .second, .val (.long (mnL i3 i4)), .second, .val (.long (mxL i3 i4)), .second, .val (.ref b105), .val (.ref b107), .val (.int (0 : Int32))] [])) _
      refine XS.aload X127.here hx rfl (hb hby at_103) rfl rfl ?_
      show Steps p.tables e below (T127.setTop (mkF m 105 #[.val (.long i1), .second, .val (.long i2), .second, .val (.long i3), .second, .val (.long i4), .second, .val (.long (mnL i1 i2)), .second, .val (.long (mxL i1 i2)), .second, .val (.long (mnL i3 i4)), .second, .val (.long (mxL i3 i4)), .second, .val (.ref b105), .val (.ref b107), .val (.int (0 : Int32))] [(.ref b105)])) _
      refine XS.aload X127.here hx rfl (hb hby at_105) rfl rfl ?_
      show Steps p.tables e below (T127.setTop (mkF m 107 #[.val (.long i1), .second, .val (.long i2), .second, .val (.long i3), .second, .val (.long i4), .second, .val (.long (mnL i1 i2)), .second, .val (.long (mxL i1 i2)), .second, .val (.long (mnL i3 i4)), .second, .val (.long (mxL i3 i4)), .second, .val (.ref b105), .val (.ref b107), .val (.int (0 : Int32))] [(.ref b105), (.ref b105)])) _
      refine st128.trans ?_
      show Steps p.tables e below (T128.setTop (mkF m 110 #[.val (.long i1), .second, .val (.long i2), .second, .val (.long i3), .second, .val (.long i4), .second, .val (.long (mnL i1 i2)), .second, .val (.long (mxL i1 i2)), .second, .val (.long (mnL i3 i4)), .second, .val (.long (mxL i3 i4)), .second, .val (.ref b105), .val (.ref b107), .val (.int (0 : Int32))] [(.int (cvL (mnL i1 i2) (mxL i1 i2) (mnL i1 i2) (mxL i1 i2)))])) _
      refine XS.ifNo X128.here hx rfl (hb hby at_110) rfl ((if0 _ _).trans (feq (by rw [own_self]; decide : ¬ ((cvL (mnL i1 i2) (mxL i1 i2) (mnL i1 i2) (mxL i1 i2)) = (0 : Int32)))).1) ?_
      show Steps p.tables e below (T128.setTop (mkF m 113 #[.val (.long i1), .second, .val (.long i2), .second, .val (.long i3), .second, .val (.long i4), .second, .val (.long (mnL i1 i2)), .second, .val (.long (mxL i1 i2)), .second, .val (.long (mnL i3 i4)), .second, .val (.long (mxL i3 i4)), .second, .val (.ref b105), .val (.ref b107), .val (.int (0 : Int32))] [])) _
      refine XS.iconst X128.here hx rfl (hb hby at_113) ?_
      show Steps p.tables e below (T128.setTop (mkF m 114 #[.val (.long i1), .second, .val (.long i2), .second, .val (.long i3), .second, .val (.long i4), .second, .val (.long (mnL i1 i2)), .second, .val (.long (mxL i1 i2)), .second, .val (.long (mnL i3 i4)), .second, .val (.long (mxL i3 i4)), .second, .val (.ref b105), .val (.ref b107), .val (.int (0 : Int32))] [(.int (1 : Int32))])) _
      refine XS.goto X128.here hx rfl (pc0 := 114) (pc' := 118) rfl (hb hby at_114) (by decide) (by decide) ?_
      exact kt)
    obtain ⟨fs, hr, hrun, hended, hW, hsame⟩ := X128.leave (v := some (.int (1 : Int32))) (fun h => by rw [Bd.returns] at h; cases h) (hlocks := hlk)
    refine ⟨_, _, P129 _ ?_, hrun, hended, _, _, rfl, ?_, ⟨_, rfl⟩, hW, hsame.mono (by decide) (by decide)⟩
    · show Steps p.tables e below (T128.setTop (mkF m 118 #[.val (.long i1), .second, .val (.long i2), .second, .val (.long i3), .second, .val (.long i4), .second, .val (.long (mnL i1 i2)), .second, .val (.long (mxL i1 i2)), .second, .val (.long (mnL i3 i4)), .second, .val (.long (mxL i3 i4)), .second, .val (.ref b105), .val (.ref b107), .val (.int (0 : Int32))] [(.int (1 : Int32))])) _
      exact retN X128 hx (t := .boolean) Bd.returns (by simp) (hb hby at_118) hr
    · show Q0 n0 _ T128.heap _
      exact ⟨rfl, N128⟩
set_option maxRecDepth 65536 in
set_option maxHeartbeats 40000000 in
theorem comes_1 {Post : Tables → Env → Array Value → State → Outcome → State → Prop} (hpost : ∀ tb e args s v u, (limb_1_1.after args s (.returned v) u = true ∧ limb_1_2.after args s (.returned v) u = true ∧ True) → FrameEnd s (.returned v) u (Jvm.fieldLocs frame_1_writes args s ++ Jvm.arrayLocs frame_1_arrays args s ++ Jvm.staticLocs frame_1_statics s) 16 128 → Post tb e args s (.returned v) u) :
    ArmFor flags0 classFile x code maxLocals ret World_1 tables_1 room_1 Calls_1 rest_1 Pre_1 Post := by
  intro l hfl _ _ p e ha hc hk s m args below hf hA hF happ hP
  obtain ⟨hcalls, hrest, hpre⟩ := hP
  obtain ⟨-, -, -, hnamed, -, -, -, hat⟩ := (Spec.applies_iff hf).mp happ
  obtain ⟨hg, hn⟩ := and_e (Cond.before_iff.mp (show (Jvm.Cond.and given_1 narrow_1).before args s = true from hpre))
  obtain ⟨g1, g2⟩ := and_e hg
  obtain ⟨g3, g4⟩ := and_e g2
  obtain ⟨g5, g6⟩ := and_e g4
  obtain ⟨g7, g8⟩ := and_e g6
  obtain ⟨w0, w1, w2, w3, rfl⟩ : ∃ w0 w1 w2 w3 : Value, args = #[w0, w1, w2, w3] := by
    have hs : args.size = 4 := by simpa [Cond.value, given_1] using g1
    obtain ⟨L⟩ := args
    match L, hs with
    | [w0, w1, w2, w3], _ => exact ⟨w0, w1, w2, w3, rfl⟩
  have hw := fun d (hd : d ∈ tables_1) => atoms_spec (ws := Jvm.Cond.code x code maxLocals ret :: tables_1) hat d (List.mem_cons_of_mem _ hd)
  obtain ⟨i0, ei0⟩ := isL_v g3
  obtain rfl : w0 = (.long i0) := Option.some.inj ei0
  obtain ⟨i1, ei1⟩ := isL_v g5
  obtain rfl : w1 = (.long i1) := Option.some.inj ei1
  obtain ⟨i2, ei2⟩ := isL_v g7
  obtain rfl : w2 = (.long i2) := Option.some.inj ei2
  obtain ⟨i3, ei3⟩ := isL_v g8
  obtain rfl : w3 = (.long i3) := Option.some.inj ei3
  obtain ⟨n, o, h1, h2, h3, _, L, rfl, ⟨rfl, N⟩, hq⟩ := rm0 l s _ hw tables_1 i0 i1 i2 i3 s.heap s.heap.size (Nat.le_refl _) p e ha hc hk s m _ below hf ((Spec.applies_iff_loose hf).mp happ).1 ⟨rfl, State.Warmed39.refl s, rfl⟩ trivial
  refine ⟨n, _, h1, h2, h3, hpost _ _ _ _ _ _ ⟨Cond.after_iff.mpr rfl, Cond.after_iff.mpr (eq_i res_at (Term.int_eval (1)) rfl), trivial⟩ ⟨hq.1, hq.2.1, (hq.2.2.sift fun y hy => Or.inr (N y hy)).mono (by decide) (by decide)⟩⟩
theorem main_1_1 : Claimed_1_1 := comes_1 fun _ _ _ _ _ _ h hF => ⟨h.1, hF⟩
theorem main_1_2 : Claimed_1_2 := comes_1 fun _ _ _ _ _ _ h hF => ⟨h.2.1, hF⟩
end Jvm.Pilot.@@N@@
namespace Jvm.Pilot.@@N@@
open Jvm Jvm.ClassFile Sem Op Lib Jvm.Free Jvm.Stand Jvm.Pilot.@@N@@.Jvm.D
/-! MADE BY PROGRAM (witnessworld.py) out of the Statement's table words and the real class files: 11 classes; the members and pool entries that the words name. The judged class is class 1, her method 1. -/
namespace start1
open Jvm.ClassFile
def u (s : String) : CpInfo := .utf8 (stringToUtf16 s)
/-- a pool by its gaps: so many unusable entries, then the entry; so many at the end -/
def gap : Nat → List CpInfo → List CpInfo
  | 0, r => r
  | n + 1, r => .unusable :: gap n r
def poolList (es : List (Nat × CpInfo)) (last : Nat) : List CpInfo := es.foldr (fun e r => gap e.1 (e.2 :: r)) (gap last [])
def pool (es : List (Nat × CpInfo)) (last : Nat) : Array CpInfo := ⟨poolList es last⟩
def fileOf (pool : Array CpInfo) (this : Nat) (attrs : Array Attribute := #[]) (ms : Array MethodInfo := #[]) (fl : Nat := 33) (sup : Nat := 0) (ifs : Array Nat := #[]) (fds : Array FieldInfo := #[]) : ClassFile where
  minorVersion := 0
  majorVersion := 65
  constantPool := pool
  accessFlags := fl
  thisClass := this
  superClass := sup
  interfaces := ifs
  fields := fds
  methods := ms
  attributes := attrs
def plain (name : String) (sup : Option ClassId) : Class where
  name := name
  kind := .ordinary
  loader := none
  accessFlags := 33
  super := sup
  interfaces := #[]
  cf := none
  fields := #[]
  methods := #[]
  instanceTypes := #[]
  staticTypes := #[]
  resolved := #[]
  callSites := []
  init := .initialized
  statics := none
  mirror := none

def pool0 : Array CpInfo := pool [(5, u "<init>"), (0, u "()V"), (1, .class_ 10), (1, u "java/lang/Object")] 113

def k0c0 : Code := { maxStack := 0, maxLocals := 1, code := object_method_1_code, exceptionTable := #[], attributes := #[] }
def k0m0 : Method := { name := "<init>", desc := "()V", sig := { parameters := [], returnType := none }, accessFlags := 1, code := some k0c0 }
/-- java/lang/Object -/
def k0 : Class := { plain "java/lang/Object" none with
  accessFlags := 33
  interfaces := #[]
  cf := some (fileOf pool0 8 #[] #[{ accessFlags := 1, nameIndex := 5, descriptorIndex := 6, attributes := #[] }] 33 0 #[] #[])
  fields := #[]
  methods := #[k0m0]
  instanceTypes := #[]
  staticTypes := #[]
  resolved := Array.replicate 124 none
  statics := none }

def pool1 : Array CpInfo := pool [(2, .class_ 4), (1, u "java/lang/Object"), (0, u "<init>"), (0, u "()V"), (0, .methodref 8 9), (0, .class_ 10), (0, .nameAndType 11 12), (0, u "java/lang/Math"), (0, u "min"), (0, u "(JJ)J"), (0, .methodref 8 14), (0, .nameAndType 15 12), (0, u "max"), (0, .class_ 17), (0, u "com/example/probex/probex/count/InputRange"), (0, .methodref 16 19), (0, .nameAndType 5 20), (0, u "(JJ)V"), (0, .methodref 16 22), (0, .nameAndType 23 24), (0, u "covers"), (0, u "(Lcom/example/probex/probex/count/InputRange;)Z"), (0, .class_ 26), (0, u "com/example/probex/probex/count/InputRangeCoversPinLaw"), (2, u "law"), (0, u "(JJJJ)Z")] 3

def k1m0 : Method := { name := "<init>", desc := "()V", sig := { parameters := [], returnType := none }, accessFlags := 1, code := none }
def k1c1 : Code := { maxStack := 6, maxLocals := 19, code := code, exceptionTable := #[], attributes := #[] }
def k1m1 : Method := { name := "law", desc := "(JJJJ)Z", sig := { parameters := [.long, .long, .long, .long], returnType := some .boolean }, accessFlags := 9, code := some k1c1 }
/-- com/example/probex/probex/count/InputRangeCoversPinLaw -/
def k1 : Class := { plain "com/example/probex/probex/count/InputRangeCoversPinLaw" (some 0) with
  accessFlags := 49
  interfaces := #[]
  cf := some (fileOf pool1 25 #[] #[{ accessFlags := 1, nameIndex := 5, descriptorIndex := 6, attributes := #[] }, { accessFlags := 9, nameIndex := 29, descriptorIndex := 30, attributes := #[] }] 49 2 #[] #[])
  fields := #[]
  methods := #[k1m0, k1m1]
  instanceTypes := #[]
  staticTypes := #[]
  resolved := Array.replicate 34 none
  statics := none }

def pool2 : Array CpInfo := pool [(1, .class_ 2), (0, u "java/lang/Math"), (1, .class_ 6), (1, u "java/lang/Object"), (0, u "<init>"), (0, u "()V"), (89, .class_ 100), (1, u "java/lang/Math$RandomNumberGeneratorHolder"), (20, u "(JJ)J"), (50, u "negativeZeroFloatBits"), (0, u "J"), (2, u "negativeZeroDoubleBits"), (21, u "max"), (2, u "min"), (43, u "$assertionsDisabled"), (0, u "Z"), (91, u "twoToTheDoubleScaleDown"), (0, u "D"), (4, u "twoToTheDoubleScaleUp"), (9, u "E"), (3, u "PI"), (2, u "TAU"), (2, u "DEGREES_TO_RADIANS"), (0, u "RADIANS_TO_DEGREES")] 94

def k2m0 : Method := { name := "<init>", desc := "()V", sig := { parameters := [], returnType := none }, accessFlags := 2, code := none }
def k2c1 : Code := { maxStack := 4, maxLocals := 4, code := jdk_29_method_66_code, exceptionTable := #[], attributes := #[] }
def k2m1 : Method := { name := "max", desc := "(JJ)J", sig := { parameters := [.long, .long], returnType := some .long }, accessFlags := 9, code := some k2c1 }
def k2c2 : Code := { maxStack := 4, maxLocals := 4, code := jdk_29_method_70_code, exceptionTable := #[], attributes := #[] }
def k2m2 : Method := { name := "min", desc := "(JJ)J", sig := { parameters := [.long, .long], returnType := some .long }, accessFlags := 9, code := some k2c2 }
/-- java/lang/Math -/
def k2 : Class := { plain "java/lang/Math" (some 0) with
  accessFlags := 49
  interfaces := #[]
  cf := some (fileOf pool2 1 #[.nestMembers #[98]] #[{ accessFlags := 2, nameIndex := 7, descriptorIndex := 8, attributes := #[] }, { accessFlags := 9, nameIndex := 198, descriptorIndex := 121, attributes := #[] }, { accessFlags := 9, nameIndex := 201, descriptorIndex := 121, attributes := #[] }] 49 4 #[] #[{ accessFlags := 25, nameIndex := 354, descriptorIndex := 339, attributes := #[] }, { accessFlags := 25, nameIndex := 358, descriptorIndex := 339, attributes := #[] }, { accessFlags := 25, nameIndex := 361, descriptorIndex := 339, attributes := #[] }, { accessFlags := 26, nameIndex := 364, descriptorIndex := 339, attributes := #[] }, { accessFlags := 26, nameIndex := 365, descriptorIndex := 339, attributes := #[] }, { accessFlags := 26, nameIndex := 172, descriptorIndex := 173, attributes := #[] }, { accessFlags := 26, nameIndex := 176, descriptorIndex := 173, attributes := #[] }, { accessFlags := 8, nameIndex := 344, descriptorIndex := 339, attributes := #[] }, { accessFlags := 8, nameIndex := 338, descriptorIndex := 339, attributes := #[] }, { accessFlags := 4120, nameIndex := 245, descriptorIndex := 246, attributes := #[] }])
  fields := #[{ name := "E", type := .double, accessFlags := 25, slot := 0, constantValue := 0 }, { name := "PI", type := .double, accessFlags := 25, slot := 1, constantValue := 0 }, { name := "TAU", type := .double, accessFlags := 25, slot := 2, constantValue := 0 }, { name := "DEGREES_TO_RADIANS", type := .double, accessFlags := 26, slot := 3, constantValue := 0 }, { name := "RADIANS_TO_DEGREES", type := .double, accessFlags := 26, slot := 4, constantValue := 0 }, { name := "negativeZeroFloatBits", type := .long, accessFlags := 26, slot := 5, constantValue := 0 }, { name := "negativeZeroDoubleBits", type := .long, accessFlags := 26, slot := 6, constantValue := 0 }, { name := "twoToTheDoubleScaleUp", type := .double, accessFlags := 8, slot := 7, constantValue := 0 }, { name := "twoToTheDoubleScaleDown", type := .double, accessFlags := 8, slot := 8, constantValue := 0 }, { name := "$assertionsDisabled", type := .boolean, accessFlags := 4120, slot := 9, constantValue := 0 }]
  methods := #[k2m0, k2m1, k2m2]
  instanceTypes := #[]
  staticTypes := #[.double, .double, .double, .double, .double, .long, .long, .double, .double, .boolean]
  resolved := Array.replicate 460 none
  statics := none }

def pool3 : Array CpInfo := pool [(1, .methodref 2 3), (0, .class_ 4), (0, .nameAndType 5 6), (0, u "java/lang/Object"), (0, u "<init>"), (0, u "()V"), (0, .class_ 8), (0, u "java/lang/Record")] 13

def k3c0 : Code := { maxStack := 1, maxLocals := 1, code := jdk_30_method_1_code, exceptionTable := #[], attributes := #[] }
def k3m0 : Method := { name := "<init>", desc := "()V", sig := { parameters := [], returnType := none }, accessFlags := 4, code := some k3c0 }
/-- java/lang/Record -/
def k3 : Class := { plain "java/lang/Record" (some 0) with
  accessFlags := 1057
  interfaces := #[]
  cf := some (fileOf pool3 7 #[] #[{ accessFlags := 4, nameIndex := 5, descriptorIndex := 6, attributes := #[] }] 1057 2 #[] #[])
  fields := #[]
  methods := #[k3m0]
  instanceTypes := #[]
  staticTypes := #[]
  resolved := Array.replicate 22 none
  statics := none }

def pool4 : Array CpInfo := pool [(1, .methodref 2 3), (0, .class_ 4), (0, .nameAndType 5 6), (0, u "java/lang/Record"), (0, u "<init>"), (0, u "()V"), (9, .fieldref 17 18), (0, .class_ 19), (0, .nameAndType 20 21), (0, u "com/example/probex/probex/count/InputRange"), (0, u "low"), (0, u "J"), (0, .fieldref 17 23), (0, .nameAndType 24 21), (0, u "high"), (9, u "(JJ)V"), (4, u "covers"), (0, u "(Lcom/example/probex/probex/count/InputRange;)Z")] 36

def k4c0 : Code := { maxStack := 6, maxLocals := 5, code := prog_14_method_1_code, exceptionTable := #[], attributes := #[] }
def k4m0 : Method := { name := "<init>", desc := "(JJ)V", sig := { parameters := [.long, .long], returnType := none }, accessFlags := 1, code := some k4c0 }
def k4c1 : Code := { maxStack := 4, maxLocals := 2, code := prog_14_method_2_code, exceptionTable := #[], attributes := #[] }
def k4m1 : Method := { name := "covers", desc := "(Lcom/example/probex/probex/count/InputRange;)Z", sig := { parameters := [(.object "com/example/probex/probex/count/InputRange")], returnType := some .boolean }, accessFlags := 1, code := some k4c1 }
/-- com/example/probex/probex/count/InputRange -/
def k4 : Class := { plain "com/example/probex/probex/count/InputRange" (some 3) with
  accessFlags := 49
  interfaces := #[]
  cf := some (fileOf pool4 17 #[] #[{ accessFlags := 1, nameIndex := 5, descriptorIndex := 34, attributes := #[] }, { accessFlags := 1, nameIndex := 39, descriptorIndex := 40, attributes := #[] }] 49 2 #[] #[{ accessFlags := 18, nameIndex := 20, descriptorIndex := 21, attributes := #[] }, { accessFlags := 18, nameIndex := 24, descriptorIndex := 21, attributes := #[] }])
  fields := #[{ name := "low", type := .long, accessFlags := 18, slot := 0, constantValue := 0 }, { name := "high", type := .long, accessFlags := 18, slot := 1, constantValue := 0 }]
  methods := #[k4m0, k4m1]
  instanceTypes := #[.long, .long]
  staticTypes := #[]
  resolved := Array.replicate 77 none
  statics := none }

def pool5 : Array CpInfo := pool [(1, u "java/lang/Cloneable"), (0, .class_ 1), (0, u "java/lang/Object"), (0, .class_ 3)] 3

/-- java/lang/Cloneable -/
def k5 : Class := { plain "java/lang/Cloneable" (some 0) with
  accessFlags := 1537
  interfaces := #[]
  cf := some (fileOf pool5 2 #[] #[] 1537 4 #[] #[])
  fields := #[]
  methods := #[]
  instanceTypes := #[]
  staticTypes := #[]
  resolved := Array.replicate 8 none
  statics := none }

def pool6 : Array CpInfo := pool [(1, u "java/io/Serializable"), (0, .class_ 1), (0, u "java/lang/Object"), (0, .class_ 3)] 3

/-- java/io/Serializable -/
def k6 : Class := { plain "java/io/Serializable" (some 0) with
  accessFlags := 1537
  interfaces := #[]
  cf := some (fileOf pool6 2 #[] #[] 1537 4 #[] #[])
  fields := #[]
  methods := #[]
  instanceTypes := #[]
  staticTypes := #[]
  resolved := Array.replicate 8 none
  statics := none }

/-- the primitive byte -/
def k7 : Class := { plain "byte" none with kind := .primitive 'B', accessFlags := 0x411 }
/-- [B -/
def k8 : Class := { plain "[B" (some 0) with kind := .array 7 .byte, interfaces := #[5, 6], accessFlags := 1041 }

/-- the primitive int -/
def k9 : Class := { plain "int" none with kind := .primitive 'I', accessFlags := 0x411 }
/-- [I -/
def k10 : Class := { plain "[I" (some 0) with kind := .array 9 .int, interfaces := #[5, 6], accessFlags := 1041 }

def heap : Heap := #[]
def classes : Array Class := #[k0, k1, k2, k3, k4, k5, k6, k7, k8, k9, k10]
def interned : List (Array UInt16 × Addr) := []
def slotsUsed : Nat := 0
def theMethod : MethodId := ⟨1, 1⟩
def args0 : Array Value := #[.long 5, .long 7, .long 6, .long 6]
def aboutOver (below : List Frame) : State where
  vm := { classes := classes, interned := interned.toArray }
  heap := heap
  slotsUsed := slotsUsed
  threads := #[{ frames := .invoking theMethod args0 :: below }]
def below0 : List Frame := [.native { method := ⟨0, 0⟩, args := #[] }]
def about1 : State := aboutOver below0
def p0 : Program := .bare "" "" ""
def e0 : Env := launch0.env 0 0 0
theorem w_frames : about1.frames = Frame.invoking theMethod args0 :: below0 := rfl
set_option maxRecDepth 65536 in
theorem w_args : argsFit about1.vm theMethod args0 = true := by decide +kernel
set_option maxRecDepth 65536 in
theorem w_heap : heapFits about1 = true := by decide +kernel
set_option maxRecDepth 65536 in
theorem w_runnable : about1.curStatus? = some .runnable := by decide +kernel
set_option maxRecDepth 65536 in
theorem w_alone : about1.alone = true := by decide +kernel
set_option maxRecDepth 65536 in
theorem w_named : about1.methodNamed? x = some theMethod := by decide +kernel
set_option maxRecDepth 65536 in
theorem w_hears : about1.hears theMethod below0 = true := by decide +kernel
set_option maxRecDepth 65536 in
theorem w_ripe : about1.ripe theMethod args0 below0 = true := by decide +kernel
theorem w_running : about1.status = .running := rfl
set_option maxRecDepth 65536 in
theorem w_room : about1.hasRoom e0.platform room_1 = true :=
  launch0.hasRoom_least _ room_1 (by decide +kernel) (by decide +kernel) (by decide +kernel) (by decide +kernel) (by decide +kernel) (by decide +kernel)
theorem allAtoms_all (ts : List Jvm.Cond) (a : Array Jvm.Value) (st : Jvm.State) : (allAtoms ts).before a st = ts.all (fun c => c.before a st) := by
  induction ts with
  | nil => rfl
  | cons c t ih =>
    show (Jvm.Cond.and c (allAtoms t)).before a st = _
    rw [Jvm.Cond.before_and, ih, List.all_cons]
def words1 : List Jvm.Cond := Jvm.Cond.code x code maxLocals ret :: tables_1
/-- a 'code' word, met by the world's own term for the bytes: nothing is compared byte by byte -/
theorem code_word {y : MethodName} {bytes : ByteArray} {mx : Nat} {rt : Option FieldType} {a : Array Value} {s : State} {m : MethodId} {meth : Method} {c : Code} (h1 : s.methodNamed? y = some m) (h2 : s.vm.method? m = some meth) (h3 : meth.code = some c) (h4 : c.code = bytes)
    (h5 : (c.maxLocals == mx && c.exceptionTable.isEmpty && decide (c.maxStack ≤ mostOperands) && decide (meth.sig.returnType = rt) && !meth.locks && decide (parseMethodDescriptor y.desc = some meth.sig)) = true) : (Jvm.Cond.code y bytes mx rt).before a s = true := by
  simp only [Bool.and_eq_true, beq_iff_eq, Bool.not_eq_true', decide_eq_true_eq] at h5
  obtain ⟨⟨⟨⟨⟨g1, g2⟩, g3⟩, g4⟩, g5⟩, g6⟩ := h5
  simp [Cond.before, Cond.holds, Cond.value, h1, h2, h3, h4, g1, g2, g3, g4, g5, g6]
def isCode : Jvm.Cond → Bool
  | .code _ _ _ _ => true
  | _ => false
theorem all_split {L : List Jvm.Cond} {P : Jvm.Cond → Bool} (h1 : L.all (fun c => isCode c || P c) = true) (h2 : ∀ c ∈ L.filter isCode, P c = true) : L.all P = true := by
  refine List.all_eq_true.mpr fun c hc => ?_
  have h := List.all_eq_true.mp h1 c hc
  rcases Bool.eq_false_or_eq_true (isCode c) with hi | hi
  · exact h2 c (List.mem_filter.mpr ⟨hc, hi⟩)
  · simpa [hi] using h
set_option maxRecDepth 65536 in
theorem w_c0 : (Jvm.Cond.code x code maxLocals ret).before args0 about1 = true := code_word (m := ⟨1, 1⟩) (meth := k1m1) (c := k1c1) (by decide +kernel) rfl rfl rfl (by decide +kernel)
set_option maxRecDepth 65536 in
theorem w_c1 : (Jvm.Cond.code ({ cls := "java/lang/Math", name := "min", desc := "(JJ)J" } : Jvm.MethodName) jdk_29_method_70_code (4 : Nat) (Option.some Jvm.ClassFile.FieldType.long)).before args0 about1 = true := code_word (m := ⟨2, 2⟩) (meth := k2m2) (c := k2c2) (by decide +kernel) rfl rfl rfl (by decide +kernel)
set_option maxRecDepth 65536 in
theorem w_c2 : (Jvm.Cond.code ({ cls := "java/lang/Math", name := "max", desc := "(JJ)J" } : Jvm.MethodName) jdk_29_method_66_code (4 : Nat) (Option.some Jvm.ClassFile.FieldType.long)).before args0 about1 = true := code_word (m := ⟨2, 1⟩) (meth := k2m1) (c := k2c1) (by decide +kernel) rfl rfl rfl (by decide +kernel)
set_option maxRecDepth 65536 in
theorem w_c3 : (Jvm.Cond.code ({ cls := "com/example/probex/probex/count/InputRange", name := "<init>", desc := "(JJ)V" } : Jvm.MethodName) prog_14_method_1_code (5 : Nat) (Option.none : Option Jvm.ClassFile.FieldType)).before args0 about1 = true := code_word (m := ⟨4, 0⟩) (meth := k4m0) (c := k4c0) (by decide +kernel) rfl rfl rfl (by decide +kernel)
set_option maxRecDepth 65536 in
theorem w_c4 : (Jvm.Cond.code ({ cls := "java/lang/Record", name := "<init>", desc := "()V" } : Jvm.MethodName) jdk_30_method_1_code (1 : Nat) (Option.none : Option Jvm.ClassFile.FieldType)).before args0 about1 = true := code_word (m := ⟨3, 0⟩) (meth := k3m0) (c := k3c0) (by decide +kernel) rfl rfl rfl (by decide +kernel)
set_option maxRecDepth 65536 in
theorem w_c5 : (Jvm.Cond.code ({ cls := "java/lang/Object", name := "<init>", desc := "()V" } : Jvm.MethodName) object_method_1_code (1 : Nat) (Option.none : Option Jvm.ClassFile.FieldType)).before args0 about1 = true := code_word (m := ⟨0, 0⟩) (meth := k0m0) (c := k0c0) (by decide +kernel) rfl rfl rfl (by decide +kernel)
set_option maxRecDepth 65536 in
theorem w_c6 : (Jvm.Cond.code ({ cls := "com/example/probex/probex/count/InputRange", name := "covers", desc := "(Lcom/example/probex/probex/count/InputRange;)Z" } : Jvm.MethodName) prog_14_method_2_code (2 : Nat) (Option.some Jvm.ClassFile.FieldType.boolean)).before args0 about1 = true := code_word (m := ⟨4, 1⟩) (meth := k4m1) (c := k4c1) (by decide +kernel) rfl rfl rfl (by decide +kernel)
def codes1 : List Jvm.Cond := [Jvm.Cond.code x code maxLocals ret, Jvm.Cond.code ({ cls := "java/lang/Math", name := "min", desc := "(JJ)J" } : Jvm.MethodName) jdk_29_method_70_code (4 : Nat) (Option.some Jvm.ClassFile.FieldType.long), Jvm.Cond.code ({ cls := "java/lang/Math", name := "max", desc := "(JJ)J" } : Jvm.MethodName) jdk_29_method_66_code (4 : Nat) (Option.some Jvm.ClassFile.FieldType.long), Jvm.Cond.code ({ cls := "com/example/probex/probex/count/InputRange", name := "<init>", desc := "(JJ)V" } : Jvm.MethodName) prog_14_method_1_code (5 : Nat) (Option.none : Option Jvm.ClassFile.FieldType), Jvm.Cond.code ({ cls := "java/lang/Record", name := "<init>", desc := "()V" } : Jvm.MethodName) jdk_30_method_1_code (1 : Nat) (Option.none : Option Jvm.ClassFile.FieldType), Jvm.Cond.code ({ cls := "java/lang/Object", name := "<init>", desc := "()V" } : Jvm.MethodName) object_method_1_code (1 : Nat) (Option.none : Option Jvm.ClassFile.FieldType), Jvm.Cond.code ({ cls := "com/example/probex/probex/count/InputRange", name := "covers", desc := "(Lcom/example/probex/probex/count/InputRange;)Z" } : Jvm.MethodName) prog_14_method_2_code (2 : Nat) (Option.some Jvm.ClassFile.FieldType.boolean)]
set_option maxRecDepth 65536 in
theorem codes_eq : words1.filter isCode = codes1 := rfl
theorem w_codes : ∀ c ∈ words1.filter isCode, c.before args0 about1 = true := by
  rw [codes_eq]
  intro c hc
  simp only [codes1, List.mem_cons, List.not_mem_nil, or_false] at hc
  rcases hc with rfl | rfl | rfl | rfl | rfl | rfl | rfl
  · exact w_c0
  · exact w_c1
  · exact w_c2
  · exact w_c3
  · exact w_c4
  · exact w_c5
  · exact w_c6
set_option maxRecDepth 65536 in
theorem w_t1 : (words1.take 24).all (fun c => isCode c || c.before args0 about1) = true := by decide +kernel
set_option maxRecDepth 65536 in
theorem w_t2 : (words1.drop 24).all (fun c => isCode c || c.before args0 about1) = true := by decide +kernel
theorem w_tables : (allAtoms (Jvm.Cond.code x code maxLocals ret :: tables_1)).before args0 about1 = true := by
  rw [allAtoms_all]
  show words1.all (fun c => c.before args0 about1) = true
  refine all_split ?_ w_codes
  rw [← List.take_append_drop 24 words1, List.all_append, w_t1, w_t2]
  rfl
set_option maxRecDepth 65536 in
theorem w_case : (Jvm.Cond.and given_1 narrow_1).before args0 about1 = true := by decide +kernel
theorem w_applies : (headSpec (Jvm.Cond.code x code maxLocals ret :: tables_1) room_1).applies x e0.platform about1 = true :=
  (Spec.applies_iff w_frames).mpr ⟨w_running, w_runnable, w_alone, w_named, w_hears, w_ripe, w_room, w_tables⟩
theorem atStart : AtStart classFile x code maxLocals ret World_1 tables_1 room_1 Calls_1 rest_1 Pre_1 launch0 p0 e0 about1 theMethod args0 below0 :=
  ⟨lists_1, trivial, launch0.admits_env _ _ _, launch0.least_env, fairChoices_fair.cas, fairChoices_fair.clock, w_frames, w_args, w_heap, w_applies, trivial, trivial, w_case⟩
end start1
theorem witness_1 : WitnessClaimed_1 := ⟨start1.p0, start1.e0, start1.about1, start1.theMethod, start1.args0, start1.below0, start1.atStart⟩
end Jvm.Pilot.@@N@@
