import JvmDerived
import JvmDerived.Pilot.@@N@@Statement
import JvmDerived.Pilot.@@N@@Code
set_option linter.unusedVariables false
set_option linter.unusedSimpArgs false
namespace Jvm.RoadKit
open Sem ClassFile Op Lib Jvm.Stand Jvm.Free Jvm.LawKit
section New
variable {p : Program} {l : Launch} {e : Env} {R : Room} {s : State} {m : MethodId} {args : Array Value} {below : List Frame} {meth : Method} {c : Code} {T : State} {locs : List Loc} {cells slots : Nat}
theorem retI (X : Stand p l e R s m args below meth c T locs cells slots) (hx : p.tables.exec = Jvm.exec) {pc : Nat} {Ls : Array Slot} {z : Int32} {rest : List Value} (hret : meth.sig.returnType = some .int) (hd : decode c.code pc = .ok (.ireturn, 1)) {fs : List Frame}
    (hl : ∀ (f : JFrame) (acts : List Action), f.method = m → f.locked = none → f.entered = [] → (doReturn e (T.setTop f) acts (some (.int z))).1 = T.setFrames fs) : Steps p.tables e below (T.setTop (mkF m pc Ls (.int z :: rest))) (T.setFrames fs) := by
  have hm' : T.vm.method? m = some meth := X.method'
  have hn : narrow .int (.int z) = .int z := rfl
  show Steps p.tables e below (T.setTop { method := m, pc := pc, locals := Ls, stack := _ :: rest, locked := none }) _
  jvm_step X.here [X.here.top, hx, hd, hm', hret, hn]
  first | (intro acts; rw [hl _ acts rfl rfl rfl]) | rw [hl _ _ rfl rfl rfl]
  exact Steps.refl _
end New
end Jvm.RoadKit
namespace Jvm.Pilot.@@N@@
open Jvm Jvm.ClassFile Sem Op Lib Jvm.Free Jvm.Stand Jvm.LawKit Jvm.RoadKit Bundle Jvm.Pilot.@@N@@.Jvm.D
theorem own_nm {x a : Addr} (h : x ≠ a) : x ∉ [a] := fun q => h (List.mem_singleton.mp q)
theorem own_nar {v : Int32} (h : v = (0 : Int32) ∨ v = (1 : Int32)) : nar .boolean v = v := by rcases h with rfl | rfl <;> decide
/-- what a body that writes nothing leaves -/
def QP (r : Option Value) (h0 : Heap) (v : Option Value) (h : Heap) (L : List Loc) : Prop := v = r ∧ L = [] ∧ h = h0
theorem pd___I : parseMethodDescriptor "()I" = some ⟨[], some .int⟩ := by decide +kernel
theorem pd__I_Lcom_example_retry_ledger_retryledger_RunResult_Outcome_ : parseMethodDescriptor "(I)Lcom/example/retry_ledger/retryledger/RunResult$Outcome;" = some ⟨[.int], some (.object "com/example/retry_ledger/retryledger/RunResult$Outcome")⟩ := by decide +kernel
theorem pd___Z : parseMethodDescriptor "()Z" = some ⟨[], some .boolean⟩ := by decide +kernel
theorem own_lt {p : Int32} (c : Int32) (k : Int) (hk : c.toInt = k) (h : p.toInt < k) : p < c := Int32.lt_iff_toInt_lt.mpr (by omega)
theorem own_nlt {p : Int32} (c : Int32) (k : Int) (hk : c.toInt = k) (h : k ≤ p.toInt) : ¬ p < c := fun q => by have := Int32.lt_iff_toInt_lt.mp q; omega
theorem own_gt {p : Int32} (c : Int32) (k : Int) (hk : c.toInt = k) (h : k < p.toInt) : c < p := Int32.lt_iff_toInt_lt.mpr (by omega)
theorem own_ngt {p : Int32} (c : Int32) (k : Int) (hk : c.toInt = k) (h : p.toInt ≤ k) : ¬ c < p := fun q => by have := Int32.lt_iff_toInt_lt.mp q; omega
theorem own_ne {p : Int32} (c : Int32) (k : Int) (hk : c.toInt = k) (h : p.toInt ≠ k) : ¬ p = c := fun q => h (by rw [q]; exact hk)
theorem own_eq {p : Int32} (c : Int32) (k : Int) (hk : c.toInt = k) (h : p.toInt = k) : p = c := Int32.toInt_inj.mp (by omega)
theorem own_irem (x y : Int32) (d : Int) (hy : y.toInt = d) (hd : 0 < d) (hx : 0 ≤ x.toInt) : (x - (x / y) * y).toInt = x.toInt % d := by
  have hm : y ≠ -1 := fun h => by rw [h] at hy; have : (-1 : Int32).toInt = -1 := rfl; omega
  have h1 := (c_idiv x y d hy hm).1 hx
  have h2 := c_imul (x / y) y
  have h3 := c_isub x ((x / y) * y)
  have h4 := rng32 (x - (x / y) * y)
  have h5 := rng32 x
  have h10 := rng32 ((x / y) * y)
  rw [h1, hy] at h2
  have h6 : x.toInt / d * d + x.toInt % d = x.toInt := Int.ediv_mul_add_emod x.toInt d
  have h7 := Int.emod_nonneg x.toInt (by omega : d ≠ 0)
  have h8 := Int.emod_lt_of_pos x.toInt (by omega : 0 < d)
  have h9 : 0 ≤ x.toInt / d * d := Int.mul_nonneg (Int.ediv_nonneg hx (by omega)) (by omega)
  generalize x.toInt / d * d = t at *
  omega
theorem own_eqv {args : Array Value} {s : State} {t : Term} {k : Int32} (h : (Jvm.Cond.eq t (.int k)).value args s none s [] = some true) : t.eval args s none [] s = some (.int k) := by
  obtain ⟨x, y, hx, hy, hk, -⟩ := cmp_v (Or.inl h)
  rw [Term.int_eval] at hy
  cases hy
  cases x with
  | int z => have h2 : (Jvm.Cond.eq t (.int k)).value args s none s [] = some (decide (z = k)) := by simp [Jvm.Cond.value, hx, Term.int_eval]
             have := gotT h2 h; rw [hx, this]
  | _ => simp [Kin, Value.isRef] at hk
def pk (k : Int32) (w_PERFORMED w_CONFLICT w_SKIPPED w_RECONCILED w_FOUND w_FAILED w_UNKNOWN w_BUSY w_MISMATCH : Addr) : Addr := if k = (0 : Int32) then w_PERFORMED else if k = (1 : Int32) then w_CONFLICT else if k = (2 : Int32) then w_SKIPPED else if k = (3 : Int32) then w_RECONCILED else if k = (4 : Int32) then w_FOUND else if k = (5 : Int32) then w_FAILED else if k = (6 : Int32) then w_UNKNOWN else if k = (7 : Int32) then w_BUSY else w_MISMATCH
def inp (k : Int32) : Int32 := if k < (5 : Int32) then (1 : Int32) else (0 : Int32)
theorem own_r9 (x : Int32) : ((x &&& (2147483647 : Int32)) - ((x &&& (2147483647 : Int32)) / (9 : Int32)) * (9 : Int32)).toInt = (x.toInt % 2147483648) % 9 := by
  have h1 := c_mask x (2147483647 : Int32) 31 (by decide) (by decide)
  have h2 := own_irem (x &&& (2147483647 : Int32)) (9 : Int32) 9 rfl (by omega) (by omega)
  rw [h2, h1]; rfl
theorem own_c9 (r : Int32) (x : Int32) (h : r = ((x &&& (2147483647 : Int32)) - ((x &&& (2147483647 : Int32)) / (9 : Int32)) * (9 : Int32))) : r = (0 : Int32) ∨ r = (1 : Int32) ∨ r = (2 : Int32) ∨ r = (3 : Int32) ∨ r = (4 : Int32) ∨ r = (5 : Int32) ∨ r = (6 : Int32) ∨ r = (7 : Int32) ∨ r = (8 : Int32) := by
  have h1 := own_r9 x
  rw [← h] at h1
  have h2 : 0 ≤ r.toInt ∧ r.toInt < 9 := by omega
  have h3 : r.toInt = 0 ∨ r.toInt = 1 ∨ r.toInt = 2 ∨ r.toInt = 3 ∨ r.toInt = 4 ∨ r.toInt = 5 ∨ r.toInt = 6 ∨ r.toInt = 7 ∨ r.toInt = 8 := by omega
  rcases h3 with q | q | q | q | q | q | q | q | q
  · exact Or.inl (own_eq (0 : Int32) 0 rfl q)
  · exact Or.inr (Or.inl (own_eq (1 : Int32) 1 rfl q))
  · exact Or.inr (Or.inr (Or.inl (own_eq (2 : Int32) 2 rfl q)))
  · exact Or.inr (Or.inr (Or.inr (Or.inl (own_eq (3 : Int32) 3 rfl q))))
  · exact Or.inr (Or.inr (Or.inr (Or.inr (Or.inl (own_eq (4 : Int32) 4 rfl q)))))
  · exact Or.inr (Or.inr (Or.inr (Or.inr (Or.inr (Or.inl (own_eq (5 : Int32) 5 rfl q))))))
  · exact Or.inr (Or.inr (Or.inr (Or.inr (Or.inr (Or.inr (Or.inl (own_eq (6 : Int32) 6 rfl q)))))))
  · exact Or.inr (Or.inr (Or.inr (Or.inr (Or.inr (Or.inr (Or.inr (Or.inl (own_eq (7 : Int32) 7 rfl q))))))))
  · exact Or.inr (Or.inr (Or.inr (Or.inr (Or.inr (Or.inr (Or.inr (Or.inr (own_eq (8 : Int32) 8 rfl q))))))))
theorem dO_0 : decode jdk_37_method_2_code 0 = .ok (.aload_n 0, 1) := by decide +kernel
theorem dO_1 : decode jdk_37_method_2_code 1 = .ok (.getfield 7, 3) := by decide +kernel
theorem dO_4 : decode jdk_37_method_2_code 4 = .ok (.ireturn, 1) := by decide +kernel
theorem ef_O (m : MethodId) (x0 : Addr) : entryFrame m #[(.ref x0)] 1 = mkF m 0 #[.val (.ref x0)] [] := by first | (simp [entryFrame, mkF, argsToLocals, Value.category]; done) | rfl
set_option maxRecDepth 65536 in
set_option maxHeartbeats 40000000 in
theorem rmO (l : Launch) (Z : State) (a0 : Array Value) (hw : ∀ d ∈ tables_1, d.before a0 Z = true) (ws : List Jvm.Cond) (a1 : Addr) (k : Int32) (h0 : Heap) (F1 : Fld Z h0 a1 "java/lang/Enum" "ordinal" "I" (.int k)) :
    MetFree l (⟨"java/lang/Enum", "ordinal", "()I"⟩ : MethodName) (head1 (Jvm.Cond.code (⟨"java/lang/Enum", "ordinal", "()I"⟩ : MethodName) jdk_37_method_2_code 1 (some .int) :: ws) ({ frames := 0, cells := 0, slots := 0, locals := 0 } : Room)) (fun a U => a = #[(.ref a1)] ∧ Z.Warmed39 U.vm ∧ U.heap = h0) (fun _ _ _ _ _ => True) (fun _ U o U' => ∃ v L, o = .returned v ∧ QP (some (.int k)) h0 v U'.heap L ∧ FrameEnd U o U' L ({ frames := 0, cells := 0, slots := 0, locals := 0 } : Room).cells ({ frames := 0, cells := 0, slots := 0, locals := 0 } : Room).slots) := by
  refine MetFree.of_bodySF (plainFor_of_name (by first | (simp [plainName, overriddenIn]; done) | decide +kernel)) hisR ?_
  intro p e s m args below meth c s₁ Bd hml0 hP hK
  obtain ⟨rfl, hZ, hh⟩ := hP
  have hx := Bd.exec
  have hby := Bd.bytes
  have hml : c.maxLocals = 1 := hml0
  have hown : s.vm.findClass "java/lang/Enum" = some m.cls := findClass_of_methodNamed Bd.named
  have hnm := (name_of_methodNamed Bd.named Bd.method).1
  have hlk : meth.locks = false := BodyLoose.notSynchronized Bd
  have X0 : Stand p l e ({ frames := 0, cells := 0, slots := 0, locals := 0 } : Room) s m #[(.ref a1)] below meth c s₁ [] 0 0 := Stand.of_body Bd
  have e0 : s₁.heap = h0 := by rw [← hh, Bd.state]; rfl
  have P0 : ∀ t, Steps p.tables e below (s₁.setTop (mkF m 0 #[.val (.ref a1)] [])) t → Steps p.tables e below (s₁.setTop (entryFrame m #[(.ref a1)] 1)) t := fun t kt => castTop (ef_O m a1) kt
  obtain ⟨T101, X101, e101, st101⟩ := getF X0 hx hZ hown (host := "") (Or.inl (hw _ (List.mem_of_getElem? (i := 20) rfl))) Via.refl e0 F1 (g := (mkF m 1 #[.val (.ref a1)] [(.ref a1)])) rfl rfl (hb hby dO_1)
  have P102 : ∀ t, Steps p.tables e below (T101.setTop (mkF m 4 #[.val (.ref a1)] [(.int k)])) t → Steps p.tables e below (s₁.setTop (entryFrame m #[(.ref a1)] 1)) t := fun t kt => P0 t (by
    show Steps p.tables e below (s₁.setTop (mkF m 0 #[.val (.ref a1)] [])) _
    refine XS.aloadN X0.here hx rfl (hb hby dO_0) rfl rfl ?_
    show Steps p.tables e below (s₁.setTop (mkF m 1 #[.val (.ref a1)] [(.ref a1)])) _
    refine st101 _ ?_
    exact kt)
  obtain ⟨fs, hr, hrun, hended, hW, hsame⟩ := X101.leave (v := some (.int k)) (fun h => by rw [Bd.returns] at h; cases h) (hlocks := hlk)
  refine ⟨_, _, P102 _ ?_, hrun, hended, _, _, rfl, ?_, ⟨_, rfl⟩, hW, hsame.mono (by decide) (by decide)⟩
  · show Steps p.tables e below (T101.setTop (mkF m 4 #[.val (.ref a1)] [(.int k)])) _
    exact retI X101 hx Bd.returns (hb hby dO_4) hr
  · show QP _ h0 _ T101.heap _
    exact ⟨rfl, rfl, e101⟩
theorem dK_0 : decode method_2_code 0 = .ok (.iload_n 0, 1) := by decide +kernel
theorem dK_1 : decode method_2_code 1 = .ok (.ifCond .ne 10, 3) := by decide +kernel
theorem dK_4 : decode method_2_code 4 = .ok (.getstatic 7, 3) := by decide +kernel
theorem dK_7 : decode method_2_code 7 = .ok (.astore_n 1, 1) := by decide +kernel
theorem dK_8 : decode method_2_code 8 = .ok (.goto 93, 3) := by decide +kernel
theorem dK_11 : decode method_2_code 11 = .ok (.iload_n 0, 1) := by decide +kernel
theorem dK_12 : decode method_2_code 12 = .ok (.iconst 1, 1) := by decide +kernel
theorem dK_13 : decode method_2_code 13 = .ok (.if_icmp .ne 10, 3) := by decide +kernel
theorem dK_16 : decode method_2_code 16 = .ok (.getstatic 13, 3) := by decide +kernel
theorem dK_19 : decode method_2_code 19 = .ok (.astore_n 1, 1) := by decide +kernel
theorem dK_20 : decode method_2_code 20 = .ok (.goto 81, 3) := by decide +kernel
theorem dK_23 : decode method_2_code 23 = .ok (.iload_n 0, 1) := by decide +kernel
theorem dK_24 : decode method_2_code 24 = .ok (.iconst 2, 1) := by decide +kernel
theorem dK_25 : decode method_2_code 25 = .ok (.if_icmp .ne 10, 3) := by decide +kernel
theorem dK_28 : decode method_2_code 28 = .ok (.getstatic 16, 3) := by decide +kernel
theorem dK_31 : decode method_2_code 31 = .ok (.astore_n 1, 1) := by decide +kernel
theorem dK_32 : decode method_2_code 32 = .ok (.goto 69, 3) := by decide +kernel
theorem dK_35 : decode method_2_code 35 = .ok (.iload_n 0, 1) := by decide +kernel
theorem dK_36 : decode method_2_code 36 = .ok (.iconst 3, 1) := by decide +kernel
theorem dK_37 : decode method_2_code 37 = .ok (.if_icmp .ne 10, 3) := by decide +kernel
theorem dK_40 : decode method_2_code 40 = .ok (.getstatic 19, 3) := by decide +kernel
theorem dK_43 : decode method_2_code 43 = .ok (.astore_n 1, 1) := by decide +kernel
theorem dK_44 : decode method_2_code 44 = .ok (.goto 57, 3) := by decide +kernel
theorem dK_47 : decode method_2_code 47 = .ok (.iload_n 0, 1) := by decide +kernel
theorem dK_48 : decode method_2_code 48 = .ok (.iconst 4, 1) := by decide +kernel
theorem dK_49 : decode method_2_code 49 = .ok (.if_icmp .ne 10, 3) := by decide +kernel
theorem dK_52 : decode method_2_code 52 = .ok (.getstatic 22, 3) := by decide +kernel
theorem dK_55 : decode method_2_code 55 = .ok (.astore_n 1, 1) := by decide +kernel
theorem dK_56 : decode method_2_code 56 = .ok (.goto 45, 3) := by decide +kernel
theorem dK_59 : decode method_2_code 59 = .ok (.iload_n 0, 1) := by decide +kernel
theorem dK_60 : decode method_2_code 60 = .ok (.iconst 5, 1) := by decide +kernel
theorem dK_61 : decode method_2_code 61 = .ok (.if_icmp .ne 10, 3) := by decide +kernel
theorem dK_64 : decode method_2_code 64 = .ok (.getstatic 25, 3) := by decide +kernel
theorem dK_67 : decode method_2_code 67 = .ok (.astore_n 1, 1) := by decide +kernel
theorem dK_68 : decode method_2_code 68 = .ok (.goto 33, 3) := by decide +kernel
theorem dK_71 : decode method_2_code 71 = .ok (.iload_n 0, 1) := by decide +kernel
theorem dK_72 : decode method_2_code 72 = .ok (.bipush 6, 2) := by decide +kernel
theorem dK_74 : decode method_2_code 74 = .ok (.if_icmp .ne 10, 3) := by decide +kernel
theorem dK_77 : decode method_2_code 77 = .ok (.getstatic 28, 3) := by decide +kernel
theorem dK_80 : decode method_2_code 80 = .ok (.astore_n 1, 1) := by decide +kernel
theorem dK_81 : decode method_2_code 81 = .ok (.goto 20, 3) := by decide +kernel
theorem dK_84 : decode method_2_code 84 = .ok (.iload_n 0, 1) := by decide +kernel
theorem dK_85 : decode method_2_code 85 = .ok (.bipush 7, 2) := by decide +kernel
theorem dK_87 : decode method_2_code 87 = .ok (.if_icmp .ne 10, 3) := by decide +kernel
theorem dK_90 : decode method_2_code 90 = .ok (.getstatic 31, 3) := by decide +kernel
theorem dK_93 : decode method_2_code 93 = .ok (.astore_n 1, 1) := by decide +kernel
theorem dK_94 : decode method_2_code 94 = .ok (.goto 7, 3) := by decide +kernel
theorem dK_97 : decode method_2_code 97 = .ok (.getstatic 34, 3) := by decide +kernel
theorem dK_100 : decode method_2_code 100 = .ok (.astore_n 1, 1) := by decide +kernel
theorem dK_101 : decode method_2_code 101 = .ok (.aload_n 1, 1) := by decide +kernel
theorem dK_102 : decode method_2_code 102 = .ok (.areturn, 1) := by decide +kernel
theorem ef_K (m : MethodId) (x0 : Int32) : entryFrame m #[(.int x0)] 2 = mkF m 0 #[.val (.int x0), .unset] [] := by first | (simp [entryFrame, mkF, argsToLocals, Value.category]; done) | rfl
set_option maxRecDepth 65536 in
set_option maxHeartbeats 40000000 in
theorem rmK (l : Launch) (Z : State) (a0 : Array Value) (hw : ∀ d ∈ tables_1, d.before a0 Z = true) (ws : List Jvm.Cond) (k : Int32) (w_PERFORMED w_CONFLICT w_SKIPPED w_RECONCILED w_FOUND w_FAILED w_UNKNOWN w_BUSY w_MISMATCH a : Addr) (h0 : Heap) (S_PERFORMED : Sta Z h0 "com/example/retry_ledger/retryledger/RunResult$Outcome" "PERFORMED" "Lcom/example/retry_ledger/retryledger/RunResult$Outcome;" (.ref w_PERFORMED)) (S_CONFLICT : Sta Z h0 "com/example/retry_ledger/retryledger/RunResult$Outcome" "CONFLICT" "Lcom/example/retry_ledger/retryledger/RunResult$Outcome;" (.ref w_CONFLICT)) (S_SKIPPED : Sta Z h0 "com/example/retry_ledger/retryledger/RunResult$Outcome" "SKIPPED" "Lcom/example/retry_ledger/retryledger/RunResult$Outcome;" (.ref w_SKIPPED)) (S_RECONCILED : Sta Z h0 "com/example/retry_ledger/retryledger/RunResult$Outcome" "RECONCILED" "Lcom/example/retry_ledger/retryledger/RunResult$Outcome;" (.ref w_RECONCILED)) (S_FOUND : Sta Z h0 "com/example/retry_ledger/retryledger/RunResult$Outcome" "FOUND" "Lcom/example/retry_ledger/retryledger/RunResult$Outcome;" (.ref w_FOUND)) (S_FAILED : Sta Z h0 "com/example/retry_ledger/retryledger/RunResult$Outcome" "FAILED" "Lcom/example/retry_ledger/retryledger/RunResult$Outcome;" (.ref w_FAILED)) (S_UNKNOWN : Sta Z h0 "com/example/retry_ledger/retryledger/RunResult$Outcome" "UNKNOWN" "Lcom/example/retry_ledger/retryledger/RunResult$Outcome;" (.ref w_UNKNOWN)) (S_BUSY : Sta Z h0 "com/example/retry_ledger/retryledger/RunResult$Outcome" "BUSY" "Lcom/example/retry_ledger/retryledger/RunResult$Outcome;" (.ref w_BUSY)) (S_MISMATCH : Sta Z h0 "com/example/retry_ledger/retryledger/RunResult$Outcome" "MISMATCH" "Lcom/example/retry_ledger/retryledger/RunResult$Outcome;" (.ref w_MISMATCH)) (hk : pk k w_PERFORMED w_CONFLICT w_SKIPPED w_RECONCILED w_FOUND w_FAILED w_UNKNOWN w_BUSY w_MISMATCH = a) :
    MetFree l (⟨"com/example/retry_ledger/retryledger/OutcomeIsInPlacePinLaw", "pick", "(I)Lcom/example/retry_ledger/retryledger/RunResult$Outcome;"⟩ : MethodName) (head1 (Jvm.Cond.code (⟨"com/example/retry_ledger/retryledger/OutcomeIsInPlacePinLaw", "pick", "(I)Lcom/example/retry_ledger/retryledger/RunResult$Outcome;"⟩ : MethodName) method_2_code 2 (some (.object "com/example/retry_ledger/retryledger/RunResult$Outcome")) :: ws) ({ frames := 0, cells := 0, slots := 0, locals := 0 } : Room)) (fun a U => a = #[(.int k)] ∧ Z.Warmed39 U.vm ∧ U.heap = h0) (fun _ _ _ _ _ => True) (fun _ U o U' => ∃ v L, o = .returned v ∧ QP (some (.ref a)) h0 v U'.heap L ∧ FrameEnd U o U' L ({ frames := 0, cells := 0, slots := 0, locals := 0 } : Room).cells ({ frames := 0, cells := 0, slots := 0, locals := 0 } : Room).slots) := by
  refine MetFree.of_bodySF (plainFor_of_name (by first | (simp [plainName, overriddenIn]; done) | decide +kernel)) hisR ?_
  intro p e s m args below meth c s₁ Bd hml0 hP hK
  obtain ⟨rfl, hZ, hh⟩ := hP
  have hx := Bd.exec
  have hby := Bd.bytes
  have hml : c.maxLocals = 2 := hml0
  have hown : s.vm.findClass "com/example/retry_ledger/retryledger/OutcomeIsInPlacePinLaw" = some m.cls := findClass_of_methodNamed Bd.named
  have hnm := (name_of_methodNamed Bd.named Bd.method).1
  have hlk : meth.locks = false := BodyLoose.notSynchronized Bd
  have X0 : Stand p l e ({ frames := 0, cells := 0, slots := 0, locals := 0 } : Room) s m #[(.int k)] below meth c s₁ [] 0 0 := Stand.of_body Bd
  have e0 : s₁.heap = h0 := by rw [← hh, Bd.state]; rfl
  have P0 : ∀ t, Steps p.tables e below (s₁.setTop (mkF m 0 #[.val (.int k), .unset] [])) t → Steps p.tables e below (s₁.setTop (entryFrame m #[(.int k)] 2)) t := fun t kt => castTop (ef_K m k) kt
  have P101 : ∀ t, Steps p.tables e below (s₁.setTop (mkF m 1 #[.val (.int k), .unset] [(.int k)])) t → Steps p.tables e below (s₁.setTop (entryFrame m #[(.int k)] 2)) t := fun t kt => P0 t (by
    show Steps p.tables e below (s₁.setTop (mkF m 0 #[.val (.int k), .unset] [])) _
    refine XS.iloadN X0.here hx rfl (hb hby dK_0) rfl ?_
    exact kt)
  by_cases hc1_102 : k = (0 : Int32)
  · obtain ⟨T103, X103, e103, st103⟩ := getS2 X0 hx hZ hown (host := "") (Or.inl (hw _ (List.mem_of_getElem? (i := 5) rfl))) Via.refl e0 S_PERFORMED (g := (mkF m 4 #[.val (.int k), .unset] [])) rfl (hb hby dK_4)
    have P104 : ∀ t, Steps p.tables e below (T103.setTop (mkF m 102 #[.val (.int k), .val (.ref w_PERFORMED)] [(.ref w_PERFORMED)])) t → Steps p.tables e below (s₁.setTop (entryFrame m #[(.int k)] 2)) t := fun t kt => P101 t (by
      show Steps p.tables e below (s₁.setTop (mkF m 1 #[.val (.int k), .unset] [(.int k)])) _
      refine XS.ifNo X0.here hx rfl (hb hby dK_1) rfl ((if0 _ _).trans (teq hc1_102).2) ?_
      show Steps p.tables e below (s₁.setTop (mkF m 4 #[.val (.int k), .unset] [])) _
      refine st103 _ ?_
      show Steps p.tables e below (T103.setTop (mkF m 7 #[.val (.int k), .unset] [(.ref w_PERFORMED)])) _
      refine XS.astoreN X103.here hx rfl (hb hby dK_7) rfl rfl (l' := #[.val (.int k), .val (.ref w_PERFORMED)]) rfl ?_
      show Steps p.tables e below (T103.setTop (mkF m 8 #[.val (.int k), .val (.ref w_PERFORMED)] [])) _
      refine XS.goto X103.here hx rfl (pc0 := 8) (pc' := 101) rfl (hb hby dK_8) (by decide) (by decide) ?_
      show Steps p.tables e below (T103.setTop (mkF m 101 #[.val (.int k), .val (.ref w_PERFORMED)] [])) _
      refine XS.aloadN X103.here hx rfl (hb hby dK_101) rfl rfl ?_
      exact kt)
    obtain ⟨fs, hr, hrun, hended, hW, hsame⟩ := X103.leave (v := some (.ref w_PERFORMED)) (fun h => by rw [Bd.returns] at h; cases h) (hlocks := hlk)
    refine ⟨_, _, P104 _ ?_, hrun, hended, _, _, rfl, ?_, ⟨_, rfl⟩, hW, hsame.mono (by decide) (by decide)⟩
    · show Steps p.tables e below (T103.setTop (mkF m 102 #[.val (.int k), .val (.ref w_PERFORMED)] [(.ref w_PERFORMED)])) _
      exact X103.areturnOut hx (w := (.ref w_PERFORMED)) rfl Bd.returns rfl (hb hby dK_102) hr
    · show QP _ h0 _ T103.heap _
      have ev : a = w_PERFORMED := by rw [← hk]; unfold pk; rw [if_pos hc1_102]
      rw [ev]
      exact ⟨rfl, rfl, e103⟩
  · have P105 : ∀ t, Steps p.tables e below (s₁.setTop (mkF m 13 #[.val (.int k), .unset] [(.int (1 : Int32)), (.int k)])) t → Steps p.tables e below (s₁.setTop (entryFrame m #[(.int k)] 2)) t := fun t kt => P101 t (by
      show Steps p.tables e below (s₁.setTop (mkF m 1 #[.val (.int k), .unset] [(.int k)])) _
      refine XS.ifYes X0.here hx rfl (pc0 := 1) (pc' := 11) rfl (hb hby dK_1) rfl ((if0 _ _).trans (feq hc1_102).2) (by decide) (by decide) ?_
      show Steps p.tables e below (s₁.setTop (mkF m 11 #[.val (.int k), .unset] [])) _
      refine XS.iloadN X0.here hx rfl (hb hby dK_11) rfl ?_
      show Steps p.tables e below (s₁.setTop (mkF m 12 #[.val (.int k), .unset] [(.int k)])) _
      refine XS.iconst X0.here hx rfl (hb hby dK_12) ?_
      exact kt)
    by_cases hc13_106 : k = (1 : Int32)
    · obtain ⟨T107, X107, e107, st107⟩ := getS2 X0 hx hZ hown (host := "") (Or.inl (hw _ (List.mem_of_getElem? (i := 26) rfl))) Via.refl e0 S_CONFLICT (g := (mkF m 16 #[.val (.int k), .unset] [])) rfl (hb hby dK_16)
      have P108 : ∀ t, Steps p.tables e below (T107.setTop (mkF m 102 #[.val (.int k), .val (.ref w_CONFLICT)] [(.ref w_CONFLICT)])) t → Steps p.tables e below (s₁.setTop (entryFrame m #[(.int k)] 2)) t := fun t kt => P105 t (by
        show Steps p.tables e below (s₁.setTop (mkF m 13 #[.val (.int k), .unset] [(.int (1 : Int32)), (.int k)])) _
        refine XS.icmpNo X0.here hx rfl (hb hby dK_13) rfl (teq hc13_106).2 ?_
        show Steps p.tables e below (s₁.setTop (mkF m 16 #[.val (.int k), .unset] [])) _
        refine st107 _ ?_
        show Steps p.tables e below (T107.setTop (mkF m 19 #[.val (.int k), .unset] [(.ref w_CONFLICT)])) _
        refine XS.astoreN X107.here hx rfl (hb hby dK_19) rfl rfl (l' := #[.val (.int k), .val (.ref w_CONFLICT)]) rfl ?_
        show Steps p.tables e below (T107.setTop (mkF m 20 #[.val (.int k), .val (.ref w_CONFLICT)] [])) _
        refine XS.goto X107.here hx rfl (pc0 := 20) (pc' := 101) rfl (hb hby dK_20) (by decide) (by decide) ?_
        show Steps p.tables e below (T107.setTop (mkF m 101 #[.val (.int k), .val (.ref w_CONFLICT)] [])) _
        refine XS.aloadN X107.here hx rfl (hb hby dK_101) rfl rfl ?_
        exact kt)
      obtain ⟨fs, hr, hrun, hended, hW, hsame⟩ := X107.leave (v := some (.ref w_CONFLICT)) (fun h => by rw [Bd.returns] at h; cases h) (hlocks := hlk)
      refine ⟨_, _, P108 _ ?_, hrun, hended, _, _, rfl, ?_, ⟨_, rfl⟩, hW, hsame.mono (by decide) (by decide)⟩
      · show Steps p.tables e below (T107.setTop (mkF m 102 #[.val (.int k), .val (.ref w_CONFLICT)] [(.ref w_CONFLICT)])) _
        exact X107.areturnOut hx (w := (.ref w_CONFLICT)) rfl Bd.returns rfl (hb hby dK_102) hr
      · show QP _ h0 _ T107.heap _
        have ev : a = w_CONFLICT := by rw [← hk]; unfold pk; rw [if_neg hc1_102, if_pos hc13_106]
        rw [ev]
        exact ⟨rfl, rfl, e107⟩
    · have P109 : ∀ t, Steps p.tables e below (s₁.setTop (mkF m 25 #[.val (.int k), .unset] [(.int (2 : Int32)), (.int k)])) t → Steps p.tables e below (s₁.setTop (entryFrame m #[(.int k)] 2)) t := fun t kt => P105 t (by
        show Steps p.tables e below (s₁.setTop (mkF m 13 #[.val (.int k), .unset] [(.int (1 : Int32)), (.int k)])) _
        refine XS.icmpYes X0.here hx rfl (pc0 := 13) (pc' := 23) rfl (hb hby dK_13) rfl (feq hc13_106).2 (by decide) (by decide) ?_
        show Steps p.tables e below (s₁.setTop (mkF m 23 #[.val (.int k), .unset] [])) _
        refine XS.iloadN X0.here hx rfl (hb hby dK_23) rfl ?_
        show Steps p.tables e below (s₁.setTop (mkF m 24 #[.val (.int k), .unset] [(.int k)])) _
        refine XS.iconst X0.here hx rfl (hb hby dK_24) ?_
        exact kt)
      by_cases hc25_110 : k = (2 : Int32)
      · obtain ⟨T111, X111, e111, st111⟩ := getS2 X0 hx hZ hown (host := "") (Or.inl (hw _ (List.mem_of_getElem? (i := 24) rfl))) Via.refl e0 S_SKIPPED (g := (mkF m 28 #[.val (.int k), .unset] [])) rfl (hb hby dK_28)
        have P112 : ∀ t, Steps p.tables e below (T111.setTop (mkF m 102 #[.val (.int k), .val (.ref w_SKIPPED)] [(.ref w_SKIPPED)])) t → Steps p.tables e below (s₁.setTop (entryFrame m #[(.int k)] 2)) t := fun t kt => P109 t (by
          show Steps p.tables e below (s₁.setTop (mkF m 25 #[.val (.int k), .unset] [(.int (2 : Int32)), (.int k)])) _
          refine XS.icmpNo X0.here hx rfl (hb hby dK_25) rfl (teq hc25_110).2 ?_
          show Steps p.tables e below (s₁.setTop (mkF m 28 #[.val (.int k), .unset] [])) _
          refine st111 _ ?_
          show Steps p.tables e below (T111.setTop (mkF m 31 #[.val (.int k), .unset] [(.ref w_SKIPPED)])) _
          refine XS.astoreN X111.here hx rfl (hb hby dK_31) rfl rfl (l' := #[.val (.int k), .val (.ref w_SKIPPED)]) rfl ?_
          show Steps p.tables e below (T111.setTop (mkF m 32 #[.val (.int k), .val (.ref w_SKIPPED)] [])) _
          refine XS.goto X111.here hx rfl (pc0 := 32) (pc' := 101) rfl (hb hby dK_32) (by decide) (by decide) ?_
          show Steps p.tables e below (T111.setTop (mkF m 101 #[.val (.int k), .val (.ref w_SKIPPED)] [])) _
          refine XS.aloadN X111.here hx rfl (hb hby dK_101) rfl rfl ?_
          exact kt)
        obtain ⟨fs, hr, hrun, hended, hW, hsame⟩ := X111.leave (v := some (.ref w_SKIPPED)) (fun h => by rw [Bd.returns] at h; cases h) (hlocks := hlk)
        refine ⟨_, _, P112 _ ?_, hrun, hended, _, _, rfl, ?_, ⟨_, rfl⟩, hW, hsame.mono (by decide) (by decide)⟩
        · show Steps p.tables e below (T111.setTop (mkF m 102 #[.val (.int k), .val (.ref w_SKIPPED)] [(.ref w_SKIPPED)])) _
          exact X111.areturnOut hx (w := (.ref w_SKIPPED)) rfl Bd.returns rfl (hb hby dK_102) hr
        · show QP _ h0 _ T111.heap _
          have ev : a = w_SKIPPED := by rw [← hk]; unfold pk; rw [if_neg hc1_102, if_neg hc13_106, if_pos hc25_110]
          rw [ev]
          exact ⟨rfl, rfl, e111⟩
      · have P113 : ∀ t, Steps p.tables e below (s₁.setTop (mkF m 37 #[.val (.int k), .unset] [(.int (3 : Int32)), (.int k)])) t → Steps p.tables e below (s₁.setTop (entryFrame m #[(.int k)] 2)) t := fun t kt => P109 t (by
          show Steps p.tables e below (s₁.setTop (mkF m 25 #[.val (.int k), .unset] [(.int (2 : Int32)), (.int k)])) _
          refine XS.icmpYes X0.here hx rfl (pc0 := 25) (pc' := 35) rfl (hb hby dK_25) rfl (feq hc25_110).2 (by decide) (by decide) ?_
          show Steps p.tables e below (s₁.setTop (mkF m 35 #[.val (.int k), .unset] [])) _
          refine XS.iloadN X0.here hx rfl (hb hby dK_35) rfl ?_
          show Steps p.tables e below (s₁.setTop (mkF m 36 #[.val (.int k), .unset] [(.int k)])) _
          refine XS.iconst X0.here hx rfl (hb hby dK_36) ?_
          exact kt)
        by_cases hc37_114 : k = (3 : Int32)
        · obtain ⟨T115, X115, e115, st115⟩ := getS2 X0 hx hZ hown (host := "") (Or.inl (hw _ (List.mem_of_getElem? (i := 22) rfl))) Via.refl e0 S_RECONCILED (g := (mkF m 40 #[.val (.int k), .unset] [])) rfl (hb hby dK_40)
          have P116 : ∀ t, Steps p.tables e below (T115.setTop (mkF m 102 #[.val (.int k), .val (.ref w_RECONCILED)] [(.ref w_RECONCILED)])) t → Steps p.tables e below (s₁.setTop (entryFrame m #[(.int k)] 2)) t := fun t kt => P113 t (by
            show Steps p.tables e below (s₁.setTop (mkF m 37 #[.val (.int k), .unset] [(.int (3 : Int32)), (.int k)])) _
            refine XS.icmpNo X0.here hx rfl (hb hby dK_37) rfl (teq hc37_114).2 ?_
            show Steps p.tables e below (s₁.setTop (mkF m 40 #[.val (.int k), .unset] [])) _
            refine st115 _ ?_
            show Steps p.tables e below (T115.setTop (mkF m 43 #[.val (.int k), .unset] [(.ref w_RECONCILED)])) _
            refine XS.astoreN X115.here hx rfl (hb hby dK_43) rfl rfl (l' := #[.val (.int k), .val (.ref w_RECONCILED)]) rfl ?_
            show Steps p.tables e below (T115.setTop (mkF m 44 #[.val (.int k), .val (.ref w_RECONCILED)] [])) _
            refine XS.goto X115.here hx rfl (pc0 := 44) (pc' := 101) rfl (hb hby dK_44) (by decide) (by decide) ?_
            show Steps p.tables e below (T115.setTop (mkF m 101 #[.val (.int k), .val (.ref w_RECONCILED)] [])) _
            refine XS.aloadN X115.here hx rfl (hb hby dK_101) rfl rfl ?_
            exact kt)
          obtain ⟨fs, hr, hrun, hended, hW, hsame⟩ := X115.leave (v := some (.ref w_RECONCILED)) (fun h => by rw [Bd.returns] at h; cases h) (hlocks := hlk)
          refine ⟨_, _, P116 _ ?_, hrun, hended, _, _, rfl, ?_, ⟨_, rfl⟩, hW, hsame.mono (by decide) (by decide)⟩
          · show Steps p.tables e below (T115.setTop (mkF m 102 #[.val (.int k), .val (.ref w_RECONCILED)] [(.ref w_RECONCILED)])) _
            exact X115.areturnOut hx (w := (.ref w_RECONCILED)) rfl Bd.returns rfl (hb hby dK_102) hr
          · show QP _ h0 _ T115.heap _
            have ev : a = w_RECONCILED := by rw [← hk]; unfold pk; rw [if_neg hc1_102, if_neg hc13_106, if_neg hc25_110, if_pos hc37_114]
            rw [ev]
            exact ⟨rfl, rfl, e115⟩
        · have P117 : ∀ t, Steps p.tables e below (s₁.setTop (mkF m 49 #[.val (.int k), .unset] [(.int (4 : Int32)), (.int k)])) t → Steps p.tables e below (s₁.setTop (entryFrame m #[(.int k)] 2)) t := fun t kt => P113 t (by
            show Steps p.tables e below (s₁.setTop (mkF m 37 #[.val (.int k), .unset] [(.int (3 : Int32)), (.int k)])) _
            refine XS.icmpYes X0.here hx rfl (pc0 := 37) (pc' := 47) rfl (hb hby dK_37) rfl (feq hc37_114).2 (by decide) (by decide) ?_
            show Steps p.tables e below (s₁.setTop (mkF m 47 #[.val (.int k), .unset] [])) _
            refine XS.iloadN X0.here hx rfl (hb hby dK_47) rfl ?_
            show Steps p.tables e below (s₁.setTop (mkF m 48 #[.val (.int k), .unset] [(.int k)])) _
            refine XS.iconst X0.here hx rfl (hb hby dK_48) ?_
            exact kt)
          by_cases hc49_118 : k = (4 : Int32)
          · obtain ⟨T119, X119, e119, st119⟩ := getS2 X0 hx hZ hown (host := "") (Or.inl (hw _ (List.mem_of_getElem? (i := 30) rfl))) Via.refl e0 S_FOUND (g := (mkF m 52 #[.val (.int k), .unset] [])) rfl (hb hby dK_52)
            have P120 : ∀ t, Steps p.tables e below (T119.setTop (mkF m 102 #[.val (.int k), .val (.ref w_FOUND)] [(.ref w_FOUND)])) t → Steps p.tables e below (s₁.setTop (entryFrame m #[(.int k)] 2)) t := fun t kt => P117 t (by
              show Steps p.tables e below (s₁.setTop (mkF m 49 #[.val (.int k), .unset] [(.int (4 : Int32)), (.int k)])) _
              refine XS.icmpNo X0.here hx rfl (hb hby dK_49) rfl (teq hc49_118).2 ?_
              show Steps p.tables e below (s₁.setTop (mkF m 52 #[.val (.int k), .unset] [])) _
              refine st119 _ ?_
              show Steps p.tables e below (T119.setTop (mkF m 55 #[.val (.int k), .unset] [(.ref w_FOUND)])) _
              refine XS.astoreN X119.here hx rfl (hb hby dK_55) rfl rfl (l' := #[.val (.int k), .val (.ref w_FOUND)]) rfl ?_
              show Steps p.tables e below (T119.setTop (mkF m 56 #[.val (.int k), .val (.ref w_FOUND)] [])) _
              refine XS.goto X119.here hx rfl (pc0 := 56) (pc' := 101) rfl (hb hby dK_56) (by decide) (by decide) ?_
              show Steps p.tables e below (T119.setTop (mkF m 101 #[.val (.int k), .val (.ref w_FOUND)] [])) _
              refine XS.aloadN X119.here hx rfl (hb hby dK_101) rfl rfl ?_
              exact kt)
            obtain ⟨fs, hr, hrun, hended, hW, hsame⟩ := X119.leave (v := some (.ref w_FOUND)) (fun h => by rw [Bd.returns] at h; cases h) (hlocks := hlk)
            refine ⟨_, _, P120 _ ?_, hrun, hended, _, _, rfl, ?_, ⟨_, rfl⟩, hW, hsame.mono (by decide) (by decide)⟩
            · show Steps p.tables e below (T119.setTop (mkF m 102 #[.val (.int k), .val (.ref w_FOUND)] [(.ref w_FOUND)])) _
              exact X119.areturnOut hx (w := (.ref w_FOUND)) rfl Bd.returns rfl (hb hby dK_102) hr
            · show QP _ h0 _ T119.heap _
              have ev : a = w_FOUND := by rw [← hk]; unfold pk; rw [if_neg hc1_102, if_neg hc13_106, if_neg hc25_110, if_neg hc37_114, if_pos hc49_118]
              rw [ev]
              exact ⟨rfl, rfl, e119⟩
          · have P121 : ∀ t, Steps p.tables e below (s₁.setTop (mkF m 61 #[.val (.int k), .unset] [(.int (5 : Int32)), (.int k)])) t → Steps p.tables e below (s₁.setTop (entryFrame m #[(.int k)] 2)) t := fun t kt => P117 t (by
              show Steps p.tables e below (s₁.setTop (mkF m 49 #[.val (.int k), .unset] [(.int (4 : Int32)), (.int k)])) _
              refine XS.icmpYes X0.here hx rfl (pc0 := 49) (pc' := 59) rfl (hb hby dK_49) rfl (feq hc49_118).2 (by decide) (by decide) ?_
              show Steps p.tables e below (s₁.setTop (mkF m 59 #[.val (.int k), .unset] [])) _
              refine XS.iloadN X0.here hx rfl (hb hby dK_59) rfl ?_
              show Steps p.tables e below (s₁.setTop (mkF m 60 #[.val (.int k), .unset] [(.int k)])) _
              refine XS.iconst X0.here hx rfl (hb hby dK_60) ?_
              exact kt)
            by_cases hc61_122 : k = (5 : Int32)
            · obtain ⟨T123, X123, e123, st123⟩ := getS2 X0 hx hZ hown (host := "") (Or.inl (hw _ (List.mem_of_getElem? (i := 36) rfl))) Via.refl e0 S_FAILED (g := (mkF m 64 #[.val (.int k), .unset] [])) rfl (hb hby dK_64)
              have P124 : ∀ t, Steps p.tables e below (T123.setTop (mkF m 102 #[.val (.int k), .val (.ref w_FAILED)] [(.ref w_FAILED)])) t → Steps p.tables e below (s₁.setTop (entryFrame m #[(.int k)] 2)) t := fun t kt => P121 t (by
                show Steps p.tables e below (s₁.setTop (mkF m 61 #[.val (.int k), .unset] [(.int (5 : Int32)), (.int k)])) _
                refine XS.icmpNo X0.here hx rfl (hb hby dK_61) rfl (teq hc61_122).2 ?_
                show Steps p.tables e below (s₁.setTop (mkF m 64 #[.val (.int k), .unset] [])) _
                refine st123 _ ?_
                show Steps p.tables e below (T123.setTop (mkF m 67 #[.val (.int k), .unset] [(.ref w_FAILED)])) _
                refine XS.astoreN X123.here hx rfl (hb hby dK_67) rfl rfl (l' := #[.val (.int k), .val (.ref w_FAILED)]) rfl ?_
                show Steps p.tables e below (T123.setTop (mkF m 68 #[.val (.int k), .val (.ref w_FAILED)] [])) _
                refine XS.goto X123.here hx rfl (pc0 := 68) (pc' := 101) rfl (hb hby dK_68) (by decide) (by decide) ?_
                show Steps p.tables e below (T123.setTop (mkF m 101 #[.val (.int k), .val (.ref w_FAILED)] [])) _
                refine XS.aloadN X123.here hx rfl (hb hby dK_101) rfl rfl ?_
                exact kt)
              obtain ⟨fs, hr, hrun, hended, hW, hsame⟩ := X123.leave (v := some (.ref w_FAILED)) (fun h => by rw [Bd.returns] at h; cases h) (hlocks := hlk)
              refine ⟨_, _, P124 _ ?_, hrun, hended, _, _, rfl, ?_, ⟨_, rfl⟩, hW, hsame.mono (by decide) (by decide)⟩
              · show Steps p.tables e below (T123.setTop (mkF m 102 #[.val (.int k), .val (.ref w_FAILED)] [(.ref w_FAILED)])) _
                exact X123.areturnOut hx (w := (.ref w_FAILED)) rfl Bd.returns rfl (hb hby dK_102) hr
              · show QP _ h0 _ T123.heap _
                have ev : a = w_FAILED := by rw [← hk]; unfold pk; rw [if_neg hc1_102, if_neg hc13_106, if_neg hc25_110, if_neg hc37_114, if_neg hc49_118, if_pos hc61_122]
                rw [ev]
                exact ⟨rfl, rfl, e123⟩
            · have P125 : ∀ t, Steps p.tables e below (s₁.setTop (mkF m 74 #[.val (.int k), .unset] [(.int (6 : Int32)), (.int k)])) t → Steps p.tables e below (s₁.setTop (entryFrame m #[(.int k)] 2)) t := fun t kt => P121 t (by
                show Steps p.tables e below (s₁.setTop (mkF m 61 #[.val (.int k), .unset] [(.int (5 : Int32)), (.int k)])) _
                refine XS.icmpYes X0.here hx rfl (pc0 := 61) (pc' := 71) rfl (hb hby dK_61) rfl (feq hc61_122).2 (by decide) (by decide) ?_
                show Steps p.tables e below (s₁.setTop (mkF m 71 #[.val (.int k), .unset] [])) _
                refine XS.iloadN X0.here hx rfl (hb hby dK_71) rfl ?_
                show Steps p.tables e below (s₁.setTop (mkF m 72 #[.val (.int k), .unset] [(.int k)])) _
                refine XS.bipush X0.here hx rfl (hb hby dK_72) ?_
                exact kt)
              by_cases hc74_126 : k = (6 : Int32)
              · obtain ⟨T127, X127, e127, st127⟩ := getS2 X0 hx hZ hown (host := "") (Or.inl (hw _ (List.mem_of_getElem? (i := 34) rfl))) Via.refl e0 S_UNKNOWN (g := (mkF m 77 #[.val (.int k), .unset] [])) rfl (hb hby dK_77)
                have P128 : ∀ t, Steps p.tables e below (T127.setTop (mkF m 102 #[.val (.int k), .val (.ref w_UNKNOWN)] [(.ref w_UNKNOWN)])) t → Steps p.tables e below (s₁.setTop (entryFrame m #[(.int k)] 2)) t := fun t kt => P125 t (by
                  show Steps p.tables e below (s₁.setTop (mkF m 74 #[.val (.int k), .unset] [(.int (6 : Int32)), (.int k)])) _
                  refine XS.icmpNo X0.here hx rfl (hb hby dK_74) rfl (teq hc74_126).2 ?_
                  show Steps p.tables e below (s₁.setTop (mkF m 77 #[.val (.int k), .unset] [])) _
                  refine st127 _ ?_
                  show Steps p.tables e below (T127.setTop (mkF m 80 #[.val (.int k), .unset] [(.ref w_UNKNOWN)])) _
                  refine XS.astoreN X127.here hx rfl (hb hby dK_80) rfl rfl (l' := #[.val (.int k), .val (.ref w_UNKNOWN)]) rfl ?_
                  show Steps p.tables e below (T127.setTop (mkF m 81 #[.val (.int k), .val (.ref w_UNKNOWN)] [])) _
                  refine XS.goto X127.here hx rfl (pc0 := 81) (pc' := 101) rfl (hb hby dK_81) (by decide) (by decide) ?_
                  show Steps p.tables e below (T127.setTop (mkF m 101 #[.val (.int k), .val (.ref w_UNKNOWN)] [])) _
                  refine XS.aloadN X127.here hx rfl (hb hby dK_101) rfl rfl ?_
                  exact kt)
                obtain ⟨fs, hr, hrun, hended, hW, hsame⟩ := X127.leave (v := some (.ref w_UNKNOWN)) (fun h => by rw [Bd.returns] at h; cases h) (hlocks := hlk)
                refine ⟨_, _, P128 _ ?_, hrun, hended, _, _, rfl, ?_, ⟨_, rfl⟩, hW, hsame.mono (by decide) (by decide)⟩
                · show Steps p.tables e below (T127.setTop (mkF m 102 #[.val (.int k), .val (.ref w_UNKNOWN)] [(.ref w_UNKNOWN)])) _
                  exact X127.areturnOut hx (w := (.ref w_UNKNOWN)) rfl Bd.returns rfl (hb hby dK_102) hr
                · show QP _ h0 _ T127.heap _
                  have ev : a = w_UNKNOWN := by rw [← hk]; unfold pk; rw [if_neg hc1_102, if_neg hc13_106, if_neg hc25_110, if_neg hc37_114, if_neg hc49_118, if_neg hc61_122, if_pos hc74_126]
                  rw [ev]
                  exact ⟨rfl, rfl, e127⟩
              · have P129 : ∀ t, Steps p.tables e below (s₁.setTop (mkF m 87 #[.val (.int k), .unset] [(.int (7 : Int32)), (.int k)])) t → Steps p.tables e below (s₁.setTop (entryFrame m #[(.int k)] 2)) t := fun t kt => P125 t (by
                  show Steps p.tables e below (s₁.setTop (mkF m 74 #[.val (.int k), .unset] [(.int (6 : Int32)), (.int k)])) _
                  refine XS.icmpYes X0.here hx rfl (pc0 := 74) (pc' := 84) rfl (hb hby dK_74) rfl (feq hc74_126).2 (by decide) (by decide) ?_
                  show Steps p.tables e below (s₁.setTop (mkF m 84 #[.val (.int k), .unset] [])) _
                  refine XS.iloadN X0.here hx rfl (hb hby dK_84) rfl ?_
                  show Steps p.tables e below (s₁.setTop (mkF m 85 #[.val (.int k), .unset] [(.int k)])) _
                  refine XS.bipush X0.here hx rfl (hb hby dK_85) ?_
                  exact kt)
                by_cases hc87_130 : k = (7 : Int32)
                · obtain ⟨T131, X131, e131, st131⟩ := getS2 X0 hx hZ hown (host := "") (Or.inl (hw _ (List.mem_of_getElem? (i := 28) rfl))) Via.refl e0 S_BUSY (g := (mkF m 90 #[.val (.int k), .unset] [])) rfl (hb hby dK_90)
                  have P132 : ∀ t, Steps p.tables e below (T131.setTop (mkF m 102 #[.val (.int k), .val (.ref w_BUSY)] [(.ref w_BUSY)])) t → Steps p.tables e below (s₁.setTop (entryFrame m #[(.int k)] 2)) t := fun t kt => P129 t (by
                    show Steps p.tables e below (s₁.setTop (mkF m 87 #[.val (.int k), .unset] [(.int (7 : Int32)), (.int k)])) _
                    refine XS.icmpNo X0.here hx rfl (hb hby dK_87) rfl (teq hc87_130).2 ?_
                    show Steps p.tables e below (s₁.setTop (mkF m 90 #[.val (.int k), .unset] [])) _
                    refine st131 _ ?_
                    show Steps p.tables e below (T131.setTop (mkF m 93 #[.val (.int k), .unset] [(.ref w_BUSY)])) _
                    refine XS.astoreN X131.here hx rfl (hb hby dK_93) rfl rfl (l' := #[.val (.int k), .val (.ref w_BUSY)]) rfl ?_
                    show Steps p.tables e below (T131.setTop (mkF m 94 #[.val (.int k), .val (.ref w_BUSY)] [])) _
                    refine XS.goto X131.here hx rfl (pc0 := 94) (pc' := 101) rfl (hb hby dK_94) (by decide) (by decide) ?_
                    show Steps p.tables e below (T131.setTop (mkF m 101 #[.val (.int k), .val (.ref w_BUSY)] [])) _
                    refine XS.aloadN X131.here hx rfl (hb hby dK_101) rfl rfl ?_
                    exact kt)
                  obtain ⟨fs, hr, hrun, hended, hW, hsame⟩ := X131.leave (v := some (.ref w_BUSY)) (fun h => by rw [Bd.returns] at h; cases h) (hlocks := hlk)
                  refine ⟨_, _, P132 _ ?_, hrun, hended, _, _, rfl, ?_, ⟨_, rfl⟩, hW, hsame.mono (by decide) (by decide)⟩
                  · show Steps p.tables e below (T131.setTop (mkF m 102 #[.val (.int k), .val (.ref w_BUSY)] [(.ref w_BUSY)])) _
                    exact X131.areturnOut hx (w := (.ref w_BUSY)) rfl Bd.returns rfl (hb hby dK_102) hr
                  · show QP _ h0 _ T131.heap _
                    have ev : a = w_BUSY := by rw [← hk]; unfold pk; rw [if_neg hc1_102, if_neg hc13_106, if_neg hc25_110, if_neg hc37_114, if_neg hc49_118, if_neg hc61_122, if_neg hc74_126, if_pos hc87_130]
                    rw [ev]
                    exact ⟨rfl, rfl, e131⟩
                · obtain ⟨T133, X133, e133, st133⟩ := getS2 X0 hx hZ hown (host := "") (Or.inl (hw _ (List.mem_of_getElem? (i := 32) rfl))) Via.refl e0 S_MISMATCH (g := (mkF m 97 #[.val (.int k), .unset] [])) rfl (hb hby dK_97)
                  have P134 : ∀ t, Steps p.tables e below (T133.setTop (mkF m 102 #[.val (.int k), .val (.ref w_MISMATCH)] [(.ref w_MISMATCH)])) t → Steps p.tables e below (s₁.setTop (entryFrame m #[(.int k)] 2)) t := fun t kt => P129 t (by
                    show Steps p.tables e below (s₁.setTop (mkF m 87 #[.val (.int k), .unset] [(.int (7 : Int32)), (.int k)])) _
                    refine XS.icmpYes X0.here hx rfl (pc0 := 87) (pc' := 97) rfl (hb hby dK_87) rfl (feq hc87_130).2 (by decide) (by decide) ?_
                    show Steps p.tables e below (s₁.setTop (mkF m 97 #[.val (.int k), .unset] [])) _
                    refine st133 _ ?_
                    show Steps p.tables e below (T133.setTop (mkF m 100 #[.val (.int k), .unset] [(.ref w_MISMATCH)])) _
                    refine XS.astoreN X133.here hx rfl (hb hby dK_100) rfl rfl (l' := #[.val (.int k), .val (.ref w_MISMATCH)]) rfl ?_
                    show Steps p.tables e below (T133.setTop (mkF m 101 #[.val (.int k), .val (.ref w_MISMATCH)] [])) _
                    refine XS.aloadN X133.here hx rfl (hb hby dK_101) rfl rfl ?_
                    exact kt)
                  obtain ⟨fs, hr, hrun, hended, hW, hsame⟩ := X133.leave (v := some (.ref w_MISMATCH)) (fun h => by rw [Bd.returns] at h; cases h) (hlocks := hlk)
                  refine ⟨_, _, P134 _ ?_, hrun, hended, _, _, rfl, ?_, ⟨_, rfl⟩, hW, hsame.mono (by decide) (by decide)⟩
                  · show Steps p.tables e below (T133.setTop (mkF m 102 #[.val (.int k), .val (.ref w_MISMATCH)] [(.ref w_MISMATCH)])) _
                    exact X133.areturnOut hx (w := (.ref w_MISMATCH)) rfl Bd.returns rfl (hb hby dK_102) hr
                  · show QP _ h0 _ T133.heap _
                    have ev : a = w_MISMATCH := by rw [← hk]; unfold pk; rw [if_neg hc1_102, if_neg hc13_106, if_neg hc25_110, if_neg hc37_114, if_neg hc49_118, if_neg hc61_122, if_neg hc74_126, if_neg hc87_130]
                    rw [ev]
                    exact ⟨rfl, rfl, e133⟩
theorem dP_0 : decode prog_50_method_6_code 0 = .ok (.aload_n 0, 1) := by decide +kernel
theorem dP_1 : decode prog_50_method_6_code 1 = .ok (.invokevirtual 78, 3) := by decide +kernel
theorem dP_4 : decode prog_50_method_6_code 4 = .ok (.tableswitch 52 0 8 #[62, 62, 62, 62, 62, 66, 66, 66, 66], 52) := by decide +kernel
theorem dP_66 : decode prog_50_method_6_code 66 = .ok (.iconst 1, 1) := by decide +kernel
theorem dP_67 : decode prog_50_method_6_code 67 = .ok (.goto 4, 3) := by decide +kernel
theorem dP_70 : decode prog_50_method_6_code 70 = .ok (.iconst 0, 1) := by decide +kernel
theorem dP_71 : decode prog_50_method_6_code 71 = .ok (.ireturn, 1) := by decide +kernel
theorem ef_P (m : MethodId) (x0 : Addr) : entryFrame m #[(.ref x0)] 1 = mkF m 0 #[.val (.ref x0)] [] := by first | (simp [entryFrame, mkF, argsToLocals, Value.category]; done) | rfl
set_option maxRecDepth 65536 in
set_option maxHeartbeats 40000000 in
theorem rmP (l : Launch) (Z : State) (a0 : Array Value) (hw : ∀ d ∈ tables_1, d.before a0 Z = true) (ws : List Jvm.Cond) (a1 : Addr) (k : Int32) (h0 : Heap) (E1 : Exa Z h0 a1 "com/example/retry_ledger/retryledger/RunResult$Outcome") (F1 : Fld Z h0 a1 "java/lang/Enum" "ordinal" "I" (.int k)) (hk : k = (0 : Int32) ∨ k = (1 : Int32) ∨ k = (2 : Int32) ∨ k = (3 : Int32) ∨ k = (4 : Int32) ∨ k = (5 : Int32) ∨ k = (6 : Int32) ∨ k = (7 : Int32) ∨ k = (8 : Int32)) :
    MetFree l (⟨"com/example/retry_ledger/retryledger/RunResult$Outcome", "isInPlace", "()Z"⟩ : MethodName) (head1 (Jvm.Cond.code (⟨"com/example/retry_ledger/retryledger/RunResult$Outcome", "isInPlace", "()Z"⟩ : MethodName) prog_50_method_6_code 1 (some .boolean) :: ws) ({ frames := 1, cells := 0, slots := 0, locals := 12 } : Room)) (fun a U => a = #[(.ref a1)] ∧ Z.Warmed39 U.vm ∧ U.heap = h0) (fun _ _ _ _ _ => True) (fun _ U o U' => ∃ v L, o = .returned v ∧ QP (some (.int (inp k))) h0 v U'.heap L ∧ FrameEnd U o U' L ({ frames := 1, cells := 0, slots := 0, locals := 12 } : Room).cells ({ frames := 1, cells := 0, slots := 0, locals := 12 } : Room).slots) := by
  refine MetFree.of_bodySF (plainFor_of_name (by first | (simp [plainName, overriddenIn]; done) | decide +kernel)) hisR ?_
  intro p e s m args below meth c s₁ Bd hml0 hP hK
  obtain ⟨rfl, hZ, hh⟩ := hP
  have hx := Bd.exec
  have hby := Bd.bytes
  have hml : c.maxLocals = 1 := hml0
  have hown : s.vm.findClass "com/example/retry_ledger/retryledger/RunResult$Outcome" = some m.cls := findClass_of_methodNamed Bd.named
  have hnm := (name_of_methodNamed Bd.named Bd.method).1
  have hlk : meth.locks = false := BodyLoose.notSynchronized Bd
  have X0 : Stand p l e ({ frames := 1, cells := 0, slots := 0, locals := 12 } : Room) s m #[(.ref a1)] below meth c s₁ [] 0 0 := Stand.of_body Bd
  have e0 : s₁.heap = h0 := by rw [← hh, Bd.state]; rfl
  have P0 : ∀ t, Steps p.tables e below (s₁.setTop (mkF m 0 #[.val (.ref a1)] [])) t → Steps p.tables e below (s₁.setTop (entryFrame m #[(.ref a1)] 1)) t := fun t kt => castTop (ef_P m a1) kt
  obtain ⟨cq101, kq101, q101a, q101b, q101c⟩ := isOf hZ e0 E1
  obtain ⟨_, _, ⟨T101, L101, k101, n101⟩, -, X101, ⟨Lc101, hQ101, l101, y101, z101⟩, st101⟩ := X0.virtualBackUp hx (x := (⟨"com/example/retry_ledger/retryledger/RunResult$Outcome", "ordinal", "()I"⟩ : MethodName)) (y := (⟨"java/lang/Enum", "ordinal", "()I"⟩ : MethodName)) hown (mvT hZ (hw _ (List.mem_of_getElem? (i := 13) rfl))) (mvT hZ (hw _ (List.mem_of_getElem? (i := 14) rfl))) (mvT hZ (hw _ (List.mem_of_getElem? (i := 15) rfl))) (by decide) (mvT hZ (hw _ (List.mem_of_getElem? (i := 17) rfl))) (mvT hZ (hw _ (List.mem_of_getElem? (i := 16) rfl))) (backOf (W := 0)  (rmO l Z a0 hw [] a1 k h0 F1) hZ (hw _ (List.mem_of_getElem? (i := 19) rfl)) (hw _ (List.mem_of_getElem? (i := 18) rfl)) (by decide) (by decide)) q101a q101c (g := (mkF m 1 #[.val (.ref a1)] [(.ref a1)])) rfl (by rw [hml]; rfl) (Steps.refl _) (argsL := []) (rest := []) (lenOf pd___I rfl) rfl (by show 2 * 0 + _ ≤ _; exact Nat.le_of_eq rfl) (hb hby dP_1) (fun _ _ => ⟨rfl, e0, (by decide : 0 + 0 ≤ _), (by decide : 0 + 0 ≤ _)⟩)
  dsimp only [Pt.U, Pt.locs, Pt.cells, Pt.slots] at X101 l101 y101 z101 st101 hQ101
  subst l101 y101 z101
  obtain ⟨rfl, rfl, e101⟩ := hQ101
  have X101 : Stand p l e ({ frames := 1, cells := 0, slots := 0, locals := 12 } : Room) s m #[(.ref a1)] below meth c T101 [] 0 0 := X101
  have P102 : ∀ t, Steps p.tables e below (T101.setTop (mkF m 4 #[.val (.ref a1)] [(.int k)])) t → Steps p.tables e below (s₁.setTop (entryFrame m #[(.ref a1)] 1)) t := fun t kt => P0 t (by
    show Steps p.tables e below (s₁.setTop (mkF m 0 #[.val (.ref a1)] [])) _
    refine XS.aloadN X0.here hx rfl (hb hby dP_0) rfl rfl ?_
    show Steps p.tables e below (s₁.setTop (mkF m 1 #[.val (.ref a1)] [(.ref a1)])) _
    refine st101.trans ?_
    exact kt)
  rcases hk with rfl | rfl | rfl | rfl | rfl | rfl | rfl | rfl | rfl
  · have P103 : ∀ t, Steps p.tables e below (T101.setTop (mkF m 71 #[.val (.ref a1)] [(.int (1 : Int32))])) t → Steps p.tables e below (s₁.setTop (entryFrame m #[(.ref a1)] 1)) t := fun t kt => P102 t (by
      show Steps p.tables e below (T101.setTop (mkF m 4 #[.val (.ref a1)] [(.int (0 : Int32))])) _
      refine XS.tswIn X101.here hx rfl (pc0 := 4) (pc' := 66) (o := 62) rfl (hb hby dP_4) rfl (by decide) (by decide) (by decide) (by decide) ?_
      show Steps p.tables e below (T101.setTop (mkF m 66 #[.val (.ref a1)] [])) _
      refine XS.iconst X101.here hx rfl (hb hby dP_66) ?_
      show Steps p.tables e below (T101.setTop (mkF m 67 #[.val (.ref a1)] [(.int (1 : Int32))])) _
      refine XS.goto X101.here hx rfl (pc0 := 67) (pc' := 71) rfl (hb hby dP_67) (by decide) (by decide) ?_
      exact kt)
    obtain ⟨fs, hr, hrun, hended, hW, hsame⟩ := X101.leave (v := some (.int (1 : Int32))) (fun h => by rw [Bd.returns] at h; cases h) (hlocks := hlk)
    refine ⟨_, _, P103 _ ?_, hrun, hended, _, _, rfl, ?_, ⟨_, rfl⟩, hW, hsame.mono (by decide) (by decide)⟩
    · show Steps p.tables e below (T101.setTop (mkF m 71 #[.val (.ref a1)] [(.int (1 : Int32))])) _
      exact retN X101 hx (t := .boolean) Bd.returns (by simp) (hb hby dP_71) hr
    · show QP _ h0 _ T101.heap _
      have ev : inp (0 : Int32) = (1 : Int32) := by decide
      rw [ev]
      exact ⟨rfl, rfl, e101⟩
  · have P104 : ∀ t, Steps p.tables e below (T101.setTop (mkF m 71 #[.val (.ref a1)] [(.int (1 : Int32))])) t → Steps p.tables e below (s₁.setTop (entryFrame m #[(.ref a1)] 1)) t := fun t kt => P102 t (by
      show Steps p.tables e below (T101.setTop (mkF m 4 #[.val (.ref a1)] [(.int (1 : Int32))])) _
      refine XS.tswIn X101.here hx rfl (pc0 := 4) (pc' := 66) (o := 62) rfl (hb hby dP_4) rfl (by decide) (by decide) (by decide) (by decide) ?_
      show Steps p.tables e below (T101.setTop (mkF m 66 #[.val (.ref a1)] [])) _
      refine XS.iconst X101.here hx rfl (hb hby dP_66) ?_
      show Steps p.tables e below (T101.setTop (mkF m 67 #[.val (.ref a1)] [(.int (1 : Int32))])) _
      refine XS.goto X101.here hx rfl (pc0 := 67) (pc' := 71) rfl (hb hby dP_67) (by decide) (by decide) ?_
      exact kt)
    obtain ⟨fs, hr, hrun, hended, hW, hsame⟩ := X101.leave (v := some (.int (1 : Int32))) (fun h => by rw [Bd.returns] at h; cases h) (hlocks := hlk)
    refine ⟨_, _, P104 _ ?_, hrun, hended, _, _, rfl, ?_, ⟨_, rfl⟩, hW, hsame.mono (by decide) (by decide)⟩
    · show Steps p.tables e below (T101.setTop (mkF m 71 #[.val (.ref a1)] [(.int (1 : Int32))])) _
      exact retN X101 hx (t := .boolean) Bd.returns (by simp) (hb hby dP_71) hr
    · show QP _ h0 _ T101.heap _
      have ev : inp (1 : Int32) = (1 : Int32) := by decide
      rw [ev]
      exact ⟨rfl, rfl, e101⟩
  · have P105 : ∀ t, Steps p.tables e below (T101.setTop (mkF m 71 #[.val (.ref a1)] [(.int (1 : Int32))])) t → Steps p.tables e below (s₁.setTop (entryFrame m #[(.ref a1)] 1)) t := fun t kt => P102 t (by
      show Steps p.tables e below (T101.setTop (mkF m 4 #[.val (.ref a1)] [(.int (2 : Int32))])) _
      refine XS.tswIn X101.here hx rfl (pc0 := 4) (pc' := 66) (o := 62) rfl (hb hby dP_4) rfl (by decide) (by decide) (by decide) (by decide) ?_
      show Steps p.tables e below (T101.setTop (mkF m 66 #[.val (.ref a1)] [])) _
      refine XS.iconst X101.here hx rfl (hb hby dP_66) ?_
      show Steps p.tables e below (T101.setTop (mkF m 67 #[.val (.ref a1)] [(.int (1 : Int32))])) _
      refine XS.goto X101.here hx rfl (pc0 := 67) (pc' := 71) rfl (hb hby dP_67) (by decide) (by decide) ?_
      exact kt)
    obtain ⟨fs, hr, hrun, hended, hW, hsame⟩ := X101.leave (v := some (.int (1 : Int32))) (fun h => by rw [Bd.returns] at h; cases h) (hlocks := hlk)
    refine ⟨_, _, P105 _ ?_, hrun, hended, _, _, rfl, ?_, ⟨_, rfl⟩, hW, hsame.mono (by decide) (by decide)⟩
    · show Steps p.tables e below (T101.setTop (mkF m 71 #[.val (.ref a1)] [(.int (1 : Int32))])) _
      exact retN X101 hx (t := .boolean) Bd.returns (by simp) (hb hby dP_71) hr
    · show QP _ h0 _ T101.heap _
      have ev : inp (2 : Int32) = (1 : Int32) := by decide
      rw [ev]
      exact ⟨rfl, rfl, e101⟩
  · have P106 : ∀ t, Steps p.tables e below (T101.setTop (mkF m 71 #[.val (.ref a1)] [(.int (1 : Int32))])) t → Steps p.tables e below (s₁.setTop (entryFrame m #[(.ref a1)] 1)) t := fun t kt => P102 t (by
      show Steps p.tables e below (T101.setTop (mkF m 4 #[.val (.ref a1)] [(.int (3 : Int32))])) _
      refine XS.tswIn X101.here hx rfl (pc0 := 4) (pc' := 66) (o := 62) rfl (hb hby dP_4) rfl (by decide) (by decide) (by decide) (by decide) ?_
      show Steps p.tables e below (T101.setTop (mkF m 66 #[.val (.ref a1)] [])) _
      refine XS.iconst X101.here hx rfl (hb hby dP_66) ?_
      show Steps p.tables e below (T101.setTop (mkF m 67 #[.val (.ref a1)] [(.int (1 : Int32))])) _
      refine XS.goto X101.here hx rfl (pc0 := 67) (pc' := 71) rfl (hb hby dP_67) (by decide) (by decide) ?_
      exact kt)
    obtain ⟨fs, hr, hrun, hended, hW, hsame⟩ := X101.leave (v := some (.int (1 : Int32))) (fun h => by rw [Bd.returns] at h; cases h) (hlocks := hlk)
    refine ⟨_, _, P106 _ ?_, hrun, hended, _, _, rfl, ?_, ⟨_, rfl⟩, hW, hsame.mono (by decide) (by decide)⟩
    · show Steps p.tables e below (T101.setTop (mkF m 71 #[.val (.ref a1)] [(.int (1 : Int32))])) _
      exact retN X101 hx (t := .boolean) Bd.returns (by simp) (hb hby dP_71) hr
    · show QP _ h0 _ T101.heap _
      have ev : inp (3 : Int32) = (1 : Int32) := by decide
      rw [ev]
      exact ⟨rfl, rfl, e101⟩
  · have P107 : ∀ t, Steps p.tables e below (T101.setTop (mkF m 71 #[.val (.ref a1)] [(.int (1 : Int32))])) t → Steps p.tables e below (s₁.setTop (entryFrame m #[(.ref a1)] 1)) t := fun t kt => P102 t (by
      show Steps p.tables e below (T101.setTop (mkF m 4 #[.val (.ref a1)] [(.int (4 : Int32))])) _
      refine XS.tswIn X101.here hx rfl (pc0 := 4) (pc' := 66) (o := 62) rfl (hb hby dP_4) rfl (by decide) (by decide) (by decide) (by decide) ?_
      show Steps p.tables e below (T101.setTop (mkF m 66 #[.val (.ref a1)] [])) _
      refine XS.iconst X101.here hx rfl (hb hby dP_66) ?_
      show Steps p.tables e below (T101.setTop (mkF m 67 #[.val (.ref a1)] [(.int (1 : Int32))])) _
      refine XS.goto X101.here hx rfl (pc0 := 67) (pc' := 71) rfl (hb hby dP_67) (by decide) (by decide) ?_
      exact kt)
    obtain ⟨fs, hr, hrun, hended, hW, hsame⟩ := X101.leave (v := some (.int (1 : Int32))) (fun h => by rw [Bd.returns] at h; cases h) (hlocks := hlk)
    refine ⟨_, _, P107 _ ?_, hrun, hended, _, _, rfl, ?_, ⟨_, rfl⟩, hW, hsame.mono (by decide) (by decide)⟩
    · show Steps p.tables e below (T101.setTop (mkF m 71 #[.val (.ref a1)] [(.int (1 : Int32))])) _
      exact retN X101 hx (t := .boolean) Bd.returns (by simp) (hb hby dP_71) hr
    · show QP _ h0 _ T101.heap _
      have ev : inp (4 : Int32) = (1 : Int32) := by decide
      rw [ev]
      exact ⟨rfl, rfl, e101⟩
  · have P108 : ∀ t, Steps p.tables e below (T101.setTop (mkF m 71 #[.val (.ref a1)] [(.int (0 : Int32))])) t → Steps p.tables e below (s₁.setTop (entryFrame m #[(.ref a1)] 1)) t := fun t kt => P102 t (by
      show Steps p.tables e below (T101.setTop (mkF m 4 #[.val (.ref a1)] [(.int (5 : Int32))])) _
      refine XS.tswIn X101.here hx rfl (pc0 := 4) (pc' := 70) (o := 66) rfl (hb hby dP_4) rfl (by decide) (by decide) (by decide) (by decide) ?_
      show Steps p.tables e below (T101.setTop (mkF m 70 #[.val (.ref a1)] [])) _
      refine XS.iconst X101.here hx rfl (hb hby dP_70) ?_
      exact kt)
    obtain ⟨fs, hr, hrun, hended, hW, hsame⟩ := X101.leave (v := some (.int (0 : Int32))) (fun h => by rw [Bd.returns] at h; cases h) (hlocks := hlk)
    refine ⟨_, _, P108 _ ?_, hrun, hended, _, _, rfl, ?_, ⟨_, rfl⟩, hW, hsame.mono (by decide) (by decide)⟩
    · show Steps p.tables e below (T101.setTop (mkF m 71 #[.val (.ref a1)] [(.int (0 : Int32))])) _
      exact retN X101 hx (t := .boolean) Bd.returns (by simp) (hb hby dP_71) hr
    · show QP _ h0 _ T101.heap _
      have ev : inp (5 : Int32) = (0 : Int32) := by decide
      rw [ev]
      exact ⟨rfl, rfl, e101⟩
  · have P109 : ∀ t, Steps p.tables e below (T101.setTop (mkF m 71 #[.val (.ref a1)] [(.int (0 : Int32))])) t → Steps p.tables e below (s₁.setTop (entryFrame m #[(.ref a1)] 1)) t := fun t kt => P102 t (by
      show Steps p.tables e below (T101.setTop (mkF m 4 #[.val (.ref a1)] [(.int (6 : Int32))])) _
      refine XS.tswIn X101.here hx rfl (pc0 := 4) (pc' := 70) (o := 66) rfl (hb hby dP_4) rfl (by decide) (by decide) (by decide) (by decide) ?_
      show Steps p.tables e below (T101.setTop (mkF m 70 #[.val (.ref a1)] [])) _
      refine XS.iconst X101.here hx rfl (hb hby dP_70) ?_
      exact kt)
    obtain ⟨fs, hr, hrun, hended, hW, hsame⟩ := X101.leave (v := some (.int (0 : Int32))) (fun h => by rw [Bd.returns] at h; cases h) (hlocks := hlk)
    refine ⟨_, _, P109 _ ?_, hrun, hended, _, _, rfl, ?_, ⟨_, rfl⟩, hW, hsame.mono (by decide) (by decide)⟩
    · show Steps p.tables e below (T101.setTop (mkF m 71 #[.val (.ref a1)] [(.int (0 : Int32))])) _
      exact retN X101 hx (t := .boolean) Bd.returns (by simp) (hb hby dP_71) hr
    · show QP _ h0 _ T101.heap _
      have ev : inp (6 : Int32) = (0 : Int32) := by decide
      rw [ev]
      exact ⟨rfl, rfl, e101⟩
  · have P110 : ∀ t, Steps p.tables e below (T101.setTop (mkF m 71 #[.val (.ref a1)] [(.int (0 : Int32))])) t → Steps p.tables e below (s₁.setTop (entryFrame m #[(.ref a1)] 1)) t := fun t kt => P102 t (by
      show Steps p.tables e below (T101.setTop (mkF m 4 #[.val (.ref a1)] [(.int (7 : Int32))])) _
      refine XS.tswIn X101.here hx rfl (pc0 := 4) (pc' := 70) (o := 66) rfl (hb hby dP_4) rfl (by decide) (by decide) (by decide) (by decide) ?_
      show Steps p.tables e below (T101.setTop (mkF m 70 #[.val (.ref a1)] [])) _
      refine XS.iconst X101.here hx rfl (hb hby dP_70) ?_
      exact kt)
    obtain ⟨fs, hr, hrun, hended, hW, hsame⟩ := X101.leave (v := some (.int (0 : Int32))) (fun h => by rw [Bd.returns] at h; cases h) (hlocks := hlk)
    refine ⟨_, _, P110 _ ?_, hrun, hended, _, _, rfl, ?_, ⟨_, rfl⟩, hW, hsame.mono (by decide) (by decide)⟩
    · show Steps p.tables e below (T101.setTop (mkF m 71 #[.val (.ref a1)] [(.int (0 : Int32))])) _
      exact retN X101 hx (t := .boolean) Bd.returns (by simp) (hb hby dP_71) hr
    · show QP _ h0 _ T101.heap _
      have ev : inp (7 : Int32) = (0 : Int32) := by decide
      rw [ev]
      exact ⟨rfl, rfl, e101⟩
  · have P111 : ∀ t, Steps p.tables e below (T101.setTop (mkF m 71 #[.val (.ref a1)] [(.int (0 : Int32))])) t → Steps p.tables e below (s₁.setTop (entryFrame m #[(.ref a1)] 1)) t := fun t kt => P102 t (by
      show Steps p.tables e below (T101.setTop (mkF m 4 #[.val (.ref a1)] [(.int (8 : Int32))])) _
      refine XS.tswIn X101.here hx rfl (pc0 := 4) (pc' := 70) (o := 66) rfl (hb hby dP_4) rfl (by decide) (by decide) (by decide) (by decide) ?_
      show Steps p.tables e below (T101.setTop (mkF m 70 #[.val (.ref a1)] [])) _
      refine XS.iconst X101.here hx rfl (hb hby dP_70) ?_
      exact kt)
    obtain ⟨fs, hr, hrun, hended, hW, hsame⟩ := X101.leave (v := some (.int (0 : Int32))) (fun h => by rw [Bd.returns] at h; cases h) (hlocks := hlk)
    refine ⟨_, _, P111 _ ?_, hrun, hended, _, _, rfl, ?_, ⟨_, rfl⟩, hW, hsame.mono (by decide) (by decide)⟩
    · show Steps p.tables e below (T101.setTop (mkF m 71 #[.val (.ref a1)] [(.int (0 : Int32))])) _
      exact retN X101 hx (t := .boolean) Bd.returns (by simp) (hb hby dP_71) hr
    · show QP _ h0 _ T101.heap _
      have ev : inp (8 : Int32) = (0 : Int32) := by decide
      rw [ev]
      exact ⟨rfl, rfl, e101⟩
theorem ef_0 (m : MethodId) (x0 : Int32) : entryFrame m #[(.int x0)] maxLocals = mkF m 0 #[.val (.int x0), .unset, .unset, .unset] [] := by first | (simp [entryFrame, mkF, argsToLocals, Value.category, maxLocals]; done) | rfl
set_option maxRecDepth 65536 in
set_option maxHeartbeats 40000000 in
theorem rm0 (l : Launch) (Z : State) (a0 : Array Value) (hw : ∀ d ∈ tables_1, d.before a0 Z = true) (ws : List Jvm.Cond) (p1 : Int32) (w_PERFORMED w_CONFLICT w_SKIPPED w_RECONCILED w_FOUND w_FAILED w_UNKNOWN w_BUSY w_MISMATCH : Addr) (h0 : Heap) (S_PERFORMED : Sta Z h0 "com/example/retry_ledger/retryledger/RunResult$Outcome" "PERFORMED" "Lcom/example/retry_ledger/retryledger/RunResult$Outcome;" (.ref w_PERFORMED)) (S_CONFLICT : Sta Z h0 "com/example/retry_ledger/retryledger/RunResult$Outcome" "CONFLICT" "Lcom/example/retry_ledger/retryledger/RunResult$Outcome;" (.ref w_CONFLICT)) (S_SKIPPED : Sta Z h0 "com/example/retry_ledger/retryledger/RunResult$Outcome" "SKIPPED" "Lcom/example/retry_ledger/retryledger/RunResult$Outcome;" (.ref w_SKIPPED)) (S_RECONCILED : Sta Z h0 "com/example/retry_ledger/retryledger/RunResult$Outcome" "RECONCILED" "Lcom/example/retry_ledger/retryledger/RunResult$Outcome;" (.ref w_RECONCILED)) (S_FOUND : Sta Z h0 "com/example/retry_ledger/retryledger/RunResult$Outcome" "FOUND" "Lcom/example/retry_ledger/retryledger/RunResult$Outcome;" (.ref w_FOUND)) (S_FAILED : Sta Z h0 "com/example/retry_ledger/retryledger/RunResult$Outcome" "FAILED" "Lcom/example/retry_ledger/retryledger/RunResult$Outcome;" (.ref w_FAILED)) (S_UNKNOWN : Sta Z h0 "com/example/retry_ledger/retryledger/RunResult$Outcome" "UNKNOWN" "Lcom/example/retry_ledger/retryledger/RunResult$Outcome;" (.ref w_UNKNOWN)) (S_BUSY : Sta Z h0 "com/example/retry_ledger/retryledger/RunResult$Outcome" "BUSY" "Lcom/example/retry_ledger/retryledger/RunResult$Outcome;" (.ref w_BUSY)) (S_MISMATCH : Sta Z h0 "com/example/retry_ledger/retryledger/RunResult$Outcome" "MISMATCH" "Lcom/example/retry_ledger/retryledger/RunResult$Outcome;" (.ref w_MISMATCH)) (E_PERFORMED : Exa Z h0 w_PERFORMED "com/example/retry_ledger/retryledger/RunResult$Outcome") (E_CONFLICT : Exa Z h0 w_CONFLICT "com/example/retry_ledger/retryledger/RunResult$Outcome") (E_SKIPPED : Exa Z h0 w_SKIPPED "com/example/retry_ledger/retryledger/RunResult$Outcome") (E_RECONCILED : Exa Z h0 w_RECONCILED "com/example/retry_ledger/retryledger/RunResult$Outcome") (E_FOUND : Exa Z h0 w_FOUND "com/example/retry_ledger/retryledger/RunResult$Outcome") (E_FAILED : Exa Z h0 w_FAILED "com/example/retry_ledger/retryledger/RunResult$Outcome") (E_UNKNOWN : Exa Z h0 w_UNKNOWN "com/example/retry_ledger/retryledger/RunResult$Outcome") (E_BUSY : Exa Z h0 w_BUSY "com/example/retry_ledger/retryledger/RunResult$Outcome") (E_MISMATCH : Exa Z h0 w_MISMATCH "com/example/retry_ledger/retryledger/RunResult$Outcome") (O_PERFORMED : Fld Z h0 w_PERFORMED "java/lang/Enum" "ordinal" "I" (.int (0 : Int32))) (O_CONFLICT : Fld Z h0 w_CONFLICT "java/lang/Enum" "ordinal" "I" (.int (1 : Int32))) (O_SKIPPED : Fld Z h0 w_SKIPPED "java/lang/Enum" "ordinal" "I" (.int (2 : Int32))) (O_RECONCILED : Fld Z h0 w_RECONCILED "java/lang/Enum" "ordinal" "I" (.int (3 : Int32))) (O_FOUND : Fld Z h0 w_FOUND "java/lang/Enum" "ordinal" "I" (.int (4 : Int32))) (O_FAILED : Fld Z h0 w_FAILED "java/lang/Enum" "ordinal" "I" (.int (5 : Int32))) (O_UNKNOWN : Fld Z h0 w_UNKNOWN "java/lang/Enum" "ordinal" "I" (.int (6 : Int32))) (O_BUSY : Fld Z h0 w_BUSY "java/lang/Enum" "ordinal" "I" (.int (7 : Int32))) (O_MISMATCH : Fld Z h0 w_MISMATCH "java/lang/Enum" "ordinal" "I" (.int (8 : Int32))) :
    MetFree l x (head1 (Jvm.Cond.code x code maxLocals ret :: ws) room_1) (fun a U => a = #[(.int p1)] ∧ Z.Warmed39 U.vm ∧ U.heap = h0) (fun _ _ _ _ _ => True) (fun _ U o U' => ∃ v L, o = .returned v ∧ QP (some (.int (1 : Int32))) h0 v U'.heap L ∧ FrameEnd U o U' L room_1.cells room_1.slots) := by
  refine MetFree.of_bodySF (plainFor_of_name (by first | (simp [plainName, overriddenIn]; done) | decide +kernel)) hisR ?_
  intro p e s m args below meth c s₁ Bd hml0 hP hK
  obtain ⟨rfl, hZ, hh⟩ := hP
  have hx := Bd.exec
  have hby := Bd.bytes
  have hml : c.maxLocals = 4 := hml0
  have hown : s.vm.findClass "com/example/retry_ledger/retryledger/OutcomeIsInPlacePinLaw" = some m.cls := findClass_of_methodNamed Bd.named
  have hnm := (name_of_methodNamed Bd.named Bd.method).1
  have hlk : meth.locks = false := BodyLoose.notSynchronized Bd
  have X0 : Stand p l e room_1 s m #[(.int p1)] below meth c s₁ [] 0 0 := Stand.of_body Bd
  have e0 : s₁.heap = h0 := by rw [← hh, Bd.state]; rfl
  have P0 : ∀ t, Steps p.tables e below (s₁.setTop (mkF m 0 #[.val (.int p1), .unset, .unset, .unset] [])) t → Steps p.tables e below (s₁.setTop (entryFrame m #[(.int p1)] maxLocals)) t := fun t kt => castTop (ef_0 m p1) kt
  have P101 : ∀ t, Steps p.tables e below (s₁.setTop (mkF m 7 #[.val (.int p1), .unset, .unset, .unset] [(.int ((p1 &&& (2147483647 : Int32)) - ((p1 &&& (2147483647 : Int32)) / (9 : Int32)) * (9 : Int32)))])) t → Steps p.tables e below (s₁.setTop (entryFrame m #[(.int p1)] maxLocals)) t := fun t kt => P0 t (by
    show Steps p.tables e below (s₁.setTop (mkF m 0 #[.val (.int p1), .unset, .unset, .unset] [])) _
    refine XS.iloadN X0.here hx rfl (hb hby at_0) rfl ?_
    show Steps p.tables e below (s₁.setTop (mkF m 1 #[.val (.int p1), .unset, .unset, .unset] [(.int p1)])) _
    refine X0.ldcInt hx hown (mvT hZ (hw _ (List.mem_of_getElem? (i := 0) rfl))) (g := (mkF m 1 #[.val (.int p1), .unset, .unset, .unset] [(.int p1)])) rfl (hb hby at_1) _ ?_
    show Steps p.tables e below (s₁.setTop (mkF m 3 #[.val (.int p1), .unset, .unset, .unset] [(.int (2147483647 : Int32)), (.int p1)])) _
    refine XS.iand X0.here hx rfl (hb hby at_3) rfl ?_
    show Steps p.tables e below (s₁.setTop (mkF m 4 #[.val (.int p1), .unset, .unset, .unset] [(.int (p1 &&& (2147483647 : Int32)))])) _
    refine XS.bipush X0.here hx rfl (hb hby at_4) ?_
    show Steps p.tables e below (s₁.setTop (mkF m 6 #[.val (.int p1), .unset, .unset, .unset] [(.int (9 : Int32)), (.int (p1 &&& (2147483647 : Int32)))])) _
    refine XS.irem X0.here hx rfl (hb hby at_6) rfl (by decide) ?_
    exact kt)
  obtain ⟨r, hr⟩ : ∃ z : Int32, z = ((p1 &&& (2147483647 : Int32)) - ((p1 &&& (2147483647 : Int32)) / (9 : Int32)) * (9 : Int32)) := ⟨_, rfl⟩
  rw [← hr] at P101
  have hcr := own_c9 r p1 hr
  rcases hcr with rfl | rfl | rfl | rfl | rfl | rfl | rfl | rfl | rfl
  · obtain ⟨_, _, ⟨T102, L102, k102, n102⟩, -, X102, ⟨Lc102, hQ102, l102, y102, z102⟩, st102⟩ := Jvm.LawKit.callS X0 hx (y := (⟨"com/example/retry_ledger/retryledger/OutcomeIsInPlacePinLaw", "pick", "(I)Lcom/example/retry_ledger/retryledger/RunResult$Outcome;"⟩ : MethodName)) hown (mvT hZ (hw _ (List.mem_of_getElem? (i := 1) rfl))) (mvT hZ (hw _ (List.mem_of_getElem? (i := 2) rfl))) (mvT hZ (hw _ (List.mem_of_getElem? (i := 3) rfl))) (mvT hZ (hw _ (List.mem_of_getElem? (i := 4) rfl))) (by decide) (backOf (W := 0)  (rmK l Z a0 hw [] (0 : Int32) w_PERFORMED w_CONFLICT w_SKIPPED w_RECONCILED w_FOUND w_FAILED w_UNKNOWN w_BUSY w_MISMATCH w_PERFORMED h0 S_PERFORMED S_CONFLICT S_SKIPPED S_RECONCILED S_FOUND S_FAILED S_UNKNOWN S_BUSY S_MISMATCH rfl) hZ (hw _ (List.mem_of_getElem? (i := 4) rfl)) (hw _ (List.mem_of_getElem? (i := 3) rfl)) (by decide) (by decide)) (g := (mkF m 9 #[.val (.int p1), .val (.int (0 : Int32)), .unset, .unset] [(.int (0 : Int32))])) rfl (by rw [hml]; rfl) (argsL := [(.int (0 : Int32))]) (rest := []) (lenOf pd__I_Lcom_example_retry_ledger_retryledger_RunResult_Outcome_ rfl) rfl (by show 2 * 0 + _ ≤ _; exact Nat.le_of_eq rfl) (hb hby at_9) (fun _ _ => ⟨rfl, e0, (by decide : 0 + 0 ≤ _), (by decide : 0 + 0 ≤ _)⟩)
    dsimp only [Pt.U, Pt.locs, Pt.cells, Pt.slots] at X102 l102 y102 z102 st102 hQ102
    subst l102 y102 z102
    obtain ⟨rfl, rfl, e102⟩ := hQ102
    have X102 : Stand p l e room_1 s m #[(.int p1)] below meth c T102 [] 0 0 := X102
    obtain ⟨cq103, kq103, q103a, q103b, q103c⟩ := isOf hZ e102 E_PERFORMED
    obtain ⟨_, _, ⟨T103, L103, k103, n103⟩, -, X103, ⟨Lc103, hQ103, l103, y103, z103⟩, st103⟩ := X102.virtualBack hx (y := (⟨"com/example/retry_ledger/retryledger/RunResult$Outcome", "isInPlace", "()Z"⟩ : MethodName)) (z := (⟨"com/example/retry_ledger/retryledger/RunResult$Outcome", "isInPlace", "()Z"⟩ : MethodName)) hown (mvT hZ (hw _ (List.mem_of_getElem? (i := 8) rfl))) (mvT hZ (hw _ (List.mem_of_getElem? (i := 9) rfl))) (notFace_of_selects (args := #[]) (mvT hZ (hw _ (List.mem_of_getElem? (i := 11) rfl)))) (mvT hZ (hw _ (List.mem_of_getElem? (i := 11) rfl))) (mvT hZ (hw _ (List.mem_of_getElem? (i := 10) rfl))) (by decide) (backOf (W := 0)  (rmP l Z a0 hw [] w_PERFORMED (0 : Int32) h0 E_PERFORMED O_PERFORMED (by decide)) hZ (hw _ (List.mem_of_getElem? (i := 12) rfl)) (hw _ (List.mem_of_getElem? (i := 6) rfl)) (by decide) (by decide)) q103a q103c (g := (mkF m 25 #[.val (.int p1), .val (.int (0 : Int32)), .val (.ref w_PERFORMED), .val (.int (1 : Int32))] [(.ref w_PERFORMED)])) rfl (by rw [hml]; rfl) (Steps.refl _) (argsL := []) (rest := []) (lenOf pd___Z rfl) rfl (by show 2 * 0 + _ ≤ _; exact Nat.le_of_eq rfl) (hb hby at_25) (fun _ _ => ⟨rfl, e102, (by decide : 0 + 0 ≤ _), (by decide : 0 + 0 ≤ _)⟩)
    dsimp only [Pt.U, Pt.locs, Pt.cells, Pt.slots] at X103 l103 y103 z103 st103 hQ103
    subst l103 y103 z103
    obtain ⟨rfl, rfl, e103⟩ := hQ103
    have X103 : Stand p l e room_1 s m #[(.int p1)] below meth c T103 [] 0 0 := X103
    have P104 : ∀ t, Steps p.tables e below (T103.setTop (mkF m 37 #[.val (.int p1), .val (.int (0 : Int32)), .val (.ref w_PERFORMED), .val (.int (1 : Int32))] [(.int (1 : Int32))])) t → Steps p.tables e below (s₁.setTop (entryFrame m #[(.int p1)] maxLocals)) t := fun t kt => P101 t (by
      show Steps p.tables e below (s₁.setTop (mkF m 7 #[.val (.int p1), .unset, .unset, .unset] [(.int (0 : Int32))])) _
      refine XS.istoreN X0.here hx rfl (hb hby at_7) rfl (l' := #[.val (.int p1), .val (.int (0 : Int32)), .unset, .unset]) rfl ?_
      show Steps p.tables e below (s₁.setTop (mkF m 8 #[.val (.int p1), .val (.int (0 : Int32)), .unset, .unset] [])) _
      refine XS.iloadN X0.here hx rfl (hb hby at_8) rfl ?_
      show Steps p.tables e below (s₁.setTop (mkF m 9 #[.val (.int p1), .val (.int (0 : Int32)), .unset, .unset] [(.int (0 : Int32))])) _
      refine st102 _ ?_
      show Steps p.tables e below (T102.setTop (mkF m 12 #[.val (.int p1), .val (.int (0 : Int32)), .unset, .unset] [(.ref w_PERFORMED)])) _
      refine XS.astoreN X102.here hx rfl (hb hby at_12) rfl rfl (l' := #[.val (.int p1), .val (.int (0 : Int32)), .val (.ref w_PERFORMED), .unset]) rfl ?_
      show Steps p.tables e below (T102.setTop (mkF m 13 #[.val (.int p1), .val (.int (0 : Int32)), .val (.ref w_PERFORMED), .unset] [])) _
      refine XS.iloadN X102.here hx rfl (hb hby at_13) rfl ?_
      show Steps p.tables e below (T102.setTop (mkF m 14 #[.val (.int p1), .val (.int (0 : Int32)), .val (.ref w_PERFORMED), .unset] [(.int (0 : Int32))])) _
      refine XS.iconst X102.here hx rfl (hb hby at_14) ?_
      show Steps p.tables e below (T102.setTop (mkF m 15 #[.val (.int p1), .val (.int (0 : Int32)), .val (.ref w_PERFORMED), .unset] [(.int (5 : Int32)), (.int (0 : Int32))])) _
      refine XS.icmpNo X102.here hx rfl (hb hby at_15) rfl (tlt ((by decide) : (0 : Int32) < (5 : Int32))).2.1 ?_
      show Steps p.tables e below (T102.setTop (mkF m 18 #[.val (.int p1), .val (.int (0 : Int32)), .val (.ref w_PERFORMED), .unset] [])) _
      refine XS.iconst X102.here hx rfl (hb hby at_18) ?_
      show Steps p.tables e below (T102.setTop (mkF m 19 #[.val (.int p1), .val (.int (0 : Int32)), .val (.ref w_PERFORMED), .unset] [(.int (1 : Int32))])) _
      refine XS.goto X102.here hx rfl (pc0 := 19) (pc' := 23) rfl (hb hby at_19) (by decide) (by decide) ?_
      show Steps p.tables e below (T102.setTop (mkF m 23 #[.val (.int p1), .val (.int (0 : Int32)), .val (.ref w_PERFORMED), .unset] [(.int (1 : Int32))])) _
      refine XS.istoreN X102.here hx rfl (hb hby at_23) rfl (l' := #[.val (.int p1), .val (.int (0 : Int32)), .val (.ref w_PERFORMED), .val (.int (1 : Int32))]) rfl ?_
      show Steps p.tables e below (T102.setTop (mkF m 24 #[.val (.int p1), .val (.int (0 : Int32)), .val (.ref w_PERFORMED), .val (.int (1 : Int32))] [])) _
      refine XS.aloadN X102.here hx rfl (hb hby at_24) rfl rfl ?_
      show Steps p.tables e below (T102.setTop (mkF m 25 #[.val (.int p1), .val (.int (0 : Int32)), .val (.ref w_PERFORMED), .val (.int (1 : Int32))] [(.ref w_PERFORMED)])) _
      refine st103.trans ?_
      show Steps p.tables e below (T103.setTop (mkF m 28 #[.val (.int p1), .val (.int (0 : Int32)), .val (.ref w_PERFORMED), .val (.int (1 : Int32))] [(.int (inp (0 : Int32)))])) _
      refine XS.iloadN X103.here hx rfl (hb hby at_28) rfl ?_
      show Steps p.tables e below (T103.setTop (mkF m 29 #[.val (.int p1), .val (.int (0 : Int32)), .val (.ref w_PERFORMED), .val (.int (1 : Int32))] [(.int (1 : Int32)), (.int (inp (0 : Int32)))])) _
      refine XS.icmpNo X103.here hx rfl (hb hby at_29) rfl (teq (by decide : (inp (0 : Int32)) = (1 : Int32))).2 ?_
      show Steps p.tables e below (T103.setTop (mkF m 32 #[.val (.int p1), .val (.int (0 : Int32)), .val (.ref w_PERFORMED), .val (.int (1 : Int32))] [])) _
      refine XS.iconst X103.here hx rfl (hb hby at_32) ?_
      show Steps p.tables e below (T103.setTop (mkF m 33 #[.val (.int p1), .val (.int (0 : Int32)), .val (.ref w_PERFORMED), .val (.int (1 : Int32))] [(.int (1 : Int32))])) _
      refine XS.goto X103.here hx rfl (pc0 := 33) (pc' := 37) rfl (hb hby at_33) (by decide) (by decide) ?_
      exact kt)
    obtain ⟨fs, hr, hrun, hended, hW, hsame⟩ := X103.leave (v := some (.int (1 : Int32))) (fun h => by rw [Bd.returns] at h; cases h) (hlocks := hlk)
    refine ⟨_, _, P104 _ ?_, hrun, hended, _, _, rfl, ?_, ⟨_, rfl⟩, hW, hsame.mono (by decide) (by decide)⟩
    · show Steps p.tables e below (T103.setTop (mkF m 37 #[.val (.int p1), .val (.int (0 : Int32)), .val (.ref w_PERFORMED), .val (.int (1 : Int32))] [(.int (1 : Int32))])) _
      exact retN X103 hx (t := .boolean) Bd.returns (by simp) (hb hby at_37) hr
    · show QP _ h0 _ T103.heap _
      exact ⟨rfl, rfl, e103⟩
  · obtain ⟨_, _, ⟨T105, L105, k105, n105⟩, -, X105, ⟨Lc105, hQ105, l105, y105, z105⟩, st105⟩ := Jvm.LawKit.callS X0 hx (y := (⟨"com/example/retry_ledger/retryledger/OutcomeIsInPlacePinLaw", "pick", "(I)Lcom/example/retry_ledger/retryledger/RunResult$Outcome;"⟩ : MethodName)) hown (mvT hZ (hw _ (List.mem_of_getElem? (i := 1) rfl))) (mvT hZ (hw _ (List.mem_of_getElem? (i := 2) rfl))) (mvT hZ (hw _ (List.mem_of_getElem? (i := 3) rfl))) (mvT hZ (hw _ (List.mem_of_getElem? (i := 4) rfl))) (by decide) (backOf (W := 0)  (rmK l Z a0 hw [] (1 : Int32) w_PERFORMED w_CONFLICT w_SKIPPED w_RECONCILED w_FOUND w_FAILED w_UNKNOWN w_BUSY w_MISMATCH w_CONFLICT h0 S_PERFORMED S_CONFLICT S_SKIPPED S_RECONCILED S_FOUND S_FAILED S_UNKNOWN S_BUSY S_MISMATCH rfl) hZ (hw _ (List.mem_of_getElem? (i := 4) rfl)) (hw _ (List.mem_of_getElem? (i := 3) rfl)) (by decide) (by decide)) (g := (mkF m 9 #[.val (.int p1), .val (.int (1 : Int32)), .unset, .unset] [(.int (1 : Int32))])) rfl (by rw [hml]; rfl) (argsL := [(.int (1 : Int32))]) (rest := []) (lenOf pd__I_Lcom_example_retry_ledger_retryledger_RunResult_Outcome_ rfl) rfl (by show 2 * 0 + _ ≤ _; exact Nat.le_of_eq rfl) (hb hby at_9) (fun _ _ => ⟨rfl, e0, (by decide : 0 + 0 ≤ _), (by decide : 0 + 0 ≤ _)⟩)
    dsimp only [Pt.U, Pt.locs, Pt.cells, Pt.slots] at X105 l105 y105 z105 st105 hQ105
    subst l105 y105 z105
    obtain ⟨rfl, rfl, e105⟩ := hQ105
    have X105 : Stand p l e room_1 s m #[(.int p1)] below meth c T105 [] 0 0 := X105
    obtain ⟨cq106, kq106, q106a, q106b, q106c⟩ := isOf hZ e105 E_CONFLICT
    obtain ⟨_, _, ⟨T106, L106, k106, n106⟩, -, X106, ⟨Lc106, hQ106, l106, y106, z106⟩, st106⟩ := X105.virtualBack hx (y := (⟨"com/example/retry_ledger/retryledger/RunResult$Outcome", "isInPlace", "()Z"⟩ : MethodName)) (z := (⟨"com/example/retry_ledger/retryledger/RunResult$Outcome", "isInPlace", "()Z"⟩ : MethodName)) hown (mvT hZ (hw _ (List.mem_of_getElem? (i := 8) rfl))) (mvT hZ (hw _ (List.mem_of_getElem? (i := 9) rfl))) (notFace_of_selects (args := #[]) (mvT hZ (hw _ (List.mem_of_getElem? (i := 11) rfl)))) (mvT hZ (hw _ (List.mem_of_getElem? (i := 11) rfl))) (mvT hZ (hw _ (List.mem_of_getElem? (i := 10) rfl))) (by decide) (backOf (W := 0)  (rmP l Z a0 hw [] w_CONFLICT (1 : Int32) h0 E_CONFLICT O_CONFLICT (by decide)) hZ (hw _ (List.mem_of_getElem? (i := 12) rfl)) (hw _ (List.mem_of_getElem? (i := 6) rfl)) (by decide) (by decide)) q106a q106c (g := (mkF m 25 #[.val (.int p1), .val (.int (1 : Int32)), .val (.ref w_CONFLICT), .val (.int (1 : Int32))] [(.ref w_CONFLICT)])) rfl (by rw [hml]; rfl) (Steps.refl _) (argsL := []) (rest := []) (lenOf pd___Z rfl) rfl (by show 2 * 0 + _ ≤ _; exact Nat.le_of_eq rfl) (hb hby at_25) (fun _ _ => ⟨rfl, e105, (by decide : 0 + 0 ≤ _), (by decide : 0 + 0 ≤ _)⟩)
    dsimp only [Pt.U, Pt.locs, Pt.cells, Pt.slots] at X106 l106 y106 z106 st106 hQ106
    subst l106 y106 z106
    obtain ⟨rfl, rfl, e106⟩ := hQ106
    have X106 : Stand p l e room_1 s m #[(.int p1)] below meth c T106 [] 0 0 := X106
    have P107 : ∀ t, Steps p.tables e below (T106.setTop (mkF m 37 #[.val (.int p1), .val (.int (1 : Int32)), .val (.ref w_CONFLICT), .val (.int (1 : Int32))] [(.int (1 : Int32))])) t → Steps p.tables e below (s₁.setTop (entryFrame m #[(.int p1)] maxLocals)) t := fun t kt => P101 t (by
      show Steps p.tables e below (s₁.setTop (mkF m 7 #[.val (.int p1), .unset, .unset, .unset] [(.int (1 : Int32))])) _
      refine XS.istoreN X0.here hx rfl (hb hby at_7) rfl (l' := #[.val (.int p1), .val (.int (1 : Int32)), .unset, .unset]) rfl ?_
      show Steps p.tables e below (s₁.setTop (mkF m 8 #[.val (.int p1), .val (.int (1 : Int32)), .unset, .unset] [])) _
      refine XS.iloadN X0.here hx rfl (hb hby at_8) rfl ?_
      show Steps p.tables e below (s₁.setTop (mkF m 9 #[.val (.int p1), .val (.int (1 : Int32)), .unset, .unset] [(.int (1 : Int32))])) _
      refine st105 _ ?_
      show Steps p.tables e below (T105.setTop (mkF m 12 #[.val (.int p1), .val (.int (1 : Int32)), .unset, .unset] [(.ref w_CONFLICT)])) _
      refine XS.astoreN X105.here hx rfl (hb hby at_12) rfl rfl (l' := #[.val (.int p1), .val (.int (1 : Int32)), .val (.ref w_CONFLICT), .unset]) rfl ?_
      show Steps p.tables e below (T105.setTop (mkF m 13 #[.val (.int p1), .val (.int (1 : Int32)), .val (.ref w_CONFLICT), .unset] [])) _
      refine XS.iloadN X105.here hx rfl (hb hby at_13) rfl ?_
      show Steps p.tables e below (T105.setTop (mkF m 14 #[.val (.int p1), .val (.int (1 : Int32)), .val (.ref w_CONFLICT), .unset] [(.int (1 : Int32))])) _
      refine XS.iconst X105.here hx rfl (hb hby at_14) ?_
      show Steps p.tables e below (T105.setTop (mkF m 15 #[.val (.int p1), .val (.int (1 : Int32)), .val (.ref w_CONFLICT), .unset] [(.int (5 : Int32)), (.int (1 : Int32))])) _
      refine XS.icmpNo X105.here hx rfl (hb hby at_15) rfl (tlt ((by decide) : (1 : Int32) < (5 : Int32))).2.1 ?_
      show Steps p.tables e below (T105.setTop (mkF m 18 #[.val (.int p1), .val (.int (1 : Int32)), .val (.ref w_CONFLICT), .unset] [])) _
      refine XS.iconst X105.here hx rfl (hb hby at_18) ?_
      show Steps p.tables e below (T105.setTop (mkF m 19 #[.val (.int p1), .val (.int (1 : Int32)), .val (.ref w_CONFLICT), .unset] [(.int (1 : Int32))])) _
      refine XS.goto X105.here hx rfl (pc0 := 19) (pc' := 23) rfl (hb hby at_19) (by decide) (by decide) ?_
      show Steps p.tables e below (T105.setTop (mkF m 23 #[.val (.int p1), .val (.int (1 : Int32)), .val (.ref w_CONFLICT), .unset] [(.int (1 : Int32))])) _
      refine XS.istoreN X105.here hx rfl (hb hby at_23) rfl (l' := #[.val (.int p1), .val (.int (1 : Int32)), .val (.ref w_CONFLICT), .val (.int (1 : Int32))]) rfl ?_
      show Steps p.tables e below (T105.setTop (mkF m 24 #[.val (.int p1), .val (.int (1 : Int32)), .val (.ref w_CONFLICT), .val (.int (1 : Int32))] [])) _
      refine XS.aloadN X105.here hx rfl (hb hby at_24) rfl rfl ?_
      show Steps p.tables e below (T105.setTop (mkF m 25 #[.val (.int p1), .val (.int (1 : Int32)), .val (.ref w_CONFLICT), .val (.int (1 : Int32))] [(.ref w_CONFLICT)])) _
      refine st106.trans ?_
      show Steps p.tables e below (T106.setTop (mkF m 28 #[.val (.int p1), .val (.int (1 : Int32)), .val (.ref w_CONFLICT), .val (.int (1 : Int32))] [(.int (inp (1 : Int32)))])) _
      refine XS.iloadN X106.here hx rfl (hb hby at_28) rfl ?_
      show Steps p.tables e below (T106.setTop (mkF m 29 #[.val (.int p1), .val (.int (1 : Int32)), .val (.ref w_CONFLICT), .val (.int (1 : Int32))] [(.int (1 : Int32)), (.int (inp (1 : Int32)))])) _
      refine XS.icmpNo X106.here hx rfl (hb hby at_29) rfl (teq (by decide : (inp (1 : Int32)) = (1 : Int32))).2 ?_
      show Steps p.tables e below (T106.setTop (mkF m 32 #[.val (.int p1), .val (.int (1 : Int32)), .val (.ref w_CONFLICT), .val (.int (1 : Int32))] [])) _
      refine XS.iconst X106.here hx rfl (hb hby at_32) ?_
      show Steps p.tables e below (T106.setTop (mkF m 33 #[.val (.int p1), .val (.int (1 : Int32)), .val (.ref w_CONFLICT), .val (.int (1 : Int32))] [(.int (1 : Int32))])) _
      refine XS.goto X106.here hx rfl (pc0 := 33) (pc' := 37) rfl (hb hby at_33) (by decide) (by decide) ?_
      exact kt)
    obtain ⟨fs, hr, hrun, hended, hW, hsame⟩ := X106.leave (v := some (.int (1 : Int32))) (fun h => by rw [Bd.returns] at h; cases h) (hlocks := hlk)
    refine ⟨_, _, P107 _ ?_, hrun, hended, _, _, rfl, ?_, ⟨_, rfl⟩, hW, hsame.mono (by decide) (by decide)⟩
    · show Steps p.tables e below (T106.setTop (mkF m 37 #[.val (.int p1), .val (.int (1 : Int32)), .val (.ref w_CONFLICT), .val (.int (1 : Int32))] [(.int (1 : Int32))])) _
      exact retN X106 hx (t := .boolean) Bd.returns (by simp) (hb hby at_37) hr
    · show QP _ h0 _ T106.heap _
      exact ⟨rfl, rfl, e106⟩
  · obtain ⟨_, _, ⟨T108, L108, k108, n108⟩, -, X108, ⟨Lc108, hQ108, l108, y108, z108⟩, st108⟩ := Jvm.LawKit.callS X0 hx (y := (⟨"com/example/retry_ledger/retryledger/OutcomeIsInPlacePinLaw", "pick", "(I)Lcom/example/retry_ledger/retryledger/RunResult$Outcome;"⟩ : MethodName)) hown (mvT hZ (hw _ (List.mem_of_getElem? (i := 1) rfl))) (mvT hZ (hw _ (List.mem_of_getElem? (i := 2) rfl))) (mvT hZ (hw _ (List.mem_of_getElem? (i := 3) rfl))) (mvT hZ (hw _ (List.mem_of_getElem? (i := 4) rfl))) (by decide) (backOf (W := 0)  (rmK l Z a0 hw [] (2 : Int32) w_PERFORMED w_CONFLICT w_SKIPPED w_RECONCILED w_FOUND w_FAILED w_UNKNOWN w_BUSY w_MISMATCH w_SKIPPED h0 S_PERFORMED S_CONFLICT S_SKIPPED S_RECONCILED S_FOUND S_FAILED S_UNKNOWN S_BUSY S_MISMATCH rfl) hZ (hw _ (List.mem_of_getElem? (i := 4) rfl)) (hw _ (List.mem_of_getElem? (i := 3) rfl)) (by decide) (by decide)) (g := (mkF m 9 #[.val (.int p1), .val (.int (2 : Int32)), .unset, .unset] [(.int (2 : Int32))])) rfl (by rw [hml]; rfl) (argsL := [(.int (2 : Int32))]) (rest := []) (lenOf pd__I_Lcom_example_retry_ledger_retryledger_RunResult_Outcome_ rfl) rfl (by show 2 * 0 + _ ≤ _; exact Nat.le_of_eq rfl) (hb hby at_9) (fun _ _ => ⟨rfl, e0, (by decide : 0 + 0 ≤ _), (by decide : 0 + 0 ≤ _)⟩)
    dsimp only [Pt.U, Pt.locs, Pt.cells, Pt.slots] at X108 l108 y108 z108 st108 hQ108
    subst l108 y108 z108
    obtain ⟨rfl, rfl, e108⟩ := hQ108
    have X108 : Stand p l e room_1 s m #[(.int p1)] below meth c T108 [] 0 0 := X108
    obtain ⟨cq109, kq109, q109a, q109b, q109c⟩ := isOf hZ e108 E_SKIPPED
    obtain ⟨_, _, ⟨T109, L109, k109, n109⟩, -, X109, ⟨Lc109, hQ109, l109, y109, z109⟩, st109⟩ := X108.virtualBack hx (y := (⟨"com/example/retry_ledger/retryledger/RunResult$Outcome", "isInPlace", "()Z"⟩ : MethodName)) (z := (⟨"com/example/retry_ledger/retryledger/RunResult$Outcome", "isInPlace", "()Z"⟩ : MethodName)) hown (mvT hZ (hw _ (List.mem_of_getElem? (i := 8) rfl))) (mvT hZ (hw _ (List.mem_of_getElem? (i := 9) rfl))) (notFace_of_selects (args := #[]) (mvT hZ (hw _ (List.mem_of_getElem? (i := 11) rfl)))) (mvT hZ (hw _ (List.mem_of_getElem? (i := 11) rfl))) (mvT hZ (hw _ (List.mem_of_getElem? (i := 10) rfl))) (by decide) (backOf (W := 0)  (rmP l Z a0 hw [] w_SKIPPED (2 : Int32) h0 E_SKIPPED O_SKIPPED (by decide)) hZ (hw _ (List.mem_of_getElem? (i := 12) rfl)) (hw _ (List.mem_of_getElem? (i := 6) rfl)) (by decide) (by decide)) q109a q109c (g := (mkF m 25 #[.val (.int p1), .val (.int (2 : Int32)), .val (.ref w_SKIPPED), .val (.int (1 : Int32))] [(.ref w_SKIPPED)])) rfl (by rw [hml]; rfl) (Steps.refl _) (argsL := []) (rest := []) (lenOf pd___Z rfl) rfl (by show 2 * 0 + _ ≤ _; exact Nat.le_of_eq rfl) (hb hby at_25) (fun _ _ => ⟨rfl, e108, (by decide : 0 + 0 ≤ _), (by decide : 0 + 0 ≤ _)⟩)
    dsimp only [Pt.U, Pt.locs, Pt.cells, Pt.slots] at X109 l109 y109 z109 st109 hQ109
    subst l109 y109 z109
    obtain ⟨rfl, rfl, e109⟩ := hQ109
    have X109 : Stand p l e room_1 s m #[(.int p1)] below meth c T109 [] 0 0 := X109
    have P110 : ∀ t, Steps p.tables e below (T109.setTop (mkF m 37 #[.val (.int p1), .val (.int (2 : Int32)), .val (.ref w_SKIPPED), .val (.int (1 : Int32))] [(.int (1 : Int32))])) t → Steps p.tables e below (s₁.setTop (entryFrame m #[(.int p1)] maxLocals)) t := fun t kt => P101 t (by
      show Steps p.tables e below (s₁.setTop (mkF m 7 #[.val (.int p1), .unset, .unset, .unset] [(.int (2 : Int32))])) _
      refine XS.istoreN X0.here hx rfl (hb hby at_7) rfl (l' := #[.val (.int p1), .val (.int (2 : Int32)), .unset, .unset]) rfl ?_
      show Steps p.tables e below (s₁.setTop (mkF m 8 #[.val (.int p1), .val (.int (2 : Int32)), .unset, .unset] [])) _
      refine XS.iloadN X0.here hx rfl (hb hby at_8) rfl ?_
      show Steps p.tables e below (s₁.setTop (mkF m 9 #[.val (.int p1), .val (.int (2 : Int32)), .unset, .unset] [(.int (2 : Int32))])) _
      refine st108 _ ?_
      show Steps p.tables e below (T108.setTop (mkF m 12 #[.val (.int p1), .val (.int (2 : Int32)), .unset, .unset] [(.ref w_SKIPPED)])) _
      refine XS.astoreN X108.here hx rfl (hb hby at_12) rfl rfl (l' := #[.val (.int p1), .val (.int (2 : Int32)), .val (.ref w_SKIPPED), .unset]) rfl ?_
      show Steps p.tables e below (T108.setTop (mkF m 13 #[.val (.int p1), .val (.int (2 : Int32)), .val (.ref w_SKIPPED), .unset] [])) _
      refine XS.iloadN X108.here hx rfl (hb hby at_13) rfl ?_
      show Steps p.tables e below (T108.setTop (mkF m 14 #[.val (.int p1), .val (.int (2 : Int32)), .val (.ref w_SKIPPED), .unset] [(.int (2 : Int32))])) _
      refine XS.iconst X108.here hx rfl (hb hby at_14) ?_
      show Steps p.tables e below (T108.setTop (mkF m 15 #[.val (.int p1), .val (.int (2 : Int32)), .val (.ref w_SKIPPED), .unset] [(.int (5 : Int32)), (.int (2 : Int32))])) _
      refine XS.icmpNo X108.here hx rfl (hb hby at_15) rfl (tlt ((by decide) : (2 : Int32) < (5 : Int32))).2.1 ?_
      show Steps p.tables e below (T108.setTop (mkF m 18 #[.val (.int p1), .val (.int (2 : Int32)), .val (.ref w_SKIPPED), .unset] [])) _
      refine XS.iconst X108.here hx rfl (hb hby at_18) ?_
      show Steps p.tables e below (T108.setTop (mkF m 19 #[.val (.int p1), .val (.int (2 : Int32)), .val (.ref w_SKIPPED), .unset] [(.int (1 : Int32))])) _
      refine XS.goto X108.here hx rfl (pc0 := 19) (pc' := 23) rfl (hb hby at_19) (by decide) (by decide) ?_
      show Steps p.tables e below (T108.setTop (mkF m 23 #[.val (.int p1), .val (.int (2 : Int32)), .val (.ref w_SKIPPED), .unset] [(.int (1 : Int32))])) _
      refine XS.istoreN X108.here hx rfl (hb hby at_23) rfl (l' := #[.val (.int p1), .val (.int (2 : Int32)), .val (.ref w_SKIPPED), .val (.int (1 : Int32))]) rfl ?_
      show Steps p.tables e below (T108.setTop (mkF m 24 #[.val (.int p1), .val (.int (2 : Int32)), .val (.ref w_SKIPPED), .val (.int (1 : Int32))] [])) _
      refine XS.aloadN X108.here hx rfl (hb hby at_24) rfl rfl ?_
      show Steps p.tables e below (T108.setTop (mkF m 25 #[.val (.int p1), .val (.int (2 : Int32)), .val (.ref w_SKIPPED), .val (.int (1 : Int32))] [(.ref w_SKIPPED)])) _
      refine st109.trans ?_
      show Steps p.tables e below (T109.setTop (mkF m 28 #[.val (.int p1), .val (.int (2 : Int32)), .val (.ref w_SKIPPED), .val (.int (1 : Int32))] [(.int (inp (2 : Int32)))])) _
      refine XS.iloadN X109.here hx rfl (hb hby at_28) rfl ?_
      show Steps p.tables e below (T109.setTop (mkF m 29 #[.val (.int p1), .val (.int (2 : Int32)), .val (.ref w_SKIPPED), .val (.int (1 : Int32))] [(.int (1 : Int32)), (.int (inp (2 : Int32)))])) _
      refine XS.icmpNo X109.here hx rfl (hb hby at_29) rfl (teq (by decide : (inp (2 : Int32)) = (1 : Int32))).2 ?_
      show Steps p.tables e below (T109.setTop (mkF m 32 #[.val (.int p1), .val (.int (2 : Int32)), .val (.ref w_SKIPPED), .val (.int (1 : Int32))] [])) _
      refine XS.iconst X109.here hx rfl (hb hby at_32) ?_
      show Steps p.tables e below (T109.setTop (mkF m 33 #[.val (.int p1), .val (.int (2 : Int32)), .val (.ref w_SKIPPED), .val (.int (1 : Int32))] [(.int (1 : Int32))])) _
      refine XS.goto X109.here hx rfl (pc0 := 33) (pc' := 37) rfl (hb hby at_33) (by decide) (by decide) ?_
      exact kt)
    obtain ⟨fs, hr, hrun, hended, hW, hsame⟩ := X109.leave (v := some (.int (1 : Int32))) (fun h => by rw [Bd.returns] at h; cases h) (hlocks := hlk)
    refine ⟨_, _, P110 _ ?_, hrun, hended, _, _, rfl, ?_, ⟨_, rfl⟩, hW, hsame.mono (by decide) (by decide)⟩
    · show Steps p.tables e below (T109.setTop (mkF m 37 #[.val (.int p1), .val (.int (2 : Int32)), .val (.ref w_SKIPPED), .val (.int (1 : Int32))] [(.int (1 : Int32))])) _
      exact retN X109 hx (t := .boolean) Bd.returns (by simp) (hb hby at_37) hr
    · show QP _ h0 _ T109.heap _
      exact ⟨rfl, rfl, e109⟩
  · obtain ⟨_, _, ⟨T111, L111, k111, n111⟩, -, X111, ⟨Lc111, hQ111, l111, y111, z111⟩, st111⟩ := Jvm.LawKit.callS X0 hx (y := (⟨"com/example/retry_ledger/retryledger/OutcomeIsInPlacePinLaw", "pick", "(I)Lcom/example/retry_ledger/retryledger/RunResult$Outcome;"⟩ : MethodName)) hown (mvT hZ (hw _ (List.mem_of_getElem? (i := 1) rfl))) (mvT hZ (hw _ (List.mem_of_getElem? (i := 2) rfl))) (mvT hZ (hw _ (List.mem_of_getElem? (i := 3) rfl))) (mvT hZ (hw _ (List.mem_of_getElem? (i := 4) rfl))) (by decide) (backOf (W := 0)  (rmK l Z a0 hw [] (3 : Int32) w_PERFORMED w_CONFLICT w_SKIPPED w_RECONCILED w_FOUND w_FAILED w_UNKNOWN w_BUSY w_MISMATCH w_RECONCILED h0 S_PERFORMED S_CONFLICT S_SKIPPED S_RECONCILED S_FOUND S_FAILED S_UNKNOWN S_BUSY S_MISMATCH rfl) hZ (hw _ (List.mem_of_getElem? (i := 4) rfl)) (hw _ (List.mem_of_getElem? (i := 3) rfl)) (by decide) (by decide)) (g := (mkF m 9 #[.val (.int p1), .val (.int (3 : Int32)), .unset, .unset] [(.int (3 : Int32))])) rfl (by rw [hml]; rfl) (argsL := [(.int (3 : Int32))]) (rest := []) (lenOf pd__I_Lcom_example_retry_ledger_retryledger_RunResult_Outcome_ rfl) rfl (by show 2 * 0 + _ ≤ _; exact Nat.le_of_eq rfl) (hb hby at_9) (fun _ _ => ⟨rfl, e0, (by decide : 0 + 0 ≤ _), (by decide : 0 + 0 ≤ _)⟩)
    dsimp only [Pt.U, Pt.locs, Pt.cells, Pt.slots] at X111 l111 y111 z111 st111 hQ111
    subst l111 y111 z111
    obtain ⟨rfl, rfl, e111⟩ := hQ111
    have X111 : Stand p l e room_1 s m #[(.int p1)] below meth c T111 [] 0 0 := X111
    obtain ⟨cq112, kq112, q112a, q112b, q112c⟩ := isOf hZ e111 E_RECONCILED
    obtain ⟨_, _, ⟨T112, L112, k112, n112⟩, -, X112, ⟨Lc112, hQ112, l112, y112, z112⟩, st112⟩ := X111.virtualBack hx (y := (⟨"com/example/retry_ledger/retryledger/RunResult$Outcome", "isInPlace", "()Z"⟩ : MethodName)) (z := (⟨"com/example/retry_ledger/retryledger/RunResult$Outcome", "isInPlace", "()Z"⟩ : MethodName)) hown (mvT hZ (hw _ (List.mem_of_getElem? (i := 8) rfl))) (mvT hZ (hw _ (List.mem_of_getElem? (i := 9) rfl))) (notFace_of_selects (args := #[]) (mvT hZ (hw _ (List.mem_of_getElem? (i := 11) rfl)))) (mvT hZ (hw _ (List.mem_of_getElem? (i := 11) rfl))) (mvT hZ (hw _ (List.mem_of_getElem? (i := 10) rfl))) (by decide) (backOf (W := 0)  (rmP l Z a0 hw [] w_RECONCILED (3 : Int32) h0 E_RECONCILED O_RECONCILED (by decide)) hZ (hw _ (List.mem_of_getElem? (i := 12) rfl)) (hw _ (List.mem_of_getElem? (i := 6) rfl)) (by decide) (by decide)) q112a q112c (g := (mkF m 25 #[.val (.int p1), .val (.int (3 : Int32)), .val (.ref w_RECONCILED), .val (.int (1 : Int32))] [(.ref w_RECONCILED)])) rfl (by rw [hml]; rfl) (Steps.refl _) (argsL := []) (rest := []) (lenOf pd___Z rfl) rfl (by show 2 * 0 + _ ≤ _; exact Nat.le_of_eq rfl) (hb hby at_25) (fun _ _ => ⟨rfl, e111, (by decide : 0 + 0 ≤ _), (by decide : 0 + 0 ≤ _)⟩)
    dsimp only [Pt.U, Pt.locs, Pt.cells, Pt.slots] at X112 l112 y112 z112 st112 hQ112
    subst l112 y112 z112
    obtain ⟨rfl, rfl, e112⟩ := hQ112
    have X112 : Stand p l e room_1 s m #[(.int p1)] below meth c T112 [] 0 0 := X112
    have P113 : ∀ t, Steps p.tables e below (T112.setTop (mkF m 37 #[.val (.int p1), .val (.int (3 : Int32)), .val (.ref w_RECONCILED), .val (.int (1 : Int32))] [(.int (1 : Int32))])) t → Steps p.tables e below (s₁.setTop (entryFrame m #[(.int p1)] maxLocals)) t := fun t kt => P101 t (by
      show Steps p.tables e below (s₁.setTop (mkF m 7 #[.val (.int p1), .unset, .unset, .unset] [(.int (3 : Int32))])) _
      refine XS.istoreN X0.here hx rfl (hb hby at_7) rfl (l' := #[.val (.int p1), .val (.int (3 : Int32)), .unset, .unset]) rfl ?_
      show Steps p.tables e below (s₁.setTop (mkF m 8 #[.val (.int p1), .val (.int (3 : Int32)), .unset, .unset] [])) _
      refine XS.iloadN X0.here hx rfl (hb hby at_8) rfl ?_
      show Steps p.tables e below (s₁.setTop (mkF m 9 #[.val (.int p1), .val (.int (3 : Int32)), .unset, .unset] [(.int (3 : Int32))])) _
      refine st111 _ ?_
      show Steps p.tables e below (T111.setTop (mkF m 12 #[.val (.int p1), .val (.int (3 : Int32)), .unset, .unset] [(.ref w_RECONCILED)])) _
      refine XS.astoreN X111.here hx rfl (hb hby at_12) rfl rfl (l' := #[.val (.int p1), .val (.int (3 : Int32)), .val (.ref w_RECONCILED), .unset]) rfl ?_
      show Steps p.tables e below (T111.setTop (mkF m 13 #[.val (.int p1), .val (.int (3 : Int32)), .val (.ref w_RECONCILED), .unset] [])) _
      refine XS.iloadN X111.here hx rfl (hb hby at_13) rfl ?_
      show Steps p.tables e below (T111.setTop (mkF m 14 #[.val (.int p1), .val (.int (3 : Int32)), .val (.ref w_RECONCILED), .unset] [(.int (3 : Int32))])) _
      refine XS.iconst X111.here hx rfl (hb hby at_14) ?_
      show Steps p.tables e below (T111.setTop (mkF m 15 #[.val (.int p1), .val (.int (3 : Int32)), .val (.ref w_RECONCILED), .unset] [(.int (5 : Int32)), (.int (3 : Int32))])) _
      refine XS.icmpNo X111.here hx rfl (hb hby at_15) rfl (tlt ((by decide) : (3 : Int32) < (5 : Int32))).2.1 ?_
      show Steps p.tables e below (T111.setTop (mkF m 18 #[.val (.int p1), .val (.int (3 : Int32)), .val (.ref w_RECONCILED), .unset] [])) _
      refine XS.iconst X111.here hx rfl (hb hby at_18) ?_
      show Steps p.tables e below (T111.setTop (mkF m 19 #[.val (.int p1), .val (.int (3 : Int32)), .val (.ref w_RECONCILED), .unset] [(.int (1 : Int32))])) _
      refine XS.goto X111.here hx rfl (pc0 := 19) (pc' := 23) rfl (hb hby at_19) (by decide) (by decide) ?_
      show Steps p.tables e below (T111.setTop (mkF m 23 #[.val (.int p1), .val (.int (3 : Int32)), .val (.ref w_RECONCILED), .unset] [(.int (1 : Int32))])) _
      refine XS.istoreN X111.here hx rfl (hb hby at_23) rfl (l' := #[.val (.int p1), .val (.int (3 : Int32)), .val (.ref w_RECONCILED), .val (.int (1 : Int32))]) rfl ?_
      show Steps p.tables e below (T111.setTop (mkF m 24 #[.val (.int p1), .val (.int (3 : Int32)), .val (.ref w_RECONCILED), .val (.int (1 : Int32))] [])) _
      refine XS.aloadN X111.here hx rfl (hb hby at_24) rfl rfl ?_
      show Steps p.tables e below (T111.setTop (mkF m 25 #[.val (.int p1), .val (.int (3 : Int32)), .val (.ref w_RECONCILED), .val (.int (1 : Int32))] [(.ref w_RECONCILED)])) _
      refine st112.trans ?_
      show Steps p.tables e below (T112.setTop (mkF m 28 #[.val (.int p1), .val (.int (3 : Int32)), .val (.ref w_RECONCILED), .val (.int (1 : Int32))] [(.int (inp (3 : Int32)))])) _
      refine XS.iloadN X112.here hx rfl (hb hby at_28) rfl ?_
      show Steps p.tables e below (T112.setTop (mkF m 29 #[.val (.int p1), .val (.int (3 : Int32)), .val (.ref w_RECONCILED), .val (.int (1 : Int32))] [(.int (1 : Int32)), (.int (inp (3 : Int32)))])) _
      refine XS.icmpNo X112.here hx rfl (hb hby at_29) rfl (teq (by decide : (inp (3 : Int32)) = (1 : Int32))).2 ?_
      show Steps p.tables e below (T112.setTop (mkF m 32 #[.val (.int p1), .val (.int (3 : Int32)), .val (.ref w_RECONCILED), .val (.int (1 : Int32))] [])) _
      refine XS.iconst X112.here hx rfl (hb hby at_32) ?_
      show Steps p.tables e below (T112.setTop (mkF m 33 #[.val (.int p1), .val (.int (3 : Int32)), .val (.ref w_RECONCILED), .val (.int (1 : Int32))] [(.int (1 : Int32))])) _
      refine XS.goto X112.here hx rfl (pc0 := 33) (pc' := 37) rfl (hb hby at_33) (by decide) (by decide) ?_
      exact kt)
    obtain ⟨fs, hr, hrun, hended, hW, hsame⟩ := X112.leave (v := some (.int (1 : Int32))) (fun h => by rw [Bd.returns] at h; cases h) (hlocks := hlk)
    refine ⟨_, _, P113 _ ?_, hrun, hended, _, _, rfl, ?_, ⟨_, rfl⟩, hW, hsame.mono (by decide) (by decide)⟩
    · show Steps p.tables e below (T112.setTop (mkF m 37 #[.val (.int p1), .val (.int (3 : Int32)), .val (.ref w_RECONCILED), .val (.int (1 : Int32))] [(.int (1 : Int32))])) _
      exact retN X112 hx (t := .boolean) Bd.returns (by simp) (hb hby at_37) hr
    · show QP _ h0 _ T112.heap _
      exact ⟨rfl, rfl, e112⟩
  · obtain ⟨_, _, ⟨T114, L114, k114, n114⟩, -, X114, ⟨Lc114, hQ114, l114, y114, z114⟩, st114⟩ := Jvm.LawKit.callS X0 hx (y := (⟨"com/example/retry_ledger/retryledger/OutcomeIsInPlacePinLaw", "pick", "(I)Lcom/example/retry_ledger/retryledger/RunResult$Outcome;"⟩ : MethodName)) hown (mvT hZ (hw _ (List.mem_of_getElem? (i := 1) rfl))) (mvT hZ (hw _ (List.mem_of_getElem? (i := 2) rfl))) (mvT hZ (hw _ (List.mem_of_getElem? (i := 3) rfl))) (mvT hZ (hw _ (List.mem_of_getElem? (i := 4) rfl))) (by decide) (backOf (W := 0)  (rmK l Z a0 hw [] (4 : Int32) w_PERFORMED w_CONFLICT w_SKIPPED w_RECONCILED w_FOUND w_FAILED w_UNKNOWN w_BUSY w_MISMATCH w_FOUND h0 S_PERFORMED S_CONFLICT S_SKIPPED S_RECONCILED S_FOUND S_FAILED S_UNKNOWN S_BUSY S_MISMATCH rfl) hZ (hw _ (List.mem_of_getElem? (i := 4) rfl)) (hw _ (List.mem_of_getElem? (i := 3) rfl)) (by decide) (by decide)) (g := (mkF m 9 #[.val (.int p1), .val (.int (4 : Int32)), .unset, .unset] [(.int (4 : Int32))])) rfl (by rw [hml]; rfl) (argsL := [(.int (4 : Int32))]) (rest := []) (lenOf pd__I_Lcom_example_retry_ledger_retryledger_RunResult_Outcome_ rfl) rfl (by show 2 * 0 + _ ≤ _; exact Nat.le_of_eq rfl) (hb hby at_9) (fun _ _ => ⟨rfl, e0, (by decide : 0 + 0 ≤ _), (by decide : 0 + 0 ≤ _)⟩)
    dsimp only [Pt.U, Pt.locs, Pt.cells, Pt.slots] at X114 l114 y114 z114 st114 hQ114
    subst l114 y114 z114
    obtain ⟨rfl, rfl, e114⟩ := hQ114
    have X114 : Stand p l e room_1 s m #[(.int p1)] below meth c T114 [] 0 0 := X114
    obtain ⟨cq115, kq115, q115a, q115b, q115c⟩ := isOf hZ e114 E_FOUND
    obtain ⟨_, _, ⟨T115, L115, k115, n115⟩, -, X115, ⟨Lc115, hQ115, l115, y115, z115⟩, st115⟩ := X114.virtualBack hx (y := (⟨"com/example/retry_ledger/retryledger/RunResult$Outcome", "isInPlace", "()Z"⟩ : MethodName)) (z := (⟨"com/example/retry_ledger/retryledger/RunResult$Outcome", "isInPlace", "()Z"⟩ : MethodName)) hown (mvT hZ (hw _ (List.mem_of_getElem? (i := 8) rfl))) (mvT hZ (hw _ (List.mem_of_getElem? (i := 9) rfl))) (notFace_of_selects (args := #[]) (mvT hZ (hw _ (List.mem_of_getElem? (i := 11) rfl)))) (mvT hZ (hw _ (List.mem_of_getElem? (i := 11) rfl))) (mvT hZ (hw _ (List.mem_of_getElem? (i := 10) rfl))) (by decide) (backOf (W := 0)  (rmP l Z a0 hw [] w_FOUND (4 : Int32) h0 E_FOUND O_FOUND (by decide)) hZ (hw _ (List.mem_of_getElem? (i := 12) rfl)) (hw _ (List.mem_of_getElem? (i := 6) rfl)) (by decide) (by decide)) q115a q115c (g := (mkF m 25 #[.val (.int p1), .val (.int (4 : Int32)), .val (.ref w_FOUND), .val (.int (1 : Int32))] [(.ref w_FOUND)])) rfl (by rw [hml]; rfl) (Steps.refl _) (argsL := []) (rest := []) (lenOf pd___Z rfl) rfl (by show 2 * 0 + _ ≤ _; exact Nat.le_of_eq rfl) (hb hby at_25) (fun _ _ => ⟨rfl, e114, (by decide : 0 + 0 ≤ _), (by decide : 0 + 0 ≤ _)⟩)
    dsimp only [Pt.U, Pt.locs, Pt.cells, Pt.slots] at X115 l115 y115 z115 st115 hQ115
    subst l115 y115 z115
    obtain ⟨rfl, rfl, e115⟩ := hQ115
    have X115 : Stand p l e room_1 s m #[(.int p1)] below meth c T115 [] 0 0 := X115
    have P116 : ∀ t, Steps p.tables e below (T115.setTop (mkF m 37 #[.val (.int p1), .val (.int (4 : Int32)), .val (.ref w_FOUND), .val (.int (1 : Int32))] [(.int (1 : Int32))])) t → Steps p.tables e below (s₁.setTop (entryFrame m #[(.int p1)] maxLocals)) t := fun t kt => P101 t (by
      show Steps p.tables e below (s₁.setTop (mkF m 7 #[.val (.int p1), .unset, .unset, .unset] [(.int (4 : Int32))])) _
      refine XS.istoreN X0.here hx rfl (hb hby at_7) rfl (l' := #[.val (.int p1), .val (.int (4 : Int32)), .unset, .unset]) rfl ?_
      show Steps p.tables e below (s₁.setTop (mkF m 8 #[.val (.int p1), .val (.int (4 : Int32)), .unset, .unset] [])) _
      refine XS.iloadN X0.here hx rfl (hb hby at_8) rfl ?_
      show Steps p.tables e below (s₁.setTop (mkF m 9 #[.val (.int p1), .val (.int (4 : Int32)), .unset, .unset] [(.int (4 : Int32))])) _
      refine st114 _ ?_
      show Steps p.tables e below (T114.setTop (mkF m 12 #[.val (.int p1), .val (.int (4 : Int32)), .unset, .unset] [(.ref w_FOUND)])) _
      refine XS.astoreN X114.here hx rfl (hb hby at_12) rfl rfl (l' := #[.val (.int p1), .val (.int (4 : Int32)), .val (.ref w_FOUND), .unset]) rfl ?_
      show Steps p.tables e below (T114.setTop (mkF m 13 #[.val (.int p1), .val (.int (4 : Int32)), .val (.ref w_FOUND), .unset] [])) _
      refine XS.iloadN X114.here hx rfl (hb hby at_13) rfl ?_
      show Steps p.tables e below (T114.setTop (mkF m 14 #[.val (.int p1), .val (.int (4 : Int32)), .val (.ref w_FOUND), .unset] [(.int (4 : Int32))])) _
      refine XS.iconst X114.here hx rfl (hb hby at_14) ?_
      show Steps p.tables e below (T114.setTop (mkF m 15 #[.val (.int p1), .val (.int (4 : Int32)), .val (.ref w_FOUND), .unset] [(.int (5 : Int32)), (.int (4 : Int32))])) _
      refine XS.icmpNo X114.here hx rfl (hb hby at_15) rfl (tlt ((by decide) : (4 : Int32) < (5 : Int32))).2.1 ?_
      show Steps p.tables e below (T114.setTop (mkF m 18 #[.val (.int p1), .val (.int (4 : Int32)), .val (.ref w_FOUND), .unset] [])) _
      refine XS.iconst X114.here hx rfl (hb hby at_18) ?_
      show Steps p.tables e below (T114.setTop (mkF m 19 #[.val (.int p1), .val (.int (4 : Int32)), .val (.ref w_FOUND), .unset] [(.int (1 : Int32))])) _
      refine XS.goto X114.here hx rfl (pc0 := 19) (pc' := 23) rfl (hb hby at_19) (by decide) (by decide) ?_
      show Steps p.tables e below (T114.setTop (mkF m 23 #[.val (.int p1), .val (.int (4 : Int32)), .val (.ref w_FOUND), .unset] [(.int (1 : Int32))])) _
      refine XS.istoreN X114.here hx rfl (hb hby at_23) rfl (l' := #[.val (.int p1), .val (.int (4 : Int32)), .val (.ref w_FOUND), .val (.int (1 : Int32))]) rfl ?_
      show Steps p.tables e below (T114.setTop (mkF m 24 #[.val (.int p1), .val (.int (4 : Int32)), .val (.ref w_FOUND), .val (.int (1 : Int32))] [])) _
      refine XS.aloadN X114.here hx rfl (hb hby at_24) rfl rfl ?_
      show Steps p.tables e below (T114.setTop (mkF m 25 #[.val (.int p1), .val (.int (4 : Int32)), .val (.ref w_FOUND), .val (.int (1 : Int32))] [(.ref w_FOUND)])) _
      refine st115.trans ?_
      show Steps p.tables e below (T115.setTop (mkF m 28 #[.val (.int p1), .val (.int (4 : Int32)), .val (.ref w_FOUND), .val (.int (1 : Int32))] [(.int (inp (4 : Int32)))])) _
      refine XS.iloadN X115.here hx rfl (hb hby at_28) rfl ?_
      show Steps p.tables e below (T115.setTop (mkF m 29 #[.val (.int p1), .val (.int (4 : Int32)), .val (.ref w_FOUND), .val (.int (1 : Int32))] [(.int (1 : Int32)), (.int (inp (4 : Int32)))])) _
      refine XS.icmpNo X115.here hx rfl (hb hby at_29) rfl (teq (by decide : (inp (4 : Int32)) = (1 : Int32))).2 ?_
      show Steps p.tables e below (T115.setTop (mkF m 32 #[.val (.int p1), .val (.int (4 : Int32)), .val (.ref w_FOUND), .val (.int (1 : Int32))] [])) _
      refine XS.iconst X115.here hx rfl (hb hby at_32) ?_
      show Steps p.tables e below (T115.setTop (mkF m 33 #[.val (.int p1), .val (.int (4 : Int32)), .val (.ref w_FOUND), .val (.int (1 : Int32))] [(.int (1 : Int32))])) _
      refine XS.goto X115.here hx rfl (pc0 := 33) (pc' := 37) rfl (hb hby at_33) (by decide) (by decide) ?_
      exact kt)
    obtain ⟨fs, hr, hrun, hended, hW, hsame⟩ := X115.leave (v := some (.int (1 : Int32))) (fun h => by rw [Bd.returns] at h; cases h) (hlocks := hlk)
    refine ⟨_, _, P116 _ ?_, hrun, hended, _, _, rfl, ?_, ⟨_, rfl⟩, hW, hsame.mono (by decide) (by decide)⟩
    · show Steps p.tables e below (T115.setTop (mkF m 37 #[.val (.int p1), .val (.int (4 : Int32)), .val (.ref w_FOUND), .val (.int (1 : Int32))] [(.int (1 : Int32))])) _
      exact retN X115 hx (t := .boolean) Bd.returns (by simp) (hb hby at_37) hr
    · show QP _ h0 _ T115.heap _
      exact ⟨rfl, rfl, e115⟩
  · obtain ⟨_, _, ⟨T117, L117, k117, n117⟩, -, X117, ⟨Lc117, hQ117, l117, y117, z117⟩, st117⟩ := Jvm.LawKit.callS X0 hx (y := (⟨"com/example/retry_ledger/retryledger/OutcomeIsInPlacePinLaw", "pick", "(I)Lcom/example/retry_ledger/retryledger/RunResult$Outcome;"⟩ : MethodName)) hown (mvT hZ (hw _ (List.mem_of_getElem? (i := 1) rfl))) (mvT hZ (hw _ (List.mem_of_getElem? (i := 2) rfl))) (mvT hZ (hw _ (List.mem_of_getElem? (i := 3) rfl))) (mvT hZ (hw _ (List.mem_of_getElem? (i := 4) rfl))) (by decide) (backOf (W := 0)  (rmK l Z a0 hw [] (5 : Int32) w_PERFORMED w_CONFLICT w_SKIPPED w_RECONCILED w_FOUND w_FAILED w_UNKNOWN w_BUSY w_MISMATCH w_FAILED h0 S_PERFORMED S_CONFLICT S_SKIPPED S_RECONCILED S_FOUND S_FAILED S_UNKNOWN S_BUSY S_MISMATCH rfl) hZ (hw _ (List.mem_of_getElem? (i := 4) rfl)) (hw _ (List.mem_of_getElem? (i := 3) rfl)) (by decide) (by decide)) (g := (mkF m 9 #[.val (.int p1), .val (.int (5 : Int32)), .unset, .unset] [(.int (5 : Int32))])) rfl (by rw [hml]; rfl) (argsL := [(.int (5 : Int32))]) (rest := []) (lenOf pd__I_Lcom_example_retry_ledger_retryledger_RunResult_Outcome_ rfl) rfl (by show 2 * 0 + _ ≤ _; exact Nat.le_of_eq rfl) (hb hby at_9) (fun _ _ => ⟨rfl, e0, (by decide : 0 + 0 ≤ _), (by decide : 0 + 0 ≤ _)⟩)
    dsimp only [Pt.U, Pt.locs, Pt.cells, Pt.slots] at X117 l117 y117 z117 st117 hQ117
    subst l117 y117 z117
    obtain ⟨rfl, rfl, e117⟩ := hQ117
    have X117 : Stand p l e room_1 s m #[(.int p1)] below meth c T117 [] 0 0 := X117
    obtain ⟨cq118, kq118, q118a, q118b, q118c⟩ := isOf hZ e117 E_FAILED
    obtain ⟨_, _, ⟨T118, L118, k118, n118⟩, -, X118, ⟨Lc118, hQ118, l118, y118, z118⟩, st118⟩ := X117.virtualBack hx (y := (⟨"com/example/retry_ledger/retryledger/RunResult$Outcome", "isInPlace", "()Z"⟩ : MethodName)) (z := (⟨"com/example/retry_ledger/retryledger/RunResult$Outcome", "isInPlace", "()Z"⟩ : MethodName)) hown (mvT hZ (hw _ (List.mem_of_getElem? (i := 8) rfl))) (mvT hZ (hw _ (List.mem_of_getElem? (i := 9) rfl))) (notFace_of_selects (args := #[]) (mvT hZ (hw _ (List.mem_of_getElem? (i := 11) rfl)))) (mvT hZ (hw _ (List.mem_of_getElem? (i := 11) rfl))) (mvT hZ (hw _ (List.mem_of_getElem? (i := 10) rfl))) (by decide) (backOf (W := 0)  (rmP l Z a0 hw [] w_FAILED (5 : Int32) h0 E_FAILED O_FAILED (by decide)) hZ (hw _ (List.mem_of_getElem? (i := 12) rfl)) (hw _ (List.mem_of_getElem? (i := 6) rfl)) (by decide) (by decide)) q118a q118c (g := (mkF m 25 #[.val (.int p1), .val (.int (5 : Int32)), .val (.ref w_FAILED), .val (.int (0 : Int32))] [(.ref w_FAILED)])) rfl (by rw [hml]; rfl) (Steps.refl _) (argsL := []) (rest := []) (lenOf pd___Z rfl) rfl (by show 2 * 0 + _ ≤ _; exact Nat.le_of_eq rfl) (hb hby at_25) (fun _ _ => ⟨rfl, e117, (by decide : 0 + 0 ≤ _), (by decide : 0 + 0 ≤ _)⟩)
    dsimp only [Pt.U, Pt.locs, Pt.cells, Pt.slots] at X118 l118 y118 z118 st118 hQ118
    subst l118 y118 z118
    obtain ⟨rfl, rfl, e118⟩ := hQ118
    have X118 : Stand p l e room_1 s m #[(.int p1)] below meth c T118 [] 0 0 := X118
    have P119 : ∀ t, Steps p.tables e below (T118.setTop (mkF m 37 #[.val (.int p1), .val (.int (5 : Int32)), .val (.ref w_FAILED), .val (.int (0 : Int32))] [(.int (1 : Int32))])) t → Steps p.tables e below (s₁.setTop (entryFrame m #[(.int p1)] maxLocals)) t := fun t kt => P101 t (by
      show Steps p.tables e below (s₁.setTop (mkF m 7 #[.val (.int p1), .unset, .unset, .unset] [(.int (5 : Int32))])) _
      refine XS.istoreN X0.here hx rfl (hb hby at_7) rfl (l' := #[.val (.int p1), .val (.int (5 : Int32)), .unset, .unset]) rfl ?_
      show Steps p.tables e below (s₁.setTop (mkF m 8 #[.val (.int p1), .val (.int (5 : Int32)), .unset, .unset] [])) _
      refine XS.iloadN X0.here hx rfl (hb hby at_8) rfl ?_
      show Steps p.tables e below (s₁.setTop (mkF m 9 #[.val (.int p1), .val (.int (5 : Int32)), .unset, .unset] [(.int (5 : Int32))])) _
      refine st117 _ ?_
      show Steps p.tables e below (T117.setTop (mkF m 12 #[.val (.int p1), .val (.int (5 : Int32)), .unset, .unset] [(.ref w_FAILED)])) _
      refine XS.astoreN X117.here hx rfl (hb hby at_12) rfl rfl (l' := #[.val (.int p1), .val (.int (5 : Int32)), .val (.ref w_FAILED), .unset]) rfl ?_
      show Steps p.tables e below (T117.setTop (mkF m 13 #[.val (.int p1), .val (.int (5 : Int32)), .val (.ref w_FAILED), .unset] [])) _
      refine XS.iloadN X117.here hx rfl (hb hby at_13) rfl ?_
      show Steps p.tables e below (T117.setTop (mkF m 14 #[.val (.int p1), .val (.int (5 : Int32)), .val (.ref w_FAILED), .unset] [(.int (5 : Int32))])) _
      refine XS.iconst X117.here hx rfl (hb hby at_14) ?_
      show Steps p.tables e below (T117.setTop (mkF m 15 #[.val (.int p1), .val (.int (5 : Int32)), .val (.ref w_FAILED), .unset] [(.int (5 : Int32)), (.int (5 : Int32))])) _
      refine XS.icmpYes X117.here hx rfl (pc0 := 15) (pc' := 22) rfl (hb hby at_15) rfl (flt ((by decide) : ¬ ((5 : Int32) < (5 : Int32)))).2.1 (by decide) (by decide) ?_
      show Steps p.tables e below (T117.setTop (mkF m 22 #[.val (.int p1), .val (.int (5 : Int32)), .val (.ref w_FAILED), .unset] [])) _
      refine XS.iconst X117.here hx rfl (hb hby at_22) ?_
      show Steps p.tables e below (T117.setTop (mkF m 23 #[.val (.int p1), .val (.int (5 : Int32)), .val (.ref w_FAILED), .unset] [(.int (0 : Int32))])) _
      refine XS.istoreN X117.here hx rfl (hb hby at_23) rfl (l' := #[.val (.int p1), .val (.int (5 : Int32)), .val (.ref w_FAILED), .val (.int (0 : Int32))]) rfl ?_
      show Steps p.tables e below (T117.setTop (mkF m 24 #[.val (.int p1), .val (.int (5 : Int32)), .val (.ref w_FAILED), .val (.int (0 : Int32))] [])) _
      refine XS.aloadN X117.here hx rfl (hb hby at_24) rfl rfl ?_
      show Steps p.tables e below (T117.setTop (mkF m 25 #[.val (.int p1), .val (.int (5 : Int32)), .val (.ref w_FAILED), .val (.int (0 : Int32))] [(.ref w_FAILED)])) _
      refine st118.trans ?_
      show Steps p.tables e below (T118.setTop (mkF m 28 #[.val (.int p1), .val (.int (5 : Int32)), .val (.ref w_FAILED), .val (.int (0 : Int32))] [(.int (inp (5 : Int32)))])) _
      refine XS.iloadN X118.here hx rfl (hb hby at_28) rfl ?_
      show Steps p.tables e below (T118.setTop (mkF m 29 #[.val (.int p1), .val (.int (5 : Int32)), .val (.ref w_FAILED), .val (.int (0 : Int32))] [(.int (0 : Int32)), (.int (inp (5 : Int32)))])) _
      refine XS.icmpNo X118.here hx rfl (hb hby at_29) rfl (teq (by decide : (inp (5 : Int32)) = (0 : Int32))).2 ?_
      show Steps p.tables e below (T118.setTop (mkF m 32 #[.val (.int p1), .val (.int (5 : Int32)), .val (.ref w_FAILED), .val (.int (0 : Int32))] [])) _
      refine XS.iconst X118.here hx rfl (hb hby at_32) ?_
      show Steps p.tables e below (T118.setTop (mkF m 33 #[.val (.int p1), .val (.int (5 : Int32)), .val (.ref w_FAILED), .val (.int (0 : Int32))] [(.int (1 : Int32))])) _
      refine XS.goto X118.here hx rfl (pc0 := 33) (pc' := 37) rfl (hb hby at_33) (by decide) (by decide) ?_
      exact kt)
    obtain ⟨fs, hr, hrun, hended, hW, hsame⟩ := X118.leave (v := some (.int (1 : Int32))) (fun h => by rw [Bd.returns] at h; cases h) (hlocks := hlk)
    refine ⟨_, _, P119 _ ?_, hrun, hended, _, _, rfl, ?_, ⟨_, rfl⟩, hW, hsame.mono (by decide) (by decide)⟩
    · show Steps p.tables e below (T118.setTop (mkF m 37 #[.val (.int p1), .val (.int (5 : Int32)), .val (.ref w_FAILED), .val (.int (0 : Int32))] [(.int (1 : Int32))])) _
      exact retN X118 hx (t := .boolean) Bd.returns (by simp) (hb hby at_37) hr
    · show QP _ h0 _ T118.heap _
      exact ⟨rfl, rfl, e118⟩
  · obtain ⟨_, _, ⟨T120, L120, k120, n120⟩, -, X120, ⟨Lc120, hQ120, l120, y120, z120⟩, st120⟩ := Jvm.LawKit.callS X0 hx (y := (⟨"com/example/retry_ledger/retryledger/OutcomeIsInPlacePinLaw", "pick", "(I)Lcom/example/retry_ledger/retryledger/RunResult$Outcome;"⟩ : MethodName)) hown (mvT hZ (hw _ (List.mem_of_getElem? (i := 1) rfl))) (mvT hZ (hw _ (List.mem_of_getElem? (i := 2) rfl))) (mvT hZ (hw _ (List.mem_of_getElem? (i := 3) rfl))) (mvT hZ (hw _ (List.mem_of_getElem? (i := 4) rfl))) (by decide) (backOf (W := 0)  (rmK l Z a0 hw [] (6 : Int32) w_PERFORMED w_CONFLICT w_SKIPPED w_RECONCILED w_FOUND w_FAILED w_UNKNOWN w_BUSY w_MISMATCH w_UNKNOWN h0 S_PERFORMED S_CONFLICT S_SKIPPED S_RECONCILED S_FOUND S_FAILED S_UNKNOWN S_BUSY S_MISMATCH rfl) hZ (hw _ (List.mem_of_getElem? (i := 4) rfl)) (hw _ (List.mem_of_getElem? (i := 3) rfl)) (by decide) (by decide)) (g := (mkF m 9 #[.val (.int p1), .val (.int (6 : Int32)), .unset, .unset] [(.int (6 : Int32))])) rfl (by rw [hml]; rfl) (argsL := [(.int (6 : Int32))]) (rest := []) (lenOf pd__I_Lcom_example_retry_ledger_retryledger_RunResult_Outcome_ rfl) rfl (by show 2 * 0 + _ ≤ _; exact Nat.le_of_eq rfl) (hb hby at_9) (fun _ _ => ⟨rfl, e0, (by decide : 0 + 0 ≤ _), (by decide : 0 + 0 ≤ _)⟩)
    dsimp only [Pt.U, Pt.locs, Pt.cells, Pt.slots] at X120 l120 y120 z120 st120 hQ120
    subst l120 y120 z120
    obtain ⟨rfl, rfl, e120⟩ := hQ120
    have X120 : Stand p l e room_1 s m #[(.int p1)] below meth c T120 [] 0 0 := X120
    obtain ⟨cq121, kq121, q121a, q121b, q121c⟩ := isOf hZ e120 E_UNKNOWN
    obtain ⟨_, _, ⟨T121, L121, k121, n121⟩, -, X121, ⟨Lc121, hQ121, l121, y121, z121⟩, st121⟩ := X120.virtualBack hx (y := (⟨"com/example/retry_ledger/retryledger/RunResult$Outcome", "isInPlace", "()Z"⟩ : MethodName)) (z := (⟨"com/example/retry_ledger/retryledger/RunResult$Outcome", "isInPlace", "()Z"⟩ : MethodName)) hown (mvT hZ (hw _ (List.mem_of_getElem? (i := 8) rfl))) (mvT hZ (hw _ (List.mem_of_getElem? (i := 9) rfl))) (notFace_of_selects (args := #[]) (mvT hZ (hw _ (List.mem_of_getElem? (i := 11) rfl)))) (mvT hZ (hw _ (List.mem_of_getElem? (i := 11) rfl))) (mvT hZ (hw _ (List.mem_of_getElem? (i := 10) rfl))) (by decide) (backOf (W := 0)  (rmP l Z a0 hw [] w_UNKNOWN (6 : Int32) h0 E_UNKNOWN O_UNKNOWN (by decide)) hZ (hw _ (List.mem_of_getElem? (i := 12) rfl)) (hw _ (List.mem_of_getElem? (i := 6) rfl)) (by decide) (by decide)) q121a q121c (g := (mkF m 25 #[.val (.int p1), .val (.int (6 : Int32)), .val (.ref w_UNKNOWN), .val (.int (0 : Int32))] [(.ref w_UNKNOWN)])) rfl (by rw [hml]; rfl) (Steps.refl _) (argsL := []) (rest := []) (lenOf pd___Z rfl) rfl (by show 2 * 0 + _ ≤ _; exact Nat.le_of_eq rfl) (hb hby at_25) (fun _ _ => ⟨rfl, e120, (by decide : 0 + 0 ≤ _), (by decide : 0 + 0 ≤ _)⟩)
    dsimp only [Pt.U, Pt.locs, Pt.cells, Pt.slots] at X121 l121 y121 z121 st121 hQ121
    subst l121 y121 z121
    obtain ⟨rfl, rfl, e121⟩ := hQ121
    have X121 : Stand p l e room_1 s m #[(.int p1)] below meth c T121 [] 0 0 := X121
    have P122 : ∀ t, Steps p.tables e below (T121.setTop (mkF m 37 #[.val (.int p1), .val (.int (6 : Int32)), .val (.ref w_UNKNOWN), .val (.int (0 : Int32))] [(.int (1 : Int32))])) t → Steps p.tables e below (s₁.setTop (entryFrame m #[(.int p1)] maxLocals)) t := fun t kt => P101 t (by
      show Steps p.tables e below (s₁.setTop (mkF m 7 #[.val (.int p1), .unset, .unset, .unset] [(.int (6 : Int32))])) _
      refine XS.istoreN X0.here hx rfl (hb hby at_7) rfl (l' := #[.val (.int p1), .val (.int (6 : Int32)), .unset, .unset]) rfl ?_
      show Steps p.tables e below (s₁.setTop (mkF m 8 #[.val (.int p1), .val (.int (6 : Int32)), .unset, .unset] [])) _
      refine XS.iloadN X0.here hx rfl (hb hby at_8) rfl ?_
      show Steps p.tables e below (s₁.setTop (mkF m 9 #[.val (.int p1), .val (.int (6 : Int32)), .unset, .unset] [(.int (6 : Int32))])) _
      refine st120 _ ?_
      show Steps p.tables e below (T120.setTop (mkF m 12 #[.val (.int p1), .val (.int (6 : Int32)), .unset, .unset] [(.ref w_UNKNOWN)])) _
      refine XS.astoreN X120.here hx rfl (hb hby at_12) rfl rfl (l' := #[.val (.int p1), .val (.int (6 : Int32)), .val (.ref w_UNKNOWN), .unset]) rfl ?_
      show Steps p.tables e below (T120.setTop (mkF m 13 #[.val (.int p1), .val (.int (6 : Int32)), .val (.ref w_UNKNOWN), .unset] [])) _
      refine XS.iloadN X120.here hx rfl (hb hby at_13) rfl ?_
      show Steps p.tables e below (T120.setTop (mkF m 14 #[.val (.int p1), .val (.int (6 : Int32)), .val (.ref w_UNKNOWN), .unset] [(.int (6 : Int32))])) _
      refine XS.iconst X120.here hx rfl (hb hby at_14) ?_
      show Steps p.tables e below (T120.setTop (mkF m 15 #[.val (.int p1), .val (.int (6 : Int32)), .val (.ref w_UNKNOWN), .unset] [(.int (5 : Int32)), (.int (6 : Int32))])) _
      refine XS.icmpYes X120.here hx rfl (pc0 := 15) (pc' := 22) rfl (hb hby at_15) rfl (flt ((by decide) : ¬ ((6 : Int32) < (5 : Int32)))).2.1 (by decide) (by decide) ?_
      show Steps p.tables e below (T120.setTop (mkF m 22 #[.val (.int p1), .val (.int (6 : Int32)), .val (.ref w_UNKNOWN), .unset] [])) _
      refine XS.iconst X120.here hx rfl (hb hby at_22) ?_
      show Steps p.tables e below (T120.setTop (mkF m 23 #[.val (.int p1), .val (.int (6 : Int32)), .val (.ref w_UNKNOWN), .unset] [(.int (0 : Int32))])) _
      refine XS.istoreN X120.here hx rfl (hb hby at_23) rfl (l' := #[.val (.int p1), .val (.int (6 : Int32)), .val (.ref w_UNKNOWN), .val (.int (0 : Int32))]) rfl ?_
      show Steps p.tables e below (T120.setTop (mkF m 24 #[.val (.int p1), .val (.int (6 : Int32)), .val (.ref w_UNKNOWN), .val (.int (0 : Int32))] [])) _
      refine XS.aloadN X120.here hx rfl (hb hby at_24) rfl rfl ?_
      show Steps p.tables e below (T120.setTop (mkF m 25 #[.val (.int p1), .val (.int (6 : Int32)), .val (.ref w_UNKNOWN), .val (.int (0 : Int32))] [(.ref w_UNKNOWN)])) _
      refine st121.trans ?_
      show Steps p.tables e below (T121.setTop (mkF m 28 #[.val (.int p1), .val (.int (6 : Int32)), .val (.ref w_UNKNOWN), .val (.int (0 : Int32))] [(.int (inp (6 : Int32)))])) _
      refine XS.iloadN X121.here hx rfl (hb hby at_28) rfl ?_
      show Steps p.tables e below (T121.setTop (mkF m 29 #[.val (.int p1), .val (.int (6 : Int32)), .val (.ref w_UNKNOWN), .val (.int (0 : Int32))] [(.int (0 : Int32)), (.int (inp (6 : Int32)))])) _
      refine XS.icmpNo X121.here hx rfl (hb hby at_29) rfl (teq (by decide : (inp (6 : Int32)) = (0 : Int32))).2 ?_
      show Steps p.tables e below (T121.setTop (mkF m 32 #[.val (.int p1), .val (.int (6 : Int32)), .val (.ref w_UNKNOWN), .val (.int (0 : Int32))] [])) _
      refine XS.iconst X121.here hx rfl (hb hby at_32) ?_
      show Steps p.tables e below (T121.setTop (mkF m 33 #[.val (.int p1), .val (.int (6 : Int32)), .val (.ref w_UNKNOWN), .val (.int (0 : Int32))] [(.int (1 : Int32))])) _
      refine XS.goto X121.here hx rfl (pc0 := 33) (pc' := 37) rfl (hb hby at_33) (by decide) (by decide) ?_
      exact kt)
    obtain ⟨fs, hr, hrun, hended, hW, hsame⟩ := X121.leave (v := some (.int (1 : Int32))) (fun h => by rw [Bd.returns] at h; cases h) (hlocks := hlk)
    refine ⟨_, _, P122 _ ?_, hrun, hended, _, _, rfl, ?_, ⟨_, rfl⟩, hW, hsame.mono (by decide) (by decide)⟩
    · show Steps p.tables e below (T121.setTop (mkF m 37 #[.val (.int p1), .val (.int (6 : Int32)), .val (.ref w_UNKNOWN), .val (.int (0 : Int32))] [(.int (1 : Int32))])) _
      exact retN X121 hx (t := .boolean) Bd.returns (by simp) (hb hby at_37) hr
    · show QP _ h0 _ T121.heap _
      exact ⟨rfl, rfl, e121⟩
  · obtain ⟨_, _, ⟨T123, L123, k123, n123⟩, -, X123, ⟨Lc123, hQ123, l123, y123, z123⟩, st123⟩ := Jvm.LawKit.callS X0 hx (y := (⟨"com/example/retry_ledger/retryledger/OutcomeIsInPlacePinLaw", "pick", "(I)Lcom/example/retry_ledger/retryledger/RunResult$Outcome;"⟩ : MethodName)) hown (mvT hZ (hw _ (List.mem_of_getElem? (i := 1) rfl))) (mvT hZ (hw _ (List.mem_of_getElem? (i := 2) rfl))) (mvT hZ (hw _ (List.mem_of_getElem? (i := 3) rfl))) (mvT hZ (hw _ (List.mem_of_getElem? (i := 4) rfl))) (by decide) (backOf (W := 0)  (rmK l Z a0 hw [] (7 : Int32) w_PERFORMED w_CONFLICT w_SKIPPED w_RECONCILED w_FOUND w_FAILED w_UNKNOWN w_BUSY w_MISMATCH w_BUSY h0 S_PERFORMED S_CONFLICT S_SKIPPED S_RECONCILED S_FOUND S_FAILED S_UNKNOWN S_BUSY S_MISMATCH rfl) hZ (hw _ (List.mem_of_getElem? (i := 4) rfl)) (hw _ (List.mem_of_getElem? (i := 3) rfl)) (by decide) (by decide)) (g := (mkF m 9 #[.val (.int p1), .val (.int (7 : Int32)), .unset, .unset] [(.int (7 : Int32))])) rfl (by rw [hml]; rfl) (argsL := [(.int (7 : Int32))]) (rest := []) (lenOf pd__I_Lcom_example_retry_ledger_retryledger_RunResult_Outcome_ rfl) rfl (by show 2 * 0 + _ ≤ _; exact Nat.le_of_eq rfl) (hb hby at_9) (fun _ _ => ⟨rfl, e0, (by decide : 0 + 0 ≤ _), (by decide : 0 + 0 ≤ _)⟩)
    dsimp only [Pt.U, Pt.locs, Pt.cells, Pt.slots] at X123 l123 y123 z123 st123 hQ123
    subst l123 y123 z123
    obtain ⟨rfl, rfl, e123⟩ := hQ123
    have X123 : Stand p l e room_1 s m #[(.int p1)] below meth c T123 [] 0 0 := X123
    obtain ⟨cq124, kq124, q124a, q124b, q124c⟩ := isOf hZ e123 E_BUSY
    obtain ⟨_, _, ⟨T124, L124, k124, n124⟩, -, X124, ⟨Lc124, hQ124, l124, y124, z124⟩, st124⟩ := X123.virtualBack hx (y := (⟨"com/example/retry_ledger/retryledger/RunResult$Outcome", "isInPlace", "()Z"⟩ : MethodName)) (z := (⟨"com/example/retry_ledger/retryledger/RunResult$Outcome", "isInPlace", "()Z"⟩ : MethodName)) hown (mvT hZ (hw _ (List.mem_of_getElem? (i := 8) rfl))) (mvT hZ (hw _ (List.mem_of_getElem? (i := 9) rfl))) (notFace_of_selects (args := #[]) (mvT hZ (hw _ (List.mem_of_getElem? (i := 11) rfl)))) (mvT hZ (hw _ (List.mem_of_getElem? (i := 11) rfl))) (mvT hZ (hw _ (List.mem_of_getElem? (i := 10) rfl))) (by decide) (backOf (W := 0)  (rmP l Z a0 hw [] w_BUSY (7 : Int32) h0 E_BUSY O_BUSY (by decide)) hZ (hw _ (List.mem_of_getElem? (i := 12) rfl)) (hw _ (List.mem_of_getElem? (i := 6) rfl)) (by decide) (by decide)) q124a q124c (g := (mkF m 25 #[.val (.int p1), .val (.int (7 : Int32)), .val (.ref w_BUSY), .val (.int (0 : Int32))] [(.ref w_BUSY)])) rfl (by rw [hml]; rfl) (Steps.refl _) (argsL := []) (rest := []) (lenOf pd___Z rfl) rfl (by show 2 * 0 + _ ≤ _; exact Nat.le_of_eq rfl) (hb hby at_25) (fun _ _ => ⟨rfl, e123, (by decide : 0 + 0 ≤ _), (by decide : 0 + 0 ≤ _)⟩)
    dsimp only [Pt.U, Pt.locs, Pt.cells, Pt.slots] at X124 l124 y124 z124 st124 hQ124
    subst l124 y124 z124
    obtain ⟨rfl, rfl, e124⟩ := hQ124
    have X124 : Stand p l e room_1 s m #[(.int p1)] below meth c T124 [] 0 0 := X124
    have P125 : ∀ t, Steps p.tables e below (T124.setTop (mkF m 37 #[.val (.int p1), .val (.int (7 : Int32)), .val (.ref w_BUSY), .val (.int (0 : Int32))] [(.int (1 : Int32))])) t → Steps p.tables e below (s₁.setTop (entryFrame m #[(.int p1)] maxLocals)) t := fun t kt => P101 t (by
      show Steps p.tables e below (s₁.setTop (mkF m 7 #[.val (.int p1), .unset, .unset, .unset] [(.int (7 : Int32))])) _
      refine XS.istoreN X0.here hx rfl (hb hby at_7) rfl (l' := #[.val (.int p1), .val (.int (7 : Int32)), .unset, .unset]) rfl ?_
      show Steps p.tables e below (s₁.setTop (mkF m 8 #[.val (.int p1), .val (.int (7 : Int32)), .unset, .unset] [])) _
      refine XS.iloadN X0.here hx rfl (hb hby at_8) rfl ?_
      show Steps p.tables e below (s₁.setTop (mkF m 9 #[.val (.int p1), .val (.int (7 : Int32)), .unset, .unset] [(.int (7 : Int32))])) _
      refine st123 _ ?_
      show Steps p.tables e below (T123.setTop (mkF m 12 #[.val (.int p1), .val (.int (7 : Int32)), .unset, .unset] [(.ref w_BUSY)])) _
      refine XS.astoreN X123.here hx rfl (hb hby at_12) rfl rfl (l' := #[.val (.int p1), .val (.int (7 : Int32)), .val (.ref w_BUSY), .unset]) rfl ?_
      show Steps p.tables e below (T123.setTop (mkF m 13 #[.val (.int p1), .val (.int (7 : Int32)), .val (.ref w_BUSY), .unset] [])) _
      refine XS.iloadN X123.here hx rfl (hb hby at_13) rfl ?_
      show Steps p.tables e below (T123.setTop (mkF m 14 #[.val (.int p1), .val (.int (7 : Int32)), .val (.ref w_BUSY), .unset] [(.int (7 : Int32))])) _
      refine XS.iconst X123.here hx rfl (hb hby at_14) ?_
      show Steps p.tables e below (T123.setTop (mkF m 15 #[.val (.int p1), .val (.int (7 : Int32)), .val (.ref w_BUSY), .unset] [(.int (5 : Int32)), (.int (7 : Int32))])) _
      refine XS.icmpYes X123.here hx rfl (pc0 := 15) (pc' := 22) rfl (hb hby at_15) rfl (flt ((by decide) : ¬ ((7 : Int32) < (5 : Int32)))).2.1 (by decide) (by decide) ?_
      show Steps p.tables e below (T123.setTop (mkF m 22 #[.val (.int p1), .val (.int (7 : Int32)), .val (.ref w_BUSY), .unset] [])) _
      refine XS.iconst X123.here hx rfl (hb hby at_22) ?_
      show Steps p.tables e below (T123.setTop (mkF m 23 #[.val (.int p1), .val (.int (7 : Int32)), .val (.ref w_BUSY), .unset] [(.int (0 : Int32))])) _
      refine XS.istoreN X123.here hx rfl (hb hby at_23) rfl (l' := #[.val (.int p1), .val (.int (7 : Int32)), .val (.ref w_BUSY), .val (.int (0 : Int32))]) rfl ?_
      show Steps p.tables e below (T123.setTop (mkF m 24 #[.val (.int p1), .val (.int (7 : Int32)), .val (.ref w_BUSY), .val (.int (0 : Int32))] [])) _
      refine XS.aloadN X123.here hx rfl (hb hby at_24) rfl rfl ?_
      show Steps p.tables e below (T123.setTop (mkF m 25 #[.val (.int p1), .val (.int (7 : Int32)), .val (.ref w_BUSY), .val (.int (0 : Int32))] [(.ref w_BUSY)])) _
      refine st124.trans ?_
      show Steps p.tables e below (T124.setTop (mkF m 28 #[.val (.int p1), .val (.int (7 : Int32)), .val (.ref w_BUSY), .val (.int (0 : Int32))] [(.int (inp (7 : Int32)))])) _
      refine XS.iloadN X124.here hx rfl (hb hby at_28) rfl ?_
      show Steps p.tables e below (T124.setTop (mkF m 29 #[.val (.int p1), .val (.int (7 : Int32)), .val (.ref w_BUSY), .val (.int (0 : Int32))] [(.int (0 : Int32)), (.int (inp (7 : Int32)))])) _
      refine XS.icmpNo X124.here hx rfl (hb hby at_29) rfl (teq (by decide : (inp (7 : Int32)) = (0 : Int32))).2 ?_
      show Steps p.tables e below (T124.setTop (mkF m 32 #[.val (.int p1), .val (.int (7 : Int32)), .val (.ref w_BUSY), .val (.int (0 : Int32))] [])) _
      refine XS.iconst X124.here hx rfl (hb hby at_32) ?_
      show Steps p.tables e below (T124.setTop (mkF m 33 #[.val (.int p1), .val (.int (7 : Int32)), .val (.ref w_BUSY), .val (.int (0 : Int32))] [(.int (1 : Int32))])) _
      refine XS.goto X124.here hx rfl (pc0 := 33) (pc' := 37) rfl (hb hby at_33) (by decide) (by decide) ?_
      exact kt)
    obtain ⟨fs, hr, hrun, hended, hW, hsame⟩ := X124.leave (v := some (.int (1 : Int32))) (fun h => by rw [Bd.returns] at h; cases h) (hlocks := hlk)
    refine ⟨_, _, P125 _ ?_, hrun, hended, _, _, rfl, ?_, ⟨_, rfl⟩, hW, hsame.mono (by decide) (by decide)⟩
    · show Steps p.tables e below (T124.setTop (mkF m 37 #[.val (.int p1), .val (.int (7 : Int32)), .val (.ref w_BUSY), .val (.int (0 : Int32))] [(.int (1 : Int32))])) _
      exact retN X124 hx (t := .boolean) Bd.returns (by simp) (hb hby at_37) hr
    · show QP _ h0 _ T124.heap _
      exact ⟨rfl, rfl, e124⟩
  · obtain ⟨_, _, ⟨T126, L126, k126, n126⟩, -, X126, ⟨Lc126, hQ126, l126, y126, z126⟩, st126⟩ := Jvm.LawKit.callS X0 hx (y := (⟨"com/example/retry_ledger/retryledger/OutcomeIsInPlacePinLaw", "pick", "(I)Lcom/example/retry_ledger/retryledger/RunResult$Outcome;"⟩ : MethodName)) hown (mvT hZ (hw _ (List.mem_of_getElem? (i := 1) rfl))) (mvT hZ (hw _ (List.mem_of_getElem? (i := 2) rfl))) (mvT hZ (hw _ (List.mem_of_getElem? (i := 3) rfl))) (mvT hZ (hw _ (List.mem_of_getElem? (i := 4) rfl))) (by decide) (backOf (W := 0)  (rmK l Z a0 hw [] (8 : Int32) w_PERFORMED w_CONFLICT w_SKIPPED w_RECONCILED w_FOUND w_FAILED w_UNKNOWN w_BUSY w_MISMATCH w_MISMATCH h0 S_PERFORMED S_CONFLICT S_SKIPPED S_RECONCILED S_FOUND S_FAILED S_UNKNOWN S_BUSY S_MISMATCH rfl) hZ (hw _ (List.mem_of_getElem? (i := 4) rfl)) (hw _ (List.mem_of_getElem? (i := 3) rfl)) (by decide) (by decide)) (g := (mkF m 9 #[.val (.int p1), .val (.int (8 : Int32)), .unset, .unset] [(.int (8 : Int32))])) rfl (by rw [hml]; rfl) (argsL := [(.int (8 : Int32))]) (rest := []) (lenOf pd__I_Lcom_example_retry_ledger_retryledger_RunResult_Outcome_ rfl) rfl (by show 2 * 0 + _ ≤ _; exact Nat.le_of_eq rfl) (hb hby at_9) (fun _ _ => ⟨rfl, e0, (by decide : 0 + 0 ≤ _), (by decide : 0 + 0 ≤ _)⟩)
    dsimp only [Pt.U, Pt.locs, Pt.cells, Pt.slots] at X126 l126 y126 z126 st126 hQ126
    subst l126 y126 z126
    obtain ⟨rfl, rfl, e126⟩ := hQ126
    have X126 : Stand p l e room_1 s m #[(.int p1)] below meth c T126 [] 0 0 := X126
    obtain ⟨cq127, kq127, q127a, q127b, q127c⟩ := isOf hZ e126 E_MISMATCH
    obtain ⟨_, _, ⟨T127, L127, k127, n127⟩, -, X127, ⟨Lc127, hQ127, l127, y127, z127⟩, st127⟩ := X126.virtualBack hx (y := (⟨"com/example/retry_ledger/retryledger/RunResult$Outcome", "isInPlace", "()Z"⟩ : MethodName)) (z := (⟨"com/example/retry_ledger/retryledger/RunResult$Outcome", "isInPlace", "()Z"⟩ : MethodName)) hown (mvT hZ (hw _ (List.mem_of_getElem? (i := 8) rfl))) (mvT hZ (hw _ (List.mem_of_getElem? (i := 9) rfl))) (notFace_of_selects (args := #[]) (mvT hZ (hw _ (List.mem_of_getElem? (i := 11) rfl)))) (mvT hZ (hw _ (List.mem_of_getElem? (i := 11) rfl))) (mvT hZ (hw _ (List.mem_of_getElem? (i := 10) rfl))) (by decide) (backOf (W := 0)  (rmP l Z a0 hw [] w_MISMATCH (8 : Int32) h0 E_MISMATCH O_MISMATCH (by decide)) hZ (hw _ (List.mem_of_getElem? (i := 12) rfl)) (hw _ (List.mem_of_getElem? (i := 6) rfl)) (by decide) (by decide)) q127a q127c (g := (mkF m 25 #[.val (.int p1), .val (.int (8 : Int32)), .val (.ref w_MISMATCH), .val (.int (0 : Int32))] [(.ref w_MISMATCH)])) rfl (by rw [hml]; rfl) (Steps.refl _) (argsL := []) (rest := []) (lenOf pd___Z rfl) rfl (by show 2 * 0 + _ ≤ _; exact Nat.le_of_eq rfl) (hb hby at_25) (fun _ _ => ⟨rfl, e126, (by decide : 0 + 0 ≤ _), (by decide : 0 + 0 ≤ _)⟩)
    dsimp only [Pt.U, Pt.locs, Pt.cells, Pt.slots] at X127 l127 y127 z127 st127 hQ127
    subst l127 y127 z127
    obtain ⟨rfl, rfl, e127⟩ := hQ127
    have X127 : Stand p l e room_1 s m #[(.int p1)] below meth c T127 [] 0 0 := X127
    have P128 : ∀ t, Steps p.tables e below (T127.setTop (mkF m 37 #[.val (.int p1), .val (.int (8 : Int32)), .val (.ref w_MISMATCH), .val (.int (0 : Int32))] [(.int (1 : Int32))])) t → Steps p.tables e below (s₁.setTop (entryFrame m #[(.int p1)] maxLocals)) t := fun t kt => P101 t (by
      show Steps p.tables e below (s₁.setTop (mkF m 7 #[.val (.int p1), .unset, .unset, .unset] [(.int (8 : Int32))])) _
      refine XS.istoreN X0.here hx rfl (hb hby at_7) rfl (l' := #[.val (.int p1), .val (.int (8 : Int32)), .unset, .unset]) rfl ?_
      show Steps p.tables e below (s₁.setTop (mkF m 8 #[.val (.int p1), .val (.int (8 : Int32)), .unset, .unset] [])) _
      refine XS.iloadN X0.here hx rfl (hb hby at_8) rfl ?_
      show Steps p.tables e below (s₁.setTop (mkF m 9 #[.val (.int p1), .val (.int (8 : Int32)), .unset, .unset] [(.int (8 : Int32))])) _
      refine st126 _ ?_
      show Steps p.tables e below (T126.setTop (mkF m 12 #[.val (.int p1), .val (.int (8 : Int32)), .unset, .unset] [(.ref w_MISMATCH)])) _
      refine XS.astoreN X126.here hx rfl (hb hby at_12) rfl rfl (l' := #[.val (.int p1), .val (.int (8 : Int32)), .val (.ref w_MISMATCH), .unset]) rfl ?_
      show Steps p.tables e below (T126.setTop (mkF m 13 #[.val (.int p1), .val (.int (8 : Int32)), .val (.ref w_MISMATCH), .unset] [])) _
      refine XS.iloadN X126.here hx rfl (hb hby at_13) rfl ?_
      show Steps p.tables e below (T126.setTop (mkF m 14 #[.val (.int p1), .val (.int (8 : Int32)), .val (.ref w_MISMATCH), .unset] [(.int (8 : Int32))])) _
      refine XS.iconst X126.here hx rfl (hb hby at_14) ?_
      show Steps p.tables e below (T126.setTop (mkF m 15 #[.val (.int p1), .val (.int (8 : Int32)), .val (.ref w_MISMATCH), .unset] [(.int (5 : Int32)), (.int (8 : Int32))])) _
      refine XS.icmpYes X126.here hx rfl (pc0 := 15) (pc' := 22) rfl (hb hby at_15) rfl (flt ((by decide) : ¬ ((8 : Int32) < (5 : Int32)))).2.1 (by decide) (by decide) ?_
      show Steps p.tables e below (T126.setTop (mkF m 22 #[.val (.int p1), .val (.int (8 : Int32)), .val (.ref w_MISMATCH), .unset] [])) _
      refine XS.iconst X126.here hx rfl (hb hby at_22) ?_
      show Steps p.tables e below (T126.setTop (mkF m 23 #[.val (.int p1), .val (.int (8 : Int32)), .val (.ref w_MISMATCH), .unset] [(.int (0 : Int32))])) _
      refine XS.istoreN X126.here hx rfl (hb hby at_23) rfl (l' := #[.val (.int p1), .val (.int (8 : Int32)), .val (.ref w_MISMATCH), .val (.int (0 : Int32))]) rfl ?_
      show Steps p.tables e below (T126.setTop (mkF m 24 #[.val (.int p1), .val (.int (8 : Int32)), .val (.ref w_MISMATCH), .val (.int (0 : Int32))] [])) _
      refine XS.aloadN X126.here hx rfl (hb hby at_24) rfl rfl ?_
      show Steps p.tables e below (T126.setTop (mkF m 25 #[.val (.int p1), .val (.int (8 : Int32)), .val (.ref w_MISMATCH), .val (.int (0 : Int32))] [(.ref w_MISMATCH)])) _
      refine st127.trans ?_
      show Steps p.tables e below (T127.setTop (mkF m 28 #[.val (.int p1), .val (.int (8 : Int32)), .val (.ref w_MISMATCH), .val (.int (0 : Int32))] [(.int (inp (8 : Int32)))])) _
      refine XS.iloadN X127.here hx rfl (hb hby at_28) rfl ?_
      show Steps p.tables e below (T127.setTop (mkF m 29 #[.val (.int p1), .val (.int (8 : Int32)), .val (.ref w_MISMATCH), .val (.int (0 : Int32))] [(.int (0 : Int32)), (.int (inp (8 : Int32)))])) _
      refine XS.icmpNo X127.here hx rfl (hb hby at_29) rfl (teq (by decide : (inp (8 : Int32)) = (0 : Int32))).2 ?_
      show Steps p.tables e below (T127.setTop (mkF m 32 #[.val (.int p1), .val (.int (8 : Int32)), .val (.ref w_MISMATCH), .val (.int (0 : Int32))] [])) _
      refine XS.iconst X127.here hx rfl (hb hby at_32) ?_
      show Steps p.tables e below (T127.setTop (mkF m 33 #[.val (.int p1), .val (.int (8 : Int32)), .val (.ref w_MISMATCH), .val (.int (0 : Int32))] [(.int (1 : Int32))])) _
      refine XS.goto X127.here hx rfl (pc0 := 33) (pc' := 37) rfl (hb hby at_33) (by decide) (by decide) ?_
      exact kt)
    obtain ⟨fs, hr, hrun, hended, hW, hsame⟩ := X127.leave (v := some (.int (1 : Int32))) (fun h => by rw [Bd.returns] at h; cases h) (hlocks := hlk)
    refine ⟨_, _, P128 _ ?_, hrun, hended, _, _, rfl, ?_, ⟨_, rfl⟩, hW, hsame.mono (by decide) (by decide)⟩
    · show Steps p.tables e below (T127.setTop (mkF m 37 #[.val (.int p1), .val (.int (8 : Int32)), .val (.ref w_MISMATCH), .val (.int (0 : Int32))] [(.int (1 : Int32))])) _
      exact retN X127 hx (t := .boolean) Bd.returns (by simp) (hb hby at_37) hr
    · show QP _ h0 _ T127.heap _
      exact ⟨rfl, rfl, e127⟩
set_option maxRecDepth 65536 in
set_option maxHeartbeats 40000000 in
theorem comes_1 {Post : Tables → Env → Array Value → State → Outcome → State → Prop} (hpost : ∀ tb e args s v u, (limb_1_1.after args s (.returned v) u = true ∧ limb_1_2.after args s (.returned v) u = true ∧ True) → FrameEnd s (.returned v) u (Jvm.fieldLocs frame_1_writes args s ++ Jvm.arrayLocs frame_1_arrays args s ++ Jvm.staticLocs frame_1_statics s) 0 0 → Post tb e args s (.returned v) u) :
    ArmFor flags0 classFile x code maxLocals ret World_1 tables_1 room_1 Calls_1 rest_1 Pre_1 Post := by
  intro l hfl _ _ p e ha hc hk s m args below hf hA hF happ hP
  obtain ⟨hcalls, hrest, hpre⟩ := hP
  obtain ⟨-, -, -, hnamed, -, -, -, hat⟩ := (Spec.applies_iff hf).mp happ
  obtain ⟨hg, hn⟩ := and_e (Cond.before_iff.mp (show (Jvm.Cond.and given_1 narrow_1).before args s = true from hpre))
  obtain ⟨g1, g2⟩ := and_e hg
  obtain ⟨w0, rfl⟩ : ∃ w0 : Value, args = #[w0] := by
    have hs : args.size = 1 := by simpa [Cond.value, given_1] using g1
    obtain ⟨L⟩ := args
    match L, hs with
    | [w0], _ => exact ⟨w0, rfl⟩
  have hw := fun d (hd : d ∈ tables_1) => atoms_spec (ws := Jvm.Cond.code x code maxLocals ret :: tables_1) hat d (List.mem_cons_of_mem _ hd)
  obtain ⟨i0, ei0⟩ := is_v g2
  obtain rfl : w0 = (.int i0) := Option.some.inj ei0
  obtain ⟨nn1, nn2⟩ := and_e hn
  obtain ⟨nn3, nn4⟩ := and_e nn2
  obtain ⟨nn5, nn6⟩ := and_e nn4
  obtain ⟨nn7, nn8⟩ := and_e nn6
  obtain ⟨nn9, nn10⟩ := and_e nn8
  obtain ⟨nn11, nn12⟩ := and_e nn10
  obtain ⟨nn13, nn14⟩ := and_e nn12
  obtain ⟨nn15, nn16⟩ := and_e nn14
  obtain ⟨nn17, nn18⟩ := and_e nn16
  obtain ⟨nn19, nn20⟩ := and_e nn18
  obtain ⟨nn21, nn22⟩ := and_e nn20
  obtain ⟨nn23, nn24⟩ := and_e nn22
  obtain ⟨nn25, nn26⟩ := and_e nn24
  obtain ⟨nn27, nn28⟩ := and_e nn26
  obtain ⟨nn29, nn30⟩ := and_e nn28
  obtain ⟨nn31, nn32⟩ := and_e nn30
  obtain ⟨nn33, nn34⟩ := and_e nn32
  obtain ⟨w_PERFORMED, ev_PERFORMED⟩ := exa_v nn1
  have S_PERFORMED : Sta s s.heap "com/example/retry_ledger/retryledger/RunResult$Outcome" "PERFORMED" "Lcom/example/retry_ledger/retryledger/RunResult$Outcome;" (.ref w_PERFORMED) := Sta.start ev_PERFORMED (Or.inr ⟨(hw _ (List.mem_of_getElem? (i := 6) rfl)), (hw _ (List.mem_of_getElem? (i := 7) rfl))⟩)
  have E_PERFORMED : Exa s s.heap w_PERFORMED "com/example/retry_ledger/retryledger/RunResult$Outcome" := Exa.start ev_PERFORMED nn1
  have ov_PERFORMED : s.fieldOf? w_PERFORMED "java/lang/Enum" "ordinal" "I" = some (.int (0 : Int32)) := (fld_at ev_PERFORMED).symm.trans (own_eqv nn3)
  have O_PERFORMED : Fld s s.heap w_PERFORMED "java/lang/Enum" "ordinal" "I" (.int (0 : Int32)) := Fld.start ((fld_at ev_PERFORMED).symm.trans (own_eqv nn3))
  obtain ⟨w_CONFLICT, ev_CONFLICT⟩ := exa_v nn13
  have S_CONFLICT : Sta s s.heap "com/example/retry_ledger/retryledger/RunResult$Outcome" "CONFLICT" "Lcom/example/retry_ledger/retryledger/RunResult$Outcome;" (.ref w_CONFLICT) := Sta.start ev_CONFLICT (Or.inr ⟨(hw _ (List.mem_of_getElem? (i := 6) rfl)), (hw _ (List.mem_of_getElem? (i := 27) rfl))⟩)
  have E_CONFLICT : Exa s s.heap w_CONFLICT "com/example/retry_ledger/retryledger/RunResult$Outcome" := Exa.start ev_CONFLICT nn13
  have ov_CONFLICT : s.fieldOf? w_CONFLICT "java/lang/Enum" "ordinal" "I" = some (.int (1 : Int32)) := (fld_at ev_CONFLICT).symm.trans (own_eqv nn15)
  have O_CONFLICT : Fld s s.heap w_CONFLICT "java/lang/Enum" "ordinal" "I" (.int (1 : Int32)) := Fld.start ((fld_at ev_CONFLICT).symm.trans (own_eqv nn15))
  obtain ⟨w_SKIPPED, ev_SKIPPED⟩ := exa_v nn9
  have S_SKIPPED : Sta s s.heap "com/example/retry_ledger/retryledger/RunResult$Outcome" "SKIPPED" "Lcom/example/retry_ledger/retryledger/RunResult$Outcome;" (.ref w_SKIPPED) := Sta.start ev_SKIPPED (Or.inr ⟨(hw _ (List.mem_of_getElem? (i := 6) rfl)), (hw _ (List.mem_of_getElem? (i := 25) rfl))⟩)
  have E_SKIPPED : Exa s s.heap w_SKIPPED "com/example/retry_ledger/retryledger/RunResult$Outcome" := Exa.start ev_SKIPPED nn9
  have ov_SKIPPED : s.fieldOf? w_SKIPPED "java/lang/Enum" "ordinal" "I" = some (.int (2 : Int32)) := (fld_at ev_SKIPPED).symm.trans (own_eqv nn11)
  have O_SKIPPED : Fld s s.heap w_SKIPPED "java/lang/Enum" "ordinal" "I" (.int (2 : Int32)) := Fld.start ((fld_at ev_SKIPPED).symm.trans (own_eqv nn11))
  obtain ⟨w_RECONCILED, ev_RECONCILED⟩ := exa_v nn5
  have S_RECONCILED : Sta s s.heap "com/example/retry_ledger/retryledger/RunResult$Outcome" "RECONCILED" "Lcom/example/retry_ledger/retryledger/RunResult$Outcome;" (.ref w_RECONCILED) := Sta.start ev_RECONCILED (Or.inr ⟨(hw _ (List.mem_of_getElem? (i := 6) rfl)), (hw _ (List.mem_of_getElem? (i := 23) rfl))⟩)
  have E_RECONCILED : Exa s s.heap w_RECONCILED "com/example/retry_ledger/retryledger/RunResult$Outcome" := Exa.start ev_RECONCILED nn5
  have ov_RECONCILED : s.fieldOf? w_RECONCILED "java/lang/Enum" "ordinal" "I" = some (.int (3 : Int32)) := (fld_at ev_RECONCILED).symm.trans (own_eqv nn7)
  have O_RECONCILED : Fld s s.heap w_RECONCILED "java/lang/Enum" "ordinal" "I" (.int (3 : Int32)) := Fld.start ((fld_at ev_RECONCILED).symm.trans (own_eqv nn7))
  obtain ⟨w_FOUND, ev_FOUND⟩ := exa_v nn21
  have S_FOUND : Sta s s.heap "com/example/retry_ledger/retryledger/RunResult$Outcome" "FOUND" "Lcom/example/retry_ledger/retryledger/RunResult$Outcome;" (.ref w_FOUND) := Sta.start ev_FOUND (Or.inr ⟨(hw _ (List.mem_of_getElem? (i := 6) rfl)), (hw _ (List.mem_of_getElem? (i := 31) rfl))⟩)
  have E_FOUND : Exa s s.heap w_FOUND "com/example/retry_ledger/retryledger/RunResult$Outcome" := Exa.start ev_FOUND nn21
  have ov_FOUND : s.fieldOf? w_FOUND "java/lang/Enum" "ordinal" "I" = some (.int (4 : Int32)) := (fld_at ev_FOUND).symm.trans (own_eqv nn23)
  have O_FOUND : Fld s s.heap w_FOUND "java/lang/Enum" "ordinal" "I" (.int (4 : Int32)) := Fld.start ((fld_at ev_FOUND).symm.trans (own_eqv nn23))
  obtain ⟨w_FAILED, ev_FAILED⟩ := exa_v nn33
  have S_FAILED : Sta s s.heap "com/example/retry_ledger/retryledger/RunResult$Outcome" "FAILED" "Lcom/example/retry_ledger/retryledger/RunResult$Outcome;" (.ref w_FAILED) := Sta.start ev_FAILED (Or.inr ⟨(hw _ (List.mem_of_getElem? (i := 6) rfl)), (hw _ (List.mem_of_getElem? (i := 37) rfl))⟩)
  have E_FAILED : Exa s s.heap w_FAILED "com/example/retry_ledger/retryledger/RunResult$Outcome" := Exa.start ev_FAILED nn33
  have ov_FAILED : s.fieldOf? w_FAILED "java/lang/Enum" "ordinal" "I" = some (.int (5 : Int32)) := (fld_at ev_FAILED).symm.trans (own_eqv nn34)
  have O_FAILED : Fld s s.heap w_FAILED "java/lang/Enum" "ordinal" "I" (.int (5 : Int32)) := Fld.start ((fld_at ev_FAILED).symm.trans (own_eqv nn34))
  obtain ⟨w_UNKNOWN, ev_UNKNOWN⟩ := exa_v nn29
  have S_UNKNOWN : Sta s s.heap "com/example/retry_ledger/retryledger/RunResult$Outcome" "UNKNOWN" "Lcom/example/retry_ledger/retryledger/RunResult$Outcome;" (.ref w_UNKNOWN) := Sta.start ev_UNKNOWN (Or.inr ⟨(hw _ (List.mem_of_getElem? (i := 6) rfl)), (hw _ (List.mem_of_getElem? (i := 35) rfl))⟩)
  have E_UNKNOWN : Exa s s.heap w_UNKNOWN "com/example/retry_ledger/retryledger/RunResult$Outcome" := Exa.start ev_UNKNOWN nn29
  have ov_UNKNOWN : s.fieldOf? w_UNKNOWN "java/lang/Enum" "ordinal" "I" = some (.int (6 : Int32)) := (fld_at ev_UNKNOWN).symm.trans (own_eqv nn31)
  have O_UNKNOWN : Fld s s.heap w_UNKNOWN "java/lang/Enum" "ordinal" "I" (.int (6 : Int32)) := Fld.start ((fld_at ev_UNKNOWN).symm.trans (own_eqv nn31))
  obtain ⟨w_BUSY, ev_BUSY⟩ := exa_v nn17
  have S_BUSY : Sta s s.heap "com/example/retry_ledger/retryledger/RunResult$Outcome" "BUSY" "Lcom/example/retry_ledger/retryledger/RunResult$Outcome;" (.ref w_BUSY) := Sta.start ev_BUSY (Or.inr ⟨(hw _ (List.mem_of_getElem? (i := 6) rfl)), (hw _ (List.mem_of_getElem? (i := 29) rfl))⟩)
  have E_BUSY : Exa s s.heap w_BUSY "com/example/retry_ledger/retryledger/RunResult$Outcome" := Exa.start ev_BUSY nn17
  have ov_BUSY : s.fieldOf? w_BUSY "java/lang/Enum" "ordinal" "I" = some (.int (7 : Int32)) := (fld_at ev_BUSY).symm.trans (own_eqv nn19)
  have O_BUSY : Fld s s.heap w_BUSY "java/lang/Enum" "ordinal" "I" (.int (7 : Int32)) := Fld.start ((fld_at ev_BUSY).symm.trans (own_eqv nn19))
  obtain ⟨w_MISMATCH, ev_MISMATCH⟩ := exa_v nn25
  have S_MISMATCH : Sta s s.heap "com/example/retry_ledger/retryledger/RunResult$Outcome" "MISMATCH" "Lcom/example/retry_ledger/retryledger/RunResult$Outcome;" (.ref w_MISMATCH) := Sta.start ev_MISMATCH (Or.inr ⟨(hw _ (List.mem_of_getElem? (i := 6) rfl)), (hw _ (List.mem_of_getElem? (i := 33) rfl))⟩)
  have E_MISMATCH : Exa s s.heap w_MISMATCH "com/example/retry_ledger/retryledger/RunResult$Outcome" := Exa.start ev_MISMATCH nn25
  have ov_MISMATCH : s.fieldOf? w_MISMATCH "java/lang/Enum" "ordinal" "I" = some (.int (8 : Int32)) := (fld_at ev_MISMATCH).symm.trans (own_eqv nn27)
  have O_MISMATCH : Fld s s.heap w_MISMATCH "java/lang/Enum" "ordinal" "I" (.int (8 : Int32)) := Fld.start ((fld_at ev_MISMATCH).symm.trans (own_eqv nn27))
  obtain ⟨n, o, h1, h2, h3, _, L, rfl, ⟨rfl, rfl, -⟩, hq⟩ := rm0 l s _ hw tables_1 i0 w_PERFORMED w_CONFLICT w_SKIPPED w_RECONCILED w_FOUND w_FAILED w_UNKNOWN w_BUSY w_MISMATCH s.heap S_PERFORMED S_CONFLICT S_SKIPPED S_RECONCILED S_FOUND S_FAILED S_UNKNOWN S_BUSY S_MISMATCH E_PERFORMED E_CONFLICT E_SKIPPED E_RECONCILED E_FOUND E_FAILED E_UNKNOWN E_BUSY E_MISMATCH O_PERFORMED O_CONFLICT O_SKIPPED O_RECONCILED O_FOUND O_FAILED O_UNKNOWN O_BUSY O_MISMATCH  p e ha hc hk s m _ below hf ((Spec.applies_iff_loose hf).mp happ).1 ⟨rfl, State.Warmed39.refl s, rfl⟩ trivial
  refine ⟨n, _, h1, h2, h3, hpost _ _ _ _ _ _ ⟨Cond.after_iff.mpr rfl, Cond.after_iff.mpr (eq_i res_at (Term.int_eval (1)) rfl), trivial⟩ ⟨hq.1, hq.2.1, (hq.2.2.sift fun y hy => nomatch hy).mono (by decide) (by decide)⟩⟩
theorem main_1_1 : Claimed_1_1 := comes_1 fun _ _ _ _ _ _ h hF => ⟨h.1, hF⟩
theorem main_1_2 : Claimed_1_2 := comes_1 fun _ _ _ _ _ _ h hF => ⟨h.2.1, hF⟩
end Jvm.Pilot.@@N@@
namespace Jvm.Pilot.@@N@@
open Jvm Jvm.ClassFile Sem Op Lib Jvm.Free Jvm.Stand Jvm.Pilot.@@N@@.Jvm.D
/-! MADE BY PROGRAM (witnessworld.py) out of the Statement's table words and the real class files: 12 classes; the members and pool entries that the words name. The judged class is class 1, her method 2. -/
namespace start1
open Jvm.ClassFile
def u (s : String) : CpInfo := .utf8 (stringToUtf16 s)
/-- a pool by its gaps: so many unusable entries, then the entry; so many at the end -/
def gap : Nat → List CpInfo → List CpInfo
  | 0, r => r
  | n + 1, r => .unusable :: gap n r
def poolList (es : List (Nat × CpInfo)) (last : Nat) : List CpInfo := es.foldr (fun e r => gap e.1 (e.2 :: r)) (gap last [])
def pool (es : List (Nat × CpInfo)) (last : Nat) : Array CpInfo := ⟨poolList es last⟩
def fileOf (pool : Array CpInfo) (this : Nat) (attrs : Array Attribute := #[]) (ms : Array MethodInfo := #[]) (fl : Nat := 33) (sup : Nat := 0) (ifs : Array Nat := #[]) (fds : Array FieldInfo := #[]) : ClassFile where
  minorVersion := 0
  majorVersion := 65
  constantPool := pool
  accessFlags := fl
  thisClass := this
  superClass := sup
  interfaces := ifs
  fields := fds
  methods := ms
  attributes := attrs
def plain (name : String) (sup : Option ClassId) : Class where
  name := name
  kind := .ordinary
  loader := none
  accessFlags := 33
  super := sup
  interfaces := #[]
  cf := none
  fields := #[]
  methods := #[]
  instanceTypes := #[]
  staticTypes := #[]
  resolved := #[]
  callSites := []
  init := .initialized
  statics := none
  mirror := none

def pool0 : Array CpInfo := pool [(5, u "<init>"), (0, u "()V"), (1, .class_ 10), (1, u "java/lang/Object")] 113

def k0m0 : Method := { name := "<init>", desc := "()V", sig := { parameters := [], returnType := none }, accessFlags := 1, code := none }
/-- java/lang/Object -/
def k0 : Class := { plain "java/lang/Object" none with
  accessFlags := 33
  interfaces := #[]
  cf := some (fileOf pool0 8 #[] #[{ accessFlags := 1, nameIndex := 5, descriptorIndex := 6, attributes := #[] }] 33 0 #[] #[])
  fields := #[]
  methods := #[k0m0]
  instanceTypes := #[]
  staticTypes := #[]
  resolved := Array.replicate 124 none
  statics := none }

def pool1 : Array CpInfo := pool [(2, .class_ 4), (1, u "java/lang/Object"), (0, u "<init>"), (0, u "()V"), (0, .fieldref 8 9), (0, .class_ 10), (0, .nameAndType 11 12), (0, u "com/example/retry_ledger/retryledger/RunResult$Outcome"), (0, u "PERFORMED"), (0, u "Lcom/example/retry_ledger/retryledger/RunResult$Outcome;"), (0, .fieldref 8 14), (0, .nameAndType 15 12), (0, u "CONFLICT"), (0, .fieldref 8 17), (0, .nameAndType 18 12), (0, u "SKIPPED"), (0, .fieldref 8 20), (0, .nameAndType 21 12), (0, u "RECONCILED"), (0, .fieldref 8 23), (0, .nameAndType 24 12), (0, u "FOUND"), (0, .fieldref 8 26), (0, .nameAndType 27 12), (0, u "FAILED"), (0, .fieldref 8 29), (0, .nameAndType 30 12), (0, u "UNKNOWN"), (0, .fieldref 8 32), (0, .nameAndType 33 12), (0, u "BUSY"), (0, .fieldref 8 35), (0, .nameAndType 36 12), (0, u "MISMATCH"), (0, .integer 2147483647), (0, .methodref 39 40), (0, .class_ 41), (0, .nameAndType 42 43), (0, u "com/example/retry_ledger/retryledger/OutcomeIsInPlacePinLaw"), (0, u "pick"), (0, u "(I)Lcom/example/retry_ledger/retryledger/RunResult$Outcome;"), (0, .methodref 8 45), (0, .nameAndType 46 47), (0, u "isInPlace"), (0, u "()Z"), (3, u "law"), (0, u "(I)Z")] 6

def k1m0 : Method := { name := "<init>", desc := "()V", sig := { parameters := [], returnType := none }, accessFlags := 2, code := none }
def k1c1 : Code := { maxStack := 2, maxLocals := 2, code := method_2_code, exceptionTable := #[], attributes := #[] }
def k1m1 : Method := { name := "pick", desc := "(I)Lcom/example/retry_ledger/retryledger/RunResult$Outcome;", sig := { parameters := [.int], returnType := some (.object "com/example/retry_ledger/retryledger/RunResult$Outcome") }, accessFlags := 10, code := some k1c1 }
def k1c2 : Code := { maxStack := 2, maxLocals := 4, code := code, exceptionTable := #[], attributes := #[] }
def k1m2 : Method := { name := "law", desc := "(I)Z", sig := { parameters := [.int], returnType := some .boolean }, accessFlags := 9, code := some k1c2 }
/-- com/example/retry_ledger/retryledger/OutcomeIsInPlacePinLaw -/
def k1 : Class := { plain "com/example/retry_ledger/retryledger/OutcomeIsInPlacePinLaw" (some 0) with
  accessFlags := 49
  interfaces := #[]
  cf := some (fileOf pool1 39 #[] #[{ accessFlags := 2, nameIndex := 5, descriptorIndex := 6, attributes := #[] }, { accessFlags := 10, nameIndex := 42, descriptorIndex := 43, attributes := #[] }, { accessFlags := 9, nameIndex := 51, descriptorIndex := 52, attributes := #[] }] 49 2 #[] #[])
  fields := #[]
  methods := #[k1m0, k1m1, k1m2]
  instanceTypes := #[]
  staticTypes := #[]
  resolved := Array.replicate 59 none
  statics := none }

def pool2 : Array CpInfo := pool [(1, .class_ 2), (0, u "java/lang/constant/Constable"), (0, .class_ 4), (0, u "java/lang/Object")] 6

/-- java/lang/constant/Constable -/
def k2 : Class := { plain "java/lang/constant/Constable" (some 0) with
  accessFlags := 1537
  interfaces := #[]
  cf := some (fileOf pool2 1 #[] #[] 1537 3 #[] #[])
  fields := #[]
  methods := #[]
  instanceTypes := #[]
  staticTypes := #[]
  resolved := Array.replicate 11 none
  statics := none }

def pool3 : Array CpInfo := pool [(1, .class_ 2), (0, u "java/lang/Comparable"), (0, .class_ 4), (0, u "java/lang/Object")] 7

/-- java/lang/Comparable -/
def k3 : Class := { plain "java/lang/Comparable" (some 0) with
  accessFlags := 1537
  interfaces := #[]
  cf := some (fileOf pool3 1 #[] #[] 1537 3 #[] #[])
  fields := #[]
  methods := #[]
  instanceTypes := #[]
  staticTypes := #[]
  resolved := Array.replicate 12 none
  statics := none }

def pool4 : Array CpInfo := pool [(1, .class_ 2), (0, u "java/io/Serializable"), (0, .class_ 4), (0, u "java/lang/Object")] 2

/-- java/io/Serializable -/
def k4 : Class := { plain "java/io/Serializable" (some 0) with
  accessFlags := 1537
  interfaces := #[]
  cf := some (fileOf pool4 1 #[] #[] 1537 3 #[] #[])
  fields := #[]
  methods := #[]
  instanceTypes := #[]
  staticTypes := #[]
  resolved := Array.replicate 7 none
  statics := none }

def pool5 : Array CpInfo := pool [(2, .class_ 4), (1, u "java/lang/Enum"), (0, u "name"), (0, u "Ljava/lang/String;"), (0, .fieldref 2 8), (0, .nameAndType 9 10), (0, u "ordinal"), (0, u "I"), (1, .class_ 14), (1, u "java/lang/Object"), (4, u "hash"), (86, .class_ 108), (1, u "java/lang/Enum$EnumDesc"), (2, .class_ 112), (0, u "java/lang/constant/Constable"), (0, .class_ 114), (0, u "java/lang/Comparable"), (0, .class_ 116), (0, u "java/io/Serializable"), (9, u "()I")] 77

def k5c0 : Code := { maxStack := 1, maxLocals := 1, code := jdk_37_method_2_code, exceptionTable := #[], attributes := #[] }
def k5m0 : Method := { name := "ordinal", desc := "()I", sig := { parameters := [], returnType := some .int }, accessFlags := 17, code := some k5c0 }
/-- java/lang/Enum -/
def k5 : Class := { plain "java/lang/Enum" (some 0) with
  accessFlags := 1057
  interfaces := #[2, 3, 4]
  cf := some (fileOf pool5 2 #[.nestMembers #[106]] #[{ accessFlags := 17, nameIndex := 9, descriptorIndex := 126, attributes := #[] }] 1057 12 #[111, 113, 115] #[{ accessFlags := 18, nameIndex := 5, descriptorIndex := 6, attributes := #[] }, { accessFlags := 18, nameIndex := 9, descriptorIndex := 10, attributes := #[] }, { accessFlags := 2, nameIndex := 19, descriptorIndex := 10, attributes := #[] }])
  fields := #[{ name := "name", type := (.object "java/lang/String"), accessFlags := 18, slot := 0, constantValue := 0 }, { name := "ordinal", type := .int, accessFlags := 18, slot := 1, constantValue := 0 }, { name := "hash", type := .int, accessFlags := 2, slot := 2, constantValue := 0 }]
  methods := #[k5m0]
  instanceTypes := #[(.object "java/lang/String"), .int, .int]
  staticTypes := #[]
  resolved := Array.replicate 204 none
  statics := none }

def pool6 : Array CpInfo := pool [(1, .class_ 2), (0, u "com/example/retry_ledger/retryledger/RunResult$Outcome"), (2, u "PERFORMED"), (0, u "Lcom/example/retry_ledger/retryledger/RunResult$Outcome;"), (2, u "CONFLICT"), (2, u "SKIPPED"), (2, u "RECONCILED"), (2, u "FOUND"), (2, u "FAILED"), (2, u "UNKNOWN"), (2, u "BUSY"), (2, u "MISMATCH"), (2, u "$VALUES"), (0, u "[Lcom/example/retry_ledger/retryledger/RunResult$Outcome;"), (6, .class_ 43), (1, u "java/lang/Enum"), (26, .nameAndType 72 73), (1, u "ordinal"), (0, u "()I"), (3, u "()Z"), (0, .methodref 1 70), (30, u "isInPlace"), (5, .class_ 116), (0, u "com/example/retry_ledger/retryledger/RunResult")] 2

def k6c0 : Code := { maxStack := 4, maxLocals := 1, code := prog_50_method_6_code, exceptionTable := #[], attributes := #[] }
def k6m0 : Method := { name := "isInPlace", desc := "()Z", sig := { parameters := [], returnType := some .boolean }, accessFlags := 1, code := some k6c0 }
/-- com/example/retry_ledger/retryledger/RunResult$Outcome -/
def k6 : Class := { plain "com/example/retry_ledger/retryledger/RunResult$Outcome" (some 5) with
  accessFlags := 16433
  interfaces := #[]
  cf := some (fileOf pool6 1 #[.nestHost 115] #[{ accessFlags := 1, nameIndex := 109, descriptorIndex := 77, attributes := #[] }] 16433 41 #[] #[{ accessFlags := 16409, nameIndex := 5, descriptorIndex := 6, attributes := #[] }, { accessFlags := 16409, nameIndex := 9, descriptorIndex := 6, attributes := #[] }, { accessFlags := 16409, nameIndex := 12, descriptorIndex := 6, attributes := #[] }, { accessFlags := 16409, nameIndex := 15, descriptorIndex := 6, attributes := #[] }, { accessFlags := 16409, nameIndex := 18, descriptorIndex := 6, attributes := #[] }, { accessFlags := 16409, nameIndex := 21, descriptorIndex := 6, attributes := #[] }, { accessFlags := 16409, nameIndex := 24, descriptorIndex := 6, attributes := #[] }, { accessFlags := 16409, nameIndex := 27, descriptorIndex := 6, attributes := #[] }, { accessFlags := 16409, nameIndex := 30, descriptorIndex := 6, attributes := #[] }, { accessFlags := 4122, nameIndex := 33, descriptorIndex := 34, attributes := #[] }])
  fields := #[{ name := "PERFORMED", type := (.object "com/example/retry_ledger/retryledger/RunResult$Outcome"), accessFlags := 16409, slot := 0, constantValue := 0 }, { name := "CONFLICT", type := (.object "com/example/retry_ledger/retryledger/RunResult$Outcome"), accessFlags := 16409, slot := 1, constantValue := 0 }, { name := "SKIPPED", type := (.object "com/example/retry_ledger/retryledger/RunResult$Outcome"), accessFlags := 16409, slot := 2, constantValue := 0 }, { name := "RECONCILED", type := (.object "com/example/retry_ledger/retryledger/RunResult$Outcome"), accessFlags := 16409, slot := 3, constantValue := 0 }, { name := "FOUND", type := (.object "com/example/retry_ledger/retryledger/RunResult$Outcome"), accessFlags := 16409, slot := 4, constantValue := 0 }, { name := "FAILED", type := (.object "com/example/retry_ledger/retryledger/RunResult$Outcome"), accessFlags := 16409, slot := 5, constantValue := 0 }, { name := "UNKNOWN", type := (.object "com/example/retry_ledger/retryledger/RunResult$Outcome"), accessFlags := 16409, slot := 6, constantValue := 0 }, { name := "BUSY", type := (.object "com/example/retry_ledger/retryledger/RunResult$Outcome"), accessFlags := 16409, slot := 7, constantValue := 0 }, { name := "MISMATCH", type := (.object "com/example/retry_ledger/retryledger/RunResult$Outcome"), accessFlags := 16409, slot := 8, constantValue := 0 }, { name := "$VALUES", type := (.array (.object "com/example/retry_ledger/retryledger/RunResult$Outcome")), accessFlags := 4122, slot := 9, constantValue := 0 }]
  methods := #[k6m0]
  instanceTypes := #[(.object "java/lang/String"), .int, .int]
  staticTypes := #[(.object "com/example/retry_ledger/retryledger/RunResult$Outcome"), (.object "com/example/retry_ledger/retryledger/RunResult$Outcome"), (.object "com/example/retry_ledger/retryledger/RunResult$Outcome"), (.object "com/example/retry_ledger/retryledger/RunResult$Outcome"), (.object "com/example/retry_ledger/retryledger/RunResult$Outcome"), (.object "com/example/retry_ledger/retryledger/RunResult$Outcome"), (.object "com/example/retry_ledger/retryledger/RunResult$Outcome"), (.object "com/example/retry_ledger/retryledger/RunResult$Outcome"), (.object "com/example/retry_ledger/retryledger/RunResult$Outcome"), (.array (.object "com/example/retry_ledger/retryledger/RunResult$Outcome"))]
  resolved := Array.replicate 119 none
  statics := some 0 }

def pool7 : Array CpInfo := pool [(1, u "java/lang/Cloneable"), (0, .class_ 1), (0, u "java/lang/Object"), (0, .class_ 3)] 3

/-- java/lang/Cloneable -/
def k7 : Class := { plain "java/lang/Cloneable" (some 0) with
  accessFlags := 1537
  interfaces := #[]
  cf := some (fileOf pool7 2 #[] #[] 1537 4 #[] #[])
  fields := #[]
  methods := #[]
  instanceTypes := #[]
  staticTypes := #[]
  resolved := Array.replicate 8 none
  statics := none }

/-- the primitive byte -/
def k8 : Class := { plain "byte" none with kind := .primitive 'B', accessFlags := 0x411 }
/-- [B -/
def k9 : Class := { plain "[B" (some 0) with kind := .array 8 .byte, interfaces := #[7, 4], accessFlags := 1041 }

/-- the primitive int -/
def k10 : Class := { plain "int" none with kind := .primitive 'I', accessFlags := 0x411 }
/-- [I -/
def k11 : Class := { plain "[I" (some 0) with kind := .array 10 .int, interfaces := #[7, 4], accessFlags := 1041 }

def heap : Heap := #[{ cls := 6, slots := #[.ref 1, .ref 2, .ref 3, .ref 4, .ref 5, .ref 6, .ref 7, .ref 8, .ref 9, .null], vm := .statics 6 },
  { cls := 6, slots := #[.null, .int 0, .int 0], vm := .none },
  { cls := 6, slots := #[.null, .int 1, .int 0], vm := .none },
  { cls := 6, slots := #[.null, .int 2, .int 0], vm := .none },
  { cls := 6, slots := #[.null, .int 3, .int 0], vm := .none },
  { cls := 6, slots := #[.null, .int 4, .int 0], vm := .none },
  { cls := 6, slots := #[.null, .int 5, .int 0], vm := .none },
  { cls := 6, slots := #[.null, .int 6, .int 0], vm := .none },
  { cls := 6, slots := #[.null, .int 7, .int 0], vm := .none },
  { cls := 6, slots := #[.null, .int 8, .int 0], vm := .none }]
def classes : Array Class := #[k0, k1, k2, k3, k4, k5, k6, k7, k8, k9, k10, k11]
def interned : List (Array UInt16 × Addr) := []
def slotsUsed : Nat := 37
def theMethod : MethodId := ⟨1, 2⟩
def args0 : Array Value := #[.int 5]
def aboutOver (below : List Frame) : State where
  vm := { classes := classes, interned := interned.toArray }
  heap := heap
  slotsUsed := slotsUsed
  threads := #[{ frames := .invoking theMethod args0 :: below }]
def below0 : List Frame := [.native { method := ⟨0, 0⟩, args := #[] }]
def about1 : State := aboutOver below0
def p0 : Program := .bare "" "" ""
def e0 : Env := launch0.env 0 0 0
theorem w_frames : about1.frames = Frame.invoking theMethod args0 :: below0 := rfl
set_option maxRecDepth 65536 in
theorem w_args : argsFit about1.vm theMethod args0 = true := by decide +kernel
set_option maxRecDepth 65536 in
theorem w_heap : heapFits about1 = true := by decide +kernel
set_option maxRecDepth 65536 in
theorem w_runnable : about1.curStatus? = some .runnable := by decide +kernel
set_option maxRecDepth 65536 in
theorem w_alone : about1.alone = true := by decide +kernel
set_option maxRecDepth 65536 in
theorem w_named : about1.methodNamed? x = some theMethod := by decide +kernel
set_option maxRecDepth 65536 in
theorem w_hears : about1.hears theMethod below0 = true := by decide +kernel
set_option maxRecDepth 65536 in
theorem w_ripe : about1.ripe theMethod args0 below0 = true := by decide +kernel
theorem w_running : about1.status = .running := rfl
set_option maxRecDepth 65536 in
theorem w_room : about1.hasRoom e0.platform room_1 = true :=
  launch0.hasRoom_least _ room_1 (by decide +kernel) (by decide +kernel) (by decide +kernel) (by decide +kernel) (by decide +kernel) (by decide +kernel)
theorem allAtoms_all (ts : List Jvm.Cond) (a : Array Jvm.Value) (st : Jvm.State) : (allAtoms ts).before a st = ts.all (fun c => c.before a st) := by
  induction ts with
  | nil => rfl
  | cons c t ih =>
    show (Jvm.Cond.and c (allAtoms t)).before a st = _
    rw [Jvm.Cond.before_and, ih, List.all_cons]
def words1 : List Jvm.Cond := Jvm.Cond.code x code maxLocals ret :: tables_1
/-- a 'code' word, met by the world's own term for the bytes: nothing is compared byte by byte -/
theorem code_word {y : MethodName} {bytes : ByteArray} {mx : Nat} {rt : Option FieldType} {a : Array Value} {s : State} {m : MethodId} {meth : Method} {c : Code} (h1 : s.methodNamed? y = some m) (h2 : s.vm.method? m = some meth) (h3 : meth.code = some c) (h4 : c.code = bytes)
    (h5 : (c.maxLocals == mx && c.exceptionTable.isEmpty && decide (c.maxStack ≤ mostOperands) && decide (meth.sig.returnType = rt) && !meth.locks && decide (parseMethodDescriptor y.desc = some meth.sig)) = true) : (Jvm.Cond.code y bytes mx rt).before a s = true := by
  simp only [Bool.and_eq_true, beq_iff_eq, Bool.not_eq_true', decide_eq_true_eq] at h5
  obtain ⟨⟨⟨⟨⟨g1, g2⟩, g3⟩, g4⟩, g5⟩, g6⟩ := h5
  simp [Cond.before, Cond.holds, Cond.value, h1, h2, h3, h4, g1, g2, g3, g4, g5, g6]
def isCode : Jvm.Cond → Bool
  | .code _ _ _ _ => true
  | _ => false
theorem all_split {L : List Jvm.Cond} {P : Jvm.Cond → Bool} (h1 : L.all (fun c => isCode c || P c) = true) (h2 : ∀ c ∈ L.filter isCode, P c = true) : L.all P = true := by
  refine List.all_eq_true.mpr fun c hc => ?_
  have h := List.all_eq_true.mp h1 c hc
  rcases Bool.eq_false_or_eq_true (isCode c) with hi | hi
  · exact h2 c (List.mem_filter.mpr ⟨hc, hi⟩)
  · simpa [hi] using h
set_option maxRecDepth 65536 in
theorem w_c0 : (Jvm.Cond.code x code maxLocals ret).before args0 about1 = true := code_word (m := ⟨1, 2⟩) (meth := k1m2) (c := k1c2) (by decide +kernel) rfl rfl rfl (by decide +kernel)
set_option maxRecDepth 65536 in
theorem w_c1 : (Jvm.Cond.code ({ cls := "com/example/retry_ledger/retryledger/OutcomeIsInPlacePinLaw", name := "pick", desc := "(I)Lcom/example/retry_ledger/retryledger/RunResult$Outcome;" } : Jvm.MethodName) method_2_code (2 : Nat) (Option.some (Jvm.ClassFile.FieldType.object "com/example/retry_ledger/retryledger/RunResult$Outcome"))).before args0 about1 = true := code_word (m := ⟨1, 1⟩) (meth := k1m1) (c := k1c1) (by decide +kernel) rfl rfl rfl (by decide +kernel)
set_option maxRecDepth 65536 in
theorem w_c2 : (Jvm.Cond.code ({ cls := "com/example/retry_ledger/retryledger/RunResult$Outcome", name := "isInPlace", desc := "()Z" } : Jvm.MethodName) prog_50_method_6_code (1 : Nat) (Option.some Jvm.ClassFile.FieldType.boolean)).before args0 about1 = true := code_word (m := ⟨6, 0⟩) (meth := k6m0) (c := k6c0) (by decide +kernel) rfl rfl rfl (by decide +kernel)
set_option maxRecDepth 65536 in
theorem w_c3 : (Jvm.Cond.code ({ cls := "java/lang/Enum", name := "ordinal", desc := "()I" } : Jvm.MethodName) jdk_37_method_2_code (1 : Nat) (Option.some Jvm.ClassFile.FieldType.int)).before args0 about1 = true := code_word (m := ⟨5, 0⟩) (meth := k5m0) (c := k5c0) (by decide +kernel) rfl rfl rfl (by decide +kernel)
def codes1 : List Jvm.Cond := [Jvm.Cond.code x code maxLocals ret, Jvm.Cond.code ({ cls := "com/example/retry_ledger/retryledger/OutcomeIsInPlacePinLaw", name := "pick", desc := "(I)Lcom/example/retry_ledger/retryledger/RunResult$Outcome;" } : Jvm.MethodName) method_2_code (2 : Nat) (Option.some (Jvm.ClassFile.FieldType.object "com/example/retry_ledger/retryledger/RunResult$Outcome")), Jvm.Cond.code ({ cls := "com/example/retry_ledger/retryledger/RunResult$Outcome", name := "isInPlace", desc := "()Z" } : Jvm.MethodName) prog_50_method_6_code (1 : Nat) (Option.some Jvm.ClassFile.FieldType.boolean), Jvm.Cond.code ({ cls := "java/lang/Enum", name := "ordinal", desc := "()I" } : Jvm.MethodName) jdk_37_method_2_code (1 : Nat) (Option.some Jvm.ClassFile.FieldType.int)]
set_option maxRecDepth 65536 in
theorem codes_eq : words1.filter isCode = codes1 := rfl
theorem w_codes : ∀ c ∈ words1.filter isCode, c.before args0 about1 = true := by
  rw [codes_eq]
  intro c hc
  simp only [codes1, List.mem_cons, List.not_mem_nil, or_false] at hc
  rcases hc with rfl | rfl | rfl | rfl
  · exact w_c0
  · exact w_c1
  · exact w_c2
  · exact w_c3
set_option maxRecDepth 65536 in
theorem w_t1 : (words1.take 24).all (fun c => isCode c || c.before args0 about1) = true := by decide +kernel
set_option maxRecDepth 65536 in
theorem w_t2 : (words1.drop 24).all (fun c => isCode c || c.before args0 about1) = true := by decide +kernel
theorem w_tables : (allAtoms (Jvm.Cond.code x code maxLocals ret :: tables_1)).before args0 about1 = true := by
  rw [allAtoms_all]
  show words1.all (fun c => c.before args0 about1) = true
  refine all_split ?_ w_codes
  rw [← List.take_append_drop 24 words1, List.all_append, w_t1, w_t2]
  rfl
set_option maxRecDepth 65536 in
theorem w_case : (Jvm.Cond.and given_1 narrow_1).before args0 about1 = true := by decide +kernel
theorem w_applies : (headSpec (Jvm.Cond.code x code maxLocals ret :: tables_1) room_1).applies x e0.platform about1 = true :=
  (Spec.applies_iff w_frames).mpr ⟨w_running, w_runnable, w_alone, w_named, w_hears, w_ripe, w_room, w_tables⟩
theorem atStart : AtStart classFile x code maxLocals ret World_1 tables_1 room_1 Calls_1 rest_1 Pre_1 launch0 p0 e0 about1 theMethod args0 below0 :=
  ⟨lists_1, trivial, launch0.admits_env _ _ _, launch0.least_env, fairChoices_fair.cas, fairChoices_fair.clock, w_frames, w_args, w_heap, w_applies, trivial, trivial, w_case⟩
end start1
theorem witness_1 : WitnessClaimed_1 := ⟨start1.p0, start1.e0, start1.about1, start1.theMethod, start1.args0, start1.below0, start1.atStart⟩
end Jvm.Pilot.@@N@@
