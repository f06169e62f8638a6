import JvmDerived
import JvmDerived.Pilot.@@N@@Statement
import JvmDerived.Pilot.@@N@@Code
set_option linter.unusedVariables false
set_option linter.unusedSimpArgs false
/- laws to paste: Road.backV (cut by pick.py; bodies as the Statement names them) -/
namespace Jvm.Pilot.@@N@@
namespace StrChars
open Jvm Sem ClassFile Op Lib Jvm.Stand Jvm.Free.XT Jvm.Free.ALB Jvm.Free.JM Jvm.Free
open Jvm.Lib.Cold (StaticIs)
/-- a char array whose places are chars -/
def Ch (a : Addr) (A : Cell) (U : State) : Prop := Arr .char a A U ∧ Typed .char A
theorem Ch.mv {a : Addr} {A : Cell} {U U' : State} (h : Ch a A U) (hal : U.vm.Alike U'.vm) (hh : U'.heap = U.heap) : Ch a A U' := ⟨h.1.mv hal hh, h.2⟩
theorem Ch.keep {a : Addr} {A : Cell} {U U' : State} (h : Ch a A U) (hal : U.vm.Alike U'.vm) (hk : U'.heap[a]? = some A) : Ch a A U' := ⟨h.1.keep hal hk, h.2⟩
/-- what place i of a char[]'s cell holds -/
def cv (A : Cell) (i : Nat) : Int32 := match A.slots[i]? with | some (.int x) => x | _ => 0
theorem Ch.get {a : Addr} {A : Cell} {U : State} (h : Ch a A U) {i : Nat} (hi : i < A.slots.size) : A.slots[i]? = some (.int (cv A i)) := by
  have e := Array.getElem?_eq_getElem hi
  have f := h.2 i _ e
  unfold cv; rw [e]
  generalize A.slots[i] = v at f
  cases v <;> simp [fits] at f ⊢
/-- the byte that i2b leaves of a char -/
def lo8 (x : Int32) : Int32 := x.toInt8.toInt32
theorem fits_lo8 (y : Int32) : fits .byte (.int (lo8 y)) = true := by
  have h1 := y.toInt8.le_toInt
  have h2 := y.toInt8.toInt_lt
  simp only [lo8, fits, Bool.and_eq_true, decide_eq_true_eq, Int32.le_iff_toInt_le, Int8.toInt_toInt32, show (-128 : Int32).toInt = -128 from by decide, show (127 : Int32).toInt = 127 from by decide]
  omega
/-- A' is A but that each place j of lo .. hi - 1 holds f j -/
def Laid (A A' : Cell) (lo hi : Nat) (f : Nat → Value) : Prop := A'.cls = A.cls ∧ A'.vm = A.vm ∧ A'.slots.size = A.slots.size ∧ ∀ i, A'.slots[i]? = if lo ≤ i ∧ i < hi then some (f i) else A.slots[i]?
theorem Laid.zero (A : Cell) (lo : Nat) (f : Nat → Value) : Laid A A lo (lo + 0) f := ⟨rfl, rfl, rfl, fun i => by rw [if_neg (by omega)]⟩
theorem Laid.step {A Ak : Cell} {lo k : Nat} {f : Nat → Value} {v : Value} (h : Laid A Ak lo k f) (hlo : lo ≤ k) (hk : k < Ak.slots.size) (hv : v = f k) : Laid A (Ak.setSlot k v) lo (k + 1) f := by
  refine ⟨h.1, h.2.1, by simpa [Cell.setSlot] using h.2.2.1, fun i => ?_⟩
  by_cases e : k = i
  · subst e; rw [Cell.slots_setSlot_self v hk, if_pos (by omega), hv]
  · rw [Cell.slots_setSlot_ne v e, h.2.2.2 i]
    by_cases q : lo ≤ i ∧ i < k
    · rw [if_pos q, if_pos (by omega)]
    · rw [if_neg q, if_neg (by omega)]
def U16 : String := "java/lang/StringUTF16"
namespace Cmp5
def yN : MethodName := ⟨"java/lang/StringUTF16", "compress", "([CI[BII)I"⟩
abbrev yB : ByteArray := jdk_52_method_21_code
theorem d0 : decode yB 0 = .ok (.iconst 0, 1) := by decide +kernel
theorem d1 : decode yB 1 = .ok (.istore 5, 2) := by decide +kernel
theorem d3 : decode yB 3 = .ok (.iload 5, 2) := by decide +kernel
theorem d5 : decode yB 5 = .ok (.iload 4, 2) := by decide +kernel
theorem d7 : decode yB 7 = .ok (.if_icmp (.ge) 37, 3) := by decide +kernel
theorem d10 : decode yB 10 = .ok (.aload_n 0, 1) := by decide +kernel
theorem d11 : decode yB 11 = .ok (.iload_n 1, 1) := by decide +kernel
theorem d12 : decode yB 12 = .ok (.caload, 1) := by decide +kernel
theorem d13 : decode yB 13 = .ok (.istore 6, 2) := by decide +kernel
theorem d15 : decode yB 15 = .ok (.iload 6, 2) := by decide +kernel
theorem d17 : decode yB 17 = .ok (.sipush 255, 3) := by decide +kernel
theorem d20 : decode yB 20 = .ok (.if_icmp (.le) 6, 3) := by decide +kernel
theorem d26 : decode yB 26 = .ok (.aload_n 2, 1) := by decide +kernel
theorem d27 : decode yB 27 = .ok (.iload_n 3, 1) := by decide +kernel
theorem d28 : decode yB 28 = .ok (.iload 6, 2) := by decide +kernel
theorem d30 : decode yB 30 = .ok (.i2b, 1) := by decide +kernel
theorem d31 : decode yB 31 = .ok (.bastore, 1) := by decide +kernel
theorem d32 : decode yB 32 = .ok (.iinc 1 1, 3) := by decide +kernel
theorem d35 : decode yB 35 = .ok (.iinc 3 1, 3) := by decide +kernel
theorem d38 : decode yB 38 = .ok (.iinc 5 1, 3) := by decide +kernel
theorem d41 : decode yB 41 = .ok (.goto (-38), 3) := by decide +kernel
theorem d44 : decode yB 44 = .ok (.iload 4, 2) := by decide +kernel
theorem d46 : decode yB 46 = .ok (.ireturn, 1) := by decide +kernel
def site : List Cond := []
def tab : Cond := tabOf yN yB 7 (some .int) site
def P (b : Addr) (A : Cell) (d : Addr) (B : Cell) (o q len : Nat) (args : Array Value) (s : State) : Prop := args = #[.ref b, .int (Int32.ofNat o), .ref d, .int (Int32.ofNat q), .int (Int32.ofNat len)] ∧ Ch b A s ∧ Arr .byte d B s ∧ b ≠ d ∧ o + len ≤ A.slots.size ∧ q + len ≤ B.slots.size ∧ ∀ i, i < len → ¬ 255 < cv A (o + i)
def E (b : Addr) (A : Cell) (d : Addr) (B : Cell) (o q len : Nat) (r : Option Value) (s u : State) : Prop := r = some (.int (Int32.ofNat len)) ∧ ∃ B', Put d B' s u ∧ Laid B B' q (q + len) (fun j => Value.int (lo8 (cv A (o + (j - q)))))
/-- no char of the range above 255: len; the places written hold each char's low byte -/
theorem law (l : Launch) (b : Addr) (A : Cell) (d : Addr) (B : Cell) (o q len : Nat) : Law l yN 5 5 0 0 yB 7 (some .int) site (P b A d B o q len) (E b A d B o q len) (copyLocs d q len) 0 0 := by
  refine Law.of_walk (plainFor_of_name (by decide +kernel)) (by decide +kernel) (by decide +kernel) (by decide) (fun _ _ h => by rw [h.1]; rfl) (fun _ U U' hal hh h => ⟨h.1, h.2.1.mv hal hh, h.2.2.1.mv hal hh, h.2.2.2⟩) (fun r U U' V V' h1 hal h2 h => ⟨h.1, h.2.elim fun B' q => ⟨B', q.1.mv h1 h2, q.2⟩⟩) ?_
  intro p e s m args below meth c s₁ X0 hexec hbytes hml hret hlk hnm hown hh0 W hP
  obtain ⟨rfl, hA, hB, hne, l1, l2, hp⟩ := hP
  have c1 : Steps p.tables e below (s₁.setTop (entryFrame m #[.ref b, .int (Int32.ofNat o), .ref d, .int (Int32.ofNat q), .int (Int32.ofNat len)] 7)) (s₁.setTop (mkF m 0 #[.val (.ref b), .val (.int (Int32.ofNat o)), .val (.ref d), .val (.int (Int32.ofNat q)), .val (.int (Int32.ofNat len)), .unset, .unset] [])) := entry rfl
  have hA0 := hA.1.mv X0.warmed.alike hh0
  have hB0 := hB.mv X0.warmed.alike hh0
  have a31 := hA.1.2.2.2
  have c2 : Steps p.tables e below (s₁.setTop (entryFrame m #[.ref b, .int (Int32.ofNat o), .ref d, .int (Int32.ofNat q), .int (Int32.ofNat len)] 7)) (s₁.setTop (mkF m 3 #[.val (.ref b), .val (.int (Int32.ofNat o)), .val (.ref d), .val (.int (Int32.ofNat q)), .val (.int (Int32.ofNat len)), .val (.int 0), .unset] [])) := c1.trans (by
    refine iconstV X0.here hexec rfl 0 (hb hbytes d0) (by decide) ?_
    refine XS.istore X0.here hexec rfl (hb hbytes d1) rfl rfl ?_
    exact Steps.refl _)
  have loop : ∀ (r i : Nat), i + r = len → ∀ (z : Slot), (z = .unset ∨ ∃ w, z = .val w ∧ w.category = 1) → ∀ (Tl : State) (Bk : Cell), Stand p l e { frames := 0, locals := 0, cells := 0, slots := 0 } s m #[.ref b, .int (Int32.ofNat o), .ref d, .int (Int32.ofNat q), .int (Int32.ofNat len)] below meth c Tl ([] ++ copyLocs d q i) 0 0 → Put d Bk s₁ Tl → Laid B Bk q (q + i) (fun j => Value.int (lo8 (cv A (o + (j - q))))) →
      Steps p.tables e below (s₁.setTop (entryFrame m #[.ref b, .int (Int32.ofNat o), .ref d, .int (Int32.ofNat q), .int (Int32.ofNat len)] 7)) (Tl.setTop (mkF m 3 #[.val (.ref b), .val (.int (Int32.ofNat (o + i))), .val (.ref d), .val (.int (Int32.ofNat (q + i))), .val (.int (Int32.ofNat len)), .val (.int (Int32.ofNat i)), z] [])) → ∃ (T' : State) (B' : Cell) (z' : Slot), Stand p l e { frames := 0, locals := 0, cells := 0, slots := 0 } s m #[.ref b, .int (Int32.ofNat o), .ref d, .int (Int32.ofNat q), .int (Int32.ofNat len)] below meth c T' ([] ++ copyLocs d q len) 0 0 ∧ Put d B' s₁ T' ∧ Laid B B' q (q + len) (fun j => Value.int (lo8 (cv A (o + (j - q))))) ∧
      Steps p.tables e below (s₁.setTop (entryFrame m #[.ref b, .int (Int32.ofNat o), .ref d, .int (Int32.ofNat q), .int (Int32.ofNat len)] 7)) (T'.setTop (mkF m 3 #[.val (.ref b), .val (.int (Int32.ofNat (o + len))), .val (.ref d), .val (.int (Int32.ofNat (q + len))), .val (.int (Int32.ofNat len)), .val (.int (Int32.ofNat len)), z'] [])) := by
    intro r
    induction r with
    | zero =>
      intro i hi z hz Tl Bk Xl pl fl cl
      have hil : i = len := by omega
      rw [hil] at Xl fl cl
      exact ⟨Tl, Bk, z, Xl, pl, fl, cl⟩
    | succ r ih =>
      intro i hi z hz Tl Bk Xl pl fl cl
      have all := X0.warmed.alike.symm.trans Xl.warmed.alike
      have hAl := hA0.keep all (pl.other hne hA0.1)
      have hBk := hB0.like all pl.1 fl.1 fl.2.1 fl.2.2.1
      have hlt : q + i < Bk.slots.size := by rw [fl.2.2.1]; omega
      have c3 : Steps p.tables e below (s₁.setTop (entryFrame m #[.ref b, .int (Int32.ofNat o), .ref d, .int (Int32.ofNat q), .int (Int32.ofNat len)] 7)) (Tl.setTop (mkF m 12 #[.val (.ref b), .val (.int (Int32.ofNat (o + i))), .val (.ref d), .val (.int (Int32.ofNat (q + i))), .val (.int (Int32.ofNat len)), .val (.int (Int32.ofNat i)), z] [.int (Int32.ofNat (o + i)), .ref b])) := cl.trans (by
        refine XS.iload Xl.here hexec rfl (hb hbytes d3) rfl ?_
        refine XS.iload Xl.here hexec rfl (hb hbytes d5) rfl ?_
        refine XS.icmpNo Xl.here hexec rfl (hb hbytes d7) rfl (ii_ge_f (lt32 (by omega) (by omega))) ?_
        refine XS.aloadN Xl.here hexec rfl (hb hbytes d10) rfl rfl ?_
        refine XS.iloadN Xl.here hexec rfl (hb hbytes d11) rfl ?_
        exact Steps.refl _)
      have c4 : Steps p.tables e below (s₁.setTop (entryFrame m #[.ref b, .int (Int32.ofNat o), .ref d, .int (Int32.ofNat q), .int (Int32.ofNat len)] 7)) (Tl.setTop (mkF m 13 #[.val (.ref b), .val (.int (Int32.ofNat (o + i))), .val (.ref d), .val (.int (Int32.ofNat (q + i))), .val (.int (Int32.ofNat len)), .val (.int (Int32.ofNat i)), z] [.int (cv A (o + i))])) := c3.trans (by
        refine Xl.aget hexec hAl rfl (hA.get (i := o + i) (by omega)) rfl rfl (hb hbytes d12) ?_
        exact Steps.refl _)
      have c5 : Steps p.tables e below (s₁.setTop (entryFrame m #[.ref b, .int (Int32.ofNat o), .ref d, .int (Int32.ofNat q), .int (Int32.ofNat len)] 7)) (Tl.setTop (mkF m 15 #[.val (.ref b), .val (.int (Int32.ofNat (o + i))), .val (.ref d), .val (.int (Int32.ofNat (q + i))), .val (.int (Int32.ofNat len)), .val (.int (Int32.ofNat i)), .val (.int (cv A (o + i)))] [])) := c4.trans (by
        refine XS.istoreS Xl.here hexec rfl (hb hbytes d13) rfl rfl hz ?_
        exact Steps.refl _)
      have c6 : Steps p.tables e below (s₁.setTop (entryFrame m #[.ref b, .int (Int32.ofNat o), .ref d, .int (Int32.ofNat q), .int (Int32.ofNat len)] 7)) (Tl.setTop (mkF m 31 #[.val (.ref b), .val (.int (Int32.ofNat (o + i))), .val (.ref d), .val (.int (Int32.ofNat (q + i))), .val (.int (Int32.ofNat len)), .val (.int (Int32.ofNat i)), .val (.int (cv A (o + i)))] [.int (lo8 (cv A (o + i))), .int (Int32.ofNat (q + i)), .ref d])) := c5.trans (by
        refine XS.iload Xl.here hexec rfl (hb hbytes d15) rfl ?_
        refine sipushV Xl.here hexec rfl 255 (hb hbytes d17) (by decide) ?_
        refine XS.icmpYes Xl.here hexec rfl (pc0 := 20) rfl (hb hbytes d20) rfl (ii_le_t (hp i (by omega))) (by decide) rfl ?_
        refine XS.aloadN Xl.here hexec rfl (hb hbytes d26) rfl rfl ?_
        refine XS.iloadN Xl.here hexec rfl (hb hbytes d27) rfl ?_
        refine XS.iload Xl.here hexec rfl (hb hbytes d28) rfl ?_
        refine i2b Xl.here hexec rfl (hb hbytes d30) rfl ?_
        exact Steps.refl _)
      obtain ⟨T7, X7, p7, st7⟩ := Xl.aput hexec hBk rfl hlt rfl (fits_lo8 (cv A (o + i))) (g := (mkF m 31 #[.val (.ref b), .val (.int (Int32.ofNat (o + i))), .val (.ref d), .val (.int (Int32.ofNat (q + i))), .val (.int (Int32.ofNat len)), .val (.int (Int32.ofNat i)), .val (.int (cv A (o + i)))] [.int (lo8 (cv A (o + i))), .int (Int32.ofNat (q + i)), .ref d])) rfl (rest := []) rfl (hb hbytes d31)
      have c8 : Steps p.tables e below (s₁.setTop (entryFrame m #[.ref b, .int (Int32.ofNat o), .ref d, .int (Int32.ofNat q), .int (Int32.ofNat len)] 7)) (T7.setTop (mkF m 32 #[.val (.ref b), .val (.int (Int32.ofNat (o + i))), .val (.ref d), .val (.int (Int32.ofNat (q + i))), .val (.int (Int32.ofNat len)), .val (.int (Int32.ofNat i)), .val (.int (cv A (o + i)))] [])) := c6.trans (st7 _ (Steps.refl _))
      have c9 : Steps p.tables e below (s₁.setTop (entryFrame m #[.ref b, .int (Int32.ofNat o), .ref d, .int (Int32.ofNat q), .int (Int32.ofNat len)] 7)) (T7.setTop (mkF m 3 #[.val (.ref b), .val (.int (Int32.ofNat (o + i) + 1)), .val (.ref d), .val (.int (Int32.ofNat (q + i) + 1)), .val (.int (Int32.ofNat len)), .val (.int (Int32.ofNat i + 1)), .val (.int (cv A (o + i)))] [])) := c8.trans (by
        refine iincV X7.here hexec rfl 1 (hb hbytes d32) (by decide) rfl rfl ?_
        refine iincV X7.here hexec rfl 1 (hb hbytes d35) (by decide) rfl rfl ?_
        refine iincV X7.here hexec rfl 1 (hb hbytes d38) (by decide) rfl rfl ?_
        refine XS.goto X7.here hexec rfl (pc0 := 41) rfl (hb hbytes d41) (by decide) rfl ?_
        exact Steps.refl _)
      have c10 : Steps p.tables e below (s₁.setTop (entryFrame m #[.ref b, .int (Int32.ofNat o), .ref d, .int (Int32.ofNat q), .int (Int32.ofNat len)] 7)) (T7.setTop (mkF m 3 #[.val (.ref b), .val (.int (Int32.ofNat (o + (i + 1)))), .val (.ref d), .val (.int (Int32.ofNat (q + (i + 1)))), .val (.int (Int32.ofNat len)), .val (.int (Int32.ofNat (i + 1))), .val (.int (cv A (o + i)))] [])) := by
        have := c9
        rw [succ32, succ32, succ32] at this
        exact this
      exact ih (i + 1) (by omega) _ (Or.inr ⟨_, rfl, rfl⟩) T7 _ (by rw [copyLocs_step, ← List.append_assoc]; exact X7) (pl.trans p7) (fl.step (by omega) hlt (by simp)) c10
  obtain ⟨T9, B9, z9, X9, p9, f9, g9⟩ := loop len 0 (by omega) .unset (Or.inl rfl) s₁ B (by simpa [copyLocs] using X0) ⟨hB0.1, fun _ _ => rfl, rfl⟩ (Laid.zero _ _ _) c2
  have c11 : Steps p.tables e below (s₁.setTop (entryFrame m #[.ref b, .int (Int32.ofNat o), .ref d, .int (Int32.ofNat q), .int (Int32.ofNat len)] 7)) (T9.setTop (mkF m 46 #[.val (.ref b), .val (.int (Int32.ofNat (o + len))), .val (.ref d), .val (.int (Int32.ofNat (q + len))), .val (.int (Int32.ofNat len)), .val (.int (Int32.ofNat len)), z9] [.int (Int32.ofNat len)])) := g9.trans (by
    refine XS.iload X9.here hexec rfl (hb hbytes d3) rfl ?_
    refine XS.iload X9.here hexec rfl (hb hbytes d5) rfl ?_
    refine XS.icmpYes X9.here hexec rfl (pc0 := 7) rfl (hb hbytes d7) rfl (ii_ge_t (nlt32 (by omega) (Nat.le_refl _))) (by decide) rfl ?_
    refine XS.iload X9.here hexec rfl (hb hbytes d44) rfl ?_
    exact Steps.refl _)
  exact ⟨T9, some (.int (Int32.ofNat len)), _, _, _, X9, by simp, rfl, rfl, (fun h => by cases h), ⟨rfl, B9, p9.from hh0, f9⟩, fun fs hl => c11.trans (X9.ireturnOut hexec hret rfl (Or.inl rfl) (hb hbytes d46) hl)⟩
end Cmp5
namespace Cmp3
def yN : MethodName := ⟨"java/lang/StringUTF16", "compress", "([CII)[B"⟩
abbrev yB : ByteArray := jdk_52_method_16_code
theorem d0 : decode yB 0 = .ok (.iload_n 2, 1) := by decide +kernel
theorem d1 : decode yB 1 = .ok (.newarray .byte, 2) := by decide +kernel
theorem d3 : decode yB 3 = .ok (.astore_n 3, 1) := by decide +kernel
theorem d4 : decode yB 4 = .ok (.aload_n 0, 1) := by decide +kernel
theorem d5 : decode yB 5 = .ok (.iload_n 1, 1) := by decide +kernel
theorem d6 : decode yB 6 = .ok (.aload_n 3, 1) := by decide +kernel
theorem d7 : decode yB 7 = .ok (.iconst 0, 1) := by decide +kernel
theorem d8 : decode yB 8 = .ok (.iload_n 2, 1) := by decide +kernel
theorem d9 : decode yB 9 = .ok (.invokestatic 115, 3) := by decide +kernel
theorem d12 : decode yB 12 = .ok (.istore 4, 2) := by decide +kernel
theorem d14 : decode yB 14 = .ok (.iload 4, 2) := by decide +kernel
theorem d16 : decode yB 16 = .ok (.iload_n 2, 1) := by decide +kernel
theorem d17 : decode yB 17 = .ok (.if_icmp (.eq) 40, 3) := by decide +kernel
theorem d57 : decode yB 57 = .ok (.aload_n 3, 1) := by decide +kernel
theorem d58 : decode yB 58 = .ok (.areturn, 1) := by decide +kernel
def site : List Cond := [.arrayClass .byte, Cmp5.tab] ++ staticW U16 115 Cmp5.yN
def tab : Cond := tabOf yN yB 6 (some (.array .byte)) site
def P (b : Addr) (A : Cell) (o len : Nat) (args : Array Value) (s : State) : Prop := args = #[.ref b, .int (Int32.ofNat o), .int (Int32.ofNat len)] ∧ Ch b A s ∧ o + len ≤ A.slots.size ∧ len ≤ 536870912 ∧ ∀ i, i < len → ¬ 255 < cv A (o + i)
def E (b : Addr) (A : Cell) (o len : Nat) (r : Option Value) (s u : State) : Prop := NewArr .byte "[B" len (fun j => .int (lo8 (cv A (o + j)))) r s u ∧ u.heap.size = s.heap.size + 1
/-- no char of the range above 255: a new byte[] of their low bytes -/
theorem law (l : Launch) (b : Addr) (A : Cell) (o len : Nat) : Law l yN 3 3 1 18 yB 6 (some (.array .byte)) site (P b A o len) (E b A o len) [] 1 len := by
  refine Law.of_walk (plainFor_of_name (by decide +kernel)) (by decide +kernel) (by decide +kernel) (by decide) (fun _ _ h => by rw [h.1]; rfl) (fun _ U U' hal hh h => ⟨h.1, h.2.1.mv hal hh, h.2.2⟩) (fun r U U' V V' h1 hal h2 h => ⟨NewArr.mv r U U' V V' h1 hal h2 h.1, by rw [h1, h2]; exact h.2⟩) ?_
  intro p e s m args below meth c s₁ X0 hexec hbytes hml hret hlk hnm hown hh0 W hP
  obtain ⟨rfl, hA, l1, l2, hp⟩ := hP
  have a31 := hA.1.2.2.2
  have c1 : Steps p.tables e below (s₁.setTop (entryFrame m #[.ref b, .int (Int32.ofNat o), .int (Int32.ofNat len)] 6)) (s₁.setTop (mkF m 0 #[.val (.ref b), .val (.int (Int32.ofNat o)), .val (.int (Int32.ofNat len)), .unset, .unset, .unset] [])) := entry rfl
  have c2 : Steps p.tables e below (s₁.setTop (entryFrame m #[.ref b, .int (Int32.ofNat o), .int (Int32.ofNat len)] 6)) (s₁.setTop (mkF m 1 #[.val (.ref b), .val (.int (Int32.ofNat o)), .val (.int (Int32.ofNat len)), .unset, .unset, .unset] [.int (Int32.ofNat len)])) := c1.trans (by
    refine XS.iloadN X0.here hexec rfl (hb hbytes d0) rfl ?_
    exact Steps.refl _)
  obtain ⟨T3, B3, X3, ba3, bs3, bv3, bh3, bf3, st3⟩ := X0.anew hexec (atype := .byte) (wk W (.arrayClass .byte)) rfl (by show len * 1 ≤ _; omega) (by omega) (g := (mkF m 1 #[.val (.ref b), .val (.int (Int32.ofNat o)), .val (.int (Int32.ofNat len)), .unset, .unset, .unset] [.int (Int32.ofNat len)])) rfl (hb hbytes d1) (rest := []) rfl (Nat.le_refl _) (by show 0 + len ≤ len; omega)
  rw [hh0] at ba3 st3
  have kp3 : XT.Kept s T3 := (XT.Kept.of_eq hh0).push bh3
  have hA3 := hA.keep X3.warmed.alike (kp3 _ _ hA.1.1)
  have hne : b ≠ s.heap.size := hA.1.ne
  have c4 : Steps p.tables e below (s₁.setTop (entryFrame m #[.ref b, .int (Int32.ofNat o), .int (Int32.ofNat len)] 6)) (T3.setTop (mkF m 3 #[.val (.ref b), .val (.int (Int32.ofNat o)), .val (.int (Int32.ofNat len)), .unset, .unset, .unset] [.ref s.heap.size])) := c2.trans (st3 _ (Steps.refl _))
  have c5 : Steps p.tables e below (s₁.setTop (entryFrame m #[.ref b, .int (Int32.ofNat o), .int (Int32.ofNat len)] 6)) (T3.setTop (mkF m 9 #[.val (.ref b), .val (.int (Int32.ofNat o)), .val (.int (Int32.ofNat len)), .val (.ref s.heap.size), .unset, .unset] [.int (Int32.ofNat len), .int 0, .ref s.heap.size, .int (Int32.ofNat o), .ref b])) := c4.trans (by
    refine XS.astoreN X3.here hexec rfl (hb hbytes d3) rfl rfl rfl ?_
    refine XS.aloadN X3.here hexec rfl (hb hbytes d4) rfl rfl ?_
    refine XS.iloadN X3.here hexec rfl (hb hbytes d5) rfl ?_
    refine XS.aloadN X3.here hexec rfl (hb hbytes d6) rfl rfl ?_
    refine iconstV X3.here hexec rfl 0 (hb hbytes d7) (by decide) ?_
    refine XS.iloadN X3.here hexec rfl (hb hbytes d8) rfl ?_
    exact Steps.refl _)
  obtain ⟨v6, T6, X6, E6, g6⟩ := X3.callS hexec (Cmp5.law l b A s.heap.size B3 o 0 len) hown (wks W (staticW U16 115 Cmp5.yN)) (wk W Cmp5.tab) (W := 0) (Nat.le_of_ble_eq_true rfl) (Nat.le_of_ble_eq_true rfl) (Nat.le_refl _) (by show 0 + len + 0 ≤ len; omega) (g := (mkF m 9 #[.val (.ref b), .val (.int (Int32.ofNat o)), .val (.int (Int32.ofNat len)), .val (.ref s.heap.size), .unset, .unset] [.int (Int32.ofNat len), .int (Int32.ofNat 0), .ref s.heap.size, .int (Int32.ofNat o), .ref b])) rfl (by rw [hml]; rfl) c5 (argsL := [.ref b, .int (Int32.ofNat o), .ref s.heap.size, .int (Int32.ofNat 0), .int (Int32.ofNat len)]) (rest := []) rfl rfl (by show 2 * 0 + 0 ≤ _; decide) (hb hbytes d9) (⟨rfl, hA3, ba3, hne, l1, by rw [bs3]; simp, hp⟩)
  obtain ⟨rfl, B6, p6, f6⟩ := E6
  have c7 : Steps p.tables e below (s₁.setTop (entryFrame m #[.ref b, .int (Int32.ofNat o), .int (Int32.ofNat len)] 6)) (T6.setTop (mkF m 12 #[.val (.ref b), .val (.int (Int32.ofNat o)), .val (.int (Int32.ofNat len)), .val (.ref s.heap.size), .unset, .unset] [.int (Int32.ofNat len)])) := g6
  have c8 : Steps p.tables e below (s₁.setTop (entryFrame m #[.ref b, .int (Int32.ofNat o), .int (Int32.ofNat len)] 6)) (T6.setTop (mkF m 58 #[.val (.ref b), .val (.int (Int32.ofNat o)), .val (.int (Int32.ofNat len)), .val (.ref s.heap.size), .val (.int (Int32.ofNat len)), .unset] [.ref s.heap.size])) := c7.trans (by
    refine XS.istore X6.here hexec rfl (hb hbytes d12) rfl rfl ?_
    refine XS.iload X6.here hexec rfl (hb hbytes d14) rfl ?_
    refine XS.iloadN X6.here hexec rfl (hb hbytes d16) rfl ?_
    refine XS.icmpYes X6.here hexec rfl (pc0 := 17) rfl (hb hbytes d17) rfl (ii_eq_t rfl) (by decide) rfl ?_
    refine XS.aloadN X6.here hexec rfl (hb hbytes d57) rfl rfl ?_
    exact Steps.refl _)
  have X8 := X6.wide (L' := []) (cells' := 1) (slots' := len) (fun x hx hlt => by
    simp only [List.nil_append, copyLocs, List.mem_map, List.mem_range] at hx
    obtain ⟨i, -, rfl⟩ := hx
    exact absurd hlt (Nat.lt_irrefl _)) (Nat.le_refl _) (by omega)
  exact ⟨T6, some (.ref s.heap.size), _, _, _, X8, rfl, rfl, rfl, (fun h => by cases h), ⟨⟨rfl, B6, ba3.like (X3.warmed.alike.symm.trans X6.warmed.alike) p6.1 f6.1 f6.2.1 f6.2.2.1, f6.2.1.trans bv3, by rw [X6.warmed.alike.findClass, f6.1]; exact bf3, by rw [f6.2.2.1, bs3]; simp, fun j hj => by rw [f6.2.2.2 j, if_pos (by omega)]; rfl, kp3.put p6 (Nat.le_refl _)⟩, by rw [p6.2.2, bh3, hh0]; simp⟩, fun fs hl => c8.trans (X8.areturnOut hexec rfl hret rfl (hb hbytes d58) hl)⟩
end Cmp3
namespace CodL
def yN : MethodName := ⟨"java/lang/StringUTF16", "coderFromArrayLen", "([BI)B"⟩
abbrev yB : ByteArray := jdk_52_method_15_code
theorem d0 : decode yB 0 = .ok (.iload_n 1, 1) := by decide +kernel
theorem d1 : decode yB 1 = .ok (.aload_n 0, 1) := by decide +kernel
theorem d2 : decode yB 2 = .ok (.arraylength, 1) := by decide +kernel
theorem d3 : decode yB 3 = .ok (.isub, 1) := by decide +kernel
theorem d4 : decode yB 4 = .ok (.bipush 31, 2) := by decide +kernel
theorem d6 : decode yB 6 = .ok (.iushr, 1) := by decide +kernel
theorem d7 : decode yB 7 = .ok (.i2b, 1) := by decide +kernel
theorem d8 : decode yB 8 = .ok (.ireturn, 1) := by decide +kernel
def site : List Cond := []
def tab : Cond := tabOf yN yB 2 (some .byte) site
def P (d : Addr) (B : Cell) (args : Array Value) (s : State) : Prop := args = #[.ref d, .int (Int32.ofNat B.slots.size)] ∧ Arr .byte d B s
def E (r : Option Value) (s u : State) : Prop := XT.PureE (some (.int 0)) r s u
/-- an array as long as the number of chars: LATIN1 -/
theorem law (l : Launch) (d : Addr) (B : Cell) : Law l yN 2 2 0 0 yB 2 (some .byte) site (P d B) E [] 0 0 := by
  refine Law.of_walk (plainFor_of_name (by decide +kernel)) (by decide +kernel) (by decide +kernel) (by decide) (fun _ _ h => by rw [h.1]; rfl) (fun _ U U' hal hh h => ⟨h.1, h.2.mv hal hh⟩) (fun r U U' V V' h1 hal h2 h => XT.PureE.mv r U U' V V' h1 hal h2 h) ?_
  intro p e s m args below meth c s₁ X0 hexec hbytes hml hret hlk hnm hown hh0 W hP
  obtain ⟨rfl, hB⟩ := hP
  have hB0 := hB.mv X0.warmed.alike hh0
  have c1 : Steps p.tables e below (s₁.setTop (entryFrame m #[.ref d, .int (Int32.ofNat B.slots.size)] 2)) (s₁.setTop (mkF m 0 #[.val (.ref d), .val (.int (Int32.ofNat B.slots.size))] [])) := entry rfl
  have c2 : Steps p.tables e below (s₁.setTop (entryFrame m #[.ref d, .int (Int32.ofNat B.slots.size)] 2)) (s₁.setTop (mkF m 2 #[.val (.ref d), .val (.int (Int32.ofNat B.slots.size))] [.ref d, .int (Int32.ofNat B.slots.size)])) := c1.trans (by
    refine XS.iloadN X0.here hexec rfl (hb hbytes d0) rfl ?_
    refine XS.aloadN X0.here hexec rfl (hb hbytes d1) rfl rfl ?_
    exact Steps.refl _)
  have c3 : Steps p.tables e below (s₁.setTop (entryFrame m #[.ref d, .int (Int32.ofNat B.slots.size)] 2)) (s₁.setTop (mkF m 8 #[.val (.ref d), .val (.int (Int32.ofNat B.slots.size))] [.int (lo8 (ushr (Int32.ofNat B.slots.size - Int32.ofNat B.slots.size) 31))])) := c2.trans (by
    refine X0.alen hexec hB0 rfl rfl (hb hbytes d2) ?_
    refine XS.isub X0.here hexec rfl (hb hbytes d3) rfl ?_
    refine bipushV X0.here hexec rfl 31 (hb hbytes d4) (by decide) ?_
    refine iushr X0.here hexec rfl (hb hbytes d6) rfl ?_
    refine i2b X0.here hexec rfl (hb hbytes d7) rfl ?_
    exact Steps.refl _)
  have e0 : lo8 (ushr (Int32.ofNat B.slots.size - Int32.ofNat B.slots.size) 31) = 0 := by rw [Int32.sub_self]; decide
  rw [e0] at c3
  exact ⟨s₁, some (.int 0), _, _, _, X0, rfl, rfl, rfl, (fun h => by cases h), ⟨rfl, hh0⟩, fun fs hl => c3.trans (X0.ireturnOut hexec hret rfl (Or.inr (Or.inr (Or.inl rfl))) (hb hbytes d8) hl)⟩
end CodL
/-- the String at a is Latin-1 over a new byte[] (the heap's one new cell): the low bytes of the len chars of A from o on; every cell but a is kept -/
def Got (a : Addr) (D : Cell) (fV fC : Field) (A : Cell) (o len : Nat) (r : Option Value) (s u : State) : Prop := r = none ∧ ∃ D' V : Cell, Blank "java/lang/String" a D' u ∧ Same D D' [fV.slot, fC.slot] ∧ D'.slots[fV.slot]? = some (.ref s.heap.size) ∧ D'.slots[fC.slot]? = some (.int 0) ∧ Arr .byte s.heap.size V u ∧ V.vm = .none ∧ u.vm.findClass "[B" = some V.cls ∧ V.slots.size = len ∧ (∀ j, j < len → V.slots[j]? = some (.int (lo8 (cv A (o + j))))) ∧ (∀ (y : Addr) (c : Cell), y ≠ a → s.heap[y]? = some c → u.heap[y]? = some c) ∧ u.heap.size = s.heap.size + 1
theorem Got.mv {a : Addr} {D A : Cell} {fV fC : Field} {o len : Nat} : ∀ r (U U' V V' : State), U'.heap = U.heap → V.vm.Alike V'.vm → V'.heap = V.heap → Got a D fV fC A o len r U V → Got a D fV fC A o len r U' V' :=
  fun r U U' V V' h1 hal h2 ⟨e0, D', X, a1, a2, a3, a4, a5, a6, a7, a8, a9, a10, a11⟩ => ⟨e0, D', X, a1.mv hal h2, a2, by rw [h1]; exact a3, a4, by rw [h1]; exact a5.mv hal h2, a6, by rw [hal.findClass]; exact a7, a8, a9, by rw [h1, h2]; exact a10, by rw [h1, h2]; exact a11⟩
namespace New4
def yN : MethodName := ⟨"java/lang/String", "<init>", "([CIILjava/lang/Void;)V"⟩
abbrev yB : ByteArray := jdk_42_method_149_code
theorem d0 : decode yB 0 = .ok (.aload_n 0, 1) := by decide +kernel
theorem d1 : decode yB 1 = .ok (.invokespecial 1, 3) := by decide +kernel
theorem d4 : decode yB 4 = .ok (.iload_n 3, 1) := by decide +kernel
theorem d5 : decode yB 5 = .ok (.ifCond (.ne) 22, 3) := by decide +kernel
theorem d27 : decode yB 27 = .ok (.getstatic 38, 3) := by decide +kernel
theorem d30 : decode yB 30 = .ok (.ifCond (.eq) 28, 3) := by decide +kernel
theorem d33 : decode yB 33 = .ok (.aload_n 1, 1) := by decide +kernel
theorem d34 : decode yB 34 = .ok (.iload_n 2, 1) := by decide +kernel
theorem d35 : decode yB 35 = .ok (.iload_n 3, 1) := by decide +kernel
theorem d36 : decode yB 36 = .ok (.invokestatic 177, 3) := by decide +kernel
theorem d39 : decode yB 39 = .ok (.astore 5, 2) := by decide +kernel
theorem d41 : decode yB 41 = .ok (.aload_n 0, 1) := by decide +kernel
theorem d42 : decode yB 42 = .ok (.aload 5, 2) := by decide +kernel
theorem d44 : decode yB 44 = .ok (.iload_n 3, 1) := by decide +kernel
theorem d45 : decode yB 45 = .ok (.invokestatic 47, 3) := by decide +kernel
theorem d48 : decode yB 48 = .ok (.putfield 15, 3) := by decide +kernel
theorem d51 : decode yB 51 = .ok (.aload_n 0, 1) := by decide +kernel
theorem d52 : decode yB 52 = .ok (.aload 5, 2) := by decide +kernel
theorem d54 : decode yB 54 = .ok (.putfield 9, 3) := by decide +kernel
theorem d57 : decode yB 57 = .ok (.return_, 1) := by decide +kernel
def site : List Cond := [.fieldLink "java/lang/String" 38 "java/lang/String" "COMPACT_STRINGS" "Z", Cmp3.tab, CodL.tab, .laysFinal "java/lang/String" "java/lang/String" "value" "[B", .fieldLink "java/lang/String" 9 "java/lang/String" "value" "[B", .laysFinal "java/lang/String" "java/lang/String" "coder" "B", .fieldLink "java/lang/String" 15 "java/lang/String" "coder" "B"] ++ objW "java/lang/String" 1 ++ staticW "java/lang/String" 177 Cmp3.yN ++ staticW "java/lang/String" 47 CodL.yN
def tab : Cond := tabOf yN yB 6 none site
def P (a : Addr) (D : Cell) (fV fC : Field) (b : Addr) (A : Cell) (z : Int32) (o len : Nat) (args : Array Value) (s : State) : Prop := args = #[.ref a, .ref b, .int (Int32.ofNat o), .int (Int32.ofNat len), .null] ∧ Blank "java/lang/String" a D s ∧ Found "java/lang/String" "value" "[B" fV s ∧ Found "java/lang/String" "coder" "B" fC s ∧ Ch b A s ∧ StaticIs s "java/lang/String" "COMPACT_STRINGS" "Z" (.int z) ∧ ¬ z = 0 ∧ 0 < len ∧ o + len ≤ A.slots.size ∧ len ≤ 536870912 ∧ ∀ i, i < len → ¬ 255 < cv A (o + i)
def E (a : Addr) (D : Cell) (fV fC : Field) (A : Cell) (o len : Nat) (r : Option Value) (s u : State) : Prop := Got a D fV fC A o len r s u
/-- len > 0, no char of the range above 255: a Latin-1 String of their low bytes -/
theorem law (l : Launch) (a : Addr) (D : Cell) (fV fC : Field) (b : Addr) (A : Cell) (z : Int32) (o len : Nat) : Law l yN 5 4 2 35 yB 6 none site (P a D fV fC b A z o len) (E a D fV fC A o len) [⟨a, fC.slot⟩, ⟨a, fV.slot⟩] 1 len := by
  refine Law.of_walk (plainFor_of_name (by decide +kernel)) (by decide +kernel) (by decide +kernel) (by decide) (fun _ _ h => by rw [h.1]; rfl) (fun _ U U' hal hh h => ⟨h.1, h.2.1.mv hal hh, h.2.2.1.al hal, h.2.2.2.1.al hal, h.2.2.2.2.1.mv hal hh, h.2.2.2.2.2.1.there hal hh, h.2.2.2.2.2.2⟩) (fun r U U' V V' h1 hal h2 h => Got.mv r U U' V V' h1 hal h2 h) ?_
  intro p e s m args below meth c s₁ X0 hexec hbytes hml hret hlk hnm hown hh0 W hP
  obtain ⟨rfl, hB, f1, f2, hA, s1, hz, l0, l1, l2, hp⟩ := hP
  have a31 := hA.1.2.2.2
  have c1 : Steps p.tables e below (s₁.setTop (entryFrame m #[.ref a, .ref b, .int (Int32.ofNat o), .int (Int32.ofNat len), .null] 6)) (s₁.setTop (mkF m 0 #[.val (.ref a), .val (.ref b), .val (.int (Int32.ofNat o)), .val (.int (Int32.ofNat len)), .val .null, .unset] [])) := entry rfl
  have c2 : Steps p.tables e below (s₁.setTop (entryFrame m #[.ref a, .ref b, .int (Int32.ofNat o), .int (Int32.ofNat len), .null] 6)) (s₁.setTop (mkF m 1 #[.val (.ref a), .val (.ref b), .val (.int (Int32.ofNat o)), .val (.int (Int32.ofNat len)), .val .null, .unset] [.ref a])) := c1.trans (by
    refine XS.aloadN X0.here hexec rfl (hb hbytes d0) rfl rfl ?_
    exact Steps.refl _)
  obtain ⟨T3, X3, q3, st3⟩ := X0.oinit hexec hown (wks W (objW "java/lang/String" 1)) (g := (mkF m 1 #[.val (.ref a), .val (.ref b), .val (.int (Int32.ofNat o)), .val (.int (Int32.ofNat len)), .val .null, .unset] [.ref a])) rfl (by rw [hml]; rfl) (rest := []) rfl (hb hbytes d1) (W := 0) (by show 2 * 0 + 0 ≤ _; decide) (Nat.le_of_ble_eq_true rfl) (Nat.le_of_ble_eq_true rfl)
  have hh3 := q3.trans hh0
  have c4 : Steps p.tables e below (s₁.setTop (entryFrame m #[.ref a, .ref b, .int (Int32.ofNat o), .int (Int32.ofNat len), .null] 6)) (T3.setTop (mkF m 27 #[.val (.ref a), .val (.ref b), .val (.int (Int32.ofNat o)), .val (.int (Int32.ofNat len)), .val .null, .unset] [])) := (c2.trans (st3 _ (Steps.refl _))).trans (by
    refine XS.iloadN X3.here hexec rfl (hb hbytes d4) rfl ?_
    refine XS.ifYes X3.here hexec rfl (pc0 := 5) rfl (hb hbytes d5) rfl (i0_ne_t (nz32 (by omega) l0)) (by decide) rfl ?_
    exact Steps.refl _)
  obtain ⟨T5, X5, q5, st5⟩ := X3.sget hexec hown (wk W (.fieldLink "java/lang/String" 38 "java/lang/String" "COMPACT_STRINGS" "Z")) s1 (fun _ _ h => by rw [hh3]; exact h) (g := (mkF m 27 #[.val (.ref a), .val (.ref b), .val (.int (Int32.ofNat o)), .val (.int (Int32.ofNat len)), .val .null, .unset] [])) rfl (hb hbytes d27)
  have hh5 := q5.trans hh3
  have c6 : Steps p.tables e below (s₁.setTop (entryFrame m #[.ref a, .ref b, .int (Int32.ofNat o), .int (Int32.ofNat len), .null] 6)) (T5.setTop (mkF m 30 #[.val (.ref a), .val (.ref b), .val (.int (Int32.ofNat o)), .val (.int (Int32.ofNat len)), .val .null, .unset] [.int z])) := c4.trans (st5 _ (Steps.refl _))
  have c7 : Steps p.tables e below (s₁.setTop (entryFrame m #[.ref a, .ref b, .int (Int32.ofNat o), .int (Int32.ofNat len), .null] 6)) (T5.setTop (mkF m 36 #[.val (.ref a), .val (.ref b), .val (.int (Int32.ofNat o)), .val (.int (Int32.ofNat len)), .val .null, .unset] [.int (Int32.ofNat len), .int (Int32.ofNat o), .ref b])) := c6.trans (by
    refine XS.ifNo X5.here hexec rfl (hb hbytes d30) rfl (i0_eq_f hz) ?_
    refine XS.aloadN X5.here hexec rfl (hb hbytes d33) rfl rfl ?_
    refine XS.iloadN X5.here hexec rfl (hb hbytes d34) rfl ?_
    refine XS.iloadN X5.here hexec rfl (hb hbytes d35) rfl ?_
    exact Steps.refl _)
  obtain ⟨v8, T8, X8, E8, g8⟩ := X5.callS hexec (Cmp3.law l b A o len) hown (wks W (staticW "java/lang/String" 177 Cmp3.yN)) (wk W Cmp3.tab) (W := 0) (Nat.le_of_ble_eq_true rfl) (Nat.le_of_ble_eq_true rfl) (Nat.le_refl _) (by show 0 + len ≤ len; omega) (g := (mkF m 36 #[.val (.ref a), .val (.ref b), .val (.int (Int32.ofNat o)), .val (.int (Int32.ofNat len)), .val .null, .unset] [.int (Int32.ofNat len), .int (Int32.ofNat o), .ref b])) rfl (by rw [hml]; rfl) c7 (argsL := [.ref b, .int (Int32.ofNat o), .int (Int32.ofNat len)]) (rest := []) rfl rfl (by show 2 * 0 + 0 ≤ _; decide) (hb hbytes d36) (⟨rfl, hA.mv X5.warmed.alike hh5, l1, l2, hp⟩)
  obtain ⟨e8, z8⟩ := E8
  obtain ⟨rfl, N, n1, n2, n3, n4, n5, n6⟩ := NewArr.mv _ T5 s _ _ hh5.symm (Vm.Alike.refl _) rfl e8
  rw [hh5] at z8
  have hB1 := hB.keep X8.warmed.alike (n6 _ _ hB.1)
  have hne : s.heap.size ≠ a := (Nat.ne_of_lt (Array.getElem?_eq_some_iff.mp hB.1).1).symm
  have c9 : Steps p.tables e below (s₁.setTop (entryFrame m #[.ref a, .ref b, .int (Int32.ofNat o), .int (Int32.ofNat len), .null] 6)) (T8.setTop (mkF m 39 #[.val (.ref a), .val (.ref b), .val (.int (Int32.ofNat o)), .val (.int (Int32.ofNat len)), .val .null, .unset] [.ref s.heap.size])) := g8
  have c10 : Steps p.tables e below (s₁.setTop (entryFrame m #[.ref a, .ref b, .int (Int32.ofNat o), .int (Int32.ofNat len), .null] 6)) (T8.setTop (mkF m 45 #[.val (.ref a), .val (.ref b), .val (.int (Int32.ofNat o)), .val (.int (Int32.ofNat len)), .val .null, .val (.ref s.heap.size)] [.int (Int32.ofNat N.slots.size), .ref s.heap.size, .ref a])) := by
    have hc : Steps p.tables e below (s₁.setTop (entryFrame m #[.ref a, .ref b, .int (Int32.ofNat o), .int (Int32.ofNat len), .null] 6)) (T8.setTop (mkF m 45 #[.val (.ref a), .val (.ref b), .val (.int (Int32.ofNat o)), .val (.int (Int32.ofNat len)), .val .null, .val (.ref s.heap.size)] [.int (Int32.ofNat len), .ref s.heap.size, .ref a])) := c9.trans (by
      refine XS.astore X8.here hexec rfl (hb hbytes d39) rfl rfl rfl ?_
      refine XS.aloadN X8.here hexec rfl (hb hbytes d41) rfl rfl ?_
      refine XS.aload X8.here hexec rfl (hb hbytes d42) rfl rfl ?_
      refine XS.iloadN X8.here hexec rfl (hb hbytes d44) rfl ?_
      exact Steps.refl _)
    rw [n4]; exact hc
  obtain ⟨v11, T11, X11, E11, g11⟩ := X8.callS hexec (CodL.law l s.heap.size N) hown (wks W (staticW "java/lang/String" 47 CodL.yN)) (wk W CodL.tab) (W := 1) (Nat.le_of_ble_eq_true rfl) (Nat.le_of_ble_eq_true rfl) (Nat.le_refl _) (by show 0 + len + 0 ≤ len; omega) (g := (mkF m 45 #[.val (.ref a), .val (.ref b), .val (.int (Int32.ofNat o)), .val (.int (Int32.ofNat len)), .val .null, .val (.ref s.heap.size)] [.int (Int32.ofNat N.slots.size), .ref s.heap.size, .ref a])) rfl (by rw [hml]; rfl) c10 (argsL := [.ref s.heap.size, .int (Int32.ofNat N.slots.size)]) (rest := [.ref a]) rfl rfl (by show 2 * 0 + (1 + 0) ≤ _; decide) (hb hbytes d45) (⟨rfl, n1⟩)
  obtain ⟨rfl, q11⟩ := E11
  have hB11 := hB1.mv (X8.warmed.alike.symm.trans X11.warmed.alike) q11
  have c12 : Steps p.tables e below (s₁.setTop (entryFrame m #[.ref a, .ref b, .int (Int32.ofNat o), .int (Int32.ofNat len), .null] 6)) (T11.setTop (mkF m 48 #[.val (.ref a), .val (.ref b), .val (.int (Int32.ofNat o)), .val (.int (Int32.ofNat len)), .val .null, .val (.ref s.heap.size)] [.int 0, .ref a])) := g11
  obtain ⟨T13, X13, p13, bl13, sl13, st13⟩ := X11.finit hexec hown (wk W (.fieldLink "java/lang/String" 15 "java/lang/String" "coder" "B")) (Or.inr ⟨_, (wk W (.laysFinal "java/lang/String" "java/lang/String" "coder" "B"))⟩) (Or.inl ⟨rfl, hnm⟩) f2 (Or.inl rfl) hB11 (t := .byte) (by decide +kernel) rfl (g := (mkF m 48 #[.val (.ref a), .val (.ref b), .val (.int (Int32.ofNat o)), .val (.int (Int32.ofNat len)), .val .null, .val (.ref s.heap.size)] [.int 0, .ref a])) rfl (rest := []) rfl (hb hbytes d48)
  have c14 : Steps p.tables e below (s₁.setTop (entryFrame m #[.ref a, .ref b, .int (Int32.ofNat o), .int (Int32.ofNat len), .null] 6)) (T13.setTop (mkF m 54 #[.val (.ref a), .val (.ref b), .val (.int (Int32.ofNat o)), .val (.int (Int32.ofNat len)), .val .null, .val (.ref s.heap.size)] [.ref s.heap.size, .ref a])) := (c12.trans (st13 _ (Steps.refl _))).trans (by
    refine XS.aloadN X13.here hexec rfl (hb hbytes d51) rfl rfl ?_
    refine XS.aload X13.here hexec rfl (hb hbytes d52) rfl rfl ?_
    exact Steps.refl _)
  obtain ⟨T15, X15, p15, bl15, sl15, st15⟩ := X13.finit hexec hown (wk W (.fieldLink "java/lang/String" 9 "java/lang/String" "value" "[B")) (Or.inr ⟨_, (wk W (.laysFinal "java/lang/String" "java/lang/String" "value" "[B"))⟩) (Or.inl ⟨rfl, hnm⟩) f1 (Or.inl rfl) bl13 (t := (.array .byte)) (by decide +kernel) rfl (g := (mkF m 54 #[.val (.ref a), .val (.ref b), .val (.int (Int32.ofNat o)), .val (.int (Int32.ofNat len)), .val .null, .val (.ref s.heap.size)] [.ref s.heap.size, .ref a])) rfl (rest := []) rfl (hb hbytes d54)
  have c16 : Steps p.tables e below (s₁.setTop (entryFrame m #[.ref a, .ref b, .int (Int32.ofNat o), .int (Int32.ofNat len), .null] 6)) (T15.setTop (mkF m 57 #[.val (.ref a), .val (.ref b), .val (.int (Int32.ofNat o)), .val (.int (Int32.ofNat len)), .val .null, .val (.ref s.heap.size)] [])) := c14.trans (st15 _ (Steps.refl _))
  have ap := apart (Or.inr ⟨_, (wk W (.laysFinal "java/lang/String" "java/lang/String" "value" "[B"))⟩) (Or.inr ⟨_, (wk W (.laysFinal "java/lang/String" "java/lang/String" "coder" "B"))⟩) f1 f2 (t₁ := .array .byte) (t₂ := .byte) (by decide +kernel) (by decide +kernel) (by decide)
  have al := X8.warmed.alike.symm.trans X15.warmed.alike
  have n7 : T11.heap[s.heap.size]? = some N := by rw [q11]; exact n1.1
  exact ⟨T15, none, _, _, _, X15, by simp, rfl, by omega, (fun _ => rfl), ⟨rfl, _, N, bl15, ((Same.refl D _).set _ (by simp)).set _ (by simp), sl15, (Cell.slots_setSlot_ne _ ap).trans sl13, n1.keep al (p15.other hne (p13.other hne n7)), n2, by rw [al.findClass]; exact n3, n4, n5, fun y c h1 h2 => p15.other h1 (p13.other h1 (by rw [q11]; exact n6 y c h2)), by rw [p15.2.2, p13.2.2, q11]; exact z8⟩, fun fs hl => c16.trans (X15.returnOut hexec hret (hb hbytes d57) hl)⟩
end New4
namespace New1
def yN : MethodName := ⟨"java/lang/String", "<init>", "([C)V"⟩
abbrev yB : ByteArray := jdk_42_method_3_code
theorem d0 : decode yB 0 = .ok (.aload_n 0, 1) := by decide +kernel
theorem d1 : decode yB 1 = .ok (.aload_n 1, 1) := by decide +kernel
theorem d2 : decode yB 2 = .ok (.iconst 0, 1) := by decide +kernel
theorem d3 : decode yB 3 = .ok (.aload_n 1, 1) := by decide +kernel
theorem d4 : decode yB 4 = .ok (.arraylength, 1) := by decide +kernel
theorem d5 : decode yB 5 = .ok (.aconst_null, 1) := by decide +kernel
theorem d6 : decode yB 6 = .ok (.invokespecial 27, 3) := by decide +kernel
theorem d9 : decode yB 9 = .ok (.return_, 1) := by decide +kernel
def site : List Cond := [New4.tab] ++ initW "java/lang/String" 27 New4.yN
def tab : Cond := tabOf yN yB 2 none site
def P (a : Addr) (D : Cell) (fV fC : Field) (b : Addr) (A : Cell) (z : Int32) (args : Array Value) (s : State) : Prop := args = #[.ref a, .ref b] ∧ Blank "java/lang/String" a D s ∧ Found "java/lang/String" "value" "[B" fV s ∧ Found "java/lang/String" "coder" "B" fC s ∧ Ch b A s ∧ StaticIs s "java/lang/String" "COMPACT_STRINGS" "Z" (.int z) ∧ ¬ z = 0 ∧ 0 < A.slots.size ∧ A.slots.size ≤ 536870912 ∧ ∀ i, i < A.slots.size → ¬ 255 < cv A i
def E (a : Addr) (D : Cell) (fV fC : Field) (A : Cell) (r : Option Value) (s u : State) : Prop := Got a D fV fC A 0 A.slots.size r s u
/-- new String(chars), not empty, no char above 255: a Latin-1 String of their low bytes -/
theorem law (l : Launch) (a : Addr) (D : Cell) (fV fC : Field) (b : Addr) (A : Cell) (z : Int32) : Law l yN 2 1 3 52 yB 2 none site (P a D fV fC b A z) (E a D fV fC A) [⟨a, fC.slot⟩, ⟨a, fV.slot⟩] 1 A.slots.size := by
  refine Law.of_walk (plainFor_of_name (by decide +kernel)) (by decide +kernel) (by decide +kernel) (by decide) (fun _ _ h => by rw [h.1]; rfl) (fun _ U U' hal hh h => ⟨h.1, h.2.1.mv hal hh, h.2.2.1.al hal, h.2.2.2.1.al hal, h.2.2.2.2.1.mv hal hh, h.2.2.2.2.2.1.there hal hh, h.2.2.2.2.2.2⟩) (fun r U U' V V' h1 hal h2 h => Got.mv r U U' V V' h1 hal h2 h) ?_
  intro p e s m args below meth c s₁ X0 hexec hbytes hml hret hlk hnm hown hh0 W hP
  obtain ⟨rfl, hB, f1, f2, hA, s1, hz, l0, l2, hp⟩ := hP
  have c1 : Steps p.tables e below (s₁.setTop (entryFrame m #[.ref a, .ref b] 2)) (s₁.setTop (mkF m 0 #[.val (.ref a), .val (.ref b)] [])) := entry rfl
  have c2 : Steps p.tables e below (s₁.setTop (entryFrame m #[.ref a, .ref b] 2)) (s₁.setTop (mkF m 6 #[.val (.ref a), .val (.ref b)] [.null, .int (Int32.ofNat A.slots.size), .int 0, .ref b, .ref a])) := c1.trans (by
    refine XS.aloadN X0.here hexec rfl (hb hbytes d0) rfl rfl ?_
    refine XS.aloadN X0.here hexec rfl (hb hbytes d1) rfl rfl ?_
    refine iconstV X0.here hexec rfl 0 (hb hbytes d2) (by decide) ?_
    refine XS.aloadN X0.here hexec rfl (hb hbytes d3) rfl rfl ?_
    refine X0.alen hexec (hA.1.mv X0.warmed.alike hh0) rfl rfl (hb hbytes d4) ?_
    refine XS.aconstNull X0.here hexec rfl (hb hbytes d5) ?_
    exact Steps.refl _)
  obtain ⟨v3, T3, X3, E3, g3⟩ := X0.callN hexec (New4.law l a D fV fC b A z 0 A.slots.size) rfl hown (wks W (initW "java/lang/String" 27 New4.yN)) (W New4.tab (by simp only [site, List.mem_cons, List.mem_append, true_or, or_true])) (W := 0) (Nat.le_of_ble_eq_true rfl) (Nat.le_of_ble_eq_true rfl) (Nat.le_refl _) (by show 0 + A.slots.size ≤ A.slots.size; omega) (g := (mkF m 6 #[.val (.ref a), .val (.ref b)] [.null, .int (Int32.ofNat A.slots.size), .int (Int32.ofNat 0), .ref b, .ref a])) rfl (by rw [hml]; rfl) c2 (argsL := [.ref b, .int (Int32.ofNat 0), .int (Int32.ofNat A.slots.size), .null]) (rest := []) rfl rfl (by show 2 * 0 + 0 ≤ _; decide) (hb hbytes d6) (⟨rfl, hB.mv X0.warmed.alike hh0, f1.al X0.warmed.alike, f2.al X0.warmed.alike, hA.mv X0.warmed.alike hh0, s1.there X0.warmed.alike hh0, hz, l0, by omega, l2, fun i hi => by rw [Nat.zero_add]; exact hp i hi⟩)
  have e0 := Got.mv _ s₁ s _ _ hh0.symm (Vm.Alike.refl _) rfl E3
  obtain rfl := e0.1
  have c4 : Steps p.tables e below (s₁.setTop (entryFrame m #[.ref a, .ref b] 2)) (T3.setTop (mkF m 9 #[.val (.ref a), .val (.ref b)] [])) := g3
  exact ⟨T3, none, _, _, _, X3, by simp, rfl, by omega, (fun _ => rfl), e0, fun fs hl => c4.trans (X3.returnOut hexec hret (hb hbytes d9) hl)⟩
theorem pays {l : Launch} {R : Room} {p : Program} {e : Env} {below : List Frame} {s : State} {sargs : Array Value} {len W : Nat} (a : Addr) (D : Cell) (fV fC : Field) (b : Addr) (A : Cell) (z : Int32) (htab : tab.before sargs s = true) (hfr : 4 ≤ R.frames) (hlo : W + 65 ≤ R.locals) :
    Back l R p e below s sargs yN len W (fun A₁ a₁ => A₁.cells + 1 ≤ R.cells ∧ A₁.slots + A.slots.size ≤ R.slots ∧ P a D fV fC b A z a₁ A₁.U) (fun A₁ _ v₁ B₁ => E a D fV fC A v₁ A₁.U B₁.U ∧ B₁.locs = A₁.locs ++ [⟨a, fC.slot⟩, ⟨a, fV.slot⟩] ∧ B₁.cells = A₁.cells + 1 ∧ B₁.slots = A₁.slots + A.slots.size) :=
  (law l a D fV fC b A z).pays htab hfr (by omega)
end New1
end StrChars
namespace StrChars.Road
open Jvm Sem ClassFile Op Lib Jvm.Stand Jvm.Free Jvm.Free.XT
open Jvm.Lib.Cold (StaticIs)
abbrev ST : String := "java/lang/String"
/-- every table word that New1's law asks, flat -/
abbrev words : List Jvm.Cond := [.code New1.yN New1.yB 2 none, .initialized ST, .methodLink ST 27 New4.yN, .instanceMethod New4.yN,
  .code New4.yN New4.yB 6 none, .fieldLink ST 38 ST "COMPACT_STRINGS" "Z", .laysFinal ST ST "value" "[B", .fieldLink ST 9 ST "value" "[B", .laysFinal ST ST "coder" "B", .fieldLink ST 15 ST "coder" "B",
  .methodLink ST 1 Lib.objectInit, .instanceMethod Lib.objectInit, .code Lib.objectInit ⟨#[0xb1]⟩ 1 none, .methodLink ST 177 Cmp3.yN, .static Cmp3.yN, .methodLink ST 47 CodL.yN, .static CodL.yN,
  .code Cmp3.yN Cmp3.yB 6 (some (.array .byte)), .initialized U16, .arrayClass .byte, .methodLink U16 115 Cmp5.yN, .static Cmp5.yN, .code Cmp5.yN Cmp5.yB 7 (some .int), .code CodL.yN CodL.yB 2 (some .byte)]
theorem tab_of {a : Array Value} {s : State} (h : ∀ w ∈ words, w.before a s = true) : New1.tab.before a s = true := by
  have h5 : Cmp5.tab.before a s = true := unparts (wk h (.code Cmp5.yN Cmp5.yB 7 (some .int))) (wks h (.initialized Cmp5.yN.cls :: Cmp5.site))
  have hc : CodL.tab.before a s = true := unparts (wk h (.code CodL.yN CodL.yB 2 (some .byte))) (wks h (.initialized CodL.yN.cls :: CodL.site))
  have q5 : ∀ w ∈ Cmp5.tab :: words, w.before a s = true := fun w hw => (List.mem_cons.mp hw).elim (fun e => e ▸ h5) (h w)
  have h3 : Cmp3.tab.before a s = true := unparts (wk q5 (.code Cmp3.yN Cmp3.yB 6 (some (.array .byte)))) (wks q5 (.initialized Cmp3.yN.cls :: Cmp3.site))
  have q3 : ∀ w ∈ Cmp3.tab :: CodL.tab :: words, w.before a s = true := fun w hw => (List.mem_cons.mp hw).elim (fun e => e ▸ h3) fun hw => (List.mem_cons.mp hw).elim (fun e => e ▸ hc) (h w)
  have h4 : New4.tab.before a s = true := unparts (wk q3 (.code New4.yN New4.yB 6 none)) (wks q3 (.initialized New4.yN.cls :: New4.site))
  have q4 : ∀ w ∈ New4.tab :: words, w.before a s = true := fun w hw => (List.mem_cons.mp hw).elim (fun e => e ▸ h4) (h w)
  exact unparts (wk q4 (.code New1.yN New1.yB 2 none)) (wks q4 (.initialized New1.yN.cls :: New1.site))
/-- the words ride from the start Z to the walk's own state -/
theorem moved {Z s : State} {a0 args : Array Value} (hZ : Z.Warmed39 s.vm) (hw : ∀ d ∈ words, d.before a0 Z = true) : ∀ d ∈ words, d.before args s = true := fun d hd => by
  have q := hw d hd
  have t : ∀ d ∈ words, d = .arrayClass .byte ∨ (d.onTables && d.keepsFace) = true := by decide +kernel
  rcases t d hd with rfl | t
  · exact RoadKit.mvA hZ q
  · exact RoadKit.mv hZ q t
/-- WHAT COMES BACK, over the tables of the start Z: h the heap at the call, h' behind it -/
def Q (Z : State) (x : Addr) (A : Cell) (h : Heap) (v : Option Value) (h' : Heap) (L : List Loc) : Prop := v = none ∧ (∀ y ∈ L, y.base = x) ∧ RoadKit.Keep h h' [x] ∧ h'.size = h.size + 1 ∧ RoadKit.Exa Z h' x ST ∧ RoadKit.Fld Z h' x ST "value" "[B" (.ref h.size) ∧ RoadKit.Fld Z h' x ST "coder" "B" (.int 0) ∧
  (∃ V : Cell, RoadKit.Arr Z h' h.size V .byte ∧ V.vm = .none ∧ Z.vm.findClass "[B" = some V.cls ∧ V.slots.size = A.slots.size ∧ ∀ j, j < A.slots.size → V.slots[j]? = some (.int (lo8 (cv A j)))) ∧
  ∀ (O n d : String) (w : Value), RoadKit.Fld Z h x O n d w → RoadKit.slotOf Z O n d ≠ RoadKit.slotOf Z ST "value" "[B" → RoadKit.slotOf Z O n d ≠ RoadKit.slotOf Z ST "coder" "B" → RoadKit.Fld Z h' x O n d w
/-- **new String(chars) AT A CALL, IN THE ROAD'S FORM**: for specialBack behind newO: x the fresh String, b the char[] with the cell A -/
theorem back {p : Program} {l : Launch} {e : Env} {R : Room} {s : State} {args : Array Value} {below : List Frame} {len W : Nat} {Z : State} {a0 : Array Value} {h : Heap} (hZ : Z.Warmed39 s.vm) (hw : ∀ d ∈ words, d.before a0 Z = true) {kI : Nat} (wi : (Jvm.Cond.instantiable ST kI).before a0 Z = true)
    {x b : Addr} {A : Cell} {z : Int32} {v0 c0 : Value} (E : RoadKit.Exa Z h x ST) (V : RoadKit.Fld Z h x ST "value" "[B" v0) (C : RoadKit.Fld Z h x ST "coder" "B" c0) (K : RoadKit.Arr Z h b A .char) (hty : Typed .char A) (S : RoadKit.Sta Z h ST "COMPACT_STRINGS" "Z" (.int z)) (hz : ¬ z = 0)
    (l0 : 0 < A.slots.size) (l2 : A.slots.size ≤ 536870912) (hp : ∀ i, i < A.slots.size → ¬ 255 < cv A i) (hfr : 4 ≤ R.frames) (hlo : W + 65 ≤ R.locals) :
    Back l R p e below s args New1.yN len W (fun P a => a = #[.ref x, .ref b] ∧ P.U.heap = h ∧ P.cells + 1 ≤ R.cells ∧ P.slots + A.slots.size ≤ R.slots)
      (fun P _ v B => ∃ L, Q Z x A h v B.U.heap L ∧ B.locs = P.locs ++ L ∧ B.cells = P.cells + 1 ∧ B.slots = P.slots + A.slots.size) := by
  intro m meth c P g ig mk a X hg hsize hdg hW hn hp'
  obtain ⟨rfl, rfl, r1, r2⟩ := hp'
  have al : Z.vm.Alike P.U.vm := hZ.alike.trans X.warmed.alike
  obtain ⟨D, cfV, kV, iV, fV, hD, gV, stV, knV, obV, asV, slV⟩ := id V
  obtain ⟨D', cfC, kC, iC, fC, hD', gC, stC, -, -, asC, slC⟩ := id C
  cases hD.symm.trans hD'
  obtain ⟨D2, kD, e1, e2, e3, e4, e5⟩ := id E
  cases hD.symm.trans e1
  obtain ⟨c2, k2, i1, i2, i3, -⟩ := Cond.instantiable_spec wi
  cases e2.symm.trans i1
  cases e3.symm.trans i2
  obtain ⟨kU, u1, u2⟩ := al.2.2 _ _ e3
  have hB : Blank ST x D P.U := ⟨hD, ⟨knV, fun q hq => by rw [hq] at obV; cases obV⟩, by rw [al.findClass]; exact e2, kU, u1, by rw [u2]; exact i3, by rw [u2]; exact e5 i3⟩
  have F1 : Found ST "value" "[B" fV P.U := ⟨SBG.found_only al ⟨cfV, kV, iV, gV⟩, stV⟩
  have F2 : Found ST "coder" "B" fC P.U := ⟨SBG.found_only al ⟨cfC, kC, iC, gC⟩, stC⟩
  have hA : Ch b A P.U := ⟨⟨K.1, State.isArrayOf_alike al K.2.1, K.2.2, by omega⟩, hty⟩
  have hS : StaticIs P.U ST "COMPACT_STRINGS" "Z" (.int z) := by
    obtain ⟨cfS, iS, kS, fS, st, cS, t1, t2, t3, t4, t5, t6, t7⟩ := S
    exact StaticIs.there (s := { Z with heap := P.U.heap }) ⟨cfS, iS, kS, fS, st, cS, t1, t2, t3, t4, t5, (fun q => by rw [q] at t6; cases t6), t7⟩ al rfl
  obtain ⟨v, B, X', ⟨⟨hv, E', V', q1, q2, q3, q4, q5, q6, q7, q8, q9, q10, q11⟩, hl, hc, hs⟩, st⟩ := New1.pays x D fV fC b A z (tab_of (moved hZ hw)) hfr hlo m meth c P g ig mk _ X hg hsize hdg hW hn ⟨r1, r2, rfl, hB, F1, F2, hA, hS, hz, l0, l2, hp⟩
  have al' : Z.vm.Alike B.U.vm := hZ.alike.trans X'.warmed.alike
  have hsz : E'.slots.size = D.slots.size := by
    obtain ⟨-, -, -, kB, w1, w2, w3⟩ := q1
    obtain ⟨kB', y1, y2⟩ := al'.2.2 _ _ e3
    rw [q2.2.1] at w1
    cases w1.symm.trans y1
    rw [w3, e5 i3, y2]
  refine ⟨v, B, X', ⟨_, ⟨hv, ?_, ⟨by omega, fun y cy hy hn' => q10 y cy (by simpa using hn') hy, fun y cy hy => ?_⟩, q11, ⟨E', _, q1.1, by rw [q2.2.1]; exact e2, by rw [q2.2.1]; exact e3, by rw [q2.1]; exact obV, fun _ => by rw [hsz]; exact e5 i3⟩,
    ⟨E', cfV, kV, iV, fV, q1.1, gV, stV, by rw [q2.1]; exact knV, by rw [q2.1]; exact obV, by rw [q2.2.1]; exact asV, q3⟩, ⟨E', cfC, kC, iC, fC, q1.1, gC, stC, by rw [q2.1]; exact knV, by rw [q2.1]; exact obV, by rw [q2.2.1]; exact asC, q4⟩,
    ⟨V', ⟨q5.1, State.isArrayOf_alike al'.symm q5.2.1, q5.2.2.1⟩, q6, by rw [← al'.findClass]; exact q7, q8, fun j hj => by have := q9 j hj; rwa [Nat.zero_add] at this⟩, fun O n d w F n1 n2 => ?_⟩, hl, hc, hs⟩, st⟩
  · intro y hy
    simp only [List.mem_cons, List.not_mem_nil, or_false] at hy
    rcases hy with rfl | rfl <;> rfl
  · by_cases q : y = x
    · subst q
      cases hD.symm.trans hy
      exact ⟨E', q1.1, q2.2.1, q2.1, hsz⟩
    · exact ⟨cy, q10 y cy q hy, rfl, rfl, rfl⟩
  · obtain ⟨D3, cf, k, i, f, g1, g2, g3, g4, g5, g6, g7⟩ := F
    cases hD.symm.trans g1
    simp only [RoadKit.slotOf, g2, gV, gC, Option.map_some, Option.getD_some] at n1 n2
    exact ⟨E', cf, k, i, f, q1.1, g2, g3, by rw [q2.1]; exact g4, by rw [q2.1]; exact g5, by rw [q2.2.1]; exact g6, by rw [q2.2.2 f.slot (by simp [n1, n2])]; exact g7⟩
end StrChars.Road
namespace StrChars.Road
open Jvm Sem ClassFile Op Lib Jvm.Stand Jvm.Free Jvm.Free.XT
/-- WHAT COMES BACK, the byte[] as a list of values -/
def QA (Z : State) (x : Addr) (zn : Int32) (cs : List Int32) (h : Heap) (v : Option Value) (h' : Heap) (L : List Loc) : Prop := v = none ∧ (∀ y ∈ L, y.base = x) ∧ RoadKit.Keep h h' [x] ∧ h'.size = h.size + 1 ∧ RoadKit.Exa Z h' x ST ∧ RoadKit.Fld Z h' x ST "value" "[B" (.ref h.size) ∧ RoadKit.Fld Z h' x ST "coder" "B" (.int 0) ∧
  (∃ kb, Z.vm.findClass "[B" = some kb ∧ RoadKit.Arv Z h' h.size kb .byte zn (cs.map fun c => .int (lo8 c)) (.int 0)) ∧
  ∀ (O n d : String) (w : Value), RoadKit.Fld Z h x O n d w → RoadKit.slotOf Z O n d ≠ RoadKit.slotOf Z ST "value" "[B" → RoadKit.slotOf Z O n d ≠ RoadKit.slotOf Z ST "coder" "B" → RoadKit.Fld Z h' x O n d w
/-- **new String(chars) AT A CALL, THE ARRAYS AS LISTS**: the char[] at b holds cs, not empty, no char above 255 -/
theorem backArv {p : Program} {l : Launch} {e : Env} {R : Room} {s : State} {args : Array Value} {below : List Frame} {len W : Nat} {Z : State} {a0 : Array Value} {h : Heap} (hZ : Z.Warmed39 s.vm) (hw : ∀ d ∈ words, d.before a0 Z = true) {kI : Nat} (wi : (Jvm.Cond.instantiable ST kI).before a0 Z = true)
    {x b : Addr} {k : ClassId} {zn z : Int32} {cs : List Int32} {dv v0 c0 : Value} (E : RoadKit.Exa Z h x ST) (V : RoadKit.Fld Z h x ST "value" "[B" v0) (C : RoadKit.Fld Z h x ST "coder" "B" c0) (K : RoadKit.Arv Z h b k .char zn (cs.map Value.int) dv) (S : RoadKit.Sta Z h ST "COMPACT_STRINGS" "Z" (.int z)) (hz : ¬ z = 0)
    (hlen : zn.toNatClampNeg = cs.length) (h0 : 0 < cs.length) (hbig : cs.length ≤ 536870912) (hall : ∀ c ∈ cs, ¬ 255 < c) (hfr : 4 ≤ R.frames) (hlo : W + 65 ≤ R.locals) :
    Back l R p e below s args New1.yN len W (fun P a => a = #[.ref x, .ref b] ∧ P.U.heap = h ∧ P.cells + 1 ≤ R.cells ∧ P.slots + cs.length ≤ R.slots)
      (fun P _ v B => ∃ L, QA Z x zn cs h v B.U.heap L ∧ B.locs = P.locs ++ L ∧ B.cells = P.cells + 1 ∧ B.slots = P.slots + cs.length) := by
  obtain ⟨A, K1, K2, K3, K4, K5, K6⟩ := K
  have e : A.slots.size = cs.length := K3.trans hlen
  have hat : ∀ (i : Nat) (hi : i < cs.length), A.slots[i]? = some (.int cs[i]) := fun i hi => by rw [K5 i (by omega)]; simp [List.getD_eq_getElem?_getD, hi]
  have hcv : ∀ (i : Nat) (hi : i < cs.length), cv A i = cs[i] := fun i hi => by unfold cv; rw [hat i hi]
  have hty : Typed .char A := fun i v hv => by
    have hi : i < A.slots.size := (Array.getElem?_eq_some_iff.mp hv).1
    have q := K5 i hi
    rw [hv] at q
    rw [Option.some.inj q]
    exact K6 i hi
  refine Back.mono (back hZ hw wi E V C K1 hty S hz (by omega) (by omega) (fun i hi => by rw [hcv i (by omega)]; exact hall _ (List.getElem_mem _)) hfr hlo) (fun P a hp => ⟨hp.1, hp.2.1, hp.2.2.1, by rw [e]; exact hp.2.2.2⟩) (fun P a v B hp hq => ?_)
  obtain ⟨L, ⟨q1, q2, q3, q4, q5, q6, q7, ⟨V', v1, v2, v3, v4, v5⟩, q9⟩, hl, hc, hs⟩ := hq
  refine ⟨L, ⟨q1, q2, q3, q4, q5, q6, q7, ⟨V'.cls, v3, V', v1, rfl, by rw [v4, e, hlen], K4, fun i hi => ?_, fun i hi => ?_⟩, q9⟩, hl, hc, by rw [hs, e]⟩
  · have hi' : i < cs.length := by omega
    rw [v5 i (by omega), hcv i hi']; simp [List.getD_eq_getElem?_getD, hi']
  · have hi' : i < cs.length := by omega
    simp only [List.getD_eq_getElem?_getD, List.getElem?_map, List.getElem?_eq_getElem hi', Option.map_some, Option.getD_some]
    exact fits_lo8 _
end StrChars.Road
namespace StrChars.Road
open Jvm Sem ClassFile Op Lib Jvm.Stand Jvm.Free Jvm.Free.XT
/-- WHAT COMES BACK, in the writer's own shape -/
def QV (Z : State) (x : Addr) (N : Int32) (bs : List Int32) (h : Heap) (n0 : Nat) (v : Option Value) (h' : Heap) (L : List Loc) : Prop := v = none ∧ RoadKit.Fr n0 L ∧ RoadKit.Keep h h' [x] ∧ RoadKit.Exa Z h' x ST ∧ RoadKit.Fld Z h' x ST "coder" "B" (.int 0) ∧
  ∃ (t : Addr) (kb : ClassId), n0 ≤ t ∧ h.size ≤ t ∧ ¬ t = x ∧ RoadKit.Fld Z h' x ST "value" "[B" (.ref t) ∧ RoadKit.Arv Z h' t kb .byte N (bs.map Value.int) (.int 0)
/-- **new String(chars) AT A CALL, FOR THE WRITER**: a char[] of n known ints, each 0 to 255 -/
theorem backV {p : Program} {l : Launch} {e : Env} {R : Room} {s : State} {args : Array Value} {below : List Frame} {len W : Nat} {Z : State} {a0 : Array Value} {h : Heap} (hZ : Z.Warmed39 s.vm) (hw : ∀ d ∈ words, d.before a0 Z = true) {kI : Nat} (wi : (Jvm.Cond.instantiable ST kI).before a0 Z = true)
    {x b : Addr} {kC : ClassId} {cs bs : List Int32} {d v0 c0 : Value} {z N : Int32} {n n0 : Nat} (hx0 : n0 ≤ x) (hh0 : n0 ≤ h.size) (E : RoadKit.Exa Z h x ST) (V : RoadKit.Fld Z h x ST "value" "[B" v0) (C : RoadKit.Fld Z h x ST "coder" "B" c0) (K : RoadKit.Arv Z h b kC .char N (cs.map Value.int) d) (S : RoadKit.Sta Z h ST "COMPACT_STRINGS" "Z" (.int z)) (hz : ¬ z = 0)
    (hn : cs.length = n) (hN : N = Int32.ofNat n) (l0 : 0 < n) (l2 : n ≤ 4000) (hp : ∀ c ∈ cs, ¬ c < 0 ∧ ¬ (255 : Int32) < c) (hb : bs = cs.map (fun c => c.toInt8.toInt32)) (hfr : 4 ≤ R.frames) (hlo : W + 65 ≤ R.locals) :
    Back l R p e below s args (⟨"java/lang/String", "<init>", "([C)V"⟩ : MethodName) len W (fun P a => a = #[.ref x, .ref b] ∧ P.U.heap = h ∧ P.cells + 1 ≤ R.cells ∧ P.slots + n ≤ R.slots)
      (fun P _ v B => ∃ L, QV Z x N bs h n0 v B.U.heap L ∧ B.locs = P.locs ++ L ∧ B.cells = P.cells + 1 ∧ B.slots = P.slots + n) := by
  subst hn hN hb
  refine Back.mono (backArv hZ hw wi E V C K S hz (n32 (by omega)) l0 (by omega) (fun c hc => (hp c hc).2) hfr hlo) (fun P a hp => hp) (fun P a v B hp hq => ?_)
  obtain ⟨L, ⟨q1, q2, q3, q4, q5, q6, q7, ⟨kb, v1, v2⟩, q9⟩, hl, hc, hs⟩ := hq
  exact ⟨L, ⟨q1, fun y hy => by rw [q2 y hy]; exact hx0, q3, q5, q7, h.size, kb, hh0, Nat.le_refl _, Nat.ne_of_gt E.lt, q6, by rw [List.map_map]; exact v2⟩, hl, hc, hs⟩
end StrChars.Road
end Jvm.Pilot.@@N@@
namespace Jvm.RoadKit
open Sem ClassFile Op Lib Jvm.Stand Jvm.Free Jvm.LawKit
section New
variable {p : Program} {l : Launch} {e : Env} {R : Room} {s : State} {m : MethodId} {args : Array Value} {below : List Frame} {meth : Method} {c : Code} {T : State} {locs : List Loc} {cells slots : Nat}
theorem retI (X : Stand p l e R s m args below meth c T locs cells slots) (hx : p.tables.exec = Jvm.exec) {pc : Nat} {Ls : Array Slot} {z : Int32} {rest : List Value} (hret : meth.sig.returnType = some .int) (hd : decode c.code pc = .ok (.ireturn, 1)) {fs : List Frame}
    (hl : ∀ (f : JFrame) (acts : List Action), f.method = m → f.locked = none → f.entered = [] → (doReturn e (T.setTop f) acts (some (.int z))).1 = T.setFrames fs) : Steps p.tables e below (T.setTop (mkF m pc Ls (.int z :: rest))) (T.setFrames fs) := by
  have hm' : T.vm.method? m = some meth := X.method'
  have hn : narrow .int (.int z) = .int z := rfl
  show Steps p.tables e below (T.setTop { method := m, pc := pc, locals := Ls, stack := _ :: rest, locked := none }) _
  jvm_step X.here [X.here.top, hx, hd, hm', hret, hn]
  first | (intro acts; rw [hl _ acts rfl rfl rfl]) | rw [hl _ _ rfl rfl rfl]
  exact Steps.refl _
end New
end Jvm.RoadKit
namespace Jvm.Pilot.@@N@@
open Jvm Jvm.ClassFile Sem Op Lib Jvm.Free Jvm.Stand Jvm.LawKit Jvm.RoadKit Bundle Jvm.Pilot.@@N@@.Jvm.D
theorem own_nm {x a : Addr} (h : x ≠ a) : x ∉ [a] := fun q => h (List.mem_singleton.mp q)
theorem own_nar {v : Int32} (h : v = (0 : Int32) ∨ v = (1 : Int32)) : nar .boolean v = v := by rcases h with rfl | rfl <;> decide
/-- what a body that writes nothing leaves -/
def QP (r : Option Value) (h0 : Heap) (v : Option Value) (h : Heap) (L : List Loc) : Prop := v = r ∧ L = [] ∧ h = h0
theorem pd___III_V : parseMethodDescriptor "([III)V" = some ⟨[(.array .int), .int, .int], none⟩ := by decide +kernel
theorem pd__Ljava_util_DualPivotQuicksort_Sorter__IIII_V : parseMethodDescriptor "(Ljava/util/DualPivotQuicksort$Sorter;[IIII)V" = some ⟨[(.object "java/util/DualPivotQuicksort$Sorter"), (.array .int), .int, .int, .int], none⟩ := by decide +kernel
theorem pd___IIII_V : parseMethodDescriptor "([IIII)V" = some ⟨[(.array .int), .int, .int, .int], none⟩ := by decide +kernel
theorem pd___V : parseMethodDescriptor "()V" = some ⟨[], none⟩ := by decide +kernel
theorem pd__Ljava_lang_Object_Ljava_lang_String__Ljava_lang_Object_ : parseMethodDescriptor "(Ljava/lang/Object;Ljava/lang/String;)Ljava/lang/Object;" = some ⟨[(.object "java/lang/Object"), (.object "java/lang/String")], some (.object "java/lang/Object")⟩ := by decide +kernel
theorem pd___I_V : parseMethodDescriptor "([I)V" = some ⟨[(.array .int)], none⟩ := by decide +kernel
theorem pd__Ljava_lang_String_ILjava_lang_String_I_V : parseMethodDescriptor "(Ljava/lang/String;ILjava/lang/String;I)V" = some ⟨[(.object "java/lang/String"), .int, (.object "java/lang/String"), .int], none⟩ := by decide +kernel
theorem pd__II_I : parseMethodDescriptor "(II)I" = some ⟨[.int, .int], some .int⟩ := by decide +kernel
theorem pd___C_V : parseMethodDescriptor "([C)V" = some ⟨[(.array .char)], none⟩ := by decide +kernel
theorem pd__Ljava_lang_String_I_I_V : parseMethodDescriptor "(Ljava/lang/String;I[I)V" = some ⟨[(.object "java/lang/String"), .int, (.array .int)], none⟩ := by decide +kernel
theorem pd__I_I : parseMethodDescriptor "(I)I" = some ⟨[.int], some .int⟩ := by decide +kernel
theorem own_lt {p : Int32} (c : Int32) (k : Int) (hk : c.toInt = k) (h : p.toInt < k) : p < c := Int32.lt_iff_toInt_lt.mpr (by omega)
theorem own_nlt {p : Int32} (c : Int32) (k : Int) (hk : c.toInt = k) (h : k ≤ p.toInt) : ¬ p < c := fun q => by have := Int32.lt_iff_toInt_lt.mp q; omega
theorem own_gt {p : Int32} (c : Int32) (k : Int) (hk : c.toInt = k) (h : k < p.toInt) : c < p := Int32.lt_iff_toInt_lt.mpr (by omega)
theorem own_ngt {p : Int32} (c : Int32) (k : Int) (hk : c.toInt = k) (h : p.toInt ≤ k) : ¬ c < p := fun q => by have := Int32.lt_iff_toInt_lt.mp q; omega
theorem own_ne {p : Int32} (c : Int32) (k : Int) (hk : c.toInt = k) (h : p.toInt ≠ k) : ¬ p = c := fun q => h (by rw [q]; exact hk)
theorem own_eq {p : Int32} (c : Int32) (k : Int) (hk : c.toInt = k) (h : p.toInt = k) : p = c := Int32.toInt_inj.mp (by omega)
theorem own_irem (x y : Int32) (d : Int) (hy : y.toInt = d) (hd : 0 < d) (hx : 0 ≤ x.toInt) : (x - (x / y) * y).toInt = x.toInt % d := by
  have hm : y ≠ -1 := fun h => by rw [h] at hy; have : (-1 : Int32).toInt = -1 := rfl; omega
  have h1 := (c_idiv x y d hy hm).1 hx
  have h2 := c_imul (x / y) y
  have h3 := c_isub x ((x / y) * y)
  have h4 := rng32 (x - (x / y) * y)
  have h5 := rng32 x
  have h10 := rng32 ((x / y) * y)
  rw [h1, hy] at h2
  have h6 : x.toInt / d * d + x.toInt % d = x.toInt := Int.ediv_mul_add_emod x.toInt d
  have h7 := Int.emod_nonneg x.toInt (by omega : d ≠ 0)
  have h8 := Int.emod_lt_of_pos x.toInt (by omega : 0 < d)
  have h9 : 0 ≤ x.toInt / d * d := Int.mul_nonneg (Int.ediv_nonneg hx (by omega)) (by omega)
  generalize x.toInt / d * d = t at *
  omega
def QS (Z : State) (a1 : Addr) (k : ClassId) (n : Int32) (vs : List Value) (h0 : Heap) (n0 : Nat) (v : Option Value) (h : Heap) (L : List Loc) : Prop := v = none ∧ Fr n0 L ∧ Keep h0 h [a1] ∧ Arv Z h a1 k .int n vs (.int (0 : Int32))
def QT (Z : State) (a1 a2 : Addr) (p3 : Int32) (n : Int32) (vs : List Value) (h0 : Heap) (n0 : Nat) (v : Option Value) (h : Heap) (L : List Loc) : Prop := v = none ∧ Fr n0 L ∧ Keep h0 h [a1] ∧ Exa Z h a1 "com/example/allot/allot/partition/Topic" ∧ Fld Z h a1 "com/example/allot/allot/partition/Topic" "name" "Ljava/lang/String;" (.ref a2) ∧ Fld Z h a1 "com/example/allot/allot/partition/Topic" "partitions" "I" (.int p3) ∧ ∃ (b : Addr) (k : ClassId), Fld Z h a1 "com/example/allot/allot/partition/Topic" "unavailable" "[I" (.ref b) ∧ Arv Z h b k .int n vs (.int (0 : Int32))
def QC (p : Int32) (n0 : Nat) (v : Option Value) (h : Heap) (L : List Loc) : Prop := v = some (.int p) ∧ Fr n0 L
def Q0 (n0 : Nat) (v : Option Value) (h : Heap) (L : List Loc) : Prop := v = some (.int (1 : Int32)) ∧ Fr n0 L
theorem own_wS {Z : State} {a0 : Array Value} (hw : ∀ d ∈ tables_1, d.before a0 Z = true) : ∀ a ∈ Bundle.stringAtoms, a.before a0 Z = true := by
  intro a ha
  simp only [Bundle.stringAtoms, List.mem_cons, List.not_mem_nil, or_false] at ha
  rcases ha with rfl | rfl | rfl | rfl | rfl | rfl | rfl
  · exact (hw _ (List.mem_of_getElem? (i := 8) rfl))
  · exact (hw _ (List.mem_of_getElem? (i := 7) rfl))
  · exact (hw _ (List.mem_of_getElem? (i := 24) rfl))
  · exact (hw _ (List.mem_of_getElem? (i := 34) rfl))
  · exact (hw _ (List.mem_of_getElem? (i := 32) rfl))
  · exact (hw _ (List.mem_of_getElem? (i := 49) rfl))
  · exact (hw _ (List.mem_of_getElem? (i := 50) rfl))
def mxI (p1 p2 : Int32) : Int32 := if p1 < p2 then p2 else p1
theorem dMx_0 : decode jdk_29_method_65_code 0 = .ok (.iload_n 0, 1) := by decide +kernel
theorem dMx_1 : decode jdk_29_method_65_code 1 = .ok (.iload_n 1, 1) := by decide +kernel
theorem dMx_2 : decode jdk_29_method_65_code 2 = .ok (.if_icmp .lt 7, 3) := by decide +kernel
theorem dMx_5 : decode jdk_29_method_65_code 5 = .ok (.iload_n 0, 1) := by decide +kernel
theorem dMx_6 : decode jdk_29_method_65_code 6 = .ok (.goto 4, 3) := by decide +kernel
theorem dMx_9 : decode jdk_29_method_65_code 9 = .ok (.iload_n 1, 1) := by decide +kernel
theorem dMx_10 : decode jdk_29_method_65_code 10 = .ok (.ireturn, 1) := by decide +kernel
theorem ef_Mx (m : MethodId) (x0 : Int32) (x1 : Int32) : entryFrame m #[(.int x0), (.int x1)] 2 = mkF m 0 #[.val (.int x0), .val (.int x1)] [] := by first | (simp [entryFrame, mkF, argsToLocals, Value.category]; done) | rfl
set_option maxRecDepth 65536 in
set_option maxHeartbeats 40000000 in
theorem rmMx (l : Launch) (Z : State) (a0 : Array Value) (hw : ∀ d ∈ tables_1, d.before a0 Z = true) (ws : List Jvm.Cond) (p1 : Int32) (p2 : Int32) (h0 : Heap) :
    MetFree l (⟨"java/lang/Math", "max", "(II)I"⟩ : MethodName) (head1 (Jvm.Cond.code (⟨"java/lang/Math", "max", "(II)I"⟩ : MethodName) jdk_29_method_65_code 2 (some .int) :: ws) ({ frames := 0, cells := 0, slots := 0, locals := 0 } : Room)) (fun a U => a = #[(.int p1), (.int p2)] ∧ Z.Warmed39 U.vm ∧ U.heap = h0) (fun _ _ _ _ _ => True) (fun _ U o U' => ∃ v L, o = .returned v ∧ QP (some (.int (mxI p1 p2))) h0 v U'.heap L ∧ FrameEnd U o U' L ({ frames := 0, cells := 0, slots := 0, locals := 0 } : Room).cells ({ frames := 0, cells := 0, slots := 0, locals := 0 } : Room).slots) := by
  refine MetFree.of_bodySF (Jvm.Free.JP.mathPlain rfl (by decide +kernel)) hisR ?_
  intro p e s m args below meth c s₁ Bd hml0 hP hK
  obtain ⟨rfl, hZ, hh⟩ := hP
  have hx := Bd.exec
  have hby := Bd.bytes
  have hml : c.maxLocals = 2 := hml0
  have hown : s.vm.findClass "java/lang/Math" = some m.cls := findClass_of_methodNamed Bd.named
  have hnm := (name_of_methodNamed Bd.named Bd.method).1
  have hlk : meth.locks = false := BodyLoose.notSynchronized Bd
  have X0 : Stand p l e ({ frames := 0, cells := 0, slots := 0, locals := 0 } : Room) s m #[(.int p1), (.int p2)] below meth c s₁ [] 0 0 := Stand.of_body Bd
  have e0 : s₁.heap = h0 := by rw [← hh, Bd.state]; rfl
  have P0 : ∀ t, Steps p.tables e below (s₁.setTop (mkF m 0 #[.val (.int p1), .val (.int p2)] [])) t → Steps p.tables e below (s₁.setTop (entryFrame m #[(.int p1), (.int p2)] 2)) t := fun t kt => castTop (ef_Mx m p1 p2) kt
  have P101 : ∀ t, Steps p.tables e below (s₁.setTop (mkF m 2 #[.val (.int p1), .val (.int p2)] [(.int p2), (.int p1)])) t → Steps p.tables e below (s₁.setTop (entryFrame m #[(.int p1), (.int p2)] 2)) t := fun t kt => P0 t (by
    show Steps p.tables e below (s₁.setTop (mkF m 0 #[.val (.int p1), .val (.int p2)] [])) _
    refine XS.iloadN X0.here hx rfl (hb hby dMx_0) rfl ?_
    show Steps p.tables e below (s₁.setTop (mkF m 1 #[.val (.int p1), .val (.int p2)] [(.int p1)])) _
    refine XS.iloadN X0.here hx rfl (hb hby dMx_1) rfl ?_
    exact kt)
  by_cases hc2_102 : p1 < p2
  · have P103 : ∀ t, Steps p.tables e below (s₁.setTop (mkF m 10 #[.val (.int p1), .val (.int p2)] [(.int p2)])) t → Steps p.tables e below (s₁.setTop (entryFrame m #[(.int p1), (.int p2)] 2)) t := fun t kt => P101 t (by
      show Steps p.tables e below (s₁.setTop (mkF m 2 #[.val (.int p1), .val (.int p2)] [(.int p2), (.int p1)])) _
      refine XS.icmpYes X0.here hx rfl (pc0 := 2) (pc' := 9) rfl (hb hby dMx_2) rfl (tlt hc2_102).1 (by decide) (by decide) ?_
      show Steps p.tables e below (s₁.setTop (mkF m 9 #[.val (.int p1), .val (.int p2)] [])) _
      refine XS.iloadN X0.here hx rfl (hb hby dMx_9) rfl ?_
      exact kt)
    obtain ⟨fs, hr, hrun, hended, hW, hsame⟩ := X0.leave (v := some (.int p2)) (fun h => by rw [Bd.returns] at h; cases h) (hlocks := hlk)
    refine ⟨_, _, P103 _ ?_, hrun, hended, _, _, rfl, ?_, ⟨_, rfl⟩, hW, hsame.mono (by decide) (by decide)⟩
    · show Steps p.tables e below (s₁.setTop (mkF m 10 #[.val (.int p1), .val (.int p2)] [(.int p2)])) _
      exact retI X0 hx Bd.returns (hb hby dMx_10) hr
    · show QP _ h0 _ s₁.heap _
      have ev : mxI p1 p2 = p2 := by unfold mxI; exact if_pos hc2_102
      rw [ev]
      exact ⟨rfl, rfl, e0⟩
  · have P104 : ∀ t, Steps p.tables e below (s₁.setTop (mkF m 10 #[.val (.int p1), .val (.int p2)] [(.int p1)])) t → Steps p.tables e below (s₁.setTop (entryFrame m #[(.int p1), (.int p2)] 2)) t := fun t kt => P101 t (by
      show Steps p.tables e below (s₁.setTop (mkF m 2 #[.val (.int p1), .val (.int p2)] [(.int p2), (.int p1)])) _
      refine XS.icmpNo X0.here hx rfl (hb hby dMx_2) rfl (flt hc2_102).1 ?_
      show Steps p.tables e below (s₁.setTop (mkF m 5 #[.val (.int p1), .val (.int p2)] [])) _
      refine XS.iloadN X0.here hx rfl (hb hby dMx_5) rfl ?_
      show Steps p.tables e below (s₁.setTop (mkF m 6 #[.val (.int p1), .val (.int p2)] [(.int p1)])) _
      refine XS.goto X0.here hx rfl (pc0 := 6) (pc' := 10) rfl (hb hby dMx_6) (by decide) (by decide) ?_
      exact kt)
    obtain ⟨fs, hr, hrun, hended, hW, hsame⟩ := X0.leave (v := some (.int p1)) (fun h => by rw [Bd.returns] at h; cases h) (hlocks := hlk)
    refine ⟨_, _, P104 _ ?_, hrun, hended, _, _, rfl, ?_, ⟨_, rfl⟩, hW, hsame.mono (by decide) (by decide)⟩
    · show Steps p.tables e below (s₁.setTop (mkF m 10 #[.val (.int p1), .val (.int p2)] [(.int p1)])) _
      exact retI X0 hx Bd.returns (hb hby dMx_10) hr
    · show QP _ h0 _ s₁.heap _
      have ev : mxI p1 p2 = p1 := by unfold mxI; exact if_neg hc2_102
      rw [ev]
      exact ⟨rfl, rfl, e0⟩
theorem dR_0 : decode jdk_30_method_1_code 0 = .ok (.aload_n 0, 1) := by decide +kernel
theorem dR_1 : decode jdk_30_method_1_code 1 = .ok (.invokespecial 1, 3) := by decide +kernel
theorem dR_4 : decode jdk_30_method_1_code 4 = .ok (.return_, 1) := by decide +kernel
theorem ef_R (m : MethodId) (x0 : Addr) : entryFrame m #[(.ref x0)] 1 = mkF m 0 #[.val (.ref x0)] [] := by first | (simp [entryFrame, mkF, argsToLocals, Value.category]; done) | rfl
set_option maxRecDepth 65536 in
set_option maxHeartbeats 40000000 in
theorem rmR (l : Launch) (Z : State) (a0 : Array Value) (hw : ∀ d ∈ tables_1, d.before a0 Z = true) (ws : List Jvm.Cond) (a1 : Addr) (h0 : Heap) :
    MetFree l (⟨"java/lang/Record", "<init>", "()V"⟩ : MethodName) (head1 (Jvm.Cond.code (⟨"java/lang/Record", "<init>", "()V"⟩ : MethodName) jdk_30_method_1_code 1 none :: ws) ({ frames := 1, cells := 0, slots := 0, locals := 12 } : Room)) (fun a U => a = #[(.ref a1)] ∧ Z.Warmed39 U.vm ∧ U.heap = h0) (fun _ _ _ _ _ => True) (fun _ U o U' => ∃ v L, o = .returned v ∧ QP none h0 v U'.heap L ∧ FrameEnd U o U' L ({ frames := 1, cells := 0, slots := 0, locals := 12 } : Room).cells ({ frames := 1, cells := 0, slots := 0, locals := 12 } : Room).slots) := by
  refine MetFree.of_bodySF (plainFor_of_name (by first | (simp [plainName, overriddenIn]; done) | decide +kernel)) hisR ?_
  intro p e s m args below meth c s₁ Bd hml0 hP hK
  obtain ⟨rfl, hZ, hh⟩ := hP
  have hx := Bd.exec
  have hby := Bd.bytes
  have hml : c.maxLocals = 1 := hml0
  have hown : s.vm.findClass "java/lang/Record" = some m.cls := findClass_of_methodNamed Bd.named
  have hnm := (name_of_methodNamed Bd.named Bd.method).1
  have hlk : meth.locks = false := BodyLoose.notSynchronized Bd
  have X0 : Stand p l e ({ frames := 1, cells := 0, slots := 0, locals := 12 } : Room) s m #[(.ref a1)] below meth c s₁ [] 0 0 := Stand.of_body Bd
  have e0 : s₁.heap = h0 := by rw [← hh, Bd.state]; rfl
  have P0 : ∀ t, Steps p.tables e below (s₁.setTop (mkF m 0 #[.val (.ref a1)] [])) t → Steps p.tables e below (s₁.setTop (entryFrame m #[(.ref a1)] 1)) t := fun t kt => castTop (ef_R m a1) kt
  obtain ⟨T101, X101, e101, st101⟩ := initO X0 hx hZ hown (hw _ (List.mem_of_getElem? (i := 47) rfl)) (hw _ (List.mem_of_getElem? (i := 17) rfl)) (hw _ (List.mem_of_getElem? (i := 18) rfl)) e0 (g := (mkF m 1 #[.val (.ref a1)] [(.ref a1)])) rfl (by rw [hml]; rfl) rfl (hb hby dR_1) (by decide) (W := 0) (by show 2 * 0 + _ ≤ _; exact Nat.le_of_eq rfl) (by decide)
  have P102 : ∀ t, Steps p.tables e below (T101.setTop (mkF m 4 #[.val (.ref a1)] [])) t → Steps p.tables e below (s₁.setTop (entryFrame m #[(.ref a1)] 1)) t := fun t kt => P0 t (by
    show Steps p.tables e below (s₁.setTop (mkF m 0 #[.val (.ref a1)] [])) _
    refine XS.aloadN X0.here hx rfl (hb hby dR_0) rfl rfl ?_
    show Steps p.tables e below (s₁.setTop (mkF m 1 #[.val (.ref a1)] [(.ref a1)])) _
    refine st101 _ ?_
    exact kt)
  obtain ⟨fs, hr, hrun, hended, hW, hsame⟩ := X101.leave (v := none) (fun _ => rfl) (hlocks := hlk)
  refine ⟨_, _, P102 _ ?_, hrun, hended, _, _, rfl, ?_, ⟨_, rfl⟩, hW, hsame.mono (by decide) (by decide)⟩
  · show Steps p.tables e below (T101.setTop (mkF m 4 #[.val (.ref a1)] [])) _
    exact X101.returnOut hx Bd.returns (hb hby dR_4) hr
  · show QP _ h0 _ T101.heap _
    exact ⟨rfl, rfl, e101⟩
theorem dNN_0 : decode jdk_31_method_11_code 0 = .ok (.aload_n 0, 1) := by decide +kernel
theorem dNN_1 : decode jdk_31_method_11_code 1 = .ok (.ifnonnull 12, 3) := by decide +kernel
theorem dNN_13 : decode jdk_31_method_11_code 13 = .ok (.aload_n 0, 1) := by decide +kernel
theorem dNN_14 : decode jdk_31_method_11_code 14 = .ok (.areturn, 1) := by decide +kernel
theorem ef_NN (m : MethodId) (x0 : Addr) (x1 : Addr) : entryFrame m #[(.ref x0), (.ref x1)] 2 = mkF m 0 #[.val (.ref x0), .val (.ref x1)] [] := by first | (simp [entryFrame, mkF, argsToLocals, Value.category]; done) | rfl
set_option maxRecDepth 65536 in
set_option maxHeartbeats 40000000 in
theorem rmNN (l : Launch) (Z : State) (a0 : Array Value) (hw : ∀ d ∈ tables_1, d.before a0 Z = true) (ws : List Jvm.Cond) (a1 : Addr) (a2 : Addr) (h0 : Heap) :
    MetFree l (⟨"java/util/Objects", "requireNonNull", "(Ljava/lang/Object;Ljava/lang/String;)Ljava/lang/Object;"⟩ : MethodName) (head1 (Jvm.Cond.code (⟨"java/util/Objects", "requireNonNull", "(Ljava/lang/Object;Ljava/lang/String;)Ljava/lang/Object;"⟩ : MethodName) jdk_31_method_11_code 2 (some (.object "java/lang/Object")) :: ws) ({ frames := 0, cells := 0, slots := 0, locals := 0 } : Room)) (fun a U => a = #[(.ref a1), (.ref a2)] ∧ Z.Warmed39 U.vm ∧ U.heap = h0) (fun _ _ _ _ _ => True) (fun _ U o U' => ∃ v L, o = .returned v ∧ QP (some (.ref a1)) h0 v U'.heap L ∧ FrameEnd U o U' L ({ frames := 0, cells := 0, slots := 0, locals := 0 } : Room).cells ({ frames := 0, cells := 0, slots := 0, locals := 0 } : Room).slots) := by
  refine MetFree.of_bodySF (plainFor_of_name (by first | (simp [plainName, overriddenIn]; done) | decide +kernel)) hisR ?_
  intro p e s m args below meth c s₁ Bd hml0 hP hK
  obtain ⟨rfl, hZ, hh⟩ := hP
  have hx := Bd.exec
  have hby := Bd.bytes
  have hml : c.maxLocals = 2 := hml0
  have hown : s.vm.findClass "java/util/Objects" = some m.cls := findClass_of_methodNamed Bd.named
  have hnm := (name_of_methodNamed Bd.named Bd.method).1
  have hlk : meth.locks = false := BodyLoose.notSynchronized Bd
  have X0 : Stand p l e ({ frames := 0, cells := 0, slots := 0, locals := 0 } : Room) s m #[(.ref a1), (.ref a2)] below meth c s₁ [] 0 0 := Stand.of_body Bd
  have e0 : s₁.heap = h0 := by rw [← hh, Bd.state]; rfl
  have P0 : ∀ t, Steps p.tables e below (s₁.setTop (mkF m 0 #[.val (.ref a1), .val (.ref a2)] [])) t → Steps p.tables e below (s₁.setTop (entryFrame m #[(.ref a1), (.ref a2)] 2)) t := fun t kt => castTop (ef_NN m a1 a2) kt
  have P101 : ∀ t, Steps p.tables e below (s₁.setTop (mkF m 14 #[.val (.ref a1), .val (.ref a2)] [(.ref a1)])) t → Steps p.tables e below (s₁.setTop (entryFrame m #[(.ref a1), (.ref a2)] 2)) t := fun t kt => P0 t (by
    show Steps p.tables e below (s₁.setTop (mkF m 0 #[.val (.ref a1), .val (.ref a2)] [])) _
    refine XS.aloadN X0.here hx rfl (hb hby dNN_0) rfl rfl ?_
    show Steps p.tables e below (s₁.setTop (mkF m 1 #[.val (.ref a1), .val (.ref a2)] [(.ref a1)])) _
    refine XS.ifnonnullYes X0.here hx rfl (pc0 := 1) (pc' := 13) rfl (hb hby dNN_1) rfl (by decide) (by decide) ?_
    show Steps p.tables e below (s₁.setTop (mkF m 13 #[.val (.ref a1), .val (.ref a2)] [])) _
    refine XS.aloadN X0.here hx rfl (hb hby dNN_13) rfl rfl ?_
    exact kt)
  obtain ⟨fs, hr, hrun, hended, hW, hsame⟩ := X0.leave (v := some (.ref a1)) (fun h => by rw [Bd.returns] at h; cases h) (hlocks := hlk)
  refine ⟨_, _, P101 _ ?_, hrun, hended, _, _, rfl, ?_, ⟨_, rfl⟩, hW, hsame.mono (by decide) (by decide)⟩
  · show Steps p.tables e below (s₁.setTop (mkF m 14 #[.val (.ref a1), .val (.ref a2)] [(.ref a1)])) _
    exact X0.areturnOut hx (w := (.ref a1)) rfl Bd.returns rfl (hb hby dNN_14) hr
  · show QP _ h0 _ s₁.heap _
    exact ⟨rfl, rfl, e0⟩
theorem dRO_0 : decode prog_83_method_11_code 0 = .ok (.iload_n 3, 1) := by decide +kernel
theorem dRO_1 : decode prog_83_method_11_code 1 = .ok (.ifCond .lt 8, 3) := by decide +kernel
theorem dRO_4 : decode prog_83_method_11_code 4 = .ok (.iload_n 3, 1) := by decide +kernel
theorem dRO_5 : decode prog_83_method_11_code 5 = .ok (.iload_n 1, 1) := by decide +kernel
theorem dRO_6 : decode prog_83_method_11_code 6 = .ok (.if_icmp .lt 20, 3) := by decide +kernel
theorem dRO_26 : decode prog_83_method_11_code 26 = .ok (.return_, 1) := by decide +kernel
theorem ef_RO (m : MethodId) (x0 : Addr) (x1 : Int32) (x2 : Addr) (x3 : Int32) : entryFrame m #[(.ref x0), (.int x1), (.ref x2), (.int x3)] 4 = mkF m 0 #[.val (.ref x0), .val (.int x1), .val (.ref x2), .val (.int x3)] [] := by first | (simp [entryFrame, mkF, argsToLocals, Value.category]; done) | rfl
set_option maxRecDepth 65536 in
set_option maxHeartbeats 40000000 in
theorem rmRO (l : Launch) (Z : State) (a0 : Array Value) (hw : ∀ d ∈ tables_1, d.before a0 Z = true) (ws : List Jvm.Cond) (a1 : Addr) (p2 : Int32) (a3 : Addr) (p4 : Int32) (h0 : Heap) (h1 : ¬ p4 < (0 : Int32)) (h2 : p4 < p2) :
    MetFree l (⟨"com/example/allot/allot/partition/Topic", "requireOneOf", "(Ljava/lang/String;ILjava/lang/String;I)V"⟩ : MethodName) (head1 (Jvm.Cond.code (⟨"com/example/allot/allot/partition/Topic", "requireOneOf", "(Ljava/lang/String;ILjava/lang/String;I)V"⟩ : MethodName) prog_83_method_11_code 4 none :: ws) ({ frames := 0, cells := 0, slots := 0, locals := 0 } : Room)) (fun a U => a = #[(.ref a1), (.int p2), (.ref a3), (.int p4)] ∧ Z.Warmed39 U.vm ∧ U.heap = h0) (fun _ _ _ _ _ => True) (fun _ U o U' => ∃ v L, o = .returned v ∧ QP none h0 v U'.heap L ∧ FrameEnd U o U' L ({ frames := 0, cells := 0, slots := 0, locals := 0 } : Room).cells ({ frames := 0, cells := 0, slots := 0, locals := 0 } : Room).slots) := by
  refine MetFree.of_bodySF (plainFor_of_name (by first | (simp [plainName, overriddenIn]; done) | decide +kernel)) hisR ?_
  intro p e s m args below meth c s₁ Bd hml0 hP hK
  obtain ⟨rfl, hZ, hh⟩ := hP
  have hx := Bd.exec
  have hby := Bd.bytes
  have hml : c.maxLocals = 4 := hml0
  have hown : s.vm.findClass "com/example/allot/allot/partition/Topic" = some m.cls := findClass_of_methodNamed Bd.named
  have hnm := (name_of_methodNamed Bd.named Bd.method).1
  have hlk : meth.locks = false := BodyLoose.notSynchronized Bd
  have X0 : Stand p l e ({ frames := 0, cells := 0, slots := 0, locals := 0 } : Room) s m #[(.ref a1), (.int p2), (.ref a3), (.int p4)] below meth c s₁ [] 0 0 := Stand.of_body Bd
  have e0 : s₁.heap = h0 := by rw [← hh, Bd.state]; rfl
  have P0 : ∀ t, Steps p.tables e below (s₁.setTop (mkF m 0 #[.val (.ref a1), .val (.int p2), .val (.ref a3), .val (.int p4)] [])) t → Steps p.tables e below (s₁.setTop (entryFrame m #[(.ref a1), (.int p2), (.ref a3), (.int p4)] 4)) t := fun t kt => castTop (ef_RO m a1 p2 a3 p4) kt
  have P101 : ∀ t, Steps p.tables e below (s₁.setTop (mkF m 26 #[.val (.ref a1), .val (.int p2), .val (.ref a3), .val (.int p4)] [])) t → Steps p.tables e below (s₁.setTop (entryFrame m #[(.ref a1), (.int p2), (.ref a3), (.int p4)] 4)) t := fun t kt => P0 t (by
    show Steps p.tables e below (s₁.setTop (mkF m 0 #[.val (.ref a1), .val (.int p2), .val (.ref a3), .val (.int p4)] [])) _
    refine XS.iloadN X0.here hx rfl (hb hby dRO_0) rfl ?_
    show Steps p.tables e below (s₁.setTop (mkF m 1 #[.val (.ref a1), .val (.int p2), .val (.ref a3), .val (.int p4)] [(.int p4)])) _
    refine XS.ifNo X0.here hx rfl (hb hby dRO_1) rfl ((if0 _ _).trans (flt (h1 : ¬ (p4 < (0 : Int32)))).1) ?_
    show Steps p.tables e below (s₁.setTop (mkF m 4 #[.val (.ref a1), .val (.int p2), .val (.ref a3), .val (.int p4)] [])) _
    refine XS.iloadN X0.here hx rfl (hb hby dRO_4) rfl ?_
    show Steps p.tables e below (s₁.setTop (mkF m 5 #[.val (.ref a1), .val (.int p2), .val (.ref a3), .val (.int p4)] [(.int p4)])) _
    refine XS.iloadN X0.here hx rfl (hb hby dRO_5) rfl ?_
    show Steps p.tables e below (s₁.setTop (mkF m 6 #[.val (.ref a1), .val (.int p2), .val (.ref a3), .val (.int p4)] [(.int p2), (.int p4)])) _
    refine XS.icmpYes X0.here hx rfl (pc0 := 6) (pc' := 26) rfl (hb hby dRO_6) rfl (tlt (h2 : p4 < p2)).1 (by decide) (by decide) ?_
    exact kt)
  obtain ⟨fs, hr, hrun, hended, hW, hsame⟩ := X0.leave (v := none) (fun _ => rfl) (hlocks := hlk)
  refine ⟨_, _, P101 _ ?_, hrun, hended, _, _, rfl, ?_, ⟨_, rfl⟩, hW, hsame.mono (by decide) (by decide)⟩
  · show Steps p.tables e below (s₁.setTop (mkF m 26 #[.val (.ref a1), .val (.int p2), .val (.ref a3), .val (.int p4)] [])) _
    exact X0.returnOut hx Bd.returns (hb hby dRO_26) hr
  · show QP _ h0 _ s₁.heap _
    exact ⟨rfl, rfl, e0⟩
theorem dIS0_0 : decode jdk_2529_method_6_code 0 = .ok (.iload_n 1, 1) := by decide +kernel
theorem dIS0_1 : decode jdk_2529_method_6_code 1 = .ok (.istore 4, 2) := by decide +kernel
theorem dIS0_3 : decode jdk_2529_method_6_code 3 = .ok (.iinc 4 1, 3) := by decide +kernel
theorem dIS0_6 : decode jdk_2529_method_6_code 6 = .ok (.iload 4, 2) := by decide +kernel
theorem dIS0_8 : decode jdk_2529_method_6_code 8 = .ok (.iload_n 2, 1) := by decide +kernel
theorem dIS0_9 : decode jdk_2529_method_6_code 9 = .ok (.if_icmp .ge 58, 3) := by decide +kernel
theorem dIS0_67 : decode jdk_2529_method_6_code 67 = .ok (.return_, 1) := by decide +kernel
theorem ef_IS0 (m : MethodId) (x0 : Addr) : entryFrame m #[(.ref x0), (.int (0 : Int32)), (.int (0 : Int32))] 6 = mkF m 0 #[.val (.ref x0), .val (.int (0 : Int32)), .val (.int (0 : Int32)), .unset, .unset, .unset] [] := by first | (simp [entryFrame, mkF, argsToLocals, Value.category]; done) | rfl
set_option maxRecDepth 65536 in
set_option maxHeartbeats 40000000 in
theorem rmIS0 (l : Launch) (Z : State) (a0 : Array Value) (hw : ∀ d ∈ tables_1, d.before a0 Z = true) (ws : List Jvm.Cond) (a1 : Addr) (k : ClassId) (h0 : Heap) (n0 : Nat) (Z0 : n0 ≤ h0.size) (V1 : Arv Z h0 a1 k .int (0 : Int32) [] (.int (0 : Int32))) (ga : n0 ≤ a1) :
    MetFree l (⟨"java/util/DualPivotQuicksort", "insertionSort", "([III)V"⟩ : MethodName) (head1 (Jvm.Cond.code (⟨"java/util/DualPivotQuicksort", "insertionSort", "([III)V"⟩ : MethodName) jdk_2529_method_6_code 6 none :: ws) ({ frames := 0, cells := 0, slots := 0, locals := 0 } : Room)) (fun a U => a = #[(.ref a1), (.int (0 : Int32)), (.int (0 : Int32))] ∧ Z.Warmed39 U.vm ∧ U.heap = h0) (fun _ _ _ _ _ => True) (fun _ U o U' => ∃ v L, o = .returned v ∧ QS Z a1 k (0 : Int32) [] h0 n0 v U'.heap L ∧ FrameEnd U o U' L ({ frames := 0, cells := 0, slots := 0, locals := 0 } : Room).cells ({ frames := 0, cells := 0, slots := 0, locals := 0 } : Room).slots) := by
  refine MetFree.of_bodySF (plainFor_of_name (by first | (simp [plainName, overriddenIn]; done) | decide +kernel)) hisR ?_
  intro p e s m args below meth c s₁ Bd hml0 hP hK
  obtain ⟨rfl, hZ, hh⟩ := hP
  have hx := Bd.exec
  have hby := Bd.bytes
  have hml : c.maxLocals = 6 := hml0
  have hown : s.vm.findClass "java/util/DualPivotQuicksort" = some m.cls := findClass_of_methodNamed Bd.named
  have hnm := (name_of_methodNamed Bd.named Bd.method).1
  have hlk : meth.locks = false := BodyLoose.notSynchronized Bd
  have X0 : Stand p l e ({ frames := 0, cells := 0, slots := 0, locals := 0 } : Room) s m #[(.ref a1), (.int (0 : Int32)), (.int (0 : Int32))] below meth c s₁ [] 0 0 := Stand.of_body Bd
  have e0 : s₁.heap = h0 := by rw [← hh, Bd.state]; rfl
  have P0 : ∀ t, Steps p.tables e below (s₁.setTop (mkF m 0 #[.val (.ref a1), .val (.int (0 : Int32)), .val (.int (0 : Int32)), .unset, .unset, .unset] [])) t → Steps p.tables e below (s₁.setTop (entryFrame m #[(.ref a1), (.int (0 : Int32)), (.int (0 : Int32))] 6)) t := fun t kt => castTop (ef_IS0 m a1) kt
  have N0 := Fr.nil n0
  have K0 := Keep.refl h0 [a1]
  have P101 : ∀ t, Steps p.tables e below (s₁.setTop (mkF m 67 #[.val (.ref a1), .val (.int (0 : Int32)), .val (.int (0 : Int32)), .unset, .val (.int (1 : Int32)), .unset] [])) t → Steps p.tables e below (s₁.setTop (entryFrame m #[(.ref a1), (.int (0 : Int32)), (.int (0 : Int32))] 6)) t := fun t kt => P0 t (by
    show Steps p.tables e below (s₁.setTop (mkF m 0 #[.val (.ref a1), .val (.int (0 : Int32)), .val (.int (0 : Int32)), .unset, .unset, .unset] [])) _
    refine XS.iloadN X0.here hx rfl (hb hby dIS0_0) rfl ?_
    show Steps p.tables e below (s₁.setTop (mkF m 1 #[.val (.ref a1), .val (.int (0 : Int32)), .val (.int (0 : Int32)), .unset, .unset, .unset] [(.int (0 : Int32))])) _
    refine XS.istore X0.here hx rfl (hb hby dIS0_1) rfl (l' := #[.val (.ref a1), .val (.int (0 : Int32)), .val (.int (0 : Int32)), .unset, .val (.int (0 : Int32)), .unset]) rfl ?_
    show Steps p.tables e below (s₁.setTop (mkF m 3 #[.val (.ref a1), .val (.int (0 : Int32)), .val (.int (0 : Int32)), .unset, .val (.int (0 : Int32)), .unset] [])) _
    refine XS.iinc X0.here hx rfl (hb hby dIS0_3) rfl (l' := #[.val (.ref a1), .val (.int (0 : Int32)), .val (.int (0 : Int32)), .unset, .val (.int (1 : Int32)), .unset]) rfl ?_
    show Steps p.tables e below (s₁.setTop (mkF m 6 #[.val (.ref a1), .val (.int (0 : Int32)), .val (.int (0 : Int32)), .unset, .val (.int (1 : Int32)), .unset] [])) _
    refine XS.iload X0.here hx rfl (hb hby dIS0_6) rfl ?_
    show Steps p.tables e below (s₁.setTop (mkF m 8 #[.val (.ref a1), .val (.int (0 : Int32)), .val (.int (0 : Int32)), .unset, .val (.int (1 : Int32)), .unset] [(.int (1 : Int32))])) _
    refine XS.iloadN X0.here hx rfl (hb hby dIS0_8) rfl ?_
    show Steps p.tables e below (s₁.setTop (mkF m 9 #[.val (.ref a1), .val (.int (0 : Int32)), .val (.int (0 : Int32)), .unset, .val (.int (1 : Int32)), .unset] [(.int (0 : Int32)), (.int (1 : Int32))])) _
    refine XS.icmpYes X0.here hx rfl (pc0 := 9) (pc' := 67) rfl (hb hby dIS0_9) rfl (flt ((by decide) : ¬ ((1 : Int32) < (0 : Int32)))).2.1 (by decide) (by decide) ?_
    exact kt)
  obtain ⟨fs, hr, hrun, hended, hW, hsame⟩ := X0.leave (v := none) (fun _ => rfl) (hlocks := hlk)
  refine ⟨_, _, P101 _ ?_, hrun, hended, _, _, rfl, ?_, ⟨_, rfl⟩, hW, hsame.mono (by decide) (by decide)⟩
  · show Steps p.tables e below (s₁.setTop (mkF m 67 #[.val (.ref a1), .val (.int (0 : Int32)), .val (.int (0 : Int32)), .unset, .val (.int (1 : Int32)), .unset] [])) _
    exact X0.returnOut hx Bd.returns (hb hby dIS0_67) hr
  · show QS Z a1 k (0 : Int32) [] h0 n0 _ s₁.heap _
    rw [e0]
    exact ⟨rfl, N0, K0, V1⟩
theorem dS50_0 : decode jdk_2529_method_4_code 0 = .ok (.iload 4, 2) := by decide +kernel
theorem dS50_2 : decode jdk_2529_method_4_code 2 = .ok (.iconst 1, 1) := by decide +kernel
theorem dS50_3 : decode jdk_2529_method_4_code 3 = .ok (.isub, 1) := by decide +kernel
theorem dS50_4 : decode jdk_2529_method_4_code 4 = .ok (.istore 5, 2) := by decide +kernel
theorem dS50_6 : decode jdk_2529_method_4_code 6 = .ok (.iload 4, 2) := by decide +kernel
theorem dS50_8 : decode jdk_2529_method_4_code 8 = .ok (.iload_n 3, 1) := by decide +kernel
theorem dS50_9 : decode jdk_2529_method_4_code 9 = .ok (.isub, 1) := by decide +kernel
theorem dS50_10 : decode jdk_2529_method_4_code 10 = .ok (.istore 6, 2) := by decide +kernel
theorem dS50_12 : decode jdk_2529_method_4_code 12 = .ok (.iload 6, 2) := by decide +kernel
theorem dS50_14 : decode jdk_2529_method_4_code 14 = .ok (.bipush 65, 2) := by decide +kernel
theorem dS50_16 : decode jdk_2529_method_4_code 16 = .ok (.iload_n 2, 1) := by decide +kernel
theorem dS50_17 : decode jdk_2529_method_4_code 17 = .ok (.iadd, 1) := by decide +kernel
theorem dS50_18 : decode jdk_2529_method_4_code 18 = .ok (.if_icmp .ge 28, 3) := by decide +kernel
theorem dS50_21 : decode jdk_2529_method_4_code 21 = .ok (.iload_n 2, 1) := by decide +kernel
theorem dS50_22 : decode jdk_2529_method_4_code 22 = .ok (.iconst 1, 1) := by decide +kernel
theorem dS50_23 : decode jdk_2529_method_4_code 23 = .ok (.iand, 1) := by decide +kernel
theorem dS50_24 : decode jdk_2529_method_4_code 24 = .ok (.ifCond .le 22, 3) := by decide +kernel
theorem dS50_46 : decode jdk_2529_method_4_code 46 = .ok (.iload 6, 2) := by decide +kernel
theorem dS50_48 : decode jdk_2529_method_4_code 48 = .ok (.bipush 44, 2) := by decide +kernel
theorem dS50_50 : decode jdk_2529_method_4_code 50 = .ok (.if_icmp .ge 11, 3) := by decide +kernel
theorem dS50_53 : decode jdk_2529_method_4_code 53 = .ok (.aload_n 1, 1) := by decide +kernel
theorem dS50_54 : decode jdk_2529_method_4_code 54 = .ok (.iload_n 3, 1) := by decide +kernel
theorem dS50_55 : decode jdk_2529_method_4_code 55 = .ok (.iload 4, 2) := by decide +kernel
theorem dS50_57 : decode jdk_2529_method_4_code 57 = .ok (.invokestatic 34, 3) := by decide +kernel
theorem dS50_60 : decode jdk_2529_method_4_code 60 = .ok (.return_, 1) := by decide +kernel
theorem ef_S50 (m : MethodId) (x1 : Addr) : entryFrame m #[.null, (.ref x1), (.int (0 : Int32)), (.int (0 : Int32)), (.int (0 : Int32))] 21 = mkF m 0 #[.val .null, .val (.ref x1), .val (.int (0 : Int32)), .val (.int (0 : Int32)), .val (.int (0 : Int32)), .unset, .unset, .unset, .unset, .unset, .unset, .unset, .unset, .unset, .unset, .unset, .unset, .unset, .unset, .unset, .unset] [] := by first | (simp [entryFrame, mkF, argsToLocals, Value.category]; done) | rfl
set_option maxRecDepth 65536 in
set_option maxHeartbeats 40000000 in
theorem rmS50 (l : Launch) (Z : State) (a0 : Array Value) (hw : ∀ d ∈ tables_1, d.before a0 Z = true) (ws : List Jvm.Cond) (a1 : Addr) (k : ClassId) (h0 : Heap) (n0 : Nat) (Z0 : n0 ≤ h0.size) (V1 : Arv Z h0 a1 k .int (0 : Int32) [] (.int (0 : Int32))) (ga : n0 ≤ a1) :
    MetFree l (⟨"java/util/DualPivotQuicksort", "sort", "(Ljava/util/DualPivotQuicksort$Sorter;[IIII)V"⟩ : MethodName) (head1 (Jvm.Cond.code (⟨"java/util/DualPivotQuicksort", "sort", "(Ljava/util/DualPivotQuicksort$Sorter;[IIII)V"⟩ : MethodName) jdk_2529_method_4_code 21 none :: ws) ({ frames := 1, cells := 0, slots := 0, locals := 17 } : Room)) (fun a U => a = #[.null, (.ref a1), (.int (0 : Int32)), (.int (0 : Int32)), (.int (0 : Int32))] ∧ Z.Warmed39 U.vm ∧ U.heap = h0) (fun _ _ _ _ _ => True) (fun _ U o U' => ∃ v L, o = .returned v ∧ QS Z a1 k (0 : Int32) [] h0 n0 v U'.heap L ∧ FrameEnd U o U' L ({ frames := 1, cells := 0, slots := 0, locals := 17 } : Room).cells ({ frames := 1, cells := 0, slots := 0, locals := 17 } : Room).slots) := by
  refine MetFree.of_bodySF (plainFor_of_name (by first | (simp [plainName, overriddenIn]; done) | decide +kernel)) hisR ?_
  intro p e s m args below meth c s₁ Bd hml0 hP hK
  obtain ⟨rfl, hZ, hh⟩ := hP
  have hx := Bd.exec
  have hby := Bd.bytes
  have hml : c.maxLocals = 21 := hml0
  have hown : s.vm.findClass "java/util/DualPivotQuicksort" = some m.cls := findClass_of_methodNamed Bd.named
  have hnm := (name_of_methodNamed Bd.named Bd.method).1
  have hlk : meth.locks = false := BodyLoose.notSynchronized Bd
  have X0 : Stand p l e ({ frames := 1, cells := 0, slots := 0, locals := 17 } : Room) s m #[.null, (.ref a1), (.int (0 : Int32)), (.int (0 : Int32)), (.int (0 : Int32))] below meth c s₁ [] 0 0 := Stand.of_body Bd
  have e0 : s₁.heap = h0 := by rw [← hh, Bd.state]; rfl
  have P0 : ∀ t, Steps p.tables e below (s₁.setTop (mkF m 0 #[.val .null, .val (.ref a1), .val (.int (0 : Int32)), .val (.int (0 : Int32)), .val (.int (0 : Int32)), .unset, .unset, .unset, .unset, .unset, .unset, .unset, .unset, .unset, .unset, .unset, .unset, .unset, .unset, .unset, .unset] [])) t → Steps p.tables e below (s₁.setTop (entryFrame m #[.null, (.ref a1), (.int (0 : Int32)), (.int (0 : Int32)), (.int (0 : Int32))] 21)) t := fun t kt => castTop (ef_S50 m a1) kt
  have N0 := Fr.nil n0
  have K0 := Keep.refl h0 [a1]
  obtain ⟨_, _, ⟨T101, L101, k101, n101⟩, -, X101, ⟨Lc101, hQ101, l101, y101, z101⟩, st101⟩ := Jvm.LawKit.callS X0 hx (y := (⟨"java/util/DualPivotQuicksort", "insertionSort", "([III)V"⟩ : MethodName)) hown (mvT hZ (hw _ (List.mem_of_getElem? (i := 76) rfl))) (mvT hZ (hw _ (List.mem_of_getElem? (i := 77) rfl))) (mvT hZ (hw _ (List.mem_of_getElem? (i := 71) rfl))) (mvT hZ (hw _ (List.mem_of_getElem? (i := 78) rfl))) (by decide) (backOf (W := 0)  (rmIS0 l Z a0 hw [] a1 k  h0 n0 Z0 V1 ga ) hZ (hw _ (List.mem_of_getElem? (i := 78) rfl)) (hw _ (List.mem_of_getElem? (i := 71) rfl)) (by decide) (by decide)) (g := (mkF m 57 #[.val .null, .val (.ref a1), .val (.int (0 : Int32)), .val (.int (0 : Int32)), .val (.int (0 : Int32)), .val (.int (-1 : Int32)), .val (.int (0 : Int32)), .unset, .unset, .unset, .unset, .unset, .unset, .unset, .unset, .unset, .unset, .unset, .unset, .unset, .unset] [(.int (0 : Int32)), (.int (0 : Int32)), (.ref a1)])) rfl (by rw [hml]; rfl) (argsL := [(.ref a1), (.int (0 : Int32)), (.int (0 : Int32))]) (rest := []) (lenOf pd___III_V rfl) rfl (by show 2 * 0 + _ ≤ _; exact Nat.le_of_eq rfl) (hb hby dS50_57) (fun _ _ => ⟨rfl, e0, (by decide : 0 + 0 ≤ _), (by decide : 0 + 0 ≤ _)⟩)
  dsimp only [Pt.U, Pt.locs, Pt.cells, Pt.slots] at X101 l101 y101 z101 st101 hQ101
  subst l101 y101 z101
  obtain ⟨rfl, Nq101, K101x, V101x⟩ := hQ101
  have N101 := Fr.app N0 Nq101
  have sz101 : n0 ≤ T101.heap.size := Nat.le_trans Z0 K101x.1
  have K101 : Keep h0 T101.heap [a1] := K0.trans K101x (fun x hx => by cases List.mem_singleton.mp hx; exact Or.inl (List.mem_of_getElem? (i := 0) rfl))
  have P102 : ∀ t, Steps p.tables e below (T101.setTop (mkF m 60 #[.val .null, .val (.ref a1), .val (.int (0 : Int32)), .val (.int (0 : Int32)), .val (.int (0 : Int32)), .val (.int (-1 : Int32)), .val (.int (0 : Int32)), .unset, .unset, .unset, .unset, .unset, .unset, .unset, .unset, .unset, .unset, .unset, .unset, .unset, .unset] [])) t → Steps p.tables e below (s₁.setTop (entryFrame m #[.null, (.ref a1), (.int (0 : Int32)), (.int (0 : Int32)), (.int (0 : Int32))] 21)) t := fun t kt => P0 t (by
    show Steps p.tables e below (s₁.setTop (mkF m 0 #[.val .null, .val (.ref a1), .val (.int (0 : Int32)), .val (.int (0 : Int32)), .val (.int (0 : Int32)), .unset, .unset, .unset, .unset, .unset, .unset, .unset, .unset, .unset, .unset, .unset, .unset, .unset, .unset, .unset, .unset] [])) _
    refine XS.iload X0.here hx rfl (hb hby dS50_0) rfl ?_
    show Steps p.tables e below (s₁.setTop (mkF m 2 #[.val .null, .val (.ref a1), .val (.int (0 : Int32)), .val (.int (0 : Int32)), .val (.int (0 : Int32)), .unset, .unset, .unset, .unset, .unset, .unset, .unset, .unset, .unset, .unset, .unset, .unset, .unset, .unset, .unset, .unset] [(.int (0 : Int32))])) _
    refine XS.iconst X0.here hx rfl (hb hby dS50_2) ?_
    show Steps p.tables e below (s₁.setTop (mkF m 3 #[.val .null, .val (.ref a1), .val (.int (0 : Int32)), .val (.int (0 : Int32)), .val (.int (0 : Int32)), .unset, .unset, .unset, .unset, .unset, .unset, .unset, .unset, .unset, .unset, .unset, .unset, .unset, .unset, .unset, .unset] [(.int (1 : Int32)), (.int (0 : Int32))])) _
    refine XS.isub X0.here hx rfl (hb hby dS50_3) rfl ?_
    show Steps p.tables e below (s₁.setTop (mkF m 4 #[.val .null, .val (.ref a1), .val (.int (0 : Int32)), .val (.int (0 : Int32)), .val (.int (0 : Int32)), .unset, .unset, .unset, .unset, .unset, .unset, .unset, .unset, .unset, .unset, .unset, .unset, .unset, .unset, .unset, .unset] [(.int (-1 : Int32))])) _
    refine XS.istore X0.here hx rfl (hb hby dS50_4) rfl (l' := #[.val .null, .val (.ref a1), .val (.int (0 : Int32)), .val (.int (0 : Int32)), .val (.int (0 : Int32)), .val (.int (-1 : Int32)), .unset, .unset, .unset, .unset, .unset, .unset, .unset, .unset, .unset, .unset, .unset, .unset, .unset, .unset, .unset]) rfl ?_
    show Steps p.tables e below (s₁.setTop (mkF m 6 #[.val .null, .val (.ref a1), .val (.int (0 : Int32)), .val (.int (0 : Int32)), .val (.int (0 : Int32)), .val (.int (-1 : Int32)), .unset, .unset, .unset, .unset, .unset, .unset, .unset, .unset, .unset, .unset, .unset, .unset, .unset, .unset, .unset] [])) _
    refine XS.iload X0.here hx rfl (hb hby dS50_6) rfl ?_
    show Steps p.tables e below (s₁.setTop (mkF m 8 #[.val .null, .val (.ref a1), .val (.int (0 : Int32)), .val (.int (0 : Int32)), .val (.int (0 : Int32)), .val (.int (-1 : Int32)), .unset, .unset, .unset, .unset, .unset, .unset, .unset, .unset, .unset, .unset, .unset, .unset, .unset, .unset, .unset] [(.int (0 : Int32))])) _
    refine XS.iloadN X0.here hx rfl (hb hby dS50_8) rfl ?_
    show Steps p.tables e below (s₁.setTop (mkF m 9 #[.val .null, .val (.ref a1), .val (.int (0 : Int32)), .val (.int (0 : Int32)), .val (.int (0 : Int32)), .val (.int (-1 : Int32)), .unset, .unset, .unset, .unset, .unset, .unset, .unset, .unset, .unset, .unset, .unset, .unset, .unset, .unset, .unset] [(.int (0 : Int32)), (.int (0 : Int32))])) _
    refine XS.isub X0.here hx rfl (hb hby dS50_9) rfl ?_
    show Steps p.tables e below (s₁.setTop (mkF m 10 #[.val .null, .val (.ref a1), .val (.int (0 : Int32)), .val (.int (0 : Int32)), .val (.int (0 : Int32)), .val (.int (-1 : Int32)), .unset, .unset, .unset, .unset, .unset, .unset, .unset, .unset, .unset, .unset, .unset, .unset, .unset, .unset, .unset] [(.int (0 : Int32))])) _
    refine XS.istore X0.here hx rfl (hb hby dS50_10) rfl (l' := #[.val .null, .val (.ref a1), .val (.int (0 : Int32)), .val (.int (0 : Int32)), .val (.int (0 : Int32)), .val (.int (-1 : Int32)), .val (.int (0 : Int32)), .unset, .unset, .unset, .unset, .unset, .unset, .unset, .unset, .unset, .unset, .unset, .unset, .unset, .unset]) rfl ?_
    show Steps p.tables e below (s₁.setTop (mkF m 12 #[.val .null, .val (.ref a1), .val (.int (0 : Int32)), .val (.int (0 : Int32)), .val (.int (0 : Int32)), .val (.int (-1 : Int32)), .val (.int (0 : Int32)), .unset, .unset, .unset, .unset, .unset, .unset, .unset, .unset, .unset, .unset, .unset, .unset, .unset, .unset] [])) _
    refine XS.iload X0.here hx rfl (hb hby dS50_12) rfl ?_
    show Steps p.tables e below (s₁.setTop (mkF m 14 #[.val .null, .val (.ref a1), .val (.int (0 : Int32)), .val (.int (0 : Int32)), .val (.int (0 : Int32)), .val (.int (-1 : Int32)), .val (.int (0 : Int32)), .unset, .unset, .unset, .unset, .unset, .unset, .unset, .unset, .unset, .unset, .unset, .unset, .unset, .unset] [(.int (0 : Int32))])) _
    refine XS.bipush X0.here hx rfl (hb hby dS50_14) ?_
    show Steps p.tables e below (s₁.setTop (mkF m 16 #[.val .null, .val (.ref a1), .val (.int (0 : Int32)), .val (.int (0 : Int32)), .val (.int (0 : Int32)), .val (.int (-1 : Int32)), .val (.int (0 : Int32)), .unset, .unset, .unset, .unset, .unset, .unset, .unset, .unset, .unset, .unset, .unset, .unset, .unset, .unset] [(.int (65 : Int32)), (.int (0 : Int32))])) _
    refine XS.iloadN X0.here hx rfl (hb hby dS50_16) rfl ?_
    show Steps p.tables e below (s₁.setTop (mkF m 17 #[.val .null, .val (.ref a1), .val (.int (0 : Int32)), .val (.int (0 : Int32)), .val (.int (0 : Int32)), .val (.int (-1 : Int32)), .val (.int (0 : Int32)), .unset, .unset, .unset, .unset, .unset, .unset, .unset, .unset, .unset, .unset, .unset, .unset, .unset, .unset] [(.int (0 : Int32)), (.int (65 : Int32)), (.int (0 : Int32))])) _
    refine XS.iadd X0.here hx rfl (hb hby dS50_17) rfl ?_
    show Steps p.tables e below (s₁.setTop (mkF m 18 #[.val .null, .val (.ref a1), .val (.int (0 : Int32)), .val (.int (0 : Int32)), .val (.int (0 : Int32)), .val (.int (-1 : Int32)), .val (.int (0 : Int32)), .unset, .unset, .unset, .unset, .unset, .unset, .unset, .unset, .unset, .unset, .unset, .unset, .unset, .unset] [(.int (65 : Int32)), (.int (0 : Int32))])) _
    refine XS.icmpNo X0.here hx rfl (hb hby dS50_18) rfl (tlt ((by decide) : (0 : Int32) < (65 : Int32))).2.1 ?_
    show Steps p.tables e below (s₁.setTop (mkF m 21 #[.val .null, .val (.ref a1), .val (.int (0 : Int32)), .val (.int (0 : Int32)), .val (.int (0 : Int32)), .val (.int (-1 : Int32)), .val (.int (0 : Int32)), .unset, .unset, .unset, .unset, .unset, .unset, .unset, .unset, .unset, .unset, .unset, .unset, .unset, .unset] [])) _
    refine XS.iloadN X0.here hx rfl (hb hby dS50_21) rfl ?_
    show Steps p.tables e below (s₁.setTop (mkF m 22 #[.val .null, .val (.ref a1), .val (.int (0 : Int32)), .val (.int (0 : Int32)), .val (.int (0 : Int32)), .val (.int (-1 : Int32)), .val (.int (0 : Int32)), .unset, .unset, .unset, .unset, .unset, .unset, .unset, .unset, .unset, .unset, .unset, .unset, .unset, .unset] [(.int (0 : Int32))])) _
    refine XS.iconst X0.here hx rfl (hb hby dS50_22) ?_
    show Steps p.tables e below (s₁.setTop (mkF m 23 #[.val .null, .val (.ref a1), .val (.int (0 : Int32)), .val (.int (0 : Int32)), .val (.int (0 : Int32)), .val (.int (-1 : Int32)), .val (.int (0 : Int32)), .unset, .unset, .unset, .unset, .unset, .unset, .unset, .unset, .unset, .unset, .unset, .unset, .unset, .unset] [(.int (1 : Int32)), (.int (0 : Int32))])) _
    refine XS.iand X0.here hx rfl (hb hby dS50_23) rfl ?_
    show Steps p.tables e below (s₁.setTop (mkF m 24 #[.val .null, .val (.ref a1), .val (.int (0 : Int32)), .val (.int (0 : Int32)), .val (.int (0 : Int32)), .val (.int (-1 : Int32)), .val (.int (0 : Int32)), .unset, .unset, .unset, .unset, .unset, .unset, .unset, .unset, .unset, .unset, .unset, .unset, .unset, .unset] [(.int (0 : Int32))])) _
    refine XS.ifYes X0.here hx rfl (pc0 := 24) (pc' := 46) rfl (hb hby dS50_24) rfl ((if0 _ _).trans (flt ((by decide) : ¬ ((0 : Int32) < (0 : Int32)))).2.2.2) (by decide) (by decide) ?_
    show Steps p.tables e below (s₁.setTop (mkF m 46 #[.val .null, .val (.ref a1), .val (.int (0 : Int32)), .val (.int (0 : Int32)), .val (.int (0 : Int32)), .val (.int (-1 : Int32)), .val (.int (0 : Int32)), .unset, .unset, .unset, .unset, .unset, .unset, .unset, .unset, .unset, .unset, .unset, .unset, .unset, .unset] [])) _
    refine XS.iload X0.here hx rfl (hb hby dS50_46) rfl ?_
    show Steps p.tables e below (s₁.setTop (mkF m 48 #[.val .null, .val (.ref a1), .val (.int (0 : Int32)), .val (.int (0 : Int32)), .val (.int (0 : Int32)), .val (.int (-1 : Int32)), .val (.int (0 : Int32)), .unset, .unset, .unset, .unset, .unset, .unset, .unset, .unset, .unset, .unset, .unset, .unset, .unset, .unset] [(.int (0 : Int32))])) _
    refine XS.bipush X0.here hx rfl (hb hby dS50_48) ?_
    show Steps p.tables e below (s₁.setTop (mkF m 50 #[.val .null, .val (.ref a1), .val (.int (0 : Int32)), .val (.int (0 : Int32)), .val (.int (0 : Int32)), .val (.int (-1 : Int32)), .val (.int (0 : Int32)), .unset, .unset, .unset, .unset, .unset, .unset, .unset, .unset, .unset, .unset, .unset, .unset, .unset, .unset] [(.int (44 : Int32)), (.int (0 : Int32))])) _
    refine XS.icmpNo X0.here hx rfl (hb hby dS50_50) rfl (tlt ((by decide) : (0 : Int32) < (44 : Int32))).2.1 ?_
    show Steps p.tables e below (s₁.setTop (mkF m 53 #[.val .null, .val (.ref a1), .val (.int (0 : Int32)), .val (.int (0 : Int32)), .val (.int (0 : Int32)), .val (.int (-1 : Int32)), .val (.int (0 : Int32)), .unset, .unset, .unset, .unset, .unset, .unset, .unset, .unset, .unset, .unset, .unset, .unset, .unset, .unset] [])) _
    refine XS.aloadN X0.here hx rfl (hb hby dS50_53) rfl rfl ?_
    show Steps p.tables e below (s₁.setTop (mkF m 54 #[.val .null, .val (.ref a1), .val (.int (0 : Int32)), .val (.int (0 : Int32)), .val (.int (0 : Int32)), .val (.int (-1 : Int32)), .val (.int (0 : Int32)), .unset, .unset, .unset, .unset, .unset, .unset, .unset, .unset, .unset, .unset, .unset, .unset, .unset, .unset] [(.ref a1)])) _
    refine XS.iloadN X0.here hx rfl (hb hby dS50_54) rfl ?_
    show Steps p.tables e below (s₁.setTop (mkF m 55 #[.val .null, .val (.ref a1), .val (.int (0 : Int32)), .val (.int (0 : Int32)), .val (.int (0 : Int32)), .val (.int (-1 : Int32)), .val (.int (0 : Int32)), .unset, .unset, .unset, .unset, .unset, .unset, .unset, .unset, .unset, .unset, .unset, .unset, .unset, .unset] [(.int (0 : Int32)), (.ref a1)])) _
    refine XS.iload X0.here hx rfl (hb hby dS50_55) rfl ?_
    show Steps p.tables e below (s₁.setTop (mkF m 57 #[.val .null, .val (.ref a1), .val (.int (0 : Int32)), .val (.int (0 : Int32)), .val (.int (0 : Int32)), .val (.int (-1 : Int32)), .val (.int (0 : Int32)), .unset, .unset, .unset, .unset, .unset, .unset, .unset, .unset, .unset, .unset, .unset, .unset, .unset, .unset] [(.int (0 : Int32)), (.int (0 : Int32)), (.ref a1)])) _
    refine st101 _ ?_
    exact kt)
  obtain ⟨fs, hr, hrun, hended, hW, hsame⟩ := X101.leave (v := none) (fun _ => rfl) (hlocks := hlk)
  refine ⟨_, _, P102 _ ?_, hrun, hended, _, _, rfl, ?_, ⟨_, rfl⟩, hW, hsame.mono (by decide) (by decide)⟩
  · show Steps p.tables e below (T101.setTop (mkF m 60 #[.val .null, .val (.ref a1), .val (.int (0 : Int32)), .val (.int (0 : Int32)), .val (.int (0 : Int32)), .val (.int (-1 : Int32)), .val (.int (0 : Int32)), .unset, .unset, .unset, .unset, .unset, .unset, .unset, .unset, .unset, .unset, .unset, .unset, .unset, .unset] [])) _
    exact X101.returnOut hx Bd.returns (hb hby dS50_60) hr
  · show QS Z a1 k (0 : Int32) [] h0 n0 _ T101.heap _
    skip
    exact ⟨rfl, N101, K101, V101x⟩
theorem dS40_0 : decode jdk_2529_method_3_code 0 = .ok (.iload_n 3, 1) := by decide +kernel
theorem dS40_1 : decode jdk_2529_method_3_code 1 = .ok (.iload_n 2, 1) := by decide +kernel
theorem dS40_2 : decode jdk_2529_method_3_code 2 = .ok (.isub, 1) := by decide +kernel
theorem dS40_3 : decode jdk_2529_method_3_code 3 = .ok (.istore 4, 2) := by decide +kernel
theorem dS40_5 : decode jdk_2529_method_3_code 5 = .ok (.iload_n 1, 1) := by decide +kernel
theorem dS40_6 : decode jdk_2529_method_3_code 6 = .ok (.iconst 1, 1) := by decide +kernel
theorem dS40_7 : decode jdk_2529_method_3_code 7 = .ok (.if_icmp .le 61, 3) := by decide +kernel
theorem dS40_68 : decode jdk_2529_method_3_code 68 = .ok (.aconst_null, 1) := by decide +kernel
theorem dS40_69 : decode jdk_2529_method_3_code 69 = .ok (.aload_n 0, 1) := by decide +kernel
theorem dS40_70 : decode jdk_2529_method_3_code 70 = .ok (.iconst 0, 1) := by decide +kernel
theorem dS40_71 : decode jdk_2529_method_3_code 71 = .ok (.iload_n 2, 1) := by decide +kernel
theorem dS40_72 : decode jdk_2529_method_3_code 72 = .ok (.iload_n 3, 1) := by decide +kernel
theorem dS40_73 : decode jdk_2529_method_3_code 73 = .ok (.invokestatic 26, 3) := by decide +kernel
theorem dS40_76 : decode jdk_2529_method_3_code 76 = .ok (.return_, 1) := by decide +kernel
theorem ef_S40 (m : MethodId) (x0 : Addr) : entryFrame m #[(.ref x0), (.int (0 : Int32)), (.int (0 : Int32)), (.int (0 : Int32))] 7 = mkF m 0 #[.val (.ref x0), .val (.int (0 : Int32)), .val (.int (0 : Int32)), .val (.int (0 : Int32)), .unset, .unset, .unset] [] := by first | (simp [entryFrame, mkF, argsToLocals, Value.category]; done) | rfl
set_option maxRecDepth 65536 in
set_option maxHeartbeats 40000000 in
theorem rmS40 (l : Launch) (Z : State) (a0 : Array Value) (hw : ∀ d ∈ tables_1, d.before a0 Z = true) (ws : List Jvm.Cond) (a1 : Addr) (k : ClassId) (h0 : Heap) (n0 : Nat) (Z0 : n0 ≤ h0.size) (V1 : Arv Z h0 a1 k .int (0 : Int32) [] (.int (0 : Int32))) (ga : n0 ≤ a1) :
    MetFree l (⟨"java/util/DualPivotQuicksort", "sort", "([IIII)V"⟩ : MethodName) (head1 (Jvm.Cond.code (⟨"java/util/DualPivotQuicksort", "sort", "([IIII)V"⟩ : MethodName) jdk_2529_method_3_code 7 none :: ws) ({ frames := 2, cells := 0, slots := 0, locals := 49 } : Room)) (fun a U => a = #[(.ref a1), (.int (0 : Int32)), (.int (0 : Int32)), (.int (0 : Int32))] ∧ Z.Warmed39 U.vm ∧ U.heap = h0) (fun _ _ _ _ _ => True) (fun _ U o U' => ∃ v L, o = .returned v ∧ QS Z a1 k (0 : Int32) [] h0 n0 v U'.heap L ∧ FrameEnd U o U' L ({ frames := 2, cells := 0, slots := 0, locals := 49 } : Room).cells ({ frames := 2, cells := 0, slots := 0, locals := 49 } : Room).slots) := by
  refine MetFree.of_bodySF (plainFor_of_name (by first | (simp [plainName, overriddenIn]; done) | decide +kernel)) hisR ?_
  intro p e s m args below meth c s₁ Bd hml0 hP hK
  obtain ⟨rfl, hZ, hh⟩ := hP
  have hx := Bd.exec
  have hby := Bd.bytes
  have hml : c.maxLocals = 7 := hml0
  have hown : s.vm.findClass "java/util/DualPivotQuicksort" = some m.cls := findClass_of_methodNamed Bd.named
  have hnm := (name_of_methodNamed Bd.named Bd.method).1
  have hlk : meth.locks = false := BodyLoose.notSynchronized Bd
  have X0 : Stand p l e ({ frames := 2, cells := 0, slots := 0, locals := 49 } : Room) s m #[(.ref a1), (.int (0 : Int32)), (.int (0 : Int32)), (.int (0 : Int32))] below meth c s₁ [] 0 0 := Stand.of_body Bd
  have e0 : s₁.heap = h0 := by rw [← hh, Bd.state]; rfl
  have P0 : ∀ t, Steps p.tables e below (s₁.setTop (mkF m 0 #[.val (.ref a1), .val (.int (0 : Int32)), .val (.int (0 : Int32)), .val (.int (0 : Int32)), .unset, .unset, .unset] [])) t → Steps p.tables e below (s₁.setTop (entryFrame m #[(.ref a1), (.int (0 : Int32)), (.int (0 : Int32)), (.int (0 : Int32))] 7)) t := fun t kt => castTop (ef_S40 m a1) kt
  have N0 := Fr.nil n0
  have K0 := Keep.refl h0 [a1]
  obtain ⟨_, _, ⟨T101, L101, k101, n101⟩, -, X101, ⟨Lc101, hQ101, l101, y101, z101⟩, st101⟩ := Jvm.LawKit.callS X0 hx (y := (⟨"java/util/DualPivotQuicksort", "sort", "(Ljava/util/DualPivotQuicksort$Sorter;[IIII)V"⟩ : MethodName)) hown (mvT hZ (hw _ (List.mem_of_getElem? (i := 73) rfl))) (mvT hZ (hw _ (List.mem_of_getElem? (i := 74) rfl))) (mvT hZ (hw _ (List.mem_of_getElem? (i := 71) rfl))) (mvT hZ (hw _ (List.mem_of_getElem? (i := 75) rfl))) (by decide) (backOf (W := 0)  (rmS50 l Z a0 hw [] a1 k  h0 n0 Z0 V1 ga ) hZ (hw _ (List.mem_of_getElem? (i := 75) rfl)) (hw _ (List.mem_of_getElem? (i := 71) rfl)) (by decide) (by decide)) (g := (mkF m 73 #[.val (.ref a1), .val (.int (0 : Int32)), .val (.int (0 : Int32)), .val (.int (0 : Int32)), .val (.int (0 : Int32)), .unset, .unset] [(.int (0 : Int32)), (.int (0 : Int32)), (.int (0 : Int32)), (.ref a1), .null])) rfl (by rw [hml]; rfl) (argsL := [.null, (.ref a1), (.int (0 : Int32)), (.int (0 : Int32)), (.int (0 : Int32))]) (rest := []) (lenOf pd__Ljava_util_DualPivotQuicksort_Sorter__IIII_V rfl) rfl (by show 2 * 0 + _ ≤ _; exact Nat.le_of_eq rfl) (hb hby dS40_73) (fun _ _ => ⟨rfl, e0, (by decide : 0 + 0 ≤ _), (by decide : 0 + 0 ≤ _)⟩)
  dsimp only [Pt.U, Pt.locs, Pt.cells, Pt.slots] at X101 l101 y101 z101 st101 hQ101
  subst l101 y101 z101
  obtain ⟨rfl, Nq101, K101x, V101x⟩ := hQ101
  have N101 := Fr.app N0 Nq101
  have sz101 : n0 ≤ T101.heap.size := Nat.le_trans Z0 K101x.1
  have K101 : Keep h0 T101.heap [a1] := K0.trans K101x (fun x hx => by cases List.mem_singleton.mp hx; exact Or.inl (List.mem_of_getElem? (i := 0) rfl))
  have P102 : ∀ t, Steps p.tables e below (T101.setTop (mkF m 76 #[.val (.ref a1), .val (.int (0 : Int32)), .val (.int (0 : Int32)), .val (.int (0 : Int32)), .val (.int (0 : Int32)), .unset, .unset] [])) t → Steps p.tables e below (s₁.setTop (entryFrame m #[(.ref a1), (.int (0 : Int32)), (.int (0 : Int32)), (.int (0 : Int32))] 7)) t := fun t kt => P0 t (by
    show Steps p.tables e below (s₁.setTop (mkF m 0 #[.val (.ref a1), .val (.int (0 : Int32)), .val (.int (0 : Int32)), .val (.int (0 : Int32)), .unset, .unset, .unset] [])) _
    refine XS.iloadN X0.here hx rfl (hb hby dS40_0) rfl ?_
    show Steps p.tables e below (s₁.setTop (mkF m 1 #[.val (.ref a1), .val (.int (0 : Int32)), .val (.int (0 : Int32)), .val (.int (0 : Int32)), .unset, .unset, .unset] [(.int (0 : Int32))])) _
    refine XS.iloadN X0.here hx rfl (hb hby dS40_1) rfl ?_
    show Steps p.tables e below (s₁.setTop (mkF m 2 #[.val (.ref a1), .val (.int (0 : Int32)), .val (.int (0 : Int32)), .val (.int (0 : Int32)), .unset, .unset, .unset] [(.int (0 : Int32)), (.int (0 : Int32))])) _
    refine XS.isub X0.here hx rfl (hb hby dS40_2) rfl ?_
    show Steps p.tables e below (s₁.setTop (mkF m 3 #[.val (.ref a1), .val (.int (0 : Int32)), .val (.int (0 : Int32)), .val (.int (0 : Int32)), .unset, .unset, .unset] [(.int (0 : Int32))])) _
    refine XS.istore X0.here hx rfl (hb hby dS40_3) rfl (l' := #[.val (.ref a1), .val (.int (0 : Int32)), .val (.int (0 : Int32)), .val (.int (0 : Int32)), .val (.int (0 : Int32)), .unset, .unset]) rfl ?_
    show Steps p.tables e below (s₁.setTop (mkF m 5 #[.val (.ref a1), .val (.int (0 : Int32)), .val (.int (0 : Int32)), .val (.int (0 : Int32)), .val (.int (0 : Int32)), .unset, .unset] [])) _
    refine XS.iloadN X0.here hx rfl (hb hby dS40_5) rfl ?_
    show Steps p.tables e below (s₁.setTop (mkF m 6 #[.val (.ref a1), .val (.int (0 : Int32)), .val (.int (0 : Int32)), .val (.int (0 : Int32)), .val (.int (0 : Int32)), .unset, .unset] [(.int (0 : Int32))])) _
    refine XS.iconst X0.here hx rfl (hb hby dS40_6) ?_
    show Steps p.tables e below (s₁.setTop (mkF m 7 #[.val (.ref a1), .val (.int (0 : Int32)), .val (.int (0 : Int32)), .val (.int (0 : Int32)), .val (.int (0 : Int32)), .unset, .unset] [(.int (1 : Int32)), (.int (0 : Int32))])) _
    refine XS.icmpYes X0.here hx rfl (pc0 := 7) (pc' := 68) rfl (hb hby dS40_7) rfl (flt ((by decide) : ¬ ((1 : Int32) < (0 : Int32)))).2.2.2 (by decide) (by decide) ?_
    show Steps p.tables e below (s₁.setTop (mkF m 68 #[.val (.ref a1), .val (.int (0 : Int32)), .val (.int (0 : Int32)), .val (.int (0 : Int32)), .val (.int (0 : Int32)), .unset, .unset] [])) _
    refine XS.aconstNull X0.here hx rfl (hb hby dS40_68) ?_
    show Steps p.tables e below (s₁.setTop (mkF m 69 #[.val (.ref a1), .val (.int (0 : Int32)), .val (.int (0 : Int32)), .val (.int (0 : Int32)), .val (.int (0 : Int32)), .unset, .unset] [.null])) _
    refine XS.aloadN X0.here hx rfl (hb hby dS40_69) rfl rfl ?_
    show Steps p.tables e below (s₁.setTop (mkF m 70 #[.val (.ref a1), .val (.int (0 : Int32)), .val (.int (0 : Int32)), .val (.int (0 : Int32)), .val (.int (0 : Int32)), .unset, .unset] [(.ref a1), .null])) _
    refine XS.iconst X0.here hx rfl (hb hby dS40_70) ?_
    show Steps p.tables e below (s₁.setTop (mkF m 71 #[.val (.ref a1), .val (.int (0 : Int32)), .val (.int (0 : Int32)), .val (.int (0 : Int32)), .val (.int (0 : Int32)), .unset, .unset] [(.int (0 : Int32)), (.ref a1), .null])) _
    refine XS.iloadN X0.here hx rfl (hb hby dS40_71) rfl ?_
    show Steps p.tables e below (s₁.setTop (mkF m 72 #[.val (.ref a1), .val (.int (0 : Int32)), .val (.int (0 : Int32)), .val (.int (0 : Int32)), .val (.int (0 : Int32)), .unset, .unset] [(.int (0 : Int32)), (.int (0 : Int32)), (.ref a1), .null])) _
    refine XS.iloadN X0.here hx rfl (hb hby dS40_72) rfl ?_
    show Steps p.tables e below (s₁.setTop (mkF m 73 #[.val (.ref a1), .val (.int (0 : Int32)), .val (.int (0 : Int32)), .val (.int (0 : Int32)), .val (.int (0 : Int32)), .unset, .unset] [(.int (0 : Int32)), (.int (0 : Int32)), (.int (0 : Int32)), (.ref a1), .null])) _
    refine st101 _ ?_
    exact kt)
  obtain ⟨fs, hr, hrun, hended, hW, hsame⟩ := X101.leave (v := none) (fun _ => rfl) (hlocks := hlk)
  refine ⟨_, _, P102 _ ?_, hrun, hended, _, _, rfl, ?_, ⟨_, rfl⟩, hW, hsame.mono (by decide) (by decide)⟩
  · show Steps p.tables e below (T101.setTop (mkF m 76 #[.val (.ref a1), .val (.int (0 : Int32)), .val (.int (0 : Int32)), .val (.int (0 : Int32)), .val (.int (0 : Int32)), .unset, .unset] [])) _
    exact X101.returnOut hx Bd.returns (hb hby dS40_76) hr
  · show QS Z a1 k (0 : Int32) [] h0 n0 _ T101.heap _
    skip
    exact ⟨rfl, N101, K101, V101x⟩
theorem dAS0_0 : decode jdk_65_method_2_code 0 = .ok (.aload_n 0, 1) := by decide +kernel
theorem dAS0_1 : decode jdk_65_method_2_code 1 = .ok (.iconst 0, 1) := by decide +kernel
theorem dAS0_2 : decode jdk_65_method_2_code 2 = .ok (.iconst 0, 1) := by decide +kernel
theorem dAS0_3 : decode jdk_65_method_2_code 3 = .ok (.aload_n 0, 1) := by decide +kernel
theorem dAS0_4 : decode jdk_65_method_2_code 4 = .ok (.arraylength, 1) := by decide +kernel
theorem dAS0_5 : decode jdk_65_method_2_code 5 = .ok (.invokestatic 7, 3) := by decide +kernel
theorem dAS0_8 : decode jdk_65_method_2_code 8 = .ok (.return_, 1) := by decide +kernel
theorem ef_AS0 (m : MethodId) (x0 : Addr) : entryFrame m #[(.ref x0)] 1 = mkF m 0 #[.val (.ref x0)] [] := by first | (simp [entryFrame, mkF, argsToLocals, Value.category]; done) | rfl
set_option maxRecDepth 65536 in
set_option maxHeartbeats 40000000 in
theorem rmAS0 (l : Launch) (Z : State) (a0 : Array Value) (hw : ∀ d ∈ tables_1, d.before a0 Z = true) (ws : List Jvm.Cond) (a1 : Addr) (k : ClassId) (h0 : Heap) (n0 : Nat) (Z0 : n0 ≤ h0.size) (V1 : Arv Z h0 a1 k .int (0 : Int32) [] (.int (0 : Int32))) (ga : n0 ≤ a1) :
    MetFree l (⟨"java/util/Arrays", "sort", "([I)V"⟩ : MethodName) (head1 (Jvm.Cond.code (⟨"java/util/Arrays", "sort", "([I)V"⟩ : MethodName) jdk_65_method_2_code 1 none :: ws) ({ frames := 3, cells := 0, slots := 0, locals := 67 } : Room)) (fun a U => a = #[(.ref a1)] ∧ Z.Warmed39 U.vm ∧ U.heap = h0) (fun _ _ _ _ _ => True) (fun _ U o U' => ∃ v L, o = .returned v ∧ QS Z a1 k (0 : Int32) [] h0 n0 v U'.heap L ∧ FrameEnd U o U' L ({ frames := 3, cells := 0, slots := 0, locals := 67 } : Room).cells ({ frames := 3, cells := 0, slots := 0, locals := 67 } : Room).slots) := by
  refine MetFree.of_bodySF (plainFor_of_name (by first | (simp [plainName, overriddenIn]; done) | decide +kernel)) hisR ?_
  intro p e s m args below meth c s₁ Bd hml0 hP hK
  obtain ⟨rfl, hZ, hh⟩ := hP
  have hx := Bd.exec
  have hby := Bd.bytes
  have hml : c.maxLocals = 1 := hml0
  have hown : s.vm.findClass "java/util/Arrays" = some m.cls := findClass_of_methodNamed Bd.named
  have hnm := (name_of_methodNamed Bd.named Bd.method).1
  have hlk : meth.locks = false := BodyLoose.notSynchronized Bd
  have X0 : Stand p l e ({ frames := 3, cells := 0, slots := 0, locals := 67 } : Room) s m #[(.ref a1)] below meth c s₁ [] 0 0 := Stand.of_body Bd
  have e0 : s₁.heap = h0 := by rw [← hh, Bd.state]; rfl
  have P0 : ∀ t, Steps p.tables e below (s₁.setTop (mkF m 0 #[.val (.ref a1)] [])) t → Steps p.tables e below (s₁.setTop (entryFrame m #[(.ref a1)] 1)) t := fun t kt => castTop (ef_AS0 m a1) kt
  have N0 := Fr.nil n0
  have K0 := Keep.refl h0 [a1]
  obtain ⟨cl101, Ar101, q101, S101, Nn101, H101, G101⟩ := id V1
  obtain ⟨_, _, ⟨T102, L102, k102, n102⟩, -, X102, ⟨Lc102, hQ102, l102, y102, z102⟩, st102⟩ := Jvm.LawKit.callS X0 hx (y := (⟨"java/util/DualPivotQuicksort", "sort", "([IIII)V"⟩ : MethodName)) hown (mvT hZ (hw _ (List.mem_of_getElem? (i := 69) rfl))) (mvT hZ (hw _ (List.mem_of_getElem? (i := 70) rfl))) (mvT hZ (hw _ (List.mem_of_getElem? (i := 71) rfl))) (mvT hZ (hw _ (List.mem_of_getElem? (i := 72) rfl))) (by decide) (backOf (W := 0)  (rmS40 l Z a0 hw [] a1 k  h0 n0 Z0 V1 ga ) hZ (hw _ (List.mem_of_getElem? (i := 72) rfl)) (hw _ (List.mem_of_getElem? (i := 71) rfl)) (by decide) (by decide)) (g := (mkF m 5 #[.val (.ref a1)] [(.int (0 : Int32)), (.int (0 : Int32)), (.int (0 : Int32)), (.ref a1)])) rfl (by rw [hml]; rfl) (argsL := [(.ref a1), (.int (0 : Int32)), (.int (0 : Int32)), (.int (0 : Int32))]) (rest := []) (lenOf pd___IIII_V rfl) rfl (by show 2 * 0 + _ ≤ _; exact Nat.le_of_eq rfl) (hb hby dAS0_5) (fun _ _ => ⟨rfl, e0, (by decide : 0 + 0 ≤ _), (by decide : 0 + 0 ≤ _)⟩)
  dsimp only [Pt.U, Pt.locs, Pt.cells, Pt.slots] at X102 l102 y102 z102 st102 hQ102
  subst l102 y102 z102
  obtain ⟨rfl, Nq102, K102x, V102x⟩ := hQ102
  have N102 := Fr.app N0 Nq102
  have sz102 : n0 ≤ T102.heap.size := Nat.le_trans Z0 K102x.1
  have K102 : Keep h0 T102.heap [a1] := K0.trans K102x (fun x hx => by cases List.mem_singleton.mp hx; exact Or.inl (List.mem_of_getElem? (i := 0) rfl))
  have P103 : ∀ t, Steps p.tables e below (T102.setTop (mkF m 8 #[.val (.ref a1)] [])) t → Steps p.tables e below (s₁.setTop (entryFrame m #[(.ref a1)] 1)) t := fun t kt => P0 t (by
    show Steps p.tables e below (s₁.setTop (mkF m 0 #[.val (.ref a1)] [])) _
    refine XS.aloadN X0.here hx rfl (hb hby dAS0_0) rfl rfl ?_
    show Steps p.tables e below (s₁.setTop (mkF m 1 #[.val (.ref a1)] [(.ref a1)])) _
    refine XS.iconst X0.here hx rfl (hb hby dAS0_1) ?_
    show Steps p.tables e below (s₁.setTop (mkF m 2 #[.val (.ref a1)] [(.int (0 : Int32)), (.ref a1)])) _
    refine XS.iconst X0.here hx rfl (hb hby dAS0_2) ?_
    show Steps p.tables e below (s₁.setTop (mkF m 3 #[.val (.ref a1)] [(.int (0 : Int32)), (.int (0 : Int32)), (.ref a1)])) _
    refine XS.aloadN X0.here hx rfl (hb hby dAS0_3) rfl rfl ?_
    show Steps p.tables e below (s₁.setTop (mkF m 4 #[.val (.ref a1)] [(.ref a1), (.int (0 : Int32)), (.int (0 : Int32)), (.ref a1)])) _
    refine X0.arraylength hx (by rw [e0]; exact Ar101.1) (State.isArrayOf_alike hZ.alike Ar101.2.1) (g := (mkF m 4 #[.val (.ref a1)] [(.ref a1), (.int (0 : Int32)), (.int (0 : Int32)), (.ref a1)])) rfl rfl (hb hby dAS0_4) _ ?_
    rw [len_of S101 Nn101]
    show Steps p.tables e below (s₁.setTop (mkF m 5 #[.val (.ref a1)] [(.int (0 : Int32)), (.int (0 : Int32)), (.int (0 : Int32)), (.ref a1)])) _
    refine st102 _ ?_
    exact kt)
  obtain ⟨fs, hr, hrun, hended, hW, hsame⟩ := X102.leave (v := none) (fun _ => rfl) (hlocks := hlk)
  refine ⟨_, _, P103 _ ?_, hrun, hended, _, _, rfl, ?_, ⟨_, rfl⟩, hW, hsame.mono (by decide) (by decide)⟩
  · show Steps p.tables e below (T102.setTop (mkF m 8 #[.val (.ref a1)] [])) _
    exact X102.returnOut hx Bd.returns (hb hby dAS0_8) hr
  · show QS Z a1 k (0 : Int32) [] h0 n0 _ T102.heap _
    skip
    exact ⟨rfl, N102, K102, V102x⟩
theorem dT0_0 : decode prog_83_method_1_code 0 = .ok (.aload_n 0, 1) := by decide +kernel
theorem dT0_1 : decode prog_83_method_1_code 1 = .ok (.invokespecial 1, 3) := by decide +kernel
theorem dT0_4 : decode prog_83_method_1_code 4 = .ok (.aload_n 1, 1) := by decide +kernel
theorem dT0_5 : decode prog_83_method_1_code 5 = .ok (.ldc 7, 2) := by decide +kernel
theorem dT0_7 : decode prog_83_method_1_code 7 = .ok (.invokestatic 9, 3) := by decide +kernel
theorem dT0_10 : decode prog_83_method_1_code 10 = .ok (.pop, 1) := by decide +kernel
theorem dT0_11 : decode prog_83_method_1_code 11 = .ok (.iload_n 2, 1) := by decide +kernel
theorem dT0_12 : decode prog_83_method_1_code 12 = .ok (.iconst 1, 1) := by decide +kernel
theorem dT0_13 : decode prog_83_method_1_code 13 = .ok (.if_icmp .ge 17, 3) := by decide +kernel
theorem dT0_30 : decode prog_83_method_1_code 30 = .ok (.aload_n 3, 1) := by decide +kernel
theorem dT0_31 : decode prog_83_method_1_code 31 = .ok (.ldc 24, 2) := by decide +kernel
theorem dT0_33 : decode prog_83_method_1_code 33 = .ok (.invokestatic 9, 3) := by decide +kernel
theorem dT0_36 : decode prog_83_method_1_code 36 = .ok (.checkcast 26, 3) := by decide +kernel
theorem dT0_39 : decode prog_83_method_1_code 39 = .ok (.invokevirtual 28, 3) := by decide +kernel
theorem dT0_42 : decode prog_83_method_1_code 42 = .ok (.checkcast 26, 3) := by decide +kernel
theorem dT0_45 : decode prog_83_method_1_code 45 = .ok (.astore_n 3, 1) := by decide +kernel
theorem dT0_46 : decode prog_83_method_1_code 46 = .ok (.aload_n 3, 1) := by decide +kernel
theorem dT0_47 : decode prog_83_method_1_code 47 = .ok (.invokestatic 32, 3) := by decide +kernel
theorem dT0_50 : decode prog_83_method_1_code 50 = .ok (.iconst 0, 1) := by decide +kernel
theorem dT0_51 : decode prog_83_method_1_code 51 = .ok (.istore 4, 2) := by decide +kernel
theorem dT0_53 : decode prog_83_method_1_code 53 = .ok (.iload 4, 2) := by decide +kernel
theorem dT0_55 : decode prog_83_method_1_code 55 = .ok (.aload_n 3, 1) := by decide +kernel
theorem dT0_56 : decode prog_83_method_1_code 56 = .ok (.arraylength, 1) := by decide +kernel
theorem dT0_57 : decode prog_83_method_1_code 57 = .ok (.if_icmp .ge 55, 3) := by decide +kernel
theorem dT0_112 : decode prog_83_method_1_code 112 = .ok (.aload_n 0, 1) := by decide +kernel
theorem dT0_113 : decode prog_83_method_1_code 113 = .ok (.aload_n 1, 1) := by decide +kernel
theorem dT0_114 : decode prog_83_method_1_code 114 = .ok (.putfield 47, 3) := by decide +kernel
theorem dT0_117 : decode prog_83_method_1_code 117 = .ok (.aload_n 0, 1) := by decide +kernel
theorem dT0_118 : decode prog_83_method_1_code 118 = .ok (.iload_n 2, 1) := by decide +kernel
theorem dT0_119 : decode prog_83_method_1_code 119 = .ok (.putfield 50, 3) := by decide +kernel
theorem dT0_122 : decode prog_83_method_1_code 122 = .ok (.aload_n 0, 1) := by decide +kernel
theorem dT0_123 : decode prog_83_method_1_code 123 = .ok (.aload_n 3, 1) := by decide +kernel
theorem dT0_124 : decode prog_83_method_1_code 124 = .ok (.putfield 54, 3) := by decide +kernel
theorem dT0_127 : decode prog_83_method_1_code 127 = .ok (.return_, 1) := by decide +kernel
theorem ef_T0 (m : MethodId) (x0 : Addr) (x1 : Addr) (x2 : Int32) (x3 : Addr) : entryFrame m #[(.ref x0), (.ref x1), (.int x2), (.ref x3)] 5 = mkF m 0 #[.val (.ref x0), .val (.ref x1), .val (.int x2), .val (.ref x3), .unset] [] := by first | (simp [entryFrame, mkF, argsToLocals, Value.category]; done) | rfl
set_option maxRecDepth 65536 in
set_option maxHeartbeats 40000000 in
theorem rmT0 (l : Launch) (Z : State) (a0 : Array Value) (hw : ∀ d ∈ tables_1, d.before a0 Z = true) (ws : List Jvm.Cond) (a1 : Addr) (a2 : Addr) (p3 : Int32) (a4 : Addr) (k : ClassId) (h0 : Heap) (n0 : Nat) (Z0 : n0 ≤ h0.size) (E1 : Exa Z h0 a1 "com/example/allot/allot/partition/Topic") (Fn : Fld Z h0 a1 "com/example/allot/allot/partition/Topic" "name" "Ljava/lang/String;" .null) (Fp : Fld Z h0 a1 "com/example/allot/allot/partition/Topic" "partitions" "I" (.int (0 : Int32))) (Fu : Fld Z h0 a1 "com/example/allot/allot/partition/Topic" "unavailable" "[I" .null) (ga : n0 ≤ a1) (E4 : Exa Z h0 a4 "[I") (V4 : Arv Z h0 a4 k .int (0 : Int32) [] (.int (0 : Int32))) (h14 : a1 ≠ a4) (hp : ¬ p3 < (1 : Int32)) :
    MetFree l (⟨"com/example/allot/allot/partition/Topic", "<init>", "(Ljava/lang/String;I[I)V"⟩ : MethodName) (head1 (Jvm.Cond.code (⟨"com/example/allot/allot/partition/Topic", "<init>", "(Ljava/lang/String;I[I)V"⟩ : MethodName) prog_83_method_1_code 5 none :: ws) ({ frames := 4, cells := 5, slots := 68, locals := 79 } : Room)) (fun a U => a = #[(.ref a1), (.ref a2), (.int p3), (.ref a4)] ∧ Z.Warmed39 U.vm ∧ U.heap = h0) (fun _ _ _ _ _ => True) (fun _ U o U' => ∃ v L, o = .returned v ∧ QT Z a1 a2 p3 (0 : Int32) [] h0 n0 v U'.heap L ∧ ReturnedEndW U o U' L ({ frames := 4, cells := 5, slots := 68, locals := 79 } : Room).cells ({ frames := 4, cells := 5, slots := 68, locals := 79 } : Room).slots) := by
  refine MetFree.of_bodySF (plainFor_of_name (by first | (simp [plainName, overriddenIn]; done) | decide +kernel)) hisR ?_
  intro p e s m args below meth c s₁ Bd hml0 hP hK
  obtain ⟨rfl, hZ, hh⟩ := hP
  have hx := Bd.exec
  have hby := Bd.bytes
  have hml : c.maxLocals = 5 := hml0
  have hown : s.vm.findClass "com/example/allot/allot/partition/Topic" = some m.cls := findClass_of_methodNamed Bd.named
  have hnm := (name_of_methodNamed Bd.named Bd.method).1
  have hlk : meth.locks = false := BodyLoose.notSynchronized Bd
  have X0 : Stand p l e ({ frames := 4, cells := 5, slots := 68, locals := 79 } : Room) (s.setVm s.vm) m #[(.ref a1), (.ref a2), (.int p3), (.ref a4)] below meth c s₁ [] 0 0 := Stand.of_body Bd
  have e0 : s₁.heap = h0 := by rw [← hh, Bd.state]; rfl
  have P0 : ∀ t, Steps p.tables e below (s₁.setTop (mkF m 0 #[.val (.ref a1), .val (.ref a2), .val (.int p3), .val (.ref a4), .unset] [])) t → Steps p.tables e below (s₁.setTop (entryFrame m #[(.ref a1), (.ref a2), (.int p3), (.ref a4)] 5)) t := fun t kt => castTop (ef_T0 m a1 a2 p3 a4) kt
  have N0 := Fr.nil n0
  have hS0 : s.Since s.vm 0 := State.WarmedH.since (State.WarmedH.refl s) 0
  have hk0 : 0 ≤ h0.size := Nat.zero_le _
  have K0 := Keep.refl h0 [a1]
  obtain ⟨_, _, ⟨T101, L101, k101, n101⟩, -, X101, ⟨Lc101, hQ101, l101, y101, z101⟩, st101⟩ := X0.specialBack hx (y := (⟨"java/lang/Record", "<init>", "()V"⟩ : MethodName)) rfl hown (mvT hZ (hw _ (List.mem_of_getElem? (i := 42) rfl))) (mvT hZ (hw _ (List.mem_of_getElem? (i := 43) rfl))) (mvT hZ (hw _ (List.mem_of_getElem? (i := 46) rfl))) (by decide) (backOf (W := 0)  (rmR l Z a0 hw [] a1 h0) hZ (hw _ (List.mem_of_getElem? (i := 46) rfl)) (hw _ (List.mem_of_getElem? (i := 45) rfl)) (by decide) (by decide)) (g := (mkF m 1 #[.val (.ref a1), .val (.ref a2), .val (.int p3), .val (.ref a4), .unset] [(.ref a1)])) rfl (by rw [hml]; rfl) (Steps.refl _) (a := a1) (argsL := []) (rest := []) (lenOf pd___V rfl) rfl (by show 2 * 0 + _ ≤ _; exact Nat.le_of_eq rfl) (hb hby dT0_1) (fun _ _ => ⟨rfl, e0, (by decide : 0 + 0 ≤ _), (by decide : 0 + 0 ≤ _)⟩)
  dsimp only [Pt.U, Pt.locs, Pt.cells, Pt.slots] at X101 l101 y101 z101 st101 hQ101
  subst l101 y101 z101
  obtain ⟨rfl, rfl, e101⟩ := hQ101
  have N101 := Fr.app N0 (Fr.nil n0)
  have P102 : ∀ t, Steps p.tables e below (T101.setTop (mkF m 5 #[.val (.ref a1), .val (.ref a2), .val (.int p3), .val (.ref a4), .unset] [(.ref a2)])) t → Steps p.tables e below (s₁.setTop (entryFrame m #[(.ref a1), (.ref a2), (.int p3), (.ref a4)] 5)) t := fun t kt => P0 t (by
    show Steps p.tables e below (s₁.setTop (mkF m 0 #[.val (.ref a1), .val (.ref a2), .val (.int p3), .val (.ref a4), .unset] [])) _
    refine XS.aloadN X0.here hx rfl (hb hby dT0_0) rfl rfl ?_
    show Steps p.tables e below (s₁.setTop (mkF m 1 #[.val (.ref a1), .val (.ref a2), .val (.int p3), .val (.ref a4), .unset] [(.ref a1)])) _
    refine st101.trans ?_
    show Steps p.tables e below (T101.setTop (mkF m 4 #[.val (.ref a1), .val (.ref a2), .val (.int p3), .val (.ref a4), .unset] [])) _
    refine XS.aloadN X101.here hx rfl (hb hby dT0_4) rfl rfl ?_
    exact kt)
  obtain ⟨sa103, T103, h103, j103, X103, e103, E103, hS103, hk103, hZ, hown, st103⟩ := ldcS X101 hx hZ hown (hw _ (List.mem_of_getElem? (i := 48) rfl)) (own_wS hw) e101 hS0 hk0 (g := (mkF m 5 #[.val (.ref a1), .val (.ref a2), .val (.int p3), .val (.ref a4), .unset] [(.ref a2)])) rfl (hb hby dT0_5) (n := 16) (by decide) (by decide) (by decide) (by decide)
  have f104 := E1.ext E103
  have f105 := Fn.ext E103
  have f106 := Fp.ext E103
  have f107 := Fu.ext E103
  have f108 := E4.ext E103
  have f109 := V4.ext E103
  have sz103 : n0 ≤ h103.size := Nat.le_trans Z0 E103.1
  have K103 : Keep h0 h103 [a1] := K0.ext E103
  obtain ⟨_, _, ⟨T110, L110, k110, n110⟩, -, X110, ⟨Lc110, hQ110, l110, y110, z110⟩, st110⟩ := Jvm.LawKit.callS X103 hx (y := (⟨"java/util/Objects", "requireNonNull", "(Ljava/lang/Object;Ljava/lang/String;)Ljava/lang/Object;"⟩ : MethodName)) hown (mvT hZ (hw _ (List.mem_of_getElem? (i := 51) rfl))) (mvT hZ (hw _ (List.mem_of_getElem? (i := 52) rfl))) (mvT hZ (hw _ (List.mem_of_getElem? (i := 53) rfl))) (mvT hZ (hw _ (List.mem_of_getElem? (i := 54) rfl))) (by decide) (backOf (W := 0)  (rmNN l Z a0 hw [] a2 sa103 h103) hZ (hw _ (List.mem_of_getElem? (i := 54) rfl)) (hw _ (List.mem_of_getElem? (i := 53) rfl)) (by decide) (by decide)) (g := (mkF m 7 #[.val (.ref a1), .val (.ref a2), .val (.int p3), .val (.ref a4), .unset] [(.ref sa103), (.ref a2)])) rfl (by rw [hml]; rfl) (argsL := [(.ref a2), (.ref sa103)]) (rest := []) (lenOf pd__Ljava_lang_Object_Ljava_lang_String__Ljava_lang_Object_ rfl) rfl (by show 2 * 0 + _ ≤ _; exact Nat.le_of_eq rfl) (hb hby dT0_7) (fun _ _ => ⟨rfl, e103, (by decide : 2 + 0 ≤ _), (by decide : 20 + 0 ≤ _)⟩)
  dsimp only [Pt.U, Pt.locs, Pt.cells, Pt.slots] at X110 l110 y110 z110 st110 hQ110
  subst l110 y110 z110
  obtain ⟨rfl, rfl, e110⟩ := hQ110
  have N110 := Fr.app N101 (Fr.nil n0)
  have P111 : ∀ t, Steps p.tables e below (T110.setTop (mkF m 31 #[.val (.ref a1), .val (.ref a2), .val (.int p3), .val (.ref a4), .unset] [(.ref a4)])) t → Steps p.tables e below (s₁.setTop (entryFrame m #[(.ref a1), (.ref a2), (.int p3), (.ref a4)] 5)) t := fun t kt => P102 t (by
    show Steps p.tables e below (T101.setTop (mkF m 5 #[.val (.ref a1), .val (.ref a2), .val (.int p3), .val (.ref a4), .unset] [(.ref a2)])) _
    refine st103 _ ?_
    show Steps p.tables e below (T103.setTop (mkF m 7 #[.val (.ref a1), .val (.ref a2), .val (.int p3), .val (.ref a4), .unset] [(.ref sa103), (.ref a2)])) _
    refine st110 _ ?_
    show Steps p.tables e below (T110.setTop (mkF m 10 #[.val (.ref a1), .val (.ref a2), .val (.int p3), .val (.ref a4), .unset] [(.ref a2)])) _
    refine XS.pop X110.here hx rfl (hb hby dT0_10) rfl rfl ?_
    show Steps p.tables e below (T110.setTop (mkF m 11 #[.val (.ref a1), .val (.ref a2), .val (.int p3), .val (.ref a4), .unset] [])) _
    refine XS.iloadN X110.here hx rfl (hb hby dT0_11) rfl ?_
    show Steps p.tables e below (T110.setTop (mkF m 12 #[.val (.ref a1), .val (.ref a2), .val (.int p3), .val (.ref a4), .unset] [(.int p3)])) _
    refine XS.iconst X110.here hx rfl (hb hby dT0_12) ?_
    show Steps p.tables e below (T110.setTop (mkF m 13 #[.val (.ref a1), .val (.ref a2), .val (.int p3), .val (.ref a4), .unset] [(.int (1 : Int32)), (.int p3)])) _
    refine XS.icmpYes X110.here hx rfl (pc0 := 13) (pc' := 30) rfl (hb hby dT0_13) rfl (flt (hp : ¬ (p3 < (1 : Int32)))).2.1 (by decide) (by decide) ?_
    show Steps p.tables e below (T110.setTop (mkF m 30 #[.val (.ref a1), .val (.ref a2), .val (.int p3), .val (.ref a4), .unset] [])) _
    refine XS.aloadN X110.here hx rfl (hb hby dT0_30) rfl rfl ?_
    exact kt)
  obtain ⟨sa112, T112, h112, j112, X112, e112, E112, hS112, hk112, hZ, hown, st112⟩ := ldcS X110 hx hZ hown (hw _ (List.mem_of_getElem? (i := 55) rfl)) (own_wS hw) e110 hS103 hk103 (g := (mkF m 31 #[.val (.ref a1), .val (.ref a2), .val (.int p3), .val (.ref a4), .unset] [(.ref a4)])) rfl (hb hby dT0_31) (n := 44) (by decide) (by decide) (by decide) (by decide)
  have f113 := f104.ext E112
  have f114 := f105.ext E112
  have f115 := f106.ext E112
  have f116 := f107.ext E112
  have f117 := f108.ext E112
  have f118 := f109.ext E112
  have sz112 : n0 ≤ h112.size := Nat.le_trans sz103 E112.1
  have K112 : Keep h0 h112 [a1] := K103.ext E112
  obtain ⟨_, _, ⟨T119, L119, k119, n119⟩, -, X119, ⟨Lc119, hQ119, l119, y119, z119⟩, st119⟩ := Jvm.LawKit.callS X112 hx (y := (⟨"java/util/Objects", "requireNonNull", "(Ljava/lang/Object;Ljava/lang/String;)Ljava/lang/Object;"⟩ : MethodName)) hown (mvT hZ (hw _ (List.mem_of_getElem? (i := 51) rfl))) (mvT hZ (hw _ (List.mem_of_getElem? (i := 52) rfl))) (mvT hZ (hw _ (List.mem_of_getElem? (i := 53) rfl))) (mvT hZ (hw _ (List.mem_of_getElem? (i := 54) rfl))) (by decide) (backOf (W := 0)  (rmNN l Z a0 hw [] a4 sa112 h112) hZ (hw _ (List.mem_of_getElem? (i := 54) rfl)) (hw _ (List.mem_of_getElem? (i := 53) rfl)) (by decide) (by decide)) (g := (mkF m 33 #[.val (.ref a1), .val (.ref a2), .val (.int p3), .val (.ref a4), .unset] [(.ref sa112), (.ref a4)])) rfl (by rw [hml]; rfl) (argsL := [(.ref a4), (.ref sa112)]) (rest := []) (lenOf pd__Ljava_lang_Object_Ljava_lang_String__Ljava_lang_Object_ rfl) rfl (by show 2 * 0 + _ ≤ _; exact Nat.le_of_eq rfl) (hb hby dT0_33) (fun _ _ => ⟨rfl, e112, (by decide : 4 + 0 ≤ _), (by decide : 68 + 0 ≤ _)⟩)
  dsimp only [Pt.U, Pt.locs, Pt.cells, Pt.slots] at X119 l119 y119 z119 st119 hQ119
  subst l119 y119 z119
  obtain ⟨rfl, rfl, e119⟩ := hQ119
  have N119 := Fr.app N110 (Fr.nil n0)
  obtain ⟨T120, X120, e120, st120⟩ := castY X119 hx hZ hown (hw _ (List.mem_of_getElem? (i := 56) rfl)) e119 (Ins.self f117) (g := (mkF m 36 #[.val (.ref a1), .val (.ref a2), .val (.int p3), .val (.ref a4), .unset] [(.ref a4)])) rfl rfl (hb hby dT0_36)
  obtain ⟨T121, h121, X121, e121, E121, V121, A121, st121⟩ := cloneH X120 hx hZ hown (hw _ (List.mem_of_getElem? (i := 58) rfl)) (hw _ (List.mem_of_getElem? (i := 59) rfl)) (hw _ (List.mem_of_getElem? (i := 63) rfl)) (hw _ (List.mem_of_getElem? (i := 61) rfl)) (hw _ (List.mem_of_getElem? (i := 62) rfl)) (hw _ (List.mem_of_getElem? (i := 64) rfl)) e120 (hs := []) f118 f117 (g := (mkF m 39 #[.val (.ref a1), .val (.ref a2), .val (.int p3), .val (.ref a4), .unset] [(.ref a4)])) rfl (by rw [hml]; rfl) rfl (hb hby dT0_39) (by decide) (W := 0) (by show 2 * 0 + _ ≤ _; exact Nat.le_of_eq rfl) (by decide) (cap := 0) (by decide) (by decide) (by decide)
  obtain ⟨b121, g121⟩ : ∃ z, z = h112.size := ⟨_, rfl⟩
  rw [← g121] at A121 V121 st121
  have ne121_a1 : a1 ≠ b121 := Nat.ne_of_lt (Nat.lt_of_lt_of_le f113.lt (Nat.le_of_eq g121.symm))
  have ne121_a4 : a4 ≠ b121 := Nat.ne_of_lt (Nat.lt_of_lt_of_le f117.lt (Nat.le_of_eq g121.symm))
  have gb121 : n0 ≤ b121 := Nat.le_trans sz112 (Nat.le_of_eq g121.symm)
  have sz121 : n0 ≤ h121.size := Nat.le_trans sz112 E121.1
  have hk121 := Nat.le_trans hk112 E121.1
  have sb121 : h0.size ≤ b121 := Nat.le_trans K112.1 (Nat.le_of_eq g121.symm)
  have f122 := f113.ext E121
  have f123 := f114.ext E121
  have f124 := f115.ext E121
  have f125 := f116.ext E121
  have f126 := f117.ext E121
  have f127 := f118.ext E121
  have V121v : Arv Z h121 b121 k .int (0 : Int32) [] (.int (0 : Int32)) := V121
  have K121 : Keep h0 h121 [a1] := K112.ext E121
  obtain ⟨T128, X128, e128, st128⟩ := castY X121 hx hZ hown (hw _ (List.mem_of_getElem? (i := 56) rfl)) e121 (Ins.self A121) (g := (mkF m 42 #[.val (.ref a1), .val (.ref a2), .val (.int p3), .val (.ref a4), .unset] [(.ref b121)])) rfl rfl (hb hby dT0_42)
  obtain ⟨_, _, ⟨T129, L129, k129, n129⟩, -, X129, ⟨Lc129, hQ129, l129, y129, z129⟩, st129⟩ := Jvm.LawKit.callS X128 hx (y := (⟨"java/util/Arrays", "sort", "([I)V"⟩ : MethodName)) hown (mvT hZ (hw _ (List.mem_of_getElem? (i := 65) rfl))) (mvT hZ (hw _ (List.mem_of_getElem? (i := 66) rfl))) (mvT hZ (hw _ (List.mem_of_getElem? (i := 67) rfl))) (mvT hZ (hw _ (List.mem_of_getElem? (i := 68) rfl))) (by decide) (backOf (W := 0)  (rmAS0 l Z a0 hw [] b121 k  h121 n0 sz121 V121v gb121 ) hZ (hw _ (List.mem_of_getElem? (i := 68) rfl)) (hw _ (List.mem_of_getElem? (i := 67) rfl)) (by decide) (by decide)) (g := (mkF m 47 #[.val (.ref a1), .val (.ref a2), .val (.int p3), .val (.ref b121), .unset] [(.ref b121)])) rfl (by rw [hml]; rfl) (argsL := [(.ref b121)]) (rest := []) (lenOf pd___I_V rfl) rfl (by show 2 * 0 + _ ≤ _; exact Nat.le_of_eq rfl) (hb hby dT0_47) (fun _ _ => ⟨rfl, e128, (by decide : 5 + 0 ≤ _), (by decide : 68 + 0 ≤ _)⟩)
  dsimp only [Pt.U, Pt.locs, Pt.cells, Pt.slots] at X129 l129 y129 z129 st129 hQ129
  subst l129 y129 z129
  obtain ⟨rfl, Nq129, K129x, V129x⟩ := hQ129
  have N129 := Fr.app N119 Nq129
  have sz129 : n0 ≤ T129.heap.size := Nat.le_trans sz121 K129x.1
  have hk129 := Nat.le_trans hk121 K129x.1
  have f130 := f122.keep K129x
  have f131 := f123.keep K129x (own_nm ne121_a1)
  have f132 := f124.keep K129x (own_nm ne121_a1)
  have f133 := f125.keep K129x (own_nm ne121_a1)
  have f134 := f126.keep K129x
  have f135 := f127.keep K129x (own_nm ne121_a4)
  have f136 := A121.keep K129x
  have K129 : Keep h0 T129.heap [a1] := K121.trans K129x (fun x hx => by cases List.mem_singleton.mp hx; exact Or.inr sb121)
  obtain ⟨cl137, Ar137, q137, S137, Nn137, H137, G137⟩ := id V129x
  obtain ⟨T138, h138, X138, e138, W138, st138⟩ := putF X129 hx hZ hown (host := "") (Or.inl (hw _ (List.mem_of_getElem? (i := 79) rfl))) Via.refl rfl f131 f130 (Or.inr ⟨(hw _ (List.mem_of_getElem? (i := 80) rfl)), rfl, hnm⟩) (hw _ (List.mem_of_getElem? (i := 37) rfl)) (ty := (.object "java/lang/String")) (by decide) rfl rfl (g := (mkF m 114 #[.val (.ref a1), .val (.ref a2), .val (.int p3), .val (.ref b121), .val (.int (0 : Int32))] [(.ref a2), (.ref a1)])) rfl rfl (hb hby dT0_114)
  have f139 := f130.wr W138
  have f140 := f132.other W138 (Or.inr (slot_ne (Or.inr (hw _ (List.mem_of_getElem? (i := 82) rfl))) (Or.inr (hw _ (List.mem_of_getElem? (i := 80) rfl))) (by decide) (t := .int) (t' := (.object "java/lang/String")) (by decide) (by decide)))
  have f141 := f133.other W138 (Or.inr (slot_ne (Or.inr (hw _ (List.mem_of_getElem? (i := 84) rfl))) (Or.inr (hw _ (List.mem_of_getElem? (i := 80) rfl))) (by decide) (t := (.array .int)) (t' := (.object "java/lang/String")) (by decide) (by decide)))
  have f142 := f134.wr W138
  have f143 := f135.other W138 (Ne.symm h14)
  have f144 := f136.wr W138
  have f145 := V129x.other W138 (Ne.symm ne121_a1)
  have F138 := f131.same W138
  have N138 := Fr.snoc X138 N129 ga
  have sz138 : n0 ≤ h138.size := Nat.le_trans sz129 (Keep.of_wr W138).1
  have hk138 := Nat.le_trans hk129 (Keep.of_wr W138).1
  have K138 : Keep h0 h138 [a1] := K129.wr W138 (Or.inl (List.mem_of_getElem? (i := 0) rfl))
  obtain ⟨T146, h146, X146, e146, W146, st146⟩ := putF X138 hx hZ hown (host := "") (Or.inl (hw _ (List.mem_of_getElem? (i := 81) rfl))) Via.refl e138 f140 f139 (Or.inr ⟨(hw _ (List.mem_of_getElem? (i := 82) rfl)), rfl, hnm⟩) (hw _ (List.mem_of_getElem? (i := 37) rfl)) (ty := .int) (by decide) rfl rfl (g := (mkF m 119 #[.val (.ref a1), .val (.ref a2), .val (.int p3), .val (.ref b121), .val (.int (0 : Int32))] [(.int p3), (.ref a1)])) rfl rfl (hb hby dT0_119)
  have f147 := f139.wr W146
  have f148 := f141.other W146 (Or.inr (slot_ne (Or.inr (hw _ (List.mem_of_getElem? (i := 84) rfl))) (Or.inr (hw _ (List.mem_of_getElem? (i := 82) rfl))) (by decide) (t := (.array .int)) (t' := .int) (by decide) (by decide)))
  have f149 := f142.wr W146
  have f150 := f143.other W146 (Ne.symm h14)
  have f151 := f144.wr W146
  have f152 := f145.other W146 (Ne.symm ne121_a1)
  have f153 := F138.other W146 (Or.inr (slot_ne (Or.inr (hw _ (List.mem_of_getElem? (i := 80) rfl))) (Or.inr (hw _ (List.mem_of_getElem? (i := 82) rfl))) (by decide) (t := (.object "java/lang/String")) (t' := .int) (by decide) (by decide)))
  have F146 := f140.same W146
  have N146 := Fr.snoc X146 N138 ga
  have sz146 : n0 ≤ h146.size := Nat.le_trans sz138 (Keep.of_wr W146).1
  have hk146 := Nat.le_trans hk138 (Keep.of_wr W146).1
  have K146 : Keep h0 h146 [a1] := K138.wr W146 (Or.inl (List.mem_of_getElem? (i := 0) rfl))
  obtain ⟨T154, h154, X154, e154, W154, st154⟩ := putF X146 hx hZ hown (host := "") (Or.inl (hw _ (List.mem_of_getElem? (i := 83) rfl))) Via.refl e146 f148 f147 (Or.inr ⟨(hw _ (List.mem_of_getElem? (i := 84) rfl)), rfl, hnm⟩) (hw _ (List.mem_of_getElem? (i := 37) rfl)) (ty := (.array .int)) (by decide) rfl rfl (g := (mkF m 124 #[.val (.ref a1), .val (.ref a2), .val (.int p3), .val (.ref b121), .val (.int (0 : Int32))] [(.ref b121), (.ref a1)])) rfl rfl (hb hby dT0_124)
  have f155 := f147.wr W154
  have f156 := f149.wr W154
  have f157 := f150.other W154 (Ne.symm h14)
  have f158 := f151.wr W154
  have f159 := f152.other W154 (Ne.symm ne121_a1)
  have f160 := f153.other W154 (Or.inr (slot_ne (Or.inr (hw _ (List.mem_of_getElem? (i := 80) rfl))) (Or.inr (hw _ (List.mem_of_getElem? (i := 84) rfl))) (by decide) (t := (.object "java/lang/String")) (t' := (.array .int)) (by decide) (by decide)))
  have f161 := F146.other W154 (Or.inr (slot_ne (Or.inr (hw _ (List.mem_of_getElem? (i := 82) rfl))) (Or.inr (hw _ (List.mem_of_getElem? (i := 84) rfl))) (by decide) (t := .int) (t' := (.array .int)) (by decide) (by decide)))
  have F154 := f148.same W154
  have N154 := Fr.snoc X154 N146 ga
  have sz154 : n0 ≤ h154.size := Nat.le_trans sz146 (Keep.of_wr W154).1
  have hk154 := Nat.le_trans hk146 (Keep.of_wr W154).1
  have K154 : Keep h0 h154 [a1] := K146.wr W154 (Or.inl (List.mem_of_getElem? (i := 0) rfl))
  have P162 : ∀ t, Steps p.tables e below (T154.setTop (mkF m 127 #[.val (.ref a1), .val (.ref a2), .val (.int p3), .val (.ref b121), .val (.int (0 : Int32))] [])) t → Steps p.tables e below (s₁.setTop (entryFrame m #[(.ref a1), (.ref a2), (.int p3), (.ref a4)] 5)) t := fun t kt => P111 t (by
    show Steps p.tables e below (T110.setTop (mkF m 31 #[.val (.ref a1), .val (.ref a2), .val (.int p3), .val (.ref a4), .unset] [(.ref a4)])) _
    refine st112 _ ?_
    show Steps p.tables e below (T112.setTop (mkF m 33 #[.val (.ref a1), .val (.ref a2), .val (.int p3), .val (.ref a4), .unset] [(.ref sa112), (.ref a4)])) _
    refine st119 _ ?_
    show Steps p.tables e below (T119.setTop (mkF m 36 #[.val (.ref a1), .val (.ref a2), .val (.int p3), .val (.ref a4), .unset] [(.ref a4)])) _
    refine st120 _ ?_
    show Steps p.tables e below (T120.setTop (mkF m 39 #[.val (.ref a1), .val (.ref a2), .val (.int p3), .val (.ref a4), .unset] [(.ref a4)])) _
    refine st121 _ ?_
    show Steps p.tables e below (T121.setTop (mkF m 42 #[.val (.ref a1), .val (.ref a2), .val (.int p3), .val (.ref a4), .unset] [(.ref b121)])) _
    refine st128 _ ?_
    show Steps p.tables e below (T128.setTop (mkF m 45 #[.val (.ref a1), .val (.ref a2), .val (.int p3), .val (.ref a4), .unset] [(.ref b121)])) _
    refine XS.astoreN X128.here hx rfl (hb hby dT0_45) rfl rfl (l' := #[.val (.ref a1), .val (.ref a2), .val (.int p3), .val (.ref b121), .unset]) rfl ?_
    show Steps p.tables e below (T128.setTop (mkF m 46 #[.val (.ref a1), .val (.ref a2), .val (.int p3), .val (.ref b121), .unset] [])) _
    refine XS.aloadN X128.here hx rfl (hb hby dT0_46) rfl rfl ?_
    show Steps p.tables e below (T128.setTop (mkF m 47 #[.val (.ref a1), .val (.ref a2), .val (.int p3), .val (.ref b121), .unset] [(.ref b121)])) _
    refine st129 _ ?_
    show Steps p.tables e below (T129.setTop (mkF m 50 #[.val (.ref a1), .val (.ref a2), .val (.int p3), .val (.ref b121), .unset] [])) _
    refine XS.iconst X129.here hx rfl (hb hby dT0_50) ?_
    show Steps p.tables e below (T129.setTop (mkF m 51 #[.val (.ref a1), .val (.ref a2), .val (.int p3), .val (.ref b121), .unset] [(.int (0 : Int32))])) _
    refine XS.istore X129.here hx rfl (hb hby dT0_51) rfl (l' := #[.val (.ref a1), .val (.ref a2), .val (.int p3), .val (.ref b121), .val (.int (0 : Int32))]) rfl ?_
    show Steps p.tables e below (T129.setTop (mkF m 53 #[.val (.ref a1), .val (.ref a2), .val (.int p3), .val (.ref b121), .val (.int (0 : Int32))] [])) _
    refine XS.iload X129.here hx rfl (hb hby dT0_53) rfl ?_
    show Steps p.tables e below (T129.setTop (mkF m 55 #[.val (.ref a1), .val (.ref a2), .val (.int p3), .val (.ref b121), .val (.int (0 : Int32))] [(.int (0 : Int32))])) _
    refine XS.aloadN X129.here hx rfl (hb hby dT0_55) rfl rfl ?_
    show Steps p.tables e below (T129.setTop (mkF m 56 #[.val (.ref a1), .val (.ref a2), .val (.int p3), .val (.ref b121), .val (.int (0 : Int32))] [(.ref b121), (.int (0 : Int32))])) _
    refine X129.arraylength hx Ar137.1 (State.isArrayOf_alike hZ.alike Ar137.2.1) (g := (mkF m 56 #[.val (.ref a1), .val (.ref a2), .val (.int p3), .val (.ref b121), .val (.int (0 : Int32))] [(.ref b121), (.int (0 : Int32))])) rfl rfl (hb hby dT0_56) _ ?_
    rw [len_of S137 Nn137]
    show Steps p.tables e below (T129.setTop (mkF m 57 #[.val (.ref a1), .val (.ref a2), .val (.int p3), .val (.ref b121), .val (.int (0 : Int32))] [(.int (0 : Int32)), (.int (0 : Int32))])) _
    refine XS.icmpYes X129.here hx rfl (pc0 := 57) (pc' := 112) rfl (hb hby dT0_57) rfl (flt ((by decide) : ¬ ((0 : Int32) < (0 : Int32)))).2.1 (by decide) (by decide) ?_
    show Steps p.tables e below (T129.setTop (mkF m 112 #[.val (.ref a1), .val (.ref a2), .val (.int p3), .val (.ref b121), .val (.int (0 : Int32))] [])) _
    refine XS.aloadN X129.here hx rfl (hb hby dT0_112) rfl rfl ?_
    show Steps p.tables e below (T129.setTop (mkF m 113 #[.val (.ref a1), .val (.ref a2), .val (.int p3), .val (.ref b121), .val (.int (0 : Int32))] [(.ref a1)])) _
    refine XS.aloadN X129.here hx rfl (hb hby dT0_113) rfl rfl ?_
    show Steps p.tables e below (T129.setTop (mkF m 114 #[.val (.ref a1), .val (.ref a2), .val (.int p3), .val (.ref b121), .val (.int (0 : Int32))] [(.ref a2), (.ref a1)])) _
    refine st138 _ ?_
    show Steps p.tables e below (T138.setTop (mkF m 117 #[.val (.ref a1), .val (.ref a2), .val (.int p3), .val (.ref b121), .val (.int (0 : Int32))] [])) _
    refine XS.aloadN X138.here hx rfl (hb hby dT0_117) rfl rfl ?_
    show Steps p.tables e below (T138.setTop (mkF m 118 #[.val (.ref a1), .val (.ref a2), .val (.int p3), .val (.ref b121), .val (.int (0 : Int32))] [(.ref a1)])) _
    refine XS.iloadN X138.here hx rfl (hb hby dT0_118) rfl ?_
    show Steps p.tables e below (T138.setTop (mkF m 119 #[.val (.ref a1), .val (.ref a2), .val (.int p3), .val (.ref b121), .val (.int (0 : Int32))] [(.int p3), (.ref a1)])) _
    refine st146 _ ?_
    show Steps p.tables e below (T146.setTop (mkF m 122 #[.val (.ref a1), .val (.ref a2), .val (.int p3), .val (.ref b121), .val (.int (0 : Int32))] [])) _
    refine XS.aloadN X146.here hx rfl (hb hby dT0_122) rfl rfl ?_
    show Steps p.tables e below (T146.setTop (mkF m 123 #[.val (.ref a1), .val (.ref a2), .val (.int p3), .val (.ref b121), .val (.int (0 : Int32))] [(.ref a1)])) _
    refine XS.aloadN X146.here hx rfl (hb hby dT0_123) rfl rfl ?_
    show Steps p.tables e below (T146.setTop (mkF m 124 #[.val (.ref a1), .val (.ref a2), .val (.int p3), .val (.ref b121), .val (.int (0 : Int32))] [(.ref b121), (.ref a1)])) _
    refine st154 _ ?_
    exact kt)
  obtain ⟨fs, hr, hrun, hended, hE1, hE2, hE3, hE4⟩ := X154.leaveW hS112 (by rw [e154]; exact hk154) (v := none) (fun _ => rfl) (hlocks := hlk)
  refine ⟨_, _, P162 _ ?_, hrun, hended, _, _, rfl, ?_, hE1, hE2, hE3, hE4.mono (by decide) (by decide)⟩
  · show Steps p.tables e below (T154.setTop (mkF m 127 #[.val (.ref a1), .val (.ref a2), .val (.int p3), .val (.ref b121), .val (.int (0 : Int32))] [])) _
    exact X154.returnOut hx Bd.returns (hb hby dT0_127) hr
  · show QT Z a1 a2 p3 (0 : Int32) [] h0 n0 _ T154.heap _
    rw [e154]
    exact ⟨rfl, N154, K154, f155, f160, f161, b121, k, F154, f159⟩
theorem dIS1_0 : decode jdk_2529_method_6_code 0 = .ok (.iload_n 1, 1) := by decide +kernel
theorem dIS1_1 : decode jdk_2529_method_6_code 1 = .ok (.istore 4, 2) := by decide +kernel
theorem dIS1_3 : decode jdk_2529_method_6_code 3 = .ok (.iinc 4 1, 3) := by decide +kernel
theorem dIS1_6 : decode jdk_2529_method_6_code 6 = .ok (.iload 4, 2) := by decide +kernel
theorem dIS1_8 : decode jdk_2529_method_6_code 8 = .ok (.iload_n 2, 1) := by decide +kernel
theorem dIS1_9 : decode jdk_2529_method_6_code 9 = .ok (.if_icmp .ge 58, 3) := by decide +kernel
theorem dIS1_67 : decode jdk_2529_method_6_code 67 = .ok (.return_, 1) := by decide +kernel
theorem ef_IS1 (m : MethodId) (x0 : Addr) : entryFrame m #[(.ref x0), (.int (0 : Int32)), (.int (1 : Int32))] 6 = mkF m 0 #[.val (.ref x0), .val (.int (0 : Int32)), .val (.int (1 : Int32)), .unset, .unset, .unset] [] := by first | (simp [entryFrame, mkF, argsToLocals, Value.category]; done) | rfl
set_option maxRecDepth 65536 in
set_option maxHeartbeats 40000000 in
theorem rmIS1 (l : Launch) (Z : State) (a0 : Array Value) (hw : ∀ d ∈ tables_1, d.before a0 Z = true) (ws : List Jvm.Cond) (a1 : Addr) (k : ClassId) (x0 : Int32) (h0 : Heap) (n0 : Nat) (Z0 : n0 ≤ h0.size) (V1 : Arv Z h0 a1 k .int (1 : Int32) [(.int x0)] (.int (0 : Int32))) (ga : n0 ≤ a1) :
    MetFree l (⟨"java/util/DualPivotQuicksort", "insertionSort", "([III)V"⟩ : MethodName) (head1 (Jvm.Cond.code (⟨"java/util/DualPivotQuicksort", "insertionSort", "([III)V"⟩ : MethodName) jdk_2529_method_6_code 6 none :: ws) ({ frames := 0, cells := 0, slots := 0, locals := 0 } : Room)) (fun a U => a = #[(.ref a1), (.int (0 : Int32)), (.int (1 : Int32))] ∧ Z.Warmed39 U.vm ∧ U.heap = h0) (fun _ _ _ _ _ => True) (fun _ U o U' => ∃ v L, o = .returned v ∧ QS Z a1 k (1 : Int32) [(.int x0)] h0 n0 v U'.heap L ∧ FrameEnd U o U' L ({ frames := 0, cells := 0, slots := 0, locals := 0 } : Room).cells ({ frames := 0, cells := 0, slots := 0, locals := 0 } : Room).slots) := by
  refine MetFree.of_bodySF (plainFor_of_name (by first | (simp [plainName, overriddenIn]; done) | decide +kernel)) hisR ?_
  intro p e s m args below meth c s₁ Bd hml0 hP hK
  obtain ⟨rfl, hZ, hh⟩ := hP
  have hx := Bd.exec
  have hby := Bd.bytes
  have hml : c.maxLocals = 6 := hml0
  have hown : s.vm.findClass "java/util/DualPivotQuicksort" = some m.cls := findClass_of_methodNamed Bd.named
  have hnm := (name_of_methodNamed Bd.named Bd.method).1
  have hlk : meth.locks = false := BodyLoose.notSynchronized Bd
  have X0 : Stand p l e ({ frames := 0, cells := 0, slots := 0, locals := 0 } : Room) s m #[(.ref a1), (.int (0 : Int32)), (.int (1 : Int32))] below meth c s₁ [] 0 0 := Stand.of_body Bd
  have e0 : s₁.heap = h0 := by rw [← hh, Bd.state]; rfl
  have P0 : ∀ t, Steps p.tables e below (s₁.setTop (mkF m 0 #[.val (.ref a1), .val (.int (0 : Int32)), .val (.int (1 : Int32)), .unset, .unset, .unset] [])) t → Steps p.tables e below (s₁.setTop (entryFrame m #[(.ref a1), (.int (0 : Int32)), (.int (1 : Int32))] 6)) t := fun t kt => castTop (ef_IS1 m a1) kt
  have N0 := Fr.nil n0
  have K0 := Keep.refl h0 [a1]
  have P101 : ∀ t, Steps p.tables e below (s₁.setTop (mkF m 67 #[.val (.ref a1), .val (.int (0 : Int32)), .val (.int (1 : Int32)), .unset, .val (.int (1 : Int32)), .unset] [])) t → Steps p.tables e below (s₁.setTop (entryFrame m #[(.ref a1), (.int (0 : Int32)), (.int (1 : Int32))] 6)) t := fun t kt => P0 t (by
    show Steps p.tables e below (s₁.setTop (mkF m 0 #[.val (.ref a1), .val (.int (0 : Int32)), .val (.int (1 : Int32)), .unset, .unset, .unset] [])) _
    refine XS.iloadN X0.here hx rfl (hb hby dIS1_0) rfl ?_
    show Steps p.tables e below (s₁.setTop (mkF m 1 #[.val (.ref a1), .val (.int (0 : Int32)), .val (.int (1 : Int32)), .unset, .unset, .unset] [(.int (0 : Int32))])) _
    refine XS.istore X0.here hx rfl (hb hby dIS1_1) rfl (l' := #[.val (.ref a1), .val (.int (0 : Int32)), .val (.int (1 : Int32)), .unset, .val (.int (0 : Int32)), .unset]) rfl ?_
    show Steps p.tables e below (s₁.setTop (mkF m 3 #[.val (.ref a1), .val (.int (0 : Int32)), .val (.int (1 : Int32)), .unset, .val (.int (0 : Int32)), .unset] [])) _
    refine XS.iinc X0.here hx rfl (hb hby dIS1_3) rfl (l' := #[.val (.ref a1), .val (.int (0 : Int32)), .val (.int (1 : Int32)), .unset, .val (.int (1 : Int32)), .unset]) rfl ?_
    show Steps p.tables e below (s₁.setTop (mkF m 6 #[.val (.ref a1), .val (.int (0 : Int32)), .val (.int (1 : Int32)), .unset, .val (.int (1 : Int32)), .unset] [])) _
    refine XS.iload X0.here hx rfl (hb hby dIS1_6) rfl ?_
    show Steps p.tables e below (s₁.setTop (mkF m 8 #[.val (.ref a1), .val (.int (0 : Int32)), .val (.int (1 : Int32)), .unset, .val (.int (1 : Int32)), .unset] [(.int (1 : Int32))])) _
    refine XS.iloadN X0.here hx rfl (hb hby dIS1_8) rfl ?_
    show Steps p.tables e below (s₁.setTop (mkF m 9 #[.val (.ref a1), .val (.int (0 : Int32)), .val (.int (1 : Int32)), .unset, .val (.int (1 : Int32)), .unset] [(.int (1 : Int32)), (.int (1 : Int32))])) _
    refine XS.icmpYes X0.here hx rfl (pc0 := 9) (pc' := 67) rfl (hb hby dIS1_9) rfl (flt ((by decide) : ¬ ((1 : Int32) < (1 : Int32)))).2.1 (by decide) (by decide) ?_
    exact kt)
  obtain ⟨fs, hr, hrun, hended, hW, hsame⟩ := X0.leave (v := none) (fun _ => rfl) (hlocks := hlk)
  refine ⟨_, _, P101 _ ?_, hrun, hended, _, _, rfl, ?_, ⟨_, rfl⟩, hW, hsame.mono (by decide) (by decide)⟩
  · show Steps p.tables e below (s₁.setTop (mkF m 67 #[.val (.ref a1), .val (.int (0 : Int32)), .val (.int (1 : Int32)), .unset, .val (.int (1 : Int32)), .unset] [])) _
    exact X0.returnOut hx Bd.returns (hb hby dIS1_67) hr
  · show QS Z a1 k (1 : Int32) [(.int x0)] h0 n0 _ s₁.heap _
    rw [e0]
    exact ⟨rfl, N0, K0, V1⟩
theorem dS51_0 : decode jdk_2529_method_4_code 0 = .ok (.iload 4, 2) := by decide +kernel
theorem dS51_2 : decode jdk_2529_method_4_code 2 = .ok (.iconst 1, 1) := by decide +kernel
theorem dS51_3 : decode jdk_2529_method_4_code 3 = .ok (.isub, 1) := by decide +kernel
theorem dS51_4 : decode jdk_2529_method_4_code 4 = .ok (.istore 5, 2) := by decide +kernel
theorem dS51_6 : decode jdk_2529_method_4_code 6 = .ok (.iload 4, 2) := by decide +kernel
theorem dS51_8 : decode jdk_2529_method_4_code 8 = .ok (.iload_n 3, 1) := by decide +kernel
theorem dS51_9 : decode jdk_2529_method_4_code 9 = .ok (.isub, 1) := by decide +kernel
theorem dS51_10 : decode jdk_2529_method_4_code 10 = .ok (.istore 6, 2) := by decide +kernel
theorem dS51_12 : decode jdk_2529_method_4_code 12 = .ok (.iload 6, 2) := by decide +kernel
theorem dS51_14 : decode jdk_2529_method_4_code 14 = .ok (.bipush 65, 2) := by decide +kernel
theorem dS51_16 : decode jdk_2529_method_4_code 16 = .ok (.iload_n 2, 1) := by decide +kernel
theorem dS51_17 : decode jdk_2529_method_4_code 17 = .ok (.iadd, 1) := by decide +kernel
theorem dS51_18 : decode jdk_2529_method_4_code 18 = .ok (.if_icmp .ge 28, 3) := by decide +kernel
theorem dS51_21 : decode jdk_2529_method_4_code 21 = .ok (.iload_n 2, 1) := by decide +kernel
theorem dS51_22 : decode jdk_2529_method_4_code 22 = .ok (.iconst 1, 1) := by decide +kernel
theorem dS51_23 : decode jdk_2529_method_4_code 23 = .ok (.iand, 1) := by decide +kernel
theorem dS51_24 : decode jdk_2529_method_4_code 24 = .ok (.ifCond .le 22, 3) := by decide +kernel
theorem dS51_46 : decode jdk_2529_method_4_code 46 = .ok (.iload 6, 2) := by decide +kernel
theorem dS51_48 : decode jdk_2529_method_4_code 48 = .ok (.bipush 44, 2) := by decide +kernel
theorem dS51_50 : decode jdk_2529_method_4_code 50 = .ok (.if_icmp .ge 11, 3) := by decide +kernel
theorem dS51_53 : decode jdk_2529_method_4_code 53 = .ok (.aload_n 1, 1) := by decide +kernel
theorem dS51_54 : decode jdk_2529_method_4_code 54 = .ok (.iload_n 3, 1) := by decide +kernel
theorem dS51_55 : decode jdk_2529_method_4_code 55 = .ok (.iload 4, 2) := by decide +kernel
theorem dS51_57 : decode jdk_2529_method_4_code 57 = .ok (.invokestatic 34, 3) := by decide +kernel
theorem dS51_60 : decode jdk_2529_method_4_code 60 = .ok (.return_, 1) := by decide +kernel
theorem ef_S51 (m : MethodId) (x1 : Addr) : entryFrame m #[.null, (.ref x1), (.int (0 : Int32)), (.int (0 : Int32)), (.int (1 : Int32))] 21 = mkF m 0 #[.val .null, .val (.ref x1), .val (.int (0 : Int32)), .val (.int (0 : Int32)), .val (.int (1 : Int32)), .unset, .unset, .unset, .unset, .unset, .unset, .unset, .unset, .unset, .unset, .unset, .unset, .unset, .unset, .unset, .unset] [] := by first | (simp [entryFrame, mkF, argsToLocals, Value.category]; done) | rfl
set_option maxRecDepth 65536 in
set_option maxHeartbeats 40000000 in
theorem rmS51 (l : Launch) (Z : State) (a0 : Array Value) (hw : ∀ d ∈ tables_1, d.before a0 Z = true) (ws : List Jvm.Cond) (a1 : Addr) (k : ClassId) (x0 : Int32) (h0 : Heap) (n0 : Nat) (Z0 : n0 ≤ h0.size) (V1 : Arv Z h0 a1 k .int (1 : Int32) [(.int x0)] (.int (0 : Int32))) (ga : n0 ≤ a1) :
    MetFree l (⟨"java/util/DualPivotQuicksort", "sort", "(Ljava/util/DualPivotQuicksort$Sorter;[IIII)V"⟩ : MethodName) (head1 (Jvm.Cond.code (⟨"java/util/DualPivotQuicksort", "sort", "(Ljava/util/DualPivotQuicksort$Sorter;[IIII)V"⟩ : MethodName) jdk_2529_method_4_code 21 none :: ws) ({ frames := 1, cells := 0, slots := 0, locals := 17 } : Room)) (fun a U => a = #[.null, (.ref a1), (.int (0 : Int32)), (.int (0 : Int32)), (.int (1 : Int32))] ∧ Z.Warmed39 U.vm ∧ U.heap = h0) (fun _ _ _ _ _ => True) (fun _ U o U' => ∃ v L, o = .returned v ∧ QS Z a1 k (1 : Int32) [(.int x0)] h0 n0 v U'.heap L ∧ FrameEnd U o U' L ({ frames := 1, cells := 0, slots := 0, locals := 17 } : Room).cells ({ frames := 1, cells := 0, slots := 0, locals := 17 } : Room).slots) := by
  refine MetFree.of_bodySF (plainFor_of_name (by first | (simp [plainName, overriddenIn]; done) | decide +kernel)) hisR ?_
  intro p e s m args below meth c s₁ Bd hml0 hP hK
  obtain ⟨rfl, hZ, hh⟩ := hP
  have hx := Bd.exec
  have hby := Bd.bytes
  have hml : c.maxLocals = 21 := hml0
  have hown : s.vm.findClass "java/util/DualPivotQuicksort" = some m.cls := findClass_of_methodNamed Bd.named
  have hnm := (name_of_methodNamed Bd.named Bd.method).1
  have hlk : meth.locks = false := BodyLoose.notSynchronized Bd
  have X0 : Stand p l e ({ frames := 1, cells := 0, slots := 0, locals := 17 } : Room) s m #[.null, (.ref a1), (.int (0 : Int32)), (.int (0 : Int32)), (.int (1 : Int32))] below meth c s₁ [] 0 0 := Stand.of_body Bd
  have e0 : s₁.heap = h0 := by rw [← hh, Bd.state]; rfl
  have P0 : ∀ t, Steps p.tables e below (s₁.setTop (mkF m 0 #[.val .null, .val (.ref a1), .val (.int (0 : Int32)), .val (.int (0 : Int32)), .val (.int (1 : Int32)), .unset, .unset, .unset, .unset, .unset, .unset, .unset, .unset, .unset, .unset, .unset, .unset, .unset, .unset, .unset, .unset] [])) t → Steps p.tables e below (s₁.setTop (entryFrame m #[.null, (.ref a1), (.int (0 : Int32)), (.int (0 : Int32)), (.int (1 : Int32))] 21)) t := fun t kt => castTop (ef_S51 m a1) kt
  have N0 := Fr.nil n0
  have K0 := Keep.refl h0 [a1]
  obtain ⟨_, _, ⟨T101, L101, k101, n101⟩, -, X101, ⟨Lc101, hQ101, l101, y101, z101⟩, st101⟩ := Jvm.LawKit.callS X0 hx (y := (⟨"java/util/DualPivotQuicksort", "insertionSort", "([III)V"⟩ : MethodName)) hown (mvT hZ (hw _ (List.mem_of_getElem? (i := 76) rfl))) (mvT hZ (hw _ (List.mem_of_getElem? (i := 77) rfl))) (mvT hZ (hw _ (List.mem_of_getElem? (i := 71) rfl))) (mvT hZ (hw _ (List.mem_of_getElem? (i := 78) rfl))) (by decide) (backOf (W := 0)  (rmIS1 l Z a0 hw [] a1 k x0 h0 n0 Z0 V1 ga ) hZ (hw _ (List.mem_of_getElem? (i := 78) rfl)) (hw _ (List.mem_of_getElem? (i := 71) rfl)) (by decide) (by decide)) (g := (mkF m 57 #[.val .null, .val (.ref a1), .val (.int (0 : Int32)), .val (.int (0 : Int32)), .val (.int (1 : Int32)), .val (.int (0 : Int32)), .val (.int (1 : Int32)), .unset, .unset, .unset, .unset, .unset, .unset, .unset, .unset, .unset, .unset, .unset, .unset, .unset, .unset] [(.int (1 : Int32)), (.int (0 : Int32)), (.ref a1)])) rfl (by rw [hml]; rfl) (argsL := [(.ref a1), (.int (0 : Int32)), (.int (1 : Int32))]) (rest := []) (lenOf pd___III_V rfl) rfl (by show 2 * 0 + _ ≤ _; exact Nat.le_of_eq rfl) (hb hby dS51_57) (fun _ _ => ⟨rfl, e0, (by decide : 0 + 0 ≤ _), (by decide : 0 + 0 ≤ _)⟩)
  dsimp only [Pt.U, Pt.locs, Pt.cells, Pt.slots] at X101 l101 y101 z101 st101 hQ101
  subst l101 y101 z101
  obtain ⟨rfl, Nq101, K101x, V101x⟩ := hQ101
  have N101 := Fr.app N0 Nq101
  have sz101 : n0 ≤ T101.heap.size := Nat.le_trans Z0 K101x.1
  have K101 : Keep h0 T101.heap [a1] := K0.trans K101x (fun x hx => by cases List.mem_singleton.mp hx; exact Or.inl (List.mem_of_getElem? (i := 0) rfl))
  have P102 : ∀ t, Steps p.tables e below (T101.setTop (mkF m 60 #[.val .null, .val (.ref a1), .val (.int (0 : Int32)), .val (.int (0 : Int32)), .val (.int (1 : Int32)), .val (.int (0 : Int32)), .val (.int (1 : Int32)), .unset, .unset, .unset, .unset, .unset, .unset, .unset, .unset, .unset, .unset, .unset, .unset, .unset, .unset] [])) t → Steps p.tables e below (s₁.setTop (entryFrame m #[.null, (.ref a1), (.int (0 : Int32)), (.int (0 : Int32)), (.int (1 : Int32))] 21)) t := fun t kt => P0 t (by
    show Steps p.tables e below (s₁.setTop (mkF m 0 #[.val .null, .val (.ref a1), .val (.int (0 : Int32)), .val (.int (0 : Int32)), .val (.int (1 : Int32)), .unset, .unset, .unset, .unset, .unset, .unset, .unset, .unset, .unset, .unset, .unset, .unset, .unset, .unset, .unset, .unset] [])) _
    refine XS.iload X0.here hx rfl (hb hby dS51_0) rfl ?_
    show Steps p.tables e below (s₁.setTop (mkF m 2 #[.val .null, .val (.ref a1), .val (.int (0 : Int32)), .val (.int (0 : Int32)), .val (.int (1 : Int32)), .unset, .unset, .unset, .unset, .unset, .unset, .unset, .unset, .unset, .unset, .unset, .unset, .unset, .unset, .unset, .unset] [(.int (1 : Int32))])) _
    refine XS.iconst X0.here hx rfl (hb hby dS51_2) ?_
    show Steps p.tables e below (s₁.setTop (mkF m 3 #[.val .null, .val (.ref a1), .val (.int (0 : Int32)), .val (.int (0 : Int32)), .val (.int (1 : Int32)), .unset, .unset, .unset, .unset, .unset, .unset, .unset, .unset, .unset, .unset, .unset, .unset, .unset, .unset, .unset, .unset] [(.int (1 : Int32)), (.int (1 : Int32))])) _
    refine XS.isub X0.here hx rfl (hb hby dS51_3) rfl ?_
    show Steps p.tables e below (s₁.setTop (mkF m 4 #[.val .null, .val (.ref a1), .val (.int (0 : Int32)), .val (.int (0 : Int32)), .val (.int (1 : Int32)), .unset, .unset, .unset, .unset, .unset, .unset, .unset, .unset, .unset, .unset, .unset, .unset, .unset, .unset, .unset, .unset] [(.int (0 : Int32))])) _
    refine XS.istore X0.here hx rfl (hb hby dS51_4) rfl (l' := #[.val .null, .val (.ref a1), .val (.int (0 : Int32)), .val (.int (0 : Int32)), .val (.int (1 : Int32)), .val (.int (0 : Int32)), .unset, .unset, .unset, .unset, .unset, .unset, .unset, .unset, .unset, .unset, .unset, .unset, .unset, .unset, .unset]) rfl ?_
    show Steps p.tables e below (s₁.setTop (mkF m 6 #[.val .null, .val (.ref a1), .val (.int (0 : Int32)), .val (.int (0 : Int32)), .val (.int (1 : Int32)), .val (.int (0 : Int32)), .unset, .unset, .unset, .unset, .unset, .unset, .unset, .unset, .unset, .unset, .unset, .unset, .unset, .unset, .unset] [])) _
    refine XS.iload X0.here hx rfl (hb hby dS51_6) rfl ?_
    show Steps p.tables e below (s₁.setTop (mkF m 8 #[.val .null, .val (.ref a1), .val (.int (0 : Int32)), .val (.int (0 : Int32)), .val (.int (1 : Int32)), .val (.int (0 : Int32)), .unset, .unset, .unset, .unset, .unset, .unset, .unset, .unset, .unset, .unset, .unset, .unset, .unset, .unset, .unset] [(.int (1 : Int32))])) _
    refine XS.iloadN X0.here hx rfl (hb hby dS51_8) rfl ?_
    show Steps p.tables e below (s₁.setTop (mkF m 9 #[.val .null, .val (.ref a1), .val (.int (0 : Int32)), .val (.int (0 : Int32)), .val (.int (1 : Int32)), .val (.int (0 : Int32)), .unset, .unset, .unset, .unset, .unset, .unset, .unset, .unset, .unset, .unset, .unset, .unset, .unset, .unset, .unset] [(.int (0 : Int32)), (.int (1 : Int32))])) _
    refine XS.isub X0.here hx rfl (hb hby dS51_9) rfl ?_
    show Steps p.tables e below (s₁.setTop (mkF m 10 #[.val .null, .val (.ref a1), .val (.int (0 : Int32)), .val (.int (0 : Int32)), .val (.int (1 : Int32)), .val (.int (0 : Int32)), .unset, .unset, .unset, .unset, .unset, .unset, .unset, .unset, .unset, .unset, .unset, .unset, .unset, .unset, .unset] [(.int (1 : Int32))])) _
    refine XS.istore X0.here hx rfl (hb hby dS51_10) rfl (l' := #[.val .null, .val (.ref a1), .val (.int (0 : Int32)), .val (.int (0 : Int32)), .val (.int (1 : Int32)), .val (.int (0 : Int32)), .val (.int (1 : Int32)), .unset, .unset, .unset, .unset, .unset, .unset, .unset, .unset, .unset, .unset, .unset, .unset, .unset, .unset]) rfl ?_
    show Steps p.tables e below (s₁.setTop (mkF m 12 #[.val .null, .val (.ref a1), .val (.int (0 : Int32)), .val (.int (0 : Int32)), .val (.int (1 : Int32)), .val (.int (0 : Int32)), .val (.int (1 : Int32)), .unset, .unset, .unset, .unset, .unset, .unset, .unset, .unset, .unset, .unset, .unset, .unset, .unset, .unset] [])) _
    refine XS.iload X0.here hx rfl (hb hby dS51_12) rfl ?_
    show Steps p.tables e below (s₁.setTop (mkF m 14 #[.val .null, .val (.ref a1), .val (.int (0 : Int32)), .val (.int (0 : Int32)), .val (.int (1 : Int32)), .val (.int (0 : Int32)), .val (.int (1 : Int32)), .unset, .unset, .unset, .unset, .unset, .unset, .unset, .unset, .unset, .unset, .unset, .unset, .unset, .unset] [(.int (1 : Int32))])) _
    refine XS.bipush X0.here hx rfl (hb hby dS51_14) ?_
    show Steps p.tables e below (s₁.setTop (mkF m 16 #[.val .null, .val (.ref a1), .val (.int (0 : Int32)), .val (.int (0 : Int32)), .val (.int (1 : Int32)), .val (.int (0 : Int32)), .val (.int (1 : Int32)), .unset, .unset, .unset, .unset, .unset, .unset, .unset, .unset, .unset, .unset, .unset, .unset, .unset, .unset] [(.int (65 : Int32)), (.int (1 : Int32))])) _
    refine XS.iloadN X0.here hx rfl (hb hby dS51_16) rfl ?_
    show Steps p.tables e below (s₁.setTop (mkF m 17 #[.val .null, .val (.ref a1), .val (.int (0 : Int32)), .val (.int (0 : Int32)), .val (.int (1 : Int32)), .val (.int (0 : Int32)), .val (.int (1 : Int32)), .unset, .unset, .unset, .unset, .unset, .unset, .unset, .unset, .unset, .unset, .unset, .unset, .unset, .unset] [(.int (0 : Int32)), (.int (65 : Int32)), (.int (1 : Int32))])) _
    refine XS.iadd X0.here hx rfl (hb hby dS51_17) rfl ?_
    show Steps p.tables e below (s₁.setTop (mkF m 18 #[.val .null, .val (.ref a1), .val (.int (0 : Int32)), .val (.int (0 : Int32)), .val (.int (1 : Int32)), .val (.int (0 : Int32)), .val (.int (1 : Int32)), .unset, .unset, .unset, .unset, .unset, .unset, .unset, .unset, .unset, .unset, .unset, .unset, .unset, .unset] [(.int (65 : Int32)), (.int (1 : Int32))])) _
    refine XS.icmpNo X0.here hx rfl (hb hby dS51_18) rfl (tlt ((by decide) : (1 : Int32) < (65 : Int32))).2.1 ?_
    show Steps p.tables e below (s₁.setTop (mkF m 21 #[.val .null, .val (.ref a1), .val (.int (0 : Int32)), .val (.int (0 : Int32)), .val (.int (1 : Int32)), .val (.int (0 : Int32)), .val (.int (1 : Int32)), .unset, .unset, .unset, .unset, .unset, .unset, .unset, .unset, .unset, .unset, .unset, .unset, .unset, .unset] [])) _
    refine XS.iloadN X0.here hx rfl (hb hby dS51_21) rfl ?_
    show Steps p.tables e below (s₁.setTop (mkF m 22 #[.val .null, .val (.ref a1), .val (.int (0 : Int32)), .val (.int (0 : Int32)), .val (.int (1 : Int32)), .val (.int (0 : Int32)), .val (.int (1 : Int32)), .unset, .unset, .unset, .unset, .unset, .unset, .unset, .unset, .unset, .unset, .unset, .unset, .unset, .unset] [(.int (0 : Int32))])) _
    refine XS.iconst X0.here hx rfl (hb hby dS51_22) ?_
    show Steps p.tables e below (s₁.setTop (mkF m 23 #[.val .null, .val (.ref a1), .val (.int (0 : Int32)), .val (.int (0 : Int32)), .val (.int (1 : Int32)), .val (.int (0 : Int32)), .val (.int (1 : Int32)), .unset, .unset, .unset, .unset, .unset, .unset, .unset, .unset, .unset, .unset, .unset, .unset, .unset, .unset] [(.int (1 : Int32)), (.int (0 : Int32))])) _
    refine XS.iand X0.here hx rfl (hb hby dS51_23) rfl ?_
    show Steps p.tables e below (s₁.setTop (mkF m 24 #[.val .null, .val (.ref a1), .val (.int (0 : Int32)), .val (.int (0 : Int32)), .val (.int (1 : Int32)), .val (.int (0 : Int32)), .val (.int (1 : Int32)), .unset, .unset, .unset, .unset, .unset, .unset, .unset, .unset, .unset, .unset, .unset, .unset, .unset, .unset] [(.int (0 : Int32))])) _
    refine XS.ifYes X0.here hx rfl (pc0 := 24) (pc' := 46) rfl (hb hby dS51_24) rfl ((if0 _ _).trans (flt ((by decide) : ¬ ((0 : Int32) < (0 : Int32)))).2.2.2) (by decide) (by decide) ?_
    show Steps p.tables e below (s₁.setTop (mkF m 46 #[.val .null, .val (.ref a1), .val (.int (0 : Int32)), .val (.int (0 : Int32)), .val (.int (1 : Int32)), .val (.int (0 : Int32)), .val (.int (1 : Int32)), .unset, .unset, .unset, .unset, .unset, .unset, .unset, .unset, .unset, .unset, .unset, .unset, .unset, .unset] [])) _
    refine XS.iload X0.here hx rfl (hb hby dS51_46) rfl ?_
    show Steps p.tables e below (s₁.setTop (mkF m 48 #[.val .null, .val (.ref a1), .val (.int (0 : Int32)), .val (.int (0 : Int32)), .val (.int (1 : Int32)), .val (.int (0 : Int32)), .val (.int (1 : Int32)), .unset, .unset, .unset, .unset, .unset, .unset, .unset, .unset, .unset, .unset, .unset, .unset, .unset, .unset] [(.int (1 : Int32))])) _
    refine XS.bipush X0.here hx rfl (hb hby dS51_48) ?_
    show Steps p.tables e below (s₁.setTop (mkF m 50 #[.val .null, .val (.ref a1), .val (.int (0 : Int32)), .val (.int (0 : Int32)), .val (.int (1 : Int32)), .val (.int (0 : Int32)), .val (.int (1 : Int32)), .unset, .unset, .unset, .unset, .unset, .unset, .unset, .unset, .unset, .unset, .unset, .unset, .unset, .unset] [(.int (44 : Int32)), (.int (1 : Int32))])) _
    refine XS.icmpNo X0.here hx rfl (hb hby dS51_50) rfl (tlt ((by decide) : (1 : Int32) < (44 : Int32))).2.1 ?_
    show Steps p.tables e below (s₁.setTop (mkF m 53 #[.val .null, .val (.ref a1), .val (.int (0 : Int32)), .val (.int (0 : Int32)), .val (.int (1 : Int32)), .val (.int (0 : Int32)), .val (.int (1 : Int32)), .unset, .unset, .unset, .unset, .unset, .unset, .unset, .unset, .unset, .unset, .unset, .unset, .unset, .unset] [])) _
    refine XS.aloadN X0.here hx rfl (hb hby dS51_53) rfl rfl ?_
    show Steps p.tables e below (s₁.setTop (mkF m 54 #[.val .null, .val (.ref a1), .val (.int (0 : Int32)), .val (.int (0 : Int32)), .val (.int (1 : Int32)), .val (.int (0 : Int32)), .val (.int (1 : Int32)), .unset, .unset, .unset, .unset, .unset, .unset, .unset, .unset, .unset, .unset, .unset, .unset, .unset, .unset] [(.ref a1)])) _
    refine XS.iloadN X0.here hx rfl (hb hby dS51_54) rfl ?_
    show Steps p.tables e below (s₁.setTop (mkF m 55 #[.val .null, .val (.ref a1), .val (.int (0 : Int32)), .val (.int (0 : Int32)), .val (.int (1 : Int32)), .val (.int (0 : Int32)), .val (.int (1 : Int32)), .unset, .unset, .unset, .unset, .unset, .unset, .unset, .unset, .unset, .unset, .unset, .unset, .unset, .unset] [(.int (0 : Int32)), (.ref a1)])) _
    refine XS.iload X0.here hx rfl (hb hby dS51_55) rfl ?_
    show Steps p.tables e below (s₁.setTop (mkF m 57 #[.val .null, .val (.ref a1), .val (.int (0 : Int32)), .val (.int (0 : Int32)), .val (.int (1 : Int32)), .val (.int (0 : Int32)), .val (.int (1 : Int32)), .unset, .unset, .unset, .unset, .unset, .unset, .unset, .unset, .unset, .unset, .unset, .unset, .unset, .unset] [(.int (1 : Int32)), (.int (0 : Int32)), (.ref a1)])) _
    refine st101 _ ?_
    exact kt)
  obtain ⟨fs, hr, hrun, hended, hW, hsame⟩ := X101.leave (v := none) (fun _ => rfl) (hlocks := hlk)
  refine ⟨_, _, P102 _ ?_, hrun, hended, _, _, rfl, ?_, ⟨_, rfl⟩, hW, hsame.mono (by decide) (by decide)⟩
  · show Steps p.tables e below (T101.setTop (mkF m 60 #[.val .null, .val (.ref a1), .val (.int (0 : Int32)), .val (.int (0 : Int32)), .val (.int (1 : Int32)), .val (.int (0 : Int32)), .val (.int (1 : Int32)), .unset, .unset, .unset, .unset, .unset, .unset, .unset, .unset, .unset, .unset, .unset, .unset, .unset, .unset] [])) _
    exact X101.returnOut hx Bd.returns (hb hby dS51_60) hr
  · show QS Z a1 k (1 : Int32) [(.int x0)] h0 n0 _ T101.heap _
    skip
    exact ⟨rfl, N101, K101, V101x⟩
theorem dS41_0 : decode jdk_2529_method_3_code 0 = .ok (.iload_n 3, 1) := by decide +kernel
theorem dS41_1 : decode jdk_2529_method_3_code 1 = .ok (.iload_n 2, 1) := by decide +kernel
theorem dS41_2 : decode jdk_2529_method_3_code 2 = .ok (.isub, 1) := by decide +kernel
theorem dS41_3 : decode jdk_2529_method_3_code 3 = .ok (.istore 4, 2) := by decide +kernel
theorem dS41_5 : decode jdk_2529_method_3_code 5 = .ok (.iload_n 1, 1) := by decide +kernel
theorem dS41_6 : decode jdk_2529_method_3_code 6 = .ok (.iconst 1, 1) := by decide +kernel
theorem dS41_7 : decode jdk_2529_method_3_code 7 = .ok (.if_icmp .le 61, 3) := by decide +kernel
theorem dS41_68 : decode jdk_2529_method_3_code 68 = .ok (.aconst_null, 1) := by decide +kernel
theorem dS41_69 : decode jdk_2529_method_3_code 69 = .ok (.aload_n 0, 1) := by decide +kernel
theorem dS41_70 : decode jdk_2529_method_3_code 70 = .ok (.iconst 0, 1) := by decide +kernel
theorem dS41_71 : decode jdk_2529_method_3_code 71 = .ok (.iload_n 2, 1) := by decide +kernel
theorem dS41_72 : decode jdk_2529_method_3_code 72 = .ok (.iload_n 3, 1) := by decide +kernel
theorem dS41_73 : decode jdk_2529_method_3_code 73 = .ok (.invokestatic 26, 3) := by decide +kernel
theorem dS41_76 : decode jdk_2529_method_3_code 76 = .ok (.return_, 1) := by decide +kernel
theorem ef_S41 (m : MethodId) (x0 : Addr) : entryFrame m #[(.ref x0), (.int (0 : Int32)), (.int (0 : Int32)), (.int (1 : Int32))] 7 = mkF m 0 #[.val (.ref x0), .val (.int (0 : Int32)), .val (.int (0 : Int32)), .val (.int (1 : Int32)), .unset, .unset, .unset] [] := by first | (simp [entryFrame, mkF, argsToLocals, Value.category]; done) | rfl
set_option maxRecDepth 65536 in
set_option maxHeartbeats 40000000 in
theorem rmS41 (l : Launch) (Z : State) (a0 : Array Value) (hw : ∀ d ∈ tables_1, d.before a0 Z = true) (ws : List Jvm.Cond) (a1 : Addr) (k : ClassId) (x0 : Int32) (h0 : Heap) (n0 : Nat) (Z0 : n0 ≤ h0.size) (V1 : Arv Z h0 a1 k .int (1 : Int32) [(.int x0)] (.int (0 : Int32))) (ga : n0 ≤ a1) :
    MetFree l (⟨"java/util/DualPivotQuicksort", "sort", "([IIII)V"⟩ : MethodName) (head1 (Jvm.Cond.code (⟨"java/util/DualPivotQuicksort", "sort", "([IIII)V"⟩ : MethodName) jdk_2529_method_3_code 7 none :: ws) ({ frames := 2, cells := 0, slots := 0, locals := 49 } : Room)) (fun a U => a = #[(.ref a1), (.int (0 : Int32)), (.int (0 : Int32)), (.int (1 : Int32))] ∧ Z.Warmed39 U.vm ∧ U.heap = h0) (fun _ _ _ _ _ => True) (fun _ U o U' => ∃ v L, o = .returned v ∧ QS Z a1 k (1 : Int32) [(.int x0)] h0 n0 v U'.heap L ∧ FrameEnd U o U' L ({ frames := 2, cells := 0, slots := 0, locals := 49 } : Room).cells ({ frames := 2, cells := 0, slots := 0, locals := 49 } : Room).slots) := by
  refine MetFree.of_bodySF (plainFor_of_name (by first | (simp [plainName, overriddenIn]; done) | decide +kernel)) hisR ?_
  intro p e s m args below meth c s₁ Bd hml0 hP hK
  obtain ⟨rfl, hZ, hh⟩ := hP
  have hx := Bd.exec
  have hby := Bd.bytes
  have hml : c.maxLocals = 7 := hml0
  have hown : s.vm.findClass "java/util/DualPivotQuicksort" = some m.cls := findClass_of_methodNamed Bd.named
  have hnm := (name_of_methodNamed Bd.named Bd.method).1
  have hlk : meth.locks = false := BodyLoose.notSynchronized Bd
  have X0 : Stand p l e ({ frames := 2, cells := 0, slots := 0, locals := 49 } : Room) s m #[(.ref a1), (.int (0 : Int32)), (.int (0 : Int32)), (.int (1 : Int32))] below meth c s₁ [] 0 0 := Stand.of_body Bd
  have e0 : s₁.heap = h0 := by rw [← hh, Bd.state]; rfl
  have P0 : ∀ t, Steps p.tables e below (s₁.setTop (mkF m 0 #[.val (.ref a1), .val (.int (0 : Int32)), .val (.int (0 : Int32)), .val (.int (1 : Int32)), .unset, .unset, .unset] [])) t → Steps p.tables e below (s₁.setTop (entryFrame m #[(.ref a1), (.int (0 : Int32)), (.int (0 : Int32)), (.int (1 : Int32))] 7)) t := fun t kt => castTop (ef_S41 m a1) kt
  have N0 := Fr.nil n0
  have K0 := Keep.refl h0 [a1]
  obtain ⟨_, _, ⟨T101, L101, k101, n101⟩, -, X101, ⟨Lc101, hQ101, l101, y101, z101⟩, st101⟩ := Jvm.LawKit.callS X0 hx (y := (⟨"java/util/DualPivotQuicksort", "sort", "(Ljava/util/DualPivotQuicksort$Sorter;[IIII)V"⟩ : MethodName)) hown (mvT hZ (hw _ (List.mem_of_getElem? (i := 73) rfl))) (mvT hZ (hw _ (List.mem_of_getElem? (i := 74) rfl))) (mvT hZ (hw _ (List.mem_of_getElem? (i := 71) rfl))) (mvT hZ (hw _ (List.mem_of_getElem? (i := 75) rfl))) (by decide) (backOf (W := 0)  (rmS51 l Z a0 hw [] a1 k x0 h0 n0 Z0 V1 ga ) hZ (hw _ (List.mem_of_getElem? (i := 75) rfl)) (hw _ (List.mem_of_getElem? (i := 71) rfl)) (by decide) (by decide)) (g := (mkF m 73 #[.val (.ref a1), .val (.int (0 : Int32)), .val (.int (0 : Int32)), .val (.int (1 : Int32)), .val (.int (1 : Int32)), .unset, .unset] [(.int (1 : Int32)), (.int (0 : Int32)), (.int (0 : Int32)), (.ref a1), .null])) rfl (by rw [hml]; rfl) (argsL := [.null, (.ref a1), (.int (0 : Int32)), (.int (0 : Int32)), (.int (1 : Int32))]) (rest := []) (lenOf pd__Ljava_util_DualPivotQuicksort_Sorter__IIII_V rfl) rfl (by show 2 * 0 + _ ≤ _; exact Nat.le_of_eq rfl) (hb hby dS41_73) (fun _ _ => ⟨rfl, e0, (by decide : 0 + 0 ≤ _), (by decide : 0 + 0 ≤ _)⟩)
  dsimp only [Pt.U, Pt.locs, Pt.cells, Pt.slots] at X101 l101 y101 z101 st101 hQ101
  subst l101 y101 z101
  obtain ⟨rfl, Nq101, K101x, V101x⟩ := hQ101
  have N101 := Fr.app N0 Nq101
  have sz101 : n0 ≤ T101.heap.size := Nat.le_trans Z0 K101x.1
  have K101 : Keep h0 T101.heap [a1] := K0.trans K101x (fun x hx => by cases List.mem_singleton.mp hx; exact Or.inl (List.mem_of_getElem? (i := 0) rfl))
  have P102 : ∀ t, Steps p.tables e below (T101.setTop (mkF m 76 #[.val (.ref a1), .val (.int (0 : Int32)), .val (.int (0 : Int32)), .val (.int (1 : Int32)), .val (.int (1 : Int32)), .unset, .unset] [])) t → Steps p.tables e below (s₁.setTop (entryFrame m #[(.ref a1), (.int (0 : Int32)), (.int (0 : Int32)), (.int (1 : Int32))] 7)) t := fun t kt => P0 t (by
    show Steps p.tables e below (s₁.setTop (mkF m 0 #[.val (.ref a1), .val (.int (0 : Int32)), .val (.int (0 : Int32)), .val (.int (1 : Int32)), .unset, .unset, .unset] [])) _
    refine XS.iloadN X0.here hx rfl (hb hby dS41_0) rfl ?_
    show Steps p.tables e below (s₁.setTop (mkF m 1 #[.val (.ref a1), .val (.int (0 : Int32)), .val (.int (0 : Int32)), .val (.int (1 : Int32)), .unset, .unset, .unset] [(.int (1 : Int32))])) _
    refine XS.iloadN X0.here hx rfl (hb hby dS41_1) rfl ?_
    show Steps p.tables e below (s₁.setTop (mkF m 2 #[.val (.ref a1), .val (.int (0 : Int32)), .val (.int (0 : Int32)), .val (.int (1 : Int32)), .unset, .unset, .unset] [(.int (0 : Int32)), (.int (1 : Int32))])) _
    refine XS.isub X0.here hx rfl (hb hby dS41_2) rfl ?_
    show Steps p.tables e below (s₁.setTop (mkF m 3 #[.val (.ref a1), .val (.int (0 : Int32)), .val (.int (0 : Int32)), .val (.int (1 : Int32)), .unset, .unset, .unset] [(.int (1 : Int32))])) _
    refine XS.istore X0.here hx rfl (hb hby dS41_3) rfl (l' := #[.val (.ref a1), .val (.int (0 : Int32)), .val (.int (0 : Int32)), .val (.int (1 : Int32)), .val (.int (1 : Int32)), .unset, .unset]) rfl ?_
    show Steps p.tables e below (s₁.setTop (mkF m 5 #[.val (.ref a1), .val (.int (0 : Int32)), .val (.int (0 : Int32)), .val (.int (1 : Int32)), .val (.int (1 : Int32)), .unset, .unset] [])) _
    refine XS.iloadN X0.here hx rfl (hb hby dS41_5) rfl ?_
    show Steps p.tables e below (s₁.setTop (mkF m 6 #[.val (.ref a1), .val (.int (0 : Int32)), .val (.int (0 : Int32)), .val (.int (1 : Int32)), .val (.int (1 : Int32)), .unset, .unset] [(.int (0 : Int32))])) _
    refine XS.iconst X0.here hx rfl (hb hby dS41_6) ?_
    show Steps p.tables e below (s₁.setTop (mkF m 7 #[.val (.ref a1), .val (.int (0 : Int32)), .val (.int (0 : Int32)), .val (.int (1 : Int32)), .val (.int (1 : Int32)), .unset, .unset] [(.int (1 : Int32)), (.int (0 : Int32))])) _
    refine XS.icmpYes X0.here hx rfl (pc0 := 7) (pc' := 68) rfl (hb hby dS41_7) rfl (flt ((by decide) : ¬ ((1 : Int32) < (0 : Int32)))).2.2.2 (by decide) (by decide) ?_
    show Steps p.tables e below (s₁.setTop (mkF m 68 #[.val (.ref a1), .val (.int (0 : Int32)), .val (.int (0 : Int32)), .val (.int (1 : Int32)), .val (.int (1 : Int32)), .unset, .unset] [])) _
    refine XS.aconstNull X0.here hx rfl (hb hby dS41_68) ?_
    show Steps p.tables e below (s₁.setTop (mkF m 69 #[.val (.ref a1), .val (.int (0 : Int32)), .val (.int (0 : Int32)), .val (.int (1 : Int32)), .val (.int (1 : Int32)), .unset, .unset] [.null])) _
    refine XS.aloadN X0.here hx rfl (hb hby dS41_69) rfl rfl ?_
    show Steps p.tables e below (s₁.setTop (mkF m 70 #[.val (.ref a1), .val (.int (0 : Int32)), .val (.int (0 : Int32)), .val (.int (1 : Int32)), .val (.int (1 : Int32)), .unset, .unset] [(.ref a1), .null])) _
    refine XS.iconst X0.here hx rfl (hb hby dS41_70) ?_
    show Steps p.tables e below (s₁.setTop (mkF m 71 #[.val (.ref a1), .val (.int (0 : Int32)), .val (.int (0 : Int32)), .val (.int (1 : Int32)), .val (.int (1 : Int32)), .unset, .unset] [(.int (0 : Int32)), (.ref a1), .null])) _
    refine XS.iloadN X0.here hx rfl (hb hby dS41_71) rfl ?_
    show Steps p.tables e below (s₁.setTop (mkF m 72 #[.val (.ref a1), .val (.int (0 : Int32)), .val (.int (0 : Int32)), .val (.int (1 : Int32)), .val (.int (1 : Int32)), .unset, .unset] [(.int (0 : Int32)), (.int (0 : Int32)), (.ref a1), .null])) _
    refine XS.iloadN X0.here hx rfl (hb hby dS41_72) rfl ?_
    show Steps p.tables e below (s₁.setTop (mkF m 73 #[.val (.ref a1), .val (.int (0 : Int32)), .val (.int (0 : Int32)), .val (.int (1 : Int32)), .val (.int (1 : Int32)), .unset, .unset] [(.int (1 : Int32)), (.int (0 : Int32)), (.int (0 : Int32)), (.ref a1), .null])) _
    refine st101 _ ?_
    exact kt)
  obtain ⟨fs, hr, hrun, hended, hW, hsame⟩ := X101.leave (v := none) (fun _ => rfl) (hlocks := hlk)
  refine ⟨_, _, P102 _ ?_, hrun, hended, _, _, rfl, ?_, ⟨_, rfl⟩, hW, hsame.mono (by decide) (by decide)⟩
  · show Steps p.tables e below (T101.setTop (mkF m 76 #[.val (.ref a1), .val (.int (0 : Int32)), .val (.int (0 : Int32)), .val (.int (1 : Int32)), .val (.int (1 : Int32)), .unset, .unset] [])) _
    exact X101.returnOut hx Bd.returns (hb hby dS41_76) hr
  · show QS Z a1 k (1 : Int32) [(.int x0)] h0 n0 _ T101.heap _
    skip
    exact ⟨rfl, N101, K101, V101x⟩
theorem dAS1_0 : decode jdk_65_method_2_code 0 = .ok (.aload_n 0, 1) := by decide +kernel
theorem dAS1_1 : decode jdk_65_method_2_code 1 = .ok (.iconst 0, 1) := by decide +kernel
theorem dAS1_2 : decode jdk_65_method_2_code 2 = .ok (.iconst 0, 1) := by decide +kernel
theorem dAS1_3 : decode jdk_65_method_2_code 3 = .ok (.aload_n 0, 1) := by decide +kernel
theorem dAS1_4 : decode jdk_65_method_2_code 4 = .ok (.arraylength, 1) := by decide +kernel
theorem dAS1_5 : decode jdk_65_method_2_code 5 = .ok (.invokestatic 7, 3) := by decide +kernel
theorem dAS1_8 : decode jdk_65_method_2_code 8 = .ok (.return_, 1) := by decide +kernel
theorem ef_AS1 (m : MethodId) (x0 : Addr) : entryFrame m #[(.ref x0)] 1 = mkF m 0 #[.val (.ref x0)] [] := by first | (simp [entryFrame, mkF, argsToLocals, Value.category]; done) | rfl
set_option maxRecDepth 65536 in
set_option maxHeartbeats 40000000 in
theorem rmAS1 (l : Launch) (Z : State) (a0 : Array Value) (hw : ∀ d ∈ tables_1, d.before a0 Z = true) (ws : List Jvm.Cond) (a1 : Addr) (k : ClassId) (x0 : Int32) (h0 : Heap) (n0 : Nat) (Z0 : n0 ≤ h0.size) (V1 : Arv Z h0 a1 k .int (1 : Int32) [(.int x0)] (.int (0 : Int32))) (ga : n0 ≤ a1) :
    MetFree l (⟨"java/util/Arrays", "sort", "([I)V"⟩ : MethodName) (head1 (Jvm.Cond.code (⟨"java/util/Arrays", "sort", "([I)V"⟩ : MethodName) jdk_65_method_2_code 1 none :: ws) ({ frames := 3, cells := 0, slots := 0, locals := 67 } : Room)) (fun a U => a = #[(.ref a1)] ∧ Z.Warmed39 U.vm ∧ U.heap = h0) (fun _ _ _ _ _ => True) (fun _ U o U' => ∃ v L, o = .returned v ∧ QS Z a1 k (1 : Int32) [(.int x0)] h0 n0 v U'.heap L ∧ FrameEnd U o U' L ({ frames := 3, cells := 0, slots := 0, locals := 67 } : Room).cells ({ frames := 3, cells := 0, slots := 0, locals := 67 } : Room).slots) := by
  refine MetFree.of_bodySF (plainFor_of_name (by first | (simp [plainName, overriddenIn]; done) | decide +kernel)) hisR ?_
  intro p e s m args below meth c s₁ Bd hml0 hP hK
  obtain ⟨rfl, hZ, hh⟩ := hP
  have hx := Bd.exec
  have hby := Bd.bytes
  have hml : c.maxLocals = 1 := hml0
  have hown : s.vm.findClass "java/util/Arrays" = some m.cls := findClass_of_methodNamed Bd.named
  have hnm := (name_of_methodNamed Bd.named Bd.method).1
  have hlk : meth.locks = false := BodyLoose.notSynchronized Bd
  have X0 : Stand p l e ({ frames := 3, cells := 0, slots := 0, locals := 67 } : Room) s m #[(.ref a1)] below meth c s₁ [] 0 0 := Stand.of_body Bd
  have e0 : s₁.heap = h0 := by rw [← hh, Bd.state]; rfl
  have P0 : ∀ t, Steps p.tables e below (s₁.setTop (mkF m 0 #[.val (.ref a1)] [])) t → Steps p.tables e below (s₁.setTop (entryFrame m #[(.ref a1)] 1)) t := fun t kt => castTop (ef_AS1 m a1) kt
  have N0 := Fr.nil n0
  have K0 := Keep.refl h0 [a1]
  obtain ⟨cl101, Ar101, q101, S101, Nn101, H101, G101⟩ := id V1
  obtain ⟨_, _, ⟨T102, L102, k102, n102⟩, -, X102, ⟨Lc102, hQ102, l102, y102, z102⟩, st102⟩ := Jvm.LawKit.callS X0 hx (y := (⟨"java/util/DualPivotQuicksort", "sort", "([IIII)V"⟩ : MethodName)) hown (mvT hZ (hw _ (List.mem_of_getElem? (i := 69) rfl))) (mvT hZ (hw _ (List.mem_of_getElem? (i := 70) rfl))) (mvT hZ (hw _ (List.mem_of_getElem? (i := 71) rfl))) (mvT hZ (hw _ (List.mem_of_getElem? (i := 72) rfl))) (by decide) (backOf (W := 0)  (rmS41 l Z a0 hw [] a1 k x0 h0 n0 Z0 V1 ga ) hZ (hw _ (List.mem_of_getElem? (i := 72) rfl)) (hw _ (List.mem_of_getElem? (i := 71) rfl)) (by decide) (by decide)) (g := (mkF m 5 #[.val (.ref a1)] [(.int (1 : Int32)), (.int (0 : Int32)), (.int (0 : Int32)), (.ref a1)])) rfl (by rw [hml]; rfl) (argsL := [(.ref a1), (.int (0 : Int32)), (.int (0 : Int32)), (.int (1 : Int32))]) (rest := []) (lenOf pd___IIII_V rfl) rfl (by show 2 * 0 + _ ≤ _; exact Nat.le_of_eq rfl) (hb hby dAS1_5) (fun _ _ => ⟨rfl, e0, (by decide : 0 + 0 ≤ _), (by decide : 0 + 0 ≤ _)⟩)
  dsimp only [Pt.U, Pt.locs, Pt.cells, Pt.slots] at X102 l102 y102 z102 st102 hQ102
  subst l102 y102 z102
  obtain ⟨rfl, Nq102, K102x, V102x⟩ := hQ102
  have N102 := Fr.app N0 Nq102
  have sz102 : n0 ≤ T102.heap.size := Nat.le_trans Z0 K102x.1
  have K102 : Keep h0 T102.heap [a1] := K0.trans K102x (fun x hx => by cases List.mem_singleton.mp hx; exact Or.inl (List.mem_of_getElem? (i := 0) rfl))
  have P103 : ∀ t, Steps p.tables e below (T102.setTop (mkF m 8 #[.val (.ref a1)] [])) t → Steps p.tables e below (s₁.setTop (entryFrame m #[(.ref a1)] 1)) t := fun t kt => P0 t (by
    show Steps p.tables e below (s₁.setTop (mkF m 0 #[.val (.ref a1)] [])) _
    refine XS.aloadN X0.here hx rfl (hb hby dAS1_0) rfl rfl ?_
    show Steps p.tables e below (s₁.setTop (mkF m 1 #[.val (.ref a1)] [(.ref a1)])) _
    refine XS.iconst X0.here hx rfl (hb hby dAS1_1) ?_
    show Steps p.tables e below (s₁.setTop (mkF m 2 #[.val (.ref a1)] [(.int (0 : Int32)), (.ref a1)])) _
    refine XS.iconst X0.here hx rfl (hb hby dAS1_2) ?_
    show Steps p.tables e below (s₁.setTop (mkF m 3 #[.val (.ref a1)] [(.int (0 : Int32)), (.int (0 : Int32)), (.ref a1)])) _
    refine XS.aloadN X0.here hx rfl (hb hby dAS1_3) rfl rfl ?_
    show Steps p.tables e below (s₁.setTop (mkF m 4 #[.val (.ref a1)] [(.ref a1), (.int (0 : Int32)), (.int (0 : Int32)), (.ref a1)])) _
    refine X0.arraylength hx (by rw [e0]; exact Ar101.1) (State.isArrayOf_alike hZ.alike Ar101.2.1) (g := (mkF m 4 #[.val (.ref a1)] [(.ref a1), (.int (0 : Int32)), (.int (0 : Int32)), (.ref a1)])) rfl rfl (hb hby dAS1_4) _ ?_
    rw [len_of S101 Nn101]
    show Steps p.tables e below (s₁.setTop (mkF m 5 #[.val (.ref a1)] [(.int (1 : Int32)), (.int (0 : Int32)), (.int (0 : Int32)), (.ref a1)])) _
    refine st102 _ ?_
    exact kt)
  obtain ⟨fs, hr, hrun, hended, hW, hsame⟩ := X102.leave (v := none) (fun _ => rfl) (hlocks := hlk)
  refine ⟨_, _, P103 _ ?_, hrun, hended, _, _, rfl, ?_, ⟨_, rfl⟩, hW, hsame.mono (by decide) (by decide)⟩
  · show Steps p.tables e below (T102.setTop (mkF m 8 #[.val (.ref a1)] [])) _
    exact X102.returnOut hx Bd.returns (hb hby dAS1_8) hr
  · show QS Z a1 k (1 : Int32) [(.int x0)] h0 n0 _ T102.heap _
    skip
    exact ⟨rfl, N102, K102, V102x⟩
theorem dT1_0 : decode prog_83_method_1_code 0 = .ok (.aload_n 0, 1) := by decide +kernel
theorem dT1_1 : decode prog_83_method_1_code 1 = .ok (.invokespecial 1, 3) := by decide +kernel
theorem dT1_4 : decode prog_83_method_1_code 4 = .ok (.aload_n 1, 1) := by decide +kernel
theorem dT1_5 : decode prog_83_method_1_code 5 = .ok (.ldc 7, 2) := by decide +kernel
theorem dT1_7 : decode prog_83_method_1_code 7 = .ok (.invokestatic 9, 3) := by decide +kernel
theorem dT1_10 : decode prog_83_method_1_code 10 = .ok (.pop, 1) := by decide +kernel
theorem dT1_11 : decode prog_83_method_1_code 11 = .ok (.iload_n 2, 1) := by decide +kernel
theorem dT1_12 : decode prog_83_method_1_code 12 = .ok (.iconst 1, 1) := by decide +kernel
theorem dT1_13 : decode prog_83_method_1_code 13 = .ok (.if_icmp .ge 17, 3) := by decide +kernel
theorem dT1_30 : decode prog_83_method_1_code 30 = .ok (.aload_n 3, 1) := by decide +kernel
theorem dT1_31 : decode prog_83_method_1_code 31 = .ok (.ldc 24, 2) := by decide +kernel
theorem dT1_33 : decode prog_83_method_1_code 33 = .ok (.invokestatic 9, 3) := by decide +kernel
theorem dT1_36 : decode prog_83_method_1_code 36 = .ok (.checkcast 26, 3) := by decide +kernel
theorem dT1_39 : decode prog_83_method_1_code 39 = .ok (.invokevirtual 28, 3) := by decide +kernel
theorem dT1_42 : decode prog_83_method_1_code 42 = .ok (.checkcast 26, 3) := by decide +kernel
theorem dT1_45 : decode prog_83_method_1_code 45 = .ok (.astore_n 3, 1) := by decide +kernel
theorem dT1_46 : decode prog_83_method_1_code 46 = .ok (.aload_n 3, 1) := by decide +kernel
theorem dT1_47 : decode prog_83_method_1_code 47 = .ok (.invokestatic 32, 3) := by decide +kernel
theorem dT1_50 : decode prog_83_method_1_code 50 = .ok (.iconst 0, 1) := by decide +kernel
theorem dT1_51 : decode prog_83_method_1_code 51 = .ok (.istore 4, 2) := by decide +kernel
theorem dT1_53 : decode prog_83_method_1_code 53 = .ok (.iload 4, 2) := by decide +kernel
theorem dT1_55 : decode prog_83_method_1_code 55 = .ok (.aload_n 3, 1) := by decide +kernel
theorem dT1_56 : decode prog_83_method_1_code 56 = .ok (.arraylength, 1) := by decide +kernel
theorem dT1_57 : decode prog_83_method_1_code 57 = .ok (.if_icmp .ge 55, 3) := by decide +kernel
theorem dT1_60 : decode prog_83_method_1_code 60 = .ok (.aload_n 1, 1) := by decide +kernel
theorem dT1_61 : decode prog_83_method_1_code 61 = .ok (.iload_n 2, 1) := by decide +kernel
theorem dT1_62 : decode prog_83_method_1_code 62 = .ok (.ldc 38, 2) := by decide +kernel
theorem dT1_64 : decode prog_83_method_1_code 64 = .ok (.aload_n 3, 1) := by decide +kernel
theorem dT1_65 : decode prog_83_method_1_code 65 = .ok (.iload 4, 2) := by decide +kernel
theorem dT1_67 : decode prog_83_method_1_code 67 = .ok (.iaload, 1) := by decide +kernel
theorem dT1_68 : decode prog_83_method_1_code 68 = .ok (.invokestatic 40, 3) := by decide +kernel
theorem dT1_71 : decode prog_83_method_1_code 71 = .ok (.iload 4, 2) := by decide +kernel
theorem dT1_73 : decode prog_83_method_1_code 73 = .ok (.ifCond .le 33, 3) := by decide +kernel
theorem dT1_106 : decode prog_83_method_1_code 106 = .ok (.iinc 4 1, 3) := by decide +kernel
theorem dT1_109 : decode prog_83_method_1_code 109 = .ok (.goto (-56), 3) := by decide +kernel
theorem dT1_112 : decode prog_83_method_1_code 112 = .ok (.aload_n 0, 1) := by decide +kernel
theorem dT1_113 : decode prog_83_method_1_code 113 = .ok (.aload_n 1, 1) := by decide +kernel
theorem dT1_114 : decode prog_83_method_1_code 114 = .ok (.putfield 47, 3) := by decide +kernel
theorem dT1_117 : decode prog_83_method_1_code 117 = .ok (.aload_n 0, 1) := by decide +kernel
theorem dT1_118 : decode prog_83_method_1_code 118 = .ok (.iload_n 2, 1) := by decide +kernel
theorem dT1_119 : decode prog_83_method_1_code 119 = .ok (.putfield 50, 3) := by decide +kernel
theorem dT1_122 : decode prog_83_method_1_code 122 = .ok (.aload_n 0, 1) := by decide +kernel
theorem dT1_123 : decode prog_83_method_1_code 123 = .ok (.aload_n 3, 1) := by decide +kernel
theorem dT1_124 : decode prog_83_method_1_code 124 = .ok (.putfield 54, 3) := by decide +kernel
theorem dT1_127 : decode prog_83_method_1_code 127 = .ok (.return_, 1) := by decide +kernel
theorem ef_T1 (m : MethodId) (x0 : Addr) (x1 : Addr) (x2 : Int32) (x3 : Addr) : entryFrame m #[(.ref x0), (.ref x1), (.int x2), (.ref x3)] 5 = mkF m 0 #[.val (.ref x0), .val (.ref x1), .val (.int x2), .val (.ref x3), .unset] [] := by first | (simp [entryFrame, mkF, argsToLocals, Value.category]; done) | rfl
set_option maxRecDepth 65536 in
set_option maxHeartbeats 40000000 in
theorem rmT1 (l : Launch) (Z : State) (a0 : Array Value) (hw : ∀ d ∈ tables_1, d.before a0 Z = true) (ws : List Jvm.Cond) (a1 : Addr) (a2 : Addr) (p3 : Int32) (a4 : Addr) (k : ClassId) (x0 : Int32) (h0 : Heap) (n0 : Nat) (Z0 : n0 ≤ h0.size) (E1 : Exa Z h0 a1 "com/example/allot/allot/partition/Topic") (Fn : Fld Z h0 a1 "com/example/allot/allot/partition/Topic" "name" "Ljava/lang/String;" .null) (Fp : Fld Z h0 a1 "com/example/allot/allot/partition/Topic" "partitions" "I" (.int (0 : Int32))) (Fu : Fld Z h0 a1 "com/example/allot/allot/partition/Topic" "unavailable" "[I" .null) (ga : n0 ≤ a1) (E4 : Exa Z h0 a4 "[I") (V4 : Arv Z h0 a4 k .int (1 : Int32) [(.int x0)] (.int (0 : Int32))) (h14 : a1 ≠ a4) (hp : ¬ p3 < (1 : Int32)) (hx0 : ¬ x0 < (0 : Int32)) (hy0 : x0 < p3) :
    MetFree l (⟨"com/example/allot/allot/partition/Topic", "<init>", "(Ljava/lang/String;I[I)V"⟩ : MethodName) (head1 (Jvm.Cond.code (⟨"com/example/allot/allot/partition/Topic", "<init>", "(Ljava/lang/String;I[I)V"⟩ : MethodName) prog_83_method_1_code 5 none :: ws) ({ frames := 4, cells := 7, slots := 157, locals := 79 } : Room)) (fun a U => a = #[(.ref a1), (.ref a2), (.int p3), (.ref a4)] ∧ Z.Warmed39 U.vm ∧ U.heap = h0) (fun _ _ _ _ _ => True) (fun _ U o U' => ∃ v L, o = .returned v ∧ QT Z a1 a2 p3 (1 : Int32) [(.int x0)] h0 n0 v U'.heap L ∧ ReturnedEndW U o U' L ({ frames := 4, cells := 7, slots := 157, locals := 79 } : Room).cells ({ frames := 4, cells := 7, slots := 157, locals := 79 } : Room).slots) := by
  refine MetFree.of_bodySF (plainFor_of_name (by first | (simp [plainName, overriddenIn]; done) | decide +kernel)) hisR ?_
  intro p e s m args below meth c s₁ Bd hml0 hP hK
  obtain ⟨rfl, hZ, hh⟩ := hP
  have hx := Bd.exec
  have hby := Bd.bytes
  have hml : c.maxLocals = 5 := hml0
  have hown : s.vm.findClass "com/example/allot/allot/partition/Topic" = some m.cls := findClass_of_methodNamed Bd.named
  have hnm := (name_of_methodNamed Bd.named Bd.method).1
  have hlk : meth.locks = false := BodyLoose.notSynchronized Bd
  have X0 : Stand p l e ({ frames := 4, cells := 7, slots := 157, locals := 79 } : Room) (s.setVm s.vm) m #[(.ref a1), (.ref a2), (.int p3), (.ref a4)] below meth c s₁ [] 0 0 := Stand.of_body Bd
  have e0 : s₁.heap = h0 := by rw [← hh, Bd.state]; rfl
  have P0 : ∀ t, Steps p.tables e below (s₁.setTop (mkF m 0 #[.val (.ref a1), .val (.ref a2), .val (.int p3), .val (.ref a4), .unset] [])) t → Steps p.tables e below (s₁.setTop (entryFrame m #[(.ref a1), (.ref a2), (.int p3), (.ref a4)] 5)) t := fun t kt => castTop (ef_T1 m a1 a2 p3 a4) kt
  have N0 := Fr.nil n0
  have hS0 : s.Since s.vm 0 := State.WarmedH.since (State.WarmedH.refl s) 0
  have hk0 : 0 ≤ h0.size := Nat.zero_le _
  have K0 := Keep.refl h0 [a1]
  obtain ⟨_, _, ⟨T101, L101, k101, n101⟩, -, X101, ⟨Lc101, hQ101, l101, y101, z101⟩, st101⟩ := X0.specialBack hx (y := (⟨"java/lang/Record", "<init>", "()V"⟩ : MethodName)) rfl hown (mvT hZ (hw _ (List.mem_of_getElem? (i := 42) rfl))) (mvT hZ (hw _ (List.mem_of_getElem? (i := 43) rfl))) (mvT hZ (hw _ (List.mem_of_getElem? (i := 46) rfl))) (by decide) (backOf (W := 0)  (rmR l Z a0 hw [] a1 h0) hZ (hw _ (List.mem_of_getElem? (i := 46) rfl)) (hw _ (List.mem_of_getElem? (i := 45) rfl)) (by decide) (by decide)) (g := (mkF m 1 #[.val (.ref a1), .val (.ref a2), .val (.int p3), .val (.ref a4), .unset] [(.ref a1)])) rfl (by rw [hml]; rfl) (Steps.refl _) (a := a1) (argsL := []) (rest := []) (lenOf pd___V rfl) rfl (by show 2 * 0 + _ ≤ _; exact Nat.le_of_eq rfl) (hb hby dT1_1) (fun _ _ => ⟨rfl, e0, (by decide : 0 + 0 ≤ _), (by decide : 0 + 0 ≤ _)⟩)
  dsimp only [Pt.U, Pt.locs, Pt.cells, Pt.slots] at X101 l101 y101 z101 st101 hQ101
  subst l101 y101 z101
  obtain ⟨rfl, rfl, e101⟩ := hQ101
  have N101 := Fr.app N0 (Fr.nil n0)
  have P102 : ∀ t, Steps p.tables e below (T101.setTop (mkF m 5 #[.val (.ref a1), .val (.ref a2), .val (.int p3), .val (.ref a4), .unset] [(.ref a2)])) t → Steps p.tables e below (s₁.setTop (entryFrame m #[(.ref a1), (.ref a2), (.int p3), (.ref a4)] 5)) t := fun t kt => P0 t (by
    show Steps p.tables e below (s₁.setTop (mkF m 0 #[.val (.ref a1), .val (.ref a2), .val (.int p3), .val (.ref a4), .unset] [])) _
    refine XS.aloadN X0.here hx rfl (hb hby dT1_0) rfl rfl ?_
    show Steps p.tables e below (s₁.setTop (mkF m 1 #[.val (.ref a1), .val (.ref a2), .val (.int p3), .val (.ref a4), .unset] [(.ref a1)])) _
    refine st101.trans ?_
    show Steps p.tables e below (T101.setTop (mkF m 4 #[.val (.ref a1), .val (.ref a2), .val (.int p3), .val (.ref a4), .unset] [])) _
    refine XS.aloadN X101.here hx rfl (hb hby dT1_4) rfl rfl ?_
    exact kt)
  obtain ⟨sa103, T103, h103, j103, X103, e103, E103, hS103, hk103, hZ, hown, st103⟩ := ldcS X101 hx hZ hown (hw _ (List.mem_of_getElem? (i := 48) rfl)) (own_wS hw) e101 hS0 hk0 (g := (mkF m 5 #[.val (.ref a1), .val (.ref a2), .val (.int p3), .val (.ref a4), .unset] [(.ref a2)])) rfl (hb hby dT1_5) (n := 16) (by decide) (by decide) (by decide) (by decide)
  have f104 := E1.ext E103
  have f105 := Fn.ext E103
  have f106 := Fp.ext E103
  have f107 := Fu.ext E103
  have f108 := E4.ext E103
  have f109 := V4.ext E103
  have sz103 : n0 ≤ h103.size := Nat.le_trans Z0 E103.1
  have K103 : Keep h0 h103 [a1] := K0.ext E103
  obtain ⟨_, _, ⟨T110, L110, k110, n110⟩, -, X110, ⟨Lc110, hQ110, l110, y110, z110⟩, st110⟩ := Jvm.LawKit.callS X103 hx (y := (⟨"java/util/Objects", "requireNonNull", "(Ljava/lang/Object;Ljava/lang/String;)Ljava/lang/Object;"⟩ : MethodName)) hown (mvT hZ (hw _ (List.mem_of_getElem? (i := 51) rfl))) (mvT hZ (hw _ (List.mem_of_getElem? (i := 52) rfl))) (mvT hZ (hw _ (List.mem_of_getElem? (i := 53) rfl))) (mvT hZ (hw _ (List.mem_of_getElem? (i := 54) rfl))) (by decide) (backOf (W := 0)  (rmNN l Z a0 hw [] a2 sa103 h103) hZ (hw _ (List.mem_of_getElem? (i := 54) rfl)) (hw _ (List.mem_of_getElem? (i := 53) rfl)) (by decide) (by decide)) (g := (mkF m 7 #[.val (.ref a1), .val (.ref a2), .val (.int p3), .val (.ref a4), .unset] [(.ref sa103), (.ref a2)])) rfl (by rw [hml]; rfl) (argsL := [(.ref a2), (.ref sa103)]) (rest := []) (lenOf pd__Ljava_lang_Object_Ljava_lang_String__Ljava_lang_Object_ rfl) rfl (by show 2 * 0 + _ ≤ _; exact Nat.le_of_eq rfl) (hb hby dT1_7) (fun _ _ => ⟨rfl, e103, (by decide : 2 + 0 ≤ _), (by decide : 20 + 0 ≤ _)⟩)
  dsimp only [Pt.U, Pt.locs, Pt.cells, Pt.slots] at X110 l110 y110 z110 st110 hQ110
  subst l110 y110 z110
  obtain ⟨rfl, rfl, e110⟩ := hQ110
  have N110 := Fr.app N101 (Fr.nil n0)
  have P111 : ∀ t, Steps p.tables e below (T110.setTop (mkF m 31 #[.val (.ref a1), .val (.ref a2), .val (.int p3), .val (.ref a4), .unset] [(.ref a4)])) t → Steps p.tables e below (s₁.setTop (entryFrame m #[(.ref a1), (.ref a2), (.int p3), (.ref a4)] 5)) t := fun t kt => P102 t (by
    show Steps p.tables e below (T101.setTop (mkF m 5 #[.val (.ref a1), .val (.ref a2), .val (.int p3), .val (.ref a4), .unset] [(.ref a2)])) _
    refine st103 _ ?_
    show Steps p.tables e below (T103.setTop (mkF m 7 #[.val (.ref a1), .val (.ref a2), .val (.int p3), .val (.ref a4), .unset] [(.ref sa103), (.ref a2)])) _
    refine st110 _ ?_
    show Steps p.tables e below (T110.setTop (mkF m 10 #[.val (.ref a1), .val (.ref a2), .val (.int p3), .val (.ref a4), .unset] [(.ref a2)])) _
    refine XS.pop X110.here hx rfl (hb hby dT1_10) rfl rfl ?_
    show Steps p.tables e below (T110.setTop (mkF m 11 #[.val (.ref a1), .val (.ref a2), .val (.int p3), .val (.ref a4), .unset] [])) _
    refine XS.iloadN X110.here hx rfl (hb hby dT1_11) rfl ?_
    show Steps p.tables e below (T110.setTop (mkF m 12 #[.val (.ref a1), .val (.ref a2), .val (.int p3), .val (.ref a4), .unset] [(.int p3)])) _
    refine XS.iconst X110.here hx rfl (hb hby dT1_12) ?_
    show Steps p.tables e below (T110.setTop (mkF m 13 #[.val (.ref a1), .val (.ref a2), .val (.int p3), .val (.ref a4), .unset] [(.int (1 : Int32)), (.int p3)])) _
    refine XS.icmpYes X110.here hx rfl (pc0 := 13) (pc' := 30) rfl (hb hby dT1_13) rfl (flt (hp : ¬ (p3 < (1 : Int32)))).2.1 (by decide) (by decide) ?_
    show Steps p.tables e below (T110.setTop (mkF m 30 #[.val (.ref a1), .val (.ref a2), .val (.int p3), .val (.ref a4), .unset] [])) _
    refine XS.aloadN X110.here hx rfl (hb hby dT1_30) rfl rfl ?_
    exact kt)
  obtain ⟨sa112, T112, h112, j112, X112, e112, E112, hS112, hk112, hZ, hown, st112⟩ := ldcS X110 hx hZ hown (hw _ (List.mem_of_getElem? (i := 55) rfl)) (own_wS hw) e110 hS103 hk103 (g := (mkF m 31 #[.val (.ref a1), .val (.ref a2), .val (.int p3), .val (.ref a4), .unset] [(.ref a4)])) rfl (hb hby dT1_31) (n := 44) (by decide) (by decide) (by decide) (by decide)
  have f113 := f104.ext E112
  have f114 := f105.ext E112
  have f115 := f106.ext E112
  have f116 := f107.ext E112
  have f117 := f108.ext E112
  have f118 := f109.ext E112
  have sz112 : n0 ≤ h112.size := Nat.le_trans sz103 E112.1
  have K112 : Keep h0 h112 [a1] := K103.ext E112
  obtain ⟨_, _, ⟨T119, L119, k119, n119⟩, -, X119, ⟨Lc119, hQ119, l119, y119, z119⟩, st119⟩ := Jvm.LawKit.callS X112 hx (y := (⟨"java/util/Objects", "requireNonNull", "(Ljava/lang/Object;Ljava/lang/String;)Ljava/lang/Object;"⟩ : MethodName)) hown (mvT hZ (hw _ (List.mem_of_getElem? (i := 51) rfl))) (mvT hZ (hw _ (List.mem_of_getElem? (i := 52) rfl))) (mvT hZ (hw _ (List.mem_of_getElem? (i := 53) rfl))) (mvT hZ (hw _ (List.mem_of_getElem? (i := 54) rfl))) (by decide) (backOf (W := 0)  (rmNN l Z a0 hw [] a4 sa112 h112) hZ (hw _ (List.mem_of_getElem? (i := 54) rfl)) (hw _ (List.mem_of_getElem? (i := 53) rfl)) (by decide) (by decide)) (g := (mkF m 33 #[.val (.ref a1), .val (.ref a2), .val (.int p3), .val (.ref a4), .unset] [(.ref sa112), (.ref a4)])) rfl (by rw [hml]; rfl) (argsL := [(.ref a4), (.ref sa112)]) (rest := []) (lenOf pd__Ljava_lang_Object_Ljava_lang_String__Ljava_lang_Object_ rfl) rfl (by show 2 * 0 + _ ≤ _; exact Nat.le_of_eq rfl) (hb hby dT1_33) (fun _ _ => ⟨rfl, e112, (by decide : 4 + 0 ≤ _), (by decide : 68 + 0 ≤ _)⟩)
  dsimp only [Pt.U, Pt.locs, Pt.cells, Pt.slots] at X119 l119 y119 z119 st119 hQ119
  subst l119 y119 z119
  obtain ⟨rfl, rfl, e119⟩ := hQ119
  have N119 := Fr.app N110 (Fr.nil n0)
  obtain ⟨T120, X120, e120, st120⟩ := castY X119 hx hZ hown (hw _ (List.mem_of_getElem? (i := 56) rfl)) e119 (Ins.self f117) (g := (mkF m 36 #[.val (.ref a1), .val (.ref a2), .val (.int p3), .val (.ref a4), .unset] [(.ref a4)])) rfl rfl (hb hby dT1_36)
  obtain ⟨T121, h121, X121, e121, E121, V121, A121, st121⟩ := cloneH X120 hx hZ hown (hw _ (List.mem_of_getElem? (i := 58) rfl)) (hw _ (List.mem_of_getElem? (i := 59) rfl)) (hw _ (List.mem_of_getElem? (i := 63) rfl)) (hw _ (List.mem_of_getElem? (i := 61) rfl)) (hw _ (List.mem_of_getElem? (i := 62) rfl)) (hw _ (List.mem_of_getElem? (i := 64) rfl)) e120 (hs := []) f118 f117 (g := (mkF m 39 #[.val (.ref a1), .val (.ref a2), .val (.int p3), .val (.ref a4), .unset] [(.ref a4)])) rfl (by rw [hml]; rfl) rfl (hb hby dT1_39) (by decide) (W := 0) (by show 2 * 0 + _ ≤ _; exact Nat.le_of_eq rfl) (by decide) (cap := 1) (by decide) (by decide) (by decide)
  obtain ⟨b121, g121⟩ : ∃ z, z = h112.size := ⟨_, rfl⟩
  rw [← g121] at A121 V121 st121
  have ne121_a1 : a1 ≠ b121 := Nat.ne_of_lt (Nat.lt_of_lt_of_le f113.lt (Nat.le_of_eq g121.symm))
  have ne121_a4 : a4 ≠ b121 := Nat.ne_of_lt (Nat.lt_of_lt_of_le f117.lt (Nat.le_of_eq g121.symm))
  have gb121 : n0 ≤ b121 := Nat.le_trans sz112 (Nat.le_of_eq g121.symm)
  have sz121 : n0 ≤ h121.size := Nat.le_trans sz112 E121.1
  have hk121 := Nat.le_trans hk112 E121.1
  have sb121 : h0.size ≤ b121 := Nat.le_trans K112.1 (Nat.le_of_eq g121.symm)
  have f122 := f113.ext E121
  have f123 := f114.ext E121
  have f124 := f115.ext E121
  have f125 := f116.ext E121
  have f126 := f117.ext E121
  have f127 := f118.ext E121
  have V121v : Arv Z h121 b121 k .int (1 : Int32) [(.int x0)] (.int (0 : Int32)) := V121
  have K121 : Keep h0 h121 [a1] := K112.ext E121
  obtain ⟨T128, X128, e128, st128⟩ := castY X121 hx hZ hown (hw _ (List.mem_of_getElem? (i := 56) rfl)) e121 (Ins.self A121) (g := (mkF m 42 #[.val (.ref a1), .val (.ref a2), .val (.int p3), .val (.ref a4), .unset] [(.ref b121)])) rfl rfl (hb hby dT1_42)
  obtain ⟨_, _, ⟨T129, L129, k129, n129⟩, -, X129, ⟨Lc129, hQ129, l129, y129, z129⟩, st129⟩ := Jvm.LawKit.callS X128 hx (y := (⟨"java/util/Arrays", "sort", "([I)V"⟩ : MethodName)) hown (mvT hZ (hw _ (List.mem_of_getElem? (i := 65) rfl))) (mvT hZ (hw _ (List.mem_of_getElem? (i := 66) rfl))) (mvT hZ (hw _ (List.mem_of_getElem? (i := 67) rfl))) (mvT hZ (hw _ (List.mem_of_getElem? (i := 68) rfl))) (by decide) (backOf (W := 0)  (rmAS1 l Z a0 hw [] b121 k x0 h121 n0 sz121 V121v gb121 ) hZ (hw _ (List.mem_of_getElem? (i := 68) rfl)) (hw _ (List.mem_of_getElem? (i := 67) rfl)) (by decide) (by decide)) (g := (mkF m 47 #[.val (.ref a1), .val (.ref a2), .val (.int p3), .val (.ref b121), .unset] [(.ref b121)])) rfl (by rw [hml]; rfl) (argsL := [(.ref b121)]) (rest := []) (lenOf pd___I_V rfl) rfl (by show 2 * 0 + _ ≤ _; exact Nat.le_of_eq rfl) (hb hby dT1_47) (fun _ _ => ⟨rfl, e128, (by decide : 5 + 0 ≤ _), (by decide : 69 + 0 ≤ _)⟩)
  dsimp only [Pt.U, Pt.locs, Pt.cells, Pt.slots] at X129 l129 y129 z129 st129 hQ129
  subst l129 y129 z129
  obtain ⟨rfl, Nq129, K129x, V129x⟩ := hQ129
  have N129 := Fr.app N119 Nq129
  have sz129 : n0 ≤ T129.heap.size := Nat.le_trans sz121 K129x.1
  have hk129 := Nat.le_trans hk121 K129x.1
  have f130 := f122.keep K129x
  have f131 := f123.keep K129x (own_nm ne121_a1)
  have f132 := f124.keep K129x (own_nm ne121_a1)
  have f133 := f125.keep K129x (own_nm ne121_a1)
  have f134 := f126.keep K129x
  have f135 := f127.keep K129x (own_nm ne121_a4)
  have f136 := A121.keep K129x
  have K129 : Keep h0 T129.heap [a1] := K121.trans K129x (fun x hx => by cases List.mem_singleton.mp hx; exact Or.inr sb121)
  obtain ⟨cl137, Ar137, q137, S137, Nn137, H137, G137⟩ := id V129x
  have P138 : ∀ t, Steps p.tables e below (T129.setTop (mkF m 62 #[.val (.ref a1), .val (.ref a2), .val (.int p3), .val (.ref b121), .val (.int (0 : Int32))] [(.int p3), (.ref a2)])) t → Steps p.tables e below (s₁.setTop (entryFrame m #[(.ref a1), (.ref a2), (.int p3), (.ref a4)] 5)) t := fun t kt => P111 t (by
    show Steps p.tables e below (T110.setTop (mkF m 31 #[.val (.ref a1), .val (.ref a2), .val (.int p3), .val (.ref a4), .unset] [(.ref a4)])) _
    refine st112 _ ?_
    show Steps p.tables e below (T112.setTop (mkF m 33 #[.val (.ref a1), .val (.ref a2), .val (.int p3), .val (.ref a4), .unset] [(.ref sa112), (.ref a4)])) _
    refine st119 _ ?_
    show Steps p.tables e below (T119.setTop (mkF m 36 #[.val (.ref a1), .val (.ref a2), .val (.int p3), .val (.ref a4), .unset] [(.ref a4)])) _
    refine st120 _ ?_
    show Steps p.tables e below (T120.setTop (mkF m 39 #[.val (.ref a1), .val (.ref a2), .val (.int p3), .val (.ref a4), .unset] [(.ref a4)])) _
    refine st121 _ ?_
    show Steps p.tables e below (T121.setTop (mkF m 42 #[.val (.ref a1), .val (.ref a2), .val (.int p3), .val (.ref a4), .unset] [(.ref b121)])) _
    refine st128 _ ?_
    show Steps p.tables e below (T128.setTop (mkF m 45 #[.val (.ref a1), .val (.ref a2), .val (.int p3), .val (.ref a4), .unset] [(.ref b121)])) _
    refine XS.astoreN X128.here hx rfl (hb hby dT1_45) rfl rfl (l' := #[.val (.ref a1), .val (.ref a2), .val (.int p3), .val (.ref b121), .unset]) rfl ?_
    show Steps p.tables e below (T128.setTop (mkF m 46 #[.val (.ref a1), .val (.ref a2), .val (.int p3), .val (.ref b121), .unset] [])) _
    refine XS.aloadN X128.here hx rfl (hb hby dT1_46) rfl rfl ?_
    show Steps p.tables e below (T128.setTop (mkF m 47 #[.val (.ref a1), .val (.ref a2), .val (.int p3), .val (.ref b121), .unset] [(.ref b121)])) _
    refine st129 _ ?_
    show Steps p.tables e below (T129.setTop (mkF m 50 #[.val (.ref a1), .val (.ref a2), .val (.int p3), .val (.ref b121), .unset] [])) _
    refine XS.iconst X129.here hx rfl (hb hby dT1_50) ?_
    show Steps p.tables e below (T129.setTop (mkF m 51 #[.val (.ref a1), .val (.ref a2), .val (.int p3), .val (.ref b121), .unset] [(.int (0 : Int32))])) _
    refine XS.istore X129.here hx rfl (hb hby dT1_51) rfl (l' := #[.val (.ref a1), .val (.ref a2), .val (.int p3), .val (.ref b121), .val (.int (0 : Int32))]) rfl ?_
    show Steps p.tables e below (T129.setTop (mkF m 53 #[.val (.ref a1), .val (.ref a2), .val (.int p3), .val (.ref b121), .val (.int (0 : Int32))] [])) _
    refine XS.iload X129.here hx rfl (hb hby dT1_53) rfl ?_
    show Steps p.tables e below (T129.setTop (mkF m 55 #[.val (.ref a1), .val (.ref a2), .val (.int p3), .val (.ref b121), .val (.int (0 : Int32))] [(.int (0 : Int32))])) _
    refine XS.aloadN X129.here hx rfl (hb hby dT1_55) rfl rfl ?_
    show Steps p.tables e below (T129.setTop (mkF m 56 #[.val (.ref a1), .val (.ref a2), .val (.int p3), .val (.ref b121), .val (.int (0 : Int32))] [(.ref b121), (.int (0 : Int32))])) _
    refine X129.arraylength hx Ar137.1 (State.isArrayOf_alike hZ.alike Ar137.2.1) (g := (mkF m 56 #[.val (.ref a1), .val (.ref a2), .val (.int p3), .val (.ref b121), .val (.int (0 : Int32))] [(.ref b121), (.int (0 : Int32))])) rfl rfl (hb hby dT1_56) _ ?_
    rw [len_of S137 Nn137]
    show Steps p.tables e below (T129.setTop (mkF m 57 #[.val (.ref a1), .val (.ref a2), .val (.int p3), .val (.ref b121), .val (.int (0 : Int32))] [(.int (1 : Int32)), (.int (0 : Int32))])) _
    refine XS.icmpNo X129.here hx rfl (hb hby dT1_57) rfl (tlt ((by decide) : (0 : Int32) < (1 : Int32))).2.1 ?_
    show Steps p.tables e below (T129.setTop (mkF m 60 #[.val (.ref a1), .val (.ref a2), .val (.int p3), .val (.ref b121), .val (.int (0 : Int32))] [])) _
    refine XS.aloadN X129.here hx rfl (hb hby dT1_60) rfl rfl ?_
    show Steps p.tables e below (T129.setTop (mkF m 61 #[.val (.ref a1), .val (.ref a2), .val (.int p3), .val (.ref b121), .val (.int (0 : Int32))] [(.ref a2)])) _
    refine XS.iloadN X129.here hx rfl (hb hby dT1_61) rfl ?_
    exact kt)
  obtain ⟨sa139, T139, h139, j139, X139, e139, E139, hS139, hk139, hZ, hown, st139⟩ := ldcS X129 hx hZ hown (hw _ (List.mem_of_getElem? (i := 94) rfl)) (own_wS hw) rfl hS112 hk129 (g := (mkF m 62 #[.val (.ref a1), .val (.ref a2), .val (.int p3), .val (.ref b121), .val (.int (0 : Int32))] [(.int p3), (.ref a2)])) rfl (hb hby dT1_62) (n := 84) (by decide) (by decide) (by decide) (by decide)
  have f140 := f130.ext E139
  have f141 := f131.ext E139
  have f142 := f132.ext E139
  have f143 := f133.ext E139
  have f144 := f134.ext E139
  have f145 := f135.ext E139
  have f146 := f136.ext E139
  have f147 := V129x.ext E139
  have sz139 : n0 ≤ h139.size := Nat.le_trans sz129 E139.1
  have K139 : Keep h0 h139 [a1] := K129.ext E139
  obtain ⟨cl148, Ar148, q148, S148, Nn148, H148, G148⟩ := id f147
  obtain ⟨_, _, ⟨T149, L149, k149, n149⟩, -, X149, ⟨Lc149, hQ149, l149, y149, z149⟩, st149⟩ := Jvm.LawKit.callS X139 hx (y := (⟨"com/example/allot/allot/partition/Topic", "requireOneOf", "(Ljava/lang/String;ILjava/lang/String;I)V"⟩ : MethodName)) hown (mvT hZ (hw _ (List.mem_of_getElem? (i := 91) rfl))) (mvT hZ (hw _ (List.mem_of_getElem? (i := 92) rfl))) (mvT hZ (hw _ (List.mem_of_getElem? (i := 38) rfl))) (mvT hZ (hw _ (List.mem_of_getElem? (i := 93) rfl))) (by decide) (backOf (W := 0)  (rmRO l Z a0 hw [] a2 p3 sa139 x0 h139 hx0 hy0) hZ (hw _ (List.mem_of_getElem? (i := 93) rfl)) (hw _ (List.mem_of_getElem? (i := 38) rfl)) (by decide) (by decide)) (g := (mkF m 68 #[.val (.ref a1), .val (.ref a2), .val (.int p3), .val (.ref b121), .val (.int (0 : Int32))] [(.int x0), (.ref sa139), (.int p3), (.ref a2)])) rfl (by rw [hml]; rfl) (argsL := [(.ref a2), (.int p3), (.ref sa139), (.int x0)]) (rest := []) (lenOf pd__Ljava_lang_String_ILjava_lang_String_I_V rfl) rfl (by show 2 * 0 + _ ≤ _; exact Nat.le_of_eq rfl) (hb hby dT1_68) (fun _ _ => ⟨rfl, e139, (by decide : 7 + 0 ≤ _), (by decide : 157 + 0 ≤ _)⟩)
  dsimp only [Pt.U, Pt.locs, Pt.cells, Pt.slots] at X149 l149 y149 z149 st149 hQ149
  subst l149 y149 z149
  obtain ⟨rfl, rfl, e149⟩ := hQ149
  have N149 := Fr.app N129 (Fr.nil n0)
  obtain ⟨cl150, Ar150, q150, S150, Nn150, H150, G150⟩ := id f147
  obtain ⟨T151, h151, X151, e151, W151, st151⟩ := putF X149 hx hZ hown (host := "") (Or.inl (hw _ (List.mem_of_getElem? (i := 79) rfl))) Via.refl e149 f141 f140 (Or.inr ⟨(hw _ (List.mem_of_getElem? (i := 80) rfl)), rfl, hnm⟩) (hw _ (List.mem_of_getElem? (i := 37) rfl)) (ty := (.object "java/lang/String")) (by decide) rfl rfl (g := (mkF m 114 #[.val (.ref a1), .val (.ref a2), .val (.int p3), .val (.ref b121), .val (.int (1 : Int32))] [(.ref a2), (.ref a1)])) rfl rfl (hb hby dT1_114)
  have f152 := f140.wr W151
  have f153 := f142.other W151 (Or.inr (slot_ne (Or.inr (hw _ (List.mem_of_getElem? (i := 82) rfl))) (Or.inr (hw _ (List.mem_of_getElem? (i := 80) rfl))) (by decide) (t := .int) (t' := (.object "java/lang/String")) (by decide) (by decide)))
  have f154 := f143.other W151 (Or.inr (slot_ne (Or.inr (hw _ (List.mem_of_getElem? (i := 84) rfl))) (Or.inr (hw _ (List.mem_of_getElem? (i := 80) rfl))) (by decide) (t := (.array .int)) (t' := (.object "java/lang/String")) (by decide) (by decide)))
  have f155 := f144.wr W151
  have f156 := f145.other W151 (Ne.symm h14)
  have f157 := f146.wr W151
  have f158 := f147.other W151 (Ne.symm ne121_a1)
  have F151 := f141.same W151
  have N151 := Fr.snoc X151 N149 ga
  have sz151 : n0 ≤ h151.size := Nat.le_trans sz139 (Keep.of_wr W151).1
  have hk151 := Nat.le_trans hk139 (Keep.of_wr W151).1
  have K151 : Keep h0 h151 [a1] := K139.wr W151 (Or.inl (List.mem_of_getElem? (i := 0) rfl))
  obtain ⟨T159, h159, X159, e159, W159, st159⟩ := putF X151 hx hZ hown (host := "") (Or.inl (hw _ (List.mem_of_getElem? (i := 81) rfl))) Via.refl e151 f153 f152 (Or.inr ⟨(hw _ (List.mem_of_getElem? (i := 82) rfl)), rfl, hnm⟩) (hw _ (List.mem_of_getElem? (i := 37) rfl)) (ty := .int) (by decide) rfl rfl (g := (mkF m 119 #[.val (.ref a1), .val (.ref a2), .val (.int p3), .val (.ref b121), .val (.int (1 : Int32))] [(.int p3), (.ref a1)])) rfl rfl (hb hby dT1_119)
  have f160 := f152.wr W159
  have f161 := f154.other W159 (Or.inr (slot_ne (Or.inr (hw _ (List.mem_of_getElem? (i := 84) rfl))) (Or.inr (hw _ (List.mem_of_getElem? (i := 82) rfl))) (by decide) (t := (.array .int)) (t' := .int) (by decide) (by decide)))
  have f162 := f155.wr W159
  have f163 := f156.other W159 (Ne.symm h14)
  have f164 := f157.wr W159
  have f165 := f158.other W159 (Ne.symm ne121_a1)
  have f166 := F151.other W159 (Or.inr (slot_ne (Or.inr (hw _ (List.mem_of_getElem? (i := 80) rfl))) (Or.inr (hw _ (List.mem_of_getElem? (i := 82) rfl))) (by decide) (t := (.object "java/lang/String")) (t' := .int) (by decide) (by decide)))
  have F159 := f153.same W159
  have N159 := Fr.snoc X159 N151 ga
  have sz159 : n0 ≤ h159.size := Nat.le_trans sz151 (Keep.of_wr W159).1
  have hk159 := Nat.le_trans hk151 (Keep.of_wr W159).1
  have K159 : Keep h0 h159 [a1] := K151.wr W159 (Or.inl (List.mem_of_getElem? (i := 0) rfl))
  obtain ⟨T167, h167, X167, e167, W167, st167⟩ := putF X159 hx hZ hown (host := "") (Or.inl (hw _ (List.mem_of_getElem? (i := 83) rfl))) Via.refl e159 f161 f160 (Or.inr ⟨(hw _ (List.mem_of_getElem? (i := 84) rfl)), rfl, hnm⟩) (hw _ (List.mem_of_getElem? (i := 37) rfl)) (ty := (.array .int)) (by decide) rfl rfl (g := (mkF m 124 #[.val (.ref a1), .val (.ref a2), .val (.int p3), .val (.ref b121), .val (.int (1 : Int32))] [(.ref b121), (.ref a1)])) rfl rfl (hb hby dT1_124)
  have f168 := f160.wr W167
  have f169 := f162.wr W167
  have f170 := f163.other W167 (Ne.symm h14)
  have f171 := f164.wr W167
  have f172 := f165.other W167 (Ne.symm ne121_a1)
  have f173 := f166.other W167 (Or.inr (slot_ne (Or.inr (hw _ (List.mem_of_getElem? (i := 80) rfl))) (Or.inr (hw _ (List.mem_of_getElem? (i := 84) rfl))) (by decide) (t := (.object "java/lang/String")) (t' := (.array .int)) (by decide) (by decide)))
  have f174 := F159.other W167 (Or.inr (slot_ne (Or.inr (hw _ (List.mem_of_getElem? (i := 82) rfl))) (Or.inr (hw _ (List.mem_of_getElem? (i := 84) rfl))) (by decide) (t := .int) (t' := (.array .int)) (by decide) (by decide)))
  have F167 := f161.same W167
  have N167 := Fr.snoc X167 N159 ga
  have sz167 : n0 ≤ h167.size := Nat.le_trans sz159 (Keep.of_wr W167).1
  have hk167 := Nat.le_trans hk159 (Keep.of_wr W167).1
  have K167 : Keep h0 h167 [a1] := K159.wr W167 (Or.inl (List.mem_of_getElem? (i := 0) rfl))
  have P175 : ∀ t, Steps p.tables e below (T167.setTop (mkF m 127 #[.val (.ref a1), .val (.ref a2), .val (.int p3), .val (.ref b121), .val (.int (1 : Int32))] [])) t → Steps p.tables e below (s₁.setTop (entryFrame m #[(.ref a1), (.ref a2), (.int p3), (.ref a4)] 5)) t := fun t kt => P138 t (by
    show Steps p.tables e below (T129.setTop (mkF m 62 #[.val (.ref a1), .val (.ref a2), .val (.int p3), .val (.ref b121), .val (.int (0 : Int32))] [(.int p3), (.ref a2)])) _
    refine st139 _ ?_
    show Steps p.tables e below (T139.setTop (mkF m 64 #[.val (.ref a1), .val (.ref a2), .val (.int p3), .val (.ref b121), .val (.int (0 : Int32))] [(.ref sa139), (.int p3), (.ref a2)])) _
    refine XS.aloadN X139.here hx rfl (hb hby dT1_64) rfl rfl ?_
    show Steps p.tables e below (T139.setTop (mkF m 65 #[.val (.ref a1), .val (.ref a2), .val (.int p3), .val (.ref b121), .val (.int (0 : Int32))] [(.ref b121), (.ref sa139), (.int p3), (.ref a2)])) _
    refine XS.iload X139.here hx rfl (hb hby dT1_65) rfl ?_
    show Steps p.tables e below (T139.setTop (mkF m 67 #[.val (.ref a1), .val (.ref a2), .val (.int p3), .val (.ref b121), .val (.int (0 : Int32))] [(.int (0 : Int32)), (.ref b121), (.ref sa139), (.int p3), (.ref a2)])) _
    refine X139.iaload hx (j := (0 : Int32)) (v := (.int x0)) (by rw [e139]; exact Ar148.1) (State.isArrayOf_alike hZ.alike Ar148.2.1) Ar148.2.2 (inb_of S148 ⟨by decide, by decide⟩) (H148 0 (by rw [S148]; decide)) (g := (mkF m 67 #[.val (.ref a1), .val (.ref a2), .val (.int p3), .val (.ref b121), .val (.int (0 : Int32))] [(.int (0 : Int32)), (.ref b121), (.ref sa139), (.int p3), (.ref a2)])) rfl rfl (hb hby dT1_67) _ ?_
    show Steps p.tables e below (T139.setTop (mkF m 68 #[.val (.ref a1), .val (.ref a2), .val (.int p3), .val (.ref b121), .val (.int (0 : Int32))] [(.int x0), (.ref sa139), (.int p3), (.ref a2)])) _
    refine st149 _ ?_
    show Steps p.tables e below (T149.setTop (mkF m 71 #[.val (.ref a1), .val (.ref a2), .val (.int p3), .val (.ref b121), .val (.int (0 : Int32))] [])) _
    refine XS.iload X149.here hx rfl (hb hby dT1_71) rfl ?_
    show Steps p.tables e below (T149.setTop (mkF m 73 #[.val (.ref a1), .val (.ref a2), .val (.int p3), .val (.ref b121), .val (.int (0 : Int32))] [(.int (0 : Int32))])) _
    refine XS.ifYes X149.here hx rfl (pc0 := 73) (pc' := 106) rfl (hb hby dT1_73) rfl ((if0 _ _).trans (flt ((by decide) : ¬ ((0 : Int32) < (0 : Int32)))).2.2.2) (by decide) (by decide) ?_
    show Steps p.tables e below (T149.setTop (mkF m 106 #[.val (.ref a1), .val (.ref a2), .val (.int p3), .val (.ref b121), .val (.int (0 : Int32))] [])) _
    refine XS.iinc X149.here hx rfl (hb hby dT1_106) rfl (l' := #[.val (.ref a1), .val (.ref a2), .val (.int p3), .val (.ref b121), .val (.int (1 : Int32))]) rfl ?_
    show Steps p.tables e below (T149.setTop (mkF m 109 #[.val (.ref a1), .val (.ref a2), .val (.int p3), .val (.ref b121), .val (.int (1 : Int32))] [])) _
    refine XS.goto X149.here hx rfl (pc0 := 109) (pc' := 53) rfl (hb hby dT1_109) (by decide) (by decide) ?_
    show Steps p.tables e below (T149.setTop (mkF m 53 #[.val (.ref a1), .val (.ref a2), .val (.int p3), .val (.ref b121), .val (.int (1 : Int32))] [])) _
    refine XS.iload X149.here hx rfl (hb hby dT1_53) rfl ?_
    show Steps p.tables e below (T149.setTop (mkF m 55 #[.val (.ref a1), .val (.ref a2), .val (.int p3), .val (.ref b121), .val (.int (1 : Int32))] [(.int (1 : Int32))])) _
    refine XS.aloadN X149.here hx rfl (hb hby dT1_55) rfl rfl ?_
    show Steps p.tables e below (T149.setTop (mkF m 56 #[.val (.ref a1), .val (.ref a2), .val (.int p3), .val (.ref b121), .val (.int (1 : Int32))] [(.ref b121), (.int (1 : Int32))])) _
    refine X149.arraylength hx (by rw [e149]; exact Ar150.1) (State.isArrayOf_alike hZ.alike Ar150.2.1) (g := (mkF m 56 #[.val (.ref a1), .val (.ref a2), .val (.int p3), .val (.ref b121), .val (.int (1 : Int32))] [(.ref b121), (.int (1 : Int32))])) rfl rfl (hb hby dT1_56) _ ?_
    rw [len_of S150 Nn150]
    show Steps p.tables e below (T149.setTop (mkF m 57 #[.val (.ref a1), .val (.ref a2), .val (.int p3), .val (.ref b121), .val (.int (1 : Int32))] [(.int (1 : Int32)), (.int (1 : Int32))])) _
    refine XS.icmpYes X149.here hx rfl (pc0 := 57) (pc' := 112) rfl (hb hby dT1_57) rfl (flt ((by decide) : ¬ ((1 : Int32) < (1 : Int32)))).2.1 (by decide) (by decide) ?_
    show Steps p.tables e below (T149.setTop (mkF m 112 #[.val (.ref a1), .val (.ref a2), .val (.int p3), .val (.ref b121), .val (.int (1 : Int32))] [])) _
    refine XS.aloadN X149.here hx rfl (hb hby dT1_112) rfl rfl ?_
    show Steps p.tables e below (T149.setTop (mkF m 113 #[.val (.ref a1), .val (.ref a2), .val (.int p3), .val (.ref b121), .val (.int (1 : Int32))] [(.ref a1)])) _
    refine XS.aloadN X149.here hx rfl (hb hby dT1_113) rfl rfl ?_
    show Steps p.tables e below (T149.setTop (mkF m 114 #[.val (.ref a1), .val (.ref a2), .val (.int p3), .val (.ref b121), .val (.int (1 : Int32))] [(.ref a2), (.ref a1)])) _
    refine st151 _ ?_
    show Steps p.tables e below (T151.setTop (mkF m 117 #[.val (.ref a1), .val (.ref a2), .val (.int p3), .val (.ref b121), .val (.int (1 : Int32))] [])) _
    refine XS.aloadN X151.here hx rfl (hb hby dT1_117) rfl rfl ?_
    show Steps p.tables e below (T151.setTop (mkF m 118 #[.val (.ref a1), .val (.ref a2), .val (.int p3), .val (.ref b121), .val (.int (1 : Int32))] [(.ref a1)])) _
    refine XS.iloadN X151.here hx rfl (hb hby dT1_118) rfl ?_
    show Steps p.tables e below (T151.setTop (mkF m 119 #[.val (.ref a1), .val (.ref a2), .val (.int p3), .val (.ref b121), .val (.int (1 : Int32))] [(.int p3), (.ref a1)])) _
    refine st159 _ ?_
    show Steps p.tables e below (T159.setTop (mkF m 122 #[.val (.ref a1), .val (.ref a2), .val (.int p3), .val (.ref b121), .val (.int (1 : Int32))] [])) _
    refine XS.aloadN X159.here hx rfl (hb hby dT1_122) rfl rfl ?_
    show Steps p.tables e below (T159.setTop (mkF m 123 #[.val (.ref a1), .val (.ref a2), .val (.int p3), .val (.ref b121), .val (.int (1 : Int32))] [(.ref a1)])) _
    refine XS.aloadN X159.here hx rfl (hb hby dT1_123) rfl rfl ?_
    show Steps p.tables e below (T159.setTop (mkF m 124 #[.val (.ref a1), .val (.ref a2), .val (.int p3), .val (.ref b121), .val (.int (1 : Int32))] [(.ref b121), (.ref a1)])) _
    refine st167 _ ?_
    exact kt)
  obtain ⟨fs, hr, hrun, hended, hE1, hE2, hE3, hE4⟩ := X167.leaveW hS139 (by rw [e167]; exact hk167) (v := none) (fun _ => rfl) (hlocks := hlk)
  refine ⟨_, _, P175 _ ?_, hrun, hended, _, _, rfl, ?_, hE1, hE2, hE3, hE4.mono (by decide) (by decide)⟩
  · show Steps p.tables e below (T167.setTop (mkF m 127 #[.val (.ref a1), .val (.ref a2), .val (.int p3), .val (.ref b121), .val (.int (1 : Int32))] [])) _
    exact X167.returnOut hx Bd.returns (hb hby dT1_127) hr
  · show QT Z a1 a2 p3 (1 : Int32) [(.int x0)] h0 n0 _ T167.heap _
    rw [e167]
    exact ⟨rfl, N167, K167, f168, f173, f174, b121, k, F167, f172⟩
theorem dCK_0 : decode prog_83_method_6_code 0 = .ok (.aload_n 0, 1) := by decide +kernel
theorem dCK_1 : decode prog_83_method_6_code 1 = .ok (.getfield 47, 3) := by decide +kernel
theorem dCK_4 : decode prog_83_method_6_code 4 = .ok (.aload_n 0, 1) := by decide +kernel
theorem dCK_5 : decode prog_83_method_6_code 5 = .ok (.getfield 50, 3) := by decide +kernel
theorem dCK_8 : decode prog_83_method_6_code 8 = .ok (.ldc 88, 2) := by decide +kernel
theorem dCK_10 : decode prog_83_method_6_code 10 = .ok (.iload_n 1, 1) := by decide +kernel
theorem dCK_11 : decode prog_83_method_6_code 11 = .ok (.invokestatic 40, 3) := by decide +kernel
theorem dCK_14 : decode prog_83_method_6_code 14 = .ok (.iload_n 1, 1) := by decide +kernel
theorem dCK_15 : decode prog_83_method_6_code 15 = .ok (.ireturn, 1) := by decide +kernel
theorem ef_CK (m : MethodId) (x0 : Addr) (x1 : Int32) : entryFrame m #[(.ref x0), (.int x1)] 2 = mkF m 0 #[.val (.ref x0), .val (.int x1)] [] := by first | (simp [entryFrame, mkF, argsToLocals, Value.category]; done) | rfl
set_option maxRecDepth 65536 in
set_option maxHeartbeats 40000000 in
theorem rmCK (l : Launch) (Z : State) (a0 : Array Value) (hw : ∀ d ∈ tables_1, d.before a0 Z = true) (ws : List Jvm.Cond) (a1 : Addr) (p2 : Int32) (a2 : Addr) (pp : Int32) (h0 : Heap) (n0 : Nat) (Z0 : n0 ≤ h0.size) (Fn : Fld Z h0 a1 "com/example/allot/allot/partition/Topic" "name" "Ljava/lang/String;" (.ref a2)) (Fp : Fld Z h0 a1 "com/example/allot/allot/partition/Topic" "partitions" "I" (.int pp)) (h1 : ¬ p2 < (0 : Int32)) (h2 : p2 < pp) :
    MetFree l (⟨"com/example/allot/allot/partition/Topic", "checked", "(I)I"⟩ : MethodName) (head1 (Jvm.Cond.code (⟨"com/example/allot/allot/partition/Topic", "checked", "(I)I"⟩ : MethodName) prog_83_method_6_code 2 (some .int) :: ws) ({ frames := 1, cells := 2, slots := 40, locals := 15 } : Room)) (fun a U => a = #[(.ref a1), (.int p2)] ∧ Z.Warmed39 U.vm ∧ U.heap = h0) (fun _ _ _ _ _ => True) (fun _ U o U' => ∃ v L, o = .returned v ∧ QC p2 n0 v U'.heap L ∧ ReturnedEndW U o U' L ({ frames := 1, cells := 2, slots := 40, locals := 15 } : Room).cells ({ frames := 1, cells := 2, slots := 40, locals := 15 } : Room).slots) := by
  refine MetFree.of_bodySF (plainFor_of_name (by first | (simp [plainName, overriddenIn]; done) | decide +kernel)) hisR ?_
  intro p e s m args below meth c s₁ Bd hml0 hP hK
  obtain ⟨rfl, hZ, hh⟩ := hP
  have hx := Bd.exec
  have hby := Bd.bytes
  have hml : c.maxLocals = 2 := hml0
  have hown : s.vm.findClass "com/example/allot/allot/partition/Topic" = some m.cls := findClass_of_methodNamed Bd.named
  have hnm := (name_of_methodNamed Bd.named Bd.method).1
  have hlk : meth.locks = false := BodyLoose.notSynchronized Bd
  have X0 : Stand p l e ({ frames := 1, cells := 2, slots := 40, locals := 15 } : Room) (s.setVm s.vm) m #[(.ref a1), (.int p2)] below meth c s₁ [] 0 0 := Stand.of_body Bd
  have e0 : s₁.heap = h0 := by rw [← hh, Bd.state]; rfl
  have P0 : ∀ t, Steps p.tables e below (s₁.setTop (mkF m 0 #[.val (.ref a1), .val (.int p2)] [])) t → Steps p.tables e below (s₁.setTop (entryFrame m #[(.ref a1), (.int p2)] 2)) t := fun t kt => castTop (ef_CK m a1 p2) kt
  have N0 := Fr.nil n0
  have hS0 : s.Since s.vm 0 := State.WarmedH.since (State.WarmedH.refl s) 0
  have hk0 : 0 ≤ h0.size := Nat.zero_le _
  obtain ⟨T101, X101, e101, st101⟩ := getF X0 hx hZ hown (host := "") (Or.inl (hw _ (List.mem_of_getElem? (i := 79) rfl))) Via.refl e0 Fn (g := (mkF m 1 #[.val (.ref a1), .val (.int p2)] [(.ref a1)])) rfl rfl (hb hby dCK_1)
  obtain ⟨T102, X102, e102, st102⟩ := getF X101 hx hZ hown (host := "") (Or.inl (hw _ (List.mem_of_getElem? (i := 81) rfl))) Via.refl e101 Fp (g := (mkF m 5 #[.val (.ref a1), .val (.int p2)] [(.ref a1), (.ref a2)])) rfl rfl (hb hby dCK_5)
  have P103 : ∀ t, Steps p.tables e below (T102.setTop (mkF m 8 #[.val (.ref a1), .val (.int p2)] [(.int pp), (.ref a2)])) t → Steps p.tables e below (s₁.setTop (entryFrame m #[(.ref a1), (.int p2)] 2)) t := fun t kt => P0 t (by
    show Steps p.tables e below (s₁.setTop (mkF m 0 #[.val (.ref a1), .val (.int p2)] [])) _
    refine XS.aloadN X0.here hx rfl (hb hby dCK_0) rfl rfl ?_
    show Steps p.tables e below (s₁.setTop (mkF m 1 #[.val (.ref a1), .val (.int p2)] [(.ref a1)])) _
    refine st101 _ ?_
    show Steps p.tables e below (T101.setTop (mkF m 4 #[.val (.ref a1), .val (.int p2)] [(.ref a2)])) _
    refine XS.aloadN X101.here hx rfl (hb hby dCK_4) rfl rfl ?_
    show Steps p.tables e below (T101.setTop (mkF m 5 #[.val (.ref a1), .val (.int p2)] [(.ref a1), (.ref a2)])) _
    refine st102 _ ?_
    exact kt)
  obtain ⟨sa104, T104, h104, j104, X104, e104, E104, hS104, hk104, hZ, hown, st104⟩ := ldcS X102 hx hZ hown (hw _ (List.mem_of_getElem? (i := 90) rfl)) (own_wS hw) e102 hS0 hk0 (g := (mkF m 8 #[.val (.ref a1), .val (.int p2)] [(.int pp), (.ref a2)])) rfl (hb hby dCK_8) (n := 36) (by decide) (by decide) (by decide) (by decide)
  have sz104 : n0 ≤ h104.size := Nat.le_trans Z0 E104.1
  obtain ⟨_, _, ⟨T105, L105, k105, n105⟩, -, X105, ⟨Lc105, hQ105, l105, y105, z105⟩, st105⟩ := Jvm.LawKit.callS X104 hx (y := (⟨"com/example/allot/allot/partition/Topic", "requireOneOf", "(Ljava/lang/String;ILjava/lang/String;I)V"⟩ : MethodName)) hown (mvT hZ (hw _ (List.mem_of_getElem? (i := 91) rfl))) (mvT hZ (hw _ (List.mem_of_getElem? (i := 92) rfl))) (mvT hZ (hw _ (List.mem_of_getElem? (i := 38) rfl))) (mvT hZ (hw _ (List.mem_of_getElem? (i := 93) rfl))) (by decide) (backOf (W := 0)  (rmRO l Z a0 hw [] a2 pp sa104 p2 h104 h1 h2) hZ (hw _ (List.mem_of_getElem? (i := 93) rfl)) (hw _ (List.mem_of_getElem? (i := 38) rfl)) (by decide) (by decide)) (g := (mkF m 11 #[.val (.ref a1), .val (.int p2)] [(.int p2), (.ref sa104), (.int pp), (.ref a2)])) rfl (by rw [hml]; rfl) (argsL := [(.ref a2), (.int pp), (.ref sa104), (.int p2)]) (rest := []) (lenOf pd__Ljava_lang_String_ILjava_lang_String_I_V rfl) rfl (by show 2 * 0 + _ ≤ _; exact Nat.le_of_eq rfl) (hb hby dCK_11) (fun _ _ => ⟨rfl, e104, (by decide : 2 + 0 ≤ _), (by decide : 40 + 0 ≤ _)⟩)
  dsimp only [Pt.U, Pt.locs, Pt.cells, Pt.slots] at X105 l105 y105 z105 st105 hQ105
  subst l105 y105 z105
  obtain ⟨rfl, rfl, e105⟩ := hQ105
  have N105 := Fr.app N0 (Fr.nil n0)
  have P106 : ∀ t, Steps p.tables e below (T105.setTop (mkF m 15 #[.val (.ref a1), .val (.int p2)] [(.int p2)])) t → Steps p.tables e below (s₁.setTop (entryFrame m #[(.ref a1), (.int p2)] 2)) t := fun t kt => P103 t (by
    show Steps p.tables e below (T102.setTop (mkF m 8 #[.val (.ref a1), .val (.int p2)] [(.int pp), (.ref a2)])) _
    refine st104 _ ?_
    show Steps p.tables e below (T104.setTop (mkF m 10 #[.val (.ref a1), .val (.int p2)] [(.ref sa104), (.int pp), (.ref a2)])) _
    refine XS.iloadN X104.here hx rfl (hb hby dCK_10) rfl ?_
    show Steps p.tables e below (T104.setTop (mkF m 11 #[.val (.ref a1), .val (.int p2)] [(.int p2), (.ref sa104), (.int pp), (.ref a2)])) _
    refine st105 _ ?_
    show Steps p.tables e below (T105.setTop (mkF m 14 #[.val (.ref a1), .val (.int p2)] [])) _
    refine XS.iloadN X105.here hx rfl (hb hby dCK_14) rfl ?_
    exact kt)
  obtain ⟨fs, hr, hrun, hended, hE1, hE2, hE3, hE4⟩ := X105.leaveW hS104 (by rw [e105]; exact hk104) (v := some (.int p2)) (fun h => by rw [Bd.returns] at h; cases h) (hlocks := hlk)
  refine ⟨_, _, P106 _ ?_, hrun, hended, _, _, rfl, ?_, hE1, hE2, hE3, hE4.mono (by decide) (by decide)⟩
  · show Steps p.tables e below (T105.setTop (mkF m 15 #[.val (.ref a1), .val (.int p2)] [(.int p2)])) _
    exact retI X105 hx Bd.returns (hb hby dCK_15) hr
  · show QC p2 n0 _ T105.heap _
    exact ⟨rfl, N105⟩
theorem own_l1 : (1 : Int32).toInt = 1 := rfl
theorem own_sub (a b : Int32) (h1 : -2147483648 ≤ a.toInt - b.toInt) (h2 : a.toInt - b.toInt < 2147483648) : (a - b).toInt = a.toInt - b.toInt := by
  have := c_isub a b; have := rng32 (a - b); omega
theorem own_pp (x pp : Int32) (h : pp = mxI (1 : Int32) (x &&& (2147483647 : Int32))) : 1 ≤ pp.toInt := by
  rw [h]; unfold mxI; split
  · rename_i q; rw [Int32.lt_iff_toInt_lt, own_l1] at q; omega
  · rw [own_l1]; exact Int.le_refl 1
theorem own_rem (x c r : Int32) (hc : 1 ≤ c.toInt) (h : r = ((x &&& (2147483647 : Int32)) - ((x &&& (2147483647 : Int32)) / c) * c)) : ¬ r < (0 : Int32) ∧ r < c := by
  have a0 := c_mask x (2147483647 : Int32) 31 (by decide) (by decide)
  have h2 := own_irem (x &&& (2147483647 : Int32)) c c.toInt rfl (by omega) (by omega)
  rw [← h] at h2
  have h7 := Int.emod_nonneg (x &&& (2147483647 : Int32)).toInt (by omega : c.toInt ≠ 0)
  have h8 := Int.emod_lt_of_pos (x &&& (2147483647 : Int32)).toInt (by omega : 0 < c.toInt)
  exact ⟨own_nlt _ 0 rfl (by omega), Int32.lt_iff_toInt_lt.mpr (by omega)⟩
theorem own_nz (c : Int32) (hc : 1 ≤ c.toInt) : c ≠ 0 := fun q => by rw [q] at hc; exact absurd hc (by decide)
theorem own_pt (md pp q0 pt : Int32) (hc : 1 ≤ pp.toInt) (hq : ¬ q0 < (0 : Int32) ∧ q0 < pp) (h : pt = (if md = (1 : Int32) then (0 : Int32) else (if md = (2 : Int32) then (pp - (1 : Int32)) else q0))) : ¬ pt < (0 : Int32) ∧ pt < pp := by
  have hr := rng32 pp
  have e := own_sub pp (1 : Int32) (by rw [own_l1]; omega) (by rw [own_l1]; omega)
  rw [own_l1] at e
  rw [h]
  split
  · exact ⟨by decide, Int32.lt_iff_toInt_lt.mpr (by show (0 : Int) < _; omega)⟩
  split
  · exact ⟨own_nlt _ 0 rfl (by omega), Int32.lt_iff_toInt_lt.mpr (by omega)⟩
  · exact hq
theorem own_lat (x : Int32) : ∀ c ∈ [nar .char ((x &&& (255 : Int32)).toUInt32.toUInt16.toUInt32.toInt32)], ¬ c < 0 ∧ ¬ (255 : Int32) < c := by
  intro c hc
  cases List.mem_singleton.mp hc
  rw [show nar .char ((x &&& (255 : Int32)).toUInt32.toUInt16.toUInt32.toInt32) = x &&& 255 from by simp only [nar, i2c_mask]]
  have a0 := c_mask x (255 : Int32) 8 (by decide) (by decide)
  exact ⟨own_nlt _ 0 rfl (by omega), own_ngt _ 255 rfl (by omega)⟩
theorem ef_0 (m : MethodId) (x0 : Int32) (x1 : Int32) (x2 : Int32) (x3 : Int32) (x4 : Int32) : entryFrame m #[(.int x0), (.int x1), (.int x2), (.int x3), (.int x4)] maxLocals = mkF m 0 #[.val (.int x0), .val (.int x1), .val (.int x2), .val (.int x3), .val (.int x4), .unset, .unset, .unset, .unset, .unset, .unset, .unset] [] := by first | (simp [entryFrame, mkF, argsToLocals, Value.category, maxLocals]; done) | rfl
set_option maxRecDepth 65536 in
set_option maxHeartbeats 40000000 in
theorem rm0 (l : Launch) (Z : State) (a0 : Array Value) (hw : ∀ d ∈ tables_1, d.before a0 Z = true) (ws : List Jvm.Cond) (p1 p2 p3 p4 p5 : Int32) (zc : Int32) (h0 : Heap) (n0 : Nat) (Z0 : n0 ≤ h0.size) (SC : Sta Z h0 "java/lang/String" "COMPACT_STRINGS" "Z" (.int zc)) (hzc : ¬ zc = (0 : Int32)) :
    MetFree l x (head1 (Jvm.Cond.code x code maxLocals ret :: ws) room_1) (fun a U => a = #[(.int p1), (.int p2), (.int p3), (.int p4), (.int p5)] ∧ Z.Warmed39 U.vm ∧ U.heap = h0) (fun _ _ _ _ _ => True) (fun _ U o U' => ∃ v L, o = .returned v ∧ Q0 n0 v U'.heap L ∧ ReturnedEndW U o U' L room_1.cells room_1.slots) := by
  refine MetFree.of_bodySF (plainFor_of_name (by first | (simp [plainName, overriddenIn]; done) | decide +kernel)) hisR ?_
  intro p e s m args below meth c s₁ Bd hml0 hP hK
  obtain ⟨rfl, hZ, hh⟩ := hP
  have hx := Bd.exec
  have hby := Bd.bytes
  have hml : c.maxLocals = 12 := hml0
  have hown : s.vm.findClass "com/example/allot/allot/partition/TopicCheckedPinLaw" = some m.cls := findClass_of_methodNamed Bd.named
  have hnm := (name_of_methodNamed Bd.named Bd.method).1
  have hlk : meth.locks = false := BodyLoose.notSynchronized Bd
  have X0 : Stand p l e room_1 (s.setVm s.vm) m #[(.int p1), (.int p2), (.int p3), (.int p4), (.int p5)] below meth c s₁ [] 0 0 := Stand.of_body Bd
  have e0 : s₁.heap = h0 := by rw [← hh, Bd.state]; rfl
  have P0 : ∀ t, Steps p.tables e below (s₁.setTop (mkF m 0 #[.val (.int p1), .val (.int p2), .val (.int p3), .val (.int p4), .val (.int p5), .unset, .unset, .unset, .unset, .unset, .unset, .unset] [])) t → Steps p.tables e below (s₁.setTop (entryFrame m #[(.int p1), (.int p2), (.int p3), (.int p4), (.int p5)] maxLocals)) t := fun t kt => castTop (ef_0 m p1 p2 p3 p4 p5) kt
  have N0 := Fr.nil n0
  have hS0 : s.Since s.vm 0 := State.WarmedH.since (State.WarmedH.refl s) 0
  have hk0 : 0 ≤ h0.size := Nat.zero_le _
  obtain ⟨_, _, ⟨T101, L101, k101, n101⟩, -, X101, ⟨Lc101, hQ101, l101, y101, z101⟩, st101⟩ := Jvm.LawKit.callS X0 hx (y := (⟨"java/lang/Math", "max", "(II)I"⟩ : MethodName)) hown (mvT hZ (hw _ (List.mem_of_getElem? (i := 1) rfl))) (mvT hZ (hw _ (List.mem_of_getElem? (i := 2) rfl))) (mvT hZ (hw _ (List.mem_of_getElem? (i := 3) rfl))) (mvT hZ (hw _ (List.mem_of_getElem? (i := 4) rfl))) (by decide) (backOf (W := 0)  (rmMx l Z a0 hw [] (1 : Int32) (p1 &&& (2147483647 : Int32)) h0) hZ (hw _ (List.mem_of_getElem? (i := 4) rfl)) (hw _ (List.mem_of_getElem? (i := 3) rfl)) (by decide) (by decide)) (g := (mkF m 5 #[.val (.int p1), .val (.int p2), .val (.int p3), .val (.int p4), .val (.int p5), .unset, .unset, .unset, .unset, .unset, .unset, .unset] [(.int (p1 &&& (2147483647 : Int32))), (.int (1 : Int32))])) rfl (by rw [hml]; rfl) (argsL := [(.int (1 : Int32)), (.int (p1 &&& (2147483647 : Int32)))]) (rest := []) (lenOf pd__II_I rfl) rfl (by show 2 * 0 + _ ≤ _; exact Nat.le_of_eq rfl) (hb hby at_5) (fun _ _ => ⟨rfl, e0, (by decide : 0 + 0 ≤ _), (by decide : 0 + 0 ≤ _)⟩)
  dsimp only [Pt.U, Pt.locs, Pt.cells, Pt.slots] at X101 l101 y101 z101 st101 hQ101
  subst l101 y101 z101
  obtain ⟨rfl, rfl, e101⟩ := hQ101
  have N101 := Fr.app N0 (Fr.nil n0)
  have P102 : ∀ t, Steps p.tables e below (T101.setTop (mkF m 10 #[.val (.int p1), .val (.int p2), .val (.int p3), .val (.int p4), .val (.int p5), .val (.int (mxI (1 : Int32) (p1 &&& (2147483647 : Int32)))), .unset, .unset, .unset, .unset, .unset, .unset] [])) t → Steps p.tables e below (s₁.setTop (entryFrame m #[(.int p1), (.int p2), (.int p3), (.int p4), (.int p5)] maxLocals)) t := fun t kt => P0 t (by
    show Steps p.tables e below (s₁.setTop (mkF m 0 #[.val (.int p1), .val (.int p2), .val (.int p3), .val (.int p4), .val (.int p5), .unset, .unset, .unset, .unset, .unset, .unset, .unset] [])) _
    refine XS.iconst X0.here hx rfl (hb hby at_0) ?_
    show Steps p.tables e below (s₁.setTop (mkF m 1 #[.val (.int p1), .val (.int p2), .val (.int p3), .val (.int p4), .val (.int p5), .unset, .unset, .unset, .unset, .unset, .unset, .unset] [(.int (1 : Int32))])) _
    refine XS.iloadN X0.here hx rfl (hb hby at_1) rfl ?_
    show Steps p.tables e below (s₁.setTop (mkF m 2 #[.val (.int p1), .val (.int p2), .val (.int p3), .val (.int p4), .val (.int p5), .unset, .unset, .unset, .unset, .unset, .unset, .unset] [(.int p1), (.int (1 : Int32))])) _
    refine X0.ldcInt hx hown (mvT hZ (hw _ (List.mem_of_getElem? (i := 0) rfl))) (g := (mkF m 2 #[.val (.int p1), .val (.int p2), .val (.int p3), .val (.int p4), .val (.int p5), .unset, .unset, .unset, .unset, .unset, .unset, .unset] [(.int p1), (.int (1 : Int32))])) rfl (hb hby at_2) _ ?_
    show Steps p.tables e below (s₁.setTop (mkF m 4 #[.val (.int p1), .val (.int p2), .val (.int p3), .val (.int p4), .val (.int p5), .unset, .unset, .unset, .unset, .unset, .unset, .unset] [(.int (2147483647 : Int32)), (.int p1), (.int (1 : Int32))])) _
    refine XS.iand X0.here hx rfl (hb hby at_4) rfl ?_
    show Steps p.tables e below (s₁.setTop (mkF m 5 #[.val (.int p1), .val (.int p2), .val (.int p3), .val (.int p4), .val (.int p5), .unset, .unset, .unset, .unset, .unset, .unset, .unset] [(.int (p1 &&& (2147483647 : Int32))), (.int (1 : Int32))])) _
    refine st101 _ ?_
    show Steps p.tables e below (T101.setTop (mkF m 8 #[.val (.int p1), .val (.int p2), .val (.int p3), .val (.int p4), .val (.int p5), .unset, .unset, .unset, .unset, .unset, .unset, .unset] [(.int (mxI (1 : Int32) (p1 &&& (2147483647 : Int32))))])) _
    refine XS.istore X101.here hx rfl (hb hby at_8) rfl (l' := #[.val (.int p1), .val (.int p2), .val (.int p3), .val (.int p4), .val (.int p5), .val (.int (mxI (1 : Int32) (p1 &&& (2147483647 : Int32)))), .unset, .unset, .unset, .unset, .unset, .unset]) rfl ?_
    exact kt)
  obtain ⟨pp, hpp⟩ : ∃ z : Int32, z = (mxI (1 : Int32) (p1 &&& (2147483647 : Int32))) := ⟨_, rfl⟩
  rw [← hpp] at P102
  have hq1 := own_pp p1 pp hpp
  have hp1 : ¬ pp < (1 : Int32) := own_nlt _ 1 rfl hq1
  have P103 : ∀ t, Steps p.tables e below (T101.setTop (mkF m 19 #[.val (.int p1), .val (.int p2), .val (.int p3), .val (.int p4), .val (.int p5), .val (.int pp), .val (.int ((p2 &&& (2147483647 : Int32)) - ((p2 &&& (2147483647 : Int32)) / pp) * pp)), .unset, .unset, .unset, .unset, .unset] [])) t → Steps p.tables e below (s₁.setTop (entryFrame m #[(.int p1), (.int p2), (.int p3), (.int p4), (.int p5)] maxLocals)) t := fun t kt => P102 t (by
    show Steps p.tables e below (T101.setTop (mkF m 10 #[.val (.int p1), .val (.int p2), .val (.int p3), .val (.int p4), .val (.int p5), .val (.int pp), .unset, .unset, .unset, .unset, .unset, .unset] [])) _
    refine XS.iloadN X101.here hx rfl (hb hby at_10) rfl ?_
    show Steps p.tables e below (T101.setTop (mkF m 11 #[.val (.int p1), .val (.int p2), .val (.int p3), .val (.int p4), .val (.int p5), .val (.int pp), .unset, .unset, .unset, .unset, .unset, .unset] [(.int p2)])) _
    refine X101.ldcInt hx hown (mvT hZ (hw _ (List.mem_of_getElem? (i := 0) rfl))) (g := (mkF m 11 #[.val (.int p1), .val (.int p2), .val (.int p3), .val (.int p4), .val (.int p5), .val (.int pp), .unset, .unset, .unset, .unset, .unset, .unset] [(.int p2)])) rfl (hb hby at_11) _ ?_
    show Steps p.tables e below (T101.setTop (mkF m 13 #[.val (.int p1), .val (.int p2), .val (.int p3), .val (.int p4), .val (.int p5), .val (.int pp), .unset, .unset, .unset, .unset, .unset, .unset] [(.int (2147483647 : Int32)), (.int p2)])) _
    refine XS.iand X101.here hx rfl (hb hby at_13) rfl ?_
    show Steps p.tables e below (T101.setTop (mkF m 14 #[.val (.int p1), .val (.int p2), .val (.int p3), .val (.int p4), .val (.int p5), .val (.int pp), .unset, .unset, .unset, .unset, .unset, .unset] [(.int (p2 &&& (2147483647 : Int32)))])) _
    refine XS.iload X101.here hx rfl (hb hby at_14) rfl ?_
    show Steps p.tables e below (T101.setTop (mkF m 16 #[.val (.int p1), .val (.int p2), .val (.int p3), .val (.int p4), .val (.int p5), .val (.int pp), .unset, .unset, .unset, .unset, .unset, .unset] [(.int pp), (.int (p2 &&& (2147483647 : Int32)))])) _
    refine XS.irem X101.here hx rfl (hb hby at_16) rfl (own_nz _ hq1) ?_
    show Steps p.tables e below (T101.setTop (mkF m 17 #[.val (.int p1), .val (.int p2), .val (.int p3), .val (.int p4), .val (.int p5), .val (.int pp), .unset, .unset, .unset, .unset, .unset, .unset] [(.int ((p2 &&& (2147483647 : Int32)) - ((p2 &&& (2147483647 : Int32)) / pp) * pp))])) _
    refine XS.istore X101.here hx rfl (hb hby at_17) rfl (l' := #[.val (.int p1), .val (.int p2), .val (.int p3), .val (.int p4), .val (.int p5), .val (.int pp), .val (.int ((p2 &&& (2147483647 : Int32)) - ((p2 &&& (2147483647 : Int32)) / pp) * pp)), .unset, .unset, .unset, .unset, .unset]) rfl ?_
    exact kt)
  obtain ⟨q0, hq0⟩ : ∃ z : Int32, z = ((p2 &&& (2147483647 : Int32)) - ((p2 &&& (2147483647 : Int32)) / pp) * pp) := ⟨_, rfl⟩
  rw [← hq0] at P103
  have hq2 := own_rem p2 pp q0 hq1 hq0
  have P104 : ∀ t, Steps p.tables e below (T101.setTop (mkF m 28 #[.val (.int p1), .val (.int p2), .val (.int p3), .val (.int p4), .val (.int p5), .val (.int pp), .val (.int q0), .val (.int (p5 &&& (3 : Int32))), .unset, .unset, .unset, .unset] [(.int (1 : Int32)), (.int (p5 &&& (3 : Int32)))])) t → Steps p.tables e below (s₁.setTop (entryFrame m #[(.int p1), (.int p2), (.int p3), (.int p4), (.int p5)] maxLocals)) t := fun t kt => P103 t (by
    show Steps p.tables e below (T101.setTop (mkF m 19 #[.val (.int p1), .val (.int p2), .val (.int p3), .val (.int p4), .val (.int p5), .val (.int pp), .val (.int q0), .unset, .unset, .unset, .unset, .unset] [])) _
    refine XS.iload X101.here hx rfl (hb hby at_19) rfl ?_
    show Steps p.tables e below (T101.setTop (mkF m 21 #[.val (.int p1), .val (.int p2), .val (.int p3), .val (.int p4), .val (.int p5), .val (.int pp), .val (.int q0), .unset, .unset, .unset, .unset, .unset] [(.int p5)])) _
    refine XS.iconst X101.here hx rfl (hb hby at_21) ?_
    show Steps p.tables e below (T101.setTop (mkF m 22 #[.val (.int p1), .val (.int p2), .val (.int p3), .val (.int p4), .val (.int p5), .val (.int pp), .val (.int q0), .unset, .unset, .unset, .unset, .unset] [(.int (3 : Int32)), (.int p5)])) _
    refine XS.iand X101.here hx rfl (hb hby at_22) rfl ?_
    show Steps p.tables e below (T101.setTop (mkF m 23 #[.val (.int p1), .val (.int p2), .val (.int p3), .val (.int p4), .val (.int p5), .val (.int pp), .val (.int q0), .unset, .unset, .unset, .unset, .unset] [(.int (p5 &&& (3 : Int32)))])) _
    refine XS.istore X101.here hx rfl (hb hby at_23) rfl (l' := #[.val (.int p1), .val (.int p2), .val (.int p3), .val (.int p4), .val (.int p5), .val (.int pp), .val (.int q0), .val (.int (p5 &&& (3 : Int32))), .unset, .unset, .unset, .unset]) rfl ?_
    show Steps p.tables e below (T101.setTop (mkF m 25 #[.val (.int p1), .val (.int p2), .val (.int p3), .val (.int p4), .val (.int p5), .val (.int pp), .val (.int q0), .val (.int (p5 &&& (3 : Int32))), .unset, .unset, .unset, .unset] [])) _
    refine XS.iload X101.here hx rfl (hb hby at_25) rfl ?_
    show Steps p.tables e below (T101.setTop (mkF m 27 #[.val (.int p1), .val (.int p2), .val (.int p3), .val (.int p4), .val (.int p5), .val (.int pp), .val (.int q0), .val (.int (p5 &&& (3 : Int32))), .unset, .unset, .unset, .unset] [(.int (p5 &&& (3 : Int32)))])) _
    refine XS.iconst X101.here hx rfl (hb hby at_27) ?_
    exact kt)
  obtain ⟨pt, hpt⟩ : ∃ z : Int32, z = (if (p5 &&& (3 : Int32)) = (1 : Int32) then (0 : Int32) else (if (p5 &&& (3 : Int32)) = (2 : Int32) then (pp - (1 : Int32)) else q0)) := ⟨_, rfl⟩
  have J105 : ∀ t, Steps p.tables e below (T101.setTop (mkF m 49 #[.val (.int p1), .val (.int p2), .val (.int p3), .val (.int p4), .val (.int p5), .val (.int pp), .val (.int pt), .val (.int (p5 &&& (3 : Int32))), .unset, .unset, .unset, .unset] [])) t → Steps p.tables e below (T101.setTop (mkF m 28 #[.val (.int p1), .val (.int p2), .val (.int p3), .val (.int p4), .val (.int p5), .val (.int pp), .val (.int q0), .val (.int (p5 &&& (3 : Int32))), .unset, .unset, .unset, .unset] [(.int (1 : Int32)), (.int (p5 &&& (3 : Int32)))])) t := by
    intro t kt
    by_cases hr105_28_0 : (p5 &&& (3 : Int32)) = (1 : Int32)
    · have evpt : pt = (0 : Int32) := by rw [hpt, if_pos hr105_28_0]
      rw [evpt] at kt
      show Steps p.tables e below (T101.setTop (mkF m 28 #[.val (.int p1), .val (.int p2), .val (.int p3), .val (.int p4), .val (.int p5), .val (.int pp), .val (.int q0), .val (.int (p5 &&& (3 : Int32))), .unset, .unset, .unset, .unset] [(.int (1 : Int32)), (.int (p5 &&& (3 : Int32)))])) _
      refine XS.icmpNo X101.here hx rfl (hb hby at_28) rfl (teq hr105_28_0).2 ?_
      show Steps p.tables e below (T101.setTop (mkF m 31 #[.val (.int p1), .val (.int p2), .val (.int p3), .val (.int p4), .val (.int p5), .val (.int pp), .val (.int q0), .val (.int (p5 &&& (3 : Int32))), .unset, .unset, .unset, .unset] [])) _
      refine XS.iconst X101.here hx rfl (hb hby at_31) ?_
      show Steps p.tables e below (T101.setTop (mkF m 32 #[.val (.int p1), .val (.int p2), .val (.int p3), .val (.int p4), .val (.int p5), .val (.int pp), .val (.int q0), .val (.int (p5 &&& (3 : Int32))), .unset, .unset, .unset, .unset] [(.int (0 : Int32))])) _
      refine XS.istore X101.here hx rfl (hb hby at_32) rfl (l' := #[.val (.int p1), .val (.int p2), .val (.int p3), .val (.int p4), .val (.int p5), .val (.int pp), .val (.int (0 : Int32)), .val (.int (p5 &&& (3 : Int32))), .unset, .unset, .unset, .unset]) rfl ?_
      show Steps p.tables e below (T101.setTop (mkF m 34 #[.val (.int p1), .val (.int p2), .val (.int p3), .val (.int p4), .val (.int p5), .val (.int pp), .val (.int (0 : Int32)), .val (.int (p5 &&& (3 : Int32))), .unset, .unset, .unset, .unset] [])) _
      refine XS.goto X101.here hx rfl (pc0 := 34) (pc' := 49) rfl (hb hby at_34) (by decide) (by decide) ?_
      exact kt
    · show Steps p.tables e below (T101.setTop (mkF m 28 #[.val (.int p1), .val (.int p2), .val (.int p3), .val (.int p4), .val (.int p5), .val (.int pp), .val (.int q0), .val (.int (p5 &&& (3 : Int32))), .unset, .unset, .unset, .unset] [(.int (1 : Int32)), (.int (p5 &&& (3 : Int32)))])) _
      refine XS.icmpYes X101.here hx rfl (pc0 := 28) (pc' := 37) rfl (hb hby at_28) rfl (feq hr105_28_0).2 (by decide) (by decide) ?_
      show Steps p.tables e below (T101.setTop (mkF m 37 #[.val (.int p1), .val (.int p2), .val (.int p3), .val (.int p4), .val (.int p5), .val (.int pp), .val (.int q0), .val (.int (p5 &&& (3 : Int32))), .unset, .unset, .unset, .unset] [])) _
      refine XS.iload X101.here hx rfl (hb hby at_37) rfl ?_
      show Steps p.tables e below (T101.setTop (mkF m 39 #[.val (.int p1), .val (.int p2), .val (.int p3), .val (.int p4), .val (.int p5), .val (.int pp), .val (.int q0), .val (.int (p5 &&& (3 : Int32))), .unset, .unset, .unset, .unset] [(.int (p5 &&& (3 : Int32)))])) _
      refine XS.iconst X101.here hx rfl (hb hby at_39) ?_
      by_cases hr105_40_1 : (p5 &&& (3 : Int32)) = (2 : Int32)
      · have evpt : pt = (pp - (1 : Int32)) := by rw [hpt, if_neg hr105_28_0, if_pos hr105_40_1]
        rw [evpt] at kt
        show Steps p.tables e below (T101.setTop (mkF m 40 #[.val (.int p1), .val (.int p2), .val (.int p3), .val (.int p4), .val (.int p5), .val (.int pp), .val (.int q0), .val (.int (p5 &&& (3 : Int32))), .unset, .unset, .unset, .unset] [(.int (2 : Int32)), (.int (p5 &&& (3 : Int32)))])) _
        refine XS.icmpNo X101.here hx rfl (hb hby at_40) rfl (teq hr105_40_1).2 ?_
        show Steps p.tables e below (T101.setTop (mkF m 43 #[.val (.int p1), .val (.int p2), .val (.int p3), .val (.int p4), .val (.int p5), .val (.int pp), .val (.int q0), .val (.int (p5 &&& (3 : Int32))), .unset, .unset, .unset, .unset] [])) _
        refine XS.iload X101.here hx rfl (hb hby at_43) rfl ?_
        show Steps p.tables e below (T101.setTop (mkF m 45 #[.val (.int p1), .val (.int p2), .val (.int p3), .val (.int p4), .val (.int p5), .val (.int pp), .val (.int q0), .val (.int (p5 &&& (3 : Int32))), .unset, .unset, .unset, .unset] [(.int pp)])) _
        refine XS.iconst X101.here hx rfl (hb hby at_45) ?_
        show Steps p.tables e below (T101.setTop (mkF m 46 #[.val (.int p1), .val (.int p2), .val (.int p3), .val (.int p4), .val (.int p5), .val (.int pp), .val (.int q0), .val (.int (p5 &&& (3 : Int32))), .unset, .unset, .unset, .unset] [(.int (1 : Int32)), (.int pp)])) _
        refine XS.isub X101.here hx rfl (hb hby at_46) rfl ?_
        show Steps p.tables e below (T101.setTop (mkF m 47 #[.val (.int p1), .val (.int p2), .val (.int p3), .val (.int p4), .val (.int p5), .val (.int pp), .val (.int q0), .val (.int (p5 &&& (3 : Int32))), .unset, .unset, .unset, .unset] [(.int (pp - (1 : Int32)))])) _
        refine XS.istore X101.here hx rfl (hb hby at_47) rfl (l' := #[.val (.int p1), .val (.int p2), .val (.int p3), .val (.int p4), .val (.int p5), .val (.int pp), .val (.int (pp - (1 : Int32))), .val (.int (p5 &&& (3 : Int32))), .unset, .unset, .unset, .unset]) rfl ?_
        exact kt
      · have evpt : pt = q0 := by rw [hpt, if_neg hr105_28_0, if_neg hr105_40_1]
        rw [evpt] at kt
        show Steps p.tables e below (T101.setTop (mkF m 40 #[.val (.int p1), .val (.int p2), .val (.int p3), .val (.int p4), .val (.int p5), .val (.int pp), .val (.int q0), .val (.int (p5 &&& (3 : Int32))), .unset, .unset, .unset, .unset] [(.int (2 : Int32)), (.int (p5 &&& (3 : Int32)))])) _
        refine XS.icmpYes X101.here hx rfl (pc0 := 40) (pc' := 49) rfl (hb hby at_40) rfl (feq hr105_40_1).2 (by decide) (by decide) ?_
        exact kt
  have P106 : ∀ t, Steps p.tables e below (T101.setTop (mkF m 49 #[.val (.int p1), .val (.int p2), .val (.int p3), .val (.int p4), .val (.int p5), .val (.int pp), .val (.int pt), .val (.int (p5 &&& (3 : Int32))), .unset, .unset, .unset, .unset] [])) t → Steps p.tables e below (s₁.setTop (entryFrame m #[(.int p1), (.int p2), (.int p3), (.int p4), (.int p5)] maxLocals)) t := fun t kt => P104 t (J105 t kt)
  have hq3 := own_pt _ pp q0 pt hq1 hq2 hpt
  obtain ⟨T107, h107, k107, X107, e107, E107, A107, B107, st107⟩ := newPE X101 hx hZ (hw _ (List.mem_of_getElem? (i := 5) rfl)) e101 (g := (mkF m 50 #[.val (.int p1), .val (.int p2), .val (.int p3), .val (.int p4), .val (.int p5), .val (.int pp), .val (.int pt), .val (.int (p5 &&& (3 : Int32))), .unset, .unset, .unset, .unset] [(.int (1 : Int32))])) rfl (hb hby at_50) rfl (by decide) (cap := 1) (by decide) (by decide) (by decide) (by decide) (ad := "[C") (by decide)
  obtain ⟨b107, g107⟩ : ∃ z, z = h0.size := ⟨_, rfl⟩
  rw [← g107] at A107 B107 st107
  have gb107 : n0 ≤ b107 := Nat.le_trans Z0 (Nat.le_of_eq g107.symm)
  have sz107 : n0 ≤ h107.size := Nat.le_trans Z0 E107.1
  have hk107 := Nat.le_trans hk0 E107.1
  have f108 := SC.ext E107
  have V107 : Arv Z h107 b107 k107 .char (1 : Int32) [(.int (0 : Int32))] (.int (0 : Int32)) := (Arv.new A107 (by decide)).pad (pad_rep [] (.int (0 : Int32)) 1)
  obtain ⟨cl109, Ar109, q109, S109, Nn109, H109, G109⟩ := id V107
  have hin109 : ¬ ((0 : Int32) < 0 ∨ cl109.slots.size ≤ ((0 : Int32)).toNatClampNeg) := inb_of S109 ⟨by decide, by decide⟩
  obtain ⟨T110, h110, X110, e110, W110, st110⟩ := stC X107 hx hZ e107 Ar109 (j := (0 : Int32)) hin109 (g := (mkF m 60 #[.val (.int p1), .val (.int p2), .val (.int p3), .val (.int p4), .val (.int p5), .val (.int pp), .val (.int pt), .val (.int (p5 &&& (3 : Int32))), .unset, .unset, .unset, .unset] [(.int ((p4 &&& (255 : Int32)).toUInt32.toUInt16.toUInt32.toInt32)), (.int (0 : Int32)), (.ref b107), (.ref b107)])) rfl rfl (hb hby at_60)
  have f111 := f108.wr W110
  have f112 := B107.wr W110
  have V110 : Arv Z h110 b107 k107 .char (1 : Int32) [(.int (nar .char ((p4 &&& (255 : Int32)).toUInt32.toUInt16.toUInt32.toInt32)))] (.int (0 : Int32)) := Arv.set Ar109 q109 S109 Nn109 H109 G109 (fits_nar_char _) W110 0 rfl (Nat.le_of_ble_eq_true rfl)
  have N110 := Fr.snoc X110 N101 gb107
  have sz110 : n0 ≤ h110.size := Nat.le_trans sz107 (Keep.of_wr W110).1
  have hk110 := Nat.le_trans hk107 (Keep.of_wr W110).1
  obtain ⟨T113, h113, X113, e113, E113, A113, D113, -, st113⟩ := newO X110 hx hZ hown (hw _ (List.mem_of_getElem? (i := 6) rfl)) (hw _ (List.mem_of_getElem? (i := 7) rfl)) (hw _ (List.mem_of_getElem? (i := 8) rfl)) e110 (g := (mkF m 63 #[.val (.int p1), .val (.int p2), .val (.int p3), .val (.int p4), .val (.int p5), .val (.int pp), .val (.int pt), .val (.int (p5 &&& (3 : Int32))), .val (.ref b107), .unset, .unset, .unset] [])) rfl (hb hby at_63) (by decide) (by decide)
  obtain ⟨b113, g113⟩ : ∃ z, z = h110.size := ⟨_, rfl⟩
  rw [← g113] at A113 D113 st113
  have ne113_b107 : b107 ≠ b113 := Nat.ne_of_lt (Nat.lt_of_lt_of_le f112.lt (Nat.le_of_eq g113.symm))
  have gb113 : n0 ≤ b113 := Nat.le_trans sz110 (Nat.le_of_eq g113.symm)
  have sz113 : n0 ≤ h113.size := Nat.le_trans sz110 E113.1
  have hk113 := Nat.le_trans hk110 E113.1
  have f114 := f111.ext E113
  have f115 := f112.ext E113
  have f116 := V110.ext E113
  have F113_coder : Fld Z h113 b113 "java/lang/String" "coder" "B" (.int (0 : Int32)) := D113 (Or.inr (hw _ (List.mem_of_getElem? (i := 32) rfl))) (ty := .byte) (by decide)
  have F113_value : Fld Z h113 b113 "java/lang/String" "value" "[B" .null := D113 (Or.inr (hw _ (List.mem_of_getElem? (i := 34) rfl))) (ty := (.array .byte)) (by decide)
  have hws117 : ∀ d ∈ StrChars.Road.words, d.before a0 Z = true := fun d hd => hw d ((by decide +kernel : ∀ d ∈ StrChars.Road.words, d ∈ tables_1) d hd)
  obtain ⟨_, _, ⟨T117, L117, k117, n117⟩, -, X117, ⟨Lc117, hQ117, l117, y117, z117⟩, st117⟩ := X113.specialBack hx (y := (⟨"java/lang/String", "<init>", "([C)V"⟩ : MethodName)) rfl hown (mvT hZ (hw _ (List.mem_of_getElem? (i := 9) rfl))) (mvT hZ (hw _ (List.mem_of_getElem? (i := 10) rfl))) (mvT hZ (hw _ (List.mem_of_getElem? (i := 11) rfl))) (by decide) (StrChars.Road.backV (W := 1) hZ hws117 (kI := 4) (hw _ (List.mem_of_getElem? (i := 7) rfl)) (cs := [(nar .char ((p4 &&& (255 : Int32)).toUInt32.toUInt16.toUInt32.toInt32))]) (bs := [((nar .char ((p4 &&& (255 : Int32)).toUInt32.toUInt16.toUInt32.toInt32))).toInt8.toInt32]) (n := 1) gb113 sz113 A113 F113_value F113_coder f116 f114 hzc rfl rfl (by decide) (by decide) (own_lat p4) rfl (by decide) (by decide)) (g := (mkF m 69 #[.val (.int p1), .val (.int p2), .val (.int p3), .val (.int p4), .val (.int p5), .val (.int pp), .val (.int pt), .val (.int (p5 &&& (3 : Int32))), .val (.ref b107), .unset, .unset, .unset] [(.ref b107), (.ref b113), (.ref b113)])) rfl (by rw [hml]; rfl) (Steps.refl _) (a := b113) (argsL := [(.ref b107)]) (rest := [(.ref b113)]) (lenOf pd___C_V rfl) rfl (by show 2 * 0 + _ ≤ _; exact Nat.le_of_eq rfl) (hb hby at_69) (fun _ _ => ⟨rfl, e113, (by decide : 2 + 1 ≤ _), (by decide : 5 + 1 ≤ _)⟩)
  dsimp only [Pt.U, Pt.locs, Pt.cells, Pt.slots] at X117 l117 y117 z117 st117 hQ117
  subst l117 y117 z117
  obtain ⟨rfl, Nq117, K117x, Ex117, Fc117, t117, kb117, -, -, -, Fv117, Av117⟩ := hQ117
  have N117 := Fr.app N110 Nq117
  have sz117 : n0 ≤ T117.heap.size := Nat.le_trans sz113 K117x.1
  have hk117 := Nat.le_trans hk113 K117x.1
  have P118 : ∀ t, Steps p.tables e below (T117.setTop (mkF m 78 #[.val (.int p1), .val (.int p2), .val (.int p3), .val (.int p4), .val (.int p5), .val (.int pp), .val (.int pt), .val (.int (p5 &&& (3 : Int32))), .val (.ref b107), .val (.ref b113), .unset, .unset] [(.int (p5 &&& (4 : Int32)))])) t → Steps p.tables e below (s₁.setTop (entryFrame m #[(.int p1), (.int p2), (.int p3), (.int p4), (.int p5)] maxLocals)) t := fun t kt => P106 t (by
    show Steps p.tables e below (T101.setTop (mkF m 49 #[.val (.int p1), .val (.int p2), .val (.int p3), .val (.int p4), .val (.int p5), .val (.int pp), .val (.int pt), .val (.int (p5 &&& (3 : Int32))), .unset, .unset, .unset, .unset] [])) _
    refine XS.iconst X101.here hx rfl (hb hby at_49) ?_
    show Steps p.tables e below (T101.setTop (mkF m 50 #[.val (.int p1), .val (.int p2), .val (.int p3), .val (.int p4), .val (.int p5), .val (.int pp), .val (.int pt), .val (.int (p5 &&& (3 : Int32))), .unset, .unset, .unset, .unset] [(.int (1 : Int32))])) _
    refine st107 _ ?_
    show Steps p.tables e below (T107.setTop (mkF m 52 #[.val (.int p1), .val (.int p2), .val (.int p3), .val (.int p4), .val (.int p5), .val (.int pp), .val (.int pt), .val (.int (p5 &&& (3 : Int32))), .unset, .unset, .unset, .unset] [(.ref b107)])) _
    refine XS.dup X107.here hx rfl (hb hby at_52) rfl rfl ?_
    show Steps p.tables e below (T107.setTop (mkF m 53 #[.val (.int p1), .val (.int p2), .val (.int p3), .val (.int p4), .val (.int p5), .val (.int pp), .val (.int pt), .val (.int (p5 &&& (3 : Int32))), .unset, .unset, .unset, .unset] [(.ref b107), (.ref b107)])) _
    refine XS.iconst X107.here hx rfl (hb hby at_53) ?_
    show Steps p.tables e below (T107.setTop (mkF m 54 #[.val (.int p1), .val (.int p2), .val (.int p3), .val (.int p4), .val (.int p5), .val (.int pp), .val (.int pt), .val (.int (p5 &&& (3 : Int32))), .unset, .unset, .unset, .unset] [(.int (0 : Int32)), (.ref b107), (.ref b107)])) _
    refine XS.iloadN X107.here hx rfl (hb hby at_54) rfl ?_
    show Steps p.tables e below (T107.setTop (mkF m 55 #[.val (.int p1), .val (.int p2), .val (.int p3), .val (.int p4), .val (.int p5), .val (.int pp), .val (.int pt), .val (.int (p5 &&& (3 : Int32))), .unset, .unset, .unset, .unset] [(.int p4), (.int (0 : Int32)), (.ref b107), (.ref b107)])) _
    refine XS.sipush X107.here hx rfl (hb hby at_55) ?_
    show Steps p.tables e below (T107.setTop (mkF m 58 #[.val (.int p1), .val (.int p2), .val (.int p3), .val (.int p4), .val (.int p5), .val (.int pp), .val (.int pt), .val (.int (p5 &&& (3 : Int32))), .unset, .unset, .unset, .unset] [(.int (255 : Int32)), (.int p4), (.int (0 : Int32)), (.ref b107), (.ref b107)])) _
    refine XS.iand X107.here hx rfl (hb hby at_58) rfl ?_
    show Steps p.tables e below (T107.setTop (mkF m 59 #[.val (.int p1), .val (.int p2), .val (.int p3), .val (.int p4), .val (.int p5), .val (.int pp), .val (.int pt), .val (.int (p5 &&& (3 : Int32))), .unset, .unset, .unset, .unset] [(.int (p4 &&& (255 : Int32))), (.int (0 : Int32)), (.ref b107), (.ref b107)])) _
    refine XS.i2c X107.here hx rfl (hb hby at_59) rfl ?_
    show Steps p.tables e below (T107.setTop (mkF m 60 #[.val (.int p1), .val (.int p2), .val (.int p3), .val (.int p4), .val (.int p5), .val (.int pp), .val (.int pt), .val (.int (p5 &&& (3 : Int32))), .unset, .unset, .unset, .unset] [(.int ((p4 &&& (255 : Int32)).toUInt32.toUInt16.toUInt32.toInt32)), (.int (0 : Int32)), (.ref b107), (.ref b107)])) _
    refine st110 _ ?_
    show Steps p.tables e below (T110.setTop (mkF m 61 #[.val (.int p1), .val (.int p2), .val (.int p3), .val (.int p4), .val (.int p5), .val (.int pp), .val (.int pt), .val (.int (p5 &&& (3 : Int32))), .unset, .unset, .unset, .unset] [(.ref b107)])) _
    refine XS.astore X110.here hx rfl (hb hby at_61) rfl rfl (l' := #[.val (.int p1), .val (.int p2), .val (.int p3), .val (.int p4), .val (.int p5), .val (.int pp), .val (.int pt), .val (.int (p5 &&& (3 : Int32))), .val (.ref b107), .unset, .unset, .unset]) rfl ?_
    show Steps p.tables e below (T110.setTop (mkF m 63 #[.val (.int p1), .val (.int p2), .val (.int p3), .val (.int p4), .val (.int p5), .val (.int pp), .val (.int pt), .val (.int (p5 &&& (3 : Int32))), .val (.ref b107), .unset, .unset, .unset] [])) _
    refine st113 _ ?_
    show Steps p.tables e below (T113.setTop (mkF m 66 #[.val (.int p1), .val (.int p2), .val (.int p3), .val (.int p4), .val (.int p5), .val (.int pp), .val (.int pt), .val (.int (p5 &&& (3 : Int32))), .val (.ref b107), .unset, .unset, .unset] [(.ref b113)])) _
    refine XS.dup X113.here hx rfl (hb hby at_66) rfl rfl ?_
    show Steps p.tables e below (T113.setTop (mkF m 67 #[.val (.int p1), .val (.int p2), .val (.int p3), .val (.int p4), .val (.int p5), .val (.int pp), .val (.int pt), .val (.int (p5 &&& (3 : Int32))), .val (.ref b107), .unset, .unset, .unset] [(.ref b113), (.ref b113)])) _
    refine XS.aload X113.here hx rfl (hb hby at_67) rfl rfl ?_
    show Steps p.tables e below (T113.setTop (mkF m 69 #[.val (.int p1), .val (.int p2), .val (.int p3), .val (.int p4), .val (.int p5), .val (.int pp), .val (.int pt), .val (.int (p5 &&& (3 : Int32))), .val (.ref b107), .unset, .unset, .unset] [(.ref b107), (.ref b113), (.ref b113)])) _
    refine st117.trans ?_
    show Steps p.tables e below (T117.setTop (mkF m 72 #[.val (.int p1), .val (.int p2), .val (.int p3), .val (.int p4), .val (.int p5), .val (.int pp), .val (.int pt), .val (.int (p5 &&& (3 : Int32))), .val (.ref b107), .unset, .unset, .unset] [(.ref b113)])) _
    refine XS.astore X117.here hx rfl (hb hby at_72) rfl rfl (l' := #[.val (.int p1), .val (.int p2), .val (.int p3), .val (.int p4), .val (.int p5), .val (.int pp), .val (.int pt), .val (.int (p5 &&& (3 : Int32))), .val (.ref b107), .val (.ref b113), .unset, .unset]) rfl ?_
    show Steps p.tables e below (T117.setTop (mkF m 74 #[.val (.int p1), .val (.int p2), .val (.int p3), .val (.int p4), .val (.int p5), .val (.int pp), .val (.int pt), .val (.int (p5 &&& (3 : Int32))), .val (.ref b107), .val (.ref b113), .unset, .unset] [])) _
    refine XS.iload X117.here hx rfl (hb hby at_74) rfl ?_
    show Steps p.tables e below (T117.setTop (mkF m 76 #[.val (.int p1), .val (.int p2), .val (.int p3), .val (.int p4), .val (.int p5), .val (.int pp), .val (.int pt), .val (.int (p5 &&& (3 : Int32))), .val (.ref b107), .val (.ref b113), .unset, .unset] [(.int p5)])) _
    refine XS.iconst X117.here hx rfl (hb hby at_76) ?_
    show Steps p.tables e below (T117.setTop (mkF m 77 #[.val (.int p1), .val (.int p2), .val (.int p3), .val (.int p4), .val (.int p5), .val (.int pp), .val (.int pt), .val (.int (p5 &&& (3 : Int32))), .val (.ref b107), .val (.ref b113), .unset, .unset] [(.int (4 : Int32)), (.int p5)])) _
    refine XS.iand X117.here hx rfl (hb hby at_77) rfl ?_
    exact kt)
  by_cases hc78_119 : (p5 &&& (4 : Int32)) = (0 : Int32)
  · have P120 : ∀ t, Steps p.tables e below (T117.setTop (mkF m 99 #[.val (.int p1), .val (.int p2), .val (.int p3), .val (.int p4), .val (.int p5), .val (.int pp), .val (.int pt), .val (.int (p5 &&& (3 : Int32))), .val (.ref b107), .val (.ref b113), .unset, .unset] [(.int (p5 &&& (8 : Int32)))])) t → Steps p.tables e below (s₁.setTop (entryFrame m #[(.int p1), (.int p2), (.int p3), (.int p4), (.int p5)] maxLocals)) t := fun t kt => P118 t (by
      show Steps p.tables e below (T117.setTop (mkF m 78 #[.val (.int p1), .val (.int p2), .val (.int p3), .val (.int p4), .val (.int p5), .val (.int pp), .val (.int pt), .val (.int (p5 &&& (3 : Int32))), .val (.ref b107), .val (.ref b113), .unset, .unset] [(.int (p5 &&& (4 : Int32)))])) _
      refine XS.ifYes X117.here hx rfl (pc0 := 78) (pc' := 94) rfl (hb hby at_78) rfl ((if0 _ _).trans (teq hc78_119).1) (by decide) (by decide) ?_
      show Steps p.tables e below (T117.setTop (mkF m 94 #[.val (.int p1), .val (.int p2), .val (.int p3), .val (.int p4), .val (.int p5), .val (.int pp), .val (.int pt), .val (.int (p5 &&& (3 : Int32))), .val (.ref b107), .val (.ref b113), .unset, .unset] [])) _
      refine XS.iload X117.here hx rfl (hb hby at_94) rfl ?_
      show Steps p.tables e below (T117.setTop (mkF m 96 #[.val (.int p1), .val (.int p2), .val (.int p3), .val (.int p4), .val (.int p5), .val (.int pp), .val (.int pt), .val (.int (p5 &&& (3 : Int32))), .val (.ref b107), .val (.ref b113), .unset, .unset] [(.int p5)])) _
      refine XS.bipush X117.here hx rfl (hb hby at_96) ?_
      show Steps p.tables e below (T117.setTop (mkF m 98 #[.val (.int p1), .val (.int p2), .val (.int p3), .val (.int p4), .val (.int p5), .val (.int pp), .val (.int pt), .val (.int (p5 &&& (3 : Int32))), .val (.ref b107), .val (.ref b113), .unset, .unset] [(.int (8 : Int32)), (.int p5)])) _
      refine XS.iand X117.here hx rfl (hb hby at_98) rfl ?_
      exact kt)
    by_cases hc99_121 : (p5 &&& (8 : Int32)) = (0 : Int32)
    · obtain ⟨T122, h122, k122, X122, e122, E122, A122, B122, st122⟩ := newPE X117 hx hZ (hw _ (List.mem_of_getElem? (i := 35) rfl)) rfl (g := (mkF m 121 #[.val (.int p1), .val (.int p2), .val (.int p3), .val (.int p4), .val (.int p5), .val (.int pp), .val (.int pt), .val (.int (p5 &&& (3 : Int32))), .val (.ref b107), .val (.ref b113), .unset, .unset] [(.int (0 : Int32))])) rfl (hb hby at_121) rfl (by decide) (cap := 0) (by decide) (by decide) (by decide) (by decide) (ad := "[I") (by decide)
      obtain ⟨b122, g122⟩ : ∃ z, z = T117.heap.size := ⟨_, rfl⟩
      rw [← g122] at A122 B122 st122
      have ne122_b113 : b113 ≠ b122 := Nat.ne_of_lt (Nat.lt_of_lt_of_le Ex117.lt (Nat.le_of_eq g122.symm))
      have gb122 : n0 ≤ b122 := Nat.le_trans sz117 (Nat.le_of_eq g122.symm)
      have sz122 : n0 ≤ h122.size := Nat.le_trans sz117 E122.1
      have hk122 := Nat.le_trans hk117 E122.1
      have f123 := Ex117.ext E122
      have V122 : Arv Z h122 b122 k122 .int (0 : Int32) [] (.int (0 : Int32)) := (Arv.new A122 (by decide)).pad (pad_rep [] (.int (0 : Int32)) 0)
      obtain ⟨T124, h124, X124, e124, E124, A124, D124, -, st124⟩ := newO X122 hx hZ hown (hw _ (List.mem_of_getElem? (i := 36) rfl)) (hw _ (List.mem_of_getElem? (i := 37) rfl)) (hw _ (List.mem_of_getElem? (i := 38) rfl)) e122 (g := (mkF m 125 #[.val (.int p1), .val (.int p2), .val (.int p3), .val (.int p4), .val (.int p5), .val (.int pp), .val (.int pt), .val (.int (p5 &&& (3 : Int32))), .val (.ref b107), .val (.ref b113), .val (.ref b122), .unset] [])) rfl (hb hby at_125) (by decide) (by decide)
      obtain ⟨b124, g124⟩ : ∃ z, z = h122.size := ⟨_, rfl⟩
      rw [← g124] at A124 D124 st124
      have ne124_b113 : b113 ≠ b124 := Nat.ne_of_lt (Nat.lt_of_lt_of_le f123.lt (Nat.le_of_eq g124.symm))
      have ne124_b122 : b122 ≠ b124 := Nat.ne_of_lt (Nat.lt_of_lt_of_le B122.lt (Nat.le_of_eq g124.symm))
      have gb124 : n0 ≤ b124 := Nat.le_trans sz122 (Nat.le_of_eq g124.symm)
      have sz124 : n0 ≤ h124.size := Nat.le_trans sz122 E124.1
      have hk124 := Nat.le_trans hk122 E124.1
      have f125 := f123.ext E124
      have f126 := B122.ext E124
      have f127 := V122.ext E124
      have F124_name : Fld Z h124 b124 "com/example/allot/allot/partition/Topic" "name" "Ljava/lang/String;" .null := D124 (Or.inr (hw _ (List.mem_of_getElem? (i := 80) rfl))) (ty := (.object "java/lang/String")) (by decide)
      have F124_partitions : Fld Z h124 b124 "com/example/allot/allot/partition/Topic" "partitions" "I" (.int (0 : Int32)) := D124 (Or.inr (hw _ (List.mem_of_getElem? (i := 82) rfl))) (ty := .int) (by decide)
      have F124_unavailable : Fld Z h124 b124 "com/example/allot/allot/partition/Topic" "unavailable" "[I" .null := D124 (Or.inr (hw _ (List.mem_of_getElem? (i := 84) rfl))) (ty := (.array .int)) (by decide)
      have P128 : ∀ t, Steps p.tables e below (T124.setTop (mkF m 135 #[.val (.int p1), .val (.int p2), .val (.int p3), .val (.int p4), .val (.int p5), .val (.int pp), .val (.int pt), .val (.int (p5 &&& (3 : Int32))), .val (.ref b107), .val (.ref b113), .val (.ref b122), .unset] [(.ref b122), (.int pp), (.ref b113), (.ref b124), (.ref b124)])) t → Steps p.tables e below (s₁.setTop (entryFrame m #[(.int p1), (.int p2), (.int p3), (.int p4), (.int p5)] maxLocals)) t := fun t kt => P120 t (by
        show Steps p.tables e below (T117.setTop (mkF m 99 #[.val (.int p1), .val (.int p2), .val (.int p3), .val (.int p4), .val (.int p5), .val (.int pp), .val (.int pt), .val (.int (p5 &&& (3 : Int32))), .val (.ref b107), .val (.ref b113), .unset, .unset] [(.int (p5 &&& (8 : Int32)))])) _
        refine XS.ifYes X117.here hx rfl (pc0 := 99) (pc' := 120) rfl (hb hby at_99) rfl ((if0 _ _).trans (teq hc99_121).1) (by decide) (by decide) ?_
        show Steps p.tables e below (T117.setTop (mkF m 120 #[.val (.int p1), .val (.int p2), .val (.int p3), .val (.int p4), .val (.int p5), .val (.int pp), .val (.int pt), .val (.int (p5 &&& (3 : Int32))), .val (.ref b107), .val (.ref b113), .unset, .unset] [])) _
        refine XS.iconst X117.here hx rfl (hb hby at_120) ?_
        show Steps p.tables e below (T117.setTop (mkF m 121 #[.val (.int p1), .val (.int p2), .val (.int p3), .val (.int p4), .val (.int p5), .val (.int pp), .val (.int pt), .val (.int (p5 &&& (3 : Int32))), .val (.ref b107), .val (.ref b113), .unset, .unset] [(.int (0 : Int32))])) _
        refine st122 _ ?_
        show Steps p.tables e below (T122.setTop (mkF m 123 #[.val (.int p1), .val (.int p2), .val (.int p3), .val (.int p4), .val (.int p5), .val (.int pp), .val (.int pt), .val (.int (p5 &&& (3 : Int32))), .val (.ref b107), .val (.ref b113), .unset, .unset] [(.ref b122)])) _
        refine XS.astore X122.here hx rfl (hb hby at_123) rfl rfl (l' := #[.val (.int p1), .val (.int p2), .val (.int p3), .val (.int p4), .val (.int p5), .val (.int pp), .val (.int pt), .val (.int (p5 &&& (3 : Int32))), .val (.ref b107), .val (.ref b113), .val (.ref b122), .unset]) rfl ?_
        show Steps p.tables e below (T122.setTop (mkF m 125 #[.val (.int p1), .val (.int p2), .val (.int p3), .val (.int p4), .val (.int p5), .val (.int pp), .val (.int pt), .val (.int (p5 &&& (3 : Int32))), .val (.ref b107), .val (.ref b113), .val (.ref b122), .unset] [])) _
        refine st124 _ ?_
        show Steps p.tables e below (T124.setTop (mkF m 128 #[.val (.int p1), .val (.int p2), .val (.int p3), .val (.int p4), .val (.int p5), .val (.int pp), .val (.int pt), .val (.int (p5 &&& (3 : Int32))), .val (.ref b107), .val (.ref b113), .val (.ref b122), .unset] [(.ref b124)])) _
        refine XS.dup X124.here hx rfl (hb hby at_128) rfl rfl ?_
        show Steps p.tables e below (T124.setTop (mkF m 129 #[.val (.int p1), .val (.int p2), .val (.int p3), .val (.int p4), .val (.int p5), .val (.int pp), .val (.int pt), .val (.int (p5 &&& (3 : Int32))), .val (.ref b107), .val (.ref b113), .val (.ref b122), .unset] [(.ref b124), (.ref b124)])) _
        refine XS.aload X124.here hx rfl (hb hby at_129) rfl rfl ?_
        show Steps p.tables e below (T124.setTop (mkF m 131 #[.val (.int p1), .val (.int p2), .val (.int p3), .val (.int p4), .val (.int p5), .val (.int pp), .val (.int pt), .val (.int (p5 &&& (3 : Int32))), .val (.ref b107), .val (.ref b113), .val (.ref b122), .unset] [(.ref b113), (.ref b124), (.ref b124)])) _
        refine XS.iload X124.here hx rfl (hb hby at_131) rfl ?_
        show Steps p.tables e below (T124.setTop (mkF m 133 #[.val (.int p1), .val (.int p2), .val (.int p3), .val (.int p4), .val (.int p5), .val (.int pp), .val (.int pt), .val (.int (p5 &&& (3 : Int32))), .val (.ref b107), .val (.ref b113), .val (.ref b122), .unset] [(.int pp), (.ref b113), (.ref b124), (.ref b124)])) _
        refine XS.aload X124.here hx rfl (hb hby at_133) rfl rfl ?_
        exact kt)
      obtain ⟨_, _, ⟨T129, L129, k129, n129⟩, -, X129, hSi129, hgr129, ⟨Lc129, hQ129, l129, y129, z129⟩, st129⟩ := X124.specialBackS hx (y := (⟨"com/example/allot/allot/partition/Topic", "<init>", "(Ljava/lang/String;I[I)V"⟩ : MethodName)) rfl hown (mvT hZ (hw _ (List.mem_of_getElem? (i := 39) rfl))) (mvT hZ (hw _ (List.mem_of_getElem? (i := 40) rfl))) (mvT hZ (hw _ (List.mem_of_getElem? (i := 41) rfl))) (by decide) (backOfS (W := 1)  (rmT0 l Z a0 hw [] b124 b113 pp b122 k122  h124 n0 sz124 A124 F124_name F124_partitions F124_unavailable gb124 f126 f127 (Ne.symm ne124_b122) hp1 ) hZ (hw _ (List.mem_of_getElem? (i := 41) rfl)) (hw _ (List.mem_of_getElem? (i := 38) rfl)) (by decide) (by decide)) (g := (mkF m 135 #[.val (.int p1), .val (.int p2), .val (.int p3), .val (.int p4), .val (.int p5), .val (.int pp), .val (.int pt), .val (.int (p5 &&& (3 : Int32))), .val (.ref b107), .val (.ref b113), .val (.ref b122), .unset] [(.ref b122), (.int pp), (.ref b113), (.ref b124), (.ref b124)])) rfl (by rw [hml]; rfl) (Steps.refl _) (a := b124) (argsL := [(.ref b113), (.int pp), (.ref b122)]) (rest := [(.ref b124)]) (lenOf pd__Ljava_lang_String_I_I_V rfl) rfl (by show 2 * 0 + _ ≤ _; exact Nat.le_of_eq rfl) (hb hby at_135) (fun _ _ => ⟨rfl, e124, (by decide : 5 + 5 ≤ _), (by decide : 9 + 68 ≤ _)⟩)
      dsimp only [Pt.U, Pt.locs, Pt.cells, Pt.slots] at X129 l129 y129 z129 st129 hQ129
      subst l129 y129 z129
      dsimp only [Pt.U, Pt.locs, Pt.cells, Pt.slots] at hSi129 hgr129
      obtain ⟨X129, hS129, hZ, hown⟩ := rebS hS0 (by rw [e124]; exact hk124) X129 hSi129 hgr129 hZ hown
      obtain ⟨rfl, Nq129, K129x, Ex129, Fnx129, Fpx129, -⟩ := hQ129
      have N129 := Fr.app N117 Nq129
      have sz129 : n0 ≤ T129.heap.size := Nat.le_trans sz124 K129x.1
      have P130 : ∀ t, Steps p.tables e below (T129.setTop (mkF m 144 #[.val (.int p1), .val (.int p2), .val (.int p3), .val (.int p4), .val (.int p5), .val (.int pp), .val (.int pt), .val (.int (p5 &&& (3 : Int32))), .val (.ref b107), .val (.ref b113), .val (.ref b122), .val (.ref b124)] [(.int pt), (.ref b124)])) t → Steps p.tables e below (s₁.setTop (entryFrame m #[(.int p1), (.int p2), (.int p3), (.int p4), (.int p5)] maxLocals)) t := fun t kt => P128 t (by
        show Steps p.tables e below (T124.setTop (mkF m 135 #[.val (.int p1), .val (.int p2), .val (.int p3), .val (.int p4), .val (.int p5), .val (.int pp), .val (.int pt), .val (.int (p5 &&& (3 : Int32))), .val (.ref b107), .val (.ref b113), .val (.ref b122), .unset] [(.ref b122), (.int pp), (.ref b113), (.ref b124), (.ref b124)])) _
        refine st129.trans ?_
        show Steps p.tables e below (T129.setTop (mkF m 138 #[.val (.int p1), .val (.int p2), .val (.int p3), .val (.int p4), .val (.int p5), .val (.int pp), .val (.int pt), .val (.int (p5 &&& (3 : Int32))), .val (.ref b107), .val (.ref b113), .val (.ref b122), .unset] [(.ref b124)])) _
        refine XS.astore X129.here hx rfl (hb hby at_138) rfl rfl (l' := #[.val (.int p1), .val (.int p2), .val (.int p3), .val (.int p4), .val (.int p5), .val (.int pp), .val (.int pt), .val (.int (p5 &&& (3 : Int32))), .val (.ref b107), .val (.ref b113), .val (.ref b122), .val (.ref b124)]) rfl ?_
        show Steps p.tables e below (T129.setTop (mkF m 140 #[.val (.int p1), .val (.int p2), .val (.int p3), .val (.int p4), .val (.int p5), .val (.int pp), .val (.int pt), .val (.int (p5 &&& (3 : Int32))), .val (.ref b107), .val (.ref b113), .val (.ref b122), .val (.ref b124)] [])) _
        refine XS.aload X129.here hx rfl (hb hby at_140) rfl rfl ?_
        show Steps p.tables e below (T129.setTop (mkF m 142 #[.val (.int p1), .val (.int p2), .val (.int p3), .val (.int p4), .val (.int p5), .val (.int pp), .val (.int pt), .val (.int (p5 &&& (3 : Int32))), .val (.ref b107), .val (.ref b113), .val (.ref b122), .val (.ref b124)] [(.ref b124)])) _
        refine XS.iload X129.here hx rfl (hb hby at_142) rfl ?_
        exact kt)
      obtain ⟨cq131, kq131, q131a, q131b, q131c⟩ := isOf hZ rfl Ex129
      obtain ⟨_, _, ⟨T131, L131, k131, n131⟩, -, X131, hSi131, hgr131, ⟨Lc131, hQ131, l131, y131, z131⟩, st131⟩ := X129.virtualBackS hx (y := (⟨"com/example/allot/allot/partition/Topic", "checked", "(I)I"⟩ : MethodName)) (z := (⟨"com/example/allot/allot/partition/Topic", "checked", "(I)I"⟩ : MethodName)) hown (mvT hZ (hw _ (List.mem_of_getElem? (i := 85) rfl))) (mvT hZ (hw _ (List.mem_of_getElem? (i := 86) rfl))) (notFace_of_selects (args := #[]) (mvT hZ (hw _ (List.mem_of_getElem? (i := 88) rfl)))) (mvT hZ (hw _ (List.mem_of_getElem? (i := 88) rfl))) (mvT hZ (hw _ (List.mem_of_getElem? (i := 87) rfl))) (by decide) (backOfS (W := 0)  (rmCK l Z a0 hw [] b124 pt b113 pp T129.heap n0 sz129 Fnx129 Fpx129 hq3.1 hq3.2) hZ (hw _ (List.mem_of_getElem? (i := 89) rfl)) (hw _ (List.mem_of_getElem? (i := 38) rfl)) (by decide) (by decide)) q131a q131c (g := (mkF m 144 #[.val (.int p1), .val (.int p2), .val (.int p3), .val (.int p4), .val (.int p5), .val (.int pp), .val (.int pt), .val (.int (p5 &&& (3 : Int32))), .val (.ref b107), .val (.ref b113), .val (.ref b122), .val (.ref b124)] [(.int pt), (.ref b124)])) rfl (by rw [hml]; rfl) (Steps.refl _) (argsL := [(.int pt)]) (rest := []) (lenOf pd__I_I rfl) rfl (by show 2 * 0 + _ ≤ _; exact Nat.le_of_eq rfl) (hb hby at_144) (fun _ _ => ⟨rfl, rfl, (by decide : 10 + 2 ≤ _), (by decide : 77 + 40 ≤ _)⟩)
      dsimp only [Pt.U, Pt.locs, Pt.cells, Pt.slots] at X131 l131 y131 z131 st131 hQ131
      subst l131 y131 z131
      dsimp only [Pt.U, Pt.locs, Pt.cells, Pt.slots] at hSi131 hgr131
      obtain ⟨X131, hS131, hZ, hown⟩ := rebS hS129 (Nat.le_refl _) X131 hSi131 hgr131 hZ hown
      obtain ⟨rfl, Nq131⟩ := hQ131
      have N131 := Fr.app N129 Nq131
      have P132 : ∀ t, Steps p.tables e below (T131.setTop (mkF m 157 #[.val (.int p1), .val (.int p2), .val (.int p3), .val (.int p4), .val (.int p5), .val (.int pp), .val (.int pt), .val (.int (p5 &&& (3 : Int32))), .val (.ref b107), .val (.ref b113), .val (.ref b122), .val (.ref b124)] [(.int (1 : Int32))])) t → Steps p.tables e below (s₁.setTop (entryFrame m #[(.int p1), (.int p2), (.int p3), (.int p4), (.int p5)] maxLocals)) t := fun t kt => P130 t (by
        show Steps p.tables e below (T129.setTop (mkF m 144 #[.val (.int p1), .val (.int p2), .val (.int p3), .val (.int p4), .val (.int p5), .val (.int pp), .val (.int pt), .val (.int (p5 &&& (3 : Int32))), .val (.ref b107), .val (.ref b113), .val (.ref b122), .val (.ref b124)] [(.int pt), (.ref b124)])) _
        refine st131.trans ?_
        show Steps p.tables e below (T131.setTop (mkF m 147 #[.val (.int p1), .val (.int p2), .val (.int p3), .val (.int p4), .val (.int p5), .val (.int pp), .val (.int pt), .val (.int (p5 &&& (3 : Int32))), .val (.ref b107), .val (.ref b113), .val (.ref b122), .val (.ref b124)] [(.int pt)])) _
        refine XS.iload X131.here hx rfl (hb hby at_147) rfl ?_
        show Steps p.tables e below (T131.setTop (mkF m 149 #[.val (.int p1), .val (.int p2), .val (.int p3), .val (.int p4), .val (.int p5), .val (.int pp), .val (.int pt), .val (.int (p5 &&& (3 : Int32))), .val (.ref b107), .val (.ref b113), .val (.ref b122), .val (.ref b124)] [(.int pt), (.int pt)])) _
        refine XS.icmpNo X131.here hx rfl (hb hby at_149) rfl (teq (rfl : pt = pt)).2 ?_
        show Steps p.tables e below (T131.setTop (mkF m 152 #[.val (.int p1), .val (.int p2), .val (.int p3), .val (.int p4), .val (.int p5), .val (.int pp), .val (.int pt), .val (.int (p5 &&& (3 : Int32))), .val (.ref b107), .val (.ref b113), .val (.ref b122), .val (.ref b124)] [])) _
        refine XS.iconst X131.here hx rfl (hb hby at_152) ?_
        show Steps p.tables e below (T131.setTop (mkF m 153 #[.val (.int p1), .val (.int p2), .val (.int p3), .val (.int p4), .val (.int p5), .val (.int pp), .val (.int pt), .val (.int (p5 &&& (3 : Int32))), .val (.ref b107), .val (.ref b113), .val (.ref b122), .val (.ref b124)] [(.int (1 : Int32))])) _
        refine XS.goto X131.here hx rfl (pc0 := 153) (pc' := 157) rfl (hb hby at_153) (by decide) (by decide) ?_
        exact kt)
      obtain ⟨fs, hr, hrun, hended, hE1, hE2, hE3, hE4⟩ := X131.leaveW hS131 (Nat.le_refl _) (v := some (.int (1 : Int32))) (fun h => by rw [Bd.returns] at h; cases h) (hlocks := hlk)
      refine ⟨_, _, P132 _ ?_, hrun, hended, _, _, rfl, ?_, hE1, hE2, hE3, hE4.mono (by decide) (by decide)⟩
      · show Steps p.tables e below (T131.setTop (mkF m 157 #[.val (.int p1), .val (.int p2), .val (.int p3), .val (.int p4), .val (.int p5), .val (.int pp), .val (.int pt), .val (.int (p5 &&& (3 : Int32))), .val (.ref b107), .val (.ref b113), .val (.ref b122), .val (.ref b124)] [(.int (1 : Int32))])) _
        exact retN X131 hx (t := .boolean) Bd.returns (by simp) (hb hby at_157) hr
      · show Q0 n0 _ T131.heap _
        exact ⟨rfl, N131⟩
    · obtain ⟨T133, h133, k133, X133, e133, E133, A133, B133, st133⟩ := newPE X117 hx hZ (hw _ (List.mem_of_getElem? (i := 35) rfl)) rfl (g := (mkF m 103 #[.val (.int p1), .val (.int p2), .val (.int p3), .val (.int p4), .val (.int p5), .val (.int pp), .val (.int pt), .val (.int (p5 &&& (3 : Int32))), .val (.ref b107), .val (.ref b113), .unset, .unset] [(.int (1 : Int32))])) rfl (hb hby at_103) rfl (by decide) (cap := 1) (by decide) (by decide) (by decide) (by decide) (ad := "[I") (by decide)
      obtain ⟨b133, g133⟩ : ∃ z, z = T117.heap.size := ⟨_, rfl⟩
      rw [← g133] at A133 B133 st133
      have ne133_b113 : b113 ≠ b133 := Nat.ne_of_lt (Nat.lt_of_lt_of_le Ex117.lt (Nat.le_of_eq g133.symm))
      have gb133 : n0 ≤ b133 := Nat.le_trans sz117 (Nat.le_of_eq g133.symm)
      have sz133 : n0 ≤ h133.size := Nat.le_trans sz117 E133.1
      have hk133 := Nat.le_trans hk117 E133.1
      have f134 := Ex117.ext E133
      have V133 : Arv Z h133 b133 k133 .int (1 : Int32) [(.int (0 : Int32))] (.int (0 : Int32)) := (Arv.new A133 (by decide)).pad (pad_rep [] (.int (0 : Int32)) 1)
      have P135 : ∀ t, Steps p.tables e below (T133.setTop (mkF m 114 #[.val (.int p1), .val (.int p2), .val (.int p3), .val (.int p4), .val (.int p5), .val (.int pp), .val (.int pt), .val (.int (p5 &&& (3 : Int32))), .val (.ref b107), .val (.ref b113), .unset, .unset] [(.int ((p3 &&& (2147483647 : Int32)) - ((p3 &&& (2147483647 : Int32)) / pp) * pp)), (.int (0 : Int32)), (.ref b133), (.ref b133)])) t → Steps p.tables e below (s₁.setTop (entryFrame m #[(.int p1), (.int p2), (.int p3), (.int p4), (.int p5)] maxLocals)) t := fun t kt => P120 t (by
        show Steps p.tables e below (T117.setTop (mkF m 99 #[.val (.int p1), .val (.int p2), .val (.int p3), .val (.int p4), .val (.int p5), .val (.int pp), .val (.int pt), .val (.int (p5 &&& (3 : Int32))), .val (.ref b107), .val (.ref b113), .unset, .unset] [(.int (p5 &&& (8 : Int32)))])) _
        refine XS.ifNo X117.here hx rfl (hb hby at_99) rfl ((if0 _ _).trans (feq hc99_121).1) ?_
        show Steps p.tables e below (T117.setTop (mkF m 102 #[.val (.int p1), .val (.int p2), .val (.int p3), .val (.int p4), .val (.int p5), .val (.int pp), .val (.int pt), .val (.int (p5 &&& (3 : Int32))), .val (.ref b107), .val (.ref b113), .unset, .unset] [])) _
        refine XS.iconst X117.here hx rfl (hb hby at_102) ?_
        show Steps p.tables e below (T117.setTop (mkF m 103 #[.val (.int p1), .val (.int p2), .val (.int p3), .val (.int p4), .val (.int p5), .val (.int pp), .val (.int pt), .val (.int (p5 &&& (3 : Int32))), .val (.ref b107), .val (.ref b113), .unset, .unset] [(.int (1 : Int32))])) _
        refine st133 _ ?_
        show Steps p.tables e below (T133.setTop (mkF m 105 #[.val (.int p1), .val (.int p2), .val (.int p3), .val (.int p4), .val (.int p5), .val (.int pp), .val (.int pt), .val (.int (p5 &&& (3 : Int32))), .val (.ref b107), .val (.ref b113), .unset, .unset] [(.ref b133)])) _
        refine XS.dup X133.here hx rfl (hb hby at_105) rfl rfl ?_
        show Steps p.tables e below (T133.setTop (mkF m 106 #[.val (.int p1), .val (.int p2), .val (.int p3), .val (.int p4), .val (.int p5), .val (.int pp), .val (.int pt), .val (.int (p5 &&& (3 : Int32))), .val (.ref b107), .val (.ref b113), .unset, .unset] [(.ref b133), (.ref b133)])) _
        refine XS.iconst X133.here hx rfl (hb hby at_106) ?_
        show Steps p.tables e below (T133.setTop (mkF m 107 #[.val (.int p1), .val (.int p2), .val (.int p3), .val (.int p4), .val (.int p5), .val (.int pp), .val (.int pt), .val (.int (p5 &&& (3 : Int32))), .val (.ref b107), .val (.ref b113), .unset, .unset] [(.int (0 : Int32)), (.ref b133), (.ref b133)])) _
        refine XS.iloadN X133.here hx rfl (hb hby at_107) rfl ?_
        show Steps p.tables e below (T133.setTop (mkF m 108 #[.val (.int p1), .val (.int p2), .val (.int p3), .val (.int p4), .val (.int p5), .val (.int pp), .val (.int pt), .val (.int (p5 &&& (3 : Int32))), .val (.ref b107), .val (.ref b113), .unset, .unset] [(.int p3), (.int (0 : Int32)), (.ref b133), (.ref b133)])) _
        refine X133.ldcInt hx hown (mvT hZ (hw _ (List.mem_of_getElem? (i := 0) rfl))) (g := (mkF m 108 #[.val (.int p1), .val (.int p2), .val (.int p3), .val (.int p4), .val (.int p5), .val (.int pp), .val (.int pt), .val (.int (p5 &&& (3 : Int32))), .val (.ref b107), .val (.ref b113), .unset, .unset] [(.int p3), (.int (0 : Int32)), (.ref b133), (.ref b133)])) rfl (hb hby at_108) _ ?_
        show Steps p.tables e below (T133.setTop (mkF m 110 #[.val (.int p1), .val (.int p2), .val (.int p3), .val (.int p4), .val (.int p5), .val (.int pp), .val (.int pt), .val (.int (p5 &&& (3 : Int32))), .val (.ref b107), .val (.ref b113), .unset, .unset] [(.int (2147483647 : Int32)), (.int p3), (.int (0 : Int32)), (.ref b133), (.ref b133)])) _
        refine XS.iand X133.here hx rfl (hb hby at_110) rfl ?_
        show Steps p.tables e below (T133.setTop (mkF m 111 #[.val (.int p1), .val (.int p2), .val (.int p3), .val (.int p4), .val (.int p5), .val (.int pp), .val (.int pt), .val (.int (p5 &&& (3 : Int32))), .val (.ref b107), .val (.ref b113), .unset, .unset] [(.int (p3 &&& (2147483647 : Int32))), (.int (0 : Int32)), (.ref b133), (.ref b133)])) _
        refine XS.iload X133.here hx rfl (hb hby at_111) rfl ?_
        show Steps p.tables e below (T133.setTop (mkF m 113 #[.val (.int p1), .val (.int p2), .val (.int p3), .val (.int p4), .val (.int p5), .val (.int pp), .val (.int pt), .val (.int (p5 &&& (3 : Int32))), .val (.ref b107), .val (.ref b113), .unset, .unset] [(.int pp), (.int (p3 &&& (2147483647 : Int32))), (.int (0 : Int32)), (.ref b133), (.ref b133)])) _
        refine XS.irem X133.here hx rfl (hb hby at_113) rfl (own_nz _ hq1) ?_
        exact kt)
      obtain ⟨gg, hgg⟩ : ∃ z : Int32, z = ((p3 &&& (2147483647 : Int32)) - ((p3 &&& (2147483647 : Int32)) / pp) * pp) := ⟨_, rfl⟩
      rw [← hgg] at P135
      have hq4 := own_rem p3 pp gg hq1 hgg
      obtain ⟨cl136, Ar136, q136, S136, Nn136, H136, G136⟩ := id V133
      have hin136 : ¬ ((0 : Int32) < 0 ∨ cl136.slots.size ≤ ((0 : Int32)).toNatClampNeg) := inb_of S136 ⟨by decide, by decide⟩
      obtain ⟨T137, h137, X137, e137, W137, st137⟩ := stI X133 hx hZ e133 Ar136 (j := (0 : Int32)) hin136 (g := (mkF m 114 #[.val (.int p1), .val (.int p2), .val (.int p3), .val (.int p4), .val (.int p5), .val (.int pp), .val (.int pt), .val (.int (p5 &&& (3 : Int32))), .val (.ref b107), .val (.ref b113), .unset, .unset] [(.int gg), (.int (0 : Int32)), (.ref b133), (.ref b133)])) rfl rfl (hb hby at_114)
      have f138 := f134.wr W137
      have f139 := B133.wr W137
      have V137 : Arv Z h137 b133 k133 .int (1 : Int32) [(.int gg)] (.int (0 : Int32)) := Arv.set Ar136 q136 S136 Nn136 H136 G136 rfl W137 0 rfl (Nat.le_of_ble_eq_true rfl)
      have N137 := Fr.snoc X137 N117 gb133
      have sz137 : n0 ≤ h137.size := Nat.le_trans sz133 (Keep.of_wr W137).1
      have hk137 := Nat.le_trans hk133 (Keep.of_wr W137).1
      obtain ⟨T140, h140, X140, e140, E140, A140, D140, -, st140⟩ := newO X137 hx hZ hown (hw _ (List.mem_of_getElem? (i := 36) rfl)) (hw _ (List.mem_of_getElem? (i := 37) rfl)) (hw _ (List.mem_of_getElem? (i := 38) rfl)) e137 (g := (mkF m 125 #[.val (.int p1), .val (.int p2), .val (.int p3), .val (.int p4), .val (.int p5), .val (.int pp), .val (.int pt), .val (.int (p5 &&& (3 : Int32))), .val (.ref b107), .val (.ref b113), .val (.ref b133), .unset] [])) rfl (hb hby at_125) (by decide) (by decide)
      obtain ⟨b140, g140⟩ : ∃ z, z = h137.size := ⟨_, rfl⟩
      rw [← g140] at A140 D140 st140
      have ne140_b113 : b113 ≠ b140 := Nat.ne_of_lt (Nat.lt_of_lt_of_le f138.lt (Nat.le_of_eq g140.symm))
      have ne140_b133 : b133 ≠ b140 := Nat.ne_of_lt (Nat.lt_of_lt_of_le f139.lt (Nat.le_of_eq g140.symm))
      have gb140 : n0 ≤ b140 := Nat.le_trans sz137 (Nat.le_of_eq g140.symm)
      have sz140 : n0 ≤ h140.size := Nat.le_trans sz137 E140.1
      have hk140 := Nat.le_trans hk137 E140.1
      have f141 := f138.ext E140
      have f142 := f139.ext E140
      have f143 := V137.ext E140
      have F140_name : Fld Z h140 b140 "com/example/allot/allot/partition/Topic" "name" "Ljava/lang/String;" .null := D140 (Or.inr (hw _ (List.mem_of_getElem? (i := 80) rfl))) (ty := (.object "java/lang/String")) (by decide)
      have F140_partitions : Fld Z h140 b140 "com/example/allot/allot/partition/Topic" "partitions" "I" (.int (0 : Int32)) := D140 (Or.inr (hw _ (List.mem_of_getElem? (i := 82) rfl))) (ty := .int) (by decide)
      have F140_unavailable : Fld Z h140 b140 "com/example/allot/allot/partition/Topic" "unavailable" "[I" .null := D140 (Or.inr (hw _ (List.mem_of_getElem? (i := 84) rfl))) (ty := (.array .int)) (by decide)
      have P144 : ∀ t, Steps p.tables e below (T140.setTop (mkF m 135 #[.val (.int p1), .val (.int p2), .val (.int p3), .val (.int p4), .val (.int p5), .val (.int pp), .val (.int pt), .val (.int (p5 &&& (3 : Int32))), .val (.ref b107), .val (.ref b113), .val (.ref b133), .unset] [(.ref b133), (.int pp), (.ref b113), (.ref b140), (.ref b140)])) t → Steps p.tables e below (s₁.setTop (entryFrame m #[(.int p1), (.int p2), (.int p3), (.int p4), (.int p5)] maxLocals)) t := fun t kt => P135 t (by
        show Steps p.tables e below (T133.setTop (mkF m 114 #[.val (.int p1), .val (.int p2), .val (.int p3), .val (.int p4), .val (.int p5), .val (.int pp), .val (.int pt), .val (.int (p5 &&& (3 : Int32))), .val (.ref b107), .val (.ref b113), .unset, .unset] [(.int gg), (.int (0 : Int32)), (.ref b133), (.ref b133)])) _
        refine st137 _ ?_
        show Steps p.tables e below (T137.setTop (mkF m 115 #[.val (.int p1), .val (.int p2), .val (.int p3), .val (.int p4), .val (.int p5), .val (.int pp), .val (.int pt), .val (.int (p5 &&& (3 : Int32))), .val (.ref b107), .val (.ref b113), .unset, .unset] [(.ref b133)])) _
        refine XS.astore X137.here hx rfl (hb hby at_115) rfl rfl (l' := #[.val (.int p1), .val (.int p2), .val (.int p3), .val (.int p4), .val (.int p5), .val (.int pp), .val (.int pt), .val (.int (p5 &&& (3 : Int32))), .val (.ref b107), .val (.ref b113), .val (.ref b133), .unset]) rfl ?_
        show Steps p.tables e below (T137.setTop (mkF m 117 #[.val (.int p1), .val (.int p2), .val (.int p3), .val (.int p4), .val (.int p5), .val (.int pp), .val (.int pt), .val (.int (p5 &&& (3 : Int32))), .val (.ref b107), .val (.ref b113), .val (.ref b133), .unset] [])) _
        refine XS.goto X137.here hx rfl (pc0 := 117) (pc' := 125) rfl (hb hby at_117) (by decide) (by decide) ?_
        show Steps p.tables e below (T137.setTop (mkF m 125 #[.val (.int p1), .val (.int p2), .val (.int p3), .val (.int p4), .val (.int p5), .val (.int pp), .val (.int pt), .val (.int (p5 &&& (3 : Int32))), .val (.ref b107), .val (.ref b113), .val (.ref b133), .unset] [])) _
        refine st140 _ ?_
        show Steps p.tables e below (T140.setTop (mkF m 128 #[.val (.int p1), .val (.int p2), .val (.int p3), .val (.int p4), .val (.int p5), .val (.int pp), .val (.int pt), .val (.int (p5 &&& (3 : Int32))), .val (.ref b107), .val (.ref b113), .val (.ref b133), .unset] [(.ref b140)])) _
        refine XS.dup X140.here hx rfl (hb hby at_128) rfl rfl ?_
        show Steps p.tables e below (T140.setTop (mkF m 129 #[.val (.int p1), .val (.int p2), .val (.int p3), .val (.int p4), .val (.int p5), .val (.int pp), .val (.int pt), .val (.int (p5 &&& (3 : Int32))), .val (.ref b107), .val (.ref b113), .val (.ref b133), .unset] [(.ref b140), (.ref b140)])) _
        refine XS.aload X140.here hx rfl (hb hby at_129) rfl rfl ?_
        show Steps p.tables e below (T140.setTop (mkF m 131 #[.val (.int p1), .val (.int p2), .val (.int p3), .val (.int p4), .val (.int p5), .val (.int pp), .val (.int pt), .val (.int (p5 &&& (3 : Int32))), .val (.ref b107), .val (.ref b113), .val (.ref b133), .unset] [(.ref b113), (.ref b140), (.ref b140)])) _
        refine XS.iload X140.here hx rfl (hb hby at_131) rfl ?_
        show Steps p.tables e below (T140.setTop (mkF m 133 #[.val (.int p1), .val (.int p2), .val (.int p3), .val (.int p4), .val (.int p5), .val (.int pp), .val (.int pt), .val (.int (p5 &&& (3 : Int32))), .val (.ref b107), .val (.ref b113), .val (.ref b133), .unset] [(.int pp), (.ref b113), (.ref b140), (.ref b140)])) _
        refine XS.aload X140.here hx rfl (hb hby at_133) rfl rfl ?_
        exact kt)
      obtain ⟨_, _, ⟨T145, L145, k145, n145⟩, -, X145, hSi145, hgr145, ⟨Lc145, hQ145, l145, y145, z145⟩, st145⟩ := X140.specialBackS hx (y := (⟨"com/example/allot/allot/partition/Topic", "<init>", "(Ljava/lang/String;I[I)V"⟩ : MethodName)) rfl hown (mvT hZ (hw _ (List.mem_of_getElem? (i := 39) rfl))) (mvT hZ (hw _ (List.mem_of_getElem? (i := 40) rfl))) (mvT hZ (hw _ (List.mem_of_getElem? (i := 41) rfl))) (by decide) (backOfS (W := 1)  (rmT1 l Z a0 hw [] b140 b113 pp b133 k133 gg h140 n0 sz140 A140 F140_name F140_partitions F140_unavailable gb140 f142 f143 (Ne.symm ne140_b133) hp1 hq4.1 hq4.2) hZ (hw _ (List.mem_of_getElem? (i := 41) rfl)) (hw _ (List.mem_of_getElem? (i := 38) rfl)) (by decide) (by decide)) (g := (mkF m 135 #[.val (.int p1), .val (.int p2), .val (.int p3), .val (.int p4), .val (.int p5), .val (.int pp), .val (.int pt), .val (.int (p5 &&& (3 : Int32))), .val (.ref b107), .val (.ref b113), .val (.ref b133), .unset] [(.ref b133), (.int pp), (.ref b113), (.ref b140), (.ref b140)])) rfl (by rw [hml]; rfl) (Steps.refl _) (a := b140) (argsL := [(.ref b113), (.int pp), (.ref b133)]) (rest := [(.ref b140)]) (lenOf pd__Ljava_lang_String_I_I_V rfl) rfl (by show 2 * 0 + _ ≤ _; exact Nat.le_of_eq rfl) (hb hby at_135) (fun _ _ => ⟨rfl, e140, (by decide : 5 + 7 ≤ _), (by decide : 10 + 157 ≤ _)⟩)
      dsimp only [Pt.U, Pt.locs, Pt.cells, Pt.slots] at X145 l145 y145 z145 st145 hQ145
      subst l145 y145 z145
      dsimp only [Pt.U, Pt.locs, Pt.cells, Pt.slots] at hSi145 hgr145
      obtain ⟨X145, hS145, hZ, hown⟩ := rebS hS0 (by rw [e140]; exact hk140) X145 hSi145 hgr145 hZ hown
      obtain ⟨rfl, Nq145, K145x, Ex145, Fnx145, Fpx145, -⟩ := hQ145
      have N145 := Fr.app N137 Nq145
      have sz145 : n0 ≤ T145.heap.size := Nat.le_trans sz140 K145x.1
      have P146 : ∀ t, Steps p.tables e below (T145.setTop (mkF m 144 #[.val (.int p1), .val (.int p2), .val (.int p3), .val (.int p4), .val (.int p5), .val (.int pp), .val (.int pt), .val (.int (p5 &&& (3 : Int32))), .val (.ref b107), .val (.ref b113), .val (.ref b133), .val (.ref b140)] [(.int pt), (.ref b140)])) t → Steps p.tables e below (s₁.setTop (entryFrame m #[(.int p1), (.int p2), (.int p3), (.int p4), (.int p5)] maxLocals)) t := fun t kt => P144 t (by
        show Steps p.tables e below (T140.setTop (mkF m 135 #[.val (.int p1), .val (.int p2), .val (.int p3), .val (.int p4), .val (.int p5), .val (.int pp), .val (.int pt), .val (.int (p5 &&& (3 : Int32))), .val (.ref b107), .val (.ref b113), .val (.ref b133), .unset] [(.ref b133), (.int pp), (.ref b113), (.ref b140), (.ref b140)])) _
        refine st145.trans ?_
        show Steps p.tables e below (T145.setTop (mkF m 138 #[.val (.int p1), .val (.int p2), .val (.int p3), .val (.int p4), .val (.int p5), .val (.int pp), .val (.int pt), .val (.int (p5 &&& (3 : Int32))), .val (.ref b107), .val (.ref b113), .val (.ref b133), .unset] [(.ref b140)])) _
        refine XS.astore X145.here hx rfl (hb hby at_138) rfl rfl (l' := #[.val (.int p1), .val (.int p2), .val (.int p3), .val (.int p4), .val (.int p5), .val (.int pp), .val (.int pt), .val (.int (p5 &&& (3 : Int32))), .val (.ref b107), .val (.ref b113), .val (.ref b133), .val (.ref b140)]) rfl ?_
        show Steps p.tables e below (T145.setTop (mkF m 140 #[.val (.int p1), .val (.int p2), .val (.int p3), .val (.int p4), .val (.int p5), .val (.int pp), .val (.int pt), .val (.int (p5 &&& (3 : Int32))), .val (.ref b107), .val (.ref b113), .val (.ref b133), .val (.ref b140)] [])) _
        refine XS.aload X145.here hx rfl (hb hby at_140) rfl rfl ?_
        show Steps p.tables e below (T145.setTop (mkF m 142 #[.val (.int p1), .val (.int p2), .val (.int p3), .val (.int p4), .val (.int p5), .val (.int pp), .val (.int pt), .val (.int (p5 &&& (3 : Int32))), .val (.ref b107), .val (.ref b113), .val (.ref b133), .val (.ref b140)] [(.ref b140)])) _
        refine XS.iload X145.here hx rfl (hb hby at_142) rfl ?_
        exact kt)
      obtain ⟨cq147, kq147, q147a, q147b, q147c⟩ := isOf hZ rfl Ex145
      obtain ⟨_, _, ⟨T147, L147, k147, n147⟩, -, X147, hSi147, hgr147, ⟨Lc147, hQ147, l147, y147, z147⟩, st147⟩ := X145.virtualBackS hx (y := (⟨"com/example/allot/allot/partition/Topic", "checked", "(I)I"⟩ : MethodName)) (z := (⟨"com/example/allot/allot/partition/Topic", "checked", "(I)I"⟩ : MethodName)) hown (mvT hZ (hw _ (List.mem_of_getElem? (i := 85) rfl))) (mvT hZ (hw _ (List.mem_of_getElem? (i := 86) rfl))) (notFace_of_selects (args := #[]) (mvT hZ (hw _ (List.mem_of_getElem? (i := 88) rfl)))) (mvT hZ (hw _ (List.mem_of_getElem? (i := 88) rfl))) (mvT hZ (hw _ (List.mem_of_getElem? (i := 87) rfl))) (by decide) (backOfS (W := 0)  (rmCK l Z a0 hw [] b140 pt b113 pp T145.heap n0 sz145 Fnx145 Fpx145 hq3.1 hq3.2) hZ (hw _ (List.mem_of_getElem? (i := 89) rfl)) (hw _ (List.mem_of_getElem? (i := 38) rfl)) (by decide) (by decide)) q147a q147c (g := (mkF m 144 #[.val (.int p1), .val (.int p2), .val (.int p3), .val (.int p4), .val (.int p5), .val (.int pp), .val (.int pt), .val (.int (p5 &&& (3 : Int32))), .val (.ref b107), .val (.ref b113), .val (.ref b133), .val (.ref b140)] [(.int pt), (.ref b140)])) rfl (by rw [hml]; rfl) (Steps.refl _) (argsL := [(.int pt)]) (rest := []) (lenOf pd__I_I rfl) rfl (by show 2 * 0 + _ ≤ _; exact Nat.le_of_eq rfl) (hb hby at_144) (fun _ _ => ⟨rfl, rfl, (by decide : 12 + 2 ≤ _), (by decide : 167 + 40 ≤ _)⟩)
      dsimp only [Pt.U, Pt.locs, Pt.cells, Pt.slots] at X147 l147 y147 z147 st147 hQ147
      subst l147 y147 z147
      dsimp only [Pt.U, Pt.locs, Pt.cells, Pt.slots] at hSi147 hgr147
      obtain ⟨X147, hS147, hZ, hown⟩ := rebS hS145 (Nat.le_refl _) X147 hSi147 hgr147 hZ hown
      obtain ⟨rfl, Nq147⟩ := hQ147
      have N147 := Fr.app N145 Nq147
      have P148 : ∀ t, Steps p.tables e below (T147.setTop (mkF m 157 #[.val (.int p1), .val (.int p2), .val (.int p3), .val (.int p4), .val (.int p5), .val (.int pp), .val (.int pt), .val (.int (p5 &&& (3 : Int32))), .val (.ref b107), .val (.ref b113), .val (.ref b133), .val (.ref b140)] [(.int (1 : Int32))])) t → Steps p.tables e below (s₁.setTop (entryFrame m #[(.int p1), (.int p2), (.int p3), (.int p4), (.int p5)] maxLocals)) t := fun t kt => P146 t (by
        show Steps p.tables e below (T145.setTop (mkF m 144 #[.val (.int p1), .val (.int p2), .val (.int p3), .val (.int p4), .val (.int p5), .val (.int pp), .val (.int pt), .val (.int (p5 &&& (3 : Int32))), .val (.ref b107), .val (.ref b113), .val (.ref b133), .val (.ref b140)] [(.int pt), (.ref b140)])) _
        refine st147.trans ?_
        show Steps p.tables e below (T147.setTop (mkF m 147 #[.val (.int p1), .val (.int p2), .val (.int p3), .val (.int p4), .val (.int p5), .val (.int pp), .val (.int pt), .val (.int (p5 &&& (3 : Int32))), .val (.ref b107), .val (.ref b113), .val (.ref b133), .val (.ref b140)] [(.int pt)])) _
        refine XS.iload X147.here hx rfl (hb hby at_147) rfl ?_
        show Steps p.tables e below (T147.setTop (mkF m 149 #[.val (.int p1), .val (.int p2), .val (.int p3), .val (.int p4), .val (.int p5), .val (.int pp), .val (.int pt), .val (.int (p5 &&& (3 : Int32))), .val (.ref b107), .val (.ref b113), .val (.ref b133), .val (.ref b140)] [(.int pt), (.int pt)])) _
        refine XS.icmpNo X147.here hx rfl (hb hby at_149) rfl (teq (rfl : pt = pt)).2 ?_
        show Steps p.tables e below (T147.setTop (mkF m 152 #[.val (.int p1), .val (.int p2), .val (.int p3), .val (.int p4), .val (.int p5), .val (.int pp), .val (.int pt), .val (.int (p5 &&& (3 : Int32))), .val (.ref b107), .val (.ref b113), .val (.ref b133), .val (.ref b140)] [])) _
        refine XS.iconst X147.here hx rfl (hb hby at_152) ?_
        show Steps p.tables e below (T147.setTop (mkF m 153 #[.val (.int p1), .val (.int p2), .val (.int p3), .val (.int p4), .val (.int p5), .val (.int pp), .val (.int pt), .val (.int (p5 &&& (3 : Int32))), .val (.ref b107), .val (.ref b113), .val (.ref b133), .val (.ref b140)] [(.int (1 : Int32))])) _
        refine XS.goto X147.here hx rfl (pc0 := 153) (pc' := 157) rfl (hb hby at_153) (by decide) (by decide) ?_
        exact kt)
      obtain ⟨fs, hr, hrun, hended, hE1, hE2, hE3, hE4⟩ := X147.leaveW hS147 (Nat.le_refl _) (v := some (.int (1 : Int32))) (fun h => by rw [Bd.returns] at h; cases h) (hlocks := hlk)
      refine ⟨_, _, P148 _ ?_, hrun, hended, _, _, rfl, ?_, hE1, hE2, hE3, hE4.mono (by decide) (by decide)⟩
      · show Steps p.tables e below (T147.setTop (mkF m 157 #[.val (.int p1), .val (.int p2), .val (.int p3), .val (.int p4), .val (.int p5), .val (.int pp), .val (.int pt), .val (.int (p5 &&& (3 : Int32))), .val (.ref b107), .val (.ref b113), .val (.ref b133), .val (.ref b140)] [(.int (1 : Int32))])) _
        exact retN X147 hx (t := .boolean) Bd.returns (by simp) (hb hby at_157) hr
      · show Q0 n0 _ T147.heap _
        exact ⟨rfl, N147⟩
  · obtain ⟨T149, h149, k149, X149, e149, E149, A149, B149, st149⟩ := newPE X117 hx hZ (hw _ (List.mem_of_getElem? (i := 35) rfl)) rfl (g := (mkF m 82 #[.val (.int p1), .val (.int p2), .val (.int p3), .val (.int p4), .val (.int p5), .val (.int pp), .val (.int pt), .val (.int (p5 &&& (3 : Int32))), .val (.ref b107), .val (.ref b113), .unset, .unset] [(.int (1 : Int32))])) rfl (hb hby at_82) rfl (by decide) (cap := 1) (by decide) (by decide) (by decide) (by decide) (ad := "[I") (by decide)
    obtain ⟨b149, g149⟩ : ∃ z, z = T117.heap.size := ⟨_, rfl⟩
    rw [← g149] at A149 B149 st149
    have ne149_b113 : b113 ≠ b149 := Nat.ne_of_lt (Nat.lt_of_lt_of_le Ex117.lt (Nat.le_of_eq g149.symm))
    have gb149 : n0 ≤ b149 := Nat.le_trans sz117 (Nat.le_of_eq g149.symm)
    have sz149 : n0 ≤ h149.size := Nat.le_trans sz117 E149.1
    have hk149 := Nat.le_trans hk117 E149.1
    have f150 := Ex117.ext E149
    have V149 : Arv Z h149 b149 k149 .int (1 : Int32) [(.int (0 : Int32))] (.int (0 : Int32)) := (Arv.new A149 (by decide)).pad (pad_rep [] (.int (0 : Int32)) 1)
    obtain ⟨cl151, Ar151, q151, S151, Nn151, H151, G151⟩ := id V149
    have hin151 : ¬ ((0 : Int32) < 0 ∨ cl151.slots.size ≤ ((0 : Int32)).toNatClampNeg) := inb_of S151 ⟨by decide, by decide⟩
    obtain ⟨T152, h152, X152, e152, W152, st152⟩ := stI X149 hx hZ e149 Ar151 (j := (0 : Int32)) hin151 (g := (mkF m 88 #[.val (.int p1), .val (.int p2), .val (.int p3), .val (.int p4), .val (.int p5), .val (.int pp), .val (.int pt), .val (.int (p5 &&& (3 : Int32))), .val (.ref b107), .val (.ref b113), .unset, .unset] [(.int pt), (.int (0 : Int32)), (.ref b149), (.ref b149)])) rfl rfl (hb hby at_88)
    have f153 := f150.wr W152
    have f154 := B149.wr W152
    have V152 : Arv Z h152 b149 k149 .int (1 : Int32) [(.int pt)] (.int (0 : Int32)) := Arv.set Ar151 q151 S151 Nn151 H151 G151 rfl W152 0 rfl (Nat.le_of_ble_eq_true rfl)
    have N152 := Fr.snoc X152 N117 gb149
    have sz152 : n0 ≤ h152.size := Nat.le_trans sz149 (Keep.of_wr W152).1
    have hk152 := Nat.le_trans hk149 (Keep.of_wr W152).1
    obtain ⟨T155, h155, X155, e155, E155, A155, D155, -, st155⟩ := newO X152 hx hZ hown (hw _ (List.mem_of_getElem? (i := 36) rfl)) (hw _ (List.mem_of_getElem? (i := 37) rfl)) (hw _ (List.mem_of_getElem? (i := 38) rfl)) e152 (g := (mkF m 125 #[.val (.int p1), .val (.int p2), .val (.int p3), .val (.int p4), .val (.int p5), .val (.int pp), .val (.int pt), .val (.int (p5 &&& (3 : Int32))), .val (.ref b107), .val (.ref b113), .val (.ref b149), .unset] [])) rfl (hb hby at_125) (by decide) (by decide)
    obtain ⟨b155, g155⟩ : ∃ z, z = h152.size := ⟨_, rfl⟩
    rw [← g155] at A155 D155 st155
    have ne155_b113 : b113 ≠ b155 := Nat.ne_of_lt (Nat.lt_of_lt_of_le f153.lt (Nat.le_of_eq g155.symm))
    have ne155_b149 : b149 ≠ b155 := Nat.ne_of_lt (Nat.lt_of_lt_of_le f154.lt (Nat.le_of_eq g155.symm))
    have gb155 : n0 ≤ b155 := Nat.le_trans sz152 (Nat.le_of_eq g155.symm)
    have sz155 : n0 ≤ h155.size := Nat.le_trans sz152 E155.1
    have hk155 := Nat.le_trans hk152 E155.1
    have f156 := f153.ext E155
    have f157 := f154.ext E155
    have f158 := V152.ext E155
    have F155_name : Fld Z h155 b155 "com/example/allot/allot/partition/Topic" "name" "Ljava/lang/String;" .null := D155 (Or.inr (hw _ (List.mem_of_getElem? (i := 80) rfl))) (ty := (.object "java/lang/String")) (by decide)
    have F155_partitions : Fld Z h155 b155 "com/example/allot/allot/partition/Topic" "partitions" "I" (.int (0 : Int32)) := D155 (Or.inr (hw _ (List.mem_of_getElem? (i := 82) rfl))) (ty := .int) (by decide)
    have F155_unavailable : Fld Z h155 b155 "com/example/allot/allot/partition/Topic" "unavailable" "[I" .null := D155 (Or.inr (hw _ (List.mem_of_getElem? (i := 84) rfl))) (ty := (.array .int)) (by decide)
    have P159 : ∀ t, Steps p.tables e below (T155.setTop (mkF m 135 #[.val (.int p1), .val (.int p2), .val (.int p3), .val (.int p4), .val (.int p5), .val (.int pp), .val (.int pt), .val (.int (p5 &&& (3 : Int32))), .val (.ref b107), .val (.ref b113), .val (.ref b149), .unset] [(.ref b149), (.int pp), (.ref b113), (.ref b155), (.ref b155)])) t → Steps p.tables e below (s₁.setTop (entryFrame m #[(.int p1), (.int p2), (.int p3), (.int p4), (.int p5)] maxLocals)) t := fun t kt => P118 t (by
      show Steps p.tables e below (T117.setTop (mkF m 78 #[.val (.int p1), .val (.int p2), .val (.int p3), .val (.int p4), .val (.int p5), .val (.int pp), .val (.int pt), .val (.int (p5 &&& (3 : Int32))), .val (.ref b107), .val (.ref b113), .unset, .unset] [(.int (p5 &&& (4 : Int32)))])) _
      refine XS.ifNo X117.here hx rfl (hb hby at_78) rfl ((if0 _ _).trans (feq hc78_119).1) ?_
      show Steps p.tables e below (T117.setTop (mkF m 81 #[.val (.int p1), .val (.int p2), .val (.int p3), .val (.int p4), .val (.int p5), .val (.int pp), .val (.int pt), .val (.int (p5 &&& (3 : Int32))), .val (.ref b107), .val (.ref b113), .unset, .unset] [])) _
      refine XS.iconst X117.here hx rfl (hb hby at_81) ?_
      show Steps p.tables e below (T117.setTop (mkF m 82 #[.val (.int p1), .val (.int p2), .val (.int p3), .val (.int p4), .val (.int p5), .val (.int pp), .val (.int pt), .val (.int (p5 &&& (3 : Int32))), .val (.ref b107), .val (.ref b113), .unset, .unset] [(.int (1 : Int32))])) _
      refine st149 _ ?_
      show Steps p.tables e below (T149.setTop (mkF m 84 #[.val (.int p1), .val (.int p2), .val (.int p3), .val (.int p4), .val (.int p5), .val (.int pp), .val (.int pt), .val (.int (p5 &&& (3 : Int32))), .val (.ref b107), .val (.ref b113), .unset, .unset] [(.ref b149)])) _
      refine XS.dup X149.here hx rfl (hb hby at_84) rfl rfl ?_
      show Steps p.tables e below (T149.setTop (mkF m 85 #[.val (.int p1), .val (.int p2), .val (.int p3), .val (.int p4), .val (.int p5), .val (.int pp), .val (.int pt), .val (.int (p5 &&& (3 : Int32))), .val (.ref b107), .val (.ref b113), .unset, .unset] [(.ref b149), (.ref b149)])) _
      refine XS.iconst X149.here hx rfl (hb hby at_85) ?_
      show Steps p.tables e below (T149.setTop (mkF m 86 #[.val (.int p1), .val (.int p2), .val (.int p3), .val (.int p4), .val (.int p5), .val (.int pp), .val (.int pt), .val (.int (p5 &&& (3 : Int32))), .val (.ref b107), .val (.ref b113), .unset, .unset] [(.int (0 : Int32)), (.ref b149), (.ref b149)])) _
      refine XS.iload X149.here hx rfl (hb hby at_86) rfl ?_
      show Steps p.tables e below (T149.setTop (mkF m 88 #[.val (.int p1), .val (.int p2), .val (.int p3), .val (.int p4), .val (.int p5), .val (.int pp), .val (.int pt), .val (.int (p5 &&& (3 : Int32))), .val (.ref b107), .val (.ref b113), .unset, .unset] [(.int pt), (.int (0 : Int32)), (.ref b149), (.ref b149)])) _
      refine st152 _ ?_
      show Steps p.tables e below (T152.setTop (mkF m 89 #[.val (.int p1), .val (.int p2), .val (.int p3), .val (.int p4), .val (.int p5), .val (.int pp), .val (.int pt), .val (.int (p5 &&& (3 : Int32))), .val (.ref b107), .val (.ref b113), .unset, .unset] [(.ref b149)])) _
      refine XS.astore X152.here hx rfl (hb hby at_89) rfl rfl (l' := #[.val (.int p1), .val (.int p2), .val (.int p3), .val (.int p4), .val (.int p5), .val (.int pp), .val (.int pt), .val (.int (p5 &&& (3 : Int32))), .val (.ref b107), .val (.ref b113), .val (.ref b149), .unset]) rfl ?_
      show Steps p.tables e below (T152.setTop (mkF m 91 #[.val (.int p1), .val (.int p2), .val (.int p3), .val (.int p4), .val (.int p5), .val (.int pp), .val (.int pt), .val (.int (p5 &&& (3 : Int32))), .val (.ref b107), .val (.ref b113), .val (.ref b149), .unset] [])) _
      refine XS.goto X152.here hx rfl (pc0 := 91) (pc' := 125) rfl (hb hby at_91) (by decide) (by decide) ?_
      show Steps p.tables e below (T152.setTop (mkF m 125 #[.val (.int p1), .val (.int p2), .val (.int p3), .val (.int p4), .val (.int p5), .val (.int pp), .val (.int pt), .val (.int (p5 &&& (3 : Int32))), .val (.ref b107), .val (.ref b113), .val (.ref b149), .unset] [])) _
      refine st155 _ ?_
      show Steps p.tables e below (T155.setTop (mkF m 128 #[.val (.int p1), .val (.int p2), .val (.int p3), .val (.int p4), .val (.int p5), .val (.int pp), .val (.int pt), .val (.int (p5 &&& (3 : Int32))), .val (.ref b107), .val (.ref b113), .val (.ref b149), .unset] [(.ref b155)])) _
      refine XS.dup X155.here hx rfl (hb hby at_128) rfl rfl ?_
      show Steps p.tables e below (T155.setTop (mkF m 129 #[.val (.int p1), .val (.int p2), .val (.int p3), .val (.int p4), .val (.int p5), .val (.int pp), .val (.int pt), .val (.int (p5 &&& (3 : Int32))), .val (.ref b107), .val (.ref b113), .val (.ref b149), .unset] [(.ref b155), (.ref b155)])) _
      refine XS.aload X155.here hx rfl (hb hby at_129) rfl rfl ?_
      show Steps p.tables e below (T155.setTop (mkF m 131 #[.val (.int p1), .val (.int p2), .val (.int p3), .val (.int p4), .val (.int p5), .val (.int pp), .val (.int pt), .val (.int (p5 &&& (3 : Int32))), .val (.ref b107), .val (.ref b113), .val (.ref b149), .unset] [(.ref b113), (.ref b155), (.ref b155)])) _
      refine XS.iload X155.here hx rfl (hb hby at_131) rfl ?_
      show Steps p.tables e below (T155.setTop (mkF m 133 #[.val (.int p1), .val (.int p2), .val (.int p3), .val (.int p4), .val (.int p5), .val (.int pp), .val (.int pt), .val (.int (p5 &&& (3 : Int32))), .val (.ref b107), .val (.ref b113), .val (.ref b149), .unset] [(.int pp), (.ref b113), (.ref b155), (.ref b155)])) _
      refine XS.aload X155.here hx rfl (hb hby at_133) rfl rfl ?_
      exact kt)
    obtain ⟨_, _, ⟨T160, L160, k160, n160⟩, -, X160, hSi160, hgr160, ⟨Lc160, hQ160, l160, y160, z160⟩, st160⟩ := X155.specialBackS hx (y := (⟨"com/example/allot/allot/partition/Topic", "<init>", "(Ljava/lang/String;I[I)V"⟩ : MethodName)) rfl hown (mvT hZ (hw _ (List.mem_of_getElem? (i := 39) rfl))) (mvT hZ (hw _ (List.mem_of_getElem? (i := 40) rfl))) (mvT hZ (hw _ (List.mem_of_getElem? (i := 41) rfl))) (by decide) (backOfS (W := 1)  (rmT1 l Z a0 hw [] b155 b113 pp b149 k149 pt h155 n0 sz155 A155 F155_name F155_partitions F155_unavailable gb155 f157 f158 (Ne.symm ne155_b149) hp1 hq3.1 hq3.2) hZ (hw _ (List.mem_of_getElem? (i := 41) rfl)) (hw _ (List.mem_of_getElem? (i := 38) rfl)) (by decide) (by decide)) (g := (mkF m 135 #[.val (.int p1), .val (.int p2), .val (.int p3), .val (.int p4), .val (.int p5), .val (.int pp), .val (.int pt), .val (.int (p5 &&& (3 : Int32))), .val (.ref b107), .val (.ref b113), .val (.ref b149), .unset] [(.ref b149), (.int pp), (.ref b113), (.ref b155), (.ref b155)])) rfl (by rw [hml]; rfl) (Steps.refl _) (a := b155) (argsL := [(.ref b113), (.int pp), (.ref b149)]) (rest := [(.ref b155)]) (lenOf pd__Ljava_lang_String_I_I_V rfl) rfl (by show 2 * 0 + _ ≤ _; exact Nat.le_of_eq rfl) (hb hby at_135) (fun _ _ => ⟨rfl, e155, (by decide : 5 + 7 ≤ _), (by decide : 10 + 157 ≤ _)⟩)
    dsimp only [Pt.U, Pt.locs, Pt.cells, Pt.slots] at X160 l160 y160 z160 st160 hQ160
    subst l160 y160 z160
    dsimp only [Pt.U, Pt.locs, Pt.cells, Pt.slots] at hSi160 hgr160
    obtain ⟨X160, hS160, hZ, hown⟩ := rebS hS0 (by rw [e155]; exact hk155) X160 hSi160 hgr160 hZ hown
    obtain ⟨rfl, Nq160, K160x, Ex160, Fnx160, Fpx160, -⟩ := hQ160
    have N160 := Fr.app N152 Nq160
    have sz160 : n0 ≤ T160.heap.size := Nat.le_trans sz155 K160x.1
    have P161 : ∀ t, Steps p.tables e below (T160.setTop (mkF m 144 #[.val (.int p1), .val (.int p2), .val (.int p3), .val (.int p4), .val (.int p5), .val (.int pp), .val (.int pt), .val (.int (p5 &&& (3 : Int32))), .val (.ref b107), .val (.ref b113), .val (.ref b149), .val (.ref b155)] [(.int pt), (.ref b155)])) t → Steps p.tables e below (s₁.setTop (entryFrame m #[(.int p1), (.int p2), (.int p3), (.int p4), (.int p5)] maxLocals)) t := fun t kt => P159 t (by
      show Steps p.tables e below (T155.setTop (mkF m 135 #[.val (.int p1), .val (.int p2), .val (.int p3), .val (.int p4), .val (.int p5), .val (.int pp), .val (.int pt), .val (.int (p5 &&& (3 : Int32))), .val (.ref b107), .val (.ref b113), .val (.ref b149), .unset] [(.ref b149), (.int pp), (.ref b113), (.ref b155), (.ref b155)])) _
      refine st160.trans ?_
      show Steps p.tables e below (T160.setTop (mkF m 138 #[.val (.int p1), .val (.int p2), .val (.int p3), .val (.int p4), .val (.int p5), .val (.int pp), .val (.int pt), .val (.int (p5 &&& (3 : Int32))), .val (.ref b107), .val (.ref b113), .val (.ref b149), .unset] [(.ref b155)])) _
      refine XS.astore X160.here hx rfl (hb hby at_138) rfl rfl (l' := #[.val (.int p1), .val (.int p2), .val (.int p3), .val (.int p4), .val (.int p5), .val (.int pp), .val (.int pt), .val (.int (p5 &&& (3 : Int32))), .val (.ref b107), .val (.ref b113), .val (.ref b149), .val (.ref b155)]) rfl ?_
      show Steps p.tables e below (T160.setTop (mkF m 140 #[.val (.int p1), .val (.int p2), .val (.int p3), .val (.int p4), .val (.int p5), .val (.int pp), .val (.int pt), .val (.int (p5 &&& (3 : Int32))), .val (.ref b107), .val (.ref b113), .val (.ref b149), .val (.ref b155)] [])) _
      refine XS.aload X160.here hx rfl (hb hby at_140) rfl rfl ?_
      show Steps p.tables e below (T160.setTop (mkF m 142 #[.val (.int p1), .val (.int p2), .val (.int p3), .val (.int p4), .val (.int p5), .val (.int pp), .val (.int pt), .val (.int (p5 &&& (3 : Int32))), .val (.ref b107), .val (.ref b113), .val (.ref b149), .val (.ref b155)] [(.ref b155)])) _
      refine XS.iload X160.here hx rfl (hb hby at_142) rfl ?_
      exact kt)
    obtain ⟨cq162, kq162, q162a, q162b, q162c⟩ := isOf hZ rfl Ex160
    obtain ⟨_, _, ⟨T162, L162, k162, n162⟩, -, X162, hSi162, hgr162, ⟨Lc162, hQ162, l162, y162, z162⟩, st162⟩ := X160.virtualBackS hx (y := (⟨"com/example/allot/allot/partition/Topic", "checked", "(I)I"⟩ : MethodName)) (z := (⟨"com/example/allot/allot/partition/Topic", "checked", "(I)I"⟩ : MethodName)) hown (mvT hZ (hw _ (List.mem_of_getElem? (i := 85) rfl))) (mvT hZ (hw _ (List.mem_of_getElem? (i := 86) rfl))) (notFace_of_selects (args := #[]) (mvT hZ (hw _ (List.mem_of_getElem? (i := 88) rfl)))) (mvT hZ (hw _ (List.mem_of_getElem? (i := 88) rfl))) (mvT hZ (hw _ (List.mem_of_getElem? (i := 87) rfl))) (by decide) (backOfS (W := 0)  (rmCK l Z a0 hw [] b155 pt b113 pp T160.heap n0 sz160 Fnx160 Fpx160 hq3.1 hq3.2) hZ (hw _ (List.mem_of_getElem? (i := 89) rfl)) (hw _ (List.mem_of_getElem? (i := 38) rfl)) (by decide) (by decide)) q162a q162c (g := (mkF m 144 #[.val (.int p1), .val (.int p2), .val (.int p3), .val (.int p4), .val (.int p5), .val (.int pp), .val (.int pt), .val (.int (p5 &&& (3 : Int32))), .val (.ref b107), .val (.ref b113), .val (.ref b149), .val (.ref b155)] [(.int pt), (.ref b155)])) rfl (by rw [hml]; rfl) (Steps.refl _) (argsL := [(.int pt)]) (rest := []) (lenOf pd__I_I rfl) rfl (by show 2 * 0 + _ ≤ _; exact Nat.le_of_eq rfl) (hb hby at_144) (fun _ _ => ⟨rfl, rfl, (by decide : 12 + 2 ≤ _), (by decide : 167 + 40 ≤ _)⟩)
    dsimp only [Pt.U, Pt.locs, Pt.cells, Pt.slots] at X162 l162 y162 z162 st162 hQ162
    subst l162 y162 z162
    dsimp only [Pt.U, Pt.locs, Pt.cells, Pt.slots] at hSi162 hgr162
    obtain ⟨X162, hS162, hZ, hown⟩ := rebS hS160 (Nat.le_refl _) X162 hSi162 hgr162 hZ hown
    obtain ⟨rfl, Nq162⟩ := hQ162
    have N162 := Fr.app N160 Nq162
    have P163 : ∀ t, Steps p.tables e below (T162.setTop (mkF m 157 #[.val (.int p1), .val (.int p2), .val (.int p3), .val (.int p4), .val (.int p5), .val (.int pp), .val (.int pt), .val (.int (p5 &&& (3 : Int32))), .val (.ref b107), .val (.ref b113), .val (.ref b149), .val (.ref b155)] [(.int (1 : Int32))])) t → Steps p.tables e below (s₁.setTop (entryFrame m #[(.int p1), (.int p2), (.int p3), (.int p4), (.int p5)] maxLocals)) t := fun t kt => P161 t (by
      show Steps p.tables e below (T160.setTop (mkF m 144 #[.val (.int p1), .val (.int p2), .val (.int p3), .val (.int p4), .val (.int p5), .val (.int pp), .val (.int pt), .val (.int (p5 &&& (3 : Int32))), .val (.ref b107), .val (.ref b113), .val (.ref b149), .val (.ref b155)] [(.int pt), (.ref b155)])) _
      refine st162.trans ?_
      show Steps p.tables e below (T162.setTop (mkF m 147 #[.val (.int p1), .val (.int p2), .val (.int p3), .val (.int p4), .val (.int p5), .val (.int pp), .val (.int pt), .val (.int (p5 &&& (3 : Int32))), .val (.ref b107), .val (.ref b113), .val (.ref b149), .val (.ref b155)] [(.int pt)])) _
      refine XS.iload X162.here hx rfl (hb hby at_147) rfl ?_
      show Steps p.tables e below (T162.setTop (mkF m 149 #[.val (.int p1), .val (.int p2), .val (.int p3), .val (.int p4), .val (.int p5), .val (.int pp), .val (.int pt), .val (.int (p5 &&& (3 : Int32))), .val (.ref b107), .val (.ref b113), .val (.ref b149), .val (.ref b155)] [(.int pt), (.int pt)])) _
      refine XS.icmpNo X162.here hx rfl (hb hby at_149) rfl (teq (rfl : pt = pt)).2 ?_
      show Steps p.tables e below (T162.setTop (mkF m 152 #[.val (.int p1), .val (.int p2), .val (.int p3), .val (.int p4), .val (.int p5), .val (.int pp), .val (.int pt), .val (.int (p5 &&& (3 : Int32))), .val (.ref b107), .val (.ref b113), .val (.ref b149), .val (.ref b155)] [])) _
      refine XS.iconst X162.here hx rfl (hb hby at_152) ?_
      show Steps p.tables e below (T162.setTop (mkF m 153 #[.val (.int p1), .val (.int p2), .val (.int p3), .val (.int p4), .val (.int p5), .val (.int pp), .val (.int pt), .val (.int (p5 &&& (3 : Int32))), .val (.ref b107), .val (.ref b113), .val (.ref b149), .val (.ref b155)] [(.int (1 : Int32))])) _
      refine XS.goto X162.here hx rfl (pc0 := 153) (pc' := 157) rfl (hb hby at_153) (by decide) (by decide) ?_
      exact kt)
    obtain ⟨fs, hr, hrun, hended, hE1, hE2, hE3, hE4⟩ := X162.leaveW hS162 (Nat.le_refl _) (v := some (.int (1 : Int32))) (fun h => by rw [Bd.returns] at h; cases h) (hlocks := hlk)
    refine ⟨_, _, P163 _ ?_, hrun, hended, _, _, rfl, ?_, hE1, hE2, hE3, hE4.mono (by decide) (by decide)⟩
    · show Steps p.tables e below (T162.setTop (mkF m 157 #[.val (.int p1), .val (.int p2), .val (.int p3), .val (.int p4), .val (.int p5), .val (.int pp), .val (.int pt), .val (.int (p5 &&& (3 : Int32))), .val (.ref b107), .val (.ref b113), .val (.ref b149), .val (.ref b155)] [(.int (1 : Int32))])) _
      exact retN X162 hx (t := .boolean) Bd.returns (by simp) (hb hby at_157) hr
    · show Q0 n0 _ T162.heap _
      exact ⟨rfl, N162⟩
set_option maxRecDepth 65536 in
set_option maxHeartbeats 40000000 in
theorem comes_1 {Post : Tables → Env → Array Value → State → Outcome → State → Prop} (hpost : ∀ tb e args s v u, (limb_1_1.after args s (.returned v) u = true ∧ limb_1_2.after args s (.returned v) u = true ∧ True) → FramedW s (.returned v) u (Jvm.fieldLocs frame_1_writes args s ++ Jvm.arrayLocs frame_1_arrays args s ++ Jvm.staticLocs frame_1_statics s) 32 4224 → Post tb e args s (.returned v) u) :
    ArmFor flags0 classFile x code maxLocals ret World_1 tables_1 room_1 Calls_1 rest_1 Pre_1 Post := by
  intro l hfl _ _ p e ha hc hk s m args below hf hA hF happ hP
  obtain ⟨hcalls, hrest, hpre⟩ := hP
  obtain ⟨-, -, -, hnamed, -, -, -, hat⟩ := (Spec.applies_iff hf).mp happ
  obtain ⟨hg, hn⟩ := and_e (Cond.before_iff.mp (show (Jvm.Cond.and given_1 narrow_1).before args s = true from hpre))
  obtain ⟨g1, g2⟩ := and_e hg
  obtain ⟨g3, g4⟩ := and_e g2
  obtain ⟨g5, g6⟩ := and_e g4
  obtain ⟨g7, g8⟩ := and_e g6
  obtain ⟨g9, g10⟩ := and_e g8
  obtain ⟨w0, w1, w2, w3, w4, rfl⟩ : ∃ w0 w1 w2 w3 w4 : Value, args = #[w0, w1, w2, w3, w4] := by
    have hs : args.size = 5 := by simpa [Cond.value, given_1] using g1
    obtain ⟨L⟩ := args
    match L, hs with
    | [w0, w1, w2, w3, w4], _ => exact ⟨w0, w1, w2, w3, w4, rfl⟩
  have hw := fun d (hd : d ∈ tables_1) => atoms_spec (ws := Jvm.Cond.code x code maxLocals ret :: tables_1) hat d (List.mem_cons_of_mem _ hd)
  obtain ⟨hsets, hown0⟩ := atoms_of _ (rest_1_c_eq ▸ (show rest_1_c.before _ s = true from hrest))
  obtain ⟨i0, ei0⟩ := is_v g3
  obtain rfl : w0 = (.int i0) := Option.some.inj ei0
  obtain ⟨i1, ei1⟩ := is_v g5
  obtain rfl : w1 = (.int i1) := Option.some.inj ei1
  obtain ⟨i2, ei2⟩ := is_v g7
  obtain rfl : w2 = (.int i2) := Option.some.inj ei2
  obtain ⟨i3, ei3⟩ := is_v g9
  obtain rfl : w3 = (.int i3) := Option.some.inj ei3
  obtain ⟨i4, ei4⟩ := is_v g10
  obtain rfl : w4 = (.int i4) := Option.some.inj ei4
  obtain ⟨zc, ezc⟩ := is_v (Cond.before_iff.mp (hsets _ (List.mem_of_getElem? (i := 1) rfl)))
  have SC : Sta s s.heap "java/lang/String" "COMPACT_STRINGS" "Z" (.int zc) := Sta.start ezc (Or.inl (hsets _ (List.mem_of_getElem? (i := 0) rfl)))
  have hzc : ¬ (zc = (0 : Int32)) := gotF (Cond.eq_ints ezc (Term.int_eval (0))) (not_v (Cond.before_iff.mp (hsets _ (List.mem_of_getElem? (i := 2) rfl))))
  obtain ⟨n, o, h1, h2, h3, _, L, rfl, ⟨rfl, N⟩, hq⟩ := rm0 l s _ hw tables_1 i0 i1 i2 i3 i4 zc s.heap s.heap.size (Nat.le_refl _) SC hzc  p e ha hc hk s m _ below hf ((Spec.applies_iff_loose hf).mp happ).1 ⟨rfl, State.Warmed39.refl s, rfl⟩ trivial
  refine ⟨n, _, h1, h2, h3, hpost _ _ _ _ _ _ ⟨Cond.after_iff.mpr rfl, Cond.after_iff.mpr (eq_i res_at (Term.int_eval (1)) rfl), trivial⟩ ⟨hq.1, hq.2.1, hq.2.2.1, (hq.2.2.2.sift fun y hy => Or.inr (N y hy)).mono (by decide) (by decide)⟩⟩
theorem main_1_1 : Claimed_1_1 := comes_1 fun _ _ _ _ _ _ h hF => ⟨h.1, hF⟩
theorem main_1_2 : Claimed_1_2 := comes_1 fun _ _ _ _ _ _ h hF => ⟨h.2.1, hF⟩
end Jvm.Pilot.@@N@@
namespace Jvm.Pilot.@@N@@
open Jvm Jvm.ClassFile Sem Op Lib Jvm.Free Jvm.Stand Jvm.Pilot.@@N@@.Jvm.D
/-! MADE BY PROGRAM (witnessworld.py) out of the Statement's table words and the real class files: 25 classes; the members and pool entries that the words name. The judged class is class 1, her method 1. -/
namespace start1
open Jvm.ClassFile
def u (s : String) : CpInfo := .utf8 (stringToUtf16 s)
/-- a pool by its gaps: so many unusable entries, then the entry; so many at the end -/
def gap : Nat → List CpInfo → List CpInfo
  | 0, r => r
  | n + 1, r => .unusable :: gap n r
def poolList (es : List (Nat × CpInfo)) (last : Nat) : List CpInfo := es.foldr (fun e r => gap e.1 (e.2 :: r)) (gap last [])
def pool (es : List (Nat × CpInfo)) (last : Nat) : Array CpInfo := ⟨poolList es last⟩
def fileOf (pool : Array CpInfo) (this : Nat) (attrs : Array Attribute := #[]) (ms : Array MethodInfo := #[]) (fl : Nat := 33) (sup : Nat := 0) (ifs : Array Nat := #[]) (fds : Array FieldInfo := #[]) : ClassFile where
  minorVersion := 0
  majorVersion := 65
  constantPool := pool
  accessFlags := fl
  thisClass := this
  superClass := sup
  interfaces := ifs
  fields := fds
  methods := ms
  attributes := attrs
def plain (name : String) (sup : Option ClassId) : Class where
  name := name
  kind := .ordinary
  loader := none
  accessFlags := 33
  super := sup
  interfaces := #[]
  cf := none
  fields := #[]
  methods := #[]
  instanceTypes := #[]
  staticTypes := #[]
  resolved := #[]
  callSites := []
  init := .initialized
  statics := none
  mirror := none

def pool0 : Array CpInfo := pool [(5, u "<init>"), (0, u "()V"), (1, .class_ 10), (1, u "java/lang/Object"), (85, u "clone"), (0, u "()Ljava/lang/Object;")] 26

def k0c0 : Code := { maxStack := 0, maxLocals := 1, code := object_method_1_code, exceptionTable := #[], attributes := #[] }
def k0m0 : Method := { name := "<init>", desc := "()V", sig := { parameters := [], returnType := none }, accessFlags := 1, code := some k0c0 }
def k0m1 : Method := { name := "clone", desc := "()Ljava/lang/Object;", sig := { parameters := [], returnType := some (.object "java/lang/Object") }, accessFlags := 260, code := none }
/-- java/lang/Object -/
def k0 : Class := { plain "java/lang/Object" none with
  accessFlags := 33
  interfaces := #[]
  cf := some (fileOf pool0 8 #[] #[{ accessFlags := 1, nameIndex := 5, descriptorIndex := 6, attributes := #[] }, { accessFlags := 260, nameIndex := 96, descriptorIndex := 97, attributes := #[] }] 33 0 #[] #[])
  fields := #[]
  methods := #[k0m0, k0m1]
  instanceTypes := #[]
  staticTypes := #[]
  resolved := Array.replicate 124 none
  statics := none }

def pool1 : Array CpInfo := pool [(2, .class_ 4), (1, u "java/lang/Object"), (0, u "<init>"), (0, u "()V"), (0, .integer 2147483647), (0, .methodref 9 10), (0, .class_ 11), (0, .nameAndType 12 13), (0, u "java/lang/Math"), (0, u "max"), (0, u "(II)I"), (0, .class_ 15), (0, u "java/lang/String"), (0, .methodref 14 17), (0, .nameAndType 5 18), (0, u "([C)V"), (0, .class_ 20), (0, u "com/example/allot/allot/partition/Topic"), (0, .methodref 19 22), (0, .nameAndType 5 23), (0, u "(Ljava/lang/String;I[I)V"), (0, .methodref 19 25), (0, .nameAndType 26 27), (0, u "checked"), (0, u "(I)I"), (0, .class_ 29), (0, u "com/example/allot/allot/partition/TopicCheckedPinLaw"), (2, u "law"), (0, u "(IIIII)Z")] 7

def k1m0 : Method := { name := "<init>", desc := "()V", sig := { parameters := [], returnType := none }, accessFlags := 1, code := none }
def k1c1 : Code := { maxStack := 5, maxLocals := 12, code := code, exceptionTable := #[], attributes := #[] }
def k1m1 : Method := { name := "law", desc := "(IIIII)Z", sig := { parameters := [.int, .int, .int, .int, .int], returnType := some .boolean }, accessFlags := 9, code := some k1c1 }
/-- com/example/allot/allot/partition/TopicCheckedPinLaw -/
def k1 : Class := { plain "com/example/allot/allot/partition/TopicCheckedPinLaw" (some 0) with
  accessFlags := 49
  interfaces := #[]
  cf := some (fileOf pool1 28 #[] #[{ accessFlags := 1, nameIndex := 5, descriptorIndex := 6, attributes := #[] }, { accessFlags := 9, nameIndex := 32, descriptorIndex := 33, attributes := #[] }] 49 2 #[] #[])
  fields := #[]
  methods := #[k1m0, k1m1]
  instanceTypes := #[]
  staticTypes := #[]
  resolved := Array.replicate 41 none
  statics := none }

def pool2 : Array CpInfo := pool [(1, .class_ 2), (0, u "java/lang/Math"), (1, .class_ 6), (1, u "java/lang/Object"), (0, u "<init>"), (0, u "()V"), (89, .class_ 100), (1, u "java/lang/Math$RandomNumberGeneratorHolder"), (71, u "negativeZeroFloatBits"), (0, u "J"), (2, u "negativeZeroDoubleBits"), (21, u "max"), (46, u "$assertionsDisabled"), (0, u "Z"), (88, u "(II)I"), (2, u "twoToTheDoubleScaleDown"), (0, u "D"), (4, u "twoToTheDoubleScaleUp"), (9, u "E"), (3, u "PI"), (2, u "TAU"), (2, u "DEGREES_TO_RADIANS"), (0, u "RADIANS_TO_DEGREES")] 94

def k2m0 : Method := { name := "<init>", desc := "()V", sig := { parameters := [], returnType := none }, accessFlags := 2, code := none }
def k2c1 : Code := { maxStack := 2, maxLocals := 2, code := jdk_29_method_65_code, exceptionTable := #[], attributes := #[] }
def k2m1 : Method := { name := "max", desc := "(II)I", sig := { parameters := [.int, .int], returnType := some .int }, accessFlags := 9, code := some k2c1 }
/-- java/lang/Math -/
def k2 : Class := { plain "java/lang/Math" (some 0) with
  accessFlags := 49
  interfaces := #[]
  cf := some (fileOf pool2 1 #[.nestMembers #[98]] #[{ accessFlags := 2, nameIndex := 7, descriptorIndex := 8, attributes := #[] }, { accessFlags := 9, nameIndex := 198, descriptorIndex := 335, attributes := #[] }] 49 4 #[] #[{ accessFlags := 25, nameIndex := 354, descriptorIndex := 339, attributes := #[] }, { accessFlags := 25, nameIndex := 358, descriptorIndex := 339, attributes := #[] }, { accessFlags := 25, nameIndex := 361, descriptorIndex := 339, attributes := #[] }, { accessFlags := 26, nameIndex := 364, descriptorIndex := 339, attributes := #[] }, { accessFlags := 26, nameIndex := 365, descriptorIndex := 339, attributes := #[] }, { accessFlags := 26, nameIndex := 172, descriptorIndex := 173, attributes := #[] }, { accessFlags := 26, nameIndex := 176, descriptorIndex := 173, attributes := #[] }, { accessFlags := 8, nameIndex := 344, descriptorIndex := 339, attributes := #[] }, { accessFlags := 8, nameIndex := 338, descriptorIndex := 339, attributes := #[] }, { accessFlags := 4120, nameIndex := 245, descriptorIndex := 246, attributes := #[] }])
  fields := #[{ name := "E", type := .double, accessFlags := 25, slot := 0, constantValue := 0 }, { name := "PI", type := .double, accessFlags := 25, slot := 1, constantValue := 0 }, { name := "TAU", type := .double, accessFlags := 25, slot := 2, constantValue := 0 }, { name := "DEGREES_TO_RADIANS", type := .double, accessFlags := 26, slot := 3, constantValue := 0 }, { name := "RADIANS_TO_DEGREES", type := .double, accessFlags := 26, slot := 4, constantValue := 0 }, { name := "negativeZeroFloatBits", type := .long, accessFlags := 26, slot := 5, constantValue := 0 }, { name := "negativeZeroDoubleBits", type := .long, accessFlags := 26, slot := 6, constantValue := 0 }, { name := "twoToTheDoubleScaleUp", type := .double, accessFlags := 8, slot := 7, constantValue := 0 }, { name := "twoToTheDoubleScaleDown", type := .double, accessFlags := 8, slot := 8, constantValue := 0 }, { name := "$assertionsDisabled", type := .boolean, accessFlags := 4120, slot := 9, constantValue := 0 }]
  methods := #[k2m0, k2m1]
  instanceTypes := #[]
  staticTypes := #[.double, .double, .double, .double, .double, .long, .long, .double, .double, .boolean]
  resolved := Array.replicate 460 none
  statics := none }

def pool3 : Array CpInfo := pool [(1, .class_ 2), (0, u "java/io/Serializable"), (0, .class_ 4), (0, u "java/lang/Object")] 2

/-- java/io/Serializable -/
def k3 : Class := { plain "java/io/Serializable" (some 0) with
  accessFlags := 1537
  interfaces := #[]
  cf := some (fileOf pool3 1 #[] #[] 1537 3 #[] #[])
  fields := #[]
  methods := #[]
  instanceTypes := #[]
  staticTypes := #[]
  resolved := Array.replicate 7 none
  statics := none }

def pool4 : Array CpInfo := pool [(1, .class_ 2), (0, u "java/lang/Comparable"), (0, .class_ 4), (0, u "java/lang/Object")] 7

/-- java/lang/Comparable -/
def k4 : Class := { plain "java/lang/Comparable" (some 0) with
  accessFlags := 1537
  interfaces := #[]
  cf := some (fileOf pool4 1 #[] #[] 1537 3 #[] #[])
  fields := #[]
  methods := #[]
  instanceTypes := #[]
  staticTypes := #[]
  resolved := Array.replicate 12 none
  statics := none }

def pool5 : Array CpInfo := pool [(2, .class_ 4), (1, u "java/lang/CharSequence"), (42, .class_ 48), (0, u "java/lang/CharSequence$1CodePointIterator"), (10, .class_ 60), (0, u "java/lang/CharSequence$1CharIterator"), (5, .class_ 67), (0, u "java/lang/Object")] 63

/-- java/lang/CharSequence -/
def k5 : Class := { plain "java/lang/CharSequence" (some 0) with
  accessFlags := 1537
  interfaces := #[]
  cf := some (fileOf pool5 2 #[.nestMembers #[47, 59]] #[] 1537 66 #[] #[])
  fields := #[]
  methods := #[]
  instanceTypes := #[]
  staticTypes := #[]
  resolved := Array.replicate 131 none
  statics := none }

def pool6 : Array CpInfo := pool [(1, .class_ 2), (0, u "java/lang/constant/Constable"), (0, .class_ 4), (0, u "java/lang/Object")] 6

/-- java/lang/constant/Constable -/
def k6 : Class := { plain "java/lang/constant/Constable" (some 0) with
  accessFlags := 1537
  interfaces := #[]
  cf := some (fileOf pool6 1 #[] #[] 1537 3 #[] #[])
  fields := #[]
  methods := #[]
  instanceTypes := #[]
  staticTypes := #[]
  resolved := Array.replicate 11 none
  statics := none }

def pool7 : Array CpInfo := pool [(1, .class_ 2), (0, u "java/lang/constant/ConstantDesc"), (0, .class_ 4), (0, u "java/lang/Object")] 32

/-- java/lang/constant/ConstantDesc -/
def k7 : Class := { plain "java/lang/constant/ConstantDesc" (some 0) with
  accessFlags := 1537
  interfaces := #[]
  cf := some (fileOf pool7 1 #[] #[] 1537 3 #[] #[])
  fields := #[]
  methods := #[]
  instanceTypes := #[]
  staticTypes := #[]
  resolved := Array.replicate 37 none
  statics := none }

def pool8 : Array CpInfo := pool [(1, .methodref 2 3), (0, .class_ 4), (0, .nameAndType 5 6), (0, u "java/lang/Object"), (0, u "<init>"), (0, u "()V"), (2, .fieldref 10 11), (0, .class_ 12), (0, .nameAndType 13 14), (0, u "java/lang/String"), (0, u "value"), (0, u "[B"), (0, .fieldref 10 16), (0, .nameAndType 17 18), (0, u "coder"), (0, u "B"), (2, u "hash"), (0, u "I"), (2, u "hashIsZero"), (0, u "Z"), (0, .methodref 10 28), (0, .nameAndType 5 29), (0, u "([CIILjava/lang/Void;)V"), (8, .fieldref 10 39), (0, .nameAndType 40 26), (0, u "COMPACT_STRINGS"), (1, .class_ 44), (1, u "java/lang/StringUTF16"), (0, u "compress"), (1, .methodref 42 48), (0, .nameAndType 49 50), (0, u "coderFromArrayLen"), (0, u "([BI)B"), (126, .methodref 42 178), (0, .nameAndType 45 179), (0, u "([CII)[B"), (395, .class_ 576), (0, u "java/lang/CharSequence"), (22, u "CASE_INSENSITIVE_ORDER"), (0, u "Ljava/util/Comparator;"), (409, u "([C)V"), (90, u "serialPersistentFields"), (0, u "[Ljava/io/ObjectStreamField;"), (0, .class_ 1104), (0, u "java/lang/String$CaseInsensitiveComparator"), (1, .class_ 1107), (0, u "java/io/Serializable"), (0, .class_ 1109), (0, u "java/lang/Comparable"), (0, .class_ 1111), (0, u "java/lang/constant/Constable"), (0, .class_ 1113), (0, u "java/lang/constant/ConstantDesc"), (2, u "serialVersionUID"), (0, u "J"), (3, u "REPL"), (0, u "C"), (2, u "LATIN1"), (1, u "UTF16")] 323

def k8m0 : Method := { name := "<init>", desc := "()V", sig := { parameters := [], returnType := none }, accessFlags := 1, code := none }
def k8c1 : Code := { maxStack := 5, maxLocals := 2, code := jdk_42_method_3_code, exceptionTable := #[], attributes := #[] }
def k8m1 : Method := { name := "<init>", desc := "([C)V", sig := { parameters := [(.array .char)], returnType := none }, accessFlags := 1, code := some k8c1 }
def k8c2 : Code := { maxStack := 4, maxLocals := 6, code := jdk_42_method_149_code, exceptionTable := #[], attributes := #[] }
def k8m2 : Method := { name := "<init>", desc := "([CIILjava/lang/Void;)V", sig := { parameters := [(.array .char), .int, .int, (.object "java/lang/Void")], returnType := none }, accessFlags := 2, code := some k8c2 }
/-- java/lang/String -/
def k8 : Class := { plain "java/lang/String" (some 0) with
  accessFlags := 49
  interfaces := #[3, 4, 5, 6, 7]
  cf := some (fileOf pool8 10 #[.nestMembers #[1103]] #[{ accessFlags := 1, nameIndex := 5, descriptorIndex := 6, attributes := #[] }, { accessFlags := 1, nameIndex := 5, descriptorIndex := 1010, attributes := #[] }, { accessFlags := 2, nameIndex := 5, descriptorIndex := 29, attributes := #[] }] 49 2 #[1106, 1108, 575, 1110, 1112] #[{ accessFlags := 18, nameIndex := 13, descriptorIndex := 14, attributes := #[] }, { accessFlags := 18, nameIndex := 17, descriptorIndex := 18, attributes := #[] }, { accessFlags := 2, nameIndex := 21, descriptorIndex := 22, attributes := #[] }, { accessFlags := 2, nameIndex := 25, descriptorIndex := 26, attributes := #[] }, { accessFlags := 26, nameIndex := 1116, descriptorIndex := 1117, attributes := #[] }, { accessFlags := 24, nameIndex := 40, descriptorIndex := 26, attributes := #[] }, { accessFlags := 26, nameIndex := 1101, descriptorIndex := 1102, attributes := #[] }, { accessFlags := 26, nameIndex := 1121, descriptorIndex := 1122, attributes := #[] }, { accessFlags := 25, nameIndex := 599, descriptorIndex := 600, attributes := #[] }, { accessFlags := 24, nameIndex := 1125, descriptorIndex := 18, attributes := #[] }, { accessFlags := 24, nameIndex := 1127, descriptorIndex := 18, attributes := #[] }])
  fields := #[{ name := "value", type := (.array .byte), accessFlags := 18, slot := 0, constantValue := 0 }, { name := "coder", type := .byte, accessFlags := 18, slot := 1, constantValue := 0 }, { name := "hash", type := .int, accessFlags := 2, slot := 2, constantValue := 0 }, { name := "hashIsZero", type := .boolean, accessFlags := 2, slot := 3, constantValue := 0 }, { name := "serialVersionUID", type := .long, accessFlags := 26, slot := 0, constantValue := 0 }, { name := "COMPACT_STRINGS", type := .boolean, accessFlags := 24, slot := 1, constantValue := 0 }, { name := "serialPersistentFields", type := (.array (.object "java/io/ObjectStreamField")), accessFlags := 26, slot := 2, constantValue := 0 }, { name := "REPL", type := .char, accessFlags := 26, slot := 3, constantValue := 0 }, { name := "CASE_INSENSITIVE_ORDER", type := (.object "java/util/Comparator"), accessFlags := 25, slot := 4, constantValue := 0 }, { name := "LATIN1", type := .byte, accessFlags := 24, slot := 5, constantValue := 0 }, { name := "UTF16", type := .byte, accessFlags := 24, slot := 6, constantValue := 0 }]
  methods := #[k8m0, k8m1, k8m2]
  instanceTypes := #[(.array .byte), .byte, .int, .boolean]
  staticTypes := #[.long, .boolean, (.array (.object "java/io/ObjectStreamField")), .char, (.object "java/util/Comparator"), .byte, .byte]
  resolved := Array.replicate 1451 none
  statics := some 0 }

def pool9 : Array CpInfo := pool [(6, .class_ 8), (1, u "java/lang/Object"), (0, u "<init>"), (0, u "()V"), (1, .class_ 14), (1, u "java/lang/StringUTF16"), (31, u "$assertionsDisabled"), (0, u "Z"), (13, u "HI_BYTE_SHIFT"), (0, u "I"), (2, u "LO_BYTE_SHIFT"), (49, .methodref 12 116), (0, .nameAndType 117 118), (0, u "compress"), (0, u "([CI[BII)I"), (3, u "([CII)[B"), (138, u "coderFromArrayLen"), (0, u "([BI)B"), (106, .class_ 371), (1, u "java/lang/StringUTF16$LinesSpliterator"), (58, u "MAX_LENGTH"), (196, .class_ 628), (0, u "java/lang/StringUTF16$CodePointsSpliterator"), (0, .class_ 630), (0, u "java/lang/StringUTF16$CharsSpliterator")] 4

def k9m0 : Method := { name := "<init>", desc := "()V", sig := { parameters := [], returnType := none }, accessFlags := 0, code := none }
def k9c1 : Code := { maxStack := 2, maxLocals := 2, code := jdk_52_method_15_code, exceptionTable := #[], attributes := #[] }
def k9m1 : Method := { name := "coderFromArrayLen", desc := "([BI)B", sig := { parameters := [(.array .byte), .int], returnType := some .byte }, accessFlags := 8, code := some k9c1 }
def k9c2 : Code := { maxStack := 5, maxLocals := 6, code := jdk_52_method_16_code, exceptionTable := #[], attributes := #[] }
def k9m2 : Method := { name := "compress", desc := "([CII)[B", sig := { parameters := [(.array .char), .int, .int], returnType := some (.array .byte) }, accessFlags := 9, code := some k9c2 }
def k9c3 : Code := { maxStack := 3, maxLocals := 7, code := jdk_52_method_21_code, exceptionTable := #[], attributes := #[] }
def k9m3 : Method := { name := "compress", desc := "([CI[BII)I", sig := { parameters := [(.array .char), .int, (.array .byte), .int, .int], returnType := some .int }, accessFlags := 9, code := some k9c3 }
/-- java/lang/StringUTF16 -/
def k9 : Class := { plain "java/lang/StringUTF16" (some 0) with
  accessFlags := 48
  interfaces := #[]
  cf := some (fileOf pool9 12 #[.nestMembers #[627, 629, 369]] #[{ accessFlags := 0, nameIndex := 9, descriptorIndex := 10, attributes := #[] }, { accessFlags := 8, nameIndex := 261, descriptorIndex := 262, attributes := #[] }, { accessFlags := 9, nameIndex := 117, descriptorIndex := 122, attributes := #[] }, { accessFlags := 9, nameIndex := 117, descriptorIndex := 118, attributes := #[] }] 48 6 #[] #[{ accessFlags := 26, nameIndex := 61, descriptorIndex := 62, attributes := #[] }, { accessFlags := 26, nameIndex := 65, descriptorIndex := 62, attributes := #[] }, { accessFlags := 24, nameIndex := 430, descriptorIndex := 62, attributes := #[] }, { accessFlags := 4120, nameIndex := 46, descriptorIndex := 47, attributes := #[] }])
  fields := #[{ name := "HI_BYTE_SHIFT", type := .int, accessFlags := 26, slot := 0, constantValue := 0 }, { name := "LO_BYTE_SHIFT", type := .int, accessFlags := 26, slot := 1, constantValue := 0 }, { name := "MAX_LENGTH", type := .int, accessFlags := 24, slot := 2, constantValue := 0 }, { name := "$assertionsDisabled", type := .boolean, accessFlags := 4120, slot := 3, constantValue := 0 }]
  methods := #[k9m0, k9m1, k9m2, k9m3]
  instanceTypes := #[]
  staticTypes := #[.int, .int, .int, .boolean]
  resolved := Array.replicate 635 none
  statics := none }

def pool10 : Array CpInfo := pool [(1, .methodref 2 3), (0, .class_ 4), (0, .nameAndType 5 6), (0, u "java/lang/Object"), (0, u "<init>"), (0, u "()V"), (0, .class_ 8), (0, u "java/lang/Record")] 13

def k10c0 : Code := { maxStack := 1, maxLocals := 1, code := jdk_30_method_1_code, exceptionTable := #[], attributes := #[] }
def k10m0 : Method := { name := "<init>", desc := "()V", sig := { parameters := [], returnType := none }, accessFlags := 4, code := some k10c0 }
/-- java/lang/Record -/
def k10 : Class := { plain "java/lang/Record" (some 0) with
  accessFlags := 1057
  interfaces := #[]
  cf := some (fileOf pool10 7 #[] #[{ accessFlags := 4, nameIndex := 5, descriptorIndex := 6, attributes := #[] }] 1057 2 #[] #[])
  fields := #[]
  methods := #[k10m0]
  instanceTypes := #[]
  staticTypes := #[]
  resolved := Array.replicate 22 none
  statics := none }

def pool11 : Array CpInfo := pool [(1, .methodref 2 3), (0, .class_ 4), (0, .nameAndType 5 6), (0, u "java/lang/Record"), (0, u "<init>"), (0, u "()V"), (0, .string 8), (0, u "name"), (0, .methodref 10 11), (0, .class_ 12), (0, .nameAndType 13 14), (0, u "java/util/Objects"), (0, u "requireNonNull"), (0, u "(Ljava/lang/Object;Ljava/lang/String;)Ljava/lang/Object;"), (9, .string 25), (0, u "unavailable"), (0, .class_ 27), (0, u "[I"), (0, .methodref 26 29), (0, .nameAndType 30 31), (0, u "clone"), (0, u "()Ljava/lang/Object;"), (0, .methodref 33 34), (0, .class_ 35), (0, .nameAndType 36 37), (0, u "java/util/Arrays"), (0, u "sort"), (0, u "([I)V"), (0, .string 39), (0, u "unavailable partition"), (0, .methodref 41 42), (0, .class_ 43), (0, .nameAndType 44 45), (0, u "com/example/allot/allot/partition/Topic"), (0, u "requireOneOf"), (0, u "(Ljava/lang/String;ILjava/lang/String;I)V"), (1, .fieldref 41 48), (0, .nameAndType 8 49), (0, u "Ljava/lang/String;"), (0, .fieldref 41 51), (0, .nameAndType 52 53), (0, u "partitions"), (0, u "I"), (0, .fieldref 41 55), (0, .nameAndType 25 27), (32, .string 89), (0, u "partition"), (15, u "(Ljava/lang/String;I[I)V"), (6, u "checked"), (0, u "(I)I")] 28

def k11c0 : Code := { maxStack := 5, maxLocals := 5, code := prog_83_method_1_code, exceptionTable := #[], attributes := #[] }
def k11m0 : Method := { name := "<init>", desc := "(Ljava/lang/String;I[I)V", sig := { parameters := [(.object "java/lang/String"), .int, (.array .int)], returnType := none }, accessFlags := 129, code := some k11c0 }
def k11c1 : Code := { maxStack := 4, maxLocals := 2, code := prog_83_method_6_code, exceptionTable := #[], attributes := #[] }
def k11m1 : Method := { name := "checked", desc := "(I)I", sig := { parameters := [.int], returnType := some .int }, accessFlags := 0, code := some k11c1 }
def k11c2 : Code := { maxStack := 6, maxLocals := 4, code := prog_83_method_11_code, exceptionTable := #[], attributes := #[] }
def k11m2 : Method := { name := "requireOneOf", desc := "(Ljava/lang/String;ILjava/lang/String;I)V", sig := { parameters := [(.object "java/lang/String"), .int, (.object "java/lang/String"), .int], returnType := none }, accessFlags := 10, code := some k11c2 }
/-- com/example/allot/allot/partition/Topic -/
def k11 : Class := { plain "com/example/allot/allot/partition/Topic" (some 10) with
  accessFlags := 49
  interfaces := #[]
  cf := some (fileOf pool11 41 #[] #[{ accessFlags := 129, nameIndex := 5, descriptorIndex := 105, attributes := #[] }, { accessFlags := 0, nameIndex := 112, descriptorIndex := 113, attributes := #[] }, { accessFlags := 10, nameIndex := 44, descriptorIndex := 45, attributes := #[] }] 49 2 #[] #[{ accessFlags := 18, nameIndex := 8, descriptorIndex := 49, attributes := #[] }, { accessFlags := 18, nameIndex := 52, descriptorIndex := 53, attributes := #[] }, { accessFlags := 18, nameIndex := 25, descriptorIndex := 27, attributes := #[] }])
  fields := #[{ name := "name", type := (.object "java/lang/String"), accessFlags := 18, slot := 0, constantValue := 0 }, { name := "partitions", type := .int, accessFlags := 18, slot := 1, constantValue := 0 }, { name := "unavailable", type := (.array .int), accessFlags := 18, slot := 2, constantValue := 0 }]
  methods := #[k11m0, k11m1, k11m2]
  instanceTypes := #[(.object "java/lang/String"), .int, (.array .int)]
  staticTypes := #[]
  resolved := Array.replicate 142 none
  statics := none }

def pool12 : Array CpInfo := pool [(2, .class_ 4), (1, u "java/lang/Object"), (0, u "<init>"), (0, u "()V"), (35, .class_ 44), (1, u "java/util/Objects"), (0, u "requireNonNull"), (48, u "(Ljava/lang/Object;Ljava/lang/String;)Ljava/lang/Object;")] 89

def k12m0 : Method := { name := "<init>", desc := "()V", sig := { parameters := [], returnType := none }, accessFlags := 2, code := none }
def k12c1 : Code := { maxStack := 3, maxLocals := 2, code := jdk_31_method_11_code, exceptionTable := #[], attributes := #[] }
def k12m1 : Method := { name := "requireNonNull", desc := "(Ljava/lang/Object;Ljava/lang/String;)Ljava/lang/Object;", sig := { parameters := [(.object "java/lang/Object"), (.object "java/lang/String")], returnType := some (.object "java/lang/Object") }, accessFlags := 9, code := some k12c1 }
/-- java/util/Objects -/
def k12 : Class := { plain "java/util/Objects" (some 0) with
  accessFlags := 49
  interfaces := #[]
  cf := some (fileOf pool12 42 #[] #[{ accessFlags := 2, nameIndex := 5, descriptorIndex := 6, attributes := #[] }, { accessFlags := 9, nameIndex := 45, descriptorIndex := 94, attributes := #[] }] 49 2 #[] #[])
  fields := #[]
  methods := #[k12m0, k12m1]
  instanceTypes := #[]
  staticTypes := #[]
  resolved := Array.replicate 184 none
  statics := none }

def pool13 : Array CpInfo := pool [(1, .class_ 2), (0, u "java/lang/Cloneable"), (0, .class_ 4), (0, u "java/lang/Object")] 2

/-- java/lang/Cloneable -/
def k13 : Class := { plain "java/lang/Cloneable" (some 0) with
  accessFlags := 1537
  interfaces := #[]
  cf := some (fileOf pool13 1 #[] #[] 1537 3 #[] #[])
  fields := #[]
  methods := #[]
  instanceTypes := #[]
  staticTypes := #[]
  resolved := Array.replicate 7 none
  statics := none }

def pool14 : Array CpInfo := pool [(2, .class_ 4), (1, u "java/lang/Object"), (0, u "<init>"), (0, u "()V"), (0, .methodref 8 9), (0, .class_ 10), (0, .nameAndType 11 12), (0, u "java/util/DualPivotQuicksort"), (0, u "sort"), (0, u "([IIII)V"), (1, .class_ 16), (1, u "java/util/Arrays"), (57, .class_ 76), (1, u "java/util/Arrays$NaturalOrder"), (36, .class_ 115), (1, u "java/util/Arrays$LegacyMergeSort"), (1, u "Z"), (257, .class_ 376), (0, u "java/util/Arrays$ArrayList"), (68, u "$assertionsDisabled"), (269, u "MIN_ARRAY_SORT_GRAN"), (0, u "I"), (2, u "INSERTIONSORT_THRESHOLD"), (6, u "([I)V"), (248, .class_ 976), (0, u "java/util/Arrays$ArrayItr")] 52

def k14m0 : Method := { name := "<init>", desc := "()V", sig := { parameters := [], returnType := none }, accessFlags := 2, code := none }
def k14c1 : Code := { maxStack := 4, maxLocals := 1, code := jdk_65_method_2_code, exceptionTable := #[], attributes := #[] }
def k14m1 : Method := { name := "sort", desc := "([I)V", sig := { parameters := [(.array .int)], returnType := none }, accessFlags := 9, code := some k14c1 }
/-- java/util/Arrays -/
def k14 : Class := { plain "java/util/Arrays" (some 0) with
  accessFlags := 49
  interfaces := #[]
  cf := some (fileOf pool14 14 #[.nestMembers #[975, 375, 113, 74]] #[{ accessFlags := 2, nameIndex := 5, descriptorIndex := 6, attributes := #[] }, { accessFlags := 9, nameIndex := 11, descriptorIndex := 726, attributes := #[] }] 49 2 #[] #[{ accessFlags := 26, nameIndex := 715, descriptorIndex := 716, attributes := #[] }, { accessFlags := 26, nameIndex := 719, descriptorIndex := 716, attributes := #[] }, { accessFlags := 4120, nameIndex := 445, descriptorIndex := 117, attributes := #[] }])
  fields := #[{ name := "MIN_ARRAY_SORT_GRAN", type := .int, accessFlags := 26, slot := 0, constantValue := 0 }, { name := "INSERTIONSORT_THRESHOLD", type := .int, accessFlags := 26, slot := 1, constantValue := 0 }, { name := "$assertionsDisabled", type := .boolean, accessFlags := 4120, slot := 2, constantValue := 0 }]
  methods := #[k14m0, k14m1]
  instanceTypes := #[]
  staticTypes := #[.int, .int, .boolean]
  resolved := Array.replicate 1029 none
  statics := none }

def pool15 : Array CpInfo := pool [(1, .class_ 2), (0, u "java/util/DualPivotQuicksort"), (5, .class_ 10), (1, u "java/lang/Object"), (0, u "<init>"), (0, u "()V"), (4, .class_ 18), (0, u "java/util/DualPivotQuicksort$Sorter"), (7, .methodref 1 27), (0, .nameAndType 28 29), (0, u "sort"), (0, u "(Ljava/util/DualPivotQuicksort$Sorter;[IIII)V"), (3, u "([IIII)V"), (0, .methodref 1 35), (0, .nameAndType 36 37), (0, u "insertionSort"), (0, u "([III)V"), (30, u "I"), (4, .class_ 74), (0, u "java/util/DualPivotQuicksort$RunMerger"), (10, .class_ 86), (0, u "java/util/DualPivotQuicksort$Merger"), (127, u "MAX_MIXED_INSERTION_SORT_SIZE"), (2, u "MAX_INSERTION_SORT_SIZE"), (1, u "MIN_PARALLEL_SORT_SIZE"), (1, u "MIN_TRY_MERGE_SIZE"), (0, u "MIN_FIRST_RUN_SIZE"), (1, u "MIN_FIRST_RUNS_FACTOR"), (1, u "MAX_RUN_CAPACITY"), (1, u "MIN_RUN_COUNT"), (1, u "MIN_PARALLEL_MERGE_PARTS_SIZE"), (0, u "MIN_BYTE_COUNTING_SORT_SIZE"), (1, u "MIN_SHORT_OR_CHAR_COUNTING_SORT_SIZE"), (1, u "DELTA"), (1, u "MAX_RECURSION_DEPTH"), (1, u "NUM_BYTE_VALUES"), (1, u "MAX_BYTE_INDEX"), (0, u "NUM_CHAR_VALUES"), (0, u "NUM_SHORT_VALUES"), (0, u "MAX_SHORT_INDEX")] 86

def k15m0 : Method := { name := "<init>", desc := "()V", sig := { parameters := [], returnType := none }, accessFlags := 2, code := none }
def k15c1 : Code := { maxStack := 9, maxLocals := 7, code := jdk_2529_method_3_code, exceptionTable := #[], attributes := #[] }
def k15m1 : Method := { name := "sort", desc := "([IIII)V", sig := { parameters := [(.array .int), .int, .int, .int], returnType := none }, accessFlags := 8, code := some k15c1 }
def k15c2 : Code := { maxStack := 6, maxLocals := 21, code := jdk_2529_method_4_code, exceptionTable := #[], attributes := #[] }
def k15m2 : Method := { name := "sort", desc := "(Ljava/util/DualPivotQuicksort$Sorter;[IIII)V", sig := { parameters := [(.object "java/util/DualPivotQuicksort$Sorter"), (.array .int), .int, .int, .int], returnType := none }, accessFlags := 8, code := some k15c2 }
def k15c3 : Code := { maxStack := 4, maxLocals := 6, code := jdk_2529_method_6_code, exceptionTable := #[], attributes := #[] }
def k15m3 : Method := { name := "insertionSort", desc := "([III)V", sig := { parameters := [(.array .int), .int, .int], returnType := none }, accessFlags := 10, code := some k15c3 }
/-- java/util/DualPivotQuicksort -/
def k15 : Class := { plain "java/util/DualPivotQuicksort" (some 0) with
  accessFlags := 48
  interfaces := #[]
  cf := some (fileOf pool15 1 #[.nestMembers #[73, 85, 17]] #[{ accessFlags := 2, nameIndex := 11, descriptorIndex := 12, attributes := #[] }, { accessFlags := 8, nameIndex := 28, descriptorIndex := 33, attributes := #[] }, { accessFlags := 8, nameIndex := 28, descriptorIndex := 29, attributes := #[] }, { accessFlags := 10, nameIndex := 36, descriptorIndex := 37, attributes := #[] }] 48 8 #[] #[{ accessFlags := 26, nameIndex := 214, descriptorIndex := 68, attributes := #[] }, { accessFlags := 26, nameIndex := 217, descriptorIndex := 68, attributes := #[] }, { accessFlags := 26, nameIndex := 219, descriptorIndex := 68, attributes := #[] }, { accessFlags := 26, nameIndex := 221, descriptorIndex := 68, attributes := #[] }, { accessFlags := 26, nameIndex := 222, descriptorIndex := 68, attributes := #[] }, { accessFlags := 26, nameIndex := 224, descriptorIndex := 68, attributes := #[] }, { accessFlags := 26, nameIndex := 226, descriptorIndex := 68, attributes := #[] }, { accessFlags := 26, nameIndex := 228, descriptorIndex := 68, attributes := #[] }, { accessFlags := 26, nameIndex := 230, descriptorIndex := 68, attributes := #[] }, { accessFlags := 26, nameIndex := 231, descriptorIndex := 68, attributes := #[] }, { accessFlags := 26, nameIndex := 233, descriptorIndex := 68, attributes := #[] }, { accessFlags := 26, nameIndex := 235, descriptorIndex := 68, attributes := #[] }, { accessFlags := 26, nameIndex := 237, descriptorIndex := 68, attributes := #[] }, { accessFlags := 26, nameIndex := 239, descriptorIndex := 68, attributes := #[] }, { accessFlags := 26, nameIndex := 241, descriptorIndex := 68, attributes := #[] }, { accessFlags := 26, nameIndex := 242, descriptorIndex := 68, attributes := #[] }, { accessFlags := 26, nameIndex := 243, descriptorIndex := 68, attributes := #[] }, { accessFlags := 26, nameIndex := 244, descriptorIndex := 68, attributes := #[] }])
  fields := #[{ name := "MAX_MIXED_INSERTION_SORT_SIZE", type := .int, accessFlags := 26, slot := 0, constantValue := 0 }, { name := "MAX_INSERTION_SORT_SIZE", type := .int, accessFlags := 26, slot := 1, constantValue := 0 }, { name := "MIN_PARALLEL_SORT_SIZE", type := .int, accessFlags := 26, slot := 2, constantValue := 0 }, { name := "MIN_TRY_MERGE_SIZE", type := .int, accessFlags := 26, slot := 3, constantValue := 0 }, { name := "MIN_FIRST_RUN_SIZE", type := .int, accessFlags := 26, slot := 4, constantValue := 0 }, { name := "MIN_FIRST_RUNS_FACTOR", type := .int, accessFlags := 26, slot := 5, constantValue := 0 }, { name := "MAX_RUN_CAPACITY", type := .int, accessFlags := 26, slot := 6, constantValue := 0 }, { name := "MIN_RUN_COUNT", type := .int, accessFlags := 26, slot := 7, constantValue := 0 }, { name := "MIN_PARALLEL_MERGE_PARTS_SIZE", type := .int, accessFlags := 26, slot := 8, constantValue := 0 }, { name := "MIN_BYTE_COUNTING_SORT_SIZE", type := .int, accessFlags := 26, slot := 9, constantValue := 0 }, { name := "MIN_SHORT_OR_CHAR_COUNTING_SORT_SIZE", type := .int, accessFlags := 26, slot := 10, constantValue := 0 }, { name := "DELTA", type := .int, accessFlags := 26, slot := 11, constantValue := 0 }, { name := "MAX_RECURSION_DEPTH", type := .int, accessFlags := 26, slot := 12, constantValue := 0 }, { name := "NUM_BYTE_VALUES", type := .int, accessFlags := 26, slot := 13, constantValue := 0 }, { name := "MAX_BYTE_INDEX", type := .int, accessFlags := 26, slot := 14, constantValue := 0 }, { name := "NUM_CHAR_VALUES", type := .int, accessFlags := 26, slot := 15, constantValue := 0 }, { name := "NUM_SHORT_VALUES", type := .int, accessFlags := 26, slot := 16, constantValue := 0 }, { name := "MAX_SHORT_INDEX", type := .int, accessFlags := 26, slot := 17, constantValue := 0 }]
  methods := #[k15m0, k15m1, k15m2, k15m3]
  instanceTypes := #[]
  staticTypes := #[.int, .int, .int, .int, .int, .int, .int, .int, .int, .int, .int, .int, .int, .int, .int, .int, .int, .int]
  resolved := Array.replicate 331 none
  statics := none }

def pool16 : Array CpInfo := pool [(4, .class_ 6), (1, u "java/lang/Object"), (0, u "<init>"), (0, u "()V"), (5, .class_ 16), (1, u "java/lang/StringLatin1"), (104, u "$assertionsDisabled"), (0, u "Z"), (98, .class_ 223), (1, u "java/lang/StringLatin1$LinesSpliterator"), (166, .class_ 391), (0, u "java/lang/StringLatin1$CharsSpliterator")] 3

def k16m0 : Method := { name := "<init>", desc := "()V", sig := { parameters := [], returnType := none }, accessFlags := 0, code := none }
/-- java/lang/StringLatin1 -/
def k16 : Class := { plain "java/lang/StringLatin1" (some 0) with
  accessFlags := 48
  interfaces := #[]
  cf := some (fileOf pool16 14 #[.nestMembers #[390, 221]] #[{ accessFlags := 0, nameIndex := 7, descriptorIndex := 8, attributes := #[] }] 48 4 #[] #[{ accessFlags := 4120, nameIndex := 121, descriptorIndex := 122, attributes := #[] }])
  fields := #[{ name := "$assertionsDisabled", type := .boolean, accessFlags := 4120, slot := 0, constantValue := 0 }]
  methods := #[k16m0]
  instanceTypes := #[]
  staticTypes := #[.boolean]
  resolved := Array.replicate 395 none
  statics := none }

def pool17 : Array CpInfo := pool [(2, .class_ 4), (1, u "java/lang/Object"), (0, u "<init>"), (0, u "()V"), (17, .class_ 26), (1, u "jdk/internal/util/Preconditions"), (28, .class_ 56), (0, u "jdk/internal/util/Preconditions$4"), (57, .class_ 115), (0, u "jdk/internal/util/Preconditions$1"), (7, u "SIOOBE_FORMATTER"), (0, u "Ljava/util/function/BiFunction;"), (0, .class_ 126), (0, u "jdk/internal/util/Preconditions$2"), (3, u "AIOOBE_FORMATTER"), (0, .class_ 132), (0, u "jdk/internal/util/Preconditions$3"), (3, u "IOOBE_FORMATTER")] 57

def k17m0 : Method := { name := "<init>", desc := "()V", sig := { parameters := [], returnType := none }, accessFlags := 1, code := none }
/-- jdk/internal/util/Preconditions -/
def k17 : Class := { plain "jdk/internal/util/Preconditions" (some 0) with
  accessFlags := 33
  interfaces := #[]
  cf := some (fileOf pool17 24 #[.nestMembers #[55, 131, 125, 114]] #[{ accessFlags := 1, nameIndex := 5, descriptorIndex := 6, attributes := #[] }] 33 2 #[] #[{ accessFlags := 25, nameIndex := 123, descriptorIndex := 124, attributes := #[] }, { accessFlags := 25, nameIndex := 130, descriptorIndex := 124, attributes := #[] }, { accessFlags := 25, nameIndex := 136, descriptorIndex := 124, attributes := #[] }])
  fields := #[{ name := "SIOOBE_FORMATTER", type := (.object "java/util/function/BiFunction"), accessFlags := 25, slot := 0, constantValue := 0 }, { name := "AIOOBE_FORMATTER", type := (.object "java/util/function/BiFunction"), accessFlags := 25, slot := 1, constantValue := 0 }, { name := "IOOBE_FORMATTER", type := (.object "java/util/function/BiFunction"), accessFlags := 25, slot := 2, constantValue := 0 }]
  methods := #[k17m0]
  instanceTypes := #[]
  staticTypes := #[(.object "java/util/function/BiFunction"), (.object "java/util/function/BiFunction"), (.object "java/util/function/BiFunction")]
  resolved := Array.replicate 194 none
  statics := some 1 }

def pool18 : Array CpInfo := pool [(9, u "<init>"), (6, .class_ 18), (1, u "java/lang/Object"), (0, u "()V"), (1, .class_ 23), (1, u "jdk/internal/util/ArraysSupport"), (0, u "LOG2_ARRAY_LONG_INDEX_SCALE"), (0, u "I"), (2, u "U"), (0, u "Ljdk/internal/misc/Unsafe;"), (8, u "BIG_ENDIAN"), (0, u "Z"), (8, u "LOG2_BYTE_BIT_SIZE"), (4, u "LOG2_ARRAY_INT_INDEX_SCALE"), (54, u "JLA"), (0, u "Ljdk/internal/access/JavaLangAccess;"), (11, u "LOG2_ARRAY_BOOLEAN_INDEX_SCALE"), (9, u "LOG2_ARRAY_BYTE_INDEX_SCALE"), (5, u "LOG2_ARRAY_CHAR_INDEX_SCALE"), (5, u "LOG2_ARRAY_SHORT_INDEX_SCALE"), (18, u "LOG2_ARRAY_FLOAT_INDEX_SCALE"), (24, u "LOG2_ARRAY_DOUBLE_INDEX_SCALE"), (89, u "T_BOOLEAN"), (2, u "T_CHAR"), (1, u "T_FLOAT"), (1, u "T_DOUBLE"), (1, u "T_BYTE"), (1, u "T_SHORT"), (1, u "T_INT"), (1, u "T_LONG"), (1, u "SOFT_MAX_ARRAY_LENGTH")] 83

def k18m0 : Method := { name := "<init>", desc := "()V", sig := { parameters := [], returnType := none }, accessFlags := 2, code := none }
/-- jdk/internal/util/ArraysSupport -/
def k18 : Class := { plain "jdk/internal/util/ArraysSupport" (some 0) with
  accessFlags := 33
  interfaces := #[]
  cf := some (fileOf pool18 21 #[] #[{ accessFlags := 2, nameIndex := 9, descriptorIndex := 19, attributes := #[] }] 33 16 #[] #[{ accessFlags := 24, nameIndex := 28, descriptorIndex := 29, attributes := #[] }, { accessFlags := 26, nameIndex := 38, descriptorIndex := 39, attributes := #[] }, { accessFlags := 25, nameIndex := 121, descriptorIndex := 25, attributes := #[] }, { accessFlags := 25, nameIndex := 131, descriptorIndex := 25, attributes := #[] }, { accessFlags := 25, nameIndex := 137, descriptorIndex := 25, attributes := #[] }, { accessFlags := 25, nameIndex := 143, descriptorIndex := 25, attributes := #[] }, { accessFlags := 25, nameIndex := 53, descriptorIndex := 25, attributes := #[] }, { accessFlags := 25, nameIndex := 24, descriptorIndex := 25, attributes := #[] }, { accessFlags := 25, nameIndex := 162, descriptorIndex := 25, attributes := #[] }, { accessFlags := 25, nameIndex := 187, descriptorIndex := 25, attributes := #[] }, { accessFlags := 26, nameIndex := 48, descriptorIndex := 25, attributes := #[] }, { accessFlags := 25, nameIndex := 277, descriptorIndex := 25, attributes := #[] }, { accessFlags := 25, nameIndex := 280, descriptorIndex := 25, attributes := #[] }, { accessFlags := 25, nameIndex := 282, descriptorIndex := 25, attributes := #[] }, { accessFlags := 25, nameIndex := 284, descriptorIndex := 25, attributes := #[] }, { accessFlags := 25, nameIndex := 286, descriptorIndex := 25, attributes := #[] }, { accessFlags := 25, nameIndex := 288, descriptorIndex := 25, attributes := #[] }, { accessFlags := 25, nameIndex := 290, descriptorIndex := 25, attributes := #[] }, { accessFlags := 25, nameIndex := 292, descriptorIndex := 25, attributes := #[] }, { accessFlags := 26, nameIndex := 108, descriptorIndex := 109, attributes := #[] }, { accessFlags := 25, nameIndex := 294, descriptorIndex := 25, attributes := #[] }])
  fields := #[{ name := "U", type := (.object "jdk/internal/misc/Unsafe"), accessFlags := 24, slot := 0, constantValue := 0 }, { name := "BIG_ENDIAN", type := .boolean, accessFlags := 26, slot := 1, constantValue := 0 }, { name := "LOG2_ARRAY_BOOLEAN_INDEX_SCALE", type := .int, accessFlags := 25, slot := 2, constantValue := 0 }, { name := "LOG2_ARRAY_BYTE_INDEX_SCALE", type := .int, accessFlags := 25, slot := 3, constantValue := 0 }, { name := "LOG2_ARRAY_CHAR_INDEX_SCALE", type := .int, accessFlags := 25, slot := 4, constantValue := 0 }, { name := "LOG2_ARRAY_SHORT_INDEX_SCALE", type := .int, accessFlags := 25, slot := 5, constantValue := 0 }, { name := "LOG2_ARRAY_INT_INDEX_SCALE", type := .int, accessFlags := 25, slot := 6, constantValue := 0 }, { name := "LOG2_ARRAY_LONG_INDEX_SCALE", type := .int, accessFlags := 25, slot := 7, constantValue := 0 }, { name := "LOG2_ARRAY_FLOAT_INDEX_SCALE", type := .int, accessFlags := 25, slot := 8, constantValue := 0 }, { name := "LOG2_ARRAY_DOUBLE_INDEX_SCALE", type := .int, accessFlags := 25, slot := 9, constantValue := 0 }, { name := "LOG2_BYTE_BIT_SIZE", type := .int, accessFlags := 26, slot := 10, constantValue := 0 }, { name := "T_BOOLEAN", type := .int, accessFlags := 25, slot := 11, constantValue := 0 }, { name := "T_CHAR", type := .int, accessFlags := 25, slot := 12, constantValue := 0 }, { name := "T_FLOAT", type := .int, accessFlags := 25, slot := 13, constantValue := 0 }, { name := "T_DOUBLE", type := .int, accessFlags := 25, slot := 14, constantValue := 0 }, { name := "T_BYTE", type := .int, accessFlags := 25, slot := 15, constantValue := 0 }, { name := "T_SHORT", type := .int, accessFlags := 25, slot := 16, constantValue := 0 }, { name := "T_INT", type := .int, accessFlags := 25, slot := 17, constantValue := 0 }, { name := "T_LONG", type := .int, accessFlags := 25, slot := 18, constantValue := 0 }, { name := "JLA", type := (.object "jdk/internal/access/JavaLangAccess"), accessFlags := 26, slot := 19, constantValue := 0 }, { name := "SOFT_MAX_ARRAY_LENGTH", type := .int, accessFlags := 25, slot := 20, constantValue := 0 }]
  methods := #[k18m0]
  instanceTypes := #[]
  staticTypes := #[(.object "jdk/internal/misc/Unsafe"), .boolean, .int, .int, .int, .int, .int, .int, .int, .int, .int, .int, .int, .int, .int, .int, .int, .int, .int, (.object "jdk/internal/access/JavaLangAccess"), .int]
  resolved := Array.replicate 378 none
  statics := none }

/-- the primitive byte -/
def k19 : Class := { plain "byte" none with kind := .primitive 'B', accessFlags := 0x411 }
/-- [B -/
def k20 : Class := { plain "[B" (some 0) with kind := .array 19 .byte, interfaces := #[13, 3], accessFlags := 1041 }

/-- the primitive char -/
def k21 : Class := { plain "char" none with kind := .primitive 'C', accessFlags := 0x411 }
/-- [C -/
def k22 : Class := { plain "[C" (some 0) with kind := .array 21 .char, interfaces := #[13, 3], accessFlags := 1041 }

/-- the primitive int -/
def k23 : Class := { plain "int" none with kind := .primitive 'I', accessFlags := 0x411 }
/-- [I -/
def k24 : Class := { plain "[I" (some 0) with kind := .array 23 .int, interfaces := #[13, 3], accessFlags := 1041 }

def heap : Heap := #[{ cls := 8, slots := #[.long 0, .int 1, .null, .int 0, .null, .int 0, .int 0], vm := .statics 8 },
  { cls := 17, slots := #[.null, .null, .null], vm := .statics 17 }]
def classes : Array Class := #[k0, k1, k2, k3, k4, k5, k6, k7, k8, k9, k10, k11, k12, k13, k14, k15, k16, k17, k18, k19, k20, k21, k22, k23, k24]
def interned : List (Array UInt16 × Addr) := []
def slotsUsed : Nat := 10
def theMethod : MethodId := ⟨1, 1⟩
def args0 : Array Value := #[.int 7, .int 2, .int 3, .int 4, .int 5]
def aboutOver (below : List Frame) : State where
  vm := { classes := classes, interned := interned.toArray }
  heap := heap
  slotsUsed := slotsUsed
  threads := #[{ frames := .invoking theMethod args0 :: below }]
def below0 : List Frame := [.native { method := ⟨0, 0⟩, args := #[] }]
def about1 : State := aboutOver below0
def p0 : Program := .bare "" "" ""
def e0 : Env := launch0.env 0 0 0
theorem w_frames : about1.frames = Frame.invoking theMethod args0 :: below0 := rfl
set_option maxRecDepth 65536 in
theorem w_args : argsFit about1.vm theMethod args0 = true := by decide +kernel
set_option maxRecDepth 65536 in
theorem w_heap : heapFits about1 = true := by decide +kernel
set_option maxRecDepth 65536 in
theorem w_runnable : about1.curStatus? = some .runnable := by decide +kernel
set_option maxRecDepth 65536 in
theorem w_alone : about1.alone = true := by decide +kernel
set_option maxRecDepth 65536 in
theorem w_named : about1.methodNamed? x = some theMethod := by decide +kernel
set_option maxRecDepth 65536 in
theorem w_hears : about1.hears theMethod below0 = true := by decide +kernel
set_option maxRecDepth 65536 in
theorem w_ripe : about1.ripe theMethod args0 below0 = true := by decide +kernel
theorem w_running : about1.status = .running := rfl
set_option maxRecDepth 65536 in
theorem w_room : about1.hasRoom e0.platform room_1 = true :=
  launch0.hasRoom_least _ room_1 (by decide +kernel) (by decide +kernel) (by decide +kernel) (by decide +kernel) (by decide +kernel) (by decide +kernel)
theorem allAtoms_all (ts : List Jvm.Cond) (a : Array Jvm.Value) (st : Jvm.State) : (allAtoms ts).before a st = ts.all (fun c => c.before a st) := by
  induction ts with
  | nil => rfl
  | cons c t ih =>
    show (Jvm.Cond.and c (allAtoms t)).before a st = _
    rw [Jvm.Cond.before_and, ih, List.all_cons]
def words1 : List Jvm.Cond := Jvm.Cond.code x code maxLocals ret :: tables_1
/-- a 'code' word, met by the world's own term for the bytes: nothing is compared byte by byte -/
theorem code_word {y : MethodName} {bytes : ByteArray} {mx : Nat} {rt : Option FieldType} {a : Array Value} {s : State} {m : MethodId} {meth : Method} {c : Code} (h1 : s.methodNamed? y = some m) (h2 : s.vm.method? m = some meth) (h3 : meth.code = some c) (h4 : c.code = bytes)
    (h5 : (c.maxLocals == mx && c.exceptionTable.isEmpty && decide (c.maxStack ≤ mostOperands) && decide (meth.sig.returnType = rt) && !meth.locks && decide (parseMethodDescriptor y.desc = some meth.sig)) = true) : (Jvm.Cond.code y bytes mx rt).before a s = true := by
  simp only [Bool.and_eq_true, beq_iff_eq, Bool.not_eq_true', decide_eq_true_eq] at h5
  obtain ⟨⟨⟨⟨⟨g1, g2⟩, g3⟩, g4⟩, g5⟩, g6⟩ := h5
  simp [Cond.before, Cond.holds, Cond.value, h1, h2, h3, h4, g1, g2, g3, g4, g5, g6]
def isCode : Jvm.Cond → Bool
  | .code _ _ _ _ => true
  | _ => false
theorem all_split {L : List Jvm.Cond} {P : Jvm.Cond → Bool} (h1 : L.all (fun c => isCode c || P c) = true) (h2 : ∀ c ∈ L.filter isCode, P c = true) : L.all P = true := by
  refine List.all_eq_true.mpr fun c hc => ?_
  have h := List.all_eq_true.mp h1 c hc
  rcases Bool.eq_false_or_eq_true (isCode c) with hi | hi
  · exact h2 c (List.mem_filter.mpr ⟨hc, hi⟩)
  · simpa [hi] using h
set_option maxRecDepth 65536 in
theorem w_c0 : (Jvm.Cond.code x code maxLocals ret).before args0 about1 = true := code_word (m := ⟨1, 1⟩) (meth := k1m1) (c := k1c1) (by decide +kernel) rfl rfl rfl (by decide +kernel)
set_option maxRecDepth 65536 in
theorem w_c1 : (Jvm.Cond.code ({ cls := "java/lang/Math", name := "max", desc := "(II)I" } : Jvm.MethodName) jdk_29_method_65_code (2 : Nat) (Option.some Jvm.ClassFile.FieldType.int)).before args0 about1 = true := code_word (m := ⟨2, 1⟩) (meth := k2m1) (c := k2c1) (by decide +kernel) rfl rfl rfl (by decide +kernel)
set_option maxRecDepth 65536 in
theorem w_c2 : (Jvm.Cond.code ({ cls := "java/lang/String", name := "<init>", desc := "([C)V" } : Jvm.MethodName) jdk_42_method_3_code (2 : Nat) (Option.none : Option Jvm.ClassFile.FieldType)).before args0 about1 = true := code_word (m := ⟨8, 1⟩) (meth := k8m1) (c := k8c1) (by decide +kernel) rfl rfl rfl (by decide +kernel)
set_option maxRecDepth 65536 in
theorem w_c3 : (Jvm.Cond.code ({ cls := "java/lang/String", name := "<init>", desc := "([CIILjava/lang/Void;)V" } : Jvm.MethodName) jdk_42_method_149_code (6 : Nat) (Option.none : Option Jvm.ClassFile.FieldType)).before args0 about1 = true := code_word (m := ⟨8, 2⟩) (meth := k8m2) (c := k8c2) (by decide +kernel) rfl rfl rfl (by decide +kernel)
set_option maxRecDepth 65536 in
theorem w_c4 : (Jvm.Cond.code ({ cls := "java/lang/Object", name := "<init>", desc := "()V" } : Jvm.MethodName) object_method_1_code (1 : Nat) (Option.none : Option Jvm.ClassFile.FieldType)).before args0 about1 = true := code_word (m := ⟨0, 0⟩) (meth := k0m0) (c := k0c0) (by decide +kernel) rfl rfl rfl (by decide +kernel)
set_option maxRecDepth 65536 in
theorem w_c5 : (Jvm.Cond.code ({ cls := "java/lang/StringUTF16", name := "compress", desc := "([CII)[B" } : Jvm.MethodName) jdk_52_method_16_code (6 : Nat) (Option.some (Jvm.ClassFile.FieldType.array Jvm.ClassFile.FieldType.byte))).before args0 about1 = true := code_word (m := ⟨9, 2⟩) (meth := k9m2) (c := k9c2) (by decide +kernel) rfl rfl rfl (by decide +kernel)
set_option maxRecDepth 65536 in
theorem w_c6 : (Jvm.Cond.code ({ cls := "java/lang/StringUTF16", name := "compress", desc := "([CI[BII)I" } : Jvm.MethodName) jdk_52_method_21_code (7 : Nat) (Option.some Jvm.ClassFile.FieldType.int)).before args0 about1 = true := code_word (m := ⟨9, 3⟩) (meth := k9m3) (c := k9c3) (by decide +kernel) rfl rfl rfl (by decide +kernel)
set_option maxRecDepth 65536 in
theorem w_c7 : (Jvm.Cond.code ({ cls := "java/lang/StringUTF16", name := "coderFromArrayLen", desc := "([BI)B" } : Jvm.MethodName) jdk_52_method_15_code (2 : Nat) (Option.some Jvm.ClassFile.FieldType.byte)).before args0 about1 = true := code_word (m := ⟨9, 1⟩) (meth := k9m1) (c := k9c1) (by decide +kernel) rfl rfl rfl (by decide +kernel)
set_option maxRecDepth 65536 in
theorem w_c8 : (Jvm.Cond.code ({ cls := "com/example/allot/allot/partition/Topic", name := "<init>", desc := "(Ljava/lang/String;I[I)V" } : Jvm.MethodName) prog_83_method_1_code (5 : Nat) (Option.none : Option Jvm.ClassFile.FieldType)).before args0 about1 = true := code_word (m := ⟨11, 0⟩) (meth := k11m0) (c := k11c0) (by decide +kernel) rfl rfl rfl (by decide +kernel)
set_option maxRecDepth 65536 in
theorem w_c9 : (Jvm.Cond.code ({ cls := "java/lang/Record", name := "<init>", desc := "()V" } : Jvm.MethodName) jdk_30_method_1_code (1 : Nat) (Option.none : Option Jvm.ClassFile.FieldType)).before args0 about1 = true := code_word (m := ⟨10, 0⟩) (meth := k10m0) (c := k10c0) (by decide +kernel) rfl rfl rfl (by decide +kernel)
set_option maxRecDepth 65536 in
theorem w_c10 : (Jvm.Cond.code ({ cls := "java/util/Objects", name := "requireNonNull", desc := "(Ljava/lang/Object;Ljava/lang/String;)Ljava/lang/Object;" } : Jvm.MethodName) jdk_31_method_11_code (2 : Nat) (Option.some (Jvm.ClassFile.FieldType.object "java/lang/Object"))).before args0 about1 = true := code_word (m := ⟨12, 1⟩) (meth := k12m1) (c := k12c1) (by decide +kernel) rfl rfl rfl (by decide +kernel)
set_option maxRecDepth 65536 in
theorem w_c11 : (Jvm.Cond.code ({ cls := "java/util/Arrays", name := "sort", desc := "([I)V" } : Jvm.MethodName) jdk_65_method_2_code (1 : Nat) (Option.none : Option Jvm.ClassFile.FieldType)).before args0 about1 = true := code_word (m := ⟨14, 1⟩) (meth := k14m1) (c := k14c1) (by decide +kernel) rfl rfl rfl (by decide +kernel)
set_option maxRecDepth 65536 in
theorem w_c12 : (Jvm.Cond.code ({ cls := "java/util/DualPivotQuicksort", name := "sort", desc := "([IIII)V" } : Jvm.MethodName) jdk_2529_method_3_code (7 : Nat) (Option.none : Option Jvm.ClassFile.FieldType)).before args0 about1 = true := code_word (m := ⟨15, 1⟩) (meth := k15m1) (c := k15c1) (by decide +kernel) rfl rfl rfl (by decide +kernel)
set_option maxRecDepth 65536 in
theorem w_c13 : (Jvm.Cond.code ({ cls := "java/util/DualPivotQuicksort", name := "sort", desc := "(Ljava/util/DualPivotQuicksort$Sorter;[IIII)V" } : Jvm.MethodName) jdk_2529_method_4_code (21 : Nat) (Option.none : Option Jvm.ClassFile.FieldType)).before args0 about1 = true := code_word (m := ⟨15, 2⟩) (meth := k15m2) (c := k15c2) (by decide +kernel) rfl rfl rfl (by decide +kernel)
set_option maxRecDepth 65536 in
theorem w_c14 : (Jvm.Cond.code ({ cls := "java/util/DualPivotQuicksort", name := "insertionSort", desc := "([III)V" } : Jvm.MethodName) jdk_2529_method_6_code (6 : Nat) (Option.none : Option Jvm.ClassFile.FieldType)).before args0 about1 = true := code_word (m := ⟨15, 3⟩) (meth := k15m3) (c := k15c3) (by decide +kernel) rfl rfl rfl (by decide +kernel)
set_option maxRecDepth 65536 in
theorem w_c15 : (Jvm.Cond.code ({ cls := "com/example/allot/allot/partition/Topic", name := "checked", desc := "(I)I" } : Jvm.MethodName) prog_83_method_6_code (2 : Nat) (Option.some Jvm.ClassFile.FieldType.int)).before args0 about1 = true := code_word (m := ⟨11, 1⟩) (meth := k11m1) (c := k11c1) (by decide +kernel) rfl rfl rfl (by decide +kernel)
set_option maxRecDepth 65536 in
theorem w_c16 : (Jvm.Cond.code ({ cls := "com/example/allot/allot/partition/Topic", name := "requireOneOf", desc := "(Ljava/lang/String;ILjava/lang/String;I)V" } : Jvm.MethodName) prog_83_method_11_code (4 : Nat) (Option.none : Option Jvm.ClassFile.FieldType)).before args0 about1 = true := code_word (m := ⟨11, 2⟩) (meth := k11m2) (c := k11c2) (by decide +kernel) rfl rfl rfl (by decide +kernel)
def codes1 : List Jvm.Cond := [Jvm.Cond.code x code maxLocals ret, Jvm.Cond.code ({ cls := "java/lang/Math", name := "max", desc := "(II)I" } : Jvm.MethodName) jdk_29_method_65_code (2 : Nat) (Option.some Jvm.ClassFile.FieldType.int), Jvm.Cond.code ({ cls := "java/lang/String", name := "<init>", desc := "([C)V" } : Jvm.MethodName) jdk_42_method_3_code (2 : Nat) (Option.none : Option Jvm.ClassFile.FieldType), Jvm.Cond.code ({ cls := "java/lang/String", name := "<init>", desc := "([CIILjava/lang/Void;)V" } : Jvm.MethodName) jdk_42_method_149_code (6 : Nat) (Option.none : Option Jvm.ClassFile.FieldType), Jvm.Cond.code ({ cls := "java/lang/Object", name := "<init>", desc := "()V" } : Jvm.MethodName) object_method_1_code (1 : Nat) (Option.none : Option Jvm.ClassFile.FieldType), Jvm.Cond.code ({ cls := "java/lang/StringUTF16", name := "compress", desc := "([CII)[B" } : Jvm.MethodName) jdk_52_method_16_code (6 : Nat) (Option.some (Jvm.ClassFile.FieldType.array Jvm.ClassFile.FieldType.byte)), Jvm.Cond.code ({ cls := "java/lang/StringUTF16", name := "compress", desc := "([CI[BII)I" } : Jvm.MethodName) jdk_52_method_21_code (7 : Nat) (Option.some Jvm.ClassFile.FieldType.int), Jvm.Cond.code ({ cls := "java/lang/StringUTF16", name := "coderFromArrayLen", desc := "([BI)B" } : Jvm.MethodName) jdk_52_method_15_code (2 : Nat) (Option.some Jvm.ClassFile.FieldType.byte), Jvm.Cond.code ({ cls := "com/example/allot/allot/partition/Topic", name := "<init>", desc := "(Ljava/lang/String;I[I)V" } : Jvm.MethodName) prog_83_method_1_code (5 : Nat) (Option.none : Option Jvm.ClassFile.FieldType), Jvm.Cond.code ({ cls := "java/lang/Record", name := "<init>", desc := "()V" } : Jvm.MethodName) jdk_30_method_1_code (1 : Nat) (Option.none : Option Jvm.ClassFile.FieldType), Jvm.Cond.code ({ cls := "java/util/Objects", name := "requireNonNull", desc := "(Ljava/lang/Object;Ljava/lang/String;)Ljava/lang/Object;" } : Jvm.MethodName) jdk_31_method_11_code (2 : Nat) (Option.some (Jvm.ClassFile.FieldType.object "java/lang/Object")), Jvm.Cond.code ({ cls := "java/util/Arrays", name := "sort", desc := "([I)V" } : Jvm.MethodName) jdk_65_method_2_code (1 : Nat) (Option.none : Option Jvm.ClassFile.FieldType), Jvm.Cond.code ({ cls := "java/util/DualPivotQuicksort", name := "sort", desc := "([IIII)V" } : Jvm.MethodName) jdk_2529_method_3_code (7 : Nat) (Option.none : Option Jvm.ClassFile.FieldType), Jvm.Cond.code ({ cls := "java/util/DualPivotQuicksort", name := "sort", desc := "(Ljava/util/DualPivotQuicksort$Sorter;[IIII)V" } : Jvm.MethodName) jdk_2529_method_4_code (21 : Nat) (Option.none : Option Jvm.ClassFile.FieldType), Jvm.Cond.code ({ cls := "java/util/DualPivotQuicksort", name := "insertionSort", desc := "([III)V" } : Jvm.MethodName) jdk_2529_method_6_code (6 : Nat) (Option.none : Option Jvm.ClassFile.FieldType), Jvm.Cond.code ({ cls := "com/example/allot/allot/partition/Topic", name := "checked", desc := "(I)I" } : Jvm.MethodName) prog_83_method_6_code (2 : Nat) (Option.some Jvm.ClassFile.FieldType.int), Jvm.Cond.code ({ cls := "com/example/allot/allot/partition/Topic", name := "requireOneOf", desc := "(Ljava/lang/String;ILjava/lang/String;I)V" } : Jvm.MethodName) prog_83_method_11_code (4 : Nat) (Option.none : Option Jvm.ClassFile.FieldType)]
set_option maxRecDepth 65536 in
theorem codes_eq : words1.filter isCode = codes1 := rfl
theorem w_codes : ∀ c ∈ words1.filter isCode, c.before args0 about1 = true := by
  rw [codes_eq]
  intro c hc
  simp only [codes1, List.mem_cons, List.not_mem_nil, or_false] at hc
  rcases hc with rfl | rfl | rfl | rfl | rfl | rfl | rfl | rfl | rfl | rfl | rfl | rfl | rfl | rfl | rfl | rfl | rfl
  · exact w_c0
  · exact w_c1
  · exact w_c2
  · exact w_c3
  · exact w_c4
  · exact w_c5
  · exact w_c6
  · exact w_c7
  · exact w_c8
  · exact w_c9
  · exact w_c10
  · exact w_c11
  · exact w_c12
  · exact w_c13
  · exact w_c14
  · exact w_c15
  · exact w_c16
set_option maxRecDepth 65536 in
theorem w_t1 : (words1.take 24).all (fun c => isCode c || c.before args0 about1) = true := by decide +kernel
set_option maxRecDepth 65536 in
theorem w_t2 : ((words1.drop 24).take 24).all (fun c => isCode c || c.before args0 about1) = true := by decide +kernel
set_option maxRecDepth 65536 in
theorem w_t3 : (((words1.drop 24).drop 24).take 24).all (fun c => isCode c || c.before args0 about1) = true := by decide +kernel
set_option maxRecDepth 65536 in
theorem w_t4 : (((words1.drop 24).drop 24).drop 24).all (fun c => isCode c || c.before args0 about1) = true := by decide +kernel
theorem w_tables : (allAtoms (Jvm.Cond.code x code maxLocals ret :: tables_1)).before args0 about1 = true := by
  rw [allAtoms_all]
  show words1.all (fun c => c.before args0 about1) = true
  refine all_split ?_ w_codes
  rw [← List.take_append_drop 24 words1, List.all_append, w_t1, ← List.take_append_drop 24 (words1.drop 24), List.all_append, w_t2, ← List.take_append_drop 24 ((words1.drop 24).drop 24), List.all_append, w_t3, w_t4]
  rfl
set_option maxRecDepth 65536 in
theorem w_rest : rest_1_c.before args0 about1 = true := by decide +kernel
set_option maxRecDepth 65536 in
theorem w_case : (Jvm.Cond.and given_1 narrow_1).before args0 about1 = true := by decide +kernel
theorem w_applies : (headSpec (Jvm.Cond.code x code maxLocals ret :: tables_1) room_1).applies x e0.platform about1 = true :=
  (Spec.applies_iff w_frames).mpr ⟨w_running, w_runnable, w_alone, w_named, w_hears, w_ripe, w_room, w_tables⟩
theorem atStart : AtStart classFile x code maxLocals ret World_1 tables_1 room_1 Calls_1 rest_1 Pre_1 launch0 p0 e0 about1 theMethod args0 below0 :=
  ⟨lists_1, trivial, launch0.admits_env _ _ _, launch0.least_env, fairChoices_fair.cas, fairChoices_fair.clock, w_frames, w_args, w_heap, w_applies, trivial, w_rest, w_case⟩
end start1
theorem witness_1 : WitnessClaimed_1 := ⟨start1.p0, start1.e0, start1.about1, start1.theMethod, start1.args0, start1.below0, start1.atStart⟩
end Jvm.Pilot.@@N@@
