import JvmDerived
import JvmDerived.Pilot.@@N@@Statement
import JvmDerived.Pilot.@@N@@Code
set_option linter.unusedVariables false
set_option linter.unusedSimpArgs false
/- laws to paste: Road.backV, Road.empW, Road.codOf (cut by pick.py; bodies as the Statement names them) -/
namespace Jvm.Pilot.@@N@@
namespace StrChars
open Jvm Sem ClassFile Op Lib Jvm.Stand Jvm.Free.XT Jvm.Free.ALB Jvm.Free.JM Jvm.Free
open Jvm.Lib.Cold (StaticIs)
/-- a char array whose places are chars -/
def Ch (a : Addr) (A : Cell) (U : State) : Prop := Arr .char a A U ∧ Typed .char A
theorem Ch.mv {a : Addr} {A : Cell} {U U' : State} (h : Ch a A U) (hal : U.vm.Alike U'.vm) (hh : U'.heap = U.heap) : Ch a A U' := ⟨h.1.mv hal hh, h.2⟩
theorem Ch.keep {a : Addr} {A : Cell} {U U' : State} (h : Ch a A U) (hal : U.vm.Alike U'.vm) (hk : U'.heap[a]? = some A) : Ch a A U' := ⟨h.1.keep hal hk, h.2⟩
/-- what place i of a char[]'s cell holds -/
def cv (A : Cell) (i : Nat) : Int32 := match A.slots[i]? with | some (.int x) => x | _ => 0
theorem Ch.get {a : Addr} {A : Cell} {U : State} (h : Ch a A U) {i : Nat} (hi : i < A.slots.size) : A.slots[i]? = some (.int (cv A i)) := by
  have e := Array.getElem?_eq_getElem hi
  have f := h.2 i _ e
  unfold cv; rw [e]
  generalize A.slots[i] = v at f
  cases v <;> simp [fits] at f ⊢
/-- the byte that i2b leaves of a char -/
def lo8 (x : Int32) : Int32 := x.toInt8.toInt32
theorem fits_lo8 (y : Int32) : fits .byte (.int (lo8 y)) = true := by
  have h1 := y.toInt8.le_toInt
  have h2 := y.toInt8.toInt_lt
  simp only [lo8, fits, Bool.and_eq_true, decide_eq_true_eq, Int32.le_iff_toInt_le, Int8.toInt_toInt32, show (-128 : Int32).toInt = -128 from by decide, show (127 : Int32).toInt = 127 from by decide]
  omega
/-- A' is A but that each place j of lo .. hi - 1 holds f j -/
def Laid (A A' : Cell) (lo hi : Nat) (f : Nat → Value) : Prop := A'.cls = A.cls ∧ A'.vm = A.vm ∧ A'.slots.size = A.slots.size ∧ ∀ i, A'.slots[i]? = if lo ≤ i ∧ i < hi then some (f i) else A.slots[i]?
theorem Laid.zero (A : Cell) (lo : Nat) (f : Nat → Value) : Laid A A lo (lo + 0) f := ⟨rfl, rfl, rfl, fun i => by rw [if_neg (by omega)]⟩
theorem Laid.step {A Ak : Cell} {lo k : Nat} {f : Nat → Value} {v : Value} (h : Laid A Ak lo k f) (hlo : lo ≤ k) (hk : k < Ak.slots.size) (hv : v = f k) : Laid A (Ak.setSlot k v) lo (k + 1) f := by
  refine ⟨h.1, h.2.1, by simpa [Cell.setSlot] using h.2.2.1, fun i => ?_⟩
  by_cases e : k = i
  · subst e; rw [Cell.slots_setSlot_self v hk, if_pos (by omega), hv]
  · rw [Cell.slots_setSlot_ne v e, h.2.2.2 i]
    by_cases q : lo ≤ i ∧ i < k
    · rw [if_pos q, if_pos (by omega)]
    · rw [if_neg q, if_neg (by omega)]
def U16 : String := "java/lang/StringUTF16"
namespace Cmp5
def yN : MethodName := ⟨"java/lang/StringUTF16", "compress", "([CI[BII)I"⟩
abbrev yB : ByteArray := jdk_52_method_21_code
theorem d0 : decode yB 0 = .ok (.iconst 0, 1) := by decide +kernel
theorem d1 : decode yB 1 = .ok (.istore 5, 2) := by decide +kernel
theorem d3 : decode yB 3 = .ok (.iload 5, 2) := by decide +kernel
theorem d5 : decode yB 5 = .ok (.iload 4, 2) := by decide +kernel
theorem d7 : decode yB 7 = .ok (.if_icmp (.ge) 37, 3) := by decide +kernel
theorem d10 : decode yB 10 = .ok (.aload_n 0, 1) := by decide +kernel
theorem d11 : decode yB 11 = .ok (.iload_n 1, 1) := by decide +kernel
theorem d12 : decode yB 12 = .ok (.caload, 1) := by decide +kernel
theorem d13 : decode yB 13 = .ok (.istore 6, 2) := by decide +kernel
theorem d15 : decode yB 15 = .ok (.iload 6, 2) := by decide +kernel
theorem d17 : decode yB 17 = .ok (.sipush 255, 3) := by decide +kernel
theorem d20 : decode yB 20 = .ok (.if_icmp (.le) 6, 3) := by decide +kernel
theorem d26 : decode yB 26 = .ok (.aload_n 2, 1) := by decide +kernel
theorem d27 : decode yB 27 = .ok (.iload_n 3, 1) := by decide +kernel
theorem d28 : decode yB 28 = .ok (.iload 6, 2) := by decide +kernel
theorem d30 : decode yB 30 = .ok (.i2b, 1) := by decide +kernel
theorem d31 : decode yB 31 = .ok (.bastore, 1) := by decide +kernel
theorem d32 : decode yB 32 = .ok (.iinc 1 1, 3) := by decide +kernel
theorem d35 : decode yB 35 = .ok (.iinc 3 1, 3) := by decide +kernel
theorem d38 : decode yB 38 = .ok (.iinc 5 1, 3) := by decide +kernel
theorem d41 : decode yB 41 = .ok (.goto (-38), 3) := by decide +kernel
theorem d44 : decode yB 44 = .ok (.iload 4, 2) := by decide +kernel
theorem d46 : decode yB 46 = .ok (.ireturn, 1) := by decide +kernel
def site : List Cond := []
def tab : Cond := tabOf yN yB 7 (some .int) site
def P (b : Addr) (A : Cell) (d : Addr) (B : Cell) (o q len : Nat) (args : Array Value) (s : State) : Prop := args = #[.ref b, .int (Int32.ofNat o), .ref d, .int (Int32.ofNat q), .int (Int32.ofNat len)] ∧ Ch b A s ∧ Arr .byte d B s ∧ b ≠ d ∧ o + len ≤ A.slots.size ∧ q + len ≤ B.slots.size ∧ ∀ i, i < len → ¬ 255 < cv A (o + i)
def E (b : Addr) (A : Cell) (d : Addr) (B : Cell) (o q len : Nat) (r : Option Value) (s u : State) : Prop := r = some (.int (Int32.ofNat len)) ∧ ∃ B', Put d B' s u ∧ Laid B B' q (q + len) (fun j => Value.int (lo8 (cv A (o + (j - q)))))
/-- no char of the range above 255: len; the places written hold each char's low byte -/
theorem law (l : Launch) (b : Addr) (A : Cell) (d : Addr) (B : Cell) (o q len : Nat) : Law l yN 5 5 0 0 yB 7 (some .int) site (P b A d B o q len) (E b A d B o q len) (copyLocs d q len) 0 0 := by
  refine Law.of_walk (plainFor_of_name (by decide +kernel)) (by decide +kernel) (by decide +kernel) (by decide) (fun _ _ h => by rw [h.1]; rfl) (fun _ U U' hal hh h => ⟨h.1, h.2.1.mv hal hh, h.2.2.1.mv hal hh, h.2.2.2⟩) (fun r U U' V V' h1 hal h2 h => ⟨h.1, h.2.elim fun B' q => ⟨B', q.1.mv h1 h2, q.2⟩⟩) ?_
  intro p e s m args below meth c s₁ X0 hexec hbytes hml hret hlk hnm hown hh0 W hP
  obtain ⟨rfl, hA, hB, hne, l1, l2, hp⟩ := hP
  have c1 : Steps p.tables e below (s₁.setTop (entryFrame m #[.ref b, .int (Int32.ofNat o), .ref d, .int (Int32.ofNat q), .int (Int32.ofNat len)] 7)) (s₁.setTop (mkF m 0 #[.val (.ref b), .val (.int (Int32.ofNat o)), .val (.ref d), .val (.int (Int32.ofNat q)), .val (.int (Int32.ofNat len)), .unset, .unset] [])) := entry rfl
  have hA0 := hA.1.mv X0.warmed.alike hh0
  have hB0 := hB.mv X0.warmed.alike hh0
  have a31 := hA.1.2.2.2
  have c2 : Steps p.tables e below (s₁.setTop (entryFrame m #[.ref b, .int (Int32.ofNat o), .ref d, .int (Int32.ofNat q), .int (Int32.ofNat len)] 7)) (s₁.setTop (mkF m 3 #[.val (.ref b), .val (.int (Int32.ofNat o)), .val (.ref d), .val (.int (Int32.ofNat q)), .val (.int (Int32.ofNat len)), .val (.int 0), .unset] [])) := c1.trans (by
    refine iconstV X0.here hexec rfl 0 (hb hbytes d0) (by decide) ?_
    refine XS.istore X0.here hexec rfl (hb hbytes d1) rfl rfl ?_
    exact Steps.refl _)
  have loop : ∀ (r i : Nat), i + r = len → ∀ (z : Slot), (z = .unset ∨ ∃ w, z = .val w ∧ w.category = 1) → ∀ (Tl : State) (Bk : Cell), Stand p l e { frames := 0, locals := 0, cells := 0, slots := 0 } s m #[.ref b, .int (Int32.ofNat o), .ref d, .int (Int32.ofNat q), .int (Int32.ofNat len)] below meth c Tl ([] ++ copyLocs d q i) 0 0 → Put d Bk s₁ Tl → Laid B Bk q (q + i) (fun j => Value.int (lo8 (cv A (o + (j - q))))) →
      Steps p.tables e below (s₁.setTop (entryFrame m #[.ref b, .int (Int32.ofNat o), .ref d, .int (Int32.ofNat q), .int (Int32.ofNat len)] 7)) (Tl.setTop (mkF m 3 #[.val (.ref b), .val (.int (Int32.ofNat (o + i))), .val (.ref d), .val (.int (Int32.ofNat (q + i))), .val (.int (Int32.ofNat len)), .val (.int (Int32.ofNat i)), z] [])) → ∃ (T' : State) (B' : Cell) (z' : Slot), Stand p l e { frames := 0, locals := 0, cells := 0, slots := 0 } s m #[.ref b, .int (Int32.ofNat o), .ref d, .int (Int32.ofNat q), .int (Int32.ofNat len)] below meth c T' ([] ++ copyLocs d q len) 0 0 ∧ Put d B' s₁ T' ∧ Laid B B' q (q + len) (fun j => Value.int (lo8 (cv A (o + (j - q))))) ∧
      Steps p.tables e below (s₁.setTop (entryFrame m #[.ref b, .int (Int32.ofNat o), .ref d, .int (Int32.ofNat q), .int (Int32.ofNat len)] 7)) (T'.setTop (mkF m 3 #[.val (.ref b), .val (.int (Int32.ofNat (o + len))), .val (.ref d), .val (.int (Int32.ofNat (q + len))), .val (.int (Int32.ofNat len)), .val (.int (Int32.ofNat len)), z'] [])) := by
    intro r
    induction r with
    | zero =>
      intro i hi z hz Tl Bk Xl pl fl cl
      have hil : i = len := by omega
      rw [hil] at Xl fl cl
      exact ⟨Tl, Bk, z, Xl, pl, fl, cl⟩
    | succ r ih =>
      intro i hi z hz Tl Bk Xl pl fl cl
      have all := X0.warmed.alike.symm.trans Xl.warmed.alike
      have hAl := hA0.keep all (pl.other hne hA0.1)
      have hBk := hB0.like all pl.1 fl.1 fl.2.1 fl.2.2.1
      have hlt : q + i < Bk.slots.size := by rw [fl.2.2.1]; omega
      have c3 : Steps p.tables e below (s₁.setTop (entryFrame m #[.ref b, .int (Int32.ofNat o), .ref d, .int (Int32.ofNat q), .int (Int32.ofNat len)] 7)) (Tl.setTop (mkF m 12 #[.val (.ref b), .val (.int (Int32.ofNat (o + i))), .val (.ref d), .val (.int (Int32.ofNat (q + i))), .val (.int (Int32.ofNat len)), .val (.int (Int32.ofNat i)), z] [.int (Int32.ofNat (o + i)), .ref b])) := cl.trans (by
        refine XS.iload Xl.here hexec rfl (hb hbytes d3) rfl ?_
        refine XS.iload Xl.here hexec rfl (hb hbytes d5) rfl ?_
        refine XS.icmpNo Xl.here hexec rfl (hb hbytes d7) rfl (ii_ge_f (lt32 (by omega) (by omega))) ?_
        refine XS.aloadN Xl.here hexec rfl (hb hbytes d10) rfl rfl ?_
        refine XS.iloadN Xl.here hexec rfl (hb hbytes d11) rfl ?_
        exact Steps.refl _)
      have c4 : Steps p.tables e below (s₁.setTop (entryFrame m #[.ref b, .int (Int32.ofNat o), .ref d, .int (Int32.ofNat q), .int (Int32.ofNat len)] 7)) (Tl.setTop (mkF m 13 #[.val (.ref b), .val (.int (Int32.ofNat (o + i))), .val (.ref d), .val (.int (Int32.ofNat (q + i))), .val (.int (Int32.ofNat len)), .val (.int (Int32.ofNat i)), z] [.int (cv A (o + i))])) := c3.trans (by
        refine Xl.aget hexec hAl rfl (hA.get (i := o + i) (by omega)) rfl rfl (hb hbytes d12) ?_
        exact Steps.refl _)
      have c5 : Steps p.tables e below (s₁.setTop (entryFrame m #[.ref b, .int (Int32.ofNat o), .ref d, .int (Int32.ofNat q), .int (Int32.ofNat len)] 7)) (Tl.setTop (mkF m 15 #[.val (.ref b), .val (.int (Int32.ofNat (o + i))), .val (.ref d), .val (.int (Int32.ofNat (q + i))), .val (.int (Int32.ofNat len)), .val (.int (Int32.ofNat i)), .val (.int (cv A (o + i)))] [])) := c4.trans (by
        refine XS.istoreS Xl.here hexec rfl (hb hbytes d13) rfl rfl hz ?_
        exact Steps.refl _)
      have c6 : Steps p.tables e below (s₁.setTop (entryFrame m #[.ref b, .int (Int32.ofNat o), .ref d, .int (Int32.ofNat q), .int (Int32.ofNat len)] 7)) (Tl.setTop (mkF m 31 #[.val (.ref b), .val (.int (Int32.ofNat (o + i))), .val (.ref d), .val (.int (Int32.ofNat (q + i))), .val (.int (Int32.ofNat len)), .val (.int (Int32.ofNat i)), .val (.int (cv A (o + i)))] [.int (lo8 (cv A (o + i))), .int (Int32.ofNat (q + i)), .ref d])) := c5.trans (by
        refine XS.iload Xl.here hexec rfl (hb hbytes d15) rfl ?_
        refine sipushV Xl.here hexec rfl 255 (hb hbytes d17) (by decide) ?_
        refine XS.icmpYes Xl.here hexec rfl (pc0 := 20) rfl (hb hbytes d20) rfl (ii_le_t (hp i (by omega))) (by decide) rfl ?_
        refine XS.aloadN Xl.here hexec rfl (hb hbytes d26) rfl rfl ?_
        refine XS.iloadN Xl.here hexec rfl (hb hbytes d27) rfl ?_
        refine XS.iload Xl.here hexec rfl (hb hbytes d28) rfl ?_
        refine i2b Xl.here hexec rfl (hb hbytes d30) rfl ?_
        exact Steps.refl _)
      obtain ⟨T7, X7, p7, st7⟩ := Xl.aput hexec hBk rfl hlt rfl (fits_lo8 (cv A (o + i))) (g := (mkF m 31 #[.val (.ref b), .val (.int (Int32.ofNat (o + i))), .val (.ref d), .val (.int (Int32.ofNat (q + i))), .val (.int (Int32.ofNat len)), .val (.int (Int32.ofNat i)), .val (.int (cv A (o + i)))] [.int (lo8 (cv A (o + i))), .int (Int32.ofNat (q + i)), .ref d])) rfl (rest := []) rfl (hb hbytes d31)
      have c8 : Steps p.tables e below (s₁.setTop (entryFrame m #[.ref b, .int (Int32.ofNat o), .ref d, .int (Int32.ofNat q), .int (Int32.ofNat len)] 7)) (T7.setTop (mkF m 32 #[.val (.ref b), .val (.int (Int32.ofNat (o + i))), .val (.ref d), .val (.int (Int32.ofNat (q + i))), .val (.int (Int32.ofNat len)), .val (.int (Int32.ofNat i)), .val (.int (cv A (o + i)))] [])) := c6.trans (st7 _ (Steps.refl _))
      have c9 : Steps p.tables e below (s₁.setTop (entryFrame m #[.ref b, .int (Int32.ofNat o), .ref d, .int (Int32.ofNat q), .int (Int32.ofNat len)] 7)) (T7.setTop (mkF m 3 #[.val (.ref b), .val (.int (Int32.ofNat (o + i) + 1)), .val (.ref d), .val (.int (Int32.ofNat (q + i) + 1)), .val (.int (Int32.ofNat len)), .val (.int (Int32.ofNat i + 1)), .val (.int (cv A (o + i)))] [])) := c8.trans (by
        refine iincV X7.here hexec rfl 1 (hb hbytes d32) (by decide) rfl rfl ?_
        refine iincV X7.here hexec rfl 1 (hb hbytes d35) (by decide) rfl rfl ?_
        refine iincV X7.here hexec rfl 1 (hb hbytes d38) (by decide) rfl rfl ?_
        refine XS.goto X7.here hexec rfl (pc0 := 41) rfl (hb hbytes d41) (by decide) rfl ?_
        exact Steps.refl _)
      have c10 : Steps p.tables e below (s₁.setTop (entryFrame m #[.ref b, .int (Int32.ofNat o), .ref d, .int (Int32.ofNat q), .int (Int32.ofNat len)] 7)) (T7.setTop (mkF m 3 #[.val (.ref b), .val (.int (Int32.ofNat (o + (i + 1)))), .val (.ref d), .val (.int (Int32.ofNat (q + (i + 1)))), .val (.int (Int32.ofNat len)), .val (.int (Int32.ofNat (i + 1))), .val (.int (cv A (o + i)))] [])) := by
        have := c9
        rw [succ32, succ32, succ32] at this
        exact this
      exact ih (i + 1) (by omega) _ (Or.inr ⟨_, rfl, rfl⟩) T7 _ (by rw [copyLocs_step, ← List.append_assoc]; exact X7) (pl.trans p7) (fl.step (by omega) hlt (by simp)) c10
  obtain ⟨T9, B9, z9, X9, p9, f9, g9⟩ := loop len 0 (by omega) .unset (Or.inl rfl) s₁ B (by simpa [copyLocs] using X0) ⟨hB0.1, fun _ _ => rfl, rfl⟩ (Laid.zero _ _ _) c2
  have c11 : Steps p.tables e below (s₁.setTop (entryFrame m #[.ref b, .int (Int32.ofNat o), .ref d, .int (Int32.ofNat q), .int (Int32.ofNat len)] 7)) (T9.setTop (mkF m 46 #[.val (.ref b), .val (.int (Int32.ofNat (o + len))), .val (.ref d), .val (.int (Int32.ofNat (q + len))), .val (.int (Int32.ofNat len)), .val (.int (Int32.ofNat len)), z9] [.int (Int32.ofNat len)])) := g9.trans (by
    refine XS.iload X9.here hexec rfl (hb hbytes d3) rfl ?_
    refine XS.iload X9.here hexec rfl (hb hbytes d5) rfl ?_
    refine XS.icmpYes X9.here hexec rfl (pc0 := 7) rfl (hb hbytes d7) rfl (ii_ge_t (nlt32 (by omega) (Nat.le_refl _))) (by decide) rfl ?_
    refine XS.iload X9.here hexec rfl (hb hbytes d44) rfl ?_
    exact Steps.refl _)
  exact ⟨T9, some (.int (Int32.ofNat len)), _, _, _, X9, by simp, rfl, rfl, (fun h => by cases h), ⟨rfl, B9, p9.from hh0, f9⟩, fun fs hl => c11.trans (X9.ireturnOut hexec hret rfl (Or.inl rfl) (hb hbytes d46) hl)⟩
end Cmp5
namespace Cmp3
def yN : MethodName := ⟨"java/lang/StringUTF16", "compress", "([CII)[B"⟩
abbrev yB : ByteArray := jdk_52_method_16_code
theorem d0 : decode yB 0 = .ok (.iload_n 2, 1) := by decide +kernel
theorem d1 : decode yB 1 = .ok (.newarray .byte, 2) := by decide +kernel
theorem d3 : decode yB 3 = .ok (.astore_n 3, 1) := by decide +kernel
theorem d4 : decode yB 4 = .ok (.aload_n 0, 1) := by decide +kernel
theorem d5 : decode yB 5 = .ok (.iload_n 1, 1) := by decide +kernel
theorem d6 : decode yB 6 = .ok (.aload_n 3, 1) := by decide +kernel
theorem d7 : decode yB 7 = .ok (.iconst 0, 1) := by decide +kernel
theorem d8 : decode yB 8 = .ok (.iload_n 2, 1) := by decide +kernel
theorem d9 : decode yB 9 = .ok (.invokestatic 115, 3) := by decide +kernel
theorem d12 : decode yB 12 = .ok (.istore 4, 2) := by decide +kernel
theorem d14 : decode yB 14 = .ok (.iload 4, 2) := by decide +kernel
theorem d16 : decode yB 16 = .ok (.iload_n 2, 1) := by decide +kernel
theorem d17 : decode yB 17 = .ok (.if_icmp (.eq) 40, 3) := by decide +kernel
theorem d57 : decode yB 57 = .ok (.aload_n 3, 1) := by decide +kernel
theorem d58 : decode yB 58 = .ok (.areturn, 1) := by decide +kernel
def site : List Cond := [.arrayClass .byte, Cmp5.tab] ++ staticW U16 115 Cmp5.yN
def tab : Cond := tabOf yN yB 6 (some (.array .byte)) site
def P (b : Addr) (A : Cell) (o len : Nat) (args : Array Value) (s : State) : Prop := args = #[.ref b, .int (Int32.ofNat o), .int (Int32.ofNat len)] ∧ Ch b A s ∧ o + len ≤ A.slots.size ∧ len ≤ 536870912 ∧ ∀ i, i < len → ¬ 255 < cv A (o + i)
def E (b : Addr) (A : Cell) (o len : Nat) (r : Option Value) (s u : State) : Prop := NewArr .byte "[B" len (fun j => .int (lo8 (cv A (o + j)))) r s u ∧ u.heap.size = s.heap.size + 1
/-- no char of the range above 255: a new byte[] of their low bytes -/
theorem law (l : Launch) (b : Addr) (A : Cell) (o len : Nat) : Law l yN 3 3 1 18 yB 6 (some (.array .byte)) site (P b A o len) (E b A o len) [] 1 len := by
  refine Law.of_walk (plainFor_of_name (by decide +kernel)) (by decide +kernel) (by decide +kernel) (by decide) (fun _ _ h => by rw [h.1]; rfl) (fun _ U U' hal hh h => ⟨h.1, h.2.1.mv hal hh, h.2.2⟩) (fun r U U' V V' h1 hal h2 h => ⟨NewArr.mv r U U' V V' h1 hal h2 h.1, by rw [h1, h2]; exact h.2⟩) ?_
  intro p e s m args below meth c s₁ X0 hexec hbytes hml hret hlk hnm hown hh0 W hP
  obtain ⟨rfl, hA, l1, l2, hp⟩ := hP
  have a31 := hA.1.2.2.2
  have c1 : Steps p.tables e below (s₁.setTop (entryFrame m #[.ref b, .int (Int32.ofNat o), .int (Int32.ofNat len)] 6)) (s₁.setTop (mkF m 0 #[.val (.ref b), .val (.int (Int32.ofNat o)), .val (.int (Int32.ofNat len)), .unset, .unset, .unset] [])) := entry rfl
  have c2 : Steps p.tables e below (s₁.setTop (entryFrame m #[.ref b, .int (Int32.ofNat o), .int (Int32.ofNat len)] 6)) (s₁.setTop (mkF m 1 #[.val (.ref b), .val (.int (Int32.ofNat o)), .val (.int (Int32.ofNat len)), .unset, .unset, .unset] [.int (Int32.ofNat len)])) := c1.trans (by
    refine XS.iloadN X0.here hexec rfl (hb hbytes d0) rfl ?_
    exact Steps.refl _)
  obtain ⟨T3, B3, X3, ba3, bs3, bv3, bh3, bf3, st3⟩ := X0.anew hexec (atype := .byte) (wk W (.arrayClass .byte)) rfl (by show len * 1 ≤ _; omega) (by omega) (g := (mkF m 1 #[.val (.ref b), .val (.int (Int32.ofNat o)), .val (.int (Int32.ofNat len)), .unset, .unset, .unset] [.int (Int32.ofNat len)])) rfl (hb hbytes d1) (rest := []) rfl (Nat.le_refl _) (by show 0 + len ≤ len; omega)
  rw [hh0] at ba3 st3
  have kp3 : XT.Kept s T3 := (XT.Kept.of_eq hh0).push bh3
  have hA3 := hA.keep X3.warmed.alike (kp3 _ _ hA.1.1)
  have hne : b ≠ s.heap.size := hA.1.ne
  have c4 : Steps p.tables e below (s₁.setTop (entryFrame m #[.ref b, .int (Int32.ofNat o), .int (Int32.ofNat len)] 6)) (T3.setTop (mkF m 3 #[.val (.ref b), .val (.int (Int32.ofNat o)), .val (.int (Int32.ofNat len)), .unset, .unset, .unset] [.ref s.heap.size])) := c2.trans (st3 _ (Steps.refl _))
  have c5 : Steps p.tables e below (s₁.setTop (entryFrame m #[.ref b, .int (Int32.ofNat o), .int (Int32.ofNat len)] 6)) (T3.setTop (mkF m 9 #[.val (.ref b), .val (.int (Int32.ofNat o)), .val (.int (Int32.ofNat len)), .val (.ref s.heap.size), .unset, .unset] [.int (Int32.ofNat len), .int 0, .ref s.heap.size, .int (Int32.ofNat o), .ref b])) := c4.trans (by
    refine XS.astoreN X3.here hexec rfl (hb hbytes d3) rfl rfl rfl ?_
    refine XS.aloadN X3.here hexec rfl (hb hbytes d4) rfl rfl ?_
    refine XS.iloadN X3.here hexec rfl (hb hbytes d5) rfl ?_
    refine XS.aloadN X3.here hexec rfl (hb hbytes d6) rfl rfl ?_
    refine iconstV X3.here hexec rfl 0 (hb hbytes d7) (by decide) ?_
    refine XS.iloadN X3.here hexec rfl (hb hbytes d8) rfl ?_
    exact Steps.refl _)
  obtain ⟨v6, T6, X6, E6, g6⟩ := X3.callS hexec (Cmp5.law l b A s.heap.size B3 o 0 len) hown (wks W (staticW U16 115 Cmp5.yN)) (wk W Cmp5.tab) (W := 0) (Nat.le_of_ble_eq_true rfl) (Nat.le_of_ble_eq_true rfl) (Nat.le_refl _) (by show 0 + len + 0 ≤ len; omega) (g := (mkF m 9 #[.val (.ref b), .val (.int (Int32.ofNat o)), .val (.int (Int32.ofNat len)), .val (.ref s.heap.size), .unset, .unset] [.int (Int32.ofNat len), .int (Int32.ofNat 0), .ref s.heap.size, .int (Int32.ofNat o), .ref b])) rfl (by rw [hml]; rfl) c5 (argsL := [.ref b, .int (Int32.ofNat o), .ref s.heap.size, .int (Int32.ofNat 0), .int (Int32.ofNat len)]) (rest := []) rfl rfl (by show 2 * 0 + 0 ≤ _; decide) (hb hbytes d9) (⟨rfl, hA3, ba3, hne, l1, by rw [bs3]; simp, hp⟩)
  obtain ⟨rfl, B6, p6, f6⟩ := E6
  have c7 : Steps p.tables e below (s₁.setTop (entryFrame m #[.ref b, .int (Int32.ofNat o), .int (Int32.ofNat len)] 6)) (T6.setTop (mkF m 12 #[.val (.ref b), .val (.int (Int32.ofNat o)), .val (.int (Int32.ofNat len)), .val (.ref s.heap.size), .unset, .unset] [.int (Int32.ofNat len)])) := g6
  have c8 : Steps p.tables e below (s₁.setTop (entryFrame m #[.ref b, .int (Int32.ofNat o), .int (Int32.ofNat len)] 6)) (T6.setTop (mkF m 58 #[.val (.ref b), .val (.int (Int32.ofNat o)), .val (.int (Int32.ofNat len)), .val (.ref s.heap.size), .val (.int (Int32.ofNat len)), .unset] [.ref s.heap.size])) := c7.trans (by
    refine XS.istore X6.here hexec rfl (hb hbytes d12) rfl rfl ?_
    refine XS.iload X6.here hexec rfl (hb hbytes d14) rfl ?_
    refine XS.iloadN X6.here hexec rfl (hb hbytes d16) rfl ?_
    refine XS.icmpYes X6.here hexec rfl (pc0 := 17) rfl (hb hbytes d17) rfl (ii_eq_t rfl) (by decide) rfl ?_
    refine XS.aloadN X6.here hexec rfl (hb hbytes d57) rfl rfl ?_
    exact Steps.refl _)
  have X8 := X6.wide (L' := []) (cells' := 1) (slots' := len) (fun x hx hlt => by
    simp only [List.nil_append, copyLocs, List.mem_map, List.mem_range] at hx
    obtain ⟨i, -, rfl⟩ := hx
    exact absurd hlt (Nat.lt_irrefl _)) (Nat.le_refl _) (by omega)
  exact ⟨T6, some (.ref s.heap.size), _, _, _, X8, rfl, rfl, rfl, (fun h => by cases h), ⟨⟨rfl, B6, ba3.like (X3.warmed.alike.symm.trans X6.warmed.alike) p6.1 f6.1 f6.2.1 f6.2.2.1, f6.2.1.trans bv3, by rw [X6.warmed.alike.findClass, f6.1]; exact bf3, by rw [f6.2.2.1, bs3]; simp, fun j hj => by rw [f6.2.2.2 j, if_pos (by omega)]; rfl, kp3.put p6 (Nat.le_refl _)⟩, by rw [p6.2.2, bh3, hh0]; simp⟩, fun fs hl => c8.trans (X8.areturnOut hexec rfl hret rfl (hb hbytes d58) hl)⟩
end Cmp3
namespace CodL
def yN : MethodName := ⟨"java/lang/StringUTF16", "coderFromArrayLen", "([BI)B"⟩
abbrev yB : ByteArray := jdk_52_method_15_code
theorem d0 : decode yB 0 = .ok (.iload_n 1, 1) := by decide +kernel
theorem d1 : decode yB 1 = .ok (.aload_n 0, 1) := by decide +kernel
theorem d2 : decode yB 2 = .ok (.arraylength, 1) := by decide +kernel
theorem d3 : decode yB 3 = .ok (.isub, 1) := by decide +kernel
theorem d4 : decode yB 4 = .ok (.bipush 31, 2) := by decide +kernel
theorem d6 : decode yB 6 = .ok (.iushr, 1) := by decide +kernel
theorem d7 : decode yB 7 = .ok (.i2b, 1) := by decide +kernel
theorem d8 : decode yB 8 = .ok (.ireturn, 1) := by decide +kernel
def site : List Cond := []
def tab : Cond := tabOf yN yB 2 (some .byte) site
def P (d : Addr) (B : Cell) (args : Array Value) (s : State) : Prop := args = #[.ref d, .int (Int32.ofNat B.slots.size)] ∧ Arr .byte d B s
def E (r : Option Value) (s u : State) : Prop := XT.PureE (some (.int 0)) r s u
/-- an array as long as the number of chars: LATIN1 -/
theorem law (l : Launch) (d : Addr) (B : Cell) : Law l yN 2 2 0 0 yB 2 (some .byte) site (P d B) E [] 0 0 := by
  refine Law.of_walk (plainFor_of_name (by decide +kernel)) (by decide +kernel) (by decide +kernel) (by decide) (fun _ _ h => by rw [h.1]; rfl) (fun _ U U' hal hh h => ⟨h.1, h.2.mv hal hh⟩) (fun r U U' V V' h1 hal h2 h => XT.PureE.mv r U U' V V' h1 hal h2 h) ?_
  intro p e s m args below meth c s₁ X0 hexec hbytes hml hret hlk hnm hown hh0 W hP
  obtain ⟨rfl, hB⟩ := hP
  have hB0 := hB.mv X0.warmed.alike hh0
  have c1 : Steps p.tables e below (s₁.setTop (entryFrame m #[.ref d, .int (Int32.ofNat B.slots.size)] 2)) (s₁.setTop (mkF m 0 #[.val (.ref d), .val (.int (Int32.ofNat B.slots.size))] [])) := entry rfl
  have c2 : Steps p.tables e below (s₁.setTop (entryFrame m #[.ref d, .int (Int32.ofNat B.slots.size)] 2)) (s₁.setTop (mkF m 2 #[.val (.ref d), .val (.int (Int32.ofNat B.slots.size))] [.ref d, .int (Int32.ofNat B.slots.size)])) := c1.trans (by
    refine XS.iloadN X0.here hexec rfl (hb hbytes d0) rfl ?_
    refine XS.aloadN X0.here hexec rfl (hb hbytes d1) rfl rfl ?_
    exact Steps.refl _)
  have c3 : Steps p.tables e below (s₁.setTop (entryFrame m #[.ref d, .int (Int32.ofNat B.slots.size)] 2)) (s₁.setTop (mkF m 8 #[.val (.ref d), .val (.int (Int32.ofNat B.slots.size))] [.int (lo8 (ushr (Int32.ofNat B.slots.size - Int32.ofNat B.slots.size) 31))])) := c2.trans (by
    refine X0.alen hexec hB0 rfl rfl (hb hbytes d2) ?_
    refine XS.isub X0.here hexec rfl (hb hbytes d3) rfl ?_
    refine bipushV X0.here hexec rfl 31 (hb hbytes d4) (by decide) ?_
    refine iushr X0.here hexec rfl (hb hbytes d6) rfl ?_
    refine i2b X0.here hexec rfl (hb hbytes d7) rfl ?_
    exact Steps.refl _)
  have e0 : lo8 (ushr (Int32.ofNat B.slots.size - Int32.ofNat B.slots.size) 31) = 0 := by rw [Int32.sub_self]; decide
  rw [e0] at c3
  exact ⟨s₁, some (.int 0), _, _, _, X0, rfl, rfl, rfl, (fun h => by cases h), ⟨rfl, hh0⟩, fun fs hl => c3.trans (X0.ireturnOut hexec hret rfl (Or.inr (Or.inr (Or.inl rfl))) (hb hbytes d8) hl)⟩
end CodL
/-- the String at a is Latin-1 over a new byte[] (the heap's one new cell): the low bytes of the len chars of A from o on; every cell but a is kept -/
def Got (a : Addr) (D : Cell) (fV fC : Field) (A : Cell) (o len : Nat) (r : Option Value) (s u : State) : Prop := r = none ∧ ∃ D' V : Cell, Blank "java/lang/String" a D' u ∧ Same D D' [fV.slot, fC.slot] ∧ D'.slots[fV.slot]? = some (.ref s.heap.size) ∧ D'.slots[fC.slot]? = some (.int 0) ∧ Arr .byte s.heap.size V u ∧ V.vm = .none ∧ u.vm.findClass "[B" = some V.cls ∧ V.slots.size = len ∧ (∀ j, j < len → V.slots[j]? = some (.int (lo8 (cv A (o + j))))) ∧ (∀ (y : Addr) (c : Cell), y ≠ a → s.heap[y]? = some c → u.heap[y]? = some c) ∧ u.heap.size = s.heap.size + 1
theorem Got.mv {a : Addr} {D A : Cell} {fV fC : Field} {o len : Nat} : ∀ r (U U' V V' : State), U'.heap = U.heap → V.vm.Alike V'.vm → V'.heap = V.heap → Got a D fV fC A o len r U V → Got a D fV fC A o len r U' V' :=
  fun r U U' V V' h1 hal h2 ⟨e0, D', X, a1, a2, a3, a4, a5, a6, a7, a8, a9, a10, a11⟩ => ⟨e0, D', X, a1.mv hal h2, a2, by rw [h1]; exact a3, a4, by rw [h1]; exact a5.mv hal h2, a6, by rw [hal.findClass]; exact a7, a8, a9, by rw [h1, h2]; exact a10, by rw [h1, h2]; exact a11⟩
namespace New4
def yN : MethodName := ⟨"java/lang/String", "<init>", "([CIILjava/lang/Void;)V"⟩
abbrev yB : ByteArray := jdk_42_method_149_code
theorem d0 : decode yB 0 = .ok (.aload_n 0, 1) := by decide +kernel
theorem d1 : decode yB 1 = .ok (.invokespecial 1, 3) := by decide +kernel
theorem d4 : decode yB 4 = .ok (.iload_n 3, 1) := by decide +kernel
theorem d5 : decode yB 5 = .ok (.ifCond (.ne) 22, 3) := by decide +kernel
theorem d27 : decode yB 27 = .ok (.getstatic 38, 3) := by decide +kernel
theorem d30 : decode yB 30 = .ok (.ifCond (.eq) 28, 3) := by decide +kernel
theorem d33 : decode yB 33 = .ok (.aload_n 1, 1) := by decide +kernel
theorem d34 : decode yB 34 = .ok (.iload_n 2, 1) := by decide +kernel
theorem d35 : decode yB 35 = .ok (.iload_n 3, 1) := by decide +kernel
theorem d36 : decode yB 36 = .ok (.invokestatic 177, 3) := by decide +kernel
theorem d39 : decode yB 39 = .ok (.astore 5, 2) := by decide +kernel
theorem d41 : decode yB 41 = .ok (.aload_n 0, 1) := by decide +kernel
theorem d42 : decode yB 42 = .ok (.aload 5, 2) := by decide +kernel
theorem d44 : decode yB 44 = .ok (.iload_n 3, 1) := by decide +kernel
theorem d45 : decode yB 45 = .ok (.invokestatic 47, 3) := by decide +kernel
theorem d48 : decode yB 48 = .ok (.putfield 15, 3) := by decide +kernel
theorem d51 : decode yB 51 = .ok (.aload_n 0, 1) := by decide +kernel
theorem d52 : decode yB 52 = .ok (.aload 5, 2) := by decide +kernel
theorem d54 : decode yB 54 = .ok (.putfield 9, 3) := by decide +kernel
theorem d57 : decode yB 57 = .ok (.return_, 1) := by decide +kernel
def site : List Cond := [.fieldLink "java/lang/String" 38 "java/lang/String" "COMPACT_STRINGS" "Z", Cmp3.tab, CodL.tab, .laysFinal "java/lang/String" "java/lang/String" "value" "[B", .fieldLink "java/lang/String" 9 "java/lang/String" "value" "[B", .laysFinal "java/lang/String" "java/lang/String" "coder" "B", .fieldLink "java/lang/String" 15 "java/lang/String" "coder" "B"] ++ objW "java/lang/String" 1 ++ staticW "java/lang/String" 177 Cmp3.yN ++ staticW "java/lang/String" 47 CodL.yN
def tab : Cond := tabOf yN yB 6 none site
def P (a : Addr) (D : Cell) (fV fC : Field) (b : Addr) (A : Cell) (z : Int32) (o len : Nat) (args : Array Value) (s : State) : Prop := args = #[.ref a, .ref b, .int (Int32.ofNat o), .int (Int32.ofNat len), .null] ∧ Blank "java/lang/String" a D s ∧ Found "java/lang/String" "value" "[B" fV s ∧ Found "java/lang/String" "coder" "B" fC s ∧ Ch b A s ∧ StaticIs s "java/lang/String" "COMPACT_STRINGS" "Z" (.int z) ∧ ¬ z = 0 ∧ 0 < len ∧ o + len ≤ A.slots.size ∧ len ≤ 536870912 ∧ ∀ i, i < len → ¬ 255 < cv A (o + i)
def E (a : Addr) (D : Cell) (fV fC : Field) (A : Cell) (o len : Nat) (r : Option Value) (s u : State) : Prop := Got a D fV fC A o len r s u
/-- len > 0, no char of the range above 255: a Latin-1 String of their low bytes -/
theorem law (l : Launch) (a : Addr) (D : Cell) (fV fC : Field) (b : Addr) (A : Cell) (z : Int32) (o len : Nat) : Law l yN 5 4 2 35 yB 6 none site (P a D fV fC b A z o len) (E a D fV fC A o len) [⟨a, fC.slot⟩, ⟨a, fV.slot⟩] 1 len := by
  refine Law.of_walk (plainFor_of_name (by decide +kernel)) (by decide +kernel) (by decide +kernel) (by decide) (fun _ _ h => by rw [h.1]; rfl) (fun _ U U' hal hh h => ⟨h.1, h.2.1.mv hal hh, h.2.2.1.al hal, h.2.2.2.1.al hal, h.2.2.2.2.1.mv hal hh, h.2.2.2.2.2.1.there hal hh, h.2.2.2.2.2.2⟩) (fun r U U' V V' h1 hal h2 h => Got.mv r U U' V V' h1 hal h2 h) ?_
  intro p e s m args below meth c s₁ X0 hexec hbytes hml hret hlk hnm hown hh0 W hP
  obtain ⟨rfl, hB, f1, f2, hA, s1, hz, l0, l1, l2, hp⟩ := hP
  have a31 := hA.1.2.2.2
  have c1 : Steps p.tables e below (s₁.setTop (entryFrame m #[.ref a, .ref b, .int (Int32.ofNat o), .int (Int32.ofNat len), .null] 6)) (s₁.setTop (mkF m 0 #[.val (.ref a), .val (.ref b), .val (.int (Int32.ofNat o)), .val (.int (Int32.ofNat len)), .val .null, .unset] [])) := entry rfl
  have c2 : Steps p.tables e below (s₁.setTop (entryFrame m #[.ref a, .ref b, .int (Int32.ofNat o), .int (Int32.ofNat len), .null] 6)) (s₁.setTop (mkF m 1 #[.val (.ref a), .val (.ref b), .val (.int (Int32.ofNat o)), .val (.int (Int32.ofNat len)), .val .null, .unset] [.ref a])) := c1.trans (by
    refine XS.aloadN X0.here hexec rfl (hb hbytes d0) rfl rfl ?_
    exact Steps.refl _)
  obtain ⟨T3, X3, q3, st3⟩ := X0.oinit hexec hown (wks W (objW "java/lang/String" 1)) (g := (mkF m 1 #[.val (.ref a), .val (.ref b), .val (.int (Int32.ofNat o)), .val (.int (Int32.ofNat len)), .val .null, .unset] [.ref a])) rfl (by rw [hml]; rfl) (rest := []) rfl (hb hbytes d1) (W := 0) (by show 2 * 0 + 0 ≤ _; decide) (Nat.le_of_ble_eq_true rfl) (Nat.le_of_ble_eq_true rfl)
  have hh3 := q3.trans hh0
  have c4 : Steps p.tables e below (s₁.setTop (entryFrame m #[.ref a, .ref b, .int (Int32.ofNat o), .int (Int32.ofNat len), .null] 6)) (T3.setTop (mkF m 27 #[.val (.ref a), .val (.ref b), .val (.int (Int32.ofNat o)), .val (.int (Int32.ofNat len)), .val .null, .unset] [])) := (c2.trans (st3 _ (Steps.refl _))).trans (by
    refine XS.iloadN X3.here hexec rfl (hb hbytes d4) rfl ?_
    refine XS.ifYes X3.here hexec rfl (pc0 := 5) rfl (hb hbytes d5) rfl (i0_ne_t (nz32 (by omega) l0)) (by decide) rfl ?_
    exact Steps.refl _)
  obtain ⟨T5, X5, q5, st5⟩ := X3.sget hexec hown (wk W (.fieldLink "java/lang/String" 38 "java/lang/String" "COMPACT_STRINGS" "Z")) s1 (fun _ _ h => by rw [hh3]; exact h) (g := (mkF m 27 #[.val (.ref a), .val (.ref b), .val (.int (Int32.ofNat o)), .val (.int (Int32.ofNat len)), .val .null, .unset] [])) rfl (hb hbytes d27)
  have hh5 := q5.trans hh3
  have c6 : Steps p.tables e below (s₁.setTop (entryFrame m #[.ref a, .ref b, .int (Int32.ofNat o), .int (Int32.ofNat len), .null] 6)) (T5.setTop (mkF m 30 #[.val (.ref a), .val (.ref b), .val (.int (Int32.ofNat o)), .val (.int (Int32.ofNat len)), .val .null, .unset] [.int z])) := c4.trans (st5 _ (Steps.refl _))
  have c7 : Steps p.tables e below (s₁.setTop (entryFrame m #[.ref a, .ref b, .int (Int32.ofNat o), .int (Int32.ofNat len), .null] 6)) (T5.setTop (mkF m 36 #[.val (.ref a), .val (.ref b), .val (.int (Int32.ofNat o)), .val (.int (Int32.ofNat len)), .val .null, .unset] [.int (Int32.ofNat len), .int (Int32.ofNat o), .ref b])) := c6.trans (by
    refine XS.ifNo X5.here hexec rfl (hb hbytes d30) rfl (i0_eq_f hz) ?_
    refine XS.aloadN X5.here hexec rfl (hb hbytes d33) rfl rfl ?_
    refine XS.iloadN X5.here hexec rfl (hb hbytes d34) rfl ?_
    refine XS.iloadN X5.here hexec rfl (hb hbytes d35) rfl ?_
    exact Steps.refl _)
  obtain ⟨v8, T8, X8, E8, g8⟩ := X5.callS hexec (Cmp3.law l b A o len) hown (wks W (staticW "java/lang/String" 177 Cmp3.yN)) (wk W Cmp3.tab) (W := 0) (Nat.le_of_ble_eq_true rfl) (Nat.le_of_ble_eq_true rfl) (Nat.le_refl _) (by show 0 + len ≤ len; omega) (g := (mkF m 36 #[.val (.ref a), .val (.ref b), .val (.int (Int32.ofNat o)), .val (.int (Int32.ofNat len)), .val .null, .unset] [.int (Int32.ofNat len), .int (Int32.ofNat o), .ref b])) rfl (by rw [hml]; rfl) c7 (argsL := [.ref b, .int (Int32.ofNat o), .int (Int32.ofNat len)]) (rest := []) rfl rfl (by show 2 * 0 + 0 ≤ _; decide) (hb hbytes d36) (⟨rfl, hA.mv X5.warmed.alike hh5, l1, l2, hp⟩)
  obtain ⟨e8, z8⟩ := E8
  obtain ⟨rfl, N, n1, n2, n3, n4, n5, n6⟩ := NewArr.mv _ T5 s _ _ hh5.symm (Vm.Alike.refl _) rfl e8
  rw [hh5] at z8
  have hB1 := hB.keep X8.warmed.alike (n6 _ _ hB.1)
  have hne : s.heap.size ≠ a := (Nat.ne_of_lt (Array.getElem?_eq_some_iff.mp hB.1).1).symm
  have c9 : Steps p.tables e below (s₁.setTop (entryFrame m #[.ref a, .ref b, .int (Int32.ofNat o), .int (Int32.ofNat len), .null] 6)) (T8.setTop (mkF m 39 #[.val (.ref a), .val (.ref b), .val (.int (Int32.ofNat o)), .val (.int (Int32.ofNat len)), .val .null, .unset] [.ref s.heap.size])) := g8
  have c10 : Steps p.tables e below (s₁.setTop (entryFrame m #[.ref a, .ref b, .int (Int32.ofNat o), .int (Int32.ofNat len), .null] 6)) (T8.setTop (mkF m 45 #[.val (.ref a), .val (.ref b), .val (.int (Int32.ofNat o)), .val (.int (Int32.ofNat len)), .val .null, .val (.ref s.heap.size)] [.int (Int32.ofNat N.slots.size), .ref s.heap.size, .ref a])) := by
    have hc : Steps p.tables e below (s₁.setTop (entryFrame m #[.ref a, .ref b, .int (Int32.ofNat o), .int (Int32.ofNat len), .null] 6)) (T8.setTop (mkF m 45 #[.val (.ref a), .val (.ref b), .val (.int (Int32.ofNat o)), .val (.int (Int32.ofNat len)), .val .null, .val (.ref s.heap.size)] [.int (Int32.ofNat len), .ref s.heap.size, .ref a])) := c9.trans (by
      refine XS.astore X8.here hexec rfl (hb hbytes d39) rfl rfl rfl ?_
      refine XS.aloadN X8.here hexec rfl (hb hbytes d41) rfl rfl ?_
      refine XS.aload X8.here hexec rfl (hb hbytes d42) rfl rfl ?_
      refine XS.iloadN X8.here hexec rfl (hb hbytes d44) rfl ?_
      exact Steps.refl _)
    rw [n4]; exact hc
  obtain ⟨v11, T11, X11, E11, g11⟩ := X8.callS hexec (CodL.law l s.heap.size N) hown (wks W (staticW "java/lang/String" 47 CodL.yN)) (wk W CodL.tab) (W := 1) (Nat.le_of_ble_eq_true rfl) (Nat.le_of_ble_eq_true rfl) (Nat.le_refl _) (by show 0 + len + 0 ≤ len; omega) (g := (mkF m 45 #[.val (.ref a), .val (.ref b), .val (.int (Int32.ofNat o)), .val (.int (Int32.ofNat len)), .val .null, .val (.ref s.heap.size)] [.int (Int32.ofNat N.slots.size), .ref s.heap.size, .ref a])) rfl (by rw [hml]; rfl) c10 (argsL := [.ref s.heap.size, .int (Int32.ofNat N.slots.size)]) (rest := [.ref a]) rfl rfl (by show 2 * 0 + (1 + 0) ≤ _; decide) (hb hbytes d45) (⟨rfl, n1⟩)
  obtain ⟨rfl, q11⟩ := E11
  have hB11 := hB1.mv (X8.warmed.alike.symm.trans X11.warmed.alike) q11
  have c12 : Steps p.tables e below (s₁.setTop (entryFrame m #[.ref a, .ref b, .int (Int32.ofNat o), .int (Int32.ofNat len), .null] 6)) (T11.setTop (mkF m 48 #[.val (.ref a), .val (.ref b), .val (.int (Int32.ofNat o)), .val (.int (Int32.ofNat len)), .val .null, .val (.ref s.heap.size)] [.int 0, .ref a])) := g11
  obtain ⟨T13, X13, p13, bl13, sl13, st13⟩ := X11.finit hexec hown (wk W (.fieldLink "java/lang/String" 15 "java/lang/String" "coder" "B")) (Or.inr ⟨_, (wk W (.laysFinal "java/lang/String" "java/lang/String" "coder" "B"))⟩) (Or.inl ⟨rfl, hnm⟩) f2 (Or.inl rfl) hB11 (t := .byte) (by decide +kernel) rfl (g := (mkF m 48 #[.val (.ref a), .val (.ref b), .val (.int (Int32.ofNat o)), .val (.int (Int32.ofNat len)), .val .null, .val (.ref s.heap.size)] [.int 0, .ref a])) rfl (rest := []) rfl (hb hbytes d48)
  have c14 : Steps p.tables e below (s₁.setTop (entryFrame m #[.ref a, .ref b, .int (Int32.ofNat o), .int (Int32.ofNat len), .null] 6)) (T13.setTop (mkF m 54 #[.val (.ref a), .val (.ref b), .val (.int (Int32.ofNat o)), .val (.int (Int32.ofNat len)), .val .null, .val (.ref s.heap.size)] [.ref s.heap.size, .ref a])) := (c12.trans (st13 _ (Steps.refl _))).trans (by
    refine XS.aloadN X13.here hexec rfl (hb hbytes d51) rfl rfl ?_
    refine XS.aload X13.here hexec rfl (hb hbytes d52) rfl rfl ?_
    exact Steps.refl _)
  obtain ⟨T15, X15, p15, bl15, sl15, st15⟩ := X13.finit hexec hown (wk W (.fieldLink "java/lang/String" 9 "java/lang/String" "value" "[B")) (Or.inr ⟨_, (wk W (.laysFinal "java/lang/String" "java/lang/String" "value" "[B"))⟩) (Or.inl ⟨rfl, hnm⟩) f1 (Or.inl rfl) bl13 (t := (.array .byte)) (by decide +kernel) rfl (g := (mkF m 54 #[.val (.ref a), .val (.ref b), .val (.int (Int32.ofNat o)), .val (.int (Int32.ofNat len)), .val .null, .val (.ref s.heap.size)] [.ref s.heap.size, .ref a])) rfl (rest := []) rfl (hb hbytes d54)
  have c16 : Steps p.tables e below (s₁.setTop (entryFrame m #[.ref a, .ref b, .int (Int32.ofNat o), .int (Int32.ofNat len), .null] 6)) (T15.setTop (mkF m 57 #[.val (.ref a), .val (.ref b), .val (.int (Int32.ofNat o)), .val (.int (Int32.ofNat len)), .val .null, .val (.ref s.heap.size)] [])) := c14.trans (st15 _ (Steps.refl _))
  have ap := apart (Or.inr ⟨_, (wk W (.laysFinal "java/lang/String" "java/lang/String" "value" "[B"))⟩) (Or.inr ⟨_, (wk W (.laysFinal "java/lang/String" "java/lang/String" "coder" "B"))⟩) f1 f2 (t₁ := .array .byte) (t₂ := .byte) (by decide +kernel) (by decide +kernel) (by decide)
  have al := X8.warmed.alike.symm.trans X15.warmed.alike
  have n7 : T11.heap[s.heap.size]? = some N := by rw [q11]; exact n1.1
  exact ⟨T15, none, _, _, _, X15, by simp, rfl, by omega, (fun _ => rfl), ⟨rfl, _, N, bl15, ((Same.refl D _).set _ (by simp)).set _ (by simp), sl15, (Cell.slots_setSlot_ne _ ap).trans sl13, n1.keep al (p15.other hne (p13.other hne n7)), n2, by rw [al.findClass]; exact n3, n4, n5, fun y c h1 h2 => p15.other h1 (p13.other h1 (by rw [q11]; exact n6 y c h2)), by rw [p15.2.2, p13.2.2, q11]; exact z8⟩, fun fs hl => c16.trans (X15.returnOut hexec hret (hb hbytes d57) hl)⟩
end New4
namespace New1
def yN : MethodName := ⟨"java/lang/String", "<init>", "([C)V"⟩
abbrev yB : ByteArray := jdk_42_method_3_code
theorem d0 : decode yB 0 = .ok (.aload_n 0, 1) := by decide +kernel
theorem d1 : decode yB 1 = .ok (.aload_n 1, 1) := by decide +kernel
theorem d2 : decode yB 2 = .ok (.iconst 0, 1) := by decide +kernel
theorem d3 : decode yB 3 = .ok (.aload_n 1, 1) := by decide +kernel
theorem d4 : decode yB 4 = .ok (.arraylength, 1) := by decide +kernel
theorem d5 : decode yB 5 = .ok (.aconst_null, 1) := by decide +kernel
theorem d6 : decode yB 6 = .ok (.invokespecial 27, 3) := by decide +kernel
theorem d9 : decode yB 9 = .ok (.return_, 1) := by decide +kernel
def site : List Cond := [New4.tab] ++ initW "java/lang/String" 27 New4.yN
def tab : Cond := tabOf yN yB 2 none site
def P (a : Addr) (D : Cell) (fV fC : Field) (b : Addr) (A : Cell) (z : Int32) (args : Array Value) (s : State) : Prop := args = #[.ref a, .ref b] ∧ Blank "java/lang/String" a D s ∧ Found "java/lang/String" "value" "[B" fV s ∧ Found "java/lang/String" "coder" "B" fC s ∧ Ch b A s ∧ StaticIs s "java/lang/String" "COMPACT_STRINGS" "Z" (.int z) ∧ ¬ z = 0 ∧ 0 < A.slots.size ∧ A.slots.size ≤ 536870912 ∧ ∀ i, i < A.slots.size → ¬ 255 < cv A i
def E (a : Addr) (D : Cell) (fV fC : Field) (A : Cell) (r : Option Value) (s u : State) : Prop := Got a D fV fC A 0 A.slots.size r s u
/-- new String(chars), not empty, no char above 255: a Latin-1 String of their low bytes -/
theorem law (l : Launch) (a : Addr) (D : Cell) (fV fC : Field) (b : Addr) (A : Cell) (z : Int32) : Law l yN 2 1 3 52 yB 2 none site (P a D fV fC b A z) (E a D fV fC A) [⟨a, fC.slot⟩, ⟨a, fV.slot⟩] 1 A.slots.size := by
  refine Law.of_walk (plainFor_of_name (by decide +kernel)) (by decide +kernel) (by decide +kernel) (by decide) (fun _ _ h => by rw [h.1]; rfl) (fun _ U U' hal hh h => ⟨h.1, h.2.1.mv hal hh, h.2.2.1.al hal, h.2.2.2.1.al hal, h.2.2.2.2.1.mv hal hh, h.2.2.2.2.2.1.there hal hh, h.2.2.2.2.2.2⟩) (fun r U U' V V' h1 hal h2 h => Got.mv r U U' V V' h1 hal h2 h) ?_
  intro p e s m args below meth c s₁ X0 hexec hbytes hml hret hlk hnm hown hh0 W hP
  obtain ⟨rfl, hB, f1, f2, hA, s1, hz, l0, l2, hp⟩ := hP
  have c1 : Steps p.tables e below (s₁.setTop (entryFrame m #[.ref a, .ref b] 2)) (s₁.setTop (mkF m 0 #[.val (.ref a), .val (.ref b)] [])) := entry rfl
  have c2 : Steps p.tables e below (s₁.setTop (entryFrame m #[.ref a, .ref b] 2)) (s₁.setTop (mkF m 6 #[.val (.ref a), .val (.ref b)] [.null, .int (Int32.ofNat A.slots.size), .int 0, .ref b, .ref a])) := c1.trans (by
    refine XS.aloadN X0.here hexec rfl (hb hbytes d0) rfl rfl ?_
    refine XS.aloadN X0.here hexec rfl (hb hbytes d1) rfl rfl ?_
    refine iconstV X0.here hexec rfl 0 (hb hbytes d2) (by decide) ?_
    refine XS.aloadN X0.here hexec rfl (hb hbytes d3) rfl rfl ?_
    refine X0.alen hexec (hA.1.mv X0.warmed.alike hh0) rfl rfl (hb hbytes d4) ?_
    refine XS.aconstNull X0.here hexec rfl (hb hbytes d5) ?_
    exact Steps.refl _)
  obtain ⟨v3, T3, X3, E3, g3⟩ := X0.callN hexec (New4.law l a D fV fC b A z 0 A.slots.size) rfl hown (wks W (initW "java/lang/String" 27 New4.yN)) (W New4.tab (by simp only [site, List.mem_cons, List.mem_append, true_or, or_true])) (W := 0) (Nat.le_of_ble_eq_true rfl) (Nat.le_of_ble_eq_true rfl) (Nat.le_refl _) (by show 0 + A.slots.size ≤ A.slots.size; omega) (g := (mkF m 6 #[.val (.ref a), .val (.ref b)] [.null, .int (Int32.ofNat A.slots.size), .int (Int32.ofNat 0), .ref b, .ref a])) rfl (by rw [hml]; rfl) c2 (argsL := [.ref b, .int (Int32.ofNat 0), .int (Int32.ofNat A.slots.size), .null]) (rest := []) rfl rfl (by show 2 * 0 + 0 ≤ _; decide) (hb hbytes d6) (⟨rfl, hB.mv X0.warmed.alike hh0, f1.al X0.warmed.alike, f2.al X0.warmed.alike, hA.mv X0.warmed.alike hh0, s1.there X0.warmed.alike hh0, hz, l0, by omega, l2, fun i hi => by rw [Nat.zero_add]; exact hp i hi⟩)
  have e0 := Got.mv _ s₁ s _ _ hh0.symm (Vm.Alike.refl _) rfl E3
  obtain rfl := e0.1
  have c4 : Steps p.tables e below (s₁.setTop (entryFrame m #[.ref a, .ref b] 2)) (T3.setTop (mkF m 9 #[.val (.ref a), .val (.ref b)] [])) := g3
  exact ⟨T3, none, _, _, _, X3, by simp, rfl, by omega, (fun _ => rfl), e0, fun fs hl => c4.trans (X3.returnOut hexec hret (hb hbytes d9) hl)⟩
theorem pays {l : Launch} {R : Room} {p : Program} {e : Env} {below : List Frame} {s : State} {sargs : Array Value} {len W : Nat} (a : Addr) (D : Cell) (fV fC : Field) (b : Addr) (A : Cell) (z : Int32) (htab : tab.before sargs s = true) (hfr : 4 ≤ R.frames) (hlo : W + 65 ≤ R.locals) :
    Back l R p e below s sargs yN len W (fun A₁ a₁ => A₁.cells + 1 ≤ R.cells ∧ A₁.slots + A.slots.size ≤ R.slots ∧ P a D fV fC b A z a₁ A₁.U) (fun A₁ _ v₁ B₁ => E a D fV fC A v₁ A₁.U B₁.U ∧ B₁.locs = A₁.locs ++ [⟨a, fC.slot⟩, ⟨a, fV.slot⟩] ∧ B₁.cells = A₁.cells + 1 ∧ B₁.slots = A₁.slots + A.slots.size) :=
  (law l a D fV fC b A z).pays htab hfr (by omega)
end New1
end StrChars
namespace StrChars.Road
open Jvm Sem ClassFile Op Lib Jvm.Stand Jvm.Free Jvm.Free.XT
open Jvm.Lib.Cold (StaticIs)
abbrev ST : String := "java/lang/String"
/-- every table word that New1's law asks, flat -/
abbrev words : List Jvm.Cond := [.code New1.yN New1.yB 2 none, .initialized ST, .methodLink ST 27 New4.yN, .instanceMethod New4.yN,
  .code New4.yN New4.yB 6 none, .fieldLink ST 38 ST "COMPACT_STRINGS" "Z", .laysFinal ST ST "value" "[B", .fieldLink ST 9 ST "value" "[B", .laysFinal ST ST "coder" "B", .fieldLink ST 15 ST "coder" "B",
  .methodLink ST 1 Lib.objectInit, .instanceMethod Lib.objectInit, .code Lib.objectInit ⟨#[0xb1]⟩ 1 none, .methodLink ST 177 Cmp3.yN, .static Cmp3.yN, .methodLink ST 47 CodL.yN, .static CodL.yN,
  .code Cmp3.yN Cmp3.yB 6 (some (.array .byte)), .initialized U16, .arrayClass .byte, .methodLink U16 115 Cmp5.yN, .static Cmp5.yN, .code Cmp5.yN Cmp5.yB 7 (some .int), .code CodL.yN CodL.yB 2 (some .byte)]
theorem tab_of {a : Array Value} {s : State} (h : ∀ w ∈ words, w.before a s = true) : New1.tab.before a s = true := by
  have h5 : Cmp5.tab.before a s = true := unparts (wk h (.code Cmp5.yN Cmp5.yB 7 (some .int))) (wks h (.initialized Cmp5.yN.cls :: Cmp5.site))
  have hc : CodL.tab.before a s = true := unparts (wk h (.code CodL.yN CodL.yB 2 (some .byte))) (wks h (.initialized CodL.yN.cls :: CodL.site))
  have q5 : ∀ w ∈ Cmp5.tab :: words, w.before a s = true := fun w hw => (List.mem_cons.mp hw).elim (fun e => e ▸ h5) (h w)
  have h3 : Cmp3.tab.before a s = true := unparts (wk q5 (.code Cmp3.yN Cmp3.yB 6 (some (.array .byte)))) (wks q5 (.initialized Cmp3.yN.cls :: Cmp3.site))
  have q3 : ∀ w ∈ Cmp3.tab :: CodL.tab :: words, w.before a s = true := fun w hw => (List.mem_cons.mp hw).elim (fun e => e ▸ h3) fun hw => (List.mem_cons.mp hw).elim (fun e => e ▸ hc) (h w)
  have h4 : New4.tab.before a s = true := unparts (wk q3 (.code New4.yN New4.yB 6 none)) (wks q3 (.initialized New4.yN.cls :: New4.site))
  have q4 : ∀ w ∈ New4.tab :: words, w.before a s = true := fun w hw => (List.mem_cons.mp hw).elim (fun e => e ▸ h4) (h w)
  exact unparts (wk q4 (.code New1.yN New1.yB 2 none)) (wks q4 (.initialized New1.yN.cls :: New1.site))
/-- the words ride from the start Z to the walk's own state -/
theorem moved {Z s : State} {a0 args : Array Value} (hZ : Z.Warmed39 s.vm) (hw : ∀ d ∈ words, d.before a0 Z = true) : ∀ d ∈ words, d.before args s = true := fun d hd => by
  have q := hw d hd
  have t : ∀ d ∈ words, d = .arrayClass .byte ∨ (d.onTables && d.keepsFace) = true := by decide +kernel
  rcases t d hd with rfl | t
  · exact RoadKit.mvA hZ q
  · exact RoadKit.mv hZ q t
/-- WHAT COMES BACK, over the tables of the start Z: h the heap at the call, h' behind it -/
def Q (Z : State) (x : Addr) (A : Cell) (h : Heap) (v : Option Value) (h' : Heap) (L : List Loc) : Prop := v = none ∧ (∀ y ∈ L, y.base = x) ∧ RoadKit.Keep h h' [x] ∧ h'.size = h.size + 1 ∧ RoadKit.Exa Z h' x ST ∧ RoadKit.Fld Z h' x ST "value" "[B" (.ref h.size) ∧ RoadKit.Fld Z h' x ST "coder" "B" (.int 0) ∧
  (∃ V : Cell, RoadKit.Arr Z h' h.size V .byte ∧ V.vm = .none ∧ Z.vm.findClass "[B" = some V.cls ∧ V.slots.size = A.slots.size ∧ ∀ j, j < A.slots.size → V.slots[j]? = some (.int (lo8 (cv A j)))) ∧
  ∀ (O n d : String) (w : Value), RoadKit.Fld Z h x O n d w → RoadKit.slotOf Z O n d ≠ RoadKit.slotOf Z ST "value" "[B" → RoadKit.slotOf Z O n d ≠ RoadKit.slotOf Z ST "coder" "B" → RoadKit.Fld Z h' x O n d w
/-- **new String(chars) AT A CALL, IN THE ROAD'S FORM**: for specialBack behind newO: x the fresh String, b the char[] with the cell A -/
theorem back {p : Program} {l : Launch} {e : Env} {R : Room} {s : State} {args : Array Value} {below : List Frame} {len W : Nat} {Z : State} {a0 : Array Value} {h : Heap} (hZ : Z.Warmed39 s.vm) (hw : ∀ d ∈ words, d.before a0 Z = true) {kI : Nat} (wi : (Jvm.Cond.instantiable ST kI).before a0 Z = true)
    {x b : Addr} {A : Cell} {z : Int32} {v0 c0 : Value} (E : RoadKit.Exa Z h x ST) (V : RoadKit.Fld Z h x ST "value" "[B" v0) (C : RoadKit.Fld Z h x ST "coder" "B" c0) (K : RoadKit.Arr Z h b A .char) (hty : Typed .char A) (S : RoadKit.Sta Z h ST "COMPACT_STRINGS" "Z" (.int z)) (hz : ¬ z = 0)
    (l0 : 0 < A.slots.size) (l2 : A.slots.size ≤ 536870912) (hp : ∀ i, i < A.slots.size → ¬ 255 < cv A i) (hfr : 4 ≤ R.frames) (hlo : W + 65 ≤ R.locals) :
    Back l R p e below s args New1.yN len W (fun P a => a = #[.ref x, .ref b] ∧ P.U.heap = h ∧ P.cells + 1 ≤ R.cells ∧ P.slots + A.slots.size ≤ R.slots)
      (fun P _ v B => ∃ L, Q Z x A h v B.U.heap L ∧ B.locs = P.locs ++ L ∧ B.cells = P.cells + 1 ∧ B.slots = P.slots + A.slots.size) := by
  intro m meth c P g ig mk a X hg hsize hdg hW hn hp'
  obtain ⟨rfl, rfl, r1, r2⟩ := hp'
  have al : Z.vm.Alike P.U.vm := hZ.alike.trans X.warmed.alike
  obtain ⟨D, cfV, kV, iV, fV, hD, gV, stV, knV, obV, asV, slV⟩ := id V
  obtain ⟨D', cfC, kC, iC, fC, hD', gC, stC, -, -, asC, slC⟩ := id C
  cases hD.symm.trans hD'
  obtain ⟨D2, kD, e1, e2, e3, e4, e5⟩ := id E
  cases hD.symm.trans e1
  obtain ⟨c2, k2, i1, i2, i3, -⟩ := Cond.instantiable_spec wi
  cases e2.symm.trans i1
  cases e3.symm.trans i2
  obtain ⟨kU, u1, u2⟩ := al.2.2 _ _ e3
  have hB : Blank ST x D P.U := ⟨hD, ⟨knV, fun q hq => by rw [hq] at obV; cases obV⟩, by rw [al.findClass]; exact e2, kU, u1, by rw [u2]; exact i3, by rw [u2]; exact e5 i3⟩
  have F1 : Found ST "value" "[B" fV P.U := ⟨SBG.found_only al ⟨cfV, kV, iV, gV⟩, stV⟩
  have F2 : Found ST "coder" "B" fC P.U := ⟨SBG.found_only al ⟨cfC, kC, iC, gC⟩, stC⟩
  have hA : Ch b A P.U := ⟨⟨K.1, State.isArrayOf_alike al K.2.1, K.2.2, by omega⟩, hty⟩
  have hS : StaticIs P.U ST "COMPACT_STRINGS" "Z" (.int z) := by
    obtain ⟨cfS, iS, kS, fS, st, cS, t1, t2, t3, t4, t5, t6, t7⟩ := S
    exact StaticIs.there (s := { Z with heap := P.U.heap }) ⟨cfS, iS, kS, fS, st, cS, t1, t2, t3, t4, t5, (fun q => by rw [q] at t6; cases t6), t7⟩ al rfl
  obtain ⟨v, B, X', ⟨⟨hv, E', V', q1, q2, q3, q4, q5, q6, q7, q8, q9, q10, q11⟩, hl, hc, hs⟩, st⟩ := New1.pays x D fV fC b A z (tab_of (moved hZ hw)) hfr hlo m meth c P g ig mk _ X hg hsize hdg hW hn ⟨r1, r2, rfl, hB, F1, F2, hA, hS, hz, l0, l2, hp⟩
  have al' : Z.vm.Alike B.U.vm := hZ.alike.trans X'.warmed.alike
  have hsz : E'.slots.size = D.slots.size := by
    obtain ⟨-, -, -, kB, w1, w2, w3⟩ := q1
    obtain ⟨kB', y1, y2⟩ := al'.2.2 _ _ e3
    rw [q2.2.1] at w1
    cases w1.symm.trans y1
    rw [w3, e5 i3, y2]
  refine ⟨v, B, X', ⟨_, ⟨hv, ?_, ⟨by omega, fun y cy hy hn' => q10 y cy (by simpa using hn') hy, fun y cy hy => ?_⟩, q11, ⟨E', _, q1.1, by rw [q2.2.1]; exact e2, by rw [q2.2.1]; exact e3, by rw [q2.1]; exact obV, fun _ => by rw [hsz]; exact e5 i3⟩,
    ⟨E', cfV, kV, iV, fV, q1.1, gV, stV, by rw [q2.1]; exact knV, by rw [q2.1]; exact obV, by rw [q2.2.1]; exact asV, q3⟩, ⟨E', cfC, kC, iC, fC, q1.1, gC, stC, by rw [q2.1]; exact knV, by rw [q2.1]; exact obV, by rw [q2.2.1]; exact asC, q4⟩,
    ⟨V', ⟨q5.1, State.isArrayOf_alike al'.symm q5.2.1, q5.2.2.1⟩, q6, by rw [← al'.findClass]; exact q7, q8, fun j hj => by have := q9 j hj; rwa [Nat.zero_add] at this⟩, fun O n d w F n1 n2 => ?_⟩, hl, hc, hs⟩, st⟩
  · intro y hy
    simp only [List.mem_cons, List.not_mem_nil, or_false] at hy
    rcases hy with rfl | rfl <;> rfl
  · by_cases q : y = x
    · subst q
      cases hD.symm.trans hy
      exact ⟨E', q1.1, q2.2.1, q2.1, hsz⟩
    · exact ⟨cy, q10 y cy q hy, rfl, rfl, rfl⟩
  · obtain ⟨D3, cf, k, i, f, g1, g2, g3, g4, g5, g6, g7⟩ := F
    cases hD.symm.trans g1
    simp only [RoadKit.slotOf, g2, gV, gC, Option.map_some, Option.getD_some] at n1 n2
    exact ⟨E', cf, k, i, f, q1.1, g2, g3, by rw [q2.1]; exact g4, by rw [q2.1]; exact g5, by rw [q2.2.1]; exact g6, by rw [q2.2.2 f.slot (by simp [n1, n2])]; exact g7⟩
end StrChars.Road
namespace StrChars.Road
open Jvm Sem ClassFile Op Lib Jvm.Stand Jvm.Free Jvm.Free.XT
/-- WHAT COMES BACK, the byte[] as a list of values -/
def QA (Z : State) (x : Addr) (zn : Int32) (cs : List Int32) (h : Heap) (v : Option Value) (h' : Heap) (L : List Loc) : Prop := v = none ∧ (∀ y ∈ L, y.base = x) ∧ RoadKit.Keep h h' [x] ∧ h'.size = h.size + 1 ∧ RoadKit.Exa Z h' x ST ∧ RoadKit.Fld Z h' x ST "value" "[B" (.ref h.size) ∧ RoadKit.Fld Z h' x ST "coder" "B" (.int 0) ∧
  (∃ kb, Z.vm.findClass "[B" = some kb ∧ RoadKit.Arv Z h' h.size kb .byte zn (cs.map fun c => .int (lo8 c)) (.int 0)) ∧
  ∀ (O n d : String) (w : Value), RoadKit.Fld Z h x O n d w → RoadKit.slotOf Z O n d ≠ RoadKit.slotOf Z ST "value" "[B" → RoadKit.slotOf Z O n d ≠ RoadKit.slotOf Z ST "coder" "B" → RoadKit.Fld Z h' x O n d w
/-- **new String(chars) AT A CALL, THE ARRAYS AS LISTS**: the char[] at b holds cs, not empty, no char above 255 -/
theorem backArv {p : Program} {l : Launch} {e : Env} {R : Room} {s : State} {args : Array Value} {below : List Frame} {len W : Nat} {Z : State} {a0 : Array Value} {h : Heap} (hZ : Z.Warmed39 s.vm) (hw : ∀ d ∈ words, d.before a0 Z = true) {kI : Nat} (wi : (Jvm.Cond.instantiable ST kI).before a0 Z = true)
    {x b : Addr} {k : ClassId} {zn z : Int32} {cs : List Int32} {dv v0 c0 : Value} (E : RoadKit.Exa Z h x ST) (V : RoadKit.Fld Z h x ST "value" "[B" v0) (C : RoadKit.Fld Z h x ST "coder" "B" c0) (K : RoadKit.Arv Z h b k .char zn (cs.map Value.int) dv) (S : RoadKit.Sta Z h ST "COMPACT_STRINGS" "Z" (.int z)) (hz : ¬ z = 0)
    (hlen : zn.toNatClampNeg = cs.length) (h0 : 0 < cs.length) (hbig : cs.length ≤ 536870912) (hall : ∀ c ∈ cs, ¬ 255 < c) (hfr : 4 ≤ R.frames) (hlo : W + 65 ≤ R.locals) :
    Back l R p e below s args New1.yN len W (fun P a => a = #[.ref x, .ref b] ∧ P.U.heap = h ∧ P.cells + 1 ≤ R.cells ∧ P.slots + cs.length ≤ R.slots)
      (fun P _ v B => ∃ L, QA Z x zn cs h v B.U.heap L ∧ B.locs = P.locs ++ L ∧ B.cells = P.cells + 1 ∧ B.slots = P.slots + cs.length) := by
  obtain ⟨A, K1, K2, K3, K4, K5, K6⟩ := K
  have e : A.slots.size = cs.length := K3.trans hlen
  have hat : ∀ (i : Nat) (hi : i < cs.length), A.slots[i]? = some (.int cs[i]) := fun i hi => by rw [K5 i (by omega)]; simp [List.getD_eq_getElem?_getD, hi]
  have hcv : ∀ (i : Nat) (hi : i < cs.length), cv A i = cs[i] := fun i hi => by unfold cv; rw [hat i hi]
  have hty : Typed .char A := fun i v hv => by
    have hi : i < A.slots.size := (Array.getElem?_eq_some_iff.mp hv).1
    have q := K5 i hi
    rw [hv] at q
    rw [Option.some.inj q]
    exact K6 i hi
  refine Back.mono (back hZ hw wi E V C K1 hty S hz (by omega) (by omega) (fun i hi => by rw [hcv i (by omega)]; exact hall _ (List.getElem_mem _)) hfr hlo) (fun P a hp => ⟨hp.1, hp.2.1, hp.2.2.1, by rw [e]; exact hp.2.2.2⟩) (fun P a v B hp hq => ?_)
  obtain ⟨L, ⟨q1, q2, q3, q4, q5, q6, q7, ⟨V', v1, v2, v3, v4, v5⟩, q9⟩, hl, hc, hs⟩ := hq
  refine ⟨L, ⟨q1, q2, q3, q4, q5, q6, q7, ⟨V'.cls, v3, V', v1, rfl, by rw [v4, e, hlen], K4, fun i hi => ?_, fun i hi => ?_⟩, q9⟩, hl, hc, by rw [hs, e]⟩
  · have hi' : i < cs.length := by omega
    rw [v5 i (by omega), hcv i hi']; simp [List.getD_eq_getElem?_getD, hi']
  · have hi' : i < cs.length := by omega
    simp only [List.getD_eq_getElem?_getD, List.getElem?_map, List.getElem?_eq_getElem hi', Option.map_some, Option.getD_some]
    exact fits_lo8 _
end StrChars.Road
namespace StrChars.Road
open Jvm Sem ClassFile Op Lib Jvm.Stand Jvm.Free Jvm.Free.XT
/-- WHAT COMES BACK, in the writer's own shape -/
def QV (Z : State) (x : Addr) (N : Int32) (bs : List Int32) (h : Heap) (n0 : Nat) (v : Option Value) (h' : Heap) (L : List Loc) : Prop := v = none ∧ RoadKit.Fr n0 L ∧ RoadKit.Keep h h' [x] ∧ RoadKit.Exa Z h' x ST ∧ RoadKit.Fld Z h' x ST "coder" "B" (.int 0) ∧
  ∃ (t : Addr) (kb : ClassId), n0 ≤ t ∧ h.size ≤ t ∧ ¬ t = x ∧ RoadKit.Fld Z h' x ST "value" "[B" (.ref t) ∧ RoadKit.Arv Z h' t kb .byte N (bs.map Value.int) (.int 0)
/-- **new String(chars) AT A CALL, FOR THE WRITER**: a char[] of n known ints, each 0 to 255 -/
theorem backV {p : Program} {l : Launch} {e : Env} {R : Room} {s : State} {args : Array Value} {below : List Frame} {len W : Nat} {Z : State} {a0 : Array Value} {h : Heap} (hZ : Z.Warmed39 s.vm) (hw : ∀ d ∈ words, d.before a0 Z = true) {kI : Nat} (wi : (Jvm.Cond.instantiable ST kI).before a0 Z = true)
    {x b : Addr} {kC : ClassId} {cs bs : List Int32} {d v0 c0 : Value} {z N : Int32} {n n0 : Nat} (hx0 : n0 ≤ x) (hh0 : n0 ≤ h.size) (E : RoadKit.Exa Z h x ST) (V : RoadKit.Fld Z h x ST "value" "[B" v0) (C : RoadKit.Fld Z h x ST "coder" "B" c0) (K : RoadKit.Arv Z h b kC .char N (cs.map Value.int) d) (S : RoadKit.Sta Z h ST "COMPACT_STRINGS" "Z" (.int z)) (hz : ¬ z = 0)
    (hn : cs.length = n) (hN : N = Int32.ofNat n) (l0 : 0 < n) (l2 : n ≤ 4000) (hp : ∀ c ∈ cs, ¬ c < 0 ∧ ¬ (255 : Int32) < c) (hb : bs = cs.map (fun c => c.toInt8.toInt32)) (hfr : 4 ≤ R.frames) (hlo : W + 65 ≤ R.locals) :
    Back l R p e below s args (⟨"java/lang/String", "<init>", "([C)V"⟩ : MethodName) len W (fun P a => a = #[.ref x, .ref b] ∧ P.U.heap = h ∧ P.cells + 1 ≤ R.cells ∧ P.slots + n ≤ R.slots)
      (fun P _ v B => ∃ L, QV Z x N bs h n0 v B.U.heap L ∧ B.locs = P.locs ++ L ∧ B.cells = P.cells + 1 ∧ B.slots = P.slots + n) := by
  subst hn hN hb
  refine Back.mono (backArv hZ hw wi E V C K S hz (n32 (by omega)) l0 (by omega) (fun c hc => (hp c hc).2) hfr hlo) (fun P a hp => hp) (fun P a v B hp hq => ?_)
  obtain ⟨L, ⟨q1, q2, q3, q4, q5, q6, q7, ⟨kb, v1, v2⟩, q9⟩, hl, hc, hs⟩ := hq
  exact ⟨L, ⟨q1, fun y hy => by rw [q2 y hy]; exact hx0, q3, q5, q7, h.size, kb, hh0, Nat.le_refl _, Nat.ne_of_gt E.lt, q6, by rw [List.map_map]; exact v2⟩, hl, hc, hs⟩
end StrChars.Road
namespace StrChars
open Jvm Sem ClassFile Op Lib Jvm.Stand Jvm.Free.XT Jvm.Free.ALB Jvm.Free.JM Jvm.Free
open Jvm.Lib.Cold (StaticIs)
def hi8 (x : Int32) : Int32 := lo8 (x >>> ((8 : Int32) &&& 31))
end StrChars
namespace StrChars
open Jvm Sem ClassFile Op Lib Jvm.Stand Jvm.Free.XT Jvm.Free.ALB Jvm.Free.JM Jvm.Free
open Jvm.Lib.Cold (StaticIs)
/-- the array's cell V codes the n chars f 0 .. f (n - 1) by the coder cd, as the JDK does: coder 1 just where some char is above 255 -/
def Cod (cd : Int32) (n : Nat) (f : Nat → Int32) (V : Cell) : Prop := (cd = 0 ∧ V.slots.size = n ∧ ∀ j, j < n → V.slots[j]? = some (.int (lo8 (f j))) ∧ ¬ 255 < f j) ∨ (cd = 1 ∧ V.slots.size = 2 * n ∧ (∀ j, j < n → V.slots[2 * j]? = some (.int (lo8 (f j))) ∧ V.slots[2 * j + 1]? = some (.int (hi8 (f j)))) ∧ ∃ j, j < n ∧ 255 < f j)
/-- **x is a String of the n chars f 0 .. f (n - 1)**, Latin-1 or UTF-16; its array at t has the cell V -/
def Txt (x t : Addr) (V : Cell) (cd : Int32) (n : Nat) (f : Nat → Int32) (U : State) : Prop := Exact "java/lang/String" x U ∧ Has x "java/lang/String" "value" "[B" (.ref t) U ∧ Has x "java/lang/String" "coder" "B" (.int cd) U ∧ XT.Arr .byte t V U ∧ Cod cd n f V ∧ ∀ j, j < n → ¬ f j < 0 ∧ ¬ 65535 < f j
theorem Txt.mv {x t : Addr} {V : Cell} {cd : Int32} {n : Nat} {f : Nat → Int32} {U U' : State} (h : Txt x t V cd n f U) (hal : U.vm.Alike U'.vm) (hh : U'.heap = U.heap) : Txt x t V cd n f U' := ⟨h.1.mv hal hh, h.2.1.mv hal hh, h.2.2.1.mv hal hh, h.2.2.2.1.mv hal hh, h.2.2.2.2⟩
end StrChars
namespace StrChars.Road
open Jvm Sem ClassFile Op Lib Jvm.Stand Jvm.Free Jvm.Free.XT
open Jvm.Lib.Cold (StaticIs)
/-- the bytes of the chars cs, low before high -/
def wideBytes : List Int32 → List Value
  | [] => []
  | c :: cs => .int (lo8 c) :: .int (hi8 c) :: wideBytes cs
theorem wide_lo (d : Value) : ∀ (cs : List Int32) (j : Nat), j < cs.length → (wideBytes cs).getD (2 * j) d = .int (lo8 (cs.getD j 0))
  | [], j, h => absurd h (Nat.not_lt_zero j)
  | c :: cs, 0, _ => rfl
  | c :: cs, j + 1, h => by
    have q := wide_lo d cs j (by simpa using h)
    rw [show 2 * (j + 1) = 2 * j + 1 + 1 from by omega]
    simpa [wideBytes] using q
theorem wide_hi (d : Value) : ∀ (cs : List Int32) (j : Nat), j < cs.length → (wideBytes cs).getD (2 * j + 1) d = .int (hi8 (cs.getD j 0))
  | [], j, h => absurd h (Nat.not_lt_zero j)
  | c :: cs, 0, _ => rfl
  | c :: cs, j + 1, h => by
    have q := wide_hi d cs j (by simpa using h)
    rw [show 2 * (j + 1) + 1 = 2 * j + 1 + 1 + 1 from by omega]
    simpa [wideBytes] using q
theorem low_at (d : Value) (cs : List Int32) (j : Nat) (h : j < cs.length) : (cs.map fun c => Value.int (lo8 c)).getD j d = .int (lo8 (cs.getD j 0)) := by
  simp [List.getD_eq_getElem?_getD, h]
/-- an array of N2 bytes vs codes the chars cs by the coder cd -/
def CodA (cs : List Int32) (cd N2 : Int32) (vs : List Value) : Prop := (cd = 0 ∧ N2 = Int32.ofNat cs.length ∧ vs = (cs.map fun c => Value.int (lo8 c)) ∧ ∀ c ∈ cs, ¬ 255 < c) ∨ (cd = 1 ∧ N2 = Int32.ofNat (2 * cs.length) ∧ vs = wideBytes cs ∧ ∃ c ∈ cs, 255 < c)
theorem CodA.cod {cs : List Int32} {cd N2 : Int32} {vs : List Value} {V : Cell} (h : CodA cs cd N2 vs) (hn : 2 * cs.length < 2 ^ 31) (hs : V.slots.size = N2.toNatClampNeg) (hv : RoadKit.Has V vs (.int 0)) : Cod cd cs.length (fun j => cs.getD j 0) V := by
  rcases h with ⟨rfl, rfl, rfl, h⟩ | ⟨rfl, rfl, rfl, c, hc, hw⟩
  · rw [n32 (by omega)] at hs
    exact Or.inl ⟨rfl, hs, fun j hj => ⟨by rw [hv j (by omega), low_at _ _ _ hj], by
      have e : cs.getD j 0 = cs[j] := by simp [List.getD_eq_getElem?_getD, hj]
      show ¬ 255 < cs.getD j 0
      rw [e]; exact h _ (List.getElem_mem _)⟩⟩
  · rw [n32 (by omega)] at hs
    obtain ⟨j, hj, rfl⟩ := List.getElem_of_mem hc
    exact Or.inr ⟨rfl, hs, fun j hj => ⟨by rw [hv _ (by omega), wide_lo _ _ _ hj], by rw [hv _ (by omega), wide_hi _ _ _ hj]⟩, j, hj, by
      have e : cs.getD j 0 = cs[j] := by simp [List.getD_eq_getElem?_getD, hj]
      show 255 < cs.getD j 0
      rw [e]; exact hw⟩
/-- an object of exactly java/lang/String, its two fields found: as the laws ask it -/
theorem strObj {Z U : State} {a0 : Array Value} {kI : Nat} (wi : (Jvm.Cond.instantiable ST kI).before a0 Z = true) (al : Z.vm.Alike U.vm) {x : Addr} {v0 c0 : Value} (E : RoadKit.Exa Z U.heap x ST) (V : RoadKit.Fld Z U.heap x ST "value" "[B" v0) (C : RoadKit.Fld Z U.heap x ST "coder" "B" c0) :
    ∃ (D : Cell) (fV fC : Field), Blank ST x D U ∧ Found ST "value" "[B" fV U ∧ Found ST "coder" "B" fC U ∧ D.slots[fV.slot]? = some v0 ∧ D.slots[fC.slot]? = some c0 ∧ RoadKit.slotOf Z ST "value" "[B" = fV.slot ∧ RoadKit.slotOf Z ST "coder" "B" = fC.slot := by
  obtain ⟨D, cfV, kV, iV, fV, hD, gV, stV, knV, obV, asV, slV⟩ := V
  obtain ⟨D', cfC, kC, iC, fC, hD', gC, stC, -, -, asC, slC⟩ := C
  cases hD.symm.trans hD'
  obtain ⟨D2, kD, e1, e2, e3, e4, e5⟩ := E
  cases hD.symm.trans e1
  obtain ⟨c2, k2, i1, i2, i3, -⟩ := Cond.instantiable_spec wi
  cases e2.symm.trans i1
  cases e3.symm.trans i2
  obtain ⟨kU, u1, u2⟩ := al.2.2 _ _ e3
  exact ⟨D, fV, fC, ⟨hD, ⟨knV, fun q hq => by rw [hq] at obV; cases obV⟩, by rw [al.findClass]; exact e2, kU, u1, by rw [u2]; exact i3, by rw [u2]; exact e5 i3⟩, ⟨SBG.found_only al ⟨cfV, kV, iV, gV⟩, stV⟩, ⟨SBG.found_only al ⟨cfC, kC, iC, gC⟩, stC⟩, slV, slC, by simp [RoadKit.slotOf, gV], by simp [RoadKit.slotOf, gC]⟩
end StrChars.Road
namespace StrChars
open Jvm Sem ClassFile Op Lib Jvm.Stand Jvm.Free.XT Jvm.Free.ALB Jvm.Free.JM Jvm.Free
open Jvm.Lib.Cold (StaticIs)
namespace Emp
def yN : MethodName := ⟨"java/lang/String", "isEmpty", "()Z"⟩
abbrev yB : ByteArray := jdk_42_method_55_code
theorem d0 : decode yB 0 = .ok (.aload_n 0, 1) := by decide +kernel
theorem d1 : decode yB 1 = .ok (.getfield 9, 3) := by decide +kernel
theorem d4 : decode yB 4 = .ok (.arraylength, 1) := by decide +kernel
theorem d5 : decode yB 5 = .ok (.ifCond (.ne) 7, 3) := by decide +kernel
theorem d8 : decode yB 8 = .ok (.iconst 1, 1) := by decide +kernel
theorem d9 : decode yB 9 = .ok (.goto 4, 3) := by decide +kernel
theorem d12 : decode yB 12 = .ok (.iconst 0, 1) := by decide +kernel
theorem d13 : decode yB 13 = .ok (.ireturn, 1) := by decide +kernel
def site : List Cond := [.fieldLink "java/lang/String" 9 "java/lang/String" "value" "[B"]
def tab : Cond := tabOf yN yB 1 (some .boolean) site
def P (x t : Addr) (V : Cell) (cd : Int32) (n : Nat) (f : Nat → Int32) (args : Array Value) (s : State) : Prop := args = #[.ref x] ∧ Txt x t V cd n f s
def E (n : Nat) (r : Option Value) (s u : State) : Prop := XT.PureE (some (.int (if n = 0 then 1 else 0))) r s u
/-- isEmpty() of a String of n chars -/
theorem law (l : Launch) (x t : Addr) (V : Cell) (cd : Int32) (n : Nat) (f : Nat → Int32) : Law l yN 1 0 0 0 yB 1 (some .boolean) site (P x t V cd n f) (E n) [] 0 0 := by
  refine Law.of_walk (plainFor_of_name (by decide +kernel)) (by decide +kernel) (by decide +kernel) (by decide) (fun _ _ h => by rw [h.1]; rfl) (fun _ U U' hal hh h => ⟨h.1, h.2.mv hal hh⟩) (fun r U U' V V' h1 hal h2 h => XT.PureE.mv r U U' V V' h1 hal h2 h) ?_
  intro p e s m args below meth c s₁ X0 hexec hbytes hml hret hlk hnm hown hh0 W hP
  obtain ⟨rfl, hx⟩ := hP
  have v31 := hx.2.2.2.1.2.2.2
  have c1 : Steps p.tables e below (s₁.setTop (entryFrame m #[.ref x] 1)) (s₁.setTop (mkF m 1 #[.val (.ref x)] [.ref x])) := Steps.trans (entry rfl) (by
    show Steps p.tables e below (s₁.setTop (mkF m 0 #[.val (.ref x)] [])) _
    refine XS.aloadN X0.here hexec rfl (hb hbytes d0) rfl rfl ?_
    exact Steps.refl _)
  obtain ⟨T2, X2, q2, st2⟩ := X0.hget hexec hown (wk W (.fieldLink "java/lang/String" 9 "java/lang/String" "value" "[B")) (hx.mv X0.warmed.alike hh0).2.1 (g := (mkF m 1 #[.val (.ref x)] [.ref x])) rfl (rest := []) rfl (hb hbytes d1)
  have hh2 := q2.trans hh0
  have hx2 := hx.mv X2.warmed.alike hh2
  have c3 : Steps p.tables e below (s₁.setTop (entryFrame m #[.ref x] 1)) (T2.setTop (mkF m 5 #[.val (.ref x)] [.int (Int32.ofNat V.slots.size)])) := (c1.trans (st2 _ (Steps.refl _))).trans (by
    refine X2.alen hexec hx2.2.2.2.1 rfl rfl (hb hbytes d4) ?_
    exact Steps.refl _)
  have hz : V.slots.size = 0 ↔ n = 0 := by
    rcases hx.2.2.2.2.1 with ⟨-, q, -⟩ | ⟨-, q, -⟩ <;> omega
  by_cases h0 : n = 0
  · have c4 : Steps p.tables e below (s₁.setTop (entryFrame m #[.ref x] 1)) (T2.setTop (mkF m 13 #[.val (.ref x)] [.int 1])) := c3.trans (by
      refine XS.ifNo X2.here hexec rfl (hb hbytes d5) rfl (i0_ne_f (by rw [hz.mpr h0]; rfl)) ?_
      refine iconstV X2.here hexec rfl 1 (hb hbytes d8) (by decide) ?_
      refine XS.goto X2.here hexec rfl (pc0 := 9) rfl (hb hbytes d9) (by decide) rfl ?_
      exact Steps.refl _)
    exact ⟨T2, some (.int 1), _, _, _, X2, rfl, rfl, rfl, (fun h => by cases h), ⟨by rw [if_pos h0], hh2⟩, fun fs hl => c4.trans (X2.ireturnOut hexec hret rfl (Or.inr (Or.inl rfl)) (hb hbytes d13) hl)⟩
  · have c4 : Steps p.tables e below (s₁.setTop (entryFrame m #[.ref x] 1)) (T2.setTop (mkF m 13 #[.val (.ref x)] [.int 0])) := c3.trans (by
      refine XS.ifYes X2.here hexec rfl (pc0 := 5) rfl (hb hbytes d5) rfl (i0_ne_t (nz32 v31 (by omega))) (by decide) rfl ?_
      refine iconstV X2.here hexec rfl 0 (hb hbytes d12) (by decide) ?_
      exact Steps.refl _)
    exact ⟨T2, some (.int 0), _, _, _, X2, rfl, rfl, rfl, (fun h => by cases h), ⟨by rw [if_neg h0], hh2⟩, fun fs hl => c4.trans (X2.ireturnOut hexec hret rfl (Or.inr (Or.inl rfl)) (hb hbytes d13) hl)⟩
theorem pays {l : Launch} {R : Room} {p : Program} {e : Env} {below : List Frame} {s : State} {sargs : Array Value} {len W : Nat} (x t : Addr) (V : Cell) (cd : Int32) (n : Nat) (f : Nat → Int32) (htab : tab.before sargs s = true) (hfr : 1 ≤ R.frames) (hlo : W + 12 ≤ R.locals) :
    Back l R p e below s sargs yN len W (fun A₁ a₁ => A₁.cells + 0 ≤ R.cells ∧ A₁.slots + 0 ≤ R.slots ∧ P x t V cd n f a₁ A₁.U) (fun A₁ _ v₁ B₁ => E n v₁ A₁.U B₁.U ∧ B₁.locs = A₁.locs ++ [] ∧ B₁.cells = A₁.cells + 0 ∧ B₁.slots = A₁.slots + 0) :=
  (law l x t V cd n f).pays htab hfr (by omega)
end Emp
end StrChars
namespace StrChars.Road
open Jvm Sem ClassFile Op Lib Jvm.Stand Jvm.Free Jvm.Free.XT
open Jvm.Lib.Cold (StaticIs)
/-- the words of String.isEmpty() -/
abbrev wordsEmp : List Jvm.Cond := [.code Emp.yN Emp.yB 1 (some .boolean), .initialized ST, .fieldLink ST 9 ST "value" "[B"]
theorem tabEmp_of {a : Array Value} {s : State} (h : ∀ w ∈ wordsEmp, w.before a s = true) : Emp.tab.before a s = true := unparts (wk h (.code Emp.yN Emp.yB 1 (some .boolean))) (wks h (.initialized Emp.yN.cls :: Emp.site))
theorem movedEmp {Z s : State} {a0 args : Array Value} (hZ : Z.Warmed39 s.vm) (hw : ∀ d ∈ wordsEmp, d.before a0 Z = true) : ∀ d ∈ wordsEmp, d.before args s = true := fun d hd => by
  have t : ∀ d ∈ wordsEmp, (d.onTables && d.keepsFace) = true := by decide +kernel
  exact RoadKit.mv hZ (hw d hd) (t d hd)
/-- the road's facts of a String, as the laws ask it -/
theorem txt_of {Z U : State} {a0 : Array Value} {kI : Nat} (wi : (Jvm.Cond.instantiable ST kI).before a0 Z = true) (al : Z.vm.Alike U.vm) {x t : Addr} {kb : ClassId} {cs : List Int32} {cd N2 : Int32} {vs : List Value} (E : RoadKit.Exa Z U.heap x ST) (V : RoadKit.Fld Z U.heap x ST "value" "[B" (.ref t)) (C : RoadKit.Fld Z U.heap x ST "coder" "B" (.int cd)) (K : RoadKit.Arv Z U.heap t kb .byte N2 vs (.int 0)) (hc : CodA cs cd N2 vs) (hb : ∀ c ∈ cs, ¬ c < 0 ∧ ¬ (65535 : Int32) < c) (l2 : cs.length ≤ 4000) :
    ∃ A, Txt x t A cd cs.length (fun j => cs.getD j 0) U := by
  obtain ⟨A, K1, K2, K3, K4, K5, K6⟩ := K
  have hcod := hc.cod (by omega) K3 K5
  obtain ⟨D, fV, fC, hB, F1, F2, g1, g2, -, -⟩ := strObj wi al E V C
  exact ⟨A, ⟨_, hB.2.2.1, D, hB.1, rfl, by cases q : D.vm <;> first | rfl | exact absurd q (hB.2.1.2 _)⟩, Has.of hB F1 g1, Has.of hB F2 g2, ⟨K1.1, State.isArrayOf_alike al K1.2.1, K1.2.2, by rcases hcod with ⟨-, q, -⟩ | ⟨-, q, -⟩ <;> omega⟩, hcod, fun j hj => by
    have e : cs.getD j 0 = cs[j] := by simp [List.getD_eq_getElem?_getD, hj]
    show ¬ cs.getD j 0 < 0 ∧ ¬ 65535 < cs.getD j 0
    rw [e]; exact hb _ (List.getElem_mem _)⟩
/-- **isEmpty() OF SUCH A STRING** -/
theorem empW {p : Program} {l : Launch} {e : Env} {R : Room} {s : State} {args : Array Value} {below : List Frame} {len W : Nat} {Z : State} {a0 : Array Value} {h : Heap} (hZ : Z.Warmed39 s.vm) (hw : ∀ d ∈ wordsEmp, d.before a0 Z = true) {kI : Nat} (wi : (Jvm.Cond.instantiable ST kI).before a0 Z = true)
    {x t : Addr} {kb : ClassId} {cs : List Int32} {cd N2 : Int32} {vs : List Value} (E : RoadKit.Exa Z h x ST) (V : RoadKit.Fld Z h x ST "value" "[B" (.ref t)) (C : RoadKit.Fld Z h x ST "coder" "B" (.int cd)) (K : RoadKit.Arv Z h t kb .byte N2 vs (.int 0)) (hc : CodA cs cd N2 vs) (hb : ∀ c ∈ cs, ¬ c < 0 ∧ ¬ (65535 : Int32) < c) (l2 : cs.length ≤ 4000) (hfr : 1 ≤ R.frames) (hlo : W + 12 ≤ R.locals) :
    Back l R p e below s args (⟨"java/lang/String", "isEmpty", "()Z"⟩ : MethodName) len W (fun P a => a = #[.ref x] ∧ P.U.heap = h ∧ P.cells + 0 ≤ R.cells ∧ P.slots + 0 ≤ R.slots)
      (fun P _ v B => ∃ L, (v = some (.int (if cs.length = 0 then 1 else 0)) ∧ L = [] ∧ B.U.heap = h) ∧ B.locs = P.locs ++ L ∧ B.cells = P.cells + 0 ∧ B.slots = P.slots + 0) := by
  intro m meth c P g ig mk a X hg hsize hdg hW hn hp'
  obtain ⟨rfl, rfl, r1, r2⟩ := hp'
  have al : Z.vm.Alike P.U.vm := hZ.alike.trans X.warmed.alike
  obtain ⟨A, hx⟩ := txt_of wi al E V C K hc hb l2
  obtain ⟨v, B, X', ⟨⟨hv, hh⟩, hl, hk, hs⟩, st⟩ := Emp.pays x t A cd cs.length (fun j => cs.getD j 0) (tabEmp_of (movedEmp hZ hw)) hfr hlo m meth c P g ig mk _ X hg hsize hdg hW hn ⟨r1, r2, rfl, hx⟩
  exact ⟨v, B, X', ⟨[], ⟨hv, rfl, hh⟩, hl, hk, hs⟩, st⟩
end StrChars.Road
namespace StrChars.Road
open Jvm Sem ClassFile Op Lib Jvm.Stand Jvm.Free Jvm.Free.XT
open Jvm.Lib.Cold (StaticIs)
/-- what backV says of its String, as the contracts of this text ask it: cs's low bytes, coder 0 -/
theorem codOf {cs : List Int32} {n : Nat} (hn : cs.length = n) (hb : ∀ c ∈ cs, ¬ 255 < c) : CodA cs 0 (Int32.ofNat n) ((cs.map lo8).map Value.int) := Or.inl ⟨rfl, by rw [hn], by simp [List.map_map, Function.comp_def], hb⟩
end StrChars.Road
end Jvm.Pilot.@@N@@
namespace Jvm.Pilot.@@N@@
open Jvm Jvm.ClassFile Sem Op Lib Jvm.Free Jvm.Stand Jvm.LawKit Jvm.RoadKit Bundle Jvm.Pilot.@@N@@.Jvm.D
theorem own_rep (n : Nat) (dv : Value) : ∀ i, (List.replicate n dv).getD i dv = dv := fun i => by
  rw [List.getD_eq_getElem?_getD, List.getElem?_replicate]; split <;> rfl
theorem own_cat {v : Value} (h : v.isRef = true) : v.category = 1 := by rcases ref_cases h with rfl | ⟨_, rfl⟩ <;> rfl
theorem own_narR {t : FieldType} {v : Value} (ht : t.isReference = true) (h : v.isRef = true) : narrow t v = v := by
  rcases ref_cases h with rfl | ⟨_, rfl⟩ <;> cases t <;> first | rfl | cases ht
theorem own_and255 (x : Int32) : ¬ (x &&& 255) < 0 ∧ ¬ (255 : Int32) < (x &&& 255) := by
  have t : ∀ k : Fin 256, ¬ (Int32.ofNat k.val) < 0 ∧ ¬ (255 : Int32) < (Int32.ofNat k.val) := by decide +kernel
  have h : (x &&& 255).toBitVec.toNat < 256 := by
    simp only [Int32.toBitVec_and, BitVec.toNat_and]
    exact Nat.lt_succ_of_le Nat.and_le_right
  have e : (x &&& 255) = Int32.ofNat (x &&& 255).toBitVec.toNat := by
    apply Int32.toBitVec_inj.mp
    show _ = BitVec.ofNat 32 _
    rw [BitVec.ofNat_toNat]; simp
  rw [e]
  exact t ⟨_, h⟩
theorem own_nc (x : Int32) : (Value.int (nar .char (x &&& 255))) = .int (x &&& 255) := congrArg Value.int (i2c_mask x)
theorem own_fc (x : Int32) : fits .char (.int (x &&& 255)) = true := own_nc x ▸ fits_nar_char (x &&& 255)
theorem own_up (cs : List Int32) (h : ∀ c ∈ cs, ¬ c < 0 ∧ ¬ (255 : Int32) < c) : ∀ c ∈ cs, ¬ c < 0 ∧ ¬ (65535 : Int32) < c := fun c hc => ⟨(h c hc).1, fun q => (h c hc).2 (by rw [Int32.lt_iff_toInt_lt] at q ⊢; have e1 : (65535 : Int32).toInt = 65535 := rfl; have e2 : (255 : Int32).toInt = 255 := rfl; omega)⟩
theorem own_all0 {P : Int32 → Prop} : ∀ c ∈ ([] : List Int32), P c := fun _ q => nomatch q
theorem own_allS {P : Int32 → Prop} {y : Int32} {L : List Int32} (q : P y) (r : ∀ x ∈ L, P x) : ∀ x ∈ y :: L, P x := fun x z => (List.mem_cons.mp z).elim (fun u => u ▸ q) (r x)
theorem own_n0 {Z : State} {n0 : Nat} {h : Heap} (O : Old Z n0 h) : n0 ≤ h.size := Nat.le_trans (Nat.le_of_eq O.1.symm) O.2.1
theorem own_mvMN {Z s : State} {a0 args : Array Value} {own host : String} {idx : Nat} {y : MethodName} (hZ : Z.Warmed39 s.vm) (w : (Jvm.Cond.methodLinkNest own idx y host).before a0 Z = true) : (Jvm.Cond.methodLinkNest own idx y host).before args s = true := (Cond.methodLinkNest_wide hZ w :)
def own_Mine (Z : State) (EL : List (String × Nat)) (n0 : Nat) (vm : Vm) (h : Heap) (ms : List Addr) : Prop := ∀ x ∈ ms, n0 ≤ x ∧ x < h.size ∧ Safe Z EL vm h x
def own_Go (Z : State) (EL : List (String × Nat)) (n0 : Nat) (p : Program) (e : Env) (below : List Frame) (s : State) (k n : Nat) (Q : Option Value → Heap → List Addr → Prop) (cur : State) : Prop :=
  ∃ s₂ o, Steps p.tables e below cur s₂ ∧ s₂.status = .running ∧ Ended s₂ below o ∧ ∃ v L ms, o = .returned v ∧ Q v s₂.heap ms ∧ Fr n0 L ∧ Old Z n0 s₂.heap ∧ own_Mine Z EL n0 s₂.vm s₂.heap ms ∧ CHr Z EL s.vm s.heap s₂.vm s₂.heap ∧ ReturnedEndW s o s₂ L k n
def own_Ct (l : Launch) (Z : State) (EL : List (String × Nat)) (n0 : Nat) (y : MethodName) (bytes : ByteArray) (maxL : Nat) (ret : Option FieldType) (ws : List Jvm.Cond) (rm : Room) (as' : Array Value) (h0 : Heap) (ms0 : List Addr) (Q : Option Value → Heap → List Addr → Prop) : Prop :=
  MetFree l y (head1 (Jvm.Cond.code y bytes maxL ret :: ws) rm) (fun a U => a = as' ∧ Z.Warmed39 U.vm ∧ U.heap = h0 ∧ CHv Z EL U.vm h0 ∧ own_Mine Z EL n0 U.vm h0 ms0) (fun _ _ _ _ _ => True)
    (fun _ U o U' => ∃ v L ms, o = .returned v ∧ Q v U'.heap ms ∧ Fr n0 L ∧ Old Z n0 U'.heap ∧ own_Mine Z EL n0 U'.vm U'.heap ms ∧ CHr Z EL U.vm U.heap U'.vm U'.heap ∧ ReturnedEndW U o U' L rm.cells rm.slots)
def own_Wk (Z : State) (EL : List (String × Nat)) (n0 : Nat) (own : String) (bytes : ByteArray) (maxL : Nat) (ret : Option FieldType) (nm : String) (p : Program) (l : Launch) (e : Env) (R : Room) (s : State) (m : MethodId) (args : Array Value) (below : List Frame) (meth : Method) (c : Code)
    (T : State) (ms : List Addr) (k n : Nat) (h : Heap) : Prop :=
  p.tables.exec = Jvm.exec ∧ c.code = bytes ∧ c.maxLocals = maxL ∧ meth.sig.returnType = ret ∧ meth.locks = false ∧ meth.name = nm ∧
  ∃ (locs : List Loc) (vm0 : Vm) (k0 : Nat) (a1 : Array Value), Stand p l e R (s.setVm vm0) m args below meth c T locs k n ∧ T.heap = h ∧ Z.Warmed39 vm0 ∧ vm0.findClass own = some m.cls ∧ Fr n0 locs ∧ Old Z n0 h ∧ own_Mine Z EL n0 vm0 h ms ∧ s.Since vm0 k0 ∧ k0 ≤ h.size ∧ CHr Z EL s.vm s.heap vm0 h ∧ EW Z a1 EL
section OwnKit
variable {Z : State} {EL : List (String × Nat)} {n0 : Nat} {own : String} {bytes : ByteArray} {maxL : Nat} {ret : Option FieldType} {nm : String} {p : Program} {l : Launch} {e : Env} {R : Room} {s : State} {m : MethodId} {args : Array Value} {below : List Frame} {meth : Method} {c : Code}
  {T : State} {ms : List Addr} {k n : Nat} {h : Heap} {a0 : Array Value} {K N : Nat} {Q : Option Value → Heap → List Addr → Prop} {pc pc' : Nat} {Ls Ls' : Array Slot} {st : List Value} {a : Addr}
theorem own_go {cur nxt : State} (q : ∀ t, Steps p.tables e below nxt t → Steps p.tables e below cur t) (g : own_Go Z EL n0 p e below s K N Q nxt) : own_Go Z EL n0 p e below s K N Q cur := by
  obtain ⟨s₂, o, h, r⟩ := g; exact ⟨s₂, o, q _ h, r⟩
theorem own_here (w : own_Wk Z EL n0 own bytes maxL ret nm p l e R s m args below meth c T ms k n h) : At T m c below := by
  obtain ⟨-, -, -, -, -, -, locs, vm0, k0, a1, X, -⟩ := w; exact X.here
theorem own_dec (w : own_Wk Z EL n0 own bytes maxL ret nm p l e R s m args below meth c T ms k n h) {r : Except DecodeError (Instr × Nat)} (hd : decode bytes pc = r) : decode c.code pc = r := w.2.1 ▸ hd
theorem own_old (w : own_Wk Z EL n0 own bytes maxL ret nm p l e R s m args below meth c T ms k n h) : Old Z n0 h := by
  obtain ⟨-, -, -, -, -, -, locs, vm0, k0, a1, -, -, -, -, -, O, -⟩ := w; exact O
theorem own_mine (w : own_Wk Z EL n0 own bytes maxL ret nm p l e R s m args below meth c T ms k n h) : ∀ x ∈ ms, n0 ≤ x ∧ x < h.size := by
  obtain ⟨-, -, -, -, -, -, locs, vm0, k0, a1, -, -, -, -, -, -, M, -⟩ := w; exact fun x hx => ⟨(M x hx).1, (M x hx).2.1⟩
theorem own_more (w : own_Wk Z EL n0 own bytes maxL ret nm p l e R s m args below meth c T ms k n h) {k' n' : Nat} {ms' : List Addr} (hk : k ≤ k') (hn : n ≤ n') (hm : ∀ x ∈ ms', x ∈ ms) : own_Wk Z EL n0 own bytes maxL ret nm p l e R s m args below meth c T ms' k' n' h := by
  obtain ⟨h1, h2, h3, h4, h5, h6, locs, vm0, k0, a1, X, h7, h8, h9, h10, h11, M, r⟩ := w
  exact ⟨h1, h2, h3, h4, h5, h6, locs, vm0, k0, a1, X.more hk hn, h7, h8, h9, h10, h11, fun x hx => M x (hm x hx), r⟩
theorem own_enter {y : MethodName} {ws : List Jvm.Cond} {rm : Room} {as' : Array Value} {h0 : Heap} {ms0 : List Addr} (hp : plainFor y = true) (hE : EW Z a0 EL) (O : Old Z n0 h0)
    (body : ∀ p e s m below meth c T, own_Wk Z EL n0 y.cls bytes maxL ret y.name p l e rm s m as' below meth c T ms0 0 0 h0 → own_Go Z EL n0 p e below s rm.cells rm.slots Q (T.setTop (entryFrame m as' maxL))) :
    own_Ct l Z EL n0 y bytes maxL ret ws rm as' h0 ms0 Q := by
  refine MetFree.of_bodySF hp hisR ?_
  intro p e s m args below meth c s₁ Bd hml hP _
  obtain ⟨rfl, hZ, hh, hC, hM⟩ := hP
  have e0 : s₁.heap = h0 := by rw [← hh, Bd.state]; rfl
  subst hh
  exact body p e s m below meth c s₁ ⟨Bd.exec, Bd.bytes, hml, Bd.returns, Bd.notSynchronized, (name_of_methodNamed Bd.named Bd.method).1, [], s.vm, 0, a0, Stand.of_body Bd, e0, hZ, findClass_of_methodNamed Bd.named, Fr.nil n0, O, hM, (State.WarmedH.refl s).since 0, Nat.zero_le _, CHr.refl hC, hE⟩
theorem own_core (w : own_Wk Z EL n0 own bytes maxL ret nm p l e R s m args below meth c T ms k n h) {k' n' : Nat} {ws : List Addr} {F : JFrame} {P : Heap → List Addr → JFrame → Prop} (hws : ∀ x ∈ ws, x ∈ ms)
    (f : ∀ (s' : State) (locs : List Loc), Stand p l e R s' m args below meth c T locs k n → T.heap = h → Z.Warmed39 s'.vm → s'.vm.findClass own = some m.cls →
      ∃ (T' : State) (h' : Heap) (L : List Loc) (new : List Addr) (F' : JFrame), Stand p l e R s' m args below meth c T' (locs ++ L) k' n' ∧ T'.heap = h' ∧ Keep h h' ws ∧ Fr n0 L ∧ (∀ x ∈ new, h.size ≤ x ∧ x < h'.size) ∧ P h' new F' ∧ ∀ t, Steps p.tables e below (T'.setTop F') t → Steps p.tables e below (T.setTop F) t)
    (g : ∀ (T' : State) (h' : Heap) (new : List Addr) (F' : JFrame), own_Wk Z EL n0 own bytes maxL ret nm p l e R s m args below meth c T' (new ++ ms) k' n' h' → Keep h h' ws → P h' new F' → own_Go Z EL n0 p e below s K N Q (T'.setTop F')) : own_Go Z EL n0 p e below s K N Q (T.setTop F) := by
  obtain ⟨h1, h2, h3, h4, h5, h6, locs, vm0, k0, a1, X, eT, hZ, hown, Nf, O, M, hS, hk0, hC, hEW⟩ := w
  obtain ⟨T', h', L, new, F', X', e', Kp, NL, hnew, hP, st'⟩ := f (s.setVm vm0) locs X eT hZ hown
  have hsf : ∀ x ∈ ws, Safe Z EL vm0 h x := fun x hx => (M x (hws x hx)).2.2
  refine own_go st' (g T' h' new F' ⟨h1, h2, h3, h4, h5, h6, locs ++ L, vm0, k0, a1, X', e', hZ, hown, Nf.app NL, O.keep Kp (fun x hx => (M x (hws x hx)).1), fun x hx => ?_, hS, Nat.le_trans hk0 Kp.1, hC.trans (CHr.keep Kp hsf hC.1), hEW⟩ Kp hP)
  rcases List.mem_append.mp hx with q | q
  · refine ⟨Nat.le_trans (Nat.le_trans (Nat.le_of_eq O.1.symm) O.2.1) (hnew x q).1, (hnew x q).2, fun B => ?_⟩
    obtain ⟨cell, z⟩ := ((hC.1.keepStep Kp hsf).2 x B).there
    exact absurd (Array.getElem?_eq_some_iff.mp z).1 (Nat.not_lt.mpr (hnew x q).1)
  · exact ⟨(M x q).1, Nat.lt_of_lt_of_le (M x q).2.1 Kp.1, (M x q).2.2.keep Kp hsf hC.1⟩
theorem own_pure (w : own_Wk Z EL n0 own bytes maxL ret nm p l e R s m args below meth c T ms k n h) {F F' : JFrame} (f : ∀ (s' : State) (locs : List Loc), Stand p l e R s' m args below meth c T locs k n → T.heap = h → Z.Warmed39 s'.vm → s'.vm.findClass own = some m.cls → ∀ t, Steps p.tables e below (T.setTop F') t → Steps p.tables e below (T.setTop F) t) (g : own_Go Z EL n0 p e below s K N Q (T.setTop F')) : own_Go Z EL n0 p e below s K N Q (T.setTop F) := by
  obtain ⟨h1, h2, h3, h4, h5, h6, locs, vm0, k0, a1, X, eT, hZ, hown, -⟩ := w
  exact own_go (f (s.setVm vm0) locs X eT hZ hown) g
theorem own_retV (w : own_Wk Z EL n0 own bytes maxL ret nm p l e R s m args below meth c T ms k n h) {t : FieldType} {i : Instr} {v : Value} (hret : ret = some t) (hv : narrow t v = v)
    (hi : (i = .ireturn ∧ (t = .int ∨ t = .boolean ∨ t = .byte ∨ t = .char ∨ t = .short) ∧ ∃ z, v = .int z) ∨ (i = .lreturn ∧ t = .long ∧ ∃ z, v = .long z) ∨ (i = .dreturn ∧ t = .double ∧ ∃ z, v = .double z) ∨ (i = .freturn ∧ t = .float ∧ ∃ z, v = .float z) ∨ (i = .areturn ∧ t.isReference = true ∧ v.isRef = true))
    (hd : decode bytes pc = .ok (i, 1)) (hk : k ≤ K) (hn : n ≤ N) {ms' : List Addr} (hm : ∀ x ∈ ms', x ∈ ms) (hQ : Q (some v) h ms') : own_Go Z EL n0 p e below s K N Q (T.setTop (mkF m pc Ls (v :: st))) := by
  obtain ⟨h1, h2, h3, h4, h5, h6, locs, vm0, k0, a1, X, eT, hZ, hown, Nf, O, M, hS, hk0, hC, hEW⟩ := w
  subst eT
  obtain ⟨fs, hr, hrun, hended, hEnd⟩ := X.leaveW hS hk0 (v := some v) (fun q => by rw [h4, hret] at q; cases q) h5
  have A := CHv.at X hZ hEW hC.1
  exact ⟨_, _, retOut X h1 (h4.trans hret) hv hi (h2 ▸ hd) hr, hrun, hended, _, locs, ms', rfl, hQ, Nf, O, fun x hx => ⟨(M x (hm x hx)).1, (M x (hm x hx)).2.1, A.safe (M x (hm x hx)).2.1 (M x (hm x hx)).2.2⟩, hC.trans A, ⟨_, rfl⟩, hEnd.2.1, hEnd.2.2.1, hEnd.2.2.2.mono hk hn⟩
theorem own_ret0 (w : own_Wk Z EL n0 own bytes maxL ret nm p l e R s m args below meth c T ms k n h) (hret : ret = none) (hd : decode bytes pc = .ok (.return_, 1)) (hk : k ≤ K) (hn : n ≤ N) {ms' : List Addr} (hm : ∀ x ∈ ms', x ∈ ms) (hQ : Q none h ms') : own_Go Z EL n0 p e below s K N Q (T.setTop (mkF m pc Ls [])) := by
  obtain ⟨h1, h2, h3, h4, h5, h6, locs, vm0, k0, a1, X, eT, hZ, hown, Nf, O, M, hS, hk0, hC, hEW⟩ := w
  subst eT
  obtain ⟨fs, hr, hrun, hended, hEnd⟩ := X.leaveW hS hk0 (v := none) (fun _ => rfl) h5
  have A := CHv.at X hZ hEW hC.1
  exact ⟨_, _, X.returnOut h1 (h4.trans hret) (h2 ▸ hd) hr, hrun, hended, _, locs, ms', rfl, hQ, Nf, O, fun x hx => ⟨(M x (hm x hx)).1, (M x (hm x hx)).2.1, A.safe (M x (hm x hx)).2.1 (M x (hm x hx)).2.2⟩, hC.trans A, ⟨_, rfl⟩, hEnd.2.1, hEnd.2.2.1, hEnd.2.2.2.mono hk hn⟩
theorem own_back {y : MethodName} {bytes' : ByteArray} {maxL' : Nat} {ret' : Option FieldType} {rm' : Room} {as' : Array Value} {ms0 : List Addr} {Q' : Option Value → Heap → List Addr → Prop} {len W : Nat} {vm0 : Vm} {a1 : Array Value}
    (ct : own_Ct l Z EL n0 y bytes' maxL' ret' [] rm' as' h ms0 Q') (hZ : Z.Warmed39 vm0) (wc : (Jvm.Cond.code y bytes' maxL' ret').before a0 Z = true) (wz : (Jvm.Cond.initialized y.cls).before a0 Z = true) (hM : own_Mine Z EL n0 vm0 h ms0) (hf : rm'.frames + 1 ≤ R.frames) (hl : W + (maxL' + 11) + rm'.locals ≤ R.locals) (hEL : EW Z a1 EL) (H : CHv Z EL vm0 h) :
    BackS l R p e below (s.setVm vm0) args y len W (fun A a => a = as' ∧ A.U.heap = h ∧ A.cells + rm'.cells ≤ R.cells ∧ A.slots + rm'.slots ≤ R.slots)
      (fun A _ v B => ∃ L ms', Q' v B.U.heap ms' ∧ Fr n0 L ∧ Old Z n0 B.U.heap ∧ own_Mine Z EL n0 B.U.vm B.U.heap ms' ∧ CHr Z EL vm0 h B.U.vm B.U.heap ∧ B.locs = A.locs ++ L ∧ B.cells = A.cells + rm'.cells ∧ B.slots = A.slots + rm'.slots) :=
  BackS.of_freeW (bytes := bytes') (maxL := maxL') (ret := ret') (E := fun _ first o t L k n => k = rm'.cells ∧ n = rm'.slots ∧ (∃ v ms', o = .returned v ∧ Q' v t.heap ms' ∧ Fr n0 L ∧ Old Z n0 t.heap ∧ own_Mine Z EL n0 t.vm t.heap ms') ∧ CHr Z EL first.vm first.heap t.vm t.heap) ct hf hl
    (fun m meth c A a Y hp => have hU : Z.Warmed39 A.U.vm := wtrans (s := s.setVm vm0) hZ Y.warmed
      ⟨by show (Jvm.Cond.and _ .tt).before a A.U = true; rw [Cond.before_and, mv hU wc]; rfl, mv hU wc, mv hU wz, hp.2.2.1, hp.2.2.2⟩)
    (fun m meth c A a g mk Y hp => ⟨hp.1, wtrans (s := s.setVm vm0) hZ Y.warmed, hp.2.1, (CHv.at Y hZ hEL H).1, fun x hx => ⟨(hM x hx).1, (hM x hx).2.1, (CHv.at Y hZ hEL H).safe (hM x hx).2.1 (hM x hx).2.2⟩⟩) (fun _ _ _ _ _ _ _ _ _ => trivial)
    (fun _ _ _ _ ⟨v, L, ms', h1, h2, h3, h4, h5, h6, h7⟩ => ⟨L, _, _, h7, rfl, rfl, ⟨v, ms', h1, h2, h3, h4, h5⟩, h6⟩)
    (fun m meth c A a g mk v t L k n Y hp _ _ ⟨e1, e2, ⟨v', ms', e3, e4, e5, e6, e7⟩, e8⟩ => by
      cases e3; subst e1 e2
      refine ⟨L, ms', e4, e5, e6, e7, (CHv.at Y hZ hEL H).trans ?_, rfl, rfl, rfl⟩
      rw [← hp.2.1]; exact e8)
theorem own_callS (w : own_Wk Z EL n0 own bytes maxL ret nm p l e R s m args below meth c T ms k n h) {idx : Nat} {y : MethodName} {bytes' : ByteArray} {maxL' : Nat} {ret' : Option FieldType} {rm' : Room} {argsL rest : List Value} {ms0 : List Addr} {Q' : Option Value → Heap → List Addr → Prop} {ps : List FieldType} {rt : Option FieldType}
    (wl : (Jvm.Cond.methodLink own idx y).before a0 Z = true) (wt : (Jvm.Cond.static y).before a0 Z = true) (wz : (Jvm.Cond.initialized y.cls).before a0 Z = true) (wc : (Jvm.Cond.code y bytes' maxL' ret').before a0 Z = true) (hy : y.cls ≠ "java/lang/invoke/MethodHandle" ∧ y.cls ≠ "java/lang/invoke/VarHandle")
    (ct : own_Ct l Z EL n0 y bytes' maxL' ret' [] rm' argsL.toArray h ms0 Q') (hms : ∀ x ∈ ms0, x ∈ ms) (hst : st = argsL.reverse ++ rest) (hsz : Ls.size = maxL) (hpd : parseMethodDescriptor y.desc = some ⟨ps, rt⟩) (hln : argsL.length = ps.length) (hd : decode bytes pc = .ok (.invokestatic idx, 3)) (hp : pc + 3 = pc')
    (hf : rm'.frames + 1 ≤ R.frames) {W : Nat} (hW : (rest.map fun v => v.category).sum = W) (hl : W + (maxL' + 11) + rm'.locals ≤ R.locals) (hc : k + rm'.cells ≤ R.cells) (hn : n + rm'.slots ≤ R.slots)
    (g : ∀ (T' : State) (h' : Heap) (v : Option Value) (ms' : List Addr), own_Wk Z EL n0 own bytes maxL ret nm p l e R s m args below meth c T' (ms' ++ ms) (k + rm'.cells) (n + rm'.slots) h' → Q' v h' ms' → own_Go Z EL n0 p e below s K N Q (T'.setTop (mkF m pc' Ls (v.toList ++ rest)))) :
    own_Go Z EL n0 p e below s K N Q (T.setTop (mkF m pc Ls st)) := by
  subst hp hst
  obtain ⟨h1, h2, h3, h4, h5, h6, locs, vm0, k0, a1, X, eT, hZ, hown, Nf, O, M, hS, hk0, hC, hEW⟩ := w
  have hZ0 : Z.Warmed39 (s.setVm vm0).vm := hZ
  obtain ⟨v, _, ⟨T', L', k', n'⟩, -, X', hS2, hgr, ⟨L, ms', hQ, NL, O', M', C', l1, l2, l3⟩, st'⟩ := callSS X h1 (y := y) hown (mvT hZ0 wl) (mvT hZ0 wt) (mvT hZ0 wz) (mvT hZ0 wc) hy (own_back (s := s) (W := W) ct hZ wc wz (fun x hx => M x (hms x hx)) hf hl hEW hC.1) (g := mkF m pc Ls (argsL.reverse ++ rest)) rfl (by rw [h3]; exact hsz) (argsL := argsL) (rest := rest) (lenOf hpd hln) rfl (by show 2 * 0 + _ ≤ _; rw [hW]; omega) (h2 ▸ hd) (fun _ _ => ⟨rfl, eT, hc, hn⟩)
  dsimp only [Pt.U, Pt.locs, Pt.cells, Pt.slots] at X' hS2 hgr hQ O' M' C' l1 l2 l3 st'
  subst l1 l2 l3
  refine own_go (fun _ q => st'.trans q) (g T' _ v ms' ⟨h1, h2, h3, h4, h5, h6, locs ++ L, T'.vm, T'.heap.size, a1, X', rfl, State.Warmed39.trans (t := s.setVm vm0) hZ hS2.1, by rw [hS2.1.alike.findClass]; exact hown, Nf.app NL, O', fun x hx => ?_, hS.trans hS2 (Nat.le_trans hk0 (by rw [← eT]; exact hgr)), Nat.le_refl _, hC.trans C', hEW⟩ hQ)
  rcases List.mem_append.mp hx with q | q
  · exact M' x q
  · exact ⟨(M x q).1, Nat.lt_of_lt_of_le (M x q).2.1 C'.2.1, C'.safe (M x q).2.1 (M x q).2.2⟩
theorem own_callI (w : own_Wk Z EL n0 own bytes maxL ret nm p l e R s m args below meth c T ms k n h) {idx : Nat} {y : MethodName} {bytes' : ByteArray} {maxL' : Nat} {rm' : Room} {argsL rest : List Value} {ms0 : List Addr} {Q' : Option Value → Heap → List Addr → Prop} {ps : List FieldType} {rt : Option FieldType}
    (hy1 : y.name = "<init>") (wl : (Jvm.Cond.methodLink own idx y).before a0 Z = true) (wt : (Jvm.Cond.instanceMethod y).before a0 Z = true) (wz : (Jvm.Cond.initialized y.cls).before a0 Z = true) (wc : (Jvm.Cond.code y bytes' maxL' none).before a0 Z = true) (hy : y.cls ≠ "java/lang/invoke/MethodHandle" ∧ y.cls ≠ "java/lang/invoke/VarHandle")
    (ct : own_Ct l Z EL n0 y bytes' maxL' none [] rm' (.ref a :: argsL).toArray h ms0 Q') (hms : ∀ x ∈ ms0, x ∈ ms) (hst : st = argsL.reverse ++ .ref a :: rest) (hsz : Ls.size = maxL) (hpd : parseMethodDescriptor y.desc = some ⟨ps, rt⟩) (hln : argsL.length = ps.length) (hd : decode bytes pc = .ok (.invokespecial idx, 3)) (hp : pc + 3 = pc')
    (hf : rm'.frames + 1 ≤ R.frames) {W : Nat} (hW : (rest.map fun v => v.category).sum = W) (hl : W + (maxL' + 11) + rm'.locals ≤ R.locals) (hc : k + rm'.cells ≤ R.cells) (hn : n + rm'.slots ≤ R.slots)
    (g : ∀ (T' : State) (h' : Heap) (v : Option Value) (ms' : List Addr), own_Wk Z EL n0 own bytes maxL ret nm p l e R s m args below meth c T' (ms' ++ ms) (k + rm'.cells) (n + rm'.slots) h' → Q' v h' ms' → own_Go Z EL n0 p e below s K N Q (T'.setTop (mkF m pc' Ls (v.toList ++ rest)))) :
    own_Go Z EL n0 p e below s K N Q (T.setTop (mkF m pc Ls st)) := by
  subst hp hst
  obtain ⟨h1, h2, h3, h4, h5, h6, locs, vm0, k0, a1, X, eT, hZ, hown, Nf, O, M, hS, hk0, hC, hEW⟩ := w
  have hZ0 : Z.Warmed39 (s.setVm vm0).vm := hZ
  obtain ⟨v, _, ⟨T', L', k', n'⟩, -, X', hS2, hgr, ⟨L, ms', hQ, NL, O', M', C', l1, l2, l3⟩, st'⟩ := X.specialBackS h1 (y := y) hy1 hown (mvT hZ0 wl) (mvT hZ0 wt) (mvT hZ0 wc) hy (own_back (s := s) (W := W) ct hZ wc wz (fun x hx => M x (hms x hx)) hf hl hEW hC.1) (g := mkF m pc Ls (argsL.reverse ++ .ref a :: rest)) rfl (by rw [h3]; exact hsz) (Steps.refl _) (a := a) (argsL := argsL) (rest := rest) (lenOf hpd hln) rfl (by show 2 * 0 + _ ≤ _; rw [hW]; omega) (h2 ▸ hd) (fun _ _ => ⟨rfl, eT, hc, hn⟩)
  dsimp only [Pt.U, Pt.locs, Pt.cells, Pt.slots] at X' hS2 hgr hQ O' M' C' l1 l2 l3 st'
  subst l1 l2 l3
  refine own_go (fun _ q => st'.trans q) (g T' _ v ms' ⟨h1, h2, h3, h4, h5, h6, locs ++ L, T'.vm, T'.heap.size, a1, X', rfl, State.Warmed39.trans (t := s.setVm vm0) hZ hS2.1, by rw [hS2.1.alike.findClass]; exact hown, Nf.app NL, O', fun x hx => ?_, hS.trans hS2 (Nat.le_trans hk0 (by rw [← eT]; exact hgr)), Nat.le_refl _, hC.trans C', hEW⟩ hQ)
  rcases List.mem_append.mp hx with q | q
  · exact M' x q
  · exact ⟨(M x q).1, Nat.lt_of_lt_of_le (M x q).2.1 C'.2.1, C'.safe (M x q).2.1 (M x q).2.2⟩
theorem own_callIN (w : own_Wk Z EL n0 own bytes maxL ret nm p l e R s m args below meth c T ms k n h) {idx : Nat} {y : MethodName} {host : String} {bytes' : ByteArray} {maxL' : Nat} {rm' : Room} {argsL rest : List Value} {ms0 : List Addr} {Q' : Option Value → Heap → List Addr → Prop} {ps : List FieldType} {rt : Option FieldType}
    (hy1 : y.name = "<init>") (wl : (Jvm.Cond.methodLinkNest own idx y host).before a0 Z = true) (wt : (Jvm.Cond.instanceMethod y).before a0 Z = true) (wz : (Jvm.Cond.initialized y.cls).before a0 Z = true) (wc : (Jvm.Cond.code y bytes' maxL' none).before a0 Z = true) (hy : y.cls ≠ "java/lang/invoke/MethodHandle" ∧ y.cls ≠ "java/lang/invoke/VarHandle")
    (ct : own_Ct l Z EL n0 y bytes' maxL' none [] rm' (.ref a :: argsL).toArray h ms0 Q') (hms : ∀ x ∈ ms0, x ∈ ms) (hst : st = argsL.reverse ++ .ref a :: rest) (hsz : Ls.size = maxL) (hpd : parseMethodDescriptor y.desc = some ⟨ps, rt⟩) (hln : argsL.length = ps.length) (hd : decode bytes pc = .ok (.invokespecial idx, 3)) (hp : pc + 3 = pc')
    (hf : rm'.frames + 1 ≤ R.frames) {W : Nat} (hW : (rest.map fun v => v.category).sum = W) (hl : W + (maxL' + 11) + rm'.locals ≤ R.locals) (hc : k + rm'.cells ≤ R.cells) (hn : n + rm'.slots ≤ R.slots)
    (g : ∀ (T' : State) (h' : Heap) (v : Option Value) (ms' : List Addr), own_Wk Z EL n0 own bytes maxL ret nm p l e R s m args below meth c T' (ms' ++ ms) (k + rm'.cells) (n + rm'.slots) h' → Q' v h' ms' → own_Go Z EL n0 p e below s K N Q (T'.setTop (mkF m pc' Ls (v.toList ++ rest)))) :
    own_Go Z EL n0 p e below s K N Q (T.setTop (mkF m pc Ls st)) := by
  subst hp hst
  obtain ⟨h1, h2, h3, h4, h5, h6, locs, vm0, k0, a1, X, eT, hZ, hown, Nf, O, M, hS, hk0, hC, hEW⟩ := w
  have hZ0 : Z.Warmed39 (s.setVm vm0).vm := hZ
  obtain ⟨v, _, ⟨T', L', k', n'⟩, -, X', hS2, hgr, ⟨L, ms', hQ, NL, O', M', C', l1, l2, l3⟩, st'⟩ := X.specialBackNestS h1 (y := y) hy1 hown (own_mvMN hZ0 wl) (mvT hZ0 wt) (mvT hZ0 wc) hy (own_back (s := s) (W := W) ct hZ wc wz (fun x hx => M x (hms x hx)) hf hl hEW hC.1) (g := mkF m pc Ls (argsL.reverse ++ .ref a :: rest)) rfl (by rw [h3]; exact hsz) (Steps.refl _) (a := a) (argsL := argsL) (rest := rest) (lenOf hpd hln) rfl (by show 2 * 0 + _ ≤ _; rw [hW]; omega) (h2 ▸ hd) (fun _ _ => ⟨rfl, eT, hc, hn⟩)
  dsimp only [Pt.U, Pt.locs, Pt.cells, Pt.slots] at X' hS2 hgr hQ O' M' C' l1 l2 l3 st'
  subst l1 l2 l3
  refine own_go (fun _ q => st'.trans q) (g T' _ v ms' ⟨h1, h2, h3, h4, h5, h6, locs ++ L, T'.vm, T'.heap.size, a1, X', rfl, State.Warmed39.trans (t := s.setVm vm0) hZ hS2.1, by rw [hS2.1.alike.findClass]; exact hown, Nf.app NL, O', fun x hx => ?_, hS.trans hS2 (Nat.le_trans hk0 (by rw [← eT]; exact hgr)), Nat.le_refl _, hC.trans C', hEW⟩ hQ)
  rcases List.mem_append.mp hx with q | q
  · exact M' x q
  · exact ⟨(M x q).1, Nat.lt_of_lt_of_le (M x q).2.1 C'.2.1, C'.safe (M x q).2.1 (M x q).2.2⟩
theorem own_callV (w : own_Wk Z EL n0 own bytes maxL ret nm p l e R s m args below meth c T ms k n h) {idx : Nat} {C : String} {y z : MethodName} {bytes' : ByteArray} {maxL' : Nat} {ret' : Option FieldType} {rm' : Room} {argsL rest : List Value} {ms0 : List Addr} {Q' : Option Value → Heap → List Addr → Prop} {ps : List FieldType} {rt : Option FieldType}
    (wl : (Jvm.Cond.methodLink own idx y).before a0 Z = true) (wd : (Jvm.Cond.declares y).before a0 Z = true) (hnf : ∀ s' : State, Z.Warmed39 s'.vm → NotFace s' y) (ws : (Jvm.Cond.selects C y z).before a0 Z = true) (wt : (Jvm.Cond.instanceMethod z).before a0 Z = true) (wz : (Jvm.Cond.initialized z.cls).before a0 Z = true) (wc : (Jvm.Cond.code z bytes' maxL' ret').before a0 Z = true) (hy : y.cls ≠ "java/lang/invoke/MethodHandle" ∧ y.cls ≠ "java/lang/invoke/VarHandle")
    (E : Exa Z h a C) (ct : own_Ct l Z EL n0 z bytes' maxL' ret' [] rm' (.ref a :: argsL).toArray h ms0 Q') (hms : ∀ x ∈ ms0, x ∈ ms) (hst : st = argsL.reverse ++ .ref a :: rest) (hsz : Ls.size = maxL) (hpd : parseMethodDescriptor y.desc = some ⟨ps, rt⟩) (hln : argsL.length = ps.length) (hd : decode bytes pc = .ok (.invokevirtual idx, 3)) (hp : pc + 3 = pc')
    (hf : rm'.frames + 1 ≤ R.frames) {W : Nat} (hW : (rest.map fun v => v.category).sum = W) (hl : W + (maxL' + 11) + rm'.locals ≤ R.locals) (hc : k + rm'.cells ≤ R.cells) (hn : n + rm'.slots ≤ R.slots)
    (g : ∀ (T' : State) (h' : Heap) (v : Option Value) (ms' : List Addr), own_Wk Z EL n0 own bytes maxL ret nm p l e R s m args below meth c T' (ms' ++ ms) (k + rm'.cells) (n + rm'.slots) h' → Q' v h' ms' → own_Go Z EL n0 p e below s K N Q (T'.setTop (mkF m pc' Ls (v.toList ++ rest)))) :
    own_Go Z EL n0 p e below s K N Q (T.setTop (mkF m pc Ls st)) := by
  subst hp hst
  obtain ⟨h1, h2, h3, h4, h5, h6, locs, vm0, k0, a1, X, eT, hZ, hown, Nf, O, M, hS, hk0, hC, hEW⟩ := w
  have hZ0 : Z.Warmed39 (s.setVm vm0).vm := hZ
  obtain ⟨cq, kq, qa, qb, qc⟩ := isOf hZ0 eT E
  obtain ⟨v, _, ⟨T', L', k', n'⟩, -, X', hS2, hgr, ⟨L, ms', hQ, NL, O', M', C', l1, l2, l3⟩, st'⟩ := X.virtualBackS h1 (y := y) (z := z) hown (mvT hZ0 wl) (mvT hZ0 wd) (hnf _ hZ0) (mvT hZ0 ws) (mvT hZ0 wt) hy (own_back (s := s) (W := W) ct hZ wc wz (fun x hx => M x (hms x hx)) hf hl hEW hC.1) qa qc (g := mkF m pc Ls (argsL.reverse ++ .ref a :: rest)) rfl (by rw [h3]; exact hsz) (Steps.refl _) (argsL := argsL) (rest := rest) (lenOf hpd hln) rfl (by show 2 * 0 + _ ≤ _; rw [hW]; omega) (h2 ▸ hd) (fun _ _ => ⟨rfl, eT, hc, hn⟩)
  dsimp only [Pt.U, Pt.locs, Pt.cells, Pt.slots] at X' hS2 hgr hQ O' M' C' l1 l2 l3 st'
  subst l1 l2 l3
  refine own_go (fun _ q => st'.trans q) (g T' _ v ms' ⟨h1, h2, h3, h4, h5, h6, locs ++ L, T'.vm, T'.heap.size, a1, X', rfl, State.Warmed39.trans (t := s.setVm vm0) hZ hS2.1, by rw [hS2.1.alike.findClass]; exact hown, Nf.app NL, O', fun x hx => ?_, hS.trans hS2 (Nat.le_trans hk0 (by rw [← eT]; exact hgr)), Nat.le_refl _, hC.trans C', hEW⟩ hQ)
  rcases List.mem_append.mp hx with q | q
  · exact M' x q
  · exact ⟨(M x q).1, Nat.lt_of_lt_of_le (M x q).2.1 C'.2.1, C'.safe (M x q).2.1 (M x q).2.2⟩
theorem own_ldcS (w : own_Wk Z EL n0 own bytes maxL ret nm p l e R s m args below meth c T ms k n h) {idx nn : Nat} {text : String} {vs : List Value} {z : Int32} (wl : (Jvm.Cond.stringLink own idx text).before a0 Z = true) (wS : ∀ a ∈ Bundle.stringAtoms, a.before a0 Z = true) (hmem : (own, idx) ∈ EL) (ht : (∀ c ∈ text.toList, c.toNat < 256) ∧ text.toList.map (fun c => Value.int (Jvm.Lit.byteI c.toNat.toUInt16)) = vs) (hz : ¬ z < 0) (hzl : z.toNatClampNeg = vs.length)
    (hd : decode bytes pc = .ok (.ldc idx, 2)) (hp : pc + 2 = pc') (hn : 4 * text.toList.length ≤ nn) (hbig : nn ≤ 536870912) (hc : k + 2 ≤ R.cells) (hl : n + (nn + 4) ≤ R.slots) (hE : EW Z a0 EL)
    (g : ∀ (T' : State) (h' : Heap) (a b : Addr) (kb : ClassId), own_Wk Z EL n0 own bytes maxL ret nm p l e R s m args below meth c T' ms (k + 2) (n + (nn + 4)) h' → Ext h h' → (Exa Z h' a "java/lang/String" ∧ Fld Z h' a "java/lang/String" "coder" "B" (.int 0) ∧ Fld Z h' a "java/lang/String" "value" "[B" (.ref b) ∧ Arv Z h' b kb .byte z vs (.int 0) ∧ ∀ x ∈ ms, x ≠ a ∧ x ≠ b) → own_Go Z EL n0 p e below s K N Q (T'.setTop (mkF m pc' Ls (.ref a :: st)))) :
    own_Go Z EL n0 p e below s K N Q (T.setTop (mkF m pc Ls st)) := by
  subst hp
  obtain ⟨h1, h2, h3, h4, h5, h6, locs, vm0, k0, a1, X, eT, hZ, hown, Nf, O, M, hS, hk0, hC, hEW⟩ := w
  obtain ⟨a, T', h', k1, b, kb, X', e', E', hS', hk1, hZ', hown', e1, e2, e3, e4, -, -, C', -, hne, st'⟩ := ldcCH X h1 hZ hown wl wS eT hS hk0 hE hmem hC.1 ht hz hzl (g := mkF m pc Ls st) rfl (h2 ▸ hd) hn hbig hc hl
  have hsf : ∀ x ∈ ms, n0 ≤ x ∧ x < h'.size ∧ Safe Z EL T'.vm h' x := fun x hx => ⟨(M x hx).1, Nat.lt_of_lt_of_le (M x hx).2.1 E'.1, C'.safe (M x hx).2.1 (M x hx).2.2⟩
  exact own_go st' (g T' h' a b kb ⟨h1, h2, h3, h4, h5, h6, locs, T'.vm, k1, a1, X', e', hZ', hown', Nf, O.ext E', hsf, hS', hk1, hC.trans C', hEW⟩ E' ⟨e1, e2, e3, e4, fun x hx => hne x (hsf x hx).2.2⟩)
theorem own_aloadN (w : own_Wk Z EL n0 own bytes maxL ret nm p l e R s m args below meth c T ms k n h) {kk : Fin 4} {v : Value} (hd : decode bytes pc = .ok (.aload_n kk, 1)) (hl : Ls[kk.val]? = some (.val v)) (hv : v.isRef = true) (hp : pc + 1 = pc') (g : own_Go Z EL n0 p e below s K N Q (T.setTop (mkF m pc' Ls (v :: st)))) : own_Go Z EL n0 p e below s K N Q (T.setTop (mkF m pc Ls st)) := by
  subst hp; exact own_go (fun _ q => XS.aloadN (own_here w) w.1 rfl (own_dec w hd) hl hv q) g
theorem own_aload (w : own_Wk Z EL n0 own bytes maxL ret nm p l e R s m args below meth c T ms k n h) {kk : Nat} {v : Value} (hd : decode bytes pc = .ok (.aload kk, 2)) (hl : Ls[kk]? = some (.val v)) (hv : v.isRef = true) (hp : pc + 2 = pc') (g : own_Go Z EL n0 p e below s K N Q (T.setTop (mkF m pc' Ls (v :: st)))) : own_Go Z EL n0 p e below s K N Q (T.setTop (mkF m pc Ls st)) := by
  subst hp; exact own_go (fun _ q => XS.aload (own_here w) w.1 rfl (own_dec w hd) hl hv q) g
theorem own_iloadN (w : own_Wk Z EL n0 own bytes maxL ret nm p l e R s m args below meth c T ms k n h) {kk : Fin 4} {v : Int32} (hd : decode bytes pc = .ok (.iload_n kk, 1)) (hl : Ls[kk.val]? = some (.val (.int v))) (hp : pc + 1 = pc') (g : own_Go Z EL n0 p e below s K N Q (T.setTop (mkF m pc' Ls (.int v :: st)))) : own_Go Z EL n0 p e below s K N Q (T.setTop (mkF m pc Ls st)) := by
  subst hp; exact own_go (fun _ q => XS.iloadN (own_here w) w.1 rfl (own_dec w hd) hl q) g
theorem own_iload (w : own_Wk Z EL n0 own bytes maxL ret nm p l e R s m args below meth c T ms k n h) {kk : Nat} {v : Int32} (hd : decode bytes pc = .ok (.iload kk, 2)) (hl : Ls[kk]? = some (.val (.int v))) (hp : pc + 2 = pc') (g : own_Go Z EL n0 p e below s K N Q (T.setTop (mkF m pc' Ls (.int v :: st)))) : own_Go Z EL n0 p e below s K N Q (T.setTop (mkF m pc Ls st)) := by
  subst hp; exact own_go (fun _ q => XS.iload (own_here w) w.1 rfl (own_dec w hd) hl q) g
theorem own_istoreN (w : own_Wk Z EL n0 own bytes maxL ret nm p l e R s m args below meth c T ms k n h) {kk : Fin 4} {x : Int32} (hd : decode bytes pc = .ok (.istore_n kk, 1)) (hl : storeLocals Ls kk.val (.int x) = some Ls') (hp : pc + 1 = pc') (g : own_Go Z EL n0 p e below s K N Q (T.setTop (mkF m pc' Ls' st))) : own_Go Z EL n0 p e below s K N Q (T.setTop (mkF m pc Ls (.int x :: st))) := by
  subst hp; exact own_go (fun _ q => XS.istoreN (own_here w) w.1 rfl (own_dec w hd) rfl hl q) g
theorem own_istore (w : own_Wk Z EL n0 own bytes maxL ret nm p l e R s m args below meth c T ms k n h) {kk : Nat} {x : Int32} (hd : decode bytes pc = .ok (.istore kk, 2)) (hl : storeLocals Ls kk (.int x) = some Ls') (hp : pc + 2 = pc') (g : own_Go Z EL n0 p e below s K N Q (T.setTop (mkF m pc' Ls' st))) : own_Go Z EL n0 p e below s K N Q (T.setTop (mkF m pc Ls (.int x :: st))) := by
  subst hp; exact own_go (fun _ q => XS.istore (own_here w) w.1 rfl (own_dec w hd) rfl hl q) g
theorem own_lloadN (w : own_Wk Z EL n0 own bytes maxL ret nm p l e R s m args below meth c T ms k n h) {kk : Fin 4} {v : Int64} (hd : decode bytes pc = .ok (.lload_n kk, 1)) (hl : Ls[kk.val]? = some (.val (.long v))) (hp : pc + 1 = pc') (g : own_Go Z EL n0 p e below s K N Q (T.setTop (mkF m pc' Ls (.long v :: st)))) : own_Go Z EL n0 p e below s K N Q (T.setTop (mkF m pc Ls st)) := by
  subst hp; exact own_go (fun _ q => XT.lloadN (own_here w) w.1 rfl (own_dec w hd) hl q) g
theorem own_lload (w : own_Wk Z EL n0 own bytes maxL ret nm p l e R s m args below meth c T ms k n h) {kk : Nat} {v : Int64} (hd : decode bytes pc = .ok (.lload kk, 2)) (hl : Ls[kk]? = some (.val (.long v))) (hp : pc + 2 = pc') (g : own_Go Z EL n0 p e below s K N Q (T.setTop (mkF m pc' Ls (.long v :: st)))) : own_Go Z EL n0 p e below s K N Q (T.setTop (mkF m pc Ls st)) := by
  subst hp; exact own_go (fun _ q => XT.lload (own_here w) w.1 rfl (own_dec w hd) hl q) g
theorem own_lstoreN (w : own_Wk Z EL n0 own bytes maxL ret nm p l e R s m args below meth c T ms k n h) {kk : Fin 4} {x : Int64} (hd : decode bytes pc = .ok (.lstore_n kk, 1)) (hl : storeLocals Ls kk.val (.long x) = some Ls') (hp : pc + 1 = pc') (g : own_Go Z EL n0 p e below s K N Q (T.setTop (mkF m pc' Ls' st))) : own_Go Z EL n0 p e below s K N Q (T.setTop (mkF m pc Ls (.long x :: st))) := by
  subst hp; exact own_go (fun _ q => XT.lstoreN (own_here w) w.1 rfl (own_dec w hd) rfl hl q) g
theorem own_lstore (w : own_Wk Z EL n0 own bytes maxL ret nm p l e R s m args below meth c T ms k n h) {kk : Nat} {x : Int64} (hd : decode bytes pc = .ok (.lstore kk, 2)) (hl : storeLocals Ls kk (.long x) = some Ls') (hp : pc + 2 = pc') (g : own_Go Z EL n0 p e below s K N Q (T.setTop (mkF m pc' Ls' st))) : own_Go Z EL n0 p e below s K N Q (T.setTop (mkF m pc Ls (.long x :: st))) := by
  subst hp; exact own_go (fun _ q => XT.lstore (own_here w) w.1 rfl (own_dec w hd) rfl hl q) g
theorem own_astoreN (w : own_Wk Z EL n0 own bytes maxL ret nm p l e R s m args below meth c T ms k n h) {kk : Fin 4} {x : Value} (hd : decode bytes pc = .ok (.astore_n kk, 1)) (hv : x.isRef = true) (hl : storeLocals Ls kk.val x = some Ls') (hp : pc + 1 = pc') (g : own_Go Z EL n0 p e below s K N Q (T.setTop (mkF m pc' Ls' st))) : own_Go Z EL n0 p e below s K N Q (T.setTop (mkF m pc Ls (x :: st))) := by
  subst hp; exact own_go (fun _ q => XS.astoreN (own_here w) w.1 rfl (own_dec w hd) rfl hv hl q) g
theorem own_astore (w : own_Wk Z EL n0 own bytes maxL ret nm p l e R s m args below meth c T ms k n h) {kk : Nat} {x : Value} (hd : decode bytes pc = .ok (.astore kk, 2)) (hv : x.isRef = true) (hl : storeLocals Ls kk x = some Ls') (hp : pc + 2 = pc') (g : own_Go Z EL n0 p e below s K N Q (T.setTop (mkF m pc' Ls' st))) : own_Go Z EL n0 p e below s K N Q (T.setTop (mkF m pc Ls (x :: st))) := by
  subst hp; exact own_go (fun _ q => XS.astore (own_here w) w.1 rfl (own_dec w hd) rfl hv hl q) g
theorem own_iconst (w : own_Wk Z EL n0 own bytes maxL ret nm p l e R s m args below meth c T ms k n h) {i : Int} {x : Int32} (hd : decode bytes pc = .ok (.iconst i, 1)) (hi : Int32.ofInt i = x) (hp : pc + 1 = pc') (g : own_Go Z EL n0 p e below s K N Q (T.setTop (mkF m pc' Ls (.int x :: st)))) : own_Go Z EL n0 p e below s K N Q (T.setTop (mkF m pc Ls st)) := by
  subst hp hi; exact own_go (fun _ q => XS.iconst (own_here w) w.1 rfl (own_dec w hd)  q) g
theorem own_bipush (w : own_Wk Z EL n0 own bytes maxL ret nm p l e R s m args below meth c T ms k n h) {i : Int} {x : Int32} (hd : decode bytes pc = .ok (.bipush i, 2)) (hi : (Int8.ofInt i).toInt32 = x) (hp : pc + 2 = pc') (g : own_Go Z EL n0 p e below s K N Q (T.setTop (mkF m pc' Ls (.int x :: st)))) : own_Go Z EL n0 p e below s K N Q (T.setTop (mkF m pc Ls st)) := by
  subst hp hi; exact own_go (fun _ q => XS.bipush (own_here w) w.1 rfl (own_dec w hd)  q) g
theorem own_sipush (w : own_Wk Z EL n0 own bytes maxL ret nm p l e R s m args below meth c T ms k n h) {i : Int} {x : Int32} (hd : decode bytes pc = .ok (.sipush i, 3)) (hi : (Int16.ofInt i).toInt32 = x) (hp : pc + 3 = pc') (g : own_Go Z EL n0 p e below s K N Q (T.setTop (mkF m pc' Ls (.int x :: st)))) : own_Go Z EL n0 p e below s K N Q (T.setTop (mkF m pc Ls st)) := by
  subst hp hi; exact own_go (fun _ q => XS.sipush (own_here w) w.1 rfl (own_dec w hd)  q) g
theorem own_lconst (w : own_Wk Z EL n0 own bytes maxL ret nm p l e R s m args below meth c T ms k n h) {i : Fin 2} {x : Int64} (hd : decode bytes pc = .ok (.lconst i, 1)) (hi : Int64.ofNat i = x) (hp : pc + 1 = pc') (g : own_Go Z EL n0 p e below s K N Q (T.setTop (mkF m pc' Ls (.long x :: st)))) : own_Go Z EL n0 p e below s K N Q (T.setTop (mkF m pc Ls st)) := by
  subst hp hi; exact own_go (fun _ q => XT.lconst (own_here w) w.1 rfl (own_dec w hd)  q) g
theorem own_aconstNull (w : own_Wk Z EL n0 own bytes maxL ret nm p l e R s m args below meth c T ms k n h)  (hd : decode bytes pc = .ok (.aconst_null, 1))  (hp : pc + 1 = pc') (g : own_Go Z EL n0 p e below s K N Q (T.setTop (mkF m pc' Ls (.null :: st)))) : own_Go Z EL n0 p e below s K N Q (T.setTop (mkF m pc Ls st)) := by
  subst hp; exact own_go (fun _ q => XS.aconstNull (own_here w) w.1 rfl (own_dec w hd)  q) g
theorem own_iadd (w : own_Wk Z EL n0 own bytes maxL ret nm p l e R s m args below meth c T ms k n h) {x y z : Int32} (hd : decode bytes pc = .ok (.iadd, 1)) (hz : x + y = z) (hp : pc + 1 = pc') (g : own_Go Z EL n0 p e below s K N Q (T.setTop (mkF m pc' Ls (.int z :: st)))) : own_Go Z EL n0 p e below s K N Q (T.setTop (mkF m pc Ls (.int y :: .int x :: st))) := by
  subst hp hz; exact own_go (fun _ q => XS.iadd (own_here w) w.1 rfl (own_dec w hd) rfl q) g
theorem own_isub (w : own_Wk Z EL n0 own bytes maxL ret nm p l e R s m args below meth c T ms k n h) {x y z : Int32} (hd : decode bytes pc = .ok (.isub, 1)) (hz : x - y = z) (hp : pc + 1 = pc') (g : own_Go Z EL n0 p e below s K N Q (T.setTop (mkF m pc' Ls (.int z :: st)))) : own_Go Z EL n0 p e below s K N Q (T.setTop (mkF m pc Ls (.int y :: .int x :: st))) := by
  subst hp hz; exact own_go (fun _ q => XS.isub (own_here w) w.1 rfl (own_dec w hd) rfl q) g
theorem own_imul (w : own_Wk Z EL n0 own bytes maxL ret nm p l e R s m args below meth c T ms k n h) {x y z : Int32} (hd : decode bytes pc = .ok (.imul, 1)) (hz : x * y = z) (hp : pc + 1 = pc') (g : own_Go Z EL n0 p e below s K N Q (T.setTop (mkF m pc' Ls (.int z :: st)))) : own_Go Z EL n0 p e below s K N Q (T.setTop (mkF m pc Ls (.int y :: .int x :: st))) := by
  subst hp hz; exact own_go (fun _ q => XS.imul (own_here w) w.1 rfl (own_dec w hd) rfl q) g
theorem own_iand (w : own_Wk Z EL n0 own bytes maxL ret nm p l e R s m args below meth c T ms k n h) {x y z : Int32} (hd : decode bytes pc = .ok (.iand, 1)) (hz : x &&& y = z) (hp : pc + 1 = pc') (g : own_Go Z EL n0 p e below s K N Q (T.setTop (mkF m pc' Ls (.int z :: st)))) : own_Go Z EL n0 p e below s K N Q (T.setTop (mkF m pc Ls (.int y :: .int x :: st))) := by
  subst hp hz; exact own_go (fun _ q => XS.iand (own_here w) w.1 rfl (own_dec w hd) rfl q) g
theorem own_ior (w : own_Wk Z EL n0 own bytes maxL ret nm p l e R s m args below meth c T ms k n h) {x y z : Int32} (hd : decode bytes pc = .ok (.ior, 1)) (hz : x ||| y = z) (hp : pc + 1 = pc') (g : own_Go Z EL n0 p e below s K N Q (T.setTop (mkF m pc' Ls (.int z :: st)))) : own_Go Z EL n0 p e below s K N Q (T.setTop (mkF m pc Ls (.int y :: .int x :: st))) := by
  subst hp hz; exact own_go (fun _ q => XT.ior (own_here w) w.1 rfl (own_dec w hd) rfl q) g
theorem own_ixor (w : own_Wk Z EL n0 own bytes maxL ret nm p l e R s m args below meth c T ms k n h) {x y z : Int32} (hd : decode bytes pc = .ok (.ixor, 1)) (hz : x ^^^ y = z) (hp : pc + 1 = pc') (g : own_Go Z EL n0 p e below s K N Q (T.setTop (mkF m pc' Ls (.int z :: st)))) : own_Go Z EL n0 p e below s K N Q (T.setTop (mkF m pc Ls (.int y :: .int x :: st))) := by
  subst hp hz; exact own_go (fun _ q => XT.ixor (own_here w) w.1 rfl (own_dec w hd) rfl q) g
theorem own_ishl (w : own_Wk Z EL n0 own bytes maxL ret nm p l e R s m args below meth c T ms k n h) {x y z : Int32} (hd : decode bytes pc = .ok (.ishl, 1)) (hz : x <<< (y &&& 31) = z) (hp : pc + 1 = pc') (g : own_Go Z EL n0 p e below s K N Q (T.setTop (mkF m pc' Ls (.int z :: st)))) : own_Go Z EL n0 p e below s K N Q (T.setTop (mkF m pc Ls (.int y :: .int x :: st))) := by
  subst hp hz; exact own_go (fun _ q => XT.ishl (own_here w) w.1 rfl (own_dec w hd) rfl q) g
theorem own_ishr (w : own_Wk Z EL n0 own bytes maxL ret nm p l e R s m args below meth c T ms k n h) {x y z : Int32} (hd : decode bytes pc = .ok (.ishr, 1)) (hz : x >>> (y &&& 31) = z) (hp : pc + 1 = pc') (g : own_Go Z EL n0 p e below s K N Q (T.setTop (mkF m pc' Ls (.int z :: st)))) : own_Go Z EL n0 p e below s K N Q (T.setTop (mkF m pc Ls (.int y :: .int x :: st))) := by
  subst hp hz; exact own_go (fun _ q => XT.ishr (own_here w) w.1 rfl (own_dec w hd) rfl q) g
theorem own_iushr (w : own_Wk Z EL n0 own bytes maxL ret nm p l e R s m args below meth c T ms k n h) {x y z : Int32} (hd : decode bytes pc = .ok (.iushr, 1)) (hz : XT.ushr x y = z) (hp : pc + 1 = pc') (g : own_Go Z EL n0 p e below s K N Q (T.setTop (mkF m pc' Ls (.int z :: st)))) : own_Go Z EL n0 p e below s K N Q (T.setTop (mkF m pc Ls (.int y :: .int x :: st))) := by
  subst hp hz; exact own_go (fun _ q => XT.iushr (own_here w) w.1 rfl (own_dec w hd) rfl q) g
theorem own_idiv (w : own_Wk Z EL n0 own bytes maxL ret nm p l e R s m args below meth c T ms k n h) {x y z : Int32} (hd : decode bytes pc = .ok (.idiv, 1)) (hy : y ≠ 0) (hz : x / y = z) (hp : pc + 1 = pc') (g : own_Go Z EL n0 p e below s K N Q (T.setTop (mkF m pc' Ls (.int z :: st)))) : own_Go Z EL n0 p e below s K N Q (T.setTop (mkF m pc Ls (.int y :: .int x :: st))) := by
  subst hp hz; exact own_go (fun _ q => XS.idiv (own_here w) w.1 rfl (own_dec w hd) rfl hy q) g
theorem own_irem (w : own_Wk Z EL n0 own bytes maxL ret nm p l e R s m args below meth c T ms k n h) {x y z : Int32} (hd : decode bytes pc = .ok (.irem, 1)) (hy : y ≠ 0) (hz : x - (x / y) * y = z) (hp : pc + 1 = pc') (g : own_Go Z EL n0 p e below s K N Q (T.setTop (mkF m pc' Ls (.int z :: st)))) : own_Go Z EL n0 p e below s K N Q (T.setTop (mkF m pc Ls (.int y :: .int x :: st))) := by
  subst hp hz; exact own_go (fun _ q => XS.irem (own_here w) w.1 rfl (own_dec w hd) rfl hy q) g
theorem own_ineg (w : own_Wk Z EL n0 own bytes maxL ret nm p l e R s m args below meth c T ms k n h) {x z : Int32} (hd : decode bytes pc = .ok (.ineg, 1)) (hz : -x = z) (hp : pc + 1 = pc') (g : own_Go Z EL n0 p e below s K N Q (T.setTop (mkF m pc' Ls (.int z :: st)))) : own_Go Z EL n0 p e below s K N Q (T.setTop (mkF m pc Ls (.int x :: st))) := by
  subst hp hz; exact own_go (fun _ q => XS.ineg (own_here w) w.1 rfl (own_dec w hd) rfl q) g
theorem own_ladd (w : own_Wk Z EL n0 own bytes maxL ret nm p l e R s m args below meth c T ms k n h) {x y z : Int64} (hd : decode bytes pc = .ok (.ladd, 1)) (hz : x + y = z) (hp : pc + 1 = pc') (g : own_Go Z EL n0 p e below s K N Q (T.setTop (mkF m pc' Ls (.long z :: st)))) : own_Go Z EL n0 p e below s K N Q (T.setTop (mkF m pc Ls (.long y :: .long x :: st))) := by
  subst hp hz; exact own_go (fun _ q => XT.ladd (own_here w) w.1 rfl (own_dec w hd) rfl q) g
theorem own_lsub (w : own_Wk Z EL n0 own bytes maxL ret nm p l e R s m args below meth c T ms k n h) {x y z : Int64} (hd : decode bytes pc = .ok (.lsub, 1)) (hz : x - y = z) (hp : pc + 1 = pc') (g : own_Go Z EL n0 p e below s K N Q (T.setTop (mkF m pc' Ls (.long z :: st)))) : own_Go Z EL n0 p e below s K N Q (T.setTop (mkF m pc Ls (.long y :: .long x :: st))) := by
  subst hp hz; exact own_go (fun _ q => XT.lsub (own_here w) w.1 rfl (own_dec w hd) rfl q) g
theorem own_lmul (w : own_Wk Z EL n0 own bytes maxL ret nm p l e R s m args below meth c T ms k n h) {x y z : Int64} (hd : decode bytes pc = .ok (.lmul, 1)) (hz : x * y = z) (hp : pc + 1 = pc') (g : own_Go Z EL n0 p e below s K N Q (T.setTop (mkF m pc' Ls (.long z :: st)))) : own_Go Z EL n0 p e below s K N Q (T.setTop (mkF m pc Ls (.long y :: .long x :: st))) := by
  subst hp hz; exact own_go (fun _ q => XT.lmul (own_here w) w.1 rfl (own_dec w hd) rfl q) g
theorem own_land (w : own_Wk Z EL n0 own bytes maxL ret nm p l e R s m args below meth c T ms k n h) {x y z : Int64} (hd : decode bytes pc = .ok (.land, 1)) (hz : x &&& y = z) (hp : pc + 1 = pc') (g : own_Go Z EL n0 p e below s K N Q (T.setTop (mkF m pc' Ls (.long z :: st)))) : own_Go Z EL n0 p e below s K N Q (T.setTop (mkF m pc Ls (.long y :: .long x :: st))) := by
  subst hp hz; exact own_go (fun _ q => XT.land (own_here w) w.1 rfl (own_dec w hd) rfl q) g
theorem own_lor (w : own_Wk Z EL n0 own bytes maxL ret nm p l e R s m args below meth c T ms k n h) {x y z : Int64} (hd : decode bytes pc = .ok (.lor, 1)) (hz : x ||| y = z) (hp : pc + 1 = pc') (g : own_Go Z EL n0 p e below s K N Q (T.setTop (mkF m pc' Ls (.long z :: st)))) : own_Go Z EL n0 p e below s K N Q (T.setTop (mkF m pc Ls (.long y :: .long x :: st))) := by
  subst hp hz; exact own_go (fun _ q => XT.lor (own_here w) w.1 rfl (own_dec w hd) rfl q) g
theorem own_lxor (w : own_Wk Z EL n0 own bytes maxL ret nm p l e R s m args below meth c T ms k n h) {x y z : Int64} (hd : decode bytes pc = .ok (.lxor, 1)) (hz : x ^^^ y = z) (hp : pc + 1 = pc') (g : own_Go Z EL n0 p e below s K N Q (T.setTop (mkF m pc' Ls (.long z :: st)))) : own_Go Z EL n0 p e below s K N Q (T.setTop (mkF m pc Ls (.long y :: .long x :: st))) := by
  subst hp hz; exact own_go (fun _ q => XT.lxor (own_here w) w.1 rfl (own_dec w hd) rfl q) g
theorem own_lshl (w : own_Wk Z EL n0 own bytes maxL ret nm p l e R s m args below meth c T ms k n h) {x z : Int64} {y : Int32} (hd : decode bytes pc = .ok (.lshl, 1)) (hz : x <<< (y.toInt64 &&& 63) = z) (hp : pc + 1 = pc') (g : own_Go Z EL n0 p e below s K N Q (T.setTop (mkF m pc' Ls (.long z :: st)))) : own_Go Z EL n0 p e below s K N Q (T.setTop (mkF m pc Ls (.int y :: .long x :: st))) := by
  subst hp hz; exact own_go (fun _ q => XT.lshl (own_here w) w.1 rfl (own_dec w hd) rfl q) g
theorem own_lshr (w : own_Wk Z EL n0 own bytes maxL ret nm p l e R s m args below meth c T ms k n h) {x z : Int64} {y : Int32} (hd : decode bytes pc = .ok (.lshr, 1)) (hz : x >>> (y.toInt64 &&& 63) = z) (hp : pc + 1 = pc') (g : own_Go Z EL n0 p e below s K N Q (T.setTop (mkF m pc' Ls (.long z :: st)))) : own_Go Z EL n0 p e below s K N Q (T.setTop (mkF m pc Ls (.int y :: .long x :: st))) := by
  subst hp hz; exact own_go (fun _ q => XT.lshr (own_here w) w.1 rfl (own_dec w hd) rfl q) g
theorem own_lushr (w : own_Wk Z EL n0 own bytes maxL ret nm p l e R s m args below meth c T ms k n h) {x z : Int64} {y : Int32} (hd : decode bytes pc = .ok (.lushr, 1)) (hz : XT.ushrL x y = z) (hp : pc + 1 = pc') (g : own_Go Z EL n0 p e below s K N Q (T.setTop (mkF m pc' Ls (.long z :: st)))) : own_Go Z EL n0 p e below s K N Q (T.setTop (mkF m pc Ls (.int y :: .long x :: st))) := by
  subst hp hz; exact own_go (fun _ q => XT.lushr (own_here w) w.1 rfl (own_dec w hd) rfl q) g
theorem own_lneg (w : own_Wk Z EL n0 own bytes maxL ret nm p l e R s m args below meth c T ms k n h) {x z : Int64} (hd : decode bytes pc = .ok (.lneg, 1)) (hz : -x = z) (hp : pc + 1 = pc') (g : own_Go Z EL n0 p e below s K N Q (T.setTop (mkF m pc' Ls (.long z :: st)))) : own_Go Z EL n0 p e below s K N Q (T.setTop (mkF m pc Ls (.long x :: st))) := by
  subst hp hz; exact own_go (fun _ q => XT.lneg (own_here w) w.1 rfl (own_dec w hd) rfl q) g
theorem own_lcmp (w : own_Wk Z EL n0 own bytes maxL ret nm p l e R s m args below meth c T ms k n h) {x y : Int64} {z : Int32} (hd : decode bytes pc = .ok (.lcmp, 1)) (hz : XT.cmpL x y = z) (hp : pc + 1 = pc') (g : own_Go Z EL n0 p e below s K N Q (T.setTop (mkF m pc' Ls (.int z :: st)))) : own_Go Z EL n0 p e below s K N Q (T.setTop (mkF m pc Ls (.long y :: .long x :: st))) := by
  subst hp hz; exact own_go (fun _ q => XT.lcmp (own_here w) w.1 rfl (own_dec w hd) rfl q) g
theorem own_i2l (w : own_Wk Z EL n0 own bytes maxL ret nm p l e R s m args below meth c T ms k n h) {x : Int32} {z : Int64} (hd : decode bytes pc = .ok (.i2l, 1)) (hz : x.toInt64 = z) (hp : pc + 1 = pc') (g : own_Go Z EL n0 p e below s K N Q (T.setTop (mkF m pc' Ls (.long z :: st)))) : own_Go Z EL n0 p e below s K N Q (T.setTop (mkF m pc Ls (.int x :: st))) := by
  subst hp hz; exact own_go (fun _ q => XT.i2l (own_here w) w.1 rfl (own_dec w hd) rfl q) g
theorem own_l2i (w : own_Wk Z EL n0 own bytes maxL ret nm p l e R s m args below meth c T ms k n h) {x : Int64} {z : Int32} (hd : decode bytes pc = .ok (.l2i, 1)) (hz : x.toInt32 = z) (hp : pc + 1 = pc') (g : own_Go Z EL n0 p e below s K N Q (T.setTop (mkF m pc' Ls (.int z :: st)))) : own_Go Z EL n0 p e below s K N Q (T.setTop (mkF m pc Ls (.long x :: st))) := by
  subst hp hz; exact own_go (fun _ q => XT.l2i (own_here w) w.1 rfl (own_dec w hd) rfl q) g
theorem own_i2b (w : own_Wk Z EL n0 own bytes maxL ret nm p l e R s m args below meth c T ms k n h) {x z : Int32} (hd : decode bytes pc = .ok (.i2b, 1)) (hz : x.toInt8.toInt32 = z) (hp : pc + 1 = pc') (g : own_Go Z EL n0 p e below s K N Q (T.setTop (mkF m pc' Ls (.int z :: st)))) : own_Go Z EL n0 p e below s K N Q (T.setTop (mkF m pc Ls (.int x :: st))) := by
  subst hp hz; exact own_go (fun _ q => XT.i2b (own_here w) w.1 rfl (own_dec w hd) rfl q) g
theorem own_i2c (w : own_Wk Z EL n0 own bytes maxL ret nm p l e R s m args below meth c T ms k n h) {x z : Int32} (hd : decode bytes pc = .ok (.i2c, 1)) (hz : x.toUInt32.toUInt16.toUInt32.toInt32 = z) (hp : pc + 1 = pc') (g : own_Go Z EL n0 p e below s K N Q (T.setTop (mkF m pc' Ls (.int z :: st)))) : own_Go Z EL n0 p e below s K N Q (T.setTop (mkF m pc Ls (.int x :: st))) := by
  subst hp hz; exact own_go (fun _ q => XT.i2c (own_here w) w.1 rfl (own_dec w hd) rfl q) g
theorem own_i2s (w : own_Wk Z EL n0 own bytes maxL ret nm p l e R s m args below meth c T ms k n h) {x z : Int32} (hd : decode bytes pc = .ok (.i2s, 1)) (hz : x.toInt16.toInt32 = z) (hp : pc + 1 = pc') (g : own_Go Z EL n0 p e below s K N Q (T.setTop (mkF m pc' Ls (.int z :: st)))) : own_Go Z EL n0 p e below s K N Q (T.setTop (mkF m pc Ls (.int x :: st))) := by
  subst hp hz; exact own_go (fun _ q => XT.i2s (own_here w) w.1 rfl (own_dec w hd) rfl q) g
theorem own_dup (w : own_Wk Z EL n0 own bytes maxL ret nm p l e R s m args below meth c T ms k n h) {x : Value} (hd : decode bytes pc = .ok (.dup, 1)) (hc : x.category = 1) (hp : pc + 1 = pc') (g : own_Go Z EL n0 p e below s K N Q (T.setTop (mkF m pc' Ls (x :: x :: st)))) : own_Go Z EL n0 p e below s K N Q (T.setTop (mkF m pc Ls (x :: st))) := by
  subst hp; exact own_go (fun _ q => XS.dup (own_here w) w.1 rfl (own_dec w hd) rfl hc q) g
theorem own_dupX1 (w : own_Wk Z EL n0 own bytes maxL ret nm p l e R s m args below meth c T ms k n h) {x y : Value} (hd : decode bytes pc = .ok (.dup_x1, 1)) (hc : x.category = 1) (hc' : y.category = 1) (hp : pc + 1 = pc') (g : own_Go Z EL n0 p e below s K N Q (T.setTop (mkF m pc' Ls (x :: y :: x :: st)))) : own_Go Z EL n0 p e below s K N Q (T.setTop (mkF m pc Ls (x :: y :: st))) := by
  subst hp; exact own_go (fun _ q => XT.dupX1 (own_here w) w.1 rfl (own_dec w hd) rfl hc hc' q) g
theorem own_dup2 (w : own_Wk Z EL n0 own bytes maxL ret nm p l e R s m args below meth c T ms k n h) {x y : Value} (hd : decode bytes pc = .ok (.dup2, 1)) (hc : x.category = 1) (hc' : y.category = 1) (hp : pc + 1 = pc') (g : own_Go Z EL n0 p e below s K N Q (T.setTop (mkF m pc' Ls (x :: y :: x :: y :: st)))) : own_Go Z EL n0 p e below s K N Q (T.setTop (mkF m pc Ls (x :: y :: st))) := by
  subst hp; exact own_go (fun _ q => XT.dup2 (own_here w) w.1 rfl (own_dec w hd) rfl hc hc' q) g
theorem own_dup2L (w : own_Wk Z EL n0 own bytes maxL ret nm p l e R s m args below meth c T ms k n h) {x : Int64} (hd : decode bytes pc = .ok (.dup2, 1))  (hp : pc + 1 = pc') (g : own_Go Z EL n0 p e below s K N Q (T.setTop (mkF m pc' Ls (.long x :: .long x :: st)))) : own_Go Z EL n0 p e below s K N Q (T.setTop (mkF m pc Ls (.long x :: st))) := by
  subst hp; exact own_go (fun _ q => XT.dup2L (own_here w) w.1 rfl (own_dec w hd) rfl q) g
theorem own_pop (w : own_Wk Z EL n0 own bytes maxL ret nm p l e R s m args below meth c T ms k n h) {x : Value} (hd : decode bytes pc = .ok (.pop, 1)) (hc : x.category = 1) (hp : pc + 1 = pc') (g : own_Go Z EL n0 p e below s K N Q (T.setTop (mkF m pc' Ls st))) : own_Go Z EL n0 p e below s K N Q (T.setTop (mkF m pc Ls (x :: st))) := by
  subst hp; exact own_go (fun _ q => XT.pop (own_here w) w.1 rfl (own_dec w hd) rfl hc q) g
theorem own_iinc (w : own_Wk Z EL n0 own bytes maxL ret nm p l e R s m args below meth c T ms k n h) {kk : Nat} {cst : Int} {x y : Int32} (hd : decode bytes pc = .ok (.iinc kk cst, 3)) (hl : Ls[kk]? = some (.val (.int x))) (hy : x + Int32.ofInt cst = y) (hl' : storeLocals Ls kk (.int y) = some Ls') (hp : pc + 3 = pc') (g : own_Go Z EL n0 p e below s K N Q (T.setTop (mkF m pc' Ls' st))) : own_Go Z EL n0 p e below s K N Q (T.setTop (mkF m pc Ls st)) := by
  subst hp hy; exact own_go (fun _ q => XS.iinc (own_here w) w.1 rfl (own_dec w hd) hl hl' q) g
theorem own_goto (w : own_Wk Z EL n0 own bytes maxL ret nm p l e R s m args below meth c T ms k n h) {o : Int} (hd : decode bytes pc = .ok (.goto o, 3)) (ho : 0 ≤ (pc : Int) + o) (hp : ((pc : Int) + o).toNat = pc') (g : own_Go Z EL n0 p e below s K N Q (T.setTop (mkF m pc' Ls st))) : own_Go Z EL n0 p e below s K N Q (T.setTop (mkF m pc Ls st)) := own_go (fun _ q => XS.goto (own_here w) w.1 rfl (pc0 := pc) rfl (own_dec w hd) ho hp q) g
def own_cT (cd : ClassFile.Cond) (x y : Int32) : Prop := match cd with | .eq => x = y | .ne => ¬ x = y | .lt => x < y | .ge => ¬ x < y | .gt => y < x | .le => ¬ y < x
def own_cF (cd : ClassFile.Cond) (x y : Int32) : Prop := match cd with | .eq => ¬ x = y | .ne => x = y | .lt => ¬ x < y | .ge => x < y | .gt => ¬ y < x | .le => y < x
theorem own_cond (cd : ClassFile.Cond) (x y : Int32) : (own_cT cd x y ∧ if_icmp.holds cd x y = true) ∨ (own_cF cd x y ∧ if_icmp.holds cd x y = false) := by
  cases cd
  · by_cases q : x = y
    · exact Or.inl ⟨q, (teq q).1⟩
    · exact Or.inr ⟨q, (feq q).1⟩
  · by_cases q : x = y
    · exact Or.inr ⟨q, (teq q).2⟩
    · exact Or.inl ⟨q, (feq q).2⟩
  · by_cases q : x < y
    · exact Or.inl ⟨q, (tlt q).1⟩
    · exact Or.inr ⟨q, (flt q).1⟩
  · by_cases q : x < y
    · exact Or.inr ⟨q, (tlt q).2.1⟩
    · exact Or.inl ⟨q, (flt q).2.1⟩
  · by_cases q : y < x
    · exact Or.inl ⟨q, (tlt q).2.2.1⟩
    · exact Or.inr ⟨q, (flt q).2.2.1⟩
  · by_cases q : y < x
    · exact Or.inr ⟨q, (tlt q).2.2.2⟩
    · exact Or.inl ⟨q, (flt q).2.2.2⟩
theorem own_icmp (w : own_Wk Z EL n0 own bytes maxL ret nm p l e R s m args below meth c T ms k n h) {cd : ClassFile.Cond} {x y : Int32} {o : Int} {pcY : Nat} (hd : decode bytes pc = .ok (.if_icmp cd o, 3)) (hp : pc + 3 = pc') (ho : 0 ≤ (pc : Int) + o) (hq : ((pc : Int) + o).toNat = pcY) (gT : own_cT cd x y → own_Go Z EL n0 p e below s K N Q (T.setTop (mkF m pcY Ls st))) (gF : own_cF cd x y → own_Go Z EL n0 p e below s K N Q (T.setTop (mkF m pc' Ls st))) : own_Go Z EL n0 p e below s K N Q (T.setTop (mkF m pc Ls (.int y :: .int x :: st))) := by
  subst hp
  rcases own_cond cd x y with ⟨q, r⟩ | ⟨q, r⟩
  · exact own_go (fun _ z => XS.icmpYes (own_here w) w.1 rfl (pc0 := pc) rfl (own_dec w hd) rfl r ho hq z) (gT q)
  · exact own_go (fun _ z => XS.icmpNo (own_here w) w.1 rfl (own_dec w hd) rfl r z) (gF q)
theorem own_if (w : own_Wk Z EL n0 own bytes maxL ret nm p l e R s m args below meth c T ms k n h) {cd : ClassFile.Cond} {x : Int32} {o : Int} {pcY : Nat} (hd : decode bytes pc = .ok (.ifCond cd o, 3)) (hp : pc + 3 = pc') (ho : 0 ≤ (pc : Int) + o) (hq : ((pc : Int) + o).toNat = pcY) (gT : own_cT cd x 0 → own_Go Z EL n0 p e below s K N Q (T.setTop (mkF m pcY Ls st))) (gF : own_cF cd x 0 → own_Go Z EL n0 p e below s K N Q (T.setTop (mkF m pc' Ls st))) : own_Go Z EL n0 p e below s K N Q (T.setTop (mkF m pc Ls (.int x :: st))) := by
  subst hp
  rcases own_cond cd x 0 with ⟨q, r⟩ | ⟨q, r⟩
  · exact own_go (fun _ z => XS.ifYes (own_here w) w.1 rfl (pc0 := pc) rfl (own_dec w hd) rfl ((if0 cd x).trans r) ho hq z) (gT q)
  · exact own_go (fun _ z => XS.ifNo (own_here w) w.1 rfl (own_dec w hd) rfl ((if0 cd x).trans r) z) (gF q)
theorem own_ifnullY (w : own_Wk Z EL n0 own bytes maxL ret nm p l e R s m args below meth c T ms k n h) {o : Int} (hd : decode bytes pc = .ok (.ifnull o, 3)) (ho : 0 ≤ (pc : Int) + o) (hp : ((pc : Int) + o).toNat = pc') (g : own_Go Z EL n0 p e below s K N Q (T.setTop (mkF m pc' Ls st))) : own_Go Z EL n0 p e below s K N Q (T.setTop (mkF m pc Ls (.null :: st))) := own_go (fun _ q => XS.ifnullYes (own_here w) w.1 rfl (pc0 := pc) rfl (own_dec w hd) rfl ho hp q) g
theorem own_ifnullN (w : own_Wk Z EL n0 own bytes maxL ret nm p l e R s m args below meth c T ms k n h) {o : Int} (hd : decode bytes pc = .ok (.ifnull o, 3)) (hp : pc + 3 = pc') (g : own_Go Z EL n0 p e below s K N Q (T.setTop (mkF m pc' Ls st))) : own_Go Z EL n0 p e below s K N Q (T.setTop (mkF m pc Ls (.ref a :: st))) := by
  subst hp; exact own_go (fun _ q => XS.ifnullNo (own_here w) w.1 rfl (own_dec w hd) rfl q) g
theorem own_ifnonnullY (w : own_Wk Z EL n0 own bytes maxL ret nm p l e R s m args below meth c T ms k n h) {o : Int} (hd : decode bytes pc = .ok (.ifnonnull o, 3)) (ho : 0 ≤ (pc : Int) + o) (hp : ((pc : Int) + o).toNat = pc') (g : own_Go Z EL n0 p e below s K N Q (T.setTop (mkF m pc' Ls st))) : own_Go Z EL n0 p e below s K N Q (T.setTop (mkF m pc Ls (.ref a :: st))) := own_go (fun _ q => XT.ifnonnullYes (own_here w) w.1 rfl (pc0 := pc) rfl (own_dec w hd) rfl ho hp q) g
theorem own_ifnonnullN (w : own_Wk Z EL n0 own bytes maxL ret nm p l e R s m args below meth c T ms k n h) {o : Int} (hd : decode bytes pc = .ok (.ifnonnull o, 3)) (hp : pc + 3 = pc') (g : own_Go Z EL n0 p e below s K N Q (T.setTop (mkF m pc' Ls st))) : own_Go Z EL n0 p e below s K N Q (T.setTop (mkF m pc Ls (.null :: st))) := by
  subst hp; exact own_go (fun _ q => XT.ifnonnullNo (own_here w) w.1 rfl (own_dec w hd) rfl q) g
theorem own_same (w : own_Wk Z EL n0 own bytes maxL ret nm p l e R s m args below meth c T ms k n h) {F F' : JFrame} (f : ∀ (s' : State) (locs : List Loc), Stand p l e R s' m args below meth c T locs k n → T.heap = h → Z.Warmed39 s'.vm → s'.vm.findClass own = some m.cls → ∃ T' : State, Stand p l e R s' m args below meth c T' locs k n ∧ T'.heap = h ∧ ∀ t, Steps p.tables e below (T'.setTop F') t → Steps p.tables e below (T.setTop F) t)
    (g : ∀ T' : State, own_Wk Z EL n0 own bytes maxL ret nm p l e R s m args below meth c T' ms k n h → own_Go Z EL n0 p e below s K N Q (T'.setTop F')) : own_Go Z EL n0 p e below s K N Q (T.setTop F) := by
  refine own_core w (k' := k) (n' := n) (ws := []) (P := fun h' new F'' => h' = h ∧ new = [] ∧ F'' = F') all0 (fun s' locs X eT hZ hown => ?_) (fun T' h' new F'' w' _ q => ?_)
  · obtain ⟨T', X', e', st'⟩ := f s' locs X eT hZ hown
    exact ⟨T', h, [], [], _, by rw [List.append_nil]; exact X', e', Keep.refl _ _, Fr.nil _, all0, ⟨rfl, rfl, rfl⟩, st'⟩
  · obtain ⟨rfl, rfl, rfl⟩ := q; exact g T' w'
theorem own_write (w : own_Wk Z EL n0 own bytes maxL ret nm p l e R s m args below meth c T ms k n h) {F F' : JFrame} {sl : Nat} {v : Value} (hm : a ∈ ms) (f : ∀ (s' : State) (locs : List Loc), Stand p l e R s' m args below meth c T locs k n → T.heap = h → Z.Warmed39 s'.vm → s'.vm.findClass own = some m.cls → ∃ (T' : State) (h' : Heap), Stand p l e R s' m args below meth c T' (locs ++ [⟨a, sl⟩]) k n ∧ T'.heap = h' ∧ Wr h h' a sl v ∧ ∀ t, Steps p.tables e below (T'.setTop F') t → Steps p.tables e below (T.setTop F) t)
    (g : ∀ (T' : State) (h' : Heap), own_Wk Z EL n0 own bytes maxL ret nm p l e R s m args below meth c T' ms k n h' → Wr h h' a sl v → own_Go Z EL n0 p e below s K N Q (T'.setTop F')) : own_Go Z EL n0 p e below s K N Q (T.setTop F) := by
  refine own_core w (k' := k) (n' := n) (ws := [a]) (P := fun h' new F'' => Wr h h' a sl v ∧ new = [] ∧ F'' = F') (allS hm all0) (fun s' locs X eT hZ hown => ?_) (fun T' h' new F'' w' _ q => ?_)
  · obtain ⟨T', h', X', e', W', st'⟩ := f s' locs X eT hZ hown
    exact ⟨T', h', [⟨a, sl⟩], [], _, X', e', Keep.of_wr W', (fun y hy => by cases List.mem_singleton.mp hy; exact (own_mine w a hm).1), all0, ⟨W', rfl, rfl⟩, st'⟩
  · obtain ⟨q, rfl, rfl⟩ := q; exact g T' h' w' q
theorem own_made (w : own_Wk Z EL n0 own bytes maxL ret nm p l e R s m args below meth c T ms k n h) {F : JFrame} {F' : Addr → JFrame} {k' n' : Nat} {P : Addr → Heap → Prop} (f : ∀ (s' : State) (locs : List Loc), Stand p l e R s' m args below meth c T locs k n → T.heap = h → Z.Warmed39 s'.vm → s'.vm.findClass own = some m.cls → ∃ (T' : State) (h' : Heap), Stand p l e R s' m args below meth c T' locs k' n' ∧ T'.heap = h' ∧ Ext h h' ∧ h.size < h'.size ∧ P h.size h' ∧ ∀ t, Steps p.tables e below (T'.setTop (F' h.size)) t → Steps p.tables e below (T.setTop F) t)
    (g : ∀ (T' : State) (h' : Heap) (a : Addr), h.size = a → own_Wk Z EL n0 own bytes maxL ret nm p l e R s m args below meth c T' (a :: ms) k' n' h' → Ext h h' → P a h' → own_Go Z EL n0 p e below s K N Q (T'.setTop (F' a))) : own_Go Z EL n0 p e below s K N Q (T.setTop F) := by
  refine own_core w (k' := k') (n' := n') (ws := []) (P := fun h' new F'' => Ext h h' ∧ P h.size h' ∧ new = [h.size] ∧ F'' = F' h.size) all0 (fun s' locs X eT hZ hown => ?_) (fun T' h' new F'' w' _ q => ?_)
  · obtain ⟨T', h', X', e', E', hlt, hP, st'⟩ := f s' locs X eT hZ hown
    exact ⟨T', h', [], [h.size], _, by rw [List.append_nil]; exact X', e', (Keep.refl _ _).ext E', Fr.nil _, allS ⟨Nat.le_refl _, hlt⟩ all0, ⟨E', hP, rfl, rfl⟩, st'⟩
  · obtain ⟨q1, q2, rfl, rfl⟩ := q; exact g T' h' _ rfl w' q1 q2
theorem own_getF (w : own_Wk Z EL n0 own bytes maxL ret nm p l e R s m args below meth c T ms k n h) {idx : Nat} {R0 O fn fd host : String} {v : Value} (wl : (Jvm.Cond.fieldLink own idx R0 fn fd).before a0 Z = true ∨ (Jvm.Cond.fieldLinkNest own idx R0 fn fd host).before a0 Z = true) (via : Via Z R0 O fn fd) (F : Fld Z h a O fn fd v) (hd : decode bytes pc = .ok (.getfield idx, 3)) (hp : pc + 3 = pc')
    (g : ∀ T' : State, own_Wk Z EL n0 own bytes maxL ret nm p l e R s m args below meth c T' ms k n h → own_Go Z EL n0 p e below s K N Q (T'.setTop (mkF m pc' Ls (v :: st)))) : own_Go Z EL n0 p e below s K N Q (T.setTop (mkF m pc Ls (.ref a :: st))) := by
  subst hp; exact own_same w (fun s' locs X eT hZ hown => getF X w.1 hZ hown wl via eT F (g := mkF m pc Ls (.ref a :: st)) rfl rfl (own_dec w hd)) g
theorem own_getS (w : own_Wk Z EL n0 own bytes maxL ret nm p l e R s m args below meth c T ms k n h) {idx : Nat} {R0 O fn fd host : String} {v : Value} (wl : (Jvm.Cond.fieldLink own idx R0 fn fd).before a0 Z = true ∨ (Jvm.Cond.fieldLinkNest own idx R0 fn fd host).before a0 Z = true) (via : Via Z R0 O fn fd) (F : Sta Z h O fn fd v) (hd : decode bytes pc = .ok (.getstatic idx, 3)) (hp : pc + 3 = pc')
    (g : ∀ T' : State, own_Wk Z EL n0 own bytes maxL ret nm p l e R s m args below meth c T' ms k n h → own_Go Z EL n0 p e below s K N Q (T'.setTop (mkF m pc' Ls (v :: st)))) : own_Go Z EL n0 p e below s K N Q (T.setTop (mkF m pc Ls st)) := by
  subst hp; exact own_same w (fun s' locs X eT hZ hown => getS2 X w.1 hZ hown wl via eT F (g := mkF m pc Ls st) rfl (own_dec w hd)) g
theorem own_putF (w : own_Wk Z EL n0 own bytes maxL ret nm p l e R s m args below meth c T ms k n h) {idx kk : Nat} {R0 O fn fd host C : String} {v ov : Value} {ty : FieldType} (wl : (Jvm.Cond.fieldLink own idx R0 fn fd).before a0 Z = true ∨ (Jvm.Cond.fieldLinkNest own idx R0 fn fd host).before a0 Z = true) (via : Via Z R0 O fn fd) (hm : a ∈ ms) (F : Fld Z h a O fn fd ov) (E : Exa Z h a C) (L : (Jvm.Cond.lays C O fn fd).before a0 Z = true ∨ ((Jvm.Cond.laysFinal C O fn fd).before a0 Z = true ∧ own = O ∧ nm = "<init>")) (wi : (Jvm.Cond.instantiable C kk).before a0 Z = true)
    (hty : parseFieldDescriptor fd = some ty) (hn : narrow ty v = v) (hf : fits ty v = true) (hd : decode bytes pc = .ok (.putfield idx, 3)) (hp : pc + 3 = pc')
    (g : ∀ (T' : State) (h' : Heap), own_Wk Z EL n0 own bytes maxL ret nm p l e R s m args below meth c T' ms k n h' → Wr h h' a (RoadKit.slotOf Z O fn fd) v → own_Go Z EL n0 p e below s K N Q (T'.setTop (mkF m pc' Ls st))) : own_Go Z EL n0 p e below s K N Q (T.setTop (mkF m pc Ls (v :: .ref a :: st))) := by
  subst hp; exact own_write w hm (fun s' locs X eT hZ hown => putF X w.1 hZ hown wl via eT F E (L.imp id fun q => ⟨q.1, q.2.1, w.2.2.2.2.2.1.trans q.2.2⟩) wi hty hn hf (g := mkF m pc Ls (v :: .ref a :: st)) rfl rfl (own_dec w hd)) g
theorem own_newO (w : own_Wk Z EL n0 own bytes maxL ret nm p l e R s m args below meth c T ms k n h) {idx nn : Nat} {C : String} (wl : (Jvm.Cond.classLink own idx C).before a0 Z = true) (wi : (Jvm.Cond.instantiable C nn).before a0 Z = true) (wz : (Jvm.Cond.initialized C).before a0 Z = true) (hd : decode bytes pc = .ok (.new idx, 3)) (hp : pc + 3 = pc') (hc : k + 1 ≤ R.cells) (hl : n + nn ≤ R.slots)
    (g : ∀ (T' : State) (h' : Heap) (a : Addr), h.size = a → own_Wk Z EL n0 own bytes maxL ret nm p l e R s m args below meth c T' (a :: ms) (k + 1) (n + nn) h' → Ext h h' → (Exa Z h' a C ∧ (∀ {O fn fd : String} {ty : FieldType}, Laid Z a0 C O fn fd → parseFieldDescriptor fd = some ty → Fld Z h' a O fn fd (defaultValue ty))) → own_Go Z EL n0 p e below s K N Q (T'.setTop (mkF m pc' Ls (.ref a :: st)))) : own_Go Z EL n0 p e below s K N Q (T.setTop (mkF m pc Ls st)) := by
  subst hp; exact own_made w (F' := fun a => mkF m (pc + 3) Ls (.ref a :: st)) (fun s' locs X eT hZ hown => by
    obtain ⟨T', h', X', e', E', A', D', -, st'⟩ := newO X w.1 hZ hown wl wi wz eT (g := mkF m pc Ls st) rfl (own_dec w hd) hc hl
    exact ⟨T', h', X', e', E', A'.lt, ⟨A', D'⟩, st'⟩) g
theorem own_newP (w : own_Wk Z EL n0 own bytes maxL ret nm p l e R s m args below meth c T ms k n h) {aty : ArrayType} {z : Int32} {cap : Nat} {vs : List Value} {dv : Value} (wl : (Jvm.Cond.arrayClass (newarray.typeOf aty)).before a0 Z = true) (hd : decode bytes pc = .ok (.newarray aty, 2)) (hp : pc + 2 = pc') (hz : ¬ z < 0) (hcap : z.toNatClampNeg ≤ cap) (hb : cap * 8 ≤ 536870912) (hdv : defaultValue (newarray.typeOf aty) = dv) (hvs : ∀ i, vs.getD i dv = dv) (hc : k + 1 ≤ R.cells) (hl : n + cap ≤ R.slots)
    (g : ∀ (T' : State) (h' : Heap) (a : Addr), h.size = a → own_Wk Z EL n0 own bytes maxL ret nm p l e R s m args below meth c T' (a :: ms) (k + 1) (n + cap) h' → Ext h h' → (∃ kA, Arv Z h' a kA (newarray.typeOf aty) z vs dv) → own_Go Z EL n0 p e below s K N Q (T'.setTop (mkF m pc' Ls (.ref a :: st)))) : own_Go Z EL n0 p e below s K N Q (T.setTop (mkF m pc Ls (.int z :: st))) := by
  subst hp hdv; exact own_made w (F' := fun a => mkF m (pc + 2) Ls (.ref a :: st)) (fun s' locs X eT hZ hown => by
    obtain ⟨T', h', cA, X', e', E', A', st'⟩ := newP X w.1 hZ wl eT (g := mkF m pc Ls (.int z :: st)) rfl (own_dec w hd) rfl hz hcap hb hc hl
    exact ⟨T', h', X', e', E', A'.lt, ⟨cA, (Arv.new A' hz).pad fun i => by rw [hvs]; rfl⟩, st'⟩) g
theorem own_stC (w : own_Wk Z EL n0 own bytes maxL ret nm p l e R s m args below meth c T ms k n h) {j : Int32} {x : Int32} {z : Int32} {kA : ClassId} {vs vs' : List Value} {dv xv : Value} {i : Nat} (hm : a ∈ ms) (A : Arv Z h a kA .char z vs dv) (hj : ¬ j < 0 ∧ j < z) (hi : j.toNatClampNeg = i) (hil : i < vs.length) (hxv : (.int (nar .char x)) = xv) (hfv : fits .char xv = true) (hvs : vs.set i xv = vs') (hd : decode bytes pc = .ok (.castore, 1)) (hp : pc + 1 = pc')
    (g : ∀ (T' : State) (h' : Heap), own_Wk Z EL n0 own bytes maxL ret nm p l e R s m args below meth c T' ms k n h' → Wr h h' a j.toNatClampNeg xv → Arv Z h' a kA .char z vs' dv → own_Go Z EL n0 p e below s K N Q (T'.setTop (mkF m pc' Ls st))) : own_Go Z EL n0 p e below s K N Q (T.setTop (mkF m pc Ls (.int x :: .int j :: .ref a :: st))) := by
  subst hp hvs hxv
  obtain ⟨cl, Ar, c1, S, M, H, G⟩ := A
  exact own_write w hm (fun s' locs X eT hZ hown => stC X w.1 hZ eT Ar (inb_of S hj) (g := mkF m pc Ls (.int x :: .int j :: .ref a :: st)) rfl rfl (own_dec w hd)) (fun T' h' w' W => g T' h' w' W (Arv.set Ar c1 S M H G hfv W i hi hil))
theorem own_stB (w : own_Wk Z EL n0 own bytes maxL ret nm p l e R s m args below meth c T ms k n h) {j : Int32} {x : Int32} {z : Int32} {kA : ClassId} {vs vs' : List Value} {dv xv : Value} {i : Nat} (hm : a ∈ ms) (A : Arv Z h a kA .byte z vs dv) (hj : ¬ j < 0 ∧ j < z) (hi : j.toNatClampNeg = i) (hil : i < vs.length) (hxv : (.int x.toInt8.toInt32) = xv) (hfv : fits .byte xv = true) (hvs : vs.set i xv = vs') (hd : decode bytes pc = .ok (.bastore, 1)) (hp : pc + 1 = pc')
    (g : ∀ (T' : State) (h' : Heap), own_Wk Z EL n0 own bytes maxL ret nm p l e R s m args below meth c T' ms k n h' → Wr h h' a j.toNatClampNeg xv → Arv Z h' a kA .byte z vs' dv → own_Go Z EL n0 p e below s K N Q (T'.setTop (mkF m pc' Ls st))) : own_Go Z EL n0 p e below s K N Q (T.setTop (mkF m pc Ls (.int x :: .int j :: .ref a :: st))) := by
  subst hp hvs hxv
  obtain ⟨cl, Ar, c1, S, M, H, G⟩ := A
  exact own_write w hm (fun s' locs X eT hZ hown => stB X w.1 hZ eT Ar (inb_of S hj) (g := mkF m pc Ls (.int x :: .int j :: .ref a :: st)) rfl rfl (own_dec w hd)) (fun T' h' w' W => g T' h' w' W (Arv.set Ar c1 S M H G hfv W i hi hil))
theorem own_stI (w : own_Wk Z EL n0 own bytes maxL ret nm p l e R s m args below meth c T ms k n h) {j : Int32} {x : Int32} {z : Int32} {kA : ClassId} {vs vs' : List Value} {dv xv : Value} {i : Nat} (hm : a ∈ ms) (A : Arv Z h a kA .int z vs dv) (hj : ¬ j < 0 ∧ j < z) (hi : j.toNatClampNeg = i) (hil : i < vs.length) (hxv : (.int x) = xv) (hfv : fits .int xv = true) (hvs : vs.set i xv = vs') (hd : decode bytes pc = .ok (.iastore, 1)) (hp : pc + 1 = pc')
    (g : ∀ (T' : State) (h' : Heap), own_Wk Z EL n0 own bytes maxL ret nm p l e R s m args below meth c T' ms k n h' → Wr h h' a j.toNatClampNeg xv → Arv Z h' a kA .int z vs' dv → own_Go Z EL n0 p e below s K N Q (T'.setTop (mkF m pc' Ls st))) : own_Go Z EL n0 p e below s K N Q (T.setTop (mkF m pc Ls (.int x :: .int j :: .ref a :: st))) := by
  subst hp hvs hxv
  obtain ⟨cl, Ar, c1, S, M, H, G⟩ := A
  exact own_write w hm (fun s' locs X eT hZ hown => stI X w.1 hZ eT Ar (inb_of S hj) (g := mkF m pc Ls (.int x :: .int j :: .ref a :: st)) rfl rfl (own_dec w hd)) (fun T' h' w' W => g T' h' w' W (Arv.set Ar c1 S M H G hfv W i hi hil))
theorem own_stJ (w : own_Wk Z EL n0 own bytes maxL ret nm p l e R s m args below meth c T ms k n h) {j : Int32} {x : Int64} {z : Int32} {kA : ClassId} {vs vs' : List Value} {dv xv : Value} {i : Nat} (hm : a ∈ ms) (A : Arv Z h a kA .long z vs dv) (hj : ¬ j < 0 ∧ j < z) (hi : j.toNatClampNeg = i) (hil : i < vs.length) (hxv : (.long x) = xv) (hfv : fits .long xv = true) (hvs : vs.set i xv = vs') (hd : decode bytes pc = .ok (.lastore, 1)) (hp : pc + 1 = pc')
    (g : ∀ (T' : State) (h' : Heap), own_Wk Z EL n0 own bytes maxL ret nm p l e R s m args below meth c T' ms k n h' → Wr h h' a j.toNatClampNeg xv → Arv Z h' a kA .long z vs' dv → own_Go Z EL n0 p e below s K N Q (T'.setTop (mkF m pc' Ls st))) : own_Go Z EL n0 p e below s K N Q (T.setTop (mkF m pc Ls (.long x :: .int j :: .ref a :: st))) := by
  subst hp hvs hxv
  obtain ⟨cl, Ar, c1, S, M, H, G⟩ := A
  exact own_write w hm (fun s' locs X eT hZ hown => stJ X w.1 hZ eT Ar (inb_of S hj) (g := mkF m pc Ls (.long x :: .int j :: .ref a :: st)) rfl rfl (own_dec w hd)) (fun T' h' w' W => g T' h' w' W (Arv.set Ar c1 S M H G hfv W i hi hil))
theorem own_ldC (w : own_Wk Z EL n0 own bytes maxL ret nm p l e R s m args below meth c T ms k n h) {j : Int32} {v : Value} {z : Int32} {kA : ClassId} {vs : List Value} {dv : Value} (A : Arv Z h a kA .char z vs dv) (hj : ¬ j < 0 ∧ j < z) (hv : vs.getD j.toNatClampNeg dv = v) (hd : decode bytes pc = .ok (.caload, 1)) (hp : pc + 1 = pc') (g : own_Go Z EL n0 p e below s K N Q (T.setTop (mkF m pc' Ls (v :: st)))) : own_Go Z EL n0 p e below s K N Q (T.setTop (mkF m pc Ls (.int j :: .ref a :: st))) := by
  subst hp
  obtain ⟨cl, Ar, c1, S, M, H, G⟩ := A
  exact own_pure w (fun s' locs X eT hZ hown t q => X.caload w.1 (by rw [eT]; exact Ar.1) (State.isArrayOf_alike hZ.alike Ar.2.1) Ar.2.2 (inb_of S hj) (H.at (inb_of S hj) hv) (g := mkF m pc Ls (.int j :: .ref a :: st)) rfl rfl (own_dec w hd) t q) g
theorem own_ldB (w : own_Wk Z EL n0 own bytes maxL ret nm p l e R s m args below meth c T ms k n h) {j : Int32} {v : Value} {z : Int32} {kA : ClassId} {vs : List Value} {dv : Value} (A : Arv Z h a kA .byte z vs dv) (hj : ¬ j < 0 ∧ j < z) (hv : vs.getD j.toNatClampNeg dv = v) (hd : decode bytes pc = .ok (.baload, 1)) (hp : pc + 1 = pc') (g : own_Go Z EL n0 p e below s K N Q (T.setTop (mkF m pc' Ls (v :: st)))) : own_Go Z EL n0 p e below s K N Q (T.setTop (mkF m pc Ls (.int j :: .ref a :: st))) := by
  subst hp
  obtain ⟨cl, Ar, c1, S, M, H, G⟩ := A
  exact own_pure w (fun s' locs X eT hZ hown t q => X.baloadBytes w.1 (by rw [eT]; exact Ar.1) (State.isArrayOf_alike hZ.alike Ar.2.1) Ar.2.2 (inb_of S hj) (H.at (inb_of S hj) hv) (g := mkF m pc Ls (.int j :: .ref a :: st)) rfl rfl (own_dec w hd) t q) g
theorem own_ldI (w : own_Wk Z EL n0 own bytes maxL ret nm p l e R s m args below meth c T ms k n h) {j : Int32} {v : Value} {z : Int32} {kA : ClassId} {vs : List Value} {dv : Value} (A : Arv Z h a kA .int z vs dv) (hj : ¬ j < 0 ∧ j < z) (hv : vs.getD j.toNatClampNeg dv = v) (hd : decode bytes pc = .ok (.iaload, 1)) (hp : pc + 1 = pc') (g : own_Go Z EL n0 p e below s K N Q (T.setTop (mkF m pc' Ls (v :: st)))) : own_Go Z EL n0 p e below s K N Q (T.setTop (mkF m pc Ls (.int j :: .ref a :: st))) := by
  subst hp
  obtain ⟨cl, Ar, c1, S, M, H, G⟩ := A
  exact own_pure w (fun s' locs X eT hZ hown t q => X.iaload w.1 (by rw [eT]; exact Ar.1) (State.isArrayOf_alike hZ.alike Ar.2.1) Ar.2.2 (inb_of S hj) (H.at (inb_of S hj) hv) (g := mkF m pc Ls (.int j :: .ref a :: st)) rfl rfl (own_dec w hd) t q) g
theorem own_ldJ (w : own_Wk Z EL n0 own bytes maxL ret nm p l e R s m args below meth c T ms k n h) {j : Int32} {v : Value} {z : Int32} {kA : ClassId} {vs : List Value} {dv : Value} (A : Arv Z h a kA .long z vs dv) (hj : ¬ j < 0 ∧ j < z) (hv : vs.getD j.toNatClampNeg dv = v) (hd : decode bytes pc = .ok (.laload, 1)) (hp : pc + 1 = pc') (g : own_Go Z EL n0 p e below s K N Q (T.setTop (mkF m pc' Ls (v :: st)))) : own_Go Z EL n0 p e below s K N Q (T.setTop (mkF m pc Ls (.int j :: .ref a :: st))) := by
  subst hp
  obtain ⟨cl, Ar, c1, S, M, H, G⟩ := A
  exact own_pure w (fun s' locs X eT hZ hown t q => X.laload w.1 (by rw [eT]; exact Ar.1) (State.isArrayOf_alike hZ.alike Ar.2.1) Ar.2.2 (inb_of S hj) (H.at (inb_of S hj) hv) (g := mkF m pc Ls (.int j :: .ref a :: st)) rfl rfl (own_dec w hd) t q) g
theorem own_len (w : own_Wk Z EL n0 own bytes maxL ret nm p l e R s m args below meth c T ms k n h) {z : Int32} {kA : ClassId} {ty : FieldType} {vs : List Value} {dv : Value} (A : Arv Z h a kA ty z vs dv) (hd : decode bytes pc = .ok (.arraylength, 1)) (hp : pc + 1 = pc') (g : own_Go Z EL n0 p e below s K N Q (T.setTop (mkF m pc' Ls (.int z :: st)))) : own_Go Z EL n0 p e below s K N Q (T.setTop (mkF m pc Ls (.ref a :: st))) := by
  subst hp
  obtain ⟨cl, Ar, c1, S, M, H, G⟩ := A
  exact own_pure w (fun s' locs X eT hZ hown t q => X.arraylength w.1 (by rw [eT]; exact Ar.1) (State.isArrayOf_alike hZ.alike Ar.2.1) (g := mkF m pc Ls (.ref a :: st)) rfl rfl (own_dec w hd) t (by rw [len_of S M]; exact q)) g
theorem own_ldcI (w : own_Wk Z EL n0 own bytes maxL ret nm p l e R s m args below meth c T ms k n h) {idx : Nat} {x : Int32} (wl : (Jvm.Cond.constant own idx x).before a0 Z = true) (hd : decode bytes pc = .ok (.ldc idx, 2)) (hp : pc + 2 = pc') (g : own_Go Z EL n0 p e below s K N Q (T.setTop (mkF m pc' Ls (.int x :: st)))) : own_Go Z EL n0 p e below s K N Q (T.setTop (mkF m pc Ls st)) := by
  subst hp
  exact own_pure w (fun s' locs X eT hZ hown t q => X.ldcInt w.1 hown (mv hZ wl) (g := mkF m pc Ls st) rfl (own_dec w hd) t q) g
theorem own_ldc2J (w : own_Wk Z EL n0 own bytes maxL ret nm p l e R s m args below meth c T ms k n h) {idx : Nat} {x : Int64} (wl : (Jvm.Cond.constantLong own idx x).before a0 Z = true) (hd : decode bytes pc = .ok (.ldc2_w idx, 3)) (hp : pc + 3 = pc') (g : own_Go Z EL n0 p e below s K N Q (T.setTop (mkF m pc' Ls (.long x :: st)))) : own_Go Z EL n0 p e below s K N Q (T.setTop (mkF m pc Ls st)) := by
  subst hp
  exact own_pure w (fun s' locs X eT hZ hown t q => X.ldc2Long w.1 hown (mv hZ wl) (g := mkF m pc Ls st) rfl (own_dec w hd) t q) g
theorem own_castY (w : own_Wk Z EL n0 own bytes maxL ret nm p l e R s m args below meth c T ms k n h) {idx : Nat} {C : String} (wl : (Jvm.Cond.classLink own idx C).before a0 Z = true) (I : Ins Z h a C true) (hd : decode bytes pc = .ok (.checkcast idx, 3)) (hp : pc + 3 = pc') (g : ∀ T' : State, own_Wk Z EL n0 own bytes maxL ret nm p l e R s m args below meth c T' ms k n h → own_Go Z EL n0 p e below s K N Q (T'.setTop (mkF m pc' Ls (.ref a :: st)))) : own_Go Z EL n0 p e below s K N Q (T.setTop (mkF m pc Ls (.ref a :: st))) := by
  subst hp; exact own_same w (fun s' locs X eT hZ hown => castY X w.1 hZ hown wl eT I (g := mkF m pc Ls (.ref a :: st)) rfl rfl (own_dec w hd)) g
theorem own_instY (w : own_Wk Z EL n0 own bytes maxL ret nm p l e R s m args below meth c T ms k n h) {idx : Nat} {C : String} (wl : (Jvm.Cond.classLink own idx C).before a0 Z = true) (I : Ins Z h a C true) (hd : decode bytes pc = .ok (.instanceof idx, 3)) (hp : pc + 3 = pc') (g : ∀ T' : State, own_Wk Z EL n0 own bytes maxL ret nm p l e R s m args below meth c T' ms k n h → own_Go Z EL n0 p e below s K N Q (T'.setTop (mkF m pc' Ls (.int 1 :: st)))) : own_Go Z EL n0 p e below s K N Q (T.setTop (mkF m pc Ls (.ref a :: st))) := by
  subst hp; exact own_same w (fun s' locs X eT hZ hown => instY X w.1 hZ hown wl eT I (g := mkF m pc Ls (.ref a :: st)) rfl rfl (own_dec w hd)) g
theorem own_initO (w : own_Wk Z EL n0 own bytes maxL ret nm p l e R s m args below meth c T ms k n h) {idx W : Nat} (w1 : (Jvm.Cond.methodLink own idx Lib.objectInit).before a0 Z = true) (w2 : (Jvm.Cond.instanceMethod Lib.objectInit).before a0 Z = true) (w3 : (Jvm.Cond.code Lib.objectInit ⟨#[0xb1]⟩ 1 none).before a0 Z = true) (hsz : Ls.size = maxL) (hd : decode bytes pc = .ok (.invokespecial idx, 3)) (hp : pc + 3 = pc') (hf : 1 ≤ R.frames) (hW : (st.map fun v => v.category).sum ≤ W) (hl : W + 12 ≤ R.locals)
    (g : ∀ T' : State, own_Wk Z EL n0 own bytes maxL ret nm p l e R s m args below meth c T' ms k n h → own_Go Z EL n0 p e below s K N Q (T'.setTop (mkF m pc' Ls st))) : own_Go Z EL n0 p e below s K N Q (T.setTop (mkF m pc Ls (.ref a :: st))) := by
  subst hp; exact own_same w (fun s' locs X eT hZ hown => initO X w.1 hZ hown w1 w2 w3 eT (g := mkF m pc Ls (.ref a :: st)) rfl (by rw [w.2.2.1]; exact hsz) rfl (own_dec w hd) hf (W := W) (by show 2 * 0 + _ ≤ _; omega) hl) g
theorem own_acmp (w : own_Wk Z EL n0 own bytes maxL ret nm p l e R s m args below meth c T ms k n h) {cd : ClassFile.ACond} {x y : Value} {o : Int} {pcY : Nat} (hx' : x.isRef = true) (hy' : y.isRef = true) (hd : decode bytes pc = .ok (.if_acmp cd o, 3)) (hp : pc + 3 = pc') (ho : 0 ≤ (pc : Int) + o) (hq : ((pc : Int) + o).toNat = pcY) (gT : (match cd with | .eq => x = y | .ne => ¬ x = y) → own_Go Z EL n0 p e below s K N Q (T.setTop (mkF m pcY Ls st))) (gF : (match cd with | .eq => ¬ x = y | .ne => x = y) → own_Go Z EL n0 p e below s K N Q (T.setTop (mkF m pc' Ls st))) : own_Go Z EL n0 p e below s K N Q (T.setTop (mkF m pc Ls (y :: x :: st))) := by
  subst hp
  cases cd <;> by_cases q : x = y
  · exact own_go (fun _ z => XT.acmpYes (own_here w) w.1 rfl (pc0 := pc) rfl (own_dec w hd) rfl hx' hy' (by simp [XT.acmp, q]) ho hq z) (gT q)
  · exact own_go (fun _ z => XT.acmpNo (own_here w) w.1 rfl (own_dec w hd) rfl hx' hy' (by simp [XT.acmp, q]) z) (gF q)
  · exact own_go (fun _ z => XT.acmpNo (own_here w) w.1 rfl (own_dec w hd) rfl hx' hy' (by simp [XT.acmp, q]) z) (gF q)
  · exact own_go (fun _ z => XT.acmpYes (own_here w) w.1 rfl (pc0 := pc) rfl (own_dec w hd) rfl hx' hy' (by simp [XT.acmp, q]) ho hq z) (gT q)
theorem own_callIB (w : own_Wk Z EL n0 own bytes maxL ret nm p l e R s m args below meth c T ms k n h) {idx : Nat} {y : MethodName} {bytes' : ByteArray} {maxL' : Nat} {argsL rest : List Value} {ws : List Addr} {QQ : Option Value → Heap → List Loc → Prop} {ps : List FieldType} {rt : Option FieldType} {W kc nc : Nat} (hy1 : y.name = "<init>") (wl : (Jvm.Cond.methodLink own idx y).before a0 Z = true) (wt : (Jvm.Cond.instanceMethod y).before a0 Z = true) (wc : (Jvm.Cond.code y bytes' maxL' none).before a0 Z = true) (hy : y.cls ≠ "java/lang/invoke/MethodHandle" ∧ y.cls ≠ "java/lang/invoke/VarHandle")
    (bk : ∀ s' : State, Z.Warmed39 s'.vm → Back l R p e below s' args y 3 W (fun P aa => aa = (.ref a :: argsL).toArray ∧ P.U.heap = h ∧ P.cells + kc ≤ R.cells ∧ P.slots + nc ≤ R.slots) (fun P _ v B => ∃ L, QQ v B.U.heap L ∧ B.locs = P.locs ++ L ∧ B.cells = P.cells + kc ∧ B.slots = P.slots + nc)) (hws : ∀ x ∈ ws, x ∈ ms) (hpost : ∀ v h' L, QQ v h' L → Keep h h' ws ∧ Fr n0 L) (hst : st = argsL.reverse ++ .ref a :: rest) (hsz : Ls.size = maxL) (hpd : parseMethodDescriptor y.desc = some ⟨ps, rt⟩) (hln : argsL.length = ps.length) (hd : decode bytes pc = .ok (.invokespecial idx, 3)) (hp : pc + 3 = pc') (hW : (rest.map fun v => v.category).sum ≤ W) (hc : k + kc ≤ R.cells) (hn : n + nc ≤ R.slots)
    (g : ∀ (T' : State) (h' : Heap) (v : Option Value), own_Wk Z EL n0 own bytes maxL ret nm p l e R s m args below meth c T' ms (k + kc) (n + nc) h' → Keep h h' ws → (∃ L, QQ v h' L) → own_Go Z EL n0 p e below s K N Q (T'.setTop (mkF m pc' Ls (v.toList ++ rest)))) : own_Go Z EL n0 p e below s K N Q (T.setTop (mkF m pc Ls st)) := by
  subst hp hst
  refine own_core w (k' := k + kc) (n' := n + nc) (ws := ws) (P := fun h' new F'' => ∃ v L, QQ v h' L ∧ new = [] ∧ F'' = mkF m (pc + 3) Ls (v.toList ++ rest)) hws (fun s' locs X eT hZ hown => by
    obtain ⟨v, _, ⟨T', L', k', n'⟩, -, X', ⟨L, hQ, l1, l2, l3⟩, st'⟩ := X.specialBack w.1 (y := y) hy1 hown (mvT hZ wl) (mvT hZ wt) (mvT hZ wc) hy (bk s' hZ) (g := mkF m pc Ls (argsL.reverse ++ .ref a :: rest)) rfl (by rw [w.2.2.1]; exact hsz) (Steps.refl _) (a := a) (argsL := argsL) (rest := rest) (lenOf hpd hln) rfl (by show 2 * 0 + _ ≤ _; omega) (own_dec w hd) (fun _ _ => ⟨rfl, eT, hc, hn⟩)
    dsimp only [Pt.U, Pt.locs, Pt.cells, Pt.slots] at X' hQ l1 l2 l3 st'
    subst l1 l2 l3
    exact ⟨T', _, L, [], _, X', rfl, (hpost _ _ _ hQ).1, (hpost _ _ _ hQ).2, all0, ⟨v, L, hQ, rfl, rfl⟩, fun _ q => st'.trans q⟩) (fun T' h' new F'' w' Kp q => by
    obtain ⟨v, L, q1, rfl, rfl⟩ := q
    exact g T' h' v w' Kp ⟨L, q1⟩)
theorem own_callVB (w : own_Wk Z EL n0 own bytes maxL ret nm p l e R s m args below meth c T ms k n h) {idx : Nat} {y z : MethodName} {C : String} {argsL rest : List Value} {ws : List Addr} {QQ : Option Value → Heap → List Loc → Prop} {ps : List FieldType} {rt : Option FieldType} {W kc nc : Nat} (wl : (Jvm.Cond.methodLink own idx y).before a0 Z = true) (wd : (Jvm.Cond.declares y).before a0 Z = true) (hnf : ∀ s' : State, Z.Warmed39 s'.vm → NotFace s' y) (wsel : (Jvm.Cond.selects C y z).before a0 Z = true) (wt : (Jvm.Cond.instanceMethod z).before a0 Z = true) (hy : y.cls ≠ "java/lang/invoke/MethodHandle" ∧ y.cls ≠ "java/lang/invoke/VarHandle") (E : Exa Z h a C)
    (bk : ∀ s' : State, Z.Warmed39 s'.vm → Back l R p e below s' args z 3 W (fun P aa => aa = (.ref a :: argsL).toArray ∧ P.U.heap = h ∧ P.cells + kc ≤ R.cells ∧ P.slots + nc ≤ R.slots) (fun P _ v B => ∃ L, QQ v B.U.heap L ∧ B.locs = P.locs ++ L ∧ B.cells = P.cells + kc ∧ B.slots = P.slots + nc)) (hws : ∀ x ∈ ws, x ∈ ms) (hpost : ∀ v h' L, QQ v h' L → Keep h h' ws ∧ Fr n0 L) (hst : st = argsL.reverse ++ .ref a :: rest) (hsz : Ls.size = maxL) (hpd : parseMethodDescriptor y.desc = some ⟨ps, rt⟩) (hln : argsL.length = ps.length) (hd : decode bytes pc = .ok (.invokevirtual idx, 3)) (hp : pc + 3 = pc') (hW : (rest.map fun v => v.category).sum ≤ W) (hc : k + kc ≤ R.cells) (hn : n + nc ≤ R.slots)
    (g : ∀ (T' : State) (h' : Heap) (v : Option Value), own_Wk Z EL n0 own bytes maxL ret nm p l e R s m args below meth c T' ms (k + kc) (n + nc) h' → Keep h h' ws → (∃ L, QQ v h' L) → own_Go Z EL n0 p e below s K N Q (T'.setTop (mkF m pc' Ls (v.toList ++ rest)))) : own_Go Z EL n0 p e below s K N Q (T.setTop (mkF m pc Ls st)) := by
  subst hp hst
  refine own_core w (k' := k + kc) (n' := n + nc) (ws := ws) (P := fun h' new F'' => ∃ v L, QQ v h' L ∧ new = [] ∧ F'' = mkF m (pc + 3) Ls (v.toList ++ rest)) hws (fun s' locs X eT hZ hown => by
    obtain ⟨cq, kq, qa, qb, qc⟩ := isOf hZ eT E
    obtain ⟨v, _, ⟨T', L', k', n'⟩, -, X', ⟨L, hQ, l1, l2, l3⟩, st'⟩ := X.virtualBack w.1 (y := y) (z := z) hown (mvT hZ wl) (mvT hZ wd) (hnf _ hZ) (mvT hZ wsel) (mvT hZ wt) hy (bk s' hZ) qa qc (g := mkF m pc Ls (argsL.reverse ++ .ref a :: rest)) rfl (by rw [w.2.2.1]; exact hsz) (Steps.refl _) (argsL := argsL) (rest := rest) (lenOf hpd hln) rfl (by show 2 * 0 + _ ≤ _; omega) (own_dec w hd) (fun _ _ => ⟨rfl, eT, hc, hn⟩)
    dsimp only [Pt.U, Pt.locs, Pt.cells, Pt.slots] at X' hQ l1 l2 l3 st'
    subst l1 l2 l3
    exact ⟨T', _, L, [], _, X', rfl, (hpost _ _ _ hQ).1, (hpost _ _ _ hQ).2, all0, ⟨v, L, hQ, rfl, rfl⟩, fun _ q => st'.trans q⟩) (fun T' h' new F'' w' Kp q => by
    obtain ⟨v, L, q1, rfl, rfl⟩ := q
    exact g T' h' v w' Kp ⟨L, q1⟩)
end OwnKit
theorem own_hws {Z : State} {a0 : Array Value} (hw : ∀ d ∈ tables_1, d.before a0 Z = true) : ∀ d ∈ StrChars.Road.words, d.before a0 Z = true := fun d hd => hw d ((by decide +kernel : ∀ d ∈ StrChars.Road.words, d ∈ tables_1) d hd)
theorem own_hwe {Z : State} {a0 : Array Value} (hw : ∀ d ∈ tables_1, d.before a0 Z = true) : ∀ d ∈ StrChars.Road.wordsEmp, d.before a0 Z = true := fun d hd => hw d ((by decide +kernel : ∀ d ∈ StrChars.Road.wordsEmp, d ∈ tables_1) d hd)
theorem own_cod {cs : List Int32} {n : Nat} (hn : cs.length = n) (hp : ∀ c ∈ cs, ¬ c < 0 ∧ ¬ (255 : Int32) < c) : StrChars.Road.CodA cs 0 (Int32.ofNat n) ((cs.map fun c => c.toInt8.toInt32).map Value.int) := StrChars.Road.codOf hn (fun c hc => (hp c hc).2)
theorem own_hst {Z : State} {a0 : Array Value} (hw : ∀ d ∈ tables_1, d.before a0 Z = true) : ∀ d ∈ Bundle.stringAtoms, d.before a0 Z = true := fun d hd => hw d ((by decide +kernel : ∀ d ∈ Bundle.stringAtoms, d ∈ tables_1) d hd)
theorem own_sh (cs : List Int32) (x : Int32) (h : cs.length = 0 ↔ x = 0) : ((if cs.length = 0 then 0 else 1 : Int32) = if x = 0 then 0 else 1) := by simp [h]
theorem own_d0_0 : decode jdk_42_method_149_code 0 = .ok (.aload_n 0, 1) := by decide +kernel
theorem own_d0_1 : decode jdk_42_method_149_code 1 = .ok (.invokespecial 1, 3) := by decide +kernel
theorem own_d0_4 : decode jdk_42_method_149_code 4 = .ok (.iload_n 3, 1) := by decide +kernel
theorem own_d0_5 : decode jdk_42_method_149_code 5 = .ok (.ifCond .ne 22, 3) := by decide +kernel
theorem own_d0_8 : decode jdk_42_method_149_code 8 = .ok (.aload_n 0, 1) := by decide +kernel
theorem own_d0_9 : decode jdk_42_method_149_code 9 = .ok (.ldc 7, 2) := by decide +kernel
theorem own_d0_11 : decode jdk_42_method_149_code 11 = .ok (.getfield 9, 3) := by decide +kernel
theorem own_d0_14 : decode jdk_42_method_149_code 14 = .ok (.putfield 9, 3) := by decide +kernel
theorem own_d0_17 : decode jdk_42_method_149_code 17 = .ok (.aload_n 0, 1) := by decide +kernel
theorem own_d0_18 : decode jdk_42_method_149_code 18 = .ok (.ldc 7, 2) := by decide +kernel
theorem own_d0_20 : decode jdk_42_method_149_code 20 = .ok (.getfield 15, 3) := by decide +kernel
theorem own_d0_23 : decode jdk_42_method_149_code 23 = .ok (.putfield 15, 3) := by decide +kernel
theorem own_d0_26 : decode jdk_42_method_149_code 26 = .ok (.return_, 1) := by decide +kernel
theorem own_ef_strE4 (m : MethodId) (a1 : Addr) (a2 : Addr) (of : Int32) (ln : Int32) : entryFrame m #[(.ref a1), (.ref a2), (.int of), (.int ln), .null] 6 = mkF m 0 #[.val (.ref a1), .val (.ref a2), .val (.int of), .val (.int ln), .val .null, .unset] [] := by first | (simp [entryFrame, mkF, argsToLocals, Value.category]; done) | rfl
theorem own_pf0 : plainFor (⟨"java/lang/String", "<init>", "([CIILjava/lang/Void;)V"⟩ : MethodName) = true := by first | exact plainFor_of_name (by first | (simp [plainName, overriddenIn]; done) | decide +kernel) | decide +kernel
def own_Q_strE4 (Z : State) (h0 : Heap) (a1 : Addr) (a2 : Addr) (of : Int32) (ln : Int32) (u1 : Value) (u2 : Value) (v : Option Value) (h : Heap) (ms : List Addr) : Prop := (Keep h0 h [a1]) ∧ (∃ (t : Addr) (kb : ClassId), (ms = []) ∧ (v = none) ∧ (Exa Z h a1 "java/lang/String") ∧ (Fld Z h a1 "java/lang/String" "coder" "B" (.int 0)) ∧ (Fld Z h a1 "java/lang/String" "value" "[B" (.ref t)) ∧ (Arv Z h t kb .byte (0 : Int32) [] (.int 0)) ∧ (a1 ≠ t))
set_option maxRecDepth 65536 in
set_option maxHeartbeats 40000000 in
theorem own_ct_strE4 (l : Launch) (Z : State) (a0 : Array Value) (hw : ∀ d ∈ tables_1, d.before a0 Z = true) (EL : List (String × Nat)) (hE : EW Z a0 EL) (n0 : Nat) (ws : List Jvm.Cond) (h0 : Heap) (O : Old Z n0 h0) (a1 : Addr) (a2 : Addr) (of : Int32) (ln : Int32) (u1 : Value) (u2 : Value) (E_a1 : Exa Z h0 a1 "java/lang/String") (F_a1_value : Fld Z h0 a1 "java/lang/String" "value" "[B" u1) (F_a1_coder : Fld Z h0 a1 "java/lang/String" "coder" "B" u2) (hln : ln = 0) (hEL : ("java/lang/String", 7) ∈ EL) :
    own_Ct l Z EL n0 (⟨"java/lang/String", "<init>", "([CIILjava/lang/Void;)V"⟩ : MethodName) jdk_42_method_149_code 6 none ws ({ frames := 1, cells := 4, slots := 8, locals := 12 } : Room) #[(.ref a1), (.ref a2), (.int of), (.int ln), .null] h0 [a1] (own_Q_strE4 Z h0 a1 a2 of ln u1 u2) := by
  refine own_enter (a0 := a0) own_pf0 hE O fun p e s m below meth c T0 w0 => ?_
  rw [own_ef_strE4 m a1 a2 of ln]
  have K : Keep h0 h0 [a1] := Keep.refl _ _
  refine own_aloadN (pc' := 1) w0 own_d0_0 rfl rfl rfl ?_
  refine own_initO (pc' := 4) w0 (hw _ (List.mem_of_getElem? (i := 15) rfl)) (hw _ (List.mem_of_getElem? (i := 16) rfl)) (hw _ (List.mem_of_getElem? (i := 17) rfl)) rfl own_d0_1 rfl (by decide) (W := 0) (Nat.le_of_eq rfl) (by decide) fun T1 w2 => ?_
  refine own_iloadN (pc' := 5) w2 own_d0_4 rfl rfl ?_
  refine own_if (pc' := 8) w2 own_d0_5 rfl (by decide) (pcY := 27) rfl (fun (hb5 : ¬ ln = (0 : Int32)) => absurd hln hb5) (fun (hb5 : ln = (0 : Int32)) => ?_)
  refine own_aloadN (pc' := 9) w2 own_d0_8 rfl rfl rfl ?_
  refine own_ldcS (pc' := 11) w2 (vs := []) (z := (0 : Int32)) (nn := 0) (hw _ (List.mem_of_getElem? (i := 18) rfl)) (own_hst hw) hEL ⟨by decide +kernel, by rfl⟩ (by decide) rfl own_d0_9 rfl (by decide +kernel) (by decide) (by decide) (by decide) hE fun T3 h5 a7 t8 kb9 w4 E6 ⟨E_a7, F_a7_coder, F_a7_value, A_t8, ne10⟩ => ?_
  replace E_a1 := E_a1.ext E6
  replace F_a1_value := F_a1_value.ext E6
  replace F_a1_coder := F_a1_coder.ext E6
  replace K := K.ext E6
  have ne_a1_a7 : a1 ≠ a7 := (ne10 a1 (by simp)).1
  have ne_a1_t8 : a1 ≠ t8 := (ne10 a1 (by simp)).2
  refine own_getF (pc' := 14) w4 (host := "") (Or.inl (hw _ (List.mem_of_getElem? (i := 24) rfl))) Via.refl F_a7_value own_d0_11 rfl fun T11 w12 => ?_
  refine own_putF (pc' := 17) w12 (host := "") (Or.inl (hw _ (List.mem_of_getElem? (i := 24) rfl))) Via.refl (by simp) F_a1_value E_a1 (Or.inr ⟨(hw _ (List.mem_of_getElem? (i := 20) rfl)), rfl, rfl⟩) (hw _ (List.mem_of_getElem? (i := 5) rfl)) (ty := (.array .byte)) (by decide) rfl rfl own_d0_14 rfl fun T13 h15 w14 W16 => ?_
  replace F_a1_value := F_a1_value.same W16
  replace E_a1 := E_a1.wr W16
  replace F_a1_coder := F_a1_coder.other W16 (Or.inr (slot_ne (Or.inr (hw _ (List.mem_of_getElem? (i := 21) rfl))) (Or.inr (hw _ (List.mem_of_getElem? (i := 20) rfl))) (by decide) (t := .byte) (t' := (.array .byte)) (by decide) (by decide)))
  replace E_a7 := E_a7.wr W16
  replace F_a7_coder := F_a7_coder.other W16 (Or.inl (Ne.symm ne_a1_a7))
  replace F_a7_value := F_a7_value.other W16 (Or.inl (Ne.symm ne_a1_a7))
  replace A_t8 := A_t8.other W16 (Ne.symm ne_a1_t8)
  replace K := K.wr W16 (Or.inl (by simp))
  refine own_aloadN (pc' := 18) w14 own_d0_17 rfl rfl rfl ?_
  refine own_ldcS (pc' := 20) w14 (vs := []) (z := (0 : Int32)) (nn := 0) (hw _ (List.mem_of_getElem? (i := 18) rfl)) (own_hst hw) hEL ⟨by decide +kernel, by rfl⟩ (by decide) rfl own_d0_18 rfl (by decide +kernel) (by decide) (by decide) (by decide) hE fun T17 h19 a21 t22 kb23 w18 E20 ⟨E_a21, F_a21_coder, F_a21_value, A_t22, ne24⟩ => ?_
  replace E_a1 := E_a1.ext E20
  replace F_a1_value := F_a1_value.ext E20
  replace F_a1_coder := F_a1_coder.ext E20
  replace E_a7 := E_a7.ext E20
  replace F_a7_coder := F_a7_coder.ext E20
  replace F_a7_value := F_a7_value.ext E20
  replace A_t8 := A_t8.ext E20
  replace K := K.ext E20
  have ne_a1_a21 : a1 ≠ a21 := (ne24 a1 (by simp)).1
  have ne_a1_t22 : a1 ≠ t22 := (ne24 a1 (by simp)).2
  refine own_getF (pc' := 23) w18 (host := "") (Or.inl (hw _ (List.mem_of_getElem? (i := 25) rfl))) Via.refl F_a21_coder own_d0_20 rfl fun T25 w26 => ?_
  refine own_putF (pc' := 26) w26 (host := "") (Or.inl (hw _ (List.mem_of_getElem? (i := 25) rfl))) Via.refl (by simp) F_a1_coder E_a1 (Or.inr ⟨(hw _ (List.mem_of_getElem? (i := 21) rfl)), rfl, rfl⟩) (hw _ (List.mem_of_getElem? (i := 5) rfl)) (ty := .byte) (by decide) rfl rfl own_d0_23 rfl fun T27 h29 w28 W30 => ?_
  replace F_a1_coder := F_a1_coder.same W30
  replace E_a1 := E_a1.wr W30
  replace F_a1_value := F_a1_value.other W30 (Or.inr (slot_ne (Or.inr (hw _ (List.mem_of_getElem? (i := 20) rfl))) (Or.inr (hw _ (List.mem_of_getElem? (i := 21) rfl))) (by decide) (t := (.array .byte)) (t' := .byte) (by decide) (by decide)))
  replace E_a7 := E_a7.wr W30
  replace F_a7_coder := F_a7_coder.other W30 (Or.inl (Ne.symm ne_a1_a7))
  replace F_a7_value := F_a7_value.other W30 (Or.inl (Ne.symm ne_a1_a7))
  replace A_t8 := A_t8.other W30 (Ne.symm ne_a1_t8)
  replace E_a21 := E_a21.wr W30
  replace F_a21_coder := F_a21_coder.other W30 (Or.inl (Ne.symm ne_a1_a21))
  replace F_a21_value := F_a21_value.other W30 (Or.inl (Ne.symm ne_a1_a21))
  replace A_t22 := A_t22.other W30 (Ne.symm ne_a1_t22)
  replace K := K.wr W30 (Or.inl (by simp))
  exact own_ret0 w28 rfl own_d0_26 (by decide) (by decide) (ms' := []) all0 ⟨K, t8, kb9, rfl, rfl, E_a1, F_a1_coder, F_a1_value, A_t8, ne_a1_t8⟩
theorem own_d1_0 : decode jdk_42_method_3_code 0 = .ok (.aload_n 0, 1) := by decide +kernel
theorem own_d1_1 : decode jdk_42_method_3_code 1 = .ok (.aload_n 1, 1) := by decide +kernel
theorem own_d1_2 : decode jdk_42_method_3_code 2 = .ok (.iconst 0, 1) := by decide +kernel
theorem own_d1_3 : decode jdk_42_method_3_code 3 = .ok (.aload_n 1, 1) := by decide +kernel
theorem own_d1_4 : decode jdk_42_method_3_code 4 = .ok (.arraylength, 1) := by decide +kernel
theorem own_d1_5 : decode jdk_42_method_3_code 5 = .ok (.aconst_null, 1) := by decide +kernel
theorem own_d1_6 : decode jdk_42_method_3_code 6 = .ok (.invokespecial 27, 3) := by decide +kernel
theorem own_pd0 : parseMethodDescriptor "([CIILjava/lang/Void;)V" = some ⟨[(.array .char), .int, .int, (.object "java/lang/Void")], none⟩ := by decide +kernel
theorem own_d1_9 : decode jdk_42_method_3_code 9 = .ok (.return_, 1) := by decide +kernel
theorem own_ef_strE1 (m : MethodId) (a1 : Addr) (a2 : Addr) : entryFrame m #[(.ref a1), (.ref a2)] 2 = mkF m 0 #[.val (.ref a1), .val (.ref a2)] [] := by first | (simp [entryFrame, mkF, argsToLocals, Value.category]; done) | rfl
theorem own_pf1 : plainFor (⟨"java/lang/String", "<init>", "([C)V"⟩ : MethodName) = true := by first | exact plainFor_of_name (by first | (simp [plainName, overriddenIn]; done) | decide +kernel) | decide +kernel
def own_Q_strE1 (Z : State) (h0 : Heap) (a1 : Addr) (a2 : Addr) (u1 : Value) (u2 : Value) (kA : ClassId) (vs : List Value) (dv : Value) (v : Option Value) (h : Heap) (ms : List Addr) : Prop := (Keep h0 h [a1]) ∧ (∃ (t : Addr) (kb : ClassId), (ms = []) ∧ (v = none) ∧ (Exa Z h a1 "java/lang/String") ∧ (Fld Z h a1 "java/lang/String" "coder" "B" (.int 0)) ∧ (Fld Z h a1 "java/lang/String" "value" "[B" (.ref t)) ∧ (Arv Z h t kb .byte (0 : Int32) [] (.int 0)) ∧ (a1 ≠ t))
set_option maxRecDepth 65536 in
set_option maxHeartbeats 40000000 in
theorem own_ct_strE1 (l : Launch) (Z : State) (a0 : Array Value) (hw : ∀ d ∈ tables_1, d.before a0 Z = true) (EL : List (String × Nat)) (hE : EW Z a0 EL) (n0 : Nat) (ws : List Jvm.Cond) (h0 : Heap) (O : Old Z n0 h0) (a1 : Addr) (a2 : Addr) (u1 : Value) (u2 : Value) (kA : ClassId) (vs : List Value) (dv : Value) (E_a1 : Exa Z h0 a1 "java/lang/String") (F_a1_value : Fld Z h0 a1 "java/lang/String" "value" "[B" u1) (F_a1_coder : Fld Z h0 a1 "java/lang/String" "coder" "B" u2) (A_a2 : Arv Z h0 a2 kA .char (0 : Int32) vs dv) (hEL : ("java/lang/String", 7) ∈ EL) (hne : a2 ≠ a1) :
    own_Ct l Z EL n0 (⟨"java/lang/String", "<init>", "([C)V"⟩ : MethodName) jdk_42_method_3_code 2 none ws ({ frames := 2, cells := 4, slots := 8, locals := 29 } : Room) #[(.ref a1), (.ref a2)] h0 [a1] (own_Q_strE1 Z h0 a1 a2 u1 u2 kA vs dv) := by
  refine own_enter (a0 := a0) own_pf1 hE O fun p e s m below meth c T0 w0 => ?_
  rw [own_ef_strE1 m a1 a2]
  have K : Keep h0 h0 [a1] := Keep.refl _ _
  refine own_aloadN (pc' := 1) w0 own_d1_0 rfl rfl rfl ?_
  refine own_aloadN (pc' := 2) w0 own_d1_1 rfl rfl rfl ?_
  refine own_iconst (pc' := 3) w0 own_d1_2 (x := (0 : Int32)) rfl rfl ?_
  refine own_aloadN (pc' := 4) w0 own_d1_3 rfl rfl rfl ?_
  refine own_len (pc' := 5) w0 A_a2 own_d1_4 rfl ?_
  refine own_aconstNull (pc' := 6) w0 own_d1_5 rfl ?_
  refine own_callI (pc' := 9) w0 rfl (hw _ (List.mem_of_getElem? (i := 11) rfl)) (hw _ (List.mem_of_getElem? (i := 12) rfl)) (hw _ (List.mem_of_getElem? (i := 6) rfl)) (hw _ (List.mem_of_getElem? (i := 14) rfl)) (by decide) (own_ct_strE4 l Z a0 hw EL hE n0 [] h0 (own_old w0) a1 a2 (0 : Int32) (0 : Int32) u1 u2 E_a1 F_a1_value F_a1_coder (rfl) (hEL)) (allS (P := fun x => x ∈ _) (by simp) all0) (argsL := [(.ref a2), (.int (0 : Int32)), (.int (0 : Int32)), .null]) (rest := []) rfl rfl own_pd0 rfl own_d1_6 rfl (by decide) (W := 0) rfl (by decide) (by decide) (by decide) fun T1 h3 v4 ms5 w2 q6 => ?_
  obtain ⟨K9, t_7, kb_8, rfl, rfl, nw_E_a1, nw_F_a1_coder, nw_F_a1_value, nw_A_t_7, p6_strE4_0⟩ := q6
  replace A_a2 := A_a2.keep K9 (ninS hne nin0)
  replace K := K.trans K9 (allS (P := fun x => x ∈ ([a1] : List Addr) ∨ h0.size ≤ x) (Or.inl (by simp)) all0)
  have E_a1 := nw_E_a1; clear nw_E_a1
  have F_a1_coder := nw_F_a1_coder; clear nw_F_a1_coder
  have F_a1_value := nw_F_a1_value; clear nw_F_a1_value
  have A_t_7 := nw_A_t_7; clear nw_A_t_7
  show own_Go Z EL n0 p e below s _ _ _ (T1.setTop (mkF m 9 #[.val (.ref a1), .val (.ref a2)] []))
  exact own_ret0 w2 rfl own_d1_9 (by decide) (by decide) (ms' := []) all0 ⟨K, t_7, kb_8, rfl, rfl, E_a1, F_a1_coder, F_a1_value, A_t_7, p6_strE4_0⟩
theorem own_d2_0 : decode method_2_code 0 = .ok (.iload_n 1, 1) := by decide +kernel
theorem own_d2_1 : decode method_2_code 1 = .ok (.sipush 255, 3) := by decide +kernel
theorem own_d2_4 : decode method_2_code 4 = .ok (.iand, 1) := by decide +kernel
theorem own_d2_5 : decode method_2_code 5 = .ok (.i2c, 1) := by decide +kernel
theorem own_d2_6 : decode method_2_code 6 = .ok (.istore 4, 2) := by decide +kernel
theorem own_d2_8 : decode method_2_code 8 = .ok (.iload_n 2, 1) := by decide +kernel
theorem own_d2_9 : decode method_2_code 9 = .ok (.sipush 255, 3) := by decide +kernel
theorem own_d2_12 : decode method_2_code 12 = .ok (.iand, 1) := by decide +kernel
theorem own_d2_13 : decode method_2_code 13 = .ok (.i2c, 1) := by decide +kernel
theorem own_d2_14 : decode method_2_code 14 = .ok (.istore 5, 2) := by decide +kernel
theorem own_d2_16 : decode method_2_code 16 = .ok (.iload_n 3, 1) := by decide +kernel
theorem own_d2_17 : decode method_2_code 17 = .ok (.sipush 255, 3) := by decide +kernel
theorem own_d2_20 : decode method_2_code 20 = .ok (.iand, 1) := by decide +kernel
theorem own_d2_21 : decode method_2_code 21 = .ok (.i2c, 1) := by decide +kernel
theorem own_d2_22 : decode method_2_code 22 = .ok (.istore 6, 2) := by decide +kernel
theorem own_d2_24 : decode method_2_code 24 = .ok (.iload_n 0, 1) := by decide +kernel
theorem own_d2_25 : decode method_2_code 25 = .ok (.ifCond .ne 14, 3) := by decide +kernel
theorem own_d2_39 : decode method_2_code 39 = .ok (.iload_n 0, 1) := by decide +kernel
theorem own_d2_40 : decode method_2_code 40 = .ok (.iconst 1, 1) := by decide +kernel
theorem own_d2_41 : decode method_2_code 41 = .ok (.if_icmp .ne 19, 3) := by decide +kernel
theorem own_d2_60 : decode method_2_code 60 = .ok (.iload_n 0, 1) := by decide +kernel
theorem own_d2_61 : decode method_2_code 61 = .ok (.iconst 2, 1) := by decide +kernel
theorem own_d2_62 : decode method_2_code 62 = .ok (.if_icmp .ne 24, 3) := by decide +kernel
theorem own_d2_86 : decode method_2_code 86 = .ok (.new 7, 3) := by decide +kernel
theorem own_d2_89 : decode method_2_code 89 = .ok (.dup, 1) := by decide +kernel
theorem own_d2_90 : decode method_2_code 90 = .ok (.iconst 3, 1) := by decide +kernel
theorem own_d2_91 : decode method_2_code 91 = .ok (.newarray .char, 2) := by decide +kernel
theorem own_d2_93 : decode method_2_code 93 = .ok (.dup, 1) := by decide +kernel
theorem own_d2_94 : decode method_2_code 94 = .ok (.iconst 0, 1) := by decide +kernel
theorem own_d2_95 : decode method_2_code 95 = .ok (.iload 4, 2) := by decide +kernel
theorem own_d2_97 : decode method_2_code 97 = .ok (.castore, 1) := by decide +kernel
theorem own_d2_98 : decode method_2_code 98 = .ok (.dup, 1) := by decide +kernel
theorem own_d2_99 : decode method_2_code 99 = .ok (.iconst 1, 1) := by decide +kernel
theorem own_d2_100 : decode method_2_code 100 = .ok (.iload 5, 2) := by decide +kernel
theorem own_d2_102 : decode method_2_code 102 = .ok (.castore, 1) := by decide +kernel
theorem own_d2_103 : decode method_2_code 103 = .ok (.dup, 1) := by decide +kernel
theorem own_d2_104 : decode method_2_code 104 = .ok (.iconst 2, 1) := by decide +kernel
theorem own_d2_105 : decode method_2_code 105 = .ok (.iload 6, 2) := by decide +kernel
theorem own_d2_107 : decode method_2_code 107 = .ok (.castore, 1) := by decide +kernel
theorem own_d2_108 : decode method_2_code 108 = .ok (.invokespecial 9, 3) := by decide +kernel
theorem own_pd1 : parseMethodDescriptor "([C)V" = some ⟨[(.array .char)], none⟩ := by decide +kernel
theorem own_d2_111 : decode method_2_code 111 = .ok (.areturn, 1) := by decide +kernel
theorem own_d2_65 : decode method_2_code 65 = .ok (.new 7, 3) := by decide +kernel
theorem own_d2_68 : decode method_2_code 68 = .ok (.dup, 1) := by decide +kernel
theorem own_d2_69 : decode method_2_code 69 = .ok (.iconst 2, 1) := by decide +kernel
theorem own_d2_70 : decode method_2_code 70 = .ok (.newarray .char, 2) := by decide +kernel
theorem own_d2_72 : decode method_2_code 72 = .ok (.dup, 1) := by decide +kernel
theorem own_d2_73 : decode method_2_code 73 = .ok (.iconst 0, 1) := by decide +kernel
theorem own_d2_74 : decode method_2_code 74 = .ok (.iload 4, 2) := by decide +kernel
theorem own_d2_76 : decode method_2_code 76 = .ok (.castore, 1) := by decide +kernel
theorem own_d2_77 : decode method_2_code 77 = .ok (.dup, 1) := by decide +kernel
theorem own_d2_78 : decode method_2_code 78 = .ok (.iconst 1, 1) := by decide +kernel
theorem own_d2_79 : decode method_2_code 79 = .ok (.iload 5, 2) := by decide +kernel
theorem own_d2_81 : decode method_2_code 81 = .ok (.castore, 1) := by decide +kernel
theorem own_d2_82 : decode method_2_code 82 = .ok (.invokespecial 9, 3) := by decide +kernel
theorem own_d2_85 : decode method_2_code 85 = .ok (.areturn, 1) := by decide +kernel
theorem own_d2_44 : decode method_2_code 44 = .ok (.new 7, 3) := by decide +kernel
theorem own_d2_47 : decode method_2_code 47 = .ok (.dup, 1) := by decide +kernel
theorem own_d2_48 : decode method_2_code 48 = .ok (.iconst 1, 1) := by decide +kernel
theorem own_d2_49 : decode method_2_code 49 = .ok (.newarray .char, 2) := by decide +kernel
theorem own_d2_51 : decode method_2_code 51 = .ok (.dup, 1) := by decide +kernel
theorem own_d2_52 : decode method_2_code 52 = .ok (.iconst 0, 1) := by decide +kernel
theorem own_d2_53 : decode method_2_code 53 = .ok (.iload 4, 2) := by decide +kernel
theorem own_d2_55 : decode method_2_code 55 = .ok (.castore, 1) := by decide +kernel
theorem own_d2_56 : decode method_2_code 56 = .ok (.invokespecial 9, 3) := by decide +kernel
theorem own_d2_59 : decode method_2_code 59 = .ok (.areturn, 1) := by decide +kernel
theorem own_d2_28 : decode method_2_code 28 = .ok (.new 7, 3) := by decide +kernel
theorem own_d2_31 : decode method_2_code 31 = .ok (.dup, 1) := by decide +kernel
theorem own_d2_32 : decode method_2_code 32 = .ok (.iconst 0, 1) := by decide +kernel
theorem own_d2_33 : decode method_2_code 33 = .ok (.newarray .char, 2) := by decide +kernel
theorem own_d2_35 : decode method_2_code 35 = .ok (.invokespecial 9, 3) := by decide +kernel
theorem own_d2_38 : decode method_2_code 38 = .ok (.areturn, 1) := by decide +kernel
theorem own_ef_mk (m : MethodId) (len : Int32) (x : Int32) (y : Int32) (z : Int32) : entryFrame m #[(.int len), (.int x), (.int y), (.int z)] 7 = mkF m 0 #[.val (.int len), .val (.int x), .val (.int y), .val (.int z), .unset, .unset, .unset] [] := by first | (simp [entryFrame, mkF, argsToLocals, Value.category]; done) | rfl
theorem own_pf2 : plainFor (⟨"com/example/vidura/vidura/MailboxSharedPinLaw", "mk", "(IIII)Ljava/lang/String;"⟩ : MethodName) = true := by first | exact plainFor_of_name (by first | (simp [plainName, overriddenIn]; done) | decide +kernel) | decide +kernel
def own_Q_mk (Z : State) (h0 : Heap) (len : Int32) (x : Int32) (y : Int32) (z : Int32) (z5 : Int32) (v : Option Value) (h : Heap) (ms : List Addr) : Prop := (Keep h0 h []) ∧ (∃ (r : Addr) (t : Addr) (kb : ClassId) (N : Int32) (vs : List Value) (cs : List Int32), (ms = []) ∧ (v = some (.ref r)) ∧ (Exa Z h r "java/lang/String") ∧ (Fld Z h r "java/lang/String" "coder" "B" (.int 0)) ∧ (Fld Z h r "java/lang/String" "value" "[B" (.ref t)) ∧ (Arv Z h t kb .byte N vs (.int 0)) ∧ (h0.size ≤ r) ∧ (StrChars.Road.CodA cs 0 N vs) ∧ (∀ c ∈ cs, ¬ c < 0 ∧ ¬ (65535 : Int32) < c) ∧ (cs.length ≤ 4000) ∧ (cs.length = 0 ↔ len = 0))
set_option maxRecDepth 65536 in
set_option maxHeartbeats 40000000 in
theorem own_ct_mk (l : Launch) (Z : State) (a0 : Array Value) (hw : ∀ d ∈ tables_1, d.before a0 Z = true) (EL : List (String × Nat)) (hE : EW Z a0 EL) (n0 : Nat) (ws : List Jvm.Cond) (h0 : Heap) (O : Old Z n0 h0) (len : Int32) (x : Int32) (y : Int32) (z : Int32) (z5 : Int32) (S_COMPACT_STRINGS : Sta Z Z.heap "java/lang/String" "COMPACT_STRINGS" "Z" (.int z5)) (P5 : ¬ z5 = 0) (hEL : ("java/lang/String", 7) ∈ EL) :
    own_Ct l Z EL n0 (⟨"com/example/vidura/vidura/MailboxSharedPinLaw", "mk", "(IIII)Ljava/lang/String;"⟩ : MethodName) method_2_code 7 (some (.object "java/lang/String")) ws ({ frames := 4, cells := 6, slots := 12, locals := 66 } : Room) #[(.int len), (.int x), (.int y), (.int z)] h0 [] (own_Q_mk Z h0 len x y z z5) := by
  refine own_enter (a0 := a0) own_pf2 hE O fun p e s m below meth c T0 w0 => ?_
  rw [own_ef_mk m len x y z]
  have K : Keep h0 h0 [] := Keep.refl _ _
  refine own_iloadN (pc' := 1) w0 own_d2_0 rfl rfl ?_
  refine own_sipush (pc' := 4) w0 own_d2_1 (x := (255 : Int32)) rfl rfl ?_
  refine own_iand (pc' := 5) w0 own_d2_4 (z := (x &&& (255 : Int32))) rfl rfl ?_
  refine own_i2c (pc' := 6) w0 own_d2_5 (z := (x &&& (255 : Int32))) (i2c_mask x) rfl ?_
  refine own_istore (pc' := 8) w0 own_d2_6 (Ls' := #[.val (.int len), .val (.int x), .val (.int y), .val (.int z), .val (.int (x &&& (255 : Int32))), .unset, .unset]) rfl rfl ?_
  refine own_iloadN (pc' := 9) w0 own_d2_8 rfl rfl ?_
  refine own_sipush (pc' := 12) w0 own_d2_9 (x := (255 : Int32)) rfl rfl ?_
  refine own_iand (pc' := 13) w0 own_d2_12 (z := (y &&& (255 : Int32))) rfl rfl ?_
  refine own_i2c (pc' := 14) w0 own_d2_13 (z := (y &&& (255 : Int32))) (i2c_mask y) rfl ?_
  refine own_istore (pc' := 16) w0 own_d2_14 (Ls' := #[.val (.int len), .val (.int x), .val (.int y), .val (.int z), .val (.int (x &&& (255 : Int32))), .val (.int (y &&& (255 : Int32))), .unset]) rfl rfl ?_
  refine own_iloadN (pc' := 17) w0 own_d2_16 rfl rfl ?_
  refine own_sipush (pc' := 20) w0 own_d2_17 (x := (255 : Int32)) rfl rfl ?_
  refine own_iand (pc' := 21) w0 own_d2_20 (z := (z &&& (255 : Int32))) rfl rfl ?_
  refine own_i2c (pc' := 22) w0 own_d2_21 (z := (z &&& (255 : Int32))) (i2c_mask z) rfl ?_
  refine own_istore (pc' := 24) w0 own_d2_22 (Ls' := #[.val (.int len), .val (.int x), .val (.int y), .val (.int z), .val (.int (x &&& (255 : Int32))), .val (.int (y &&& (255 : Int32))), .val (.int (z &&& (255 : Int32)))]) rfl rfl ?_
  refine own_iloadN (pc' := 25) w0 own_d2_24 rfl rfl ?_
  refine own_if (pc' := 28) w0 own_d2_25 rfl (by decide) (pcY := 39) rfl (fun (hb25 : ¬ len = (0 : Int32)) => ?_) (fun (hb25 : len = (0 : Int32)) => ?_)
  · -- t
    refine own_iloadN (pc' := 40) w0 own_d2_39 rfl rfl ?_
    refine own_iconst (pc' := 41) w0 own_d2_40 (x := (1 : Int32)) rfl rfl ?_
    refine own_icmp (pc' := 44) w0 own_d2_41 rfl (by decide) (pcY := 60) rfl (fun (hb41 : ¬ len = (1 : Int32)) => ?_) (fun (hb41 : len = (1 : Int32)) => ?_)
    · -- tt
      refine own_iloadN (pc' := 61) w0 own_d2_60 rfl rfl ?_
      refine own_iconst (pc' := 62) w0 own_d2_61 (x := (2 : Int32)) rfl rfl ?_
      refine own_icmp (pc' := 65) w0 own_d2_62 rfl (by decide) (pcY := 86) rfl (fun (hb62 : ¬ len = (2 : Int32)) => ?_) (fun (hb62 : len = (2 : Int32)) => ?_)
      · -- ttt
        refine own_newO (pc' := 89) w0 (hw _ (List.mem_of_getElem? (i := 4) rfl)) (hw _ (List.mem_of_getElem? (i := 5) rfl)) (hw _ (List.mem_of_getElem? (i := 6) rfl)) own_d2_86 rfl (by decide) (by decide) fun T1 h3 a5 g_a5 w2 E4 ⟨E_a5, D6⟩ => ?_
        have nw_a5 : h0.size ≤ a5 := Nat.le_trans K.1 (Nat.le_of_eq g_a5)
        replace K := K.ext E4
        have F_a5_value : Fld Z h3 a5 "java/lang/String" "value" "[B" .null := D6 (Or.inr (hw _ (List.mem_of_getElem? (i := 20) rfl))) (ty := (.array .byte)) (by decide)
        have F_a5_coder : Fld Z h3 a5 "java/lang/String" "coder" "B" (.int 0) := D6 (Or.inr (hw _ (List.mem_of_getElem? (i := 21) rfl))) (ty := .byte) (by decide)
        refine own_dup (pc' := 90) w2 own_d2_89 rfl rfl ?_
        refine own_iconst (pc' := 91) w2 own_d2_90 (x := (3 : Int32)) rfl rfl ?_
        refine own_newP (pc' := 93) w2 (vs := [(.int 0), (.int 0), (.int 0)]) (dv := (.int 0)) (cap := 3) (hw _ (List.mem_of_getElem? (i := 7) rfl)) own_d2_91 rfl (by decide) (by decide) (by decide) rfl (own_rep 3 (.int 0)) (by decide) (by decide) fun T7 h9 a11 g_a11 w8 E10 ⟨k_a11, A_a11⟩ => ?_
        have ne_a5_a11 : a5 ≠ a11 := Nat.ne_of_lt (Nat.lt_of_lt_of_le E_a5.lt (Nat.le_of_eq g_a11))
        have nw_a11 : h0.size ≤ a11 := Nat.le_trans K.1 (Nat.le_of_eq g_a11)
        replace E_a5 := E_a5.ext E10
        replace F_a5_value := F_a5_value.ext E10
        replace F_a5_coder := F_a5_coder.ext E10
        replace K := K.ext E10
        refine own_dup (pc' := 94) w8 own_d2_93 rfl rfl ?_
        refine own_iconst (pc' := 95) w8 own_d2_94 (x := (0 : Int32)) rfl rfl ?_
        refine own_iload (pc' := 97) w8 own_d2_95 rfl rfl ?_
        refine own_stC (pc' := 98) w8 (i := 0) (xv := (.int (x &&& (255 : Int32)))) (vs' := [(.int (x &&& (255 : Int32))), (.int 0), (.int 0)]) (by simp) A_a11 (by decide) rfl (Nat.lt_of_sub_eq_succ rfl) (own_nc x) (own_fc x) rfl own_d2_97 rfl fun T12 h14 w13 W15 A_new => ?_
        clear A_a11
        replace E_a5 := E_a5.wr W15
        replace F_a5_value := F_a5_value.other W15 (Or.inl ne_a5_a11)
        replace F_a5_coder := F_a5_coder.other W15 (Or.inl ne_a5_a11)
        replace K := K.wr W15 (Or.inr nw_a11)
        have A_a11 := A_new
        clear A_new
        refine own_dup (pc' := 99) w13 own_d2_98 rfl rfl ?_
        refine own_iconst (pc' := 100) w13 own_d2_99 (x := (1 : Int32)) rfl rfl ?_
        refine own_iload (pc' := 102) w13 own_d2_100 rfl rfl ?_
        refine own_stC (pc' := 103) w13 (i := 1) (xv := (.int (y &&& (255 : Int32)))) (vs' := [(.int (x &&& (255 : Int32))), (.int (y &&& (255 : Int32))), (.int 0)]) (by simp) A_a11 (by decide) rfl (Nat.lt_of_sub_eq_succ rfl) (own_nc y) (own_fc y) rfl own_d2_102 rfl fun T16 h18 w17 W19 A_new => ?_
        clear A_a11
        replace E_a5 := E_a5.wr W19
        replace F_a5_value := F_a5_value.other W19 (Or.inl ne_a5_a11)
        replace F_a5_coder := F_a5_coder.other W19 (Or.inl ne_a5_a11)
        replace K := K.wr W19 (Or.inr nw_a11)
        have A_a11 := A_new
        clear A_new
        refine own_dup (pc' := 104) w17 own_d2_103 rfl rfl ?_
        refine own_iconst (pc' := 105) w17 own_d2_104 (x := (2 : Int32)) rfl rfl ?_
        refine own_iload (pc' := 107) w17 own_d2_105 rfl rfl ?_
        refine own_stC (pc' := 108) w17 (i := 2) (xv := (.int (z &&& (255 : Int32)))) (vs' := [(.int (x &&& (255 : Int32))), (.int (y &&& (255 : Int32))), (.int (z &&& (255 : Int32)))]) (by simp) A_a11 (by decide) rfl (Nat.lt_of_sub_eq_succ rfl) (own_nc z) (own_fc z) rfl own_d2_107 rfl fun T20 h22 w21 W23 A_new => ?_
        clear A_a11
        replace E_a5 := E_a5.wr W23
        replace F_a5_value := F_a5_value.other W23 (Or.inl ne_a5_a11)
        replace F_a5_coder := F_a5_coder.other W23 (Or.inl ne_a5_a11)
        replace K := K.wr W23 (Or.inr nw_a11)
        have A_a11 := A_new
        clear A_new
        refine own_callIB (pc' := 111) w21 (bytes' := jdk_42_method_3_code) rfl (hw _ (List.mem_of_getElem? (i := 8) rfl)) (hw _ (List.mem_of_getElem? (i := 9) rfl)) (hw _ (List.mem_of_getElem? (i := 10) rfl)) (by decide) (fun s' hZ' => StrChars.Road.backV (W := 1) hZ' (own_hws hw) (kI := 4) (hw _ (List.mem_of_getElem? (i := 5) rfl)) (cs := [(x &&& (255 : Int32)), (y &&& (255 : Int32)), (z &&& (255 : Int32))]) (n := 3) (n0 := n0) (own_mine w21 a5 (by simp)).1 (own_n0 (own_old w21)) E_a5 F_a5_value F_a5_coder A_a11 (S_COMPACT_STRINGS.ext (own_old w21).2) P5 rfl rfl (by decide) (by decide) (own_allS (own_and255 x) (own_allS (own_and255 y) (own_allS (own_and255 z) own_all0))) rfl (by decide) (by decide)) (ws := [a5]) (allS (P := fun x => x ∈ _) (by simp) all0) (fun v h' L q => ⟨q.2.2.1, q.2.1⟩) (argsL := [.ref a11]) (rest := [(.ref a5)]) rfl rfl own_pd1 rfl own_d2_108 rfl (Nat.le_of_eq rfl) (by decide) (by decide) fun T24 h26 v27 w25 K28 q29 => ?_
        obtain ⟨_, rfl, -, -, nw_E, nw_C, t30, kb31, -, le_t30, ne_t30, nw_V, nw_A⟩ := q29
        have ne_a11_t30 : a11 ≠ t30 := Nat.ne_of_lt (Nat.lt_of_lt_of_le A_a11.lt le_t30)
        have ne_a5_t30 : a5 ≠ t30 := Nat.ne_of_lt (Nat.lt_of_lt_of_le E_a5.lt le_t30)
        have nw_t30 : h0.size ≤ t30 := Nat.le_trans K.1 le_t30
        replace A_a11 := A_a11.keep K28 (ninS (Ne.symm ne_a5_a11) nin0)
        replace K := K.trans K28 (allS (P := fun x => x ∈ ([] : List Addr) ∨ h0.size ≤ x) (Or.inr nw_a5) all0)
        have E_a5 := nw_E; have F_a5_coder := nw_C; have F_a5_value := nw_V; have A_t30 := nw_A; clear nw_E nw_C nw_V nw_A
        show own_Go Z EL n0 p e below s _ _ _ (T24.setTop (mkF m 111 #[.val (.int len), .val (.int x), .val (.int y), .val (.int z), .val (.int (x &&& (255 : Int32))), .val (.int (y &&& (255 : Int32))), .val (.int (z &&& (255 : Int32)))] [(.ref a5)]))
        exact own_retV w25 (t := (.object "java/lang/String")) rfl (own_narR rfl rfl) (Or.inr (Or.inr (Or.inr (Or.inr ⟨rfl, rfl, rfl⟩)))) own_d2_111 (by decide) (by decide) (ms' := []) all0 ⟨K, a5, t30, kb31, (3 : Int32), (([(x &&& (255 : Int32)), (y &&& (255 : Int32)), (z &&& (255 : Int32))] : List Int32).map (fun c => c.toInt8.toInt32)).map Value.int, [(x &&& (255 : Int32)), (y &&& (255 : Int32)), (z &&& (255 : Int32))], rfl, rfl, E_a5, F_a5_coder, F_a5_value, A_t30, nw_a5, (own_cod (cs := [(x &&& (255 : Int32)), (y &&& (255 : Int32)), (z &&& (255 : Int32))]) (n := 3) rfl (own_allS (own_and255 x) (own_allS (own_and255 y) (own_allS (own_and255 z) own_all0)))), (own_up [(x &&& (255 : Int32)), (y &&& (255 : Int32)), (z &&& (255 : Int32))] (own_allS (own_and255 x) (own_allS (own_and255 y) (own_allS (own_and255 z) own_all0)))), (Nat.le_of_ble_eq_true rfl), ⟨fun q => absurd q (Nat.succ_ne_zero _), fun q => absurd q hb25⟩⟩
      · -- ttf
        refine own_newO (pc' := 68) w0 (hw _ (List.mem_of_getElem? (i := 4) rfl)) (hw _ (List.mem_of_getElem? (i := 5) rfl)) (hw _ (List.mem_of_getElem? (i := 6) rfl)) own_d2_65 rfl (by decide) (by decide) fun T32 h34 a36 g_a36 w33 E35 ⟨E_a36, D37⟩ => ?_
        have nw_a36 : h0.size ≤ a36 := Nat.le_trans K.1 (Nat.le_of_eq g_a36)
        replace K := K.ext E35
        have F_a36_value : Fld Z h34 a36 "java/lang/String" "value" "[B" .null := D37 (Or.inr (hw _ (List.mem_of_getElem? (i := 20) rfl))) (ty := (.array .byte)) (by decide)
        have F_a36_coder : Fld Z h34 a36 "java/lang/String" "coder" "B" (.int 0) := D37 (Or.inr (hw _ (List.mem_of_getElem? (i := 21) rfl))) (ty := .byte) (by decide)
        refine own_dup (pc' := 69) w33 own_d2_68 rfl rfl ?_
        refine own_iconst (pc' := 70) w33 own_d2_69 (x := (2 : Int32)) rfl rfl ?_
        refine own_newP (pc' := 72) w33 (vs := [(.int 0), (.int 0)]) (dv := (.int 0)) (cap := 2) (hw _ (List.mem_of_getElem? (i := 7) rfl)) own_d2_70 rfl (by decide) (by decide) (by decide) rfl (own_rep 2 (.int 0)) (by decide) (by decide) fun T38 h40 a42 g_a42 w39 E41 ⟨k_a42, A_a42⟩ => ?_
        have ne_a36_a42 : a36 ≠ a42 := Nat.ne_of_lt (Nat.lt_of_lt_of_le E_a36.lt (Nat.le_of_eq g_a42))
        have nw_a42 : h0.size ≤ a42 := Nat.le_trans K.1 (Nat.le_of_eq g_a42)
        replace E_a36 := E_a36.ext E41
        replace F_a36_value := F_a36_value.ext E41
        replace F_a36_coder := F_a36_coder.ext E41
        replace K := K.ext E41
        refine own_dup (pc' := 73) w39 own_d2_72 rfl rfl ?_
        refine own_iconst (pc' := 74) w39 own_d2_73 (x := (0 : Int32)) rfl rfl ?_
        refine own_iload (pc' := 76) w39 own_d2_74 rfl rfl ?_
        refine own_stC (pc' := 77) w39 (i := 0) (xv := (.int (x &&& (255 : Int32)))) (vs' := [(.int (x &&& (255 : Int32))), (.int 0)]) (by simp) A_a42 (by decide) rfl (Nat.lt_of_sub_eq_succ rfl) (own_nc x) (own_fc x) rfl own_d2_76 rfl fun T43 h45 w44 W46 A_new => ?_
        clear A_a42
        replace E_a36 := E_a36.wr W46
        replace F_a36_value := F_a36_value.other W46 (Or.inl ne_a36_a42)
        replace F_a36_coder := F_a36_coder.other W46 (Or.inl ne_a36_a42)
        replace K := K.wr W46 (Or.inr nw_a42)
        have A_a42 := A_new
        clear A_new
        refine own_dup (pc' := 78) w44 own_d2_77 rfl rfl ?_
        refine own_iconst (pc' := 79) w44 own_d2_78 (x := (1 : Int32)) rfl rfl ?_
        refine own_iload (pc' := 81) w44 own_d2_79 rfl rfl ?_
        refine own_stC (pc' := 82) w44 (i := 1) (xv := (.int (y &&& (255 : Int32)))) (vs' := [(.int (x &&& (255 : Int32))), (.int (y &&& (255 : Int32)))]) (by simp) A_a42 (by decide) rfl (Nat.lt_of_sub_eq_succ rfl) (own_nc y) (own_fc y) rfl own_d2_81 rfl fun T47 h49 w48 W50 A_new => ?_
        clear A_a42
        replace E_a36 := E_a36.wr W50
        replace F_a36_value := F_a36_value.other W50 (Or.inl ne_a36_a42)
        replace F_a36_coder := F_a36_coder.other W50 (Or.inl ne_a36_a42)
        replace K := K.wr W50 (Or.inr nw_a42)
        have A_a42 := A_new
        clear A_new
        refine own_callIB (pc' := 85) w48 (bytes' := jdk_42_method_3_code) rfl (hw _ (List.mem_of_getElem? (i := 8) rfl)) (hw _ (List.mem_of_getElem? (i := 9) rfl)) (hw _ (List.mem_of_getElem? (i := 10) rfl)) (by decide) (fun s' hZ' => StrChars.Road.backV (W := 1) hZ' (own_hws hw) (kI := 4) (hw _ (List.mem_of_getElem? (i := 5) rfl)) (cs := [(x &&& (255 : Int32)), (y &&& (255 : Int32))]) (n := 2) (n0 := n0) (own_mine w48 a36 (by simp)).1 (own_n0 (own_old w48)) E_a36 F_a36_value F_a36_coder A_a42 (S_COMPACT_STRINGS.ext (own_old w48).2) P5 rfl rfl (by decide) (by decide) (own_allS (own_and255 x) (own_allS (own_and255 y) own_all0)) rfl (by decide) (by decide)) (ws := [a36]) (allS (P := fun x => x ∈ _) (by simp) all0) (fun v h' L q => ⟨q.2.2.1, q.2.1⟩) (argsL := [.ref a42]) (rest := [(.ref a36)]) rfl rfl own_pd1 rfl own_d2_82 rfl (Nat.le_of_eq rfl) (by decide) (by decide) fun T51 h53 v54 w52 K55 q56 => ?_
        obtain ⟨_, rfl, -, -, nw_E, nw_C, t57, kb58, -, le_t57, ne_t57, nw_V, nw_A⟩ := q56
        have ne_a36_t57 : a36 ≠ t57 := Nat.ne_of_lt (Nat.lt_of_lt_of_le E_a36.lt le_t57)
        have ne_a42_t57 : a42 ≠ t57 := Nat.ne_of_lt (Nat.lt_of_lt_of_le A_a42.lt le_t57)
        have nw_t57 : h0.size ≤ t57 := Nat.le_trans K.1 le_t57
        replace A_a42 := A_a42.keep K55 (ninS (Ne.symm ne_a36_a42) nin0)
        replace K := K.trans K55 (allS (P := fun x => x ∈ ([] : List Addr) ∨ h0.size ≤ x) (Or.inr nw_a36) all0)
        have E_a36 := nw_E; have F_a36_coder := nw_C; have F_a36_value := nw_V; have A_t57 := nw_A; clear nw_E nw_C nw_V nw_A
        show own_Go Z EL n0 p e below s _ _ _ (T51.setTop (mkF m 85 #[.val (.int len), .val (.int x), .val (.int y), .val (.int z), .val (.int (x &&& (255 : Int32))), .val (.int (y &&& (255 : Int32))), .val (.int (z &&& (255 : Int32)))] [(.ref a36)]))
        exact own_retV w52 (t := (.object "java/lang/String")) rfl (own_narR rfl rfl) (Or.inr (Or.inr (Or.inr (Or.inr ⟨rfl, rfl, rfl⟩)))) own_d2_85 (by decide) (by decide) (ms' := []) all0 ⟨K, a36, t57, kb58, (2 : Int32), (([(x &&& (255 : Int32)), (y &&& (255 : Int32))] : List Int32).map (fun c => c.toInt8.toInt32)).map Value.int, [(x &&& (255 : Int32)), (y &&& (255 : Int32))], rfl, rfl, E_a36, F_a36_coder, F_a36_value, A_t57, nw_a36, (own_cod (cs := [(x &&& (255 : Int32)), (y &&& (255 : Int32))]) (n := 2) rfl (own_allS (own_and255 x) (own_allS (own_and255 y) own_all0))), (own_up [(x &&& (255 : Int32)), (y &&& (255 : Int32))] (own_allS (own_and255 x) (own_allS (own_and255 y) own_all0))), (Nat.le_of_ble_eq_true rfl), ⟨fun q => absurd q (Nat.succ_ne_zero _), fun q => absurd q hb25⟩⟩
    · -- tf
      refine own_newO (pc' := 47) w0 (hw _ (List.mem_of_getElem? (i := 4) rfl)) (hw _ (List.mem_of_getElem? (i := 5) rfl)) (hw _ (List.mem_of_getElem? (i := 6) rfl)) own_d2_44 rfl (by decide) (by decide) fun T59 h61 a63 g_a63 w60 E62 ⟨E_a63, D64⟩ => ?_
      have nw_a63 : h0.size ≤ a63 := Nat.le_trans K.1 (Nat.le_of_eq g_a63)
      replace K := K.ext E62
      have F_a63_value : Fld Z h61 a63 "java/lang/String" "value" "[B" .null := D64 (Or.inr (hw _ (List.mem_of_getElem? (i := 20) rfl))) (ty := (.array .byte)) (by decide)
      have F_a63_coder : Fld Z h61 a63 "java/lang/String" "coder" "B" (.int 0) := D64 (Or.inr (hw _ (List.mem_of_getElem? (i := 21) rfl))) (ty := .byte) (by decide)
      refine own_dup (pc' := 48) w60 own_d2_47 rfl rfl ?_
      refine own_iconst (pc' := 49) w60 own_d2_48 (x := (1 : Int32)) rfl rfl ?_
      refine own_newP (pc' := 51) w60 (vs := [(.int 0)]) (dv := (.int 0)) (cap := 1) (hw _ (List.mem_of_getElem? (i := 7) rfl)) own_d2_49 rfl (by decide) (by decide) (by decide) rfl (own_rep 1 (.int 0)) (by decide) (by decide) fun T65 h67 a69 g_a69 w66 E68 ⟨k_a69, A_a69⟩ => ?_
      have ne_a63_a69 : a63 ≠ a69 := Nat.ne_of_lt (Nat.lt_of_lt_of_le E_a63.lt (Nat.le_of_eq g_a69))
      have nw_a69 : h0.size ≤ a69 := Nat.le_trans K.1 (Nat.le_of_eq g_a69)
      replace E_a63 := E_a63.ext E68
      replace F_a63_value := F_a63_value.ext E68
      replace F_a63_coder := F_a63_coder.ext E68
      replace K := K.ext E68
      refine own_dup (pc' := 52) w66 own_d2_51 rfl rfl ?_
      refine own_iconst (pc' := 53) w66 own_d2_52 (x := (0 : Int32)) rfl rfl ?_
      refine own_iload (pc' := 55) w66 own_d2_53 rfl rfl ?_
      refine own_stC (pc' := 56) w66 (i := 0) (xv := (.int (x &&& (255 : Int32)))) (vs' := [(.int (x &&& (255 : Int32)))]) (by simp) A_a69 (by decide) rfl (Nat.lt_of_sub_eq_succ rfl) (own_nc x) (own_fc x) rfl own_d2_55 rfl fun T70 h72 w71 W73 A_new => ?_
      clear A_a69
      replace E_a63 := E_a63.wr W73
      replace F_a63_value := F_a63_value.other W73 (Or.inl ne_a63_a69)
      replace F_a63_coder := F_a63_coder.other W73 (Or.inl ne_a63_a69)
      replace K := K.wr W73 (Or.inr nw_a69)
      have A_a69 := A_new
      clear A_new
      refine own_callIB (pc' := 59) w71 (bytes' := jdk_42_method_3_code) rfl (hw _ (List.mem_of_getElem? (i := 8) rfl)) (hw _ (List.mem_of_getElem? (i := 9) rfl)) (hw _ (List.mem_of_getElem? (i := 10) rfl)) (by decide) (fun s' hZ' => StrChars.Road.backV (W := 1) hZ' (own_hws hw) (kI := 4) (hw _ (List.mem_of_getElem? (i := 5) rfl)) (cs := [(x &&& (255 : Int32))]) (n := 1) (n0 := n0) (own_mine w71 a63 (by simp)).1 (own_n0 (own_old w71)) E_a63 F_a63_value F_a63_coder A_a69 (S_COMPACT_STRINGS.ext (own_old w71).2) P5 rfl rfl (by decide) (by decide) (own_allS (own_and255 x) own_all0) rfl (by decide) (by decide)) (ws := [a63]) (allS (P := fun x => x ∈ _) (by simp) all0) (fun v h' L q => ⟨q.2.2.1, q.2.1⟩) (argsL := [.ref a69]) (rest := [(.ref a63)]) rfl rfl own_pd1 rfl own_d2_56 rfl (Nat.le_of_eq rfl) (by decide) (by decide) fun T74 h76 v77 w75 K78 q79 => ?_
      obtain ⟨_, rfl, -, -, nw_E, nw_C, t80, kb81, -, le_t80, ne_t80, nw_V, nw_A⟩ := q79
      have ne_a63_t80 : a63 ≠ t80 := Nat.ne_of_lt (Nat.lt_of_lt_of_le E_a63.lt le_t80)
      have ne_a69_t80 : a69 ≠ t80 := Nat.ne_of_lt (Nat.lt_of_lt_of_le A_a69.lt le_t80)
      have nw_t80 : h0.size ≤ t80 := Nat.le_trans K.1 le_t80
      replace A_a69 := A_a69.keep K78 (ninS (Ne.symm ne_a63_a69) nin0)
      replace K := K.trans K78 (allS (P := fun x => x ∈ ([] : List Addr) ∨ h0.size ≤ x) (Or.inr nw_a63) all0)
      have E_a63 := nw_E; have F_a63_coder := nw_C; have F_a63_value := nw_V; have A_t80 := nw_A; clear nw_E nw_C nw_V nw_A
      show own_Go Z EL n0 p e below s _ _ _ (T74.setTop (mkF m 59 #[.val (.int len), .val (.int x), .val (.int y), .val (.int z), .val (.int (x &&& (255 : Int32))), .val (.int (y &&& (255 : Int32))), .val (.int (z &&& (255 : Int32)))] [(.ref a63)]))
      exact own_retV w75 (t := (.object "java/lang/String")) rfl (own_narR rfl rfl) (Or.inr (Or.inr (Or.inr (Or.inr ⟨rfl, rfl, rfl⟩)))) own_d2_59 (by decide) (by decide) (ms' := []) all0 ⟨K, a63, t80, kb81, (1 : Int32), (([(x &&& (255 : Int32))] : List Int32).map (fun c => c.toInt8.toInt32)).map Value.int, [(x &&& (255 : Int32))], rfl, rfl, E_a63, F_a63_coder, F_a63_value, A_t80, nw_a63, (own_cod (cs := [(x &&& (255 : Int32))]) (n := 1) rfl (own_allS (own_and255 x) own_all0)), (own_up [(x &&& (255 : Int32))] (own_allS (own_and255 x) own_all0)), (Nat.le_of_ble_eq_true rfl), ⟨fun q => absurd q (Nat.succ_ne_zero _), fun q => absurd q hb25⟩⟩
  · -- f
    refine own_newO (pc' := 31) w0 (hw _ (List.mem_of_getElem? (i := 4) rfl)) (hw _ (List.mem_of_getElem? (i := 5) rfl)) (hw _ (List.mem_of_getElem? (i := 6) rfl)) own_d2_28 rfl (by decide) (by decide) fun T82 h84 a86 g_a86 w83 E85 ⟨E_a86, D87⟩ => ?_
    have nw_a86 : h0.size ≤ a86 := Nat.le_trans K.1 (Nat.le_of_eq g_a86)
    replace K := K.ext E85
    have F_a86_value : Fld Z h84 a86 "java/lang/String" "value" "[B" .null := D87 (Or.inr (hw _ (List.mem_of_getElem? (i := 20) rfl))) (ty := (.array .byte)) (by decide)
    have F_a86_coder : Fld Z h84 a86 "java/lang/String" "coder" "B" (.int 0) := D87 (Or.inr (hw _ (List.mem_of_getElem? (i := 21) rfl))) (ty := .byte) (by decide)
    refine own_dup (pc' := 32) w83 own_d2_31 rfl rfl ?_
    refine own_iconst (pc' := 33) w83 own_d2_32 (x := (0 : Int32)) rfl rfl ?_
    refine own_newP (pc' := 35) w83 (vs := []) (dv := (.int 0)) (cap := 0) (hw _ (List.mem_of_getElem? (i := 7) rfl)) own_d2_33 rfl (by decide) (by decide) (by decide) rfl (own_rep 0 (.int 0)) (by decide) (by decide) fun T88 h90 a92 g_a92 w89 E91 ⟨k_a92, A_a92⟩ => ?_
    have ne_a86_a92 : a86 ≠ a92 := Nat.ne_of_lt (Nat.lt_of_lt_of_le E_a86.lt (Nat.le_of_eq g_a92))
    have nw_a92 : h0.size ≤ a92 := Nat.le_trans K.1 (Nat.le_of_eq g_a92)
    replace E_a86 := E_a86.ext E91
    replace F_a86_value := F_a86_value.ext E91
    replace F_a86_coder := F_a86_coder.ext E91
    replace K := K.ext E91
    refine own_callI (pc' := 38) w89 rfl (hw _ (List.mem_of_getElem? (i := 8) rfl)) (hw _ (List.mem_of_getElem? (i := 9) rfl)) (hw _ (List.mem_of_getElem? (i := 6) rfl)) (hw _ (List.mem_of_getElem? (i := 10) rfl)) (by decide) (own_ct_strE1 l Z a0 hw EL hE n0 [] h90 (own_old w89) a86 a92 .null (.int 0) k_a92 [] (.int 0) E_a86 F_a86_value F_a86_coder A_a92 (hEL) (Ne.symm ne_a86_a92)) (allS (P := fun x => x ∈ _) (by simp) all0) (argsL := [(.ref a92)]) (rest := [(.ref a86)]) rfl rfl own_pd1 rfl own_d2_35 rfl (by decide) (W := 1) rfl (by decide) (by decide) (by decide) fun T93 h95 v96 ms97 w94 q98 => ?_
    obtain ⟨K101, t_99, kb_100, rfl, rfl, nw_E_a86, nw_F_a86_coder, nw_F_a86_value, nw_A_t_99, p35_strE1_0⟩ := q98
    replace A_a92 := A_a92.keep K101 (ninS (Ne.symm ne_a86_a92) nin0)
    replace K := K.trans K101 (allS (P := fun x => x ∈ ([] : List Addr) ∨ h0.size ≤ x) (Or.inr nw_a86) all0)
    have E_a86 := nw_E_a86; clear nw_E_a86
    have F_a86_coder := nw_F_a86_coder; clear nw_F_a86_coder
    have F_a86_value := nw_F_a86_value; clear nw_F_a86_value
    have A_t_99 := nw_A_t_99; clear nw_A_t_99
    show own_Go Z EL n0 p e below s _ _ _ (T93.setTop (mkF m 38 #[.val (.int len), .val (.int x), .val (.int y), .val (.int z), .val (.int (x &&& (255 : Int32))), .val (.int (y &&& (255 : Int32))), .val (.int (z &&& (255 : Int32)))] [(.ref a86)]))
    exact own_retV w94 (t := (.object "java/lang/String")) rfl (own_narR rfl rfl) (Or.inr (Or.inr (Or.inr (Or.inr ⟨rfl, rfl, rfl⟩)))) own_d2_38 (by decide) (by decide) (ms' := []) all0 ⟨K, a86, t_99, kb_100, (0 : Int32), [], [], rfl, rfl, E_a86, F_a86_coder, F_a86_value, A_t_99, nw_a86, (Or.inl ⟨rfl, rfl, rfl, own_all0⟩), own_all0, (by decide), ⟨fun _ => hb25, fun _ => rfl⟩⟩
theorem own_d3_0 : decode jdk_30_method_1_code 0 = .ok (.aload_n 0, 1) := by decide +kernel
theorem own_d3_1 : decode jdk_30_method_1_code 1 = .ok (.invokespecial 1, 3) := by decide +kernel
theorem own_d3_4 : decode jdk_30_method_1_code 4 = .ok (.return_, 1) := by decide +kernel
theorem own_ef_recInit (m : MethodId) (a1 : Addr) : entryFrame m #[(.ref a1)] 1 = mkF m 0 #[.val (.ref a1)] [] := by first | (simp [entryFrame, mkF, argsToLocals, Value.category]; done) | rfl
theorem own_pf3 : plainFor (⟨"java/lang/Record", "<init>", "()V"⟩ : MethodName) = true := by first | exact plainFor_of_name (by first | (simp [plainName, overriddenIn]; done) | decide +kernel) | decide +kernel
def own_Q_recInit (Z : State) (h0 : Heap) (a1 : Addr) (v : Option Value) (h : Heap) (ms : List Addr) : Prop := (h0 = h) ∧ (ms = []) ∧ (v = none)
set_option maxRecDepth 65536 in
set_option maxHeartbeats 40000000 in
theorem own_ct_recInit (l : Launch) (Z : State) (a0 : Array Value) (hw : ∀ d ∈ tables_1, d.before a0 Z = true) (EL : List (String × Nat)) (hE : EW Z a0 EL) (n0 : Nat) (ws : List Jvm.Cond) (h0 : Heap) (O : Old Z n0 h0) (a1 : Addr)  :
    own_Ct l Z EL n0 (⟨"java/lang/Record", "<init>", "()V"⟩ : MethodName) jdk_30_method_1_code 1 none ws ({ frames := 1, cells := 0, slots := 0, locals := 12 } : Room) #[(.ref a1)] h0 [] (own_Q_recInit Z h0 a1) := by
  refine own_enter (a0 := a0) own_pf3 hE O fun p e s m below meth c T0 w0 => ?_
  rw [own_ef_recInit m a1]
  refine own_aloadN (pc' := 1) w0 own_d3_0 rfl rfl rfl ?_
  refine own_initO (pc' := 4) w0 (hw _ (List.mem_of_getElem? (i := 37) rfl)) (hw _ (List.mem_of_getElem? (i := 16) rfl)) (hw _ (List.mem_of_getElem? (i := 17) rfl)) rfl own_d3_1 rfl (by decide) (W := 0) (Nat.le_of_eq rfl) (by decide) fun T1 w2 => ?_
  exact own_ret0 w2 rfl own_d3_4 (by decide) (by decide) (ms' := []) all0 ⟨rfl, rfl, rfl⟩
theorem own_d4_0 : decode prog_9_method_1_code 0 = .ok (.aload_n 0, 1) := by decide +kernel
theorem own_d4_1 : decode prog_9_method_1_code 1 = .ok (.invokespecial 1, 3) := by decide +kernel
theorem own_pd2 : parseMethodDescriptor "()V" = some ⟨[], none⟩ := by decide +kernel
theorem own_d4_4 : decode prog_9_method_1_code 4 = .ok (.aload_n 0, 1) := by decide +kernel
theorem own_d4_5 : decode prog_9_method_1_code 5 = .ok (.aload_n 1, 1) := by decide +kernel
theorem own_d4_6 : decode prog_9_method_1_code 6 = .ok (.putfield 7, 3) := by decide +kernel
theorem own_d4_9 : decode prog_9_method_1_code 9 = .ok (.aload_n 0, 1) := by decide +kernel
theorem own_d4_10 : decode prog_9_method_1_code 10 = .ok (.aload_n 2, 1) := by decide +kernel
theorem own_d4_11 : decode prog_9_method_1_code 11 = .ok (.putfield 13, 3) := by decide +kernel
theorem own_d4_14 : decode prog_9_method_1_code 14 = .ok (.return_, 1) := by decide +kernel
theorem own_ef_mbInit (m : MethodId) (a1 : Addr) (r2 : Addr) (r3 : Addr) : entryFrame m #[(.ref a1), (.ref r2), (.ref r3)] 3 = mkF m 0 #[.val (.ref a1), .val (.ref r2), .val (.ref r3)] [] := by first | (simp [entryFrame, mkF, argsToLocals, Value.category]; done) | rfl
theorem own_pf4 : plainFor (⟨"com/example/vidura/vidura/Mailbox", "<init>", "(Ljava/lang/String;Ljava/lang/String;)V"⟩ : MethodName) = true := by first | exact plainFor_of_name (by first | (simp [plainName, overriddenIn]; done) | decide +kernel) | decide +kernel
def own_Q_mbInit (Z : State) (h0 : Heap) (a1 : Addr) (r2 : Addr) (r3 : Addr) (u1 : Value) (u2 : Value) (v : Option Value) (h : Heap) (ms : List Addr) : Prop := (Keep h0 h [a1]) ∧ (ms = []) ∧ (v = none) ∧ (Exa Z h a1 "com/example/vidura/vidura/Mailbox") ∧ (Fld Z h a1 "com/example/vidura/vidura/Mailbox" "home" "Ljava/lang/String;" (.ref r3))
set_option maxRecDepth 65536 in
set_option maxHeartbeats 40000000 in
theorem own_ct_mbInit (l : Launch) (Z : State) (a0 : Array Value) (hw : ∀ d ∈ tables_1, d.before a0 Z = true) (EL : List (String × Nat)) (hE : EW Z a0 EL) (n0 : Nat) (ws : List Jvm.Cond) (h0 : Heap) (O : Old Z n0 h0) (a1 : Addr) (r2 : Addr) (r3 : Addr) (u1 : Value) (u2 : Value) (E_a1 : Exa Z h0 a1 "com/example/vidura/vidura/Mailbox") (F_a1_address : Fld Z h0 a1 "com/example/vidura/vidura/Mailbox" "address" "Ljava/lang/String;" u1) (F_a1_home : Fld Z h0 a1 "com/example/vidura/vidura/Mailbox" "home" "Ljava/lang/String;" u2) :
    own_Ct l Z EL n0 (⟨"com/example/vidura/vidura/Mailbox", "<init>", "(Ljava/lang/String;Ljava/lang/String;)V"⟩ : MethodName) prog_9_method_1_code 3 none ws ({ frames := 2, cells := 0, slots := 0, locals := 24 } : Room) #[(.ref a1), (.ref r2), (.ref r3)] h0 [a1] (own_Q_mbInit Z h0 a1 r2 r3 u1 u2) := by
  refine own_enter (a0 := a0) own_pf4 hE O fun p e s m below meth c T0 w0 => ?_
  rw [own_ef_mbInit m a1 r2 r3]
  have K : Keep h0 h0 [a1] := Keep.refl _ _
  refine own_aloadN (pc' := 1) w0 own_d4_0 rfl rfl rfl ?_
  refine own_callI (pc' := 4) w0 rfl (hw _ (List.mem_of_getElem? (i := 32) rfl)) (hw _ (List.mem_of_getElem? (i := 33) rfl)) (hw _ (List.mem_of_getElem? (i := 35) rfl)) (hw _ (List.mem_of_getElem? (i := 36) rfl)) (by decide) (own_ct_recInit l Z a0 hw EL hE n0 [] h0 (own_old w0) a1 ) all0 (argsL := []) (rest := []) rfl rfl own_pd2 rfl own_d4_1 rfl (by decide) (W := 0) rfl (by decide) (by decide) (by decide) fun T1 h3 v4 ms5 w2 q6 => ?_
  obtain ⟨rfl, rfl, rfl⟩ := q6
  show own_Go Z EL n0 p e below s _ _ _ (T1.setTop (mkF m 4 #[.val (.ref a1), .val (.ref r2), .val (.ref r3)] []))
  refine own_aloadN (pc' := 5) w2 own_d4_4 rfl rfl rfl ?_
  refine own_aloadN (pc' := 6) w2 own_d4_5 rfl rfl rfl ?_
  refine own_putF (pc' := 9) w2 (host := "") (Or.inl (hw _ (List.mem_of_getElem? (i := 38) rfl))) Via.refl (by simp) F_a1_address E_a1 (Or.inr ⟨(hw _ (List.mem_of_getElem? (i := 39) rfl)), rfl, rfl⟩) (hw _ (List.mem_of_getElem? (i := 27) rfl)) (ty := (.object "java/lang/String")) (by decide) rfl rfl own_d4_6 rfl fun T7 h9 w8 W10 => ?_
  replace F_a1_address := F_a1_address.same W10
  replace E_a1 := E_a1.wr W10
  replace F_a1_home := F_a1_home.other W10 (Or.inr (slot_ne (Or.inr (hw _ (List.mem_of_getElem? (i := 41) rfl))) (Or.inr (hw _ (List.mem_of_getElem? (i := 39) rfl))) (by decide) (t := (.object "java/lang/String")) (t' := (.object "java/lang/String")) (by decide) (by decide)))
  replace K := K.wr W10 (Or.inl (by simp))
  refine own_aloadN (pc' := 10) w8 own_d4_9 rfl rfl rfl ?_
  refine own_aloadN (pc' := 11) w8 own_d4_10 rfl rfl rfl ?_
  refine own_putF (pc' := 14) w8 (host := "") (Or.inl (hw _ (List.mem_of_getElem? (i := 40) rfl))) Via.refl (by simp) F_a1_home E_a1 (Or.inr ⟨(hw _ (List.mem_of_getElem? (i := 41) rfl)), rfl, rfl⟩) (hw _ (List.mem_of_getElem? (i := 27) rfl)) (ty := (.object "java/lang/String")) (by decide) rfl rfl own_d4_11 rfl fun T11 h13 w12 W14 => ?_
  replace F_a1_home := F_a1_home.same W14
  replace E_a1 := E_a1.wr W14
  replace F_a1_address := F_a1_address.other W14 (Or.inr (slot_ne (Or.inr (hw _ (List.mem_of_getElem? (i := 39) rfl))) (Or.inr (hw _ (List.mem_of_getElem? (i := 41) rfl))) (by decide) (t := (.object "java/lang/String")) (t' := (.object "java/lang/String")) (by decide) (by decide)))
  replace K := K.wr W14 (Or.inl (by simp))
  exact own_ret0 w12 rfl own_d4_14 (by decide) (by decide) (ms' := []) all0 ⟨K, rfl, rfl, E_a1, F_a1_home⟩
theorem own_d5_0 : decode prog_9_method_4_code 0 = .ok (.aload_n 0, 1) := by decide +kernel
theorem own_d5_1 : decode prog_9_method_4_code 1 = .ok (.getfield 13, 3) := by decide +kernel
theorem own_d5_4 : decode prog_9_method_4_code 4 = .ok (.invokevirtual 43, 3) := by decide +kernel
theorem own_pd3 : parseMethodDescriptor "()Z" = some ⟨[], some .boolean⟩ := by decide +kernel
theorem own_d5_7 : decode prog_9_method_4_code 7 = .ok (.ifCond .ne 7, 3) := by decide +kernel
theorem own_d5_14 : decode prog_9_method_4_code 14 = .ok (.iconst 0, 1) := by decide +kernel
theorem own_d5_15 : decode prog_9_method_4_code 15 = .ok (.ireturn, 1) := by decide +kernel
theorem own_d5_10 : decode prog_9_method_4_code 10 = .ok (.iconst 1, 1) := by decide +kernel
theorem own_d5_11 : decode prog_9_method_4_code 11 = .ok (.goto 4, 3) := by decide +kernel
theorem own_ef_shared (m : MethodId) (a1 : Addr) : entryFrame m #[(.ref a1)] 1 = mkF m 0 #[.val (.ref a1)] [] := by first | (simp [entryFrame, mkF, argsToLocals, Value.category]; done) | rfl
theorem own_pf5 : plainFor (⟨"com/example/vidura/vidura/Mailbox", "shared", "()Z"⟩ : MethodName) = true := by first | exact plainFor_of_name (by first | (simp [plainName, overriddenIn]; done) | decide +kernel) | decide +kernel
def own_Q_shared (Z : State) (h0 : Heap) (a1 : Addr) (r : Addr) (t : Addr) (kb : ClassId) (N : Int32) (vs : List Value) (cs : List Int32) (v : Option Value) (h : Heap) (ms : List Addr) : Prop := (h0 = h) ∧ (ms = []) ∧ (v = some (.int (if List.length cs = 0 then 0 else 1)))
set_option maxRecDepth 65536 in
set_option maxHeartbeats 40000000 in
theorem own_ct_shared (l : Launch) (Z : State) (a0 : Array Value) (hw : ∀ d ∈ tables_1, d.before a0 Z = true) (EL : List (String × Nat)) (hE : EW Z a0 EL) (n0 : Nat) (ws : List Jvm.Cond) (h0 : Heap) (O : Old Z n0 h0) (a1 : Addr) (r : Addr) (t : Addr) (kb : ClassId) (N : Int32) (vs : List Value) (cs : List Int32) (F_a1_home : Fld Z h0 a1 "com/example/vidura/vidura/Mailbox" "home" "Ljava/lang/String;" (.ref r)) (E_r : Exa Z h0 r "java/lang/String") (F_r_coder : Fld Z h0 r "java/lang/String" "coder" "B" (.int 0)) (F_r_value : Fld Z h0 r "java/lang/String" "value" "[B" (.ref t)) (A_t : Arv Z h0 t kb .byte N vs (.int 0)) (hcd : StrChars.Road.CodA cs 0 N vs) (hbd : ∀ c ∈ cs, ¬ c < 0 ∧ ¬ (65535 : Int32) < c) (l2 : cs.length ≤ 4000) :
    own_Ct l Z EL n0 (⟨"com/example/vidura/vidura/Mailbox", "shared", "()Z"⟩ : MethodName) prog_9_method_4_code 1 (some .boolean) ws ({ frames := 1, cells := 0, slots := 0, locals := 12 } : Room) #[(.ref a1)] h0 [] (own_Q_shared Z h0 a1 r t kb N vs cs) := by
  refine own_enter (a0 := a0) own_pf5 hE O fun p e s m below meth c T0 w0 => ?_
  rw [own_ef_shared m a1]
  refine own_aloadN (pc' := 1) w0 own_d5_0 rfl rfl rfl ?_
  refine own_getF (pc' := 4) w0 (host := "") (Or.inl (hw _ (List.mem_of_getElem? (i := 40) rfl))) Via.refl F_a1_home own_d5_1 rfl fun T1 w2 => ?_
  refine own_callVB (pc' := 7) w2 (kc := 0) (nc := 0) (hw _ (List.mem_of_getElem? (i := 47) rfl)) (hw _ (List.mem_of_getElem? (i := 48) rfl)) (fun s' hZ' => notFace_of_selects (args := #[]) (mvT hZ' (hw _ (List.mem_of_getElem? (i := 50) rfl)))) (hw _ (List.mem_of_getElem? (i := 50) rfl)) (hw _ (List.mem_of_getElem? (i := 49) rfl)) (by decide) E_r (QQ := fun v h' L => (v = some (.int (if List.length cs = 0 then 1 else 0))) ∧ L = [] ∧ h' = h0) (fun s' hZ' => StrChars.Road.empW (W := 0) hZ' (own_hwe hw) (kI := 4) (hw _ (List.mem_of_getElem? (i := 5) rfl)) E_r F_r_value F_r_coder A_t hcd hbd l2 (by decide) (by decide)) (ws := []) all0 (fun v h' L q => ⟨q.2.2 ▸ Keep.refl _ _, q.2.1 ▸ Fr.nil _⟩) (argsL := []) (rest := []) rfl rfl own_pd3 rfl own_d5_4 rfl (Nat.le_of_eq rfl) (by decide) (by decide) fun T3 h5 v6 w4 K7 q8 => ?_
  obtain ⟨_, rfl, -, e9⟩ := q8
  rw [e9] at w4
  show own_Go Z EL n0 p e below s _ _ _ (T3.setTop (mkF m 7 #[.val (.ref a1)] [(.int (if List.length cs = 0 then 1 else 0))]))
  refine own_if (pc' := 10) w4 own_d5_7 rfl (by decide) (pcY := 14) rfl (fun (hb7 : ¬ (if List.length cs = 0 then 1 else 0) = (0 : Int32)) => ?_) (fun (hb7 : (if List.length cs = 0 then 1 else 0) = (0 : Int32)) => ?_)
  · -- t
    refine own_iconst (pc' := 15) w4 own_d5_14 (x := (0 : Int32)) rfl rfl ?_
    exact own_retV w4 (t := .boolean) rfl rfl (Or.inl ⟨rfl, by simp, _, rfl⟩) own_d5_15 (by decide) (by decide) (ms' := []) all0 ⟨rfl, rfl, (by have q := hb7; split at q <;> simp_all)⟩
  · -- f
    refine own_iconst (pc' := 11) w4 own_d5_10 (x := (1 : Int32)) rfl rfl ?_
    refine own_goto w4 own_d5_11 (by decide) (pc' := 15) rfl ?_
    exact own_retV w4 (t := .boolean) rfl rfl (Or.inl ⟨rfl, by simp, _, rfl⟩) own_d5_15 (by decide) (by decide) (ms' := []) all0 ⟨rfl, rfl, (by have q := hb7; split at q <;> simp_all)⟩
theorem own_d6_0 : decode code 0 = .ok (.iload_n 0, 1) := by decide +kernel
theorem own_d6_1 : decode code 1 = .ok (.iconst 3, 1) := by decide +kernel
theorem own_d6_2 : decode code 2 = .ok (.iand, 1) := by decide +kernel
theorem own_d6_3 : decode code 3 = .ok (.istore 5, 2) := by decide +kernel
theorem own_d6_5 : decode code 5 = .ok (.iload_n 0, 1) := by decide +kernel
theorem own_d6_6 : decode code 6 = .ok (.iconst 2, 1) := by decide +kernel
theorem own_d6_7 : decode code 7 = .ok (.iushr, 1) := by decide +kernel
theorem own_d6_8 : decode code 8 = .ok (.iconst 3, 1) := by decide +kernel
theorem own_d6_9 : decode code 9 = .ok (.iand, 1) := by decide +kernel
theorem own_d6_10 : decode code 10 = .ok (.istore 6, 2) := by decide +kernel
theorem own_d6_12 : decode code 12 = .ok (.iload 5, 2) := by decide +kernel
theorem own_d6_14 : decode code 14 = .ok (.iload_n 1, 1) := by decide +kernel
theorem own_d6_15 : decode code 15 = .ok (.iload_n 2, 1) := by decide +kernel
theorem own_d6_16 : decode code 16 = .ok (.iload_n 3, 1) := by decide +kernel
theorem own_d6_17 : decode code 17 = .ok (.invokestatic 12, 3) := by decide +kernel
theorem own_pd4 : parseMethodDescriptor "(IIII)Ljava/lang/String;" = some ⟨[.int, .int, .int, .int], some (.object "java/lang/String")⟩ := by decide +kernel
theorem own_d6_20 : decode code 20 = .ok (.astore 7, 2) := by decide +kernel
theorem own_d6_22 : decode code 22 = .ok (.iload 6, 2) := by decide +kernel
theorem own_d6_24 : decode code 24 = .ok (.iload 4, 2) := by decide +kernel
theorem own_d6_26 : decode code 26 = .ok (.iload 4, 2) := by decide +kernel
theorem own_d6_28 : decode code 28 = .ok (.bipush 8, 2) := by decide +kernel
theorem own_d6_30 : decode code 30 = .ok (.iushr, 1) := by decide +kernel
theorem own_d6_31 : decode code 31 = .ok (.iload 4, 2) := by decide +kernel
theorem own_d6_33 : decode code 33 = .ok (.bipush 16, 2) := by decide +kernel
theorem own_d6_35 : decode code 35 = .ok (.iushr, 1) := by decide +kernel
theorem own_d6_36 : decode code 36 = .ok (.invokestatic 12, 3) := by decide +kernel
theorem own_d6_39 : decode code 39 = .ok (.astore 8, 2) := by decide +kernel
theorem own_d6_41 : decode code 41 = .ok (.new 18, 3) := by decide +kernel
theorem own_d6_44 : decode code 44 = .ok (.dup, 1) := by decide +kernel
theorem own_d6_45 : decode code 45 = .ok (.aload 8, 2) := by decide +kernel
theorem own_d6_47 : decode code 47 = .ok (.aload 7, 2) := by decide +kernel
theorem own_d6_49 : decode code 49 = .ok (.invokespecial 20, 3) := by decide +kernel
theorem own_pd5 : parseMethodDescriptor "(Ljava/lang/String;Ljava/lang/String;)V" = some ⟨[(.object "java/lang/String"), (.object "java/lang/String")], none⟩ := by decide +kernel
theorem own_d6_52 : decode code 52 = .ok (.astore 9, 2) := by decide +kernel
theorem own_d6_54 : decode code 54 = .ok (.aload 9, 2) := by decide +kernel
theorem own_d6_56 : decode code 56 = .ok (.invokevirtual 23, 3) := by decide +kernel
theorem own_d6_59 : decode code 59 = .ok (.istore 10, 2) := by decide +kernel
theorem own_d6_61 : decode code 61 = .ok (.iload 10, 2) := by decide +kernel
theorem own_d6_63 : decode code 63 = .ok (.iload 5, 2) := by decide +kernel
theorem own_d6_65 : decode code 65 = .ok (.ifCond .eq 7, 3) := by decide +kernel
theorem own_d6_72 : decode code 72 = .ok (.iconst 0, 1) := by decide +kernel
theorem own_d6_73 : decode code 73 = .ok (.if_icmp .ne 7, 3) := by decide +kernel
theorem own_d6_76 : decode code 76 = .ok (.iconst 1, 1) := by decide +kernel
theorem own_d6_77 : decode code 77 = .ok (.goto 4, 3) := by decide +kernel
theorem own_d6_81 : decode code 81 = .ok (.ireturn, 1) := by decide +kernel
theorem own_d6_68 : decode code 68 = .ok (.iconst 1, 1) := by decide +kernel
theorem own_d6_69 : decode code 69 = .ok (.goto 4, 3) := by decide +kernel
theorem own_ef_law (m : MethodId) (i0 : Int32) (i1 : Int32) (i2 : Int32) (i3 : Int32) (i4 : Int32) : entryFrame m #[(.int i0), (.int i1), (.int i2), (.int i3), (.int i4)] maxLocals = mkF m 0 #[.val (.int i0), .val (.int i1), .val (.int i2), .val (.int i3), .val (.int i4), .unset, .unset, .unset, .unset, .unset, .unset] [] := by first | (simp [entryFrame, mkF, argsToLocals, Value.category, maxLocals]; done) | rfl
theorem own_pf6 : plainFor (⟨"com/example/vidura/vidura/MailboxSharedPinLaw", "law", "(IIIII)Z"⟩ : MethodName) = true := by first | exact plainFor_of_name (by first | (simp [plainName, overriddenIn]; done) | decide +kernel) | decide +kernel
def own_Q_law (Z : State) (h0 : Heap) (i0 : Int32) (i1 : Int32) (i2 : Int32) (i3 : Int32) (i4 : Int32) (z5 : Int32) (v : Option Value) (h : Heap) (ms : List Addr) : Prop := (Keep h0 h []) ∧ (ms = []) ∧ (v = some (.int 1))
set_option maxRecDepth 65536 in
set_option maxHeartbeats 40000000 in
theorem own_ct_law (l : Launch) (Z : State) (a0 : Array Value) (hw : ∀ d ∈ tables_1, d.before a0 Z = true) (EL : List (String × Nat)) (hE : EW Z a0 EL) (n0 : Nat) (ws : List Jvm.Cond) (h0 : Heap) (O : Old Z n0 h0) (i0 : Int32) (i1 : Int32) (i2 : Int32) (i3 : Int32) (i4 : Int32) (z5 : Int32) (S_COMPACT_STRINGS : Sta Z Z.heap "java/lang/String" "COMPACT_STRINGS" "Z" (.int z5)) (P5 : ¬ z5 = 0) (hEL : ("java/lang/String", 7) ∈ EL) :
    own_Ct l Z EL n0 x code maxLocals ret ws room_1 #[(.int i0), (.int i1), (.int i2), (.int i3), (.int i4)] h0 [] (own_Q_law Z h0 i0 i1 i2 i3 i4 z5) := by
  refine own_enter (a0 := a0) own_pf6 hE O fun p e s m below meth c T0 w0 => ?_
  rw [own_ef_law m i0 i1 i2 i3 i4]
  have K : Keep h0 h0 [] := Keep.refl _ _
  refine own_iloadN (pc' := 1) w0 own_d6_0 rfl rfl ?_
  refine own_iconst (pc' := 2) w0 own_d6_1 (x := (3 : Int32)) rfl rfl ?_
  refine own_iand (pc' := 3) w0 own_d6_2 (z := (i0 &&& (3 : Int32))) rfl rfl ?_
  refine own_istore (pc' := 5) w0 own_d6_3 (Ls' := #[.val (.int i0), .val (.int i1), .val (.int i2), .val (.int i3), .val (.int i4), .val (.int (i0 &&& (3 : Int32))), .unset, .unset, .unset, .unset, .unset]) rfl rfl ?_
  refine own_iloadN (pc' := 6) w0 own_d6_5 rfl rfl ?_
  refine own_iconst (pc' := 7) w0 own_d6_6 (x := (2 : Int32)) rfl rfl ?_
  refine own_iushr (pc' := 8) w0 own_d6_7 (z := (XT.ushr i0 (2 : Int32))) rfl rfl ?_
  refine own_iconst (pc' := 9) w0 own_d6_8 (x := (3 : Int32)) rfl rfl ?_
  refine own_iand (pc' := 10) w0 own_d6_9 (z := ((XT.ushr i0 (2 : Int32)) &&& (3 : Int32))) rfl rfl ?_
  refine own_istore (pc' := 12) w0 own_d6_10 (Ls' := #[.val (.int i0), .val (.int i1), .val (.int i2), .val (.int i3), .val (.int i4), .val (.int (i0 &&& (3 : Int32))), .val (.int ((XT.ushr i0 (2 : Int32)) &&& (3 : Int32))), .unset, .unset, .unset, .unset]) rfl rfl ?_
  refine own_iload (pc' := 14) w0 own_d6_12 rfl rfl ?_
  refine own_iloadN (pc' := 15) w0 own_d6_14 rfl rfl ?_
  refine own_iloadN (pc' := 16) w0 own_d6_15 rfl rfl ?_
  refine own_iloadN (pc' := 17) w0 own_d6_16 rfl rfl ?_
  refine own_callS (pc' := 20) w0 (hw _ (List.mem_of_getElem? (i := 0) rfl)) (hw _ (List.mem_of_getElem? (i := 1) rfl)) (hw _ (List.mem_of_getElem? (i := 2) rfl)) (hw _ (List.mem_of_getElem? (i := 3) rfl)) (by decide) (own_ct_mk l Z a0 hw EL hE n0 [] h0 (own_old w0) (i0 &&& (3 : Int32)) i1 i2 i3 z5 S_COMPACT_STRINGS (P5) (hEL)) all0 (argsL := [(.int (i0 &&& (3 : Int32))), (.int i1), (.int i2), (.int i3)]) (rest := []) rfl rfl own_pd4 rfl own_d6_17 rfl (by decide) (W := 0) rfl (by decide) (by decide) (by decide) fun T1 h3 v4 ms5 w2 q6 => ?_
  obtain ⟨K13, r_7, t_8, kb_9, N_10, vs_11, cs_12, rfl, rfl, nw_E_r_7, nw_F_r_7_coder, nw_F_r_7_value, nw_A_t_8, p17_mk_0, p17_mk_1, p17_mk_2, p17_mk_3, p17_mk_4⟩ := q6
  have nw_r_7 : h0.size ≤ r_7 := Nat.le_trans K.1 p17_mk_0
  replace K := K.trans K13 all0
  have E_r_7 := nw_E_r_7; clear nw_E_r_7
  have F_r_7_coder := nw_F_r_7_coder; clear nw_F_r_7_coder
  have F_r_7_value := nw_F_r_7_value; clear nw_F_r_7_value
  have A_t_8 := nw_A_t_8; clear nw_A_t_8
  show own_Go Z EL n0 p e below s _ _ _ (T1.setTop (mkF m 20 #[.val (.int i0), .val (.int i1), .val (.int i2), .val (.int i3), .val (.int i4), .val (.int (i0 &&& (3 : Int32))), .val (.int ((XT.ushr i0 (2 : Int32)) &&& (3 : Int32))), .unset, .unset, .unset, .unset] [(.ref r_7)]))
  refine own_astore (pc' := 22) w2 own_d6_20 rfl (Ls' := #[.val (.int i0), .val (.int i1), .val (.int i2), .val (.int i3), .val (.int i4), .val (.int (i0 &&& (3 : Int32))), .val (.int ((XT.ushr i0 (2 : Int32)) &&& (3 : Int32))), .val (.ref r_7), .unset, .unset, .unset]) rfl rfl ?_
  refine own_iload (pc' := 24) w2 own_d6_22 rfl rfl ?_
  refine own_iload (pc' := 26) w2 own_d6_24 rfl rfl ?_
  refine own_iload (pc' := 28) w2 own_d6_26 rfl rfl ?_
  refine own_bipush (pc' := 30) w2 own_d6_28 (x := (8 : Int32)) rfl rfl ?_
  refine own_iushr (pc' := 31) w2 own_d6_30 (z := (XT.ushr i4 (8 : Int32))) rfl rfl ?_
  refine own_iload (pc' := 33) w2 own_d6_31 rfl rfl ?_
  refine own_bipush (pc' := 35) w2 own_d6_33 (x := (16 : Int32)) rfl rfl ?_
  refine own_iushr (pc' := 36) w2 own_d6_35 (z := (XT.ushr i4 (16 : Int32))) rfl rfl ?_
  refine own_callS (pc' := 39) w2 (hw _ (List.mem_of_getElem? (i := 0) rfl)) (hw _ (List.mem_of_getElem? (i := 1) rfl)) (hw _ (List.mem_of_getElem? (i := 2) rfl)) (hw _ (List.mem_of_getElem? (i := 3) rfl)) (by decide) (own_ct_mk l Z a0 hw EL hE n0 [] h3 (own_old w2) ((XT.ushr i0 (2 : Int32)) &&& (3 : Int32)) i4 (XT.ushr i4 (8 : Int32)) (XT.ushr i4 (16 : Int32)) z5 S_COMPACT_STRINGS (P5) (hEL)) all0 (argsL := [(.int ((XT.ushr i0 (2 : Int32)) &&& (3 : Int32))), (.int i4), (.int (XT.ushr i4 (8 : Int32))), (.int (XT.ushr i4 (16 : Int32)))]) (rest := []) rfl rfl own_pd4 rfl own_d6_36 rfl (by decide) (W := 0) rfl (by decide) (by decide) (by decide) fun T14 h16 v17 ms18 w15 q19 => ?_
  obtain ⟨K26, r_20, t_21, kb_22, N_23, vs_24, cs_25, rfl, rfl, nw_E_r_20, nw_F_r_20_coder, nw_F_r_20_value, nw_A_t_21, p36_mk_0, p36_mk_1, p36_mk_2, p36_mk_3, p36_mk_4⟩ := q19
  have ne_r_7_r_20 : r_7 ≠ r_20 := Nat.ne_of_lt (Nat.lt_of_lt_of_le E_r_7.lt p36_mk_0)
  have ne_t_8_r_20 : t_8 ≠ r_20 := Nat.ne_of_lt (Nat.lt_of_lt_of_le A_t_8.lt p36_mk_0)
  have nw_r_20 : h0.size ≤ r_20 := Nat.le_trans K.1 p36_mk_0
  replace E_r_7 := E_r_7.keep K26
  replace F_r_7_coder := F_r_7_coder.keep K26 nin0
  replace F_r_7_value := F_r_7_value.keep K26 nin0
  replace A_t_8 := A_t_8.keep K26 nin0
  replace K := K.trans K26 all0
  have E_r_20 := nw_E_r_20; clear nw_E_r_20
  have F_r_20_coder := nw_F_r_20_coder; clear nw_F_r_20_coder
  have F_r_20_value := nw_F_r_20_value; clear nw_F_r_20_value
  have A_t_21 := nw_A_t_21; clear nw_A_t_21
  show own_Go Z EL n0 p e below s _ _ _ (T14.setTop (mkF m 39 #[.val (.int i0), .val (.int i1), .val (.int i2), .val (.int i3), .val (.int i4), .val (.int (i0 &&& (3 : Int32))), .val (.int ((XT.ushr i0 (2 : Int32)) &&& (3 : Int32))), .val (.ref r_7), .unset, .unset, .unset] [(.ref r_20)]))
  refine own_astore (pc' := 41) w15 own_d6_39 rfl (Ls' := #[.val (.int i0), .val (.int i1), .val (.int i2), .val (.int i3), .val (.int i4), .val (.int (i0 &&& (3 : Int32))), .val (.int ((XT.ushr i0 (2 : Int32)) &&& (3 : Int32))), .val (.ref r_7), .val (.ref r_20), .unset, .unset]) rfl rfl ?_
  refine own_newO (pc' := 44) w15 (hw _ (List.mem_of_getElem? (i := 26) rfl)) (hw _ (List.mem_of_getElem? (i := 27) rfl)) (hw _ (List.mem_of_getElem? (i := 28) rfl)) own_d6_41 rfl (by decide) (by decide) fun T27 h29 a31 g_a31 w28 E30 ⟨E_a31, D32⟩ => ?_
  have ne_r_20_a31 : r_20 ≠ a31 := Nat.ne_of_lt (Nat.lt_of_lt_of_le E_r_20.lt (Nat.le_of_eq g_a31))
  have ne_r_7_a31 : r_7 ≠ a31 := Nat.ne_of_lt (Nat.lt_of_lt_of_le E_r_7.lt (Nat.le_of_eq g_a31))
  have ne_t_21_a31 : t_21 ≠ a31 := Nat.ne_of_lt (Nat.lt_of_lt_of_le A_t_21.lt (Nat.le_of_eq g_a31))
  have ne_t_8_a31 : t_8 ≠ a31 := Nat.ne_of_lt (Nat.lt_of_lt_of_le A_t_8.lt (Nat.le_of_eq g_a31))
  have nw_a31 : h0.size ≤ a31 := Nat.le_trans K.1 (Nat.le_of_eq g_a31)
  replace E_r_7 := E_r_7.ext E30
  replace F_r_7_coder := F_r_7_coder.ext E30
  replace F_r_7_value := F_r_7_value.ext E30
  replace A_t_8 := A_t_8.ext E30
  replace E_r_20 := E_r_20.ext E30
  replace F_r_20_coder := F_r_20_coder.ext E30
  replace F_r_20_value := F_r_20_value.ext E30
  replace A_t_21 := A_t_21.ext E30
  replace K := K.ext E30
  have F_a31_address : Fld Z h29 a31 "com/example/vidura/vidura/Mailbox" "address" "Ljava/lang/String;" .null := D32 (Or.inr (hw _ (List.mem_of_getElem? (i := 39) rfl))) (ty := (.object "java/lang/String")) (by decide)
  have F_a31_home : Fld Z h29 a31 "com/example/vidura/vidura/Mailbox" "home" "Ljava/lang/String;" .null := D32 (Or.inr (hw _ (List.mem_of_getElem? (i := 41) rfl))) (ty := (.object "java/lang/String")) (by decide)
  refine own_dup (pc' := 45) w28 own_d6_44 rfl rfl ?_
  refine own_aload (pc' := 47) w28 own_d6_45 rfl rfl rfl ?_
  refine own_aload (pc' := 49) w28 own_d6_47 rfl rfl rfl ?_
  refine own_callI (pc' := 52) w28 rfl (hw _ (List.mem_of_getElem? (i := 29) rfl)) (hw _ (List.mem_of_getElem? (i := 30) rfl)) (hw _ (List.mem_of_getElem? (i := 28) rfl)) (hw _ (List.mem_of_getElem? (i := 31) rfl)) (by decide) (own_ct_mbInit l Z a0 hw EL hE n0 [] h29 (own_old w28) a31 r_20 r_7 .null .null E_a31 F_a31_address F_a31_home) (allS (P := fun x => x ∈ _) (by simp) all0) (argsL := [(.ref r_20), (.ref r_7)]) (rest := [(.ref a31)]) rfl rfl own_pd5 rfl own_d6_49 rfl (by decide) (W := 1) rfl (by decide) (by decide) (by decide) fun T33 h35 v36 ms37 w34 q38 => ?_
  obtain ⟨K39, rfl, rfl, nw_E_a31, nw_F_a31_home⟩ := q38
  replace E_r_7 := E_r_7.keep K39
  replace F_r_7_coder := F_r_7_coder.keep K39 (ninS ne_r_7_a31 nin0)
  replace F_r_7_value := F_r_7_value.keep K39 (ninS ne_r_7_a31 nin0)
  replace A_t_8 := A_t_8.keep K39 (ninS ne_t_8_a31 nin0)
  replace E_r_20 := E_r_20.keep K39
  replace F_r_20_coder := F_r_20_coder.keep K39 (ninS ne_r_20_a31 nin0)
  replace F_r_20_value := F_r_20_value.keep K39 (ninS ne_r_20_a31 nin0)
  replace A_t_21 := A_t_21.keep K39 (ninS ne_t_21_a31 nin0)
  replace K := K.trans K39 (allS (P := fun x => x ∈ ([] : List Addr) ∨ h0.size ≤ x) (Or.inr nw_a31) all0)
  have E_a31 := nw_E_a31; clear nw_E_a31
  have F_a31_home := nw_F_a31_home; clear nw_F_a31_home
  show own_Go Z EL n0 p e below s _ _ _ (T33.setTop (mkF m 52 #[.val (.int i0), .val (.int i1), .val (.int i2), .val (.int i3), .val (.int i4), .val (.int (i0 &&& (3 : Int32))), .val (.int ((XT.ushr i0 (2 : Int32)) &&& (3 : Int32))), .val (.ref r_7), .val (.ref r_20), .unset, .unset] [(.ref a31)]))
  refine own_astore (pc' := 54) w34 own_d6_52 rfl (Ls' := #[.val (.int i0), .val (.int i1), .val (.int i2), .val (.int i3), .val (.int i4), .val (.int (i0 &&& (3 : Int32))), .val (.int ((XT.ushr i0 (2 : Int32)) &&& (3 : Int32))), .val (.ref r_7), .val (.ref r_20), .val (.ref a31), .unset]) rfl rfl ?_
  refine own_aload (pc' := 56) w34 own_d6_54 rfl rfl rfl ?_
  refine own_callV (pc' := 59) w34 (hw _ (List.mem_of_getElem? (i := 42) rfl)) (hw _ (List.mem_of_getElem? (i := 43) rfl)) (fun s' hZ' => notFace_of_selects (args := #[]) (mvT hZ' (hw _ (List.mem_of_getElem? (i := 45) rfl)))) (hw _ (List.mem_of_getElem? (i := 45) rfl)) (hw _ (List.mem_of_getElem? (i := 44) rfl)) (hw _ (List.mem_of_getElem? (i := 28) rfl)) (hw _ (List.mem_of_getElem? (i := 46) rfl)) (by decide) E_a31 (own_ct_shared l Z a0 hw EL hE n0 [] h35 (own_old w34) a31 r_7 t_8 kb_9 N_10 vs_11 cs_12 F_a31_home E_r_7 F_r_7_coder F_r_7_value A_t_8 (p17_mk_1) (p17_mk_2) (p17_mk_3)) all0 (argsL := []) (rest := []) rfl rfl own_pd3 rfl own_d6_56 rfl (by decide) (W := 0) rfl (by decide) (by decide) (by decide) fun T40 h42 v43 ms44 w41 q45 => ?_
  obtain ⟨rfl, rfl, rfl⟩ := q45
  show own_Go Z EL n0 p e below s _ _ _ (T40.setTop (mkF m 59 #[.val (.int i0), .val (.int i1), .val (.int i2), .val (.int i3), .val (.int i4), .val (.int (i0 &&& (3 : Int32))), .val (.int ((XT.ushr i0 (2 : Int32)) &&& (3 : Int32))), .val (.ref r_7), .val (.ref r_20), .val (.ref a31), .unset] [(.int (if List.length cs_12 = 0 then 0 else 1))]))
  refine own_istore (pc' := 61) w41 own_d6_59 (Ls' := #[.val (.int i0), .val (.int i1), .val (.int i2), .val (.int i3), .val (.int i4), .val (.int (i0 &&& (3 : Int32))), .val (.int ((XT.ushr i0 (2 : Int32)) &&& (3 : Int32))), .val (.ref r_7), .val (.ref r_20), .val (.ref a31), .val (.int (if List.length cs_12 = 0 then 0 else 1))]) rfl rfl ?_
  refine own_iload (pc' := 63) w41 own_d6_61 rfl rfl ?_
  refine own_iload (pc' := 65) w41 own_d6_63 rfl rfl ?_
  refine own_if (pc' := 68) w41 own_d6_65 rfl (by decide) (pcY := 72) rfl (fun (hb65 : (i0 &&& (3 : Int32)) = (0 : Int32)) => ?_) (fun (hb65 : ¬ (i0 &&& (3 : Int32)) = (0 : Int32)) => ?_)
  · -- t
    refine own_iconst (pc' := 73) w41 own_d6_72 (x := (0 : Int32)) rfl rfl ?_
    refine own_icmp (pc' := 76) w41 own_d6_73 rfl (by decide) (pcY := 80) rfl (fun (hb73 : ¬ (if List.length cs_12 = 0 then 0 else 1) = (0 : Int32)) => absurd (by rw [own_sh _ _ p17_mk_4]; simp [hb65]) hb73) (fun (hb73 : (if List.length cs_12 = 0 then 0 else 1) = (0 : Int32)) => ?_)
    refine own_iconst (pc' := 77) w41 own_d6_76 (x := (1 : Int32)) rfl rfl ?_
    refine own_goto w41 own_d6_77 (by decide) (pc' := 81) rfl ?_
    exact own_retV w41 (t := .boolean) rfl rfl (Or.inl ⟨rfl, by simp, _, rfl⟩) own_d6_81 (by decide) (by decide) (ms' := []) all0 ⟨K, rfl, rfl⟩
  · -- f
    refine own_iconst (pc' := 69) w41 own_d6_68 (x := (1 : Int32)) rfl rfl ?_
    refine own_goto w41 own_d6_69 (by decide) (pc' := 73) rfl ?_
    refine own_icmp (pc' := 76) w41 own_d6_73 rfl (by decide) (pcY := 80) rfl (fun (hb73 : ¬ (if List.length cs_12 = 0 then 0 else 1) = (1 : Int32)) => absurd (by rw [own_sh _ _ p17_mk_4]; simp [hb65]) hb73) (fun (hb73 : (if List.length cs_12 = 0 then 0 else 1) = (1 : Int32)) => ?_)
    refine own_iconst (pc' := 77) w41 own_d6_76 (x := (1 : Int32)) rfl rfl ?_
    refine own_goto w41 own_d6_77 (by decide) (pc' := 81) rfl ?_
    exact own_retV w41 (t := .boolean) rfl rfl (Or.inl ⟨rfl, by simp, _, rfl⟩) own_d6_81 (by decide) (by decide) (ms' := []) all0 ⟨K, rfl, rfl⟩
set_option maxRecDepth 65536 in
set_option maxHeartbeats 40000000 in
theorem comes_1 {Post : Tables → Env → Array Value → State → Outcome → State → Prop} (hpost : ∀ tb e args s v u, (limb_1_1.after args s (.returned v) u = true ∧ limb_1_2.after args s (.returned v) u = true ∧ True) → ReturnedEndW s (.returned v) u (Jvm.fieldLocs frame_1_writes args s ++ Jvm.arrayLocs frame_1_arrays args s ++ Jvm.staticLocs frame_1_statics s) 24 1152 → Post tb e args s (.returned v) u) :
    ArmFor flags0 classFile x code maxLocals ret World_1 tables_1 room_1 Calls_1 rest_1 Pre_1 Post := by
  intro l hfl _ _ p e ha hc hk s m args below hf hA hF happ hP
  obtain ⟨hcalls, hrest, hpre⟩ := hP
  obtain ⟨-, -, -, hnamed, -, -, -, hat⟩ := (Spec.applies_iff hf).mp happ
  obtain ⟨hg, hn⟩ := and_e (Cond.before_iff.mp (show (Jvm.Cond.and given_1 narrow_1).before args s = true from hpre))
  obtain ⟨hct, hg⟩ := and_e hg
  obtain ⟨w0, w1, w2, w3, w4, rfl⟩ : ∃ w0 w1 w2 w3 w4 : Value, args = #[w0, w1, w2, w3, w4] := by
    have hs : args.size = 5 := by simpa [Cond.value, given_1] using hct
    obtain ⟨L⟩ := args
    match L, hs with
    | [w0, w1, w2, w3, w4], _ => exact ⟨w0, w1, w2, w3, w4, rfl⟩
  have hw := fun d (hd : d ∈ tables_1) => atoms_spec (ws := Jvm.Cond.code x code maxLocals ret :: tables_1) hat d (List.mem_cons_of_mem _ hd)
  have hfit : Fit s := fun {y c} hc i hi => by
    obtain ⟨ha, rfl⟩ := Array.getElem?_eq_some_iff.mp hc
    have q := List.all_eq_true.mp ((Array.all_eq_true_iff_forall_mem.mp hF) _ (Array.getElem_mem ha)) i (List.mem_range.mpr hi)
    simpa [Array.getElem?_eq_getElem hi] using q
  obtain ⟨hg0, hg⟩ := and_e hg
  obtain ⟨i0, e0⟩ := is_v hg0
  obtain rfl : w0 = (.int i0) := Option.some.inj e0
  obtain ⟨hg1, hg⟩ := and_e hg
  obtain ⟨i1, e1⟩ := is_v hg1
  obtain rfl : w1 = (.int i1) := Option.some.inj e1
  obtain ⟨hg2, hg⟩ := and_e hg
  obtain ⟨i2, e2⟩ := is_v hg2
  obtain rfl : w2 = (.int i2) := Option.some.inj e2
  obtain ⟨hg3, hg⟩ := and_e hg
  obtain ⟨i3, e3⟩ := is_v hg3
  obtain rfl : w3 = (.int i3) := Option.some.inj e3
  obtain ⟨i4, e4⟩ := is_v hg
  obtain rfl : w4 = (.int i4) := Option.some.inj e4
  obtain ⟨hsets, hown0⟩ := atoms_of _ (rest_1_c_eq ▸ (show rest_1_c.before _ s = true from hrest))
  have n3 := not_v (Cond.before_iff.mp (hsets _ (List.mem_of_getElem? (i := 2) rfl)))
  obtain ⟨z5, e6⟩ := is_v (Cond.before_iff.mp (hsets _ (List.mem_of_getElem? (i := 1) rfl)))
  have S8c : Sta s s.heap "java/lang/String" "COMPACT_STRINGS" "Z" (.int z5) := Sta.start e6 (Or.inl (hsets _ (List.mem_of_getElem? (i := 0) rfl)))
  have P5 : ¬ (z5 = (0 : Int32)) := gotF (Cond.eq_ints e6 (Term.int_eval (0))) n3
  have hE : EW s _ ([("java/lang/String", 7)] : List (String × Nat)) := (EW.cons (hw _ (List.mem_of_getElem? (i := 18) rfl)) (by decide +kernel) EW.nil)
  have hC : CHv s ([("java/lang/String", 7)] : List (String × Nat)) s.vm s.heap := CHv.start hE (fun p hp => hcalls.1 p hp) (hsets _ (List.mem_of_getElem? (i := 2) rfl)) (hw _ (List.mem_of_getElem? (i := 19) rfl)) (hw _ (List.mem_of_getElem? (i := 5) rfl))
  obtain ⟨n, o, h1, h2, h3, _, L, ms, rfl, q, N, -, -, -, hq⟩ := own_ct_law l s _ hw _ hE s.heap.size tables_1 s.heap (Old.start s) i0 i1 i2 i3 i4 z5 S8c P5 (by decide) p e ha hc hk s m _ below hf ((Spec.applies_iff_loose hf).mp happ).1 ⟨rfl, State.Warmed39.refl s, rfl, hC, fun _ q => nomatch q⟩ trivial
  obtain ⟨-, -, rfl⟩ := q
  refine ⟨n, _, h1, h2, h3, hpost _ _ _ _ _ _ ⟨Cond.after_iff.mpr rfl, Cond.after_iff.mpr (eq_i res_at (Term.int_eval (1)) rfl), trivial⟩ ⟨hq.1, hq.2.1, hq.2.2.1, (hq.2.2.2.sift fun y hy => Or.inr (N y hy)).mono (by decide) (by decide)⟩⟩
theorem main_1_1 : Claimed_1_1 := comes_1 fun _ _ _ _ _ _ h hF => ⟨h.1, hF⟩
theorem main_1_2 : Claimed_1_2 := comes_1 fun _ _ _ _ _ _ h hF => ⟨h.2.1, hF⟩
end Jvm.Pilot.@@N@@
namespace Jvm.Pilot.@@N@@
open Jvm Jvm.ClassFile Sem Op Lib Jvm.Free Jvm.Stand Jvm.Pilot.@@N@@.Jvm.D
/-! MADE BY PROGRAM (witnessworld.py) out of the Statement's table words and the real class files: 21 classes; the members and pool entries that the words name. The judged class is class 1, her method 2. -/
namespace start1
open Jvm.ClassFile
def u (s : String) : CpInfo := .utf8 (stringToUtf16 s)
/-- a pool by its gaps: so many unusable entries, then the entry; so many at the end -/
def gap : Nat → List CpInfo → List CpInfo
  | 0, r => r
  | n + 1, r => .unusable :: gap n r
def poolList (es : List (Nat × CpInfo)) (last : Nat) : List CpInfo := es.foldr (fun e r => gap e.1 (e.2 :: r)) (gap last [])
def pool (es : List (Nat × CpInfo)) (last : Nat) : Array CpInfo := ⟨poolList es last⟩
def fileOf (pool : Array CpInfo) (this : Nat) (attrs : Array Attribute := #[]) (ms : Array MethodInfo := #[]) (fl : Nat := 33) (sup : Nat := 0) (ifs : Array Nat := #[]) (fds : Array FieldInfo := #[]) : ClassFile where
  minorVersion := 0
  majorVersion := 65
  constantPool := pool
  accessFlags := fl
  thisClass := this
  superClass := sup
  interfaces := ifs
  fields := fds
  methods := ms
  attributes := attrs
def plain (name : String) (sup : Option ClassId) : Class where
  name := name
  kind := .ordinary
  loader := none
  accessFlags := 33
  super := sup
  interfaces := #[]
  cf := none
  fields := #[]
  methods := #[]
  instanceTypes := #[]
  staticTypes := #[]
  resolved := #[]
  callSites := []
  init := .initialized
  statics := none
  mirror := none

def pool0 : Array CpInfo := pool [(5, u "<init>"), (0, u "()V"), (1, .class_ 10), (1, u "java/lang/Object")] 113

def k0c0 : Code := { maxStack := 0, maxLocals := 1, code := object_method_1_code, exceptionTable := #[], attributes := #[] }
def k0m0 : Method := { name := "<init>", desc := "()V", sig := { parameters := [], returnType := none }, accessFlags := 1, code := some k0c0 }
/-- java/lang/Object -/
def k0 : Class := { plain "java/lang/Object" none with
  accessFlags := 33
  interfaces := #[]
  cf := some (fileOf pool0 8 #[] #[{ accessFlags := 1, nameIndex := 5, descriptorIndex := 6, attributes := #[] }] 33 0 #[] #[])
  fields := #[]
  methods := #[k0m0]
  instanceTypes := #[]
  staticTypes := #[]
  resolved := Array.replicate 124 none
  statics := none }

def pool1 : Array CpInfo := pool [(2, .class_ 4), (1, u "java/lang/Object"), (0, u "<init>"), (0, u "()V"), (0, .class_ 8), (0, u "java/lang/String"), (0, .methodref 7 10), (0, .nameAndType 5 11), (0, u "([C)V"), (0, .methodref 13 14), (0, .class_ 15), (0, .nameAndType 16 17), (0, u "com/example/vidura/vidura/MailboxSharedPinLaw"), (0, u "mk"), (0, u "(IIII)Ljava/lang/String;"), (0, .class_ 19), (0, u "com/example/vidura/vidura/Mailbox"), (0, .methodref 18 21), (0, .nameAndType 5 22), (0, u "(Ljava/lang/String;Ljava/lang/String;)V"), (0, .methodref 18 24), (0, .nameAndType 25 26), (0, u "shared"), (0, u "()Z"), (3, u "law"), (0, u "(IIIII)Z")] 2

def k1m0 : Method := { name := "<init>", desc := "()V", sig := { parameters := [], returnType := none }, accessFlags := 1, code := none }
def k1c1 : Code := { maxStack := 6, maxLocals := 7, code := method_2_code, exceptionTable := #[], attributes := #[] }
def k1m1 : Method := { name := "mk", desc := "(IIII)Ljava/lang/String;", sig := { parameters := [.int, .int, .int, .int], returnType := some (.object "java/lang/String") }, accessFlags := 10, code := some k1c1 }
def k1c2 : Code := { maxStack := 5, maxLocals := 11, code := code, exceptionTable := #[], attributes := #[] }
def k1m2 : Method := { name := "law", desc := "(IIIII)Z", sig := { parameters := [.int, .int, .int, .int, .int], returnType := some .boolean }, accessFlags := 9, code := some k1c2 }
/-- com/example/vidura/vidura/MailboxSharedPinLaw -/
def k1 : Class := { plain "com/example/vidura/vidura/MailboxSharedPinLaw" (some 0) with
  accessFlags := 49
  interfaces := #[]
  cf := some (fileOf pool1 13 #[] #[{ accessFlags := 1, nameIndex := 5, descriptorIndex := 6, attributes := #[] }, { accessFlags := 10, nameIndex := 16, descriptorIndex := 17, attributes := #[] }, { accessFlags := 9, nameIndex := 30, descriptorIndex := 31, attributes := #[] }] 49 2 #[] #[])
  fields := #[]
  methods := #[k1m0, k1m1, k1m2]
  instanceTypes := #[]
  staticTypes := #[]
  resolved := Array.replicate 34 none
  statics := none }

def pool2 : Array CpInfo := pool [(1, .class_ 2), (0, u "java/io/Serializable"), (0, .class_ 4), (0, u "java/lang/Object")] 2

/-- java/io/Serializable -/
def k2 : Class := { plain "java/io/Serializable" (some 0) with
  accessFlags := 1537
  interfaces := #[]
  cf := some (fileOf pool2 1 #[] #[] 1537 3 #[] #[])
  fields := #[]
  methods := #[]
  instanceTypes := #[]
  staticTypes := #[]
  resolved := Array.replicate 7 none
  statics := none }

def pool3 : Array CpInfo := pool [(1, .class_ 2), (0, u "java/lang/Comparable"), (0, .class_ 4), (0, u "java/lang/Object")] 7

/-- java/lang/Comparable -/
def k3 : Class := { plain "java/lang/Comparable" (some 0) with
  accessFlags := 1537
  interfaces := #[]
  cf := some (fileOf pool3 1 #[] #[] 1537 3 #[] #[])
  fields := #[]
  methods := #[]
  instanceTypes := #[]
  staticTypes := #[]
  resolved := Array.replicate 12 none
  statics := none }

def pool4 : Array CpInfo := pool [(2, .class_ 4), (1, u "java/lang/CharSequence"), (42, .class_ 48), (0, u "java/lang/CharSequence$1CodePointIterator"), (10, .class_ 60), (0, u "java/lang/CharSequence$1CharIterator"), (5, .class_ 67), (0, u "java/lang/Object")] 63

/-- java/lang/CharSequence -/
def k4 : Class := { plain "java/lang/CharSequence" (some 0) with
  accessFlags := 1537
  interfaces := #[]
  cf := some (fileOf pool4 2 #[.nestMembers #[47, 59]] #[] 1537 66 #[] #[])
  fields := #[]
  methods := #[]
  instanceTypes := #[]
  staticTypes := #[]
  resolved := Array.replicate 131 none
  statics := none }

def pool5 : Array CpInfo := pool [(1, .class_ 2), (0, u "java/lang/constant/Constable"), (0, .class_ 4), (0, u "java/lang/Object")] 6

/-- java/lang/constant/Constable -/
def k5 : Class := { plain "java/lang/constant/Constable" (some 0) with
  accessFlags := 1537
  interfaces := #[]
  cf := some (fileOf pool5 1 #[] #[] 1537 3 #[] #[])
  fields := #[]
  methods := #[]
  instanceTypes := #[]
  staticTypes := #[]
  resolved := Array.replicate 11 none
  statics := none }

def pool6 : Array CpInfo := pool [(1, .class_ 2), (0, u "java/lang/constant/ConstantDesc"), (0, .class_ 4), (0, u "java/lang/Object")] 32

/-- java/lang/constant/ConstantDesc -/
def k6 : Class := { plain "java/lang/constant/ConstantDesc" (some 0) with
  accessFlags := 1537
  interfaces := #[]
  cf := some (fileOf pool6 1 #[] #[] 1537 3 #[] #[])
  fields := #[]
  methods := #[]
  instanceTypes := #[]
  staticTypes := #[]
  resolved := Array.replicate 37 none
  statics := none }

def pool7 : Array CpInfo := pool [(1, .methodref 2 3), (0, .class_ 4), (0, .nameAndType 5 6), (0, u "java/lang/Object"), (0, u "<init>"), (0, u "()V"), (0, .string 8), (0, u ""), (0, .fieldref 10 11), (0, .class_ 12), (0, .nameAndType 13 14), (0, u "java/lang/String"), (0, u "value"), (0, u "[B"), (0, .fieldref 10 16), (0, .nameAndType 17 18), (0, u "coder"), (0, u "B"), (2, u "hash"), (0, u "I"), (2, u "hashIsZero"), (0, u "Z"), (0, .methodref 10 28), (0, .nameAndType 5 29), (0, u "([CIILjava/lang/Void;)V"), (8, .fieldref 10 39), (0, .nameAndType 40 26), (0, u "COMPACT_STRINGS"), (1, .class_ 44), (1, u "java/lang/StringUTF16"), (0, u "compress"), (1, .methodref 42 48), (0, .nameAndType 49 50), (0, u "coderFromArrayLen"), (0, u "([BI)B"), (91, u "()Z"), (34, .methodref 42 178), (0, .nameAndType 45 179), (0, u "([CII)[B"), (395, .class_ 576), (0, u "java/lang/CharSequence"), (22, u "CASE_INSENSITIVE_ORDER"), (0, u "Ljava/util/Comparator;"), (91, u "isEmpty"), (317, u "([C)V"), (90, u "serialPersistentFields"), (0, u "[Ljava/io/ObjectStreamField;"), (0, .class_ 1104), (0, u "java/lang/String$CaseInsensitiveComparator"), (1, .class_ 1107), (0, u "java/io/Serializable"), (0, .class_ 1109), (0, u "java/lang/Comparable"), (0, .class_ 1111), (0, u "java/lang/constant/Constable"), (0, .class_ 1113), (0, u "java/lang/constant/ConstantDesc"), (2, u "serialVersionUID"), (0, u "J"), (3, u "REPL"), (0, u "C"), (2, u "LATIN1"), (1, u "UTF16")] 323

def k7m0 : Method := { name := "<init>", desc := "()V", sig := { parameters := [], returnType := none }, accessFlags := 1, code := none }
def k7c1 : Code := { maxStack := 5, maxLocals := 2, code := jdk_42_method_3_code, exceptionTable := #[], attributes := #[] }
def k7m1 : Method := { name := "<init>", desc := "([C)V", sig := { parameters := [(.array .char)], returnType := none }, accessFlags := 1, code := some k7c1 }
def k7c2 : Code := { maxStack := 1, maxLocals := 1, code := jdk_42_method_55_code, exceptionTable := #[], attributes := #[] }
def k7m2 : Method := { name := "isEmpty", desc := "()Z", sig := { parameters := [], returnType := some .boolean }, accessFlags := 1, code := some k7c2 }
def k7c3 : Code := { maxStack := 4, maxLocals := 6, code := jdk_42_method_149_code, exceptionTable := #[], attributes := #[] }
def k7m3 : Method := { name := "<init>", desc := "([CIILjava/lang/Void;)V", sig := { parameters := [(.array .char), .int, .int, (.object "java/lang/Void")], returnType := none }, accessFlags := 2, code := some k7c3 }
/-- java/lang/String -/
def k7 : Class := { plain "java/lang/String" (some 0) with
  accessFlags := 49
  interfaces := #[2, 3, 4, 5, 6]
  cf := some (fileOf pool7 10 #[.nestMembers #[1103]] #[{ accessFlags := 1, nameIndex := 5, descriptorIndex := 6, attributes := #[] }, { accessFlags := 1, nameIndex := 5, descriptorIndex := 1010, attributes := #[] }, { accessFlags := 1, nameIndex := 692, descriptorIndex := 142, attributes := #[] }, { accessFlags := 2, nameIndex := 5, descriptorIndex := 29, attributes := #[] }] 49 2 #[1106, 1108, 575, 1110, 1112] #[{ accessFlags := 18, nameIndex := 13, descriptorIndex := 14, attributes := #[] }, { accessFlags := 18, nameIndex := 17, descriptorIndex := 18, attributes := #[] }, { accessFlags := 2, nameIndex := 21, descriptorIndex := 22, attributes := #[] }, { accessFlags := 2, nameIndex := 25, descriptorIndex := 26, attributes := #[] }, { accessFlags := 26, nameIndex := 1116, descriptorIndex := 1117, attributes := #[] }, { accessFlags := 24, nameIndex := 40, descriptorIndex := 26, attributes := #[] }, { accessFlags := 26, nameIndex := 1101, descriptorIndex := 1102, attributes := #[] }, { accessFlags := 26, nameIndex := 1121, descriptorIndex := 1122, attributes := #[] }, { accessFlags := 25, nameIndex := 599, descriptorIndex := 600, attributes := #[] }, { accessFlags := 24, nameIndex := 1125, descriptorIndex := 18, attributes := #[] }, { accessFlags := 24, nameIndex := 1127, descriptorIndex := 18, attributes := #[] }])
  fields := #[{ name := "value", type := (.array .byte), accessFlags := 18, slot := 0, constantValue := 0 }, { name := "coder", type := .byte, accessFlags := 18, slot := 1, constantValue := 0 }, { name := "hash", type := .int, accessFlags := 2, slot := 2, constantValue := 0 }, { name := "hashIsZero", type := .boolean, accessFlags := 2, slot := 3, constantValue := 0 }, { name := "serialVersionUID", type := .long, accessFlags := 26, slot := 0, constantValue := 0 }, { name := "COMPACT_STRINGS", type := .boolean, accessFlags := 24, slot := 1, constantValue := 0 }, { name := "serialPersistentFields", type := (.array (.object "java/io/ObjectStreamField")), accessFlags := 26, slot := 2, constantValue := 0 }, { name := "REPL", type := .char, accessFlags := 26, slot := 3, constantValue := 0 }, { name := "CASE_INSENSITIVE_ORDER", type := (.object "java/util/Comparator"), accessFlags := 25, slot := 4, constantValue := 0 }, { name := "LATIN1", type := .byte, accessFlags := 24, slot := 5, constantValue := 0 }, { name := "UTF16", type := .byte, accessFlags := 24, slot := 6, constantValue := 0 }]
  methods := #[k7m0, k7m1, k7m2, k7m3]
  instanceTypes := #[(.array .byte), .byte, .int, .boolean]
  staticTypes := #[.long, .boolean, (.array (.object "java/io/ObjectStreamField")), .char, (.object "java/util/Comparator"), .byte, .byte]
  resolved := Array.replicate 1451 none
  statics := some 0 }

def pool8 : Array CpInfo := pool [(1, .methodref 2 3), (0, .class_ 4), (0, .nameAndType 5 6), (0, u "java/lang/Object"), (0, u "<init>"), (0, u "()V"), (0, .class_ 8), (0, u "java/lang/Record")] 13

def k8c0 : Code := { maxStack := 1, maxLocals := 1, code := jdk_30_method_1_code, exceptionTable := #[], attributes := #[] }
def k8m0 : Method := { name := "<init>", desc := "()V", sig := { parameters := [], returnType := none }, accessFlags := 4, code := some k8c0 }
/-- java/lang/Record -/
def k8 : Class := { plain "java/lang/Record" (some 0) with
  accessFlags := 1057
  interfaces := #[]
  cf := some (fileOf pool8 7 #[] #[{ accessFlags := 4, nameIndex := 5, descriptorIndex := 6, attributes := #[] }] 1057 2 #[] #[])
  fields := #[]
  methods := #[k8m0]
  instanceTypes := #[]
  staticTypes := #[]
  resolved := Array.replicate 22 none
  statics := none }

def pool9 : Array CpInfo := pool [(1, .methodref 2 3), (0, .class_ 4), (0, .nameAndType 5 6), (0, u "java/lang/Record"), (0, u "<init>"), (0, u "()V"), (0, .fieldref 8 9), (0, .class_ 10), (0, .nameAndType 11 12), (0, u "com/example/vidura/vidura/Mailbox"), (0, u "address"), (0, u "Ljava/lang/String;"), (0, .fieldref 8 14), (0, .nameAndType 15 12), (0, u "home"), (9, u "(Ljava/lang/String;Ljava/lang/String;)V"), (8, .class_ 36), (1, u "java/lang/String"), (6, .methodref 34 44), (0, .nameAndType 45 46), (0, u "isEmpty"), (0, u "()Z"), (15, u "INBOX"), (3, u "SENT"), (2, u "WRITE"), (9, u "shared")] 35

def k9c0 : Code := { maxStack := 2, maxLocals := 3, code := prog_9_method_1_code, exceptionTable := #[], attributes := #[] }
def k9m0 : Method := { name := "<init>", desc := "(Ljava/lang/String;Ljava/lang/String;)V", sig := { parameters := [(.object "java/lang/String"), (.object "java/lang/String")], returnType := none }, accessFlags := 0, code := some k9c0 }
def k9c1 : Code := { maxStack := 1, maxLocals := 1, code := prog_9_method_4_code, exceptionTable := #[], attributes := #[] }
def k9m1 : Method := { name := "shared", desc := "()Z", sig := { parameters := [], returnType := some .boolean }, accessFlags := 0, code := some k9c1 }
/-- com/example/vidura/vidura/Mailbox -/
def k9 : Class := { plain "com/example/vidura/vidura/Mailbox" (some 8) with
  accessFlags := 48
  interfaces := #[]
  cf := some (fileOf pool9 8 #[] #[{ accessFlags := 0, nameIndex := 5, descriptorIndex := 25, attributes := #[] }, { accessFlags := 0, nameIndex := 79, descriptorIndex := 46, attributes := #[] }] 48 2 #[] #[{ accessFlags := 18, nameIndex := 11, descriptorIndex := 12, attributes := #[] }, { accessFlags := 18, nameIndex := 15, descriptorIndex := 12, attributes := #[] }, { accessFlags := 24, nameIndex := 62, descriptorIndex := 12, attributes := #[] }, { accessFlags := 24, nameIndex := 66, descriptorIndex := 12, attributes := #[] }, { accessFlags := 24, nameIndex := 69, descriptorIndex := 12, attributes := #[] }])
  fields := #[{ name := "address", type := (.object "java/lang/String"), accessFlags := 18, slot := 0, constantValue := 0 }, { name := "home", type := (.object "java/lang/String"), accessFlags := 18, slot := 1, constantValue := 0 }, { name := "INBOX", type := (.object "java/lang/String"), accessFlags := 24, slot := 0, constantValue := 0 }, { name := "SENT", type := (.object "java/lang/String"), accessFlags := 24, slot := 1, constantValue := 0 }, { name := "WRITE", type := (.object "java/lang/String"), accessFlags := 24, slot := 2, constantValue := 0 }]
  methods := #[k9m0, k9m1]
  instanceTypes := #[(.object "java/lang/String"), (.object "java/lang/String")]
  staticTypes := #[(.object "java/lang/String"), (.object "java/lang/String"), (.object "java/lang/String")]
  resolved := Array.replicate 115 none
  statics := none }

def pool10 : Array CpInfo := pool [(6, .class_ 8), (1, u "java/lang/Object"), (0, u "<init>"), (0, u "()V"), (1, .class_ 14), (1, u "java/lang/StringUTF16"), (31, u "$assertionsDisabled"), (0, u "Z"), (13, u "HI_BYTE_SHIFT"), (0, u "I"), (2, u "LO_BYTE_SHIFT"), (49, .methodref 12 116), (0, .nameAndType 117 118), (0, u "compress"), (0, u "([CI[BII)I"), (3, u "([CII)[B"), (138, u "coderFromArrayLen"), (0, u "([BI)B"), (106, .class_ 371), (1, u "java/lang/StringUTF16$LinesSpliterator"), (58, u "MAX_LENGTH"), (196, .class_ 628), (0, u "java/lang/StringUTF16$CodePointsSpliterator"), (0, .class_ 630), (0, u "java/lang/StringUTF16$CharsSpliterator")] 4

def k10m0 : Method := { name := "<init>", desc := "()V", sig := { parameters := [], returnType := none }, accessFlags := 0, code := none }
def k10c1 : Code := { maxStack := 2, maxLocals := 2, code := jdk_52_method_15_code, exceptionTable := #[], attributes := #[] }
def k10m1 : Method := { name := "coderFromArrayLen", desc := "([BI)B", sig := { parameters := [(.array .byte), .int], returnType := some .byte }, accessFlags := 8, code := some k10c1 }
def k10c2 : Code := { maxStack := 5, maxLocals := 6, code := jdk_52_method_16_code, exceptionTable := #[], attributes := #[] }
def k10m2 : Method := { name := "compress", desc := "([CII)[B", sig := { parameters := [(.array .char), .int, .int], returnType := some (.array .byte) }, accessFlags := 9, code := some k10c2 }
def k10c3 : Code := { maxStack := 3, maxLocals := 7, code := jdk_52_method_21_code, exceptionTable := #[], attributes := #[] }
def k10m3 : Method := { name := "compress", desc := "([CI[BII)I", sig := { parameters := [(.array .char), .int, (.array .byte), .int, .int], returnType := some .int }, accessFlags := 9, code := some k10c3 }
/-- java/lang/StringUTF16 -/
def k10 : Class := { plain "java/lang/StringUTF16" (some 0) with
  accessFlags := 48
  interfaces := #[]
  cf := some (fileOf pool10 12 #[.nestMembers #[627, 629, 369]] #[{ accessFlags := 0, nameIndex := 9, descriptorIndex := 10, attributes := #[] }, { accessFlags := 8, nameIndex := 261, descriptorIndex := 262, attributes := #[] }, { accessFlags := 9, nameIndex := 117, descriptorIndex := 122, attributes := #[] }, { accessFlags := 9, nameIndex := 117, descriptorIndex := 118, attributes := #[] }] 48 6 #[] #[{ accessFlags := 26, nameIndex := 61, descriptorIndex := 62, attributes := #[] }, { accessFlags := 26, nameIndex := 65, descriptorIndex := 62, attributes := #[] }, { accessFlags := 24, nameIndex := 430, descriptorIndex := 62, attributes := #[] }, { accessFlags := 4120, nameIndex := 46, descriptorIndex := 47, attributes := #[] }])
  fields := #[{ name := "HI_BYTE_SHIFT", type := .int, accessFlags := 26, slot := 0, constantValue := 0 }, { name := "LO_BYTE_SHIFT", type := .int, accessFlags := 26, slot := 1, constantValue := 0 }, { name := "MAX_LENGTH", type := .int, accessFlags := 24, slot := 2, constantValue := 0 }, { name := "$assertionsDisabled", type := .boolean, accessFlags := 4120, slot := 3, constantValue := 0 }]
  methods := #[k10m0, k10m1, k10m2, k10m3]
  instanceTypes := #[]
  staticTypes := #[.int, .int, .int, .boolean]
  resolved := Array.replicate 635 none
  statics := none }

def pool11 : Array CpInfo := pool [(4, .class_ 6), (1, u "java/lang/Object"), (0, u "<init>"), (0, u "()V"), (5, .class_ 16), (1, u "java/lang/StringLatin1"), (104, u "$assertionsDisabled"), (0, u "Z"), (98, .class_ 223), (1, u "java/lang/StringLatin1$LinesSpliterator"), (166, .class_ 391), (0, u "java/lang/StringLatin1$CharsSpliterator")] 3

def k11m0 : Method := { name := "<init>", desc := "()V", sig := { parameters := [], returnType := none }, accessFlags := 0, code := none }
/-- java/lang/StringLatin1 -/
def k11 : Class := { plain "java/lang/StringLatin1" (some 0) with
  accessFlags := 48
  interfaces := #[]
  cf := some (fileOf pool11 14 #[.nestMembers #[390, 221]] #[{ accessFlags := 0, nameIndex := 7, descriptorIndex := 8, attributes := #[] }] 48 4 #[] #[{ accessFlags := 4120, nameIndex := 121, descriptorIndex := 122, attributes := #[] }])
  fields := #[{ name := "$assertionsDisabled", type := .boolean, accessFlags := 4120, slot := 0, constantValue := 0 }]
  methods := #[k11m0]
  instanceTypes := #[]
  staticTypes := #[.boolean]
  resolved := Array.replicate 395 none
  statics := none }

def pool12 : Array CpInfo := pool [(2, .class_ 4), (1, u "java/lang/Object"), (0, u "<init>"), (0, u "()V"), (17, .class_ 26), (1, u "jdk/internal/util/Preconditions"), (28, .class_ 56), (0, u "jdk/internal/util/Preconditions$4"), (57, .class_ 115), (0, u "jdk/internal/util/Preconditions$1"), (7, u "SIOOBE_FORMATTER"), (0, u "Ljava/util/function/BiFunction;"), (0, .class_ 126), (0, u "jdk/internal/util/Preconditions$2"), (3, u "AIOOBE_FORMATTER"), (0, .class_ 132), (0, u "jdk/internal/util/Preconditions$3"), (3, u "IOOBE_FORMATTER")] 57

def k12m0 : Method := { name := "<init>", desc := "()V", sig := { parameters := [], returnType := none }, accessFlags := 1, code := none }
/-- jdk/internal/util/Preconditions -/
def k12 : Class := { plain "jdk/internal/util/Preconditions" (some 0) with
  accessFlags := 33
  interfaces := #[]
  cf := some (fileOf pool12 24 #[.nestMembers #[55, 131, 125, 114]] #[{ accessFlags := 1, nameIndex := 5, descriptorIndex := 6, attributes := #[] }] 33 2 #[] #[{ accessFlags := 25, nameIndex := 123, descriptorIndex := 124, attributes := #[] }, { accessFlags := 25, nameIndex := 130, descriptorIndex := 124, attributes := #[] }, { accessFlags := 25, nameIndex := 136, descriptorIndex := 124, attributes := #[] }])
  fields := #[{ name := "SIOOBE_FORMATTER", type := (.object "java/util/function/BiFunction"), accessFlags := 25, slot := 0, constantValue := 0 }, { name := "AIOOBE_FORMATTER", type := (.object "java/util/function/BiFunction"), accessFlags := 25, slot := 1, constantValue := 0 }, { name := "IOOBE_FORMATTER", type := (.object "java/util/function/BiFunction"), accessFlags := 25, slot := 2, constantValue := 0 }]
  methods := #[k12m0]
  instanceTypes := #[]
  staticTypes := #[(.object "java/util/function/BiFunction"), (.object "java/util/function/BiFunction"), (.object "java/util/function/BiFunction")]
  resolved := Array.replicate 194 none
  statics := some 1 }

def pool13 : Array CpInfo := pool [(9, u "<init>"), (6, .class_ 18), (1, u "java/lang/Object"), (0, u "()V"), (1, .class_ 23), (1, u "jdk/internal/util/ArraysSupport"), (0, u "LOG2_ARRAY_LONG_INDEX_SCALE"), (0, u "I"), (2, u "U"), (0, u "Ljdk/internal/misc/Unsafe;"), (8, u "BIG_ENDIAN"), (0, u "Z"), (8, u "LOG2_BYTE_BIT_SIZE"), (4, u "LOG2_ARRAY_INT_INDEX_SCALE"), (54, u "JLA"), (0, u "Ljdk/internal/access/JavaLangAccess;"), (11, u "LOG2_ARRAY_BOOLEAN_INDEX_SCALE"), (9, u "LOG2_ARRAY_BYTE_INDEX_SCALE"), (5, u "LOG2_ARRAY_CHAR_INDEX_SCALE"), (5, u "LOG2_ARRAY_SHORT_INDEX_SCALE"), (18, u "LOG2_ARRAY_FLOAT_INDEX_SCALE"), (24, u "LOG2_ARRAY_DOUBLE_INDEX_SCALE"), (89, u "T_BOOLEAN"), (2, u "T_CHAR"), (1, u "T_FLOAT"), (1, u "T_DOUBLE"), (1, u "T_BYTE"), (1, u "T_SHORT"), (1, u "T_INT"), (1, u "T_LONG"), (1, u "SOFT_MAX_ARRAY_LENGTH")] 83

def k13m0 : Method := { name := "<init>", desc := "()V", sig := { parameters := [], returnType := none }, accessFlags := 2, code := none }
/-- jdk/internal/util/ArraysSupport -/
def k13 : Class := { plain "jdk/internal/util/ArraysSupport" (some 0) with
  accessFlags := 33
  interfaces := #[]
  cf := some (fileOf pool13 21 #[] #[{ accessFlags := 2, nameIndex := 9, descriptorIndex := 19, attributes := #[] }] 33 16 #[] #[{ accessFlags := 24, nameIndex := 28, descriptorIndex := 29, attributes := #[] }, { accessFlags := 26, nameIndex := 38, descriptorIndex := 39, attributes := #[] }, { accessFlags := 25, nameIndex := 121, descriptorIndex := 25, attributes := #[] }, { accessFlags := 25, nameIndex := 131, descriptorIndex := 25, attributes := #[] }, { accessFlags := 25, nameIndex := 137, descriptorIndex := 25, attributes := #[] }, { accessFlags := 25, nameIndex := 143, descriptorIndex := 25, attributes := #[] }, { accessFlags := 25, nameIndex := 53, descriptorIndex := 25, attributes := #[] }, { accessFlags := 25, nameIndex := 24, descriptorIndex := 25, attributes := #[] }, { accessFlags := 25, nameIndex := 162, descriptorIndex := 25, attributes := #[] }, { accessFlags := 25, nameIndex := 187, descriptorIndex := 25, attributes := #[] }, { accessFlags := 26, nameIndex := 48, descriptorIndex := 25, attributes := #[] }, { accessFlags := 25, nameIndex := 277, descriptorIndex := 25, attributes := #[] }, { accessFlags := 25, nameIndex := 280, descriptorIndex := 25, attributes := #[] }, { accessFlags := 25, nameIndex := 282, descriptorIndex := 25, attributes := #[] }, { accessFlags := 25, nameIndex := 284, descriptorIndex := 25, attributes := #[] }, { accessFlags := 25, nameIndex := 286, descriptorIndex := 25, attributes := #[] }, { accessFlags := 25, nameIndex := 288, descriptorIndex := 25, attributes := #[] }, { accessFlags := 25, nameIndex := 290, descriptorIndex := 25, attributes := #[] }, { accessFlags := 25, nameIndex := 292, descriptorIndex := 25, attributes := #[] }, { accessFlags := 26, nameIndex := 108, descriptorIndex := 109, attributes := #[] }, { accessFlags := 25, nameIndex := 294, descriptorIndex := 25, attributes := #[] }])
  fields := #[{ name := "U", type := (.object "jdk/internal/misc/Unsafe"), accessFlags := 24, slot := 0, constantValue := 0 }, { name := "BIG_ENDIAN", type := .boolean, accessFlags := 26, slot := 1, constantValue := 0 }, { name := "LOG2_ARRAY_BOOLEAN_INDEX_SCALE", type := .int, accessFlags := 25, slot := 2, constantValue := 0 }, { name := "LOG2_ARRAY_BYTE_INDEX_SCALE", type := .int, accessFlags := 25, slot := 3, constantValue := 0 }, { name := "LOG2_ARRAY_CHAR_INDEX_SCALE", type := .int, accessFlags := 25, slot := 4, constantValue := 0 }, { name := "LOG2_ARRAY_SHORT_INDEX_SCALE", type := .int, accessFlags := 25, slot := 5, constantValue := 0 }, { name := "LOG2_ARRAY_INT_INDEX_SCALE", type := .int, accessFlags := 25, slot := 6, constantValue := 0 }, { name := "LOG2_ARRAY_LONG_INDEX_SCALE", type := .int, accessFlags := 25, slot := 7, constantValue := 0 }, { name := "LOG2_ARRAY_FLOAT_INDEX_SCALE", type := .int, accessFlags := 25, slot := 8, constantValue := 0 }, { name := "LOG2_ARRAY_DOUBLE_INDEX_SCALE", type := .int, accessFlags := 25, slot := 9, constantValue := 0 }, { name := "LOG2_BYTE_BIT_SIZE", type := .int, accessFlags := 26, slot := 10, constantValue := 0 }, { name := "T_BOOLEAN", type := .int, accessFlags := 25, slot := 11, constantValue := 0 }, { name := "T_CHAR", type := .int, accessFlags := 25, slot := 12, constantValue := 0 }, { name := "T_FLOAT", type := .int, accessFlags := 25, slot := 13, constantValue := 0 }, { name := "T_DOUBLE", type := .int, accessFlags := 25, slot := 14, constantValue := 0 }, { name := "T_BYTE", type := .int, accessFlags := 25, slot := 15, constantValue := 0 }, { name := "T_SHORT", type := .int, accessFlags := 25, slot := 16, constantValue := 0 }, { name := "T_INT", type := .int, accessFlags := 25, slot := 17, constantValue := 0 }, { name := "T_LONG", type := .int, accessFlags := 25, slot := 18, constantValue := 0 }, { name := "JLA", type := (.object "jdk/internal/access/JavaLangAccess"), accessFlags := 26, slot := 19, constantValue := 0 }, { name := "SOFT_MAX_ARRAY_LENGTH", type := .int, accessFlags := 25, slot := 20, constantValue := 0 }]
  methods := #[k13m0]
  instanceTypes := #[]
  staticTypes := #[(.object "jdk/internal/misc/Unsafe"), .boolean, .int, .int, .int, .int, .int, .int, .int, .int, .int, .int, .int, .int, .int, .int, .int, .int, .int, (.object "jdk/internal/access/JavaLangAccess"), .int]
  resolved := Array.replicate 378 none
  statics := none }

def pool14 : Array CpInfo := pool [(1, u "java/lang/Cloneable"), (0, .class_ 1), (0, u "java/lang/Object"), (0, .class_ 3)] 3

/-- java/lang/Cloneable -/
def k14 : Class := { plain "java/lang/Cloneable" (some 0) with
  accessFlags := 1537
  interfaces := #[]
  cf := some (fileOf pool14 2 #[] #[] 1537 4 #[] #[])
  fields := #[]
  methods := #[]
  instanceTypes := #[]
  staticTypes := #[]
  resolved := Array.replicate 8 none
  statics := none }

/-- the primitive byte -/
def k15 : Class := { plain "byte" none with kind := .primitive 'B', accessFlags := 0x411 }
/-- [B -/
def k16 : Class := { plain "[B" (some 0) with kind := .array 15 .byte, interfaces := #[14, 2], accessFlags := 1041 }

/-- the primitive char -/
def k17 : Class := { plain "char" none with kind := .primitive 'C', accessFlags := 0x411 }
/-- [C -/
def k18 : Class := { plain "[C" (some 0) with kind := .array 17 .char, interfaces := #[14, 2], accessFlags := 1041 }

/-- the primitive int -/
def k19 : Class := { plain "int" none with kind := .primitive 'I', accessFlags := 0x411 }
/-- [I -/
def k20 : Class := { plain "[I" (some 0) with kind := .array 19 .int, interfaces := #[14, 2], accessFlags := 1041 }

def heap : Heap := #[{ cls := 7, slots := #[.long 0, .int 1, .null, .int 0, .null, .int 0, .int 0], vm := .statics 7 },
  { cls := 12, slots := #[.null, .null, .null], vm := .statics 12 }]
def classes : Array Class := #[k0, k1, k2, k3, k4, k5, k6, k7, k8, k9, k10, k11, k12, k13, k14, k15, k16, k17, k18, k19, k20]
def interned : List (Array UInt16 × Addr) := []
def slotsUsed : Nat := 10
def theMethod : MethodId := ⟨1, 2⟩
def args0 : Array Value := #[.int 5, .int 65, .int 66, .int 67, .int 68]
def aboutOver (below : List Frame) : State where
  vm := { classes := classes, interned := interned.toArray }
  heap := heap
  slotsUsed := slotsUsed
  threads := #[{ frames := .invoking theMethod args0 :: below }]
def below0 : List Frame := [.native { method := ⟨0, 0⟩, args := #[] }]
def about1 : State := aboutOver below0
def p0 : Program := .bare "" "" ""
def e0 : Env := launch0.env 0 0 0
theorem w_frames : about1.frames = Frame.invoking theMethod args0 :: below0 := rfl
set_option maxRecDepth 65536 in
theorem w_args : argsFit about1.vm theMethod args0 = true := by decide +kernel
set_option maxRecDepth 65536 in
theorem w_heap : heapFits about1 = true := by decide +kernel
set_option maxRecDepth 65536 in
theorem w_runnable : about1.curStatus? = some .runnable := by decide +kernel
set_option maxRecDepth 65536 in
theorem w_alone : about1.alone = true := by decide +kernel
set_option maxRecDepth 65536 in
theorem w_named : about1.methodNamed? x = some theMethod := by decide +kernel
set_option maxRecDepth 65536 in
theorem w_hears : about1.hears theMethod below0 = true := by decide +kernel
set_option maxRecDepth 65536 in
theorem w_ripe : about1.ripe theMethod args0 below0 = true := by decide +kernel
theorem w_running : about1.status = .running := rfl
set_option maxRecDepth 65536 in
theorem w_room : about1.hasRoom e0.platform room_1 = true :=
  launch0.hasRoom_least _ room_1 (by decide +kernel) (by decide +kernel) (by decide +kernel) (by decide +kernel) (by decide +kernel) (by decide +kernel)
theorem allAtoms_all (ts : List Jvm.Cond) (a : Array Jvm.Value) (st : Jvm.State) : (allAtoms ts).before a st = ts.all (fun c => c.before a st) := by
  induction ts with
  | nil => rfl
  | cons c t ih =>
    show (Jvm.Cond.and c (allAtoms t)).before a st = _
    rw [Jvm.Cond.before_and, ih, List.all_cons]
def words1 : List Jvm.Cond := Jvm.Cond.code x code maxLocals ret :: tables_1
/-- a 'code' word, met by the world's own term for the bytes: nothing is compared byte by byte -/
theorem code_word {y : MethodName} {bytes : ByteArray} {mx : Nat} {rt : Option FieldType} {a : Array Value} {s : State} {m : MethodId} {meth : Method} {c : Code} (h1 : s.methodNamed? y = some m) (h2 : s.vm.method? m = some meth) (h3 : meth.code = some c) (h4 : c.code = bytes)
    (h5 : (c.maxLocals == mx && c.exceptionTable.isEmpty && decide (c.maxStack ≤ mostOperands) && decide (meth.sig.returnType = rt) && !meth.locks && decide (parseMethodDescriptor y.desc = some meth.sig)) = true) : (Jvm.Cond.code y bytes mx rt).before a s = true := by
  simp only [Bool.and_eq_true, beq_iff_eq, Bool.not_eq_true', decide_eq_true_eq] at h5
  obtain ⟨⟨⟨⟨⟨g1, g2⟩, g3⟩, g4⟩, g5⟩, g6⟩ := h5
  simp [Cond.before, Cond.holds, Cond.value, h1, h2, h3, h4, g1, g2, g3, g4, g5, g6]
def isCode : Jvm.Cond → Bool
  | .code _ _ _ _ => true
  | _ => false
theorem all_split {L : List Jvm.Cond} {P : Jvm.Cond → Bool} (h1 : L.all (fun c => isCode c || P c) = true) (h2 : ∀ c ∈ L.filter isCode, P c = true) : L.all P = true := by
  refine List.all_eq_true.mpr fun c hc => ?_
  have h := List.all_eq_true.mp h1 c hc
  rcases Bool.eq_false_or_eq_true (isCode c) with hi | hi
  · exact h2 c (List.mem_filter.mpr ⟨hc, hi⟩)
  · simpa [hi] using h
set_option maxRecDepth 65536 in
theorem w_c0 : (Jvm.Cond.code x code maxLocals ret).before args0 about1 = true := code_word (m := ⟨1, 2⟩) (meth := k1m2) (c := k1c2) (by decide +kernel) rfl rfl rfl (by decide +kernel)
set_option maxRecDepth 65536 in
theorem w_c1 : (Jvm.Cond.code ({ cls := "com/example/vidura/vidura/MailboxSharedPinLaw", name := "mk", desc := "(IIII)Ljava/lang/String;" } : Jvm.MethodName) method_2_code (7 : Nat) (Option.some (Jvm.ClassFile.FieldType.object "java/lang/String"))).before args0 about1 = true := code_word (m := ⟨1, 1⟩) (meth := k1m1) (c := k1c1) (by decide +kernel) rfl rfl rfl (by decide +kernel)
set_option maxRecDepth 65536 in
theorem w_c2 : (Jvm.Cond.code ({ cls := "java/lang/String", name := "<init>", desc := "([C)V" } : Jvm.MethodName) jdk_42_method_3_code (2 : Nat) (Option.none : Option Jvm.ClassFile.FieldType)).before args0 about1 = true := code_word (m := ⟨7, 1⟩) (meth := k7m1) (c := k7c1) (by decide +kernel) rfl rfl rfl (by decide +kernel)
set_option maxRecDepth 65536 in
theorem w_c3 : (Jvm.Cond.code ({ cls := "java/lang/String", name := "<init>", desc := "([CIILjava/lang/Void;)V" } : Jvm.MethodName) jdk_42_method_149_code (6 : Nat) (Option.none : Option Jvm.ClassFile.FieldType)).before args0 about1 = true := code_word (m := ⟨7, 3⟩) (meth := k7m3) (c := k7c3) (by decide +kernel) rfl rfl rfl (by decide +kernel)
set_option maxRecDepth 65536 in
theorem w_c4 : (Jvm.Cond.code ({ cls := "java/lang/Object", name := "<init>", desc := "()V" } : Jvm.MethodName) object_method_1_code (1 : Nat) (Option.none : Option Jvm.ClassFile.FieldType)).before args0 about1 = true := code_word (m := ⟨0, 0⟩) (meth := k0m0) (c := k0c0) (by decide +kernel) rfl rfl rfl (by decide +kernel)
set_option maxRecDepth 65536 in
theorem w_c5 : (Jvm.Cond.code ({ cls := "com/example/vidura/vidura/Mailbox", name := "<init>", desc := "(Ljava/lang/String;Ljava/lang/String;)V" } : Jvm.MethodName) prog_9_method_1_code (3 : Nat) (Option.none : Option Jvm.ClassFile.FieldType)).before args0 about1 = true := code_word (m := ⟨9, 0⟩) (meth := k9m0) (c := k9c0) (by decide +kernel) rfl rfl rfl (by decide +kernel)
set_option maxRecDepth 65536 in
theorem w_c6 : (Jvm.Cond.code ({ cls := "java/lang/Record", name := "<init>", desc := "()V" } : Jvm.MethodName) jdk_30_method_1_code (1 : Nat) (Option.none : Option Jvm.ClassFile.FieldType)).before args0 about1 = true := code_word (m := ⟨8, 0⟩) (meth := k8m0) (c := k8c0) (by decide +kernel) rfl rfl rfl (by decide +kernel)
set_option maxRecDepth 65536 in
theorem w_c7 : (Jvm.Cond.code ({ cls := "com/example/vidura/vidura/Mailbox", name := "shared", desc := "()Z" } : Jvm.MethodName) prog_9_method_4_code (1 : Nat) (Option.some Jvm.ClassFile.FieldType.boolean)).before args0 about1 = true := code_word (m := ⟨9, 1⟩) (meth := k9m1) (c := k9c1) (by decide +kernel) rfl rfl rfl (by decide +kernel)
set_option maxRecDepth 65536 in
theorem w_c8 : (Jvm.Cond.code ({ cls := "java/lang/String", name := "isEmpty", desc := "()Z" } : Jvm.MethodName) jdk_42_method_55_code (1 : Nat) (Option.some Jvm.ClassFile.FieldType.boolean)).before args0 about1 = true := code_word (m := ⟨7, 2⟩) (meth := k7m2) (c := k7c2) (by decide +kernel) rfl rfl rfl (by decide +kernel)
set_option maxRecDepth 65536 in
theorem w_c9 : (Jvm.Cond.code ({ cls := "java/lang/StringUTF16", name := "compress", desc := "([CII)[B" } : Jvm.MethodName) jdk_52_method_16_code (6 : Nat) (Option.some (Jvm.ClassFile.FieldType.array Jvm.ClassFile.FieldType.byte))).before args0 about1 = true := code_word (m := ⟨10, 2⟩) (meth := k10m2) (c := k10c2) (by decide +kernel) rfl rfl rfl (by decide +kernel)
set_option maxRecDepth 65536 in
theorem w_c10 : (Jvm.Cond.code ({ cls := "java/lang/StringUTF16", name := "compress", desc := "([CI[BII)I" } : Jvm.MethodName) jdk_52_method_21_code (7 : Nat) (Option.some Jvm.ClassFile.FieldType.int)).before args0 about1 = true := code_word (m := ⟨10, 3⟩) (meth := k10m3) (c := k10c3) (by decide +kernel) rfl rfl rfl (by decide +kernel)
set_option maxRecDepth 65536 in
theorem w_c11 : (Jvm.Cond.code ({ cls := "java/lang/StringUTF16", name := "coderFromArrayLen", desc := "([BI)B" } : Jvm.MethodName) jdk_52_method_15_code (2 : Nat) (Option.some Jvm.ClassFile.FieldType.byte)).before args0 about1 = true := code_word (m := ⟨10, 1⟩) (meth := k10m1) (c := k10c1) (by decide +kernel) rfl rfl rfl (by decide +kernel)
def codes1 : List Jvm.Cond := [Jvm.Cond.code x code maxLocals ret, Jvm.Cond.code ({ cls := "com/example/vidura/vidura/MailboxSharedPinLaw", name := "mk", desc := "(IIII)Ljava/lang/String;" } : Jvm.MethodName) method_2_code (7 : Nat) (Option.some (Jvm.ClassFile.FieldType.object "java/lang/String")), Jvm.Cond.code ({ cls := "java/lang/String", name := "<init>", desc := "([C)V" } : Jvm.MethodName) jdk_42_method_3_code (2 : Nat) (Option.none : Option Jvm.ClassFile.FieldType), Jvm.Cond.code ({ cls := "java/lang/String", name := "<init>", desc := "([CIILjava/lang/Void;)V" } : Jvm.MethodName) jdk_42_method_149_code (6 : Nat) (Option.none : Option Jvm.ClassFile.FieldType), Jvm.Cond.code ({ cls := "java/lang/Object", name := "<init>", desc := "()V" } : Jvm.MethodName) object_method_1_code (1 : Nat) (Option.none : Option Jvm.ClassFile.FieldType), Jvm.Cond.code ({ cls := "com/example/vidura/vidura/Mailbox", name := "<init>", desc := "(Ljava/lang/String;Ljava/lang/String;)V" } : Jvm.MethodName) prog_9_method_1_code (3 : Nat) (Option.none : Option Jvm.ClassFile.FieldType), Jvm.Cond.code ({ cls := "java/lang/Record", name := "<init>", desc := "()V" } : Jvm.MethodName) jdk_30_method_1_code (1 : Nat) (Option.none : Option Jvm.ClassFile.FieldType), Jvm.Cond.code ({ cls := "com/example/vidura/vidura/Mailbox", name := "shared", desc := "()Z" } : Jvm.MethodName) prog_9_method_4_code (1 : Nat) (Option.some Jvm.ClassFile.FieldType.boolean), Jvm.Cond.code ({ cls := "java/lang/String", name := "isEmpty", desc := "()Z" } : Jvm.MethodName) jdk_42_method_55_code (1 : Nat) (Option.some Jvm.ClassFile.FieldType.boolean), Jvm.Cond.code ({ cls := "java/lang/StringUTF16", name := "compress", desc := "([CII)[B" } : Jvm.MethodName) jdk_52_method_16_code (6 : Nat) (Option.some (Jvm.ClassFile.FieldType.array Jvm.ClassFile.FieldType.byte)), Jvm.Cond.code ({ cls := "java/lang/StringUTF16", name := "compress", desc := "([CI[BII)I" } : Jvm.MethodName) jdk_52_method_21_code (7 : Nat) (Option.some Jvm.ClassFile.FieldType.int), Jvm.Cond.code ({ cls := "java/lang/StringUTF16", name := "coderFromArrayLen", desc := "([BI)B" } : Jvm.MethodName) jdk_52_method_15_code (2 : Nat) (Option.some Jvm.ClassFile.FieldType.byte)]
set_option maxRecDepth 65536 in
theorem codes_eq : words1.filter isCode = codes1 := rfl
theorem w_codes : ∀ c ∈ words1.filter isCode, c.before args0 about1 = true := by
  rw [codes_eq]
  intro c hc
  simp only [codes1, List.mem_cons, List.not_mem_nil, or_false] at hc
  rcases hc with rfl | rfl | rfl | rfl | rfl | rfl | rfl | rfl | rfl | rfl | rfl | rfl
  · exact w_c0
  · exact w_c1
  · exact w_c2
  · exact w_c3
  · exact w_c4
  · exact w_c5
  · exact w_c6
  · exact w_c7
  · exact w_c8
  · exact w_c9
  · exact w_c10
  · exact w_c11
set_option maxRecDepth 65536 in
theorem w_t1 : (words1.take 24).all (fun c => isCode c || c.before args0 about1) = true := by decide +kernel
set_option maxRecDepth 65536 in
theorem w_t2 : ((words1.drop 24).take 24).all (fun c => isCode c || c.before args0 about1) = true := by decide +kernel
set_option maxRecDepth 65536 in
theorem w_t3 : ((words1.drop 24).drop 24).all (fun c => isCode c || c.before args0 about1) = true := by decide +kernel
theorem w_tables : (allAtoms (Jvm.Cond.code x code maxLocals ret :: tables_1)).before args0 about1 = true := by
  rw [allAtoms_all]
  show words1.all (fun c => c.before args0 about1) = true
  refine all_split ?_ w_codes
  rw [← List.take_append_drop 24 words1, List.all_append, w_t1, ← List.take_append_drop 24 (words1.drop 24), List.all_append, w_t2, w_t3]
  rfl
set_option maxRecDepth 65536 in
theorem w_rest : rest_1_c.before args0 about1 = true := by decide +kernel
set_option maxRecDepth 65536 in
theorem w_case : (Jvm.Cond.and given_1 narrow_1).before args0 about1 = true := by decide +kernel
set_option maxRecDepth 65536 in
theorem w_consts : constsHeld consts_1 about1 := Jvm.Lit.constsHeldB_iff.mp (by decide +kernel)
theorem w_applies : (headSpec (Jvm.Cond.code x code maxLocals ret :: tables_1) room_1).applies x e0.platform about1 = true :=
  (Spec.applies_iff w_frames).mpr ⟨w_running, w_runnable, w_alone, w_named, w_hears, w_ripe, w_room, w_tables⟩
theorem atStart : AtStart classFile x code maxLocals ret World_1 tables_1 room_1 Calls_1 rest_1 Pre_1 launch0 p0 e0 about1 theMethod args0 below0 :=
  ⟨lists_1, trivial, launch0.admits_env _ _ _, launch0.least_env, fairChoices_fair.cas, fairChoices_fair.clock, w_frames, w_args, w_heap, w_applies, ⟨w_consts, trivial⟩, w_rest, w_case⟩
end start1
theorem witness_1 : WitnessClaimed_1 := ⟨start1.p0, start1.e0, start1.about1, start1.theMethod, start1.args0, start1.below0, start1.atStart⟩
end Jvm.Pilot.@@N@@
