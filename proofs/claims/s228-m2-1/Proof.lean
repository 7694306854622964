import JvmDerived
import JvmDerived.Pilot.@@N@@Statement
import JvmDerived.Pilot.@@N@@Code
set_option linter.unusedVariables false
set_option linter.unusedSimpArgs false
@@BLOCK:NumsL.lean.txt@@
/- laws to paste: Road.backV, Road.eqW, Road.codOf (cut by pick.py; bodies as the Statement names them) -/
namespace Jvm.Pilot.@@N@@
namespace StrChars
open Jvm Sem ClassFile Op Lib Jvm.Stand Jvm.Free.XT Jvm.Free.ALB Jvm.Free.JM Jvm.Free
open Jvm.Lib.Cold (StaticIs)
/-- a char array whose places are chars -/
def Ch (a : Addr) (A : Cell) (U : State) : Prop := Arr .char a A U ∧ Typed .char A
theorem Ch.mv {a : Addr} {A : Cell} {U U' : State} (h : Ch a A U) (hal : U.vm.Alike U'.vm) (hh : U'.heap = U.heap) : Ch a A U' := ⟨h.1.mv hal hh, h.2⟩
theorem Ch.keep {a : Addr} {A : Cell} {U U' : State} (h : Ch a A U) (hal : U.vm.Alike U'.vm) (hk : U'.heap[a]? = some A) : Ch a A U' := ⟨h.1.keep hal hk, h.2⟩
/-- what place i of a char[]'s cell holds -/
def cv (A : Cell) (i : Nat) : Int32 := match A.slots[i]? with | some (.int x) => x | _ => 0
theorem Ch.get {a : Addr} {A : Cell} {U : State} (h : Ch a A U) {i : Nat} (hi : i < A.slots.size) : A.slots[i]? = some (.int (cv A i)) := by
  have e := Array.getElem?_eq_getElem hi
  have f := h.2 i _ e
  unfold cv; rw [e]
  generalize A.slots[i] = v at f
  cases v <;> simp [fits] at f ⊢
/-- the byte that i2b leaves of a char -/
def lo8 (x : Int32) : Int32 := x.toInt8.toInt32
theorem fits_lo8 (y : Int32) : fits .byte (.int (lo8 y)) = true := by
  have h1 := y.toInt8.le_toInt
  have h2 := y.toInt8.toInt_lt
  simp only [lo8, fits, Bool.and_eq_true, decide_eq_true_eq, Int32.le_iff_toInt_le, Int8.toInt_toInt32, show (-128 : Int32).toInt = -128 from by decide, show (127 : Int32).toInt = 127 from by decide]
  omega
/-- A' is A but that each place j of lo .. hi - 1 holds f j -/
def Laid (A A' : Cell) (lo hi : Nat) (f : Nat → Value) : Prop := A'.cls = A.cls ∧ A'.vm = A.vm ∧ A'.slots.size = A.slots.size ∧ ∀ i, A'.slots[i]? = if lo ≤ i ∧ i < hi then some (f i) else A.slots[i]?
theorem Laid.zero (A : Cell) (lo : Nat) (f : Nat → Value) : Laid A A lo (lo + 0) f := ⟨rfl, rfl, rfl, fun i => by rw [if_neg (by omega)]⟩
theorem Laid.step {A Ak : Cell} {lo k : Nat} {f : Nat → Value} {v : Value} (h : Laid A Ak lo k f) (hlo : lo ≤ k) (hk : k < Ak.slots.size) (hv : v = f k) : Laid A (Ak.setSlot k v) lo (k + 1) f := by
  refine ⟨h.1, h.2.1, by simpa [Cell.setSlot] using h.2.2.1, fun i => ?_⟩
  by_cases e : k = i
  · subst e; rw [Cell.slots_setSlot_self v hk, if_pos (by omega), hv]
  · rw [Cell.slots_setSlot_ne v e, h.2.2.2 i]
    by_cases q : lo ≤ i ∧ i < k
    · rw [if_pos q, if_pos (by omega)]
    · rw [if_neg q, if_neg (by omega)]
def U16 : String := "java/lang/StringUTF16"
namespace Cmp5
def yN : MethodName := ⟨"java/lang/StringUTF16", "compress", "([CI[BII)I"⟩
abbrev yB : ByteArray := jdk_52_method_21_code
theorem d0 : decode yB 0 = .ok (.iconst 0, 1) := by decide +kernel
theorem d1 : decode yB 1 = .ok (.istore 5, 2) := by decide +kernel
theorem d3 : decode yB 3 = .ok (.iload 5, 2) := by decide +kernel
theorem d5 : decode yB 5 = .ok (.iload 4, 2) := by decide +kernel
theorem d7 : decode yB 7 = .ok (.if_icmp (.ge) 37, 3) := by decide +kernel
theorem d10 : decode yB 10 = .ok (.aload_n 0, 1) := by decide +kernel
theorem d11 : decode yB 11 = .ok (.iload_n 1, 1) := by decide +kernel
theorem d12 : decode yB 12 = .ok (.caload, 1) := by decide +kernel
theorem d13 : decode yB 13 = .ok (.istore 6, 2) := by decide +kernel
theorem d15 : decode yB 15 = .ok (.iload 6, 2) := by decide +kernel
theorem d17 : decode yB 17 = .ok (.sipush 255, 3) := by decide +kernel
theorem d20 : decode yB 20 = .ok (.if_icmp (.le) 6, 3) := by decide +kernel
theorem d26 : decode yB 26 = .ok (.aload_n 2, 1) := by decide +kernel
theorem d27 : decode yB 27 = .ok (.iload_n 3, 1) := by decide +kernel
theorem d28 : decode yB 28 = .ok (.iload 6, 2) := by decide +kernel
theorem d30 : decode yB 30 = .ok (.i2b, 1) := by decide +kernel
theorem d31 : decode yB 31 = .ok (.bastore, 1) := by decide +kernel
theorem d32 : decode yB 32 = .ok (.iinc 1 1, 3) := by decide +kernel
theorem d35 : decode yB 35 = .ok (.iinc 3 1, 3) := by decide +kernel
theorem d38 : decode yB 38 = .ok (.iinc 5 1, 3) := by decide +kernel
theorem d41 : decode yB 41 = .ok (.goto (-38), 3) := by decide +kernel
theorem d44 : decode yB 44 = .ok (.iload 4, 2) := by decide +kernel
theorem d46 : decode yB 46 = .ok (.ireturn, 1) := by decide +kernel
def site : List Cond := []
def tab : Cond := tabOf yN yB 7 (some .int) site
def P (b : Addr) (A : Cell) (d : Addr) (B : Cell) (o q len : Nat) (args : Array Value) (s : State) : Prop := args = #[.ref b, .int (Int32.ofNat o), .ref d, .int (Int32.ofNat q), .int (Int32.ofNat len)] ∧ Ch b A s ∧ Arr .byte d B s ∧ b ≠ d ∧ o + len ≤ A.slots.size ∧ q + len ≤ B.slots.size ∧ ∀ i, i < len → ¬ 255 < cv A (o + i)
def E (b : Addr) (A : Cell) (d : Addr) (B : Cell) (o q len : Nat) (r : Option Value) (s u : State) : Prop := r = some (.int (Int32.ofNat len)) ∧ ∃ B', Put d B' s u ∧ Laid B B' q (q + len) (fun j => Value.int (lo8 (cv A (o + (j - q)))))
/-- no char of the range above 255: len; the places written hold each char's low byte -/
theorem law (l : Launch) (b : Addr) (A : Cell) (d : Addr) (B : Cell) (o q len : Nat) : Law l yN 5 5 0 0 yB 7 (some .int) site (P b A d B o q len) (E b A d B o q len) (copyLocs d q len) 0 0 := by
  refine Law.of_walk (plainFor_of_name (by decide +kernel)) (by decide +kernel) (by decide +kernel) (by decide) (fun _ _ h => by rw [h.1]; rfl) (fun _ U U' hal hh h => ⟨h.1, h.2.1.mv hal hh, h.2.2.1.mv hal hh, h.2.2.2⟩) (fun r U U' V V' h1 hal h2 h => ⟨h.1, h.2.elim fun B' q => ⟨B', q.1.mv h1 h2, q.2⟩⟩) ?_
  intro p e s m args below meth c s₁ X0 hexec hbytes hml hret hlk hnm hown hh0 W hP
  obtain ⟨rfl, hA, hB, hne, l1, l2, hp⟩ := hP
  have c1 : Steps p.tables e below (s₁.setTop (entryFrame m #[.ref b, .int (Int32.ofNat o), .ref d, .int (Int32.ofNat q), .int (Int32.ofNat len)] 7)) (s₁.setTop (mkF m 0 #[.val (.ref b), .val (.int (Int32.ofNat o)), .val (.ref d), .val (.int (Int32.ofNat q)), .val (.int (Int32.ofNat len)), .unset, .unset] [])) := entry rfl
  have hA0 := hA.1.mv X0.warmed.alike hh0
  have hB0 := hB.mv X0.warmed.alike hh0
  have a31 := hA.1.2.2.2
  have c2 : Steps p.tables e below (s₁.setTop (entryFrame m #[.ref b, .int (Int32.ofNat o), .ref d, .int (Int32.ofNat q), .int (Int32.ofNat len)] 7)) (s₁.setTop (mkF m 3 #[.val (.ref b), .val (.int (Int32.ofNat o)), .val (.ref d), .val (.int (Int32.ofNat q)), .val (.int (Int32.ofNat len)), .val (.int 0), .unset] [])) := c1.trans (by
    refine iconstV X0.here hexec rfl 0 (hb hbytes d0) (by decide) ?_
    refine XS.istore X0.here hexec rfl (hb hbytes d1) rfl rfl ?_
    exact Steps.refl _)
  have loop : ∀ (r i : Nat), i + r = len → ∀ (z : Slot), (z = .unset ∨ ∃ w, z = .val w ∧ w.category = 1) → ∀ (Tl : State) (Bk : Cell), Stand p l e { frames := 0, locals := 0, cells := 0, slots := 0 } s m #[.ref b, .int (Int32.ofNat o), .ref d, .int (Int32.ofNat q), .int (Int32.ofNat len)] below meth c Tl ([] ++ copyLocs d q i) 0 0 → Put d Bk s₁ Tl → Laid B Bk q (q + i) (fun j => Value.int (lo8 (cv A (o + (j - q))))) →
      Steps p.tables e below (s₁.setTop (entryFrame m #[.ref b, .int (Int32.ofNat o), .ref d, .int (Int32.ofNat q), .int (Int32.ofNat len)] 7)) (Tl.setTop (mkF m 3 #[.val (.ref b), .val (.int (Int32.ofNat (o + i))), .val (.ref d), .val (.int (Int32.ofNat (q + i))), .val (.int (Int32.ofNat len)), .val (.int (Int32.ofNat i)), z] [])) → ∃ (T' : State) (B' : Cell) (z' : Slot), Stand p l e { frames := 0, locals := 0, cells := 0, slots := 0 } s m #[.ref b, .int (Int32.ofNat o), .ref d, .int (Int32.ofNat q), .int (Int32.ofNat len)] below meth c T' ([] ++ copyLocs d q len) 0 0 ∧ Put d B' s₁ T' ∧ Laid B B' q (q + len) (fun j => Value.int (lo8 (cv A (o + (j - q))))) ∧
      Steps p.tables e below (s₁.setTop (entryFrame m #[.ref b, .int (Int32.ofNat o), .ref d, .int (Int32.ofNat q), .int (Int32.ofNat len)] 7)) (T'.setTop (mkF m 3 #[.val (.ref b), .val (.int (Int32.ofNat (o + len))), .val (.ref d), .val (.int (Int32.ofNat (q + len))), .val (.int (Int32.ofNat len)), .val (.int (Int32.ofNat len)), z'] [])) := by
    intro r
    induction r with
    | zero =>
      intro i hi z hz Tl Bk Xl pl fl cl
      have hil : i = len := by omega
      rw [hil] at Xl fl cl
      exact ⟨Tl, Bk, z, Xl, pl, fl, cl⟩
    | succ r ih =>
      intro i hi z hz Tl Bk Xl pl fl cl
      have all := X0.warmed.alike.symm.trans Xl.warmed.alike
      have hAl := hA0.keep all (pl.other hne hA0.1)
      have hBk := hB0.like all pl.1 fl.1 fl.2.1 fl.2.2.1
      have hlt : q + i < Bk.slots.size := by rw [fl.2.2.1]; omega
      have c3 : Steps p.tables e below (s₁.setTop (entryFrame m #[.ref b, .int (Int32.ofNat o), .ref d, .int (Int32.ofNat q), .int (Int32.ofNat len)] 7)) (Tl.setTop (mkF m 12 #[.val (.ref b), .val (.int (Int32.ofNat (o + i))), .val (.ref d), .val (.int (Int32.ofNat (q + i))), .val (.int (Int32.ofNat len)), .val (.int (Int32.ofNat i)), z] [.int (Int32.ofNat (o + i)), .ref b])) := cl.trans (by
        refine XS.iload Xl.here hexec rfl (hb hbytes d3) rfl ?_
        refine XS.iload Xl.here hexec rfl (hb hbytes d5) rfl ?_
        refine XS.icmpNo Xl.here hexec rfl (hb hbytes d7) rfl (ii_ge_f (lt32 (by omega) (by omega))) ?_
        refine XS.aloadN Xl.here hexec rfl (hb hbytes d10) rfl rfl ?_
        refine XS.iloadN Xl.here hexec rfl (hb hbytes d11) rfl ?_
        exact Steps.refl _)
      have c4 : Steps p.tables e below (s₁.setTop (entryFrame m #[.ref b, .int (Int32.ofNat o), .ref d, .int (Int32.ofNat q), .int (Int32.ofNat len)] 7)) (Tl.setTop (mkF m 13 #[.val (.ref b), .val (.int (Int32.ofNat (o + i))), .val (.ref d), .val (.int (Int32.ofNat (q + i))), .val (.int (Int32.ofNat len)), .val (.int (Int32.ofNat i)), z] [.int (cv A (o + i))])) := c3.trans (by
        refine Xl.aget hexec hAl rfl (hA.get (i := o + i) (by omega)) rfl rfl (hb hbytes d12) ?_
        exact Steps.refl _)
      have c5 : Steps p.tables e below (s₁.setTop (entryFrame m #[.ref b, .int (Int32.ofNat o), .ref d, .int (Int32.ofNat q), .int (Int32.ofNat len)] 7)) (Tl.setTop (mkF m 15 #[.val (.ref b), .val (.int (Int32.ofNat (o + i))), .val (.ref d), .val (.int (Int32.ofNat (q + i))), .val (.int (Int32.ofNat len)), .val (.int (Int32.ofNat i)), .val (.int (cv A (o + i)))] [])) := c4.trans (by
        refine XS.istoreS Xl.here hexec rfl (hb hbytes d13) rfl rfl hz ?_
        exact Steps.refl _)
      have c6 : Steps p.tables e below (s₁.setTop (entryFrame m #[.ref b, .int (Int32.ofNat o), .ref d, .int (Int32.ofNat q), .int (Int32.ofNat len)] 7)) (Tl.setTop (mkF m 31 #[.val (.ref b), .val (.int (Int32.ofNat (o + i))), .val (.ref d), .val (.int (Int32.ofNat (q + i))), .val (.int (Int32.ofNat len)), .val (.int (Int32.ofNat i)), .val (.int (cv A (o + i)))] [.int (lo8 (cv A (o + i))), .int (Int32.ofNat (q + i)), .ref d])) := c5.trans (by
        refine XS.iload Xl.here hexec rfl (hb hbytes d15) rfl ?_
        refine sipushV Xl.here hexec rfl 255 (hb hbytes d17) (by decide) ?_
        refine XS.icmpYes Xl.here hexec rfl (pc0 := 20) rfl (hb hbytes d20) rfl (ii_le_t (hp i (by omega))) (by decide) rfl ?_
        refine XS.aloadN Xl.here hexec rfl (hb hbytes d26) rfl rfl ?_
        refine XS.iloadN Xl.here hexec rfl (hb hbytes d27) rfl ?_
        refine XS.iload Xl.here hexec rfl (hb hbytes d28) rfl ?_
        refine i2b Xl.here hexec rfl (hb hbytes d30) rfl ?_
        exact Steps.refl _)
      obtain ⟨T7, X7, p7, st7⟩ := Xl.aput hexec hBk rfl hlt rfl (fits_lo8 (cv A (o + i))) (g := (mkF m 31 #[.val (.ref b), .val (.int (Int32.ofNat (o + i))), .val (.ref d), .val (.int (Int32.ofNat (q + i))), .val (.int (Int32.ofNat len)), .val (.int (Int32.ofNat i)), .val (.int (cv A (o + i)))] [.int (lo8 (cv A (o + i))), .int (Int32.ofNat (q + i)), .ref d])) rfl (rest := []) rfl (hb hbytes d31)
      have c8 : Steps p.tables e below (s₁.setTop (entryFrame m #[.ref b, .int (Int32.ofNat o), .ref d, .int (Int32.ofNat q), .int (Int32.ofNat len)] 7)) (T7.setTop (mkF m 32 #[.val (.ref b), .val (.int (Int32.ofNat (o + i))), .val (.ref d), .val (.int (Int32.ofNat (q + i))), .val (.int (Int32.ofNat len)), .val (.int (Int32.ofNat i)), .val (.int (cv A (o + i)))] [])) := c6.trans (st7 _ (Steps.refl _))
      have c9 : Steps p.tables e below (s₁.setTop (entryFrame m #[.ref b, .int (Int32.ofNat o), .ref d, .int (Int32.ofNat q), .int (Int32.ofNat len)] 7)) (T7.setTop (mkF m 3 #[.val (.ref b), .val (.int (Int32.ofNat (o + i) + 1)), .val (.ref d), .val (.int (Int32.ofNat (q + i) + 1)), .val (.int (Int32.ofNat len)), .val (.int (Int32.ofNat i + 1)), .val (.int (cv A (o + i)))] [])) := c8.trans (by
        refine iincV X7.here hexec rfl 1 (hb hbytes d32) (by decide) rfl rfl ?_
        refine iincV X7.here hexec rfl 1 (hb hbytes d35) (by decide) rfl rfl ?_
        refine iincV X7.here hexec rfl 1 (hb hbytes d38) (by decide) rfl rfl ?_
        refine XS.goto X7.here hexec rfl (pc0 := 41) rfl (hb hbytes d41) (by decide) rfl ?_
        exact Steps.refl _)
      have c10 : Steps p.tables e below (s₁.setTop (entryFrame m #[.ref b, .int (Int32.ofNat o), .ref d, .int (Int32.ofNat q), .int (Int32.ofNat len)] 7)) (T7.setTop (mkF m 3 #[.val (.ref b), .val (.int (Int32.ofNat (o + (i + 1)))), .val (.ref d), .val (.int (Int32.ofNat (q + (i + 1)))), .val (.int (Int32.ofNat len)), .val (.int (Int32.ofNat (i + 1))), .val (.int (cv A (o + i)))] [])) := by
        have := c9
        rw [succ32, succ32, succ32] at this
        exact this
      exact ih (i + 1) (by omega) _ (Or.inr ⟨_, rfl, rfl⟩) T7 _ (by rw [copyLocs_step, ← List.append_assoc]; exact X7) (pl.trans p7) (fl.step (by omega) hlt (by simp)) c10
  obtain ⟨T9, B9, z9, X9, p9, f9, g9⟩ := loop len 0 (by omega) .unset (Or.inl rfl) s₁ B (by simpa [copyLocs] using X0) ⟨hB0.1, fun _ _ => rfl, rfl⟩ (Laid.zero _ _ _) c2
  have c11 : Steps p.tables e below (s₁.setTop (entryFrame m #[.ref b, .int (Int32.ofNat o), .ref d, .int (Int32.ofNat q), .int (Int32.ofNat len)] 7)) (T9.setTop (mkF m 46 #[.val (.ref b), .val (.int (Int32.ofNat (o + len))), .val (.ref d), .val (.int (Int32.ofNat (q + len))), .val (.int (Int32.ofNat len)), .val (.int (Int32.ofNat len)), z9] [.int (Int32.ofNat len)])) := g9.trans (by
    refine XS.iload X9.here hexec rfl (hb hbytes d3) rfl ?_
    refine XS.iload X9.here hexec rfl (hb hbytes d5) rfl ?_
    refine XS.icmpYes X9.here hexec rfl (pc0 := 7) rfl (hb hbytes d7) rfl (ii_ge_t (nlt32 (by omega) (Nat.le_refl _))) (by decide) rfl ?_
    refine XS.iload X9.here hexec rfl (hb hbytes d44) rfl ?_
    exact Steps.refl _)
  exact ⟨T9, some (.int (Int32.ofNat len)), _, _, _, X9, by simp, rfl, rfl, (fun h => by cases h), ⟨rfl, B9, p9.from hh0, f9⟩, fun fs hl => c11.trans (X9.ireturnOut hexec hret rfl (Or.inl rfl) (hb hbytes d46) hl)⟩
end Cmp5
namespace Cmp3
def yN : MethodName := ⟨"java/lang/StringUTF16", "compress", "([CII)[B"⟩
abbrev yB : ByteArray := jdk_52_method_16_code
theorem d0 : decode yB 0 = .ok (.iload_n 2, 1) := by decide +kernel
theorem d1 : decode yB 1 = .ok (.newarray .byte, 2) := by decide +kernel
theorem d3 : decode yB 3 = .ok (.astore_n 3, 1) := by decide +kernel
theorem d4 : decode yB 4 = .ok (.aload_n 0, 1) := by decide +kernel
theorem d5 : decode yB 5 = .ok (.iload_n 1, 1) := by decide +kernel
theorem d6 : decode yB 6 = .ok (.aload_n 3, 1) := by decide +kernel
theorem d7 : decode yB 7 = .ok (.iconst 0, 1) := by decide +kernel
theorem d8 : decode yB 8 = .ok (.iload_n 2, 1) := by decide +kernel
theorem d9 : decode yB 9 = .ok (.invokestatic 115, 3) := by decide +kernel
theorem d12 : decode yB 12 = .ok (.istore 4, 2) := by decide +kernel
theorem d14 : decode yB 14 = .ok (.iload 4, 2) := by decide +kernel
theorem d16 : decode yB 16 = .ok (.iload_n 2, 1) := by decide +kernel
theorem d17 : decode yB 17 = .ok (.if_icmp (.eq) 40, 3) := by decide +kernel
theorem d57 : decode yB 57 = .ok (.aload_n 3, 1) := by decide +kernel
theorem d58 : decode yB 58 = .ok (.areturn, 1) := by decide +kernel
def site : List Cond := [.arrayClass .byte, Cmp5.tab] ++ staticW U16 115 Cmp5.yN
def tab : Cond := tabOf yN yB 6 (some (.array .byte)) site
def P (b : Addr) (A : Cell) (o len : Nat) (args : Array Value) (s : State) : Prop := args = #[.ref b, .int (Int32.ofNat o), .int (Int32.ofNat len)] ∧ Ch b A s ∧ o + len ≤ A.slots.size ∧ len ≤ 536870912 ∧ ∀ i, i < len → ¬ 255 < cv A (o + i)
def E (b : Addr) (A : Cell) (o len : Nat) (r : Option Value) (s u : State) : Prop := NewArr .byte "[B" len (fun j => .int (lo8 (cv A (o + j)))) r s u ∧ u.heap.size = s.heap.size + 1
/-- no char of the range above 255: a new byte[] of their low bytes -/
theorem law (l : Launch) (b : Addr) (A : Cell) (o len : Nat) : Law l yN 3 3 1 18 yB 6 (some (.array .byte)) site (P b A o len) (E b A o len) [] 1 len := by
  refine Law.of_walk (plainFor_of_name (by decide +kernel)) (by decide +kernel) (by decide +kernel) (by decide) (fun _ _ h => by rw [h.1]; rfl) (fun _ U U' hal hh h => ⟨h.1, h.2.1.mv hal hh, h.2.2⟩) (fun r U U' V V' h1 hal h2 h => ⟨NewArr.mv r U U' V V' h1 hal h2 h.1, by rw [h1, h2]; exact h.2⟩) ?_
  intro p e s m args below meth c s₁ X0 hexec hbytes hml hret hlk hnm hown hh0 W hP
  obtain ⟨rfl, hA, l1, l2, hp⟩ := hP
  have a31 := hA.1.2.2.2
  have c1 : Steps p.tables e below (s₁.setTop (entryFrame m #[.ref b, .int (Int32.ofNat o), .int (Int32.ofNat len)] 6)) (s₁.setTop (mkF m 0 #[.val (.ref b), .val (.int (Int32.ofNat o)), .val (.int (Int32.ofNat len)), .unset, .unset, .unset] [])) := entry rfl
  have c2 : Steps p.tables e below (s₁.setTop (entryFrame m #[.ref b, .int (Int32.ofNat o), .int (Int32.ofNat len)] 6)) (s₁.setTop (mkF m 1 #[.val (.ref b), .val (.int (Int32.ofNat o)), .val (.int (Int32.ofNat len)), .unset, .unset, .unset] [.int (Int32.ofNat len)])) := c1.trans (by
    refine XS.iloadN X0.here hexec rfl (hb hbytes d0) rfl ?_
    exact Steps.refl _)
  obtain ⟨T3, B3, X3, ba3, bs3, bv3, bh3, bf3, st3⟩ := X0.anew hexec (atype := .byte) (wk W (.arrayClass .byte)) rfl (by show len * 1 ≤ _; omega) (by omega) (g := (mkF m 1 #[.val (.ref b), .val (.int (Int32.ofNat o)), .val (.int (Int32.ofNat len)), .unset, .unset, .unset] [.int (Int32.ofNat len)])) rfl (hb hbytes d1) (rest := []) rfl (Nat.le_refl _) (by show 0 + len ≤ len; omega)
  rw [hh0] at ba3 st3
  have kp3 : XT.Kept s T3 := (XT.Kept.of_eq hh0).push bh3
  have hA3 := hA.keep X3.warmed.alike (kp3 _ _ hA.1.1)
  have hne : b ≠ s.heap.size := hA.1.ne
  have c4 : Steps p.tables e below (s₁.setTop (entryFrame m #[.ref b, .int (Int32.ofNat o), .int (Int32.ofNat len)] 6)) (T3.setTop (mkF m 3 #[.val (.ref b), .val (.int (Int32.ofNat o)), .val (.int (Int32.ofNat len)), .unset, .unset, .unset] [.ref s.heap.size])) := c2.trans (st3 _ (Steps.refl _))
  have c5 : Steps p.tables e below (s₁.setTop (entryFrame m #[.ref b, .int (Int32.ofNat o), .int (Int32.ofNat len)] 6)) (T3.setTop (mkF m 9 #[.val (.ref b), .val (.int (Int32.ofNat o)), .val (.int (Int32.ofNat len)), .val (.ref s.heap.size), .unset, .unset] [.int (Int32.ofNat len), .int 0, .ref s.heap.size, .int (Int32.ofNat o), .ref b])) := c4.trans (by
    refine XS.astoreN X3.here hexec rfl (hb hbytes d3) rfl rfl rfl ?_
    refine XS.aloadN X3.here hexec rfl (hb hbytes d4) rfl rfl ?_
    refine XS.iloadN X3.here hexec rfl (hb hbytes d5) rfl ?_
    refine XS.aloadN X3.here hexec rfl (hb hbytes d6) rfl rfl ?_
    refine iconstV X3.here hexec rfl 0 (hb hbytes d7) (by decide) ?_
    refine XS.iloadN X3.here hexec rfl (hb hbytes d8) rfl ?_
    exact Steps.refl _)
  obtain ⟨v6, T6, X6, E6, g6⟩ := X3.callS hexec (Cmp5.law l b A s.heap.size B3 o 0 len) hown (wks W (staticW U16 115 Cmp5.yN)) (wk W Cmp5.tab) (W := 0) (Nat.le_of_ble_eq_true rfl) (Nat.le_of_ble_eq_true rfl) (Nat.le_refl _) (by show 0 + len + 0 ≤ len; omega) (g := (mkF m 9 #[.val (.ref b), .val (.int (Int32.ofNat o)), .val (.int (Int32.ofNat len)), .val (.ref s.heap.size), .unset, .unset] [.int (Int32.ofNat len), .int (Int32.ofNat 0), .ref s.heap.size, .int (Int32.ofNat o), .ref b])) rfl (by rw [hml]; rfl) c5 (argsL := [.ref b, .int (Int32.ofNat o), .ref s.heap.size, .int (Int32.ofNat 0), .int (Int32.ofNat len)]) (rest := []) rfl rfl (by show 2 * 0 + 0 ≤ _; decide) (hb hbytes d9) (⟨rfl, hA3, ba3, hne, l1, by rw [bs3]; simp, hp⟩)
  obtain ⟨rfl, B6, p6, f6⟩ := E6
  have c7 : Steps p.tables e below (s₁.setTop (entryFrame m #[.ref b, .int (Int32.ofNat o), .int (Int32.ofNat len)] 6)) (T6.setTop (mkF m 12 #[.val (.ref b), .val (.int (Int32.ofNat o)), .val (.int (Int32.ofNat len)), .val (.ref s.heap.size), .unset, .unset] [.int (Int32.ofNat len)])) := g6
  have c8 : Steps p.tables e below (s₁.setTop (entryFrame m #[.ref b, .int (Int32.ofNat o), .int (Int32.ofNat len)] 6)) (T6.setTop (mkF m 58 #[.val (.ref b), .val (.int (Int32.ofNat o)), .val (.int (Int32.ofNat len)), .val (.ref s.heap.size), .val (.int (Int32.ofNat len)), .unset] [.ref s.heap.size])) := c7.trans (by
    refine XS.istore X6.here hexec rfl (hb hbytes d12) rfl rfl ?_
    refine XS.iload X6.here hexec rfl (hb hbytes d14) rfl ?_
    refine XS.iloadN X6.here hexec rfl (hb hbytes d16) rfl ?_
    refine XS.icmpYes X6.here hexec rfl (pc0 := 17) rfl (hb hbytes d17) rfl (ii_eq_t rfl) (by decide) rfl ?_
    refine XS.aloadN X6.here hexec rfl (hb hbytes d57) rfl rfl ?_
    exact Steps.refl _)
  have X8 := X6.wide (L' := []) (cells' := 1) (slots' := len) (fun x hx hlt => by
    simp only [List.nil_append, copyLocs, List.mem_map, List.mem_range] at hx
    obtain ⟨i, -, rfl⟩ := hx
    exact absurd hlt (Nat.lt_irrefl _)) (Nat.le_refl _) (by omega)
  exact ⟨T6, some (.ref s.heap.size), _, _, _, X8, rfl, rfl, rfl, (fun h => by cases h), ⟨⟨rfl, B6, ba3.like (X3.warmed.alike.symm.trans X6.warmed.alike) p6.1 f6.1 f6.2.1 f6.2.2.1, f6.2.1.trans bv3, by rw [X6.warmed.alike.findClass, f6.1]; exact bf3, by rw [f6.2.2.1, bs3]; simp, fun j hj => by rw [f6.2.2.2 j, if_pos (by omega)]; rfl, kp3.put p6 (Nat.le_refl _)⟩, by rw [p6.2.2, bh3, hh0]; simp⟩, fun fs hl => c8.trans (X8.areturnOut hexec rfl hret rfl (hb hbytes d58) hl)⟩
end Cmp3
namespace CodL
def yN : MethodName := ⟨"java/lang/StringUTF16", "coderFromArrayLen", "([BI)B"⟩
abbrev yB : ByteArray := jdk_52_method_15_code
theorem d0 : decode yB 0 = .ok (.iload_n 1, 1) := by decide +kernel
theorem d1 : decode yB 1 = .ok (.aload_n 0, 1) := by decide +kernel
theorem d2 : decode yB 2 = .ok (.arraylength, 1) := by decide +kernel
theorem d3 : decode yB 3 = .ok (.isub, 1) := by decide +kernel
theorem d4 : decode yB 4 = .ok (.bipush 31, 2) := by decide +kernel
theorem d6 : decode yB 6 = .ok (.iushr, 1) := by decide +kernel
theorem d7 : decode yB 7 = .ok (.i2b, 1) := by decide +kernel
theorem d8 : decode yB 8 = .ok (.ireturn, 1) := by decide +kernel
def site : List Cond := []
def tab : Cond := tabOf yN yB 2 (some .byte) site
def P (d : Addr) (B : Cell) (args : Array Value) (s : State) : Prop := args = #[.ref d, .int (Int32.ofNat B.slots.size)] ∧ Arr .byte d B s
def E (r : Option Value) (s u : State) : Prop := XT.PureE (some (.int 0)) r s u
/-- an array as long as the number of chars: LATIN1 -/
theorem law (l : Launch) (d : Addr) (B : Cell) : Law l yN 2 2 0 0 yB 2 (some .byte) site (P d B) E [] 0 0 := by
  refine Law.of_walk (plainFor_of_name (by decide +kernel)) (by decide +kernel) (by decide +kernel) (by decide) (fun _ _ h => by rw [h.1]; rfl) (fun _ U U' hal hh h => ⟨h.1, h.2.mv hal hh⟩) (fun r U U' V V' h1 hal h2 h => XT.PureE.mv r U U' V V' h1 hal h2 h) ?_
  intro p e s m args below meth c s₁ X0 hexec hbytes hml hret hlk hnm hown hh0 W hP
  obtain ⟨rfl, hB⟩ := hP
  have hB0 := hB.mv X0.warmed.alike hh0
  have c1 : Steps p.tables e below (s₁.setTop (entryFrame m #[.ref d, .int (Int32.ofNat B.slots.size)] 2)) (s₁.setTop (mkF m 0 #[.val (.ref d), .val (.int (Int32.ofNat B.slots.size))] [])) := entry rfl
  have c2 : Steps p.tables e below (s₁.setTop (entryFrame m #[.ref d, .int (Int32.ofNat B.slots.size)] 2)) (s₁.setTop (mkF m 2 #[.val (.ref d), .val (.int (Int32.ofNat B.slots.size))] [.ref d, .int (Int32.ofNat B.slots.size)])) := c1.trans (by
    refine XS.iloadN X0.here hexec rfl (hb hbytes d0) rfl ?_
    refine XS.aloadN X0.here hexec rfl (hb hbytes d1) rfl rfl ?_
    exact Steps.refl _)
  have c3 : Steps p.tables e below (s₁.setTop (entryFrame m #[.ref d, .int (Int32.ofNat B.slots.size)] 2)) (s₁.setTop (mkF m 8 #[.val (.ref d), .val (.int (Int32.ofNat B.slots.size))] [.int (lo8 (ushr (Int32.ofNat B.slots.size - Int32.ofNat B.slots.size) 31))])) := c2.trans (by
    refine X0.alen hexec hB0 rfl rfl (hb hbytes d2) ?_
    refine XS.isub X0.here hexec rfl (hb hbytes d3) rfl ?_
    refine bipushV X0.here hexec rfl 31 (hb hbytes d4) (by decide) ?_
    refine iushr X0.here hexec rfl (hb hbytes d6) rfl ?_
    refine i2b X0.here hexec rfl (hb hbytes d7) rfl ?_
    exact Steps.refl _)
  have e0 : lo8 (ushr (Int32.ofNat B.slots.size - Int32.ofNat B.slots.size) 31) = 0 := by rw [Int32.sub_self]; decide
  rw [e0] at c3
  exact ⟨s₁, some (.int 0), _, _, _, X0, rfl, rfl, rfl, (fun h => by cases h), ⟨rfl, hh0⟩, fun fs hl => c3.trans (X0.ireturnOut hexec hret rfl (Or.inr (Or.inr (Or.inl rfl))) (hb hbytes d8) hl)⟩
end CodL
/-- the String at a is Latin-1 over a new byte[] (the heap's one new cell): the low bytes of the len chars of A from o on; every cell but a is kept -/
def Got (a : Addr) (D : Cell) (fV fC : Field) (A : Cell) (o len : Nat) (r : Option Value) (s u : State) : Prop := r = none ∧ ∃ D' V : Cell, Blank "java/lang/String" a D' u ∧ Same D D' [fV.slot, fC.slot] ∧ D'.slots[fV.slot]? = some (.ref s.heap.size) ∧ D'.slots[fC.slot]? = some (.int 0) ∧ Arr .byte s.heap.size V u ∧ V.vm = .none ∧ u.vm.findClass "[B" = some V.cls ∧ V.slots.size = len ∧ (∀ j, j < len → V.slots[j]? = some (.int (lo8 (cv A (o + j))))) ∧ (∀ (y : Addr) (c : Cell), y ≠ a → s.heap[y]? = some c → u.heap[y]? = some c) ∧ u.heap.size = s.heap.size + 1
theorem Got.mv {a : Addr} {D A : Cell} {fV fC : Field} {o len : Nat} : ∀ r (U U' V V' : State), U'.heap = U.heap → V.vm.Alike V'.vm → V'.heap = V.heap → Got a D fV fC A o len r U V → Got a D fV fC A o len r U' V' :=
  fun r U U' V V' h1 hal h2 ⟨e0, D', X, a1, a2, a3, a4, a5, a6, a7, a8, a9, a10, a11⟩ => ⟨e0, D', X, a1.mv hal h2, a2, by rw [h1]; exact a3, a4, by rw [h1]; exact a5.mv hal h2, a6, by rw [hal.findClass]; exact a7, a8, a9, by rw [h1, h2]; exact a10, by rw [h1, h2]; exact a11⟩
namespace New4
def yN : MethodName := ⟨"java/lang/String", "<init>", "([CIILjava/lang/Void;)V"⟩
abbrev yB : ByteArray := jdk_42_method_149_code
theorem d0 : decode yB 0 = .ok (.aload_n 0, 1) := by decide +kernel
theorem d1 : decode yB 1 = .ok (.invokespecial 1, 3) := by decide +kernel
theorem d4 : decode yB 4 = .ok (.iload_n 3, 1) := by decide +kernel
theorem d5 : decode yB 5 = .ok (.ifCond (.ne) 22, 3) := by decide +kernel
theorem d27 : decode yB 27 = .ok (.getstatic 38, 3) := by decide +kernel
theorem d30 : decode yB 30 = .ok (.ifCond (.eq) 28, 3) := by decide +kernel
theorem d33 : decode yB 33 = .ok (.aload_n 1, 1) := by decide +kernel
theorem d34 : decode yB 34 = .ok (.iload_n 2, 1) := by decide +kernel
theorem d35 : decode yB 35 = .ok (.iload_n 3, 1) := by decide +kernel
theorem d36 : decode yB 36 = .ok (.invokestatic 177, 3) := by decide +kernel
theorem d39 : decode yB 39 = .ok (.astore 5, 2) := by decide +kernel
theorem d41 : decode yB 41 = .ok (.aload_n 0, 1) := by decide +kernel
theorem d42 : decode yB 42 = .ok (.aload 5, 2) := by decide +kernel
theorem d44 : decode yB 44 = .ok (.iload_n 3, 1) := by decide +kernel
theorem d45 : decode yB 45 = .ok (.invokestatic 47, 3) := by decide +kernel
theorem d48 : decode yB 48 = .ok (.putfield 15, 3) := by decide +kernel
theorem d51 : decode yB 51 = .ok (.aload_n 0, 1) := by decide +kernel
theorem d52 : decode yB 52 = .ok (.aload 5, 2) := by decide +kernel
theorem d54 : decode yB 54 = .ok (.putfield 9, 3) := by decide +kernel
theorem d57 : decode yB 57 = .ok (.return_, 1) := by decide +kernel
def site : List Cond := [.fieldLink "java/lang/String" 38 "java/lang/String" "COMPACT_STRINGS" "Z", Cmp3.tab, CodL.tab, .laysFinal "java/lang/String" "java/lang/String" "value" "[B", .fieldLink "java/lang/String" 9 "java/lang/String" "value" "[B", .laysFinal "java/lang/String" "java/lang/String" "coder" "B", .fieldLink "java/lang/String" 15 "java/lang/String" "coder" "B"] ++ objW "java/lang/String" 1 ++ staticW "java/lang/String" 177 Cmp3.yN ++ staticW "java/lang/String" 47 CodL.yN
def tab : Cond := tabOf yN yB 6 none site
def P (a : Addr) (D : Cell) (fV fC : Field) (b : Addr) (A : Cell) (z : Int32) (o len : Nat) (args : Array Value) (s : State) : Prop := args = #[.ref a, .ref b, .int (Int32.ofNat o), .int (Int32.ofNat len), .null] ∧ Blank "java/lang/String" a D s ∧ Found "java/lang/String" "value" "[B" fV s ∧ Found "java/lang/String" "coder" "B" fC s ∧ Ch b A s ∧ StaticIs s "java/lang/String" "COMPACT_STRINGS" "Z" (.int z) ∧ ¬ z = 0 ∧ 0 < len ∧ o + len ≤ A.slots.size ∧ len ≤ 536870912 ∧ ∀ i, i < len → ¬ 255 < cv A (o + i)
def E (a : Addr) (D : Cell) (fV fC : Field) (A : Cell) (o len : Nat) (r : Option Value) (s u : State) : Prop := Got a D fV fC A o len r s u
/-- len > 0, no char of the range above 255: a Latin-1 String of their low bytes -/
theorem law (l : Launch) (a : Addr) (D : Cell) (fV fC : Field) (b : Addr) (A : Cell) (z : Int32) (o len : Nat) : Law l yN 5 4 2 35 yB 6 none site (P a D fV fC b A z o len) (E a D fV fC A o len) [⟨a, fC.slot⟩, ⟨a, fV.slot⟩] 1 len := by
  refine Law.of_walk (plainFor_of_name (by decide +kernel)) (by decide +kernel) (by decide +kernel) (by decide) (fun _ _ h => by rw [h.1]; rfl) (fun _ U U' hal hh h => ⟨h.1, h.2.1.mv hal hh, h.2.2.1.al hal, h.2.2.2.1.al hal, h.2.2.2.2.1.mv hal hh, h.2.2.2.2.2.1.there hal hh, h.2.2.2.2.2.2⟩) (fun r U U' V V' h1 hal h2 h => Got.mv r U U' V V' h1 hal h2 h) ?_
  intro p e s m args below meth c s₁ X0 hexec hbytes hml hret hlk hnm hown hh0 W hP
  obtain ⟨rfl, hB, f1, f2, hA, s1, hz, l0, l1, l2, hp⟩ := hP
  have a31 := hA.1.2.2.2
  have c1 : Steps p.tables e below (s₁.setTop (entryFrame m #[.ref a, .ref b, .int (Int32.ofNat o), .int (Int32.ofNat len), .null] 6)) (s₁.setTop (mkF m 0 #[.val (.ref a), .val (.ref b), .val (.int (Int32.ofNat o)), .val (.int (Int32.ofNat len)), .val .null, .unset] [])) := entry rfl
  have c2 : Steps p.tables e below (s₁.setTop (entryFrame m #[.ref a, .ref b, .int (Int32.ofNat o), .int (Int32.ofNat len), .null] 6)) (s₁.setTop (mkF m 1 #[.val (.ref a), .val (.ref b), .val (.int (Int32.ofNat o)), .val (.int (Int32.ofNat len)), .val .null, .unset] [.ref a])) := c1.trans (by
    refine XS.aloadN X0.here hexec rfl (hb hbytes d0) rfl rfl ?_
    exact Steps.refl _)
  obtain ⟨T3, X3, q3, st3⟩ := X0.oinit hexec hown (wks W (objW "java/lang/String" 1)) (g := (mkF m 1 #[.val (.ref a), .val (.ref b), .val (.int (Int32.ofNat o)), .val (.int (Int32.ofNat len)), .val .null, .unset] [.ref a])) rfl (by rw [hml]; rfl) (rest := []) rfl (hb hbytes d1) (W := 0) (by show 2 * 0 + 0 ≤ _; decide) (Nat.le_of_ble_eq_true rfl) (Nat.le_of_ble_eq_true rfl)
  have hh3 := q3.trans hh0
  have c4 : Steps p.tables e below (s₁.setTop (entryFrame m #[.ref a, .ref b, .int (Int32.ofNat o), .int (Int32.ofNat len), .null] 6)) (T3.setTop (mkF m 27 #[.val (.ref a), .val (.ref b), .val (.int (Int32.ofNat o)), .val (.int (Int32.ofNat len)), .val .null, .unset] [])) := (c2.trans (st3 _ (Steps.refl _))).trans (by
    refine XS.iloadN X3.here hexec rfl (hb hbytes d4) rfl ?_
    refine XS.ifYes X3.here hexec rfl (pc0 := 5) rfl (hb hbytes d5) rfl (i0_ne_t (nz32 (by omega) l0)) (by decide) rfl ?_
    exact Steps.refl _)
  obtain ⟨T5, X5, q5, st5⟩ := X3.sget hexec hown (wk W (.fieldLink "java/lang/String" 38 "java/lang/String" "COMPACT_STRINGS" "Z")) s1 (fun _ _ h => by rw [hh3]; exact h) (g := (mkF m 27 #[.val (.ref a), .val (.ref b), .val (.int (Int32.ofNat o)), .val (.int (Int32.ofNat len)), .val .null, .unset] [])) rfl (hb hbytes d27)
  have hh5 := q5.trans hh3
  have c6 : Steps p.tables e below (s₁.setTop (entryFrame m #[.ref a, .ref b, .int (Int32.ofNat o), .int (Int32.ofNat len), .null] 6)) (T5.setTop (mkF m 30 #[.val (.ref a), .val (.ref b), .val (.int (Int32.ofNat o)), .val (.int (Int32.ofNat len)), .val .null, .unset] [.int z])) := c4.trans (st5 _ (Steps.refl _))
  have c7 : Steps p.tables e below (s₁.setTop (entryFrame m #[.ref a, .ref b, .int (Int32.ofNat o), .int (Int32.ofNat len), .null] 6)) (T5.setTop (mkF m 36 #[.val (.ref a), .val (.ref b), .val (.int (Int32.ofNat o)), .val (.int (Int32.ofNat len)), .val .null, .unset] [.int (Int32.ofNat len), .int (Int32.ofNat o), .ref b])) := c6.trans (by
    refine XS.ifNo X5.here hexec rfl (hb hbytes d30) rfl (i0_eq_f hz) ?_
    refine XS.aloadN X5.here hexec rfl (hb hbytes d33) rfl rfl ?_
    refine XS.iloadN X5.here hexec rfl (hb hbytes d34) rfl ?_
    refine XS.iloadN X5.here hexec rfl (hb hbytes d35) rfl ?_
    exact Steps.refl _)
  obtain ⟨v8, T8, X8, E8, g8⟩ := X5.callS hexec (Cmp3.law l b A o len) hown (wks W (staticW "java/lang/String" 177 Cmp3.yN)) (wk W Cmp3.tab) (W := 0) (Nat.le_of_ble_eq_true rfl) (Nat.le_of_ble_eq_true rfl) (Nat.le_refl _) (by show 0 + len ≤ len; omega) (g := (mkF m 36 #[.val (.ref a), .val (.ref b), .val (.int (Int32.ofNat o)), .val (.int (Int32.ofNat len)), .val .null, .unset] [.int (Int32.ofNat len), .int (Int32.ofNat o), .ref b])) rfl (by rw [hml]; rfl) c7 (argsL := [.ref b, .int (Int32.ofNat o), .int (Int32.ofNat len)]) (rest := []) rfl rfl (by show 2 * 0 + 0 ≤ _; decide) (hb hbytes d36) (⟨rfl, hA.mv X5.warmed.alike hh5, l1, l2, hp⟩)
  obtain ⟨e8, z8⟩ := E8
  obtain ⟨rfl, N, n1, n2, n3, n4, n5, n6⟩ := NewArr.mv _ T5 s _ _ hh5.symm (Vm.Alike.refl _) rfl e8
  rw [hh5] at z8
  have hB1 := hB.keep X8.warmed.alike (n6 _ _ hB.1)
  have hne : s.heap.size ≠ a := (Nat.ne_of_lt (Array.getElem?_eq_some_iff.mp hB.1).1).symm
  have c9 : Steps p.tables e below (s₁.setTop (entryFrame m #[.ref a, .ref b, .int (Int32.ofNat o), .int (Int32.ofNat len), .null] 6)) (T8.setTop (mkF m 39 #[.val (.ref a), .val (.ref b), .val (.int (Int32.ofNat o)), .val (.int (Int32.ofNat len)), .val .null, .unset] [.ref s.heap.size])) := g8
  have c10 : Steps p.tables e below (s₁.setTop (entryFrame m #[.ref a, .ref b, .int (Int32.ofNat o), .int (Int32.ofNat len), .null] 6)) (T8.setTop (mkF m 45 #[.val (.ref a), .val (.ref b), .val (.int (Int32.ofNat o)), .val (.int (Int32.ofNat len)), .val .null, .val (.ref s.heap.size)] [.int (Int32.ofNat N.slots.size), .ref s.heap.size, .ref a])) := by
    have hc : Steps p.tables e below (s₁.setTop (entryFrame m #[.ref a, .ref b, .int (Int32.ofNat o), .int (Int32.ofNat len), .null] 6)) (T8.setTop (mkF m 45 #[.val (.ref a), .val (.ref b), .val (.int (Int32.ofNat o)), .val (.int (Int32.ofNat len)), .val .null, .val (.ref s.heap.size)] [.int (Int32.ofNat len), .ref s.heap.size, .ref a])) := c9.trans (by
      refine XS.astore X8.here hexec rfl (hb hbytes d39) rfl rfl rfl ?_
      refine XS.aloadN X8.here hexec rfl (hb hbytes d41) rfl rfl ?_
      refine XS.aload X8.here hexec rfl (hb hbytes d42) rfl rfl ?_
      refine XS.iloadN X8.here hexec rfl (hb hbytes d44) rfl ?_
      exact Steps.refl _)
    rw [n4]; exact hc
  obtain ⟨v11, T11, X11, E11, g11⟩ := X8.callS hexec (CodL.law l s.heap.size N) hown (wks W (staticW "java/lang/String" 47 CodL.yN)) (wk W CodL.tab) (W := 1) (Nat.le_of_ble_eq_true rfl) (Nat.le_of_ble_eq_true rfl) (Nat.le_refl _) (by show 0 + len + 0 ≤ len; omega) (g := (mkF m 45 #[.val (.ref a), .val (.ref b), .val (.int (Int32.ofNat o)), .val (.int (Int32.ofNat len)), .val .null, .val (.ref s.heap.size)] [.int (Int32.ofNat N.slots.size), .ref s.heap.size, .ref a])) rfl (by rw [hml]; rfl) c10 (argsL := [.ref s.heap.size, .int (Int32.ofNat N.slots.size)]) (rest := [.ref a]) rfl rfl (by show 2 * 0 + (1 + 0) ≤ _; decide) (hb hbytes d45) (⟨rfl, n1⟩)
  obtain ⟨rfl, q11⟩ := E11
  have hB11 := hB1.mv (X8.warmed.alike.symm.trans X11.warmed.alike) q11
  have c12 : Steps p.tables e below (s₁.setTop (entryFrame m #[.ref a, .ref b, .int (Int32.ofNat o), .int (Int32.ofNat len), .null] 6)) (T11.setTop (mkF m 48 #[.val (.ref a), .val (.ref b), .val (.int (Int32.ofNat o)), .val (.int (Int32.ofNat len)), .val .null, .val (.ref s.heap.size)] [.int 0, .ref a])) := g11
  obtain ⟨T13, X13, p13, bl13, sl13, st13⟩ := X11.finit hexec hown (wk W (.fieldLink "java/lang/String" 15 "java/lang/String" "coder" "B")) (Or.inr ⟨_, (wk W (.laysFinal "java/lang/String" "java/lang/String" "coder" "B"))⟩) (Or.inl ⟨rfl, hnm⟩) f2 (Or.inl rfl) hB11 (t := .byte) (by decide +kernel) rfl (g := (mkF m 48 #[.val (.ref a), .val (.ref b), .val (.int (Int32.ofNat o)), .val (.int (Int32.ofNat len)), .val .null, .val (.ref s.heap.size)] [.int 0, .ref a])) rfl (rest := []) rfl (hb hbytes d48)
  have c14 : Steps p.tables e below (s₁.setTop (entryFrame m #[.ref a, .ref b, .int (Int32.ofNat o), .int (Int32.ofNat len), .null] 6)) (T13.setTop (mkF m 54 #[.val (.ref a), .val (.ref b), .val (.int (Int32.ofNat o)), .val (.int (Int32.ofNat len)), .val .null, .val (.ref s.heap.size)] [.ref s.heap.size, .ref a])) := (c12.trans (st13 _ (Steps.refl _))).trans (by
    refine XS.aloadN X13.here hexec rfl (hb hbytes d51) rfl rfl ?_
    refine XS.aload X13.here hexec rfl (hb hbytes d52) rfl rfl ?_
    exact Steps.refl _)
  obtain ⟨T15, X15, p15, bl15, sl15, st15⟩ := X13.finit hexec hown (wk W (.fieldLink "java/lang/String" 9 "java/lang/String" "value" "[B")) (Or.inr ⟨_, (wk W (.laysFinal "java/lang/String" "java/lang/String" "value" "[B"))⟩) (Or.inl ⟨rfl, hnm⟩) f1 (Or.inl rfl) bl13 (t := (.array .byte)) (by decide +kernel) rfl (g := (mkF m 54 #[.val (.ref a), .val (.ref b), .val (.int (Int32.ofNat o)), .val (.int (Int32.ofNat len)), .val .null, .val (.ref s.heap.size)] [.ref s.heap.size, .ref a])) rfl (rest := []) rfl (hb hbytes d54)
  have c16 : Steps p.tables e below (s₁.setTop (entryFrame m #[.ref a, .ref b, .int (Int32.ofNat o), .int (Int32.ofNat len), .null] 6)) (T15.setTop (mkF m 57 #[.val (.ref a), .val (.ref b), .val (.int (Int32.ofNat o)), .val (.int (Int32.ofNat len)), .val .null, .val (.ref s.heap.size)] [])) := c14.trans (st15 _ (Steps.refl _))
  have ap := apart (Or.inr ⟨_, (wk W (.laysFinal "java/lang/String" "java/lang/String" "value" "[B"))⟩) (Or.inr ⟨_, (wk W (.laysFinal "java/lang/String" "java/lang/String" "coder" "B"))⟩) f1 f2 (t₁ := .array .byte) (t₂ := .byte) (by decide +kernel) (by decide +kernel) (by decide)
  have al := X8.warmed.alike.symm.trans X15.warmed.alike
  have n7 : T11.heap[s.heap.size]? = some N := by rw [q11]; exact n1.1
  exact ⟨T15, none, _, _, _, X15, by simp, rfl, by omega, (fun _ => rfl), ⟨rfl, _, N, bl15, ((Same.refl D _).set _ (by simp)).set _ (by simp), sl15, (Cell.slots_setSlot_ne _ ap).trans sl13, n1.keep al (p15.other hne (p13.other hne n7)), n2, by rw [al.findClass]; exact n3, n4, n5, fun y c h1 h2 => p15.other h1 (p13.other h1 (by rw [q11]; exact n6 y c h2)), by rw [p15.2.2, p13.2.2, q11]; exact z8⟩, fun fs hl => c16.trans (X15.returnOut hexec hret (hb hbytes d57) hl)⟩
end New4
namespace New1
def yN : MethodName := ⟨"java/lang/String", "<init>", "([C)V"⟩
abbrev yB : ByteArray := jdk_42_method_3_code
theorem d0 : decode yB 0 = .ok (.aload_n 0, 1) := by decide +kernel
theorem d1 : decode yB 1 = .ok (.aload_n 1, 1) := by decide +kernel
theorem d2 : decode yB 2 = .ok (.iconst 0, 1) := by decide +kernel
theorem d3 : decode yB 3 = .ok (.aload_n 1, 1) := by decide +kernel
theorem d4 : decode yB 4 = .ok (.arraylength, 1) := by decide +kernel
theorem d5 : decode yB 5 = .ok (.aconst_null, 1) := by decide +kernel
theorem d6 : decode yB 6 = .ok (.invokespecial 27, 3) := by decide +kernel
theorem d9 : decode yB 9 = .ok (.return_, 1) := by decide +kernel
def site : List Cond := [New4.tab] ++ initW "java/lang/String" 27 New4.yN
def tab : Cond := tabOf yN yB 2 none site
def P (a : Addr) (D : Cell) (fV fC : Field) (b : Addr) (A : Cell) (z : Int32) (args : Array Value) (s : State) : Prop := args = #[.ref a, .ref b] ∧ Blank "java/lang/String" a D s ∧ Found "java/lang/String" "value" "[B" fV s ∧ Found "java/lang/String" "coder" "B" fC s ∧ Ch b A s ∧ StaticIs s "java/lang/String" "COMPACT_STRINGS" "Z" (.int z) ∧ ¬ z = 0 ∧ 0 < A.slots.size ∧ A.slots.size ≤ 536870912 ∧ ∀ i, i < A.slots.size → ¬ 255 < cv A i
def E (a : Addr) (D : Cell) (fV fC : Field) (A : Cell) (r : Option Value) (s u : State) : Prop := Got a D fV fC A 0 A.slots.size r s u
/-- new String(chars), not empty, no char above 255: a Latin-1 String of their low bytes -/
theorem law (l : Launch) (a : Addr) (D : Cell) (fV fC : Field) (b : Addr) (A : Cell) (z : Int32) : Law l yN 2 1 3 52 yB 2 none site (P a D fV fC b A z) (E a D fV fC A) [⟨a, fC.slot⟩, ⟨a, fV.slot⟩] 1 A.slots.size := by
  refine Law.of_walk (plainFor_of_name (by decide +kernel)) (by decide +kernel) (by decide +kernel) (by decide) (fun _ _ h => by rw [h.1]; rfl) (fun _ U U' hal hh h => ⟨h.1, h.2.1.mv hal hh, h.2.2.1.al hal, h.2.2.2.1.al hal, h.2.2.2.2.1.mv hal hh, h.2.2.2.2.2.1.there hal hh, h.2.2.2.2.2.2⟩) (fun r U U' V V' h1 hal h2 h => Got.mv r U U' V V' h1 hal h2 h) ?_
  intro p e s m args below meth c s₁ X0 hexec hbytes hml hret hlk hnm hown hh0 W hP
  obtain ⟨rfl, hB, f1, f2, hA, s1, hz, l0, l2, hp⟩ := hP
  have c1 : Steps p.tables e below (s₁.setTop (entryFrame m #[.ref a, .ref b] 2)) (s₁.setTop (mkF m 0 #[.val (.ref a), .val (.ref b)] [])) := entry rfl
  have c2 : Steps p.tables e below (s₁.setTop (entryFrame m #[.ref a, .ref b] 2)) (s₁.setTop (mkF m 6 #[.val (.ref a), .val (.ref b)] [.null, .int (Int32.ofNat A.slots.size), .int 0, .ref b, .ref a])) := c1.trans (by
    refine XS.aloadN X0.here hexec rfl (hb hbytes d0) rfl rfl ?_
    refine XS.aloadN X0.here hexec rfl (hb hbytes d1) rfl rfl ?_
    refine iconstV X0.here hexec rfl 0 (hb hbytes d2) (by decide) ?_
    refine XS.aloadN X0.here hexec rfl (hb hbytes d3) rfl rfl ?_
    refine X0.alen hexec (hA.1.mv X0.warmed.alike hh0) rfl rfl (hb hbytes d4) ?_
    refine XS.aconstNull X0.here hexec rfl (hb hbytes d5) ?_
    exact Steps.refl _)
  obtain ⟨v3, T3, X3, E3, g3⟩ := X0.callN hexec (New4.law l a D fV fC b A z 0 A.slots.size) rfl hown (wks W (initW "java/lang/String" 27 New4.yN)) (W New4.tab (by simp only [site, List.mem_cons, List.mem_append, true_or, or_true])) (W := 0) (Nat.le_of_ble_eq_true rfl) (Nat.le_of_ble_eq_true rfl) (Nat.le_refl _) (by show 0 + A.slots.size ≤ A.slots.size; omega) (g := (mkF m 6 #[.val (.ref a), .val (.ref b)] [.null, .int (Int32.ofNat A.slots.size), .int (Int32.ofNat 0), .ref b, .ref a])) rfl (by rw [hml]; rfl) c2 (argsL := [.ref b, .int (Int32.ofNat 0), .int (Int32.ofNat A.slots.size), .null]) (rest := []) rfl rfl (by show 2 * 0 + 0 ≤ _; decide) (hb hbytes d6) (⟨rfl, hB.mv X0.warmed.alike hh0, f1.al X0.warmed.alike, f2.al X0.warmed.alike, hA.mv X0.warmed.alike hh0, s1.there X0.warmed.alike hh0, hz, l0, by omega, l2, fun i hi => by rw [Nat.zero_add]; exact hp i hi⟩)
  have e0 := Got.mv _ s₁ s _ _ hh0.symm (Vm.Alike.refl _) rfl E3
  obtain rfl := e0.1
  have c4 : Steps p.tables e below (s₁.setTop (entryFrame m #[.ref a, .ref b] 2)) (T3.setTop (mkF m 9 #[.val (.ref a), .val (.ref b)] [])) := g3
  exact ⟨T3, none, _, _, _, X3, by simp, rfl, by omega, (fun _ => rfl), e0, fun fs hl => c4.trans (X3.returnOut hexec hret (hb hbytes d9) hl)⟩
theorem pays {l : Launch} {R : Room} {p : Program} {e : Env} {below : List Frame} {s : State} {sargs : Array Value} {len W : Nat} (a : Addr) (D : Cell) (fV fC : Field) (b : Addr) (A : Cell) (z : Int32) (htab : tab.before sargs s = true) (hfr : 4 ≤ R.frames) (hlo : W + 65 ≤ R.locals) :
    Back l R p e below s sargs yN len W (fun A₁ a₁ => A₁.cells + 1 ≤ R.cells ∧ A₁.slots + A.slots.size ≤ R.slots ∧ P a D fV fC b A z a₁ A₁.U) (fun A₁ _ v₁ B₁ => E a D fV fC A v₁ A₁.U B₁.U ∧ B₁.locs = A₁.locs ++ [⟨a, fC.slot⟩, ⟨a, fV.slot⟩] ∧ B₁.cells = A₁.cells + 1 ∧ B₁.slots = A₁.slots + A.slots.size) :=
  (law l a D fV fC b A z).pays htab hfr (by omega)
end New1
/-- the byte, read back as charAt reads it, is the char -/
theorem lo8_mask {x : Int32} (h0 : ¬ x < 0) (h1 : ¬ 255 < x) : lo8 x &&& 255 = x := by
  have t : ∀ k : Fin 256, lo8 (Int32.ofNat k.val) &&& 255 = Int32.ofNat k.val := by decide +kernel
  rw [Int32.lt_iff_toInt_lt] at h0 h1
  have e0 : (0 : Int32).toInt = 0 := rfl
  have e1 : (255 : Int32).toInt = 255 := rfl
  obtain ⟨k, hk⟩ : ∃ k : Nat, x.toInt = k := ⟨x.toInt.toNat, by omega⟩
  have hx : x = Int32.ofNat k := Int32.toInt_inj.mp (by rw [hk, Int32.toInt_ofNat_small (by omega)])
  rw [hx]
  exact t ⟨k, by omega⟩
end StrChars
namespace StrChars.Road
open Jvm Sem ClassFile Op Lib Jvm.Stand Jvm.Free Jvm.Free.XT
open Jvm.Lib.Cold (StaticIs)
abbrev ST : String := "java/lang/String"
/-- every table word that New1's law asks, flat -/
abbrev words : List Jvm.Cond := [.code New1.yN New1.yB 2 none, .initialized ST, .methodLink ST 27 New4.yN, .instanceMethod New4.yN,
  .code New4.yN New4.yB 6 none, .fieldLink ST 38 ST "COMPACT_STRINGS" "Z", .laysFinal ST ST "value" "[B", .fieldLink ST 9 ST "value" "[B", .laysFinal ST ST "coder" "B", .fieldLink ST 15 ST "coder" "B",
  .methodLink ST 1 Lib.objectInit, .instanceMethod Lib.objectInit, .code Lib.objectInit ⟨#[0xb1]⟩ 1 none, .methodLink ST 177 Cmp3.yN, .static Cmp3.yN, .methodLink ST 47 CodL.yN, .static CodL.yN,
  .code Cmp3.yN Cmp3.yB 6 (some (.array .byte)), .initialized U16, .arrayClass .byte, .methodLink U16 115 Cmp5.yN, .static Cmp5.yN, .code Cmp5.yN Cmp5.yB 7 (some .int), .code CodL.yN CodL.yB 2 (some .byte)]
theorem tab_of {a : Array Value} {s : State} (h : ∀ w ∈ words, w.before a s = true) : New1.tab.before a s = true := by
  have h5 : Cmp5.tab.before a s = true := unparts (wk h (.code Cmp5.yN Cmp5.yB 7 (some .int))) (wks h (.initialized Cmp5.yN.cls :: Cmp5.site))
  have hc : CodL.tab.before a s = true := unparts (wk h (.code CodL.yN CodL.yB 2 (some .byte))) (wks h (.initialized CodL.yN.cls :: CodL.site))
  have q5 : ∀ w ∈ Cmp5.tab :: words, w.before a s = true := fun w hw => (List.mem_cons.mp hw).elim (fun e => e ▸ h5) (h w)
  have h3 : Cmp3.tab.before a s = true := unparts (wk q5 (.code Cmp3.yN Cmp3.yB 6 (some (.array .byte)))) (wks q5 (.initialized Cmp3.yN.cls :: Cmp3.site))
  have q3 : ∀ w ∈ Cmp3.tab :: CodL.tab :: words, w.before a s = true := fun w hw => (List.mem_cons.mp hw).elim (fun e => e ▸ h3) fun hw => (List.mem_cons.mp hw).elim (fun e => e ▸ hc) (h w)
  have h4 : New4.tab.before a s = true := unparts (wk q3 (.code New4.yN New4.yB 6 none)) (wks q3 (.initialized New4.yN.cls :: New4.site))
  have q4 : ∀ w ∈ New4.tab :: words, w.before a s = true := fun w hw => (List.mem_cons.mp hw).elim (fun e => e ▸ h4) (h w)
  exact unparts (wk q4 (.code New1.yN New1.yB 2 none)) (wks q4 (.initialized New1.yN.cls :: New1.site))
/-- the words ride from the start Z to the walk's own state -/
theorem moved {Z s : State} {a0 args : Array Value} (hZ : Z.Warmed39 s.vm) (hw : ∀ d ∈ words, d.before a0 Z = true) : ∀ d ∈ words, d.before args s = true := fun d hd => by
  have q := hw d hd
  have t : ∀ d ∈ words, d = .arrayClass .byte ∨ (d.onTables && d.keepsFace) = true := by decide +kernel
  rcases t d hd with rfl | t
  · exact RoadKit.mvA hZ q
  · exact RoadKit.mv hZ q t
/-- WHAT COMES BACK, over the tables of the start Z: h the heap at the call, h' behind it -/
def Q (Z : State) (x : Addr) (A : Cell) (h : Heap) (v : Option Value) (h' : Heap) (L : List Loc) : Prop := v = none ∧ (∀ y ∈ L, y.base = x) ∧ RoadKit.Keep h h' [x] ∧ h'.size = h.size + 1 ∧ RoadKit.Exa Z h' x ST ∧ RoadKit.Fld Z h' x ST "value" "[B" (.ref h.size) ∧ RoadKit.Fld Z h' x ST "coder" "B" (.int 0) ∧
  (∃ V : Cell, RoadKit.Arr Z h' h.size V .byte ∧ V.vm = .none ∧ Z.vm.findClass "[B" = some V.cls ∧ V.slots.size = A.slots.size ∧ ∀ j, j < A.slots.size → V.slots[j]? = some (.int (lo8 (cv A j)))) ∧
  ∀ (O n d : String) (w : Value), RoadKit.Fld Z h x O n d w → RoadKit.slotOf Z O n d ≠ RoadKit.slotOf Z ST "value" "[B" → RoadKit.slotOf Z O n d ≠ RoadKit.slotOf Z ST "coder" "B" → RoadKit.Fld Z h' x O n d w
/-- **new String(chars) AT A CALL, IN THE ROAD'S FORM**: for specialBack behind newO: x the fresh String, b the char[] with the cell A -/
theorem back {p : Program} {l : Launch} {e : Env} {R : Room} {s : State} {args : Array Value} {below : List Frame} {len W : Nat} {Z : State} {a0 : Array Value} {h : Heap} (hZ : Z.Warmed39 s.vm) (hw : ∀ d ∈ words, d.before a0 Z = true) {kI : Nat} (wi : (Jvm.Cond.instantiable ST kI).before a0 Z = true)
    {x b : Addr} {A : Cell} {z : Int32} {v0 c0 : Value} (E : RoadKit.Exa Z h x ST) (V : RoadKit.Fld Z h x ST "value" "[B" v0) (C : RoadKit.Fld Z h x ST "coder" "B" c0) (K : RoadKit.Arr Z h b A .char) (hty : Typed .char A) (S : RoadKit.Sta Z h ST "COMPACT_STRINGS" "Z" (.int z)) (hz : ¬ z = 0)
    (l0 : 0 < A.slots.size) (l2 : A.slots.size ≤ 536870912) (hp : ∀ i, i < A.slots.size → ¬ 255 < cv A i) (hfr : 4 ≤ R.frames) (hlo : W + 65 ≤ R.locals) :
    Back l R p e below s args New1.yN len W (fun P a => a = #[.ref x, .ref b] ∧ P.U.heap = h ∧ P.cells + 1 ≤ R.cells ∧ P.slots + A.slots.size ≤ R.slots)
      (fun P _ v B => ∃ L, Q Z x A h v B.U.heap L ∧ B.locs = P.locs ++ L ∧ B.cells = P.cells + 1 ∧ B.slots = P.slots + A.slots.size) := by
  intro m meth c P g ig mk a X hg hsize hdg hW hn hp'
  obtain ⟨rfl, rfl, r1, r2⟩ := hp'
  have al : Z.vm.Alike P.U.vm := hZ.alike.trans X.warmed.alike
  obtain ⟨D, cfV, kV, iV, fV, hD, gV, stV, knV, obV, asV, slV⟩ := id V
  obtain ⟨D', cfC, kC, iC, fC, hD', gC, stC, -, -, asC, slC⟩ := id C
  cases hD.symm.trans hD'
  obtain ⟨D2, kD, e1, e2, e3, e4, e5⟩ := id E
  cases hD.symm.trans e1
  obtain ⟨c2, k2, i1, i2, i3, -⟩ := Cond.instantiable_spec wi
  cases e2.symm.trans i1
  cases e3.symm.trans i2
  obtain ⟨kU, u1, u2⟩ := al.2.2 _ _ e3
  have hB : Blank ST x D P.U := ⟨hD, ⟨knV, fun q hq => by rw [hq] at obV; cases obV⟩, by rw [al.findClass]; exact e2, kU, u1, by rw [u2]; exact i3, by rw [u2]; exact e5 i3⟩
  have F1 : Found ST "value" "[B" fV P.U := ⟨SBG.found_only al ⟨cfV, kV, iV, gV⟩, stV⟩
  have F2 : Found ST "coder" "B" fC P.U := ⟨SBG.found_only al ⟨cfC, kC, iC, gC⟩, stC⟩
  have hA : Ch b A P.U := ⟨⟨K.1, State.isArrayOf_alike al K.2.1, K.2.2, by omega⟩, hty⟩
  have hS : StaticIs P.U ST "COMPACT_STRINGS" "Z" (.int z) := by
    obtain ⟨cfS, iS, kS, fS, st, cS, t1, t2, t3, t4, t5, t6, t7⟩ := S
    exact StaticIs.there (s := { Z with heap := P.U.heap }) ⟨cfS, iS, kS, fS, st, cS, t1, t2, t3, t4, t5, (fun q => by rw [q] at t6; cases t6), t7⟩ al rfl
  obtain ⟨v, B, X', ⟨⟨hv, E', V', q1, q2, q3, q4, q5, q6, q7, q8, q9, q10, q11⟩, hl, hc, hs⟩, st⟩ := New1.pays x D fV fC b A z (tab_of (moved hZ hw)) hfr hlo m meth c P g ig mk _ X hg hsize hdg hW hn ⟨r1, r2, rfl, hB, F1, F2, hA, hS, hz, l0, l2, hp⟩
  have al' : Z.vm.Alike B.U.vm := hZ.alike.trans X'.warmed.alike
  have hsz : E'.slots.size = D.slots.size := by
    obtain ⟨-, -, -, kB, w1, w2, w3⟩ := q1
    obtain ⟨kB', y1, y2⟩ := al'.2.2 _ _ e3
    rw [q2.2.1] at w1
    cases w1.symm.trans y1
    rw [w3, e5 i3, y2]
  refine ⟨v, B, X', ⟨_, ⟨hv, ?_, ⟨by omega, fun y cy hy hn' => q10 y cy (by simpa using hn') hy, fun y cy hy => ?_⟩, q11, ⟨E', _, q1.1, by rw [q2.2.1]; exact e2, by rw [q2.2.1]; exact e3, by rw [q2.1]; exact obV, fun _ => by rw [hsz]; exact e5 i3⟩,
    ⟨E', cfV, kV, iV, fV, q1.1, gV, stV, by rw [q2.1]; exact knV, by rw [q2.1]; exact obV, by rw [q2.2.1]; exact asV, q3⟩, ⟨E', cfC, kC, iC, fC, q1.1, gC, stC, by rw [q2.1]; exact knV, by rw [q2.1]; exact obV, by rw [q2.2.1]; exact asC, q4⟩,
    ⟨V', ⟨q5.1, State.isArrayOf_alike al'.symm q5.2.1, q5.2.2.1⟩, q6, by rw [← al'.findClass]; exact q7, q8, fun j hj => by have := q9 j hj; rwa [Nat.zero_add] at this⟩, fun O n d w F n1 n2 => ?_⟩, hl, hc, hs⟩, st⟩
  · intro y hy
    simp only [List.mem_cons, List.not_mem_nil, or_false] at hy
    rcases hy with rfl | rfl <;> rfl
  · by_cases q : y = x
    · subst q
      cases hD.symm.trans hy
      exact ⟨E', q1.1, q2.2.1, q2.1, hsz⟩
    · exact ⟨cy, q10 y cy q hy, rfl, rfl, rfl⟩
  · obtain ⟨D3, cf, k, i, f, g1, g2, g3, g4, g5, g6, g7⟩ := F
    cases hD.symm.trans g1
    simp only [RoadKit.slotOf, g2, gV, gC, Option.map_some, Option.getD_some] at n1 n2
    exact ⟨E', cf, k, i, f, q1.1, g2, g3, by rw [q2.1]; exact g4, by rw [q2.1]; exact g5, by rw [q2.2.1]; exact g6, by rw [q2.2.2 f.slot (by simp [n1, n2])]; exact g7⟩
end StrChars.Road
namespace StrChars.Road
open Jvm Sem ClassFile Op Lib Jvm.Stand Jvm.Free Jvm.Free.XT
/-- WHAT COMES BACK, the byte[] as a list of values -/
def QA (Z : State) (x : Addr) (zn : Int32) (cs : List Int32) (h : Heap) (v : Option Value) (h' : Heap) (L : List Loc) : Prop := v = none ∧ (∀ y ∈ L, y.base = x) ∧ RoadKit.Keep h h' [x] ∧ h'.size = h.size + 1 ∧ RoadKit.Exa Z h' x ST ∧ RoadKit.Fld Z h' x ST "value" "[B" (.ref h.size) ∧ RoadKit.Fld Z h' x ST "coder" "B" (.int 0) ∧
  (∃ kb, Z.vm.findClass "[B" = some kb ∧ RoadKit.Arv Z h' h.size kb .byte zn (cs.map fun c => .int (lo8 c)) (.int 0)) ∧
  ∀ (O n d : String) (w : Value), RoadKit.Fld Z h x O n d w → RoadKit.slotOf Z O n d ≠ RoadKit.slotOf Z ST "value" "[B" → RoadKit.slotOf Z O n d ≠ RoadKit.slotOf Z ST "coder" "B" → RoadKit.Fld Z h' x O n d w
/-- **new String(chars) AT A CALL, THE ARRAYS AS LISTS**: the char[] at b holds cs, not empty, no char above 255 -/
theorem backArv {p : Program} {l : Launch} {e : Env} {R : Room} {s : State} {args : Array Value} {below : List Frame} {len W : Nat} {Z : State} {a0 : Array Value} {h : Heap} (hZ : Z.Warmed39 s.vm) (hw : ∀ d ∈ words, d.before a0 Z = true) {kI : Nat} (wi : (Jvm.Cond.instantiable ST kI).before a0 Z = true)
    {x b : Addr} {k : ClassId} {zn z : Int32} {cs : List Int32} {dv v0 c0 : Value} (E : RoadKit.Exa Z h x ST) (V : RoadKit.Fld Z h x ST "value" "[B" v0) (C : RoadKit.Fld Z h x ST "coder" "B" c0) (K : RoadKit.Arv Z h b k .char zn (cs.map Value.int) dv) (S : RoadKit.Sta Z h ST "COMPACT_STRINGS" "Z" (.int z)) (hz : ¬ z = 0)
    (hlen : zn.toNatClampNeg = cs.length) (h0 : 0 < cs.length) (hbig : cs.length ≤ 536870912) (hall : ∀ c ∈ cs, ¬ 255 < c) (hfr : 4 ≤ R.frames) (hlo : W + 65 ≤ R.locals) :
    Back l R p e below s args New1.yN len W (fun P a => a = #[.ref x, .ref b] ∧ P.U.heap = h ∧ P.cells + 1 ≤ R.cells ∧ P.slots + cs.length ≤ R.slots)
      (fun P _ v B => ∃ L, QA Z x zn cs h v B.U.heap L ∧ B.locs = P.locs ++ L ∧ B.cells = P.cells + 1 ∧ B.slots = P.slots + cs.length) := by
  obtain ⟨A, K1, K2, K3, K4, K5, K6⟩ := K
  have e : A.slots.size = cs.length := K3.trans hlen
  have hat : ∀ (i : Nat) (hi : i < cs.length), A.slots[i]? = some (.int cs[i]) := fun i hi => by rw [K5 i (by omega)]; simp [List.getD_eq_getElem?_getD, hi]
  have hcv : ∀ (i : Nat) (hi : i < cs.length), cv A i = cs[i] := fun i hi => by unfold cv; rw [hat i hi]
  have hty : Typed .char A := fun i v hv => by
    have hi : i < A.slots.size := (Array.getElem?_eq_some_iff.mp hv).1
    have q := K5 i hi
    rw [hv] at q
    rw [Option.some.inj q]
    exact K6 i hi
  refine Back.mono (back hZ hw wi E V C K1 hty S hz (by omega) (by omega) (fun i hi => by rw [hcv i (by omega)]; exact hall _ (List.getElem_mem _)) hfr hlo) (fun P a hp => ⟨hp.1, hp.2.1, hp.2.2.1, by rw [e]; exact hp.2.2.2⟩) (fun P a v B hp hq => ?_)
  obtain ⟨L, ⟨q1, q2, q3, q4, q5, q6, q7, ⟨V', v1, v2, v3, v4, v5⟩, q9⟩, hl, hc, hs⟩ := hq
  refine ⟨L, ⟨q1, q2, q3, q4, q5, q6, q7, ⟨V'.cls, v3, V', v1, rfl, by rw [v4, e, hlen], K4, fun i hi => ?_, fun i hi => ?_⟩, q9⟩, hl, hc, by rw [hs, e]⟩
  · have hi' : i < cs.length := by omega
    rw [v5 i (by omega), hcv i hi']; simp [List.getD_eq_getElem?_getD, hi']
  · have hi' : i < cs.length := by omega
    simp only [List.getD_eq_getElem?_getD, List.getElem?_map, List.getElem?_eq_getElem hi', Option.map_some, Option.getD_some]
    exact fits_lo8 _
end StrChars.Road
namespace StrChars.Road
open Jvm Sem ClassFile Op Lib Jvm.Stand Jvm.Free Jvm.Free.XT
/-- WHAT COMES BACK, in the writer's own shape -/
def QV (Z : State) (x : Addr) (N : Int32) (bs : List Int32) (h : Heap) (n0 : Nat) (v : Option Value) (h' : Heap) (L : List Loc) : Prop := v = none ∧ RoadKit.Fr n0 L ∧ RoadKit.Keep h h' [x] ∧ RoadKit.Exa Z h' x ST ∧ RoadKit.Fld Z h' x ST "coder" "B" (.int 0) ∧
  ∃ (t : Addr) (kb : ClassId), n0 ≤ t ∧ h.size ≤ t ∧ ¬ t = x ∧ RoadKit.Fld Z h' x ST "value" "[B" (.ref t) ∧ RoadKit.Arv Z h' t kb .byte N (bs.map Value.int) (.int 0)
/-- **new String(chars) AT A CALL, FOR THE WRITER**: a char[] of n known ints, each 0 to 255 -/
theorem backV {p : Program} {l : Launch} {e : Env} {R : Room} {s : State} {args : Array Value} {below : List Frame} {len W : Nat} {Z : State} {a0 : Array Value} {h : Heap} (hZ : Z.Warmed39 s.vm) (hw : ∀ d ∈ words, d.before a0 Z = true) {kI : Nat} (wi : (Jvm.Cond.instantiable ST kI).before a0 Z = true)
    {x b : Addr} {kC : ClassId} {cs bs : List Int32} {d v0 c0 : Value} {z N : Int32} {n n0 : Nat} (hx0 : n0 ≤ x) (hh0 : n0 ≤ h.size) (E : RoadKit.Exa Z h x ST) (V : RoadKit.Fld Z h x ST "value" "[B" v0) (C : RoadKit.Fld Z h x ST "coder" "B" c0) (K : RoadKit.Arv Z h b kC .char N (cs.map Value.int) d) (S : RoadKit.Sta Z h ST "COMPACT_STRINGS" "Z" (.int z)) (hz : ¬ z = 0)
    (hn : cs.length = n) (hN : N = Int32.ofNat n) (l0 : 0 < n) (l2 : n ≤ 4000) (hp : ∀ c ∈ cs, ¬ c < 0 ∧ ¬ (255 : Int32) < c) (hb : bs = cs.map (fun c => c.toInt8.toInt32)) (hfr : 4 ≤ R.frames) (hlo : W + 65 ≤ R.locals) :
    Back l R p e below s args (⟨"java/lang/String", "<init>", "([C)V"⟩ : MethodName) len W (fun P a => a = #[.ref x, .ref b] ∧ P.U.heap = h ∧ P.cells + 1 ≤ R.cells ∧ P.slots + n ≤ R.slots)
      (fun P _ v B => ∃ L, QV Z x N bs h n0 v B.U.heap L ∧ B.locs = P.locs ++ L ∧ B.cells = P.cells + 1 ∧ B.slots = P.slots + n) := by
  subst hn hN hb
  refine Back.mono (backArv hZ hw wi E V C K S hz (n32 (by omega)) l0 (by omega) (fun c hc => (hp c hc).2) hfr hlo) (fun P a hp => hp) (fun P a v B hp hq => ?_)
  obtain ⟨L, ⟨q1, q2, q3, q4, q5, q6, q7, ⟨kb, v1, v2⟩, q9⟩, hl, hc, hs⟩ := hq
  exact ⟨L, ⟨q1, fun y hy => by rw [q2 y hy]; exact hx0, q3, q5, q7, h.size, kb, hh0, Nat.le_refl _, Nat.ne_of_gt E.lt, q6, by rw [List.map_map]; exact v2⟩, hl, hc, hs⟩
end StrChars.Road
namespace StrChars
open Jvm Sem ClassFile Op Lib Jvm.Stand Jvm.Free.XT Jvm.Free.ALB Jvm.Free.JM Jvm.Free
open Jvm.Lib.Cold (StaticIs)
def hi8 (x : Int32) : Int32 := lo8 (x >>> ((8 : Int32) &&& 31))
/-- what StringUTF16.getChar makes of two bytes -/
def pairCh (u v : Int32) : Int32 := (((u &&& 255) <<< ((0 : Int32) &&& 31)) ||| ((v &&& 255) <<< ((8 : Int32) &&& 31))).toUInt32.toUInt16.toUInt32.toInt32
theorem lo8_and (x : Int32) : (lo8 x &&& 255).toBitVec.toNat = x.toBitVec.toNat % 256 := by
  have h : (lo8 x).toBitVec = (x.toBitVec.signExtend 8).signExtend 32 := by rw [lo8, Int8.toBitVec_toInt32, Int32.toBitVec_toInt8]
  rw [Int32.toBitVec_and, BitVec.toNat_and, h]
  have e : ((x.toBitVec.signExtend 8).signExtend 32).toNat % 256 = x.toBitVec.toNat % 256 := by
    rw [BitVec.toNat_signExtend]
    have hlt := x.toBitVec.isLt
    simp only [BitVec.toNat_setWidth, BitVec.toNat_signExtend]
    split <;> split <;> omega
  rw [← e]
  exact Nat.and_two_pow_sub_one_eq_mod _ 8
theorem pair_says {c : Int32} (h0 : ¬ c < 0) (h1 : ¬ 65535 < c) : pairCh (lo8 c) (hi8 c) = c := by
  rw [Int32.lt_iff_toInt_lt] at h0 h1
  have e0 : (0 : Int32).toInt = 0 := rfl
  have e1 : (65535 : Int32).toInt = 65535 := rfl
  have hc : c.toInt = c.toBitVec.toNat := by
    have := c.toBitVec.isLt
    have e : c.toInt = c.toBitVec.toInt := rfl
    rw [e] at h0 h1
    rw [e]
    rw [BitVec.toInt_eq_toNat_cond] at h0 h1 ⊢
    split at h0 <;> split <;> omega
  have hn : c.toBitVec.toNat < 65536 := by omega
  have a1 := lo8_and c
  have a2 : (hi8 c &&& 255).toBitVec.toNat = c.toBitVec.toNat / 256 := by
    rw [hi8, lo8_and]
    have e : ((8 : Int32) &&& 31) = 8 := by decide
    rw [e, Int32.toBitVec_shiftRight]
    have e2 : ((8 : Int32).toBitVec.smod 32) = 8#32 := by decide
    rw [e2, BitVec.sshiftRight_eq', BitVec.toNat_sshiftRight_of_msb_false (by rw [BitVec.msb_eq_false_iff_two_mul_lt]; omega)]
    show c.toBitVec.toNat >>> 8 % 256 = _
    rw [Nat.shiftRight_eq_div_pow]
    omega
  unfold pairCh
  apply Int32.toBitVec_inj.mp
  apply BitVec.eq_of_toNat_eq
  have f0 : ((0 : Int32) &&& 31) = 0 := by decide
  have f8 : ((8 : Int32) &&& 31) = 8 := by decide
  rw [f0, f8]
  have g : (((lo8 c &&& 255) <<< (0 : Int32)) ||| ((hi8 c &&& 255) <<< (8 : Int32))).toBitVec.toNat = c.toBitVec.toNat := by
    rw [Int32.toBitVec_or, Int32.toBitVec_shiftLeft, Int32.toBitVec_shiftLeft]
    have s0 : ((0 : Int32).toBitVec.smod 32) = 0#32 := by decide
    have s8 : ((8 : Int32).toBitVec.smod 32) = 8#32 := by decide
    rw [s0, s8, BitVec.toNat_or]
    simp only [BitVec.shiftLeft_eq', BitVec.toNat_shiftLeft, a1, a2]
    show (c.toBitVec.toNat % 256) <<< 0 % 2 ^ 32 ||| (c.toBitVec.toNat / 256) <<< 8 % 2 ^ 32 = _
    rw [Nat.shiftLeft_zero, Nat.mod_eq_of_lt (show c.toBitVec.toNat % 256 < 2 ^ 32 by omega), Nat.mod_eq_of_lt (show (c.toBitVec.toNat / 256) <<< 8 < 2 ^ 32 by rw [Nat.shiftLeft_eq]; omega), Nat.or_comm, ← Nat.shiftLeft_add_eq_or_of_lt (by omega), Nat.shiftLeft_eq]
    omega
  show BitVec.toNat (((((lo8 c &&& 255) <<< (0 : Int32)) ||| ((hi8 c &&& 255) <<< (8 : Int32))).toBitVec.setWidth 16).setWidth 32) = _
  rw [BitVec.toNat_setWidth, BitVec.toNat_setWidth, g]
  omega
end StrChars
namespace StrChars
open Jvm Sem ClassFile Op Lib Jvm.Stand Jvm.Free.XT Jvm.Free.ALB Jvm.Free.JM Jvm.Free
open Jvm.Lib.Cold (StaticIs)
/-- the array's cell V codes the n chars f 0 .. f (n - 1) by the coder cd, as the JDK does: coder 1 just where some char is above 255 -/
def Cod (cd : Int32) (n : Nat) (f : Nat → Int32) (V : Cell) : Prop := (cd = 0 ∧ V.slots.size = n ∧ ∀ j, j < n → V.slots[j]? = some (.int (lo8 (f j))) ∧ ¬ 255 < f j) ∨ (cd = 1 ∧ V.slots.size = 2 * n ∧ (∀ j, j < n → V.slots[2 * j]? = some (.int (lo8 (f j))) ∧ V.slots[2 * j + 1]? = some (.int (hi8 (f j)))) ∧ ∃ j, j < n ∧ 255 < f j)
/-- **x is a String of the n chars f 0 .. f (n - 1)**, Latin-1 or UTF-16; its array at t has the cell V -/
def Txt (x t : Addr) (V : Cell) (cd : Int32) (n : Nat) (f : Nat → Int32) (U : State) : Prop := Exact "java/lang/String" x U ∧ Has x "java/lang/String" "value" "[B" (.ref t) U ∧ Has x "java/lang/String" "coder" "B" (.int cd) U ∧ XT.Arr .byte t V U ∧ Cod cd n f V ∧ ∀ j, j < n → ¬ f j < 0 ∧ ¬ 65535 < f j
theorem Txt.mv {x t : Addr} {V : Cell} {cd : Int32} {n : Nat} {f : Nat → Int32} {U U' : State} (h : Txt x t V cd n f U) (hal : U.vm.Alike U'.vm) (hh : U'.heap = U.heap) : Txt x t V cd n f U' := ⟨h.1.mv hal hh, h.2.1.mv hal hh, h.2.2.1.mv hal hh, h.2.2.2.1.mv hal hh, h.2.2.2.2⟩
end StrChars
namespace StrChars.Road
open Jvm Sem ClassFile Op Lib Jvm.Stand Jvm.Free Jvm.Free.XT
open Jvm.Lib.Cold (StaticIs)
theorem consq {a : Array Value} {s : State} {c : Jvm.Cond} {L : List Jvm.Cond} (h0 : c.before a s = true) (h : ∀ w ∈ L, w.before a s = true) : ∀ w ∈ c :: L, w.before a s = true := fun w hw => (List.mem_cons.mp hw).elim (fun e => e ▸ h0) (h w)
/-- the bytes of the chars cs, low before high -/
def wideBytes : List Int32 → List Value
  | [] => []
  | c :: cs => .int (lo8 c) :: .int (hi8 c) :: wideBytes cs
theorem wide_lo (d : Value) : ∀ (cs : List Int32) (j : Nat), j < cs.length → (wideBytes cs).getD (2 * j) d = .int (lo8 (cs.getD j 0))
  | [], j, h => absurd h (Nat.not_lt_zero j)
  | c :: cs, 0, _ => rfl
  | c :: cs, j + 1, h => by
    have q := wide_lo d cs j (by simpa using h)
    rw [show 2 * (j + 1) = 2 * j + 1 + 1 from by omega]
    simpa [wideBytes] using q
theorem wide_hi (d : Value) : ∀ (cs : List Int32) (j : Nat), j < cs.length → (wideBytes cs).getD (2 * j + 1) d = .int (hi8 (cs.getD j 0))
  | [], j, h => absurd h (Nat.not_lt_zero j)
  | c :: cs, 0, _ => rfl
  | c :: cs, j + 1, h => by
    have q := wide_hi d cs j (by simpa using h)
    rw [show 2 * (j + 1) + 1 = 2 * j + 1 + 1 + 1 from by omega]
    simpa [wideBytes] using q
theorem low_at (d : Value) (cs : List Int32) (j : Nat) (h : j < cs.length) : (cs.map fun c => Value.int (lo8 c)).getD j d = .int (lo8 (cs.getD j 0)) := by
  simp [List.getD_eq_getElem?_getD, h]
/-- an array of N2 bytes vs codes the chars cs by the coder cd -/
def CodA (cs : List Int32) (cd N2 : Int32) (vs : List Value) : Prop := (cd = 0 ∧ N2 = Int32.ofNat cs.length ∧ vs = (cs.map fun c => Value.int (lo8 c)) ∧ ∀ c ∈ cs, ¬ 255 < c) ∨ (cd = 1 ∧ N2 = Int32.ofNat (2 * cs.length) ∧ vs = wideBytes cs ∧ ∃ c ∈ cs, 255 < c)
theorem CodA.cod {cs : List Int32} {cd N2 : Int32} {vs : List Value} {V : Cell} (h : CodA cs cd N2 vs) (hn : 2 * cs.length < 2 ^ 31) (hs : V.slots.size = N2.toNatClampNeg) (hv : RoadKit.Has V vs (.int 0)) : Cod cd cs.length (fun j => cs.getD j 0) V := by
  rcases h with ⟨rfl, rfl, rfl, h⟩ | ⟨rfl, rfl, rfl, c, hc, hw⟩
  · rw [n32 (by omega)] at hs
    exact Or.inl ⟨rfl, hs, fun j hj => ⟨by rw [hv j (by omega), low_at _ _ _ hj], by
      have e : cs.getD j 0 = cs[j] := by simp [List.getD_eq_getElem?_getD, hj]
      show ¬ 255 < cs.getD j 0
      rw [e]; exact h _ (List.getElem_mem _)⟩⟩
  · rw [n32 (by omega)] at hs
    obtain ⟨j, hj, rfl⟩ := List.getElem_of_mem hc
    exact Or.inr ⟨rfl, hs, fun j hj => ⟨by rw [hv _ (by omega), wide_lo _ _ _ hj], by rw [hv _ (by omega), wide_hi _ _ _ hj]⟩, j, hj, by
      have e : cs.getD j 0 = cs[j] := by simp [List.getD_eq_getElem?_getD, hj]
      show 255 < cs.getD j 0
      rw [e]; exact hw⟩
/-- an object of exactly java/lang/String, its two fields found: as the laws ask it -/
theorem strObj {Z U : State} {a0 : Array Value} {kI : Nat} (wi : (Jvm.Cond.instantiable ST kI).before a0 Z = true) (al : Z.vm.Alike U.vm) {x : Addr} {v0 c0 : Value} (E : RoadKit.Exa Z U.heap x ST) (V : RoadKit.Fld Z U.heap x ST "value" "[B" v0) (C : RoadKit.Fld Z U.heap x ST "coder" "B" c0) :
    ∃ (D : Cell) (fV fC : Field), Blank ST x D U ∧ Found ST "value" "[B" fV U ∧ Found ST "coder" "B" fC U ∧ D.slots[fV.slot]? = some v0 ∧ D.slots[fC.slot]? = some c0 ∧ RoadKit.slotOf Z ST "value" "[B" = fV.slot ∧ RoadKit.slotOf Z ST "coder" "B" = fC.slot := by
  obtain ⟨D, cfV, kV, iV, fV, hD, gV, stV, knV, obV, asV, slV⟩ := V
  obtain ⟨D', cfC, kC, iC, fC, hD', gC, stC, -, -, asC, slC⟩ := C
  cases hD.symm.trans hD'
  obtain ⟨D2, kD, e1, e2, e3, e4, e5⟩ := E
  cases hD.symm.trans e1
  obtain ⟨c2, k2, i1, i2, i3, -⟩ := Cond.instantiable_spec wi
  cases e2.symm.trans i1
  cases e3.symm.trans i2
  obtain ⟨kU, u1, u2⟩ := al.2.2 _ _ e3
  exact ⟨D, fV, fC, ⟨hD, ⟨knV, fun q hq => by rw [hq] at obV; cases obV⟩, by rw [al.findClass]; exact e2, kU, u1, by rw [u2]; exact i3, by rw [u2]; exact e5 i3⟩, ⟨SBG.found_only al ⟨cfV, kV, iV, gV⟩, stV⟩, ⟨SBG.found_only al ⟨cfC, kC, iC, gC⟩, stC⟩, slV, slC, by simp [RoadKit.slotOf, gV], by simp [RoadKit.slotOf, gC]⟩
theorem sta_is {Z U : State} (al : Z.vm.Alike U.vm) {C n d : String} {v : Value} (S : RoadKit.Sta Z U.heap C n d v) : StaticIs U C n d v := by
  obtain ⟨cfS, iS, kS, fS, st, cS, t1, t2, t3, t4, t5, t6, t7⟩ := S
  exact StaticIs.there (s := { Z with heap := U.heap }) ⟨cfS, iS, kS, fS, st, cS, t1, t2, t3, t4, t5, (fun q => by rw [q] at t6; cases t6), t7⟩ al rfl
end StrChars.Road
namespace StrChars
open Jvm Sem ClassFile Op Lib Jvm.Stand Jvm.Free.XT Jvm.Free.ALB Jvm.Free.JM Jvm.Free
open Jvm.Lib.Cold (StaticIs)
/-- what place i of a byte[]'s cell holds -/
def yv (A : Cell) (i : Nat) : Int32 := match A.slots[i]? with | some (.int x) => x | _ => 0
theorem yv_get {a : Addr} {A : Cell} {U : State} (h : XT.Arr .byte a A U) (ht : Typed .byte A) {i : Nat} (hi : i < A.slots.size) : A.slots[i]? = some (.int (yv A i)) := by
  have e := Array.getElem?_eq_getElem hi
  have f := ht i _ e
  unfold yv; rw [e]
  generalize A.slots[i] = v at f
  cases v <;> simp [fits] at f ⊢
/-- the two arrays are equal, place for place -/
def EqC (A B : Cell) : Prop := A.slots.size = B.slots.size ∧ ∀ i, i < A.slots.size → yv A i = yv B i
/-- a boolean that says whether p -/
def Says01 (q : Prop) (r : Option Value) (s u : State) : Prop := ∃ v : Int32, r = some (.int v) ∧ u.heap = s.heap ∧ ((v = 1 ∧ q) ∨ (v = 0 ∧ ¬ q))
theorem Says01.mv {q : Prop} : ∀ r (U U' V V' : State), U'.heap = U.heap → V.vm.Alike V'.vm → V'.heap = V.heap → Says01 q r U V → Says01 q r U' V' :=
  fun r U U' V V' h1 _ h2 ⟨v, a, b, c⟩ => ⟨v, a, by rw [h1, h2]; exact b, c⟩
namespace LEq
def yN : MethodName := ⟨"java/lang/StringLatin1", "equals", "([B[B)Z"⟩
abbrev yB : ByteArray := jdk_43_method_13_code
theorem d0 : decode yB 0 = .ok (.aload_n 0, 1) := by decide +kernel
theorem d1 : decode yB 1 = .ok (.arraylength, 1) := by decide +kernel
theorem d2 : decode yB 2 = .ok (.aload_n 1, 1) := by decide +kernel
theorem d3 : decode yB 3 = .ok (.arraylength, 1) := by decide +kernel
theorem d4 : decode yB 4 = .ok (.if_icmp (.ne) 30, 3) := by decide +kernel
theorem d7 : decode yB 7 = .ok (.iconst 0, 1) := by decide +kernel
theorem d8 : decode yB 8 = .ok (.istore_n 2, 1) := by decide +kernel
theorem d9 : decode yB 9 = .ok (.iload_n 2, 1) := by decide +kernel
theorem d10 : decode yB 10 = .ok (.aload_n 0, 1) := by decide +kernel
theorem d11 : decode yB 11 = .ok (.arraylength, 1) := by decide +kernel
theorem d12 : decode yB 12 = .ok (.if_icmp (.ge) 20, 3) := by decide +kernel
theorem d15 : decode yB 15 = .ok (.aload_n 0, 1) := by decide +kernel
theorem d16 : decode yB 16 = .ok (.iload_n 2, 1) := by decide +kernel
theorem d17 : decode yB 17 = .ok (.baload, 1) := by decide +kernel
theorem d18 : decode yB 18 = .ok (.aload_n 1, 1) := by decide +kernel
theorem d19 : decode yB 19 = .ok (.iload_n 2, 1) := by decide +kernel
theorem d20 : decode yB 20 = .ok (.baload, 1) := by decide +kernel
theorem d21 : decode yB 21 = .ok (.if_icmp (.eq) 5, 3) := by decide +kernel
theorem d24 : decode yB 24 = .ok (.iconst 0, 1) := by decide +kernel
theorem d25 : decode yB 25 = .ok (.ireturn, 1) := by decide +kernel
theorem d26 : decode yB 26 = .ok (.iinc 2 1, 3) := by decide +kernel
theorem d29 : decode yB 29 = .ok (.goto (-20), 3) := by decide +kernel
theorem d32 : decode yB 32 = .ok (.iconst 1, 1) := by decide +kernel
theorem d33 : decode yB 33 = .ok (.ireturn, 1) := by decide +kernel
theorem d34 : decode yB 34 = .ok (.iconst 0, 1) := by decide +kernel
theorem d35 : decode yB 35 = .ok (.ireturn, 1) := by decide +kernel
def site : List Cond := []
def tab : Cond := tabOf yN yB 3 (some .boolean) site
def P (a : Addr) (A : Cell) (b : Addr) (B : Cell) (args : Array Value) (s : State) : Prop := args = #[.ref a, .ref b] ∧ XT.Arr .byte a A s ∧ Typed .byte A ∧ XT.Arr .byte b B s ∧ Typed .byte B
/-- whether two byte[] are equal, place for place -/
theorem law (l : Launch) (a : Addr) (A : Cell) (b : Addr) (B : Cell) : Law l yN 2 2 0 0 yB 3 (some .boolean) site (P a A b B) (Says01 (EqC A B)) [] 0 0 := by
  refine Law.of_walk (plainFor_of_name (by decide +kernel)) (by decide +kernel) (by decide +kernel) (by decide) (fun _ _ h => by rw [h.1]; rfl) (fun _ U U' hal hh h => ⟨h.1, h.2.1.mv hal hh, h.2.2.1, h.2.2.2.1.mv hal hh, h.2.2.2.2⟩) (fun r U U' V V' h1 hal h2 h => Says01.mv r U U' V V' h1 hal h2 h) ?_
  intro p e s m args below meth c s₁ X0 hexec hbytes hml hret hlk hnm hown hh0 W hP
  obtain ⟨rfl, hA, tA, hB, tB⟩ := hP
  have a31 := hA.2.2.2
  have b31 := hB.2.2.2
  have hA0 := hA.mv X0.warmed.alike hh0
  have hB0 := hB.mv X0.warmed.alike hh0
  have c1 : Steps p.tables e below (s₁.setTop (entryFrame m #[.ref a, .ref b] 3)) (s₁.setTop (mkF m 0 #[.val (.ref a), .val (.ref b), .unset] [])) := entry rfl
  have c2 : Steps p.tables e below (s₁.setTop (entryFrame m #[.ref a, .ref b] 3)) (s₁.setTop (mkF m 4 #[.val (.ref a), .val (.ref b), .unset] [.int (Int32.ofNat B.slots.size), .int (Int32.ofNat A.slots.size)])) := c1.trans (by
    refine XS.aloadN X0.here hexec rfl (hb hbytes d0) rfl rfl ?_
    refine X0.alen hexec hA0 rfl rfl (hb hbytes d1) ?_
    refine XS.aloadN X0.here hexec rfl (hb hbytes d2) rfl rfl ?_
    refine X0.alen hexec hB0 rfl rfl (hb hbytes d3) ?_
    exact Steps.refl _)
  by_cases hs : A.slots.size = B.slots.size
  · have c3 : Steps p.tables e below (s₁.setTop (entryFrame m #[.ref a, .ref b] 3)) (s₁.setTop (mkF m 9 #[.val (.ref a), .val (.ref b), .val (.int 0)] [])) := c2.trans (by
      refine XS.icmpNo X0.here hexec rfl (hb hbytes d4) rfl (ii_ne_f (by rw [hs])) ?_
      refine iconstV X0.here hexec rfl 0 (hb hbytes d7) (by decide) ?_
      refine XS.istoreN X0.here hexec rfl (hb hbytes d8) rfl rfl ?_
      exact Steps.refl _)
    have loop : ∀ (r i : Nat), i + r = A.slots.size → (∀ j, j < i → yv A j = yv B j) → Steps p.tables e below (s₁.setTop (entryFrame m #[.ref a, .ref b] 3)) (s₁.setTop (mkF m 9 #[.val (.ref a), .val (.ref b), .val (.int (Int32.ofNat i))] [])) → ∃ (pc : Nat) (Ls : Array Slot) (v : Int32), (pc = 25 ∨ pc = 33) ∧ ((v = 1 ∧ EqC A B) ∨ (v = 0 ∧ ¬ EqC A B)) ∧ Steps p.tables e below (s₁.setTop (entryFrame m #[.ref a, .ref b] 3)) (s₁.setTop (mkF m pc Ls [.int v])) := by
      intro r
      induction r with
      | zero =>
        intro i hi he cl
        exact ⟨33, _, 1, Or.inr rfl, Or.inl ⟨rfl, hs, fun j hj => he j (by omega)⟩, cl.trans (by
          refine XS.iloadN X0.here hexec rfl (hb hbytes d9) rfl ?_
          refine XS.aloadN X0.here hexec rfl (hb hbytes d10) rfl rfl ?_
          refine X0.alen hexec hA0 rfl rfl (hb hbytes d11) ?_
          refine XS.icmpYes X0.here hexec rfl (pc0 := 12) rfl (hb hbytes d12) rfl (ii_ge_t (nlt32 (by omega) (by omega))) (by decide) rfl ?_
          refine iconstV X0.here hexec rfl 1 (hb hbytes d32) (by decide) ?_
          exact Steps.refl _)⟩
      | succ r ih =>
        intro i hi he cl
        have c4 : Steps p.tables e below (s₁.setTop (entryFrame m #[.ref a, .ref b] 3)) (s₁.setTop (mkF m 21 #[.val (.ref a), .val (.ref b), .val (.int (Int32.ofNat i))] [.int (yv B i), .int (yv A i)])) := cl.trans (by
          refine XS.iloadN X0.here hexec rfl (hb hbytes d9) rfl ?_
          refine XS.aloadN X0.here hexec rfl (hb hbytes d10) rfl rfl ?_
          refine X0.alen hexec hA0 rfl rfl (hb hbytes d11) ?_
          refine XS.icmpNo X0.here hexec rfl (hb hbytes d12) rfl (ii_ge_f (lt32 (by omega) (by omega))) ?_
          refine XS.aloadN X0.here hexec rfl (hb hbytes d15) rfl rfl ?_
          refine XS.iloadN X0.here hexec rfl (hb hbytes d16) rfl ?_
          refine X0.aget hexec hA0 rfl (yv_get hA tA (i := i) (by omega)) rfl rfl (hb hbytes d17) ?_
          refine XS.aloadN X0.here hexec rfl (hb hbytes d18) rfl rfl ?_
          refine XS.iloadN X0.here hexec rfl (hb hbytes d19) rfl ?_
          refine X0.aget hexec hB0 rfl (yv_get hB tB (i := i) (by omega)) rfl rfl (hb hbytes d20) ?_
          exact Steps.refl _)
        by_cases hv : yv A i = yv B i
        · have c5 : Steps p.tables e below (s₁.setTop (entryFrame m #[.ref a, .ref b] 3)) (s₁.setTop (mkF m 9 #[.val (.ref a), .val (.ref b), .val (.int (Int32.ofNat i + 1))] [])) := c4.trans (by
            refine XS.icmpYes X0.here hexec rfl (pc0 := 21) rfl (hb hbytes d21) rfl (ii_eq_t hv) (by decide) rfl ?_
            refine iincV X0.here hexec rfl 1 (hb hbytes d26) (by decide) rfl rfl ?_
            refine XS.goto X0.here hexec rfl (pc0 := 29) rfl (hb hbytes d29) (by decide) rfl ?_
            exact Steps.refl _)
          rw [succ32] at c5
          exact ih (i + 1) (by omega) (fun j hj => by
            by_cases e : j = i
            · rw [e]; exact hv
            · exact he j (by omega)) c5
        · exact ⟨25, _, 0, Or.inl rfl, Or.inr ⟨rfl, fun q => hv (q.2 i (by omega))⟩, c4.trans (by
            refine XS.icmpNo X0.here hexec rfl (hb hbytes d21) rfl (ii_eq_f hv) ?_
            refine iconstV X0.here hexec rfl 0 (hb hbytes d24) (by decide) ?_
            exact Steps.refl _)⟩
    obtain ⟨pc, Ls, v, hpc, hv, cz⟩ := loop A.slots.size 0 (by omega) (fun j hj => absurd hj (Nat.not_lt_zero j)) c3
    have nv : narrow .boolean (.int v) = .int v := by rcases hv with ⟨rfl, -⟩ | ⟨rfl, -⟩ <;> rfl
    rcases hpc with rfl | rfl
    · exact ⟨s₁, some (.int v), _, _, _, X0, rfl, rfl, rfl, (fun h => by cases h), ⟨v, rfl, hh0, hv⟩, fun fs hl => cz.trans (X0.ireturnOut hexec hret nv (Or.inr (Or.inl rfl)) (hb hbytes d25) hl)⟩
    · exact ⟨s₁, some (.int v), _, _, _, X0, rfl, rfl, rfl, (fun h => by cases h), ⟨v, rfl, hh0, hv⟩, fun fs hl => cz.trans (X0.ireturnOut hexec hret nv (Or.inr (Or.inl rfl)) (hb hbytes d33) hl)⟩
  · have c3 : Steps p.tables e below (s₁.setTop (entryFrame m #[.ref a, .ref b] 3)) (s₁.setTop (mkF m 35 #[.val (.ref a), .val (.ref b), .unset] [.int 0])) := c2.trans (by
      refine XS.icmpYes X0.here hexec rfl (pc0 := 4) rfl (hb hbytes d4) rfl (ii_ne_t (ne32 a31 b31 hs)) (by decide) rfl ?_
      refine iconstV X0.here hexec rfl 0 (hb hbytes d34) (by decide) ?_
      exact Steps.refl _)
    exact ⟨s₁, some (.int 0), _, _, _, X0, rfl, rfl, rfl, (fun h => by cases h), ⟨0, rfl, hh0, Or.inr ⟨rfl, fun q => hs q.1⟩⟩, fun fs hl => c3.trans (X0.ireturnOut hexec hret rfl (Or.inr (Or.inl rfl)) (hb hbytes d35) hl)⟩
end LEq
theorem Cod.ty {cd : Int32} {n : Nat} {f : Nat → Int32} {V : Cell} (h : Cod cd n f V) : Typed .byte V := fun i v hv => by
  have hi : i < V.slots.size := (Array.getElem?_eq_some_iff.mp hv).1
  rcases h with ⟨-, k1, k2⟩ | ⟨-, k1, k2, -⟩
  · rw [(k2 i (by omega)).1] at hv; cases hv; exact fits_lo8 _
  · rcases Nat.mod_two_eq_zero_or_one i with e | e
    · obtain ⟨j, rfl⟩ : ∃ j, i = 2 * j := ⟨i / 2, by omega⟩
      rw [(k2 j (by omega)).1] at hv; cases hv; exact fits_lo8 _
    · obtain ⟨j, rfl⟩ : ∃ j, i = 2 * j + 1 := ⟨i / 2, by omega⟩
      rw [(k2 j (by omega)).2] at hv; cases hv; exact fits_lo8 _
/-- the same text -/
def SameT (n : Nat) (f : Nat → Int32) (k : Nat) (g : Nat → Int32) : Prop := n = k ∧ ∀ j, j < n → f j = g j
theorem lo8_inj {x y : Int32} (h0 : ¬ x < 0) (h1 : ¬ 255 < x) (k0 : ¬ y < 0) (k1 : ¬ 255 < y) (h : lo8 x = lo8 y) : x = y := by
  rw [← lo8_mask h0 h1, ← lo8_mask k0 k1, h]
/-- arrays coded by one coder are equal just where the texts are -/
theorem Cod.eqv {cd : Int32} {n k : Nat} {f g : Nat → Int32} {V V' : Cell} (h : Cod cd n f V) (h' : Cod cd k g V') (hf : ∀ j, j < n → ¬ f j < 0 ∧ ¬ 65535 < f j) (hg : ∀ j, j < k → ¬ g j < 0 ∧ ¬ 65535 < g j) : EqC V V' ↔ SameT n f k g := by
  have yvv : ∀ {W : Cell} {i : Nat} {x : Int32}, W.slots[i]? = some (.int x) → yv W i = x := fun q => by unfold yv; rw [q]
  rcases h with ⟨rfl, k1, k2⟩ | ⟨rfl, k1, k2, -⟩
  · rcases h' with ⟨-, m1, m2⟩ | ⟨e, -⟩
    · constructor
      · rintro ⟨e1, e2⟩
        refine ⟨by omega, fun j hj => ?_⟩
        have q := e2 j (by omega)
        rw [yvv (k2 j hj).1, yvv (m2 j (by omega)).1] at q
        exact lo8_inj (hf j hj).1 (k2 j hj).2 (hg j (by omega)).1 (m2 j (by omega)).2 q
      · rintro ⟨rfl, e2⟩
        refine ⟨by omega, fun j hj => ?_⟩
        rw [yvv (k2 j (by omega)).1, yvv (m2 j (by omega)).1, e2 j (by omega)]
    · exact absurd e (by decide)
  · rcases h' with ⟨e, -⟩ | ⟨-, m1, m2, -⟩
    · exact absurd e (by decide)
    · constructor
      · rintro ⟨e1, e2⟩
        refine ⟨by omega, fun j hj => ?_⟩
        have q1 := e2 (2 * j) (by omega)
        have q2 := e2 (2 * j + 1) (by omega)
        rw [yvv (k2 j hj).1, yvv (m2 j (by omega)).1] at q1
        rw [yvv (k2 j hj).2, yvv (m2 j (by omega)).2] at q2
        rw [← pair_says (hf j hj).1 (hf j hj).2, ← pair_says (hg j (by omega)).1 (hg j (by omega)).2, q1, q2]
      · rintro ⟨rfl, e2⟩
        refine ⟨by omega, fun i hi => ?_⟩
        rcases Nat.mod_two_eq_zero_or_one i with e | e
        · obtain ⟨j, rfl⟩ : ∃ j, i = 2 * j := ⟨i / 2, by omega⟩
          rw [yvv (k2 j (by omega)).1, yvv (m2 j (by omega)).1, e2 j (by omega)]
        · obtain ⟨j, rfl⟩ : ∃ j, i = 2 * j + 1 := ⟨i / 2, by omega⟩
          rw [yvv (k2 j (by omega)).2, yvv (m2 j (by omega)).2, e2 j (by omega)]
/-- two codings differ: so do the texts -/
theorem Cod.dif {cd cd' : Int32} {n k : Nat} {f g : Nat → Int32} {V V' : Cell} (h : Cod cd n f V) (h' : Cod cd' k g V') (hne : ¬ cd = cd') : ¬ SameT n f k g := by
  rintro ⟨rfl, e⟩
  rcases h with ⟨rfl, -, k2⟩ | ⟨rfl, -, -, j, hj, hw⟩
  · rcases h' with ⟨rfl, -⟩ | ⟨-, -, -, j, hj, hw⟩
    · exact hne rfl
    · exact (k2 j hj).2 (by rw [e j hj]; exact hw)
  · rcases h' with ⟨-, -, m2⟩ | ⟨rfl, -⟩
    · exact (m2 j hj).2 (by rw [← e j hj]; exact hw)
    · exact hne rfl
/-- an object of exactly C is an instance of C -/
theorem cinst {p : Program} {l : Launch} {e : Env} {R : Room} {s : State} {m : MethodId} {args : Array Value} {below : List Frame} {meth : Method} {c : Code} {T : State} {locs : List Loc} {cells slots : Nat} (X : Stand p l e R s m args below meth c T locs cells slots) (hexec : p.tables.exec = Jvm.exec) {own C : String} {index : Nat} (hown : s.vm.findClass own = some m.cls) (hlink : (Cond.classLink own index C).before args s = true) {a : Addr} (hE : Exact C a T)
    {g : JFrame} (hg : g.method = m) {rest : List Value} (hstack : g.stack = .ref a :: rest) (hdg : decode c.code g.pc = .ok (.instanceof index, 3)) :
    ∃ T', Stand p l e R s m args below meth c T' locs cells slots ∧ T'.heap = T.heap ∧ ∀ target, Steps p.tables e below (T'.setTop { g with pc := g.pc + 3, stack := .int 1 :: rest }) target → Steps p.tables e below (T.setTop g) target := by
  obtain ⟨cB, h1, D, h2, h3, h4⟩ := hE
  have h1' : s.vm.findClass C = some cB := by rw [← X.warmed.alike.findClass]; exact h1
  obtain ⟨vm', X', st⟩ := X.instanceofYes hexec hown hlink h2 h4 h1' (by rw [h3]; exact Jvm.Free.SB.assignable_self _ _) hg hstack hdg
  exact ⟨_, X', rfl, st⟩
theorem cself {p : Program} {l : Launch} {e : Env} {R : Room} {s : State} {m : MethodId} {args : Array Value} {below : List Frame} {meth : Method} {c : Code} {T : State} {locs : List Loc} {cells slots : Nat} (X : Stand p l e R s m args below meth c T locs cells slots) (hexec : p.tables.exec = Jvm.exec) {own C : String} {index : Nat} (hown : s.vm.findClass own = some m.cls) (hlink : (Cond.classLink own index C).before args s = true) {a : Addr} (hE : Exact C a T)
    {g : JFrame} (hg : g.method = m) {rest : List Value} (hstack : g.stack = .ref a :: rest) (hdg : decode c.code g.pc = .ok (.checkcast index, 3)) :
    ∃ T', Stand p l e R s m args below meth c T' locs cells slots ∧ T'.heap = T.heap ∧ ∀ target, Steps p.tables e below (T'.setTop { g with pc := g.pc + 3, stack := .ref a :: rest }) target → Steps p.tables e below (T.setTop g) target := by
  obtain ⟨cB, h1, D, h2, h3, h4⟩ := hE
  have h1' : s.vm.findClass C = some cB := by rw [← X.warmed.alike.findClass]; exact h1
  obtain ⟨vm', X', st⟩ := X.checkcastYes hexec hown hlink h2 h4 h1' (by rw [h3]; exact Jvm.Free.SB.assignable_self _ _) hg hstack hdg
  exact ⟨_, X', rfl, fun t h => st t (by rw [← hstack] at h; exact h)⟩
namespace SEq
def yN : MethodName := ⟨"java/lang/String", "equals", "(Ljava/lang/Object;)Z"⟩
abbrev yB : ByteArray := jdk_42_method_66_code
theorem d0 : decode yB 0 = .ok (.aload_n 0, 1) := by decide +kernel
theorem d1 : decode yB 1 = .ok (.aload_n 1, 1) := by decide +kernel
theorem d2 : decode yB 2 = .ok (.if_acmp (.ne) 5, 3) := by decide +kernel
theorem d5 : decode yB 5 = .ok (.iconst 1, 1) := by decide +kernel
theorem d6 : decode yB 6 = .ok (.ireturn, 1) := by decide +kernel
theorem d7 : decode yB 7 = .ok (.aload_n 1, 1) := by decide +kernel
theorem d8 : decode yB 8 = .ok (.instanceof 10, 3) := by decide +kernel
theorem d11 : decode yB 11 = .ok (.ifCond (.eq) 43, 3) := by decide +kernel
theorem d14 : decode yB 14 = .ok (.aload_n 1, 1) := by decide +kernel
theorem d15 : decode yB 15 = .ok (.checkcast 10, 3) := by decide +kernel
theorem d18 : decode yB 18 = .ok (.astore_n 2, 1) := by decide +kernel
theorem d19 : decode yB 19 = .ok (.getstatic 38, 3) := by decide +kernel
theorem d22 : decode yB 22 = .ok (.ifCond (.eq) 14, 3) := by decide +kernel
theorem d25 : decode yB 25 = .ok (.aload_n 0, 1) := by decide +kernel
theorem d26 : decode yB 26 = .ok (.getfield 15, 3) := by decide +kernel
theorem d29 : decode yB 29 = .ok (.aload_n 2, 1) := by decide +kernel
theorem d30 : decode yB 30 = .ok (.getfield 15, 3) := by decide +kernel
theorem d33 : decode yB 33 = .ok (.if_icmp (.ne) 21, 3) := by decide +kernel
theorem d36 : decode yB 36 = .ok (.aload_n 0, 1) := by decide +kernel
theorem d37 : decode yB 37 = .ok (.getfield 9, 3) := by decide +kernel
theorem d40 : decode yB 40 = .ok (.aload_n 2, 1) := by decide +kernel
theorem d41 : decode yB 41 = .ok (.getfield 9, 3) := by decide +kernel
theorem d44 : decode yB 44 = .ok (.invokestatic 541, 3) := by decide +kernel
theorem d47 : decode yB 47 = .ok (.ifCond (.eq) 7, 3) := by decide +kernel
theorem d50 : decode yB 50 = .ok (.iconst 1, 1) := by decide +kernel
theorem d51 : decode yB 51 = .ok (.goto 4, 3) := by decide +kernel
theorem d54 : decode yB 54 = .ok (.iconst 0, 1) := by decide +kernel
theorem d55 : decode yB 55 = .ok (.ireturn, 1) := by decide +kernel
def site : List Cond := [.classLink "java/lang/String" 10 "java/lang/String", .fieldLink "java/lang/String" 38 "java/lang/String" "COMPACT_STRINGS" "Z", .fieldLink "java/lang/String" 15 "java/lang/String" "coder" "B", .fieldLink "java/lang/String" 9 "java/lang/String" "value" "[B", LEq.tab] ++ staticW "java/lang/String" 541 LEq.yN
def tab : Cond := tabOf yN yB 3 (some .boolean) site
def P (x t : Addr) (V : Cell) (cd : Int32) (n : Nat) (f : Nat → Int32) (y t' : Addr) (V' : Cell) (cd' : Int32) (k : Nat) (g : Nat → Int32) (z : Int32) (args : Array Value) (s : State) : Prop := args = #[.ref x, .ref y] ∧ Txt x t V cd n f s ∧ Txt y t' V' cd' k g s ∧ StaticIs s "java/lang/String" "COMPACT_STRINGS" "Z" (.int z) ∧ ¬ z = 0
/-- equals(Object) of two Strings: whether the texts are the same -/
theorem law (l : Launch) (x t : Addr) (V : Cell) (cd : Int32) (n : Nat) (f : Nat → Int32) (y t' : Addr) (V' : Cell) (cd' : Int32) (k : Nat) (g : Nat → Int32) (z : Int32) : Law l yN 2 1 1 14 yB 3 (some .boolean) site (P x t V cd n f y t' V' cd' k g z) (Says01 (SameT n f k g)) [] 0 0 := by
  refine Law.of_walk (plainFor_of_name (by decide +kernel)) (by decide +kernel) (by decide +kernel) (by decide) (fun _ _ h => by rw [h.1]; rfl) (fun _ U U' hal hh h => ⟨h.1, h.2.1.mv hal hh, h.2.2.1.mv hal hh, h.2.2.2.1.there hal hh, h.2.2.2.2⟩) (fun r U U' V V' h1 hal h2 h => Says01.mv r U U' V V' h1 hal h2 h) ?_
  intro p e s m args below meth c s₁ X0 hexec hbytes hml hret hlk hnm hown hh0 W hP
  obtain ⟨rfl, hx, hy, s1, hz⟩ := hP
  have c1 : Steps p.tables e below (s₁.setTop (entryFrame m #[.ref x, .ref y] 3)) (s₁.setTop (mkF m 2 #[.val (.ref x), .val (.ref y), .unset] [.ref y, .ref x])) := Steps.trans (entry rfl) (by
    show Steps p.tables e below (s₁.setTop (mkF m 0 #[.val (.ref x), .val (.ref y), .unset] [])) _
    refine XS.aloadN X0.here hexec rfl (hb hbytes d0) rfl rfl ?_
    refine XS.aloadN X0.here hexec rfl (hb hbytes d1) rfl rfl ?_
    exact Steps.refl _)
  by_cases hxy : x = y
  · have c2 : Steps p.tables e below (s₁.setTop (entryFrame m #[.ref x, .ref y] 3)) (s₁.setTop (mkF m 6 #[.val (.ref x), .val (.ref y), .unset] [.int 1])) := c1.trans (by
      refine acmpNo X0.here hexec rfl (hb hbytes d2) rfl rfl rfl (by simp [acmp, hxy]) ?_
      refine iconstV X0.here hexec rfl 1 (hb hbytes d5) (by decide) ?_
      exact Steps.refl _)
    subst hxy
    have ec : cd = cd' := by
      obtain ⟨D, fd, a1, a2, a3⟩ := hx.2.2.1
      obtain ⟨D', fd', b1, b2, b3⟩ := hy.2.2.1
      cases a1.symm.trans b1
      obtain ⟨q1, q2, q3, q4⟩ := a2.1
      obtain ⟨r1, r2, r3, r4⟩ := b2.1
      cases q4.symm.trans r4
      cases a3.symm.trans b3; rfl
    have et : t = t' := by
      obtain ⟨D, fd, a1, a2, a3⟩ := hx.2.1
      obtain ⟨D', fd', b1, b2, b3⟩ := hy.2.1
      cases a1.symm.trans b1
      obtain ⟨q1, q2, q3, q4⟩ := a2.1
      obtain ⟨r1, r2, r3, r4⟩ := b2.1
      cases q4.symm.trans r4
      cases a3.symm.trans b3; rfl
    subst ec et
    have ev : V = V' := by cases hx.2.2.2.1.1.symm.trans hy.2.2.2.1.1; rfl
    subst ev
    have hs : SameT n f k g := (Cod.eqv hx.2.2.2.2.1 hy.2.2.2.2.1 hx.2.2.2.2.2 hy.2.2.2.2.2).mp ⟨rfl, fun _ _ => rfl⟩
    exact ⟨s₁, some (.int 1), _, _, _, X0, rfl, rfl, rfl, (fun h => by cases h), ⟨1, rfl, hh0, Or.inl ⟨rfl, hs⟩⟩, fun fs hl => c2.trans (X0.ireturnOut hexec hret rfl (Or.inr (Or.inl rfl)) (hb hbytes d6) hl)⟩
  · have c2 : Steps p.tables e below (s₁.setTop (entryFrame m #[.ref x, .ref y] 3)) (s₁.setTop (mkF m 8 #[.val (.ref x), .val (.ref y), .unset] [.ref y])) := c1.trans (by
      refine acmpYes X0.here hexec rfl (pc0 := 2) rfl (hb hbytes d2) rfl rfl rfl (by simp [acmp, hxy]) (by decide) rfl ?_
      refine XS.aloadN X0.here hexec rfl (hb hbytes d7) rfl rfl ?_
      exact Steps.refl _)
    obtain ⟨T3, X3, q3, st3⟩ := cinst X0 hexec hown (wk W (.classLink "java/lang/String" 10 "java/lang/String")) (hy.mv X0.warmed.alike hh0).1 (g := (mkF m 8 #[.val (.ref x), .val (.ref y), .unset] [.ref y])) rfl (rest := []) rfl (hb hbytes d8)
    have hh3 := q3.trans hh0
    have c4 : Steps p.tables e below (s₁.setTop (entryFrame m #[.ref x, .ref y] 3)) (T3.setTop (mkF m 15 #[.val (.ref x), .val (.ref y), .unset] [.ref y])) := (c2.trans (st3 _ (Steps.refl _))).trans (by
      refine XS.ifNo X3.here hexec rfl (hb hbytes d11) rfl (i0_eq_f (by decide)) ?_
      refine XS.aloadN X3.here hexec rfl (hb hbytes d14) rfl rfl ?_
      exact Steps.refl _)
    obtain ⟨T5, X5, q5, st5⟩ := cself X3 hexec hown (wk W (.classLink "java/lang/String" 10 "java/lang/String")) (hy.mv X3.warmed.alike hh3).1 (g := (mkF m 15 #[.val (.ref x), .val (.ref y), .unset] [.ref y])) rfl (rest := []) rfl (hb hbytes d15)
    have hh5 := q5.trans hh3
    have c6 : Steps p.tables e below (s₁.setTop (entryFrame m #[.ref x, .ref y] 3)) (T5.setTop (mkF m 19 #[.val (.ref x), .val (.ref y), .val (.ref y)] [])) := (c4.trans (st5 _ (Steps.refl _))).trans (by
      refine XS.astoreN X5.here hexec rfl (hb hbytes d18) rfl rfl rfl ?_
      exact Steps.refl _)
    obtain ⟨T7, X7, q7, st7⟩ := X5.sget hexec hown (wk W (.fieldLink "java/lang/String" 38 "java/lang/String" "COMPACT_STRINGS" "Z")) s1 (fun _ _ h => by rw [hh5]; exact h) (g := (mkF m 19 #[.val (.ref x), .val (.ref y), .val (.ref y)] [])) rfl (hb hbytes d19)
    have hh7 := q7.trans hh5
    have c8 : Steps p.tables e below (s₁.setTop (entryFrame m #[.ref x, .ref y] 3)) (T7.setTop (mkF m 26 #[.val (.ref x), .val (.ref y), .val (.ref y)] [.ref x])) := (c6.trans (st7 _ (Steps.refl _))).trans (by
      refine XS.ifNo X7.here hexec rfl (hb hbytes d22) rfl (i0_eq_f hz) ?_
      refine XS.aloadN X7.here hexec rfl (hb hbytes d25) rfl rfl ?_
      exact Steps.refl _)
    obtain ⟨T9, X9, q9, st9⟩ := X7.hget hexec hown (wk W (.fieldLink "java/lang/String" 15 "java/lang/String" "coder" "B")) (hx.mv X7.warmed.alike hh7).2.2.1 (g := (mkF m 26 #[.val (.ref x), .val (.ref y), .val (.ref y)] [.ref x])) rfl (rest := []) rfl (hb hbytes d26)
    have hh9 := q9.trans hh7
    have c10 : Steps p.tables e below (s₁.setTop (entryFrame m #[.ref x, .ref y] 3)) (T9.setTop (mkF m 30 #[.val (.ref x), .val (.ref y), .val (.ref y)] [.ref y, .int cd])) := (c8.trans (st9 _ (Steps.refl _))).trans (by
      refine XS.aloadN X9.here hexec rfl (hb hbytes d29) rfl rfl ?_
      exact Steps.refl _)
    obtain ⟨T11, X11, q11, st11⟩ := X9.hget hexec hown (wk W (.fieldLink "java/lang/String" 15 "java/lang/String" "coder" "B")) (hy.mv X9.warmed.alike hh9).2.2.1 (g := (mkF m 30 #[.val (.ref x), .val (.ref y), .val (.ref y)] [.ref y, .int cd])) rfl (rest := [.int cd]) rfl (hb hbytes d30)
    have hh11 := q11.trans hh9
    have c12 : Steps p.tables e below (s₁.setTop (entryFrame m #[.ref x, .ref y] 3)) (T11.setTop (mkF m 33 #[.val (.ref x), .val (.ref y), .val (.ref y)] [.int cd', .int cd])) := c10.trans (st11 _ (Steps.refl _))
    by_cases hcd : cd = cd'
    · subst hcd
      have c13 : Steps p.tables e below (s₁.setTop (entryFrame m #[.ref x, .ref y] 3)) (T11.setTop (mkF m 37 #[.val (.ref x), .val (.ref y), .val (.ref y)] [.ref x])) := c12.trans (by
        refine XS.icmpNo X11.here hexec rfl (hb hbytes d33) rfl (ii_ne_f rfl) ?_
        refine XS.aloadN X11.here hexec rfl (hb hbytes d36) rfl rfl ?_
        exact Steps.refl _)
      obtain ⟨T14, X14, q14, st14⟩ := X11.hget hexec hown (wk W (.fieldLink "java/lang/String" 9 "java/lang/String" "value" "[B")) (hx.mv X11.warmed.alike hh11).2.1 (g := (mkF m 37 #[.val (.ref x), .val (.ref y), .val (.ref y)] [.ref x])) rfl (rest := []) rfl (hb hbytes d37)
      have hh14 := q14.trans hh11
      have c15 : Steps p.tables e below (s₁.setTop (entryFrame m #[.ref x, .ref y] 3)) (T14.setTop (mkF m 41 #[.val (.ref x), .val (.ref y), .val (.ref y)] [.ref y, .ref t])) := (c13.trans (st14 _ (Steps.refl _))).trans (by
        refine XS.aloadN X14.here hexec rfl (hb hbytes d40) rfl rfl ?_
        exact Steps.refl _)
      obtain ⟨T16, X16, q16, st16⟩ := X14.hget hexec hown (wk W (.fieldLink "java/lang/String" 9 "java/lang/String" "value" "[B")) (hy.mv X14.warmed.alike hh14).2.1 (g := (mkF m 41 #[.val (.ref x), .val (.ref y), .val (.ref y)] [.ref y, .ref t])) rfl (rest := [.ref t]) rfl (hb hbytes d41)
      have hh16 := q16.trans hh14
      have c17 : Steps p.tables e below (s₁.setTop (entryFrame m #[.ref x, .ref y] 3)) (T16.setTop (mkF m 44 #[.val (.ref x), .val (.ref y), .val (.ref y)] [.ref t', .ref t])) := c15.trans (st16 _ (Steps.refl _))
      obtain ⟨v18, T18, X18, E18, g18⟩ := X16.callS hexec (LEq.law l t V t' V') hown (wks W (staticW "java/lang/String" 541 LEq.yN)) (wk W LEq.tab) (W := 0) (Nat.le_of_ble_eq_true rfl) (Nat.le_of_ble_eq_true rfl) (Nat.le_refl _) (Nat.le_refl _) (g := (mkF m 44 #[.val (.ref x), .val (.ref y), .val (.ref y)] [.ref t', .ref t])) rfl (by rw [hml]; rfl) c17 (argsL := [.ref t, .ref t']) (rest := []) rfl rfl (by show 2 * 0 + 0 ≤ _; decide) (hb hbytes d44) (⟨rfl, hx.2.2.2.1.mv X16.warmed.alike hh16, hx.2.2.2.2.1.ty, hy.2.2.2.1.mv X16.warmed.alike hh16, hy.2.2.2.2.1.ty⟩)
      obtain ⟨v, rfl, q18, hv⟩ := E18
      have iff := Cod.eqv hx.2.2.2.2.1 hy.2.2.2.2.1 hx.2.2.2.2.2 hy.2.2.2.2.2
      rcases hv with ⟨rfl, he⟩ | ⟨rfl, he⟩
      · have c19 : Steps p.tables e below (s₁.setTop (entryFrame m #[.ref x, .ref y] 3)) (T18.setTop (mkF m 55 #[.val (.ref x), .val (.ref y), .val (.ref y)] [.int 1])) := Steps.trans g18 (by
          refine XS.ifNo X18.here hexec rfl (hb hbytes d47) rfl (i0_eq_f (by decide)) ?_
          refine iconstV X18.here hexec rfl 1 (hb hbytes d50) (by decide) ?_
          refine XS.goto X18.here hexec rfl (pc0 := 51) rfl (hb hbytes d51) (by decide) rfl ?_
          exact Steps.refl _)
        exact ⟨T18, some (.int 1), _, _, _, X18, rfl, rfl, rfl, (fun h => by cases h), ⟨1, rfl, q18.trans hh16, Or.inl ⟨rfl, iff.mp he⟩⟩, fun fs hl => c19.trans (X18.ireturnOut hexec hret rfl (Or.inr (Or.inl rfl)) (hb hbytes d55) hl)⟩
      · have c19 : Steps p.tables e below (s₁.setTop (entryFrame m #[.ref x, .ref y] 3)) (T18.setTop (mkF m 55 #[.val (.ref x), .val (.ref y), .val (.ref y)] [.int 0])) := Steps.trans g18 (by
          refine XS.ifYes X18.here hexec rfl (pc0 := 47) rfl (hb hbytes d47) rfl (i0_eq_t rfl) (by decide) rfl ?_
          refine iconstV X18.here hexec rfl 0 (hb hbytes d54) (by decide) ?_
          exact Steps.refl _)
        exact ⟨T18, some (.int 0), _, _, _, X18, rfl, rfl, rfl, (fun h => by cases h), ⟨0, rfl, q18.trans hh16, Or.inr ⟨rfl, fun q => he (iff.mpr q)⟩⟩, fun fs hl => c19.trans (X18.ireturnOut hexec hret rfl (Or.inr (Or.inl rfl)) (hb hbytes d55) hl)⟩
    · have c13 : Steps p.tables e below (s₁.setTop (entryFrame m #[.ref x, .ref y] 3)) (T11.setTop (mkF m 55 #[.val (.ref x), .val (.ref y), .val (.ref y)] [.int 0])) := c12.trans (by
        refine XS.icmpYes X11.here hexec rfl (pc0 := 33) rfl (hb hbytes d33) rfl (ii_ne_t hcd) (by decide) rfl ?_
        refine iconstV X11.here hexec rfl 0 (hb hbytes d54) (by decide) ?_
        exact Steps.refl _)
      exact ⟨T11, some (.int 0), _, _, _, X11, rfl, rfl, rfl, (fun h => by cases h), ⟨0, rfl, hh11, Or.inr ⟨rfl, Cod.dif hx.2.2.2.2.1 hy.2.2.2.2.1 hcd⟩⟩, fun fs hl => c13.trans (X11.ireturnOut hexec hret rfl (Or.inr (Or.inl rfl)) (hb hbytes d55) hl)⟩
theorem pays {l : Launch} {R : Room} {p : Program} {e : Env} {below : List Frame} {s : State} {sargs : Array Value} {len W : Nat} (x t : Addr) (V : Cell) (cd : Int32) (n : Nat) (f : Nat → Int32) (y t' : Addr) (V' : Cell) (cd' : Int32) (k : Nat) (g : Nat → Int32) (z : Int32) (htab : tab.before sargs s = true) (hfr : 2 ≤ R.frames) (hlo : W + 28 ≤ R.locals) :
    Back l R p e below s sargs yN len W (fun A₁ a₁ => A₁.cells + 0 ≤ R.cells ∧ A₁.slots + 0 ≤ R.slots ∧ P x t V cd n f y t' V' cd' k g z a₁ A₁.U) (fun A₁ _ v₁ B₁ => Says01 (SameT n f k g) v₁ A₁.U B₁.U ∧ B₁.locs = A₁.locs ++ [] ∧ B₁.cells = A₁.cells + 0 ∧ B₁.slots = A₁.slots + 0) :=
  (law l x t V cd n f y t' V' cd' k g z).pays htab hfr (by omega)
end SEq
end StrChars
namespace StrChars.Road
open Jvm Sem ClassFile Op Lib Jvm.Stand Jvm.Free Jvm.Free.XT
open Jvm.Lib.Cold (StaticIs)
/-- the words of String.equals(Object) -/
abbrev wordsEq : List Jvm.Cond := [.code SEq.yN SEq.yB 3 (some .boolean), .initialized ST, .classLink ST 10 ST, .fieldLink ST 38 ST "COMPACT_STRINGS" "Z", .fieldLink ST 15 ST "coder" "B", .fieldLink ST 9 ST "value" "[B", .methodLink ST 541 LEq.yN, .static LEq.yN, .code LEq.yN LEq.yB 3 (some .boolean), .initialized "java/lang/StringLatin1"]
theorem tabEq_of {a : Array Value} {s : State} (h : ∀ w ∈ wordsEq, w.before a s = true) : SEq.tab.before a s = true := by
  have hl : LEq.tab.before a s = true := unparts (wk h (.code LEq.yN LEq.yB 3 (some .boolean))) (wks h (.initialized LEq.yN.cls :: LEq.site))
  have q := consq hl h
  exact unparts (wk q (.code SEq.yN SEq.yB 3 (some .boolean))) (wks q (.initialized SEq.yN.cls :: SEq.site))
theorem movedEq {Z s : State} {a0 args : Array Value} (hZ : Z.Warmed39 s.vm) (hw : ∀ d ∈ wordsEq, d.before a0 Z = true) : ∀ d ∈ wordsEq, d.before args s = true := fun d hd => by
  have t : ∀ d ∈ wordsEq, (d.onTables && d.keepsFace) = true := by decide +kernel
  exact RoadKit.mv hZ (hw d hd) (t d hd)
/-- the road's facts of a String, as the laws ask it -/
theorem txt_of {Z U : State} {a0 : Array Value} {kI : Nat} (wi : (Jvm.Cond.instantiable ST kI).before a0 Z = true) (al : Z.vm.Alike U.vm) {x t : Addr} {kb : ClassId} {cs : List Int32} {cd N2 : Int32} {vs : List Value} (E : RoadKit.Exa Z U.heap x ST) (V : RoadKit.Fld Z U.heap x ST "value" "[B" (.ref t)) (C : RoadKit.Fld Z U.heap x ST "coder" "B" (.int cd)) (K : RoadKit.Arv Z U.heap t kb .byte N2 vs (.int 0)) (hc : CodA cs cd N2 vs) (hb : ∀ c ∈ cs, ¬ c < 0 ∧ ¬ (65535 : Int32) < c) (l2 : cs.length ≤ 4000) :
    ∃ A, Txt x t A cd cs.length (fun j => cs.getD j 0) U := by
  obtain ⟨A, K1, K2, K3, K4, K5, K6⟩ := K
  have hcod := hc.cod (by omega) K3 K5
  obtain ⟨D, fV, fC, hB, F1, F2, g1, g2, -, -⟩ := strObj wi al E V C
  exact ⟨A, ⟨_, hB.2.2.1, D, hB.1, rfl, by cases q : D.vm <;> first | rfl | exact absurd q (hB.2.1.2 _)⟩, Has.of hB F1 g1, Has.of hB F2 g2, ⟨K1.1, State.isArrayOf_alike al K1.2.1, K1.2.2, by rcases hcod with ⟨-, q, -⟩ | ⟨-, q, -⟩ <;> omega⟩, hcod, fun j hj => by
    have e : cs.getD j 0 = cs[j] := by simp [List.getD_eq_getElem?_getD, hj]
    show ¬ cs.getD j 0 < 0 ∧ ¬ 65535 < cs.getD j 0
    rw [e]; exact hb _ (List.getElem_mem _)⟩
theorem same_list (cs ds : List Int32) : SameT cs.length (fun j => cs.getD j 0) ds.length (fun j => ds.getD j 0) ↔ cs = ds := by
  constructor
  · rintro ⟨e, q⟩
    refine List.ext_getElem e fun j h1 h2 => ?_
    have := q j h1
    simpa [List.getD_eq_getElem?_getD, h1, h2] using this
  · rintro rfl
    exact ⟨rfl, fun _ _ => rfl⟩
/-- **equals(Object) OF TWO SUCH STRINGS**: 1 just where the chars are the same -/
theorem eqW {p : Program} {l : Launch} {e : Env} {R : Room} {s : State} {args : Array Value} {below : List Frame} {len W : Nat} {Z : State} {a0 : Array Value} {h : Heap} (hZ : Z.Warmed39 s.vm) (hw : ∀ d ∈ wordsEq, d.before a0 Z = true) {kI : Nat} (wi : (Jvm.Cond.instantiable ST kI).before a0 Z = true)
    {x t : Addr} {kb : ClassId} {cs : List Int32} {cd N2 : Int32} {vs : List Value} (E : RoadKit.Exa Z h x ST) (V : RoadKit.Fld Z h x ST "value" "[B" (.ref t)) (C : RoadKit.Fld Z h x ST "coder" "B" (.int cd)) (K : RoadKit.Arv Z h t kb .byte N2 vs (.int 0)) (hc : CodA cs cd N2 vs) (hb : ∀ c ∈ cs, ¬ c < 0 ∧ ¬ (65535 : Int32) < c) (l2 : cs.length ≤ 4000)
    {y t' : Addr} {kb' : ClassId} {ds : List Int32} {cd' N2' : Int32} {vs' : List Value} (E' : RoadKit.Exa Z h y ST) (V' : RoadKit.Fld Z h y ST "value" "[B" (.ref t')) (C' : RoadKit.Fld Z h y ST "coder" "B" (.int cd')) (K' : RoadKit.Arv Z h t' kb' .byte N2' vs' (.int 0)) (hc' : CodA ds cd' N2' vs') (hb' : ∀ c ∈ ds, ¬ c < 0 ∧ ¬ (65535 : Int32) < c) (l2' : ds.length ≤ 4000)
    {z : Int32} (S : RoadKit.Sta Z h ST "COMPACT_STRINGS" "Z" (.int z)) (hz : ¬ z = 0) (hfr : 2 ≤ R.frames) (hlo : W + 28 ≤ R.locals) :
    Back l R p e below s args (⟨"java/lang/String", "equals", "(Ljava/lang/Object;)Z"⟩ : MethodName) len W (fun P a => a = #[.ref x, .ref y] ∧ P.U.heap = h ∧ P.cells + 0 ≤ R.cells ∧ P.slots + 0 ≤ R.slots)
      (fun P _ v B => ∃ L, (((v = some (.int 1) ∧ cs = ds) ∨ (v = some (.int 0) ∧ ¬ cs = ds)) ∧ L = [] ∧ B.U.heap = h) ∧ B.locs = P.locs ++ L ∧ B.cells = P.cells + 0 ∧ B.slots = P.slots + 0) := by
  intro m meth c P g ig mk a X hg hsize hdg hW hn hp'
  obtain ⟨rfl, rfl, r1, r2⟩ := hp'
  have al : Z.vm.Alike P.U.vm := hZ.alike.trans X.warmed.alike
  obtain ⟨A, hx⟩ := txt_of wi al E V C K hc hb l2
  obtain ⟨A', hy⟩ := txt_of wi al E' V' C' K' hc' hb' l2'
  obtain ⟨v, B, X', ⟨⟨w, hv, hh, hq⟩, hl, hk, hs⟩, st⟩ := SEq.pays x t A cd cs.length (fun j => cs.getD j 0) y t' A' cd' ds.length (fun j => ds.getD j 0) z (tabEq_of (movedEq hZ hw)) hfr hlo m meth c P g ig mk _ X hg hsize hdg hW hn ⟨r1, r2, rfl, hx, hy, sta_is al S, hz⟩
  refine ⟨v, B, X', ⟨[], ⟨?_, rfl, hh⟩, hl, hk, hs⟩, st⟩
  rcases hq with ⟨rfl, q⟩ | ⟨rfl, q⟩
  · exact Or.inl ⟨hv, (same_list cs ds).mp q⟩
  · exact Or.inr ⟨hv, fun e => q ((same_list cs ds).mpr e)⟩
end StrChars.Road
namespace StrChars.Road
open Jvm Sem ClassFile Op Lib Jvm.Stand Jvm.Free Jvm.Free.XT
open Jvm.Lib.Cold (StaticIs)
/-- what backV says of its String, as the contracts of this text ask it: cs's low bytes, coder 0 -/
theorem codOf {cs : List Int32} {n : Nat} (hn : cs.length = n) (hb : ∀ c ∈ cs, ¬ 255 < c) : CodA cs 0 (Int32.ofNat n) ((cs.map lo8).map Value.int) := Or.inl ⟨rfl, by rw [hn], by simp [List.map_map, Function.comp_def], hb⟩
end StrChars.Road
end Jvm.Pilot.@@N@@
namespace Jvm.Pilot.@@N@@
open Jvm Jvm.ClassFile Sem Op Lib Jvm.Free Jvm.Stand Jvm.LawKit Jvm.RoadKit Bundle Jvm.Pilot.@@N@@.Jvm.D
theorem own_rep (n : Nat) (dv : Value) : ∀ i, (List.replicate n dv).getD i dv = dv := fun i => by
  rw [List.getD_eq_getElem?_getD, List.getElem?_replicate]; split <;> rfl
theorem own_cat {v : Value} (h : v.isRef = true) : v.category = 1 := by rcases ref_cases h with rfl | ⟨_, rfl⟩ <;> rfl
theorem own_narR {t : FieldType} {v : Value} (ht : t.isReference = true) (h : v.isRef = true) : narrow t v = v := by
  rcases ref_cases h with rfl | ⟨_, rfl⟩ <;> cases t <;> first | rfl | cases ht
theorem own_and255 (x : Int32) : ¬ (x &&& 255) < 0 ∧ ¬ (255 : Int32) < (x &&& 255) := by
  have t : ∀ k : Fin 256, ¬ (Int32.ofNat k.val) < 0 ∧ ¬ (255 : Int32) < (Int32.ofNat k.val) := by decide +kernel
  have h : (x &&& 255).toBitVec.toNat < 256 := by
    simp only [Int32.toBitVec_and, BitVec.toNat_and]
    exact Nat.lt_succ_of_le Nat.and_le_right
  have e : (x &&& 255) = Int32.ofNat (x &&& 255).toBitVec.toNat := by
    apply Int32.toBitVec_inj.mp
    show _ = BitVec.ofNat 32 _
    rw [BitVec.ofNat_toNat]; simp
  rw [e]
  exact t ⟨_, h⟩
theorem own_nc (x : Int32) : (Value.int (nar .char (x &&& 255))) = .int (x &&& 255) := congrArg Value.int (i2c_mask x)
theorem own_fc (x : Int32) : fits .char (.int (x &&& 255)) = true := own_nc x ▸ fits_nar_char (x &&& 255)
theorem own_up (cs : List Int32) (h : ∀ c ∈ cs, ¬ c < 0 ∧ ¬ (255 : Int32) < c) : ∀ c ∈ cs, ¬ c < 0 ∧ ¬ (65535 : Int32) < c := fun c hc => ⟨(h c hc).1, fun q => (h c hc).2 (by rw [Int32.lt_iff_toInt_lt] at q ⊢; have e1 : (65535 : Int32).toInt = 65535 := rfl; have e2 : (255 : Int32).toInt = 255 := rfl; omega)⟩
theorem own_all0 {P : Int32 → Prop} : ∀ c ∈ ([] : List Int32), P c := fun _ q => nomatch q
theorem own_allS {P : Int32 → Prop} {y : Int32} {L : List Int32} (q : P y) (r : ∀ x ∈ L, P x) : ∀ x ∈ y :: L, P x := fun x z => (List.mem_cons.mp z).elim (fun u => u ▸ q) (r x)
theorem own_n0 {Z : State} {n0 : Nat} {h : Heap} (O : Old Z n0 h) : n0 ≤ h.size := Nat.le_trans (Nat.le_of_eq O.1.symm) O.2.1
theorem own_mvMN {Z s : State} {a0 args : Array Value} {own host : String} {idx : Nat} {y : MethodName} (hZ : Z.Warmed39 s.vm) (w : (Jvm.Cond.methodLinkNest own idx y host).before a0 Z = true) : (Jvm.Cond.methodLinkNest own idx y host).before args s = true := (Cond.methodLinkNest_wide hZ w :)
theorem own_i2cE {x : Int32} (h : ¬ x < 0) (h2 : ¬ (65535 : Int32) < x) : x.toUInt32.toUInt16.toUInt32.toInt32 = x := by
  have e1 : (65535 : Int32).toInt = 65535 := rfl
  simp only [Int32.lt_iff_toInt_lt, Int32.toInt_zero, e1] at h h2
  have hn : x.toBitVec.toNat < 65536 := by
    have q : x.toBitVec.toInt = x.toInt := rfl
    rw [BitVec.toInt_eq_toNat_cond] at q
    have := x.toBitVec.isLt
    split at q <;> omega
  apply Int32.toBitVec_inj.mp
  apply BitVec.eq_of_toNat_eq
  show ((x.toBitVec.setWidth 16).setWidth 32).toNat = _
  rw [BitVec.toNat_setWidth, BitVec.toNat_setWidth]
  omega
theorem own_ncW {x : Int32} (h : ¬ x < 0) (h2 : ¬ (65535 : Int32) < x) : (Value.int (nar .char x)) = .int x := congrArg Value.int (own_i2cE h h2)
theorem own_fcW {x : Int32} (h : ¬ x < 0) (h2 : ¬ (65535 : Int32) < x) : fits .char (.int x) = true := own_ncW h h2 ▸ fits_nar_char x
theorem own_up1 {x : Int32} (h : ¬ x < 0 ∧ ¬ (255 : Int32) < x) : ¬ x < 0 ∧ ¬ (65535 : Int32) < x := own_up [x] (own_allS h own_all0) x (by simp)
theorem own_ncB {x : Int32} (h : ¬ x < 0 ∧ ¬ (255 : Int32) < x) : (Value.int (nar .char x)) = .int x := own_ncW (own_up1 h).1 (own_up1 h).2
theorem own_fcB {x : Int32} (h : ¬ x < 0 ∧ ¬ (255 : Int32) < x) : fits .char (.int x) = true := own_fcW (own_up1 h).1 (own_up1 h).2
theorem own_narC {x : Int32} (h : ¬ x < 0 ∧ ¬ (65535 : Int32) < x) : narrow .char (.int x) = .int x := congrArg Value.int (own_i2cE h.1 h.2)
def own_Mine (Z : State) (EL : List (String × Nat)) (n0 : Nat) (vm : Vm) (h : Heap) (ms : List Addr) : Prop := ∀ x ∈ ms, n0 ≤ x ∧ x < h.size ∧ Safe Z EL vm h x
def own_Go (Z : State) (EL : List (String × Nat)) (n0 : Nat) (p : Program) (e : Env) (below : List Frame) (s : State) (k n : Nat) (Q : Option Value → Heap → List Addr → Prop) (cur : State) : Prop :=
  ∃ s₂ o, Steps p.tables e below cur s₂ ∧ s₂.status = .running ∧ Ended s₂ below o ∧ ∃ v L ms, o = .returned v ∧ Q v s₂.heap ms ∧ Fr n0 L ∧ Old Z n0 s₂.heap ∧ own_Mine Z EL n0 s₂.vm s₂.heap ms ∧ CHr Z EL s.vm s.heap s₂.vm s₂.heap ∧ ReturnedEndW s o s₂ L k n
def own_Ct (l : Launch) (Z : State) (EL : List (String × Nat)) (n0 : Nat) (y : MethodName) (bytes : ByteArray) (maxL : Nat) (ret : Option FieldType) (ws : List Jvm.Cond) (rm : Room) (as' : Array Value) (h0 : Heap) (ms0 : List Addr) (Q : Option Value → Heap → List Addr → Prop) : Prop :=
  MetFree l y (head1 (Jvm.Cond.code y bytes maxL ret :: ws) rm) (fun a U => a = as' ∧ Z.Warmed39 U.vm ∧ U.heap = h0 ∧ CHv Z EL U.vm h0 ∧ own_Mine Z EL n0 U.vm h0 ms0) (fun _ _ _ _ _ => True)
    (fun _ U o U' => ∃ v L ms, o = .returned v ∧ Q v U'.heap ms ∧ Fr n0 L ∧ Old Z n0 U'.heap ∧ own_Mine Z EL n0 U'.vm U'.heap ms ∧ CHr Z EL U.vm U.heap U'.vm U'.heap ∧ ReturnedEndW U o U' L rm.cells rm.slots)
def own_Wk (Z : State) (EL : List (String × Nat)) (n0 : Nat) (own : String) (bytes : ByteArray) (maxL : Nat) (ret : Option FieldType) (nm : String) (p : Program) (l : Launch) (e : Env) (R : Room) (s : State) (m : MethodId) (args : Array Value) (below : List Frame) (meth : Method) (c : Code)
    (T : State) (ms : List Addr) (k n : Nat) (h : Heap) : Prop :=
  p.tables.exec = Jvm.exec ∧ c.code = bytes ∧ c.maxLocals = maxL ∧ meth.sig.returnType = ret ∧ meth.locks = false ∧ meth.name = nm ∧
  ∃ (locs : List Loc) (vm0 : Vm) (k0 : Nat) (a1 : Array Value), Stand p l e R (s.setVm vm0) m args below meth c T locs k n ∧ T.heap = h ∧ Z.Warmed39 vm0 ∧ vm0.findClass own = some m.cls ∧ Fr n0 locs ∧ Old Z n0 h ∧ own_Mine Z EL n0 vm0 h ms ∧ s.Since vm0 k0 ∧ k0 ≤ h.size ∧ CHr Z EL s.vm s.heap vm0 h ∧ EW Z a1 EL
section OwnKit
variable {Z : State} {EL : List (String × Nat)} {n0 : Nat} {own : String} {bytes : ByteArray} {maxL : Nat} {ret : Option FieldType} {nm : String} {p : Program} {l : Launch} {e : Env} {R : Room} {s : State} {m : MethodId} {args : Array Value} {below : List Frame} {meth : Method} {c : Code}
  {T : State} {ms : List Addr} {k n : Nat} {h : Heap} {a0 : Array Value} {K N : Nat} {Q : Option Value → Heap → List Addr → Prop} {pc pc' : Nat} {Ls Ls' : Array Slot} {st : List Value} {a : Addr}
theorem own_go {cur nxt : State} (q : ∀ t, Steps p.tables e below nxt t → Steps p.tables e below cur t) (g : own_Go Z EL n0 p e below s K N Q nxt) : own_Go Z EL n0 p e below s K N Q cur := by
  obtain ⟨s₂, o, h, r⟩ := g; exact ⟨s₂, o, q _ h, r⟩
theorem own_here (w : own_Wk Z EL n0 own bytes maxL ret nm p l e R s m args below meth c T ms k n h) : At T m c below := by
  obtain ⟨-, -, -, -, -, -, locs, vm0, k0, a1, X, -⟩ := w; exact X.here
theorem own_dec (w : own_Wk Z EL n0 own bytes maxL ret nm p l e R s m args below meth c T ms k n h) {r : Except DecodeError (Instr × Nat)} (hd : decode bytes pc = r) : decode c.code pc = r := w.2.1 ▸ hd
theorem own_old (w : own_Wk Z EL n0 own bytes maxL ret nm p l e R s m args below meth c T ms k n h) : Old Z n0 h := by
  obtain ⟨-, -, -, -, -, -, locs, vm0, k0, a1, -, -, -, -, -, O, -⟩ := w; exact O
theorem own_mine (w : own_Wk Z EL n0 own bytes maxL ret nm p l e R s m args below meth c T ms k n h) : ∀ x ∈ ms, n0 ≤ x ∧ x < h.size := by
  obtain ⟨-, -, -, -, -, -, locs, vm0, k0, a1, -, -, -, -, -, -, M, -⟩ := w; exact fun x hx => ⟨(M x hx).1, (M x hx).2.1⟩
theorem own_more (w : own_Wk Z EL n0 own bytes maxL ret nm p l e R s m args below meth c T ms k n h) {k' n' : Nat} {ms' : List Addr} (hk : k ≤ k') (hn : n ≤ n') (hm : ∀ x ∈ ms', x ∈ ms) : own_Wk Z EL n0 own bytes maxL ret nm p l e R s m args below meth c T ms' k' n' h := by
  obtain ⟨h1, h2, h3, h4, h5, h6, locs, vm0, k0, a1, X, h7, h8, h9, h10, h11, M, r⟩ := w
  exact ⟨h1, h2, h3, h4, h5, h6, locs, vm0, k0, a1, X.more hk hn, h7, h8, h9, h10, h11, fun x hx => M x (hm x hx), r⟩
theorem own_enter {y : MethodName} {ws : List Jvm.Cond} {rm : Room} {as' : Array Value} {h0 : Heap} {ms0 : List Addr} (hp : plainFor y = true) (hE : EW Z a0 EL) (O : Old Z n0 h0)
    (body : ∀ p e s m below meth c T, own_Wk Z EL n0 y.cls bytes maxL ret y.name p l e rm s m as' below meth c T ms0 0 0 h0 → own_Go Z EL n0 p e below s rm.cells rm.slots Q (T.setTop (entryFrame m as' maxL))) :
    own_Ct l Z EL n0 y bytes maxL ret ws rm as' h0 ms0 Q := by
  refine MetFree.of_bodySF hp hisR ?_
  intro p e s m args below meth c s₁ Bd hml hP _
  obtain ⟨rfl, hZ, hh, hC, hM⟩ := hP
  have e0 : s₁.heap = h0 := by rw [← hh, Bd.state]; rfl
  subst hh
  exact body p e s m below meth c s₁ ⟨Bd.exec, Bd.bytes, hml, Bd.returns, Bd.notSynchronized, (name_of_methodNamed Bd.named Bd.method).1, [], s.vm, 0, a0, Stand.of_body Bd, e0, hZ, findClass_of_methodNamed Bd.named, Fr.nil n0, O, hM, (State.WarmedH.refl s).since 0, Nat.zero_le _, CHr.refl hC, hE⟩
theorem own_core (w : own_Wk Z EL n0 own bytes maxL ret nm p l e R s m args below meth c T ms k n h) {k' n' : Nat} {ws : List Addr} {F : JFrame} {P : Heap → List Addr → JFrame → Prop} (hws : ∀ x ∈ ws, x ∈ ms)
    (f : ∀ (s' : State) (locs : List Loc), Stand p l e R s' m args below meth c T locs k n → T.heap = h → Z.Warmed39 s'.vm → s'.vm.findClass own = some m.cls →
      ∃ (T' : State) (h' : Heap) (L : List Loc) (new : List Addr) (F' : JFrame), Stand p l e R s' m args below meth c T' (locs ++ L) k' n' ∧ T'.heap = h' ∧ Keep h h' ws ∧ Fr n0 L ∧ (∀ x ∈ new, h.size ≤ x ∧ x < h'.size) ∧ P h' new F' ∧ ∀ t, Steps p.tables e below (T'.setTop F') t → Steps p.tables e below (T.setTop F) t)
    (g : ∀ (T' : State) (h' : Heap) (new : List Addr) (F' : JFrame), own_Wk Z EL n0 own bytes maxL ret nm p l e R s m args below meth c T' (new ++ ms) k' n' h' → Keep h h' ws → P h' new F' → own_Go Z EL n0 p e below s K N Q (T'.setTop F')) : own_Go Z EL n0 p e below s K N Q (T.setTop F) := by
  obtain ⟨h1, h2, h3, h4, h5, h6, locs, vm0, k0, a1, X, eT, hZ, hown, Nf, O, M, hS, hk0, hC, hEW⟩ := w
  obtain ⟨T', h', L, new, F', X', e', Kp, NL, hnew, hP, st'⟩ := f (s.setVm vm0) locs X eT hZ hown
  have hsf : ∀ x ∈ ws, Safe Z EL vm0 h x := fun x hx => (M x (hws x hx)).2.2
  refine own_go st' (g T' h' new F' ⟨h1, h2, h3, h4, h5, h6, locs ++ L, vm0, k0, a1, X', e', hZ, hown, Nf.app NL, O.keep Kp (fun x hx => (M x (hws x hx)).1), fun x hx => ?_, hS, Nat.le_trans hk0 Kp.1, hC.trans (CHr.keep Kp hsf hC.1), hEW⟩ Kp hP)
  rcases List.mem_append.mp hx with q | q
  · refine ⟨Nat.le_trans (Nat.le_trans (Nat.le_of_eq O.1.symm) O.2.1) (hnew x q).1, (hnew x q).2, fun B => ?_⟩
    obtain ⟨cell, z⟩ := ((hC.1.keepStep Kp hsf).2 x B).there
    exact absurd (Array.getElem?_eq_some_iff.mp z).1 (Nat.not_lt.mpr (hnew x q).1)
  · exact ⟨(M x q).1, Nat.lt_of_lt_of_le (M x q).2.1 Kp.1, (M x q).2.2.keep Kp hsf hC.1⟩
theorem own_pure (w : own_Wk Z EL n0 own bytes maxL ret nm p l e R s m args below meth c T ms k n h) {F F' : JFrame} (f : ∀ (s' : State) (locs : List Loc), Stand p l e R s' m args below meth c T locs k n → T.heap = h → Z.Warmed39 s'.vm → s'.vm.findClass own = some m.cls → ∀ t, Steps p.tables e below (T.setTop F') t → Steps p.tables e below (T.setTop F) t) (g : own_Go Z EL n0 p e below s K N Q (T.setTop F')) : own_Go Z EL n0 p e below s K N Q (T.setTop F) := by
  obtain ⟨h1, h2, h3, h4, h5, h6, locs, vm0, k0, a1, X, eT, hZ, hown, -⟩ := w
  exact own_go (f (s.setVm vm0) locs X eT hZ hown) g
theorem own_retV (w : own_Wk Z EL n0 own bytes maxL ret nm p l e R s m args below meth c T ms k n h) {t : FieldType} {i : Instr} {v : Value} (hret : ret = some t) (hv : narrow t v = v)
    (hi : (i = .ireturn ∧ (t = .int ∨ t = .boolean ∨ t = .byte ∨ t = .char ∨ t = .short) ∧ ∃ z, v = .int z) ∨ (i = .lreturn ∧ t = .long ∧ ∃ z, v = .long z) ∨ (i = .dreturn ∧ t = .double ∧ ∃ z, v = .double z) ∨ (i = .freturn ∧ t = .float ∧ ∃ z, v = .float z) ∨ (i = .areturn ∧ t.isReference = true ∧ v.isRef = true))
    (hd : decode bytes pc = .ok (i, 1)) (hk : k ≤ K) (hn : n ≤ N) {ms' : List Addr} (hm : ∀ x ∈ ms', x ∈ ms) (hQ : Q (some v) h ms') : own_Go Z EL n0 p e below s K N Q (T.setTop (mkF m pc Ls (v :: st))) := by
  obtain ⟨h1, h2, h3, h4, h5, h6, locs, vm0, k0, a1, X, eT, hZ, hown, Nf, O, M, hS, hk0, hC, hEW⟩ := w
  subst eT
  obtain ⟨fs, hr, hrun, hended, hEnd⟩ := X.leaveW hS hk0 (v := some v) (fun q => by rw [h4, hret] at q; cases q) h5
  have A := CHv.at X hZ hEW hC.1
  exact ⟨_, _, retOut X h1 (h4.trans hret) hv hi (h2 ▸ hd) hr, hrun, hended, _, locs, ms', rfl, hQ, Nf, O, fun x hx => ⟨(M x (hm x hx)).1, (M x (hm x hx)).2.1, A.safe (M x (hm x hx)).2.1 (M x (hm x hx)).2.2⟩, hC.trans A, ⟨_, rfl⟩, hEnd.2.1, hEnd.2.2.1, hEnd.2.2.2.mono hk hn⟩
theorem own_ret0 (w : own_Wk Z EL n0 own bytes maxL ret nm p l e R s m args below meth c T ms k n h) (hret : ret = none) (hd : decode bytes pc = .ok (.return_, 1)) (hk : k ≤ K) (hn : n ≤ N) {ms' : List Addr} (hm : ∀ x ∈ ms', x ∈ ms) (hQ : Q none h ms') : own_Go Z EL n0 p e below s K N Q (T.setTop (mkF m pc Ls [])) := by
  obtain ⟨h1, h2, h3, h4, h5, h6, locs, vm0, k0, a1, X, eT, hZ, hown, Nf, O, M, hS, hk0, hC, hEW⟩ := w
  subst eT
  obtain ⟨fs, hr, hrun, hended, hEnd⟩ := X.leaveW hS hk0 (v := none) (fun _ => rfl) h5
  have A := CHv.at X hZ hEW hC.1
  exact ⟨_, _, X.returnOut h1 (h4.trans hret) (h2 ▸ hd) hr, hrun, hended, _, locs, ms', rfl, hQ, Nf, O, fun x hx => ⟨(M x (hm x hx)).1, (M x (hm x hx)).2.1, A.safe (M x (hm x hx)).2.1 (M x (hm x hx)).2.2⟩, hC.trans A, ⟨_, rfl⟩, hEnd.2.1, hEnd.2.2.1, hEnd.2.2.2.mono hk hn⟩
theorem own_back {y : MethodName} {bytes' : ByteArray} {maxL' : Nat} {ret' : Option FieldType} {rm' : Room} {as' : Array Value} {ms0 : List Addr} {Q' : Option Value → Heap → List Addr → Prop} {len W : Nat} {vm0 : Vm} {a1 : Array Value}
    (ct : own_Ct l Z EL n0 y bytes' maxL' ret' [] rm' as' h ms0 Q') (hZ : Z.Warmed39 vm0) (wc : (Jvm.Cond.code y bytes' maxL' ret').before a0 Z = true) (wz : (Jvm.Cond.initialized y.cls).before a0 Z = true) (hM : own_Mine Z EL n0 vm0 h ms0) (hf : rm'.frames + 1 ≤ R.frames) (hl : W + (maxL' + 11) + rm'.locals ≤ R.locals) (hEL : EW Z a1 EL) (H : CHv Z EL vm0 h) :
    BackS l R p e below (s.setVm vm0) args y len W (fun A a => a = as' ∧ A.U.heap = h ∧ A.cells + rm'.cells ≤ R.cells ∧ A.slots + rm'.slots ≤ R.slots)
      (fun A _ v B => ∃ L ms', Q' v B.U.heap ms' ∧ Fr n0 L ∧ Old Z n0 B.U.heap ∧ own_Mine Z EL n0 B.U.vm B.U.heap ms' ∧ CHr Z EL vm0 h B.U.vm B.U.heap ∧ B.locs = A.locs ++ L ∧ B.cells = A.cells + rm'.cells ∧ B.slots = A.slots + rm'.slots) :=
  BackS.of_freeW (bytes := bytes') (maxL := maxL') (ret := ret') (E := fun _ first o t L k n => k = rm'.cells ∧ n = rm'.slots ∧ (∃ v ms', o = .returned v ∧ Q' v t.heap ms' ∧ Fr n0 L ∧ Old Z n0 t.heap ∧ own_Mine Z EL n0 t.vm t.heap ms') ∧ CHr Z EL first.vm first.heap t.vm t.heap) ct hf hl
    (fun m meth c A a Y hp => have hU : Z.Warmed39 A.U.vm := wtrans (s := s.setVm vm0) hZ Y.warmed
      ⟨by show (Jvm.Cond.and _ .tt).before a A.U = true; rw [Cond.before_and, mv hU wc]; rfl, mv hU wc, mv hU wz, hp.2.2.1, hp.2.2.2⟩)
    (fun m meth c A a g mk Y hp => ⟨hp.1, wtrans (s := s.setVm vm0) hZ Y.warmed, hp.2.1, (CHv.at Y hZ hEL H).1, fun x hx => ⟨(hM x hx).1, (hM x hx).2.1, (CHv.at Y hZ hEL H).safe (hM x hx).2.1 (hM x hx).2.2⟩⟩) (fun _ _ _ _ _ _ _ _ _ => trivial)
    (fun _ _ _ _ ⟨v, L, ms', h1, h2, h3, h4, h5, h6, h7⟩ => ⟨L, _, _, h7, rfl, rfl, ⟨v, ms', h1, h2, h3, h4, h5⟩, h6⟩)
    (fun m meth c A a g mk v t L k n Y hp _ _ ⟨e1, e2, ⟨v', ms', e3, e4, e5, e6, e7⟩, e8⟩ => by
      cases e3; subst e1 e2
      refine ⟨L, ms', e4, e5, e6, e7, (CHv.at Y hZ hEL H).trans ?_, rfl, rfl, rfl⟩
      rw [← hp.2.1]; exact e8)
theorem own_callS (w : own_Wk Z EL n0 own bytes maxL ret nm p l e R s m args below meth c T ms k n h) {idx : Nat} {y : MethodName} {bytes' : ByteArray} {maxL' : Nat} {ret' : Option FieldType} {rm' : Room} {argsL rest : List Value} {ms0 : List Addr} {Q' : Option Value → Heap → List Addr → Prop} {ps : List FieldType} {rt : Option FieldType}
    (wl : (Jvm.Cond.methodLink own idx y).before a0 Z = true) (wt : (Jvm.Cond.static y).before a0 Z = true) (wz : (Jvm.Cond.initialized y.cls).before a0 Z = true) (wc : (Jvm.Cond.code y bytes' maxL' ret').before a0 Z = true) (hy : y.cls ≠ "java/lang/invoke/MethodHandle" ∧ y.cls ≠ "java/lang/invoke/VarHandle")
    (ct : own_Ct l Z EL n0 y bytes' maxL' ret' [] rm' argsL.toArray h ms0 Q') (hms : ∀ x ∈ ms0, x ∈ ms) (hst : st = argsL.reverse ++ rest) (hsz : Ls.size = maxL) (hpd : parseMethodDescriptor y.desc = some ⟨ps, rt⟩) (hln : argsL.length = ps.length) (hd : decode bytes pc = .ok (.invokestatic idx, 3)) (hp : pc + 3 = pc')
    (hf : rm'.frames + 1 ≤ R.frames) {W : Nat} (hW : (rest.map fun v => v.category).sum = W) (hl : W + (maxL' + 11) + rm'.locals ≤ R.locals) (hc : k + rm'.cells ≤ R.cells) (hn : n + rm'.slots ≤ R.slots)
    (g : ∀ (T' : State) (h' : Heap) (v : Option Value) (ms' : List Addr), own_Wk Z EL n0 own bytes maxL ret nm p l e R s m args below meth c T' (ms' ++ ms) (k + rm'.cells) (n + rm'.slots) h' → Q' v h' ms' → own_Go Z EL n0 p e below s K N Q (T'.setTop (mkF m pc' Ls (v.toList ++ rest)))) :
    own_Go Z EL n0 p e below s K N Q (T.setTop (mkF m pc Ls st)) := by
  subst hp hst
  obtain ⟨h1, h2, h3, h4, h5, h6, locs, vm0, k0, a1, X, eT, hZ, hown, Nf, O, M, hS, hk0, hC, hEW⟩ := w
  have hZ0 : Z.Warmed39 (s.setVm vm0).vm := hZ
  obtain ⟨v, _, ⟨T', L', k', n'⟩, -, X', hS2, hgr, ⟨L, ms', hQ, NL, O', M', C', l1, l2, l3⟩, st'⟩ := callSS X h1 (y := y) hown (mvT hZ0 wl) (mvT hZ0 wt) (mvT hZ0 wz) (mvT hZ0 wc) hy (own_back (s := s) (W := W) ct hZ wc wz (fun x hx => M x (hms x hx)) hf hl hEW hC.1) (g := mkF m pc Ls (argsL.reverse ++ rest)) rfl (by rw [h3]; exact hsz) (argsL := argsL) (rest := rest) (lenOf hpd hln) rfl (by show 2 * 0 + _ ≤ _; rw [hW]; omega) (h2 ▸ hd) (fun _ _ => ⟨rfl, eT, hc, hn⟩)
  dsimp only [Pt.U, Pt.locs, Pt.cells, Pt.slots] at X' hS2 hgr hQ O' M' C' l1 l2 l3 st'
  subst l1 l2 l3
  refine own_go (fun _ q => st'.trans q) (g T' _ v ms' ⟨h1, h2, h3, h4, h5, h6, locs ++ L, T'.vm, T'.heap.size, a1, X', rfl, State.Warmed39.trans (t := s.setVm vm0) hZ hS2.1, by rw [hS2.1.alike.findClass]; exact hown, Nf.app NL, O', fun x hx => ?_, hS.trans hS2 (Nat.le_trans hk0 (by rw [← eT]; exact hgr)), Nat.le_refl _, hC.trans C', hEW⟩ hQ)
  rcases List.mem_append.mp hx with q | q
  · exact M' x q
  · exact ⟨(M x q).1, Nat.lt_of_lt_of_le (M x q).2.1 C'.2.1, C'.safe (M x q).2.1 (M x q).2.2⟩
theorem own_callI (w : own_Wk Z EL n0 own bytes maxL ret nm p l e R s m args below meth c T ms k n h) {idx : Nat} {y : MethodName} {bytes' : ByteArray} {maxL' : Nat} {rm' : Room} {argsL rest : List Value} {ms0 : List Addr} {Q' : Option Value → Heap → List Addr → Prop} {ps : List FieldType} {rt : Option FieldType}
    (hy1 : y.name = "<init>") (wl : (Jvm.Cond.methodLink own idx y).before a0 Z = true) (wt : (Jvm.Cond.instanceMethod y).before a0 Z = true) (wz : (Jvm.Cond.initialized y.cls).before a0 Z = true) (wc : (Jvm.Cond.code y bytes' maxL' none).before a0 Z = true) (hy : y.cls ≠ "java/lang/invoke/MethodHandle" ∧ y.cls ≠ "java/lang/invoke/VarHandle")
    (ct : own_Ct l Z EL n0 y bytes' maxL' none [] rm' (.ref a :: argsL).toArray h ms0 Q') (hms : ∀ x ∈ ms0, x ∈ ms) (hst : st = argsL.reverse ++ .ref a :: rest) (hsz : Ls.size = maxL) (hpd : parseMethodDescriptor y.desc = some ⟨ps, rt⟩) (hln : argsL.length = ps.length) (hd : decode bytes pc = .ok (.invokespecial idx, 3)) (hp : pc + 3 = pc')
    (hf : rm'.frames + 1 ≤ R.frames) {W : Nat} (hW : (rest.map fun v => v.category).sum = W) (hl : W + (maxL' + 11) + rm'.locals ≤ R.locals) (hc : k + rm'.cells ≤ R.cells) (hn : n + rm'.slots ≤ R.slots)
    (g : ∀ (T' : State) (h' : Heap) (v : Option Value) (ms' : List Addr), own_Wk Z EL n0 own bytes maxL ret nm p l e R s m args below meth c T' (ms' ++ ms) (k + rm'.cells) (n + rm'.slots) h' → Q' v h' ms' → own_Go Z EL n0 p e below s K N Q (T'.setTop (mkF m pc' Ls (v.toList ++ rest)))) :
    own_Go Z EL n0 p e below s K N Q (T.setTop (mkF m pc Ls st)) := by
  subst hp hst
  obtain ⟨h1, h2, h3, h4, h5, h6, locs, vm0, k0, a1, X, eT, hZ, hown, Nf, O, M, hS, hk0, hC, hEW⟩ := w
  have hZ0 : Z.Warmed39 (s.setVm vm0).vm := hZ
  obtain ⟨v, _, ⟨T', L', k', n'⟩, -, X', hS2, hgr, ⟨L, ms', hQ, NL, O', M', C', l1, l2, l3⟩, st'⟩ := X.specialBackS h1 (y := y) hy1 hown (mvT hZ0 wl) (mvT hZ0 wt) (mvT hZ0 wc) hy (own_back (s := s) (W := W) ct hZ wc wz (fun x hx => M x (hms x hx)) hf hl hEW hC.1) (g := mkF m pc Ls (argsL.reverse ++ .ref a :: rest)) rfl (by rw [h3]; exact hsz) (Steps.refl _) (a := a) (argsL := argsL) (rest := rest) (lenOf hpd hln) rfl (by show 2 * 0 + _ ≤ _; rw [hW]; omega) (h2 ▸ hd) (fun _ _ => ⟨rfl, eT, hc, hn⟩)
  dsimp only [Pt.U, Pt.locs, Pt.cells, Pt.slots] at X' hS2 hgr hQ O' M' C' l1 l2 l3 st'
  subst l1 l2 l3
  refine own_go (fun _ q => st'.trans q) (g T' _ v ms' ⟨h1, h2, h3, h4, h5, h6, locs ++ L, T'.vm, T'.heap.size, a1, X', rfl, State.Warmed39.trans (t := s.setVm vm0) hZ hS2.1, by rw [hS2.1.alike.findClass]; exact hown, Nf.app NL, O', fun x hx => ?_, hS.trans hS2 (Nat.le_trans hk0 (by rw [← eT]; exact hgr)), Nat.le_refl _, hC.trans C', hEW⟩ hQ)
  rcases List.mem_append.mp hx with q | q
  · exact M' x q
  · exact ⟨(M x q).1, Nat.lt_of_lt_of_le (M x q).2.1 C'.2.1, C'.safe (M x q).2.1 (M x q).2.2⟩
theorem own_callIN (w : own_Wk Z EL n0 own bytes maxL ret nm p l e R s m args below meth c T ms k n h) {idx : Nat} {y : MethodName} {host : String} {bytes' : ByteArray} {maxL' : Nat} {rm' : Room} {argsL rest : List Value} {ms0 : List Addr} {Q' : Option Value → Heap → List Addr → Prop} {ps : List FieldType} {rt : Option FieldType}
    (hy1 : y.name = "<init>") (wl : (Jvm.Cond.methodLinkNest own idx y host).before a0 Z = true) (wt : (Jvm.Cond.instanceMethod y).before a0 Z = true) (wz : (Jvm.Cond.initialized y.cls).before a0 Z = true) (wc : (Jvm.Cond.code y bytes' maxL' none).before a0 Z = true) (hy : y.cls ≠ "java/lang/invoke/MethodHandle" ∧ y.cls ≠ "java/lang/invoke/VarHandle")
    (ct : own_Ct l Z EL n0 y bytes' maxL' none [] rm' (.ref a :: argsL).toArray h ms0 Q') (hms : ∀ x ∈ ms0, x ∈ ms) (hst : st = argsL.reverse ++ .ref a :: rest) (hsz : Ls.size = maxL) (hpd : parseMethodDescriptor y.desc = some ⟨ps, rt⟩) (hln : argsL.length = ps.length) (hd : decode bytes pc = .ok (.invokespecial idx, 3)) (hp : pc + 3 = pc')
    (hf : rm'.frames + 1 ≤ R.frames) {W : Nat} (hW : (rest.map fun v => v.category).sum = W) (hl : W + (maxL' + 11) + rm'.locals ≤ R.locals) (hc : k + rm'.cells ≤ R.cells) (hn : n + rm'.slots ≤ R.slots)
    (g : ∀ (T' : State) (h' : Heap) (v : Option Value) (ms' : List Addr), own_Wk Z EL n0 own bytes maxL ret nm p l e R s m args below meth c T' (ms' ++ ms) (k + rm'.cells) (n + rm'.slots) h' → Q' v h' ms' → own_Go Z EL n0 p e below s K N Q (T'.setTop (mkF m pc' Ls (v.toList ++ rest)))) :
    own_Go Z EL n0 p e below s K N Q (T.setTop (mkF m pc Ls st)) := by
  subst hp hst
  obtain ⟨h1, h2, h3, h4, h5, h6, locs, vm0, k0, a1, X, eT, hZ, hown, Nf, O, M, hS, hk0, hC, hEW⟩ := w
  have hZ0 : Z.Warmed39 (s.setVm vm0).vm := hZ
  obtain ⟨v, _, ⟨T', L', k', n'⟩, -, X', hS2, hgr, ⟨L, ms', hQ, NL, O', M', C', l1, l2, l3⟩, st'⟩ := X.specialBackNestS h1 (y := y) hy1 hown (own_mvMN hZ0 wl) (mvT hZ0 wt) (mvT hZ0 wc) hy (own_back (s := s) (W := W) ct hZ wc wz (fun x hx => M x (hms x hx)) hf hl hEW hC.1) (g := mkF m pc Ls (argsL.reverse ++ .ref a :: rest)) rfl (by rw [h3]; exact hsz) (Steps.refl _) (a := a) (argsL := argsL) (rest := rest) (lenOf hpd hln) rfl (by show 2 * 0 + _ ≤ _; rw [hW]; omega) (h2 ▸ hd) (fun _ _ => ⟨rfl, eT, hc, hn⟩)
  dsimp only [Pt.U, Pt.locs, Pt.cells, Pt.slots] at X' hS2 hgr hQ O' M' C' l1 l2 l3 st'
  subst l1 l2 l3
  refine own_go (fun _ q => st'.trans q) (g T' _ v ms' ⟨h1, h2, h3, h4, h5, h6, locs ++ L, T'.vm, T'.heap.size, a1, X', rfl, State.Warmed39.trans (t := s.setVm vm0) hZ hS2.1, by rw [hS2.1.alike.findClass]; exact hown, Nf.app NL, O', fun x hx => ?_, hS.trans hS2 (Nat.le_trans hk0 (by rw [← eT]; exact hgr)), Nat.le_refl _, hC.trans C', hEW⟩ hQ)
  rcases List.mem_append.mp hx with q | q
  · exact M' x q
  · exact ⟨(M x q).1, Nat.lt_of_lt_of_le (M x q).2.1 C'.2.1, C'.safe (M x q).2.1 (M x q).2.2⟩
theorem own_callV (w : own_Wk Z EL n0 own bytes maxL ret nm p l e R s m args below meth c T ms k n h) {idx : Nat} {C : String} {y z : MethodName} {bytes' : ByteArray} {maxL' : Nat} {ret' : Option FieldType} {rm' : Room} {argsL rest : List Value} {ms0 : List Addr} {Q' : Option Value → Heap → List Addr → Prop} {ps : List FieldType} {rt : Option FieldType}
    (wl : (Jvm.Cond.methodLink own idx y).before a0 Z = true) (wd : (Jvm.Cond.declares y).before a0 Z = true) (hnf : ∀ s' : State, Z.Warmed39 s'.vm → NotFace s' y) (ws : (Jvm.Cond.selects C y z).before a0 Z = true) (wt : (Jvm.Cond.instanceMethod z).before a0 Z = true) (wz : (Jvm.Cond.initialized z.cls).before a0 Z = true) (wc : (Jvm.Cond.code z bytes' maxL' ret').before a0 Z = true) (hy : y.cls ≠ "java/lang/invoke/MethodHandle" ∧ y.cls ≠ "java/lang/invoke/VarHandle")
    (E : Exa Z h a C) (ct : own_Ct l Z EL n0 z bytes' maxL' ret' [] rm' (.ref a :: argsL).toArray h ms0 Q') (hms : ∀ x ∈ ms0, x ∈ ms) (hst : st = argsL.reverse ++ .ref a :: rest) (hsz : Ls.size = maxL) (hpd : parseMethodDescriptor y.desc = some ⟨ps, rt⟩) (hln : argsL.length = ps.length) (hd : decode bytes pc = .ok (.invokevirtual idx, 3)) (hp : pc + 3 = pc')
    (hf : rm'.frames + 1 ≤ R.frames) {W : Nat} (hW : (rest.map fun v => v.category).sum = W) (hl : W + (maxL' + 11) + rm'.locals ≤ R.locals) (hc : k + rm'.cells ≤ R.cells) (hn : n + rm'.slots ≤ R.slots)
    (g : ∀ (T' : State) (h' : Heap) (v : Option Value) (ms' : List Addr), own_Wk Z EL n0 own bytes maxL ret nm p l e R s m args below meth c T' (ms' ++ ms) (k + rm'.cells) (n + rm'.slots) h' → Q' v h' ms' → own_Go Z EL n0 p e below s K N Q (T'.setTop (mkF m pc' Ls (v.toList ++ rest)))) :
    own_Go Z EL n0 p e below s K N Q (T.setTop (mkF m pc Ls st)) := by
  subst hp hst
  obtain ⟨h1, h2, h3, h4, h5, h6, locs, vm0, k0, a1, X, eT, hZ, hown, Nf, O, M, hS, hk0, hC, hEW⟩ := w
  have hZ0 : Z.Warmed39 (s.setVm vm0).vm := hZ
  obtain ⟨cq, kq, qa, qb, qc⟩ := isOf hZ0 eT E
  obtain ⟨v, _, ⟨T', L', k', n'⟩, -, X', hS2, hgr, ⟨L, ms', hQ, NL, O', M', C', l1, l2, l3⟩, st'⟩ := X.virtualBackS h1 (y := y) (z := z) hown (mvT hZ0 wl) (mvT hZ0 wd) (hnf _ hZ0) (mvT hZ0 ws) (mvT hZ0 wt) hy (own_back (s := s) (W := W) ct hZ wc wz (fun x hx => M x (hms x hx)) hf hl hEW hC.1) qa qc (g := mkF m pc Ls (argsL.reverse ++ .ref a :: rest)) rfl (by rw [h3]; exact hsz) (Steps.refl _) (argsL := argsL) (rest := rest) (lenOf hpd hln) rfl (by show 2 * 0 + _ ≤ _; rw [hW]; omega) (h2 ▸ hd) (fun _ _ => ⟨rfl, eT, hc, hn⟩)
  dsimp only [Pt.U, Pt.locs, Pt.cells, Pt.slots] at X' hS2 hgr hQ O' M' C' l1 l2 l3 st'
  subst l1 l2 l3
  refine own_go (fun _ q => st'.trans q) (g T' _ v ms' ⟨h1, h2, h3, h4, h5, h6, locs ++ L, T'.vm, T'.heap.size, a1, X', rfl, State.Warmed39.trans (t := s.setVm vm0) hZ hS2.1, by rw [hS2.1.alike.findClass]; exact hown, Nf.app NL, O', fun x hx => ?_, hS.trans hS2 (Nat.le_trans hk0 (by rw [← eT]; exact hgr)), Nat.le_refl _, hC.trans C', hEW⟩ hQ)
  rcases List.mem_append.mp hx with q | q
  · exact M' x q
  · exact ⟨(M x q).1, Nat.lt_of_lt_of_le (M x q).2.1 C'.2.1, C'.safe (M x q).2.1 (M x q).2.2⟩
theorem own_ldcS (w : own_Wk Z EL n0 own bytes maxL ret nm p l e R s m args below meth c T ms k n h) {idx nn : Nat} {text : String} {vs : List Value} {z : Int32} (wl : (Jvm.Cond.stringLink own idx text).before a0 Z = true) (wS : ∀ a ∈ Bundle.stringAtoms, a.before a0 Z = true) (hmem : (own, idx) ∈ EL) (ht : (∀ c ∈ text.toList, c.toNat < 256) ∧ text.toList.map (fun c => Value.int (Jvm.Lit.byteI c.toNat.toUInt16)) = vs) (hz : ¬ z < 0) (hzl : z.toNatClampNeg = vs.length)
    (hd : decode bytes pc = .ok (.ldc idx, 2)) (hp : pc + 2 = pc') (hn : 4 * text.toList.length ≤ nn) (hbig : nn ≤ 536870912) (hc : k + 2 ≤ R.cells) (hl : n + (nn + 4) ≤ R.slots) (hE : EW Z a0 EL)
    (g : ∀ (T' : State) (h' : Heap) (a b : Addr) (kb : ClassId), own_Wk Z EL n0 own bytes maxL ret nm p l e R s m args below meth c T' ms (k + 2) (n + (nn + 4)) h' → Ext h h' → (Exa Z h' a "java/lang/String" ∧ Fld Z h' a "java/lang/String" "coder" "B" (.int 0) ∧ Fld Z h' a "java/lang/String" "value" "[B" (.ref b) ∧ Arv Z h' b kb .byte z vs (.int 0) ∧ ∀ x ∈ ms, x ≠ a ∧ x ≠ b) → own_Go Z EL n0 p e below s K N Q (T'.setTop (mkF m pc' Ls (.ref a :: st)))) :
    own_Go Z EL n0 p e below s K N Q (T.setTop (mkF m pc Ls st)) := by
  subst hp
  obtain ⟨h1, h2, h3, h4, h5, h6, locs, vm0, k0, a1, X, eT, hZ, hown, Nf, O, M, hS, hk0, hC, hEW⟩ := w
  obtain ⟨a, T', h', k1, b, kb, X', e', E', hS', hk1, hZ', hown', e1, e2, e3, e4, -, -, C', -, hne, st'⟩ := ldcCH X h1 hZ hown wl wS eT hS hk0 hE hmem hC.1 ht hz hzl (g := mkF m pc Ls st) rfl (h2 ▸ hd) hn hbig hc hl
  have hsf : ∀ x ∈ ms, n0 ≤ x ∧ x < h'.size ∧ Safe Z EL T'.vm h' x := fun x hx => ⟨(M x hx).1, Nat.lt_of_lt_of_le (M x hx).2.1 E'.1, C'.safe (M x hx).2.1 (M x hx).2.2⟩
  exact own_go st' (g T' h' a b kb ⟨h1, h2, h3, h4, h5, h6, locs, T'.vm, k1, a1, X', e', hZ', hown', Nf, O.ext E', hsf, hS', hk1, hC.trans C', hEW⟩ E' ⟨e1, e2, e3, e4, fun x hx => hne x (hsf x hx).2.2⟩)
theorem own_aloadN (w : own_Wk Z EL n0 own bytes maxL ret nm p l e R s m args below meth c T ms k n h) {kk : Fin 4} {v : Value} (hd : decode bytes pc = .ok (.aload_n kk, 1)) (hl : Ls[kk.val]? = some (.val v)) (hv : v.isRef = true) (hp : pc + 1 = pc') (g : own_Go Z EL n0 p e below s K N Q (T.setTop (mkF m pc' Ls (v :: st)))) : own_Go Z EL n0 p e below s K N Q (T.setTop (mkF m pc Ls st)) := by
  subst hp; exact own_go (fun _ q => XS.aloadN (own_here w) w.1 rfl (own_dec w hd) hl hv q) g
theorem own_aload (w : own_Wk Z EL n0 own bytes maxL ret nm p l e R s m args below meth c T ms k n h) {kk : Nat} {v : Value} (hd : decode bytes pc = .ok (.aload kk, 2)) (hl : Ls[kk]? = some (.val v)) (hv : v.isRef = true) (hp : pc + 2 = pc') (g : own_Go Z EL n0 p e below s K N Q (T.setTop (mkF m pc' Ls (v :: st)))) : own_Go Z EL n0 p e below s K N Q (T.setTop (mkF m pc Ls st)) := by
  subst hp; exact own_go (fun _ q => XS.aload (own_here w) w.1 rfl (own_dec w hd) hl hv q) g
theorem own_iloadN (w : own_Wk Z EL n0 own bytes maxL ret nm p l e R s m args below meth c T ms k n h) {kk : Fin 4} {v : Int32} (hd : decode bytes pc = .ok (.iload_n kk, 1)) (hl : Ls[kk.val]? = some (.val (.int v))) (hp : pc + 1 = pc') (g : own_Go Z EL n0 p e below s K N Q (T.setTop (mkF m pc' Ls (.int v :: st)))) : own_Go Z EL n0 p e below s K N Q (T.setTop (mkF m pc Ls st)) := by
  subst hp; exact own_go (fun _ q => XS.iloadN (own_here w) w.1 rfl (own_dec w hd) hl q) g
theorem own_iload (w : own_Wk Z EL n0 own bytes maxL ret nm p l e R s m args below meth c T ms k n h) {kk : Nat} {v : Int32} (hd : decode bytes pc = .ok (.iload kk, 2)) (hl : Ls[kk]? = some (.val (.int v))) (hp : pc + 2 = pc') (g : own_Go Z EL n0 p e below s K N Q (T.setTop (mkF m pc' Ls (.int v :: st)))) : own_Go Z EL n0 p e below s K N Q (T.setTop (mkF m pc Ls st)) := by
  subst hp; exact own_go (fun _ q => XS.iload (own_here w) w.1 rfl (own_dec w hd) hl q) g
theorem own_istoreN (w : own_Wk Z EL n0 own bytes maxL ret nm p l e R s m args below meth c T ms k n h) {kk : Fin 4} {x : Int32} (hd : decode bytes pc = .ok (.istore_n kk, 1)) (hl : storeLocals Ls kk.val (.int x) = some Ls') (hp : pc + 1 = pc') (g : own_Go Z EL n0 p e below s K N Q (T.setTop (mkF m pc' Ls' st))) : own_Go Z EL n0 p e below s K N Q (T.setTop (mkF m pc Ls (.int x :: st))) := by
  subst hp; exact own_go (fun _ q => XS.istoreN (own_here w) w.1 rfl (own_dec w hd) rfl hl q) g
theorem own_istore (w : own_Wk Z EL n0 own bytes maxL ret nm p l e R s m args below meth c T ms k n h) {kk : Nat} {x : Int32} (hd : decode bytes pc = .ok (.istore kk, 2)) (hl : storeLocals Ls kk (.int x) = some Ls') (hp : pc + 2 = pc') (g : own_Go Z EL n0 p e below s K N Q (T.setTop (mkF m pc' Ls' st))) : own_Go Z EL n0 p e below s K N Q (T.setTop (mkF m pc Ls (.int x :: st))) := by
  subst hp; exact own_go (fun _ q => XS.istore (own_here w) w.1 rfl (own_dec w hd) rfl hl q) g
theorem own_lloadN (w : own_Wk Z EL n0 own bytes maxL ret nm p l e R s m args below meth c T ms k n h) {kk : Fin 4} {v : Int64} (hd : decode bytes pc = .ok (.lload_n kk, 1)) (hl : Ls[kk.val]? = some (.val (.long v))) (hp : pc + 1 = pc') (g : own_Go Z EL n0 p e below s K N Q (T.setTop (mkF m pc' Ls (.long v :: st)))) : own_Go Z EL n0 p e below s K N Q (T.setTop (mkF m pc Ls st)) := by
  subst hp; exact own_go (fun _ q => XT.lloadN (own_here w) w.1 rfl (own_dec w hd) hl q) g
theorem own_lload (w : own_Wk Z EL n0 own bytes maxL ret nm p l e R s m args below meth c T ms k n h) {kk : Nat} {v : Int64} (hd : decode bytes pc = .ok (.lload kk, 2)) (hl : Ls[kk]? = some (.val (.long v))) (hp : pc + 2 = pc') (g : own_Go Z EL n0 p e below s K N Q (T.setTop (mkF m pc' Ls (.long v :: st)))) : own_Go Z EL n0 p e below s K N Q (T.setTop (mkF m pc Ls st)) := by
  subst hp; exact own_go (fun _ q => XT.lload (own_here w) w.1 rfl (own_dec w hd) hl q) g
theorem own_lstoreN (w : own_Wk Z EL n0 own bytes maxL ret nm p l e R s m args below meth c T ms k n h) {kk : Fin 4} {x : Int64} (hd : decode bytes pc = .ok (.lstore_n kk, 1)) (hl : storeLocals Ls kk.val (.long x) = some Ls') (hp : pc + 1 = pc') (g : own_Go Z EL n0 p e below s K N Q (T.setTop (mkF m pc' Ls' st))) : own_Go Z EL n0 p e below s K N Q (T.setTop (mkF m pc Ls (.long x :: st))) := by
  subst hp; exact own_go (fun _ q => XT.lstoreN (own_here w) w.1 rfl (own_dec w hd) rfl hl q) g
theorem own_lstore (w : own_Wk Z EL n0 own bytes maxL ret nm p l e R s m args below meth c T ms k n h) {kk : Nat} {x : Int64} (hd : decode bytes pc = .ok (.lstore kk, 2)) (hl : storeLocals Ls kk (.long x) = some Ls') (hp : pc + 2 = pc') (g : own_Go Z EL n0 p e below s K N Q (T.setTop (mkF m pc' Ls' st))) : own_Go Z EL n0 p e below s K N Q (T.setTop (mkF m pc Ls (.long x :: st))) := by
  subst hp; exact own_go (fun _ q => XT.lstore (own_here w) w.1 rfl (own_dec w hd) rfl hl q) g
theorem own_astoreN (w : own_Wk Z EL n0 own bytes maxL ret nm p l e R s m args below meth c T ms k n h) {kk : Fin 4} {x : Value} (hd : decode bytes pc = .ok (.astore_n kk, 1)) (hv : x.isRef = true) (hl : storeLocals Ls kk.val x = some Ls') (hp : pc + 1 = pc') (g : own_Go Z EL n0 p e below s K N Q (T.setTop (mkF m pc' Ls' st))) : own_Go Z EL n0 p e below s K N Q (T.setTop (mkF m pc Ls (x :: st))) := by
  subst hp; exact own_go (fun _ q => XS.astoreN (own_here w) w.1 rfl (own_dec w hd) rfl hv hl q) g
theorem own_astore (w : own_Wk Z EL n0 own bytes maxL ret nm p l e R s m args below meth c T ms k n h) {kk : Nat} {x : Value} (hd : decode bytes pc = .ok (.astore kk, 2)) (hv : x.isRef = true) (hl : storeLocals Ls kk x = some Ls') (hp : pc + 2 = pc') (g : own_Go Z EL n0 p e below s K N Q (T.setTop (mkF m pc' Ls' st))) : own_Go Z EL n0 p e below s K N Q (T.setTop (mkF m pc Ls (x :: st))) := by
  subst hp; exact own_go (fun _ q => XS.astore (own_here w) w.1 rfl (own_dec w hd) rfl hv hl q) g
theorem own_iconst (w : own_Wk Z EL n0 own bytes maxL ret nm p l e R s m args below meth c T ms k n h) {i : Int} {x : Int32} (hd : decode bytes pc = .ok (.iconst i, 1)) (hi : Int32.ofInt i = x) (hp : pc + 1 = pc') (g : own_Go Z EL n0 p e below s K N Q (T.setTop (mkF m pc' Ls (.int x :: st)))) : own_Go Z EL n0 p e below s K N Q (T.setTop (mkF m pc Ls st)) := by
  subst hp hi; exact own_go (fun _ q => XS.iconst (own_here w) w.1 rfl (own_dec w hd)  q) g
theorem own_bipush (w : own_Wk Z EL n0 own bytes maxL ret nm p l e R s m args below meth c T ms k n h) {i : Int} {x : Int32} (hd : decode bytes pc = .ok (.bipush i, 2)) (hi : (Int8.ofInt i).toInt32 = x) (hp : pc + 2 = pc') (g : own_Go Z EL n0 p e below s K N Q (T.setTop (mkF m pc' Ls (.int x :: st)))) : own_Go Z EL n0 p e below s K N Q (T.setTop (mkF m pc Ls st)) := by
  subst hp hi; exact own_go (fun _ q => XS.bipush (own_here w) w.1 rfl (own_dec w hd)  q) g
theorem own_sipush (w : own_Wk Z EL n0 own bytes maxL ret nm p l e R s m args below meth c T ms k n h) {i : Int} {x : Int32} (hd : decode bytes pc = .ok (.sipush i, 3)) (hi : (Int16.ofInt i).toInt32 = x) (hp : pc + 3 = pc') (g : own_Go Z EL n0 p e below s K N Q (T.setTop (mkF m pc' Ls (.int x :: st)))) : own_Go Z EL n0 p e below s K N Q (T.setTop (mkF m pc Ls st)) := by
  subst hp hi; exact own_go (fun _ q => XS.sipush (own_here w) w.1 rfl (own_dec w hd)  q) g
theorem own_lconst (w : own_Wk Z EL n0 own bytes maxL ret nm p l e R s m args below meth c T ms k n h) {i : Fin 2} {x : Int64} (hd : decode bytes pc = .ok (.lconst i, 1)) (hi : Int64.ofNat i = x) (hp : pc + 1 = pc') (g : own_Go Z EL n0 p e below s K N Q (T.setTop (mkF m pc' Ls (.long x :: st)))) : own_Go Z EL n0 p e below s K N Q (T.setTop (mkF m pc Ls st)) := by
  subst hp hi; exact own_go (fun _ q => XT.lconst (own_here w) w.1 rfl (own_dec w hd)  q) g
theorem own_aconstNull (w : own_Wk Z EL n0 own bytes maxL ret nm p l e R s m args below meth c T ms k n h)  (hd : decode bytes pc = .ok (.aconst_null, 1))  (hp : pc + 1 = pc') (g : own_Go Z EL n0 p e below s K N Q (T.setTop (mkF m pc' Ls (.null :: st)))) : own_Go Z EL n0 p e below s K N Q (T.setTop (mkF m pc Ls st)) := by
  subst hp; exact own_go (fun _ q => XS.aconstNull (own_here w) w.1 rfl (own_dec w hd)  q) g
theorem own_iadd (w : own_Wk Z EL n0 own bytes maxL ret nm p l e R s m args below meth c T ms k n h) {x y z : Int32} (hd : decode bytes pc = .ok (.iadd, 1)) (hz : x + y = z) (hp : pc + 1 = pc') (g : own_Go Z EL n0 p e below s K N Q (T.setTop (mkF m pc' Ls (.int z :: st)))) : own_Go Z EL n0 p e below s K N Q (T.setTop (mkF m pc Ls (.int y :: .int x :: st))) := by
  subst hp hz; exact own_go (fun _ q => XS.iadd (own_here w) w.1 rfl (own_dec w hd) rfl q) g
theorem own_isub (w : own_Wk Z EL n0 own bytes maxL ret nm p l e R s m args below meth c T ms k n h) {x y z : Int32} (hd : decode bytes pc = .ok (.isub, 1)) (hz : x - y = z) (hp : pc + 1 = pc') (g : own_Go Z EL n0 p e below s K N Q (T.setTop (mkF m pc' Ls (.int z :: st)))) : own_Go Z EL n0 p e below s K N Q (T.setTop (mkF m pc Ls (.int y :: .int x :: st))) := by
  subst hp hz; exact own_go (fun _ q => XS.isub (own_here w) w.1 rfl (own_dec w hd) rfl q) g
theorem own_imul (w : own_Wk Z EL n0 own bytes maxL ret nm p l e R s m args below meth c T ms k n h) {x y z : Int32} (hd : decode bytes pc = .ok (.imul, 1)) (hz : x * y = z) (hp : pc + 1 = pc') (g : own_Go Z EL n0 p e below s K N Q (T.setTop (mkF m pc' Ls (.int z :: st)))) : own_Go Z EL n0 p e below s K N Q (T.setTop (mkF m pc Ls (.int y :: .int x :: st))) := by
  subst hp hz; exact own_go (fun _ q => XS.imul (own_here w) w.1 rfl (own_dec w hd) rfl q) g
theorem own_iand (w : own_Wk Z EL n0 own bytes maxL ret nm p l e R s m args below meth c T ms k n h) {x y z : Int32} (hd : decode bytes pc = .ok (.iand, 1)) (hz : x &&& y = z) (hp : pc + 1 = pc') (g : own_Go Z EL n0 p e below s K N Q (T.setTop (mkF m pc' Ls (.int z :: st)))) : own_Go Z EL n0 p e below s K N Q (T.setTop (mkF m pc Ls (.int y :: .int x :: st))) := by
  subst hp hz; exact own_go (fun _ q => XS.iand (own_here w) w.1 rfl (own_dec w hd) rfl q) g
theorem own_ior (w : own_Wk Z EL n0 own bytes maxL ret nm p l e R s m args below meth c T ms k n h) {x y z : Int32} (hd : decode bytes pc = .ok (.ior, 1)) (hz : x ||| y = z) (hp : pc + 1 = pc') (g : own_Go Z EL n0 p e below s K N Q (T.setTop (mkF m pc' Ls (.int z :: st)))) : own_Go Z EL n0 p e below s K N Q (T.setTop (mkF m pc Ls (.int y :: .int x :: st))) := by
  subst hp hz; exact own_go (fun _ q => XT.ior (own_here w) w.1 rfl (own_dec w hd) rfl q) g
theorem own_ixor (w : own_Wk Z EL n0 own bytes maxL ret nm p l e R s m args below meth c T ms k n h) {x y z : Int32} (hd : decode bytes pc = .ok (.ixor, 1)) (hz : x ^^^ y = z) (hp : pc + 1 = pc') (g : own_Go Z EL n0 p e below s K N Q (T.setTop (mkF m pc' Ls (.int z :: st)))) : own_Go Z EL n0 p e below s K N Q (T.setTop (mkF m pc Ls (.int y :: .int x :: st))) := by
  subst hp hz; exact own_go (fun _ q => XT.ixor (own_here w) w.1 rfl (own_dec w hd) rfl q) g
theorem own_ishl (w : own_Wk Z EL n0 own bytes maxL ret nm p l e R s m args below meth c T ms k n h) {x y z : Int32} (hd : decode bytes pc = .ok (.ishl, 1)) (hz : x <<< (y &&& 31) = z) (hp : pc + 1 = pc') (g : own_Go Z EL n0 p e below s K N Q (T.setTop (mkF m pc' Ls (.int z :: st)))) : own_Go Z EL n0 p e below s K N Q (T.setTop (mkF m pc Ls (.int y :: .int x :: st))) := by
  subst hp hz; exact own_go (fun _ q => XT.ishl (own_here w) w.1 rfl (own_dec w hd) rfl q) g
theorem own_ishr (w : own_Wk Z EL n0 own bytes maxL ret nm p l e R s m args below meth c T ms k n h) {x y z : Int32} (hd : decode bytes pc = .ok (.ishr, 1)) (hz : x >>> (y &&& 31) = z) (hp : pc + 1 = pc') (g : own_Go Z EL n0 p e below s K N Q (T.setTop (mkF m pc' Ls (.int z :: st)))) : own_Go Z EL n0 p e below s K N Q (T.setTop (mkF m pc Ls (.int y :: .int x :: st))) := by
  subst hp hz; exact own_go (fun _ q => XT.ishr (own_here w) w.1 rfl (own_dec w hd) rfl q) g
theorem own_iushr (w : own_Wk Z EL n0 own bytes maxL ret nm p l e R s m args below meth c T ms k n h) {x y z : Int32} (hd : decode bytes pc = .ok (.iushr, 1)) (hz : XT.ushr x y = z) (hp : pc + 1 = pc') (g : own_Go Z EL n0 p e below s K N Q (T.setTop (mkF m pc' Ls (.int z :: st)))) : own_Go Z EL n0 p e below s K N Q (T.setTop (mkF m pc Ls (.int y :: .int x :: st))) := by
  subst hp hz; exact own_go (fun _ q => XT.iushr (own_here w) w.1 rfl (own_dec w hd) rfl q) g
theorem own_idiv (w : own_Wk Z EL n0 own bytes maxL ret nm p l e R s m args below meth c T ms k n h) {x y z : Int32} (hd : decode bytes pc = .ok (.idiv, 1)) (hy : y ≠ 0) (hz : x / y = z) (hp : pc + 1 = pc') (g : own_Go Z EL n0 p e below s K N Q (T.setTop (mkF m pc' Ls (.int z :: st)))) : own_Go Z EL n0 p e below s K N Q (T.setTop (mkF m pc Ls (.int y :: .int x :: st))) := by
  subst hp hz; exact own_go (fun _ q => XS.idiv (own_here w) w.1 rfl (own_dec w hd) rfl hy q) g
theorem own_irem (w : own_Wk Z EL n0 own bytes maxL ret nm p l e R s m args below meth c T ms k n h) {x y z : Int32} (hd : decode bytes pc = .ok (.irem, 1)) (hy : y ≠ 0) (hz : x - (x / y) * y = z) (hp : pc + 1 = pc') (g : own_Go Z EL n0 p e below s K N Q (T.setTop (mkF m pc' Ls (.int z :: st)))) : own_Go Z EL n0 p e below s K N Q (T.setTop (mkF m pc Ls (.int y :: .int x :: st))) := by
  subst hp hz; exact own_go (fun _ q => XS.irem (own_here w) w.1 rfl (own_dec w hd) rfl hy q) g
theorem own_ineg (w : own_Wk Z EL n0 own bytes maxL ret nm p l e R s m args below meth c T ms k n h) {x z : Int32} (hd : decode bytes pc = .ok (.ineg, 1)) (hz : -x = z) (hp : pc + 1 = pc') (g : own_Go Z EL n0 p e below s K N Q (T.setTop (mkF m pc' Ls (.int z :: st)))) : own_Go Z EL n0 p e below s K N Q (T.setTop (mkF m pc Ls (.int x :: st))) := by
  subst hp hz; exact own_go (fun _ q => XS.ineg (own_here w) w.1 rfl (own_dec w hd) rfl q) g
theorem own_ladd (w : own_Wk Z EL n0 own bytes maxL ret nm p l e R s m args below meth c T ms k n h) {x y z : Int64} (hd : decode bytes pc = .ok (.ladd, 1)) (hz : x + y = z) (hp : pc + 1 = pc') (g : own_Go Z EL n0 p e below s K N Q (T.setTop (mkF m pc' Ls (.long z :: st)))) : own_Go Z EL n0 p e below s K N Q (T.setTop (mkF m pc Ls (.long y :: .long x :: st))) := by
  subst hp hz; exact own_go (fun _ q => XT.ladd (own_here w) w.1 rfl (own_dec w hd) rfl q) g
theorem own_lsub (w : own_Wk Z EL n0 own bytes maxL ret nm p l e R s m args below meth c T ms k n h) {x y z : Int64} (hd : decode bytes pc = .ok (.lsub, 1)) (hz : x - y = z) (hp : pc + 1 = pc') (g : own_Go Z EL n0 p e below s K N Q (T.setTop (mkF m pc' Ls (.long z :: st)))) : own_Go Z EL n0 p e below s K N Q (T.setTop (mkF m pc Ls (.long y :: .long x :: st))) := by
  subst hp hz; exact own_go (fun _ q => XT.lsub (own_here w) w.1 rfl (own_dec w hd) rfl q) g
theorem own_lmul (w : own_Wk Z EL n0 own bytes maxL ret nm p l e R s m args below meth c T ms k n h) {x y z : Int64} (hd : decode bytes pc = .ok (.lmul, 1)) (hz : x * y = z) (hp : pc + 1 = pc') (g : own_Go Z EL n0 p e below s K N Q (T.setTop (mkF m pc' Ls (.long z :: st)))) : own_Go Z EL n0 p e below s K N Q (T.setTop (mkF m pc Ls (.long y :: .long x :: st))) := by
  subst hp hz; exact own_go (fun _ q => XT.lmul (own_here w) w.1 rfl (own_dec w hd) rfl q) g
theorem own_land (w : own_Wk Z EL n0 own bytes maxL ret nm p l e R s m args below meth c T ms k n h) {x y z : Int64} (hd : decode bytes pc = .ok (.land, 1)) (hz : x &&& y = z) (hp : pc + 1 = pc') (g : own_Go Z EL n0 p e below s K N Q (T.setTop (mkF m pc' Ls (.long z :: st)))) : own_Go Z EL n0 p e below s K N Q (T.setTop (mkF m pc Ls (.long y :: .long x :: st))) := by
  subst hp hz; exact own_go (fun _ q => XT.land (own_here w) w.1 rfl (own_dec w hd) rfl q) g
theorem own_lor (w : own_Wk Z EL n0 own bytes maxL ret nm p l e R s m args below meth c T ms k n h) {x y z : Int64} (hd : decode bytes pc = .ok (.lor, 1)) (hz : x ||| y = z) (hp : pc + 1 = pc') (g : own_Go Z EL n0 p e below s K N Q (T.setTop (mkF m pc' Ls (.long z :: st)))) : own_Go Z EL n0 p e below s K N Q (T.setTop (mkF m pc Ls (.long y :: .long x :: st))) := by
  subst hp hz; exact own_go (fun _ q => XT.lor (own_here w) w.1 rfl (own_dec w hd) rfl q) g
theorem own_lxor (w : own_Wk Z EL n0 own bytes maxL ret nm p l e R s m args below meth c T ms k n h) {x y z : Int64} (hd : decode bytes pc = .ok (.lxor, 1)) (hz : x ^^^ y = z) (hp : pc + 1 = pc') (g : own_Go Z EL n0 p e below s K N Q (T.setTop (mkF m pc' Ls (.long z :: st)))) : own_Go Z EL n0 p e below s K N Q (T.setTop (mkF m pc Ls (.long y :: .long x :: st))) := by
  subst hp hz; exact own_go (fun _ q => XT.lxor (own_here w) w.1 rfl (own_dec w hd) rfl q) g
theorem own_lshl (w : own_Wk Z EL n0 own bytes maxL ret nm p l e R s m args below meth c T ms k n h) {x z : Int64} {y : Int32} (hd : decode bytes pc = .ok (.lshl, 1)) (hz : x <<< (y.toInt64 &&& 63) = z) (hp : pc + 1 = pc') (g : own_Go Z EL n0 p e below s K N Q (T.setTop (mkF m pc' Ls (.long z :: st)))) : own_Go Z EL n0 p e below s K N Q (T.setTop (mkF m pc Ls (.int y :: .long x :: st))) := by
  subst hp hz; exact own_go (fun _ q => XT.lshl (own_here w) w.1 rfl (own_dec w hd) rfl q) g
theorem own_lshr (w : own_Wk Z EL n0 own bytes maxL ret nm p l e R s m args below meth c T ms k n h) {x z : Int64} {y : Int32} (hd : decode bytes pc = .ok (.lshr, 1)) (hz : x >>> (y.toInt64 &&& 63) = z) (hp : pc + 1 = pc') (g : own_Go Z EL n0 p e below s K N Q (T.setTop (mkF m pc' Ls (.long z :: st)))) : own_Go Z EL n0 p e below s K N Q (T.setTop (mkF m pc Ls (.int y :: .long x :: st))) := by
  subst hp hz; exact own_go (fun _ q => XT.lshr (own_here w) w.1 rfl (own_dec w hd) rfl q) g
theorem own_lushr (w : own_Wk Z EL n0 own bytes maxL ret nm p l e R s m args below meth c T ms k n h) {x z : Int64} {y : Int32} (hd : decode bytes pc = .ok (.lushr, 1)) (hz : XT.ushrL x y = z) (hp : pc + 1 = pc') (g : own_Go Z EL n0 p e below s K N Q (T.setTop (mkF m pc' Ls (.long z :: st)))) : own_Go Z EL n0 p e below s K N Q (T.setTop (mkF m pc Ls (.int y :: .long x :: st))) := by
  subst hp hz; exact own_go (fun _ q => XT.lushr (own_here w) w.1 rfl (own_dec w hd) rfl q) g
theorem own_lneg (w : own_Wk Z EL n0 own bytes maxL ret nm p l e R s m args below meth c T ms k n h) {x z : Int64} (hd : decode bytes pc = .ok (.lneg, 1)) (hz : -x = z) (hp : pc + 1 = pc') (g : own_Go Z EL n0 p e below s K N Q (T.setTop (mkF m pc' Ls (.long z :: st)))) : own_Go Z EL n0 p e below s K N Q (T.setTop (mkF m pc Ls (.long x :: st))) := by
  subst hp hz; exact own_go (fun _ q => XT.lneg (own_here w) w.1 rfl (own_dec w hd) rfl q) g
theorem own_lcmp (w : own_Wk Z EL n0 own bytes maxL ret nm p l e R s m args below meth c T ms k n h) {x y : Int64} {z : Int32} (hd : decode bytes pc = .ok (.lcmp, 1)) (hz : XT.cmpL x y = z) (hp : pc + 1 = pc') (g : own_Go Z EL n0 p e below s K N Q (T.setTop (mkF m pc' Ls (.int z :: st)))) : own_Go Z EL n0 p e below s K N Q (T.setTop (mkF m pc Ls (.long y :: .long x :: st))) := by
  subst hp hz; exact own_go (fun _ q => XT.lcmp (own_here w) w.1 rfl (own_dec w hd) rfl q) g
theorem own_i2l (w : own_Wk Z EL n0 own bytes maxL ret nm p l e R s m args below meth c T ms k n h) {x : Int32} {z : Int64} (hd : decode bytes pc = .ok (.i2l, 1)) (hz : x.toInt64 = z) (hp : pc + 1 = pc') (g : own_Go Z EL n0 p e below s K N Q (T.setTop (mkF m pc' Ls (.long z :: st)))) : own_Go Z EL n0 p e below s K N Q (T.setTop (mkF m pc Ls (.int x :: st))) := by
  subst hp hz; exact own_go (fun _ q => XT.i2l (own_here w) w.1 rfl (own_dec w hd) rfl q) g
theorem own_l2i (w : own_Wk Z EL n0 own bytes maxL ret nm p l e R s m args below meth c T ms k n h) {x : Int64} {z : Int32} (hd : decode bytes pc = .ok (.l2i, 1)) (hz : x.toInt32 = z) (hp : pc + 1 = pc') (g : own_Go Z EL n0 p e below s K N Q (T.setTop (mkF m pc' Ls (.int z :: st)))) : own_Go Z EL n0 p e below s K N Q (T.setTop (mkF m pc Ls (.long x :: st))) := by
  subst hp hz; exact own_go (fun _ q => XT.l2i (own_here w) w.1 rfl (own_dec w hd) rfl q) g
theorem own_i2b (w : own_Wk Z EL n0 own bytes maxL ret nm p l e R s m args below meth c T ms k n h) {x z : Int32} (hd : decode bytes pc = .ok (.i2b, 1)) (hz : x.toInt8.toInt32 = z) (hp : pc + 1 = pc') (g : own_Go Z EL n0 p e below s K N Q (T.setTop (mkF m pc' Ls (.int z :: st)))) : own_Go Z EL n0 p e below s K N Q (T.setTop (mkF m pc Ls (.int x :: st))) := by
  subst hp hz; exact own_go (fun _ q => XT.i2b (own_here w) w.1 rfl (own_dec w hd) rfl q) g
theorem own_i2c (w : own_Wk Z EL n0 own bytes maxL ret nm p l e R s m args below meth c T ms k n h) {x z : Int32} (hd : decode bytes pc = .ok (.i2c, 1)) (hz : x.toUInt32.toUInt16.toUInt32.toInt32 = z) (hp : pc + 1 = pc') (g : own_Go Z EL n0 p e below s K N Q (T.setTop (mkF m pc' Ls (.int z :: st)))) : own_Go Z EL n0 p e below s K N Q (T.setTop (mkF m pc Ls (.int x :: st))) := by
  subst hp hz; exact own_go (fun _ q => XT.i2c (own_here w) w.1 rfl (own_dec w hd) rfl q) g
theorem own_i2s (w : own_Wk Z EL n0 own bytes maxL ret nm p l e R s m args below meth c T ms k n h) {x z : Int32} (hd : decode bytes pc = .ok (.i2s, 1)) (hz : x.toInt16.toInt32 = z) (hp : pc + 1 = pc') (g : own_Go Z EL n0 p e below s K N Q (T.setTop (mkF m pc' Ls (.int z :: st)))) : own_Go Z EL n0 p e below s K N Q (T.setTop (mkF m pc Ls (.int x :: st))) := by
  subst hp hz; exact own_go (fun _ q => XT.i2s (own_here w) w.1 rfl (own_dec w hd) rfl q) g
theorem own_dup (w : own_Wk Z EL n0 own bytes maxL ret nm p l e R s m args below meth c T ms k n h) {x : Value} (hd : decode bytes pc = .ok (.dup, 1)) (hc : x.category = 1) (hp : pc + 1 = pc') (g : own_Go Z EL n0 p e below s K N Q (T.setTop (mkF m pc' Ls (x :: x :: st)))) : own_Go Z EL n0 p e below s K N Q (T.setTop (mkF m pc Ls (x :: st))) := by
  subst hp; exact own_go (fun _ q => XS.dup (own_here w) w.1 rfl (own_dec w hd) rfl hc q) g
theorem own_dupX1 (w : own_Wk Z EL n0 own bytes maxL ret nm p l e R s m args below meth c T ms k n h) {x y : Value} (hd : decode bytes pc = .ok (.dup_x1, 1)) (hc : x.category = 1) (hc' : y.category = 1) (hp : pc + 1 = pc') (g : own_Go Z EL n0 p e below s K N Q (T.setTop (mkF m pc' Ls (x :: y :: x :: st)))) : own_Go Z EL n0 p e below s K N Q (T.setTop (mkF m pc Ls (x :: y :: st))) := by
  subst hp; exact own_go (fun _ q => XT.dupX1 (own_here w) w.1 rfl (own_dec w hd) rfl hc hc' q) g
theorem own_dup2 (w : own_Wk Z EL n0 own bytes maxL ret nm p l e R s m args below meth c T ms k n h) {x y : Value} (hd : decode bytes pc = .ok (.dup2, 1)) (hc : x.category = 1) (hc' : y.category = 1) (hp : pc + 1 = pc') (g : own_Go Z EL n0 p e below s K N Q (T.setTop (mkF m pc' Ls (x :: y :: x :: y :: st)))) : own_Go Z EL n0 p e below s K N Q (T.setTop (mkF m pc Ls (x :: y :: st))) := by
  subst hp; exact own_go (fun _ q => XT.dup2 (own_here w) w.1 rfl (own_dec w hd) rfl hc hc' q) g
theorem own_dup2L (w : own_Wk Z EL n0 own bytes maxL ret nm p l e R s m args below meth c T ms k n h) {x : Int64} (hd : decode bytes pc = .ok (.dup2, 1))  (hp : pc + 1 = pc') (g : own_Go Z EL n0 p e below s K N Q (T.setTop (mkF m pc' Ls (.long x :: .long x :: st)))) : own_Go Z EL n0 p e below s K N Q (T.setTop (mkF m pc Ls (.long x :: st))) := by
  subst hp; exact own_go (fun _ q => XT.dup2L (own_here w) w.1 rfl (own_dec w hd) rfl q) g
theorem own_pop (w : own_Wk Z EL n0 own bytes maxL ret nm p l e R s m args below meth c T ms k n h) {x : Value} (hd : decode bytes pc = .ok (.pop, 1)) (hc : x.category = 1) (hp : pc + 1 = pc') (g : own_Go Z EL n0 p e below s K N Q (T.setTop (mkF m pc' Ls st))) : own_Go Z EL n0 p e below s K N Q (T.setTop (mkF m pc Ls (x :: st))) := by
  subst hp; exact own_go (fun _ q => XT.pop (own_here w) w.1 rfl (own_dec w hd) rfl hc q) g
theorem own_iinc (w : own_Wk Z EL n0 own bytes maxL ret nm p l e R s m args below meth c T ms k n h) {kk : Nat} {cst : Int} {x y : Int32} (hd : decode bytes pc = .ok (.iinc kk cst, 3)) (hl : Ls[kk]? = some (.val (.int x))) (hy : x + Int32.ofInt cst = y) (hl' : storeLocals Ls kk (.int y) = some Ls') (hp : pc + 3 = pc') (g : own_Go Z EL n0 p e below s K N Q (T.setTop (mkF m pc' Ls' st))) : own_Go Z EL n0 p e below s K N Q (T.setTop (mkF m pc Ls st)) := by
  subst hp hy; exact own_go (fun _ q => XS.iinc (own_here w) w.1 rfl (own_dec w hd) hl hl' q) g
theorem own_goto (w : own_Wk Z EL n0 own bytes maxL ret nm p l e R s m args below meth c T ms k n h) {o : Int} (hd : decode bytes pc = .ok (.goto o, 3)) (ho : 0 ≤ (pc : Int) + o) (hp : ((pc : Int) + o).toNat = pc') (g : own_Go Z EL n0 p e below s K N Q (T.setTop (mkF m pc' Ls st))) : own_Go Z EL n0 p e below s K N Q (T.setTop (mkF m pc Ls st)) := own_go (fun _ q => XS.goto (own_here w) w.1 rfl (pc0 := pc) rfl (own_dec w hd) ho hp q) g
def own_cT (cd : ClassFile.Cond) (x y : Int32) : Prop := match cd with | .eq => x = y | .ne => ¬ x = y | .lt => x < y | .ge => ¬ x < y | .gt => y < x | .le => ¬ y < x
def own_cF (cd : ClassFile.Cond) (x y : Int32) : Prop := match cd with | .eq => ¬ x = y | .ne => x = y | .lt => ¬ x < y | .ge => x < y | .gt => ¬ y < x | .le => y < x
theorem own_cond (cd : ClassFile.Cond) (x y : Int32) : (own_cT cd x y ∧ if_icmp.holds cd x y = true) ∨ (own_cF cd x y ∧ if_icmp.holds cd x y = false) := by
  cases cd
  · by_cases q : x = y
    · exact Or.inl ⟨q, (teq q).1⟩
    · exact Or.inr ⟨q, (feq q).1⟩
  · by_cases q : x = y
    · exact Or.inr ⟨q, (teq q).2⟩
    · exact Or.inl ⟨q, (feq q).2⟩
  · by_cases q : x < y
    · exact Or.inl ⟨q, (tlt q).1⟩
    · exact Or.inr ⟨q, (flt q).1⟩
  · by_cases q : x < y
    · exact Or.inr ⟨q, (tlt q).2.1⟩
    · exact Or.inl ⟨q, (flt q).2.1⟩
  · by_cases q : y < x
    · exact Or.inl ⟨q, (tlt q).2.2.1⟩
    · exact Or.inr ⟨q, (flt q).2.2.1⟩
  · by_cases q : y < x
    · exact Or.inr ⟨q, (tlt q).2.2.2⟩
    · exact Or.inl ⟨q, (flt q).2.2.2⟩
theorem own_icmp (w : own_Wk Z EL n0 own bytes maxL ret nm p l e R s m args below meth c T ms k n h) {cd : ClassFile.Cond} {x y : Int32} {o : Int} {pcY : Nat} (hd : decode bytes pc = .ok (.if_icmp cd o, 3)) (hp : pc + 3 = pc') (ho : 0 ≤ (pc : Int) + o) (hq : ((pc : Int) + o).toNat = pcY) (gT : own_cT cd x y → own_Go Z EL n0 p e below s K N Q (T.setTop (mkF m pcY Ls st))) (gF : own_cF cd x y → own_Go Z EL n0 p e below s K N Q (T.setTop (mkF m pc' Ls st))) : own_Go Z EL n0 p e below s K N Q (T.setTop (mkF m pc Ls (.int y :: .int x :: st))) := by
  subst hp
  rcases own_cond cd x y with ⟨q, r⟩ | ⟨q, r⟩
  · exact own_go (fun _ z => XS.icmpYes (own_here w) w.1 rfl (pc0 := pc) rfl (own_dec w hd) rfl r ho hq z) (gT q)
  · exact own_go (fun _ z => XS.icmpNo (own_here w) w.1 rfl (own_dec w hd) rfl r z) (gF q)
theorem own_if (w : own_Wk Z EL n0 own bytes maxL ret nm p l e R s m args below meth c T ms k n h) {cd : ClassFile.Cond} {x : Int32} {o : Int} {pcY : Nat} (hd : decode bytes pc = .ok (.ifCond cd o, 3)) (hp : pc + 3 = pc') (ho : 0 ≤ (pc : Int) + o) (hq : ((pc : Int) + o).toNat = pcY) (gT : own_cT cd x 0 → own_Go Z EL n0 p e below s K N Q (T.setTop (mkF m pcY Ls st))) (gF : own_cF cd x 0 → own_Go Z EL n0 p e below s K N Q (T.setTop (mkF m pc' Ls st))) : own_Go Z EL n0 p e below s K N Q (T.setTop (mkF m pc Ls (.int x :: st))) := by
  subst hp
  rcases own_cond cd x 0 with ⟨q, r⟩ | ⟨q, r⟩
  · exact own_go (fun _ z => XS.ifYes (own_here w) w.1 rfl (pc0 := pc) rfl (own_dec w hd) rfl ((if0 cd x).trans r) ho hq z) (gT q)
  · exact own_go (fun _ z => XS.ifNo (own_here w) w.1 rfl (own_dec w hd) rfl ((if0 cd x).trans r) z) (gF q)
theorem own_ifnullY (w : own_Wk Z EL n0 own bytes maxL ret nm p l e R s m args below meth c T ms k n h) {o : Int} (hd : decode bytes pc = .ok (.ifnull o, 3)) (ho : 0 ≤ (pc : Int) + o) (hp : ((pc : Int) + o).toNat = pc') (g : own_Go Z EL n0 p e below s K N Q (T.setTop (mkF m pc' Ls st))) : own_Go Z EL n0 p e below s K N Q (T.setTop (mkF m pc Ls (.null :: st))) := own_go (fun _ q => XS.ifnullYes (own_here w) w.1 rfl (pc0 := pc) rfl (own_dec w hd) rfl ho hp q) g
theorem own_ifnullN (w : own_Wk Z EL n0 own bytes maxL ret nm p l e R s m args below meth c T ms k n h) {o : Int} (hd : decode bytes pc = .ok (.ifnull o, 3)) (hp : pc + 3 = pc') (g : own_Go Z EL n0 p e below s K N Q (T.setTop (mkF m pc' Ls st))) : own_Go Z EL n0 p e below s K N Q (T.setTop (mkF m pc Ls (.ref a :: st))) := by
  subst hp; exact own_go (fun _ q => XS.ifnullNo (own_here w) w.1 rfl (own_dec w hd) rfl q) g
theorem own_ifnonnullY (w : own_Wk Z EL n0 own bytes maxL ret nm p l e R s m args below meth c T ms k n h) {o : Int} (hd : decode bytes pc = .ok (.ifnonnull o, 3)) (ho : 0 ≤ (pc : Int) + o) (hp : ((pc : Int) + o).toNat = pc') (g : own_Go Z EL n0 p e below s K N Q (T.setTop (mkF m pc' Ls st))) : own_Go Z EL n0 p e below s K N Q (T.setTop (mkF m pc Ls (.ref a :: st))) := own_go (fun _ q => XT.ifnonnullYes (own_here w) w.1 rfl (pc0 := pc) rfl (own_dec w hd) rfl ho hp q) g
theorem own_ifnonnullN (w : own_Wk Z EL n0 own bytes maxL ret nm p l e R s m args below meth c T ms k n h) {o : Int} (hd : decode bytes pc = .ok (.ifnonnull o, 3)) (hp : pc + 3 = pc') (g : own_Go Z EL n0 p e below s K N Q (T.setTop (mkF m pc' Ls st))) : own_Go Z EL n0 p e below s K N Q (T.setTop (mkF m pc Ls (.null :: st))) := by
  subst hp; exact own_go (fun _ q => XT.ifnonnullNo (own_here w) w.1 rfl (own_dec w hd) rfl q) g
theorem own_same (w : own_Wk Z EL n0 own bytes maxL ret nm p l e R s m args below meth c T ms k n h) {F F' : JFrame} (f : ∀ (s' : State) (locs : List Loc), Stand p l e R s' m args below meth c T locs k n → T.heap = h → Z.Warmed39 s'.vm → s'.vm.findClass own = some m.cls → ∃ T' : State, Stand p l e R s' m args below meth c T' locs k n ∧ T'.heap = h ∧ ∀ t, Steps p.tables e below (T'.setTop F') t → Steps p.tables e below (T.setTop F) t)
    (g : ∀ T' : State, own_Wk Z EL n0 own bytes maxL ret nm p l e R s m args below meth c T' ms k n h → own_Go Z EL n0 p e below s K N Q (T'.setTop F')) : own_Go Z EL n0 p e below s K N Q (T.setTop F) := by
  refine own_core w (k' := k) (n' := n) (ws := []) (P := fun h' new F'' => h' = h ∧ new = [] ∧ F'' = F') all0 (fun s' locs X eT hZ hown => ?_) (fun T' h' new F'' w' _ q => ?_)
  · obtain ⟨T', X', e', st'⟩ := f s' locs X eT hZ hown
    exact ⟨T', h, [], [], _, by rw [List.append_nil]; exact X', e', Keep.refl _ _, Fr.nil _, all0, ⟨rfl, rfl, rfl⟩, st'⟩
  · obtain ⟨rfl, rfl, rfl⟩ := q; exact g T' w'
theorem own_write (w : own_Wk Z EL n0 own bytes maxL ret nm p l e R s m args below meth c T ms k n h) {F F' : JFrame} {sl : Nat} {v : Value} (hm : a ∈ ms) (f : ∀ (s' : State) (locs : List Loc), Stand p l e R s' m args below meth c T locs k n → T.heap = h → Z.Warmed39 s'.vm → s'.vm.findClass own = some m.cls → ∃ (T' : State) (h' : Heap), Stand p l e R s' m args below meth c T' (locs ++ [⟨a, sl⟩]) k n ∧ T'.heap = h' ∧ Wr h h' a sl v ∧ ∀ t, Steps p.tables e below (T'.setTop F') t → Steps p.tables e below (T.setTop F) t)
    (g : ∀ (T' : State) (h' : Heap), own_Wk Z EL n0 own bytes maxL ret nm p l e R s m args below meth c T' ms k n h' → Wr h h' a sl v → own_Go Z EL n0 p e below s K N Q (T'.setTop F')) : own_Go Z EL n0 p e below s K N Q (T.setTop F) := by
  refine own_core w (k' := k) (n' := n) (ws := [a]) (P := fun h' new F'' => Wr h h' a sl v ∧ new = [] ∧ F'' = F') (allS hm all0) (fun s' locs X eT hZ hown => ?_) (fun T' h' new F'' w' _ q => ?_)
  · obtain ⟨T', h', X', e', W', st'⟩ := f s' locs X eT hZ hown
    exact ⟨T', h', [⟨a, sl⟩], [], _, X', e', Keep.of_wr W', (fun y hy => by cases List.mem_singleton.mp hy; exact (own_mine w a hm).1), all0, ⟨W', rfl, rfl⟩, st'⟩
  · obtain ⟨q, rfl, rfl⟩ := q; exact g T' h' w' q
theorem own_made (w : own_Wk Z EL n0 own bytes maxL ret nm p l e R s m args below meth c T ms k n h) {F : JFrame} {F' : Addr → JFrame} {k' n' : Nat} {P : Addr → Heap → Prop} (f : ∀ (s' : State) (locs : List Loc), Stand p l e R s' m args below meth c T locs k n → T.heap = h → Z.Warmed39 s'.vm → s'.vm.findClass own = some m.cls → ∃ (T' : State) (h' : Heap), Stand p l e R s' m args below meth c T' locs k' n' ∧ T'.heap = h' ∧ Ext h h' ∧ h.size < h'.size ∧ P h.size h' ∧ ∀ t, Steps p.tables e below (T'.setTop (F' h.size)) t → Steps p.tables e below (T.setTop F) t)
    (g : ∀ (T' : State) (h' : Heap) (a : Addr), h.size = a → own_Wk Z EL n0 own bytes maxL ret nm p l e R s m args below meth c T' (a :: ms) k' n' h' → Ext h h' → P a h' → own_Go Z EL n0 p e below s K N Q (T'.setTop (F' a))) : own_Go Z EL n0 p e below s K N Q (T.setTop F) := by
  refine own_core w (k' := k') (n' := n') (ws := []) (P := fun h' new F'' => Ext h h' ∧ P h.size h' ∧ new = [h.size] ∧ F'' = F' h.size) all0 (fun s' locs X eT hZ hown => ?_) (fun T' h' new F'' w' _ q => ?_)
  · obtain ⟨T', h', X', e', E', hlt, hP, st'⟩ := f s' locs X eT hZ hown
    exact ⟨T', h', [], [h.size], _, by rw [List.append_nil]; exact X', e', (Keep.refl _ _).ext E', Fr.nil _, allS ⟨Nat.le_refl _, hlt⟩ all0, ⟨E', hP, rfl, rfl⟩, st'⟩
  · obtain ⟨q1, q2, rfl, rfl⟩ := q; exact g T' h' _ rfl w' q1 q2
theorem own_getF (w : own_Wk Z EL n0 own bytes maxL ret nm p l e R s m args below meth c T ms k n h) {idx : Nat} {R0 O fn fd host : String} {v : Value} (wl : (Jvm.Cond.fieldLink own idx R0 fn fd).before a0 Z = true ∨ (Jvm.Cond.fieldLinkNest own idx R0 fn fd host).before a0 Z = true) (via : Via Z R0 O fn fd) (F : Fld Z h a O fn fd v) (hd : decode bytes pc = .ok (.getfield idx, 3)) (hp : pc + 3 = pc')
    (g : ∀ T' : State, own_Wk Z EL n0 own bytes maxL ret nm p l e R s m args below meth c T' ms k n h → own_Go Z EL n0 p e below s K N Q (T'.setTop (mkF m pc' Ls (v :: st)))) : own_Go Z EL n0 p e below s K N Q (T.setTop (mkF m pc Ls (.ref a :: st))) := by
  subst hp; exact own_same w (fun s' locs X eT hZ hown => getF X w.1 hZ hown wl via eT F (g := mkF m pc Ls (.ref a :: st)) rfl rfl (own_dec w hd)) g
theorem own_getS (w : own_Wk Z EL n0 own bytes maxL ret nm p l e R s m args below meth c T ms k n h) {idx : Nat} {R0 O fn fd host : String} {v : Value} (wl : (Jvm.Cond.fieldLink own idx R0 fn fd).before a0 Z = true ∨ (Jvm.Cond.fieldLinkNest own idx R0 fn fd host).before a0 Z = true) (via : Via Z R0 O fn fd) (F : Sta Z h O fn fd v) (hd : decode bytes pc = .ok (.getstatic idx, 3)) (hp : pc + 3 = pc')
    (g : ∀ T' : State, own_Wk Z EL n0 own bytes maxL ret nm p l e R s m args below meth c T' ms k n h → own_Go Z EL n0 p e below s K N Q (T'.setTop (mkF m pc' Ls (v :: st)))) : own_Go Z EL n0 p e below s K N Q (T.setTop (mkF m pc Ls st)) := by
  subst hp; exact own_same w (fun s' locs X eT hZ hown => getS2 X w.1 hZ hown wl via eT F (g := mkF m pc Ls st) rfl (own_dec w hd)) g
theorem own_putF (w : own_Wk Z EL n0 own bytes maxL ret nm p l e R s m args below meth c T ms k n h) {idx kk : Nat} {R0 O fn fd host C : String} {v ov : Value} {ty : FieldType} (wl : (Jvm.Cond.fieldLink own idx R0 fn fd).before a0 Z = true ∨ (Jvm.Cond.fieldLinkNest own idx R0 fn fd host).before a0 Z = true) (via : Via Z R0 O fn fd) (hm : a ∈ ms) (F : Fld Z h a O fn fd ov) (E : Exa Z h a C) (L : (Jvm.Cond.lays C O fn fd).before a0 Z = true ∨ ((Jvm.Cond.laysFinal C O fn fd).before a0 Z = true ∧ own = O ∧ nm = "<init>")) (wi : (Jvm.Cond.instantiable C kk).before a0 Z = true)
    (hty : parseFieldDescriptor fd = some ty) (hn : narrow ty v = v) (hf : fits ty v = true) (hd : decode bytes pc = .ok (.putfield idx, 3)) (hp : pc + 3 = pc')
    (g : ∀ (T' : State) (h' : Heap), own_Wk Z EL n0 own bytes maxL ret nm p l e R s m args below meth c T' ms k n h' → Wr h h' a (RoadKit.slotOf Z O fn fd) v → own_Go Z EL n0 p e below s K N Q (T'.setTop (mkF m pc' Ls st))) : own_Go Z EL n0 p e below s K N Q (T.setTop (mkF m pc Ls (v :: .ref a :: st))) := by
  subst hp; exact own_write w hm (fun s' locs X eT hZ hown => putF X w.1 hZ hown wl via eT F E (L.imp id fun q => ⟨q.1, q.2.1, w.2.2.2.2.2.1.trans q.2.2⟩) wi hty hn hf (g := mkF m pc Ls (v :: .ref a :: st)) rfl rfl (own_dec w hd)) g
theorem own_newO (w : own_Wk Z EL n0 own bytes maxL ret nm p l e R s m args below meth c T ms k n h) {idx nn : Nat} {C : String} (wl : (Jvm.Cond.classLink own idx C).before a0 Z = true) (wi : (Jvm.Cond.instantiable C nn).before a0 Z = true) (wz : (Jvm.Cond.initialized C).before a0 Z = true) (hd : decode bytes pc = .ok (.new idx, 3)) (hp : pc + 3 = pc') (hc : k + 1 ≤ R.cells) (hl : n + nn ≤ R.slots)
    (g : ∀ (T' : State) (h' : Heap) (a : Addr), h.size = a → own_Wk Z EL n0 own bytes maxL ret nm p l e R s m args below meth c T' (a :: ms) (k + 1) (n + nn) h' → Ext h h' → (Exa Z h' a C ∧ (∀ {O fn fd : String} {ty : FieldType}, Laid Z a0 C O fn fd → parseFieldDescriptor fd = some ty → Fld Z h' a O fn fd (defaultValue ty))) → own_Go Z EL n0 p e below s K N Q (T'.setTop (mkF m pc' Ls (.ref a :: st)))) : own_Go Z EL n0 p e below s K N Q (T.setTop (mkF m pc Ls st)) := by
  subst hp; exact own_made w (F' := fun a => mkF m (pc + 3) Ls (.ref a :: st)) (fun s' locs X eT hZ hown => by
    obtain ⟨T', h', X', e', E', A', D', -, st'⟩ := newO X w.1 hZ hown wl wi wz eT (g := mkF m pc Ls st) rfl (own_dec w hd) hc hl
    exact ⟨T', h', X', e', E', A'.lt, ⟨A', D'⟩, st'⟩) g
theorem own_newP (w : own_Wk Z EL n0 own bytes maxL ret nm p l e R s m args below meth c T ms k n h) {aty : ArrayType} {z : Int32} {cap : Nat} {vs : List Value} {dv : Value} (wl : (Jvm.Cond.arrayClass (newarray.typeOf aty)).before a0 Z = true) (hd : decode bytes pc = .ok (.newarray aty, 2)) (hp : pc + 2 = pc') (hz : ¬ z < 0) (hcap : z.toNatClampNeg ≤ cap) (hb : cap * 8 ≤ 536870912) (hdv : defaultValue (newarray.typeOf aty) = dv) (hvs : ∀ i, vs.getD i dv = dv) (hc : k + 1 ≤ R.cells) (hl : n + cap ≤ R.slots)
    (g : ∀ (T' : State) (h' : Heap) (a : Addr), h.size = a → own_Wk Z EL n0 own bytes maxL ret nm p l e R s m args below meth c T' (a :: ms) (k + 1) (n + cap) h' → Ext h h' → (∃ kA, Arv Z h' a kA (newarray.typeOf aty) z vs dv) → own_Go Z EL n0 p e below s K N Q (T'.setTop (mkF m pc' Ls (.ref a :: st)))) : own_Go Z EL n0 p e below s K N Q (T.setTop (mkF m pc Ls (.int z :: st))) := by
  subst hp hdv; exact own_made w (F' := fun a => mkF m (pc + 2) Ls (.ref a :: st)) (fun s' locs X eT hZ hown => by
    obtain ⟨T', h', cA, X', e', E', A', st'⟩ := newP X w.1 hZ wl eT (g := mkF m pc Ls (.int z :: st)) rfl (own_dec w hd) rfl hz hcap hb hc hl
    exact ⟨T', h', X', e', E', A'.lt, ⟨cA, (Arv.new A' hz).pad fun i => by rw [hvs]; rfl⟩, st'⟩) g
theorem own_stC (w : own_Wk Z EL n0 own bytes maxL ret nm p l e R s m args below meth c T ms k n h) {j : Int32} {x : Int32} {z : Int32} {kA : ClassId} {vs vs' : List Value} {dv xv : Value} {i : Nat} (hm : a ∈ ms) (A : Arv Z h a kA .char z vs dv) (hj : ¬ j < 0 ∧ j < z) (hi : j.toNatClampNeg = i) (hil : i < vs.length) (hxv : (.int (nar .char x)) = xv) (hfv : fits .char xv = true) (hvs : vs.set i xv = vs') (hd : decode bytes pc = .ok (.castore, 1)) (hp : pc + 1 = pc')
    (g : ∀ (T' : State) (h' : Heap), own_Wk Z EL n0 own bytes maxL ret nm p l e R s m args below meth c T' ms k n h' → Wr h h' a j.toNatClampNeg xv → Arv Z h' a kA .char z vs' dv → own_Go Z EL n0 p e below s K N Q (T'.setTop (mkF m pc' Ls st))) : own_Go Z EL n0 p e below s K N Q (T.setTop (mkF m pc Ls (.int x :: .int j :: .ref a :: st))) := by
  subst hp hvs hxv
  obtain ⟨cl, Ar, c1, S, M, H, G⟩ := A
  exact own_write w hm (fun s' locs X eT hZ hown => stC X w.1 hZ eT Ar (inb_of S hj) (g := mkF m pc Ls (.int x :: .int j :: .ref a :: st)) rfl rfl (own_dec w hd)) (fun T' h' w' W => g T' h' w' W (Arv.set Ar c1 S M H G hfv W i hi hil))
theorem own_stB (w : own_Wk Z EL n0 own bytes maxL ret nm p l e R s m args below meth c T ms k n h) {j : Int32} {x : Int32} {z : Int32} {kA : ClassId} {vs vs' : List Value} {dv xv : Value} {i : Nat} (hm : a ∈ ms) (A : Arv Z h a kA .byte z vs dv) (hj : ¬ j < 0 ∧ j < z) (hi : j.toNatClampNeg = i) (hil : i < vs.length) (hxv : (.int x.toInt8.toInt32) = xv) (hfv : fits .byte xv = true) (hvs : vs.set i xv = vs') (hd : decode bytes pc = .ok (.bastore, 1)) (hp : pc + 1 = pc')
    (g : ∀ (T' : State) (h' : Heap), own_Wk Z EL n0 own bytes maxL ret nm p l e R s m args below meth c T' ms k n h' → Wr h h' a j.toNatClampNeg xv → Arv Z h' a kA .byte z vs' dv → own_Go Z EL n0 p e below s K N Q (T'.setTop (mkF m pc' Ls st))) : own_Go Z EL n0 p e below s K N Q (T.setTop (mkF m pc Ls (.int x :: .int j :: .ref a :: st))) := by
  subst hp hvs hxv
  obtain ⟨cl, Ar, c1, S, M, H, G⟩ := A
  exact own_write w hm (fun s' locs X eT hZ hown => stB X w.1 hZ eT Ar (inb_of S hj) (g := mkF m pc Ls (.int x :: .int j :: .ref a :: st)) rfl rfl (own_dec w hd)) (fun T' h' w' W => g T' h' w' W (Arv.set Ar c1 S M H G hfv W i hi hil))
theorem own_stI (w : own_Wk Z EL n0 own bytes maxL ret nm p l e R s m args below meth c T ms k n h) {j : Int32} {x : Int32} {z : Int32} {kA : ClassId} {vs vs' : List Value} {dv xv : Value} {i : Nat} (hm : a ∈ ms) (A : Arv Z h a kA .int z vs dv) (hj : ¬ j < 0 ∧ j < z) (hi : j.toNatClampNeg = i) (hil : i < vs.length) (hxv : (.int x) = xv) (hfv : fits .int xv = true) (hvs : vs.set i xv = vs') (hd : decode bytes pc = .ok (.iastore, 1)) (hp : pc + 1 = pc')
    (g : ∀ (T' : State) (h' : Heap), own_Wk Z EL n0 own bytes maxL ret nm p l e R s m args below meth c T' ms k n h' → Wr h h' a j.toNatClampNeg xv → Arv Z h' a kA .int z vs' dv → own_Go Z EL n0 p e below s K N Q (T'.setTop (mkF m pc' Ls st))) : own_Go Z EL n0 p e below s K N Q (T.setTop (mkF m pc Ls (.int x :: .int j :: .ref a :: st))) := by
  subst hp hvs hxv
  obtain ⟨cl, Ar, c1, S, M, H, G⟩ := A
  exact own_write w hm (fun s' locs X eT hZ hown => stI X w.1 hZ eT Ar (inb_of S hj) (g := mkF m pc Ls (.int x :: .int j :: .ref a :: st)) rfl rfl (own_dec w hd)) (fun T' h' w' W => g T' h' w' W (Arv.set Ar c1 S M H G hfv W i hi hil))
theorem own_stJ (w : own_Wk Z EL n0 own bytes maxL ret nm p l e R s m args below meth c T ms k n h) {j : Int32} {x : Int64} {z : Int32} {kA : ClassId} {vs vs' : List Value} {dv xv : Value} {i : Nat} (hm : a ∈ ms) (A : Arv Z h a kA .long z vs dv) (hj : ¬ j < 0 ∧ j < z) (hi : j.toNatClampNeg = i) (hil : i < vs.length) (hxv : (.long x) = xv) (hfv : fits .long xv = true) (hvs : vs.set i xv = vs') (hd : decode bytes pc = .ok (.lastore, 1)) (hp : pc + 1 = pc')
    (g : ∀ (T' : State) (h' : Heap), own_Wk Z EL n0 own bytes maxL ret nm p l e R s m args below meth c T' ms k n h' → Wr h h' a j.toNatClampNeg xv → Arv Z h' a kA .long z vs' dv → own_Go Z EL n0 p e below s K N Q (T'.setTop (mkF m pc' Ls st))) : own_Go Z EL n0 p e below s K N Q (T.setTop (mkF m pc Ls (.long x :: .int j :: .ref a :: st))) := by
  subst hp hvs hxv
  obtain ⟨cl, Ar, c1, S, M, H, G⟩ := A
  exact own_write w hm (fun s' locs X eT hZ hown => stJ X w.1 hZ eT Ar (inb_of S hj) (g := mkF m pc Ls (.long x :: .int j :: .ref a :: st)) rfl rfl (own_dec w hd)) (fun T' h' w' W => g T' h' w' W (Arv.set Ar c1 S M H G hfv W i hi hil))
theorem own_ldC (w : own_Wk Z EL n0 own bytes maxL ret nm p l e R s m args below meth c T ms k n h) {j : Int32} {v : Value} {z : Int32} {kA : ClassId} {vs : List Value} {dv : Value} (A : Arv Z h a kA .char z vs dv) (hj : ¬ j < 0 ∧ j < z) (hv : vs.getD j.toNatClampNeg dv = v) (hd : decode bytes pc = .ok (.caload, 1)) (hp : pc + 1 = pc') (g : own_Go Z EL n0 p e below s K N Q (T.setTop (mkF m pc' Ls (v :: st)))) : own_Go Z EL n0 p e below s K N Q (T.setTop (mkF m pc Ls (.int j :: .ref a :: st))) := by
  subst hp
  obtain ⟨cl, Ar, c1, S, M, H, G⟩ := A
  exact own_pure w (fun s' locs X eT hZ hown t q => X.caload w.1 (by rw [eT]; exact Ar.1) (State.isArrayOf_alike hZ.alike Ar.2.1) Ar.2.2 (inb_of S hj) (H.at (inb_of S hj) hv) (g := mkF m pc Ls (.int j :: .ref a :: st)) rfl rfl (own_dec w hd) t q) g
theorem own_ldB (w : own_Wk Z EL n0 own bytes maxL ret nm p l e R s m args below meth c T ms k n h) {j : Int32} {v : Value} {z : Int32} {kA : ClassId} {vs : List Value} {dv : Value} (A : Arv Z h a kA .byte z vs dv) (hj : ¬ j < 0 ∧ j < z) (hv : vs.getD j.toNatClampNeg dv = v) (hd : decode bytes pc = .ok (.baload, 1)) (hp : pc + 1 = pc') (g : own_Go Z EL n0 p e below s K N Q (T.setTop (mkF m pc' Ls (v :: st)))) : own_Go Z EL n0 p e below s K N Q (T.setTop (mkF m pc Ls (.int j :: .ref a :: st))) := by
  subst hp
  obtain ⟨cl, Ar, c1, S, M, H, G⟩ := A
  exact own_pure w (fun s' locs X eT hZ hown t q => X.baloadBytes w.1 (by rw [eT]; exact Ar.1) (State.isArrayOf_alike hZ.alike Ar.2.1) Ar.2.2 (inb_of S hj) (H.at (inb_of S hj) hv) (g := mkF m pc Ls (.int j :: .ref a :: st)) rfl rfl (own_dec w hd) t q) g
theorem own_ldI (w : own_Wk Z EL n0 own bytes maxL ret nm p l e R s m args below meth c T ms k n h) {j : Int32} {v : Value} {z : Int32} {kA : ClassId} {vs : List Value} {dv : Value} (A : Arv Z h a kA .int z vs dv) (hj : ¬ j < 0 ∧ j < z) (hv : vs.getD j.toNatClampNeg dv = v) (hd : decode bytes pc = .ok (.iaload, 1)) (hp : pc + 1 = pc') (g : own_Go Z EL n0 p e below s K N Q (T.setTop (mkF m pc' Ls (v :: st)))) : own_Go Z EL n0 p e below s K N Q (T.setTop (mkF m pc Ls (.int j :: .ref a :: st))) := by
  subst hp
  obtain ⟨cl, Ar, c1, S, M, H, G⟩ := A
  exact own_pure w (fun s' locs X eT hZ hown t q => X.iaload w.1 (by rw [eT]; exact Ar.1) (State.isArrayOf_alike hZ.alike Ar.2.1) Ar.2.2 (inb_of S hj) (H.at (inb_of S hj) hv) (g := mkF m pc Ls (.int j :: .ref a :: st)) rfl rfl (own_dec w hd) t q) g
theorem own_ldJ (w : own_Wk Z EL n0 own bytes maxL ret nm p l e R s m args below meth c T ms k n h) {j : Int32} {v : Value} {z : Int32} {kA : ClassId} {vs : List Value} {dv : Value} (A : Arv Z h a kA .long z vs dv) (hj : ¬ j < 0 ∧ j < z) (hv : vs.getD j.toNatClampNeg dv = v) (hd : decode bytes pc = .ok (.laload, 1)) (hp : pc + 1 = pc') (g : own_Go Z EL n0 p e below s K N Q (T.setTop (mkF m pc' Ls (v :: st)))) : own_Go Z EL n0 p e below s K N Q (T.setTop (mkF m pc Ls (.int j :: .ref a :: st))) := by
  subst hp
  obtain ⟨cl, Ar, c1, S, M, H, G⟩ := A
  exact own_pure w (fun s' locs X eT hZ hown t q => X.laload w.1 (by rw [eT]; exact Ar.1) (State.isArrayOf_alike hZ.alike Ar.2.1) Ar.2.2 (inb_of S hj) (H.at (inb_of S hj) hv) (g := mkF m pc Ls (.int j :: .ref a :: st)) rfl rfl (own_dec w hd) t q) g
theorem own_len (w : own_Wk Z EL n0 own bytes maxL ret nm p l e R s m args below meth c T ms k n h) {z : Int32} {kA : ClassId} {ty : FieldType} {vs : List Value} {dv : Value} (A : Arv Z h a kA ty z vs dv) (hd : decode bytes pc = .ok (.arraylength, 1)) (hp : pc + 1 = pc') (g : own_Go Z EL n0 p e below s K N Q (T.setTop (mkF m pc' Ls (.int z :: st)))) : own_Go Z EL n0 p e below s K N Q (T.setTop (mkF m pc Ls (.ref a :: st))) := by
  subst hp
  obtain ⟨cl, Ar, c1, S, M, H, G⟩ := A
  exact own_pure w (fun s' locs X eT hZ hown t q => X.arraylength w.1 (by rw [eT]; exact Ar.1) (State.isArrayOf_alike hZ.alike Ar.2.1) (g := mkF m pc Ls (.ref a :: st)) rfl rfl (own_dec w hd) t (by rw [len_of S M]; exact q)) g
theorem own_ldcI (w : own_Wk Z EL n0 own bytes maxL ret nm p l e R s m args below meth c T ms k n h) {idx : Nat} {x : Int32} (wl : (Jvm.Cond.constant own idx x).before a0 Z = true) (hd : decode bytes pc = .ok (.ldc idx, 2)) (hp : pc + 2 = pc') (g : own_Go Z EL n0 p e below s K N Q (T.setTop (mkF m pc' Ls (.int x :: st)))) : own_Go Z EL n0 p e below s K N Q (T.setTop (mkF m pc Ls st)) := by
  subst hp
  exact own_pure w (fun s' locs X eT hZ hown t q => X.ldcInt w.1 hown (mv hZ wl) (g := mkF m pc Ls st) rfl (own_dec w hd) t q) g
theorem own_ldc2J (w : own_Wk Z EL n0 own bytes maxL ret nm p l e R s m args below meth c T ms k n h) {idx : Nat} {x : Int64} (wl : (Jvm.Cond.constantLong own idx x).before a0 Z = true) (hd : decode bytes pc = .ok (.ldc2_w idx, 3)) (hp : pc + 3 = pc') (g : own_Go Z EL n0 p e below s K N Q (T.setTop (mkF m pc' Ls (.long x :: st)))) : own_Go Z EL n0 p e below s K N Q (T.setTop (mkF m pc Ls st)) := by
  subst hp
  exact own_pure w (fun s' locs X eT hZ hown t q => X.ldc2Long w.1 hown (mv hZ wl) (g := mkF m pc Ls st) rfl (own_dec w hd) t q) g
theorem own_ldA (w : own_Wk Z EL n0 own bytes maxL ret nm p l e R s m args below meth c T ms k n h) {j : Int32} {v : Value} {z : Int32} {kA : ClassId} {ty : FieldType} {vs : List Value} {dv : Value} (A : Arv Z h a kA ty z vs dv) (hty : ty.isReference = true) (hj : ¬ j < 0 ∧ j < z) (hv : vs.getD j.toNatClampNeg dv = v) (hd : decode bytes pc = .ok (.aaload, 1)) (hp : pc + 1 = pc') (g : own_Go Z EL n0 p e below s K N Q (T.setTop (mkF m pc' Ls (v :: st)))) : own_Go Z EL n0 p e below s K N Q (T.setTop (mkF m pc Ls (.int j :: .ref a :: st))) := by
  subst hp
  obtain ⟨cl, Ar, c1, S, M, H, G⟩ := A
  exact own_pure w (fun s' locs X eT hZ hown t q => X.aaload w.1 (by rw [eT]; exact Ar.1) (State.isArrayOf_alike hZ.alike Ar.2.1) hty Ar.2.2 (inb_of S hj) (H.at (inb_of S hj) hv) (g := mkF m pc Ls (.int j :: .ref a :: st)) rfl rfl (own_dec w hd) t q) g
theorem own_castN (w : own_Wk Z EL n0 own bytes maxL ret nm p l e R s m args below meth c T ms k n h) {idx : Nat} (hd : decode bytes pc = .ok (.checkcast idx, 3)) (hp : pc + 3 = pc') (g : own_Go Z EL n0 p e below s K N Q (T.setTop (mkF m pc' Ls (.null :: st)))) : own_Go Z EL n0 p e below s K N Q (T.setTop (mkF m pc Ls (.null :: st))) := by
  subst hp
  exact own_pure w (fun s' locs X eT hZ hown t q => X.checkcastNull w.1 (g := mkF m pc Ls (.null :: st)) rfl rfl (own_dec w hd) t q) g
theorem own_clone (w : own_Wk Z EL n0 own bytes maxL ret nm p l e R s m args below meth c T ms k n h) {idx W cap : Nat} {ad : String} {kA : ClassId} {ty : FieldType} {z : Int32} {vs : List Value} {dv : Value} (w1 : (Jvm.Cond.methodLink own idx ⟨ad, "clone", "()Ljava/lang/Object;"⟩).before a0 Z = true) (w2 : (Jvm.Cond.sameMethod ad "java/lang/Object" "clone" "()Ljava/lang/Object;").before a0 Z = true) (w3 : (Jvm.Cond.native ⟨"java/lang/Object", "clone", "()Ljava/lang/Object;"⟩).before a0 Z = true) (w4 : (Jvm.Cond.instanceMethod ⟨"java/lang/Object", "clone", "()Ljava/lang/Object;"⟩).before a0 Z = true) (w5 : (Jvm.Cond.selects ad ⟨ad, "clone", "()Ljava/lang/Object;"⟩ ⟨"java/lang/Object", "clone", "()Ljava/lang/Object;"⟩).before a0 Z = true) (w6 : (Jvm.Cond.castable ad "java/lang/Cloneable").before a0 Z = true)
    (A : Arv Z h a kA ty z vs dv) (E : Exa Z h a ad) (hsz : Ls.size = maxL) (hd : decode bytes pc = .ok (.invokevirtual idx, 3)) (hp : pc + 3 = pc') (hf : 1 ≤ R.frames) (hW : (st.map fun v => v.category).sum ≤ W) (hl : W + 14 ≤ R.locals) (hcap : z.toNatClampNeg ≤ cap) (hc : k + 1 ≤ R.cells) (hn : n + cap ≤ R.slots)
    (g : ∀ (T' : State) (h' : Heap) (b : Addr), h.size = b → own_Wk Z EL n0 own bytes maxL ret nm p l e R s m args below meth c T' (b :: ms) (k + 1) (n + cap) h' → Ext h h' → (Arv Z h' b kA ty z vs dv ∧ Exa Z h' b ad) → own_Go Z EL n0 p e below s K N Q (T'.setTop (mkF m pc' Ls (.ref b :: st)))) : own_Go Z EL n0 p e below s K N Q (T.setTop (mkF m pc Ls (.ref a :: st))) := by
  subst hp; exact own_made w (F' := fun b => mkF m (pc + 3) Ls (.ref b :: st)) (fun s' locs X eT hZ hown => by
    obtain ⟨T', h', X', e', E', A', E2, st'⟩ := cloneH X w.1 hZ hown w1 w2 w3 w4 w5 w6 eT (hs := []) A E (g := mkF m pc Ls (.ref a :: st)) rfl (by rw [w.2.2.1]; exact hsz) rfl (own_dec w hd) hf (W := W) (by show 2 * 0 + _ ≤ _; omega) hl hcap hc hn
    exact ⟨T', h', X', e', E', E2.lt, ⟨A', E2⟩, st'⟩) g
theorem own_castY (w : own_Wk Z EL n0 own bytes maxL ret nm p l e R s m args below meth c T ms k n h) {idx : Nat} {C : String} (wl : (Jvm.Cond.classLink own idx C).before a0 Z = true) (I : Ins Z h a C true) (hd : decode bytes pc = .ok (.checkcast idx, 3)) (hp : pc + 3 = pc') (g : ∀ T' : State, own_Wk Z EL n0 own bytes maxL ret nm p l e R s m args below meth c T' ms k n h → own_Go Z EL n0 p e below s K N Q (T'.setTop (mkF m pc' Ls (.ref a :: st)))) : own_Go Z EL n0 p e below s K N Q (T.setTop (mkF m pc Ls (.ref a :: st))) := by
  subst hp; exact own_same w (fun s' locs X eT hZ hown => castY X w.1 hZ hown wl eT I (g := mkF m pc Ls (.ref a :: st)) rfl rfl (own_dec w hd)) g
theorem own_instY (w : own_Wk Z EL n0 own bytes maxL ret nm p l e R s m args below meth c T ms k n h) {idx : Nat} {C : String} (wl : (Jvm.Cond.classLink own idx C).before a0 Z = true) (I : Ins Z h a C true) (hd : decode bytes pc = .ok (.instanceof idx, 3)) (hp : pc + 3 = pc') (g : ∀ T' : State, own_Wk Z EL n0 own bytes maxL ret nm p l e R s m args below meth c T' ms k n h → own_Go Z EL n0 p e below s K N Q (T'.setTop (mkF m pc' Ls (.int 1 :: st)))) : own_Go Z EL n0 p e below s K N Q (T.setTop (mkF m pc Ls (.ref a :: st))) := by
  subst hp; exact own_same w (fun s' locs X eT hZ hown => instY X w.1 hZ hown wl eT I (g := mkF m pc Ls (.ref a :: st)) rfl rfl (own_dec w hd)) g
theorem own_initO (w : own_Wk Z EL n0 own bytes maxL ret nm p l e R s m args below meth c T ms k n h) {idx W : Nat} (w1 : (Jvm.Cond.methodLink own idx Lib.objectInit).before a0 Z = true) (w2 : (Jvm.Cond.instanceMethod Lib.objectInit).before a0 Z = true) (w3 : (Jvm.Cond.code Lib.objectInit ⟨#[0xb1]⟩ 1 none).before a0 Z = true) (hsz : Ls.size = maxL) (hd : decode bytes pc = .ok (.invokespecial idx, 3)) (hp : pc + 3 = pc') (hf : 1 ≤ R.frames) (hW : (st.map fun v => v.category).sum ≤ W) (hl : W + 12 ≤ R.locals)
    (g : ∀ T' : State, own_Wk Z EL n0 own bytes maxL ret nm p l e R s m args below meth c T' ms k n h → own_Go Z EL n0 p e below s K N Q (T'.setTop (mkF m pc' Ls st))) : own_Go Z EL n0 p e below s K N Q (T.setTop (mkF m pc Ls (.ref a :: st))) := by
  subst hp; exact own_same w (fun s' locs X eT hZ hown => initO X w.1 hZ hown w1 w2 w3 eT (g := mkF m pc Ls (.ref a :: st)) rfl (by rw [w.2.2.1]; exact hsz) rfl (own_dec w hd) hf (W := W) (by show 2 * 0 + _ ≤ _; omega) hl) g
theorem own_acmp (w : own_Wk Z EL n0 own bytes maxL ret nm p l e R s m args below meth c T ms k n h) {cd : ClassFile.ACond} {x y : Value} {o : Int} {pcY : Nat} (hx' : x.isRef = true) (hy' : y.isRef = true) (hd : decode bytes pc = .ok (.if_acmp cd o, 3)) (hp : pc + 3 = pc') (ho : 0 ≤ (pc : Int) + o) (hq : ((pc : Int) + o).toNat = pcY) (gT : (match cd with | .eq => x = y | .ne => ¬ x = y) → own_Go Z EL n0 p e below s K N Q (T.setTop (mkF m pcY Ls st))) (gF : (match cd with | .eq => ¬ x = y | .ne => x = y) → own_Go Z EL n0 p e below s K N Q (T.setTop (mkF m pc' Ls st))) : own_Go Z EL n0 p e below s K N Q (T.setTop (mkF m pc Ls (y :: x :: st))) := by
  subst hp
  cases cd <;> by_cases q : x = y
  · exact own_go (fun _ z => XT.acmpYes (own_here w) w.1 rfl (pc0 := pc) rfl (own_dec w hd) rfl hx' hy' (by simp [XT.acmp, q]) ho hq z) (gT q)
  · exact own_go (fun _ z => XT.acmpNo (own_here w) w.1 rfl (own_dec w hd) rfl hx' hy' (by simp [XT.acmp, q]) z) (gF q)
  · exact own_go (fun _ z => XT.acmpNo (own_here w) w.1 rfl (own_dec w hd) rfl hx' hy' (by simp [XT.acmp, q]) z) (gF q)
  · exact own_go (fun _ z => XT.acmpYes (own_here w) w.1 rfl (pc0 := pc) rfl (own_dec w hd) rfl hx' hy' (by simp [XT.acmp, q]) ho hq z) (gT q)
theorem own_callIB (w : own_Wk Z EL n0 own bytes maxL ret nm p l e R s m args below meth c T ms k n h) {idx : Nat} {y : MethodName} {bytes' : ByteArray} {maxL' : Nat} {argsL rest : List Value} {ws : List Addr} {QQ : Option Value → Heap → List Loc → Prop} {ps : List FieldType} {rt : Option FieldType} {W kc nc : Nat} (hy1 : y.name = "<init>") (wl : (Jvm.Cond.methodLink own idx y).before a0 Z = true) (wt : (Jvm.Cond.instanceMethod y).before a0 Z = true) (wc : (Jvm.Cond.code y bytes' maxL' none).before a0 Z = true) (hy : y.cls ≠ "java/lang/invoke/MethodHandle" ∧ y.cls ≠ "java/lang/invoke/VarHandle")
    (bk : ∀ s' : State, Z.Warmed39 s'.vm → Back l R p e below s' args y 3 W (fun P aa => aa = (.ref a :: argsL).toArray ∧ P.U.heap = h ∧ P.cells + kc ≤ R.cells ∧ P.slots + nc ≤ R.slots) (fun P _ v B => ∃ L, QQ v B.U.heap L ∧ B.locs = P.locs ++ L ∧ B.cells = P.cells + kc ∧ B.slots = P.slots + nc)) (hws : ∀ x ∈ ws, x ∈ ms) (hpost : ∀ v h' L, QQ v h' L → Keep h h' ws ∧ Fr n0 L) (hst : st = argsL.reverse ++ .ref a :: rest) (hsz : Ls.size = maxL) (hpd : parseMethodDescriptor y.desc = some ⟨ps, rt⟩) (hln : argsL.length = ps.length) (hd : decode bytes pc = .ok (.invokespecial idx, 3)) (hp : pc + 3 = pc') (hW : (rest.map fun v => v.category).sum ≤ W) (hc : k + kc ≤ R.cells) (hn : n + nc ≤ R.slots)
    (g : ∀ (T' : State) (h' : Heap) (v : Option Value), own_Wk Z EL n0 own bytes maxL ret nm p l e R s m args below meth c T' ms (k + kc) (n + nc) h' → Keep h h' ws → (∃ L, QQ v h' L) → own_Go Z EL n0 p e below s K N Q (T'.setTop (mkF m pc' Ls (v.toList ++ rest)))) : own_Go Z EL n0 p e below s K N Q (T.setTop (mkF m pc Ls st)) := by
  subst hp hst
  refine own_core w (k' := k + kc) (n' := n + nc) (ws := ws) (P := fun h' new F'' => ∃ v L, QQ v h' L ∧ new = [] ∧ F'' = mkF m (pc + 3) Ls (v.toList ++ rest)) hws (fun s' locs X eT hZ hown => by
    obtain ⟨v, _, ⟨T', L', k', n'⟩, -, X', ⟨L, hQ, l1, l2, l3⟩, st'⟩ := X.specialBack w.1 (y := y) hy1 hown (mvT hZ wl) (mvT hZ wt) (mvT hZ wc) hy (bk s' hZ) (g := mkF m pc Ls (argsL.reverse ++ .ref a :: rest)) rfl (by rw [w.2.2.1]; exact hsz) (Steps.refl _) (a := a) (argsL := argsL) (rest := rest) (lenOf hpd hln) rfl (by show 2 * 0 + _ ≤ _; omega) (own_dec w hd) (fun _ _ => ⟨rfl, eT, hc, hn⟩)
    dsimp only [Pt.U, Pt.locs, Pt.cells, Pt.slots] at X' hQ l1 l2 l3 st'
    subst l1 l2 l3
    exact ⟨T', _, L, [], _, X', rfl, (hpost _ _ _ hQ).1, (hpost _ _ _ hQ).2, all0, ⟨v, L, hQ, rfl, rfl⟩, fun _ q => st'.trans q⟩) (fun T' h' new F'' w' Kp q => by
    obtain ⟨v, L, q1, rfl, rfl⟩ := q
    exact g T' h' v w' Kp ⟨L, q1⟩)
theorem own_callVB (w : own_Wk Z EL n0 own bytes maxL ret nm p l e R s m args below meth c T ms k n h) {idx : Nat} {y z : MethodName} {C : String} {argsL rest : List Value} {ws : List Addr} {QQ : Option Value → Heap → List Loc → Prop} {ps : List FieldType} {rt : Option FieldType} {W kc nc : Nat} (wl : (Jvm.Cond.methodLink own idx y).before a0 Z = true) (wd : (Jvm.Cond.declares y).before a0 Z = true) (hnf : ∀ s' : State, Z.Warmed39 s'.vm → NotFace s' y) (wsel : (Jvm.Cond.selects C y z).before a0 Z = true) (wt : (Jvm.Cond.instanceMethod z).before a0 Z = true) (hy : y.cls ≠ "java/lang/invoke/MethodHandle" ∧ y.cls ≠ "java/lang/invoke/VarHandle") (E : Exa Z h a C)
    (bk : ∀ s' : State, Z.Warmed39 s'.vm → Back l R p e below s' args z 3 W (fun P aa => aa = (.ref a :: argsL).toArray ∧ P.U.heap = h ∧ P.cells + kc ≤ R.cells ∧ P.slots + nc ≤ R.slots) (fun P _ v B => ∃ L, QQ v B.U.heap L ∧ B.locs = P.locs ++ L ∧ B.cells = P.cells + kc ∧ B.slots = P.slots + nc)) (hws : ∀ x ∈ ws, x ∈ ms) (hpost : ∀ v h' L, QQ v h' L → Keep h h' ws ∧ Fr n0 L) (hst : st = argsL.reverse ++ .ref a :: rest) (hsz : Ls.size = maxL) (hpd : parseMethodDescriptor y.desc = some ⟨ps, rt⟩) (hln : argsL.length = ps.length) (hd : decode bytes pc = .ok (.invokevirtual idx, 3)) (hp : pc + 3 = pc') (hW : (rest.map fun v => v.category).sum ≤ W) (hc : k + kc ≤ R.cells) (hn : n + nc ≤ R.slots)
    (g : ∀ (T' : State) (h' : Heap) (v : Option Value), own_Wk Z EL n0 own bytes maxL ret nm p l e R s m args below meth c T' ms (k + kc) (n + nc) h' → Keep h h' ws → (∃ L, QQ v h' L) → own_Go Z EL n0 p e below s K N Q (T'.setTop (mkF m pc' Ls (v.toList ++ rest)))) : own_Go Z EL n0 p e below s K N Q (T.setTop (mkF m pc Ls st)) := by
  subst hp hst
  refine own_core w (k' := k + kc) (n' := n + nc) (ws := ws) (P := fun h' new F'' => ∃ v L, QQ v h' L ∧ new = [] ∧ F'' = mkF m (pc + 3) Ls (v.toList ++ rest)) hws (fun s' locs X eT hZ hown => by
    obtain ⟨cq, kq, qa, qb, qc⟩ := isOf hZ eT E
    obtain ⟨v, _, ⟨T', L', k', n'⟩, -, X', ⟨L, hQ, l1, l2, l3⟩, st'⟩ := X.virtualBack w.1 (y := y) (z := z) hown (mvT hZ wl) (mvT hZ wd) (hnf _ hZ) (mvT hZ wsel) (mvT hZ wt) hy (bk s' hZ) qa qc (g := mkF m pc Ls (argsL.reverse ++ .ref a :: rest)) rfl (by rw [w.2.2.1]; exact hsz) (Steps.refl _) (argsL := argsL) (rest := rest) (lenOf hpd hln) rfl (by show 2 * 0 + _ ≤ _; omega) (own_dec w hd) (fun _ _ => ⟨rfl, eT, hc, hn⟩)
    dsimp only [Pt.U, Pt.locs, Pt.cells, Pt.slots] at X' hQ l1 l2 l3 st'
    subst l1 l2 l3
    exact ⟨T', _, L, [], _, X', rfl, (hpost _ _ _ hQ).1, (hpost _ _ _ hQ).2, all0, ⟨v, L, hQ, rfl, rfl⟩, fun _ q => st'.trans q⟩) (fun T' h' new F'' w' Kp q => by
    obtain ⟨v, L, q1, rfl, rfl⟩ := q
    exact g T' h' v w' Kp ⟨L, q1⟩)
end OwnKit
theorem own_hws {Z : State} {a0 : Array Value} (hw : ∀ d ∈ tables_1, d.before a0 Z = true) : ∀ d ∈ StrChars.Road.words, d.before a0 Z = true := fun d hd => hw d ((by decide +kernel : ∀ d ∈ StrChars.Road.words, d ∈ tables_1) d hd)
theorem own_hwq {Z : State} {a0 : Array Value} (hw : ∀ d ∈ tables_1, d.before a0 Z = true) : ∀ d ∈ StrChars.Road.wordsEq, d.before a0 Z = true := fun d hd => hw d ((by decide +kernel : ∀ d ∈ StrChars.Road.wordsEq, d ∈ tables_1) d hd)
theorem own_cod {cs : List Int32} {n : Nat} (hn : cs.length = n) (hp : ∀ c ∈ cs, ¬ c < 0 ∧ ¬ (255 : Int32) < c) : StrChars.Road.CodA cs 0 (Int32.ofNat n) ((cs.map fun c => c.toInt8.toInt32).map Value.int) := StrChars.Road.codOf hn (fun c hc => (hp c hc).2)
theorem own_fR {args : Array Value} {s : State} {t : Term} {C n d D : String} {a : Addr} (ht : t.eval args s none [] s = some (.ref a)) (h : (Jvm.Cond.exactly (.field t C n d) D).value args s none s [] = some true) : ∃ b, s.fieldOf? a C n d = some (.ref b) ∧ (Term.field t C n d).eval args s none [] s = some (.ref b) := by
  obtain ⟨b, e⟩ := exa_v h
  exact ⟨b, (fld_at ht).symm.trans e, e⟩
theorem own_fI {args : Array Value} {s : State} {t : Term} {C n d : String} {x : Int32} {a : Addr} (ht : t.eval args s none [] s = some (.ref a)) (h : (Jvm.Cond.eq (.field t C n d) (.int x)).value args s none s [] = some true) : s.fieldOf? a C n d = some (.int x) := by
  obtain ⟨u, v, e1, e2, k1, k2⟩ := cmp_v (Or.inl h)
  cases (Term.int_eval x).symm.trans e2
  obtain ⟨y, rfl⟩ := k2
  have q := gotT (Cond.eq_ints e1 (Term.int_eval x)) h
  rw [← fld_at ht, e1, q]
theorem own_eI {args : Array Value} {s : State} {t : Term} {x j : Int32} (h : (Jvm.Cond.eq (.elem t (.int j)) (.int x)).value args s none s [] = some true) : (Term.elem t (.int j)).eval args s none [] s = some (.int x) := by
  obtain ⟨u, v, e1, e2, k1, k2⟩ := cmp_v (Or.inl h)
  cases (Term.int_eval x).symm.trans e2
  obtain ⟨y, rfl⟩ := k2
  have q := gotT (Cond.eq_ints e1 (Term.int_eval x)) h
  rw [e1, q]
theorem own_eR {args : Array Value} {s : State} {t u : Term} {j : Int32} {b : Addr} (hu : u.eval args s none [] s = some (.ref b)) (h : (Jvm.Cond.eq (.elem t (.int j)) u).value args s none s [] = some true) : (Term.elem t (.int j)).eval args s none [] s = some (.ref b) := by
  obtain ⟨x, y, e1, e2, k1, k2⟩ := cmp_v (Or.inl h)
  cases hu.symm.trans e2
  have hx : x.isRef = true := by cases x <;> first | rfl | exact k2.2 | (obtain ⟨z, q⟩ := k1; cases q)
  have q := gotT (eq_R e1 hu hx rfl) h
  rw [e1, q]
theorem own_lI {args : Array Value} {s : State} {t : Term} {z : Int32} {a : Addr} {cl : Cell} (ht : t.eval args s none [] s = some (.ref a)) (hc : s.heap[a]? = some cl) (h : (Jvm.Cond.eq (.length t) (.int z)).value args s none s [] = some true) : cl.slots.size < 2 ^ 31 ∧ cl.slots.size.toInt32 = z := by
  obtain ⟨u, v, e1, e2, k1, k2⟩ := cmp_v (Or.inl h)
  cases (Term.int_eval z).symm.trans e2
  obtain ⟨y, rfl⟩ := k2
  have q := gotT (Cond.eq_ints e1 (Term.int_eval z)) h
  subst q
  obtain ⟨x, c', f1, f2, f3⟩ := Term.length_spec e1
  cases ht.symm.trans f1
  have f4 : s.heap[a]? = some c' := by
    simp only [State.arrayAt?, Option.bind_eq_bind, Option.bind_eq_some_iff] at f2
    obtain ⟨c2, g1, k, g2, g3⟩ := f2
    split at g3
    · cases g3
    · split at g3
      · cases g3; exact g1
      · cases g3
  cases hc.symm.trans f4
  refine ⟨?_, (Value.int.inj f3).symm⟩
  apply Classical.byContradiction
  intro hbig
  simp [Term.eval, ht, f2, hbig] at e1

theorem own_hst {Z : State} {a0 : Array Value} (hw : ∀ d ∈ tables_1, d.before a0 Z = true) : ∀ d ∈ Bundle.stringAtoms, d.before a0 Z = true := fun d hd => hw d ((by decide +kernel : ∀ d ∈ Bundle.stringAtoms, d ∈ tables_1) d hd)
theorem own_dr (y : Int32) : ¬ (48 + (y &&& 255) % 10) < 0 ∧ ¬ (255 : Int32) < 48 + (y &&& 255) % 10 := by
  have h := own_and255 y
  simp only [Int32.lt_iff_toInt_lt, Int32.toInt_zero] at h
  have e255 : (255 : Int32).toInt = 255 := rfl
  have hr := Jvm.Kit.i32_rem_nonneg (x := y &&& 255) (y := 10) (by omega)
  have e10 : (10 : Int32).toInt = 10 := rfl
  rw [e10] at hr
  have e48 : (48 : Int32).toInt = 48 := rfl
  have ha := Jvm.Kit.i32_add (p := 48) (q := (y &&& 255) % 10) (by omega) (by omega)
  simp only [Int32.lt_iff_toInt_lt, Int32.toInt_zero]
  omega
theorem own_d0_0 : decode jdk_42_method_149_code 0 = .ok (.aload_n 0, 1) := by decide +kernel
theorem own_d0_1 : decode jdk_42_method_149_code 1 = .ok (.invokespecial 1, 3) := by decide +kernel
theorem own_d0_4 : decode jdk_42_method_149_code 4 = .ok (.iload_n 3, 1) := by decide +kernel
theorem own_d0_5 : decode jdk_42_method_149_code 5 = .ok (.ifCond .ne 22, 3) := by decide +kernel
theorem own_d0_8 : decode jdk_42_method_149_code 8 = .ok (.aload_n 0, 1) := by decide +kernel
theorem own_d0_9 : decode jdk_42_method_149_code 9 = .ok (.ldc 7, 2) := by decide +kernel
theorem own_d0_11 : decode jdk_42_method_149_code 11 = .ok (.getfield 9, 3) := by decide +kernel
theorem own_d0_14 : decode jdk_42_method_149_code 14 = .ok (.putfield 9, 3) := by decide +kernel
theorem own_d0_17 : decode jdk_42_method_149_code 17 = .ok (.aload_n 0, 1) := by decide +kernel
theorem own_d0_18 : decode jdk_42_method_149_code 18 = .ok (.ldc 7, 2) := by decide +kernel
theorem own_d0_20 : decode jdk_42_method_149_code 20 = .ok (.getfield 15, 3) := by decide +kernel
theorem own_d0_23 : decode jdk_42_method_149_code 23 = .ok (.putfield 15, 3) := by decide +kernel
theorem own_d0_26 : decode jdk_42_method_149_code 26 = .ok (.return_, 1) := by decide +kernel
theorem own_ef_strE4 (m : MethodId) (a1 : Addr) (a2 : Addr) (of : Int32) (ln : Int32) : entryFrame m #[(.ref a1), (.ref a2), (.int of), (.int ln), .null] 6 = mkF m 0 #[.val (.ref a1), .val (.ref a2), .val (.int of), .val (.int ln), .val .null, .unset] [] := by first | (simp [entryFrame, mkF, argsToLocals, Value.category]; done) | rfl
theorem own_pf0 : plainFor (⟨"java/lang/String", "<init>", "([CIILjava/lang/Void;)V"⟩ : MethodName) = true := by first | exact plainFor_of_name (by first | (simp [plainName, overriddenIn]; done) | decide +kernel) | decide +kernel
def own_Q_strE4 (Z : State) (h0 : Heap) (a1 : Addr) (a2 : Addr) (of : Int32) (ln : Int32) (u1 : Value) (u2 : Value) (v : Option Value) (h : Heap) (ms : List Addr) : Prop := (Keep h0 h [a1]) ∧ (∃ (t : Addr) (kb : ClassId), (ms = []) ∧ (v = none) ∧ (Exa Z h a1 "java/lang/String") ∧ (Fld Z h a1 "java/lang/String" "coder" "B" (.int 0)) ∧ (Fld Z h a1 "java/lang/String" "value" "[B" (.ref t)) ∧ (Arv Z h t kb .byte (0 : Int32) [] (.int 0)) ∧ (a1 ≠ t))
set_option maxRecDepth 65536 in
set_option maxHeartbeats 40000000 in
theorem own_ct_strE4 (l : Launch) (Z : State) (a0 : Array Value) (hw : ∀ d ∈ tables_1, d.before a0 Z = true) (EL : List (String × Nat)) (hE : EW Z a0 EL) (n0 : Nat) (ws : List Jvm.Cond) (h0 : Heap) (O : Old Z n0 h0) (a1 : Addr) (a2 : Addr) (of : Int32) (ln : Int32) (u1 : Value) (u2 : Value) (E_a1 : Exa Z h0 a1 "java/lang/String") (F_a1_value : Fld Z h0 a1 "java/lang/String" "value" "[B" u1) (F_a1_coder : Fld Z h0 a1 "java/lang/String" "coder" "B" u2) (hln : ln = 0) (hEL : ("java/lang/String", 7) ∈ EL) :
    own_Ct l Z EL n0 (⟨"java/lang/String", "<init>", "([CIILjava/lang/Void;)V"⟩ : MethodName) jdk_42_method_149_code 6 none ws ({ frames := 1, cells := 4, slots := 8, locals := 12 } : Room) #[(.ref a1), (.ref a2), (.int of), (.int ln), .null] h0 [a1] (own_Q_strE4 Z h0 a1 a2 of ln u1 u2) := by
  refine own_enter (a0 := a0) own_pf0 hE O fun p e s m below meth c T0 w0 => ?_
  rw [own_ef_strE4 m a1 a2 of ln]
  have K : Keep h0 h0 [a1] := Keep.refl _ _
  refine own_aloadN (pc' := 1) w0 own_d0_0 rfl rfl rfl ?_
  refine own_initO (pc' := 4) w0 (hw _ (List.mem_of_getElem? (i := 15) rfl)) (hw _ (List.mem_of_getElem? (i := 16) rfl)) (hw _ (List.mem_of_getElem? (i := 17) rfl)) rfl own_d0_1 rfl (by decide) (W := 0) (Nat.le_of_eq rfl) (by decide) fun T1 w2 => ?_
  refine own_iloadN (pc' := 5) w2 own_d0_4 rfl rfl ?_
  refine own_if (pc' := 8) w2 own_d0_5 rfl (by decide) (pcY := 27) rfl (fun (hb5 : ¬ ln = (0 : Int32)) => absurd hln hb5) (fun (hb5 : ln = (0 : Int32)) => ?_)
  refine own_aloadN (pc' := 9) w2 own_d0_8 rfl rfl rfl ?_
  refine own_ldcS (pc' := 11) w2 (vs := []) (z := (0 : Int32)) (nn := 0) (hw _ (List.mem_of_getElem? (i := 18) rfl)) (own_hst hw) hEL ⟨by decide +kernel, by rfl⟩ (by decide) rfl own_d0_9 rfl (by decide +kernel) (by decide) (by decide) (by decide) hE fun T3 h5 a7 t8 kb9 w4 E6 ⟨E_a7, F_a7_coder, F_a7_value, A_t8, ne10⟩ => ?_
  replace E_a1 := E_a1.ext E6
  replace F_a1_value := F_a1_value.ext E6
  replace F_a1_coder := F_a1_coder.ext E6
  replace K := K.ext E6
  have ne_a1_a7 : a1 ≠ a7 := (ne10 a1 (by simp)).1
  have ne_a1_t8 : a1 ≠ t8 := (ne10 a1 (by simp)).2
  refine own_getF (pc' := 14) w4 (host := "") (Or.inl (hw _ (List.mem_of_getElem? (i := 24) rfl))) Via.refl F_a7_value own_d0_11 rfl fun T11 w12 => ?_
  refine own_putF (pc' := 17) w12 (host := "") (Or.inl (hw _ (List.mem_of_getElem? (i := 24) rfl))) Via.refl (by simp) F_a1_value E_a1 (Or.inr ⟨(hw _ (List.mem_of_getElem? (i := 20) rfl)), rfl, rfl⟩) (hw _ (List.mem_of_getElem? (i := 5) rfl)) (ty := (.array .byte)) (by decide) rfl rfl own_d0_14 rfl fun T13 h15 w14 W16 => ?_
  replace F_a1_value := F_a1_value.same W16
  replace E_a1 := E_a1.wr W16
  replace F_a1_coder := F_a1_coder.other W16 (Or.inr (slot_ne (Or.inr (hw _ (List.mem_of_getElem? (i := 21) rfl))) (Or.inr (hw _ (List.mem_of_getElem? (i := 20) rfl))) (by decide) (t := .byte) (t' := (.array .byte)) (by decide) (by decide)))
  replace E_a7 := E_a7.wr W16
  replace F_a7_coder := F_a7_coder.other W16 (Or.inl (Ne.symm ne_a1_a7))
  replace F_a7_value := F_a7_value.other W16 (Or.inl (Ne.symm ne_a1_a7))
  replace A_t8 := A_t8.other W16 (Ne.symm ne_a1_t8)
  replace K := K.wr W16 (Or.inl (by simp))
  refine own_aloadN (pc' := 18) w14 own_d0_17 rfl rfl rfl ?_
  refine own_ldcS (pc' := 20) w14 (vs := []) (z := (0 : Int32)) (nn := 0) (hw _ (List.mem_of_getElem? (i := 18) rfl)) (own_hst hw) hEL ⟨by decide +kernel, by rfl⟩ (by decide) rfl own_d0_18 rfl (by decide +kernel) (by decide) (by decide) (by decide) hE fun T17 h19 a21 t22 kb23 w18 E20 ⟨E_a21, F_a21_coder, F_a21_value, A_t22, ne24⟩ => ?_
  replace E_a1 := E_a1.ext E20
  replace F_a1_value := F_a1_value.ext E20
  replace F_a1_coder := F_a1_coder.ext E20
  replace E_a7 := E_a7.ext E20
  replace F_a7_coder := F_a7_coder.ext E20
  replace F_a7_value := F_a7_value.ext E20
  replace A_t8 := A_t8.ext E20
  replace K := K.ext E20
  have ne_a1_a21 : a1 ≠ a21 := (ne24 a1 (by simp)).1
  have ne_a1_t22 : a1 ≠ t22 := (ne24 a1 (by simp)).2
  refine own_getF (pc' := 23) w18 (host := "") (Or.inl (hw _ (List.mem_of_getElem? (i := 25) rfl))) Via.refl F_a21_coder own_d0_20 rfl fun T25 w26 => ?_
  refine own_putF (pc' := 26) w26 (host := "") (Or.inl (hw _ (List.mem_of_getElem? (i := 25) rfl))) Via.refl (by simp) F_a1_coder E_a1 (Or.inr ⟨(hw _ (List.mem_of_getElem? (i := 21) rfl)), rfl, rfl⟩) (hw _ (List.mem_of_getElem? (i := 5) rfl)) (ty := .byte) (by decide) rfl rfl own_d0_23 rfl fun T27 h29 w28 W30 => ?_
  replace F_a1_coder := F_a1_coder.same W30
  replace E_a1 := E_a1.wr W30
  replace F_a1_value := F_a1_value.other W30 (Or.inr (slot_ne (Or.inr (hw _ (List.mem_of_getElem? (i := 20) rfl))) (Or.inr (hw _ (List.mem_of_getElem? (i := 21) rfl))) (by decide) (t := (.array .byte)) (t' := .byte) (by decide) (by decide)))
  replace E_a7 := E_a7.wr W30
  replace F_a7_coder := F_a7_coder.other W30 (Or.inl (Ne.symm ne_a1_a7))
  replace F_a7_value := F_a7_value.other W30 (Or.inl (Ne.symm ne_a1_a7))
  replace A_t8 := A_t8.other W30 (Ne.symm ne_a1_t8)
  replace E_a21 := E_a21.wr W30
  replace F_a21_coder := F_a21_coder.other W30 (Or.inl (Ne.symm ne_a1_a21))
  replace F_a21_value := F_a21_value.other W30 (Or.inl (Ne.symm ne_a1_a21))
  replace A_t22 := A_t22.other W30 (Ne.symm ne_a1_t22)
  replace K := K.wr W30 (Or.inl (by simp))
  exact own_ret0 w28 rfl own_d0_26 (by decide) (by decide) (ms' := []) all0 ⟨K, t8, kb9, rfl, rfl, E_a1, F_a1_coder, F_a1_value, A_t8, ne_a1_t8⟩
theorem own_d1_0 : decode jdk_42_method_3_code 0 = .ok (.aload_n 0, 1) := by decide +kernel
theorem own_d1_1 : decode jdk_42_method_3_code 1 = .ok (.aload_n 1, 1) := by decide +kernel
theorem own_d1_2 : decode jdk_42_method_3_code 2 = .ok (.iconst 0, 1) := by decide +kernel
theorem own_d1_3 : decode jdk_42_method_3_code 3 = .ok (.aload_n 1, 1) := by decide +kernel
theorem own_d1_4 : decode jdk_42_method_3_code 4 = .ok (.arraylength, 1) := by decide +kernel
theorem own_d1_5 : decode jdk_42_method_3_code 5 = .ok (.aconst_null, 1) := by decide +kernel
theorem own_d1_6 : decode jdk_42_method_3_code 6 = .ok (.invokespecial 27, 3) := by decide +kernel
theorem own_pd0 : parseMethodDescriptor "([CIILjava/lang/Void;)V" = some ⟨[(.array .char), .int, .int, (.object "java/lang/Void")], none⟩ := by decide +kernel
theorem own_d1_9 : decode jdk_42_method_3_code 9 = .ok (.return_, 1) := by decide +kernel
theorem own_ef_strE1 (m : MethodId) (a1 : Addr) (a2 : Addr) : entryFrame m #[(.ref a1), (.ref a2)] 2 = mkF m 0 #[.val (.ref a1), .val (.ref a2)] [] := by first | (simp [entryFrame, mkF, argsToLocals, Value.category]; done) | rfl
theorem own_pf1 : plainFor (⟨"java/lang/String", "<init>", "([C)V"⟩ : MethodName) = true := by first | exact plainFor_of_name (by first | (simp [plainName, overriddenIn]; done) | decide +kernel) | decide +kernel
def own_Q_strE1 (Z : State) (h0 : Heap) (a1 : Addr) (a2 : Addr) (u1 : Value) (u2 : Value) (kA : ClassId) (vs : List Value) (dv : Value) (v : Option Value) (h : Heap) (ms : List Addr) : Prop := (Keep h0 h [a1]) ∧ (∃ (t : Addr) (kb : ClassId), (ms = []) ∧ (v = none) ∧ (Exa Z h a1 "java/lang/String") ∧ (Fld Z h a1 "java/lang/String" "coder" "B" (.int 0)) ∧ (Fld Z h a1 "java/lang/String" "value" "[B" (.ref t)) ∧ (Arv Z h t kb .byte (0 : Int32) [] (.int 0)) ∧ (a1 ≠ t))
set_option maxRecDepth 65536 in
set_option maxHeartbeats 40000000 in
theorem own_ct_strE1 (l : Launch) (Z : State) (a0 : Array Value) (hw : ∀ d ∈ tables_1, d.before a0 Z = true) (EL : List (String × Nat)) (hE : EW Z a0 EL) (n0 : Nat) (ws : List Jvm.Cond) (h0 : Heap) (O : Old Z n0 h0) (a1 : Addr) (a2 : Addr) (u1 : Value) (u2 : Value) (kA : ClassId) (vs : List Value) (dv : Value) (E_a1 : Exa Z h0 a1 "java/lang/String") (F_a1_value : Fld Z h0 a1 "java/lang/String" "value" "[B" u1) (F_a1_coder : Fld Z h0 a1 "java/lang/String" "coder" "B" u2) (A_a2 : Arv Z h0 a2 kA .char (0 : Int32) vs dv) (hEL : ("java/lang/String", 7) ∈ EL) (hne : a2 ≠ a1) :
    own_Ct l Z EL n0 (⟨"java/lang/String", "<init>", "([C)V"⟩ : MethodName) jdk_42_method_3_code 2 none ws ({ frames := 2, cells := 4, slots := 8, locals := 29 } : Room) #[(.ref a1), (.ref a2)] h0 [a1] (own_Q_strE1 Z h0 a1 a2 u1 u2 kA vs dv) := by
  refine own_enter (a0 := a0) own_pf1 hE O fun p e s m below meth c T0 w0 => ?_
  rw [own_ef_strE1 m a1 a2]
  have K : Keep h0 h0 [a1] := Keep.refl _ _
  refine own_aloadN (pc' := 1) w0 own_d1_0 rfl rfl rfl ?_
  refine own_aloadN (pc' := 2) w0 own_d1_1 rfl rfl rfl ?_
  refine own_iconst (pc' := 3) w0 own_d1_2 (x := (0 : Int32)) rfl rfl ?_
  refine own_aloadN (pc' := 4) w0 own_d1_3 rfl rfl rfl ?_
  refine own_len (pc' := 5) w0 A_a2 own_d1_4 rfl ?_
  refine own_aconstNull (pc' := 6) w0 own_d1_5 rfl ?_
  refine own_callI (pc' := 9) w0 rfl (hw _ (List.mem_of_getElem? (i := 11) rfl)) (hw _ (List.mem_of_getElem? (i := 12) rfl)) (hw _ (List.mem_of_getElem? (i := 6) rfl)) (hw _ (List.mem_of_getElem? (i := 14) rfl)) (by decide) (own_ct_strE4 l Z a0 hw EL hE n0 [] h0 (own_old w0) a1 a2 (0 : Int32) (0 : Int32) u1 u2 E_a1 F_a1_value F_a1_coder (rfl) (hEL)) (allS (P := fun x => x ∈ _) (by simp) all0) (argsL := [(.ref a2), (.int (0 : Int32)), (.int (0 : Int32)), .null]) (rest := []) rfl rfl own_pd0 rfl own_d1_6 rfl (by decide) (W := 0) rfl (by decide) (by decide) (by decide) fun T1 h3 v4 ms5 w2 q6 => ?_
  obtain ⟨K9, t_7, kb_8, rfl, rfl, nw_E_a1, nw_F_a1_coder, nw_F_a1_value, nw_A_t_7, p6_strE4_0⟩ := q6
  replace A_a2 := A_a2.keep K9 (ninS hne nin0)
  replace K := K.trans K9 (allS (P := fun x => x ∈ ([a1] : List Addr) ∨ h0.size ≤ x) (Or.inl (by simp)) all0)
  have E_a1 := nw_E_a1; clear nw_E_a1
  have F_a1_coder := nw_F_a1_coder; clear nw_F_a1_coder
  have F_a1_value := nw_F_a1_value; clear nw_F_a1_value
  have A_t_7 := nw_A_t_7; clear nw_A_t_7
  show own_Go Z EL n0 p e below s _ _ _ (T1.setTop (mkF m 9 #[.val (.ref a1), .val (.ref a2)] []))
  exact own_ret0 w2 rfl own_d1_9 (by decide) (by decide) (ms' := []) all0 ⟨K, t_7, kb_8, rfl, rfl, E_a1, F_a1_coder, F_a1_value, A_t_7, p6_strE4_0⟩
theorem own_d2_0 : decode jdk_32_method_1_code 0 = .ok (.getstatic 1, 3) := by decide +kernel
theorem own_d2_3 : decode jdk_32_method_1_code 3 = .ok (.astore_n 0, 1) := by decide +kernel
theorem own_d2_4 : decode jdk_32_method_1_code 4 = .ok (.aload_n 0, 1) := by decide +kernel
theorem own_d2_5 : decode jdk_32_method_1_code 5 = .ok (.areturn, 1) := by decide +kernel
theorem own_ef_optEmpty (m : MethodId)  : entryFrame m #[] 1 = mkF m 0 #[.unset] [] := by first | (simp [entryFrame, mkF, argsToLocals, Value.category]; done) | rfl
theorem own_pf2 : plainFor (⟨"java/util/Optional", "empty", "()Ljava/util/Optional;"⟩ : MethodName) = true := by first | exact plainFor_of_name (by first | (simp [plainName, overriddenIn]; done) | decide +kernel) | decide +kernel
def own_Q_optEmpty (Z : State) (h0 : Heap) (em : Addr) (v : Option Value) (h : Heap) (ms : List Addr) : Prop := (h0 = h) ∧ (ms = []) ∧ (v = some (.ref em))
set_option maxRecDepth 65536 in
set_option maxHeartbeats 40000000 in
theorem own_ct_optEmpty (l : Launch) (Z : State) (a0 : Array Value) (hw : ∀ d ∈ tables_1, d.before a0 Z = true) (EL : List (String × Nat)) (hE : EW Z a0 EL) (n0 : Nat) (ws : List Jvm.Cond) (h0 : Heap) (O : Old Z n0 h0) (em : Addr) (S_EMPTY : Sta Z Z.heap "java/util/Optional" "EMPTY" "Ljava/util/Optional;" (.ref em)) :
    own_Ct l Z EL n0 (⟨"java/util/Optional", "empty", "()Ljava/util/Optional;"⟩ : MethodName) jdk_32_method_1_code 1 (some (.object "java/util/Optional")) ws ({ frames := 0, cells := 0, slots := 0, locals := 0 } : Room) #[] h0 [] (own_Q_optEmpty Z h0 em) := by
  refine own_enter (a0 := a0) own_pf2 hE O fun p e s m below meth c T0 w0 => ?_
  rw [own_ef_optEmpty m ]
  refine own_getS (pc' := 3) w0 (host := "") (Or.inl (hw _ (List.mem_of_getElem? (i := 34) rfl))) Via.refl (S_EMPTY.ext (own_old w0).2) own_d2_0 rfl fun T1 w2 => ?_
  refine own_astoreN (pc' := 4) w2 own_d2_3 rfl (Ls' := #[.val (.ref em)]) rfl rfl ?_
  refine own_aloadN (pc' := 5) w2 own_d2_4 rfl rfl rfl ?_
  exact own_retV w2 (t := (.object "java/util/Optional")) rfl (own_narR rfl rfl) (Or.inr (Or.inr (Or.inr (Or.inr ⟨rfl, rfl, rfl⟩)))) own_d2_5 (by decide) (by decide) (ms' := []) all0 ⟨rfl, rfl, rfl⟩
theorem own_d3_0 : decode jdk_31_method_10_code 0 = .ok (.aload_n 0, 1) := by decide +kernel
theorem own_d3_1 : decode jdk_31_method_10_code 1 = .ok (.ifnonnull 11, 3) := by decide +kernel
theorem own_d3_12 : decode jdk_31_method_10_code 12 = .ok (.aload_n 0, 1) := by decide +kernel
theorem own_d3_13 : decode jdk_31_method_10_code 13 = .ok (.areturn, 1) := by decide +kernel
theorem own_ef_reqNN (m : MethodId) (a1 : Addr) : entryFrame m #[(.ref a1)] 1 = mkF m 0 #[.val (.ref a1)] [] := by first | (simp [entryFrame, mkF, argsToLocals, Value.category]; done) | rfl
theorem own_pf3 : plainFor (⟨"java/util/Objects", "requireNonNull", "(Ljava/lang/Object;)Ljava/lang/Object;"⟩ : MethodName) = true := by first | exact plainFor_of_name (by first | (simp [plainName, overriddenIn]; done) | decide +kernel) | decide +kernel
def own_Q_reqNN (Z : State) (h0 : Heap) (a1 : Addr) (v : Option Value) (h : Heap) (ms : List Addr) : Prop := (h0 = h) ∧ (ms = []) ∧ (v = some (.ref a1))
set_option maxRecDepth 65536 in
set_option maxHeartbeats 40000000 in
theorem own_ct_reqNN (l : Launch) (Z : State) (a0 : Array Value) (hw : ∀ d ∈ tables_1, d.before a0 Z = true) (EL : List (String × Nat)) (hE : EW Z a0 EL) (n0 : Nat) (ws : List Jvm.Cond) (h0 : Heap) (O : Old Z n0 h0) (a1 : Addr)  :
    own_Ct l Z EL n0 (⟨"java/util/Objects", "requireNonNull", "(Ljava/lang/Object;)Ljava/lang/Object;"⟩ : MethodName) jdk_31_method_10_code 1 (some (.object "java/lang/Object")) ws ({ frames := 0, cells := 0, slots := 0, locals := 0 } : Room) #[(.ref a1)] h0 [] (own_Q_reqNN Z h0 a1) := by
  refine own_enter (a0 := a0) own_pf3 hE O fun p e s m below meth c T0 w0 => ?_
  rw [own_ef_reqNN m a1]
  refine own_aloadN (pc' := 1) w0 own_d3_0 rfl rfl rfl ?_
  refine own_ifnonnullY w0 own_d3_1 (by decide) (pc' := 12) rfl ?_
  refine own_aloadN (pc' := 13) w0 own_d3_12 rfl rfl rfl ?_
  exact own_retV w0 (t := (.object "java/lang/Object")) rfl (own_narR rfl rfl) (Or.inr (Or.inr (Or.inr (Or.inr ⟨rfl, rfl, rfl⟩)))) own_d3_13 (by decide) (by decide) (ms' := []) all0 ⟨rfl, rfl, rfl⟩
theorem own_d4_0 : decode jdk_32_method_2_code 0 = .ok (.aload_n 0, 1) := by decide +kernel
theorem own_d4_1 : decode jdk_32_method_2_code 1 = .ok (.invokespecial 7, 3) := by decide +kernel
theorem own_d4_4 : decode jdk_32_method_2_code 4 = .ok (.aload_n 0, 1) := by decide +kernel
theorem own_d4_5 : decode jdk_32_method_2_code 5 = .ok (.aload_n 1, 1) := by decide +kernel
theorem own_d4_6 : decode jdk_32_method_2_code 6 = .ok (.putfield 13, 3) := by decide +kernel
theorem own_d4_9 : decode jdk_32_method_2_code 9 = .ok (.return_, 1) := by decide +kernel
theorem own_ef_optInit (m : MethodId) (a1 : Addr) (a2 : Addr) : entryFrame m #[(.ref a1), (.ref a2)] 2 = mkF m 0 #[.val (.ref a1), .val (.ref a2)] [] := by first | (simp [entryFrame, mkF, argsToLocals, Value.category]; done) | rfl
theorem own_pf4 : plainFor (⟨"java/util/Optional", "<init>", "(Ljava/lang/Object;)V"⟩ : MethodName) = true := by first | exact plainFor_of_name (by first | (simp [plainName, overriddenIn]; done) | decide +kernel) | decide +kernel
def own_Q_optInit (Z : State) (h0 : Heap) (a1 : Addr) (a2 : Addr) (u1 : Value) (v : Option Value) (h : Heap) (ms : List Addr) : Prop := (Keep h0 h [a1]) ∧ (ms = []) ∧ (v = none) ∧ (Exa Z h a1 "java/util/Optional") ∧ (Fld Z h a1 "java/util/Optional" "value" "Ljava/lang/Object;" (.ref a2))
set_option maxRecDepth 65536 in
set_option maxHeartbeats 40000000 in
theorem own_ct_optInit (l : Launch) (Z : State) (a0 : Array Value) (hw : ∀ d ∈ tables_1, d.before a0 Z = true) (EL : List (String × Nat)) (hE : EW Z a0 EL) (n0 : Nat) (ws : List Jvm.Cond) (h0 : Heap) (O : Old Z n0 h0) (a1 : Addr) (a2 : Addr) (u1 : Value) (E_a1 : Exa Z h0 a1 "java/util/Optional") (F_a1_value : Fld Z h0 a1 "java/util/Optional" "value" "Ljava/lang/Object;" u1) :
    own_Ct l Z EL n0 (⟨"java/util/Optional", "<init>", "(Ljava/lang/Object;)V"⟩ : MethodName) jdk_32_method_2_code 2 none ws ({ frames := 1, cells := 0, slots := 0, locals := 12 } : Room) #[(.ref a1), (.ref a2)] h0 [a1] (own_Q_optInit Z h0 a1 a2 u1) := by
  refine own_enter (a0 := a0) own_pf4 hE O fun p e s m below meth c T0 w0 => ?_
  rw [own_ef_optInit m a1 a2]
  have K : Keep h0 h0 [a1] := Keep.refl _ _
  refine own_aloadN (pc' := 1) w0 own_d4_0 rfl rfl rfl ?_
  refine own_initO (pc' := 4) w0 (hw _ (List.mem_of_getElem? (i := 97) rfl)) (hw _ (List.mem_of_getElem? (i := 16) rfl)) (hw _ (List.mem_of_getElem? (i := 17) rfl)) rfl own_d4_1 rfl (by decide) (W := 0) (Nat.le_of_eq rfl) (by decide) fun T1 w2 => ?_
  refine own_aloadN (pc' := 5) w2 own_d4_4 rfl rfl rfl ?_
  refine own_aloadN (pc' := 6) w2 own_d4_5 rfl rfl rfl ?_
  refine own_putF (pc' := 9) w2 (host := "") (Or.inl (hw _ (List.mem_of_getElem? (i := 71) rfl))) Via.refl (by simp) F_a1_value E_a1 (Or.inr ⟨(hw _ (List.mem_of_getElem? (i := 72) rfl)), rfl, rfl⟩) (hw _ (List.mem_of_getElem? (i := 88) rfl)) (ty := (.object "java/lang/Object")) (by decide) rfl rfl own_d4_6 rfl fun T3 h5 w4 W6 => ?_
  replace F_a1_value := F_a1_value.same W6
  replace E_a1 := E_a1.wr W6
  replace K := K.wr W6 (Or.inl (by simp))
  exact own_ret0 w4 rfl own_d4_9 (by decide) (by decide) (ms' := []) all0 ⟨K, rfl, rfl, E_a1, F_a1_value⟩
theorem own_d5_0 : decode jdk_32_method_3_code 0 = .ok (.new 2, 3) := by decide +kernel
theorem own_d5_3 : decode jdk_32_method_3_code 3 = .ok (.dup, 1) := by decide +kernel
theorem own_d5_4 : decode jdk_32_method_3_code 4 = .ok (.aload_n 0, 1) := by decide +kernel
theorem own_d5_5 : decode jdk_32_method_3_code 5 = .ok (.invokestatic 17, 3) := by decide +kernel
theorem own_pd1 : parseMethodDescriptor "(Ljava/lang/Object;)Ljava/lang/Object;" = some ⟨[(.object "java/lang/Object")], some (.object "java/lang/Object")⟩ := by decide +kernel
theorem own_d5_8 : decode jdk_32_method_3_code 8 = .ok (.invokespecial 23, 3) := by decide +kernel
theorem own_pd2 : parseMethodDescriptor "(Ljava/lang/Object;)V" = some ⟨[(.object "java/lang/Object")], none⟩ := by decide +kernel
theorem own_d5_11 : decode jdk_32_method_3_code 11 = .ok (.areturn, 1) := by decide +kernel
theorem own_ef_optOf (m : MethodId) (a1 : Addr) : entryFrame m #[(.ref a1)] 1 = mkF m 0 #[.val (.ref a1)] [] := by first | (simp [entryFrame, mkF, argsToLocals, Value.category]; done) | rfl
theorem own_pf5 : plainFor (⟨"java/util/Optional", "of", "(Ljava/lang/Object;)Ljava/util/Optional;"⟩ : MethodName) = true := by first | exact plainFor_of_name (by first | (simp [plainName, overriddenIn]; done) | decide +kernel) | decide +kernel
def own_Q_optOf (Z : State) (h0 : Heap) (a1 : Addr) (v : Option Value) (h : Heap) (ms : List Addr) : Prop := (Keep h0 h []) ∧ (∃ (r : Addr), (ms = []) ∧ (v = some (.ref r)) ∧ (Exa Z h r "java/util/Optional") ∧ (Fld Z h r "java/util/Optional" "value" "Ljava/lang/Object;" (.ref a1)) ∧ (h0.size ≤ r))
set_option maxRecDepth 65536 in
set_option maxHeartbeats 40000000 in
theorem own_ct_optOf (l : Launch) (Z : State) (a0 : Array Value) (hw : ∀ d ∈ tables_1, d.before a0 Z = true) (EL : List (String × Nat)) (hE : EW Z a0 EL) (n0 : Nat) (ws : List Jvm.Cond) (h0 : Heap) (O : Old Z n0 h0) (a1 : Addr)  :
    own_Ct l Z EL n0 (⟨"java/util/Optional", "of", "(Ljava/lang/Object;)Ljava/util/Optional;"⟩ : MethodName) jdk_32_method_3_code 1 (some (.object "java/util/Optional")) ws ({ frames := 2, cells := 1, slots := 1, locals := 26 } : Room) #[(.ref a1)] h0 [] (own_Q_optOf Z h0 a1) := by
  refine own_enter (a0 := a0) own_pf5 hE O fun p e s m below meth c T0 w0 => ?_
  rw [own_ef_optOf m a1]
  have K : Keep h0 h0 [] := Keep.refl _ _
  refine own_newO (pc' := 3) w0 (hw _ (List.mem_of_getElem? (i := 87) rfl)) (hw _ (List.mem_of_getElem? (i := 88) rfl)) (hw _ (List.mem_of_getElem? (i := 32) rfl)) own_d5_0 rfl (by decide) (by decide) fun T1 h3 a5 g_a5 w2 E4 ⟨E_a5, D6⟩ => ?_
  have nw_a5 : h0.size ≤ a5 := Nat.le_trans K.1 (Nat.le_of_eq g_a5)
  replace K := K.ext E4
  have F_a5_value : Fld Z h3 a5 "java/util/Optional" "value" "Ljava/lang/Object;" .null := D6 (Or.inr (hw _ (List.mem_of_getElem? (i := 72) rfl))) (ty := (.object "java/lang/Object")) (by decide)
  refine own_dup (pc' := 4) w2 own_d5_3 rfl rfl ?_
  refine own_aloadN (pc' := 5) w2 own_d5_4 rfl rfl rfl ?_
  refine own_callS (pc' := 8) w2 (hw _ (List.mem_of_getElem? (i := 89) rfl)) (hw _ (List.mem_of_getElem? (i := 90) rfl)) (hw _ (List.mem_of_getElem? (i := 91) rfl)) (hw _ (List.mem_of_getElem? (i := 92) rfl)) (by decide) (own_ct_reqNN l Z a0 hw EL hE n0 [] h3 (own_old w2) a1 ) all0 (argsL := [(.ref a1)]) (rest := [(.ref a5), (.ref a5)]) rfl rfl own_pd1 rfl own_d5_5 rfl (by decide) (W := 2) rfl (by decide) (by decide) (by decide) fun T7 h9 v10 ms11 w8 q12 => ?_
  obtain ⟨rfl, rfl, rfl⟩ := q12
  show own_Go Z EL n0 p e below s _ _ _ (T7.setTop (mkF m 8 #[.val (.ref a1)] [(.ref a1), (.ref a5), (.ref a5)]))
  refine own_callI (pc' := 11) w8 rfl (hw _ (List.mem_of_getElem? (i := 93) rfl)) (hw _ (List.mem_of_getElem? (i := 94) rfl)) (hw _ (List.mem_of_getElem? (i := 32) rfl)) (hw _ (List.mem_of_getElem? (i := 96) rfl)) (by decide) (own_ct_optInit l Z a0 hw EL hE n0 [] h3 (own_old w8) a5 a1 .null E_a5 F_a5_value) (allS (P := fun x => x ∈ _) (by simp) all0) (argsL := [(.ref a1)]) (rest := [(.ref a5)]) rfl rfl own_pd2 rfl own_d5_8 rfl (by decide) (W := 1) rfl (by decide) (by decide) (by decide) fun T13 h15 v16 ms17 w14 q18 => ?_
  obtain ⟨K19, rfl, rfl, nw_E_a5, nw_F_a5_value⟩ := q18
  replace K := K.trans K19 (allS (P := fun x => x ∈ ([] : List Addr) ∨ h0.size ≤ x) (Or.inr nw_a5) all0)
  have E_a5 := nw_E_a5; clear nw_E_a5
  have F_a5_value := nw_F_a5_value; clear nw_F_a5_value
  show own_Go Z EL n0 p e below s _ _ _ (T13.setTop (mkF m 11 #[.val (.ref a1)] [(.ref a5)]))
  exact own_retV w14 (t := (.object "java/util/Optional")) rfl (own_narR rfl rfl) (Or.inr (Or.inr (Or.inr (Or.inr ⟨rfl, rfl, rfl⟩)))) own_d5_11 (by decide) (by decide) (ms' := []) all0 ⟨K, a5, rfl, rfl, E_a5, F_a5_value, nw_a5⟩
theorem own_d6_0 : decode jdk_32_method_15_code 0 = .ok (.aload_n 0, 1) := by decide +kernel
theorem own_d6_1 : decode jdk_32_method_15_code 1 = .ok (.getfield 13, 3) := by decide +kernel
theorem own_d6_4 : decode jdk_32_method_15_code 4 = .ok (.ifnull 10, 3) := by decide +kernel
theorem own_d6_14 : decode jdk_32_method_15_code 14 = .ok (.aload_n 1, 1) := by decide +kernel
theorem own_d6_15 : decode jdk_32_method_15_code 15 = .ok (.areturn, 1) := by decide +kernel
theorem own_d6_7 : decode jdk_32_method_15_code 7 = .ok (.aload_n 0, 1) := by decide +kernel
theorem own_d6_8 : decode jdk_32_method_15_code 8 = .ok (.getfield 13, 3) := by decide +kernel
theorem own_d6_11 : decode jdk_32_method_15_code 11 = .ok (.goto 4, 3) := by decide +kernel
theorem own_ef_orElse (m : MethodId) (a1 : Addr) : entryFrame m #[(.ref a1), .null] 2 = mkF m 0 #[.val (.ref a1), .val .null] [] := by first | (simp [entryFrame, mkF, argsToLocals, Value.category]; done) | rfl
theorem own_pf6 : plainFor (⟨"java/util/Optional", "orElse", "(Ljava/lang/Object;)Ljava/lang/Object;"⟩ : MethodName) = true := by first | exact plainFor_of_name (by first | (simp [plainName, overriddenIn]; done) | decide +kernel) | decide +kernel
def own_Q_orElse (Z : State) (h0 : Heap) (a1 : Addr) (r : Value) (v : Option Value) (h : Heap) (ms : List Addr) : Prop := (h0 = h) ∧ (ms = []) ∧ (v = some r)
set_option maxRecDepth 65536 in
set_option maxHeartbeats 40000000 in
theorem own_ct_orElse (l : Launch) (Z : State) (a0 : Array Value) (hw : ∀ d ∈ tables_1, d.before a0 Z = true) (EL : List (String × Nat)) (hE : EW Z a0 EL) (n0 : Nat) (ws : List Jvm.Cond) (h0 : Heap) (O : Old Z n0 h0) (a1 : Addr) (r : Value) (F_a1_value : Fld Z h0 a1 "java/util/Optional" "value" "Ljava/lang/Object;" r) (h_r : r.isRef = true) :
    own_Ct l Z EL n0 (⟨"java/util/Optional", "orElse", "(Ljava/lang/Object;)Ljava/lang/Object;"⟩ : MethodName) jdk_32_method_15_code 2 (some (.object "java/lang/Object")) ws ({ frames := 0, cells := 0, slots := 0, locals := 0 } : Room) #[(.ref a1), .null] h0 [] (own_Q_orElse Z h0 a1 r) := by
  refine own_enter (a0 := a0) own_pf6 hE O fun p e s m below meth c T0 w0 => ?_
  rw [own_ef_orElse m a1]
  refine own_aloadN (pc' := 1) w0 own_d6_0 rfl rfl rfl ?_
  refine own_getF (pc' := 4) w0 (host := "") (Or.inl (hw _ (List.mem_of_getElem? (i := 71) rfl))) Via.refl F_a1_value own_d6_1 rfl fun T1 w2 => ?_
  rcases ref_cases h_r with rfl | ⟨r3, rfl⟩
  · -- null
    refine own_ifnullY w2 own_d6_4 (by decide) (pc' := 14) rfl ?_
    refine own_aloadN (pc' := 15) w2 own_d6_14 rfl rfl rfl ?_
    exact own_retV w2 (t := (.object "java/lang/Object")) rfl (own_narR rfl rfl) (Or.inr (Or.inr (Or.inr (Or.inr ⟨rfl, rfl, rfl⟩)))) own_d6_15 (by decide) (by decide) (ms' := []) all0 ⟨rfl, rfl, rfl⟩
  · -- ref
    refine own_ifnullN (pc' := 7) w2 own_d6_4 rfl ?_
    refine own_aloadN (pc' := 8) w2 own_d6_7 rfl rfl rfl ?_
    refine own_getF (pc' := 11) w2 (host := "") (Or.inl (hw _ (List.mem_of_getElem? (i := 71) rfl))) Via.refl F_a1_value own_d6_8 rfl fun T4 w5 => ?_
    refine own_goto w5 own_d6_11 (by decide) (pc' := 15) rfl ?_
    exact own_retV w5 (t := (.object "java/lang/Object")) rfl (own_narR rfl rfl) (Or.inr (Or.inr (Or.inr (Or.inr ⟨rfl, rfl, rfl⟩)))) own_d6_15 (by decide) (by decide) (ms' := []) all0 ⟨rfl, rfl, rfl⟩
theorem own_d7_0 : decode prog_35_method_1_code 0 = .ok (.getstatic 13, 3) := by decide +kernel
theorem own_d7_3 : decode prog_35_method_1_code 3 = .ok (.invokevirtual 17, 3) := by decide +kernel
theorem own_d7_6 : decode prog_35_method_1_code 6 = .ok (.checkcast 18, 3) := by decide +kernel
theorem own_d7_9 : decode prog_35_method_1_code 9 = .ok (.areturn, 1) := by decide +kernel
theorem own_ef_values (m : MethodId)  : entryFrame m #[] 0 = mkF m 0 #[] [] := by first | (simp [entryFrame, mkF, argsToLocals, Value.category]; done) | rfl
theorem own_pf7 : plainFor (⟨"com/example/coretally/coretally/estate/Region", "values", "()[Lcom/example/coretally/coretally/estate/Region;"⟩ : MethodName) = true := by first | exact plainFor_of_name (by first | (simp [plainName, overriddenIn]; done) | decide +kernel) | decide +kernel
def own_Q_values (Z : State) (h0 : Heap) (zv : Addr) (kv : ClassId) (em : Addr) (x0 : Addr) (r0 : Addr) (t0 : Addr) (k0 : ClassId) (x1 : Addr) (r1 : Addr) (t1 : Addr) (k1 : ClassId) (x2 : Addr) (r2 : Addr) (t2 : Addr) (k2 : ClassId) (v : Option Value) (h : Heap) (ms : List Addr) : Prop := (Keep h0 h []) ∧ (∃ (r : Addr), (ms = []) ∧ (v = some (.ref r)) ∧ (Exa Z h r "[Lcom/example/coretally/coretally/estate/Region;") ∧ (Arv Z h r kv (.object "com/example/coretally/coretally/estate/Region") (3 : Int32) [(.ref x0), (.ref x1), (.ref x2)] .null) ∧ (h0.size ≤ r))
set_option maxRecDepth 65536 in
set_option maxHeartbeats 40000000 in
theorem own_ct_values (l : Launch) (Z : State) (a0 : Array Value) (hw : ∀ d ∈ tables_1, d.before a0 Z = true) (EL : List (String × Nat)) (hE : EW Z a0 EL) (n0 : Nat) (ws : List Jvm.Cond) (h0 : Heap) (O : Old Z n0 h0) (zv : Addr) (kv : ClassId) (em : Addr) (x0 : Addr) (r0 : Addr) (t0 : Addr) (k0 : ClassId) (x1 : Addr) (r1 : Addr) (t1 : Addr) (k1 : ClassId) (x2 : Addr) (r2 : Addr) (t2 : Addr) (k2 : ClassId) (S__VALUES : Sta Z Z.heap "com/example/coretally/coretally/estate/Region" "$VALUES" "[Lcom/example/coretally/coretally/estate/Region;" (.ref zv)) (ZE_zv : Exa Z Z.heap zv "[Lcom/example/coretally/coretally/estate/Region;") (ZA_zv : Arv Z Z.heap zv kv (.object "com/example/coretally/coretally/estate/Region") (3 : Int32) [(.ref x0), (.ref x1), (.ref x2)] .null) (S_EMPTY : Sta Z Z.heap "java/util/Optional" "EMPTY" "Ljava/util/Optional;" (.ref em)) (ZE_em : Exa Z Z.heap em "java/util/Optional") (ZF_em_value : Fld Z Z.heap em "java/util/Optional" "value" "Ljava/lang/Object;" .null) (ZE_x0 : Exa Z Z.heap x0 "com/example/coretally/coretally/estate/Region") (ZF_x0_written : Fld Z Z.heap x0 "com/example/coretally/coretally/estate/Region" "written" "Ljava/lang/String;" (.ref r0)) (ZE_r0 : Exa Z Z.heap r0 "java/lang/String") (ZF_r0_coder : Fld Z Z.heap r0 "java/lang/String" "coder" "B" (.int 0)) (ZF_r0_value : Fld Z Z.heap r0 "java/lang/String" "value" "[B" (.ref t0)) (ZA_t0 : Arv Z Z.heap t0 k0 .byte (1 : Int32) [(.int 49)] (.int 0)) (ZE_x1 : Exa Z Z.heap x1 "com/example/coretally/coretally/estate/Region") (ZF_x1_written : Fld Z Z.heap x1 "com/example/coretally/coretally/estate/Region" "written" "Ljava/lang/String;" (.ref r1)) (ZE_r1 : Exa Z Z.heap r1 "java/lang/String") (ZF_r1_coder : Fld Z Z.heap r1 "java/lang/String" "coder" "B" (.int 0)) (ZF_r1_value : Fld Z Z.heap r1 "java/lang/String" "value" "[B" (.ref t1)) (ZA_t1 : Arv Z Z.heap t1 k1 .byte (1 : Int32) [(.int 50)] (.int 0)) (ZE_x2 : Exa Z Z.heap x2 "com/example/coretally/coretally/estate/Region") (ZF_x2_written : Fld Z Z.heap x2 "com/example/coretally/coretally/estate/Region" "written" "Ljava/lang/String;" (.ref r2)) (ZE_r2 : Exa Z Z.heap r2 "java/lang/String") (ZF_r2_coder : Fld Z Z.heap r2 "java/lang/String" "coder" "B" (.int 0)) (ZF_r2_value : Fld Z Z.heap r2 "java/lang/String" "value" "[B" (.ref t2)) (ZA_t2 : Arv Z Z.heap t2 k2 .byte (1 : Int32) [(.int 51)] (.int 0)) :
    own_Ct l Z EL n0 (⟨"com/example/coretally/coretally/estate/Region", "values", "()[Lcom/example/coretally/coretally/estate/Region;"⟩ : MethodName) prog_35_method_1_code 0 (some (.array (.object "com/example/coretally/coretally/estate/Region"))) ws ({ frames := 1, cells := 1, slots := 3, locals := 14 } : Room) #[] h0 [] (own_Q_values Z h0 zv kv em x0 r0 t0 k0 x1 r1 t1 k1 x2 r2 t2 k2) := by
  refine own_enter (a0 := a0) own_pf7 hE O fun p e s m below meth c T0 w0 => ?_
  rw [own_ef_values m ]
  have K : Keep h0 h0 [] := Keep.refl _ _
  refine own_getS (pc' := 3) w0 (host := "") (Or.inl (hw _ (List.mem_of_getElem? (i := 38) rfl))) Via.refl (S__VALUES.ext (own_old w0).2) own_d7_0 rfl fun T1 w2 => ?_
  refine own_clone (pc' := 6) w2 (hw _ (List.mem_of_getElem? (i := 40) rfl)) (hw _ (List.mem_of_getElem? (i := 41) rfl)) (hw _ (List.mem_of_getElem? (i := 45) rfl)) (hw _ (List.mem_of_getElem? (i := 43) rfl)) (hw _ (List.mem_of_getElem? (i := 44) rfl)) (hw _ (List.mem_of_getElem? (i := 46) rfl)) (ZA_zv.ext (own_old w2).2) (ZE_zv.ext (own_old w2).2) rfl own_d7_3 rfl (by decide) (W := 0) (Nat.le_of_eq rfl) (by decide) (cap := 3) (by decide) (by decide) (by decide) fun T3 h5 a7 g_a7 w4 E6 ⟨A_a7, E_a7⟩ => ?_
  have nw_a7 : h0.size ≤ a7 := Nat.le_trans K.1 (Nat.le_of_eq g_a7)
  replace K := K.ext E6
  refine own_castY (pc' := 9) w4 (hw _ (List.mem_of_getElem? (i := 51) rfl)) (Ins.self E_a7) own_d7_6 rfl fun T8 w9 => ?_
  exact own_retV w9 (t := (.array (.object "com/example/coretally/coretally/estate/Region"))) rfl (own_narR rfl rfl) (Or.inr (Or.inr (Or.inr (Or.inr ⟨rfl, rfl, rfl⟩)))) own_d7_9 (by decide) (by decide) (ms' := []) all0 ⟨K, a7, rfl, rfl, E_a7, A_a7, nw_a7⟩
theorem own_wd0 : (∀ c ∈ ([49] : List Int32), ¬ c < 0 ∧ ¬ (255 : Int32) < c) := by decide
theorem own_wd1 : (∀ c ∈ ([50] : List Int32), ¬ c < 0 ∧ ¬ (255 : Int32) < c) := by decide
theorem own_wd2 : (∀ c ∈ ([51] : List Int32), ¬ c < 0 ∧ ¬ (255 : Int32) < c) := by decide
theorem own_d8_0 : decode prog_35_method_6_code 0 = .ok (.invokestatic 49, 3) := by decide +kernel
theorem own_pd3 : parseMethodDescriptor "()Ljava/util/Optional;" = some ⟨[], some (.object "java/util/Optional")⟩ := by decide +kernel
theorem own_d8_3 : decode prog_35_method_6_code 3 = .ok (.astore_n 1, 1) := by decide +kernel
theorem own_d8_4 : decode prog_35_method_6_code 4 = .ok (.invokestatic 55, 3) := by decide +kernel
theorem own_pd4 : parseMethodDescriptor "()[Lcom/example/coretally/coretally/estate/Region;" = some ⟨[], some (.array (.object "com/example/coretally/coretally/estate/Region"))⟩ := by decide +kernel
theorem own_d8_7 : decode prog_35_method_6_code 7 = .ok (.astore_n 2, 1) := by decide +kernel
theorem own_d8_8 : decode prog_35_method_6_code 8 = .ok (.aload_n 2, 1) := by decide +kernel
theorem own_d8_9 : decode prog_35_method_6_code 9 = .ok (.arraylength, 1) := by decide +kernel
theorem own_d8_10 : decode prog_35_method_6_code 10 = .ok (.istore_n 3, 1) := by decide +kernel
theorem own_d8_11 : decode prog_35_method_6_code 11 = .ok (.iconst 0, 1) := by decide +kernel
theorem own_d8_12 : decode prog_35_method_6_code 12 = .ok (.istore 4, 2) := by decide +kernel
theorem own_d8_14 : decode prog_35_method_6_code 14 = .ok (.iload 4, 2) := by decide +kernel
theorem own_d8_16 : decode prog_35_method_6_code 16 = .ok (.iload_n 3, 1) := by decide +kernel
theorem own_d8_17 : decode prog_35_method_6_code 17 = .ok (.if_icmp .ge 33, 3) := by decide +kernel
theorem own_d8_20 : decode prog_35_method_6_code 20 = .ok (.aload_n 2, 1) := by decide +kernel
theorem own_d8_21 : decode prog_35_method_6_code 21 = .ok (.iload 4, 2) := by decide +kernel
theorem own_d8_23 : decode prog_35_method_6_code 23 = .ok (.aaload, 1) := by decide +kernel
theorem own_d8_24 : decode prog_35_method_6_code 24 = .ok (.astore 5, 2) := by decide +kernel
theorem own_d8_26 : decode prog_35_method_6_code 26 = .ok (.aload_n 0, 1) := by decide +kernel
theorem own_d8_27 : decode prog_35_method_6_code 27 = .ok (.aload 5, 2) := by decide +kernel
theorem own_d8_29 : decode prog_35_method_6_code 29 = .ok (.getfield 46, 3) := by decide +kernel
theorem own_d8_32 : decode prog_35_method_6_code 32 = .ok (.invokevirtual 59, 3) := by decide +kernel
theorem own_pd5 : parseMethodDescriptor "(Ljava/lang/Object;)Z" = some ⟨[(.object "java/lang/Object")], some .boolean⟩ := by decide +kernel
theorem own_d8_35 : decode prog_35_method_6_code 35 = .ok (.ifCond .eq 9, 3) := by decide +kernel
theorem own_d8_38 : decode prog_35_method_6_code 38 = .ok (.aload 5, 2) := by decide +kernel
theorem own_d8_40 : decode prog_35_method_6_code 40 = .ok (.invokestatic 65, 3) := by decide +kernel
theorem own_pd6 : parseMethodDescriptor "(Ljava/lang/Object;)Ljava/util/Optional;" = some ⟨[(.object "java/lang/Object")], some (.object "java/util/Optional")⟩ := by decide +kernel
theorem own_d8_43 : decode prog_35_method_6_code 43 = .ok (.astore_n 1, 1) := by decide +kernel
theorem own_d8_44 : decode prog_35_method_6_code 44 = .ok (.iinc 4 1, 3) := by decide +kernel
theorem own_d8_47 : decode prog_35_method_6_code 47 = .ok (.goto (-33), 3) := by decide +kernel
theorem own_d8_50 : decode prog_35_method_6_code 50 = .ok (.aload_n 1, 1) := by decide +kernel
theorem own_d8_51 : decode prog_35_method_6_code 51 = .ok (.areturn, 1) := by decide +kernel
theorem own_ef_enumOf (m : MethodId) (tx : Addr) : entryFrame m #[(.ref tx)] 6 = mkF m 0 #[.val (.ref tx), .unset, .unset, .unset, .unset, .unset] [] := by first | (simp [entryFrame, mkF, argsToLocals, Value.category]; done) | rfl
theorem own_pf8 : plainFor (⟨"com/example/coretally/coretally/estate/Region", "of", "(Ljava/lang/String;)Ljava/util/Optional;"⟩ : MethodName) = true := by first | exact plainFor_of_name (by first | (simp [plainName, overriddenIn]; done) | decide +kernel) | decide +kernel
def own_Q_enumOf (Z : State) (h0 : Heap) (tx : Addr) (zv : Addr) (kv : ClassId) (em : Addr) (x0 : Addr) (r0 : Addr) (t0 : Addr) (k0 : ClassId) (x1 : Addr) (r1 : Addr) (t1 : Addr) (k1 : ClassId) (x2 : Addr) (r2 : Addr) (t2 : Addr) (k2 : ClassId) (z5 : Int32) (t : Addr) (kb : ClassId) (N : Int32) (vs : List Value) (cs : List Int32) (v : Option Value) (h : Heap) (ms : List Addr) : Prop := (Keep h0 h []) ∧ (∃ (o1 : Addr) (o2 : Value), (ms = []) ∧ (v = some (.ref o1)) ∧ (Exa Z h o1 "java/util/Optional") ∧ (Fld Z h o1 "java/util/Optional" "value" "Ljava/lang/Object;" o2) ∧ (o2.isRef = true) ∧ ((cs = ([49] : List Int32) → o2 = .ref x0)) ∧ ((cs = ([50] : List Int32) → o2 = .ref x1)) ∧ ((cs = ([51] : List Int32) → o2 = .ref x2)) ∧ ((¬ cs = ([49] : List Int32) → ¬ cs = ([50] : List Int32) → ¬ cs = ([51] : List Int32) → o2 = .null)))
set_option maxRecDepth 65536 in
set_option maxHeartbeats 40000000 in
theorem own_ct_enumOf (l : Launch) (Z : State) (a0 : Array Value) (hw : ∀ d ∈ tables_1, d.before a0 Z = true) (EL : List (String × Nat)) (hE : EW Z a0 EL) (n0 : Nat) (ws : List Jvm.Cond) (h0 : Heap) (O : Old Z n0 h0) (tx : Addr) (zv : Addr) (kv : ClassId) (em : Addr) (x0 : Addr) (r0 : Addr) (t0 : Addr) (k0 : ClassId) (x1 : Addr) (r1 : Addr) (t1 : Addr) (k1 : ClassId) (x2 : Addr) (r2 : Addr) (t2 : Addr) (k2 : ClassId) (z5 : Int32) (t : Addr) (kb : ClassId) (N : Int32) (vs : List Value) (cs : List Int32) (S__VALUES : Sta Z Z.heap "com/example/coretally/coretally/estate/Region" "$VALUES" "[Lcom/example/coretally/coretally/estate/Region;" (.ref zv)) (ZE_zv : Exa Z Z.heap zv "[Lcom/example/coretally/coretally/estate/Region;") (ZA_zv : Arv Z Z.heap zv kv (.object "com/example/coretally/coretally/estate/Region") (3 : Int32) [(.ref x0), (.ref x1), (.ref x2)] .null) (S_EMPTY : Sta Z Z.heap "java/util/Optional" "EMPTY" "Ljava/util/Optional;" (.ref em)) (ZE_em : Exa Z Z.heap em "java/util/Optional") (ZF_em_value : Fld Z Z.heap em "java/util/Optional" "value" "Ljava/lang/Object;" .null) (ZE_x0 : Exa Z Z.heap x0 "com/example/coretally/coretally/estate/Region") (ZF_x0_written : Fld Z Z.heap x0 "com/example/coretally/coretally/estate/Region" "written" "Ljava/lang/String;" (.ref r0)) (ZE_r0 : Exa Z Z.heap r0 "java/lang/String") (ZF_r0_coder : Fld Z Z.heap r0 "java/lang/String" "coder" "B" (.int 0)) (ZF_r0_value : Fld Z Z.heap r0 "java/lang/String" "value" "[B" (.ref t0)) (ZA_t0 : Arv Z Z.heap t0 k0 .byte (1 : Int32) [(.int 49)] (.int 0)) (ZE_x1 : Exa Z Z.heap x1 "com/example/coretally/coretally/estate/Region") (ZF_x1_written : Fld Z Z.heap x1 "com/example/coretally/coretally/estate/Region" "written" "Ljava/lang/String;" (.ref r1)) (ZE_r1 : Exa Z Z.heap r1 "java/lang/String") (ZF_r1_coder : Fld Z Z.heap r1 "java/lang/String" "coder" "B" (.int 0)) (ZF_r1_value : Fld Z Z.heap r1 "java/lang/String" "value" "[B" (.ref t1)) (ZA_t1 : Arv Z Z.heap t1 k1 .byte (1 : Int32) [(.int 50)] (.int 0)) (ZE_x2 : Exa Z Z.heap x2 "com/example/coretally/coretally/estate/Region") (ZF_x2_written : Fld Z Z.heap x2 "com/example/coretally/coretally/estate/Region" "written" "Ljava/lang/String;" (.ref r2)) (ZE_r2 : Exa Z Z.heap r2 "java/lang/String") (ZF_r2_coder : Fld Z Z.heap r2 "java/lang/String" "coder" "B" (.int 0)) (ZF_r2_value : Fld Z Z.heap r2 "java/lang/String" "value" "[B" (.ref t2)) (ZA_t2 : Arv Z Z.heap t2 k2 .byte (1 : Int32) [(.int 51)] (.int 0)) (E_tx : Exa Z h0 tx "java/lang/String") (F_tx_coder : Fld Z h0 tx "java/lang/String" "coder" "B" (.int 0)) (F_tx_value : Fld Z h0 tx "java/lang/String" "value" "[B" (.ref t)) (A_t : Arv Z h0 t kb .byte N vs (.int 0)) (S_COMPACT_STRINGS : Sta Z Z.heap "java/lang/String" "COMPACT_STRINGS" "Z" (.int z5)) (P5 : ¬ z5 = 0) (hcd : StrChars.Road.CodA cs 0 N vs) (hbd : ∀ c ∈ cs, ¬ c < 0 ∧ ¬ (65535 : Int32) < c) (l2 : cs.length ≤ 4000) :
    own_Ct l Z EL n0 (⟨"com/example/coretally/coretally/estate/Region", "of", "(Ljava/lang/String;)Ljava/util/Optional;"⟩ : MethodName) prog_35_method_6_code 6 (some (.object "java/util/Optional")) ws ({ frames := 3, cells := 2, slots := 4, locals := 38 } : Room) #[(.ref tx)] h0 [] (own_Q_enumOf Z h0 tx zv kv em x0 r0 t0 k0 x1 r1 t1 k1 x2 r2 t2 k2 z5 t kb N vs cs) := by
  refine own_enter (a0 := a0) own_pf8 hE O fun p e s m below meth c T0 w0 => ?_
  rw [own_ef_enumOf m tx]
  have K : Keep h0 h0 [] := Keep.refl _ _
  refine own_callS (pc' := 3) w0 (hw _ (List.mem_of_getElem? (i := 30) rfl)) (hw _ (List.mem_of_getElem? (i := 31) rfl)) (hw _ (List.mem_of_getElem? (i := 32) rfl)) (hw _ (List.mem_of_getElem? (i := 33) rfl)) (by decide) (own_ct_optEmpty l Z a0 hw EL hE n0 [] h0 (own_old w0) em S_EMPTY) all0 (argsL := []) (rest := []) rfl rfl own_pd3 rfl own_d8_0 rfl (by decide) (W := 0) rfl (by decide) (by decide) (by decide) fun T1 h3 v4 ms5 w2 q6 => ?_
  obtain ⟨rfl, rfl, rfl⟩ := q6
  show own_Go Z EL n0 p e below s _ _ _ (T1.setTop (mkF m 3 #[.val (.ref tx), .unset, .unset, .unset, .unset, .unset] [(.ref em)]))
  refine own_astoreN (pc' := 4) w2 own_d8_3 rfl (Ls' := #[.val (.ref tx), .val (.ref em), .unset, .unset, .unset, .unset]) rfl rfl ?_
  refine own_callS (pc' := 7) w2 (hw _ (List.mem_of_getElem? (i := 35) rfl)) (hw _ (List.mem_of_getElem? (i := 36) rfl)) (hw _ (List.mem_of_getElem? (i := 28) rfl)) (hw _ (List.mem_of_getElem? (i := 37) rfl)) (by decide) (own_ct_values l Z a0 hw EL hE n0 [] h0 (own_old w2) zv kv em x0 r0 t0 k0 x1 r1 t1 k1 x2 r2 t2 k2 S__VALUES ZE_zv ZA_zv S_EMPTY ZE_em ZF_em_value ZE_x0 ZF_x0_written ZE_r0 ZF_r0_coder ZF_r0_value ZA_t0 ZE_x1 ZF_x1_written ZE_r1 ZF_r1_coder ZF_r1_value ZA_t1 ZE_x2 ZF_x2_written ZE_r2 ZF_r2_coder ZF_r2_value ZA_t2) all0 (argsL := []) (rest := []) rfl rfl own_pd4 rfl own_d8_4 rfl (by decide) (W := 0) rfl (by decide) (by decide) (by decide) fun T7 h9 v10 ms11 w8 q12 => ?_
  obtain ⟨K14, r_13, rfl, rfl, nw_E_r_13, nw_A_r_13, p4_values_0⟩ := q12
  have ne_t_r_13 : t ≠ r_13 := Nat.ne_of_lt (Nat.lt_of_lt_of_le A_t.lt p4_values_0)
  have ne_tx_r_13 : tx ≠ r_13 := Nat.ne_of_lt (Nat.lt_of_lt_of_le E_tx.lt p4_values_0)
  have nw_r_13 : h0.size ≤ r_13 := Nat.le_trans K.1 p4_values_0
  replace E_tx := E_tx.keep K14
  replace F_tx_coder := F_tx_coder.keep K14 nin0
  replace F_tx_value := F_tx_value.keep K14 nin0
  replace A_t := A_t.keep K14 nin0
  replace K := K.trans K14 all0
  have E_r_13 := nw_E_r_13; clear nw_E_r_13
  have A_r_13 := nw_A_r_13; clear nw_A_r_13
  show own_Go Z EL n0 p e below s _ _ _ (T7.setTop (mkF m 7 #[.val (.ref tx), .val (.ref em), .unset, .unset, .unset, .unset] [(.ref r_13)]))
  refine own_astoreN (pc' := 8) w8 own_d8_7 rfl (Ls' := #[.val (.ref tx), .val (.ref em), .val (.ref r_13), .unset, .unset, .unset]) rfl rfl ?_
  refine own_aloadN (pc' := 9) w8 own_d8_8 rfl rfl rfl ?_
  refine own_len (pc' := 10) w8 A_r_13 own_d8_9 rfl ?_
  refine own_istoreN (pc' := 11) w8 own_d8_10 (Ls' := #[.val (.ref tx), .val (.ref em), .val (.ref r_13), .val (.int (3 : Int32)), .unset, .unset]) rfl rfl ?_
  refine own_iconst (pc' := 12) w8 own_d8_11 (x := (0 : Int32)) rfl rfl ?_
  refine own_istore (pc' := 14) w8 own_d8_12 (Ls' := #[.val (.ref tx), .val (.ref em), .val (.ref r_13), .val (.int (3 : Int32)), .val (.int (0 : Int32)), .unset]) rfl rfl ?_
  refine own_iload (pc' := 16) w8 own_d8_14 rfl rfl ?_
  refine own_iloadN (pc' := 17) w8 own_d8_16 rfl rfl ?_
  refine own_icmp (pc' := 20) w8 own_d8_17 rfl (by decide) (pcY := 50) rfl (fun (hb17 : ¬ (0 : Int32) < (3 : Int32)) => absurd hb17 (by decide)) (fun (hb17 : (0 : Int32) < (3 : Int32)) => ?_)
  refine own_aloadN (pc' := 21) w8 own_d8_20 rfl rfl rfl ?_
  refine own_iload (pc' := 23) w8 own_d8_21 rfl rfl ?_
  refine own_ldA (pc' := 24) w8 (v := (.ref x0)) A_r_13 rfl (by decide) rfl own_d8_23 rfl ?_
  refine own_astore (pc' := 26) w8 own_d8_24 rfl (Ls' := #[.val (.ref tx), .val (.ref em), .val (.ref r_13), .val (.int (3 : Int32)), .val (.int (0 : Int32)), .val (.ref x0)]) rfl rfl ?_
  refine own_aloadN (pc' := 27) w8 own_d8_26 rfl rfl rfl ?_
  refine own_aload (pc' := 29) w8 own_d8_27 rfl rfl rfl ?_
  refine own_getF (pc' := 32) w8 (host := "") (Or.inl (hw _ (List.mem_of_getElem? (i := 53) rfl))) Via.refl (ZF_x0_written.ext (own_old w8).2) own_d8_29 rfl fun T15 w16 => ?_
  refine own_callVB (pc' := 35) w16 (kc := 0) (nc := 0) (hw _ (List.mem_of_getElem? (i := 55) rfl)) (hw _ (List.mem_of_getElem? (i := 56) rfl)) (fun s' hZ' => notFace_of_selects (args := #[]) (mvT hZ' (hw _ (List.mem_of_getElem? (i := 58) rfl)))) (hw _ (List.mem_of_getElem? (i := 58) rfl)) (hw _ (List.mem_of_getElem? (i := 57) rfl)) (by decide) E_tx (QQ := fun v h' L => ((v = some (.int 1) ∧ cs = ([49] : List Int32)) ∨ (v = some (.int 0) ∧ ¬ cs = ([49] : List Int32))) ∧ L = [] ∧ h' = h9) (fun s' hZ' => StrChars.Road.eqW (W := 0) hZ' (own_hwq hw) (kI := 4) (hw _ (List.mem_of_getElem? (i := 5) rfl)) E_tx F_tx_value F_tx_coder A_t hcd hbd l2 (ZE_r0.ext (own_old w16).2) (ZF_r0_value.ext (own_old w16).2) (ZF_r0_coder.ext (own_old w16).2) (ZA_t0.ext (own_old w16).2) (own_cod (cs := ([49] : List Int32)) (n := 1) rfl own_wd0) (own_up ([49] : List Int32) own_wd0) (by decide) (S_COMPACT_STRINGS.ext (own_old w16).2) P5 (by decide) (by decide)) (ws := []) all0 (fun v h' L q => ⟨q.2.2 ▸ Keep.refl _ _, q.2.1 ▸ Fr.nil _⟩) (argsL := [(.ref r0)]) (rest := []) rfl rfl own_pd5 rfl own_d8_32 rfl (Nat.le_of_eq rfl) (by decide) (by decide) fun T17 h19 v20 w18 K21 q22 => ?_
  obtain ⟨_, hq_, -, e23⟩ := q22
  rw [e23] at w18
  rcases hq_ with ⟨rfl, hcs0⟩ | ⟨rfl, hcs0⟩
  · -- eq
    show own_Go Z EL n0 p e below s _ _ _ (T17.setTop (mkF m 35 #[.val (.ref tx), .val (.ref em), .val (.ref r_13), .val (.int (3 : Int32)), .val (.int (0 : Int32)), .val (.ref x0)] [(.int (1 : Int32))]))
    have heq0 := hcs0
    refine own_if (pc' := 38) w18 own_d8_35 rfl (by decide) (pcY := 44) rfl (fun (hb35 : (1 : Int32) = (0 : Int32)) => absurd hb35 (by decide)) (fun (hb35 : ¬ (1 : Int32) = (0 : Int32)) => ?_)
    refine own_aload (pc' := 40) w18 own_d8_38 rfl rfl rfl ?_
    refine own_callS (pc' := 43) w18 (hw _ (List.mem_of_getElem? (i := 84) rfl)) (hw _ (List.mem_of_getElem? (i := 85) rfl)) (hw _ (List.mem_of_getElem? (i := 32) rfl)) (hw _ (List.mem_of_getElem? (i := 86) rfl)) (by decide) (own_ct_optOf l Z a0 hw EL hE n0 [] h9 (own_old w18) x0 ) all0 (argsL := [(.ref x0)]) (rest := []) rfl rfl own_pd6 rfl own_d8_40 rfl (by decide) (W := 0) rfl (by decide) (by decide) (by decide) fun T24 h26 v27 ms28 w25 q29 => ?_
    obtain ⟨K31, r_30, rfl, rfl, nw_E_r_30, nw_F_r_30_value, p40_optOf_0⟩ := q29
    have ne_r_13_r_30 : r_13 ≠ r_30 := Nat.ne_of_lt (Nat.lt_of_lt_of_le E_r_13.lt p40_optOf_0)
    have ne_t_r_30 : t ≠ r_30 := Nat.ne_of_lt (Nat.lt_of_lt_of_le A_t.lt p40_optOf_0)
    have ne_tx_r_30 : tx ≠ r_30 := Nat.ne_of_lt (Nat.lt_of_lt_of_le E_tx.lt p40_optOf_0)
    have nw_r_30 : h0.size ≤ r_30 := Nat.le_trans K.1 p40_optOf_0
    replace E_tx := E_tx.keep K31
    replace F_tx_coder := F_tx_coder.keep K31 nin0
    replace F_tx_value := F_tx_value.keep K31 nin0
    replace A_t := A_t.keep K31 nin0
    replace E_r_13 := E_r_13.keep K31
    replace A_r_13 := A_r_13.keep K31 nin0
    replace K := K.trans K31 all0
    have E_r_30 := nw_E_r_30; clear nw_E_r_30
    have F_r_30_value := nw_F_r_30_value; clear nw_F_r_30_value
    show own_Go Z EL n0 p e below s _ _ _ (T24.setTop (mkF m 43 #[.val (.ref tx), .val (.ref em), .val (.ref r_13), .val (.int (3 : Int32)), .val (.int (0 : Int32)), .val (.ref x0)] [(.ref r_30)]))
    refine own_astoreN (pc' := 44) w25 own_d8_43 rfl (Ls' := #[.val (.ref tx), .val (.ref r_30), .val (.ref r_13), .val (.int (3 : Int32)), .val (.int (0 : Int32)), .val (.ref x0)]) rfl rfl ?_
    refine own_iinc (pc' := 47) w25 own_d8_44 rfl (y := (1 : Int32)) (by decide) (Ls' := #[.val (.ref tx), .val (.ref r_30), .val (.ref r_13), .val (.int (3 : Int32)), .val (.int (1 : Int32)), .val (.ref x0)]) rfl rfl ?_
    refine own_goto w25 own_d8_47 (by decide) (pc' := 14) rfl ?_
    refine own_iload (pc' := 16) w25 own_d8_14 rfl rfl ?_
    refine own_iloadN (pc' := 17) w25 own_d8_16 rfl rfl ?_
    refine own_icmp (pc' := 20) w25 own_d8_17 rfl (by decide) (pcY := 50) rfl (fun (hb17 : ¬ (1 : Int32) < (3 : Int32)) => absurd hb17 (by decide)) (fun (hb17 : (1 : Int32) < (3 : Int32)) => ?_)
    refine own_aloadN (pc' := 21) w25 own_d8_20 rfl rfl rfl ?_
    refine own_iload (pc' := 23) w25 own_d8_21 rfl rfl ?_
    refine own_ldA (pc' := 24) w25 (v := (.ref x1)) A_r_13 rfl (by decide) rfl own_d8_23 rfl ?_
    refine own_astore (pc' := 26) w25 own_d8_24 rfl (Ls' := #[.val (.ref tx), .val (.ref r_30), .val (.ref r_13), .val (.int (3 : Int32)), .val (.int (1 : Int32)), .val (.ref x1)]) rfl rfl ?_
    refine own_aloadN (pc' := 27) w25 own_d8_26 rfl rfl rfl ?_
    refine own_aload (pc' := 29) w25 own_d8_27 rfl rfl rfl ?_
    refine own_getF (pc' := 32) w25 (host := "") (Or.inl (hw _ (List.mem_of_getElem? (i := 53) rfl))) Via.refl (ZF_x1_written.ext (own_old w25).2) own_d8_29 rfl fun T32 w33 => ?_
    refine own_callVB (pc' := 35) w33 (kc := 0) (nc := 0) (hw _ (List.mem_of_getElem? (i := 55) rfl)) (hw _ (List.mem_of_getElem? (i := 56) rfl)) (fun s' hZ' => notFace_of_selects (args := #[]) (mvT hZ' (hw _ (List.mem_of_getElem? (i := 58) rfl)))) (hw _ (List.mem_of_getElem? (i := 58) rfl)) (hw _ (List.mem_of_getElem? (i := 57) rfl)) (by decide) E_tx (QQ := fun v h' L => ((v = some (.int 1) ∧ cs = ([50] : List Int32)) ∨ (v = some (.int 0) ∧ ¬ cs = ([50] : List Int32))) ∧ L = [] ∧ h' = h26) (fun s' hZ' => StrChars.Road.eqW (W := 0) hZ' (own_hwq hw) (kI := 4) (hw _ (List.mem_of_getElem? (i := 5) rfl)) E_tx F_tx_value F_tx_coder A_t hcd hbd l2 (ZE_r1.ext (own_old w33).2) (ZF_r1_value.ext (own_old w33).2) (ZF_r1_coder.ext (own_old w33).2) (ZA_t1.ext (own_old w33).2) (own_cod (cs := ([50] : List Int32)) (n := 1) rfl own_wd1) (own_up ([50] : List Int32) own_wd1) (by decide) (S_COMPACT_STRINGS.ext (own_old w33).2) P5 (by decide) (by decide)) (ws := []) all0 (fun v h' L q => ⟨q.2.2 ▸ Keep.refl _ _, q.2.1 ▸ Fr.nil _⟩) (argsL := [(.ref r1)]) (rest := []) rfl rfl own_pd5 rfl own_d8_32 rfl (Nat.le_of_eq rfl) (by decide) (by decide) fun T34 h36 v37 w35 K38 q39 => ?_
    obtain ⟨_, hq_, -, e40⟩ := q39
    rw [e40] at w35
    rcases hq_ with ⟨rfl, hcs1⟩ | ⟨rfl, hcs1⟩
    · -- eq
      exact absurd (hcs1.symm.trans heq0) (by decide)
    · -- ne
      show own_Go Z EL n0 p e below s _ _ _ (T34.setTop (mkF m 35 #[.val (.ref tx), .val (.ref r_30), .val (.ref r_13), .val (.int (3 : Int32)), .val (.int (1 : Int32)), .val (.ref x1)] [(.int (0 : Int32))]))
      have hne1 := hcs1
      refine own_if (pc' := 38) w35 own_d8_35 rfl (by decide) (pcY := 44) rfl (fun (hb35 : (0 : Int32) = (0 : Int32)) => ?_) (fun (hb35 : ¬ (0 : Int32) = (0 : Int32)) => absurd hb35 (by decide))
      refine own_iinc (pc' := 47) w35 own_d8_44 rfl (y := (2 : Int32)) (by decide) (Ls' := #[.val (.ref tx), .val (.ref r_30), .val (.ref r_13), .val (.int (3 : Int32)), .val (.int (2 : Int32)), .val (.ref x1)]) rfl rfl ?_
      refine own_goto w35 own_d8_47 (by decide) (pc' := 14) rfl ?_
      refine own_iload (pc' := 16) w35 own_d8_14 rfl rfl ?_
      refine own_iloadN (pc' := 17) w35 own_d8_16 rfl rfl ?_
      refine own_icmp (pc' := 20) w35 own_d8_17 rfl (by decide) (pcY := 50) rfl (fun (hb17 : ¬ (2 : Int32) < (3 : Int32)) => absurd hb17 (by decide)) (fun (hb17 : (2 : Int32) < (3 : Int32)) => ?_)
      refine own_aloadN (pc' := 21) w35 own_d8_20 rfl rfl rfl ?_
      refine own_iload (pc' := 23) w35 own_d8_21 rfl rfl ?_
      refine own_ldA (pc' := 24) w35 (v := (.ref x2)) A_r_13 rfl (by decide) rfl own_d8_23 rfl ?_
      refine own_astore (pc' := 26) w35 own_d8_24 rfl (Ls' := #[.val (.ref tx), .val (.ref r_30), .val (.ref r_13), .val (.int (3 : Int32)), .val (.int (2 : Int32)), .val (.ref x2)]) rfl rfl ?_
      refine own_aloadN (pc' := 27) w35 own_d8_26 rfl rfl rfl ?_
      refine own_aload (pc' := 29) w35 own_d8_27 rfl rfl rfl ?_
      refine own_getF (pc' := 32) w35 (host := "") (Or.inl (hw _ (List.mem_of_getElem? (i := 53) rfl))) Via.refl (ZF_x2_written.ext (own_old w35).2) own_d8_29 rfl fun T41 w42 => ?_
      refine own_callVB (pc' := 35) w42 (kc := 0) (nc := 0) (hw _ (List.mem_of_getElem? (i := 55) rfl)) (hw _ (List.mem_of_getElem? (i := 56) rfl)) (fun s' hZ' => notFace_of_selects (args := #[]) (mvT hZ' (hw _ (List.mem_of_getElem? (i := 58) rfl)))) (hw _ (List.mem_of_getElem? (i := 58) rfl)) (hw _ (List.mem_of_getElem? (i := 57) rfl)) (by decide) E_tx (QQ := fun v h' L => ((v = some (.int 1) ∧ cs = ([51] : List Int32)) ∨ (v = some (.int 0) ∧ ¬ cs = ([51] : List Int32))) ∧ L = [] ∧ h' = h26) (fun s' hZ' => StrChars.Road.eqW (W := 0) hZ' (own_hwq hw) (kI := 4) (hw _ (List.mem_of_getElem? (i := 5) rfl)) E_tx F_tx_value F_tx_coder A_t hcd hbd l2 (ZE_r2.ext (own_old w42).2) (ZF_r2_value.ext (own_old w42).2) (ZF_r2_coder.ext (own_old w42).2) (ZA_t2.ext (own_old w42).2) (own_cod (cs := ([51] : List Int32)) (n := 1) rfl own_wd2) (own_up ([51] : List Int32) own_wd2) (by decide) (S_COMPACT_STRINGS.ext (own_old w42).2) P5 (by decide) (by decide)) (ws := []) all0 (fun v h' L q => ⟨q.2.2 ▸ Keep.refl _ _, q.2.1 ▸ Fr.nil _⟩) (argsL := [(.ref r2)]) (rest := []) rfl rfl own_pd5 rfl own_d8_32 rfl (Nat.le_of_eq rfl) (by decide) (by decide) fun T43 h45 v46 w44 K47 q48 => ?_
      obtain ⟨_, hq_, -, e49⟩ := q48
      rw [e49] at w44
      rcases hq_ with ⟨rfl, hcs2⟩ | ⟨rfl, hcs2⟩
      · -- eq
        exact absurd (hcs2.symm.trans heq0) (by decide)
      · -- ne
        show own_Go Z EL n0 p e below s _ _ _ (T43.setTop (mkF m 35 #[.val (.ref tx), .val (.ref r_30), .val (.ref r_13), .val (.int (3 : Int32)), .val (.int (2 : Int32)), .val (.ref x2)] [(.int (0 : Int32))]))
        have hne2 := hcs2
        refine own_if (pc' := 38) w44 own_d8_35 rfl (by decide) (pcY := 44) rfl (fun (hb35 : (0 : Int32) = (0 : Int32)) => ?_) (fun (hb35 : ¬ (0 : Int32) = (0 : Int32)) => absurd hb35 (by decide))
        refine own_iinc (pc' := 47) w44 own_d8_44 rfl (y := (3 : Int32)) (by decide) (Ls' := #[.val (.ref tx), .val (.ref r_30), .val (.ref r_13), .val (.int (3 : Int32)), .val (.int (3 : Int32)), .val (.ref x2)]) rfl rfl ?_
        refine own_goto w44 own_d8_47 (by decide) (pc' := 14) rfl ?_
        refine own_iload (pc' := 16) w44 own_d8_14 rfl rfl ?_
        refine own_iloadN (pc' := 17) w44 own_d8_16 rfl rfl ?_
        refine own_icmp (pc' := 20) w44 own_d8_17 rfl (by decide) (pcY := 50) rfl (fun (hb17 : ¬ (3 : Int32) < (3 : Int32)) => ?_) (fun (hb17 : (3 : Int32) < (3 : Int32)) => absurd hb17 (by decide))
        refine own_aloadN (pc' := 51) w44 own_d8_50 rfl rfl rfl ?_
        exact own_retV w44 (t := (.object "java/util/Optional")) rfl (own_narR rfl rfl) (Or.inr (Or.inr (Or.inr (Or.inr ⟨rfl, rfl, rfl⟩)))) own_d8_51 (by decide) (by decide) (ms' := []) all0 ⟨K, r_30, (.ref x0), rfl, rfl, E_r_30, F_r_30_value, (by rfl), (fun _ => rfl), (fun q => absurd (heq0.symm.trans q) (by decide)), (fun q => absurd (heq0.symm.trans q) (by decide)), (fun q0 q1 q2 => absurd heq0 q0)⟩
  · -- ne
    show own_Go Z EL n0 p e below s _ _ _ (T17.setTop (mkF m 35 #[.val (.ref tx), .val (.ref em), .val (.ref r_13), .val (.int (3 : Int32)), .val (.int (0 : Int32)), .val (.ref x0)] [(.int (0 : Int32))]))
    have hne0 := hcs0
    refine own_if (pc' := 38) w18 own_d8_35 rfl (by decide) (pcY := 44) rfl (fun (hb35 : (0 : Int32) = (0 : Int32)) => ?_) (fun (hb35 : ¬ (0 : Int32) = (0 : Int32)) => absurd hb35 (by decide))
    refine own_iinc (pc' := 47) w18 own_d8_44 rfl (y := (1 : Int32)) (by decide) (Ls' := #[.val (.ref tx), .val (.ref em), .val (.ref r_13), .val (.int (3 : Int32)), .val (.int (1 : Int32)), .val (.ref x0)]) rfl rfl ?_
    refine own_goto w18 own_d8_47 (by decide) (pc' := 14) rfl ?_
    refine own_iload (pc' := 16) w18 own_d8_14 rfl rfl ?_
    refine own_iloadN (pc' := 17) w18 own_d8_16 rfl rfl ?_
    refine own_icmp (pc' := 20) w18 own_d8_17 rfl (by decide) (pcY := 50) rfl (fun (hb17 : ¬ (1 : Int32) < (3 : Int32)) => absurd hb17 (by decide)) (fun (hb17 : (1 : Int32) < (3 : Int32)) => ?_)
    refine own_aloadN (pc' := 21) w18 own_d8_20 rfl rfl rfl ?_
    refine own_iload (pc' := 23) w18 own_d8_21 rfl rfl ?_
    refine own_ldA (pc' := 24) w18 (v := (.ref x1)) A_r_13 rfl (by decide) rfl own_d8_23 rfl ?_
    refine own_astore (pc' := 26) w18 own_d8_24 rfl (Ls' := #[.val (.ref tx), .val (.ref em), .val (.ref r_13), .val (.int (3 : Int32)), .val (.int (1 : Int32)), .val (.ref x1)]) rfl rfl ?_
    refine own_aloadN (pc' := 27) w18 own_d8_26 rfl rfl rfl ?_
    refine own_aload (pc' := 29) w18 own_d8_27 rfl rfl rfl ?_
    refine own_getF (pc' := 32) w18 (host := "") (Or.inl (hw _ (List.mem_of_getElem? (i := 53) rfl))) Via.refl (ZF_x1_written.ext (own_old w18).2) own_d8_29 rfl fun T50 w51 => ?_
    refine own_callVB (pc' := 35) w51 (kc := 0) (nc := 0) (hw _ (List.mem_of_getElem? (i := 55) rfl)) (hw _ (List.mem_of_getElem? (i := 56) rfl)) (fun s' hZ' => notFace_of_selects (args := #[]) (mvT hZ' (hw _ (List.mem_of_getElem? (i := 58) rfl)))) (hw _ (List.mem_of_getElem? (i := 58) rfl)) (hw _ (List.mem_of_getElem? (i := 57) rfl)) (by decide) E_tx (QQ := fun v h' L => ((v = some (.int 1) ∧ cs = ([50] : List Int32)) ∨ (v = some (.int 0) ∧ ¬ cs = ([50] : List Int32))) ∧ L = [] ∧ h' = h9) (fun s' hZ' => StrChars.Road.eqW (W := 0) hZ' (own_hwq hw) (kI := 4) (hw _ (List.mem_of_getElem? (i := 5) rfl)) E_tx F_tx_value F_tx_coder A_t hcd hbd l2 (ZE_r1.ext (own_old w51).2) (ZF_r1_value.ext (own_old w51).2) (ZF_r1_coder.ext (own_old w51).2) (ZA_t1.ext (own_old w51).2) (own_cod (cs := ([50] : List Int32)) (n := 1) rfl own_wd1) (own_up ([50] : List Int32) own_wd1) (by decide) (S_COMPACT_STRINGS.ext (own_old w51).2) P5 (by decide) (by decide)) (ws := []) all0 (fun v h' L q => ⟨q.2.2 ▸ Keep.refl _ _, q.2.1 ▸ Fr.nil _⟩) (argsL := [(.ref r1)]) (rest := []) rfl rfl own_pd5 rfl own_d8_32 rfl (Nat.le_of_eq rfl) (by decide) (by decide) fun T52 h54 v55 w53 K56 q57 => ?_
    obtain ⟨_, hq_, -, e58⟩ := q57
    rw [e58] at w53
    rcases hq_ with ⟨rfl, hcs3⟩ | ⟨rfl, hcs3⟩
    · -- eq
      show own_Go Z EL n0 p e below s _ _ _ (T52.setTop (mkF m 35 #[.val (.ref tx), .val (.ref em), .val (.ref r_13), .val (.int (3 : Int32)), .val (.int (1 : Int32)), .val (.ref x1)] [(.int (1 : Int32))]))
      have heq1 := hcs3
      refine own_if (pc' := 38) w53 own_d8_35 rfl (by decide) (pcY := 44) rfl (fun (hb35 : (1 : Int32) = (0 : Int32)) => absurd hb35 (by decide)) (fun (hb35 : ¬ (1 : Int32) = (0 : Int32)) => ?_)
      refine own_aload (pc' := 40) w53 own_d8_38 rfl rfl rfl ?_
      refine own_callS (pc' := 43) w53 (hw _ (List.mem_of_getElem? (i := 84) rfl)) (hw _ (List.mem_of_getElem? (i := 85) rfl)) (hw _ (List.mem_of_getElem? (i := 32) rfl)) (hw _ (List.mem_of_getElem? (i := 86) rfl)) (by decide) (own_ct_optOf l Z a0 hw EL hE n0 [] h9 (own_old w53) x1 ) all0 (argsL := [(.ref x1)]) (rest := []) rfl rfl own_pd6 rfl own_d8_40 rfl (by decide) (W := 0) rfl (by decide) (by decide) (by decide) fun T59 h61 v62 ms63 w60 q64 => ?_
      obtain ⟨K66, r_65, rfl, rfl, nw_E_r_65, nw_F_r_65_value, p40_optOf_0⟩ := q64
      have ne_r_13_r_65 : r_13 ≠ r_65 := Nat.ne_of_lt (Nat.lt_of_lt_of_le E_r_13.lt p40_optOf_0)
      have ne_t_r_65 : t ≠ r_65 := Nat.ne_of_lt (Nat.lt_of_lt_of_le A_t.lt p40_optOf_0)
      have ne_tx_r_65 : tx ≠ r_65 := Nat.ne_of_lt (Nat.lt_of_lt_of_le E_tx.lt p40_optOf_0)
      have nw_r_65 : h0.size ≤ r_65 := Nat.le_trans K.1 p40_optOf_0
      replace E_tx := E_tx.keep K66
      replace F_tx_coder := F_tx_coder.keep K66 nin0
      replace F_tx_value := F_tx_value.keep K66 nin0
      replace A_t := A_t.keep K66 nin0
      replace E_r_13 := E_r_13.keep K66
      replace A_r_13 := A_r_13.keep K66 nin0
      replace K := K.trans K66 all0
      have E_r_65 := nw_E_r_65; clear nw_E_r_65
      have F_r_65_value := nw_F_r_65_value; clear nw_F_r_65_value
      show own_Go Z EL n0 p e below s _ _ _ (T59.setTop (mkF m 43 #[.val (.ref tx), .val (.ref em), .val (.ref r_13), .val (.int (3 : Int32)), .val (.int (1 : Int32)), .val (.ref x1)] [(.ref r_65)]))
      refine own_astoreN (pc' := 44) w60 own_d8_43 rfl (Ls' := #[.val (.ref tx), .val (.ref r_65), .val (.ref r_13), .val (.int (3 : Int32)), .val (.int (1 : Int32)), .val (.ref x1)]) rfl rfl ?_
      refine own_iinc (pc' := 47) w60 own_d8_44 rfl (y := (2 : Int32)) (by decide) (Ls' := #[.val (.ref tx), .val (.ref r_65), .val (.ref r_13), .val (.int (3 : Int32)), .val (.int (2 : Int32)), .val (.ref x1)]) rfl rfl ?_
      refine own_goto w60 own_d8_47 (by decide) (pc' := 14) rfl ?_
      refine own_iload (pc' := 16) w60 own_d8_14 rfl rfl ?_
      refine own_iloadN (pc' := 17) w60 own_d8_16 rfl rfl ?_
      refine own_icmp (pc' := 20) w60 own_d8_17 rfl (by decide) (pcY := 50) rfl (fun (hb17 : ¬ (2 : Int32) < (3 : Int32)) => absurd hb17 (by decide)) (fun (hb17 : (2 : Int32) < (3 : Int32)) => ?_)
      refine own_aloadN (pc' := 21) w60 own_d8_20 rfl rfl rfl ?_
      refine own_iload (pc' := 23) w60 own_d8_21 rfl rfl ?_
      refine own_ldA (pc' := 24) w60 (v := (.ref x2)) A_r_13 rfl (by decide) rfl own_d8_23 rfl ?_
      refine own_astore (pc' := 26) w60 own_d8_24 rfl (Ls' := #[.val (.ref tx), .val (.ref r_65), .val (.ref r_13), .val (.int (3 : Int32)), .val (.int (2 : Int32)), .val (.ref x2)]) rfl rfl ?_
      refine own_aloadN (pc' := 27) w60 own_d8_26 rfl rfl rfl ?_
      refine own_aload (pc' := 29) w60 own_d8_27 rfl rfl rfl ?_
      refine own_getF (pc' := 32) w60 (host := "") (Or.inl (hw _ (List.mem_of_getElem? (i := 53) rfl))) Via.refl (ZF_x2_written.ext (own_old w60).2) own_d8_29 rfl fun T67 w68 => ?_
      refine own_callVB (pc' := 35) w68 (kc := 0) (nc := 0) (hw _ (List.mem_of_getElem? (i := 55) rfl)) (hw _ (List.mem_of_getElem? (i := 56) rfl)) (fun s' hZ' => notFace_of_selects (args := #[]) (mvT hZ' (hw _ (List.mem_of_getElem? (i := 58) rfl)))) (hw _ (List.mem_of_getElem? (i := 58) rfl)) (hw _ (List.mem_of_getElem? (i := 57) rfl)) (by decide) E_tx (QQ := fun v h' L => ((v = some (.int 1) ∧ cs = ([51] : List Int32)) ∨ (v = some (.int 0) ∧ ¬ cs = ([51] : List Int32))) ∧ L = [] ∧ h' = h61) (fun s' hZ' => StrChars.Road.eqW (W := 0) hZ' (own_hwq hw) (kI := 4) (hw _ (List.mem_of_getElem? (i := 5) rfl)) E_tx F_tx_value F_tx_coder A_t hcd hbd l2 (ZE_r2.ext (own_old w68).2) (ZF_r2_value.ext (own_old w68).2) (ZF_r2_coder.ext (own_old w68).2) (ZA_t2.ext (own_old w68).2) (own_cod (cs := ([51] : List Int32)) (n := 1) rfl own_wd2) (own_up ([51] : List Int32) own_wd2) (by decide) (S_COMPACT_STRINGS.ext (own_old w68).2) P5 (by decide) (by decide)) (ws := []) all0 (fun v h' L q => ⟨q.2.2 ▸ Keep.refl _ _, q.2.1 ▸ Fr.nil _⟩) (argsL := [(.ref r2)]) (rest := []) rfl rfl own_pd5 rfl own_d8_32 rfl (Nat.le_of_eq rfl) (by decide) (by decide) fun T69 h71 v72 w70 K73 q74 => ?_
      obtain ⟨_, hq_, -, e75⟩ := q74
      rw [e75] at w70
      rcases hq_ with ⟨rfl, hcs4⟩ | ⟨rfl, hcs4⟩
      · -- eq
        exact absurd (hcs4.symm.trans heq1) (by decide)
      · -- ne
        show own_Go Z EL n0 p e below s _ _ _ (T69.setTop (mkF m 35 #[.val (.ref tx), .val (.ref r_65), .val (.ref r_13), .val (.int (3 : Int32)), .val (.int (2 : Int32)), .val (.ref x2)] [(.int (0 : Int32))]))
        have hne2 := hcs4
        refine own_if (pc' := 38) w70 own_d8_35 rfl (by decide) (pcY := 44) rfl (fun (hb35 : (0 : Int32) = (0 : Int32)) => ?_) (fun (hb35 : ¬ (0 : Int32) = (0 : Int32)) => absurd hb35 (by decide))
        refine own_iinc (pc' := 47) w70 own_d8_44 rfl (y := (3 : Int32)) (by decide) (Ls' := #[.val (.ref tx), .val (.ref r_65), .val (.ref r_13), .val (.int (3 : Int32)), .val (.int (3 : Int32)), .val (.ref x2)]) rfl rfl ?_
        refine own_goto w70 own_d8_47 (by decide) (pc' := 14) rfl ?_
        refine own_iload (pc' := 16) w70 own_d8_14 rfl rfl ?_
        refine own_iloadN (pc' := 17) w70 own_d8_16 rfl rfl ?_
        refine own_icmp (pc' := 20) w70 own_d8_17 rfl (by decide) (pcY := 50) rfl (fun (hb17 : ¬ (3 : Int32) < (3 : Int32)) => ?_) (fun (hb17 : (3 : Int32) < (3 : Int32)) => absurd hb17 (by decide))
        refine own_aloadN (pc' := 51) w70 own_d8_50 rfl rfl rfl ?_
        exact own_retV w70 (t := (.object "java/util/Optional")) rfl (own_narR rfl rfl) (Or.inr (Or.inr (Or.inr (Or.inr ⟨rfl, rfl, rfl⟩)))) own_d8_51 (by decide) (by decide) (ms' := []) all0 ⟨K, r_65, (.ref x1), rfl, rfl, E_r_65, F_r_65_value, (by rfl), (fun q => absurd (heq1.symm.trans q) (by decide)), (fun _ => rfl), (fun q => absurd (heq1.symm.trans q) (by decide)), (fun q0 q1 q2 => absurd heq1 q1)⟩
    · -- ne
      show own_Go Z EL n0 p e below s _ _ _ (T52.setTop (mkF m 35 #[.val (.ref tx), .val (.ref em), .val (.ref r_13), .val (.int (3 : Int32)), .val (.int (1 : Int32)), .val (.ref x1)] [(.int (0 : Int32))]))
      have hne1 := hcs3
      refine own_if (pc' := 38) w53 own_d8_35 rfl (by decide) (pcY := 44) rfl (fun (hb35 : (0 : Int32) = (0 : Int32)) => ?_) (fun (hb35 : ¬ (0 : Int32) = (0 : Int32)) => absurd hb35 (by decide))
      refine own_iinc (pc' := 47) w53 own_d8_44 rfl (y := (2 : Int32)) (by decide) (Ls' := #[.val (.ref tx), .val (.ref em), .val (.ref r_13), .val (.int (3 : Int32)), .val (.int (2 : Int32)), .val (.ref x1)]) rfl rfl ?_
      refine own_goto w53 own_d8_47 (by decide) (pc' := 14) rfl ?_
      refine own_iload (pc' := 16) w53 own_d8_14 rfl rfl ?_
      refine own_iloadN (pc' := 17) w53 own_d8_16 rfl rfl ?_
      refine own_icmp (pc' := 20) w53 own_d8_17 rfl (by decide) (pcY := 50) rfl (fun (hb17 : ¬ (2 : Int32) < (3 : Int32)) => absurd hb17 (by decide)) (fun (hb17 : (2 : Int32) < (3 : Int32)) => ?_)
      refine own_aloadN (pc' := 21) w53 own_d8_20 rfl rfl rfl ?_
      refine own_iload (pc' := 23) w53 own_d8_21 rfl rfl ?_
      refine own_ldA (pc' := 24) w53 (v := (.ref x2)) A_r_13 rfl (by decide) rfl own_d8_23 rfl ?_
      refine own_astore (pc' := 26) w53 own_d8_24 rfl (Ls' := #[.val (.ref tx), .val (.ref em), .val (.ref r_13), .val (.int (3 : Int32)), .val (.int (2 : Int32)), .val (.ref x2)]) rfl rfl ?_
      refine own_aloadN (pc' := 27) w53 own_d8_26 rfl rfl rfl ?_
      refine own_aload (pc' := 29) w53 own_d8_27 rfl rfl rfl ?_
      refine own_getF (pc' := 32) w53 (host := "") (Or.inl (hw _ (List.mem_of_getElem? (i := 53) rfl))) Via.refl (ZF_x2_written.ext (own_old w53).2) own_d8_29 rfl fun T76 w77 => ?_
      refine own_callVB (pc' := 35) w77 (kc := 0) (nc := 0) (hw _ (List.mem_of_getElem? (i := 55) rfl)) (hw _ (List.mem_of_getElem? (i := 56) rfl)) (fun s' hZ' => notFace_of_selects (args := #[]) (mvT hZ' (hw _ (List.mem_of_getElem? (i := 58) rfl)))) (hw _ (List.mem_of_getElem? (i := 58) rfl)) (hw _ (List.mem_of_getElem? (i := 57) rfl)) (by decide) E_tx (QQ := fun v h' L => ((v = some (.int 1) ∧ cs = ([51] : List Int32)) ∨ (v = some (.int 0) ∧ ¬ cs = ([51] : List Int32))) ∧ L = [] ∧ h' = h9) (fun s' hZ' => StrChars.Road.eqW (W := 0) hZ' (own_hwq hw) (kI := 4) (hw _ (List.mem_of_getElem? (i := 5) rfl)) E_tx F_tx_value F_tx_coder A_t hcd hbd l2 (ZE_r2.ext (own_old w77).2) (ZF_r2_value.ext (own_old w77).2) (ZF_r2_coder.ext (own_old w77).2) (ZA_t2.ext (own_old w77).2) (own_cod (cs := ([51] : List Int32)) (n := 1) rfl own_wd2) (own_up ([51] : List Int32) own_wd2) (by decide) (S_COMPACT_STRINGS.ext (own_old w77).2) P5 (by decide) (by decide)) (ws := []) all0 (fun v h' L q => ⟨q.2.2 ▸ Keep.refl _ _, q.2.1 ▸ Fr.nil _⟩) (argsL := [(.ref r2)]) (rest := []) rfl rfl own_pd5 rfl own_d8_32 rfl (Nat.le_of_eq rfl) (by decide) (by decide) fun T78 h80 v81 w79 K82 q83 => ?_
      obtain ⟨_, hq_, -, e84⟩ := q83
      rw [e84] at w79
      rcases hq_ with ⟨rfl, hcs5⟩ | ⟨rfl, hcs5⟩
      · -- eq
        show own_Go Z EL n0 p e below s _ _ _ (T78.setTop (mkF m 35 #[.val (.ref tx), .val (.ref em), .val (.ref r_13), .val (.int (3 : Int32)), .val (.int (2 : Int32)), .val (.ref x2)] [(.int (1 : Int32))]))
        have heq2 := hcs5
        refine own_if (pc' := 38) w79 own_d8_35 rfl (by decide) (pcY := 44) rfl (fun (hb35 : (1 : Int32) = (0 : Int32)) => absurd hb35 (by decide)) (fun (hb35 : ¬ (1 : Int32) = (0 : Int32)) => ?_)
        refine own_aload (pc' := 40) w79 own_d8_38 rfl rfl rfl ?_
        refine own_callS (pc' := 43) w79 (hw _ (List.mem_of_getElem? (i := 84) rfl)) (hw _ (List.mem_of_getElem? (i := 85) rfl)) (hw _ (List.mem_of_getElem? (i := 32) rfl)) (hw _ (List.mem_of_getElem? (i := 86) rfl)) (by decide) (own_ct_optOf l Z a0 hw EL hE n0 [] h9 (own_old w79) x2 ) all0 (argsL := [(.ref x2)]) (rest := []) rfl rfl own_pd6 rfl own_d8_40 rfl (by decide) (W := 0) rfl (by decide) (by decide) (by decide) fun T85 h87 v88 ms89 w86 q90 => ?_
        obtain ⟨K92, r_91, rfl, rfl, nw_E_r_91, nw_F_r_91_value, p40_optOf_0⟩ := q90
        have ne_r_13_r_91 : r_13 ≠ r_91 := Nat.ne_of_lt (Nat.lt_of_lt_of_le E_r_13.lt p40_optOf_0)
        have ne_t_r_91 : t ≠ r_91 := Nat.ne_of_lt (Nat.lt_of_lt_of_le A_t.lt p40_optOf_0)
        have ne_tx_r_91 : tx ≠ r_91 := Nat.ne_of_lt (Nat.lt_of_lt_of_le E_tx.lt p40_optOf_0)
        have nw_r_91 : h0.size ≤ r_91 := Nat.le_trans K.1 p40_optOf_0
        replace E_tx := E_tx.keep K92
        replace F_tx_coder := F_tx_coder.keep K92 nin0
        replace F_tx_value := F_tx_value.keep K92 nin0
        replace A_t := A_t.keep K92 nin0
        replace E_r_13 := E_r_13.keep K92
        replace A_r_13 := A_r_13.keep K92 nin0
        replace K := K.trans K92 all0
        have E_r_91 := nw_E_r_91; clear nw_E_r_91
        have F_r_91_value := nw_F_r_91_value; clear nw_F_r_91_value
        show own_Go Z EL n0 p e below s _ _ _ (T85.setTop (mkF m 43 #[.val (.ref tx), .val (.ref em), .val (.ref r_13), .val (.int (3 : Int32)), .val (.int (2 : Int32)), .val (.ref x2)] [(.ref r_91)]))
        refine own_astoreN (pc' := 44) w86 own_d8_43 rfl (Ls' := #[.val (.ref tx), .val (.ref r_91), .val (.ref r_13), .val (.int (3 : Int32)), .val (.int (2 : Int32)), .val (.ref x2)]) rfl rfl ?_
        refine own_iinc (pc' := 47) w86 own_d8_44 rfl (y := (3 : Int32)) (by decide) (Ls' := #[.val (.ref tx), .val (.ref r_91), .val (.ref r_13), .val (.int (3 : Int32)), .val (.int (3 : Int32)), .val (.ref x2)]) rfl rfl ?_
        refine own_goto w86 own_d8_47 (by decide) (pc' := 14) rfl ?_
        refine own_iload (pc' := 16) w86 own_d8_14 rfl rfl ?_
        refine own_iloadN (pc' := 17) w86 own_d8_16 rfl rfl ?_
        refine own_icmp (pc' := 20) w86 own_d8_17 rfl (by decide) (pcY := 50) rfl (fun (hb17 : ¬ (3 : Int32) < (3 : Int32)) => ?_) (fun (hb17 : (3 : Int32) < (3 : Int32)) => absurd hb17 (by decide))
        refine own_aloadN (pc' := 51) w86 own_d8_50 rfl rfl rfl ?_
        exact own_retV w86 (t := (.object "java/util/Optional")) rfl (own_narR rfl rfl) (Or.inr (Or.inr (Or.inr (Or.inr ⟨rfl, rfl, rfl⟩)))) own_d8_51 (by decide) (by decide) (ms' := []) all0 ⟨K, r_91, (.ref x2), rfl, rfl, E_r_91, F_r_91_value, (by rfl), (fun q => absurd (heq2.symm.trans q) (by decide)), (fun q => absurd (heq2.symm.trans q) (by decide)), (fun _ => rfl), (fun q0 q1 q2 => absurd heq2 q2)⟩
      · -- ne
        show own_Go Z EL n0 p e below s _ _ _ (T78.setTop (mkF m 35 #[.val (.ref tx), .val (.ref em), .val (.ref r_13), .val (.int (3 : Int32)), .val (.int (2 : Int32)), .val (.ref x2)] [(.int (0 : Int32))]))
        have hne2 := hcs5
        refine own_if (pc' := 38) w79 own_d8_35 rfl (by decide) (pcY := 44) rfl (fun (hb35 : (0 : Int32) = (0 : Int32)) => ?_) (fun (hb35 : ¬ (0 : Int32) = (0 : Int32)) => absurd hb35 (by decide))
        refine own_iinc (pc' := 47) w79 own_d8_44 rfl (y := (3 : Int32)) (by decide) (Ls' := #[.val (.ref tx), .val (.ref em), .val (.ref r_13), .val (.int (3 : Int32)), .val (.int (3 : Int32)), .val (.ref x2)]) rfl rfl ?_
        refine own_goto w79 own_d8_47 (by decide) (pc' := 14) rfl ?_
        refine own_iload (pc' := 16) w79 own_d8_14 rfl rfl ?_
        refine own_iloadN (pc' := 17) w79 own_d8_16 rfl rfl ?_
        refine own_icmp (pc' := 20) w79 own_d8_17 rfl (by decide) (pcY := 50) rfl (fun (hb17 : ¬ (3 : Int32) < (3 : Int32)) => ?_) (fun (hb17 : (3 : Int32) < (3 : Int32)) => absurd hb17 (by decide))
        refine own_aloadN (pc' := 51) w79 own_d8_50 rfl rfl rfl ?_
        exact own_retV w79 (t := (.object "java/util/Optional")) rfl (own_narR rfl rfl) (Or.inr (Or.inr (Or.inr (Or.inr ⟨rfl, rfl, rfl⟩)))) own_d8_51 (by decide) (by decide) (ms' := []) all0 ⟨K, em, .null, rfl, rfl, (ZE_em.ext (own_old w79).2), (ZF_em_value.ext (own_old w79).2), (by rfl), (fun q => absurd q hne0), (fun q => absurd q hne1), (fun q => absurd q hne2), (fun _ _ _ => rfl)⟩
theorem own_d9_0 : decode method_2_code 0 = .ok (.iload_n 0, 1) := by decide +kernel
theorem own_d9_1 : decode method_2_code 1 = .ok (.sipush 256, 3) := by decide +kernel
theorem own_d9_4 : decode method_2_code 4 = .ok (.iand, 1) := by decide +kernel
theorem own_d9_5 : decode method_2_code 5 = .ok (.ifCond .eq 16, 3) := by decide +kernel
theorem own_d9_21 : decode method_2_code 21 = .ok (.iload_n 0, 1) := by decide +kernel
theorem own_d9_22 : decode method_2_code 22 = .ok (.sipush 255, 3) := by decide +kernel
theorem own_d9_25 : decode method_2_code 25 = .ok (.iand, 1) := by decide +kernel
theorem own_d9_26 : decode method_2_code 26 = .ok (.i2c, 1) := by decide +kernel
theorem own_d9_27 : decode method_2_code 27 = .ok (.ireturn, 1) := by decide +kernel
theorem own_d9_8 : decode method_2_code 8 = .ok (.bipush 48, 2) := by decide +kernel
theorem own_d9_10 : decode method_2_code 10 = .ok (.iload_n 0, 1) := by decide +kernel
theorem own_d9_11 : decode method_2_code 11 = .ok (.sipush 255, 3) := by decide +kernel
theorem own_d9_14 : decode method_2_code 14 = .ok (.iand, 1) := by decide +kernel
theorem own_d9_15 : decode method_2_code 15 = .ok (.bipush 10, 2) := by decide +kernel
theorem own_d9_17 : decode method_2_code 17 = .ok (.irem, 1) := by decide +kernel
theorem own_d9_18 : decode method_2_code 18 = .ok (.iadd, 1) := by decide +kernel
theorem own_d9_19 : decode method_2_code 19 = .ok (.i2c, 1) := by decide +kernel
theorem own_d9_20 : decode method_2_code 20 = .ok (.ireturn, 1) := by decide +kernel
theorem own_ef_draw (m : MethodId) (pp : Int32) : entryFrame m #[(.int pp)] 1 = mkF m 0 #[.val (.int pp)] [] := by first | (simp [entryFrame, mkF, argsToLocals, Value.category]; done) | rfl
theorem own_pf9 : plainFor (⟨"com/example/coretally/coretally/estate/RegionOfPinLaw", "draw", "(I)C"⟩ : MethodName) = true := by first | exact plainFor_of_name (by first | (simp [plainName, overriddenIn]; done) | decide +kernel) | decide +kernel
def own_Q_draw (Z : State) (h0 : Heap) (pp : Int32) (v : Option Value) (h : Heap) (ms : List Addr) : Prop := (h0 = h) ∧ (ms = []) ∧ (∃ (ch : Int32), (v = some (.int ch)) ∧ (¬ ch < 0 ∧ ¬ (255 : Int32) < ch))
set_option maxRecDepth 65536 in
set_option maxHeartbeats 40000000 in
theorem own_ct_draw (l : Launch) (Z : State) (a0 : Array Value) (hw : ∀ d ∈ tables_1, d.before a0 Z = true) (EL : List (String × Nat)) (hE : EW Z a0 EL) (n0 : Nat) (ws : List Jvm.Cond) (h0 : Heap) (O : Old Z n0 h0) (pp : Int32)  :
    own_Ct l Z EL n0 (⟨"com/example/coretally/coretally/estate/RegionOfPinLaw", "draw", "(I)C"⟩ : MethodName) method_2_code 1 (some .char) ws ({ frames := 0, cells := 0, slots := 0, locals := 0 } : Room) #[(.int pp)] h0 [] (own_Q_draw Z h0 pp) := by
  refine own_enter (a0 := a0) own_pf9 hE O fun p e s m below meth c T0 w0 => ?_
  rw [own_ef_draw m pp]
  refine own_iloadN (pc' := 1) w0 own_d9_0 rfl rfl ?_
  refine own_sipush (pc' := 4) w0 own_d9_1 (x := (256 : Int32)) rfl rfl ?_
  refine own_iand (pc' := 5) w0 own_d9_4 (z := (pp &&& (256 : Int32))) rfl rfl ?_
  refine own_if (pc' := 8) w0 own_d9_5 rfl (by decide) (pcY := 21) rfl (fun (hb5 : (pp &&& (256 : Int32)) = (0 : Int32)) => ?_) (fun (hb5 : ¬ (pp &&& (256 : Int32)) = (0 : Int32)) => ?_)
  · -- t
    refine own_iloadN (pc' := 22) w0 own_d9_21 rfl rfl ?_
    refine own_sipush (pc' := 25) w0 own_d9_22 (x := (255 : Int32)) rfl rfl ?_
    refine own_iand (pc' := 26) w0 own_d9_25 (z := (pp &&& (255 : Int32))) rfl rfl ?_
    refine own_i2c (pc' := 27) w0 own_d9_26 (z := (pp &&& (255 : Int32))) (i2c_mask pp) rfl ?_
    exact own_retV w0 (t := .char) rfl (own_narC (own_up1 (own_and255 pp))) (Or.inl ⟨rfl, by simp, _, rfl⟩) own_d9_27 (by decide) (by decide) (ms' := []) all0 ⟨rfl, rfl, (pp &&& (255 : Int32)), rfl, (own_and255 pp)⟩
  · -- f
    refine own_bipush (pc' := 10) w0 own_d9_8 (x := (48 : Int32)) rfl rfl ?_
    refine own_iloadN (pc' := 11) w0 own_d9_10 rfl rfl ?_
    refine own_sipush (pc' := 14) w0 own_d9_11 (x := (255 : Int32)) rfl rfl ?_
    refine own_iand (pc' := 15) w0 own_d9_14 (z := (pp &&& (255 : Int32))) rfl rfl ?_
    refine own_bipush (pc' := 17) w0 own_d9_15 (x := (10 : Int32)) rfl rfl ?_
    refine own_irem (pc' := 18) w0 own_d9_17 (by decide) (z := ((pp &&& (255 : Int32)) % (10 : Int32))) (irem_eq_mod _ _) rfl ?_
    refine own_iadd (pc' := 19) w0 own_d9_18 (z := ((48 : Int32) + ((pp &&& (255 : Int32)) % (10 : Int32)))) rfl rfl ?_
    refine own_i2c (pc' := 20) w0 own_d9_19 (z := ((48 : Int32) + ((pp &&& (255 : Int32)) % (10 : Int32)))) (own_i2cE (own_up1 (own_dr pp)).1 (own_up1 (own_dr pp)).2) rfl ?_
    exact own_retV w0 (t := .char) rfl (own_narC (own_up1 (own_dr pp))) (Or.inl ⟨rfl, by simp, _, rfl⟩) own_d9_20 (by decide) (by decide) (ms' := []) all0 ⟨rfl, rfl, ((48 : Int32) + ((pp &&& (255 : Int32)) % (10 : Int32))), rfl, (own_dr pp)⟩
theorem own_d10_0 : decode code 0 = .ok (.iload_n 0, 1) := by decide +kernel
theorem own_d10_1 : decode code 1 = .ok (.iconst 3, 1) := by decide +kernel
theorem own_d10_2 : decode code 2 = .ok (.iand, 1) := by decide +kernel
theorem own_d10_3 : decode code 3 = .ok (.istore 4, 2) := by decide +kernel
theorem own_d10_5 : decode code 5 = .ok (.iload_n 1, 1) := by decide +kernel
theorem own_d10_6 : decode code 6 = .ok (.invokestatic 7, 3) := by decide +kernel
theorem own_pd7 : parseMethodDescriptor "(I)C" = some ⟨[.int], some .char⟩ := by decide +kernel
theorem own_d10_9 : decode code 9 = .ok (.istore 5, 2) := by decide +kernel
theorem own_d10_11 : decode code 11 = .ok (.iload_n 2, 1) := by decide +kernel
theorem own_d10_12 : decode code 12 = .ok (.invokestatic 7, 3) := by decide +kernel
theorem own_d10_15 : decode code 15 = .ok (.istore 6, 2) := by decide +kernel
theorem own_d10_17 : decode code 17 = .ok (.iload_n 3, 1) := by decide +kernel
theorem own_d10_18 : decode code 18 = .ok (.invokestatic 7, 3) := by decide +kernel
theorem own_d10_21 : decode code 21 = .ok (.istore 7, 2) := by decide +kernel
theorem own_d10_23 : decode code 23 = .ok (.iload 4, 2) := by decide +kernel
theorem own_d10_25 : decode code 25 = .ok (.ifCond .ne 18, 3) := by decide +kernel
theorem own_d10_43 : decode code 43 = .ok (.iload 4, 2) := by decide +kernel
theorem own_d10_45 : decode code 45 = .ok (.iconst 1, 1) := by decide +kernel
theorem own_d10_46 : decode code 46 = .ok (.if_icmp .ne 23, 3) := by decide +kernel
theorem own_d10_69 : decode code 69 = .ok (.iload 4, 2) := by decide +kernel
theorem own_d10_71 : decode code 71 = .ok (.iconst 2, 1) := by decide +kernel
theorem own_d10_72 : decode code 72 = .ok (.if_icmp .ne 28, 3) := by decide +kernel
theorem own_d10_100 : decode code 100 = .ok (.new 13, 3) := by decide +kernel
theorem own_d10_103 : decode code 103 = .ok (.dup, 1) := by decide +kernel
theorem own_d10_104 : decode code 104 = .ok (.iconst 3, 1) := by decide +kernel
theorem own_d10_105 : decode code 105 = .ok (.newarray .char, 2) := by decide +kernel
theorem own_d10_107 : decode code 107 = .ok (.dup, 1) := by decide +kernel
theorem own_d10_108 : decode code 108 = .ok (.iconst 0, 1) := by decide +kernel
theorem own_d10_109 : decode code 109 = .ok (.iload 5, 2) := by decide +kernel
theorem own_d10_111 : decode code 111 = .ok (.castore, 1) := by decide +kernel
theorem own_d10_112 : decode code 112 = .ok (.dup, 1) := by decide +kernel
theorem own_d10_113 : decode code 113 = .ok (.iconst 1, 1) := by decide +kernel
theorem own_d10_114 : decode code 114 = .ok (.iload 6, 2) := by decide +kernel
theorem own_d10_116 : decode code 116 = .ok (.castore, 1) := by decide +kernel
theorem own_d10_117 : decode code 117 = .ok (.dup, 1) := by decide +kernel
theorem own_d10_118 : decode code 118 = .ok (.iconst 2, 1) := by decide +kernel
theorem own_d10_119 : decode code 119 = .ok (.iload 7, 2) := by decide +kernel
theorem own_d10_121 : decode code 121 = .ok (.castore, 1) := by decide +kernel
theorem own_d10_122 : decode code 122 = .ok (.invokespecial 15, 3) := by decide +kernel
theorem own_pd8 : parseMethodDescriptor "([C)V" = some ⟨[(.array .char)], none⟩ := by decide +kernel
theorem own_d10_125 : decode code 125 = .ok (.astore 8, 2) := by decide +kernel
theorem own_d10_127 : decode code 127 = .ok (.aconst_null, 1) := by decide +kernel
theorem own_d10_128 : decode code 128 = .ok (.astore 9, 2) := by decide +kernel
theorem own_d10_130 : decode code 130 = .ok (.iload 4, 2) := by decide +kernel
theorem own_d10_132 : decode code 132 = .ok (.iconst 1, 1) := by decide +kernel
theorem own_d10_133 : decode code 133 = .ok (.if_icmp .ne 45, 3) := by decide +kernel
theorem own_d10_178 : decode code 178 = .ok (.aload 8, 2) := by decide +kernel
theorem own_d10_180 : decode code 180 = .ok (.invokestatic 30, 3) := by decide +kernel
theorem own_pd9 : parseMethodDescriptor "(Ljava/lang/String;)Ljava/util/Optional;" = some ⟨[(.object "java/lang/String")], some (.object "java/util/Optional")⟩ := by decide +kernel
theorem own_d10_183 : decode code 183 = .ok (.astore 10, 2) := by decide +kernel
theorem own_d10_185 : decode code 185 = .ok (.aload 10, 2) := by decide +kernel
theorem own_d10_187 : decode code 187 = .ok (.aconst_null, 1) := by decide +kernel
theorem own_d10_188 : decode code 188 = .ok (.invokevirtual 34, 3) := by decide +kernel
theorem own_d10_191 : decode code 191 = .ok (.checkcast 19, 3) := by decide +kernel
theorem own_d10_194 : decode code 194 = .ok (.astore 11, 2) := by decide +kernel
theorem own_d10_196 : decode code 196 = .ok (.aload 11, 2) := by decide +kernel
theorem own_d10_198 : decode code 198 = .ok (.aload 9, 2) := by decide +kernel
theorem own_d10_200 : decode code 200 = .ok (.if_acmp .ne 7, 3) := by decide +kernel
theorem own_d10_203 : decode code 203 = .ok (.iconst 1, 1) := by decide +kernel
theorem own_d10_204 : decode code 204 = .ok (.goto 4, 3) := by decide +kernel
theorem own_d10_208 : decode code 208 = .ok (.ireturn, 1) := by decide +kernel
theorem own_d10_75 : decode code 75 = .ok (.new 13, 3) := by decide +kernel
theorem own_d10_78 : decode code 78 = .ok (.dup, 1) := by decide +kernel
theorem own_d10_79 : decode code 79 = .ok (.iconst 2, 1) := by decide +kernel
theorem own_d10_80 : decode code 80 = .ok (.newarray .char, 2) := by decide +kernel
theorem own_d10_82 : decode code 82 = .ok (.dup, 1) := by decide +kernel
theorem own_d10_83 : decode code 83 = .ok (.iconst 0, 1) := by decide +kernel
theorem own_d10_84 : decode code 84 = .ok (.iload 5, 2) := by decide +kernel
theorem own_d10_86 : decode code 86 = .ok (.castore, 1) := by decide +kernel
theorem own_d10_87 : decode code 87 = .ok (.dup, 1) := by decide +kernel
theorem own_d10_88 : decode code 88 = .ok (.iconst 1, 1) := by decide +kernel
theorem own_d10_89 : decode code 89 = .ok (.iload 6, 2) := by decide +kernel
theorem own_d10_91 : decode code 91 = .ok (.castore, 1) := by decide +kernel
theorem own_d10_92 : decode code 92 = .ok (.invokespecial 15, 3) := by decide +kernel
theorem own_d10_95 : decode code 95 = .ok (.astore 8, 2) := by decide +kernel
theorem own_d10_97 : decode code 97 = .ok (.goto 30, 3) := by decide +kernel
theorem own_d10_49 : decode code 49 = .ok (.new 13, 3) := by decide +kernel
theorem own_d10_52 : decode code 52 = .ok (.dup, 1) := by decide +kernel
theorem own_d10_53 : decode code 53 = .ok (.iconst 1, 1) := by decide +kernel
theorem own_d10_54 : decode code 54 = .ok (.newarray .char, 2) := by decide +kernel
theorem own_d10_56 : decode code 56 = .ok (.dup, 1) := by decide +kernel
theorem own_d10_57 : decode code 57 = .ok (.iconst 0, 1) := by decide +kernel
theorem own_d10_58 : decode code 58 = .ok (.iload 5, 2) := by decide +kernel
theorem own_d10_60 : decode code 60 = .ok (.castore, 1) := by decide +kernel
theorem own_d10_61 : decode code 61 = .ok (.invokespecial 15, 3) := by decide +kernel
theorem own_d10_64 : decode code 64 = .ok (.astore 8, 2) := by decide +kernel
theorem own_d10_66 : decode code 66 = .ok (.goto 61, 3) := by decide +kernel
theorem own_d10_136 : decode code 136 = .ok (.iload 5, 2) := by decide +kernel
theorem own_d10_138 : decode code 138 = .ok (.bipush 49, 2) := by decide +kernel
theorem own_d10_140 : decode code 140 = .ok (.if_icmp .ne 11, 3) := by decide +kernel
theorem own_d10_151 : decode code 151 = .ok (.iload 5, 2) := by decide +kernel
theorem own_d10_153 : decode code 153 = .ok (.bipush 50, 2) := by decide +kernel
theorem own_d10_155 : decode code 155 = .ok (.if_icmp .ne 11, 3) := by decide +kernel
theorem own_d10_166 : decode code 166 = .ok (.iload 5, 2) := by decide +kernel
theorem own_d10_168 : decode code 168 = .ok (.bipush 51, 2) := by decide +kernel
theorem own_d10_170 : decode code 170 = .ok (.if_icmp .ne 8, 3) := by decide +kernel
theorem own_d10_173 : decode code 173 = .ok (.getstatic 27, 3) := by decide +kernel
theorem own_d10_176 : decode code 176 = .ok (.astore 9, 2) := by decide +kernel
theorem own_d10_158 : decode code 158 = .ok (.getstatic 24, 3) := by decide +kernel
theorem own_d10_161 : decode code 161 = .ok (.astore 9, 2) := by decide +kernel
theorem own_d10_163 : decode code 163 = .ok (.goto 15, 3) := by decide +kernel
theorem own_d10_143 : decode code 143 = .ok (.getstatic 18, 3) := by decide +kernel
theorem own_d10_146 : decode code 146 = .ok (.astore 9, 2) := by decide +kernel
theorem own_d10_148 : decode code 148 = .ok (.goto 30, 3) := by decide +kernel
theorem own_d10_28 : decode code 28 = .ok (.new 13, 3) := by decide +kernel
theorem own_d10_31 : decode code 31 = .ok (.dup, 1) := by decide +kernel
theorem own_d10_32 : decode code 32 = .ok (.iconst 0, 1) := by decide +kernel
theorem own_d10_33 : decode code 33 = .ok (.newarray .char, 2) := by decide +kernel
theorem own_d10_35 : decode code 35 = .ok (.invokespecial 15, 3) := by decide +kernel
theorem own_d10_38 : decode code 38 = .ok (.astore 8, 2) := by decide +kernel
theorem own_d10_40 : decode code 40 = .ok (.goto 87, 3) := by decide +kernel
theorem own_ef_law (m : MethodId) (i0 : Int32) (i1 : Int32) (i2 : Int32) (i3 : Int32) : entryFrame m #[(.int i0), (.int i1), (.int i2), (.int i3)] maxLocals = mkF m 0 #[.val (.int i0), .val (.int i1), .val (.int i2), .val (.int i3), .unset, .unset, .unset, .unset, .unset, .unset, .unset, .unset] [] := by first | (simp [entryFrame, mkF, argsToLocals, Value.category, maxLocals]; done) | rfl
theorem own_pf10 : plainFor (⟨"com/example/coretally/coretally/estate/RegionOfPinLaw", "law", "(IIII)Z"⟩ : MethodName) = true := by first | exact plainFor_of_name (by first | (simp [plainName, overriddenIn]; done) | decide +kernel) | decide +kernel
def own_Q_law (Z : State) (h0 : Heap) (i0 : Int32) (i1 : Int32) (i2 : Int32) (i3 : Int32) (zv : Addr) (kv : ClassId) (em : Addr) (x0 : Addr) (r0 : Addr) (t0 : Addr) (k0 : ClassId) (x1 : Addr) (r1 : Addr) (t1 : Addr) (k1 : ClassId) (x2 : Addr) (r2 : Addr) (t2 : Addr) (k2 : ClassId) (z5 : Int32) (v : Option Value) (h : Heap) (ms : List Addr) : Prop := (Keep h0 h []) ∧ (ms = []) ∧ (v = some (.int 1))
set_option maxRecDepth 65536 in
set_option maxHeartbeats 40000000 in
theorem own_ct_law (l : Launch) (Z : State) (a0 : Array Value) (hw : ∀ d ∈ tables_1, d.before a0 Z = true) (EL : List (String × Nat)) (hE : EW Z a0 EL) (n0 : Nat) (ws : List Jvm.Cond) (h0 : Heap) (O : Old Z n0 h0) (i0 : Int32) (i1 : Int32) (i2 : Int32) (i3 : Int32) (zv : Addr) (kv : ClassId) (em : Addr) (x0 : Addr) (r0 : Addr) (t0 : Addr) (k0 : ClassId) (x1 : Addr) (r1 : Addr) (t1 : Addr) (k1 : ClassId) (x2 : Addr) (r2 : Addr) (t2 : Addr) (k2 : ClassId) (z5 : Int32) (S__VALUES : Sta Z Z.heap "com/example/coretally/coretally/estate/Region" "$VALUES" "[Lcom/example/coretally/coretally/estate/Region;" (.ref zv)) (ZE_zv : Exa Z Z.heap zv "[Lcom/example/coretally/coretally/estate/Region;") (ZA_zv : Arv Z Z.heap zv kv (.object "com/example/coretally/coretally/estate/Region") (3 : Int32) [(.ref x0), (.ref x1), (.ref x2)] .null) (S_EMPTY : Sta Z Z.heap "java/util/Optional" "EMPTY" "Ljava/util/Optional;" (.ref em)) (ZE_em : Exa Z Z.heap em "java/util/Optional") (ZF_em_value : Fld Z Z.heap em "java/util/Optional" "value" "Ljava/lang/Object;" .null) (ZE_x0 : Exa Z Z.heap x0 "com/example/coretally/coretally/estate/Region") (ZF_x0_written : Fld Z Z.heap x0 "com/example/coretally/coretally/estate/Region" "written" "Ljava/lang/String;" (.ref r0)) (ZE_r0 : Exa Z Z.heap r0 "java/lang/String") (ZF_r0_coder : Fld Z Z.heap r0 "java/lang/String" "coder" "B" (.int 0)) (ZF_r0_value : Fld Z Z.heap r0 "java/lang/String" "value" "[B" (.ref t0)) (ZA_t0 : Arv Z Z.heap t0 k0 .byte (1 : Int32) [(.int 49)] (.int 0)) (ZE_x1 : Exa Z Z.heap x1 "com/example/coretally/coretally/estate/Region") (ZF_x1_written : Fld Z Z.heap x1 "com/example/coretally/coretally/estate/Region" "written" "Ljava/lang/String;" (.ref r1)) (ZE_r1 : Exa Z Z.heap r1 "java/lang/String") (ZF_r1_coder : Fld Z Z.heap r1 "java/lang/String" "coder" "B" (.int 0)) (ZF_r1_value : Fld Z Z.heap r1 "java/lang/String" "value" "[B" (.ref t1)) (ZA_t1 : Arv Z Z.heap t1 k1 .byte (1 : Int32) [(.int 50)] (.int 0)) (ZE_x2 : Exa Z Z.heap x2 "com/example/coretally/coretally/estate/Region") (ZF_x2_written : Fld Z Z.heap x2 "com/example/coretally/coretally/estate/Region" "written" "Ljava/lang/String;" (.ref r2)) (ZE_r2 : Exa Z Z.heap r2 "java/lang/String") (ZF_r2_coder : Fld Z Z.heap r2 "java/lang/String" "coder" "B" (.int 0)) (ZF_r2_value : Fld Z Z.heap r2 "java/lang/String" "value" "[B" (.ref t2)) (ZA_t2 : Arv Z Z.heap t2 k2 .byte (1 : Int32) [(.int 51)] (.int 0)) (S_AMERICAS : Sta Z Z.heap "com/example/coretally/coretally/estate/Region" "AMERICAS" "Lcom/example/coretally/coretally/estate/Region;" (.ref x0)) (S_EUROPE_AND_AFRICA : Sta Z Z.heap "com/example/coretally/coretally/estate/Region" "EUROPE_AND_AFRICA" "Lcom/example/coretally/coretally/estate/Region;" (.ref x1)) (S_ASIA_AND_AUSTRALIA : Sta Z Z.heap "com/example/coretally/coretally/estate/Region" "ASIA_AND_AUSTRALIA" "Lcom/example/coretally/coretally/estate/Region;" (.ref x2)) (S_COMPACT_STRINGS : Sta Z Z.heap "java/lang/String" "COMPACT_STRINGS" "Z" (.int z5)) (P5 : ¬ z5 = 0) (hEL : ("java/lang/String", 7) ∈ EL) :
    own_Ct l Z EL n0 x code maxLocals ret ws room_1 #[(.int i0), (.int i1), (.int i2), (.int i3)] h0 [] (own_Q_law Z h0 i0 i1 i2 i3 zv kv em x0 r0 t0 k0 x1 r1 t1 k1 x2 r2 t2 k2 z5) := by
  refine own_enter (a0 := a0) own_pf10 hE O fun p e s m below meth c T0 w0 => ?_
  rw [own_ef_law m i0 i1 i2 i3]
  have K : Keep h0 h0 [] := Keep.refl _ _
  refine own_iloadN (pc' := 1) w0 own_d10_0 rfl rfl ?_
  refine own_iconst (pc' := 2) w0 own_d10_1 (x := (3 : Int32)) rfl rfl ?_
  refine own_iand (pc' := 3) w0 own_d10_2 (z := (i0 &&& (3 : Int32))) rfl rfl ?_
  refine own_istore (pc' := 5) w0 own_d10_3 (Ls' := #[.val (.int i0), .val (.int i1), .val (.int i2), .val (.int i3), .val (.int (i0 &&& (3 : Int32))), .unset, .unset, .unset, .unset, .unset, .unset, .unset]) rfl rfl ?_
  refine own_iloadN (pc' := 6) w0 own_d10_5 rfl rfl ?_
  refine own_callS (pc' := 9) w0 (hw _ (List.mem_of_getElem? (i := 0) rfl)) (hw _ (List.mem_of_getElem? (i := 1) rfl)) (hw _ (List.mem_of_getElem? (i := 2) rfl)) (hw _ (List.mem_of_getElem? (i := 3) rfl)) (by decide) (own_ct_draw l Z a0 hw EL hE n0 [] h0 (own_old w0) i1 ) all0 (argsL := [(.int i1)]) (rest := []) rfl rfl own_pd7 rfl own_d10_6 rfl (by decide) (W := 0) rfl (by decide) (by decide) (by decide) fun T1 h3 v4 ms5 w2 q6 => ?_
  obtain ⟨rfl, rfl, ch_7, rfl, p6_draw_0⟩ := q6
  show own_Go Z EL n0 p e below s _ _ _ (T1.setTop (mkF m 9 #[.val (.int i0), .val (.int i1), .val (.int i2), .val (.int i3), .val (.int (i0 &&& (3 : Int32))), .unset, .unset, .unset, .unset, .unset, .unset, .unset] [(.int ch_7)]))
  refine own_istore (pc' := 11) w2 own_d10_9 (Ls' := #[.val (.int i0), .val (.int i1), .val (.int i2), .val (.int i3), .val (.int (i0 &&& (3 : Int32))), .val (.int ch_7), .unset, .unset, .unset, .unset, .unset, .unset]) rfl rfl ?_
  refine own_iloadN (pc' := 12) w2 own_d10_11 rfl rfl ?_
  refine own_callS (pc' := 15) w2 (hw _ (List.mem_of_getElem? (i := 0) rfl)) (hw _ (List.mem_of_getElem? (i := 1) rfl)) (hw _ (List.mem_of_getElem? (i := 2) rfl)) (hw _ (List.mem_of_getElem? (i := 3) rfl)) (by decide) (own_ct_draw l Z a0 hw EL hE n0 [] h0 (own_old w2) i2 ) all0 (argsL := [(.int i2)]) (rest := []) rfl rfl own_pd7 rfl own_d10_12 rfl (by decide) (W := 0) rfl (by decide) (by decide) (by decide) fun T8 h10 v11 ms12 w9 q13 => ?_
  obtain ⟨rfl, rfl, ch_14, rfl, p12_draw_0⟩ := q13
  show own_Go Z EL n0 p e below s _ _ _ (T8.setTop (mkF m 15 #[.val (.int i0), .val (.int i1), .val (.int i2), .val (.int i3), .val (.int (i0 &&& (3 : Int32))), .val (.int ch_7), .unset, .unset, .unset, .unset, .unset, .unset] [(.int ch_14)]))
  refine own_istore (pc' := 17) w9 own_d10_15 (Ls' := #[.val (.int i0), .val (.int i1), .val (.int i2), .val (.int i3), .val (.int (i0 &&& (3 : Int32))), .val (.int ch_7), .val (.int ch_14), .unset, .unset, .unset, .unset, .unset]) rfl rfl ?_
  refine own_iloadN (pc' := 18) w9 own_d10_17 rfl rfl ?_
  refine own_callS (pc' := 21) w9 (hw _ (List.mem_of_getElem? (i := 0) rfl)) (hw _ (List.mem_of_getElem? (i := 1) rfl)) (hw _ (List.mem_of_getElem? (i := 2) rfl)) (hw _ (List.mem_of_getElem? (i := 3) rfl)) (by decide) (own_ct_draw l Z a0 hw EL hE n0 [] h0 (own_old w9) i3 ) all0 (argsL := [(.int i3)]) (rest := []) rfl rfl own_pd7 rfl own_d10_18 rfl (by decide) (W := 0) rfl (by decide) (by decide) (by decide) fun T15 h17 v18 ms19 w16 q20 => ?_
  obtain ⟨rfl, rfl, ch_21, rfl, p18_draw_0⟩ := q20
  show own_Go Z EL n0 p e below s _ _ _ (T15.setTop (mkF m 21 #[.val (.int i0), .val (.int i1), .val (.int i2), .val (.int i3), .val (.int (i0 &&& (3 : Int32))), .val (.int ch_7), .val (.int ch_14), .unset, .unset, .unset, .unset, .unset] [(.int ch_21)]))
  refine own_istore (pc' := 23) w16 own_d10_21 (Ls' := #[.val (.int i0), .val (.int i1), .val (.int i2), .val (.int i3), .val (.int (i0 &&& (3 : Int32))), .val (.int ch_7), .val (.int ch_14), .val (.int ch_21), .unset, .unset, .unset, .unset]) rfl rfl ?_
  refine own_iload (pc' := 25) w16 own_d10_23 rfl rfl ?_
  refine own_if (pc' := 28) w16 own_d10_25 rfl (by decide) (pcY := 43) rfl (fun (hb25 : ¬ (i0 &&& (3 : Int32)) = (0 : Int32)) => ?_) (fun (hb25 : (i0 &&& (3 : Int32)) = (0 : Int32)) => ?_)
  · -- t
    refine own_iload (pc' := 45) w16 own_d10_43 rfl rfl ?_
    refine own_iconst (pc' := 46) w16 own_d10_45 (x := (1 : Int32)) rfl rfl ?_
    refine own_icmp (pc' := 49) w16 own_d10_46 rfl (by decide) (pcY := 69) rfl (fun (hb46 : ¬ (i0 &&& (3 : Int32)) = (1 : Int32)) => ?_) (fun (hb46 : (i0 &&& (3 : Int32)) = (1 : Int32)) => ?_)
    · -- tt
      refine own_iload (pc' := 71) w16 own_d10_69 rfl rfl ?_
      refine own_iconst (pc' := 72) w16 own_d10_71 (x := (2 : Int32)) rfl rfl ?_
      refine own_icmp (pc' := 75) w16 own_d10_72 rfl (by decide) (pcY := 100) rfl (fun (hb72 : ¬ (i0 &&& (3 : Int32)) = (2 : Int32)) => ?_) (fun (hb72 : (i0 &&& (3 : Int32)) = (2 : Int32)) => ?_)
      · -- ttt
        refine own_newO (pc' := 103) w16 (hw _ (List.mem_of_getElem? (i := 4) rfl)) (hw _ (List.mem_of_getElem? (i := 5) rfl)) (hw _ (List.mem_of_getElem? (i := 6) rfl)) own_d10_100 rfl (by decide) (by decide) fun T22 h24 a26 g_a26 w23 E25 ⟨E_a26, D27⟩ => ?_
        have nw_a26 : h0.size ≤ a26 := Nat.le_trans K.1 (Nat.le_of_eq g_a26)
        replace K := K.ext E25
        have F_a26_value : Fld Z h24 a26 "java/lang/String" "value" "[B" .null := D27 (Or.inr (hw _ (List.mem_of_getElem? (i := 20) rfl))) (ty := (.array .byte)) (by decide)
        have F_a26_coder : Fld Z h24 a26 "java/lang/String" "coder" "B" (.int 0) := D27 (Or.inr (hw _ (List.mem_of_getElem? (i := 21) rfl))) (ty := .byte) (by decide)
        refine own_dup (pc' := 104) w23 own_d10_103 rfl rfl ?_
        refine own_iconst (pc' := 105) w23 own_d10_104 (x := (3 : Int32)) rfl rfl ?_
        refine own_newP (pc' := 107) w23 (vs := [(.int 0), (.int 0), (.int 0)]) (dv := (.int 0)) (cap := 3) (hw _ (List.mem_of_getElem? (i := 7) rfl)) own_d10_105 rfl (by decide) (by decide) (by decide) rfl (own_rep 3 (.int 0)) (by decide) (by decide) fun T28 h30 a32 g_a32 w29 E31 ⟨k_a32, A_a32⟩ => ?_
        have ne_a26_a32 : a26 ≠ a32 := Nat.ne_of_lt (Nat.lt_of_lt_of_le E_a26.lt (Nat.le_of_eq g_a32))
        have nw_a32 : h0.size ≤ a32 := Nat.le_trans K.1 (Nat.le_of_eq g_a32)
        replace E_a26 := E_a26.ext E31
        replace F_a26_value := F_a26_value.ext E31
        replace F_a26_coder := F_a26_coder.ext E31
        replace K := K.ext E31
        refine own_dup (pc' := 108) w29 own_d10_107 rfl rfl ?_
        refine own_iconst (pc' := 109) w29 own_d10_108 (x := (0 : Int32)) rfl rfl ?_
        refine own_iload (pc' := 111) w29 own_d10_109 rfl rfl ?_
        refine own_stC (pc' := 112) w29 (i := 0) (xv := (.int ch_7)) (vs' := [(.int ch_7), (.int 0), (.int 0)]) (by simp) A_a32 (by decide) rfl (Nat.lt_of_sub_eq_succ rfl) (own_ncB p6_draw_0) (own_fcB p6_draw_0) rfl own_d10_111 rfl fun T33 h35 w34 W36 A_new => ?_
        clear A_a32
        replace E_a26 := E_a26.wr W36
        replace F_a26_value := F_a26_value.other W36 (Or.inl ne_a26_a32)
        replace F_a26_coder := F_a26_coder.other W36 (Or.inl ne_a26_a32)
        replace K := K.wr W36 (Or.inr nw_a32)
        have A_a32 := A_new
        clear A_new
        refine own_dup (pc' := 113) w34 own_d10_112 rfl rfl ?_
        refine own_iconst (pc' := 114) w34 own_d10_113 (x := (1 : Int32)) rfl rfl ?_
        refine own_iload (pc' := 116) w34 own_d10_114 rfl rfl ?_
        refine own_stC (pc' := 117) w34 (i := 1) (xv := (.int ch_14)) (vs' := [(.int ch_7), (.int ch_14), (.int 0)]) (by simp) A_a32 (by decide) rfl (Nat.lt_of_sub_eq_succ rfl) (own_ncB p12_draw_0) (own_fcB p12_draw_0) rfl own_d10_116 rfl fun T37 h39 w38 W40 A_new => ?_
        clear A_a32
        replace E_a26 := E_a26.wr W40
        replace F_a26_value := F_a26_value.other W40 (Or.inl ne_a26_a32)
        replace F_a26_coder := F_a26_coder.other W40 (Or.inl ne_a26_a32)
        replace K := K.wr W40 (Or.inr nw_a32)
        have A_a32 := A_new
        clear A_new
        refine own_dup (pc' := 118) w38 own_d10_117 rfl rfl ?_
        refine own_iconst (pc' := 119) w38 own_d10_118 (x := (2 : Int32)) rfl rfl ?_
        refine own_iload (pc' := 121) w38 own_d10_119 rfl rfl ?_
        refine own_stC (pc' := 122) w38 (i := 2) (xv := (.int ch_21)) (vs' := [(.int ch_7), (.int ch_14), (.int ch_21)]) (by simp) A_a32 (by decide) rfl (Nat.lt_of_sub_eq_succ rfl) (own_ncB p18_draw_0) (own_fcB p18_draw_0) rfl own_d10_121 rfl fun T41 h43 w42 W44 A_new => ?_
        clear A_a32
        replace E_a26 := E_a26.wr W44
        replace F_a26_value := F_a26_value.other W44 (Or.inl ne_a26_a32)
        replace F_a26_coder := F_a26_coder.other W44 (Or.inl ne_a26_a32)
        replace K := K.wr W44 (Or.inr nw_a32)
        have A_a32 := A_new
        clear A_new
        refine own_callIB (pc' := 125) w42 (bytes' := jdk_42_method_3_code) rfl (hw _ (List.mem_of_getElem? (i := 8) rfl)) (hw _ (List.mem_of_getElem? (i := 9) rfl)) (hw _ (List.mem_of_getElem? (i := 10) rfl)) (by decide) (fun s' hZ' => StrChars.Road.backV (W := 1) hZ' (own_hws hw) (kI := 4) (hw _ (List.mem_of_getElem? (i := 5) rfl)) (cs := [ch_7, ch_14, ch_21]) (n := 3) (n0 := n0) (own_mine w42 a26 (by simp)).1 (own_n0 (own_old w42)) E_a26 F_a26_value F_a26_coder A_a32 (S_COMPACT_STRINGS.ext (own_old w42).2) P5 rfl rfl (by decide) (by decide) (own_allS p6_draw_0 (own_allS p12_draw_0 (own_allS p18_draw_0 own_all0))) rfl (by decide) (by decide)) (ws := [a26]) (allS (P := fun x => x ∈ _) (by simp) all0) (fun v h' L q => ⟨q.2.2.1, q.2.1⟩) (argsL := [.ref a32]) (rest := [(.ref a26)]) rfl rfl own_pd8 rfl own_d10_122 rfl (Nat.le_of_eq rfl) (by decide) (by decide) fun T45 h47 v48 w46 K49 q50 => ?_
        obtain ⟨_, rfl, -, -, nw_E, nw_C, t51, kb52, -, le_t51, ne_t51, nw_V, nw_A⟩ := q50
        have ne_a26_t51 : a26 ≠ t51 := Nat.ne_of_lt (Nat.lt_of_lt_of_le E_a26.lt le_t51)
        have ne_a32_t51 : a32 ≠ t51 := Nat.ne_of_lt (Nat.lt_of_lt_of_le A_a32.lt le_t51)
        have nw_t51 : h0.size ≤ t51 := Nat.le_trans K.1 le_t51
        replace A_a32 := A_a32.keep K49 (ninS (Ne.symm ne_a26_a32) nin0)
        replace K := K.trans K49 (allS (P := fun x => x ∈ ([] : List Addr) ∨ h0.size ≤ x) (Or.inr nw_a26) all0)
        have E_a26 := nw_E; have F_a26_coder := nw_C; have F_a26_value := nw_V; have A_t51 := nw_A; clear nw_E nw_C nw_V nw_A
        show own_Go Z EL n0 p e below s _ _ _ (T45.setTop (mkF m 125 #[.val (.int i0), .val (.int i1), .val (.int i2), .val (.int i3), .val (.int (i0 &&& (3 : Int32))), .val (.int ch_7), .val (.int ch_14), .val (.int ch_21), .unset, .unset, .unset, .unset] [(.ref a26)]))
        refine own_astore (pc' := 127) w46 own_d10_125 rfl (Ls' := #[.val (.int i0), .val (.int i1), .val (.int i2), .val (.int i3), .val (.int (i0 &&& (3 : Int32))), .val (.int ch_7), .val (.int ch_14), .val (.int ch_21), .val (.ref a26), .unset, .unset, .unset]) rfl rfl ?_
        refine own_aconstNull (pc' := 128) w46 own_d10_127 rfl ?_
        refine own_astore (pc' := 130) w46 own_d10_128 rfl (Ls' := #[.val (.int i0), .val (.int i1), .val (.int i2), .val (.int i3), .val (.int (i0 &&& (3 : Int32))), .val (.int ch_7), .val (.int ch_14), .val (.int ch_21), .val (.ref a26), .val .null, .unset, .unset]) rfl rfl ?_
        refine own_iload (pc' := 132) w46 own_d10_130 rfl rfl ?_
        refine own_iconst (pc' := 133) w46 own_d10_132 (x := (1 : Int32)) rfl rfl ?_
        refine own_icmp (pc' := 136) w46 own_d10_133 rfl (by decide) (pcY := 178) rfl (fun (hb133 : ¬ (i0 &&& (3 : Int32)) = (1 : Int32)) => ?_) (fun (hb133 : (i0 &&& (3 : Int32)) = (1 : Int32)) => absurd hb133 hb46)
        refine own_aload (pc' := 180) w46 own_d10_178 rfl rfl rfl ?_
        refine own_callS (pc' := 183) w46 (hw _ (List.mem_of_getElem? (i := 26) rfl)) (hw _ (List.mem_of_getElem? (i := 27) rfl)) (hw _ (List.mem_of_getElem? (i := 28) rfl)) (hw _ (List.mem_of_getElem? (i := 29) rfl)) (by decide) (own_ct_enumOf l Z a0 hw EL hE n0 [] h47 (own_old w46) a26 zv kv em x0 r0 t0 k0 x1 r1 t1 k1 x2 r2 t2 k2 z5 t51 kb52 (3 : Int32) ((([ch_7, ch_14, ch_21] : List Int32).map (fun c => c.toInt8.toInt32)).map Value.int) ([ch_7, ch_14, ch_21] : List Int32) S__VALUES ZE_zv ZA_zv S_EMPTY ZE_em ZF_em_value ZE_x0 ZF_x0_written ZE_r0 ZF_r0_coder ZF_r0_value ZA_t0 ZE_x1 ZF_x1_written ZE_r1 ZF_r1_coder ZF_r1_value ZA_t1 ZE_x2 ZF_x2_written ZE_r2 ZF_r2_coder ZF_r2_value ZA_t2 E_a26 F_a26_coder F_a26_value A_t51 S_COMPACT_STRINGS (P5) (own_cod (cs := [ch_7, ch_14, ch_21]) (n := 3) rfl (own_allS p6_draw_0 (own_allS p12_draw_0 (own_allS p18_draw_0 own_all0)))) (own_up [ch_7, ch_14, ch_21] (own_allS p6_draw_0 (own_allS p12_draw_0 (own_allS p18_draw_0 own_all0)))) (Nat.le_of_ble_eq_true rfl)) all0 (argsL := [(.ref a26)]) (rest := []) rfl rfl own_pd9 rfl own_d10_180 rfl (by decide) (W := 0) rfl (by decide) (by decide) (by decide) fun T53 h55 v56 ms57 w54 q58 => ?_
        obtain ⟨K61, o1_59, o2_60, rfl, rfl, nw_E_o1_59, nw_F_o1_59_value, p180_enumOf_0, p180_enumOf_1, p180_enumOf_2, p180_enumOf_3, p180_enumOf_4⟩ := q58
        replace A_a32 := A_a32.keep K61 nin0
        replace E_a26 := E_a26.keep K61
        replace F_a26_coder := F_a26_coder.keep K61 nin0
        replace F_a26_value := F_a26_value.keep K61 nin0
        replace A_t51 := A_t51.keep K61 nin0
        replace K := K.trans K61 all0
        have E_o1_59 := nw_E_o1_59; clear nw_E_o1_59
        have F_o1_59_value := nw_F_o1_59_value; clear nw_F_o1_59_value
        show own_Go Z EL n0 p e below s _ _ _ (T53.setTop (mkF m 183 #[.val (.int i0), .val (.int i1), .val (.int i2), .val (.int i3), .val (.int (i0 &&& (3 : Int32))), .val (.int ch_7), .val (.int ch_14), .val (.int ch_21), .val (.ref a26), .val .null, .unset, .unset] [(.ref o1_59)]))
        have ho2 : o2_60 = .null := p180_enumOf_4 (by intro q; simp at q) (by intro q; simp at q) (by intro q; simp at q)
        subst ho2
        refine own_astore (pc' := 185) w54 own_d10_183 rfl (Ls' := #[.val (.int i0), .val (.int i1), .val (.int i2), .val (.int i3), .val (.int (i0 &&& (3 : Int32))), .val (.int ch_7), .val (.int ch_14), .val (.int ch_21), .val (.ref a26), .val .null, .val (.ref o1_59), .unset]) rfl rfl ?_
        refine own_aload (pc' := 187) w54 own_d10_185 rfl rfl rfl ?_
        refine own_aconstNull (pc' := 188) w54 own_d10_187 rfl ?_
        refine own_callV (pc' := 191) w54 (hw _ (List.mem_of_getElem? (i := 66) rfl)) (hw _ (List.mem_of_getElem? (i := 67) rfl)) (fun s' hZ' => notFace_of_selects (args := #[]) (mvT hZ' (hw _ (List.mem_of_getElem? (i := 69) rfl)))) (hw _ (List.mem_of_getElem? (i := 69) rfl)) (hw _ (List.mem_of_getElem? (i := 68) rfl)) (hw _ (List.mem_of_getElem? (i := 32) rfl)) (hw _ (List.mem_of_getElem? (i := 70) rfl)) (by decide) E_o1_59 (own_ct_orElse l Z a0 hw EL hE n0 [] h55 (own_old w54) o1_59 .null F_o1_59_value (rfl)) all0 (argsL := [.null]) (rest := []) rfl rfl own_pd1 rfl own_d10_188 rfl (by decide) (W := 0) rfl (by decide) (by decide) (by decide) fun T62 h64 v65 ms66 w63 q67 => ?_
        obtain ⟨rfl, rfl, rfl⟩ := q67
        show own_Go Z EL n0 p e below s _ _ _ (T62.setTop (mkF m 191 #[.val (.int i0), .val (.int i1), .val (.int i2), .val (.int i3), .val (.int (i0 &&& (3 : Int32))), .val (.int ch_7), .val (.int ch_14), .val (.int ch_21), .val (.ref a26), .val .null, .val (.ref o1_59), .unset] [.null]))
        refine own_castN (pc' := 194) w63 own_d10_191 rfl ?_
        refine own_astore (pc' := 196) w63 own_d10_194 rfl (Ls' := #[.val (.int i0), .val (.int i1), .val (.int i2), .val (.int i3), .val (.int (i0 &&& (3 : Int32))), .val (.int ch_7), .val (.int ch_14), .val (.int ch_21), .val (.ref a26), .val .null, .val (.ref o1_59), .val .null]) rfl rfl ?_
        refine own_aload (pc' := 198) w63 own_d10_196 rfl rfl rfl ?_
        refine own_aload (pc' := 200) w63 own_d10_198 rfl rfl rfl ?_
        refine own_acmp (pc' := 203) w63 rfl rfl own_d10_200 rfl (by decide) (pcY := 207) rfl (fun (hb200 : ¬ (.null : Value) = .null) => absurd rfl hb200) (fun (hb200 : (.null : Value) = .null) => ?_)
        refine own_iconst (pc' := 204) w63 own_d10_203 (x := (1 : Int32)) rfl rfl ?_
        refine own_goto w63 own_d10_204 (by decide) (pc' := 208) rfl ?_
        exact own_retV w63 (t := .boolean) rfl rfl (Or.inl ⟨rfl, by simp, _, rfl⟩) own_d10_208 (by decide) (by decide) (ms' := []) all0 ⟨K, rfl, rfl⟩
      · -- ttf
        refine own_newO (pc' := 78) w16 (hw _ (List.mem_of_getElem? (i := 4) rfl)) (hw _ (List.mem_of_getElem? (i := 5) rfl)) (hw _ (List.mem_of_getElem? (i := 6) rfl)) own_d10_75 rfl (by decide) (by decide) fun T68 h70 a72 g_a72 w69 E71 ⟨E_a72, D73⟩ => ?_
        have nw_a72 : h0.size ≤ a72 := Nat.le_trans K.1 (Nat.le_of_eq g_a72)
        replace K := K.ext E71
        have F_a72_value : Fld Z h70 a72 "java/lang/String" "value" "[B" .null := D73 (Or.inr (hw _ (List.mem_of_getElem? (i := 20) rfl))) (ty := (.array .byte)) (by decide)
        have F_a72_coder : Fld Z h70 a72 "java/lang/String" "coder" "B" (.int 0) := D73 (Or.inr (hw _ (List.mem_of_getElem? (i := 21) rfl))) (ty := .byte) (by decide)
        refine own_dup (pc' := 79) w69 own_d10_78 rfl rfl ?_
        refine own_iconst (pc' := 80) w69 own_d10_79 (x := (2 : Int32)) rfl rfl ?_
        refine own_newP (pc' := 82) w69 (vs := [(.int 0), (.int 0)]) (dv := (.int 0)) (cap := 2) (hw _ (List.mem_of_getElem? (i := 7) rfl)) own_d10_80 rfl (by decide) (by decide) (by decide) rfl (own_rep 2 (.int 0)) (by decide) (by decide) fun T74 h76 a78 g_a78 w75 E77 ⟨k_a78, A_a78⟩ => ?_
        have ne_a72_a78 : a72 ≠ a78 := Nat.ne_of_lt (Nat.lt_of_lt_of_le E_a72.lt (Nat.le_of_eq g_a78))
        have nw_a78 : h0.size ≤ a78 := Nat.le_trans K.1 (Nat.le_of_eq g_a78)
        replace E_a72 := E_a72.ext E77
        replace F_a72_value := F_a72_value.ext E77
        replace F_a72_coder := F_a72_coder.ext E77
        replace K := K.ext E77
        refine own_dup (pc' := 83) w75 own_d10_82 rfl rfl ?_
        refine own_iconst (pc' := 84) w75 own_d10_83 (x := (0 : Int32)) rfl rfl ?_
        refine own_iload (pc' := 86) w75 own_d10_84 rfl rfl ?_
        refine own_stC (pc' := 87) w75 (i := 0) (xv := (.int ch_7)) (vs' := [(.int ch_7), (.int 0)]) (by simp) A_a78 (by decide) rfl (Nat.lt_of_sub_eq_succ rfl) (own_ncB p6_draw_0) (own_fcB p6_draw_0) rfl own_d10_86 rfl fun T79 h81 w80 W82 A_new => ?_
        clear A_a78
        replace E_a72 := E_a72.wr W82
        replace F_a72_value := F_a72_value.other W82 (Or.inl ne_a72_a78)
        replace F_a72_coder := F_a72_coder.other W82 (Or.inl ne_a72_a78)
        replace K := K.wr W82 (Or.inr nw_a78)
        have A_a78 := A_new
        clear A_new
        refine own_dup (pc' := 88) w80 own_d10_87 rfl rfl ?_
        refine own_iconst (pc' := 89) w80 own_d10_88 (x := (1 : Int32)) rfl rfl ?_
        refine own_iload (pc' := 91) w80 own_d10_89 rfl rfl ?_
        refine own_stC (pc' := 92) w80 (i := 1) (xv := (.int ch_14)) (vs' := [(.int ch_7), (.int ch_14)]) (by simp) A_a78 (by decide) rfl (Nat.lt_of_sub_eq_succ rfl) (own_ncB p12_draw_0) (own_fcB p12_draw_0) rfl own_d10_91 rfl fun T83 h85 w84 W86 A_new => ?_
        clear A_a78
        replace E_a72 := E_a72.wr W86
        replace F_a72_value := F_a72_value.other W86 (Or.inl ne_a72_a78)
        replace F_a72_coder := F_a72_coder.other W86 (Or.inl ne_a72_a78)
        replace K := K.wr W86 (Or.inr nw_a78)
        have A_a78 := A_new
        clear A_new
        refine own_callIB (pc' := 95) w84 (bytes' := jdk_42_method_3_code) rfl (hw _ (List.mem_of_getElem? (i := 8) rfl)) (hw _ (List.mem_of_getElem? (i := 9) rfl)) (hw _ (List.mem_of_getElem? (i := 10) rfl)) (by decide) (fun s' hZ' => StrChars.Road.backV (W := 1) hZ' (own_hws hw) (kI := 4) (hw _ (List.mem_of_getElem? (i := 5) rfl)) (cs := [ch_7, ch_14]) (n := 2) (n0 := n0) (own_mine w84 a72 (by simp)).1 (own_n0 (own_old w84)) E_a72 F_a72_value F_a72_coder A_a78 (S_COMPACT_STRINGS.ext (own_old w84).2) P5 rfl rfl (by decide) (by decide) (own_allS p6_draw_0 (own_allS p12_draw_0 own_all0)) rfl (by decide) (by decide)) (ws := [a72]) (allS (P := fun x => x ∈ _) (by simp) all0) (fun v h' L q => ⟨q.2.2.1, q.2.1⟩) (argsL := [.ref a78]) (rest := [(.ref a72)]) rfl rfl own_pd8 rfl own_d10_92 rfl (Nat.le_of_eq rfl) (by decide) (by decide) fun T87 h89 v90 w88 K91 q92 => ?_
        obtain ⟨_, rfl, -, -, nw_E, nw_C, t93, kb94, -, le_t93, ne_t93, nw_V, nw_A⟩ := q92
        have ne_a72_t93 : a72 ≠ t93 := Nat.ne_of_lt (Nat.lt_of_lt_of_le E_a72.lt le_t93)
        have ne_a78_t93 : a78 ≠ t93 := Nat.ne_of_lt (Nat.lt_of_lt_of_le A_a78.lt le_t93)
        have nw_t93 : h0.size ≤ t93 := Nat.le_trans K.1 le_t93
        replace A_a78 := A_a78.keep K91 (ninS (Ne.symm ne_a72_a78) nin0)
        replace K := K.trans K91 (allS (P := fun x => x ∈ ([] : List Addr) ∨ h0.size ≤ x) (Or.inr nw_a72) all0)
        have E_a72 := nw_E; have F_a72_coder := nw_C; have F_a72_value := nw_V; have A_t93 := nw_A; clear nw_E nw_C nw_V nw_A
        show own_Go Z EL n0 p e below s _ _ _ (T87.setTop (mkF m 95 #[.val (.int i0), .val (.int i1), .val (.int i2), .val (.int i3), .val (.int (i0 &&& (3 : Int32))), .val (.int ch_7), .val (.int ch_14), .val (.int ch_21), .unset, .unset, .unset, .unset] [(.ref a72)]))
        refine own_astore (pc' := 97) w88 own_d10_95 rfl (Ls' := #[.val (.int i0), .val (.int i1), .val (.int i2), .val (.int i3), .val (.int (i0 &&& (3 : Int32))), .val (.int ch_7), .val (.int ch_14), .val (.int ch_21), .val (.ref a72), .unset, .unset, .unset]) rfl rfl ?_
        refine own_goto w88 own_d10_97 (by decide) (pc' := 127) rfl ?_
        refine own_aconstNull (pc' := 128) w88 own_d10_127 rfl ?_
        refine own_astore (pc' := 130) w88 own_d10_128 rfl (Ls' := #[.val (.int i0), .val (.int i1), .val (.int i2), .val (.int i3), .val (.int (i0 &&& (3 : Int32))), .val (.int ch_7), .val (.int ch_14), .val (.int ch_21), .val (.ref a72), .val .null, .unset, .unset]) rfl rfl ?_
        refine own_iload (pc' := 132) w88 own_d10_130 rfl rfl ?_
        refine own_iconst (pc' := 133) w88 own_d10_132 (x := (1 : Int32)) rfl rfl ?_
        refine own_icmp (pc' := 136) w88 own_d10_133 rfl (by decide) (pcY := 178) rfl (fun (hb133 : ¬ (i0 &&& (3 : Int32)) = (1 : Int32)) => ?_) (fun (hb133 : (i0 &&& (3 : Int32)) = (1 : Int32)) => absurd hb133 hb46)
        refine own_aload (pc' := 180) w88 own_d10_178 rfl rfl rfl ?_
        refine own_callS (pc' := 183) w88 (hw _ (List.mem_of_getElem? (i := 26) rfl)) (hw _ (List.mem_of_getElem? (i := 27) rfl)) (hw _ (List.mem_of_getElem? (i := 28) rfl)) (hw _ (List.mem_of_getElem? (i := 29) rfl)) (by decide) (own_ct_enumOf l Z a0 hw EL hE n0 [] h89 (own_old w88) a72 zv kv em x0 r0 t0 k0 x1 r1 t1 k1 x2 r2 t2 k2 z5 t93 kb94 (2 : Int32) ((([ch_7, ch_14] : List Int32).map (fun c => c.toInt8.toInt32)).map Value.int) ([ch_7, ch_14] : List Int32) S__VALUES ZE_zv ZA_zv S_EMPTY ZE_em ZF_em_value ZE_x0 ZF_x0_written ZE_r0 ZF_r0_coder ZF_r0_value ZA_t0 ZE_x1 ZF_x1_written ZE_r1 ZF_r1_coder ZF_r1_value ZA_t1 ZE_x2 ZF_x2_written ZE_r2 ZF_r2_coder ZF_r2_value ZA_t2 E_a72 F_a72_coder F_a72_value A_t93 S_COMPACT_STRINGS (P5) (own_cod (cs := [ch_7, ch_14]) (n := 2) rfl (own_allS p6_draw_0 (own_allS p12_draw_0 own_all0))) (own_up [ch_7, ch_14] (own_allS p6_draw_0 (own_allS p12_draw_0 own_all0))) (Nat.le_of_ble_eq_true rfl)) all0 (argsL := [(.ref a72)]) (rest := []) rfl rfl own_pd9 rfl own_d10_180 rfl (by decide) (W := 0) rfl (by decide) (by decide) (by decide) fun T95 h97 v98 ms99 w96 q100 => ?_
        obtain ⟨K103, o1_101, o2_102, rfl, rfl, nw_E_o1_101, nw_F_o1_101_value, p180_enumOf_0, p180_enumOf_1, p180_enumOf_2, p180_enumOf_3, p180_enumOf_4⟩ := q100
        replace A_a78 := A_a78.keep K103 nin0
        replace E_a72 := E_a72.keep K103
        replace F_a72_coder := F_a72_coder.keep K103 nin0
        replace F_a72_value := F_a72_value.keep K103 nin0
        replace A_t93 := A_t93.keep K103 nin0
        replace K := K.trans K103 all0
        have E_o1_101 := nw_E_o1_101; clear nw_E_o1_101
        have F_o1_101_value := nw_F_o1_101_value; clear nw_F_o1_101_value
        show own_Go Z EL n0 p e below s _ _ _ (T95.setTop (mkF m 183 #[.val (.int i0), .val (.int i1), .val (.int i2), .val (.int i3), .val (.int (i0 &&& (3 : Int32))), .val (.int ch_7), .val (.int ch_14), .val (.int ch_21), .val (.ref a72), .val .null, .unset, .unset] [(.ref o1_101)]))
        have ho2 : o2_102 = .null := p180_enumOf_4 (by intro q; simp at q) (by intro q; simp at q) (by intro q; simp at q)
        subst ho2
        refine own_astore (pc' := 185) w96 own_d10_183 rfl (Ls' := #[.val (.int i0), .val (.int i1), .val (.int i2), .val (.int i3), .val (.int (i0 &&& (3 : Int32))), .val (.int ch_7), .val (.int ch_14), .val (.int ch_21), .val (.ref a72), .val .null, .val (.ref o1_101), .unset]) rfl rfl ?_
        refine own_aload (pc' := 187) w96 own_d10_185 rfl rfl rfl ?_
        refine own_aconstNull (pc' := 188) w96 own_d10_187 rfl ?_
        refine own_callV (pc' := 191) w96 (hw _ (List.mem_of_getElem? (i := 66) rfl)) (hw _ (List.mem_of_getElem? (i := 67) rfl)) (fun s' hZ' => notFace_of_selects (args := #[]) (mvT hZ' (hw _ (List.mem_of_getElem? (i := 69) rfl)))) (hw _ (List.mem_of_getElem? (i := 69) rfl)) (hw _ (List.mem_of_getElem? (i := 68) rfl)) (hw _ (List.mem_of_getElem? (i := 32) rfl)) (hw _ (List.mem_of_getElem? (i := 70) rfl)) (by decide) E_o1_101 (own_ct_orElse l Z a0 hw EL hE n0 [] h97 (own_old w96) o1_101 .null F_o1_101_value (rfl)) all0 (argsL := [.null]) (rest := []) rfl rfl own_pd1 rfl own_d10_188 rfl (by decide) (W := 0) rfl (by decide) (by decide) (by decide) fun T104 h106 v107 ms108 w105 q109 => ?_
        obtain ⟨rfl, rfl, rfl⟩ := q109
        show own_Go Z EL n0 p e below s _ _ _ (T104.setTop (mkF m 191 #[.val (.int i0), .val (.int i1), .val (.int i2), .val (.int i3), .val (.int (i0 &&& (3 : Int32))), .val (.int ch_7), .val (.int ch_14), .val (.int ch_21), .val (.ref a72), .val .null, .val (.ref o1_101), .unset] [.null]))
        refine own_castN (pc' := 194) w105 own_d10_191 rfl ?_
        refine own_astore (pc' := 196) w105 own_d10_194 rfl (Ls' := #[.val (.int i0), .val (.int i1), .val (.int i2), .val (.int i3), .val (.int (i0 &&& (3 : Int32))), .val (.int ch_7), .val (.int ch_14), .val (.int ch_21), .val (.ref a72), .val .null, .val (.ref o1_101), .val .null]) rfl rfl ?_
        refine own_aload (pc' := 198) w105 own_d10_196 rfl rfl rfl ?_
        refine own_aload (pc' := 200) w105 own_d10_198 rfl rfl rfl ?_
        refine own_acmp (pc' := 203) w105 rfl rfl own_d10_200 rfl (by decide) (pcY := 207) rfl (fun (hb200 : ¬ (.null : Value) = .null) => absurd rfl hb200) (fun (hb200 : (.null : Value) = .null) => ?_)
        refine own_iconst (pc' := 204) w105 own_d10_203 (x := (1 : Int32)) rfl rfl ?_
        refine own_goto w105 own_d10_204 (by decide) (pc' := 208) rfl ?_
        exact own_retV w105 (t := .boolean) rfl rfl (Or.inl ⟨rfl, by simp, _, rfl⟩) own_d10_208 (by decide) (by decide) (ms' := []) all0 ⟨K, rfl, rfl⟩
    · -- tf
      refine own_newO (pc' := 52) w16 (hw _ (List.mem_of_getElem? (i := 4) rfl)) (hw _ (List.mem_of_getElem? (i := 5) rfl)) (hw _ (List.mem_of_getElem? (i := 6) rfl)) own_d10_49 rfl (by decide) (by decide) fun T110 h112 a114 g_a114 w111 E113 ⟨E_a114, D115⟩ => ?_
      have nw_a114 : h0.size ≤ a114 := Nat.le_trans K.1 (Nat.le_of_eq g_a114)
      replace K := K.ext E113
      have F_a114_value : Fld Z h112 a114 "java/lang/String" "value" "[B" .null := D115 (Or.inr (hw _ (List.mem_of_getElem? (i := 20) rfl))) (ty := (.array .byte)) (by decide)
      have F_a114_coder : Fld Z h112 a114 "java/lang/String" "coder" "B" (.int 0) := D115 (Or.inr (hw _ (List.mem_of_getElem? (i := 21) rfl))) (ty := .byte) (by decide)
      refine own_dup (pc' := 53) w111 own_d10_52 rfl rfl ?_
      refine own_iconst (pc' := 54) w111 own_d10_53 (x := (1 : Int32)) rfl rfl ?_
      refine own_newP (pc' := 56) w111 (vs := [(.int 0)]) (dv := (.int 0)) (cap := 1) (hw _ (List.mem_of_getElem? (i := 7) rfl)) own_d10_54 rfl (by decide) (by decide) (by decide) rfl (own_rep 1 (.int 0)) (by decide) (by decide) fun T116 h118 a120 g_a120 w117 E119 ⟨k_a120, A_a120⟩ => ?_
      have ne_a114_a120 : a114 ≠ a120 := Nat.ne_of_lt (Nat.lt_of_lt_of_le E_a114.lt (Nat.le_of_eq g_a120))
      have nw_a120 : h0.size ≤ a120 := Nat.le_trans K.1 (Nat.le_of_eq g_a120)
      replace E_a114 := E_a114.ext E119
      replace F_a114_value := F_a114_value.ext E119
      replace F_a114_coder := F_a114_coder.ext E119
      replace K := K.ext E119
      refine own_dup (pc' := 57) w117 own_d10_56 rfl rfl ?_
      refine own_iconst (pc' := 58) w117 own_d10_57 (x := (0 : Int32)) rfl rfl ?_
      refine own_iload (pc' := 60) w117 own_d10_58 rfl rfl ?_
      refine own_stC (pc' := 61) w117 (i := 0) (xv := (.int ch_7)) (vs' := [(.int ch_7)]) (by simp) A_a120 (by decide) rfl (Nat.lt_of_sub_eq_succ rfl) (own_ncB p6_draw_0) (own_fcB p6_draw_0) rfl own_d10_60 rfl fun T121 h123 w122 W124 A_new => ?_
      clear A_a120
      replace E_a114 := E_a114.wr W124
      replace F_a114_value := F_a114_value.other W124 (Or.inl ne_a114_a120)
      replace F_a114_coder := F_a114_coder.other W124 (Or.inl ne_a114_a120)
      replace K := K.wr W124 (Or.inr nw_a120)
      have A_a120 := A_new
      clear A_new
      refine own_callIB (pc' := 64) w122 (bytes' := jdk_42_method_3_code) rfl (hw _ (List.mem_of_getElem? (i := 8) rfl)) (hw _ (List.mem_of_getElem? (i := 9) rfl)) (hw _ (List.mem_of_getElem? (i := 10) rfl)) (by decide) (fun s' hZ' => StrChars.Road.backV (W := 1) hZ' (own_hws hw) (kI := 4) (hw _ (List.mem_of_getElem? (i := 5) rfl)) (cs := [ch_7]) (n := 1) (n0 := n0) (own_mine w122 a114 (by simp)).1 (own_n0 (own_old w122)) E_a114 F_a114_value F_a114_coder A_a120 (S_COMPACT_STRINGS.ext (own_old w122).2) P5 rfl rfl (by decide) (by decide) (own_allS p6_draw_0 own_all0) rfl (by decide) (by decide)) (ws := [a114]) (allS (P := fun x => x ∈ _) (by simp) all0) (fun v h' L q => ⟨q.2.2.1, q.2.1⟩) (argsL := [.ref a120]) (rest := [(.ref a114)]) rfl rfl own_pd8 rfl own_d10_61 rfl (Nat.le_of_eq rfl) (by decide) (by decide) fun T125 h127 v128 w126 K129 q130 => ?_
      obtain ⟨_, rfl, -, -, nw_E, nw_C, t131, kb132, -, le_t131, ne_t131, nw_V, nw_A⟩ := q130
      have ne_a114_t131 : a114 ≠ t131 := Nat.ne_of_lt (Nat.lt_of_lt_of_le E_a114.lt le_t131)
      have ne_a120_t131 : a120 ≠ t131 := Nat.ne_of_lt (Nat.lt_of_lt_of_le A_a120.lt le_t131)
      have nw_t131 : h0.size ≤ t131 := Nat.le_trans K.1 le_t131
      replace A_a120 := A_a120.keep K129 (ninS (Ne.symm ne_a114_a120) nin0)
      replace K := K.trans K129 (allS (P := fun x => x ∈ ([] : List Addr) ∨ h0.size ≤ x) (Or.inr nw_a114) all0)
      have E_a114 := nw_E; have F_a114_coder := nw_C; have F_a114_value := nw_V; have A_t131 := nw_A; clear nw_E nw_C nw_V nw_A
      show own_Go Z EL n0 p e below s _ _ _ (T125.setTop (mkF m 64 #[.val (.int i0), .val (.int i1), .val (.int i2), .val (.int i3), .val (.int (i0 &&& (3 : Int32))), .val (.int ch_7), .val (.int ch_14), .val (.int ch_21), .unset, .unset, .unset, .unset] [(.ref a114)]))
      refine own_astore (pc' := 66) w126 own_d10_64 rfl (Ls' := #[.val (.int i0), .val (.int i1), .val (.int i2), .val (.int i3), .val (.int (i0 &&& (3 : Int32))), .val (.int ch_7), .val (.int ch_14), .val (.int ch_21), .val (.ref a114), .unset, .unset, .unset]) rfl rfl ?_
      refine own_goto w126 own_d10_66 (by decide) (pc' := 127) rfl ?_
      refine own_aconstNull (pc' := 128) w126 own_d10_127 rfl ?_
      refine own_astore (pc' := 130) w126 own_d10_128 rfl (Ls' := #[.val (.int i0), .val (.int i1), .val (.int i2), .val (.int i3), .val (.int (i0 &&& (3 : Int32))), .val (.int ch_7), .val (.int ch_14), .val (.int ch_21), .val (.ref a114), .val .null, .unset, .unset]) rfl rfl ?_
      refine own_iload (pc' := 132) w126 own_d10_130 rfl rfl ?_
      refine own_iconst (pc' := 133) w126 own_d10_132 (x := (1 : Int32)) rfl rfl ?_
      refine own_icmp (pc' := 136) w126 own_d10_133 rfl (by decide) (pcY := 178) rfl (fun (hb133 : ¬ (i0 &&& (3 : Int32)) = (1 : Int32)) => absurd hb46 hb133) (fun (hb133 : (i0 &&& (3 : Int32)) = (1 : Int32)) => ?_)
      refine own_iload (pc' := 138) w126 own_d10_136 rfl rfl ?_
      refine own_bipush (pc' := 140) w126 own_d10_138 (x := (49 : Int32)) rfl rfl ?_
      refine own_icmp (pc' := 143) w126 own_d10_140 rfl (by decide) (pcY := 151) rfl (fun (hb140 : ¬ ch_7 = (49 : Int32)) => ?_) (fun (hb140 : ch_7 = (49 : Int32)) => ?_)
      · -- tfft
        refine own_iload (pc' := 153) w126 own_d10_151 rfl rfl ?_
        refine own_bipush (pc' := 155) w126 own_d10_153 (x := (50 : Int32)) rfl rfl ?_
        refine own_icmp (pc' := 158) w126 own_d10_155 rfl (by decide) (pcY := 166) rfl (fun (hb155 : ¬ ch_7 = (50 : Int32)) => ?_) (fun (hb155 : ch_7 = (50 : Int32)) => ?_)
        · -- tfftt
          refine own_iload (pc' := 168) w126 own_d10_166 rfl rfl ?_
          refine own_bipush (pc' := 170) w126 own_d10_168 (x := (51 : Int32)) rfl rfl ?_
          refine own_icmp (pc' := 173) w126 own_d10_170 rfl (by decide) (pcY := 178) rfl (fun (hb170 : ¬ ch_7 = (51 : Int32)) => ?_) (fun (hb170 : ch_7 = (51 : Int32)) => ?_)
          · -- tffttt
            refine own_aload (pc' := 180) w126 own_d10_178 rfl rfl rfl ?_
            refine own_callS (pc' := 183) w126 (hw _ (List.mem_of_getElem? (i := 26) rfl)) (hw _ (List.mem_of_getElem? (i := 27) rfl)) (hw _ (List.mem_of_getElem? (i := 28) rfl)) (hw _ (List.mem_of_getElem? (i := 29) rfl)) (by decide) (own_ct_enumOf l Z a0 hw EL hE n0 [] h127 (own_old w126) a114 zv kv em x0 r0 t0 k0 x1 r1 t1 k1 x2 r2 t2 k2 z5 t131 kb132 (1 : Int32) ((([ch_7] : List Int32).map (fun c => c.toInt8.toInt32)).map Value.int) ([ch_7] : List Int32) S__VALUES ZE_zv ZA_zv S_EMPTY ZE_em ZF_em_value ZE_x0 ZF_x0_written ZE_r0 ZF_r0_coder ZF_r0_value ZA_t0 ZE_x1 ZF_x1_written ZE_r1 ZF_r1_coder ZF_r1_value ZA_t1 ZE_x2 ZF_x2_written ZE_r2 ZF_r2_coder ZF_r2_value ZA_t2 E_a114 F_a114_coder F_a114_value A_t131 S_COMPACT_STRINGS (P5) (own_cod (cs := [ch_7]) (n := 1) rfl (own_allS p6_draw_0 own_all0)) (own_up [ch_7] (own_allS p6_draw_0 own_all0)) (Nat.le_of_ble_eq_true rfl)) all0 (argsL := [(.ref a114)]) (rest := []) rfl rfl own_pd9 rfl own_d10_180 rfl (by decide) (W := 0) rfl (by decide) (by decide) (by decide) fun T133 h135 v136 ms137 w134 q138 => ?_
            obtain ⟨K141, o1_139, o2_140, rfl, rfl, nw_E_o1_139, nw_F_o1_139_value, p180_enumOf_0, p180_enumOf_1, p180_enumOf_2, p180_enumOf_3, p180_enumOf_4⟩ := q138
            replace A_a120 := A_a120.keep K141 nin0
            replace E_a114 := E_a114.keep K141
            replace F_a114_coder := F_a114_coder.keep K141 nin0
            replace F_a114_value := F_a114_value.keep K141 nin0
            replace A_t131 := A_t131.keep K141 nin0
            replace K := K.trans K141 all0
            have E_o1_139 := nw_E_o1_139; clear nw_E_o1_139
            have F_o1_139_value := nw_F_o1_139_value; clear nw_F_o1_139_value
            show own_Go Z EL n0 p e below s _ _ _ (T133.setTop (mkF m 183 #[.val (.int i0), .val (.int i1), .val (.int i2), .val (.int i3), .val (.int (i0 &&& (3 : Int32))), .val (.int ch_7), .val (.int ch_14), .val (.int ch_21), .val (.ref a114), .val .null, .unset, .unset] [(.ref o1_139)]))
            have ho2 : o2_140 = .null := p180_enumOf_4 (fun q => hb140 (List.cons.inj q).1) (fun q => hb155 (List.cons.inj q).1) (fun q => hb170 (List.cons.inj q).1)
            subst ho2
            refine own_astore (pc' := 185) w134 own_d10_183 rfl (Ls' := #[.val (.int i0), .val (.int i1), .val (.int i2), .val (.int i3), .val (.int (i0 &&& (3 : Int32))), .val (.int ch_7), .val (.int ch_14), .val (.int ch_21), .val (.ref a114), .val .null, .val (.ref o1_139), .unset]) rfl rfl ?_
            refine own_aload (pc' := 187) w134 own_d10_185 rfl rfl rfl ?_
            refine own_aconstNull (pc' := 188) w134 own_d10_187 rfl ?_
            refine own_callV (pc' := 191) w134 (hw _ (List.mem_of_getElem? (i := 66) rfl)) (hw _ (List.mem_of_getElem? (i := 67) rfl)) (fun s' hZ' => notFace_of_selects (args := #[]) (mvT hZ' (hw _ (List.mem_of_getElem? (i := 69) rfl)))) (hw _ (List.mem_of_getElem? (i := 69) rfl)) (hw _ (List.mem_of_getElem? (i := 68) rfl)) (hw _ (List.mem_of_getElem? (i := 32) rfl)) (hw _ (List.mem_of_getElem? (i := 70) rfl)) (by decide) E_o1_139 (own_ct_orElse l Z a0 hw EL hE n0 [] h135 (own_old w134) o1_139 .null F_o1_139_value (rfl)) all0 (argsL := [.null]) (rest := []) rfl rfl own_pd1 rfl own_d10_188 rfl (by decide) (W := 0) rfl (by decide) (by decide) (by decide) fun T142 h144 v145 ms146 w143 q147 => ?_
            obtain ⟨rfl, rfl, rfl⟩ := q147
            show own_Go Z EL n0 p e below s _ _ _ (T142.setTop (mkF m 191 #[.val (.int i0), .val (.int i1), .val (.int i2), .val (.int i3), .val (.int (i0 &&& (3 : Int32))), .val (.int ch_7), .val (.int ch_14), .val (.int ch_21), .val (.ref a114), .val .null, .val (.ref o1_139), .unset] [.null]))
            refine own_castN (pc' := 194) w143 own_d10_191 rfl ?_
            refine own_astore (pc' := 196) w143 own_d10_194 rfl (Ls' := #[.val (.int i0), .val (.int i1), .val (.int i2), .val (.int i3), .val (.int (i0 &&& (3 : Int32))), .val (.int ch_7), .val (.int ch_14), .val (.int ch_21), .val (.ref a114), .val .null, .val (.ref o1_139), .val .null]) rfl rfl ?_
            refine own_aload (pc' := 198) w143 own_d10_196 rfl rfl rfl ?_
            refine own_aload (pc' := 200) w143 own_d10_198 rfl rfl rfl ?_
            refine own_acmp (pc' := 203) w143 rfl rfl own_d10_200 rfl (by decide) (pcY := 207) rfl (fun (hb200 : ¬ (.null : Value) = .null) => absurd rfl hb200) (fun (hb200 : (.null : Value) = .null) => ?_)
            refine own_iconst (pc' := 204) w143 own_d10_203 (x := (1 : Int32)) rfl rfl ?_
            refine own_goto w143 own_d10_204 (by decide) (pc' := 208) rfl ?_
            exact own_retV w143 (t := .boolean) rfl rfl (Or.inl ⟨rfl, by simp, _, rfl⟩) own_d10_208 (by decide) (by decide) (ms' := []) all0 ⟨K, rfl, rfl⟩
          · -- tffttf
            refine own_getS (pc' := 176) w126 (host := "") (Or.inl (hw _ (List.mem_of_getElem? (i := 83) rfl))) Via.refl (S_ASIA_AND_AUSTRALIA.ext (own_old w126).2) own_d10_173 rfl fun T148 w149 => ?_
            refine own_astore (pc' := 178) w149 own_d10_176 rfl (Ls' := #[.val (.int i0), .val (.int i1), .val (.int i2), .val (.int i3), .val (.int (i0 &&& (3 : Int32))), .val (.int ch_7), .val (.int ch_14), .val (.int ch_21), .val (.ref a114), .val (.ref x2), .unset, .unset]) rfl rfl ?_
            refine own_aload (pc' := 180) w149 own_d10_178 rfl rfl rfl ?_
            refine own_callS (pc' := 183) w149 (hw _ (List.mem_of_getElem? (i := 26) rfl)) (hw _ (List.mem_of_getElem? (i := 27) rfl)) (hw _ (List.mem_of_getElem? (i := 28) rfl)) (hw _ (List.mem_of_getElem? (i := 29) rfl)) (by decide) (own_ct_enumOf l Z a0 hw EL hE n0 [] h127 (own_old w149) a114 zv kv em x0 r0 t0 k0 x1 r1 t1 k1 x2 r2 t2 k2 z5 t131 kb132 (1 : Int32) ((([ch_7] : List Int32).map (fun c => c.toInt8.toInt32)).map Value.int) ([ch_7] : List Int32) S__VALUES ZE_zv ZA_zv S_EMPTY ZE_em ZF_em_value ZE_x0 ZF_x0_written ZE_r0 ZF_r0_coder ZF_r0_value ZA_t0 ZE_x1 ZF_x1_written ZE_r1 ZF_r1_coder ZF_r1_value ZA_t1 ZE_x2 ZF_x2_written ZE_r2 ZF_r2_coder ZF_r2_value ZA_t2 E_a114 F_a114_coder F_a114_value A_t131 S_COMPACT_STRINGS (P5) (own_cod (cs := [ch_7]) (n := 1) rfl (own_allS p6_draw_0 own_all0)) (own_up [ch_7] (own_allS p6_draw_0 own_all0)) (Nat.le_of_ble_eq_true rfl)) all0 (argsL := [(.ref a114)]) (rest := []) rfl rfl own_pd9 rfl own_d10_180 rfl (by decide) (W := 0) rfl (by decide) (by decide) (by decide) fun T150 h152 v153 ms154 w151 q155 => ?_
            obtain ⟨K158, o1_156, o2_157, rfl, rfl, nw_E_o1_156, nw_F_o1_156_value, p180_enumOf_0, p180_enumOf_1, p180_enumOf_2, p180_enumOf_3, p180_enumOf_4⟩ := q155
            replace A_a120 := A_a120.keep K158 nin0
            replace E_a114 := E_a114.keep K158
            replace F_a114_coder := F_a114_coder.keep K158 nin0
            replace F_a114_value := F_a114_value.keep K158 nin0
            replace A_t131 := A_t131.keep K158 nin0
            replace K := K.trans K158 all0
            have E_o1_156 := nw_E_o1_156; clear nw_E_o1_156
            have F_o1_156_value := nw_F_o1_156_value; clear nw_F_o1_156_value
            show own_Go Z EL n0 p e below s _ _ _ (T150.setTop (mkF m 183 #[.val (.int i0), .val (.int i1), .val (.int i2), .val (.int i3), .val (.int (i0 &&& (3 : Int32))), .val (.int ch_7), .val (.int ch_14), .val (.int ch_21), .val (.ref a114), .val (.ref x2), .unset, .unset] [(.ref o1_156)]))
            have ho2 : o2_157 = .ref x2 := p180_enumOf_3 (by rw [hb170])
            subst ho2
            refine own_astore (pc' := 185) w151 own_d10_183 rfl (Ls' := #[.val (.int i0), .val (.int i1), .val (.int i2), .val (.int i3), .val (.int (i0 &&& (3 : Int32))), .val (.int ch_7), .val (.int ch_14), .val (.int ch_21), .val (.ref a114), .val (.ref x2), .val (.ref o1_156), .unset]) rfl rfl ?_
            refine own_aload (pc' := 187) w151 own_d10_185 rfl rfl rfl ?_
            refine own_aconstNull (pc' := 188) w151 own_d10_187 rfl ?_
            refine own_callV (pc' := 191) w151 (hw _ (List.mem_of_getElem? (i := 66) rfl)) (hw _ (List.mem_of_getElem? (i := 67) rfl)) (fun s' hZ' => notFace_of_selects (args := #[]) (mvT hZ' (hw _ (List.mem_of_getElem? (i := 69) rfl)))) (hw _ (List.mem_of_getElem? (i := 69) rfl)) (hw _ (List.mem_of_getElem? (i := 68) rfl)) (hw _ (List.mem_of_getElem? (i := 32) rfl)) (hw _ (List.mem_of_getElem? (i := 70) rfl)) (by decide) E_o1_156 (own_ct_orElse l Z a0 hw EL hE n0 [] h152 (own_old w151) o1_156 (.ref x2) F_o1_156_value (rfl)) all0 (argsL := [.null]) (rest := []) rfl rfl own_pd1 rfl own_d10_188 rfl (by decide) (W := 0) rfl (by decide) (by decide) (by decide) fun T159 h161 v162 ms163 w160 q164 => ?_
            obtain ⟨rfl, rfl, rfl⟩ := q164
            show own_Go Z EL n0 p e below s _ _ _ (T159.setTop (mkF m 191 #[.val (.int i0), .val (.int i1), .val (.int i2), .val (.int i3), .val (.int (i0 &&& (3 : Int32))), .val (.int ch_7), .val (.int ch_14), .val (.int ch_21), .val (.ref a114), .val (.ref x2), .val (.ref o1_156), .unset] [(.ref x2)]))
            refine own_castY (pc' := 194) w160 (hw _ (List.mem_of_getElem? (i := 98) rfl)) (Ins.self (ZE_x2.ext (own_old w160).2)) own_d10_191 rfl fun T165 w166 => ?_
            refine own_astore (pc' := 196) w166 own_d10_194 rfl (Ls' := #[.val (.int i0), .val (.int i1), .val (.int i2), .val (.int i3), .val (.int (i0 &&& (3 : Int32))), .val (.int ch_7), .val (.int ch_14), .val (.int ch_21), .val (.ref a114), .val (.ref x2), .val (.ref o1_156), .val (.ref x2)]) rfl rfl ?_
            refine own_aload (pc' := 198) w166 own_d10_196 rfl rfl rfl ?_
            refine own_aload (pc' := 200) w166 own_d10_198 rfl rfl rfl ?_
            refine own_acmp (pc' := 203) w166 rfl rfl own_d10_200 rfl (by decide) (pcY := 207) rfl (fun (hb200 : ¬ ((.ref x2) : Value) = (.ref x2)) => absurd rfl hb200) (fun (hb200 : ((.ref x2) : Value) = (.ref x2)) => ?_)
            refine own_iconst (pc' := 204) w166 own_d10_203 (x := (1 : Int32)) rfl rfl ?_
            refine own_goto w166 own_d10_204 (by decide) (pc' := 208) rfl ?_
            exact own_retV w166 (t := .boolean) rfl rfl (Or.inl ⟨rfl, by simp, _, rfl⟩) own_d10_208 (by decide) (by decide) (ms' := []) all0 ⟨K, rfl, rfl⟩
        · -- tfftf
          refine own_getS (pc' := 161) w126 (host := "") (Or.inl (hw _ (List.mem_of_getElem? (i := 101) rfl))) Via.refl (S_EUROPE_AND_AFRICA.ext (own_old w126).2) own_d10_158 rfl fun T167 w168 => ?_
          refine own_astore (pc' := 163) w168 own_d10_161 rfl (Ls' := #[.val (.int i0), .val (.int i1), .val (.int i2), .val (.int i3), .val (.int (i0 &&& (3 : Int32))), .val (.int ch_7), .val (.int ch_14), .val (.int ch_21), .val (.ref a114), .val (.ref x1), .unset, .unset]) rfl rfl ?_
          refine own_goto w168 own_d10_163 (by decide) (pc' := 178) rfl ?_
          refine own_aload (pc' := 180) w168 own_d10_178 rfl rfl rfl ?_
          refine own_callS (pc' := 183) w168 (hw _ (List.mem_of_getElem? (i := 26) rfl)) (hw _ (List.mem_of_getElem? (i := 27) rfl)) (hw _ (List.mem_of_getElem? (i := 28) rfl)) (hw _ (List.mem_of_getElem? (i := 29) rfl)) (by decide) (own_ct_enumOf l Z a0 hw EL hE n0 [] h127 (own_old w168) a114 zv kv em x0 r0 t0 k0 x1 r1 t1 k1 x2 r2 t2 k2 z5 t131 kb132 (1 : Int32) ((([ch_7] : List Int32).map (fun c => c.toInt8.toInt32)).map Value.int) ([ch_7] : List Int32) S__VALUES ZE_zv ZA_zv S_EMPTY ZE_em ZF_em_value ZE_x0 ZF_x0_written ZE_r0 ZF_r0_coder ZF_r0_value ZA_t0 ZE_x1 ZF_x1_written ZE_r1 ZF_r1_coder ZF_r1_value ZA_t1 ZE_x2 ZF_x2_written ZE_r2 ZF_r2_coder ZF_r2_value ZA_t2 E_a114 F_a114_coder F_a114_value A_t131 S_COMPACT_STRINGS (P5) (own_cod (cs := [ch_7]) (n := 1) rfl (own_allS p6_draw_0 own_all0)) (own_up [ch_7] (own_allS p6_draw_0 own_all0)) (Nat.le_of_ble_eq_true rfl)) all0 (argsL := [(.ref a114)]) (rest := []) rfl rfl own_pd9 rfl own_d10_180 rfl (by decide) (W := 0) rfl (by decide) (by decide) (by decide) fun T169 h171 v172 ms173 w170 q174 => ?_
          obtain ⟨K177, o1_175, o2_176, rfl, rfl, nw_E_o1_175, nw_F_o1_175_value, p180_enumOf_0, p180_enumOf_1, p180_enumOf_2, p180_enumOf_3, p180_enumOf_4⟩ := q174
          replace A_a120 := A_a120.keep K177 nin0
          replace E_a114 := E_a114.keep K177
          replace F_a114_coder := F_a114_coder.keep K177 nin0
          replace F_a114_value := F_a114_value.keep K177 nin0
          replace A_t131 := A_t131.keep K177 nin0
          replace K := K.trans K177 all0
          have E_o1_175 := nw_E_o1_175; clear nw_E_o1_175
          have F_o1_175_value := nw_F_o1_175_value; clear nw_F_o1_175_value
          show own_Go Z EL n0 p e below s _ _ _ (T169.setTop (mkF m 183 #[.val (.int i0), .val (.int i1), .val (.int i2), .val (.int i3), .val (.int (i0 &&& (3 : Int32))), .val (.int ch_7), .val (.int ch_14), .val (.int ch_21), .val (.ref a114), .val (.ref x1), .unset, .unset] [(.ref o1_175)]))
          have ho2 : o2_176 = .ref x1 := p180_enumOf_2 (by rw [hb155])
          subst ho2
          refine own_astore (pc' := 185) w170 own_d10_183 rfl (Ls' := #[.val (.int i0), .val (.int i1), .val (.int i2), .val (.int i3), .val (.int (i0 &&& (3 : Int32))), .val (.int ch_7), .val (.int ch_14), .val (.int ch_21), .val (.ref a114), .val (.ref x1), .val (.ref o1_175), .unset]) rfl rfl ?_
          refine own_aload (pc' := 187) w170 own_d10_185 rfl rfl rfl ?_
          refine own_aconstNull (pc' := 188) w170 own_d10_187 rfl ?_
          refine own_callV (pc' := 191) w170 (hw _ (List.mem_of_getElem? (i := 66) rfl)) (hw _ (List.mem_of_getElem? (i := 67) rfl)) (fun s' hZ' => notFace_of_selects (args := #[]) (mvT hZ' (hw _ (List.mem_of_getElem? (i := 69) rfl)))) (hw _ (List.mem_of_getElem? (i := 69) rfl)) (hw _ (List.mem_of_getElem? (i := 68) rfl)) (hw _ (List.mem_of_getElem? (i := 32) rfl)) (hw _ (List.mem_of_getElem? (i := 70) rfl)) (by decide) E_o1_175 (own_ct_orElse l Z a0 hw EL hE n0 [] h171 (own_old w170) o1_175 (.ref x1) F_o1_175_value (rfl)) all0 (argsL := [.null]) (rest := []) rfl rfl own_pd1 rfl own_d10_188 rfl (by decide) (W := 0) rfl (by decide) (by decide) (by decide) fun T178 h180 v181 ms182 w179 q183 => ?_
          obtain ⟨rfl, rfl, rfl⟩ := q183
          show own_Go Z EL n0 p e below s _ _ _ (T178.setTop (mkF m 191 #[.val (.int i0), .val (.int i1), .val (.int i2), .val (.int i3), .val (.int (i0 &&& (3 : Int32))), .val (.int ch_7), .val (.int ch_14), .val (.int ch_21), .val (.ref a114), .val (.ref x1), .val (.ref o1_175), .unset] [(.ref x1)]))
          refine own_castY (pc' := 194) w179 (hw _ (List.mem_of_getElem? (i := 98) rfl)) (Ins.self (ZE_x1.ext (own_old w179).2)) own_d10_191 rfl fun T184 w185 => ?_
          refine own_astore (pc' := 196) w185 own_d10_194 rfl (Ls' := #[.val (.int i0), .val (.int i1), .val (.int i2), .val (.int i3), .val (.int (i0 &&& (3 : Int32))), .val (.int ch_7), .val (.int ch_14), .val (.int ch_21), .val (.ref a114), .val (.ref x1), .val (.ref o1_175), .val (.ref x1)]) rfl rfl ?_
          refine own_aload (pc' := 198) w185 own_d10_196 rfl rfl rfl ?_
          refine own_aload (pc' := 200) w185 own_d10_198 rfl rfl rfl ?_
          refine own_acmp (pc' := 203) w185 rfl rfl own_d10_200 rfl (by decide) (pcY := 207) rfl (fun (hb200 : ¬ ((.ref x1) : Value) = (.ref x1)) => absurd rfl hb200) (fun (hb200 : ((.ref x1) : Value) = (.ref x1)) => ?_)
          refine own_iconst (pc' := 204) w185 own_d10_203 (x := (1 : Int32)) rfl rfl ?_
          refine own_goto w185 own_d10_204 (by decide) (pc' := 208) rfl ?_
          exact own_retV w185 (t := .boolean) rfl rfl (Or.inl ⟨rfl, by simp, _, rfl⟩) own_d10_208 (by decide) (by decide) (ms' := []) all0 ⟨K, rfl, rfl⟩
      · -- tfff
        refine own_getS (pc' := 146) w126 (host := "") (Or.inl (hw _ (List.mem_of_getElem? (i := 100) rfl))) Via.refl (S_AMERICAS.ext (own_old w126).2) own_d10_143 rfl fun T186 w187 => ?_
        refine own_astore (pc' := 148) w187 own_d10_146 rfl (Ls' := #[.val (.int i0), .val (.int i1), .val (.int i2), .val (.int i3), .val (.int (i0 &&& (3 : Int32))), .val (.int ch_7), .val (.int ch_14), .val (.int ch_21), .val (.ref a114), .val (.ref x0), .unset, .unset]) rfl rfl ?_
        refine own_goto w187 own_d10_148 (by decide) (pc' := 178) rfl ?_
        refine own_aload (pc' := 180) w187 own_d10_178 rfl rfl rfl ?_
        refine own_callS (pc' := 183) w187 (hw _ (List.mem_of_getElem? (i := 26) rfl)) (hw _ (List.mem_of_getElem? (i := 27) rfl)) (hw _ (List.mem_of_getElem? (i := 28) rfl)) (hw _ (List.mem_of_getElem? (i := 29) rfl)) (by decide) (own_ct_enumOf l Z a0 hw EL hE n0 [] h127 (own_old w187) a114 zv kv em x0 r0 t0 k0 x1 r1 t1 k1 x2 r2 t2 k2 z5 t131 kb132 (1 : Int32) ((([ch_7] : List Int32).map (fun c => c.toInt8.toInt32)).map Value.int) ([ch_7] : List Int32) S__VALUES ZE_zv ZA_zv S_EMPTY ZE_em ZF_em_value ZE_x0 ZF_x0_written ZE_r0 ZF_r0_coder ZF_r0_value ZA_t0 ZE_x1 ZF_x1_written ZE_r1 ZF_r1_coder ZF_r1_value ZA_t1 ZE_x2 ZF_x2_written ZE_r2 ZF_r2_coder ZF_r2_value ZA_t2 E_a114 F_a114_coder F_a114_value A_t131 S_COMPACT_STRINGS (P5) (own_cod (cs := [ch_7]) (n := 1) rfl (own_allS p6_draw_0 own_all0)) (own_up [ch_7] (own_allS p6_draw_0 own_all0)) (Nat.le_of_ble_eq_true rfl)) all0 (argsL := [(.ref a114)]) (rest := []) rfl rfl own_pd9 rfl own_d10_180 rfl (by decide) (W := 0) rfl (by decide) (by decide) (by decide) fun T188 h190 v191 ms192 w189 q193 => ?_
        obtain ⟨K196, o1_194, o2_195, rfl, rfl, nw_E_o1_194, nw_F_o1_194_value, p180_enumOf_0, p180_enumOf_1, p180_enumOf_2, p180_enumOf_3, p180_enumOf_4⟩ := q193
        replace A_a120 := A_a120.keep K196 nin0
        replace E_a114 := E_a114.keep K196
        replace F_a114_coder := F_a114_coder.keep K196 nin0
        replace F_a114_value := F_a114_value.keep K196 nin0
        replace A_t131 := A_t131.keep K196 nin0
        replace K := K.trans K196 all0
        have E_o1_194 := nw_E_o1_194; clear nw_E_o1_194
        have F_o1_194_value := nw_F_o1_194_value; clear nw_F_o1_194_value
        show own_Go Z EL n0 p e below s _ _ _ (T188.setTop (mkF m 183 #[.val (.int i0), .val (.int i1), .val (.int i2), .val (.int i3), .val (.int (i0 &&& (3 : Int32))), .val (.int ch_7), .val (.int ch_14), .val (.int ch_21), .val (.ref a114), .val (.ref x0), .unset, .unset] [(.ref o1_194)]))
        have ho2 : o2_195 = .ref x0 := p180_enumOf_1 (by rw [hb140])
        subst ho2
        refine own_astore (pc' := 185) w189 own_d10_183 rfl (Ls' := #[.val (.int i0), .val (.int i1), .val (.int i2), .val (.int i3), .val (.int (i0 &&& (3 : Int32))), .val (.int ch_7), .val (.int ch_14), .val (.int ch_21), .val (.ref a114), .val (.ref x0), .val (.ref o1_194), .unset]) rfl rfl ?_
        refine own_aload (pc' := 187) w189 own_d10_185 rfl rfl rfl ?_
        refine own_aconstNull (pc' := 188) w189 own_d10_187 rfl ?_
        refine own_callV (pc' := 191) w189 (hw _ (List.mem_of_getElem? (i := 66) rfl)) (hw _ (List.mem_of_getElem? (i := 67) rfl)) (fun s' hZ' => notFace_of_selects (args := #[]) (mvT hZ' (hw _ (List.mem_of_getElem? (i := 69) rfl)))) (hw _ (List.mem_of_getElem? (i := 69) rfl)) (hw _ (List.mem_of_getElem? (i := 68) rfl)) (hw _ (List.mem_of_getElem? (i := 32) rfl)) (hw _ (List.mem_of_getElem? (i := 70) rfl)) (by decide) E_o1_194 (own_ct_orElse l Z a0 hw EL hE n0 [] h190 (own_old w189) o1_194 (.ref x0) F_o1_194_value (rfl)) all0 (argsL := [.null]) (rest := []) rfl rfl own_pd1 rfl own_d10_188 rfl (by decide) (W := 0) rfl (by decide) (by decide) (by decide) fun T197 h199 v200 ms201 w198 q202 => ?_
        obtain ⟨rfl, rfl, rfl⟩ := q202
        show own_Go Z EL n0 p e below s _ _ _ (T197.setTop (mkF m 191 #[.val (.int i0), .val (.int i1), .val (.int i2), .val (.int i3), .val (.int (i0 &&& (3 : Int32))), .val (.int ch_7), .val (.int ch_14), .val (.int ch_21), .val (.ref a114), .val (.ref x0), .val (.ref o1_194), .unset] [(.ref x0)]))
        refine own_castY (pc' := 194) w198 (hw _ (List.mem_of_getElem? (i := 98) rfl)) (Ins.self (ZE_x0.ext (own_old w198).2)) own_d10_191 rfl fun T203 w204 => ?_
        refine own_astore (pc' := 196) w204 own_d10_194 rfl (Ls' := #[.val (.int i0), .val (.int i1), .val (.int i2), .val (.int i3), .val (.int (i0 &&& (3 : Int32))), .val (.int ch_7), .val (.int ch_14), .val (.int ch_21), .val (.ref a114), .val (.ref x0), .val (.ref o1_194), .val (.ref x0)]) rfl rfl ?_
        refine own_aload (pc' := 198) w204 own_d10_196 rfl rfl rfl ?_
        refine own_aload (pc' := 200) w204 own_d10_198 rfl rfl rfl ?_
        refine own_acmp (pc' := 203) w204 rfl rfl own_d10_200 rfl (by decide) (pcY := 207) rfl (fun (hb200 : ¬ ((.ref x0) : Value) = (.ref x0)) => absurd rfl hb200) (fun (hb200 : ((.ref x0) : Value) = (.ref x0)) => ?_)
        refine own_iconst (pc' := 204) w204 own_d10_203 (x := (1 : Int32)) rfl rfl ?_
        refine own_goto w204 own_d10_204 (by decide) (pc' := 208) rfl ?_
        exact own_retV w204 (t := .boolean) rfl rfl (Or.inl ⟨rfl, by simp, _, rfl⟩) own_d10_208 (by decide) (by decide) (ms' := []) all0 ⟨K, rfl, rfl⟩
  · -- f
    refine own_newO (pc' := 31) w16 (hw _ (List.mem_of_getElem? (i := 4) rfl)) (hw _ (List.mem_of_getElem? (i := 5) rfl)) (hw _ (List.mem_of_getElem? (i := 6) rfl)) own_d10_28 rfl (by decide) (by decide) fun T205 h207 a209 g_a209 w206 E208 ⟨E_a209, D210⟩ => ?_
    have nw_a209 : h0.size ≤ a209 := Nat.le_trans K.1 (Nat.le_of_eq g_a209)
    replace K := K.ext E208
    have F_a209_value : Fld Z h207 a209 "java/lang/String" "value" "[B" .null := D210 (Or.inr (hw _ (List.mem_of_getElem? (i := 20) rfl))) (ty := (.array .byte)) (by decide)
    have F_a209_coder : Fld Z h207 a209 "java/lang/String" "coder" "B" (.int 0) := D210 (Or.inr (hw _ (List.mem_of_getElem? (i := 21) rfl))) (ty := .byte) (by decide)
    refine own_dup (pc' := 32) w206 own_d10_31 rfl rfl ?_
    refine own_iconst (pc' := 33) w206 own_d10_32 (x := (0 : Int32)) rfl rfl ?_
    refine own_newP (pc' := 35) w206 (vs := []) (dv := (.int 0)) (cap := 0) (hw _ (List.mem_of_getElem? (i := 7) rfl)) own_d10_33 rfl (by decide) (by decide) (by decide) rfl (own_rep 0 (.int 0)) (by decide) (by decide) fun T211 h213 a215 g_a215 w212 E214 ⟨k_a215, A_a215⟩ => ?_
    have ne_a209_a215 : a209 ≠ a215 := Nat.ne_of_lt (Nat.lt_of_lt_of_le E_a209.lt (Nat.le_of_eq g_a215))
    have nw_a215 : h0.size ≤ a215 := Nat.le_trans K.1 (Nat.le_of_eq g_a215)
    replace E_a209 := E_a209.ext E214
    replace F_a209_value := F_a209_value.ext E214
    replace F_a209_coder := F_a209_coder.ext E214
    replace K := K.ext E214
    refine own_callI (pc' := 38) w212 rfl (hw _ (List.mem_of_getElem? (i := 8) rfl)) (hw _ (List.mem_of_getElem? (i := 9) rfl)) (hw _ (List.mem_of_getElem? (i := 6) rfl)) (hw _ (List.mem_of_getElem? (i := 10) rfl)) (by decide) (own_ct_strE1 l Z a0 hw EL hE n0 [] h213 (own_old w212) a209 a215 .null (.int 0) k_a215 [] (.int 0) E_a209 F_a209_value F_a209_coder A_a215 (hEL) (Ne.symm ne_a209_a215)) (allS (P := fun x => x ∈ _) (by simp) all0) (argsL := [(.ref a215)]) (rest := [(.ref a209)]) rfl rfl own_pd8 rfl own_d10_35 rfl (by decide) (W := 1) rfl (by decide) (by decide) (by decide) fun T216 h218 v219 ms220 w217 q221 => ?_
    obtain ⟨K224, t_222, kb_223, rfl, rfl, nw_E_a209, nw_F_a209_coder, nw_F_a209_value, nw_A_t_222, p35_strE1_0⟩ := q221
    replace A_a215 := A_a215.keep K224 (ninS (Ne.symm ne_a209_a215) nin0)
    replace K := K.trans K224 (allS (P := fun x => x ∈ ([] : List Addr) ∨ h0.size ≤ x) (Or.inr nw_a209) all0)
    have E_a209 := nw_E_a209; clear nw_E_a209
    have F_a209_coder := nw_F_a209_coder; clear nw_F_a209_coder
    have F_a209_value := nw_F_a209_value; clear nw_F_a209_value
    have A_t_222 := nw_A_t_222; clear nw_A_t_222
    show own_Go Z EL n0 p e below s _ _ _ (T216.setTop (mkF m 38 #[.val (.int i0), .val (.int i1), .val (.int i2), .val (.int i3), .val (.int (i0 &&& (3 : Int32))), .val (.int ch_7), .val (.int ch_14), .val (.int ch_21), .unset, .unset, .unset, .unset] [(.ref a209)]))
    refine own_astore (pc' := 40) w217 own_d10_38 rfl (Ls' := #[.val (.int i0), .val (.int i1), .val (.int i2), .val (.int i3), .val (.int (i0 &&& (3 : Int32))), .val (.int ch_7), .val (.int ch_14), .val (.int ch_21), .val (.ref a209), .unset, .unset, .unset]) rfl rfl ?_
    refine own_goto w217 own_d10_40 (by decide) (pc' := 127) rfl ?_
    refine own_aconstNull (pc' := 128) w217 own_d10_127 rfl ?_
    refine own_astore (pc' := 130) w217 own_d10_128 rfl (Ls' := #[.val (.int i0), .val (.int i1), .val (.int i2), .val (.int i3), .val (.int (i0 &&& (3 : Int32))), .val (.int ch_7), .val (.int ch_14), .val (.int ch_21), .val (.ref a209), .val .null, .unset, .unset]) rfl rfl ?_
    refine own_iload (pc' := 132) w217 own_d10_130 rfl rfl ?_
    refine own_iconst (pc' := 133) w217 own_d10_132 (x := (1 : Int32)) rfl rfl ?_
    refine own_icmp (pc' := 136) w217 own_d10_133 rfl (by decide) (pcY := 178) rfl (fun (hb133 : ¬ (i0 &&& (3 : Int32)) = (1 : Int32)) => ?_) (fun (hb133 : (i0 &&& (3 : Int32)) = (1 : Int32)) => absurd (hb25.symm.trans hb133) (by decide))
    refine own_aload (pc' := 180) w217 own_d10_178 rfl rfl rfl ?_
    refine own_callS (pc' := 183) w217 (hw _ (List.mem_of_getElem? (i := 26) rfl)) (hw _ (List.mem_of_getElem? (i := 27) rfl)) (hw _ (List.mem_of_getElem? (i := 28) rfl)) (hw _ (List.mem_of_getElem? (i := 29) rfl)) (by decide) (own_ct_enumOf l Z a0 hw EL hE n0 [] h218 (own_old w217) a209 zv kv em x0 r0 t0 k0 x1 r1 t1 k1 x2 r2 t2 k2 z5 t_222 kb_223 (0 : Int32) [] ([] : List Int32) S__VALUES ZE_zv ZA_zv S_EMPTY ZE_em ZF_em_value ZE_x0 ZF_x0_written ZE_r0 ZF_r0_coder ZF_r0_value ZA_t0 ZE_x1 ZF_x1_written ZE_r1 ZF_r1_coder ZF_r1_value ZA_t1 ZE_x2 ZF_x2_written ZE_r2 ZF_r2_coder ZF_r2_value ZA_t2 E_a209 F_a209_coder F_a209_value A_t_222 S_COMPACT_STRINGS (P5) ((Or.inl ⟨rfl, rfl, rfl, own_all0⟩)) (own_up [] own_all0) (by decide)) all0 (argsL := [(.ref a209)]) (rest := []) rfl rfl own_pd9 rfl own_d10_180 rfl (by decide) (W := 0) rfl (by decide) (by decide) (by decide) fun T225 h227 v228 ms229 w226 q230 => ?_
    obtain ⟨K233, o1_231, o2_232, rfl, rfl, nw_E_o1_231, nw_F_o1_231_value, p180_enumOf_0, p180_enumOf_1, p180_enumOf_2, p180_enumOf_3, p180_enumOf_4⟩ := q230
    replace A_a215 := A_a215.keep K233 nin0
    replace E_a209 := E_a209.keep K233
    replace F_a209_coder := F_a209_coder.keep K233 nin0
    replace F_a209_value := F_a209_value.keep K233 nin0
    replace A_t_222 := A_t_222.keep K233 nin0
    replace K := K.trans K233 all0
    have E_o1_231 := nw_E_o1_231; clear nw_E_o1_231
    have F_o1_231_value := nw_F_o1_231_value; clear nw_F_o1_231_value
    show own_Go Z EL n0 p e below s _ _ _ (T225.setTop (mkF m 183 #[.val (.int i0), .val (.int i1), .val (.int i2), .val (.int i3), .val (.int (i0 &&& (3 : Int32))), .val (.int ch_7), .val (.int ch_14), .val (.int ch_21), .val (.ref a209), .val .null, .unset, .unset] [(.ref o1_231)]))
    have ho2 : o2_232 = .null := p180_enumOf_4 (by intro q; simp at q) (by intro q; simp at q) (by intro q; simp at q)
    subst ho2
    refine own_astore (pc' := 185) w226 own_d10_183 rfl (Ls' := #[.val (.int i0), .val (.int i1), .val (.int i2), .val (.int i3), .val (.int (i0 &&& (3 : Int32))), .val (.int ch_7), .val (.int ch_14), .val (.int ch_21), .val (.ref a209), .val .null, .val (.ref o1_231), .unset]) rfl rfl ?_
    refine own_aload (pc' := 187) w226 own_d10_185 rfl rfl rfl ?_
    refine own_aconstNull (pc' := 188) w226 own_d10_187 rfl ?_
    refine own_callV (pc' := 191) w226 (hw _ (List.mem_of_getElem? (i := 66) rfl)) (hw _ (List.mem_of_getElem? (i := 67) rfl)) (fun s' hZ' => notFace_of_selects (args := #[]) (mvT hZ' (hw _ (List.mem_of_getElem? (i := 69) rfl)))) (hw _ (List.mem_of_getElem? (i := 69) rfl)) (hw _ (List.mem_of_getElem? (i := 68) rfl)) (hw _ (List.mem_of_getElem? (i := 32) rfl)) (hw _ (List.mem_of_getElem? (i := 70) rfl)) (by decide) E_o1_231 (own_ct_orElse l Z a0 hw EL hE n0 [] h227 (own_old w226) o1_231 .null F_o1_231_value (rfl)) all0 (argsL := [.null]) (rest := []) rfl rfl own_pd1 rfl own_d10_188 rfl (by decide) (W := 0) rfl (by decide) (by decide) (by decide) fun T234 h236 v237 ms238 w235 q239 => ?_
    obtain ⟨rfl, rfl, rfl⟩ := q239
    show own_Go Z EL n0 p e below s _ _ _ (T234.setTop (mkF m 191 #[.val (.int i0), .val (.int i1), .val (.int i2), .val (.int i3), .val (.int (i0 &&& (3 : Int32))), .val (.int ch_7), .val (.int ch_14), .val (.int ch_21), .val (.ref a209), .val .null, .val (.ref o1_231), .unset] [.null]))
    refine own_castN (pc' := 194) w235 own_d10_191 rfl ?_
    refine own_astore (pc' := 196) w235 own_d10_194 rfl (Ls' := #[.val (.int i0), .val (.int i1), .val (.int i2), .val (.int i3), .val (.int (i0 &&& (3 : Int32))), .val (.int ch_7), .val (.int ch_14), .val (.int ch_21), .val (.ref a209), .val .null, .val (.ref o1_231), .val .null]) rfl rfl ?_
    refine own_aload (pc' := 198) w235 own_d10_196 rfl rfl rfl ?_
    refine own_aload (pc' := 200) w235 own_d10_198 rfl rfl rfl ?_
    refine own_acmp (pc' := 203) w235 rfl rfl own_d10_200 rfl (by decide) (pcY := 207) rfl (fun (hb200 : ¬ (.null : Value) = .null) => absurd rfl hb200) (fun (hb200 : (.null : Value) = .null) => ?_)
    refine own_iconst (pc' := 204) w235 own_d10_203 (x := (1 : Int32)) rfl rfl ?_
    refine own_goto w235 own_d10_204 (by decide) (pc' := 208) rfl ?_
    exact own_retV w235 (t := .boolean) rfl rfl (Or.inl ⟨rfl, by simp, _, rfl⟩) own_d10_208 (by decide) (by decide) (ms' := []) all0 ⟨K, rfl, rfl⟩
set_option maxRecDepth 65536 in
set_option maxHeartbeats 40000000 in
theorem comes_1 {Post : Tables → Env → Array Value → State → Outcome → State → Prop} (hpost : ∀ tb e args s v u, (limb_1_1.after args s (.returned v) u = true ∧ limb_1_2.after args s (.returned v) u = true ∧ True) → ReturnedEndW s (.returned v) u (Jvm.fieldLocs frame_1_writes args s ++ Jvm.arrayLocs frame_1_arrays args s ++ Jvm.staticLocs frame_1_statics s) 24 1152 → Post tb e args s (.returned v) u) :
    ArmFor flags0 classFile x code maxLocals ret World_1 tables_1 room_1 Calls_1 rest_1 Pre_1 Post := by
  intro l hfl _ _ p e ha hc hk s m args below hf hA hF happ hP
  obtain ⟨hcalls, hrest, hpre⟩ := hP
  obtain ⟨-, -, -, hnamed, -, -, -, hat⟩ := (Spec.applies_iff hf).mp happ
  obtain ⟨hg, hn⟩ := and_e (Cond.before_iff.mp (show (Jvm.Cond.and given_1 narrow_1).before args s = true from hpre))
  obtain ⟨hct, hg⟩ := and_e hg
  obtain ⟨w0, w1, w2, w3, rfl⟩ : ∃ w0 w1 w2 w3 : Value, args = #[w0, w1, w2, w3] := by
    have hs : args.size = 4 := by simpa [Cond.value, given_1] using hct
    obtain ⟨L⟩ := args
    match L, hs with
    | [w0, w1, w2, w3], _ => exact ⟨w0, w1, w2, w3, rfl⟩
  have hw := fun d (hd : d ∈ tables_1) => atoms_spec (ws := Jvm.Cond.code x code maxLocals ret :: tables_1) hat d (List.mem_cons_of_mem _ hd)
  have hfit : Fit s := fun {y c} hc i hi => by
    obtain ⟨ha, rfl⟩ := Array.getElem?_eq_some_iff.mp hc
    have q := List.all_eq_true.mp ((Array.all_eq_true_iff_forall_mem.mp hF) _ (Array.getElem_mem ha)) i (List.mem_range.mpr hi)
    simpa [Array.getElem?_eq_getElem hi] using q
  obtain ⟨hg0, hg⟩ := and_e hg
  obtain ⟨i0, e0⟩ := is_v hg0
  obtain rfl : w0 = (.int i0) := Option.some.inj e0
  obtain ⟨hg1, hg⟩ := and_e hg
  obtain ⟨i1, e1⟩ := is_v hg1
  obtain rfl : w1 = (.int i1) := Option.some.inj e1
  obtain ⟨hg2, hg⟩ := and_e hg
  obtain ⟨i2, e2⟩ := is_v hg2
  obtain rfl : w2 = (.int i2) := Option.some.inj e2
  obtain ⟨i3, e3⟩ := is_v hg
  obtain rfl : w3 = (.int i3) := Option.some.inj e3
  obtain ⟨hsets, hown0⟩ := atoms_of _ (rest_1_c_eq ▸ (show rest_1_c.before _ s = true from hrest))
  have n3 := not_v (Cond.before_iff.mp (hsets _ (List.mem_of_getElem? (i := 6) rfl)))
  obtain ⟨z5, e6⟩ := is_v (Cond.before_iff.mp (hsets _ (List.mem_of_getElem? (i := 5) rfl)))
  have S8c : Sta s s.heap "java/lang/String" "COMPACT_STRINGS" "Z" (.int z5) := Sta.start e6 (Or.inl (hsets _ (List.mem_of_getElem? (i := 4) rfl)))
  have P5 : ¬ (z5 = (0 : Int32)) := gotF (Cond.eq_ints e6 (Term.int_eval (0))) n3
  have hem := Cond.before_iff.mp (hsets _ (List.mem_of_getElem? (i := 2) rfl))
  obtain ⟨em, eem⟩ := exa_v hem
  have Sem : Sta s s.heap "java/util/Optional" "EMPTY" "Ljava/util/Optional;" (.ref em) := Sta.start eem (Or.inl (hsets _ (List.mem_of_getElem? (i := 1) rfl)))
  have Eem := Exa.start eem hem
  have Fem : Fld s s.heap em "java/util/Optional" "value" "Ljava/lang/Object;" .null := Fld.start ((fld_at eem).symm.trans (null_v (Cond.before_iff.mp (hsets _ (List.mem_of_getElem? (i := 3) rfl)))))
  obtain ⟨hn_0, hn⟩ := and_e hn
  obtain ⟨hn_1, hn⟩ := and_e hn
  obtain ⟨hn_2, hn⟩ := and_e hn
  obtain ⟨hn_3, hn⟩ := and_e hn
  obtain ⟨hn_4, hn⟩ := and_e hn
  obtain ⟨hn_5, hn⟩ := and_e hn
  obtain ⟨hn_6, hn⟩ := and_e hn
  obtain ⟨hn_7, hn⟩ := and_e hn
  obtain ⟨hn_8, hn⟩ := and_e hn
  obtain ⟨hn_9, hn⟩ := and_e hn
  obtain ⟨hn_10, hn⟩ := and_e hn
  obtain ⟨hn_11, hn⟩ := and_e hn
  obtain ⟨hn_12, hn⟩ := and_e hn
  obtain ⟨hn_13, hn⟩ := and_e hn
  obtain ⟨hn_14, hn⟩ := and_e hn
  obtain ⟨hn_15, hn⟩ := and_e hn
  obtain ⟨hn_16, hn⟩ := and_e hn
  obtain ⟨hn_17, hn⟩ := and_e hn
  obtain ⟨hn_18, hn⟩ := and_e hn
  obtain ⟨hn_19, hn⟩ := and_e hn
  obtain ⟨hn_20, hn⟩ := and_e hn
  obtain ⟨hn_21, hn⟩ := and_e hn
  obtain ⟨hn_22, hn⟩ := and_e hn
  have hn_23 := hn
  obtain ⟨zv, ezv⟩ := arr_v hn_0
  obtain ⟨clv, Arv0⟩ := Arr.start ezv hn_0
  have lnv := own_lI ezv Arv0.1 hn_2
  have Szv : Sta s s.heap "com/example/coretally/coretally/estate/Region" "$VALUES" "[Lcom/example/coretally/coretally/estate/Region;" (.ref zv) := Sta.start ezv (Or.inl (hw _ (List.mem_of_getElem? (i := 50) rfl)))
  have Ezv := Exa.start ezv hn_1
  obtain ⟨x0, ex0⟩ := exa_v hn_3
  have Ex0 := Exa.start ex0 hn_3
  have Sx0 : Sta s s.heap "com/example/coretally/coretally/estate/Region" "AMERICAS" "Lcom/example/coretally/coretally/estate/Region;" (.ref x0) := Sta.start ex0 (Or.inr ⟨(hw _ (List.mem_of_getElem? (i := 28) rfl)), (hw _ (List.mem_of_getElem? (i := 47) rfl))⟩)
  obtain ⟨r0, fr0, er0⟩ := own_fR ex0 hn_9
  have Fw0 : Fld s s.heap x0 "com/example/coretally/coretally/estate/Region" "written" "Ljava/lang/String;" (.ref r0) := Fld.start fr0
  have Er0 := Exa.start er0 hn_9
  have Fc0 : Fld s s.heap r0 "java/lang/String" "coder" "B" (.int 0) := Fld.start (own_fI er0 hn_10)
  obtain ⟨t0, et0⟩ := arr_v hn_11
  have Fv0 : Fld s s.heap r0 "java/lang/String" "value" "[B" (.ref t0) := Fld.start ((fld_at er0).symm.trans et0)
  obtain ⟨cl0, Ab0⟩ := Arr.start et0 hn_11
  have ln0 := own_lI et0 Ab0.1 hn_12
  have Av0 : Arv s s.heap t0 cl0.cls .byte (1 : Int32) [(.int 49)] (.int 0) := Arv.start hfit Ab0 ln0.1 ln0.2 (by decide) rfl ⟨(elem_in (own_eI hn_21) et0 (Term.int_eval 0) Ab0.1).2, trivial⟩
  obtain ⟨x1, ex1⟩ := exa_v hn_5
  have Ex1 := Exa.start ex1 hn_5
  have Sx1 : Sta s s.heap "com/example/coretally/coretally/estate/Region" "EUROPE_AND_AFRICA" "Lcom/example/coretally/coretally/estate/Region;" (.ref x1) := Sta.start ex1 (Or.inr ⟨(hw _ (List.mem_of_getElem? (i := 28) rfl)), (hw _ (List.mem_of_getElem? (i := 48) rfl))⟩)
  obtain ⟨r1, fr1, er1⟩ := own_fR ex1 hn_13
  have Fw1 : Fld s s.heap x1 "com/example/coretally/coretally/estate/Region" "written" "Ljava/lang/String;" (.ref r1) := Fld.start fr1
  have Er1 := Exa.start er1 hn_13
  have Fc1 : Fld s s.heap r1 "java/lang/String" "coder" "B" (.int 0) := Fld.start (own_fI er1 hn_14)
  obtain ⟨t1, et1⟩ := arr_v hn_15
  have Fv1 : Fld s s.heap r1 "java/lang/String" "value" "[B" (.ref t1) := Fld.start ((fld_at er1).symm.trans et1)
  obtain ⟨cl1, Ab1⟩ := Arr.start et1 hn_15
  have ln1 := own_lI et1 Ab1.1 hn_16
  have Av1 : Arv s s.heap t1 cl1.cls .byte (1 : Int32) [(.int 50)] (.int 0) := Arv.start hfit Ab1 ln1.1 ln1.2 (by decide) rfl ⟨(elem_in (own_eI hn_22) et1 (Term.int_eval 0) Ab1.1).2, trivial⟩
  obtain ⟨x2, ex2⟩ := exa_v hn_7
  have Ex2 := Exa.start ex2 hn_7
  have Sx2 : Sta s s.heap "com/example/coretally/coretally/estate/Region" "ASIA_AND_AUSTRALIA" "Lcom/example/coretally/coretally/estate/Region;" (.ref x2) := Sta.start ex2 (Or.inr ⟨(hw _ (List.mem_of_getElem? (i := 28) rfl)), (hw _ (List.mem_of_getElem? (i := 49) rfl))⟩)
  obtain ⟨r2, fr2, er2⟩ := own_fR ex2 hn_17
  have Fw2 : Fld s s.heap x2 "com/example/coretally/coretally/estate/Region" "written" "Ljava/lang/String;" (.ref r2) := Fld.start fr2
  have Er2 := Exa.start er2 hn_17
  have Fc2 : Fld s s.heap r2 "java/lang/String" "coder" "B" (.int 0) := Fld.start (own_fI er2 hn_18)
  obtain ⟨t2, et2⟩ := arr_v hn_19
  have Fv2 : Fld s s.heap r2 "java/lang/String" "value" "[B" (.ref t2) := Fld.start ((fld_at er2).symm.trans et2)
  obtain ⟨cl2, Ab2⟩ := Arr.start et2 hn_19
  have ln2 := own_lI et2 Ab2.1 hn_20
  have Av2 : Arv s s.heap t2 cl2.cls .byte (1 : Int32) [(.int 51)] (.int 0) := Arv.start hfit Ab2 ln2.1 ln2.2 (by decide) rfl ⟨(elem_in (own_eI hn_23) et2 (Term.int_eval 0) Ab2.1).2, trivial⟩
  have Azv : Arv s s.heap zv clv.cls (.object "com/example/coretally/coretally/estate/Region") (3 : Int32) [(.ref x0), (.ref x1), (.ref x2)] .null := Arv.start hfit Arv0 lnv.1 lnv.2 (by decide) rfl ⟨(elem_in (own_eR ex0 hn_4) ezv (Term.int_eval 0) Arv0.1).2, (elem_in (own_eR ex1 hn_6) ezv (Term.int_eval 1) Arv0.1).2, (elem_in (own_eR ex2 hn_8) ezv (Term.int_eval 2) Arv0.1).2, trivial⟩
  have hE : EW s _ ([("java/lang/String", 7)] : List (String × Nat)) := (EW.cons (hw _ (List.mem_of_getElem? (i := 18) rfl)) (by decide +kernel) EW.nil)
  have hC : CHv s ([("java/lang/String", 7)] : List (String × Nat)) s.vm s.heap := CHv.start hE (fun p hp => hcalls.1 p hp) (hsets _ (List.mem_of_getElem? (i := 6) rfl)) (hw _ (List.mem_of_getElem? (i := 19) rfl)) (hw _ (List.mem_of_getElem? (i := 5) rfl))
  obtain ⟨n, o, h1, h2, h3, _, L, ms, rfl, q, N, -, -, -, hq⟩ := own_ct_law l s _ hw _ hE s.heap.size tables_1 s.heap (Old.start s) i0 i1 i2 i3 zv clv.cls em x0 r0 t0 cl0.cls x1 r1 t1 cl1.cls x2 r2 t2 cl2.cls z5 Szv Ezv Azv Sem Eem Fem Ex0 Fw0 Er0 Fc0 Fv0 Av0 Ex1 Fw1 Er1 Fc1 Fv1 Av1 Ex2 Fw2 Er2 Fc2 Fv2 Av2 Sx0 Sx1 Sx2 S8c P5 (by decide) p e ha hc hk s m _ below hf ((Spec.applies_iff_loose hf).mp happ).1 ⟨rfl, State.Warmed39.refl s, rfl, hC, fun _ q => nomatch q⟩ trivial
  obtain ⟨-, -, rfl⟩ := q
  refine ⟨n, _, h1, h2, h3, hpost _ _ _ _ _ _ ⟨Cond.after_iff.mpr rfl, Cond.after_iff.mpr (eq_i res_at (Term.int_eval (1)) rfl), trivial⟩ ⟨hq.1, hq.2.1, hq.2.2.1, (hq.2.2.2.sift fun y hy => Or.inr (N y hy)).mono (by decide) (by decide)⟩⟩
theorem main_1_1 : Claimed_1_1 := comes_1 fun _ _ _ _ _ _ h hF => ⟨h.1, hF⟩
theorem main_1_2 : Claimed_1_2 := comes_1 fun _ _ _ _ _ _ h hF => ⟨h.2.1, hF⟩
end Jvm.Pilot.@@N@@
namespace Jvm.Pilot.@@N@@
open Jvm Jvm.ClassFile Sem Op Lib Jvm.Free Jvm.Stand Jvm.Pilot.@@N@@.Jvm.D
/-! MADE BY PROGRAM (witnessworld.py) out of the Statement's table words and the real class files: 24 classes; the members and pool entries that the words name. The judged class is class 1, her method 2. -/
namespace start1
open Jvm.ClassFile
def u (s : String) : CpInfo := .utf8 (stringToUtf16 s)
/-- a pool by its gaps: so many unusable entries, then the entry; so many at the end -/
def gap : Nat → List CpInfo → List CpInfo
  | 0, r => r
  | n + 1, r => .unusable :: gap n r
def poolList (es : List (Nat × CpInfo)) (last : Nat) : List CpInfo := es.foldr (fun e r => gap e.1 (e.2 :: r)) (gap last [])
def pool (es : List (Nat × CpInfo)) (last : Nat) : Array CpInfo := ⟨poolList es last⟩
def fileOf (pool : Array CpInfo) (this : Nat) (attrs : Array Attribute := #[]) (ms : Array MethodInfo := #[]) (fl : Nat := 33) (sup : Nat := 0) (ifs : Array Nat := #[]) (fds : Array FieldInfo := #[]) : ClassFile where
  minorVersion := 0
  majorVersion := 65
  constantPool := pool
  accessFlags := fl
  thisClass := this
  superClass := sup
  interfaces := ifs
  fields := fds
  methods := ms
  attributes := attrs
def plain (name : String) (sup : Option ClassId) : Class where
  name := name
  kind := .ordinary
  loader := none
  accessFlags := 33
  super := sup
  interfaces := #[]
  cf := none
  fields := #[]
  methods := #[]
  instanceTypes := #[]
  staticTypes := #[]
  resolved := #[]
  callSites := []
  init := .initialized
  statics := none
  mirror := none

def pool0 : Array CpInfo := pool [(5, u "<init>"), (0, u "()V"), (1, .class_ 10), (1, u "java/lang/Object"), (85, u "clone"), (0, u "()Ljava/lang/Object;")] 26

def k0c0 : Code := { maxStack := 0, maxLocals := 1, code := object_method_1_code, exceptionTable := #[], attributes := #[] }
def k0m0 : Method := { name := "<init>", desc := "()V", sig := { parameters := [], returnType := none }, accessFlags := 1, code := some k0c0 }
def k0m1 : Method := { name := "clone", desc := "()Ljava/lang/Object;", sig := { parameters := [], returnType := some (.object "java/lang/Object") }, accessFlags := 260, code := none }
/-- java/lang/Object -/
def k0 : Class := { plain "java/lang/Object" none with
  accessFlags := 33
  interfaces := #[]
  cf := some (fileOf pool0 8 #[] #[{ accessFlags := 1, nameIndex := 5, descriptorIndex := 6, attributes := #[] }, { accessFlags := 260, nameIndex := 96, descriptorIndex := 97, attributes := #[] }] 33 0 #[] #[])
  fields := #[]
  methods := #[k0m0, k0m1]
  instanceTypes := #[]
  staticTypes := #[]
  resolved := Array.replicate 124 none
  statics := none }

def pool1 : Array CpInfo := pool [(2, .class_ 4), (1, u "java/lang/Object"), (0, u "<init>"), (0, u "()V"), (0, .methodref 8 9), (0, .class_ 10), (0, .nameAndType 11 12), (0, u "com/example/coretally/coretally/estate/RegionOfPinLaw"), (0, u "draw"), (0, u "(I)C"), (0, .class_ 14), (0, u "java/lang/String"), (0, .methodref 13 16), (0, .nameAndType 5 17), (0, u "([C)V"), (0, .fieldref 19 20), (0, .class_ 21), (0, .nameAndType 22 23), (0, u "com/example/coretally/coretally/estate/Region"), (0, u "AMERICAS"), (0, u "Lcom/example/coretally/coretally/estate/Region;"), (0, .fieldref 19 25), (0, .nameAndType 26 23), (0, u "EUROPE_AND_AFRICA"), (0, .fieldref 19 28), (0, .nameAndType 29 23), (0, u "ASIA_AND_AUSTRALIA"), (0, .methodref 19 31), (0, .nameAndType 32 33), (0, u "of"), (0, u "(Ljava/lang/String;)Ljava/util/Optional;"), (0, .methodref 35 36), (0, .class_ 37), (0, .nameAndType 38 39), (0, u "java/util/Optional"), (0, u "orElse"), (0, u "(Ljava/lang/Object;)Ljava/lang/Object;"), (3, u "law"), (0, u "(IIII)Z")] 2

def k1m0 : Method := { name := "<init>", desc := "()V", sig := { parameters := [], returnType := none }, accessFlags := 1, code := none }
def k1c1 : Code := { maxStack := 3, maxLocals := 1, code := method_2_code, exceptionTable := #[], attributes := #[] }
def k1m1 : Method := { name := "draw", desc := "(I)C", sig := { parameters := [.int], returnType := some .char }, accessFlags := 10, code := some k1c1 }
def k1c2 : Code := { maxStack := 6, maxLocals := 12, code := code, exceptionTable := #[], attributes := #[] }
def k1m2 : Method := { name := "law", desc := "(IIII)Z", sig := { parameters := [.int, .int, .int, .int], returnType := some .boolean }, accessFlags := 9, code := some k1c2 }
/-- com/example/coretally/coretally/estate/RegionOfPinLaw -/
def k1 : Class := { plain "com/example/coretally/coretally/estate/RegionOfPinLaw" (some 0) with
  accessFlags := 49
  interfaces := #[]
  cf := some (fileOf pool1 8 #[] #[{ accessFlags := 1, nameIndex := 5, descriptorIndex := 6, attributes := #[] }, { accessFlags := 10, nameIndex := 11, descriptorIndex := 12, attributes := #[] }, { accessFlags := 9, nameIndex := 43, descriptorIndex := 44, attributes := #[] }] 49 2 #[] #[])
  fields := #[]
  methods := #[k1m0, k1m1, k1m2]
  instanceTypes := #[]
  staticTypes := #[]
  resolved := Array.replicate 47 none
  statics := none }

def pool2 : Array CpInfo := pool [(1, .class_ 2), (0, u "java/io/Serializable"), (0, .class_ 4), (0, u "java/lang/Object")] 2

/-- java/io/Serializable -/
def k2 : Class := { plain "java/io/Serializable" (some 0) with
  accessFlags := 1537
  interfaces := #[]
  cf := some (fileOf pool2 1 #[] #[] 1537 3 #[] #[])
  fields := #[]
  methods := #[]
  instanceTypes := #[]
  staticTypes := #[]
  resolved := Array.replicate 7 none
  statics := none }

def pool3 : Array CpInfo := pool [(1, .class_ 2), (0, u "java/lang/Comparable"), (0, .class_ 4), (0, u "java/lang/Object")] 7

/-- java/lang/Comparable -/
def k3 : Class := { plain "java/lang/Comparable" (some 0) with
  accessFlags := 1537
  interfaces := #[]
  cf := some (fileOf pool3 1 #[] #[] 1537 3 #[] #[])
  fields := #[]
  methods := #[]
  instanceTypes := #[]
  staticTypes := #[]
  resolved := Array.replicate 12 none
  statics := none }

def pool4 : Array CpInfo := pool [(2, .class_ 4), (1, u "java/lang/CharSequence"), (42, .class_ 48), (0, u "java/lang/CharSequence$1CodePointIterator"), (10, .class_ 60), (0, u "java/lang/CharSequence$1CharIterator"), (5, .class_ 67), (0, u "java/lang/Object")] 63

/-- java/lang/CharSequence -/
def k4 : Class := { plain "java/lang/CharSequence" (some 0) with
  accessFlags := 1537
  interfaces := #[]
  cf := some (fileOf pool4 2 #[.nestMembers #[47, 59]] #[] 1537 66 #[] #[])
  fields := #[]
  methods := #[]
  instanceTypes := #[]
  staticTypes := #[]
  resolved := Array.replicate 131 none
  statics := none }

def pool5 : Array CpInfo := pool [(1, .class_ 2), (0, u "java/lang/constant/Constable"), (0, .class_ 4), (0, u "java/lang/Object")] 6

/-- java/lang/constant/Constable -/
def k5 : Class := { plain "java/lang/constant/Constable" (some 0) with
  accessFlags := 1537
  interfaces := #[]
  cf := some (fileOf pool5 1 #[] #[] 1537 3 #[] #[])
  fields := #[]
  methods := #[]
  instanceTypes := #[]
  staticTypes := #[]
  resolved := Array.replicate 11 none
  statics := none }

def pool6 : Array CpInfo := pool [(1, .class_ 2), (0, u "java/lang/constant/ConstantDesc"), (0, .class_ 4), (0, u "java/lang/Object")] 32

/-- java/lang/constant/ConstantDesc -/
def k6 : Class := { plain "java/lang/constant/ConstantDesc" (some 0) with
  accessFlags := 1537
  interfaces := #[]
  cf := some (fileOf pool6 1 #[] #[] 1537 3 #[] #[])
  fields := #[]
  methods := #[]
  instanceTypes := #[]
  staticTypes := #[]
  resolved := Array.replicate 37 none
  statics := none }

def pool7 : Array CpInfo := pool [(1, .methodref 2 3), (0, .class_ 4), (0, .nameAndType 5 6), (0, u "java/lang/Object"), (0, u "<init>"), (0, u "()V"), (0, .string 8), (0, u ""), (0, .fieldref 10 11), (0, .class_ 12), (0, .nameAndType 13 14), (0, u "java/lang/String"), (0, u "value"), (0, u "[B"), (0, .fieldref 10 16), (0, .nameAndType 17 18), (0, u "coder"), (0, u "B"), (2, u "hash"), (0, u "I"), (2, u "hashIsZero"), (0, u "Z"), (0, .methodref 10 28), (0, .nameAndType 5 29), (0, u "([CIILjava/lang/Void;)V"), (8, .fieldref 10 39), (0, .nameAndType 40 26), (0, u "COMPACT_STRINGS"), (1, .class_ 44), (1, u "java/lang/StringUTF16"), (0, u "compress"), (1, .methodref 42 48), (0, .nameAndType 49 50), (0, u "coderFromArrayLen"), (0, u "([BI)B"), (56, .class_ 109), (1, u "java/lang/StringLatin1"), (67, .methodref 42 178), (0, .nameAndType 45 179), (0, u "([CII)[B"), (361, .methodref 107 542), (0, .nameAndType 543 544), (0, u "equals"), (0, u "([B[B)Z"), (28, u "(Ljava/lang/Object;)Z"), (1, .class_ 576), (0, u "java/lang/CharSequence"), (22, u "CASE_INSENSITIVE_ORDER"), (0, u "Ljava/util/Comparator;"), (409, u "([C)V"), (90, u "serialPersistentFields"), (0, u "[Ljava/io/ObjectStreamField;"), (0, .class_ 1104), (0, u "java/lang/String$CaseInsensitiveComparator"), (1, .class_ 1107), (0, u "java/io/Serializable"), (0, .class_ 1109), (0, u "java/lang/Comparable"), (0, .class_ 1111), (0, u "java/lang/constant/Constable"), (0, .class_ 1113), (0, u "java/lang/constant/ConstantDesc"), (2, u "serialVersionUID"), (0, u "J"), (3, u "REPL"), (0, u "C"), (2, u "LATIN1"), (1, u "UTF16")] 323

def k7m0 : Method := { name := "<init>", desc := "()V", sig := { parameters := [], returnType := none }, accessFlags := 1, code := none }
def k7c1 : Code := { maxStack := 5, maxLocals := 2, code := jdk_42_method_3_code, exceptionTable := #[], attributes := #[] }
def k7m1 : Method := { name := "<init>", desc := "([C)V", sig := { parameters := [(.array .char)], returnType := none }, accessFlags := 1, code := some k7c1 }
def k7c2 : Code := { maxStack := 2, maxLocals := 3, code := jdk_42_method_66_code, exceptionTable := #[], attributes := #[] }
def k7m2 : Method := { name := "equals", desc := "(Ljava/lang/Object;)Z", sig := { parameters := [(.object "java/lang/Object")], returnType := some .boolean }, accessFlags := 1, code := some k7c2 }
def k7c3 : Code := { maxStack := 4, maxLocals := 6, code := jdk_42_method_149_code, exceptionTable := #[], attributes := #[] }
def k7m3 : Method := { name := "<init>", desc := "([CIILjava/lang/Void;)V", sig := { parameters := [(.array .char), .int, .int, (.object "java/lang/Void")], returnType := none }, accessFlags := 2, code := some k7c3 }
/-- java/lang/String -/
def k7 : Class := { plain "java/lang/String" (some 0) with
  accessFlags := 49
  interfaces := #[2, 3, 4, 5, 6]
  cf := some (fileOf pool7 10 #[.nestMembers #[1103]] #[{ accessFlags := 1, nameIndex := 5, descriptorIndex := 6, attributes := #[] }, { accessFlags := 1, nameIndex := 5, descriptorIndex := 1010, attributes := #[] }, { accessFlags := 1, nameIndex := 543, descriptorIndex := 573, attributes := #[] }, { accessFlags := 2, nameIndex := 5, descriptorIndex := 29, attributes := #[] }] 49 2 #[1106, 1108, 575, 1110, 1112] #[{ accessFlags := 18, nameIndex := 13, descriptorIndex := 14, attributes := #[] }, { accessFlags := 18, nameIndex := 17, descriptorIndex := 18, attributes := #[] }, { accessFlags := 2, nameIndex := 21, descriptorIndex := 22, attributes := #[] }, { accessFlags := 2, nameIndex := 25, descriptorIndex := 26, attributes := #[] }, { accessFlags := 26, nameIndex := 1116, descriptorIndex := 1117, attributes := #[] }, { accessFlags := 24, nameIndex := 40, descriptorIndex := 26, attributes := #[] }, { accessFlags := 26, nameIndex := 1101, descriptorIndex := 1102, attributes := #[] }, { accessFlags := 26, nameIndex := 1121, descriptorIndex := 1122, attributes := #[] }, { accessFlags := 25, nameIndex := 599, descriptorIndex := 600, attributes := #[] }, { accessFlags := 24, nameIndex := 1125, descriptorIndex := 18, attributes := #[] }, { accessFlags := 24, nameIndex := 1127, descriptorIndex := 18, attributes := #[] }])
  fields := #[{ name := "value", type := (.array .byte), accessFlags := 18, slot := 0, constantValue := 0 }, { name := "coder", type := .byte, accessFlags := 18, slot := 1, constantValue := 0 }, { name := "hash", type := .int, accessFlags := 2, slot := 2, constantValue := 0 }, { name := "hashIsZero", type := .boolean, accessFlags := 2, slot := 3, constantValue := 0 }, { name := "serialVersionUID", type := .long, accessFlags := 26, slot := 0, constantValue := 0 }, { name := "COMPACT_STRINGS", type := .boolean, accessFlags := 24, slot := 1, constantValue := 0 }, { name := "serialPersistentFields", type := (.array (.object "java/io/ObjectStreamField")), accessFlags := 26, slot := 2, constantValue := 0 }, { name := "REPL", type := .char, accessFlags := 26, slot := 3, constantValue := 0 }, { name := "CASE_INSENSITIVE_ORDER", type := (.object "java/util/Comparator"), accessFlags := 25, slot := 4, constantValue := 0 }, { name := "LATIN1", type := .byte, accessFlags := 24, slot := 5, constantValue := 0 }, { name := "UTF16", type := .byte, accessFlags := 24, slot := 6, constantValue := 0 }]
  methods := #[k7m0, k7m1, k7m2, k7m3]
  instanceTypes := #[(.array .byte), .byte, .int, .boolean]
  staticTypes := #[.long, .boolean, (.array (.object "java/io/ObjectStreamField")), .char, (.object "java/util/Comparator"), .byte, .byte]
  resolved := Array.replicate 1451 none
  statics := some 0 }

def pool8 : Array CpInfo := pool [(2, .class_ 4), (1, u "java/lang/Enum"), (0, u "name"), (0, u "Ljava/lang/String;"), (2, u "ordinal"), (0, u "I"), (1, .class_ 14), (1, u "java/lang/Object"), (4, u "hash"), (86, .class_ 108), (1, u "java/lang/Enum$EnumDesc"), (2, .class_ 112), (0, u "java/lang/constant/Constable"), (0, .class_ 114), (0, u "java/lang/Comparable"), (0, .class_ 116), (0, u "java/io/Serializable")] 87

/-- java/lang/Enum -/
def k8 : Class := { plain "java/lang/Enum" (some 0) with
  accessFlags := 1057
  interfaces := #[5, 3, 2]
  cf := some (fileOf pool8 2 #[.nestMembers #[106]] #[] 1057 12 #[111, 113, 115] #[{ accessFlags := 18, nameIndex := 5, descriptorIndex := 6, attributes := #[] }, { accessFlags := 18, nameIndex := 9, descriptorIndex := 10, attributes := #[] }, { accessFlags := 2, nameIndex := 19, descriptorIndex := 10, attributes := #[] }])
  fields := #[{ name := "name", type := (.object "java/lang/String"), accessFlags := 18, slot := 0, constantValue := 0 }, { name := "ordinal", type := .int, accessFlags := 18, slot := 1, constantValue := 0 }, { name := "hash", type := .int, accessFlags := 2, slot := 2, constantValue := 0 }]
  methods := #[]
  instanceTypes := #[(.object "java/lang/String"), .int, .int]
  staticTypes := #[]
  resolved := Array.replicate 204 none
  statics := none }

def pool9 : Array CpInfo := pool [(1, .class_ 2), (0, u "com/example/coretally/coretally/estate/Region"), (2, u "AMERICAS"), (0, u "Lcom/example/coretally/coretally/estate/Region;"), (2, u "EUROPE_AND_AFRICA"), (2, u "ASIA_AND_AUSTRALIA"), (0, .fieldref 1 14), (0, .nameAndType 15 16), (0, u "$VALUES"), (0, u "[Lcom/example/coretally/coretally/estate/Region;"), (0, .methodref 18 19), (0, .class_ 16), (0, .nameAndType 20 21), (0, u "clone"), (0, u "()Ljava/lang/Object;"), (1, .class_ 25), (1, u "java/lang/Enum"), (8, u "number"), (0, u "I"), (2, u "lands"), (0, u "Ljava/lang/String;"), (6, .fieldref 1 47), (0, .nameAndType 48 39), (0, u "written"), (0, .methodref 50 51), (0, .class_ 52), (0, .nameAndType 53 54), (0, u "java/util/Optional"), (0, u "empty"), (0, u "()Ljava/util/Optional;"), (0, .methodref 1 56), (0, .nameAndType 57 58), (0, u "values"), (0, u "()[Lcom/example/coretally/coretally/estate/Region;"), (0, .methodref 60 61), (0, .class_ 62), (0, .nameAndType 63 64), (0, u "java/lang/String"), (0, u "equals"), (0, u "(Ljava/lang/Object;)Z"), (0, .methodref 50 66), (0, .nameAndType 67 68), (0, u "of"), (0, u "(Ljava/lang/Object;)Ljava/util/Optional;"), (23, u "(Ljava/lang/String;)Ljava/util/Optional;")] 7

def k9c0 : Code := { maxStack := 1, maxLocals := 0, code := prog_35_method_1_code, exceptionTable := #[], attributes := #[] }
def k9m0 : Method := { name := "values", desc := "()[Lcom/example/coretally/coretally/estate/Region;", sig := { parameters := [], returnType := some (.array (.object "com/example/coretally/coretally/estate/Region")) }, accessFlags := 9, code := some k9c0 }
def k9c1 : Code := { maxStack := 2, maxLocals := 6, code := prog_35_method_6_code, exceptionTable := #[], attributes := #[] }
def k9m1 : Method := { name := "of", desc := "(Ljava/lang/String;)Ljava/util/Optional;", sig := { parameters := [(.object "java/lang/String")], returnType := some (.object "java/util/Optional") }, accessFlags := 9, code := some k9c1 }
/-- com/example/coretally/coretally/estate/Region -/
def k9 : Class := { plain "com/example/coretally/coretally/estate/Region" (some 8) with
  accessFlags := 16433
  interfaces := #[]
  cf := some (fileOf pool9 1 #[] #[{ accessFlags := 9, nameIndex := 57, descriptorIndex := 58, attributes := #[] }, { accessFlags := 9, nameIndex := 67, descriptorIndex := 92, attributes := #[] }] 16433 23 #[] #[{ accessFlags := 16409, nameIndex := 5, descriptorIndex := 6, attributes := #[] }, { accessFlags := 16409, nameIndex := 9, descriptorIndex := 6, attributes := #[] }, { accessFlags := 16409, nameIndex := 12, descriptorIndex := 6, attributes := #[] }, { accessFlags := 18, nameIndex := 34, descriptorIndex := 35, attributes := #[] }, { accessFlags := 18, nameIndex := 38, descriptorIndex := 39, attributes := #[] }, { accessFlags := 18, nameIndex := 48, descriptorIndex := 39, attributes := #[] }, { accessFlags := 4122, nameIndex := 15, descriptorIndex := 16, attributes := #[] }])
  fields := #[{ name := "AMERICAS", type := (.object "com/example/coretally/coretally/estate/Region"), accessFlags := 16409, slot := 0, constantValue := 0 }, { name := "EUROPE_AND_AFRICA", type := (.object "com/example/coretally/coretally/estate/Region"), accessFlags := 16409, slot := 1, constantValue := 0 }, { name := "ASIA_AND_AUSTRALIA", type := (.object "com/example/coretally/coretally/estate/Region"), accessFlags := 16409, slot := 2, constantValue := 0 }, { name := "number", type := .int, accessFlags := 18, slot := 3, constantValue := 0 }, { name := "lands", type := (.object "java/lang/String"), accessFlags := 18, slot := 4, constantValue := 0 }, { name := "written", type := (.object "java/lang/String"), accessFlags := 18, slot := 5, constantValue := 0 }, { name := "$VALUES", type := (.array (.object "com/example/coretally/coretally/estate/Region")), accessFlags := 4122, slot := 3, constantValue := 0 }]
  methods := #[k9m0, k9m1]
  instanceTypes := #[(.object "java/lang/String"), .int, .int, .int, (.object "java/lang/String"), (.object "java/lang/String")]
  staticTypes := #[(.object "com/example/coretally/coretally/estate/Region"), (.object "com/example/coretally/coretally/estate/Region"), (.object "com/example/coretally/coretally/estate/Region"), (.array (.object "com/example/coretally/coretally/estate/Region"))]
  resolved := Array.replicate 100 none
  statics := some 1 }

def pool10 : Array CpInfo := pool [(1, .fieldref 2 3), (0, .class_ 4), (0, .nameAndType 5 6), (0, u "java/util/Optional"), (0, u "EMPTY"), (0, u "Ljava/util/Optional;"), (0, .methodref 8 9), (0, .class_ 10), (0, .nameAndType 11 12), (0, u "java/lang/Object"), (0, u "<init>"), (0, u "()V"), (0, .fieldref 2 14), (0, .nameAndType 15 16), (0, u "value"), (0, u "Ljava/lang/Object;"), (0, .methodref 18 19), (0, .class_ 20), (0, .nameAndType 21 22), (0, u "java/util/Objects"), (0, u "requireNonNull"), (0, u "(Ljava/lang/Object;)Ljava/lang/Object;"), (0, .methodref 2 24), (0, .nameAndType 11 25), (0, u "(Ljava/lang/Object;)V"), (29, u "empty"), (0, u "()Ljava/util/Optional;"), (8, u "(Ljava/lang/Object;)Ljava/util/Optional;"), (16, u "of"), (82, u "orElse")] 21

def k10c0 : Code := { maxStack := 1, maxLocals := 1, code := jdk_32_method_1_code, exceptionTable := #[], attributes := #[] }
def k10m0 : Method := { name := "empty", desc := "()Ljava/util/Optional;", sig := { parameters := [], returnType := some (.object "java/util/Optional") }, accessFlags := 9, code := some k10c0 }
def k10c1 : Code := { maxStack := 2, maxLocals := 2, code := jdk_32_method_2_code, exceptionTable := #[], attributes := #[] }
def k10m1 : Method := { name := "<init>", desc := "(Ljava/lang/Object;)V", sig := { parameters := [(.object "java/lang/Object")], returnType := none }, accessFlags := 2, code := some k10c1 }
def k10c2 : Code := { maxStack := 3, maxLocals := 1, code := jdk_32_method_3_code, exceptionTable := #[], attributes := #[] }
def k10m2 : Method := { name := "of", desc := "(Ljava/lang/Object;)Ljava/util/Optional;", sig := { parameters := [(.object "java/lang/Object")], returnType := some (.object "java/util/Optional") }, accessFlags := 9, code := some k10c2 }
def k10c3 : Code := { maxStack := 1, maxLocals := 2, code := jdk_32_method_15_code, exceptionTable := #[], attributes := #[] }
def k10m3 : Method := { name := "orElse", desc := "(Ljava/lang/Object;)Ljava/lang/Object;", sig := { parameters := [(.object "java/lang/Object")], returnType := some (.object "java/lang/Object") }, accessFlags := 1, code := some k10c3 }
/-- java/util/Optional -/
def k10 : Class := { plain "java/util/Optional" (some 0) with
  accessFlags := 49
  interfaces := #[]
  cf := some (fileOf pool10 2 #[] #[{ accessFlags := 9, nameIndex := 55, descriptorIndex := 56, attributes := #[] }, { accessFlags := 2, nameIndex := 11, descriptorIndex := 25, attributes := #[] }, { accessFlags := 9, nameIndex := 82, descriptorIndex := 65, attributes := #[] }, { accessFlags := 1, nameIndex := 165, descriptorIndex := 22, attributes := #[] }] 49 8 #[] #[{ accessFlags := 26, nameIndex := 5, descriptorIndex := 6, attributes := #[] }, { accessFlags := 18, nameIndex := 15, descriptorIndex := 16, attributes := #[] }])
  fields := #[{ name := "EMPTY", type := (.object "java/util/Optional"), accessFlags := 26, slot := 0, constantValue := 0 }, { name := "value", type := (.object "java/lang/Object"), accessFlags := 18, slot := 0, constantValue := 0 }]
  methods := #[k10m0, k10m1, k10m2, k10m3]
  instanceTypes := #[(.object "java/lang/Object")]
  staticTypes := #[(.object "java/util/Optional")]
  resolved := Array.replicate 187 none
  statics := some 2 }

def pool11 : Array CpInfo := pool [(1, .class_ 2), (0, u "java/lang/Cloneable"), (0, .class_ 4), (0, u "java/lang/Object")] 2

/-- java/lang/Cloneable -/
def k11 : Class := { plain "java/lang/Cloneable" (some 0) with
  accessFlags := 1537
  interfaces := #[]
  cf := some (fileOf pool11 1 #[] #[] 1537 3 #[] #[])
  fields := #[]
  methods := #[]
  instanceTypes := #[]
  staticTypes := #[]
  resolved := Array.replicate 7 none
  statics := none }

def pool12 : Array CpInfo := pool [(4, .class_ 6), (1, u "java/lang/Object"), (0, u "<init>"), (0, u "()V"), (5, .class_ 16), (1, u "java/lang/StringLatin1"), (104, u "$assertionsDisabled"), (0, u "Z"), (98, .class_ 223), (1, u "java/lang/StringLatin1$LinesSpliterator"), (57, u "equals"), (0, u "([B[B)Z"), (107, .class_ 391), (0, u "java/lang/StringLatin1$CharsSpliterator")] 3

def k12m0 : Method := { name := "<init>", desc := "()V", sig := { parameters := [], returnType := none }, accessFlags := 0, code := none }
def k12c1 : Code := { maxStack := 3, maxLocals := 3, code := jdk_43_method_13_code, exceptionTable := #[], attributes := #[] }
def k12m1 : Method := { name := "equals", desc := "([B[B)Z", sig := { parameters := [(.array .byte), (.array .byte)], returnType := some .boolean }, accessFlags := 9, code := some k12c1 }
/-- java/lang/StringLatin1 -/
def k12 : Class := { plain "java/lang/StringLatin1" (some 0) with
  accessFlags := 48
  interfaces := #[]
  cf := some (fileOf pool12 14 #[.nestMembers #[390, 221]] #[{ accessFlags := 0, nameIndex := 7, descriptorIndex := 8, attributes := #[] }, { accessFlags := 9, nameIndex := 281, descriptorIndex := 282, attributes := #[] }] 48 4 #[] #[{ accessFlags := 4120, nameIndex := 121, descriptorIndex := 122, attributes := #[] }])
  fields := #[{ name := "$assertionsDisabled", type := .boolean, accessFlags := 4120, slot := 0, constantValue := 0 }]
  methods := #[k12m0, k12m1]
  instanceTypes := #[]
  staticTypes := #[.boolean]
  resolved := Array.replicate 395 none
  statics := none }

def pool13 : Array CpInfo := pool [(6, .class_ 8), (1, u "java/lang/Object"), (0, u "<init>"), (0, u "()V"), (1, .class_ 14), (1, u "java/lang/StringUTF16"), (31, u "$assertionsDisabled"), (0, u "Z"), (13, u "HI_BYTE_SHIFT"), (0, u "I"), (2, u "LO_BYTE_SHIFT"), (49, .methodref 12 116), (0, .nameAndType 117 118), (0, u "compress"), (0, u "([CI[BII)I"), (3, u "([CII)[B"), (138, u "coderFromArrayLen"), (0, u "([BI)B"), (106, .class_ 371), (1, u "java/lang/StringUTF16$LinesSpliterator"), (58, u "MAX_LENGTH"), (196, .class_ 628), (0, u "java/lang/StringUTF16$CodePointsSpliterator"), (0, .class_ 630), (0, u "java/lang/StringUTF16$CharsSpliterator")] 4

def k13m0 : Method := { name := "<init>", desc := "()V", sig := { parameters := [], returnType := none }, accessFlags := 0, code := none }
def k13c1 : Code := { maxStack := 2, maxLocals := 2, code := jdk_52_method_15_code, exceptionTable := #[], attributes := #[] }
def k13m1 : Method := { name := "coderFromArrayLen", desc := "([BI)B", sig := { parameters := [(.array .byte), .int], returnType := some .byte }, accessFlags := 8, code := some k13c1 }
def k13c2 : Code := { maxStack := 5, maxLocals := 6, code := jdk_52_method_16_code, exceptionTable := #[], attributes := #[] }
def k13m2 : Method := { name := "compress", desc := "([CII)[B", sig := { parameters := [(.array .char), .int, .int], returnType := some (.array .byte) }, accessFlags := 9, code := some k13c2 }
def k13c3 : Code := { maxStack := 3, maxLocals := 7, code := jdk_52_method_21_code, exceptionTable := #[], attributes := #[] }
def k13m3 : Method := { name := "compress", desc := "([CI[BII)I", sig := { parameters := [(.array .char), .int, (.array .byte), .int, .int], returnType := some .int }, accessFlags := 9, code := some k13c3 }
/-- java/lang/StringUTF16 -/
def k13 : Class := { plain "java/lang/StringUTF16" (some 0) with
  accessFlags := 48
  interfaces := #[]
  cf := some (fileOf pool13 12 #[.nestMembers #[627, 629, 369]] #[{ accessFlags := 0, nameIndex := 9, descriptorIndex := 10, attributes := #[] }, { accessFlags := 8, nameIndex := 261, descriptorIndex := 262, attributes := #[] }, { accessFlags := 9, nameIndex := 117, descriptorIndex := 122, attributes := #[] }, { accessFlags := 9, nameIndex := 117, descriptorIndex := 118, attributes := #[] }] 48 6 #[] #[{ accessFlags := 26, nameIndex := 61, descriptorIndex := 62, attributes := #[] }, { accessFlags := 26, nameIndex := 65, descriptorIndex := 62, attributes := #[] }, { accessFlags := 24, nameIndex := 430, descriptorIndex := 62, attributes := #[] }, { accessFlags := 4120, nameIndex := 46, descriptorIndex := 47, attributes := #[] }])
  fields := #[{ name := "HI_BYTE_SHIFT", type := .int, accessFlags := 26, slot := 0, constantValue := 0 }, { name := "LO_BYTE_SHIFT", type := .int, accessFlags := 26, slot := 1, constantValue := 0 }, { name := "MAX_LENGTH", type := .int, accessFlags := 24, slot := 2, constantValue := 0 }, { name := "$assertionsDisabled", type := .boolean, accessFlags := 4120, slot := 3, constantValue := 0 }]
  methods := #[k13m0, k13m1, k13m2, k13m3]
  instanceTypes := #[]
  staticTypes := #[.int, .int, .int, .boolean]
  resolved := Array.replicate 635 none
  statics := none }

def pool14 : Array CpInfo := pool [(2, .class_ 4), (1, u "java/lang/Object"), (0, u "<init>"), (0, u "()V"), (35, .class_ 44), (1, u "java/util/Objects"), (0, u "requireNonNull"), (0, u "(Ljava/lang/Object;)Ljava/lang/Object;")] 137

def k14m0 : Method := { name := "<init>", desc := "()V", sig := { parameters := [], returnType := none }, accessFlags := 2, code := none }
def k14c1 : Code := { maxStack := 2, maxLocals := 1, code := jdk_31_method_10_code, exceptionTable := #[], attributes := #[] }
def k14m1 : Method := { name := "requireNonNull", desc := "(Ljava/lang/Object;)Ljava/lang/Object;", sig := { parameters := [(.object "java/lang/Object")], returnType := some (.object "java/lang/Object") }, accessFlags := 9, code := some k14c1 }
/-- java/util/Objects -/
def k14 : Class := { plain "java/util/Objects" (some 0) with
  accessFlags := 49
  interfaces := #[]
  cf := some (fileOf pool14 42 #[] #[{ accessFlags := 2, nameIndex := 5, descriptorIndex := 6, attributes := #[] }, { accessFlags := 9, nameIndex := 45, descriptorIndex := 46, attributes := #[] }] 49 2 #[] #[])
  fields := #[]
  methods := #[k14m0, k14m1]
  instanceTypes := #[]
  staticTypes := #[]
  resolved := Array.replicate 184 none
  statics := none }

def pool15 : Array CpInfo := pool [(2, .class_ 4), (1, u "java/lang/Object"), (0, u "<init>"), (0, u "()V"), (17, .class_ 26), (1, u "jdk/internal/util/Preconditions"), (28, .class_ 56), (0, u "jdk/internal/util/Preconditions$4"), (57, .class_ 115), (0, u "jdk/internal/util/Preconditions$1"), (7, u "SIOOBE_FORMATTER"), (0, u "Ljava/util/function/BiFunction;"), (0, .class_ 126), (0, u "jdk/internal/util/Preconditions$2"), (3, u "AIOOBE_FORMATTER"), (0, .class_ 132), (0, u "jdk/internal/util/Preconditions$3"), (3, u "IOOBE_FORMATTER")] 57

def k15m0 : Method := { name := "<init>", desc := "()V", sig := { parameters := [], returnType := none }, accessFlags := 1, code := none }
/-- jdk/internal/util/Preconditions -/
def k15 : Class := { plain "jdk/internal/util/Preconditions" (some 0) with
  accessFlags := 33
  interfaces := #[]
  cf := some (fileOf pool15 24 #[.nestMembers #[55, 131, 125, 114]] #[{ accessFlags := 1, nameIndex := 5, descriptorIndex := 6, attributes := #[] }] 33 2 #[] #[{ accessFlags := 25, nameIndex := 123, descriptorIndex := 124, attributes := #[] }, { accessFlags := 25, nameIndex := 130, descriptorIndex := 124, attributes := #[] }, { accessFlags := 25, nameIndex := 136, descriptorIndex := 124, attributes := #[] }])
  fields := #[{ name := "SIOOBE_FORMATTER", type := (.object "java/util/function/BiFunction"), accessFlags := 25, slot := 0, constantValue := 0 }, { name := "AIOOBE_FORMATTER", type := (.object "java/util/function/BiFunction"), accessFlags := 25, slot := 1, constantValue := 0 }, { name := "IOOBE_FORMATTER", type := (.object "java/util/function/BiFunction"), accessFlags := 25, slot := 2, constantValue := 0 }]
  methods := #[k15m0]
  instanceTypes := #[]
  staticTypes := #[(.object "java/util/function/BiFunction"), (.object "java/util/function/BiFunction"), (.object "java/util/function/BiFunction")]
  resolved := Array.replicate 194 none
  statics := some 3 }

def pool16 : Array CpInfo := pool [(9, u "<init>"), (6, .class_ 18), (1, u "java/lang/Object"), (0, u "()V"), (1, .class_ 23), (1, u "jdk/internal/util/ArraysSupport"), (0, u "LOG2_ARRAY_LONG_INDEX_SCALE"), (0, u "I"), (2, u "U"), (0, u "Ljdk/internal/misc/Unsafe;"), (8, u "BIG_ENDIAN"), (0, u "Z"), (8, u "LOG2_BYTE_BIT_SIZE"), (4, u "LOG2_ARRAY_INT_INDEX_SCALE"), (54, u "JLA"), (0, u "Ljdk/internal/access/JavaLangAccess;"), (11, u "LOG2_ARRAY_BOOLEAN_INDEX_SCALE"), (9, u "LOG2_ARRAY_BYTE_INDEX_SCALE"), (5, u "LOG2_ARRAY_CHAR_INDEX_SCALE"), (5, u "LOG2_ARRAY_SHORT_INDEX_SCALE"), (18, u "LOG2_ARRAY_FLOAT_INDEX_SCALE"), (24, u "LOG2_ARRAY_DOUBLE_INDEX_SCALE"), (89, u "T_BOOLEAN"), (2, u "T_CHAR"), (1, u "T_FLOAT"), (1, u "T_DOUBLE"), (1, u "T_BYTE"), (1, u "T_SHORT"), (1, u "T_INT"), (1, u "T_LONG"), (1, u "SOFT_MAX_ARRAY_LENGTH")] 83

def k16m0 : Method := { name := "<init>", desc := "()V", sig := { parameters := [], returnType := none }, accessFlags := 2, code := none }
/-- jdk/internal/util/ArraysSupport -/
def k16 : Class := { plain "jdk/internal/util/ArraysSupport" (some 0) with
  accessFlags := 33
  interfaces := #[]
  cf := some (fileOf pool16 21 #[] #[{ accessFlags := 2, nameIndex := 9, descriptorIndex := 19, attributes := #[] }] 33 16 #[] #[{ accessFlags := 24, nameIndex := 28, descriptorIndex := 29, attributes := #[] }, { accessFlags := 26, nameIndex := 38, descriptorIndex := 39, attributes := #[] }, { accessFlags := 25, nameIndex := 121, descriptorIndex := 25, attributes := #[] }, { accessFlags := 25, nameIndex := 131, descriptorIndex := 25, attributes := #[] }, { accessFlags := 25, nameIndex := 137, descriptorIndex := 25, attributes := #[] }, { accessFlags := 25, nameIndex := 143, descriptorIndex := 25, attributes := #[] }, { accessFlags := 25, nameIndex := 53, descriptorIndex := 25, attributes := #[] }, { accessFlags := 25, nameIndex := 24, descriptorIndex := 25, attributes := #[] }, { accessFlags := 25, nameIndex := 162, descriptorIndex := 25, attributes := #[] }, { accessFlags := 25, nameIndex := 187, descriptorIndex := 25, attributes := #[] }, { accessFlags := 26, nameIndex := 48, descriptorIndex := 25, attributes := #[] }, { accessFlags := 25, nameIndex := 277, descriptorIndex := 25, attributes := #[] }, { accessFlags := 25, nameIndex := 280, descriptorIndex := 25, attributes := #[] }, { accessFlags := 25, nameIndex := 282, descriptorIndex := 25, attributes := #[] }, { accessFlags := 25, nameIndex := 284, descriptorIndex := 25, attributes := #[] }, { accessFlags := 25, nameIndex := 286, descriptorIndex := 25, attributes := #[] }, { accessFlags := 25, nameIndex := 288, descriptorIndex := 25, attributes := #[] }, { accessFlags := 25, nameIndex := 290, descriptorIndex := 25, attributes := #[] }, { accessFlags := 25, nameIndex := 292, descriptorIndex := 25, attributes := #[] }, { accessFlags := 26, nameIndex := 108, descriptorIndex := 109, attributes := #[] }, { accessFlags := 25, nameIndex := 294, descriptorIndex := 25, attributes := #[] }])
  fields := #[{ name := "U", type := (.object "jdk/internal/misc/Unsafe"), accessFlags := 24, slot := 0, constantValue := 0 }, { name := "BIG_ENDIAN", type := .boolean, accessFlags := 26, slot := 1, constantValue := 0 }, { name := "LOG2_ARRAY_BOOLEAN_INDEX_SCALE", type := .int, accessFlags := 25, slot := 2, constantValue := 0 }, { name := "LOG2_ARRAY_BYTE_INDEX_SCALE", type := .int, accessFlags := 25, slot := 3, constantValue := 0 }, { name := "LOG2_ARRAY_CHAR_INDEX_SCALE", type := .int, accessFlags := 25, slot := 4, constantValue := 0 }, { name := "LOG2_ARRAY_SHORT_INDEX_SCALE", type := .int, accessFlags := 25, slot := 5, constantValue := 0 }, { name := "LOG2_ARRAY_INT_INDEX_SCALE", type := .int, accessFlags := 25, slot := 6, constantValue := 0 }, { name := "LOG2_ARRAY_LONG_INDEX_SCALE", type := .int, accessFlags := 25, slot := 7, constantValue := 0 }, { name := "LOG2_ARRAY_FLOAT_INDEX_SCALE", type := .int, accessFlags := 25, slot := 8, constantValue := 0 }, { name := "LOG2_ARRAY_DOUBLE_INDEX_SCALE", type := .int, accessFlags := 25, slot := 9, constantValue := 0 }, { name := "LOG2_BYTE_BIT_SIZE", type := .int, accessFlags := 26, slot := 10, constantValue := 0 }, { name := "T_BOOLEAN", type := .int, accessFlags := 25, slot := 11, constantValue := 0 }, { name := "T_CHAR", type := .int, accessFlags := 25, slot := 12, constantValue := 0 }, { name := "T_FLOAT", type := .int, accessFlags := 25, slot := 13, constantValue := 0 }, { name := "T_DOUBLE", type := .int, accessFlags := 25, slot := 14, constantValue := 0 }, { name := "T_BYTE", type := .int, accessFlags := 25, slot := 15, constantValue := 0 }, { name := "T_SHORT", type := .int, accessFlags := 25, slot := 16, constantValue := 0 }, { name := "T_INT", type := .int, accessFlags := 25, slot := 17, constantValue := 0 }, { name := "T_LONG", type := .int, accessFlags := 25, slot := 18, constantValue := 0 }, { name := "JLA", type := (.object "jdk/internal/access/JavaLangAccess"), accessFlags := 26, slot := 19, constantValue := 0 }, { name := "SOFT_MAX_ARRAY_LENGTH", type := .int, accessFlags := 25, slot := 20, constantValue := 0 }]
  methods := #[k16m0]
  instanceTypes := #[]
  staticTypes := #[(.object "jdk/internal/misc/Unsafe"), .boolean, .int, .int, .int, .int, .int, .int, .int, .int, .int, .int, .int, .int, .int, .int, .int, .int, .int, (.object "jdk/internal/access/JavaLangAccess"), .int]
  resolved := Array.replicate 378 none
  statics := none }

/-- the primitive byte -/
def k17 : Class := { plain "byte" none with kind := .primitive 'B', accessFlags := 0x411 }
/-- [B -/
def k18 : Class := { plain "[B" (some 0) with kind := .array 17 .byte, interfaces := #[11, 2], accessFlags := 1041 }

/-- the primitive char -/
def k19 : Class := { plain "char" none with kind := .primitive 'C', accessFlags := 0x411 }
/-- [C -/
def k20 : Class := { plain "[C" (some 0) with kind := .array 19 .char, interfaces := #[11, 2], accessFlags := 1041 }

/-- the primitive int -/
def k21 : Class := { plain "int" none with kind := .primitive 'I', accessFlags := 0x411 }
/-- [I -/
def k22 : Class := { plain "[I" (some 0) with kind := .array 21 .int, interfaces := #[11, 2], accessFlags := 1041 }

/-- [Lcom/example/coretally/coretally/estate/Region; -/
def k23 : Class := { plain "[Lcom/example/coretally/coretally/estate/Region;" (some 0) with kind := .array 9 (.object "com/example/coretally/coretally/estate/Region"), interfaces := #[11, 2], accessFlags := 1041 }

def heap : Heap := #[{ cls := 7, slots := #[.long 0, .int 1, .null, .int 0, .null, .int 0, .int 0], vm := .statics 7 },
  { cls := 9, slots := #[.ref 11, .ref 12, .ref 13, .ref 4], vm := .statics 9 },
  { cls := 10, slots := #[.ref 14], vm := .statics 10 },
  { cls := 15, slots := #[.null, .null, .null], vm := .statics 15 },
  { cls := 23, slots := #[.ref 11, .ref 12, .ref 13], vm := .none },
  { cls := 18, slots := #[.int 49], vm := .none },
  { cls := 18, slots := #[.int 50], vm := .none },
  { cls := 18, slots := #[.int 51], vm := .none },
  { cls := 7, slots := #[.ref 5, .int 0, .int 0, .int 0], vm := .none },
  { cls := 7, slots := #[.ref 6, .int 0, .int 0, .int 0], vm := .none },
  { cls := 7, slots := #[.ref 7, .int 0, .int 0, .int 0], vm := .none },
  { cls := 9, slots := #[.null, .int 0, .int 0, .int 1, .null, .ref 8], vm := .none },
  { cls := 9, slots := #[.null, .int 0, .int 0, .int 2, .null, .ref 9], vm := .none },
  { cls := 9, slots := #[.null, .int 0, .int 0, .int 3, .null, .ref 10], vm := .none },
  { cls := 10, slots := #[.null], vm := .none }]
def classes : Array Class := #[k0, k1, k2, k3, k4, k5, k6, k7, k8, k9, k10, k11, k12, k13, k14, k15, k16, k17, k18, k19, k20, k21, k22, k23]
def interned : List (Array UInt16 × Addr) := []
def slotsUsed : Nat := 52
def theMethod : MethodId := ⟨1, 2⟩
def args0 : Array Value := #[.int 1, .int 49, .int 50, .int 51]
def aboutOver (below : List Frame) : State where
  vm := { classes := classes, interned := interned.toArray }
  heap := heap
  slotsUsed := slotsUsed
  threads := #[{ frames := .invoking theMethod args0 :: below }]
def below0 : List Frame := [.native { method := ⟨0, 0⟩, args := #[] }]
def about1 : State := aboutOver below0
def p0 : Program := .bare "" "" ""
def e0 : Env := launch0.env 0 0 0
theorem w_frames : about1.frames = Frame.invoking theMethod args0 :: below0 := rfl
set_option maxRecDepth 65536 in
theorem w_args : argsFit about1.vm theMethod args0 = true := by decide +kernel
set_option maxRecDepth 65536 in
theorem w_heap : heapFits about1 = true := by decide +kernel
set_option maxRecDepth 65536 in
theorem w_runnable : about1.curStatus? = some .runnable := by decide +kernel
set_option maxRecDepth 65536 in
theorem w_alone : about1.alone = true := by decide +kernel
set_option maxRecDepth 65536 in
theorem w_named : about1.methodNamed? x = some theMethod := by decide +kernel
set_option maxRecDepth 65536 in
theorem w_hears : about1.hears theMethod below0 = true := by decide +kernel
set_option maxRecDepth 65536 in
theorem w_ripe : about1.ripe theMethod args0 below0 = true := by decide +kernel
theorem w_running : about1.status = .running := rfl
set_option maxRecDepth 65536 in
theorem w_room : about1.hasRoom e0.platform room_1 = true :=
  launch0.hasRoom_least _ room_1 (by decide +kernel) (by decide +kernel) (by decide +kernel) (by decide +kernel) (by decide +kernel) (by decide +kernel)
theorem allAtoms_all (ts : List Jvm.Cond) (a : Array Jvm.Value) (st : Jvm.State) : (allAtoms ts).before a st = ts.all (fun c => c.before a st) := by
  induction ts with
  | nil => rfl
  | cons c t ih =>
    show (Jvm.Cond.and c (allAtoms t)).before a st = _
    rw [Jvm.Cond.before_and, ih, List.all_cons]
def words1 : List Jvm.Cond := Jvm.Cond.code x code maxLocals ret :: tables_1
/-- a 'code' word, met by the world's own term for the bytes: nothing is compared byte by byte -/
theorem code_word {y : MethodName} {bytes : ByteArray} {mx : Nat} {rt : Option FieldType} {a : Array Value} {s : State} {m : MethodId} {meth : Method} {c : Code} (h1 : s.methodNamed? y = some m) (h2 : s.vm.method? m = some meth) (h3 : meth.code = some c) (h4 : c.code = bytes)
    (h5 : (c.maxLocals == mx && c.exceptionTable.isEmpty && decide (c.maxStack ≤ mostOperands) && decide (meth.sig.returnType = rt) && !meth.locks && decide (parseMethodDescriptor y.desc = some meth.sig)) = true) : (Jvm.Cond.code y bytes mx rt).before a s = true := by
  simp only [Bool.and_eq_true, beq_iff_eq, Bool.not_eq_true', decide_eq_true_eq] at h5
  obtain ⟨⟨⟨⟨⟨g1, g2⟩, g3⟩, g4⟩, g5⟩, g6⟩ := h5
  simp [Cond.before, Cond.holds, Cond.value, h1, h2, h3, h4, g1, g2, g3, g4, g5, g6]
def isCode : Jvm.Cond → Bool
  | .code _ _ _ _ => true
  | _ => false
theorem all_split {L : List Jvm.Cond} {P : Jvm.Cond → Bool} (h1 : L.all (fun c => isCode c || P c) = true) (h2 : ∀ c ∈ L.filter isCode, P c = true) : L.all P = true := by
  refine List.all_eq_true.mpr fun c hc => ?_
  have h := List.all_eq_true.mp h1 c hc
  rcases Bool.eq_false_or_eq_true (isCode c) with hi | hi
  · exact h2 c (List.mem_filter.mpr ⟨hc, hi⟩)
  · simpa [hi] using h
set_option maxRecDepth 65536 in
theorem w_c0 : (Jvm.Cond.code x code maxLocals ret).before args0 about1 = true := code_word (m := ⟨1, 2⟩) (meth := k1m2) (c := k1c2) (by decide +kernel) rfl rfl rfl (by decide +kernel)
set_option maxRecDepth 65536 in
theorem w_c1 : (Jvm.Cond.code ({ cls := "com/example/coretally/coretally/estate/RegionOfPinLaw", name := "draw", desc := "(I)C" } : Jvm.MethodName) method_2_code (1 : Nat) (Option.some Jvm.ClassFile.FieldType.char)).before args0 about1 = true := code_word (m := ⟨1, 1⟩) (meth := k1m1) (c := k1c1) (by decide +kernel) rfl rfl rfl (by decide +kernel)
set_option maxRecDepth 65536 in
theorem w_c2 : (Jvm.Cond.code ({ cls := "java/lang/String", name := "<init>", desc := "([C)V" } : Jvm.MethodName) jdk_42_method_3_code (2 : Nat) (Option.none : Option Jvm.ClassFile.FieldType)).before args0 about1 = true := code_word (m := ⟨7, 1⟩) (meth := k7m1) (c := k7c1) (by decide +kernel) rfl rfl rfl (by decide +kernel)
set_option maxRecDepth 65536 in
theorem w_c3 : (Jvm.Cond.code ({ cls := "java/lang/String", name := "<init>", desc := "([CIILjava/lang/Void;)V" } : Jvm.MethodName) jdk_42_method_149_code (6 : Nat) (Option.none : Option Jvm.ClassFile.FieldType)).before args0 about1 = true := code_word (m := ⟨7, 3⟩) (meth := k7m3) (c := k7c3) (by decide +kernel) rfl rfl rfl (by decide +kernel)
set_option maxRecDepth 65536 in
theorem w_c4 : (Jvm.Cond.code ({ cls := "java/lang/Object", name := "<init>", desc := "()V" } : Jvm.MethodName) object_method_1_code (1 : Nat) (Option.none : Option Jvm.ClassFile.FieldType)).before args0 about1 = true := code_word (m := ⟨0, 0⟩) (meth := k0m0) (c := k0c0) (by decide +kernel) rfl rfl rfl (by decide +kernel)
set_option maxRecDepth 65536 in
theorem w_c5 : (Jvm.Cond.code ({ cls := "com/example/coretally/coretally/estate/Region", name := "of", desc := "(Ljava/lang/String;)Ljava/util/Optional;" } : Jvm.MethodName) prog_35_method_6_code (6 : Nat) (Option.some (Jvm.ClassFile.FieldType.object "java/util/Optional"))).before args0 about1 = true := code_word (m := ⟨9, 1⟩) (meth := k9m1) (c := k9c1) (by decide +kernel) rfl rfl rfl (by decide +kernel)
set_option maxRecDepth 65536 in
theorem w_c6 : (Jvm.Cond.code ({ cls := "java/util/Optional", name := "empty", desc := "()Ljava/util/Optional;" } : Jvm.MethodName) jdk_32_method_1_code (1 : Nat) (Option.some (Jvm.ClassFile.FieldType.object "java/util/Optional"))).before args0 about1 = true := code_word (m := ⟨10, 0⟩) (meth := k10m0) (c := k10c0) (by decide +kernel) rfl rfl rfl (by decide +kernel)
set_option maxRecDepth 65536 in
theorem w_c7 : (Jvm.Cond.code ({ cls := "com/example/coretally/coretally/estate/Region", name := "values", desc := "()[Lcom/example/coretally/coretally/estate/Region;" } : Jvm.MethodName) prog_35_method_1_code (0 : Nat) (Option.some (Jvm.ClassFile.FieldType.array (Jvm.ClassFile.FieldType.object "com/example/coretally/coretally/estate/Region")))).before args0 about1 = true := code_word (m := ⟨9, 0⟩) (meth := k9m0) (c := k9c0) (by decide +kernel) rfl rfl rfl (by decide +kernel)
set_option maxRecDepth 65536 in
theorem w_c8 : (Jvm.Cond.code ({ cls := "java/lang/String", name := "equals", desc := "(Ljava/lang/Object;)Z" } : Jvm.MethodName) jdk_42_method_66_code (3 : Nat) (Option.some Jvm.ClassFile.FieldType.boolean)).before args0 about1 = true := code_word (m := ⟨7, 2⟩) (meth := k7m2) (c := k7c2) (by decide +kernel) rfl rfl rfl (by decide +kernel)
set_option maxRecDepth 65536 in
theorem w_c9 : (Jvm.Cond.code ({ cls := "java/lang/StringLatin1", name := "equals", desc := "([B[B)Z" } : Jvm.MethodName) jdk_43_method_13_code (3 : Nat) (Option.some Jvm.ClassFile.FieldType.boolean)).before args0 about1 = true := code_word (m := ⟨12, 1⟩) (meth := k12m1) (c := k12c1) (by decide +kernel) rfl rfl rfl (by decide +kernel)
set_option maxRecDepth 65536 in
theorem w_c10 : (Jvm.Cond.code ({ cls := "java/util/Optional", name := "orElse", desc := "(Ljava/lang/Object;)Ljava/lang/Object;" } : Jvm.MethodName) jdk_32_method_15_code (2 : Nat) (Option.some (Jvm.ClassFile.FieldType.object "java/lang/Object"))).before args0 about1 = true := code_word (m := ⟨10, 3⟩) (meth := k10m3) (c := k10c3) (by decide +kernel) rfl rfl rfl (by decide +kernel)
set_option maxRecDepth 65536 in
theorem w_c11 : (Jvm.Cond.code ({ cls := "java/lang/StringUTF16", name := "compress", desc := "([CII)[B" } : Jvm.MethodName) jdk_52_method_16_code (6 : Nat) (Option.some (Jvm.ClassFile.FieldType.array Jvm.ClassFile.FieldType.byte))).before args0 about1 = true := code_word (m := ⟨13, 2⟩) (meth := k13m2) (c := k13c2) (by decide +kernel) rfl rfl rfl (by decide +kernel)
set_option maxRecDepth 65536 in
theorem w_c12 : (Jvm.Cond.code ({ cls := "java/lang/StringUTF16", name := "compress", desc := "([CI[BII)I" } : Jvm.MethodName) jdk_52_method_21_code (7 : Nat) (Option.some Jvm.ClassFile.FieldType.int)).before args0 about1 = true := code_word (m := ⟨13, 3⟩) (meth := k13m3) (c := k13c3) (by decide +kernel) rfl rfl rfl (by decide +kernel)
set_option maxRecDepth 65536 in
theorem w_c13 : (Jvm.Cond.code ({ cls := "java/lang/StringUTF16", name := "coderFromArrayLen", desc := "([BI)B" } : Jvm.MethodName) jdk_52_method_15_code (2 : Nat) (Option.some Jvm.ClassFile.FieldType.byte)).before args0 about1 = true := code_word (m := ⟨13, 1⟩) (meth := k13m1) (c := k13c1) (by decide +kernel) rfl rfl rfl (by decide +kernel)
set_option maxRecDepth 65536 in
theorem w_c14 : (Jvm.Cond.code ({ cls := "java/util/Optional", name := "of", desc := "(Ljava/lang/Object;)Ljava/util/Optional;" } : Jvm.MethodName) jdk_32_method_3_code (1 : Nat) (Option.some (Jvm.ClassFile.FieldType.object "java/util/Optional"))).before args0 about1 = true := code_word (m := ⟨10, 2⟩) (meth := k10m2) (c := k10c2) (by decide +kernel) rfl rfl rfl (by decide +kernel)
set_option maxRecDepth 65536 in
theorem w_c15 : (Jvm.Cond.code ({ cls := "java/util/Objects", name := "requireNonNull", desc := "(Ljava/lang/Object;)Ljava/lang/Object;" } : Jvm.MethodName) jdk_31_method_10_code (1 : Nat) (Option.some (Jvm.ClassFile.FieldType.object "java/lang/Object"))).before args0 about1 = true := code_word (m := ⟨14, 1⟩) (meth := k14m1) (c := k14c1) (by decide +kernel) rfl rfl rfl (by decide +kernel)
set_option maxRecDepth 65536 in
theorem w_c16 : (Jvm.Cond.code ({ cls := "java/util/Optional", name := "<init>", desc := "(Ljava/lang/Object;)V" } : Jvm.MethodName) jdk_32_method_2_code (2 : Nat) (Option.none : Option Jvm.ClassFile.FieldType)).before args0 about1 = true := code_word (m := ⟨10, 1⟩) (meth := k10m1) (c := k10c1) (by decide +kernel) rfl rfl rfl (by decide +kernel)
def codes1 : List Jvm.Cond := [Jvm.Cond.code x code maxLocals ret, Jvm.Cond.code ({ cls := "com/example/coretally/coretally/estate/RegionOfPinLaw", name := "draw", desc := "(I)C" } : Jvm.MethodName) method_2_code (1 : Nat) (Option.some Jvm.ClassFile.FieldType.char), Jvm.Cond.code ({ cls := "java/lang/String", name := "<init>", desc := "([C)V" } : Jvm.MethodName) jdk_42_method_3_code (2 : Nat) (Option.none : Option Jvm.ClassFile.FieldType), Jvm.Cond.code ({ cls := "java/lang/String", name := "<init>", desc := "([CIILjava/lang/Void;)V" } : Jvm.MethodName) jdk_42_method_149_code (6 : Nat) (Option.none : Option Jvm.ClassFile.FieldType), Jvm.Cond.code ({ cls := "java/lang/Object", name := "<init>", desc := "()V" } : Jvm.MethodName) object_method_1_code (1 : Nat) (Option.none : Option Jvm.ClassFile.FieldType), Jvm.Cond.code ({ cls := "com/example/coretally/coretally/estate/Region", name := "of", desc := "(Ljava/lang/String;)Ljava/util/Optional;" } : Jvm.MethodName) prog_35_method_6_code (6 : Nat) (Option.some (Jvm.ClassFile.FieldType.object "java/util/Optional")), Jvm.Cond.code ({ cls := "java/util/Optional", name := "empty", desc := "()Ljava/util/Optional;" } : Jvm.MethodName) jdk_32_method_1_code (1 : Nat) (Option.some (Jvm.ClassFile.FieldType.object "java/util/Optional")), Jvm.Cond.code ({ cls := "com/example/coretally/coretally/estate/Region", name := "values", desc := "()[Lcom/example/coretally/coretally/estate/Region;" } : Jvm.MethodName) prog_35_method_1_code (0 : Nat) (Option.some (Jvm.ClassFile.FieldType.array (Jvm.ClassFile.FieldType.object "com/example/coretally/coretally/estate/Region"))), Jvm.Cond.code ({ cls := "java/lang/String", name := "equals", desc := "(Ljava/lang/Object;)Z" } : Jvm.MethodName) jdk_42_method_66_code (3 : Nat) (Option.some Jvm.ClassFile.FieldType.boolean), Jvm.Cond.code ({ cls := "java/lang/StringLatin1", name := "equals", desc := "([B[B)Z" } : Jvm.MethodName) jdk_43_method_13_code (3 : Nat) (Option.some Jvm.ClassFile.FieldType.boolean), Jvm.Cond.code ({ cls := "java/util/Optional", name := "orElse", desc := "(Ljava/lang/Object;)Ljava/lang/Object;" } : Jvm.MethodName) jdk_32_method_15_code (2 : Nat) (Option.some (Jvm.ClassFile.FieldType.object "java/lang/Object")), Jvm.Cond.code ({ cls := "java/lang/StringUTF16", name := "compress", desc := "([CII)[B" } : Jvm.MethodName) jdk_52_method_16_code (6 : Nat) (Option.some (Jvm.ClassFile.FieldType.array Jvm.ClassFile.FieldType.byte)), Jvm.Cond.code ({ cls := "java/lang/StringUTF16", name := "compress", desc := "([CI[BII)I" } : Jvm.MethodName) jdk_52_method_21_code (7 : Nat) (Option.some Jvm.ClassFile.FieldType.int), Jvm.Cond.code ({ cls := "java/lang/StringUTF16", name := "coderFromArrayLen", desc := "([BI)B" } : Jvm.MethodName) jdk_52_method_15_code (2 : Nat) (Option.some Jvm.ClassFile.FieldType.byte), Jvm.Cond.code ({ cls := "java/util/Optional", name := "of", desc := "(Ljava/lang/Object;)Ljava/util/Optional;" } : Jvm.MethodName) jdk_32_method_3_code (1 : Nat) (Option.some (Jvm.ClassFile.FieldType.object "java/util/Optional")), Jvm.Cond.code ({ cls := "java/util/Objects", name := "requireNonNull", desc := "(Ljava/lang/Object;)Ljava/lang/Object;" } : Jvm.MethodName) jdk_31_method_10_code (1 : Nat) (Option.some (Jvm.ClassFile.FieldType.object "java/lang/Object")), Jvm.Cond.code ({ cls := "java/util/Optional", name := "<init>", desc := "(Ljava/lang/Object;)V" } : Jvm.MethodName) jdk_32_method_2_code (2 : Nat) (Option.none : Option Jvm.ClassFile.FieldType)]
set_option maxRecDepth 65536 in
theorem codes_eq : words1.filter isCode = codes1 := rfl
theorem w_codes : ∀ c ∈ words1.filter isCode, c.before args0 about1 = true := by
  rw [codes_eq]
  intro c hc
  simp only [codes1, List.mem_cons, List.not_mem_nil, or_false] at hc
  rcases hc with rfl | rfl | rfl | rfl | rfl | rfl | rfl | rfl | rfl | rfl | rfl | rfl | rfl | rfl | rfl | rfl | rfl
  · exact w_c0
  · exact w_c1
  · exact w_c2
  · exact w_c3
  · exact w_c4
  · exact w_c5
  · exact w_c6
  · exact w_c7
  · exact w_c8
  · exact w_c9
  · exact w_c10
  · exact w_c11
  · exact w_c12
  · exact w_c13
  · exact w_c14
  · exact w_c15
  · exact w_c16
set_option maxRecDepth 65536 in
theorem w_t1 : (words1.take 24).all (fun c => isCode c || c.before args0 about1) = true := by decide +kernel
set_option maxRecDepth 65536 in
theorem w_t2 : ((words1.drop 24).take 24).all (fun c => isCode c || c.before args0 about1) = true := by decide +kernel
set_option maxRecDepth 65536 in
theorem w_t3 : (((words1.drop 24).drop 24).take 24).all (fun c => isCode c || c.before args0 about1) = true := by decide +kernel
set_option maxRecDepth 65536 in
theorem w_t4 : ((((words1.drop 24).drop 24).drop 24).take 24).all (fun c => isCode c || c.before args0 about1) = true := by decide +kernel
set_option maxRecDepth 65536 in
theorem w_t5 : ((((words1.drop 24).drop 24).drop 24).drop 24).all (fun c => isCode c || c.before args0 about1) = true := by decide +kernel
theorem w_tables : (allAtoms (Jvm.Cond.code x code maxLocals ret :: tables_1)).before args0 about1 = true := by
  rw [allAtoms_all]
  show words1.all (fun c => c.before args0 about1) = true
  refine all_split ?_ w_codes
  rw [← List.take_append_drop 24 words1, List.all_append, w_t1, ← List.take_append_drop 24 (words1.drop 24), List.all_append, w_t2, ← List.take_append_drop 24 ((words1.drop 24).drop 24), List.all_append, w_t3, ← List.take_append_drop 24 (((words1.drop 24).drop 24).drop 24), List.all_append, w_t4, w_t5]
  rfl
set_option maxRecDepth 65536 in
theorem w_rest : rest_1_c.before args0 about1 = true := by decide +kernel
set_option maxRecDepth 65536 in
theorem w_case : (Jvm.Cond.and given_1 narrow_1).before args0 about1 = true := by decide +kernel
set_option maxRecDepth 65536 in
theorem w_consts : constsHeld consts_1 about1 := Jvm.Lit.constsHeldB_iff.mp (by decide +kernel)
theorem w_applies : (headSpec (Jvm.Cond.code x code maxLocals ret :: tables_1) room_1).applies x e0.platform about1 = true :=
  (Spec.applies_iff w_frames).mpr ⟨w_running, w_runnable, w_alone, w_named, w_hears, w_ripe, w_room, w_tables⟩
theorem atStart : AtStart classFile x code maxLocals ret World_1 tables_1 room_1 Calls_1 rest_1 Pre_1 launch0 p0 e0 about1 theMethod args0 below0 :=
  ⟨lists_1, trivial, launch0.admits_env _ _ _, launch0.least_env, fairChoices_fair.cas, fairChoices_fair.clock, w_frames, w_args, w_heap, w_applies, ⟨w_consts, trivial⟩, w_rest, w_case⟩
end start1
theorem witness_1 : WitnessClaimed_1 := ⟨start1.p0, start1.e0, start1.about1, start1.theMethod, start1.args0, start1.below0, start1.atStart⟩
end Jvm.Pilot.@@N@@
