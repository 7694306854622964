import JvmDerived
import JvmDerived.Pilot.@@N@@Statement
import JvmDerived.Pilot.@@N@@Code
set_option linter.unusedVariables false
set_option linter.unusedSimpArgs false
@@BLOCK:NumsL.lean.txt@@
/- laws to paste: Road.backV, Road.lenW, Road.chN, Road.codOf (cut by pick.py; bodies as the Statement names them) -/
namespace Jvm.Pilot.@@N@@
namespace StrChars
open Jvm Sem ClassFile Op Lib Jvm.Stand Jvm.Free.XT Jvm.Free.ALB Jvm.Free.JM Jvm.Free
open Jvm.Lib.Cold (StaticIs)
/-- a char array whose places are chars -/
def Ch (a : Addr) (A : Cell) (U : State) : Prop := Arr .char a A U ∧ Typed .char A
theorem Ch.mv {a : Addr} {A : Cell} {U U' : State} (h : Ch a A U) (hal : U.vm.Alike U'.vm) (hh : U'.heap = U.heap) : Ch a A U' := ⟨h.1.mv hal hh, h.2⟩
theorem Ch.keep {a : Addr} {A : Cell} {U U' : State} (h : Ch a A U) (hal : U.vm.Alike U'.vm) (hk : U'.heap[a]? = some A) : Ch a A U' := ⟨h.1.keep hal hk, h.2⟩
/-- what place i of a char[]'s cell holds -/
def cv (A : Cell) (i : Nat) : Int32 := match A.slots[i]? with | some (.int x) => x | _ => 0
theorem Ch.get {a : Addr} {A : Cell} {U : State} (h : Ch a A U) {i : Nat} (hi : i < A.slots.size) : A.slots[i]? = some (.int (cv A i)) := by
  have e := Array.getElem?_eq_getElem hi
  have f := h.2 i _ e
  unfold cv; rw [e]
  generalize A.slots[i] = v at f
  cases v <;> simp [fits] at f ⊢
/-- the byte that i2b leaves of a char -/
def lo8 (x : Int32) : Int32 := x.toInt8.toInt32
theorem fits_lo8 (y : Int32) : fits .byte (.int (lo8 y)) = true := by
  have h1 := y.toInt8.le_toInt
  have h2 := y.toInt8.toInt_lt
  simp only [lo8, fits, Bool.and_eq_true, decide_eq_true_eq, Int32.le_iff_toInt_le, Int8.toInt_toInt32, show (-128 : Int32).toInt = -128 from by decide, show (127 : Int32).toInt = 127 from by decide]
  omega
/-- A' is A but that each place j of lo .. hi - 1 holds f j -/
def Laid (A A' : Cell) (lo hi : Nat) (f : Nat → Value) : Prop := A'.cls = A.cls ∧ A'.vm = A.vm ∧ A'.slots.size = A.slots.size ∧ ∀ i, A'.slots[i]? = if lo ≤ i ∧ i < hi then some (f i) else A.slots[i]?
theorem Laid.zero (A : Cell) (lo : Nat) (f : Nat → Value) : Laid A A lo (lo + 0) f := ⟨rfl, rfl, rfl, fun i => by rw [if_neg (by omega)]⟩
theorem Laid.step {A Ak : Cell} {lo k : Nat} {f : Nat → Value} {v : Value} (h : Laid A Ak lo k f) (hlo : lo ≤ k) (hk : k < Ak.slots.size) (hv : v = f k) : Laid A (Ak.setSlot k v) lo (k + 1) f := by
  refine ⟨h.1, h.2.1, by simpa [Cell.setSlot] using h.2.2.1, fun i => ?_⟩
  by_cases e : k = i
  · subst e; rw [Cell.slots_setSlot_self v hk, if_pos (by omega), hv]
  · rw [Cell.slots_setSlot_ne v e, h.2.2.2 i]
    by_cases q : lo ≤ i ∧ i < k
    · rw [if_pos q, if_pos (by omega)]
    · rw [if_neg q, if_neg (by omega)]
def U16 : String := "java/lang/StringUTF16"
namespace Cmp5
def yN : MethodName := ⟨"java/lang/StringUTF16", "compress", "([CI[BII)I"⟩
abbrev yB : ByteArray := jdk_52_method_21_code
theorem d0 : decode yB 0 = .ok (.iconst 0, 1) := by decide +kernel
theorem d1 : decode yB 1 = .ok (.istore 5, 2) := by decide +kernel
theorem d3 : decode yB 3 = .ok (.iload 5, 2) := by decide +kernel
theorem d5 : decode yB 5 = .ok (.iload 4, 2) := by decide +kernel
theorem d7 : decode yB 7 = .ok (.if_icmp (.ge) 37, 3) := by decide +kernel
theorem d10 : decode yB 10 = .ok (.aload_n 0, 1) := by decide +kernel
theorem d11 : decode yB 11 = .ok (.iload_n 1, 1) := by decide +kernel
theorem d12 : decode yB 12 = .ok (.caload, 1) := by decide +kernel
theorem d13 : decode yB 13 = .ok (.istore 6, 2) := by decide +kernel
theorem d15 : decode yB 15 = .ok (.iload 6, 2) := by decide +kernel
theorem d17 : decode yB 17 = .ok (.sipush 255, 3) := by decide +kernel
theorem d20 : decode yB 20 = .ok (.if_icmp (.le) 6, 3) := by decide +kernel
theorem d26 : decode yB 26 = .ok (.aload_n 2, 1) := by decide +kernel
theorem d27 : decode yB 27 = .ok (.iload_n 3, 1) := by decide +kernel
theorem d28 : decode yB 28 = .ok (.iload 6, 2) := by decide +kernel
theorem d30 : decode yB 30 = .ok (.i2b, 1) := by decide +kernel
theorem d31 : decode yB 31 = .ok (.bastore, 1) := by decide +kernel
theorem d32 : decode yB 32 = .ok (.iinc 1 1, 3) := by decide +kernel
theorem d35 : decode yB 35 = .ok (.iinc 3 1, 3) := by decide +kernel
theorem d38 : decode yB 38 = .ok (.iinc 5 1, 3) := by decide +kernel
theorem d41 : decode yB 41 = .ok (.goto (-38), 3) := by decide +kernel
theorem d44 : decode yB 44 = .ok (.iload 4, 2) := by decide +kernel
theorem d46 : decode yB 46 = .ok (.ireturn, 1) := by decide +kernel
def site : List Cond := []
def tab : Cond := tabOf yN yB 7 (some .int) site
def P (b : Addr) (A : Cell) (d : Addr) (B : Cell) (o q len : Nat) (args : Array Value) (s : State) : Prop := args = #[.ref b, .int (Int32.ofNat o), .ref d, .int (Int32.ofNat q), .int (Int32.ofNat len)] ∧ Ch b A s ∧ Arr .byte d B s ∧ b ≠ d ∧ o + len ≤ A.slots.size ∧ q + len ≤ B.slots.size ∧ ∀ i, i < len → ¬ 255 < cv A (o + i)
def E (b : Addr) (A : Cell) (d : Addr) (B : Cell) (o q len : Nat) (r : Option Value) (s u : State) : Prop := r = some (.int (Int32.ofNat len)) ∧ ∃ B', Put d B' s u ∧ Laid B B' q (q + len) (fun j => Value.int (lo8 (cv A (o + (j - q)))))
/-- no char of the range above 255: len; the places written hold each char's low byte -/
theorem law (l : Launch) (b : Addr) (A : Cell) (d : Addr) (B : Cell) (o q len : Nat) : Law l yN 5 5 0 0 yB 7 (some .int) site (P b A d B o q len) (E b A d B o q len) (copyLocs d q len) 0 0 := by
  refine Law.of_walk (plainFor_of_name (by decide +kernel)) (by decide +kernel) (by decide +kernel) (by decide) (fun _ _ h => by rw [h.1]; rfl) (fun _ U U' hal hh h => ⟨h.1, h.2.1.mv hal hh, h.2.2.1.mv hal hh, h.2.2.2⟩) (fun r U U' V V' h1 hal h2 h => ⟨h.1, h.2.elim fun B' q => ⟨B', q.1.mv h1 h2, q.2⟩⟩) ?_
  intro p e s m args below meth c s₁ X0 hexec hbytes hml hret hlk hnm hown hh0 W hP
  obtain ⟨rfl, hA, hB, hne, l1, l2, hp⟩ := hP
  have c1 : Steps p.tables e below (s₁.setTop (entryFrame m #[.ref b, .int (Int32.ofNat o), .ref d, .int (Int32.ofNat q), .int (Int32.ofNat len)] 7)) (s₁.setTop (mkF m 0 #[.val (.ref b), .val (.int (Int32.ofNat o)), .val (.ref d), .val (.int (Int32.ofNat q)), .val (.int (Int32.ofNat len)), .unset, .unset] [])) := entry rfl
  have hA0 := hA.1.mv X0.warmed.alike hh0
  have hB0 := hB.mv X0.warmed.alike hh0
  have a31 := hA.1.2.2.2
  have c2 : Steps p.tables e below (s₁.setTop (entryFrame m #[.ref b, .int (Int32.ofNat o), .ref d, .int (Int32.ofNat q), .int (Int32.ofNat len)] 7)) (s₁.setTop (mkF m 3 #[.val (.ref b), .val (.int (Int32.ofNat o)), .val (.ref d), .val (.int (Int32.ofNat q)), .val (.int (Int32.ofNat len)), .val (.int 0), .unset] [])) := c1.trans (by
    refine iconstV X0.here hexec rfl 0 (hb hbytes d0) (by decide) ?_
    refine XS.istore X0.here hexec rfl (hb hbytes d1) rfl rfl ?_
    exact Steps.refl _)
  have loop : ∀ (r i : Nat), i + r = len → ∀ (z : Slot), (z = .unset ∨ ∃ w, z = .val w ∧ w.category = 1) → ∀ (Tl : State) (Bk : Cell), Stand p l e { frames := 0, locals := 0, cells := 0, slots := 0 } s m #[.ref b, .int (Int32.ofNat o), .ref d, .int (Int32.ofNat q), .int (Int32.ofNat len)] below meth c Tl ([] ++ copyLocs d q i) 0 0 → Put d Bk s₁ Tl → Laid B Bk q (q + i) (fun j => Value.int (lo8 (cv A (o + (j - q))))) →
      Steps p.tables e below (s₁.setTop (entryFrame m #[.ref b, .int (Int32.ofNat o), .ref d, .int (Int32.ofNat q), .int (Int32.ofNat len)] 7)) (Tl.setTop (mkF m 3 #[.val (.ref b), .val (.int (Int32.ofNat (o + i))), .val (.ref d), .val (.int (Int32.ofNat (q + i))), .val (.int (Int32.ofNat len)), .val (.int (Int32.ofNat i)), z] [])) → ∃ (T' : State) (B' : Cell) (z' : Slot), Stand p l e { frames := 0, locals := 0, cells := 0, slots := 0 } s m #[.ref b, .int (Int32.ofNat o), .ref d, .int (Int32.ofNat q), .int (Int32.ofNat len)] below meth c T' ([] ++ copyLocs d q len) 0 0 ∧ Put d B' s₁ T' ∧ Laid B B' q (q + len) (fun j => Value.int (lo8 (cv A (o + (j - q))))) ∧
      Steps p.tables e below (s₁.setTop (entryFrame m #[.ref b, .int (Int32.ofNat o), .ref d, .int (Int32.ofNat q), .int (Int32.ofNat len)] 7)) (T'.setTop (mkF m 3 #[.val (.ref b), .val (.int (Int32.ofNat (o + len))), .val (.ref d), .val (.int (Int32.ofNat (q + len))), .val (.int (Int32.ofNat len)), .val (.int (Int32.ofNat len)), z'] [])) := by
    intro r
    induction r with
    | zero =>
      intro i hi z hz Tl Bk Xl pl fl cl
      have hil : i = len := by omega
      rw [hil] at Xl fl cl
      exact ⟨Tl, Bk, z, Xl, pl, fl, cl⟩
    | succ r ih =>
      intro i hi z hz Tl Bk Xl pl fl cl
      have all := X0.warmed.alike.symm.trans Xl.warmed.alike
      have hAl := hA0.keep all (pl.other hne hA0.1)
      have hBk := hB0.like all pl.1 fl.1 fl.2.1 fl.2.2.1
      have hlt : q + i < Bk.slots.size := by rw [fl.2.2.1]; omega
      have c3 : Steps p.tables e below (s₁.setTop (entryFrame m #[.ref b, .int (Int32.ofNat o), .ref d, .int (Int32.ofNat q), .int (Int32.ofNat len)] 7)) (Tl.setTop (mkF m 12 #[.val (.ref b), .val (.int (Int32.ofNat (o + i))), .val (.ref d), .val (.int (Int32.ofNat (q + i))), .val (.int (Int32.ofNat len)), .val (.int (Int32.ofNat i)), z] [.int (Int32.ofNat (o + i)), .ref b])) := cl.trans (by
        refine XS.iload Xl.here hexec rfl (hb hbytes d3) rfl ?_
        refine XS.iload Xl.here hexec rfl (hb hbytes d5) rfl ?_
        refine XS.icmpNo Xl.here hexec rfl (hb hbytes d7) rfl (ii_ge_f (lt32 (by omega) (by omega))) ?_
        refine XS.aloadN Xl.here hexec rfl (hb hbytes d10) rfl rfl ?_
        refine XS.iloadN Xl.here hexec rfl (hb hbytes d11) rfl ?_
        exact Steps.refl _)
      have c4 : Steps p.tables e below (s₁.setTop (entryFrame m #[.ref b, .int (Int32.ofNat o), .ref d, .int (Int32.ofNat q), .int (Int32.ofNat len)] 7)) (Tl.setTop (mkF m 13 #[.val (.ref b), .val (.int (Int32.ofNat (o + i))), .val (.ref d), .val (.int (Int32.ofNat (q + i))), .val (.int (Int32.ofNat len)), .val (.int (Int32.ofNat i)), z] [.int (cv A (o + i))])) := c3.trans (by
        refine Xl.aget hexec hAl rfl (hA.get (i := o + i) (by omega)) rfl rfl (hb hbytes d12) ?_
        exact Steps.refl _)
      have c5 : Steps p.tables e below (s₁.setTop (entryFrame m #[.ref b, .int (Int32.ofNat o), .ref d, .int (Int32.ofNat q), .int (Int32.ofNat len)] 7)) (Tl.setTop (mkF m 15 #[.val (.ref b), .val (.int (Int32.ofNat (o + i))), .val (.ref d), .val (.int (Int32.ofNat (q + i))), .val (.int (Int32.ofNat len)), .val (.int (Int32.ofNat i)), .val (.int (cv A (o + i)))] [])) := c4.trans (by
        refine XS.istoreS Xl.here hexec rfl (hb hbytes d13) rfl rfl hz ?_
        exact Steps.refl _)
      have c6 : Steps p.tables e below (s₁.setTop (entryFrame m #[.ref b, .int (Int32.ofNat o), .ref d, .int (Int32.ofNat q), .int (Int32.ofNat len)] 7)) (Tl.setTop (mkF m 31 #[.val (.ref b), .val (.int (Int32.ofNat (o + i))), .val (.ref d), .val (.int (Int32.ofNat (q + i))), .val (.int (Int32.ofNat len)), .val (.int (Int32.ofNat i)), .val (.int (cv A (o + i)))] [.int (lo8 (cv A (o + i))), .int (Int32.ofNat (q + i)), .ref d])) := c5.trans (by
        refine XS.iload Xl.here hexec rfl (hb hbytes d15) rfl ?_
        refine sipushV Xl.here hexec rfl 255 (hb hbytes d17) (by decide) ?_
        refine XS.icmpYes Xl.here hexec rfl (pc0 := 20) rfl (hb hbytes d20) rfl (ii_le_t (hp i (by omega))) (by decide) rfl ?_
        refine XS.aloadN Xl.here hexec rfl (hb hbytes d26) rfl rfl ?_
        refine XS.iloadN Xl.here hexec rfl (hb hbytes d27) rfl ?_
        refine XS.iload Xl.here hexec rfl (hb hbytes d28) rfl ?_
        refine i2b Xl.here hexec rfl (hb hbytes d30) rfl ?_
        exact Steps.refl _)
      obtain ⟨T7, X7, p7, st7⟩ := Xl.aput hexec hBk rfl hlt rfl (fits_lo8 (cv A (o + i))) (g := (mkF m 31 #[.val (.ref b), .val (.int (Int32.ofNat (o + i))), .val (.ref d), .val (.int (Int32.ofNat (q + i))), .val (.int (Int32.ofNat len)), .val (.int (Int32.ofNat i)), .val (.int (cv A (o + i)))] [.int (lo8 (cv A (o + i))), .int (Int32.ofNat (q + i)), .ref d])) rfl (rest := []) rfl (hb hbytes d31)
      have c8 : Steps p.tables e below (s₁.setTop (entryFrame m #[.ref b, .int (Int32.ofNat o), .ref d, .int (Int32.ofNat q), .int (Int32.ofNat len)] 7)) (T7.setTop (mkF m 32 #[.val (.ref b), .val (.int (Int32.ofNat (o + i))), .val (.ref d), .val (.int (Int32.ofNat (q + i))), .val (.int (Int32.ofNat len)), .val (.int (Int32.ofNat i)), .val (.int (cv A (o + i)))] [])) := c6.trans (st7 _ (Steps.refl _))
      have c9 : Steps p.tables e below (s₁.setTop (entryFrame m #[.ref b, .int (Int32.ofNat o), .ref d, .int (Int32.ofNat q), .int (Int32.ofNat len)] 7)) (T7.setTop (mkF m 3 #[.val (.ref b), .val (.int (Int32.ofNat (o + i) + 1)), .val (.ref d), .val (.int (Int32.ofNat (q + i) + 1)), .val (.int (Int32.ofNat len)), .val (.int (Int32.ofNat i + 1)), .val (.int (cv A (o + i)))] [])) := c8.trans (by
        refine iincV X7.here hexec rfl 1 (hb hbytes d32) (by decide) rfl rfl ?_
        refine iincV X7.here hexec rfl 1 (hb hbytes d35) (by decide) rfl rfl ?_
        refine iincV X7.here hexec rfl 1 (hb hbytes d38) (by decide) rfl rfl ?_
        refine XS.goto X7.here hexec rfl (pc0 := 41) rfl (hb hbytes d41) (by decide) rfl ?_
        exact Steps.refl _)
      have c10 : Steps p.tables e below (s₁.setTop (entryFrame m #[.ref b, .int (Int32.ofNat o), .ref d, .int (Int32.ofNat q), .int (Int32.ofNat len)] 7)) (T7.setTop (mkF m 3 #[.val (.ref b), .val (.int (Int32.ofNat (o + (i + 1)))), .val (.ref d), .val (.int (Int32.ofNat (q + (i + 1)))), .val (.int (Int32.ofNat len)), .val (.int (Int32.ofNat (i + 1))), .val (.int (cv A (o + i)))] [])) := by
        have := c9
        rw [succ32, succ32, succ32] at this
        exact this
      exact ih (i + 1) (by omega) _ (Or.inr ⟨_, rfl, rfl⟩) T7 _ (by rw [copyLocs_step, ← List.append_assoc]; exact X7) (pl.trans p7) (fl.step (by omega) hlt (by simp)) c10
  obtain ⟨T9, B9, z9, X9, p9, f9, g9⟩ := loop len 0 (by omega) .unset (Or.inl rfl) s₁ B (by simpa [copyLocs] using X0) ⟨hB0.1, fun _ _ => rfl, rfl⟩ (Laid.zero _ _ _) c2
  have c11 : Steps p.tables e below (s₁.setTop (entryFrame m #[.ref b, .int (Int32.ofNat o), .ref d, .int (Int32.ofNat q), .int (Int32.ofNat len)] 7)) (T9.setTop (mkF m 46 #[.val (.ref b), .val (.int (Int32.ofNat (o + len))), .val (.ref d), .val (.int (Int32.ofNat (q + len))), .val (.int (Int32.ofNat len)), .val (.int (Int32.ofNat len)), z9] [.int (Int32.ofNat len)])) := g9.trans (by
    refine XS.iload X9.here hexec rfl (hb hbytes d3) rfl ?_
    refine XS.iload X9.here hexec rfl (hb hbytes d5) rfl ?_
    refine XS.icmpYes X9.here hexec rfl (pc0 := 7) rfl (hb hbytes d7) rfl (ii_ge_t (nlt32 (by omega) (Nat.le_refl _))) (by decide) rfl ?_
    refine XS.iload X9.here hexec rfl (hb hbytes d44) rfl ?_
    exact Steps.refl _)
  exact ⟨T9, some (.int (Int32.ofNat len)), _, _, _, X9, by simp, rfl, rfl, (fun h => by cases h), ⟨rfl, B9, p9.from hh0, f9⟩, fun fs hl => c11.trans (X9.ireturnOut hexec hret rfl (Or.inl rfl) (hb hbytes d46) hl)⟩
end Cmp5
namespace Cmp3
def yN : MethodName := ⟨"java/lang/StringUTF16", "compress", "([CII)[B"⟩
abbrev yB : ByteArray := jdk_52_method_16_code
theorem d0 : decode yB 0 = .ok (.iload_n 2, 1) := by decide +kernel
theorem d1 : decode yB 1 = .ok (.newarray .byte, 2) := by decide +kernel
theorem d3 : decode yB 3 = .ok (.astore_n 3, 1) := by decide +kernel
theorem d4 : decode yB 4 = .ok (.aload_n 0, 1) := by decide +kernel
theorem d5 : decode yB 5 = .ok (.iload_n 1, 1) := by decide +kernel
theorem d6 : decode yB 6 = .ok (.aload_n 3, 1) := by decide +kernel
theorem d7 : decode yB 7 = .ok (.iconst 0, 1) := by decide +kernel
theorem d8 : decode yB 8 = .ok (.iload_n 2, 1) := by decide +kernel
theorem d9 : decode yB 9 = .ok (.invokestatic 115, 3) := by decide +kernel
theorem d12 : decode yB 12 = .ok (.istore 4, 2) := by decide +kernel
theorem d14 : decode yB 14 = .ok (.iload 4, 2) := by decide +kernel
theorem d16 : decode yB 16 = .ok (.iload_n 2, 1) := by decide +kernel
theorem d17 : decode yB 17 = .ok (.if_icmp (.eq) 40, 3) := by decide +kernel
theorem d57 : decode yB 57 = .ok (.aload_n 3, 1) := by decide +kernel
theorem d58 : decode yB 58 = .ok (.areturn, 1) := by decide +kernel
def site : List Cond := [.arrayClass .byte, Cmp5.tab] ++ staticW U16 115 Cmp5.yN
def tab : Cond := tabOf yN yB 6 (some (.array .byte)) site
def P (b : Addr) (A : Cell) (o len : Nat) (args : Array Value) (s : State) : Prop := args = #[.ref b, .int (Int32.ofNat o), .int (Int32.ofNat len)] ∧ Ch b A s ∧ o + len ≤ A.slots.size ∧ len ≤ 536870912 ∧ ∀ i, i < len → ¬ 255 < cv A (o + i)
def E (b : Addr) (A : Cell) (o len : Nat) (r : Option Value) (s u : State) : Prop := NewArr .byte "[B" len (fun j => .int (lo8 (cv A (o + j)))) r s u ∧ u.heap.size = s.heap.size + 1
/-- no char of the range above 255: a new byte[] of their low bytes -/
theorem law (l : Launch) (b : Addr) (A : Cell) (o len : Nat) : Law l yN 3 3 1 18 yB 6 (some (.array .byte)) site (P b A o len) (E b A o len) [] 1 len := by
  refine Law.of_walk (plainFor_of_name (by decide +kernel)) (by decide +kernel) (by decide +kernel) (by decide) (fun _ _ h => by rw [h.1]; rfl) (fun _ U U' hal hh h => ⟨h.1, h.2.1.mv hal hh, h.2.2⟩) (fun r U U' V V' h1 hal h2 h => ⟨NewArr.mv r U U' V V' h1 hal h2 h.1, by rw [h1, h2]; exact h.2⟩) ?_
  intro p e s m args below meth c s₁ X0 hexec hbytes hml hret hlk hnm hown hh0 W hP
  obtain ⟨rfl, hA, l1, l2, hp⟩ := hP
  have a31 := hA.1.2.2.2
  have c1 : Steps p.tables e below (s₁.setTop (entryFrame m #[.ref b, .int (Int32.ofNat o), .int (Int32.ofNat len)] 6)) (s₁.setTop (mkF m 0 #[.val (.ref b), .val (.int (Int32.ofNat o)), .val (.int (Int32.ofNat len)), .unset, .unset, .unset] [])) := entry rfl
  have c2 : Steps p.tables e below (s₁.setTop (entryFrame m #[.ref b, .int (Int32.ofNat o), .int (Int32.ofNat len)] 6)) (s₁.setTop (mkF m 1 #[.val (.ref b), .val (.int (Int32.ofNat o)), .val (.int (Int32.ofNat len)), .unset, .unset, .unset] [.int (Int32.ofNat len)])) := c1.trans (by
    refine XS.iloadN X0.here hexec rfl (hb hbytes d0) rfl ?_
    exact Steps.refl _)
  obtain ⟨T3, B3, X3, ba3, bs3, bv3, bh3, bf3, st3⟩ := X0.anew hexec (atype := .byte) (wk W (.arrayClass .byte)) rfl (by show len * 1 ≤ _; omega) (by omega) (g := (mkF m 1 #[.val (.ref b), .val (.int (Int32.ofNat o)), .val (.int (Int32.ofNat len)), .unset, .unset, .unset] [.int (Int32.ofNat len)])) rfl (hb hbytes d1) (rest := []) rfl (Nat.le_refl _) (by show 0 + len ≤ len; omega)
  rw [hh0] at ba3 st3
  have kp3 : XT.Kept s T3 := (XT.Kept.of_eq hh0).push bh3
  have hA3 := hA.keep X3.warmed.alike (kp3 _ _ hA.1.1)
  have hne : b ≠ s.heap.size := hA.1.ne
  have c4 : Steps p.tables e below (s₁.setTop (entryFrame m #[.ref b, .int (Int32.ofNat o), .int (Int32.ofNat len)] 6)) (T3.setTop (mkF m 3 #[.val (.ref b), .val (.int (Int32.ofNat o)), .val (.int (Int32.ofNat len)), .unset, .unset, .unset] [.ref s.heap.size])) := c2.trans (st3 _ (Steps.refl _))
  have c5 : Steps p.tables e below (s₁.setTop (entryFrame m #[.ref b, .int (Int32.ofNat o), .int (Int32.ofNat len)] 6)) (T3.setTop (mkF m 9 #[.val (.ref b), .val (.int (Int32.ofNat o)), .val (.int (Int32.ofNat len)), .val (.ref s.heap.size), .unset, .unset] [.int (Int32.ofNat len), .int 0, .ref s.heap.size, .int (Int32.ofNat o), .ref b])) := c4.trans (by
    refine XS.astoreN X3.here hexec rfl (hb hbytes d3) rfl rfl rfl ?_
    refine XS.aloadN X3.here hexec rfl (hb hbytes d4) rfl rfl ?_
    refine XS.iloadN X3.here hexec rfl (hb hbytes d5) rfl ?_
    refine XS.aloadN X3.here hexec rfl (hb hbytes d6) rfl rfl ?_
    refine iconstV X3.here hexec rfl 0 (hb hbytes d7) (by decide) ?_
    refine XS.iloadN X3.here hexec rfl (hb hbytes d8) rfl ?_
    exact Steps.refl _)
  obtain ⟨v6, T6, X6, E6, g6⟩ := X3.callS hexec (Cmp5.law l b A s.heap.size B3 o 0 len) hown (wks W (staticW U16 115 Cmp5.yN)) (wk W Cmp5.tab) (W := 0) (Nat.le_of_ble_eq_true rfl) (Nat.le_of_ble_eq_true rfl) (Nat.le_refl _) (by show 0 + len + 0 ≤ len; omega) (g := (mkF m 9 #[.val (.ref b), .val (.int (Int32.ofNat o)), .val (.int (Int32.ofNat len)), .val (.ref s.heap.size), .unset, .unset] [.int (Int32.ofNat len), .int (Int32.ofNat 0), .ref s.heap.size, .int (Int32.ofNat o), .ref b])) rfl (by rw [hml]; rfl) c5 (argsL := [.ref b, .int (Int32.ofNat o), .ref s.heap.size, .int (Int32.ofNat 0), .int (Int32.ofNat len)]) (rest := []) rfl rfl (by show 2 * 0 + 0 ≤ _; decide) (hb hbytes d9) (⟨rfl, hA3, ba3, hne, l1, by rw [bs3]; simp, hp⟩)
  obtain ⟨rfl, B6, p6, f6⟩ := E6
  have c7 : Steps p.tables e below (s₁.setTop (entryFrame m #[.ref b, .int (Int32.ofNat o), .int (Int32.ofNat len)] 6)) (T6.setTop (mkF m 12 #[.val (.ref b), .val (.int (Int32.ofNat o)), .val (.int (Int32.ofNat len)), .val (.ref s.heap.size), .unset, .unset] [.int (Int32.ofNat len)])) := g6
  have c8 : Steps p.tables e below (s₁.setTop (entryFrame m #[.ref b, .int (Int32.ofNat o), .int (Int32.ofNat len)] 6)) (T6.setTop (mkF m 58 #[.val (.ref b), .val (.int (Int32.ofNat o)), .val (.int (Int32.ofNat len)), .val (.ref s.heap.size), .val (.int (Int32.ofNat len)), .unset] [.ref s.heap.size])) := c7.trans (by
    refine XS.istore X6.here hexec rfl (hb hbytes d12) rfl rfl ?_
    refine XS.iload X6.here hexec rfl (hb hbytes d14) rfl ?_
    refine XS.iloadN X6.here hexec rfl (hb hbytes d16) rfl ?_
    refine XS.icmpYes X6.here hexec rfl (pc0 := 17) rfl (hb hbytes d17) rfl (ii_eq_t rfl) (by decide) rfl ?_
    refine XS.aloadN X6.here hexec rfl (hb hbytes d57) rfl rfl ?_
    exact Steps.refl _)
  have X8 := X6.wide (L' := []) (cells' := 1) (slots' := len) (fun x hx hlt => by
    simp only [List.nil_append, copyLocs, List.mem_map, List.mem_range] at hx
    obtain ⟨i, -, rfl⟩ := hx
    exact absurd hlt (Nat.lt_irrefl _)) (Nat.le_refl _) (by omega)
  exact ⟨T6, some (.ref s.heap.size), _, _, _, X8, rfl, rfl, rfl, (fun h => by cases h), ⟨⟨rfl, B6, ba3.like (X3.warmed.alike.symm.trans X6.warmed.alike) p6.1 f6.1 f6.2.1 f6.2.2.1, f6.2.1.trans bv3, by rw [X6.warmed.alike.findClass, f6.1]; exact bf3, by rw [f6.2.2.1, bs3]; simp, fun j hj => by rw [f6.2.2.2 j, if_pos (by omega)]; rfl, kp3.put p6 (Nat.le_refl _)⟩, by rw [p6.2.2, bh3, hh0]; simp⟩, fun fs hl => c8.trans (X8.areturnOut hexec rfl hret rfl (hb hbytes d58) hl)⟩
end Cmp3
namespace CodL
def yN : MethodName := ⟨"java/lang/StringUTF16", "coderFromArrayLen", "([BI)B"⟩
abbrev yB : ByteArray := jdk_52_method_15_code
theorem d0 : decode yB 0 = .ok (.iload_n 1, 1) := by decide +kernel
theorem d1 : decode yB 1 = .ok (.aload_n 0, 1) := by decide +kernel
theorem d2 : decode yB 2 = .ok (.arraylength, 1) := by decide +kernel
theorem d3 : decode yB 3 = .ok (.isub, 1) := by decide +kernel
theorem d4 : decode yB 4 = .ok (.bipush 31, 2) := by decide +kernel
theorem d6 : decode yB 6 = .ok (.iushr, 1) := by decide +kernel
theorem d7 : decode yB 7 = .ok (.i2b, 1) := by decide +kernel
theorem d8 : decode yB 8 = .ok (.ireturn, 1) := by decide +kernel
def site : List Cond := []
def tab : Cond := tabOf yN yB 2 (some .byte) site
def P (d : Addr) (B : Cell) (args : Array Value) (s : State) : Prop := args = #[.ref d, .int (Int32.ofNat B.slots.size)] ∧ Arr .byte d B s
def E (r : Option Value) (s u : State) : Prop := XT.PureE (some (.int 0)) r s u
/-- an array as long as the number of chars: LATIN1 -/
theorem law (l : Launch) (d : Addr) (B : Cell) : Law l yN 2 2 0 0 yB 2 (some .byte) site (P d B) E [] 0 0 := by
  refine Law.of_walk (plainFor_of_name (by decide +kernel)) (by decide +kernel) (by decide +kernel) (by decide) (fun _ _ h => by rw [h.1]; rfl) (fun _ U U' hal hh h => ⟨h.1, h.2.mv hal hh⟩) (fun r U U' V V' h1 hal h2 h => XT.PureE.mv r U U' V V' h1 hal h2 h) ?_
  intro p e s m args below meth c s₁ X0 hexec hbytes hml hret hlk hnm hown hh0 W hP
  obtain ⟨rfl, hB⟩ := hP
  have hB0 := hB.mv X0.warmed.alike hh0
  have c1 : Steps p.tables e below (s₁.setTop (entryFrame m #[.ref d, .int (Int32.ofNat B.slots.size)] 2)) (s₁.setTop (mkF m 0 #[.val (.ref d), .val (.int (Int32.ofNat B.slots.size))] [])) := entry rfl
  have c2 : Steps p.tables e below (s₁.setTop (entryFrame m #[.ref d, .int (Int32.ofNat B.slots.size)] 2)) (s₁.setTop (mkF m 2 #[.val (.ref d), .val (.int (Int32.ofNat B.slots.size))] [.ref d, .int (Int32.ofNat B.slots.size)])) := c1.trans (by
    refine XS.iloadN X0.here hexec rfl (hb hbytes d0) rfl ?_
    refine XS.aloadN X0.here hexec rfl (hb hbytes d1) rfl rfl ?_
    exact Steps.refl _)
  have c3 : Steps p.tables e below (s₁.setTop (entryFrame m #[.ref d, .int (Int32.ofNat B.slots.size)] 2)) (s₁.setTop (mkF m 8 #[.val (.ref d), .val (.int (Int32.ofNat B.slots.size))] [.int (lo8 (ushr (Int32.ofNat B.slots.size - Int32.ofNat B.slots.size) 31))])) := c2.trans (by
    refine X0.alen hexec hB0 rfl rfl (hb hbytes d2) ?_
    refine XS.isub X0.here hexec rfl (hb hbytes d3) rfl ?_
    refine bipushV X0.here hexec rfl 31 (hb hbytes d4) (by decide) ?_
    refine iushr X0.here hexec rfl (hb hbytes d6) rfl ?_
    refine i2b X0.here hexec rfl (hb hbytes d7) rfl ?_
    exact Steps.refl _)
  have e0 : lo8 (ushr (Int32.ofNat B.slots.size - Int32.ofNat B.slots.size) 31) = 0 := by rw [Int32.sub_self]; decide
  rw [e0] at c3
  exact ⟨s₁, some (.int 0), _, _, _, X0, rfl, rfl, rfl, (fun h => by cases h), ⟨rfl, hh0⟩, fun fs hl => c3.trans (X0.ireturnOut hexec hret rfl (Or.inr (Or.inr (Or.inl rfl))) (hb hbytes d8) hl)⟩
end CodL
/-- the String at a is Latin-1 over a new byte[] (the heap's one new cell): the low bytes of the len chars of A from o on; every cell but a is kept -/
def Got (a : Addr) (D : Cell) (fV fC : Field) (A : Cell) (o len : Nat) (r : Option Value) (s u : State) : Prop := r = none ∧ ∃ D' V : Cell, Blank "java/lang/String" a D' u ∧ Same D D' [fV.slot, fC.slot] ∧ D'.slots[fV.slot]? = some (.ref s.heap.size) ∧ D'.slots[fC.slot]? = some (.int 0) ∧ Arr .byte s.heap.size V u ∧ V.vm = .none ∧ u.vm.findClass "[B" = some V.cls ∧ V.slots.size = len ∧ (∀ j, j < len → V.slots[j]? = some (.int (lo8 (cv A (o + j))))) ∧ (∀ (y : Addr) (c : Cell), y ≠ a → s.heap[y]? = some c → u.heap[y]? = some c) ∧ u.heap.size = s.heap.size + 1
theorem Got.mv {a : Addr} {D A : Cell} {fV fC : Field} {o len : Nat} : ∀ r (U U' V V' : State), U'.heap = U.heap → V.vm.Alike V'.vm → V'.heap = V.heap → Got a D fV fC A o len r U V → Got a D fV fC A o len r U' V' :=
  fun r U U' V V' h1 hal h2 ⟨e0, D', X, a1, a2, a3, a4, a5, a6, a7, a8, a9, a10, a11⟩ => ⟨e0, D', X, a1.mv hal h2, a2, by rw [h1]; exact a3, a4, by rw [h1]; exact a5.mv hal h2, a6, by rw [hal.findClass]; exact a7, a8, a9, by rw [h1, h2]; exact a10, by rw [h1, h2]; exact a11⟩
namespace New4
def yN : MethodName := ⟨"java/lang/String", "<init>", "([CIILjava/lang/Void;)V"⟩
abbrev yB : ByteArray := jdk_42_method_149_code
theorem d0 : decode yB 0 = .ok (.aload_n 0, 1) := by decide +kernel
theorem d1 : decode yB 1 = .ok (.invokespecial 1, 3) := by decide +kernel
theorem d4 : decode yB 4 = .ok (.iload_n 3, 1) := by decide +kernel
theorem d5 : decode yB 5 = .ok (.ifCond (.ne) 22, 3) := by decide +kernel
theorem d27 : decode yB 27 = .ok (.getstatic 38, 3) := by decide +kernel
theorem d30 : decode yB 30 = .ok (.ifCond (.eq) 28, 3) := by decide +kernel
theorem d33 : decode yB 33 = .ok (.aload_n 1, 1) := by decide +kernel
theorem d34 : decode yB 34 = .ok (.iload_n 2, 1) := by decide +kernel
theorem d35 : decode yB 35 = .ok (.iload_n 3, 1) := by decide +kernel
theorem d36 : decode yB 36 = .ok (.invokestatic 177, 3) := by decide +kernel
theorem d39 : decode yB 39 = .ok (.astore 5, 2) := by decide +kernel
theorem d41 : decode yB 41 = .ok (.aload_n 0, 1) := by decide +kernel
theorem d42 : decode yB 42 = .ok (.aload 5, 2) := by decide +kernel
theorem d44 : decode yB 44 = .ok (.iload_n 3, 1) := by decide +kernel
theorem d45 : decode yB 45 = .ok (.invokestatic 47, 3) := by decide +kernel
theorem d48 : decode yB 48 = .ok (.putfield 15, 3) := by decide +kernel
theorem d51 : decode yB 51 = .ok (.aload_n 0, 1) := by decide +kernel
theorem d52 : decode yB 52 = .ok (.aload 5, 2) := by decide +kernel
theorem d54 : decode yB 54 = .ok (.putfield 9, 3) := by decide +kernel
theorem d57 : decode yB 57 = .ok (.return_, 1) := by decide +kernel
def site : List Cond := [.fieldLink "java/lang/String" 38 "java/lang/String" "COMPACT_STRINGS" "Z", Cmp3.tab, CodL.tab, .laysFinal "java/lang/String" "java/lang/String" "value" "[B", .fieldLink "java/lang/String" 9 "java/lang/String" "value" "[B", .laysFinal "java/lang/String" "java/lang/String" "coder" "B", .fieldLink "java/lang/String" 15 "java/lang/String" "coder" "B"] ++ objW "java/lang/String" 1 ++ staticW "java/lang/String" 177 Cmp3.yN ++ staticW "java/lang/String" 47 CodL.yN
def tab : Cond := tabOf yN yB 6 none site
def P (a : Addr) (D : Cell) (fV fC : Field) (b : Addr) (A : Cell) (z : Int32) (o len : Nat) (args : Array Value) (s : State) : Prop := args = #[.ref a, .ref b, .int (Int32.ofNat o), .int (Int32.ofNat len), .null] ∧ Blank "java/lang/String" a D s ∧ Found "java/lang/String" "value" "[B" fV s ∧ Found "java/lang/String" "coder" "B" fC s ∧ Ch b A s ∧ StaticIs s "java/lang/String" "COMPACT_STRINGS" "Z" (.int z) ∧ ¬ z = 0 ∧ 0 < len ∧ o + len ≤ A.slots.size ∧ len ≤ 536870912 ∧ ∀ i, i < len → ¬ 255 < cv A (o + i)
def E (a : Addr) (D : Cell) (fV fC : Field) (A : Cell) (o len : Nat) (r : Option Value) (s u : State) : Prop := Got a D fV fC A o len r s u
/-- len > 0, no char of the range above 255: a Latin-1 String of their low bytes -/
theorem law (l : Launch) (a : Addr) (D : Cell) (fV fC : Field) (b : Addr) (A : Cell) (z : Int32) (o len : Nat) : Law l yN 5 4 2 35 yB 6 none site (P a D fV fC b A z o len) (E a D fV fC A o len) [⟨a, fC.slot⟩, ⟨a, fV.slot⟩] 1 len := by
  refine Law.of_walk (plainFor_of_name (by decide +kernel)) (by decide +kernel) (by decide +kernel) (by decide) (fun _ _ h => by rw [h.1]; rfl) (fun _ U U' hal hh h => ⟨h.1, h.2.1.mv hal hh, h.2.2.1.al hal, h.2.2.2.1.al hal, h.2.2.2.2.1.mv hal hh, h.2.2.2.2.2.1.there hal hh, h.2.2.2.2.2.2⟩) (fun r U U' V V' h1 hal h2 h => Got.mv r U U' V V' h1 hal h2 h) ?_
  intro p e s m args below meth c s₁ X0 hexec hbytes hml hret hlk hnm hown hh0 W hP
  obtain ⟨rfl, hB, f1, f2, hA, s1, hz, l0, l1, l2, hp⟩ := hP
  have a31 := hA.1.2.2.2
  have c1 : Steps p.tables e below (s₁.setTop (entryFrame m #[.ref a, .ref b, .int (Int32.ofNat o), .int (Int32.ofNat len), .null] 6)) (s₁.setTop (mkF m 0 #[.val (.ref a), .val (.ref b), .val (.int (Int32.ofNat o)), .val (.int (Int32.ofNat len)), .val .null, .unset] [])) := entry rfl
  have c2 : Steps p.tables e below (s₁.setTop (entryFrame m #[.ref a, .ref b, .int (Int32.ofNat o), .int (Int32.ofNat len), .null] 6)) (s₁.setTop (mkF m 1 #[.val (.ref a), .val (.ref b), .val (.int (Int32.ofNat o)), .val (.int (Int32.ofNat len)), .val .null, .unset] [.ref a])) := c1.trans (by
    refine XS.aloadN X0.here hexec rfl (hb hbytes d0) rfl rfl ?_
    exact Steps.refl _)
  obtain ⟨T3, X3, q3, st3⟩ := X0.oinit hexec hown (wks W (objW "java/lang/String" 1)) (g := (mkF m 1 #[.val (.ref a), .val (.ref b), .val (.int (Int32.ofNat o)), .val (.int (Int32.ofNat len)), .val .null, .unset] [.ref a])) rfl (by rw [hml]; rfl) (rest := []) rfl (hb hbytes d1) (W := 0) (by show 2 * 0 + 0 ≤ _; decide) (Nat.le_of_ble_eq_true rfl) (Nat.le_of_ble_eq_true rfl)
  have hh3 := q3.trans hh0
  have c4 : Steps p.tables e below (s₁.setTop (entryFrame m #[.ref a, .ref b, .int (Int32.ofNat o), .int (Int32.ofNat len), .null] 6)) (T3.setTop (mkF m 27 #[.val (.ref a), .val (.ref b), .val (.int (Int32.ofNat o)), .val (.int (Int32.ofNat len)), .val .null, .unset] [])) := (c2.trans (st3 _ (Steps.refl _))).trans (by
    refine XS.iloadN X3.here hexec rfl (hb hbytes d4) rfl ?_
    refine XS.ifYes X3.here hexec rfl (pc0 := 5) rfl (hb hbytes d5) rfl (i0_ne_t (nz32 (by omega) l0)) (by decide) rfl ?_
    exact Steps.refl _)
  obtain ⟨T5, X5, q5, st5⟩ := X3.sget hexec hown (wk W (.fieldLink "java/lang/String" 38 "java/lang/String" "COMPACT_STRINGS" "Z")) s1 (fun _ _ h => by rw [hh3]; exact h) (g := (mkF m 27 #[.val (.ref a), .val (.ref b), .val (.int (Int32.ofNat o)), .val (.int (Int32.ofNat len)), .val .null, .unset] [])) rfl (hb hbytes d27)
  have hh5 := q5.trans hh3
  have c6 : Steps p.tables e below (s₁.setTop (entryFrame m #[.ref a, .ref b, .int (Int32.ofNat o), .int (Int32.ofNat len), .null] 6)) (T5.setTop (mkF m 30 #[.val (.ref a), .val (.ref b), .val (.int (Int32.ofNat o)), .val (.int (Int32.ofNat len)), .val .null, .unset] [.int z])) := c4.trans (st5 _ (Steps.refl _))
  have c7 : Steps p.tables e below (s₁.setTop (entryFrame m #[.ref a, .ref b, .int (Int32.ofNat o), .int (Int32.ofNat len), .null] 6)) (T5.setTop (mkF m 36 #[.val (.ref a), .val (.ref b), .val (.int (Int32.ofNat o)), .val (.int (Int32.ofNat len)), .val .null, .unset] [.int (Int32.ofNat len), .int (Int32.ofNat o), .ref b])) := c6.trans (by
    refine XS.ifNo X5.here hexec rfl (hb hbytes d30) rfl (i0_eq_f hz) ?_
    refine XS.aloadN X5.here hexec rfl (hb hbytes d33) rfl rfl ?_
    refine XS.iloadN X5.here hexec rfl (hb hbytes d34) rfl ?_
    refine XS.iloadN X5.here hexec rfl (hb hbytes d35) rfl ?_
    exact Steps.refl _)
  obtain ⟨v8, T8, X8, E8, g8⟩ := X5.callS hexec (Cmp3.law l b A o len) hown (wks W (staticW "java/lang/String" 177 Cmp3.yN)) (wk W Cmp3.tab) (W := 0) (Nat.le_of_ble_eq_true rfl) (Nat.le_of_ble_eq_true rfl) (Nat.le_refl _) (by show 0 + len ≤ len; omega) (g := (mkF m 36 #[.val (.ref a), .val (.ref b), .val (.int (Int32.ofNat o)), .val (.int (Int32.ofNat len)), .val .null, .unset] [.int (Int32.ofNat len), .int (Int32.ofNat o), .ref b])) rfl (by rw [hml]; rfl) c7 (argsL := [.ref b, .int (Int32.ofNat o), .int (Int32.ofNat len)]) (rest := []) rfl rfl (by show 2 * 0 + 0 ≤ _; decide) (hb hbytes d36) (⟨rfl, hA.mv X5.warmed.alike hh5, l1, l2, hp⟩)
  obtain ⟨e8, z8⟩ := E8
  obtain ⟨rfl, N, n1, n2, n3, n4, n5, n6⟩ := NewArr.mv _ T5 s _ _ hh5.symm (Vm.Alike.refl _) rfl e8
  rw [hh5] at z8
  have hB1 := hB.keep X8.warmed.alike (n6 _ _ hB.1)
  have hne : s.heap.size ≠ a := (Nat.ne_of_lt (Array.getElem?_eq_some_iff.mp hB.1).1).symm
  have c9 : Steps p.tables e below (s₁.setTop (entryFrame m #[.ref a, .ref b, .int (Int32.ofNat o), .int (Int32.ofNat len), .null] 6)) (T8.setTop (mkF m 39 #[.val (.ref a), .val (.ref b), .val (.int (Int32.ofNat o)), .val (.int (Int32.ofNat len)), .val .null, .unset] [.ref s.heap.size])) := g8
  have c10 : Steps p.tables e below (s₁.setTop (entryFrame m #[.ref a, .ref b, .int (Int32.ofNat o), .int (Int32.ofNat len), .null] 6)) (T8.setTop (mkF m 45 #[.val (.ref a), .val (.ref b), .val (.int (Int32.ofNat o)), .val (.int (Int32.ofNat len)), .val .null, .val (.ref s.heap.size)] [.int (Int32.ofNat N.slots.size), .ref s.heap.size, .ref a])) := by
    have hc : Steps p.tables e below (s₁.setTop (entryFrame m #[.ref a, .ref b, .int (Int32.ofNat o), .int (Int32.ofNat len), .null] 6)) (T8.setTop (mkF m 45 #[.val (.ref a), .val (.ref b), .val (.int (Int32.ofNat o)), .val (.int (Int32.ofNat len)), .val .null, .val (.ref s.heap.size)] [.int (Int32.ofNat len), .ref s.heap.size, .ref a])) := c9.trans (by
      refine XS.astore X8.here hexec rfl (hb hbytes d39) rfl rfl rfl ?_
      refine XS.aloadN X8.here hexec rfl (hb hbytes d41) rfl rfl ?_
      refine XS.aload X8.here hexec rfl (hb hbytes d42) rfl rfl ?_
      refine XS.iloadN X8.here hexec rfl (hb hbytes d44) rfl ?_
      exact Steps.refl _)
    rw [n4]; exact hc
  obtain ⟨v11, T11, X11, E11, g11⟩ := X8.callS hexec (CodL.law l s.heap.size N) hown (wks W (staticW "java/lang/String" 47 CodL.yN)) (wk W CodL.tab) (W := 1) (Nat.le_of_ble_eq_true rfl) (Nat.le_of_ble_eq_true rfl) (Nat.le_refl _) (by show 0 + len + 0 ≤ len; omega) (g := (mkF m 45 #[.val (.ref a), .val (.ref b), .val (.int (Int32.ofNat o)), .val (.int (Int32.ofNat len)), .val .null, .val (.ref s.heap.size)] [.int (Int32.ofNat N.slots.size), .ref s.heap.size, .ref a])) rfl (by rw [hml]; rfl) c10 (argsL := [.ref s.heap.size, .int (Int32.ofNat N.slots.size)]) (rest := [.ref a]) rfl rfl (by show 2 * 0 + (1 + 0) ≤ _; decide) (hb hbytes d45) (⟨rfl, n1⟩)
  obtain ⟨rfl, q11⟩ := E11
  have hB11 := hB1.mv (X8.warmed.alike.symm.trans X11.warmed.alike) q11
  have c12 : Steps p.tables e below (s₁.setTop (entryFrame m #[.ref a, .ref b, .int (Int32.ofNat o), .int (Int32.ofNat len), .null] 6)) (T11.setTop (mkF m 48 #[.val (.ref a), .val (.ref b), .val (.int (Int32.ofNat o)), .val (.int (Int32.ofNat len)), .val .null, .val (.ref s.heap.size)] [.int 0, .ref a])) := g11
  obtain ⟨T13, X13, p13, bl13, sl13, st13⟩ := X11.finit hexec hown (wk W (.fieldLink "java/lang/String" 15 "java/lang/String" "coder" "B")) (Or.inr ⟨_, (wk W (.laysFinal "java/lang/String" "java/lang/String" "coder" "B"))⟩) (Or.inl ⟨rfl, hnm⟩) f2 (Or.inl rfl) hB11 (t := .byte) (by decide +kernel) rfl (g := (mkF m 48 #[.val (.ref a), .val (.ref b), .val (.int (Int32.ofNat o)), .val (.int (Int32.ofNat len)), .val .null, .val (.ref s.heap.size)] [.int 0, .ref a])) rfl (rest := []) rfl (hb hbytes d48)
  have c14 : Steps p.tables e below (s₁.setTop (entryFrame m #[.ref a, .ref b, .int (Int32.ofNat o), .int (Int32.ofNat len), .null] 6)) (T13.setTop (mkF m 54 #[.val (.ref a), .val (.ref b), .val (.int (Int32.ofNat o)), .val (.int (Int32.ofNat len)), .val .null, .val (.ref s.heap.size)] [.ref s.heap.size, .ref a])) := (c12.trans (st13 _ (Steps.refl _))).trans (by
    refine XS.aloadN X13.here hexec rfl (hb hbytes d51) rfl rfl ?_
    refine XS.aload X13.here hexec rfl (hb hbytes d52) rfl rfl ?_
    exact Steps.refl _)
  obtain ⟨T15, X15, p15, bl15, sl15, st15⟩ := X13.finit hexec hown (wk W (.fieldLink "java/lang/String" 9 "java/lang/String" "value" "[B")) (Or.inr ⟨_, (wk W (.laysFinal "java/lang/String" "java/lang/String" "value" "[B"))⟩) (Or.inl ⟨rfl, hnm⟩) f1 (Or.inl rfl) bl13 (t := (.array .byte)) (by decide +kernel) rfl (g := (mkF m 54 #[.val (.ref a), .val (.ref b), .val (.int (Int32.ofNat o)), .val (.int (Int32.ofNat len)), .val .null, .val (.ref s.heap.size)] [.ref s.heap.size, .ref a])) rfl (rest := []) rfl (hb hbytes d54)
  have c16 : Steps p.tables e below (s₁.setTop (entryFrame m #[.ref a, .ref b, .int (Int32.ofNat o), .int (Int32.ofNat len), .null] 6)) (T15.setTop (mkF m 57 #[.val (.ref a), .val (.ref b), .val (.int (Int32.ofNat o)), .val (.int (Int32.ofNat len)), .val .null, .val (.ref s.heap.size)] [])) := c14.trans (st15 _ (Steps.refl _))
  have ap := apart (Or.inr ⟨_, (wk W (.laysFinal "java/lang/String" "java/lang/String" "value" "[B"))⟩) (Or.inr ⟨_, (wk W (.laysFinal "java/lang/String" "java/lang/String" "coder" "B"))⟩) f1 f2 (t₁ := .array .byte) (t₂ := .byte) (by decide +kernel) (by decide +kernel) (by decide)
  have al := X8.warmed.alike.symm.trans X15.warmed.alike
  have n7 : T11.heap[s.heap.size]? = some N := by rw [q11]; exact n1.1
  exact ⟨T15, none, _, _, _, X15, by simp, rfl, by omega, (fun _ => rfl), ⟨rfl, _, N, bl15, ((Same.refl D _).set _ (by simp)).set _ (by simp), sl15, (Cell.slots_setSlot_ne _ ap).trans sl13, n1.keep al (p15.other hne (p13.other hne n7)), n2, by rw [al.findClass]; exact n3, n4, n5, fun y c h1 h2 => p15.other h1 (p13.other h1 (by rw [q11]; exact n6 y c h2)), by rw [p15.2.2, p13.2.2, q11]; exact z8⟩, fun fs hl => c16.trans (X15.returnOut hexec hret (hb hbytes d57) hl)⟩
end New4
namespace New1
def yN : MethodName := ⟨"java/lang/String", "<init>", "([C)V"⟩
abbrev yB : ByteArray := jdk_42_method_3_code
theorem d0 : decode yB 0 = .ok (.aload_n 0, 1) := by decide +kernel
theorem d1 : decode yB 1 = .ok (.aload_n 1, 1) := by decide +kernel
theorem d2 : decode yB 2 = .ok (.iconst 0, 1) := by decide +kernel
theorem d3 : decode yB 3 = .ok (.aload_n 1, 1) := by decide +kernel
theorem d4 : decode yB 4 = .ok (.arraylength, 1) := by decide +kernel
theorem d5 : decode yB 5 = .ok (.aconst_null, 1) := by decide +kernel
theorem d6 : decode yB 6 = .ok (.invokespecial 27, 3) := by decide +kernel
theorem d9 : decode yB 9 = .ok (.return_, 1) := by decide +kernel
def site : List Cond := [New4.tab] ++ initW "java/lang/String" 27 New4.yN
def tab : Cond := tabOf yN yB 2 none site
def P (a : Addr) (D : Cell) (fV fC : Field) (b : Addr) (A : Cell) (z : Int32) (args : Array Value) (s : State) : Prop := args = #[.ref a, .ref b] ∧ Blank "java/lang/String" a D s ∧ Found "java/lang/String" "value" "[B" fV s ∧ Found "java/lang/String" "coder" "B" fC s ∧ Ch b A s ∧ StaticIs s "java/lang/String" "COMPACT_STRINGS" "Z" (.int z) ∧ ¬ z = 0 ∧ 0 < A.slots.size ∧ A.slots.size ≤ 536870912 ∧ ∀ i, i < A.slots.size → ¬ 255 < cv A i
def E (a : Addr) (D : Cell) (fV fC : Field) (A : Cell) (r : Option Value) (s u : State) : Prop := Got a D fV fC A 0 A.slots.size r s u
/-- new String(chars), not empty, no char above 255: a Latin-1 String of their low bytes -/
theorem law (l : Launch) (a : Addr) (D : Cell) (fV fC : Field) (b : Addr) (A : Cell) (z : Int32) : Law l yN 2 1 3 52 yB 2 none site (P a D fV fC b A z) (E a D fV fC A) [⟨a, fC.slot⟩, ⟨a, fV.slot⟩] 1 A.slots.size := by
  refine Law.of_walk (plainFor_of_name (by decide +kernel)) (by decide +kernel) (by decide +kernel) (by decide) (fun _ _ h => by rw [h.1]; rfl) (fun _ U U' hal hh h => ⟨h.1, h.2.1.mv hal hh, h.2.2.1.al hal, h.2.2.2.1.al hal, h.2.2.2.2.1.mv hal hh, h.2.2.2.2.2.1.there hal hh, h.2.2.2.2.2.2⟩) (fun r U U' V V' h1 hal h2 h => Got.mv r U U' V V' h1 hal h2 h) ?_
  intro p e s m args below meth c s₁ X0 hexec hbytes hml hret hlk hnm hown hh0 W hP
  obtain ⟨rfl, hB, f1, f2, hA, s1, hz, l0, l2, hp⟩ := hP
  have c1 : Steps p.tables e below (s₁.setTop (entryFrame m #[.ref a, .ref b] 2)) (s₁.setTop (mkF m 0 #[.val (.ref a), .val (.ref b)] [])) := entry rfl
  have c2 : Steps p.tables e below (s₁.setTop (entryFrame m #[.ref a, .ref b] 2)) (s₁.setTop (mkF m 6 #[.val (.ref a), .val (.ref b)] [.null, .int (Int32.ofNat A.slots.size), .int 0, .ref b, .ref a])) := c1.trans (by
    refine XS.aloadN X0.here hexec rfl (hb hbytes d0) rfl rfl ?_
    refine XS.aloadN X0.here hexec rfl (hb hbytes d1) rfl rfl ?_
    refine iconstV X0.here hexec rfl 0 (hb hbytes d2) (by decide) ?_
    refine XS.aloadN X0.here hexec rfl (hb hbytes d3) rfl rfl ?_
    refine X0.alen hexec (hA.1.mv X0.warmed.alike hh0) rfl rfl (hb hbytes d4) ?_
    refine XS.aconstNull X0.here hexec rfl (hb hbytes d5) ?_
    exact Steps.refl _)
  obtain ⟨v3, T3, X3, E3, g3⟩ := X0.callN hexec (New4.law l a D fV fC b A z 0 A.slots.size) rfl hown (wks W (initW "java/lang/String" 27 New4.yN)) (W New4.tab (by simp only [site, List.mem_cons, List.mem_append, true_or, or_true])) (W := 0) (Nat.le_of_ble_eq_true rfl) (Nat.le_of_ble_eq_true rfl) (Nat.le_refl _) (by show 0 + A.slots.size ≤ A.slots.size; omega) (g := (mkF m 6 #[.val (.ref a), .val (.ref b)] [.null, .int (Int32.ofNat A.slots.size), .int (Int32.ofNat 0), .ref b, .ref a])) rfl (by rw [hml]; rfl) c2 (argsL := [.ref b, .int (Int32.ofNat 0), .int (Int32.ofNat A.slots.size), .null]) (rest := []) rfl rfl (by show 2 * 0 + 0 ≤ _; decide) (hb hbytes d6) (⟨rfl, hB.mv X0.warmed.alike hh0, f1.al X0.warmed.alike, f2.al X0.warmed.alike, hA.mv X0.warmed.alike hh0, s1.there X0.warmed.alike hh0, hz, l0, by omega, l2, fun i hi => by rw [Nat.zero_add]; exact hp i hi⟩)
  have e0 := Got.mv _ s₁ s _ _ hh0.symm (Vm.Alike.refl _) rfl E3
  obtain rfl := e0.1
  have c4 : Steps p.tables e below (s₁.setTop (entryFrame m #[.ref a, .ref b] 2)) (T3.setTop (mkF m 9 #[.val (.ref a), .val (.ref b)] [])) := g3
  exact ⟨T3, none, _, _, _, X3, by simp, rfl, by omega, (fun _ => rfl), e0, fun fs hl => c4.trans (X3.returnOut hexec hret (hb hbytes d9) hl)⟩
theorem pays {l : Launch} {R : Room} {p : Program} {e : Env} {below : List Frame} {s : State} {sargs : Array Value} {len W : Nat} (a : Addr) (D : Cell) (fV fC : Field) (b : Addr) (A : Cell) (z : Int32) (htab : tab.before sargs s = true) (hfr : 4 ≤ R.frames) (hlo : W + 65 ≤ R.locals) :
    Back l R p e below s sargs yN len W (fun A₁ a₁ => A₁.cells + 1 ≤ R.cells ∧ A₁.slots + A.slots.size ≤ R.slots ∧ P a D fV fC b A z a₁ A₁.U) (fun A₁ _ v₁ B₁ => E a D fV fC A v₁ A₁.U B₁.U ∧ B₁.locs = A₁.locs ++ [⟨a, fC.slot⟩, ⟨a, fV.slot⟩] ∧ B₁.cells = A₁.cells + 1 ∧ B₁.slots = A₁.slots + A.slots.size) :=
  (law l a D fV fC b A z).pays htab hfr (by omega)
end New1
/-- the byte, read back as charAt reads it, is the char -/
theorem lo8_mask {x : Int32} (h0 : ¬ x < 0) (h1 : ¬ 255 < x) : lo8 x &&& 255 = x := by
  have t : ∀ k : Fin 256, lo8 (Int32.ofNat k.val) &&& 255 = Int32.ofNat k.val := by decide +kernel
  rw [Int32.lt_iff_toInt_lt] at h0 h1
  have e0 : (0 : Int32).toInt = 0 := rfl
  have e1 : (255 : Int32).toInt = 255 := rfl
  obtain ⟨k, hk⟩ : ∃ k : Nat, x.toInt = k := ⟨x.toInt.toNat, by omega⟩
  have hx : x = Int32.ofNat k := Int32.toInt_inj.mp (by rw [hk, Int32.toInt_ofNat_small (by omega)])
  rw [hx]
  exact t ⟨k, by omega⟩
end StrChars
namespace StrChars.Road
open Jvm Sem ClassFile Op Lib Jvm.Stand Jvm.Free Jvm.Free.XT
open Jvm.Lib.Cold (StaticIs)
abbrev ST : String := "java/lang/String"
/-- every table word that New1's law asks, flat -/
abbrev words : List Jvm.Cond := [.code New1.yN New1.yB 2 none, .initialized ST, .methodLink ST 27 New4.yN, .instanceMethod New4.yN,
  .code New4.yN New4.yB 6 none, .fieldLink ST 38 ST "COMPACT_STRINGS" "Z", .laysFinal ST ST "value" "[B", .fieldLink ST 9 ST "value" "[B", .laysFinal ST ST "coder" "B", .fieldLink ST 15 ST "coder" "B",
  .methodLink ST 1 Lib.objectInit, .instanceMethod Lib.objectInit, .code Lib.objectInit ⟨#[0xb1]⟩ 1 none, .methodLink ST 177 Cmp3.yN, .static Cmp3.yN, .methodLink ST 47 CodL.yN, .static CodL.yN,
  .code Cmp3.yN Cmp3.yB 6 (some (.array .byte)), .initialized U16, .arrayClass .byte, .methodLink U16 115 Cmp5.yN, .static Cmp5.yN, .code Cmp5.yN Cmp5.yB 7 (some .int), .code CodL.yN CodL.yB 2 (some .byte)]
theorem tab_of {a : Array Value} {s : State} (h : ∀ w ∈ words, w.before a s = true) : New1.tab.before a s = true := by
  have h5 : Cmp5.tab.before a s = true := unparts (wk h (.code Cmp5.yN Cmp5.yB 7 (some .int))) (wks h (.initialized Cmp5.yN.cls :: Cmp5.site))
  have hc : CodL.tab.before a s = true := unparts (wk h (.code CodL.yN CodL.yB 2 (some .byte))) (wks h (.initialized CodL.yN.cls :: CodL.site))
  have q5 : ∀ w ∈ Cmp5.tab :: words, w.before a s = true := fun w hw => (List.mem_cons.mp hw).elim (fun e => e ▸ h5) (h w)
  have h3 : Cmp3.tab.before a s = true := unparts (wk q5 (.code Cmp3.yN Cmp3.yB 6 (some (.array .byte)))) (wks q5 (.initialized Cmp3.yN.cls :: Cmp3.site))
  have q3 : ∀ w ∈ Cmp3.tab :: CodL.tab :: words, w.before a s = true := fun w hw => (List.mem_cons.mp hw).elim (fun e => e ▸ h3) fun hw => (List.mem_cons.mp hw).elim (fun e => e ▸ hc) (h w)
  have h4 : New4.tab.before a s = true := unparts (wk q3 (.code New4.yN New4.yB 6 none)) (wks q3 (.initialized New4.yN.cls :: New4.site))
  have q4 : ∀ w ∈ New4.tab :: words, w.before a s = true := fun w hw => (List.mem_cons.mp hw).elim (fun e => e ▸ h4) (h w)
  exact unparts (wk q4 (.code New1.yN New1.yB 2 none)) (wks q4 (.initialized New1.yN.cls :: New1.site))
/-- the words ride from the start Z to the walk's own state -/
theorem moved {Z s : State} {a0 args : Array Value} (hZ : Z.Warmed39 s.vm) (hw : ∀ d ∈ words, d.before a0 Z = true) : ∀ d ∈ words, d.before args s = true := fun d hd => by
  have q := hw d hd
  have t : ∀ d ∈ words, d = .arrayClass .byte ∨ (d.onTables && d.keepsFace) = true := by decide +kernel
  rcases t d hd with rfl | t
  · exact RoadKit.mvA hZ q
  · exact RoadKit.mv hZ q t
/-- WHAT COMES BACK, over the tables of the start Z: h the heap at the call, h' behind it -/
def Q (Z : State) (x : Addr) (A : Cell) (h : Heap) (v : Option Value) (h' : Heap) (L : List Loc) : Prop := v = none ∧ (∀ y ∈ L, y.base = x) ∧ RoadKit.Keep h h' [x] ∧ h'.size = h.size + 1 ∧ RoadKit.Exa Z h' x ST ∧ RoadKit.Fld Z h' x ST "value" "[B" (.ref h.size) ∧ RoadKit.Fld Z h' x ST "coder" "B" (.int 0) ∧
  (∃ V : Cell, RoadKit.Arr Z h' h.size V .byte ∧ V.vm = .none ∧ Z.vm.findClass "[B" = some V.cls ∧ V.slots.size = A.slots.size ∧ ∀ j, j < A.slots.size → V.slots[j]? = some (.int (lo8 (cv A j)))) ∧
  ∀ (O n d : String) (w : Value), RoadKit.Fld Z h x O n d w → RoadKit.slotOf Z O n d ≠ RoadKit.slotOf Z ST "value" "[B" → RoadKit.slotOf Z O n d ≠ RoadKit.slotOf Z ST "coder" "B" → RoadKit.Fld Z h' x O n d w
/-- **new String(chars) AT A CALL, IN THE ROAD'S FORM**: for specialBack behind newO: x the fresh String, b the char[] with the cell A -/
theorem back {p : Program} {l : Launch} {e : Env} {R : Room} {s : State} {args : Array Value} {below : List Frame} {len W : Nat} {Z : State} {a0 : Array Value} {h : Heap} (hZ : Z.Warmed39 s.vm) (hw : ∀ d ∈ words, d.before a0 Z = true) {kI : Nat} (wi : (Jvm.Cond.instantiable ST kI).before a0 Z = true)
    {x b : Addr} {A : Cell} {z : Int32} {v0 c0 : Value} (E : RoadKit.Exa Z h x ST) (V : RoadKit.Fld Z h x ST "value" "[B" v0) (C : RoadKit.Fld Z h x ST "coder" "B" c0) (K : RoadKit.Arr Z h b A .char) (hty : Typed .char A) (S : RoadKit.Sta Z h ST "COMPACT_STRINGS" "Z" (.int z)) (hz : ¬ z = 0)
    (l0 : 0 < A.slots.size) (l2 : A.slots.size ≤ 536870912) (hp : ∀ i, i < A.slots.size → ¬ 255 < cv A i) (hfr : 4 ≤ R.frames) (hlo : W + 65 ≤ R.locals) :
    Back l R p e below s args New1.yN len W (fun P a => a = #[.ref x, .ref b] ∧ P.U.heap = h ∧ P.cells + 1 ≤ R.cells ∧ P.slots + A.slots.size ≤ R.slots)
      (fun P _ v B => ∃ L, Q Z x A h v B.U.heap L ∧ B.locs = P.locs ++ L ∧ B.cells = P.cells + 1 ∧ B.slots = P.slots + A.slots.size) := by
  intro m meth c P g ig mk a X hg hsize hdg hW hn hp'
  obtain ⟨rfl, rfl, r1, r2⟩ := hp'
  have al : Z.vm.Alike P.U.vm := hZ.alike.trans X.warmed.alike
  obtain ⟨D, cfV, kV, iV, fV, hD, gV, stV, knV, obV, asV, slV⟩ := id V
  obtain ⟨D', cfC, kC, iC, fC, hD', gC, stC, -, -, asC, slC⟩ := id C
  cases hD.symm.trans hD'
  obtain ⟨D2, kD, e1, e2, e3, e4, e5⟩ := id E
  cases hD.symm.trans e1
  obtain ⟨c2, k2, i1, i2, i3, -⟩ := Cond.instantiable_spec wi
  cases e2.symm.trans i1
  cases e3.symm.trans i2
  obtain ⟨kU, u1, u2⟩ := al.2.2 _ _ e3
  have hB : Blank ST x D P.U := ⟨hD, ⟨knV, fun q hq => by rw [hq] at obV; cases obV⟩, by rw [al.findClass]; exact e2, kU, u1, by rw [u2]; exact i3, by rw [u2]; exact e5 i3⟩
  have F1 : Found ST "value" "[B" fV P.U := ⟨SBG.found_only al ⟨cfV, kV, iV, gV⟩, stV⟩
  have F2 : Found ST "coder" "B" fC P.U := ⟨SBG.found_only al ⟨cfC, kC, iC, gC⟩, stC⟩
  have hA : Ch b A P.U := ⟨⟨K.1, State.isArrayOf_alike al K.2.1, K.2.2, by omega⟩, hty⟩
  have hS : StaticIs P.U ST "COMPACT_STRINGS" "Z" (.int z) := by
    obtain ⟨cfS, iS, kS, fS, st, cS, t1, t2, t3, t4, t5, t6, t7⟩ := S
    exact StaticIs.there (s := { Z with heap := P.U.heap }) ⟨cfS, iS, kS, fS, st, cS, t1, t2, t3, t4, t5, (fun q => by rw [q] at t6; cases t6), t7⟩ al rfl
  obtain ⟨v, B, X', ⟨⟨hv, E', V', q1, q2, q3, q4, q5, q6, q7, q8, q9, q10, q11⟩, hl, hc, hs⟩, st⟩ := New1.pays x D fV fC b A z (tab_of (moved hZ hw)) hfr hlo m meth c P g ig mk _ X hg hsize hdg hW hn ⟨r1, r2, rfl, hB, F1, F2, hA, hS, hz, l0, l2, hp⟩
  have al' : Z.vm.Alike B.U.vm := hZ.alike.trans X'.warmed.alike
  have hsz : E'.slots.size = D.slots.size := by
    obtain ⟨-, -, -, kB, w1, w2, w3⟩ := q1
    obtain ⟨kB', y1, y2⟩ := al'.2.2 _ _ e3
    rw [q2.2.1] at w1
    cases w1.symm.trans y1
    rw [w3, e5 i3, y2]
  refine ⟨v, B, X', ⟨_, ⟨hv, ?_, ⟨by omega, fun y cy hy hn' => q10 y cy (by simpa using hn') hy, fun y cy hy => ?_⟩, q11, ⟨E', _, q1.1, by rw [q2.2.1]; exact e2, by rw [q2.2.1]; exact e3, by rw [q2.1]; exact obV, fun _ => by rw [hsz]; exact e5 i3⟩,
    ⟨E', cfV, kV, iV, fV, q1.1, gV, stV, by rw [q2.1]; exact knV, by rw [q2.1]; exact obV, by rw [q2.2.1]; exact asV, q3⟩, ⟨E', cfC, kC, iC, fC, q1.1, gC, stC, by rw [q2.1]; exact knV, by rw [q2.1]; exact obV, by rw [q2.2.1]; exact asC, q4⟩,
    ⟨V', ⟨q5.1, State.isArrayOf_alike al'.symm q5.2.1, q5.2.2.1⟩, q6, by rw [← al'.findClass]; exact q7, q8, fun j hj => by have := q9 j hj; rwa [Nat.zero_add] at this⟩, fun O n d w F n1 n2 => ?_⟩, hl, hc, hs⟩, st⟩
  · intro y hy
    simp only [List.mem_cons, List.not_mem_nil, or_false] at hy
    rcases hy with rfl | rfl <;> rfl
  · by_cases q : y = x
    · subst q
      cases hD.symm.trans hy
      exact ⟨E', q1.1, q2.2.1, q2.1, hsz⟩
    · exact ⟨cy, q10 y cy q hy, rfl, rfl, rfl⟩
  · obtain ⟨D3, cf, k, i, f, g1, g2, g3, g4, g5, g6, g7⟩ := F
    cases hD.symm.trans g1
    simp only [RoadKit.slotOf, g2, gV, gC, Option.map_some, Option.getD_some] at n1 n2
    exact ⟨E', cf, k, i, f, q1.1, g2, g3, by rw [q2.1]; exact g4, by rw [q2.1]; exact g5, by rw [q2.2.1]; exact g6, by rw [q2.2.2 f.slot (by simp [n1, n2])]; exact g7⟩
end StrChars.Road
namespace StrChars.Road
open Jvm Sem ClassFile Op Lib Jvm.Stand Jvm.Free Jvm.Free.XT
/-- WHAT COMES BACK, the byte[] as a list of values -/
def QA (Z : State) (x : Addr) (zn : Int32) (cs : List Int32) (h : Heap) (v : Option Value) (h' : Heap) (L : List Loc) : Prop := v = none ∧ (∀ y ∈ L, y.base = x) ∧ RoadKit.Keep h h' [x] ∧ h'.size = h.size + 1 ∧ RoadKit.Exa Z h' x ST ∧ RoadKit.Fld Z h' x ST "value" "[B" (.ref h.size) ∧ RoadKit.Fld Z h' x ST "coder" "B" (.int 0) ∧
  (∃ kb, Z.vm.findClass "[B" = some kb ∧ RoadKit.Arv Z h' h.size kb .byte zn (cs.map fun c => .int (lo8 c)) (.int 0)) ∧
  ∀ (O n d : String) (w : Value), RoadKit.Fld Z h x O n d w → RoadKit.slotOf Z O n d ≠ RoadKit.slotOf Z ST "value" "[B" → RoadKit.slotOf Z O n d ≠ RoadKit.slotOf Z ST "coder" "B" → RoadKit.Fld Z h' x O n d w
/-- **new String(chars) AT A CALL, THE ARRAYS AS LISTS**: the char[] at b holds cs, not empty, no char above 255 -/
theorem backArv {p : Program} {l : Launch} {e : Env} {R : Room} {s : State} {args : Array Value} {below : List Frame} {len W : Nat} {Z : State} {a0 : Array Value} {h : Heap} (hZ : Z.Warmed39 s.vm) (hw : ∀ d ∈ words, d.before a0 Z = true) {kI : Nat} (wi : (Jvm.Cond.instantiable ST kI).before a0 Z = true)
    {x b : Addr} {k : ClassId} {zn z : Int32} {cs : List Int32} {dv v0 c0 : Value} (E : RoadKit.Exa Z h x ST) (V : RoadKit.Fld Z h x ST "value" "[B" v0) (C : RoadKit.Fld Z h x ST "coder" "B" c0) (K : RoadKit.Arv Z h b k .char zn (cs.map Value.int) dv) (S : RoadKit.Sta Z h ST "COMPACT_STRINGS" "Z" (.int z)) (hz : ¬ z = 0)
    (hlen : zn.toNatClampNeg = cs.length) (h0 : 0 < cs.length) (hbig : cs.length ≤ 536870912) (hall : ∀ c ∈ cs, ¬ 255 < c) (hfr : 4 ≤ R.frames) (hlo : W + 65 ≤ R.locals) :
    Back l R p e below s args New1.yN len W (fun P a => a = #[.ref x, .ref b] ∧ P.U.heap = h ∧ P.cells + 1 ≤ R.cells ∧ P.slots + cs.length ≤ R.slots)
      (fun P _ v B => ∃ L, QA Z x zn cs h v B.U.heap L ∧ B.locs = P.locs ++ L ∧ B.cells = P.cells + 1 ∧ B.slots = P.slots + cs.length) := by
  obtain ⟨A, K1, K2, K3, K4, K5, K6⟩ := K
  have e : A.slots.size = cs.length := K3.trans hlen
  have hat : ∀ (i : Nat) (hi : i < cs.length), A.slots[i]? = some (.int cs[i]) := fun i hi => by rw [K5 i (by omega)]; simp [List.getD_eq_getElem?_getD, hi]
  have hcv : ∀ (i : Nat) (hi : i < cs.length), cv A i = cs[i] := fun i hi => by unfold cv; rw [hat i hi]
  have hty : Typed .char A := fun i v hv => by
    have hi : i < A.slots.size := (Array.getElem?_eq_some_iff.mp hv).1
    have q := K5 i hi
    rw [hv] at q
    rw [Option.some.inj q]
    exact K6 i hi
  refine Back.mono (back hZ hw wi E V C K1 hty S hz (by omega) (by omega) (fun i hi => by rw [hcv i (by omega)]; exact hall _ (List.getElem_mem _)) hfr hlo) (fun P a hp => ⟨hp.1, hp.2.1, hp.2.2.1, by rw [e]; exact hp.2.2.2⟩) (fun P a v B hp hq => ?_)
  obtain ⟨L, ⟨q1, q2, q3, q4, q5, q6, q7, ⟨V', v1, v2, v3, v4, v5⟩, q9⟩, hl, hc, hs⟩ := hq
  refine ⟨L, ⟨q1, q2, q3, q4, q5, q6, q7, ⟨V'.cls, v3, V', v1, rfl, by rw [v4, e, hlen], K4, fun i hi => ?_, fun i hi => ?_⟩, q9⟩, hl, hc, by rw [hs, e]⟩
  · have hi' : i < cs.length := by omega
    rw [v5 i (by omega), hcv i hi']; simp [List.getD_eq_getElem?_getD, hi']
  · have hi' : i < cs.length := by omega
    simp only [List.getD_eq_getElem?_getD, List.getElem?_map, List.getElem?_eq_getElem hi', Option.map_some, Option.getD_some]
    exact fits_lo8 _
end StrChars.Road
namespace StrChars.Road
open Jvm Sem ClassFile Op Lib Jvm.Stand Jvm.Free Jvm.Free.XT
/-- WHAT COMES BACK, in the writer's own shape -/
def QV (Z : State) (x : Addr) (N : Int32) (bs : List Int32) (h : Heap) (n0 : Nat) (v : Option Value) (h' : Heap) (L : List Loc) : Prop := v = none ∧ RoadKit.Fr n0 L ∧ RoadKit.Keep h h' [x] ∧ RoadKit.Exa Z h' x ST ∧ RoadKit.Fld Z h' x ST "coder" "B" (.int 0) ∧
  ∃ (t : Addr) (kb : ClassId), n0 ≤ t ∧ h.size ≤ t ∧ ¬ t = x ∧ RoadKit.Fld Z h' x ST "value" "[B" (.ref t) ∧ RoadKit.Arv Z h' t kb .byte N (bs.map Value.int) (.int 0)
/-- **new String(chars) AT A CALL, FOR THE WRITER**: a char[] of n known ints, each 0 to 255 -/
theorem backV {p : Program} {l : Launch} {e : Env} {R : Room} {s : State} {args : Array Value} {below : List Frame} {len W : Nat} {Z : State} {a0 : Array Value} {h : Heap} (hZ : Z.Warmed39 s.vm) (hw : ∀ d ∈ words, d.before a0 Z = true) {kI : Nat} (wi : (Jvm.Cond.instantiable ST kI).before a0 Z = true)
    {x b : Addr} {kC : ClassId} {cs bs : List Int32} {d v0 c0 : Value} {z N : Int32} {n n0 : Nat} (hx0 : n0 ≤ x) (hh0 : n0 ≤ h.size) (E : RoadKit.Exa Z h x ST) (V : RoadKit.Fld Z h x ST "value" "[B" v0) (C : RoadKit.Fld Z h x ST "coder" "B" c0) (K : RoadKit.Arv Z h b kC .char N (cs.map Value.int) d) (S : RoadKit.Sta Z h ST "COMPACT_STRINGS" "Z" (.int z)) (hz : ¬ z = 0)
    (hn : cs.length = n) (hN : N = Int32.ofNat n) (l0 : 0 < n) (l2 : n ≤ 4000) (hp : ∀ c ∈ cs, ¬ c < 0 ∧ ¬ (255 : Int32) < c) (hb : bs = cs.map (fun c => c.toInt8.toInt32)) (hfr : 4 ≤ R.frames) (hlo : W + 65 ≤ R.locals) :
    Back l R p e below s args (⟨"java/lang/String", "<init>", "([C)V"⟩ : MethodName) len W (fun P a => a = #[.ref x, .ref b] ∧ P.U.heap = h ∧ P.cells + 1 ≤ R.cells ∧ P.slots + n ≤ R.slots)
      (fun P _ v B => ∃ L, QV Z x N bs h n0 v B.U.heap L ∧ B.locs = P.locs ++ L ∧ B.cells = P.cells + 1 ∧ B.slots = P.slots + n) := by
  subst hn hN hb
  refine Back.mono (backArv hZ hw wi E V C K S hz (n32 (by omega)) l0 (by omega) (fun c hc => (hp c hc).2) hfr hlo) (fun P a hp => hp) (fun P a v B hp hq => ?_)
  obtain ⟨L, ⟨q1, q2, q3, q4, q5, q6, q7, ⟨kb, v1, v2⟩, q9⟩, hl, hc, hs⟩ := hq
  exact ⟨L, ⟨q1, fun y hy => by rw [q2 y hy]; exact hx0, q3, q5, q7, h.size, kb, hh0, Nat.le_refl _, Nat.ne_of_gt E.lt, q6, by rw [List.map_map]; exact v2⟩, hl, hc, hs⟩
end StrChars.Road
namespace StrChars
open Jvm Sem ClassFile Op Lib Jvm.Stand Jvm.Free.XT Jvm.Free.ALB Jvm.Free.JM Jvm.Free
open Jvm.Lib.Cold (StaticIs)
def hi8 (x : Int32) : Int32 := lo8 (x >>> ((8 : Int32) &&& 31))
/-- what StringUTF16.getChar makes of two bytes -/
def pairCh (u v : Int32) : Int32 := (((u &&& 255) <<< ((0 : Int32) &&& 31)) ||| ((v &&& 255) <<< ((8 : Int32) &&& 31))).toUInt32.toUInt16.toUInt32.toInt32
theorem shr0 (c : Int32) : c >>> ((0 : Int32) &&& 31) = c := by
  have e : ((0 : Int32) &&& 31) = 0 := by decide
  rw [e]
  apply Int32.toBitVec_inj.mp
  rw [Int32.toBitVec_shiftRight]
  have e1 : ((0 : Int32).toBitVec.smod 32) = 0#32 := by decide
  rw [e1, BitVec.sshiftRight_eq']
  exact BitVec.sshiftRight_zero
theorem lo8_and (x : Int32) : (lo8 x &&& 255).toBitVec.toNat = x.toBitVec.toNat % 256 := by
  have h : (lo8 x).toBitVec = (x.toBitVec.signExtend 8).signExtend 32 := by rw [lo8, Int8.toBitVec_toInt32, Int32.toBitVec_toInt8]
  rw [Int32.toBitVec_and, BitVec.toNat_and, h]
  have e : ((x.toBitVec.signExtend 8).signExtend 32).toNat % 256 = x.toBitVec.toNat % 256 := by
    rw [BitVec.toNat_signExtend]
    have hlt := x.toBitVec.isLt
    simp only [BitVec.toNat_setWidth, BitVec.toNat_signExtend]
    split <;> split <;> omega
  rw [← e]
  exact Nat.and_two_pow_sub_one_eq_mod _ 8
theorem pair_says {c : Int32} (h0 : ¬ c < 0) (h1 : ¬ 65535 < c) : pairCh (lo8 c) (hi8 c) = c := by
  rw [Int32.lt_iff_toInt_lt] at h0 h1
  have e0 : (0 : Int32).toInt = 0 := rfl
  have e1 : (65535 : Int32).toInt = 65535 := rfl
  have hc : c.toInt = c.toBitVec.toNat := by
    have := c.toBitVec.isLt
    have e : c.toInt = c.toBitVec.toInt := rfl
    rw [e] at h0 h1
    rw [e]
    rw [BitVec.toInt_eq_toNat_cond] at h0 h1 ⊢
    split at h0 <;> split <;> omega
  have hn : c.toBitVec.toNat < 65536 := by omega
  have a1 := lo8_and c
  have a2 : (hi8 c &&& 255).toBitVec.toNat = c.toBitVec.toNat / 256 := by
    rw [hi8, lo8_and]
    have e : ((8 : Int32) &&& 31) = 8 := by decide
    rw [e, Int32.toBitVec_shiftRight]
    have e2 : ((8 : Int32).toBitVec.smod 32) = 8#32 := by decide
    rw [e2, BitVec.sshiftRight_eq', BitVec.toNat_sshiftRight_of_msb_false (by rw [BitVec.msb_eq_false_iff_two_mul_lt]; omega)]
    show c.toBitVec.toNat >>> 8 % 256 = _
    rw [Nat.shiftRight_eq_div_pow]
    omega
  unfold pairCh
  apply Int32.toBitVec_inj.mp
  apply BitVec.eq_of_toNat_eq
  have f0 : ((0 : Int32) &&& 31) = 0 := by decide
  have f8 : ((8 : Int32) &&& 31) = 8 := by decide
  rw [f0, f8]
  have g : (((lo8 c &&& 255) <<< (0 : Int32)) ||| ((hi8 c &&& 255) <<< (8 : Int32))).toBitVec.toNat = c.toBitVec.toNat := by
    rw [Int32.toBitVec_or, Int32.toBitVec_shiftLeft, Int32.toBitVec_shiftLeft]
    have s0 : ((0 : Int32).toBitVec.smod 32) = 0#32 := by decide
    have s8 : ((8 : Int32).toBitVec.smod 32) = 8#32 := by decide
    rw [s0, s8, BitVec.toNat_or]
    simp only [BitVec.shiftLeft_eq', BitVec.toNat_shiftLeft, a1, a2]
    show (c.toBitVec.toNat % 256) <<< 0 % 2 ^ 32 ||| (c.toBitVec.toNat / 256) <<< 8 % 2 ^ 32 = _
    rw [Nat.shiftLeft_zero, Nat.mod_eq_of_lt (show c.toBitVec.toNat % 256 < 2 ^ 32 by omega), Nat.mod_eq_of_lt (show (c.toBitVec.toNat / 256) <<< 8 < 2 ^ 32 by rw [Nat.shiftLeft_eq]; omega), Nat.or_comm, ← Nat.shiftLeft_add_eq_or_of_lt (by omega), Nat.shiftLeft_eq]
    omega
  show BitVec.toNat (((((lo8 c &&& 255) <<< (0 : Int32)) ||| ((hi8 c &&& 255) <<< (8 : Int32))).toBitVec.setWidth 16).setWidth 32) = _
  rw [BitVec.toNat_setWidth, BitVec.toNat_setWidth, g]
  omega
end StrChars
namespace StrChars
open Jvm Sem ClassFile Op Lib Jvm.Stand Jvm.Free.XT Jvm.Free.ALB Jvm.Free.JM Jvm.Free
open Jvm.Lib.Cold (StaticIs)
theorem shr1 {n : Nat} (h : 2 * n < 2 ^ 31) : Int32.ofNat (2 * n) >>> ((1 : Int32) &&& 31) = Int32.ofNat n := by
  have e : ((1 : Int32) &&& 31) = 1 := by decide
  rw [e]
  apply Int32.toBitVec_inj.mp
  rw [Int32.toBitVec_shiftRight]
  have e1 : ((1 : Int32).toBitVec.smod 32) = 1#32 := by decide
  have hm : (BitVec.ofNat 32 (2 * n)).toNat = 2 * n := by rw [BitVec.toNat_ofNat, Nat.mod_eq_of_lt (by omega)]
  rw [e1, BitVec.sshiftRight_eq']
  apply BitVec.eq_of_toNat_eq
  show ((BitVec.ofNat 32 (2 * n)).sshiftRight 1).toNat = (BitVec.ofNat 32 n).toNat
  rw [BitVec.toNat_sshiftRight_of_msb_false (by rw [BitVec.msb_eq_false_iff_two_mul_lt, hm]; omega), hm, BitVec.toNat_ofNat, Nat.shiftRight_eq_div_pow]
  omega
/-- charAt's cast of a byte read back -/
def chr8 (u : Int32) : Int32 := (u &&& 255).toUInt32.toUInt16.toUInt32.toInt32
theorem chr8_lo8 {c : Int32} (h0 : ¬ c < 0) (h1 : ¬ 255 < c) : chr8 (lo8 c) = c := by
  have t : ∀ k : Fin 256, (Int32.ofNat k.val).toUInt32.toUInt16.toUInt32.toInt32 = Int32.ofNat k.val := by decide +kernel
  unfold chr8
  rw [lo8_mask h0 h1]
  rw [Int32.lt_iff_toInt_lt] at h0 h1
  have e0 : (0 : Int32).toInt = 0 := rfl
  have e1 : (255 : Int32).toInt = 255 := rfl
  obtain ⟨k, hk⟩ : ∃ k : Nat, c.toInt = k := ⟨c.toInt.toNat, by omega⟩
  have hx : c = Int32.ofNat k := Int32.toInt_inj.mp (by rw [hk, Int32.toInt_ofNat_small (by omega)])
  rw [hx]
  exact t ⟨k, by omega⟩
theorem narrow_ch {c : Int32} (h0 : ¬ c < 0) (h1 : ¬ 65535 < c) : narrow .char (.int c) = .int c := by
  have q : narrow .char (.int (pairCh (lo8 c) (hi8 c))) = .int (pairCh (lo8 c) (hi8 c)) := narrow_c _
  rwa [pair_says h0 h1] at q
/-- the array's cell V codes the n chars f 0 .. f (n - 1) by the coder cd, as the JDK does: coder 1 just where some char is above 255 -/
def Cod (cd : Int32) (n : Nat) (f : Nat → Int32) (V : Cell) : Prop := (cd = 0 ∧ V.slots.size = n ∧ ∀ j, j < n → V.slots[j]? = some (.int (lo8 (f j))) ∧ ¬ 255 < f j) ∨ (cd = 1 ∧ V.slots.size = 2 * n ∧ (∀ j, j < n → V.slots[2 * j]? = some (.int (lo8 (f j))) ∧ V.slots[2 * j + 1]? = some (.int (hi8 (f j)))) ∧ ∃ j, j < n ∧ 255 < f j)
theorem Cod.cd {cd : Int32} {n : Nat} {f : Nat → Int32} {V : Cell} (h : Cod cd n f V) : cd = 0 ∨ cd = 1 := h.imp (fun q => q.1) fun q => q.1
theorem Cod.len {cd : Int32} {n : Nat} {f : Nat → Int32} {V : Cell} (h : Cod cd n f V) (hs : V.slots.size < 2 ^ 31) : Int32.ofNat V.slots.size >>> (cd &&& 31) = Int32.ofNat n := by
  rcases h with ⟨rfl, h, -⟩ | ⟨rfl, h, -⟩
  · rw [shr0, h]
  · rw [h, shr1 (by omega)]
/-- **x is a String of the n chars f 0 .. f (n - 1)**, Latin-1 or UTF-16; its array at t has the cell V -/
def Txt (x t : Addr) (V : Cell) (cd : Int32) (n : Nat) (f : Nat → Int32) (U : State) : Prop := Exact "java/lang/String" x U ∧ Has x "java/lang/String" "value" "[B" (.ref t) U ∧ Has x "java/lang/String" "coder" "B" (.int cd) U ∧ XT.Arr .byte t V U ∧ Cod cd n f V ∧ ∀ j, j < n → ¬ f j < 0 ∧ ¬ 65535 < f j
theorem Txt.mv {x t : Addr} {V : Cell} {cd : Int32} {n : Nat} {f : Nat → Int32} {U U' : State} (h : Txt x t V cd n f U) (hal : U.vm.Alike U'.vm) (hh : U'.heap = U.heap) : Txt x t V cd n f U' := ⟨h.1.mv hal hh, h.2.1.mv hal hh, h.2.2.1.mv hal hh, h.2.2.2.1.mv hal hh, h.2.2.2.2⟩
namespace Cdr
def yN : MethodName := ⟨"java/lang/String", "coder", "()B"⟩
abbrev yB : ByteArray := jdk_42_method_152_code
theorem d0 : decode yB 0 = .ok (.getstatic 38, 3) := by decide +kernel
theorem d3 : decode yB 3 = .ok (.ifCond (.eq) 10, 3) := by decide +kernel
theorem d6 : decode yB 6 = .ok (.aload_n 0, 1) := by decide +kernel
theorem d7 : decode yB 7 = .ok (.getfield 15, 3) := by decide +kernel
theorem d10 : decode yB 10 = .ok (.goto 4, 3) := by decide +kernel
theorem d14 : decode yB 14 = .ok (.ireturn, 1) := by decide +kernel
def site : List Cond := [.fieldLink "java/lang/String" 38 "java/lang/String" "COMPACT_STRINGS" "Z", .fieldLink "java/lang/String" 15 "java/lang/String" "coder" "B"]
def tab : Cond := tabOf yN yB 1 (some .byte) site
def P (x : Addr) (cd z : Int32) (args : Array Value) (s : State) : Prop := args = #[.ref x] ∧ Has x "java/lang/String" "coder" "B" (.int cd) s ∧ (cd = 0 ∨ cd = 1) ∧ StaticIs s "java/lang/String" "COMPACT_STRINGS" "Z" (.int z) ∧ ¬ z = 0
def E (cd : Int32) (r : Option Value) (s u : State) : Prop := XT.PureE (some (.int cd)) r s u
theorem law (l : Launch) (x : Addr) (cd z : Int32) : Law l yN 1 0 0 0 yB 1 (some .byte) site (P x cd z) (E cd) [] 0 0 := by
  refine Law.of_walk (plainFor_of_name (by decide +kernel)) (by decide +kernel) (by decide +kernel) (by decide) (fun _ _ h => by rw [h.1]; rfl) (fun _ U U' hal hh h => ⟨h.1, h.2.1.mv hal hh, h.2.2.1, h.2.2.2.1.there hal hh, h.2.2.2.2⟩) (fun r U U' V V' h1 hal h2 h => XT.PureE.mv r U U' V V' h1 hal h2 h) ?_
  intro p e s m args below meth c s₁ X0 hexec hbytes hml hret hlk hnm hown hh0 W hP
  obtain ⟨rfl, hx, hc, s1, hz⟩ := hP
  have c1 : Steps p.tables e below (s₁.setTop (entryFrame m #[.ref x] 1)) (s₁.setTop (mkF m 0 #[.val (.ref x)] [])) := entry rfl
  obtain ⟨T2, X2, q2, st2⟩ := X0.sget hexec hown (wk W (.fieldLink "java/lang/String" 38 "java/lang/String" "COMPACT_STRINGS" "Z")) s1 (fun _ _ h => by rw [hh0]; exact h) (g := (mkF m 0 #[.val (.ref x)] [])) rfl (hb hbytes d0)
  have hh2 := q2.trans hh0
  have c3 : Steps p.tables e below (s₁.setTop (entryFrame m #[.ref x] 1)) (T2.setTop (mkF m 7 #[.val (.ref x)] [.ref x])) := (c1.trans (st2 _ (Steps.refl _))).trans (by
    refine XS.ifNo X2.here hexec rfl (hb hbytes d3) rfl (i0_eq_f hz) ?_
    refine XS.aloadN X2.here hexec rfl (hb hbytes d6) rfl rfl ?_
    exact Steps.refl _)
  obtain ⟨T4, X4, q4, st4⟩ := X2.hget hexec hown (wk W (.fieldLink "java/lang/String" 15 "java/lang/String" "coder" "B")) (hx.mv X2.warmed.alike hh2) (g := (mkF m 7 #[.val (.ref x)] [.ref x])) rfl (rest := []) rfl (hb hbytes d7)
  have c5 : Steps p.tables e below (s₁.setTop (entryFrame m #[.ref x] 1)) (T4.setTop (mkF m 14 #[.val (.ref x)] [.int cd])) := (c3.trans (st4 _ (Steps.refl _))).trans (by
    refine XS.goto X4.here hexec rfl (pc0 := 10) rfl (hb hbytes d10) (by decide) rfl ?_
    exact Steps.refl _)
  exact ⟨T4, some (.int cd), _, _, _, X4, rfl, rfl, rfl, (fun h => by cases h), ⟨rfl, q4.trans hh2⟩, fun fs hl => c5.trans (X4.ireturnOut hexec hret (by rcases hc with rfl | rfl <;> rfl) (Or.inr (Or.inr (Or.inl rfl))) (hb hbytes d14) hl)⟩
end Cdr
namespace Len
def yN : MethodName := ⟨"java/lang/String", "length", "()I"⟩
abbrev yB : ByteArray := jdk_42_method_54_code
theorem d0 : decode yB 0 = .ok (.aload_n 0, 1) := by decide +kernel
theorem d1 : decode yB 1 = .ok (.getfield 9, 3) := by decide +kernel
theorem d4 : decode yB 4 = .ok (.arraylength, 1) := by decide +kernel
theorem d5 : decode yB 5 = .ok (.aload_n 0, 1) := by decide +kernel
theorem d6 : decode yB 6 = .ok (.invokevirtual 335, 3) := by decide +kernel
theorem d9 : decode yB 9 = .ok (.ishr, 1) := by decide +kernel
theorem d10 : decode yB 10 = .ok (.ireturn, 1) := by decide +kernel
def site : List Cond := [.fieldLink "java/lang/String" 9 "java/lang/String" "value" "[B", Cdr.tab] ++ virtW "java/lang/String" 335 "java/lang/String" Cdr.yN Cdr.yN
def tab : Cond := tabOf yN yB 1 (some .int) site
def P (x t : Addr) (V : Cell) (cd : Int32) (n : Nat) (f : Nat → Int32) (z : Int32) (args : Array Value) (s : State) : Prop := args = #[.ref x] ∧ Txt x t V cd n f s ∧ StaticIs s "java/lang/String" "COMPACT_STRINGS" "Z" (.int z) ∧ ¬ z = 0
def E (n : Nat) (r : Option Value) (s u : State) : Prop := XT.PureE (some (.int (Int32.ofNat n))) r s u
/-- length() of a String of n chars, in either coding -/
theorem law (l : Launch) (x t : Addr) (V : Cell) (cd : Int32) (n : Nat) (f : Nat → Int32) (z : Int32) : Law l yN 1 0 1 13 yB 1 (some .int) site (P x t V cd n f z) (E n) [] 0 0 := by
  refine Law.of_walk (plainFor_of_name (by decide +kernel)) (by decide +kernel) (by decide +kernel) (by decide) (fun _ _ h => by rw [h.1]; rfl) (fun _ U U' hal hh h => ⟨h.1, h.2.1.mv hal hh, h.2.2.1.there hal hh, h.2.2.2⟩) (fun r U U' V V' h1 hal h2 h => XT.PureE.mv r U U' V V' h1 hal h2 h) ?_
  intro p e s m args below meth c s₁ X0 hexec hbytes hml hret hlk hnm hown hh0 W hP
  obtain ⟨rfl, hx, s1, hz⟩ := hP
  have v31 := hx.2.2.2.1.2.2.2
  have c1 : Steps p.tables e below (s₁.setTop (entryFrame m #[.ref x] 1)) (s₁.setTop (mkF m 1 #[.val (.ref x)] [.ref x])) := Steps.trans (entry rfl) (by
    show Steps p.tables e below (s₁.setTop (mkF m 0 #[.val (.ref x)] [])) _
    refine XS.aloadN X0.here hexec rfl (hb hbytes d0) rfl rfl ?_
    exact Steps.refl _)
  obtain ⟨T2, X2, q2, st2⟩ := X0.hget hexec hown (wk W (.fieldLink "java/lang/String" 9 "java/lang/String" "value" "[B")) (hx.mv X0.warmed.alike hh0).2.1 (g := (mkF m 1 #[.val (.ref x)] [.ref x])) rfl (rest := []) rfl (hb hbytes d1)
  have hh2 := q2.trans hh0
  have hx2 := hx.mv X2.warmed.alike hh2
  have c3 : Steps p.tables e below (s₁.setTop (entryFrame m #[.ref x] 1)) (T2.setTop (mkF m 6 #[.val (.ref x)] [.ref x, .int (Int32.ofNat V.slots.size)])) := (c1.trans (st2 _ (Steps.refl _))).trans (by
    refine X2.alen hexec hx2.2.2.2.1 rfl rfl (hb hbytes d4) ?_
    refine XS.aloadN X2.here hexec rfl (hb hbytes d5) rfl rfl ?_
    exact Steps.refl _)
  obtain ⟨v4, T4, X4, E4, g4⟩ := X2.callV hexec (Cdr.law l x cd z) hown (wks W (virtW "java/lang/String" 335 "java/lang/String" Cdr.yN Cdr.yN)) rfl (by decide) (wk W Cdr.tab) (W := 1) (Nat.le_of_ble_eq_true rfl) (Nat.le_of_ble_eq_true rfl) (Nat.le_refl _) (Nat.le_refl _) (hx2.1.fc X2.warmed.alike) hx2.1.is (g := (mkF m 6 #[.val (.ref x)] [.ref x, .int (Int32.ofNat V.slots.size)])) rfl (by rw [hml]; rfl) c3 (argsL := []) (rest := [.int (Int32.ofNat V.slots.size)]) rfl rfl (by show 2 * 0 + (1 + 0) ≤ _; decide) (hb hbytes d6) (⟨rfl, hx2.2.2.1, hx.2.2.2.2.1.cd, s1.there X2.warmed.alike hh2, hz⟩)
  obtain ⟨rfl, q4⟩ := E4
  have c5 : Steps p.tables e below (s₁.setTop (entryFrame m #[.ref x] 1)) (T4.setTop (mkF m 10 #[.val (.ref x)] [.int (Int32.ofNat V.slots.size >>> (cd &&& 31))])) := Steps.trans g4 (by
    refine ishr X4.here hexec rfl (hb hbytes d9) rfl ?_
    exact Steps.refl _)
  rw [hx.2.2.2.2.1.len v31] at c5
  exact ⟨T4, some (.int (Int32.ofNat n)), _, _, _, X4, rfl, rfl, rfl, (fun h => by cases h), ⟨rfl, q4.trans hh2⟩, fun fs hl => c5.trans (X4.ireturnOut hexec hret rfl (Or.inl rfl) (hb hbytes d10) hl)⟩
theorem pays {l : Launch} {R : Room} {p : Program} {e : Env} {below : List Frame} {s : State} {sargs : Array Value} {len W : Nat} (x t : Addr) (V : Cell) (cd : Int32) (n : Nat) (f : Nat → Int32) (z : Int32) (htab : tab.before sargs s = true) (hfr : 2 ≤ R.frames) (hlo : W + 25 ≤ R.locals) :
    Back l R p e below s sargs yN len W (fun A₁ a₁ => A₁.cells + 0 ≤ R.cells ∧ A₁.slots + 0 ≤ R.slots ∧ P x t V cd n f z a₁ A₁.U) (fun A₁ _ v₁ B₁ => E n v₁ A₁.U B₁.U ∧ B₁.locs = A₁.locs ++ [] ∧ B₁.cells = A₁.cells + 0 ∧ B₁.slots = A₁.slots + 0) :=
  (law l x t V cd n f z).pays htab hfr (by omega)
end Len
namespace IsL
def yN : MethodName := ⟨"java/lang/String", "isLatin1", "()Z"⟩
abbrev yB : ByteArray := jdk_42_method_154_code
theorem d0 : decode yB 0 = .ok (.getstatic 38, 3) := by decide +kernel
theorem d3 : decode yB 3 = .ok (.ifCond (.eq) 14, 3) := by decide +kernel
theorem d6 : decode yB 6 = .ok (.aload_n 0, 1) := by decide +kernel
theorem d7 : decode yB 7 = .ok (.getfield 15, 3) := by decide +kernel
theorem d10 : decode yB 10 = .ok (.ifCond (.ne) 7, 3) := by decide +kernel
theorem d13 : decode yB 13 = .ok (.iconst 1, 1) := by decide +kernel
theorem d14 : decode yB 14 = .ok (.goto 4, 3) := by decide +kernel
theorem d17 : decode yB 17 = .ok (.iconst 0, 1) := by decide +kernel
theorem d18 : decode yB 18 = .ok (.ireturn, 1) := by decide +kernel
def site : List Cond := [.fieldLink "java/lang/String" 38 "java/lang/String" "COMPACT_STRINGS" "Z", .fieldLink "java/lang/String" 15 "java/lang/String" "coder" "B"]
def tab : Cond := tabOf yN yB 1 (some .boolean) site
def P (x : Addr) (cd z : Int32) (args : Array Value) (s : State) : Prop := args = #[.ref x] ∧ Has x "java/lang/String" "coder" "B" (.int cd) s ∧ (cd = 0 ∨ cd = 1) ∧ StaticIs s "java/lang/String" "COMPACT_STRINGS" "Z" (.int z) ∧ ¬ z = 0
def E (cd : Int32) (r : Option Value) (s u : State) : Prop := XT.PureE (some (.int (1 - cd))) r s u
theorem law (l : Launch) (x : Addr) (cd z : Int32) : Law l yN 1 0 0 0 yB 1 (some .boolean) site (P x cd z) (E cd) [] 0 0 := by
  refine Law.of_walk (plainFor_of_name (by decide +kernel)) (by decide +kernel) (by decide +kernel) (by decide) (fun _ _ h => by rw [h.1]; rfl) (fun _ U U' hal hh h => ⟨h.1, h.2.1.mv hal hh, h.2.2.1, h.2.2.2.1.there hal hh, h.2.2.2.2⟩) (fun r U U' V V' h1 hal h2 h => XT.PureE.mv r U U' V V' h1 hal h2 h) ?_
  intro p e s m args below meth c s₁ X0 hexec hbytes hml hret hlk hnm hown hh0 W hP
  obtain ⟨rfl, hx, hc, s1, hz⟩ := hP
  have c1 : Steps p.tables e below (s₁.setTop (entryFrame m #[.ref x] 1)) (s₁.setTop (mkF m 0 #[.val (.ref x)] [])) := entry rfl
  obtain ⟨T2, X2, q2, st2⟩ := X0.sget hexec hown (wk W (.fieldLink "java/lang/String" 38 "java/lang/String" "COMPACT_STRINGS" "Z")) s1 (fun _ _ h => by rw [hh0]; exact h) (g := (mkF m 0 #[.val (.ref x)] [])) rfl (hb hbytes d0)
  have hh2 := q2.trans hh0
  have c3 : Steps p.tables e below (s₁.setTop (entryFrame m #[.ref x] 1)) (T2.setTop (mkF m 7 #[.val (.ref x)] [.ref x])) := (c1.trans (st2 _ (Steps.refl _))).trans (by
    refine XS.ifNo X2.here hexec rfl (hb hbytes d3) rfl (i0_eq_f hz) ?_
    refine XS.aloadN X2.here hexec rfl (hb hbytes d6) rfl rfl ?_
    exact Steps.refl _)
  obtain ⟨T4, X4, q4, st4⟩ := X2.hget hexec hown (wk W (.fieldLink "java/lang/String" 15 "java/lang/String" "coder" "B")) (hx.mv X2.warmed.alike hh2) (g := (mkF m 7 #[.val (.ref x)] [.ref x])) rfl (rest := []) rfl (hb hbytes d7)
  have c5 : Steps p.tables e below (s₁.setTop (entryFrame m #[.ref x] 1)) (T4.setTop (mkF m 10 #[.val (.ref x)] [.int cd])) := c3.trans (st4 _ (Steps.refl _))
  have c6 : Steps p.tables e below (s₁.setTop (entryFrame m #[.ref x] 1)) (T4.setTop (mkF m 18 #[.val (.ref x)] [.int (1 - cd)])) := by
    rcases hc with rfl | rfl
    · exact c5.trans (by
        refine XS.ifNo X4.here hexec rfl (hb hbytes d10) rfl (i0_ne_f rfl) ?_
        refine iconstV X4.here hexec rfl 1 (hb hbytes d13) (by decide) ?_
        refine XS.goto X4.here hexec rfl (pc0 := 14) rfl (hb hbytes d14) (by decide) rfl ?_
        exact Steps.refl _)
    · exact c5.trans (by
        refine XS.ifYes X4.here hexec rfl (pc0 := 10) rfl (hb hbytes d10) rfl (i0_ne_t (by decide)) (by decide) rfl ?_
        refine iconstV X4.here hexec rfl 0 (hb hbytes d17) (by decide) ?_
        exact Steps.refl _)
  exact ⟨T4, some (.int (1 - cd)), _, _, _, X4, rfl, rfl, rfl, (fun h => by cases h), ⟨rfl, q4.trans hh2⟩, fun fs hl => c6.trans (X4.ireturnOut hexec hret (by rcases hc with rfl | rfl <;> rfl) (Or.inr (Or.inl rfl)) (hb hbytes d18) hl)⟩
end IsL
namespace LChA
def yN : MethodName := ⟨"java/lang/StringLatin1", "charAt", "([BI)C"⟩
abbrev yB : ByteArray := jdk_43_method_2_code
theorem d0 : decode yB 0 = .ok (.iload_n 1, 1) := by decide +kernel
theorem d1 : decode yB 1 = .ok (.aload_n 0, 1) := by decide +kernel
theorem d2 : decode yB 2 = .ok (.arraylength, 1) := by decide +kernel
theorem d3 : decode yB 3 = .ok (.invokestatic 9, 3) := by decide +kernel
theorem d6 : decode yB 6 = .ok (.aload_n 0, 1) := by decide +kernel
theorem d7 : decode yB 7 = .ok (.iload_n 1, 1) := by decide +kernel
theorem d8 : decode yB 8 = .ok (.baload, 1) := by decide +kernel
theorem d9 : decode yB 9 = .ok (.sipush 255, 3) := by decide +kernel
theorem d12 : decode yB 12 = .ok (.iand, 1) := by decide +kernel
theorem d13 : decode yB 13 = .ok (.i2c, 1) := by decide +kernel
theorem d14 : decode yB 14 = .ok (.ireturn, 1) := by decide +kernel
def site : List Cond := [JO.Str_checkIndex.tab] ++ staticW "java/lang/StringLatin1" 9 JO.Str_checkIndex.yN
def tab : Cond := tabOf yN yB 2 (some .char) site
def P (t : Addr) (V : Cell) (i : Nat) (u : Int32) (fm : Value) (args : Array Value) (s : State) : Prop := args = #[.ref t, .int (Int32.ofNat i)] ∧ XT.Arr .byte t V s ∧ V.slots[i]? = some (.int u) ∧ (StaticIs s "jdk/internal/util/Preconditions" "SIOOBE_FORMATTER" "Ljava/util/function/BiFunction;" fm ∧ fm.isRef = true)
def E (u : Int32) (r : Option Value) (s w : State) : Prop := XT.PureE (some (.int (chr8 u))) r s w
theorem law (l : Launch) (t : Addr) (V : Cell) (i : Nat) (u : Int32) (fm : Value) : Law l yN 2 2 2 27 yB 2 (some .char) site (P t V i u fm) (E u) [] 0 0 := by
  refine Law.of_walk (plainFor_of_name (by decide +kernel)) (by decide +kernel) (by decide +kernel) (by decide) (fun _ _ h => by rw [h.1]; rfl) (fun _ U U' hal hh h => ⟨h.1, h.2.1.mv hal hh, h.2.2.1, h.2.2.2.1.there hal hh, h.2.2.2.2⟩) (fun r U U' V V' h1 hal h2 h => XT.PureE.mv r U U' V V' h1 hal h2 h) ?_
  intro p e s m args below meth c s₁ X0 hexec hbytes hml hret hlk hnm hown hh0 W hP
  obtain ⟨rfl, hV, hu, s1, rf⟩ := hP
  have v31 := hV.2.2.2
  have hi : i < V.slots.size := (Array.getElem?_eq_some_iff.mp hu).1
  have c1 : Steps p.tables e below (s₁.setTop (entryFrame m #[.ref t, .int (Int32.ofNat i)] 2)) (s₁.setTop (mkF m 0 #[.val (.ref t), .val (.int (Int32.ofNat i))] [])) := entry rfl
  have c2 : Steps p.tables e below (s₁.setTop (entryFrame m #[.ref t, .int (Int32.ofNat i)] 2)) (s₁.setTop (mkF m 3 #[.val (.ref t), .val (.int (Int32.ofNat i))] [.int (Int32.ofNat V.slots.size), .int (Int32.ofNat i)])) := c1.trans (by
    refine XS.iloadN X0.here hexec rfl (hb hbytes d0) rfl ?_
    refine XS.aloadN X0.here hexec rfl (hb hbytes d1) rfl rfl ?_
    refine X0.alen hexec (hV.mv X0.warmed.alike hh0) rfl rfl (hb hbytes d2) ?_
    exact Steps.refl _)
  obtain ⟨v3, T3, X3, E3, g3⟩ := X0.callS hexec (JO.Str_checkIndex.law l (Int32.ofNat i) (Int32.ofNat V.slots.size) fm) hown (wks W (staticW "java/lang/StringLatin1" 9 JO.Str_checkIndex.yN)) (wk W JO.Str_checkIndex.tab) (W := 0) (Nat.le_of_ble_eq_true rfl) (Nat.le_of_ble_eq_true rfl) (Nat.le_refl _) (Nat.le_refl _) (g := (mkF m 3 #[.val (.ref t), .val (.int (Int32.ofNat i))] [.int (Int32.ofNat V.slots.size), .int (Int32.ofNat i)])) rfl (by rw [hml]; rfl) c2 (argsL := [.int (Int32.ofNat i), .int (Int32.ofNat V.slots.size)]) (rest := []) rfl rfl (by show 2 * 0 + 0 ≤ _; decide) (hb hbytes d3) (⟨rfl, rf, s1.there X0.warmed.alike hh0, Int32.ofNat_not_neg (by omega), lt32 v31 hi⟩)
  obtain ⟨rfl, q3⟩ := E3
  have hh3 := q3.trans hh0
  have c4 : Steps p.tables e below (s₁.setTop (entryFrame m #[.ref t, .int (Int32.ofNat i)] 2)) (T3.setTop (mkF m 14 #[.val (.ref t), .val (.int (Int32.ofNat i))] [.int (chr8 u)])) := Steps.trans g3 (by
    refine XS.aloadN X3.here hexec rfl (hb hbytes d6) rfl rfl ?_
    refine XS.iloadN X3.here hexec rfl (hb hbytes d7) rfl ?_
    refine X3.aget hexec (hV.mv X3.warmed.alike hh3) rfl hu rfl rfl (hb hbytes d8) ?_
    refine sipushV X3.here hexec rfl 255 (hb hbytes d9) (by decide) ?_
    refine XS.iand X3.here hexec rfl (hb hbytes d12) rfl ?_
    refine i2c X3.here hexec rfl (hb hbytes d13) rfl ?_
    exact Steps.refl _)
  exact ⟨T3, some (.int (chr8 u)), _, _, _, X3, rfl, rfl, rfl, (fun h => by cases h), ⟨rfl, hh3⟩, fun fs hl => c4.trans (X3.ireturnOut hexec hret (narrow_c _) (Or.inr (Or.inr (Or.inr (Or.inl rfl)))) (hb hbytes d14) hl)⟩
end LChA
end StrChars
namespace StrChars.Road
open Jvm Sem ClassFile Op Lib Jvm.Stand Jvm.Free Jvm.Free.XT
open Jvm.Lib.Cold (StaticIs)
theorem consq {a : Array Value} {s : State} {c : Jvm.Cond} {L : List Jvm.Cond} (h0 : c.before a s = true) (h : ∀ w ∈ L, w.before a s = true) : ∀ w ∈ c :: L, w.before a s = true := fun w hw => (List.mem_cons.mp hw).elim (fun e => e ▸ h0) (h w)
/-- the words of String.length(), either coding -/
abbrev wordsLen : List Jvm.Cond := [.code Len.yN Len.yB 1 (some .int), .initialized ST, .fieldLink ST 9 ST "value" "[B", .fieldLink ST 38 ST "COMPACT_STRINGS" "Z", .fieldLink ST 15 ST "coder" "B", .code Cdr.yN Cdr.yB 1 (some .byte), .methodLink ST 335 Cdr.yN, .declares Cdr.yN, .selects ST Cdr.yN Cdr.yN, .instanceMethod Cdr.yN]
theorem tabLen_of {a : Array Value} {s : State} (h : ∀ w ∈ wordsLen, w.before a s = true) : Len.tab.before a s = true := by
  have hc : Cdr.tab.before a s = true := unparts (wk h (.code Cdr.yN Cdr.yB 1 (some .byte))) (wks h (.initialized Cdr.yN.cls :: Cdr.site))
  have q := consq hc h
  exact unparts (wk q (.code Len.yN Len.yB 1 (some .int))) (wks q (.initialized Len.yN.cls :: Len.site))
theorem movedLen {Z s : State} {a0 args : Array Value} (hZ : Z.Warmed39 s.vm) (hw : ∀ d ∈ wordsLen, d.before a0 Z = true) : ∀ d ∈ wordsLen, d.before args s = true := fun d hd => by
  have q := hw d hd
  have t : ∀ d ∈ wordsLen, d = .arrayClass .byte ∨ (d.onTables && d.keepsFace) = true := by decide +kernel
  rcases t d hd with rfl | t
  · exact RoadKit.mvA hZ q
  · exact RoadKit.mv hZ q t
/-- the bytes of the chars cs, low before high -/
def wideBytes : List Int32 → List Value
  | [] => []
  | c :: cs => .int (lo8 c) :: .int (hi8 c) :: wideBytes cs
theorem wide_lo (d : Value) : ∀ (cs : List Int32) (j : Nat), j < cs.length → (wideBytes cs).getD (2 * j) d = .int (lo8 (cs.getD j 0))
  | [], j, h => absurd h (Nat.not_lt_zero j)
  | c :: cs, 0, _ => rfl
  | c :: cs, j + 1, h => by
    have q := wide_lo d cs j (by simpa using h)
    rw [show 2 * (j + 1) = 2 * j + 1 + 1 from by omega]
    simpa [wideBytes] using q
theorem wide_hi (d : Value) : ∀ (cs : List Int32) (j : Nat), j < cs.length → (wideBytes cs).getD (2 * j + 1) d = .int (hi8 (cs.getD j 0))
  | [], j, h => absurd h (Nat.not_lt_zero j)
  | c :: cs, 0, _ => rfl
  | c :: cs, j + 1, h => by
    have q := wide_hi d cs j (by simpa using h)
    rw [show 2 * (j + 1) + 1 = 2 * j + 1 + 1 + 1 from by omega]
    simpa [wideBytes] using q
theorem low_at (d : Value) (cs : List Int32) (j : Nat) (h : j < cs.length) : (cs.map fun c => Value.int (lo8 c)).getD j d = .int (lo8 (cs.getD j 0)) := by
  simp [List.getD_eq_getElem?_getD, h]
/-- an array of N2 bytes vs codes the chars cs by the coder cd -/
def CodA (cs : List Int32) (cd N2 : Int32) (vs : List Value) : Prop := (cd = 0 ∧ N2 = Int32.ofNat cs.length ∧ vs = (cs.map fun c => Value.int (lo8 c)) ∧ ∀ c ∈ cs, ¬ 255 < c) ∨ (cd = 1 ∧ N2 = Int32.ofNat (2 * cs.length) ∧ vs = wideBytes cs ∧ ∃ c ∈ cs, 255 < c)
theorem CodA.cod {cs : List Int32} {cd N2 : Int32} {vs : List Value} {V : Cell} (h : CodA cs cd N2 vs) (hn : 2 * cs.length < 2 ^ 31) (hs : V.slots.size = N2.toNatClampNeg) (hv : RoadKit.Has V vs (.int 0)) : Cod cd cs.length (fun j => cs.getD j 0) V := by
  rcases h with ⟨rfl, rfl, rfl, h⟩ | ⟨rfl, rfl, rfl, c, hc, hw⟩
  · rw [n32 (by omega)] at hs
    exact Or.inl ⟨rfl, hs, fun j hj => ⟨by rw [hv j (by omega), low_at _ _ _ hj], by
      have e : cs.getD j 0 = cs[j] := by simp [List.getD_eq_getElem?_getD, hj]
      show ¬ 255 < cs.getD j 0
      rw [e]; exact h _ (List.getElem_mem _)⟩⟩
  · rw [n32 (by omega)] at hs
    obtain ⟨j, hj, rfl⟩ := List.getElem_of_mem hc
    exact Or.inr ⟨rfl, hs, fun j hj => ⟨by rw [hv _ (by omega), wide_lo _ _ _ hj], by rw [hv _ (by omega), wide_hi _ _ _ hj]⟩, j, hj, by
      have e : cs.getD j 0 = cs[j] := by simp [List.getD_eq_getElem?_getD, hj]
      show 255 < cs.getD j 0
      rw [e]; exact hw⟩
/-- an object of exactly java/lang/String, its two fields found: as the laws ask it -/
theorem strObj {Z U : State} {a0 : Array Value} {kI : Nat} (wi : (Jvm.Cond.instantiable ST kI).before a0 Z = true) (al : Z.vm.Alike U.vm) {x : Addr} {v0 c0 : Value} (E : RoadKit.Exa Z U.heap x ST) (V : RoadKit.Fld Z U.heap x ST "value" "[B" v0) (C : RoadKit.Fld Z U.heap x ST "coder" "B" c0) :
    ∃ (D : Cell) (fV fC : Field), Blank ST x D U ∧ Found ST "value" "[B" fV U ∧ Found ST "coder" "B" fC U ∧ D.slots[fV.slot]? = some v0 ∧ D.slots[fC.slot]? = some c0 ∧ RoadKit.slotOf Z ST "value" "[B" = fV.slot ∧ RoadKit.slotOf Z ST "coder" "B" = fC.slot := by
  obtain ⟨D, cfV, kV, iV, fV, hD, gV, stV, knV, obV, asV, slV⟩ := V
  obtain ⟨D', cfC, kC, iC, fC, hD', gC, stC, -, -, asC, slC⟩ := C
  cases hD.symm.trans hD'
  obtain ⟨D2, kD, e1, e2, e3, e4, e5⟩ := E
  cases hD.symm.trans e1
  obtain ⟨c2, k2, i1, i2, i3, -⟩ := Cond.instantiable_spec wi
  cases e2.symm.trans i1
  cases e3.symm.trans i2
  obtain ⟨kU, u1, u2⟩ := al.2.2 _ _ e3
  exact ⟨D, fV, fC, ⟨hD, ⟨knV, fun q hq => by rw [hq] at obV; cases obV⟩, by rw [al.findClass]; exact e2, kU, u1, by rw [u2]; exact i3, by rw [u2]; exact e5 i3⟩, ⟨SBG.found_only al ⟨cfV, kV, iV, gV⟩, stV⟩, ⟨SBG.found_only al ⟨cfC, kC, iC, gC⟩, stC⟩, slV, slC, by simp [RoadKit.slotOf, gV], by simp [RoadKit.slotOf, gC]⟩
theorem sta_is {Z U : State} (al : Z.vm.Alike U.vm) {C n d : String} {v : Value} (S : RoadKit.Sta Z U.heap C n d v) : StaticIs U C n d v := by
  obtain ⟨cfS, iS, kS, fS, st, cS, t1, t2, t3, t4, t5, t6, t7⟩ := S
  exact StaticIs.there (s := { Z with heap := U.heap }) ⟨cfS, iS, kS, fS, st, cS, t1, t2, t3, t4, t5, (fun q => by rw [q] at t6; cases t6), t7⟩ al rfl
/-- **length() OF SUCH A STRING** -/
theorem lenW {p : Program} {l : Launch} {e : Env} {R : Room} {s : State} {args : Array Value} {below : List Frame} {len W : Nat} {Z : State} {a0 : Array Value} {h : Heap} (hZ : Z.Warmed39 s.vm) (hw : ∀ d ∈ wordsLen, d.before a0 Z = true) {kI : Nat} (wi : (Jvm.Cond.instantiable ST kI).before a0 Z = true)
    {x t : Addr} {kb : ClassId} {cs : List Int32} {cd N2 z : Int32} {vs : List Value} (E : RoadKit.Exa Z h x ST) (V : RoadKit.Fld Z h x ST "value" "[B" (.ref t)) (C : RoadKit.Fld Z h x ST "coder" "B" (.int cd)) (K : RoadKit.Arv Z h t kb .byte N2 vs (.int 0)) (hc : CodA cs cd N2 vs) (hb : ∀ c ∈ cs, ¬ c < 0 ∧ ¬ (65535 : Int32) < c)
    (S : RoadKit.Sta Z h ST "COMPACT_STRINGS" "Z" (.int z)) (hz : ¬ z = 0) (l2 : cs.length ≤ 4000) (hfr : 2 ≤ R.frames) (hlo : W + 25 ≤ R.locals) :
    Back l R p e below s args (⟨"java/lang/String", "length", "()I"⟩ : MethodName) len W (fun P a => a = #[.ref x] ∧ P.U.heap = h ∧ P.cells + 0 ≤ R.cells ∧ P.slots + 0 ≤ R.slots)
      (fun P _ v B => ∃ L, (v = some (.int (Int32.ofNat cs.length)) ∧ L = [] ∧ B.U.heap = h) ∧ B.locs = P.locs ++ L ∧ B.cells = P.cells + 0 ∧ B.slots = P.slots + 0) := by
  obtain ⟨A, K1, K2, K3, K4, K5, K6⟩ := K
  have hcod := hc.cod (by omega) K3 K5
  intro m meth c P g ig mk a X hg hsize hdg hW hn hp'
  obtain ⟨rfl, rfl, r1, r2⟩ := hp'
  have al : Z.vm.Alike P.U.vm := hZ.alike.trans X.warmed.alike
  obtain ⟨D, fV, fC, hB, F1, F2, g1, g2, -, -⟩ := strObj wi al E V C
  have hx : Txt x t A cd cs.length (fun j => cs.getD j 0) P.U := ⟨⟨_, hB.2.2.1, D, hB.1, rfl, by cases q : D.vm <;> first | rfl | exact absurd q (hB.2.1.2 _)⟩, Has.of hB F1 g1, Has.of hB F2 g2, ⟨K1.1, State.isArrayOf_alike al K1.2.1, K1.2.2, by rcases hcod with ⟨-, q, -⟩ | ⟨-, q, -⟩ <;> omega⟩, hcod, fun j hj => by
    have e : cs.getD j 0 = cs[j] := by simp [List.getD_eq_getElem?_getD, hj]
    show ¬ cs.getD j 0 < 0 ∧ ¬ 65535 < cs.getD j 0
    rw [e]; exact hb _ (List.getElem_mem _)⟩
  obtain ⟨v, B, X', ⟨⟨hv, hh⟩, hl, hk, hs⟩, st⟩ := Len.pays x t A cd cs.length (fun j => cs.getD j 0) z (tabLen_of (movedLen hZ hw)) hfr hlo m meth c P g ig mk _ X hg hsize hdg hW hn ⟨r1, r2, rfl, hx, sta_is al S, hz⟩
  exact ⟨v, B, X', ⟨[], ⟨hv, rfl, hh⟩, hl, hk, hs⟩, st⟩
end StrChars.Road
namespace StrChars.Road
open Jvm Sem ClassFile Op Lib Jvm.Stand Jvm.Free Jvm.Free.XT
open Jvm.Lib.Cold (StaticIs)
/-- the road's facts of a String, as the laws ask it -/
theorem txt_of {Z U : State} {a0 : Array Value} {kI : Nat} (wi : (Jvm.Cond.instantiable ST kI).before a0 Z = true) (al : Z.vm.Alike U.vm) {x t : Addr} {kb : ClassId} {cs : List Int32} {cd N2 : Int32} {vs : List Value} (E : RoadKit.Exa Z U.heap x ST) (V : RoadKit.Fld Z U.heap x ST "value" "[B" (.ref t)) (C : RoadKit.Fld Z U.heap x ST "coder" "B" (.int cd)) (K : RoadKit.Arv Z U.heap t kb .byte N2 vs (.int 0)) (hc : CodA cs cd N2 vs) (hb : ∀ c ∈ cs, ¬ c < 0 ∧ ¬ (65535 : Int32) < c) (l2 : cs.length ≤ 4000) :
    ∃ A, Txt x t A cd cs.length (fun j => cs.getD j 0) U := by
  obtain ⟨A, K1, K2, K3, K4, K5, K6⟩ := K
  have hcod := hc.cod (by omega) K3 K5
  obtain ⟨D, fV, fC, hB, F1, F2, g1, g2, -, -⟩ := strObj wi al E V C
  exact ⟨A, ⟨_, hB.2.2.1, D, hB.1, rfl, by cases q : D.vm <;> first | rfl | exact absurd q (hB.2.1.2 _)⟩, Has.of hB F1 g1, Has.of hB F2 g2, ⟨K1.1, State.isArrayOf_alike al K1.2.1, K1.2.2, by rcases hcod with ⟨-, q, -⟩ | ⟨-, q, -⟩ <;> omega⟩, hcod, fun j hj => by
    have e : cs.getD j 0 = cs[j] := by simp [List.getD_eq_getElem?_getD, hj]
    show ¬ cs.getD j 0 < 0 ∧ ¬ 65535 < cs.getD j 0
    rw [e]; exact hb _ (List.getElem_mem _)⟩
end StrChars.Road
namespace StrChars
open Jvm Sem ClassFile Op Lib Jvm.Stand Jvm.Free.XT Jvm.Free.ALB Jvm.Free.JM Jvm.Free
open Jvm.Lib.Cold (StaticIs)
namespace ChN
def yN : MethodName := ⟨"java/lang/String", "charAt", "(I)C"⟩
abbrev yB : ByteArray := jdk_42_method_56_code
theorem d0 : decode yB 0 = .ok (.aload_n 0, 1) := by decide +kernel
theorem d1 : decode yB 1 = .ok (.invokevirtual 492, 3) := by decide +kernel
theorem d4 : decode yB 4 = .ok (.ifCond (.eq) 12, 3) := by decide +kernel
theorem d7 : decode yB 7 = .ok (.aload_n 0, 1) := by decide +kernel
theorem d8 : decode yB 8 = .ok (.getfield 9, 3) := by decide +kernel
theorem d11 : decode yB 11 = .ok (.iload_n 1, 1) := by decide +kernel
theorem d12 : decode yB 12 = .ok (.invokestatic 495, 3) := by decide +kernel
theorem d15 : decode yB 15 = .ok (.ireturn, 1) := by decide +kernel
def site : List Cond := [.fieldLink "java/lang/String" 9 "java/lang/String" "value" "[B", IsL.tab, LChA.tab] ++ virtW "java/lang/String" 492 "java/lang/String" IsL.yN IsL.yN ++ staticW "java/lang/String" 495 LChA.yN
def tab : Cond := tabOf yN yB 2 (some .char) site
def P (x t : Addr) (V : Cell) (n : Nat) (f : Nat → Int32) (z : Int32) (fm : Value) (i : Nat) (args : Array Value) (s : State) : Prop := args = #[.ref x, .int (Int32.ofNat i)] ∧ Txt x t V 0 n f s ∧ i < n ∧ StaticIs s "java/lang/String" "COMPACT_STRINGS" "Z" (.int z) ∧ ¬ z = 0 ∧ StaticIs s "jdk/internal/util/Preconditions" "SIOOBE_FORMATTER" "Ljava/util/function/BiFunction;" fm ∧ fm.isRef = true
def E (f : Nat → Int32) (i : Nat) (r : Option Value) (s u : State) : Prop := XT.PureE (some (.int (f i))) r s u
/-- charAt(i) of a Latin-1 String of n chars, i < n: f i -/
theorem law (l : Launch) (x t : Addr) (V : Cell) (n : Nat) (f : Nat → Int32) (z : Int32) (fm : Value) (i : Nat) : Law l yN 2 1 3 40 yB 2 (some .char) site (P x t V n f z fm i) (E f i) [] 0 0 := by
  refine Law.of_walk (plainFor_of_name (by decide +kernel)) (by decide +kernel) (by decide +kernel) (by decide) (fun _ _ h => by rw [h.1]; rfl) (fun _ U U' hal hh h => ⟨h.1, h.2.1.mv hal hh, h.2.2.1, h.2.2.2.1.there hal hh, h.2.2.2.2.1, h.2.2.2.2.2.1.there hal hh, h.2.2.2.2.2.2⟩) (fun r U U' V V' h1 hal h2 h => XT.PureE.mv r U U' V V' h1 hal h2 h) ?_
  intro p e s m args below meth c s₁ X0 hexec hbytes hml hret hlk hnm hown hh0 W hP
  obtain ⟨rfl, hx, hi, s1, hz, s3, rf⟩ := hP
  have v31 := hx.2.2.2.1.2.2.2
  have hr := hx.2.2.2.2.2 i hi
  have hx0 := hx.mv X0.warmed.alike hh0
  have c1 : Steps p.tables e below (s₁.setTop (entryFrame m #[.ref x, .int (Int32.ofNat i)] 2)) (s₁.setTop (mkF m 1 #[.val (.ref x), .val (.int (Int32.ofNat i))] [.ref x])) := Steps.trans (entry rfl) (by
    show Steps p.tables e below (s₁.setTop (mkF m 0 #[.val (.ref x), .val (.int (Int32.ofNat i))] [])) _
    refine XS.aloadN X0.here hexec rfl (hb hbytes d0) rfl rfl ?_
    exact Steps.refl _)
  obtain ⟨v2, T2, X2, E2, g2⟩ := X0.callV hexec (IsL.law l x 0 z) hown (wks W (virtW "java/lang/String" 492 "java/lang/String" IsL.yN IsL.yN)) rfl (by decide) (wk W IsL.tab) (W := 0) (Nat.le_of_ble_eq_true rfl) (Nat.le_of_ble_eq_true rfl) (Nat.le_refl _) (Nat.le_refl _) (hx0.1.fc X0.warmed.alike) hx0.1.is (g := (mkF m 1 #[.val (.ref x), .val (.int (Int32.ofNat i))] [.ref x])) rfl (by rw [hml]; rfl) c1 (argsL := []) (rest := []) rfl rfl (by show 2 * 0 + 0 ≤ _; decide) (hb hbytes d1) (⟨rfl, hx0.2.2.1, hx.2.2.2.2.1.cd, s1.there X0.warmed.alike hh0, hz⟩)
  obtain ⟨rfl, q2⟩ := E2
  have hh2 := q2.trans hh0
  have hx2 := hx.mv X2.warmed.alike hh2
  obtain ⟨-, k1, k2⟩ | ⟨k0, -⟩ := hx.2.2.2.2.1
  · have c3 : Steps p.tables e below (s₁.setTop (entryFrame m #[.ref x, .int (Int32.ofNat i)] 2)) (T2.setTop (mkF m 8 #[.val (.ref x), .val (.int (Int32.ofNat i))] [.ref x])) := Steps.trans g2 (by
      refine XS.ifNo X2.here hexec rfl (hb hbytes d4) rfl (i0_eq_f (by decide)) ?_
      refine XS.aloadN X2.here hexec rfl (hb hbytes d7) rfl rfl ?_
      exact Steps.refl _)
    obtain ⟨T4, X4, q4, st4⟩ := X2.hget hexec hown (wk W (.fieldLink "java/lang/String" 9 "java/lang/String" "value" "[B")) hx2.2.1 (g := (mkF m 8 #[.val (.ref x), .val (.int (Int32.ofNat i))] [.ref x])) rfl (rest := []) rfl (hb hbytes d8)
    have hh4 := q4.trans hh2
    have c5 : Steps p.tables e below (s₁.setTop (entryFrame m #[.ref x, .int (Int32.ofNat i)] 2)) (T4.setTop (mkF m 12 #[.val (.ref x), .val (.int (Int32.ofNat i))] [.int (Int32.ofNat i), .ref t])) := (c3.trans (st4 _ (Steps.refl _))).trans (by
      refine XS.iloadN X4.here hexec rfl (hb hbytes d11) rfl ?_
      exact Steps.refl _)
    obtain ⟨v6, T6, X6, E6, g6⟩ := X4.callS hexec (LChA.law l t V i (lo8 (f i)) fm) hown (wks W (staticW "java/lang/String" 495 LChA.yN)) (wk W LChA.tab) (W := 0) (Nat.le_of_ble_eq_true rfl) (Nat.le_of_ble_eq_true rfl) (Nat.le_refl _) (Nat.le_refl _) (g := (mkF m 12 #[.val (.ref x), .val (.int (Int32.ofNat i))] [.int (Int32.ofNat i), .ref t])) rfl (by rw [hml]; rfl) c5 (argsL := [.ref t, .int (Int32.ofNat i)]) (rest := []) rfl rfl (by show 2 * 0 + 0 ≤ _; decide) (hb hbytes d12) (⟨rfl, hx.2.2.2.1.mv X4.warmed.alike hh4, (k2 i hi).1, s3.there X4.warmed.alike hh4, rf⟩)
    obtain ⟨rfl, q6⟩ := E6
    rw [chr8_lo8 hr.1 (k2 i hi).2] at g6
    exact ⟨T6, some (.int (f i)), _, _, _, X6, rfl, rfl, rfl, (fun h => by cases h), ⟨rfl, q6.trans hh4⟩, fun fs hl => Steps.trans g6 (X6.ireturnOut hexec hret (narrow_ch hr.1 hr.2) (Or.inr (Or.inr (Or.inr (Or.inl rfl)))) (hb hbytes d15) hl)⟩
  · exact absurd k0 (by decide)
theorem pays {l : Launch} {R : Room} {p : Program} {e : Env} {below : List Frame} {s : State} {sargs : Array Value} {len W : Nat} (x t : Addr) (V : Cell) (n : Nat) (f : Nat → Int32) (z : Int32) (fm : Value) (i : Nat) (htab : tab.before sargs s = true) (hfr : 4 ≤ R.frames) (hlo : W + 53 ≤ R.locals) :
    Back l R p e below s sargs yN len W (fun A₁ a₁ => A₁.cells + 0 ≤ R.cells ∧ A₁.slots + 0 ≤ R.slots ∧ P x t V n f z fm i a₁ A₁.U) (fun A₁ _ v₁ B₁ => E f i v₁ A₁.U B₁.U ∧ B₁.locs = A₁.locs ++ [] ∧ B₁.cells = A₁.cells + 0 ∧ B₁.slots = A₁.slots + 0) :=
  (law l x t V n f z fm i).pays htab hfr (by omega)
end ChN
end StrChars
namespace StrChars.Road
open Jvm Sem ClassFile Op Lib Jvm.Stand Jvm.Free Jvm.Free.XT
open Jvm.Lib.Cold (StaticIs)
/-- the words of String.charAt(int), the Latin-1 road alone -/
abbrev wordsChN : List Jvm.Cond := [.code ChN.yN ChN.yB 2 (some .char), .initialized ST, .fieldLink ST 9 ST "value" "[B", .fieldLink ST 38 ST "COMPACT_STRINGS" "Z", .fieldLink ST 15 ST "coder" "B", .code IsL.yN IsL.yB 1 (some .boolean), .methodLink ST 492 IsL.yN, .declares IsL.yN, .selects ST IsL.yN IsL.yN, .instanceMethod IsL.yN,
  .methodLink ST 495 LChA.yN, .static LChA.yN, .code LChA.yN LChA.yB 2 (some .char), .initialized "java/lang/StringLatin1", .methodLink "java/lang/StringLatin1" 9 JO.Str_checkIndex.yN, .static JO.Str_checkIndex.yN, .code JO.Str_checkIndex.yN JO.Str_checkIndex.yB 2 none,
  .fieldLink ST 1053 "jdk/internal/util/Preconditions" "SIOOBE_FORMATTER" "Ljava/util/function/BiFunction;", .methodLink ST 1059 JC.PreCheck.yN, .static JC.PreCheck.yN, .code JC.PreCheck.yN JC.PreCheck.yB 3 (some .int), .initialized "jdk/internal/util/Preconditions"]
theorem tabChN_of {a : Array Value} {s : State} (h : ∀ w ∈ wordsChN, w.before a s = true) : ChN.tab.before a s = true := by
  have hp : JC.PreCheck.tab.before a s = true := unparts (wk h (.code JC.PreCheck.yN JC.PreCheck.yB 3 (some .int))) (wks h (.initialized JC.PreCheck.yN.cls :: JC.PreCheck.site))
  have qk := consq hp h
  have hk : JO.Str_checkIndex.tab.before a s = true := unparts (wk qk (.code JO.Str_checkIndex.yN JO.Str_checkIndex.yB 2 none)) (wks qk (.initialized JO.Str_checkIndex.yN.cls :: JO.Str_checkIndex.site))
  have ql := consq hk h
  have hl : LChA.tab.before a s = true := unparts (wk ql (.code LChA.yN LChA.yB 2 (some .char))) (wks ql (.initialized LChA.yN.cls :: LChA.site))
  have hi : IsL.tab.before a s = true := unparts (wk h (.code IsL.yN IsL.yB 1 (some .boolean))) (wks h (.initialized IsL.yN.cls :: IsL.site))
  have q := consq hi (consq hl h)
  exact unparts (wk q (.code ChN.yN ChN.yB 2 (some .char))) (wks q (.initialized ChN.yN.cls :: ChN.site))
theorem movedChN {Z s : State} {a0 args : Array Value} (hZ : Z.Warmed39 s.vm) (hw : ∀ d ∈ wordsChN, d.before a0 Z = true) : ∀ d ∈ wordsChN, d.before args s = true := fun d hd => by
  have t : ∀ d ∈ wordsChN, (d.onTables && d.keepsFace) = true := by decide +kernel
  exact RoadKit.mv hZ (hw d hd) (t d hd)
/-- **charAt(i) OF A LATIN-1 STRING**, i < n: the char -/
theorem chN {p : Program} {l : Launch} {e : Env} {R : Room} {s : State} {args : Array Value} {below : List Frame} {len W : Nat} {Z : State} {a0 : Array Value} {h : Heap} (hZ : Z.Warmed39 s.vm) (hw : ∀ d ∈ wordsChN, d.before a0 Z = true) {kI : Nat} (wi : (Jvm.Cond.instantiable ST kI).before a0 Z = true)
    {x t : Addr} {kb : ClassId} {cs : List Int32} {N2 z : Int32} {vs : List Value} {fm : Value} {i : Nat} {j : Int32} (E : RoadKit.Exa Z h x ST) (V : RoadKit.Fld Z h x ST "value" "[B" (.ref t)) (C : RoadKit.Fld Z h x ST "coder" "B" (.int 0)) (K : RoadKit.Arv Z h t kb .byte N2 vs (.int 0)) (hc : CodA cs 0 N2 vs) (hb : ∀ c ∈ cs, ¬ c < 0 ∧ ¬ (65535 : Int32) < c)
    (S : RoadKit.Sta Z h ST "COMPACT_STRINGS" "Z" (.int z)) (hz : ¬ z = 0) (F : RoadKit.Sta Z h "jdk/internal/util/Preconditions" "SIOOBE_FORMATTER" "Ljava/util/function/BiFunction;" fm) (rf : fm.isRef = true) (l2 : cs.length ≤ 4000) (hi : i < cs.length) (hj : j = Int32.ofNat i) (hfr : 4 ≤ R.frames) (hlo : W + 53 ≤ R.locals) :
    Back l R p e below s args (⟨"java/lang/String", "charAt", "(I)C"⟩ : MethodName) len W (fun P a => a = #[.ref x, .int j] ∧ P.U.heap = h ∧ P.cells + 0 ≤ R.cells ∧ P.slots + 0 ≤ R.slots)
      (fun P _ v B => ∃ L, (v = some (.int (cs.getD i 0)) ∧ L = [] ∧ B.U.heap = h) ∧ B.locs = P.locs ++ L ∧ B.cells = P.cells + 0 ∧ B.slots = P.slots + 0) := by
  subst hj
  intro m meth c P g ig mk a X hg hsize hdg hW hn hp'
  obtain ⟨rfl, rfl, r1, r2⟩ := hp'
  have al : Z.vm.Alike P.U.vm := hZ.alike.trans X.warmed.alike
  obtain ⟨A, hx⟩ := txt_of wi al E V C K hc hb l2
  obtain ⟨v, B, X', ⟨⟨hv, hh⟩, hl, hk, hs⟩, st⟩ := ChN.pays x t A cs.length (fun j => cs.getD j 0) z fm i (tabChN_of (movedChN hZ hw)) hfr hlo m meth c P g ig mk _ X hg hsize hdg hW hn ⟨r1, r2, rfl, hx, hi, sta_is al S, hz, sta_is al F, rf⟩
  exact ⟨v, B, X', ⟨[], ⟨hv, rfl, hh⟩, hl, hk, hs⟩, st⟩
/-- what backV says of its String, as the contracts of this text ask it: cs's low bytes, coder 0 -/
theorem codOf {cs : List Int32} {n : Nat} (hn : cs.length = n) (hb : ∀ c ∈ cs, ¬ 255 < c) : CodA cs 0 (Int32.ofNat n) ((cs.map lo8).map Value.int) := Or.inl ⟨rfl, by rw [hn], by simp [List.map_map, Function.comp_def], hb⟩
end StrChars.Road
end Jvm.Pilot.@@N@@
namespace Jvm.Pilot.@@N@@
open Jvm Jvm.ClassFile Sem Op Lib Jvm.Free Jvm.Stand Jvm.LawKit Jvm.RoadKit Bundle Jvm.Pilot.@@N@@.Jvm.D
theorem own_rep (n : Nat) (dv : Value) : ∀ i, (List.replicate n dv).getD i dv = dv := fun i => by
  rw [List.getD_eq_getElem?_getD, List.getElem?_replicate]; split <;> rfl
theorem own_cat {v : Value} (h : v.isRef = true) : v.category = 1 := by rcases ref_cases h with rfl | ⟨_, rfl⟩ <;> rfl
theorem own_narR {t : FieldType} {v : Value} (ht : t.isReference = true) (h : v.isRef = true) : narrow t v = v := by
  rcases ref_cases h with rfl | ⟨_, rfl⟩ <;> cases t <;> first | rfl | cases ht
theorem own_and255 (x : Int32) : ¬ (x &&& 255) < 0 ∧ ¬ (255 : Int32) < (x &&& 255) := by
  have t : ∀ k : Fin 256, ¬ (Int32.ofNat k.val) < 0 ∧ ¬ (255 : Int32) < (Int32.ofNat k.val) := by decide +kernel
  have h : (x &&& 255).toBitVec.toNat < 256 := by
    simp only [Int32.toBitVec_and, BitVec.toNat_and]
    exact Nat.lt_succ_of_le Nat.and_le_right
  have e : (x &&& 255) = Int32.ofNat (x &&& 255).toBitVec.toNat := by
    apply Int32.toBitVec_inj.mp
    show _ = BitVec.ofNat 32 _
    rw [BitVec.ofNat_toNat]; simp
  rw [e]
  exact t ⟨_, h⟩
theorem own_nc (x : Int32) : (Value.int (nar .char (x &&& 255))) = .int (x &&& 255) := congrArg Value.int (i2c_mask x)
theorem own_fc (x : Int32) : fits .char (.int (x &&& 255)) = true := own_nc x ▸ fits_nar_char (x &&& 255)
theorem own_up (cs : List Int32) (h : ∀ c ∈ cs, ¬ c < 0 ∧ ¬ (255 : Int32) < c) : ∀ c ∈ cs, ¬ c < 0 ∧ ¬ (65535 : Int32) < c := fun c hc => ⟨(h c hc).1, fun q => (h c hc).2 (by rw [Int32.lt_iff_toInt_lt] at q ⊢; have e1 : (65535 : Int32).toInt = 65535 := rfl; have e2 : (255 : Int32).toInt = 255 := rfl; omega)⟩
theorem own_all0 {P : Int32 → Prop} : ∀ c ∈ ([] : List Int32), P c := fun _ q => nomatch q
theorem own_allS {P : Int32 → Prop} {y : Int32} {L : List Int32} (q : P y) (r : ∀ x ∈ L, P x) : ∀ x ∈ y :: L, P x := fun x z => (List.mem_cons.mp z).elim (fun u => u ▸ q) (r x)
theorem own_n0 {Z : State} {n0 : Nat} {h : Heap} (O : Old Z n0 h) : n0 ≤ h.size := Nat.le_trans (Nat.le_of_eq O.1.symm) O.2.1
theorem own_mvMN {Z s : State} {a0 args : Array Value} {own host : String} {idx : Nat} {y : MethodName} (hZ : Z.Warmed39 s.vm) (w : (Jvm.Cond.methodLinkNest own idx y host).before a0 Z = true) : (Jvm.Cond.methodLinkNest own idx y host).before args s = true := (Cond.methodLinkNest_wide hZ w :)
theorem own_i2cE {x : Int32} (h : ¬ x < 0) (h2 : ¬ (65535 : Int32) < x) : x.toUInt32.toUInt16.toUInt32.toInt32 = x := by
  have e1 : (65535 : Int32).toInt = 65535 := rfl
  simp only [Int32.lt_iff_toInt_lt, Int32.toInt_zero, e1] at h h2
  have hn : x.toBitVec.toNat < 65536 := by
    have q : x.toBitVec.toInt = x.toInt := rfl
    rw [BitVec.toInt_eq_toNat_cond] at q
    have := x.toBitVec.isLt
    split at q <;> omega
  apply Int32.toBitVec_inj.mp
  apply BitVec.eq_of_toNat_eq
  show ((x.toBitVec.setWidth 16).setWidth 32).toNat = _
  rw [BitVec.toNat_setWidth, BitVec.toNat_setWidth]
  omega
theorem own_ncW {x : Int32} (h : ¬ x < 0) (h2 : ¬ (65535 : Int32) < x) : (Value.int (nar .char x)) = .int x := congrArg Value.int (own_i2cE h h2)
theorem own_fcW {x : Int32} (h : ¬ x < 0) (h2 : ¬ (65535 : Int32) < x) : fits .char (.int x) = true := own_ncW h h2 ▸ fits_nar_char x
theorem own_up1 {x : Int32} (h : ¬ x < 0 ∧ ¬ (255 : Int32) < x) : ¬ x < 0 ∧ ¬ (65535 : Int32) < x := own_up [x] (own_allS h own_all0) x (by simp)
theorem own_ncB {x : Int32} (h : ¬ x < 0 ∧ ¬ (255 : Int32) < x) : (Value.int (nar .char x)) = .int x := own_ncW (own_up1 h).1 (own_up1 h).2
theorem own_fcB {x : Int32} (h : ¬ x < 0 ∧ ¬ (255 : Int32) < x) : fits .char (.int x) = true := own_fcW (own_up1 h).1 (own_up1 h).2
theorem own_narC {x : Int32} (h : ¬ x < 0 ∧ ¬ (65535 : Int32) < x) : narrow .char (.int x) = .int x := congrArg Value.int (own_i2cE h.1 h.2)
def own_Mine (Z : State) (EL : List (String × Nat)) (n0 : Nat) (vm : Vm) (h : Heap) (ms : List Addr) : Prop := ∀ x ∈ ms, n0 ≤ x ∧ x < h.size ∧ Safe Z EL vm h x
def own_Go (Z : State) (EL : List (String × Nat)) (n0 : Nat) (p : Program) (e : Env) (below : List Frame) (s : State) (k n : Nat) (Q : Option Value → Heap → List Addr → Prop) (cur : State) : Prop :=
  ∃ s₂ o, Steps p.tables e below cur s₂ ∧ s₂.status = .running ∧ Ended s₂ below o ∧ ∃ v L ms, o = .returned v ∧ Q v s₂.heap ms ∧ Fr n0 L ∧ Old Z n0 s₂.heap ∧ own_Mine Z EL n0 s₂.vm s₂.heap ms ∧ CHr Z EL s.vm s.heap s₂.vm s₂.heap ∧ ReturnedEndW s o s₂ L k n
def own_Ct (l : Launch) (Z : State) (EL : List (String × Nat)) (n0 : Nat) (y : MethodName) (bytes : ByteArray) (maxL : Nat) (ret : Option FieldType) (ws : List Jvm.Cond) (rm : Room) (as' : Array Value) (h0 : Heap) (ms0 : List Addr) (Q : Option Value → Heap → List Addr → Prop) : Prop :=
  MetFree l y (head1 (Jvm.Cond.code y bytes maxL ret :: ws) rm) (fun a U => a = as' ∧ Z.Warmed39 U.vm ∧ U.heap = h0 ∧ CHv Z EL U.vm h0 ∧ own_Mine Z EL n0 U.vm h0 ms0) (fun _ _ _ _ _ => True)
    (fun _ U o U' => ∃ v L ms, o = .returned v ∧ Q v U'.heap ms ∧ Fr n0 L ∧ Old Z n0 U'.heap ∧ own_Mine Z EL n0 U'.vm U'.heap ms ∧ CHr Z EL U.vm U.heap U'.vm U'.heap ∧ ReturnedEndW U o U' L rm.cells rm.slots)
def own_Wk (Z : State) (EL : List (String × Nat)) (n0 : Nat) (own : String) (bytes : ByteArray) (maxL : Nat) (ret : Option FieldType) (nm : String) (p : Program) (l : Launch) (e : Env) (R : Room) (s : State) (m : MethodId) (args : Array Value) (below : List Frame) (meth : Method) (c : Code)
    (T : State) (ms : List Addr) (k n : Nat) (h : Heap) : Prop :=
  p.tables.exec = Jvm.exec ∧ c.code = bytes ∧ c.maxLocals = maxL ∧ meth.sig.returnType = ret ∧ meth.locks = false ∧ meth.name = nm ∧
  ∃ (locs : List Loc) (vm0 : Vm) (k0 : Nat) (a1 : Array Value), Stand p l e R (s.setVm vm0) m args below meth c T locs k n ∧ T.heap = h ∧ Z.Warmed39 vm0 ∧ vm0.findClass own = some m.cls ∧ Fr n0 locs ∧ Old Z n0 h ∧ own_Mine Z EL n0 vm0 h ms ∧ s.Since vm0 k0 ∧ k0 ≤ h.size ∧ CHr Z EL s.vm s.heap vm0 h ∧ EW Z a1 EL
section OwnKit
variable {Z : State} {EL : List (String × Nat)} {n0 : Nat} {own : String} {bytes : ByteArray} {maxL : Nat} {ret : Option FieldType} {nm : String} {p : Program} {l : Launch} {e : Env} {R : Room} {s : State} {m : MethodId} {args : Array Value} {below : List Frame} {meth : Method} {c : Code}
  {T : State} {ms : List Addr} {k n : Nat} {h : Heap} {a0 : Array Value} {K N : Nat} {Q : Option Value → Heap → List Addr → Prop} {pc pc' : Nat} {Ls Ls' : Array Slot} {st : List Value} {a : Addr}
theorem own_go {cur nxt : State} (q : ∀ t, Steps p.tables e below nxt t → Steps p.tables e below cur t) (g : own_Go Z EL n0 p e below s K N Q nxt) : own_Go Z EL n0 p e below s K N Q cur := by
  obtain ⟨s₂, o, h, r⟩ := g; exact ⟨s₂, o, q _ h, r⟩
theorem own_here (w : own_Wk Z EL n0 own bytes maxL ret nm p l e R s m args below meth c T ms k n h) : At T m c below := by
  obtain ⟨-, -, -, -, -, -, locs, vm0, k0, a1, X, -⟩ := w; exact X.here
theorem own_dec (w : own_Wk Z EL n0 own bytes maxL ret nm p l e R s m args below meth c T ms k n h) {r : Except DecodeError (Instr × Nat)} (hd : decode bytes pc = r) : decode c.code pc = r := w.2.1 ▸ hd
theorem own_old (w : own_Wk Z EL n0 own bytes maxL ret nm p l e R s m args below meth c T ms k n h) : Old Z n0 h := by
  obtain ⟨-, -, -, -, -, -, locs, vm0, k0, a1, -, -, -, -, -, O, -⟩ := w; exact O
theorem own_mine (w : own_Wk Z EL n0 own bytes maxL ret nm p l e R s m args below meth c T ms k n h) : ∀ x ∈ ms, n0 ≤ x ∧ x < h.size := by
  obtain ⟨-, -, -, -, -, -, locs, vm0, k0, a1, -, -, -, -, -, -, M, -⟩ := w; exact fun x hx => ⟨(M x hx).1, (M x hx).2.1⟩
theorem own_more (w : own_Wk Z EL n0 own bytes maxL ret nm p l e R s m args below meth c T ms k n h) {k' n' : Nat} {ms' : List Addr} (hk : k ≤ k') (hn : n ≤ n') (hm : ∀ x ∈ ms', x ∈ ms) : own_Wk Z EL n0 own bytes maxL ret nm p l e R s m args below meth c T ms' k' n' h := by
  obtain ⟨h1, h2, h3, h4, h5, h6, locs, vm0, k0, a1, X, h7, h8, h9, h10, h11, M, r⟩ := w
  exact ⟨h1, h2, h3, h4, h5, h6, locs, vm0, k0, a1, X.more hk hn, h7, h8, h9, h10, h11, fun x hx => M x (hm x hx), r⟩
theorem own_enter {y : MethodName} {ws : List Jvm.Cond} {rm : Room} {as' : Array Value} {h0 : Heap} {ms0 : List Addr} (hp : plainFor y = true) (hE : EW Z a0 EL) (O : Old Z n0 h0)
    (body : ∀ p e s m below meth c T, own_Wk Z EL n0 y.cls bytes maxL ret y.name p l e rm s m as' below meth c T ms0 0 0 h0 → own_Go Z EL n0 p e below s rm.cells rm.slots Q (T.setTop (entryFrame m as' maxL))) :
    own_Ct l Z EL n0 y bytes maxL ret ws rm as' h0 ms0 Q := by
  refine MetFree.of_bodySF hp hisR ?_
  intro p e s m args below meth c s₁ Bd hml hP _
  obtain ⟨rfl, hZ, hh, hC, hM⟩ := hP
  have e0 : s₁.heap = h0 := by rw [← hh, Bd.state]; rfl
  subst hh
  exact body p e s m below meth c s₁ ⟨Bd.exec, Bd.bytes, hml, Bd.returns, Bd.notSynchronized, (name_of_methodNamed Bd.named Bd.method).1, [], s.vm, 0, a0, Stand.of_body Bd, e0, hZ, findClass_of_methodNamed Bd.named, Fr.nil n0, O, hM, (State.WarmedH.refl s).since 0, Nat.zero_le _, CHr.refl hC, hE⟩
theorem own_core (w : own_Wk Z EL n0 own bytes maxL ret nm p l e R s m args below meth c T ms k n h) {k' n' : Nat} {ws : List Addr} {F : JFrame} {P : Heap → List Addr → JFrame → Prop} (hws : ∀ x ∈ ws, x ∈ ms)
    (f : ∀ (s' : State) (locs : List Loc), Stand p l e R s' m args below meth c T locs k n → T.heap = h → Z.Warmed39 s'.vm → s'.vm.findClass own = some m.cls →
      ∃ (T' : State) (h' : Heap) (L : List Loc) (new : List Addr) (F' : JFrame), Stand p l e R s' m args below meth c T' (locs ++ L) k' n' ∧ T'.heap = h' ∧ Keep h h' ws ∧ Fr n0 L ∧ (∀ x ∈ new, h.size ≤ x ∧ x < h'.size) ∧ P h' new F' ∧ ∀ t, Steps p.tables e below (T'.setTop F') t → Steps p.tables e below (T.setTop F) t)
    (g : ∀ (T' : State) (h' : Heap) (new : List Addr) (F' : JFrame), own_Wk Z EL n0 own bytes maxL ret nm p l e R s m args below meth c T' (new ++ ms) k' n' h' → Keep h h' ws → P h' new F' → own_Go Z EL n0 p e below s K N Q (T'.setTop F')) : own_Go Z EL n0 p e below s K N Q (T.setTop F) := by
  obtain ⟨h1, h2, h3, h4, h5, h6, locs, vm0, k0, a1, X, eT, hZ, hown, Nf, O, M, hS, hk0, hC, hEW⟩ := w
  obtain ⟨T', h', L, new, F', X', e', Kp, NL, hnew, hP, st'⟩ := f (s.setVm vm0) locs X eT hZ hown
  have hsf : ∀ x ∈ ws, Safe Z EL vm0 h x := fun x hx => (M x (hws x hx)).2.2
  refine own_go st' (g T' h' new F' ⟨h1, h2, h3, h4, h5, h6, locs ++ L, vm0, k0, a1, X', e', hZ, hown, Nf.app NL, O.keep Kp (fun x hx => (M x (hws x hx)).1), fun x hx => ?_, hS, Nat.le_trans hk0 Kp.1, hC.trans (CHr.keep Kp hsf hC.1), hEW⟩ Kp hP)
  rcases List.mem_append.mp hx with q | q
  · refine ⟨Nat.le_trans (Nat.le_trans (Nat.le_of_eq O.1.symm) O.2.1) (hnew x q).1, (hnew x q).2, fun B => ?_⟩
    obtain ⟨cell, z⟩ := ((hC.1.keepStep Kp hsf).2 x B).there
    exact absurd (Array.getElem?_eq_some_iff.mp z).1 (Nat.not_lt.mpr (hnew x q).1)
  · exact ⟨(M x q).1, Nat.lt_of_lt_of_le (M x q).2.1 Kp.1, (M x q).2.2.keep Kp hsf hC.1⟩
theorem own_coreL (w : own_Wk Z EL n0 own bytes maxL ret nm p l e R s m args below meth c T ms k n h) {k' n' : Nat} {ws : List Addr} {F : JFrame} {P : Heap → List Addr → JFrame → Prop} (hws : ∀ x ∈ ws, x ∈ ms)
    (f : ∀ (s' : State) (locs : List Loc), Stand p l e R s' m args below meth c T locs k n → T.heap = h → Z.Warmed39 s'.vm → s'.vm.findClass own = some m.cls → Fr n0 locs →
      ∃ (T' : State) (h' : Heap) (L : List Loc) (new : List Addr) (F' : JFrame), Stand p l e R s' m args below meth c T' L k' n' ∧ T'.heap = h' ∧ Keep h h' ws ∧ Fr n0 L ∧ (∀ x ∈ new, h.size ≤ x ∧ x < h'.size) ∧ P h' new F' ∧ ∀ t, Steps p.tables e below (T'.setTop F') t → Steps p.tables e below (T.setTop F) t)
    (g : ∀ (T' : State) (h' : Heap) (new : List Addr) (F' : JFrame), own_Wk Z EL n0 own bytes maxL ret nm p l e R s m args below meth c T' (new ++ ms) k' n' h' → Keep h h' ws → P h' new F' → own_Go Z EL n0 p e below s K N Q (T'.setTop F')) : own_Go Z EL n0 p e below s K N Q (T.setTop F) := by
  obtain ⟨h1, h2, h3, h4, h5, h6, locs, vm0, k0, a1, X, eT, hZ, hown, Nf, O, M, hS, hk0, hC, hEW⟩ := w
  obtain ⟨T', h', L, new, F', X', e', Kp, NL, hnew, hP, st'⟩ := f (s.setVm vm0) locs X eT hZ hown Nf
  have hsf : ∀ x ∈ ws, Safe Z EL vm0 h x := fun x hx => (M x (hws x hx)).2.2
  refine own_go st' (g T' h' new F' ⟨h1, h2, h3, h4, h5, h6, L, vm0, k0, a1, X', e', hZ, hown, NL, O.keep Kp (fun x hx => (M x (hws x hx)).1), fun x hx => ?_, hS, Nat.le_trans hk0 Kp.1, hC.trans (CHr.keep Kp hsf hC.1), hEW⟩ Kp hP)
  rcases List.mem_append.mp hx with q | q
  · refine ⟨Nat.le_trans (Nat.le_trans (Nat.le_of_eq O.1.symm) O.2.1) (hnew x q).1, (hnew x q).2, fun B => ?_⟩
    obtain ⟨cell, z⟩ := ((hC.1.keepStep Kp hsf).2 x B).there
    exact absurd (Array.getElem?_eq_some_iff.mp z).1 (Nat.not_lt.mpr (hnew x q).1)
  · exact ⟨(M x q).1, Nat.lt_of_lt_of_le (M x q).2.1 Kp.1, (M x q).2.2.keep Kp hsf hC.1⟩
theorem own_pure (w : own_Wk Z EL n0 own bytes maxL ret nm p l e R s m args below meth c T ms k n h) {F F' : JFrame} (f : ∀ (s' : State) (locs : List Loc), Stand p l e R s' m args below meth c T locs k n → T.heap = h → Z.Warmed39 s'.vm → s'.vm.findClass own = some m.cls → ∀ t, Steps p.tables e below (T.setTop F') t → Steps p.tables e below (T.setTop F) t) (g : own_Go Z EL n0 p e below s K N Q (T.setTop F')) : own_Go Z EL n0 p e below s K N Q (T.setTop F) := by
  obtain ⟨h1, h2, h3, h4, h5, h6, locs, vm0, k0, a1, X, eT, hZ, hown, -⟩ := w
  exact own_go (f (s.setVm vm0) locs X eT hZ hown) g
theorem own_retV (w : own_Wk Z EL n0 own bytes maxL ret nm p l e R s m args below meth c T ms k n h) {t : FieldType} {i : Instr} {v : Value} (hret : ret = some t) (hv : narrow t v = v)
    (hi : (i = .ireturn ∧ (t = .int ∨ t = .boolean ∨ t = .byte ∨ t = .char ∨ t = .short) ∧ ∃ z, v = .int z) ∨ (i = .lreturn ∧ t = .long ∧ ∃ z, v = .long z) ∨ (i = .dreturn ∧ t = .double ∧ ∃ z, v = .double z) ∨ (i = .freturn ∧ t = .float ∧ ∃ z, v = .float z) ∨ (i = .areturn ∧ t.isReference = true ∧ v.isRef = true))
    (hd : decode bytes pc = .ok (i, 1)) (hk : k ≤ K) (hn : n ≤ N) {ms' : List Addr} (hm : ∀ x ∈ ms', x ∈ ms) (hQ : Q (some v) h ms') : own_Go Z EL n0 p e below s K N Q (T.setTop (mkF m pc Ls (v :: st))) := by
  obtain ⟨h1, h2, h3, h4, h5, h6, locs, vm0, k0, a1, X, eT, hZ, hown, Nf, O, M, hS, hk0, hC, hEW⟩ := w
  subst eT
  obtain ⟨fs, hr, hrun, hended, hEnd⟩ := X.leaveW hS hk0 (v := some v) (fun q => by rw [h4, hret] at q; cases q) h5
  have A := CHv.at X hZ hEW hC.1
  exact ⟨_, _, retOut X h1 (h4.trans hret) hv hi (h2 ▸ hd) hr, hrun, hended, _, locs, ms', rfl, hQ, Nf, O, fun x hx => ⟨(M x (hm x hx)).1, (M x (hm x hx)).2.1, A.safe (M x (hm x hx)).2.1 (M x (hm x hx)).2.2⟩, hC.trans A, ⟨_, rfl⟩, hEnd.2.1, hEnd.2.2.1, hEnd.2.2.2.mono hk hn⟩
theorem own_ret0 (w : own_Wk Z EL n0 own bytes maxL ret nm p l e R s m args below meth c T ms k n h) (hret : ret = none) (hd : decode bytes pc = .ok (.return_, 1)) (hk : k ≤ K) (hn : n ≤ N) {ms' : List Addr} (hm : ∀ x ∈ ms', x ∈ ms) (hQ : Q none h ms') : own_Go Z EL n0 p e below s K N Q (T.setTop (mkF m pc Ls [])) := by
  obtain ⟨h1, h2, h3, h4, h5, h6, locs, vm0, k0, a1, X, eT, hZ, hown, Nf, O, M, hS, hk0, hC, hEW⟩ := w
  subst eT
  obtain ⟨fs, hr, hrun, hended, hEnd⟩ := X.leaveW hS hk0 (v := none) (fun _ => rfl) h5
  have A := CHv.at X hZ hEW hC.1
  exact ⟨_, _, X.returnOut h1 (h4.trans hret) (h2 ▸ hd) hr, hrun, hended, _, locs, ms', rfl, hQ, Nf, O, fun x hx => ⟨(M x (hm x hx)).1, (M x (hm x hx)).2.1, A.safe (M x (hm x hx)).2.1 (M x (hm x hx)).2.2⟩, hC.trans A, ⟨_, rfl⟩, hEnd.2.1, hEnd.2.2.1, hEnd.2.2.2.mono hk hn⟩
theorem own_back {y : MethodName} {bytes' : ByteArray} {maxL' : Nat} {ret' : Option FieldType} {rm' : Room} {as' : Array Value} {ms0 : List Addr} {Q' : Option Value → Heap → List Addr → Prop} {len W : Nat} {vm0 : Vm} {a1 : Array Value}
    (ct : own_Ct l Z EL n0 y bytes' maxL' ret' [] rm' as' h ms0 Q') (hZ : Z.Warmed39 vm0) (wc : (Jvm.Cond.code y bytes' maxL' ret').before a0 Z = true) (wz : (Jvm.Cond.initialized y.cls).before a0 Z = true) (hM : own_Mine Z EL n0 vm0 h ms0) (hf : rm'.frames + 1 ≤ R.frames) (hl : W + (maxL' + 11) + rm'.locals ≤ R.locals) (hEL : EW Z a1 EL) (H : CHv Z EL vm0 h) :
    BackS l R p e below (s.setVm vm0) args y len W (fun A a => a = as' ∧ A.U.heap = h ∧ A.cells + rm'.cells ≤ R.cells ∧ A.slots + rm'.slots ≤ R.slots)
      (fun A _ v B => ∃ L ms', Q' v B.U.heap ms' ∧ Fr n0 L ∧ Old Z n0 B.U.heap ∧ own_Mine Z EL n0 B.U.vm B.U.heap ms' ∧ CHr Z EL vm0 h B.U.vm B.U.heap ∧ B.locs = A.locs ++ L ∧ B.cells = A.cells + rm'.cells ∧ B.slots = A.slots + rm'.slots) :=
  BackS.of_freeW (bytes := bytes') (maxL := maxL') (ret := ret') (E := fun _ first o t L k n => k = rm'.cells ∧ n = rm'.slots ∧ (∃ v ms', o = .returned v ∧ Q' v t.heap ms' ∧ Fr n0 L ∧ Old Z n0 t.heap ∧ own_Mine Z EL n0 t.vm t.heap ms') ∧ CHr Z EL first.vm first.heap t.vm t.heap) ct hf hl
    (fun m meth c A a Y hp => have hU : Z.Warmed39 A.U.vm := wtrans (s := s.setVm vm0) hZ Y.warmed
      ⟨by show (Jvm.Cond.and _ .tt).before a A.U = true; rw [Cond.before_and, mv hU wc]; rfl, mv hU wc, mv hU wz, hp.2.2.1, hp.2.2.2⟩)
    (fun m meth c A a g mk Y hp => ⟨hp.1, wtrans (s := s.setVm vm0) hZ Y.warmed, hp.2.1, (CHv.at Y hZ hEL H).1, fun x hx => ⟨(hM x hx).1, (hM x hx).2.1, (CHv.at Y hZ hEL H).safe (hM x hx).2.1 (hM x hx).2.2⟩⟩) (fun _ _ _ _ _ _ _ _ _ => trivial)
    (fun _ _ _ _ ⟨v, L, ms', h1, h2, h3, h4, h5, h6, h7⟩ => ⟨L, _, _, h7, rfl, rfl, ⟨v, ms', h1, h2, h3, h4, h5⟩, h6⟩)
    (fun m meth c A a g mk v t L k n Y hp _ _ ⟨e1, e2, ⟨v', ms', e3, e4, e5, e6, e7⟩, e8⟩ => by
      cases e3; subst e1 e2
      refine ⟨L, ms', e4, e5, e6, e7, (CHv.at Y hZ hEL H).trans ?_, rfl, rfl, rfl⟩
      rw [← hp.2.1]; exact e8)
theorem own_callS (w : own_Wk Z EL n0 own bytes maxL ret nm p l e R s m args below meth c T ms k n h) {idx : Nat} {y : MethodName} {bytes' : ByteArray} {maxL' : Nat} {ret' : Option FieldType} {rm' : Room} {argsL rest : List Value} {ms0 : List Addr} {Q' : Option Value → Heap → List Addr → Prop} {ps : List FieldType} {rt : Option FieldType}
    (wl : (Jvm.Cond.methodLink own idx y).before a0 Z = true) (wt : (Jvm.Cond.static y).before a0 Z = true) (wz : (Jvm.Cond.initialized y.cls).before a0 Z = true) (wc : (Jvm.Cond.code y bytes' maxL' ret').before a0 Z = true) (hy : y.cls ≠ "java/lang/invoke/MethodHandle" ∧ y.cls ≠ "java/lang/invoke/VarHandle")
    (ct : own_Ct l Z EL n0 y bytes' maxL' ret' [] rm' argsL.toArray h ms0 Q') (hms : ∀ x ∈ ms0, x ∈ ms) (hst : st = argsL.reverse ++ rest) (hsz : Ls.size = maxL) (hpd : parseMethodDescriptor y.desc = some ⟨ps, rt⟩) (hln : argsL.length = ps.length) (hd : decode bytes pc = .ok (.invokestatic idx, 3)) (hp : pc + 3 = pc')
    (hf : rm'.frames + 1 ≤ R.frames) {W : Nat} (hW : (rest.map fun v => v.category).sum = W) (hl : W + (maxL' + 11) + rm'.locals ≤ R.locals) (hc : k + rm'.cells ≤ R.cells) (hn : n + rm'.slots ≤ R.slots)
    (g : ∀ (T' : State) (h' : Heap) (v : Option Value) (ms' : List Addr), own_Wk Z EL n0 own bytes maxL ret nm p l e R s m args below meth c T' (ms' ++ ms) (k + rm'.cells) (n + rm'.slots) h' → Q' v h' ms' → own_Go Z EL n0 p e below s K N Q (T'.setTop (mkF m pc' Ls (v.toList ++ rest)))) :
    own_Go Z EL n0 p e below s K N Q (T.setTop (mkF m pc Ls st)) := by
  subst hp hst
  obtain ⟨h1, h2, h3, h4, h5, h6, locs, vm0, k0, a1, X, eT, hZ, hown, Nf, O, M, hS, hk0, hC, hEW⟩ := w
  have hZ0 : Z.Warmed39 (s.setVm vm0).vm := hZ
  obtain ⟨v, _, ⟨T', L', k', n'⟩, -, X', hS2, hgr, ⟨L, ms', hQ, NL, O', M', C', l1, l2, l3⟩, st'⟩ := callSS X h1 (y := y) hown (mvT hZ0 wl) (mvT hZ0 wt) (mvT hZ0 wz) (mvT hZ0 wc) hy (own_back (s := s) (W := W) ct hZ wc wz (fun x hx => M x (hms x hx)) hf hl hEW hC.1) (g := mkF m pc Ls (argsL.reverse ++ rest)) rfl (by rw [h3]; exact hsz) (argsL := argsL) (rest := rest) (lenOf hpd hln) rfl (by show 2 * 0 + _ ≤ _; rw [hW]; omega) (h2 ▸ hd) (fun _ _ => ⟨rfl, eT, hc, hn⟩)
  dsimp only [Pt.U, Pt.locs, Pt.cells, Pt.slots] at X' hS2 hgr hQ O' M' C' l1 l2 l3 st'
  subst l1 l2 l3
  refine own_go (fun _ q => st'.trans q) (g T' _ v ms' ⟨h1, h2, h3, h4, h5, h6, locs ++ L, T'.vm, T'.heap.size, a1, X', rfl, State.Warmed39.trans (t := s.setVm vm0) hZ hS2.1, by rw [hS2.1.alike.findClass]; exact hown, Nf.app NL, O', fun x hx => ?_, hS.trans hS2 (Nat.le_trans hk0 (by rw [← eT]; exact hgr)), Nat.le_refl _, hC.trans C', hEW⟩ hQ)
  rcases List.mem_append.mp hx with q | q
  · exact M' x q
  · exact ⟨(M x q).1, Nat.lt_of_lt_of_le (M x q).2.1 C'.2.1, C'.safe (M x q).2.1 (M x q).2.2⟩
theorem own_callI (w : own_Wk Z EL n0 own bytes maxL ret nm p l e R s m args below meth c T ms k n h) {idx : Nat} {y : MethodName} {bytes' : ByteArray} {maxL' : Nat} {rm' : Room} {argsL rest : List Value} {ms0 : List Addr} {Q' : Option Value → Heap → List Addr → Prop} {ps : List FieldType} {rt : Option FieldType}
    (hy1 : y.name = "<init>") (wl : (Jvm.Cond.methodLink own idx y).before a0 Z = true) (wt : (Jvm.Cond.instanceMethod y).before a0 Z = true) (wz : (Jvm.Cond.initialized y.cls).before a0 Z = true) (wc : (Jvm.Cond.code y bytes' maxL' none).before a0 Z = true) (hy : y.cls ≠ "java/lang/invoke/MethodHandle" ∧ y.cls ≠ "java/lang/invoke/VarHandle")
    (ct : own_Ct l Z EL n0 y bytes' maxL' none [] rm' (.ref a :: argsL).toArray h ms0 Q') (hms : ∀ x ∈ ms0, x ∈ ms) (hst : st = argsL.reverse ++ .ref a :: rest) (hsz : Ls.size = maxL) (hpd : parseMethodDescriptor y.desc = some ⟨ps, rt⟩) (hln : argsL.length = ps.length) (hd : decode bytes pc = .ok (.invokespecial idx, 3)) (hp : pc + 3 = pc')
    (hf : rm'.frames + 1 ≤ R.frames) {W : Nat} (hW : (rest.map fun v => v.category).sum = W) (hl : W + (maxL' + 11) + rm'.locals ≤ R.locals) (hc : k + rm'.cells ≤ R.cells) (hn : n + rm'.slots ≤ R.slots)
    (g : ∀ (T' : State) (h' : Heap) (v : Option Value) (ms' : List Addr), own_Wk Z EL n0 own bytes maxL ret nm p l e R s m args below meth c T' (ms' ++ ms) (k + rm'.cells) (n + rm'.slots) h' → Q' v h' ms' → own_Go Z EL n0 p e below s K N Q (T'.setTop (mkF m pc' Ls (v.toList ++ rest)))) :
    own_Go Z EL n0 p e below s K N Q (T.setTop (mkF m pc Ls st)) := by
  subst hp hst
  obtain ⟨h1, h2, h3, h4, h5, h6, locs, vm0, k0, a1, X, eT, hZ, hown, Nf, O, M, hS, hk0, hC, hEW⟩ := w
  have hZ0 : Z.Warmed39 (s.setVm vm0).vm := hZ
  obtain ⟨v, _, ⟨T', L', k', n'⟩, -, X', hS2, hgr, ⟨L, ms', hQ, NL, O', M', C', l1, l2, l3⟩, st'⟩ := X.specialBackS h1 (y := y) hy1 hown (mvT hZ0 wl) (mvT hZ0 wt) (mvT hZ0 wc) hy (own_back (s := s) (W := W) ct hZ wc wz (fun x hx => M x (hms x hx)) hf hl hEW hC.1) (g := mkF m pc Ls (argsL.reverse ++ .ref a :: rest)) rfl (by rw [h3]; exact hsz) (Steps.refl _) (a := a) (argsL := argsL) (rest := rest) (lenOf hpd hln) rfl (by show 2 * 0 + _ ≤ _; rw [hW]; omega) (h2 ▸ hd) (fun _ _ => ⟨rfl, eT, hc, hn⟩)
  dsimp only [Pt.U, Pt.locs, Pt.cells, Pt.slots] at X' hS2 hgr hQ O' M' C' l1 l2 l3 st'
  subst l1 l2 l3
  refine own_go (fun _ q => st'.trans q) (g T' _ v ms' ⟨h1, h2, h3, h4, h5, h6, locs ++ L, T'.vm, T'.heap.size, a1, X', rfl, State.Warmed39.trans (t := s.setVm vm0) hZ hS2.1, by rw [hS2.1.alike.findClass]; exact hown, Nf.app NL, O', fun x hx => ?_, hS.trans hS2 (Nat.le_trans hk0 (by rw [← eT]; exact hgr)), Nat.le_refl _, hC.trans C', hEW⟩ hQ)
  rcases List.mem_append.mp hx with q | q
  · exact M' x q
  · exact ⟨(M x q).1, Nat.lt_of_lt_of_le (M x q).2.1 C'.2.1, C'.safe (M x q).2.1 (M x q).2.2⟩
theorem own_callIN (w : own_Wk Z EL n0 own bytes maxL ret nm p l e R s m args below meth c T ms k n h) {idx : Nat} {y : MethodName} {host : String} {bytes' : ByteArray} {maxL' : Nat} {rm' : Room} {argsL rest : List Value} {ms0 : List Addr} {Q' : Option Value → Heap → List Addr → Prop} {ps : List FieldType} {rt : Option FieldType}
    (hy1 : y.name = "<init>") (wl : (Jvm.Cond.methodLinkNest own idx y host).before a0 Z = true) (wt : (Jvm.Cond.instanceMethod y).before a0 Z = true) (wz : (Jvm.Cond.initialized y.cls).before a0 Z = true) (wc : (Jvm.Cond.code y bytes' maxL' none).before a0 Z = true) (hy : y.cls ≠ "java/lang/invoke/MethodHandle" ∧ y.cls ≠ "java/lang/invoke/VarHandle")
    (ct : own_Ct l Z EL n0 y bytes' maxL' none [] rm' (.ref a :: argsL).toArray h ms0 Q') (hms : ∀ x ∈ ms0, x ∈ ms) (hst : st = argsL.reverse ++ .ref a :: rest) (hsz : Ls.size = maxL) (hpd : parseMethodDescriptor y.desc = some ⟨ps, rt⟩) (hln : argsL.length = ps.length) (hd : decode bytes pc = .ok (.invokespecial idx, 3)) (hp : pc + 3 = pc')
    (hf : rm'.frames + 1 ≤ R.frames) {W : Nat} (hW : (rest.map fun v => v.category).sum = W) (hl : W + (maxL' + 11) + rm'.locals ≤ R.locals) (hc : k + rm'.cells ≤ R.cells) (hn : n + rm'.slots ≤ R.slots)
    (g : ∀ (T' : State) (h' : Heap) (v : Option Value) (ms' : List Addr), own_Wk Z EL n0 own bytes maxL ret nm p l e R s m args below meth c T' (ms' ++ ms) (k + rm'.cells) (n + rm'.slots) h' → Q' v h' ms' → own_Go Z EL n0 p e below s K N Q (T'.setTop (mkF m pc' Ls (v.toList ++ rest)))) :
    own_Go Z EL n0 p e below s K N Q (T.setTop (mkF m pc Ls st)) := by
  subst hp hst
  obtain ⟨h1, h2, h3, h4, h5, h6, locs, vm0, k0, a1, X, eT, hZ, hown, Nf, O, M, hS, hk0, hC, hEW⟩ := w
  have hZ0 : Z.Warmed39 (s.setVm vm0).vm := hZ
  obtain ⟨v, _, ⟨T', L', k', n'⟩, -, X', hS2, hgr, ⟨L, ms', hQ, NL, O', M', C', l1, l2, l3⟩, st'⟩ := X.specialBackNestS h1 (y := y) hy1 hown (own_mvMN hZ0 wl) (mvT hZ0 wt) (mvT hZ0 wc) hy (own_back (s := s) (W := W) ct hZ wc wz (fun x hx => M x (hms x hx)) hf hl hEW hC.1) (g := mkF m pc Ls (argsL.reverse ++ .ref a :: rest)) rfl (by rw [h3]; exact hsz) (Steps.refl _) (a := a) (argsL := argsL) (rest := rest) (lenOf hpd hln) rfl (by show 2 * 0 + _ ≤ _; rw [hW]; omega) (h2 ▸ hd) (fun _ _ => ⟨rfl, eT, hc, hn⟩)
  dsimp only [Pt.U, Pt.locs, Pt.cells, Pt.slots] at X' hS2 hgr hQ O' M' C' l1 l2 l3 st'
  subst l1 l2 l3
  refine own_go (fun _ q => st'.trans q) (g T' _ v ms' ⟨h1, h2, h3, h4, h5, h6, locs ++ L, T'.vm, T'.heap.size, a1, X', rfl, State.Warmed39.trans (t := s.setVm vm0) hZ hS2.1, by rw [hS2.1.alike.findClass]; exact hown, Nf.app NL, O', fun x hx => ?_, hS.trans hS2 (Nat.le_trans hk0 (by rw [← eT]; exact hgr)), Nat.le_refl _, hC.trans C', hEW⟩ hQ)
  rcases List.mem_append.mp hx with q | q
  · exact M' x q
  · exact ⟨(M x q).1, Nat.lt_of_lt_of_le (M x q).2.1 C'.2.1, C'.safe (M x q).2.1 (M x q).2.2⟩
theorem own_callV (w : own_Wk Z EL n0 own bytes maxL ret nm p l e R s m args below meth c T ms k n h) {idx : Nat} {C : String} {y z : MethodName} {bytes' : ByteArray} {maxL' : Nat} {ret' : Option FieldType} {rm' : Room} {argsL rest : List Value} {ms0 : List Addr} {Q' : Option Value → Heap → List Addr → Prop} {ps : List FieldType} {rt : Option FieldType}
    (wl : (Jvm.Cond.methodLink own idx y).before a0 Z = true) (wd : (Jvm.Cond.declares y).before a0 Z = true) (hnf : ∀ s' : State, Z.Warmed39 s'.vm → NotFace s' y) (ws : (Jvm.Cond.selects C y z).before a0 Z = true) (wt : (Jvm.Cond.instanceMethod z).before a0 Z = true) (wz : (Jvm.Cond.initialized z.cls).before a0 Z = true) (wc : (Jvm.Cond.code z bytes' maxL' ret').before a0 Z = true) (hy : y.cls ≠ "java/lang/invoke/MethodHandle" ∧ y.cls ≠ "java/lang/invoke/VarHandle")
    (E : Exa Z h a C) (ct : own_Ct l Z EL n0 z bytes' maxL' ret' [] rm' (.ref a :: argsL).toArray h ms0 Q') (hms : ∀ x ∈ ms0, x ∈ ms) (hst : st = argsL.reverse ++ .ref a :: rest) (hsz : Ls.size = maxL) (hpd : parseMethodDescriptor y.desc = some ⟨ps, rt⟩) (hln : argsL.length = ps.length) (hd : decode bytes pc = .ok (.invokevirtual idx, 3)) (hp : pc + 3 = pc')
    (hf : rm'.frames + 1 ≤ R.frames) {W : Nat} (hW : (rest.map fun v => v.category).sum = W) (hl : W + (maxL' + 11) + rm'.locals ≤ R.locals) (hc : k + rm'.cells ≤ R.cells) (hn : n + rm'.slots ≤ R.slots)
    (g : ∀ (T' : State) (h' : Heap) (v : Option Value) (ms' : List Addr), own_Wk Z EL n0 own bytes maxL ret nm p l e R s m args below meth c T' (ms' ++ ms) (k + rm'.cells) (n + rm'.slots) h' → Q' v h' ms' → own_Go Z EL n0 p e below s K N Q (T'.setTop (mkF m pc' Ls (v.toList ++ rest)))) :
    own_Go Z EL n0 p e below s K N Q (T.setTop (mkF m pc Ls st)) := by
  subst hp hst
  obtain ⟨h1, h2, h3, h4, h5, h6, locs, vm0, k0, a1, X, eT, hZ, hown, Nf, O, M, hS, hk0, hC, hEW⟩ := w
  have hZ0 : Z.Warmed39 (s.setVm vm0).vm := hZ
  obtain ⟨cq, kq, qa, qb, qc⟩ := isOf hZ0 eT E
  obtain ⟨v, _, ⟨T', L', k', n'⟩, -, X', hS2, hgr, ⟨L, ms', hQ, NL, O', M', C', l1, l2, l3⟩, st'⟩ := X.virtualBackS h1 (y := y) (z := z) hown (mvT hZ0 wl) (mvT hZ0 wd) (hnf _ hZ0) (mvT hZ0 ws) (mvT hZ0 wt) hy (own_back (s := s) (W := W) ct hZ wc wz (fun x hx => M x (hms x hx)) hf hl hEW hC.1) qa qc (g := mkF m pc Ls (argsL.reverse ++ .ref a :: rest)) rfl (by rw [h3]; exact hsz) (Steps.refl _) (argsL := argsL) (rest := rest) (lenOf hpd hln) rfl (by show 2 * 0 + _ ≤ _; rw [hW]; omega) (h2 ▸ hd) (fun _ _ => ⟨rfl, eT, hc, hn⟩)
  dsimp only [Pt.U, Pt.locs, Pt.cells, Pt.slots] at X' hS2 hgr hQ O' M' C' l1 l2 l3 st'
  subst l1 l2 l3
  refine own_go (fun _ q => st'.trans q) (g T' _ v ms' ⟨h1, h2, h3, h4, h5, h6, locs ++ L, T'.vm, T'.heap.size, a1, X', rfl, State.Warmed39.trans (t := s.setVm vm0) hZ hS2.1, by rw [hS2.1.alike.findClass]; exact hown, Nf.app NL, O', fun x hx => ?_, hS.trans hS2 (Nat.le_trans hk0 (by rw [← eT]; exact hgr)), Nat.le_refl _, hC.trans C', hEW⟩ hQ)
  rcases List.mem_append.mp hx with q | q
  · exact M' x q
  · exact ⟨(M x q).1, Nat.lt_of_lt_of_le (M x q).2.1 C'.2.1, C'.safe (M x q).2.1 (M x q).2.2⟩
theorem own_ldcS (w : own_Wk Z EL n0 own bytes maxL ret nm p l e R s m args below meth c T ms k n h) {idx nn : Nat} {text : String} {vs : List Value} {z : Int32} (wl : (Jvm.Cond.stringLink own idx text).before a0 Z = true) (wS : ∀ a ∈ Bundle.stringAtoms, a.before a0 Z = true) (hmem : (own, idx) ∈ EL) (ht : (∀ c ∈ text.toList, c.toNat < 256) ∧ text.toList.map (fun c => Value.int (Jvm.Lit.byteI c.toNat.toUInt16)) = vs) (hz : ¬ z < 0) (hzl : z.toNatClampNeg = vs.length)
    (hd : decode bytes pc = .ok (.ldc idx, 2)) (hp : pc + 2 = pc') (hn : 4 * text.toList.length ≤ nn) (hbig : nn ≤ 536870912) (hc : k + 2 ≤ R.cells) (hl : n + (nn + 4) ≤ R.slots) (hE : EW Z a0 EL)
    (g : ∀ (T' : State) (h' : Heap) (a b : Addr) (kb : ClassId), own_Wk Z EL n0 own bytes maxL ret nm p l e R s m args below meth c T' ms (k + 2) (n + (nn + 4)) h' → Ext h h' → (Exa Z h' a "java/lang/String" ∧ Fld Z h' a "java/lang/String" "coder" "B" (.int 0) ∧ Fld Z h' a "java/lang/String" "value" "[B" (.ref b) ∧ Arv Z h' b kb .byte z vs (.int 0) ∧ ∀ x ∈ ms, x ≠ a ∧ x ≠ b) → own_Go Z EL n0 p e below s K N Q (T'.setTop (mkF m pc' Ls (.ref a :: st)))) :
    own_Go Z EL n0 p e below s K N Q (T.setTop (mkF m pc Ls st)) := by
  subst hp
  obtain ⟨h1, h2, h3, h4, h5, h6, locs, vm0, k0, a1, X, eT, hZ, hown, Nf, O, M, hS, hk0, hC, hEW⟩ := w
  obtain ⟨a, T', h', k1, b, kb, X', e', E', hS', hk1, hZ', hown', e1, e2, e3, e4, -, -, C', -, hne, st'⟩ := ldcCH X h1 hZ hown wl wS eT hS hk0 hE hmem hC.1 ht hz hzl (g := mkF m pc Ls st) rfl (h2 ▸ hd) hn hbig hc hl
  have hsf : ∀ x ∈ ms, n0 ≤ x ∧ x < h'.size ∧ Safe Z EL T'.vm h' x := fun x hx => ⟨(M x hx).1, Nat.lt_of_lt_of_le (M x hx).2.1 E'.1, C'.safe (M x hx).2.1 (M x hx).2.2⟩
  exact own_go st' (g T' h' a b kb ⟨h1, h2, h3, h4, h5, h6, locs, T'.vm, k1, a1, X', e', hZ', hown', Nf, O.ext E', hsf, hS', hk1, hC.trans C', hEW⟩ E' ⟨e1, e2, e3, e4, fun x hx => hne x (hsf x hx).2.2⟩)
theorem own_aloadN (w : own_Wk Z EL n0 own bytes maxL ret nm p l e R s m args below meth c T ms k n h) {kk : Fin 4} {v : Value} (hd : decode bytes pc = .ok (.aload_n kk, 1)) (hl : Ls[kk.val]? = some (.val v)) (hv : v.isRef = true) (hp : pc + 1 = pc') (g : own_Go Z EL n0 p e below s K N Q (T.setTop (mkF m pc' Ls (v :: st)))) : own_Go Z EL n0 p e below s K N Q (T.setTop (mkF m pc Ls st)) := by
  subst hp; exact own_go (fun _ q => XS.aloadN (own_here w) w.1 rfl (own_dec w hd) hl hv q) g
theorem own_aload (w : own_Wk Z EL n0 own bytes maxL ret nm p l e R s m args below meth c T ms k n h) {kk : Nat} {v : Value} (hd : decode bytes pc = .ok (.aload kk, 2)) (hl : Ls[kk]? = some (.val v)) (hv : v.isRef = true) (hp : pc + 2 = pc') (g : own_Go Z EL n0 p e below s K N Q (T.setTop (mkF m pc' Ls (v :: st)))) : own_Go Z EL n0 p e below s K N Q (T.setTop (mkF m pc Ls st)) := by
  subst hp; exact own_go (fun _ q => XS.aload (own_here w) w.1 rfl (own_dec w hd) hl hv q) g
theorem own_iloadN (w : own_Wk Z EL n0 own bytes maxL ret nm p l e R s m args below meth c T ms k n h) {kk : Fin 4} {v : Int32} (hd : decode bytes pc = .ok (.iload_n kk, 1)) (hl : Ls[kk.val]? = some (.val (.int v))) (hp : pc + 1 = pc') (g : own_Go Z EL n0 p e below s K N Q (T.setTop (mkF m pc' Ls (.int v :: st)))) : own_Go Z EL n0 p e below s K N Q (T.setTop (mkF m pc Ls st)) := by
  subst hp; exact own_go (fun _ q => XS.iloadN (own_here w) w.1 rfl (own_dec w hd) hl q) g
theorem own_iload (w : own_Wk Z EL n0 own bytes maxL ret nm p l e R s m args below meth c T ms k n h) {kk : Nat} {v : Int32} (hd : decode bytes pc = .ok (.iload kk, 2)) (hl : Ls[kk]? = some (.val (.int v))) (hp : pc + 2 = pc') (g : own_Go Z EL n0 p e below s K N Q (T.setTop (mkF m pc' Ls (.int v :: st)))) : own_Go Z EL n0 p e below s K N Q (T.setTop (mkF m pc Ls st)) := by
  subst hp; exact own_go (fun _ q => XS.iload (own_here w) w.1 rfl (own_dec w hd) hl q) g
theorem own_istoreN (w : own_Wk Z EL n0 own bytes maxL ret nm p l e R s m args below meth c T ms k n h) {kk : Fin 4} {x : Int32} (hd : decode bytes pc = .ok (.istore_n kk, 1)) (hl : storeLocals Ls kk.val (.int x) = some Ls') (hp : pc + 1 = pc') (g : own_Go Z EL n0 p e below s K N Q (T.setTop (mkF m pc' Ls' st))) : own_Go Z EL n0 p e below s K N Q (T.setTop (mkF m pc Ls (.int x :: st))) := by
  subst hp; exact own_go (fun _ q => XS.istoreN (own_here w) w.1 rfl (own_dec w hd) rfl hl q) g
theorem own_istore (w : own_Wk Z EL n0 own bytes maxL ret nm p l e R s m args below meth c T ms k n h) {kk : Nat} {x : Int32} (hd : decode bytes pc = .ok (.istore kk, 2)) (hl : storeLocals Ls kk (.int x) = some Ls') (hp : pc + 2 = pc') (g : own_Go Z EL n0 p e below s K N Q (T.setTop (mkF m pc' Ls' st))) : own_Go Z EL n0 p e below s K N Q (T.setTop (mkF m pc Ls (.int x :: st))) := by
  subst hp; exact own_go (fun _ q => XS.istore (own_here w) w.1 rfl (own_dec w hd) rfl hl q) g
theorem own_lloadN (w : own_Wk Z EL n0 own bytes maxL ret nm p l e R s m args below meth c T ms k n h) {kk : Fin 4} {v : Int64} (hd : decode bytes pc = .ok (.lload_n kk, 1)) (hl : Ls[kk.val]? = some (.val (.long v))) (hp : pc + 1 = pc') (g : own_Go Z EL n0 p e below s K N Q (T.setTop (mkF m pc' Ls (.long v :: st)))) : own_Go Z EL n0 p e below s K N Q (T.setTop (mkF m pc Ls st)) := by
  subst hp; exact own_go (fun _ q => XT.lloadN (own_here w) w.1 rfl (own_dec w hd) hl q) g
theorem own_lload (w : own_Wk Z EL n0 own bytes maxL ret nm p l e R s m args below meth c T ms k n h) {kk : Nat} {v : Int64} (hd : decode bytes pc = .ok (.lload kk, 2)) (hl : Ls[kk]? = some (.val (.long v))) (hp : pc + 2 = pc') (g : own_Go Z EL n0 p e below s K N Q (T.setTop (mkF m pc' Ls (.long v :: st)))) : own_Go Z EL n0 p e below s K N Q (T.setTop (mkF m pc Ls st)) := by
  subst hp; exact own_go (fun _ q => XT.lload (own_here w) w.1 rfl (own_dec w hd) hl q) g
theorem own_lstoreN (w : own_Wk Z EL n0 own bytes maxL ret nm p l e R s m args below meth c T ms k n h) {kk : Fin 4} {x : Int64} (hd : decode bytes pc = .ok (.lstore_n kk, 1)) (hl : storeLocals Ls kk.val (.long x) = some Ls') (hp : pc + 1 = pc') (g : own_Go Z EL n0 p e below s K N Q (T.setTop (mkF m pc' Ls' st))) : own_Go Z EL n0 p e below s K N Q (T.setTop (mkF m pc Ls (.long x :: st))) := by
  subst hp; exact own_go (fun _ q => XT.lstoreN (own_here w) w.1 rfl (own_dec w hd) rfl hl q) g
theorem own_lstore (w : own_Wk Z EL n0 own bytes maxL ret nm p l e R s m args below meth c T ms k n h) {kk : Nat} {x : Int64} (hd : decode bytes pc = .ok (.lstore kk, 2)) (hl : storeLocals Ls kk (.long x) = some Ls') (hp : pc + 2 = pc') (g : own_Go Z EL n0 p e below s K N Q (T.setTop (mkF m pc' Ls' st))) : own_Go Z EL n0 p e below s K N Q (T.setTop (mkF m pc Ls (.long x :: st))) := by
  subst hp; exact own_go (fun _ q => XT.lstore (own_here w) w.1 rfl (own_dec w hd) rfl hl q) g
theorem own_astoreN (w : own_Wk Z EL n0 own bytes maxL ret nm p l e R s m args below meth c T ms k n h) {kk : Fin 4} {x : Value} (hd : decode bytes pc = .ok (.astore_n kk, 1)) (hv : x.isRef = true) (hl : storeLocals Ls kk.val x = some Ls') (hp : pc + 1 = pc') (g : own_Go Z EL n0 p e below s K N Q (T.setTop (mkF m pc' Ls' st))) : own_Go Z EL n0 p e below s K N Q (T.setTop (mkF m pc Ls (x :: st))) := by
  subst hp; exact own_go (fun _ q => XS.astoreN (own_here w) w.1 rfl (own_dec w hd) rfl hv hl q) g
theorem own_astore (w : own_Wk Z EL n0 own bytes maxL ret nm p l e R s m args below meth c T ms k n h) {kk : Nat} {x : Value} (hd : decode bytes pc = .ok (.astore kk, 2)) (hv : x.isRef = true) (hl : storeLocals Ls kk x = some Ls') (hp : pc + 2 = pc') (g : own_Go Z EL n0 p e below s K N Q (T.setTop (mkF m pc' Ls' st))) : own_Go Z EL n0 p e below s K N Q (T.setTop (mkF m pc Ls (x :: st))) := by
  subst hp; exact own_go (fun _ q => XS.astore (own_here w) w.1 rfl (own_dec w hd) rfl hv hl q) g
theorem own_iconst (w : own_Wk Z EL n0 own bytes maxL ret nm p l e R s m args below meth c T ms k n h) {i : Int} {x : Int32} (hd : decode bytes pc = .ok (.iconst i, 1)) (hi : Int32.ofInt i = x) (hp : pc + 1 = pc') (g : own_Go Z EL n0 p e below s K N Q (T.setTop (mkF m pc' Ls (.int x :: st)))) : own_Go Z EL n0 p e below s K N Q (T.setTop (mkF m pc Ls st)) := by
  subst hp hi; exact own_go (fun _ q => XS.iconst (own_here w) w.1 rfl (own_dec w hd)  q) g
theorem own_bipush (w : own_Wk Z EL n0 own bytes maxL ret nm p l e R s m args below meth c T ms k n h) {i : Int} {x : Int32} (hd : decode bytes pc = .ok (.bipush i, 2)) (hi : (Int8.ofInt i).toInt32 = x) (hp : pc + 2 = pc') (g : own_Go Z EL n0 p e below s K N Q (T.setTop (mkF m pc' Ls (.int x :: st)))) : own_Go Z EL n0 p e below s K N Q (T.setTop (mkF m pc Ls st)) := by
  subst hp hi; exact own_go (fun _ q => XS.bipush (own_here w) w.1 rfl (own_dec w hd)  q) g
theorem own_sipush (w : own_Wk Z EL n0 own bytes maxL ret nm p l e R s m args below meth c T ms k n h) {i : Int} {x : Int32} (hd : decode bytes pc = .ok (.sipush i, 3)) (hi : (Int16.ofInt i).toInt32 = x) (hp : pc + 3 = pc') (g : own_Go Z EL n0 p e below s K N Q (T.setTop (mkF m pc' Ls (.int x :: st)))) : own_Go Z EL n0 p e below s K N Q (T.setTop (mkF m pc Ls st)) := by
  subst hp hi; exact own_go (fun _ q => XS.sipush (own_here w) w.1 rfl (own_dec w hd)  q) g
theorem own_lconst (w : own_Wk Z EL n0 own bytes maxL ret nm p l e R s m args below meth c T ms k n h) {i : Fin 2} {x : Int64} (hd : decode bytes pc = .ok (.lconst i, 1)) (hi : Int64.ofNat i = x) (hp : pc + 1 = pc') (g : own_Go Z EL n0 p e below s K N Q (T.setTop (mkF m pc' Ls (.long x :: st)))) : own_Go Z EL n0 p e below s K N Q (T.setTop (mkF m pc Ls st)) := by
  subst hp hi; exact own_go (fun _ q => XT.lconst (own_here w) w.1 rfl (own_dec w hd)  q) g
theorem own_aconstNull (w : own_Wk Z EL n0 own bytes maxL ret nm p l e R s m args below meth c T ms k n h)  (hd : decode bytes pc = .ok (.aconst_null, 1))  (hp : pc + 1 = pc') (g : own_Go Z EL n0 p e below s K N Q (T.setTop (mkF m pc' Ls (.null :: st)))) : own_Go Z EL n0 p e below s K N Q (T.setTop (mkF m pc Ls st)) := by
  subst hp; exact own_go (fun _ q => XS.aconstNull (own_here w) w.1 rfl (own_dec w hd)  q) g
theorem own_iadd (w : own_Wk Z EL n0 own bytes maxL ret nm p l e R s m args below meth c T ms k n h) {x y z : Int32} (hd : decode bytes pc = .ok (.iadd, 1)) (hz : x + y = z) (hp : pc + 1 = pc') (g : own_Go Z EL n0 p e below s K N Q (T.setTop (mkF m pc' Ls (.int z :: st)))) : own_Go Z EL n0 p e below s K N Q (T.setTop (mkF m pc Ls (.int y :: .int x :: st))) := by
  subst hp hz; exact own_go (fun _ q => XS.iadd (own_here w) w.1 rfl (own_dec w hd) rfl q) g
theorem own_isub (w : own_Wk Z EL n0 own bytes maxL ret nm p l e R s m args below meth c T ms k n h) {x y z : Int32} (hd : decode bytes pc = .ok (.isub, 1)) (hz : x - y = z) (hp : pc + 1 = pc') (g : own_Go Z EL n0 p e below s K N Q (T.setTop (mkF m pc' Ls (.int z :: st)))) : own_Go Z EL n0 p e below s K N Q (T.setTop (mkF m pc Ls (.int y :: .int x :: st))) := by
  subst hp hz; exact own_go (fun _ q => XS.isub (own_here w) w.1 rfl (own_dec w hd) rfl q) g
theorem own_imul (w : own_Wk Z EL n0 own bytes maxL ret nm p l e R s m args below meth c T ms k n h) {x y z : Int32} (hd : decode bytes pc = .ok (.imul, 1)) (hz : x * y = z) (hp : pc + 1 = pc') (g : own_Go Z EL n0 p e below s K N Q (T.setTop (mkF m pc' Ls (.int z :: st)))) : own_Go Z EL n0 p e below s K N Q (T.setTop (mkF m pc Ls (.int y :: .int x :: st))) := by
  subst hp hz; exact own_go (fun _ q => XS.imul (own_here w) w.1 rfl (own_dec w hd) rfl q) g
theorem own_iand (w : own_Wk Z EL n0 own bytes maxL ret nm p l e R s m args below meth c T ms k n h) {x y z : Int32} (hd : decode bytes pc = .ok (.iand, 1)) (hz : x &&& y = z) (hp : pc + 1 = pc') (g : own_Go Z EL n0 p e below s K N Q (T.setTop (mkF m pc' Ls (.int z :: st)))) : own_Go Z EL n0 p e below s K N Q (T.setTop (mkF m pc Ls (.int y :: .int x :: st))) := by
  subst hp hz; exact own_go (fun _ q => XS.iand (own_here w) w.1 rfl (own_dec w hd) rfl q) g
theorem own_ior (w : own_Wk Z EL n0 own bytes maxL ret nm p l e R s m args below meth c T ms k n h) {x y z : Int32} (hd : decode bytes pc = .ok (.ior, 1)) (hz : x ||| y = z) (hp : pc + 1 = pc') (g : own_Go Z EL n0 p e below s K N Q (T.setTop (mkF m pc' Ls (.int z :: st)))) : own_Go Z EL n0 p e below s K N Q (T.setTop (mkF m pc Ls (.int y :: .int x :: st))) := by
  subst hp hz; exact own_go (fun _ q => XT.ior (own_here w) w.1 rfl (own_dec w hd) rfl q) g
theorem own_ixor (w : own_Wk Z EL n0 own bytes maxL ret nm p l e R s m args below meth c T ms k n h) {x y z : Int32} (hd : decode bytes pc = .ok (.ixor, 1)) (hz : x ^^^ y = z) (hp : pc + 1 = pc') (g : own_Go Z EL n0 p e below s K N Q (T.setTop (mkF m pc' Ls (.int z :: st)))) : own_Go Z EL n0 p e below s K N Q (T.setTop (mkF m pc Ls (.int y :: .int x :: st))) := by
  subst hp hz; exact own_go (fun _ q => XT.ixor (own_here w) w.1 rfl (own_dec w hd) rfl q) g
theorem own_ishl (w : own_Wk Z EL n0 own bytes maxL ret nm p l e R s m args below meth c T ms k n h) {x y z : Int32} (hd : decode bytes pc = .ok (.ishl, 1)) (hz : x <<< (y &&& 31) = z) (hp : pc + 1 = pc') (g : own_Go Z EL n0 p e below s K N Q (T.setTop (mkF m pc' Ls (.int z :: st)))) : own_Go Z EL n0 p e below s K N Q (T.setTop (mkF m pc Ls (.int y :: .int x :: st))) := by
  subst hp hz; exact own_go (fun _ q => XT.ishl (own_here w) w.1 rfl (own_dec w hd) rfl q) g
theorem own_ishr (w : own_Wk Z EL n0 own bytes maxL ret nm p l e R s m args below meth c T ms k n h) {x y z : Int32} (hd : decode bytes pc = .ok (.ishr, 1)) (hz : x >>> (y &&& 31) = z) (hp : pc + 1 = pc') (g : own_Go Z EL n0 p e below s K N Q (T.setTop (mkF m pc' Ls (.int z :: st)))) : own_Go Z EL n0 p e below s K N Q (T.setTop (mkF m pc Ls (.int y :: .int x :: st))) := by
  subst hp hz; exact own_go (fun _ q => XT.ishr (own_here w) w.1 rfl (own_dec w hd) rfl q) g
theorem own_iushr (w : own_Wk Z EL n0 own bytes maxL ret nm p l e R s m args below meth c T ms k n h) {x y z : Int32} (hd : decode bytes pc = .ok (.iushr, 1)) (hz : XT.ushr x y = z) (hp : pc + 1 = pc') (g : own_Go Z EL n0 p e below s K N Q (T.setTop (mkF m pc' Ls (.int z :: st)))) : own_Go Z EL n0 p e below s K N Q (T.setTop (mkF m pc Ls (.int y :: .int x :: st))) := by
  subst hp hz; exact own_go (fun _ q => XT.iushr (own_here w) w.1 rfl (own_dec w hd) rfl q) g
theorem own_idiv (w : own_Wk Z EL n0 own bytes maxL ret nm p l e R s m args below meth c T ms k n h) {x y z : Int32} (hd : decode bytes pc = .ok (.idiv, 1)) (hy : y ≠ 0) (hz : x / y = z) (hp : pc + 1 = pc') (g : own_Go Z EL n0 p e below s K N Q (T.setTop (mkF m pc' Ls (.int z :: st)))) : own_Go Z EL n0 p e below s K N Q (T.setTop (mkF m pc Ls (.int y :: .int x :: st))) := by
  subst hp hz; exact own_go (fun _ q => XS.idiv (own_here w) w.1 rfl (own_dec w hd) rfl hy q) g
theorem own_irem (w : own_Wk Z EL n0 own bytes maxL ret nm p l e R s m args below meth c T ms k n h) {x y z : Int32} (hd : decode bytes pc = .ok (.irem, 1)) (hy : y ≠ 0) (hz : x - (x / y) * y = z) (hp : pc + 1 = pc') (g : own_Go Z EL n0 p e below s K N Q (T.setTop (mkF m pc' Ls (.int z :: st)))) : own_Go Z EL n0 p e below s K N Q (T.setTop (mkF m pc Ls (.int y :: .int x :: st))) := by
  subst hp hz; exact own_go (fun _ q => XS.irem (own_here w) w.1 rfl (own_dec w hd) rfl hy q) g
theorem own_ineg (w : own_Wk Z EL n0 own bytes maxL ret nm p l e R s m args below meth c T ms k n h) {x z : Int32} (hd : decode bytes pc = .ok (.ineg, 1)) (hz : -x = z) (hp : pc + 1 = pc') (g : own_Go Z EL n0 p e below s K N Q (T.setTop (mkF m pc' Ls (.int z :: st)))) : own_Go Z EL n0 p e below s K N Q (T.setTop (mkF m pc Ls (.int x :: st))) := by
  subst hp hz; exact own_go (fun _ q => XS.ineg (own_here w) w.1 rfl (own_dec w hd) rfl q) g
theorem own_ladd (w : own_Wk Z EL n0 own bytes maxL ret nm p l e R s m args below meth c T ms k n h) {x y z : Int64} (hd : decode bytes pc = .ok (.ladd, 1)) (hz : x + y = z) (hp : pc + 1 = pc') (g : own_Go Z EL n0 p e below s K N Q (T.setTop (mkF m pc' Ls (.long z :: st)))) : own_Go Z EL n0 p e below s K N Q (T.setTop (mkF m pc Ls (.long y :: .long x :: st))) := by
  subst hp hz; exact own_go (fun _ q => XT.ladd (own_here w) w.1 rfl (own_dec w hd) rfl q) g
theorem own_lsub (w : own_Wk Z EL n0 own bytes maxL ret nm p l e R s m args below meth c T ms k n h) {x y z : Int64} (hd : decode bytes pc = .ok (.lsub, 1)) (hz : x - y = z) (hp : pc + 1 = pc') (g : own_Go Z EL n0 p e below s K N Q (T.setTop (mkF m pc' Ls (.long z :: st)))) : own_Go Z EL n0 p e below s K N Q (T.setTop (mkF m pc Ls (.long y :: .long x :: st))) := by
  subst hp hz; exact own_go (fun _ q => XT.lsub (own_here w) w.1 rfl (own_dec w hd) rfl q) g
theorem own_lmul (w : own_Wk Z EL n0 own bytes maxL ret nm p l e R s m args below meth c T ms k n h) {x y z : Int64} (hd : decode bytes pc = .ok (.lmul, 1)) (hz : x * y = z) (hp : pc + 1 = pc') (g : own_Go Z EL n0 p e below s K N Q (T.setTop (mkF m pc' Ls (.long z :: st)))) : own_Go Z EL n0 p e below s K N Q (T.setTop (mkF m pc Ls (.long y :: .long x :: st))) := by
  subst hp hz; exact own_go (fun _ q => XT.lmul (own_here w) w.1 rfl (own_dec w hd) rfl q) g
theorem own_land (w : own_Wk Z EL n0 own bytes maxL ret nm p l e R s m args below meth c T ms k n h) {x y z : Int64} (hd : decode bytes pc = .ok (.land, 1)) (hz : x &&& y = z) (hp : pc + 1 = pc') (g : own_Go Z EL n0 p e below s K N Q (T.setTop (mkF m pc' Ls (.long z :: st)))) : own_Go Z EL n0 p e below s K N Q (T.setTop (mkF m pc Ls (.long y :: .long x :: st))) := by
  subst hp hz; exact own_go (fun _ q => XT.land (own_here w) w.1 rfl (own_dec w hd) rfl q) g
theorem own_lor (w : own_Wk Z EL n0 own bytes maxL ret nm p l e R s m args below meth c T ms k n h) {x y z : Int64} (hd : decode bytes pc = .ok (.lor, 1)) (hz : x ||| y = z) (hp : pc + 1 = pc') (g : own_Go Z EL n0 p e below s K N Q (T.setTop (mkF m pc' Ls (.long z :: st)))) : own_Go Z EL n0 p e below s K N Q (T.setTop (mkF m pc Ls (.long y :: .long x :: st))) := by
  subst hp hz; exact own_go (fun _ q => XT.lor (own_here w) w.1 rfl (own_dec w hd) rfl q) g
theorem own_lxor (w : own_Wk Z EL n0 own bytes maxL ret nm p l e R s m args below meth c T ms k n h) {x y z : Int64} (hd : decode bytes pc = .ok (.lxor, 1)) (hz : x ^^^ y = z) (hp : pc + 1 = pc') (g : own_Go Z EL n0 p e below s K N Q (T.setTop (mkF m pc' Ls (.long z :: st)))) : own_Go Z EL n0 p e below s K N Q (T.setTop (mkF m pc Ls (.long y :: .long x :: st))) := by
  subst hp hz; exact own_go (fun _ q => XT.lxor (own_here w) w.1 rfl (own_dec w hd) rfl q) g
theorem own_lshl (w : own_Wk Z EL n0 own bytes maxL ret nm p l e R s m args below meth c T ms k n h) {x z : Int64} {y : Int32} (hd : decode bytes pc = .ok (.lshl, 1)) (hz : x <<< (y.toInt64 &&& 63) = z) (hp : pc + 1 = pc') (g : own_Go Z EL n0 p e below s K N Q (T.setTop (mkF m pc' Ls (.long z :: st)))) : own_Go Z EL n0 p e below s K N Q (T.setTop (mkF m pc Ls (.int y :: .long x :: st))) := by
  subst hp hz; exact own_go (fun _ q => XT.lshl (own_here w) w.1 rfl (own_dec w hd) rfl q) g
theorem own_lshr (w : own_Wk Z EL n0 own bytes maxL ret nm p l e R s m args below meth c T ms k n h) {x z : Int64} {y : Int32} (hd : decode bytes pc = .ok (.lshr, 1)) (hz : x >>> (y.toInt64 &&& 63) = z) (hp : pc + 1 = pc') (g : own_Go Z EL n0 p e below s K N Q (T.setTop (mkF m pc' Ls (.long z :: st)))) : own_Go Z EL n0 p e below s K N Q (T.setTop (mkF m pc Ls (.int y :: .long x :: st))) := by
  subst hp hz; exact own_go (fun _ q => XT.lshr (own_here w) w.1 rfl (own_dec w hd) rfl q) g
theorem own_lushr (w : own_Wk Z EL n0 own bytes maxL ret nm p l e R s m args below meth c T ms k n h) {x z : Int64} {y : Int32} (hd : decode bytes pc = .ok (.lushr, 1)) (hz : XT.ushrL x y = z) (hp : pc + 1 = pc') (g : own_Go Z EL n0 p e below s K N Q (T.setTop (mkF m pc' Ls (.long z :: st)))) : own_Go Z EL n0 p e below s K N Q (T.setTop (mkF m pc Ls (.int y :: .long x :: st))) := by
  subst hp hz; exact own_go (fun _ q => XT.lushr (own_here w) w.1 rfl (own_dec w hd) rfl q) g
theorem own_lneg (w : own_Wk Z EL n0 own bytes maxL ret nm p l e R s m args below meth c T ms k n h) {x z : Int64} (hd : decode bytes pc = .ok (.lneg, 1)) (hz : -x = z) (hp : pc + 1 = pc') (g : own_Go Z EL n0 p e below s K N Q (T.setTop (mkF m pc' Ls (.long z :: st)))) : own_Go Z EL n0 p e below s K N Q (T.setTop (mkF m pc Ls (.long x :: st))) := by
  subst hp hz; exact own_go (fun _ q => XT.lneg (own_here w) w.1 rfl (own_dec w hd) rfl q) g
theorem own_lcmp (w : own_Wk Z EL n0 own bytes maxL ret nm p l e R s m args below meth c T ms k n h) {x y : Int64} {z : Int32} (hd : decode bytes pc = .ok (.lcmp, 1)) (hz : XT.cmpL x y = z) (hp : pc + 1 = pc') (g : own_Go Z EL n0 p e below s K N Q (T.setTop (mkF m pc' Ls (.int z :: st)))) : own_Go Z EL n0 p e below s K N Q (T.setTop (mkF m pc Ls (.long y :: .long x :: st))) := by
  subst hp hz; exact own_go (fun _ q => XT.lcmp (own_here w) w.1 rfl (own_dec w hd) rfl q) g
theorem own_i2l (w : own_Wk Z EL n0 own bytes maxL ret nm p l e R s m args below meth c T ms k n h) {x : Int32} {z : Int64} (hd : decode bytes pc = .ok (.i2l, 1)) (hz : x.toInt64 = z) (hp : pc + 1 = pc') (g : own_Go Z EL n0 p e below s K N Q (T.setTop (mkF m pc' Ls (.long z :: st)))) : own_Go Z EL n0 p e below s K N Q (T.setTop (mkF m pc Ls (.int x :: st))) := by
  subst hp hz; exact own_go (fun _ q => XT.i2l (own_here w) w.1 rfl (own_dec w hd) rfl q) g
theorem own_l2i (w : own_Wk Z EL n0 own bytes maxL ret nm p l e R s m args below meth c T ms k n h) {x : Int64} {z : Int32} (hd : decode bytes pc = .ok (.l2i, 1)) (hz : x.toInt32 = z) (hp : pc + 1 = pc') (g : own_Go Z EL n0 p e below s K N Q (T.setTop (mkF m pc' Ls (.int z :: st)))) : own_Go Z EL n0 p e below s K N Q (T.setTop (mkF m pc Ls (.long x :: st))) := by
  subst hp hz; exact own_go (fun _ q => XT.l2i (own_here w) w.1 rfl (own_dec w hd) rfl q) g
theorem own_i2b (w : own_Wk Z EL n0 own bytes maxL ret nm p l e R s m args below meth c T ms k n h) {x z : Int32} (hd : decode bytes pc = .ok (.i2b, 1)) (hz : x.toInt8.toInt32 = z) (hp : pc + 1 = pc') (g : own_Go Z EL n0 p e below s K N Q (T.setTop (mkF m pc' Ls (.int z :: st)))) : own_Go Z EL n0 p e below s K N Q (T.setTop (mkF m pc Ls (.int x :: st))) := by
  subst hp hz; exact own_go (fun _ q => XT.i2b (own_here w) w.1 rfl (own_dec w hd) rfl q) g
theorem own_i2c (w : own_Wk Z EL n0 own bytes maxL ret nm p l e R s m args below meth c T ms k n h) {x z : Int32} (hd : decode bytes pc = .ok (.i2c, 1)) (hz : x.toUInt32.toUInt16.toUInt32.toInt32 = z) (hp : pc + 1 = pc') (g : own_Go Z EL n0 p e below s K N Q (T.setTop (mkF m pc' Ls (.int z :: st)))) : own_Go Z EL n0 p e below s K N Q (T.setTop (mkF m pc Ls (.int x :: st))) := by
  subst hp hz; exact own_go (fun _ q => XT.i2c (own_here w) w.1 rfl (own_dec w hd) rfl q) g
theorem own_i2s (w : own_Wk Z EL n0 own bytes maxL ret nm p l e R s m args below meth c T ms k n h) {x z : Int32} (hd : decode bytes pc = .ok (.i2s, 1)) (hz : x.toInt16.toInt32 = z) (hp : pc + 1 = pc') (g : own_Go Z EL n0 p e below s K N Q (T.setTop (mkF m pc' Ls (.int z :: st)))) : own_Go Z EL n0 p e below s K N Q (T.setTop (mkF m pc Ls (.int x :: st))) := by
  subst hp hz; exact own_go (fun _ q => XT.i2s (own_here w) w.1 rfl (own_dec w hd) rfl q) g
theorem own_dup (w : own_Wk Z EL n0 own bytes maxL ret nm p l e R s m args below meth c T ms k n h) {x : Value} (hd : decode bytes pc = .ok (.dup, 1)) (hc : x.category = 1) (hp : pc + 1 = pc') (g : own_Go Z EL n0 p e below s K N Q (T.setTop (mkF m pc' Ls (x :: x :: st)))) : own_Go Z EL n0 p e below s K N Q (T.setTop (mkF m pc Ls (x :: st))) := by
  subst hp; exact own_go (fun _ q => XS.dup (own_here w) w.1 rfl (own_dec w hd) rfl hc q) g
theorem own_dupX1 (w : own_Wk Z EL n0 own bytes maxL ret nm p l e R s m args below meth c T ms k n h) {x y : Value} (hd : decode bytes pc = .ok (.dup_x1, 1)) (hc : x.category = 1) (hc' : y.category = 1) (hp : pc + 1 = pc') (g : own_Go Z EL n0 p e below s K N Q (T.setTop (mkF m pc' Ls (x :: y :: x :: st)))) : own_Go Z EL n0 p e below s K N Q (T.setTop (mkF m pc Ls (x :: y :: st))) := by
  subst hp; exact own_go (fun _ q => XT.dupX1 (own_here w) w.1 rfl (own_dec w hd) rfl hc hc' q) g
theorem own_dup2 (w : own_Wk Z EL n0 own bytes maxL ret nm p l e R s m args below meth c T ms k n h) {x y : Value} (hd : decode bytes pc = .ok (.dup2, 1)) (hc : x.category = 1) (hc' : y.category = 1) (hp : pc + 1 = pc') (g : own_Go Z EL n0 p e below s K N Q (T.setTop (mkF m pc' Ls (x :: y :: x :: y :: st)))) : own_Go Z EL n0 p e below s K N Q (T.setTop (mkF m pc Ls (x :: y :: st))) := by
  subst hp; exact own_go (fun _ q => XT.dup2 (own_here w) w.1 rfl (own_dec w hd) rfl hc hc' q) g
theorem own_dup2L (w : own_Wk Z EL n0 own bytes maxL ret nm p l e R s m args below meth c T ms k n h) {x : Int64} (hd : decode bytes pc = .ok (.dup2, 1))  (hp : pc + 1 = pc') (g : own_Go Z EL n0 p e below s K N Q (T.setTop (mkF m pc' Ls (.long x :: .long x :: st)))) : own_Go Z EL n0 p e below s K N Q (T.setTop (mkF m pc Ls (.long x :: st))) := by
  subst hp; exact own_go (fun _ q => XT.dup2L (own_here w) w.1 rfl (own_dec w hd) rfl q) g
theorem own_pop (w : own_Wk Z EL n0 own bytes maxL ret nm p l e R s m args below meth c T ms k n h) {x : Value} (hd : decode bytes pc = .ok (.pop, 1)) (hc : x.category = 1) (hp : pc + 1 = pc') (g : own_Go Z EL n0 p e below s K N Q (T.setTop (mkF m pc' Ls st))) : own_Go Z EL n0 p e below s K N Q (T.setTop (mkF m pc Ls (x :: st))) := by
  subst hp; exact own_go (fun _ q => XT.pop (own_here w) w.1 rfl (own_dec w hd) rfl hc q) g
theorem own_iinc (w : own_Wk Z EL n0 own bytes maxL ret nm p l e R s m args below meth c T ms k n h) {kk : Nat} {cst : Int} {x y : Int32} (hd : decode bytes pc = .ok (.iinc kk cst, 3)) (hl : Ls[kk]? = some (.val (.int x))) (hy : x + Int32.ofInt cst = y) (hl' : storeLocals Ls kk (.int y) = some Ls') (hp : pc + 3 = pc') (g : own_Go Z EL n0 p e below s K N Q (T.setTop (mkF m pc' Ls' st))) : own_Go Z EL n0 p e below s K N Q (T.setTop (mkF m pc Ls st)) := by
  subst hp hy; exact own_go (fun _ q => XS.iinc (own_here w) w.1 rfl (own_dec w hd) hl hl' q) g
theorem own_goto (w : own_Wk Z EL n0 own bytes maxL ret nm p l e R s m args below meth c T ms k n h) {o : Int} (hd : decode bytes pc = .ok (.goto o, 3)) (ho : 0 ≤ (pc : Int) + o) (hp : ((pc : Int) + o).toNat = pc') (g : own_Go Z EL n0 p e below s K N Q (T.setTop (mkF m pc' Ls st))) : own_Go Z EL n0 p e below s K N Q (T.setTop (mkF m pc Ls st)) := own_go (fun _ q => XS.goto (own_here w) w.1 rfl (pc0 := pc) rfl (own_dec w hd) ho hp q) g
def own_cT (cd : ClassFile.Cond) (x y : Int32) : Prop := match cd with | .eq => x = y | .ne => ¬ x = y | .lt => x < y | .ge => ¬ x < y | .gt => y < x | .le => ¬ y < x
def own_cF (cd : ClassFile.Cond) (x y : Int32) : Prop := match cd with | .eq => ¬ x = y | .ne => x = y | .lt => ¬ x < y | .ge => x < y | .gt => ¬ y < x | .le => y < x
theorem own_cond (cd : ClassFile.Cond) (x y : Int32) : (own_cT cd x y ∧ if_icmp.holds cd x y = true) ∨ (own_cF cd x y ∧ if_icmp.holds cd x y = false) := by
  cases cd
  · by_cases q : x = y
    · exact Or.inl ⟨q, (teq q).1⟩
    · exact Or.inr ⟨q, (feq q).1⟩
  · by_cases q : x = y
    · exact Or.inr ⟨q, (teq q).2⟩
    · exact Or.inl ⟨q, (feq q).2⟩
  · by_cases q : x < y
    · exact Or.inl ⟨q, (tlt q).1⟩
    · exact Or.inr ⟨q, (flt q).1⟩
  · by_cases q : x < y
    · exact Or.inr ⟨q, (tlt q).2.1⟩
    · exact Or.inl ⟨q, (flt q).2.1⟩
  · by_cases q : y < x
    · exact Or.inl ⟨q, (tlt q).2.2.1⟩
    · exact Or.inr ⟨q, (flt q).2.2.1⟩
  · by_cases q : y < x
    · exact Or.inr ⟨q, (tlt q).2.2.2⟩
    · exact Or.inl ⟨q, (flt q).2.2.2⟩
theorem own_icmp (w : own_Wk Z EL n0 own bytes maxL ret nm p l e R s m args below meth c T ms k n h) {cd : ClassFile.Cond} {x y : Int32} {o : Int} {pcY : Nat} (hd : decode bytes pc = .ok (.if_icmp cd o, 3)) (hp : pc + 3 = pc') (ho : 0 ≤ (pc : Int) + o) (hq : ((pc : Int) + o).toNat = pcY) (gT : own_cT cd x y → own_Go Z EL n0 p e below s K N Q (T.setTop (mkF m pcY Ls st))) (gF : own_cF cd x y → own_Go Z EL n0 p e below s K N Q (T.setTop (mkF m pc' Ls st))) : own_Go Z EL n0 p e below s K N Q (T.setTop (mkF m pc Ls (.int y :: .int x :: st))) := by
  subst hp
  rcases own_cond cd x y with ⟨q, r⟩ | ⟨q, r⟩
  · exact own_go (fun _ z => XS.icmpYes (own_here w) w.1 rfl (pc0 := pc) rfl (own_dec w hd) rfl r ho hq z) (gT q)
  · exact own_go (fun _ z => XS.icmpNo (own_here w) w.1 rfl (own_dec w hd) rfl r z) (gF q)
theorem own_if (w : own_Wk Z EL n0 own bytes maxL ret nm p l e R s m args below meth c T ms k n h) {cd : ClassFile.Cond} {x : Int32} {o : Int} {pcY : Nat} (hd : decode bytes pc = .ok (.ifCond cd o, 3)) (hp : pc + 3 = pc') (ho : 0 ≤ (pc : Int) + o) (hq : ((pc : Int) + o).toNat = pcY) (gT : own_cT cd x 0 → own_Go Z EL n0 p e below s K N Q (T.setTop (mkF m pcY Ls st))) (gF : own_cF cd x 0 → own_Go Z EL n0 p e below s K N Q (T.setTop (mkF m pc' Ls st))) : own_Go Z EL n0 p e below s K N Q (T.setTop (mkF m pc Ls (.int x :: st))) := by
  subst hp
  rcases own_cond cd x 0 with ⟨q, r⟩ | ⟨q, r⟩
  · exact own_go (fun _ z => XS.ifYes (own_here w) w.1 rfl (pc0 := pc) rfl (own_dec w hd) rfl ((if0 cd x).trans r) ho hq z) (gT q)
  · exact own_go (fun _ z => XS.ifNo (own_here w) w.1 rfl (own_dec w hd) rfl ((if0 cd x).trans r) z) (gF q)
theorem own_ifnullY (w : own_Wk Z EL n0 own bytes maxL ret nm p l e R s m args below meth c T ms k n h) {o : Int} (hd : decode bytes pc = .ok (.ifnull o, 3)) (ho : 0 ≤ (pc : Int) + o) (hp : ((pc : Int) + o).toNat = pc') (g : own_Go Z EL n0 p e below s K N Q (T.setTop (mkF m pc' Ls st))) : own_Go Z EL n0 p e below s K N Q (T.setTop (mkF m pc Ls (.null :: st))) := own_go (fun _ q => XS.ifnullYes (own_here w) w.1 rfl (pc0 := pc) rfl (own_dec w hd) rfl ho hp q) g
theorem own_ifnullN (w : own_Wk Z EL n0 own bytes maxL ret nm p l e R s m args below meth c T ms k n h) {o : Int} (hd : decode bytes pc = .ok (.ifnull o, 3)) (hp : pc + 3 = pc') (g : own_Go Z EL n0 p e below s K N Q (T.setTop (mkF m pc' Ls st))) : own_Go Z EL n0 p e below s K N Q (T.setTop (mkF m pc Ls (.ref a :: st))) := by
  subst hp; exact own_go (fun _ q => XS.ifnullNo (own_here w) w.1 rfl (own_dec w hd) rfl q) g
theorem own_ifnonnullY (w : own_Wk Z EL n0 own bytes maxL ret nm p l e R s m args below meth c T ms k n h) {o : Int} (hd : decode bytes pc = .ok (.ifnonnull o, 3)) (ho : 0 ≤ (pc : Int) + o) (hp : ((pc : Int) + o).toNat = pc') (g : own_Go Z EL n0 p e below s K N Q (T.setTop (mkF m pc' Ls st))) : own_Go Z EL n0 p e below s K N Q (T.setTop (mkF m pc Ls (.ref a :: st))) := own_go (fun _ q => XT.ifnonnullYes (own_here w) w.1 rfl (pc0 := pc) rfl (own_dec w hd) rfl ho hp q) g
theorem own_ifnonnullN (w : own_Wk Z EL n0 own bytes maxL ret nm p l e R s m args below meth c T ms k n h) {o : Int} (hd : decode bytes pc = .ok (.ifnonnull o, 3)) (hp : pc + 3 = pc') (g : own_Go Z EL n0 p e below s K N Q (T.setTop (mkF m pc' Ls st))) : own_Go Z EL n0 p e below s K N Q (T.setTop (mkF m pc Ls (.null :: st))) := by
  subst hp; exact own_go (fun _ q => XT.ifnonnullNo (own_here w) w.1 rfl (own_dec w hd) rfl q) g
theorem own_same (w : own_Wk Z EL n0 own bytes maxL ret nm p l e R s m args below meth c T ms k n h) {F F' : JFrame} (f : ∀ (s' : State) (locs : List Loc), Stand p l e R s' m args below meth c T locs k n → T.heap = h → Z.Warmed39 s'.vm → s'.vm.findClass own = some m.cls → ∃ T' : State, Stand p l e R s' m args below meth c T' locs k n ∧ T'.heap = h ∧ ∀ t, Steps p.tables e below (T'.setTop F') t → Steps p.tables e below (T.setTop F) t)
    (g : ∀ T' : State, own_Wk Z EL n0 own bytes maxL ret nm p l e R s m args below meth c T' ms k n h → own_Go Z EL n0 p e below s K N Q (T'.setTop F')) : own_Go Z EL n0 p e below s K N Q (T.setTop F) := by
  refine own_core w (k' := k) (n' := n) (ws := []) (P := fun h' new F'' => h' = h ∧ new = [] ∧ F'' = F') all0 (fun s' locs X eT hZ hown => ?_) (fun T' h' new F'' w' _ q => ?_)
  · obtain ⟨T', X', e', st'⟩ := f s' locs X eT hZ hown
    exact ⟨T', h, [], [], _, by rw [List.append_nil]; exact X', e', Keep.refl _ _, Fr.nil _, all0, ⟨rfl, rfl, rfl⟩, st'⟩
  · obtain ⟨rfl, rfl, rfl⟩ := q; exact g T' w'
theorem own_write (w : own_Wk Z EL n0 own bytes maxL ret nm p l e R s m args below meth c T ms k n h) {F F' : JFrame} {sl : Nat} {v : Value} (hm : a ∈ ms) (f : ∀ (s' : State) (locs : List Loc), Stand p l e R s' m args below meth c T locs k n → T.heap = h → Z.Warmed39 s'.vm → s'.vm.findClass own = some m.cls → ∃ (T' : State) (h' : Heap), Stand p l e R s' m args below meth c T' (locs ++ [⟨a, sl⟩]) k n ∧ T'.heap = h' ∧ Wr h h' a sl v ∧ ∀ t, Steps p.tables e below (T'.setTop F') t → Steps p.tables e below (T.setTop F) t)
    (g : ∀ (T' : State) (h' : Heap), own_Wk Z EL n0 own bytes maxL ret nm p l e R s m args below meth c T' ms k n h' → Wr h h' a sl v → own_Go Z EL n0 p e below s K N Q (T'.setTop F')) : own_Go Z EL n0 p e below s K N Q (T.setTop F) := by
  refine own_core w (k' := k) (n' := n) (ws := [a]) (P := fun h' new F'' => Wr h h' a sl v ∧ new = [] ∧ F'' = F') (allS hm all0) (fun s' locs X eT hZ hown => ?_) (fun T' h' new F'' w' _ q => ?_)
  · obtain ⟨T', h', X', e', W', st'⟩ := f s' locs X eT hZ hown
    exact ⟨T', h', [⟨a, sl⟩], [], _, X', e', Keep.of_wr W', (fun y hy => by cases List.mem_singleton.mp hy; exact (own_mine w a hm).1), all0, ⟨W', rfl, rfl⟩, st'⟩
  · obtain ⟨q, rfl, rfl⟩ := q; exact g T' h' w' q
theorem own_made (w : own_Wk Z EL n0 own bytes maxL ret nm p l e R s m args below meth c T ms k n h) {F : JFrame} {F' : Addr → JFrame} {k' n' : Nat} {P : Addr → Heap → Prop} (f : ∀ (s' : State) (locs : List Loc), Stand p l e R s' m args below meth c T locs k n → T.heap = h → Z.Warmed39 s'.vm → s'.vm.findClass own = some m.cls → ∃ (T' : State) (h' : Heap), Stand p l e R s' m args below meth c T' locs k' n' ∧ T'.heap = h' ∧ Ext h h' ∧ h.size < h'.size ∧ P h.size h' ∧ ∀ t, Steps p.tables e below (T'.setTop (F' h.size)) t → Steps p.tables e below (T.setTop F) t)
    (g : ∀ (T' : State) (h' : Heap) (a : Addr), h.size = a → own_Wk Z EL n0 own bytes maxL ret nm p l e R s m args below meth c T' (a :: ms) k' n' h' → Ext h h' → P a h' → own_Go Z EL n0 p e below s K N Q (T'.setTop (F' a))) : own_Go Z EL n0 p e below s K N Q (T.setTop F) := by
  refine own_core w (k' := k') (n' := n') (ws := []) (P := fun h' new F'' => Ext h h' ∧ P h.size h' ∧ new = [h.size] ∧ F'' = F' h.size) all0 (fun s' locs X eT hZ hown => ?_) (fun T' h' new F'' w' _ q => ?_)
  · obtain ⟨T', h', X', e', E', hlt, hP, st'⟩ := f s' locs X eT hZ hown
    exact ⟨T', h', [], [h.size], _, by rw [List.append_nil]; exact X', e', (Keep.refl _ _).ext E', Fr.nil _, allS ⟨Nat.le_refl _, hlt⟩ all0, ⟨E', hP, rfl, rfl⟩, st'⟩
  · obtain ⟨q1, q2, rfl, rfl⟩ := q; exact g T' h' _ rfl w' q1 q2
theorem own_getF (w : own_Wk Z EL n0 own bytes maxL ret nm p l e R s m args below meth c T ms k n h) {idx : Nat} {R0 O fn fd host : String} {v : Value} (wl : (Jvm.Cond.fieldLink own idx R0 fn fd).before a0 Z = true ∨ (Jvm.Cond.fieldLinkNest own idx R0 fn fd host).before a0 Z = true) (via : Via Z R0 O fn fd) (F : Fld Z h a O fn fd v) (hd : decode bytes pc = .ok (.getfield idx, 3)) (hp : pc + 3 = pc')
    (g : ∀ T' : State, own_Wk Z EL n0 own bytes maxL ret nm p l e R s m args below meth c T' ms k n h → own_Go Z EL n0 p e below s K N Q (T'.setTop (mkF m pc' Ls (v :: st)))) : own_Go Z EL n0 p e below s K N Q (T.setTop (mkF m pc Ls (.ref a :: st))) := by
  subst hp; exact own_same w (fun s' locs X eT hZ hown => getF X w.1 hZ hown wl via eT F (g := mkF m pc Ls (.ref a :: st)) rfl rfl (own_dec w hd)) g
theorem own_getS (w : own_Wk Z EL n0 own bytes maxL ret nm p l e R s m args below meth c T ms k n h) {idx : Nat} {R0 O fn fd host : String} {v : Value} (wl : (Jvm.Cond.fieldLink own idx R0 fn fd).before a0 Z = true ∨ (Jvm.Cond.fieldLinkNest own idx R0 fn fd host).before a0 Z = true) (via : Via Z R0 O fn fd) (F : Sta Z h O fn fd v) (hd : decode bytes pc = .ok (.getstatic idx, 3)) (hp : pc + 3 = pc')
    (g : ∀ T' : State, own_Wk Z EL n0 own bytes maxL ret nm p l e R s m args below meth c T' ms k n h → own_Go Z EL n0 p e below s K N Q (T'.setTop (mkF m pc' Ls (v :: st)))) : own_Go Z EL n0 p e below s K N Q (T.setTop (mkF m pc Ls st)) := by
  subst hp; exact own_same w (fun s' locs X eT hZ hown => getS2 X w.1 hZ hown wl via eT F (g := mkF m pc Ls st) rfl (own_dec w hd)) g
theorem own_putF (w : own_Wk Z EL n0 own bytes maxL ret nm p l e R s m args below meth c T ms k n h) {idx kk : Nat} {R0 O fn fd host C : String} {v ov : Value} {ty : FieldType} (wl : (Jvm.Cond.fieldLink own idx R0 fn fd).before a0 Z = true ∨ (Jvm.Cond.fieldLinkNest own idx R0 fn fd host).before a0 Z = true) (via : Via Z R0 O fn fd) (hm : a ∈ ms) (F : Fld Z h a O fn fd ov) (E : Exa Z h a C) (L : (Jvm.Cond.lays C O fn fd).before a0 Z = true ∨ ((Jvm.Cond.laysFinal C O fn fd).before a0 Z = true ∧ own = O ∧ nm = "<init>")) (wi : (Jvm.Cond.instantiable C kk).before a0 Z = true)
    (hty : parseFieldDescriptor fd = some ty) (hn : narrow ty v = v) (hf : fits ty v = true) (hd : decode bytes pc = .ok (.putfield idx, 3)) (hp : pc + 3 = pc')
    (g : ∀ (T' : State) (h' : Heap), own_Wk Z EL n0 own bytes maxL ret nm p l e R s m args below meth c T' ms k n h' → Wr h h' a (RoadKit.slotOf Z O fn fd) v → own_Go Z EL n0 p e below s K N Q (T'.setTop (mkF m pc' Ls st))) : own_Go Z EL n0 p e below s K N Q (T.setTop (mkF m pc Ls (v :: .ref a :: st))) := by
  subst hp; exact own_write w hm (fun s' locs X eT hZ hown => putF X w.1 hZ hown wl via eT F E (L.imp id fun q => ⟨q.1, q.2.1, w.2.2.2.2.2.1.trans q.2.2⟩) wi hty hn hf (g := mkF m pc Ls (v :: .ref a :: st)) rfl rfl (own_dec w hd)) g
theorem own_newO (w : own_Wk Z EL n0 own bytes maxL ret nm p l e R s m args below meth c T ms k n h) {idx nn : Nat} {C : String} (wl : (Jvm.Cond.classLink own idx C).before a0 Z = true) (wi : (Jvm.Cond.instantiable C nn).before a0 Z = true) (wz : (Jvm.Cond.initialized C).before a0 Z = true) (hd : decode bytes pc = .ok (.new idx, 3)) (hp : pc + 3 = pc') (hc : k + 1 ≤ R.cells) (hl : n + nn ≤ R.slots)
    (g : ∀ (T' : State) (h' : Heap) (a : Addr), h.size = a → own_Wk Z EL n0 own bytes maxL ret nm p l e R s m args below meth c T' (a :: ms) (k + 1) (n + nn) h' → Ext h h' → (Exa Z h' a C ∧ (∀ {O fn fd : String} {ty : FieldType}, Laid Z a0 C O fn fd → parseFieldDescriptor fd = some ty → Fld Z h' a O fn fd (defaultValue ty))) → own_Go Z EL n0 p e below s K N Q (T'.setTop (mkF m pc' Ls (.ref a :: st)))) : own_Go Z EL n0 p e below s K N Q (T.setTop (mkF m pc Ls st)) := by
  subst hp; exact own_made w (F' := fun a => mkF m (pc + 3) Ls (.ref a :: st)) (fun s' locs X eT hZ hown => by
    obtain ⟨T', h', X', e', E', A', D', -, st'⟩ := newO X w.1 hZ hown wl wi wz eT (g := mkF m pc Ls st) rfl (own_dec w hd) hc hl
    exact ⟨T', h', X', e', E', A'.lt, ⟨A', D'⟩, st'⟩) g
theorem own_newP (w : own_Wk Z EL n0 own bytes maxL ret nm p l e R s m args below meth c T ms k n h) {aty : ArrayType} {z : Int32} {cap : Nat} {vs : List Value} {dv : Value} (wl : (Jvm.Cond.arrayClass (newarray.typeOf aty)).before a0 Z = true) (hd : decode bytes pc = .ok (.newarray aty, 2)) (hp : pc + 2 = pc') (hz : ¬ z < 0) (hcap : z.toNatClampNeg ≤ cap) (hb : cap * 8 ≤ 536870912) (hdv : defaultValue (newarray.typeOf aty) = dv) (hvs : ∀ i, vs.getD i dv = dv) (hc : k + 1 ≤ R.cells) (hl : n + cap ≤ R.slots)
    (g : ∀ (T' : State) (h' : Heap) (a : Addr), h.size = a → own_Wk Z EL n0 own bytes maxL ret nm p l e R s m args below meth c T' (a :: ms) (k + 1) (n + cap) h' → Ext h h' → (∃ kA, Arv Z h' a kA (newarray.typeOf aty) z vs dv) → own_Go Z EL n0 p e below s K N Q (T'.setTop (mkF m pc' Ls (.ref a :: st)))) : own_Go Z EL n0 p e below s K N Q (T.setTop (mkF m pc Ls (.int z :: st))) := by
  subst hp hdv; exact own_made w (F' := fun a => mkF m (pc + 2) Ls (.ref a :: st)) (fun s' locs X eT hZ hown => by
    obtain ⟨T', h', cA, X', e', E', A', st'⟩ := newP X w.1 hZ wl eT (g := mkF m pc Ls (.int z :: st)) rfl (own_dec w hd) rfl hz hcap hb hc hl
    exact ⟨T', h', X', e', E', A'.lt, ⟨cA, (Arv.new A' hz).pad fun i => by rw [hvs]; rfl⟩, st'⟩) g
theorem own_stC (w : own_Wk Z EL n0 own bytes maxL ret nm p l e R s m args below meth c T ms k n h) {j : Int32} {x : Int32} {z : Int32} {kA : ClassId} {vs vs' : List Value} {dv xv : Value} {i : Nat} (hm : a ∈ ms) (A : Arv Z h a kA .char z vs dv) (hj : ¬ j < 0 ∧ j < z) (hi : j.toNatClampNeg = i) (hil : i < vs.length) (hxv : (.int (nar .char x)) = xv) (hfv : fits .char xv = true) (hvs : vs.set i xv = vs') (hd : decode bytes pc = .ok (.castore, 1)) (hp : pc + 1 = pc')
    (g : ∀ (T' : State) (h' : Heap), own_Wk Z EL n0 own bytes maxL ret nm p l e R s m args below meth c T' ms k n h' → Wr h h' a j.toNatClampNeg xv → Arv Z h' a kA .char z vs' dv → own_Go Z EL n0 p e below s K N Q (T'.setTop (mkF m pc' Ls st))) : own_Go Z EL n0 p e below s K N Q (T.setTop (mkF m pc Ls (.int x :: .int j :: .ref a :: st))) := by
  subst hp hvs hxv
  obtain ⟨cl, Ar, c1, S, M, H, G⟩ := A
  exact own_write w hm (fun s' locs X eT hZ hown => stC X w.1 hZ eT Ar (inb_of S hj) (g := mkF m pc Ls (.int x :: .int j :: .ref a :: st)) rfl rfl (own_dec w hd)) (fun T' h' w' W => g T' h' w' W (Arv.set Ar c1 S M H G hfv W i hi hil))
theorem own_stB (w : own_Wk Z EL n0 own bytes maxL ret nm p l e R s m args below meth c T ms k n h) {j : Int32} {x : Int32} {z : Int32} {kA : ClassId} {vs vs' : List Value} {dv xv : Value} {i : Nat} (hm : a ∈ ms) (A : Arv Z h a kA .byte z vs dv) (hj : ¬ j < 0 ∧ j < z) (hi : j.toNatClampNeg = i) (hil : i < vs.length) (hxv : (.int x.toInt8.toInt32) = xv) (hfv : fits .byte xv = true) (hvs : vs.set i xv = vs') (hd : decode bytes pc = .ok (.bastore, 1)) (hp : pc + 1 = pc')
    (g : ∀ (T' : State) (h' : Heap), own_Wk Z EL n0 own bytes maxL ret nm p l e R s m args below meth c T' ms k n h' → Wr h h' a j.toNatClampNeg xv → Arv Z h' a kA .byte z vs' dv → own_Go Z EL n0 p e below s K N Q (T'.setTop (mkF m pc' Ls st))) : own_Go Z EL n0 p e below s K N Q (T.setTop (mkF m pc Ls (.int x :: .int j :: .ref a :: st))) := by
  subst hp hvs hxv
  obtain ⟨cl, Ar, c1, S, M, H, G⟩ := A
  exact own_write w hm (fun s' locs X eT hZ hown => stB X w.1 hZ eT Ar (inb_of S hj) (g := mkF m pc Ls (.int x :: .int j :: .ref a :: st)) rfl rfl (own_dec w hd)) (fun T' h' w' W => g T' h' w' W (Arv.set Ar c1 S M H G hfv W i hi hil))
theorem own_stI (w : own_Wk Z EL n0 own bytes maxL ret nm p l e R s m args below meth c T ms k n h) {j : Int32} {x : Int32} {z : Int32} {kA : ClassId} {vs vs' : List Value} {dv xv : Value} {i : Nat} (hm : a ∈ ms) (A : Arv Z h a kA .int z vs dv) (hj : ¬ j < 0 ∧ j < z) (hi : j.toNatClampNeg = i) (hil : i < vs.length) (hxv : (.int x) = xv) (hfv : fits .int xv = true) (hvs : vs.set i xv = vs') (hd : decode bytes pc = .ok (.iastore, 1)) (hp : pc + 1 = pc')
    (g : ∀ (T' : State) (h' : Heap), own_Wk Z EL n0 own bytes maxL ret nm p l e R s m args below meth c T' ms k n h' → Wr h h' a j.toNatClampNeg xv → Arv Z h' a kA .int z vs' dv → own_Go Z EL n0 p e below s K N Q (T'.setTop (mkF m pc' Ls st))) : own_Go Z EL n0 p e below s K N Q (T.setTop (mkF m pc Ls (.int x :: .int j :: .ref a :: st))) := by
  subst hp hvs hxv
  obtain ⟨cl, Ar, c1, S, M, H, G⟩ := A
  exact own_write w hm (fun s' locs X eT hZ hown => stI X w.1 hZ eT Ar (inb_of S hj) (g := mkF m pc Ls (.int x :: .int j :: .ref a :: st)) rfl rfl (own_dec w hd)) (fun T' h' w' W => g T' h' w' W (Arv.set Ar c1 S M H G hfv W i hi hil))
theorem own_stJ (w : own_Wk Z EL n0 own bytes maxL ret nm p l e R s m args below meth c T ms k n h) {j : Int32} {x : Int64} {z : Int32} {kA : ClassId} {vs vs' : List Value} {dv xv : Value} {i : Nat} (hm : a ∈ ms) (A : Arv Z h a kA .long z vs dv) (hj : ¬ j < 0 ∧ j < z) (hi : j.toNatClampNeg = i) (hil : i < vs.length) (hxv : (.long x) = xv) (hfv : fits .long xv = true) (hvs : vs.set i xv = vs') (hd : decode bytes pc = .ok (.lastore, 1)) (hp : pc + 1 = pc')
    (g : ∀ (T' : State) (h' : Heap), own_Wk Z EL n0 own bytes maxL ret nm p l e R s m args below meth c T' ms k n h' → Wr h h' a j.toNatClampNeg xv → Arv Z h' a kA .long z vs' dv → own_Go Z EL n0 p e below s K N Q (T'.setTop (mkF m pc' Ls st))) : own_Go Z EL n0 p e below s K N Q (T.setTop (mkF m pc Ls (.long x :: .int j :: .ref a :: st))) := by
  subst hp hvs hxv
  obtain ⟨cl, Ar, c1, S, M, H, G⟩ := A
  exact own_write w hm (fun s' locs X eT hZ hown => stJ X w.1 hZ eT Ar (inb_of S hj) (g := mkF m pc Ls (.long x :: .int j :: .ref a :: st)) rfl rfl (own_dec w hd)) (fun T' h' w' W => g T' h' w' W (Arv.set Ar c1 S M H G hfv W i hi hil))
theorem own_ldC (w : own_Wk Z EL n0 own bytes maxL ret nm p l e R s m args below meth c T ms k n h) {j : Int32} {v : Value} {z : Int32} {kA : ClassId} {vs : List Value} {dv : Value} (A : Arv Z h a kA .char z vs dv) (hj : ¬ j < 0 ∧ j < z) (hv : vs.getD j.toNatClampNeg dv = v) (hd : decode bytes pc = .ok (.caload, 1)) (hp : pc + 1 = pc') (g : own_Go Z EL n0 p e below s K N Q (T.setTop (mkF m pc' Ls (v :: st)))) : own_Go Z EL n0 p e below s K N Q (T.setTop (mkF m pc Ls (.int j :: .ref a :: st))) := by
  subst hp
  obtain ⟨cl, Ar, c1, S, M, H, G⟩ := A
  exact own_pure w (fun s' locs X eT hZ hown t q => X.caload w.1 (by rw [eT]; exact Ar.1) (State.isArrayOf_alike hZ.alike Ar.2.1) Ar.2.2 (inb_of S hj) (H.at (inb_of S hj) hv) (g := mkF m pc Ls (.int j :: .ref a :: st)) rfl rfl (own_dec w hd) t q) g
theorem own_ldB (w : own_Wk Z EL n0 own bytes maxL ret nm p l e R s m args below meth c T ms k n h) {j : Int32} {v : Value} {z : Int32} {kA : ClassId} {vs : List Value} {dv : Value} (A : Arv Z h a kA .byte z vs dv) (hj : ¬ j < 0 ∧ j < z) (hv : vs.getD j.toNatClampNeg dv = v) (hd : decode bytes pc = .ok (.baload, 1)) (hp : pc + 1 = pc') (g : own_Go Z EL n0 p e below s K N Q (T.setTop (mkF m pc' Ls (v :: st)))) : own_Go Z EL n0 p e below s K N Q (T.setTop (mkF m pc Ls (.int j :: .ref a :: st))) := by
  subst hp
  obtain ⟨cl, Ar, c1, S, M, H, G⟩ := A
  exact own_pure w (fun s' locs X eT hZ hown t q => X.baloadBytes w.1 (by rw [eT]; exact Ar.1) (State.isArrayOf_alike hZ.alike Ar.2.1) Ar.2.2 (inb_of S hj) (H.at (inb_of S hj) hv) (g := mkF m pc Ls (.int j :: .ref a :: st)) rfl rfl (own_dec w hd) t q) g
theorem own_ldI (w : own_Wk Z EL n0 own bytes maxL ret nm p l e R s m args below meth c T ms k n h) {j : Int32} {v : Value} {z : Int32} {kA : ClassId} {vs : List Value} {dv : Value} (A : Arv Z h a kA .int z vs dv) (hj : ¬ j < 0 ∧ j < z) (hv : vs.getD j.toNatClampNeg dv = v) (hd : decode bytes pc = .ok (.iaload, 1)) (hp : pc + 1 = pc') (g : own_Go Z EL n0 p e below s K N Q (T.setTop (mkF m pc' Ls (v :: st)))) : own_Go Z EL n0 p e below s K N Q (T.setTop (mkF m pc Ls (.int j :: .ref a :: st))) := by
  subst hp
  obtain ⟨cl, Ar, c1, S, M, H, G⟩ := A
  exact own_pure w (fun s' locs X eT hZ hown t q => X.iaload w.1 (by rw [eT]; exact Ar.1) (State.isArrayOf_alike hZ.alike Ar.2.1) Ar.2.2 (inb_of S hj) (H.at (inb_of S hj) hv) (g := mkF m pc Ls (.int j :: .ref a :: st)) rfl rfl (own_dec w hd) t q) g
theorem own_ldJ (w : own_Wk Z EL n0 own bytes maxL ret nm p l e R s m args below meth c T ms k n h) {j : Int32} {v : Value} {z : Int32} {kA : ClassId} {vs : List Value} {dv : Value} (A : Arv Z h a kA .long z vs dv) (hj : ¬ j < 0 ∧ j < z) (hv : vs.getD j.toNatClampNeg dv = v) (hd : decode bytes pc = .ok (.laload, 1)) (hp : pc + 1 = pc') (g : own_Go Z EL n0 p e below s K N Q (T.setTop (mkF m pc' Ls (v :: st)))) : own_Go Z EL n0 p e below s K N Q (T.setTop (mkF m pc Ls (.int j :: .ref a :: st))) := by
  subst hp
  obtain ⟨cl, Ar, c1, S, M, H, G⟩ := A
  exact own_pure w (fun s' locs X eT hZ hown t q => X.laload w.1 (by rw [eT]; exact Ar.1) (State.isArrayOf_alike hZ.alike Ar.2.1) Ar.2.2 (inb_of S hj) (H.at (inb_of S hj) hv) (g := mkF m pc Ls (.int j :: .ref a :: st)) rfl rfl (own_dec w hd) t q) g
theorem own_len (w : own_Wk Z EL n0 own bytes maxL ret nm p l e R s m args below meth c T ms k n h) {z : Int32} {kA : ClassId} {ty : FieldType} {vs : List Value} {dv : Value} (A : Arv Z h a kA ty z vs dv) (hd : decode bytes pc = .ok (.arraylength, 1)) (hp : pc + 1 = pc') (g : own_Go Z EL n0 p e below s K N Q (T.setTop (mkF m pc' Ls (.int z :: st)))) : own_Go Z EL n0 p e below s K N Q (T.setTop (mkF m pc Ls (.ref a :: st))) := by
  subst hp
  obtain ⟨cl, Ar, c1, S, M, H, G⟩ := A
  exact own_pure w (fun s' locs X eT hZ hown t q => X.arraylength w.1 (by rw [eT]; exact Ar.1) (State.isArrayOf_alike hZ.alike Ar.2.1) (g := mkF m pc Ls (.ref a :: st)) rfl rfl (own_dec w hd) t (by rw [len_of S M]; exact q)) g
theorem own_ldcI (w : own_Wk Z EL n0 own bytes maxL ret nm p l e R s m args below meth c T ms k n h) {idx : Nat} {x : Int32} (wl : (Jvm.Cond.constant own idx x).before a0 Z = true) (hd : decode bytes pc = .ok (.ldc idx, 2)) (hp : pc + 2 = pc') (g : own_Go Z EL n0 p e below s K N Q (T.setTop (mkF m pc' Ls (.int x :: st)))) : own_Go Z EL n0 p e below s K N Q (T.setTop (mkF m pc Ls st)) := by
  subst hp
  exact own_pure w (fun s' locs X eT hZ hown t q => X.ldcInt w.1 hown (mv hZ wl) (g := mkF m pc Ls st) rfl (own_dec w hd) t q) g
theorem own_ldc2J (w : own_Wk Z EL n0 own bytes maxL ret nm p l e R s m args below meth c T ms k n h) {idx : Nat} {x : Int64} (wl : (Jvm.Cond.constantLong own idx x).before a0 Z = true) (hd : decode bytes pc = .ok (.ldc2_w idx, 3)) (hp : pc + 3 = pc') (g : own_Go Z EL n0 p e below s K N Q (T.setTop (mkF m pc' Ls (.long x :: st)))) : own_Go Z EL n0 p e below s K N Q (T.setTop (mkF m pc Ls st)) := by
  subst hp
  exact own_pure w (fun s' locs X eT hZ hown t q => X.ldc2Long w.1 hown (mv hZ wl) (g := mkF m pc Ls st) rfl (own_dec w hd) t q) g
theorem own_ldA (w : own_Wk Z EL n0 own bytes maxL ret nm p l e R s m args below meth c T ms k n h) {j : Int32} {v : Value} {z : Int32} {kA : ClassId} {ty : FieldType} {vs : List Value} {dv : Value} (A : Arv Z h a kA ty z vs dv) (hty : ty.isReference = true) (hj : ¬ j < 0 ∧ j < z) (hv : vs.getD j.toNatClampNeg dv = v) (hd : decode bytes pc = .ok (.aaload, 1)) (hp : pc + 1 = pc') (g : own_Go Z EL n0 p e below s K N Q (T.setTop (mkF m pc' Ls (v :: st)))) : own_Go Z EL n0 p e below s K N Q (T.setTop (mkF m pc Ls (.int j :: .ref a :: st))) := by
  subst hp
  obtain ⟨cl, Ar, c1, S, M, H, G⟩ := A
  exact own_pure w (fun s' locs X eT hZ hown t q => X.aaload w.1 (by rw [eT]; exact Ar.1) (State.isArrayOf_alike hZ.alike Ar.2.1) hty Ar.2.2 (inb_of S hj) (H.at (inb_of S hj) hv) (g := mkF m pc Ls (.int j :: .ref a :: st)) rfl rfl (own_dec w hd) t q) g
theorem own_castN (w : own_Wk Z EL n0 own bytes maxL ret nm p l e R s m args below meth c T ms k n h) {idx : Nat} (hd : decode bytes pc = .ok (.checkcast idx, 3)) (hp : pc + 3 = pc') (g : own_Go Z EL n0 p e below s K N Q (T.setTop (mkF m pc' Ls (.null :: st)))) : own_Go Z EL n0 p e below s K N Q (T.setTop (mkF m pc Ls (.null :: st))) := by
  subst hp
  exact own_pure w (fun s' locs X eT hZ hown t q => X.checkcastNull w.1 (g := mkF m pc Ls (.null :: st)) rfl rfl (own_dec w hd) t q) g
theorem own_instN (w : own_Wk Z EL n0 own bytes maxL ret nm p l e R s m args below meth c T ms k n h) {idx : Nat} (hd : decode bytes pc = .ok (.instanceof idx, 3)) (hp : pc + 3 = pc') (g : own_Go Z EL n0 p e below s K N Q (T.setTop (mkF m pc' Ls (.int 0 :: st)))) : own_Go Z EL n0 p e below s K N Q (T.setTop (mkF m pc Ls (.null :: st))) := by
  subst hp
  exact own_pure w (fun s' locs X eT hZ hown t q => X.instanceofNull w.1 (g := mkF m pc Ls (.null :: st)) rfl rfl (own_dec w hd) t q) g
theorem own_acopy (w : own_Wk Z EL n0 own bytes maxL ret nm p l e R s m args below meth c T ms k n h) {b : Addr} {idx W : Nat} {kA kB : ClassId} {ty : FieldType} {z z' sp dp nn : Int32} {vs vd us vs' : List Value} {dv dd : Value} (w1 : (Jvm.Cond.methodLink own idx Jvm.Stand.acN).before a0 Z = true) (w2 : (Jvm.Cond.native Jvm.Stand.acN).before a0 Z = true) (w3 : (Jvm.Cond.static Jvm.Stand.acN).before a0 Z = true) (w4 : (Jvm.Cond.initialized "java/lang/System").before a0 Z = true)
    (hm : b ∈ ms) (A : Arv Z h a kA ty z vs dv) (B : Arv Z h b kB ty z' vd dd) (hty : refKind ty = false) (h1 : ¬ sp < 0) (h2 : ¬ dp < 0) (h3 : ¬ nn < 0) (h4 : sp.toNatClampNeg + nn.toNatClampNeg ≤ z.toNatClampNeg) (h5 : dp.toNatClampNeg + nn.toNatClampNeg ≤ z'.toNatClampNeg) (hus : us = (List.range nn.toNatClampNeg).map fun i => vs.getD (sp.toNatClampNeg + i) dv) (hl : dp.toNatClampNeg + nn.toNatClampNeg ≤ vd.length) (hvs : vd.take dp.toNatClampNeg ++ us ++ vd.drop (dp.toNatClampNeg + nn.toNatClampNeg) = vs')
    (hsz : Ls.size = maxL) (hd : decode bytes pc = .ok (.invokestatic idx, 3)) (hp : pc + 3 = pc') (hf : 1 ≤ R.frames) (hW : (st.map fun v => v.category).sum ≤ W) (hlo : W + (nativeFrameWords "java/lang/System" "arraycopy" 5 + 11) ≤ R.locals)
    (g : ∀ (T' : State) (h' : Heap), own_Wk Z EL n0 own bytes maxL ret nm p l e R s m args below meth c T' ms k n h' → Keep h h' [b] → Arv Z h' b kB ty z' vs' dd → own_Go Z EL n0 p e below s K N Q (T'.setTop (mkF m pc' Ls st))) : own_Go Z EL n0 p e below s K N Q (T.setTop (mkF m pc Ls (.int nn :: .int dp :: .ref b :: .int sp :: .ref a :: st))) := by
  subst hp hvs
  refine own_coreL w (k' := k) (n' := n) (ws := [b]) (P := fun h' new F'' => Arv Z h' b kB ty z' (vd.take dp.toNatClampNeg ++ us ++ vd.drop (dp.toNatClampNeg + nn.toNatClampNeg)) dd ∧ new = [] ∧ F'' = mkF m (pc + 3) Ls st) (allS hm all0) (fun s' locs X eT hZ hown Nf => ?_) (fun T' h' new F'' w' Kp q => ?_)
  · obtain ⟨T', h', L, X', e', NL, Kp, B', st'⟩ := cpA X w.1 hZ hown w1 w2 w3 w4 eT A B (Or.inl ⟨rfl, hty⟩) h1 h2 h3 h4 h5 hus hl Nf (own_mine w b hm).1 (g := mkF m pc Ls (.int nn :: .int dp :: .ref b :: .int sp :: .ref a :: st)) rfl (by rw [w.2.2.1]; exact hsz) rfl (own_dec w hd) hf (W := W) (by show 2 * 0 + _ ≤ _; omega) hlo
    exact ⟨T', h', L, [], _, X', e', Kp, NL, all0, ⟨B', rfl, rfl⟩, st'⟩
  · obtain ⟨q1, rfl, rfl⟩ := q; exact g T' h' w' Kp q1
theorem own_clone (w : own_Wk Z EL n0 own bytes maxL ret nm p l e R s m args below meth c T ms k n h) {idx W cap : Nat} {ad : String} {kA : ClassId} {ty : FieldType} {z : Int32} {vs : List Value} {dv : Value} (w1 : (Jvm.Cond.methodLink own idx ⟨ad, "clone", "()Ljava/lang/Object;"⟩).before a0 Z = true) (w2 : (Jvm.Cond.sameMethod ad "java/lang/Object" "clone" "()Ljava/lang/Object;").before a0 Z = true) (w3 : (Jvm.Cond.native ⟨"java/lang/Object", "clone", "()Ljava/lang/Object;"⟩).before a0 Z = true) (w4 : (Jvm.Cond.instanceMethod ⟨"java/lang/Object", "clone", "()Ljava/lang/Object;"⟩).before a0 Z = true) (w5 : (Jvm.Cond.selects ad ⟨ad, "clone", "()Ljava/lang/Object;"⟩ ⟨"java/lang/Object", "clone", "()Ljava/lang/Object;"⟩).before a0 Z = true) (w6 : (Jvm.Cond.castable ad "java/lang/Cloneable").before a0 Z = true)
    (A : Arv Z h a kA ty z vs dv) (E : Exa Z h a ad) (hsz : Ls.size = maxL) (hd : decode bytes pc = .ok (.invokevirtual idx, 3)) (hp : pc + 3 = pc') (hf : 1 ≤ R.frames) (hW : (st.map fun v => v.category).sum ≤ W) (hl : W + 14 ≤ R.locals) (hcap : z.toNatClampNeg ≤ cap) (hc : k + 1 ≤ R.cells) (hn : n + cap ≤ R.slots)
    (g : ∀ (T' : State) (h' : Heap) (b : Addr), h.size = b → own_Wk Z EL n0 own bytes maxL ret nm p l e R s m args below meth c T' (b :: ms) (k + 1) (n + cap) h' → Ext h h' → (Arv Z h' b kA ty z vs dv ∧ Exa Z h' b ad) → own_Go Z EL n0 p e below s K N Q (T'.setTop (mkF m pc' Ls (.ref b :: st)))) : own_Go Z EL n0 p e below s K N Q (T.setTop (mkF m pc Ls (.ref a :: st))) := by
  subst hp; exact own_made w (F' := fun b => mkF m (pc + 3) Ls (.ref b :: st)) (fun s' locs X eT hZ hown => by
    obtain ⟨T', h', X', e', E', A', E2, st'⟩ := cloneH X w.1 hZ hown w1 w2 w3 w4 w5 w6 eT (hs := []) A E (g := mkF m pc Ls (.ref a :: st)) rfl (by rw [w.2.2.1]; exact hsz) rfl (own_dec w hd) hf (W := W) (by show 2 * 0 + _ ≤ _; omega) hl hcap hc hn
    exact ⟨T', h', X', e', E', E2.lt, ⟨A', E2⟩, st'⟩) g
theorem own_castY (w : own_Wk Z EL n0 own bytes maxL ret nm p l e R s m args below meth c T ms k n h) {idx : Nat} {C : String} (wl : (Jvm.Cond.classLink own idx C).before a0 Z = true) (I : Ins Z h a C true) (hd : decode bytes pc = .ok (.checkcast idx, 3)) (hp : pc + 3 = pc') (g : ∀ T' : State, own_Wk Z EL n0 own bytes maxL ret nm p l e R s m args below meth c T' ms k n h → own_Go Z EL n0 p e below s K N Q (T'.setTop (mkF m pc' Ls (.ref a :: st)))) : own_Go Z EL n0 p e below s K N Q (T.setTop (mkF m pc Ls (.ref a :: st))) := by
  subst hp; exact own_same w (fun s' locs X eT hZ hown => castY X w.1 hZ hown wl eT I (g := mkF m pc Ls (.ref a :: st)) rfl rfl (own_dec w hd)) g
theorem own_instY (w : own_Wk Z EL n0 own bytes maxL ret nm p l e R s m args below meth c T ms k n h) {idx : Nat} {C : String} (wl : (Jvm.Cond.classLink own idx C).before a0 Z = true) (I : Ins Z h a C true) (hd : decode bytes pc = .ok (.instanceof idx, 3)) (hp : pc + 3 = pc') (g : ∀ T' : State, own_Wk Z EL n0 own bytes maxL ret nm p l e R s m args below meth c T' ms k n h → own_Go Z EL n0 p e below s K N Q (T'.setTop (mkF m pc' Ls (.int 1 :: st)))) : own_Go Z EL n0 p e below s K N Q (T.setTop (mkF m pc Ls (.ref a :: st))) := by
  subst hp; exact own_same w (fun s' locs X eT hZ hown => instY X w.1 hZ hown wl eT I (g := mkF m pc Ls (.ref a :: st)) rfl rfl (own_dec w hd)) g
theorem own_initO (w : own_Wk Z EL n0 own bytes maxL ret nm p l e R s m args below meth c T ms k n h) {idx W : Nat} (w1 : (Jvm.Cond.methodLink own idx Lib.objectInit).before a0 Z = true) (w2 : (Jvm.Cond.instanceMethod Lib.objectInit).before a0 Z = true) (w3 : (Jvm.Cond.code Lib.objectInit ⟨#[0xb1]⟩ 1 none).before a0 Z = true) (hsz : Ls.size = maxL) (hd : decode bytes pc = .ok (.invokespecial idx, 3)) (hp : pc + 3 = pc') (hf : 1 ≤ R.frames) (hW : (st.map fun v => v.category).sum ≤ W) (hl : W + 12 ≤ R.locals)
    (g : ∀ T' : State, own_Wk Z EL n0 own bytes maxL ret nm p l e R s m args below meth c T' ms k n h → own_Go Z EL n0 p e below s K N Q (T'.setTop (mkF m pc' Ls st))) : own_Go Z EL n0 p e below s K N Q (T.setTop (mkF m pc Ls (.ref a :: st))) := by
  subst hp; exact own_same w (fun s' locs X eT hZ hown => initO X w.1 hZ hown w1 w2 w3 eT (g := mkF m pc Ls (.ref a :: st)) rfl (by rw [w.2.2.1]; exact hsz) rfl (own_dec w hd) hf (W := W) (by show 2 * 0 + _ ≤ _; omega) hl) g
theorem own_acmp (w : own_Wk Z EL n0 own bytes maxL ret nm p l e R s m args below meth c T ms k n h) {cd : ClassFile.ACond} {x y : Value} {o : Int} {pcY : Nat} (hx' : x.isRef = true) (hy' : y.isRef = true) (hd : decode bytes pc = .ok (.if_acmp cd o, 3)) (hp : pc + 3 = pc') (ho : 0 ≤ (pc : Int) + o) (hq : ((pc : Int) + o).toNat = pcY) (gT : (match cd with | .eq => x = y | .ne => ¬ x = y) → own_Go Z EL n0 p e below s K N Q (T.setTop (mkF m pcY Ls st))) (gF : (match cd with | .eq => ¬ x = y | .ne => x = y) → own_Go Z EL n0 p e below s K N Q (T.setTop (mkF m pc' Ls st))) : own_Go Z EL n0 p e below s K N Q (T.setTop (mkF m pc Ls (y :: x :: st))) := by
  subst hp
  cases cd <;> by_cases q : x = y
  · exact own_go (fun _ z => XT.acmpYes (own_here w) w.1 rfl (pc0 := pc) rfl (own_dec w hd) rfl hx' hy' (by simp [XT.acmp, q]) ho hq z) (gT q)
  · exact own_go (fun _ z => XT.acmpNo (own_here w) w.1 rfl (own_dec w hd) rfl hx' hy' (by simp [XT.acmp, q]) z) (gF q)
  · exact own_go (fun _ z => XT.acmpNo (own_here w) w.1 rfl (own_dec w hd) rfl hx' hy' (by simp [XT.acmp, q]) z) (gF q)
  · exact own_go (fun _ z => XT.acmpYes (own_here w) w.1 rfl (pc0 := pc) rfl (own_dec w hd) rfl hx' hy' (by simp [XT.acmp, q]) ho hq z) (gT q)
theorem own_callIB (w : own_Wk Z EL n0 own bytes maxL ret nm p l e R s m args below meth c T ms k n h) {idx : Nat} {y : MethodName} {bytes' : ByteArray} {maxL' : Nat} {argsL rest : List Value} {ws : List Addr} {QQ : Option Value → Heap → List Loc → Prop} {ps : List FieldType} {rt : Option FieldType} {W kc nc : Nat} (hy1 : y.name = "<init>") (wl : (Jvm.Cond.methodLink own idx y).before a0 Z = true) (wt : (Jvm.Cond.instanceMethod y).before a0 Z = true) (wc : (Jvm.Cond.code y bytes' maxL' none).before a0 Z = true) (hy : y.cls ≠ "java/lang/invoke/MethodHandle" ∧ y.cls ≠ "java/lang/invoke/VarHandle")
    (bk : ∀ s' : State, Z.Warmed39 s'.vm → Back l R p e below s' args y 3 W (fun P aa => aa = (.ref a :: argsL).toArray ∧ P.U.heap = h ∧ P.cells + kc ≤ R.cells ∧ P.slots + nc ≤ R.slots) (fun P _ v B => ∃ L, QQ v B.U.heap L ∧ B.locs = P.locs ++ L ∧ B.cells = P.cells + kc ∧ B.slots = P.slots + nc)) (hws : ∀ x ∈ ws, x ∈ ms) (hpost : ∀ v h' L, QQ v h' L → Keep h h' ws ∧ Fr n0 L) (hst : st = argsL.reverse ++ .ref a :: rest) (hsz : Ls.size = maxL) (hpd : parseMethodDescriptor y.desc = some ⟨ps, rt⟩) (hln : argsL.length = ps.length) (hd : decode bytes pc = .ok (.invokespecial idx, 3)) (hp : pc + 3 = pc') (hW : (rest.map fun v => v.category).sum ≤ W) (hc : k + kc ≤ R.cells) (hn : n + nc ≤ R.slots)
    (g : ∀ (T' : State) (h' : Heap) (v : Option Value), own_Wk Z EL n0 own bytes maxL ret nm p l e R s m args below meth c T' ms (k + kc) (n + nc) h' → Keep h h' ws → (∃ L, QQ v h' L) → own_Go Z EL n0 p e below s K N Q (T'.setTop (mkF m pc' Ls (v.toList ++ rest)))) : own_Go Z EL n0 p e below s K N Q (T.setTop (mkF m pc Ls st)) := by
  subst hp hst
  refine own_core w (k' := k + kc) (n' := n + nc) (ws := ws) (P := fun h' new F'' => ∃ v L, QQ v h' L ∧ new = [] ∧ F'' = mkF m (pc + 3) Ls (v.toList ++ rest)) hws (fun s' locs X eT hZ hown => by
    obtain ⟨v, _, ⟨T', L', k', n'⟩, -, X', ⟨L, hQ, l1, l2, l3⟩, st'⟩ := X.specialBack w.1 (y := y) hy1 hown (mvT hZ wl) (mvT hZ wt) (mvT hZ wc) hy (bk s' hZ) (g := mkF m pc Ls (argsL.reverse ++ .ref a :: rest)) rfl (by rw [w.2.2.1]; exact hsz) (Steps.refl _) (a := a) (argsL := argsL) (rest := rest) (lenOf hpd hln) rfl (by show 2 * 0 + _ ≤ _; omega) (own_dec w hd) (fun _ _ => ⟨rfl, eT, hc, hn⟩)
    dsimp only [Pt.U, Pt.locs, Pt.cells, Pt.slots] at X' hQ l1 l2 l3 st'
    subst l1 l2 l3
    exact ⟨T', _, L, [], _, X', rfl, (hpost _ _ _ hQ).1, (hpost _ _ _ hQ).2, all0, ⟨v, L, hQ, rfl, rfl⟩, fun _ q => st'.trans q⟩) (fun T' h' new F'' w' Kp q => by
    obtain ⟨v, L, q1, rfl, rfl⟩ := q
    exact g T' h' v w' Kp ⟨L, q1⟩)
theorem own_callVB (w : own_Wk Z EL n0 own bytes maxL ret nm p l e R s m args below meth c T ms k n h) {idx : Nat} {y z : MethodName} {C : String} {argsL rest : List Value} {ws : List Addr} {QQ : Option Value → Heap → List Loc → Prop} {ps : List FieldType} {rt : Option FieldType} {W kc nc : Nat} (wl : (Jvm.Cond.methodLink own idx y).before a0 Z = true) (wd : (Jvm.Cond.declares y).before a0 Z = true) (hnf : ∀ s' : State, Z.Warmed39 s'.vm → NotFace s' y) (wsel : (Jvm.Cond.selects C y z).before a0 Z = true) (wt : (Jvm.Cond.instanceMethod z).before a0 Z = true) (hy : y.cls ≠ "java/lang/invoke/MethodHandle" ∧ y.cls ≠ "java/lang/invoke/VarHandle") (E : Exa Z h a C)
    (bk : ∀ s' : State, Z.Warmed39 s'.vm → Back l R p e below s' args z 3 W (fun P aa => aa = (.ref a :: argsL).toArray ∧ P.U.heap = h ∧ P.cells + kc ≤ R.cells ∧ P.slots + nc ≤ R.slots) (fun P _ v B => ∃ L, QQ v B.U.heap L ∧ B.locs = P.locs ++ L ∧ B.cells = P.cells + kc ∧ B.slots = P.slots + nc)) (hws : ∀ x ∈ ws, x ∈ ms) (hpost : ∀ v h' L, QQ v h' L → Keep h h' ws ∧ Fr n0 L) (hst : st = argsL.reverse ++ .ref a :: rest) (hsz : Ls.size = maxL) (hpd : parseMethodDescriptor y.desc = some ⟨ps, rt⟩) (hln : argsL.length = ps.length) (hd : decode bytes pc = .ok (.invokevirtual idx, 3)) (hp : pc + 3 = pc') (hW : (rest.map fun v => v.category).sum ≤ W) (hc : k + kc ≤ R.cells) (hn : n + nc ≤ R.slots)
    (g : ∀ (T' : State) (h' : Heap) (v : Option Value), own_Wk Z EL n0 own bytes maxL ret nm p l e R s m args below meth c T' ms (k + kc) (n + nc) h' → Keep h h' ws → (∃ L, QQ v h' L) → own_Go Z EL n0 p e below s K N Q (T'.setTop (mkF m pc' Ls (v.toList ++ rest)))) : own_Go Z EL n0 p e below s K N Q (T.setTop (mkF m pc Ls st)) := by
  subst hp hst
  refine own_core w (k' := k + kc) (n' := n + nc) (ws := ws) (P := fun h' new F'' => ∃ v L, QQ v h' L ∧ new = [] ∧ F'' = mkF m (pc + 3) Ls (v.toList ++ rest)) hws (fun s' locs X eT hZ hown => by
    obtain ⟨cq, kq, qa, qb, qc⟩ := isOf hZ eT E
    obtain ⟨v, _, ⟨T', L', k', n'⟩, -, X', ⟨L, hQ, l1, l2, l3⟩, st'⟩ := X.virtualBack w.1 (y := y) (z := z) hown (mvT hZ wl) (mvT hZ wd) (hnf _ hZ) (mvT hZ wsel) (mvT hZ wt) hy (bk s' hZ) qa qc (g := mkF m pc Ls (argsL.reverse ++ .ref a :: rest)) rfl (by rw [w.2.2.1]; exact hsz) (Steps.refl _) (argsL := argsL) (rest := rest) (lenOf hpd hln) rfl (by show 2 * 0 + _ ≤ _; omega) (own_dec w hd) (fun _ _ => ⟨rfl, eT, hc, hn⟩)
    dsimp only [Pt.U, Pt.locs, Pt.cells, Pt.slots] at X' hQ l1 l2 l3 st'
    subst l1 l2 l3
    exact ⟨T', _, L, [], _, X', rfl, (hpost _ _ _ hQ).1, (hpost _ _ _ hQ).2, all0, ⟨v, L, hQ, rfl, rfl⟩, fun _ q => st'.trans q⟩) (fun T' h' new F'' w' Kp q => by
    obtain ⟨v, L, q1, rfl, rfl⟩ := q
    exact g T' h' v w' Kp ⟨L, q1⟩)
end OwnKit
theorem own_hws {Z : State} {a0 : Array Value} (hw : ∀ d ∈ tables_1, d.before a0 Z = true) : ∀ d ∈ StrChars.Road.words, d.before a0 Z = true := fun d hd => hw d ((by decide +kernel : ∀ d ∈ StrChars.Road.words, d ∈ tables_1) d hd)
theorem own_hwl {Z : State} {a0 : Array Value} (hw : ∀ d ∈ tables_1, d.before a0 Z = true) : ∀ d ∈ StrChars.Road.wordsLen, d.before a0 Z = true := fun d hd => hw d ((by decide +kernel : ∀ d ∈ StrChars.Road.wordsLen, d ∈ tables_1) d hd)
theorem own_hwc {Z : State} {a0 : Array Value} (hw : ∀ d ∈ tables_1, d.before a0 Z = true) : ∀ d ∈ StrChars.Road.wordsChN, d.before a0 Z = true := fun d hd => hw d ((by decide +kernel : ∀ d ∈ StrChars.Road.wordsChN, d ∈ tables_1) d hd)
theorem own_cod {cs : List Int32} {n : Nat} (hn : cs.length = n) (hp : ∀ c ∈ cs, ¬ c < 0 ∧ ¬ (255 : Int32) < c) : StrChars.Road.CodA cs 0 (Int32.ofNat n) ((cs.map fun (c : Int32) => c.toInt8.toInt32).map Value.int) := StrChars.Road.codOf hn (fun c hc => (hp c hc).2)
theorem own_hst {Z : State} {a0 : Array Value} (hw : ∀ d ∈ tables_1, d.before a0 Z = true) : ∀ d ∈ Bundle.stringAtoms, d.before a0 Z = true := fun d hd => hw d ((by decide +kernel : ∀ d ∈ Bundle.stringAtoms, d ∈ tables_1) d hd)
def own_sl (vs : List Value) (b d : Nat) : List Value := (List.range d).map fun i => vs.getD (b + i) (.int 0)
abbrev own_Rg (bI eI dI N : Int32) (b d : Nat) : Prop := ¬ bI < 0 ∧ ¬ dI < 0 ∧ eI - bI = dI ∧ bI + dI = eI ∧ bI.toNatClampNeg = b ∧ dI.toNatClampNeg = d ∧ b + d ≤ N.toNatClampNeg ∧ ¬ eI < bI ∧ ¬ N < eI ∧ ¬ (N - bI) < dI
theorem own_z0 : (0 : Int32).toNatClampNeg = 0 := rfl
theorem own_cp5 {dI : Int32} : (0 : Int32).toNatClampNeg + dI.toNatClampNeg ≤ dI.toNatClampNeg := by rw [own_z0]; omega
theorem own_cpl {dI : Int32} {d : Nat} (h : dI.toNatClampNeg = d) (dv : Value) : (0 : Int32).toNatClampNeg + dI.toNatClampNeg ≤ (List.replicate d dv).length := by rw [own_z0, h, List.length_replicate]; omega
theorem own_cpv {dI : Int32} {d : Nat} (h : dI.toNatClampNeg = d) (dv : Value) (us : List Value) : (List.replicate d dv).take (0 : Int32).toNatClampNeg ++ us ++ (List.replicate d dv).drop ((0 : Int32).toNatClampNeg + dI.toNatClampNeg) = us := by rw [own_z0, h]; simp
theorem own_cpu {bI dI : Int32} {b d : Nat} (h1 : bI.toNatClampNeg = b) (h2 : dI.toNatClampNeg = d) (vs : List Value) : own_sl vs b d = (List.range dI.toNatClampNeg).map fun i => vs.getD (bI.toNatClampNeg + i) (.int 0) := by rw [h1, h2]; rfl
theorem own_cp4 {bI dI N : Int32} {b d : Nat} (h1 : bI.toNatClampNeg = b) (h2 : dI.toNatClampNeg = d) (h : b + d ≤ N.toNatClampNeg) : bI.toNatClampNeg + dI.toNatClampNeg ≤ N.toNatClampNeg := by rw [h1, h2]; exact h
theorem own_ai {x y : Int32} (h1 : ¬ x < y) (h2 : ¬ y < x) : x = y := by
  rw [Int32.lt_iff_toInt_lt] at h1 h2; exact Int32.toInt_inj.mp (by omega)
def own_sp (y : Int32) : Bool := y == 32 || y == 9 || y == 13 || y == 10
def own_trim (l : List Int32) : List Int32 := ((l.dropWhile own_sp).reverse.dropWhile own_sp).reverse
theorem own_sp1 {y : Int32} (h : (if own_sp y then (1 : Int32) else 0) = 0) : own_sp y = false := by cases q : own_sp y <;> simp [q] at h ⊢
theorem own_sp0 {y : Int32} (h : ¬ (if own_sp y then (1 : Int32) else 0) = 0) : own_sp y = true := by cases q : own_sp y <;> simp [q] at h ⊢
def own_sv (y : Int32) : Int32 := if own_sp y then 0 else 1
theorem own_ns1 {y : Int32} (h : own_sv y = 0) : own_sp y = true := by unfold own_sv at h; cases q : own_sp y <;> simp [q] at h ⊢
theorem own_ns0 {y : Int32} (h : ¬ own_sv y = 0) : own_sp y = false := by unfold own_sv at h; cases q : own_sp y <;> simp [q] at h ⊢
def own_min (a b : Int32) : Int32 := if b < a then b else a
theorem own_n5 (y : Int32) : own_min (y &&& 7) 5 = 0 ∨ own_min (y &&& 7) 5 = 1 ∨ own_min (y &&& 7) 5 = 2 ∨ own_min (y &&& 7) 5 = 3 ∨ own_min (y &&& 7) 5 = 4 ∨ own_min (y &&& 7) 5 = 5 := by
  have h : (y &&& 7).toBitVec.toNat < 8 := by
    simp only [Int32.toBitVec_and, BitVec.toNat_and]
    exact Nat.lt_succ_of_le Nat.and_le_right
  have e : (y &&& 7) = Int32.ofNat (y &&& 7).toBitVec.toNat := by
    apply Int32.toBitVec_inj.mp
    show _ = BitVec.ofNat 32 _
    rw [BitVec.ofNat_toNat]; simp
  have t : ∀ k : Fin 8, own_min (Int32.ofNat k.val) 5 = 0 ∨ own_min (Int32.ofNat k.val) 5 = 1 ∨ own_min (Int32.ofNat k.val) 5 = 2 ∨ own_min (Int32.ofNat k.val) 5 = 3 ∨ own_min (Int32.ofNat k.val) 5 = 4 ∨ own_min (Int32.ofNat k.val) 5 = 5 := by decide +kernel
  rw [e]; exact t ⟨_, h⟩
theorem own_d0_0 : decode jdk_42_method_149_code 0 = .ok (.aload_n 0, 1) := by decide +kernel
theorem own_d0_1 : decode jdk_42_method_149_code 1 = .ok (.invokespecial 1, 3) := by decide +kernel
theorem own_w15 {Z : State} {a0 : Array Value} (hw : ∀ d ∈ tables_1, d.before a0 Z = true) : ((Jvm.Cond.methodLink "java/lang/String" (1 : Nat) ({ cls := "java/lang/Object", name := "<init>", desc := "()V" } : Jvm.MethodName)) : Jvm.Cond).before a0 Z = true := hw _ (List.mem_of_getElem? (i := 15) rfl)
theorem own_w16 {Z : State} {a0 : Array Value} (hw : ∀ d ∈ tables_1, d.before a0 Z = true) : ((Jvm.Cond.instanceMethod ({ cls := "java/lang/Object", name := "<init>", desc := "()V" } : Jvm.MethodName)) : Jvm.Cond).before a0 Z = true := hw _ (List.mem_of_getElem? (i := 16) rfl)
theorem own_w17 {Z : State} {a0 : Array Value} (hw : ∀ d ∈ tables_1, d.before a0 Z = true) : ((Jvm.Cond.code ({ cls := "java/lang/Object", name := "<init>", desc := "()V" } : Jvm.MethodName) object_method_1_code (1 : Nat) (Option.none : Option Jvm.ClassFile.FieldType)) : Jvm.Cond).before a0 Z = true := hw _ (List.mem_of_getElem? (i := 17) rfl)
theorem own_d0_4 : decode jdk_42_method_149_code 4 = .ok (.iload_n 3, 1) := by decide +kernel
theorem own_d0_5 : decode jdk_42_method_149_code 5 = .ok (.ifCond .ne 22, 3) := by decide +kernel
theorem own_d0_8 : decode jdk_42_method_149_code 8 = .ok (.aload_n 0, 1) := by decide +kernel
theorem own_d0_9 : decode jdk_42_method_149_code 9 = .ok (.ldc 7, 2) := by decide +kernel
theorem own_w18 {Z : State} {a0 : Array Value} (hw : ∀ d ∈ tables_1, d.before a0 Z = true) : ((Jvm.Cond.stringLink "java/lang/String" (7 : Nat) "") : Jvm.Cond).before a0 Z = true := hw _ (List.mem_of_getElem? (i := 18) rfl)
theorem own_d0_11 : decode jdk_42_method_149_code 11 = .ok (.getfield 9, 3) := by decide +kernel
theorem own_w24 {Z : State} {a0 : Array Value} (hw : ∀ d ∈ tables_1, d.before a0 Z = true) : ((Jvm.Cond.fieldLink "java/lang/String" (9 : Nat) "java/lang/String" "value" "[B") : Jvm.Cond).before a0 Z = true := hw _ (List.mem_of_getElem? (i := 24) rfl)
theorem own_d0_14 : decode jdk_42_method_149_code 14 = .ok (.putfield 9, 3) := by decide +kernel
theorem own_w20 {Z : State} {a0 : Array Value} (hw : ∀ d ∈ tables_1, d.before a0 Z = true) : ((Jvm.Cond.laysFinal "java/lang/String" "java/lang/String" "value" "[B") : Jvm.Cond).before a0 Z = true := hw _ (List.mem_of_getElem? (i := 20) rfl)
theorem own_w6 {Z : State} {a0 : Array Value} (hw : ∀ d ∈ tables_1, d.before a0 Z = true) : ((Jvm.Cond.instantiable "java/lang/String" (4 : Nat)) : Jvm.Cond).before a0 Z = true := hw _ (List.mem_of_getElem? (i := 6) rfl)
theorem own_w21 {Z : State} {a0 : Array Value} (hw : ∀ d ∈ tables_1, d.before a0 Z = true) : ((Jvm.Cond.laysFinal "java/lang/String" "java/lang/String" "coder" "B") : Jvm.Cond).before a0 Z = true := hw _ (List.mem_of_getElem? (i := 21) rfl)
theorem own_d0_17 : decode jdk_42_method_149_code 17 = .ok (.aload_n 0, 1) := by decide +kernel
theorem own_d0_18 : decode jdk_42_method_149_code 18 = .ok (.ldc 7, 2) := by decide +kernel
theorem own_d0_20 : decode jdk_42_method_149_code 20 = .ok (.getfield 15, 3) := by decide +kernel
theorem own_w25 {Z : State} {a0 : Array Value} (hw : ∀ d ∈ tables_1, d.before a0 Z = true) : ((Jvm.Cond.fieldLink "java/lang/String" (15 : Nat) "java/lang/String" "coder" "B") : Jvm.Cond).before a0 Z = true := hw _ (List.mem_of_getElem? (i := 25) rfl)
theorem own_d0_23 : decode jdk_42_method_149_code 23 = .ok (.putfield 15, 3) := by decide +kernel
theorem own_d0_26 : decode jdk_42_method_149_code 26 = .ok (.return_, 1) := by decide +kernel
theorem own_ef_strE4 (m : MethodId) (a1 : Addr) (a2 : Addr) (of : Int32) (ln : Int32) : entryFrame m #[(.ref a1), (.ref a2), (.int of), (.int ln), .null] 6 = mkF m 0 #[.val (.ref a1), .val (.ref a2), .val (.int of), .val (.int ln), .val .null, .unset] [] := by first | (simp [entryFrame, mkF, argsToLocals, Value.category]; done) | rfl
theorem own_pf0 : plainFor (⟨"java/lang/String", "<init>", "([CIILjava/lang/Void;)V"⟩ : MethodName) = true := by first | exact plainFor_of_name (by first | (simp [plainName, overriddenIn]; done) | decide +kernel) | decide +kernel
def own_Q_strE4 (Z : State) (h0 : Heap) (a1 : Addr) (a2 : Addr) (of : Int32) (ln : Int32) (u1 : Value) (u2 : Value) (v : Option Value) (h : Heap) (ms : List Addr) : Prop := (Keep h0 h [a1]) ∧ (∃ (t : Addr) (kb : ClassId), (ms = []) ∧ (v = none) ∧ (Exa Z h a1 "java/lang/String") ∧ (Fld Z h a1 "java/lang/String" "coder" "B" (.int 0)) ∧ (Fld Z h a1 "java/lang/String" "value" "[B" (.ref t)) ∧ (Arv Z h t kb .byte (0 : Int32) [] (.int 0)) ∧ (a1 ≠ t))
set_option maxRecDepth 65536 in
set_option maxHeartbeats 40000000 in
theorem own_ct_strE4 (l : Launch) (Z : State) (a0 : Array Value) (hw : ∀ d ∈ tables_1, d.before a0 Z = true) (EL : List (String × Nat)) (hE : EW Z a0 EL) (n0 : Nat) (ws : List Jvm.Cond) (h0 : Heap) (O : Old Z n0 h0) (a1 : Addr) (a2 : Addr) (of : Int32) (ln : Int32) (u1 : Value) (u2 : Value) (E_a1 : Exa Z h0 a1 "java/lang/String") (F_a1_value : Fld Z h0 a1 "java/lang/String" "value" "[B" u1) (F_a1_coder : Fld Z h0 a1 "java/lang/String" "coder" "B" u2) (hln : ln = 0) (hEL : ("java/lang/String", 7) ∈ EL) :
    own_Ct l Z EL n0 (⟨"java/lang/String", "<init>", "([CIILjava/lang/Void;)V"⟩ : MethodName) jdk_42_method_149_code 6 none ws ({ frames := 1, cells := 4, slots := 8, locals := 12 } : Room) #[(.ref a1), (.ref a2), (.int of), (.int ln), .null] h0 [a1] (own_Q_strE4 Z h0 a1 a2 of ln u1 u2) := by
 refine own_enter (a0 := a0) own_pf0 hE O fun p e s m below meth c T0 w0 => ?_
 rw [own_ef_strE4 m a1 a2 of ln]
 have K : Keep h0 h0 [a1] := Keep.refl _ _
 refine own_aloadN (pc' := 1) w0 own_d0_0 rfl rfl rfl ?_
 refine own_initO (pc' := 4) w0 (own_w15 hw) (own_w16 hw) (own_w17 hw) rfl own_d0_1 rfl (by decide) (W := 0) (Nat.le_of_eq rfl) (by decide) fun T1 w2 => ?_
 refine own_iloadN (pc' := 5) w2 own_d0_4 rfl rfl ?_
 refine own_if (pc' := 8) w2 own_d0_5 rfl (by decide) (pcY := 27) rfl (fun (hb5 : ¬ ln = (0 : Int32)) => absurd hln hb5) (fun (hb5 : ln = (0 : Int32)) => ?_)
 refine own_aloadN (pc' := 9) w2 own_d0_8 rfl rfl rfl ?_
 refine own_ldcS (pc' := 11) w2 (vs := []) (z := (0 : Int32)) (nn := 0) (own_w18 hw) (own_hst hw) hEL ⟨by decide +kernel, by rfl⟩ (by decide) rfl own_d0_9 rfl (by decide +kernel) (by decide) (by decide) (by decide) hE fun T3 h5 a7 t8 kb9 w4 E6 ⟨E_a7, F_a7_coder, F_a7_value, A_t8, ne10⟩ => ?_
 replace E_a1 := E_a1.ext E6
 replace F_a1_value := F_a1_value.ext E6
 replace F_a1_coder := F_a1_coder.ext E6
 replace K := K.ext E6
 have ne_a1_a7 : a1 ≠ a7 := (ne10 a1 (by simp)).1
 have ne_a1_t8 : a1 ≠ t8 := (ne10 a1 (by simp)).2
 refine own_getF (pc' := 14) w4 (host := "") (Or.inl (own_w24 hw)) Via.refl F_a7_value own_d0_11 rfl fun T11 w12 => ?_
 refine own_putF (pc' := 17) w12 (host := "") (Or.inl (own_w24 hw)) Via.refl (by simp) F_a1_value E_a1 (Or.inr ⟨(own_w20 hw), rfl, rfl⟩) (own_w6 hw) (ty := (.array .byte)) (by decide) rfl rfl own_d0_14 rfl fun T13 h15 w14 W16 => ?_
 replace F_a1_value := F_a1_value.same W16
 replace E_a1 := E_a1.wr W16
 replace F_a1_coder := F_a1_coder.other W16 (Or.inr (slot_ne (Or.inr (own_w21 hw)) (Or.inr (own_w20 hw)) (by decide) (t := .byte) (t' := (.array .byte)) (by decide) (by decide)))
 replace E_a7 := E_a7.wr W16
 replace F_a7_coder := F_a7_coder.other W16 (Or.inl (Ne.symm ne_a1_a7))
 replace F_a7_value := F_a7_value.other W16 (Or.inl (Ne.symm ne_a1_a7))
 replace A_t8 := A_t8.other W16 (Ne.symm ne_a1_t8)
 replace K := K.wr W16 (Or.inl (by simp))
 refine own_aloadN (pc' := 18) w14 own_d0_17 rfl rfl rfl ?_
 refine own_ldcS (pc' := 20) w14 (vs := []) (z := (0 : Int32)) (nn := 0) (own_w18 hw) (own_hst hw) hEL ⟨by decide +kernel, by rfl⟩ (by decide) rfl own_d0_18 rfl (by decide +kernel) (by decide) (by decide) (by decide) hE fun T17 h19 a21 t22 kb23 w18 E20 ⟨E_a21, F_a21_coder, F_a21_value, A_t22, ne24⟩ => ?_
 replace E_a1 := E_a1.ext E20
 replace F_a1_value := F_a1_value.ext E20
 replace F_a1_coder := F_a1_coder.ext E20
 replace E_a7 := E_a7.ext E20
 replace F_a7_coder := F_a7_coder.ext E20
 replace F_a7_value := F_a7_value.ext E20
 replace A_t8 := A_t8.ext E20
 replace K := K.ext E20
 have ne_a1_a21 : a1 ≠ a21 := (ne24 a1 (by simp)).1
 have ne_a1_t22 : a1 ≠ t22 := (ne24 a1 (by simp)).2
 refine own_getF (pc' := 23) w18 (host := "") (Or.inl (own_w25 hw)) Via.refl F_a21_coder own_d0_20 rfl fun T25 w26 => ?_
 refine own_putF (pc' := 26) w26 (host := "") (Or.inl (own_w25 hw)) Via.refl (by simp) F_a1_coder E_a1 (Or.inr ⟨(own_w21 hw), rfl, rfl⟩) (own_w6 hw) (ty := .byte) (by decide) rfl rfl own_d0_23 rfl fun T27 h29 w28 W30 => ?_
 replace F_a1_coder := F_a1_coder.same W30
 replace E_a1 := E_a1.wr W30
 replace F_a1_value := F_a1_value.other W30 (Or.inr (slot_ne (Or.inr (own_w20 hw)) (Or.inr (own_w21 hw)) (by decide) (t := (.array .byte)) (t' := .byte) (by decide) (by decide)))
 replace E_a7 := E_a7.wr W30
 replace F_a7_coder := F_a7_coder.other W30 (Or.inl (Ne.symm ne_a1_a7))
 replace F_a7_value := F_a7_value.other W30 (Or.inl (Ne.symm ne_a1_a7))
 replace A_t8 := A_t8.other W30 (Ne.symm ne_a1_t8)
 replace E_a21 := E_a21.wr W30
 replace F_a21_coder := F_a21_coder.other W30 (Or.inl (Ne.symm ne_a1_a21))
 replace F_a21_value := F_a21_value.other W30 (Or.inl (Ne.symm ne_a1_a21))
 replace A_t22 := A_t22.other W30 (Ne.symm ne_a1_t22)
 replace K := K.wr W30 (Or.inl (by simp))
 exact own_ret0 w28 rfl own_d0_26 (by decide) (by decide) (ms' := []) all0 ⟨K, t8, kb9, rfl, rfl, E_a1, F_a1_coder, F_a1_value, A_t8, ne_a1_t8⟩
theorem own_d1_0 : decode jdk_42_method_3_code 0 = .ok (.aload_n 0, 1) := by decide +kernel
theorem own_d1_1 : decode jdk_42_method_3_code 1 = .ok (.aload_n 1, 1) := by decide +kernel
theorem own_d1_2 : decode jdk_42_method_3_code 2 = .ok (.iconst 0, 1) := by decide +kernel
theorem own_d1_3 : decode jdk_42_method_3_code 3 = .ok (.aload_n 1, 1) := by decide +kernel
theorem own_d1_4 : decode jdk_42_method_3_code 4 = .ok (.arraylength, 1) := by decide +kernel
theorem own_d1_5 : decode jdk_42_method_3_code 5 = .ok (.aconst_null, 1) := by decide +kernel
theorem own_d1_6 : decode jdk_42_method_3_code 6 = .ok (.invokespecial 27, 3) := by decide +kernel
theorem own_w14 {Z : State} {a0 : Array Value} (hw : ∀ d ∈ tables_1, d.before a0 Z = true) : ((Jvm.Cond.code ({ cls := "java/lang/String", name := "<init>", desc := "([CIILjava/lang/Void;)V" } : Jvm.MethodName) jdk_42_method_149_code (6 : Nat) (Option.none : Option Jvm.ClassFile.FieldType)) : Jvm.Cond).before a0 Z = true := hw _ (List.mem_of_getElem? (i := 14) rfl)
theorem own_w7 {Z : State} {a0 : Array Value} (hw : ∀ d ∈ tables_1, d.before a0 Z = true) : ((Jvm.Cond.initialized "java/lang/String") : Jvm.Cond).before a0 Z = true := hw _ (List.mem_of_getElem? (i := 7) rfl)
theorem own_pd0 : parseMethodDescriptor "([CIILjava/lang/Void;)V" = some ⟨[(.array .char), .int, .int, (.object "java/lang/Void")], none⟩ := by decide +kernel
theorem own_w11 {Z : State} {a0 : Array Value} (hw : ∀ d ∈ tables_1, d.before a0 Z = true) : ((Jvm.Cond.methodLink "java/lang/String" (27 : Nat) ({ cls := "java/lang/String", name := "<init>", desc := "([CIILjava/lang/Void;)V" } : Jvm.MethodName)) : Jvm.Cond).before a0 Z = true := hw _ (List.mem_of_getElem? (i := 11) rfl)
theorem own_w12 {Z : State} {a0 : Array Value} (hw : ∀ d ∈ tables_1, d.before a0 Z = true) : ((Jvm.Cond.instanceMethod ({ cls := "java/lang/String", name := "<init>", desc := "([CIILjava/lang/Void;)V" } : Jvm.MethodName)) : Jvm.Cond).before a0 Z = true := hw _ (List.mem_of_getElem? (i := 12) rfl)
theorem own_d1_9 : decode jdk_42_method_3_code 9 = .ok (.return_, 1) := by decide +kernel
theorem own_ef_strE1 (m : MethodId) (a1 : Addr) (a2 : Addr) : entryFrame m #[(.ref a1), (.ref a2)] 2 = mkF m 0 #[.val (.ref a1), .val (.ref a2)] [] := by first | (simp [entryFrame, mkF, argsToLocals, Value.category]; done) | rfl
theorem own_pf1 : plainFor (⟨"java/lang/String", "<init>", "([C)V"⟩ : MethodName) = true := by first | exact plainFor_of_name (by first | (simp [plainName, overriddenIn]; done) | decide +kernel) | decide +kernel
def own_Q_strE1 (Z : State) (h0 : Heap) (a1 : Addr) (a2 : Addr) (u1 : Value) (u2 : Value) (kA : ClassId) (vs : List Value) (dv : Value) (v : Option Value) (h : Heap) (ms : List Addr) : Prop := (Keep h0 h [a1]) ∧ (∃ (t : Addr) (kb : ClassId), (ms = []) ∧ (v = none) ∧ (Exa Z h a1 "java/lang/String") ∧ (Fld Z h a1 "java/lang/String" "coder" "B" (.int 0)) ∧ (Fld Z h a1 "java/lang/String" "value" "[B" (.ref t)) ∧ (Arv Z h t kb .byte (0 : Int32) [] (.int 0)) ∧ (a1 ≠ t))
set_option maxRecDepth 65536 in
set_option maxHeartbeats 40000000 in
theorem own_ct_strE1 (l : Launch) (Z : State) (a0 : Array Value) (hw : ∀ d ∈ tables_1, d.before a0 Z = true) (EL : List (String × Nat)) (hE : EW Z a0 EL) (n0 : Nat) (ws : List Jvm.Cond) (h0 : Heap) (O : Old Z n0 h0) (a1 : Addr) (a2 : Addr) (u1 : Value) (u2 : Value) (kA : ClassId) (vs : List Value) (dv : Value) (E_a1 : Exa Z h0 a1 "java/lang/String") (F_a1_value : Fld Z h0 a1 "java/lang/String" "value" "[B" u1) (F_a1_coder : Fld Z h0 a1 "java/lang/String" "coder" "B" u2) (A_a2 : Arv Z h0 a2 kA .char (0 : Int32) vs dv) (hEL : ("java/lang/String", 7) ∈ EL) (hne : a2 ≠ a1) :
    own_Ct l Z EL n0 (⟨"java/lang/String", "<init>", "([C)V"⟩ : MethodName) jdk_42_method_3_code 2 none ws ({ frames := 2, cells := 4, slots := 8, locals := 29 } : Room) #[(.ref a1), (.ref a2)] h0 [a1] (own_Q_strE1 Z h0 a1 a2 u1 u2 kA vs dv) := by
 refine own_enter (a0 := a0) own_pf1 hE O fun p e s m below meth c T0 w0 => ?_
 rw [own_ef_strE1 m a1 a2]
 have K : Keep h0 h0 [a1] := Keep.refl _ _
 refine own_aloadN (pc' := 1) w0 own_d1_0 rfl rfl rfl ?_
 refine own_aloadN (pc' := 2) w0 own_d1_1 rfl rfl rfl ?_
 refine own_iconst (pc' := 3) w0 own_d1_2 (x := (0 : Int32)) rfl rfl ?_
 refine own_aloadN (pc' := 4) w0 own_d1_3 rfl rfl rfl ?_
 refine own_len (pc' := 5) w0 A_a2 own_d1_4 rfl ?_
 refine own_aconstNull (pc' := 6) w0 own_d1_5 rfl ?_
 refine own_callI (pc' := 9) w0 rfl (own_w11 hw) (own_w12 hw) (own_w7 hw) (own_w14 hw) (by decide) (own_ct_strE4 l Z a0 hw EL hE n0 [] h0 (own_old w0) a1 a2 (0 : Int32) (0 : Int32) u1 u2 E_a1 F_a1_value F_a1_coder (rfl) (hEL)) (allS (P := fun x => x ∈ _) (by simp) all0) (argsL := [(.ref a2), (.int (0 : Int32)), (.int (0 : Int32)), .null]) (rest := []) rfl rfl own_pd0 rfl own_d1_6 rfl (by decide) (W := 0) rfl (by decide) (by decide) (by decide) fun T1 h3 v4 ms5 w2 q6 => ?_
 obtain ⟨K9, t_7, kb_8, rfl, rfl, nw_E_a1, nw_F_a1_coder, nw_F_a1_value, nw_A_t_7, p6_strE4_0⟩ := q6
 replace A_a2 := A_a2.keep K9 (ninS hne nin0)
 replace K := K.trans K9 (allS (P := fun x => x ∈ ([a1] : List Addr) ∨ h0.size ≤ x) (Or.inl (by simp)) all0)
 have E_a1 := nw_E_a1; clear nw_E_a1
 have F_a1_coder := nw_F_a1_coder; clear nw_F_a1_coder
 have F_a1_value := nw_F_a1_value; clear nw_F_a1_value
 have A_t_7 := nw_A_t_7; clear nw_A_t_7
 show own_Go Z EL n0 p e below s _ _ _ (T1.setTop (mkF m 9 _ []))
 exact own_ret0 w2 rfl own_d1_9 (by decide) (by decide) (ms' := []) all0 ⟨K, t_7, kb_8, rfl, rfl, E_a1, F_a1_coder, F_a1_value, A_t_7, p6_strE4_0⟩
theorem own_d2_0 : decode jdk_42_method_151_code 0 = .ok (.aload_n 0, 1) := by decide +kernel
theorem own_d2_1 : decode jdk_42_method_151_code 1 = .ok (.invokespecial 1, 3) := by decide +kernel
theorem own_d2_4 : decode jdk_42_method_151_code 4 = .ok (.aload_n 0, 1) := by decide +kernel
theorem own_d2_5 : decode jdk_42_method_151_code 5 = .ok (.aload_n 1, 1) := by decide +kernel
theorem own_d2_6 : decode jdk_42_method_151_code 6 = .ok (.putfield 9, 3) := by decide +kernel
theorem own_d2_9 : decode jdk_42_method_151_code 9 = .ok (.aload_n 0, 1) := by decide +kernel
theorem own_d2_10 : decode jdk_42_method_151_code 10 = .ok (.iload_n 2, 1) := by decide +kernel
theorem own_d2_11 : decode jdk_42_method_151_code 11 = .ok (.putfield 15, 3) := by decide +kernel
theorem own_d2_14 : decode jdk_42_method_151_code 14 = .ok (.return_, 1) := by decide +kernel
theorem own_ef_strBB (m : MethodId) (a1 : Addr) (a2 : Addr) : entryFrame m #[(.ref a1), (.ref a2), (.int (0 : Int32))] 3 = mkF m 0 #[.val (.ref a1), .val (.ref a2), .val (.int (0 : Int32))] [] := by first | (simp [entryFrame, mkF, argsToLocals, Value.category]; done) | rfl
theorem own_pf2 : plainFor (⟨"java/lang/String", "<init>", "([BB)V"⟩ : MethodName) = true := by first | exact plainFor_of_name (by first | (simp [plainName, overriddenIn]; done) | decide +kernel) | decide +kernel
def own_Q_strBB (Z : State) (h0 : Heap) (a1 : Addr) (a2 : Addr) (u1 : Value) (u2 : Value) (v : Option Value) (h : Heap) (ms : List Addr) : Prop := (Keep h0 h [a1]) ∧ (ms = []) ∧ (v = none) ∧ (Exa Z h a1 "java/lang/String") ∧ (Fld Z h a1 "java/lang/String" "coder" "B" (.int 0)) ∧ (Fld Z h a1 "java/lang/String" "value" "[B" (.ref a2))
set_option maxRecDepth 65536 in
set_option maxHeartbeats 40000000 in
theorem own_ct_strBB (l : Launch) (Z : State) (a0 : Array Value) (hw : ∀ d ∈ tables_1, d.before a0 Z = true) (EL : List (String × Nat)) (hE : EW Z a0 EL) (n0 : Nat) (ws : List Jvm.Cond) (h0 : Heap) (O : Old Z n0 h0) (a1 : Addr) (a2 : Addr) (u1 : Value) (u2 : Value) (E_a1 : Exa Z h0 a1 "java/lang/String") (F_a1_value : Fld Z h0 a1 "java/lang/String" "value" "[B" u1) (F_a1_coder : Fld Z h0 a1 "java/lang/String" "coder" "B" u2) :
    own_Ct l Z EL n0 (⟨"java/lang/String", "<init>", "([BB)V"⟩ : MethodName) jdk_42_method_151_code 3 none ws ({ frames := 1, cells := 0, slots := 0, locals := 12 } : Room) #[(.ref a1), (.ref a2), (.int (0 : Int32))] h0 [a1] (own_Q_strBB Z h0 a1 a2 u1 u2) := by
 refine own_enter (a0 := a0) own_pf2 hE O fun p e s m below meth c T0 w0 => ?_
 rw [own_ef_strBB m a1 a2]
 have K : Keep h0 h0 [a1] := Keep.refl _ _
 refine own_aloadN (pc' := 1) w0 own_d2_0 rfl rfl rfl ?_
 refine own_initO (pc' := 4) w0 (own_w15 hw) (own_w16 hw) (own_w17 hw) rfl own_d2_1 rfl (by decide) (W := 0) (Nat.le_of_eq rfl) (by decide) fun T1 w2 => ?_
 refine own_aloadN (pc' := 5) w2 own_d2_4 rfl rfl rfl ?_
 refine own_aloadN (pc' := 6) w2 own_d2_5 rfl rfl rfl ?_
 refine own_putF (pc' := 9) w2 (host := "") (Or.inl (own_w24 hw)) Via.refl (by simp) F_a1_value E_a1 (Or.inr ⟨(own_w20 hw), rfl, rfl⟩) (own_w6 hw) (ty := (.array .byte)) (by decide) rfl rfl own_d2_6 rfl fun T3 h5 w4 W6 => ?_
 replace F_a1_value := F_a1_value.same W6
 replace E_a1 := E_a1.wr W6
 replace F_a1_coder := F_a1_coder.other W6 (Or.inr (slot_ne (Or.inr (own_w21 hw)) (Or.inr (own_w20 hw)) (by decide) (t := .byte) (t' := (.array .byte)) (by decide) (by decide)))
 replace K := K.wr W6 (Or.inl (by simp))
 refine own_aloadN (pc' := 10) w4 own_d2_9 rfl rfl rfl ?_
 refine own_iloadN (pc' := 11) w4 own_d2_10 rfl rfl ?_
 refine own_putF (pc' := 14) w4 (host := "") (Or.inl (own_w25 hw)) Via.refl (by simp) F_a1_coder E_a1 (Or.inr ⟨(own_w21 hw), rfl, rfl⟩) (own_w6 hw) (ty := .byte) (by decide) rfl rfl own_d2_11 rfl fun T7 h9 w8 W10 => ?_
 replace F_a1_coder := F_a1_coder.same W10
 replace E_a1 := E_a1.wr W10
 replace F_a1_value := F_a1_value.other W10 (Or.inr (slot_ne (Or.inr (own_w20 hw)) (Or.inr (own_w21 hw)) (by decide) (t := (.array .byte)) (t' := .byte) (by decide) (by decide)))
 replace K := K.wr W10 (Or.inl (by simp))
 exact own_ret0 w8 rfl own_d2_14 (by decide) (by decide) (ms' := []) all0 ⟨K, rfl, rfl, E_a1, F_a1_coder, F_a1_value⟩
theorem own_d3_0 : decode jdk_65_method_131_code 0 = .ok (.iload_n 1, 1) := by decide +kernel
theorem own_d3_1 : decode jdk_65_method_131_code 1 = .ok (.iload_n 0, 1) := by decide +kernel
theorem own_d3_2 : decode jdk_65_method_131_code 2 = .ok (.if_icmp .ge 35, 3) := by decide +kernel
theorem own_d3_37 : decode jdk_65_method_131_code 37 = .ok (.return_, 1) := by decide +kernel
theorem own_ef_ckLen (m : MethodId) (bI : Int32) (eI : Int32) : entryFrame m #[(.int bI), (.int eI)] 2 = mkF m 0 #[.val (.int bI), .val (.int eI)] [] := by first | (simp [entryFrame, mkF, argsToLocals, Value.category]; done) | rfl
theorem own_pf3 : plainFor (⟨"java/util/Arrays", "checkLength", "(II)V"⟩ : MethodName) = true := by first | exact plainFor_of_name (by first | (simp [plainName, overriddenIn]; done) | decide +kernel) | decide +kernel
def own_Q_ckLen (Z : State) (h0 : Heap) (bI : Int32) (eI : Int32) (v : Option Value) (h : Heap) (ms : List Addr) : Prop := (h0 = h) ∧ (ms = []) ∧ (v = none)
set_option maxRecDepth 65536 in
set_option maxHeartbeats 40000000 in
theorem own_ct_ckLen (l : Launch) (Z : State) (a0 : Array Value) (hw : ∀ d ∈ tables_1, d.before a0 Z = true) (EL : List (String × Nat)) (hE : EW Z a0 EL) (n0 : Nat) (ws : List Jvm.Cond) (h0 : Heap) (O : Old Z n0 h0) (bI : Int32) (eI : Int32) (hbe : ¬ eI < bI) :
    own_Ct l Z EL n0 (⟨"java/util/Arrays", "checkLength", "(II)V"⟩ : MethodName) jdk_65_method_131_code 2 none ws ({ frames := 0, cells := 0, slots := 0, locals := 0 } : Room) #[(.int bI), (.int eI)] h0 [] (own_Q_ckLen Z h0 bI eI) := by
 refine own_enter (a0 := a0) own_pf3 hE O fun p e s m below meth c T0 w0 => ?_
 rw [own_ef_ckLen m bI eI]
 refine own_iloadN (pc' := 1) w0 own_d3_0 rfl rfl ?_
 refine own_iloadN (pc' := 2) w0 own_d3_1 rfl rfl ?_
 refine own_icmp (pc' := 5) w0 own_d3_2 rfl (by decide) (pcY := 37) rfl (fun (hb2 : ¬ eI < bI) => ?_) (fun (hb2 : eI < bI) => absurd hb2 hbe)
 exact own_ret0 w0 rfl own_d3_37 (by decide) (by decide) (ms' := []) all0 ⟨rfl, rfl, rfl⟩
theorem own_d4_0 : decode jdk_29_method_69_code 0 = .ok (.iload_n 0, 1) := by decide +kernel
theorem own_d4_1 : decode jdk_29_method_69_code 1 = .ok (.iload_n 1, 1) := by decide +kernel
theorem own_d4_2 : decode jdk_29_method_69_code 2 = .ok (.if_icmp .gt 7, 3) := by decide +kernel
theorem own_d4_9 : decode jdk_29_method_69_code 9 = .ok (.iload_n 1, 1) := by decide +kernel
theorem own_d4_10 : decode jdk_29_method_69_code 10 = .ok (.ireturn, 1) := by decide +kernel
theorem own_d4_5 : decode jdk_29_method_69_code 5 = .ok (.iload_n 0, 1) := by decide +kernel
theorem own_d4_6 : decode jdk_29_method_69_code 6 = .ok (.goto 4, 3) := by decide +kernel
theorem own_ef_minR (m : MethodId) (xx : Int32) (yy : Int32) : entryFrame m #[(.int xx), (.int yy)] 2 = mkF m 0 #[.val (.int xx), .val (.int yy)] [] := by first | (simp [entryFrame, mkF, argsToLocals, Value.category]; done) | rfl
theorem own_pf4 : plainFor (⟨"java/lang/Math", "min", "(II)I"⟩ : MethodName) = true := by first | exact plainFor_of_name (by first | (simp [plainName, overriddenIn]; done) | decide +kernel) | decide +kernel
def own_Q_minR (Z : State) (h0 : Heap) (xx : Int32) (yy : Int32) (v : Option Value) (h : Heap) (ms : List Addr) : Prop := (h0 = h) ∧ (ms = []) ∧ (v = some (.int yy))
set_option maxRecDepth 65536 in
set_option maxHeartbeats 40000000 in
theorem own_ct_minR (l : Launch) (Z : State) (a0 : Array Value) (hw : ∀ d ∈ tables_1, d.before a0 Z = true) (EL : List (String × Nat)) (hE : EW Z a0 EL) (n0 : Nat) (ws : List Jvm.Cond) (h0 : Heap) (O : Old Z n0 h0) (xx : Int32) (yy : Int32) (hxy : ¬ xx < yy) :
    own_Ct l Z EL n0 (⟨"java/lang/Math", "min", "(II)I"⟩ : MethodName) jdk_29_method_69_code 2 (some .int) ws ({ frames := 0, cells := 0, slots := 0, locals := 0 } : Room) #[(.int xx), (.int yy)] h0 [] (own_Q_minR Z h0 xx yy) := by
 refine own_enter (a0 := a0) own_pf4 hE O fun p e s m below meth c T0 w0 => ?_
 rw [own_ef_minR m xx yy]
 refine own_iloadN (pc' := 1) w0 own_d4_0 rfl rfl ?_
 refine own_iloadN (pc' := 2) w0 own_d4_1 rfl rfl ?_
 refine own_icmp (pc' := 5) w0 own_d4_2 rfl (by decide) (pcY := 9) rfl (fun (hb2 : yy < xx) => ?_) (fun (hb2 : ¬ yy < xx) => ?_)
 ·
  refine own_iloadN (pc' := 10) w0 own_d4_9 rfl rfl ?_
  exact own_retV w0 (t := .int) rfl rfl (Or.inl ⟨rfl, by simp, _, rfl⟩) own_d4_10 (by decide) (by decide) (ms' := []) all0 ⟨rfl, rfl, rfl⟩
 ·
  refine own_iloadN (pc' := 6) w0 own_d4_5 rfl rfl ?_
  refine own_goto w0 own_d4_6 (by decide) (pc' := 10) rfl ?_
  exact own_retV w0 (t := .int) rfl rfl (Or.inl ⟨rfl, by simp, _, rfl⟩) own_d4_10 (by decide) (by decide) (ms' := []) all0 ⟨rfl, rfl, (by rw [own_ai hxy hb2])⟩
theorem own_d5_0 : decode jdk_65_method_133_code 0 = .ok (.iload_n 1, 1) := by decide +kernel
theorem own_d5_1 : decode jdk_65_method_133_code 1 = .ok (.iload_n 2, 1) := by decide +kernel
theorem own_d5_2 : decode jdk_65_method_133_code 2 = .ok (.invokestatic 343, 3) := by decide +kernel
theorem own_w112 {Z : State} {a0 : Array Value} (hw : ∀ d ∈ tables_1, d.before a0 Z = true) : ((Jvm.Cond.code ({ cls := "java/util/Arrays", name := "checkLength", desc := "(II)V" } : Jvm.MethodName) jdk_65_method_131_code (2 : Nat) (Option.none : Option Jvm.ClassFile.FieldType)) : Jvm.Cond).before a0 Z = true := hw _ (List.mem_of_getElem? (i := 112) rfl)
theorem own_w105 {Z : State} {a0 : Array Value} (hw : ∀ d ∈ tables_1, d.before a0 Z = true) : ((Jvm.Cond.initialized "java/util/Arrays") : Jvm.Cond).before a0 Z = true := hw _ (List.mem_of_getElem? (i := 105) rfl)
theorem own_pd1 : parseMethodDescriptor "(II)V" = some ⟨[.int, .int], none⟩ := by decide +kernel
theorem own_w110 {Z : State} {a0 : Array Value} (hw : ∀ d ∈ tables_1, d.before a0 Z = true) : ((Jvm.Cond.methodLink "java/util/Arrays" (343 : Nat) ({ cls := "java/util/Arrays", name := "checkLength", desc := "(II)V" } : Jvm.MethodName)) : Jvm.Cond).before a0 Z = true := hw _ (List.mem_of_getElem? (i := 110) rfl)
theorem own_w111 {Z : State} {a0 : Array Value} (hw : ∀ d ∈ tables_1, d.before a0 Z = true) : ((Jvm.Cond.static ({ cls := "java/util/Arrays", name := "checkLength", desc := "(II)V" } : Jvm.MethodName)) : Jvm.Cond).before a0 Z = true := hw _ (List.mem_of_getElem? (i := 111) rfl)
theorem own_d5_5 : decode jdk_65_method_133_code 5 = .ok (.iload_n 2, 1) := by decide +kernel
theorem own_d5_6 : decode jdk_65_method_133_code 6 = .ok (.iload_n 1, 1) := by decide +kernel
theorem own_d5_7 : decode jdk_65_method_133_code 7 = .ok (.isub, 1) := by decide +kernel
theorem own_d5_8 : decode jdk_65_method_133_code 8 = .ok (.istore_n 3, 1) := by decide +kernel
theorem own_d5_9 : decode jdk_65_method_133_code 9 = .ok (.iload_n 3, 1) := by decide +kernel
theorem own_d5_10 : decode jdk_65_method_133_code 10 = .ok (.newarray .byte, 2) := by decide +kernel
theorem own_w19 {Z : State} {a0 : Array Value} (hw : ∀ d ∈ tables_1, d.before a0 Z = true) : ((Jvm.Cond.arrayClass Jvm.ClassFile.FieldType.byte) : Jvm.Cond).before a0 Z = true := hw _ (List.mem_of_getElem? (i := 19) rfl)
theorem own_d5_12 : decode jdk_65_method_133_code 12 = .ok (.astore 4, 2) := by decide +kernel
theorem own_d5_14 : decode jdk_65_method_133_code 14 = .ok (.aload_n 0, 1) := by decide +kernel
theorem own_d5_15 : decode jdk_65_method_133_code 15 = .ok (.iload_n 1, 1) := by decide +kernel
theorem own_d5_16 : decode jdk_65_method_133_code 16 = .ok (.aload 4, 2) := by decide +kernel
theorem own_d5_18 : decode jdk_65_method_133_code 18 = .ok (.iconst 0, 1) := by decide +kernel
theorem own_d5_19 : decode jdk_65_method_133_code 19 = .ok (.aload_n 0, 1) := by decide +kernel
theorem own_d5_20 : decode jdk_65_method_133_code 20 = .ok (.arraylength, 1) := by decide +kernel
theorem own_d5_21 : decode jdk_65_method_133_code 21 = .ok (.iload_n 1, 1) := by decide +kernel
theorem own_d5_22 : decode jdk_65_method_133_code 22 = .ok (.isub, 1) := by decide +kernel
theorem own_d5_23 : decode jdk_65_method_133_code 23 = .ok (.iload_n 3, 1) := by decide +kernel
theorem own_d5_24 : decode jdk_65_method_133_code 24 = .ok (.invokestatic 304, 3) := by decide +kernel
theorem own_w3 {Z : State} {a0 : Array Value} (hw : ∀ d ∈ tables_1, d.before a0 Z = true) : ((Jvm.Cond.code ({ cls := "java/lang/Math", name := "min", desc := "(II)I" } : Jvm.MethodName) jdk_29_method_69_code (2 : Nat) (Option.some Jvm.ClassFile.FieldType.int)) : Jvm.Cond).before a0 Z = true := hw _ (List.mem_of_getElem? (i := 3) rfl)
theorem own_w2 {Z : State} {a0 : Array Value} (hw : ∀ d ∈ tables_1, d.before a0 Z = true) : ((Jvm.Cond.initialized "java/lang/Math") : Jvm.Cond).before a0 Z = true := hw _ (List.mem_of_getElem? (i := 2) rfl)
theorem own_pd2 : parseMethodDescriptor "(II)I" = some ⟨[.int, .int], some .int⟩ := by decide +kernel
theorem own_w113 {Z : State} {a0 : Array Value} (hw : ∀ d ∈ tables_1, d.before a0 Z = true) : ((Jvm.Cond.methodLink "java/util/Arrays" (304 : Nat) ({ cls := "java/lang/Math", name := "min", desc := "(II)I" } : Jvm.MethodName)) : Jvm.Cond).before a0 Z = true := hw _ (List.mem_of_getElem? (i := 113) rfl)
theorem own_w1 {Z : State} {a0 : Array Value} (hw : ∀ d ∈ tables_1, d.before a0 Z = true) : ((Jvm.Cond.static ({ cls := "java/lang/Math", name := "min", desc := "(II)I" } : Jvm.MethodName)) : Jvm.Cond).before a0 Z = true := hw _ (List.mem_of_getElem? (i := 1) rfl)
theorem own_d5_27 : decode jdk_65_method_133_code 27 = .ok (.invokestatic 150, 3) := by decide +kernel
theorem own_w114 {Z : State} {a0 : Array Value} (hw : ∀ d ∈ tables_1, d.before a0 Z = true) : ((Jvm.Cond.methodLink "java/util/Arrays" (150 : Nat) ({ cls := "java/lang/System", name := "arraycopy", desc := "(Ljava/lang/Object;ILjava/lang/Object;II)V" } : Jvm.MethodName)) : Jvm.Cond).before a0 Z = true := hw _ (List.mem_of_getElem? (i := 114) rfl)
theorem own_w117 {Z : State} {a0 : Array Value} (hw : ∀ d ∈ tables_1, d.before a0 Z = true) : ((Jvm.Cond.native ({ cls := "java/lang/System", name := "arraycopy", desc := "(Ljava/lang/Object;ILjava/lang/Object;II)V" } : Jvm.MethodName)) : Jvm.Cond).before a0 Z = true := hw _ (List.mem_of_getElem? (i := 117) rfl)
theorem own_w115 {Z : State} {a0 : Array Value} (hw : ∀ d ∈ tables_1, d.before a0 Z = true) : ((Jvm.Cond.static ({ cls := "java/lang/System", name := "arraycopy", desc := "(Ljava/lang/Object;ILjava/lang/Object;II)V" } : Jvm.MethodName)) : Jvm.Cond).before a0 Z = true := hw _ (List.mem_of_getElem? (i := 115) rfl)
theorem own_w116 {Z : State} {a0 : Array Value} (hw : ∀ d ∈ tables_1, d.before a0 Z = true) : ((Jvm.Cond.initialized "java/lang/System") : Jvm.Cond).before a0 Z = true := hw _ (List.mem_of_getElem? (i := 116) rfl)
theorem own_d5_30 : decode jdk_65_method_133_code 30 = .ok (.aload 4, 2) := by decide +kernel
theorem own_d5_32 : decode jdk_65_method_133_code 32 = .ok (.areturn, 1) := by decide +kernel
theorem own_ef_corB (m : MethodId) (ar : Addr) (bI : Int32) (eI : Int32) : entryFrame m #[(.ref ar), (.int bI), (.int eI)] 5 = mkF m 0 #[.val (.ref ar), .val (.int bI), .val (.int eI), .unset, .unset] [] := by first | (simp [entryFrame, mkF, argsToLocals, Value.category]; done) | rfl
theorem own_pf5 : plainFor (⟨"java/util/Arrays", "copyOfRangeByte", "([BII)[B"⟩ : MethodName) = true := by first | exact plainFor_of_name (by first | (simp [plainName, overriddenIn]; done) | decide +kernel) | decide +kernel
def own_Q_corB (Z : State) (h0 : Heap) (ar : Addr) (bI : Int32) (eI : Int32) (kb : ClassId) (N : Int32) (vs : List Value) (dI : Int32) (b : Nat) (d : Nat) (v : Option Value) (h : Heap) (ms : List Addr) : Prop := (Keep h0 h []) ∧ (∃ (r : Addr) (kA : ClassId), (ms = [r]) ∧ (v = some (.ref r)) ∧ (Arv Z h r kA .byte dI (own_sl vs b d) (.int 0)) ∧ (h0.size ≤ r))
set_option maxRecDepth 65536 in
set_option maxHeartbeats 40000000 in
theorem own_ct_corB (l : Launch) (Z : State) (a0 : Array Value) (hw : ∀ d ∈ tables_1, d.before a0 Z = true) (EL : List (String × Nat)) (hE : EW Z a0 EL) (n0 : Nat) (ws : List Jvm.Cond) (h0 : Heap) (O : Old Z n0 h0) (ar : Addr) (bI : Int32) (eI : Int32) (kb : ClassId) (N : Int32) (vs : List Value) (dI : Int32) (b : Nat) (d : Nat) (A_ar : Arv Z h0 ar kb .byte N vs (.int 0)) (Rg : own_Rg bI eI dI N b d) (hcap : d ≤ 5) :
    own_Ct l Z EL n0 (⟨"java/util/Arrays", "copyOfRangeByte", "([BII)[B"⟩ : MethodName) jdk_65_method_133_code 5 (some (.array .byte)) ws ({ frames := 1, cells := 1, slots := 5, locals := 18 } : Room) #[(.ref ar), (.int bI), (.int eI)] h0 [] (own_Q_corB Z h0 ar bI eI kb N vs dI b d) := by
 refine own_enter (a0 := a0) own_pf5 hE O fun p e s m below meth c T0 w0 => ?_
 rw [own_ef_corB m ar bI eI]
 have K : Keep h0 h0 [] := Keep.refl _ _
 refine own_iloadN (pc' := 1) w0 own_d5_0 rfl rfl ?_
 refine own_iloadN (pc' := 2) w0 own_d5_1 rfl rfl ?_
 refine own_callS (pc' := 5) w0 (own_w110 hw) (own_w111 hw) (own_w105 hw) (own_w112 hw) (by decide) (own_ct_ckLen l Z a0 hw EL hE n0 [] h0 (own_old w0) bI eI (Rg.2.2.2.2.2.2.2.1)) all0 (argsL := [(.int bI), (.int eI)]) (rest := []) rfl rfl own_pd1 rfl own_d5_2 rfl (by decide) (W := 0) rfl (by decide) (by decide) (by decide) fun T1 h3 v4 ms5 w2 q6 => ?_
 obtain ⟨rfl, rfl, rfl⟩ := q6
 show own_Go Z EL n0 p e below s _ _ _ (T1.setTop (mkF m 5 _ []))
 refine own_iloadN (pc' := 6) w2 own_d5_5 rfl rfl ?_
 refine own_iloadN (pc' := 7) w2 own_d5_6 rfl rfl ?_
 refine own_isub (pc' := 8) w2 own_d5_7 (z := dI) Rg.2.2.1 rfl ?_
 refine own_istoreN (pc' := 9) w2 own_d5_8 (Ls' := #[.val (.ref ar), .val (.int bI), .val (.int eI), .val (.int dI), .unset]) rfl rfl ?_
 refine own_iloadN (pc' := 10) w2 own_d5_9 rfl rfl ?_
 refine own_newP (pc' := 12) w2 (aty := .byte) (z := dI) (vs := (List.replicate d (.int 0))) (dv := (.int 0)) (cap := 5) (own_w19 hw) own_d5_10 rfl Rg.2.1 (by rw [Rg.2.2.2.2.2.1]; exact hcap) (by decide) rfl (own_rep d (.int 0)) (by decide) (by decide) fun T7 h9 a11 g_a11 w8 E10 ⟨k_a11, A_a11⟩ => ?_
 have ne_ar_a11 : ar ≠ a11 := Nat.ne_of_lt (Nat.lt_of_lt_of_le A_ar.lt (Nat.le_of_eq g_a11))
 have nw_a11 : h0.size ≤ a11 := Nat.le_trans K.1 (Nat.le_of_eq g_a11)
 replace A_ar := A_ar.ext E10
 replace K := K.ext E10
 refine own_astore (pc' := 14) w8 own_d5_12 rfl (Ls' := #[.val (.ref ar), .val (.int bI), .val (.int eI), .val (.int dI), .val (.ref a11)]) rfl rfl ?_
 refine own_aloadN (pc' := 15) w8 own_d5_14 rfl rfl rfl ?_
 refine own_iloadN (pc' := 16) w8 own_d5_15 rfl rfl ?_
 refine own_aload (pc' := 18) w8 own_d5_16 rfl rfl rfl ?_
 refine own_iconst (pc' := 19) w8 own_d5_18 (x := (0 : Int32)) rfl rfl ?_
 refine own_aloadN (pc' := 20) w8 own_d5_19 rfl rfl rfl ?_
 refine own_len (pc' := 21) w8 A_ar own_d5_20 rfl ?_
 refine own_iloadN (pc' := 22) w8 own_d5_21 rfl rfl ?_
 refine own_isub (pc' := 23) w8 own_d5_22 (z := (N - bI)) rfl rfl ?_
 refine own_iloadN (pc' := 24) w8 own_d5_23 rfl rfl ?_
 refine own_callS (pc' := 27) w8 (own_w113 hw) (own_w1 hw) (own_w2 hw) (own_w3 hw) (by decide) (own_ct_minR l Z a0 hw EL hE n0 [] h9 (own_old w8) (N - bI) dI (Rg.2.2.2.2.2.2.2.2.2)) all0 (argsL := [(.int (N - bI)), (.int dI)]) (rest := [(.int (0 : Int32)), (.ref a11), (.int bI), (.ref ar)]) rfl rfl own_pd2 rfl own_d5_24 rfl (by decide) (W := 4) rfl (by decide) (by decide) (by decide) fun T12 h14 v15 ms16 w13 q17 => ?_
 obtain ⟨rfl, rfl, rfl⟩ := q17
 show own_Go Z EL n0 p e below s _ _ _ (T12.setTop (mkF m 27 _ [(.int dI), (.int (0 : Int32)), (.ref a11), (.int bI), (.ref ar)]))
 refine own_acopy (pc' := 30) w13 (us := (own_sl vs b d)) (vs' := (own_sl vs b d)) (own_w114 hw) (own_w117 hw) (own_w115 hw) (own_w116 hw) (by simp) A_ar A_a11 rfl Rg.1 (by decide) Rg.2.1 (own_cp4 Rg.2.2.2.2.1 Rg.2.2.2.2.2.1 Rg.2.2.2.2.2.2.1) own_cp5 (own_cpu Rg.2.2.2.2.1 Rg.2.2.2.2.2.1 vs) (own_cpl Rg.2.2.2.2.2.1 _) (own_cpv Rg.2.2.2.2.2.1 _ _) rfl own_d5_27 rfl (by decide) (W := 0) (Nat.le_of_eq rfl) (by decide) fun T18 h20 w19 K21 A_new => ?_
 clear A_a11
 replace A_ar := A_ar.keep K21 (ninS ne_ar_a11 nin0)
 replace K := K.trans K21 (allS (P := fun x => x ∈ ([] : List Addr) ∨ h0.size ≤ x) (Or.inr nw_a11) all0)
 have A_a11 := A_new; clear A_new
 show own_Go Z EL n0 p e below s _ _ _ (T18.setTop (mkF m 30 _ []))
 refine own_aload (pc' := 32) w19 own_d5_30 rfl rfl rfl ?_
 exact own_retV w19 (t := (.array .byte)) rfl (own_narR rfl rfl) (Or.inr (Or.inr (Or.inr (Or.inr ⟨rfl, rfl, rfl⟩)))) own_d5_32 (by decide) (by decide) (ms' := [a11]) (allS (P := fun x => x ∈ _) (by simp) all0) ⟨K, a11, k_a11, rfl, rfl, A_a11, nw_a11⟩
theorem own_d6_0 : decode jdk_65_method_132_code 0 = .ok (.iload_n 1, 1) := by decide +kernel
theorem own_d6_1 : decode jdk_65_method_132_code 1 = .ok (.ifCond .ne 9, 3) := by decide +kernel
theorem own_d6_10 : decode jdk_65_method_132_code 10 = .ok (.aload_n 0, 1) := by decide +kernel
theorem own_d6_11 : decode jdk_65_method_132_code 11 = .ok (.iload_n 1, 1) := by decide +kernel
theorem own_d6_12 : decode jdk_65_method_132_code 12 = .ok (.iload_n 2, 1) := by decide +kernel
theorem own_d6_13 : decode jdk_65_method_132_code 13 = .ok (.invokestatic 339, 3) := by decide +kernel
theorem own_w109 {Z : State} {a0 : Array Value} (hw : ∀ d ∈ tables_1, d.before a0 Z = true) : ((Jvm.Cond.code ({ cls := "java/util/Arrays", name := "copyOfRangeByte", desc := "([BII)[B" } : Jvm.MethodName) jdk_65_method_133_code (5 : Nat) (Option.some (Jvm.ClassFile.FieldType.array Jvm.ClassFile.FieldType.byte))) : Jvm.Cond).before a0 Z = true := hw _ (List.mem_of_getElem? (i := 109) rfl)
theorem own_pd3 : parseMethodDescriptor "([BII)[B" = some ⟨[(.array .byte), .int, .int], some (.array .byte)⟩ := by decide +kernel
theorem own_w107 {Z : State} {a0 : Array Value} (hw : ∀ d ∈ tables_1, d.before a0 Z = true) : ((Jvm.Cond.methodLink "java/util/Arrays" (339 : Nat) ({ cls := "java/util/Arrays", name := "copyOfRangeByte", desc := "([BII)[B" } : Jvm.MethodName)) : Jvm.Cond).before a0 Z = true := hw _ (List.mem_of_getElem? (i := 107) rfl)
theorem own_w108 {Z : State} {a0 : Array Value} (hw : ∀ d ∈ tables_1, d.before a0 Z = true) : ((Jvm.Cond.static ({ cls := "java/util/Arrays", name := "copyOfRangeByte", desc := "([BII)[B" } : Jvm.MethodName)) : Jvm.Cond).before a0 Z = true := hw _ (List.mem_of_getElem? (i := 108) rfl)
theorem own_d6_16 : decode jdk_65_method_132_code 16 = .ok (.areturn, 1) := by decide +kernel
theorem own_d6_4 : decode jdk_65_method_132_code 4 = .ok (.iload_n 2, 1) := by decide +kernel
theorem own_d6_5 : decode jdk_65_method_132_code 5 = .ok (.aload_n 0, 1) := by decide +kernel
theorem own_d6_6 : decode jdk_65_method_132_code 6 = .ok (.arraylength, 1) := by decide +kernel
theorem own_d6_7 : decode jdk_65_method_132_code 7 = .ok (.if_icmp .eq 10, 3) := by decide +kernel
theorem own_ef_cor (m : MethodId) (ar : Addr) (bI : Int32) (eI : Int32) : entryFrame m #[(.ref ar), (.int bI), (.int eI)] 3 = mkF m 0 #[.val (.ref ar), .val (.int bI), .val (.int eI)] [] := by first | (simp [entryFrame, mkF, argsToLocals, Value.category]; done) | rfl
theorem own_pf6 : plainFor (⟨"java/util/Arrays", "copyOfRange", "([BII)[B"⟩ : MethodName) = true := by first | exact plainFor_of_name (by first | (simp [plainName, overriddenIn]; done) | decide +kernel) | decide +kernel
def own_Q_cor (Z : State) (h0 : Heap) (ar : Addr) (bI : Int32) (eI : Int32) (kb : ClassId) (N : Int32) (vs : List Value) (dI : Int32) (b : Nat) (d : Nat) (v : Option Value) (h : Heap) (ms : List Addr) : Prop := (Keep h0 h []) ∧ (∃ (r : Addr) (kA : ClassId), (ms = [r]) ∧ (v = some (.ref r)) ∧ (Arv Z h r kA .byte dI (own_sl vs b d) (.int 0)) ∧ (h0.size ≤ r))
set_option maxRecDepth 65536 in
set_option maxHeartbeats 40000000 in
theorem own_ct_cor (l : Launch) (Z : State) (a0 : Array Value) (hw : ∀ d ∈ tables_1, d.before a0 Z = true) (EL : List (String × Nat)) (hE : EW Z a0 EL) (n0 : Nat) (ws : List Jvm.Cond) (h0 : Heap) (O : Old Z n0 h0) (ar : Addr) (bI : Int32) (eI : Int32) (kb : ClassId) (N : Int32) (vs : List Value) (dI : Int32) (b : Nat) (d : Nat) (A_ar : Arv Z h0 ar kb .byte N vs (.int 0)) (Rg : own_Rg bI eI dI N b d) (hcap : d ≤ 5) (hnw : ¬ (bI = 0 ∧ eI = N)) :
    own_Ct l Z EL n0 (⟨"java/util/Arrays", "copyOfRange", "([BII)[B"⟩ : MethodName) jdk_65_method_132_code 3 (some (.array .byte)) ws ({ frames := 2, cells := 1, slots := 5, locals := 34 } : Room) #[(.ref ar), (.int bI), (.int eI)] h0 [] (own_Q_cor Z h0 ar bI eI kb N vs dI b d) := by
 refine own_enter (a0 := a0) own_pf6 hE O fun p e s m below meth c T0 w0 => ?_
 rw [own_ef_cor m ar bI eI]
 have K : Keep h0 h0 [] := Keep.refl _ _
 refine own_iloadN (pc' := 1) w0 own_d6_0 rfl rfl ?_
 refine own_if (pc' := 4) w0 own_d6_1 rfl (by decide) (pcY := 10) rfl (fun (hb1 : ¬ bI = (0 : Int32)) => ?_) (fun (hb1 : bI = (0 : Int32)) => ?_)
 ·
  refine own_aloadN (pc' := 11) w0 own_d6_10 rfl rfl rfl ?_
  refine own_iloadN (pc' := 12) w0 own_d6_11 rfl rfl ?_
  refine own_iloadN (pc' := 13) w0 own_d6_12 rfl rfl ?_
  refine own_callS (pc' := 16) w0 (own_w107 hw) (own_w108 hw) (own_w105 hw) (own_w109 hw) (by decide) (own_ct_corB l Z a0 hw EL hE n0 [] h0 (own_old w0) ar bI eI kb N vs dI b d A_ar (Rg) (hcap)) all0 (argsL := [(.ref ar), (.int bI), (.int eI)]) (rest := []) rfl rfl own_pd3 rfl own_d6_13 rfl (by decide) (W := 0) rfl (by decide) (by decide) (by decide) fun T1 h3 v4 ms5 w2 q6 => ?_
  obtain ⟨K9, r_7, kA_8, rfl, rfl, nw_A_r_7, p13_corB_0⟩ := q6
  have ne_ar_r_7 : ar ≠ r_7 := Nat.ne_of_lt (Nat.lt_of_lt_of_le A_ar.lt p13_corB_0)
  have nw_r_7 : h0.size ≤ r_7 := Nat.le_trans K.1 p13_corB_0
  replace A_ar := A_ar.keep K9 nin0
  replace K := K.trans K9 all0
  have A_r_7 := nw_A_r_7; clear nw_A_r_7
  show own_Go Z EL n0 p e below s _ _ _ (T1.setTop (mkF m 16 _ [(.ref r_7)]))
  exact own_retV w2 (t := (.array .byte)) rfl (own_narR rfl rfl) (Or.inr (Or.inr (Or.inr (Or.inr ⟨rfl, rfl, rfl⟩)))) own_d6_16 (by decide) (by decide) (ms' := [r_7]) (allS (P := fun x => x ∈ _) (by simp) all0) ⟨K, r_7, kA_8, rfl, rfl, A_r_7, nw_r_7⟩
 ·
  refine own_iloadN (pc' := 5) w0 own_d6_4 rfl rfl ?_
  refine own_aloadN (pc' := 6) w0 own_d6_5 rfl rfl rfl ?_
  refine own_len (pc' := 7) w0 A_ar own_d6_6 rfl ?_
  refine own_icmp (pc' := 10) w0 own_d6_7 rfl (by decide) (pcY := 17) rfl (fun (hb7 : eI = N) => absurd ⟨hb1, hb7⟩ hnw) (fun (hb7 : ¬ eI = N) => ?_)
  refine own_aloadN (pc' := 11) w0 own_d6_10 rfl rfl rfl ?_
  refine own_iloadN (pc' := 12) w0 own_d6_11 rfl rfl ?_
  refine own_iloadN (pc' := 13) w0 own_d6_12 rfl rfl ?_
  refine own_callS (pc' := 16) w0 (own_w107 hw) (own_w108 hw) (own_w105 hw) (own_w109 hw) (by decide) (own_ct_corB l Z a0 hw EL hE n0 [] h0 (own_old w0) ar bI eI kb N vs dI b d A_ar (Rg) (hcap)) all0 (argsL := [(.ref ar), (.int bI), (.int eI)]) (rest := []) rfl rfl own_pd3 rfl own_d6_13 rfl (by decide) (W := 0) rfl (by decide) (by decide) (by decide) fun T10 h12 v13 ms14 w11 q15 => ?_
  obtain ⟨K18, r_16, kA_17, rfl, rfl, nw_A_r_16, p13_corB_0⟩ := q15
  have ne_ar_r_16 : ar ≠ r_16 := Nat.ne_of_lt (Nat.lt_of_lt_of_le A_ar.lt p13_corB_0)
  have nw_r_16 : h0.size ≤ r_16 := Nat.le_trans K.1 p13_corB_0
  replace A_ar := A_ar.keep K18 nin0
  replace K := K.trans K18 all0
  have A_r_16 := nw_A_r_16; clear nw_A_r_16
  show own_Go Z EL n0 p e below s _ _ _ (T10.setTop (mkF m 16 _ [(.ref r_16)]))
  exact own_retV w11 (t := (.array .byte)) rfl (own_narR rfl rfl) (Or.inr (Or.inr (Or.inr (Or.inr ⟨rfl, rfl, rfl⟩)))) own_d6_16 (by decide) (by decide) (ms' := [r_16]) (allS (P := fun x => x ∈ _) (by simp) all0) ⟨K, r_16, kA_17, rfl, rfl, A_r_16, nw_r_16⟩
theorem own_d7_0 : decode jdk_43_method_47_code 0 = .ok (.iload_n 2, 1) := by decide +kernel
theorem own_d7_1 : decode jdk_43_method_47_code 1 = .ok (.ifCond .ne 6, 3) := by decide +kernel
theorem own_d7_7 : decode jdk_43_method_47_code 7 = .ok (.new 1, 3) := by decide +kernel
theorem own_w102 {Z : State} {a0 : Array Value} (hw : ∀ d ∈ tables_1, d.before a0 Z = true) : ((Jvm.Cond.classLink "java/lang/StringLatin1" (1 : Nat) "java/lang/String") : Jvm.Cond).before a0 Z = true := hw _ (List.mem_of_getElem? (i := 102) rfl)
theorem own_d7_10 : decode jdk_43_method_47_code 10 = .ok (.dup, 1) := by decide +kernel
theorem own_d7_11 : decode jdk_43_method_47_code 11 = .ok (.aload_n 0, 1) := by decide +kernel
theorem own_d7_12 : decode jdk_43_method_47_code 12 = .ok (.iload_n 1, 1) := by decide +kernel
theorem own_d7_13 : decode jdk_43_method_47_code 13 = .ok (.iload_n 1, 1) := by decide +kernel
theorem own_d7_14 : decode jdk_43_method_47_code 14 = .ok (.iload_n 2, 1) := by decide +kernel
theorem own_d7_15 : decode jdk_43_method_47_code 15 = .ok (.iadd, 1) := by decide +kernel
theorem own_d7_16 : decode jdk_43_method_47_code 16 = .ok (.invokestatic 232, 3) := by decide +kernel
theorem own_w106 {Z : State} {a0 : Array Value} (hw : ∀ d ∈ tables_1, d.before a0 Z = true) : ((Jvm.Cond.code ({ cls := "java/util/Arrays", name := "copyOfRange", desc := "([BII)[B" } : Jvm.MethodName) jdk_65_method_132_code (3 : Nat) (Option.some (Jvm.ClassFile.FieldType.array Jvm.ClassFile.FieldType.byte))) : Jvm.Cond).before a0 Z = true := hw _ (List.mem_of_getElem? (i := 106) rfl)
theorem own_w103 {Z : State} {a0 : Array Value} (hw : ∀ d ∈ tables_1, d.before a0 Z = true) : ((Jvm.Cond.methodLink "java/lang/StringLatin1" (232 : Nat) ({ cls := "java/util/Arrays", name := "copyOfRange", desc := "([BII)[B" } : Jvm.MethodName)) : Jvm.Cond).before a0 Z = true := hw _ (List.mem_of_getElem? (i := 103) rfl)
theorem own_w104 {Z : State} {a0 : Array Value} (hw : ∀ d ∈ tables_1, d.before a0 Z = true) : ((Jvm.Cond.static ({ cls := "java/util/Arrays", name := "copyOfRange", desc := "([BII)[B" } : Jvm.MethodName)) : Jvm.Cond).before a0 Z = true := hw _ (List.mem_of_getElem? (i := 104) rfl)
theorem own_d7_19 : decode jdk_43_method_47_code 19 = .ok (.iconst 0, 1) := by decide +kernel
theorem own_d7_20 : decode jdk_43_method_47_code 20 = .ok (.invokespecial 112, 3) := by decide +kernel
theorem own_w120 {Z : State} {a0 : Array Value} (hw : ∀ d ∈ tables_1, d.before a0 Z = true) : ((Jvm.Cond.code ({ cls := "java/lang/String", name := "<init>", desc := "([BB)V" } : Jvm.MethodName) jdk_42_method_151_code (3 : Nat) (Option.none : Option Jvm.ClassFile.FieldType)) : Jvm.Cond).before a0 Z = true := hw _ (List.mem_of_getElem? (i := 120) rfl)
theorem own_pd4 : parseMethodDescriptor "([BB)V" = some ⟨[(.array .byte), .byte], none⟩ := by decide +kernel
theorem own_w118 {Z : State} {a0 : Array Value} (hw : ∀ d ∈ tables_1, d.before a0 Z = true) : ((Jvm.Cond.methodLink "java/lang/StringLatin1" (112 : Nat) ({ cls := "java/lang/String", name := "<init>", desc := "([BB)V" } : Jvm.MethodName)) : Jvm.Cond).before a0 Z = true := hw _ (List.mem_of_getElem? (i := 118) rfl)
theorem own_w119 {Z : State} {a0 : Array Value} (hw : ∀ d ∈ tables_1, d.before a0 Z = true) : ((Jvm.Cond.instanceMethod ({ cls := "java/lang/String", name := "<init>", desc := "([BB)V" } : Jvm.MethodName)) : Jvm.Cond).before a0 Z = true := hw _ (List.mem_of_getElem? (i := 119) rfl)
theorem own_d7_23 : decode jdk_43_method_47_code 23 = .ok (.areturn, 1) := by decide +kernel
theorem own_ef_nsL1 (m : MethodId) (ar : Addr) (bI : Int32) (dI : Int32) : entryFrame m #[(.ref ar), (.int bI), (.int dI)] 3 = mkF m 0 #[.val (.ref ar), .val (.int bI), .val (.int dI)] [] := by first | (simp [entryFrame, mkF, argsToLocals, Value.category]; done) | rfl
theorem own_pf7 : plainFor (⟨"java/lang/StringLatin1", "newString", "([BII)Ljava/lang/String;"⟩ : MethodName) = true := by first | exact plainFor_of_name (by first | (simp [plainName, overriddenIn]; done) | decide +kernel) | decide +kernel
def own_Q_nsL1 (Z : State) (h0 : Heap) (ar : Addr) (bI : Int32) (dI : Int32) (kb : ClassId) (N : Int32) (vs : List Value) (eI : Int32) (b : Nat) (d : Nat) (v : Option Value) (h : Heap) (ms : List Addr) : Prop := (Keep h0 h []) ∧ (∃ (r : Addr) (t : Addr) (kA : ClassId), (ms = []) ∧ (v = some (.ref r)) ∧ (Exa Z h r "java/lang/String") ∧ (Fld Z h r "java/lang/String" "coder" "B" (.int 0)) ∧ (Fld Z h r "java/lang/String" "value" "[B" (.ref t)) ∧ (Arv Z h t kA .byte dI (own_sl vs b d) (.int 0)) ∧ (h0.size ≤ r))
set_option maxRecDepth 65536 in
set_option maxHeartbeats 40000000 in
theorem own_ct_nsL1 (l : Launch) (Z : State) (a0 : Array Value) (hw : ∀ d ∈ tables_1, d.before a0 Z = true) (EL : List (String × Nat)) (hE : EW Z a0 EL) (n0 : Nat) (ws : List Jvm.Cond) (h0 : Heap) (O : Old Z n0 h0) (ar : Addr) (bI : Int32) (dI : Int32) (kb : ClassId) (N : Int32) (vs : List Value) (eI : Int32) (b : Nat) (d : Nat) (A_ar : Arv Z h0 ar kb .byte N vs (.int 0)) (Rg : own_Rg bI eI dI N b d) (hcap : d ≤ 5) (hnw : ¬ (bI = 0 ∧ eI = N)) (hd0 : ¬ dI = 0) :
    own_Ct l Z EL n0 (⟨"java/lang/StringLatin1", "newString", "([BII)Ljava/lang/String;"⟩ : MethodName) jdk_43_method_47_code 3 (some (.object "java/lang/String")) ws ({ frames := 3, cells := 2, slots := 9, locals := 50 } : Room) #[(.ref ar), (.int bI), (.int dI)] h0 [] (own_Q_nsL1 Z h0 ar bI dI kb N vs eI b d) := by
 refine own_enter (a0 := a0) own_pf7 hE O fun p e s m below meth c T0 w0 => ?_
 rw [own_ef_nsL1 m ar bI dI]
 have K : Keep h0 h0 [] := Keep.refl _ _
 refine own_iloadN (pc' := 1) w0 own_d7_0 rfl rfl ?_
 refine own_if (pc' := 4) w0 own_d7_1 rfl (by decide) (pcY := 7) rfl (fun (hb1 : ¬ dI = (0 : Int32)) => ?_) (fun (hb1 : dI = (0 : Int32)) => absurd hb1 hd0)
 refine own_newO (pc' := 10) w0 (own_w102 hw) (own_w6 hw) (own_w7 hw) own_d7_7 rfl (by decide) (by decide) fun T1 h3 a5 g_a5 w2 E4 ⟨E_a5, D6⟩ => ?_
 have ne_ar_a5 : ar ≠ a5 := Nat.ne_of_lt (Nat.lt_of_lt_of_le A_ar.lt (Nat.le_of_eq g_a5))
 have nw_a5 : h0.size ≤ a5 := Nat.le_trans K.1 (Nat.le_of_eq g_a5)
 replace A_ar := A_ar.ext E4
 replace K := K.ext E4
 have F_a5_value : Fld Z h3 a5 "java/lang/String" "value" "[B" .null := D6 (Or.inr (own_w20 hw)) (ty := (.array .byte)) (by decide)
 have F_a5_coder : Fld Z h3 a5 "java/lang/String" "coder" "B" (.int 0) := D6 (Or.inr (own_w21 hw)) (ty := .byte) (by decide)
 refine own_dup (pc' := 11) w2 own_d7_10 rfl rfl ?_
 refine own_aloadN (pc' := 12) w2 own_d7_11 rfl rfl rfl ?_
 refine own_iloadN (pc' := 13) w2 own_d7_12 rfl rfl ?_
 refine own_iloadN (pc' := 14) w2 own_d7_13 rfl rfl ?_
 refine own_iloadN (pc' := 15) w2 own_d7_14 rfl rfl ?_
 refine own_iadd (pc' := 16) w2 own_d7_15 (z := eI) Rg.2.2.2.1 rfl ?_
 refine own_callS (pc' := 19) w2 (own_w103 hw) (own_w104 hw) (own_w105 hw) (own_w106 hw) (by decide) (own_ct_cor l Z a0 hw EL hE n0 [] h3 (own_old w2) ar bI eI kb N vs dI b d A_ar (Rg) (hcap) (hnw)) all0 (argsL := [(.ref ar), (.int bI), (.int eI)]) (rest := [(.ref a5), (.ref a5)]) rfl rfl own_pd3 rfl own_d7_16 rfl (by decide) (W := 2) rfl (by decide) (by decide) (by decide) fun T7 h9 v10 ms11 w8 q12 => ?_
 obtain ⟨K15, r_13, kA_14, rfl, rfl, nw_A_r_13, p16_cor_0⟩ := q12
 have ne_a5_r_13 : a5 ≠ r_13 := Nat.ne_of_lt (Nat.lt_of_lt_of_le E_a5.lt p16_cor_0)
 have ne_ar_r_13 : ar ≠ r_13 := Nat.ne_of_lt (Nat.lt_of_lt_of_le A_ar.lt p16_cor_0)
 have nw_r_13 : h0.size ≤ r_13 := Nat.le_trans K.1 p16_cor_0
 replace A_ar := A_ar.keep K15 nin0
 replace E_a5 := E_a5.keep K15
 replace F_a5_value := F_a5_value.keep K15 nin0
 replace F_a5_coder := F_a5_coder.keep K15 nin0
 replace K := K.trans K15 all0
 have A_r_13 := nw_A_r_13; clear nw_A_r_13
 show own_Go Z EL n0 p e below s _ _ _ (T7.setTop (mkF m 19 _ [(.ref r_13), (.ref a5), (.ref a5)]))
 refine own_iconst (pc' := 20) w8 own_d7_19 (x := (0 : Int32)) rfl rfl ?_
 refine own_callI (pc' := 23) w8 rfl (own_w118 hw) (own_w119 hw) (own_w7 hw) (own_w120 hw) (by decide) (own_ct_strBB l Z a0 hw EL hE n0 [] h9 (own_old w8) a5 r_13 .null (.int 0) E_a5 F_a5_value F_a5_coder) (allS (P := fun x => x ∈ _) (by simp) all0) (argsL := [(.ref r_13), (.int (0 : Int32))]) (rest := [(.ref a5)]) rfl rfl own_pd4 rfl own_d7_20 rfl (by decide) (W := 1) rfl (by decide) (by decide) (by decide) fun T16 h18 v19 ms20 w17 q21 => ?_
 obtain ⟨K22, rfl, rfl, nw_E_a5, nw_F_a5_coder, nw_F_a5_value⟩ := q21
 replace A_ar := A_ar.keep K22 (ninS ne_ar_a5 nin0)
 replace A_r_13 := A_r_13.keep K22 (ninS (Ne.symm ne_a5_r_13) nin0)
 replace K := K.trans K22 (allS (P := fun x => x ∈ ([] : List Addr) ∨ h0.size ≤ x) (Or.inr nw_a5) all0)
 have E_a5 := nw_E_a5; clear nw_E_a5
 have F_a5_coder := nw_F_a5_coder; clear nw_F_a5_coder
 have F_a5_value := nw_F_a5_value; clear nw_F_a5_value
 show own_Go Z EL n0 p e below s _ _ _ (T16.setTop (mkF m 23 _ [(.ref a5)]))
 exact own_retV w17 (t := (.object "java/lang/String")) rfl (own_narR rfl rfl) (Or.inr (Or.inr (Or.inr (Or.inr ⟨rfl, rfl, rfl⟩)))) own_d7_23 (by decide) (by decide) (ms' := []) all0 ⟨K, a5, r_13, kA_14, rfl, rfl, E_a5, F_a5_coder, F_a5_value, A_r_13, nw_a5⟩
theorem own_d8_0 : decode jdk_42_method_154_code 0 = .ok (.getstatic 38, 3) := by decide +kernel
theorem own_w40 {Z : State} {a0 : Array Value} (hw : ∀ d ∈ tables_1, d.before a0 Z = true) : ((Jvm.Cond.fieldLink "java/lang/String" (38 : Nat) "java/lang/String" "COMPACT_STRINGS" "Z") : Jvm.Cond).before a0 Z = true := hw _ (List.mem_of_getElem? (i := 40) rfl)
theorem own_d8_3 : decode jdk_42_method_154_code 3 = .ok (.ifCond .eq 14, 3) := by decide +kernel
theorem own_d8_6 : decode jdk_42_method_154_code 6 = .ok (.aload_n 0, 1) := by decide +kernel
theorem own_d8_7 : decode jdk_42_method_154_code 7 = .ok (.getfield 15, 3) := by decide +kernel
theorem own_d8_10 : decode jdk_42_method_154_code 10 = .ok (.ifCond .ne 7, 3) := by decide +kernel
theorem own_d8_13 : decode jdk_42_method_154_code 13 = .ok (.iconst 1, 1) := by decide +kernel
theorem own_d8_14 : decode jdk_42_method_154_code 14 = .ok (.goto 4, 3) := by decide +kernel
theorem own_d8_18 : decode jdk_42_method_154_code 18 = .ok (.ireturn, 1) := by decide +kernel
theorem own_ef_isLat (m : MethodId) (a1 : Addr) : entryFrame m #[(.ref a1)] 1 = mkF m 0 #[.val (.ref a1)] [] := by first | (simp [entryFrame, mkF, argsToLocals, Value.category]; done) | rfl
theorem own_pf8 : plainFor (⟨"java/lang/String", "isLatin1", "()Z"⟩ : MethodName) = true := by first | exact plainFor_of_name (by first | (simp [plainName, overriddenIn]; done) | decide +kernel) | decide +kernel
def own_Q_isLat (Z : State) (h0 : Heap) (a1 : Addr) (z5 : Int32) (v : Option Value) (h : Heap) (ms : List Addr) : Prop := (h0 = h) ∧ (ms = []) ∧ (v = some (.int 1))
set_option maxRecDepth 65536 in
set_option maxHeartbeats 40000000 in
theorem own_ct_isLat (l : Launch) (Z : State) (a0 : Array Value) (hw : ∀ d ∈ tables_1, d.before a0 Z = true) (EL : List (String × Nat)) (hE : EW Z a0 EL) (n0 : Nat) (ws : List Jvm.Cond) (h0 : Heap) (O : Old Z n0 h0) (a1 : Addr) (z5 : Int32) (F_a1_coder : Fld Z h0 a1 "java/lang/String" "coder" "B" (.int 0)) (S_COMPACT_STRINGS : Sta Z Z.heap "java/lang/String" "COMPACT_STRINGS" "Z" (.int z5)) (P5 : ¬ z5 = 0) :
    own_Ct l Z EL n0 (⟨"java/lang/String", "isLatin1", "()Z"⟩ : MethodName) jdk_42_method_154_code 1 (some .boolean) ws ({ frames := 0, cells := 0, slots := 0, locals := 0 } : Room) #[(.ref a1)] h0 [] (own_Q_isLat Z h0 a1 z5) := by
 refine own_enter (a0 := a0) own_pf8 hE O fun p e s m below meth c T0 w0 => ?_
 rw [own_ef_isLat m a1]
 refine own_getS (pc' := 3) w0 (host := "") (Or.inl (own_w40 hw)) Via.refl (S_COMPACT_STRINGS.ext (own_old w0).2) own_d8_0 rfl fun T1 w2 => ?_
 refine own_if (pc' := 6) w2 own_d8_3 rfl (by decide) (pcY := 17) rfl (fun (hb3 : z5 = (0 : Int32)) => absurd hb3 P5) (fun (hb3 : ¬ z5 = (0 : Int32)) => ?_)
 refine own_aloadN (pc' := 7) w2 own_d8_6 rfl rfl rfl ?_
 refine own_getF (pc' := 10) w2 (host := "") (Or.inl (own_w25 hw)) Via.refl F_a1_coder own_d8_7 rfl fun T3 w4 => ?_
 refine own_if (pc' := 13) w4 own_d8_10 rfl (by decide) (pcY := 17) rfl (fun (hb10 : ¬ (0 : Int32) = (0 : Int32)) => absurd hb10 (by decide)) (fun (hb10 : (0 : Int32) = (0 : Int32)) => ?_)
 refine own_iconst (pc' := 14) w4 own_d8_13 (x := (1 : Int32)) rfl rfl ?_
 refine own_goto w4 own_d8_14 (by decide) (pc' := 18) rfl ?_
 exact own_retV w4 (t := .boolean) rfl rfl (Or.inl ⟨rfl, by simp, _, rfl⟩) own_d8_18 (by decide) (by decide) (ms' := []) all0 ⟨rfl, rfl, rfl⟩
theorem own_d9_0 : decode jdk_41_method_12_code 0 = .ok (.iload_n 0, 1) := by decide +kernel
theorem own_d9_1 : decode jdk_41_method_12_code 1 = .ok (.ifCond .lt 13, 3) := by decide +kernel
theorem own_d9_4 : decode jdk_41_method_12_code 4 = .ok (.iload_n 0, 1) := by decide +kernel
theorem own_d9_5 : decode jdk_41_method_12_code 5 = .ok (.iload_n 1, 1) := by decide +kernel
theorem own_d9_6 : decode jdk_41_method_12_code 6 = .ok (.if_icmp .gt 8, 3) := by decide +kernel
theorem own_d9_9 : decode jdk_41_method_12_code 9 = .ok (.iload_n 1, 1) := by decide +kernel
theorem own_d9_10 : decode jdk_41_method_12_code 10 = .ok (.iload_n 2, 1) := by decide +kernel
theorem own_d9_11 : decode jdk_41_method_12_code 11 = .ok (.if_icmp .le 11, 3) := by decide +kernel
theorem own_d9_22 : decode jdk_41_method_12_code 22 = .ok (.iload_n 0, 1) := by decide +kernel
theorem own_d9_23 : decode jdk_41_method_12_code 23 = .ok (.ireturn, 1) := by decide +kernel
theorem own_ef_ckFT (m : MethodId) (bI : Int32) (eI : Int32) (nI : Int32) (fv : Value) (h_fv : fv.isRef = true) : entryFrame m #[(.int bI), (.int eI), (.int nI), fv] 4 = mkF m 0 #[.val (.int bI), .val (.int eI), .val (.int nI), .val fv] [] := by rcases ref_cases h_fv with rfl | ⟨_, rfl⟩ <;> first | (simp [entryFrame, mkF, argsToLocals, Value.category]; done) | rfl
theorem own_pf9 : plainFor (⟨"jdk/internal/util/Preconditions", "checkFromToIndex", "(IIILjava/util/function/BiFunction;)I"⟩ : MethodName) = true := by first | exact plainFor_of_name (by first | (simp [plainName, overriddenIn]; done) | decide +kernel) | decide +kernel
def own_Q_ckFT (Z : State) (h0 : Heap) (bI : Int32) (eI : Int32) (nI : Int32) (fv : Value) (v : Option Value) (h : Heap) (ms : List Addr) : Prop := (h0 = h) ∧ (ms = []) ∧ (v = some (.int bI))
set_option maxRecDepth 65536 in
set_option maxHeartbeats 40000000 in
theorem own_ct_ckFT (l : Launch) (Z : State) (a0 : Array Value) (hw : ∀ d ∈ tables_1, d.before a0 Z = true) (EL : List (String × Nat)) (hE : EW Z a0 EL) (n0 : Nat) (ws : List Jvm.Cond) (h0 : Heap) (O : Old Z n0 h0) (bI : Int32) (eI : Int32) (nI : Int32) (fv : Value) (h_fv : fv.isRef = true) (q1 : ¬ bI < 0) (q2 : ¬ eI < bI) (q3 : ¬ nI < eI) :
    own_Ct l Z EL n0 (⟨"jdk/internal/util/Preconditions", "checkFromToIndex", "(IIILjava/util/function/BiFunction;)I"⟩ : MethodName) jdk_41_method_12_code 4 (some .int) ws ({ frames := 0, cells := 0, slots := 0, locals := 0 } : Room) #[(.int bI), (.int eI), (.int nI), fv] h0 [] (own_Q_ckFT Z h0 bI eI nI fv) := by
 refine own_enter (a0 := a0) own_pf9 hE O fun p e s m below meth c T0 w0 => ?_
 rw [own_ef_ckFT m bI eI nI fv h_fv]
 refine own_iloadN (pc' := 1) w0 own_d9_0 rfl rfl ?_
 refine own_if (pc' := 4) w0 own_d9_1 rfl (by decide) (pcY := 14) rfl (fun (hb1 : bI < (0 : Int32)) => absurd hb1 q1) (fun (hb1 : ¬ bI < (0 : Int32)) => ?_)
 refine own_iloadN (pc' := 5) w0 own_d9_4 rfl rfl ?_
 refine own_iloadN (pc' := 6) w0 own_d9_5 rfl rfl ?_
 refine own_icmp (pc' := 9) w0 own_d9_6 rfl (by decide) (pcY := 14) rfl (fun (hb6 : eI < bI) => absurd hb6 q2) (fun (hb6 : ¬ eI < bI) => ?_)
 refine own_iloadN (pc' := 10) w0 own_d9_9 rfl rfl ?_
 refine own_iloadN (pc' := 11) w0 own_d9_10 rfl rfl ?_
 refine own_icmp (pc' := 14) w0 own_d9_11 rfl (by decide) (pcY := 22) rfl (fun (hb11 : ¬ nI < eI) => ?_) (fun (hb11 : nI < eI) => absurd hb11 q3)
 refine own_iloadN (pc' := 23) w0 own_d9_22 rfl rfl ?_
 exact own_retV w0 (t := .int) rfl rfl (Or.inl ⟨rfl, by simp, _, rfl⟩) own_d9_23 (by decide) (by decide) (ms' := []) all0 ⟨rfl, rfl, rfl⟩
theorem own_d10_0 : decode jdk_42_method_158_code 0 = .ok (.iload_n 0, 1) := by decide +kernel
theorem own_d10_1 : decode jdk_42_method_158_code 1 = .ok (.iload_n 1, 1) := by decide +kernel
theorem own_d10_2 : decode jdk_42_method_158_code 2 = .ok (.iload_n 2, 1) := by decide +kernel
theorem own_d10_3 : decode jdk_42_method_158_code 3 = .ok (.getstatic 1053, 3) := by decide +kernel
theorem own_w50 {Z : State} {a0 : Array Value} (hw : ∀ d ∈ tables_1, d.before a0 Z = true) : ((Jvm.Cond.fieldLink "java/lang/String" (1053 : Nat) "jdk/internal/util/Preconditions" "SIOOBE_FORMATTER" "Ljava/util/function/BiFunction;") : Jvm.Cond).before a0 Z = true := hw _ (List.mem_of_getElem? (i := 50) rfl)
theorem own_d10_6 : decode jdk_42_method_158_code 6 = .ok (.invokestatic 1062, 3) := by decide +kernel
theorem own_w54 {Z : State} {a0 : Array Value} (hw : ∀ d ∈ tables_1, d.before a0 Z = true) : ((Jvm.Cond.code ({ cls := "jdk/internal/util/Preconditions", name := "checkFromToIndex", desc := "(IIILjava/util/function/BiFunction;)I" } : Jvm.MethodName) jdk_41_method_12_code (4 : Nat) (Option.some Jvm.ClassFile.FieldType.int)) : Jvm.Cond).before a0 Z = true := hw _ (List.mem_of_getElem? (i := 54) rfl)
theorem own_w51 {Z : State} {a0 : Array Value} (hw : ∀ d ∈ tables_1, d.before a0 Z = true) : ((Jvm.Cond.initialized "jdk/internal/util/Preconditions") : Jvm.Cond).before a0 Z = true := hw _ (List.mem_of_getElem? (i := 51) rfl)
theorem own_pd5 : parseMethodDescriptor "(IIILjava/util/function/BiFunction;)I" = some ⟨[.int, .int, .int, (.object "java/util/function/BiFunction")], some .int⟩ := by decide +kernel
theorem own_w52 {Z : State} {a0 : Array Value} (hw : ∀ d ∈ tables_1, d.before a0 Z = true) : ((Jvm.Cond.methodLink "java/lang/String" (1062 : Nat) ({ cls := "jdk/internal/util/Preconditions", name := "checkFromToIndex", desc := "(IIILjava/util/function/BiFunction;)I" } : Jvm.MethodName)) : Jvm.Cond).before a0 Z = true := hw _ (List.mem_of_getElem? (i := 52) rfl)
theorem own_w53 {Z : State} {a0 : Array Value} (hw : ∀ d ∈ tables_1, d.before a0 Z = true) : ((Jvm.Cond.static ({ cls := "jdk/internal/util/Preconditions", name := "checkFromToIndex", desc := "(IIILjava/util/function/BiFunction;)I" } : Jvm.MethodName)) : Jvm.Cond).before a0 Z = true := hw _ (List.mem_of_getElem? (i := 53) rfl)
theorem own_d10_9 : decode jdk_42_method_158_code 9 = .ok (.pop, 1) := by decide +kernel
theorem own_d10_10 : decode jdk_42_method_158_code 10 = .ok (.return_, 1) := by decide +kernel
theorem own_ef_ckBE (m : MethodId) (bI : Int32) (eI : Int32) (nI : Int32) : entryFrame m #[(.int bI), (.int eI), (.int nI)] 3 = mkF m 0 #[.val (.int bI), .val (.int eI), .val (.int nI)] [] := by first | (simp [entryFrame, mkF, argsToLocals, Value.category]; done) | rfl
theorem own_pf10 : plainFor (⟨"java/lang/String", "checkBoundsBeginEnd", "(III)V"⟩ : MethodName) = true := by first | exact plainFor_of_name (by first | (simp [plainName, overriddenIn]; done) | decide +kernel) | decide +kernel
def own_Q_ckBE (Z : State) (h0 : Heap) (bI : Int32) (eI : Int32) (nI : Int32) (fm : Value) (v : Option Value) (h : Heap) (ms : List Addr) : Prop := (h0 = h) ∧ (ms = []) ∧ (v = none)
set_option maxRecDepth 65536 in
set_option maxHeartbeats 40000000 in
theorem own_ct_ckBE (l : Launch) (Z : State) (a0 : Array Value) (hw : ∀ d ∈ tables_1, d.before a0 Z = true) (EL : List (String × Nat)) (hE : EW Z a0 EL) (n0 : Nat) (ws : List Jvm.Cond) (h0 : Heap) (O : Old Z n0 h0) (bI : Int32) (eI : Int32) (nI : Int32) (fm : Value) (S_SIOOBE_FORMATTER : Sta Z Z.heap "jdk/internal/util/Preconditions" "SIOOBE_FORMATTER" "Ljava/util/function/BiFunction;" fm) (hfm : fm.isRef = true) (q1 : ¬ bI < 0) (q2 : ¬ eI < bI) (q3 : ¬ nI < eI) :
    own_Ct l Z EL n0 (⟨"java/lang/String", "checkBoundsBeginEnd", "(III)V"⟩ : MethodName) jdk_42_method_158_code 3 none ws ({ frames := 1, cells := 0, slots := 0, locals := 15 } : Room) #[(.int bI), (.int eI), (.int nI)] h0 [] (own_Q_ckBE Z h0 bI eI nI fm) := by
 refine own_enter (a0 := a0) own_pf10 hE O fun p e s m below meth c T0 w0 => ?_
 rw [own_ef_ckBE m bI eI nI]
 refine own_iloadN (pc' := 1) w0 own_d10_0 rfl rfl ?_
 refine own_iloadN (pc' := 2) w0 own_d10_1 rfl rfl ?_
 refine own_iloadN (pc' := 3) w0 own_d10_2 rfl rfl ?_
 refine own_getS (pc' := 6) w0 (host := "") (Or.inl (own_w50 hw)) Via.refl (S_SIOOBE_FORMATTER.ext (own_old w0).2) own_d10_3 rfl fun T1 w2 => ?_
 refine own_callS (pc' := 9) w2 (own_w52 hw) (own_w53 hw) (own_w51 hw) (own_w54 hw) (by decide) (own_ct_ckFT l Z a0 hw EL hE n0 [] h0 (own_old w2) bI eI nI fm hfm (q1) (q2) (q3)) all0 (argsL := [(.int bI), (.int eI), (.int nI), fm]) (rest := []) rfl rfl own_pd5 rfl own_d10_6 rfl (by decide) (W := 0) rfl (by decide) (by decide) (by decide) fun T3 h5 v6 ms7 w4 q8 => ?_
 obtain ⟨rfl, rfl, rfl⟩ := q8
 show own_Go Z EL n0 p e below s _ _ _ (T3.setTop (mkF m 9 _ [(.int bI)]))
 refine own_pop (pc' := 10) w4 own_d10_9 rfl rfl ?_
 exact own_ret0 w4 rfl own_d10_10 (by decide) (by decide) (ms' := []) all0 ⟨rfl, rfl, rfl⟩
theorem own_d11_0 : decode jdk_42_method_92_code 0 = .ok (.aload_n 0, 1) := by decide +kernel
theorem own_d11_1 : decode jdk_42_method_92_code 1 = .ok (.invokevirtual 505, 3) := by decide +kernel
theorem own_w46 {Z : State} {a0 : Array Value} (hw : ∀ d ∈ tables_1, d.before a0 Z = true) : ((Jvm.Cond.methodLink "java/lang/String" (505 : Nat) ({ cls := "java/lang/String", name := "length", desc := "()I" } : Jvm.MethodName)) : Jvm.Cond).before a0 Z = true := hw _ (List.mem_of_getElem? (i := 46) rfl)
theorem own_w31 {Z : State} {a0 : Array Value} (hw : ∀ d ∈ tables_1, d.before a0 Z = true) : ((Jvm.Cond.declares ({ cls := "java/lang/String", name := "length", desc := "()I" } : Jvm.MethodName)) : Jvm.Cond).before a0 Z = true := hw _ (List.mem_of_getElem? (i := 31) rfl)
theorem own_w33 {Z : State} {a0 : Array Value} (hw : ∀ d ∈ tables_1, d.before a0 Z = true) : ((Jvm.Cond.selects "java/lang/String" ({ cls := "java/lang/String", name := "length", desc := "()I" } : Jvm.MethodName) ({ cls := "java/lang/String", name := "length", desc := "()I" } : Jvm.MethodName)) : Jvm.Cond).before a0 Z = true := hw _ (List.mem_of_getElem? (i := 33) rfl)
theorem own_w32 {Z : State} {a0 : Array Value} (hw : ∀ d ∈ tables_1, d.before a0 Z = true) : ((Jvm.Cond.instanceMethod ({ cls := "java/lang/String", name := "length", desc := "()I" } : Jvm.MethodName)) : Jvm.Cond).before a0 Z = true := hw _ (List.mem_of_getElem? (i := 32) rfl)
theorem own_pd6 : parseMethodDescriptor "()I" = some ⟨[], some .int⟩ := by decide +kernel
theorem own_d11_4 : decode jdk_42_method_92_code 4 = .ok (.istore_n 3, 1) := by decide +kernel
theorem own_d11_5 : decode jdk_42_method_92_code 5 = .ok (.iload_n 1, 1) := by decide +kernel
theorem own_d11_6 : decode jdk_42_method_92_code 6 = .ok (.iload_n 2, 1) := by decide +kernel
theorem own_d11_7 : decode jdk_42_method_92_code 7 = .ok (.iload_n 3, 1) := by decide +kernel
theorem own_d11_8 : decode jdk_42_method_92_code 8 = .ok (.invokestatic 521, 3) := by decide +kernel
theorem own_w49 {Z : State} {a0 : Array Value} (hw : ∀ d ∈ tables_1, d.before a0 Z = true) : ((Jvm.Cond.code ({ cls := "java/lang/String", name := "checkBoundsBeginEnd", desc := "(III)V" } : Jvm.MethodName) jdk_42_method_158_code (3 : Nat) (Option.none : Option Jvm.ClassFile.FieldType)) : Jvm.Cond).before a0 Z = true := hw _ (List.mem_of_getElem? (i := 49) rfl)
theorem own_pd7 : parseMethodDescriptor "(III)V" = some ⟨[.int, .int, .int], none⟩ := by decide +kernel
theorem own_w47 {Z : State} {a0 : Array Value} (hw : ∀ d ∈ tables_1, d.before a0 Z = true) : ((Jvm.Cond.methodLink "java/lang/String" (521 : Nat) ({ cls := "java/lang/String", name := "checkBoundsBeginEnd", desc := "(III)V" } : Jvm.MethodName)) : Jvm.Cond).before a0 Z = true := hw _ (List.mem_of_getElem? (i := 47) rfl)
theorem own_w48 {Z : State} {a0 : Array Value} (hw : ∀ d ∈ tables_1, d.before a0 Z = true) : ((Jvm.Cond.static ({ cls := "java/lang/String", name := "checkBoundsBeginEnd", desc := "(III)V" } : Jvm.MethodName)) : Jvm.Cond).before a0 Z = true := hw _ (List.mem_of_getElem? (i := 48) rfl)
theorem own_d11_11 : decode jdk_42_method_92_code 11 = .ok (.iload_n 1, 1) := by decide +kernel
theorem own_d11_12 : decode jdk_42_method_92_code 12 = .ok (.ifCond .ne 10, 3) := by decide +kernel
theorem own_d11_22 : decode jdk_42_method_92_code 22 = .ok (.iload_n 2, 1) := by decide +kernel
theorem own_d11_23 : decode jdk_42_method_92_code 23 = .ok (.iload_n 1, 1) := by decide +kernel
theorem own_d11_24 : decode jdk_42_method_92_code 24 = .ok (.isub, 1) := by decide +kernel
theorem own_d11_25 : decode jdk_42_method_92_code 25 = .ok (.istore 4, 2) := by decide +kernel
theorem own_d11_27 : decode jdk_42_method_92_code 27 = .ok (.aload_n 0, 1) := by decide +kernel
theorem own_d11_28 : decode jdk_42_method_92_code 28 = .ok (.invokevirtual 492, 3) := by decide +kernel
theorem own_w85 {Z : State} {a0 : Array Value} (hw : ∀ d ∈ tables_1, d.before a0 Z = true) : ((Jvm.Cond.code ({ cls := "java/lang/String", name := "isLatin1", desc := "()Z" } : Jvm.MethodName) jdk_42_method_154_code (1 : Nat) (Option.some Jvm.ClassFile.FieldType.boolean)) : Jvm.Cond).before a0 Z = true := hw _ (List.mem_of_getElem? (i := 85) rfl)
theorem own_pd8 : parseMethodDescriptor "()Z" = some ⟨[], some .boolean⟩ := by decide +kernel
theorem own_w81 {Z : State} {a0 : Array Value} (hw : ∀ d ∈ tables_1, d.before a0 Z = true) : ((Jvm.Cond.methodLink "java/lang/String" (492 : Nat) ({ cls := "java/lang/String", name := "isLatin1", desc := "()Z" } : Jvm.MethodName)) : Jvm.Cond).before a0 Z = true := hw _ (List.mem_of_getElem? (i := 81) rfl)
theorem own_w82 {Z : State} {a0 : Array Value} (hw : ∀ d ∈ tables_1, d.before a0 Z = true) : ((Jvm.Cond.declares ({ cls := "java/lang/String", name := "isLatin1", desc := "()Z" } : Jvm.MethodName)) : Jvm.Cond).before a0 Z = true := hw _ (List.mem_of_getElem? (i := 82) rfl)
theorem own_w84 {Z : State} {a0 : Array Value} (hw : ∀ d ∈ tables_1, d.before a0 Z = true) : ((Jvm.Cond.selects "java/lang/String" ({ cls := "java/lang/String", name := "isLatin1", desc := "()Z" } : Jvm.MethodName) ({ cls := "java/lang/String", name := "isLatin1", desc := "()Z" } : Jvm.MethodName)) : Jvm.Cond).before a0 Z = true := hw _ (List.mem_of_getElem? (i := 84) rfl)
theorem own_w83 {Z : State} {a0 : Array Value} (hw : ∀ d ∈ tables_1, d.before a0 Z = true) : ((Jvm.Cond.instanceMethod ({ cls := "java/lang/String", name := "isLatin1", desc := "()Z" } : Jvm.MethodName)) : Jvm.Cond).before a0 Z = true := hw _ (List.mem_of_getElem? (i := 83) rfl)
theorem own_d11_31 : decode jdk_42_method_92_code 31 = .ok (.ifCond .eq 16, 3) := by decide +kernel
theorem own_d11_34 : decode jdk_42_method_92_code 34 = .ok (.aload_n 0, 1) := by decide +kernel
theorem own_d11_35 : decode jdk_42_method_92_code 35 = .ok (.getfield 9, 3) := by decide +kernel
theorem own_d11_38 : decode jdk_42_method_92_code 38 = .ok (.iload_n 1, 1) := by decide +kernel
theorem own_d11_39 : decode jdk_42_method_92_code 39 = .ok (.iload 4, 2) := by decide +kernel
theorem own_d11_41 : decode jdk_42_method_92_code 41 = .ok (.invokestatic 685, 3) := by decide +kernel
theorem own_w101 {Z : State} {a0 : Array Value} (hw : ∀ d ∈ tables_1, d.before a0 Z = true) : ((Jvm.Cond.code ({ cls := "java/lang/StringLatin1", name := "newString", desc := "([BII)Ljava/lang/String;" } : Jvm.MethodName) jdk_43_method_47_code (3 : Nat) (Option.some (Jvm.ClassFile.FieldType.object "java/lang/String"))) : Jvm.Cond).before a0 Z = true := hw _ (List.mem_of_getElem? (i := 101) rfl)
theorem own_w88 {Z : State} {a0 : Array Value} (hw : ∀ d ∈ tables_1, d.before a0 Z = true) : ((Jvm.Cond.initialized "java/lang/StringLatin1") : Jvm.Cond).before a0 Z = true := hw _ (List.mem_of_getElem? (i := 88) rfl)
theorem own_pd9 : parseMethodDescriptor "([BII)Ljava/lang/String;" = some ⟨[(.array .byte), .int, .int], some (.object "java/lang/String")⟩ := by decide +kernel
theorem own_w99 {Z : State} {a0 : Array Value} (hw : ∀ d ∈ tables_1, d.before a0 Z = true) : ((Jvm.Cond.methodLink "java/lang/String" (685 : Nat) ({ cls := "java/lang/StringLatin1", name := "newString", desc := "([BII)Ljava/lang/String;" } : Jvm.MethodName)) : Jvm.Cond).before a0 Z = true := hw _ (List.mem_of_getElem? (i := 99) rfl)
theorem own_w100 {Z : State} {a0 : Array Value} (hw : ∀ d ∈ tables_1, d.before a0 Z = true) : ((Jvm.Cond.static ({ cls := "java/lang/StringLatin1", name := "newString", desc := "([BII)Ljava/lang/String;" } : Jvm.MethodName)) : Jvm.Cond).before a0 Z = true := hw _ (List.mem_of_getElem? (i := 100) rfl)
theorem own_d11_44 : decode jdk_42_method_92_code 44 = .ok (.goto 13, 3) := by decide +kernel
theorem own_d11_57 : decode jdk_42_method_92_code 57 = .ok (.areturn, 1) := by decide +kernel
theorem own_d11_15 : decode jdk_42_method_92_code 15 = .ok (.iload_n 2, 1) := by decide +kernel
theorem own_d11_16 : decode jdk_42_method_92_code 16 = .ok (.iload_n 3, 1) := by decide +kernel
theorem own_d11_17 : decode jdk_42_method_92_code 17 = .ok (.if_icmp .ne 5, 3) := by decide +kernel
theorem own_ef_subC (m : MethodId) (a1 : Addr) (bI : Int32) (eI : Int32) : entryFrame m #[(.ref a1), (.int bI), (.int eI)] 5 = mkF m 0 #[.val (.ref a1), .val (.int bI), .val (.int eI), .unset, .unset] [] := by first | (simp [entryFrame, mkF, argsToLocals, Value.category]; done) | rfl
theorem own_pf11 : plainFor (⟨"java/lang/String", "substring", "(II)Ljava/lang/String;"⟩ : MethodName) = true := by first | exact plainFor_of_name (by first | (simp [plainName, overriddenIn]; done) | decide +kernel) | decide +kernel
def own_Q_subC (Z : State) (h0 : Heap) (a1 : Addr) (bI : Int32) (eI : Int32) (t : Addr) (kb : ClassId) (N : Int32) (vs : List Value) (cs : List Int32) (dI : Int32) (b : Nat) (d : Nat) (z5 : Int32) (fm : Value) (v : Option Value) (h : Heap) (ms : List Addr) : Prop := (Keep h0 h []) ∧ (∃ (r : Addr) (t2 : Addr) (kA : ClassId), (ms = []) ∧ (v = some (.ref r)) ∧ (Exa Z h r "java/lang/String") ∧ (Fld Z h r "java/lang/String" "coder" "B" (.int 0)) ∧ (Fld Z h r "java/lang/String" "value" "[B" (.ref t2)) ∧ (Arv Z h t2 kA .byte dI (own_sl vs b d) (.int 0)) ∧ (h0.size ≤ r))
set_option maxRecDepth 65536 in
set_option maxHeartbeats 40000000 in
theorem own_ct_subC (l : Launch) (Z : State) (a0 : Array Value) (hw : ∀ d ∈ tables_1, d.before a0 Z = true) (EL : List (String × Nat)) (hE : EW Z a0 EL) (n0 : Nat) (ws : List Jvm.Cond) (h0 : Heap) (O : Old Z n0 h0) (a1 : Addr) (bI : Int32) (eI : Int32) (t : Addr) (kb : ClassId) (N : Int32) (vs : List Value) (cs : List Int32) (dI : Int32) (b : Nat) (d : Nat) (z5 : Int32) (fm : Value) (E_a1 : Exa Z h0 a1 "java/lang/String") (F_a1_coder : Fld Z h0 a1 "java/lang/String" "coder" "B" (.int 0)) (F_a1_value : Fld Z h0 a1 "java/lang/String" "value" "[B" (.ref t)) (A_t : Arv Z h0 t kb .byte N vs (.int 0)) (hcd : StrChars.Road.CodA cs 0 N vs) (hbd : ∀ c ∈ cs, ¬ c < 0 ∧ ¬ (65535 : Int32) < c) (l2 : cs.length ≤ 4000) (S_COMPACT_STRINGS : Sta Z Z.heap "java/lang/String" "COMPACT_STRINGS" "Z" (.int z5)) (P5 : ¬ z5 = 0) (S_SIOOBE_FORMATTER : Sta Z Z.heap "jdk/internal/util/Preconditions" "SIOOBE_FORMATTER" "Ljava/util/function/BiFunction;" fm) (hfm : fm.isRef = true) (Rg : own_Rg bI eI dI N b d) (hNL : Int32.ofNat cs.length = N) (hcap : d ≤ 5) (hnw : ¬ (bI = 0 ∧ eI = N)) (hd0 : ¬ dI = 0) :
    own_Ct l Z EL n0 (⟨"java/lang/String", "substring", "(II)Ljava/lang/String;"⟩ : MethodName) jdk_42_method_92_code 5 (some (.object "java/lang/String")) ws ({ frames := 4, cells := 2, slots := 9, locals := 64 } : Room) #[(.ref a1), (.int bI), (.int eI)] h0 [] (own_Q_subC Z h0 a1 bI eI t kb N vs cs dI b d z5 fm) := by
 refine own_enter (a0 := a0) own_pf11 hE O fun p e s m below meth c T0 w0 => ?_
 rw [own_ef_subC m a1 bI eI]
 have K : Keep h0 h0 [] := Keep.refl _ _
 refine own_aloadN (pc' := 1) w0 own_d11_0 rfl rfl rfl ?_
 refine own_callVB (pc' := 4) w0 (kc := 0) (nc := 0) (own_w46 hw) (own_w31 hw) (fun s' hZ' => notFace_of_selects (args := #[]) (mvT hZ' (own_w33 hw))) (own_w33 hw) (own_w32 hw) (by decide) E_a1 (QQ := fun v h' L => (v = some (.int (Int32.ofNat (List.length cs)))) ∧ L = [] ∧ h' = h0) (fun s' hZ' => StrChars.Road.lenW (W := 0) hZ' (own_hwl hw) (kI := 4) (own_w6 hw) E_a1 F_a1_value F_a1_coder A_t hcd hbd (S_COMPACT_STRINGS.ext (own_old w0).2) P5 l2 (by decide) (by decide)) (ws := []) all0 (fun v h' L q => ⟨q.2.2 ▸ Keep.refl _ _, q.2.1 ▸ Fr.nil _⟩) (argsL := []) (rest := []) rfl rfl own_pd6 rfl own_d11_1 rfl (Nat.le_of_eq rfl) (by decide) (by decide) fun T1 h3 v4 w2 K5 q6 => ?_
 obtain ⟨_, rfl, -, e7⟩ := q6
 rw [e7] at w2
 show own_Go Z EL n0 p e below s _ _ _ (T1.setTop (mkF m 4 _ [(.int (Int32.ofNat (List.length cs)))]))
 refine own_istoreN (pc' := 5) w2 own_d11_4 (Ls' := #[.val (.ref a1), .val (.int bI), .val (.int eI), .val (.int (Int32.ofNat (List.length cs))), .unset]) rfl rfl ?_
 refine own_iloadN (pc' := 6) w2 own_d11_5 rfl rfl ?_
 refine own_iloadN (pc' := 7) w2 own_d11_6 rfl rfl ?_
 refine own_iloadN (pc' := 8) w2 own_d11_7 rfl rfl ?_
 refine own_callS (pc' := 11) w2 (own_w47 hw) (own_w48 hw) (own_w7 hw) (own_w49 hw) (by decide) (own_ct_ckBE l Z a0 hw EL hE n0 [] h0 (own_old w2) bI eI (Int32.ofNat (List.length cs)) fm S_SIOOBE_FORMATTER (hfm) (Rg.1) (Rg.2.2.2.2.2.2.2.1) (hNL ▸ Rg.2.2.2.2.2.2.2.2.1)) all0 (argsL := [(.int bI), (.int eI), (.int (Int32.ofNat (List.length cs)))]) (rest := []) rfl rfl own_pd7 rfl own_d11_8 rfl (by decide) (W := 0) rfl (by decide) (by decide) (by decide) fun T8 h10 v11 ms12 w9 q13 => ?_
 obtain ⟨rfl, rfl, rfl⟩ := q13
 show own_Go Z EL n0 p e below s _ _ _ (T8.setTop (mkF m 11 _ []))
 refine own_iloadN (pc' := 12) w9 own_d11_11 rfl rfl ?_
 refine own_if (pc' := 15) w9 own_d11_12 rfl (by decide) (pcY := 22) rfl (fun (hb12 : ¬ bI = (0 : Int32)) => ?_) (fun (hb12 : bI = (0 : Int32)) => ?_)
 ·
  refine own_iloadN (pc' := 23) w9 own_d11_22 rfl rfl ?_
  refine own_iloadN (pc' := 24) w9 own_d11_23 rfl rfl ?_
  refine own_isub (pc' := 25) w9 own_d11_24 (z := dI) Rg.2.2.1 rfl ?_
  refine own_istore (pc' := 27) w9 own_d11_25 (Ls' := #[.val (.ref a1), .val (.int bI), .val (.int eI), .val (.int (Int32.ofNat (List.length cs))), .val (.int dI)]) rfl rfl ?_
  refine own_aloadN (pc' := 28) w9 own_d11_27 rfl rfl rfl ?_
  refine own_callV (pc' := 31) w9 (own_w81 hw) (own_w82 hw) (fun s' hZ' => notFace_of_selects (args := #[]) (mvT hZ' (own_w84 hw))) (own_w84 hw) (own_w83 hw) (own_w7 hw) (own_w85 hw) (by decide) E_a1 (own_ct_isLat l Z a0 hw EL hE n0 [] h0 (own_old w9) a1 z5 F_a1_coder S_COMPACT_STRINGS (P5)) all0 (argsL := []) (rest := []) rfl rfl own_pd8 rfl own_d11_28 rfl (by decide) (W := 0) rfl (by decide) (by decide) (by decide) fun T14 h16 v17 ms18 w15 q19 => ?_
  obtain ⟨rfl, rfl, rfl⟩ := q19
  show own_Go Z EL n0 p e below s _ _ _ (T14.setTop (mkF m 31 _ [(.int (1 : Int32))]))
  refine own_if (pc' := 34) w15 own_d11_31 rfl (by decide) (pcY := 47) rfl (fun (hb31 : (1 : Int32) = (0 : Int32)) => absurd hb31 (by decide)) (fun (hb31 : ¬ (1 : Int32) = (0 : Int32)) => ?_)
  refine own_aloadN (pc' := 35) w15 own_d11_34 rfl rfl rfl ?_
  refine own_getF (pc' := 38) w15 (host := "") (Or.inl (own_w24 hw)) Via.refl F_a1_value own_d11_35 rfl fun T20 w21 => ?_
  refine own_iloadN (pc' := 39) w21 own_d11_38 rfl rfl ?_
  refine own_iload (pc' := 41) w21 own_d11_39 rfl rfl ?_
  refine own_callS (pc' := 44) w21 (own_w99 hw) (own_w100 hw) (own_w88 hw) (own_w101 hw) (by decide) (own_ct_nsL1 l Z a0 hw EL hE n0 [] h0 (own_old w21) t bI dI kb N vs eI b d A_t (Rg) (hcap) (hnw) (hd0)) all0 (argsL := [(.ref t), (.int bI), (.int dI)]) (rest := []) rfl rfl own_pd9 rfl own_d11_41 rfl (by decide) (W := 0) rfl (by decide) (by decide) (by decide) fun T22 h24 v25 ms26 w23 q27 => ?_
  obtain ⟨K31, r_28, t_29, kA_30, rfl, rfl, nw_E_r_28, nw_F_r_28_coder, nw_F_r_28_value, nw_A_t_29, p41_nsL1_0⟩ := q27
  have ne_a1_r_28 : a1 ≠ r_28 := Nat.ne_of_lt (Nat.lt_of_lt_of_le E_a1.lt p41_nsL1_0)
  have ne_t_r_28 : t ≠ r_28 := Nat.ne_of_lt (Nat.lt_of_lt_of_le A_t.lt p41_nsL1_0)
  have nw_r_28 : h0.size ≤ r_28 := Nat.le_trans K.1 p41_nsL1_0
  replace E_a1 := E_a1.keep K31
  replace F_a1_coder := F_a1_coder.keep K31 nin0
  replace F_a1_value := F_a1_value.keep K31 nin0
  replace A_t := A_t.keep K31 nin0
  replace K := K.trans K31 all0
  have E_r_28 := nw_E_r_28; clear nw_E_r_28
  have F_r_28_coder := nw_F_r_28_coder; clear nw_F_r_28_coder
  have F_r_28_value := nw_F_r_28_value; clear nw_F_r_28_value
  have A_t_29 := nw_A_t_29; clear nw_A_t_29
  show own_Go Z EL n0 p e below s _ _ _ (T22.setTop (mkF m 44 _ [(.ref r_28)]))
  refine own_goto w23 own_d11_44 (by decide) (pc' := 57) rfl ?_
  exact own_retV w23 (t := (.object "java/lang/String")) rfl (own_narR rfl rfl) (Or.inr (Or.inr (Or.inr (Or.inr ⟨rfl, rfl, rfl⟩)))) own_d11_57 (by decide) (by decide) (ms' := []) all0 ⟨K, r_28, t_29, kA_30, rfl, rfl, E_r_28, F_r_28_coder, F_r_28_value, A_t_29, nw_r_28⟩
 ·
  refine own_iloadN (pc' := 16) w9 own_d11_15 rfl rfl ?_
  refine own_iloadN (pc' := 17) w9 own_d11_16 rfl rfl ?_
  refine own_icmp (pc' := 20) w9 own_d11_17 rfl (by decide) (pcY := 22) rfl (fun (hb17 : ¬ eI = (Int32.ofNat (List.length cs))) => ?_) (fun (hb17 : eI = (Int32.ofNat (List.length cs))) => absurd ⟨hb12, hb17.trans hNL⟩ hnw)
  refine own_iloadN (pc' := 23) w9 own_d11_22 rfl rfl ?_
  refine own_iloadN (pc' := 24) w9 own_d11_23 rfl rfl ?_
  refine own_isub (pc' := 25) w9 own_d11_24 (z := dI) Rg.2.2.1 rfl ?_
  refine own_istore (pc' := 27) w9 own_d11_25 (Ls' := #[.val (.ref a1), .val (.int bI), .val (.int eI), .val (.int (Int32.ofNat (List.length cs))), .val (.int dI)]) rfl rfl ?_
  refine own_aloadN (pc' := 28) w9 own_d11_27 rfl rfl rfl ?_
  refine own_callV (pc' := 31) w9 (own_w81 hw) (own_w82 hw) (fun s' hZ' => notFace_of_selects (args := #[]) (mvT hZ' (own_w84 hw))) (own_w84 hw) (own_w83 hw) (own_w7 hw) (own_w85 hw) (by decide) E_a1 (own_ct_isLat l Z a0 hw EL hE n0 [] h0 (own_old w9) a1 z5 F_a1_coder S_COMPACT_STRINGS (P5)) all0 (argsL := []) (rest := []) rfl rfl own_pd8 rfl own_d11_28 rfl (by decide) (W := 0) rfl (by decide) (by decide) (by decide) fun T32 h34 v35 ms36 w33 q37 => ?_
  obtain ⟨rfl, rfl, rfl⟩ := q37
  show own_Go Z EL n0 p e below s _ _ _ (T32.setTop (mkF m 31 _ [(.int (1 : Int32))]))
  refine own_if (pc' := 34) w33 own_d11_31 rfl (by decide) (pcY := 47) rfl (fun (hb31 : (1 : Int32) = (0 : Int32)) => absurd hb31 (by decide)) (fun (hb31 : ¬ (1 : Int32) = (0 : Int32)) => ?_)
  refine own_aloadN (pc' := 35) w33 own_d11_34 rfl rfl rfl ?_
  refine own_getF (pc' := 38) w33 (host := "") (Or.inl (own_w24 hw)) Via.refl F_a1_value own_d11_35 rfl fun T38 w39 => ?_
  refine own_iloadN (pc' := 39) w39 own_d11_38 rfl rfl ?_
  refine own_iload (pc' := 41) w39 own_d11_39 rfl rfl ?_
  refine own_callS (pc' := 44) w39 (own_w99 hw) (own_w100 hw) (own_w88 hw) (own_w101 hw) (by decide) (own_ct_nsL1 l Z a0 hw EL hE n0 [] h0 (own_old w39) t bI dI kb N vs eI b d A_t (Rg) (hcap) (hnw) (hd0)) all0 (argsL := [(.ref t), (.int bI), (.int dI)]) (rest := []) rfl rfl own_pd9 rfl own_d11_41 rfl (by decide) (W := 0) rfl (by decide) (by decide) (by decide) fun T40 h42 v43 ms44 w41 q45 => ?_
  obtain ⟨K49, r_46, t_47, kA_48, rfl, rfl, nw_E_r_46, nw_F_r_46_coder, nw_F_r_46_value, nw_A_t_47, p41_nsL1_0⟩ := q45
  have ne_a1_r_46 : a1 ≠ r_46 := Nat.ne_of_lt (Nat.lt_of_lt_of_le E_a1.lt p41_nsL1_0)
  have ne_t_r_46 : t ≠ r_46 := Nat.ne_of_lt (Nat.lt_of_lt_of_le A_t.lt p41_nsL1_0)
  have nw_r_46 : h0.size ≤ r_46 := Nat.le_trans K.1 p41_nsL1_0
  replace E_a1 := E_a1.keep K49
  replace F_a1_coder := F_a1_coder.keep K49 nin0
  replace F_a1_value := F_a1_value.keep K49 nin0
  replace A_t := A_t.keep K49 nin0
  replace K := K.trans K49 all0
  have E_r_46 := nw_E_r_46; clear nw_E_r_46
  have F_r_46_coder := nw_F_r_46_coder; clear nw_F_r_46_coder
  have F_r_46_value := nw_F_r_46_value; clear nw_F_r_46_value
  have A_t_47 := nw_A_t_47; clear nw_A_t_47
  show own_Go Z EL n0 p e below s _ _ _ (T40.setTop (mkF m 44 _ [(.ref r_46)]))
  refine own_goto w41 own_d11_44 (by decide) (pc' := 57) rfl ?_
  exact own_retV w41 (t := (.object "java/lang/String")) rfl (own_narR rfl rfl) (Or.inr (Or.inr (Or.inr (Or.inr ⟨rfl, rfl, rfl⟩)))) own_d11_57 (by decide) (by decide) (ms' := []) all0 ⟨K, r_46, t_47, kA_48, rfl, rfl, E_r_46, F_r_46_coder, F_r_46_value, A_t_47, nw_r_46⟩
theorem own_d7_4 : decode jdk_43_method_47_code 4 = .ok (.ldc 151, 2) := by decide +kernel
theorem own_w125 {Z : State} {a0 : Array Value} (hw : ∀ d ∈ tables_1, d.before a0 Z = true) : ((Jvm.Cond.stringLink "java/lang/StringLatin1" (151 : Nat) "") : Jvm.Cond).before a0 Z = true := hw _ (List.mem_of_getElem? (i := 125) rfl)
theorem own_d7_6 : decode jdk_43_method_47_code 6 = .ok (.areturn, 1) := by decide +kernel
theorem own_ef_nsL0 (m : MethodId) (ar : Addr) (bI : Int32) (dI : Int32) : entryFrame m #[(.ref ar), (.int bI), (.int dI)] 3 = mkF m 0 #[.val (.ref ar), .val (.int bI), .val (.int dI)] [] := by first | (simp [entryFrame, mkF, argsToLocals, Value.category]; done) | rfl
def own_Q_nsL0 (Z : State) (h0 : Heap) (ar : Addr) (bI : Int32) (dI : Int32) (v : Option Value) (h : Heap) (ms : List Addr) : Prop := (Keep h0 h []) ∧ (∃ (r : Addr) (t : Addr) (kA : ClassId), (ms = []) ∧ (v = some (.ref r)) ∧ (Exa Z h r "java/lang/String") ∧ (Fld Z h r "java/lang/String" "coder" "B" (.int 0)) ∧ (Fld Z h r "java/lang/String" "value" "[B" (.ref t)) ∧ (Arv Z h t kA .byte (0 : Int32) [] (.int 0)))
set_option maxRecDepth 65536 in
set_option maxHeartbeats 40000000 in
theorem own_ct_nsL0 (l : Launch) (Z : State) (a0 : Array Value) (hw : ∀ d ∈ tables_1, d.before a0 Z = true) (EL : List (String × Nat)) (hE : EW Z a0 EL) (n0 : Nat) (ws : List Jvm.Cond) (h0 : Heap) (O : Old Z n0 h0) (ar : Addr) (bI : Int32) (dI : Int32) (hd0 : dI = 0) (hE151 : ("java/lang/StringLatin1", 151) ∈ EL) :
    own_Ct l Z EL n0 (⟨"java/lang/StringLatin1", "newString", "([BII)Ljava/lang/String;"⟩ : MethodName) jdk_43_method_47_code 3 (some (.object "java/lang/String")) ws ({ frames := 0, cells := 2, slots := 4, locals := 0 } : Room) #[(.ref ar), (.int bI), (.int dI)] h0 [] (own_Q_nsL0 Z h0 ar bI dI) := by
 refine own_enter (a0 := a0) own_pf7 hE O fun p e s m below meth c T0 w0 => ?_
 rw [own_ef_nsL0 m ar bI dI]
 have K : Keep h0 h0 [] := Keep.refl _ _
 refine own_iloadN (pc' := 1) w0 own_d7_0 rfl rfl ?_
 refine own_if (pc' := 4) w0 own_d7_1 rfl (by decide) (pcY := 7) rfl (fun (hb1 : ¬ dI = (0 : Int32)) => absurd hd0 hb1) (fun (hb1 : dI = (0 : Int32)) => ?_)
 refine own_ldcS (pc' := 6) w0 (vs := []) (z := (0 : Int32)) (nn := 0) (own_w125 hw) (own_hst hw) hE151 ⟨by decide +kernel, by rfl⟩ (by decide) rfl own_d7_4 rfl (by decide +kernel) (by decide) (by decide) (by decide) hE fun T1 h3 a5 t6 kb7 w2 E4 ⟨E_a5, F_a5_coder, F_a5_value, A_t6, ne8⟩ => ?_
 replace K := K.ext E4
 exact own_retV w2 (t := (.object "java/lang/String")) rfl (own_narR rfl rfl) (Or.inr (Or.inr (Or.inr (Or.inr ⟨rfl, rfl, rfl⟩)))) own_d7_6 (by decide) (by decide) (ms' := []) all0 ⟨K, a5, t6, kb7, rfl, rfl, E_a5, F_a5_coder, F_a5_value, A_t6⟩
theorem own_ef_subE (m : MethodId) (a1 : Addr) (bI : Int32) (eI : Int32) : entryFrame m #[(.ref a1), (.int bI), (.int eI)] 5 = mkF m 0 #[.val (.ref a1), .val (.int bI), .val (.int eI), .unset, .unset] [] := by first | (simp [entryFrame, mkF, argsToLocals, Value.category]; done) | rfl
def own_Q_subE (Z : State) (h0 : Heap) (a1 : Addr) (bI : Int32) (eI : Int32) (t : Addr) (kb : ClassId) (N : Int32) (vs : List Value) (cs : List Int32) (dI : Int32) (b : Nat) (d : Nat) (z5 : Int32) (fm : Value) (v : Option Value) (h : Heap) (ms : List Addr) : Prop := (Keep h0 h []) ∧ (∃ (r : Addr) (t2 : Addr) (kA : ClassId), (ms = []) ∧ (v = some (.ref r)) ∧ (Exa Z h r "java/lang/String") ∧ (Fld Z h r "java/lang/String" "coder" "B" (.int 0)) ∧ (Fld Z h r "java/lang/String" "value" "[B" (.ref t2)) ∧ (Arv Z h t2 kA .byte (0 : Int32) [] (.int 0)))
set_option maxRecDepth 65536 in
set_option maxHeartbeats 40000000 in
theorem own_ct_subE (l : Launch) (Z : State) (a0 : Array Value) (hw : ∀ d ∈ tables_1, d.before a0 Z = true) (EL : List (String × Nat)) (hE : EW Z a0 EL) (n0 : Nat) (ws : List Jvm.Cond) (h0 : Heap) (O : Old Z n0 h0) (a1 : Addr) (bI : Int32) (eI : Int32) (t : Addr) (kb : ClassId) (N : Int32) (vs : List Value) (cs : List Int32) (dI : Int32) (b : Nat) (d : Nat) (z5 : Int32) (fm : Value) (E_a1 : Exa Z h0 a1 "java/lang/String") (F_a1_coder : Fld Z h0 a1 "java/lang/String" "coder" "B" (.int 0)) (F_a1_value : Fld Z h0 a1 "java/lang/String" "value" "[B" (.ref t)) (A_t : Arv Z h0 t kb .byte N vs (.int 0)) (hcd : StrChars.Road.CodA cs 0 N vs) (hbd : ∀ c ∈ cs, ¬ c < 0 ∧ ¬ (65535 : Int32) < c) (l2 : cs.length ≤ 4000) (S_COMPACT_STRINGS : Sta Z Z.heap "java/lang/String" "COMPACT_STRINGS" "Z" (.int z5)) (P5 : ¬ z5 = 0) (S_SIOOBE_FORMATTER : Sta Z Z.heap "jdk/internal/util/Preconditions" "SIOOBE_FORMATTER" "Ljava/util/function/BiFunction;" fm) (hfm : fm.isRef = true) (Rg : own_Rg bI eI dI N b d) (hNL : Int32.ofNat cs.length = N) (hnw : ¬ (bI = 0 ∧ eI = N)) (hd0 : dI = 0) (hE151 : ("java/lang/StringLatin1", 151) ∈ EL) :
    own_Ct l Z EL n0 (⟨"java/lang/String", "substring", "(II)Ljava/lang/String;"⟩ : MethodName) jdk_42_method_92_code 5 (some (.object "java/lang/String")) ws ({ frames := 2, cells := 2, slots := 4, locals := 29 } : Room) #[(.ref a1), (.int bI), (.int eI)] h0 [] (own_Q_subE Z h0 a1 bI eI t kb N vs cs dI b d z5 fm) := by
 refine own_enter (a0 := a0) own_pf11 hE O fun p e s m below meth c T0 w0 => ?_
 rw [own_ef_subE m a1 bI eI]
 have K : Keep h0 h0 [] := Keep.refl _ _
 refine own_aloadN (pc' := 1) w0 own_d11_0 rfl rfl rfl ?_
 refine own_callVB (pc' := 4) w0 (kc := 0) (nc := 0) (own_w46 hw) (own_w31 hw) (fun s' hZ' => notFace_of_selects (args := #[]) (mvT hZ' (own_w33 hw))) (own_w33 hw) (own_w32 hw) (by decide) E_a1 (QQ := fun v h' L => (v = some (.int (Int32.ofNat (List.length cs)))) ∧ L = [] ∧ h' = h0) (fun s' hZ' => StrChars.Road.lenW (W := 0) hZ' (own_hwl hw) (kI := 4) (own_w6 hw) E_a1 F_a1_value F_a1_coder A_t hcd hbd (S_COMPACT_STRINGS.ext (own_old w0).2) P5 l2 (by decide) (by decide)) (ws := []) all0 (fun v h' L q => ⟨q.2.2 ▸ Keep.refl _ _, q.2.1 ▸ Fr.nil _⟩) (argsL := []) (rest := []) rfl rfl own_pd6 rfl own_d11_1 rfl (Nat.le_of_eq rfl) (by decide) (by decide) fun T1 h3 v4 w2 K5 q6 => ?_
 obtain ⟨_, rfl, -, e7⟩ := q6
 rw [e7] at w2
 show own_Go Z EL n0 p e below s _ _ _ (T1.setTop (mkF m 4 _ [(.int (Int32.ofNat (List.length cs)))]))
 refine own_istoreN (pc' := 5) w2 own_d11_4 (Ls' := #[.val (.ref a1), .val (.int bI), .val (.int eI), .val (.int (Int32.ofNat (List.length cs))), .unset]) rfl rfl ?_
 refine own_iloadN (pc' := 6) w2 own_d11_5 rfl rfl ?_
 refine own_iloadN (pc' := 7) w2 own_d11_6 rfl rfl ?_
 refine own_iloadN (pc' := 8) w2 own_d11_7 rfl rfl ?_
 refine own_callS (pc' := 11) w2 (own_w47 hw) (own_w48 hw) (own_w7 hw) (own_w49 hw) (by decide) (own_ct_ckBE l Z a0 hw EL hE n0 [] h0 (own_old w2) bI eI (Int32.ofNat (List.length cs)) fm S_SIOOBE_FORMATTER (hfm) (Rg.1) (Rg.2.2.2.2.2.2.2.1) (hNL ▸ Rg.2.2.2.2.2.2.2.2.1)) all0 (argsL := [(.int bI), (.int eI), (.int (Int32.ofNat (List.length cs)))]) (rest := []) rfl rfl own_pd7 rfl own_d11_8 rfl (by decide) (W := 0) rfl (by decide) (by decide) (by decide) fun T8 h10 v11 ms12 w9 q13 => ?_
 obtain ⟨rfl, rfl, rfl⟩ := q13
 show own_Go Z EL n0 p e below s _ _ _ (T8.setTop (mkF m 11 _ []))
 refine own_iloadN (pc' := 12) w9 own_d11_11 rfl rfl ?_
 refine own_if (pc' := 15) w9 own_d11_12 rfl (by decide) (pcY := 22) rfl (fun (hb12 : ¬ bI = (0 : Int32)) => ?_) (fun (hb12 : bI = (0 : Int32)) => ?_)
 ·
  refine own_iloadN (pc' := 23) w9 own_d11_22 rfl rfl ?_
  refine own_iloadN (pc' := 24) w9 own_d11_23 rfl rfl ?_
  refine own_isub (pc' := 25) w9 own_d11_24 (z := dI) Rg.2.2.1 rfl ?_
  refine own_istore (pc' := 27) w9 own_d11_25 (Ls' := #[.val (.ref a1), .val (.int bI), .val (.int eI), .val (.int (Int32.ofNat (List.length cs))), .val (.int dI)]) rfl rfl ?_
  refine own_aloadN (pc' := 28) w9 own_d11_27 rfl rfl rfl ?_
  refine own_callV (pc' := 31) w9 (own_w81 hw) (own_w82 hw) (fun s' hZ' => notFace_of_selects (args := #[]) (mvT hZ' (own_w84 hw))) (own_w84 hw) (own_w83 hw) (own_w7 hw) (own_w85 hw) (by decide) E_a1 (own_ct_isLat l Z a0 hw EL hE n0 [] h0 (own_old w9) a1 z5 F_a1_coder S_COMPACT_STRINGS (P5)) all0 (argsL := []) (rest := []) rfl rfl own_pd8 rfl own_d11_28 rfl (by decide) (W := 0) rfl (by decide) (by decide) (by decide) fun T14 h16 v17 ms18 w15 q19 => ?_
  obtain ⟨rfl, rfl, rfl⟩ := q19
  show own_Go Z EL n0 p e below s _ _ _ (T14.setTop (mkF m 31 _ [(.int (1 : Int32))]))
  refine own_if (pc' := 34) w15 own_d11_31 rfl (by decide) (pcY := 47) rfl (fun (hb31 : (1 : Int32) = (0 : Int32)) => absurd hb31 (by decide)) (fun (hb31 : ¬ (1 : Int32) = (0 : Int32)) => ?_)
  refine own_aloadN (pc' := 35) w15 own_d11_34 rfl rfl rfl ?_
  refine own_getF (pc' := 38) w15 (host := "") (Or.inl (own_w24 hw)) Via.refl F_a1_value own_d11_35 rfl fun T20 w21 => ?_
  refine own_iloadN (pc' := 39) w21 own_d11_38 rfl rfl ?_
  refine own_iload (pc' := 41) w21 own_d11_39 rfl rfl ?_
  refine own_callS (pc' := 44) w21 (own_w99 hw) (own_w100 hw) (own_w88 hw) (own_w101 hw) (by decide) (own_ct_nsL0 l Z a0 hw EL hE n0 [] h0 (own_old w21) t bI dI (hd0) (hE151)) all0 (argsL := [(.ref t), (.int bI), (.int dI)]) (rest := []) rfl rfl own_pd9 rfl own_d11_41 rfl (by decide) (W := 0) rfl (by decide) (by decide) (by decide) fun T22 h24 v25 ms26 w23 q27 => ?_
  obtain ⟨K31, r_28, t_29, kA_30, rfl, rfl, nw_E_r_28, nw_F_r_28_coder, nw_F_r_28_value, nw_A_t_29⟩ := q27
  replace E_a1 := E_a1.keep K31
  replace F_a1_coder := F_a1_coder.keep K31 nin0
  replace F_a1_value := F_a1_value.keep K31 nin0
  replace A_t := A_t.keep K31 nin0
  replace K := K.trans K31 all0
  have E_r_28 := nw_E_r_28; clear nw_E_r_28
  have F_r_28_coder := nw_F_r_28_coder; clear nw_F_r_28_coder
  have F_r_28_value := nw_F_r_28_value; clear nw_F_r_28_value
  have A_t_29 := nw_A_t_29; clear nw_A_t_29
  show own_Go Z EL n0 p e below s _ _ _ (T22.setTop (mkF m 44 _ [(.ref r_28)]))
  refine own_goto w23 own_d11_44 (by decide) (pc' := 57) rfl ?_
  exact own_retV w23 (t := (.object "java/lang/String")) rfl (own_narR rfl rfl) (Or.inr (Or.inr (Or.inr (Or.inr ⟨rfl, rfl, rfl⟩)))) own_d11_57 (by decide) (by decide) (ms' := []) all0 ⟨K, r_28, t_29, kA_30, rfl, rfl, E_r_28, F_r_28_coder, F_r_28_value, A_t_29⟩
 ·
  refine own_iloadN (pc' := 16) w9 own_d11_15 rfl rfl ?_
  refine own_iloadN (pc' := 17) w9 own_d11_16 rfl rfl ?_
  refine own_icmp (pc' := 20) w9 own_d11_17 rfl (by decide) (pcY := 22) rfl (fun (hb17 : ¬ eI = (Int32.ofNat (List.length cs))) => ?_) (fun (hb17 : eI = (Int32.ofNat (List.length cs))) => absurd ⟨hb12, hb17.trans hNL⟩ hnw)
  refine own_iloadN (pc' := 23) w9 own_d11_22 rfl rfl ?_
  refine own_iloadN (pc' := 24) w9 own_d11_23 rfl rfl ?_
  refine own_isub (pc' := 25) w9 own_d11_24 (z := dI) Rg.2.2.1 rfl ?_
  refine own_istore (pc' := 27) w9 own_d11_25 (Ls' := #[.val (.ref a1), .val (.int bI), .val (.int eI), .val (.int (Int32.ofNat (List.length cs))), .val (.int dI)]) rfl rfl ?_
  refine own_aloadN (pc' := 28) w9 own_d11_27 rfl rfl rfl ?_
  refine own_callV (pc' := 31) w9 (own_w81 hw) (own_w82 hw) (fun s' hZ' => notFace_of_selects (args := #[]) (mvT hZ' (own_w84 hw))) (own_w84 hw) (own_w83 hw) (own_w7 hw) (own_w85 hw) (by decide) E_a1 (own_ct_isLat l Z a0 hw EL hE n0 [] h0 (own_old w9) a1 z5 F_a1_coder S_COMPACT_STRINGS (P5)) all0 (argsL := []) (rest := []) rfl rfl own_pd8 rfl own_d11_28 rfl (by decide) (W := 0) rfl (by decide) (by decide) (by decide) fun T32 h34 v35 ms36 w33 q37 => ?_
  obtain ⟨rfl, rfl, rfl⟩ := q37
  show own_Go Z EL n0 p e below s _ _ _ (T32.setTop (mkF m 31 _ [(.int (1 : Int32))]))
  refine own_if (pc' := 34) w33 own_d11_31 rfl (by decide) (pcY := 47) rfl (fun (hb31 : (1 : Int32) = (0 : Int32)) => absurd hb31 (by decide)) (fun (hb31 : ¬ (1 : Int32) = (0 : Int32)) => ?_)
  refine own_aloadN (pc' := 35) w33 own_d11_34 rfl rfl rfl ?_
  refine own_getF (pc' := 38) w33 (host := "") (Or.inl (own_w24 hw)) Via.refl F_a1_value own_d11_35 rfl fun T38 w39 => ?_
  refine own_iloadN (pc' := 39) w39 own_d11_38 rfl rfl ?_
  refine own_iload (pc' := 41) w39 own_d11_39 rfl rfl ?_
  refine own_callS (pc' := 44) w39 (own_w99 hw) (own_w100 hw) (own_w88 hw) (own_w101 hw) (by decide) (own_ct_nsL0 l Z a0 hw EL hE n0 [] h0 (own_old w39) t bI dI (hd0) (hE151)) all0 (argsL := [(.ref t), (.int bI), (.int dI)]) (rest := []) rfl rfl own_pd9 rfl own_d11_41 rfl (by decide) (W := 0) rfl (by decide) (by decide) (by decide) fun T40 h42 v43 ms44 w41 q45 => ?_
  obtain ⟨K49, r_46, t_47, kA_48, rfl, rfl, nw_E_r_46, nw_F_r_46_coder, nw_F_r_46_value, nw_A_t_47⟩ := q45
  replace E_a1 := E_a1.keep K49
  replace F_a1_coder := F_a1_coder.keep K49 nin0
  replace F_a1_value := F_a1_value.keep K49 nin0
  replace A_t := A_t.keep K49 nin0
  replace K := K.trans K49 all0
  have E_r_46 := nw_E_r_46; clear nw_E_r_46
  have F_r_46_coder := nw_F_r_46_coder; clear nw_F_r_46_coder
  have F_r_46_value := nw_F_r_46_value; clear nw_F_r_46_value
  have A_t_47 := nw_A_t_47; clear nw_A_t_47
  show own_Go Z EL n0 p e below s _ _ _ (T40.setTop (mkF m 44 _ [(.ref r_46)]))
  refine own_goto w41 own_d11_44 (by decide) (pc' := 57) rfl ?_
  exact own_retV w41 (t := (.object "java/lang/String")) rfl (own_narR rfl rfl) (Or.inr (Or.inr (Or.inr (Or.inr ⟨rfl, rfl, rfl⟩)))) own_d11_57 (by decide) (by decide) (ms' := []) all0 ⟨K, r_46, t_47, kA_48, rfl, rfl, E_r_46, F_r_46_coder, F_r_46_value, A_t_47⟩
theorem own_d11_20 : decode jdk_42_method_92_code 20 = .ok (.aload_n 0, 1) := by decide +kernel
theorem own_d11_21 : decode jdk_42_method_92_code 21 = .ok (.areturn, 1) := by decide +kernel
theorem own_ef_subW (m : MethodId) (a1 : Addr) (bI : Int32) (eI : Int32) : entryFrame m #[(.ref a1), (.int bI), (.int eI)] 5 = mkF m 0 #[.val (.ref a1), .val (.int bI), .val (.int eI), .unset, .unset] [] := by first | (simp [entryFrame, mkF, argsToLocals, Value.category]; done) | rfl
def own_Q_subW (Z : State) (h0 : Heap) (a1 : Addr) (bI : Int32) (eI : Int32) (t : Addr) (kb : ClassId) (N : Int32) (vs : List Value) (cs : List Int32) (dI : Int32) (b : Nat) (d : Nat) (z5 : Int32) (fm : Value) (v : Option Value) (h : Heap) (ms : List Addr) : Prop := (h0 = h) ∧ (ms = []) ∧ (v = some (.ref a1))
set_option maxRecDepth 65536 in
set_option maxHeartbeats 40000000 in
theorem own_ct_subW (l : Launch) (Z : State) (a0 : Array Value) (hw : ∀ d ∈ tables_1, d.before a0 Z = true) (EL : List (String × Nat)) (hE : EW Z a0 EL) (n0 : Nat) (ws : List Jvm.Cond) (h0 : Heap) (O : Old Z n0 h0) (a1 : Addr) (bI : Int32) (eI : Int32) (t : Addr) (kb : ClassId) (N : Int32) (vs : List Value) (cs : List Int32) (dI : Int32) (b : Nat) (d : Nat) (z5 : Int32) (fm : Value) (E_a1 : Exa Z h0 a1 "java/lang/String") (F_a1_coder : Fld Z h0 a1 "java/lang/String" "coder" "B" (.int 0)) (F_a1_value : Fld Z h0 a1 "java/lang/String" "value" "[B" (.ref t)) (A_t : Arv Z h0 t kb .byte N vs (.int 0)) (hcd : StrChars.Road.CodA cs 0 N vs) (hbd : ∀ c ∈ cs, ¬ c < 0 ∧ ¬ (65535 : Int32) < c) (l2 : cs.length ≤ 4000) (S_COMPACT_STRINGS : Sta Z Z.heap "java/lang/String" "COMPACT_STRINGS" "Z" (.int z5)) (P5 : ¬ z5 = 0) (S_SIOOBE_FORMATTER : Sta Z Z.heap "jdk/internal/util/Preconditions" "SIOOBE_FORMATTER" "Ljava/util/function/BiFunction;" fm) (hfm : fm.isRef = true) (Rg : own_Rg bI eI dI N b d) (hNL : Int32.ofNat cs.length = N) (hw0 : bI = 0) (hwN : eI = N) :
    own_Ct l Z EL n0 (⟨"java/lang/String", "substring", "(II)Ljava/lang/String;"⟩ : MethodName) jdk_42_method_92_code 5 (some (.object "java/lang/String")) ws ({ frames := 2, cells := 0, slots := 0, locals := 29 } : Room) #[(.ref a1), (.int bI), (.int eI)] h0 [] (own_Q_subW Z h0 a1 bI eI t kb N vs cs dI b d z5 fm) := by
 refine own_enter (a0 := a0) own_pf11 hE O fun p e s m below meth c T0 w0 => ?_
 rw [own_ef_subW m a1 bI eI]
 refine own_aloadN (pc' := 1) w0 own_d11_0 rfl rfl rfl ?_
 refine own_callVB (pc' := 4) w0 (kc := 0) (nc := 0) (own_w46 hw) (own_w31 hw) (fun s' hZ' => notFace_of_selects (args := #[]) (mvT hZ' (own_w33 hw))) (own_w33 hw) (own_w32 hw) (by decide) E_a1 (QQ := fun v h' L => (v = some (.int (Int32.ofNat (List.length cs)))) ∧ L = [] ∧ h' = h0) (fun s' hZ' => StrChars.Road.lenW (W := 0) hZ' (own_hwl hw) (kI := 4) (own_w6 hw) E_a1 F_a1_value F_a1_coder A_t hcd hbd (S_COMPACT_STRINGS.ext (own_old w0).2) P5 l2 (by decide) (by decide)) (ws := []) all0 (fun v h' L q => ⟨q.2.2 ▸ Keep.refl _ _, q.2.1 ▸ Fr.nil _⟩) (argsL := []) (rest := []) rfl rfl own_pd6 rfl own_d11_1 rfl (Nat.le_of_eq rfl) (by decide) (by decide) fun T1 h3 v4 w2 K5 q6 => ?_
 obtain ⟨_, rfl, -, e7⟩ := q6
 rw [e7] at w2
 show own_Go Z EL n0 p e below s _ _ _ (T1.setTop (mkF m 4 _ [(.int (Int32.ofNat (List.length cs)))]))
 refine own_istoreN (pc' := 5) w2 own_d11_4 (Ls' := #[.val (.ref a1), .val (.int bI), .val (.int eI), .val (.int (Int32.ofNat (List.length cs))), .unset]) rfl rfl ?_
 refine own_iloadN (pc' := 6) w2 own_d11_5 rfl rfl ?_
 refine own_iloadN (pc' := 7) w2 own_d11_6 rfl rfl ?_
 refine own_iloadN (pc' := 8) w2 own_d11_7 rfl rfl ?_
 refine own_callS (pc' := 11) w2 (own_w47 hw) (own_w48 hw) (own_w7 hw) (own_w49 hw) (by decide) (own_ct_ckBE l Z a0 hw EL hE n0 [] h0 (own_old w2) bI eI (Int32.ofNat (List.length cs)) fm S_SIOOBE_FORMATTER (hfm) (Rg.1) (Rg.2.2.2.2.2.2.2.1) (hNL ▸ Rg.2.2.2.2.2.2.2.2.1)) all0 (argsL := [(.int bI), (.int eI), (.int (Int32.ofNat (List.length cs)))]) (rest := []) rfl rfl own_pd7 rfl own_d11_8 rfl (by decide) (W := 0) rfl (by decide) (by decide) (by decide) fun T8 h10 v11 ms12 w9 q13 => ?_
 obtain ⟨rfl, rfl, rfl⟩ := q13
 show own_Go Z EL n0 p e below s _ _ _ (T8.setTop (mkF m 11 _ []))
 refine own_iloadN (pc' := 12) w9 own_d11_11 rfl rfl ?_
 refine own_if (pc' := 15) w9 own_d11_12 rfl (by decide) (pcY := 22) rfl (fun (hb12 : ¬ bI = (0 : Int32)) => absurd hw0 hb12) (fun (hb12 : bI = (0 : Int32)) => ?_)
 refine own_iloadN (pc' := 16) w9 own_d11_15 rfl rfl ?_
 refine own_iloadN (pc' := 17) w9 own_d11_16 rfl rfl ?_
 refine own_icmp (pc' := 20) w9 own_d11_17 rfl (by decide) (pcY := 22) rfl (fun (hb17 : ¬ eI = (Int32.ofNat (List.length cs))) => absurd (hwN.trans hNL.symm) hb17) (fun (hb17 : eI = (Int32.ofNat (List.length cs))) => ?_)
 refine own_aloadN (pc' := 21) w9 own_d11_20 rfl rfl rfl ?_
 exact own_retV w9 (t := (.object "java/lang/String")) rfl (own_narR rfl rfl) (Or.inr (Or.inr (Or.inr (Or.inr ⟨rfl, rfl, rfl⟩)))) own_d11_21 (by decide) (by decide) (ms' := []) all0 ⟨rfl, rfl, rfl⟩
theorem own_ef_minV (m : MethodId) (xx : Int32) (yy : Int32) : entryFrame m #[(.int xx), (.int yy)] 2 = mkF m 0 #[.val (.int xx), .val (.int yy)] [] := by first | (simp [entryFrame, mkF, argsToLocals, Value.category]; done) | rfl
def own_Q_minV (Z : State) (h0 : Heap) (xx : Int32) (yy : Int32) (mv : Int32) (v : Option Value) (h : Heap) (ms : List Addr) : Prop := (h0 = h) ∧ (ms = []) ∧ (v = some (.int mv))
set_option maxRecDepth 65536 in
set_option maxHeartbeats 40000000 in
theorem own_ct_minV (l : Launch) (Z : State) (a0 : Array Value) (hw : ∀ d ∈ tables_1, d.before a0 Z = true) (EL : List (String × Nat)) (hE : EW Z a0 EL) (n0 : Nat) (ws : List Jvm.Cond) (h0 : Heap) (O : Old Z n0 h0) (xx : Int32) (yy : Int32) (mv : Int32) (hmv : own_min xx yy = mv) :
    own_Ct l Z EL n0 (⟨"java/lang/Math", "min", "(II)I"⟩ : MethodName) jdk_29_method_69_code 2 (some .int) ws ({ frames := 0, cells := 0, slots := 0, locals := 0 } : Room) #[(.int xx), (.int yy)] h0 [] (own_Q_minV Z h0 xx yy mv) := by
 refine own_enter (a0 := a0) own_pf4 hE O fun p e s m below meth c T0 w0 => ?_
 rw [own_ef_minV m xx yy]
 refine own_iloadN (pc' := 1) w0 own_d4_0 rfl rfl ?_
 refine own_iloadN (pc' := 2) w0 own_d4_1 rfl rfl ?_
 refine own_icmp (pc' := 5) w0 own_d4_2 rfl (by decide) (pcY := 9) rfl (fun (hb2 : yy < xx) => ?_) (fun (hb2 : ¬ yy < xx) => ?_)
 ·
  refine own_iloadN (pc' := 10) w0 own_d4_9 rfl rfl ?_
  exact own_retV w0 (t := .int) rfl rfl (Or.inl ⟨rfl, by simp, _, rfl⟩) own_d4_10 (by decide) (by decide) (ms' := []) all0 ⟨rfl, rfl, (by rw [← hmv, own_min, if_pos hb2])⟩
 ·
  refine own_iloadN (pc' := 6) w0 own_d4_5 rfl rfl ?_
  refine own_goto w0 own_d4_6 (by decide) (pc' := 10) rfl ?_
  exact own_retV w0 (t := .int) rfl rfl (Or.inl ⟨rfl, by simp, _, rfl⟩) own_d4_10 (by decide) (by decide) (ms' := []) all0 ⟨rfl, rfl, (by rw [← hmv, own_min, if_neg hb2])⟩
theorem own_d12_0 : decode prog_41_method_7_code 0 = .ok (.iload_n 0, 1) := by decide +kernel
theorem own_d12_1 : decode prog_41_method_7_code 1 = .ok (.bipush 32, 2) := by decide +kernel
theorem own_d12_3 : decode prog_41_method_7_code 3 = .ok (.if_icmp .eq 21, 3) := by decide +kernel
theorem own_d12_24 : decode prog_41_method_7_code 24 = .ok (.iconst 1, 1) := by decide +kernel
theorem own_d12_25 : decode prog_41_method_7_code 25 = .ok (.goto 4, 3) := by decide +kernel
theorem own_d12_29 : decode prog_41_method_7_code 29 = .ok (.ireturn, 1) := by decide +kernel
theorem own_d12_6 : decode prog_41_method_7_code 6 = .ok (.iload_n 0, 1) := by decide +kernel
theorem own_d12_7 : decode prog_41_method_7_code 7 = .ok (.bipush 9, 2) := by decide +kernel
theorem own_d12_9 : decode prog_41_method_7_code 9 = .ok (.if_icmp .eq 15, 3) := by decide +kernel
theorem own_d12_12 : decode prog_41_method_7_code 12 = .ok (.iload_n 0, 1) := by decide +kernel
theorem own_d12_13 : decode prog_41_method_7_code 13 = .ok (.bipush 13, 2) := by decide +kernel
theorem own_d12_15 : decode prog_41_method_7_code 15 = .ok (.if_icmp .eq 9, 3) := by decide +kernel
theorem own_d12_18 : decode prog_41_method_7_code 18 = .ok (.iload_n 0, 1) := by decide +kernel
theorem own_d12_19 : decode prog_41_method_7_code 19 = .ok (.bipush 10, 2) := by decide +kernel
theorem own_d12_21 : decode prog_41_method_7_code 21 = .ok (.if_icmp .ne 7, 3) := by decide +kernel
theorem own_d12_28 : decode prog_41_method_7_code 28 = .ok (.iconst 0, 1) := by decide +kernel
theorem own_ef_isSp (m : MethodId) (cc : Int32) : entryFrame m #[(.int cc)] 1 = mkF m 0 #[.val (.int cc)] [] := by first | (simp [entryFrame, mkF, argsToLocals, Value.category]; done) | rfl
theorem own_pf12 : plainFor (⟨"com/example/caddis/caddis/conformance/XmlValues", "isSpace", "(C)Z"⟩ : MethodName) = true := by first | exact plainFor_of_name (by first | (simp [plainName, overriddenIn]; done) | decide +kernel) | decide +kernel
def own_Q_isSp (Z : State) (h0 : Heap) (cc : Int32) (v : Option Value) (h : Heap) (ms : List Addr) : Prop := (h0 = h) ∧ (ms = []) ∧ (v = some (.int (if own_sp cc then 1 else 0)))
set_option maxRecDepth 65536 in
set_option maxHeartbeats 40000000 in
theorem own_ct_isSp (l : Launch) (Z : State) (a0 : Array Value) (hw : ∀ d ∈ tables_1, d.before a0 Z = true) (EL : List (String × Nat)) (hE : EW Z a0 EL) (n0 : Nat) (ws : List Jvm.Cond) (h0 : Heap) (O : Old Z n0 h0) (cc : Int32)  :
    own_Ct l Z EL n0 (⟨"com/example/caddis/caddis/conformance/XmlValues", "isSpace", "(C)Z"⟩ : MethodName) prog_41_method_7_code 1 (some .boolean) ws ({ frames := 0, cells := 0, slots := 0, locals := 0 } : Room) #[(.int cc)] h0 [] (own_Q_isSp Z h0 cc) := by
 refine own_enter (a0 := a0) own_pf12 hE O fun p e s m below meth c T0 w0 => ?_
 rw [own_ef_isSp m cc]
 refine own_iloadN (pc' := 1) w0 own_d12_0 rfl rfl ?_
 refine own_bipush (pc' := 3) w0 own_d12_1 (x := (32 : Int32)) rfl rfl ?_
 refine own_icmp (pc' := 6) w0 own_d12_3 rfl (by decide) (pcY := 24) rfl (fun (hb3 : cc = (32 : Int32)) => ?_) (fun (hb3 : ¬ cc = (32 : Int32)) => ?_)
 ·
  refine own_iconst (pc' := 25) w0 own_d12_24 (x := (1 : Int32)) rfl rfl ?_
  refine own_goto w0 own_d12_25 (by decide) (pc' := 29) rfl ?_
  exact own_retV w0 (t := .boolean) rfl rfl (Or.inl ⟨rfl, by simp, _, rfl⟩) own_d12_29 (by decide) (by decide) (ms' := []) all0 ⟨rfl, rfl, (by simp [own_sp, hb3])⟩
 ·
  refine own_iloadN (pc' := 7) w0 own_d12_6 rfl rfl ?_
  refine own_bipush (pc' := 9) w0 own_d12_7 (x := (9 : Int32)) rfl rfl ?_
  refine own_icmp (pc' := 12) w0 own_d12_9 rfl (by decide) (pcY := 24) rfl (fun (hb9 : cc = (9 : Int32)) => ?_) (fun (hb9 : ¬ cc = (9 : Int32)) => ?_)
  ·
   refine own_iconst (pc' := 25) w0 own_d12_24 (x := (1 : Int32)) rfl rfl ?_
   refine own_goto w0 own_d12_25 (by decide) (pc' := 29) rfl ?_
   exact own_retV w0 (t := .boolean) rfl rfl (Or.inl ⟨rfl, by simp, _, rfl⟩) own_d12_29 (by decide) (by decide) (ms' := []) all0 ⟨rfl, rfl, (by simp [own_sp, hb3, hb9])⟩
  ·
   refine own_iloadN (pc' := 13) w0 own_d12_12 rfl rfl ?_
   refine own_bipush (pc' := 15) w0 own_d12_13 (x := (13 : Int32)) rfl rfl ?_
   refine own_icmp (pc' := 18) w0 own_d12_15 rfl (by decide) (pcY := 24) rfl (fun (hb15 : cc = (13 : Int32)) => ?_) (fun (hb15 : ¬ cc = (13 : Int32)) => ?_)
   ·
    refine own_iconst (pc' := 25) w0 own_d12_24 (x := (1 : Int32)) rfl rfl ?_
    refine own_goto w0 own_d12_25 (by decide) (pc' := 29) rfl ?_
    exact own_retV w0 (t := .boolean) rfl rfl (Or.inl ⟨rfl, by simp, _, rfl⟩) own_d12_29 (by decide) (by decide) (ms' := []) all0 ⟨rfl, rfl, (by simp [own_sp, hb3, hb9, hb15])⟩
   ·
    refine own_iloadN (pc' := 19) w0 own_d12_18 rfl rfl ?_
    refine own_bipush (pc' := 21) w0 own_d12_19 (x := (10 : Int32)) rfl rfl ?_
    refine own_icmp (pc' := 24) w0 own_d12_21 rfl (by decide) (pcY := 28) rfl (fun (hb21 : ¬ cc = (10 : Int32)) => ?_) (fun (hb21 : cc = (10 : Int32)) => ?_)
    ·
     refine own_iconst (pc' := 29) w0 own_d12_28 (x := (0 : Int32)) rfl rfl ?_
     exact own_retV w0 (t := .boolean) rfl rfl (Or.inl ⟨rfl, by simp, _, rfl⟩) own_d12_29 (by decide) (by decide) (ms' := []) all0 ⟨rfl, rfl, (by simp [own_sp, hb3, hb9, hb15, hb21])⟩
    ·
     refine own_iconst (pc' := 25) w0 own_d12_24 (x := (1 : Int32)) rfl rfl ?_
     refine own_goto w0 own_d12_25 (by decide) (pc' := 29) rfl ?_
     exact own_retV w0 (t := .boolean) rfl rfl (Or.inl ⟨rfl, by simp, _, rfl⟩) own_d12_29 (by decide) (by decide) (ms' := []) all0 ⟨rfl, rfl, (by simp [own_sp, hb3, hb9, hb15, hb21])⟩
theorem own_d13_0 : decode method_3_code 0 = .ok (.iload_n 0, 1) := by decide +kernel
theorem own_d13_1 : decode method_3_code 1 = .ok (.bipush 32, 2) := by decide +kernel
theorem own_d13_3 : decode method_3_code 3 = .ok (.if_icmp .eq 21, 3) := by decide +kernel
theorem own_d13_24 : decode method_3_code 24 = .ok (.iconst 1, 1) := by decide +kernel
theorem own_d13_25 : decode method_3_code 25 = .ok (.goto 4, 3) := by decide +kernel
theorem own_d13_29 : decode method_3_code 29 = .ok (.ireturn, 1) := by decide +kernel
theorem own_d13_6 : decode method_3_code 6 = .ok (.iload_n 0, 1) := by decide +kernel
theorem own_d13_7 : decode method_3_code 7 = .ok (.bipush 9, 2) := by decide +kernel
theorem own_d13_9 : decode method_3_code 9 = .ok (.if_icmp .eq 15, 3) := by decide +kernel
theorem own_d13_12 : decode method_3_code 12 = .ok (.iload_n 0, 1) := by decide +kernel
theorem own_d13_13 : decode method_3_code 13 = .ok (.bipush 10, 2) := by decide +kernel
theorem own_d13_15 : decode method_3_code 15 = .ok (.if_icmp .eq 9, 3) := by decide +kernel
theorem own_d13_18 : decode method_3_code 18 = .ok (.iload_n 0, 1) := by decide +kernel
theorem own_d13_19 : decode method_3_code 19 = .ok (.bipush 13, 2) := by decide +kernel
theorem own_d13_21 : decode method_3_code 21 = .ok (.if_icmp .ne 7, 3) := by decide +kernel
theorem own_d13_28 : decode method_3_code 28 = .ok (.iconst 0, 1) := by decide +kernel
theorem own_ef_spL (m : MethodId) (cc : Int32) : entryFrame m #[(.int cc)] 1 = mkF m 0 #[.val (.int cc)] [] := by first | (simp [entryFrame, mkF, argsToLocals, Value.category]; done) | rfl
theorem own_pf13 : plainFor (⟨"com/example/caddis/caddis/conformance/XmlValuesTrimPinLaw", "sp", "(C)Z"⟩ : MethodName) = true := by first | exact plainFor_of_name (by first | (simp [plainName, overriddenIn]; done) | decide +kernel) | decide +kernel
def own_Q_spL (Z : State) (h0 : Heap) (cc : Int32) (v : Option Value) (h : Heap) (ms : List Addr) : Prop := (h0 = h) ∧ (ms = []) ∧ (v = some (.int (if own_sp cc then 1 else 0)))
set_option maxRecDepth 65536 in
set_option maxHeartbeats 40000000 in
theorem own_ct_spL (l : Launch) (Z : State) (a0 : Array Value) (hw : ∀ d ∈ tables_1, d.before a0 Z = true) (EL : List (String × Nat)) (hE : EW Z a0 EL) (n0 : Nat) (ws : List Jvm.Cond) (h0 : Heap) (O : Old Z n0 h0) (cc : Int32)  :
    own_Ct l Z EL n0 (⟨"com/example/caddis/caddis/conformance/XmlValuesTrimPinLaw", "sp", "(C)Z"⟩ : MethodName) method_3_code 1 (some .boolean) ws ({ frames := 0, cells := 0, slots := 0, locals := 0 } : Room) #[(.int cc)] h0 [] (own_Q_spL Z h0 cc) := by
 refine own_enter (a0 := a0) own_pf13 hE O fun p e s m below meth c T0 w0 => ?_
 rw [own_ef_spL m cc]
 refine own_iloadN (pc' := 1) w0 own_d13_0 rfl rfl ?_
 refine own_bipush (pc' := 3) w0 own_d13_1 (x := (32 : Int32)) rfl rfl ?_
 refine own_icmp (pc' := 6) w0 own_d13_3 rfl (by decide) (pcY := 24) rfl (fun (hb3 : cc = (32 : Int32)) => ?_) (fun (hb3 : ¬ cc = (32 : Int32)) => ?_)
 ·
  refine own_iconst (pc' := 25) w0 own_d13_24 (x := (1 : Int32)) rfl rfl ?_
  refine own_goto w0 own_d13_25 (by decide) (pc' := 29) rfl ?_
  exact own_retV w0 (t := .boolean) rfl rfl (Or.inl ⟨rfl, by simp, _, rfl⟩) own_d13_29 (by decide) (by decide) (ms' := []) all0 ⟨rfl, rfl, (by simp [own_sp, hb3])⟩
 ·
  refine own_iloadN (pc' := 7) w0 own_d13_6 rfl rfl ?_
  refine own_bipush (pc' := 9) w0 own_d13_7 (x := (9 : Int32)) rfl rfl ?_
  refine own_icmp (pc' := 12) w0 own_d13_9 rfl (by decide) (pcY := 24) rfl (fun (hb9 : cc = (9 : Int32)) => ?_) (fun (hb9 : ¬ cc = (9 : Int32)) => ?_)
  ·
   refine own_iconst (pc' := 25) w0 own_d13_24 (x := (1 : Int32)) rfl rfl ?_
   refine own_goto w0 own_d13_25 (by decide) (pc' := 29) rfl ?_
   exact own_retV w0 (t := .boolean) rfl rfl (Or.inl ⟨rfl, by simp, _, rfl⟩) own_d13_29 (by decide) (by decide) (ms' := []) all0 ⟨rfl, rfl, (by simp [own_sp, hb3, hb9])⟩
  ·
   refine own_iloadN (pc' := 13) w0 own_d13_12 rfl rfl ?_
   refine own_bipush (pc' := 15) w0 own_d13_13 (x := (10 : Int32)) rfl rfl ?_
   refine own_icmp (pc' := 18) w0 own_d13_15 rfl (by decide) (pcY := 24) rfl (fun (hb15 : cc = (10 : Int32)) => ?_) (fun (hb15 : ¬ cc = (10 : Int32)) => ?_)
   ·
    refine own_iconst (pc' := 25) w0 own_d13_24 (x := (1 : Int32)) rfl rfl ?_
    refine own_goto w0 own_d13_25 (by decide) (pc' := 29) rfl ?_
    exact own_retV w0 (t := .boolean) rfl rfl (Or.inl ⟨rfl, by simp, _, rfl⟩) own_d13_29 (by decide) (by decide) (ms' := []) all0 ⟨rfl, rfl, (by simp [own_sp, hb3, hb9, hb15])⟩
   ·
    refine own_iloadN (pc' := 19) w0 own_d13_18 rfl rfl ?_
    refine own_bipush (pc' := 21) w0 own_d13_19 (x := (13 : Int32)) rfl rfl ?_
    refine own_icmp (pc' := 24) w0 own_d13_21 rfl (by decide) (pcY := 28) rfl (fun (hb21 : ¬ cc = (13 : Int32)) => ?_) (fun (hb21 : cc = (13 : Int32)) => ?_)
    ·
     refine own_iconst (pc' := 29) w0 own_d13_28 (x := (0 : Int32)) rfl rfl ?_
     exact own_retV w0 (t := .boolean) rfl rfl (Or.inl ⟨rfl, by simp, _, rfl⟩) own_d13_29 (by decide) (by decide) (ms' := []) all0 ⟨rfl, rfl, (by simp [own_sp, hb3, hb9, hb15, hb21])⟩
    ·
     refine own_iconst (pc' := 25) w0 own_d13_24 (x := (1 : Int32)) rfl rfl ?_
     refine own_goto w0 own_d13_25 (by decide) (pc' := 29) rfl ?_
     exact own_retV w0 (t := .boolean) rfl rfl (Or.inl ⟨rfl, by simp, _, rfl⟩) own_d13_29 (by decide) (by decide) (ms' := []) all0 ⟨rfl, rfl, (by simp [own_sp, hb3, hb9, hb15, hb21])⟩
theorem own_d14_0 : decode method_2_code 0 = .ok (.iload_n 0, 1) := by decide +kernel
theorem own_d14_1 : decode method_2_code 1 = .ok (.bipush 7, 2) := by decide +kernel
theorem own_d14_3 : decode method_2_code 3 = .ok (.iand, 1) := by decide +kernel
theorem own_d14_4 : decode method_2_code 4 = .ok (.istore_n 1, 1) := by decide +kernel
theorem own_d14_5 : decode method_2_code 5 = .ok (.iload_n 1, 1) := by decide +kernel
theorem own_d14_6 : decode method_2_code 6 = .ok (.ifCond .ne 6, 3) := by decide +kernel
theorem own_d14_12 : decode method_2_code 12 = .ok (.iload_n 1, 1) := by decide +kernel
theorem own_d14_13 : decode method_2_code 13 = .ok (.iconst 1, 1) := by decide +kernel
theorem own_d14_14 : decode method_2_code 14 = .ok (.if_icmp .ne 6, 3) := by decide +kernel
theorem own_d14_20 : decode method_2_code 20 = .ok (.iload_n 1, 1) := by decide +kernel
theorem own_d14_21 : decode method_2_code 21 = .ok (.iconst 2, 1) := by decide +kernel
theorem own_d14_22 : decode method_2_code 22 = .ok (.if_icmp .ne 6, 3) := by decide +kernel
theorem own_d14_28 : decode method_2_code 28 = .ok (.iload_n 1, 1) := by decide +kernel
theorem own_d14_29 : decode method_2_code 29 = .ok (.iconst 3, 1) := by decide +kernel
theorem own_d14_30 : decode method_2_code 30 = .ok (.if_icmp .ne 6, 3) := by decide +kernel
theorem own_d14_36 : decode method_2_code 36 = .ok (.iload_n 0, 1) := by decide +kernel
theorem own_d14_37 : decode method_2_code 37 = .ok (.iconst 3, 1) := by decide +kernel
theorem own_d14_38 : decode method_2_code 38 = .ok (.iushr, 1) := by decide +kernel
theorem own_d14_39 : decode method_2_code 39 = .ok (.sipush 255, 3) := by decide +kernel
theorem own_d14_42 : decode method_2_code 42 = .ok (.iand, 1) := by decide +kernel
theorem own_d14_43 : decode method_2_code 43 = .ok (.i2c, 1) := by decide +kernel
theorem own_d14_44 : decode method_2_code 44 = .ok (.ireturn, 1) := by decide +kernel
theorem own_d14_33 : decode method_2_code 33 = .ok (.bipush 10, 2) := by decide +kernel
theorem own_d14_35 : decode method_2_code 35 = .ok (.ireturn, 1) := by decide +kernel
theorem own_d14_25 : decode method_2_code 25 = .ok (.bipush 13, 2) := by decide +kernel
theorem own_d14_27 : decode method_2_code 27 = .ok (.ireturn, 1) := by decide +kernel
theorem own_d14_17 : decode method_2_code 17 = .ok (.bipush 9, 2) := by decide +kernel
theorem own_d14_19 : decode method_2_code 19 = .ok (.ireturn, 1) := by decide +kernel
theorem own_d14_9 : decode method_2_code 9 = .ok (.bipush 32, 2) := by decide +kernel
theorem own_d14_11 : decode method_2_code 11 = .ok (.ireturn, 1) := by decide +kernel
theorem own_ef_chr (m : MethodId) (pp : Int32) : entryFrame m #[(.int pp)] 2 = mkF m 0 #[.val (.int pp), .unset] [] := by first | (simp [entryFrame, mkF, argsToLocals, Value.category]; done) | rfl
theorem own_pf14 : plainFor (⟨"com/example/caddis/caddis/conformance/XmlValuesTrimPinLaw", "ch", "(I)C"⟩ : MethodName) = true := by first | exact plainFor_of_name (by first | (simp [plainName, overriddenIn]; done) | decide +kernel) | decide +kernel
def own_Q_chr (Z : State) (h0 : Heap) (pp : Int32) (v : Option Value) (h : Heap) (ms : List Addr) : Prop := (h0 = h) ∧ (ms = []) ∧ (∃ (ch : Int32), (v = some (.int ch)) ∧ (¬ ch < 0 ∧ ¬ (255 : Int32) < ch))
set_option maxRecDepth 65536 in
set_option maxHeartbeats 40000000 in
theorem own_ct_chr (l : Launch) (Z : State) (a0 : Array Value) (hw : ∀ d ∈ tables_1, d.before a0 Z = true) (EL : List (String × Nat)) (hE : EW Z a0 EL) (n0 : Nat) (ws : List Jvm.Cond) (h0 : Heap) (O : Old Z n0 h0) (pp : Int32)  :
    own_Ct l Z EL n0 (⟨"com/example/caddis/caddis/conformance/XmlValuesTrimPinLaw", "ch", "(I)C"⟩ : MethodName) method_2_code 2 (some .char) ws ({ frames := 0, cells := 0, slots := 0, locals := 0 } : Room) #[(.int pp)] h0 [] (own_Q_chr Z h0 pp) := by
 refine own_enter (a0 := a0) own_pf14 hE O fun p e s m below meth c T0 w0 => ?_
 rw [own_ef_chr m pp]
 refine own_iloadN (pc' := 1) w0 own_d14_0 rfl rfl ?_
 refine own_bipush (pc' := 3) w0 own_d14_1 (x := (7 : Int32)) rfl rfl ?_
 refine own_iand (pc' := 4) w0 own_d14_3 (z := (pp &&& (7 : Int32))) rfl rfl ?_
 refine own_istoreN (pc' := 5) w0 own_d14_4 (Ls' := #[.val (.int pp), .val (.int (pp &&& (7 : Int32)))]) rfl rfl ?_
 refine own_iloadN (pc' := 6) w0 own_d14_5 rfl rfl ?_
 refine own_if (pc' := 9) w0 own_d14_6 rfl (by decide) (pcY := 12) rfl (fun (hb6 : ¬ (pp &&& (7 : Int32)) = (0 : Int32)) => ?_) (fun (hb6 : (pp &&& (7 : Int32)) = (0 : Int32)) => ?_)
 ·
  refine own_iloadN (pc' := 13) w0 own_d14_12 rfl rfl ?_
  refine own_iconst (pc' := 14) w0 own_d14_13 (x := (1 : Int32)) rfl rfl ?_
  refine own_icmp (pc' := 17) w0 own_d14_14 rfl (by decide) (pcY := 20) rfl (fun (hb14 : ¬ (pp &&& (7 : Int32)) = (1 : Int32)) => ?_) (fun (hb14 : (pp &&& (7 : Int32)) = (1 : Int32)) => ?_)
  ·
   refine own_iloadN (pc' := 21) w0 own_d14_20 rfl rfl ?_
   refine own_iconst (pc' := 22) w0 own_d14_21 (x := (2 : Int32)) rfl rfl ?_
   refine own_icmp (pc' := 25) w0 own_d14_22 rfl (by decide) (pcY := 28) rfl (fun (hb22 : ¬ (pp &&& (7 : Int32)) = (2 : Int32)) => ?_) (fun (hb22 : (pp &&& (7 : Int32)) = (2 : Int32)) => ?_)
   ·
    refine own_iloadN (pc' := 29) w0 own_d14_28 rfl rfl ?_
    refine own_iconst (pc' := 30) w0 own_d14_29 (x := (3 : Int32)) rfl rfl ?_
    refine own_icmp (pc' := 33) w0 own_d14_30 rfl (by decide) (pcY := 36) rfl (fun (hb30 : ¬ (pp &&& (7 : Int32)) = (3 : Int32)) => ?_) (fun (hb30 : (pp &&& (7 : Int32)) = (3 : Int32)) => ?_)
    ·
     refine own_iloadN (pc' := 37) w0 own_d14_36 rfl rfl ?_
     refine own_iconst (pc' := 38) w0 own_d14_37 (x := (3 : Int32)) rfl rfl ?_
     refine own_iushr (pc' := 39) w0 own_d14_38 (z := (XT.ushr pp (3 : Int32))) rfl rfl ?_
     refine own_sipush (pc' := 42) w0 own_d14_39 (x := (255 : Int32)) rfl rfl ?_
     refine own_iand (pc' := 43) w0 own_d14_42 (z := ((XT.ushr pp (3 : Int32)) &&& (255 : Int32))) rfl rfl ?_
     refine own_i2c (pc' := 44) w0 own_d14_43 (z := ((XT.ushr pp (3 : Int32)) &&& (255 : Int32))) (i2c_mask _) rfl ?_
     exact own_retV w0 (t := .char) rfl (own_narC (own_up1 (own_and255 _))) (Or.inl ⟨rfl, by simp, _, rfl⟩) own_d14_44 (by decide) (by decide) (ms' := []) all0 ⟨rfl, rfl, ((XT.ushr pp (3 : Int32)) &&& (255 : Int32)), rfl, (own_and255 _)⟩
    ·
     refine own_bipush (pc' := 35) w0 own_d14_33 (x := (10 : Int32)) rfl rfl ?_
     exact own_retV w0 (t := .char) rfl rfl (Or.inl ⟨rfl, by simp, _, rfl⟩) own_d14_35 (by decide) (by decide) (ms' := []) all0 ⟨rfl, rfl, (10 : Int32), rfl, (by decide)⟩
   ·
    refine own_bipush (pc' := 27) w0 own_d14_25 (x := (13 : Int32)) rfl rfl ?_
    exact own_retV w0 (t := .char) rfl rfl (Or.inl ⟨rfl, by simp, _, rfl⟩) own_d14_27 (by decide) (by decide) (ms' := []) all0 ⟨rfl, rfl, (13 : Int32), rfl, (by decide)⟩
  ·
   refine own_bipush (pc' := 19) w0 own_d14_17 (x := (9 : Int32)) rfl rfl ?_
   exact own_retV w0 (t := .char) rfl rfl (Or.inl ⟨rfl, by simp, _, rfl⟩) own_d14_19 (by decide) (by decide) (ms' := []) all0 ⟨rfl, rfl, (9 : Int32), rfl, (by decide)⟩
 ·
  refine own_bipush (pc' := 11) w0 own_d14_9 (x := (32 : Int32)) rfl rfl ?_
  exact own_retV w0 (t := .char) rfl rfl (Or.inl ⟨rfl, by simp, _, rfl⟩) own_d14_11 (by decide) (by decide) (ms' := []) all0 ⟨rfl, rfl, (32 : Int32), rfl, (by decide)⟩
theorem own_d15_0 : decode prog_41_method_2_code 0 = .ok (.iconst 0, 1) := by decide +kernel
theorem own_d15_1 : decode prog_41_method_2_code 1 = .ok (.istore_n 1, 1) := by decide +kernel
theorem own_d15_2 : decode prog_41_method_2_code 2 = .ok (.aload_n 0, 1) := by decide +kernel
theorem own_d15_3 : decode prog_41_method_2_code 3 = .ok (.invokevirtual 10, 3) := by decide +kernel
theorem own_w30 {Z : State} {a0 : Array Value} (hw : ∀ d ∈ tables_1, d.before a0 Z = true) : ((Jvm.Cond.methodLink "com/example/caddis/caddis/conformance/XmlValues" (10 : Nat) ({ cls := "java/lang/String", name := "length", desc := "()I" } : Jvm.MethodName)) : Jvm.Cond).before a0 Z = true := hw _ (List.mem_of_getElem? (i := 30) rfl)
theorem own_d15_6 : decode prog_41_method_2_code 6 = .ok (.istore_n 2, 1) := by decide +kernel
theorem own_d15_7 : decode prog_41_method_2_code 7 = .ok (.iload_n 1, 1) := by decide +kernel
theorem own_d15_8 : decode prog_41_method_2_code 8 = .ok (.iload_n 2, 1) := by decide +kernel
theorem own_d15_9 : decode prog_41_method_2_code 9 = .ok (.if_icmp .ge 20, 3) := by decide +kernel
theorem own_d15_29 : decode prog_41_method_2_code 29 = .ok (.iload_n 2, 1) := by decide +kernel
theorem own_d15_30 : decode prog_41_method_2_code 30 = .ok (.iload_n 1, 1) := by decide +kernel
theorem own_d15_31 : decode prog_41_method_2_code 31 = .ok (.if_icmp .le 22, 3) := by decide +kernel
theorem own_d15_53 : decode prog_41_method_2_code 53 = .ok (.aload_n 0, 1) := by decide +kernel
theorem own_d15_54 : decode prog_41_method_2_code 54 = .ok (.iload_n 1, 1) := by decide +kernel
theorem own_d15_55 : decode prog_41_method_2_code 55 = .ok (.iload_n 2, 1) := by decide +kernel
theorem own_d15_56 : decode prog_41_method_2_code 56 = .ok (.invokevirtual 26, 3) := by decide +kernel
theorem own_w45 {Z : State} {a0 : Array Value} (hw : ∀ d ∈ tables_1, d.before a0 Z = true) : ((Jvm.Cond.code ({ cls := "java/lang/String", name := "substring", desc := "(II)Ljava/lang/String;" } : Jvm.MethodName) jdk_42_method_92_code (5 : Nat) (Option.some (Jvm.ClassFile.FieldType.object "java/lang/String"))) : Jvm.Cond).before a0 Z = true := hw _ (List.mem_of_getElem? (i := 45) rfl)
theorem own_pd10 : parseMethodDescriptor "(II)Ljava/lang/String;" = some ⟨[.int, .int], some (.object "java/lang/String")⟩ := by decide +kernel
theorem own_w41 {Z : State} {a0 : Array Value} (hw : ∀ d ∈ tables_1, d.before a0 Z = true) : ((Jvm.Cond.methodLink "com/example/caddis/caddis/conformance/XmlValues" (26 : Nat) ({ cls := "java/lang/String", name := "substring", desc := "(II)Ljava/lang/String;" } : Jvm.MethodName)) : Jvm.Cond).before a0 Z = true := hw _ (List.mem_of_getElem? (i := 41) rfl)
theorem own_w42 {Z : State} {a0 : Array Value} (hw : ∀ d ∈ tables_1, d.before a0 Z = true) : ((Jvm.Cond.declares ({ cls := "java/lang/String", name := "substring", desc := "(II)Ljava/lang/String;" } : Jvm.MethodName)) : Jvm.Cond).before a0 Z = true := hw _ (List.mem_of_getElem? (i := 42) rfl)
theorem own_w44 {Z : State} {a0 : Array Value} (hw : ∀ d ∈ tables_1, d.before a0 Z = true) : ((Jvm.Cond.selects "java/lang/String" ({ cls := "java/lang/String", name := "substring", desc := "(II)Ljava/lang/String;" } : Jvm.MethodName) ({ cls := "java/lang/String", name := "substring", desc := "(II)Ljava/lang/String;" } : Jvm.MethodName)) : Jvm.Cond).before a0 Z = true := hw _ (List.mem_of_getElem? (i := 44) rfl)
theorem own_w43 {Z : State} {a0 : Array Value} (hw : ∀ d ∈ tables_1, d.before a0 Z = true) : ((Jvm.Cond.instanceMethod ({ cls := "java/lang/String", name := "substring", desc := "(II)Ljava/lang/String;" } : Jvm.MethodName)) : Jvm.Cond).before a0 Z = true := hw _ (List.mem_of_getElem? (i := 43) rfl)
theorem own_d15_59 : decode prog_41_method_2_code 59 = .ok (.areturn, 1) := by decide +kernel
theorem own_ef_trim0 (m : MethodId) (tx : Addr) : entryFrame m #[(.ref tx)] 3 = mkF m 0 #[.val (.ref tx), .unset, .unset] [] := by first | (simp [entryFrame, mkF, argsToLocals, Value.category]; done) | rfl
theorem own_pf15 : plainFor (⟨"com/example/caddis/caddis/conformance/XmlValues", "trim", "(Ljava/lang/String;)Ljava/lang/String;"⟩ : MethodName) = true := by first | exact plainFor_of_name (by first | (simp [plainName, overriddenIn]; done) | decide +kernel) | decide +kernel
def own_Q_trim0 (Z : State) (h0 : Heap) (tx : Addr) (t : Addr) (kb : ClassId) (z5 : Int32) (fm : Value) (v : Option Value) (h : Heap) (ms : List Addr) : Prop := (Keep h0 h []) ∧ (∃ (r : Addr) (t2 : Addr) (kA : ClassId) (N2 : Int32) (vs2 : List Value) (ds : List Int32), (ms = []) ∧ (v = some (.ref r)) ∧ (Exa Z h r "java/lang/String") ∧ (Fld Z h r "java/lang/String" "coder" "B" (.int 0)) ∧ (Fld Z h r "java/lang/String" "value" "[B" (.ref t2)) ∧ (Arv Z h t2 kA .byte N2 vs2 (.int 0)) ∧ (StrChars.Road.CodA ds 0 N2 vs2) ∧ (∀ c ∈ ds, ¬ c < 0 ∧ ¬ (65535 : Int32) < c) ∧ (ds.length ≤ 4000) ∧ (ds = own_trim ([] : List Int32)))
set_option maxRecDepth 65536 in
set_option maxHeartbeats 40000000 in
theorem own_ct_trim0 (l : Launch) (Z : State) (a0 : Array Value) (hw : ∀ d ∈ tables_1, d.before a0 Z = true) (EL : List (String × Nat)) (hE : EW Z a0 EL) (n0 : Nat) (ws : List Jvm.Cond) (h0 : Heap) (O : Old Z n0 h0) (tx : Addr) (t : Addr) (kb : ClassId) (z5 : Int32) (fm : Value) (E_tx : Exa Z h0 tx "java/lang/String") (F_tx_coder : Fld Z h0 tx "java/lang/String" "coder" "B" (.int 0)) (F_tx_value : Fld Z h0 tx "java/lang/String" "value" "[B" (.ref t)) (A_t : Arv Z h0 t kb .byte (0 : Int32) [] (.int 0)) (S_COMPACT_STRINGS : Sta Z Z.heap "java/lang/String" "COMPACT_STRINGS" "Z" (.int z5)) (P5 : ¬ z5 = 0) (S_SIOOBE_FORMATTER : Sta Z Z.heap "jdk/internal/util/Preconditions" "SIOOBE_FORMATTER" "Ljava/util/function/BiFunction;" fm) (hfm : fm.isRef = true) (hE151 : ("java/lang/StringLatin1", 151) ∈ EL) :
    own_Ct l Z EL n0 (⟨"com/example/caddis/caddis/conformance/XmlValues", "trim", "(Ljava/lang/String;)Ljava/lang/String;"⟩ : MethodName) prog_41_method_2_code 3 (some (.object "java/lang/String")) ws ({ frames := 3, cells := 0, slots := 0, locals := 45 } : Room) #[(.ref tx)] h0 [] (own_Q_trim0 Z h0 tx t kb z5 fm) := by
 refine own_enter (a0 := a0) own_pf15 hE O fun p e s m below meth c T0 w0 => ?_
 rw [own_ef_trim0 m tx]
 have K : Keep h0 h0 [] := Keep.refl _ _
 refine own_iconst (pc' := 1) w0 own_d15_0 (x := (0 : Int32)) rfl rfl ?_
 refine own_istoreN (pc' := 2) w0 own_d15_1 (Ls' := #[.val (.ref tx), .val (.int (0 : Int32)), .unset]) rfl rfl ?_
 refine own_aloadN (pc' := 3) w0 own_d15_2 rfl rfl rfl ?_
 refine own_callVB (pc' := 6) w0 (kc := 0) (nc := 0) (own_w30 hw) (own_w31 hw) (fun s' hZ' => notFace_of_selects (args := #[]) (mvT hZ' (own_w33 hw))) (own_w33 hw) (own_w32 hw) (by decide) E_tx (QQ := fun v h' L => (v = some (.int (0 : Int32))) ∧ L = [] ∧ h' = h0) (fun s' hZ' => StrChars.Road.lenW (W := 0) hZ' (own_hwl hw) (kI := 4) (own_w6 hw) E_tx F_tx_value F_tx_coder A_t (Or.inl ⟨rfl, rfl, rfl, own_all0⟩) (own_up ([] : List Int32) own_all0) (S_COMPACT_STRINGS.ext (own_old w0).2) P5 (Nat.le_of_ble_eq_true rfl) (by decide) (by decide)) (ws := []) all0 (fun v h' L q => ⟨q.2.2 ▸ Keep.refl _ _, q.2.1 ▸ Fr.nil _⟩) (argsL := []) (rest := []) rfl rfl own_pd6 rfl own_d15_3 rfl (Nat.le_of_eq rfl) (by decide) (by decide) fun T1 h3 v4 w2 K5 q6 => ?_
 obtain ⟨_, rfl, -, e7⟩ := q6
 rw [e7] at w2
 show own_Go Z EL n0 p e below s _ _ _ (T1.setTop (mkF m 6 _ [(.int (0 : Int32))]))
 refine own_istoreN (pc' := 7) w2 own_d15_6 (Ls' := #[.val (.ref tx), .val (.int (0 : Int32)), .val (.int (0 : Int32))]) rfl rfl ?_
 refine own_iloadN (pc' := 8) w2 own_d15_7 rfl rfl ?_
 refine own_iloadN (pc' := 9) w2 own_d15_8 rfl rfl ?_
 refine own_icmp (pc' := 12) w2 own_d15_9 rfl (by decide) (pcY := 29) rfl (fun (hb9 : ¬ (0 : Int32) < (0 : Int32)) => ?_) (fun (hb9 : (0 : Int32) < (0 : Int32)) => absurd hb9 (by decide))
 refine own_iloadN (pc' := 30) w2 own_d15_29 rfl rfl ?_
 refine own_iloadN (pc' := 31) w2 own_d15_30 rfl rfl ?_
 refine own_icmp (pc' := 34) w2 own_d15_31 rfl (by decide) (pcY := 53) rfl (fun (hb31 : ¬ (0 : Int32) < (0 : Int32)) => ?_) (fun (hb31 : (0 : Int32) < (0 : Int32)) => absurd hb31 (by decide))
 refine own_aloadN (pc' := 54) w2 own_d15_53 rfl rfl rfl ?_
 refine own_iloadN (pc' := 55) w2 own_d15_54 rfl rfl ?_
 refine own_iloadN (pc' := 56) w2 own_d15_55 rfl rfl ?_
 refine own_callV (pc' := 59) w2 (own_w41 hw) (own_w42 hw) (fun s' hZ' => notFace_of_selects (args := #[]) (mvT hZ' (own_w44 hw))) (own_w44 hw) (own_w43 hw) (own_w7 hw) (own_w45 hw) (by decide) E_tx (own_ct_subW l Z a0 hw EL hE n0 [] h0 (own_old w2) tx (0 : Int32) (0 : Int32) t kb (0 : Int32) [] ([] : List Int32) (0 : Int32) 0 0 z5 fm E_tx F_tx_coder F_tx_value A_t ((Or.inl ⟨rfl, rfl, rfl, own_all0⟩)) (own_up ([] : List Int32) own_all0) ((Nat.le_of_ble_eq_true rfl)) S_COMPACT_STRINGS (P5) S_SIOOBE_FORMATTER (hfm) (by decide) (rfl) (by decide) (by decide)) all0 (argsL := [(.int (0 : Int32)), (.int (0 : Int32))]) (rest := []) rfl rfl own_pd10 rfl own_d15_56 rfl (by decide) (W := 0) rfl (by decide) (by decide) (by decide) fun T8 h10 v11 ms12 w9 q13 => ?_
 obtain ⟨rfl, rfl, rfl⟩ := q13
 show own_Go Z EL n0 p e below s _ _ _ (T8.setTop (mkF m 59 _ [(.ref tx)]))
 exact own_retV w9 (t := (.object "java/lang/String")) rfl (own_narR rfl rfl) (Or.inr (Or.inr (Or.inr (Or.inr ⟨rfl, rfl, rfl⟩)))) own_d15_59 (by decide) (by decide) (ms' := []) all0 ⟨K, tx, t, kb, (0 : Int32), [], ([] : List Int32), rfl, rfl, E_tx, F_tx_coder, F_tx_value, A_t, (Or.inl ⟨rfl, rfl, rfl, own_all0⟩), (own_up ([] : List Int32) own_all0), (Nat.le_of_ble_eq_true rfl), (by simp [own_trim, List.dropWhile])⟩
theorem own_d15_12 : decode prog_41_method_2_code 12 = .ok (.aload_n 0, 1) := by decide +kernel
theorem own_d15_13 : decode prog_41_method_2_code 13 = .ok (.iload_n 1, 1) := by decide +kernel
theorem own_d15_14 : decode prog_41_method_2_code 14 = .ok (.invokevirtual 16, 3) := by decide +kernel
theorem own_w76 {Z : State} {a0 : Array Value} (hw : ∀ d ∈ tables_1, d.before a0 Z = true) : ((Jvm.Cond.methodLink "com/example/caddis/caddis/conformance/XmlValues" (16 : Nat) ({ cls := "java/lang/String", name := "charAt", desc := "(I)C" } : Jvm.MethodName)) : Jvm.Cond).before a0 Z = true := hw _ (List.mem_of_getElem? (i := 76) rfl)
theorem own_w77 {Z : State} {a0 : Array Value} (hw : ∀ d ∈ tables_1, d.before a0 Z = true) : ((Jvm.Cond.declares ({ cls := "java/lang/String", name := "charAt", desc := "(I)C" } : Jvm.MethodName)) : Jvm.Cond).before a0 Z = true := hw _ (List.mem_of_getElem? (i := 77) rfl)
theorem own_w79 {Z : State} {a0 : Array Value} (hw : ∀ d ∈ tables_1, d.before a0 Z = true) : ((Jvm.Cond.selects "java/lang/String" ({ cls := "java/lang/String", name := "charAt", desc := "(I)C" } : Jvm.MethodName) ({ cls := "java/lang/String", name := "charAt", desc := "(I)C" } : Jvm.MethodName)) : Jvm.Cond).before a0 Z = true := hw _ (List.mem_of_getElem? (i := 79) rfl)
theorem own_w78 {Z : State} {a0 : Array Value} (hw : ∀ d ∈ tables_1, d.before a0 Z = true) : ((Jvm.Cond.instanceMethod ({ cls := "java/lang/String", name := "charAt", desc := "(I)C" } : Jvm.MethodName)) : Jvm.Cond).before a0 Z = true := hw _ (List.mem_of_getElem? (i := 78) rfl)
theorem own_pd11 : parseMethodDescriptor "(I)C" = some ⟨[.int], some .char⟩ := by decide +kernel
theorem own_d15_17 : decode prog_41_method_2_code 17 = .ok (.invokestatic 20, 3) := by decide +kernel
theorem own_w98 {Z : State} {a0 : Array Value} (hw : ∀ d ∈ tables_1, d.before a0 Z = true) : ((Jvm.Cond.code ({ cls := "com/example/caddis/caddis/conformance/XmlValues", name := "isSpace", desc := "(C)Z" } : Jvm.MethodName) prog_41_method_7_code (1 : Nat) (Option.some Jvm.ClassFile.FieldType.boolean)) : Jvm.Cond).before a0 Z = true := hw _ (List.mem_of_getElem? (i := 98) rfl)
theorem own_w28 {Z : State} {a0 : Array Value} (hw : ∀ d ∈ tables_1, d.before a0 Z = true) : ((Jvm.Cond.initialized "com/example/caddis/caddis/conformance/XmlValues") : Jvm.Cond).before a0 Z = true := hw _ (List.mem_of_getElem? (i := 28) rfl)
theorem own_pd12 : parseMethodDescriptor "(C)Z" = some ⟨[.char], some .boolean⟩ := by decide +kernel
theorem own_w96 {Z : State} {a0 : Array Value} (hw : ∀ d ∈ tables_1, d.before a0 Z = true) : ((Jvm.Cond.methodLink "com/example/caddis/caddis/conformance/XmlValues" (20 : Nat) ({ cls := "com/example/caddis/caddis/conformance/XmlValues", name := "isSpace", desc := "(C)Z" } : Jvm.MethodName)) : Jvm.Cond).before a0 Z = true := hw _ (List.mem_of_getElem? (i := 96) rfl)
theorem own_w97 {Z : State} {a0 : Array Value} (hw : ∀ d ∈ tables_1, d.before a0 Z = true) : ((Jvm.Cond.static ({ cls := "com/example/caddis/caddis/conformance/XmlValues", name := "isSpace", desc := "(C)Z" } : Jvm.MethodName)) : Jvm.Cond).before a0 Z = true := hw _ (List.mem_of_getElem? (i := 97) rfl)
theorem own_d15_20 : decode prog_41_method_2_code 20 = .ok (.ifCond .eq 9, 3) := by decide +kernel
theorem own_d15_34 : decode prog_41_method_2_code 34 = .ok (.aload_n 0, 1) := by decide +kernel
theorem own_d15_35 : decode prog_41_method_2_code 35 = .ok (.iload_n 2, 1) := by decide +kernel
theorem own_d15_36 : decode prog_41_method_2_code 36 = .ok (.iconst 1, 1) := by decide +kernel
theorem own_d15_37 : decode prog_41_method_2_code 37 = .ok (.isub, 1) := by decide +kernel
theorem own_d15_38 : decode prog_41_method_2_code 38 = .ok (.invokevirtual 16, 3) := by decide +kernel
theorem own_d15_41 : decode prog_41_method_2_code 41 = .ok (.invokestatic 20, 3) := by decide +kernel
theorem own_d15_44 : decode prog_41_method_2_code 44 = .ok (.ifCond .eq 9, 3) := by decide +kernel
theorem own_d15_23 : decode prog_41_method_2_code 23 = .ok (.iinc 1 1, 3) := by decide +kernel
theorem own_d15_26 : decode prog_41_method_2_code 26 = .ok (.goto (-19), 3) := by decide +kernel
theorem own_ef_trim1 (m : MethodId) (tx : Addr) : entryFrame m #[(.ref tx)] 3 = mkF m 0 #[.val (.ref tx), .unset, .unset] [] := by first | (simp [entryFrame, mkF, argsToLocals, Value.category]; done) | rfl
def own_Q_trim1 (Z : State) (h0 : Heap) (tx : Addr) (t : Addr) (kb : ClassId) (z5 : Int32) (fm : Value) (c0 : Int32) (v : Option Value) (h : Heap) (ms : List Addr) : Prop := (Keep h0 h []) ∧ (∃ (r : Addr) (t2 : Addr) (kA : ClassId) (N2 : Int32) (vs2 : List Value) (ds : List Int32), (ms = []) ∧ (v = some (.ref r)) ∧ (Exa Z h r "java/lang/String") ∧ (Fld Z h r "java/lang/String" "coder" "B" (.int 0)) ∧ (Fld Z h r "java/lang/String" "value" "[B" (.ref t2)) ∧ (Arv Z h t2 kA .byte N2 vs2 (.int 0)) ∧ (StrChars.Road.CodA ds 0 N2 vs2) ∧ (∀ c ∈ ds, ¬ c < 0 ∧ ¬ (65535 : Int32) < c) ∧ (ds.length ≤ 4000) ∧ (ds = own_trim ([c0] : List Int32)))
set_option maxRecDepth 65536 in
set_option maxHeartbeats 40000000 in
theorem own_ct_trim1 (l : Launch) (Z : State) (a0 : Array Value) (hw : ∀ d ∈ tables_1, d.before a0 Z = true) (EL : List (String × Nat)) (hE : EW Z a0 EL) (n0 : Nat) (ws : List Jvm.Cond) (h0 : Heap) (O : Old Z n0 h0) (tx : Addr) (t : Addr) (kb : ClassId) (z5 : Int32) (fm : Value) (c0 : Int32) (E_tx : Exa Z h0 tx "java/lang/String") (F_tx_coder : Fld Z h0 tx "java/lang/String" "coder" "B" (.int 0)) (F_tx_value : Fld Z h0 tx "java/lang/String" "value" "[B" (.ref t)) (A_t : Arv Z h0 t kb .byte (1 : Int32) ((([c0] : List Int32).map (fun (c : Int32) => c.toInt8.toInt32)).map Value.int) (.int 0)) (S_COMPACT_STRINGS : Sta Z Z.heap "java/lang/String" "COMPACT_STRINGS" "Z" (.int z5)) (P5 : ¬ z5 = 0) (S_SIOOBE_FORMATTER : Sta Z Z.heap "jdk/internal/util/Preconditions" "SIOOBE_FORMATTER" "Ljava/util/function/BiFunction;" fm) (hfm : fm.isRef = true) (hE151 : ("java/lang/StringLatin1", 151) ∈ EL) (b0 : ¬ c0 < 0 ∧ ¬ (255 : Int32) < c0) :
    own_Ct l Z EL n0 (⟨"com/example/caddis/caddis/conformance/XmlValues", "trim", "(Ljava/lang/String;)Ljava/lang/String;"⟩ : MethodName) prog_41_method_2_code 3 (some (.object "java/lang/String")) ws ({ frames := 4, cells := 2, slots := 4, locals := 53 } : Room) #[(.ref tx)] h0 [] (own_Q_trim1 Z h0 tx t kb z5 fm c0) := by
 refine own_enter (a0 := a0) own_pf15 hE O fun p e s m below meth c T0 w0 => ?_
 rw [own_ef_trim1 m tx]
 have K : Keep h0 h0 [] := Keep.refl _ _
 refine own_iconst (pc' := 1) w0 own_d15_0 (x := (0 : Int32)) rfl rfl ?_
 refine own_istoreN (pc' := 2) w0 own_d15_1 (Ls' := #[.val (.ref tx), .val (.int (0 : Int32)), .unset]) rfl rfl ?_
 refine own_aloadN (pc' := 3) w0 own_d15_2 rfl rfl rfl ?_
 refine own_callVB (pc' := 6) w0 (kc := 0) (nc := 0) (own_w30 hw) (own_w31 hw) (fun s' hZ' => notFace_of_selects (args := #[]) (mvT hZ' (own_w33 hw))) (own_w33 hw) (own_w32 hw) (by decide) E_tx (QQ := fun v h' L => (v = some (.int (1 : Int32))) ∧ L = [] ∧ h' = h0) (fun s' hZ' => StrChars.Road.lenW (W := 0) hZ' (own_hwl hw) (kI := 4) (own_w6 hw) E_tx F_tx_value F_tx_coder A_t (own_cod (cs := ([c0] : List Int32)) (n := 1) rfl (own_allS b0 own_all0)) (own_up ([c0] : List Int32) (own_allS b0 own_all0)) (S_COMPACT_STRINGS.ext (own_old w0).2) P5 (Nat.le_of_ble_eq_true rfl) (by decide) (by decide)) (ws := []) all0 (fun v h' L q => ⟨q.2.2 ▸ Keep.refl _ _, q.2.1 ▸ Fr.nil _⟩) (argsL := []) (rest := []) rfl rfl own_pd6 rfl own_d15_3 rfl (Nat.le_of_eq rfl) (by decide) (by decide) fun T1 h3 v4 w2 K5 q6 => ?_
 obtain ⟨_, rfl, -, e7⟩ := q6
 rw [e7] at w2
 show own_Go Z EL n0 p e below s _ _ _ (T1.setTop (mkF m 6 _ [(.int (1 : Int32))]))
 refine own_istoreN (pc' := 7) w2 own_d15_6 (Ls' := #[.val (.ref tx), .val (.int (0 : Int32)), .val (.int (1 : Int32))]) rfl rfl ?_
 refine own_iloadN (pc' := 8) w2 own_d15_7 rfl rfl ?_
 refine own_iloadN (pc' := 9) w2 own_d15_8 rfl rfl ?_
 refine own_icmp (pc' := 12) w2 own_d15_9 rfl (by decide) (pcY := 29) rfl (fun (hb9 : ¬ (0 : Int32) < (1 : Int32)) => absurd hb9 (by decide)) (fun (hb9 : (0 : Int32) < (1 : Int32)) => ?_)
 refine own_aloadN (pc' := 13) w2 own_d15_12 rfl rfl rfl ?_
 refine own_iloadN (pc' := 14) w2 own_d15_13 rfl rfl ?_
 refine own_callVB (pc' := 17) w2 (kc := 0) (nc := 0) (own_w76 hw) (own_w77 hw) (fun s' hZ' => notFace_of_selects (args := #[]) (mvT hZ' (own_w79 hw))) (own_w79 hw) (own_w78 hw) (by decide) E_tx (QQ := fun v h' L => (v = some (.int c0)) ∧ L = [] ∧ h' = h0) (fun s' hZ' => StrChars.Road.chN (W := 0) hZ' (own_hwc hw) (kI := 4) (own_w6 hw) E_tx F_tx_value F_tx_coder A_t (own_cod (cs := ([c0] : List Int32)) (n := 1) rfl (own_allS b0 own_all0)) (own_up ([c0] : List Int32) (own_allS b0 own_all0)) (S_COMPACT_STRINGS.ext (own_old w2).2) P5 (S_SIOOBE_FORMATTER.ext (own_old w2).2) hfm (Nat.le_of_ble_eq_true rfl) (i := 0) (Nat.le_of_ble_eq_true rfl) rfl (by decide) (by decide)) (ws := []) all0 (fun v h' L q => ⟨q.2.2 ▸ Keep.refl _ _, q.2.1 ▸ Fr.nil _⟩) (argsL := [(.int (0 : Int32))]) (rest := []) rfl rfl own_pd11 rfl own_d15_14 rfl (Nat.le_of_eq rfl) (by decide) (by decide) fun T8 h10 v11 w9 K12 q13 => ?_
 obtain ⟨_, rfl, -, e14⟩ := q13
 rw [e14] at w9
 show own_Go Z EL n0 p e below s _ _ _ (T8.setTop (mkF m 17 _ [(.int c0)]))
 refine own_callS (pc' := 20) w9 (own_w96 hw) (own_w97 hw) (own_w28 hw) (own_w98 hw) (by decide) (own_ct_isSp l Z a0 hw EL hE n0 [] h0 (own_old w9) c0 ) all0 (argsL := [(.int c0)]) (rest := []) rfl rfl own_pd12 rfl own_d15_17 rfl (by decide) (W := 0) rfl (by decide) (by decide) (by decide) fun T15 h17 v18 ms19 w16 q20 => ?_
 obtain ⟨rfl, rfl, rfl⟩ := q20
 show own_Go Z EL n0 p e below s _ _ _ (T15.setTop (mkF m 20 _ [(.int (if own_sp c0 then 1 else 0))]))
 refine own_if (pc' := 23) w16 own_d15_20 rfl (by decide) (pcY := 29) rfl (fun (hb20 : (if own_sp c0 then 1 else 0) = (0 : Int32)) => ?_) (fun (hb20 : ¬ (if own_sp c0 then 1 else 0) = (0 : Int32)) => ?_)
 ·
  refine own_iloadN (pc' := 30) w16 own_d15_29 rfl rfl ?_
  refine own_iloadN (pc' := 31) w16 own_d15_30 rfl rfl ?_
  refine own_icmp (pc' := 34) w16 own_d15_31 rfl (by decide) (pcY := 53) rfl (fun (hb31 : ¬ (0 : Int32) < (1 : Int32)) => absurd hb31 (by decide)) (fun (hb31 : (0 : Int32) < (1 : Int32)) => ?_)
  refine own_aloadN (pc' := 35) w16 own_d15_34 rfl rfl rfl ?_
  refine own_iloadN (pc' := 36) w16 own_d15_35 rfl rfl ?_
  refine own_iconst (pc' := 37) w16 own_d15_36 (x := (1 : Int32)) rfl rfl ?_
  refine own_isub (pc' := 38) w16 own_d15_37 (z := (0 : Int32)) (by decide) rfl ?_
  refine own_callVB (pc' := 41) w16 (kc := 0) (nc := 0) (own_w76 hw) (own_w77 hw) (fun s' hZ' => notFace_of_selects (args := #[]) (mvT hZ' (own_w79 hw))) (own_w79 hw) (own_w78 hw) (by decide) E_tx (QQ := fun v h' L => (v = some (.int c0)) ∧ L = [] ∧ h' = h0) (fun s' hZ' => StrChars.Road.chN (W := 0) hZ' (own_hwc hw) (kI := 4) (own_w6 hw) E_tx F_tx_value F_tx_coder A_t (own_cod (cs := ([c0] : List Int32)) (n := 1) rfl (own_allS b0 own_all0)) (own_up ([c0] : List Int32) (own_allS b0 own_all0)) (S_COMPACT_STRINGS.ext (own_old w16).2) P5 (S_SIOOBE_FORMATTER.ext (own_old w16).2) hfm (Nat.le_of_ble_eq_true rfl) (i := 0) (Nat.le_of_ble_eq_true rfl) rfl (by decide) (by decide)) (ws := []) all0 (fun v h' L q => ⟨q.2.2 ▸ Keep.refl _ _, q.2.1 ▸ Fr.nil _⟩) (argsL := [(.int (0 : Int32))]) (rest := []) rfl rfl own_pd11 rfl own_d15_38 rfl (Nat.le_of_eq rfl) (by decide) (by decide) fun T21 h23 v24 w22 K25 q26 => ?_
  obtain ⟨_, rfl, -, e27⟩ := q26
  rw [e27] at w22
  show own_Go Z EL n0 p e below s _ _ _ (T21.setTop (mkF m 41 _ [(.int c0)]))
  refine own_callS (pc' := 44) w22 (own_w96 hw) (own_w97 hw) (own_w28 hw) (own_w98 hw) (by decide) (own_ct_isSp l Z a0 hw EL hE n0 [] h0 (own_old w22) c0 ) all0 (argsL := [(.int c0)]) (rest := []) rfl rfl own_pd12 rfl own_d15_41 rfl (by decide) (W := 0) rfl (by decide) (by decide) (by decide) fun T28 h30 v31 ms32 w29 q33 => ?_
  obtain ⟨rfl, rfl, rfl⟩ := q33
  show own_Go Z EL n0 p e below s _ _ _ (T28.setTop (mkF m 44 _ [(.int (if own_sp c0 then 1 else 0))]))
  refine own_if (pc' := 47) w29 own_d15_44 rfl (by decide) (pcY := 53) rfl (fun (hb44 : (if own_sp c0 then 1 else 0) = (0 : Int32)) => ?_) (fun (hb44 : ¬ (if own_sp c0 then 1 else 0) = (0 : Int32)) => absurd hb20 hb44)
  refine own_aloadN (pc' := 54) w29 own_d15_53 rfl rfl rfl ?_
  refine own_iloadN (pc' := 55) w29 own_d15_54 rfl rfl ?_
  refine own_iloadN (pc' := 56) w29 own_d15_55 rfl rfl ?_
  refine own_callV (pc' := 59) w29 (own_w41 hw) (own_w42 hw) (fun s' hZ' => notFace_of_selects (args := #[]) (mvT hZ' (own_w44 hw))) (own_w44 hw) (own_w43 hw) (own_w7 hw) (own_w45 hw) (by decide) E_tx (own_ct_subW l Z a0 hw EL hE n0 [] h0 (own_old w29) tx (0 : Int32) (1 : Int32) t kb (1 : Int32) ((([c0] : List Int32).map (fun (c : Int32) => c.toInt8.toInt32)).map Value.int) ([c0] : List Int32) (1 : Int32) 0 1 z5 fm E_tx F_tx_coder F_tx_value A_t ((own_cod (cs := ([c0] : List Int32)) (n := 1) rfl (own_allS b0 own_all0))) (own_up ([c0] : List Int32) (own_allS b0 own_all0)) ((Nat.le_of_ble_eq_true rfl)) S_COMPACT_STRINGS (P5) S_SIOOBE_FORMATTER (hfm) (by decide) (rfl) (by decide) (by decide)) all0 (argsL := [(.int (0 : Int32)), (.int (1 : Int32))]) (rest := []) rfl rfl own_pd10 rfl own_d15_56 rfl (by decide) (W := 0) rfl (by decide) (by decide) (by decide) fun T34 h36 v37 ms38 w35 q39 => ?_
  obtain ⟨rfl, rfl, rfl⟩ := q39
  show own_Go Z EL n0 p e below s _ _ _ (T34.setTop (mkF m 59 _ [(.ref tx)]))
  have k_c0 := own_sp1 hb20
  exact own_retV w35 (t := (.object "java/lang/String")) rfl (own_narR rfl rfl) (Or.inr (Or.inr (Or.inr (Or.inr ⟨rfl, rfl, rfl⟩)))) own_d15_59 (by decide) (by decide) (ms' := []) all0 ⟨K, tx, t, kb, (1 : Int32), ((([c0] : List Int32).map (fun (c : Int32) => c.toInt8.toInt32)).map Value.int), ([c0] : List Int32), rfl, rfl, E_tx, F_tx_coder, F_tx_value, A_t, (own_cod (cs := ([c0] : List Int32)) (n := 1) rfl (own_allS b0 own_all0)), (own_up ([c0] : List Int32) (own_allS b0 own_all0)), (Nat.le_of_ble_eq_true rfl), (by simp [own_trim, List.dropWhile, k_c0])⟩
 ·
  refine own_iinc (pc' := 26) w16 own_d15_23 rfl (y := (1 : Int32)) (by decide) (Ls' := #[.val (.ref tx), .val (.int (1 : Int32)), .val (.int (1 : Int32))]) rfl rfl ?_
  refine own_goto w16 own_d15_26 (by decide) (pc' := 7) rfl ?_
  refine own_iloadN (pc' := 8) w16 own_d15_7 rfl rfl ?_
  refine own_iloadN (pc' := 9) w16 own_d15_8 rfl rfl ?_
  refine own_icmp (pc' := 12) w16 own_d15_9 rfl (by decide) (pcY := 29) rfl (fun (hb9_1 : ¬ (1 : Int32) < (1 : Int32)) => ?_) (fun (hb9_1 : (1 : Int32) < (1 : Int32)) => absurd hb9_1 (by decide))
  refine own_iloadN (pc' := 30) w16 own_d15_29 rfl rfl ?_
  refine own_iloadN (pc' := 31) w16 own_d15_30 rfl rfl ?_
  refine own_icmp (pc' := 34) w16 own_d15_31 rfl (by decide) (pcY := 53) rfl (fun (hb31 : ¬ (1 : Int32) < (1 : Int32)) => ?_) (fun (hb31 : (1 : Int32) < (1 : Int32)) => absurd hb31 (by decide))
  refine own_aloadN (pc' := 54) w16 own_d15_53 rfl rfl rfl ?_
  refine own_iloadN (pc' := 55) w16 own_d15_54 rfl rfl ?_
  refine own_iloadN (pc' := 56) w16 own_d15_55 rfl rfl ?_
  refine own_callV (pc' := 59) w16 (own_w41 hw) (own_w42 hw) (fun s' hZ' => notFace_of_selects (args := #[]) (mvT hZ' (own_w44 hw))) (own_w44 hw) (own_w43 hw) (own_w7 hw) (own_w45 hw) (by decide) E_tx (own_ct_subE l Z a0 hw EL hE n0 [] h0 (own_old w16) tx (1 : Int32) (1 : Int32) t kb (1 : Int32) ((([c0] : List Int32).map (fun (c : Int32) => c.toInt8.toInt32)).map Value.int) ([c0] : List Int32) (0 : Int32) 1 0 z5 fm E_tx F_tx_coder F_tx_value A_t ((own_cod (cs := ([c0] : List Int32)) (n := 1) rfl (own_allS b0 own_all0))) (own_up ([c0] : List Int32) (own_allS b0 own_all0)) ((Nat.le_of_ble_eq_true rfl)) S_COMPACT_STRINGS (P5) S_SIOOBE_FORMATTER (hfm) (by decide) (rfl) (by decide) (by decide) (hE151)) all0 (argsL := [(.int (1 : Int32)), (.int (1 : Int32))]) (rest := []) rfl rfl own_pd10 rfl own_d15_56 rfl (by decide) (W := 0) rfl (by decide) (by decide) (by decide) fun T40 h42 v43 ms44 w41 q45 => ?_
  obtain ⟨K49, r_46, t2_47, kA_48, rfl, rfl, nw_E_r_46, nw_F_r_46_coder, nw_F_r_46_value, nw_A_t2_47⟩ := q45
  replace E_tx := E_tx.keep K49
  replace F_tx_coder := F_tx_coder.keep K49 nin0
  replace F_tx_value := F_tx_value.keep K49 nin0
  replace A_t := A_t.keep K49 nin0
  replace K := K.trans K49 all0
  have E_r_46 := nw_E_r_46; clear nw_E_r_46
  have F_r_46_coder := nw_F_r_46_coder; clear nw_F_r_46_coder
  have F_r_46_value := nw_F_r_46_value; clear nw_F_r_46_value
  have A_t2_47 := nw_A_t2_47; clear nw_A_t2_47
  show own_Go Z EL n0 p e below s _ _ _ (T40.setTop (mkF m 59 _ [(.ref r_46)]))
  have k_c0 := own_sp0 hb20
  exact own_retV w41 (t := (.object "java/lang/String")) rfl (own_narR rfl rfl) (Or.inr (Or.inr (Or.inr (Or.inr ⟨rfl, rfl, rfl⟩)))) own_d15_59 (by decide) (by decide) (ms' := []) all0 ⟨K, r_46, t2_47, kA_48, (0 : Int32), [], ([] : List Int32), rfl, rfl, E_r_46, F_r_46_coder, F_r_46_value, A_t2_47, (Or.inl ⟨rfl, rfl, rfl, own_all0⟩), (own_up ([] : List Int32) own_all0), (Nat.le_of_ble_eq_true rfl), (by simp [own_trim, List.dropWhile, k_c0])⟩
theorem own_d15_47 : decode prog_41_method_2_code 47 = .ok (.iinc 2 (-1), 3) := by decide +kernel
theorem own_d15_50 : decode prog_41_method_2_code 50 = .ok (.goto (-21), 3) := by decide +kernel
theorem own_ef_trim2 (m : MethodId) (tx : Addr) : entryFrame m #[(.ref tx)] 3 = mkF m 0 #[.val (.ref tx), .unset, .unset] [] := by first | (simp [entryFrame, mkF, argsToLocals, Value.category]; done) | rfl
def own_Q_trim2 (Z : State) (h0 : Heap) (tx : Addr) (t : Addr) (kb : ClassId) (z5 : Int32) (fm : Value) (c0 : Int32) (c1 : Int32) (v : Option Value) (h : Heap) (ms : List Addr) : Prop := (Keep h0 h []) ∧ (∃ (r : Addr) (t2 : Addr) (kA : ClassId) (N2 : Int32) (vs2 : List Value) (ds : List Int32), (ms = []) ∧ (v = some (.ref r)) ∧ (Exa Z h r "java/lang/String") ∧ (Fld Z h r "java/lang/String" "coder" "B" (.int 0)) ∧ (Fld Z h r "java/lang/String" "value" "[B" (.ref t2)) ∧ (Arv Z h t2 kA .byte N2 vs2 (.int 0)) ∧ (StrChars.Road.CodA ds 0 N2 vs2) ∧ (∀ c ∈ ds, ¬ c < 0 ∧ ¬ (65535 : Int32) < c) ∧ (ds.length ≤ 4000) ∧ (ds = own_trim ([c0, c1] : List Int32)))
set_option maxRecDepth 65536 in
set_option maxHeartbeats 40000000 in
theorem own_ct_trim2 (l : Launch) (Z : State) (a0 : Array Value) (hw : ∀ d ∈ tables_1, d.before a0 Z = true) (EL : List (String × Nat)) (hE : EW Z a0 EL) (n0 : Nat) (ws : List Jvm.Cond) (h0 : Heap) (O : Old Z n0 h0) (tx : Addr) (t : Addr) (kb : ClassId) (z5 : Int32) (fm : Value) (c0 : Int32) (c1 : Int32) (E_tx : Exa Z h0 tx "java/lang/String") (F_tx_coder : Fld Z h0 tx "java/lang/String" "coder" "B" (.int 0)) (F_tx_value : Fld Z h0 tx "java/lang/String" "value" "[B" (.ref t)) (A_t : Arv Z h0 t kb .byte (2 : Int32) ((([c0, c1] : List Int32).map (fun (c : Int32) => c.toInt8.toInt32)).map Value.int) (.int 0)) (S_COMPACT_STRINGS : Sta Z Z.heap "java/lang/String" "COMPACT_STRINGS" "Z" (.int z5)) (P5 : ¬ z5 = 0) (S_SIOOBE_FORMATTER : Sta Z Z.heap "jdk/internal/util/Preconditions" "SIOOBE_FORMATTER" "Ljava/util/function/BiFunction;" fm) (hfm : fm.isRef = true) (hE151 : ("java/lang/StringLatin1", 151) ∈ EL) (b0 : ¬ c0 < 0 ∧ ¬ (255 : Int32) < c0) (b1 : ¬ c1 < 0 ∧ ¬ (255 : Int32) < c1) :
    own_Ct l Z EL n0 (⟨"com/example/caddis/caddis/conformance/XmlValues", "trim", "(Ljava/lang/String;)Ljava/lang/String;"⟩ : MethodName) prog_41_method_2_code 3 (some (.object "java/lang/String")) ws ({ frames := 5, cells := 2, slots := 9, locals := 80 } : Room) #[(.ref tx)] h0 [] (own_Q_trim2 Z h0 tx t kb z5 fm c0 c1) := by
 refine own_enter (a0 := a0) own_pf15 hE O fun p e s m below meth c T0 w0 => ?_
 rw [own_ef_trim2 m tx]
 have K : Keep h0 h0 [] := Keep.refl _ _
 refine own_iconst (pc' := 1) w0 own_d15_0 (x := (0 : Int32)) rfl rfl ?_
 refine own_istoreN (pc' := 2) w0 own_d15_1 (Ls' := #[.val (.ref tx), .val (.int (0 : Int32)), .unset]) rfl rfl ?_
 refine own_aloadN (pc' := 3) w0 own_d15_2 rfl rfl rfl ?_
 refine own_callVB (pc' := 6) w0 (kc := 0) (nc := 0) (own_w30 hw) (own_w31 hw) (fun s' hZ' => notFace_of_selects (args := #[]) (mvT hZ' (own_w33 hw))) (own_w33 hw) (own_w32 hw) (by decide) E_tx (QQ := fun v h' L => (v = some (.int (2 : Int32))) ∧ L = [] ∧ h' = h0) (fun s' hZ' => StrChars.Road.lenW (W := 0) hZ' (own_hwl hw) (kI := 4) (own_w6 hw) E_tx F_tx_value F_tx_coder A_t (own_cod (cs := ([c0, c1] : List Int32)) (n := 2) rfl (own_allS b0 (own_allS b1 own_all0))) (own_up ([c0, c1] : List Int32) (own_allS b0 (own_allS b1 own_all0))) (S_COMPACT_STRINGS.ext (own_old w0).2) P5 (Nat.le_of_ble_eq_true rfl) (by decide) (by decide)) (ws := []) all0 (fun v h' L q => ⟨q.2.2 ▸ Keep.refl _ _, q.2.1 ▸ Fr.nil _⟩) (argsL := []) (rest := []) rfl rfl own_pd6 rfl own_d15_3 rfl (Nat.le_of_eq rfl) (by decide) (by decide) fun T1 h3 v4 w2 K5 q6 => ?_
 obtain ⟨_, rfl, -, e7⟩ := q6
 rw [e7] at w2
 show own_Go Z EL n0 p e below s _ _ _ (T1.setTop (mkF m 6 _ [(.int (2 : Int32))]))
 refine own_istoreN (pc' := 7) w2 own_d15_6 (Ls' := #[.val (.ref tx), .val (.int (0 : Int32)), .val (.int (2 : Int32))]) rfl rfl ?_
 refine own_iloadN (pc' := 8) w2 own_d15_7 rfl rfl ?_
 refine own_iloadN (pc' := 9) w2 own_d15_8 rfl rfl ?_
 refine own_icmp (pc' := 12) w2 own_d15_9 rfl (by decide) (pcY := 29) rfl (fun (hb9 : ¬ (0 : Int32) < (2 : Int32)) => absurd hb9 (by decide)) (fun (hb9 : (0 : Int32) < (2 : Int32)) => ?_)
 refine own_aloadN (pc' := 13) w2 own_d15_12 rfl rfl rfl ?_
 refine own_iloadN (pc' := 14) w2 own_d15_13 rfl rfl ?_
 refine own_callVB (pc' := 17) w2 (kc := 0) (nc := 0) (own_w76 hw) (own_w77 hw) (fun s' hZ' => notFace_of_selects (args := #[]) (mvT hZ' (own_w79 hw))) (own_w79 hw) (own_w78 hw) (by decide) E_tx (QQ := fun v h' L => (v = some (.int c0)) ∧ L = [] ∧ h' = h0) (fun s' hZ' => StrChars.Road.chN (W := 0) hZ' (own_hwc hw) (kI := 4) (own_w6 hw) E_tx F_tx_value F_tx_coder A_t (own_cod (cs := ([c0, c1] : List Int32)) (n := 2) rfl (own_allS b0 (own_allS b1 own_all0))) (own_up ([c0, c1] : List Int32) (own_allS b0 (own_allS b1 own_all0))) (S_COMPACT_STRINGS.ext (own_old w2).2) P5 (S_SIOOBE_FORMATTER.ext (own_old w2).2) hfm (Nat.le_of_ble_eq_true rfl) (i := 0) (Nat.le_of_ble_eq_true rfl) rfl (by decide) (by decide)) (ws := []) all0 (fun v h' L q => ⟨q.2.2 ▸ Keep.refl _ _, q.2.1 ▸ Fr.nil _⟩) (argsL := [(.int (0 : Int32))]) (rest := []) rfl rfl own_pd11 rfl own_d15_14 rfl (Nat.le_of_eq rfl) (by decide) (by decide) fun T8 h10 v11 w9 K12 q13 => ?_
 obtain ⟨_, rfl, -, e14⟩ := q13
 rw [e14] at w9
 show own_Go Z EL n0 p e below s _ _ _ (T8.setTop (mkF m 17 _ [(.int c0)]))
 refine own_callS (pc' := 20) w9 (own_w96 hw) (own_w97 hw) (own_w28 hw) (own_w98 hw) (by decide) (own_ct_isSp l Z a0 hw EL hE n0 [] h0 (own_old w9) c0 ) all0 (argsL := [(.int c0)]) (rest := []) rfl rfl own_pd12 rfl own_d15_17 rfl (by decide) (W := 0) rfl (by decide) (by decide) (by decide) fun T15 h17 v18 ms19 w16 q20 => ?_
 obtain ⟨rfl, rfl, rfl⟩ := q20
 show own_Go Z EL n0 p e below s _ _ _ (T15.setTop (mkF m 20 _ [(.int (if own_sp c0 then 1 else 0))]))
 refine own_if (pc' := 23) w16 own_d15_20 rfl (by decide) (pcY := 29) rfl (fun (hb20 : (if own_sp c0 then 1 else 0) = (0 : Int32)) => ?_) (fun (hb20 : ¬ (if own_sp c0 then 1 else 0) = (0 : Int32)) => ?_)
 ·
  refine own_iloadN (pc' := 30) w16 own_d15_29 rfl rfl ?_
  refine own_iloadN (pc' := 31) w16 own_d15_30 rfl rfl ?_
  refine own_icmp (pc' := 34) w16 own_d15_31 rfl (by decide) (pcY := 53) rfl (fun (hb31 : ¬ (0 : Int32) < (2 : Int32)) => absurd hb31 (by decide)) (fun (hb31 : (0 : Int32) < (2 : Int32)) => ?_)
  refine own_aloadN (pc' := 35) w16 own_d15_34 rfl rfl rfl ?_
  refine own_iloadN (pc' := 36) w16 own_d15_35 rfl rfl ?_
  refine own_iconst (pc' := 37) w16 own_d15_36 (x := (1 : Int32)) rfl rfl ?_
  refine own_isub (pc' := 38) w16 own_d15_37 (z := (1 : Int32)) (by decide) rfl ?_
  refine own_callVB (pc' := 41) w16 (kc := 0) (nc := 0) (own_w76 hw) (own_w77 hw) (fun s' hZ' => notFace_of_selects (args := #[]) (mvT hZ' (own_w79 hw))) (own_w79 hw) (own_w78 hw) (by decide) E_tx (QQ := fun v h' L => (v = some (.int c1)) ∧ L = [] ∧ h' = h0) (fun s' hZ' => StrChars.Road.chN (W := 0) hZ' (own_hwc hw) (kI := 4) (own_w6 hw) E_tx F_tx_value F_tx_coder A_t (own_cod (cs := ([c0, c1] : List Int32)) (n := 2) rfl (own_allS b0 (own_allS b1 own_all0))) (own_up ([c0, c1] : List Int32) (own_allS b0 (own_allS b1 own_all0))) (S_COMPACT_STRINGS.ext (own_old w16).2) P5 (S_SIOOBE_FORMATTER.ext (own_old w16).2) hfm (Nat.le_of_ble_eq_true rfl) (i := 1) (Nat.le_of_ble_eq_true rfl) rfl (by decide) (by decide)) (ws := []) all0 (fun v h' L q => ⟨q.2.2 ▸ Keep.refl _ _, q.2.1 ▸ Fr.nil _⟩) (argsL := [(.int (1 : Int32))]) (rest := []) rfl rfl own_pd11 rfl own_d15_38 rfl (Nat.le_of_eq rfl) (by decide) (by decide) fun T21 h23 v24 w22 K25 q26 => ?_
  obtain ⟨_, rfl, -, e27⟩ := q26
  rw [e27] at w22
  show own_Go Z EL n0 p e below s _ _ _ (T21.setTop (mkF m 41 _ [(.int c1)]))
  refine own_callS (pc' := 44) w22 (own_w96 hw) (own_w97 hw) (own_w28 hw) (own_w98 hw) (by decide) (own_ct_isSp l Z a0 hw EL hE n0 [] h0 (own_old w22) c1 ) all0 (argsL := [(.int c1)]) (rest := []) rfl rfl own_pd12 rfl own_d15_41 rfl (by decide) (W := 0) rfl (by decide) (by decide) (by decide) fun T28 h30 v31 ms32 w29 q33 => ?_
  obtain ⟨rfl, rfl, rfl⟩ := q33
  show own_Go Z EL n0 p e below s _ _ _ (T28.setTop (mkF m 44 _ [(.int (if own_sp c1 then 1 else 0))]))
  refine own_if (pc' := 47) w29 own_d15_44 rfl (by decide) (pcY := 53) rfl (fun (hb44 : (if own_sp c1 then 1 else 0) = (0 : Int32)) => ?_) (fun (hb44 : ¬ (if own_sp c1 then 1 else 0) = (0 : Int32)) => ?_)
  ·
   refine own_aloadN (pc' := 54) w29 own_d15_53 rfl rfl rfl ?_
   refine own_iloadN (pc' := 55) w29 own_d15_54 rfl rfl ?_
   refine own_iloadN (pc' := 56) w29 own_d15_55 rfl rfl ?_
   refine own_callV (pc' := 59) w29 (own_w41 hw) (own_w42 hw) (fun s' hZ' => notFace_of_selects (args := #[]) (mvT hZ' (own_w44 hw))) (own_w44 hw) (own_w43 hw) (own_w7 hw) (own_w45 hw) (by decide) E_tx (own_ct_subW l Z a0 hw EL hE n0 [] h0 (own_old w29) tx (0 : Int32) (2 : Int32) t kb (2 : Int32) ((([c0, c1] : List Int32).map (fun (c : Int32) => c.toInt8.toInt32)).map Value.int) ([c0, c1] : List Int32) (2 : Int32) 0 2 z5 fm E_tx F_tx_coder F_tx_value A_t ((own_cod (cs := ([c0, c1] : List Int32)) (n := 2) rfl (own_allS b0 (own_allS b1 own_all0)))) (own_up ([c0, c1] : List Int32) (own_allS b0 (own_allS b1 own_all0))) ((Nat.le_of_ble_eq_true rfl)) S_COMPACT_STRINGS (P5) S_SIOOBE_FORMATTER (hfm) (by decide) (rfl) (by decide) (by decide)) all0 (argsL := [(.int (0 : Int32)), (.int (2 : Int32))]) (rest := []) rfl rfl own_pd10 rfl own_d15_56 rfl (by decide) (W := 0) rfl (by decide) (by decide) (by decide) fun T34 h36 v37 ms38 w35 q39 => ?_
   obtain ⟨rfl, rfl, rfl⟩ := q39
   show own_Go Z EL n0 p e below s _ _ _ (T34.setTop (mkF m 59 _ [(.ref tx)]))
   have k_c0 := own_sp1 hb20
   have k_c1 := own_sp1 hb44
   exact own_retV w35 (t := (.object "java/lang/String")) rfl (own_narR rfl rfl) (Or.inr (Or.inr (Or.inr (Or.inr ⟨rfl, rfl, rfl⟩)))) own_d15_59 (by decide) (by decide) (ms' := []) all0 ⟨K, tx, t, kb, (2 : Int32), ((([c0, c1] : List Int32).map (fun (c : Int32) => c.toInt8.toInt32)).map Value.int), ([c0, c1] : List Int32), rfl, rfl, E_tx, F_tx_coder, F_tx_value, A_t, (own_cod (cs := ([c0, c1] : List Int32)) (n := 2) rfl (own_allS b0 (own_allS b1 own_all0))), (own_up ([c0, c1] : List Int32) (own_allS b0 (own_allS b1 own_all0))), (Nat.le_of_ble_eq_true rfl), (by simp [own_trim, List.dropWhile, k_c0, k_c1])⟩
  ·
   refine own_iinc (pc' := 50) w29 own_d15_47 rfl (y := (1 : Int32)) (by decide) (Ls' := #[.val (.ref tx), .val (.int (0 : Int32)), .val (.int (1 : Int32))]) rfl rfl ?_
   refine own_goto w29 own_d15_50 (by decide) (pc' := 29) rfl ?_
   refine own_iloadN (pc' := 30) w29 own_d15_29 rfl rfl ?_
   refine own_iloadN (pc' := 31) w29 own_d15_30 rfl rfl ?_
   refine own_icmp (pc' := 34) w29 own_d15_31 rfl (by decide) (pcY := 53) rfl (fun (hb31_1 : ¬ (0 : Int32) < (1 : Int32)) => absurd hb31_1 (by decide)) (fun (hb31_1 : (0 : Int32) < (1 : Int32)) => ?_)
   refine own_aloadN (pc' := 35) w29 own_d15_34 rfl rfl rfl ?_
   refine own_iloadN (pc' := 36) w29 own_d15_35 rfl rfl ?_
   refine own_iconst (pc' := 37) w29 own_d15_36 (x := (1 : Int32)) rfl rfl ?_
   refine own_isub (pc' := 38) w29 own_d15_37 (z := (0 : Int32)) (by decide) rfl ?_
   refine own_callVB (pc' := 41) w29 (kc := 0) (nc := 0) (own_w76 hw) (own_w77 hw) (fun s' hZ' => notFace_of_selects (args := #[]) (mvT hZ' (own_w79 hw))) (own_w79 hw) (own_w78 hw) (by decide) E_tx (QQ := fun v h' L => (v = some (.int c0)) ∧ L = [] ∧ h' = h0) (fun s' hZ' => StrChars.Road.chN (W := 0) hZ' (own_hwc hw) (kI := 4) (own_w6 hw) E_tx F_tx_value F_tx_coder A_t (own_cod (cs := ([c0, c1] : List Int32)) (n := 2) rfl (own_allS b0 (own_allS b1 own_all0))) (own_up ([c0, c1] : List Int32) (own_allS b0 (own_allS b1 own_all0))) (S_COMPACT_STRINGS.ext (own_old w29).2) P5 (S_SIOOBE_FORMATTER.ext (own_old w29).2) hfm (Nat.le_of_ble_eq_true rfl) (i := 0) (Nat.le_of_ble_eq_true rfl) rfl (by decide) (by decide)) (ws := []) all0 (fun v h' L q => ⟨q.2.2 ▸ Keep.refl _ _, q.2.1 ▸ Fr.nil _⟩) (argsL := [(.int (0 : Int32))]) (rest := []) rfl rfl own_pd11 rfl own_d15_38 rfl (Nat.le_of_eq rfl) (by decide) (by decide) fun T40 h42 v43 w41 K44 q45 => ?_
   obtain ⟨_, rfl, -, e46⟩ := q45
   rw [e46] at w41
   show own_Go Z EL n0 p e below s _ _ _ (T40.setTop (mkF m 41 _ [(.int c0)]))
   refine own_callS (pc' := 44) w41 (own_w96 hw) (own_w97 hw) (own_w28 hw) (own_w98 hw) (by decide) (own_ct_isSp l Z a0 hw EL hE n0 [] h0 (own_old w41) c0 ) all0 (argsL := [(.int c0)]) (rest := []) rfl rfl own_pd12 rfl own_d15_41 rfl (by decide) (W := 0) rfl (by decide) (by decide) (by decide) fun T47 h49 v50 ms51 w48 q52 => ?_
   obtain ⟨rfl, rfl, rfl⟩ := q52
   show own_Go Z EL n0 p e below s _ _ _ (T47.setTop (mkF m 44 _ [(.int (if own_sp c0 then 1 else 0))]))
   refine own_if (pc' := 47) w48 own_d15_44 rfl (by decide) (pcY := 53) rfl (fun (hb44_1 : (if own_sp c0 then 1 else 0) = (0 : Int32)) => ?_) (fun (hb44_1 : ¬ (if own_sp c0 then 1 else 0) = (0 : Int32)) => absurd hb20 hb44_1)
   refine own_aloadN (pc' := 54) w48 own_d15_53 rfl rfl rfl ?_
   refine own_iloadN (pc' := 55) w48 own_d15_54 rfl rfl ?_
   refine own_iloadN (pc' := 56) w48 own_d15_55 rfl rfl ?_
   refine own_callV (pc' := 59) w48 (own_w41 hw) (own_w42 hw) (fun s' hZ' => notFace_of_selects (args := #[]) (mvT hZ' (own_w44 hw))) (own_w44 hw) (own_w43 hw) (own_w7 hw) (own_w45 hw) (by decide) E_tx (own_ct_subC l Z a0 hw EL hE n0 [] h0 (own_old w48) tx (0 : Int32) (1 : Int32) t kb (2 : Int32) ((([c0, c1] : List Int32).map (fun (c : Int32) => c.toInt8.toInt32)).map Value.int) ([c0, c1] : List Int32) (1 : Int32) 0 1 z5 fm E_tx F_tx_coder F_tx_value A_t ((own_cod (cs := ([c0, c1] : List Int32)) (n := 2) rfl (own_allS b0 (own_allS b1 own_all0)))) (own_up ([c0, c1] : List Int32) (own_allS b0 (own_allS b1 own_all0))) ((Nat.le_of_ble_eq_true rfl)) S_COMPACT_STRINGS (P5) S_SIOOBE_FORMATTER (hfm) (by decide) (rfl) (by decide) (by decide) (by decide)) all0 (argsL := [(.int (0 : Int32)), (.int (1 : Int32))]) (rest := []) rfl rfl own_pd10 rfl own_d15_56 rfl (by decide) (W := 0) rfl (by decide) (by decide) (by decide) fun T53 h55 v56 ms57 w54 q58 => ?_
   obtain ⟨K62, r_59, t2_60, kA_61, rfl, rfl, nw_E_r_59, nw_F_r_59_coder, nw_F_r_59_value, nw_A_t2_60, p56_subC_0⟩ := q58
   have ne_t_r_59 : t ≠ r_59 := Nat.ne_of_lt (Nat.lt_of_lt_of_le A_t.lt p56_subC_0)
   have ne_tx_r_59 : tx ≠ r_59 := Nat.ne_of_lt (Nat.lt_of_lt_of_le E_tx.lt p56_subC_0)
   have nw_r_59 : h0.size ≤ r_59 := Nat.le_trans K.1 p56_subC_0
   replace E_tx := E_tx.keep K62
   replace F_tx_coder := F_tx_coder.keep K62 nin0
   replace F_tx_value := F_tx_value.keep K62 nin0
   replace A_t := A_t.keep K62 nin0
   replace K := K.trans K62 all0
   have E_r_59 := nw_E_r_59; clear nw_E_r_59
   have F_r_59_coder := nw_F_r_59_coder; clear nw_F_r_59_coder
   have F_r_59_value := nw_F_r_59_value; clear nw_F_r_59_value
   have A_t2_60 := nw_A_t2_60; clear nw_A_t2_60
   show own_Go Z EL n0 p e below s _ _ _ (T53.setTop (mkF m 59 _ [(.ref r_59)]))
   have k_c0 := own_sp1 hb20
   have k_c1 := own_sp0 hb44
   exact own_retV w54 (t := (.object "java/lang/String")) rfl (own_narR rfl rfl) (Or.inr (Or.inr (Or.inr (Or.inr ⟨rfl, rfl, rfl⟩)))) own_d15_59 (by decide) (by decide) (ms' := []) all0 ⟨K, r_59, t2_60, kA_61, (1 : Int32), (own_sl ((([c0, c1] : List Int32).map (fun (c : Int32) => c.toInt8.toInt32)).map Value.int) 0 1), ([c0] : List Int32), rfl, rfl, E_r_59, F_r_59_coder, F_r_59_value, A_t2_60, (own_cod (cs := ([c0] : List Int32)) (n := 1) rfl (own_allS b0 own_all0)), (own_up ([c0] : List Int32) (own_allS b0 own_all0)), (Nat.le_of_ble_eq_true rfl), (by simp [own_trim, List.dropWhile, k_c0, k_c1])⟩
 ·
  refine own_iinc (pc' := 26) w16 own_d15_23 rfl (y := (1 : Int32)) (by decide) (Ls' := #[.val (.ref tx), .val (.int (1 : Int32)), .val (.int (2 : Int32))]) rfl rfl ?_
  refine own_goto w16 own_d15_26 (by decide) (pc' := 7) rfl ?_
  refine own_iloadN (pc' := 8) w16 own_d15_7 rfl rfl ?_
  refine own_iloadN (pc' := 9) w16 own_d15_8 rfl rfl ?_
  refine own_icmp (pc' := 12) w16 own_d15_9 rfl (by decide) (pcY := 29) rfl (fun (hb9_1 : ¬ (1 : Int32) < (2 : Int32)) => absurd hb9_1 (by decide)) (fun (hb9_1 : (1 : Int32) < (2 : Int32)) => ?_)
  refine own_aloadN (pc' := 13) w16 own_d15_12 rfl rfl rfl ?_
  refine own_iloadN (pc' := 14) w16 own_d15_13 rfl rfl ?_
  refine own_callVB (pc' := 17) w16 (kc := 0) (nc := 0) (own_w76 hw) (own_w77 hw) (fun s' hZ' => notFace_of_selects (args := #[]) (mvT hZ' (own_w79 hw))) (own_w79 hw) (own_w78 hw) (by decide) E_tx (QQ := fun v h' L => (v = some (.int c1)) ∧ L = [] ∧ h' = h0) (fun s' hZ' => StrChars.Road.chN (W := 0) hZ' (own_hwc hw) (kI := 4) (own_w6 hw) E_tx F_tx_value F_tx_coder A_t (own_cod (cs := ([c0, c1] : List Int32)) (n := 2) rfl (own_allS b0 (own_allS b1 own_all0))) (own_up ([c0, c1] : List Int32) (own_allS b0 (own_allS b1 own_all0))) (S_COMPACT_STRINGS.ext (own_old w16).2) P5 (S_SIOOBE_FORMATTER.ext (own_old w16).2) hfm (Nat.le_of_ble_eq_true rfl) (i := 1) (Nat.le_of_ble_eq_true rfl) rfl (by decide) (by decide)) (ws := []) all0 (fun v h' L q => ⟨q.2.2 ▸ Keep.refl _ _, q.2.1 ▸ Fr.nil _⟩) (argsL := [(.int (1 : Int32))]) (rest := []) rfl rfl own_pd11 rfl own_d15_14 rfl (Nat.le_of_eq rfl) (by decide) (by decide) fun T63 h65 v66 w64 K67 q68 => ?_
  obtain ⟨_, rfl, -, e69⟩ := q68
  rw [e69] at w64
  show own_Go Z EL n0 p e below s _ _ _ (T63.setTop (mkF m 17 _ [(.int c1)]))
  refine own_callS (pc' := 20) w64 (own_w96 hw) (own_w97 hw) (own_w28 hw) (own_w98 hw) (by decide) (own_ct_isSp l Z a0 hw EL hE n0 [] h0 (own_old w64) c1 ) all0 (argsL := [(.int c1)]) (rest := []) rfl rfl own_pd12 rfl own_d15_17 rfl (by decide) (W := 0) rfl (by decide) (by decide) (by decide) fun T70 h72 v73 ms74 w71 q75 => ?_
  obtain ⟨rfl, rfl, rfl⟩ := q75
  show own_Go Z EL n0 p e below s _ _ _ (T70.setTop (mkF m 20 _ [(.int (if own_sp c1 then 1 else 0))]))
  refine own_if (pc' := 23) w71 own_d15_20 rfl (by decide) (pcY := 29) rfl (fun (hb20_1 : (if own_sp c1 then 1 else 0) = (0 : Int32)) => ?_) (fun (hb20_1 : ¬ (if own_sp c1 then 1 else 0) = (0 : Int32)) => ?_)
  ·
   refine own_iloadN (pc' := 30) w71 own_d15_29 rfl rfl ?_
   refine own_iloadN (pc' := 31) w71 own_d15_30 rfl rfl ?_
   refine own_icmp (pc' := 34) w71 own_d15_31 rfl (by decide) (pcY := 53) rfl (fun (hb31 : ¬ (1 : Int32) < (2 : Int32)) => absurd hb31 (by decide)) (fun (hb31 : (1 : Int32) < (2 : Int32)) => ?_)
   refine own_aloadN (pc' := 35) w71 own_d15_34 rfl rfl rfl ?_
   refine own_iloadN (pc' := 36) w71 own_d15_35 rfl rfl ?_
   refine own_iconst (pc' := 37) w71 own_d15_36 (x := (1 : Int32)) rfl rfl ?_
   refine own_isub (pc' := 38) w71 own_d15_37 (z := (1 : Int32)) (by decide) rfl ?_
   refine own_callVB (pc' := 41) w71 (kc := 0) (nc := 0) (own_w76 hw) (own_w77 hw) (fun s' hZ' => notFace_of_selects (args := #[]) (mvT hZ' (own_w79 hw))) (own_w79 hw) (own_w78 hw) (by decide) E_tx (QQ := fun v h' L => (v = some (.int c1)) ∧ L = [] ∧ h' = h0) (fun s' hZ' => StrChars.Road.chN (W := 0) hZ' (own_hwc hw) (kI := 4) (own_w6 hw) E_tx F_tx_value F_tx_coder A_t (own_cod (cs := ([c0, c1] : List Int32)) (n := 2) rfl (own_allS b0 (own_allS b1 own_all0))) (own_up ([c0, c1] : List Int32) (own_allS b0 (own_allS b1 own_all0))) (S_COMPACT_STRINGS.ext (own_old w71).2) P5 (S_SIOOBE_FORMATTER.ext (own_old w71).2) hfm (Nat.le_of_ble_eq_true rfl) (i := 1) (Nat.le_of_ble_eq_true rfl) rfl (by decide) (by decide)) (ws := []) all0 (fun v h' L q => ⟨q.2.2 ▸ Keep.refl _ _, q.2.1 ▸ Fr.nil _⟩) (argsL := [(.int (1 : Int32))]) (rest := []) rfl rfl own_pd11 rfl own_d15_38 rfl (Nat.le_of_eq rfl) (by decide) (by decide) fun T76 h78 v79 w77 K80 q81 => ?_
   obtain ⟨_, rfl, -, e82⟩ := q81
   rw [e82] at w77
   show own_Go Z EL n0 p e below s _ _ _ (T76.setTop (mkF m 41 _ [(.int c1)]))
   refine own_callS (pc' := 44) w77 (own_w96 hw) (own_w97 hw) (own_w28 hw) (own_w98 hw) (by decide) (own_ct_isSp l Z a0 hw EL hE n0 [] h0 (own_old w77) c1 ) all0 (argsL := [(.int c1)]) (rest := []) rfl rfl own_pd12 rfl own_d15_41 rfl (by decide) (W := 0) rfl (by decide) (by decide) (by decide) fun T83 h85 v86 ms87 w84 q88 => ?_
   obtain ⟨rfl, rfl, rfl⟩ := q88
   show own_Go Z EL n0 p e below s _ _ _ (T83.setTop (mkF m 44 _ [(.int (if own_sp c1 then 1 else 0))]))
   refine own_if (pc' := 47) w84 own_d15_44 rfl (by decide) (pcY := 53) rfl (fun (hb44 : (if own_sp c1 then 1 else 0) = (0 : Int32)) => ?_) (fun (hb44 : ¬ (if own_sp c1 then 1 else 0) = (0 : Int32)) => absurd hb20_1 hb44)
   refine own_aloadN (pc' := 54) w84 own_d15_53 rfl rfl rfl ?_
   refine own_iloadN (pc' := 55) w84 own_d15_54 rfl rfl ?_
   refine own_iloadN (pc' := 56) w84 own_d15_55 rfl rfl ?_
   refine own_callV (pc' := 59) w84 (own_w41 hw) (own_w42 hw) (fun s' hZ' => notFace_of_selects (args := #[]) (mvT hZ' (own_w44 hw))) (own_w44 hw) (own_w43 hw) (own_w7 hw) (own_w45 hw) (by decide) E_tx (own_ct_subC l Z a0 hw EL hE n0 [] h0 (own_old w84) tx (1 : Int32) (2 : Int32) t kb (2 : Int32) ((([c0, c1] : List Int32).map (fun (c : Int32) => c.toInt8.toInt32)).map Value.int) ([c0, c1] : List Int32) (1 : Int32) 1 1 z5 fm E_tx F_tx_coder F_tx_value A_t ((own_cod (cs := ([c0, c1] : List Int32)) (n := 2) rfl (own_allS b0 (own_allS b1 own_all0)))) (own_up ([c0, c1] : List Int32) (own_allS b0 (own_allS b1 own_all0))) ((Nat.le_of_ble_eq_true rfl)) S_COMPACT_STRINGS (P5) S_SIOOBE_FORMATTER (hfm) (by decide) (rfl) (by decide) (by decide) (by decide)) all0 (argsL := [(.int (1 : Int32)), (.int (2 : Int32))]) (rest := []) rfl rfl own_pd10 rfl own_d15_56 rfl (by decide) (W := 0) rfl (by decide) (by decide) (by decide) fun T89 h91 v92 ms93 w90 q94 => ?_
   obtain ⟨K98, r_95, t2_96, kA_97, rfl, rfl, nw_E_r_95, nw_F_r_95_coder, nw_F_r_95_value, nw_A_t2_96, p56_subC_0⟩ := q94
   have ne_t_r_95 : t ≠ r_95 := Nat.ne_of_lt (Nat.lt_of_lt_of_le A_t.lt p56_subC_0)
   have ne_tx_r_95 : tx ≠ r_95 := Nat.ne_of_lt (Nat.lt_of_lt_of_le E_tx.lt p56_subC_0)
   have nw_r_95 : h0.size ≤ r_95 := Nat.le_trans K.1 p56_subC_0
   replace E_tx := E_tx.keep K98
   replace F_tx_coder := F_tx_coder.keep K98 nin0
   replace F_tx_value := F_tx_value.keep K98 nin0
   replace A_t := A_t.keep K98 nin0
   replace K := K.trans K98 all0
   have E_r_95 := nw_E_r_95; clear nw_E_r_95
   have F_r_95_coder := nw_F_r_95_coder; clear nw_F_r_95_coder
   have F_r_95_value := nw_F_r_95_value; clear nw_F_r_95_value
   have A_t2_96 := nw_A_t2_96; clear nw_A_t2_96
   show own_Go Z EL n0 p e below s _ _ _ (T89.setTop (mkF m 59 _ [(.ref r_95)]))
   have k_c0 := own_sp0 hb20
   have k_c1 := own_sp1 hb20_1
   exact own_retV w90 (t := (.object "java/lang/String")) rfl (own_narR rfl rfl) (Or.inr (Or.inr (Or.inr (Or.inr ⟨rfl, rfl, rfl⟩)))) own_d15_59 (by decide) (by decide) (ms' := []) all0 ⟨K, r_95, t2_96, kA_97, (1 : Int32), (own_sl ((([c0, c1] : List Int32).map (fun (c : Int32) => c.toInt8.toInt32)).map Value.int) 1 1), ([c1] : List Int32), rfl, rfl, E_r_95, F_r_95_coder, F_r_95_value, A_t2_96, (own_cod (cs := ([c1] : List Int32)) (n := 1) rfl (own_allS b1 own_all0)), (own_up ([c1] : List Int32) (own_allS b1 own_all0)), (Nat.le_of_ble_eq_true rfl), (by simp [own_trim, List.dropWhile, k_c0, k_c1])⟩
  ·
   refine own_iinc (pc' := 26) w71 own_d15_23 rfl (y := (2 : Int32)) (by decide) (Ls' := #[.val (.ref tx), .val (.int (2 : Int32)), .val (.int (2 : Int32))]) rfl rfl ?_
   refine own_goto w71 own_d15_26 (by decide) (pc' := 7) rfl ?_
   refine own_iloadN (pc' := 8) w71 own_d15_7 rfl rfl ?_
   refine own_iloadN (pc' := 9) w71 own_d15_8 rfl rfl ?_
   refine own_icmp (pc' := 12) w71 own_d15_9 rfl (by decide) (pcY := 29) rfl (fun (hb9_2 : ¬ (2 : Int32) < (2 : Int32)) => ?_) (fun (hb9_2 : (2 : Int32) < (2 : Int32)) => absurd hb9_2 (by decide))
   refine own_iloadN (pc' := 30) w71 own_d15_29 rfl rfl ?_
   refine own_iloadN (pc' := 31) w71 own_d15_30 rfl rfl ?_
   refine own_icmp (pc' := 34) w71 own_d15_31 rfl (by decide) (pcY := 53) rfl (fun (hb31 : ¬ (2 : Int32) < (2 : Int32)) => ?_) (fun (hb31 : (2 : Int32) < (2 : Int32)) => absurd hb31 (by decide))
   refine own_aloadN (pc' := 54) w71 own_d15_53 rfl rfl rfl ?_
   refine own_iloadN (pc' := 55) w71 own_d15_54 rfl rfl ?_
   refine own_iloadN (pc' := 56) w71 own_d15_55 rfl rfl ?_
   refine own_callV (pc' := 59) w71 (own_w41 hw) (own_w42 hw) (fun s' hZ' => notFace_of_selects (args := #[]) (mvT hZ' (own_w44 hw))) (own_w44 hw) (own_w43 hw) (own_w7 hw) (own_w45 hw) (by decide) E_tx (own_ct_subE l Z a0 hw EL hE n0 [] h0 (own_old w71) tx (2 : Int32) (2 : Int32) t kb (2 : Int32) ((([c0, c1] : List Int32).map (fun (c : Int32) => c.toInt8.toInt32)).map Value.int) ([c0, c1] : List Int32) (0 : Int32) 2 0 z5 fm E_tx F_tx_coder F_tx_value A_t ((own_cod (cs := ([c0, c1] : List Int32)) (n := 2) rfl (own_allS b0 (own_allS b1 own_all0)))) (own_up ([c0, c1] : List Int32) (own_allS b0 (own_allS b1 own_all0))) ((Nat.le_of_ble_eq_true rfl)) S_COMPACT_STRINGS (P5) S_SIOOBE_FORMATTER (hfm) (by decide) (rfl) (by decide) (by decide) (hE151)) all0 (argsL := [(.int (2 : Int32)), (.int (2 : Int32))]) (rest := []) rfl rfl own_pd10 rfl own_d15_56 rfl (by decide) (W := 0) rfl (by decide) (by decide) (by decide) fun T99 h101 v102 ms103 w100 q104 => ?_
   obtain ⟨K108, r_105, t2_106, kA_107, rfl, rfl, nw_E_r_105, nw_F_r_105_coder, nw_F_r_105_value, nw_A_t2_106⟩ := q104
   replace E_tx := E_tx.keep K108
   replace F_tx_coder := F_tx_coder.keep K108 nin0
   replace F_tx_value := F_tx_value.keep K108 nin0
   replace A_t := A_t.keep K108 nin0
   replace K := K.trans K108 all0
   have E_r_105 := nw_E_r_105; clear nw_E_r_105
   have F_r_105_coder := nw_F_r_105_coder; clear nw_F_r_105_coder
   have F_r_105_value := nw_F_r_105_value; clear nw_F_r_105_value
   have A_t2_106 := nw_A_t2_106; clear nw_A_t2_106
   show own_Go Z EL n0 p e below s _ _ _ (T99.setTop (mkF m 59 _ [(.ref r_105)]))
   have k_c0 := own_sp0 hb20
   have k_c1 := own_sp0 hb20_1
   exact own_retV w100 (t := (.object "java/lang/String")) rfl (own_narR rfl rfl) (Or.inr (Or.inr (Or.inr (Or.inr ⟨rfl, rfl, rfl⟩)))) own_d15_59 (by decide) (by decide) (ms' := []) all0 ⟨K, r_105, t2_106, kA_107, (0 : Int32), [], ([] : List Int32), rfl, rfl, E_r_105, F_r_105_coder, F_r_105_value, A_t2_106, (Or.inl ⟨rfl, rfl, rfl, own_all0⟩), (own_up ([] : List Int32) own_all0), (Nat.le_of_ble_eq_true rfl), (by simp [own_trim, List.dropWhile, k_c0, k_c1])⟩
theorem own_ef_trim3 (m : MethodId) (tx : Addr) : entryFrame m #[(.ref tx)] 3 = mkF m 0 #[.val (.ref tx), .unset, .unset] [] := by first | (simp [entryFrame, mkF, argsToLocals, Value.category]; done) | rfl
def own_Q_trim3 (Z : State) (h0 : Heap) (tx : Addr) (t : Addr) (kb : ClassId) (z5 : Int32) (fm : Value) (c0 : Int32) (c1 : Int32) (c2 : Int32) (v : Option Value) (h : Heap) (ms : List Addr) : Prop := (Keep h0 h []) ∧ (∃ (r : Addr) (t2 : Addr) (kA : ClassId) (N2 : Int32) (vs2 : List Value) (ds : List Int32), (ms = []) ∧ (v = some (.ref r)) ∧ (Exa Z h r "java/lang/String") ∧ (Fld Z h r "java/lang/String" "coder" "B" (.int 0)) ∧ (Fld Z h r "java/lang/String" "value" "[B" (.ref t2)) ∧ (Arv Z h t2 kA .byte N2 vs2 (.int 0)) ∧ (StrChars.Road.CodA ds 0 N2 vs2) ∧ (∀ c ∈ ds, ¬ c < 0 ∧ ¬ (65535 : Int32) < c) ∧ (ds.length ≤ 4000) ∧ (ds = own_trim ([c0, c1, c2] : List Int32)))
set_option maxRecDepth 65536 in
set_option maxHeartbeats 40000000 in
theorem own_ct_trim3 (l : Launch) (Z : State) (a0 : Array Value) (hw : ∀ d ∈ tables_1, d.before a0 Z = true) (EL : List (String × Nat)) (hE : EW Z a0 EL) (n0 : Nat) (ws : List Jvm.Cond) (h0 : Heap) (O : Old Z n0 h0) (tx : Addr) (t : Addr) (kb : ClassId) (z5 : Int32) (fm : Value) (c0 : Int32) (c1 : Int32) (c2 : Int32) (E_tx : Exa Z h0 tx "java/lang/String") (F_tx_coder : Fld Z h0 tx "java/lang/String" "coder" "B" (.int 0)) (F_tx_value : Fld Z h0 tx "java/lang/String" "value" "[B" (.ref t)) (A_t : Arv Z h0 t kb .byte (3 : Int32) ((([c0, c1, c2] : List Int32).map (fun (c : Int32) => c.toInt8.toInt32)).map Value.int) (.int 0)) (S_COMPACT_STRINGS : Sta Z Z.heap "java/lang/String" "COMPACT_STRINGS" "Z" (.int z5)) (P5 : ¬ z5 = 0) (S_SIOOBE_FORMATTER : Sta Z Z.heap "jdk/internal/util/Preconditions" "SIOOBE_FORMATTER" "Ljava/util/function/BiFunction;" fm) (hfm : fm.isRef = true) (hE151 : ("java/lang/StringLatin1", 151) ∈ EL) (b0 : ¬ c0 < 0 ∧ ¬ (255 : Int32) < c0) (b1 : ¬ c1 < 0 ∧ ¬ (255 : Int32) < c1) (b2 : ¬ c2 < 0 ∧ ¬ (255 : Int32) < c2) :
    own_Ct l Z EL n0 (⟨"com/example/caddis/caddis/conformance/XmlValues", "trim", "(Ljava/lang/String;)Ljava/lang/String;"⟩ : MethodName) prog_41_method_2_code 3 (some (.object "java/lang/String")) ws ({ frames := 5, cells := 2, slots := 9, locals := 80 } : Room) #[(.ref tx)] h0 [] (own_Q_trim3 Z h0 tx t kb z5 fm c0 c1 c2) := by
 refine own_enter (a0 := a0) own_pf15 hE O fun p e s m below meth c T0 w0 => ?_
 rw [own_ef_trim3 m tx]
 have K : Keep h0 h0 [] := Keep.refl _ _
 refine own_iconst (pc' := 1) w0 own_d15_0 (x := (0 : Int32)) rfl rfl ?_
 refine own_istoreN (pc' := 2) w0 own_d15_1 (Ls' := #[.val (.ref tx), .val (.int (0 : Int32)), .unset]) rfl rfl ?_
 refine own_aloadN (pc' := 3) w0 own_d15_2 rfl rfl rfl ?_
 refine own_callVB (pc' := 6) w0 (kc := 0) (nc := 0) (own_w30 hw) (own_w31 hw) (fun s' hZ' => notFace_of_selects (args := #[]) (mvT hZ' (own_w33 hw))) (own_w33 hw) (own_w32 hw) (by decide) E_tx (QQ := fun v h' L => (v = some (.int (3 : Int32))) ∧ L = [] ∧ h' = h0) (fun s' hZ' => StrChars.Road.lenW (W := 0) hZ' (own_hwl hw) (kI := 4) (own_w6 hw) E_tx F_tx_value F_tx_coder A_t (own_cod (cs := ([c0, c1, c2] : List Int32)) (n := 3) rfl (own_allS b0 (own_allS b1 (own_allS b2 own_all0)))) (own_up ([c0, c1, c2] : List Int32) (own_allS b0 (own_allS b1 (own_allS b2 own_all0)))) (S_COMPACT_STRINGS.ext (own_old w0).2) P5 (Nat.le_of_ble_eq_true rfl) (by decide) (by decide)) (ws := []) all0 (fun v h' L q => ⟨q.2.2 ▸ Keep.refl _ _, q.2.1 ▸ Fr.nil _⟩) (argsL := []) (rest := []) rfl rfl own_pd6 rfl own_d15_3 rfl (Nat.le_of_eq rfl) (by decide) (by decide) fun T1 h3 v4 w2 K5 q6 => ?_
 obtain ⟨_, rfl, -, e7⟩ := q6
 rw [e7] at w2
 show own_Go Z EL n0 p e below s _ _ _ (T1.setTop (mkF m 6 _ [(.int (3 : Int32))]))
 refine own_istoreN (pc' := 7) w2 own_d15_6 (Ls' := #[.val (.ref tx), .val (.int (0 : Int32)), .val (.int (3 : Int32))]) rfl rfl ?_
 refine own_iloadN (pc' := 8) w2 own_d15_7 rfl rfl ?_
 refine own_iloadN (pc' := 9) w2 own_d15_8 rfl rfl ?_
 refine own_icmp (pc' := 12) w2 own_d15_9 rfl (by decide) (pcY := 29) rfl (fun (hb9 : ¬ (0 : Int32) < (3 : Int32)) => absurd hb9 (by decide)) (fun (hb9 : (0 : Int32) < (3 : Int32)) => ?_)
 refine own_aloadN (pc' := 13) w2 own_d15_12 rfl rfl rfl ?_
 refine own_iloadN (pc' := 14) w2 own_d15_13 rfl rfl ?_
 refine own_callVB (pc' := 17) w2 (kc := 0) (nc := 0) (own_w76 hw) (own_w77 hw) (fun s' hZ' => notFace_of_selects (args := #[]) (mvT hZ' (own_w79 hw))) (own_w79 hw) (own_w78 hw) (by decide) E_tx (QQ := fun v h' L => (v = some (.int c0)) ∧ L = [] ∧ h' = h0) (fun s' hZ' => StrChars.Road.chN (W := 0) hZ' (own_hwc hw) (kI := 4) (own_w6 hw) E_tx F_tx_value F_tx_coder A_t (own_cod (cs := ([c0, c1, c2] : List Int32)) (n := 3) rfl (own_allS b0 (own_allS b1 (own_allS b2 own_all0)))) (own_up ([c0, c1, c2] : List Int32) (own_allS b0 (own_allS b1 (own_allS b2 own_all0)))) (S_COMPACT_STRINGS.ext (own_old w2).2) P5 (S_SIOOBE_FORMATTER.ext (own_old w2).2) hfm (Nat.le_of_ble_eq_true rfl) (i := 0) (Nat.le_of_ble_eq_true rfl) rfl (by decide) (by decide)) (ws := []) all0 (fun v h' L q => ⟨q.2.2 ▸ Keep.refl _ _, q.2.1 ▸ Fr.nil _⟩) (argsL := [(.int (0 : Int32))]) (rest := []) rfl rfl own_pd11 rfl own_d15_14 rfl (Nat.le_of_eq rfl) (by decide) (by decide) fun T8 h10 v11 w9 K12 q13 => ?_
 obtain ⟨_, rfl, -, e14⟩ := q13
 rw [e14] at w9
 show own_Go Z EL n0 p e below s _ _ _ (T8.setTop (mkF m 17 _ [(.int c0)]))
 refine own_callS (pc' := 20) w9 (own_w96 hw) (own_w97 hw) (own_w28 hw) (own_w98 hw) (by decide) (own_ct_isSp l Z a0 hw EL hE n0 [] h0 (own_old w9) c0 ) all0 (argsL := [(.int c0)]) (rest := []) rfl rfl own_pd12 rfl own_d15_17 rfl (by decide) (W := 0) rfl (by decide) (by decide) (by decide) fun T15 h17 v18 ms19 w16 q20 => ?_
 obtain ⟨rfl, rfl, rfl⟩ := q20
 show own_Go Z EL n0 p e below s _ _ _ (T15.setTop (mkF m 20 _ [(.int (if own_sp c0 then 1 else 0))]))
 refine own_if (pc' := 23) w16 own_d15_20 rfl (by decide) (pcY := 29) rfl (fun (hb20 : (if own_sp c0 then 1 else 0) = (0 : Int32)) => ?_) (fun (hb20 : ¬ (if own_sp c0 then 1 else 0) = (0 : Int32)) => ?_)
 ·
  refine own_iloadN (pc' := 30) w16 own_d15_29 rfl rfl ?_
  refine own_iloadN (pc' := 31) w16 own_d15_30 rfl rfl ?_
  refine own_icmp (pc' := 34) w16 own_d15_31 rfl (by decide) (pcY := 53) rfl (fun (hb31 : ¬ (0 : Int32) < (3 : Int32)) => absurd hb31 (by decide)) (fun (hb31 : (0 : Int32) < (3 : Int32)) => ?_)
  refine own_aloadN (pc' := 35) w16 own_d15_34 rfl rfl rfl ?_
  refine own_iloadN (pc' := 36) w16 own_d15_35 rfl rfl ?_
  refine own_iconst (pc' := 37) w16 own_d15_36 (x := (1 : Int32)) rfl rfl ?_
  refine own_isub (pc' := 38) w16 own_d15_37 (z := (2 : Int32)) (by decide) rfl ?_
  refine own_callVB (pc' := 41) w16 (kc := 0) (nc := 0) (own_w76 hw) (own_w77 hw) (fun s' hZ' => notFace_of_selects (args := #[]) (mvT hZ' (own_w79 hw))) (own_w79 hw) (own_w78 hw) (by decide) E_tx (QQ := fun v h' L => (v = some (.int c2)) ∧ L = [] ∧ h' = h0) (fun s' hZ' => StrChars.Road.chN (W := 0) hZ' (own_hwc hw) (kI := 4) (own_w6 hw) E_tx F_tx_value F_tx_coder A_t (own_cod (cs := ([c0, c1, c2] : List Int32)) (n := 3) rfl (own_allS b0 (own_allS b1 (own_allS b2 own_all0)))) (own_up ([c0, c1, c2] : List Int32) (own_allS b0 (own_allS b1 (own_allS b2 own_all0)))) (S_COMPACT_STRINGS.ext (own_old w16).2) P5 (S_SIOOBE_FORMATTER.ext (own_old w16).2) hfm (Nat.le_of_ble_eq_true rfl) (i := 2) (Nat.le_of_ble_eq_true rfl) rfl (by decide) (by decide)) (ws := []) all0 (fun v h' L q => ⟨q.2.2 ▸ Keep.refl _ _, q.2.1 ▸ Fr.nil _⟩) (argsL := [(.int (2 : Int32))]) (rest := []) rfl rfl own_pd11 rfl own_d15_38 rfl (Nat.le_of_eq rfl) (by decide) (by decide) fun T21 h23 v24 w22 K25 q26 => ?_
  obtain ⟨_, rfl, -, e27⟩ := q26
  rw [e27] at w22
  show own_Go Z EL n0 p e below s _ _ _ (T21.setTop (mkF m 41 _ [(.int c2)]))
  refine own_callS (pc' := 44) w22 (own_w96 hw) (own_w97 hw) (own_w28 hw) (own_w98 hw) (by decide) (own_ct_isSp l Z a0 hw EL hE n0 [] h0 (own_old w22) c2 ) all0 (argsL := [(.int c2)]) (rest := []) rfl rfl own_pd12 rfl own_d15_41 rfl (by decide) (W := 0) rfl (by decide) (by decide) (by decide) fun T28 h30 v31 ms32 w29 q33 => ?_
  obtain ⟨rfl, rfl, rfl⟩ := q33
  show own_Go Z EL n0 p e below s _ _ _ (T28.setTop (mkF m 44 _ [(.int (if own_sp c2 then 1 else 0))]))
  refine own_if (pc' := 47) w29 own_d15_44 rfl (by decide) (pcY := 53) rfl (fun (hb44 : (if own_sp c2 then 1 else 0) = (0 : Int32)) => ?_) (fun (hb44 : ¬ (if own_sp c2 then 1 else 0) = (0 : Int32)) => ?_)
  ·
   refine own_aloadN (pc' := 54) w29 own_d15_53 rfl rfl rfl ?_
   refine own_iloadN (pc' := 55) w29 own_d15_54 rfl rfl ?_
   refine own_iloadN (pc' := 56) w29 own_d15_55 rfl rfl ?_
   refine own_callV (pc' := 59) w29 (own_w41 hw) (own_w42 hw) (fun s' hZ' => notFace_of_selects (args := #[]) (mvT hZ' (own_w44 hw))) (own_w44 hw) (own_w43 hw) (own_w7 hw) (own_w45 hw) (by decide) E_tx (own_ct_subW l Z a0 hw EL hE n0 [] h0 (own_old w29) tx (0 : Int32) (3 : Int32) t kb (3 : Int32) ((([c0, c1, c2] : List Int32).map (fun (c : Int32) => c.toInt8.toInt32)).map Value.int) ([c0, c1, c2] : List Int32) (3 : Int32) 0 3 z5 fm E_tx F_tx_coder F_tx_value A_t ((own_cod (cs := ([c0, c1, c2] : List Int32)) (n := 3) rfl (own_allS b0 (own_allS b1 (own_allS b2 own_all0))))) (own_up ([c0, c1, c2] : List Int32) (own_allS b0 (own_allS b1 (own_allS b2 own_all0)))) ((Nat.le_of_ble_eq_true rfl)) S_COMPACT_STRINGS (P5) S_SIOOBE_FORMATTER (hfm) (by decide) (rfl) (by decide) (by decide)) all0 (argsL := [(.int (0 : Int32)), (.int (3 : Int32))]) (rest := []) rfl rfl own_pd10 rfl own_d15_56 rfl (by decide) (W := 0) rfl (by decide) (by decide) (by decide) fun T34 h36 v37 ms38 w35 q39 => ?_
   obtain ⟨rfl, rfl, rfl⟩ := q39
   show own_Go Z EL n0 p e below s _ _ _ (T34.setTop (mkF m 59 _ [(.ref tx)]))
   have k_c0 := own_sp1 hb20
   have k_c2 := own_sp1 hb44
   exact own_retV w35 (t := (.object "java/lang/String")) rfl (own_narR rfl rfl) (Or.inr (Or.inr (Or.inr (Or.inr ⟨rfl, rfl, rfl⟩)))) own_d15_59 (by decide) (by decide) (ms' := []) all0 ⟨K, tx, t, kb, (3 : Int32), ((([c0, c1, c2] : List Int32).map (fun (c : Int32) => c.toInt8.toInt32)).map Value.int), ([c0, c1, c2] : List Int32), rfl, rfl, E_tx, F_tx_coder, F_tx_value, A_t, (own_cod (cs := ([c0, c1, c2] : List Int32)) (n := 3) rfl (own_allS b0 (own_allS b1 (own_allS b2 own_all0)))), (own_up ([c0, c1, c2] : List Int32) (own_allS b0 (own_allS b1 (own_allS b2 own_all0)))), (Nat.le_of_ble_eq_true rfl), (by simp [own_trim, List.dropWhile, k_c0, k_c2])⟩
  ·
   refine own_iinc (pc' := 50) w29 own_d15_47 rfl (y := (2 : Int32)) (by decide) (Ls' := #[.val (.ref tx), .val (.int (0 : Int32)), .val (.int (2 : Int32))]) rfl rfl ?_
   refine own_goto w29 own_d15_50 (by decide) (pc' := 29) rfl ?_
   refine own_iloadN (pc' := 30) w29 own_d15_29 rfl rfl ?_
   refine own_iloadN (pc' := 31) w29 own_d15_30 rfl rfl ?_
   refine own_icmp (pc' := 34) w29 own_d15_31 rfl (by decide) (pcY := 53) rfl (fun (hb31_1 : ¬ (0 : Int32) < (2 : Int32)) => absurd hb31_1 (by decide)) (fun (hb31_1 : (0 : Int32) < (2 : Int32)) => ?_)
   refine own_aloadN (pc' := 35) w29 own_d15_34 rfl rfl rfl ?_
   refine own_iloadN (pc' := 36) w29 own_d15_35 rfl rfl ?_
   refine own_iconst (pc' := 37) w29 own_d15_36 (x := (1 : Int32)) rfl rfl ?_
   refine own_isub (pc' := 38) w29 own_d15_37 (z := (1 : Int32)) (by decide) rfl ?_
   refine own_callVB (pc' := 41) w29 (kc := 0) (nc := 0) (own_w76 hw) (own_w77 hw) (fun s' hZ' => notFace_of_selects (args := #[]) (mvT hZ' (own_w79 hw))) (own_w79 hw) (own_w78 hw) (by decide) E_tx (QQ := fun v h' L => (v = some (.int c1)) ∧ L = [] ∧ h' = h0) (fun s' hZ' => StrChars.Road.chN (W := 0) hZ' (own_hwc hw) (kI := 4) (own_w6 hw) E_tx F_tx_value F_tx_coder A_t (own_cod (cs := ([c0, c1, c2] : List Int32)) (n := 3) rfl (own_allS b0 (own_allS b1 (own_allS b2 own_all0)))) (own_up ([c0, c1, c2] : List Int32) (own_allS b0 (own_allS b1 (own_allS b2 own_all0)))) (S_COMPACT_STRINGS.ext (own_old w29).2) P5 (S_SIOOBE_FORMATTER.ext (own_old w29).2) hfm (Nat.le_of_ble_eq_true rfl) (i := 1) (Nat.le_of_ble_eq_true rfl) rfl (by decide) (by decide)) (ws := []) all0 (fun v h' L q => ⟨q.2.2 ▸ Keep.refl _ _, q.2.1 ▸ Fr.nil _⟩) (argsL := [(.int (1 : Int32))]) (rest := []) rfl rfl own_pd11 rfl own_d15_38 rfl (Nat.le_of_eq rfl) (by decide) (by decide) fun T40 h42 v43 w41 K44 q45 => ?_
   obtain ⟨_, rfl, -, e46⟩ := q45
   rw [e46] at w41
   show own_Go Z EL n0 p e below s _ _ _ (T40.setTop (mkF m 41 _ [(.int c1)]))
   refine own_callS (pc' := 44) w41 (own_w96 hw) (own_w97 hw) (own_w28 hw) (own_w98 hw) (by decide) (own_ct_isSp l Z a0 hw EL hE n0 [] h0 (own_old w41) c1 ) all0 (argsL := [(.int c1)]) (rest := []) rfl rfl own_pd12 rfl own_d15_41 rfl (by decide) (W := 0) rfl (by decide) (by decide) (by decide) fun T47 h49 v50 ms51 w48 q52 => ?_
   obtain ⟨rfl, rfl, rfl⟩ := q52
   show own_Go Z EL n0 p e below s _ _ _ (T47.setTop (mkF m 44 _ [(.int (if own_sp c1 then 1 else 0))]))
   refine own_if (pc' := 47) w48 own_d15_44 rfl (by decide) (pcY := 53) rfl (fun (hb44_1 : (if own_sp c1 then 1 else 0) = (0 : Int32)) => ?_) (fun (hb44_1 : ¬ (if own_sp c1 then 1 else 0) = (0 : Int32)) => ?_)
   ·
    refine own_aloadN (pc' := 54) w48 own_d15_53 rfl rfl rfl ?_
    refine own_iloadN (pc' := 55) w48 own_d15_54 rfl rfl ?_
    refine own_iloadN (pc' := 56) w48 own_d15_55 rfl rfl ?_
    refine own_callV (pc' := 59) w48 (own_w41 hw) (own_w42 hw) (fun s' hZ' => notFace_of_selects (args := #[]) (mvT hZ' (own_w44 hw))) (own_w44 hw) (own_w43 hw) (own_w7 hw) (own_w45 hw) (by decide) E_tx (own_ct_subC l Z a0 hw EL hE n0 [] h0 (own_old w48) tx (0 : Int32) (2 : Int32) t kb (3 : Int32) ((([c0, c1, c2] : List Int32).map (fun (c : Int32) => c.toInt8.toInt32)).map Value.int) ([c0, c1, c2] : List Int32) (2 : Int32) 0 2 z5 fm E_tx F_tx_coder F_tx_value A_t ((own_cod (cs := ([c0, c1, c2] : List Int32)) (n := 3) rfl (own_allS b0 (own_allS b1 (own_allS b2 own_all0))))) (own_up ([c0, c1, c2] : List Int32) (own_allS b0 (own_allS b1 (own_allS b2 own_all0)))) ((Nat.le_of_ble_eq_true rfl)) S_COMPACT_STRINGS (P5) S_SIOOBE_FORMATTER (hfm) (by decide) (rfl) (by decide) (by decide) (by decide)) all0 (argsL := [(.int (0 : Int32)), (.int (2 : Int32))]) (rest := []) rfl rfl own_pd10 rfl own_d15_56 rfl (by decide) (W := 0) rfl (by decide) (by decide) (by decide) fun T53 h55 v56 ms57 w54 q58 => ?_
    obtain ⟨K62, r_59, t2_60, kA_61, rfl, rfl, nw_E_r_59, nw_F_r_59_coder, nw_F_r_59_value, nw_A_t2_60, p56_subC_0⟩ := q58
    have ne_t_r_59 : t ≠ r_59 := Nat.ne_of_lt (Nat.lt_of_lt_of_le A_t.lt p56_subC_0)
    have ne_tx_r_59 : tx ≠ r_59 := Nat.ne_of_lt (Nat.lt_of_lt_of_le E_tx.lt p56_subC_0)
    have nw_r_59 : h0.size ≤ r_59 := Nat.le_trans K.1 p56_subC_0
    replace E_tx := E_tx.keep K62
    replace F_tx_coder := F_tx_coder.keep K62 nin0
    replace F_tx_value := F_tx_value.keep K62 nin0
    replace A_t := A_t.keep K62 nin0
    replace K := K.trans K62 all0
    have E_r_59 := nw_E_r_59; clear nw_E_r_59
    have F_r_59_coder := nw_F_r_59_coder; clear nw_F_r_59_coder
    have F_r_59_value := nw_F_r_59_value; clear nw_F_r_59_value
    have A_t2_60 := nw_A_t2_60; clear nw_A_t2_60
    show own_Go Z EL n0 p e below s _ _ _ (T53.setTop (mkF m 59 _ [(.ref r_59)]))
    have k_c0 := own_sp1 hb20
    have k_c2 := own_sp0 hb44
    have k_c1 := own_sp1 hb44_1
    exact own_retV w54 (t := (.object "java/lang/String")) rfl (own_narR rfl rfl) (Or.inr (Or.inr (Or.inr (Or.inr ⟨rfl, rfl, rfl⟩)))) own_d15_59 (by decide) (by decide) (ms' := []) all0 ⟨K, r_59, t2_60, kA_61, (2 : Int32), (own_sl ((([c0, c1, c2] : List Int32).map (fun (c : Int32) => c.toInt8.toInt32)).map Value.int) 0 2), ([c0, c1] : List Int32), rfl, rfl, E_r_59, F_r_59_coder, F_r_59_value, A_t2_60, (own_cod (cs := ([c0, c1] : List Int32)) (n := 2) rfl (own_allS b0 (own_allS b1 own_all0))), (own_up ([c0, c1] : List Int32) (own_allS b0 (own_allS b1 own_all0))), (Nat.le_of_ble_eq_true rfl), (by simp [own_trim, List.dropWhile, k_c0, k_c2, k_c1])⟩
   ·
    refine own_iinc (pc' := 50) w48 own_d15_47 rfl (y := (1 : Int32)) (by decide) (Ls' := #[.val (.ref tx), .val (.int (0 : Int32)), .val (.int (1 : Int32))]) rfl rfl ?_
    refine own_goto w48 own_d15_50 (by decide) (pc' := 29) rfl ?_
    refine own_iloadN (pc' := 30) w48 own_d15_29 rfl rfl ?_
    refine own_iloadN (pc' := 31) w48 own_d15_30 rfl rfl ?_
    refine own_icmp (pc' := 34) w48 own_d15_31 rfl (by decide) (pcY := 53) rfl (fun (hb31_2 : ¬ (0 : Int32) < (1 : Int32)) => absurd hb31_2 (by decide)) (fun (hb31_2 : (0 : Int32) < (1 : Int32)) => ?_)
    refine own_aloadN (pc' := 35) w48 own_d15_34 rfl rfl rfl ?_
    refine own_iloadN (pc' := 36) w48 own_d15_35 rfl rfl ?_
    refine own_iconst (pc' := 37) w48 own_d15_36 (x := (1 : Int32)) rfl rfl ?_
    refine own_isub (pc' := 38) w48 own_d15_37 (z := (0 : Int32)) (by decide) rfl ?_
    refine own_callVB (pc' := 41) w48 (kc := 0) (nc := 0) (own_w76 hw) (own_w77 hw) (fun s' hZ' => notFace_of_selects (args := #[]) (mvT hZ' (own_w79 hw))) (own_w79 hw) (own_w78 hw) (by decide) E_tx (QQ := fun v h' L => (v = some (.int c0)) ∧ L = [] ∧ h' = h0) (fun s' hZ' => StrChars.Road.chN (W := 0) hZ' (own_hwc hw) (kI := 4) (own_w6 hw) E_tx F_tx_value F_tx_coder A_t (own_cod (cs := ([c0, c1, c2] : List Int32)) (n := 3) rfl (own_allS b0 (own_allS b1 (own_allS b2 own_all0)))) (own_up ([c0, c1, c2] : List Int32) (own_allS b0 (own_allS b1 (own_allS b2 own_all0)))) (S_COMPACT_STRINGS.ext (own_old w48).2) P5 (S_SIOOBE_FORMATTER.ext (own_old w48).2) hfm (Nat.le_of_ble_eq_true rfl) (i := 0) (Nat.le_of_ble_eq_true rfl) rfl (by decide) (by decide)) (ws := []) all0 (fun v h' L q => ⟨q.2.2 ▸ Keep.refl _ _, q.2.1 ▸ Fr.nil _⟩) (argsL := [(.int (0 : Int32))]) (rest := []) rfl rfl own_pd11 rfl own_d15_38 rfl (Nat.le_of_eq rfl) (by decide) (by decide) fun T63 h65 v66 w64 K67 q68 => ?_
    obtain ⟨_, rfl, -, e69⟩ := q68
    rw [e69] at w64
    show own_Go Z EL n0 p e below s _ _ _ (T63.setTop (mkF m 41 _ [(.int c0)]))
    refine own_callS (pc' := 44) w64 (own_w96 hw) (own_w97 hw) (own_w28 hw) (own_w98 hw) (by decide) (own_ct_isSp l Z a0 hw EL hE n0 [] h0 (own_old w64) c0 ) all0 (argsL := [(.int c0)]) (rest := []) rfl rfl own_pd12 rfl own_d15_41 rfl (by decide) (W := 0) rfl (by decide) (by decide) (by decide) fun T70 h72 v73 ms74 w71 q75 => ?_
    obtain ⟨rfl, rfl, rfl⟩ := q75
    show own_Go Z EL n0 p e below s _ _ _ (T70.setTop (mkF m 44 _ [(.int (if own_sp c0 then 1 else 0))]))
    refine own_if (pc' := 47) w71 own_d15_44 rfl (by decide) (pcY := 53) rfl (fun (hb44_2 : (if own_sp c0 then 1 else 0) = (0 : Int32)) => ?_) (fun (hb44_2 : ¬ (if own_sp c0 then 1 else 0) = (0 : Int32)) => absurd hb20 hb44_2)
    refine own_aloadN (pc' := 54) w71 own_d15_53 rfl rfl rfl ?_
    refine own_iloadN (pc' := 55) w71 own_d15_54 rfl rfl ?_
    refine own_iloadN (pc' := 56) w71 own_d15_55 rfl rfl ?_
    refine own_callV (pc' := 59) w71 (own_w41 hw) (own_w42 hw) (fun s' hZ' => notFace_of_selects (args := #[]) (mvT hZ' (own_w44 hw))) (own_w44 hw) (own_w43 hw) (own_w7 hw) (own_w45 hw) (by decide) E_tx (own_ct_subC l Z a0 hw EL hE n0 [] h0 (own_old w71) tx (0 : Int32) (1 : Int32) t kb (3 : Int32) ((([c0, c1, c2] : List Int32).map (fun (c : Int32) => c.toInt8.toInt32)).map Value.int) ([c0, c1, c2] : List Int32) (1 : Int32) 0 1 z5 fm E_tx F_tx_coder F_tx_value A_t ((own_cod (cs := ([c0, c1, c2] : List Int32)) (n := 3) rfl (own_allS b0 (own_allS b1 (own_allS b2 own_all0))))) (own_up ([c0, c1, c2] : List Int32) (own_allS b0 (own_allS b1 (own_allS b2 own_all0)))) ((Nat.le_of_ble_eq_true rfl)) S_COMPACT_STRINGS (P5) S_SIOOBE_FORMATTER (hfm) (by decide) (rfl) (by decide) (by decide) (by decide)) all0 (argsL := [(.int (0 : Int32)), (.int (1 : Int32))]) (rest := []) rfl rfl own_pd10 rfl own_d15_56 rfl (by decide) (W := 0) rfl (by decide) (by decide) (by decide) fun T76 h78 v79 ms80 w77 q81 => ?_
    obtain ⟨K85, r_82, t2_83, kA_84, rfl, rfl, nw_E_r_82, nw_F_r_82_coder, nw_F_r_82_value, nw_A_t2_83, p56_subC_0⟩ := q81
    have ne_t_r_82 : t ≠ r_82 := Nat.ne_of_lt (Nat.lt_of_lt_of_le A_t.lt p56_subC_0)
    have ne_tx_r_82 : tx ≠ r_82 := Nat.ne_of_lt (Nat.lt_of_lt_of_le E_tx.lt p56_subC_0)
    have nw_r_82 : h0.size ≤ r_82 := Nat.le_trans K.1 p56_subC_0
    replace E_tx := E_tx.keep K85
    replace F_tx_coder := F_tx_coder.keep K85 nin0
    replace F_tx_value := F_tx_value.keep K85 nin0
    replace A_t := A_t.keep K85 nin0
    replace K := K.trans K85 all0
    have E_r_82 := nw_E_r_82; clear nw_E_r_82
    have F_r_82_coder := nw_F_r_82_coder; clear nw_F_r_82_coder
    have F_r_82_value := nw_F_r_82_value; clear nw_F_r_82_value
    have A_t2_83 := nw_A_t2_83; clear nw_A_t2_83
    show own_Go Z EL n0 p e below s _ _ _ (T76.setTop (mkF m 59 _ [(.ref r_82)]))
    have k_c0 := own_sp1 hb20
    have k_c2 := own_sp0 hb44
    have k_c1 := own_sp0 hb44_1
    exact own_retV w77 (t := (.object "java/lang/String")) rfl (own_narR rfl rfl) (Or.inr (Or.inr (Or.inr (Or.inr ⟨rfl, rfl, rfl⟩)))) own_d15_59 (by decide) (by decide) (ms' := []) all0 ⟨K, r_82, t2_83, kA_84, (1 : Int32), (own_sl ((([c0, c1, c2] : List Int32).map (fun (c : Int32) => c.toInt8.toInt32)).map Value.int) 0 1), ([c0] : List Int32), rfl, rfl, E_r_82, F_r_82_coder, F_r_82_value, A_t2_83, (own_cod (cs := ([c0] : List Int32)) (n := 1) rfl (own_allS b0 own_all0)), (own_up ([c0] : List Int32) (own_allS b0 own_all0)), (Nat.le_of_ble_eq_true rfl), (by simp [own_trim, List.dropWhile, k_c0, k_c2, k_c1])⟩
 ·
  refine own_iinc (pc' := 26) w16 own_d15_23 rfl (y := (1 : Int32)) (by decide) (Ls' := #[.val (.ref tx), .val (.int (1 : Int32)), .val (.int (3 : Int32))]) rfl rfl ?_
  refine own_goto w16 own_d15_26 (by decide) (pc' := 7) rfl ?_
  refine own_iloadN (pc' := 8) w16 own_d15_7 rfl rfl ?_
  refine own_iloadN (pc' := 9) w16 own_d15_8 rfl rfl ?_
  refine own_icmp (pc' := 12) w16 own_d15_9 rfl (by decide) (pcY := 29) rfl (fun (hb9_1 : ¬ (1 : Int32) < (3 : Int32)) => absurd hb9_1 (by decide)) (fun (hb9_1 : (1 : Int32) < (3 : Int32)) => ?_)
  refine own_aloadN (pc' := 13) w16 own_d15_12 rfl rfl rfl ?_
  refine own_iloadN (pc' := 14) w16 own_d15_13 rfl rfl ?_
  refine own_callVB (pc' := 17) w16 (kc := 0) (nc := 0) (own_w76 hw) (own_w77 hw) (fun s' hZ' => notFace_of_selects (args := #[]) (mvT hZ' (own_w79 hw))) (own_w79 hw) (own_w78 hw) (by decide) E_tx (QQ := fun v h' L => (v = some (.int c1)) ∧ L = [] ∧ h' = h0) (fun s' hZ' => StrChars.Road.chN (W := 0) hZ' (own_hwc hw) (kI := 4) (own_w6 hw) E_tx F_tx_value F_tx_coder A_t (own_cod (cs := ([c0, c1, c2] : List Int32)) (n := 3) rfl (own_allS b0 (own_allS b1 (own_allS b2 own_all0)))) (own_up ([c0, c1, c2] : List Int32) (own_allS b0 (own_allS b1 (own_allS b2 own_all0)))) (S_COMPACT_STRINGS.ext (own_old w16).2) P5 (S_SIOOBE_FORMATTER.ext (own_old w16).2) hfm (Nat.le_of_ble_eq_true rfl) (i := 1) (Nat.le_of_ble_eq_true rfl) rfl (by decide) (by decide)) (ws := []) all0 (fun v h' L q => ⟨q.2.2 ▸ Keep.refl _ _, q.2.1 ▸ Fr.nil _⟩) (argsL := [(.int (1 : Int32))]) (rest := []) rfl rfl own_pd11 rfl own_d15_14 rfl (Nat.le_of_eq rfl) (by decide) (by decide) fun T86 h88 v89 w87 K90 q91 => ?_
  obtain ⟨_, rfl, -, e92⟩ := q91
  rw [e92] at w87
  show own_Go Z EL n0 p e below s _ _ _ (T86.setTop (mkF m 17 _ [(.int c1)]))
  refine own_callS (pc' := 20) w87 (own_w96 hw) (own_w97 hw) (own_w28 hw) (own_w98 hw) (by decide) (own_ct_isSp l Z a0 hw EL hE n0 [] h0 (own_old w87) c1 ) all0 (argsL := [(.int c1)]) (rest := []) rfl rfl own_pd12 rfl own_d15_17 rfl (by decide) (W := 0) rfl (by decide) (by decide) (by decide) fun T93 h95 v96 ms97 w94 q98 => ?_
  obtain ⟨rfl, rfl, rfl⟩ := q98
  show own_Go Z EL n0 p e below s _ _ _ (T93.setTop (mkF m 20 _ [(.int (if own_sp c1 then 1 else 0))]))
  refine own_if (pc' := 23) w94 own_d15_20 rfl (by decide) (pcY := 29) rfl (fun (hb20_1 : (if own_sp c1 then 1 else 0) = (0 : Int32)) => ?_) (fun (hb20_1 : ¬ (if own_sp c1 then 1 else 0) = (0 : Int32)) => ?_)
  ·
   refine own_iloadN (pc' := 30) w94 own_d15_29 rfl rfl ?_
   refine own_iloadN (pc' := 31) w94 own_d15_30 rfl rfl ?_
   refine own_icmp (pc' := 34) w94 own_d15_31 rfl (by decide) (pcY := 53) rfl (fun (hb31 : ¬ (1 : Int32) < (3 : Int32)) => absurd hb31 (by decide)) (fun (hb31 : (1 : Int32) < (3 : Int32)) => ?_)
   refine own_aloadN (pc' := 35) w94 own_d15_34 rfl rfl rfl ?_
   refine own_iloadN (pc' := 36) w94 own_d15_35 rfl rfl ?_
   refine own_iconst (pc' := 37) w94 own_d15_36 (x := (1 : Int32)) rfl rfl ?_
   refine own_isub (pc' := 38) w94 own_d15_37 (z := (2 : Int32)) (by decide) rfl ?_
   refine own_callVB (pc' := 41) w94 (kc := 0) (nc := 0) (own_w76 hw) (own_w77 hw) (fun s' hZ' => notFace_of_selects (args := #[]) (mvT hZ' (own_w79 hw))) (own_w79 hw) (own_w78 hw) (by decide) E_tx (QQ := fun v h' L => (v = some (.int c2)) ∧ L = [] ∧ h' = h0) (fun s' hZ' => StrChars.Road.chN (W := 0) hZ' (own_hwc hw) (kI := 4) (own_w6 hw) E_tx F_tx_value F_tx_coder A_t (own_cod (cs := ([c0, c1, c2] : List Int32)) (n := 3) rfl (own_allS b0 (own_allS b1 (own_allS b2 own_all0)))) (own_up ([c0, c1, c2] : List Int32) (own_allS b0 (own_allS b1 (own_allS b2 own_all0)))) (S_COMPACT_STRINGS.ext (own_old w94).2) P5 (S_SIOOBE_FORMATTER.ext (own_old w94).2) hfm (Nat.le_of_ble_eq_true rfl) (i := 2) (Nat.le_of_ble_eq_true rfl) rfl (by decide) (by decide)) (ws := []) all0 (fun v h' L q => ⟨q.2.2 ▸ Keep.refl _ _, q.2.1 ▸ Fr.nil _⟩) (argsL := [(.int (2 : Int32))]) (rest := []) rfl rfl own_pd11 rfl own_d15_38 rfl (Nat.le_of_eq rfl) (by decide) (by decide) fun T99 h101 v102 w100 K103 q104 => ?_
   obtain ⟨_, rfl, -, e105⟩ := q104
   rw [e105] at w100
   show own_Go Z EL n0 p e below s _ _ _ (T99.setTop (mkF m 41 _ [(.int c2)]))
   refine own_callS (pc' := 44) w100 (own_w96 hw) (own_w97 hw) (own_w28 hw) (own_w98 hw) (by decide) (own_ct_isSp l Z a0 hw EL hE n0 [] h0 (own_old w100) c2 ) all0 (argsL := [(.int c2)]) (rest := []) rfl rfl own_pd12 rfl own_d15_41 rfl (by decide) (W := 0) rfl (by decide) (by decide) (by decide) fun T106 h108 v109 ms110 w107 q111 => ?_
   obtain ⟨rfl, rfl, rfl⟩ := q111
   show own_Go Z EL n0 p e below s _ _ _ (T106.setTop (mkF m 44 _ [(.int (if own_sp c2 then 1 else 0))]))
   refine own_if (pc' := 47) w107 own_d15_44 rfl (by decide) (pcY := 53) rfl (fun (hb44 : (if own_sp c2 then 1 else 0) = (0 : Int32)) => ?_) (fun (hb44 : ¬ (if own_sp c2 then 1 else 0) = (0 : Int32)) => ?_)
   ·
    refine own_aloadN (pc' := 54) w107 own_d15_53 rfl rfl rfl ?_
    refine own_iloadN (pc' := 55) w107 own_d15_54 rfl rfl ?_
    refine own_iloadN (pc' := 56) w107 own_d15_55 rfl rfl ?_
    refine own_callV (pc' := 59) w107 (own_w41 hw) (own_w42 hw) (fun s' hZ' => notFace_of_selects (args := #[]) (mvT hZ' (own_w44 hw))) (own_w44 hw) (own_w43 hw) (own_w7 hw) (own_w45 hw) (by decide) E_tx (own_ct_subC l Z a0 hw EL hE n0 [] h0 (own_old w107) tx (1 : Int32) (3 : Int32) t kb (3 : Int32) ((([c0, c1, c2] : List Int32).map (fun (c : Int32) => c.toInt8.toInt32)).map Value.int) ([c0, c1, c2] : List Int32) (2 : Int32) 1 2 z5 fm E_tx F_tx_coder F_tx_value A_t ((own_cod (cs := ([c0, c1, c2] : List Int32)) (n := 3) rfl (own_allS b0 (own_allS b1 (own_allS b2 own_all0))))) (own_up ([c0, c1, c2] : List Int32) (own_allS b0 (own_allS b1 (own_allS b2 own_all0)))) ((Nat.le_of_ble_eq_true rfl)) S_COMPACT_STRINGS (P5) S_SIOOBE_FORMATTER (hfm) (by decide) (rfl) (by decide) (by decide) (by decide)) all0 (argsL := [(.int (1 : Int32)), (.int (3 : Int32))]) (rest := []) rfl rfl own_pd10 rfl own_d15_56 rfl (by decide) (W := 0) rfl (by decide) (by decide) (by decide) fun T112 h114 v115 ms116 w113 q117 => ?_
    obtain ⟨K121, r_118, t2_119, kA_120, rfl, rfl, nw_E_r_118, nw_F_r_118_coder, nw_F_r_118_value, nw_A_t2_119, p56_subC_0⟩ := q117
    have ne_t_r_118 : t ≠ r_118 := Nat.ne_of_lt (Nat.lt_of_lt_of_le A_t.lt p56_subC_0)
    have ne_tx_r_118 : tx ≠ r_118 := Nat.ne_of_lt (Nat.lt_of_lt_of_le E_tx.lt p56_subC_0)
    have nw_r_118 : h0.size ≤ r_118 := Nat.le_trans K.1 p56_subC_0
    replace E_tx := E_tx.keep K121
    replace F_tx_coder := F_tx_coder.keep K121 nin0
    replace F_tx_value := F_tx_value.keep K121 nin0
    replace A_t := A_t.keep K121 nin0
    replace K := K.trans K121 all0
    have E_r_118 := nw_E_r_118; clear nw_E_r_118
    have F_r_118_coder := nw_F_r_118_coder; clear nw_F_r_118_coder
    have F_r_118_value := nw_F_r_118_value; clear nw_F_r_118_value
    have A_t2_119 := nw_A_t2_119; clear nw_A_t2_119
    show own_Go Z EL n0 p e below s _ _ _ (T112.setTop (mkF m 59 _ [(.ref r_118)]))
    have k_c0 := own_sp0 hb20
    have k_c1 := own_sp1 hb20_1
    have k_c2 := own_sp1 hb44
    exact own_retV w113 (t := (.object "java/lang/String")) rfl (own_narR rfl rfl) (Or.inr (Or.inr (Or.inr (Or.inr ⟨rfl, rfl, rfl⟩)))) own_d15_59 (by decide) (by decide) (ms' := []) all0 ⟨K, r_118, t2_119, kA_120, (2 : Int32), (own_sl ((([c0, c1, c2] : List Int32).map (fun (c : Int32) => c.toInt8.toInt32)).map Value.int) 1 2), ([c1, c2] : List Int32), rfl, rfl, E_r_118, F_r_118_coder, F_r_118_value, A_t2_119, (own_cod (cs := ([c1, c2] : List Int32)) (n := 2) rfl (own_allS b1 (own_allS b2 own_all0))), (own_up ([c1, c2] : List Int32) (own_allS b1 (own_allS b2 own_all0))), (Nat.le_of_ble_eq_true rfl), (by simp [own_trim, List.dropWhile, k_c0, k_c1, k_c2])⟩
   ·
    refine own_iinc (pc' := 50) w107 own_d15_47 rfl (y := (2 : Int32)) (by decide) (Ls' := #[.val (.ref tx), .val (.int (1 : Int32)), .val (.int (2 : Int32))]) rfl rfl ?_
    refine own_goto w107 own_d15_50 (by decide) (pc' := 29) rfl ?_
    refine own_iloadN (pc' := 30) w107 own_d15_29 rfl rfl ?_
    refine own_iloadN (pc' := 31) w107 own_d15_30 rfl rfl ?_
    refine own_icmp (pc' := 34) w107 own_d15_31 rfl (by decide) (pcY := 53) rfl (fun (hb31_1 : ¬ (1 : Int32) < (2 : Int32)) => absurd hb31_1 (by decide)) (fun (hb31_1 : (1 : Int32) < (2 : Int32)) => ?_)
    refine own_aloadN (pc' := 35) w107 own_d15_34 rfl rfl rfl ?_
    refine own_iloadN (pc' := 36) w107 own_d15_35 rfl rfl ?_
    refine own_iconst (pc' := 37) w107 own_d15_36 (x := (1 : Int32)) rfl rfl ?_
    refine own_isub (pc' := 38) w107 own_d15_37 (z := (1 : Int32)) (by decide) rfl ?_
    refine own_callVB (pc' := 41) w107 (kc := 0) (nc := 0) (own_w76 hw) (own_w77 hw) (fun s' hZ' => notFace_of_selects (args := #[]) (mvT hZ' (own_w79 hw))) (own_w79 hw) (own_w78 hw) (by decide) E_tx (QQ := fun v h' L => (v = some (.int c1)) ∧ L = [] ∧ h' = h0) (fun s' hZ' => StrChars.Road.chN (W := 0) hZ' (own_hwc hw) (kI := 4) (own_w6 hw) E_tx F_tx_value F_tx_coder A_t (own_cod (cs := ([c0, c1, c2] : List Int32)) (n := 3) rfl (own_allS b0 (own_allS b1 (own_allS b2 own_all0)))) (own_up ([c0, c1, c2] : List Int32) (own_allS b0 (own_allS b1 (own_allS b2 own_all0)))) (S_COMPACT_STRINGS.ext (own_old w107).2) P5 (S_SIOOBE_FORMATTER.ext (own_old w107).2) hfm (Nat.le_of_ble_eq_true rfl) (i := 1) (Nat.le_of_ble_eq_true rfl) rfl (by decide) (by decide)) (ws := []) all0 (fun v h' L q => ⟨q.2.2 ▸ Keep.refl _ _, q.2.1 ▸ Fr.nil _⟩) (argsL := [(.int (1 : Int32))]) (rest := []) rfl rfl own_pd11 rfl own_d15_38 rfl (Nat.le_of_eq rfl) (by decide) (by decide) fun T122 h124 v125 w123 K126 q127 => ?_
    obtain ⟨_, rfl, -, e128⟩ := q127
    rw [e128] at w123
    show own_Go Z EL n0 p e below s _ _ _ (T122.setTop (mkF m 41 _ [(.int c1)]))
    refine own_callS (pc' := 44) w123 (own_w96 hw) (own_w97 hw) (own_w28 hw) (own_w98 hw) (by decide) (own_ct_isSp l Z a0 hw EL hE n0 [] h0 (own_old w123) c1 ) all0 (argsL := [(.int c1)]) (rest := []) rfl rfl own_pd12 rfl own_d15_41 rfl (by decide) (W := 0) rfl (by decide) (by decide) (by decide) fun T129 h131 v132 ms133 w130 q134 => ?_
    obtain ⟨rfl, rfl, rfl⟩ := q134
    show own_Go Z EL n0 p e below s _ _ _ (T129.setTop (mkF m 44 _ [(.int (if own_sp c1 then 1 else 0))]))
    refine own_if (pc' := 47) w130 own_d15_44 rfl (by decide) (pcY := 53) rfl (fun (hb44_1 : (if own_sp c1 then 1 else 0) = (0 : Int32)) => ?_) (fun (hb44_1 : ¬ (if own_sp c1 then 1 else 0) = (0 : Int32)) => absurd hb20_1 hb44_1)
    refine own_aloadN (pc' := 54) w130 own_d15_53 rfl rfl rfl ?_
    refine own_iloadN (pc' := 55) w130 own_d15_54 rfl rfl ?_
    refine own_iloadN (pc' := 56) w130 own_d15_55 rfl rfl ?_
    refine own_callV (pc' := 59) w130 (own_w41 hw) (own_w42 hw) (fun s' hZ' => notFace_of_selects (args := #[]) (mvT hZ' (own_w44 hw))) (own_w44 hw) (own_w43 hw) (own_w7 hw) (own_w45 hw) (by decide) E_tx (own_ct_subC l Z a0 hw EL hE n0 [] h0 (own_old w130) tx (1 : Int32) (2 : Int32) t kb (3 : Int32) ((([c0, c1, c2] : List Int32).map (fun (c : Int32) => c.toInt8.toInt32)).map Value.int) ([c0, c1, c2] : List Int32) (1 : Int32) 1 1 z5 fm E_tx F_tx_coder F_tx_value A_t ((own_cod (cs := ([c0, c1, c2] : List Int32)) (n := 3) rfl (own_allS b0 (own_allS b1 (own_allS b2 own_all0))))) (own_up ([c0, c1, c2] : List Int32) (own_allS b0 (own_allS b1 (own_allS b2 own_all0)))) ((Nat.le_of_ble_eq_true rfl)) S_COMPACT_STRINGS (P5) S_SIOOBE_FORMATTER (hfm) (by decide) (rfl) (by decide) (by decide) (by decide)) all0 (argsL := [(.int (1 : Int32)), (.int (2 : Int32))]) (rest := []) rfl rfl own_pd10 rfl own_d15_56 rfl (by decide) (W := 0) rfl (by decide) (by decide) (by decide) fun T135 h137 v138 ms139 w136 q140 => ?_
    obtain ⟨K144, r_141, t2_142, kA_143, rfl, rfl, nw_E_r_141, nw_F_r_141_coder, nw_F_r_141_value, nw_A_t2_142, p56_subC_0⟩ := q140
    have ne_t_r_141 : t ≠ r_141 := Nat.ne_of_lt (Nat.lt_of_lt_of_le A_t.lt p56_subC_0)
    have ne_tx_r_141 : tx ≠ r_141 := Nat.ne_of_lt (Nat.lt_of_lt_of_le E_tx.lt p56_subC_0)
    have nw_r_141 : h0.size ≤ r_141 := Nat.le_trans K.1 p56_subC_0
    replace E_tx := E_tx.keep K144
    replace F_tx_coder := F_tx_coder.keep K144 nin0
    replace F_tx_value := F_tx_value.keep K144 nin0
    replace A_t := A_t.keep K144 nin0
    replace K := K.trans K144 all0
    have E_r_141 := nw_E_r_141; clear nw_E_r_141
    have F_r_141_coder := nw_F_r_141_coder; clear nw_F_r_141_coder
    have F_r_141_value := nw_F_r_141_value; clear nw_F_r_141_value
    have A_t2_142 := nw_A_t2_142; clear nw_A_t2_142
    show own_Go Z EL n0 p e below s _ _ _ (T135.setTop (mkF m 59 _ [(.ref r_141)]))
    have k_c0 := own_sp0 hb20
    have k_c1 := own_sp1 hb20_1
    have k_c2 := own_sp0 hb44
    exact own_retV w136 (t := (.object "java/lang/String")) rfl (own_narR rfl rfl) (Or.inr (Or.inr (Or.inr (Or.inr ⟨rfl, rfl, rfl⟩)))) own_d15_59 (by decide) (by decide) (ms' := []) all0 ⟨K, r_141, t2_142, kA_143, (1 : Int32), (own_sl ((([c0, c1, c2] : List Int32).map (fun (c : Int32) => c.toInt8.toInt32)).map Value.int) 1 1), ([c1] : List Int32), rfl, rfl, E_r_141, F_r_141_coder, F_r_141_value, A_t2_142, (own_cod (cs := ([c1] : List Int32)) (n := 1) rfl (own_allS b1 own_all0)), (own_up ([c1] : List Int32) (own_allS b1 own_all0)), (Nat.le_of_ble_eq_true rfl), (by simp [own_trim, List.dropWhile, k_c0, k_c1, k_c2])⟩
  ·
   refine own_iinc (pc' := 26) w94 own_d15_23 rfl (y := (2 : Int32)) (by decide) (Ls' := #[.val (.ref tx), .val (.int (2 : Int32)), .val (.int (3 : Int32))]) rfl rfl ?_
   refine own_goto w94 own_d15_26 (by decide) (pc' := 7) rfl ?_
   refine own_iloadN (pc' := 8) w94 own_d15_7 rfl rfl ?_
   refine own_iloadN (pc' := 9) w94 own_d15_8 rfl rfl ?_
   refine own_icmp (pc' := 12) w94 own_d15_9 rfl (by decide) (pcY := 29) rfl (fun (hb9_2 : ¬ (2 : Int32) < (3 : Int32)) => absurd hb9_2 (by decide)) (fun (hb9_2 : (2 : Int32) < (3 : Int32)) => ?_)
   refine own_aloadN (pc' := 13) w94 own_d15_12 rfl rfl rfl ?_
   refine own_iloadN (pc' := 14) w94 own_d15_13 rfl rfl ?_
   refine own_callVB (pc' := 17) w94 (kc := 0) (nc := 0) (own_w76 hw) (own_w77 hw) (fun s' hZ' => notFace_of_selects (args := #[]) (mvT hZ' (own_w79 hw))) (own_w79 hw) (own_w78 hw) (by decide) E_tx (QQ := fun v h' L => (v = some (.int c2)) ∧ L = [] ∧ h' = h0) (fun s' hZ' => StrChars.Road.chN (W := 0) hZ' (own_hwc hw) (kI := 4) (own_w6 hw) E_tx F_tx_value F_tx_coder A_t (own_cod (cs := ([c0, c1, c2] : List Int32)) (n := 3) rfl (own_allS b0 (own_allS b1 (own_allS b2 own_all0)))) (own_up ([c0, c1, c2] : List Int32) (own_allS b0 (own_allS b1 (own_allS b2 own_all0)))) (S_COMPACT_STRINGS.ext (own_old w94).2) P5 (S_SIOOBE_FORMATTER.ext (own_old w94).2) hfm (Nat.le_of_ble_eq_true rfl) (i := 2) (Nat.le_of_ble_eq_true rfl) rfl (by decide) (by decide)) (ws := []) all0 (fun v h' L q => ⟨q.2.2 ▸ Keep.refl _ _, q.2.1 ▸ Fr.nil _⟩) (argsL := [(.int (2 : Int32))]) (rest := []) rfl rfl own_pd11 rfl own_d15_14 rfl (Nat.le_of_eq rfl) (by decide) (by decide) fun T145 h147 v148 w146 K149 q150 => ?_
   obtain ⟨_, rfl, -, e151⟩ := q150
   rw [e151] at w146
   show own_Go Z EL n0 p e below s _ _ _ (T145.setTop (mkF m 17 _ [(.int c2)]))
   refine own_callS (pc' := 20) w146 (own_w96 hw) (own_w97 hw) (own_w28 hw) (own_w98 hw) (by decide) (own_ct_isSp l Z a0 hw EL hE n0 [] h0 (own_old w146) c2 ) all0 (argsL := [(.int c2)]) (rest := []) rfl rfl own_pd12 rfl own_d15_17 rfl (by decide) (W := 0) rfl (by decide) (by decide) (by decide) fun T152 h154 v155 ms156 w153 q157 => ?_
   obtain ⟨rfl, rfl, rfl⟩ := q157
   show own_Go Z EL n0 p e below s _ _ _ (T152.setTop (mkF m 20 _ [(.int (if own_sp c2 then 1 else 0))]))
   refine own_if (pc' := 23) w153 own_d15_20 rfl (by decide) (pcY := 29) rfl (fun (hb20_2 : (if own_sp c2 then 1 else 0) = (0 : Int32)) => ?_) (fun (hb20_2 : ¬ (if own_sp c2 then 1 else 0) = (0 : Int32)) => ?_)
   ·
    refine own_iloadN (pc' := 30) w153 own_d15_29 rfl rfl ?_
    refine own_iloadN (pc' := 31) w153 own_d15_30 rfl rfl ?_
    refine own_icmp (pc' := 34) w153 own_d15_31 rfl (by decide) (pcY := 53) rfl (fun (hb31 : ¬ (2 : Int32) < (3 : Int32)) => absurd hb31 (by decide)) (fun (hb31 : (2 : Int32) < (3 : Int32)) => ?_)
    refine own_aloadN (pc' := 35) w153 own_d15_34 rfl rfl rfl ?_
    refine own_iloadN (pc' := 36) w153 own_d15_35 rfl rfl ?_
    refine own_iconst (pc' := 37) w153 own_d15_36 (x := (1 : Int32)) rfl rfl ?_
    refine own_isub (pc' := 38) w153 own_d15_37 (z := (2 : Int32)) (by decide) rfl ?_
    refine own_callVB (pc' := 41) w153 (kc := 0) (nc := 0) (own_w76 hw) (own_w77 hw) (fun s' hZ' => notFace_of_selects (args := #[]) (mvT hZ' (own_w79 hw))) (own_w79 hw) (own_w78 hw) (by decide) E_tx (QQ := fun v h' L => (v = some (.int c2)) ∧ L = [] ∧ h' = h0) (fun s' hZ' => StrChars.Road.chN (W := 0) hZ' (own_hwc hw) (kI := 4) (own_w6 hw) E_tx F_tx_value F_tx_coder A_t (own_cod (cs := ([c0, c1, c2] : List Int32)) (n := 3) rfl (own_allS b0 (own_allS b1 (own_allS b2 own_all0)))) (own_up ([c0, c1, c2] : List Int32) (own_allS b0 (own_allS b1 (own_allS b2 own_all0)))) (S_COMPACT_STRINGS.ext (own_old w153).2) P5 (S_SIOOBE_FORMATTER.ext (own_old w153).2) hfm (Nat.le_of_ble_eq_true rfl) (i := 2) (Nat.le_of_ble_eq_true rfl) rfl (by decide) (by decide)) (ws := []) all0 (fun v h' L q => ⟨q.2.2 ▸ Keep.refl _ _, q.2.1 ▸ Fr.nil _⟩) (argsL := [(.int (2 : Int32))]) (rest := []) rfl rfl own_pd11 rfl own_d15_38 rfl (Nat.le_of_eq rfl) (by decide) (by decide) fun T158 h160 v161 w159 K162 q163 => ?_
    obtain ⟨_, rfl, -, e164⟩ := q163
    rw [e164] at w159
    show own_Go Z EL n0 p e below s _ _ _ (T158.setTop (mkF m 41 _ [(.int c2)]))
    refine own_callS (pc' := 44) w159 (own_w96 hw) (own_w97 hw) (own_w28 hw) (own_w98 hw) (by decide) (own_ct_isSp l Z a0 hw EL hE n0 [] h0 (own_old w159) c2 ) all0 (argsL := [(.int c2)]) (rest := []) rfl rfl own_pd12 rfl own_d15_41 rfl (by decide) (W := 0) rfl (by decide) (by decide) (by decide) fun T165 h167 v168 ms169 w166 q170 => ?_
    obtain ⟨rfl, rfl, rfl⟩ := q170
    show own_Go Z EL n0 p e below s _ _ _ (T165.setTop (mkF m 44 _ [(.int (if own_sp c2 then 1 else 0))]))
    refine own_if (pc' := 47) w166 own_d15_44 rfl (by decide) (pcY := 53) rfl (fun (hb44 : (if own_sp c2 then 1 else 0) = (0 : Int32)) => ?_) (fun (hb44 : ¬ (if own_sp c2 then 1 else 0) = (0 : Int32)) => absurd hb20_2 hb44)
    refine own_aloadN (pc' := 54) w166 own_d15_53 rfl rfl rfl ?_
    refine own_iloadN (pc' := 55) w166 own_d15_54 rfl rfl ?_
    refine own_iloadN (pc' := 56) w166 own_d15_55 rfl rfl ?_
    refine own_callV (pc' := 59) w166 (own_w41 hw) (own_w42 hw) (fun s' hZ' => notFace_of_selects (args := #[]) (mvT hZ' (own_w44 hw))) (own_w44 hw) (own_w43 hw) (own_w7 hw) (own_w45 hw) (by decide) E_tx (own_ct_subC l Z a0 hw EL hE n0 [] h0 (own_old w166) tx (2 : Int32) (3 : Int32) t kb (3 : Int32) ((([c0, c1, c2] : List Int32).map (fun (c : Int32) => c.toInt8.toInt32)).map Value.int) ([c0, c1, c2] : List Int32) (1 : Int32) 2 1 z5 fm E_tx F_tx_coder F_tx_value A_t ((own_cod (cs := ([c0, c1, c2] : List Int32)) (n := 3) rfl (own_allS b0 (own_allS b1 (own_allS b2 own_all0))))) (own_up ([c0, c1, c2] : List Int32) (own_allS b0 (own_allS b1 (own_allS b2 own_all0)))) ((Nat.le_of_ble_eq_true rfl)) S_COMPACT_STRINGS (P5) S_SIOOBE_FORMATTER (hfm) (by decide) (rfl) (by decide) (by decide) (by decide)) all0 (argsL := [(.int (2 : Int32)), (.int (3 : Int32))]) (rest := []) rfl rfl own_pd10 rfl own_d15_56 rfl (by decide) (W := 0) rfl (by decide) (by decide) (by decide) fun T171 h173 v174 ms175 w172 q176 => ?_
    obtain ⟨K180, r_177, t2_178, kA_179, rfl, rfl, nw_E_r_177, nw_F_r_177_coder, nw_F_r_177_value, nw_A_t2_178, p56_subC_0⟩ := q176
    have ne_t_r_177 : t ≠ r_177 := Nat.ne_of_lt (Nat.lt_of_lt_of_le A_t.lt p56_subC_0)
    have ne_tx_r_177 : tx ≠ r_177 := Nat.ne_of_lt (Nat.lt_of_lt_of_le E_tx.lt p56_subC_0)
    have nw_r_177 : h0.size ≤ r_177 := Nat.le_trans K.1 p56_subC_0
    replace E_tx := E_tx.keep K180
    replace F_tx_coder := F_tx_coder.keep K180 nin0
    replace F_tx_value := F_tx_value.keep K180 nin0
    replace A_t := A_t.keep K180 nin0
    replace K := K.trans K180 all0
    have E_r_177 := nw_E_r_177; clear nw_E_r_177
    have F_r_177_coder := nw_F_r_177_coder; clear nw_F_r_177_coder
    have F_r_177_value := nw_F_r_177_value; clear nw_F_r_177_value
    have A_t2_178 := nw_A_t2_178; clear nw_A_t2_178
    show own_Go Z EL n0 p e below s _ _ _ (T171.setTop (mkF m 59 _ [(.ref r_177)]))
    have k_c0 := own_sp0 hb20
    have k_c1 := own_sp0 hb20_1
    have k_c2 := own_sp1 hb20_2
    exact own_retV w172 (t := (.object "java/lang/String")) rfl (own_narR rfl rfl) (Or.inr (Or.inr (Or.inr (Or.inr ⟨rfl, rfl, rfl⟩)))) own_d15_59 (by decide) (by decide) (ms' := []) all0 ⟨K, r_177, t2_178, kA_179, (1 : Int32), (own_sl ((([c0, c1, c2] : List Int32).map (fun (c : Int32) => c.toInt8.toInt32)).map Value.int) 2 1), ([c2] : List Int32), rfl, rfl, E_r_177, F_r_177_coder, F_r_177_value, A_t2_178, (own_cod (cs := ([c2] : List Int32)) (n := 1) rfl (own_allS b2 own_all0)), (own_up ([c2] : List Int32) (own_allS b2 own_all0)), (Nat.le_of_ble_eq_true rfl), (by simp [own_trim, List.dropWhile, k_c0, k_c1, k_c2])⟩
   ·
    refine own_iinc (pc' := 26) w153 own_d15_23 rfl (y := (3 : Int32)) (by decide) (Ls' := #[.val (.ref tx), .val (.int (3 : Int32)), .val (.int (3 : Int32))]) rfl rfl ?_
    refine own_goto w153 own_d15_26 (by decide) (pc' := 7) rfl ?_
    refine own_iloadN (pc' := 8) w153 own_d15_7 rfl rfl ?_
    refine own_iloadN (pc' := 9) w153 own_d15_8 rfl rfl ?_
    refine own_icmp (pc' := 12) w153 own_d15_9 rfl (by decide) (pcY := 29) rfl (fun (hb9_3 : ¬ (3 : Int32) < (3 : Int32)) => ?_) (fun (hb9_3 : (3 : Int32) < (3 : Int32)) => absurd hb9_3 (by decide))
    refine own_iloadN (pc' := 30) w153 own_d15_29 rfl rfl ?_
    refine own_iloadN (pc' := 31) w153 own_d15_30 rfl rfl ?_
    refine own_icmp (pc' := 34) w153 own_d15_31 rfl (by decide) (pcY := 53) rfl (fun (hb31 : ¬ (3 : Int32) < (3 : Int32)) => ?_) (fun (hb31 : (3 : Int32) < (3 : Int32)) => absurd hb31 (by decide))
    refine own_aloadN (pc' := 54) w153 own_d15_53 rfl rfl rfl ?_
    refine own_iloadN (pc' := 55) w153 own_d15_54 rfl rfl ?_
    refine own_iloadN (pc' := 56) w153 own_d15_55 rfl rfl ?_
    refine own_callV (pc' := 59) w153 (own_w41 hw) (own_w42 hw) (fun s' hZ' => notFace_of_selects (args := #[]) (mvT hZ' (own_w44 hw))) (own_w44 hw) (own_w43 hw) (own_w7 hw) (own_w45 hw) (by decide) E_tx (own_ct_subE l Z a0 hw EL hE n0 [] h0 (own_old w153) tx (3 : Int32) (3 : Int32) t kb (3 : Int32) ((([c0, c1, c2] : List Int32).map (fun (c : Int32) => c.toInt8.toInt32)).map Value.int) ([c0, c1, c2] : List Int32) (0 : Int32) 3 0 z5 fm E_tx F_tx_coder F_tx_value A_t ((own_cod (cs := ([c0, c1, c2] : List Int32)) (n := 3) rfl (own_allS b0 (own_allS b1 (own_allS b2 own_all0))))) (own_up ([c0, c1, c2] : List Int32) (own_allS b0 (own_allS b1 (own_allS b2 own_all0)))) ((Nat.le_of_ble_eq_true rfl)) S_COMPACT_STRINGS (P5) S_SIOOBE_FORMATTER (hfm) (by decide) (rfl) (by decide) (by decide) (hE151)) all0 (argsL := [(.int (3 : Int32)), (.int (3 : Int32))]) (rest := []) rfl rfl own_pd10 rfl own_d15_56 rfl (by decide) (W := 0) rfl (by decide) (by decide) (by decide) fun T181 h183 v184 ms185 w182 q186 => ?_
    obtain ⟨K190, r_187, t2_188, kA_189, rfl, rfl, nw_E_r_187, nw_F_r_187_coder, nw_F_r_187_value, nw_A_t2_188⟩ := q186
    replace E_tx := E_tx.keep K190
    replace F_tx_coder := F_tx_coder.keep K190 nin0
    replace F_tx_value := F_tx_value.keep K190 nin0
    replace A_t := A_t.keep K190 nin0
    replace K := K.trans K190 all0
    have E_r_187 := nw_E_r_187; clear nw_E_r_187
    have F_r_187_coder := nw_F_r_187_coder; clear nw_F_r_187_coder
    have F_r_187_value := nw_F_r_187_value; clear nw_F_r_187_value
    have A_t2_188 := nw_A_t2_188; clear nw_A_t2_188
    show own_Go Z EL n0 p e below s _ _ _ (T181.setTop (mkF m 59 _ [(.ref r_187)]))
    have k_c0 := own_sp0 hb20
    have k_c1 := own_sp0 hb20_1
    have k_c2 := own_sp0 hb20_2
    exact own_retV w182 (t := (.object "java/lang/String")) rfl (own_narR rfl rfl) (Or.inr (Or.inr (Or.inr (Or.inr ⟨rfl, rfl, rfl⟩)))) own_d15_59 (by decide) (by decide) (ms' := []) all0 ⟨K, r_187, t2_188, kA_189, (0 : Int32), [], ([] : List Int32), rfl, rfl, E_r_187, F_r_187_coder, F_r_187_value, A_t2_188, (Or.inl ⟨rfl, rfl, rfl, own_all0⟩), (own_up ([] : List Int32) own_all0), (Nat.le_of_ble_eq_true rfl), (by simp [own_trim, List.dropWhile, k_c0, k_c1, k_c2])⟩
theorem own_ef_trim4 (m : MethodId) (tx : Addr) : entryFrame m #[(.ref tx)] 3 = mkF m 0 #[.val (.ref tx), .unset, .unset] [] := by first | (simp [entryFrame, mkF, argsToLocals, Value.category]; done) | rfl
def own_Q_trim4 (Z : State) (h0 : Heap) (tx : Addr) (t : Addr) (kb : ClassId) (z5 : Int32) (fm : Value) (c0 : Int32) (c1 : Int32) (c2 : Int32) (c3 : Int32) (v : Option Value) (h : Heap) (ms : List Addr) : Prop := (Keep h0 h []) ∧ (∃ (r : Addr) (t2 : Addr) (kA : ClassId) (N2 : Int32) (vs2 : List Value) (ds : List Int32), (ms = []) ∧ (v = some (.ref r)) ∧ (Exa Z h r "java/lang/String") ∧ (Fld Z h r "java/lang/String" "coder" "B" (.int 0)) ∧ (Fld Z h r "java/lang/String" "value" "[B" (.ref t2)) ∧ (Arv Z h t2 kA .byte N2 vs2 (.int 0)) ∧ (StrChars.Road.CodA ds 0 N2 vs2) ∧ (∀ c ∈ ds, ¬ c < 0 ∧ ¬ (65535 : Int32) < c) ∧ (ds.length ≤ 4000) ∧ (ds = own_trim ([c0, c1, c2, c3] : List Int32)))
set_option maxRecDepth 65536 in
set_option maxHeartbeats 40000000 in
theorem own_ct_trim4 (l : Launch) (Z : State) (a0 : Array Value) (hw : ∀ d ∈ tables_1, d.before a0 Z = true) (EL : List (String × Nat)) (hE : EW Z a0 EL) (n0 : Nat) (ws : List Jvm.Cond) (h0 : Heap) (O : Old Z n0 h0) (tx : Addr) (t : Addr) (kb : ClassId) (z5 : Int32) (fm : Value) (c0 : Int32) (c1 : Int32) (c2 : Int32) (c3 : Int32) (E_tx : Exa Z h0 tx "java/lang/String") (F_tx_coder : Fld Z h0 tx "java/lang/String" "coder" "B" (.int 0)) (F_tx_value : Fld Z h0 tx "java/lang/String" "value" "[B" (.ref t)) (A_t : Arv Z h0 t kb .byte (4 : Int32) ((([c0, c1, c2, c3] : List Int32).map (fun (c : Int32) => c.toInt8.toInt32)).map Value.int) (.int 0)) (S_COMPACT_STRINGS : Sta Z Z.heap "java/lang/String" "COMPACT_STRINGS" "Z" (.int z5)) (P5 : ¬ z5 = 0) (S_SIOOBE_FORMATTER : Sta Z Z.heap "jdk/internal/util/Preconditions" "SIOOBE_FORMATTER" "Ljava/util/function/BiFunction;" fm) (hfm : fm.isRef = true) (hE151 : ("java/lang/StringLatin1", 151) ∈ EL) (b0 : ¬ c0 < 0 ∧ ¬ (255 : Int32) < c0) (b1 : ¬ c1 < 0 ∧ ¬ (255 : Int32) < c1) (b2 : ¬ c2 < 0 ∧ ¬ (255 : Int32) < c2) (b3 : ¬ c3 < 0 ∧ ¬ (255 : Int32) < c3) :
    own_Ct l Z EL n0 (⟨"com/example/caddis/caddis/conformance/XmlValues", "trim", "(Ljava/lang/String;)Ljava/lang/String;"⟩ : MethodName) prog_41_method_2_code 3 (some (.object "java/lang/String")) ws ({ frames := 5, cells := 2, slots := 9, locals := 80 } : Room) #[(.ref tx)] h0 [] (own_Q_trim4 Z h0 tx t kb z5 fm c0 c1 c2 c3) := by
 refine own_enter (a0 := a0) own_pf15 hE O fun p e s m below meth c T0 w0 => ?_
 rw [own_ef_trim4 m tx]
 have K : Keep h0 h0 [] := Keep.refl _ _
 refine own_iconst (pc' := 1) w0 own_d15_0 (x := (0 : Int32)) rfl rfl ?_
 refine own_istoreN (pc' := 2) w0 own_d15_1 (Ls' := #[.val (.ref tx), .val (.int (0 : Int32)), .unset]) rfl rfl ?_
 refine own_aloadN (pc' := 3) w0 own_d15_2 rfl rfl rfl ?_
 refine own_callVB (pc' := 6) w0 (kc := 0) (nc := 0) (own_w30 hw) (own_w31 hw) (fun s' hZ' => notFace_of_selects (args := #[]) (mvT hZ' (own_w33 hw))) (own_w33 hw) (own_w32 hw) (by decide) E_tx (QQ := fun v h' L => (v = some (.int (4 : Int32))) ∧ L = [] ∧ h' = h0) (fun s' hZ' => StrChars.Road.lenW (W := 0) hZ' (own_hwl hw) (kI := 4) (own_w6 hw) E_tx F_tx_value F_tx_coder A_t (own_cod (cs := ([c0, c1, c2, c3] : List Int32)) (n := 4) rfl (own_allS b0 (own_allS b1 (own_allS b2 (own_allS b3 own_all0))))) (own_up ([c0, c1, c2, c3] : List Int32) (own_allS b0 (own_allS b1 (own_allS b2 (own_allS b3 own_all0))))) (S_COMPACT_STRINGS.ext (own_old w0).2) P5 (Nat.le_of_ble_eq_true rfl) (by decide) (by decide)) (ws := []) all0 (fun v h' L q => ⟨q.2.2 ▸ Keep.refl _ _, q.2.1 ▸ Fr.nil _⟩) (argsL := []) (rest := []) rfl rfl own_pd6 rfl own_d15_3 rfl (Nat.le_of_eq rfl) (by decide) (by decide) fun T1 h3 v4 w2 K5 q6 => ?_
 obtain ⟨_, rfl, -, e7⟩ := q6
 rw [e7] at w2
 show own_Go Z EL n0 p e below s _ _ _ (T1.setTop (mkF m 6 _ [(.int (4 : Int32))]))
 refine own_istoreN (pc' := 7) w2 own_d15_6 (Ls' := #[.val (.ref tx), .val (.int (0 : Int32)), .val (.int (4 : Int32))]) rfl rfl ?_
 refine own_iloadN (pc' := 8) w2 own_d15_7 rfl rfl ?_
 refine own_iloadN (pc' := 9) w2 own_d15_8 rfl rfl ?_
 refine own_icmp (pc' := 12) w2 own_d15_9 rfl (by decide) (pcY := 29) rfl (fun (hb9 : ¬ (0 : Int32) < (4 : Int32)) => absurd hb9 (by decide)) (fun (hb9 : (0 : Int32) < (4 : Int32)) => ?_)
 refine own_aloadN (pc' := 13) w2 own_d15_12 rfl rfl rfl ?_
 refine own_iloadN (pc' := 14) w2 own_d15_13 rfl rfl ?_
 refine own_callVB (pc' := 17) w2 (kc := 0) (nc := 0) (own_w76 hw) (own_w77 hw) (fun s' hZ' => notFace_of_selects (args := #[]) (mvT hZ' (own_w79 hw))) (own_w79 hw) (own_w78 hw) (by decide) E_tx (QQ := fun v h' L => (v = some (.int c0)) ∧ L = [] ∧ h' = h0) (fun s' hZ' => StrChars.Road.chN (W := 0) hZ' (own_hwc hw) (kI := 4) (own_w6 hw) E_tx F_tx_value F_tx_coder A_t (own_cod (cs := ([c0, c1, c2, c3] : List Int32)) (n := 4) rfl (own_allS b0 (own_allS b1 (own_allS b2 (own_allS b3 own_all0))))) (own_up ([c0, c1, c2, c3] : List Int32) (own_allS b0 (own_allS b1 (own_allS b2 (own_allS b3 own_all0))))) (S_COMPACT_STRINGS.ext (own_old w2).2) P5 (S_SIOOBE_FORMATTER.ext (own_old w2).2) hfm (Nat.le_of_ble_eq_true rfl) (i := 0) (Nat.le_of_ble_eq_true rfl) rfl (by decide) (by decide)) (ws := []) all0 (fun v h' L q => ⟨q.2.2 ▸ Keep.refl _ _, q.2.1 ▸ Fr.nil _⟩) (argsL := [(.int (0 : Int32))]) (rest := []) rfl rfl own_pd11 rfl own_d15_14 rfl (Nat.le_of_eq rfl) (by decide) (by decide) fun T8 h10 v11 w9 K12 q13 => ?_
 obtain ⟨_, rfl, -, e14⟩ := q13
 rw [e14] at w9
 show own_Go Z EL n0 p e below s _ _ _ (T8.setTop (mkF m 17 _ [(.int c0)]))
 refine own_callS (pc' := 20) w9 (own_w96 hw) (own_w97 hw) (own_w28 hw) (own_w98 hw) (by decide) (own_ct_isSp l Z a0 hw EL hE n0 [] h0 (own_old w9) c0 ) all0 (argsL := [(.int c0)]) (rest := []) rfl rfl own_pd12 rfl own_d15_17 rfl (by decide) (W := 0) rfl (by decide) (by decide) (by decide) fun T15 h17 v18 ms19 w16 q20 => ?_
 obtain ⟨rfl, rfl, rfl⟩ := q20
 show own_Go Z EL n0 p e below s _ _ _ (T15.setTop (mkF m 20 _ [(.int (if own_sp c0 then 1 else 0))]))
 refine own_if (pc' := 23) w16 own_d15_20 rfl (by decide) (pcY := 29) rfl (fun (hb20 : (if own_sp c0 then 1 else 0) = (0 : Int32)) => ?_) (fun (hb20 : ¬ (if own_sp c0 then 1 else 0) = (0 : Int32)) => ?_)
 ·
  refine own_iloadN (pc' := 30) w16 own_d15_29 rfl rfl ?_
  refine own_iloadN (pc' := 31) w16 own_d15_30 rfl rfl ?_
  refine own_icmp (pc' := 34) w16 own_d15_31 rfl (by decide) (pcY := 53) rfl (fun (hb31 : ¬ (0 : Int32) < (4 : Int32)) => absurd hb31 (by decide)) (fun (hb31 : (0 : Int32) < (4 : Int32)) => ?_)
  refine own_aloadN (pc' := 35) w16 own_d15_34 rfl rfl rfl ?_
  refine own_iloadN (pc' := 36) w16 own_d15_35 rfl rfl ?_
  refine own_iconst (pc' := 37) w16 own_d15_36 (x := (1 : Int32)) rfl rfl ?_
  refine own_isub (pc' := 38) w16 own_d15_37 (z := (3 : Int32)) (by decide) rfl ?_
  refine own_callVB (pc' := 41) w16 (kc := 0) (nc := 0) (own_w76 hw) (own_w77 hw) (fun s' hZ' => notFace_of_selects (args := #[]) (mvT hZ' (own_w79 hw))) (own_w79 hw) (own_w78 hw) (by decide) E_tx (QQ := fun v h' L => (v = some (.int c3)) ∧ L = [] ∧ h' = h0) (fun s' hZ' => StrChars.Road.chN (W := 0) hZ' (own_hwc hw) (kI := 4) (own_w6 hw) E_tx F_tx_value F_tx_coder A_t (own_cod (cs := ([c0, c1, c2, c3] : List Int32)) (n := 4) rfl (own_allS b0 (own_allS b1 (own_allS b2 (own_allS b3 own_all0))))) (own_up ([c0, c1, c2, c3] : List Int32) (own_allS b0 (own_allS b1 (own_allS b2 (own_allS b3 own_all0))))) (S_COMPACT_STRINGS.ext (own_old w16).2) P5 (S_SIOOBE_FORMATTER.ext (own_old w16).2) hfm (Nat.le_of_ble_eq_true rfl) (i := 3) (Nat.le_of_ble_eq_true rfl) rfl (by decide) (by decide)) (ws := []) all0 (fun v h' L q => ⟨q.2.2 ▸ Keep.refl _ _, q.2.1 ▸ Fr.nil _⟩) (argsL := [(.int (3 : Int32))]) (rest := []) rfl rfl own_pd11 rfl own_d15_38 rfl (Nat.le_of_eq rfl) (by decide) (by decide) fun T21 h23 v24 w22 K25 q26 => ?_
  obtain ⟨_, rfl, -, e27⟩ := q26
  rw [e27] at w22
  show own_Go Z EL n0 p e below s _ _ _ (T21.setTop (mkF m 41 _ [(.int c3)]))
  refine own_callS (pc' := 44) w22 (own_w96 hw) (own_w97 hw) (own_w28 hw) (own_w98 hw) (by decide) (own_ct_isSp l Z a0 hw EL hE n0 [] h0 (own_old w22) c3 ) all0 (argsL := [(.int c3)]) (rest := []) rfl rfl own_pd12 rfl own_d15_41 rfl (by decide) (W := 0) rfl (by decide) (by decide) (by decide) fun T28 h30 v31 ms32 w29 q33 => ?_
  obtain ⟨rfl, rfl, rfl⟩ := q33
  show own_Go Z EL n0 p e below s _ _ _ (T28.setTop (mkF m 44 _ [(.int (if own_sp c3 then 1 else 0))]))
  refine own_if (pc' := 47) w29 own_d15_44 rfl (by decide) (pcY := 53) rfl (fun (hb44 : (if own_sp c3 then 1 else 0) = (0 : Int32)) => ?_) (fun (hb44 : ¬ (if own_sp c3 then 1 else 0) = (0 : Int32)) => ?_)
  ·
   refine own_aloadN (pc' := 54) w29 own_d15_53 rfl rfl rfl ?_
   refine own_iloadN (pc' := 55) w29 own_d15_54 rfl rfl ?_
   refine own_iloadN (pc' := 56) w29 own_d15_55 rfl rfl ?_
   refine own_callV (pc' := 59) w29 (own_w41 hw) (own_w42 hw) (fun s' hZ' => notFace_of_selects (args := #[]) (mvT hZ' (own_w44 hw))) (own_w44 hw) (own_w43 hw) (own_w7 hw) (own_w45 hw) (by decide) E_tx (own_ct_subW l Z a0 hw EL hE n0 [] h0 (own_old w29) tx (0 : Int32) (4 : Int32) t kb (4 : Int32) ((([c0, c1, c2, c3] : List Int32).map (fun (c : Int32) => c.toInt8.toInt32)).map Value.int) ([c0, c1, c2, c3] : List Int32) (4 : Int32) 0 4 z5 fm E_tx F_tx_coder F_tx_value A_t ((own_cod (cs := ([c0, c1, c2, c3] : List Int32)) (n := 4) rfl (own_allS b0 (own_allS b1 (own_allS b2 (own_allS b3 own_all0)))))) (own_up ([c0, c1, c2, c3] : List Int32) (own_allS b0 (own_allS b1 (own_allS b2 (own_allS b3 own_all0))))) ((Nat.le_of_ble_eq_true rfl)) S_COMPACT_STRINGS (P5) S_SIOOBE_FORMATTER (hfm) (by decide) (rfl) (by decide) (by decide)) all0 (argsL := [(.int (0 : Int32)), (.int (4 : Int32))]) (rest := []) rfl rfl own_pd10 rfl own_d15_56 rfl (by decide) (W := 0) rfl (by decide) (by decide) (by decide) fun T34 h36 v37 ms38 w35 q39 => ?_
   obtain ⟨rfl, rfl, rfl⟩ := q39
   show own_Go Z EL n0 p e below s _ _ _ (T34.setTop (mkF m 59 _ [(.ref tx)]))
   have k_c0 := own_sp1 hb20
   have k_c3 := own_sp1 hb44
   exact own_retV w35 (t := (.object "java/lang/String")) rfl (own_narR rfl rfl) (Or.inr (Or.inr (Or.inr (Or.inr ⟨rfl, rfl, rfl⟩)))) own_d15_59 (by decide) (by decide) (ms' := []) all0 ⟨K, tx, t, kb, (4 : Int32), ((([c0, c1, c2, c3] : List Int32).map (fun (c : Int32) => c.toInt8.toInt32)).map Value.int), ([c0, c1, c2, c3] : List Int32), rfl, rfl, E_tx, F_tx_coder, F_tx_value, A_t, (own_cod (cs := ([c0, c1, c2, c3] : List Int32)) (n := 4) rfl (own_allS b0 (own_allS b1 (own_allS b2 (own_allS b3 own_all0))))), (own_up ([c0, c1, c2, c3] : List Int32) (own_allS b0 (own_allS b1 (own_allS b2 (own_allS b3 own_all0))))), (Nat.le_of_ble_eq_true rfl), (by simp [own_trim, List.dropWhile, k_c0, k_c3])⟩
  ·
   refine own_iinc (pc' := 50) w29 own_d15_47 rfl (y := (3 : Int32)) (by decide) (Ls' := #[.val (.ref tx), .val (.int (0 : Int32)), .val (.int (3 : Int32))]) rfl rfl ?_
   refine own_goto w29 own_d15_50 (by decide) (pc' := 29) rfl ?_
   refine own_iloadN (pc' := 30) w29 own_d15_29 rfl rfl ?_
   refine own_iloadN (pc' := 31) w29 own_d15_30 rfl rfl ?_
   refine own_icmp (pc' := 34) w29 own_d15_31 rfl (by decide) (pcY := 53) rfl (fun (hb31_1 : ¬ (0 : Int32) < (3 : Int32)) => absurd hb31_1 (by decide)) (fun (hb31_1 : (0 : Int32) < (3 : Int32)) => ?_)
   refine own_aloadN (pc' := 35) w29 own_d15_34 rfl rfl rfl ?_
   refine own_iloadN (pc' := 36) w29 own_d15_35 rfl rfl ?_
   refine own_iconst (pc' := 37) w29 own_d15_36 (x := (1 : Int32)) rfl rfl ?_
   refine own_isub (pc' := 38) w29 own_d15_37 (z := (2 : Int32)) (by decide) rfl ?_
   refine own_callVB (pc' := 41) w29 (kc := 0) (nc := 0) (own_w76 hw) (own_w77 hw) (fun s' hZ' => notFace_of_selects (args := #[]) (mvT hZ' (own_w79 hw))) (own_w79 hw) (own_w78 hw) (by decide) E_tx (QQ := fun v h' L => (v = some (.int c2)) ∧ L = [] ∧ h' = h0) (fun s' hZ' => StrChars.Road.chN (W := 0) hZ' (own_hwc hw) (kI := 4) (own_w6 hw) E_tx F_tx_value F_tx_coder A_t (own_cod (cs := ([c0, c1, c2, c3] : List Int32)) (n := 4) rfl (own_allS b0 (own_allS b1 (own_allS b2 (own_allS b3 own_all0))))) (own_up ([c0, c1, c2, c3] : List Int32) (own_allS b0 (own_allS b1 (own_allS b2 (own_allS b3 own_all0))))) (S_COMPACT_STRINGS.ext (own_old w29).2) P5 (S_SIOOBE_FORMATTER.ext (own_old w29).2) hfm (Nat.le_of_ble_eq_true rfl) (i := 2) (Nat.le_of_ble_eq_true rfl) rfl (by decide) (by decide)) (ws := []) all0 (fun v h' L q => ⟨q.2.2 ▸ Keep.refl _ _, q.2.1 ▸ Fr.nil _⟩) (argsL := [(.int (2 : Int32))]) (rest := []) rfl rfl own_pd11 rfl own_d15_38 rfl (Nat.le_of_eq rfl) (by decide) (by decide) fun T40 h42 v43 w41 K44 q45 => ?_
   obtain ⟨_, rfl, -, e46⟩ := q45
   rw [e46] at w41
   show own_Go Z EL n0 p e below s _ _ _ (T40.setTop (mkF m 41 _ [(.int c2)]))
   refine own_callS (pc' := 44) w41 (own_w96 hw) (own_w97 hw) (own_w28 hw) (own_w98 hw) (by decide) (own_ct_isSp l Z a0 hw EL hE n0 [] h0 (own_old w41) c2 ) all0 (argsL := [(.int c2)]) (rest := []) rfl rfl own_pd12 rfl own_d15_41 rfl (by decide) (W := 0) rfl (by decide) (by decide) (by decide) fun T47 h49 v50 ms51 w48 q52 => ?_
   obtain ⟨rfl, rfl, rfl⟩ := q52
   show own_Go Z EL n0 p e below s _ _ _ (T47.setTop (mkF m 44 _ [(.int (if own_sp c2 then 1 else 0))]))
   refine own_if (pc' := 47) w48 own_d15_44 rfl (by decide) (pcY := 53) rfl (fun (hb44_1 : (if own_sp c2 then 1 else 0) = (0 : Int32)) => ?_) (fun (hb44_1 : ¬ (if own_sp c2 then 1 else 0) = (0 : Int32)) => ?_)
   ·
    refine own_aloadN (pc' := 54) w48 own_d15_53 rfl rfl rfl ?_
    refine own_iloadN (pc' := 55) w48 own_d15_54 rfl rfl ?_
    refine own_iloadN (pc' := 56) w48 own_d15_55 rfl rfl ?_
    refine own_callV (pc' := 59) w48 (own_w41 hw) (own_w42 hw) (fun s' hZ' => notFace_of_selects (args := #[]) (mvT hZ' (own_w44 hw))) (own_w44 hw) (own_w43 hw) (own_w7 hw) (own_w45 hw) (by decide) E_tx (own_ct_subC l Z a0 hw EL hE n0 [] h0 (own_old w48) tx (0 : Int32) (3 : Int32) t kb (4 : Int32) ((([c0, c1, c2, c3] : List Int32).map (fun (c : Int32) => c.toInt8.toInt32)).map Value.int) ([c0, c1, c2, c3] : List Int32) (3 : Int32) 0 3 z5 fm E_tx F_tx_coder F_tx_value A_t ((own_cod (cs := ([c0, c1, c2, c3] : List Int32)) (n := 4) rfl (own_allS b0 (own_allS b1 (own_allS b2 (own_allS b3 own_all0)))))) (own_up ([c0, c1, c2, c3] : List Int32) (own_allS b0 (own_allS b1 (own_allS b2 (own_allS b3 own_all0))))) ((Nat.le_of_ble_eq_true rfl)) S_COMPACT_STRINGS (P5) S_SIOOBE_FORMATTER (hfm) (by decide) (rfl) (by decide) (by decide) (by decide)) all0 (argsL := [(.int (0 : Int32)), (.int (3 : Int32))]) (rest := []) rfl rfl own_pd10 rfl own_d15_56 rfl (by decide) (W := 0) rfl (by decide) (by decide) (by decide) fun T53 h55 v56 ms57 w54 q58 => ?_
    obtain ⟨K62, r_59, t2_60, kA_61, rfl, rfl, nw_E_r_59, nw_F_r_59_coder, nw_F_r_59_value, nw_A_t2_60, p56_subC_0⟩ := q58
    have ne_t_r_59 : t ≠ r_59 := Nat.ne_of_lt (Nat.lt_of_lt_of_le A_t.lt p56_subC_0)
    have ne_tx_r_59 : tx ≠ r_59 := Nat.ne_of_lt (Nat.lt_of_lt_of_le E_tx.lt p56_subC_0)
    have nw_r_59 : h0.size ≤ r_59 := Nat.le_trans K.1 p56_subC_0
    replace E_tx := E_tx.keep K62
    replace F_tx_coder := F_tx_coder.keep K62 nin0
    replace F_tx_value := F_tx_value.keep K62 nin0
    replace A_t := A_t.keep K62 nin0
    replace K := K.trans K62 all0
    have E_r_59 := nw_E_r_59; clear nw_E_r_59
    have F_r_59_coder := nw_F_r_59_coder; clear nw_F_r_59_coder
    have F_r_59_value := nw_F_r_59_value; clear nw_F_r_59_value
    have A_t2_60 := nw_A_t2_60; clear nw_A_t2_60
    show own_Go Z EL n0 p e below s _ _ _ (T53.setTop (mkF m 59 _ [(.ref r_59)]))
    have k_c0 := own_sp1 hb20
    have k_c3 := own_sp0 hb44
    have k_c2 := own_sp1 hb44_1
    exact own_retV w54 (t := (.object "java/lang/String")) rfl (own_narR rfl rfl) (Or.inr (Or.inr (Or.inr (Or.inr ⟨rfl, rfl, rfl⟩)))) own_d15_59 (by decide) (by decide) (ms' := []) all0 ⟨K, r_59, t2_60, kA_61, (3 : Int32), (own_sl ((([c0, c1, c2, c3] : List Int32).map (fun (c : Int32) => c.toInt8.toInt32)).map Value.int) 0 3), ([c0, c1, c2] : List Int32), rfl, rfl, E_r_59, F_r_59_coder, F_r_59_value, A_t2_60, (own_cod (cs := ([c0, c1, c2] : List Int32)) (n := 3) rfl (own_allS b0 (own_allS b1 (own_allS b2 own_all0)))), (own_up ([c0, c1, c2] : List Int32) (own_allS b0 (own_allS b1 (own_allS b2 own_all0)))), (Nat.le_of_ble_eq_true rfl), (by simp [own_trim, List.dropWhile, k_c0, k_c3, k_c2])⟩
   ·
    refine own_iinc (pc' := 50) w48 own_d15_47 rfl (y := (2 : Int32)) (by decide) (Ls' := #[.val (.ref tx), .val (.int (0 : Int32)), .val (.int (2 : Int32))]) rfl rfl ?_
    refine own_goto w48 own_d15_50 (by decide) (pc' := 29) rfl ?_
    refine own_iloadN (pc' := 30) w48 own_d15_29 rfl rfl ?_
    refine own_iloadN (pc' := 31) w48 own_d15_30 rfl rfl ?_
    refine own_icmp (pc' := 34) w48 own_d15_31 rfl (by decide) (pcY := 53) rfl (fun (hb31_2 : ¬ (0 : Int32) < (2 : Int32)) => absurd hb31_2 (by decide)) (fun (hb31_2 : (0 : Int32) < (2 : Int32)) => ?_)
    refine own_aloadN (pc' := 35) w48 own_d15_34 rfl rfl rfl ?_
    refine own_iloadN (pc' := 36) w48 own_d15_35 rfl rfl ?_
    refine own_iconst (pc' := 37) w48 own_d15_36 (x := (1 : Int32)) rfl rfl ?_
    refine own_isub (pc' := 38) w48 own_d15_37 (z := (1 : Int32)) (by decide) rfl ?_
    refine own_callVB (pc' := 41) w48 (kc := 0) (nc := 0) (own_w76 hw) (own_w77 hw) (fun s' hZ' => notFace_of_selects (args := #[]) (mvT hZ' (own_w79 hw))) (own_w79 hw) (own_w78 hw) (by decide) E_tx (QQ := fun v h' L => (v = some (.int c1)) ∧ L = [] ∧ h' = h0) (fun s' hZ' => StrChars.Road.chN (W := 0) hZ' (own_hwc hw) (kI := 4) (own_w6 hw) E_tx F_tx_value F_tx_coder A_t (own_cod (cs := ([c0, c1, c2, c3] : List Int32)) (n := 4) rfl (own_allS b0 (own_allS b1 (own_allS b2 (own_allS b3 own_all0))))) (own_up ([c0, c1, c2, c3] : List Int32) (own_allS b0 (own_allS b1 (own_allS b2 (own_allS b3 own_all0))))) (S_COMPACT_STRINGS.ext (own_old w48).2) P5 (S_SIOOBE_FORMATTER.ext (own_old w48).2) hfm (Nat.le_of_ble_eq_true rfl) (i := 1) (Nat.le_of_ble_eq_true rfl) rfl (by decide) (by decide)) (ws := []) all0 (fun v h' L q => ⟨q.2.2 ▸ Keep.refl _ _, q.2.1 ▸ Fr.nil _⟩) (argsL := [(.int (1 : Int32))]) (rest := []) rfl rfl own_pd11 rfl own_d15_38 rfl (Nat.le_of_eq rfl) (by decide) (by decide) fun T63 h65 v66 w64 K67 q68 => ?_
    obtain ⟨_, rfl, -, e69⟩ := q68
    rw [e69] at w64
    show own_Go Z EL n0 p e below s _ _ _ (T63.setTop (mkF m 41 _ [(.int c1)]))
    refine own_callS (pc' := 44) w64 (own_w96 hw) (own_w97 hw) (own_w28 hw) (own_w98 hw) (by decide) (own_ct_isSp l Z a0 hw EL hE n0 [] h0 (own_old w64) c1 ) all0 (argsL := [(.int c1)]) (rest := []) rfl rfl own_pd12 rfl own_d15_41 rfl (by decide) (W := 0) rfl (by decide) (by decide) (by decide) fun T70 h72 v73 ms74 w71 q75 => ?_
    obtain ⟨rfl, rfl, rfl⟩ := q75
    show own_Go Z EL n0 p e below s _ _ _ (T70.setTop (mkF m 44 _ [(.int (if own_sp c1 then 1 else 0))]))
    refine own_if (pc' := 47) w71 own_d15_44 rfl (by decide) (pcY := 53) rfl (fun (hb44_2 : (if own_sp c1 then 1 else 0) = (0 : Int32)) => ?_) (fun (hb44_2 : ¬ (if own_sp c1 then 1 else 0) = (0 : Int32)) => ?_)
    ·
     refine own_aloadN (pc' := 54) w71 own_d15_53 rfl rfl rfl ?_
     refine own_iloadN (pc' := 55) w71 own_d15_54 rfl rfl ?_
     refine own_iloadN (pc' := 56) w71 own_d15_55 rfl rfl ?_
     refine own_callV (pc' := 59) w71 (own_w41 hw) (own_w42 hw) (fun s' hZ' => notFace_of_selects (args := #[]) (mvT hZ' (own_w44 hw))) (own_w44 hw) (own_w43 hw) (own_w7 hw) (own_w45 hw) (by decide) E_tx (own_ct_subC l Z a0 hw EL hE n0 [] h0 (own_old w71) tx (0 : Int32) (2 : Int32) t kb (4 : Int32) ((([c0, c1, c2, c3] : List Int32).map (fun (c : Int32) => c.toInt8.toInt32)).map Value.int) ([c0, c1, c2, c3] : List Int32) (2 : Int32) 0 2 z5 fm E_tx F_tx_coder F_tx_value A_t ((own_cod (cs := ([c0, c1, c2, c3] : List Int32)) (n := 4) rfl (own_allS b0 (own_allS b1 (own_allS b2 (own_allS b3 own_all0)))))) (own_up ([c0, c1, c2, c3] : List Int32) (own_allS b0 (own_allS b1 (own_allS b2 (own_allS b3 own_all0))))) ((Nat.le_of_ble_eq_true rfl)) S_COMPACT_STRINGS (P5) S_SIOOBE_FORMATTER (hfm) (by decide) (rfl) (by decide) (by decide) (by decide)) all0 (argsL := [(.int (0 : Int32)), (.int (2 : Int32))]) (rest := []) rfl rfl own_pd10 rfl own_d15_56 rfl (by decide) (W := 0) rfl (by decide) (by decide) (by decide) fun T76 h78 v79 ms80 w77 q81 => ?_
     obtain ⟨K85, r_82, t2_83, kA_84, rfl, rfl, nw_E_r_82, nw_F_r_82_coder, nw_F_r_82_value, nw_A_t2_83, p56_subC_0⟩ := q81
     have ne_t_r_82 : t ≠ r_82 := Nat.ne_of_lt (Nat.lt_of_lt_of_le A_t.lt p56_subC_0)
     have ne_tx_r_82 : tx ≠ r_82 := Nat.ne_of_lt (Nat.lt_of_lt_of_le E_tx.lt p56_subC_0)
     have nw_r_82 : h0.size ≤ r_82 := Nat.le_trans K.1 p56_subC_0
     replace E_tx := E_tx.keep K85
     replace F_tx_coder := F_tx_coder.keep K85 nin0
     replace F_tx_value := F_tx_value.keep K85 nin0
     replace A_t := A_t.keep K85 nin0
     replace K := K.trans K85 all0
     have E_r_82 := nw_E_r_82; clear nw_E_r_82
     have F_r_82_coder := nw_F_r_82_coder; clear nw_F_r_82_coder
     have F_r_82_value := nw_F_r_82_value; clear nw_F_r_82_value
     have A_t2_83 := nw_A_t2_83; clear nw_A_t2_83
     show own_Go Z EL n0 p e below s _ _ _ (T76.setTop (mkF m 59 _ [(.ref r_82)]))
     have k_c0 := own_sp1 hb20
     have k_c3 := own_sp0 hb44
     have k_c2 := own_sp0 hb44_1
     have k_c1 := own_sp1 hb44_2
     exact own_retV w77 (t := (.object "java/lang/String")) rfl (own_narR rfl rfl) (Or.inr (Or.inr (Or.inr (Or.inr ⟨rfl, rfl, rfl⟩)))) own_d15_59 (by decide) (by decide) (ms' := []) all0 ⟨K, r_82, t2_83, kA_84, (2 : Int32), (own_sl ((([c0, c1, c2, c3] : List Int32).map (fun (c : Int32) => c.toInt8.toInt32)).map Value.int) 0 2), ([c0, c1] : List Int32), rfl, rfl, E_r_82, F_r_82_coder, F_r_82_value, A_t2_83, (own_cod (cs := ([c0, c1] : List Int32)) (n := 2) rfl (own_allS b0 (own_allS b1 own_all0))), (own_up ([c0, c1] : List Int32) (own_allS b0 (own_allS b1 own_all0))), (Nat.le_of_ble_eq_true rfl), (by simp [own_trim, List.dropWhile, k_c0, k_c3, k_c2, k_c1])⟩
    ·
     refine own_iinc (pc' := 50) w71 own_d15_47 rfl (y := (1 : Int32)) (by decide) (Ls' := #[.val (.ref tx), .val (.int (0 : Int32)), .val (.int (1 : Int32))]) rfl rfl ?_
     refine own_goto w71 own_d15_50 (by decide) (pc' := 29) rfl ?_
     refine own_iloadN (pc' := 30) w71 own_d15_29 rfl rfl ?_
     refine own_iloadN (pc' := 31) w71 own_d15_30 rfl rfl ?_
     refine own_icmp (pc' := 34) w71 own_d15_31 rfl (by decide) (pcY := 53) rfl (fun (hb31_3 : ¬ (0 : Int32) < (1 : Int32)) => absurd hb31_3 (by decide)) (fun (hb31_3 : (0 : Int32) < (1 : Int32)) => ?_)
     refine own_aloadN (pc' := 35) w71 own_d15_34 rfl rfl rfl ?_
     refine own_iloadN (pc' := 36) w71 own_d15_35 rfl rfl ?_
     refine own_iconst (pc' := 37) w71 own_d15_36 (x := (1 : Int32)) rfl rfl ?_
     refine own_isub (pc' := 38) w71 own_d15_37 (z := (0 : Int32)) (by decide) rfl ?_
     refine own_callVB (pc' := 41) w71 (kc := 0) (nc := 0) (own_w76 hw) (own_w77 hw) (fun s' hZ' => notFace_of_selects (args := #[]) (mvT hZ' (own_w79 hw))) (own_w79 hw) (own_w78 hw) (by decide) E_tx (QQ := fun v h' L => (v = some (.int c0)) ∧ L = [] ∧ h' = h0) (fun s' hZ' => StrChars.Road.chN (W := 0) hZ' (own_hwc hw) (kI := 4) (own_w6 hw) E_tx F_tx_value F_tx_coder A_t (own_cod (cs := ([c0, c1, c2, c3] : List Int32)) (n := 4) rfl (own_allS b0 (own_allS b1 (own_allS b2 (own_allS b3 own_all0))))) (own_up ([c0, c1, c2, c3] : List Int32) (own_allS b0 (own_allS b1 (own_allS b2 (own_allS b3 own_all0))))) (S_COMPACT_STRINGS.ext (own_old w71).2) P5 (S_SIOOBE_FORMATTER.ext (own_old w71).2) hfm (Nat.le_of_ble_eq_true rfl) (i := 0) (Nat.le_of_ble_eq_true rfl) rfl (by decide) (by decide)) (ws := []) all0 (fun v h' L q => ⟨q.2.2 ▸ Keep.refl _ _, q.2.1 ▸ Fr.nil _⟩) (argsL := [(.int (0 : Int32))]) (rest := []) rfl rfl own_pd11 rfl own_d15_38 rfl (Nat.le_of_eq rfl) (by decide) (by decide) fun T86 h88 v89 w87 K90 q91 => ?_
     obtain ⟨_, rfl, -, e92⟩ := q91
     rw [e92] at w87
     show own_Go Z EL n0 p e below s _ _ _ (T86.setTop (mkF m 41 _ [(.int c0)]))
     refine own_callS (pc' := 44) w87 (own_w96 hw) (own_w97 hw) (own_w28 hw) (own_w98 hw) (by decide) (own_ct_isSp l Z a0 hw EL hE n0 [] h0 (own_old w87) c0 ) all0 (argsL := [(.int c0)]) (rest := []) rfl rfl own_pd12 rfl own_d15_41 rfl (by decide) (W := 0) rfl (by decide) (by decide) (by decide) fun T93 h95 v96 ms97 w94 q98 => ?_
     obtain ⟨rfl, rfl, rfl⟩ := q98
     show own_Go Z EL n0 p e below s _ _ _ (T93.setTop (mkF m 44 _ [(.int (if own_sp c0 then 1 else 0))]))
     refine own_if (pc' := 47) w94 own_d15_44 rfl (by decide) (pcY := 53) rfl (fun (hb44_3 : (if own_sp c0 then 1 else 0) = (0 : Int32)) => ?_) (fun (hb44_3 : ¬ (if own_sp c0 then 1 else 0) = (0 : Int32)) => absurd hb20 hb44_3)
     refine own_aloadN (pc' := 54) w94 own_d15_53 rfl rfl rfl ?_
     refine own_iloadN (pc' := 55) w94 own_d15_54 rfl rfl ?_
     refine own_iloadN (pc' := 56) w94 own_d15_55 rfl rfl ?_
     refine own_callV (pc' := 59) w94 (own_w41 hw) (own_w42 hw) (fun s' hZ' => notFace_of_selects (args := #[]) (mvT hZ' (own_w44 hw))) (own_w44 hw) (own_w43 hw) (own_w7 hw) (own_w45 hw) (by decide) E_tx (own_ct_subC l Z a0 hw EL hE n0 [] h0 (own_old w94) tx (0 : Int32) (1 : Int32) t kb (4 : Int32) ((([c0, c1, c2, c3] : List Int32).map (fun (c : Int32) => c.toInt8.toInt32)).map Value.int) ([c0, c1, c2, c3] : List Int32) (1 : Int32) 0 1 z5 fm E_tx F_tx_coder F_tx_value A_t ((own_cod (cs := ([c0, c1, c2, c3] : List Int32)) (n := 4) rfl (own_allS b0 (own_allS b1 (own_allS b2 (own_allS b3 own_all0)))))) (own_up ([c0, c1, c2, c3] : List Int32) (own_allS b0 (own_allS b1 (own_allS b2 (own_allS b3 own_all0))))) ((Nat.le_of_ble_eq_true rfl)) S_COMPACT_STRINGS (P5) S_SIOOBE_FORMATTER (hfm) (by decide) (rfl) (by decide) (by decide) (by decide)) all0 (argsL := [(.int (0 : Int32)), (.int (1 : Int32))]) (rest := []) rfl rfl own_pd10 rfl own_d15_56 rfl (by decide) (W := 0) rfl (by decide) (by decide) (by decide) fun T99 h101 v102 ms103 w100 q104 => ?_
     obtain ⟨K108, r_105, t2_106, kA_107, rfl, rfl, nw_E_r_105, nw_F_r_105_coder, nw_F_r_105_value, nw_A_t2_106, p56_subC_0⟩ := q104
     have ne_t_r_105 : t ≠ r_105 := Nat.ne_of_lt (Nat.lt_of_lt_of_le A_t.lt p56_subC_0)
     have ne_tx_r_105 : tx ≠ r_105 := Nat.ne_of_lt (Nat.lt_of_lt_of_le E_tx.lt p56_subC_0)
     have nw_r_105 : h0.size ≤ r_105 := Nat.le_trans K.1 p56_subC_0
     replace E_tx := E_tx.keep K108
     replace F_tx_coder := F_tx_coder.keep K108 nin0
     replace F_tx_value := F_tx_value.keep K108 nin0
     replace A_t := A_t.keep K108 nin0
     replace K := K.trans K108 all0
     have E_r_105 := nw_E_r_105; clear nw_E_r_105
     have F_r_105_coder := nw_F_r_105_coder; clear nw_F_r_105_coder
     have F_r_105_value := nw_F_r_105_value; clear nw_F_r_105_value
     have A_t2_106 := nw_A_t2_106; clear nw_A_t2_106
     show own_Go Z EL n0 p e below s _ _ _ (T99.setTop (mkF m 59 _ [(.ref r_105)]))
     have k_c0 := own_sp1 hb20
     have k_c3 := own_sp0 hb44
     have k_c2 := own_sp0 hb44_1
     have k_c1 := own_sp0 hb44_2
     exact own_retV w100 (t := (.object "java/lang/String")) rfl (own_narR rfl rfl) (Or.inr (Or.inr (Or.inr (Or.inr ⟨rfl, rfl, rfl⟩)))) own_d15_59 (by decide) (by decide) (ms' := []) all0 ⟨K, r_105, t2_106, kA_107, (1 : Int32), (own_sl ((([c0, c1, c2, c3] : List Int32).map (fun (c : Int32) => c.toInt8.toInt32)).map Value.int) 0 1), ([c0] : List Int32), rfl, rfl, E_r_105, F_r_105_coder, F_r_105_value, A_t2_106, (own_cod (cs := ([c0] : List Int32)) (n := 1) rfl (own_allS b0 own_all0)), (own_up ([c0] : List Int32) (own_allS b0 own_all0)), (Nat.le_of_ble_eq_true rfl), (by simp [own_trim, List.dropWhile, k_c0, k_c3, k_c2, k_c1])⟩
 ·
  refine own_iinc (pc' := 26) w16 own_d15_23 rfl (y := (1 : Int32)) (by decide) (Ls' := #[.val (.ref tx), .val (.int (1 : Int32)), .val (.int (4 : Int32))]) rfl rfl ?_
  refine own_goto w16 own_d15_26 (by decide) (pc' := 7) rfl ?_
  refine own_iloadN (pc' := 8) w16 own_d15_7 rfl rfl ?_
  refine own_iloadN (pc' := 9) w16 own_d15_8 rfl rfl ?_
  refine own_icmp (pc' := 12) w16 own_d15_9 rfl (by decide) (pcY := 29) rfl (fun (hb9_1 : ¬ (1 : Int32) < (4 : Int32)) => absurd hb9_1 (by decide)) (fun (hb9_1 : (1 : Int32) < (4 : Int32)) => ?_)
  refine own_aloadN (pc' := 13) w16 own_d15_12 rfl rfl rfl ?_
  refine own_iloadN (pc' := 14) w16 own_d15_13 rfl rfl ?_
  refine own_callVB (pc' := 17) w16 (kc := 0) (nc := 0) (own_w76 hw) (own_w77 hw) (fun s' hZ' => notFace_of_selects (args := #[]) (mvT hZ' (own_w79 hw))) (own_w79 hw) (own_w78 hw) (by decide) E_tx (QQ := fun v h' L => (v = some (.int c1)) ∧ L = [] ∧ h' = h0) (fun s' hZ' => StrChars.Road.chN (W := 0) hZ' (own_hwc hw) (kI := 4) (own_w6 hw) E_tx F_tx_value F_tx_coder A_t (own_cod (cs := ([c0, c1, c2, c3] : List Int32)) (n := 4) rfl (own_allS b0 (own_allS b1 (own_allS b2 (own_allS b3 own_all0))))) (own_up ([c0, c1, c2, c3] : List Int32) (own_allS b0 (own_allS b1 (own_allS b2 (own_allS b3 own_all0))))) (S_COMPACT_STRINGS.ext (own_old w16).2) P5 (S_SIOOBE_FORMATTER.ext (own_old w16).2) hfm (Nat.le_of_ble_eq_true rfl) (i := 1) (Nat.le_of_ble_eq_true rfl) rfl (by decide) (by decide)) (ws := []) all0 (fun v h' L q => ⟨q.2.2 ▸ Keep.refl _ _, q.2.1 ▸ Fr.nil _⟩) (argsL := [(.int (1 : Int32))]) (rest := []) rfl rfl own_pd11 rfl own_d15_14 rfl (Nat.le_of_eq rfl) (by decide) (by decide) fun T109 h111 v112 w110 K113 q114 => ?_
  obtain ⟨_, rfl, -, e115⟩ := q114
  rw [e115] at w110
  show own_Go Z EL n0 p e below s _ _ _ (T109.setTop (mkF m 17 _ [(.int c1)]))
  refine own_callS (pc' := 20) w110 (own_w96 hw) (own_w97 hw) (own_w28 hw) (own_w98 hw) (by decide) (own_ct_isSp l Z a0 hw EL hE n0 [] h0 (own_old w110) c1 ) all0 (argsL := [(.int c1)]) (rest := []) rfl rfl own_pd12 rfl own_d15_17 rfl (by decide) (W := 0) rfl (by decide) (by decide) (by decide) fun T116 h118 v119 ms120 w117 q121 => ?_
  obtain ⟨rfl, rfl, rfl⟩ := q121
  show own_Go Z EL n0 p e below s _ _ _ (T116.setTop (mkF m 20 _ [(.int (if own_sp c1 then 1 else 0))]))
  refine own_if (pc' := 23) w117 own_d15_20 rfl (by decide) (pcY := 29) rfl (fun (hb20_1 : (if own_sp c1 then 1 else 0) = (0 : Int32)) => ?_) (fun (hb20_1 : ¬ (if own_sp c1 then 1 else 0) = (0 : Int32)) => ?_)
  ·
   refine own_iloadN (pc' := 30) w117 own_d15_29 rfl rfl ?_
   refine own_iloadN (pc' := 31) w117 own_d15_30 rfl rfl ?_
   refine own_icmp (pc' := 34) w117 own_d15_31 rfl (by decide) (pcY := 53) rfl (fun (hb31 : ¬ (1 : Int32) < (4 : Int32)) => absurd hb31 (by decide)) (fun (hb31 : (1 : Int32) < (4 : Int32)) => ?_)
   refine own_aloadN (pc' := 35) w117 own_d15_34 rfl rfl rfl ?_
   refine own_iloadN (pc' := 36) w117 own_d15_35 rfl rfl ?_
   refine own_iconst (pc' := 37) w117 own_d15_36 (x := (1 : Int32)) rfl rfl ?_
   refine own_isub (pc' := 38) w117 own_d15_37 (z := (3 : Int32)) (by decide) rfl ?_
   refine own_callVB (pc' := 41) w117 (kc := 0) (nc := 0) (own_w76 hw) (own_w77 hw) (fun s' hZ' => notFace_of_selects (args := #[]) (mvT hZ' (own_w79 hw))) (own_w79 hw) (own_w78 hw) (by decide) E_tx (QQ := fun v h' L => (v = some (.int c3)) ∧ L = [] ∧ h' = h0) (fun s' hZ' => StrChars.Road.chN (W := 0) hZ' (own_hwc hw) (kI := 4) (own_w6 hw) E_tx F_tx_value F_tx_coder A_t (own_cod (cs := ([c0, c1, c2, c3] : List Int32)) (n := 4) rfl (own_allS b0 (own_allS b1 (own_allS b2 (own_allS b3 own_all0))))) (own_up ([c0, c1, c2, c3] : List Int32) (own_allS b0 (own_allS b1 (own_allS b2 (own_allS b3 own_all0))))) (S_COMPACT_STRINGS.ext (own_old w117).2) P5 (S_SIOOBE_FORMATTER.ext (own_old w117).2) hfm (Nat.le_of_ble_eq_true rfl) (i := 3) (Nat.le_of_ble_eq_true rfl) rfl (by decide) (by decide)) (ws := []) all0 (fun v h' L q => ⟨q.2.2 ▸ Keep.refl _ _, q.2.1 ▸ Fr.nil _⟩) (argsL := [(.int (3 : Int32))]) (rest := []) rfl rfl own_pd11 rfl own_d15_38 rfl (Nat.le_of_eq rfl) (by decide) (by decide) fun T122 h124 v125 w123 K126 q127 => ?_
   obtain ⟨_, rfl, -, e128⟩ := q127
   rw [e128] at w123
   show own_Go Z EL n0 p e below s _ _ _ (T122.setTop (mkF m 41 _ [(.int c3)]))
   refine own_callS (pc' := 44) w123 (own_w96 hw) (own_w97 hw) (own_w28 hw) (own_w98 hw) (by decide) (own_ct_isSp l Z a0 hw EL hE n0 [] h0 (own_old w123) c3 ) all0 (argsL := [(.int c3)]) (rest := []) rfl rfl own_pd12 rfl own_d15_41 rfl (by decide) (W := 0) rfl (by decide) (by decide) (by decide) fun T129 h131 v132 ms133 w130 q134 => ?_
   obtain ⟨rfl, rfl, rfl⟩ := q134
   show own_Go Z EL n0 p e below s _ _ _ (T129.setTop (mkF m 44 _ [(.int (if own_sp c3 then 1 else 0))]))
   refine own_if (pc' := 47) w130 own_d15_44 rfl (by decide) (pcY := 53) rfl (fun (hb44 : (if own_sp c3 then 1 else 0) = (0 : Int32)) => ?_) (fun (hb44 : ¬ (if own_sp c3 then 1 else 0) = (0 : Int32)) => ?_)
   ·
    refine own_aloadN (pc' := 54) w130 own_d15_53 rfl rfl rfl ?_
    refine own_iloadN (pc' := 55) w130 own_d15_54 rfl rfl ?_
    refine own_iloadN (pc' := 56) w130 own_d15_55 rfl rfl ?_
    refine own_callV (pc' := 59) w130 (own_w41 hw) (own_w42 hw) (fun s' hZ' => notFace_of_selects (args := #[]) (mvT hZ' (own_w44 hw))) (own_w44 hw) (own_w43 hw) (own_w7 hw) (own_w45 hw) (by decide) E_tx (own_ct_subC l Z a0 hw EL hE n0 [] h0 (own_old w130) tx (1 : Int32) (4 : Int32) t kb (4 : Int32) ((([c0, c1, c2, c3] : List Int32).map (fun (c : Int32) => c.toInt8.toInt32)).map Value.int) ([c0, c1, c2, c3] : List Int32) (3 : Int32) 1 3 z5 fm E_tx F_tx_coder F_tx_value A_t ((own_cod (cs := ([c0, c1, c2, c3] : List Int32)) (n := 4) rfl (own_allS b0 (own_allS b1 (own_allS b2 (own_allS b3 own_all0)))))) (own_up ([c0, c1, c2, c3] : List Int32) (own_allS b0 (own_allS b1 (own_allS b2 (own_allS b3 own_all0))))) ((Nat.le_of_ble_eq_true rfl)) S_COMPACT_STRINGS (P5) S_SIOOBE_FORMATTER (hfm) (by decide) (rfl) (by decide) (by decide) (by decide)) all0 (argsL := [(.int (1 : Int32)), (.int (4 : Int32))]) (rest := []) rfl rfl own_pd10 rfl own_d15_56 rfl (by decide) (W := 0) rfl (by decide) (by decide) (by decide) fun T135 h137 v138 ms139 w136 q140 => ?_
    obtain ⟨K144, r_141, t2_142, kA_143, rfl, rfl, nw_E_r_141, nw_F_r_141_coder, nw_F_r_141_value, nw_A_t2_142, p56_subC_0⟩ := q140
    have ne_t_r_141 : t ≠ r_141 := Nat.ne_of_lt (Nat.lt_of_lt_of_le A_t.lt p56_subC_0)
    have ne_tx_r_141 : tx ≠ r_141 := Nat.ne_of_lt (Nat.lt_of_lt_of_le E_tx.lt p56_subC_0)
    have nw_r_141 : h0.size ≤ r_141 := Nat.le_trans K.1 p56_subC_0
    replace E_tx := E_tx.keep K144
    replace F_tx_coder := F_tx_coder.keep K144 nin0
    replace F_tx_value := F_tx_value.keep K144 nin0
    replace A_t := A_t.keep K144 nin0
    replace K := K.trans K144 all0
    have E_r_141 := nw_E_r_141; clear nw_E_r_141
    have F_r_141_coder := nw_F_r_141_coder; clear nw_F_r_141_coder
    have F_r_141_value := nw_F_r_141_value; clear nw_F_r_141_value
    have A_t2_142 := nw_A_t2_142; clear nw_A_t2_142
    show own_Go Z EL n0 p e below s _ _ _ (T135.setTop (mkF m 59 _ [(.ref r_141)]))
    have k_c0 := own_sp0 hb20
    have k_c1 := own_sp1 hb20_1
    have k_c3 := own_sp1 hb44
    exact own_retV w136 (t := (.object "java/lang/String")) rfl (own_narR rfl rfl) (Or.inr (Or.inr (Or.inr (Or.inr ⟨rfl, rfl, rfl⟩)))) own_d15_59 (by decide) (by decide) (ms' := []) all0 ⟨K, r_141, t2_142, kA_143, (3 : Int32), (own_sl ((([c0, c1, c2, c3] : List Int32).map (fun (c : Int32) => c.toInt8.toInt32)).map Value.int) 1 3), ([c1, c2, c3] : List Int32), rfl, rfl, E_r_141, F_r_141_coder, F_r_141_value, A_t2_142, (own_cod (cs := ([c1, c2, c3] : List Int32)) (n := 3) rfl (own_allS b1 (own_allS b2 (own_allS b3 own_all0)))), (own_up ([c1, c2, c3] : List Int32) (own_allS b1 (own_allS b2 (own_allS b3 own_all0)))), (Nat.le_of_ble_eq_true rfl), (by simp [own_trim, List.dropWhile, k_c0, k_c1, k_c3])⟩
   ·
    refine own_iinc (pc' := 50) w130 own_d15_47 rfl (y := (3 : Int32)) (by decide) (Ls' := #[.val (.ref tx), .val (.int (1 : Int32)), .val (.int (3 : Int32))]) rfl rfl ?_
    refine own_goto w130 own_d15_50 (by decide) (pc' := 29) rfl ?_
    refine own_iloadN (pc' := 30) w130 own_d15_29 rfl rfl ?_
    refine own_iloadN (pc' := 31) w130 own_d15_30 rfl rfl ?_
    refine own_icmp (pc' := 34) w130 own_d15_31 rfl (by decide) (pcY := 53) rfl (fun (hb31_1 : ¬ (1 : Int32) < (3 : Int32)) => absurd hb31_1 (by decide)) (fun (hb31_1 : (1 : Int32) < (3 : Int32)) => ?_)
    refine own_aloadN (pc' := 35) w130 own_d15_34 rfl rfl rfl ?_
    refine own_iloadN (pc' := 36) w130 own_d15_35 rfl rfl ?_
    refine own_iconst (pc' := 37) w130 own_d15_36 (x := (1 : Int32)) rfl rfl ?_
    refine own_isub (pc' := 38) w130 own_d15_37 (z := (2 : Int32)) (by decide) rfl ?_
    refine own_callVB (pc' := 41) w130 (kc := 0) (nc := 0) (own_w76 hw) (own_w77 hw) (fun s' hZ' => notFace_of_selects (args := #[]) (mvT hZ' (own_w79 hw))) (own_w79 hw) (own_w78 hw) (by decide) E_tx (QQ := fun v h' L => (v = some (.int c2)) ∧ L = [] ∧ h' = h0) (fun s' hZ' => StrChars.Road.chN (W := 0) hZ' (own_hwc hw) (kI := 4) (own_w6 hw) E_tx F_tx_value F_tx_coder A_t (own_cod (cs := ([c0, c1, c2, c3] : List Int32)) (n := 4) rfl (own_allS b0 (own_allS b1 (own_allS b2 (own_allS b3 own_all0))))) (own_up ([c0, c1, c2, c3] : List Int32) (own_allS b0 (own_allS b1 (own_allS b2 (own_allS b3 own_all0))))) (S_COMPACT_STRINGS.ext (own_old w130).2) P5 (S_SIOOBE_FORMATTER.ext (own_old w130).2) hfm (Nat.le_of_ble_eq_true rfl) (i := 2) (Nat.le_of_ble_eq_true rfl) rfl (by decide) (by decide)) (ws := []) all0 (fun v h' L q => ⟨q.2.2 ▸ Keep.refl _ _, q.2.1 ▸ Fr.nil _⟩) (argsL := [(.int (2 : Int32))]) (rest := []) rfl rfl own_pd11 rfl own_d15_38 rfl (Nat.le_of_eq rfl) (by decide) (by decide) fun T145 h147 v148 w146 K149 q150 => ?_
    obtain ⟨_, rfl, -, e151⟩ := q150
    rw [e151] at w146
    show own_Go Z EL n0 p e below s _ _ _ (T145.setTop (mkF m 41 _ [(.int c2)]))
    refine own_callS (pc' := 44) w146 (own_w96 hw) (own_w97 hw) (own_w28 hw) (own_w98 hw) (by decide) (own_ct_isSp l Z a0 hw EL hE n0 [] h0 (own_old w146) c2 ) all0 (argsL := [(.int c2)]) (rest := []) rfl rfl own_pd12 rfl own_d15_41 rfl (by decide) (W := 0) rfl (by decide) (by decide) (by decide) fun T152 h154 v155 ms156 w153 q157 => ?_
    obtain ⟨rfl, rfl, rfl⟩ := q157
    show own_Go Z EL n0 p e below s _ _ _ (T152.setTop (mkF m 44 _ [(.int (if own_sp c2 then 1 else 0))]))
    refine own_if (pc' := 47) w153 own_d15_44 rfl (by decide) (pcY := 53) rfl (fun (hb44_1 : (if own_sp c2 then 1 else 0) = (0 : Int32)) => ?_) (fun (hb44_1 : ¬ (if own_sp c2 then 1 else 0) = (0 : Int32)) => ?_)
    ·
     refine own_aloadN (pc' := 54) w153 own_d15_53 rfl rfl rfl ?_
     refine own_iloadN (pc' := 55) w153 own_d15_54 rfl rfl ?_
     refine own_iloadN (pc' := 56) w153 own_d15_55 rfl rfl ?_
     refine own_callV (pc' := 59) w153 (own_w41 hw) (own_w42 hw) (fun s' hZ' => notFace_of_selects (args := #[]) (mvT hZ' (own_w44 hw))) (own_w44 hw) (own_w43 hw) (own_w7 hw) (own_w45 hw) (by decide) E_tx (own_ct_subC l Z a0 hw EL hE n0 [] h0 (own_old w153) tx (1 : Int32) (3 : Int32) t kb (4 : Int32) ((([c0, c1, c2, c3] : List Int32).map (fun (c : Int32) => c.toInt8.toInt32)).map Value.int) ([c0, c1, c2, c3] : List Int32) (2 : Int32) 1 2 z5 fm E_tx F_tx_coder F_tx_value A_t ((own_cod (cs := ([c0, c1, c2, c3] : List Int32)) (n := 4) rfl (own_allS b0 (own_allS b1 (own_allS b2 (own_allS b3 own_all0)))))) (own_up ([c0, c1, c2, c3] : List Int32) (own_allS b0 (own_allS b1 (own_allS b2 (own_allS b3 own_all0))))) ((Nat.le_of_ble_eq_true rfl)) S_COMPACT_STRINGS (P5) S_SIOOBE_FORMATTER (hfm) (by decide) (rfl) (by decide) (by decide) (by decide)) all0 (argsL := [(.int (1 : Int32)), (.int (3 : Int32))]) (rest := []) rfl rfl own_pd10 rfl own_d15_56 rfl (by decide) (W := 0) rfl (by decide) (by decide) (by decide) fun T158 h160 v161 ms162 w159 q163 => ?_
     obtain ⟨K167, r_164, t2_165, kA_166, rfl, rfl, nw_E_r_164, nw_F_r_164_coder, nw_F_r_164_value, nw_A_t2_165, p56_subC_0⟩ := q163
     have ne_t_r_164 : t ≠ r_164 := Nat.ne_of_lt (Nat.lt_of_lt_of_le A_t.lt p56_subC_0)
     have ne_tx_r_164 : tx ≠ r_164 := Nat.ne_of_lt (Nat.lt_of_lt_of_le E_tx.lt p56_subC_0)
     have nw_r_164 : h0.size ≤ r_164 := Nat.le_trans K.1 p56_subC_0
     replace E_tx := E_tx.keep K167
     replace F_tx_coder := F_tx_coder.keep K167 nin0
     replace F_tx_value := F_tx_value.keep K167 nin0
     replace A_t := A_t.keep K167 nin0
     replace K := K.trans K167 all0
     have E_r_164 := nw_E_r_164; clear nw_E_r_164
     have F_r_164_coder := nw_F_r_164_coder; clear nw_F_r_164_coder
     have F_r_164_value := nw_F_r_164_value; clear nw_F_r_164_value
     have A_t2_165 := nw_A_t2_165; clear nw_A_t2_165
     show own_Go Z EL n0 p e below s _ _ _ (T158.setTop (mkF m 59 _ [(.ref r_164)]))
     have k_c0 := own_sp0 hb20
     have k_c1 := own_sp1 hb20_1
     have k_c3 := own_sp0 hb44
     have k_c2 := own_sp1 hb44_1
     exact own_retV w159 (t := (.object "java/lang/String")) rfl (own_narR rfl rfl) (Or.inr (Or.inr (Or.inr (Or.inr ⟨rfl, rfl, rfl⟩)))) own_d15_59 (by decide) (by decide) (ms' := []) all0 ⟨K, r_164, t2_165, kA_166, (2 : Int32), (own_sl ((([c0, c1, c2, c3] : List Int32).map (fun (c : Int32) => c.toInt8.toInt32)).map Value.int) 1 2), ([c1, c2] : List Int32), rfl, rfl, E_r_164, F_r_164_coder, F_r_164_value, A_t2_165, (own_cod (cs := ([c1, c2] : List Int32)) (n := 2) rfl (own_allS b1 (own_allS b2 own_all0))), (own_up ([c1, c2] : List Int32) (own_allS b1 (own_allS b2 own_all0))), (Nat.le_of_ble_eq_true rfl), (by simp [own_trim, List.dropWhile, k_c0, k_c1, k_c3, k_c2])⟩
    ·
     refine own_iinc (pc' := 50) w153 own_d15_47 rfl (y := (2 : Int32)) (by decide) (Ls' := #[.val (.ref tx), .val (.int (1 : Int32)), .val (.int (2 : Int32))]) rfl rfl ?_
     refine own_goto w153 own_d15_50 (by decide) (pc' := 29) rfl ?_
     refine own_iloadN (pc' := 30) w153 own_d15_29 rfl rfl ?_
     refine own_iloadN (pc' := 31) w153 own_d15_30 rfl rfl ?_
     refine own_icmp (pc' := 34) w153 own_d15_31 rfl (by decide) (pcY := 53) rfl (fun (hb31_2 : ¬ (1 : Int32) < (2 : Int32)) => absurd hb31_2 (by decide)) (fun (hb31_2 : (1 : Int32) < (2 : Int32)) => ?_)
     refine own_aloadN (pc' := 35) w153 own_d15_34 rfl rfl rfl ?_
     refine own_iloadN (pc' := 36) w153 own_d15_35 rfl rfl ?_
     refine own_iconst (pc' := 37) w153 own_d15_36 (x := (1 : Int32)) rfl rfl ?_
     refine own_isub (pc' := 38) w153 own_d15_37 (z := (1 : Int32)) (by decide) rfl ?_
     refine own_callVB (pc' := 41) w153 (kc := 0) (nc := 0) (own_w76 hw) (own_w77 hw) (fun s' hZ' => notFace_of_selects (args := #[]) (mvT hZ' (own_w79 hw))) (own_w79 hw) (own_w78 hw) (by decide) E_tx (QQ := fun v h' L => (v = some (.int c1)) ∧ L = [] ∧ h' = h0) (fun s' hZ' => StrChars.Road.chN (W := 0) hZ' (own_hwc hw) (kI := 4) (own_w6 hw) E_tx F_tx_value F_tx_coder A_t (own_cod (cs := ([c0, c1, c2, c3] : List Int32)) (n := 4) rfl (own_allS b0 (own_allS b1 (own_allS b2 (own_allS b3 own_all0))))) (own_up ([c0, c1, c2, c3] : List Int32) (own_allS b0 (own_allS b1 (own_allS b2 (own_allS b3 own_all0))))) (S_COMPACT_STRINGS.ext (own_old w153).2) P5 (S_SIOOBE_FORMATTER.ext (own_old w153).2) hfm (Nat.le_of_ble_eq_true rfl) (i := 1) (Nat.le_of_ble_eq_true rfl) rfl (by decide) (by decide)) (ws := []) all0 (fun v h' L q => ⟨q.2.2 ▸ Keep.refl _ _, q.2.1 ▸ Fr.nil _⟩) (argsL := [(.int (1 : Int32))]) (rest := []) rfl rfl own_pd11 rfl own_d15_38 rfl (Nat.le_of_eq rfl) (by decide) (by decide) fun T168 h170 v171 w169 K172 q173 => ?_
     obtain ⟨_, rfl, -, e174⟩ := q173
     rw [e174] at w169
     show own_Go Z EL n0 p e below s _ _ _ (T168.setTop (mkF m 41 _ [(.int c1)]))
     refine own_callS (pc' := 44) w169 (own_w96 hw) (own_w97 hw) (own_w28 hw) (own_w98 hw) (by decide) (own_ct_isSp l Z a0 hw EL hE n0 [] h0 (own_old w169) c1 ) all0 (argsL := [(.int c1)]) (rest := []) rfl rfl own_pd12 rfl own_d15_41 rfl (by decide) (W := 0) rfl (by decide) (by decide) (by decide) fun T175 h177 v178 ms179 w176 q180 => ?_
     obtain ⟨rfl, rfl, rfl⟩ := q180
     show own_Go Z EL n0 p e below s _ _ _ (T175.setTop (mkF m 44 _ [(.int (if own_sp c1 then 1 else 0))]))
     refine own_if (pc' := 47) w176 own_d15_44 rfl (by decide) (pcY := 53) rfl (fun (hb44_2 : (if own_sp c1 then 1 else 0) = (0 : Int32)) => ?_) (fun (hb44_2 : ¬ (if own_sp c1 then 1 else 0) = (0 : Int32)) => absurd hb20_1 hb44_2)
     refine own_aloadN (pc' := 54) w176 own_d15_53 rfl rfl rfl ?_
     refine own_iloadN (pc' := 55) w176 own_d15_54 rfl rfl ?_
     refine own_iloadN (pc' := 56) w176 own_d15_55 rfl rfl ?_
     refine own_callV (pc' := 59) w176 (own_w41 hw) (own_w42 hw) (fun s' hZ' => notFace_of_selects (args := #[]) (mvT hZ' (own_w44 hw))) (own_w44 hw) (own_w43 hw) (own_w7 hw) (own_w45 hw) (by decide) E_tx (own_ct_subC l Z a0 hw EL hE n0 [] h0 (own_old w176) tx (1 : Int32) (2 : Int32) t kb (4 : Int32) ((([c0, c1, c2, c3] : List Int32).map (fun (c : Int32) => c.toInt8.toInt32)).map Value.int) ([c0, c1, c2, c3] : List Int32) (1 : Int32) 1 1 z5 fm E_tx F_tx_coder F_tx_value A_t ((own_cod (cs := ([c0, c1, c2, c3] : List Int32)) (n := 4) rfl (own_allS b0 (own_allS b1 (own_allS b2 (own_allS b3 own_all0)))))) (own_up ([c0, c1, c2, c3] : List Int32) (own_allS b0 (own_allS b1 (own_allS b2 (own_allS b3 own_all0))))) ((Nat.le_of_ble_eq_true rfl)) S_COMPACT_STRINGS (P5) S_SIOOBE_FORMATTER (hfm) (by decide) (rfl) (by decide) (by decide) (by decide)) all0 (argsL := [(.int (1 : Int32)), (.int (2 : Int32))]) (rest := []) rfl rfl own_pd10 rfl own_d15_56 rfl (by decide) (W := 0) rfl (by decide) (by decide) (by decide) fun T181 h183 v184 ms185 w182 q186 => ?_
     obtain ⟨K190, r_187, t2_188, kA_189, rfl, rfl, nw_E_r_187, nw_F_r_187_coder, nw_F_r_187_value, nw_A_t2_188, p56_subC_0⟩ := q186
     have ne_t_r_187 : t ≠ r_187 := Nat.ne_of_lt (Nat.lt_of_lt_of_le A_t.lt p56_subC_0)
     have ne_tx_r_187 : tx ≠ r_187 := Nat.ne_of_lt (Nat.lt_of_lt_of_le E_tx.lt p56_subC_0)
     have nw_r_187 : h0.size ≤ r_187 := Nat.le_trans K.1 p56_subC_0
     replace E_tx := E_tx.keep K190
     replace F_tx_coder := F_tx_coder.keep K190 nin0
     replace F_tx_value := F_tx_value.keep K190 nin0
     replace A_t := A_t.keep K190 nin0
     replace K := K.trans K190 all0
     have E_r_187 := nw_E_r_187; clear nw_E_r_187
     have F_r_187_coder := nw_F_r_187_coder; clear nw_F_r_187_coder
     have F_r_187_value := nw_F_r_187_value; clear nw_F_r_187_value
     have A_t2_188 := nw_A_t2_188; clear nw_A_t2_188
     show own_Go Z EL n0 p e below s _ _ _ (T181.setTop (mkF m 59 _ [(.ref r_187)]))
     have k_c0 := own_sp0 hb20
     have k_c1 := own_sp1 hb20_1
     have k_c3 := own_sp0 hb44
     have k_c2 := own_sp0 hb44_1
     exact own_retV w182 (t := (.object "java/lang/String")) rfl (own_narR rfl rfl) (Or.inr (Or.inr (Or.inr (Or.inr ⟨rfl, rfl, rfl⟩)))) own_d15_59 (by decide) (by decide) (ms' := []) all0 ⟨K, r_187, t2_188, kA_189, (1 : Int32), (own_sl ((([c0, c1, c2, c3] : List Int32).map (fun (c : Int32) => c.toInt8.toInt32)).map Value.int) 1 1), ([c1] : List Int32), rfl, rfl, E_r_187, F_r_187_coder, F_r_187_value, A_t2_188, (own_cod (cs := ([c1] : List Int32)) (n := 1) rfl (own_allS b1 own_all0)), (own_up ([c1] : List Int32) (own_allS b1 own_all0)), (Nat.le_of_ble_eq_true rfl), (by simp [own_trim, List.dropWhile, k_c0, k_c1, k_c3, k_c2])⟩
  ·
   refine own_iinc (pc' := 26) w117 own_d15_23 rfl (y := (2 : Int32)) (by decide) (Ls' := #[.val (.ref tx), .val (.int (2 : Int32)), .val (.int (4 : Int32))]) rfl rfl ?_
   refine own_goto w117 own_d15_26 (by decide) (pc' := 7) rfl ?_
   refine own_iloadN (pc' := 8) w117 own_d15_7 rfl rfl ?_
   refine own_iloadN (pc' := 9) w117 own_d15_8 rfl rfl ?_
   refine own_icmp (pc' := 12) w117 own_d15_9 rfl (by decide) (pcY := 29) rfl (fun (hb9_2 : ¬ (2 : Int32) < (4 : Int32)) => absurd hb9_2 (by decide)) (fun (hb9_2 : (2 : Int32) < (4 : Int32)) => ?_)
   refine own_aloadN (pc' := 13) w117 own_d15_12 rfl rfl rfl ?_
   refine own_iloadN (pc' := 14) w117 own_d15_13 rfl rfl ?_
   refine own_callVB (pc' := 17) w117 (kc := 0) (nc := 0) (own_w76 hw) (own_w77 hw) (fun s' hZ' => notFace_of_selects (args := #[]) (mvT hZ' (own_w79 hw))) (own_w79 hw) (own_w78 hw) (by decide) E_tx (QQ := fun v h' L => (v = some (.int c2)) ∧ L = [] ∧ h' = h0) (fun s' hZ' => StrChars.Road.chN (W := 0) hZ' (own_hwc hw) (kI := 4) (own_w6 hw) E_tx F_tx_value F_tx_coder A_t (own_cod (cs := ([c0, c1, c2, c3] : List Int32)) (n := 4) rfl (own_allS b0 (own_allS b1 (own_allS b2 (own_allS b3 own_all0))))) (own_up ([c0, c1, c2, c3] : List Int32) (own_allS b0 (own_allS b1 (own_allS b2 (own_allS b3 own_all0))))) (S_COMPACT_STRINGS.ext (own_old w117).2) P5 (S_SIOOBE_FORMATTER.ext (own_old w117).2) hfm (Nat.le_of_ble_eq_true rfl) (i := 2) (Nat.le_of_ble_eq_true rfl) rfl (by decide) (by decide)) (ws := []) all0 (fun v h' L q => ⟨q.2.2 ▸ Keep.refl _ _, q.2.1 ▸ Fr.nil _⟩) (argsL := [(.int (2 : Int32))]) (rest := []) rfl rfl own_pd11 rfl own_d15_14 rfl (Nat.le_of_eq rfl) (by decide) (by decide) fun T191 h193 v194 w192 K195 q196 => ?_
   obtain ⟨_, rfl, -, e197⟩ := q196
   rw [e197] at w192
   show own_Go Z EL n0 p e below s _ _ _ (T191.setTop (mkF m 17 _ [(.int c2)]))
   refine own_callS (pc' := 20) w192 (own_w96 hw) (own_w97 hw) (own_w28 hw) (own_w98 hw) (by decide) (own_ct_isSp l Z a0 hw EL hE n0 [] h0 (own_old w192) c2 ) all0 (argsL := [(.int c2)]) (rest := []) rfl rfl own_pd12 rfl own_d15_17 rfl (by decide) (W := 0) rfl (by decide) (by decide) (by decide) fun T198 h200 v201 ms202 w199 q203 => ?_
   obtain ⟨rfl, rfl, rfl⟩ := q203
   show own_Go Z EL n0 p e below s _ _ _ (T198.setTop (mkF m 20 _ [(.int (if own_sp c2 then 1 else 0))]))
   refine own_if (pc' := 23) w199 own_d15_20 rfl (by decide) (pcY := 29) rfl (fun (hb20_2 : (if own_sp c2 then 1 else 0) = (0 : Int32)) => ?_) (fun (hb20_2 : ¬ (if own_sp c2 then 1 else 0) = (0 : Int32)) => ?_)
   ·
    refine own_iloadN (pc' := 30) w199 own_d15_29 rfl rfl ?_
    refine own_iloadN (pc' := 31) w199 own_d15_30 rfl rfl ?_
    refine own_icmp (pc' := 34) w199 own_d15_31 rfl (by decide) (pcY := 53) rfl (fun (hb31 : ¬ (2 : Int32) < (4 : Int32)) => absurd hb31 (by decide)) (fun (hb31 : (2 : Int32) < (4 : Int32)) => ?_)
    refine own_aloadN (pc' := 35) w199 own_d15_34 rfl rfl rfl ?_
    refine own_iloadN (pc' := 36) w199 own_d15_35 rfl rfl ?_
    refine own_iconst (pc' := 37) w199 own_d15_36 (x := (1 : Int32)) rfl rfl ?_
    refine own_isub (pc' := 38) w199 own_d15_37 (z := (3 : Int32)) (by decide) rfl ?_
    refine own_callVB (pc' := 41) w199 (kc := 0) (nc := 0) (own_w76 hw) (own_w77 hw) (fun s' hZ' => notFace_of_selects (args := #[]) (mvT hZ' (own_w79 hw))) (own_w79 hw) (own_w78 hw) (by decide) E_tx (QQ := fun v h' L => (v = some (.int c3)) ∧ L = [] ∧ h' = h0) (fun s' hZ' => StrChars.Road.chN (W := 0) hZ' (own_hwc hw) (kI := 4) (own_w6 hw) E_tx F_tx_value F_tx_coder A_t (own_cod (cs := ([c0, c1, c2, c3] : List Int32)) (n := 4) rfl (own_allS b0 (own_allS b1 (own_allS b2 (own_allS b3 own_all0))))) (own_up ([c0, c1, c2, c3] : List Int32) (own_allS b0 (own_allS b1 (own_allS b2 (own_allS b3 own_all0))))) (S_COMPACT_STRINGS.ext (own_old w199).2) P5 (S_SIOOBE_FORMATTER.ext (own_old w199).2) hfm (Nat.le_of_ble_eq_true rfl) (i := 3) (Nat.le_of_ble_eq_true rfl) rfl (by decide) (by decide)) (ws := []) all0 (fun v h' L q => ⟨q.2.2 ▸ Keep.refl _ _, q.2.1 ▸ Fr.nil _⟩) (argsL := [(.int (3 : Int32))]) (rest := []) rfl rfl own_pd11 rfl own_d15_38 rfl (Nat.le_of_eq rfl) (by decide) (by decide) fun T204 h206 v207 w205 K208 q209 => ?_
    obtain ⟨_, rfl, -, e210⟩ := q209
    rw [e210] at w205
    show own_Go Z EL n0 p e below s _ _ _ (T204.setTop (mkF m 41 _ [(.int c3)]))
    refine own_callS (pc' := 44) w205 (own_w96 hw) (own_w97 hw) (own_w28 hw) (own_w98 hw) (by decide) (own_ct_isSp l Z a0 hw EL hE n0 [] h0 (own_old w205) c3 ) all0 (argsL := [(.int c3)]) (rest := []) rfl rfl own_pd12 rfl own_d15_41 rfl (by decide) (W := 0) rfl (by decide) (by decide) (by decide) fun T211 h213 v214 ms215 w212 q216 => ?_
    obtain ⟨rfl, rfl, rfl⟩ := q216
    show own_Go Z EL n0 p e below s _ _ _ (T211.setTop (mkF m 44 _ [(.int (if own_sp c3 then 1 else 0))]))
    refine own_if (pc' := 47) w212 own_d15_44 rfl (by decide) (pcY := 53) rfl (fun (hb44 : (if own_sp c3 then 1 else 0) = (0 : Int32)) => ?_) (fun (hb44 : ¬ (if own_sp c3 then 1 else 0) = (0 : Int32)) => ?_)
    ·
     refine own_aloadN (pc' := 54) w212 own_d15_53 rfl rfl rfl ?_
     refine own_iloadN (pc' := 55) w212 own_d15_54 rfl rfl ?_
     refine own_iloadN (pc' := 56) w212 own_d15_55 rfl rfl ?_
     refine own_callV (pc' := 59) w212 (own_w41 hw) (own_w42 hw) (fun s' hZ' => notFace_of_selects (args := #[]) (mvT hZ' (own_w44 hw))) (own_w44 hw) (own_w43 hw) (own_w7 hw) (own_w45 hw) (by decide) E_tx (own_ct_subC l Z a0 hw EL hE n0 [] h0 (own_old w212) tx (2 : Int32) (4 : Int32) t kb (4 : Int32) ((([c0, c1, c2, c3] : List Int32).map (fun (c : Int32) => c.toInt8.toInt32)).map Value.int) ([c0, c1, c2, c3] : List Int32) (2 : Int32) 2 2 z5 fm E_tx F_tx_coder F_tx_value A_t ((own_cod (cs := ([c0, c1, c2, c3] : List Int32)) (n := 4) rfl (own_allS b0 (own_allS b1 (own_allS b2 (own_allS b3 own_all0)))))) (own_up ([c0, c1, c2, c3] : List Int32) (own_allS b0 (own_allS b1 (own_allS b2 (own_allS b3 own_all0))))) ((Nat.le_of_ble_eq_true rfl)) S_COMPACT_STRINGS (P5) S_SIOOBE_FORMATTER (hfm) (by decide) (rfl) (by decide) (by decide) (by decide)) all0 (argsL := [(.int (2 : Int32)), (.int (4 : Int32))]) (rest := []) rfl rfl own_pd10 rfl own_d15_56 rfl (by decide) (W := 0) rfl (by decide) (by decide) (by decide) fun T217 h219 v220 ms221 w218 q222 => ?_
     obtain ⟨K226, r_223, t2_224, kA_225, rfl, rfl, nw_E_r_223, nw_F_r_223_coder, nw_F_r_223_value, nw_A_t2_224, p56_subC_0⟩ := q222
     have ne_t_r_223 : t ≠ r_223 := Nat.ne_of_lt (Nat.lt_of_lt_of_le A_t.lt p56_subC_0)
     have ne_tx_r_223 : tx ≠ r_223 := Nat.ne_of_lt (Nat.lt_of_lt_of_le E_tx.lt p56_subC_0)
     have nw_r_223 : h0.size ≤ r_223 := Nat.le_trans K.1 p56_subC_0
     replace E_tx := E_tx.keep K226
     replace F_tx_coder := F_tx_coder.keep K226 nin0
     replace F_tx_value := F_tx_value.keep K226 nin0
     replace A_t := A_t.keep K226 nin0
     replace K := K.trans K226 all0
     have E_r_223 := nw_E_r_223; clear nw_E_r_223
     have F_r_223_coder := nw_F_r_223_coder; clear nw_F_r_223_coder
     have F_r_223_value := nw_F_r_223_value; clear nw_F_r_223_value
     have A_t2_224 := nw_A_t2_224; clear nw_A_t2_224
     show own_Go Z EL n0 p e below s _ _ _ (T217.setTop (mkF m 59 _ [(.ref r_223)]))
     have k_c0 := own_sp0 hb20
     have k_c1 := own_sp0 hb20_1
     have k_c2 := own_sp1 hb20_2
     have k_c3 := own_sp1 hb44
     exact own_retV w218 (t := (.object "java/lang/String")) rfl (own_narR rfl rfl) (Or.inr (Or.inr (Or.inr (Or.inr ⟨rfl, rfl, rfl⟩)))) own_d15_59 (by decide) (by decide) (ms' := []) all0 ⟨K, r_223, t2_224, kA_225, (2 : Int32), (own_sl ((([c0, c1, c2, c3] : List Int32).map (fun (c : Int32) => c.toInt8.toInt32)).map Value.int) 2 2), ([c2, c3] : List Int32), rfl, rfl, E_r_223, F_r_223_coder, F_r_223_value, A_t2_224, (own_cod (cs := ([c2, c3] : List Int32)) (n := 2) rfl (own_allS b2 (own_allS b3 own_all0))), (own_up ([c2, c3] : List Int32) (own_allS b2 (own_allS b3 own_all0))), (Nat.le_of_ble_eq_true rfl), (by simp [own_trim, List.dropWhile, k_c0, k_c1, k_c2, k_c3])⟩
    ·
     refine own_iinc (pc' := 50) w212 own_d15_47 rfl (y := (3 : Int32)) (by decide) (Ls' := #[.val (.ref tx), .val (.int (2 : Int32)), .val (.int (3 : Int32))]) rfl rfl ?_
     refine own_goto w212 own_d15_50 (by decide) (pc' := 29) rfl ?_
     refine own_iloadN (pc' := 30) w212 own_d15_29 rfl rfl ?_
     refine own_iloadN (pc' := 31) w212 own_d15_30 rfl rfl ?_
     refine own_icmp (pc' := 34) w212 own_d15_31 rfl (by decide) (pcY := 53) rfl (fun (hb31_1 : ¬ (2 : Int32) < (3 : Int32)) => absurd hb31_1 (by decide)) (fun (hb31_1 : (2 : Int32) < (3 : Int32)) => ?_)
     refine own_aloadN (pc' := 35) w212 own_d15_34 rfl rfl rfl ?_
     refine own_iloadN (pc' := 36) w212 own_d15_35 rfl rfl ?_
     refine own_iconst (pc' := 37) w212 own_d15_36 (x := (1 : Int32)) rfl rfl ?_
     refine own_isub (pc' := 38) w212 own_d15_37 (z := (2 : Int32)) (by decide) rfl ?_
     refine own_callVB (pc' := 41) w212 (kc := 0) (nc := 0) (own_w76 hw) (own_w77 hw) (fun s' hZ' => notFace_of_selects (args := #[]) (mvT hZ' (own_w79 hw))) (own_w79 hw) (own_w78 hw) (by decide) E_tx (QQ := fun v h' L => (v = some (.int c2)) ∧ L = [] ∧ h' = h0) (fun s' hZ' => StrChars.Road.chN (W := 0) hZ' (own_hwc hw) (kI := 4) (own_w6 hw) E_tx F_tx_value F_tx_coder A_t (own_cod (cs := ([c0, c1, c2, c3] : List Int32)) (n := 4) rfl (own_allS b0 (own_allS b1 (own_allS b2 (own_allS b3 own_all0))))) (own_up ([c0, c1, c2, c3] : List Int32) (own_allS b0 (own_allS b1 (own_allS b2 (own_allS b3 own_all0))))) (S_COMPACT_STRINGS.ext (own_old w212).2) P5 (S_SIOOBE_FORMATTER.ext (own_old w212).2) hfm (Nat.le_of_ble_eq_true rfl) (i := 2) (Nat.le_of_ble_eq_true rfl) rfl (by decide) (by decide)) (ws := []) all0 (fun v h' L q => ⟨q.2.2 ▸ Keep.refl _ _, q.2.1 ▸ Fr.nil _⟩) (argsL := [(.int (2 : Int32))]) (rest := []) rfl rfl own_pd11 rfl own_d15_38 rfl (Nat.le_of_eq rfl) (by decide) (by decide) fun T227 h229 v230 w228 K231 q232 => ?_
     obtain ⟨_, rfl, -, e233⟩ := q232
     rw [e233] at w228
     show own_Go Z EL n0 p e below s _ _ _ (T227.setTop (mkF m 41 _ [(.int c2)]))
     refine own_callS (pc' := 44) w228 (own_w96 hw) (own_w97 hw) (own_w28 hw) (own_w98 hw) (by decide) (own_ct_isSp l Z a0 hw EL hE n0 [] h0 (own_old w228) c2 ) all0 (argsL := [(.int c2)]) (rest := []) rfl rfl own_pd12 rfl own_d15_41 rfl (by decide) (W := 0) rfl (by decide) (by decide) (by decide) fun T234 h236 v237 ms238 w235 q239 => ?_
     obtain ⟨rfl, rfl, rfl⟩ := q239
     show own_Go Z EL n0 p e below s _ _ _ (T234.setTop (mkF m 44 _ [(.int (if own_sp c2 then 1 else 0))]))
     refine own_if (pc' := 47) w235 own_d15_44 rfl (by decide) (pcY := 53) rfl (fun (hb44_1 : (if own_sp c2 then 1 else 0) = (0 : Int32)) => ?_) (fun (hb44_1 : ¬ (if own_sp c2 then 1 else 0) = (0 : Int32)) => absurd hb20_2 hb44_1)
     refine own_aloadN (pc' := 54) w235 own_d15_53 rfl rfl rfl ?_
     refine own_iloadN (pc' := 55) w235 own_d15_54 rfl rfl ?_
     refine own_iloadN (pc' := 56) w235 own_d15_55 rfl rfl ?_
     refine own_callV (pc' := 59) w235 (own_w41 hw) (own_w42 hw) (fun s' hZ' => notFace_of_selects (args := #[]) (mvT hZ' (own_w44 hw))) (own_w44 hw) (own_w43 hw) (own_w7 hw) (own_w45 hw) (by decide) E_tx (own_ct_subC l Z a0 hw EL hE n0 [] h0 (own_old w235) tx (2 : Int32) (3 : Int32) t kb (4 : Int32) ((([c0, c1, c2, c3] : List Int32).map (fun (c : Int32) => c.toInt8.toInt32)).map Value.int) ([c0, c1, c2, c3] : List Int32) (1 : Int32) 2 1 z5 fm E_tx F_tx_coder F_tx_value A_t ((own_cod (cs := ([c0, c1, c2, c3] : List Int32)) (n := 4) rfl (own_allS b0 (own_allS b1 (own_allS b2 (own_allS b3 own_all0)))))) (own_up ([c0, c1, c2, c3] : List Int32) (own_allS b0 (own_allS b1 (own_allS b2 (own_allS b3 own_all0))))) ((Nat.le_of_ble_eq_true rfl)) S_COMPACT_STRINGS (P5) S_SIOOBE_FORMATTER (hfm) (by decide) (rfl) (by decide) (by decide) (by decide)) all0 (argsL := [(.int (2 : Int32)), (.int (3 : Int32))]) (rest := []) rfl rfl own_pd10 rfl own_d15_56 rfl (by decide) (W := 0) rfl (by decide) (by decide) (by decide) fun T240 h242 v243 ms244 w241 q245 => ?_
     obtain ⟨K249, r_246, t2_247, kA_248, rfl, rfl, nw_E_r_246, nw_F_r_246_coder, nw_F_r_246_value, nw_A_t2_247, p56_subC_0⟩ := q245
     have ne_t_r_246 : t ≠ r_246 := Nat.ne_of_lt (Nat.lt_of_lt_of_le A_t.lt p56_subC_0)
     have ne_tx_r_246 : tx ≠ r_246 := Nat.ne_of_lt (Nat.lt_of_lt_of_le E_tx.lt p56_subC_0)
     have nw_r_246 : h0.size ≤ r_246 := Nat.le_trans K.1 p56_subC_0
     replace E_tx := E_tx.keep K249
     replace F_tx_coder := F_tx_coder.keep K249 nin0
     replace F_tx_value := F_tx_value.keep K249 nin0
     replace A_t := A_t.keep K249 nin0
     replace K := K.trans K249 all0
     have E_r_246 := nw_E_r_246; clear nw_E_r_246
     have F_r_246_coder := nw_F_r_246_coder; clear nw_F_r_246_coder
     have F_r_246_value := nw_F_r_246_value; clear nw_F_r_246_value
     have A_t2_247 := nw_A_t2_247; clear nw_A_t2_247
     show own_Go Z EL n0 p e below s _ _ _ (T240.setTop (mkF m 59 _ [(.ref r_246)]))
     have k_c0 := own_sp0 hb20
     have k_c1 := own_sp0 hb20_1
     have k_c2 := own_sp1 hb20_2
     have k_c3 := own_sp0 hb44
     exact own_retV w241 (t := (.object "java/lang/String")) rfl (own_narR rfl rfl) (Or.inr (Or.inr (Or.inr (Or.inr ⟨rfl, rfl, rfl⟩)))) own_d15_59 (by decide) (by decide) (ms' := []) all0 ⟨K, r_246, t2_247, kA_248, (1 : Int32), (own_sl ((([c0, c1, c2, c3] : List Int32).map (fun (c : Int32) => c.toInt8.toInt32)).map Value.int) 2 1), ([c2] : List Int32), rfl, rfl, E_r_246, F_r_246_coder, F_r_246_value, A_t2_247, (own_cod (cs := ([c2] : List Int32)) (n := 1) rfl (own_allS b2 own_all0)), (own_up ([c2] : List Int32) (own_allS b2 own_all0)), (Nat.le_of_ble_eq_true rfl), (by simp [own_trim, List.dropWhile, k_c0, k_c1, k_c2, k_c3])⟩
   ·
    refine own_iinc (pc' := 26) w199 own_d15_23 rfl (y := (3 : Int32)) (by decide) (Ls' := #[.val (.ref tx), .val (.int (3 : Int32)), .val (.int (4 : Int32))]) rfl rfl ?_
    refine own_goto w199 own_d15_26 (by decide) (pc' := 7) rfl ?_
    refine own_iloadN (pc' := 8) w199 own_d15_7 rfl rfl ?_
    refine own_iloadN (pc' := 9) w199 own_d15_8 rfl rfl ?_
    refine own_icmp (pc' := 12) w199 own_d15_9 rfl (by decide) (pcY := 29) rfl (fun (hb9_3 : ¬ (3 : Int32) < (4 : Int32)) => absurd hb9_3 (by decide)) (fun (hb9_3 : (3 : Int32) < (4 : Int32)) => ?_)
    refine own_aloadN (pc' := 13) w199 own_d15_12 rfl rfl rfl ?_
    refine own_iloadN (pc' := 14) w199 own_d15_13 rfl rfl ?_
    refine own_callVB (pc' := 17) w199 (kc := 0) (nc := 0) (own_w76 hw) (own_w77 hw) (fun s' hZ' => notFace_of_selects (args := #[]) (mvT hZ' (own_w79 hw))) (own_w79 hw) (own_w78 hw) (by decide) E_tx (QQ := fun v h' L => (v = some (.int c3)) ∧ L = [] ∧ h' = h0) (fun s' hZ' => StrChars.Road.chN (W := 0) hZ' (own_hwc hw) (kI := 4) (own_w6 hw) E_tx F_tx_value F_tx_coder A_t (own_cod (cs := ([c0, c1, c2, c3] : List Int32)) (n := 4) rfl (own_allS b0 (own_allS b1 (own_allS b2 (own_allS b3 own_all0))))) (own_up ([c0, c1, c2, c3] : List Int32) (own_allS b0 (own_allS b1 (own_allS b2 (own_allS b3 own_all0))))) (S_COMPACT_STRINGS.ext (own_old w199).2) P5 (S_SIOOBE_FORMATTER.ext (own_old w199).2) hfm (Nat.le_of_ble_eq_true rfl) (i := 3) (Nat.le_of_ble_eq_true rfl) rfl (by decide) (by decide)) (ws := []) all0 (fun v h' L q => ⟨q.2.2 ▸ Keep.refl _ _, q.2.1 ▸ Fr.nil _⟩) (argsL := [(.int (3 : Int32))]) (rest := []) rfl rfl own_pd11 rfl own_d15_14 rfl (Nat.le_of_eq rfl) (by decide) (by decide) fun T250 h252 v253 w251 K254 q255 => ?_
    obtain ⟨_, rfl, -, e256⟩ := q255
    rw [e256] at w251
    show own_Go Z EL n0 p e below s _ _ _ (T250.setTop (mkF m 17 _ [(.int c3)]))
    refine own_callS (pc' := 20) w251 (own_w96 hw) (own_w97 hw) (own_w28 hw) (own_w98 hw) (by decide) (own_ct_isSp l Z a0 hw EL hE n0 [] h0 (own_old w251) c3 ) all0 (argsL := [(.int c3)]) (rest := []) rfl rfl own_pd12 rfl own_d15_17 rfl (by decide) (W := 0) rfl (by decide) (by decide) (by decide) fun T257 h259 v260 ms261 w258 q262 => ?_
    obtain ⟨rfl, rfl, rfl⟩ := q262
    show own_Go Z EL n0 p e below s _ _ _ (T257.setTop (mkF m 20 _ [(.int (if own_sp c3 then 1 else 0))]))
    refine own_if (pc' := 23) w258 own_d15_20 rfl (by decide) (pcY := 29) rfl (fun (hb20_3 : (if own_sp c3 then 1 else 0) = (0 : Int32)) => ?_) (fun (hb20_3 : ¬ (if own_sp c3 then 1 else 0) = (0 : Int32)) => ?_)
    ·
     refine own_iloadN (pc' := 30) w258 own_d15_29 rfl rfl ?_
     refine own_iloadN (pc' := 31) w258 own_d15_30 rfl rfl ?_
     refine own_icmp (pc' := 34) w258 own_d15_31 rfl (by decide) (pcY := 53) rfl (fun (hb31 : ¬ (3 : Int32) < (4 : Int32)) => absurd hb31 (by decide)) (fun (hb31 : (3 : Int32) < (4 : Int32)) => ?_)
     refine own_aloadN (pc' := 35) w258 own_d15_34 rfl rfl rfl ?_
     refine own_iloadN (pc' := 36) w258 own_d15_35 rfl rfl ?_
     refine own_iconst (pc' := 37) w258 own_d15_36 (x := (1 : Int32)) rfl rfl ?_
     refine own_isub (pc' := 38) w258 own_d15_37 (z := (3 : Int32)) (by decide) rfl ?_
     refine own_callVB (pc' := 41) w258 (kc := 0) (nc := 0) (own_w76 hw) (own_w77 hw) (fun s' hZ' => notFace_of_selects (args := #[]) (mvT hZ' (own_w79 hw))) (own_w79 hw) (own_w78 hw) (by decide) E_tx (QQ := fun v h' L => (v = some (.int c3)) ∧ L = [] ∧ h' = h0) (fun s' hZ' => StrChars.Road.chN (W := 0) hZ' (own_hwc hw) (kI := 4) (own_w6 hw) E_tx F_tx_value F_tx_coder A_t (own_cod (cs := ([c0, c1, c2, c3] : List Int32)) (n := 4) rfl (own_allS b0 (own_allS b1 (own_allS b2 (own_allS b3 own_all0))))) (own_up ([c0, c1, c2, c3] : List Int32) (own_allS b0 (own_allS b1 (own_allS b2 (own_allS b3 own_all0))))) (S_COMPACT_STRINGS.ext (own_old w258).2) P5 (S_SIOOBE_FORMATTER.ext (own_old w258).2) hfm (Nat.le_of_ble_eq_true rfl) (i := 3) (Nat.le_of_ble_eq_true rfl) rfl (by decide) (by decide)) (ws := []) all0 (fun v h' L q => ⟨q.2.2 ▸ Keep.refl _ _, q.2.1 ▸ Fr.nil _⟩) (argsL := [(.int (3 : Int32))]) (rest := []) rfl rfl own_pd11 rfl own_d15_38 rfl (Nat.le_of_eq rfl) (by decide) (by decide) fun T263 h265 v266 w264 K267 q268 => ?_
     obtain ⟨_, rfl, -, e269⟩ := q268
     rw [e269] at w264
     show own_Go Z EL n0 p e below s _ _ _ (T263.setTop (mkF m 41 _ [(.int c3)]))
     refine own_callS (pc' := 44) w264 (own_w96 hw) (own_w97 hw) (own_w28 hw) (own_w98 hw) (by decide) (own_ct_isSp l Z a0 hw EL hE n0 [] h0 (own_old w264) c3 ) all0 (argsL := [(.int c3)]) (rest := []) rfl rfl own_pd12 rfl own_d15_41 rfl (by decide) (W := 0) rfl (by decide) (by decide) (by decide) fun T270 h272 v273 ms274 w271 q275 => ?_
     obtain ⟨rfl, rfl, rfl⟩ := q275
     show own_Go Z EL n0 p e below s _ _ _ (T270.setTop (mkF m 44 _ [(.int (if own_sp c3 then 1 else 0))]))
     refine own_if (pc' := 47) w271 own_d15_44 rfl (by decide) (pcY := 53) rfl (fun (hb44 : (if own_sp c3 then 1 else 0) = (0 : Int32)) => ?_) (fun (hb44 : ¬ (if own_sp c3 then 1 else 0) = (0 : Int32)) => absurd hb20_3 hb44)
     refine own_aloadN (pc' := 54) w271 own_d15_53 rfl rfl rfl ?_
     refine own_iloadN (pc' := 55) w271 own_d15_54 rfl rfl ?_
     refine own_iloadN (pc' := 56) w271 own_d15_55 rfl rfl ?_
     refine own_callV (pc' := 59) w271 (own_w41 hw) (own_w42 hw) (fun s' hZ' => notFace_of_selects (args := #[]) (mvT hZ' (own_w44 hw))) (own_w44 hw) (own_w43 hw) (own_w7 hw) (own_w45 hw) (by decide) E_tx (own_ct_subC l Z a0 hw EL hE n0 [] h0 (own_old w271) tx (3 : Int32) (4 : Int32) t kb (4 : Int32) ((([c0, c1, c2, c3] : List Int32).map (fun (c : Int32) => c.toInt8.toInt32)).map Value.int) ([c0, c1, c2, c3] : List Int32) (1 : Int32) 3 1 z5 fm E_tx F_tx_coder F_tx_value A_t ((own_cod (cs := ([c0, c1, c2, c3] : List Int32)) (n := 4) rfl (own_allS b0 (own_allS b1 (own_allS b2 (own_allS b3 own_all0)))))) (own_up ([c0, c1, c2, c3] : List Int32) (own_allS b0 (own_allS b1 (own_allS b2 (own_allS b3 own_all0))))) ((Nat.le_of_ble_eq_true rfl)) S_COMPACT_STRINGS (P5) S_SIOOBE_FORMATTER (hfm) (by decide) (rfl) (by decide) (by decide) (by decide)) all0 (argsL := [(.int (3 : Int32)), (.int (4 : Int32))]) (rest := []) rfl rfl own_pd10 rfl own_d15_56 rfl (by decide) (W := 0) rfl (by decide) (by decide) (by decide) fun T276 h278 v279 ms280 w277 q281 => ?_
     obtain ⟨K285, r_282, t2_283, kA_284, rfl, rfl, nw_E_r_282, nw_F_r_282_coder, nw_F_r_282_value, nw_A_t2_283, p56_subC_0⟩ := q281
     have ne_t_r_282 : t ≠ r_282 := Nat.ne_of_lt (Nat.lt_of_lt_of_le A_t.lt p56_subC_0)
     have ne_tx_r_282 : tx ≠ r_282 := Nat.ne_of_lt (Nat.lt_of_lt_of_le E_tx.lt p56_subC_0)
     have nw_r_282 : h0.size ≤ r_282 := Nat.le_trans K.1 p56_subC_0
     replace E_tx := E_tx.keep K285
     replace F_tx_coder := F_tx_coder.keep K285 nin0
     replace F_tx_value := F_tx_value.keep K285 nin0
     replace A_t := A_t.keep K285 nin0
     replace K := K.trans K285 all0
     have E_r_282 := nw_E_r_282; clear nw_E_r_282
     have F_r_282_coder := nw_F_r_282_coder; clear nw_F_r_282_coder
     have F_r_282_value := nw_F_r_282_value; clear nw_F_r_282_value
     have A_t2_283 := nw_A_t2_283; clear nw_A_t2_283
     show own_Go Z EL n0 p e below s _ _ _ (T276.setTop (mkF m 59 _ [(.ref r_282)]))
     have k_c0 := own_sp0 hb20
     have k_c1 := own_sp0 hb20_1
     have k_c2 := own_sp0 hb20_2
     have k_c3 := own_sp1 hb20_3
     exact own_retV w277 (t := (.object "java/lang/String")) rfl (own_narR rfl rfl) (Or.inr (Or.inr (Or.inr (Or.inr ⟨rfl, rfl, rfl⟩)))) own_d15_59 (by decide) (by decide) (ms' := []) all0 ⟨K, r_282, t2_283, kA_284, (1 : Int32), (own_sl ((([c0, c1, c2, c3] : List Int32).map (fun (c : Int32) => c.toInt8.toInt32)).map Value.int) 3 1), ([c3] : List Int32), rfl, rfl, E_r_282, F_r_282_coder, F_r_282_value, A_t2_283, (own_cod (cs := ([c3] : List Int32)) (n := 1) rfl (own_allS b3 own_all0)), (own_up ([c3] : List Int32) (own_allS b3 own_all0)), (Nat.le_of_ble_eq_true rfl), (by simp [own_trim, List.dropWhile, k_c0, k_c1, k_c2, k_c3])⟩
    ·
     refine own_iinc (pc' := 26) w258 own_d15_23 rfl (y := (4 : Int32)) (by decide) (Ls' := #[.val (.ref tx), .val (.int (4 : Int32)), .val (.int (4 : Int32))]) rfl rfl ?_
     refine own_goto w258 own_d15_26 (by decide) (pc' := 7) rfl ?_
     refine own_iloadN (pc' := 8) w258 own_d15_7 rfl rfl ?_
     refine own_iloadN (pc' := 9) w258 own_d15_8 rfl rfl ?_
     refine own_icmp (pc' := 12) w258 own_d15_9 rfl (by decide) (pcY := 29) rfl (fun (hb9_4 : ¬ (4 : Int32) < (4 : Int32)) => ?_) (fun (hb9_4 : (4 : Int32) < (4 : Int32)) => absurd hb9_4 (by decide))
     refine own_iloadN (pc' := 30) w258 own_d15_29 rfl rfl ?_
     refine own_iloadN (pc' := 31) w258 own_d15_30 rfl rfl ?_
     refine own_icmp (pc' := 34) w258 own_d15_31 rfl (by decide) (pcY := 53) rfl (fun (hb31 : ¬ (4 : Int32) < (4 : Int32)) => ?_) (fun (hb31 : (4 : Int32) < (4 : Int32)) => absurd hb31 (by decide))
     refine own_aloadN (pc' := 54) w258 own_d15_53 rfl rfl rfl ?_
     refine own_iloadN (pc' := 55) w258 own_d15_54 rfl rfl ?_
     refine own_iloadN (pc' := 56) w258 own_d15_55 rfl rfl ?_
     refine own_callV (pc' := 59) w258 (own_w41 hw) (own_w42 hw) (fun s' hZ' => notFace_of_selects (args := #[]) (mvT hZ' (own_w44 hw))) (own_w44 hw) (own_w43 hw) (own_w7 hw) (own_w45 hw) (by decide) E_tx (own_ct_subE l Z a0 hw EL hE n0 [] h0 (own_old w258) tx (4 : Int32) (4 : Int32) t kb (4 : Int32) ((([c0, c1, c2, c3] : List Int32).map (fun (c : Int32) => c.toInt8.toInt32)).map Value.int) ([c0, c1, c2, c3] : List Int32) (0 : Int32) 4 0 z5 fm E_tx F_tx_coder F_tx_value A_t ((own_cod (cs := ([c0, c1, c2, c3] : List Int32)) (n := 4) rfl (own_allS b0 (own_allS b1 (own_allS b2 (own_allS b3 own_all0)))))) (own_up ([c0, c1, c2, c3] : List Int32) (own_allS b0 (own_allS b1 (own_allS b2 (own_allS b3 own_all0))))) ((Nat.le_of_ble_eq_true rfl)) S_COMPACT_STRINGS (P5) S_SIOOBE_FORMATTER (hfm) (by decide) (rfl) (by decide) (by decide) (hE151)) all0 (argsL := [(.int (4 : Int32)), (.int (4 : Int32))]) (rest := []) rfl rfl own_pd10 rfl own_d15_56 rfl (by decide) (W := 0) rfl (by decide) (by decide) (by decide) fun T286 h288 v289 ms290 w287 q291 => ?_
     obtain ⟨K295, r_292, t2_293, kA_294, rfl, rfl, nw_E_r_292, nw_F_r_292_coder, nw_F_r_292_value, nw_A_t2_293⟩ := q291
     replace E_tx := E_tx.keep K295
     replace F_tx_coder := F_tx_coder.keep K295 nin0
     replace F_tx_value := F_tx_value.keep K295 nin0
     replace A_t := A_t.keep K295 nin0
     replace K := K.trans K295 all0
     have E_r_292 := nw_E_r_292; clear nw_E_r_292
     have F_r_292_coder := nw_F_r_292_coder; clear nw_F_r_292_coder
     have F_r_292_value := nw_F_r_292_value; clear nw_F_r_292_value
     have A_t2_293 := nw_A_t2_293; clear nw_A_t2_293
     show own_Go Z EL n0 p e below s _ _ _ (T286.setTop (mkF m 59 _ [(.ref r_292)]))
     have k_c0 := own_sp0 hb20
     have k_c1 := own_sp0 hb20_1
     have k_c2 := own_sp0 hb20_2
     have k_c3 := own_sp0 hb20_3
     exact own_retV w287 (t := (.object "java/lang/String")) rfl (own_narR rfl rfl) (Or.inr (Or.inr (Or.inr (Or.inr ⟨rfl, rfl, rfl⟩)))) own_d15_59 (by decide) (by decide) (ms' := []) all0 ⟨K, r_292, t2_293, kA_294, (0 : Int32), [], ([] : List Int32), rfl, rfl, E_r_292, F_r_292_coder, F_r_292_value, A_t2_293, (Or.inl ⟨rfl, rfl, rfl, own_all0⟩), (own_up ([] : List Int32) own_all0), (Nat.le_of_ble_eq_true rfl), (by simp [own_trim, List.dropWhile, k_c0, k_c1, k_c2, k_c3])⟩
theorem own_ef_trim5 (m : MethodId) (tx : Addr) : entryFrame m #[(.ref tx)] 3 = mkF m 0 #[.val (.ref tx), .unset, .unset] [] := by first | (simp [entryFrame, mkF, argsToLocals, Value.category]; done) | rfl
def own_Q_trim5 (Z : State) (h0 : Heap) (tx : Addr) (t : Addr) (kb : ClassId) (z5 : Int32) (fm : Value) (c0 : Int32) (c1 : Int32) (c2 : Int32) (c3 : Int32) (c4 : Int32) (v : Option Value) (h : Heap) (ms : List Addr) : Prop := (Keep h0 h []) ∧ (∃ (r : Addr) (t2 : Addr) (kA : ClassId) (N2 : Int32) (vs2 : List Value) (ds : List Int32), (ms = []) ∧ (v = some (.ref r)) ∧ (Exa Z h r "java/lang/String") ∧ (Fld Z h r "java/lang/String" "coder" "B" (.int 0)) ∧ (Fld Z h r "java/lang/String" "value" "[B" (.ref t2)) ∧ (Arv Z h t2 kA .byte N2 vs2 (.int 0)) ∧ (StrChars.Road.CodA ds 0 N2 vs2) ∧ (∀ c ∈ ds, ¬ c < 0 ∧ ¬ (65535 : Int32) < c) ∧ (ds.length ≤ 4000) ∧ (ds = own_trim ([c0, c1, c2, c3, c4] : List Int32)))
set_option maxRecDepth 65536 in
set_option maxHeartbeats 40000000 in
theorem own_ct_trim5 (l : Launch) (Z : State) (a0 : Array Value) (hw : ∀ d ∈ tables_1, d.before a0 Z = true) (EL : List (String × Nat)) (hE : EW Z a0 EL) (n0 : Nat) (ws : List Jvm.Cond) (h0 : Heap) (O : Old Z n0 h0) (tx : Addr) (t : Addr) (kb : ClassId) (z5 : Int32) (fm : Value) (c0 : Int32) (c1 : Int32) (c2 : Int32) (c3 : Int32) (c4 : Int32) (E_tx : Exa Z h0 tx "java/lang/String") (F_tx_coder : Fld Z h0 tx "java/lang/String" "coder" "B" (.int 0)) (F_tx_value : Fld Z h0 tx "java/lang/String" "value" "[B" (.ref t)) (A_t : Arv Z h0 t kb .byte (5 : Int32) ((([c0, c1, c2, c3, c4] : List Int32).map (fun (c : Int32) => c.toInt8.toInt32)).map Value.int) (.int 0)) (S_COMPACT_STRINGS : Sta Z Z.heap "java/lang/String" "COMPACT_STRINGS" "Z" (.int z5)) (P5 : ¬ z5 = 0) (S_SIOOBE_FORMATTER : Sta Z Z.heap "jdk/internal/util/Preconditions" "SIOOBE_FORMATTER" "Ljava/util/function/BiFunction;" fm) (hfm : fm.isRef = true) (hE151 : ("java/lang/StringLatin1", 151) ∈ EL) (b0 : ¬ c0 < 0 ∧ ¬ (255 : Int32) < c0) (b1 : ¬ c1 < 0 ∧ ¬ (255 : Int32) < c1) (b2 : ¬ c2 < 0 ∧ ¬ (255 : Int32) < c2) (b3 : ¬ c3 < 0 ∧ ¬ (255 : Int32) < c3) (b4 : ¬ c4 < 0 ∧ ¬ (255 : Int32) < c4) :
    own_Ct l Z EL n0 (⟨"com/example/caddis/caddis/conformance/XmlValues", "trim", "(Ljava/lang/String;)Ljava/lang/String;"⟩ : MethodName) prog_41_method_2_code 3 (some (.object "java/lang/String")) ws ({ frames := 5, cells := 2, slots := 9, locals := 80 } : Room) #[(.ref tx)] h0 [] (own_Q_trim5 Z h0 tx t kb z5 fm c0 c1 c2 c3 c4) := by
 refine own_enter (a0 := a0) own_pf15 hE O fun p e s m below meth c T0 w0 => ?_
 rw [own_ef_trim5 m tx]
 have K : Keep h0 h0 [] := Keep.refl _ _
 refine own_iconst (pc' := 1) w0 own_d15_0 (x := (0 : Int32)) rfl rfl ?_
 refine own_istoreN (pc' := 2) w0 own_d15_1 (Ls' := #[.val (.ref tx), .val (.int (0 : Int32)), .unset]) rfl rfl ?_
 refine own_aloadN (pc' := 3) w0 own_d15_2 rfl rfl rfl ?_
 refine own_callVB (pc' := 6) w0 (kc := 0) (nc := 0) (own_w30 hw) (own_w31 hw) (fun s' hZ' => notFace_of_selects (args := #[]) (mvT hZ' (own_w33 hw))) (own_w33 hw) (own_w32 hw) (by decide) E_tx (QQ := fun v h' L => (v = some (.int (5 : Int32))) ∧ L = [] ∧ h' = h0) (fun s' hZ' => StrChars.Road.lenW (W := 0) hZ' (own_hwl hw) (kI := 4) (own_w6 hw) E_tx F_tx_value F_tx_coder A_t (own_cod (cs := ([c0, c1, c2, c3, c4] : List Int32)) (n := 5) rfl (own_allS b0 (own_allS b1 (own_allS b2 (own_allS b3 (own_allS b4 own_all0)))))) (own_up ([c0, c1, c2, c3, c4] : List Int32) (own_allS b0 (own_allS b1 (own_allS b2 (own_allS b3 (own_allS b4 own_all0)))))) (S_COMPACT_STRINGS.ext (own_old w0).2) P5 (Nat.le_of_ble_eq_true rfl) (by decide) (by decide)) (ws := []) all0 (fun v h' L q => ⟨q.2.2 ▸ Keep.refl _ _, q.2.1 ▸ Fr.nil _⟩) (argsL := []) (rest := []) rfl rfl own_pd6 rfl own_d15_3 rfl (Nat.le_of_eq rfl) (by decide) (by decide) fun T1 h3 v4 w2 K5 q6 => ?_
 obtain ⟨_, rfl, -, e7⟩ := q6
 rw [e7] at w2
 show own_Go Z EL n0 p e below s _ _ _ (T1.setTop (mkF m 6 _ [(.int (5 : Int32))]))
 refine own_istoreN (pc' := 7) w2 own_d15_6 (Ls' := #[.val (.ref tx), .val (.int (0 : Int32)), .val (.int (5 : Int32))]) rfl rfl ?_
 refine own_iloadN (pc' := 8) w2 own_d15_7 rfl rfl ?_
 refine own_iloadN (pc' := 9) w2 own_d15_8 rfl rfl ?_
 refine own_icmp (pc' := 12) w2 own_d15_9 rfl (by decide) (pcY := 29) rfl (fun (hb9 : ¬ (0 : Int32) < (5 : Int32)) => absurd hb9 (by decide)) (fun (hb9 : (0 : Int32) < (5 : Int32)) => ?_)
 refine own_aloadN (pc' := 13) w2 own_d15_12 rfl rfl rfl ?_
 refine own_iloadN (pc' := 14) w2 own_d15_13 rfl rfl ?_
 refine own_callVB (pc' := 17) w2 (kc := 0) (nc := 0) (own_w76 hw) (own_w77 hw) (fun s' hZ' => notFace_of_selects (args := #[]) (mvT hZ' (own_w79 hw))) (own_w79 hw) (own_w78 hw) (by decide) E_tx (QQ := fun v h' L => (v = some (.int c0)) ∧ L = [] ∧ h' = h0) (fun s' hZ' => StrChars.Road.chN (W := 0) hZ' (own_hwc hw) (kI := 4) (own_w6 hw) E_tx F_tx_value F_tx_coder A_t (own_cod (cs := ([c0, c1, c2, c3, c4] : List Int32)) (n := 5) rfl (own_allS b0 (own_allS b1 (own_allS b2 (own_allS b3 (own_allS b4 own_all0)))))) (own_up ([c0, c1, c2, c3, c4] : List Int32) (own_allS b0 (own_allS b1 (own_allS b2 (own_allS b3 (own_allS b4 own_all0)))))) (S_COMPACT_STRINGS.ext (own_old w2).2) P5 (S_SIOOBE_FORMATTER.ext (own_old w2).2) hfm (Nat.le_of_ble_eq_true rfl) (i := 0) (Nat.le_of_ble_eq_true rfl) rfl (by decide) (by decide)) (ws := []) all0 (fun v h' L q => ⟨q.2.2 ▸ Keep.refl _ _, q.2.1 ▸ Fr.nil _⟩) (argsL := [(.int (0 : Int32))]) (rest := []) rfl rfl own_pd11 rfl own_d15_14 rfl (Nat.le_of_eq rfl) (by decide) (by decide) fun T8 h10 v11 w9 K12 q13 => ?_
 obtain ⟨_, rfl, -, e14⟩ := q13
 rw [e14] at w9
 show own_Go Z EL n0 p e below s _ _ _ (T8.setTop (mkF m 17 _ [(.int c0)]))
 refine own_callS (pc' := 20) w9 (own_w96 hw) (own_w97 hw) (own_w28 hw) (own_w98 hw) (by decide) (own_ct_isSp l Z a0 hw EL hE n0 [] h0 (own_old w9) c0 ) all0 (argsL := [(.int c0)]) (rest := []) rfl rfl own_pd12 rfl own_d15_17 rfl (by decide) (W := 0) rfl (by decide) (by decide) (by decide) fun T15 h17 v18 ms19 w16 q20 => ?_
 obtain ⟨rfl, rfl, rfl⟩ := q20
 show own_Go Z EL n0 p e below s _ _ _ (T15.setTop (mkF m 20 _ [(.int (if own_sp c0 then 1 else 0))]))
 refine own_if (pc' := 23) w16 own_d15_20 rfl (by decide) (pcY := 29) rfl (fun (hb20 : (if own_sp c0 then 1 else 0) = (0 : Int32)) => ?_) (fun (hb20 : ¬ (if own_sp c0 then 1 else 0) = (0 : Int32)) => ?_)
 ·
  refine own_iloadN (pc' := 30) w16 own_d15_29 rfl rfl ?_
  refine own_iloadN (pc' := 31) w16 own_d15_30 rfl rfl ?_
  refine own_icmp (pc' := 34) w16 own_d15_31 rfl (by decide) (pcY := 53) rfl (fun (hb31 : ¬ (0 : Int32) < (5 : Int32)) => absurd hb31 (by decide)) (fun (hb31 : (0 : Int32) < (5 : Int32)) => ?_)
  refine own_aloadN (pc' := 35) w16 own_d15_34 rfl rfl rfl ?_
  refine own_iloadN (pc' := 36) w16 own_d15_35 rfl rfl ?_
  refine own_iconst (pc' := 37) w16 own_d15_36 (x := (1 : Int32)) rfl rfl ?_
  refine own_isub (pc' := 38) w16 own_d15_37 (z := (4 : Int32)) (by decide) rfl ?_
  refine own_callVB (pc' := 41) w16 (kc := 0) (nc := 0) (own_w76 hw) (own_w77 hw) (fun s' hZ' => notFace_of_selects (args := #[]) (mvT hZ' (own_w79 hw))) (own_w79 hw) (own_w78 hw) (by decide) E_tx (QQ := fun v h' L => (v = some (.int c4)) ∧ L = [] ∧ h' = h0) (fun s' hZ' => StrChars.Road.chN (W := 0) hZ' (own_hwc hw) (kI := 4) (own_w6 hw) E_tx F_tx_value F_tx_coder A_t (own_cod (cs := ([c0, c1, c2, c3, c4] : List Int32)) (n := 5) rfl (own_allS b0 (own_allS b1 (own_allS b2 (own_allS b3 (own_allS b4 own_all0)))))) (own_up ([c0, c1, c2, c3, c4] : List Int32) (own_allS b0 (own_allS b1 (own_allS b2 (own_allS b3 (own_allS b4 own_all0)))))) (S_COMPACT_STRINGS.ext (own_old w16).2) P5 (S_SIOOBE_FORMATTER.ext (own_old w16).2) hfm (Nat.le_of_ble_eq_true rfl) (i := 4) (Nat.le_of_ble_eq_true rfl) rfl (by decide) (by decide)) (ws := []) all0 (fun v h' L q => ⟨q.2.2 ▸ Keep.refl _ _, q.2.1 ▸ Fr.nil _⟩) (argsL := [(.int (4 : Int32))]) (rest := []) rfl rfl own_pd11 rfl own_d15_38 rfl (Nat.le_of_eq rfl) (by decide) (by decide) fun T21 h23 v24 w22 K25 q26 => ?_
  obtain ⟨_, rfl, -, e27⟩ := q26
  rw [e27] at w22
  show own_Go Z EL n0 p e below s _ _ _ (T21.setTop (mkF m 41 _ [(.int c4)]))
  refine own_callS (pc' := 44) w22 (own_w96 hw) (own_w97 hw) (own_w28 hw) (own_w98 hw) (by decide) (own_ct_isSp l Z a0 hw EL hE n0 [] h0 (own_old w22) c4 ) all0 (argsL := [(.int c4)]) (rest := []) rfl rfl own_pd12 rfl own_d15_41 rfl (by decide) (W := 0) rfl (by decide) (by decide) (by decide) fun T28 h30 v31 ms32 w29 q33 => ?_
  obtain ⟨rfl, rfl, rfl⟩ := q33
  show own_Go Z EL n0 p e below s _ _ _ (T28.setTop (mkF m 44 _ [(.int (if own_sp c4 then 1 else 0))]))
  refine own_if (pc' := 47) w29 own_d15_44 rfl (by decide) (pcY := 53) rfl (fun (hb44 : (if own_sp c4 then 1 else 0) = (0 : Int32)) => ?_) (fun (hb44 : ¬ (if own_sp c4 then 1 else 0) = (0 : Int32)) => ?_)
  ·
   refine own_aloadN (pc' := 54) w29 own_d15_53 rfl rfl rfl ?_
   refine own_iloadN (pc' := 55) w29 own_d15_54 rfl rfl ?_
   refine own_iloadN (pc' := 56) w29 own_d15_55 rfl rfl ?_
   refine own_callV (pc' := 59) w29 (own_w41 hw) (own_w42 hw) (fun s' hZ' => notFace_of_selects (args := #[]) (mvT hZ' (own_w44 hw))) (own_w44 hw) (own_w43 hw) (own_w7 hw) (own_w45 hw) (by decide) E_tx (own_ct_subW l Z a0 hw EL hE n0 [] h0 (own_old w29) tx (0 : Int32) (5 : Int32) t kb (5 : Int32) ((([c0, c1, c2, c3, c4] : List Int32).map (fun (c : Int32) => c.toInt8.toInt32)).map Value.int) ([c0, c1, c2, c3, c4] : List Int32) (5 : Int32) 0 5 z5 fm E_tx F_tx_coder F_tx_value A_t ((own_cod (cs := ([c0, c1, c2, c3, c4] : List Int32)) (n := 5) rfl (own_allS b0 (own_allS b1 (own_allS b2 (own_allS b3 (own_allS b4 own_all0))))))) (own_up ([c0, c1, c2, c3, c4] : List Int32) (own_allS b0 (own_allS b1 (own_allS b2 (own_allS b3 (own_allS b4 own_all0)))))) ((Nat.le_of_ble_eq_true rfl)) S_COMPACT_STRINGS (P5) S_SIOOBE_FORMATTER (hfm) (by decide) (rfl) (by decide) (by decide)) all0 (argsL := [(.int (0 : Int32)), (.int (5 : Int32))]) (rest := []) rfl rfl own_pd10 rfl own_d15_56 rfl (by decide) (W := 0) rfl (by decide) (by decide) (by decide) fun T34 h36 v37 ms38 w35 q39 => ?_
   obtain ⟨rfl, rfl, rfl⟩ := q39
   show own_Go Z EL n0 p e below s _ _ _ (T34.setTop (mkF m 59 _ [(.ref tx)]))
   have k_c0 := own_sp1 hb20
   have k_c4 := own_sp1 hb44
   exact own_retV w35 (t := (.object "java/lang/String")) rfl (own_narR rfl rfl) (Or.inr (Or.inr (Or.inr (Or.inr ⟨rfl, rfl, rfl⟩)))) own_d15_59 (by decide) (by decide) (ms' := []) all0 ⟨K, tx, t, kb, (5 : Int32), ((([c0, c1, c2, c3, c4] : List Int32).map (fun (c : Int32) => c.toInt8.toInt32)).map Value.int), ([c0, c1, c2, c3, c4] : List Int32), rfl, rfl, E_tx, F_tx_coder, F_tx_value, A_t, (own_cod (cs := ([c0, c1, c2, c3, c4] : List Int32)) (n := 5) rfl (own_allS b0 (own_allS b1 (own_allS b2 (own_allS b3 (own_allS b4 own_all0)))))), (own_up ([c0, c1, c2, c3, c4] : List Int32) (own_allS b0 (own_allS b1 (own_allS b2 (own_allS b3 (own_allS b4 own_all0)))))), (Nat.le_of_ble_eq_true rfl), (by simp [own_trim, List.dropWhile, k_c0, k_c4])⟩
  ·
   refine own_iinc (pc' := 50) w29 own_d15_47 rfl (y := (4 : Int32)) (by decide) (Ls' := #[.val (.ref tx), .val (.int (0 : Int32)), .val (.int (4 : Int32))]) rfl rfl ?_
   refine own_goto w29 own_d15_50 (by decide) (pc' := 29) rfl ?_
   refine own_iloadN (pc' := 30) w29 own_d15_29 rfl rfl ?_
   refine own_iloadN (pc' := 31) w29 own_d15_30 rfl rfl ?_
   refine own_icmp (pc' := 34) w29 own_d15_31 rfl (by decide) (pcY := 53) rfl (fun (hb31_1 : ¬ (0 : Int32) < (4 : Int32)) => absurd hb31_1 (by decide)) (fun (hb31_1 : (0 : Int32) < (4 : Int32)) => ?_)
   refine own_aloadN (pc' := 35) w29 own_d15_34 rfl rfl rfl ?_
   refine own_iloadN (pc' := 36) w29 own_d15_35 rfl rfl ?_
   refine own_iconst (pc' := 37) w29 own_d15_36 (x := (1 : Int32)) rfl rfl ?_
   refine own_isub (pc' := 38) w29 own_d15_37 (z := (3 : Int32)) (by decide) rfl ?_
   refine own_callVB (pc' := 41) w29 (kc := 0) (nc := 0) (own_w76 hw) (own_w77 hw) (fun s' hZ' => notFace_of_selects (args := #[]) (mvT hZ' (own_w79 hw))) (own_w79 hw) (own_w78 hw) (by decide) E_tx (QQ := fun v h' L => (v = some (.int c3)) ∧ L = [] ∧ h' = h0) (fun s' hZ' => StrChars.Road.chN (W := 0) hZ' (own_hwc hw) (kI := 4) (own_w6 hw) E_tx F_tx_value F_tx_coder A_t (own_cod (cs := ([c0, c1, c2, c3, c4] : List Int32)) (n := 5) rfl (own_allS b0 (own_allS b1 (own_allS b2 (own_allS b3 (own_allS b4 own_all0)))))) (own_up ([c0, c1, c2, c3, c4] : List Int32) (own_allS b0 (own_allS b1 (own_allS b2 (own_allS b3 (own_allS b4 own_all0)))))) (S_COMPACT_STRINGS.ext (own_old w29).2) P5 (S_SIOOBE_FORMATTER.ext (own_old w29).2) hfm (Nat.le_of_ble_eq_true rfl) (i := 3) (Nat.le_of_ble_eq_true rfl) rfl (by decide) (by decide)) (ws := []) all0 (fun v h' L q => ⟨q.2.2 ▸ Keep.refl _ _, q.2.1 ▸ Fr.nil _⟩) (argsL := [(.int (3 : Int32))]) (rest := []) rfl rfl own_pd11 rfl own_d15_38 rfl (Nat.le_of_eq rfl) (by decide) (by decide) fun T40 h42 v43 w41 K44 q45 => ?_
   obtain ⟨_, rfl, -, e46⟩ := q45
   rw [e46] at w41
   show own_Go Z EL n0 p e below s _ _ _ (T40.setTop (mkF m 41 _ [(.int c3)]))
   refine own_callS (pc' := 44) w41 (own_w96 hw) (own_w97 hw) (own_w28 hw) (own_w98 hw) (by decide) (own_ct_isSp l Z a0 hw EL hE n0 [] h0 (own_old w41) c3 ) all0 (argsL := [(.int c3)]) (rest := []) rfl rfl own_pd12 rfl own_d15_41 rfl (by decide) (W := 0) rfl (by decide) (by decide) (by decide) fun T47 h49 v50 ms51 w48 q52 => ?_
   obtain ⟨rfl, rfl, rfl⟩ := q52
   show own_Go Z EL n0 p e below s _ _ _ (T47.setTop (mkF m 44 _ [(.int (if own_sp c3 then 1 else 0))]))
   refine own_if (pc' := 47) w48 own_d15_44 rfl (by decide) (pcY := 53) rfl (fun (hb44_1 : (if own_sp c3 then 1 else 0) = (0 : Int32)) => ?_) (fun (hb44_1 : ¬ (if own_sp c3 then 1 else 0) = (0 : Int32)) => ?_)
   ·
    refine own_aloadN (pc' := 54) w48 own_d15_53 rfl rfl rfl ?_
    refine own_iloadN (pc' := 55) w48 own_d15_54 rfl rfl ?_
    refine own_iloadN (pc' := 56) w48 own_d15_55 rfl rfl ?_
    refine own_callV (pc' := 59) w48 (own_w41 hw) (own_w42 hw) (fun s' hZ' => notFace_of_selects (args := #[]) (mvT hZ' (own_w44 hw))) (own_w44 hw) (own_w43 hw) (own_w7 hw) (own_w45 hw) (by decide) E_tx (own_ct_subC l Z a0 hw EL hE n0 [] h0 (own_old w48) tx (0 : Int32) (4 : Int32) t kb (5 : Int32) ((([c0, c1, c2, c3, c4] : List Int32).map (fun (c : Int32) => c.toInt8.toInt32)).map Value.int) ([c0, c1, c2, c3, c4] : List Int32) (4 : Int32) 0 4 z5 fm E_tx F_tx_coder F_tx_value A_t ((own_cod (cs := ([c0, c1, c2, c3, c4] : List Int32)) (n := 5) rfl (own_allS b0 (own_allS b1 (own_allS b2 (own_allS b3 (own_allS b4 own_all0))))))) (own_up ([c0, c1, c2, c3, c4] : List Int32) (own_allS b0 (own_allS b1 (own_allS b2 (own_allS b3 (own_allS b4 own_all0)))))) ((Nat.le_of_ble_eq_true rfl)) S_COMPACT_STRINGS (P5) S_SIOOBE_FORMATTER (hfm) (by decide) (rfl) (by decide) (by decide) (by decide)) all0 (argsL := [(.int (0 : Int32)), (.int (4 : Int32))]) (rest := []) rfl rfl own_pd10 rfl own_d15_56 rfl (by decide) (W := 0) rfl (by decide) (by decide) (by decide) fun T53 h55 v56 ms57 w54 q58 => ?_
    obtain ⟨K62, r_59, t2_60, kA_61, rfl, rfl, nw_E_r_59, nw_F_r_59_coder, nw_F_r_59_value, nw_A_t2_60, p56_subC_0⟩ := q58
    have ne_t_r_59 : t ≠ r_59 := Nat.ne_of_lt (Nat.lt_of_lt_of_le A_t.lt p56_subC_0)
    have ne_tx_r_59 : tx ≠ r_59 := Nat.ne_of_lt (Nat.lt_of_lt_of_le E_tx.lt p56_subC_0)
    have nw_r_59 : h0.size ≤ r_59 := Nat.le_trans K.1 p56_subC_0
    replace E_tx := E_tx.keep K62
    replace F_tx_coder := F_tx_coder.keep K62 nin0
    replace F_tx_value := F_tx_value.keep K62 nin0
    replace A_t := A_t.keep K62 nin0
    replace K := K.trans K62 all0
    have E_r_59 := nw_E_r_59; clear nw_E_r_59
    have F_r_59_coder := nw_F_r_59_coder; clear nw_F_r_59_coder
    have F_r_59_value := nw_F_r_59_value; clear nw_F_r_59_value
    have A_t2_60 := nw_A_t2_60; clear nw_A_t2_60
    show own_Go Z EL n0 p e below s _ _ _ (T53.setTop (mkF m 59 _ [(.ref r_59)]))
    have k_c0 := own_sp1 hb20
    have k_c4 := own_sp0 hb44
    have k_c3 := own_sp1 hb44_1
    exact own_retV w54 (t := (.object "java/lang/String")) rfl (own_narR rfl rfl) (Or.inr (Or.inr (Or.inr (Or.inr ⟨rfl, rfl, rfl⟩)))) own_d15_59 (by decide) (by decide) (ms' := []) all0 ⟨K, r_59, t2_60, kA_61, (4 : Int32), (own_sl ((([c0, c1, c2, c3, c4] : List Int32).map (fun (c : Int32) => c.toInt8.toInt32)).map Value.int) 0 4), ([c0, c1, c2, c3] : List Int32), rfl, rfl, E_r_59, F_r_59_coder, F_r_59_value, A_t2_60, (own_cod (cs := ([c0, c1, c2, c3] : List Int32)) (n := 4) rfl (own_allS b0 (own_allS b1 (own_allS b2 (own_allS b3 own_all0))))), (own_up ([c0, c1, c2, c3] : List Int32) (own_allS b0 (own_allS b1 (own_allS b2 (own_allS b3 own_all0))))), (Nat.le_of_ble_eq_true rfl), (by simp [own_trim, List.dropWhile, k_c0, k_c4, k_c3])⟩
   ·
    refine own_iinc (pc' := 50) w48 own_d15_47 rfl (y := (3 : Int32)) (by decide) (Ls' := #[.val (.ref tx), .val (.int (0 : Int32)), .val (.int (3 : Int32))]) rfl rfl ?_
    refine own_goto w48 own_d15_50 (by decide) (pc' := 29) rfl ?_
    refine own_iloadN (pc' := 30) w48 own_d15_29 rfl rfl ?_
    refine own_iloadN (pc' := 31) w48 own_d15_30 rfl rfl ?_
    refine own_icmp (pc' := 34) w48 own_d15_31 rfl (by decide) (pcY := 53) rfl (fun (hb31_2 : ¬ (0 : Int32) < (3 : Int32)) => absurd hb31_2 (by decide)) (fun (hb31_2 : (0 : Int32) < (3 : Int32)) => ?_)
    refine own_aloadN (pc' := 35) w48 own_d15_34 rfl rfl rfl ?_
    refine own_iloadN (pc' := 36) w48 own_d15_35 rfl rfl ?_
    refine own_iconst (pc' := 37) w48 own_d15_36 (x := (1 : Int32)) rfl rfl ?_
    refine own_isub (pc' := 38) w48 own_d15_37 (z := (2 : Int32)) (by decide) rfl ?_
    refine own_callVB (pc' := 41) w48 (kc := 0) (nc := 0) (own_w76 hw) (own_w77 hw) (fun s' hZ' => notFace_of_selects (args := #[]) (mvT hZ' (own_w79 hw))) (own_w79 hw) (own_w78 hw) (by decide) E_tx (QQ := fun v h' L => (v = some (.int c2)) ∧ L = [] ∧ h' = h0) (fun s' hZ' => StrChars.Road.chN (W := 0) hZ' (own_hwc hw) (kI := 4) (own_w6 hw) E_tx F_tx_value F_tx_coder A_t (own_cod (cs := ([c0, c1, c2, c3, c4] : List Int32)) (n := 5) rfl (own_allS b0 (own_allS b1 (own_allS b2 (own_allS b3 (own_allS b4 own_all0)))))) (own_up ([c0, c1, c2, c3, c4] : List Int32) (own_allS b0 (own_allS b1 (own_allS b2 (own_allS b3 (own_allS b4 own_all0)))))) (S_COMPACT_STRINGS.ext (own_old w48).2) P5 (S_SIOOBE_FORMATTER.ext (own_old w48).2) hfm (Nat.le_of_ble_eq_true rfl) (i := 2) (Nat.le_of_ble_eq_true rfl) rfl (by decide) (by decide)) (ws := []) all0 (fun v h' L q => ⟨q.2.2 ▸ Keep.refl _ _, q.2.1 ▸ Fr.nil _⟩) (argsL := [(.int (2 : Int32))]) (rest := []) rfl rfl own_pd11 rfl own_d15_38 rfl (Nat.le_of_eq rfl) (by decide) (by decide) fun T63 h65 v66 w64 K67 q68 => ?_
    obtain ⟨_, rfl, -, e69⟩ := q68
    rw [e69] at w64
    show own_Go Z EL n0 p e below s _ _ _ (T63.setTop (mkF m 41 _ [(.int c2)]))
    refine own_callS (pc' := 44) w64 (own_w96 hw) (own_w97 hw) (own_w28 hw) (own_w98 hw) (by decide) (own_ct_isSp l Z a0 hw EL hE n0 [] h0 (own_old w64) c2 ) all0 (argsL := [(.int c2)]) (rest := []) rfl rfl own_pd12 rfl own_d15_41 rfl (by decide) (W := 0) rfl (by decide) (by decide) (by decide) fun T70 h72 v73 ms74 w71 q75 => ?_
    obtain ⟨rfl, rfl, rfl⟩ := q75
    show own_Go Z EL n0 p e below s _ _ _ (T70.setTop (mkF m 44 _ [(.int (if own_sp c2 then 1 else 0))]))
    refine own_if (pc' := 47) w71 own_d15_44 rfl (by decide) (pcY := 53) rfl (fun (hb44_2 : (if own_sp c2 then 1 else 0) = (0 : Int32)) => ?_) (fun (hb44_2 : ¬ (if own_sp c2 then 1 else 0) = (0 : Int32)) => ?_)
    ·
     refine own_aloadN (pc' := 54) w71 own_d15_53 rfl rfl rfl ?_
     refine own_iloadN (pc' := 55) w71 own_d15_54 rfl rfl ?_
     refine own_iloadN (pc' := 56) w71 own_d15_55 rfl rfl ?_
     refine own_callV (pc' := 59) w71 (own_w41 hw) (own_w42 hw) (fun s' hZ' => notFace_of_selects (args := #[]) (mvT hZ' (own_w44 hw))) (own_w44 hw) (own_w43 hw) (own_w7 hw) (own_w45 hw) (by decide) E_tx (own_ct_subC l Z a0 hw EL hE n0 [] h0 (own_old w71) tx (0 : Int32) (3 : Int32) t kb (5 : Int32) ((([c0, c1, c2, c3, c4] : List Int32).map (fun (c : Int32) => c.toInt8.toInt32)).map Value.int) ([c0, c1, c2, c3, c4] : List Int32) (3 : Int32) 0 3 z5 fm E_tx F_tx_coder F_tx_value A_t ((own_cod (cs := ([c0, c1, c2, c3, c4] : List Int32)) (n := 5) rfl (own_allS b0 (own_allS b1 (own_allS b2 (own_allS b3 (own_allS b4 own_all0))))))) (own_up ([c0, c1, c2, c3, c4] : List Int32) (own_allS b0 (own_allS b1 (own_allS b2 (own_allS b3 (own_allS b4 own_all0)))))) ((Nat.le_of_ble_eq_true rfl)) S_COMPACT_STRINGS (P5) S_SIOOBE_FORMATTER (hfm) (by decide) (rfl) (by decide) (by decide) (by decide)) all0 (argsL := [(.int (0 : Int32)), (.int (3 : Int32))]) (rest := []) rfl rfl own_pd10 rfl own_d15_56 rfl (by decide) (W := 0) rfl (by decide) (by decide) (by decide) fun T76 h78 v79 ms80 w77 q81 => ?_
     obtain ⟨K85, r_82, t2_83, kA_84, rfl, rfl, nw_E_r_82, nw_F_r_82_coder, nw_F_r_82_value, nw_A_t2_83, p56_subC_0⟩ := q81
     have ne_t_r_82 : t ≠ r_82 := Nat.ne_of_lt (Nat.lt_of_lt_of_le A_t.lt p56_subC_0)
     have ne_tx_r_82 : tx ≠ r_82 := Nat.ne_of_lt (Nat.lt_of_lt_of_le E_tx.lt p56_subC_0)
     have nw_r_82 : h0.size ≤ r_82 := Nat.le_trans K.1 p56_subC_0
     replace E_tx := E_tx.keep K85
     replace F_tx_coder := F_tx_coder.keep K85 nin0
     replace F_tx_value := F_tx_value.keep K85 nin0
     replace A_t := A_t.keep K85 nin0
     replace K := K.trans K85 all0
     have E_r_82 := nw_E_r_82; clear nw_E_r_82
     have F_r_82_coder := nw_F_r_82_coder; clear nw_F_r_82_coder
     have F_r_82_value := nw_F_r_82_value; clear nw_F_r_82_value
     have A_t2_83 := nw_A_t2_83; clear nw_A_t2_83
     show own_Go Z EL n0 p e below s _ _ _ (T76.setTop (mkF m 59 _ [(.ref r_82)]))
     have k_c0 := own_sp1 hb20
     have k_c4 := own_sp0 hb44
     have k_c3 := own_sp0 hb44_1
     have k_c2 := own_sp1 hb44_2
     exact own_retV w77 (t := (.object "java/lang/String")) rfl (own_narR rfl rfl) (Or.inr (Or.inr (Or.inr (Or.inr ⟨rfl, rfl, rfl⟩)))) own_d15_59 (by decide) (by decide) (ms' := []) all0 ⟨K, r_82, t2_83, kA_84, (3 : Int32), (own_sl ((([c0, c1, c2, c3, c4] : List Int32).map (fun (c : Int32) => c.toInt8.toInt32)).map Value.int) 0 3), ([c0, c1, c2] : List Int32), rfl, rfl, E_r_82, F_r_82_coder, F_r_82_value, A_t2_83, (own_cod (cs := ([c0, c1, c2] : List Int32)) (n := 3) rfl (own_allS b0 (own_allS b1 (own_allS b2 own_all0)))), (own_up ([c0, c1, c2] : List Int32) (own_allS b0 (own_allS b1 (own_allS b2 own_all0)))), (Nat.le_of_ble_eq_true rfl), (by simp [own_trim, List.dropWhile, k_c0, k_c4, k_c3, k_c2])⟩
    ·
     refine own_iinc (pc' := 50) w71 own_d15_47 rfl (y := (2 : Int32)) (by decide) (Ls' := #[.val (.ref tx), .val (.int (0 : Int32)), .val (.int (2 : Int32))]) rfl rfl ?_
     refine own_goto w71 own_d15_50 (by decide) (pc' := 29) rfl ?_
     refine own_iloadN (pc' := 30) w71 own_d15_29 rfl rfl ?_
     refine own_iloadN (pc' := 31) w71 own_d15_30 rfl rfl ?_
     refine own_icmp (pc' := 34) w71 own_d15_31 rfl (by decide) (pcY := 53) rfl (fun (hb31_3 : ¬ (0 : Int32) < (2 : Int32)) => absurd hb31_3 (by decide)) (fun (hb31_3 : (0 : Int32) < (2 : Int32)) => ?_)
     refine own_aloadN (pc' := 35) w71 own_d15_34 rfl rfl rfl ?_
     refine own_iloadN (pc' := 36) w71 own_d15_35 rfl rfl ?_
     refine own_iconst (pc' := 37) w71 own_d15_36 (x := (1 : Int32)) rfl rfl ?_
     refine own_isub (pc' := 38) w71 own_d15_37 (z := (1 : Int32)) (by decide) rfl ?_
     refine own_callVB (pc' := 41) w71 (kc := 0) (nc := 0) (own_w76 hw) (own_w77 hw) (fun s' hZ' => notFace_of_selects (args := #[]) (mvT hZ' (own_w79 hw))) (own_w79 hw) (own_w78 hw) (by decide) E_tx (QQ := fun v h' L => (v = some (.int c1)) ∧ L = [] ∧ h' = h0) (fun s' hZ' => StrChars.Road.chN (W := 0) hZ' (own_hwc hw) (kI := 4) (own_w6 hw) E_tx F_tx_value F_tx_coder A_t (own_cod (cs := ([c0, c1, c2, c3, c4] : List Int32)) (n := 5) rfl (own_allS b0 (own_allS b1 (own_allS b2 (own_allS b3 (own_allS b4 own_all0)))))) (own_up ([c0, c1, c2, c3, c4] : List Int32) (own_allS b0 (own_allS b1 (own_allS b2 (own_allS b3 (own_allS b4 own_all0)))))) (S_COMPACT_STRINGS.ext (own_old w71).2) P5 (S_SIOOBE_FORMATTER.ext (own_old w71).2) hfm (Nat.le_of_ble_eq_true rfl) (i := 1) (Nat.le_of_ble_eq_true rfl) rfl (by decide) (by decide)) (ws := []) all0 (fun v h' L q => ⟨q.2.2 ▸ Keep.refl _ _, q.2.1 ▸ Fr.nil _⟩) (argsL := [(.int (1 : Int32))]) (rest := []) rfl rfl own_pd11 rfl own_d15_38 rfl (Nat.le_of_eq rfl) (by decide) (by decide) fun T86 h88 v89 w87 K90 q91 => ?_
     obtain ⟨_, rfl, -, e92⟩ := q91
     rw [e92] at w87
     show own_Go Z EL n0 p e below s _ _ _ (T86.setTop (mkF m 41 _ [(.int c1)]))
     refine own_callS (pc' := 44) w87 (own_w96 hw) (own_w97 hw) (own_w28 hw) (own_w98 hw) (by decide) (own_ct_isSp l Z a0 hw EL hE n0 [] h0 (own_old w87) c1 ) all0 (argsL := [(.int c1)]) (rest := []) rfl rfl own_pd12 rfl own_d15_41 rfl (by decide) (W := 0) rfl (by decide) (by decide) (by decide) fun T93 h95 v96 ms97 w94 q98 => ?_
     obtain ⟨rfl, rfl, rfl⟩ := q98
     show own_Go Z EL n0 p e below s _ _ _ (T93.setTop (mkF m 44 _ [(.int (if own_sp c1 then 1 else 0))]))
     refine own_if (pc' := 47) w94 own_d15_44 rfl (by decide) (pcY := 53) rfl (fun (hb44_3 : (if own_sp c1 then 1 else 0) = (0 : Int32)) => ?_) (fun (hb44_3 : ¬ (if own_sp c1 then 1 else 0) = (0 : Int32)) => ?_)
     ·
      refine own_aloadN (pc' := 54) w94 own_d15_53 rfl rfl rfl ?_
      refine own_iloadN (pc' := 55) w94 own_d15_54 rfl rfl ?_
      refine own_iloadN (pc' := 56) w94 own_d15_55 rfl rfl ?_
      refine own_callV (pc' := 59) w94 (own_w41 hw) (own_w42 hw) (fun s' hZ' => notFace_of_selects (args := #[]) (mvT hZ' (own_w44 hw))) (own_w44 hw) (own_w43 hw) (own_w7 hw) (own_w45 hw) (by decide) E_tx (own_ct_subC l Z a0 hw EL hE n0 [] h0 (own_old w94) tx (0 : Int32) (2 : Int32) t kb (5 : Int32) ((([c0, c1, c2, c3, c4] : List Int32).map (fun (c : Int32) => c.toInt8.toInt32)).map Value.int) ([c0, c1, c2, c3, c4] : List Int32) (2 : Int32) 0 2 z5 fm E_tx F_tx_coder F_tx_value A_t ((own_cod (cs := ([c0, c1, c2, c3, c4] : List Int32)) (n := 5) rfl (own_allS b0 (own_allS b1 (own_allS b2 (own_allS b3 (own_allS b4 own_all0))))))) (own_up ([c0, c1, c2, c3, c4] : List Int32) (own_allS b0 (own_allS b1 (own_allS b2 (own_allS b3 (own_allS b4 own_all0)))))) ((Nat.le_of_ble_eq_true rfl)) S_COMPACT_STRINGS (P5) S_SIOOBE_FORMATTER (hfm) (by decide) (rfl) (by decide) (by decide) (by decide)) all0 (argsL := [(.int (0 : Int32)), (.int (2 : Int32))]) (rest := []) rfl rfl own_pd10 rfl own_d15_56 rfl (by decide) (W := 0) rfl (by decide) (by decide) (by decide) fun T99 h101 v102 ms103 w100 q104 => ?_
      obtain ⟨K108, r_105, t2_106, kA_107, rfl, rfl, nw_E_r_105, nw_F_r_105_coder, nw_F_r_105_value, nw_A_t2_106, p56_subC_0⟩ := q104
      have ne_t_r_105 : t ≠ r_105 := Nat.ne_of_lt (Nat.lt_of_lt_of_le A_t.lt p56_subC_0)
      have ne_tx_r_105 : tx ≠ r_105 := Nat.ne_of_lt (Nat.lt_of_lt_of_le E_tx.lt p56_subC_0)
      have nw_r_105 : h0.size ≤ r_105 := Nat.le_trans K.1 p56_subC_0
      replace E_tx := E_tx.keep K108
      replace F_tx_coder := F_tx_coder.keep K108 nin0
      replace F_tx_value := F_tx_value.keep K108 nin0
      replace A_t := A_t.keep K108 nin0
      replace K := K.trans K108 all0
      have E_r_105 := nw_E_r_105; clear nw_E_r_105
      have F_r_105_coder := nw_F_r_105_coder; clear nw_F_r_105_coder
      have F_r_105_value := nw_F_r_105_value; clear nw_F_r_105_value
      have A_t2_106 := nw_A_t2_106; clear nw_A_t2_106
      show own_Go Z EL n0 p e below s _ _ _ (T99.setTop (mkF m 59 _ [(.ref r_105)]))
      have k_c0 := own_sp1 hb20
      have k_c4 := own_sp0 hb44
      have k_c3 := own_sp0 hb44_1
      have k_c2 := own_sp0 hb44_2
      have k_c1 := own_sp1 hb44_3
      exact own_retV w100 (t := (.object "java/lang/String")) rfl (own_narR rfl rfl) (Or.inr (Or.inr (Or.inr (Or.inr ⟨rfl, rfl, rfl⟩)))) own_d15_59 (by decide) (by decide) (ms' := []) all0 ⟨K, r_105, t2_106, kA_107, (2 : Int32), (own_sl ((([c0, c1, c2, c3, c4] : List Int32).map (fun (c : Int32) => c.toInt8.toInt32)).map Value.int) 0 2), ([c0, c1] : List Int32), rfl, rfl, E_r_105, F_r_105_coder, F_r_105_value, A_t2_106, (own_cod (cs := ([c0, c1] : List Int32)) (n := 2) rfl (own_allS b0 (own_allS b1 own_all0))), (own_up ([c0, c1] : List Int32) (own_allS b0 (own_allS b1 own_all0))), (Nat.le_of_ble_eq_true rfl), (by simp [own_trim, List.dropWhile, k_c0, k_c4, k_c3, k_c2, k_c1])⟩
     ·
      refine own_iinc (pc' := 50) w94 own_d15_47 rfl (y := (1 : Int32)) (by decide) (Ls' := #[.val (.ref tx), .val (.int (0 : Int32)), .val (.int (1 : Int32))]) rfl rfl ?_
      refine own_goto w94 own_d15_50 (by decide) (pc' := 29) rfl ?_
      refine own_iloadN (pc' := 30) w94 own_d15_29 rfl rfl ?_
      refine own_iloadN (pc' := 31) w94 own_d15_30 rfl rfl ?_
      refine own_icmp (pc' := 34) w94 own_d15_31 rfl (by decide) (pcY := 53) rfl (fun (hb31_4 : ¬ (0 : Int32) < (1 : Int32)) => absurd hb31_4 (by decide)) (fun (hb31_4 : (0 : Int32) < (1 : Int32)) => ?_)
      refine own_aloadN (pc' := 35) w94 own_d15_34 rfl rfl rfl ?_
      refine own_iloadN (pc' := 36) w94 own_d15_35 rfl rfl ?_
      refine own_iconst (pc' := 37) w94 own_d15_36 (x := (1 : Int32)) rfl rfl ?_
      refine own_isub (pc' := 38) w94 own_d15_37 (z := (0 : Int32)) (by decide) rfl ?_
      refine own_callVB (pc' := 41) w94 (kc := 0) (nc := 0) (own_w76 hw) (own_w77 hw) (fun s' hZ' => notFace_of_selects (args := #[]) (mvT hZ' (own_w79 hw))) (own_w79 hw) (own_w78 hw) (by decide) E_tx (QQ := fun v h' L => (v = some (.int c0)) ∧ L = [] ∧ h' = h0) (fun s' hZ' => StrChars.Road.chN (W := 0) hZ' (own_hwc hw) (kI := 4) (own_w6 hw) E_tx F_tx_value F_tx_coder A_t (own_cod (cs := ([c0, c1, c2, c3, c4] : List Int32)) (n := 5) rfl (own_allS b0 (own_allS b1 (own_allS b2 (own_allS b3 (own_allS b4 own_all0)))))) (own_up ([c0, c1, c2, c3, c4] : List Int32) (own_allS b0 (own_allS b1 (own_allS b2 (own_allS b3 (own_allS b4 own_all0)))))) (S_COMPACT_STRINGS.ext (own_old w94).2) P5 (S_SIOOBE_FORMATTER.ext (own_old w94).2) hfm (Nat.le_of_ble_eq_true rfl) (i := 0) (Nat.le_of_ble_eq_true rfl) rfl (by decide) (by decide)) (ws := []) all0 (fun v h' L q => ⟨q.2.2 ▸ Keep.refl _ _, q.2.1 ▸ Fr.nil _⟩) (argsL := [(.int (0 : Int32))]) (rest := []) rfl rfl own_pd11 rfl own_d15_38 rfl (Nat.le_of_eq rfl) (by decide) (by decide) fun T109 h111 v112 w110 K113 q114 => ?_
      obtain ⟨_, rfl, -, e115⟩ := q114
      rw [e115] at w110
      show own_Go Z EL n0 p e below s _ _ _ (T109.setTop (mkF m 41 _ [(.int c0)]))
      refine own_callS (pc' := 44) w110 (own_w96 hw) (own_w97 hw) (own_w28 hw) (own_w98 hw) (by decide) (own_ct_isSp l Z a0 hw EL hE n0 [] h0 (own_old w110) c0 ) all0 (argsL := [(.int c0)]) (rest := []) rfl rfl own_pd12 rfl own_d15_41 rfl (by decide) (W := 0) rfl (by decide) (by decide) (by decide) fun T116 h118 v119 ms120 w117 q121 => ?_
      obtain ⟨rfl, rfl, rfl⟩ := q121
      show own_Go Z EL n0 p e below s _ _ _ (T116.setTop (mkF m 44 _ [(.int (if own_sp c0 then 1 else 0))]))
      refine own_if (pc' := 47) w117 own_d15_44 rfl (by decide) (pcY := 53) rfl (fun (hb44_4 : (if own_sp c0 then 1 else 0) = (0 : Int32)) => ?_) (fun (hb44_4 : ¬ (if own_sp c0 then 1 else 0) = (0 : Int32)) => absurd hb20 hb44_4)
      refine own_aloadN (pc' := 54) w117 own_d15_53 rfl rfl rfl ?_
      refine own_iloadN (pc' := 55) w117 own_d15_54 rfl rfl ?_
      refine own_iloadN (pc' := 56) w117 own_d15_55 rfl rfl ?_
      refine own_callV (pc' := 59) w117 (own_w41 hw) (own_w42 hw) (fun s' hZ' => notFace_of_selects (args := #[]) (mvT hZ' (own_w44 hw))) (own_w44 hw) (own_w43 hw) (own_w7 hw) (own_w45 hw) (by decide) E_tx (own_ct_subC l Z a0 hw EL hE n0 [] h0 (own_old w117) tx (0 : Int32) (1 : Int32) t kb (5 : Int32) ((([c0, c1, c2, c3, c4] : List Int32).map (fun (c : Int32) => c.toInt8.toInt32)).map Value.int) ([c0, c1, c2, c3, c4] : List Int32) (1 : Int32) 0 1 z5 fm E_tx F_tx_coder F_tx_value A_t ((own_cod (cs := ([c0, c1, c2, c3, c4] : List Int32)) (n := 5) rfl (own_allS b0 (own_allS b1 (own_allS b2 (own_allS b3 (own_allS b4 own_all0))))))) (own_up ([c0, c1, c2, c3, c4] : List Int32) (own_allS b0 (own_allS b1 (own_allS b2 (own_allS b3 (own_allS b4 own_all0)))))) ((Nat.le_of_ble_eq_true rfl)) S_COMPACT_STRINGS (P5) S_SIOOBE_FORMATTER (hfm) (by decide) (rfl) (by decide) (by decide) (by decide)) all0 (argsL := [(.int (0 : Int32)), (.int (1 : Int32))]) (rest := []) rfl rfl own_pd10 rfl own_d15_56 rfl (by decide) (W := 0) rfl (by decide) (by decide) (by decide) fun T122 h124 v125 ms126 w123 q127 => ?_
      obtain ⟨K131, r_128, t2_129, kA_130, rfl, rfl, nw_E_r_128, nw_F_r_128_coder, nw_F_r_128_value, nw_A_t2_129, p56_subC_0⟩ := q127
      have ne_t_r_128 : t ≠ r_128 := Nat.ne_of_lt (Nat.lt_of_lt_of_le A_t.lt p56_subC_0)
      have ne_tx_r_128 : tx ≠ r_128 := Nat.ne_of_lt (Nat.lt_of_lt_of_le E_tx.lt p56_subC_0)
      have nw_r_128 : h0.size ≤ r_128 := Nat.le_trans K.1 p56_subC_0
      replace E_tx := E_tx.keep K131
      replace F_tx_coder := F_tx_coder.keep K131 nin0
      replace F_tx_value := F_tx_value.keep K131 nin0
      replace A_t := A_t.keep K131 nin0
      replace K := K.trans K131 all0
      have E_r_128 := nw_E_r_128; clear nw_E_r_128
      have F_r_128_coder := nw_F_r_128_coder; clear nw_F_r_128_coder
      have F_r_128_value := nw_F_r_128_value; clear nw_F_r_128_value
      have A_t2_129 := nw_A_t2_129; clear nw_A_t2_129
      show own_Go Z EL n0 p e below s _ _ _ (T122.setTop (mkF m 59 _ [(.ref r_128)]))
      have k_c0 := own_sp1 hb20
      have k_c4 := own_sp0 hb44
      have k_c3 := own_sp0 hb44_1
      have k_c2 := own_sp0 hb44_2
      have k_c1 := own_sp0 hb44_3
      exact own_retV w123 (t := (.object "java/lang/String")) rfl (own_narR rfl rfl) (Or.inr (Or.inr (Or.inr (Or.inr ⟨rfl, rfl, rfl⟩)))) own_d15_59 (by decide) (by decide) (ms' := []) all0 ⟨K, r_128, t2_129, kA_130, (1 : Int32), (own_sl ((([c0, c1, c2, c3, c4] : List Int32).map (fun (c : Int32) => c.toInt8.toInt32)).map Value.int) 0 1), ([c0] : List Int32), rfl, rfl, E_r_128, F_r_128_coder, F_r_128_value, A_t2_129, (own_cod (cs := ([c0] : List Int32)) (n := 1) rfl (own_allS b0 own_all0)), (own_up ([c0] : List Int32) (own_allS b0 own_all0)), (Nat.le_of_ble_eq_true rfl), (by simp [own_trim, List.dropWhile, k_c0, k_c4, k_c3, k_c2, k_c1])⟩
 ·
  refine own_iinc (pc' := 26) w16 own_d15_23 rfl (y := (1 : Int32)) (by decide) (Ls' := #[.val (.ref tx), .val (.int (1 : Int32)), .val (.int (5 : Int32))]) rfl rfl ?_
  refine own_goto w16 own_d15_26 (by decide) (pc' := 7) rfl ?_
  refine own_iloadN (pc' := 8) w16 own_d15_7 rfl rfl ?_
  refine own_iloadN (pc' := 9) w16 own_d15_8 rfl rfl ?_
  refine own_icmp (pc' := 12) w16 own_d15_9 rfl (by decide) (pcY := 29) rfl (fun (hb9_1 : ¬ (1 : Int32) < (5 : Int32)) => absurd hb9_1 (by decide)) (fun (hb9_1 : (1 : Int32) < (5 : Int32)) => ?_)
  refine own_aloadN (pc' := 13) w16 own_d15_12 rfl rfl rfl ?_
  refine own_iloadN (pc' := 14) w16 own_d15_13 rfl rfl ?_
  refine own_callVB (pc' := 17) w16 (kc := 0) (nc := 0) (own_w76 hw) (own_w77 hw) (fun s' hZ' => notFace_of_selects (args := #[]) (mvT hZ' (own_w79 hw))) (own_w79 hw) (own_w78 hw) (by decide) E_tx (QQ := fun v h' L => (v = some (.int c1)) ∧ L = [] ∧ h' = h0) (fun s' hZ' => StrChars.Road.chN (W := 0) hZ' (own_hwc hw) (kI := 4) (own_w6 hw) E_tx F_tx_value F_tx_coder A_t (own_cod (cs := ([c0, c1, c2, c3, c4] : List Int32)) (n := 5) rfl (own_allS b0 (own_allS b1 (own_allS b2 (own_allS b3 (own_allS b4 own_all0)))))) (own_up ([c0, c1, c2, c3, c4] : List Int32) (own_allS b0 (own_allS b1 (own_allS b2 (own_allS b3 (own_allS b4 own_all0)))))) (S_COMPACT_STRINGS.ext (own_old w16).2) P5 (S_SIOOBE_FORMATTER.ext (own_old w16).2) hfm (Nat.le_of_ble_eq_true rfl) (i := 1) (Nat.le_of_ble_eq_true rfl) rfl (by decide) (by decide)) (ws := []) all0 (fun v h' L q => ⟨q.2.2 ▸ Keep.refl _ _, q.2.1 ▸ Fr.nil _⟩) (argsL := [(.int (1 : Int32))]) (rest := []) rfl rfl own_pd11 rfl own_d15_14 rfl (Nat.le_of_eq rfl) (by decide) (by decide) fun T132 h134 v135 w133 K136 q137 => ?_
  obtain ⟨_, rfl, -, e138⟩ := q137
  rw [e138] at w133
  show own_Go Z EL n0 p e below s _ _ _ (T132.setTop (mkF m 17 _ [(.int c1)]))
  refine own_callS (pc' := 20) w133 (own_w96 hw) (own_w97 hw) (own_w28 hw) (own_w98 hw) (by decide) (own_ct_isSp l Z a0 hw EL hE n0 [] h0 (own_old w133) c1 ) all0 (argsL := [(.int c1)]) (rest := []) rfl rfl own_pd12 rfl own_d15_17 rfl (by decide) (W := 0) rfl (by decide) (by decide) (by decide) fun T139 h141 v142 ms143 w140 q144 => ?_
  obtain ⟨rfl, rfl, rfl⟩ := q144
  show own_Go Z EL n0 p e below s _ _ _ (T139.setTop (mkF m 20 _ [(.int (if own_sp c1 then 1 else 0))]))
  refine own_if (pc' := 23) w140 own_d15_20 rfl (by decide) (pcY := 29) rfl (fun (hb20_1 : (if own_sp c1 then 1 else 0) = (0 : Int32)) => ?_) (fun (hb20_1 : ¬ (if own_sp c1 then 1 else 0) = (0 : Int32)) => ?_)
  ·
   refine own_iloadN (pc' := 30) w140 own_d15_29 rfl rfl ?_
   refine own_iloadN (pc' := 31) w140 own_d15_30 rfl rfl ?_
   refine own_icmp (pc' := 34) w140 own_d15_31 rfl (by decide) (pcY := 53) rfl (fun (hb31 : ¬ (1 : Int32) < (5 : Int32)) => absurd hb31 (by decide)) (fun (hb31 : (1 : Int32) < (5 : Int32)) => ?_)
   refine own_aloadN (pc' := 35) w140 own_d15_34 rfl rfl rfl ?_
   refine own_iloadN (pc' := 36) w140 own_d15_35 rfl rfl ?_
   refine own_iconst (pc' := 37) w140 own_d15_36 (x := (1 : Int32)) rfl rfl ?_
   refine own_isub (pc' := 38) w140 own_d15_37 (z := (4 : Int32)) (by decide) rfl ?_
   refine own_callVB (pc' := 41) w140 (kc := 0) (nc := 0) (own_w76 hw) (own_w77 hw) (fun s' hZ' => notFace_of_selects (args := #[]) (mvT hZ' (own_w79 hw))) (own_w79 hw) (own_w78 hw) (by decide) E_tx (QQ := fun v h' L => (v = some (.int c4)) ∧ L = [] ∧ h' = h0) (fun s' hZ' => StrChars.Road.chN (W := 0) hZ' (own_hwc hw) (kI := 4) (own_w6 hw) E_tx F_tx_value F_tx_coder A_t (own_cod (cs := ([c0, c1, c2, c3, c4] : List Int32)) (n := 5) rfl (own_allS b0 (own_allS b1 (own_allS b2 (own_allS b3 (own_allS b4 own_all0)))))) (own_up ([c0, c1, c2, c3, c4] : List Int32) (own_allS b0 (own_allS b1 (own_allS b2 (own_allS b3 (own_allS b4 own_all0)))))) (S_COMPACT_STRINGS.ext (own_old w140).2) P5 (S_SIOOBE_FORMATTER.ext (own_old w140).2) hfm (Nat.le_of_ble_eq_true rfl) (i := 4) (Nat.le_of_ble_eq_true rfl) rfl (by decide) (by decide)) (ws := []) all0 (fun v h' L q => ⟨q.2.2 ▸ Keep.refl _ _, q.2.1 ▸ Fr.nil _⟩) (argsL := [(.int (4 : Int32))]) (rest := []) rfl rfl own_pd11 rfl own_d15_38 rfl (Nat.le_of_eq rfl) (by decide) (by decide) fun T145 h147 v148 w146 K149 q150 => ?_
   obtain ⟨_, rfl, -, e151⟩ := q150
   rw [e151] at w146
   show own_Go Z EL n0 p e below s _ _ _ (T145.setTop (mkF m 41 _ [(.int c4)]))
   refine own_callS (pc' := 44) w146 (own_w96 hw) (own_w97 hw) (own_w28 hw) (own_w98 hw) (by decide) (own_ct_isSp l Z a0 hw EL hE n0 [] h0 (own_old w146) c4 ) all0 (argsL := [(.int c4)]) (rest := []) rfl rfl own_pd12 rfl own_d15_41 rfl (by decide) (W := 0) rfl (by decide) (by decide) (by decide) fun T152 h154 v155 ms156 w153 q157 => ?_
   obtain ⟨rfl, rfl, rfl⟩ := q157
   show own_Go Z EL n0 p e below s _ _ _ (T152.setTop (mkF m 44 _ [(.int (if own_sp c4 then 1 else 0))]))
   refine own_if (pc' := 47) w153 own_d15_44 rfl (by decide) (pcY := 53) rfl (fun (hb44 : (if own_sp c4 then 1 else 0) = (0 : Int32)) => ?_) (fun (hb44 : ¬ (if own_sp c4 then 1 else 0) = (0 : Int32)) => ?_)
   ·
    refine own_aloadN (pc' := 54) w153 own_d15_53 rfl rfl rfl ?_
    refine own_iloadN (pc' := 55) w153 own_d15_54 rfl rfl ?_
    refine own_iloadN (pc' := 56) w153 own_d15_55 rfl rfl ?_
    refine own_callV (pc' := 59) w153 (own_w41 hw) (own_w42 hw) (fun s' hZ' => notFace_of_selects (args := #[]) (mvT hZ' (own_w44 hw))) (own_w44 hw) (own_w43 hw) (own_w7 hw) (own_w45 hw) (by decide) E_tx (own_ct_subC l Z a0 hw EL hE n0 [] h0 (own_old w153) tx (1 : Int32) (5 : Int32) t kb (5 : Int32) ((([c0, c1, c2, c3, c4] : List Int32).map (fun (c : Int32) => c.toInt8.toInt32)).map Value.int) ([c0, c1, c2, c3, c4] : List Int32) (4 : Int32) 1 4 z5 fm E_tx F_tx_coder F_tx_value A_t ((own_cod (cs := ([c0, c1, c2, c3, c4] : List Int32)) (n := 5) rfl (own_allS b0 (own_allS b1 (own_allS b2 (own_allS b3 (own_allS b4 own_all0))))))) (own_up ([c0, c1, c2, c3, c4] : List Int32) (own_allS b0 (own_allS b1 (own_allS b2 (own_allS b3 (own_allS b4 own_all0)))))) ((Nat.le_of_ble_eq_true rfl)) S_COMPACT_STRINGS (P5) S_SIOOBE_FORMATTER (hfm) (by decide) (rfl) (by decide) (by decide) (by decide)) all0 (argsL := [(.int (1 : Int32)), (.int (5 : Int32))]) (rest := []) rfl rfl own_pd10 rfl own_d15_56 rfl (by decide) (W := 0) rfl (by decide) (by decide) (by decide) fun T158 h160 v161 ms162 w159 q163 => ?_
    obtain ⟨K167, r_164, t2_165, kA_166, rfl, rfl, nw_E_r_164, nw_F_r_164_coder, nw_F_r_164_value, nw_A_t2_165, p56_subC_0⟩ := q163
    have ne_t_r_164 : t ≠ r_164 := Nat.ne_of_lt (Nat.lt_of_lt_of_le A_t.lt p56_subC_0)
    have ne_tx_r_164 : tx ≠ r_164 := Nat.ne_of_lt (Nat.lt_of_lt_of_le E_tx.lt p56_subC_0)
    have nw_r_164 : h0.size ≤ r_164 := Nat.le_trans K.1 p56_subC_0
    replace E_tx := E_tx.keep K167
    replace F_tx_coder := F_tx_coder.keep K167 nin0
    replace F_tx_value := F_tx_value.keep K167 nin0
    replace A_t := A_t.keep K167 nin0
    replace K := K.trans K167 all0
    have E_r_164 := nw_E_r_164; clear nw_E_r_164
    have F_r_164_coder := nw_F_r_164_coder; clear nw_F_r_164_coder
    have F_r_164_value := nw_F_r_164_value; clear nw_F_r_164_value
    have A_t2_165 := nw_A_t2_165; clear nw_A_t2_165
    show own_Go Z EL n0 p e below s _ _ _ (T158.setTop (mkF m 59 _ [(.ref r_164)]))
    have k_c0 := own_sp0 hb20
    have k_c1 := own_sp1 hb20_1
    have k_c4 := own_sp1 hb44
    exact own_retV w159 (t := (.object "java/lang/String")) rfl (own_narR rfl rfl) (Or.inr (Or.inr (Or.inr (Or.inr ⟨rfl, rfl, rfl⟩)))) own_d15_59 (by decide) (by decide) (ms' := []) all0 ⟨K, r_164, t2_165, kA_166, (4 : Int32), (own_sl ((([c0, c1, c2, c3, c4] : List Int32).map (fun (c : Int32) => c.toInt8.toInt32)).map Value.int) 1 4), ([c1, c2, c3, c4] : List Int32), rfl, rfl, E_r_164, F_r_164_coder, F_r_164_value, A_t2_165, (own_cod (cs := ([c1, c2, c3, c4] : List Int32)) (n := 4) rfl (own_allS b1 (own_allS b2 (own_allS b3 (own_allS b4 own_all0))))), (own_up ([c1, c2, c3, c4] : List Int32) (own_allS b1 (own_allS b2 (own_allS b3 (own_allS b4 own_all0))))), (Nat.le_of_ble_eq_true rfl), (by simp [own_trim, List.dropWhile, k_c0, k_c1, k_c4])⟩
   ·
    refine own_iinc (pc' := 50) w153 own_d15_47 rfl (y := (4 : Int32)) (by decide) (Ls' := #[.val (.ref tx), .val (.int (1 : Int32)), .val (.int (4 : Int32))]) rfl rfl ?_
    refine own_goto w153 own_d15_50 (by decide) (pc' := 29) rfl ?_
    refine own_iloadN (pc' := 30) w153 own_d15_29 rfl rfl ?_
    refine own_iloadN (pc' := 31) w153 own_d15_30 rfl rfl ?_
    refine own_icmp (pc' := 34) w153 own_d15_31 rfl (by decide) (pcY := 53) rfl (fun (hb31_1 : ¬ (1 : Int32) < (4 : Int32)) => absurd hb31_1 (by decide)) (fun (hb31_1 : (1 : Int32) < (4 : Int32)) => ?_)
    refine own_aloadN (pc' := 35) w153 own_d15_34 rfl rfl rfl ?_
    refine own_iloadN (pc' := 36) w153 own_d15_35 rfl rfl ?_
    refine own_iconst (pc' := 37) w153 own_d15_36 (x := (1 : Int32)) rfl rfl ?_
    refine own_isub (pc' := 38) w153 own_d15_37 (z := (3 : Int32)) (by decide) rfl ?_
    refine own_callVB (pc' := 41) w153 (kc := 0) (nc := 0) (own_w76 hw) (own_w77 hw) (fun s' hZ' => notFace_of_selects (args := #[]) (mvT hZ' (own_w79 hw))) (own_w79 hw) (own_w78 hw) (by decide) E_tx (QQ := fun v h' L => (v = some (.int c3)) ∧ L = [] ∧ h' = h0) (fun s' hZ' => StrChars.Road.chN (W := 0) hZ' (own_hwc hw) (kI := 4) (own_w6 hw) E_tx F_tx_value F_tx_coder A_t (own_cod (cs := ([c0, c1, c2, c3, c4] : List Int32)) (n := 5) rfl (own_allS b0 (own_allS b1 (own_allS b2 (own_allS b3 (own_allS b4 own_all0)))))) (own_up ([c0, c1, c2, c3, c4] : List Int32) (own_allS b0 (own_allS b1 (own_allS b2 (own_allS b3 (own_allS b4 own_all0)))))) (S_COMPACT_STRINGS.ext (own_old w153).2) P5 (S_SIOOBE_FORMATTER.ext (own_old w153).2) hfm (Nat.le_of_ble_eq_true rfl) (i := 3) (Nat.le_of_ble_eq_true rfl) rfl (by decide) (by decide)) (ws := []) all0 (fun v h' L q => ⟨q.2.2 ▸ Keep.refl _ _, q.2.1 ▸ Fr.nil _⟩) (argsL := [(.int (3 : Int32))]) (rest := []) rfl rfl own_pd11 rfl own_d15_38 rfl (Nat.le_of_eq rfl) (by decide) (by decide) fun T168 h170 v171 w169 K172 q173 => ?_
    obtain ⟨_, rfl, -, e174⟩ := q173
    rw [e174] at w169
    show own_Go Z EL n0 p e below s _ _ _ (T168.setTop (mkF m 41 _ [(.int c3)]))
    refine own_callS (pc' := 44) w169 (own_w96 hw) (own_w97 hw) (own_w28 hw) (own_w98 hw) (by decide) (own_ct_isSp l Z a0 hw EL hE n0 [] h0 (own_old w169) c3 ) all0 (argsL := [(.int c3)]) (rest := []) rfl rfl own_pd12 rfl own_d15_41 rfl (by decide) (W := 0) rfl (by decide) (by decide) (by decide) fun T175 h177 v178 ms179 w176 q180 => ?_
    obtain ⟨rfl, rfl, rfl⟩ := q180
    show own_Go Z EL n0 p e below s _ _ _ (T175.setTop (mkF m 44 _ [(.int (if own_sp c3 then 1 else 0))]))
    refine own_if (pc' := 47) w176 own_d15_44 rfl (by decide) (pcY := 53) rfl (fun (hb44_1 : (if own_sp c3 then 1 else 0) = (0 : Int32)) => ?_) (fun (hb44_1 : ¬ (if own_sp c3 then 1 else 0) = (0 : Int32)) => ?_)
    ·
     refine own_aloadN (pc' := 54) w176 own_d15_53 rfl rfl rfl ?_
     refine own_iloadN (pc' := 55) w176 own_d15_54 rfl rfl ?_
     refine own_iloadN (pc' := 56) w176 own_d15_55 rfl rfl ?_
     refine own_callV (pc' := 59) w176 (own_w41 hw) (own_w42 hw) (fun s' hZ' => notFace_of_selects (args := #[]) (mvT hZ' (own_w44 hw))) (own_w44 hw) (own_w43 hw) (own_w7 hw) (own_w45 hw) (by decide) E_tx (own_ct_subC l Z a0 hw EL hE n0 [] h0 (own_old w176) tx (1 : Int32) (4 : Int32) t kb (5 : Int32) ((([c0, c1, c2, c3, c4] : List Int32).map (fun (c : Int32) => c.toInt8.toInt32)).map Value.int) ([c0, c1, c2, c3, c4] : List Int32) (3 : Int32) 1 3 z5 fm E_tx F_tx_coder F_tx_value A_t ((own_cod (cs := ([c0, c1, c2, c3, c4] : List Int32)) (n := 5) rfl (own_allS b0 (own_allS b1 (own_allS b2 (own_allS b3 (own_allS b4 own_all0))))))) (own_up ([c0, c1, c2, c3, c4] : List Int32) (own_allS b0 (own_allS b1 (own_allS b2 (own_allS b3 (own_allS b4 own_all0)))))) ((Nat.le_of_ble_eq_true rfl)) S_COMPACT_STRINGS (P5) S_SIOOBE_FORMATTER (hfm) (by decide) (rfl) (by decide) (by decide) (by decide)) all0 (argsL := [(.int (1 : Int32)), (.int (4 : Int32))]) (rest := []) rfl rfl own_pd10 rfl own_d15_56 rfl (by decide) (W := 0) rfl (by decide) (by decide) (by decide) fun T181 h183 v184 ms185 w182 q186 => ?_
     obtain ⟨K190, r_187, t2_188, kA_189, rfl, rfl, nw_E_r_187, nw_F_r_187_coder, nw_F_r_187_value, nw_A_t2_188, p56_subC_0⟩ := q186
     have ne_t_r_187 : t ≠ r_187 := Nat.ne_of_lt (Nat.lt_of_lt_of_le A_t.lt p56_subC_0)
     have ne_tx_r_187 : tx ≠ r_187 := Nat.ne_of_lt (Nat.lt_of_lt_of_le E_tx.lt p56_subC_0)
     have nw_r_187 : h0.size ≤ r_187 := Nat.le_trans K.1 p56_subC_0
     replace E_tx := E_tx.keep K190
     replace F_tx_coder := F_tx_coder.keep K190 nin0
     replace F_tx_value := F_tx_value.keep K190 nin0
     replace A_t := A_t.keep K190 nin0
     replace K := K.trans K190 all0
     have E_r_187 := nw_E_r_187; clear nw_E_r_187
     have F_r_187_coder := nw_F_r_187_coder; clear nw_F_r_187_coder
     have F_r_187_value := nw_F_r_187_value; clear nw_F_r_187_value
     have A_t2_188 := nw_A_t2_188; clear nw_A_t2_188
     show own_Go Z EL n0 p e below s _ _ _ (T181.setTop (mkF m 59 _ [(.ref r_187)]))
     have k_c0 := own_sp0 hb20
     have k_c1 := own_sp1 hb20_1
     have k_c4 := own_sp0 hb44
     have k_c3 := own_sp1 hb44_1
     exact own_retV w182 (t := (.object "java/lang/String")) rfl (own_narR rfl rfl) (Or.inr (Or.inr (Or.inr (Or.inr ⟨rfl, rfl, rfl⟩)))) own_d15_59 (by decide) (by decide) (ms' := []) all0 ⟨K, r_187, t2_188, kA_189, (3 : Int32), (own_sl ((([c0, c1, c2, c3, c4] : List Int32).map (fun (c : Int32) => c.toInt8.toInt32)).map Value.int) 1 3), ([c1, c2, c3] : List Int32), rfl, rfl, E_r_187, F_r_187_coder, F_r_187_value, A_t2_188, (own_cod (cs := ([c1, c2, c3] : List Int32)) (n := 3) rfl (own_allS b1 (own_allS b2 (own_allS b3 own_all0)))), (own_up ([c1, c2, c3] : List Int32) (own_allS b1 (own_allS b2 (own_allS b3 own_all0)))), (Nat.le_of_ble_eq_true rfl), (by simp [own_trim, List.dropWhile, k_c0, k_c1, k_c4, k_c3])⟩
    ·
     refine own_iinc (pc' := 50) w176 own_d15_47 rfl (y := (3 : Int32)) (by decide) (Ls' := #[.val (.ref tx), .val (.int (1 : Int32)), .val (.int (3 : Int32))]) rfl rfl ?_
     refine own_goto w176 own_d15_50 (by decide) (pc' := 29) rfl ?_
     refine own_iloadN (pc' := 30) w176 own_d15_29 rfl rfl ?_
     refine own_iloadN (pc' := 31) w176 own_d15_30 rfl rfl ?_
     refine own_icmp (pc' := 34) w176 own_d15_31 rfl (by decide) (pcY := 53) rfl (fun (hb31_2 : ¬ (1 : Int32) < (3 : Int32)) => absurd hb31_2 (by decide)) (fun (hb31_2 : (1 : Int32) < (3 : Int32)) => ?_)
     refine own_aloadN (pc' := 35) w176 own_d15_34 rfl rfl rfl ?_
     refine own_iloadN (pc' := 36) w176 own_d15_35 rfl rfl ?_
     refine own_iconst (pc' := 37) w176 own_d15_36 (x := (1 : Int32)) rfl rfl ?_
     refine own_isub (pc' := 38) w176 own_d15_37 (z := (2 : Int32)) (by decide) rfl ?_
     refine own_callVB (pc' := 41) w176 (kc := 0) (nc := 0) (own_w76 hw) (own_w77 hw) (fun s' hZ' => notFace_of_selects (args := #[]) (mvT hZ' (own_w79 hw))) (own_w79 hw) (own_w78 hw) (by decide) E_tx (QQ := fun v h' L => (v = some (.int c2)) ∧ L = [] ∧ h' = h0) (fun s' hZ' => StrChars.Road.chN (W := 0) hZ' (own_hwc hw) (kI := 4) (own_w6 hw) E_tx F_tx_value F_tx_coder A_t (own_cod (cs := ([c0, c1, c2, c3, c4] : List Int32)) (n := 5) rfl (own_allS b0 (own_allS b1 (own_allS b2 (own_allS b3 (own_allS b4 own_all0)))))) (own_up ([c0, c1, c2, c3, c4] : List Int32) (own_allS b0 (own_allS b1 (own_allS b2 (own_allS b3 (own_allS b4 own_all0)))))) (S_COMPACT_STRINGS.ext (own_old w176).2) P5 (S_SIOOBE_FORMATTER.ext (own_old w176).2) hfm (Nat.le_of_ble_eq_true rfl) (i := 2) (Nat.le_of_ble_eq_true rfl) rfl (by decide) (by decide)) (ws := []) all0 (fun v h' L q => ⟨q.2.2 ▸ Keep.refl _ _, q.2.1 ▸ Fr.nil _⟩) (argsL := [(.int (2 : Int32))]) (rest := []) rfl rfl own_pd11 rfl own_d15_38 rfl (Nat.le_of_eq rfl) (by decide) (by decide) fun T191 h193 v194 w192 K195 q196 => ?_
     obtain ⟨_, rfl, -, e197⟩ := q196
     rw [e197] at w192
     show own_Go Z EL n0 p e below s _ _ _ (T191.setTop (mkF m 41 _ [(.int c2)]))
     refine own_callS (pc' := 44) w192 (own_w96 hw) (own_w97 hw) (own_w28 hw) (own_w98 hw) (by decide) (own_ct_isSp l Z a0 hw EL hE n0 [] h0 (own_old w192) c2 ) all0 (argsL := [(.int c2)]) (rest := []) rfl rfl own_pd12 rfl own_d15_41 rfl (by decide) (W := 0) rfl (by decide) (by decide) (by decide) fun T198 h200 v201 ms202 w199 q203 => ?_
     obtain ⟨rfl, rfl, rfl⟩ := q203
     show own_Go Z EL n0 p e below s _ _ _ (T198.setTop (mkF m 44 _ [(.int (if own_sp c2 then 1 else 0))]))
     refine own_if (pc' := 47) w199 own_d15_44 rfl (by decide) (pcY := 53) rfl (fun (hb44_2 : (if own_sp c2 then 1 else 0) = (0 : Int32)) => ?_) (fun (hb44_2 : ¬ (if own_sp c2 then 1 else 0) = (0 : Int32)) => ?_)
     ·
      refine own_aloadN (pc' := 54) w199 own_d15_53 rfl rfl rfl ?_
      refine own_iloadN (pc' := 55) w199 own_d15_54 rfl rfl ?_
      refine own_iloadN (pc' := 56) w199 own_d15_55 rfl rfl ?_
      refine own_callV (pc' := 59) w199 (own_w41 hw) (own_w42 hw) (fun s' hZ' => notFace_of_selects (args := #[]) (mvT hZ' (own_w44 hw))) (own_w44 hw) (own_w43 hw) (own_w7 hw) (own_w45 hw) (by decide) E_tx (own_ct_subC l Z a0 hw EL hE n0 [] h0 (own_old w199) tx (1 : Int32) (3 : Int32) t kb (5 : Int32) ((([c0, c1, c2, c3, c4] : List Int32).map (fun (c : Int32) => c.toInt8.toInt32)).map Value.int) ([c0, c1, c2, c3, c4] : List Int32) (2 : Int32) 1 2 z5 fm E_tx F_tx_coder F_tx_value A_t ((own_cod (cs := ([c0, c1, c2, c3, c4] : List Int32)) (n := 5) rfl (own_allS b0 (own_allS b1 (own_allS b2 (own_allS b3 (own_allS b4 own_all0))))))) (own_up ([c0, c1, c2, c3, c4] : List Int32) (own_allS b0 (own_allS b1 (own_allS b2 (own_allS b3 (own_allS b4 own_all0)))))) ((Nat.le_of_ble_eq_true rfl)) S_COMPACT_STRINGS (P5) S_SIOOBE_FORMATTER (hfm) (by decide) (rfl) (by decide) (by decide) (by decide)) all0 (argsL := [(.int (1 : Int32)), (.int (3 : Int32))]) (rest := []) rfl rfl own_pd10 rfl own_d15_56 rfl (by decide) (W := 0) rfl (by decide) (by decide) (by decide) fun T204 h206 v207 ms208 w205 q209 => ?_
      obtain ⟨K213, r_210, t2_211, kA_212, rfl, rfl, nw_E_r_210, nw_F_r_210_coder, nw_F_r_210_value, nw_A_t2_211, p56_subC_0⟩ := q209
      have ne_t_r_210 : t ≠ r_210 := Nat.ne_of_lt (Nat.lt_of_lt_of_le A_t.lt p56_subC_0)
      have ne_tx_r_210 : tx ≠ r_210 := Nat.ne_of_lt (Nat.lt_of_lt_of_le E_tx.lt p56_subC_0)
      have nw_r_210 : h0.size ≤ r_210 := Nat.le_trans K.1 p56_subC_0
      replace E_tx := E_tx.keep K213
      replace F_tx_coder := F_tx_coder.keep K213 nin0
      replace F_tx_value := F_tx_value.keep K213 nin0
      replace A_t := A_t.keep K213 nin0
      replace K := K.trans K213 all0
      have E_r_210 := nw_E_r_210; clear nw_E_r_210
      have F_r_210_coder := nw_F_r_210_coder; clear nw_F_r_210_coder
      have F_r_210_value := nw_F_r_210_value; clear nw_F_r_210_value
      have A_t2_211 := nw_A_t2_211; clear nw_A_t2_211
      show own_Go Z EL n0 p e below s _ _ _ (T204.setTop (mkF m 59 _ [(.ref r_210)]))
      have k_c0 := own_sp0 hb20
      have k_c1 := own_sp1 hb20_1
      have k_c4 := own_sp0 hb44
      have k_c3 := own_sp0 hb44_1
      have k_c2 := own_sp1 hb44_2
      exact own_retV w205 (t := (.object "java/lang/String")) rfl (own_narR rfl rfl) (Or.inr (Or.inr (Or.inr (Or.inr ⟨rfl, rfl, rfl⟩)))) own_d15_59 (by decide) (by decide) (ms' := []) all0 ⟨K, r_210, t2_211, kA_212, (2 : Int32), (own_sl ((([c0, c1, c2, c3, c4] : List Int32).map (fun (c : Int32) => c.toInt8.toInt32)).map Value.int) 1 2), ([c1, c2] : List Int32), rfl, rfl, E_r_210, F_r_210_coder, F_r_210_value, A_t2_211, (own_cod (cs := ([c1, c2] : List Int32)) (n := 2) rfl (own_allS b1 (own_allS b2 own_all0))), (own_up ([c1, c2] : List Int32) (own_allS b1 (own_allS b2 own_all0))), (Nat.le_of_ble_eq_true rfl), (by simp [own_trim, List.dropWhile, k_c0, k_c1, k_c4, k_c3, k_c2])⟩
     ·
      refine own_iinc (pc' := 50) w199 own_d15_47 rfl (y := (2 : Int32)) (by decide) (Ls' := #[.val (.ref tx), .val (.int (1 : Int32)), .val (.int (2 : Int32))]) rfl rfl ?_
      refine own_goto w199 own_d15_50 (by decide) (pc' := 29) rfl ?_
      refine own_iloadN (pc' := 30) w199 own_d15_29 rfl rfl ?_
      refine own_iloadN (pc' := 31) w199 own_d15_30 rfl rfl ?_
      refine own_icmp (pc' := 34) w199 own_d15_31 rfl (by decide) (pcY := 53) rfl (fun (hb31_3 : ¬ (1 : Int32) < (2 : Int32)) => absurd hb31_3 (by decide)) (fun (hb31_3 : (1 : Int32) < (2 : Int32)) => ?_)
      refine own_aloadN (pc' := 35) w199 own_d15_34 rfl rfl rfl ?_
      refine own_iloadN (pc' := 36) w199 own_d15_35 rfl rfl ?_
      refine own_iconst (pc' := 37) w199 own_d15_36 (x := (1 : Int32)) rfl rfl ?_
      refine own_isub (pc' := 38) w199 own_d15_37 (z := (1 : Int32)) (by decide) rfl ?_
      refine own_callVB (pc' := 41) w199 (kc := 0) (nc := 0) (own_w76 hw) (own_w77 hw) (fun s' hZ' => notFace_of_selects (args := #[]) (mvT hZ' (own_w79 hw))) (own_w79 hw) (own_w78 hw) (by decide) E_tx (QQ := fun v h' L => (v = some (.int c1)) ∧ L = [] ∧ h' = h0) (fun s' hZ' => StrChars.Road.chN (W := 0) hZ' (own_hwc hw) (kI := 4) (own_w6 hw) E_tx F_tx_value F_tx_coder A_t (own_cod (cs := ([c0, c1, c2, c3, c4] : List Int32)) (n := 5) rfl (own_allS b0 (own_allS b1 (own_allS b2 (own_allS b3 (own_allS b4 own_all0)))))) (own_up ([c0, c1, c2, c3, c4] : List Int32) (own_allS b0 (own_allS b1 (own_allS b2 (own_allS b3 (own_allS b4 own_all0)))))) (S_COMPACT_STRINGS.ext (own_old w199).2) P5 (S_SIOOBE_FORMATTER.ext (own_old w199).2) hfm (Nat.le_of_ble_eq_true rfl) (i := 1) (Nat.le_of_ble_eq_true rfl) rfl (by decide) (by decide)) (ws := []) all0 (fun v h' L q => ⟨q.2.2 ▸ Keep.refl _ _, q.2.1 ▸ Fr.nil _⟩) (argsL := [(.int (1 : Int32))]) (rest := []) rfl rfl own_pd11 rfl own_d15_38 rfl (Nat.le_of_eq rfl) (by decide) (by decide) fun T214 h216 v217 w215 K218 q219 => ?_
      obtain ⟨_, rfl, -, e220⟩ := q219
      rw [e220] at w215
      show own_Go Z EL n0 p e below s _ _ _ (T214.setTop (mkF m 41 _ [(.int c1)]))
      refine own_callS (pc' := 44) w215 (own_w96 hw) (own_w97 hw) (own_w28 hw) (own_w98 hw) (by decide) (own_ct_isSp l Z a0 hw EL hE n0 [] h0 (own_old w215) c1 ) all0 (argsL := [(.int c1)]) (rest := []) rfl rfl own_pd12 rfl own_d15_41 rfl (by decide) (W := 0) rfl (by decide) (by decide) (by decide) fun T221 h223 v224 ms225 w222 q226 => ?_
      obtain ⟨rfl, rfl, rfl⟩ := q226
      show own_Go Z EL n0 p e below s _ _ _ (T221.setTop (mkF m 44 _ [(.int (if own_sp c1 then 1 else 0))]))
      refine own_if (pc' := 47) w222 own_d15_44 rfl (by decide) (pcY := 53) rfl (fun (hb44_3 : (if own_sp c1 then 1 else 0) = (0 : Int32)) => ?_) (fun (hb44_3 : ¬ (if own_sp c1 then 1 else 0) = (0 : Int32)) => absurd hb20_1 hb44_3)
      refine own_aloadN (pc' := 54) w222 own_d15_53 rfl rfl rfl ?_
      refine own_iloadN (pc' := 55) w222 own_d15_54 rfl rfl ?_
      refine own_iloadN (pc' := 56) w222 own_d15_55 rfl rfl ?_
      refine own_callV (pc' := 59) w222 (own_w41 hw) (own_w42 hw) (fun s' hZ' => notFace_of_selects (args := #[]) (mvT hZ' (own_w44 hw))) (own_w44 hw) (own_w43 hw) (own_w7 hw) (own_w45 hw) (by decide) E_tx (own_ct_subC l Z a0 hw EL hE n0 [] h0 (own_old w222) tx (1 : Int32) (2 : Int32) t kb (5 : Int32) ((([c0, c1, c2, c3, c4] : List Int32).map (fun (c : Int32) => c.toInt8.toInt32)).map Value.int) ([c0, c1, c2, c3, c4] : List Int32) (1 : Int32) 1 1 z5 fm E_tx F_tx_coder F_tx_value A_t ((own_cod (cs := ([c0, c1, c2, c3, c4] : List Int32)) (n := 5) rfl (own_allS b0 (own_allS b1 (own_allS b2 (own_allS b3 (own_allS b4 own_all0))))))) (own_up ([c0, c1, c2, c3, c4] : List Int32) (own_allS b0 (own_allS b1 (own_allS b2 (own_allS b3 (own_allS b4 own_all0)))))) ((Nat.le_of_ble_eq_true rfl)) S_COMPACT_STRINGS (P5) S_SIOOBE_FORMATTER (hfm) (by decide) (rfl) (by decide) (by decide) (by decide)) all0 (argsL := [(.int (1 : Int32)), (.int (2 : Int32))]) (rest := []) rfl rfl own_pd10 rfl own_d15_56 rfl (by decide) (W := 0) rfl (by decide) (by decide) (by decide) fun T227 h229 v230 ms231 w228 q232 => ?_
      obtain ⟨K236, r_233, t2_234, kA_235, rfl, rfl, nw_E_r_233, nw_F_r_233_coder, nw_F_r_233_value, nw_A_t2_234, p56_subC_0⟩ := q232
      have ne_t_r_233 : t ≠ r_233 := Nat.ne_of_lt (Nat.lt_of_lt_of_le A_t.lt p56_subC_0)
      have ne_tx_r_233 : tx ≠ r_233 := Nat.ne_of_lt (Nat.lt_of_lt_of_le E_tx.lt p56_subC_0)
      have nw_r_233 : h0.size ≤ r_233 := Nat.le_trans K.1 p56_subC_0
      replace E_tx := E_tx.keep K236
      replace F_tx_coder := F_tx_coder.keep K236 nin0
      replace F_tx_value := F_tx_value.keep K236 nin0
      replace A_t := A_t.keep K236 nin0
      replace K := K.trans K236 all0
      have E_r_233 := nw_E_r_233; clear nw_E_r_233
      have F_r_233_coder := nw_F_r_233_coder; clear nw_F_r_233_coder
      have F_r_233_value := nw_F_r_233_value; clear nw_F_r_233_value
      have A_t2_234 := nw_A_t2_234; clear nw_A_t2_234
      show own_Go Z EL n0 p e below s _ _ _ (T227.setTop (mkF m 59 _ [(.ref r_233)]))
      have k_c0 := own_sp0 hb20
      have k_c1 := own_sp1 hb20_1
      have k_c4 := own_sp0 hb44
      have k_c3 := own_sp0 hb44_1
      have k_c2 := own_sp0 hb44_2
      exact own_retV w228 (t := (.object "java/lang/String")) rfl (own_narR rfl rfl) (Or.inr (Or.inr (Or.inr (Or.inr ⟨rfl, rfl, rfl⟩)))) own_d15_59 (by decide) (by decide) (ms' := []) all0 ⟨K, r_233, t2_234, kA_235, (1 : Int32), (own_sl ((([c0, c1, c2, c3, c4] : List Int32).map (fun (c : Int32) => c.toInt8.toInt32)).map Value.int) 1 1), ([c1] : List Int32), rfl, rfl, E_r_233, F_r_233_coder, F_r_233_value, A_t2_234, (own_cod (cs := ([c1] : List Int32)) (n := 1) rfl (own_allS b1 own_all0)), (own_up ([c1] : List Int32) (own_allS b1 own_all0)), (Nat.le_of_ble_eq_true rfl), (by simp [own_trim, List.dropWhile, k_c0, k_c1, k_c4, k_c3, k_c2])⟩
  ·
   refine own_iinc (pc' := 26) w140 own_d15_23 rfl (y := (2 : Int32)) (by decide) (Ls' := #[.val (.ref tx), .val (.int (2 : Int32)), .val (.int (5 : Int32))]) rfl rfl ?_
   refine own_goto w140 own_d15_26 (by decide) (pc' := 7) rfl ?_
   refine own_iloadN (pc' := 8) w140 own_d15_7 rfl rfl ?_
   refine own_iloadN (pc' := 9) w140 own_d15_8 rfl rfl ?_
   refine own_icmp (pc' := 12) w140 own_d15_9 rfl (by decide) (pcY := 29) rfl (fun (hb9_2 : ¬ (2 : Int32) < (5 : Int32)) => absurd hb9_2 (by decide)) (fun (hb9_2 : (2 : Int32) < (5 : Int32)) => ?_)
   refine own_aloadN (pc' := 13) w140 own_d15_12 rfl rfl rfl ?_
   refine own_iloadN (pc' := 14) w140 own_d15_13 rfl rfl ?_
   refine own_callVB (pc' := 17) w140 (kc := 0) (nc := 0) (own_w76 hw) (own_w77 hw) (fun s' hZ' => notFace_of_selects (args := #[]) (mvT hZ' (own_w79 hw))) (own_w79 hw) (own_w78 hw) (by decide) E_tx (QQ := fun v h' L => (v = some (.int c2)) ∧ L = [] ∧ h' = h0) (fun s' hZ' => StrChars.Road.chN (W := 0) hZ' (own_hwc hw) (kI := 4) (own_w6 hw) E_tx F_tx_value F_tx_coder A_t (own_cod (cs := ([c0, c1, c2, c3, c4] : List Int32)) (n := 5) rfl (own_allS b0 (own_allS b1 (own_allS b2 (own_allS b3 (own_allS b4 own_all0)))))) (own_up ([c0, c1, c2, c3, c4] : List Int32) (own_allS b0 (own_allS b1 (own_allS b2 (own_allS b3 (own_allS b4 own_all0)))))) (S_COMPACT_STRINGS.ext (own_old w140).2) P5 (S_SIOOBE_FORMATTER.ext (own_old w140).2) hfm (Nat.le_of_ble_eq_true rfl) (i := 2) (Nat.le_of_ble_eq_true rfl) rfl (by decide) (by decide)) (ws := []) all0 (fun v h' L q => ⟨q.2.2 ▸ Keep.refl _ _, q.2.1 ▸ Fr.nil _⟩) (argsL := [(.int (2 : Int32))]) (rest := []) rfl rfl own_pd11 rfl own_d15_14 rfl (Nat.le_of_eq rfl) (by decide) (by decide) fun T237 h239 v240 w238 K241 q242 => ?_
   obtain ⟨_, rfl, -, e243⟩ := q242
   rw [e243] at w238
   show own_Go Z EL n0 p e below s _ _ _ (T237.setTop (mkF m 17 _ [(.int c2)]))
   refine own_callS (pc' := 20) w238 (own_w96 hw) (own_w97 hw) (own_w28 hw) (own_w98 hw) (by decide) (own_ct_isSp l Z a0 hw EL hE n0 [] h0 (own_old w238) c2 ) all0 (argsL := [(.int c2)]) (rest := []) rfl rfl own_pd12 rfl own_d15_17 rfl (by decide) (W := 0) rfl (by decide) (by decide) (by decide) fun T244 h246 v247 ms248 w245 q249 => ?_
   obtain ⟨rfl, rfl, rfl⟩ := q249
   show own_Go Z EL n0 p e below s _ _ _ (T244.setTop (mkF m 20 _ [(.int (if own_sp c2 then 1 else 0))]))
   refine own_if (pc' := 23) w245 own_d15_20 rfl (by decide) (pcY := 29) rfl (fun (hb20_2 : (if own_sp c2 then 1 else 0) = (0 : Int32)) => ?_) (fun (hb20_2 : ¬ (if own_sp c2 then 1 else 0) = (0 : Int32)) => ?_)
   ·
    refine own_iloadN (pc' := 30) w245 own_d15_29 rfl rfl ?_
    refine own_iloadN (pc' := 31) w245 own_d15_30 rfl rfl ?_
    refine own_icmp (pc' := 34) w245 own_d15_31 rfl (by decide) (pcY := 53) rfl (fun (hb31 : ¬ (2 : Int32) < (5 : Int32)) => absurd hb31 (by decide)) (fun (hb31 : (2 : Int32) < (5 : Int32)) => ?_)
    refine own_aloadN (pc' := 35) w245 own_d15_34 rfl rfl rfl ?_
    refine own_iloadN (pc' := 36) w245 own_d15_35 rfl rfl ?_
    refine own_iconst (pc' := 37) w245 own_d15_36 (x := (1 : Int32)) rfl rfl ?_
    refine own_isub (pc' := 38) w245 own_d15_37 (z := (4 : Int32)) (by decide) rfl ?_
    refine own_callVB (pc' := 41) w245 (kc := 0) (nc := 0) (own_w76 hw) (own_w77 hw) (fun s' hZ' => notFace_of_selects (args := #[]) (mvT hZ' (own_w79 hw))) (own_w79 hw) (own_w78 hw) (by decide) E_tx (QQ := fun v h' L => (v = some (.int c4)) ∧ L = [] ∧ h' = h0) (fun s' hZ' => StrChars.Road.chN (W := 0) hZ' (own_hwc hw) (kI := 4) (own_w6 hw) E_tx F_tx_value F_tx_coder A_t (own_cod (cs := ([c0, c1, c2, c3, c4] : List Int32)) (n := 5) rfl (own_allS b0 (own_allS b1 (own_allS b2 (own_allS b3 (own_allS b4 own_all0)))))) (own_up ([c0, c1, c2, c3, c4] : List Int32) (own_allS b0 (own_allS b1 (own_allS b2 (own_allS b3 (own_allS b4 own_all0)))))) (S_COMPACT_STRINGS.ext (own_old w245).2) P5 (S_SIOOBE_FORMATTER.ext (own_old w245).2) hfm (Nat.le_of_ble_eq_true rfl) (i := 4) (Nat.le_of_ble_eq_true rfl) rfl (by decide) (by decide)) (ws := []) all0 (fun v h' L q => ⟨q.2.2 ▸ Keep.refl _ _, q.2.1 ▸ Fr.nil _⟩) (argsL := [(.int (4 : Int32))]) (rest := []) rfl rfl own_pd11 rfl own_d15_38 rfl (Nat.le_of_eq rfl) (by decide) (by decide) fun T250 h252 v253 w251 K254 q255 => ?_
    obtain ⟨_, rfl, -, e256⟩ := q255
    rw [e256] at w251
    show own_Go Z EL n0 p e below s _ _ _ (T250.setTop (mkF m 41 _ [(.int c4)]))
    refine own_callS (pc' := 44) w251 (own_w96 hw) (own_w97 hw) (own_w28 hw) (own_w98 hw) (by decide) (own_ct_isSp l Z a0 hw EL hE n0 [] h0 (own_old w251) c4 ) all0 (argsL := [(.int c4)]) (rest := []) rfl rfl own_pd12 rfl own_d15_41 rfl (by decide) (W := 0) rfl (by decide) (by decide) (by decide) fun T257 h259 v260 ms261 w258 q262 => ?_
    obtain ⟨rfl, rfl, rfl⟩ := q262
    show own_Go Z EL n0 p e below s _ _ _ (T257.setTop (mkF m 44 _ [(.int (if own_sp c4 then 1 else 0))]))
    refine own_if (pc' := 47) w258 own_d15_44 rfl (by decide) (pcY := 53) rfl (fun (hb44 : (if own_sp c4 then 1 else 0) = (0 : Int32)) => ?_) (fun (hb44 : ¬ (if own_sp c4 then 1 else 0) = (0 : Int32)) => ?_)
    ·
     refine own_aloadN (pc' := 54) w258 own_d15_53 rfl rfl rfl ?_
     refine own_iloadN (pc' := 55) w258 own_d15_54 rfl rfl ?_
     refine own_iloadN (pc' := 56) w258 own_d15_55 rfl rfl ?_
     refine own_callV (pc' := 59) w258 (own_w41 hw) (own_w42 hw) (fun s' hZ' => notFace_of_selects (args := #[]) (mvT hZ' (own_w44 hw))) (own_w44 hw) (own_w43 hw) (own_w7 hw) (own_w45 hw) (by decide) E_tx (own_ct_subC l Z a0 hw EL hE n0 [] h0 (own_old w258) tx (2 : Int32) (5 : Int32) t kb (5 : Int32) ((([c0, c1, c2, c3, c4] : List Int32).map (fun (c : Int32) => c.toInt8.toInt32)).map Value.int) ([c0, c1, c2, c3, c4] : List Int32) (3 : Int32) 2 3 z5 fm E_tx F_tx_coder F_tx_value A_t ((own_cod (cs := ([c0, c1, c2, c3, c4] : List Int32)) (n := 5) rfl (own_allS b0 (own_allS b1 (own_allS b2 (own_allS b3 (own_allS b4 own_all0))))))) (own_up ([c0, c1, c2, c3, c4] : List Int32) (own_allS b0 (own_allS b1 (own_allS b2 (own_allS b3 (own_allS b4 own_all0)))))) ((Nat.le_of_ble_eq_true rfl)) S_COMPACT_STRINGS (P5) S_SIOOBE_FORMATTER (hfm) (by decide) (rfl) (by decide) (by decide) (by decide)) all0 (argsL := [(.int (2 : Int32)), (.int (5 : Int32))]) (rest := []) rfl rfl own_pd10 rfl own_d15_56 rfl (by decide) (W := 0) rfl (by decide) (by decide) (by decide) fun T263 h265 v266 ms267 w264 q268 => ?_
     obtain ⟨K272, r_269, t2_270, kA_271, rfl, rfl, nw_E_r_269, nw_F_r_269_coder, nw_F_r_269_value, nw_A_t2_270, p56_subC_0⟩ := q268
     have ne_t_r_269 : t ≠ r_269 := Nat.ne_of_lt (Nat.lt_of_lt_of_le A_t.lt p56_subC_0)
     have ne_tx_r_269 : tx ≠ r_269 := Nat.ne_of_lt (Nat.lt_of_lt_of_le E_tx.lt p56_subC_0)
     have nw_r_269 : h0.size ≤ r_269 := Nat.le_trans K.1 p56_subC_0
     replace E_tx := E_tx.keep K272
     replace F_tx_coder := F_tx_coder.keep K272 nin0
     replace F_tx_value := F_tx_value.keep K272 nin0
     replace A_t := A_t.keep K272 nin0
     replace K := K.trans K272 all0
     have E_r_269 := nw_E_r_269; clear nw_E_r_269
     have F_r_269_coder := nw_F_r_269_coder; clear nw_F_r_269_coder
     have F_r_269_value := nw_F_r_269_value; clear nw_F_r_269_value
     have A_t2_270 := nw_A_t2_270; clear nw_A_t2_270
     show own_Go Z EL n0 p e below s _ _ _ (T263.setTop (mkF m 59 _ [(.ref r_269)]))
     have k_c0 := own_sp0 hb20
     have k_c1 := own_sp0 hb20_1
     have k_c2 := own_sp1 hb20_2
     have k_c4 := own_sp1 hb44
     exact own_retV w264 (t := (.object "java/lang/String")) rfl (own_narR rfl rfl) (Or.inr (Or.inr (Or.inr (Or.inr ⟨rfl, rfl, rfl⟩)))) own_d15_59 (by decide) (by decide) (ms' := []) all0 ⟨K, r_269, t2_270, kA_271, (3 : Int32), (own_sl ((([c0, c1, c2, c3, c4] : List Int32).map (fun (c : Int32) => c.toInt8.toInt32)).map Value.int) 2 3), ([c2, c3, c4] : List Int32), rfl, rfl, E_r_269, F_r_269_coder, F_r_269_value, A_t2_270, (own_cod (cs := ([c2, c3, c4] : List Int32)) (n := 3) rfl (own_allS b2 (own_allS b3 (own_allS b4 own_all0)))), (own_up ([c2, c3, c4] : List Int32) (own_allS b2 (own_allS b3 (own_allS b4 own_all0)))), (Nat.le_of_ble_eq_true rfl), (by simp [own_trim, List.dropWhile, k_c0, k_c1, k_c2, k_c4])⟩
    ·
     refine own_iinc (pc' := 50) w258 own_d15_47 rfl (y := (4 : Int32)) (by decide) (Ls' := #[.val (.ref tx), .val (.int (2 : Int32)), .val (.int (4 : Int32))]) rfl rfl ?_
     refine own_goto w258 own_d15_50 (by decide) (pc' := 29) rfl ?_
     refine own_iloadN (pc' := 30) w258 own_d15_29 rfl rfl ?_
     refine own_iloadN (pc' := 31) w258 own_d15_30 rfl rfl ?_
     refine own_icmp (pc' := 34) w258 own_d15_31 rfl (by decide) (pcY := 53) rfl (fun (hb31_1 : ¬ (2 : Int32) < (4 : Int32)) => absurd hb31_1 (by decide)) (fun (hb31_1 : (2 : Int32) < (4 : Int32)) => ?_)
     refine own_aloadN (pc' := 35) w258 own_d15_34 rfl rfl rfl ?_
     refine own_iloadN (pc' := 36) w258 own_d15_35 rfl rfl ?_
     refine own_iconst (pc' := 37) w258 own_d15_36 (x := (1 : Int32)) rfl rfl ?_
     refine own_isub (pc' := 38) w258 own_d15_37 (z := (3 : Int32)) (by decide) rfl ?_
     refine own_callVB (pc' := 41) w258 (kc := 0) (nc := 0) (own_w76 hw) (own_w77 hw) (fun s' hZ' => notFace_of_selects (args := #[]) (mvT hZ' (own_w79 hw))) (own_w79 hw) (own_w78 hw) (by decide) E_tx (QQ := fun v h' L => (v = some (.int c3)) ∧ L = [] ∧ h' = h0) (fun s' hZ' => StrChars.Road.chN (W := 0) hZ' (own_hwc hw) (kI := 4) (own_w6 hw) E_tx F_tx_value F_tx_coder A_t (own_cod (cs := ([c0, c1, c2, c3, c4] : List Int32)) (n := 5) rfl (own_allS b0 (own_allS b1 (own_allS b2 (own_allS b3 (own_allS b4 own_all0)))))) (own_up ([c0, c1, c2, c3, c4] : List Int32) (own_allS b0 (own_allS b1 (own_allS b2 (own_allS b3 (own_allS b4 own_all0)))))) (S_COMPACT_STRINGS.ext (own_old w258).2) P5 (S_SIOOBE_FORMATTER.ext (own_old w258).2) hfm (Nat.le_of_ble_eq_true rfl) (i := 3) (Nat.le_of_ble_eq_true rfl) rfl (by decide) (by decide)) (ws := []) all0 (fun v h' L q => ⟨q.2.2 ▸ Keep.refl _ _, q.2.1 ▸ Fr.nil _⟩) (argsL := [(.int (3 : Int32))]) (rest := []) rfl rfl own_pd11 rfl own_d15_38 rfl (Nat.le_of_eq rfl) (by decide) (by decide) fun T273 h275 v276 w274 K277 q278 => ?_
     obtain ⟨_, rfl, -, e279⟩ := q278
     rw [e279] at w274
     show own_Go Z EL n0 p e below s _ _ _ (T273.setTop (mkF m 41 _ [(.int c3)]))
     refine own_callS (pc' := 44) w274 (own_w96 hw) (own_w97 hw) (own_w28 hw) (own_w98 hw) (by decide) (own_ct_isSp l Z a0 hw EL hE n0 [] h0 (own_old w274) c3 ) all0 (argsL := [(.int c3)]) (rest := []) rfl rfl own_pd12 rfl own_d15_41 rfl (by decide) (W := 0) rfl (by decide) (by decide) (by decide) fun T280 h282 v283 ms284 w281 q285 => ?_
     obtain ⟨rfl, rfl, rfl⟩ := q285
     show own_Go Z EL n0 p e below s _ _ _ (T280.setTop (mkF m 44 _ [(.int (if own_sp c3 then 1 else 0))]))
     refine own_if (pc' := 47) w281 own_d15_44 rfl (by decide) (pcY := 53) rfl (fun (hb44_1 : (if own_sp c3 then 1 else 0) = (0 : Int32)) => ?_) (fun (hb44_1 : ¬ (if own_sp c3 then 1 else 0) = (0 : Int32)) => ?_)
     ·
      refine own_aloadN (pc' := 54) w281 own_d15_53 rfl rfl rfl ?_
      refine own_iloadN (pc' := 55) w281 own_d15_54 rfl rfl ?_
      refine own_iloadN (pc' := 56) w281 own_d15_55 rfl rfl ?_
      refine own_callV (pc' := 59) w281 (own_w41 hw) (own_w42 hw) (fun s' hZ' => notFace_of_selects (args := #[]) (mvT hZ' (own_w44 hw))) (own_w44 hw) (own_w43 hw) (own_w7 hw) (own_w45 hw) (by decide) E_tx (own_ct_subC l Z a0 hw EL hE n0 [] h0 (own_old w281) tx (2 : Int32) (4 : Int32) t kb (5 : Int32) ((([c0, c1, c2, c3, c4] : List Int32).map (fun (c : Int32) => c.toInt8.toInt32)).map Value.int) ([c0, c1, c2, c3, c4] : List Int32) (2 : Int32) 2 2 z5 fm E_tx F_tx_coder F_tx_value A_t ((own_cod (cs := ([c0, c1, c2, c3, c4] : List Int32)) (n := 5) rfl (own_allS b0 (own_allS b1 (own_allS b2 (own_allS b3 (own_allS b4 own_all0))))))) (own_up ([c0, c1, c2, c3, c4] : List Int32) (own_allS b0 (own_allS b1 (own_allS b2 (own_allS b3 (own_allS b4 own_all0)))))) ((Nat.le_of_ble_eq_true rfl)) S_COMPACT_STRINGS (P5) S_SIOOBE_FORMATTER (hfm) (by decide) (rfl) (by decide) (by decide) (by decide)) all0 (argsL := [(.int (2 : Int32)), (.int (4 : Int32))]) (rest := []) rfl rfl own_pd10 rfl own_d15_56 rfl (by decide) (W := 0) rfl (by decide) (by decide) (by decide) fun T286 h288 v289 ms290 w287 q291 => ?_
      obtain ⟨K295, r_292, t2_293, kA_294, rfl, rfl, nw_E_r_292, nw_F_r_292_coder, nw_F_r_292_value, nw_A_t2_293, p56_subC_0⟩ := q291
      have ne_t_r_292 : t ≠ r_292 := Nat.ne_of_lt (Nat.lt_of_lt_of_le A_t.lt p56_subC_0)
      have ne_tx_r_292 : tx ≠ r_292 := Nat.ne_of_lt (Nat.lt_of_lt_of_le E_tx.lt p56_subC_0)
      have nw_r_292 : h0.size ≤ r_292 := Nat.le_trans K.1 p56_subC_0
      replace E_tx := E_tx.keep K295
      replace F_tx_coder := F_tx_coder.keep K295 nin0
      replace F_tx_value := F_tx_value.keep K295 nin0
      replace A_t := A_t.keep K295 nin0
      replace K := K.trans K295 all0
      have E_r_292 := nw_E_r_292; clear nw_E_r_292
      have F_r_292_coder := nw_F_r_292_coder; clear nw_F_r_292_coder
      have F_r_292_value := nw_F_r_292_value; clear nw_F_r_292_value
      have A_t2_293 := nw_A_t2_293; clear nw_A_t2_293
      show own_Go Z EL n0 p e below s _ _ _ (T286.setTop (mkF m 59 _ [(.ref r_292)]))
      have k_c0 := own_sp0 hb20
      have k_c1 := own_sp0 hb20_1
      have k_c2 := own_sp1 hb20_2
      have k_c4 := own_sp0 hb44
      have k_c3 := own_sp1 hb44_1
      exact own_retV w287 (t := (.object "java/lang/String")) rfl (own_narR rfl rfl) (Or.inr (Or.inr (Or.inr (Or.inr ⟨rfl, rfl, rfl⟩)))) own_d15_59 (by decide) (by decide) (ms' := []) all0 ⟨K, r_292, t2_293, kA_294, (2 : Int32), (own_sl ((([c0, c1, c2, c3, c4] : List Int32).map (fun (c : Int32) => c.toInt8.toInt32)).map Value.int) 2 2), ([c2, c3] : List Int32), rfl, rfl, E_r_292, F_r_292_coder, F_r_292_value, A_t2_293, (own_cod (cs := ([c2, c3] : List Int32)) (n := 2) rfl (own_allS b2 (own_allS b3 own_all0))), (own_up ([c2, c3] : List Int32) (own_allS b2 (own_allS b3 own_all0))), (Nat.le_of_ble_eq_true rfl), (by simp [own_trim, List.dropWhile, k_c0, k_c1, k_c2, k_c4, k_c3])⟩
     ·
      refine own_iinc (pc' := 50) w281 own_d15_47 rfl (y := (3 : Int32)) (by decide) (Ls' := #[.val (.ref tx), .val (.int (2 : Int32)), .val (.int (3 : Int32))]) rfl rfl ?_
      refine own_goto w281 own_d15_50 (by decide) (pc' := 29) rfl ?_
      refine own_iloadN (pc' := 30) w281 own_d15_29 rfl rfl ?_
      refine own_iloadN (pc' := 31) w281 own_d15_30 rfl rfl ?_
      refine own_icmp (pc' := 34) w281 own_d15_31 rfl (by decide) (pcY := 53) rfl (fun (hb31_2 : ¬ (2 : Int32) < (3 : Int32)) => absurd hb31_2 (by decide)) (fun (hb31_2 : (2 : Int32) < (3 : Int32)) => ?_)
      refine own_aloadN (pc' := 35) w281 own_d15_34 rfl rfl rfl ?_
      refine own_iloadN (pc' := 36) w281 own_d15_35 rfl rfl ?_
      refine own_iconst (pc' := 37) w281 own_d15_36 (x := (1 : Int32)) rfl rfl ?_
      refine own_isub (pc' := 38) w281 own_d15_37 (z := (2 : Int32)) (by decide) rfl ?_
      refine own_callVB (pc' := 41) w281 (kc := 0) (nc := 0) (own_w76 hw) (own_w77 hw) (fun s' hZ' => notFace_of_selects (args := #[]) (mvT hZ' (own_w79 hw))) (own_w79 hw) (own_w78 hw) (by decide) E_tx (QQ := fun v h' L => (v = some (.int c2)) ∧ L = [] ∧ h' = h0) (fun s' hZ' => StrChars.Road.chN (W := 0) hZ' (own_hwc hw) (kI := 4) (own_w6 hw) E_tx F_tx_value F_tx_coder A_t (own_cod (cs := ([c0, c1, c2, c3, c4] : List Int32)) (n := 5) rfl (own_allS b0 (own_allS b1 (own_allS b2 (own_allS b3 (own_allS b4 own_all0)))))) (own_up ([c0, c1, c2, c3, c4] : List Int32) (own_allS b0 (own_allS b1 (own_allS b2 (own_allS b3 (own_allS b4 own_all0)))))) (S_COMPACT_STRINGS.ext (own_old w281).2) P5 (S_SIOOBE_FORMATTER.ext (own_old w281).2) hfm (Nat.le_of_ble_eq_true rfl) (i := 2) (Nat.le_of_ble_eq_true rfl) rfl (by decide) (by decide)) (ws := []) all0 (fun v h' L q => ⟨q.2.2 ▸ Keep.refl _ _, q.2.1 ▸ Fr.nil _⟩) (argsL := [(.int (2 : Int32))]) (rest := []) rfl rfl own_pd11 rfl own_d15_38 rfl (Nat.le_of_eq rfl) (by decide) (by decide) fun T296 h298 v299 w297 K300 q301 => ?_
      obtain ⟨_, rfl, -, e302⟩ := q301
      rw [e302] at w297
      show own_Go Z EL n0 p e below s _ _ _ (T296.setTop (mkF m 41 _ [(.int c2)]))
      refine own_callS (pc' := 44) w297 (own_w96 hw) (own_w97 hw) (own_w28 hw) (own_w98 hw) (by decide) (own_ct_isSp l Z a0 hw EL hE n0 [] h0 (own_old w297) c2 ) all0 (argsL := [(.int c2)]) (rest := []) rfl rfl own_pd12 rfl own_d15_41 rfl (by decide) (W := 0) rfl (by decide) (by decide) (by decide) fun T303 h305 v306 ms307 w304 q308 => ?_
      obtain ⟨rfl, rfl, rfl⟩ := q308
      show own_Go Z EL n0 p e below s _ _ _ (T303.setTop (mkF m 44 _ [(.int (if own_sp c2 then 1 else 0))]))
      refine own_if (pc' := 47) w304 own_d15_44 rfl (by decide) (pcY := 53) rfl (fun (hb44_2 : (if own_sp c2 then 1 else 0) = (0 : Int32)) => ?_) (fun (hb44_2 : ¬ (if own_sp c2 then 1 else 0) = (0 : Int32)) => absurd hb20_2 hb44_2)
      refine own_aloadN (pc' := 54) w304 own_d15_53 rfl rfl rfl ?_
      refine own_iloadN (pc' := 55) w304 own_d15_54 rfl rfl ?_
      refine own_iloadN (pc' := 56) w304 own_d15_55 rfl rfl ?_
      refine own_callV (pc' := 59) w304 (own_w41 hw) (own_w42 hw) (fun s' hZ' => notFace_of_selects (args := #[]) (mvT hZ' (own_w44 hw))) (own_w44 hw) (own_w43 hw) (own_w7 hw) (own_w45 hw) (by decide) E_tx (own_ct_subC l Z a0 hw EL hE n0 [] h0 (own_old w304) tx (2 : Int32) (3 : Int32) t kb (5 : Int32) ((([c0, c1, c2, c3, c4] : List Int32).map (fun (c : Int32) => c.toInt8.toInt32)).map Value.int) ([c0, c1, c2, c3, c4] : List Int32) (1 : Int32) 2 1 z5 fm E_tx F_tx_coder F_tx_value A_t ((own_cod (cs := ([c0, c1, c2, c3, c4] : List Int32)) (n := 5) rfl (own_allS b0 (own_allS b1 (own_allS b2 (own_allS b3 (own_allS b4 own_all0))))))) (own_up ([c0, c1, c2, c3, c4] : List Int32) (own_allS b0 (own_allS b1 (own_allS b2 (own_allS b3 (own_allS b4 own_all0)))))) ((Nat.le_of_ble_eq_true rfl)) S_COMPACT_STRINGS (P5) S_SIOOBE_FORMATTER (hfm) (by decide) (rfl) (by decide) (by decide) (by decide)) all0 (argsL := [(.int (2 : Int32)), (.int (3 : Int32))]) (rest := []) rfl rfl own_pd10 rfl own_d15_56 rfl (by decide) (W := 0) rfl (by decide) (by decide) (by decide) fun T309 h311 v312 ms313 w310 q314 => ?_
      obtain ⟨K318, r_315, t2_316, kA_317, rfl, rfl, nw_E_r_315, nw_F_r_315_coder, nw_F_r_315_value, nw_A_t2_316, p56_subC_0⟩ := q314
      have ne_t_r_315 : t ≠ r_315 := Nat.ne_of_lt (Nat.lt_of_lt_of_le A_t.lt p56_subC_0)
      have ne_tx_r_315 : tx ≠ r_315 := Nat.ne_of_lt (Nat.lt_of_lt_of_le E_tx.lt p56_subC_0)
      have nw_r_315 : h0.size ≤ r_315 := Nat.le_trans K.1 p56_subC_0
      replace E_tx := E_tx.keep K318
      replace F_tx_coder := F_tx_coder.keep K318 nin0
      replace F_tx_value := F_tx_value.keep K318 nin0
      replace A_t := A_t.keep K318 nin0
      replace K := K.trans K318 all0
      have E_r_315 := nw_E_r_315; clear nw_E_r_315
      have F_r_315_coder := nw_F_r_315_coder; clear nw_F_r_315_coder
      have F_r_315_value := nw_F_r_315_value; clear nw_F_r_315_value
      have A_t2_316 := nw_A_t2_316; clear nw_A_t2_316
      show own_Go Z EL n0 p e below s _ _ _ (T309.setTop (mkF m 59 _ [(.ref r_315)]))
      have k_c0 := own_sp0 hb20
      have k_c1 := own_sp0 hb20_1
      have k_c2 := own_sp1 hb20_2
      have k_c4 := own_sp0 hb44
      have k_c3 := own_sp0 hb44_1
      exact own_retV w310 (t := (.object "java/lang/String")) rfl (own_narR rfl rfl) (Or.inr (Or.inr (Or.inr (Or.inr ⟨rfl, rfl, rfl⟩)))) own_d15_59 (by decide) (by decide) (ms' := []) all0 ⟨K, r_315, t2_316, kA_317, (1 : Int32), (own_sl ((([c0, c1, c2, c3, c4] : List Int32).map (fun (c : Int32) => c.toInt8.toInt32)).map Value.int) 2 1), ([c2] : List Int32), rfl, rfl, E_r_315, F_r_315_coder, F_r_315_value, A_t2_316, (own_cod (cs := ([c2] : List Int32)) (n := 1) rfl (own_allS b2 own_all0)), (own_up ([c2] : List Int32) (own_allS b2 own_all0)), (Nat.le_of_ble_eq_true rfl), (by simp [own_trim, List.dropWhile, k_c0, k_c1, k_c2, k_c4, k_c3])⟩
   ·
    refine own_iinc (pc' := 26) w245 own_d15_23 rfl (y := (3 : Int32)) (by decide) (Ls' := #[.val (.ref tx), .val (.int (3 : Int32)), .val (.int (5 : Int32))]) rfl rfl ?_
    refine own_goto w245 own_d15_26 (by decide) (pc' := 7) rfl ?_
    refine own_iloadN (pc' := 8) w245 own_d15_7 rfl rfl ?_
    refine own_iloadN (pc' := 9) w245 own_d15_8 rfl rfl ?_
    refine own_icmp (pc' := 12) w245 own_d15_9 rfl (by decide) (pcY := 29) rfl (fun (hb9_3 : ¬ (3 : Int32) < (5 : Int32)) => absurd hb9_3 (by decide)) (fun (hb9_3 : (3 : Int32) < (5 : Int32)) => ?_)
    refine own_aloadN (pc' := 13) w245 own_d15_12 rfl rfl rfl ?_
    refine own_iloadN (pc' := 14) w245 own_d15_13 rfl rfl ?_
    refine own_callVB (pc' := 17) w245 (kc := 0) (nc := 0) (own_w76 hw) (own_w77 hw) (fun s' hZ' => notFace_of_selects (args := #[]) (mvT hZ' (own_w79 hw))) (own_w79 hw) (own_w78 hw) (by decide) E_tx (QQ := fun v h' L => (v = some (.int c3)) ∧ L = [] ∧ h' = h0) (fun s' hZ' => StrChars.Road.chN (W := 0) hZ' (own_hwc hw) (kI := 4) (own_w6 hw) E_tx F_tx_value F_tx_coder A_t (own_cod (cs := ([c0, c1, c2, c3, c4] : List Int32)) (n := 5) rfl (own_allS b0 (own_allS b1 (own_allS b2 (own_allS b3 (own_allS b4 own_all0)))))) (own_up ([c0, c1, c2, c3, c4] : List Int32) (own_allS b0 (own_allS b1 (own_allS b2 (own_allS b3 (own_allS b4 own_all0)))))) (S_COMPACT_STRINGS.ext (own_old w245).2) P5 (S_SIOOBE_FORMATTER.ext (own_old w245).2) hfm (Nat.le_of_ble_eq_true rfl) (i := 3) (Nat.le_of_ble_eq_true rfl) rfl (by decide) (by decide)) (ws := []) all0 (fun v h' L q => ⟨q.2.2 ▸ Keep.refl _ _, q.2.1 ▸ Fr.nil _⟩) (argsL := [(.int (3 : Int32))]) (rest := []) rfl rfl own_pd11 rfl own_d15_14 rfl (Nat.le_of_eq rfl) (by decide) (by decide) fun T319 h321 v322 w320 K323 q324 => ?_
    obtain ⟨_, rfl, -, e325⟩ := q324
    rw [e325] at w320
    show own_Go Z EL n0 p e below s _ _ _ (T319.setTop (mkF m 17 _ [(.int c3)]))
    refine own_callS (pc' := 20) w320 (own_w96 hw) (own_w97 hw) (own_w28 hw) (own_w98 hw) (by decide) (own_ct_isSp l Z a0 hw EL hE n0 [] h0 (own_old w320) c3 ) all0 (argsL := [(.int c3)]) (rest := []) rfl rfl own_pd12 rfl own_d15_17 rfl (by decide) (W := 0) rfl (by decide) (by decide) (by decide) fun T326 h328 v329 ms330 w327 q331 => ?_
    obtain ⟨rfl, rfl, rfl⟩ := q331
    show own_Go Z EL n0 p e below s _ _ _ (T326.setTop (mkF m 20 _ [(.int (if own_sp c3 then 1 else 0))]))
    refine own_if (pc' := 23) w327 own_d15_20 rfl (by decide) (pcY := 29) rfl (fun (hb20_3 : (if own_sp c3 then 1 else 0) = (0 : Int32)) => ?_) (fun (hb20_3 : ¬ (if own_sp c3 then 1 else 0) = (0 : Int32)) => ?_)
    ·
     refine own_iloadN (pc' := 30) w327 own_d15_29 rfl rfl ?_
     refine own_iloadN (pc' := 31) w327 own_d15_30 rfl rfl ?_
     refine own_icmp (pc' := 34) w327 own_d15_31 rfl (by decide) (pcY := 53) rfl (fun (hb31 : ¬ (3 : Int32) < (5 : Int32)) => absurd hb31 (by decide)) (fun (hb31 : (3 : Int32) < (5 : Int32)) => ?_)
     refine own_aloadN (pc' := 35) w327 own_d15_34 rfl rfl rfl ?_
     refine own_iloadN (pc' := 36) w327 own_d15_35 rfl rfl ?_
     refine own_iconst (pc' := 37) w327 own_d15_36 (x := (1 : Int32)) rfl rfl ?_
     refine own_isub (pc' := 38) w327 own_d15_37 (z := (4 : Int32)) (by decide) rfl ?_
     refine own_callVB (pc' := 41) w327 (kc := 0) (nc := 0) (own_w76 hw) (own_w77 hw) (fun s' hZ' => notFace_of_selects (args := #[]) (mvT hZ' (own_w79 hw))) (own_w79 hw) (own_w78 hw) (by decide) E_tx (QQ := fun v h' L => (v = some (.int c4)) ∧ L = [] ∧ h' = h0) (fun s' hZ' => StrChars.Road.chN (W := 0) hZ' (own_hwc hw) (kI := 4) (own_w6 hw) E_tx F_tx_value F_tx_coder A_t (own_cod (cs := ([c0, c1, c2, c3, c4] : List Int32)) (n := 5) rfl (own_allS b0 (own_allS b1 (own_allS b2 (own_allS b3 (own_allS b4 own_all0)))))) (own_up ([c0, c1, c2, c3, c4] : List Int32) (own_allS b0 (own_allS b1 (own_allS b2 (own_allS b3 (own_allS b4 own_all0)))))) (S_COMPACT_STRINGS.ext (own_old w327).2) P5 (S_SIOOBE_FORMATTER.ext (own_old w327).2) hfm (Nat.le_of_ble_eq_true rfl) (i := 4) (Nat.le_of_ble_eq_true rfl) rfl (by decide) (by decide)) (ws := []) all0 (fun v h' L q => ⟨q.2.2 ▸ Keep.refl _ _, q.2.1 ▸ Fr.nil _⟩) (argsL := [(.int (4 : Int32))]) (rest := []) rfl rfl own_pd11 rfl own_d15_38 rfl (Nat.le_of_eq rfl) (by decide) (by decide) fun T332 h334 v335 w333 K336 q337 => ?_
     obtain ⟨_, rfl, -, e338⟩ := q337
     rw [e338] at w333
     show own_Go Z EL n0 p e below s _ _ _ (T332.setTop (mkF m 41 _ [(.int c4)]))
     refine own_callS (pc' := 44) w333 (own_w96 hw) (own_w97 hw) (own_w28 hw) (own_w98 hw) (by decide) (own_ct_isSp l Z a0 hw EL hE n0 [] h0 (own_old w333) c4 ) all0 (argsL := [(.int c4)]) (rest := []) rfl rfl own_pd12 rfl own_d15_41 rfl (by decide) (W := 0) rfl (by decide) (by decide) (by decide) fun T339 h341 v342 ms343 w340 q344 => ?_
     obtain ⟨rfl, rfl, rfl⟩ := q344
     show own_Go Z EL n0 p e below s _ _ _ (T339.setTop (mkF m 44 _ [(.int (if own_sp c4 then 1 else 0))]))
     refine own_if (pc' := 47) w340 own_d15_44 rfl (by decide) (pcY := 53) rfl (fun (hb44 : (if own_sp c4 then 1 else 0) = (0 : Int32)) => ?_) (fun (hb44 : ¬ (if own_sp c4 then 1 else 0) = (0 : Int32)) => ?_)
     ·
      refine own_aloadN (pc' := 54) w340 own_d15_53 rfl rfl rfl ?_
      refine own_iloadN (pc' := 55) w340 own_d15_54 rfl rfl ?_
      refine own_iloadN (pc' := 56) w340 own_d15_55 rfl rfl ?_
      refine own_callV (pc' := 59) w340 (own_w41 hw) (own_w42 hw) (fun s' hZ' => notFace_of_selects (args := #[]) (mvT hZ' (own_w44 hw))) (own_w44 hw) (own_w43 hw) (own_w7 hw) (own_w45 hw) (by decide) E_tx (own_ct_subC l Z a0 hw EL hE n0 [] h0 (own_old w340) tx (3 : Int32) (5 : Int32) t kb (5 : Int32) ((([c0, c1, c2, c3, c4] : List Int32).map (fun (c : Int32) => c.toInt8.toInt32)).map Value.int) ([c0, c1, c2, c3, c4] : List Int32) (2 : Int32) 3 2 z5 fm E_tx F_tx_coder F_tx_value A_t ((own_cod (cs := ([c0, c1, c2, c3, c4] : List Int32)) (n := 5) rfl (own_allS b0 (own_allS b1 (own_allS b2 (own_allS b3 (own_allS b4 own_all0))))))) (own_up ([c0, c1, c2, c3, c4] : List Int32) (own_allS b0 (own_allS b1 (own_allS b2 (own_allS b3 (own_allS b4 own_all0)))))) ((Nat.le_of_ble_eq_true rfl)) S_COMPACT_STRINGS (P5) S_SIOOBE_FORMATTER (hfm) (by decide) (rfl) (by decide) (by decide) (by decide)) all0 (argsL := [(.int (3 : Int32)), (.int (5 : Int32))]) (rest := []) rfl rfl own_pd10 rfl own_d15_56 rfl (by decide) (W := 0) rfl (by decide) (by decide) (by decide) fun T345 h347 v348 ms349 w346 q350 => ?_
      obtain ⟨K354, r_351, t2_352, kA_353, rfl, rfl, nw_E_r_351, nw_F_r_351_coder, nw_F_r_351_value, nw_A_t2_352, p56_subC_0⟩ := q350
      have ne_t_r_351 : t ≠ r_351 := Nat.ne_of_lt (Nat.lt_of_lt_of_le A_t.lt p56_subC_0)
      have ne_tx_r_351 : tx ≠ r_351 := Nat.ne_of_lt (Nat.lt_of_lt_of_le E_tx.lt p56_subC_0)
      have nw_r_351 : h0.size ≤ r_351 := Nat.le_trans K.1 p56_subC_0
      replace E_tx := E_tx.keep K354
      replace F_tx_coder := F_tx_coder.keep K354 nin0
      replace F_tx_value := F_tx_value.keep K354 nin0
      replace A_t := A_t.keep K354 nin0
      replace K := K.trans K354 all0
      have E_r_351 := nw_E_r_351; clear nw_E_r_351
      have F_r_351_coder := nw_F_r_351_coder; clear nw_F_r_351_coder
      have F_r_351_value := nw_F_r_351_value; clear nw_F_r_351_value
      have A_t2_352 := nw_A_t2_352; clear nw_A_t2_352
      show own_Go Z EL n0 p e below s _ _ _ (T345.setTop (mkF m 59 _ [(.ref r_351)]))
      have k_c0 := own_sp0 hb20
      have k_c1 := own_sp0 hb20_1
      have k_c2 := own_sp0 hb20_2
      have k_c3 := own_sp1 hb20_3
      have k_c4 := own_sp1 hb44
      exact own_retV w346 (t := (.object "java/lang/String")) rfl (own_narR rfl rfl) (Or.inr (Or.inr (Or.inr (Or.inr ⟨rfl, rfl, rfl⟩)))) own_d15_59 (by decide) (by decide) (ms' := []) all0 ⟨K, r_351, t2_352, kA_353, (2 : Int32), (own_sl ((([c0, c1, c2, c3, c4] : List Int32).map (fun (c : Int32) => c.toInt8.toInt32)).map Value.int) 3 2), ([c3, c4] : List Int32), rfl, rfl, E_r_351, F_r_351_coder, F_r_351_value, A_t2_352, (own_cod (cs := ([c3, c4] : List Int32)) (n := 2) rfl (own_allS b3 (own_allS b4 own_all0))), (own_up ([c3, c4] : List Int32) (own_allS b3 (own_allS b4 own_all0))), (Nat.le_of_ble_eq_true rfl), (by simp [own_trim, List.dropWhile, k_c0, k_c1, k_c2, k_c3, k_c4])⟩
     ·
      refine own_iinc (pc' := 50) w340 own_d15_47 rfl (y := (4 : Int32)) (by decide) (Ls' := #[.val (.ref tx), .val (.int (3 : Int32)), .val (.int (4 : Int32))]) rfl rfl ?_
      refine own_goto w340 own_d15_50 (by decide) (pc' := 29) rfl ?_
      refine own_iloadN (pc' := 30) w340 own_d15_29 rfl rfl ?_
      refine own_iloadN (pc' := 31) w340 own_d15_30 rfl rfl ?_
      refine own_icmp (pc' := 34) w340 own_d15_31 rfl (by decide) (pcY := 53) rfl (fun (hb31_1 : ¬ (3 : Int32) < (4 : Int32)) => absurd hb31_1 (by decide)) (fun (hb31_1 : (3 : Int32) < (4 : Int32)) => ?_)
      refine own_aloadN (pc' := 35) w340 own_d15_34 rfl rfl rfl ?_
      refine own_iloadN (pc' := 36) w340 own_d15_35 rfl rfl ?_
      refine own_iconst (pc' := 37) w340 own_d15_36 (x := (1 : Int32)) rfl rfl ?_
      refine own_isub (pc' := 38) w340 own_d15_37 (z := (3 : Int32)) (by decide) rfl ?_
      refine own_callVB (pc' := 41) w340 (kc := 0) (nc := 0) (own_w76 hw) (own_w77 hw) (fun s' hZ' => notFace_of_selects (args := #[]) (mvT hZ' (own_w79 hw))) (own_w79 hw) (own_w78 hw) (by decide) E_tx (QQ := fun v h' L => (v = some (.int c3)) ∧ L = [] ∧ h' = h0) (fun s' hZ' => StrChars.Road.chN (W := 0) hZ' (own_hwc hw) (kI := 4) (own_w6 hw) E_tx F_tx_value F_tx_coder A_t (own_cod (cs := ([c0, c1, c2, c3, c4] : List Int32)) (n := 5) rfl (own_allS b0 (own_allS b1 (own_allS b2 (own_allS b3 (own_allS b4 own_all0)))))) (own_up ([c0, c1, c2, c3, c4] : List Int32) (own_allS b0 (own_allS b1 (own_allS b2 (own_allS b3 (own_allS b4 own_all0)))))) (S_COMPACT_STRINGS.ext (own_old w340).2) P5 (S_SIOOBE_FORMATTER.ext (own_old w340).2) hfm (Nat.le_of_ble_eq_true rfl) (i := 3) (Nat.le_of_ble_eq_true rfl) rfl (by decide) (by decide)) (ws := []) all0 (fun v h' L q => ⟨q.2.2 ▸ Keep.refl _ _, q.2.1 ▸ Fr.nil _⟩) (argsL := [(.int (3 : Int32))]) (rest := []) rfl rfl own_pd11 rfl own_d15_38 rfl (Nat.le_of_eq rfl) (by decide) (by decide) fun T355 h357 v358 w356 K359 q360 => ?_
      obtain ⟨_, rfl, -, e361⟩ := q360
      rw [e361] at w356
      show own_Go Z EL n0 p e below s _ _ _ (T355.setTop (mkF m 41 _ [(.int c3)]))
      refine own_callS (pc' := 44) w356 (own_w96 hw) (own_w97 hw) (own_w28 hw) (own_w98 hw) (by decide) (own_ct_isSp l Z a0 hw EL hE n0 [] h0 (own_old w356) c3 ) all0 (argsL := [(.int c3)]) (rest := []) rfl rfl own_pd12 rfl own_d15_41 rfl (by decide) (W := 0) rfl (by decide) (by decide) (by decide) fun T362 h364 v365 ms366 w363 q367 => ?_
      obtain ⟨rfl, rfl, rfl⟩ := q367
      show own_Go Z EL n0 p e below s _ _ _ (T362.setTop (mkF m 44 _ [(.int (if own_sp c3 then 1 else 0))]))
      refine own_if (pc' := 47) w363 own_d15_44 rfl (by decide) (pcY := 53) rfl (fun (hb44_1 : (if own_sp c3 then 1 else 0) = (0 : Int32)) => ?_) (fun (hb44_1 : ¬ (if own_sp c3 then 1 else 0) = (0 : Int32)) => absurd hb20_3 hb44_1)
      refine own_aloadN (pc' := 54) w363 own_d15_53 rfl rfl rfl ?_
      refine own_iloadN (pc' := 55) w363 own_d15_54 rfl rfl ?_
      refine own_iloadN (pc' := 56) w363 own_d15_55 rfl rfl ?_
      refine own_callV (pc' := 59) w363 (own_w41 hw) (own_w42 hw) (fun s' hZ' => notFace_of_selects (args := #[]) (mvT hZ' (own_w44 hw))) (own_w44 hw) (own_w43 hw) (own_w7 hw) (own_w45 hw) (by decide) E_tx (own_ct_subC l Z a0 hw EL hE n0 [] h0 (own_old w363) tx (3 : Int32) (4 : Int32) t kb (5 : Int32) ((([c0, c1, c2, c3, c4] : List Int32).map (fun (c : Int32) => c.toInt8.toInt32)).map Value.int) ([c0, c1, c2, c3, c4] : List Int32) (1 : Int32) 3 1 z5 fm E_tx F_tx_coder F_tx_value A_t ((own_cod (cs := ([c0, c1, c2, c3, c4] : List Int32)) (n := 5) rfl (own_allS b0 (own_allS b1 (own_allS b2 (own_allS b3 (own_allS b4 own_all0))))))) (own_up ([c0, c1, c2, c3, c4] : List Int32) (own_allS b0 (own_allS b1 (own_allS b2 (own_allS b3 (own_allS b4 own_all0)))))) ((Nat.le_of_ble_eq_true rfl)) S_COMPACT_STRINGS (P5) S_SIOOBE_FORMATTER (hfm) (by decide) (rfl) (by decide) (by decide) (by decide)) all0 (argsL := [(.int (3 : Int32)), (.int (4 : Int32))]) (rest := []) rfl rfl own_pd10 rfl own_d15_56 rfl (by decide) (W := 0) rfl (by decide) (by decide) (by decide) fun T368 h370 v371 ms372 w369 q373 => ?_
      obtain ⟨K377, r_374, t2_375, kA_376, rfl, rfl, nw_E_r_374, nw_F_r_374_coder, nw_F_r_374_value, nw_A_t2_375, p56_subC_0⟩ := q373
      have ne_t_r_374 : t ≠ r_374 := Nat.ne_of_lt (Nat.lt_of_lt_of_le A_t.lt p56_subC_0)
      have ne_tx_r_374 : tx ≠ r_374 := Nat.ne_of_lt (Nat.lt_of_lt_of_le E_tx.lt p56_subC_0)
      have nw_r_374 : h0.size ≤ r_374 := Nat.le_trans K.1 p56_subC_0
      replace E_tx := E_tx.keep K377
      replace F_tx_coder := F_tx_coder.keep K377 nin0
      replace F_tx_value := F_tx_value.keep K377 nin0
      replace A_t := A_t.keep K377 nin0
      replace K := K.trans K377 all0
      have E_r_374 := nw_E_r_374; clear nw_E_r_374
      have F_r_374_coder := nw_F_r_374_coder; clear nw_F_r_374_coder
      have F_r_374_value := nw_F_r_374_value; clear nw_F_r_374_value
      have A_t2_375 := nw_A_t2_375; clear nw_A_t2_375
      show own_Go Z EL n0 p e below s _ _ _ (T368.setTop (mkF m 59 _ [(.ref r_374)]))
      have k_c0 := own_sp0 hb20
      have k_c1 := own_sp0 hb20_1
      have k_c2 := own_sp0 hb20_2
      have k_c3 := own_sp1 hb20_3
      have k_c4 := own_sp0 hb44
      exact own_retV w369 (t := (.object "java/lang/String")) rfl (own_narR rfl rfl) (Or.inr (Or.inr (Or.inr (Or.inr ⟨rfl, rfl, rfl⟩)))) own_d15_59 (by decide) (by decide) (ms' := []) all0 ⟨K, r_374, t2_375, kA_376, (1 : Int32), (own_sl ((([c0, c1, c2, c3, c4] : List Int32).map (fun (c : Int32) => c.toInt8.toInt32)).map Value.int) 3 1), ([c3] : List Int32), rfl, rfl, E_r_374, F_r_374_coder, F_r_374_value, A_t2_375, (own_cod (cs := ([c3] : List Int32)) (n := 1) rfl (own_allS b3 own_all0)), (own_up ([c3] : List Int32) (own_allS b3 own_all0)), (Nat.le_of_ble_eq_true rfl), (by simp [own_trim, List.dropWhile, k_c0, k_c1, k_c2, k_c3, k_c4])⟩
    ·
     refine own_iinc (pc' := 26) w327 own_d15_23 rfl (y := (4 : Int32)) (by decide) (Ls' := #[.val (.ref tx), .val (.int (4 : Int32)), .val (.int (5 : Int32))]) rfl rfl ?_
     refine own_goto w327 own_d15_26 (by decide) (pc' := 7) rfl ?_
     refine own_iloadN (pc' := 8) w327 own_d15_7 rfl rfl ?_
     refine own_iloadN (pc' := 9) w327 own_d15_8 rfl rfl ?_
     refine own_icmp (pc' := 12) w327 own_d15_9 rfl (by decide) (pcY := 29) rfl (fun (hb9_4 : ¬ (4 : Int32) < (5 : Int32)) => absurd hb9_4 (by decide)) (fun (hb9_4 : (4 : Int32) < (5 : Int32)) => ?_)
     refine own_aloadN (pc' := 13) w327 own_d15_12 rfl rfl rfl ?_
     refine own_iloadN (pc' := 14) w327 own_d15_13 rfl rfl ?_
     refine own_callVB (pc' := 17) w327 (kc := 0) (nc := 0) (own_w76 hw) (own_w77 hw) (fun s' hZ' => notFace_of_selects (args := #[]) (mvT hZ' (own_w79 hw))) (own_w79 hw) (own_w78 hw) (by decide) E_tx (QQ := fun v h' L => (v = some (.int c4)) ∧ L = [] ∧ h' = h0) (fun s' hZ' => StrChars.Road.chN (W := 0) hZ' (own_hwc hw) (kI := 4) (own_w6 hw) E_tx F_tx_value F_tx_coder A_t (own_cod (cs := ([c0, c1, c2, c3, c4] : List Int32)) (n := 5) rfl (own_allS b0 (own_allS b1 (own_allS b2 (own_allS b3 (own_allS b4 own_all0)))))) (own_up ([c0, c1, c2, c3, c4] : List Int32) (own_allS b0 (own_allS b1 (own_allS b2 (own_allS b3 (own_allS b4 own_all0)))))) (S_COMPACT_STRINGS.ext (own_old w327).2) P5 (S_SIOOBE_FORMATTER.ext (own_old w327).2) hfm (Nat.le_of_ble_eq_true rfl) (i := 4) (Nat.le_of_ble_eq_true rfl) rfl (by decide) (by decide)) (ws := []) all0 (fun v h' L q => ⟨q.2.2 ▸ Keep.refl _ _, q.2.1 ▸ Fr.nil _⟩) (argsL := [(.int (4 : Int32))]) (rest := []) rfl rfl own_pd11 rfl own_d15_14 rfl (Nat.le_of_eq rfl) (by decide) (by decide) fun T378 h380 v381 w379 K382 q383 => ?_
     obtain ⟨_, rfl, -, e384⟩ := q383
     rw [e384] at w379
     show own_Go Z EL n0 p e below s _ _ _ (T378.setTop (mkF m 17 _ [(.int c4)]))
     refine own_callS (pc' := 20) w379 (own_w96 hw) (own_w97 hw) (own_w28 hw) (own_w98 hw) (by decide) (own_ct_isSp l Z a0 hw EL hE n0 [] h0 (own_old w379) c4 ) all0 (argsL := [(.int c4)]) (rest := []) rfl rfl own_pd12 rfl own_d15_17 rfl (by decide) (W := 0) rfl (by decide) (by decide) (by decide) fun T385 h387 v388 ms389 w386 q390 => ?_
     obtain ⟨rfl, rfl, rfl⟩ := q390
     show own_Go Z EL n0 p e below s _ _ _ (T385.setTop (mkF m 20 _ [(.int (if own_sp c4 then 1 else 0))]))
     refine own_if (pc' := 23) w386 own_d15_20 rfl (by decide) (pcY := 29) rfl (fun (hb20_4 : (if own_sp c4 then 1 else 0) = (0 : Int32)) => ?_) (fun (hb20_4 : ¬ (if own_sp c4 then 1 else 0) = (0 : Int32)) => ?_)
     ·
      refine own_iloadN (pc' := 30) w386 own_d15_29 rfl rfl ?_
      refine own_iloadN (pc' := 31) w386 own_d15_30 rfl rfl ?_
      refine own_icmp (pc' := 34) w386 own_d15_31 rfl (by decide) (pcY := 53) rfl (fun (hb31 : ¬ (4 : Int32) < (5 : Int32)) => absurd hb31 (by decide)) (fun (hb31 : (4 : Int32) < (5 : Int32)) => ?_)
      refine own_aloadN (pc' := 35) w386 own_d15_34 rfl rfl rfl ?_
      refine own_iloadN (pc' := 36) w386 own_d15_35 rfl rfl ?_
      refine own_iconst (pc' := 37) w386 own_d15_36 (x := (1 : Int32)) rfl rfl ?_
      refine own_isub (pc' := 38) w386 own_d15_37 (z := (4 : Int32)) (by decide) rfl ?_
      refine own_callVB (pc' := 41) w386 (kc := 0) (nc := 0) (own_w76 hw) (own_w77 hw) (fun s' hZ' => notFace_of_selects (args := #[]) (mvT hZ' (own_w79 hw))) (own_w79 hw) (own_w78 hw) (by decide) E_tx (QQ := fun v h' L => (v = some (.int c4)) ∧ L = [] ∧ h' = h0) (fun s' hZ' => StrChars.Road.chN (W := 0) hZ' (own_hwc hw) (kI := 4) (own_w6 hw) E_tx F_tx_value F_tx_coder A_t (own_cod (cs := ([c0, c1, c2, c3, c4] : List Int32)) (n := 5) rfl (own_allS b0 (own_allS b1 (own_allS b2 (own_allS b3 (own_allS b4 own_all0)))))) (own_up ([c0, c1, c2, c3, c4] : List Int32) (own_allS b0 (own_allS b1 (own_allS b2 (own_allS b3 (own_allS b4 own_all0)))))) (S_COMPACT_STRINGS.ext (own_old w386).2) P5 (S_SIOOBE_FORMATTER.ext (own_old w386).2) hfm (Nat.le_of_ble_eq_true rfl) (i := 4) (Nat.le_of_ble_eq_true rfl) rfl (by decide) (by decide)) (ws := []) all0 (fun v h' L q => ⟨q.2.2 ▸ Keep.refl _ _, q.2.1 ▸ Fr.nil _⟩) (argsL := [(.int (4 : Int32))]) (rest := []) rfl rfl own_pd11 rfl own_d15_38 rfl (Nat.le_of_eq rfl) (by decide) (by decide) fun T391 h393 v394 w392 K395 q396 => ?_
      obtain ⟨_, rfl, -, e397⟩ := q396
      rw [e397] at w392
      show own_Go Z EL n0 p e below s _ _ _ (T391.setTop (mkF m 41 _ [(.int c4)]))
      refine own_callS (pc' := 44) w392 (own_w96 hw) (own_w97 hw) (own_w28 hw) (own_w98 hw) (by decide) (own_ct_isSp l Z a0 hw EL hE n0 [] h0 (own_old w392) c4 ) all0 (argsL := [(.int c4)]) (rest := []) rfl rfl own_pd12 rfl own_d15_41 rfl (by decide) (W := 0) rfl (by decide) (by decide) (by decide) fun T398 h400 v401 ms402 w399 q403 => ?_
      obtain ⟨rfl, rfl, rfl⟩ := q403
      show own_Go Z EL n0 p e below s _ _ _ (T398.setTop (mkF m 44 _ [(.int (if own_sp c4 then 1 else 0))]))
      refine own_if (pc' := 47) w399 own_d15_44 rfl (by decide) (pcY := 53) rfl (fun (hb44 : (if own_sp c4 then 1 else 0) = (0 : Int32)) => ?_) (fun (hb44 : ¬ (if own_sp c4 then 1 else 0) = (0 : Int32)) => absurd hb20_4 hb44)
      refine own_aloadN (pc' := 54) w399 own_d15_53 rfl rfl rfl ?_
      refine own_iloadN (pc' := 55) w399 own_d15_54 rfl rfl ?_
      refine own_iloadN (pc' := 56) w399 own_d15_55 rfl rfl ?_
      refine own_callV (pc' := 59) w399 (own_w41 hw) (own_w42 hw) (fun s' hZ' => notFace_of_selects (args := #[]) (mvT hZ' (own_w44 hw))) (own_w44 hw) (own_w43 hw) (own_w7 hw) (own_w45 hw) (by decide) E_tx (own_ct_subC l Z a0 hw EL hE n0 [] h0 (own_old w399) tx (4 : Int32) (5 : Int32) t kb (5 : Int32) ((([c0, c1, c2, c3, c4] : List Int32).map (fun (c : Int32) => c.toInt8.toInt32)).map Value.int) ([c0, c1, c2, c3, c4] : List Int32) (1 : Int32) 4 1 z5 fm E_tx F_tx_coder F_tx_value A_t ((own_cod (cs := ([c0, c1, c2, c3, c4] : List Int32)) (n := 5) rfl (own_allS b0 (own_allS b1 (own_allS b2 (own_allS b3 (own_allS b4 own_all0))))))) (own_up ([c0, c1, c2, c3, c4] : List Int32) (own_allS b0 (own_allS b1 (own_allS b2 (own_allS b3 (own_allS b4 own_all0)))))) ((Nat.le_of_ble_eq_true rfl)) S_COMPACT_STRINGS (P5) S_SIOOBE_FORMATTER (hfm) (by decide) (rfl) (by decide) (by decide) (by decide)) all0 (argsL := [(.int (4 : Int32)), (.int (5 : Int32))]) (rest := []) rfl rfl own_pd10 rfl own_d15_56 rfl (by decide) (W := 0) rfl (by decide) (by decide) (by decide) fun T404 h406 v407 ms408 w405 q409 => ?_
      obtain ⟨K413, r_410, t2_411, kA_412, rfl, rfl, nw_E_r_410, nw_F_r_410_coder, nw_F_r_410_value, nw_A_t2_411, p56_subC_0⟩ := q409
      have ne_t_r_410 : t ≠ r_410 := Nat.ne_of_lt (Nat.lt_of_lt_of_le A_t.lt p56_subC_0)
      have ne_tx_r_410 : tx ≠ r_410 := Nat.ne_of_lt (Nat.lt_of_lt_of_le E_tx.lt p56_subC_0)
      have nw_r_410 : h0.size ≤ r_410 := Nat.le_trans K.1 p56_subC_0
      replace E_tx := E_tx.keep K413
      replace F_tx_coder := F_tx_coder.keep K413 nin0
      replace F_tx_value := F_tx_value.keep K413 nin0
      replace A_t := A_t.keep K413 nin0
      replace K := K.trans K413 all0
      have E_r_410 := nw_E_r_410; clear nw_E_r_410
      have F_r_410_coder := nw_F_r_410_coder; clear nw_F_r_410_coder
      have F_r_410_value := nw_F_r_410_value; clear nw_F_r_410_value
      have A_t2_411 := nw_A_t2_411; clear nw_A_t2_411
      show own_Go Z EL n0 p e below s _ _ _ (T404.setTop (mkF m 59 _ [(.ref r_410)]))
      have k_c0 := own_sp0 hb20
      have k_c1 := own_sp0 hb20_1
      have k_c2 := own_sp0 hb20_2
      have k_c3 := own_sp0 hb20_3
      have k_c4 := own_sp1 hb20_4
      exact own_retV w405 (t := (.object "java/lang/String")) rfl (own_narR rfl rfl) (Or.inr (Or.inr (Or.inr (Or.inr ⟨rfl, rfl, rfl⟩)))) own_d15_59 (by decide) (by decide) (ms' := []) all0 ⟨K, r_410, t2_411, kA_412, (1 : Int32), (own_sl ((([c0, c1, c2, c3, c4] : List Int32).map (fun (c : Int32) => c.toInt8.toInt32)).map Value.int) 4 1), ([c4] : List Int32), rfl, rfl, E_r_410, F_r_410_coder, F_r_410_value, A_t2_411, (own_cod (cs := ([c4] : List Int32)) (n := 1) rfl (own_allS b4 own_all0)), (own_up ([c4] : List Int32) (own_allS b4 own_all0)), (Nat.le_of_ble_eq_true rfl), (by simp [own_trim, List.dropWhile, k_c0, k_c1, k_c2, k_c3, k_c4])⟩
     ·
      refine own_iinc (pc' := 26) w386 own_d15_23 rfl (y := (5 : Int32)) (by decide) (Ls' := #[.val (.ref tx), .val (.int (5 : Int32)), .val (.int (5 : Int32))]) rfl rfl ?_
      refine own_goto w386 own_d15_26 (by decide) (pc' := 7) rfl ?_
      refine own_iloadN (pc' := 8) w386 own_d15_7 rfl rfl ?_
      refine own_iloadN (pc' := 9) w386 own_d15_8 rfl rfl ?_
      refine own_icmp (pc' := 12) w386 own_d15_9 rfl (by decide) (pcY := 29) rfl (fun (hb9_5 : ¬ (5 : Int32) < (5 : Int32)) => ?_) (fun (hb9_5 : (5 : Int32) < (5 : Int32)) => absurd hb9_5 (by decide))
      refine own_iloadN (pc' := 30) w386 own_d15_29 rfl rfl ?_
      refine own_iloadN (pc' := 31) w386 own_d15_30 rfl rfl ?_
      refine own_icmp (pc' := 34) w386 own_d15_31 rfl (by decide) (pcY := 53) rfl (fun (hb31 : ¬ (5 : Int32) < (5 : Int32)) => ?_) (fun (hb31 : (5 : Int32) < (5 : Int32)) => absurd hb31 (by decide))
      refine own_aloadN (pc' := 54) w386 own_d15_53 rfl rfl rfl ?_
      refine own_iloadN (pc' := 55) w386 own_d15_54 rfl rfl ?_
      refine own_iloadN (pc' := 56) w386 own_d15_55 rfl rfl ?_
      refine own_callV (pc' := 59) w386 (own_w41 hw) (own_w42 hw) (fun s' hZ' => notFace_of_selects (args := #[]) (mvT hZ' (own_w44 hw))) (own_w44 hw) (own_w43 hw) (own_w7 hw) (own_w45 hw) (by decide) E_tx (own_ct_subE l Z a0 hw EL hE n0 [] h0 (own_old w386) tx (5 : Int32) (5 : Int32) t kb (5 : Int32) ((([c0, c1, c2, c3, c4] : List Int32).map (fun (c : Int32) => c.toInt8.toInt32)).map Value.int) ([c0, c1, c2, c3, c4] : List Int32) (0 : Int32) 5 0 z5 fm E_tx F_tx_coder F_tx_value A_t ((own_cod (cs := ([c0, c1, c2, c3, c4] : List Int32)) (n := 5) rfl (own_allS b0 (own_allS b1 (own_allS b2 (own_allS b3 (own_allS b4 own_all0))))))) (own_up ([c0, c1, c2, c3, c4] : List Int32) (own_allS b0 (own_allS b1 (own_allS b2 (own_allS b3 (own_allS b4 own_all0)))))) ((Nat.le_of_ble_eq_true rfl)) S_COMPACT_STRINGS (P5) S_SIOOBE_FORMATTER (hfm) (by decide) (rfl) (by decide) (by decide) (hE151)) all0 (argsL := [(.int (5 : Int32)), (.int (5 : Int32))]) (rest := []) rfl rfl own_pd10 rfl own_d15_56 rfl (by decide) (W := 0) rfl (by decide) (by decide) (by decide) fun T414 h416 v417 ms418 w415 q419 => ?_
      obtain ⟨K423, r_420, t2_421, kA_422, rfl, rfl, nw_E_r_420, nw_F_r_420_coder, nw_F_r_420_value, nw_A_t2_421⟩ := q419
      replace E_tx := E_tx.keep K423
      replace F_tx_coder := F_tx_coder.keep K423 nin0
      replace F_tx_value := F_tx_value.keep K423 nin0
      replace A_t := A_t.keep K423 nin0
      replace K := K.trans K423 all0
      have E_r_420 := nw_E_r_420; clear nw_E_r_420
      have F_r_420_coder := nw_F_r_420_coder; clear nw_F_r_420_coder
      have F_r_420_value := nw_F_r_420_value; clear nw_F_r_420_value
      have A_t2_421 := nw_A_t2_421; clear nw_A_t2_421
      show own_Go Z EL n0 p e below s _ _ _ (T414.setTop (mkF m 59 _ [(.ref r_420)]))
      have k_c0 := own_sp0 hb20
      have k_c1 := own_sp0 hb20_1
      have k_c2 := own_sp0 hb20_2
      have k_c3 := own_sp0 hb20_3
      have k_c4 := own_sp0 hb20_4
      exact own_retV w415 (t := (.object "java/lang/String")) rfl (own_narR rfl rfl) (Or.inr (Or.inr (Or.inr (Or.inr ⟨rfl, rfl, rfl⟩)))) own_d15_59 (by decide) (by decide) (ms' := []) all0 ⟨K, r_420, t2_421, kA_422, (0 : Int32), [], ([] : List Int32), rfl, rfl, E_r_420, F_r_420_coder, F_r_420_value, A_t2_421, (Or.inl ⟨rfl, rfl, rfl, own_all0⟩), (own_up ([] : List Int32) own_all0), (Nat.le_of_ble_eq_true rfl), (by simp [own_trim, List.dropWhile, k_c0, k_c1, k_c2, k_c3, k_c4])⟩
theorem own_d16_0 : decode method_4_code 0 = .ok (.iload_n 1, 1) := by decide +kernel
theorem own_d16_1 : decode method_4_code 1 = .ok (.aload_n 0, 1) := by decide +kernel
theorem own_d16_2 : decode method_4_code 2 = .ok (.arraylength, 1) := by decide +kernel
theorem own_d16_3 : decode method_4_code 3 = .ok (.if_icmp .ge 16, 3) := by decide +kernel
theorem own_d16_6 : decode method_4_code 6 = .ok (.aload_n 0, 1) := by decide +kernel
theorem own_d16_7 : decode method_4_code 7 = .ok (.iload_n 1, 1) := by decide +kernel
theorem own_d16_8 : decode method_4_code 8 = .ok (.caload, 1) := by decide +kernel
theorem own_d16_9 : decode method_4_code 9 = .ok (.invokestatic 7, 3) := by decide +kernel
theorem own_w123 {Z : State} {a0 : Array Value} (hw : ∀ d ∈ tables_1, d.before a0 Z = true) : ((Jvm.Cond.code ({ cls := "com/example/caddis/caddis/conformance/XmlValuesTrimPinLaw", name := "sp", desc := "(C)Z" } : Jvm.MethodName) method_3_code (1 : Nat) (Option.some Jvm.ClassFile.FieldType.boolean)) : Jvm.Cond).before a0 Z = true := hw _ (List.mem_of_getElem? (i := 123) rfl)
theorem own_w57 {Z : State} {a0 : Array Value} (hw : ∀ d ∈ tables_1, d.before a0 Z = true) : ((Jvm.Cond.initialized "com/example/caddis/caddis/conformance/XmlValuesTrimPinLaw") : Jvm.Cond).before a0 Z = true := hw _ (List.mem_of_getElem? (i := 57) rfl)
theorem own_w121 {Z : State} {a0 : Array Value} (hw : ∀ d ∈ tables_1, d.before a0 Z = true) : ((Jvm.Cond.methodLink "com/example/caddis/caddis/conformance/XmlValuesTrimPinLaw" (7 : Nat) ({ cls := "com/example/caddis/caddis/conformance/XmlValuesTrimPinLaw", name := "sp", desc := "(C)Z" } : Jvm.MethodName)) : Jvm.Cond).before a0 Z = true := hw _ (List.mem_of_getElem? (i := 121) rfl)
theorem own_w122 {Z : State} {a0 : Array Value} (hw : ∀ d ∈ tables_1, d.before a0 Z = true) : ((Jvm.Cond.static ({ cls := "com/example/caddis/caddis/conformance/XmlValuesTrimPinLaw", name := "sp", desc := "(C)Z" } : Jvm.MethodName)) : Jvm.Cond).before a0 Z = true := hw _ (List.mem_of_getElem? (i := 122) rfl)
theorem own_d16_12 : decode method_4_code 12 = .ok (.ifCond .ne 7, 3) := by decide +kernel
theorem own_d16_19 : decode method_4_code 19 = .ok (.iconst 0, 1) := by decide +kernel
theorem own_d16_20 : decode method_4_code 20 = .ok (.ireturn, 1) := by decide +kernel
theorem own_d16_15 : decode method_4_code 15 = .ok (.iconst 1, 1) := by decide +kernel
theorem own_d16_16 : decode method_4_code 16 = .ok (.goto 4, 3) := by decide +kernel
theorem own_ef_nsIn (m : MethodId) (ar : Addr) (kI : Int32) : entryFrame m #[(.ref ar), (.int kI)] 2 = mkF m 0 #[.val (.ref ar), .val (.int kI)] [] := by first | (simp [entryFrame, mkF, argsToLocals, Value.category]; done) | rfl
theorem own_pf16 : plainFor (⟨"com/example/caddis/caddis/conformance/XmlValuesTrimPinLaw", "ns", "([CI)Z"⟩ : MethodName) = true := by first | exact plainFor_of_name (by first | (simp [plainName, overriddenIn]; done) | decide +kernel) | decide +kernel
def own_Q_nsIn (Z : State) (h0 : Heap) (ar : Addr) (kI : Int32) (kA : ClassId) (N : Int32) (vs : List Value) (cc : Int32) (v : Option Value) (h : Heap) (ms : List Addr) : Prop := (h0 = h) ∧ (ms = []) ∧ (v = some (.int (own_sv cc)))
set_option maxRecDepth 65536 in
set_option maxHeartbeats 40000000 in
theorem own_ct_nsIn (l : Launch) (Z : State) (a0 : Array Value) (hw : ∀ d ∈ tables_1, d.before a0 Z = true) (EL : List (String × Nat)) (hE : EW Z a0 EL) (n0 : Nat) (ws : List Jvm.Cond) (h0 : Heap) (O : Old Z n0 h0) (ar : Addr) (kI : Int32) (kA : ClassId) (N : Int32) (vs : List Value) (cc : Int32) (A_ar : Arv Z h0 ar kA .char N vs (.int 0)) (hj : ¬ kI < 0 ∧ kI < N) (hv : vs.getD kI.toNatClampNeg (.int 0) = .int cc) :
    own_Ct l Z EL n0 (⟨"com/example/caddis/caddis/conformance/XmlValuesTrimPinLaw", "ns", "([CI)Z"⟩ : MethodName) method_4_code 2 (some .boolean) ws ({ frames := 1, cells := 0, slots := 0, locals := 12 } : Room) #[(.ref ar), (.int kI)] h0 [] (own_Q_nsIn Z h0 ar kI kA N vs cc) := by
 refine own_enter (a0 := a0) own_pf16 hE O fun p e s m below meth c T0 w0 => ?_
 rw [own_ef_nsIn m ar kI]
 refine own_iloadN (pc' := 1) w0 own_d16_0 rfl rfl ?_
 refine own_aloadN (pc' := 2) w0 own_d16_1 rfl rfl rfl ?_
 refine own_len (pc' := 3) w0 A_ar own_d16_2 rfl ?_
 refine own_icmp (pc' := 6) w0 own_d16_3 rfl (by decide) (pcY := 19) rfl (fun (hb3 : ¬ kI < N) => absurd hj.2 hb3) (fun (hb3 : kI < N) => ?_)
 refine own_aloadN (pc' := 7) w0 own_d16_6 rfl rfl rfl ?_
 refine own_iloadN (pc' := 8) w0 own_d16_7 rfl rfl ?_
 refine own_ldC (pc' := 9) w0 (v := (.int cc)) A_ar hj hv own_d16_8 rfl ?_
 refine own_callS (pc' := 12) w0 (own_w121 hw) (own_w122 hw) (own_w57 hw) (own_w123 hw) (by decide) (own_ct_spL l Z a0 hw EL hE n0 [] h0 (own_old w0) cc ) all0 (argsL := [(.int cc)]) (rest := []) rfl rfl own_pd12 rfl own_d16_9 rfl (by decide) (W := 0) rfl (by decide) (by decide) (by decide) fun T1 h3 v4 ms5 w2 q6 => ?_
 obtain ⟨rfl, rfl, rfl⟩ := q6
 show own_Go Z EL n0 p e below s _ _ _ (T1.setTop (mkF m 12 _ [(.int (if own_sp cc then 1 else 0))]))
 refine own_if (pc' := 15) w2 own_d16_12 rfl (by decide) (pcY := 19) rfl (fun (hb12 : ¬ (if own_sp cc then 1 else 0) = (0 : Int32)) => ?_) (fun (hb12 : (if own_sp cc then 1 else 0) = (0 : Int32)) => ?_)
 ·
  refine own_iconst (pc' := 20) w2 own_d16_19 (x := (0 : Int32)) rfl rfl ?_
  exact own_retV w2 (t := .boolean) rfl rfl (Or.inl ⟨rfl, by simp, _, rfl⟩) own_d16_20 (by decide) (by decide) (ms' := []) all0 ⟨rfl, rfl, (by unfold own_sv; cases q : own_sp cc <;> simp [q] at hb12 ⊢)⟩
 ·
  refine own_iconst (pc' := 16) w2 own_d16_15 (x := (1 : Int32)) rfl rfl ?_
  refine own_goto w2 own_d16_16 (by decide) (pc' := 20) rfl ?_
  exact own_retV w2 (t := .boolean) rfl rfl (Or.inl ⟨rfl, by simp, _, rfl⟩) own_d16_20 (by decide) (by decide) (ms' := []) all0 ⟨rfl, rfl, (by unfold own_sv; cases q : own_sp cc <;> simp [q] at hb12 ⊢)⟩
theorem own_ef_nsOut (m : MethodId) (ar : Addr) (kI : Int32) : entryFrame m #[(.ref ar), (.int kI)] 2 = mkF m 0 #[.val (.ref ar), .val (.int kI)] [] := by first | (simp [entryFrame, mkF, argsToLocals, Value.category]; done) | rfl
def own_Q_nsOut (Z : State) (h0 : Heap) (ar : Addr) (kI : Int32) (kA : ClassId) (N : Int32) (vs : List Value) (v : Option Value) (h : Heap) (ms : List Addr) : Prop := (h0 = h) ∧ (ms = []) ∧ (v = some (.int 0))
set_option maxRecDepth 65536 in
set_option maxHeartbeats 40000000 in
theorem own_ct_nsOut (l : Launch) (Z : State) (a0 : Array Value) (hw : ∀ d ∈ tables_1, d.before a0 Z = true) (EL : List (String × Nat)) (hE : EW Z a0 EL) (n0 : Nat) (ws : List Jvm.Cond) (h0 : Heap) (O : Old Z n0 h0) (ar : Addr) (kI : Int32) (kA : ClassId) (N : Int32) (vs : List Value) (A_ar : Arv Z h0 ar kA .char N vs (.int 0)) (hj : ¬ kI < N) :
    own_Ct l Z EL n0 (⟨"com/example/caddis/caddis/conformance/XmlValuesTrimPinLaw", "ns", "([CI)Z"⟩ : MethodName) method_4_code 2 (some .boolean) ws ({ frames := 0, cells := 0, slots := 0, locals := 0 } : Room) #[(.ref ar), (.int kI)] h0 [] (own_Q_nsOut Z h0 ar kI kA N vs) := by
 refine own_enter (a0 := a0) own_pf16 hE O fun p e s m below meth c T0 w0 => ?_
 rw [own_ef_nsOut m ar kI]
 refine own_iloadN (pc' := 1) w0 own_d16_0 rfl rfl ?_
 refine own_aloadN (pc' := 2) w0 own_d16_1 rfl rfl rfl ?_
 refine own_len (pc' := 3) w0 A_ar own_d16_2 rfl ?_
 refine own_icmp (pc' := 6) w0 own_d16_3 rfl (by decide) (pcY := 19) rfl (fun (hb3 : ¬ kI < N) => ?_) (fun (hb3 : kI < N) => absurd hb3 hj)
 refine own_iconst (pc' := 20) w0 own_d16_19 (x := (0 : Int32)) rfl rfl ?_
 exact own_retV w0 (t := .boolean) rfl rfl (Or.inl ⟨rfl, by simp, _, rfl⟩) own_d16_20 (by decide) (by decide) (ms' := []) all0 ⟨rfl, rfl, rfl⟩
theorem own_d17_0 : decode method_5_code 0 = .ok (.iload 4, 2) := by decide +kernel
theorem own_d17_2 : decode method_5_code 2 = .ok (.iload_n 3, 1) := by decide +kernel
theorem own_d17_3 : decode method_5_code 3 = .ok (.if_icmp .ge 18, 3) := by decide +kernel
theorem own_d17_21 : decode method_5_code 21 = .ok (.iconst 1, 1) := by decide +kernel
theorem own_d17_22 : decode method_5_code 22 = .ok (.goto 4, 3) := by decide +kernel
theorem own_d17_26 : decode method_5_code 26 = .ok (.ireturn, 1) := by decide +kernel
theorem own_d17_6 : decode method_5_code 6 = .ok (.aload_n 0, 1) := by decide +kernel
theorem own_d17_7 : decode method_5_code 7 = .ok (.iload 4, 2) := by decide +kernel
theorem own_d17_9 : decode method_5_code 9 = .ok (.invokevirtual 13, 3) := by decide +kernel
theorem own_w124 {Z : State} {a0 : Array Value} (hw : ∀ d ∈ tables_1, d.before a0 Z = true) : ((Jvm.Cond.methodLink "com/example/caddis/caddis/conformance/XmlValuesTrimPinLaw" (13 : Nat) ({ cls := "java/lang/String", name := "charAt", desc := "(I)C" } : Jvm.MethodName)) : Jvm.Cond).before a0 Z = true := hw _ (List.mem_of_getElem? (i := 124) rfl)
theorem own_d17_12 : decode method_5_code 12 = .ok (.aload_n 1, 1) := by decide +kernel
theorem own_d17_13 : decode method_5_code 13 = .ok (.iload_n 2, 1) := by decide +kernel
theorem own_d17_14 : decode method_5_code 14 = .ok (.iload 4, 2) := by decide +kernel
theorem own_d17_16 : decode method_5_code 16 = .ok (.iadd, 1) := by decide +kernel
theorem own_d17_17 : decode method_5_code 17 = .ok (.caload, 1) := by decide +kernel
theorem own_d17_18 : decode method_5_code 18 = .ok (.if_icmp .ne 7, 3) := by decide +kernel
theorem own_ef_ckAny (m : MethodId) (a1 : Addr) (ar : Addr) (sI : Int32) (nI : Int32) (kI : Int32) : entryFrame m #[(.ref a1), (.ref ar), (.int sI), (.int nI), (.int kI)] 5 = mkF m 0 #[.val (.ref a1), .val (.ref ar), .val (.int sI), .val (.int nI), .val (.int kI)] [] := by first | (simp [entryFrame, mkF, argsToLocals, Value.category]; done) | rfl
theorem own_pf17 : plainFor (⟨"com/example/caddis/caddis/conformance/XmlValuesTrimPinLaw", "charOk", "(Ljava/lang/String;[CIII)Z"⟩ : MethodName) = true := by first | exact plainFor_of_name (by first | (simp [plainName, overriddenIn]; done) | decide +kernel) | decide +kernel
def own_Q_ckAny (Z : State) (h0 : Heap) (a1 : Addr) (ar : Addr) (sI : Int32) (nI : Int32) (kI : Int32) (t : Addr) (kb : ClassId) (N : Int32) (vs : List Value) (cs : List Int32) (kA : ClassId) (N3 : Int32) (vs3 : List Value) (iN : Nat) (z5 : Int32) (fm : Value) (v : Option Value) (h : Heap) (ms : List Addr) : Prop := (h0 = h) ∧ (ms = []) ∧ (v = some (.int 1))
set_option maxRecDepth 65536 in
set_option maxHeartbeats 40000000 in
theorem own_ct_ckAny (l : Launch) (Z : State) (a0 : Array Value) (hw : ∀ d ∈ tables_1, d.before a0 Z = true) (EL : List (String × Nat)) (hE : EW Z a0 EL) (n0 : Nat) (ws : List Jvm.Cond) (h0 : Heap) (O : Old Z n0 h0) (a1 : Addr) (ar : Addr) (sI : Int32) (nI : Int32) (kI : Int32) (t : Addr) (kb : ClassId) (N : Int32) (vs : List Value) (cs : List Int32) (kA : ClassId) (N3 : Int32) (vs3 : List Value) (iN : Nat) (z5 : Int32) (fm : Value) (E_a1 : Exa Z h0 a1 "java/lang/String") (F_a1_coder : Fld Z h0 a1 "java/lang/String" "coder" "B" (.int 0)) (F_a1_value : Fld Z h0 a1 "java/lang/String" "value" "[B" (.ref t)) (A_t : Arv Z h0 t kb .byte N vs (.int 0)) (hcd : StrChars.Road.CodA cs 0 N vs) (hbd : ∀ c ∈ cs, ¬ c < 0 ∧ ¬ (65535 : Int32) < c) (l2 : cs.length ≤ 4000) (A_ar : Arv Z h0 ar kA .char N3 vs3 (.int 0)) (S_COMPACT_STRINGS : Sta Z Z.heap "java/lang/String" "COMPACT_STRINGS" "Z" (.int z5)) (P5 : ¬ z5 = 0) (S_SIOOBE_FORMATTER : Sta Z Z.heap "jdk/internal/util/Preconditions" "SIOOBE_FORMATTER" "Ljava/util/function/BiFunction;" fm) (hfm : fm.isRef = true) (hix : kI = Int32.ofNat iN) (hall : kI < nI → (iN < cs.length ∧ (¬ (sI + kI) < 0 ∧ (sI + kI) < N3) ∧ vs3.getD (sI + kI).toNatClampNeg (.int 0) = .int (List.getD cs iN 0))) :
    own_Ct l Z EL n0 (⟨"com/example/caddis/caddis/conformance/XmlValuesTrimPinLaw", "charOk", "(Ljava/lang/String;[CIII)Z"⟩ : MethodName) method_5_code 5 (some .boolean) ws ({ frames := 4, cells := 0, slots := 0, locals := 53 } : Room) #[(.ref a1), (.ref ar), (.int sI), (.int nI), (.int kI)] h0 [] (own_Q_ckAny Z h0 a1 ar sI nI kI t kb N vs cs kA N3 vs3 iN z5 fm) := by
 refine own_enter (a0 := a0) own_pf17 hE O fun p e s m below meth c T0 w0 => ?_
 rw [own_ef_ckAny m a1 ar sI nI kI]
 refine own_iload (pc' := 2) w0 own_d17_0 rfl rfl ?_
 refine own_iloadN (pc' := 3) w0 own_d17_2 rfl rfl ?_
 refine own_icmp (pc' := 6) w0 own_d17_3 rfl (by decide) (pcY := 21) rfl (fun (hb3 : ¬ kI < nI) => ?_) (fun (hb3 : kI < nI) => ?_)
 ·
  refine own_iconst (pc' := 22) w0 own_d17_21 (x := (1 : Int32)) rfl rfl ?_
  refine own_goto w0 own_d17_22 (by decide) (pc' := 26) rfl ?_
  exact own_retV w0 (t := .boolean) rfl rfl (Or.inl ⟨rfl, by simp, _, rfl⟩) own_d17_26 (by decide) (by decide) (ms' := []) all0 ⟨rfl, rfl, rfl⟩
 ·
  refine own_aloadN (pc' := 7) w0 own_d17_6 rfl rfl rfl ?_
  refine own_iload (pc' := 9) w0 own_d17_7 rfl rfl ?_
  refine own_callVB (pc' := 12) w0 (kc := 0) (nc := 0) (own_w124 hw) (own_w77 hw) (fun s' hZ' => notFace_of_selects (args := #[]) (mvT hZ' (own_w79 hw))) (own_w79 hw) (own_w78 hw) (by decide) E_a1 (QQ := fun v h' L => (v = some (.int (List.getD cs iN 0))) ∧ L = [] ∧ h' = h0) (fun s' hZ' => StrChars.Road.chN (W := 0) hZ' (own_hwc hw) (kI := 4) (own_w6 hw) E_a1 F_a1_value F_a1_coder A_t hcd hbd (S_COMPACT_STRINGS.ext (own_old w0).2) P5 (S_SIOOBE_FORMATTER.ext (own_old w0).2) hfm l2 (i := iN) (hall hb3).1 hix (by decide) (by decide)) (ws := []) all0 (fun v h' L q => ⟨q.2.2 ▸ Keep.refl _ _, q.2.1 ▸ Fr.nil _⟩) (argsL := [(.int kI)]) (rest := []) rfl rfl own_pd11 rfl own_d17_9 rfl (Nat.le_of_eq rfl) (by decide) (by decide) fun T1 h3 v4 w2 K5 q6 => ?_
  obtain ⟨_, rfl, -, e7⟩ := q6
  rw [e7] at w2
  show own_Go Z EL n0 p e below s _ _ _ (T1.setTop (mkF m 12 _ [(.int (List.getD cs iN 0))]))
  refine own_aloadN (pc' := 13) w2 own_d17_12 rfl rfl rfl ?_
  refine own_iloadN (pc' := 14) w2 own_d17_13 rfl rfl ?_
  refine own_iload (pc' := 16) w2 own_d17_14 rfl rfl ?_
  refine own_iadd (pc' := 17) w2 own_d17_16 (z := (sI + kI)) rfl rfl ?_
  refine own_ldC (pc' := 18) w2 (v := (.int (List.getD cs iN 0))) A_ar (hall hb3).2.1 (hall hb3).2.2 own_d17_17 rfl ?_
  refine own_icmp (pc' := 21) w2 own_d17_18 rfl (by decide) (pcY := 25) rfl (fun (hb18 : ¬ (List.getD cs iN 0) = (List.getD cs iN 0)) => absurd rfl hb18) (fun (hb18 : (List.getD cs iN 0) = (List.getD cs iN 0)) => ?_)
  refine own_iconst (pc' := 22) w2 own_d17_21 (x := (1 : Int32)) rfl rfl ?_
  refine own_goto w2 own_d17_22 (by decide) (pc' := 26) rfl ?_
  exact own_retV w2 (t := .boolean) rfl rfl (Or.inl ⟨rfl, by simp, _, rfl⟩) own_d17_26 (by decide) (by decide) (ms' := []) all0 ⟨rfl, rfl, rfl⟩
theorem own_d18_253 : decode code 253 = .ok (.aload 8, 2) := by decide +kernel
theorem own_d18_255 : decode code 255 = .ok (.invokevirtual 41, 3) := by decide +kernel
theorem own_w59 {Z : State} {a0 : Array Value} (hw : ∀ d ∈ tables_1, d.before a0 Z = true) : ((Jvm.Cond.methodLink "com/example/caddis/caddis/conformance/XmlValuesTrimPinLaw" (41 : Nat) ({ cls := "java/lang/String", name := "length", desc := "()I" } : Jvm.MethodName)) : Jvm.Cond).before a0 Z = true := hw _ (List.mem_of_getElem? (i := 59) rfl)
theorem own_d18_258 : decode code 258 = .ok (.iload 16, 2) := by decide +kernel
theorem own_d18_260 : decode code 260 = .ok (.if_icmp .eq 5, 3) := by decide +kernel
theorem own_d18_265 : decode code 265 = .ok (.aload 8, 2) := by decide +kernel
theorem own_d18_267 : decode code 267 = .ok (.aload 7, 2) := by decide +kernel
theorem own_d18_269 : decode code 269 = .ok (.iload 14, 2) := by decide +kernel
theorem own_d18_271 : decode code 271 = .ok (.iload 16, 2) := by decide +kernel
theorem own_d18_273 : decode code 273 = .ok (.iconst 0, 1) := by decide +kernel
theorem own_d18_274 : decode code 274 = .ok (.invokestatic 45, 3) := by decide +kernel
theorem own_w62 {Z : State} {a0 : Array Value} (hw : ∀ d ∈ tables_1, d.before a0 Z = true) : ((Jvm.Cond.code ({ cls := "com/example/caddis/caddis/conformance/XmlValuesTrimPinLaw", name := "charOk", desc := "(Ljava/lang/String;[CIII)Z" } : Jvm.MethodName) method_5_code (5 : Nat) (Option.some Jvm.ClassFile.FieldType.boolean)) : Jvm.Cond).before a0 Z = true := hw _ (List.mem_of_getElem? (i := 62) rfl)
theorem own_pd13 : parseMethodDescriptor "(Ljava/lang/String;[CIII)Z" = some ⟨[(.object "java/lang/String"), (.array .char), .int, .int, .int], some .boolean⟩ := by decide +kernel
theorem own_w60 {Z : State} {a0 : Array Value} (hw : ∀ d ∈ tables_1, d.before a0 Z = true) : ((Jvm.Cond.methodLink "com/example/caddis/caddis/conformance/XmlValuesTrimPinLaw" (45 : Nat) ({ cls := "com/example/caddis/caddis/conformance/XmlValuesTrimPinLaw", name := "charOk", desc := "(Ljava/lang/String;[CIII)Z" } : Jvm.MethodName)) : Jvm.Cond).before a0 Z = true := hw _ (List.mem_of_getElem? (i := 60) rfl)
theorem own_w61 {Z : State} {a0 : Array Value} (hw : ∀ d ∈ tables_1, d.before a0 Z = true) : ((Jvm.Cond.static ({ cls := "com/example/caddis/caddis/conformance/XmlValuesTrimPinLaw", name := "charOk", desc := "(Ljava/lang/String;[CIII)Z" } : Jvm.MethodName)) : Jvm.Cond).before a0 Z = true := hw _ (List.mem_of_getElem? (i := 61) rfl)
theorem own_d18_277 : decode code 277 = .ok (.ifCond .eq 67, 3) := by decide +kernel
theorem own_d18_280 : decode code 280 = .ok (.aload 8, 2) := by decide +kernel
theorem own_d18_282 : decode code 282 = .ok (.aload 7, 2) := by decide +kernel
theorem own_d18_284 : decode code 284 = .ok (.iload 14, 2) := by decide +kernel
theorem own_d18_286 : decode code 286 = .ok (.iload 16, 2) := by decide +kernel
theorem own_d18_288 : decode code 288 = .ok (.iconst 1, 1) := by decide +kernel
theorem own_d18_289 : decode code 289 = .ok (.invokestatic 45, 3) := by decide +kernel
theorem own_d18_292 : decode code 292 = .ok (.ifCond .eq 52, 3) := by decide +kernel
theorem own_d18_295 : decode code 295 = .ok (.aload 8, 2) := by decide +kernel
theorem own_d18_297 : decode code 297 = .ok (.aload 7, 2) := by decide +kernel
theorem own_d18_299 : decode code 299 = .ok (.iload 14, 2) := by decide +kernel
theorem own_d18_301 : decode code 301 = .ok (.iload 16, 2) := by decide +kernel
theorem own_d18_303 : decode code 303 = .ok (.iconst 2, 1) := by decide +kernel
theorem own_d18_304 : decode code 304 = .ok (.invokestatic 45, 3) := by decide +kernel
theorem own_d18_307 : decode code 307 = .ok (.ifCond .eq 37, 3) := by decide +kernel
theorem own_d18_310 : decode code 310 = .ok (.aload 8, 2) := by decide +kernel
theorem own_d18_312 : decode code 312 = .ok (.aload 7, 2) := by decide +kernel
theorem own_d18_314 : decode code 314 = .ok (.iload 14, 2) := by decide +kernel
theorem own_d18_316 : decode code 316 = .ok (.iload 16, 2) := by decide +kernel
theorem own_d18_318 : decode code 318 = .ok (.iconst 3, 1) := by decide +kernel
theorem own_d18_319 : decode code 319 = .ok (.invokestatic 45, 3) := by decide +kernel
theorem own_d18_322 : decode code 322 = .ok (.ifCond .eq 22, 3) := by decide +kernel
theorem own_d18_325 : decode code 325 = .ok (.aload 8, 2) := by decide +kernel
theorem own_d18_327 : decode code 327 = .ok (.aload 7, 2) := by decide +kernel
theorem own_d18_329 : decode code 329 = .ok (.iload 14, 2) := by decide +kernel
theorem own_d18_331 : decode code 331 = .ok (.iload 16, 2) := by decide +kernel
theorem own_d18_333 : decode code 333 = .ok (.iconst 4, 1) := by decide +kernel
theorem own_d18_334 : decode code 334 = .ok (.invokestatic 45, 3) := by decide +kernel
theorem own_d18_337 : decode code 337 = .ok (.ifCond .eq 7, 3) := by decide +kernel
theorem own_d18_340 : decode code 340 = .ok (.iconst 1, 1) := by decide +kernel
theorem own_d18_341 : decode code 341 = .ok (.goto 4, 3) := by decide +kernel
theorem own_d18_345 : decode code 345 = .ok (.ireturn, 1) := by decide +kernel
theorem own_d18_0 : decode code 0 = .ok (.iload_n 0, 1) := by decide +kernel
theorem own_d18_1 : decode code 1 = .ok (.bipush 7, 2) := by decide +kernel
theorem own_d18_3 : decode code 3 = .ok (.iand, 1) := by decide +kernel
theorem own_d18_4 : decode code 4 = .ok (.iconst 5, 1) := by decide +kernel
theorem own_d18_5 : decode code 5 = .ok (.invokestatic 19, 3) := by decide +kernel
theorem own_w0 {Z : State} {a0 : Array Value} (hw : ∀ d ∈ tables_1, d.before a0 Z = true) : ((Jvm.Cond.methodLink "com/example/caddis/caddis/conformance/XmlValuesTrimPinLaw" (19 : Nat) ({ cls := "java/lang/Math", name := "min", desc := "(II)I" } : Jvm.MethodName)) : Jvm.Cond).before a0 Z = true := hw _ (List.mem_of_getElem? (i := 0) rfl)
theorem own_d18_8 : decode code 8 = .ok (.istore 6, 2) := by decide +kernel
theorem own_d18_10 : decode code 10 = .ok (.iload 6, 2) := by decide +kernel
theorem own_d18_12 : decode code 12 = .ok (.newarray .char, 2) := by decide +kernel
theorem own_w4 {Z : State} {a0 : Array Value} (hw : ∀ d ∈ tables_1, d.before a0 Z = true) : ((Jvm.Cond.arrayClass Jvm.ClassFile.FieldType.char) : Jvm.Cond).before a0 Z = true := hw _ (List.mem_of_getElem? (i := 4) rfl)
theorem own_d18_14 : decode code 14 = .ok (.astore 7, 2) := by decide +kernel
theorem own_d18_16 : decode code 16 = .ok (.iload 6, 2) := by decide +kernel
theorem own_d18_18 : decode code 18 = .ok (.ifCond .le 11, 3) := by decide +kernel
theorem own_d18_29 : decode code 29 = .ok (.iload 6, 2) := by decide +kernel
theorem own_d18_31 : decode code 31 = .ok (.iconst 1, 1) := by decide +kernel
theorem own_d18_32 : decode code 32 = .ok (.if_icmp .le 11, 3) := by decide +kernel
theorem own_d18_43 : decode code 43 = .ok (.iload 6, 2) := by decide +kernel
theorem own_d18_45 : decode code 45 = .ok (.iconst 2, 1) := by decide +kernel
theorem own_d18_46 : decode code 46 = .ok (.if_icmp .le 11, 3) := by decide +kernel
theorem own_d18_57 : decode code 57 = .ok (.iload 6, 2) := by decide +kernel
theorem own_d18_59 : decode code 59 = .ok (.iconst 3, 1) := by decide +kernel
theorem own_d18_60 : decode code 60 = .ok (.if_icmp .le 12, 3) := by decide +kernel
theorem own_d18_72 : decode code 72 = .ok (.iload 6, 2) := by decide +kernel
theorem own_d18_74 : decode code 74 = .ok (.iconst 4, 1) := by decide +kernel
theorem own_d18_75 : decode code 75 = .ok (.if_icmp .le 12, 3) := by decide +kernel
theorem own_d18_87 : decode code 87 = .ok (.new 14, 3) := by decide +kernel
theorem own_w5 {Z : State} {a0 : Array Value} (hw : ∀ d ∈ tables_1, d.before a0 Z = true) : ((Jvm.Cond.classLink "com/example/caddis/caddis/conformance/XmlValuesTrimPinLaw" (14 : Nat) "java/lang/String") : Jvm.Cond).before a0 Z = true := hw _ (List.mem_of_getElem? (i := 5) rfl)
theorem own_d18_90 : decode code 90 = .ok (.dup, 1) := by decide +kernel
theorem own_d18_91 : decode code 91 = .ok (.aload 7, 2) := by decide +kernel
theorem own_d18_93 : decode code 93 = .ok (.invokespecial 28, 3) := by decide +kernel
theorem own_w10 {Z : State} {a0 : Array Value} (hw : ∀ d ∈ tables_1, d.before a0 Z = true) : ((Jvm.Cond.code ({ cls := "java/lang/String", name := "<init>", desc := "([C)V" } : Jvm.MethodName) jdk_42_method_3_code (2 : Nat) (Option.none : Option Jvm.ClassFile.FieldType)) : Jvm.Cond).before a0 Z = true := hw _ (List.mem_of_getElem? (i := 10) rfl)
theorem own_pd14 : parseMethodDescriptor "([C)V" = some ⟨[(.array .char)], none⟩ := by decide +kernel
theorem own_w8 {Z : State} {a0 : Array Value} (hw : ∀ d ∈ tables_1, d.before a0 Z = true) : ((Jvm.Cond.methodLink "com/example/caddis/caddis/conformance/XmlValuesTrimPinLaw" (28 : Nat) ({ cls := "java/lang/String", name := "<init>", desc := "([C)V" } : Jvm.MethodName)) : Jvm.Cond).before a0 Z = true := hw _ (List.mem_of_getElem? (i := 8) rfl)
theorem own_w9 {Z : State} {a0 : Array Value} (hw : ∀ d ∈ tables_1, d.before a0 Z = true) : ((Jvm.Cond.instanceMethod ({ cls := "java/lang/String", name := "<init>", desc := "([C)V" } : Jvm.MethodName)) : Jvm.Cond).before a0 Z = true := hw _ (List.mem_of_getElem? (i := 9) rfl)
theorem own_d18_96 : decode code 96 = .ok (.invokestatic 31, 3) := by decide +kernel
theorem own_w29 {Z : State} {a0 : Array Value} (hw : ∀ d ∈ tables_1, d.before a0 Z = true) : ((Jvm.Cond.code ({ cls := "com/example/caddis/caddis/conformance/XmlValues", name := "trim", desc := "(Ljava/lang/String;)Ljava/lang/String;" } : Jvm.MethodName) prog_41_method_2_code (3 : Nat) (Option.some (Jvm.ClassFile.FieldType.object "java/lang/String"))) : Jvm.Cond).before a0 Z = true := hw _ (List.mem_of_getElem? (i := 29) rfl)
theorem own_pd15 : parseMethodDescriptor "(Ljava/lang/String;)Ljava/lang/String;" = some ⟨[(.object "java/lang/String")], some (.object "java/lang/String")⟩ := by decide +kernel
theorem own_w26 {Z : State} {a0 : Array Value} (hw : ∀ d ∈ tables_1, d.before a0 Z = true) : ((Jvm.Cond.methodLink "com/example/caddis/caddis/conformance/XmlValuesTrimPinLaw" (31 : Nat) ({ cls := "com/example/caddis/caddis/conformance/XmlValues", name := "trim", desc := "(Ljava/lang/String;)Ljava/lang/String;" } : Jvm.MethodName)) : Jvm.Cond).before a0 Z = true := hw _ (List.mem_of_getElem? (i := 26) rfl)
theorem own_w27 {Z : State} {a0 : Array Value} (hw : ∀ d ∈ tables_1, d.before a0 Z = true) : ((Jvm.Cond.static ({ cls := "com/example/caddis/caddis/conformance/XmlValues", name := "trim", desc := "(Ljava/lang/String;)Ljava/lang/String;" } : Jvm.MethodName)) : Jvm.Cond).before a0 Z = true := hw _ (List.mem_of_getElem? (i := 27) rfl)
theorem own_d18_99 : decode code 99 = .ok (.astore 8, 2) := by decide +kernel
theorem own_d18_101 : decode code 101 = .ok (.aload 8, 2) := by decide +kernel
theorem own_d18_103 : decode code 103 = .ok (.ifnonnull 5, 3) := by decide +kernel
theorem own_d18_108 : decode code 108 = .ok (.aload 7, 2) := by decide +kernel
theorem own_d18_110 : decode code 110 = .ok (.iconst 0, 1) := by decide +kernel
theorem own_d18_111 : decode code 111 = .ok (.invokestatic 37, 3) := by decide +kernel
theorem own_w58 {Z : State} {a0 : Array Value} (hw : ∀ d ∈ tables_1, d.before a0 Z = true) : ((Jvm.Cond.code ({ cls := "com/example/caddis/caddis/conformance/XmlValuesTrimPinLaw", name := "ns", desc := "([CI)Z" } : Jvm.MethodName) method_4_code (2 : Nat) (Option.some Jvm.ClassFile.FieldType.boolean)) : Jvm.Cond).before a0 Z = true := hw _ (List.mem_of_getElem? (i := 58) rfl)
theorem own_pd16 : parseMethodDescriptor "([CI)Z" = some ⟨[(.array .char), .int], some .boolean⟩ := by decide +kernel
theorem own_w55 {Z : State} {a0 : Array Value} (hw : ∀ d ∈ tables_1, d.before a0 Z = true) : ((Jvm.Cond.methodLink "com/example/caddis/caddis/conformance/XmlValuesTrimPinLaw" (37 : Nat) ({ cls := "com/example/caddis/caddis/conformance/XmlValuesTrimPinLaw", name := "ns", desc := "([CI)Z" } : Jvm.MethodName)) : Jvm.Cond).before a0 Z = true := hw _ (List.mem_of_getElem? (i := 55) rfl)
theorem own_w56 {Z : State} {a0 : Array Value} (hw : ∀ d ∈ tables_1, d.before a0 Z = true) : ((Jvm.Cond.static ({ cls := "com/example/caddis/caddis/conformance/XmlValuesTrimPinLaw", name := "ns", desc := "([CI)Z" } : Jvm.MethodName)) : Jvm.Cond).before a0 Z = true := hw _ (List.mem_of_getElem? (i := 56) rfl)
theorem own_d18_114 : decode code 114 = .ok (.istore 9, 2) := by decide +kernel
theorem own_d18_116 : decode code 116 = .ok (.aload 7, 2) := by decide +kernel
theorem own_d18_118 : decode code 118 = .ok (.iconst 1, 1) := by decide +kernel
theorem own_d18_119 : decode code 119 = .ok (.invokestatic 37, 3) := by decide +kernel
theorem own_d18_122 : decode code 122 = .ok (.istore 10, 2) := by decide +kernel
theorem own_d18_124 : decode code 124 = .ok (.aload 7, 2) := by decide +kernel
theorem own_d18_126 : decode code 126 = .ok (.iconst 2, 1) := by decide +kernel
theorem own_d18_127 : decode code 127 = .ok (.invokestatic 37, 3) := by decide +kernel
theorem own_d18_130 : decode code 130 = .ok (.istore 11, 2) := by decide +kernel
theorem own_d18_132 : decode code 132 = .ok (.aload 7, 2) := by decide +kernel
theorem own_d18_134 : decode code 134 = .ok (.iconst 3, 1) := by decide +kernel
theorem own_d18_135 : decode code 135 = .ok (.invokestatic 37, 3) := by decide +kernel
theorem own_d18_138 : decode code 138 = .ok (.istore 12, 2) := by decide +kernel
theorem own_d18_140 : decode code 140 = .ok (.aload 7, 2) := by decide +kernel
theorem own_d18_142 : decode code 142 = .ok (.iconst 4, 1) := by decide +kernel
theorem own_d18_143 : decode code 143 = .ok (.invokestatic 37, 3) := by decide +kernel
theorem own_d18_146 : decode code 146 = .ok (.istore 13, 2) := by decide +kernel
theorem own_d18_148 : decode code 148 = .ok (.iload 9, 2) := by decide +kernel
theorem own_d18_150 : decode code 150 = .ok (.ifCond .eq 7, 3) := by decide +kernel
theorem own_d18_157 : decode code 157 = .ok (.iload 10, 2) := by decide +kernel
theorem own_d18_159 : decode code 159 = .ok (.ifCond .eq 7, 3) := by decide +kernel
theorem own_d18_166 : decode code 166 = .ok (.iload 11, 2) := by decide +kernel
theorem own_d18_168 : decode code 168 = .ok (.ifCond .eq 7, 3) := by decide +kernel
theorem own_d18_175 : decode code 175 = .ok (.iload 12, 2) := by decide +kernel
theorem own_d18_177 : decode code 177 = .ok (.ifCond .eq 7, 3) := by decide +kernel
theorem own_d18_184 : decode code 184 = .ok (.iload 13, 2) := by decide +kernel
theorem own_d18_186 : decode code 186 = .ok (.ifCond .eq 7, 3) := by decide +kernel
theorem own_d18_193 : decode code 193 = .ok (.iload 6, 2) := by decide +kernel
theorem own_d18_195 : decode code 195 = .ok (.istore 14, 2) := by decide +kernel
theorem own_d18_197 : decode code 197 = .ok (.iload 13, 2) := by decide +kernel
theorem own_d18_199 : decode code 199 = .ok (.ifCond .eq 7, 3) := by decide +kernel
theorem own_d18_206 : decode code 206 = .ok (.iload 12, 2) := by decide +kernel
theorem own_d18_208 : decode code 208 = .ok (.ifCond .eq 7, 3) := by decide +kernel
theorem own_d18_215 : decode code 215 = .ok (.iload 11, 2) := by decide +kernel
theorem own_d18_217 : decode code 217 = .ok (.ifCond .eq 7, 3) := by decide +kernel
theorem own_d18_224 : decode code 224 = .ok (.iload 10, 2) := by decide +kernel
theorem own_d18_226 : decode code 226 = .ok (.ifCond .eq 7, 3) := by decide +kernel
theorem own_d18_233 : decode code 233 = .ok (.iload 9, 2) := by decide +kernel
theorem own_d18_235 : decode code 235 = .ok (.ifCond .eq 7, 3) := by decide +kernel
theorem own_d18_242 : decode code 242 = .ok (.iload 6, 2) := by decide +kernel
theorem own_d18_244 : decode code 244 = .ok (.istore 15, 2) := by decide +kernel
theorem own_d18_246 : decode code 246 = .ok (.iload 15, 2) := by decide +kernel
theorem own_d18_248 : decode code 248 = .ok (.iload 14, 2) := by decide +kernel
theorem own_d18_250 : decode code 250 = .ok (.isub, 1) := by decide +kernel
theorem own_d18_251 : decode code 251 = .ok (.istore 16, 2) := by decide +kernel
theorem own_d18_21 : decode code 21 = .ok (.aload 7, 2) := by decide +kernel
theorem own_d18_23 : decode code 23 = .ok (.iconst 0, 1) := by decide +kernel
theorem own_d18_24 : decode code 24 = .ok (.iload_n 1, 1) := by decide +kernel
theorem own_d18_25 : decode code 25 = .ok (.invokestatic 25, 3) := by decide +kernel
theorem own_w65 {Z : State} {a0 : Array Value} (hw : ∀ d ∈ tables_1, d.before a0 Z = true) : ((Jvm.Cond.code ({ cls := "com/example/caddis/caddis/conformance/XmlValuesTrimPinLaw", name := "ch", desc := "(I)C" } : Jvm.MethodName) method_2_code (2 : Nat) (Option.some Jvm.ClassFile.FieldType.char)) : Jvm.Cond).before a0 Z = true := hw _ (List.mem_of_getElem? (i := 65) rfl)
theorem own_w63 {Z : State} {a0 : Array Value} (hw : ∀ d ∈ tables_1, d.before a0 Z = true) : ((Jvm.Cond.methodLink "com/example/caddis/caddis/conformance/XmlValuesTrimPinLaw" (25 : Nat) ({ cls := "com/example/caddis/caddis/conformance/XmlValuesTrimPinLaw", name := "ch", desc := "(I)C" } : Jvm.MethodName)) : Jvm.Cond).before a0 Z = true := hw _ (List.mem_of_getElem? (i := 63) rfl)
theorem own_w64 {Z : State} {a0 : Array Value} (hw : ∀ d ∈ tables_1, d.before a0 Z = true) : ((Jvm.Cond.static ({ cls := "com/example/caddis/caddis/conformance/XmlValuesTrimPinLaw", name := "ch", desc := "(I)C" } : Jvm.MethodName)) : Jvm.Cond).before a0 Z = true := hw _ (List.mem_of_getElem? (i := 64) rfl)
theorem own_d18_28 : decode code 28 = .ok (.castore, 1) := by decide +kernel
theorem own_d18_153 : decode code 153 = .ok (.iconst 0, 1) := by decide +kernel
theorem own_d18_154 : decode code 154 = .ok (.goto 41, 3) := by decide +kernel
theorem own_d18_238 : decode code 238 = .ok (.iconst 1, 1) := by decide +kernel
theorem own_d18_239 : decode code 239 = .ok (.goto 5, 3) := by decide +kernel
theorem own_d18_35 : decode code 35 = .ok (.aload 7, 2) := by decide +kernel
theorem own_d18_37 : decode code 37 = .ok (.iconst 1, 1) := by decide +kernel
theorem own_d18_38 : decode code 38 = .ok (.iload_n 2, 1) := by decide +kernel
theorem own_d18_39 : decode code 39 = .ok (.invokestatic 25, 3) := by decide +kernel
theorem own_d18_42 : decode code 42 = .ok (.castore, 1) := by decide +kernel
theorem own_d18_162 : decode code 162 = .ok (.iconst 1, 1) := by decide +kernel
theorem own_d18_163 : decode code 163 = .ok (.goto 32, 3) := by decide +kernel
theorem own_d18_229 : decode code 229 = .ok (.iconst 2, 1) := by decide +kernel
theorem own_d18_230 : decode code 230 = .ok (.goto 14, 3) := by decide +kernel
theorem own_d18_49 : decode code 49 = .ok (.aload 7, 2) := by decide +kernel
theorem own_d18_51 : decode code 51 = .ok (.iconst 2, 1) := by decide +kernel
theorem own_d18_52 : decode code 52 = .ok (.iload_n 3, 1) := by decide +kernel
theorem own_d18_53 : decode code 53 = .ok (.invokestatic 25, 3) := by decide +kernel
theorem own_d18_56 : decode code 56 = .ok (.castore, 1) := by decide +kernel
theorem own_d18_171 : decode code 171 = .ok (.iconst 2, 1) := by decide +kernel
theorem own_d18_172 : decode code 172 = .ok (.goto 23, 3) := by decide +kernel
theorem own_d18_220 : decode code 220 = .ok (.iconst 3, 1) := by decide +kernel
theorem own_d18_221 : decode code 221 = .ok (.goto 23, 3) := by decide +kernel
theorem own_d18_63 : decode code 63 = .ok (.aload 7, 2) := by decide +kernel
theorem own_d18_65 : decode code 65 = .ok (.iconst 3, 1) := by decide +kernel
theorem own_d18_66 : decode code 66 = .ok (.iload 4, 2) := by decide +kernel
theorem own_d18_68 : decode code 68 = .ok (.invokestatic 25, 3) := by decide +kernel
theorem own_d18_71 : decode code 71 = .ok (.castore, 1) := by decide +kernel
theorem own_d18_180 : decode code 180 = .ok (.iconst 3, 1) := by decide +kernel
theorem own_d18_181 : decode code 181 = .ok (.goto 14, 3) := by decide +kernel
theorem own_d18_211 : decode code 211 = .ok (.iconst 4, 1) := by decide +kernel
theorem own_d18_212 : decode code 212 = .ok (.goto 32, 3) := by decide +kernel
theorem own_d18_78 : decode code 78 = .ok (.aload 7, 2) := by decide +kernel
theorem own_d18_80 : decode code 80 = .ok (.iconst 4, 1) := by decide +kernel
theorem own_d18_81 : decode code 81 = .ok (.iload 5, 2) := by decide +kernel
theorem own_d18_83 : decode code 83 = .ok (.invokestatic 25, 3) := by decide +kernel
theorem own_d18_86 : decode code 86 = .ok (.castore, 1) := by decide +kernel
theorem own_d18_189 : decode code 189 = .ok (.iconst 4, 1) := by decide +kernel
theorem own_d18_190 : decode code 190 = .ok (.goto 5, 3) := by decide +kernel
theorem own_d18_202 : decode code 202 = .ok (.iconst 5, 1) := by decide +kernel
theorem own_d18_203 : decode code 203 = .ok (.goto 41, 3) := by decide +kernel
theorem own_ef_law (m : MethodId) (i0 : Int32) (i1 : Int32) (i2 : Int32) (i3 : Int32) (i4 : Int32) (i5 : Int32) : entryFrame m #[(.int i0), (.int i1), (.int i2), (.int i3), (.int i4), (.int i5)] maxLocals = mkF m 0 #[.val (.int i0), .val (.int i1), .val (.int i2), .val (.int i3), .val (.int i4), .val (.int i5), .unset, .unset, .unset, .unset, .unset, .unset, .unset, .unset, .unset, .unset, .unset] [] := by first | (simp [entryFrame, mkF, argsToLocals, Value.category, maxLocals]; done) | rfl
theorem own_pf18 : plainFor (⟨"com/example/caddis/caddis/conformance/XmlValuesTrimPinLaw", "law", "(IIIIII)Z"⟩ : MethodName) = true := by first | exact plainFor_of_name (by first | (simp [plainName, overriddenIn]; done) | decide +kernel) | decide +kernel
def own_Q_law (Z : State) (h0 : Heap) (i0 : Int32) (i1 : Int32) (i2 : Int32) (i3 : Int32) (i4 : Int32) (i5 : Int32) (z5 : Int32) (fm : Value) (v : Option Value) (h : Heap) (ms : List Addr) : Prop := (Keep h0 h []) ∧ (ms = []) ∧ (v = some (.int 1))
set_option maxRecDepth 65536 in
set_option maxHeartbeats 40000000 in
theorem own_tl_law (l : Launch) (Z : State) (a0 : Array Value) (hw : ∀ d ∈ tables_1, d.before a0 Z = true) (EL : List (String × Nat)) (hE : EW Z a0 EL) (n0 : Nat) (h0 : Heap) (i0 : Int32) (i1 : Int32) (i2 : Int32) (i3 : Int32) (i4 : Int32) (i5 : Int32) (z5 : Int32) (fm : Value) (nL : Int32) (ar : Addr) (a1 : Addr) (s9 : Int32) (s10 : Int32) (s11 : Int32) (s12 : Int32) (s13 : Int32) (sI : Int32) (eL : Int32) (nI : Int32) (t : Addr) (kb : ClassId) (N : Int32) (vs : List Value) (cs : List Int32) (kA : ClassId) (N3 : Int32) (vs3 : List Value) {p : _} {e : _} {s : _} {m : _} {below : _} {meth : _} {c : _} {T0 : _} {h1 : Heap} (w0 : own_Wk Z EL n0 x.cls code maxLocals ret x.name p l e room_1 s m #[(.int i0), (.int i1), (.int i2), (.int i3), (.int i4), (.int i5)] below meth c T0 [] 24 2176 h1) (K : Keep h0 h1 []) (S_COMPACT_STRINGS : Sta Z Z.heap "java/lang/String" "COMPACT_STRINGS" "Z" (.int z5)) (P5 : ¬ z5 = 0) (S_SIOOBE_FORMATTER : Sta Z Z.heap "jdk/internal/util/Preconditions" "SIOOBE_FORMATTER" "Ljava/util/function/BiFunction;" fm) (hfm : fm.isRef = true) (hE151 : ("java/lang/StringLatin1", 151) ∈ EL) (hEL : ("java/lang/String", 7) ∈ EL) (E_a1 : Exa Z h1 a1 "java/lang/String") (F_a1_coder : Fld Z h1 a1 "java/lang/String" "coder" "B" (.int 0)) (F_a1_value : Fld Z h1 a1 "java/lang/String" "value" "[B" (.ref t)) (A_t : Arv Z h1 t kb .byte N vs (.int 0)) (hcd : StrChars.Road.CodA cs 0 N vs) (hbd : ∀ c ∈ cs, ¬ c < 0 ∧ ¬ (65535 : Int32) < c) (l2 : cs.length ≤ 4000) (A_ar : Arv Z h1 ar kA .char N3 vs3 (.int 0)) (hlen : Int32.ofNat cs.length = nI) (g0 : (0 : Int32) < nI → (0 < cs.length ∧ (¬ (sI + (0 : Int32)) < 0 ∧ (sI + (0 : Int32)) < N3) ∧ vs3.getD (sI + (0 : Int32)).toNatClampNeg (.int 0) = .int (List.getD cs 0 0))) (g1 : (1 : Int32) < nI → (1 < cs.length ∧ (¬ (sI + (1 : Int32)) < 0 ∧ (sI + (1 : Int32)) < N3) ∧ vs3.getD (sI + (1 : Int32)).toNatClampNeg (.int 0) = .int (List.getD cs 1 0))) (g2 : (2 : Int32) < nI → (2 < cs.length ∧ (¬ (sI + (2 : Int32)) < 0 ∧ (sI + (2 : Int32)) < N3) ∧ vs3.getD (sI + (2 : Int32)).toNatClampNeg (.int 0) = .int (List.getD cs 2 0))) (g3 : (3 : Int32) < nI → (3 < cs.length ∧ (¬ (sI + (3 : Int32)) < 0 ∧ (sI + (3 : Int32)) < N3) ∧ vs3.getD (sI + (3 : Int32)).toNatClampNeg (.int 0) = .int (List.getD cs 3 0))) (g4 : (4 : Int32) < nI → (4 < cs.length ∧ (¬ (sI + (4 : Int32)) < 0 ∧ (sI + (4 : Int32)) < N3) ∧ vs3.getD (sI + (4 : Int32)).toNatClampNeg (.int 0) = .int (List.getD cs 4 0))) :
    own_Go Z EL n0 p e below s room_1.cells room_1.slots (own_Q_law Z h0 i0 i1 i2 i3 i4 i5 z5 fm) (T0.setTop (mkF m 253 #[.val (.int i0), .val (.int i1), .val (.int i2), .val (.int i3), .val (.int i4), .val (.int i5), .val (.int nL), .val (.ref ar), .val (.ref a1), .val (.int s9), .val (.int s10), .val (.int s11), .val (.int s12), .val (.int s13), .val (.int sI), .val (.int eL), .val (.int nI)] [])) := by
 refine own_aload (pc' := 255) w0 own_d18_253 rfl rfl rfl ?_
 refine own_callVB (pc' := 258) w0 (kc := 0) (nc := 0) (own_w59 hw) (own_w31 hw) (fun s' hZ' => notFace_of_selects (args := #[]) (mvT hZ' (own_w33 hw))) (own_w33 hw) (own_w32 hw) (by decide) E_a1 (QQ := fun v h' L => (v = some (.int (Int32.ofNat (List.length cs)))) ∧ L = [] ∧ h' = h1) (fun s' hZ' => StrChars.Road.lenW (W := 0) hZ' (own_hwl hw) (kI := 4) (own_w6 hw) E_a1 F_a1_value F_a1_coder A_t hcd hbd (S_COMPACT_STRINGS.ext (own_old w0).2) P5 l2 (by decide) (by decide)) (ws := []) all0 (fun v h' L q => ⟨q.2.2 ▸ Keep.refl _ _, q.2.1 ▸ Fr.nil _⟩) (argsL := []) (rest := []) rfl rfl own_pd6 rfl own_d18_255 rfl (Nat.le_of_eq rfl) (by decide) (by decide) fun T1 h3 v4 w2 K5 q6 => ?_
 obtain ⟨_, rfl, -, e7⟩ := q6
 rw [e7] at w2
 show own_Go Z EL n0 p e below s _ _ _ (T1.setTop (mkF m 258 _ [(.int (Int32.ofNat (List.length cs)))]))
 refine own_iload (pc' := 260) w2 own_d18_258 rfl rfl ?_
 refine own_icmp (pc' := 263) w2 own_d18_260 rfl (by decide) (pcY := 265) rfl (fun (hb260 : (Int32.ofNat (List.length cs)) = nI) => ?_) (fun (hb260 : ¬ (Int32.ofNat (List.length cs)) = nI) => absurd hlen hb260)
 refine own_aload (pc' := 267) w2 own_d18_265 rfl rfl rfl ?_
 refine own_aload (pc' := 269) w2 own_d18_267 rfl rfl rfl ?_
 refine own_iload (pc' := 271) w2 own_d18_269 rfl rfl ?_
 refine own_iload (pc' := 273) w2 own_d18_271 rfl rfl ?_
 refine own_iconst (pc' := 274) w2 own_d18_273 (x := (0 : Int32)) rfl rfl ?_
 refine own_callS (pc' := 277) w2 (own_w60 hw) (own_w61 hw) (own_w57 hw) (own_w62 hw) (by decide) (own_ct_ckAny l Z a0 hw EL hE n0 [] h1 (own_old w2) a1 ar sI nI (0 : Int32) t kb N vs cs kA N3 vs3 0 z5 fm E_a1 F_a1_coder F_a1_value A_t (hcd) (hbd) (l2) A_ar S_COMPACT_STRINGS (P5) S_SIOOBE_FORMATTER (hfm) (rfl) (g0)) all0 (argsL := [(.ref a1), (.ref ar), (.int sI), (.int nI), (.int (0 : Int32))]) (rest := []) rfl rfl own_pd13 rfl own_d18_274 rfl (by decide) (W := 0) rfl (by decide) (by decide) (by decide) fun T8 h10 v11 ms12 w9 q13 => ?_
 obtain ⟨rfl, rfl, rfl⟩ := q13
 show own_Go Z EL n0 p e below s _ _ _ (T8.setTop (mkF m 277 _ [(.int (1 : Int32))]))
 refine own_if (pc' := 280) w9 own_d18_277 rfl (by decide) (pcY := 344) rfl (fun (hb277 : (1 : Int32) = (0 : Int32)) => absurd hb277 (by decide)) (fun (hb277 : ¬ (1 : Int32) = (0 : Int32)) => ?_)
 refine own_aload (pc' := 282) w9 own_d18_280 rfl rfl rfl ?_
 refine own_aload (pc' := 284) w9 own_d18_282 rfl rfl rfl ?_
 refine own_iload (pc' := 286) w9 own_d18_284 rfl rfl ?_
 refine own_iload (pc' := 288) w9 own_d18_286 rfl rfl ?_
 refine own_iconst (pc' := 289) w9 own_d18_288 (x := (1 : Int32)) rfl rfl ?_
 refine own_callS (pc' := 292) w9 (own_w60 hw) (own_w61 hw) (own_w57 hw) (own_w62 hw) (by decide) (own_ct_ckAny l Z a0 hw EL hE n0 [] h1 (own_old w9) a1 ar sI nI (1 : Int32) t kb N vs cs kA N3 vs3 1 z5 fm E_a1 F_a1_coder F_a1_value A_t (hcd) (hbd) (l2) A_ar S_COMPACT_STRINGS (P5) S_SIOOBE_FORMATTER (hfm) (rfl) (g1)) all0 (argsL := [(.ref a1), (.ref ar), (.int sI), (.int nI), (.int (1 : Int32))]) (rest := []) rfl rfl own_pd13 rfl own_d18_289 rfl (by decide) (W := 0) rfl (by decide) (by decide) (by decide) fun T14 h16 v17 ms18 w15 q19 => ?_
 obtain ⟨rfl, rfl, rfl⟩ := q19
 show own_Go Z EL n0 p e below s _ _ _ (T14.setTop (mkF m 292 _ [(.int (1 : Int32))]))
 refine own_if (pc' := 295) w15 own_d18_292 rfl (by decide) (pcY := 344) rfl (fun (hb292 : (1 : Int32) = (0 : Int32)) => absurd hb292 (by decide)) (fun (hb292 : ¬ (1 : Int32) = (0 : Int32)) => ?_)
 refine own_aload (pc' := 297) w15 own_d18_295 rfl rfl rfl ?_
 refine own_aload (pc' := 299) w15 own_d18_297 rfl rfl rfl ?_
 refine own_iload (pc' := 301) w15 own_d18_299 rfl rfl ?_
 refine own_iload (pc' := 303) w15 own_d18_301 rfl rfl ?_
 refine own_iconst (pc' := 304) w15 own_d18_303 (x := (2 : Int32)) rfl rfl ?_
 refine own_callS (pc' := 307) w15 (own_w60 hw) (own_w61 hw) (own_w57 hw) (own_w62 hw) (by decide) (own_ct_ckAny l Z a0 hw EL hE n0 [] h1 (own_old w15) a1 ar sI nI (2 : Int32) t kb N vs cs kA N3 vs3 2 z5 fm E_a1 F_a1_coder F_a1_value A_t (hcd) (hbd) (l2) A_ar S_COMPACT_STRINGS (P5) S_SIOOBE_FORMATTER (hfm) (rfl) (g2)) all0 (argsL := [(.ref a1), (.ref ar), (.int sI), (.int nI), (.int (2 : Int32))]) (rest := []) rfl rfl own_pd13 rfl own_d18_304 rfl (by decide) (W := 0) rfl (by decide) (by decide) (by decide) fun T20 h22 v23 ms24 w21 q25 => ?_
 obtain ⟨rfl, rfl, rfl⟩ := q25
 show own_Go Z EL n0 p e below s _ _ _ (T20.setTop (mkF m 307 _ [(.int (1 : Int32))]))
 refine own_if (pc' := 310) w21 own_d18_307 rfl (by decide) (pcY := 344) rfl (fun (hb307 : (1 : Int32) = (0 : Int32)) => absurd hb307 (by decide)) (fun (hb307 : ¬ (1 : Int32) = (0 : Int32)) => ?_)
 refine own_aload (pc' := 312) w21 own_d18_310 rfl rfl rfl ?_
 refine own_aload (pc' := 314) w21 own_d18_312 rfl rfl rfl ?_
 refine own_iload (pc' := 316) w21 own_d18_314 rfl rfl ?_
 refine own_iload (pc' := 318) w21 own_d18_316 rfl rfl ?_
 refine own_iconst (pc' := 319) w21 own_d18_318 (x := (3 : Int32)) rfl rfl ?_
 refine own_callS (pc' := 322) w21 (own_w60 hw) (own_w61 hw) (own_w57 hw) (own_w62 hw) (by decide) (own_ct_ckAny l Z a0 hw EL hE n0 [] h1 (own_old w21) a1 ar sI nI (3 : Int32) t kb N vs cs kA N3 vs3 3 z5 fm E_a1 F_a1_coder F_a1_value A_t (hcd) (hbd) (l2) A_ar S_COMPACT_STRINGS (P5) S_SIOOBE_FORMATTER (hfm) (rfl) (g3)) all0 (argsL := [(.ref a1), (.ref ar), (.int sI), (.int nI), (.int (3 : Int32))]) (rest := []) rfl rfl own_pd13 rfl own_d18_319 rfl (by decide) (W := 0) rfl (by decide) (by decide) (by decide) fun T26 h28 v29 ms30 w27 q31 => ?_
 obtain ⟨rfl, rfl, rfl⟩ := q31
 show own_Go Z EL n0 p e below s _ _ _ (T26.setTop (mkF m 322 _ [(.int (1 : Int32))]))
 refine own_if (pc' := 325) w27 own_d18_322 rfl (by decide) (pcY := 344) rfl (fun (hb322 : (1 : Int32) = (0 : Int32)) => absurd hb322 (by decide)) (fun (hb322 : ¬ (1 : Int32) = (0 : Int32)) => ?_)
 refine own_aload (pc' := 327) w27 own_d18_325 rfl rfl rfl ?_
 refine own_aload (pc' := 329) w27 own_d18_327 rfl rfl rfl ?_
 refine own_iload (pc' := 331) w27 own_d18_329 rfl rfl ?_
 refine own_iload (pc' := 333) w27 own_d18_331 rfl rfl ?_
 refine own_iconst (pc' := 334) w27 own_d18_333 (x := (4 : Int32)) rfl rfl ?_
 refine own_callS (pc' := 337) w27 (own_w60 hw) (own_w61 hw) (own_w57 hw) (own_w62 hw) (by decide) (own_ct_ckAny l Z a0 hw EL hE n0 [] h1 (own_old w27) a1 ar sI nI (4 : Int32) t kb N vs cs kA N3 vs3 4 z5 fm E_a1 F_a1_coder F_a1_value A_t (hcd) (hbd) (l2) A_ar S_COMPACT_STRINGS (P5) S_SIOOBE_FORMATTER (hfm) (rfl) (g4)) all0 (argsL := [(.ref a1), (.ref ar), (.int sI), (.int nI), (.int (4 : Int32))]) (rest := []) rfl rfl own_pd13 rfl own_d18_334 rfl (by decide) (W := 0) rfl (by decide) (by decide) (by decide) fun T32 h34 v35 ms36 w33 q37 => ?_
 obtain ⟨rfl, rfl, rfl⟩ := q37
 show own_Go Z EL n0 p e below s _ _ _ (T32.setTop (mkF m 337 _ [(.int (1 : Int32))]))
 refine own_if (pc' := 340) w33 own_d18_337 rfl (by decide) (pcY := 344) rfl (fun (hb337 : (1 : Int32) = (0 : Int32)) => absurd hb337 (by decide)) (fun (hb337 : ¬ (1 : Int32) = (0 : Int32)) => ?_)
 refine own_iconst (pc' := 341) w33 own_d18_340 (x := (1 : Int32)) rfl rfl ?_
 refine own_goto w33 own_d18_341 (by decide) (pc' := 345) rfl ?_
 exact own_retV w33 (t := .boolean) rfl rfl (Or.inl ⟨rfl, by simp, _, rfl⟩) own_d18_345 (by decide) (by decide) (ms' := []) all0 ⟨K, rfl, rfl⟩
set_option maxRecDepth 65536 in
set_option maxHeartbeats 40000000 in
theorem own_ct_law (l : Launch) (Z : State) (a0 : Array Value) (hw : ∀ d ∈ tables_1, d.before a0 Z = true) (EL : List (String × Nat)) (hE : EW Z a0 EL) (n0 : Nat) (ws : List Jvm.Cond) (h0 : Heap) (O : Old Z n0 h0) (i0 : Int32) (i1 : Int32) (i2 : Int32) (i3 : Int32) (i4 : Int32) (i5 : Int32) (z5 : Int32) (fm : Value) (S_COMPACT_STRINGS : Sta Z Z.heap "java/lang/String" "COMPACT_STRINGS" "Z" (.int z5)) (P5 : ¬ z5 = 0) (S_SIOOBE_FORMATTER : Sta Z Z.heap "jdk/internal/util/Preconditions" "SIOOBE_FORMATTER" "Ljava/util/function/BiFunction;" fm) (hfm : fm.isRef = true) (hE151 : ("java/lang/StringLatin1", 151) ∈ EL) (hEL : ("java/lang/String", 7) ∈ EL) :
    own_Ct l Z EL n0 x code maxLocals ret ws room_1 #[(.int i0), (.int i1), (.int i2), (.int i3), (.int i4), (.int i5)] h0 [] (own_Q_law Z h0 i0 i1 i2 i3 i4 i5 z5 fm) := by
 refine own_enter (a0 := a0) own_pf18 hE O fun p e s m below meth c T0 w0 => ?_
 rw [own_ef_law m i0 i1 i2 i3 i4 i5]
 have K : Keep h0 h0 [] := Keep.refl _ _
 refine own_iloadN (pc' := 1) w0 own_d18_0 rfl rfl ?_
 refine own_bipush (pc' := 3) w0 own_d18_1 (x := (7 : Int32)) rfl rfl ?_
 refine own_iand (pc' := 4) w0 own_d18_3 (z := (i0 &&& (7 : Int32))) rfl rfl ?_
 refine own_iconst (pc' := 5) w0 own_d18_4 (x := (5 : Int32)) rfl rfl ?_
 rcases own_n5 i0 with hn | hn | hn | hn | hn | hn
 ·
  refine own_callS (pc' := 8) w0 (own_w0 hw) (own_w1 hw) (own_w2 hw) (own_w3 hw) (by decide) (own_ct_minV l Z a0 hw EL hE n0 [] h0 (own_old w0) (i0 &&& (7 : Int32)) (5 : Int32) (0 : Int32) (hn)) all0 (argsL := [(.int (i0 &&& (7 : Int32))), (.int (5 : Int32))]) (rest := []) rfl rfl own_pd2 rfl own_d18_5 rfl (by decide) (W := 0) rfl (by decide) (by decide) (by decide) fun T1 h3 v4 ms5 w2 q6 => ?_
  obtain ⟨rfl, rfl, rfl⟩ := q6
  show own_Go Z EL n0 p e below s _ _ _ (T1.setTop (mkF m 8 _ [(.int (0 : Int32))]))
  refine own_istore (pc' := 10) w2 own_d18_8 (Ls' := #[.val (.int i0), .val (.int i1), .val (.int i2), .val (.int i3), .val (.int i4), .val (.int i5), .val (.int (0 : Int32)), .unset, .unset, .unset, .unset, .unset, .unset, .unset, .unset, .unset, .unset]) rfl rfl ?_
  refine own_iload (pc' := 12) w2 own_d18_10 rfl rfl ?_
  refine own_newP (pc' := 14) w2 (aty := .char) (z := (0 : Int32)) (vs := []) (dv := (.int 0)) (cap := 0) (own_w4 hw) own_d18_12 rfl (by decide) (by decide) (by decide) rfl (own_rep 0 (.int 0)) (by decide) (by decide) fun T7 h9 a11 g_a11 w8 E10 ⟨k_a11, A_a11⟩ => ?_
  have nw_a11 : h0.size ≤ a11 := Nat.le_trans K.1 (Nat.le_of_eq g_a11)
  replace K := K.ext E10
  refine own_astore (pc' := 16) w8 own_d18_14 rfl (Ls' := #[.val (.int i0), .val (.int i1), .val (.int i2), .val (.int i3), .val (.int i4), .val (.int i5), .val (.int (0 : Int32)), .val (.ref a11), .unset, .unset, .unset, .unset, .unset, .unset, .unset, .unset, .unset]) rfl rfl ?_
  refine own_iload (pc' := 18) w8 own_d18_16 rfl rfl ?_
  refine own_if (pc' := 21) w8 own_d18_18 rfl (by decide) (pcY := 29) rfl (fun (hb18 : ¬ (0 : Int32) < (0 : Int32)) => ?_) (fun (hb18 : (0 : Int32) < (0 : Int32)) => absurd hb18 (by decide))
  refine own_iload (pc' := 31) w8 own_d18_29 rfl rfl ?_
  refine own_iconst (pc' := 32) w8 own_d18_31 (x := (1 : Int32)) rfl rfl ?_
  refine own_icmp (pc' := 35) w8 own_d18_32 rfl (by decide) (pcY := 43) rfl (fun (hb32 : ¬ (1 : Int32) < (0 : Int32)) => ?_) (fun (hb32 : (1 : Int32) < (0 : Int32)) => absurd hb32 (by decide))
  refine own_iload (pc' := 45) w8 own_d18_43 rfl rfl ?_
  refine own_iconst (pc' := 46) w8 own_d18_45 (x := (2 : Int32)) rfl rfl ?_
  refine own_icmp (pc' := 49) w8 own_d18_46 rfl (by decide) (pcY := 57) rfl (fun (hb46 : ¬ (2 : Int32) < (0 : Int32)) => ?_) (fun (hb46 : (2 : Int32) < (0 : Int32)) => absurd hb46 (by decide))
  refine own_iload (pc' := 59) w8 own_d18_57 rfl rfl ?_
  refine own_iconst (pc' := 60) w8 own_d18_59 (x := (3 : Int32)) rfl rfl ?_
  refine own_icmp (pc' := 63) w8 own_d18_60 rfl (by decide) (pcY := 72) rfl (fun (hb60 : ¬ (3 : Int32) < (0 : Int32)) => ?_) (fun (hb60 : (3 : Int32) < (0 : Int32)) => absurd hb60 (by decide))
  refine own_iload (pc' := 74) w8 own_d18_72 rfl rfl ?_
  refine own_iconst (pc' := 75) w8 own_d18_74 (x := (4 : Int32)) rfl rfl ?_
  refine own_icmp (pc' := 78) w8 own_d18_75 rfl (by decide) (pcY := 87) rfl (fun (hb75 : ¬ (4 : Int32) < (0 : Int32)) => ?_) (fun (hb75 : (4 : Int32) < (0 : Int32)) => absurd hb75 (by decide))
  refine own_newO (pc' := 90) w8 (own_w5 hw) (own_w6 hw) (own_w7 hw) own_d18_87 rfl (by decide) (by decide) fun T12 h14 a16 g_a16 w13 E15 ⟨E_a16, D17⟩ => ?_
  have ne_a11_a16 : a11 ≠ a16 := Nat.ne_of_lt (Nat.lt_of_lt_of_le A_a11.lt (Nat.le_of_eq g_a16))
  have nw_a16 : h0.size ≤ a16 := Nat.le_trans K.1 (Nat.le_of_eq g_a16)
  replace A_a11 := A_a11.ext E15
  replace K := K.ext E15
  have F_a16_value : Fld Z h14 a16 "java/lang/String" "value" "[B" .null := D17 (Or.inr (own_w20 hw)) (ty := (.array .byte)) (by decide)
  have F_a16_coder : Fld Z h14 a16 "java/lang/String" "coder" "B" (.int 0) := D17 (Or.inr (own_w21 hw)) (ty := .byte) (by decide)
  refine own_dup (pc' := 91) w13 own_d18_90 rfl rfl ?_
  refine own_aload (pc' := 93) w13 own_d18_91 rfl rfl rfl ?_
  refine own_callI (pc' := 96) w13 rfl (own_w8 hw) (own_w9 hw) (own_w7 hw) (own_w10 hw) (by decide) (own_ct_strE1 l Z a0 hw EL hE n0 [] h14 (own_old w13) a16 a11 .null (.int 0) k_a11 [] (.int 0) E_a16 F_a16_value F_a16_coder A_a11 (hEL) ne_a11_a16) (allS (P := fun x => x ∈ _) (by simp) all0) (argsL := [(.ref a11)]) (rest := [(.ref a16)]) rfl rfl own_pd14 rfl own_d18_93 rfl (by decide) (W := 1) rfl (by decide) (by decide) (by decide) fun T18 h20 v21 ms22 w19 q23 => ?_
  obtain ⟨K26, t_24, kb_25, rfl, rfl, nw_E_a16, nw_F_a16_coder, nw_F_a16_value, nw_A_t_24, p93_strE1_0⟩ := q23
  replace A_a11 := A_a11.keep K26 (ninS ne_a11_a16 nin0)
  replace K := K.trans K26 (allS (P := fun x => x ∈ ([] : List Addr) ∨ h0.size ≤ x) (Or.inr nw_a16) all0)
  have E_a16 := nw_E_a16; clear nw_E_a16
  have F_a16_coder := nw_F_a16_coder; clear nw_F_a16_coder
  have F_a16_value := nw_F_a16_value; clear nw_F_a16_value
  have A_t_24 := nw_A_t_24; clear nw_A_t_24
  show own_Go Z EL n0 p e below s _ _ _ (T18.setTop (mkF m 96 _ [(.ref a16)]))
  refine own_callS (pc' := 99) w19 (own_w26 hw) (own_w27 hw) (own_w28 hw) (own_w29 hw) (by decide) (own_ct_trim0 l Z a0 hw EL hE n0 [] h20 (own_old w19) a16 t_24 kb_25 z5 fm E_a16 F_a16_coder F_a16_value A_t_24 S_COMPACT_STRINGS (P5) S_SIOOBE_FORMATTER (hfm) (hE151)) all0 (argsL := [(.ref a16)]) (rest := []) rfl rfl own_pd15 rfl own_d18_96 rfl (by decide) (W := 0) rfl (by decide) (by decide) (by decide) fun T27 h29 v30 ms31 w28 q32 => ?_
  obtain ⟨K39, r_33, t2_34, kA_35, N2_36, vs2_37, ds_38, rfl, rfl, nw_E_r_33, nw_F_r_33_coder, nw_F_r_33_value, nw_A_t2_34, p96_trim0_0, p96_trim0_1, p96_trim0_2, p96_trim0_3⟩ := q32
  replace A_a11 := A_a11.keep K39 nin0
  replace E_a16 := E_a16.keep K39
  replace F_a16_coder := F_a16_coder.keep K39 nin0
  replace F_a16_value := F_a16_value.keep K39 nin0
  replace A_t_24 := A_t_24.keep K39 nin0
  replace K := K.trans K39 all0
  have E_r_33 := nw_E_r_33; clear nw_E_r_33
  have F_r_33_coder := nw_F_r_33_coder; clear nw_F_r_33_coder
  have F_r_33_value := nw_F_r_33_value; clear nw_F_r_33_value
  have A_t2_34 := nw_A_t2_34; clear nw_A_t2_34
  show own_Go Z EL n0 p e below s _ _ _ (T27.setTop (mkF m 99 _ [(.ref r_33)]))
  refine own_astore (pc' := 101) w28 own_d18_99 rfl (Ls' := #[.val (.int i0), .val (.int i1), .val (.int i2), .val (.int i3), .val (.int i4), .val (.int i5), .val (.int (0 : Int32)), .val (.ref a11), .val (.ref r_33), .unset, .unset, .unset, .unset, .unset, .unset, .unset, .unset]) rfl rfl ?_
  refine own_aload (pc' := 103) w28 own_d18_101 rfl rfl rfl ?_
  refine own_ifnonnullY w28 own_d18_103 (by decide) (pc' := 108) rfl ?_
  refine own_aload (pc' := 110) w28 own_d18_108 rfl rfl rfl ?_
  refine own_iconst (pc' := 111) w28 own_d18_110 (x := (0 : Int32)) rfl rfl ?_
  refine own_callS (pc' := 114) w28 (own_w55 hw) (own_w56 hw) (own_w57 hw) (own_w58 hw) (by decide) (own_ct_nsOut l Z a0 hw EL hE n0 [] h29 (own_old w28) a11 (0 : Int32) k_a11 (0 : Int32) [] A_a11 (by decide)) all0 (argsL := [(.ref a11), (.int (0 : Int32))]) (rest := []) rfl rfl own_pd16 rfl own_d18_111 rfl (by decide) (W := 0) rfl (by decide) (by decide) (by decide) fun T40 h42 v43 ms44 w41 q45 => ?_
  obtain ⟨rfl, rfl, rfl⟩ := q45
  show own_Go Z EL n0 p e below s _ _ _ (T40.setTop (mkF m 114 _ [(.int (0 : Int32))]))
  refine own_istore (pc' := 116) w41 own_d18_114 (Ls' := #[.val (.int i0), .val (.int i1), .val (.int i2), .val (.int i3), .val (.int i4), .val (.int i5), .val (.int (0 : Int32)), .val (.ref a11), .val (.ref r_33), .val (.int (0 : Int32)), .unset, .unset, .unset, .unset, .unset, .unset, .unset]) rfl rfl ?_
  refine own_aload (pc' := 118) w41 own_d18_116 rfl rfl rfl ?_
  refine own_iconst (pc' := 119) w41 own_d18_118 (x := (1 : Int32)) rfl rfl ?_
  refine own_callS (pc' := 122) w41 (own_w55 hw) (own_w56 hw) (own_w57 hw) (own_w58 hw) (by decide) (own_ct_nsOut l Z a0 hw EL hE n0 [] h29 (own_old w41) a11 (1 : Int32) k_a11 (0 : Int32) [] A_a11 (by decide)) all0 (argsL := [(.ref a11), (.int (1 : Int32))]) (rest := []) rfl rfl own_pd16 rfl own_d18_119 rfl (by decide) (W := 0) rfl (by decide) (by decide) (by decide) fun T46 h48 v49 ms50 w47 q51 => ?_
  obtain ⟨rfl, rfl, rfl⟩ := q51
  show own_Go Z EL n0 p e below s _ _ _ (T46.setTop (mkF m 122 _ [(.int (0 : Int32))]))
  refine own_istore (pc' := 124) w47 own_d18_122 (Ls' := #[.val (.int i0), .val (.int i1), .val (.int i2), .val (.int i3), .val (.int i4), .val (.int i5), .val (.int (0 : Int32)), .val (.ref a11), .val (.ref r_33), .val (.int (0 : Int32)), .val (.int (0 : Int32)), .unset, .unset, .unset, .unset, .unset, .unset]) rfl rfl ?_
  refine own_aload (pc' := 126) w47 own_d18_124 rfl rfl rfl ?_
  refine own_iconst (pc' := 127) w47 own_d18_126 (x := (2 : Int32)) rfl rfl ?_
  refine own_callS (pc' := 130) w47 (own_w55 hw) (own_w56 hw) (own_w57 hw) (own_w58 hw) (by decide) (own_ct_nsOut l Z a0 hw EL hE n0 [] h29 (own_old w47) a11 (2 : Int32) k_a11 (0 : Int32) [] A_a11 (by decide)) all0 (argsL := [(.ref a11), (.int (2 : Int32))]) (rest := []) rfl rfl own_pd16 rfl own_d18_127 rfl (by decide) (W := 0) rfl (by decide) (by decide) (by decide) fun T52 h54 v55 ms56 w53 q57 => ?_
  obtain ⟨rfl, rfl, rfl⟩ := q57
  show own_Go Z EL n0 p e below s _ _ _ (T52.setTop (mkF m 130 _ [(.int (0 : Int32))]))
  refine own_istore (pc' := 132) w53 own_d18_130 (Ls' := #[.val (.int i0), .val (.int i1), .val (.int i2), .val (.int i3), .val (.int i4), .val (.int i5), .val (.int (0 : Int32)), .val (.ref a11), .val (.ref r_33), .val (.int (0 : Int32)), .val (.int (0 : Int32)), .val (.int (0 : Int32)), .unset, .unset, .unset, .unset, .unset]) rfl rfl ?_
  refine own_aload (pc' := 134) w53 own_d18_132 rfl rfl rfl ?_
  refine own_iconst (pc' := 135) w53 own_d18_134 (x := (3 : Int32)) rfl rfl ?_
  refine own_callS (pc' := 138) w53 (own_w55 hw) (own_w56 hw) (own_w57 hw) (own_w58 hw) (by decide) (own_ct_nsOut l Z a0 hw EL hE n0 [] h29 (own_old w53) a11 (3 : Int32) k_a11 (0 : Int32) [] A_a11 (by decide)) all0 (argsL := [(.ref a11), (.int (3 : Int32))]) (rest := []) rfl rfl own_pd16 rfl own_d18_135 rfl (by decide) (W := 0) rfl (by decide) (by decide) (by decide) fun T58 h60 v61 ms62 w59 q63 => ?_
  obtain ⟨rfl, rfl, rfl⟩ := q63
  show own_Go Z EL n0 p e below s _ _ _ (T58.setTop (mkF m 138 _ [(.int (0 : Int32))]))
  refine own_istore (pc' := 140) w59 own_d18_138 (Ls' := #[.val (.int i0), .val (.int i1), .val (.int i2), .val (.int i3), .val (.int i4), .val (.int i5), .val (.int (0 : Int32)), .val (.ref a11), .val (.ref r_33), .val (.int (0 : Int32)), .val (.int (0 : Int32)), .val (.int (0 : Int32)), .val (.int (0 : Int32)), .unset, .unset, .unset, .unset]) rfl rfl ?_
  refine own_aload (pc' := 142) w59 own_d18_140 rfl rfl rfl ?_
  refine own_iconst (pc' := 143) w59 own_d18_142 (x := (4 : Int32)) rfl rfl ?_
  refine own_callS (pc' := 146) w59 (own_w55 hw) (own_w56 hw) (own_w57 hw) (own_w58 hw) (by decide) (own_ct_nsOut l Z a0 hw EL hE n0 [] h29 (own_old w59) a11 (4 : Int32) k_a11 (0 : Int32) [] A_a11 (by decide)) all0 (argsL := [(.ref a11), (.int (4 : Int32))]) (rest := []) rfl rfl own_pd16 rfl own_d18_143 rfl (by decide) (W := 0) rfl (by decide) (by decide) (by decide) fun T64 h66 v67 ms68 w65 q69 => ?_
  obtain ⟨rfl, rfl, rfl⟩ := q69
  show own_Go Z EL n0 p e below s _ _ _ (T64.setTop (mkF m 146 _ [(.int (0 : Int32))]))
  refine own_istore (pc' := 148) w65 own_d18_146 (Ls' := #[.val (.int i0), .val (.int i1), .val (.int i2), .val (.int i3), .val (.int i4), .val (.int i5), .val (.int (0 : Int32)), .val (.ref a11), .val (.ref r_33), .val (.int (0 : Int32)), .val (.int (0 : Int32)), .val (.int (0 : Int32)), .val (.int (0 : Int32)), .val (.int (0 : Int32)), .unset, .unset, .unset]) rfl rfl ?_
  refine own_iload (pc' := 150) w65 own_d18_148 rfl rfl ?_
  refine own_if (pc' := 153) w65 own_d18_150 rfl (by decide) (pcY := 157) rfl (fun (hb150 : (0 : Int32) = (0 : Int32)) => ?_) (fun (hb150 : ¬ (0 : Int32) = (0 : Int32)) => absurd hb150 (by decide))
  refine own_iload (pc' := 159) w65 own_d18_157 rfl rfl ?_
  refine own_if (pc' := 162) w65 own_d18_159 rfl (by decide) (pcY := 166) rfl (fun (hb159 : (0 : Int32) = (0 : Int32)) => ?_) (fun (hb159 : ¬ (0 : Int32) = (0 : Int32)) => absurd hb159 (by decide))
  refine own_iload (pc' := 168) w65 own_d18_166 rfl rfl ?_
  refine own_if (pc' := 171) w65 own_d18_168 rfl (by decide) (pcY := 175) rfl (fun (hb168 : (0 : Int32) = (0 : Int32)) => ?_) (fun (hb168 : ¬ (0 : Int32) = (0 : Int32)) => absurd hb168 (by decide))
  refine own_iload (pc' := 177) w65 own_d18_175 rfl rfl ?_
  refine own_if (pc' := 180) w65 own_d18_177 rfl (by decide) (pcY := 184) rfl (fun (hb177 : (0 : Int32) = (0 : Int32)) => ?_) (fun (hb177 : ¬ (0 : Int32) = (0 : Int32)) => absurd hb177 (by decide))
  refine own_iload (pc' := 186) w65 own_d18_184 rfl rfl ?_
  refine own_if (pc' := 189) w65 own_d18_186 rfl (by decide) (pcY := 193) rfl (fun (hb186 : (0 : Int32) = (0 : Int32)) => ?_) (fun (hb186 : ¬ (0 : Int32) = (0 : Int32)) => absurd hb186 (by decide))
  refine own_iload (pc' := 195) w65 own_d18_193 rfl rfl ?_
  refine own_istore (pc' := 197) w65 own_d18_195 (Ls' := #[.val (.int i0), .val (.int i1), .val (.int i2), .val (.int i3), .val (.int i4), .val (.int i5), .val (.int (0 : Int32)), .val (.ref a11), .val (.ref r_33), .val (.int (0 : Int32)), .val (.int (0 : Int32)), .val (.int (0 : Int32)), .val (.int (0 : Int32)), .val (.int (0 : Int32)), .val (.int (0 : Int32)), .unset, .unset]) rfl rfl ?_
  refine own_iload (pc' := 199) w65 own_d18_197 rfl rfl ?_
  refine own_if (pc' := 202) w65 own_d18_199 rfl (by decide) (pcY := 206) rfl (fun (hb199 : (0 : Int32) = (0 : Int32)) => ?_) (fun (hb199 : ¬ (0 : Int32) = (0 : Int32)) => absurd hb199 (by decide))
  refine own_iload (pc' := 208) w65 own_d18_206 rfl rfl ?_
  refine own_if (pc' := 211) w65 own_d18_208 rfl (by decide) (pcY := 215) rfl (fun (hb208 : (0 : Int32) = (0 : Int32)) => ?_) (fun (hb208 : ¬ (0 : Int32) = (0 : Int32)) => absurd hb208 (by decide))
  refine own_iload (pc' := 217) w65 own_d18_215 rfl rfl ?_
  refine own_if (pc' := 220) w65 own_d18_217 rfl (by decide) (pcY := 224) rfl (fun (hb217 : (0 : Int32) = (0 : Int32)) => ?_) (fun (hb217 : ¬ (0 : Int32) = (0 : Int32)) => absurd hb217 (by decide))
  refine own_iload (pc' := 226) w65 own_d18_224 rfl rfl ?_
  refine own_if (pc' := 229) w65 own_d18_226 rfl (by decide) (pcY := 233) rfl (fun (hb226 : (0 : Int32) = (0 : Int32)) => ?_) (fun (hb226 : ¬ (0 : Int32) = (0 : Int32)) => absurd hb226 (by decide))
  refine own_iload (pc' := 235) w65 own_d18_233 rfl rfl ?_
  refine own_if (pc' := 238) w65 own_d18_235 rfl (by decide) (pcY := 242) rfl (fun (hb235 : (0 : Int32) = (0 : Int32)) => ?_) (fun (hb235 : ¬ (0 : Int32) = (0 : Int32)) => absurd hb235 (by decide))
  refine own_iload (pc' := 244) w65 own_d18_242 rfl rfl ?_
  refine own_istore (pc' := 246) w65 own_d18_244 (Ls' := #[.val (.int i0), .val (.int i1), .val (.int i2), .val (.int i3), .val (.int i4), .val (.int i5), .val (.int (0 : Int32)), .val (.ref a11), .val (.ref r_33), .val (.int (0 : Int32)), .val (.int (0 : Int32)), .val (.int (0 : Int32)), .val (.int (0 : Int32)), .val (.int (0 : Int32)), .val (.int (0 : Int32)), .val (.int (0 : Int32)), .unset]) rfl rfl ?_
  refine own_iload (pc' := 248) w65 own_d18_246 rfl rfl ?_
  refine own_iload (pc' := 250) w65 own_d18_248 rfl rfl ?_
  refine own_isub (pc' := 251) w65 own_d18_250 (z := (0 : Int32)) (by decide) rfl ?_
  refine own_istore (pc' := 253) w65 own_d18_251 (Ls' := #[.val (.int i0), .val (.int i1), .val (.int i2), .val (.int i3), .val (.int i4), .val (.int i5), .val (.int (0 : Int32)), .val (.ref a11), .val (.ref r_33), .val (.int (0 : Int32)), .val (.int (0 : Int32)), .val (.int (0 : Int32)), .val (.int (0 : Int32)), .val (.int (0 : Int32)), .val (.int (0 : Int32)), .val (.int (0 : Int32)), .val (.int (0 : Int32))]) rfl rfl ?_
  have hds : ds_38 = ([] : List Int32) := p96_trim0_3.trans (by simp [own_trim, List.dropWhile])
  subst hds
  exact own_tl_law l Z a0 hw EL hE n0 h0 i0 i1 i2 i3 i4 i5 z5 fm (0 : Int32) a11 r_33 (0 : Int32) (0 : Int32) (0 : Int32) (0 : Int32) (0 : Int32) (0 : Int32) (0 : Int32) (0 : Int32) t2_34 kA_35 N2_36 vs2_37 ([] : List Int32) k_a11 (0 : Int32) [] (own_more w65 (by decide) (by decide) all0) K S_COMPACT_STRINGS P5 S_SIOOBE_FORMATTER hfm hE151 hEL E_r_33 F_r_33_coder F_r_33_value A_t2_34 p96_trim0_0 p96_trim0_1 p96_trim0_2 A_a11 rfl (fun h => absurd h (by decide)) (fun h => absurd h (by decide)) (fun h => absurd h (by decide)) (fun h => absurd h (by decide)) (fun h => absurd h (by decide))
 ·
  refine own_callS (pc' := 8) w0 (own_w0 hw) (own_w1 hw) (own_w2 hw) (own_w3 hw) (by decide) (own_ct_minV l Z a0 hw EL hE n0 [] h0 (own_old w0) (i0 &&& (7 : Int32)) (5 : Int32) (1 : Int32) (hn)) all0 (argsL := [(.int (i0 &&& (7 : Int32))), (.int (5 : Int32))]) (rest := []) rfl rfl own_pd2 rfl own_d18_5 rfl (by decide) (W := 0) rfl (by decide) (by decide) (by decide) fun T70 h72 v73 ms74 w71 q75 => ?_
  obtain ⟨rfl, rfl, rfl⟩ := q75
  show own_Go Z EL n0 p e below s _ _ _ (T70.setTop (mkF m 8 _ [(.int (1 : Int32))]))
  refine own_istore (pc' := 10) w71 own_d18_8 (Ls' := #[.val (.int i0), .val (.int i1), .val (.int i2), .val (.int i3), .val (.int i4), .val (.int i5), .val (.int (1 : Int32)), .unset, .unset, .unset, .unset, .unset, .unset, .unset, .unset, .unset, .unset]) rfl rfl ?_
  refine own_iload (pc' := 12) w71 own_d18_10 rfl rfl ?_
  refine own_newP (pc' := 14) w71 (aty := .char) (z := (1 : Int32)) (vs := [(.int 0)]) (dv := (.int 0)) (cap := 1) (own_w4 hw) own_d18_12 rfl (by decide) (by decide) (by decide) rfl (own_rep 1 (.int 0)) (by decide) (by decide) fun T76 h78 a80 g_a80 w77 E79 ⟨k_a80, A_a80⟩ => ?_
  have nw_a80 : h0.size ≤ a80 := Nat.le_trans K.1 (Nat.le_of_eq g_a80)
  replace K := K.ext E79
  refine own_astore (pc' := 16) w77 own_d18_14 rfl (Ls' := #[.val (.int i0), .val (.int i1), .val (.int i2), .val (.int i3), .val (.int i4), .val (.int i5), .val (.int (1 : Int32)), .val (.ref a80), .unset, .unset, .unset, .unset, .unset, .unset, .unset, .unset, .unset]) rfl rfl ?_
  refine own_iload (pc' := 18) w77 own_d18_16 rfl rfl ?_
  refine own_if (pc' := 21) w77 own_d18_18 rfl (by decide) (pcY := 29) rfl (fun (hb18 : ¬ (0 : Int32) < (1 : Int32)) => absurd hb18 (by decide)) (fun (hb18 : (0 : Int32) < (1 : Int32)) => ?_)
  refine own_aload (pc' := 23) w77 own_d18_21 rfl rfl rfl ?_
  refine own_iconst (pc' := 24) w77 own_d18_23 (x := (0 : Int32)) rfl rfl ?_
  refine own_iloadN (pc' := 25) w77 own_d18_24 rfl rfl ?_
  refine own_callS (pc' := 28) w77 (own_w63 hw) (own_w64 hw) (own_w57 hw) (own_w65 hw) (by decide) (own_ct_chr l Z a0 hw EL hE n0 [] h78 (own_old w77) i1 ) all0 (argsL := [(.int i1)]) (rest := [(.int (0 : Int32)), (.ref a80)]) rfl rfl own_pd11 rfl own_d18_25 rfl (by decide) (W := 2) rfl (by decide) (by decide) (by decide) fun T81 h83 v84 ms85 w82 q86 => ?_
  obtain ⟨rfl, rfl, ch_87, rfl, p25_chr_0⟩ := q86
  show own_Go Z EL n0 p e below s _ _ _ (T81.setTop (mkF m 28 _ [(.int ch_87), (.int (0 : Int32)), (.ref a80)]))
  refine own_stC (pc' := 29) w82 (i := 0) (xv := (.int ch_87)) (vs' := [(.int ch_87)]) (by simp) A_a80 (by decide) rfl (Nat.lt_of_sub_eq_succ rfl) (own_ncB p25_chr_0) (own_fcB p25_chr_0) rfl own_d18_28 rfl fun T88 h90 w89 W91 A_new => ?_
  clear A_a80
  replace K := K.wr W91 (Or.inr nw_a80)
  have A_a80 := A_new
  clear A_new
  refine own_iload (pc' := 31) w89 own_d18_29 rfl rfl ?_
  refine own_iconst (pc' := 32) w89 own_d18_31 (x := (1 : Int32)) rfl rfl ?_
  refine own_icmp (pc' := 35) w89 own_d18_32 rfl (by decide) (pcY := 43) rfl (fun (hb32 : ¬ (1 : Int32) < (1 : Int32)) => ?_) (fun (hb32 : (1 : Int32) < (1 : Int32)) => absurd hb32 (by decide))
  refine own_iload (pc' := 45) w89 own_d18_43 rfl rfl ?_
  refine own_iconst (pc' := 46) w89 own_d18_45 (x := (2 : Int32)) rfl rfl ?_
  refine own_icmp (pc' := 49) w89 own_d18_46 rfl (by decide) (pcY := 57) rfl (fun (hb46 : ¬ (2 : Int32) < (1 : Int32)) => ?_) (fun (hb46 : (2 : Int32) < (1 : Int32)) => absurd hb46 (by decide))
  refine own_iload (pc' := 59) w89 own_d18_57 rfl rfl ?_
  refine own_iconst (pc' := 60) w89 own_d18_59 (x := (3 : Int32)) rfl rfl ?_
  refine own_icmp (pc' := 63) w89 own_d18_60 rfl (by decide) (pcY := 72) rfl (fun (hb60 : ¬ (3 : Int32) < (1 : Int32)) => ?_) (fun (hb60 : (3 : Int32) < (1 : Int32)) => absurd hb60 (by decide))
  refine own_iload (pc' := 74) w89 own_d18_72 rfl rfl ?_
  refine own_iconst (pc' := 75) w89 own_d18_74 (x := (4 : Int32)) rfl rfl ?_
  refine own_icmp (pc' := 78) w89 own_d18_75 rfl (by decide) (pcY := 87) rfl (fun (hb75 : ¬ (4 : Int32) < (1 : Int32)) => ?_) (fun (hb75 : (4 : Int32) < (1 : Int32)) => absurd hb75 (by decide))
  refine own_newO (pc' := 90) w89 (own_w5 hw) (own_w6 hw) (own_w7 hw) own_d18_87 rfl (by decide) (by decide) fun T92 h94 a96 g_a96 w93 E95 ⟨E_a96, D97⟩ => ?_
  have ne_a80_a96 : a80 ≠ a96 := Nat.ne_of_lt (Nat.lt_of_lt_of_le A_a80.lt (Nat.le_of_eq g_a96))
  have nw_a96 : h0.size ≤ a96 := Nat.le_trans K.1 (Nat.le_of_eq g_a96)
  replace A_a80 := A_a80.ext E95
  replace K := K.ext E95
  have F_a96_value : Fld Z h94 a96 "java/lang/String" "value" "[B" .null := D97 (Or.inr (own_w20 hw)) (ty := (.array .byte)) (by decide)
  have F_a96_coder : Fld Z h94 a96 "java/lang/String" "coder" "B" (.int 0) := D97 (Or.inr (own_w21 hw)) (ty := .byte) (by decide)
  refine own_dup (pc' := 91) w93 own_d18_90 rfl rfl ?_
  refine own_aload (pc' := 93) w93 own_d18_91 rfl rfl rfl ?_
  refine own_callIB (pc' := 96) w93 (bytes' := jdk_42_method_3_code) rfl (own_w8 hw) (own_w9 hw) (own_w10 hw) (by decide) (fun s' hZ' => StrChars.Road.backV (W := 1) hZ' (own_hws hw) (kI := 4) (own_w6 hw) (cs := [ch_87]) (n := 1) (n0 := n0) (own_mine w93 a96 (by simp)).1 (own_n0 (own_old w93)) E_a96 F_a96_value F_a96_coder A_a80 (S_COMPACT_STRINGS.ext (own_old w93).2) P5 rfl rfl (by decide) (by decide) (own_allS p25_chr_0 own_all0) rfl (by decide) (by decide)) (ws := [a96]) (allS (P := fun x => x ∈ _) (by simp) all0) (fun v h' L q => ⟨q.2.2.1, q.2.1⟩) (argsL := [.ref a80]) (rest := [(.ref a96)]) rfl rfl own_pd14 rfl own_d18_93 rfl (Nat.le_of_eq rfl) (by decide) (by decide) fun T98 h100 v101 w99 K102 q103 => ?_
  obtain ⟨_, rfl, -, -, nw_E, nw_C, t104, kb105, -, le_t104, ne_t104, nw_V, nw_A⟩ := q103
  have ne_a80_t104 : a80 ≠ t104 := Nat.ne_of_lt (Nat.lt_of_lt_of_le A_a80.lt le_t104)
  have ne_a96_t104 : a96 ≠ t104 := Nat.ne_of_lt (Nat.lt_of_lt_of_le E_a96.lt le_t104)
  have nw_t104 : h0.size ≤ t104 := Nat.le_trans K.1 le_t104
  replace A_a80 := A_a80.keep K102 (ninS ne_a80_a96 nin0)
  replace K := K.trans K102 (allS (P := fun x => x ∈ ([] : List Addr) ∨ h0.size ≤ x) (Or.inr nw_a96) all0)
  have E_a96 := nw_E; have F_a96_coder := nw_C; have F_a96_value := nw_V; have A_t104 := nw_A; clear nw_E nw_C nw_V nw_A
  show own_Go Z EL n0 p e below s _ _ _ (T98.setTop (mkF m 96 _ [(.ref a96)]))
  refine own_callS (pc' := 99) w99 (own_w26 hw) (own_w27 hw) (own_w28 hw) (own_w29 hw) (by decide) (own_ct_trim1 l Z a0 hw EL hE n0 [] h100 (own_old w99) a96 t104 kb105 z5 fm ch_87 E_a96 F_a96_coder F_a96_value A_t104 S_COMPACT_STRINGS (P5) S_SIOOBE_FORMATTER (hfm) (hE151) (p25_chr_0)) all0 (argsL := [(.ref a96)]) (rest := []) rfl rfl own_pd15 rfl own_d18_96 rfl (by decide) (W := 0) rfl (by decide) (by decide) (by decide) fun T106 h108 v109 ms110 w107 q111 => ?_
  obtain ⟨K118, r_112, t2_113, kA_114, N2_115, vs2_116, ds_117, rfl, rfl, nw_E_r_112, nw_F_r_112_coder, nw_F_r_112_value, nw_A_t2_113, p96_trim1_0, p96_trim1_1, p96_trim1_2, p96_trim1_3⟩ := q111
  replace A_a80 := A_a80.keep K118 nin0
  replace E_a96 := E_a96.keep K118
  replace F_a96_coder := F_a96_coder.keep K118 nin0
  replace F_a96_value := F_a96_value.keep K118 nin0
  replace A_t104 := A_t104.keep K118 nin0
  replace K := K.trans K118 all0
  have E_r_112 := nw_E_r_112; clear nw_E_r_112
  have F_r_112_coder := nw_F_r_112_coder; clear nw_F_r_112_coder
  have F_r_112_value := nw_F_r_112_value; clear nw_F_r_112_value
  have A_t2_113 := nw_A_t2_113; clear nw_A_t2_113
  show own_Go Z EL n0 p e below s _ _ _ (T106.setTop (mkF m 99 _ [(.ref r_112)]))
  refine own_astore (pc' := 101) w107 own_d18_99 rfl (Ls' := #[.val (.int i0), .val (.int i1), .val (.int i2), .val (.int i3), .val (.int i4), .val (.int i5), .val (.int (1 : Int32)), .val (.ref a80), .val (.ref r_112), .unset, .unset, .unset, .unset, .unset, .unset, .unset, .unset]) rfl rfl ?_
  refine own_aload (pc' := 103) w107 own_d18_101 rfl rfl rfl ?_
  refine own_ifnonnullY w107 own_d18_103 (by decide) (pc' := 108) rfl ?_
  refine own_aload (pc' := 110) w107 own_d18_108 rfl rfl rfl ?_
  refine own_iconst (pc' := 111) w107 own_d18_110 (x := (0 : Int32)) rfl rfl ?_
  refine own_callS (pc' := 114) w107 (own_w55 hw) (own_w56 hw) (own_w57 hw) (own_w58 hw) (by decide) (own_ct_nsIn l Z a0 hw EL hE n0 [] h108 (own_old w107) a80 (0 : Int32) k_a80 (1 : Int32) [(.int ch_87)] ch_87 A_a80 (by decide) (rfl)) all0 (argsL := [(.ref a80), (.int (0 : Int32))]) (rest := []) rfl rfl own_pd16 rfl own_d18_111 rfl (by decide) (W := 0) rfl (by decide) (by decide) (by decide) fun T119 h121 v122 ms123 w120 q124 => ?_
  obtain ⟨rfl, rfl, rfl⟩ := q124
  show own_Go Z EL n0 p e below s _ _ _ (T119.setTop (mkF m 114 _ [(.int (own_sv ch_87))]))
  refine own_istore (pc' := 116) w120 own_d18_114 (Ls' := #[.val (.int i0), .val (.int i1), .val (.int i2), .val (.int i3), .val (.int i4), .val (.int i5), .val (.int (1 : Int32)), .val (.ref a80), .val (.ref r_112), .val (.int (own_sv ch_87)), .unset, .unset, .unset, .unset, .unset, .unset, .unset]) rfl rfl ?_
  refine own_aload (pc' := 118) w120 own_d18_116 rfl rfl rfl ?_
  refine own_iconst (pc' := 119) w120 own_d18_118 (x := (1 : Int32)) rfl rfl ?_
  refine own_callS (pc' := 122) w120 (own_w55 hw) (own_w56 hw) (own_w57 hw) (own_w58 hw) (by decide) (own_ct_nsOut l Z a0 hw EL hE n0 [] h108 (own_old w120) a80 (1 : Int32) k_a80 (1 : Int32) [(.int ch_87)] A_a80 (by decide)) all0 (argsL := [(.ref a80), (.int (1 : Int32))]) (rest := []) rfl rfl own_pd16 rfl own_d18_119 rfl (by decide) (W := 0) rfl (by decide) (by decide) (by decide) fun T125 h127 v128 ms129 w126 q130 => ?_
  obtain ⟨rfl, rfl, rfl⟩ := q130
  show own_Go Z EL n0 p e below s _ _ _ (T125.setTop (mkF m 122 _ [(.int (0 : Int32))]))
  refine own_istore (pc' := 124) w126 own_d18_122 (Ls' := #[.val (.int i0), .val (.int i1), .val (.int i2), .val (.int i3), .val (.int i4), .val (.int i5), .val (.int (1 : Int32)), .val (.ref a80), .val (.ref r_112), .val (.int (own_sv ch_87)), .val (.int (0 : Int32)), .unset, .unset, .unset, .unset, .unset, .unset]) rfl rfl ?_
  refine own_aload (pc' := 126) w126 own_d18_124 rfl rfl rfl ?_
  refine own_iconst (pc' := 127) w126 own_d18_126 (x := (2 : Int32)) rfl rfl ?_
  refine own_callS (pc' := 130) w126 (own_w55 hw) (own_w56 hw) (own_w57 hw) (own_w58 hw) (by decide) (own_ct_nsOut l Z a0 hw EL hE n0 [] h108 (own_old w126) a80 (2 : Int32) k_a80 (1 : Int32) [(.int ch_87)] A_a80 (by decide)) all0 (argsL := [(.ref a80), (.int (2 : Int32))]) (rest := []) rfl rfl own_pd16 rfl own_d18_127 rfl (by decide) (W := 0) rfl (by decide) (by decide) (by decide) fun T131 h133 v134 ms135 w132 q136 => ?_
  obtain ⟨rfl, rfl, rfl⟩ := q136
  show own_Go Z EL n0 p e below s _ _ _ (T131.setTop (mkF m 130 _ [(.int (0 : Int32))]))
  refine own_istore (pc' := 132) w132 own_d18_130 (Ls' := #[.val (.int i0), .val (.int i1), .val (.int i2), .val (.int i3), .val (.int i4), .val (.int i5), .val (.int (1 : Int32)), .val (.ref a80), .val (.ref r_112), .val (.int (own_sv ch_87)), .val (.int (0 : Int32)), .val (.int (0 : Int32)), .unset, .unset, .unset, .unset, .unset]) rfl rfl ?_
  refine own_aload (pc' := 134) w132 own_d18_132 rfl rfl rfl ?_
  refine own_iconst (pc' := 135) w132 own_d18_134 (x := (3 : Int32)) rfl rfl ?_
  refine own_callS (pc' := 138) w132 (own_w55 hw) (own_w56 hw) (own_w57 hw) (own_w58 hw) (by decide) (own_ct_nsOut l Z a0 hw EL hE n0 [] h108 (own_old w132) a80 (3 : Int32) k_a80 (1 : Int32) [(.int ch_87)] A_a80 (by decide)) all0 (argsL := [(.ref a80), (.int (3 : Int32))]) (rest := []) rfl rfl own_pd16 rfl own_d18_135 rfl (by decide) (W := 0) rfl (by decide) (by decide) (by decide) fun T137 h139 v140 ms141 w138 q142 => ?_
  obtain ⟨rfl, rfl, rfl⟩ := q142
  show own_Go Z EL n0 p e below s _ _ _ (T137.setTop (mkF m 138 _ [(.int (0 : Int32))]))
  refine own_istore (pc' := 140) w138 own_d18_138 (Ls' := #[.val (.int i0), .val (.int i1), .val (.int i2), .val (.int i3), .val (.int i4), .val (.int i5), .val (.int (1 : Int32)), .val (.ref a80), .val (.ref r_112), .val (.int (own_sv ch_87)), .val (.int (0 : Int32)), .val (.int (0 : Int32)), .val (.int (0 : Int32)), .unset, .unset, .unset, .unset]) rfl rfl ?_
  refine own_aload (pc' := 142) w138 own_d18_140 rfl rfl rfl ?_
  refine own_iconst (pc' := 143) w138 own_d18_142 (x := (4 : Int32)) rfl rfl ?_
  refine own_callS (pc' := 146) w138 (own_w55 hw) (own_w56 hw) (own_w57 hw) (own_w58 hw) (by decide) (own_ct_nsOut l Z a0 hw EL hE n0 [] h108 (own_old w138) a80 (4 : Int32) k_a80 (1 : Int32) [(.int ch_87)] A_a80 (by decide)) all0 (argsL := [(.ref a80), (.int (4 : Int32))]) (rest := []) rfl rfl own_pd16 rfl own_d18_143 rfl (by decide) (W := 0) rfl (by decide) (by decide) (by decide) fun T143 h145 v146 ms147 w144 q148 => ?_
  obtain ⟨rfl, rfl, rfl⟩ := q148
  show own_Go Z EL n0 p e below s _ _ _ (T143.setTop (mkF m 146 _ [(.int (0 : Int32))]))
  refine own_istore (pc' := 148) w144 own_d18_146 (Ls' := #[.val (.int i0), .val (.int i1), .val (.int i2), .val (.int i3), .val (.int i4), .val (.int i5), .val (.int (1 : Int32)), .val (.ref a80), .val (.ref r_112), .val (.int (own_sv ch_87)), .val (.int (0 : Int32)), .val (.int (0 : Int32)), .val (.int (0 : Int32)), .val (.int (0 : Int32)), .unset, .unset, .unset]) rfl rfl ?_
  refine own_iload (pc' := 150) w144 own_d18_148 rfl rfl ?_
  refine own_if (pc' := 153) w144 own_d18_150 rfl (by decide) (pcY := 157) rfl (fun (hb150 : (own_sv ch_87) = (0 : Int32)) => ?_) (fun (hb150 : ¬ (own_sv ch_87) = (0 : Int32)) => ?_)
  ·
   refine own_iload (pc' := 159) w144 own_d18_157 rfl rfl ?_
   refine own_if (pc' := 162) w144 own_d18_159 rfl (by decide) (pcY := 166) rfl (fun (hb159 : (0 : Int32) = (0 : Int32)) => ?_) (fun (hb159 : ¬ (0 : Int32) = (0 : Int32)) => absurd hb159 (by decide))
   refine own_iload (pc' := 168) w144 own_d18_166 rfl rfl ?_
   refine own_if (pc' := 171) w144 own_d18_168 rfl (by decide) (pcY := 175) rfl (fun (hb168 : (0 : Int32) = (0 : Int32)) => ?_) (fun (hb168 : ¬ (0 : Int32) = (0 : Int32)) => absurd hb168 (by decide))
   refine own_iload (pc' := 177) w144 own_d18_175 rfl rfl ?_
   refine own_if (pc' := 180) w144 own_d18_177 rfl (by decide) (pcY := 184) rfl (fun (hb177 : (0 : Int32) = (0 : Int32)) => ?_) (fun (hb177 : ¬ (0 : Int32) = (0 : Int32)) => absurd hb177 (by decide))
   refine own_iload (pc' := 186) w144 own_d18_184 rfl rfl ?_
   refine own_if (pc' := 189) w144 own_d18_186 rfl (by decide) (pcY := 193) rfl (fun (hb186 : (0 : Int32) = (0 : Int32)) => ?_) (fun (hb186 : ¬ (0 : Int32) = (0 : Int32)) => absurd hb186 (by decide))
   refine own_iload (pc' := 195) w144 own_d18_193 rfl rfl ?_
   refine own_istore (pc' := 197) w144 own_d18_195 (Ls' := #[.val (.int i0), .val (.int i1), .val (.int i2), .val (.int i3), .val (.int i4), .val (.int i5), .val (.int (1 : Int32)), .val (.ref a80), .val (.ref r_112), .val (.int (own_sv ch_87)), .val (.int (0 : Int32)), .val (.int (0 : Int32)), .val (.int (0 : Int32)), .val (.int (0 : Int32)), .val (.int (1 : Int32)), .unset, .unset]) rfl rfl ?_
   refine own_iload (pc' := 199) w144 own_d18_197 rfl rfl ?_
   refine own_if (pc' := 202) w144 own_d18_199 rfl (by decide) (pcY := 206) rfl (fun (hb199 : (0 : Int32) = (0 : Int32)) => ?_) (fun (hb199 : ¬ (0 : Int32) = (0 : Int32)) => absurd hb199 (by decide))
   refine own_iload (pc' := 208) w144 own_d18_206 rfl rfl ?_
   refine own_if (pc' := 211) w144 own_d18_208 rfl (by decide) (pcY := 215) rfl (fun (hb208 : (0 : Int32) = (0 : Int32)) => ?_) (fun (hb208 : ¬ (0 : Int32) = (0 : Int32)) => absurd hb208 (by decide))
   refine own_iload (pc' := 217) w144 own_d18_215 rfl rfl ?_
   refine own_if (pc' := 220) w144 own_d18_217 rfl (by decide) (pcY := 224) rfl (fun (hb217 : (0 : Int32) = (0 : Int32)) => ?_) (fun (hb217 : ¬ (0 : Int32) = (0 : Int32)) => absurd hb217 (by decide))
   refine own_iload (pc' := 226) w144 own_d18_224 rfl rfl ?_
   refine own_if (pc' := 229) w144 own_d18_226 rfl (by decide) (pcY := 233) rfl (fun (hb226 : (0 : Int32) = (0 : Int32)) => ?_) (fun (hb226 : ¬ (0 : Int32) = (0 : Int32)) => absurd hb226 (by decide))
   refine own_iload (pc' := 235) w144 own_d18_233 rfl rfl ?_
   refine own_if (pc' := 238) w144 own_d18_235 rfl (by decide) (pcY := 242) rfl (fun (hb235 : (own_sv ch_87) = (0 : Int32)) => ?_) (fun (hb235 : ¬ (own_sv ch_87) = (0 : Int32)) => absurd hb150 hb235)
   refine own_iload (pc' := 244) w144 own_d18_242 rfl rfl ?_
   refine own_istore (pc' := 246) w144 own_d18_244 (Ls' := #[.val (.int i0), .val (.int i1), .val (.int i2), .val (.int i3), .val (.int i4), .val (.int i5), .val (.int (1 : Int32)), .val (.ref a80), .val (.ref r_112), .val (.int (own_sv ch_87)), .val (.int (0 : Int32)), .val (.int (0 : Int32)), .val (.int (0 : Int32)), .val (.int (0 : Int32)), .val (.int (1 : Int32)), .val (.int (1 : Int32)), .unset]) rfl rfl ?_
   refine own_iload (pc' := 248) w144 own_d18_246 rfl rfl ?_
   refine own_iload (pc' := 250) w144 own_d18_248 rfl rfl ?_
   refine own_isub (pc' := 251) w144 own_d18_250 (z := (0 : Int32)) (by decide) rfl ?_
   refine own_istore (pc' := 253) w144 own_d18_251 (Ls' := #[.val (.int i0), .val (.int i1), .val (.int i2), .val (.int i3), .val (.int i4), .val (.int i5), .val (.int (1 : Int32)), .val (.ref a80), .val (.ref r_112), .val (.int (own_sv ch_87)), .val (.int (0 : Int32)), .val (.int (0 : Int32)), .val (.int (0 : Int32)), .val (.int (0 : Int32)), .val (.int (1 : Int32)), .val (.int (1 : Int32)), .val (.int (0 : Int32))]) rfl rfl ?_
   have k_ch_87 := own_ns1 hb150
   have hds : ds_117 = ([] : List Int32) := p96_trim1_3.trans (by simp [own_trim, List.dropWhile, k_ch_87])
   subst hds
   exact own_tl_law l Z a0 hw EL hE n0 h0 i0 i1 i2 i3 i4 i5 z5 fm (1 : Int32) a80 r_112 (own_sv ch_87) (0 : Int32) (0 : Int32) (0 : Int32) (0 : Int32) (1 : Int32) (1 : Int32) (0 : Int32) t2_113 kA_114 N2_115 vs2_116 ([] : List Int32) k_a80 (1 : Int32) [(.int ch_87)] (own_more w144 (by decide) (by decide) all0) K S_COMPACT_STRINGS P5 S_SIOOBE_FORMATTER hfm hE151 hEL E_r_112 F_r_112_coder F_r_112_value A_t2_113 p96_trim1_0 p96_trim1_1 p96_trim1_2 A_a80 rfl (fun h => absurd h (by decide)) (fun h => absurd h (by decide)) (fun h => absurd h (by decide)) (fun h => absurd h (by decide)) (fun h => absurd h (by decide))
  ·
   refine own_iconst (pc' := 154) w144 own_d18_153 (x := (0 : Int32)) rfl rfl ?_
   refine own_goto w144 own_d18_154 (by decide) (pc' := 195) rfl ?_
   refine own_istore (pc' := 197) w144 own_d18_195 (Ls' := #[.val (.int i0), .val (.int i1), .val (.int i2), .val (.int i3), .val (.int i4), .val (.int i5), .val (.int (1 : Int32)), .val (.ref a80), .val (.ref r_112), .val (.int (own_sv ch_87)), .val (.int (0 : Int32)), .val (.int (0 : Int32)), .val (.int (0 : Int32)), .val (.int (0 : Int32)), .val (.int (0 : Int32)), .unset, .unset]) rfl rfl ?_
   refine own_iload (pc' := 199) w144 own_d18_197 rfl rfl ?_
   refine own_if (pc' := 202) w144 own_d18_199 rfl (by decide) (pcY := 206) rfl (fun (hb199 : (0 : Int32) = (0 : Int32)) => ?_) (fun (hb199 : ¬ (0 : Int32) = (0 : Int32)) => absurd hb199 (by decide))
   refine own_iload (pc' := 208) w144 own_d18_206 rfl rfl ?_
   refine own_if (pc' := 211) w144 own_d18_208 rfl (by decide) (pcY := 215) rfl (fun (hb208 : (0 : Int32) = (0 : Int32)) => ?_) (fun (hb208 : ¬ (0 : Int32) = (0 : Int32)) => absurd hb208 (by decide))
   refine own_iload (pc' := 217) w144 own_d18_215 rfl rfl ?_
   refine own_if (pc' := 220) w144 own_d18_217 rfl (by decide) (pcY := 224) rfl (fun (hb217 : (0 : Int32) = (0 : Int32)) => ?_) (fun (hb217 : ¬ (0 : Int32) = (0 : Int32)) => absurd hb217 (by decide))
   refine own_iload (pc' := 226) w144 own_d18_224 rfl rfl ?_
   refine own_if (pc' := 229) w144 own_d18_226 rfl (by decide) (pcY := 233) rfl (fun (hb226 : (0 : Int32) = (0 : Int32)) => ?_) (fun (hb226 : ¬ (0 : Int32) = (0 : Int32)) => absurd hb226 (by decide))
   refine own_iload (pc' := 235) w144 own_d18_233 rfl rfl ?_
   refine own_if (pc' := 238) w144 own_d18_235 rfl (by decide) (pcY := 242) rfl (fun (hb235 : (own_sv ch_87) = (0 : Int32)) => absurd hb235 hb150) (fun (hb235 : ¬ (own_sv ch_87) = (0 : Int32)) => ?_)
   refine own_iconst (pc' := 239) w144 own_d18_238 (x := (1 : Int32)) rfl rfl ?_
   refine own_goto w144 own_d18_239 (by decide) (pc' := 244) rfl ?_
   refine own_istore (pc' := 246) w144 own_d18_244 (Ls' := #[.val (.int i0), .val (.int i1), .val (.int i2), .val (.int i3), .val (.int i4), .val (.int i5), .val (.int (1 : Int32)), .val (.ref a80), .val (.ref r_112), .val (.int (own_sv ch_87)), .val (.int (0 : Int32)), .val (.int (0 : Int32)), .val (.int (0 : Int32)), .val (.int (0 : Int32)), .val (.int (0 : Int32)), .val (.int (1 : Int32)), .unset]) rfl rfl ?_
   refine own_iload (pc' := 248) w144 own_d18_246 rfl rfl ?_
   refine own_iload (pc' := 250) w144 own_d18_248 rfl rfl ?_
   refine own_isub (pc' := 251) w144 own_d18_250 (z := (1 : Int32)) (by decide) rfl ?_
   refine own_istore (pc' := 253) w144 own_d18_251 (Ls' := #[.val (.int i0), .val (.int i1), .val (.int i2), .val (.int i3), .val (.int i4), .val (.int i5), .val (.int (1 : Int32)), .val (.ref a80), .val (.ref r_112), .val (.int (own_sv ch_87)), .val (.int (0 : Int32)), .val (.int (0 : Int32)), .val (.int (0 : Int32)), .val (.int (0 : Int32)), .val (.int (0 : Int32)), .val (.int (1 : Int32)), .val (.int (1 : Int32))]) rfl rfl ?_
   have k_ch_87 := own_ns0 hb150
   have hds : ds_117 = ([ch_87] : List Int32) := p96_trim1_3.trans (by simp [own_trim, List.dropWhile, k_ch_87])
   subst hds
   exact own_tl_law l Z a0 hw EL hE n0 h0 i0 i1 i2 i3 i4 i5 z5 fm (1 : Int32) a80 r_112 (own_sv ch_87) (0 : Int32) (0 : Int32) (0 : Int32) (0 : Int32) (0 : Int32) (1 : Int32) (1 : Int32) t2_113 kA_114 N2_115 vs2_116 ([ch_87] : List Int32) k_a80 (1 : Int32) [(.int ch_87)] (own_more w144 (by decide) (by decide) all0) K S_COMPACT_STRINGS P5 S_SIOOBE_FORMATTER hfm hE151 hEL E_r_112 F_r_112_coder F_r_112_value A_t2_113 p96_trim1_0 p96_trim1_1 p96_trim1_2 A_a80 rfl (fun _ => ⟨Nat.le_of_ble_eq_true rfl, by decide, rfl⟩) (fun h => absurd h (by decide)) (fun h => absurd h (by decide)) (fun h => absurd h (by decide)) (fun h => absurd h (by decide))
 ·
  refine own_callS (pc' := 8) w0 (own_w0 hw) (own_w1 hw) (own_w2 hw) (own_w3 hw) (by decide) (own_ct_minV l Z a0 hw EL hE n0 [] h0 (own_old w0) (i0 &&& (7 : Int32)) (5 : Int32) (2 : Int32) (hn)) all0 (argsL := [(.int (i0 &&& (7 : Int32))), (.int (5 : Int32))]) (rest := []) rfl rfl own_pd2 rfl own_d18_5 rfl (by decide) (W := 0) rfl (by decide) (by decide) (by decide) fun T149 h151 v152 ms153 w150 q154 => ?_
  obtain ⟨rfl, rfl, rfl⟩ := q154
  show own_Go Z EL n0 p e below s _ _ _ (T149.setTop (mkF m 8 _ [(.int (2 : Int32))]))
  refine own_istore (pc' := 10) w150 own_d18_8 (Ls' := #[.val (.int i0), .val (.int i1), .val (.int i2), .val (.int i3), .val (.int i4), .val (.int i5), .val (.int (2 : Int32)), .unset, .unset, .unset, .unset, .unset, .unset, .unset, .unset, .unset, .unset]) rfl rfl ?_
  refine own_iload (pc' := 12) w150 own_d18_10 rfl rfl ?_
  refine own_newP (pc' := 14) w150 (aty := .char) (z := (2 : Int32)) (vs := [(.int 0), (.int 0)]) (dv := (.int 0)) (cap := 2) (own_w4 hw) own_d18_12 rfl (by decide) (by decide) (by decide) rfl (own_rep 2 (.int 0)) (by decide) (by decide) fun T155 h157 a159 g_a159 w156 E158 ⟨k_a159, A_a159⟩ => ?_
  have nw_a159 : h0.size ≤ a159 := Nat.le_trans K.1 (Nat.le_of_eq g_a159)
  replace K := K.ext E158
  refine own_astore (pc' := 16) w156 own_d18_14 rfl (Ls' := #[.val (.int i0), .val (.int i1), .val (.int i2), .val (.int i3), .val (.int i4), .val (.int i5), .val (.int (2 : Int32)), .val (.ref a159), .unset, .unset, .unset, .unset, .unset, .unset, .unset, .unset, .unset]) rfl rfl ?_
  refine own_iload (pc' := 18) w156 own_d18_16 rfl rfl ?_
  refine own_if (pc' := 21) w156 own_d18_18 rfl (by decide) (pcY := 29) rfl (fun (hb18 : ¬ (0 : Int32) < (2 : Int32)) => absurd hb18 (by decide)) (fun (hb18 : (0 : Int32) < (2 : Int32)) => ?_)
  refine own_aload (pc' := 23) w156 own_d18_21 rfl rfl rfl ?_
  refine own_iconst (pc' := 24) w156 own_d18_23 (x := (0 : Int32)) rfl rfl ?_
  refine own_iloadN (pc' := 25) w156 own_d18_24 rfl rfl ?_
  refine own_callS (pc' := 28) w156 (own_w63 hw) (own_w64 hw) (own_w57 hw) (own_w65 hw) (by decide) (own_ct_chr l Z a0 hw EL hE n0 [] h157 (own_old w156) i1 ) all0 (argsL := [(.int i1)]) (rest := [(.int (0 : Int32)), (.ref a159)]) rfl rfl own_pd11 rfl own_d18_25 rfl (by decide) (W := 2) rfl (by decide) (by decide) (by decide) fun T160 h162 v163 ms164 w161 q165 => ?_
  obtain ⟨rfl, rfl, ch_166, rfl, p25_chr_0⟩ := q165
  show own_Go Z EL n0 p e below s _ _ _ (T160.setTop (mkF m 28 _ [(.int ch_166), (.int (0 : Int32)), (.ref a159)]))
  refine own_stC (pc' := 29) w161 (i := 0) (xv := (.int ch_166)) (vs' := [(.int ch_166), (.int 0)]) (by simp) A_a159 (by decide) rfl (Nat.lt_of_sub_eq_succ rfl) (own_ncB p25_chr_0) (own_fcB p25_chr_0) rfl own_d18_28 rfl fun T167 h169 w168 W170 A_new => ?_
  clear A_a159
  replace K := K.wr W170 (Or.inr nw_a159)
  have A_a159 := A_new
  clear A_new
  refine own_iload (pc' := 31) w168 own_d18_29 rfl rfl ?_
  refine own_iconst (pc' := 32) w168 own_d18_31 (x := (1 : Int32)) rfl rfl ?_
  refine own_icmp (pc' := 35) w168 own_d18_32 rfl (by decide) (pcY := 43) rfl (fun (hb32 : ¬ (1 : Int32) < (2 : Int32)) => absurd hb32 (by decide)) (fun (hb32 : (1 : Int32) < (2 : Int32)) => ?_)
  refine own_aload (pc' := 37) w168 own_d18_35 rfl rfl rfl ?_
  refine own_iconst (pc' := 38) w168 own_d18_37 (x := (1 : Int32)) rfl rfl ?_
  refine own_iloadN (pc' := 39) w168 own_d18_38 rfl rfl ?_
  refine own_callS (pc' := 42) w168 (own_w63 hw) (own_w64 hw) (own_w57 hw) (own_w65 hw) (by decide) (own_ct_chr l Z a0 hw EL hE n0 [] h169 (own_old w168) i2 ) all0 (argsL := [(.int i2)]) (rest := [(.int (1 : Int32)), (.ref a159)]) rfl rfl own_pd11 rfl own_d18_39 rfl (by decide) (W := 2) rfl (by decide) (by decide) (by decide) fun T171 h173 v174 ms175 w172 q176 => ?_
  obtain ⟨rfl, rfl, ch_177, rfl, p39_chr_0⟩ := q176
  show own_Go Z EL n0 p e below s _ _ _ (T171.setTop (mkF m 42 _ [(.int ch_177), (.int (1 : Int32)), (.ref a159)]))
  refine own_stC (pc' := 43) w172 (i := 1) (xv := (.int ch_177)) (vs' := [(.int ch_166), (.int ch_177)]) (by simp) A_a159 (by decide) rfl (Nat.lt_of_sub_eq_succ rfl) (own_ncB p39_chr_0) (own_fcB p39_chr_0) rfl own_d18_42 rfl fun T178 h180 w179 W181 A_new => ?_
  clear A_a159
  replace K := K.wr W181 (Or.inr nw_a159)
  have A_a159 := A_new
  clear A_new
  refine own_iload (pc' := 45) w179 own_d18_43 rfl rfl ?_
  refine own_iconst (pc' := 46) w179 own_d18_45 (x := (2 : Int32)) rfl rfl ?_
  refine own_icmp (pc' := 49) w179 own_d18_46 rfl (by decide) (pcY := 57) rfl (fun (hb46 : ¬ (2 : Int32) < (2 : Int32)) => ?_) (fun (hb46 : (2 : Int32) < (2 : Int32)) => absurd hb46 (by decide))
  refine own_iload (pc' := 59) w179 own_d18_57 rfl rfl ?_
  refine own_iconst (pc' := 60) w179 own_d18_59 (x := (3 : Int32)) rfl rfl ?_
  refine own_icmp (pc' := 63) w179 own_d18_60 rfl (by decide) (pcY := 72) rfl (fun (hb60 : ¬ (3 : Int32) < (2 : Int32)) => ?_) (fun (hb60 : (3 : Int32) < (2 : Int32)) => absurd hb60 (by decide))
  refine own_iload (pc' := 74) w179 own_d18_72 rfl rfl ?_
  refine own_iconst (pc' := 75) w179 own_d18_74 (x := (4 : Int32)) rfl rfl ?_
  refine own_icmp (pc' := 78) w179 own_d18_75 rfl (by decide) (pcY := 87) rfl (fun (hb75 : ¬ (4 : Int32) < (2 : Int32)) => ?_) (fun (hb75 : (4 : Int32) < (2 : Int32)) => absurd hb75 (by decide))
  refine own_newO (pc' := 90) w179 (own_w5 hw) (own_w6 hw) (own_w7 hw) own_d18_87 rfl (by decide) (by decide) fun T182 h184 a186 g_a186 w183 E185 ⟨E_a186, D187⟩ => ?_
  have ne_a159_a186 : a159 ≠ a186 := Nat.ne_of_lt (Nat.lt_of_lt_of_le A_a159.lt (Nat.le_of_eq g_a186))
  have nw_a186 : h0.size ≤ a186 := Nat.le_trans K.1 (Nat.le_of_eq g_a186)
  replace A_a159 := A_a159.ext E185
  replace K := K.ext E185
  have F_a186_value : Fld Z h184 a186 "java/lang/String" "value" "[B" .null := D187 (Or.inr (own_w20 hw)) (ty := (.array .byte)) (by decide)
  have F_a186_coder : Fld Z h184 a186 "java/lang/String" "coder" "B" (.int 0) := D187 (Or.inr (own_w21 hw)) (ty := .byte) (by decide)
  refine own_dup (pc' := 91) w183 own_d18_90 rfl rfl ?_
  refine own_aload (pc' := 93) w183 own_d18_91 rfl rfl rfl ?_
  refine own_callIB (pc' := 96) w183 (bytes' := jdk_42_method_3_code) rfl (own_w8 hw) (own_w9 hw) (own_w10 hw) (by decide) (fun s' hZ' => StrChars.Road.backV (W := 1) hZ' (own_hws hw) (kI := 4) (own_w6 hw) (cs := [ch_166, ch_177]) (n := 2) (n0 := n0) (own_mine w183 a186 (by simp)).1 (own_n0 (own_old w183)) E_a186 F_a186_value F_a186_coder A_a159 (S_COMPACT_STRINGS.ext (own_old w183).2) P5 rfl rfl (by decide) (by decide) (own_allS p25_chr_0 (own_allS p39_chr_0 own_all0)) rfl (by decide) (by decide)) (ws := [a186]) (allS (P := fun x => x ∈ _) (by simp) all0) (fun v h' L q => ⟨q.2.2.1, q.2.1⟩) (argsL := [.ref a159]) (rest := [(.ref a186)]) rfl rfl own_pd14 rfl own_d18_93 rfl (Nat.le_of_eq rfl) (by decide) (by decide) fun T188 h190 v191 w189 K192 q193 => ?_
  obtain ⟨_, rfl, -, -, nw_E, nw_C, t194, kb195, -, le_t194, ne_t194, nw_V, nw_A⟩ := q193
  have ne_a159_t194 : a159 ≠ t194 := Nat.ne_of_lt (Nat.lt_of_lt_of_le A_a159.lt le_t194)
  have ne_a186_t194 : a186 ≠ t194 := Nat.ne_of_lt (Nat.lt_of_lt_of_le E_a186.lt le_t194)
  have nw_t194 : h0.size ≤ t194 := Nat.le_trans K.1 le_t194
  replace A_a159 := A_a159.keep K192 (ninS ne_a159_a186 nin0)
  replace K := K.trans K192 (allS (P := fun x => x ∈ ([] : List Addr) ∨ h0.size ≤ x) (Or.inr nw_a186) all0)
  have E_a186 := nw_E; have F_a186_coder := nw_C; have F_a186_value := nw_V; have A_t194 := nw_A; clear nw_E nw_C nw_V nw_A
  show own_Go Z EL n0 p e below s _ _ _ (T188.setTop (mkF m 96 _ [(.ref a186)]))
  refine own_callS (pc' := 99) w189 (own_w26 hw) (own_w27 hw) (own_w28 hw) (own_w29 hw) (by decide) (own_ct_trim2 l Z a0 hw EL hE n0 [] h190 (own_old w189) a186 t194 kb195 z5 fm ch_166 ch_177 E_a186 F_a186_coder F_a186_value A_t194 S_COMPACT_STRINGS (P5) S_SIOOBE_FORMATTER (hfm) (hE151) (p25_chr_0) (p39_chr_0)) all0 (argsL := [(.ref a186)]) (rest := []) rfl rfl own_pd15 rfl own_d18_96 rfl (by decide) (W := 0) rfl (by decide) (by decide) (by decide) fun T196 h198 v199 ms200 w197 q201 => ?_
  obtain ⟨K208, r_202, t2_203, kA_204, N2_205, vs2_206, ds_207, rfl, rfl, nw_E_r_202, nw_F_r_202_coder, nw_F_r_202_value, nw_A_t2_203, p96_trim2_0, p96_trim2_1, p96_trim2_2, p96_trim2_3⟩ := q201
  replace A_a159 := A_a159.keep K208 nin0
  replace E_a186 := E_a186.keep K208
  replace F_a186_coder := F_a186_coder.keep K208 nin0
  replace F_a186_value := F_a186_value.keep K208 nin0
  replace A_t194 := A_t194.keep K208 nin0
  replace K := K.trans K208 all0
  have E_r_202 := nw_E_r_202; clear nw_E_r_202
  have F_r_202_coder := nw_F_r_202_coder; clear nw_F_r_202_coder
  have F_r_202_value := nw_F_r_202_value; clear nw_F_r_202_value
  have A_t2_203 := nw_A_t2_203; clear nw_A_t2_203
  show own_Go Z EL n0 p e below s _ _ _ (T196.setTop (mkF m 99 _ [(.ref r_202)]))
  refine own_astore (pc' := 101) w197 own_d18_99 rfl (Ls' := #[.val (.int i0), .val (.int i1), .val (.int i2), .val (.int i3), .val (.int i4), .val (.int i5), .val (.int (2 : Int32)), .val (.ref a159), .val (.ref r_202), .unset, .unset, .unset, .unset, .unset, .unset, .unset, .unset]) rfl rfl ?_
  refine own_aload (pc' := 103) w197 own_d18_101 rfl rfl rfl ?_
  refine own_ifnonnullY w197 own_d18_103 (by decide) (pc' := 108) rfl ?_
  refine own_aload (pc' := 110) w197 own_d18_108 rfl rfl rfl ?_
  refine own_iconst (pc' := 111) w197 own_d18_110 (x := (0 : Int32)) rfl rfl ?_
  refine own_callS (pc' := 114) w197 (own_w55 hw) (own_w56 hw) (own_w57 hw) (own_w58 hw) (by decide) (own_ct_nsIn l Z a0 hw EL hE n0 [] h198 (own_old w197) a159 (0 : Int32) k_a159 (2 : Int32) [(.int ch_166), (.int ch_177)] ch_166 A_a159 (by decide) (rfl)) all0 (argsL := [(.ref a159), (.int (0 : Int32))]) (rest := []) rfl rfl own_pd16 rfl own_d18_111 rfl (by decide) (W := 0) rfl (by decide) (by decide) (by decide) fun T209 h211 v212 ms213 w210 q214 => ?_
  obtain ⟨rfl, rfl, rfl⟩ := q214
  show own_Go Z EL n0 p e below s _ _ _ (T209.setTop (mkF m 114 _ [(.int (own_sv ch_166))]))
  refine own_istore (pc' := 116) w210 own_d18_114 (Ls' := #[.val (.int i0), .val (.int i1), .val (.int i2), .val (.int i3), .val (.int i4), .val (.int i5), .val (.int (2 : Int32)), .val (.ref a159), .val (.ref r_202), .val (.int (own_sv ch_166)), .unset, .unset, .unset, .unset, .unset, .unset, .unset]) rfl rfl ?_
  refine own_aload (pc' := 118) w210 own_d18_116 rfl rfl rfl ?_
  refine own_iconst (pc' := 119) w210 own_d18_118 (x := (1 : Int32)) rfl rfl ?_
  refine own_callS (pc' := 122) w210 (own_w55 hw) (own_w56 hw) (own_w57 hw) (own_w58 hw) (by decide) (own_ct_nsIn l Z a0 hw EL hE n0 [] h198 (own_old w210) a159 (1 : Int32) k_a159 (2 : Int32) [(.int ch_166), (.int ch_177)] ch_177 A_a159 (by decide) (rfl)) all0 (argsL := [(.ref a159), (.int (1 : Int32))]) (rest := []) rfl rfl own_pd16 rfl own_d18_119 rfl (by decide) (W := 0) rfl (by decide) (by decide) (by decide) fun T215 h217 v218 ms219 w216 q220 => ?_
  obtain ⟨rfl, rfl, rfl⟩ := q220
  show own_Go Z EL n0 p e below s _ _ _ (T215.setTop (mkF m 122 _ [(.int (own_sv ch_177))]))
  refine own_istore (pc' := 124) w216 own_d18_122 (Ls' := #[.val (.int i0), .val (.int i1), .val (.int i2), .val (.int i3), .val (.int i4), .val (.int i5), .val (.int (2 : Int32)), .val (.ref a159), .val (.ref r_202), .val (.int (own_sv ch_166)), .val (.int (own_sv ch_177)), .unset, .unset, .unset, .unset, .unset, .unset]) rfl rfl ?_
  refine own_aload (pc' := 126) w216 own_d18_124 rfl rfl rfl ?_
  refine own_iconst (pc' := 127) w216 own_d18_126 (x := (2 : Int32)) rfl rfl ?_
  refine own_callS (pc' := 130) w216 (own_w55 hw) (own_w56 hw) (own_w57 hw) (own_w58 hw) (by decide) (own_ct_nsOut l Z a0 hw EL hE n0 [] h198 (own_old w216) a159 (2 : Int32) k_a159 (2 : Int32) [(.int ch_166), (.int ch_177)] A_a159 (by decide)) all0 (argsL := [(.ref a159), (.int (2 : Int32))]) (rest := []) rfl rfl own_pd16 rfl own_d18_127 rfl (by decide) (W := 0) rfl (by decide) (by decide) (by decide) fun T221 h223 v224 ms225 w222 q226 => ?_
  obtain ⟨rfl, rfl, rfl⟩ := q226
  show own_Go Z EL n0 p e below s _ _ _ (T221.setTop (mkF m 130 _ [(.int (0 : Int32))]))
  refine own_istore (pc' := 132) w222 own_d18_130 (Ls' := #[.val (.int i0), .val (.int i1), .val (.int i2), .val (.int i3), .val (.int i4), .val (.int i5), .val (.int (2 : Int32)), .val (.ref a159), .val (.ref r_202), .val (.int (own_sv ch_166)), .val (.int (own_sv ch_177)), .val (.int (0 : Int32)), .unset, .unset, .unset, .unset, .unset]) rfl rfl ?_
  refine own_aload (pc' := 134) w222 own_d18_132 rfl rfl rfl ?_
  refine own_iconst (pc' := 135) w222 own_d18_134 (x := (3 : Int32)) rfl rfl ?_
  refine own_callS (pc' := 138) w222 (own_w55 hw) (own_w56 hw) (own_w57 hw) (own_w58 hw) (by decide) (own_ct_nsOut l Z a0 hw EL hE n0 [] h198 (own_old w222) a159 (3 : Int32) k_a159 (2 : Int32) [(.int ch_166), (.int ch_177)] A_a159 (by decide)) all0 (argsL := [(.ref a159), (.int (3 : Int32))]) (rest := []) rfl rfl own_pd16 rfl own_d18_135 rfl (by decide) (W := 0) rfl (by decide) (by decide) (by decide) fun T227 h229 v230 ms231 w228 q232 => ?_
  obtain ⟨rfl, rfl, rfl⟩ := q232
  show own_Go Z EL n0 p e below s _ _ _ (T227.setTop (mkF m 138 _ [(.int (0 : Int32))]))
  refine own_istore (pc' := 140) w228 own_d18_138 (Ls' := #[.val (.int i0), .val (.int i1), .val (.int i2), .val (.int i3), .val (.int i4), .val (.int i5), .val (.int (2 : Int32)), .val (.ref a159), .val (.ref r_202), .val (.int (own_sv ch_166)), .val (.int (own_sv ch_177)), .val (.int (0 : Int32)), .val (.int (0 : Int32)), .unset, .unset, .unset, .unset]) rfl rfl ?_
  refine own_aload (pc' := 142) w228 own_d18_140 rfl rfl rfl ?_
  refine own_iconst (pc' := 143) w228 own_d18_142 (x := (4 : Int32)) rfl rfl ?_
  refine own_callS (pc' := 146) w228 (own_w55 hw) (own_w56 hw) (own_w57 hw) (own_w58 hw) (by decide) (own_ct_nsOut l Z a0 hw EL hE n0 [] h198 (own_old w228) a159 (4 : Int32) k_a159 (2 : Int32) [(.int ch_166), (.int ch_177)] A_a159 (by decide)) all0 (argsL := [(.ref a159), (.int (4 : Int32))]) (rest := []) rfl rfl own_pd16 rfl own_d18_143 rfl (by decide) (W := 0) rfl (by decide) (by decide) (by decide) fun T233 h235 v236 ms237 w234 q238 => ?_
  obtain ⟨rfl, rfl, rfl⟩ := q238
  show own_Go Z EL n0 p e below s _ _ _ (T233.setTop (mkF m 146 _ [(.int (0 : Int32))]))
  refine own_istore (pc' := 148) w234 own_d18_146 (Ls' := #[.val (.int i0), .val (.int i1), .val (.int i2), .val (.int i3), .val (.int i4), .val (.int i5), .val (.int (2 : Int32)), .val (.ref a159), .val (.ref r_202), .val (.int (own_sv ch_166)), .val (.int (own_sv ch_177)), .val (.int (0 : Int32)), .val (.int (0 : Int32)), .val (.int (0 : Int32)), .unset, .unset, .unset]) rfl rfl ?_
  refine own_iload (pc' := 150) w234 own_d18_148 rfl rfl ?_
  refine own_if (pc' := 153) w234 own_d18_150 rfl (by decide) (pcY := 157) rfl (fun (hb150 : (own_sv ch_166) = (0 : Int32)) => ?_) (fun (hb150 : ¬ (own_sv ch_166) = (0 : Int32)) => ?_)
  ·
   refine own_iload (pc' := 159) w234 own_d18_157 rfl rfl ?_
   refine own_if (pc' := 162) w234 own_d18_159 rfl (by decide) (pcY := 166) rfl (fun (hb159 : (own_sv ch_177) = (0 : Int32)) => ?_) (fun (hb159 : ¬ (own_sv ch_177) = (0 : Int32)) => ?_)
   ·
    refine own_iload (pc' := 168) w234 own_d18_166 rfl rfl ?_
    refine own_if (pc' := 171) w234 own_d18_168 rfl (by decide) (pcY := 175) rfl (fun (hb168 : (0 : Int32) = (0 : Int32)) => ?_) (fun (hb168 : ¬ (0 : Int32) = (0 : Int32)) => absurd hb168 (by decide))
    refine own_iload (pc' := 177) w234 own_d18_175 rfl rfl ?_
    refine own_if (pc' := 180) w234 own_d18_177 rfl (by decide) (pcY := 184) rfl (fun (hb177 : (0 : Int32) = (0 : Int32)) => ?_) (fun (hb177 : ¬ (0 : Int32) = (0 : Int32)) => absurd hb177 (by decide))
    refine own_iload (pc' := 186) w234 own_d18_184 rfl rfl ?_
    refine own_if (pc' := 189) w234 own_d18_186 rfl (by decide) (pcY := 193) rfl (fun (hb186 : (0 : Int32) = (0 : Int32)) => ?_) (fun (hb186 : ¬ (0 : Int32) = (0 : Int32)) => absurd hb186 (by decide))
    refine own_iload (pc' := 195) w234 own_d18_193 rfl rfl ?_
    refine own_istore (pc' := 197) w234 own_d18_195 (Ls' := #[.val (.int i0), .val (.int i1), .val (.int i2), .val (.int i3), .val (.int i4), .val (.int i5), .val (.int (2 : Int32)), .val (.ref a159), .val (.ref r_202), .val (.int (own_sv ch_166)), .val (.int (own_sv ch_177)), .val (.int (0 : Int32)), .val (.int (0 : Int32)), .val (.int (0 : Int32)), .val (.int (2 : Int32)), .unset, .unset]) rfl rfl ?_
    refine own_iload (pc' := 199) w234 own_d18_197 rfl rfl ?_
    refine own_if (pc' := 202) w234 own_d18_199 rfl (by decide) (pcY := 206) rfl (fun (hb199 : (0 : Int32) = (0 : Int32)) => ?_) (fun (hb199 : ¬ (0 : Int32) = (0 : Int32)) => absurd hb199 (by decide))
    refine own_iload (pc' := 208) w234 own_d18_206 rfl rfl ?_
    refine own_if (pc' := 211) w234 own_d18_208 rfl (by decide) (pcY := 215) rfl (fun (hb208 : (0 : Int32) = (0 : Int32)) => ?_) (fun (hb208 : ¬ (0 : Int32) = (0 : Int32)) => absurd hb208 (by decide))
    refine own_iload (pc' := 217) w234 own_d18_215 rfl rfl ?_
    refine own_if (pc' := 220) w234 own_d18_217 rfl (by decide) (pcY := 224) rfl (fun (hb217 : (0 : Int32) = (0 : Int32)) => ?_) (fun (hb217 : ¬ (0 : Int32) = (0 : Int32)) => absurd hb217 (by decide))
    refine own_iload (pc' := 226) w234 own_d18_224 rfl rfl ?_
    refine own_if (pc' := 229) w234 own_d18_226 rfl (by decide) (pcY := 233) rfl (fun (hb226 : (own_sv ch_177) = (0 : Int32)) => ?_) (fun (hb226 : ¬ (own_sv ch_177) = (0 : Int32)) => absurd hb159 hb226)
    refine own_iload (pc' := 235) w234 own_d18_233 rfl rfl ?_
    refine own_if (pc' := 238) w234 own_d18_235 rfl (by decide) (pcY := 242) rfl (fun (hb235 : (own_sv ch_166) = (0 : Int32)) => ?_) (fun (hb235 : ¬ (own_sv ch_166) = (0 : Int32)) => absurd hb150 hb235)
    refine own_iload (pc' := 244) w234 own_d18_242 rfl rfl ?_
    refine own_istore (pc' := 246) w234 own_d18_244 (Ls' := #[.val (.int i0), .val (.int i1), .val (.int i2), .val (.int i3), .val (.int i4), .val (.int i5), .val (.int (2 : Int32)), .val (.ref a159), .val (.ref r_202), .val (.int (own_sv ch_166)), .val (.int (own_sv ch_177)), .val (.int (0 : Int32)), .val (.int (0 : Int32)), .val (.int (0 : Int32)), .val (.int (2 : Int32)), .val (.int (2 : Int32)), .unset]) rfl rfl ?_
    refine own_iload (pc' := 248) w234 own_d18_246 rfl rfl ?_
    refine own_iload (pc' := 250) w234 own_d18_248 rfl rfl ?_
    refine own_isub (pc' := 251) w234 own_d18_250 (z := (0 : Int32)) (by decide) rfl ?_
    refine own_istore (pc' := 253) w234 own_d18_251 (Ls' := #[.val (.int i0), .val (.int i1), .val (.int i2), .val (.int i3), .val (.int i4), .val (.int i5), .val (.int (2 : Int32)), .val (.ref a159), .val (.ref r_202), .val (.int (own_sv ch_166)), .val (.int (own_sv ch_177)), .val (.int (0 : Int32)), .val (.int (0 : Int32)), .val (.int (0 : Int32)), .val (.int (2 : Int32)), .val (.int (2 : Int32)), .val (.int (0 : Int32))]) rfl rfl ?_
    have k_ch_166 := own_ns1 hb150
    have k_ch_177 := own_ns1 hb159
    have hds : ds_207 = ([] : List Int32) := p96_trim2_3.trans (by simp [own_trim, List.dropWhile, k_ch_166, k_ch_177])
    subst hds
    exact own_tl_law l Z a0 hw EL hE n0 h0 i0 i1 i2 i3 i4 i5 z5 fm (2 : Int32) a159 r_202 (own_sv ch_166) (own_sv ch_177) (0 : Int32) (0 : Int32) (0 : Int32) (2 : Int32) (2 : Int32) (0 : Int32) t2_203 kA_204 N2_205 vs2_206 ([] : List Int32) k_a159 (2 : Int32) [(.int ch_166), (.int ch_177)] (own_more w234 (by decide) (by decide) all0) K S_COMPACT_STRINGS P5 S_SIOOBE_FORMATTER hfm hE151 hEL E_r_202 F_r_202_coder F_r_202_value A_t2_203 p96_trim2_0 p96_trim2_1 p96_trim2_2 A_a159 rfl (fun h => absurd h (by decide)) (fun h => absurd h (by decide)) (fun h => absurd h (by decide)) (fun h => absurd h (by decide)) (fun h => absurd h (by decide))
   ·
    refine own_iconst (pc' := 163) w234 own_d18_162 (x := (1 : Int32)) rfl rfl ?_
    refine own_goto w234 own_d18_163 (by decide) (pc' := 195) rfl ?_
    refine own_istore (pc' := 197) w234 own_d18_195 (Ls' := #[.val (.int i0), .val (.int i1), .val (.int i2), .val (.int i3), .val (.int i4), .val (.int i5), .val (.int (2 : Int32)), .val (.ref a159), .val (.ref r_202), .val (.int (own_sv ch_166)), .val (.int (own_sv ch_177)), .val (.int (0 : Int32)), .val (.int (0 : Int32)), .val (.int (0 : Int32)), .val (.int (1 : Int32)), .unset, .unset]) rfl rfl ?_
    refine own_iload (pc' := 199) w234 own_d18_197 rfl rfl ?_
    refine own_if (pc' := 202) w234 own_d18_199 rfl (by decide) (pcY := 206) rfl (fun (hb199 : (0 : Int32) = (0 : Int32)) => ?_) (fun (hb199 : ¬ (0 : Int32) = (0 : Int32)) => absurd hb199 (by decide))
    refine own_iload (pc' := 208) w234 own_d18_206 rfl rfl ?_
    refine own_if (pc' := 211) w234 own_d18_208 rfl (by decide) (pcY := 215) rfl (fun (hb208 : (0 : Int32) = (0 : Int32)) => ?_) (fun (hb208 : ¬ (0 : Int32) = (0 : Int32)) => absurd hb208 (by decide))
    refine own_iload (pc' := 217) w234 own_d18_215 rfl rfl ?_
    refine own_if (pc' := 220) w234 own_d18_217 rfl (by decide) (pcY := 224) rfl (fun (hb217 : (0 : Int32) = (0 : Int32)) => ?_) (fun (hb217 : ¬ (0 : Int32) = (0 : Int32)) => absurd hb217 (by decide))
    refine own_iload (pc' := 226) w234 own_d18_224 rfl rfl ?_
    refine own_if (pc' := 229) w234 own_d18_226 rfl (by decide) (pcY := 233) rfl (fun (hb226 : (own_sv ch_177) = (0 : Int32)) => absurd hb226 hb159) (fun (hb226 : ¬ (own_sv ch_177) = (0 : Int32)) => ?_)
    refine own_iconst (pc' := 230) w234 own_d18_229 (x := (2 : Int32)) rfl rfl ?_
    refine own_goto w234 own_d18_230 (by decide) (pc' := 244) rfl ?_
    refine own_istore (pc' := 246) w234 own_d18_244 (Ls' := #[.val (.int i0), .val (.int i1), .val (.int i2), .val (.int i3), .val (.int i4), .val (.int i5), .val (.int (2 : Int32)), .val (.ref a159), .val (.ref r_202), .val (.int (own_sv ch_166)), .val (.int (own_sv ch_177)), .val (.int (0 : Int32)), .val (.int (0 : Int32)), .val (.int (0 : Int32)), .val (.int (1 : Int32)), .val (.int (2 : Int32)), .unset]) rfl rfl ?_
    refine own_iload (pc' := 248) w234 own_d18_246 rfl rfl ?_
    refine own_iload (pc' := 250) w234 own_d18_248 rfl rfl ?_
    refine own_isub (pc' := 251) w234 own_d18_250 (z := (1 : Int32)) (by decide) rfl ?_
    refine own_istore (pc' := 253) w234 own_d18_251 (Ls' := #[.val (.int i0), .val (.int i1), .val (.int i2), .val (.int i3), .val (.int i4), .val (.int i5), .val (.int (2 : Int32)), .val (.ref a159), .val (.ref r_202), .val (.int (own_sv ch_166)), .val (.int (own_sv ch_177)), .val (.int (0 : Int32)), .val (.int (0 : Int32)), .val (.int (0 : Int32)), .val (.int (1 : Int32)), .val (.int (2 : Int32)), .val (.int (1 : Int32))]) rfl rfl ?_
    have k_ch_166 := own_ns1 hb150
    have k_ch_177 := own_ns0 hb159
    have hds : ds_207 = ([ch_177] : List Int32) := p96_trim2_3.trans (by simp [own_trim, List.dropWhile, k_ch_166, k_ch_177])
    subst hds
    exact own_tl_law l Z a0 hw EL hE n0 h0 i0 i1 i2 i3 i4 i5 z5 fm (2 : Int32) a159 r_202 (own_sv ch_166) (own_sv ch_177) (0 : Int32) (0 : Int32) (0 : Int32) (1 : Int32) (2 : Int32) (1 : Int32) t2_203 kA_204 N2_205 vs2_206 ([ch_177] : List Int32) k_a159 (2 : Int32) [(.int ch_166), (.int ch_177)] (own_more w234 (by decide) (by decide) all0) K S_COMPACT_STRINGS P5 S_SIOOBE_FORMATTER hfm hE151 hEL E_r_202 F_r_202_coder F_r_202_value A_t2_203 p96_trim2_0 p96_trim2_1 p96_trim2_2 A_a159 rfl (fun _ => ⟨Nat.le_of_ble_eq_true rfl, by decide, rfl⟩) (fun h => absurd h (by decide)) (fun h => absurd h (by decide)) (fun h => absurd h (by decide)) (fun h => absurd h (by decide))
  ·
   refine own_iconst (pc' := 154) w234 own_d18_153 (x := (0 : Int32)) rfl rfl ?_
   refine own_goto w234 own_d18_154 (by decide) (pc' := 195) rfl ?_
   refine own_istore (pc' := 197) w234 own_d18_195 (Ls' := #[.val (.int i0), .val (.int i1), .val (.int i2), .val (.int i3), .val (.int i4), .val (.int i5), .val (.int (2 : Int32)), .val (.ref a159), .val (.ref r_202), .val (.int (own_sv ch_166)), .val (.int (own_sv ch_177)), .val (.int (0 : Int32)), .val (.int (0 : Int32)), .val (.int (0 : Int32)), .val (.int (0 : Int32)), .unset, .unset]) rfl rfl ?_
   refine own_iload (pc' := 199) w234 own_d18_197 rfl rfl ?_
   refine own_if (pc' := 202) w234 own_d18_199 rfl (by decide) (pcY := 206) rfl (fun (hb199 : (0 : Int32) = (0 : Int32)) => ?_) (fun (hb199 : ¬ (0 : Int32) = (0 : Int32)) => absurd hb199 (by decide))
   refine own_iload (pc' := 208) w234 own_d18_206 rfl rfl ?_
   refine own_if (pc' := 211) w234 own_d18_208 rfl (by decide) (pcY := 215) rfl (fun (hb208 : (0 : Int32) = (0 : Int32)) => ?_) (fun (hb208 : ¬ (0 : Int32) = (0 : Int32)) => absurd hb208 (by decide))
   refine own_iload (pc' := 217) w234 own_d18_215 rfl rfl ?_
   refine own_if (pc' := 220) w234 own_d18_217 rfl (by decide) (pcY := 224) rfl (fun (hb217 : (0 : Int32) = (0 : Int32)) => ?_) (fun (hb217 : ¬ (0 : Int32) = (0 : Int32)) => absurd hb217 (by decide))
   refine own_iload (pc' := 226) w234 own_d18_224 rfl rfl ?_
   refine own_if (pc' := 229) w234 own_d18_226 rfl (by decide) (pcY := 233) rfl (fun (hb226 : (own_sv ch_177) = (0 : Int32)) => ?_) (fun (hb226 : ¬ (own_sv ch_177) = (0 : Int32)) => ?_)
   ·
    refine own_iload (pc' := 235) w234 own_d18_233 rfl rfl ?_
    refine own_if (pc' := 238) w234 own_d18_235 rfl (by decide) (pcY := 242) rfl (fun (hb235 : (own_sv ch_166) = (0 : Int32)) => absurd hb235 hb150) (fun (hb235 : ¬ (own_sv ch_166) = (0 : Int32)) => ?_)
    refine own_iconst (pc' := 239) w234 own_d18_238 (x := (1 : Int32)) rfl rfl ?_
    refine own_goto w234 own_d18_239 (by decide) (pc' := 244) rfl ?_
    refine own_istore (pc' := 246) w234 own_d18_244 (Ls' := #[.val (.int i0), .val (.int i1), .val (.int i2), .val (.int i3), .val (.int i4), .val (.int i5), .val (.int (2 : Int32)), .val (.ref a159), .val (.ref r_202), .val (.int (own_sv ch_166)), .val (.int (own_sv ch_177)), .val (.int (0 : Int32)), .val (.int (0 : Int32)), .val (.int (0 : Int32)), .val (.int (0 : Int32)), .val (.int (1 : Int32)), .unset]) rfl rfl ?_
    refine own_iload (pc' := 248) w234 own_d18_246 rfl rfl ?_
    refine own_iload (pc' := 250) w234 own_d18_248 rfl rfl ?_
    refine own_isub (pc' := 251) w234 own_d18_250 (z := (1 : Int32)) (by decide) rfl ?_
    refine own_istore (pc' := 253) w234 own_d18_251 (Ls' := #[.val (.int i0), .val (.int i1), .val (.int i2), .val (.int i3), .val (.int i4), .val (.int i5), .val (.int (2 : Int32)), .val (.ref a159), .val (.ref r_202), .val (.int (own_sv ch_166)), .val (.int (own_sv ch_177)), .val (.int (0 : Int32)), .val (.int (0 : Int32)), .val (.int (0 : Int32)), .val (.int (0 : Int32)), .val (.int (1 : Int32)), .val (.int (1 : Int32))]) rfl rfl ?_
    have k_ch_166 := own_ns0 hb150
    have k_ch_177 := own_ns1 hb226
    have hds : ds_207 = ([ch_166] : List Int32) := p96_trim2_3.trans (by simp [own_trim, List.dropWhile, k_ch_166, k_ch_177])
    subst hds
    exact own_tl_law l Z a0 hw EL hE n0 h0 i0 i1 i2 i3 i4 i5 z5 fm (2 : Int32) a159 r_202 (own_sv ch_166) (own_sv ch_177) (0 : Int32) (0 : Int32) (0 : Int32) (0 : Int32) (1 : Int32) (1 : Int32) t2_203 kA_204 N2_205 vs2_206 ([ch_166] : List Int32) k_a159 (2 : Int32) [(.int ch_166), (.int ch_177)] (own_more w234 (by decide) (by decide) all0) K S_COMPACT_STRINGS P5 S_SIOOBE_FORMATTER hfm hE151 hEL E_r_202 F_r_202_coder F_r_202_value A_t2_203 p96_trim2_0 p96_trim2_1 p96_trim2_2 A_a159 rfl (fun _ => ⟨Nat.le_of_ble_eq_true rfl, by decide, rfl⟩) (fun h => absurd h (by decide)) (fun h => absurd h (by decide)) (fun h => absurd h (by decide)) (fun h => absurd h (by decide))
   ·
    refine own_iconst (pc' := 230) w234 own_d18_229 (x := (2 : Int32)) rfl rfl ?_
    refine own_goto w234 own_d18_230 (by decide) (pc' := 244) rfl ?_
    refine own_istore (pc' := 246) w234 own_d18_244 (Ls' := #[.val (.int i0), .val (.int i1), .val (.int i2), .val (.int i3), .val (.int i4), .val (.int i5), .val (.int (2 : Int32)), .val (.ref a159), .val (.ref r_202), .val (.int (own_sv ch_166)), .val (.int (own_sv ch_177)), .val (.int (0 : Int32)), .val (.int (0 : Int32)), .val (.int (0 : Int32)), .val (.int (0 : Int32)), .val (.int (2 : Int32)), .unset]) rfl rfl ?_
    refine own_iload (pc' := 248) w234 own_d18_246 rfl rfl ?_
    refine own_iload (pc' := 250) w234 own_d18_248 rfl rfl ?_
    refine own_isub (pc' := 251) w234 own_d18_250 (z := (2 : Int32)) (by decide) rfl ?_
    refine own_istore (pc' := 253) w234 own_d18_251 (Ls' := #[.val (.int i0), .val (.int i1), .val (.int i2), .val (.int i3), .val (.int i4), .val (.int i5), .val (.int (2 : Int32)), .val (.ref a159), .val (.ref r_202), .val (.int (own_sv ch_166)), .val (.int (own_sv ch_177)), .val (.int (0 : Int32)), .val (.int (0 : Int32)), .val (.int (0 : Int32)), .val (.int (0 : Int32)), .val (.int (2 : Int32)), .val (.int (2 : Int32))]) rfl rfl ?_
    have k_ch_166 := own_ns0 hb150
    have k_ch_177 := own_ns0 hb226
    have hds : ds_207 = ([ch_166, ch_177] : List Int32) := p96_trim2_3.trans (by simp [own_trim, List.dropWhile, k_ch_166, k_ch_177])
    subst hds
    exact own_tl_law l Z a0 hw EL hE n0 h0 i0 i1 i2 i3 i4 i5 z5 fm (2 : Int32) a159 r_202 (own_sv ch_166) (own_sv ch_177) (0 : Int32) (0 : Int32) (0 : Int32) (0 : Int32) (2 : Int32) (2 : Int32) t2_203 kA_204 N2_205 vs2_206 ([ch_166, ch_177] : List Int32) k_a159 (2 : Int32) [(.int ch_166), (.int ch_177)] (own_more w234 (by decide) (by decide) all0) K S_COMPACT_STRINGS P5 S_SIOOBE_FORMATTER hfm hE151 hEL E_r_202 F_r_202_coder F_r_202_value A_t2_203 p96_trim2_0 p96_trim2_1 p96_trim2_2 A_a159 rfl (fun _ => ⟨Nat.le_of_ble_eq_true rfl, by decide, rfl⟩) (fun _ => ⟨Nat.le_of_ble_eq_true rfl, by decide, rfl⟩) (fun h => absurd h (by decide)) (fun h => absurd h (by decide)) (fun h => absurd h (by decide))
 ·
  refine own_callS (pc' := 8) w0 (own_w0 hw) (own_w1 hw) (own_w2 hw) (own_w3 hw) (by decide) (own_ct_minV l Z a0 hw EL hE n0 [] h0 (own_old w0) (i0 &&& (7 : Int32)) (5 : Int32) (3 : Int32) (hn)) all0 (argsL := [(.int (i0 &&& (7 : Int32))), (.int (5 : Int32))]) (rest := []) rfl rfl own_pd2 rfl own_d18_5 rfl (by decide) (W := 0) rfl (by decide) (by decide) (by decide) fun T239 h241 v242 ms243 w240 q244 => ?_
  obtain ⟨rfl, rfl, rfl⟩ := q244
  show own_Go Z EL n0 p e below s _ _ _ (T239.setTop (mkF m 8 _ [(.int (3 : Int32))]))
  refine own_istore (pc' := 10) w240 own_d18_8 (Ls' := #[.val (.int i0), .val (.int i1), .val (.int i2), .val (.int i3), .val (.int i4), .val (.int i5), .val (.int (3 : Int32)), .unset, .unset, .unset, .unset, .unset, .unset, .unset, .unset, .unset, .unset]) rfl rfl ?_
  refine own_iload (pc' := 12) w240 own_d18_10 rfl rfl ?_
  refine own_newP (pc' := 14) w240 (aty := .char) (z := (3 : Int32)) (vs := [(.int 0), (.int 0), (.int 0)]) (dv := (.int 0)) (cap := 3) (own_w4 hw) own_d18_12 rfl (by decide) (by decide) (by decide) rfl (own_rep 3 (.int 0)) (by decide) (by decide) fun T245 h247 a249 g_a249 w246 E248 ⟨k_a249, A_a249⟩ => ?_
  have nw_a249 : h0.size ≤ a249 := Nat.le_trans K.1 (Nat.le_of_eq g_a249)
  replace K := K.ext E248
  refine own_astore (pc' := 16) w246 own_d18_14 rfl (Ls' := #[.val (.int i0), .val (.int i1), .val (.int i2), .val (.int i3), .val (.int i4), .val (.int i5), .val (.int (3 : Int32)), .val (.ref a249), .unset, .unset, .unset, .unset, .unset, .unset, .unset, .unset, .unset]) rfl rfl ?_
  refine own_iload (pc' := 18) w246 own_d18_16 rfl rfl ?_
  refine own_if (pc' := 21) w246 own_d18_18 rfl (by decide) (pcY := 29) rfl (fun (hb18 : ¬ (0 : Int32) < (3 : Int32)) => absurd hb18 (by decide)) (fun (hb18 : (0 : Int32) < (3 : Int32)) => ?_)
  refine own_aload (pc' := 23) w246 own_d18_21 rfl rfl rfl ?_
  refine own_iconst (pc' := 24) w246 own_d18_23 (x := (0 : Int32)) rfl rfl ?_
  refine own_iloadN (pc' := 25) w246 own_d18_24 rfl rfl ?_
  refine own_callS (pc' := 28) w246 (own_w63 hw) (own_w64 hw) (own_w57 hw) (own_w65 hw) (by decide) (own_ct_chr l Z a0 hw EL hE n0 [] h247 (own_old w246) i1 ) all0 (argsL := [(.int i1)]) (rest := [(.int (0 : Int32)), (.ref a249)]) rfl rfl own_pd11 rfl own_d18_25 rfl (by decide) (W := 2) rfl (by decide) (by decide) (by decide) fun T250 h252 v253 ms254 w251 q255 => ?_
  obtain ⟨rfl, rfl, ch_256, rfl, p25_chr_0⟩ := q255
  show own_Go Z EL n0 p e below s _ _ _ (T250.setTop (mkF m 28 _ [(.int ch_256), (.int (0 : Int32)), (.ref a249)]))
  refine own_stC (pc' := 29) w251 (i := 0) (xv := (.int ch_256)) (vs' := [(.int ch_256), (.int 0), (.int 0)]) (by simp) A_a249 (by decide) rfl (Nat.lt_of_sub_eq_succ rfl) (own_ncB p25_chr_0) (own_fcB p25_chr_0) rfl own_d18_28 rfl fun T257 h259 w258 W260 A_new => ?_
  clear A_a249
  replace K := K.wr W260 (Or.inr nw_a249)
  have A_a249 := A_new
  clear A_new
  refine own_iload (pc' := 31) w258 own_d18_29 rfl rfl ?_
  refine own_iconst (pc' := 32) w258 own_d18_31 (x := (1 : Int32)) rfl rfl ?_
  refine own_icmp (pc' := 35) w258 own_d18_32 rfl (by decide) (pcY := 43) rfl (fun (hb32 : ¬ (1 : Int32) < (3 : Int32)) => absurd hb32 (by decide)) (fun (hb32 : (1 : Int32) < (3 : Int32)) => ?_)
  refine own_aload (pc' := 37) w258 own_d18_35 rfl rfl rfl ?_
  refine own_iconst (pc' := 38) w258 own_d18_37 (x := (1 : Int32)) rfl rfl ?_
  refine own_iloadN (pc' := 39) w258 own_d18_38 rfl rfl ?_
  refine own_callS (pc' := 42) w258 (own_w63 hw) (own_w64 hw) (own_w57 hw) (own_w65 hw) (by decide) (own_ct_chr l Z a0 hw EL hE n0 [] h259 (own_old w258) i2 ) all0 (argsL := [(.int i2)]) (rest := [(.int (1 : Int32)), (.ref a249)]) rfl rfl own_pd11 rfl own_d18_39 rfl (by decide) (W := 2) rfl (by decide) (by decide) (by decide) fun T261 h263 v264 ms265 w262 q266 => ?_
  obtain ⟨rfl, rfl, ch_267, rfl, p39_chr_0⟩ := q266
  show own_Go Z EL n0 p e below s _ _ _ (T261.setTop (mkF m 42 _ [(.int ch_267), (.int (1 : Int32)), (.ref a249)]))
  refine own_stC (pc' := 43) w262 (i := 1) (xv := (.int ch_267)) (vs' := [(.int ch_256), (.int ch_267), (.int 0)]) (by simp) A_a249 (by decide) rfl (Nat.lt_of_sub_eq_succ rfl) (own_ncB p39_chr_0) (own_fcB p39_chr_0) rfl own_d18_42 rfl fun T268 h270 w269 W271 A_new => ?_
  clear A_a249
  replace K := K.wr W271 (Or.inr nw_a249)
  have A_a249 := A_new
  clear A_new
  refine own_iload (pc' := 45) w269 own_d18_43 rfl rfl ?_
  refine own_iconst (pc' := 46) w269 own_d18_45 (x := (2 : Int32)) rfl rfl ?_
  refine own_icmp (pc' := 49) w269 own_d18_46 rfl (by decide) (pcY := 57) rfl (fun (hb46 : ¬ (2 : Int32) < (3 : Int32)) => absurd hb46 (by decide)) (fun (hb46 : (2 : Int32) < (3 : Int32)) => ?_)
  refine own_aload (pc' := 51) w269 own_d18_49 rfl rfl rfl ?_
  refine own_iconst (pc' := 52) w269 own_d18_51 (x := (2 : Int32)) rfl rfl ?_
  refine own_iloadN (pc' := 53) w269 own_d18_52 rfl rfl ?_
  refine own_callS (pc' := 56) w269 (own_w63 hw) (own_w64 hw) (own_w57 hw) (own_w65 hw) (by decide) (own_ct_chr l Z a0 hw EL hE n0 [] h270 (own_old w269) i3 ) all0 (argsL := [(.int i3)]) (rest := [(.int (2 : Int32)), (.ref a249)]) rfl rfl own_pd11 rfl own_d18_53 rfl (by decide) (W := 2) rfl (by decide) (by decide) (by decide) fun T272 h274 v275 ms276 w273 q277 => ?_
  obtain ⟨rfl, rfl, ch_278, rfl, p53_chr_0⟩ := q277
  show own_Go Z EL n0 p e below s _ _ _ (T272.setTop (mkF m 56 _ [(.int ch_278), (.int (2 : Int32)), (.ref a249)]))
  refine own_stC (pc' := 57) w273 (i := 2) (xv := (.int ch_278)) (vs' := [(.int ch_256), (.int ch_267), (.int ch_278)]) (by simp) A_a249 (by decide) rfl (Nat.lt_of_sub_eq_succ rfl) (own_ncB p53_chr_0) (own_fcB p53_chr_0) rfl own_d18_56 rfl fun T279 h281 w280 W282 A_new => ?_
  clear A_a249
  replace K := K.wr W282 (Or.inr nw_a249)
  have A_a249 := A_new
  clear A_new
  refine own_iload (pc' := 59) w280 own_d18_57 rfl rfl ?_
  refine own_iconst (pc' := 60) w280 own_d18_59 (x := (3 : Int32)) rfl rfl ?_
  refine own_icmp (pc' := 63) w280 own_d18_60 rfl (by decide) (pcY := 72) rfl (fun (hb60 : ¬ (3 : Int32) < (3 : Int32)) => ?_) (fun (hb60 : (3 : Int32) < (3 : Int32)) => absurd hb60 (by decide))
  refine own_iload (pc' := 74) w280 own_d18_72 rfl rfl ?_
  refine own_iconst (pc' := 75) w280 own_d18_74 (x := (4 : Int32)) rfl rfl ?_
  refine own_icmp (pc' := 78) w280 own_d18_75 rfl (by decide) (pcY := 87) rfl (fun (hb75 : ¬ (4 : Int32) < (3 : Int32)) => ?_) (fun (hb75 : (4 : Int32) < (3 : Int32)) => absurd hb75 (by decide))
  refine own_newO (pc' := 90) w280 (own_w5 hw) (own_w6 hw) (own_w7 hw) own_d18_87 rfl (by decide) (by decide) fun T283 h285 a287 g_a287 w284 E286 ⟨E_a287, D288⟩ => ?_
  have ne_a249_a287 : a249 ≠ a287 := Nat.ne_of_lt (Nat.lt_of_lt_of_le A_a249.lt (Nat.le_of_eq g_a287))
  have nw_a287 : h0.size ≤ a287 := Nat.le_trans K.1 (Nat.le_of_eq g_a287)
  replace A_a249 := A_a249.ext E286
  replace K := K.ext E286
  have F_a287_value : Fld Z h285 a287 "java/lang/String" "value" "[B" .null := D288 (Or.inr (own_w20 hw)) (ty := (.array .byte)) (by decide)
  have F_a287_coder : Fld Z h285 a287 "java/lang/String" "coder" "B" (.int 0) := D288 (Or.inr (own_w21 hw)) (ty := .byte) (by decide)
  refine own_dup (pc' := 91) w284 own_d18_90 rfl rfl ?_
  refine own_aload (pc' := 93) w284 own_d18_91 rfl rfl rfl ?_
  refine own_callIB (pc' := 96) w284 (bytes' := jdk_42_method_3_code) rfl (own_w8 hw) (own_w9 hw) (own_w10 hw) (by decide) (fun s' hZ' => StrChars.Road.backV (W := 1) hZ' (own_hws hw) (kI := 4) (own_w6 hw) (cs := [ch_256, ch_267, ch_278]) (n := 3) (n0 := n0) (own_mine w284 a287 (by simp)).1 (own_n0 (own_old w284)) E_a287 F_a287_value F_a287_coder A_a249 (S_COMPACT_STRINGS.ext (own_old w284).2) P5 rfl rfl (by decide) (by decide) (own_allS p25_chr_0 (own_allS p39_chr_0 (own_allS p53_chr_0 own_all0))) rfl (by decide) (by decide)) (ws := [a287]) (allS (P := fun x => x ∈ _) (by simp) all0) (fun v h' L q => ⟨q.2.2.1, q.2.1⟩) (argsL := [.ref a249]) (rest := [(.ref a287)]) rfl rfl own_pd14 rfl own_d18_93 rfl (Nat.le_of_eq rfl) (by decide) (by decide) fun T289 h291 v292 w290 K293 q294 => ?_
  obtain ⟨_, rfl, -, -, nw_E, nw_C, t295, kb296, -, le_t295, ne_t295, nw_V, nw_A⟩ := q294
  have ne_a249_t295 : a249 ≠ t295 := Nat.ne_of_lt (Nat.lt_of_lt_of_le A_a249.lt le_t295)
  have ne_a287_t295 : a287 ≠ t295 := Nat.ne_of_lt (Nat.lt_of_lt_of_le E_a287.lt le_t295)
  have nw_t295 : h0.size ≤ t295 := Nat.le_trans K.1 le_t295
  replace A_a249 := A_a249.keep K293 (ninS ne_a249_a287 nin0)
  replace K := K.trans K293 (allS (P := fun x => x ∈ ([] : List Addr) ∨ h0.size ≤ x) (Or.inr nw_a287) all0)
  have E_a287 := nw_E; have F_a287_coder := nw_C; have F_a287_value := nw_V; have A_t295 := nw_A; clear nw_E nw_C nw_V nw_A
  show own_Go Z EL n0 p e below s _ _ _ (T289.setTop (mkF m 96 _ [(.ref a287)]))
  refine own_callS (pc' := 99) w290 (own_w26 hw) (own_w27 hw) (own_w28 hw) (own_w29 hw) (by decide) (own_ct_trim3 l Z a0 hw EL hE n0 [] h291 (own_old w290) a287 t295 kb296 z5 fm ch_256 ch_267 ch_278 E_a287 F_a287_coder F_a287_value A_t295 S_COMPACT_STRINGS (P5) S_SIOOBE_FORMATTER (hfm) (hE151) (p25_chr_0) (p39_chr_0) (p53_chr_0)) all0 (argsL := [(.ref a287)]) (rest := []) rfl rfl own_pd15 rfl own_d18_96 rfl (by decide) (W := 0) rfl (by decide) (by decide) (by decide) fun T297 h299 v300 ms301 w298 q302 => ?_
  obtain ⟨K309, r_303, t2_304, kA_305, N2_306, vs2_307, ds_308, rfl, rfl, nw_E_r_303, nw_F_r_303_coder, nw_F_r_303_value, nw_A_t2_304, p96_trim3_0, p96_trim3_1, p96_trim3_2, p96_trim3_3⟩ := q302
  replace A_a249 := A_a249.keep K309 nin0
  replace E_a287 := E_a287.keep K309
  replace F_a287_coder := F_a287_coder.keep K309 nin0
  replace F_a287_value := F_a287_value.keep K309 nin0
  replace A_t295 := A_t295.keep K309 nin0
  replace K := K.trans K309 all0
  have E_r_303 := nw_E_r_303; clear nw_E_r_303
  have F_r_303_coder := nw_F_r_303_coder; clear nw_F_r_303_coder
  have F_r_303_value := nw_F_r_303_value; clear nw_F_r_303_value
  have A_t2_304 := nw_A_t2_304; clear nw_A_t2_304
  show own_Go Z EL n0 p e below s _ _ _ (T297.setTop (mkF m 99 _ [(.ref r_303)]))
  refine own_astore (pc' := 101) w298 own_d18_99 rfl (Ls' := #[.val (.int i0), .val (.int i1), .val (.int i2), .val (.int i3), .val (.int i4), .val (.int i5), .val (.int (3 : Int32)), .val (.ref a249), .val (.ref r_303), .unset, .unset, .unset, .unset, .unset, .unset, .unset, .unset]) rfl rfl ?_
  refine own_aload (pc' := 103) w298 own_d18_101 rfl rfl rfl ?_
  refine own_ifnonnullY w298 own_d18_103 (by decide) (pc' := 108) rfl ?_
  refine own_aload (pc' := 110) w298 own_d18_108 rfl rfl rfl ?_
  refine own_iconst (pc' := 111) w298 own_d18_110 (x := (0 : Int32)) rfl rfl ?_
  refine own_callS (pc' := 114) w298 (own_w55 hw) (own_w56 hw) (own_w57 hw) (own_w58 hw) (by decide) (own_ct_nsIn l Z a0 hw EL hE n0 [] h299 (own_old w298) a249 (0 : Int32) k_a249 (3 : Int32) [(.int ch_256), (.int ch_267), (.int ch_278)] ch_256 A_a249 (by decide) (rfl)) all0 (argsL := [(.ref a249), (.int (0 : Int32))]) (rest := []) rfl rfl own_pd16 rfl own_d18_111 rfl (by decide) (W := 0) rfl (by decide) (by decide) (by decide) fun T310 h312 v313 ms314 w311 q315 => ?_
  obtain ⟨rfl, rfl, rfl⟩ := q315
  show own_Go Z EL n0 p e below s _ _ _ (T310.setTop (mkF m 114 _ [(.int (own_sv ch_256))]))
  refine own_istore (pc' := 116) w311 own_d18_114 (Ls' := #[.val (.int i0), .val (.int i1), .val (.int i2), .val (.int i3), .val (.int i4), .val (.int i5), .val (.int (3 : Int32)), .val (.ref a249), .val (.ref r_303), .val (.int (own_sv ch_256)), .unset, .unset, .unset, .unset, .unset, .unset, .unset]) rfl rfl ?_
  refine own_aload (pc' := 118) w311 own_d18_116 rfl rfl rfl ?_
  refine own_iconst (pc' := 119) w311 own_d18_118 (x := (1 : Int32)) rfl rfl ?_
  refine own_callS (pc' := 122) w311 (own_w55 hw) (own_w56 hw) (own_w57 hw) (own_w58 hw) (by decide) (own_ct_nsIn l Z a0 hw EL hE n0 [] h299 (own_old w311) a249 (1 : Int32) k_a249 (3 : Int32) [(.int ch_256), (.int ch_267), (.int ch_278)] ch_267 A_a249 (by decide) (rfl)) all0 (argsL := [(.ref a249), (.int (1 : Int32))]) (rest := []) rfl rfl own_pd16 rfl own_d18_119 rfl (by decide) (W := 0) rfl (by decide) (by decide) (by decide) fun T316 h318 v319 ms320 w317 q321 => ?_
  obtain ⟨rfl, rfl, rfl⟩ := q321
  show own_Go Z EL n0 p e below s _ _ _ (T316.setTop (mkF m 122 _ [(.int (own_sv ch_267))]))
  refine own_istore (pc' := 124) w317 own_d18_122 (Ls' := #[.val (.int i0), .val (.int i1), .val (.int i2), .val (.int i3), .val (.int i4), .val (.int i5), .val (.int (3 : Int32)), .val (.ref a249), .val (.ref r_303), .val (.int (own_sv ch_256)), .val (.int (own_sv ch_267)), .unset, .unset, .unset, .unset, .unset, .unset]) rfl rfl ?_
  refine own_aload (pc' := 126) w317 own_d18_124 rfl rfl rfl ?_
  refine own_iconst (pc' := 127) w317 own_d18_126 (x := (2 : Int32)) rfl rfl ?_
  refine own_callS (pc' := 130) w317 (own_w55 hw) (own_w56 hw) (own_w57 hw) (own_w58 hw) (by decide) (own_ct_nsIn l Z a0 hw EL hE n0 [] h299 (own_old w317) a249 (2 : Int32) k_a249 (3 : Int32) [(.int ch_256), (.int ch_267), (.int ch_278)] ch_278 A_a249 (by decide) (rfl)) all0 (argsL := [(.ref a249), (.int (2 : Int32))]) (rest := []) rfl rfl own_pd16 rfl own_d18_127 rfl (by decide) (W := 0) rfl (by decide) (by decide) (by decide) fun T322 h324 v325 ms326 w323 q327 => ?_
  obtain ⟨rfl, rfl, rfl⟩ := q327
  show own_Go Z EL n0 p e below s _ _ _ (T322.setTop (mkF m 130 _ [(.int (own_sv ch_278))]))
  refine own_istore (pc' := 132) w323 own_d18_130 (Ls' := #[.val (.int i0), .val (.int i1), .val (.int i2), .val (.int i3), .val (.int i4), .val (.int i5), .val (.int (3 : Int32)), .val (.ref a249), .val (.ref r_303), .val (.int (own_sv ch_256)), .val (.int (own_sv ch_267)), .val (.int (own_sv ch_278)), .unset, .unset, .unset, .unset, .unset]) rfl rfl ?_
  refine own_aload (pc' := 134) w323 own_d18_132 rfl rfl rfl ?_
  refine own_iconst (pc' := 135) w323 own_d18_134 (x := (3 : Int32)) rfl rfl ?_
  refine own_callS (pc' := 138) w323 (own_w55 hw) (own_w56 hw) (own_w57 hw) (own_w58 hw) (by decide) (own_ct_nsOut l Z a0 hw EL hE n0 [] h299 (own_old w323) a249 (3 : Int32) k_a249 (3 : Int32) [(.int ch_256), (.int ch_267), (.int ch_278)] A_a249 (by decide)) all0 (argsL := [(.ref a249), (.int (3 : Int32))]) (rest := []) rfl rfl own_pd16 rfl own_d18_135 rfl (by decide) (W := 0) rfl (by decide) (by decide) (by decide) fun T328 h330 v331 ms332 w329 q333 => ?_
  obtain ⟨rfl, rfl, rfl⟩ := q333
  show own_Go Z EL n0 p e below s _ _ _ (T328.setTop (mkF m 138 _ [(.int (0 : Int32))]))
  refine own_istore (pc' := 140) w329 own_d18_138 (Ls' := #[.val (.int i0), .val (.int i1), .val (.int i2), .val (.int i3), .val (.int i4), .val (.int i5), .val (.int (3 : Int32)), .val (.ref a249), .val (.ref r_303), .val (.int (own_sv ch_256)), .val (.int (own_sv ch_267)), .val (.int (own_sv ch_278)), .val (.int (0 : Int32)), .unset, .unset, .unset, .unset]) rfl rfl ?_
  refine own_aload (pc' := 142) w329 own_d18_140 rfl rfl rfl ?_
  refine own_iconst (pc' := 143) w329 own_d18_142 (x := (4 : Int32)) rfl rfl ?_
  refine own_callS (pc' := 146) w329 (own_w55 hw) (own_w56 hw) (own_w57 hw) (own_w58 hw) (by decide) (own_ct_nsOut l Z a0 hw EL hE n0 [] h299 (own_old w329) a249 (4 : Int32) k_a249 (3 : Int32) [(.int ch_256), (.int ch_267), (.int ch_278)] A_a249 (by decide)) all0 (argsL := [(.ref a249), (.int (4 : Int32))]) (rest := []) rfl rfl own_pd16 rfl own_d18_143 rfl (by decide) (W := 0) rfl (by decide) (by decide) (by decide) fun T334 h336 v337 ms338 w335 q339 => ?_
  obtain ⟨rfl, rfl, rfl⟩ := q339
  show own_Go Z EL n0 p e below s _ _ _ (T334.setTop (mkF m 146 _ [(.int (0 : Int32))]))
  refine own_istore (pc' := 148) w335 own_d18_146 (Ls' := #[.val (.int i0), .val (.int i1), .val (.int i2), .val (.int i3), .val (.int i4), .val (.int i5), .val (.int (3 : Int32)), .val (.ref a249), .val (.ref r_303), .val (.int (own_sv ch_256)), .val (.int (own_sv ch_267)), .val (.int (own_sv ch_278)), .val (.int (0 : Int32)), .val (.int (0 : Int32)), .unset, .unset, .unset]) rfl rfl ?_
  refine own_iload (pc' := 150) w335 own_d18_148 rfl rfl ?_
  refine own_if (pc' := 153) w335 own_d18_150 rfl (by decide) (pcY := 157) rfl (fun (hb150 : (own_sv ch_256) = (0 : Int32)) => ?_) (fun (hb150 : ¬ (own_sv ch_256) = (0 : Int32)) => ?_)
  ·
   refine own_iload (pc' := 159) w335 own_d18_157 rfl rfl ?_
   refine own_if (pc' := 162) w335 own_d18_159 rfl (by decide) (pcY := 166) rfl (fun (hb159 : (own_sv ch_267) = (0 : Int32)) => ?_) (fun (hb159 : ¬ (own_sv ch_267) = (0 : Int32)) => ?_)
   ·
    refine own_iload (pc' := 168) w335 own_d18_166 rfl rfl ?_
    refine own_if (pc' := 171) w335 own_d18_168 rfl (by decide) (pcY := 175) rfl (fun (hb168 : (own_sv ch_278) = (0 : Int32)) => ?_) (fun (hb168 : ¬ (own_sv ch_278) = (0 : Int32)) => ?_)
    ·
     refine own_iload (pc' := 177) w335 own_d18_175 rfl rfl ?_
     refine own_if (pc' := 180) w335 own_d18_177 rfl (by decide) (pcY := 184) rfl (fun (hb177 : (0 : Int32) = (0 : Int32)) => ?_) (fun (hb177 : ¬ (0 : Int32) = (0 : Int32)) => absurd hb177 (by decide))
     refine own_iload (pc' := 186) w335 own_d18_184 rfl rfl ?_
     refine own_if (pc' := 189) w335 own_d18_186 rfl (by decide) (pcY := 193) rfl (fun (hb186 : (0 : Int32) = (0 : Int32)) => ?_) (fun (hb186 : ¬ (0 : Int32) = (0 : Int32)) => absurd hb186 (by decide))
     refine own_iload (pc' := 195) w335 own_d18_193 rfl rfl ?_
     refine own_istore (pc' := 197) w335 own_d18_195 (Ls' := #[.val (.int i0), .val (.int i1), .val (.int i2), .val (.int i3), .val (.int i4), .val (.int i5), .val (.int (3 : Int32)), .val (.ref a249), .val (.ref r_303), .val (.int (own_sv ch_256)), .val (.int (own_sv ch_267)), .val (.int (own_sv ch_278)), .val (.int (0 : Int32)), .val (.int (0 : Int32)), .val (.int (3 : Int32)), .unset, .unset]) rfl rfl ?_
     refine own_iload (pc' := 199) w335 own_d18_197 rfl rfl ?_
     refine own_if (pc' := 202) w335 own_d18_199 rfl (by decide) (pcY := 206) rfl (fun (hb199 : (0 : Int32) = (0 : Int32)) => ?_) (fun (hb199 : ¬ (0 : Int32) = (0 : Int32)) => absurd hb199 (by decide))
     refine own_iload (pc' := 208) w335 own_d18_206 rfl rfl ?_
     refine own_if (pc' := 211) w335 own_d18_208 rfl (by decide) (pcY := 215) rfl (fun (hb208 : (0 : Int32) = (0 : Int32)) => ?_) (fun (hb208 : ¬ (0 : Int32) = (0 : Int32)) => absurd hb208 (by decide))
     refine own_iload (pc' := 217) w335 own_d18_215 rfl rfl ?_
     refine own_if (pc' := 220) w335 own_d18_217 rfl (by decide) (pcY := 224) rfl (fun (hb217 : (own_sv ch_278) = (0 : Int32)) => ?_) (fun (hb217 : ¬ (own_sv ch_278) = (0 : Int32)) => absurd hb168 hb217)
     refine own_iload (pc' := 226) w335 own_d18_224 rfl rfl ?_
     refine own_if (pc' := 229) w335 own_d18_226 rfl (by decide) (pcY := 233) rfl (fun (hb226 : (own_sv ch_267) = (0 : Int32)) => ?_) (fun (hb226 : ¬ (own_sv ch_267) = (0 : Int32)) => absurd hb159 hb226)
     refine own_iload (pc' := 235) w335 own_d18_233 rfl rfl ?_
     refine own_if (pc' := 238) w335 own_d18_235 rfl (by decide) (pcY := 242) rfl (fun (hb235 : (own_sv ch_256) = (0 : Int32)) => ?_) (fun (hb235 : ¬ (own_sv ch_256) = (0 : Int32)) => absurd hb150 hb235)
     refine own_iload (pc' := 244) w335 own_d18_242 rfl rfl ?_
     refine own_istore (pc' := 246) w335 own_d18_244 (Ls' := #[.val (.int i0), .val (.int i1), .val (.int i2), .val (.int i3), .val (.int i4), .val (.int i5), .val (.int (3 : Int32)), .val (.ref a249), .val (.ref r_303), .val (.int (own_sv ch_256)), .val (.int (own_sv ch_267)), .val (.int (own_sv ch_278)), .val (.int (0 : Int32)), .val (.int (0 : Int32)), .val (.int (3 : Int32)), .val (.int (3 : Int32)), .unset]) rfl rfl ?_
     refine own_iload (pc' := 248) w335 own_d18_246 rfl rfl ?_
     refine own_iload (pc' := 250) w335 own_d18_248 rfl rfl ?_
     refine own_isub (pc' := 251) w335 own_d18_250 (z := (0 : Int32)) (by decide) rfl ?_
     refine own_istore (pc' := 253) w335 own_d18_251 (Ls' := #[.val (.int i0), .val (.int i1), .val (.int i2), .val (.int i3), .val (.int i4), .val (.int i5), .val (.int (3 : Int32)), .val (.ref a249), .val (.ref r_303), .val (.int (own_sv ch_256)), .val (.int (own_sv ch_267)), .val (.int (own_sv ch_278)), .val (.int (0 : Int32)), .val (.int (0 : Int32)), .val (.int (3 : Int32)), .val (.int (3 : Int32)), .val (.int (0 : Int32))]) rfl rfl ?_
     have k_ch_256 := own_ns1 hb150
     have k_ch_267 := own_ns1 hb159
     have k_ch_278 := own_ns1 hb168
     have hds : ds_308 = ([] : List Int32) := p96_trim3_3.trans (by simp [own_trim, List.dropWhile, k_ch_256, k_ch_267, k_ch_278])
     subst hds
     exact own_tl_law l Z a0 hw EL hE n0 h0 i0 i1 i2 i3 i4 i5 z5 fm (3 : Int32) a249 r_303 (own_sv ch_256) (own_sv ch_267) (own_sv ch_278) (0 : Int32) (0 : Int32) (3 : Int32) (3 : Int32) (0 : Int32) t2_304 kA_305 N2_306 vs2_307 ([] : List Int32) k_a249 (3 : Int32) [(.int ch_256), (.int ch_267), (.int ch_278)] (own_more w335 (by decide) (by decide) all0) K S_COMPACT_STRINGS P5 S_SIOOBE_FORMATTER hfm hE151 hEL E_r_303 F_r_303_coder F_r_303_value A_t2_304 p96_trim3_0 p96_trim3_1 p96_trim3_2 A_a249 rfl (fun h => absurd h (by decide)) (fun h => absurd h (by decide)) (fun h => absurd h (by decide)) (fun h => absurd h (by decide)) (fun h => absurd h (by decide))
    ·
     refine own_iconst (pc' := 172) w335 own_d18_171 (x := (2 : Int32)) rfl rfl ?_
     refine own_goto w335 own_d18_172 (by decide) (pc' := 195) rfl ?_
     refine own_istore (pc' := 197) w335 own_d18_195 (Ls' := #[.val (.int i0), .val (.int i1), .val (.int i2), .val (.int i3), .val (.int i4), .val (.int i5), .val (.int (3 : Int32)), .val (.ref a249), .val (.ref r_303), .val (.int (own_sv ch_256)), .val (.int (own_sv ch_267)), .val (.int (own_sv ch_278)), .val (.int (0 : Int32)), .val (.int (0 : Int32)), .val (.int (2 : Int32)), .unset, .unset]) rfl rfl ?_
     refine own_iload (pc' := 199) w335 own_d18_197 rfl rfl ?_
     refine own_if (pc' := 202) w335 own_d18_199 rfl (by decide) (pcY := 206) rfl (fun (hb199 : (0 : Int32) = (0 : Int32)) => ?_) (fun (hb199 : ¬ (0 : Int32) = (0 : Int32)) => absurd hb199 (by decide))
     refine own_iload (pc' := 208) w335 own_d18_206 rfl rfl ?_
     refine own_if (pc' := 211) w335 own_d18_208 rfl (by decide) (pcY := 215) rfl (fun (hb208 : (0 : Int32) = (0 : Int32)) => ?_) (fun (hb208 : ¬ (0 : Int32) = (0 : Int32)) => absurd hb208 (by decide))
     refine own_iload (pc' := 217) w335 own_d18_215 rfl rfl ?_
     refine own_if (pc' := 220) w335 own_d18_217 rfl (by decide) (pcY := 224) rfl (fun (hb217 : (own_sv ch_278) = (0 : Int32)) => absurd hb217 hb168) (fun (hb217 : ¬ (own_sv ch_278) = (0 : Int32)) => ?_)
     refine own_iconst (pc' := 221) w335 own_d18_220 (x := (3 : Int32)) rfl rfl ?_
     refine own_goto w335 own_d18_221 (by decide) (pc' := 244) rfl ?_
     refine own_istore (pc' := 246) w335 own_d18_244 (Ls' := #[.val (.int i0), .val (.int i1), .val (.int i2), .val (.int i3), .val (.int i4), .val (.int i5), .val (.int (3 : Int32)), .val (.ref a249), .val (.ref r_303), .val (.int (own_sv ch_256)), .val (.int (own_sv ch_267)), .val (.int (own_sv ch_278)), .val (.int (0 : Int32)), .val (.int (0 : Int32)), .val (.int (2 : Int32)), .val (.int (3 : Int32)), .unset]) rfl rfl ?_
     refine own_iload (pc' := 248) w335 own_d18_246 rfl rfl ?_
     refine own_iload (pc' := 250) w335 own_d18_248 rfl rfl ?_
     refine own_isub (pc' := 251) w335 own_d18_250 (z := (1 : Int32)) (by decide) rfl ?_
     refine own_istore (pc' := 253) w335 own_d18_251 (Ls' := #[.val (.int i0), .val (.int i1), .val (.int i2), .val (.int i3), .val (.int i4), .val (.int i5), .val (.int (3 : Int32)), .val (.ref a249), .val (.ref r_303), .val (.int (own_sv ch_256)), .val (.int (own_sv ch_267)), .val (.int (own_sv ch_278)), .val (.int (0 : Int32)), .val (.int (0 : Int32)), .val (.int (2 : Int32)), .val (.int (3 : Int32)), .val (.int (1 : Int32))]) rfl rfl ?_
     have k_ch_256 := own_ns1 hb150
     have k_ch_267 := own_ns1 hb159
     have k_ch_278 := own_ns0 hb168
     have hds : ds_308 = ([ch_278] : List Int32) := p96_trim3_3.trans (by simp [own_trim, List.dropWhile, k_ch_256, k_ch_267, k_ch_278])
     subst hds
     exact own_tl_law l Z a0 hw EL hE n0 h0 i0 i1 i2 i3 i4 i5 z5 fm (3 : Int32) a249 r_303 (own_sv ch_256) (own_sv ch_267) (own_sv ch_278) (0 : Int32) (0 : Int32) (2 : Int32) (3 : Int32) (1 : Int32) t2_304 kA_305 N2_306 vs2_307 ([ch_278] : List Int32) k_a249 (3 : Int32) [(.int ch_256), (.int ch_267), (.int ch_278)] (own_more w335 (by decide) (by decide) all0) K S_COMPACT_STRINGS P5 S_SIOOBE_FORMATTER hfm hE151 hEL E_r_303 F_r_303_coder F_r_303_value A_t2_304 p96_trim3_0 p96_trim3_1 p96_trim3_2 A_a249 rfl (fun _ => ⟨Nat.le_of_ble_eq_true rfl, by decide, rfl⟩) (fun h => absurd h (by decide)) (fun h => absurd h (by decide)) (fun h => absurd h (by decide)) (fun h => absurd h (by decide))
   ·
    refine own_iconst (pc' := 163) w335 own_d18_162 (x := (1 : Int32)) rfl rfl ?_
    refine own_goto w335 own_d18_163 (by decide) (pc' := 195) rfl ?_
    refine own_istore (pc' := 197) w335 own_d18_195 (Ls' := #[.val (.int i0), .val (.int i1), .val (.int i2), .val (.int i3), .val (.int i4), .val (.int i5), .val (.int (3 : Int32)), .val (.ref a249), .val (.ref r_303), .val (.int (own_sv ch_256)), .val (.int (own_sv ch_267)), .val (.int (own_sv ch_278)), .val (.int (0 : Int32)), .val (.int (0 : Int32)), .val (.int (1 : Int32)), .unset, .unset]) rfl rfl ?_
    refine own_iload (pc' := 199) w335 own_d18_197 rfl rfl ?_
    refine own_if (pc' := 202) w335 own_d18_199 rfl (by decide) (pcY := 206) rfl (fun (hb199 : (0 : Int32) = (0 : Int32)) => ?_) (fun (hb199 : ¬ (0 : Int32) = (0 : Int32)) => absurd hb199 (by decide))
    refine own_iload (pc' := 208) w335 own_d18_206 rfl rfl ?_
    refine own_if (pc' := 211) w335 own_d18_208 rfl (by decide) (pcY := 215) rfl (fun (hb208 : (0 : Int32) = (0 : Int32)) => ?_) (fun (hb208 : ¬ (0 : Int32) = (0 : Int32)) => absurd hb208 (by decide))
    refine own_iload (pc' := 217) w335 own_d18_215 rfl rfl ?_
    refine own_if (pc' := 220) w335 own_d18_217 rfl (by decide) (pcY := 224) rfl (fun (hb217 : (own_sv ch_278) = (0 : Int32)) => ?_) (fun (hb217 : ¬ (own_sv ch_278) = (0 : Int32)) => ?_)
    ·
     refine own_iload (pc' := 226) w335 own_d18_224 rfl rfl ?_
     refine own_if (pc' := 229) w335 own_d18_226 rfl (by decide) (pcY := 233) rfl (fun (hb226 : (own_sv ch_267) = (0 : Int32)) => absurd hb226 hb159) (fun (hb226 : ¬ (own_sv ch_267) = (0 : Int32)) => ?_)
     refine own_iconst (pc' := 230) w335 own_d18_229 (x := (2 : Int32)) rfl rfl ?_
     refine own_goto w335 own_d18_230 (by decide) (pc' := 244) rfl ?_
     refine own_istore (pc' := 246) w335 own_d18_244 (Ls' := #[.val (.int i0), .val (.int i1), .val (.int i2), .val (.int i3), .val (.int i4), .val (.int i5), .val (.int (3 : Int32)), .val (.ref a249), .val (.ref r_303), .val (.int (own_sv ch_256)), .val (.int (own_sv ch_267)), .val (.int (own_sv ch_278)), .val (.int (0 : Int32)), .val (.int (0 : Int32)), .val (.int (1 : Int32)), .val (.int (2 : Int32)), .unset]) rfl rfl ?_
     refine own_iload (pc' := 248) w335 own_d18_246 rfl rfl ?_
     refine own_iload (pc' := 250) w335 own_d18_248 rfl rfl ?_
     refine own_isub (pc' := 251) w335 own_d18_250 (z := (1 : Int32)) (by decide) rfl ?_
     refine own_istore (pc' := 253) w335 own_d18_251 (Ls' := #[.val (.int i0), .val (.int i1), .val (.int i2), .val (.int i3), .val (.int i4), .val (.int i5), .val (.int (3 : Int32)), .val (.ref a249), .val (.ref r_303), .val (.int (own_sv ch_256)), .val (.int (own_sv ch_267)), .val (.int (own_sv ch_278)), .val (.int (0 : Int32)), .val (.int (0 : Int32)), .val (.int (1 : Int32)), .val (.int (2 : Int32)), .val (.int (1 : Int32))]) rfl rfl ?_
     have k_ch_256 := own_ns1 hb150
     have k_ch_267 := own_ns0 hb159
     have k_ch_278 := own_ns1 hb217
     have hds : ds_308 = ([ch_267] : List Int32) := p96_trim3_3.trans (by simp [own_trim, List.dropWhile, k_ch_256, k_ch_267, k_ch_278])
     subst hds
     exact own_tl_law l Z a0 hw EL hE n0 h0 i0 i1 i2 i3 i4 i5 z5 fm (3 : Int32) a249 r_303 (own_sv ch_256) (own_sv ch_267) (own_sv ch_278) (0 : Int32) (0 : Int32) (1 : Int32) (2 : Int32) (1 : Int32) t2_304 kA_305 N2_306 vs2_307 ([ch_267] : List Int32) k_a249 (3 : Int32) [(.int ch_256), (.int ch_267), (.int ch_278)] (own_more w335 (by decide) (by decide) all0) K S_COMPACT_STRINGS P5 S_SIOOBE_FORMATTER hfm hE151 hEL E_r_303 F_r_303_coder F_r_303_value A_t2_304 p96_trim3_0 p96_trim3_1 p96_trim3_2 A_a249 rfl (fun _ => ⟨Nat.le_of_ble_eq_true rfl, by decide, rfl⟩) (fun h => absurd h (by decide)) (fun h => absurd h (by decide)) (fun h => absurd h (by decide)) (fun h => absurd h (by decide))
    ·
     refine own_iconst (pc' := 221) w335 own_d18_220 (x := (3 : Int32)) rfl rfl ?_
     refine own_goto w335 own_d18_221 (by decide) (pc' := 244) rfl ?_
     refine own_istore (pc' := 246) w335 own_d18_244 (Ls' := #[.val (.int i0), .val (.int i1), .val (.int i2), .val (.int i3), .val (.int i4), .val (.int i5), .val (.int (3 : Int32)), .val (.ref a249), .val (.ref r_303), .val (.int (own_sv ch_256)), .val (.int (own_sv ch_267)), .val (.int (own_sv ch_278)), .val (.int (0 : Int32)), .val (.int (0 : Int32)), .val (.int (1 : Int32)), .val (.int (3 : Int32)), .unset]) rfl rfl ?_
     refine own_iload (pc' := 248) w335 own_d18_246 rfl rfl ?_
     refine own_iload (pc' := 250) w335 own_d18_248 rfl rfl ?_
     refine own_isub (pc' := 251) w335 own_d18_250 (z := (2 : Int32)) (by decide) rfl ?_
     refine own_istore (pc' := 253) w335 own_d18_251 (Ls' := #[.val (.int i0), .val (.int i1), .val (.int i2), .val (.int i3), .val (.int i4), .val (.int i5), .val (.int (3 : Int32)), .val (.ref a249), .val (.ref r_303), .val (.int (own_sv ch_256)), .val (.int (own_sv ch_267)), .val (.int (own_sv ch_278)), .val (.int (0 : Int32)), .val (.int (0 : Int32)), .val (.int (1 : Int32)), .val (.int (3 : Int32)), .val (.int (2 : Int32))]) rfl rfl ?_
     have k_ch_256 := own_ns1 hb150
     have k_ch_267 := own_ns0 hb159
     have k_ch_278 := own_ns0 hb217
     have hds : ds_308 = ([ch_267, ch_278] : List Int32) := p96_trim3_3.trans (by simp [own_trim, List.dropWhile, k_ch_256, k_ch_267, k_ch_278])
     subst hds
     exact own_tl_law l Z a0 hw EL hE n0 h0 i0 i1 i2 i3 i4 i5 z5 fm (3 : Int32) a249 r_303 (own_sv ch_256) (own_sv ch_267) (own_sv ch_278) (0 : Int32) (0 : Int32) (1 : Int32) (3 : Int32) (2 : Int32) t2_304 kA_305 N2_306 vs2_307 ([ch_267, ch_278] : List Int32) k_a249 (3 : Int32) [(.int ch_256), (.int ch_267), (.int ch_278)] (own_more w335 (by decide) (by decide) all0) K S_COMPACT_STRINGS P5 S_SIOOBE_FORMATTER hfm hE151 hEL E_r_303 F_r_303_coder F_r_303_value A_t2_304 p96_trim3_0 p96_trim3_1 p96_trim3_2 A_a249 rfl (fun _ => ⟨Nat.le_of_ble_eq_true rfl, by decide, rfl⟩) (fun _ => ⟨Nat.le_of_ble_eq_true rfl, by decide, rfl⟩) (fun h => absurd h (by decide)) (fun h => absurd h (by decide)) (fun h => absurd h (by decide))
  ·
   refine own_iconst (pc' := 154) w335 own_d18_153 (x := (0 : Int32)) rfl rfl ?_
   refine own_goto w335 own_d18_154 (by decide) (pc' := 195) rfl ?_
   refine own_istore (pc' := 197) w335 own_d18_195 (Ls' := #[.val (.int i0), .val (.int i1), .val (.int i2), .val (.int i3), .val (.int i4), .val (.int i5), .val (.int (3 : Int32)), .val (.ref a249), .val (.ref r_303), .val (.int (own_sv ch_256)), .val (.int (own_sv ch_267)), .val (.int (own_sv ch_278)), .val (.int (0 : Int32)), .val (.int (0 : Int32)), .val (.int (0 : Int32)), .unset, .unset]) rfl rfl ?_
   refine own_iload (pc' := 199) w335 own_d18_197 rfl rfl ?_
   refine own_if (pc' := 202) w335 own_d18_199 rfl (by decide) (pcY := 206) rfl (fun (hb199 : (0 : Int32) = (0 : Int32)) => ?_) (fun (hb199 : ¬ (0 : Int32) = (0 : Int32)) => absurd hb199 (by decide))
   refine own_iload (pc' := 208) w335 own_d18_206 rfl rfl ?_
   refine own_if (pc' := 211) w335 own_d18_208 rfl (by decide) (pcY := 215) rfl (fun (hb208 : (0 : Int32) = (0 : Int32)) => ?_) (fun (hb208 : ¬ (0 : Int32) = (0 : Int32)) => absurd hb208 (by decide))
   refine own_iload (pc' := 217) w335 own_d18_215 rfl rfl ?_
   refine own_if (pc' := 220) w335 own_d18_217 rfl (by decide) (pcY := 224) rfl (fun (hb217 : (own_sv ch_278) = (0 : Int32)) => ?_) (fun (hb217 : ¬ (own_sv ch_278) = (0 : Int32)) => ?_)
   ·
    refine own_iload (pc' := 226) w335 own_d18_224 rfl rfl ?_
    refine own_if (pc' := 229) w335 own_d18_226 rfl (by decide) (pcY := 233) rfl (fun (hb226 : (own_sv ch_267) = (0 : Int32)) => ?_) (fun (hb226 : ¬ (own_sv ch_267) = (0 : Int32)) => ?_)
    ·
     refine own_iload (pc' := 235) w335 own_d18_233 rfl rfl ?_
     refine own_if (pc' := 238) w335 own_d18_235 rfl (by decide) (pcY := 242) rfl (fun (hb235 : (own_sv ch_256) = (0 : Int32)) => absurd hb235 hb150) (fun (hb235 : ¬ (own_sv ch_256) = (0 : Int32)) => ?_)
     refine own_iconst (pc' := 239) w335 own_d18_238 (x := (1 : Int32)) rfl rfl ?_
     refine own_goto w335 own_d18_239 (by decide) (pc' := 244) rfl ?_
     refine own_istore (pc' := 246) w335 own_d18_244 (Ls' := #[.val (.int i0), .val (.int i1), .val (.int i2), .val (.int i3), .val (.int i4), .val (.int i5), .val (.int (3 : Int32)), .val (.ref a249), .val (.ref r_303), .val (.int (own_sv ch_256)), .val (.int (own_sv ch_267)), .val (.int (own_sv ch_278)), .val (.int (0 : Int32)), .val (.int (0 : Int32)), .val (.int (0 : Int32)), .val (.int (1 : Int32)), .unset]) rfl rfl ?_
     refine own_iload (pc' := 248) w335 own_d18_246 rfl rfl ?_
     refine own_iload (pc' := 250) w335 own_d18_248 rfl rfl ?_
     refine own_isub (pc' := 251) w335 own_d18_250 (z := (1 : Int32)) (by decide) rfl ?_
     refine own_istore (pc' := 253) w335 own_d18_251 (Ls' := #[.val (.int i0), .val (.int i1), .val (.int i2), .val (.int i3), .val (.int i4), .val (.int i5), .val (.int (3 : Int32)), .val (.ref a249), .val (.ref r_303), .val (.int (own_sv ch_256)), .val (.int (own_sv ch_267)), .val (.int (own_sv ch_278)), .val (.int (0 : Int32)), .val (.int (0 : Int32)), .val (.int (0 : Int32)), .val (.int (1 : Int32)), .val (.int (1 : Int32))]) rfl rfl ?_
     have k_ch_256 := own_ns0 hb150
     have k_ch_278 := own_ns1 hb217
     have k_ch_267 := own_ns1 hb226
     have hds : ds_308 = ([ch_256] : List Int32) := p96_trim3_3.trans (by simp [own_trim, List.dropWhile, k_ch_256, k_ch_278, k_ch_267])
     subst hds
     exact own_tl_law l Z a0 hw EL hE n0 h0 i0 i1 i2 i3 i4 i5 z5 fm (3 : Int32) a249 r_303 (own_sv ch_256) (own_sv ch_267) (own_sv ch_278) (0 : Int32) (0 : Int32) (0 : Int32) (1 : Int32) (1 : Int32) t2_304 kA_305 N2_306 vs2_307 ([ch_256] : List Int32) k_a249 (3 : Int32) [(.int ch_256), (.int ch_267), (.int ch_278)] (own_more w335 (by decide) (by decide) all0) K S_COMPACT_STRINGS P5 S_SIOOBE_FORMATTER hfm hE151 hEL E_r_303 F_r_303_coder F_r_303_value A_t2_304 p96_trim3_0 p96_trim3_1 p96_trim3_2 A_a249 rfl (fun _ => ⟨Nat.le_of_ble_eq_true rfl, by decide, rfl⟩) (fun h => absurd h (by decide)) (fun h => absurd h (by decide)) (fun h => absurd h (by decide)) (fun h => absurd h (by decide))
    ·
     refine own_iconst (pc' := 230) w335 own_d18_229 (x := (2 : Int32)) rfl rfl ?_
     refine own_goto w335 own_d18_230 (by decide) (pc' := 244) rfl ?_
     refine own_istore (pc' := 246) w335 own_d18_244 (Ls' := #[.val (.int i0), .val (.int i1), .val (.int i2), .val (.int i3), .val (.int i4), .val (.int i5), .val (.int (3 : Int32)), .val (.ref a249), .val (.ref r_303), .val (.int (own_sv ch_256)), .val (.int (own_sv ch_267)), .val (.int (own_sv ch_278)), .val (.int (0 : Int32)), .val (.int (0 : Int32)), .val (.int (0 : Int32)), .val (.int (2 : Int32)), .unset]) rfl rfl ?_
     refine own_iload (pc' := 248) w335 own_d18_246 rfl rfl ?_
     refine own_iload (pc' := 250) w335 own_d18_248 rfl rfl ?_
     refine own_isub (pc' := 251) w335 own_d18_250 (z := (2 : Int32)) (by decide) rfl ?_
     refine own_istore (pc' := 253) w335 own_d18_251 (Ls' := #[.val (.int i0), .val (.int i1), .val (.int i2), .val (.int i3), .val (.int i4), .val (.int i5), .val (.int (3 : Int32)), .val (.ref a249), .val (.ref r_303), .val (.int (own_sv ch_256)), .val (.int (own_sv ch_267)), .val (.int (own_sv ch_278)), .val (.int (0 : Int32)), .val (.int (0 : Int32)), .val (.int (0 : Int32)), .val (.int (2 : Int32)), .val (.int (2 : Int32))]) rfl rfl ?_
     have k_ch_256 := own_ns0 hb150
     have k_ch_278 := own_ns1 hb217
     have k_ch_267 := own_ns0 hb226
     have hds : ds_308 = ([ch_256, ch_267] : List Int32) := p96_trim3_3.trans (by simp [own_trim, List.dropWhile, k_ch_256, k_ch_278, k_ch_267])
     subst hds
     exact own_tl_law l Z a0 hw EL hE n0 h0 i0 i1 i2 i3 i4 i5 z5 fm (3 : Int32) a249 r_303 (own_sv ch_256) (own_sv ch_267) (own_sv ch_278) (0 : Int32) (0 : Int32) (0 : Int32) (2 : Int32) (2 : Int32) t2_304 kA_305 N2_306 vs2_307 ([ch_256, ch_267] : List Int32) k_a249 (3 : Int32) [(.int ch_256), (.int ch_267), (.int ch_278)] (own_more w335 (by decide) (by decide) all0) K S_COMPACT_STRINGS P5 S_SIOOBE_FORMATTER hfm hE151 hEL E_r_303 F_r_303_coder F_r_303_value A_t2_304 p96_trim3_0 p96_trim3_1 p96_trim3_2 A_a249 rfl (fun _ => ⟨Nat.le_of_ble_eq_true rfl, by decide, rfl⟩) (fun _ => ⟨Nat.le_of_ble_eq_true rfl, by decide, rfl⟩) (fun h => absurd h (by decide)) (fun h => absurd h (by decide)) (fun h => absurd h (by decide))
   ·
    refine own_iconst (pc' := 221) w335 own_d18_220 (x := (3 : Int32)) rfl rfl ?_
    refine own_goto w335 own_d18_221 (by decide) (pc' := 244) rfl ?_
    refine own_istore (pc' := 246) w335 own_d18_244 (Ls' := #[.val (.int i0), .val (.int i1), .val (.int i2), .val (.int i3), .val (.int i4), .val (.int i5), .val (.int (3 : Int32)), .val (.ref a249), .val (.ref r_303), .val (.int (own_sv ch_256)), .val (.int (own_sv ch_267)), .val (.int (own_sv ch_278)), .val (.int (0 : Int32)), .val (.int (0 : Int32)), .val (.int (0 : Int32)), .val (.int (3 : Int32)), .unset]) rfl rfl ?_
    refine own_iload (pc' := 248) w335 own_d18_246 rfl rfl ?_
    refine own_iload (pc' := 250) w335 own_d18_248 rfl rfl ?_
    refine own_isub (pc' := 251) w335 own_d18_250 (z := (3 : Int32)) (by decide) rfl ?_
    refine own_istore (pc' := 253) w335 own_d18_251 (Ls' := #[.val (.int i0), .val (.int i1), .val (.int i2), .val (.int i3), .val (.int i4), .val (.int i5), .val (.int (3 : Int32)), .val (.ref a249), .val (.ref r_303), .val (.int (own_sv ch_256)), .val (.int (own_sv ch_267)), .val (.int (own_sv ch_278)), .val (.int (0 : Int32)), .val (.int (0 : Int32)), .val (.int (0 : Int32)), .val (.int (3 : Int32)), .val (.int (3 : Int32))]) rfl rfl ?_
    have k_ch_256 := own_ns0 hb150
    have k_ch_278 := own_ns0 hb217
    have hds : ds_308 = ([ch_256, ch_267, ch_278] : List Int32) := p96_trim3_3.trans (by simp [own_trim, List.dropWhile, k_ch_256, k_ch_278])
    subst hds
    exact own_tl_law l Z a0 hw EL hE n0 h0 i0 i1 i2 i3 i4 i5 z5 fm (3 : Int32) a249 r_303 (own_sv ch_256) (own_sv ch_267) (own_sv ch_278) (0 : Int32) (0 : Int32) (0 : Int32) (3 : Int32) (3 : Int32) t2_304 kA_305 N2_306 vs2_307 ([ch_256, ch_267, ch_278] : List Int32) k_a249 (3 : Int32) [(.int ch_256), (.int ch_267), (.int ch_278)] (own_more w335 (by decide) (by decide) all0) K S_COMPACT_STRINGS P5 S_SIOOBE_FORMATTER hfm hE151 hEL E_r_303 F_r_303_coder F_r_303_value A_t2_304 p96_trim3_0 p96_trim3_1 p96_trim3_2 A_a249 rfl (fun _ => ⟨Nat.le_of_ble_eq_true rfl, by decide, rfl⟩) (fun _ => ⟨Nat.le_of_ble_eq_true rfl, by decide, rfl⟩) (fun _ => ⟨Nat.le_of_ble_eq_true rfl, by decide, rfl⟩) (fun h => absurd h (by decide)) (fun h => absurd h (by decide))
 ·
  refine own_callS (pc' := 8) w0 (own_w0 hw) (own_w1 hw) (own_w2 hw) (own_w3 hw) (by decide) (own_ct_minV l Z a0 hw EL hE n0 [] h0 (own_old w0) (i0 &&& (7 : Int32)) (5 : Int32) (4 : Int32) (hn)) all0 (argsL := [(.int (i0 &&& (7 : Int32))), (.int (5 : Int32))]) (rest := []) rfl rfl own_pd2 rfl own_d18_5 rfl (by decide) (W := 0) rfl (by decide) (by decide) (by decide) fun T340 h342 v343 ms344 w341 q345 => ?_
  obtain ⟨rfl, rfl, rfl⟩ := q345
  show own_Go Z EL n0 p e below s _ _ _ (T340.setTop (mkF m 8 _ [(.int (4 : Int32))]))
  refine own_istore (pc' := 10) w341 own_d18_8 (Ls' := #[.val (.int i0), .val (.int i1), .val (.int i2), .val (.int i3), .val (.int i4), .val (.int i5), .val (.int (4 : Int32)), .unset, .unset, .unset, .unset, .unset, .unset, .unset, .unset, .unset, .unset]) rfl rfl ?_
  refine own_iload (pc' := 12) w341 own_d18_10 rfl rfl ?_
  refine own_newP (pc' := 14) w341 (aty := .char) (z := (4 : Int32)) (vs := [(.int 0), (.int 0), (.int 0), (.int 0)]) (dv := (.int 0)) (cap := 4) (own_w4 hw) own_d18_12 rfl (by decide) (by decide) (by decide) rfl (own_rep 4 (.int 0)) (by decide) (by decide) fun T346 h348 a350 g_a350 w347 E349 ⟨k_a350, A_a350⟩ => ?_
  have nw_a350 : h0.size ≤ a350 := Nat.le_trans K.1 (Nat.le_of_eq g_a350)
  replace K := K.ext E349
  refine own_astore (pc' := 16) w347 own_d18_14 rfl (Ls' := #[.val (.int i0), .val (.int i1), .val (.int i2), .val (.int i3), .val (.int i4), .val (.int i5), .val (.int (4 : Int32)), .val (.ref a350), .unset, .unset, .unset, .unset, .unset, .unset, .unset, .unset, .unset]) rfl rfl ?_
  refine own_iload (pc' := 18) w347 own_d18_16 rfl rfl ?_
  refine own_if (pc' := 21) w347 own_d18_18 rfl (by decide) (pcY := 29) rfl (fun (hb18 : ¬ (0 : Int32) < (4 : Int32)) => absurd hb18 (by decide)) (fun (hb18 : (0 : Int32) < (4 : Int32)) => ?_)
  refine own_aload (pc' := 23) w347 own_d18_21 rfl rfl rfl ?_
  refine own_iconst (pc' := 24) w347 own_d18_23 (x := (0 : Int32)) rfl rfl ?_
  refine own_iloadN (pc' := 25) w347 own_d18_24 rfl rfl ?_
  refine own_callS (pc' := 28) w347 (own_w63 hw) (own_w64 hw) (own_w57 hw) (own_w65 hw) (by decide) (own_ct_chr l Z a0 hw EL hE n0 [] h348 (own_old w347) i1 ) all0 (argsL := [(.int i1)]) (rest := [(.int (0 : Int32)), (.ref a350)]) rfl rfl own_pd11 rfl own_d18_25 rfl (by decide) (W := 2) rfl (by decide) (by decide) (by decide) fun T351 h353 v354 ms355 w352 q356 => ?_
  obtain ⟨rfl, rfl, ch_357, rfl, p25_chr_0⟩ := q356
  show own_Go Z EL n0 p e below s _ _ _ (T351.setTop (mkF m 28 _ [(.int ch_357), (.int (0 : Int32)), (.ref a350)]))
  refine own_stC (pc' := 29) w352 (i := 0) (xv := (.int ch_357)) (vs' := [(.int ch_357), (.int 0), (.int 0), (.int 0)]) (by simp) A_a350 (by decide) rfl (Nat.lt_of_sub_eq_succ rfl) (own_ncB p25_chr_0) (own_fcB p25_chr_0) rfl own_d18_28 rfl fun T358 h360 w359 W361 A_new => ?_
  clear A_a350
  replace K := K.wr W361 (Or.inr nw_a350)
  have A_a350 := A_new
  clear A_new
  refine own_iload (pc' := 31) w359 own_d18_29 rfl rfl ?_
  refine own_iconst (pc' := 32) w359 own_d18_31 (x := (1 : Int32)) rfl rfl ?_
  refine own_icmp (pc' := 35) w359 own_d18_32 rfl (by decide) (pcY := 43) rfl (fun (hb32 : ¬ (1 : Int32) < (4 : Int32)) => absurd hb32 (by decide)) (fun (hb32 : (1 : Int32) < (4 : Int32)) => ?_)
  refine own_aload (pc' := 37) w359 own_d18_35 rfl rfl rfl ?_
  refine own_iconst (pc' := 38) w359 own_d18_37 (x := (1 : Int32)) rfl rfl ?_
  refine own_iloadN (pc' := 39) w359 own_d18_38 rfl rfl ?_
  refine own_callS (pc' := 42) w359 (own_w63 hw) (own_w64 hw) (own_w57 hw) (own_w65 hw) (by decide) (own_ct_chr l Z a0 hw EL hE n0 [] h360 (own_old w359) i2 ) all0 (argsL := [(.int i2)]) (rest := [(.int (1 : Int32)), (.ref a350)]) rfl rfl own_pd11 rfl own_d18_39 rfl (by decide) (W := 2) rfl (by decide) (by decide) (by decide) fun T362 h364 v365 ms366 w363 q367 => ?_
  obtain ⟨rfl, rfl, ch_368, rfl, p39_chr_0⟩ := q367
  show own_Go Z EL n0 p e below s _ _ _ (T362.setTop (mkF m 42 _ [(.int ch_368), (.int (1 : Int32)), (.ref a350)]))
  refine own_stC (pc' := 43) w363 (i := 1) (xv := (.int ch_368)) (vs' := [(.int ch_357), (.int ch_368), (.int 0), (.int 0)]) (by simp) A_a350 (by decide) rfl (Nat.lt_of_sub_eq_succ rfl) (own_ncB p39_chr_0) (own_fcB p39_chr_0) rfl own_d18_42 rfl fun T369 h371 w370 W372 A_new => ?_
  clear A_a350
  replace K := K.wr W372 (Or.inr nw_a350)
  have A_a350 := A_new
  clear A_new
  refine own_iload (pc' := 45) w370 own_d18_43 rfl rfl ?_
  refine own_iconst (pc' := 46) w370 own_d18_45 (x := (2 : Int32)) rfl rfl ?_
  refine own_icmp (pc' := 49) w370 own_d18_46 rfl (by decide) (pcY := 57) rfl (fun (hb46 : ¬ (2 : Int32) < (4 : Int32)) => absurd hb46 (by decide)) (fun (hb46 : (2 : Int32) < (4 : Int32)) => ?_)
  refine own_aload (pc' := 51) w370 own_d18_49 rfl rfl rfl ?_
  refine own_iconst (pc' := 52) w370 own_d18_51 (x := (2 : Int32)) rfl rfl ?_
  refine own_iloadN (pc' := 53) w370 own_d18_52 rfl rfl ?_
  refine own_callS (pc' := 56) w370 (own_w63 hw) (own_w64 hw) (own_w57 hw) (own_w65 hw) (by decide) (own_ct_chr l Z a0 hw EL hE n0 [] h371 (own_old w370) i3 ) all0 (argsL := [(.int i3)]) (rest := [(.int (2 : Int32)), (.ref a350)]) rfl rfl own_pd11 rfl own_d18_53 rfl (by decide) (W := 2) rfl (by decide) (by decide) (by decide) fun T373 h375 v376 ms377 w374 q378 => ?_
  obtain ⟨rfl, rfl, ch_379, rfl, p53_chr_0⟩ := q378
  show own_Go Z EL n0 p e below s _ _ _ (T373.setTop (mkF m 56 _ [(.int ch_379), (.int (2 : Int32)), (.ref a350)]))
  refine own_stC (pc' := 57) w374 (i := 2) (xv := (.int ch_379)) (vs' := [(.int ch_357), (.int ch_368), (.int ch_379), (.int 0)]) (by simp) A_a350 (by decide) rfl (Nat.lt_of_sub_eq_succ rfl) (own_ncB p53_chr_0) (own_fcB p53_chr_0) rfl own_d18_56 rfl fun T380 h382 w381 W383 A_new => ?_
  clear A_a350
  replace K := K.wr W383 (Or.inr nw_a350)
  have A_a350 := A_new
  clear A_new
  refine own_iload (pc' := 59) w381 own_d18_57 rfl rfl ?_
  refine own_iconst (pc' := 60) w381 own_d18_59 (x := (3 : Int32)) rfl rfl ?_
  refine own_icmp (pc' := 63) w381 own_d18_60 rfl (by decide) (pcY := 72) rfl (fun (hb60 : ¬ (3 : Int32) < (4 : Int32)) => absurd hb60 (by decide)) (fun (hb60 : (3 : Int32) < (4 : Int32)) => ?_)
  refine own_aload (pc' := 65) w381 own_d18_63 rfl rfl rfl ?_
  refine own_iconst (pc' := 66) w381 own_d18_65 (x := (3 : Int32)) rfl rfl ?_
  refine own_iload (pc' := 68) w381 own_d18_66 rfl rfl ?_
  refine own_callS (pc' := 71) w381 (own_w63 hw) (own_w64 hw) (own_w57 hw) (own_w65 hw) (by decide) (own_ct_chr l Z a0 hw EL hE n0 [] h382 (own_old w381) i4 ) all0 (argsL := [(.int i4)]) (rest := [(.int (3 : Int32)), (.ref a350)]) rfl rfl own_pd11 rfl own_d18_68 rfl (by decide) (W := 2) rfl (by decide) (by decide) (by decide) fun T384 h386 v387 ms388 w385 q389 => ?_
  obtain ⟨rfl, rfl, ch_390, rfl, p68_chr_0⟩ := q389
  show own_Go Z EL n0 p e below s _ _ _ (T384.setTop (mkF m 71 _ [(.int ch_390), (.int (3 : Int32)), (.ref a350)]))
  refine own_stC (pc' := 72) w385 (i := 3) (xv := (.int ch_390)) (vs' := [(.int ch_357), (.int ch_368), (.int ch_379), (.int ch_390)]) (by simp) A_a350 (by decide) rfl (Nat.lt_of_sub_eq_succ rfl) (own_ncB p68_chr_0) (own_fcB p68_chr_0) rfl own_d18_71 rfl fun T391 h393 w392 W394 A_new => ?_
  clear A_a350
  replace K := K.wr W394 (Or.inr nw_a350)
  have A_a350 := A_new
  clear A_new
  refine own_iload (pc' := 74) w392 own_d18_72 rfl rfl ?_
  refine own_iconst (pc' := 75) w392 own_d18_74 (x := (4 : Int32)) rfl rfl ?_
  refine own_icmp (pc' := 78) w392 own_d18_75 rfl (by decide) (pcY := 87) rfl (fun (hb75 : ¬ (4 : Int32) < (4 : Int32)) => ?_) (fun (hb75 : (4 : Int32) < (4 : Int32)) => absurd hb75 (by decide))
  refine own_newO (pc' := 90) w392 (own_w5 hw) (own_w6 hw) (own_w7 hw) own_d18_87 rfl (by decide) (by decide) fun T395 h397 a399 g_a399 w396 E398 ⟨E_a399, D400⟩ => ?_
  have ne_a350_a399 : a350 ≠ a399 := Nat.ne_of_lt (Nat.lt_of_lt_of_le A_a350.lt (Nat.le_of_eq g_a399))
  have nw_a399 : h0.size ≤ a399 := Nat.le_trans K.1 (Nat.le_of_eq g_a399)
  replace A_a350 := A_a350.ext E398
  replace K := K.ext E398
  have F_a399_value : Fld Z h397 a399 "java/lang/String" "value" "[B" .null := D400 (Or.inr (own_w20 hw)) (ty := (.array .byte)) (by decide)
  have F_a399_coder : Fld Z h397 a399 "java/lang/String" "coder" "B" (.int 0) := D400 (Or.inr (own_w21 hw)) (ty := .byte) (by decide)
  refine own_dup (pc' := 91) w396 own_d18_90 rfl rfl ?_
  refine own_aload (pc' := 93) w396 own_d18_91 rfl rfl rfl ?_
  refine own_callIB (pc' := 96) w396 (bytes' := jdk_42_method_3_code) rfl (own_w8 hw) (own_w9 hw) (own_w10 hw) (by decide) (fun s' hZ' => StrChars.Road.backV (W := 1) hZ' (own_hws hw) (kI := 4) (own_w6 hw) (cs := [ch_357, ch_368, ch_379, ch_390]) (n := 4) (n0 := n0) (own_mine w396 a399 (by simp)).1 (own_n0 (own_old w396)) E_a399 F_a399_value F_a399_coder A_a350 (S_COMPACT_STRINGS.ext (own_old w396).2) P5 rfl rfl (by decide) (by decide) (own_allS p25_chr_0 (own_allS p39_chr_0 (own_allS p53_chr_0 (own_allS p68_chr_0 own_all0)))) rfl (by decide) (by decide)) (ws := [a399]) (allS (P := fun x => x ∈ _) (by simp) all0) (fun v h' L q => ⟨q.2.2.1, q.2.1⟩) (argsL := [.ref a350]) (rest := [(.ref a399)]) rfl rfl own_pd14 rfl own_d18_93 rfl (Nat.le_of_eq rfl) (by decide) (by decide) fun T401 h403 v404 w402 K405 q406 => ?_
  obtain ⟨_, rfl, -, -, nw_E, nw_C, t407, kb408, -, le_t407, ne_t407, nw_V, nw_A⟩ := q406
  have ne_a350_t407 : a350 ≠ t407 := Nat.ne_of_lt (Nat.lt_of_lt_of_le A_a350.lt le_t407)
  have ne_a399_t407 : a399 ≠ t407 := Nat.ne_of_lt (Nat.lt_of_lt_of_le E_a399.lt le_t407)
  have nw_t407 : h0.size ≤ t407 := Nat.le_trans K.1 le_t407
  replace A_a350 := A_a350.keep K405 (ninS ne_a350_a399 nin0)
  replace K := K.trans K405 (allS (P := fun x => x ∈ ([] : List Addr) ∨ h0.size ≤ x) (Or.inr nw_a399) all0)
  have E_a399 := nw_E; have F_a399_coder := nw_C; have F_a399_value := nw_V; have A_t407 := nw_A; clear nw_E nw_C nw_V nw_A
  show own_Go Z EL n0 p e below s _ _ _ (T401.setTop (mkF m 96 _ [(.ref a399)]))
  refine own_callS (pc' := 99) w402 (own_w26 hw) (own_w27 hw) (own_w28 hw) (own_w29 hw) (by decide) (own_ct_trim4 l Z a0 hw EL hE n0 [] h403 (own_old w402) a399 t407 kb408 z5 fm ch_357 ch_368 ch_379 ch_390 E_a399 F_a399_coder F_a399_value A_t407 S_COMPACT_STRINGS (P5) S_SIOOBE_FORMATTER (hfm) (hE151) (p25_chr_0) (p39_chr_0) (p53_chr_0) (p68_chr_0)) all0 (argsL := [(.ref a399)]) (rest := []) rfl rfl own_pd15 rfl own_d18_96 rfl (by decide) (W := 0) rfl (by decide) (by decide) (by decide) fun T409 h411 v412 ms413 w410 q414 => ?_
  obtain ⟨K421, r_415, t2_416, kA_417, N2_418, vs2_419, ds_420, rfl, rfl, nw_E_r_415, nw_F_r_415_coder, nw_F_r_415_value, nw_A_t2_416, p96_trim4_0, p96_trim4_1, p96_trim4_2, p96_trim4_3⟩ := q414
  replace A_a350 := A_a350.keep K421 nin0
  replace E_a399 := E_a399.keep K421
  replace F_a399_coder := F_a399_coder.keep K421 nin0
  replace F_a399_value := F_a399_value.keep K421 nin0
  replace A_t407 := A_t407.keep K421 nin0
  replace K := K.trans K421 all0
  have E_r_415 := nw_E_r_415; clear nw_E_r_415
  have F_r_415_coder := nw_F_r_415_coder; clear nw_F_r_415_coder
  have F_r_415_value := nw_F_r_415_value; clear nw_F_r_415_value
  have A_t2_416 := nw_A_t2_416; clear nw_A_t2_416
  show own_Go Z EL n0 p e below s _ _ _ (T409.setTop (mkF m 99 _ [(.ref r_415)]))
  refine own_astore (pc' := 101) w410 own_d18_99 rfl (Ls' := #[.val (.int i0), .val (.int i1), .val (.int i2), .val (.int i3), .val (.int i4), .val (.int i5), .val (.int (4 : Int32)), .val (.ref a350), .val (.ref r_415), .unset, .unset, .unset, .unset, .unset, .unset, .unset, .unset]) rfl rfl ?_
  refine own_aload (pc' := 103) w410 own_d18_101 rfl rfl rfl ?_
  refine own_ifnonnullY w410 own_d18_103 (by decide) (pc' := 108) rfl ?_
  refine own_aload (pc' := 110) w410 own_d18_108 rfl rfl rfl ?_
  refine own_iconst (pc' := 111) w410 own_d18_110 (x := (0 : Int32)) rfl rfl ?_
  refine own_callS (pc' := 114) w410 (own_w55 hw) (own_w56 hw) (own_w57 hw) (own_w58 hw) (by decide) (own_ct_nsIn l Z a0 hw EL hE n0 [] h411 (own_old w410) a350 (0 : Int32) k_a350 (4 : Int32) [(.int ch_357), (.int ch_368), (.int ch_379), (.int ch_390)] ch_357 A_a350 (by decide) (rfl)) all0 (argsL := [(.ref a350), (.int (0 : Int32))]) (rest := []) rfl rfl own_pd16 rfl own_d18_111 rfl (by decide) (W := 0) rfl (by decide) (by decide) (by decide) fun T422 h424 v425 ms426 w423 q427 => ?_
  obtain ⟨rfl, rfl, rfl⟩ := q427
  show own_Go Z EL n0 p e below s _ _ _ (T422.setTop (mkF m 114 _ [(.int (own_sv ch_357))]))
  refine own_istore (pc' := 116) w423 own_d18_114 (Ls' := #[.val (.int i0), .val (.int i1), .val (.int i2), .val (.int i3), .val (.int i4), .val (.int i5), .val (.int (4 : Int32)), .val (.ref a350), .val (.ref r_415), .val (.int (own_sv ch_357)), .unset, .unset, .unset, .unset, .unset, .unset, .unset]) rfl rfl ?_
  refine own_aload (pc' := 118) w423 own_d18_116 rfl rfl rfl ?_
  refine own_iconst (pc' := 119) w423 own_d18_118 (x := (1 : Int32)) rfl rfl ?_
  refine own_callS (pc' := 122) w423 (own_w55 hw) (own_w56 hw) (own_w57 hw) (own_w58 hw) (by decide) (own_ct_nsIn l Z a0 hw EL hE n0 [] h411 (own_old w423) a350 (1 : Int32) k_a350 (4 : Int32) [(.int ch_357), (.int ch_368), (.int ch_379), (.int ch_390)] ch_368 A_a350 (by decide) (rfl)) all0 (argsL := [(.ref a350), (.int (1 : Int32))]) (rest := []) rfl rfl own_pd16 rfl own_d18_119 rfl (by decide) (W := 0) rfl (by decide) (by decide) (by decide) fun T428 h430 v431 ms432 w429 q433 => ?_
  obtain ⟨rfl, rfl, rfl⟩ := q433
  show own_Go Z EL n0 p e below s _ _ _ (T428.setTop (mkF m 122 _ [(.int (own_sv ch_368))]))
  refine own_istore (pc' := 124) w429 own_d18_122 (Ls' := #[.val (.int i0), .val (.int i1), .val (.int i2), .val (.int i3), .val (.int i4), .val (.int i5), .val (.int (4 : Int32)), .val (.ref a350), .val (.ref r_415), .val (.int (own_sv ch_357)), .val (.int (own_sv ch_368)), .unset, .unset, .unset, .unset, .unset, .unset]) rfl rfl ?_
  refine own_aload (pc' := 126) w429 own_d18_124 rfl rfl rfl ?_
  refine own_iconst (pc' := 127) w429 own_d18_126 (x := (2 : Int32)) rfl rfl ?_
  refine own_callS (pc' := 130) w429 (own_w55 hw) (own_w56 hw) (own_w57 hw) (own_w58 hw) (by decide) (own_ct_nsIn l Z a0 hw EL hE n0 [] h411 (own_old w429) a350 (2 : Int32) k_a350 (4 : Int32) [(.int ch_357), (.int ch_368), (.int ch_379), (.int ch_390)] ch_379 A_a350 (by decide) (rfl)) all0 (argsL := [(.ref a350), (.int (2 : Int32))]) (rest := []) rfl rfl own_pd16 rfl own_d18_127 rfl (by decide) (W := 0) rfl (by decide) (by decide) (by decide) fun T434 h436 v437 ms438 w435 q439 => ?_
  obtain ⟨rfl, rfl, rfl⟩ := q439
  show own_Go Z EL n0 p e below s _ _ _ (T434.setTop (mkF m 130 _ [(.int (own_sv ch_379))]))
  refine own_istore (pc' := 132) w435 own_d18_130 (Ls' := #[.val (.int i0), .val (.int i1), .val (.int i2), .val (.int i3), .val (.int i4), .val (.int i5), .val (.int (4 : Int32)), .val (.ref a350), .val (.ref r_415), .val (.int (own_sv ch_357)), .val (.int (own_sv ch_368)), .val (.int (own_sv ch_379)), .unset, .unset, .unset, .unset, .unset]) rfl rfl ?_
  refine own_aload (pc' := 134) w435 own_d18_132 rfl rfl rfl ?_
  refine own_iconst (pc' := 135) w435 own_d18_134 (x := (3 : Int32)) rfl rfl ?_
  refine own_callS (pc' := 138) w435 (own_w55 hw) (own_w56 hw) (own_w57 hw) (own_w58 hw) (by decide) (own_ct_nsIn l Z a0 hw EL hE n0 [] h411 (own_old w435) a350 (3 : Int32) k_a350 (4 : Int32) [(.int ch_357), (.int ch_368), (.int ch_379), (.int ch_390)] ch_390 A_a350 (by decide) (rfl)) all0 (argsL := [(.ref a350), (.int (3 : Int32))]) (rest := []) rfl rfl own_pd16 rfl own_d18_135 rfl (by decide) (W := 0) rfl (by decide) (by decide) (by decide) fun T440 h442 v443 ms444 w441 q445 => ?_
  obtain ⟨rfl, rfl, rfl⟩ := q445
  show own_Go Z EL n0 p e below s _ _ _ (T440.setTop (mkF m 138 _ [(.int (own_sv ch_390))]))
  refine own_istore (pc' := 140) w441 own_d18_138 (Ls' := #[.val (.int i0), .val (.int i1), .val (.int i2), .val (.int i3), .val (.int i4), .val (.int i5), .val (.int (4 : Int32)), .val (.ref a350), .val (.ref r_415), .val (.int (own_sv ch_357)), .val (.int (own_sv ch_368)), .val (.int (own_sv ch_379)), .val (.int (own_sv ch_390)), .unset, .unset, .unset, .unset]) rfl rfl ?_
  refine own_aload (pc' := 142) w441 own_d18_140 rfl rfl rfl ?_
  refine own_iconst (pc' := 143) w441 own_d18_142 (x := (4 : Int32)) rfl rfl ?_
  refine own_callS (pc' := 146) w441 (own_w55 hw) (own_w56 hw) (own_w57 hw) (own_w58 hw) (by decide) (own_ct_nsOut l Z a0 hw EL hE n0 [] h411 (own_old w441) a350 (4 : Int32) k_a350 (4 : Int32) [(.int ch_357), (.int ch_368), (.int ch_379), (.int ch_390)] A_a350 (by decide)) all0 (argsL := [(.ref a350), (.int (4 : Int32))]) (rest := []) rfl rfl own_pd16 rfl own_d18_143 rfl (by decide) (W := 0) rfl (by decide) (by decide) (by decide) fun T446 h448 v449 ms450 w447 q451 => ?_
  obtain ⟨rfl, rfl, rfl⟩ := q451
  show own_Go Z EL n0 p e below s _ _ _ (T446.setTop (mkF m 146 _ [(.int (0 : Int32))]))
  refine own_istore (pc' := 148) w447 own_d18_146 (Ls' := #[.val (.int i0), .val (.int i1), .val (.int i2), .val (.int i3), .val (.int i4), .val (.int i5), .val (.int (4 : Int32)), .val (.ref a350), .val (.ref r_415), .val (.int (own_sv ch_357)), .val (.int (own_sv ch_368)), .val (.int (own_sv ch_379)), .val (.int (own_sv ch_390)), .val (.int (0 : Int32)), .unset, .unset, .unset]) rfl rfl ?_
  refine own_iload (pc' := 150) w447 own_d18_148 rfl rfl ?_
  refine own_if (pc' := 153) w447 own_d18_150 rfl (by decide) (pcY := 157) rfl (fun (hb150 : (own_sv ch_357) = (0 : Int32)) => ?_) (fun (hb150 : ¬ (own_sv ch_357) = (0 : Int32)) => ?_)
  ·
   refine own_iload (pc' := 159) w447 own_d18_157 rfl rfl ?_
   refine own_if (pc' := 162) w447 own_d18_159 rfl (by decide) (pcY := 166) rfl (fun (hb159 : (own_sv ch_368) = (0 : Int32)) => ?_) (fun (hb159 : ¬ (own_sv ch_368) = (0 : Int32)) => ?_)
   ·
    refine own_iload (pc' := 168) w447 own_d18_166 rfl rfl ?_
    refine own_if (pc' := 171) w447 own_d18_168 rfl (by decide) (pcY := 175) rfl (fun (hb168 : (own_sv ch_379) = (0 : Int32)) => ?_) (fun (hb168 : ¬ (own_sv ch_379) = (0 : Int32)) => ?_)
    ·
     refine own_iload (pc' := 177) w447 own_d18_175 rfl rfl ?_
     refine own_if (pc' := 180) w447 own_d18_177 rfl (by decide) (pcY := 184) rfl (fun (hb177 : (own_sv ch_390) = (0 : Int32)) => ?_) (fun (hb177 : ¬ (own_sv ch_390) = (0 : Int32)) => ?_)
     ·
      refine own_iload (pc' := 186) w447 own_d18_184 rfl rfl ?_
      refine own_if (pc' := 189) w447 own_d18_186 rfl (by decide) (pcY := 193) rfl (fun (hb186 : (0 : Int32) = (0 : Int32)) => ?_) (fun (hb186 : ¬ (0 : Int32) = (0 : Int32)) => absurd hb186 (by decide))
      refine own_iload (pc' := 195) w447 own_d18_193 rfl rfl ?_
      refine own_istore (pc' := 197) w447 own_d18_195 (Ls' := #[.val (.int i0), .val (.int i1), .val (.int i2), .val (.int i3), .val (.int i4), .val (.int i5), .val (.int (4 : Int32)), .val (.ref a350), .val (.ref r_415), .val (.int (own_sv ch_357)), .val (.int (own_sv ch_368)), .val (.int (own_sv ch_379)), .val (.int (own_sv ch_390)), .val (.int (0 : Int32)), .val (.int (4 : Int32)), .unset, .unset]) rfl rfl ?_
      refine own_iload (pc' := 199) w447 own_d18_197 rfl rfl ?_
      refine own_if (pc' := 202) w447 own_d18_199 rfl (by decide) (pcY := 206) rfl (fun (hb199 : (0 : Int32) = (0 : Int32)) => ?_) (fun (hb199 : ¬ (0 : Int32) = (0 : Int32)) => absurd hb199 (by decide))
      refine own_iload (pc' := 208) w447 own_d18_206 rfl rfl ?_
      refine own_if (pc' := 211) w447 own_d18_208 rfl (by decide) (pcY := 215) rfl (fun (hb208 : (own_sv ch_390) = (0 : Int32)) => ?_) (fun (hb208 : ¬ (own_sv ch_390) = (0 : Int32)) => absurd hb177 hb208)
      refine own_iload (pc' := 217) w447 own_d18_215 rfl rfl ?_
      refine own_if (pc' := 220) w447 own_d18_217 rfl (by decide) (pcY := 224) rfl (fun (hb217 : (own_sv ch_379) = (0 : Int32)) => ?_) (fun (hb217 : ¬ (own_sv ch_379) = (0 : Int32)) => absurd hb168 hb217)
      refine own_iload (pc' := 226) w447 own_d18_224 rfl rfl ?_
      refine own_if (pc' := 229) w447 own_d18_226 rfl (by decide) (pcY := 233) rfl (fun (hb226 : (own_sv ch_368) = (0 : Int32)) => ?_) (fun (hb226 : ¬ (own_sv ch_368) = (0 : Int32)) => absurd hb159 hb226)
      refine own_iload (pc' := 235) w447 own_d18_233 rfl rfl ?_
      refine own_if (pc' := 238) w447 own_d18_235 rfl (by decide) (pcY := 242) rfl (fun (hb235 : (own_sv ch_357) = (0 : Int32)) => ?_) (fun (hb235 : ¬ (own_sv ch_357) = (0 : Int32)) => absurd hb150 hb235)
      refine own_iload (pc' := 244) w447 own_d18_242 rfl rfl ?_
      refine own_istore (pc' := 246) w447 own_d18_244 (Ls' := #[.val (.int i0), .val (.int i1), .val (.int i2), .val (.int i3), .val (.int i4), .val (.int i5), .val (.int (4 : Int32)), .val (.ref a350), .val (.ref r_415), .val (.int (own_sv ch_357)), .val (.int (own_sv ch_368)), .val (.int (own_sv ch_379)), .val (.int (own_sv ch_390)), .val (.int (0 : Int32)), .val (.int (4 : Int32)), .val (.int (4 : Int32)), .unset]) rfl rfl ?_
      refine own_iload (pc' := 248) w447 own_d18_246 rfl rfl ?_
      refine own_iload (pc' := 250) w447 own_d18_248 rfl rfl ?_
      refine own_isub (pc' := 251) w447 own_d18_250 (z := (0 : Int32)) (by decide) rfl ?_
      refine own_istore (pc' := 253) w447 own_d18_251 (Ls' := #[.val (.int i0), .val (.int i1), .val (.int i2), .val (.int i3), .val (.int i4), .val (.int i5), .val (.int (4 : Int32)), .val (.ref a350), .val (.ref r_415), .val (.int (own_sv ch_357)), .val (.int (own_sv ch_368)), .val (.int (own_sv ch_379)), .val (.int (own_sv ch_390)), .val (.int (0 : Int32)), .val (.int (4 : Int32)), .val (.int (4 : Int32)), .val (.int (0 : Int32))]) rfl rfl ?_
      have k_ch_357 := own_ns1 hb150
      have k_ch_368 := own_ns1 hb159
      have k_ch_379 := own_ns1 hb168
      have k_ch_390 := own_ns1 hb177
      have hds : ds_420 = ([] : List Int32) := p96_trim4_3.trans (by simp [own_trim, List.dropWhile, k_ch_357, k_ch_368, k_ch_379, k_ch_390])
      subst hds
      exact own_tl_law l Z a0 hw EL hE n0 h0 i0 i1 i2 i3 i4 i5 z5 fm (4 : Int32) a350 r_415 (own_sv ch_357) (own_sv ch_368) (own_sv ch_379) (own_sv ch_390) (0 : Int32) (4 : Int32) (4 : Int32) (0 : Int32) t2_416 kA_417 N2_418 vs2_419 ([] : List Int32) k_a350 (4 : Int32) [(.int ch_357), (.int ch_368), (.int ch_379), (.int ch_390)] (own_more w447 (by decide) (by decide) all0) K S_COMPACT_STRINGS P5 S_SIOOBE_FORMATTER hfm hE151 hEL E_r_415 F_r_415_coder F_r_415_value A_t2_416 p96_trim4_0 p96_trim4_1 p96_trim4_2 A_a350 rfl (fun h => absurd h (by decide)) (fun h => absurd h (by decide)) (fun h => absurd h (by decide)) (fun h => absurd h (by decide)) (fun h => absurd h (by decide))
     ·
      refine own_iconst (pc' := 181) w447 own_d18_180 (x := (3 : Int32)) rfl rfl ?_
      refine own_goto w447 own_d18_181 (by decide) (pc' := 195) rfl ?_
      refine own_istore (pc' := 197) w447 own_d18_195 (Ls' := #[.val (.int i0), .val (.int i1), .val (.int i2), .val (.int i3), .val (.int i4), .val (.int i5), .val (.int (4 : Int32)), .val (.ref a350), .val (.ref r_415), .val (.int (own_sv ch_357)), .val (.int (own_sv ch_368)), .val (.int (own_sv ch_379)), .val (.int (own_sv ch_390)), .val (.int (0 : Int32)), .val (.int (3 : Int32)), .unset, .unset]) rfl rfl ?_
      refine own_iload (pc' := 199) w447 own_d18_197 rfl rfl ?_
      refine own_if (pc' := 202) w447 own_d18_199 rfl (by decide) (pcY := 206) rfl (fun (hb199 : (0 : Int32) = (0 : Int32)) => ?_) (fun (hb199 : ¬ (0 : Int32) = (0 : Int32)) => absurd hb199 (by decide))
      refine own_iload (pc' := 208) w447 own_d18_206 rfl rfl ?_
      refine own_if (pc' := 211) w447 own_d18_208 rfl (by decide) (pcY := 215) rfl (fun (hb208 : (own_sv ch_390) = (0 : Int32)) => absurd hb208 hb177) (fun (hb208 : ¬ (own_sv ch_390) = (0 : Int32)) => ?_)
      refine own_iconst (pc' := 212) w447 own_d18_211 (x := (4 : Int32)) rfl rfl ?_
      refine own_goto w447 own_d18_212 (by decide) (pc' := 244) rfl ?_
      refine own_istore (pc' := 246) w447 own_d18_244 (Ls' := #[.val (.int i0), .val (.int i1), .val (.int i2), .val (.int i3), .val (.int i4), .val (.int i5), .val (.int (4 : Int32)), .val (.ref a350), .val (.ref r_415), .val (.int (own_sv ch_357)), .val (.int (own_sv ch_368)), .val (.int (own_sv ch_379)), .val (.int (own_sv ch_390)), .val (.int (0 : Int32)), .val (.int (3 : Int32)), .val (.int (4 : Int32)), .unset]) rfl rfl ?_
      refine own_iload (pc' := 248) w447 own_d18_246 rfl rfl ?_
      refine own_iload (pc' := 250) w447 own_d18_248 rfl rfl ?_
      refine own_isub (pc' := 251) w447 own_d18_250 (z := (1 : Int32)) (by decide) rfl ?_
      refine own_istore (pc' := 253) w447 own_d18_251 (Ls' := #[.val (.int i0), .val (.int i1), .val (.int i2), .val (.int i3), .val (.int i4), .val (.int i5), .val (.int (4 : Int32)), .val (.ref a350), .val (.ref r_415), .val (.int (own_sv ch_357)), .val (.int (own_sv ch_368)), .val (.int (own_sv ch_379)), .val (.int (own_sv ch_390)), .val (.int (0 : Int32)), .val (.int (3 : Int32)), .val (.int (4 : Int32)), .val (.int (1 : Int32))]) rfl rfl ?_
      have k_ch_357 := own_ns1 hb150
      have k_ch_368 := own_ns1 hb159
      have k_ch_379 := own_ns1 hb168
      have k_ch_390 := own_ns0 hb177
      have hds : ds_420 = ([ch_390] : List Int32) := p96_trim4_3.trans (by simp [own_trim, List.dropWhile, k_ch_357, k_ch_368, k_ch_379, k_ch_390])
      subst hds
      exact own_tl_law l Z a0 hw EL hE n0 h0 i0 i1 i2 i3 i4 i5 z5 fm (4 : Int32) a350 r_415 (own_sv ch_357) (own_sv ch_368) (own_sv ch_379) (own_sv ch_390) (0 : Int32) (3 : Int32) (4 : Int32) (1 : Int32) t2_416 kA_417 N2_418 vs2_419 ([ch_390] : List Int32) k_a350 (4 : Int32) [(.int ch_357), (.int ch_368), (.int ch_379), (.int ch_390)] (own_more w447 (by decide) (by decide) all0) K S_COMPACT_STRINGS P5 S_SIOOBE_FORMATTER hfm hE151 hEL E_r_415 F_r_415_coder F_r_415_value A_t2_416 p96_trim4_0 p96_trim4_1 p96_trim4_2 A_a350 rfl (fun _ => ⟨Nat.le_of_ble_eq_true rfl, by decide, rfl⟩) (fun h => absurd h (by decide)) (fun h => absurd h (by decide)) (fun h => absurd h (by decide)) (fun h => absurd h (by decide))
    ·
     refine own_iconst (pc' := 172) w447 own_d18_171 (x := (2 : Int32)) rfl rfl ?_
     refine own_goto w447 own_d18_172 (by decide) (pc' := 195) rfl ?_
     refine own_istore (pc' := 197) w447 own_d18_195 (Ls' := #[.val (.int i0), .val (.int i1), .val (.int i2), .val (.int i3), .val (.int i4), .val (.int i5), .val (.int (4 : Int32)), .val (.ref a350), .val (.ref r_415), .val (.int (own_sv ch_357)), .val (.int (own_sv ch_368)), .val (.int (own_sv ch_379)), .val (.int (own_sv ch_390)), .val (.int (0 : Int32)), .val (.int (2 : Int32)), .unset, .unset]) rfl rfl ?_
     refine own_iload (pc' := 199) w447 own_d18_197 rfl rfl ?_
     refine own_if (pc' := 202) w447 own_d18_199 rfl (by decide) (pcY := 206) rfl (fun (hb199 : (0 : Int32) = (0 : Int32)) => ?_) (fun (hb199 : ¬ (0 : Int32) = (0 : Int32)) => absurd hb199 (by decide))
     refine own_iload (pc' := 208) w447 own_d18_206 rfl rfl ?_
     refine own_if (pc' := 211) w447 own_d18_208 rfl (by decide) (pcY := 215) rfl (fun (hb208 : (own_sv ch_390) = (0 : Int32)) => ?_) (fun (hb208 : ¬ (own_sv ch_390) = (0 : Int32)) => ?_)
     ·
      refine own_iload (pc' := 217) w447 own_d18_215 rfl rfl ?_
      refine own_if (pc' := 220) w447 own_d18_217 rfl (by decide) (pcY := 224) rfl (fun (hb217 : (own_sv ch_379) = (0 : Int32)) => absurd hb217 hb168) (fun (hb217 : ¬ (own_sv ch_379) = (0 : Int32)) => ?_)
      refine own_iconst (pc' := 221) w447 own_d18_220 (x := (3 : Int32)) rfl rfl ?_
      refine own_goto w447 own_d18_221 (by decide) (pc' := 244) rfl ?_
      refine own_istore (pc' := 246) w447 own_d18_244 (Ls' := #[.val (.int i0), .val (.int i1), .val (.int i2), .val (.int i3), .val (.int i4), .val (.int i5), .val (.int (4 : Int32)), .val (.ref a350), .val (.ref r_415), .val (.int (own_sv ch_357)), .val (.int (own_sv ch_368)), .val (.int (own_sv ch_379)), .val (.int (own_sv ch_390)), .val (.int (0 : Int32)), .val (.int (2 : Int32)), .val (.int (3 : Int32)), .unset]) rfl rfl ?_
      refine own_iload (pc' := 248) w447 own_d18_246 rfl rfl ?_
      refine own_iload (pc' := 250) w447 own_d18_248 rfl rfl ?_
      refine own_isub (pc' := 251) w447 own_d18_250 (z := (1 : Int32)) (by decide) rfl ?_
      refine own_istore (pc' := 253) w447 own_d18_251 (Ls' := #[.val (.int i0), .val (.int i1), .val (.int i2), .val (.int i3), .val (.int i4), .val (.int i5), .val (.int (4 : Int32)), .val (.ref a350), .val (.ref r_415), .val (.int (own_sv ch_357)), .val (.int (own_sv ch_368)), .val (.int (own_sv ch_379)), .val (.int (own_sv ch_390)), .val (.int (0 : Int32)), .val (.int (2 : Int32)), .val (.int (3 : Int32)), .val (.int (1 : Int32))]) rfl rfl ?_
      have k_ch_357 := own_ns1 hb150
      have k_ch_368 := own_ns1 hb159
      have k_ch_379 := own_ns0 hb168
      have k_ch_390 := own_ns1 hb208
      have hds : ds_420 = ([ch_379] : List Int32) := p96_trim4_3.trans (by simp [own_trim, List.dropWhile, k_ch_357, k_ch_368, k_ch_379, k_ch_390])
      subst hds
      exact own_tl_law l Z a0 hw EL hE n0 h0 i0 i1 i2 i3 i4 i5 z5 fm (4 : Int32) a350 r_415 (own_sv ch_357) (own_sv ch_368) (own_sv ch_379) (own_sv ch_390) (0 : Int32) (2 : Int32) (3 : Int32) (1 : Int32) t2_416 kA_417 N2_418 vs2_419 ([ch_379] : List Int32) k_a350 (4 : Int32) [(.int ch_357), (.int ch_368), (.int ch_379), (.int ch_390)] (own_more w447 (by decide) (by decide) all0) K S_COMPACT_STRINGS P5 S_SIOOBE_FORMATTER hfm hE151 hEL E_r_415 F_r_415_coder F_r_415_value A_t2_416 p96_trim4_0 p96_trim4_1 p96_trim4_2 A_a350 rfl (fun _ => ⟨Nat.le_of_ble_eq_true rfl, by decide, rfl⟩) (fun h => absurd h (by decide)) (fun h => absurd h (by decide)) (fun h => absurd h (by decide)) (fun h => absurd h (by decide))
     ·
      refine own_iconst (pc' := 212) w447 own_d18_211 (x := (4 : Int32)) rfl rfl ?_
      refine own_goto w447 own_d18_212 (by decide) (pc' := 244) rfl ?_
      refine own_istore (pc' := 246) w447 own_d18_244 (Ls' := #[.val (.int i0), .val (.int i1), .val (.int i2), .val (.int i3), .val (.int i4), .val (.int i5), .val (.int (4 : Int32)), .val (.ref a350), .val (.ref r_415), .val (.int (own_sv ch_357)), .val (.int (own_sv ch_368)), .val (.int (own_sv ch_379)), .val (.int (own_sv ch_390)), .val (.int (0 : Int32)), .val (.int (2 : Int32)), .val (.int (4 : Int32)), .unset]) rfl rfl ?_
      refine own_iload (pc' := 248) w447 own_d18_246 rfl rfl ?_
      refine own_iload (pc' := 250) w447 own_d18_248 rfl rfl ?_
      refine own_isub (pc' := 251) w447 own_d18_250 (z := (2 : Int32)) (by decide) rfl ?_
      refine own_istore (pc' := 253) w447 own_d18_251 (Ls' := #[.val (.int i0), .val (.int i1), .val (.int i2), .val (.int i3), .val (.int i4), .val (.int i5), .val (.int (4 : Int32)), .val (.ref a350), .val (.ref r_415), .val (.int (own_sv ch_357)), .val (.int (own_sv ch_368)), .val (.int (own_sv ch_379)), .val (.int (own_sv ch_390)), .val (.int (0 : Int32)), .val (.int (2 : Int32)), .val (.int (4 : Int32)), .val (.int (2 : Int32))]) rfl rfl ?_
      have k_ch_357 := own_ns1 hb150
      have k_ch_368 := own_ns1 hb159
      have k_ch_379 := own_ns0 hb168
      have k_ch_390 := own_ns0 hb208
      have hds : ds_420 = ([ch_379, ch_390] : List Int32) := p96_trim4_3.trans (by simp [own_trim, List.dropWhile, k_ch_357, k_ch_368, k_ch_379, k_ch_390])
      subst hds
      exact own_tl_law l Z a0 hw EL hE n0 h0 i0 i1 i2 i3 i4 i5 z5 fm (4 : Int32) a350 r_415 (own_sv ch_357) (own_sv ch_368) (own_sv ch_379) (own_sv ch_390) (0 : Int32) (2 : Int32) (4 : Int32) (2 : Int32) t2_416 kA_417 N2_418 vs2_419 ([ch_379, ch_390] : List Int32) k_a350 (4 : Int32) [(.int ch_357), (.int ch_368), (.int ch_379), (.int ch_390)] (own_more w447 (by decide) (by decide) all0) K S_COMPACT_STRINGS P5 S_SIOOBE_FORMATTER hfm hE151 hEL E_r_415 F_r_415_coder F_r_415_value A_t2_416 p96_trim4_0 p96_trim4_1 p96_trim4_2 A_a350 rfl (fun _ => ⟨Nat.le_of_ble_eq_true rfl, by decide, rfl⟩) (fun _ => ⟨Nat.le_of_ble_eq_true rfl, by decide, rfl⟩) (fun h => absurd h (by decide)) (fun h => absurd h (by decide)) (fun h => absurd h (by decide))
   ·
    refine own_iconst (pc' := 163) w447 own_d18_162 (x := (1 : Int32)) rfl rfl ?_
    refine own_goto w447 own_d18_163 (by decide) (pc' := 195) rfl ?_
    refine own_istore (pc' := 197) w447 own_d18_195 (Ls' := #[.val (.int i0), .val (.int i1), .val (.int i2), .val (.int i3), .val (.int i4), .val (.int i5), .val (.int (4 : Int32)), .val (.ref a350), .val (.ref r_415), .val (.int (own_sv ch_357)), .val (.int (own_sv ch_368)), .val (.int (own_sv ch_379)), .val (.int (own_sv ch_390)), .val (.int (0 : Int32)), .val (.int (1 : Int32)), .unset, .unset]) rfl rfl ?_
    refine own_iload (pc' := 199) w447 own_d18_197 rfl rfl ?_
    refine own_if (pc' := 202) w447 own_d18_199 rfl (by decide) (pcY := 206) rfl (fun (hb199 : (0 : Int32) = (0 : Int32)) => ?_) (fun (hb199 : ¬ (0 : Int32) = (0 : Int32)) => absurd hb199 (by decide))
    refine own_iload (pc' := 208) w447 own_d18_206 rfl rfl ?_
    refine own_if (pc' := 211) w447 own_d18_208 rfl (by decide) (pcY := 215) rfl (fun (hb208 : (own_sv ch_390) = (0 : Int32)) => ?_) (fun (hb208 : ¬ (own_sv ch_390) = (0 : Int32)) => ?_)
    ·
     refine own_iload (pc' := 217) w447 own_d18_215 rfl rfl ?_
     refine own_if (pc' := 220) w447 own_d18_217 rfl (by decide) (pcY := 224) rfl (fun (hb217 : (own_sv ch_379) = (0 : Int32)) => ?_) (fun (hb217 : ¬ (own_sv ch_379) = (0 : Int32)) => ?_)
     ·
      refine own_iload (pc' := 226) w447 own_d18_224 rfl rfl ?_
      refine own_if (pc' := 229) w447 own_d18_226 rfl (by decide) (pcY := 233) rfl (fun (hb226 : (own_sv ch_368) = (0 : Int32)) => absurd hb226 hb159) (fun (hb226 : ¬ (own_sv ch_368) = (0 : Int32)) => ?_)
      refine own_iconst (pc' := 230) w447 own_d18_229 (x := (2 : Int32)) rfl rfl ?_
      refine own_goto w447 own_d18_230 (by decide) (pc' := 244) rfl ?_
      refine own_istore (pc' := 246) w447 own_d18_244 (Ls' := #[.val (.int i0), .val (.int i1), .val (.int i2), .val (.int i3), .val (.int i4), .val (.int i5), .val (.int (4 : Int32)), .val (.ref a350), .val (.ref r_415), .val (.int (own_sv ch_357)), .val (.int (own_sv ch_368)), .val (.int (own_sv ch_379)), .val (.int (own_sv ch_390)), .val (.int (0 : Int32)), .val (.int (1 : Int32)), .val (.int (2 : Int32)), .unset]) rfl rfl ?_
      refine own_iload (pc' := 248) w447 own_d18_246 rfl rfl ?_
      refine own_iload (pc' := 250) w447 own_d18_248 rfl rfl ?_
      refine own_isub (pc' := 251) w447 own_d18_250 (z := (1 : Int32)) (by decide) rfl ?_
      refine own_istore (pc' := 253) w447 own_d18_251 (Ls' := #[.val (.int i0), .val (.int i1), .val (.int i2), .val (.int i3), .val (.int i4), .val (.int i5), .val (.int (4 : Int32)), .val (.ref a350), .val (.ref r_415), .val (.int (own_sv ch_357)), .val (.int (own_sv ch_368)), .val (.int (own_sv ch_379)), .val (.int (own_sv ch_390)), .val (.int (0 : Int32)), .val (.int (1 : Int32)), .val (.int (2 : Int32)), .val (.int (1 : Int32))]) rfl rfl ?_
      have k_ch_357 := own_ns1 hb150
      have k_ch_368 := own_ns0 hb159
      have k_ch_390 := own_ns1 hb208
      have k_ch_379 := own_ns1 hb217
      have hds : ds_420 = ([ch_368] : List Int32) := p96_trim4_3.trans (by simp [own_trim, List.dropWhile, k_ch_357, k_ch_368, k_ch_390, k_ch_379])
      subst hds
      exact own_tl_law l Z a0 hw EL hE n0 h0 i0 i1 i2 i3 i4 i5 z5 fm (4 : Int32) a350 r_415 (own_sv ch_357) (own_sv ch_368) (own_sv ch_379) (own_sv ch_390) (0 : Int32) (1 : Int32) (2 : Int32) (1 : Int32) t2_416 kA_417 N2_418 vs2_419 ([ch_368] : List Int32) k_a350 (4 : Int32) [(.int ch_357), (.int ch_368), (.int ch_379), (.int ch_390)] (own_more w447 (by decide) (by decide) all0) K S_COMPACT_STRINGS P5 S_SIOOBE_FORMATTER hfm hE151 hEL E_r_415 F_r_415_coder F_r_415_value A_t2_416 p96_trim4_0 p96_trim4_1 p96_trim4_2 A_a350 rfl (fun _ => ⟨Nat.le_of_ble_eq_true rfl, by decide, rfl⟩) (fun h => absurd h (by decide)) (fun h => absurd h (by decide)) (fun h => absurd h (by decide)) (fun h => absurd h (by decide))
     ·
      refine own_iconst (pc' := 221) w447 own_d18_220 (x := (3 : Int32)) rfl rfl ?_
      refine own_goto w447 own_d18_221 (by decide) (pc' := 244) rfl ?_
      refine own_istore (pc' := 246) w447 own_d18_244 (Ls' := #[.val (.int i0), .val (.int i1), .val (.int i2), .val (.int i3), .val (.int i4), .val (.int i5), .val (.int (4 : Int32)), .val (.ref a350), .val (.ref r_415), .val (.int (own_sv ch_357)), .val (.int (own_sv ch_368)), .val (.int (own_sv ch_379)), .val (.int (own_sv ch_390)), .val (.int (0 : Int32)), .val (.int (1 : Int32)), .val (.int (3 : Int32)), .unset]) rfl rfl ?_
      refine own_iload (pc' := 248) w447 own_d18_246 rfl rfl ?_
      refine own_iload (pc' := 250) w447 own_d18_248 rfl rfl ?_
      refine own_isub (pc' := 251) w447 own_d18_250 (z := (2 : Int32)) (by decide) rfl ?_
      refine own_istore (pc' := 253) w447 own_d18_251 (Ls' := #[.val (.int i0), .val (.int i1), .val (.int i2), .val (.int i3), .val (.int i4), .val (.int i5), .val (.int (4 : Int32)), .val (.ref a350), .val (.ref r_415), .val (.int (own_sv ch_357)), .val (.int (own_sv ch_368)), .val (.int (own_sv ch_379)), .val (.int (own_sv ch_390)), .val (.int (0 : Int32)), .val (.int (1 : Int32)), .val (.int (3 : Int32)), .val (.int (2 : Int32))]) rfl rfl ?_
      have k_ch_357 := own_ns1 hb150
      have k_ch_368 := own_ns0 hb159
      have k_ch_390 := own_ns1 hb208
      have k_ch_379 := own_ns0 hb217
      have hds : ds_420 = ([ch_368, ch_379] : List Int32) := p96_trim4_3.trans (by simp [own_trim, List.dropWhile, k_ch_357, k_ch_368, k_ch_390, k_ch_379])
      subst hds
      exact own_tl_law l Z a0 hw EL hE n0 h0 i0 i1 i2 i3 i4 i5 z5 fm (4 : Int32) a350 r_415 (own_sv ch_357) (own_sv ch_368) (own_sv ch_379) (own_sv ch_390) (0 : Int32) (1 : Int32) (3 : Int32) (2 : Int32) t2_416 kA_417 N2_418 vs2_419 ([ch_368, ch_379] : List Int32) k_a350 (4 : Int32) [(.int ch_357), (.int ch_368), (.int ch_379), (.int ch_390)] (own_more w447 (by decide) (by decide) all0) K S_COMPACT_STRINGS P5 S_SIOOBE_FORMATTER hfm hE151 hEL E_r_415 F_r_415_coder F_r_415_value A_t2_416 p96_trim4_0 p96_trim4_1 p96_trim4_2 A_a350 rfl (fun _ => ⟨Nat.le_of_ble_eq_true rfl, by decide, rfl⟩) (fun _ => ⟨Nat.le_of_ble_eq_true rfl, by decide, rfl⟩) (fun h => absurd h (by decide)) (fun h => absurd h (by decide)) (fun h => absurd h (by decide))
    ·
     refine own_iconst (pc' := 212) w447 own_d18_211 (x := (4 : Int32)) rfl rfl ?_
     refine own_goto w447 own_d18_212 (by decide) (pc' := 244) rfl ?_
     refine own_istore (pc' := 246) w447 own_d18_244 (Ls' := #[.val (.int i0), .val (.int i1), .val (.int i2), .val (.int i3), .val (.int i4), .val (.int i5), .val (.int (4 : Int32)), .val (.ref a350), .val (.ref r_415), .val (.int (own_sv ch_357)), .val (.int (own_sv ch_368)), .val (.int (own_sv ch_379)), .val (.int (own_sv ch_390)), .val (.int (0 : Int32)), .val (.int (1 : Int32)), .val (.int (4 : Int32)), .unset]) rfl rfl ?_
     refine own_iload (pc' := 248) w447 own_d18_246 rfl rfl ?_
     refine own_iload (pc' := 250) w447 own_d18_248 rfl rfl ?_
     refine own_isub (pc' := 251) w447 own_d18_250 (z := (3 : Int32)) (by decide) rfl ?_
     refine own_istore (pc' := 253) w447 own_d18_251 (Ls' := #[.val (.int i0), .val (.int i1), .val (.int i2), .val (.int i3), .val (.int i4), .val (.int i5), .val (.int (4 : Int32)), .val (.ref a350), .val (.ref r_415), .val (.int (own_sv ch_357)), .val (.int (own_sv ch_368)), .val (.int (own_sv ch_379)), .val (.int (own_sv ch_390)), .val (.int (0 : Int32)), .val (.int (1 : Int32)), .val (.int (4 : Int32)), .val (.int (3 : Int32))]) rfl rfl ?_
     have k_ch_357 := own_ns1 hb150
     have k_ch_368 := own_ns0 hb159
     have k_ch_390 := own_ns0 hb208
     have hds : ds_420 = ([ch_368, ch_379, ch_390] : List Int32) := p96_trim4_3.trans (by simp [own_trim, List.dropWhile, k_ch_357, k_ch_368, k_ch_390])
     subst hds
     exact own_tl_law l Z a0 hw EL hE n0 h0 i0 i1 i2 i3 i4 i5 z5 fm (4 : Int32) a350 r_415 (own_sv ch_357) (own_sv ch_368) (own_sv ch_379) (own_sv ch_390) (0 : Int32) (1 : Int32) (4 : Int32) (3 : Int32) t2_416 kA_417 N2_418 vs2_419 ([ch_368, ch_379, ch_390] : List Int32) k_a350 (4 : Int32) [(.int ch_357), (.int ch_368), (.int ch_379), (.int ch_390)] (own_more w447 (by decide) (by decide) all0) K S_COMPACT_STRINGS P5 S_SIOOBE_FORMATTER hfm hE151 hEL E_r_415 F_r_415_coder F_r_415_value A_t2_416 p96_trim4_0 p96_trim4_1 p96_trim4_2 A_a350 rfl (fun _ => ⟨Nat.le_of_ble_eq_true rfl, by decide, rfl⟩) (fun _ => ⟨Nat.le_of_ble_eq_true rfl, by decide, rfl⟩) (fun _ => ⟨Nat.le_of_ble_eq_true rfl, by decide, rfl⟩) (fun h => absurd h (by decide)) (fun h => absurd h (by decide))
  ·
   refine own_iconst (pc' := 154) w447 own_d18_153 (x := (0 : Int32)) rfl rfl ?_
   refine own_goto w447 own_d18_154 (by decide) (pc' := 195) rfl ?_
   refine own_istore (pc' := 197) w447 own_d18_195 (Ls' := #[.val (.int i0), .val (.int i1), .val (.int i2), .val (.int i3), .val (.int i4), .val (.int i5), .val (.int (4 : Int32)), .val (.ref a350), .val (.ref r_415), .val (.int (own_sv ch_357)), .val (.int (own_sv ch_368)), .val (.int (own_sv ch_379)), .val (.int (own_sv ch_390)), .val (.int (0 : Int32)), .val (.int (0 : Int32)), .unset, .unset]) rfl rfl ?_
   refine own_iload (pc' := 199) w447 own_d18_197 rfl rfl ?_
   refine own_if (pc' := 202) w447 own_d18_199 rfl (by decide) (pcY := 206) rfl (fun (hb199 : (0 : Int32) = (0 : Int32)) => ?_) (fun (hb199 : ¬ (0 : Int32) = (0 : Int32)) => absurd hb199 (by decide))
   refine own_iload (pc' := 208) w447 own_d18_206 rfl rfl ?_
   refine own_if (pc' := 211) w447 own_d18_208 rfl (by decide) (pcY := 215) rfl (fun (hb208 : (own_sv ch_390) = (0 : Int32)) => ?_) (fun (hb208 : ¬ (own_sv ch_390) = (0 : Int32)) => ?_)
   ·
    refine own_iload (pc' := 217) w447 own_d18_215 rfl rfl ?_
    refine own_if (pc' := 220) w447 own_d18_217 rfl (by decide) (pcY := 224) rfl (fun (hb217 : (own_sv ch_379) = (0 : Int32)) => ?_) (fun (hb217 : ¬ (own_sv ch_379) = (0 : Int32)) => ?_)
    ·
     refine own_iload (pc' := 226) w447 own_d18_224 rfl rfl ?_
     refine own_if (pc' := 229) w447 own_d18_226 rfl (by decide) (pcY := 233) rfl (fun (hb226 : (own_sv ch_368) = (0 : Int32)) => ?_) (fun (hb226 : ¬ (own_sv ch_368) = (0 : Int32)) => ?_)
     ·
      refine own_iload (pc' := 235) w447 own_d18_233 rfl rfl ?_
      refine own_if (pc' := 238) w447 own_d18_235 rfl (by decide) (pcY := 242) rfl (fun (hb235 : (own_sv ch_357) = (0 : Int32)) => absurd hb235 hb150) (fun (hb235 : ¬ (own_sv ch_357) = (0 : Int32)) => ?_)
      refine own_iconst (pc' := 239) w447 own_d18_238 (x := (1 : Int32)) rfl rfl ?_
      refine own_goto w447 own_d18_239 (by decide) (pc' := 244) rfl ?_
      refine own_istore (pc' := 246) w447 own_d18_244 (Ls' := #[.val (.int i0), .val (.int i1), .val (.int i2), .val (.int i3), .val (.int i4), .val (.int i5), .val (.int (4 : Int32)), .val (.ref a350), .val (.ref r_415), .val (.int (own_sv ch_357)), .val (.int (own_sv ch_368)), .val (.int (own_sv ch_379)), .val (.int (own_sv ch_390)), .val (.int (0 : Int32)), .val (.int (0 : Int32)), .val (.int (1 : Int32)), .unset]) rfl rfl ?_
      refine own_iload (pc' := 248) w447 own_d18_246 rfl rfl ?_
      refine own_iload (pc' := 250) w447 own_d18_248 rfl rfl ?_
      refine own_isub (pc' := 251) w447 own_d18_250 (z := (1 : Int32)) (by decide) rfl ?_
      refine own_istore (pc' := 253) w447 own_d18_251 (Ls' := #[.val (.int i0), .val (.int i1), .val (.int i2), .val (.int i3), .val (.int i4), .val (.int i5), .val (.int (4 : Int32)), .val (.ref a350), .val (.ref r_415), .val (.int (own_sv ch_357)), .val (.int (own_sv ch_368)), .val (.int (own_sv ch_379)), .val (.int (own_sv ch_390)), .val (.int (0 : Int32)), .val (.int (0 : Int32)), .val (.int (1 : Int32)), .val (.int (1 : Int32))]) rfl rfl ?_
      have k_ch_357 := own_ns0 hb150
      have k_ch_390 := own_ns1 hb208
      have k_ch_379 := own_ns1 hb217
      have k_ch_368 := own_ns1 hb226
      have hds : ds_420 = ([ch_357] : List Int32) := p96_trim4_3.trans (by simp [own_trim, List.dropWhile, k_ch_357, k_ch_390, k_ch_379, k_ch_368])
      subst hds
      exact own_tl_law l Z a0 hw EL hE n0 h0 i0 i1 i2 i3 i4 i5 z5 fm (4 : Int32) a350 r_415 (own_sv ch_357) (own_sv ch_368) (own_sv ch_379) (own_sv ch_390) (0 : Int32) (0 : Int32) (1 : Int32) (1 : Int32) t2_416 kA_417 N2_418 vs2_419 ([ch_357] : List Int32) k_a350 (4 : Int32) [(.int ch_357), (.int ch_368), (.int ch_379), (.int ch_390)] (own_more w447 (by decide) (by decide) all0) K S_COMPACT_STRINGS P5 S_SIOOBE_FORMATTER hfm hE151 hEL E_r_415 F_r_415_coder F_r_415_value A_t2_416 p96_trim4_0 p96_trim4_1 p96_trim4_2 A_a350 rfl (fun _ => ⟨Nat.le_of_ble_eq_true rfl, by decide, rfl⟩) (fun h => absurd h (by decide)) (fun h => absurd h (by decide)) (fun h => absurd h (by decide)) (fun h => absurd h (by decide))
     ·
      refine own_iconst (pc' := 230) w447 own_d18_229 (x := (2 : Int32)) rfl rfl ?_
      refine own_goto w447 own_d18_230 (by decide) (pc' := 244) rfl ?_
      refine own_istore (pc' := 246) w447 own_d18_244 (Ls' := #[.val (.int i0), .val (.int i1), .val (.int i2), .val (.int i3), .val (.int i4), .val (.int i5), .val (.int (4 : Int32)), .val (.ref a350), .val (.ref r_415), .val (.int (own_sv ch_357)), .val (.int (own_sv ch_368)), .val (.int (own_sv ch_379)), .val (.int (own_sv ch_390)), .val (.int (0 : Int32)), .val (.int (0 : Int32)), .val (.int (2 : Int32)), .unset]) rfl rfl ?_
      refine own_iload (pc' := 248) w447 own_d18_246 rfl rfl ?_
      refine own_iload (pc' := 250) w447 own_d18_248 rfl rfl ?_
      refine own_isub (pc' := 251) w447 own_d18_250 (z := (2 : Int32)) (by decide) rfl ?_
      refine own_istore (pc' := 253) w447 own_d18_251 (Ls' := #[.val (.int i0), .val (.int i1), .val (.int i2), .val (.int i3), .val (.int i4), .val (.int i5), .val (.int (4 : Int32)), .val (.ref a350), .val (.ref r_415), .val (.int (own_sv ch_357)), .val (.int (own_sv ch_368)), .val (.int (own_sv ch_379)), .val (.int (own_sv ch_390)), .val (.int (0 : Int32)), .val (.int (0 : Int32)), .val (.int (2 : Int32)), .val (.int (2 : Int32))]) rfl rfl ?_
      have k_ch_357 := own_ns0 hb150
      have k_ch_390 := own_ns1 hb208
      have k_ch_379 := own_ns1 hb217
      have k_ch_368 := own_ns0 hb226
      have hds : ds_420 = ([ch_357, ch_368] : List Int32) := p96_trim4_3.trans (by simp [own_trim, List.dropWhile, k_ch_357, k_ch_390, k_ch_379, k_ch_368])
      subst hds
      exact own_tl_law l Z a0 hw EL hE n0 h0 i0 i1 i2 i3 i4 i5 z5 fm (4 : Int32) a350 r_415 (own_sv ch_357) (own_sv ch_368) (own_sv ch_379) (own_sv ch_390) (0 : Int32) (0 : Int32) (2 : Int32) (2 : Int32) t2_416 kA_417 N2_418 vs2_419 ([ch_357, ch_368] : List Int32) k_a350 (4 : Int32) [(.int ch_357), (.int ch_368), (.int ch_379), (.int ch_390)] (own_more w447 (by decide) (by decide) all0) K S_COMPACT_STRINGS P5 S_SIOOBE_FORMATTER hfm hE151 hEL E_r_415 F_r_415_coder F_r_415_value A_t2_416 p96_trim4_0 p96_trim4_1 p96_trim4_2 A_a350 rfl (fun _ => ⟨Nat.le_of_ble_eq_true rfl, by decide, rfl⟩) (fun _ => ⟨Nat.le_of_ble_eq_true rfl, by decide, rfl⟩) (fun h => absurd h (by decide)) (fun h => absurd h (by decide)) (fun h => absurd h (by decide))
    ·
     refine own_iconst (pc' := 221) w447 own_d18_220 (x := (3 : Int32)) rfl rfl ?_
     refine own_goto w447 own_d18_221 (by decide) (pc' := 244) rfl ?_
     refine own_istore (pc' := 246) w447 own_d18_244 (Ls' := #[.val (.int i0), .val (.int i1), .val (.int i2), .val (.int i3), .val (.int i4), .val (.int i5), .val (.int (4 : Int32)), .val (.ref a350), .val (.ref r_415), .val (.int (own_sv ch_357)), .val (.int (own_sv ch_368)), .val (.int (own_sv ch_379)), .val (.int (own_sv ch_390)), .val (.int (0 : Int32)), .val (.int (0 : Int32)), .val (.int (3 : Int32)), .unset]) rfl rfl ?_
     refine own_iload (pc' := 248) w447 own_d18_246 rfl rfl ?_
     refine own_iload (pc' := 250) w447 own_d18_248 rfl rfl ?_
     refine own_isub (pc' := 251) w447 own_d18_250 (z := (3 : Int32)) (by decide) rfl ?_
     refine own_istore (pc' := 253) w447 own_d18_251 (Ls' := #[.val (.int i0), .val (.int i1), .val (.int i2), .val (.int i3), .val (.int i4), .val (.int i5), .val (.int (4 : Int32)), .val (.ref a350), .val (.ref r_415), .val (.int (own_sv ch_357)), .val (.int (own_sv ch_368)), .val (.int (own_sv ch_379)), .val (.int (own_sv ch_390)), .val (.int (0 : Int32)), .val (.int (0 : Int32)), .val (.int (3 : Int32)), .val (.int (3 : Int32))]) rfl rfl ?_
     have k_ch_357 := own_ns0 hb150
     have k_ch_390 := own_ns1 hb208
     have k_ch_379 := own_ns0 hb217
     have hds : ds_420 = ([ch_357, ch_368, ch_379] : List Int32) := p96_trim4_3.trans (by simp [own_trim, List.dropWhile, k_ch_357, k_ch_390, k_ch_379])
     subst hds
     exact own_tl_law l Z a0 hw EL hE n0 h0 i0 i1 i2 i3 i4 i5 z5 fm (4 : Int32) a350 r_415 (own_sv ch_357) (own_sv ch_368) (own_sv ch_379) (own_sv ch_390) (0 : Int32) (0 : Int32) (3 : Int32) (3 : Int32) t2_416 kA_417 N2_418 vs2_419 ([ch_357, ch_368, ch_379] : List Int32) k_a350 (4 : Int32) [(.int ch_357), (.int ch_368), (.int ch_379), (.int ch_390)] (own_more w447 (by decide) (by decide) all0) K S_COMPACT_STRINGS P5 S_SIOOBE_FORMATTER hfm hE151 hEL E_r_415 F_r_415_coder F_r_415_value A_t2_416 p96_trim4_0 p96_trim4_1 p96_trim4_2 A_a350 rfl (fun _ => ⟨Nat.le_of_ble_eq_true rfl, by decide, rfl⟩) (fun _ => ⟨Nat.le_of_ble_eq_true rfl, by decide, rfl⟩) (fun _ => ⟨Nat.le_of_ble_eq_true rfl, by decide, rfl⟩) (fun h => absurd h (by decide)) (fun h => absurd h (by decide))
   ·
    refine own_iconst (pc' := 212) w447 own_d18_211 (x := (4 : Int32)) rfl rfl ?_
    refine own_goto w447 own_d18_212 (by decide) (pc' := 244) rfl ?_
    refine own_istore (pc' := 246) w447 own_d18_244 (Ls' := #[.val (.int i0), .val (.int i1), .val (.int i2), .val (.int i3), .val (.int i4), .val (.int i5), .val (.int (4 : Int32)), .val (.ref a350), .val (.ref r_415), .val (.int (own_sv ch_357)), .val (.int (own_sv ch_368)), .val (.int (own_sv ch_379)), .val (.int (own_sv ch_390)), .val (.int (0 : Int32)), .val (.int (0 : Int32)), .val (.int (4 : Int32)), .unset]) rfl rfl ?_
    refine own_iload (pc' := 248) w447 own_d18_246 rfl rfl ?_
    refine own_iload (pc' := 250) w447 own_d18_248 rfl rfl ?_
    refine own_isub (pc' := 251) w447 own_d18_250 (z := (4 : Int32)) (by decide) rfl ?_
    refine own_istore (pc' := 253) w447 own_d18_251 (Ls' := #[.val (.int i0), .val (.int i1), .val (.int i2), .val (.int i3), .val (.int i4), .val (.int i5), .val (.int (4 : Int32)), .val (.ref a350), .val (.ref r_415), .val (.int (own_sv ch_357)), .val (.int (own_sv ch_368)), .val (.int (own_sv ch_379)), .val (.int (own_sv ch_390)), .val (.int (0 : Int32)), .val (.int (0 : Int32)), .val (.int (4 : Int32)), .val (.int (4 : Int32))]) rfl rfl ?_
    have k_ch_357 := own_ns0 hb150
    have k_ch_390 := own_ns0 hb208
    have hds : ds_420 = ([ch_357, ch_368, ch_379, ch_390] : List Int32) := p96_trim4_3.trans (by simp [own_trim, List.dropWhile, k_ch_357, k_ch_390])
    subst hds
    exact own_tl_law l Z a0 hw EL hE n0 h0 i0 i1 i2 i3 i4 i5 z5 fm (4 : Int32) a350 r_415 (own_sv ch_357) (own_sv ch_368) (own_sv ch_379) (own_sv ch_390) (0 : Int32) (0 : Int32) (4 : Int32) (4 : Int32) t2_416 kA_417 N2_418 vs2_419 ([ch_357, ch_368, ch_379, ch_390] : List Int32) k_a350 (4 : Int32) [(.int ch_357), (.int ch_368), (.int ch_379), (.int ch_390)] (own_more w447 (by decide) (by decide) all0) K S_COMPACT_STRINGS P5 S_SIOOBE_FORMATTER hfm hE151 hEL E_r_415 F_r_415_coder F_r_415_value A_t2_416 p96_trim4_0 p96_trim4_1 p96_trim4_2 A_a350 rfl (fun _ => ⟨Nat.le_of_ble_eq_true rfl, by decide, rfl⟩) (fun _ => ⟨Nat.le_of_ble_eq_true rfl, by decide, rfl⟩) (fun _ => ⟨Nat.le_of_ble_eq_true rfl, by decide, rfl⟩) (fun _ => ⟨Nat.le_of_ble_eq_true rfl, by decide, rfl⟩) (fun h => absurd h (by decide))
 ·
  refine own_callS (pc' := 8) w0 (own_w0 hw) (own_w1 hw) (own_w2 hw) (own_w3 hw) (by decide) (own_ct_minV l Z a0 hw EL hE n0 [] h0 (own_old w0) (i0 &&& (7 : Int32)) (5 : Int32) (5 : Int32) (hn)) all0 (argsL := [(.int (i0 &&& (7 : Int32))), (.int (5 : Int32))]) (rest := []) rfl rfl own_pd2 rfl own_d18_5 rfl (by decide) (W := 0) rfl (by decide) (by decide) (by decide) fun T452 h454 v455 ms456 w453 q457 => ?_
  obtain ⟨rfl, rfl, rfl⟩ := q457
  show own_Go Z EL n0 p e below s _ _ _ (T452.setTop (mkF m 8 _ [(.int (5 : Int32))]))
  refine own_istore (pc' := 10) w453 own_d18_8 (Ls' := #[.val (.int i0), .val (.int i1), .val (.int i2), .val (.int i3), .val (.int i4), .val (.int i5), .val (.int (5 : Int32)), .unset, .unset, .unset, .unset, .unset, .unset, .unset, .unset, .unset, .unset]) rfl rfl ?_
  refine own_iload (pc' := 12) w453 own_d18_10 rfl rfl ?_
  refine own_newP (pc' := 14) w453 (aty := .char) (z := (5 : Int32)) (vs := [(.int 0), (.int 0), (.int 0), (.int 0), (.int 0)]) (dv := (.int 0)) (cap := 5) (own_w4 hw) own_d18_12 rfl (by decide) (by decide) (by decide) rfl (own_rep 5 (.int 0)) (by decide) (by decide) fun T458 h460 a462 g_a462 w459 E461 ⟨k_a462, A_a462⟩ => ?_
  have nw_a462 : h0.size ≤ a462 := Nat.le_trans K.1 (Nat.le_of_eq g_a462)
  replace K := K.ext E461
  refine own_astore (pc' := 16) w459 own_d18_14 rfl (Ls' := #[.val (.int i0), .val (.int i1), .val (.int i2), .val (.int i3), .val (.int i4), .val (.int i5), .val (.int (5 : Int32)), .val (.ref a462), .unset, .unset, .unset, .unset, .unset, .unset, .unset, .unset, .unset]) rfl rfl ?_
  refine own_iload (pc' := 18) w459 own_d18_16 rfl rfl ?_
  refine own_if (pc' := 21) w459 own_d18_18 rfl (by decide) (pcY := 29) rfl (fun (hb18 : ¬ (0 : Int32) < (5 : Int32)) => absurd hb18 (by decide)) (fun (hb18 : (0 : Int32) < (5 : Int32)) => ?_)
  refine own_aload (pc' := 23) w459 own_d18_21 rfl rfl rfl ?_
  refine own_iconst (pc' := 24) w459 own_d18_23 (x := (0 : Int32)) rfl rfl ?_
  refine own_iloadN (pc' := 25) w459 own_d18_24 rfl rfl ?_
  refine own_callS (pc' := 28) w459 (own_w63 hw) (own_w64 hw) (own_w57 hw) (own_w65 hw) (by decide) (own_ct_chr l Z a0 hw EL hE n0 [] h460 (own_old w459) i1 ) all0 (argsL := [(.int i1)]) (rest := [(.int (0 : Int32)), (.ref a462)]) rfl rfl own_pd11 rfl own_d18_25 rfl (by decide) (W := 2) rfl (by decide) (by decide) (by decide) fun T463 h465 v466 ms467 w464 q468 => ?_
  obtain ⟨rfl, rfl, ch_469, rfl, p25_chr_0⟩ := q468
  show own_Go Z EL n0 p e below s _ _ _ (T463.setTop (mkF m 28 _ [(.int ch_469), (.int (0 : Int32)), (.ref a462)]))
  refine own_stC (pc' := 29) w464 (i := 0) (xv := (.int ch_469)) (vs' := [(.int ch_469), (.int 0), (.int 0), (.int 0), (.int 0)]) (by simp) A_a462 (by decide) rfl (Nat.lt_of_sub_eq_succ rfl) (own_ncB p25_chr_0) (own_fcB p25_chr_0) rfl own_d18_28 rfl fun T470 h472 w471 W473 A_new => ?_
  clear A_a462
  replace K := K.wr W473 (Or.inr nw_a462)
  have A_a462 := A_new
  clear A_new
  refine own_iload (pc' := 31) w471 own_d18_29 rfl rfl ?_
  refine own_iconst (pc' := 32) w471 own_d18_31 (x := (1 : Int32)) rfl rfl ?_
  refine own_icmp (pc' := 35) w471 own_d18_32 rfl (by decide) (pcY := 43) rfl (fun (hb32 : ¬ (1 : Int32) < (5 : Int32)) => absurd hb32 (by decide)) (fun (hb32 : (1 : Int32) < (5 : Int32)) => ?_)
  refine own_aload (pc' := 37) w471 own_d18_35 rfl rfl rfl ?_
  refine own_iconst (pc' := 38) w471 own_d18_37 (x := (1 : Int32)) rfl rfl ?_
  refine own_iloadN (pc' := 39) w471 own_d18_38 rfl rfl ?_
  refine own_callS (pc' := 42) w471 (own_w63 hw) (own_w64 hw) (own_w57 hw) (own_w65 hw) (by decide) (own_ct_chr l Z a0 hw EL hE n0 [] h472 (own_old w471) i2 ) all0 (argsL := [(.int i2)]) (rest := [(.int (1 : Int32)), (.ref a462)]) rfl rfl own_pd11 rfl own_d18_39 rfl (by decide) (W := 2) rfl (by decide) (by decide) (by decide) fun T474 h476 v477 ms478 w475 q479 => ?_
  obtain ⟨rfl, rfl, ch_480, rfl, p39_chr_0⟩ := q479
  show own_Go Z EL n0 p e below s _ _ _ (T474.setTop (mkF m 42 _ [(.int ch_480), (.int (1 : Int32)), (.ref a462)]))
  refine own_stC (pc' := 43) w475 (i := 1) (xv := (.int ch_480)) (vs' := [(.int ch_469), (.int ch_480), (.int 0), (.int 0), (.int 0)]) (by simp) A_a462 (by decide) rfl (Nat.lt_of_sub_eq_succ rfl) (own_ncB p39_chr_0) (own_fcB p39_chr_0) rfl own_d18_42 rfl fun T481 h483 w482 W484 A_new => ?_
  clear A_a462
  replace K := K.wr W484 (Or.inr nw_a462)
  have A_a462 := A_new
  clear A_new
  refine own_iload (pc' := 45) w482 own_d18_43 rfl rfl ?_
  refine own_iconst (pc' := 46) w482 own_d18_45 (x := (2 : Int32)) rfl rfl ?_
  refine own_icmp (pc' := 49) w482 own_d18_46 rfl (by decide) (pcY := 57) rfl (fun (hb46 : ¬ (2 : Int32) < (5 : Int32)) => absurd hb46 (by decide)) (fun (hb46 : (2 : Int32) < (5 : Int32)) => ?_)
  refine own_aload (pc' := 51) w482 own_d18_49 rfl rfl rfl ?_
  refine own_iconst (pc' := 52) w482 own_d18_51 (x := (2 : Int32)) rfl rfl ?_
  refine own_iloadN (pc' := 53) w482 own_d18_52 rfl rfl ?_
  refine own_callS (pc' := 56) w482 (own_w63 hw) (own_w64 hw) (own_w57 hw) (own_w65 hw) (by decide) (own_ct_chr l Z a0 hw EL hE n0 [] h483 (own_old w482) i3 ) all0 (argsL := [(.int i3)]) (rest := [(.int (2 : Int32)), (.ref a462)]) rfl rfl own_pd11 rfl own_d18_53 rfl (by decide) (W := 2) rfl (by decide) (by decide) (by decide) fun T485 h487 v488 ms489 w486 q490 => ?_
  obtain ⟨rfl, rfl, ch_491, rfl, p53_chr_0⟩ := q490
  show own_Go Z EL n0 p e below s _ _ _ (T485.setTop (mkF m 56 _ [(.int ch_491), (.int (2 : Int32)), (.ref a462)]))
  refine own_stC (pc' := 57) w486 (i := 2) (xv := (.int ch_491)) (vs' := [(.int ch_469), (.int ch_480), (.int ch_491), (.int 0), (.int 0)]) (by simp) A_a462 (by decide) rfl (Nat.lt_of_sub_eq_succ rfl) (own_ncB p53_chr_0) (own_fcB p53_chr_0) rfl own_d18_56 rfl fun T492 h494 w493 W495 A_new => ?_
  clear A_a462
  replace K := K.wr W495 (Or.inr nw_a462)
  have A_a462 := A_new
  clear A_new
  refine own_iload (pc' := 59) w493 own_d18_57 rfl rfl ?_
  refine own_iconst (pc' := 60) w493 own_d18_59 (x := (3 : Int32)) rfl rfl ?_
  refine own_icmp (pc' := 63) w493 own_d18_60 rfl (by decide) (pcY := 72) rfl (fun (hb60 : ¬ (3 : Int32) < (5 : Int32)) => absurd hb60 (by decide)) (fun (hb60 : (3 : Int32) < (5 : Int32)) => ?_)
  refine own_aload (pc' := 65) w493 own_d18_63 rfl rfl rfl ?_
  refine own_iconst (pc' := 66) w493 own_d18_65 (x := (3 : Int32)) rfl rfl ?_
  refine own_iload (pc' := 68) w493 own_d18_66 rfl rfl ?_
  refine own_callS (pc' := 71) w493 (own_w63 hw) (own_w64 hw) (own_w57 hw) (own_w65 hw) (by decide) (own_ct_chr l Z a0 hw EL hE n0 [] h494 (own_old w493) i4 ) all0 (argsL := [(.int i4)]) (rest := [(.int (3 : Int32)), (.ref a462)]) rfl rfl own_pd11 rfl own_d18_68 rfl (by decide) (W := 2) rfl (by decide) (by decide) (by decide) fun T496 h498 v499 ms500 w497 q501 => ?_
  obtain ⟨rfl, rfl, ch_502, rfl, p68_chr_0⟩ := q501
  show own_Go Z EL n0 p e below s _ _ _ (T496.setTop (mkF m 71 _ [(.int ch_502), (.int (3 : Int32)), (.ref a462)]))
  refine own_stC (pc' := 72) w497 (i := 3) (xv := (.int ch_502)) (vs' := [(.int ch_469), (.int ch_480), (.int ch_491), (.int ch_502), (.int 0)]) (by simp) A_a462 (by decide) rfl (Nat.lt_of_sub_eq_succ rfl) (own_ncB p68_chr_0) (own_fcB p68_chr_0) rfl own_d18_71 rfl fun T503 h505 w504 W506 A_new => ?_
  clear A_a462
  replace K := K.wr W506 (Or.inr nw_a462)
  have A_a462 := A_new
  clear A_new
  refine own_iload (pc' := 74) w504 own_d18_72 rfl rfl ?_
  refine own_iconst (pc' := 75) w504 own_d18_74 (x := (4 : Int32)) rfl rfl ?_
  refine own_icmp (pc' := 78) w504 own_d18_75 rfl (by decide) (pcY := 87) rfl (fun (hb75 : ¬ (4 : Int32) < (5 : Int32)) => absurd hb75 (by decide)) (fun (hb75 : (4 : Int32) < (5 : Int32)) => ?_)
  refine own_aload (pc' := 80) w504 own_d18_78 rfl rfl rfl ?_
  refine own_iconst (pc' := 81) w504 own_d18_80 (x := (4 : Int32)) rfl rfl ?_
  refine own_iload (pc' := 83) w504 own_d18_81 rfl rfl ?_
  refine own_callS (pc' := 86) w504 (own_w63 hw) (own_w64 hw) (own_w57 hw) (own_w65 hw) (by decide) (own_ct_chr l Z a0 hw EL hE n0 [] h505 (own_old w504) i5 ) all0 (argsL := [(.int i5)]) (rest := [(.int (4 : Int32)), (.ref a462)]) rfl rfl own_pd11 rfl own_d18_83 rfl (by decide) (W := 2) rfl (by decide) (by decide) (by decide) fun T507 h509 v510 ms511 w508 q512 => ?_
  obtain ⟨rfl, rfl, ch_513, rfl, p83_chr_0⟩ := q512
  show own_Go Z EL n0 p e below s _ _ _ (T507.setTop (mkF m 86 _ [(.int ch_513), (.int (4 : Int32)), (.ref a462)]))
  refine own_stC (pc' := 87) w508 (i := 4) (xv := (.int ch_513)) (vs' := [(.int ch_469), (.int ch_480), (.int ch_491), (.int ch_502), (.int ch_513)]) (by simp) A_a462 (by decide) rfl (Nat.lt_of_sub_eq_succ rfl) (own_ncB p83_chr_0) (own_fcB p83_chr_0) rfl own_d18_86 rfl fun T514 h516 w515 W517 A_new => ?_
  clear A_a462
  replace K := K.wr W517 (Or.inr nw_a462)
  have A_a462 := A_new
  clear A_new
  refine own_newO (pc' := 90) w515 (own_w5 hw) (own_w6 hw) (own_w7 hw) own_d18_87 rfl (by decide) (by decide) fun T518 h520 a522 g_a522 w519 E521 ⟨E_a522, D523⟩ => ?_
  have ne_a462_a522 : a462 ≠ a522 := Nat.ne_of_lt (Nat.lt_of_lt_of_le A_a462.lt (Nat.le_of_eq g_a522))
  have nw_a522 : h0.size ≤ a522 := Nat.le_trans K.1 (Nat.le_of_eq g_a522)
  replace A_a462 := A_a462.ext E521
  replace K := K.ext E521
  have F_a522_value : Fld Z h520 a522 "java/lang/String" "value" "[B" .null := D523 (Or.inr (own_w20 hw)) (ty := (.array .byte)) (by decide)
  have F_a522_coder : Fld Z h520 a522 "java/lang/String" "coder" "B" (.int 0) := D523 (Or.inr (own_w21 hw)) (ty := .byte) (by decide)
  refine own_dup (pc' := 91) w519 own_d18_90 rfl rfl ?_
  refine own_aload (pc' := 93) w519 own_d18_91 rfl rfl rfl ?_
  refine own_callIB (pc' := 96) w519 (bytes' := jdk_42_method_3_code) rfl (own_w8 hw) (own_w9 hw) (own_w10 hw) (by decide) (fun s' hZ' => StrChars.Road.backV (W := 1) hZ' (own_hws hw) (kI := 4) (own_w6 hw) (cs := [ch_469, ch_480, ch_491, ch_502, ch_513]) (n := 5) (n0 := n0) (own_mine w519 a522 (by simp)).1 (own_n0 (own_old w519)) E_a522 F_a522_value F_a522_coder A_a462 (S_COMPACT_STRINGS.ext (own_old w519).2) P5 rfl rfl (by decide) (by decide) (own_allS p25_chr_0 (own_allS p39_chr_0 (own_allS p53_chr_0 (own_allS p68_chr_0 (own_allS p83_chr_0 own_all0))))) rfl (by decide) (by decide)) (ws := [a522]) (allS (P := fun x => x ∈ _) (by simp) all0) (fun v h' L q => ⟨q.2.2.1, q.2.1⟩) (argsL := [.ref a462]) (rest := [(.ref a522)]) rfl rfl own_pd14 rfl own_d18_93 rfl (Nat.le_of_eq rfl) (by decide) (by decide) fun T524 h526 v527 w525 K528 q529 => ?_
  obtain ⟨_, rfl, -, -, nw_E, nw_C, t530, kb531, -, le_t530, ne_t530, nw_V, nw_A⟩ := q529
  have ne_a462_t530 : a462 ≠ t530 := Nat.ne_of_lt (Nat.lt_of_lt_of_le A_a462.lt le_t530)
  have ne_a522_t530 : a522 ≠ t530 := Nat.ne_of_lt (Nat.lt_of_lt_of_le E_a522.lt le_t530)
  have nw_t530 : h0.size ≤ t530 := Nat.le_trans K.1 le_t530
  replace A_a462 := A_a462.keep K528 (ninS ne_a462_a522 nin0)
  replace K := K.trans K528 (allS (P := fun x => x ∈ ([] : List Addr) ∨ h0.size ≤ x) (Or.inr nw_a522) all0)
  have E_a522 := nw_E; have F_a522_coder := nw_C; have F_a522_value := nw_V; have A_t530 := nw_A; clear nw_E nw_C nw_V nw_A
  show own_Go Z EL n0 p e below s _ _ _ (T524.setTop (mkF m 96 _ [(.ref a522)]))
  refine own_callS (pc' := 99) w525 (own_w26 hw) (own_w27 hw) (own_w28 hw) (own_w29 hw) (by decide) (own_ct_trim5 l Z a0 hw EL hE n0 [] h526 (own_old w525) a522 t530 kb531 z5 fm ch_469 ch_480 ch_491 ch_502 ch_513 E_a522 F_a522_coder F_a522_value A_t530 S_COMPACT_STRINGS (P5) S_SIOOBE_FORMATTER (hfm) (hE151) (p25_chr_0) (p39_chr_0) (p53_chr_0) (p68_chr_0) (p83_chr_0)) all0 (argsL := [(.ref a522)]) (rest := []) rfl rfl own_pd15 rfl own_d18_96 rfl (by decide) (W := 0) rfl (by decide) (by decide) (by decide) fun T532 h534 v535 ms536 w533 q537 => ?_
  obtain ⟨K544, r_538, t2_539, kA_540, N2_541, vs2_542, ds_543, rfl, rfl, nw_E_r_538, nw_F_r_538_coder, nw_F_r_538_value, nw_A_t2_539, p96_trim5_0, p96_trim5_1, p96_trim5_2, p96_trim5_3⟩ := q537
  replace A_a462 := A_a462.keep K544 nin0
  replace E_a522 := E_a522.keep K544
  replace F_a522_coder := F_a522_coder.keep K544 nin0
  replace F_a522_value := F_a522_value.keep K544 nin0
  replace A_t530 := A_t530.keep K544 nin0
  replace K := K.trans K544 all0
  have E_r_538 := nw_E_r_538; clear nw_E_r_538
  have F_r_538_coder := nw_F_r_538_coder; clear nw_F_r_538_coder
  have F_r_538_value := nw_F_r_538_value; clear nw_F_r_538_value
  have A_t2_539 := nw_A_t2_539; clear nw_A_t2_539
  show own_Go Z EL n0 p e below s _ _ _ (T532.setTop (mkF m 99 _ [(.ref r_538)]))
  refine own_astore (pc' := 101) w533 own_d18_99 rfl (Ls' := #[.val (.int i0), .val (.int i1), .val (.int i2), .val (.int i3), .val (.int i4), .val (.int i5), .val (.int (5 : Int32)), .val (.ref a462), .val (.ref r_538), .unset, .unset, .unset, .unset, .unset, .unset, .unset, .unset]) rfl rfl ?_
  refine own_aload (pc' := 103) w533 own_d18_101 rfl rfl rfl ?_
  refine own_ifnonnullY w533 own_d18_103 (by decide) (pc' := 108) rfl ?_
  refine own_aload (pc' := 110) w533 own_d18_108 rfl rfl rfl ?_
  refine own_iconst (pc' := 111) w533 own_d18_110 (x := (0 : Int32)) rfl rfl ?_
  refine own_callS (pc' := 114) w533 (own_w55 hw) (own_w56 hw) (own_w57 hw) (own_w58 hw) (by decide) (own_ct_nsIn l Z a0 hw EL hE n0 [] h534 (own_old w533) a462 (0 : Int32) k_a462 (5 : Int32) [(.int ch_469), (.int ch_480), (.int ch_491), (.int ch_502), (.int ch_513)] ch_469 A_a462 (by decide) (rfl)) all0 (argsL := [(.ref a462), (.int (0 : Int32))]) (rest := []) rfl rfl own_pd16 rfl own_d18_111 rfl (by decide) (W := 0) rfl (by decide) (by decide) (by decide) fun T545 h547 v548 ms549 w546 q550 => ?_
  obtain ⟨rfl, rfl, rfl⟩ := q550
  show own_Go Z EL n0 p e below s _ _ _ (T545.setTop (mkF m 114 _ [(.int (own_sv ch_469))]))
  refine own_istore (pc' := 116) w546 own_d18_114 (Ls' := #[.val (.int i0), .val (.int i1), .val (.int i2), .val (.int i3), .val (.int i4), .val (.int i5), .val (.int (5 : Int32)), .val (.ref a462), .val (.ref r_538), .val (.int (own_sv ch_469)), .unset, .unset, .unset, .unset, .unset, .unset, .unset]) rfl rfl ?_
  refine own_aload (pc' := 118) w546 own_d18_116 rfl rfl rfl ?_
  refine own_iconst (pc' := 119) w546 own_d18_118 (x := (1 : Int32)) rfl rfl ?_
  refine own_callS (pc' := 122) w546 (own_w55 hw) (own_w56 hw) (own_w57 hw) (own_w58 hw) (by decide) (own_ct_nsIn l Z a0 hw EL hE n0 [] h534 (own_old w546) a462 (1 : Int32) k_a462 (5 : Int32) [(.int ch_469), (.int ch_480), (.int ch_491), (.int ch_502), (.int ch_513)] ch_480 A_a462 (by decide) (rfl)) all0 (argsL := [(.ref a462), (.int (1 : Int32))]) (rest := []) rfl rfl own_pd16 rfl own_d18_119 rfl (by decide) (W := 0) rfl (by decide) (by decide) (by decide) fun T551 h553 v554 ms555 w552 q556 => ?_
  obtain ⟨rfl, rfl, rfl⟩ := q556
  show own_Go Z EL n0 p e below s _ _ _ (T551.setTop (mkF m 122 _ [(.int (own_sv ch_480))]))
  refine own_istore (pc' := 124) w552 own_d18_122 (Ls' := #[.val (.int i0), .val (.int i1), .val (.int i2), .val (.int i3), .val (.int i4), .val (.int i5), .val (.int (5 : Int32)), .val (.ref a462), .val (.ref r_538), .val (.int (own_sv ch_469)), .val (.int (own_sv ch_480)), .unset, .unset, .unset, .unset, .unset, .unset]) rfl rfl ?_
  refine own_aload (pc' := 126) w552 own_d18_124 rfl rfl rfl ?_
  refine own_iconst (pc' := 127) w552 own_d18_126 (x := (2 : Int32)) rfl rfl ?_
  refine own_callS (pc' := 130) w552 (own_w55 hw) (own_w56 hw) (own_w57 hw) (own_w58 hw) (by decide) (own_ct_nsIn l Z a0 hw EL hE n0 [] h534 (own_old w552) a462 (2 : Int32) k_a462 (5 : Int32) [(.int ch_469), (.int ch_480), (.int ch_491), (.int ch_502), (.int ch_513)] ch_491 A_a462 (by decide) (rfl)) all0 (argsL := [(.ref a462), (.int (2 : Int32))]) (rest := []) rfl rfl own_pd16 rfl own_d18_127 rfl (by decide) (W := 0) rfl (by decide) (by decide) (by decide) fun T557 h559 v560 ms561 w558 q562 => ?_
  obtain ⟨rfl, rfl, rfl⟩ := q562
  show own_Go Z EL n0 p e below s _ _ _ (T557.setTop (mkF m 130 _ [(.int (own_sv ch_491))]))
  refine own_istore (pc' := 132) w558 own_d18_130 (Ls' := #[.val (.int i0), .val (.int i1), .val (.int i2), .val (.int i3), .val (.int i4), .val (.int i5), .val (.int (5 : Int32)), .val (.ref a462), .val (.ref r_538), .val (.int (own_sv ch_469)), .val (.int (own_sv ch_480)), .val (.int (own_sv ch_491)), .unset, .unset, .unset, .unset, .unset]) rfl rfl ?_
  refine own_aload (pc' := 134) w558 own_d18_132 rfl rfl rfl ?_
  refine own_iconst (pc' := 135) w558 own_d18_134 (x := (3 : Int32)) rfl rfl ?_
  refine own_callS (pc' := 138) w558 (own_w55 hw) (own_w56 hw) (own_w57 hw) (own_w58 hw) (by decide) (own_ct_nsIn l Z a0 hw EL hE n0 [] h534 (own_old w558) a462 (3 : Int32) k_a462 (5 : Int32) [(.int ch_469), (.int ch_480), (.int ch_491), (.int ch_502), (.int ch_513)] ch_502 A_a462 (by decide) (rfl)) all0 (argsL := [(.ref a462), (.int (3 : Int32))]) (rest := []) rfl rfl own_pd16 rfl own_d18_135 rfl (by decide) (W := 0) rfl (by decide) (by decide) (by decide) fun T563 h565 v566 ms567 w564 q568 => ?_
  obtain ⟨rfl, rfl, rfl⟩ := q568
  show own_Go Z EL n0 p e below s _ _ _ (T563.setTop (mkF m 138 _ [(.int (own_sv ch_502))]))
  refine own_istore (pc' := 140) w564 own_d18_138 (Ls' := #[.val (.int i0), .val (.int i1), .val (.int i2), .val (.int i3), .val (.int i4), .val (.int i5), .val (.int (5 : Int32)), .val (.ref a462), .val (.ref r_538), .val (.int (own_sv ch_469)), .val (.int (own_sv ch_480)), .val (.int (own_sv ch_491)), .val (.int (own_sv ch_502)), .unset, .unset, .unset, .unset]) rfl rfl ?_
  refine own_aload (pc' := 142) w564 own_d18_140 rfl rfl rfl ?_
  refine own_iconst (pc' := 143) w564 own_d18_142 (x := (4 : Int32)) rfl rfl ?_
  refine own_callS (pc' := 146) w564 (own_w55 hw) (own_w56 hw) (own_w57 hw) (own_w58 hw) (by decide) (own_ct_nsIn l Z a0 hw EL hE n0 [] h534 (own_old w564) a462 (4 : Int32) k_a462 (5 : Int32) [(.int ch_469), (.int ch_480), (.int ch_491), (.int ch_502), (.int ch_513)] ch_513 A_a462 (by decide) (rfl)) all0 (argsL := [(.ref a462), (.int (4 : Int32))]) (rest := []) rfl rfl own_pd16 rfl own_d18_143 rfl (by decide) (W := 0) rfl (by decide) (by decide) (by decide) fun T569 h571 v572 ms573 w570 q574 => ?_
  obtain ⟨rfl, rfl, rfl⟩ := q574
  show own_Go Z EL n0 p e below s _ _ _ (T569.setTop (mkF m 146 _ [(.int (own_sv ch_513))]))
  refine own_istore (pc' := 148) w570 own_d18_146 (Ls' := #[.val (.int i0), .val (.int i1), .val (.int i2), .val (.int i3), .val (.int i4), .val (.int i5), .val (.int (5 : Int32)), .val (.ref a462), .val (.ref r_538), .val (.int (own_sv ch_469)), .val (.int (own_sv ch_480)), .val (.int (own_sv ch_491)), .val (.int (own_sv ch_502)), .val (.int (own_sv ch_513)), .unset, .unset, .unset]) rfl rfl ?_
  refine own_iload (pc' := 150) w570 own_d18_148 rfl rfl ?_
  refine own_if (pc' := 153) w570 own_d18_150 rfl (by decide) (pcY := 157) rfl (fun (hb150 : (own_sv ch_469) = (0 : Int32)) => ?_) (fun (hb150 : ¬ (own_sv ch_469) = (0 : Int32)) => ?_)
  ·
   refine own_iload (pc' := 159) w570 own_d18_157 rfl rfl ?_
   refine own_if (pc' := 162) w570 own_d18_159 rfl (by decide) (pcY := 166) rfl (fun (hb159 : (own_sv ch_480) = (0 : Int32)) => ?_) (fun (hb159 : ¬ (own_sv ch_480) = (0 : Int32)) => ?_)
   ·
    refine own_iload (pc' := 168) w570 own_d18_166 rfl rfl ?_
    refine own_if (pc' := 171) w570 own_d18_168 rfl (by decide) (pcY := 175) rfl (fun (hb168 : (own_sv ch_491) = (0 : Int32)) => ?_) (fun (hb168 : ¬ (own_sv ch_491) = (0 : Int32)) => ?_)
    ·
     refine own_iload (pc' := 177) w570 own_d18_175 rfl rfl ?_
     refine own_if (pc' := 180) w570 own_d18_177 rfl (by decide) (pcY := 184) rfl (fun (hb177 : (own_sv ch_502) = (0 : Int32)) => ?_) (fun (hb177 : ¬ (own_sv ch_502) = (0 : Int32)) => ?_)
     ·
      refine own_iload (pc' := 186) w570 own_d18_184 rfl rfl ?_
      refine own_if (pc' := 189) w570 own_d18_186 rfl (by decide) (pcY := 193) rfl (fun (hb186 : (own_sv ch_513) = (0 : Int32)) => ?_) (fun (hb186 : ¬ (own_sv ch_513) = (0 : Int32)) => ?_)
      ·
       refine own_iload (pc' := 195) w570 own_d18_193 rfl rfl ?_
       refine own_istore (pc' := 197) w570 own_d18_195 (Ls' := #[.val (.int i0), .val (.int i1), .val (.int i2), .val (.int i3), .val (.int i4), .val (.int i5), .val (.int (5 : Int32)), .val (.ref a462), .val (.ref r_538), .val (.int (own_sv ch_469)), .val (.int (own_sv ch_480)), .val (.int (own_sv ch_491)), .val (.int (own_sv ch_502)), .val (.int (own_sv ch_513)), .val (.int (5 : Int32)), .unset, .unset]) rfl rfl ?_
       refine own_iload (pc' := 199) w570 own_d18_197 rfl rfl ?_
       refine own_if (pc' := 202) w570 own_d18_199 rfl (by decide) (pcY := 206) rfl (fun (hb199 : (own_sv ch_513) = (0 : Int32)) => ?_) (fun (hb199 : ¬ (own_sv ch_513) = (0 : Int32)) => absurd hb186 hb199)
       refine own_iload (pc' := 208) w570 own_d18_206 rfl rfl ?_
       refine own_if (pc' := 211) w570 own_d18_208 rfl (by decide) (pcY := 215) rfl (fun (hb208 : (own_sv ch_502) = (0 : Int32)) => ?_) (fun (hb208 : ¬ (own_sv ch_502) = (0 : Int32)) => absurd hb177 hb208)
       refine own_iload (pc' := 217) w570 own_d18_215 rfl rfl ?_
       refine own_if (pc' := 220) w570 own_d18_217 rfl (by decide) (pcY := 224) rfl (fun (hb217 : (own_sv ch_491) = (0 : Int32)) => ?_) (fun (hb217 : ¬ (own_sv ch_491) = (0 : Int32)) => absurd hb168 hb217)
       refine own_iload (pc' := 226) w570 own_d18_224 rfl rfl ?_
       refine own_if (pc' := 229) w570 own_d18_226 rfl (by decide) (pcY := 233) rfl (fun (hb226 : (own_sv ch_480) = (0 : Int32)) => ?_) (fun (hb226 : ¬ (own_sv ch_480) = (0 : Int32)) => absurd hb159 hb226)
       refine own_iload (pc' := 235) w570 own_d18_233 rfl rfl ?_
       refine own_if (pc' := 238) w570 own_d18_235 rfl (by decide) (pcY := 242) rfl (fun (hb235 : (own_sv ch_469) = (0 : Int32)) => ?_) (fun (hb235 : ¬ (own_sv ch_469) = (0 : Int32)) => absurd hb150 hb235)
       refine own_iload (pc' := 244) w570 own_d18_242 rfl rfl ?_
       refine own_istore (pc' := 246) w570 own_d18_244 (Ls' := #[.val (.int i0), .val (.int i1), .val (.int i2), .val (.int i3), .val (.int i4), .val (.int i5), .val (.int (5 : Int32)), .val (.ref a462), .val (.ref r_538), .val (.int (own_sv ch_469)), .val (.int (own_sv ch_480)), .val (.int (own_sv ch_491)), .val (.int (own_sv ch_502)), .val (.int (own_sv ch_513)), .val (.int (5 : Int32)), .val (.int (5 : Int32)), .unset]) rfl rfl ?_
       refine own_iload (pc' := 248) w570 own_d18_246 rfl rfl ?_
       refine own_iload (pc' := 250) w570 own_d18_248 rfl rfl ?_
       refine own_isub (pc' := 251) w570 own_d18_250 (z := (0 : Int32)) (by decide) rfl ?_
       refine own_istore (pc' := 253) w570 own_d18_251 (Ls' := #[.val (.int i0), .val (.int i1), .val (.int i2), .val (.int i3), .val (.int i4), .val (.int i5), .val (.int (5 : Int32)), .val (.ref a462), .val (.ref r_538), .val (.int (own_sv ch_469)), .val (.int (own_sv ch_480)), .val (.int (own_sv ch_491)), .val (.int (own_sv ch_502)), .val (.int (own_sv ch_513)), .val (.int (5 : Int32)), .val (.int (5 : Int32)), .val (.int (0 : Int32))]) rfl rfl ?_
       have k_ch_469 := own_ns1 hb150
       have k_ch_480 := own_ns1 hb159
       have k_ch_491 := own_ns1 hb168
       have k_ch_502 := own_ns1 hb177
       have k_ch_513 := own_ns1 hb186
       have hds : ds_543 = ([] : List Int32) := p96_trim5_3.trans (by simp [own_trim, List.dropWhile, k_ch_469, k_ch_480, k_ch_491, k_ch_502, k_ch_513])
       subst hds
       exact own_tl_law l Z a0 hw EL hE n0 h0 i0 i1 i2 i3 i4 i5 z5 fm (5 : Int32) a462 r_538 (own_sv ch_469) (own_sv ch_480) (own_sv ch_491) (own_sv ch_502) (own_sv ch_513) (5 : Int32) (5 : Int32) (0 : Int32) t2_539 kA_540 N2_541 vs2_542 ([] : List Int32) k_a462 (5 : Int32) [(.int ch_469), (.int ch_480), (.int ch_491), (.int ch_502), (.int ch_513)] (own_more w570 (by decide) (by decide) all0) K S_COMPACT_STRINGS P5 S_SIOOBE_FORMATTER hfm hE151 hEL E_r_538 F_r_538_coder F_r_538_value A_t2_539 p96_trim5_0 p96_trim5_1 p96_trim5_2 A_a462 rfl (fun h => absurd h (by decide)) (fun h => absurd h (by decide)) (fun h => absurd h (by decide)) (fun h => absurd h (by decide)) (fun h => absurd h (by decide))
      ·
       refine own_iconst (pc' := 190) w570 own_d18_189 (x := (4 : Int32)) rfl rfl ?_
       refine own_goto w570 own_d18_190 (by decide) (pc' := 195) rfl ?_
       refine own_istore (pc' := 197) w570 own_d18_195 (Ls' := #[.val (.int i0), .val (.int i1), .val (.int i2), .val (.int i3), .val (.int i4), .val (.int i5), .val (.int (5 : Int32)), .val (.ref a462), .val (.ref r_538), .val (.int (own_sv ch_469)), .val (.int (own_sv ch_480)), .val (.int (own_sv ch_491)), .val (.int (own_sv ch_502)), .val (.int (own_sv ch_513)), .val (.int (4 : Int32)), .unset, .unset]) rfl rfl ?_
       refine own_iload (pc' := 199) w570 own_d18_197 rfl rfl ?_
       refine own_if (pc' := 202) w570 own_d18_199 rfl (by decide) (pcY := 206) rfl (fun (hb199 : (own_sv ch_513) = (0 : Int32)) => absurd hb199 hb186) (fun (hb199 : ¬ (own_sv ch_513) = (0 : Int32)) => ?_)
       refine own_iconst (pc' := 203) w570 own_d18_202 (x := (5 : Int32)) rfl rfl ?_
       refine own_goto w570 own_d18_203 (by decide) (pc' := 244) rfl ?_
       refine own_istore (pc' := 246) w570 own_d18_244 (Ls' := #[.val (.int i0), .val (.int i1), .val (.int i2), .val (.int i3), .val (.int i4), .val (.int i5), .val (.int (5 : Int32)), .val (.ref a462), .val (.ref r_538), .val (.int (own_sv ch_469)), .val (.int (own_sv ch_480)), .val (.int (own_sv ch_491)), .val (.int (own_sv ch_502)), .val (.int (own_sv ch_513)), .val (.int (4 : Int32)), .val (.int (5 : Int32)), .unset]) rfl rfl ?_
       refine own_iload (pc' := 248) w570 own_d18_246 rfl rfl ?_
       refine own_iload (pc' := 250) w570 own_d18_248 rfl rfl ?_
       refine own_isub (pc' := 251) w570 own_d18_250 (z := (1 : Int32)) (by decide) rfl ?_
       refine own_istore (pc' := 253) w570 own_d18_251 (Ls' := #[.val (.int i0), .val (.int i1), .val (.int i2), .val (.int i3), .val (.int i4), .val (.int i5), .val (.int (5 : Int32)), .val (.ref a462), .val (.ref r_538), .val (.int (own_sv ch_469)), .val (.int (own_sv ch_480)), .val (.int (own_sv ch_491)), .val (.int (own_sv ch_502)), .val (.int (own_sv ch_513)), .val (.int (4 : Int32)), .val (.int (5 : Int32)), .val (.int (1 : Int32))]) rfl rfl ?_
       have k_ch_469 := own_ns1 hb150
       have k_ch_480 := own_ns1 hb159
       have k_ch_491 := own_ns1 hb168
       have k_ch_502 := own_ns1 hb177
       have k_ch_513 := own_ns0 hb186
       have hds : ds_543 = ([ch_513] : List Int32) := p96_trim5_3.trans (by simp [own_trim, List.dropWhile, k_ch_469, k_ch_480, k_ch_491, k_ch_502, k_ch_513])
       subst hds
       exact own_tl_law l Z a0 hw EL hE n0 h0 i0 i1 i2 i3 i4 i5 z5 fm (5 : Int32) a462 r_538 (own_sv ch_469) (own_sv ch_480) (own_sv ch_491) (own_sv ch_502) (own_sv ch_513) (4 : Int32) (5 : Int32) (1 : Int32) t2_539 kA_540 N2_541 vs2_542 ([ch_513] : List Int32) k_a462 (5 : Int32) [(.int ch_469), (.int ch_480), (.int ch_491), (.int ch_502), (.int ch_513)] (own_more w570 (by decide) (by decide) all0) K S_COMPACT_STRINGS P5 S_SIOOBE_FORMATTER hfm hE151 hEL E_r_538 F_r_538_coder F_r_538_value A_t2_539 p96_trim5_0 p96_trim5_1 p96_trim5_2 A_a462 rfl (fun _ => ⟨Nat.le_of_ble_eq_true rfl, by decide, rfl⟩) (fun h => absurd h (by decide)) (fun h => absurd h (by decide)) (fun h => absurd h (by decide)) (fun h => absurd h (by decide))
     ·
      refine own_iconst (pc' := 181) w570 own_d18_180 (x := (3 : Int32)) rfl rfl ?_
      refine own_goto w570 own_d18_181 (by decide) (pc' := 195) rfl ?_
      refine own_istore (pc' := 197) w570 own_d18_195 (Ls' := #[.val (.int i0), .val (.int i1), .val (.int i2), .val (.int i3), .val (.int i4), .val (.int i5), .val (.int (5 : Int32)), .val (.ref a462), .val (.ref r_538), .val (.int (own_sv ch_469)), .val (.int (own_sv ch_480)), .val (.int (own_sv ch_491)), .val (.int (own_sv ch_502)), .val (.int (own_sv ch_513)), .val (.int (3 : Int32)), .unset, .unset]) rfl rfl ?_
      refine own_iload (pc' := 199) w570 own_d18_197 rfl rfl ?_
      refine own_if (pc' := 202) w570 own_d18_199 rfl (by decide) (pcY := 206) rfl (fun (hb199 : (own_sv ch_513) = (0 : Int32)) => ?_) (fun (hb199 : ¬ (own_sv ch_513) = (0 : Int32)) => ?_)
      ·
       refine own_iload (pc' := 208) w570 own_d18_206 rfl rfl ?_
       refine own_if (pc' := 211) w570 own_d18_208 rfl (by decide) (pcY := 215) rfl (fun (hb208 : (own_sv ch_502) = (0 : Int32)) => absurd hb208 hb177) (fun (hb208 : ¬ (own_sv ch_502) = (0 : Int32)) => ?_)
       refine own_iconst (pc' := 212) w570 own_d18_211 (x := (4 : Int32)) rfl rfl ?_
       refine own_goto w570 own_d18_212 (by decide) (pc' := 244) rfl ?_
       refine own_istore (pc' := 246) w570 own_d18_244 (Ls' := #[.val (.int i0), .val (.int i1), .val (.int i2), .val (.int i3), .val (.int i4), .val (.int i5), .val (.int (5 : Int32)), .val (.ref a462), .val (.ref r_538), .val (.int (own_sv ch_469)), .val (.int (own_sv ch_480)), .val (.int (own_sv ch_491)), .val (.int (own_sv ch_502)), .val (.int (own_sv ch_513)), .val (.int (3 : Int32)), .val (.int (4 : Int32)), .unset]) rfl rfl ?_
       refine own_iload (pc' := 248) w570 own_d18_246 rfl rfl ?_
       refine own_iload (pc' := 250) w570 own_d18_248 rfl rfl ?_
       refine own_isub (pc' := 251) w570 own_d18_250 (z := (1 : Int32)) (by decide) rfl ?_
       refine own_istore (pc' := 253) w570 own_d18_251 (Ls' := #[.val (.int i0), .val (.int i1), .val (.int i2), .val (.int i3), .val (.int i4), .val (.int i5), .val (.int (5 : Int32)), .val (.ref a462), .val (.ref r_538), .val (.int (own_sv ch_469)), .val (.int (own_sv ch_480)), .val (.int (own_sv ch_491)), .val (.int (own_sv ch_502)), .val (.int (own_sv ch_513)), .val (.int (3 : Int32)), .val (.int (4 : Int32)), .val (.int (1 : Int32))]) rfl rfl ?_
       have k_ch_469 := own_ns1 hb150
       have k_ch_480 := own_ns1 hb159
       have k_ch_491 := own_ns1 hb168
       have k_ch_502 := own_ns0 hb177
       have k_ch_513 := own_ns1 hb199
       have hds : ds_543 = ([ch_502] : List Int32) := p96_trim5_3.trans (by simp [own_trim, List.dropWhile, k_ch_469, k_ch_480, k_ch_491, k_ch_502, k_ch_513])
       subst hds
       exact own_tl_law l Z a0 hw EL hE n0 h0 i0 i1 i2 i3 i4 i5 z5 fm (5 : Int32) a462 r_538 (own_sv ch_469) (own_sv ch_480) (own_sv ch_491) (own_sv ch_502) (own_sv ch_513) (3 : Int32) (4 : Int32) (1 : Int32) t2_539 kA_540 N2_541 vs2_542 ([ch_502] : List Int32) k_a462 (5 : Int32) [(.int ch_469), (.int ch_480), (.int ch_491), (.int ch_502), (.int ch_513)] (own_more w570 (by decide) (by decide) all0) K S_COMPACT_STRINGS P5 S_SIOOBE_FORMATTER hfm hE151 hEL E_r_538 F_r_538_coder F_r_538_value A_t2_539 p96_trim5_0 p96_trim5_1 p96_trim5_2 A_a462 rfl (fun _ => ⟨Nat.le_of_ble_eq_true rfl, by decide, rfl⟩) (fun h => absurd h (by decide)) (fun h => absurd h (by decide)) (fun h => absurd h (by decide)) (fun h => absurd h (by decide))
      ·
       refine own_iconst (pc' := 203) w570 own_d18_202 (x := (5 : Int32)) rfl rfl ?_
       refine own_goto w570 own_d18_203 (by decide) (pc' := 244) rfl ?_
       refine own_istore (pc' := 246) w570 own_d18_244 (Ls' := #[.val (.int i0), .val (.int i1), .val (.int i2), .val (.int i3), .val (.int i4), .val (.int i5), .val (.int (5 : Int32)), .val (.ref a462), .val (.ref r_538), .val (.int (own_sv ch_469)), .val (.int (own_sv ch_480)), .val (.int (own_sv ch_491)), .val (.int (own_sv ch_502)), .val (.int (own_sv ch_513)), .val (.int (3 : Int32)), .val (.int (5 : Int32)), .unset]) rfl rfl ?_
       refine own_iload (pc' := 248) w570 own_d18_246 rfl rfl ?_
       refine own_iload (pc' := 250) w570 own_d18_248 rfl rfl ?_
       refine own_isub (pc' := 251) w570 own_d18_250 (z := (2 : Int32)) (by decide) rfl ?_
       refine own_istore (pc' := 253) w570 own_d18_251 (Ls' := #[.val (.int i0), .val (.int i1), .val (.int i2), .val (.int i3), .val (.int i4), .val (.int i5), .val (.int (5 : Int32)), .val (.ref a462), .val (.ref r_538), .val (.int (own_sv ch_469)), .val (.int (own_sv ch_480)), .val (.int (own_sv ch_491)), .val (.int (own_sv ch_502)), .val (.int (own_sv ch_513)), .val (.int (3 : Int32)), .val (.int (5 : Int32)), .val (.int (2 : Int32))]) rfl rfl ?_
       have k_ch_469 := own_ns1 hb150
       have k_ch_480 := own_ns1 hb159
       have k_ch_491 := own_ns1 hb168
       have k_ch_502 := own_ns0 hb177
       have k_ch_513 := own_ns0 hb199
       have hds : ds_543 = ([ch_502, ch_513] : List Int32) := p96_trim5_3.trans (by simp [own_trim, List.dropWhile, k_ch_469, k_ch_480, k_ch_491, k_ch_502, k_ch_513])
       subst hds
       exact own_tl_law l Z a0 hw EL hE n0 h0 i0 i1 i2 i3 i4 i5 z5 fm (5 : Int32) a462 r_538 (own_sv ch_469) (own_sv ch_480) (own_sv ch_491) (own_sv ch_502) (own_sv ch_513) (3 : Int32) (5 : Int32) (2 : Int32) t2_539 kA_540 N2_541 vs2_542 ([ch_502, ch_513] : List Int32) k_a462 (5 : Int32) [(.int ch_469), (.int ch_480), (.int ch_491), (.int ch_502), (.int ch_513)] (own_more w570 (by decide) (by decide) all0) K S_COMPACT_STRINGS P5 S_SIOOBE_FORMATTER hfm hE151 hEL E_r_538 F_r_538_coder F_r_538_value A_t2_539 p96_trim5_0 p96_trim5_1 p96_trim5_2 A_a462 rfl (fun _ => ⟨Nat.le_of_ble_eq_true rfl, by decide, rfl⟩) (fun _ => ⟨Nat.le_of_ble_eq_true rfl, by decide, rfl⟩) (fun h => absurd h (by decide)) (fun h => absurd h (by decide)) (fun h => absurd h (by decide))
    ·
     refine own_iconst (pc' := 172) w570 own_d18_171 (x := (2 : Int32)) rfl rfl ?_
     refine own_goto w570 own_d18_172 (by decide) (pc' := 195) rfl ?_
     refine own_istore (pc' := 197) w570 own_d18_195 (Ls' := #[.val (.int i0), .val (.int i1), .val (.int i2), .val (.int i3), .val (.int i4), .val (.int i5), .val (.int (5 : Int32)), .val (.ref a462), .val (.ref r_538), .val (.int (own_sv ch_469)), .val (.int (own_sv ch_480)), .val (.int (own_sv ch_491)), .val (.int (own_sv ch_502)), .val (.int (own_sv ch_513)), .val (.int (2 : Int32)), .unset, .unset]) rfl rfl ?_
     refine own_iload (pc' := 199) w570 own_d18_197 rfl rfl ?_
     refine own_if (pc' := 202) w570 own_d18_199 rfl (by decide) (pcY := 206) rfl (fun (hb199 : (own_sv ch_513) = (0 : Int32)) => ?_) (fun (hb199 : ¬ (own_sv ch_513) = (0 : Int32)) => ?_)
     ·
      refine own_iload (pc' := 208) w570 own_d18_206 rfl rfl ?_
      refine own_if (pc' := 211) w570 own_d18_208 rfl (by decide) (pcY := 215) rfl (fun (hb208 : (own_sv ch_502) = (0 : Int32)) => ?_) (fun (hb208 : ¬ (own_sv ch_502) = (0 : Int32)) => ?_)
      ·
       refine own_iload (pc' := 217) w570 own_d18_215 rfl rfl ?_
       refine own_if (pc' := 220) w570 own_d18_217 rfl (by decide) (pcY := 224) rfl (fun (hb217 : (own_sv ch_491) = (0 : Int32)) => absurd hb217 hb168) (fun (hb217 : ¬ (own_sv ch_491) = (0 : Int32)) => ?_)
       refine own_iconst (pc' := 221) w570 own_d18_220 (x := (3 : Int32)) rfl rfl ?_
       refine own_goto w570 own_d18_221 (by decide) (pc' := 244) rfl ?_
       refine own_istore (pc' := 246) w570 own_d18_244 (Ls' := #[.val (.int i0), .val (.int i1), .val (.int i2), .val (.int i3), .val (.int i4), .val (.int i5), .val (.int (5 : Int32)), .val (.ref a462), .val (.ref r_538), .val (.int (own_sv ch_469)), .val (.int (own_sv ch_480)), .val (.int (own_sv ch_491)), .val (.int (own_sv ch_502)), .val (.int (own_sv ch_513)), .val (.int (2 : Int32)), .val (.int (3 : Int32)), .unset]) rfl rfl ?_
       refine own_iload (pc' := 248) w570 own_d18_246 rfl rfl ?_
       refine own_iload (pc' := 250) w570 own_d18_248 rfl rfl ?_
       refine own_isub (pc' := 251) w570 own_d18_250 (z := (1 : Int32)) (by decide) rfl ?_
       refine own_istore (pc' := 253) w570 own_d18_251 (Ls' := #[.val (.int i0), .val (.int i1), .val (.int i2), .val (.int i3), .val (.int i4), .val (.int i5), .val (.int (5 : Int32)), .val (.ref a462), .val (.ref r_538), .val (.int (own_sv ch_469)), .val (.int (own_sv ch_480)), .val (.int (own_sv ch_491)), .val (.int (own_sv ch_502)), .val (.int (own_sv ch_513)), .val (.int (2 : Int32)), .val (.int (3 : Int32)), .val (.int (1 : Int32))]) rfl rfl ?_
       have k_ch_469 := own_ns1 hb150
       have k_ch_480 := own_ns1 hb159
       have k_ch_491 := own_ns0 hb168
       have k_ch_513 := own_ns1 hb199
       have k_ch_502 := own_ns1 hb208
       have hds : ds_543 = ([ch_491] : List Int32) := p96_trim5_3.trans (by simp [own_trim, List.dropWhile, k_ch_469, k_ch_480, k_ch_491, k_ch_513, k_ch_502])
       subst hds
       exact own_tl_law l Z a0 hw EL hE n0 h0 i0 i1 i2 i3 i4 i5 z5 fm (5 : Int32) a462 r_538 (own_sv ch_469) (own_sv ch_480) (own_sv ch_491) (own_sv ch_502) (own_sv ch_513) (2 : Int32) (3 : Int32) (1 : Int32) t2_539 kA_540 N2_541 vs2_542 ([ch_491] : List Int32) k_a462 (5 : Int32) [(.int ch_469), (.int ch_480), (.int ch_491), (.int ch_502), (.int ch_513)] (own_more w570 (by decide) (by decide) all0) K S_COMPACT_STRINGS P5 S_SIOOBE_FORMATTER hfm hE151 hEL E_r_538 F_r_538_coder F_r_538_value A_t2_539 p96_trim5_0 p96_trim5_1 p96_trim5_2 A_a462 rfl (fun _ => ⟨Nat.le_of_ble_eq_true rfl, by decide, rfl⟩) (fun h => absurd h (by decide)) (fun h => absurd h (by decide)) (fun h => absurd h (by decide)) (fun h => absurd h (by decide))
      ·
       refine own_iconst (pc' := 212) w570 own_d18_211 (x := (4 : Int32)) rfl rfl ?_
       refine own_goto w570 own_d18_212 (by decide) (pc' := 244) rfl ?_
       refine own_istore (pc' := 246) w570 own_d18_244 (Ls' := #[.val (.int i0), .val (.int i1), .val (.int i2), .val (.int i3), .val (.int i4), .val (.int i5), .val (.int (5 : Int32)), .val (.ref a462), .val (.ref r_538), .val (.int (own_sv ch_469)), .val (.int (own_sv ch_480)), .val (.int (own_sv ch_491)), .val (.int (own_sv ch_502)), .val (.int (own_sv ch_513)), .val (.int (2 : Int32)), .val (.int (4 : Int32)), .unset]) rfl rfl ?_
       refine own_iload (pc' := 248) w570 own_d18_246 rfl rfl ?_
       refine own_iload (pc' := 250) w570 own_d18_248 rfl rfl ?_
       refine own_isub (pc' := 251) w570 own_d18_250 (z := (2 : Int32)) (by decide) rfl ?_
       refine own_istore (pc' := 253) w570 own_d18_251 (Ls' := #[.val (.int i0), .val (.int i1), .val (.int i2), .val (.int i3), .val (.int i4), .val (.int i5), .val (.int (5 : Int32)), .val (.ref a462), .val (.ref r_538), .val (.int (own_sv ch_469)), .val (.int (own_sv ch_480)), .val (.int (own_sv ch_491)), .val (.int (own_sv ch_502)), .val (.int (own_sv ch_513)), .val (.int (2 : Int32)), .val (.int (4 : Int32)), .val (.int (2 : Int32))]) rfl rfl ?_
       have k_ch_469 := own_ns1 hb150
       have k_ch_480 := own_ns1 hb159
       have k_ch_491 := own_ns0 hb168
       have k_ch_513 := own_ns1 hb199
       have k_ch_502 := own_ns0 hb208
       have hds : ds_543 = ([ch_491, ch_502] : List Int32) := p96_trim5_3.trans (by simp [own_trim, List.dropWhile, k_ch_469, k_ch_480, k_ch_491, k_ch_513, k_ch_502])
       subst hds
       exact own_tl_law l Z a0 hw EL hE n0 h0 i0 i1 i2 i3 i4 i5 z5 fm (5 : Int32) a462 r_538 (own_sv ch_469) (own_sv ch_480) (own_sv ch_491) (own_sv ch_502) (own_sv ch_513) (2 : Int32) (4 : Int32) (2 : Int32) t2_539 kA_540 N2_541 vs2_542 ([ch_491, ch_502] : List Int32) k_a462 (5 : Int32) [(.int ch_469), (.int ch_480), (.int ch_491), (.int ch_502), (.int ch_513)] (own_more w570 (by decide) (by decide) all0) K S_COMPACT_STRINGS P5 S_SIOOBE_FORMATTER hfm hE151 hEL E_r_538 F_r_538_coder F_r_538_value A_t2_539 p96_trim5_0 p96_trim5_1 p96_trim5_2 A_a462 rfl (fun _ => ⟨Nat.le_of_ble_eq_true rfl, by decide, rfl⟩) (fun _ => ⟨Nat.le_of_ble_eq_true rfl, by decide, rfl⟩) (fun h => absurd h (by decide)) (fun h => absurd h (by decide)) (fun h => absurd h (by decide))
     ·
      refine own_iconst (pc' := 203) w570 own_d18_202 (x := (5 : Int32)) rfl rfl ?_
      refine own_goto w570 own_d18_203 (by decide) (pc' := 244) rfl ?_
      refine own_istore (pc' := 246) w570 own_d18_244 (Ls' := #[.val (.int i0), .val (.int i1), .val (.int i2), .val (.int i3), .val (.int i4), .val (.int i5), .val (.int (5 : Int32)), .val (.ref a462), .val (.ref r_538), .val (.int (own_sv ch_469)), .val (.int (own_sv ch_480)), .val (.int (own_sv ch_491)), .val (.int (own_sv ch_502)), .val (.int (own_sv ch_513)), .val (.int (2 : Int32)), .val (.int (5 : Int32)), .unset]) rfl rfl ?_
      refine own_iload (pc' := 248) w570 own_d18_246 rfl rfl ?_
      refine own_iload (pc' := 250) w570 own_d18_248 rfl rfl ?_
      refine own_isub (pc' := 251) w570 own_d18_250 (z := (3 : Int32)) (by decide) rfl ?_
      refine own_istore (pc' := 253) w570 own_d18_251 (Ls' := #[.val (.int i0), .val (.int i1), .val (.int i2), .val (.int i3), .val (.int i4), .val (.int i5), .val (.int (5 : Int32)), .val (.ref a462), .val (.ref r_538), .val (.int (own_sv ch_469)), .val (.int (own_sv ch_480)), .val (.int (own_sv ch_491)), .val (.int (own_sv ch_502)), .val (.int (own_sv ch_513)), .val (.int (2 : Int32)), .val (.int (5 : Int32)), .val (.int (3 : Int32))]) rfl rfl ?_
      have k_ch_469 := own_ns1 hb150
      have k_ch_480 := own_ns1 hb159
      have k_ch_491 := own_ns0 hb168
      have k_ch_513 := own_ns0 hb199
      have hds : ds_543 = ([ch_491, ch_502, ch_513] : List Int32) := p96_trim5_3.trans (by simp [own_trim, List.dropWhile, k_ch_469, k_ch_480, k_ch_491, k_ch_513])
      subst hds
      exact own_tl_law l Z a0 hw EL hE n0 h0 i0 i1 i2 i3 i4 i5 z5 fm (5 : Int32) a462 r_538 (own_sv ch_469) (own_sv ch_480) (own_sv ch_491) (own_sv ch_502) (own_sv ch_513) (2 : Int32) (5 : Int32) (3 : Int32) t2_539 kA_540 N2_541 vs2_542 ([ch_491, ch_502, ch_513] : List Int32) k_a462 (5 : Int32) [(.int ch_469), (.int ch_480), (.int ch_491), (.int ch_502), (.int ch_513)] (own_more w570 (by decide) (by decide) all0) K S_COMPACT_STRINGS P5 S_SIOOBE_FORMATTER hfm hE151 hEL E_r_538 F_r_538_coder F_r_538_value A_t2_539 p96_trim5_0 p96_trim5_1 p96_trim5_2 A_a462 rfl (fun _ => ⟨Nat.le_of_ble_eq_true rfl, by decide, rfl⟩) (fun _ => ⟨Nat.le_of_ble_eq_true rfl, by decide, rfl⟩) (fun _ => ⟨Nat.le_of_ble_eq_true rfl, by decide, rfl⟩) (fun h => absurd h (by decide)) (fun h => absurd h (by decide))
   ·
    refine own_iconst (pc' := 163) w570 own_d18_162 (x := (1 : Int32)) rfl rfl ?_
    refine own_goto w570 own_d18_163 (by decide) (pc' := 195) rfl ?_
    refine own_istore (pc' := 197) w570 own_d18_195 (Ls' := #[.val (.int i0), .val (.int i1), .val (.int i2), .val (.int i3), .val (.int i4), .val (.int i5), .val (.int (5 : Int32)), .val (.ref a462), .val (.ref r_538), .val (.int (own_sv ch_469)), .val (.int (own_sv ch_480)), .val (.int (own_sv ch_491)), .val (.int (own_sv ch_502)), .val (.int (own_sv ch_513)), .val (.int (1 : Int32)), .unset, .unset]) rfl rfl ?_
    refine own_iload (pc' := 199) w570 own_d18_197 rfl rfl ?_
    refine own_if (pc' := 202) w570 own_d18_199 rfl (by decide) (pcY := 206) rfl (fun (hb199 : (own_sv ch_513) = (0 : Int32)) => ?_) (fun (hb199 : ¬ (own_sv ch_513) = (0 : Int32)) => ?_)
    ·
     refine own_iload (pc' := 208) w570 own_d18_206 rfl rfl ?_
     refine own_if (pc' := 211) w570 own_d18_208 rfl (by decide) (pcY := 215) rfl (fun (hb208 : (own_sv ch_502) = (0 : Int32)) => ?_) (fun (hb208 : ¬ (own_sv ch_502) = (0 : Int32)) => ?_)
     ·
      refine own_iload (pc' := 217) w570 own_d18_215 rfl rfl ?_
      refine own_if (pc' := 220) w570 own_d18_217 rfl (by decide) (pcY := 224) rfl (fun (hb217 : (own_sv ch_491) = (0 : Int32)) => ?_) (fun (hb217 : ¬ (own_sv ch_491) = (0 : Int32)) => ?_)
      ·
       refine own_iload (pc' := 226) w570 own_d18_224 rfl rfl ?_
       refine own_if (pc' := 229) w570 own_d18_226 rfl (by decide) (pcY := 233) rfl (fun (hb226 : (own_sv ch_480) = (0 : Int32)) => absurd hb226 hb159) (fun (hb226 : ¬ (own_sv ch_480) = (0 : Int32)) => ?_)
       refine own_iconst (pc' := 230) w570 own_d18_229 (x := (2 : Int32)) rfl rfl ?_
       refine own_goto w570 own_d18_230 (by decide) (pc' := 244) rfl ?_
       refine own_istore (pc' := 246) w570 own_d18_244 (Ls' := #[.val (.int i0), .val (.int i1), .val (.int i2), .val (.int i3), .val (.int i4), .val (.int i5), .val (.int (5 : Int32)), .val (.ref a462), .val (.ref r_538), .val (.int (own_sv ch_469)), .val (.int (own_sv ch_480)), .val (.int (own_sv ch_491)), .val (.int (own_sv ch_502)), .val (.int (own_sv ch_513)), .val (.int (1 : Int32)), .val (.int (2 : Int32)), .unset]) rfl rfl ?_
       refine own_iload (pc' := 248) w570 own_d18_246 rfl rfl ?_
       refine own_iload (pc' := 250) w570 own_d18_248 rfl rfl ?_
       refine own_isub (pc' := 251) w570 own_d18_250 (z := (1 : Int32)) (by decide) rfl ?_
       refine own_istore (pc' := 253) w570 own_d18_251 (Ls' := #[.val (.int i0), .val (.int i1), .val (.int i2), .val (.int i3), .val (.int i4), .val (.int i5), .val (.int (5 : Int32)), .val (.ref a462), .val (.ref r_538), .val (.int (own_sv ch_469)), .val (.int (own_sv ch_480)), .val (.int (own_sv ch_491)), .val (.int (own_sv ch_502)), .val (.int (own_sv ch_513)), .val (.int (1 : Int32)), .val (.int (2 : Int32)), .val (.int (1 : Int32))]) rfl rfl ?_
       have k_ch_469 := own_ns1 hb150
       have k_ch_480 := own_ns0 hb159
       have k_ch_513 := own_ns1 hb199
       have k_ch_502 := own_ns1 hb208
       have k_ch_491 := own_ns1 hb217
       have hds : ds_543 = ([ch_480] : List Int32) := p96_trim5_3.trans (by simp [own_trim, List.dropWhile, k_ch_469, k_ch_480, k_ch_513, k_ch_502, k_ch_491])
       subst hds
       exact own_tl_law l Z a0 hw EL hE n0 h0 i0 i1 i2 i3 i4 i5 z5 fm (5 : Int32) a462 r_538 (own_sv ch_469) (own_sv ch_480) (own_sv ch_491) (own_sv ch_502) (own_sv ch_513) (1 : Int32) (2 : Int32) (1 : Int32) t2_539 kA_540 N2_541 vs2_542 ([ch_480] : List Int32) k_a462 (5 : Int32) [(.int ch_469), (.int ch_480), (.int ch_491), (.int ch_502), (.int ch_513)] (own_more w570 (by decide) (by decide) all0) K S_COMPACT_STRINGS P5 S_SIOOBE_FORMATTER hfm hE151 hEL E_r_538 F_r_538_coder F_r_538_value A_t2_539 p96_trim5_0 p96_trim5_1 p96_trim5_2 A_a462 rfl (fun _ => ⟨Nat.le_of_ble_eq_true rfl, by decide, rfl⟩) (fun h => absurd h (by decide)) (fun h => absurd h (by decide)) (fun h => absurd h (by decide)) (fun h => absurd h (by decide))
      ·
       refine own_iconst (pc' := 221) w570 own_d18_220 (x := (3 : Int32)) rfl rfl ?_
       refine own_goto w570 own_d18_221 (by decide) (pc' := 244) rfl ?_
       refine own_istore (pc' := 246) w570 own_d18_244 (Ls' := #[.val (.int i0), .val (.int i1), .val (.int i2), .val (.int i3), .val (.int i4), .val (.int i5), .val (.int (5 : Int32)), .val (.ref a462), .val (.ref r_538), .val (.int (own_sv ch_469)), .val (.int (own_sv ch_480)), .val (.int (own_sv ch_491)), .val (.int (own_sv ch_502)), .val (.int (own_sv ch_513)), .val (.int (1 : Int32)), .val (.int (3 : Int32)), .unset]) rfl rfl ?_
       refine own_iload (pc' := 248) w570 own_d18_246 rfl rfl ?_
       refine own_iload (pc' := 250) w570 own_d18_248 rfl rfl ?_
       refine own_isub (pc' := 251) w570 own_d18_250 (z := (2 : Int32)) (by decide) rfl ?_
       refine own_istore (pc' := 253) w570 own_d18_251 (Ls' := #[.val (.int i0), .val (.int i1), .val (.int i2), .val (.int i3), .val (.int i4), .val (.int i5), .val (.int (5 : Int32)), .val (.ref a462), .val (.ref r_538), .val (.int (own_sv ch_469)), .val (.int (own_sv ch_480)), .val (.int (own_sv ch_491)), .val (.int (own_sv ch_502)), .val (.int (own_sv ch_513)), .val (.int (1 : Int32)), .val (.int (3 : Int32)), .val (.int (2 : Int32))]) rfl rfl ?_
       have k_ch_469 := own_ns1 hb150
       have k_ch_480 := own_ns0 hb159
       have k_ch_513 := own_ns1 hb199
       have k_ch_502 := own_ns1 hb208
       have k_ch_491 := own_ns0 hb217
       have hds : ds_543 = ([ch_480, ch_491] : List Int32) := p96_trim5_3.trans (by simp [own_trim, List.dropWhile, k_ch_469, k_ch_480, k_ch_513, k_ch_502, k_ch_491])
       subst hds
       exact own_tl_law l Z a0 hw EL hE n0 h0 i0 i1 i2 i3 i4 i5 z5 fm (5 : Int32) a462 r_538 (own_sv ch_469) (own_sv ch_480) (own_sv ch_491) (own_sv ch_502) (own_sv ch_513) (1 : Int32) (3 : Int32) (2 : Int32) t2_539 kA_540 N2_541 vs2_542 ([ch_480, ch_491] : List Int32) k_a462 (5 : Int32) [(.int ch_469), (.int ch_480), (.int ch_491), (.int ch_502), (.int ch_513)] (own_more w570 (by decide) (by decide) all0) K S_COMPACT_STRINGS P5 S_SIOOBE_FORMATTER hfm hE151 hEL E_r_538 F_r_538_coder F_r_538_value A_t2_539 p96_trim5_0 p96_trim5_1 p96_trim5_2 A_a462 rfl (fun _ => ⟨Nat.le_of_ble_eq_true rfl, by decide, rfl⟩) (fun _ => ⟨Nat.le_of_ble_eq_true rfl, by decide, rfl⟩) (fun h => absurd h (by decide)) (fun h => absurd h (by decide)) (fun h => absurd h (by decide))
     ·
      refine own_iconst (pc' := 212) w570 own_d18_211 (x := (4 : Int32)) rfl rfl ?_
      refine own_goto w570 own_d18_212 (by decide) (pc' := 244) rfl ?_
      refine own_istore (pc' := 246) w570 own_d18_244 (Ls' := #[.val (.int i0), .val (.int i1), .val (.int i2), .val (.int i3), .val (.int i4), .val (.int i5), .val (.int (5 : Int32)), .val (.ref a462), .val (.ref r_538), .val (.int (own_sv ch_469)), .val (.int (own_sv ch_480)), .val (.int (own_sv ch_491)), .val (.int (own_sv ch_502)), .val (.int (own_sv ch_513)), .val (.int (1 : Int32)), .val (.int (4 : Int32)), .unset]) rfl rfl ?_
      refine own_iload (pc' := 248) w570 own_d18_246 rfl rfl ?_
      refine own_iload (pc' := 250) w570 own_d18_248 rfl rfl ?_
      refine own_isub (pc' := 251) w570 own_d18_250 (z := (3 : Int32)) (by decide) rfl ?_
      refine own_istore (pc' := 253) w570 own_d18_251 (Ls' := #[.val (.int i0), .val (.int i1), .val (.int i2), .val (.int i3), .val (.int i4), .val (.int i5), .val (.int (5 : Int32)), .val (.ref a462), .val (.ref r_538), .val (.int (own_sv ch_469)), .val (.int (own_sv ch_480)), .val (.int (own_sv ch_491)), .val (.int (own_sv ch_502)), .val (.int (own_sv ch_513)), .val (.int (1 : Int32)), .val (.int (4 : Int32)), .val (.int (3 : Int32))]) rfl rfl ?_
      have k_ch_469 := own_ns1 hb150
      have k_ch_480 := own_ns0 hb159
      have k_ch_513 := own_ns1 hb199
      have k_ch_502 := own_ns0 hb208
      have hds : ds_543 = ([ch_480, ch_491, ch_502] : List Int32) := p96_trim5_3.trans (by simp [own_trim, List.dropWhile, k_ch_469, k_ch_480, k_ch_513, k_ch_502])
      subst hds
      exact own_tl_law l Z a0 hw EL hE n0 h0 i0 i1 i2 i3 i4 i5 z5 fm (5 : Int32) a462 r_538 (own_sv ch_469) (own_sv ch_480) (own_sv ch_491) (own_sv ch_502) (own_sv ch_513) (1 : Int32) (4 : Int32) (3 : Int32) t2_539 kA_540 N2_541 vs2_542 ([ch_480, ch_491, ch_502] : List Int32) k_a462 (5 : Int32) [(.int ch_469), (.int ch_480), (.int ch_491), (.int ch_502), (.int ch_513)] (own_more w570 (by decide) (by decide) all0) K S_COMPACT_STRINGS P5 S_SIOOBE_FORMATTER hfm hE151 hEL E_r_538 F_r_538_coder F_r_538_value A_t2_539 p96_trim5_0 p96_trim5_1 p96_trim5_2 A_a462 rfl (fun _ => ⟨Nat.le_of_ble_eq_true rfl, by decide, rfl⟩) (fun _ => ⟨Nat.le_of_ble_eq_true rfl, by decide, rfl⟩) (fun _ => ⟨Nat.le_of_ble_eq_true rfl, by decide, rfl⟩) (fun h => absurd h (by decide)) (fun h => absurd h (by decide))
    ·
     refine own_iconst (pc' := 203) w570 own_d18_202 (x := (5 : Int32)) rfl rfl ?_
     refine own_goto w570 own_d18_203 (by decide) (pc' := 244) rfl ?_
     refine own_istore (pc' := 246) w570 own_d18_244 (Ls' := #[.val (.int i0), .val (.int i1), .val (.int i2), .val (.int i3), .val (.int i4), .val (.int i5), .val (.int (5 : Int32)), .val (.ref a462), .val (.ref r_538), .val (.int (own_sv ch_469)), .val (.int (own_sv ch_480)), .val (.int (own_sv ch_491)), .val (.int (own_sv ch_502)), .val (.int (own_sv ch_513)), .val (.int (1 : Int32)), .val (.int (5 : Int32)), .unset]) rfl rfl ?_
     refine own_iload (pc' := 248) w570 own_d18_246 rfl rfl ?_
     refine own_iload (pc' := 250) w570 own_d18_248 rfl rfl ?_
     refine own_isub (pc' := 251) w570 own_d18_250 (z := (4 : Int32)) (by decide) rfl ?_
     refine own_istore (pc' := 253) w570 own_d18_251 (Ls' := #[.val (.int i0), .val (.int i1), .val (.int i2), .val (.int i3), .val (.int i4), .val (.int i5), .val (.int (5 : Int32)), .val (.ref a462), .val (.ref r_538), .val (.int (own_sv ch_469)), .val (.int (own_sv ch_480)), .val (.int (own_sv ch_491)), .val (.int (own_sv ch_502)), .val (.int (own_sv ch_513)), .val (.int (1 : Int32)), .val (.int (5 : Int32)), .val (.int (4 : Int32))]) rfl rfl ?_
     have k_ch_469 := own_ns1 hb150
     have k_ch_480 := own_ns0 hb159
     have k_ch_513 := own_ns0 hb199
     have hds : ds_543 = ([ch_480, ch_491, ch_502, ch_513] : List Int32) := p96_trim5_3.trans (by simp [own_trim, List.dropWhile, k_ch_469, k_ch_480, k_ch_513])
     subst hds
     exact own_tl_law l Z a0 hw EL hE n0 h0 i0 i1 i2 i3 i4 i5 z5 fm (5 : Int32) a462 r_538 (own_sv ch_469) (own_sv ch_480) (own_sv ch_491) (own_sv ch_502) (own_sv ch_513) (1 : Int32) (5 : Int32) (4 : Int32) t2_539 kA_540 N2_541 vs2_542 ([ch_480, ch_491, ch_502, ch_513] : List Int32) k_a462 (5 : Int32) [(.int ch_469), (.int ch_480), (.int ch_491), (.int ch_502), (.int ch_513)] (own_more w570 (by decide) (by decide) all0) K S_COMPACT_STRINGS P5 S_SIOOBE_FORMATTER hfm hE151 hEL E_r_538 F_r_538_coder F_r_538_value A_t2_539 p96_trim5_0 p96_trim5_1 p96_trim5_2 A_a462 rfl (fun _ => ⟨Nat.le_of_ble_eq_true rfl, by decide, rfl⟩) (fun _ => ⟨Nat.le_of_ble_eq_true rfl, by decide, rfl⟩) (fun _ => ⟨Nat.le_of_ble_eq_true rfl, by decide, rfl⟩) (fun _ => ⟨Nat.le_of_ble_eq_true rfl, by decide, rfl⟩) (fun h => absurd h (by decide))
  ·
   refine own_iconst (pc' := 154) w570 own_d18_153 (x := (0 : Int32)) rfl rfl ?_
   refine own_goto w570 own_d18_154 (by decide) (pc' := 195) rfl ?_
   refine own_istore (pc' := 197) w570 own_d18_195 (Ls' := #[.val (.int i0), .val (.int i1), .val (.int i2), .val (.int i3), .val (.int i4), .val (.int i5), .val (.int (5 : Int32)), .val (.ref a462), .val (.ref r_538), .val (.int (own_sv ch_469)), .val (.int (own_sv ch_480)), .val (.int (own_sv ch_491)), .val (.int (own_sv ch_502)), .val (.int (own_sv ch_513)), .val (.int (0 : Int32)), .unset, .unset]) rfl rfl ?_
   refine own_iload (pc' := 199) w570 own_d18_197 rfl rfl ?_
   refine own_if (pc' := 202) w570 own_d18_199 rfl (by decide) (pcY := 206) rfl (fun (hb199 : (own_sv ch_513) = (0 : Int32)) => ?_) (fun (hb199 : ¬ (own_sv ch_513) = (0 : Int32)) => ?_)
   ·
    refine own_iload (pc' := 208) w570 own_d18_206 rfl rfl ?_
    refine own_if (pc' := 211) w570 own_d18_208 rfl (by decide) (pcY := 215) rfl (fun (hb208 : (own_sv ch_502) = (0 : Int32)) => ?_) (fun (hb208 : ¬ (own_sv ch_502) = (0 : Int32)) => ?_)
    ·
     refine own_iload (pc' := 217) w570 own_d18_215 rfl rfl ?_
     refine own_if (pc' := 220) w570 own_d18_217 rfl (by decide) (pcY := 224) rfl (fun (hb217 : (own_sv ch_491) = (0 : Int32)) => ?_) (fun (hb217 : ¬ (own_sv ch_491) = (0 : Int32)) => ?_)
     ·
      refine own_iload (pc' := 226) w570 own_d18_224 rfl rfl ?_
      refine own_if (pc' := 229) w570 own_d18_226 rfl (by decide) (pcY := 233) rfl (fun (hb226 : (own_sv ch_480) = (0 : Int32)) => ?_) (fun (hb226 : ¬ (own_sv ch_480) = (0 : Int32)) => ?_)
      ·
       refine own_iload (pc' := 235) w570 own_d18_233 rfl rfl ?_
       refine own_if (pc' := 238) w570 own_d18_235 rfl (by decide) (pcY := 242) rfl (fun (hb235 : (own_sv ch_469) = (0 : Int32)) => absurd hb235 hb150) (fun (hb235 : ¬ (own_sv ch_469) = (0 : Int32)) => ?_)
       refine own_iconst (pc' := 239) w570 own_d18_238 (x := (1 : Int32)) rfl rfl ?_
       refine own_goto w570 own_d18_239 (by decide) (pc' := 244) rfl ?_
       refine own_istore (pc' := 246) w570 own_d18_244 (Ls' := #[.val (.int i0), .val (.int i1), .val (.int i2), .val (.int i3), .val (.int i4), .val (.int i5), .val (.int (5 : Int32)), .val (.ref a462), .val (.ref r_538), .val (.int (own_sv ch_469)), .val (.int (own_sv ch_480)), .val (.int (own_sv ch_491)), .val (.int (own_sv ch_502)), .val (.int (own_sv ch_513)), .val (.int (0 : Int32)), .val (.int (1 : Int32)), .unset]) rfl rfl ?_
       refine own_iload (pc' := 248) w570 own_d18_246 rfl rfl ?_
       refine own_iload (pc' := 250) w570 own_d18_248 rfl rfl ?_
       refine own_isub (pc' := 251) w570 own_d18_250 (z := (1 : Int32)) (by decide) rfl ?_
       refine own_istore (pc' := 253) w570 own_d18_251 (Ls' := #[.val (.int i0), .val (.int i1), .val (.int i2), .val (.int i3), .val (.int i4), .val (.int i5), .val (.int (5 : Int32)), .val (.ref a462), .val (.ref r_538), .val (.int (own_sv ch_469)), .val (.int (own_sv ch_480)), .val (.int (own_sv ch_491)), .val (.int (own_sv ch_502)), .val (.int (own_sv ch_513)), .val (.int (0 : Int32)), .val (.int (1 : Int32)), .val (.int (1 : Int32))]) rfl rfl ?_
       have k_ch_469 := own_ns0 hb150
       have k_ch_513 := own_ns1 hb199
       have k_ch_502 := own_ns1 hb208
       have k_ch_491 := own_ns1 hb217
       have k_ch_480 := own_ns1 hb226
       have hds : ds_543 = ([ch_469] : List Int32) := p96_trim5_3.trans (by simp [own_trim, List.dropWhile, k_ch_469, k_ch_513, k_ch_502, k_ch_491, k_ch_480])
       subst hds
       exact own_tl_law l Z a0 hw EL hE n0 h0 i0 i1 i2 i3 i4 i5 z5 fm (5 : Int32) a462 r_538 (own_sv ch_469) (own_sv ch_480) (own_sv ch_491) (own_sv ch_502) (own_sv ch_513) (0 : Int32) (1 : Int32) (1 : Int32) t2_539 kA_540 N2_541 vs2_542 ([ch_469] : List Int32) k_a462 (5 : Int32) [(.int ch_469), (.int ch_480), (.int ch_491), (.int ch_502), (.int ch_513)] (own_more w570 (by decide) (by decide) all0) K S_COMPACT_STRINGS P5 S_SIOOBE_FORMATTER hfm hE151 hEL E_r_538 F_r_538_coder F_r_538_value A_t2_539 p96_trim5_0 p96_trim5_1 p96_trim5_2 A_a462 rfl (fun _ => ⟨Nat.le_of_ble_eq_true rfl, by decide, rfl⟩) (fun h => absurd h (by decide)) (fun h => absurd h (by decide)) (fun h => absurd h (by decide)) (fun h => absurd h (by decide))
      ·
       refine own_iconst (pc' := 230) w570 own_d18_229 (x := (2 : Int32)) rfl rfl ?_
       refine own_goto w570 own_d18_230 (by decide) (pc' := 244) rfl ?_
       refine own_istore (pc' := 246) w570 own_d18_244 (Ls' := #[.val (.int i0), .val (.int i1), .val (.int i2), .val (.int i3), .val (.int i4), .val (.int i5), .val (.int (5 : Int32)), .val (.ref a462), .val (.ref r_538), .val (.int (own_sv ch_469)), .val (.int (own_sv ch_480)), .val (.int (own_sv ch_491)), .val (.int (own_sv ch_502)), .val (.int (own_sv ch_513)), .val (.int (0 : Int32)), .val (.int (2 : Int32)), .unset]) rfl rfl ?_
       refine own_iload (pc' := 248) w570 own_d18_246 rfl rfl ?_
       refine own_iload (pc' := 250) w570 own_d18_248 rfl rfl ?_
       refine own_isub (pc' := 251) w570 own_d18_250 (z := (2 : Int32)) (by decide) rfl ?_
       refine own_istore (pc' := 253) w570 own_d18_251 (Ls' := #[.val (.int i0), .val (.int i1), .val (.int i2), .val (.int i3), .val (.int i4), .val (.int i5), .val (.int (5 : Int32)), .val (.ref a462), .val (.ref r_538), .val (.int (own_sv ch_469)), .val (.int (own_sv ch_480)), .val (.int (own_sv ch_491)), .val (.int (own_sv ch_502)), .val (.int (own_sv ch_513)), .val (.int (0 : Int32)), .val (.int (2 : Int32)), .val (.int (2 : Int32))]) rfl rfl ?_
       have k_ch_469 := own_ns0 hb150
       have k_ch_513 := own_ns1 hb199
       have k_ch_502 := own_ns1 hb208
       have k_ch_491 := own_ns1 hb217
       have k_ch_480 := own_ns0 hb226
       have hds : ds_543 = ([ch_469, ch_480] : List Int32) := p96_trim5_3.trans (by simp [own_trim, List.dropWhile, k_ch_469, k_ch_513, k_ch_502, k_ch_491, k_ch_480])
       subst hds
       exact own_tl_law l Z a0 hw EL hE n0 h0 i0 i1 i2 i3 i4 i5 z5 fm (5 : Int32) a462 r_538 (own_sv ch_469) (own_sv ch_480) (own_sv ch_491) (own_sv ch_502) (own_sv ch_513) (0 : Int32) (2 : Int32) (2 : Int32) t2_539 kA_540 N2_541 vs2_542 ([ch_469, ch_480] : List Int32) k_a462 (5 : Int32) [(.int ch_469), (.int ch_480), (.int ch_491), (.int ch_502), (.int ch_513)] (own_more w570 (by decide) (by decide) all0) K S_COMPACT_STRINGS P5 S_SIOOBE_FORMATTER hfm hE151 hEL E_r_538 F_r_538_coder F_r_538_value A_t2_539 p96_trim5_0 p96_trim5_1 p96_trim5_2 A_a462 rfl (fun _ => ⟨Nat.le_of_ble_eq_true rfl, by decide, rfl⟩) (fun _ => ⟨Nat.le_of_ble_eq_true rfl, by decide, rfl⟩) (fun h => absurd h (by decide)) (fun h => absurd h (by decide)) (fun h => absurd h (by decide))
     ·
      refine own_iconst (pc' := 221) w570 own_d18_220 (x := (3 : Int32)) rfl rfl ?_
      refine own_goto w570 own_d18_221 (by decide) (pc' := 244) rfl ?_
      refine own_istore (pc' := 246) w570 own_d18_244 (Ls' := #[.val (.int i0), .val (.int i1), .val (.int i2), .val (.int i3), .val (.int i4), .val (.int i5), .val (.int (5 : Int32)), .val (.ref a462), .val (.ref r_538), .val (.int (own_sv ch_469)), .val (.int (own_sv ch_480)), .val (.int (own_sv ch_491)), .val (.int (own_sv ch_502)), .val (.int (own_sv ch_513)), .val (.int (0 : Int32)), .val (.int (3 : Int32)), .unset]) rfl rfl ?_
      refine own_iload (pc' := 248) w570 own_d18_246 rfl rfl ?_
      refine own_iload (pc' := 250) w570 own_d18_248 rfl rfl ?_
      refine own_isub (pc' := 251) w570 own_d18_250 (z := (3 : Int32)) (by decide) rfl ?_
      refine own_istore (pc' := 253) w570 own_d18_251 (Ls' := #[.val (.int i0), .val (.int i1), .val (.int i2), .val (.int i3), .val (.int i4), .val (.int i5), .val (.int (5 : Int32)), .val (.ref a462), .val (.ref r_538), .val (.int (own_sv ch_469)), .val (.int (own_sv ch_480)), .val (.int (own_sv ch_491)), .val (.int (own_sv ch_502)), .val (.int (own_sv ch_513)), .val (.int (0 : Int32)), .val (.int (3 : Int32)), .val (.int (3 : Int32))]) rfl rfl ?_
      have k_ch_469 := own_ns0 hb150
      have k_ch_513 := own_ns1 hb199
      have k_ch_502 := own_ns1 hb208
      have k_ch_491 := own_ns0 hb217
      have hds : ds_543 = ([ch_469, ch_480, ch_491] : List Int32) := p96_trim5_3.trans (by simp [own_trim, List.dropWhile, k_ch_469, k_ch_513, k_ch_502, k_ch_491])
      subst hds
      exact own_tl_law l Z a0 hw EL hE n0 h0 i0 i1 i2 i3 i4 i5 z5 fm (5 : Int32) a462 r_538 (own_sv ch_469) (own_sv ch_480) (own_sv ch_491) (own_sv ch_502) (own_sv ch_513) (0 : Int32) (3 : Int32) (3 : Int32) t2_539 kA_540 N2_541 vs2_542 ([ch_469, ch_480, ch_491] : List Int32) k_a462 (5 : Int32) [(.int ch_469), (.int ch_480), (.int ch_491), (.int ch_502), (.int ch_513)] (own_more w570 (by decide) (by decide) all0) K S_COMPACT_STRINGS P5 S_SIOOBE_FORMATTER hfm hE151 hEL E_r_538 F_r_538_coder F_r_538_value A_t2_539 p96_trim5_0 p96_trim5_1 p96_trim5_2 A_a462 rfl (fun _ => ⟨Nat.le_of_ble_eq_true rfl, by decide, rfl⟩) (fun _ => ⟨Nat.le_of_ble_eq_true rfl, by decide, rfl⟩) (fun _ => ⟨Nat.le_of_ble_eq_true rfl, by decide, rfl⟩) (fun h => absurd h (by decide)) (fun h => absurd h (by decide))
    ·
     refine own_iconst (pc' := 212) w570 own_d18_211 (x := (4 : Int32)) rfl rfl ?_
     refine own_goto w570 own_d18_212 (by decide) (pc' := 244) rfl ?_
     refine own_istore (pc' := 246) w570 own_d18_244 (Ls' := #[.val (.int i0), .val (.int i1), .val (.int i2), .val (.int i3), .val (.int i4), .val (.int i5), .val (.int (5 : Int32)), .val (.ref a462), .val (.ref r_538), .val (.int (own_sv ch_469)), .val (.int (own_sv ch_480)), .val (.int (own_sv ch_491)), .val (.int (own_sv ch_502)), .val (.int (own_sv ch_513)), .val (.int (0 : Int32)), .val (.int (4 : Int32)), .unset]) rfl rfl ?_
     refine own_iload (pc' := 248) w570 own_d18_246 rfl rfl ?_
     refine own_iload (pc' := 250) w570 own_d18_248 rfl rfl ?_
     refine own_isub (pc' := 251) w570 own_d18_250 (z := (4 : Int32)) (by decide) rfl ?_
     refine own_istore (pc' := 253) w570 own_d18_251 (Ls' := #[.val (.int i0), .val (.int i1), .val (.int i2), .val (.int i3), .val (.int i4), .val (.int i5), .val (.int (5 : Int32)), .val (.ref a462), .val (.ref r_538), .val (.int (own_sv ch_469)), .val (.int (own_sv ch_480)), .val (.int (own_sv ch_491)), .val (.int (own_sv ch_502)), .val (.int (own_sv ch_513)), .val (.int (0 : Int32)), .val (.int (4 : Int32)), .val (.int (4 : Int32))]) rfl rfl ?_
     have k_ch_469 := own_ns0 hb150
     have k_ch_513 := own_ns1 hb199
     have k_ch_502 := own_ns0 hb208
     have hds : ds_543 = ([ch_469, ch_480, ch_491, ch_502] : List Int32) := p96_trim5_3.trans (by simp [own_trim, List.dropWhile, k_ch_469, k_ch_513, k_ch_502])
     subst hds
     exact own_tl_law l Z a0 hw EL hE n0 h0 i0 i1 i2 i3 i4 i5 z5 fm (5 : Int32) a462 r_538 (own_sv ch_469) (own_sv ch_480) (own_sv ch_491) (own_sv ch_502) (own_sv ch_513) (0 : Int32) (4 : Int32) (4 : Int32) t2_539 kA_540 N2_541 vs2_542 ([ch_469, ch_480, ch_491, ch_502] : List Int32) k_a462 (5 : Int32) [(.int ch_469), (.int ch_480), (.int ch_491), (.int ch_502), (.int ch_513)] (own_more w570 (by decide) (by decide) all0) K S_COMPACT_STRINGS P5 S_SIOOBE_FORMATTER hfm hE151 hEL E_r_538 F_r_538_coder F_r_538_value A_t2_539 p96_trim5_0 p96_trim5_1 p96_trim5_2 A_a462 rfl (fun _ => ⟨Nat.le_of_ble_eq_true rfl, by decide, rfl⟩) (fun _ => ⟨Nat.le_of_ble_eq_true rfl, by decide, rfl⟩) (fun _ => ⟨Nat.le_of_ble_eq_true rfl, by decide, rfl⟩) (fun _ => ⟨Nat.le_of_ble_eq_true rfl, by decide, rfl⟩) (fun h => absurd h (by decide))
   ·
    refine own_iconst (pc' := 203) w570 own_d18_202 (x := (5 : Int32)) rfl rfl ?_
    refine own_goto w570 own_d18_203 (by decide) (pc' := 244) rfl ?_
    refine own_istore (pc' := 246) w570 own_d18_244 (Ls' := #[.val (.int i0), .val (.int i1), .val (.int i2), .val (.int i3), .val (.int i4), .val (.int i5), .val (.int (5 : Int32)), .val (.ref a462), .val (.ref r_538), .val (.int (own_sv ch_469)), .val (.int (own_sv ch_480)), .val (.int (own_sv ch_491)), .val (.int (own_sv ch_502)), .val (.int (own_sv ch_513)), .val (.int (0 : Int32)), .val (.int (5 : Int32)), .unset]) rfl rfl ?_
    refine own_iload (pc' := 248) w570 own_d18_246 rfl rfl ?_
    refine own_iload (pc' := 250) w570 own_d18_248 rfl rfl ?_
    refine own_isub (pc' := 251) w570 own_d18_250 (z := (5 : Int32)) (by decide) rfl ?_
    refine own_istore (pc' := 253) w570 own_d18_251 (Ls' := #[.val (.int i0), .val (.int i1), .val (.int i2), .val (.int i3), .val (.int i4), .val (.int i5), .val (.int (5 : Int32)), .val (.ref a462), .val (.ref r_538), .val (.int (own_sv ch_469)), .val (.int (own_sv ch_480)), .val (.int (own_sv ch_491)), .val (.int (own_sv ch_502)), .val (.int (own_sv ch_513)), .val (.int (0 : Int32)), .val (.int (5 : Int32)), .val (.int (5 : Int32))]) rfl rfl ?_
    have k_ch_469 := own_ns0 hb150
    have k_ch_513 := own_ns0 hb199
    have hds : ds_543 = ([ch_469, ch_480, ch_491, ch_502, ch_513] : List Int32) := p96_trim5_3.trans (by simp [own_trim, List.dropWhile, k_ch_469, k_ch_513])
    subst hds
    exact own_tl_law l Z a0 hw EL hE n0 h0 i0 i1 i2 i3 i4 i5 z5 fm (5 : Int32) a462 r_538 (own_sv ch_469) (own_sv ch_480) (own_sv ch_491) (own_sv ch_502) (own_sv ch_513) (0 : Int32) (5 : Int32) (5 : Int32) t2_539 kA_540 N2_541 vs2_542 ([ch_469, ch_480, ch_491, ch_502, ch_513] : List Int32) k_a462 (5 : Int32) [(.int ch_469), (.int ch_480), (.int ch_491), (.int ch_502), (.int ch_513)] (own_more w570 (by decide) (by decide) all0) K S_COMPACT_STRINGS P5 S_SIOOBE_FORMATTER hfm hE151 hEL E_r_538 F_r_538_coder F_r_538_value A_t2_539 p96_trim5_0 p96_trim5_1 p96_trim5_2 A_a462 rfl (fun _ => ⟨Nat.le_of_ble_eq_true rfl, by decide, rfl⟩) (fun _ => ⟨Nat.le_of_ble_eq_true rfl, by decide, rfl⟩) (fun _ => ⟨Nat.le_of_ble_eq_true rfl, by decide, rfl⟩) (fun _ => ⟨Nat.le_of_ble_eq_true rfl, by decide, rfl⟩) (fun _ => ⟨Nat.le_of_ble_eq_true rfl, by decide, rfl⟩)
set_option maxRecDepth 65536 in
set_option maxHeartbeats 40000000 in
theorem comes_1 {Post : Tables → Env → Array Value → State → Outcome → State → Prop} (hpost : ∀ tb e args s v u, (limb_1_1.after args s (.returned v) u = true ∧ limb_1_2.after args s (.returned v) u = true ∧ True) → ReturnedEndW s (.returned v) u (Jvm.fieldLocs frame_1_writes args s ++ Jvm.arrayLocs frame_1_arrays args s ++ Jvm.staticLocs frame_1_statics s) 24 2176 → Post tb e args s (.returned v) u) :
    ArmFor flags0 classFile x code maxLocals ret World_1 tables_1 room_1 Calls_1 rest_1 Pre_1 Post := by
  intro l hfl _ _ p e ha hc hk s m args below hf hA hF happ hP
  obtain ⟨hcalls, hrest, hpre⟩ := hP
  obtain ⟨-, -, -, hnamed, -, -, -, hat⟩ := (Spec.applies_iff hf).mp happ
  obtain ⟨hg, hn⟩ := and_e (Cond.before_iff.mp (show (Jvm.Cond.and given_1 narrow_1).before args s = true from hpre))
  obtain ⟨hct, hg⟩ := and_e hg
  obtain ⟨w0, w1, w2, w3, w4, w5, rfl⟩ : ∃ w0 w1 w2 w3 w4 w5 : Value, args = #[w0, w1, w2, w3, w4, w5] := by
    have hs : args.size = 6 := by simpa [Cond.value, given_1] using hct
    obtain ⟨L⟩ := args
    match L, hs with
    | [w0, w1, w2, w3, w4, w5], _ => exact ⟨w0, w1, w2, w3, w4, w5, rfl⟩
  have hw := fun d (hd : d ∈ tables_1) => atoms_spec (ws := Jvm.Cond.code x code maxLocals ret :: tables_1) hat d (List.mem_cons_of_mem _ hd)
  have hfit : Fit s := fun {y c} hc i hi => by
    obtain ⟨ha, rfl⟩ := Array.getElem?_eq_some_iff.mp hc
    have q := List.all_eq_true.mp ((Array.all_eq_true_iff_forall_mem.mp hF) _ (Array.getElem_mem ha)) i (List.mem_range.mpr hi)
    simpa [Array.getElem?_eq_getElem hi] using q
  obtain ⟨hg0, hg⟩ := and_e hg
  obtain ⟨i0, e0⟩ := is_v hg0
  obtain rfl : w0 = (.int i0) := Option.some.inj e0
  obtain ⟨hg1, hg⟩ := and_e hg
  obtain ⟨i1, e1⟩ := is_v hg1
  obtain rfl : w1 = (.int i1) := Option.some.inj e1
  obtain ⟨hg2, hg⟩ := and_e hg
  obtain ⟨i2, e2⟩ := is_v hg2
  obtain rfl : w2 = (.int i2) := Option.some.inj e2
  obtain ⟨hg3, hg⟩ := and_e hg
  obtain ⟨i3, e3⟩ := is_v hg3
  obtain rfl : w3 = (.int i3) := Option.some.inj e3
  obtain ⟨hg4, hg⟩ := and_e hg
  obtain ⟨i4, e4⟩ := is_v hg4
  obtain rfl : w4 = (.int i4) := Option.some.inj e4
  obtain ⟨i5, e5⟩ := is_v hg
  obtain rfl : w5 = (.int i5) := Option.some.inj e5
  obtain ⟨hsets, hown0⟩ := atoms_of _ (rest_1_c_eq ▸ (show rest_1_c.before _ s = true from hrest))
  have n3 := not_v (Cond.before_iff.mp (hsets _ (List.mem_of_getElem? (i := 2) rfl)))
  obtain ⟨z5, e6⟩ := is_v (Cond.before_iff.mp (hsets _ (List.mem_of_getElem? (i := 1) rfl)))
  have S8c : Sta s s.heap "java/lang/String" "COMPACT_STRINGS" "Z" (.int z5) := Sta.start e6 (Or.inl (hsets _ (List.mem_of_getElem? (i := 0) rfl)))
  have P5 : ¬ (z5 = (0 : Int32)) := gotF (Cond.eq_ints e6 (Term.int_eval (0))) n3
  obtain ⟨fm, efm, hfm⟩ := isR_v (Cond.before_iff.mp (hsets _ (List.mem_of_getElem? (i := 8) rfl)))
  have Sfm : Sta s s.heap "jdk/internal/util/Preconditions" "SIOOBE_FORMATTER" "Ljava/util/function/BiFunction;" fm := Sta.start efm (Or.inl (hsets _ (List.mem_of_getElem? (i := 7) rfl)))
  have hE : EW s _ ([("java/lang/String", 7), ("java/lang/StringLatin1", 151)] : List (String × Nat)) := (EW.cons (own_w18 hw) (by decide +kernel) (EW.cons (own_w125 hw) (by decide +kernel) EW.nil))
  have hC : CHv s ([("java/lang/String", 7), ("java/lang/StringLatin1", 151)] : List (String × Nat)) s.vm s.heap := CHv.start hE (fun p hp => hcalls.1 p hp) (hsets _ (List.mem_of_getElem? (i := 2) rfl)) (own_w19 hw) (own_w6 hw)
  obtain ⟨n, o, h1, h2, h3, _, L, ms, rfl, q, N, -, -, -, hq⟩ := own_ct_law l s _ hw _ hE s.heap.size tables_1 s.heap (Old.start s) i0 i1 i2 i3 i4 i5 z5 fm S8c P5 Sfm hfm (by decide) (by decide) p e ha hc hk s m _ below hf ((Spec.applies_iff_loose hf).mp happ).1 ⟨rfl, State.Warmed39.refl s, rfl, hC, fun _ q => nomatch q⟩ trivial
  obtain ⟨-, -, rfl⟩ := q
  refine ⟨n, _, h1, h2, h3, hpost _ _ _ _ _ _ ⟨Cond.after_iff.mpr rfl, Cond.after_iff.mpr (eq_i res_at (Term.int_eval (1)) rfl), trivial⟩ ⟨hq.1, hq.2.1, hq.2.2.1, (hq.2.2.2.sift fun y hy => Or.inr (N y hy)).mono (by decide) (by decide)⟩⟩
theorem main_1_1 : Claimed_1_1 := comes_1 fun _ _ _ _ _ _ h hF => ⟨h.1, hF⟩
theorem main_1_2 : Claimed_1_2 := comes_1 fun _ _ _ _ _ _ h hF => ⟨h.2.1, hF⟩
end Jvm.Pilot.@@N@@
namespace Jvm.Pilot.@@N@@
open Jvm Jvm.ClassFile Sem Op Lib Jvm.Free Jvm.Stand Jvm.Pilot.@@N@@.Jvm.D
/-! MADE BY PROGRAM (witnessworld.py) out of the Statement's table words and the real class files: 23 classes; the members and pool entries that the words name. The judged class is class 1, her method 5. -/
namespace start1
open Jvm.ClassFile
def u (s : String) : CpInfo := .utf8 (stringToUtf16 s)
/-- a pool by its gaps: so many unusable entries, then the entry; so many at the end -/
def gap : Nat → List CpInfo → List CpInfo
  | 0, r => r
  | n + 1, r => .unusable :: gap n r
def poolList (es : List (Nat × CpInfo)) (last : Nat) : List CpInfo := es.foldr (fun e r => gap e.1 (e.2 :: r)) (gap last [])
def pool (es : List (Nat × CpInfo)) (last : Nat) : Array CpInfo := ⟨poolList es last⟩
def fileOf (pool : Array CpInfo) (this : Nat) (attrs : Array Attribute := #[]) (ms : Array MethodInfo := #[]) (fl : Nat := 33) (sup : Nat := 0) (ifs : Array Nat := #[]) (fds : Array FieldInfo := #[]) : ClassFile where
  minorVersion := 0
  majorVersion := 65
  constantPool := pool
  accessFlags := fl
  thisClass := this
  superClass := sup
  interfaces := ifs
  fields := fds
  methods := ms
  attributes := attrs
def plain (name : String) (sup : Option ClassId) : Class where
  name := name
  kind := .ordinary
  loader := none
  accessFlags := 33
  super := sup
  interfaces := #[]
  cf := none
  fields := #[]
  methods := #[]
  instanceTypes := #[]
  staticTypes := #[]
  resolved := #[]
  callSites := []
  init := .initialized
  statics := none
  mirror := none

def pool0 : Array CpInfo := pool [(5, u "<init>"), (0, u "()V"), (1, .class_ 10), (1, u "java/lang/Object")] 113

def k0c0 : Code := { maxStack := 0, maxLocals := 1, code := object_method_1_code, exceptionTable := #[], attributes := #[] }
def k0m0 : Method := { name := "<init>", desc := "()V", sig := { parameters := [], returnType := none }, accessFlags := 1, code := some k0c0 }
/-- java/lang/Object -/
def k0 : Class := { plain "java/lang/Object" none with
  accessFlags := 33
  interfaces := #[]
  cf := some (fileOf pool0 8 #[] #[{ accessFlags := 1, nameIndex := 5, descriptorIndex := 6, attributes := #[] }] 33 0 #[] #[])
  fields := #[]
  methods := #[k0m0]
  instanceTypes := #[]
  staticTypes := #[]
  resolved := Array.replicate 124 none
  statics := none }

def pool1 : Array CpInfo := pool [(2, .class_ 4), (1, u "java/lang/Object"), (0, u "<init>"), (0, u "()V"), (0, .methodref 8 9), (0, .class_ 10), (0, .nameAndType 11 12), (0, u "com/example/caddis/caddis/conformance/XmlValuesTrimPinLaw"), (0, u "sp"), (0, u "(C)Z"), (0, .methodref 14 15), (0, .class_ 16), (0, .nameAndType 17 18), (0, u "java/lang/String"), (0, u "charAt"), (0, u "(I)C"), (0, .methodref 20 21), (0, .class_ 22), (0, .nameAndType 23 24), (0, u "java/lang/Math"), (0, u "min"), (0, u "(II)I"), (0, .methodref 8 26), (0, .nameAndType 27 18), (0, u "ch"), (0, .methodref 14 29), (0, .nameAndType 5 30), (0, u "([C)V"), (0, .methodref 32 33), (0, .class_ 34), (0, .nameAndType 35 36), (0, u "com/example/caddis/caddis/conformance/XmlValues"), (0, u "trim"), (0, u "(Ljava/lang/String;)Ljava/lang/String;"), (0, .methodref 8 38), (0, .nameAndType 39 40), (0, u "ns"), (0, u "([CI)Z"), (0, .methodref 14 42), (0, .nameAndType 43 44), (0, u "length"), (0, u "()I"), (0, .methodref 8 46), (0, .nameAndType 47 48), (0, u "charOk"), (0, u "(Ljava/lang/String;[CIII)Z"), (3, u "law"), (0, u "(IIIIII)Z")] 4

def k1m0 : Method := { name := "<init>", desc := "()V", sig := { parameters := [], returnType := none }, accessFlags := 2, code := none }
def k1c1 : Code := { maxStack := 2, maxLocals := 2, code := method_2_code, exceptionTable := #[], attributes := #[] }
def k1m1 : Method := { name := "ch", desc := "(I)C", sig := { parameters := [.int], returnType := some .char }, accessFlags := 10, code := some k1c1 }
def k1c2 : Code := { maxStack := 2, maxLocals := 1, code := method_3_code, exceptionTable := #[], attributes := #[] }
def k1m2 : Method := { name := "sp", desc := "(C)Z", sig := { parameters := [.char], returnType := some .boolean }, accessFlags := 10, code := some k1c2 }
def k1c3 : Code := { maxStack := 2, maxLocals := 2, code := method_4_code, exceptionTable := #[], attributes := #[] }
def k1m3 : Method := { name := "ns", desc := "([CI)Z", sig := { parameters := [(.array .char), .int], returnType := some .boolean }, accessFlags := 10, code := some k1c3 }
def k1c4 : Code := { maxStack := 4, maxLocals := 5, code := method_5_code, exceptionTable := #[], attributes := #[] }
def k1m4 : Method := { name := "charOk", desc := "(Ljava/lang/String;[CIII)Z", sig := { parameters := [(.object "java/lang/String"), (.array .char), .int, .int, .int], returnType := some .boolean }, accessFlags := 10, code := some k1c4 }
def k1c5 : Code := { maxStack := 5, maxLocals := 17, code := code, exceptionTable := #[], attributes := #[] }
def k1m5 : Method := { name := "law", desc := "(IIIIII)Z", sig := { parameters := [.int, .int, .int, .int, .int, .int], returnType := some .boolean }, accessFlags := 9, code := some k1c5 }
/-- com/example/caddis/caddis/conformance/XmlValuesTrimPinLaw -/
def k1 : Class := { plain "com/example/caddis/caddis/conformance/XmlValuesTrimPinLaw" (some 0) with
  accessFlags := 49
  interfaces := #[]
  cf := some (fileOf pool1 8 #[] #[{ accessFlags := 2, nameIndex := 5, descriptorIndex := 6, attributes := #[] }, { accessFlags := 10, nameIndex := 27, descriptorIndex := 18, attributes := #[] }, { accessFlags := 10, nameIndex := 11, descriptorIndex := 12, attributes := #[] }, { accessFlags := 10, nameIndex := 39, descriptorIndex := 40, attributes := #[] }, { accessFlags := 10, nameIndex := 47, descriptorIndex := 48, attributes := #[] }, { accessFlags := 9, nameIndex := 52, descriptorIndex := 53, attributes := #[] }] 49 2 #[] #[])
  fields := #[]
  methods := #[k1m0, k1m1, k1m2, k1m3, k1m4, k1m5]
  instanceTypes := #[]
  staticTypes := #[]
  resolved := Array.replicate 58 none
  statics := none }

def pool2 : Array CpInfo := pool [(1, .class_ 2), (0, u "java/lang/Math"), (1, .class_ 6), (1, u "java/lang/Object"), (0, u "<init>"), (0, u "()V"), (89, .class_ 100), (1, u "java/lang/Math$RandomNumberGeneratorHolder"), (71, u "negativeZeroFloatBits"), (0, u "J"), (2, u "negativeZeroDoubleBits"), (24, u "min"), (43, u "$assertionsDisabled"), (0, u "Z"), (88, u "(II)I"), (2, u "twoToTheDoubleScaleDown"), (0, u "D"), (4, u "twoToTheDoubleScaleUp"), (9, u "E"), (3, u "PI"), (2, u "TAU"), (2, u "DEGREES_TO_RADIANS"), (0, u "RADIANS_TO_DEGREES")] 94

def k2m0 : Method := { name := "<init>", desc := "()V", sig := { parameters := [], returnType := none }, accessFlags := 2, code := none }
def k2c1 : Code := { maxStack := 2, maxLocals := 2, code := jdk_29_method_69_code, exceptionTable := #[], attributes := #[] }
def k2m1 : Method := { name := "min", desc := "(II)I", sig := { parameters := [.int, .int], returnType := some .int }, accessFlags := 9, code := some k2c1 }
/-- java/lang/Math -/
def k2 : Class := { plain "java/lang/Math" (some 0) with
  accessFlags := 49
  interfaces := #[]
  cf := some (fileOf pool2 1 #[.nestMembers #[98]] #[{ accessFlags := 2, nameIndex := 7, descriptorIndex := 8, attributes := #[] }, { accessFlags := 9, nameIndex := 201, descriptorIndex := 335, attributes := #[] }] 49 4 #[] #[{ accessFlags := 25, nameIndex := 354, descriptorIndex := 339, attributes := #[] }, { accessFlags := 25, nameIndex := 358, descriptorIndex := 339, attributes := #[] }, { accessFlags := 25, nameIndex := 361, descriptorIndex := 339, attributes := #[] }, { accessFlags := 26, nameIndex := 364, descriptorIndex := 339, attributes := #[] }, { accessFlags := 26, nameIndex := 365, descriptorIndex := 339, attributes := #[] }, { accessFlags := 26, nameIndex := 172, descriptorIndex := 173, attributes := #[] }, { accessFlags := 26, nameIndex := 176, descriptorIndex := 173, attributes := #[] }, { accessFlags := 8, nameIndex := 344, descriptorIndex := 339, attributes := #[] }, { accessFlags := 8, nameIndex := 338, descriptorIndex := 339, attributes := #[] }, { accessFlags := 4120, nameIndex := 245, descriptorIndex := 246, attributes := #[] }])
  fields := #[{ name := "E", type := .double, accessFlags := 25, slot := 0, constantValue := 0 }, { name := "PI", type := .double, accessFlags := 25, slot := 1, constantValue := 0 }, { name := "TAU", type := .double, accessFlags := 25, slot := 2, constantValue := 0 }, { name := "DEGREES_TO_RADIANS", type := .double, accessFlags := 26, slot := 3, constantValue := 0 }, { name := "RADIANS_TO_DEGREES", type := .double, accessFlags := 26, slot := 4, constantValue := 0 }, { name := "negativeZeroFloatBits", type := .long, accessFlags := 26, slot := 5, constantValue := 0 }, { name := "negativeZeroDoubleBits", type := .long, accessFlags := 26, slot := 6, constantValue := 0 }, { name := "twoToTheDoubleScaleUp", type := .double, accessFlags := 8, slot := 7, constantValue := 0 }, { name := "twoToTheDoubleScaleDown", type := .double, accessFlags := 8, slot := 8, constantValue := 0 }, { name := "$assertionsDisabled", type := .boolean, accessFlags := 4120, slot := 9, constantValue := 0 }]
  methods := #[k2m0, k2m1]
  instanceTypes := #[]
  staticTypes := #[.double, .double, .double, .double, .double, .long, .long, .double, .double, .boolean]
  resolved := Array.replicate 460 none
  statics := none }

def pool3 : Array CpInfo := pool [(1, .class_ 2), (0, u "java/io/Serializable"), (0, .class_ 4), (0, u "java/lang/Object")] 2

/-- java/io/Serializable -/
def k3 : Class := { plain "java/io/Serializable" (some 0) with
  accessFlags := 1537
  interfaces := #[]
  cf := some (fileOf pool3 1 #[] #[] 1537 3 #[] #[])
  fields := #[]
  methods := #[]
  instanceTypes := #[]
  staticTypes := #[]
  resolved := Array.replicate 7 none
  statics := none }

def pool4 : Array CpInfo := pool [(1, .class_ 2), (0, u "java/lang/Comparable"), (0, .class_ 4), (0, u "java/lang/Object")] 7

/-- java/lang/Comparable -/
def k4 : Class := { plain "java/lang/Comparable" (some 0) with
  accessFlags := 1537
  interfaces := #[]
  cf := some (fileOf pool4 1 #[] #[] 1537 3 #[] #[])
  fields := #[]
  methods := #[]
  instanceTypes := #[]
  staticTypes := #[]
  resolved := Array.replicate 12 none
  statics := none }

def pool5 : Array CpInfo := pool [(2, .class_ 4), (1, u "java/lang/CharSequence"), (42, .class_ 48), (0, u "java/lang/CharSequence$1CodePointIterator"), (10, .class_ 60), (0, u "java/lang/CharSequence$1CharIterator"), (5, .class_ 67), (0, u "java/lang/Object")] 63

/-- java/lang/CharSequence -/
def k5 : Class := { plain "java/lang/CharSequence" (some 0) with
  accessFlags := 1537
  interfaces := #[]
  cf := some (fileOf pool5 2 #[.nestMembers #[47, 59]] #[] 1537 66 #[] #[])
  fields := #[]
  methods := #[]
  instanceTypes := #[]
  staticTypes := #[]
  resolved := Array.replicate 131 none
  statics := none }

def pool6 : Array CpInfo := pool [(1, .class_ 2), (0, u "java/lang/constant/Constable"), (0, .class_ 4), (0, u "java/lang/Object")] 6

/-- java/lang/constant/Constable -/
def k6 : Class := { plain "java/lang/constant/Constable" (some 0) with
  accessFlags := 1537
  interfaces := #[]
  cf := some (fileOf pool6 1 #[] #[] 1537 3 #[] #[])
  fields := #[]
  methods := #[]
  instanceTypes := #[]
  staticTypes := #[]
  resolved := Array.replicate 11 none
  statics := none }

def pool7 : Array CpInfo := pool [(1, .class_ 2), (0, u "java/lang/constant/ConstantDesc"), (0, .class_ 4), (0, u "java/lang/Object")] 32

/-- java/lang/constant/ConstantDesc -/
def k7 : Class := { plain "java/lang/constant/ConstantDesc" (some 0) with
  accessFlags := 1537
  interfaces := #[]
  cf := some (fileOf pool7 1 #[] #[] 1537 3 #[] #[])
  fields := #[]
  methods := #[]
  instanceTypes := #[]
  staticTypes := #[]
  resolved := Array.replicate 37 none
  statics := none }

def pool8 : Array CpInfo := pool [(1, .methodref 2 3), (0, .class_ 4), (0, .nameAndType 5 6), (0, u "java/lang/Object"), (0, u "<init>"), (0, u "()V"), (0, .string 8), (0, u ""), (0, .fieldref 10 11), (0, .class_ 12), (0, .nameAndType 13 14), (0, u "java/lang/String"), (0, u "value"), (0, u "[B"), (0, .fieldref 10 16), (0, .nameAndType 17 18), (0, u "coder"), (0, u "B"), (2, u "hash"), (0, u "I"), (2, u "hashIsZero"), (0, u "Z"), (0, .methodref 10 28), (0, .nameAndType 5 29), (0, u "([CIILjava/lang/Void;)V"), (8, .fieldref 10 39), (0, .nameAndType 40 26), (0, u "COMPACT_STRINGS"), (1, .class_ 44), (1, u "java/lang/StringUTF16"), (0, u "compress"), (1, .methodref 42 48), (0, .nameAndType 49 50), (0, u "coderFromArrayLen"), (0, u "([BI)B"), (56, .class_ 109), (1, u "java/lang/StringLatin1"), (32, u "()Z"), (34, .methodref 42 178), (0, .nameAndType 45 179), (0, u "([CII)[B"), (31, u "([BB)V"), (122, u "()I"), (0, .methodref 10 336), (0, .nameAndType 17 337), (0, u "()B"), (25, u "([BI)C"), (27, u "(II)V"), (35, u "(I)C"), (64, .methodref 10 493), (0, .nameAndType 494 142), (0, u "isLatin1"), (0, .methodref 107 496), (0, .nameAndType 497 363), (0, u "charAt"), (3, u "checkIndex"), (3, .methodref 10 506), (0, .nameAndType 507 334), (0, u "length"), (5, u "checkFromToIndex"), (7, .methodref 10 522), (0, .nameAndType 523 524), (0, u "checkBoundsBeginEnd"), (0, u "(III)V"), (50, .class_ 576), (0, u "java/lang/CharSequence"), (22, u "CASE_INSENSITIVE_ORDER"), (0, u "Ljava/util/Comparator;"), (82, u "substring"), (0, u "(II)Ljava/lang/String;"), (0, .methodref 107 686), (0, .nameAndType 687 688), (0, u "newString"), (0, u "([BII)Ljava/lang/String;"), (321, u "([C)V"), (42, .fieldref 1054 1055), (0, .class_ 1056), (0, .nameAndType 1057 1058), (0, u "jdk/internal/util/Preconditions"), (0, u "SIOOBE_FORMATTER"), (0, u "Ljava/util/function/BiFunction;"), (0, .methodref 1054 1060), (0, .nameAndType 501 1061), (0, u "(IILjava/util/function/BiFunction;)I"), (0, .methodref 1054 1063), (0, .nameAndType 513 1064), (0, u "(IIILjava/util/function/BiFunction;)I"), (36, u "serialPersistentFields"), (0, u "[Ljava/io/ObjectStreamField;"), (0, .class_ 1104), (0, u "java/lang/String$CaseInsensitiveComparator"), (1, .class_ 1107), (0, u "java/io/Serializable"), (0, .class_ 1109), (0, u "java/lang/Comparable"), (0, .class_ 1111), (0, u "java/lang/constant/Constable"), (0, .class_ 1113), (0, u "java/lang/constant/ConstantDesc"), (2, u "serialVersionUID"), (0, u "J"), (3, u "REPL"), (0, u "C"), (2, u "LATIN1"), (1, u "UTF16")] 323

def k8m0 : Method := { name := "<init>", desc := "()V", sig := { parameters := [], returnType := none }, accessFlags := 1, code := none }
def k8c1 : Code := { maxStack := 5, maxLocals := 2, code := jdk_42_method_3_code, exceptionTable := #[], attributes := #[] }
def k8m1 : Method := { name := "<init>", desc := "([C)V", sig := { parameters := [(.array .char)], returnType := none }, accessFlags := 1, code := some k8c1 }
def k8c2 : Code := { maxStack := 2, maxLocals := 1, code := jdk_42_method_54_code, exceptionTable := #[], attributes := #[] }
def k8m2 : Method := { name := "length", desc := "()I", sig := { parameters := [], returnType := some .int }, accessFlags := 1, code := some k8c2 }
def k8c3 : Code := { maxStack := 2, maxLocals := 2, code := jdk_42_method_56_code, exceptionTable := #[], attributes := #[] }
def k8m3 : Method := { name := "charAt", desc := "(I)C", sig := { parameters := [.int], returnType := some .char }, accessFlags := 1, code := some k8c3 }
def k8c4 : Code := { maxStack := 3, maxLocals := 5, code := jdk_42_method_92_code, exceptionTable := #[], attributes := #[] }
def k8m4 : Method := { name := "substring", desc := "(II)Ljava/lang/String;", sig := { parameters := [.int, .int], returnType := some (.object "java/lang/String") }, accessFlags := 1, code := some k8c4 }
def k8c5 : Code := { maxStack := 4, maxLocals := 6, code := jdk_42_method_149_code, exceptionTable := #[], attributes := #[] }
def k8m5 : Method := { name := "<init>", desc := "([CIILjava/lang/Void;)V", sig := { parameters := [(.array .char), .int, .int, (.object "java/lang/Void")], returnType := none }, accessFlags := 2, code := some k8c5 }
def k8c6 : Code := { maxStack := 2, maxLocals := 3, code := jdk_42_method_151_code, exceptionTable := #[], attributes := #[] }
def k8m6 : Method := { name := "<init>", desc := "([BB)V", sig := { parameters := [(.array .byte), .byte], returnType := none }, accessFlags := 0, code := some k8c6 }
def k8c7 : Code := { maxStack := 1, maxLocals := 1, code := jdk_42_method_152_code, exceptionTable := #[], attributes := #[] }
def k8m7 : Method := { name := "coder", desc := "()B", sig := { parameters := [], returnType := some .byte }, accessFlags := 0, code := some k8c7 }
def k8c8 : Code := { maxStack := 1, maxLocals := 1, code := jdk_42_method_154_code, exceptionTable := #[], attributes := #[] }
def k8m8 : Method := { name := "isLatin1", desc := "()Z", sig := { parameters := [], returnType := some .boolean }, accessFlags := 0, code := some k8c8 }
def k8c9 : Code := { maxStack := 3, maxLocals := 2, code := jdk_42_method_155_code, exceptionTable := #[], attributes := #[] }
def k8m9 : Method := { name := "checkIndex", desc := "(II)V", sig := { parameters := [.int, .int], returnType := none }, accessFlags := 8, code := some k8c9 }
def k8c10 : Code := { maxStack := 4, maxLocals := 3, code := jdk_42_method_158_code, exceptionTable := #[], attributes := #[] }
def k8m10 : Method := { name := "checkBoundsBeginEnd", desc := "(III)V", sig := { parameters := [.int, .int, .int], returnType := none }, accessFlags := 8, code := some k8c10 }
/-- java/lang/String -/
def k8 : Class := { plain "java/lang/String" (some 0) with
  accessFlags := 49
  interfaces := #[3, 4, 5, 6, 7]
  cf := some (fileOf pool8 10 #[.nestMembers #[1103]] #[{ accessFlags := 1, nameIndex := 5, descriptorIndex := 6, attributes := #[] }, { accessFlags := 1, nameIndex := 5, descriptorIndex := 1010, attributes := #[] }, { accessFlags := 1, nameIndex := 507, descriptorIndex := 334, attributes := #[] }, { accessFlags := 1, nameIndex := 497, descriptorIndex := 427, attributes := #[] }, { accessFlags := 1, nameIndex := 683, descriptorIndex := 684, attributes := #[] }, { accessFlags := 2, nameIndex := 5, descriptorIndex := 29, attributes := #[] }, { accessFlags := 0, nameIndex := 5, descriptorIndex := 211, attributes := #[] }, { accessFlags := 0, nameIndex := 17, descriptorIndex := 337, attributes := #[] }, { accessFlags := 0, nameIndex := 494, descriptorIndex := 142, attributes := #[] }, { accessFlags := 8, nameIndex := 501, descriptorIndex := 391, attributes := #[] }, { accessFlags := 8, nameIndex := 523, descriptorIndex := 524, attributes := #[] }] 49 2 #[1106, 1108, 575, 1110, 1112] #[{ accessFlags := 18, nameIndex := 13, descriptorIndex := 14, attributes := #[] }, { accessFlags := 18, nameIndex := 17, descriptorIndex := 18, attributes := #[] }, { accessFlags := 2, nameIndex := 21, descriptorIndex := 22, attributes := #[] }, { accessFlags := 2, nameIndex := 25, descriptorIndex := 26, attributes := #[] }, { accessFlags := 26, nameIndex := 1116, descriptorIndex := 1117, attributes := #[] }, { accessFlags := 24, nameIndex := 40, descriptorIndex := 26, attributes := #[] }, { accessFlags := 26, nameIndex := 1101, descriptorIndex := 1102, attributes := #[] }, { accessFlags := 26, nameIndex := 1121, descriptorIndex := 1122, attributes := #[] }, { accessFlags := 25, nameIndex := 599, descriptorIndex := 600, attributes := #[] }, { accessFlags := 24, nameIndex := 1125, descriptorIndex := 18, attributes := #[] }, { accessFlags := 24, nameIndex := 1127, descriptorIndex := 18, attributes := #[] }])
  fields := #[{ name := "value", type := (.array .byte), accessFlags := 18, slot := 0, constantValue := 0 }, { name := "coder", type := .byte, accessFlags := 18, slot := 1, constantValue := 0 }, { name := "hash", type := .int, accessFlags := 2, slot := 2, constantValue := 0 }, { name := "hashIsZero", type := .boolean, accessFlags := 2, slot := 3, constantValue := 0 }, { name := "serialVersionUID", type := .long, accessFlags := 26, slot := 0, constantValue := 0 }, { name := "COMPACT_STRINGS", type := .boolean, accessFlags := 24, slot := 1, constantValue := 0 }, { name := "serialPersistentFields", type := (.array (.object "java/io/ObjectStreamField")), accessFlags := 26, slot := 2, constantValue := 0 }, { name := "REPL", type := .char, accessFlags := 26, slot := 3, constantValue := 0 }, { name := "CASE_INSENSITIVE_ORDER", type := (.object "java/util/Comparator"), accessFlags := 25, slot := 4, constantValue := 0 }, { name := "LATIN1", type := .byte, accessFlags := 24, slot := 5, constantValue := 0 }, { name := "UTF16", type := .byte, accessFlags := 24, slot := 6, constantValue := 0 }]
  methods := #[k8m0, k8m1, k8m2, k8m3, k8m4, k8m5, k8m6, k8m7, k8m8, k8m9, k8m10]
  instanceTypes := #[(.array .byte), .byte, .int, .boolean]
  staticTypes := #[.long, .boolean, (.array (.object "java/io/ObjectStreamField")), .char, (.object "java/util/Comparator"), .byte, .byte]
  resolved := Array.replicate 1451 none
  statics := some 0 }

def pool9 : Array CpInfo := pool [(2, .class_ 4), (1, u "java/lang/Object"), (0, u "<init>"), (0, u "()V"), (3, .methodref 11 12), (0, .class_ 13), (0, .nameAndType 14 15), (0, u "java/lang/String"), (0, u "length"), (0, u "()I"), (0, .methodref 11 17), (0, .nameAndType 18 19), (0, u "charAt"), (0, u "(I)C"), (0, .methodref 21 22), (0, .class_ 23), (0, .nameAndType 24 25), (0, u "com/example/caddis/caddis/conformance/XmlValues"), (0, u "isSpace"), (0, u "(C)Z"), (0, .methodref 11 27), (0, .nameAndType 28 29), (0, u "substring"), (0, u "(II)Ljava/lang/String;"), (2, u "trim"), (0, u "(Ljava/lang/String;)Ljava/lang/String;"), (22, u "DATATYPES"), (0, u "Ljavax/xml/datatype/DatatypeFactory;"), (50, u "XML_SPACE_RUN"), (0, u "Ljava/util/regex/Pattern;")] 59

def k9m0 : Method := { name := "<init>", desc := "()V", sig := { parameters := [], returnType := none }, accessFlags := 2, code := none }
def k9c1 : Code := { maxStack := 3, maxLocals := 3, code := prog_41_method_2_code, exceptionTable := #[], attributes := #[] }
def k9m1 : Method := { name := "trim", desc := "(Ljava/lang/String;)Ljava/lang/String;", sig := { parameters := [(.object "java/lang/String")], returnType := some (.object "java/lang/String") }, accessFlags := 8, code := some k9c1 }
def k9c2 : Code := { maxStack := 2, maxLocals := 1, code := prog_41_method_7_code, exceptionTable := #[], attributes := #[] }
def k9m2 : Method := { name := "isSpace", desc := "(C)Z", sig := { parameters := [.char], returnType := some .boolean }, accessFlags := 10, code := some k9c2 }
/-- com/example/caddis/caddis/conformance/XmlValues -/
def k9 : Class := { plain "com/example/caddis/caddis/conformance/XmlValues" (some 0) with
  accessFlags := 48
  interfaces := #[]
  cf := some (fileOf pool9 21 #[] #[{ accessFlags := 2, nameIndex := 5, descriptorIndex := 6, attributes := #[] }, { accessFlags := 8, nameIndex := 32, descriptorIndex := 33, attributes := #[] }, { accessFlags := 10, nameIndex := 24, descriptorIndex := 25, attributes := #[] }] 48 2 #[] #[{ accessFlags := 26, nameIndex := 108, descriptorIndex := 109, attributes := #[] }, { accessFlags := 26, nameIndex := 56, descriptorIndex := 57, attributes := #[] }])
  fields := #[{ name := "XML_SPACE_RUN", type := (.object "java/util/regex/Pattern"), accessFlags := 26, slot := 0, constantValue := 0 }, { name := "DATATYPES", type := (.object "javax/xml/datatype/DatatypeFactory"), accessFlags := 26, slot := 1, constantValue := 0 }]
  methods := #[k9m0, k9m1, k9m2]
  instanceTypes := #[]
  staticTypes := #[(.object "java/util/regex/Pattern"), (.object "javax/xml/datatype/DatatypeFactory")]
  resolved := Array.replicate 169 none
  statics := none }

def pool10 : Array CpInfo := pool [(2, .class_ 4), (1, u "java/lang/Object"), (0, u "<init>"), (0, u "()V"), (17, .class_ 26), (1, u "jdk/internal/util/Preconditions"), (6, u "checkIndex"), (13, u "checkFromToIndex"), (7, .class_ 56), (0, u "jdk/internal/util/Preconditions$4"), (57, .class_ 115), (0, u "jdk/internal/util/Preconditions$1"), (7, u "SIOOBE_FORMATTER"), (0, u "Ljava/util/function/BiFunction;"), (0, .class_ 126), (0, u "jdk/internal/util/Preconditions$2"), (3, u "AIOOBE_FORMATTER"), (0, .class_ 132), (0, u "jdk/internal/util/Preconditions$3"), (3, u "IOOBE_FORMATTER"), (41, u "(IILjava/util/function/BiFunction;)I"), (4, u "(IIILjava/util/function/BiFunction;)I")] 10

def k10m0 : Method := { name := "<init>", desc := "()V", sig := { parameters := [], returnType := none }, accessFlags := 1, code := none }
def k10c1 : Code := { maxStack := 3, maxLocals := 3, code := jdk_41_method_11_code, exceptionTable := #[], attributes := #[] }
def k10m1 : Method := { name := "checkIndex", desc := "(IILjava/util/function/BiFunction;)I", sig := { parameters := [.int, .int, (.object "java/util/function/BiFunction")], returnType := some .int }, accessFlags := 9, code := some k10c1 }
def k10c2 : Code := { maxStack := 4, maxLocals := 4, code := jdk_41_method_12_code, exceptionTable := #[], attributes := #[] }
def k10m2 : Method := { name := "checkFromToIndex", desc := "(IIILjava/util/function/BiFunction;)I", sig := { parameters := [.int, .int, .int, (.object "java/util/function/BiFunction")], returnType := some .int }, accessFlags := 9, code := some k10c2 }
/-- jdk/internal/util/Preconditions -/
def k10 : Class := { plain "jdk/internal/util/Preconditions" (some 0) with
  accessFlags := 33
  interfaces := #[]
  cf := some (fileOf pool10 24 #[.nestMembers #[55, 131, 125, 114]] #[{ accessFlags := 1, nameIndex := 5, descriptorIndex := 6, attributes := #[] }, { accessFlags := 9, nameIndex := 33, descriptorIndex := 178, attributes := #[] }, { accessFlags := 9, nameIndex := 47, descriptorIndex := 183, attributes := #[] }] 33 2 #[] #[{ accessFlags := 25, nameIndex := 123, descriptorIndex := 124, attributes := #[] }, { accessFlags := 25, nameIndex := 130, descriptorIndex := 124, attributes := #[] }, { accessFlags := 25, nameIndex := 136, descriptorIndex := 124, attributes := #[] }])
  fields := #[{ name := "SIOOBE_FORMATTER", type := (.object "java/util/function/BiFunction"), accessFlags := 25, slot := 0, constantValue := 0 }, { name := "AIOOBE_FORMATTER", type := (.object "java/util/function/BiFunction"), accessFlags := 25, slot := 1, constantValue := 0 }, { name := "IOOBE_FORMATTER", type := (.object "java/util/function/BiFunction"), accessFlags := 25, slot := 2, constantValue := 0 }]
  methods := #[k10m0, k10m1, k10m2]
  instanceTypes := #[]
  staticTypes := #[(.object "java/util/function/BiFunction"), (.object "java/util/function/BiFunction"), (.object "java/util/function/BiFunction")]
  resolved := Array.replicate 194 none
  statics := some 1 }

def pool11 : Array CpInfo := pool [(6, .class_ 8), (1, u "java/lang/Object"), (0, u "<init>"), (0, u "()V"), (1, .class_ 14), (1, u "java/lang/StringUTF16"), (31, u "$assertionsDisabled"), (0, u "Z"), (13, u "HI_BYTE_SHIFT"), (0, u "I"), (2, u "LO_BYTE_SHIFT"), (49, .methodref 12 116), (0, .nameAndType 117 118), (0, u "compress"), (0, u "([CI[BII)I"), (3, u "([CII)[B"), (138, u "coderFromArrayLen"), (0, u "([BI)B"), (106, .class_ 371), (1, u "java/lang/StringUTF16$LinesSpliterator"), (58, u "MAX_LENGTH"), (196, .class_ 628), (0, u "java/lang/StringUTF16$CodePointsSpliterator"), (0, .class_ 630), (0, u "java/lang/StringUTF16$CharsSpliterator")] 4

def k11m0 : Method := { name := "<init>", desc := "()V", sig := { parameters := [], returnType := none }, accessFlags := 0, code := none }
def k11c1 : Code := { maxStack := 2, maxLocals := 2, code := jdk_52_method_15_code, exceptionTable := #[], attributes := #[] }
def k11m1 : Method := { name := "coderFromArrayLen", desc := "([BI)B", sig := { parameters := [(.array .byte), .int], returnType := some .byte }, accessFlags := 8, code := some k11c1 }
def k11c2 : Code := { maxStack := 5, maxLocals := 6, code := jdk_52_method_16_code, exceptionTable := #[], attributes := #[] }
def k11m2 : Method := { name := "compress", desc := "([CII)[B", sig := { parameters := [(.array .char), .int, .int], returnType := some (.array .byte) }, accessFlags := 9, code := some k11c2 }
def k11c3 : Code := { maxStack := 3, maxLocals := 7, code := jdk_52_method_21_code, exceptionTable := #[], attributes := #[] }
def k11m3 : Method := { name := "compress", desc := "([CI[BII)I", sig := { parameters := [(.array .char), .int, (.array .byte), .int, .int], returnType := some .int }, accessFlags := 9, code := some k11c3 }
/-- java/lang/StringUTF16 -/
def k11 : Class := { plain "java/lang/StringUTF16" (some 0) with
  accessFlags := 48
  interfaces := #[]
  cf := some (fileOf pool11 12 #[.nestMembers #[627, 629, 369]] #[{ accessFlags := 0, nameIndex := 9, descriptorIndex := 10, attributes := #[] }, { accessFlags := 8, nameIndex := 261, descriptorIndex := 262, attributes := #[] }, { accessFlags := 9, nameIndex := 117, descriptorIndex := 122, attributes := #[] }, { accessFlags := 9, nameIndex := 117, descriptorIndex := 118, attributes := #[] }] 48 6 #[] #[{ accessFlags := 26, nameIndex := 61, descriptorIndex := 62, attributes := #[] }, { accessFlags := 26, nameIndex := 65, descriptorIndex := 62, attributes := #[] }, { accessFlags := 24, nameIndex := 430, descriptorIndex := 62, attributes := #[] }, { accessFlags := 4120, nameIndex := 46, descriptorIndex := 47, attributes := #[] }])
  fields := #[{ name := "HI_BYTE_SHIFT", type := .int, accessFlags := 26, slot := 0, constantValue := 0 }, { name := "LO_BYTE_SHIFT", type := .int, accessFlags := 26, slot := 1, constantValue := 0 }, { name := "MAX_LENGTH", type := .int, accessFlags := 24, slot := 2, constantValue := 0 }, { name := "$assertionsDisabled", type := .boolean, accessFlags := 4120, slot := 3, constantValue := 0 }]
  methods := #[k11m0, k11m1, k11m2, k11m3]
  instanceTypes := #[]
  staticTypes := #[.int, .int, .int, .boolean]
  resolved := Array.replicate 635 none
  statics := none }

def pool12 : Array CpInfo := pool [(1, .class_ 2), (0, u "java/lang/String"), (1, .class_ 6), (1, u "java/lang/Object"), (0, u "<init>"), (0, u "()V"), (0, .methodref 1 10), (0, .nameAndType 11 12), (0, u "checkIndex"), (0, u "(II)V"), (1, .class_ 16), (1, u "java/lang/StringLatin1"), (36, u "([BI)C"), (58, .methodref 1 113), (0, .nameAndType 7 114), (0, u "([BB)V"), (6, u "$assertionsDisabled"), (0, u "Z"), (8, .class_ 133), (1, u "java/util/Arrays"), (17, .string 152), (0, u ""), (43, u "newString"), (0, u "([BII)Ljava/lang/String;"), (23, .class_ 223), (1, u "java/lang/StringLatin1$LinesSpliterator"), (8, .methodref 131 233), (0, .nameAndType 234 235), (0, u "copyOfRange"), (0, u "([BII)[B"), (16, u "charAt"), (137, .class_ 391), (0, u "java/lang/StringLatin1$CharsSpliterator")] 3

def k12m0 : Method := { name := "<init>", desc := "()V", sig := { parameters := [], returnType := none }, accessFlags := 0, code := none }
def k12c1 : Code := { maxStack := 2, maxLocals := 2, code := jdk_43_method_2_code, exceptionTable := #[], attributes := #[] }
def k12m1 : Method := { name := "charAt", desc := "([BI)C", sig := { parameters := [(.array .byte), .int], returnType := some .char }, accessFlags := 9, code := some k12c1 }
def k12c2 : Code := { maxStack := 6, maxLocals := 3, code := jdk_43_method_47_code, exceptionTable := #[], attributes := #[] }
def k12m2 : Method := { name := "newString", desc := "([BII)Ljava/lang/String;", sig := { parameters := [(.array .byte), .int, .int], returnType := some (.object "java/lang/String") }, accessFlags := 9, code := some k12c2 }
/-- java/lang/StringLatin1 -/
def k12 : Class := { plain "java/lang/StringLatin1" (some 0) with
  accessFlags := 48
  interfaces := #[]
  cf := some (fileOf pool12 14 #[.nestMembers #[390, 221]] #[{ accessFlags := 0, nameIndex := 7, descriptorIndex := 8, attributes := #[] }, { accessFlags := 9, nameIndex := 252, descriptorIndex := 53, attributes := #[] }, { accessFlags := 9, nameIndex := 196, descriptorIndex := 197, attributes := #[] }] 48 4 #[] #[{ accessFlags := 4120, nameIndex := 121, descriptorIndex := 122, attributes := #[] }])
  fields := #[{ name := "$assertionsDisabled", type := .boolean, accessFlags := 4120, slot := 0, constantValue := 0 }]
  methods := #[k12m0, k12m1, k12m2]
  instanceTypes := #[]
  staticTypes := #[.boolean]
  resolved := Array.replicate 395 none
  statics := none }

def pool13 : Array CpInfo := pool [(2, .class_ 4), (1, u "java/lang/Object"), (0, u "<init>"), (0, u "()V"), (7, .class_ 16), (1, u "java/util/Arrays"), (57, .class_ 76), (1, u "java/util/Arrays$NaturalOrder"), (36, .class_ 115), (1, u "java/util/Arrays$LegacyMergeSort"), (1, u "Z"), (21, u "copyOfRange"), (10, .methodref 151 152), (0, .class_ 153), (0, .nameAndType 154 155), (0, u "java/lang/System"), (0, u "arraycopy"), (0, u "(Ljava/lang/Object;ILjava/lang/Object;II)V"), (148, .methodref 305 306), (0, .class_ 307), (0, .nameAndType 308 309), (0, u "java/lang/Math"), (0, u "min"), (0, u "(II)I"), (29, .methodref 14 340), (0, .nameAndType 341 342), (0, u "copyOfRangeByte"), (0, u "([BII)[B"), (0, .methodref 14 344), (0, .nameAndType 345 346), (0, u "checkLength"), (0, u "(II)V"), (28, .class_ 376), (0, u "java/util/Arrays$ArrayList"), (68, u "$assertionsDisabled"), (269, u "MIN_ARRAY_SORT_GRAN"), (0, u "I"), (2, u "INSERTIONSORT_THRESHOLD"), (255, .class_ 976), (0, u "java/util/Arrays$ArrayItr")] 52

def k13m0 : Method := { name := "<init>", desc := "()V", sig := { parameters := [], returnType := none }, accessFlags := 2, code := none }
def k13c1 : Code := { maxStack := 4, maxLocals := 2, code := jdk_65_method_131_code, exceptionTable := #[], attributes := #[] }
def k13m1 : Method := { name := "checkLength", desc := "(II)V", sig := { parameters := [.int, .int], returnType := none }, accessFlags := 10, code := some k13c1 }
def k13c2 : Code := { maxStack := 3, maxLocals := 3, code := jdk_65_method_132_code, exceptionTable := #[], attributes := #[] }
def k13m2 : Method := { name := "copyOfRange", desc := "([BII)[B", sig := { parameters := [(.array .byte), .int, .int], returnType := some (.array .byte) }, accessFlags := 9, code := some k13c2 }
def k13c3 : Code := { maxStack := 6, maxLocals := 5, code := jdk_65_method_133_code, exceptionTable := #[], attributes := #[] }
def k13m3 : Method := { name := "copyOfRangeByte", desc := "([BII)[B", sig := { parameters := [(.array .byte), .int, .int], returnType := some (.array .byte) }, accessFlags := 10, code := some k13c3 }
/-- java/util/Arrays -/
def k13 : Class := { plain "java/util/Arrays" (some 0) with
  accessFlags := 49
  interfaces := #[]
  cf := some (fileOf pool13 14 #[.nestMembers #[975, 375, 113, 74]] #[{ accessFlags := 2, nameIndex := 5, descriptorIndex := 6, attributes := #[] }, { accessFlags := 10, nameIndex := 345, descriptorIndex := 346, attributes := #[] }, { accessFlags := 9, nameIndex := 139, descriptorIndex := 342, attributes := #[] }, { accessFlags := 10, nameIndex := 341, descriptorIndex := 342, attributes := #[] }] 49 2 #[] #[{ accessFlags := 26, nameIndex := 715, descriptorIndex := 716, attributes := #[] }, { accessFlags := 26, nameIndex := 719, descriptorIndex := 716, attributes := #[] }, { accessFlags := 4120, nameIndex := 445, descriptorIndex := 117, attributes := #[] }])
  fields := #[{ name := "MIN_ARRAY_SORT_GRAN", type := .int, accessFlags := 26, slot := 0, constantValue := 0 }, { name := "INSERTIONSORT_THRESHOLD", type := .int, accessFlags := 26, slot := 1, constantValue := 0 }, { name := "$assertionsDisabled", type := .boolean, accessFlags := 4120, slot := 2, constantValue := 0 }]
  methods := #[k13m0, k13m1, k13m2, k13m3]
  instanceTypes := #[]
  staticTypes := #[.int, .int, .boolean]
  resolved := Array.replicate 1029 none
  statics := none }

def pool14 : Array CpInfo := pool [(2, .class_ 4), (1, u "java/lang/Object"), (0, u "<init>"), (0, u "()V"), (1, .class_ 10), (1, u "java/lang/System"), (0, u "allowSecurityManager"), (0, u "I"), (16, u "cons"), (0, u "Ljava/io/Console;"), (77, .class_ 110), (1, u "java/lang/System$CallersHolder"), (43, u "initialErrStream"), (0, u "Ljava/io/PrintStream;"), (19, u "security"), (0, u "Ljava/lang/SecurityManager;"), (31, .class_ 209), (0, u "java/lang/System$1"), (7, u "props"), (0, u "Ljava/util/Properties;"), (2, u "lineSeparator"), (0, u "Ljava/lang/String;"), (96, .class_ 321), (1, u "java/lang/System$LoggerFinder"), (5, .class_ 328), (0, u "java/lang/System$Logger"), (67, u "err"), (2, u "out"), (91, u "notSupportedJnuEncoding"), (15, u "in"), (17, u "initialIn"), (0, u "Ljava/io/InputStream;"), (35, u "bootLayer"), (0, u "Ljava/lang/ModuleLayer;"), (99, .class_ 664), (0, u "java/lang/System$2"), (9, u "NEVER"), (2, u "MAYBE"), (49, u "arraycopy"), (0, u "(Ljava/lang/Object;ILjava/lang/Object;II)V"), (72, .class_ 802), (0, u "java/lang/System$Logger$Level")] 31

def k14m0 : Method := { name := "<init>", desc := "()V", sig := { parameters := [], returnType := none }, accessFlags := 2, code := none }
def k14m1 : Method := { name := "arraycopy", desc := "(Ljava/lang/Object;ILjava/lang/Object;II)V", sig := { parameters := [(.object "java/lang/Object"), .int, (.object "java/lang/Object"), .int, .int], returnType := none }, accessFlags := 265, code := none }
/-- java/lang/System -/
def k14 : Class := { plain "java/lang/System" (some 0) with
  accessFlags := 49
  interfaces := #[]
  cf := some (fileOf pool14 8 #[.nestMembers #[319, 327, 801, 108, 663, 208]] #[{ accessFlags := 2, nameIndex := 5, descriptorIndex := 6, attributes := #[] }, { accessFlags := 265, nameIndex := 727, descriptorIndex := 728, attributes := #[] }] 49 2 #[] #[{ accessFlags := 25, nameIndex := 507, descriptorIndex := 526, attributes := #[] }, { accessFlags := 25, nameIndex := 399, descriptorIndex := 155, attributes := #[] }, { accessFlags := 25, nameIndex := 396, descriptorIndex := 155, attributes := #[] }, { accessFlags := 10, nameIndex := 525, descriptorIndex := 526, attributes := #[] }, { accessFlags := 26, nameIndex := 674, descriptorIndex := 12, attributes := #[] }, { accessFlags := 26, nameIndex := 677, descriptorIndex := 12, attributes := #[] }, { accessFlags := 10, nameIndex := 11, descriptorIndex := 12, attributes := #[] }, { accessFlags := 74, nameIndex := 175, descriptorIndex := 176, attributes := #[] }, { accessFlags := 10, nameIndex := 491, descriptorIndex := 222, attributes := #[] }, { accessFlags := 74, nameIndex := 29, descriptorIndex := 30, attributes := #[] }, { accessFlags := 74, nameIndex := 154, descriptorIndex := 155, attributes := #[] }, { accessFlags := 10, nameIndex := 217, descriptorIndex := 218, attributes := #[] }, { accessFlags := 10, nameIndex := 221, descriptorIndex := 222, attributes := #[] }, { accessFlags := 8, nameIndex := 562, descriptorIndex := 563, attributes := #[] }])
  fields := #[{ name := "in", type := (.object "java/io/InputStream"), accessFlags := 25, slot := 0, constantValue := 0 }, { name := "out", type := (.object "java/io/PrintStream"), accessFlags := 25, slot := 1, constantValue := 0 }, { name := "err", type := (.object "java/io/PrintStream"), accessFlags := 25, slot := 2, constantValue := 0 }, { name := "initialIn", type := (.object "java/io/InputStream"), accessFlags := 10, slot := 3, constantValue := 0 }, { name := "NEVER", type := .int, accessFlags := 26, slot := 4, constantValue := 0 }, { name := "MAYBE", type := .int, accessFlags := 26, slot := 5, constantValue := 0 }, { name := "allowSecurityManager", type := .int, accessFlags := 10, slot := 6, constantValue := 0 }, { name := "security", type := (.object "java/lang/SecurityManager"), accessFlags := 74, slot := 7, constantValue := 0 }, { name := "notSupportedJnuEncoding", type := (.object "java/lang/String"), accessFlags := 10, slot := 8, constantValue := 0 }, { name := "cons", type := (.object "java/io/Console"), accessFlags := 74, slot := 9, constantValue := 0 }, { name := "initialErrStream", type := (.object "java/io/PrintStream"), accessFlags := 74, slot := 10, constantValue := 0 }, { name := "props", type := (.object "java/util/Properties"), accessFlags := 10, slot := 11, constantValue := 0 }, { name := "lineSeparator", type := (.object "java/lang/String"), accessFlags := 10, slot := 12, constantValue := 0 }, { name := "bootLayer", type := (.object "java/lang/ModuleLayer"), accessFlags := 8, slot := 13, constantValue := 0 }]
  methods := #[k14m0, k14m1]
  instanceTypes := #[]
  staticTypes := #[(.object "java/io/InputStream"), (.object "java/io/PrintStream"), (.object "java/io/PrintStream"), (.object "java/io/InputStream"), .int, .int, .int, (.object "java/lang/SecurityManager"), (.object "java/lang/String"), (.object "java/io/Console"), (.object "java/io/PrintStream"), (.object "java/util/Properties"), (.object "java/lang/String"), (.object "java/lang/ModuleLayer")]
  resolved := Array.replicate 834 none
  statics := none }

def pool15 : Array CpInfo := pool [(9, u "<init>"), (6, .class_ 18), (1, u "java/lang/Object"), (0, u "()V"), (1, .class_ 23), (1, u "jdk/internal/util/ArraysSupport"), (0, u "LOG2_ARRAY_LONG_INDEX_SCALE"), (0, u "I"), (2, u "U"), (0, u "Ljdk/internal/misc/Unsafe;"), (8, u "BIG_ENDIAN"), (0, u "Z"), (8, u "LOG2_BYTE_BIT_SIZE"), (4, u "LOG2_ARRAY_INT_INDEX_SCALE"), (54, u "JLA"), (0, u "Ljdk/internal/access/JavaLangAccess;"), (11, u "LOG2_ARRAY_BOOLEAN_INDEX_SCALE"), (9, u "LOG2_ARRAY_BYTE_INDEX_SCALE"), (5, u "LOG2_ARRAY_CHAR_INDEX_SCALE"), (5, u "LOG2_ARRAY_SHORT_INDEX_SCALE"), (18, u "LOG2_ARRAY_FLOAT_INDEX_SCALE"), (24, u "LOG2_ARRAY_DOUBLE_INDEX_SCALE"), (89, u "T_BOOLEAN"), (2, u "T_CHAR"), (1, u "T_FLOAT"), (1, u "T_DOUBLE"), (1, u "T_BYTE"), (1, u "T_SHORT"), (1, u "T_INT"), (1, u "T_LONG"), (1, u "SOFT_MAX_ARRAY_LENGTH")] 83

def k15m0 : Method := { name := "<init>", desc := "()V", sig := { parameters := [], returnType := none }, accessFlags := 2, code := none }
/-- jdk/internal/util/ArraysSupport -/
def k15 : Class := { plain "jdk/internal/util/ArraysSupport" (some 0) with
  accessFlags := 33
  interfaces := #[]
  cf := some (fileOf pool15 21 #[] #[{ accessFlags := 2, nameIndex := 9, descriptorIndex := 19, attributes := #[] }] 33 16 #[] #[{ accessFlags := 24, nameIndex := 28, descriptorIndex := 29, attributes := #[] }, { accessFlags := 26, nameIndex := 38, descriptorIndex := 39, attributes := #[] }, { accessFlags := 25, nameIndex := 121, descriptorIndex := 25, attributes := #[] }, { accessFlags := 25, nameIndex := 131, descriptorIndex := 25, attributes := #[] }, { accessFlags := 25, nameIndex := 137, descriptorIndex := 25, attributes := #[] }, { accessFlags := 25, nameIndex := 143, descriptorIndex := 25, attributes := #[] }, { accessFlags := 25, nameIndex := 53, descriptorIndex := 25, attributes := #[] }, { accessFlags := 25, nameIndex := 24, descriptorIndex := 25, attributes := #[] }, { accessFlags := 25, nameIndex := 162, descriptorIndex := 25, attributes := #[] }, { accessFlags := 25, nameIndex := 187, descriptorIndex := 25, attributes := #[] }, { accessFlags := 26, nameIndex := 48, descriptorIndex := 25, attributes := #[] }, { accessFlags := 25, nameIndex := 277, descriptorIndex := 25, attributes := #[] }, { accessFlags := 25, nameIndex := 280, descriptorIndex := 25, attributes := #[] }, { accessFlags := 25, nameIndex := 282, descriptorIndex := 25, attributes := #[] }, { accessFlags := 25, nameIndex := 284, descriptorIndex := 25, attributes := #[] }, { accessFlags := 25, nameIndex := 286, descriptorIndex := 25, attributes := #[] }, { accessFlags := 25, nameIndex := 288, descriptorIndex := 25, attributes := #[] }, { accessFlags := 25, nameIndex := 290, descriptorIndex := 25, attributes := #[] }, { accessFlags := 25, nameIndex := 292, descriptorIndex := 25, attributes := #[] }, { accessFlags := 26, nameIndex := 108, descriptorIndex := 109, attributes := #[] }, { accessFlags := 25, nameIndex := 294, descriptorIndex := 25, attributes := #[] }])
  fields := #[{ name := "U", type := (.object "jdk/internal/misc/Unsafe"), accessFlags := 24, slot := 0, constantValue := 0 }, { name := "BIG_ENDIAN", type := .boolean, accessFlags := 26, slot := 1, constantValue := 0 }, { name := "LOG2_ARRAY_BOOLEAN_INDEX_SCALE", type := .int, accessFlags := 25, slot := 2, constantValue := 0 }, { name := "LOG2_ARRAY_BYTE_INDEX_SCALE", type := .int, accessFlags := 25, slot := 3, constantValue := 0 }, { name := "LOG2_ARRAY_CHAR_INDEX_SCALE", type := .int, accessFlags := 25, slot := 4, constantValue := 0 }, { name := "LOG2_ARRAY_SHORT_INDEX_SCALE", type := .int, accessFlags := 25, slot := 5, constantValue := 0 }, { name := "LOG2_ARRAY_INT_INDEX_SCALE", type := .int, accessFlags := 25, slot := 6, constantValue := 0 }, { name := "LOG2_ARRAY_LONG_INDEX_SCALE", type := .int, accessFlags := 25, slot := 7, constantValue := 0 }, { name := "LOG2_ARRAY_FLOAT_INDEX_SCALE", type := .int, accessFlags := 25, slot := 8, constantValue := 0 }, { name := "LOG2_ARRAY_DOUBLE_INDEX_SCALE", type := .int, accessFlags := 25, slot := 9, constantValue := 0 }, { name := "LOG2_BYTE_BIT_SIZE", type := .int, accessFlags := 26, slot := 10, constantValue := 0 }, { name := "T_BOOLEAN", type := .int, accessFlags := 25, slot := 11, constantValue := 0 }, { name := "T_CHAR", type := .int, accessFlags := 25, slot := 12, constantValue := 0 }, { name := "T_FLOAT", type := .int, accessFlags := 25, slot := 13, constantValue := 0 }, { name := "T_DOUBLE", type := .int, accessFlags := 25, slot := 14, constantValue := 0 }, { name := "T_BYTE", type := .int, accessFlags := 25, slot := 15, constantValue := 0 }, { name := "T_SHORT", type := .int, accessFlags := 25, slot := 16, constantValue := 0 }, { name := "T_INT", type := .int, accessFlags := 25, slot := 17, constantValue := 0 }, { name := "T_LONG", type := .int, accessFlags := 25, slot := 18, constantValue := 0 }, { name := "JLA", type := (.object "jdk/internal/access/JavaLangAccess"), accessFlags := 26, slot := 19, constantValue := 0 }, { name := "SOFT_MAX_ARRAY_LENGTH", type := .int, accessFlags := 25, slot := 20, constantValue := 0 }]
  methods := #[k15m0]
  instanceTypes := #[]
  staticTypes := #[(.object "jdk/internal/misc/Unsafe"), .boolean, .int, .int, .int, .int, .int, .int, .int, .int, .int, .int, .int, .int, .int, .int, .int, .int, .int, (.object "jdk/internal/access/JavaLangAccess"), .int]
  resolved := Array.replicate 378 none
  statics := none }

def pool16 : Array CpInfo := pool [(1, u "java/lang/Cloneable"), (0, .class_ 1), (0, u "java/lang/Object"), (0, .class_ 3)] 3

/-- java/lang/Cloneable -/
def k16 : Class := { plain "java/lang/Cloneable" (some 0) with
  accessFlags := 1537
  interfaces := #[]
  cf := some (fileOf pool16 2 #[] #[] 1537 4 #[] #[])
  fields := #[]
  methods := #[]
  instanceTypes := #[]
  staticTypes := #[]
  resolved := Array.replicate 8 none
  statics := none }

/-- the primitive byte -/
def k17 : Class := { plain "byte" none with kind := .primitive 'B', accessFlags := 0x411 }
/-- [B -/
def k18 : Class := { plain "[B" (some 0) with kind := .array 17 .byte, interfaces := #[16, 3], accessFlags := 1041 }

/-- the primitive char -/
def k19 : Class := { plain "char" none with kind := .primitive 'C', accessFlags := 0x411 }
/-- [C -/
def k20 : Class := { plain "[C" (some 0) with kind := .array 19 .char, interfaces := #[16, 3], accessFlags := 1041 }

/-- the primitive int -/
def k21 : Class := { plain "int" none with kind := .primitive 'I', accessFlags := 0x411 }
/-- [I -/
def k22 : Class := { plain "[I" (some 0) with kind := .array 21 .int, interfaces := #[16, 3], accessFlags := 1041 }

def heap : Heap := #[{ cls := 8, slots := #[.long 0, .int 1, .null, .int 0, .null, .int 0, .int 0], vm := .statics 8 },
  { cls := 10, slots := #[.null, .null, .null], vm := .statics 10 }]
def classes : Array Class := #[k0, k1, k2, k3, k4, k5, k6, k7, k8, k9, k10, k11, k12, k13, k14, k15, k16, k17, k18, k19, k20, k21, k22]
def interned : List (Array UInt16 × Addr) := []
def slotsUsed : Nat := 10
def theMethod : MethodId := ⟨1, 5⟩
def args0 : Array Value := #[.int 2, .int 0, .int 1, .int 2, .int 3, .int 4]
def aboutOver (below : List Frame) : State where
  vm := { classes := classes, interned := interned.toArray }
  heap := heap
  slotsUsed := slotsUsed
  threads := #[{ frames := .invoking theMethod args0 :: below }]
def below0 : List Frame := [.native { method := ⟨0, 0⟩, args := #[] }]
def about1 : State := aboutOver below0
def p0 : Program := .bare "" "" ""
def e0 : Env := launch0.env 0 0 0
theorem w_frames : about1.frames = Frame.invoking theMethod args0 :: below0 := rfl
set_option maxRecDepth 65536 in
theorem w_args : argsFit about1.vm theMethod args0 = true := by decide +kernel
set_option maxRecDepth 65536 in
theorem w_heap : heapFits about1 = true := by decide +kernel
set_option maxRecDepth 65536 in
theorem w_runnable : about1.curStatus? = some .runnable := by decide +kernel
set_option maxRecDepth 65536 in
theorem w_alone : about1.alone = true := by decide +kernel
set_option maxRecDepth 65536 in
theorem w_named : about1.methodNamed? x = some theMethod := by decide +kernel
set_option maxRecDepth 65536 in
theorem w_hears : about1.hears theMethod below0 = true := by decide +kernel
set_option maxRecDepth 65536 in
theorem w_ripe : about1.ripe theMethod args0 below0 = true := by decide +kernel
theorem w_running : about1.status = .running := rfl
set_option maxRecDepth 65536 in
theorem w_room : about1.hasRoom e0.platform room_1 = true :=
  launch0.hasRoom_least _ room_1 (by decide +kernel) (by decide +kernel) (by decide +kernel) (by decide +kernel) (by decide +kernel) (by decide +kernel)
theorem allAtoms_all (ts : List Jvm.Cond) (a : Array Jvm.Value) (st : Jvm.State) : (allAtoms ts).before a st = ts.all (fun c => c.before a st) := by
  induction ts with
  | nil => rfl
  | cons c t ih =>
    show (Jvm.Cond.and c (allAtoms t)).before a st = _
    rw [Jvm.Cond.before_and, ih, List.all_cons]
def words1 : List Jvm.Cond := Jvm.Cond.code x code maxLocals ret :: tables_1
/-- a 'code' word, met by the world's own term for the bytes: nothing is compared byte by byte -/
theorem code_word {y : MethodName} {bytes : ByteArray} {mx : Nat} {rt : Option FieldType} {a : Array Value} {s : State} {m : MethodId} {meth : Method} {c : Code} (h1 : s.methodNamed? y = some m) (h2 : s.vm.method? m = some meth) (h3 : meth.code = some c) (h4 : c.code = bytes)
    (h5 : (c.maxLocals == mx && c.exceptionTable.isEmpty && decide (c.maxStack ≤ mostOperands) && decide (meth.sig.returnType = rt) && !meth.locks && decide (parseMethodDescriptor y.desc = some meth.sig)) = true) : (Jvm.Cond.code y bytes mx rt).before a s = true := by
  simp only [Bool.and_eq_true, beq_iff_eq, Bool.not_eq_true', decide_eq_true_eq] at h5
  obtain ⟨⟨⟨⟨⟨g1, g2⟩, g3⟩, g4⟩, g5⟩, g6⟩ := h5
  simp [Cond.before, Cond.holds, Cond.value, h1, h2, h3, h4, g1, g2, g3, g4, g5, g6]
def isCode : Jvm.Cond → Bool
  | .code _ _ _ _ => true
  | _ => false
theorem all_split {L : List Jvm.Cond} {P : Jvm.Cond → Bool} (h1 : L.all (fun c => isCode c || P c) = true) (h2 : ∀ c ∈ L.filter isCode, P c = true) : L.all P = true := by
  refine List.all_eq_true.mpr fun c hc => ?_
  have h := List.all_eq_true.mp h1 c hc
  rcases Bool.eq_false_or_eq_true (isCode c) with hi | hi
  · exact h2 c (List.mem_filter.mpr ⟨hc, hi⟩)
  · simpa [hi] using h
set_option maxRecDepth 65536 in
theorem w_c0 : (Jvm.Cond.code x code maxLocals ret).before args0 about1 = true := code_word (m := ⟨1, 5⟩) (meth := k1m5) (c := k1c5) (by decide +kernel) rfl rfl rfl (by decide +kernel)
set_option maxRecDepth 65536 in
theorem w_c1 : (Jvm.Cond.code ({ cls := "java/lang/Math", name := "min", desc := "(II)I" } : Jvm.MethodName) jdk_29_method_69_code (2 : Nat) (Option.some Jvm.ClassFile.FieldType.int)).before args0 about1 = true := code_word (m := ⟨2, 1⟩) (meth := k2m1) (c := k2c1) (by decide +kernel) rfl rfl rfl (by decide +kernel)
set_option maxRecDepth 65536 in
theorem w_c2 : (Jvm.Cond.code ({ cls := "java/lang/String", name := "<init>", desc := "([C)V" } : Jvm.MethodName) jdk_42_method_3_code (2 : Nat) (Option.none : Option Jvm.ClassFile.FieldType)).before args0 about1 = true := code_word (m := ⟨8, 1⟩) (meth := k8m1) (c := k8c1) (by decide +kernel) rfl rfl rfl (by decide +kernel)
set_option maxRecDepth 65536 in
theorem w_c3 : (Jvm.Cond.code ({ cls := "java/lang/String", name := "<init>", desc := "([CIILjava/lang/Void;)V" } : Jvm.MethodName) jdk_42_method_149_code (6 : Nat) (Option.none : Option Jvm.ClassFile.FieldType)).before args0 about1 = true := code_word (m := ⟨8, 5⟩) (meth := k8m5) (c := k8c5) (by decide +kernel) rfl rfl rfl (by decide +kernel)
set_option maxRecDepth 65536 in
theorem w_c4 : (Jvm.Cond.code ({ cls := "java/lang/Object", name := "<init>", desc := "()V" } : Jvm.MethodName) object_method_1_code (1 : Nat) (Option.none : Option Jvm.ClassFile.FieldType)).before args0 about1 = true := code_word (m := ⟨0, 0⟩) (meth := k0m0) (c := k0c0) (by decide +kernel) rfl rfl rfl (by decide +kernel)
set_option maxRecDepth 65536 in
theorem w_c5 : (Jvm.Cond.code ({ cls := "com/example/caddis/caddis/conformance/XmlValues", name := "trim", desc := "(Ljava/lang/String;)Ljava/lang/String;" } : Jvm.MethodName) prog_41_method_2_code (3 : Nat) (Option.some (Jvm.ClassFile.FieldType.object "java/lang/String"))).before args0 about1 = true := code_word (m := ⟨9, 1⟩) (meth := k9m1) (c := k9c1) (by decide +kernel) rfl rfl rfl (by decide +kernel)
set_option maxRecDepth 65536 in
theorem w_c6 : (Jvm.Cond.code ({ cls := "java/lang/String", name := "length", desc := "()I" } : Jvm.MethodName) jdk_42_method_54_code (1 : Nat) (Option.some Jvm.ClassFile.FieldType.int)).before args0 about1 = true := code_word (m := ⟨8, 2⟩) (meth := k8m2) (c := k8c2) (by decide +kernel) rfl rfl rfl (by decide +kernel)
set_option maxRecDepth 65536 in
theorem w_c7 : (Jvm.Cond.code ({ cls := "java/lang/String", name := "coder", desc := "()B" } : Jvm.MethodName) jdk_42_method_152_code (1 : Nat) (Option.some Jvm.ClassFile.FieldType.byte)).before args0 about1 = true := code_word (m := ⟨8, 7⟩) (meth := k8m7) (c := k8c7) (by decide +kernel) rfl rfl rfl (by decide +kernel)
set_option maxRecDepth 65536 in
theorem w_c8 : (Jvm.Cond.code ({ cls := "java/lang/String", name := "substring", desc := "(II)Ljava/lang/String;" } : Jvm.MethodName) jdk_42_method_92_code (5 : Nat) (Option.some (Jvm.ClassFile.FieldType.object "java/lang/String"))).before args0 about1 = true := code_word (m := ⟨8, 4⟩) (meth := k8m4) (c := k8c4) (by decide +kernel) rfl rfl rfl (by decide +kernel)
set_option maxRecDepth 65536 in
theorem w_c9 : (Jvm.Cond.code ({ cls := "java/lang/String", name := "checkBoundsBeginEnd", desc := "(III)V" } : Jvm.MethodName) jdk_42_method_158_code (3 : Nat) (Option.none : Option Jvm.ClassFile.FieldType)).before args0 about1 = true := code_word (m := ⟨8, 10⟩) (meth := k8m10) (c := k8c10) (by decide +kernel) rfl rfl rfl (by decide +kernel)
set_option maxRecDepth 65536 in
theorem w_c10 : (Jvm.Cond.code ({ cls := "jdk/internal/util/Preconditions", name := "checkFromToIndex", desc := "(IIILjava/util/function/BiFunction;)I" } : Jvm.MethodName) jdk_41_method_12_code (4 : Nat) (Option.some Jvm.ClassFile.FieldType.int)).before args0 about1 = true := code_word (m := ⟨10, 2⟩) (meth := k10m2) (c := k10c2) (by decide +kernel) rfl rfl rfl (by decide +kernel)
set_option maxRecDepth 65536 in
theorem w_c11 : (Jvm.Cond.code ({ cls := "com/example/caddis/caddis/conformance/XmlValuesTrimPinLaw", name := "ns", desc := "([CI)Z" } : Jvm.MethodName) method_4_code (2 : Nat) (Option.some Jvm.ClassFile.FieldType.boolean)).before args0 about1 = true := code_word (m := ⟨1, 3⟩) (meth := k1m3) (c := k1c3) (by decide +kernel) rfl rfl rfl (by decide +kernel)
set_option maxRecDepth 65536 in
theorem w_c12 : (Jvm.Cond.code ({ cls := "com/example/caddis/caddis/conformance/XmlValuesTrimPinLaw", name := "charOk", desc := "(Ljava/lang/String;[CIII)Z" } : Jvm.MethodName) method_5_code (5 : Nat) (Option.some Jvm.ClassFile.FieldType.boolean)).before args0 about1 = true := code_word (m := ⟨1, 4⟩) (meth := k1m4) (c := k1c4) (by decide +kernel) rfl rfl rfl (by decide +kernel)
set_option maxRecDepth 65536 in
theorem w_c13 : (Jvm.Cond.code ({ cls := "com/example/caddis/caddis/conformance/XmlValuesTrimPinLaw", name := "ch", desc := "(I)C" } : Jvm.MethodName) method_2_code (2 : Nat) (Option.some Jvm.ClassFile.FieldType.char)).before args0 about1 = true := code_word (m := ⟨1, 1⟩) (meth := k1m1) (c := k1c1) (by decide +kernel) rfl rfl rfl (by decide +kernel)
set_option maxRecDepth 65536 in
theorem w_c14 : (Jvm.Cond.code ({ cls := "java/lang/StringUTF16", name := "compress", desc := "([CII)[B" } : Jvm.MethodName) jdk_52_method_16_code (6 : Nat) (Option.some (Jvm.ClassFile.FieldType.array Jvm.ClassFile.FieldType.byte))).before args0 about1 = true := code_word (m := ⟨11, 2⟩) (meth := k11m2) (c := k11c2) (by decide +kernel) rfl rfl rfl (by decide +kernel)
set_option maxRecDepth 65536 in
theorem w_c15 : (Jvm.Cond.code ({ cls := "java/lang/StringUTF16", name := "compress", desc := "([CI[BII)I" } : Jvm.MethodName) jdk_52_method_21_code (7 : Nat) (Option.some Jvm.ClassFile.FieldType.int)).before args0 about1 = true := code_word (m := ⟨11, 3⟩) (meth := k11m3) (c := k11c3) (by decide +kernel) rfl rfl rfl (by decide +kernel)
set_option maxRecDepth 65536 in
theorem w_c16 : (Jvm.Cond.code ({ cls := "java/lang/StringUTF16", name := "coderFromArrayLen", desc := "([BI)B" } : Jvm.MethodName) jdk_52_method_15_code (2 : Nat) (Option.some Jvm.ClassFile.FieldType.byte)).before args0 about1 = true := code_word (m := ⟨11, 1⟩) (meth := k11m1) (c := k11c1) (by decide +kernel) rfl rfl rfl (by decide +kernel)
set_option maxRecDepth 65536 in
theorem w_c17 : (Jvm.Cond.code ({ cls := "java/lang/String", name := "charAt", desc := "(I)C" } : Jvm.MethodName) jdk_42_method_56_code (2 : Nat) (Option.some Jvm.ClassFile.FieldType.char)).before args0 about1 = true := code_word (m := ⟨8, 3⟩) (meth := k8m3) (c := k8c3) (by decide +kernel) rfl rfl rfl (by decide +kernel)
set_option maxRecDepth 65536 in
theorem w_c18 : (Jvm.Cond.code ({ cls := "java/lang/String", name := "isLatin1", desc := "()Z" } : Jvm.MethodName) jdk_42_method_154_code (1 : Nat) (Option.some Jvm.ClassFile.FieldType.boolean)).before args0 about1 = true := code_word (m := ⟨8, 8⟩) (meth := k8m8) (c := k8c8) (by decide +kernel) rfl rfl rfl (by decide +kernel)
set_option maxRecDepth 65536 in
theorem w_c19 : (Jvm.Cond.code ({ cls := "java/lang/StringLatin1", name := "charAt", desc := "([BI)C" } : Jvm.MethodName) jdk_43_method_2_code (2 : Nat) (Option.some Jvm.ClassFile.FieldType.char)).before args0 about1 = true := code_word (m := ⟨12, 1⟩) (meth := k12m1) (c := k12c1) (by decide +kernel) rfl rfl rfl (by decide +kernel)
set_option maxRecDepth 65536 in
theorem w_c20 : (Jvm.Cond.code ({ cls := "java/lang/String", name := "checkIndex", desc := "(II)V" } : Jvm.MethodName) jdk_42_method_155_code (2 : Nat) (Option.none : Option Jvm.ClassFile.FieldType)).before args0 about1 = true := code_word (m := ⟨8, 9⟩) (meth := k8m9) (c := k8c9) (by decide +kernel) rfl rfl rfl (by decide +kernel)
set_option maxRecDepth 65536 in
theorem w_c21 : (Jvm.Cond.code ({ cls := "jdk/internal/util/Preconditions", name := "checkIndex", desc := "(IILjava/util/function/BiFunction;)I" } : Jvm.MethodName) jdk_41_method_11_code (3 : Nat) (Option.some Jvm.ClassFile.FieldType.int)).before args0 about1 = true := code_word (m := ⟨10, 1⟩) (meth := k10m1) (c := k10c1) (by decide +kernel) rfl rfl rfl (by decide +kernel)
set_option maxRecDepth 65536 in
theorem w_c22 : (Jvm.Cond.code ({ cls := "com/example/caddis/caddis/conformance/XmlValues", name := "isSpace", desc := "(C)Z" } : Jvm.MethodName) prog_41_method_7_code (1 : Nat) (Option.some Jvm.ClassFile.FieldType.boolean)).before args0 about1 = true := code_word (m := ⟨9, 2⟩) (meth := k9m2) (c := k9c2) (by decide +kernel) rfl rfl rfl (by decide +kernel)
set_option maxRecDepth 65536 in
theorem w_c23 : (Jvm.Cond.code ({ cls := "java/lang/StringLatin1", name := "newString", desc := "([BII)Ljava/lang/String;" } : Jvm.MethodName) jdk_43_method_47_code (3 : Nat) (Option.some (Jvm.ClassFile.FieldType.object "java/lang/String"))).before args0 about1 = true := code_word (m := ⟨12, 2⟩) (meth := k12m2) (c := k12c2) (by decide +kernel) rfl rfl rfl (by decide +kernel)
set_option maxRecDepth 65536 in
theorem w_c24 : (Jvm.Cond.code ({ cls := "java/util/Arrays", name := "copyOfRange", desc := "([BII)[B" } : Jvm.MethodName) jdk_65_method_132_code (3 : Nat) (Option.some (Jvm.ClassFile.FieldType.array Jvm.ClassFile.FieldType.byte))).before args0 about1 = true := code_word (m := ⟨13, 2⟩) (meth := k13m2) (c := k13c2) (by decide +kernel) rfl rfl rfl (by decide +kernel)
set_option maxRecDepth 65536 in
theorem w_c25 : (Jvm.Cond.code ({ cls := "java/util/Arrays", name := "copyOfRangeByte", desc := "([BII)[B" } : Jvm.MethodName) jdk_65_method_133_code (5 : Nat) (Option.some (Jvm.ClassFile.FieldType.array Jvm.ClassFile.FieldType.byte))).before args0 about1 = true := code_word (m := ⟨13, 3⟩) (meth := k13m3) (c := k13c3) (by decide +kernel) rfl rfl rfl (by decide +kernel)
set_option maxRecDepth 65536 in
theorem w_c26 : (Jvm.Cond.code ({ cls := "java/util/Arrays", name := "checkLength", desc := "(II)V" } : Jvm.MethodName) jdk_65_method_131_code (2 : Nat) (Option.none : Option Jvm.ClassFile.FieldType)).before args0 about1 = true := code_word (m := ⟨13, 1⟩) (meth := k13m1) (c := k13c1) (by decide +kernel) rfl rfl rfl (by decide +kernel)
set_option maxRecDepth 65536 in
theorem w_c27 : (Jvm.Cond.code ({ cls := "java/lang/String", name := "<init>", desc := "([BB)V" } : Jvm.MethodName) jdk_42_method_151_code (3 : Nat) (Option.none : Option Jvm.ClassFile.FieldType)).before args0 about1 = true := code_word (m := ⟨8, 6⟩) (meth := k8m6) (c := k8c6) (by decide +kernel) rfl rfl rfl (by decide +kernel)
set_option maxRecDepth 65536 in
theorem w_c28 : (Jvm.Cond.code ({ cls := "com/example/caddis/caddis/conformance/XmlValuesTrimPinLaw", name := "sp", desc := "(C)Z" } : Jvm.MethodName) method_3_code (1 : Nat) (Option.some Jvm.ClassFile.FieldType.boolean)).before args0 about1 = true := code_word (m := ⟨1, 2⟩) (meth := k1m2) (c := k1c2) (by decide +kernel) rfl rfl rfl (by decide +kernel)
def codes1 : List Jvm.Cond := [Jvm.Cond.code x code maxLocals ret, Jvm.Cond.code ({ cls := "java/lang/Math", name := "min", desc := "(II)I" } : Jvm.MethodName) jdk_29_method_69_code (2 : Nat) (Option.some Jvm.ClassFile.FieldType.int), Jvm.Cond.code ({ cls := "java/lang/String", name := "<init>", desc := "([C)V" } : Jvm.MethodName) jdk_42_method_3_code (2 : Nat) (Option.none : Option Jvm.ClassFile.FieldType), Jvm.Cond.code ({ cls := "java/lang/String", name := "<init>", desc := "([CIILjava/lang/Void;)V" } : Jvm.MethodName) jdk_42_method_149_code (6 : Nat) (Option.none : Option Jvm.ClassFile.FieldType), Jvm.Cond.code ({ cls := "java/lang/Object", name := "<init>", desc := "()V" } : Jvm.MethodName) object_method_1_code (1 : Nat) (Option.none : Option Jvm.ClassFile.FieldType), Jvm.Cond.code ({ cls := "com/example/caddis/caddis/conformance/XmlValues", name := "trim", desc := "(Ljava/lang/String;)Ljava/lang/String;" } : Jvm.MethodName) prog_41_method_2_code (3 : Nat) (Option.some (Jvm.ClassFile.FieldType.object "java/lang/String")), Jvm.Cond.code ({ cls := "java/lang/String", name := "length", desc := "()I" } : Jvm.MethodName) jdk_42_method_54_code (1 : Nat) (Option.some Jvm.ClassFile.FieldType.int), Jvm.Cond.code ({ cls := "java/lang/String", name := "coder", desc := "()B" } : Jvm.MethodName) jdk_42_method_152_code (1 : Nat) (Option.some Jvm.ClassFile.FieldType.byte), Jvm.Cond.code ({ cls := "java/lang/String", name := "substring", desc := "(II)Ljava/lang/String;" } : Jvm.MethodName) jdk_42_method_92_code (5 : Nat) (Option.some (Jvm.ClassFile.FieldType.object "java/lang/String")), Jvm.Cond.code ({ cls := "java/lang/String", name := "checkBoundsBeginEnd", desc := "(III)V" } : Jvm.MethodName) jdk_42_method_158_code (3 : Nat) (Option.none : Option Jvm.ClassFile.FieldType), Jvm.Cond.code ({ cls := "jdk/internal/util/Preconditions", name := "checkFromToIndex", desc := "(IIILjava/util/function/BiFunction;)I" } : Jvm.MethodName) jdk_41_method_12_code (4 : Nat) (Option.some Jvm.ClassFile.FieldType.int), Jvm.Cond.code ({ cls := "com/example/caddis/caddis/conformance/XmlValuesTrimPinLaw", name := "ns", desc := "([CI)Z" } : Jvm.MethodName) method_4_code (2 : Nat) (Option.some Jvm.ClassFile.FieldType.boolean), Jvm.Cond.code ({ cls := "com/example/caddis/caddis/conformance/XmlValuesTrimPinLaw", name := "charOk", desc := "(Ljava/lang/String;[CIII)Z" } : Jvm.MethodName) method_5_code (5 : Nat) (Option.some Jvm.ClassFile.FieldType.boolean), Jvm.Cond.code ({ cls := "com/example/caddis/caddis/conformance/XmlValuesTrimPinLaw", name := "ch", desc := "(I)C" } : Jvm.MethodName) method_2_code (2 : Nat) (Option.some Jvm.ClassFile.FieldType.char), Jvm.Cond.code ({ cls := "java/lang/StringUTF16", name := "compress", desc := "([CII)[B" } : Jvm.MethodName) jdk_52_method_16_code (6 : Nat) (Option.some (Jvm.ClassFile.FieldType.array Jvm.ClassFile.FieldType.byte)), Jvm.Cond.code ({ cls := "java/lang/StringUTF16", name := "compress", desc := "([CI[BII)I" } : Jvm.MethodName) jdk_52_method_21_code (7 : Nat) (Option.some Jvm.ClassFile.FieldType.int), Jvm.Cond.code ({ cls := "java/lang/StringUTF16", name := "coderFromArrayLen", desc := "([BI)B" } : Jvm.MethodName) jdk_52_method_15_code (2 : Nat) (Option.some Jvm.ClassFile.FieldType.byte), Jvm.Cond.code ({ cls := "java/lang/String", name := "charAt", desc := "(I)C" } : Jvm.MethodName) jdk_42_method_56_code (2 : Nat) (Option.some Jvm.ClassFile.FieldType.char), Jvm.Cond.code ({ cls := "java/lang/String", name := "isLatin1", desc := "()Z" } : Jvm.MethodName) jdk_42_method_154_code (1 : Nat) (Option.some Jvm.ClassFile.FieldType.boolean), Jvm.Cond.code ({ cls := "java/lang/StringLatin1", name := "charAt", desc := "([BI)C" } : Jvm.MethodName) jdk_43_method_2_code (2 : Nat) (Option.some Jvm.ClassFile.FieldType.char), Jvm.Cond.code ({ cls := "java/lang/String", name := "checkIndex", desc := "(II)V" } : Jvm.MethodName) jdk_42_method_155_code (2 : Nat) (Option.none : Option Jvm.ClassFile.FieldType), Jvm.Cond.code ({ cls := "jdk/internal/util/Preconditions", name := "checkIndex", desc := "(IILjava/util/function/BiFunction;)I" } : Jvm.MethodName) jdk_41_method_11_code (3 : Nat) (Option.some Jvm.ClassFile.FieldType.int), Jvm.Cond.code ({ cls := "com/example/caddis/caddis/conformance/XmlValues", name := "isSpace", desc := "(C)Z" } : Jvm.MethodName) prog_41_method_7_code (1 : Nat) (Option.some Jvm.ClassFile.FieldType.boolean), Jvm.Cond.code ({ cls := "java/lang/StringLatin1", name := "newString", desc := "([BII)Ljava/lang/String;" } : Jvm.MethodName) jdk_43_method_47_code (3 : Nat) (Option.some (Jvm.ClassFile.FieldType.object "java/lang/String")), Jvm.Cond.code ({ cls := "java/util/Arrays", name := "copyOfRange", desc := "([BII)[B" } : Jvm.MethodName) jdk_65_method_132_code (3 : Nat) (Option.some (Jvm.ClassFile.FieldType.array Jvm.ClassFile.FieldType.byte)), Jvm.Cond.code ({ cls := "java/util/Arrays", name := "copyOfRangeByte", desc := "([BII)[B" } : Jvm.MethodName) jdk_65_method_133_code (5 : Nat) (Option.some (Jvm.ClassFile.FieldType.array Jvm.ClassFile.FieldType.byte)), Jvm.Cond.code ({ cls := "java/util/Arrays", name := "checkLength", desc := "(II)V" } : Jvm.MethodName) jdk_65_method_131_code (2 : Nat) (Option.none : Option Jvm.ClassFile.FieldType), Jvm.Cond.code ({ cls := "java/lang/String", name := "<init>", desc := "([BB)V" } : Jvm.MethodName) jdk_42_method_151_code (3 : Nat) (Option.none : Option Jvm.ClassFile.FieldType), Jvm.Cond.code ({ cls := "com/example/caddis/caddis/conformance/XmlValuesTrimPinLaw", name := "sp", desc := "(C)Z" } : Jvm.MethodName) method_3_code (1 : Nat) (Option.some Jvm.ClassFile.FieldType.boolean)]
set_option maxRecDepth 65536 in
theorem codes_eq : words1.filter isCode = codes1 := rfl
theorem w_codes : ∀ c ∈ words1.filter isCode, c.before args0 about1 = true := by
  rw [codes_eq]
  intro c hc
  simp only [codes1, List.mem_cons, List.not_mem_nil, or_false] at hc
  rcases hc with rfl | rfl | rfl | rfl | rfl | rfl | rfl | rfl | rfl | rfl | rfl | rfl | rfl | rfl | rfl | rfl | rfl | rfl | rfl | rfl | rfl | rfl | rfl | rfl | rfl | rfl | rfl | rfl | rfl
  · exact w_c0
  · exact w_c1
  · exact w_c2
  · exact w_c3
  · exact w_c4
  · exact w_c5
  · exact w_c6
  · exact w_c7
  · exact w_c8
  · exact w_c9
  · exact w_c10
  · exact w_c11
  · exact w_c12
  · exact w_c13
  · exact w_c14
  · exact w_c15
  · exact w_c16
  · exact w_c17
  · exact w_c18
  · exact w_c19
  · exact w_c20
  · exact w_c21
  · exact w_c22
  · exact w_c23
  · exact w_c24
  · exact w_c25
  · exact w_c26
  · exact w_c27
  · exact w_c28
set_option maxRecDepth 65536 in
theorem w_t1 : (words1.take 24).all (fun c => isCode c || c.before args0 about1) = true := by decide +kernel
set_option maxRecDepth 65536 in
theorem w_t2 : ((words1.drop 24).take 24).all (fun c => isCode c || c.before args0 about1) = true := by decide +kernel
set_option maxRecDepth 65536 in
theorem w_t3 : (((words1.drop 24).drop 24).take 24).all (fun c => isCode c || c.before args0 about1) = true := by decide +kernel
set_option maxRecDepth 65536 in
theorem w_t4 : ((((words1.drop 24).drop 24).drop 24).take 24).all (fun c => isCode c || c.before args0 about1) = true := by decide +kernel
set_option maxRecDepth 65536 in
theorem w_t5 : (((((words1.drop 24).drop 24).drop 24).drop 24).take 24).all (fun c => isCode c || c.before args0 about1) = true := by decide +kernel
set_option maxRecDepth 65536 in
theorem w_t6 : (((((words1.drop 24).drop 24).drop 24).drop 24).drop 24).all (fun c => isCode c || c.before args0 about1) = true := by decide +kernel
theorem w_tables : (allAtoms (Jvm.Cond.code x code maxLocals ret :: tables_1)).before args0 about1 = true := by
  rw [allAtoms_all]
  show words1.all (fun c => c.before args0 about1) = true
  refine all_split ?_ w_codes
  rw [← List.take_append_drop 24 words1, List.all_append, w_t1, ← List.take_append_drop 24 (words1.drop 24), List.all_append, w_t2, ← List.take_append_drop 24 ((words1.drop 24).drop 24), List.all_append, w_t3, ← List.take_append_drop 24 (((words1.drop 24).drop 24).drop 24), List.all_append, w_t4, ← List.take_append_drop 24 ((((words1.drop 24).drop 24).drop 24).drop 24), List.all_append, w_t5, w_t6]
  rfl
set_option maxRecDepth 65536 in
theorem w_rest : rest_1_c.before args0 about1 = true := by decide +kernel
set_option maxRecDepth 65536 in
theorem w_case : (Jvm.Cond.and given_1 narrow_1).before args0 about1 = true := by decide +kernel
set_option maxRecDepth 65536 in
theorem w_consts : constsHeld consts_1 about1 := Jvm.Lit.constsHeldB_iff.mp (by decide +kernel)
theorem w_applies : (headSpec (Jvm.Cond.code x code maxLocals ret :: tables_1) room_1).applies x e0.platform about1 = true :=
  (Spec.applies_iff w_frames).mpr ⟨w_running, w_runnable, w_alone, w_named, w_hears, w_ripe, w_room, w_tables⟩
theorem atStart : AtStart classFile x code maxLocals ret World_1 tables_1 room_1 Calls_1 rest_1 Pre_1 launch0 p0 e0 about1 theMethod args0 below0 :=
  ⟨lists_1, trivial, launch0.admits_env _ _ _, launch0.least_env, fairChoices_fair.cas, fairChoices_fair.clock, w_frames, w_args, w_heap, w_applies, ⟨w_consts, trivial⟩, w_rest, w_case⟩
end start1
theorem witness_1 : WitnessClaimed_1 := ⟨start1.p0, start1.e0, start1.about1, start1.theMethod, start1.args0, start1.below0, start1.atStart⟩
end Jvm.Pilot.@@N@@
