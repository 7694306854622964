import JvmDerived
import JvmDerived.Pilot.@@N@@Statement
import JvmDerived.Pilot.@@N@@Code
set_option linter.unusedVariables false
set_option linter.unusedSimpArgs false
@@BLOCK:NumsL.lean.txt@@
/- laws to paste: Road.backV, Road.eqW, Road.lenW, Road.codOf (cut by pick.py; bodies as the Statement names them) -/
namespace Jvm.Pilot.@@N@@
namespace StrChars
open Jvm Sem ClassFile Op Lib Jvm.Stand Jvm.Free.XT Jvm.Free.ALB Jvm.Free.JM Jvm.Free
open Jvm.Lib.Cold (StaticIs)
/-- a char array whose places are chars -/
def Ch (a : Addr) (A : Cell) (U : State) : Prop := Arr .char a A U ∧ Typed .char A
theorem Ch.mv {a : Addr} {A : Cell} {U U' : State} (h : Ch a A U) (hal : U.vm.Alike U'.vm) (hh : U'.heap = U.heap) : Ch a A U' := ⟨h.1.mv hal hh, h.2⟩
theorem Ch.keep {a : Addr} {A : Cell} {U U' : State} (h : Ch a A U) (hal : U.vm.Alike U'.vm) (hk : U'.heap[a]? = some A) : Ch a A U' := ⟨h.1.keep hal hk, h.2⟩
/-- what place i of a char[]'s cell holds -/
def cv (A : Cell) (i : Nat) : Int32 := match A.slots[i]? with | some (.int x) => x | _ => 0
theorem Ch.get {a : Addr} {A : Cell} {U : State} (h : Ch a A U) {i : Nat} (hi : i < A.slots.size) : A.slots[i]? = some (.int (cv A i)) := by
  have e := Array.getElem?_eq_getElem hi
  have f := h.2 i _ e
  unfold cv; rw [e]
  generalize A.slots[i] = v at f
  cases v <;> simp [fits] at f ⊢
/-- the byte that i2b leaves of a char -/
def lo8 (x : Int32) : Int32 := x.toInt8.toInt32
theorem fits_lo8 (y : Int32) : fits .byte (.int (lo8 y)) = true := by
  have h1 := y.toInt8.le_toInt
  have h2 := y.toInt8.toInt_lt
  simp only [lo8, fits, Bool.and_eq_true, decide_eq_true_eq, Int32.le_iff_toInt_le, Int8.toInt_toInt32, show (-128 : Int32).toInt = -128 from by decide, show (127 : Int32).toInt = 127 from by decide]
  omega
/-- A' is A but that each place j of lo .. hi - 1 holds f j -/
def Laid (A A' : Cell) (lo hi : Nat) (f : Nat → Value) : Prop := A'.cls = A.cls ∧ A'.vm = A.vm ∧ A'.slots.size = A.slots.size ∧ ∀ i, A'.slots[i]? = if lo ≤ i ∧ i < hi then some (f i) else A.slots[i]?
theorem Laid.zero (A : Cell) (lo : Nat) (f : Nat → Value) : Laid A A lo (lo + 0) f := ⟨rfl, rfl, rfl, fun i => by rw [if_neg (by omega)]⟩
theorem Laid.step {A Ak : Cell} {lo k : Nat} {f : Nat → Value} {v : Value} (h : Laid A Ak lo k f) (hlo : lo ≤ k) (hk : k < Ak.slots.size) (hv : v = f k) : Laid A (Ak.setSlot k v) lo (k + 1) f := by
  refine ⟨h.1, h.2.1, by simpa [Cell.setSlot] using h.2.2.1, fun i => ?_⟩
  by_cases e : k = i
  · subst e; rw [Cell.slots_setSlot_self v hk, if_pos (by omega), hv]
  · rw [Cell.slots_setSlot_ne v e, h.2.2.2 i]
    by_cases q : lo ≤ i ∧ i < k
    · rw [if_pos q, if_pos (by omega)]
    · rw [if_neg q, if_neg (by omega)]
def U16 : String := "java/lang/StringUTF16"
namespace Cmp5
def yN : MethodName := ⟨"java/lang/StringUTF16", "compress", "([CI[BII)I"⟩
abbrev yB : ByteArray := jdk_52_method_21_code
theorem d0 : decode yB 0 = .ok (.iconst 0, 1) := by decide +kernel
theorem d1 : decode yB 1 = .ok (.istore 5, 2) := by decide +kernel
theorem d3 : decode yB 3 = .ok (.iload 5, 2) := by decide +kernel
theorem d5 : decode yB 5 = .ok (.iload 4, 2) := by decide +kernel
theorem d7 : decode yB 7 = .ok (.if_icmp (.ge) 37, 3) := by decide +kernel
theorem d10 : decode yB 10 = .ok (.aload_n 0, 1) := by decide +kernel
theorem d11 : decode yB 11 = .ok (.iload_n 1, 1) := by decide +kernel
theorem d12 : decode yB 12 = .ok (.caload, 1) := by decide +kernel
theorem d13 : decode yB 13 = .ok (.istore 6, 2) := by decide +kernel
theorem d15 : decode yB 15 = .ok (.iload 6, 2) := by decide +kernel
theorem d17 : decode yB 17 = .ok (.sipush 255, 3) := by decide +kernel
theorem d20 : decode yB 20 = .ok (.if_icmp (.le) 6, 3) := by decide +kernel
theorem d26 : decode yB 26 = .ok (.aload_n 2, 1) := by decide +kernel
theorem d27 : decode yB 27 = .ok (.iload_n 3, 1) := by decide +kernel
theorem d28 : decode yB 28 = .ok (.iload 6, 2) := by decide +kernel
theorem d30 : decode yB 30 = .ok (.i2b, 1) := by decide +kernel
theorem d31 : decode yB 31 = .ok (.bastore, 1) := by decide +kernel
theorem d32 : decode yB 32 = .ok (.iinc 1 1, 3) := by decide +kernel
theorem d35 : decode yB 35 = .ok (.iinc 3 1, 3) := by decide +kernel
theorem d38 : decode yB 38 = .ok (.iinc 5 1, 3) := by decide +kernel
theorem d41 : decode yB 41 = .ok (.goto (-38), 3) := by decide +kernel
theorem d44 : decode yB 44 = .ok (.iload 4, 2) := by decide +kernel
theorem d46 : decode yB 46 = .ok (.ireturn, 1) := by decide +kernel
def site : List Cond := []
def tab : Cond := tabOf yN yB 7 (some .int) site
def P (b : Addr) (A : Cell) (d : Addr) (B : Cell) (o q len : Nat) (args : Array Value) (s : State) : Prop := args = #[.ref b, .int (Int32.ofNat o), .ref d, .int (Int32.ofNat q), .int (Int32.ofNat len)] ∧ Ch b A s ∧ Arr .byte d B s ∧ b ≠ d ∧ o + len ≤ A.slots.size ∧ q + len ≤ B.slots.size ∧ ∀ i, i < len → ¬ 255 < cv A (o + i)
def E (b : Addr) (A : Cell) (d : Addr) (B : Cell) (o q len : Nat) (r : Option Value) (s u : State) : Prop := r = some (.int (Int32.ofNat len)) ∧ ∃ B', Put d B' s u ∧ Laid B B' q (q + len) (fun j => Value.int (lo8 (cv A (o + (j - q)))))
/-- no char of the range above 255: len; the places written hold each char's low byte -/
theorem law (l : Launch) (b : Addr) (A : Cell) (d : Addr) (B : Cell) (o q len : Nat) : Law l yN 5 5 0 0 yB 7 (some .int) site (P b A d B o q len) (E b A d B o q len) (copyLocs d q len) 0 0 := by
  refine Law.of_walk (plainFor_of_name (by decide +kernel)) (by decide +kernel) (by decide +kernel) (by decide) (fun _ _ h => by rw [h.1]; rfl) (fun _ U U' hal hh h => ⟨h.1, h.2.1.mv hal hh, h.2.2.1.mv hal hh, h.2.2.2⟩) (fun r U U' V V' h1 hal h2 h => ⟨h.1, h.2.elim fun B' q => ⟨B', q.1.mv h1 h2, q.2⟩⟩) ?_
  intro p e s m args below meth c s₁ X0 hexec hbytes hml hret hlk hnm hown hh0 W hP
  obtain ⟨rfl, hA, hB, hne, l1, l2, hp⟩ := hP
  have c1 : Steps p.tables e below (s₁.setTop (entryFrame m #[.ref b, .int (Int32.ofNat o), .ref d, .int (Int32.ofNat q), .int (Int32.ofNat len)] 7)) (s₁.setTop (mkF m 0 #[.val (.ref b), .val (.int (Int32.ofNat o)), .val (.ref d), .val (.int (Int32.ofNat q)), .val (.int (Int32.ofNat len)), .unset, .unset] [])) := entry rfl
  have hA0 := hA.1.mv X0.warmed.alike hh0
  have hB0 := hB.mv X0.warmed.alike hh0
  have a31 := hA.1.2.2.2
  have c2 : Steps p.tables e below (s₁.setTop (entryFrame m #[.ref b, .int (Int32.ofNat o), .ref d, .int (Int32.ofNat q), .int (Int32.ofNat len)] 7)) (s₁.setTop (mkF m 3 #[.val (.ref b), .val (.int (Int32.ofNat o)), .val (.ref d), .val (.int (Int32.ofNat q)), .val (.int (Int32.ofNat len)), .val (.int 0), .unset] [])) := c1.trans (by
    refine iconstV X0.here hexec rfl 0 (hb hbytes d0) (by decide) ?_
    refine XS.istore X0.here hexec rfl (hb hbytes d1) rfl rfl ?_
    exact Steps.refl _)
  have loop : ∀ (r i : Nat), i + r = len → ∀ (z : Slot), (z = .unset ∨ ∃ w, z = .val w ∧ w.category = 1) → ∀ (Tl : State) (Bk : Cell), Stand p l e { frames := 0, locals := 0, cells := 0, slots := 0 } s m #[.ref b, .int (Int32.ofNat o), .ref d, .int (Int32.ofNat q), .int (Int32.ofNat len)] below meth c Tl ([] ++ copyLocs d q i) 0 0 → Put d Bk s₁ Tl → Laid B Bk q (q + i) (fun j => Value.int (lo8 (cv A (o + (j - q))))) →
      Steps p.tables e below (s₁.setTop (entryFrame m #[.ref b, .int (Int32.ofNat o), .ref d, .int (Int32.ofNat q), .int (Int32.ofNat len)] 7)) (Tl.setTop (mkF m 3 #[.val (.ref b), .val (.int (Int32.ofNat (o + i))), .val (.ref d), .val (.int (Int32.ofNat (q + i))), .val (.int (Int32.ofNat len)), .val (.int (Int32.ofNat i)), z] [])) → ∃ (T' : State) (B' : Cell) (z' : Slot), Stand p l e { frames := 0, locals := 0, cells := 0, slots := 0 } s m #[.ref b, .int (Int32.ofNat o), .ref d, .int (Int32.ofNat q), .int (Int32.ofNat len)] below meth c T' ([] ++ copyLocs d q len) 0 0 ∧ Put d B' s₁ T' ∧ Laid B B' q (q + len) (fun j => Value.int (lo8 (cv A (o + (j - q))))) ∧
      Steps p.tables e below (s₁.setTop (entryFrame m #[.ref b, .int (Int32.ofNat o), .ref d, .int (Int32.ofNat q), .int (Int32.ofNat len)] 7)) (T'.setTop (mkF m 3 #[.val (.ref b), .val (.int (Int32.ofNat (o + len))), .val (.ref d), .val (.int (Int32.ofNat (q + len))), .val (.int (Int32.ofNat len)), .val (.int (Int32.ofNat len)), z'] [])) := by
    intro r
    induction r with
    | zero =>
      intro i hi z hz Tl Bk Xl pl fl cl
      have hil : i = len := by omega
      rw [hil] at Xl fl cl
      exact ⟨Tl, Bk, z, Xl, pl, fl, cl⟩
    | succ r ih =>
      intro i hi z hz Tl Bk Xl pl fl cl
      have all := X0.warmed.alike.symm.trans Xl.warmed.alike
      have hAl := hA0.keep all (pl.other hne hA0.1)
      have hBk := hB0.like all pl.1 fl.1 fl.2.1 fl.2.2.1
      have hlt : q + i < Bk.slots.size := by rw [fl.2.2.1]; omega
      have c3 : Steps p.tables e below (s₁.setTop (entryFrame m #[.ref b, .int (Int32.ofNat o), .ref d, .int (Int32.ofNat q), .int (Int32.ofNat len)] 7)) (Tl.setTop (mkF m 12 #[.val (.ref b), .val (.int (Int32.ofNat (o + i))), .val (.ref d), .val (.int (Int32.ofNat (q + i))), .val (.int (Int32.ofNat len)), .val (.int (Int32.ofNat i)), z] [.int (Int32.ofNat (o + i)), .ref b])) := cl.trans (by
        refine XS.iload Xl.here hexec rfl (hb hbytes d3) rfl ?_
        refine XS.iload Xl.here hexec rfl (hb hbytes d5) rfl ?_
        refine XS.icmpNo Xl.here hexec rfl (hb hbytes d7) rfl (ii_ge_f (lt32 (by omega) (by omega))) ?_
        refine XS.aloadN Xl.here hexec rfl (hb hbytes d10) rfl rfl ?_
        refine XS.iloadN Xl.here hexec rfl (hb hbytes d11) rfl ?_
        exact Steps.refl _)
      have c4 : Steps p.tables e below (s₁.setTop (entryFrame m #[.ref b, .int (Int32.ofNat o), .ref d, .int (Int32.ofNat q), .int (Int32.ofNat len)] 7)) (Tl.setTop (mkF m 13 #[.val (.ref b), .val (.int (Int32.ofNat (o + i))), .val (.ref d), .val (.int (Int32.ofNat (q + i))), .val (.int (Int32.ofNat len)), .val (.int (Int32.ofNat i)), z] [.int (cv A (o + i))])) := c3.trans (by
        refine Xl.aget hexec hAl rfl (hA.get (i := o + i) (by omega)) rfl rfl (hb hbytes d12) ?_
        exact Steps.refl _)
      have c5 : Steps p.tables e below (s₁.setTop (entryFrame m #[.ref b, .int (Int32.ofNat o), .ref d, .int (Int32.ofNat q), .int (Int32.ofNat len)] 7)) (Tl.setTop (mkF m 15 #[.val (.ref b), .val (.int (Int32.ofNat (o + i))), .val (.ref d), .val (.int (Int32.ofNat (q + i))), .val (.int (Int32.ofNat len)), .val (.int (Int32.ofNat i)), .val (.int (cv A (o + i)))] [])) := c4.trans (by
        refine XS.istoreS Xl.here hexec rfl (hb hbytes d13) rfl rfl hz ?_
        exact Steps.refl _)
      have c6 : Steps p.tables e below (s₁.setTop (entryFrame m #[.ref b, .int (Int32.ofNat o), .ref d, .int (Int32.ofNat q), .int (Int32.ofNat len)] 7)) (Tl.setTop (mkF m 31 #[.val (.ref b), .val (.int (Int32.ofNat (o + i))), .val (.ref d), .val (.int (Int32.ofNat (q + i))), .val (.int (Int32.ofNat len)), .val (.int (Int32.ofNat i)), .val (.int (cv A (o + i)))] [.int (lo8 (cv A (o + i))), .int (Int32.ofNat (q + i)), .ref d])) := c5.trans (by
        refine XS.iload Xl.here hexec rfl (hb hbytes d15) rfl ?_
        refine sipushV Xl.here hexec rfl 255 (hb hbytes d17) (by decide) ?_
        refine XS.icmpYes Xl.here hexec rfl (pc0 := 20) rfl (hb hbytes d20) rfl (ii_le_t (hp i (by omega))) (by decide) rfl ?_
        refine XS.aloadN Xl.here hexec rfl (hb hbytes d26) rfl rfl ?_
        refine XS.iloadN Xl.here hexec rfl (hb hbytes d27) rfl ?_
        refine XS.iload Xl.here hexec rfl (hb hbytes d28) rfl ?_
        refine i2b Xl.here hexec rfl (hb hbytes d30) rfl ?_
        exact Steps.refl _)
      obtain ⟨T7, X7, p7, st7⟩ := Xl.aput hexec hBk rfl hlt rfl (fits_lo8 (cv A (o + i))) (g := (mkF m 31 #[.val (.ref b), .val (.int (Int32.ofNat (o + i))), .val (.ref d), .val (.int (Int32.ofNat (q + i))), .val (.int (Int32.ofNat len)), .val (.int (Int32.ofNat i)), .val (.int (cv A (o + i)))] [.int (lo8 (cv A (o + i))), .int (Int32.ofNat (q + i)), .ref d])) rfl (rest := []) rfl (hb hbytes d31)
      have c8 : Steps p.tables e below (s₁.setTop (entryFrame m #[.ref b, .int (Int32.ofNat o), .ref d, .int (Int32.ofNat q), .int (Int32.ofNat len)] 7)) (T7.setTop (mkF m 32 #[.val (.ref b), .val (.int (Int32.ofNat (o + i))), .val (.ref d), .val (.int (Int32.ofNat (q + i))), .val (.int (Int32.ofNat len)), .val (.int (Int32.ofNat i)), .val (.int (cv A (o + i)))] [])) := c6.trans (st7 _ (Steps.refl _))
      have c9 : Steps p.tables e below (s₁.setTop (entryFrame m #[.ref b, .int (Int32.ofNat o), .ref d, .int (Int32.ofNat q), .int (Int32.ofNat len)] 7)) (T7.setTop (mkF m 3 #[.val (.ref b), .val (.int (Int32.ofNat (o + i) + 1)), .val (.ref d), .val (.int (Int32.ofNat (q + i) + 1)), .val (.int (Int32.ofNat len)), .val (.int (Int32.ofNat i + 1)), .val (.int (cv A (o + i)))] [])) := c8.trans (by
        refine iincV X7.here hexec rfl 1 (hb hbytes d32) (by decide) rfl rfl ?_
        refine iincV X7.here hexec rfl 1 (hb hbytes d35) (by decide) rfl rfl ?_
        refine iincV X7.here hexec rfl 1 (hb hbytes d38) (by decide) rfl rfl ?_
        refine XS.goto X7.here hexec rfl (pc0 := 41) rfl (hb hbytes d41) (by decide) rfl ?_
        exact Steps.refl _)
      have c10 : Steps p.tables e below (s₁.setTop (entryFrame m #[.ref b, .int (Int32.ofNat o), .ref d, .int (Int32.ofNat q), .int (Int32.ofNat len)] 7)) (T7.setTop (mkF m 3 #[.val (.ref b), .val (.int (Int32.ofNat (o + (i + 1)))), .val (.ref d), .val (.int (Int32.ofNat (q + (i + 1)))), .val (.int (Int32.ofNat len)), .val (.int (Int32.ofNat (i + 1))), .val (.int (cv A (o + i)))] [])) := by
        have := c9
        rw [succ32, succ32, succ32] at this
        exact this
      exact ih (i + 1) (by omega) _ (Or.inr ⟨_, rfl, rfl⟩) T7 _ (by rw [copyLocs_step, ← List.append_assoc]; exact X7) (pl.trans p7) (fl.step (by omega) hlt (by simp)) c10
  obtain ⟨T9, B9, z9, X9, p9, f9, g9⟩ := loop len 0 (by omega) .unset (Or.inl rfl) s₁ B (by simpa [copyLocs] using X0) ⟨hB0.1, fun _ _ => rfl, rfl⟩ (Laid.zero _ _ _) c2
  have c11 : Steps p.tables e below (s₁.setTop (entryFrame m #[.ref b, .int (Int32.ofNat o), .ref d, .int (Int32.ofNat q), .int (Int32.ofNat len)] 7)) (T9.setTop (mkF m 46 #[.val (.ref b), .val (.int (Int32.ofNat (o + len))), .val (.ref d), .val (.int (Int32.ofNat (q + len))), .val (.int (Int32.ofNat len)), .val (.int (Int32.ofNat len)), z9] [.int (Int32.ofNat len)])) := g9.trans (by
    refine XS.iload X9.here hexec rfl (hb hbytes d3) rfl ?_
    refine XS.iload X9.here hexec rfl (hb hbytes d5) rfl ?_
    refine XS.icmpYes X9.here hexec rfl (pc0 := 7) rfl (hb hbytes d7) rfl (ii_ge_t (nlt32 (by omega) (Nat.le_refl _))) (by decide) rfl ?_
    refine XS.iload X9.here hexec rfl (hb hbytes d44) rfl ?_
    exact Steps.refl _)
  exact ⟨T9, some (.int (Int32.ofNat len)), _, _, _, X9, by simp, rfl, rfl, (fun h => by cases h), ⟨rfl, B9, p9.from hh0, f9⟩, fun fs hl => c11.trans (X9.ireturnOut hexec hret rfl (Or.inl rfl) (hb hbytes d46) hl)⟩
end Cmp5
namespace Cmp3
def yN : MethodName := ⟨"java/lang/StringUTF16", "compress", "([CII)[B"⟩
abbrev yB : ByteArray := jdk_52_method_16_code
theorem d0 : decode yB 0 = .ok (.iload_n 2, 1) := by decide +kernel
theorem d1 : decode yB 1 = .ok (.newarray .byte, 2) := by decide +kernel
theorem d3 : decode yB 3 = .ok (.astore_n 3, 1) := by decide +kernel
theorem d4 : decode yB 4 = .ok (.aload_n 0, 1) := by decide +kernel
theorem d5 : decode yB 5 = .ok (.iload_n 1, 1) := by decide +kernel
theorem d6 : decode yB 6 = .ok (.aload_n 3, 1) := by decide +kernel
theorem d7 : decode yB 7 = .ok (.iconst 0, 1) := by decide +kernel
theorem d8 : decode yB 8 = .ok (.iload_n 2, 1) := by decide +kernel
theorem d9 : decode yB 9 = .ok (.invokestatic 115, 3) := by decide +kernel
theorem d12 : decode yB 12 = .ok (.istore 4, 2) := by decide +kernel
theorem d14 : decode yB 14 = .ok (.iload 4, 2) := by decide +kernel
theorem d16 : decode yB 16 = .ok (.iload_n 2, 1) := by decide +kernel
theorem d17 : decode yB 17 = .ok (.if_icmp (.eq) 40, 3) := by decide +kernel
theorem d57 : decode yB 57 = .ok (.aload_n 3, 1) := by decide +kernel
theorem d58 : decode yB 58 = .ok (.areturn, 1) := by decide +kernel
def site : List Cond := [.arrayClass .byte, Cmp5.tab] ++ staticW U16 115 Cmp5.yN
def tab : Cond := tabOf yN yB 6 (some (.array .byte)) site
def P (b : Addr) (A : Cell) (o len : Nat) (args : Array Value) (s : State) : Prop := args = #[.ref b, .int (Int32.ofNat o), .int (Int32.ofNat len)] ∧ Ch b A s ∧ o + len ≤ A.slots.size ∧ len ≤ 536870912 ∧ ∀ i, i < len → ¬ 255 < cv A (o + i)
def E (b : Addr) (A : Cell) (o len : Nat) (r : Option Value) (s u : State) : Prop := NewArr .byte "[B" len (fun j => .int (lo8 (cv A (o + j)))) r s u ∧ u.heap.size = s.heap.size + 1
/-- no char of the range above 255: a new byte[] of their low bytes -/
theorem law (l : Launch) (b : Addr) (A : Cell) (o len : Nat) : Law l yN 3 3 1 18 yB 6 (some (.array .byte)) site (P b A o len) (E b A o len) [] 1 len := by
  refine Law.of_walk (plainFor_of_name (by decide +kernel)) (by decide +kernel) (by decide +kernel) (by decide) (fun _ _ h => by rw [h.1]; rfl) (fun _ U U' hal hh h => ⟨h.1, h.2.1.mv hal hh, h.2.2⟩) (fun r U U' V V' h1 hal h2 h => ⟨NewArr.mv r U U' V V' h1 hal h2 h.1, by rw [h1, h2]; exact h.2⟩) ?_
  intro p e s m args below meth c s₁ X0 hexec hbytes hml hret hlk hnm hown hh0 W hP
  obtain ⟨rfl, hA, l1, l2, hp⟩ := hP
  have a31 := hA.1.2.2.2
  have c1 : Steps p.tables e below (s₁.setTop (entryFrame m #[.ref b, .int (Int32.ofNat o), .int (Int32.ofNat len)] 6)) (s₁.setTop (mkF m 0 #[.val (.ref b), .val (.int (Int32.ofNat o)), .val (.int (Int32.ofNat len)), .unset, .unset, .unset] [])) := entry rfl
  have c2 : Steps p.tables e below (s₁.setTop (entryFrame m #[.ref b, .int (Int32.ofNat o), .int (Int32.ofNat len)] 6)) (s₁.setTop (mkF m 1 #[.val (.ref b), .val (.int (Int32.ofNat o)), .val (.int (Int32.ofNat len)), .unset, .unset, .unset] [.int (Int32.ofNat len)])) := c1.trans (by
    refine XS.iloadN X0.here hexec rfl (hb hbytes d0) rfl ?_
    exact Steps.refl _)
  obtain ⟨T3, B3, X3, ba3, bs3, bv3, bh3, bf3, st3⟩ := X0.anew hexec (atype := .byte) (wk W (.arrayClass .byte)) rfl (by show len * 1 ≤ _; omega) (by omega) (g := (mkF m 1 #[.val (.ref b), .val (.int (Int32.ofNat o)), .val (.int (Int32.ofNat len)), .unset, .unset, .unset] [.int (Int32.ofNat len)])) rfl (hb hbytes d1) (rest := []) rfl (Nat.le_refl _) (by show 0 + len ≤ len; omega)
  rw [hh0] at ba3 st3
  have kp3 : XT.Kept s T3 := (XT.Kept.of_eq hh0).push bh3
  have hA3 := hA.keep X3.warmed.alike (kp3 _ _ hA.1.1)
  have hne : b ≠ s.heap.size := hA.1.ne
  have c4 : Steps p.tables e below (s₁.setTop (entryFrame m #[.ref b, .int (Int32.ofNat o), .int (Int32.ofNat len)] 6)) (T3.setTop (mkF m 3 #[.val (.ref b), .val (.int (Int32.ofNat o)), .val (.int (Int32.ofNat len)), .unset, .unset, .unset] [.ref s.heap.size])) := c2.trans (st3 _ (Steps.refl _))
  have c5 : Steps p.tables e below (s₁.setTop (entryFrame m #[.ref b, .int (Int32.ofNat o), .int (Int32.ofNat len)] 6)) (T3.setTop (mkF m 9 #[.val (.ref b), .val (.int (Int32.ofNat o)), .val (.int (Int32.ofNat len)), .val (.ref s.heap.size), .unset, .unset] [.int (Int32.ofNat len), .int 0, .ref s.heap.size, .int (Int32.ofNat o), .ref b])) := c4.trans (by
    refine XS.astoreN X3.here hexec rfl (hb hbytes d3) rfl rfl rfl ?_
    refine XS.aloadN X3.here hexec rfl (hb hbytes d4) rfl rfl ?_
    refine XS.iloadN X3.here hexec rfl (hb hbytes d5) rfl ?_
    refine XS.aloadN X3.here hexec rfl (hb hbytes d6) rfl rfl ?_
    refine iconstV X3.here hexec rfl 0 (hb hbytes d7) (by decide) ?_
    refine XS.iloadN X3.here hexec rfl (hb hbytes d8) rfl ?_
    exact Steps.refl _)
  obtain ⟨v6, T6, X6, E6, g6⟩ := X3.callS hexec (Cmp5.law l b A s.heap.size B3 o 0 len) hown (wks W (staticW U16 115 Cmp5.yN)) (wk W Cmp5.tab) (W := 0) (Nat.le_of_ble_eq_true rfl) (Nat.le_of_ble_eq_true rfl) (Nat.le_refl _) (by show 0 + len + 0 ≤ len; omega) (g := (mkF m 9 #[.val (.ref b), .val (.int (Int32.ofNat o)), .val (.int (Int32.ofNat len)), .val (.ref s.heap.size), .unset, .unset] [.int (Int32.ofNat len), .int (Int32.ofNat 0), .ref s.heap.size, .int (Int32.ofNat o), .ref b])) rfl (by rw [hml]; rfl) c5 (argsL := [.ref b, .int (Int32.ofNat o), .ref s.heap.size, .int (Int32.ofNat 0), .int (Int32.ofNat len)]) (rest := []) rfl rfl (by show 2 * 0 + 0 ≤ _; decide) (hb hbytes d9) (⟨rfl, hA3, ba3, hne, l1, by rw [bs3]; simp, hp⟩)
  obtain ⟨rfl, B6, p6, f6⟩ := E6
  have c7 : Steps p.tables e below (s₁.setTop (entryFrame m #[.ref b, .int (Int32.ofNat o), .int (Int32.ofNat len)] 6)) (T6.setTop (mkF m 12 #[.val (.ref b), .val (.int (Int32.ofNat o)), .val (.int (Int32.ofNat len)), .val (.ref s.heap.size), .unset, .unset] [.int (Int32.ofNat len)])) := g6
  have c8 : Steps p.tables e below (s₁.setTop (entryFrame m #[.ref b, .int (Int32.ofNat o), .int (Int32.ofNat len)] 6)) (T6.setTop (mkF m 58 #[.val (.ref b), .val (.int (Int32.ofNat o)), .val (.int (Int32.ofNat len)), .val (.ref s.heap.size), .val (.int (Int32.ofNat len)), .unset] [.ref s.heap.size])) := c7.trans (by
    refine XS.istore X6.here hexec rfl (hb hbytes d12) rfl rfl ?_
    refine XS.iload X6.here hexec rfl (hb hbytes d14) rfl ?_
    refine XS.iloadN X6.here hexec rfl (hb hbytes d16) rfl ?_
    refine XS.icmpYes X6.here hexec rfl (pc0 := 17) rfl (hb hbytes d17) rfl (ii_eq_t rfl) (by decide) rfl ?_
    refine XS.aloadN X6.here hexec rfl (hb hbytes d57) rfl rfl ?_
    exact Steps.refl _)
  have X8 := X6.wide (L' := []) (cells' := 1) (slots' := len) (fun x hx hlt => by
    simp only [List.nil_append, copyLocs, List.mem_map, List.mem_range] at hx
    obtain ⟨i, -, rfl⟩ := hx
    exact absurd hlt (Nat.lt_irrefl _)) (Nat.le_refl _) (by omega)
  exact ⟨T6, some (.ref s.heap.size), _, _, _, X8, rfl, rfl, rfl, (fun h => by cases h), ⟨⟨rfl, B6, ba3.like (X3.warmed.alike.symm.trans X6.warmed.alike) p6.1 f6.1 f6.2.1 f6.2.2.1, f6.2.1.trans bv3, by rw [X6.warmed.alike.findClass, f6.1]; exact bf3, by rw [f6.2.2.1, bs3]; simp, fun j hj => by rw [f6.2.2.2 j, if_pos (by omega)]; rfl, kp3.put p6 (Nat.le_refl _)⟩, by rw [p6.2.2, bh3, hh0]; simp⟩, fun fs hl => c8.trans (X8.areturnOut hexec rfl hret rfl (hb hbytes d58) hl)⟩
end Cmp3
namespace CodL
def yN : MethodName := ⟨"java/lang/StringUTF16", "coderFromArrayLen", "([BI)B"⟩
abbrev yB : ByteArray := jdk_52_method_15_code
theorem d0 : decode yB 0 = .ok (.iload_n 1, 1) := by decide +kernel
theorem d1 : decode yB 1 = .ok (.aload_n 0, 1) := by decide +kernel
theorem d2 : decode yB 2 = .ok (.arraylength, 1) := by decide +kernel
theorem d3 : decode yB 3 = .ok (.isub, 1) := by decide +kernel
theorem d4 : decode yB 4 = .ok (.bipush 31, 2) := by decide +kernel
theorem d6 : decode yB 6 = .ok (.iushr, 1) := by decide +kernel
theorem d7 : decode yB 7 = .ok (.i2b, 1) := by decide +kernel
theorem d8 : decode yB 8 = .ok (.ireturn, 1) := by decide +kernel
def site : List Cond := []
def tab : Cond := tabOf yN yB 2 (some .byte) site
def P (d : Addr) (B : Cell) (args : Array Value) (s : State) : Prop := args = #[.ref d, .int (Int32.ofNat B.slots.size)] ∧ Arr .byte d B s
def E (r : Option Value) (s u : State) : Prop := XT.PureE (some (.int 0)) r s u
/-- an array as long as the number of chars: LATIN1 -/
theorem law (l : Launch) (d : Addr) (B : Cell) : Law l yN 2 2 0 0 yB 2 (some .byte) site (P d B) E [] 0 0 := by
  refine Law.of_walk (plainFor_of_name (by decide +kernel)) (by decide +kernel) (by decide +kernel) (by decide) (fun _ _ h => by rw [h.1]; rfl) (fun _ U U' hal hh h => ⟨h.1, h.2.mv hal hh⟩) (fun r U U' V V' h1 hal h2 h => XT.PureE.mv r U U' V V' h1 hal h2 h) ?_
  intro p e s m args below meth c s₁ X0 hexec hbytes hml hret hlk hnm hown hh0 W hP
  obtain ⟨rfl, hB⟩ := hP
  have hB0 := hB.mv X0.warmed.alike hh0
  have c1 : Steps p.tables e below (s₁.setTop (entryFrame m #[.ref d, .int (Int32.ofNat B.slots.size)] 2)) (s₁.setTop (mkF m 0 #[.val (.ref d), .val (.int (Int32.ofNat B.slots.size))] [])) := entry rfl
  have c2 : Steps p.tables e below (s₁.setTop (entryFrame m #[.ref d, .int (Int32.ofNat B.slots.size)] 2)) (s₁.setTop (mkF m 2 #[.val (.ref d), .val (.int (Int32.ofNat B.slots.size))] [.ref d, .int (Int32.ofNat B.slots.size)])) := c1.trans (by
    refine XS.iloadN X0.here hexec rfl (hb hbytes d0) rfl ?_
    refine XS.aloadN X0.here hexec rfl (hb hbytes d1) rfl rfl ?_
    exact Steps.refl _)
  have c3 : Steps p.tables e below (s₁.setTop (entryFrame m #[.ref d, .int (Int32.ofNat B.slots.size)] 2)) (s₁.setTop (mkF m 8 #[.val (.ref d), .val (.int (Int32.ofNat B.slots.size))] [.int (lo8 (ushr (Int32.ofNat B.slots.size - Int32.ofNat B.slots.size) 31))])) := c2.trans (by
    refine X0.alen hexec hB0 rfl rfl (hb hbytes d2) ?_
    refine XS.isub X0.here hexec rfl (hb hbytes d3) rfl ?_
    refine bipushV X0.here hexec rfl 31 (hb hbytes d4) (by decide) ?_
    refine iushr X0.here hexec rfl (hb hbytes d6) rfl ?_
    refine i2b X0.here hexec rfl (hb hbytes d7) rfl ?_
    exact Steps.refl _)
  have e0 : lo8 (ushr (Int32.ofNat B.slots.size - Int32.ofNat B.slots.size) 31) = 0 := by rw [Int32.sub_self]; decide
  rw [e0] at c3
  exact ⟨s₁, some (.int 0), _, _, _, X0, rfl, rfl, rfl, (fun h => by cases h), ⟨rfl, hh0⟩, fun fs hl => c3.trans (X0.ireturnOut hexec hret rfl (Or.inr (Or.inr (Or.inl rfl))) (hb hbytes d8) hl)⟩
end CodL
/-- the String at a is Latin-1 over a new byte[] (the heap's one new cell): the low bytes of the len chars of A from o on; every cell but a is kept -/
def Got (a : Addr) (D : Cell) (fV fC : Field) (A : Cell) (o len : Nat) (r : Option Value) (s u : State) : Prop := r = none ∧ ∃ D' V : Cell, Blank "java/lang/String" a D' u ∧ Same D D' [fV.slot, fC.slot] ∧ D'.slots[fV.slot]? = some (.ref s.heap.size) ∧ D'.slots[fC.slot]? = some (.int 0) ∧ Arr .byte s.heap.size V u ∧ V.vm = .none ∧ u.vm.findClass "[B" = some V.cls ∧ V.slots.size = len ∧ (∀ j, j < len → V.slots[j]? = some (.int (lo8 (cv A (o + j))))) ∧ (∀ (y : Addr) (c : Cell), y ≠ a → s.heap[y]? = some c → u.heap[y]? = some c) ∧ u.heap.size = s.heap.size + 1
theorem Got.mv {a : Addr} {D A : Cell} {fV fC : Field} {o len : Nat} : ∀ r (U U' V V' : State), U'.heap = U.heap → V.vm.Alike V'.vm → V'.heap = V.heap → Got a D fV fC A o len r U V → Got a D fV fC A o len r U' V' :=
  fun r U U' V V' h1 hal h2 ⟨e0, D', X, a1, a2, a3, a4, a5, a6, a7, a8, a9, a10, a11⟩ => ⟨e0, D', X, a1.mv hal h2, a2, by rw [h1]; exact a3, a4, by rw [h1]; exact a5.mv hal h2, a6, by rw [hal.findClass]; exact a7, a8, a9, by rw [h1, h2]; exact a10, by rw [h1, h2]; exact a11⟩
namespace New4
def yN : MethodName := ⟨"java/lang/String", "<init>", "([CIILjava/lang/Void;)V"⟩
abbrev yB : ByteArray := jdk_42_method_149_code
theorem d0 : decode yB 0 = .ok (.aload_n 0, 1) := by decide +kernel
theorem d1 : decode yB 1 = .ok (.invokespecial 1, 3) := by decide +kernel
theorem d4 : decode yB 4 = .ok (.iload_n 3, 1) := by decide +kernel
theorem d5 : decode yB 5 = .ok (.ifCond (.ne) 22, 3) := by decide +kernel
theorem d27 : decode yB 27 = .ok (.getstatic 38, 3) := by decide +kernel
theorem d30 : decode yB 30 = .ok (.ifCond (.eq) 28, 3) := by decide +kernel
theorem d33 : decode yB 33 = .ok (.aload_n 1, 1) := by decide +kernel
theorem d34 : decode yB 34 = .ok (.iload_n 2, 1) := by decide +kernel
theorem d35 : decode yB 35 = .ok (.iload_n 3, 1) := by decide +kernel
theorem d36 : decode yB 36 = .ok (.invokestatic 177, 3) := by decide +kernel
theorem d39 : decode yB 39 = .ok (.astore 5, 2) := by decide +kernel
theorem d41 : decode yB 41 = .ok (.aload_n 0, 1) := by decide +kernel
theorem d42 : decode yB 42 = .ok (.aload 5, 2) := by decide +kernel
theorem d44 : decode yB 44 = .ok (.iload_n 3, 1) := by decide +kernel
theorem d45 : decode yB 45 = .ok (.invokestatic 47, 3) := by decide +kernel
theorem d48 : decode yB 48 = .ok (.putfield 15, 3) := by decide +kernel
theorem d51 : decode yB 51 = .ok (.aload_n 0, 1) := by decide +kernel
theorem d52 : decode yB 52 = .ok (.aload 5, 2) := by decide +kernel
theorem d54 : decode yB 54 = .ok (.putfield 9, 3) := by decide +kernel
theorem d57 : decode yB 57 = .ok (.return_, 1) := by decide +kernel
def site : List Cond := [.fieldLink "java/lang/String" 38 "java/lang/String" "COMPACT_STRINGS" "Z", Cmp3.tab, CodL.tab, .laysFinal "java/lang/String" "java/lang/String" "value" "[B", .fieldLink "java/lang/String" 9 "java/lang/String" "value" "[B", .laysFinal "java/lang/String" "java/lang/String" "coder" "B", .fieldLink "java/lang/String" 15 "java/lang/String" "coder" "B"] ++ objW "java/lang/String" 1 ++ staticW "java/lang/String" 177 Cmp3.yN ++ staticW "java/lang/String" 47 CodL.yN
def tab : Cond := tabOf yN yB 6 none site
def P (a : Addr) (D : Cell) (fV fC : Field) (b : Addr) (A : Cell) (z : Int32) (o len : Nat) (args : Array Value) (s : State) : Prop := args = #[.ref a, .ref b, .int (Int32.ofNat o), .int (Int32.ofNat len), .null] ∧ Blank "java/lang/String" a D s ∧ Found "java/lang/String" "value" "[B" fV s ∧ Found "java/lang/String" "coder" "B" fC s ∧ Ch b A s ∧ StaticIs s "java/lang/String" "COMPACT_STRINGS" "Z" (.int z) ∧ ¬ z = 0 ∧ 0 < len ∧ o + len ≤ A.slots.size ∧ len ≤ 536870912 ∧ ∀ i, i < len → ¬ 255 < cv A (o + i)
def E (a : Addr) (D : Cell) (fV fC : Field) (A : Cell) (o len : Nat) (r : Option Value) (s u : State) : Prop := Got a D fV fC A o len r s u
/-- len > 0, no char of the range above 255: a Latin-1 String of their low bytes -/
theorem law (l : Launch) (a : Addr) (D : Cell) (fV fC : Field) (b : Addr) (A : Cell) (z : Int32) (o len : Nat) : Law l yN 5 4 2 35 yB 6 none site (P a D fV fC b A z o len) (E a D fV fC A o len) [⟨a, fC.slot⟩, ⟨a, fV.slot⟩] 1 len := by
  refine Law.of_walk (plainFor_of_name (by decide +kernel)) (by decide +kernel) (by decide +kernel) (by decide) (fun _ _ h => by rw [h.1]; rfl) (fun _ U U' hal hh h => ⟨h.1, h.2.1.mv hal hh, h.2.2.1.al hal, h.2.2.2.1.al hal, h.2.2.2.2.1.mv hal hh, h.2.2.2.2.2.1.there hal hh, h.2.2.2.2.2.2⟩) (fun r U U' V V' h1 hal h2 h => Got.mv r U U' V V' h1 hal h2 h) ?_
  intro p e s m args below meth c s₁ X0 hexec hbytes hml hret hlk hnm hown hh0 W hP
  obtain ⟨rfl, hB, f1, f2, hA, s1, hz, l0, l1, l2, hp⟩ := hP
  have a31 := hA.1.2.2.2
  have c1 : Steps p.tables e below (s₁.setTop (entryFrame m #[.ref a, .ref b, .int (Int32.ofNat o), .int (Int32.ofNat len), .null] 6)) (s₁.setTop (mkF m 0 #[.val (.ref a), .val (.ref b), .val (.int (Int32.ofNat o)), .val (.int (Int32.ofNat len)), .val .null, .unset] [])) := entry rfl
  have c2 : Steps p.tables e below (s₁.setTop (entryFrame m #[.ref a, .ref b, .int (Int32.ofNat o), .int (Int32.ofNat len), .null] 6)) (s₁.setTop (mkF m 1 #[.val (.ref a), .val (.ref b), .val (.int (Int32.ofNat o)), .val (.int (Int32.ofNat len)), .val .null, .unset] [.ref a])) := c1.trans (by
    refine XS.aloadN X0.here hexec rfl (hb hbytes d0) rfl rfl ?_
    exact Steps.refl _)
  obtain ⟨T3, X3, q3, st3⟩ := X0.oinit hexec hown (wks W (objW "java/lang/String" 1)) (g := (mkF m 1 #[.val (.ref a), .val (.ref b), .val (.int (Int32.ofNat o)), .val (.int (Int32.ofNat len)), .val .null, .unset] [.ref a])) rfl (by rw [hml]; rfl) (rest := []) rfl (hb hbytes d1) (W := 0) (by show 2 * 0 + 0 ≤ _; decide) (Nat.le_of_ble_eq_true rfl) (Nat.le_of_ble_eq_true rfl)
  have hh3 := q3.trans hh0
  have c4 : Steps p.tables e below (s₁.setTop (entryFrame m #[.ref a, .ref b, .int (Int32.ofNat o), .int (Int32.ofNat len), .null] 6)) (T3.setTop (mkF m 27 #[.val (.ref a), .val (.ref b), .val (.int (Int32.ofNat o)), .val (.int (Int32.ofNat len)), .val .null, .unset] [])) := (c2.trans (st3 _ (Steps.refl _))).trans (by
    refine XS.iloadN X3.here hexec rfl (hb hbytes d4) rfl ?_
    refine XS.ifYes X3.here hexec rfl (pc0 := 5) rfl (hb hbytes d5) rfl (i0_ne_t (nz32 (by omega) l0)) (by decide) rfl ?_
    exact Steps.refl _)
  obtain ⟨T5, X5, q5, st5⟩ := X3.sget hexec hown (wk W (.fieldLink "java/lang/String" 38 "java/lang/String" "COMPACT_STRINGS" "Z")) s1 (fun _ _ h => by rw [hh3]; exact h) (g := (mkF m 27 #[.val (.ref a), .val (.ref b), .val (.int (Int32.ofNat o)), .val (.int (Int32.ofNat len)), .val .null, .unset] [])) rfl (hb hbytes d27)
  have hh5 := q5.trans hh3
  have c6 : Steps p.tables e below (s₁.setTop (entryFrame m #[.ref a, .ref b, .int (Int32.ofNat o), .int (Int32.ofNat len), .null] 6)) (T5.setTop (mkF m 30 #[.val (.ref a), .val (.ref b), .val (.int (Int32.ofNat o)), .val (.int (Int32.ofNat len)), .val .null, .unset] [.int z])) := c4.trans (st5 _ (Steps.refl _))
  have c7 : Steps p.tables e below (s₁.setTop (entryFrame m #[.ref a, .ref b, .int (Int32.ofNat o), .int (Int32.ofNat len), .null] 6)) (T5.setTop (mkF m 36 #[.val (.ref a), .val (.ref b), .val (.int (Int32.ofNat o)), .val (.int (Int32.ofNat len)), .val .null, .unset] [.int (Int32.ofNat len), .int (Int32.ofNat o), .ref b])) := c6.trans (by
    refine XS.ifNo X5.here hexec rfl (hb hbytes d30) rfl (i0_eq_f hz) ?_
    refine XS.aloadN X5.here hexec rfl (hb hbytes d33) rfl rfl ?_
    refine XS.iloadN X5.here hexec rfl (hb hbytes d34) rfl ?_
    refine XS.iloadN X5.here hexec rfl (hb hbytes d35) rfl ?_
    exact Steps.refl _)
  obtain ⟨v8, T8, X8, E8, g8⟩ := X5.callS hexec (Cmp3.law l b A o len) hown (wks W (staticW "java/lang/String" 177 Cmp3.yN)) (wk W Cmp3.tab) (W := 0) (Nat.le_of_ble_eq_true rfl) (Nat.le_of_ble_eq_true rfl) (Nat.le_refl _) (by show 0 + len ≤ len; omega) (g := (mkF m 36 #[.val (.ref a), .val (.ref b), .val (.int (Int32.ofNat o)), .val (.int (Int32.ofNat len)), .val .null, .unset] [.int (Int32.ofNat len), .int (Int32.ofNat o), .ref b])) rfl (by rw [hml]; rfl) c7 (argsL := [.ref b, .int (Int32.ofNat o), .int (Int32.ofNat len)]) (rest := []) rfl rfl (by show 2 * 0 + 0 ≤ _; decide) (hb hbytes d36) (⟨rfl, hA.mv X5.warmed.alike hh5, l1, l2, hp⟩)
  obtain ⟨e8, z8⟩ := E8
  obtain ⟨rfl, N, n1, n2, n3, n4, n5, n6⟩ := NewArr.mv _ T5 s _ _ hh5.symm (Vm.Alike.refl _) rfl e8
  rw [hh5] at z8
  have hB1 := hB.keep X8.warmed.alike (n6 _ _ hB.1)
  have hne : s.heap.size ≠ a := (Nat.ne_of_lt (Array.getElem?_eq_some_iff.mp hB.1).1).symm
  have c9 : Steps p.tables e below (s₁.setTop (entryFrame m #[.ref a, .ref b, .int (Int32.ofNat o), .int (Int32.ofNat len), .null] 6)) (T8.setTop (mkF m 39 #[.val (.ref a), .val (.ref b), .val (.int (Int32.ofNat o)), .val (.int (Int32.ofNat len)), .val .null, .unset] [.ref s.heap.size])) := g8
  have c10 : Steps p.tables e below (s₁.setTop (entryFrame m #[.ref a, .ref b, .int (Int32.ofNat o), .int (Int32.ofNat len), .null] 6)) (T8.setTop (mkF m 45 #[.val (.ref a), .val (.ref b), .val (.int (Int32.ofNat o)), .val (.int (Int32.ofNat len)), .val .null, .val (.ref s.heap.size)] [.int (Int32.ofNat N.slots.size), .ref s.heap.size, .ref a])) := by
    have hc : Steps p.tables e below (s₁.setTop (entryFrame m #[.ref a, .ref b, .int (Int32.ofNat o), .int (Int32.ofNat len), .null] 6)) (T8.setTop (mkF m 45 #[.val (.ref a), .val (.ref b), .val (.int (Int32.ofNat o)), .val (.int (Int32.ofNat len)), .val .null, .val (.ref s.heap.size)] [.int (Int32.ofNat len), .ref s.heap.size, .ref a])) := c9.trans (by
      refine XS.astore X8.here hexec rfl (hb hbytes d39) rfl rfl rfl ?_
      refine XS.aloadN X8.here hexec rfl (hb hbytes d41) rfl rfl ?_
      refine XS.aload X8.here hexec rfl (hb hbytes d42) rfl rfl ?_
      refine XS.iloadN X8.here hexec rfl (hb hbytes d44) rfl ?_
      exact Steps.refl _)
    rw [n4]; exact hc
  obtain ⟨v11, T11, X11, E11, g11⟩ := X8.callS hexec (CodL.law l s.heap.size N) hown (wks W (staticW "java/lang/String" 47 CodL.yN)) (wk W CodL.tab) (W := 1) (Nat.le_of_ble_eq_true rfl) (Nat.le_of_ble_eq_true rfl) (Nat.le_refl _) (by show 0 + len + 0 ≤ len; omega) (g := (mkF m 45 #[.val (.ref a), .val (.ref b), .val (.int (Int32.ofNat o)), .val (.int (Int32.ofNat len)), .val .null, .val (.ref s.heap.size)] [.int (Int32.ofNat N.slots.size), .ref s.heap.size, .ref a])) rfl (by rw [hml]; rfl) c10 (argsL := [.ref s.heap.size, .int (Int32.ofNat N.slots.size)]) (rest := [.ref a]) rfl rfl (by show 2 * 0 + (1 + 0) ≤ _; decide) (hb hbytes d45) (⟨rfl, n1⟩)
  obtain ⟨rfl, q11⟩ := E11
  have hB11 := hB1.mv (X8.warmed.alike.symm.trans X11.warmed.alike) q11
  have c12 : Steps p.tables e below (s₁.setTop (entryFrame m #[.ref a, .ref b, .int (Int32.ofNat o), .int (Int32.ofNat len), .null] 6)) (T11.setTop (mkF m 48 #[.val (.ref a), .val (.ref b), .val (.int (Int32.ofNat o)), .val (.int (Int32.ofNat len)), .val .null, .val (.ref s.heap.size)] [.int 0, .ref a])) := g11
  obtain ⟨T13, X13, p13, bl13, sl13, st13⟩ := X11.finit hexec hown (wk W (.fieldLink "java/lang/String" 15 "java/lang/String" "coder" "B")) (Or.inr ⟨_, (wk W (.laysFinal "java/lang/String" "java/lang/String" "coder" "B"))⟩) (Or.inl ⟨rfl, hnm⟩) f2 (Or.inl rfl) hB11 (t := .byte) (by decide +kernel) rfl (g := (mkF m 48 #[.val (.ref a), .val (.ref b), .val (.int (Int32.ofNat o)), .val (.int (Int32.ofNat len)), .val .null, .val (.ref s.heap.size)] [.int 0, .ref a])) rfl (rest := []) rfl (hb hbytes d48)
  have c14 : Steps p.tables e below (s₁.setTop (entryFrame m #[.ref a, .ref b, .int (Int32.ofNat o), .int (Int32.ofNat len), .null] 6)) (T13.setTop (mkF m 54 #[.val (.ref a), .val (.ref b), .val (.int (Int32.ofNat o)), .val (.int (Int32.ofNat len)), .val .null, .val (.ref s.heap.size)] [.ref s.heap.size, .ref a])) := (c12.trans (st13 _ (Steps.refl _))).trans (by
    refine XS.aloadN X13.here hexec rfl (hb hbytes d51) rfl rfl ?_
    refine XS.aload X13.here hexec rfl (hb hbytes d52) rfl rfl ?_
    exact Steps.refl _)
  obtain ⟨T15, X15, p15, bl15, sl15, st15⟩ := X13.finit hexec hown (wk W (.fieldLink "java/lang/String" 9 "java/lang/String" "value" "[B")) (Or.inr ⟨_, (wk W (.laysFinal "java/lang/String" "java/lang/String" "value" "[B"))⟩) (Or.inl ⟨rfl, hnm⟩) f1 (Or.inl rfl) bl13 (t := (.array .byte)) (by decide +kernel) rfl (g := (mkF m 54 #[.val (.ref a), .val (.ref b), .val (.int (Int32.ofNat o)), .val (.int (Int32.ofNat len)), .val .null, .val (.ref s.heap.size)] [.ref s.heap.size, .ref a])) rfl (rest := []) rfl (hb hbytes d54)
  have c16 : Steps p.tables e below (s₁.setTop (entryFrame m #[.ref a, .ref b, .int (Int32.ofNat o), .int (Int32.ofNat len), .null] 6)) (T15.setTop (mkF m 57 #[.val (.ref a), .val (.ref b), .val (.int (Int32.ofNat o)), .val (.int (Int32.ofNat len)), .val .null, .val (.ref s.heap.size)] [])) := c14.trans (st15 _ (Steps.refl _))
  have ap := apart (Or.inr ⟨_, (wk W (.laysFinal "java/lang/String" "java/lang/String" "value" "[B"))⟩) (Or.inr ⟨_, (wk W (.laysFinal "java/lang/String" "java/lang/String" "coder" "B"))⟩) f1 f2 (t₁ := .array .byte) (t₂ := .byte) (by decide +kernel) (by decide +kernel) (by decide)
  have al := X8.warmed.alike.symm.trans X15.warmed.alike
  have n7 : T11.heap[s.heap.size]? = some N := by rw [q11]; exact n1.1
  exact ⟨T15, none, _, _, _, X15, by simp, rfl, by omega, (fun _ => rfl), ⟨rfl, _, N, bl15, ((Same.refl D _).set _ (by simp)).set _ (by simp), sl15, (Cell.slots_setSlot_ne _ ap).trans sl13, n1.keep al (p15.other hne (p13.other hne n7)), n2, by rw [al.findClass]; exact n3, n4, n5, fun y c h1 h2 => p15.other h1 (p13.other h1 (by rw [q11]; exact n6 y c h2)), by rw [p15.2.2, p13.2.2, q11]; exact z8⟩, fun fs hl => c16.trans (X15.returnOut hexec hret (hb hbytes d57) hl)⟩
end New4
namespace New1
def yN : MethodName := ⟨"java/lang/String", "<init>", "([C)V"⟩
abbrev yB : ByteArray := jdk_42_method_3_code
theorem d0 : decode yB 0 = .ok (.aload_n 0, 1) := by decide +kernel
theorem d1 : decode yB 1 = .ok (.aload_n 1, 1) := by decide +kernel
theorem d2 : decode yB 2 = .ok (.iconst 0, 1) := by decide +kernel
theorem d3 : decode yB 3 = .ok (.aload_n 1, 1) := by decide +kernel
theorem d4 : decode yB 4 = .ok (.arraylength, 1) := by decide +kernel
theorem d5 : decode yB 5 = .ok (.aconst_null, 1) := by decide +kernel
theorem d6 : decode yB 6 = .ok (.invokespecial 27, 3) := by decide +kernel
theorem d9 : decode yB 9 = .ok (.return_, 1) := by decide +kernel
def site : List Cond := [New4.tab] ++ initW "java/lang/String" 27 New4.yN
def tab : Cond := tabOf yN yB 2 none site
def P (a : Addr) (D : Cell) (fV fC : Field) (b : Addr) (A : Cell) (z : Int32) (args : Array Value) (s : State) : Prop := args = #[.ref a, .ref b] ∧ Blank "java/lang/String" a D s ∧ Found "java/lang/String" "value" "[B" fV s ∧ Found "java/lang/String" "coder" "B" fC s ∧ Ch b A s ∧ StaticIs s "java/lang/String" "COMPACT_STRINGS" "Z" (.int z) ∧ ¬ z = 0 ∧ 0 < A.slots.size ∧ A.slots.size ≤ 536870912 ∧ ∀ i, i < A.slots.size → ¬ 255 < cv A i
def E (a : Addr) (D : Cell) (fV fC : Field) (A : Cell) (r : Option Value) (s u : State) : Prop := Got a D fV fC A 0 A.slots.size r s u
/-- new String(chars), not empty, no char above 255: a Latin-1 String of their low bytes -/
theorem law (l : Launch) (a : Addr) (D : Cell) (fV fC : Field) (b : Addr) (A : Cell) (z : Int32) : Law l yN 2 1 3 52 yB 2 none site (P a D fV fC b A z) (E a D fV fC A) [⟨a, fC.slot⟩, ⟨a, fV.slot⟩] 1 A.slots.size := by
  refine Law.of_walk (plainFor_of_name (by decide +kernel)) (by decide +kernel) (by decide +kernel) (by decide) (fun _ _ h => by rw [h.1]; rfl) (fun _ U U' hal hh h => ⟨h.1, h.2.1.mv hal hh, h.2.2.1.al hal, h.2.2.2.1.al hal, h.2.2.2.2.1.mv hal hh, h.2.2.2.2.2.1.there hal hh, h.2.2.2.2.2.2⟩) (fun r U U' V V' h1 hal h2 h => Got.mv r U U' V V' h1 hal h2 h) ?_
  intro p e s m args below meth c s₁ X0 hexec hbytes hml hret hlk hnm hown hh0 W hP
  obtain ⟨rfl, hB, f1, f2, hA, s1, hz, l0, l2, hp⟩ := hP
  have c1 : Steps p.tables e below (s₁.setTop (entryFrame m #[.ref a, .ref b] 2)) (s₁.setTop (mkF m 0 #[.val (.ref a), .val (.ref b)] [])) := entry rfl
  have c2 : Steps p.tables e below (s₁.setTop (entryFrame m #[.ref a, .ref b] 2)) (s₁.setTop (mkF m 6 #[.val (.ref a), .val (.ref b)] [.null, .int (Int32.ofNat A.slots.size), .int 0, .ref b, .ref a])) := c1.trans (by
    refine XS.aloadN X0.here hexec rfl (hb hbytes d0) rfl rfl ?_
    refine XS.aloadN X0.here hexec rfl (hb hbytes d1) rfl rfl ?_
    refine iconstV X0.here hexec rfl 0 (hb hbytes d2) (by decide) ?_
    refine XS.aloadN X0.here hexec rfl (hb hbytes d3) rfl rfl ?_
    refine X0.alen hexec (hA.1.mv X0.warmed.alike hh0) rfl rfl (hb hbytes d4) ?_
    refine XS.aconstNull X0.here hexec rfl (hb hbytes d5) ?_
    exact Steps.refl _)
  obtain ⟨v3, T3, X3, E3, g3⟩ := X0.callN hexec (New4.law l a D fV fC b A z 0 A.slots.size) rfl hown (wks W (initW "java/lang/String" 27 New4.yN)) (W New4.tab (by simp only [site, List.mem_cons, List.mem_append, true_or, or_true])) (W := 0) (Nat.le_of_ble_eq_true rfl) (Nat.le_of_ble_eq_true rfl) (Nat.le_refl _) (by show 0 + A.slots.size ≤ A.slots.size; omega) (g := (mkF m 6 #[.val (.ref a), .val (.ref b)] [.null, .int (Int32.ofNat A.slots.size), .int (Int32.ofNat 0), .ref b, .ref a])) rfl (by rw [hml]; rfl) c2 (argsL := [.ref b, .int (Int32.ofNat 0), .int (Int32.ofNat A.slots.size), .null]) (rest := []) rfl rfl (by show 2 * 0 + 0 ≤ _; decide) (hb hbytes d6) (⟨rfl, hB.mv X0.warmed.alike hh0, f1.al X0.warmed.alike, f2.al X0.warmed.alike, hA.mv X0.warmed.alike hh0, s1.there X0.warmed.alike hh0, hz, l0, by omega, l2, fun i hi => by rw [Nat.zero_add]; exact hp i hi⟩)
  have e0 := Got.mv _ s₁ s _ _ hh0.symm (Vm.Alike.refl _) rfl E3
  obtain rfl := e0.1
  have c4 : Steps p.tables e below (s₁.setTop (entryFrame m #[.ref a, .ref b] 2)) (T3.setTop (mkF m 9 #[.val (.ref a), .val (.ref b)] [])) := g3
  exact ⟨T3, none, _, _, _, X3, by simp, rfl, by omega, (fun _ => rfl), e0, fun fs hl => c4.trans (X3.returnOut hexec hret (hb hbytes d9) hl)⟩
theorem pays {l : Launch} {R : Room} {p : Program} {e : Env} {below : List Frame} {s : State} {sargs : Array Value} {len W : Nat} (a : Addr) (D : Cell) (fV fC : Field) (b : Addr) (A : Cell) (z : Int32) (htab : tab.before sargs s = true) (hfr : 4 ≤ R.frames) (hlo : W + 65 ≤ R.locals) :
    Back l R p e below s sargs yN len W (fun A₁ a₁ => A₁.cells + 1 ≤ R.cells ∧ A₁.slots + A.slots.size ≤ R.slots ∧ P a D fV fC b A z a₁ A₁.U) (fun A₁ _ v₁ B₁ => E a D fV fC A v₁ A₁.U B₁.U ∧ B₁.locs = A₁.locs ++ [⟨a, fC.slot⟩, ⟨a, fV.slot⟩] ∧ B₁.cells = A₁.cells + 1 ∧ B₁.slots = A₁.slots + A.slots.size) :=
  (law l a D fV fC b A z).pays htab hfr (by omega)
end New1
/-- the byte, read back as charAt reads it, is the char -/
theorem lo8_mask {x : Int32} (h0 : ¬ x < 0) (h1 : ¬ 255 < x) : lo8 x &&& 255 = x := by
  have t : ∀ k : Fin 256, lo8 (Int32.ofNat k.val) &&& 255 = Int32.ofNat k.val := by decide +kernel
  rw [Int32.lt_iff_toInt_lt] at h0 h1
  have e0 : (0 : Int32).toInt = 0 := rfl
  have e1 : (255 : Int32).toInt = 255 := rfl
  obtain ⟨k, hk⟩ : ∃ k : Nat, x.toInt = k := ⟨x.toInt.toNat, by omega⟩
  have hx : x = Int32.ofNat k := Int32.toInt_inj.mp (by rw [hk, Int32.toInt_ofNat_small (by omega)])
  rw [hx]
  exact t ⟨k, by omega⟩
end StrChars
namespace StrChars.Road
open Jvm Sem ClassFile Op Lib Jvm.Stand Jvm.Free Jvm.Free.XT
open Jvm.Lib.Cold (StaticIs)
abbrev ST : String := "java/lang/String"
/-- every table word that New1's law asks, flat -/
abbrev words : List Jvm.Cond := [.code New1.yN New1.yB 2 none, .initialized ST, .methodLink ST 27 New4.yN, .instanceMethod New4.yN,
  .code New4.yN New4.yB 6 none, .fieldLink ST 38 ST "COMPACT_STRINGS" "Z", .laysFinal ST ST "value" "[B", .fieldLink ST 9 ST "value" "[B", .laysFinal ST ST "coder" "B", .fieldLink ST 15 ST "coder" "B",
  .methodLink ST 1 Lib.objectInit, .instanceMethod Lib.objectInit, .code Lib.objectInit ⟨#[0xb1]⟩ 1 none, .methodLink ST 177 Cmp3.yN, .static Cmp3.yN, .methodLink ST 47 CodL.yN, .static CodL.yN,
  .code Cmp3.yN Cmp3.yB 6 (some (.array .byte)), .initialized U16, .arrayClass .byte, .methodLink U16 115 Cmp5.yN, .static Cmp5.yN, .code Cmp5.yN Cmp5.yB 7 (some .int), .code CodL.yN CodL.yB 2 (some .byte)]
theorem tab_of {a : Array Value} {s : State} (h : ∀ w ∈ words, w.before a s = true) : New1.tab.before a s = true := by
  have h5 : Cmp5.tab.before a s = true := unparts (wk h (.code Cmp5.yN Cmp5.yB 7 (some .int))) (wks h (.initialized Cmp5.yN.cls :: Cmp5.site))
  have hc : CodL.tab.before a s = true := unparts (wk h (.code CodL.yN CodL.yB 2 (some .byte))) (wks h (.initialized CodL.yN.cls :: CodL.site))
  have q5 : ∀ w ∈ Cmp5.tab :: words, w.before a s = true := fun w hw => (List.mem_cons.mp hw).elim (fun e => e ▸ h5) (h w)
  have h3 : Cmp3.tab.before a s = true := unparts (wk q5 (.code Cmp3.yN Cmp3.yB 6 (some (.array .byte)))) (wks q5 (.initialized Cmp3.yN.cls :: Cmp3.site))
  have q3 : ∀ w ∈ Cmp3.tab :: CodL.tab :: words, w.before a s = true := fun w hw => (List.mem_cons.mp hw).elim (fun e => e ▸ h3) fun hw => (List.mem_cons.mp hw).elim (fun e => e ▸ hc) (h w)
  have h4 : New4.tab.before a s = true := unparts (wk q3 (.code New4.yN New4.yB 6 none)) (wks q3 (.initialized New4.yN.cls :: New4.site))
  have q4 : ∀ w ∈ New4.tab :: words, w.before a s = true := fun w hw => (List.mem_cons.mp hw).elim (fun e => e ▸ h4) (h w)
  exact unparts (wk q4 (.code New1.yN New1.yB 2 none)) (wks q4 (.initialized New1.yN.cls :: New1.site))
/-- the words ride from the start Z to the walk's own state -/
theorem moved {Z s : State} {a0 args : Array Value} (hZ : Z.Warmed39 s.vm) (hw : ∀ d ∈ words, d.before a0 Z = true) : ∀ d ∈ words, d.before args s = true := fun d hd => by
  have q := hw d hd
  have t : ∀ d ∈ words, d = .arrayClass .byte ∨ (d.onTables && d.keepsFace) = true := by decide +kernel
  rcases t d hd with rfl | t
  · exact RoadKit.mvA hZ q
  · exact RoadKit.mv hZ q t
/-- WHAT COMES BACK, over the tables of the start Z: h the heap at the call, h' behind it -/
def Q (Z : State) (x : Addr) (A : Cell) (h : Heap) (v : Option Value) (h' : Heap) (L : List Loc) : Prop := v = none ∧ (∀ y ∈ L, y.base = x) ∧ RoadKit.Keep h h' [x] ∧ h'.size = h.size + 1 ∧ RoadKit.Exa Z h' x ST ∧ RoadKit.Fld Z h' x ST "value" "[B" (.ref h.size) ∧ RoadKit.Fld Z h' x ST "coder" "B" (.int 0) ∧
  (∃ V : Cell, RoadKit.Arr Z h' h.size V .byte ∧ V.vm = .none ∧ Z.vm.findClass "[B" = some V.cls ∧ V.slots.size = A.slots.size ∧ ∀ j, j < A.slots.size → V.slots[j]? = some (.int (lo8 (cv A j)))) ∧
  ∀ (O n d : String) (w : Value), RoadKit.Fld Z h x O n d w → RoadKit.slotOf Z O n d ≠ RoadKit.slotOf Z ST "value" "[B" → RoadKit.slotOf Z O n d ≠ RoadKit.slotOf Z ST "coder" "B" → RoadKit.Fld Z h' x O n d w
/-- **new String(chars) AT A CALL, IN THE ROAD'S FORM**: for specialBack behind newO: x the fresh String, b the char[] with the cell A -/
theorem back {p : Program} {l : Launch} {e : Env} {R : Room} {s : State} {args : Array Value} {below : List Frame} {len W : Nat} {Z : State} {a0 : Array Value} {h : Heap} (hZ : Z.Warmed39 s.vm) (hw : ∀ d ∈ words, d.before a0 Z = true) {kI : Nat} (wi : (Jvm.Cond.instantiable ST kI).before a0 Z = true)
    {x b : Addr} {A : Cell} {z : Int32} {v0 c0 : Value} (E : RoadKit.Exa Z h x ST) (V : RoadKit.Fld Z h x ST "value" "[B" v0) (C : RoadKit.Fld Z h x ST "coder" "B" c0) (K : RoadKit.Arr Z h b A .char) (hty : Typed .char A) (S : RoadKit.Sta Z h ST "COMPACT_STRINGS" "Z" (.int z)) (hz : ¬ z = 0)
    (l0 : 0 < A.slots.size) (l2 : A.slots.size ≤ 536870912) (hp : ∀ i, i < A.slots.size → ¬ 255 < cv A i) (hfr : 4 ≤ R.frames) (hlo : W + 65 ≤ R.locals) :
    Back l R p e below s args New1.yN len W (fun P a => a = #[.ref x, .ref b] ∧ P.U.heap = h ∧ P.cells + 1 ≤ R.cells ∧ P.slots + A.slots.size ≤ R.slots)
      (fun P _ v B => ∃ L, Q Z x A h v B.U.heap L ∧ B.locs = P.locs ++ L ∧ B.cells = P.cells + 1 ∧ B.slots = P.slots + A.slots.size) := by
  intro m meth c P g ig mk a X hg hsize hdg hW hn hp'
  obtain ⟨rfl, rfl, r1, r2⟩ := hp'
  have al : Z.vm.Alike P.U.vm := hZ.alike.trans X.warmed.alike
  obtain ⟨D, cfV, kV, iV, fV, hD, gV, stV, knV, obV, asV, slV⟩ := id V
  obtain ⟨D', cfC, kC, iC, fC, hD', gC, stC, -, -, asC, slC⟩ := id C
  cases hD.symm.trans hD'
  obtain ⟨D2, kD, e1, e2, e3, e4, e5⟩ := id E
  cases hD.symm.trans e1
  obtain ⟨c2, k2, i1, i2, i3, -⟩ := Cond.instantiable_spec wi
  cases e2.symm.trans i1
  cases e3.symm.trans i2
  obtain ⟨kU, u1, u2⟩ := al.2.2 _ _ e3
  have hB : Blank ST x D P.U := ⟨hD, ⟨knV, fun q hq => by rw [hq] at obV; cases obV⟩, by rw [al.findClass]; exact e2, kU, u1, by rw [u2]; exact i3, by rw [u2]; exact e5 i3⟩
  have F1 : Found ST "value" "[B" fV P.U := ⟨SBG.found_only al ⟨cfV, kV, iV, gV⟩, stV⟩
  have F2 : Found ST "coder" "B" fC P.U := ⟨SBG.found_only al ⟨cfC, kC, iC, gC⟩, stC⟩
  have hA : Ch b A P.U := ⟨⟨K.1, State.isArrayOf_alike al K.2.1, K.2.2, by omega⟩, hty⟩
  have hS : StaticIs P.U ST "COMPACT_STRINGS" "Z" (.int z) := by
    obtain ⟨cfS, iS, kS, fS, st, cS, t1, t2, t3, t4, t5, t6, t7⟩ := S
    exact StaticIs.there (s := { Z with heap := P.U.heap }) ⟨cfS, iS, kS, fS, st, cS, t1, t2, t3, t4, t5, (fun q => by rw [q] at t6; cases t6), t7⟩ al rfl
  obtain ⟨v, B, X', ⟨⟨hv, E', V', q1, q2, q3, q4, q5, q6, q7, q8, q9, q10, q11⟩, hl, hc, hs⟩, st⟩ := New1.pays x D fV fC b A z (tab_of (moved hZ hw)) hfr hlo m meth c P g ig mk _ X hg hsize hdg hW hn ⟨r1, r2, rfl, hB, F1, F2, hA, hS, hz, l0, l2, hp⟩
  have al' : Z.vm.Alike B.U.vm := hZ.alike.trans X'.warmed.alike
  have hsz : E'.slots.size = D.slots.size := by
    obtain ⟨-, -, -, kB, w1, w2, w3⟩ := q1
    obtain ⟨kB', y1, y2⟩ := al'.2.2 _ _ e3
    rw [q2.2.1] at w1
    cases w1.symm.trans y1
    rw [w3, e5 i3, y2]
  refine ⟨v, B, X', ⟨_, ⟨hv, ?_, ⟨by omega, fun y cy hy hn' => q10 y cy (by simpa using hn') hy, fun y cy hy => ?_⟩, q11, ⟨E', _, q1.1, by rw [q2.2.1]; exact e2, by rw [q2.2.1]; exact e3, by rw [q2.1]; exact obV, fun _ => by rw [hsz]; exact e5 i3⟩,
    ⟨E', cfV, kV, iV, fV, q1.1, gV, stV, by rw [q2.1]; exact knV, by rw [q2.1]; exact obV, by rw [q2.2.1]; exact asV, q3⟩, ⟨E', cfC, kC, iC, fC, q1.1, gC, stC, by rw [q2.1]; exact knV, by rw [q2.1]; exact obV, by rw [q2.2.1]; exact asC, q4⟩,
    ⟨V', ⟨q5.1, State.isArrayOf_alike al'.symm q5.2.1, q5.2.2.1⟩, q6, by rw [← al'.findClass]; exact q7, q8, fun j hj => by have := q9 j hj; rwa [Nat.zero_add] at this⟩, fun O n d w F n1 n2 => ?_⟩, hl, hc, hs⟩, st⟩
  · intro y hy
    simp only [List.mem_cons, List.not_mem_nil, or_false] at hy
    rcases hy with rfl | rfl <;> rfl
  · by_cases q : y = x
    · subst q
      cases hD.symm.trans hy
      exact ⟨E', q1.1, q2.2.1, q2.1, hsz⟩
    · exact ⟨cy, q10 y cy q hy, rfl, rfl, rfl⟩
  · obtain ⟨D3, cf, k, i, f, g1, g2, g3, g4, g5, g6, g7⟩ := F
    cases hD.symm.trans g1
    simp only [RoadKit.slotOf, g2, gV, gC, Option.map_some, Option.getD_some] at n1 n2
    exact ⟨E', cf, k, i, f, q1.1, g2, g3, by rw [q2.1]; exact g4, by rw [q2.1]; exact g5, by rw [q2.2.1]; exact g6, by rw [q2.2.2 f.slot (by simp [n1, n2])]; exact g7⟩
end StrChars.Road
namespace StrChars.Road
open Jvm Sem ClassFile Op Lib Jvm.Stand Jvm.Free Jvm.Free.XT
/-- WHAT COMES BACK, the byte[] as a list of values -/
def QA (Z : State) (x : Addr) (zn : Int32) (cs : List Int32) (h : Heap) (v : Option Value) (h' : Heap) (L : List Loc) : Prop := v = none ∧ (∀ y ∈ L, y.base = x) ∧ RoadKit.Keep h h' [x] ∧ h'.size = h.size + 1 ∧ RoadKit.Exa Z h' x ST ∧ RoadKit.Fld Z h' x ST "value" "[B" (.ref h.size) ∧ RoadKit.Fld Z h' x ST "coder" "B" (.int 0) ∧
  (∃ kb, Z.vm.findClass "[B" = some kb ∧ RoadKit.Arv Z h' h.size kb .byte zn (cs.map fun c => .int (lo8 c)) (.int 0)) ∧
  ∀ (O n d : String) (w : Value), RoadKit.Fld Z h x O n d w → RoadKit.slotOf Z O n d ≠ RoadKit.slotOf Z ST "value" "[B" → RoadKit.slotOf Z O n d ≠ RoadKit.slotOf Z ST "coder" "B" → RoadKit.Fld Z h' x O n d w
/-- **new String(chars) AT A CALL, THE ARRAYS AS LISTS**: the char[] at b holds cs, not empty, no char above 255 -/
theorem backArv {p : Program} {l : Launch} {e : Env} {R : Room} {s : State} {args : Array Value} {below : List Frame} {len W : Nat} {Z : State} {a0 : Array Value} {h : Heap} (hZ : Z.Warmed39 s.vm) (hw : ∀ d ∈ words, d.before a0 Z = true) {kI : Nat} (wi : (Jvm.Cond.instantiable ST kI).before a0 Z = true)
    {x b : Addr} {k : ClassId} {zn z : Int32} {cs : List Int32} {dv v0 c0 : Value} (E : RoadKit.Exa Z h x ST) (V : RoadKit.Fld Z h x ST "value" "[B" v0) (C : RoadKit.Fld Z h x ST "coder" "B" c0) (K : RoadKit.Arv Z h b k .char zn (cs.map Value.int) dv) (S : RoadKit.Sta Z h ST "COMPACT_STRINGS" "Z" (.int z)) (hz : ¬ z = 0)
    (hlen : zn.toNatClampNeg = cs.length) (h0 : 0 < cs.length) (hbig : cs.length ≤ 536870912) (hall : ∀ c ∈ cs, ¬ 255 < c) (hfr : 4 ≤ R.frames) (hlo : W + 65 ≤ R.locals) :
    Back l R p e below s args New1.yN len W (fun P a => a = #[.ref x, .ref b] ∧ P.U.heap = h ∧ P.cells + 1 ≤ R.cells ∧ P.slots + cs.length ≤ R.slots)
      (fun P _ v B => ∃ L, QA Z x zn cs h v B.U.heap L ∧ B.locs = P.locs ++ L ∧ B.cells = P.cells + 1 ∧ B.slots = P.slots + cs.length) := by
  obtain ⟨A, K1, K2, K3, K4, K5, K6⟩ := K
  have e : A.slots.size = cs.length := K3.trans hlen
  have hat : ∀ (i : Nat) (hi : i < cs.length), A.slots[i]? = some (.int cs[i]) := fun i hi => by rw [K5 i (by omega)]; simp [List.getD_eq_getElem?_getD, hi]
  have hcv : ∀ (i : Nat) (hi : i < cs.length), cv A i = cs[i] := fun i hi => by unfold cv; rw [hat i hi]
  have hty : Typed .char A := fun i v hv => by
    have hi : i < A.slots.size := (Array.getElem?_eq_some_iff.mp hv).1
    have q := K5 i hi
    rw [hv] at q
    rw [Option.some.inj q]
    exact K6 i hi
  refine Back.mono (back hZ hw wi E V C K1 hty S hz (by omega) (by omega) (fun i hi => by rw [hcv i (by omega)]; exact hall _ (List.getElem_mem _)) hfr hlo) (fun P a hp => ⟨hp.1, hp.2.1, hp.2.2.1, by rw [e]; exact hp.2.2.2⟩) (fun P a v B hp hq => ?_)
  obtain ⟨L, ⟨q1, q2, q3, q4, q5, q6, q7, ⟨V', v1, v2, v3, v4, v5⟩, q9⟩, hl, hc, hs⟩ := hq
  refine ⟨L, ⟨q1, q2, q3, q4, q5, q6, q7, ⟨V'.cls, v3, V', v1, rfl, by rw [v4, e, hlen], K4, fun i hi => ?_, fun i hi => ?_⟩, q9⟩, hl, hc, by rw [hs, e]⟩
  · have hi' : i < cs.length := by omega
    rw [v5 i (by omega), hcv i hi']; simp [List.getD_eq_getElem?_getD, hi']
  · have hi' : i < cs.length := by omega
    simp only [List.getD_eq_getElem?_getD, List.getElem?_map, List.getElem?_eq_getElem hi', Option.map_some, Option.getD_some]
    exact fits_lo8 _
end StrChars.Road
namespace StrChars.Road
open Jvm Sem ClassFile Op Lib Jvm.Stand Jvm.Free Jvm.Free.XT
/-- WHAT COMES BACK, in the writer's own shape -/
def QV (Z : State) (x : Addr) (N : Int32) (bs : List Int32) (h : Heap) (n0 : Nat) (v : Option Value) (h' : Heap) (L : List Loc) : Prop := v = none ∧ RoadKit.Fr n0 L ∧ RoadKit.Keep h h' [x] ∧ RoadKit.Exa Z h' x ST ∧ RoadKit.Fld Z h' x ST "coder" "B" (.int 0) ∧
  ∃ (t : Addr) (kb : ClassId), n0 ≤ t ∧ h.size ≤ t ∧ ¬ t = x ∧ RoadKit.Fld Z h' x ST "value" "[B" (.ref t) ∧ RoadKit.Arv Z h' t kb .byte N (bs.map Value.int) (.int 0)
/-- **new String(chars) AT A CALL, FOR THE WRITER**: a char[] of n known ints, each 0 to 255 -/
theorem backV {p : Program} {l : Launch} {e : Env} {R : Room} {s : State} {args : Array Value} {below : List Frame} {len W : Nat} {Z : State} {a0 : Array Value} {h : Heap} (hZ : Z.Warmed39 s.vm) (hw : ∀ d ∈ words, d.before a0 Z = true) {kI : Nat} (wi : (Jvm.Cond.instantiable ST kI).before a0 Z = true)
    {x b : Addr} {kC : ClassId} {cs bs : List Int32} {d v0 c0 : Value} {z N : Int32} {n n0 : Nat} (hx0 : n0 ≤ x) (hh0 : n0 ≤ h.size) (E : RoadKit.Exa Z h x ST) (V : RoadKit.Fld Z h x ST "value" "[B" v0) (C : RoadKit.Fld Z h x ST "coder" "B" c0) (K : RoadKit.Arv Z h b kC .char N (cs.map Value.int) d) (S : RoadKit.Sta Z h ST "COMPACT_STRINGS" "Z" (.int z)) (hz : ¬ z = 0)
    (hn : cs.length = n) (hN : N = Int32.ofNat n) (l0 : 0 < n) (l2 : n ≤ 4000) (hp : ∀ c ∈ cs, ¬ c < 0 ∧ ¬ (255 : Int32) < c) (hb : bs = cs.map (fun c => c.toInt8.toInt32)) (hfr : 4 ≤ R.frames) (hlo : W + 65 ≤ R.locals) :
    Back l R p e below s args (⟨"java/lang/String", "<init>", "([C)V"⟩ : MethodName) len W (fun P a => a = #[.ref x, .ref b] ∧ P.U.heap = h ∧ P.cells + 1 ≤ R.cells ∧ P.slots + n ≤ R.slots)
      (fun P _ v B => ∃ L, QV Z x N bs h n0 v B.U.heap L ∧ B.locs = P.locs ++ L ∧ B.cells = P.cells + 1 ∧ B.slots = P.slots + n) := by
  subst hn hN hb
  refine Back.mono (backArv hZ hw wi E V C K S hz (n32 (by omega)) l0 (by omega) (fun c hc => (hp c hc).2) hfr hlo) (fun P a hp => hp) (fun P a v B hp hq => ?_)
  obtain ⟨L, ⟨q1, q2, q3, q4, q5, q6, q7, ⟨kb, v1, v2⟩, q9⟩, hl, hc, hs⟩ := hq
  exact ⟨L, ⟨q1, fun y hy => by rw [q2 y hy]; exact hx0, q3, q5, q7, h.size, kb, hh0, Nat.le_refl _, Nat.ne_of_gt E.lt, q6, by rw [List.map_map]; exact v2⟩, hl, hc, hs⟩
end StrChars.Road
namespace StrChars
open Jvm Sem ClassFile Op Lib Jvm.Stand Jvm.Free.XT Jvm.Free.ALB Jvm.Free.JM Jvm.Free
open Jvm.Lib.Cold (StaticIs)
def hi8 (x : Int32) : Int32 := lo8 (x >>> ((8 : Int32) &&& 31))
/-- what StringUTF16.getChar makes of two bytes -/
def pairCh (u v : Int32) : Int32 := (((u &&& 255) <<< ((0 : Int32) &&& 31)) ||| ((v &&& 255) <<< ((8 : Int32) &&& 31))).toUInt32.toUInt16.toUInt32.toInt32
theorem shr0 (c : Int32) : c >>> ((0 : Int32) &&& 31) = c := by
  have e : ((0 : Int32) &&& 31) = 0 := by decide
  rw [e]
  apply Int32.toBitVec_inj.mp
  rw [Int32.toBitVec_shiftRight]
  have e1 : ((0 : Int32).toBitVec.smod 32) = 0#32 := by decide
  rw [e1, BitVec.sshiftRight_eq']
  exact BitVec.sshiftRight_zero
theorem lo8_and (x : Int32) : (lo8 x &&& 255).toBitVec.toNat = x.toBitVec.toNat % 256 := by
  have h : (lo8 x).toBitVec = (x.toBitVec.signExtend 8).signExtend 32 := by rw [lo8, Int8.toBitVec_toInt32, Int32.toBitVec_toInt8]
  rw [Int32.toBitVec_and, BitVec.toNat_and, h]
  have e : ((x.toBitVec.signExtend 8).signExtend 32).toNat % 256 = x.toBitVec.toNat % 256 := by
    rw [BitVec.toNat_signExtend]
    have hlt := x.toBitVec.isLt
    simp only [BitVec.toNat_setWidth, BitVec.toNat_signExtend]
    split <;> split <;> omega
  rw [← e]
  exact Nat.and_two_pow_sub_one_eq_mod _ 8
theorem pair_says {c : Int32} (h0 : ¬ c < 0) (h1 : ¬ 65535 < c) : pairCh (lo8 c) (hi8 c) = c := by
  rw [Int32.lt_iff_toInt_lt] at h0 h1
  have e0 : (0 : Int32).toInt = 0 := rfl
  have e1 : (65535 : Int32).toInt = 65535 := rfl
  have hc : c.toInt = c.toBitVec.toNat := by
    have := c.toBitVec.isLt
    have e : c.toInt = c.toBitVec.toInt := rfl
    rw [e] at h0 h1
    rw [e]
    rw [BitVec.toInt_eq_toNat_cond] at h0 h1 ⊢
    split at h0 <;> split <;> omega
  have hn : c.toBitVec.toNat < 65536 := by omega
  have a1 := lo8_and c
  have a2 : (hi8 c &&& 255).toBitVec.toNat = c.toBitVec.toNat / 256 := by
    rw [hi8, lo8_and]
    have e : ((8 : Int32) &&& 31) = 8 := by decide
    rw [e, Int32.toBitVec_shiftRight]
    have e2 : ((8 : Int32).toBitVec.smod 32) = 8#32 := by decide
    rw [e2, BitVec.sshiftRight_eq', BitVec.toNat_sshiftRight_of_msb_false (by rw [BitVec.msb_eq_false_iff_two_mul_lt]; omega)]
    show c.toBitVec.toNat >>> 8 % 256 = _
    rw [Nat.shiftRight_eq_div_pow]
    omega
  unfold pairCh
  apply Int32.toBitVec_inj.mp
  apply BitVec.eq_of_toNat_eq
  have f0 : ((0 : Int32) &&& 31) = 0 := by decide
  have f8 : ((8 : Int32) &&& 31) = 8 := by decide
  rw [f0, f8]
  have g : (((lo8 c &&& 255) <<< (0 : Int32)) ||| ((hi8 c &&& 255) <<< (8 : Int32))).toBitVec.toNat = c.toBitVec.toNat := by
    rw [Int32.toBitVec_or, Int32.toBitVec_shiftLeft, Int32.toBitVec_shiftLeft]
    have s0 : ((0 : Int32).toBitVec.smod 32) = 0#32 := by decide
    have s8 : ((8 : Int32).toBitVec.smod 32) = 8#32 := by decide
    rw [s0, s8, BitVec.toNat_or]
    simp only [BitVec.shiftLeft_eq', BitVec.toNat_shiftLeft, a1, a2]
    show (c.toBitVec.toNat % 256) <<< 0 % 2 ^ 32 ||| (c.toBitVec.toNat / 256) <<< 8 % 2 ^ 32 = _
    rw [Nat.shiftLeft_zero, Nat.mod_eq_of_lt (show c.toBitVec.toNat % 256 < 2 ^ 32 by omega), Nat.mod_eq_of_lt (show (c.toBitVec.toNat / 256) <<< 8 < 2 ^ 32 by rw [Nat.shiftLeft_eq]; omega), Nat.or_comm, ← Nat.shiftLeft_add_eq_or_of_lt (by omega), Nat.shiftLeft_eq]
    omega
  show BitVec.toNat (((((lo8 c &&& 255) <<< (0 : Int32)) ||| ((hi8 c &&& 255) <<< (8 : Int32))).toBitVec.setWidth 16).setWidth 32) = _
  rw [BitVec.toNat_setWidth, BitVec.toNat_setWidth, g]
  omega
end StrChars
namespace StrChars
open Jvm Sem ClassFile Op Lib Jvm.Stand Jvm.Free.XT Jvm.Free.ALB Jvm.Free.JM Jvm.Free
open Jvm.Lib.Cold (StaticIs)
theorem shr1 {n : Nat} (h : 2 * n < 2 ^ 31) : Int32.ofNat (2 * n) >>> ((1 : Int32) &&& 31) = Int32.ofNat n := by
  have e : ((1 : Int32) &&& 31) = 1 := by decide
  rw [e]
  apply Int32.toBitVec_inj.mp
  rw [Int32.toBitVec_shiftRight]
  have e1 : ((1 : Int32).toBitVec.smod 32) = 1#32 := by decide
  have hm : (BitVec.ofNat 32 (2 * n)).toNat = 2 * n := by rw [BitVec.toNat_ofNat, Nat.mod_eq_of_lt (by omega)]
  rw [e1, BitVec.sshiftRight_eq']
  apply BitVec.eq_of_toNat_eq
  show ((BitVec.ofNat 32 (2 * n)).sshiftRight 1).toNat = (BitVec.ofNat 32 n).toNat
  rw [BitVec.toNat_sshiftRight_of_msb_false (by rw [BitVec.msb_eq_false_iff_two_mul_lt, hm]; omega), hm, BitVec.toNat_ofNat, Nat.shiftRight_eq_div_pow]
  omega
/-- the array's cell V codes the n chars f 0 .. f (n - 1) by the coder cd, as the JDK does: coder 1 just where some char is above 255 -/
def Cod (cd : Int32) (n : Nat) (f : Nat → Int32) (V : Cell) : Prop := (cd = 0 ∧ V.slots.size = n ∧ ∀ j, j < n → V.slots[j]? = some (.int (lo8 (f j))) ∧ ¬ 255 < f j) ∨ (cd = 1 ∧ V.slots.size = 2 * n ∧ (∀ j, j < n → V.slots[2 * j]? = some (.int (lo8 (f j))) ∧ V.slots[2 * j + 1]? = some (.int (hi8 (f j)))) ∧ ∃ j, j < n ∧ 255 < f j)
theorem Cod.cd {cd : Int32} {n : Nat} {f : Nat → Int32} {V : Cell} (h : Cod cd n f V) : cd = 0 ∨ cd = 1 := h.imp (fun q => q.1) fun q => q.1
theorem Cod.len {cd : Int32} {n : Nat} {f : Nat → Int32} {V : Cell} (h : Cod cd n f V) (hs : V.slots.size < 2 ^ 31) : Int32.ofNat V.slots.size >>> (cd &&& 31) = Int32.ofNat n := by
  rcases h with ⟨rfl, h, -⟩ | ⟨rfl, h, -⟩
  · rw [shr0, h]
  · rw [h, shr1 (by omega)]
/-- **x is a String of the n chars f 0 .. f (n - 1)**, Latin-1 or UTF-16; its array at t has the cell V -/
def Txt (x t : Addr) (V : Cell) (cd : Int32) (n : Nat) (f : Nat → Int32) (U : State) : Prop := Exact "java/lang/String" x U ∧ Has x "java/lang/String" "value" "[B" (.ref t) U ∧ Has x "java/lang/String" "coder" "B" (.int cd) U ∧ XT.Arr .byte t V U ∧ Cod cd n f V ∧ ∀ j, j < n → ¬ f j < 0 ∧ ¬ 65535 < f j
theorem Txt.mv {x t : Addr} {V : Cell} {cd : Int32} {n : Nat} {f : Nat → Int32} {U U' : State} (h : Txt x t V cd n f U) (hal : U.vm.Alike U'.vm) (hh : U'.heap = U.heap) : Txt x t V cd n f U' := ⟨h.1.mv hal hh, h.2.1.mv hal hh, h.2.2.1.mv hal hh, h.2.2.2.1.mv hal hh, h.2.2.2.2⟩
namespace Cdr
def yN : MethodName := ⟨"java/lang/String", "coder", "()B"⟩
abbrev yB : ByteArray := jdk_42_method_152_code
theorem d0 : decode yB 0 = .ok (.getstatic 38, 3) := by decide +kernel
theorem d3 : decode yB 3 = .ok (.ifCond (.eq) 10, 3) := by decide +kernel
theorem d6 : decode yB 6 = .ok (.aload_n 0, 1) := by decide +kernel
theorem d7 : decode yB 7 = .ok (.getfield 15, 3) := by decide +kernel
theorem d10 : decode yB 10 = .ok (.goto 4, 3) := by decide +kernel
theorem d14 : decode yB 14 = .ok (.ireturn, 1) := by decide +kernel
def site : List Cond := [.fieldLink "java/lang/String" 38 "java/lang/String" "COMPACT_STRINGS" "Z", .fieldLink "java/lang/String" 15 "java/lang/String" "coder" "B"]
def tab : Cond := tabOf yN yB 1 (some .byte) site
def P (x : Addr) (cd z : Int32) (args : Array Value) (s : State) : Prop := args = #[.ref x] ∧ Has x "java/lang/String" "coder" "B" (.int cd) s ∧ (cd = 0 ∨ cd = 1) ∧ StaticIs s "java/lang/String" "COMPACT_STRINGS" "Z" (.int z) ∧ ¬ z = 0
def E (cd : Int32) (r : Option Value) (s u : State) : Prop := XT.PureE (some (.int cd)) r s u
theorem law (l : Launch) (x : Addr) (cd z : Int32) : Law l yN 1 0 0 0 yB 1 (some .byte) site (P x cd z) (E cd) [] 0 0 := by
  refine Law.of_walk (plainFor_of_name (by decide +kernel)) (by decide +kernel) (by decide +kernel) (by decide) (fun _ _ h => by rw [h.1]; rfl) (fun _ U U' hal hh h => ⟨h.1, h.2.1.mv hal hh, h.2.2.1, h.2.2.2.1.there hal hh, h.2.2.2.2⟩) (fun r U U' V V' h1 hal h2 h => XT.PureE.mv r U U' V V' h1 hal h2 h) ?_
  intro p e s m args below meth c s₁ X0 hexec hbytes hml hret hlk hnm hown hh0 W hP
  obtain ⟨rfl, hx, hc, s1, hz⟩ := hP
  have c1 : Steps p.tables e below (s₁.setTop (entryFrame m #[.ref x] 1)) (s₁.setTop (mkF m 0 #[.val (.ref x)] [])) := entry rfl
  obtain ⟨T2, X2, q2, st2⟩ := X0.sget hexec hown (wk W (.fieldLink "java/lang/String" 38 "java/lang/String" "COMPACT_STRINGS" "Z")) s1 (fun _ _ h => by rw [hh0]; exact h) (g := (mkF m 0 #[.val (.ref x)] [])) rfl (hb hbytes d0)
  have hh2 := q2.trans hh0
  have c3 : Steps p.tables e below (s₁.setTop (entryFrame m #[.ref x] 1)) (T2.setTop (mkF m 7 #[.val (.ref x)] [.ref x])) := (c1.trans (st2 _ (Steps.refl _))).trans (by
    refine XS.ifNo X2.here hexec rfl (hb hbytes d3) rfl (i0_eq_f hz) ?_
    refine XS.aloadN X2.here hexec rfl (hb hbytes d6) rfl rfl ?_
    exact Steps.refl _)
  obtain ⟨T4, X4, q4, st4⟩ := X2.hget hexec hown (wk W (.fieldLink "java/lang/String" 15 "java/lang/String" "coder" "B")) (hx.mv X2.warmed.alike hh2) (g := (mkF m 7 #[.val (.ref x)] [.ref x])) rfl (rest := []) rfl (hb hbytes d7)
  have c5 : Steps p.tables e below (s₁.setTop (entryFrame m #[.ref x] 1)) (T4.setTop (mkF m 14 #[.val (.ref x)] [.int cd])) := (c3.trans (st4 _ (Steps.refl _))).trans (by
    refine XS.goto X4.here hexec rfl (pc0 := 10) rfl (hb hbytes d10) (by decide) rfl ?_
    exact Steps.refl _)
  exact ⟨T4, some (.int cd), _, _, _, X4, rfl, rfl, rfl, (fun h => by cases h), ⟨rfl, q4.trans hh2⟩, fun fs hl => c5.trans (X4.ireturnOut hexec hret (by rcases hc with rfl | rfl <;> rfl) (Or.inr (Or.inr (Or.inl rfl))) (hb hbytes d14) hl)⟩
end Cdr
namespace Len
def yN : MethodName := ⟨"java/lang/String", "length", "()I"⟩
abbrev yB : ByteArray := jdk_42_method_54_code
theorem d0 : decode yB 0 = .ok (.aload_n 0, 1) := by decide +kernel
theorem d1 : decode yB 1 = .ok (.getfield 9, 3) := by decide +kernel
theorem d4 : decode yB 4 = .ok (.arraylength, 1) := by decide +kernel
theorem d5 : decode yB 5 = .ok (.aload_n 0, 1) := by decide +kernel
theorem d6 : decode yB 6 = .ok (.invokevirtual 335, 3) := by decide +kernel
theorem d9 : decode yB 9 = .ok (.ishr, 1) := by decide +kernel
theorem d10 : decode yB 10 = .ok (.ireturn, 1) := by decide +kernel
def site : List Cond := [.fieldLink "java/lang/String" 9 "java/lang/String" "value" "[B", Cdr.tab] ++ virtW "java/lang/String" 335 "java/lang/String" Cdr.yN Cdr.yN
def tab : Cond := tabOf yN yB 1 (some .int) site
def P (x t : Addr) (V : Cell) (cd : Int32) (n : Nat) (f : Nat → Int32) (z : Int32) (args : Array Value) (s : State) : Prop := args = #[.ref x] ∧ Txt x t V cd n f s ∧ StaticIs s "java/lang/String" "COMPACT_STRINGS" "Z" (.int z) ∧ ¬ z = 0
def E (n : Nat) (r : Option Value) (s u : State) : Prop := XT.PureE (some (.int (Int32.ofNat n))) r s u
/-- length() of a String of n chars, in either coding -/
theorem law (l : Launch) (x t : Addr) (V : Cell) (cd : Int32) (n : Nat) (f : Nat → Int32) (z : Int32) : Law l yN 1 0 1 13 yB 1 (some .int) site (P x t V cd n f z) (E n) [] 0 0 := by
  refine Law.of_walk (plainFor_of_name (by decide +kernel)) (by decide +kernel) (by decide +kernel) (by decide) (fun _ _ h => by rw [h.1]; rfl) (fun _ U U' hal hh h => ⟨h.1, h.2.1.mv hal hh, h.2.2.1.there hal hh, h.2.2.2⟩) (fun r U U' V V' h1 hal h2 h => XT.PureE.mv r U U' V V' h1 hal h2 h) ?_
  intro p e s m args below meth c s₁ X0 hexec hbytes hml hret hlk hnm hown hh0 W hP
  obtain ⟨rfl, hx, s1, hz⟩ := hP
  have v31 := hx.2.2.2.1.2.2.2
  have c1 : Steps p.tables e below (s₁.setTop (entryFrame m #[.ref x] 1)) (s₁.setTop (mkF m 1 #[.val (.ref x)] [.ref x])) := Steps.trans (entry rfl) (by
    show Steps p.tables e below (s₁.setTop (mkF m 0 #[.val (.ref x)] [])) _
    refine XS.aloadN X0.here hexec rfl (hb hbytes d0) rfl rfl ?_
    exact Steps.refl _)
  obtain ⟨T2, X2, q2, st2⟩ := X0.hget hexec hown (wk W (.fieldLink "java/lang/String" 9 "java/lang/String" "value" "[B")) (hx.mv X0.warmed.alike hh0).2.1 (g := (mkF m 1 #[.val (.ref x)] [.ref x])) rfl (rest := []) rfl (hb hbytes d1)
  have hh2 := q2.trans hh0
  have hx2 := hx.mv X2.warmed.alike hh2
  have c3 : Steps p.tables e below (s₁.setTop (entryFrame m #[.ref x] 1)) (T2.setTop (mkF m 6 #[.val (.ref x)] [.ref x, .int (Int32.ofNat V.slots.size)])) := (c1.trans (st2 _ (Steps.refl _))).trans (by
    refine X2.alen hexec hx2.2.2.2.1 rfl rfl (hb hbytes d4) ?_
    refine XS.aloadN X2.here hexec rfl (hb hbytes d5) rfl rfl ?_
    exact Steps.refl _)
  obtain ⟨v4, T4, X4, E4, g4⟩ := X2.callV hexec (Cdr.law l x cd z) hown (wks W (virtW "java/lang/String" 335 "java/lang/String" Cdr.yN Cdr.yN)) rfl (by decide) (wk W Cdr.tab) (W := 1) (Nat.le_of_ble_eq_true rfl) (Nat.le_of_ble_eq_true rfl) (Nat.le_refl _) (Nat.le_refl _) (hx2.1.fc X2.warmed.alike) hx2.1.is (g := (mkF m 6 #[.val (.ref x)] [.ref x, .int (Int32.ofNat V.slots.size)])) rfl (by rw [hml]; rfl) c3 (argsL := []) (rest := [.int (Int32.ofNat V.slots.size)]) rfl rfl (by show 2 * 0 + (1 + 0) ≤ _; decide) (hb hbytes d6) (⟨rfl, hx2.2.2.1, hx.2.2.2.2.1.cd, s1.there X2.warmed.alike hh2, hz⟩)
  obtain ⟨rfl, q4⟩ := E4
  have c5 : Steps p.tables e below (s₁.setTop (entryFrame m #[.ref x] 1)) (T4.setTop (mkF m 10 #[.val (.ref x)] [.int (Int32.ofNat V.slots.size >>> (cd &&& 31))])) := Steps.trans g4 (by
    refine ishr X4.here hexec rfl (hb hbytes d9) rfl ?_
    exact Steps.refl _)
  rw [hx.2.2.2.2.1.len v31] at c5
  exact ⟨T4, some (.int (Int32.ofNat n)), _, _, _, X4, rfl, rfl, rfl, (fun h => by cases h), ⟨rfl, q4.trans hh2⟩, fun fs hl => c5.trans (X4.ireturnOut hexec hret rfl (Or.inl rfl) (hb hbytes d10) hl)⟩
theorem pays {l : Launch} {R : Room} {p : Program} {e : Env} {below : List Frame} {s : State} {sargs : Array Value} {len W : Nat} (x t : Addr) (V : Cell) (cd : Int32) (n : Nat) (f : Nat → Int32) (z : Int32) (htab : tab.before sargs s = true) (hfr : 2 ≤ R.frames) (hlo : W + 25 ≤ R.locals) :
    Back l R p e below s sargs yN len W (fun A₁ a₁ => A₁.cells + 0 ≤ R.cells ∧ A₁.slots + 0 ≤ R.slots ∧ P x t V cd n f z a₁ A₁.U) (fun A₁ _ v₁ B₁ => E n v₁ A₁.U B₁.U ∧ B₁.locs = A₁.locs ++ [] ∧ B₁.cells = A₁.cells + 0 ∧ B₁.slots = A₁.slots + 0) :=
  (law l x t V cd n f z).pays htab hfr (by omega)
end Len
end StrChars
namespace StrChars.Road
open Jvm Sem ClassFile Op Lib Jvm.Stand Jvm.Free Jvm.Free.XT
open Jvm.Lib.Cold (StaticIs)
theorem consq {a : Array Value} {s : State} {c : Jvm.Cond} {L : List Jvm.Cond} (h0 : c.before a s = true) (h : ∀ w ∈ L, w.before a s = true) : ∀ w ∈ c :: L, w.before a s = true := fun w hw => (List.mem_cons.mp hw).elim (fun e => e ▸ h0) (h w)
/-- the words of String.length(), either coding -/
abbrev wordsLen : List Jvm.Cond := [.code Len.yN Len.yB 1 (some .int), .initialized ST, .fieldLink ST 9 ST "value" "[B", .fieldLink ST 38 ST "COMPACT_STRINGS" "Z", .fieldLink ST 15 ST "coder" "B", .code Cdr.yN Cdr.yB 1 (some .byte), .methodLink ST 335 Cdr.yN, .declares Cdr.yN, .selects ST Cdr.yN Cdr.yN, .instanceMethod Cdr.yN]
theorem tabLen_of {a : Array Value} {s : State} (h : ∀ w ∈ wordsLen, w.before a s = true) : Len.tab.before a s = true := by
  have hc : Cdr.tab.before a s = true := unparts (wk h (.code Cdr.yN Cdr.yB 1 (some .byte))) (wks h (.initialized Cdr.yN.cls :: Cdr.site))
  have q := consq hc h
  exact unparts (wk q (.code Len.yN Len.yB 1 (some .int))) (wks q (.initialized Len.yN.cls :: Len.site))
theorem movedLen {Z s : State} {a0 args : Array Value} (hZ : Z.Warmed39 s.vm) (hw : ∀ d ∈ wordsLen, d.before a0 Z = true) : ∀ d ∈ wordsLen, d.before args s = true := fun d hd => by
  have q := hw d hd
  have t : ∀ d ∈ wordsLen, d = .arrayClass .byte ∨ (d.onTables && d.keepsFace) = true := by decide +kernel
  rcases t d hd with rfl | t
  · exact RoadKit.mvA hZ q
  · exact RoadKit.mv hZ q t
/-- the bytes of the chars cs, low before high -/
def wideBytes : List Int32 → List Value
  | [] => []
  | c :: cs => .int (lo8 c) :: .int (hi8 c) :: wideBytes cs
theorem wide_lo (d : Value) : ∀ (cs : List Int32) (j : Nat), j < cs.length → (wideBytes cs).getD (2 * j) d = .int (lo8 (cs.getD j 0))
  | [], j, h => absurd h (Nat.not_lt_zero j)
  | c :: cs, 0, _ => rfl
  | c :: cs, j + 1, h => by
    have q := wide_lo d cs j (by simpa using h)
    rw [show 2 * (j + 1) = 2 * j + 1 + 1 from by omega]
    simpa [wideBytes] using q
theorem wide_hi (d : Value) : ∀ (cs : List Int32) (j : Nat), j < cs.length → (wideBytes cs).getD (2 * j + 1) d = .int (hi8 (cs.getD j 0))
  | [], j, h => absurd h (Nat.not_lt_zero j)
  | c :: cs, 0, _ => rfl
  | c :: cs, j + 1, h => by
    have q := wide_hi d cs j (by simpa using h)
    rw [show 2 * (j + 1) + 1 = 2 * j + 1 + 1 + 1 from by omega]
    simpa [wideBytes] using q
theorem low_at (d : Value) (cs : List Int32) (j : Nat) (h : j < cs.length) : (cs.map fun c => Value.int (lo8 c)).getD j d = .int (lo8 (cs.getD j 0)) := by
  simp [List.getD_eq_getElem?_getD, h]
/-- an array of N2 bytes vs codes the chars cs by the coder cd -/
def CodA (cs : List Int32) (cd N2 : Int32) (vs : List Value) : Prop := (cd = 0 ∧ N2 = Int32.ofNat cs.length ∧ vs = (cs.map fun c => Value.int (lo8 c)) ∧ ∀ c ∈ cs, ¬ 255 < c) ∨ (cd = 1 ∧ N2 = Int32.ofNat (2 * cs.length) ∧ vs = wideBytes cs ∧ ∃ c ∈ cs, 255 < c)
theorem CodA.cod {cs : List Int32} {cd N2 : Int32} {vs : List Value} {V : Cell} (h : CodA cs cd N2 vs) (hn : 2 * cs.length < 2 ^ 31) (hs : V.slots.size = N2.toNatClampNeg) (hv : RoadKit.Has V vs (.int 0)) : Cod cd cs.length (fun j => cs.getD j 0) V := by
  rcases h with ⟨rfl, rfl, rfl, h⟩ | ⟨rfl, rfl, rfl, c, hc, hw⟩
  · rw [n32 (by omega)] at hs
    exact Or.inl ⟨rfl, hs, fun j hj => ⟨by rw [hv j (by omega), low_at _ _ _ hj], by
      have e : cs.getD j 0 = cs[j] := by simp [List.getD_eq_getElem?_getD, hj]
      show ¬ 255 < cs.getD j 0
      rw [e]; exact h _ (List.getElem_mem _)⟩⟩
  · rw [n32 (by omega)] at hs
    obtain ⟨j, hj, rfl⟩ := List.getElem_of_mem hc
    exact Or.inr ⟨rfl, hs, fun j hj => ⟨by rw [hv _ (by omega), wide_lo _ _ _ hj], by rw [hv _ (by omega), wide_hi _ _ _ hj]⟩, j, hj, by
      have e : cs.getD j 0 = cs[j] := by simp [List.getD_eq_getElem?_getD, hj]
      show 255 < cs.getD j 0
      rw [e]; exact hw⟩
/-- an object of exactly java/lang/String, its two fields found: as the laws ask it -/
theorem strObj {Z U : State} {a0 : Array Value} {kI : Nat} (wi : (Jvm.Cond.instantiable ST kI).before a0 Z = true) (al : Z.vm.Alike U.vm) {x : Addr} {v0 c0 : Value} (E : RoadKit.Exa Z U.heap x ST) (V : RoadKit.Fld Z U.heap x ST "value" "[B" v0) (C : RoadKit.Fld Z U.heap x ST "coder" "B" c0) :
    ∃ (D : Cell) (fV fC : Field), Blank ST x D U ∧ Found ST "value" "[B" fV U ∧ Found ST "coder" "B" fC U ∧ D.slots[fV.slot]? = some v0 ∧ D.slots[fC.slot]? = some c0 ∧ RoadKit.slotOf Z ST "value" "[B" = fV.slot ∧ RoadKit.slotOf Z ST "coder" "B" = fC.slot := by
  obtain ⟨D, cfV, kV, iV, fV, hD, gV, stV, knV, obV, asV, slV⟩ := V
  obtain ⟨D', cfC, kC, iC, fC, hD', gC, stC, -, -, asC, slC⟩ := C
  cases hD.symm.trans hD'
  obtain ⟨D2, kD, e1, e2, e3, e4, e5⟩ := E
  cases hD.symm.trans e1
  obtain ⟨c2, k2, i1, i2, i3, -⟩ := Cond.instantiable_spec wi
  cases e2.symm.trans i1
  cases e3.symm.trans i2
  obtain ⟨kU, u1, u2⟩ := al.2.2 _ _ e3
  exact ⟨D, fV, fC, ⟨hD, ⟨knV, fun q hq => by rw [hq] at obV; cases obV⟩, by rw [al.findClass]; exact e2, kU, u1, by rw [u2]; exact i3, by rw [u2]; exact e5 i3⟩, ⟨SBG.found_only al ⟨cfV, kV, iV, gV⟩, stV⟩, ⟨SBG.found_only al ⟨cfC, kC, iC, gC⟩, stC⟩, slV, slC, by simp [RoadKit.slotOf, gV], by simp [RoadKit.slotOf, gC]⟩
theorem sta_is {Z U : State} (al : Z.vm.Alike U.vm) {C n d : String} {v : Value} (S : RoadKit.Sta Z U.heap C n d v) : StaticIs U C n d v := by
  obtain ⟨cfS, iS, kS, fS, st, cS, t1, t2, t3, t4, t5, t6, t7⟩ := S
  exact StaticIs.there (s := { Z with heap := U.heap }) ⟨cfS, iS, kS, fS, st, cS, t1, t2, t3, t4, t5, (fun q => by rw [q] at t6; cases t6), t7⟩ al rfl
/-- **length() OF SUCH A STRING** -/
theorem lenW {p : Program} {l : Launch} {e : Env} {R : Room} {s : State} {args : Array Value} {below : List Frame} {len W : Nat} {Z : State} {a0 : Array Value} {h : Heap} (hZ : Z.Warmed39 s.vm) (hw : ∀ d ∈ wordsLen, d.before a0 Z = true) {kI : Nat} (wi : (Jvm.Cond.instantiable ST kI).before a0 Z = true)
    {x t : Addr} {kb : ClassId} {cs : List Int32} {cd N2 z : Int32} {vs : List Value} (E : RoadKit.Exa Z h x ST) (V : RoadKit.Fld Z h x ST "value" "[B" (.ref t)) (C : RoadKit.Fld Z h x ST "coder" "B" (.int cd)) (K : RoadKit.Arv Z h t kb .byte N2 vs (.int 0)) (hc : CodA cs cd N2 vs) (hb : ∀ c ∈ cs, ¬ c < 0 ∧ ¬ (65535 : Int32) < c)
    (S : RoadKit.Sta Z h ST "COMPACT_STRINGS" "Z" (.int z)) (hz : ¬ z = 0) (l2 : cs.length ≤ 4000) (hfr : 2 ≤ R.frames) (hlo : W + 25 ≤ R.locals) :
    Back l R p e below s args (⟨"java/lang/String", "length", "()I"⟩ : MethodName) len W (fun P a => a = #[.ref x] ∧ P.U.heap = h ∧ P.cells + 0 ≤ R.cells ∧ P.slots + 0 ≤ R.slots)
      (fun P _ v B => ∃ L, (v = some (.int (Int32.ofNat cs.length)) ∧ L = [] ∧ B.U.heap = h) ∧ B.locs = P.locs ++ L ∧ B.cells = P.cells + 0 ∧ B.slots = P.slots + 0) := by
  obtain ⟨A, K1, K2, K3, K4, K5, K6⟩ := K
  have hcod := hc.cod (by omega) K3 K5
  intro m meth c P g ig mk a X hg hsize hdg hW hn hp'
  obtain ⟨rfl, rfl, r1, r2⟩ := hp'
  have al : Z.vm.Alike P.U.vm := hZ.alike.trans X.warmed.alike
  obtain ⟨D, fV, fC, hB, F1, F2, g1, g2, -, -⟩ := strObj wi al E V C
  have hx : Txt x t A cd cs.length (fun j => cs.getD j 0) P.U := ⟨⟨_, hB.2.2.1, D, hB.1, rfl, by cases q : D.vm <;> first | rfl | exact absurd q (hB.2.1.2 _)⟩, Has.of hB F1 g1, Has.of hB F2 g2, ⟨K1.1, State.isArrayOf_alike al K1.2.1, K1.2.2, by rcases hcod with ⟨-, q, -⟩ | ⟨-, q, -⟩ <;> omega⟩, hcod, fun j hj => by
    have e : cs.getD j 0 = cs[j] := by simp [List.getD_eq_getElem?_getD, hj]
    show ¬ cs.getD j 0 < 0 ∧ ¬ 65535 < cs.getD j 0
    rw [e]; exact hb _ (List.getElem_mem _)⟩
  obtain ⟨v, B, X', ⟨⟨hv, hh⟩, hl, hk, hs⟩, st⟩ := Len.pays x t A cd cs.length (fun j => cs.getD j 0) z (tabLen_of (movedLen hZ hw)) hfr hlo m meth c P g ig mk _ X hg hsize hdg hW hn ⟨r1, r2, rfl, hx, sta_is al S, hz⟩
  exact ⟨v, B, X', ⟨[], ⟨hv, rfl, hh⟩, hl, hk, hs⟩, st⟩
end StrChars.Road
namespace StrChars
open Jvm Sem ClassFile Op Lib Jvm.Stand Jvm.Free.XT Jvm.Free.ALB Jvm.Free.JM Jvm.Free
open Jvm.Lib.Cold (StaticIs)
/-- what place i of a byte[]'s cell holds -/
def yv (A : Cell) (i : Nat) : Int32 := match A.slots[i]? with | some (.int x) => x | _ => 0
theorem yv_get {a : Addr} {A : Cell} {U : State} (h : XT.Arr .byte a A U) (ht : Typed .byte A) {i : Nat} (hi : i < A.slots.size) : A.slots[i]? = some (.int (yv A i)) := by
  have e := Array.getElem?_eq_getElem hi
  have f := ht i _ e
  unfold yv; rw [e]
  generalize A.slots[i] = v at f
  cases v <;> simp [fits] at f ⊢
/-- the two arrays are equal, place for place -/
def EqC (A B : Cell) : Prop := A.slots.size = B.slots.size ∧ ∀ i, i < A.slots.size → yv A i = yv B i
/-- a boolean that says whether p -/
def Says01 (q : Prop) (r : Option Value) (s u : State) : Prop := ∃ v : Int32, r = some (.int v) ∧ u.heap = s.heap ∧ ((v = 1 ∧ q) ∨ (v = 0 ∧ ¬ q))
theorem Says01.mv {q : Prop} : ∀ r (U U' V V' : State), U'.heap = U.heap → V.vm.Alike V'.vm → V'.heap = V.heap → Says01 q r U V → Says01 q r U' V' :=
  fun r U U' V V' h1 _ h2 ⟨v, a, b, c⟩ => ⟨v, a, by rw [h1, h2]; exact b, c⟩
namespace LEq
def yN : MethodName := ⟨"java/lang/StringLatin1", "equals", "([B[B)Z"⟩
abbrev yB : ByteArray := jdk_43_method_13_code
theorem d0 : decode yB 0 = .ok (.aload_n 0, 1) := by decide +kernel
theorem d1 : decode yB 1 = .ok (.arraylength, 1) := by decide +kernel
theorem d2 : decode yB 2 = .ok (.aload_n 1, 1) := by decide +kernel
theorem d3 : decode yB 3 = .ok (.arraylength, 1) := by decide +kernel
theorem d4 : decode yB 4 = .ok (.if_icmp (.ne) 30, 3) := by decide +kernel
theorem d7 : decode yB 7 = .ok (.iconst 0, 1) := by decide +kernel
theorem d8 : decode yB 8 = .ok (.istore_n 2, 1) := by decide +kernel
theorem d9 : decode yB 9 = .ok (.iload_n 2, 1) := by decide +kernel
theorem d10 : decode yB 10 = .ok (.aload_n 0, 1) := by decide +kernel
theorem d11 : decode yB 11 = .ok (.arraylength, 1) := by decide +kernel
theorem d12 : decode yB 12 = .ok (.if_icmp (.ge) 20, 3) := by decide +kernel
theorem d15 : decode yB 15 = .ok (.aload_n 0, 1) := by decide +kernel
theorem d16 : decode yB 16 = .ok (.iload_n 2, 1) := by decide +kernel
theorem d17 : decode yB 17 = .ok (.baload, 1) := by decide +kernel
theorem d18 : decode yB 18 = .ok (.aload_n 1, 1) := by decide +kernel
theorem d19 : decode yB 19 = .ok (.iload_n 2, 1) := by decide +kernel
theorem d20 : decode yB 20 = .ok (.baload, 1) := by decide +kernel
theorem d21 : decode yB 21 = .ok (.if_icmp (.eq) 5, 3) := by decide +kernel
theorem d24 : decode yB 24 = .ok (.iconst 0, 1) := by decide +kernel
theorem d25 : decode yB 25 = .ok (.ireturn, 1) := by decide +kernel
theorem d26 : decode yB 26 = .ok (.iinc 2 1, 3) := by decide +kernel
theorem d29 : decode yB 29 = .ok (.goto (-20), 3) := by decide +kernel
theorem d32 : decode yB 32 = .ok (.iconst 1, 1) := by decide +kernel
theorem d33 : decode yB 33 = .ok (.ireturn, 1) := by decide +kernel
theorem d34 : decode yB 34 = .ok (.iconst 0, 1) := by decide +kernel
theorem d35 : decode yB 35 = .ok (.ireturn, 1) := by decide +kernel
def site : List Cond := []
def tab : Cond := tabOf yN yB 3 (some .boolean) site
def P (a : Addr) (A : Cell) (b : Addr) (B : Cell) (args : Array Value) (s : State) : Prop := args = #[.ref a, .ref b] ∧ XT.Arr .byte a A s ∧ Typed .byte A ∧ XT.Arr .byte b B s ∧ Typed .byte B
/-- whether two byte[] are equal, place for place -/
theorem law (l : Launch) (a : Addr) (A : Cell) (b : Addr) (B : Cell) : Law l yN 2 2 0 0 yB 3 (some .boolean) site (P a A b B) (Says01 (EqC A B)) [] 0 0 := by
  refine Law.of_walk (plainFor_of_name (by decide +kernel)) (by decide +kernel) (by decide +kernel) (by decide) (fun _ _ h => by rw [h.1]; rfl) (fun _ U U' hal hh h => ⟨h.1, h.2.1.mv hal hh, h.2.2.1, h.2.2.2.1.mv hal hh, h.2.2.2.2⟩) (fun r U U' V V' h1 hal h2 h => Says01.mv r U U' V V' h1 hal h2 h) ?_
  intro p e s m args below meth c s₁ X0 hexec hbytes hml hret hlk hnm hown hh0 W hP
  obtain ⟨rfl, hA, tA, hB, tB⟩ := hP
  have a31 := hA.2.2.2
  have b31 := hB.2.2.2
  have hA0 := hA.mv X0.warmed.alike hh0
  have hB0 := hB.mv X0.warmed.alike hh0
  have c1 : Steps p.tables e below (s₁.setTop (entryFrame m #[.ref a, .ref b] 3)) (s₁.setTop (mkF m 0 #[.val (.ref a), .val (.ref b), .unset] [])) := entry rfl
  have c2 : Steps p.tables e below (s₁.setTop (entryFrame m #[.ref a, .ref b] 3)) (s₁.setTop (mkF m 4 #[.val (.ref a), .val (.ref b), .unset] [.int (Int32.ofNat B.slots.size), .int (Int32.ofNat A.slots.size)])) := c1.trans (by
    refine XS.aloadN X0.here hexec rfl (hb hbytes d0) rfl rfl ?_
    refine X0.alen hexec hA0 rfl rfl (hb hbytes d1) ?_
    refine XS.aloadN X0.here hexec rfl (hb hbytes d2) rfl rfl ?_
    refine X0.alen hexec hB0 rfl rfl (hb hbytes d3) ?_
    exact Steps.refl _)
  by_cases hs : A.slots.size = B.slots.size
  · have c3 : Steps p.tables e below (s₁.setTop (entryFrame m #[.ref a, .ref b] 3)) (s₁.setTop (mkF m 9 #[.val (.ref a), .val (.ref b), .val (.int 0)] [])) := c2.trans (by
      refine XS.icmpNo X0.here hexec rfl (hb hbytes d4) rfl (ii_ne_f (by rw [hs])) ?_
      refine iconstV X0.here hexec rfl 0 (hb hbytes d7) (by decide) ?_
      refine XS.istoreN X0.here hexec rfl (hb hbytes d8) rfl rfl ?_
      exact Steps.refl _)
    have loop : ∀ (r i : Nat), i + r = A.slots.size → (∀ j, j < i → yv A j = yv B j) → Steps p.tables e below (s₁.setTop (entryFrame m #[.ref a, .ref b] 3)) (s₁.setTop (mkF m 9 #[.val (.ref a), .val (.ref b), .val (.int (Int32.ofNat i))] [])) → ∃ (pc : Nat) (Ls : Array Slot) (v : Int32), (pc = 25 ∨ pc = 33) ∧ ((v = 1 ∧ EqC A B) ∨ (v = 0 ∧ ¬ EqC A B)) ∧ Steps p.tables e below (s₁.setTop (entryFrame m #[.ref a, .ref b] 3)) (s₁.setTop (mkF m pc Ls [.int v])) := by
      intro r
      induction r with
      | zero =>
        intro i hi he cl
        exact ⟨33, _, 1, Or.inr rfl, Or.inl ⟨rfl, hs, fun j hj => he j (by omega)⟩, cl.trans (by
          refine XS.iloadN X0.here hexec rfl (hb hbytes d9) rfl ?_
          refine XS.aloadN X0.here hexec rfl (hb hbytes d10) rfl rfl ?_
          refine X0.alen hexec hA0 rfl rfl (hb hbytes d11) ?_
          refine XS.icmpYes X0.here hexec rfl (pc0 := 12) rfl (hb hbytes d12) rfl (ii_ge_t (nlt32 (by omega) (by omega))) (by decide) rfl ?_
          refine iconstV X0.here hexec rfl 1 (hb hbytes d32) (by decide) ?_
          exact Steps.refl _)⟩
      | succ r ih =>
        intro i hi he cl
        have c4 : Steps p.tables e below (s₁.setTop (entryFrame m #[.ref a, .ref b] 3)) (s₁.setTop (mkF m 21 #[.val (.ref a), .val (.ref b), .val (.int (Int32.ofNat i))] [.int (yv B i), .int (yv A i)])) := cl.trans (by
          refine XS.iloadN X0.here hexec rfl (hb hbytes d9) rfl ?_
          refine XS.aloadN X0.here hexec rfl (hb hbytes d10) rfl rfl ?_
          refine X0.alen hexec hA0 rfl rfl (hb hbytes d11) ?_
          refine XS.icmpNo X0.here hexec rfl (hb hbytes d12) rfl (ii_ge_f (lt32 (by omega) (by omega))) ?_
          refine XS.aloadN X0.here hexec rfl (hb hbytes d15) rfl rfl ?_
          refine XS.iloadN X0.here hexec rfl (hb hbytes d16) rfl ?_
          refine X0.aget hexec hA0 rfl (yv_get hA tA (i := i) (by omega)) rfl rfl (hb hbytes d17) ?_
          refine XS.aloadN X0.here hexec rfl (hb hbytes d18) rfl rfl ?_
          refine XS.iloadN X0.here hexec rfl (hb hbytes d19) rfl ?_
          refine X0.aget hexec hB0 rfl (yv_get hB tB (i := i) (by omega)) rfl rfl (hb hbytes d20) ?_
          exact Steps.refl _)
        by_cases hv : yv A i = yv B i
        · have c5 : Steps p.tables e below (s₁.setTop (entryFrame m #[.ref a, .ref b] 3)) (s₁.setTop (mkF m 9 #[.val (.ref a), .val (.ref b), .val (.int (Int32.ofNat i + 1))] [])) := c4.trans (by
            refine XS.icmpYes X0.here hexec rfl (pc0 := 21) rfl (hb hbytes d21) rfl (ii_eq_t hv) (by decide) rfl ?_
            refine iincV X0.here hexec rfl 1 (hb hbytes d26) (by decide) rfl rfl ?_
            refine XS.goto X0.here hexec rfl (pc0 := 29) rfl (hb hbytes d29) (by decide) rfl ?_
            exact Steps.refl _)
          rw [succ32] at c5
          exact ih (i + 1) (by omega) (fun j hj => by
            by_cases e : j = i
            · rw [e]; exact hv
            · exact he j (by omega)) c5
        · exact ⟨25, _, 0, Or.inl rfl, Or.inr ⟨rfl, fun q => hv (q.2 i (by omega))⟩, c4.trans (by
            refine XS.icmpNo X0.here hexec rfl (hb hbytes d21) rfl (ii_eq_f hv) ?_
            refine iconstV X0.here hexec rfl 0 (hb hbytes d24) (by decide) ?_
            exact Steps.refl _)⟩
    obtain ⟨pc, Ls, v, hpc, hv, cz⟩ := loop A.slots.size 0 (by omega) (fun j hj => absurd hj (Nat.not_lt_zero j)) c3
    have nv : narrow .boolean (.int v) = .int v := by rcases hv with ⟨rfl, -⟩ | ⟨rfl, -⟩ <;> rfl
    rcases hpc with rfl | rfl
    · exact ⟨s₁, some (.int v), _, _, _, X0, rfl, rfl, rfl, (fun h => by cases h), ⟨v, rfl, hh0, hv⟩, fun fs hl => cz.trans (X0.ireturnOut hexec hret nv (Or.inr (Or.inl rfl)) (hb hbytes d25) hl)⟩
    · exact ⟨s₁, some (.int v), _, _, _, X0, rfl, rfl, rfl, (fun h => by cases h), ⟨v, rfl, hh0, hv⟩, fun fs hl => cz.trans (X0.ireturnOut hexec hret nv (Or.inr (Or.inl rfl)) (hb hbytes d33) hl)⟩
  · have c3 : Steps p.tables e below (s₁.setTop (entryFrame m #[.ref a, .ref b] 3)) (s₁.setTop (mkF m 35 #[.val (.ref a), .val (.ref b), .unset] [.int 0])) := c2.trans (by
      refine XS.icmpYes X0.here hexec rfl (pc0 := 4) rfl (hb hbytes d4) rfl (ii_ne_t (ne32 a31 b31 hs)) (by decide) rfl ?_
      refine iconstV X0.here hexec rfl 0 (hb hbytes d34) (by decide) ?_
      exact Steps.refl _)
    exact ⟨s₁, some (.int 0), _, _, _, X0, rfl, rfl, rfl, (fun h => by cases h), ⟨0, rfl, hh0, Or.inr ⟨rfl, fun q => hs q.1⟩⟩, fun fs hl => c3.trans (X0.ireturnOut hexec hret rfl (Or.inr (Or.inl rfl)) (hb hbytes d35) hl)⟩
end LEq
theorem Cod.ty {cd : Int32} {n : Nat} {f : Nat → Int32} {V : Cell} (h : Cod cd n f V) : Typed .byte V := fun i v hv => by
  have hi : i < V.slots.size := (Array.getElem?_eq_some_iff.mp hv).1
  rcases h with ⟨-, k1, k2⟩ | ⟨-, k1, k2, -⟩
  · rw [(k2 i (by omega)).1] at hv; cases hv; exact fits_lo8 _
  · rcases Nat.mod_two_eq_zero_or_one i with e | e
    · obtain ⟨j, rfl⟩ : ∃ j, i = 2 * j := ⟨i / 2, by omega⟩
      rw [(k2 j (by omega)).1] at hv; cases hv; exact fits_lo8 _
    · obtain ⟨j, rfl⟩ : ∃ j, i = 2 * j + 1 := ⟨i / 2, by omega⟩
      rw [(k2 j (by omega)).2] at hv; cases hv; exact fits_lo8 _
/-- the same text -/
def SameT (n : Nat) (f : Nat → Int32) (k : Nat) (g : Nat → Int32) : Prop := n = k ∧ ∀ j, j < n → f j = g j
theorem lo8_inj {x y : Int32} (h0 : ¬ x < 0) (h1 : ¬ 255 < x) (k0 : ¬ y < 0) (k1 : ¬ 255 < y) (h : lo8 x = lo8 y) : x = y := by
  rw [← lo8_mask h0 h1, ← lo8_mask k0 k1, h]
/-- arrays coded by one coder are equal just where the texts are -/
theorem Cod.eqv {cd : Int32} {n k : Nat} {f g : Nat → Int32} {V V' : Cell} (h : Cod cd n f V) (h' : Cod cd k g V') (hf : ∀ j, j < n → ¬ f j < 0 ∧ ¬ 65535 < f j) (hg : ∀ j, j < k → ¬ g j < 0 ∧ ¬ 65535 < g j) : EqC V V' ↔ SameT n f k g := by
  have yvv : ∀ {W : Cell} {i : Nat} {x : Int32}, W.slots[i]? = some (.int x) → yv W i = x := fun q => by unfold yv; rw [q]
  rcases h with ⟨rfl, k1, k2⟩ | ⟨rfl, k1, k2, -⟩
  · rcases h' with ⟨-, m1, m2⟩ | ⟨e, -⟩
    · constructor
      · rintro ⟨e1, e2⟩
        refine ⟨by omega, fun j hj => ?_⟩
        have q := e2 j (by omega)
        rw [yvv (k2 j hj).1, yvv (m2 j (by omega)).1] at q
        exact lo8_inj (hf j hj).1 (k2 j hj).2 (hg j (by omega)).1 (m2 j (by omega)).2 q
      · rintro ⟨rfl, e2⟩
        refine ⟨by omega, fun j hj => ?_⟩
        rw [yvv (k2 j (by omega)).1, yvv (m2 j (by omega)).1, e2 j (by omega)]
    · exact absurd e (by decide)
  · rcases h' with ⟨e, -⟩ | ⟨-, m1, m2, -⟩
    · exact absurd e (by decide)
    · constructor
      · rintro ⟨e1, e2⟩
        refine ⟨by omega, fun j hj => ?_⟩
        have q1 := e2 (2 * j) (by omega)
        have q2 := e2 (2 * j + 1) (by omega)
        rw [yvv (k2 j hj).1, yvv (m2 j (by omega)).1] at q1
        rw [yvv (k2 j hj).2, yvv (m2 j (by omega)).2] at q2
        rw [← pair_says (hf j hj).1 (hf j hj).2, ← pair_says (hg j (by omega)).1 (hg j (by omega)).2, q1, q2]
      · rintro ⟨rfl, e2⟩
        refine ⟨by omega, fun i hi => ?_⟩
        rcases Nat.mod_two_eq_zero_or_one i with e | e
        · obtain ⟨j, rfl⟩ : ∃ j, i = 2 * j := ⟨i / 2, by omega⟩
          rw [yvv (k2 j (by omega)).1, yvv (m2 j (by omega)).1, e2 j (by omega)]
        · obtain ⟨j, rfl⟩ : ∃ j, i = 2 * j + 1 := ⟨i / 2, by omega⟩
          rw [yvv (k2 j (by omega)).2, yvv (m2 j (by omega)).2, e2 j (by omega)]
/-- two codings differ: so do the texts -/
theorem Cod.dif {cd cd' : Int32} {n k : Nat} {f g : Nat → Int32} {V V' : Cell} (h : Cod cd n f V) (h' : Cod cd' k g V') (hne : ¬ cd = cd') : ¬ SameT n f k g := by
  rintro ⟨rfl, e⟩
  rcases h with ⟨rfl, -, k2⟩ | ⟨rfl, -, -, j, hj, hw⟩
  · rcases h' with ⟨rfl, -⟩ | ⟨-, -, -, j, hj, hw⟩
    · exact hne rfl
    · exact (k2 j hj).2 (by rw [e j hj]; exact hw)
  · rcases h' with ⟨-, -, m2⟩ | ⟨rfl, -⟩
    · exact (m2 j hj).2 (by rw [← e j hj]; exact hw)
    · exact hne rfl
/-- an object of exactly C is an instance of C -/
theorem cinst {p : Program} {l : Launch} {e : Env} {R : Room} {s : State} {m : MethodId} {args : Array Value} {below : List Frame} {meth : Method} {c : Code} {T : State} {locs : List Loc} {cells slots : Nat} (X : Stand p l e R s m args below meth c T locs cells slots) (hexec : p.tables.exec = Jvm.exec) {own C : String} {index : Nat} (hown : s.vm.findClass own = some m.cls) (hlink : (Cond.classLink own index C).before args s = true) {a : Addr} (hE : Exact C a T)
    {g : JFrame} (hg : g.method = m) {rest : List Value} (hstack : g.stack = .ref a :: rest) (hdg : decode c.code g.pc = .ok (.instanceof index, 3)) :
    ∃ T', Stand p l e R s m args below meth c T' locs cells slots ∧ T'.heap = T.heap ∧ ∀ target, Steps p.tables e below (T'.setTop { g with pc := g.pc + 3, stack := .int 1 :: rest }) target → Steps p.tables e below (T.setTop g) target := by
  obtain ⟨cB, h1, D, h2, h3, h4⟩ := hE
  have h1' : s.vm.findClass C = some cB := by rw [← X.warmed.alike.findClass]; exact h1
  obtain ⟨vm', X', st⟩ := X.instanceofYes hexec hown hlink h2 h4 h1' (by rw [h3]; exact Jvm.Free.SB.assignable_self _ _) hg hstack hdg
  exact ⟨_, X', rfl, st⟩
theorem cself {p : Program} {l : Launch} {e : Env} {R : Room} {s : State} {m : MethodId} {args : Array Value} {below : List Frame} {meth : Method} {c : Code} {T : State} {locs : List Loc} {cells slots : Nat} (X : Stand p l e R s m args below meth c T locs cells slots) (hexec : p.tables.exec = Jvm.exec) {own C : String} {index : Nat} (hown : s.vm.findClass own = some m.cls) (hlink : (Cond.classLink own index C).before args s = true) {a : Addr} (hE : Exact C a T)
    {g : JFrame} (hg : g.method = m) {rest : List Value} (hstack : g.stack = .ref a :: rest) (hdg : decode c.code g.pc = .ok (.checkcast index, 3)) :
    ∃ T', Stand p l e R s m args below meth c T' locs cells slots ∧ T'.heap = T.heap ∧ ∀ target, Steps p.tables e below (T'.setTop { g with pc := g.pc + 3, stack := .ref a :: rest }) target → Steps p.tables e below (T.setTop g) target := by
  obtain ⟨cB, h1, D, h2, h3, h4⟩ := hE
  have h1' : s.vm.findClass C = some cB := by rw [← X.warmed.alike.findClass]; exact h1
  obtain ⟨vm', X', st⟩ := X.checkcastYes hexec hown hlink h2 h4 h1' (by rw [h3]; exact Jvm.Free.SB.assignable_self _ _) hg hstack hdg
  exact ⟨_, X', rfl, fun t h => st t (by rw [← hstack] at h; exact h)⟩
namespace SEq
def yN : MethodName := ⟨"java/lang/String", "equals", "(Ljava/lang/Object;)Z"⟩
abbrev yB : ByteArray := jdk_42_method_66_code
theorem d0 : decode yB 0 = .ok (.aload_n 0, 1) := by decide +kernel
theorem d1 : decode yB 1 = .ok (.aload_n 1, 1) := by decide +kernel
theorem d2 : decode yB 2 = .ok (.if_acmp (.ne) 5, 3) := by decide +kernel
theorem d5 : decode yB 5 = .ok (.iconst 1, 1) := by decide +kernel
theorem d6 : decode yB 6 = .ok (.ireturn, 1) := by decide +kernel
theorem d7 : decode yB 7 = .ok (.aload_n 1, 1) := by decide +kernel
theorem d8 : decode yB 8 = .ok (.instanceof 10, 3) := by decide +kernel
theorem d11 : decode yB 11 = .ok (.ifCond (.eq) 43, 3) := by decide +kernel
theorem d14 : decode yB 14 = .ok (.aload_n 1, 1) := by decide +kernel
theorem d15 : decode yB 15 = .ok (.checkcast 10, 3) := by decide +kernel
theorem d18 : decode yB 18 = .ok (.astore_n 2, 1) := by decide +kernel
theorem d19 : decode yB 19 = .ok (.getstatic 38, 3) := by decide +kernel
theorem d22 : decode yB 22 = .ok (.ifCond (.eq) 14, 3) := by decide +kernel
theorem d25 : decode yB 25 = .ok (.aload_n 0, 1) := by decide +kernel
theorem d26 : decode yB 26 = .ok (.getfield 15, 3) := by decide +kernel
theorem d29 : decode yB 29 = .ok (.aload_n 2, 1) := by decide +kernel
theorem d30 : decode yB 30 = .ok (.getfield 15, 3) := by decide +kernel
theorem d33 : decode yB 33 = .ok (.if_icmp (.ne) 21, 3) := by decide +kernel
theorem d36 : decode yB 36 = .ok (.aload_n 0, 1) := by decide +kernel
theorem d37 : decode yB 37 = .ok (.getfield 9, 3) := by decide +kernel
theorem d40 : decode yB 40 = .ok (.aload_n 2, 1) := by decide +kernel
theorem d41 : decode yB 41 = .ok (.getfield 9, 3) := by decide +kernel
theorem d44 : decode yB 44 = .ok (.invokestatic 541, 3) := by decide +kernel
theorem d47 : decode yB 47 = .ok (.ifCond (.eq) 7, 3) := by decide +kernel
theorem d50 : decode yB 50 = .ok (.iconst 1, 1) := by decide +kernel
theorem d51 : decode yB 51 = .ok (.goto 4, 3) := by decide +kernel
theorem d54 : decode yB 54 = .ok (.iconst 0, 1) := by decide +kernel
theorem d55 : decode yB 55 = .ok (.ireturn, 1) := by decide +kernel
def site : List Cond := [.classLink "java/lang/String" 10 "java/lang/String", .fieldLink "java/lang/String" 38 "java/lang/String" "COMPACT_STRINGS" "Z", .fieldLink "java/lang/String" 15 "java/lang/String" "coder" "B", .fieldLink "java/lang/String" 9 "java/lang/String" "value" "[B", LEq.tab] ++ staticW "java/lang/String" 541 LEq.yN
def tab : Cond := tabOf yN yB 3 (some .boolean) site
def P (x t : Addr) (V : Cell) (cd : Int32) (n : Nat) (f : Nat → Int32) (y t' : Addr) (V' : Cell) (cd' : Int32) (k : Nat) (g : Nat → Int32) (z : Int32) (args : Array Value) (s : State) : Prop := args = #[.ref x, .ref y] ∧ Txt x t V cd n f s ∧ Txt y t' V' cd' k g s ∧ StaticIs s "java/lang/String" "COMPACT_STRINGS" "Z" (.int z) ∧ ¬ z = 0
/-- equals(Object) of two Strings: whether the texts are the same -/
theorem law (l : Launch) (x t : Addr) (V : Cell) (cd : Int32) (n : Nat) (f : Nat → Int32) (y t' : Addr) (V' : Cell) (cd' : Int32) (k : Nat) (g : Nat → Int32) (z : Int32) : Law l yN 2 1 1 14 yB 3 (some .boolean) site (P x t V cd n f y t' V' cd' k g z) (Says01 (SameT n f k g)) [] 0 0 := by
  refine Law.of_walk (plainFor_of_name (by decide +kernel)) (by decide +kernel) (by decide +kernel) (by decide) (fun _ _ h => by rw [h.1]; rfl) (fun _ U U' hal hh h => ⟨h.1, h.2.1.mv hal hh, h.2.2.1.mv hal hh, h.2.2.2.1.there hal hh, h.2.2.2.2⟩) (fun r U U' V V' h1 hal h2 h => Says01.mv r U U' V V' h1 hal h2 h) ?_
  intro p e s m args below meth c s₁ X0 hexec hbytes hml hret hlk hnm hown hh0 W hP
  obtain ⟨rfl, hx, hy, s1, hz⟩ := hP
  have c1 : Steps p.tables e below (s₁.setTop (entryFrame m #[.ref x, .ref y] 3)) (s₁.setTop (mkF m 2 #[.val (.ref x), .val (.ref y), .unset] [.ref y, .ref x])) := Steps.trans (entry rfl) (by
    show Steps p.tables e below (s₁.setTop (mkF m 0 #[.val (.ref x), .val (.ref y), .unset] [])) _
    refine XS.aloadN X0.here hexec rfl (hb hbytes d0) rfl rfl ?_
    refine XS.aloadN X0.here hexec rfl (hb hbytes d1) rfl rfl ?_
    exact Steps.refl _)
  by_cases hxy : x = y
  · have c2 : Steps p.tables e below (s₁.setTop (entryFrame m #[.ref x, .ref y] 3)) (s₁.setTop (mkF m 6 #[.val (.ref x), .val (.ref y), .unset] [.int 1])) := c1.trans (by
      refine acmpNo X0.here hexec rfl (hb hbytes d2) rfl rfl rfl (by simp [acmp, hxy]) ?_
      refine iconstV X0.here hexec rfl 1 (hb hbytes d5) (by decide) ?_
      exact Steps.refl _)
    subst hxy
    have ec : cd = cd' := by
      obtain ⟨D, fd, a1, a2, a3⟩ := hx.2.2.1
      obtain ⟨D', fd', b1, b2, b3⟩ := hy.2.2.1
      cases a1.symm.trans b1
      obtain ⟨q1, q2, q3, q4⟩ := a2.1
      obtain ⟨r1, r2, r3, r4⟩ := b2.1
      cases q4.symm.trans r4
      cases a3.symm.trans b3; rfl
    have et : t = t' := by
      obtain ⟨D, fd, a1, a2, a3⟩ := hx.2.1
      obtain ⟨D', fd', b1, b2, b3⟩ := hy.2.1
      cases a1.symm.trans b1
      obtain ⟨q1, q2, q3, q4⟩ := a2.1
      obtain ⟨r1, r2, r3, r4⟩ := b2.1
      cases q4.symm.trans r4
      cases a3.symm.trans b3; rfl
    subst ec et
    have ev : V = V' := by cases hx.2.2.2.1.1.symm.trans hy.2.2.2.1.1; rfl
    subst ev
    have hs : SameT n f k g := (Cod.eqv hx.2.2.2.2.1 hy.2.2.2.2.1 hx.2.2.2.2.2 hy.2.2.2.2.2).mp ⟨rfl, fun _ _ => rfl⟩
    exact ⟨s₁, some (.int 1), _, _, _, X0, rfl, rfl, rfl, (fun h => by cases h), ⟨1, rfl, hh0, Or.inl ⟨rfl, hs⟩⟩, fun fs hl => c2.trans (X0.ireturnOut hexec hret rfl (Or.inr (Or.inl rfl)) (hb hbytes d6) hl)⟩
  · have c2 : Steps p.tables e below (s₁.setTop (entryFrame m #[.ref x, .ref y] 3)) (s₁.setTop (mkF m 8 #[.val (.ref x), .val (.ref y), .unset] [.ref y])) := c1.trans (by
      refine acmpYes X0.here hexec rfl (pc0 := 2) rfl (hb hbytes d2) rfl rfl rfl (by simp [acmp, hxy]) (by decide) rfl ?_
      refine XS.aloadN X0.here hexec rfl (hb hbytes d7) rfl rfl ?_
      exact Steps.refl _)
    obtain ⟨T3, X3, q3, st3⟩ := cinst X0 hexec hown (wk W (.classLink "java/lang/String" 10 "java/lang/String")) (hy.mv X0.warmed.alike hh0).1 (g := (mkF m 8 #[.val (.ref x), .val (.ref y), .unset] [.ref y])) rfl (rest := []) rfl (hb hbytes d8)
    have hh3 := q3.trans hh0
    have c4 : Steps p.tables e below (s₁.setTop (entryFrame m #[.ref x, .ref y] 3)) (T3.setTop (mkF m 15 #[.val (.ref x), .val (.ref y), .unset] [.ref y])) := (c2.trans (st3 _ (Steps.refl _))).trans (by
      refine XS.ifNo X3.here hexec rfl (hb hbytes d11) rfl (i0_eq_f (by decide)) ?_
      refine XS.aloadN X3.here hexec rfl (hb hbytes d14) rfl rfl ?_
      exact Steps.refl _)
    obtain ⟨T5, X5, q5, st5⟩ := cself X3 hexec hown (wk W (.classLink "java/lang/String" 10 "java/lang/String")) (hy.mv X3.warmed.alike hh3).1 (g := (mkF m 15 #[.val (.ref x), .val (.ref y), .unset] [.ref y])) rfl (rest := []) rfl (hb hbytes d15)
    have hh5 := q5.trans hh3
    have c6 : Steps p.tables e below (s₁.setTop (entryFrame m #[.ref x, .ref y] 3)) (T5.setTop (mkF m 19 #[.val (.ref x), .val (.ref y), .val (.ref y)] [])) := (c4.trans (st5 _ (Steps.refl _))).trans (by
      refine XS.astoreN X5.here hexec rfl (hb hbytes d18) rfl rfl rfl ?_
      exact Steps.refl _)
    obtain ⟨T7, X7, q7, st7⟩ := X5.sget hexec hown (wk W (.fieldLink "java/lang/String" 38 "java/lang/String" "COMPACT_STRINGS" "Z")) s1 (fun _ _ h => by rw [hh5]; exact h) (g := (mkF m 19 #[.val (.ref x), .val (.ref y), .val (.ref y)] [])) rfl (hb hbytes d19)
    have hh7 := q7.trans hh5
    have c8 : Steps p.tables e below (s₁.setTop (entryFrame m #[.ref x, .ref y] 3)) (T7.setTop (mkF m 26 #[.val (.ref x), .val (.ref y), .val (.ref y)] [.ref x])) := (c6.trans (st7 _ (Steps.refl _))).trans (by
      refine XS.ifNo X7.here hexec rfl (hb hbytes d22) rfl (i0_eq_f hz) ?_
      refine XS.aloadN X7.here hexec rfl (hb hbytes d25) rfl rfl ?_
      exact Steps.refl _)
    obtain ⟨T9, X9, q9, st9⟩ := X7.hget hexec hown (wk W (.fieldLink "java/lang/String" 15 "java/lang/String" "coder" "B")) (hx.mv X7.warmed.alike hh7).2.2.1 (g := (mkF m 26 #[.val (.ref x), .val (.ref y), .val (.ref y)] [.ref x])) rfl (rest := []) rfl (hb hbytes d26)
    have hh9 := q9.trans hh7
    have c10 : Steps p.tables e below (s₁.setTop (entryFrame m #[.ref x, .ref y] 3)) (T9.setTop (mkF m 30 #[.val (.ref x), .val (.ref y), .val (.ref y)] [.ref y, .int cd])) := (c8.trans (st9 _ (Steps.refl _))).trans (by
      refine XS.aloadN X9.here hexec rfl (hb hbytes d29) rfl rfl ?_
      exact Steps.refl _)
    obtain ⟨T11, X11, q11, st11⟩ := X9.hget hexec hown (wk W (.fieldLink "java/lang/String" 15 "java/lang/String" "coder" "B")) (hy.mv X9.warmed.alike hh9).2.2.1 (g := (mkF m 30 #[.val (.ref x), .val (.ref y), .val (.ref y)] [.ref y, .int cd])) rfl (rest := [.int cd]) rfl (hb hbytes d30)
    have hh11 := q11.trans hh9
    have c12 : Steps p.tables e below (s₁.setTop (entryFrame m #[.ref x, .ref y] 3)) (T11.setTop (mkF m 33 #[.val (.ref x), .val (.ref y), .val (.ref y)] [.int cd', .int cd])) := c10.trans (st11 _ (Steps.refl _))
    by_cases hcd : cd = cd'
    · subst hcd
      have c13 : Steps p.tables e below (s₁.setTop (entryFrame m #[.ref x, .ref y] 3)) (T11.setTop (mkF m 37 #[.val (.ref x), .val (.ref y), .val (.ref y)] [.ref x])) := c12.trans (by
        refine XS.icmpNo X11.here hexec rfl (hb hbytes d33) rfl (ii_ne_f rfl) ?_
        refine XS.aloadN X11.here hexec rfl (hb hbytes d36) rfl rfl ?_
        exact Steps.refl _)
      obtain ⟨T14, X14, q14, st14⟩ := X11.hget hexec hown (wk W (.fieldLink "java/lang/String" 9 "java/lang/String" "value" "[B")) (hx.mv X11.warmed.alike hh11).2.1 (g := (mkF m 37 #[.val (.ref x), .val (.ref y), .val (.ref y)] [.ref x])) rfl (rest := []) rfl (hb hbytes d37)
      have hh14 := q14.trans hh11
      have c15 : Steps p.tables e below (s₁.setTop (entryFrame m #[.ref x, .ref y] 3)) (T14.setTop (mkF m 41 #[.val (.ref x), .val (.ref y), .val (.ref y)] [.ref y, .ref t])) := (c13.trans (st14 _ (Steps.refl _))).trans (by
        refine XS.aloadN X14.here hexec rfl (hb hbytes d40) rfl rfl ?_
        exact Steps.refl _)
      obtain ⟨T16, X16, q16, st16⟩ := X14.hget hexec hown (wk W (.fieldLink "java/lang/String" 9 "java/lang/String" "value" "[B")) (hy.mv X14.warmed.alike hh14).2.1 (g := (mkF m 41 #[.val (.ref x), .val (.ref y), .val (.ref y)] [.ref y, .ref t])) rfl (rest := [.ref t]) rfl (hb hbytes d41)
      have hh16 := q16.trans hh14
      have c17 : Steps p.tables e below (s₁.setTop (entryFrame m #[.ref x, .ref y] 3)) (T16.setTop (mkF m 44 #[.val (.ref x), .val (.ref y), .val (.ref y)] [.ref t', .ref t])) := c15.trans (st16 _ (Steps.refl _))
      obtain ⟨v18, T18, X18, E18, g18⟩ := X16.callS hexec (LEq.law l t V t' V') hown (wks W (staticW "java/lang/String" 541 LEq.yN)) (wk W LEq.tab) (W := 0) (Nat.le_of_ble_eq_true rfl) (Nat.le_of_ble_eq_true rfl) (Nat.le_refl _) (Nat.le_refl _) (g := (mkF m 44 #[.val (.ref x), .val (.ref y), .val (.ref y)] [.ref t', .ref t])) rfl (by rw [hml]; rfl) c17 (argsL := [.ref t, .ref t']) (rest := []) rfl rfl (by show 2 * 0 + 0 ≤ _; decide) (hb hbytes d44) (⟨rfl, hx.2.2.2.1.mv X16.warmed.alike hh16, hx.2.2.2.2.1.ty, hy.2.2.2.1.mv X16.warmed.alike hh16, hy.2.2.2.2.1.ty⟩)
      obtain ⟨v, rfl, q18, hv⟩ := E18
      have iff := Cod.eqv hx.2.2.2.2.1 hy.2.2.2.2.1 hx.2.2.2.2.2 hy.2.2.2.2.2
      rcases hv with ⟨rfl, he⟩ | ⟨rfl, he⟩
      · have c19 : Steps p.tables e below (s₁.setTop (entryFrame m #[.ref x, .ref y] 3)) (T18.setTop (mkF m 55 #[.val (.ref x), .val (.ref y), .val (.ref y)] [.int 1])) := Steps.trans g18 (by
          refine XS.ifNo X18.here hexec rfl (hb hbytes d47) rfl (i0_eq_f (by decide)) ?_
          refine iconstV X18.here hexec rfl 1 (hb hbytes d50) (by decide) ?_
          refine XS.goto X18.here hexec rfl (pc0 := 51) rfl (hb hbytes d51) (by decide) rfl ?_
          exact Steps.refl _)
        exact ⟨T18, some (.int 1), _, _, _, X18, rfl, rfl, rfl, (fun h => by cases h), ⟨1, rfl, q18.trans hh16, Or.inl ⟨rfl, iff.mp he⟩⟩, fun fs hl => c19.trans (X18.ireturnOut hexec hret rfl (Or.inr (Or.inl rfl)) (hb hbytes d55) hl)⟩
      · have c19 : Steps p.tables e below (s₁.setTop (entryFrame m #[.ref x, .ref y] 3)) (T18.setTop (mkF m 55 #[.val (.ref x), .val (.ref y), .val (.ref y)] [.int 0])) := Steps.trans g18 (by
          refine XS.ifYes X18.here hexec rfl (pc0 := 47) rfl (hb hbytes d47) rfl (i0_eq_t rfl) (by decide) rfl ?_
          refine iconstV X18.here hexec rfl 0 (hb hbytes d54) (by decide) ?_
          exact Steps.refl _)
        exact ⟨T18, some (.int 0), _, _, _, X18, rfl, rfl, rfl, (fun h => by cases h), ⟨0, rfl, q18.trans hh16, Or.inr ⟨rfl, fun q => he (iff.mpr q)⟩⟩, fun fs hl => c19.trans (X18.ireturnOut hexec hret rfl (Or.inr (Or.inl rfl)) (hb hbytes d55) hl)⟩
    · have c13 : Steps p.tables e below (s₁.setTop (entryFrame m #[.ref x, .ref y] 3)) (T11.setTop (mkF m 55 #[.val (.ref x), .val (.ref y), .val (.ref y)] [.int 0])) := c12.trans (by
        refine XS.icmpYes X11.here hexec rfl (pc0 := 33) rfl (hb hbytes d33) rfl (ii_ne_t hcd) (by decide) rfl ?_
        refine iconstV X11.here hexec rfl 0 (hb hbytes d54) (by decide) ?_
        exact Steps.refl _)
      exact ⟨T11, some (.int 0), _, _, _, X11, rfl, rfl, rfl, (fun h => by cases h), ⟨0, rfl, hh11, Or.inr ⟨rfl, Cod.dif hx.2.2.2.2.1 hy.2.2.2.2.1 hcd⟩⟩, fun fs hl => c13.trans (X11.ireturnOut hexec hret rfl (Or.inr (Or.inl rfl)) (hb hbytes d55) hl)⟩
theorem pays {l : Launch} {R : Room} {p : Program} {e : Env} {below : List Frame} {s : State} {sargs : Array Value} {len W : Nat} (x t : Addr) (V : Cell) (cd : Int32) (n : Nat) (f : Nat → Int32) (y t' : Addr) (V' : Cell) (cd' : Int32) (k : Nat) (g : Nat → Int32) (z : Int32) (htab : tab.before sargs s = true) (hfr : 2 ≤ R.frames) (hlo : W + 28 ≤ R.locals) :
    Back l R p e below s sargs yN len W (fun A₁ a₁ => A₁.cells + 0 ≤ R.cells ∧ A₁.slots + 0 ≤ R.slots ∧ P x t V cd n f y t' V' cd' k g z a₁ A₁.U) (fun A₁ _ v₁ B₁ => Says01 (SameT n f k g) v₁ A₁.U B₁.U ∧ B₁.locs = A₁.locs ++ [] ∧ B₁.cells = A₁.cells + 0 ∧ B₁.slots = A₁.slots + 0) :=
  (law l x t V cd n f y t' V' cd' k g z).pays htab hfr (by omega)
end SEq
end StrChars
namespace StrChars.Road
open Jvm Sem ClassFile Op Lib Jvm.Stand Jvm.Free Jvm.Free.XT
open Jvm.Lib.Cold (StaticIs)
/-- the words of String.equals(Object) -/
abbrev wordsEq : List Jvm.Cond := [.code SEq.yN SEq.yB 3 (some .boolean), .initialized ST, .classLink ST 10 ST, .fieldLink ST 38 ST "COMPACT_STRINGS" "Z", .fieldLink ST 15 ST "coder" "B", .fieldLink ST 9 ST "value" "[B", .methodLink ST 541 LEq.yN, .static LEq.yN, .code LEq.yN LEq.yB 3 (some .boolean), .initialized "java/lang/StringLatin1"]
theorem tabEq_of {a : Array Value} {s : State} (h : ∀ w ∈ wordsEq, w.before a s = true) : SEq.tab.before a s = true := by
  have hl : LEq.tab.before a s = true := unparts (wk h (.code LEq.yN LEq.yB 3 (some .boolean))) (wks h (.initialized LEq.yN.cls :: LEq.site))
  have q := consq hl h
  exact unparts (wk q (.code SEq.yN SEq.yB 3 (some .boolean))) (wks q (.initialized SEq.yN.cls :: SEq.site))
theorem movedEq {Z s : State} {a0 args : Array Value} (hZ : Z.Warmed39 s.vm) (hw : ∀ d ∈ wordsEq, d.before a0 Z = true) : ∀ d ∈ wordsEq, d.before args s = true := fun d hd => by
  have t : ∀ d ∈ wordsEq, (d.onTables && d.keepsFace) = true := by decide +kernel
  exact RoadKit.mv hZ (hw d hd) (t d hd)
/-- the road's facts of a String, as the laws ask it -/
theorem txt_of {Z U : State} {a0 : Array Value} {kI : Nat} (wi : (Jvm.Cond.instantiable ST kI).before a0 Z = true) (al : Z.vm.Alike U.vm) {x t : Addr} {kb : ClassId} {cs : List Int32} {cd N2 : Int32} {vs : List Value} (E : RoadKit.Exa Z U.heap x ST) (V : RoadKit.Fld Z U.heap x ST "value" "[B" (.ref t)) (C : RoadKit.Fld Z U.heap x ST "coder" "B" (.int cd)) (K : RoadKit.Arv Z U.heap t kb .byte N2 vs (.int 0)) (hc : CodA cs cd N2 vs) (hb : ∀ c ∈ cs, ¬ c < 0 ∧ ¬ (65535 : Int32) < c) (l2 : cs.length ≤ 4000) :
    ∃ A, Txt x t A cd cs.length (fun j => cs.getD j 0) U := by
  obtain ⟨A, K1, K2, K3, K4, K5, K6⟩ := K
  have hcod := hc.cod (by omega) K3 K5
  obtain ⟨D, fV, fC, hB, F1, F2, g1, g2, -, -⟩ := strObj wi al E V C
  exact ⟨A, ⟨_, hB.2.2.1, D, hB.1, rfl, by cases q : D.vm <;> first | rfl | exact absurd q (hB.2.1.2 _)⟩, Has.of hB F1 g1, Has.of hB F2 g2, ⟨K1.1, State.isArrayOf_alike al K1.2.1, K1.2.2, by rcases hcod with ⟨-, q, -⟩ | ⟨-, q, -⟩ <;> omega⟩, hcod, fun j hj => by
    have e : cs.getD j 0 = cs[j] := by simp [List.getD_eq_getElem?_getD, hj]
    show ¬ cs.getD j 0 < 0 ∧ ¬ 65535 < cs.getD j 0
    rw [e]; exact hb _ (List.getElem_mem _)⟩
theorem same_list (cs ds : List Int32) : SameT cs.length (fun j => cs.getD j 0) ds.length (fun j => ds.getD j 0) ↔ cs = ds := by
  constructor
  · rintro ⟨e, q⟩
    refine List.ext_getElem e fun j h1 h2 => ?_
    have := q j h1
    simpa [List.getD_eq_getElem?_getD, h1, h2] using this
  · rintro rfl
    exact ⟨rfl, fun _ _ => rfl⟩
/-- **equals(Object) OF TWO SUCH STRINGS**: 1 just where the chars are the same -/
theorem eqW {p : Program} {l : Launch} {e : Env} {R : Room} {s : State} {args : Array Value} {below : List Frame} {len W : Nat} {Z : State} {a0 : Array Value} {h : Heap} (hZ : Z.Warmed39 s.vm) (hw : ∀ d ∈ wordsEq, d.before a0 Z = true) {kI : Nat} (wi : (Jvm.Cond.instantiable ST kI).before a0 Z = true)
    {x t : Addr} {kb : ClassId} {cs : List Int32} {cd N2 : Int32} {vs : List Value} (E : RoadKit.Exa Z h x ST) (V : RoadKit.Fld Z h x ST "value" "[B" (.ref t)) (C : RoadKit.Fld Z h x ST "coder" "B" (.int cd)) (K : RoadKit.Arv Z h t kb .byte N2 vs (.int 0)) (hc : CodA cs cd N2 vs) (hb : ∀ c ∈ cs, ¬ c < 0 ∧ ¬ (65535 : Int32) < c) (l2 : cs.length ≤ 4000)
    {y t' : Addr} {kb' : ClassId} {ds : List Int32} {cd' N2' : Int32} {vs' : List Value} (E' : RoadKit.Exa Z h y ST) (V' : RoadKit.Fld Z h y ST "value" "[B" (.ref t')) (C' : RoadKit.Fld Z h y ST "coder" "B" (.int cd')) (K' : RoadKit.Arv Z h t' kb' .byte N2' vs' (.int 0)) (hc' : CodA ds cd' N2' vs') (hb' : ∀ c ∈ ds, ¬ c < 0 ∧ ¬ (65535 : Int32) < c) (l2' : ds.length ≤ 4000)
    {z : Int32} (S : RoadKit.Sta Z h ST "COMPACT_STRINGS" "Z" (.int z)) (hz : ¬ z = 0) (hfr : 2 ≤ R.frames) (hlo : W + 28 ≤ R.locals) :
    Back l R p e below s args (⟨"java/lang/String", "equals", "(Ljava/lang/Object;)Z"⟩ : MethodName) len W (fun P a => a = #[.ref x, .ref y] ∧ P.U.heap = h ∧ P.cells + 0 ≤ R.cells ∧ P.slots + 0 ≤ R.slots)
      (fun P _ v B => ∃ L, (((v = some (.int 1) ∧ cs = ds) ∨ (v = some (.int 0) ∧ ¬ cs = ds)) ∧ L = [] ∧ B.U.heap = h) ∧ B.locs = P.locs ++ L ∧ B.cells = P.cells + 0 ∧ B.slots = P.slots + 0) := by
  intro m meth c P g ig mk a X hg hsize hdg hW hn hp'
  obtain ⟨rfl, rfl, r1, r2⟩ := hp'
  have al : Z.vm.Alike P.U.vm := hZ.alike.trans X.warmed.alike
  obtain ⟨A, hx⟩ := txt_of wi al E V C K hc hb l2
  obtain ⟨A', hy⟩ := txt_of wi al E' V' C' K' hc' hb' l2'
  obtain ⟨v, B, X', ⟨⟨w, hv, hh, hq⟩, hl, hk, hs⟩, st⟩ := SEq.pays x t A cd cs.length (fun j => cs.getD j 0) y t' A' cd' ds.length (fun j => ds.getD j 0) z (tabEq_of (movedEq hZ hw)) hfr hlo m meth c P g ig mk _ X hg hsize hdg hW hn ⟨r1, r2, rfl, hx, hy, sta_is al S, hz⟩
  refine ⟨v, B, X', ⟨[], ⟨?_, rfl, hh⟩, hl, hk, hs⟩, st⟩
  rcases hq with ⟨rfl, q⟩ | ⟨rfl, q⟩
  · exact Or.inl ⟨hv, (same_list cs ds).mp q⟩
  · exact Or.inr ⟨hv, fun e => q ((same_list cs ds).mpr e)⟩
end StrChars.Road
namespace StrChars.Road
open Jvm Sem ClassFile Op Lib Jvm.Stand Jvm.Free Jvm.Free.XT
open Jvm.Lib.Cold (StaticIs)
/-- what backV says of its String, as the contracts of this text ask it: cs's low bytes, coder 0 -/
theorem codOf {cs : List Int32} {n : Nat} (hn : cs.length = n) (hb : ∀ c ∈ cs, ¬ 255 < c) : CodA cs 0 (Int32.ofNat n) ((cs.map lo8).map Value.int) := Or.inl ⟨rfl, by rw [hn], by simp [List.map_map, Function.comp_def], hb⟩
end StrChars.Road
end Jvm.Pilot.@@N@@
namespace Jvm.Pilot.@@N@@
open Jvm Jvm.ClassFile Sem Op Lib Jvm.Free Jvm.Stand Jvm.LawKit Jvm.RoadKit Bundle Jvm.Pilot.@@N@@.Jvm.D
theorem own_rep (n : Nat) (dv : Value) : ∀ i, (List.replicate n dv).getD i dv = dv := fun i => by
  rw [List.getD_eq_getElem?_getD, List.getElem?_replicate]; split <;> rfl
theorem own_cat {v : Value} (h : v.isRef = true) : v.category = 1 := by rcases ref_cases h with rfl | ⟨_, rfl⟩ <;> rfl
theorem own_narR {t : FieldType} {v : Value} (ht : t.isReference = true) (h : v.isRef = true) : narrow t v = v := by
  rcases ref_cases h with rfl | ⟨_, rfl⟩ <;> cases t <;> first | rfl | cases ht
theorem own_and255 (x : Int32) : ¬ (x &&& 255) < 0 ∧ ¬ (255 : Int32) < (x &&& 255) := by
  have t : ∀ k : Fin 256, ¬ (Int32.ofNat k.val) < 0 ∧ ¬ (255 : Int32) < (Int32.ofNat k.val) := by decide +kernel
  have h : (x &&& 255).toBitVec.toNat < 256 := by
    simp only [Int32.toBitVec_and, BitVec.toNat_and]
    exact Nat.lt_succ_of_le Nat.and_le_right
  have e : (x &&& 255) = Int32.ofNat (x &&& 255).toBitVec.toNat := by
    apply Int32.toBitVec_inj.mp
    show _ = BitVec.ofNat 32 _
    rw [BitVec.ofNat_toNat]; simp
  rw [e]
  exact t ⟨_, h⟩
theorem own_nc (x : Int32) : (Value.int (nar .char (x &&& 255))) = .int (x &&& 255) := congrArg Value.int (i2c_mask x)
theorem own_fc (x : Int32) : fits .char (.int (x &&& 255)) = true := own_nc x ▸ fits_nar_char (x &&& 255)
theorem own_up (cs : List Int32) (h : ∀ c ∈ cs, ¬ c < 0 ∧ ¬ (255 : Int32) < c) : ∀ c ∈ cs, ¬ c < 0 ∧ ¬ (65535 : Int32) < c := fun c hc => ⟨(h c hc).1, fun q => (h c hc).2 (by rw [Int32.lt_iff_toInt_lt] at q ⊢; have e1 : (65535 : Int32).toInt = 65535 := rfl; have e2 : (255 : Int32).toInt = 255 := rfl; omega)⟩
theorem own_all0 {P : Int32 → Prop} : ∀ c ∈ ([] : List Int32), P c := fun _ q => nomatch q
theorem own_allS {P : Int32 → Prop} {y : Int32} {L : List Int32} (q : P y) (r : ∀ x ∈ L, P x) : ∀ x ∈ y :: L, P x := fun x z => (List.mem_cons.mp z).elim (fun u => u ▸ q) (r x)
theorem own_n0 {Z : State} {n0 : Nat} {h : Heap} (O : Old Z n0 h) : n0 ≤ h.size := Nat.le_trans (Nat.le_of_eq O.1.symm) O.2.1
theorem own_mvMN {Z s : State} {a0 args : Array Value} {own host : String} {idx : Nat} {y : MethodName} (hZ : Z.Warmed39 s.vm) (w : (Jvm.Cond.methodLinkNest own idx y host).before a0 Z = true) : (Jvm.Cond.methodLinkNest own idx y host).before args s = true := (Cond.methodLinkNest_wide hZ w :)
theorem own_i2cE {x : Int32} (h : ¬ x < 0) (h2 : ¬ (65535 : Int32) < x) : x.toUInt32.toUInt16.toUInt32.toInt32 = x := by
  have e1 : (65535 : Int32).toInt = 65535 := rfl
  simp only [Int32.lt_iff_toInt_lt, Int32.toInt_zero, e1] at h h2
  have hn : x.toBitVec.toNat < 65536 := by
    have q : x.toBitVec.toInt = x.toInt := rfl
    rw [BitVec.toInt_eq_toNat_cond] at q
    have := x.toBitVec.isLt
    split at q <;> omega
  apply Int32.toBitVec_inj.mp
  apply BitVec.eq_of_toNat_eq
  show ((x.toBitVec.setWidth 16).setWidth 32).toNat = _
  rw [BitVec.toNat_setWidth, BitVec.toNat_setWidth]
  omega
theorem own_ncW {x : Int32} (h : ¬ x < 0) (h2 : ¬ (65535 : Int32) < x) : (Value.int (nar .char x)) = .int x := congrArg Value.int (own_i2cE h h2)
theorem own_fcW {x : Int32} (h : ¬ x < 0) (h2 : ¬ (65535 : Int32) < x) : fits .char (.int x) = true := own_ncW h h2 ▸ fits_nar_char x
theorem own_up1 {x : Int32} (h : ¬ x < 0 ∧ ¬ (255 : Int32) < x) : ¬ x < 0 ∧ ¬ (65535 : Int32) < x := own_up [x] (own_allS h own_all0) x (by simp)
theorem own_ncB {x : Int32} (h : ¬ x < 0 ∧ ¬ (255 : Int32) < x) : (Value.int (nar .char x)) = .int x := own_ncW (own_up1 h).1 (own_up1 h).2
theorem own_fcB {x : Int32} (h : ¬ x < 0 ∧ ¬ (255 : Int32) < x) : fits .char (.int x) = true := own_fcW (own_up1 h).1 (own_up1 h).2
theorem own_narC {x : Int32} (h : ¬ x < 0 ∧ ¬ (65535 : Int32) < x) : narrow .char (.int x) = .int x := congrArg Value.int (own_i2cE h.1 h.2)
def own_Mine (Z : State) (EL : List (String × Nat)) (n0 : Nat) (vm : Vm) (h : Heap) (ms : List Addr) : Prop := ∀ x ∈ ms, n0 ≤ x ∧ x < h.size ∧ Safe Z EL vm h x
def own_Go (Z : State) (EL : List (String × Nat)) (n0 : Nat) (p : Program) (e : Env) (below : List Frame) (s : State) (k n : Nat) (Q : Option Value → Heap → List Addr → Prop) (cur : State) : Prop :=
  ∃ s₂ o, Steps p.tables e below cur s₂ ∧ s₂.status = .running ∧ Ended s₂ below o ∧ ∃ v L ms, o = .returned v ∧ Q v s₂.heap ms ∧ Fr n0 L ∧ Old Z n0 s₂.heap ∧ own_Mine Z EL n0 s₂.vm s₂.heap ms ∧ CHr Z EL s.vm s.heap s₂.vm s₂.heap ∧ ReturnedEndW s o s₂ L k n
def own_Ct (l : Launch) (Z : State) (EL : List (String × Nat)) (n0 : Nat) (y : MethodName) (bytes : ByteArray) (maxL : Nat) (ret : Option FieldType) (ws : List Jvm.Cond) (rm : Room) (as' : Array Value) (h0 : Heap) (ms0 : List Addr) (Q : Option Value → Heap → List Addr → Prop) : Prop :=
  MetFree l y (head1 (Jvm.Cond.code y bytes maxL ret :: ws) rm) (fun a U => a = as' ∧ Z.Warmed39 U.vm ∧ U.heap = h0 ∧ CHv Z EL U.vm h0 ∧ own_Mine Z EL n0 U.vm h0 ms0) (fun _ _ _ _ _ => True)
    (fun _ U o U' => ∃ v L ms, o = .returned v ∧ Q v U'.heap ms ∧ Fr n0 L ∧ Old Z n0 U'.heap ∧ own_Mine Z EL n0 U'.vm U'.heap ms ∧ CHr Z EL U.vm U.heap U'.vm U'.heap ∧ ReturnedEndW U o U' L rm.cells rm.slots)
def own_Wk (Z : State) (EL : List (String × Nat)) (n0 : Nat) (own : String) (bytes : ByteArray) (maxL : Nat) (ret : Option FieldType) (nm : String) (p : Program) (l : Launch) (e : Env) (R : Room) (s : State) (m : MethodId) (args : Array Value) (below : List Frame) (meth : Method) (c : Code)
    (T : State) (ms : List Addr) (k n : Nat) (h : Heap) : Prop :=
  p.tables.exec = Jvm.exec ∧ c.code = bytes ∧ c.maxLocals = maxL ∧ meth.sig.returnType = ret ∧ meth.locks = false ∧ meth.name = nm ∧
  ∃ (locs : List Loc) (vm0 : Vm) (k0 : Nat) (a1 : Array Value), Stand p l e R (s.setVm vm0) m args below meth c T locs k n ∧ T.heap = h ∧ Z.Warmed39 vm0 ∧ vm0.findClass own = some m.cls ∧ Fr n0 locs ∧ Old Z n0 h ∧ own_Mine Z EL n0 vm0 h ms ∧ s.Since vm0 k0 ∧ k0 ≤ h.size ∧ CHr Z EL s.vm s.heap vm0 h ∧ EW Z a1 EL
section OwnKit
variable {Z : State} {EL : List (String × Nat)} {n0 : Nat} {own : String} {bytes : ByteArray} {maxL : Nat} {ret : Option FieldType} {nm : String} {p : Program} {l : Launch} {e : Env} {R : Room} {s : State} {m : MethodId} {args : Array Value} {below : List Frame} {meth : Method} {c : Code}
  {T : State} {ms : List Addr} {k n : Nat} {h : Heap} {a0 : Array Value} {K N : Nat} {Q : Option Value → Heap → List Addr → Prop} {pc pc' : Nat} {Ls Ls' : Array Slot} {st : List Value} {a : Addr}
theorem own_go {cur nxt : State} (q : ∀ t, Steps p.tables e below nxt t → Steps p.tables e below cur t) (g : own_Go Z EL n0 p e below s K N Q nxt) : own_Go Z EL n0 p e below s K N Q cur := by
  obtain ⟨s₂, o, h, r⟩ := g; exact ⟨s₂, o, q _ h, r⟩
theorem own_here (w : own_Wk Z EL n0 own bytes maxL ret nm p l e R s m args below meth c T ms k n h) : At T m c below := by
  obtain ⟨-, -, -, -, -, -, locs, vm0, k0, a1, X, -⟩ := w; exact X.here
theorem own_dec (w : own_Wk Z EL n0 own bytes maxL ret nm p l e R s m args below meth c T ms k n h) {r : Except DecodeError (Instr × Nat)} (hd : decode bytes pc = r) : decode c.code pc = r := w.2.1 ▸ hd
theorem own_old (w : own_Wk Z EL n0 own bytes maxL ret nm p l e R s m args below meth c T ms k n h) : Old Z n0 h := by
  obtain ⟨-, -, -, -, -, -, locs, vm0, k0, a1, -, -, -, -, -, O, -⟩ := w; exact O
theorem own_mine (w : own_Wk Z EL n0 own bytes maxL ret nm p l e R s m args below meth c T ms k n h) : ∀ x ∈ ms, n0 ≤ x ∧ x < h.size := by
  obtain ⟨-, -, -, -, -, -, locs, vm0, k0, a1, -, -, -, -, -, -, M, -⟩ := w; exact fun x hx => ⟨(M x hx).1, (M x hx).2.1⟩
theorem own_more (w : own_Wk Z EL n0 own bytes maxL ret nm p l e R s m args below meth c T ms k n h) {k' n' : Nat} {ms' : List Addr} (hk : k ≤ k') (hn : n ≤ n') (hm : ∀ x ∈ ms', x ∈ ms) : own_Wk Z EL n0 own bytes maxL ret nm p l e R s m args below meth c T ms' k' n' h := by
  obtain ⟨h1, h2, h3, h4, h5, h6, locs, vm0, k0, a1, X, h7, h8, h9, h10, h11, M, r⟩ := w
  exact ⟨h1, h2, h3, h4, h5, h6, locs, vm0, k0, a1, X.more hk hn, h7, h8, h9, h10, h11, fun x hx => M x (hm x hx), r⟩
theorem own_enter {y : MethodName} {ws : List Jvm.Cond} {rm : Room} {as' : Array Value} {h0 : Heap} {ms0 : List Addr} (hp : plainFor y = true) (hE : EW Z a0 EL) (O : Old Z n0 h0)
    (body : ∀ p e s m below meth c T, own_Wk Z EL n0 y.cls bytes maxL ret y.name p l e rm s m as' below meth c T ms0 0 0 h0 → own_Go Z EL n0 p e below s rm.cells rm.slots Q (T.setTop (entryFrame m as' maxL))) :
    own_Ct l Z EL n0 y bytes maxL ret ws rm as' h0 ms0 Q := by
  refine MetFree.of_bodySF hp hisR ?_
  intro p e s m args below meth c s₁ Bd hml hP _
  obtain ⟨rfl, hZ, hh, hC, hM⟩ := hP
  have e0 : s₁.heap = h0 := by rw [← hh, Bd.state]; rfl
  subst hh
  exact body p e s m below meth c s₁ ⟨Bd.exec, Bd.bytes, hml, Bd.returns, Bd.notSynchronized, (name_of_methodNamed Bd.named Bd.method).1, [], s.vm, 0, a0, Stand.of_body Bd, e0, hZ, findClass_of_methodNamed Bd.named, Fr.nil n0, O, hM, (State.WarmedH.refl s).since 0, Nat.zero_le _, CHr.refl hC, hE⟩
theorem own_core (w : own_Wk Z EL n0 own bytes maxL ret nm p l e R s m args below meth c T ms k n h) {k' n' : Nat} {ws : List Addr} {F : JFrame} {P : Heap → List Addr → JFrame → Prop} (hws : ∀ x ∈ ws, x ∈ ms)
    (f : ∀ (s' : State) (locs : List Loc), Stand p l e R s' m args below meth c T locs k n → T.heap = h → Z.Warmed39 s'.vm → s'.vm.findClass own = some m.cls →
      ∃ (T' : State) (h' : Heap) (L : List Loc) (new : List Addr) (F' : JFrame), Stand p l e R s' m args below meth c T' (locs ++ L) k' n' ∧ T'.heap = h' ∧ Keep h h' ws ∧ Fr n0 L ∧ (∀ x ∈ new, h.size ≤ x ∧ x < h'.size) ∧ P h' new F' ∧ ∀ t, Steps p.tables e below (T'.setTop F') t → Steps p.tables e below (T.setTop F) t)
    (g : ∀ (T' : State) (h' : Heap) (new : List Addr) (F' : JFrame), own_Wk Z EL n0 own bytes maxL ret nm p l e R s m args below meth c T' (new ++ ms) k' n' h' → Keep h h' ws → P h' new F' → own_Go Z EL n0 p e below s K N Q (T'.setTop F')) : own_Go Z EL n0 p e below s K N Q (T.setTop F) := by
  obtain ⟨h1, h2, h3, h4, h5, h6, locs, vm0, k0, a1, X, eT, hZ, hown, Nf, O, M, hS, hk0, hC, hEW⟩ := w
  obtain ⟨T', h', L, new, F', X', e', Kp, NL, hnew, hP, st'⟩ := f (s.setVm vm0) locs X eT hZ hown
  have hsf : ∀ x ∈ ws, Safe Z EL vm0 h x := fun x hx => (M x (hws x hx)).2.2
  refine own_go st' (g T' h' new F' ⟨h1, h2, h3, h4, h5, h6, locs ++ L, vm0, k0, a1, X', e', hZ, hown, Nf.app NL, O.keep Kp (fun x hx => (M x (hws x hx)).1), fun x hx => ?_, hS, Nat.le_trans hk0 Kp.1, hC.trans (CHr.keep Kp hsf hC.1), hEW⟩ Kp hP)
  rcases List.mem_append.mp hx with q | q
  · refine ⟨Nat.le_trans (Nat.le_trans (Nat.le_of_eq O.1.symm) O.2.1) (hnew x q).1, (hnew x q).2, fun B => ?_⟩
    obtain ⟨cell, z⟩ := ((hC.1.keepStep Kp hsf).2 x B).there
    exact absurd (Array.getElem?_eq_some_iff.mp z).1 (Nat.not_lt.mpr (hnew x q).1)
  · exact ⟨(M x q).1, Nat.lt_of_lt_of_le (M x q).2.1 Kp.1, (M x q).2.2.keep Kp hsf hC.1⟩
theorem own_coreL (w : own_Wk Z EL n0 own bytes maxL ret nm p l e R s m args below meth c T ms k n h) {k' n' : Nat} {ws : List Addr} {F : JFrame} {P : Heap → List Addr → JFrame → Prop} (hws : ∀ x ∈ ws, x ∈ ms)
    (f : ∀ (s' : State) (locs : List Loc), Stand p l e R s' m args below meth c T locs k n → T.heap = h → Z.Warmed39 s'.vm → s'.vm.findClass own = some m.cls → Fr n0 locs →
      ∃ (T' : State) (h' : Heap) (L : List Loc) (new : List Addr) (F' : JFrame), Stand p l e R s' m args below meth c T' L k' n' ∧ T'.heap = h' ∧ Keep h h' ws ∧ Fr n0 L ∧ (∀ x ∈ new, h.size ≤ x ∧ x < h'.size) ∧ P h' new F' ∧ ∀ t, Steps p.tables e below (T'.setTop F') t → Steps p.tables e below (T.setTop F) t)
    (g : ∀ (T' : State) (h' : Heap) (new : List Addr) (F' : JFrame), own_Wk Z EL n0 own bytes maxL ret nm p l e R s m args below meth c T' (new ++ ms) k' n' h' → Keep h h' ws → P h' new F' → own_Go Z EL n0 p e below s K N Q (T'.setTop F')) : own_Go Z EL n0 p e below s K N Q (T.setTop F) := by
  obtain ⟨h1, h2, h3, h4, h5, h6, locs, vm0, k0, a1, X, eT, hZ, hown, Nf, O, M, hS, hk0, hC, hEW⟩ := w
  obtain ⟨T', h', L, new, F', X', e', Kp, NL, hnew, hP, st'⟩ := f (s.setVm vm0) locs X eT hZ hown Nf
  have hsf : ∀ x ∈ ws, Safe Z EL vm0 h x := fun x hx => (M x (hws x hx)).2.2
  refine own_go st' (g T' h' new F' ⟨h1, h2, h3, h4, h5, h6, L, vm0, k0, a1, X', e', hZ, hown, NL, O.keep Kp (fun x hx => (M x (hws x hx)).1), fun x hx => ?_, hS, Nat.le_trans hk0 Kp.1, hC.trans (CHr.keep Kp hsf hC.1), hEW⟩ Kp hP)
  rcases List.mem_append.mp hx with q | q
  · refine ⟨Nat.le_trans (Nat.le_trans (Nat.le_of_eq O.1.symm) O.2.1) (hnew x q).1, (hnew x q).2, fun B => ?_⟩
    obtain ⟨cell, z⟩ := ((hC.1.keepStep Kp hsf).2 x B).there
    exact absurd (Array.getElem?_eq_some_iff.mp z).1 (Nat.not_lt.mpr (hnew x q).1)
  · exact ⟨(M x q).1, Nat.lt_of_lt_of_le (M x q).2.1 Kp.1, (M x q).2.2.keep Kp hsf hC.1⟩
theorem own_pure (w : own_Wk Z EL n0 own bytes maxL ret nm p l e R s m args below meth c T ms k n h) {F F' : JFrame} (f : ∀ (s' : State) (locs : List Loc), Stand p l e R s' m args below meth c T locs k n → T.heap = h → Z.Warmed39 s'.vm → s'.vm.findClass own = some m.cls → ∀ t, Steps p.tables e below (T.setTop F') t → Steps p.tables e below (T.setTop F) t) (g : own_Go Z EL n0 p e below s K N Q (T.setTop F')) : own_Go Z EL n0 p e below s K N Q (T.setTop F) := by
  obtain ⟨h1, h2, h3, h4, h5, h6, locs, vm0, k0, a1, X, eT, hZ, hown, -⟩ := w
  exact own_go (f (s.setVm vm0) locs X eT hZ hown) g
theorem own_retV (w : own_Wk Z EL n0 own bytes maxL ret nm p l e R s m args below meth c T ms k n h) {t : FieldType} {i : Instr} {v : Value} (hret : ret = some t) (hv : narrow t v = v)
    (hi : (i = .ireturn ∧ (t = .int ∨ t = .boolean ∨ t = .byte ∨ t = .char ∨ t = .short) ∧ ∃ z, v = .int z) ∨ (i = .lreturn ∧ t = .long ∧ ∃ z, v = .long z) ∨ (i = .dreturn ∧ t = .double ∧ ∃ z, v = .double z) ∨ (i = .freturn ∧ t = .float ∧ ∃ z, v = .float z) ∨ (i = .areturn ∧ t.isReference = true ∧ v.isRef = true))
    (hd : decode bytes pc = .ok (i, 1)) (hk : k ≤ K) (hn : n ≤ N) {ms' : List Addr} (hm : ∀ x ∈ ms', x ∈ ms) (hQ : Q (some v) h ms') : own_Go Z EL n0 p e below s K N Q (T.setTop (mkF m pc Ls (v :: st))) := by
  obtain ⟨h1, h2, h3, h4, h5, h6, locs, vm0, k0, a1, X, eT, hZ, hown, Nf, O, M, hS, hk0, hC, hEW⟩ := w
  subst eT
  obtain ⟨fs, hr, hrun, hended, hEnd⟩ := X.leaveW hS hk0 (v := some v) (fun q => by rw [h4, hret] at q; cases q) h5
  have A := CHv.at X hZ hEW hC.1
  exact ⟨_, _, retOut X h1 (h4.trans hret) hv hi (h2 ▸ hd) hr, hrun, hended, _, locs, ms', rfl, hQ, Nf, O, fun x hx => ⟨(M x (hm x hx)).1, (M x (hm x hx)).2.1, A.safe (M x (hm x hx)).2.1 (M x (hm x hx)).2.2⟩, hC.trans A, ⟨_, rfl⟩, hEnd.2.1, hEnd.2.2.1, hEnd.2.2.2.mono hk hn⟩
theorem own_ret0 (w : own_Wk Z EL n0 own bytes maxL ret nm p l e R s m args below meth c T ms k n h) (hret : ret = none) (hd : decode bytes pc = .ok (.return_, 1)) (hk : k ≤ K) (hn : n ≤ N) {ms' : List Addr} (hm : ∀ x ∈ ms', x ∈ ms) (hQ : Q none h ms') : own_Go Z EL n0 p e below s K N Q (T.setTop (mkF m pc Ls [])) := by
  obtain ⟨h1, h2, h3, h4, h5, h6, locs, vm0, k0, a1, X, eT, hZ, hown, Nf, O, M, hS, hk0, hC, hEW⟩ := w
  subst eT
  obtain ⟨fs, hr, hrun, hended, hEnd⟩ := X.leaveW hS hk0 (v := none) (fun _ => rfl) h5
  have A := CHv.at X hZ hEW hC.1
  exact ⟨_, _, X.returnOut h1 (h4.trans hret) (h2 ▸ hd) hr, hrun, hended, _, locs, ms', rfl, hQ, Nf, O, fun x hx => ⟨(M x (hm x hx)).1, (M x (hm x hx)).2.1, A.safe (M x (hm x hx)).2.1 (M x (hm x hx)).2.2⟩, hC.trans A, ⟨_, rfl⟩, hEnd.2.1, hEnd.2.2.1, hEnd.2.2.2.mono hk hn⟩
theorem own_back {y : MethodName} {bytes' : ByteArray} {maxL' : Nat} {ret' : Option FieldType} {rm' : Room} {as' : Array Value} {ms0 : List Addr} {Q' : Option Value → Heap → List Addr → Prop} {len W : Nat} {vm0 : Vm} {a1 : Array Value}
    (ct : own_Ct l Z EL n0 y bytes' maxL' ret' [] rm' as' h ms0 Q') (hZ : Z.Warmed39 vm0) (wc : (Jvm.Cond.code y bytes' maxL' ret').before a0 Z = true) (wz : (Jvm.Cond.initialized y.cls).before a0 Z = true) (hM : own_Mine Z EL n0 vm0 h ms0) (hf : rm'.frames + 1 ≤ R.frames) (hl : W + (maxL' + 11) + rm'.locals ≤ R.locals) (hEL : EW Z a1 EL) (H : CHv Z EL vm0 h) :
    BackS l R p e below (s.setVm vm0) args y len W (fun A a => a = as' ∧ A.U.heap = h ∧ A.cells + rm'.cells ≤ R.cells ∧ A.slots + rm'.slots ≤ R.slots)
      (fun A _ v B => ∃ L ms', Q' v B.U.heap ms' ∧ Fr n0 L ∧ Old Z n0 B.U.heap ∧ own_Mine Z EL n0 B.U.vm B.U.heap ms' ∧ CHr Z EL vm0 h B.U.vm B.U.heap ∧ B.locs = A.locs ++ L ∧ B.cells = A.cells + rm'.cells ∧ B.slots = A.slots + rm'.slots) :=
  BackS.of_freeW (bytes := bytes') (maxL := maxL') (ret := ret') (E := fun _ first o t L k n => k = rm'.cells ∧ n = rm'.slots ∧ (∃ v ms', o = .returned v ∧ Q' v t.heap ms' ∧ Fr n0 L ∧ Old Z n0 t.heap ∧ own_Mine Z EL n0 t.vm t.heap ms') ∧ CHr Z EL first.vm first.heap t.vm t.heap) ct hf hl
    (fun m meth c A a Y hp => have hU : Z.Warmed39 A.U.vm := wtrans (s := s.setVm vm0) hZ Y.warmed
      ⟨by show (Jvm.Cond.and _ .tt).before a A.U = true; rw [Cond.before_and, mv hU wc]; rfl, mv hU wc, mv hU wz, hp.2.2.1, hp.2.2.2⟩)
    (fun m meth c A a g mk Y hp => ⟨hp.1, wtrans (s := s.setVm vm0) hZ Y.warmed, hp.2.1, (CHv.at Y hZ hEL H).1, fun x hx => ⟨(hM x hx).1, (hM x hx).2.1, (CHv.at Y hZ hEL H).safe (hM x hx).2.1 (hM x hx).2.2⟩⟩) (fun _ _ _ _ _ _ _ _ _ => trivial)
    (fun _ _ _ _ ⟨v, L, ms', h1, h2, h3, h4, h5, h6, h7⟩ => ⟨L, _, _, h7, rfl, rfl, ⟨v, ms', h1, h2, h3, h4, h5⟩, h6⟩)
    (fun m meth c A a g mk v t L k n Y hp _ _ ⟨e1, e2, ⟨v', ms', e3, e4, e5, e6, e7⟩, e8⟩ => by
      cases e3; subst e1 e2
      refine ⟨L, ms', e4, e5, e6, e7, (CHv.at Y hZ hEL H).trans ?_, rfl, rfl, rfl⟩
      rw [← hp.2.1]; exact e8)
theorem own_callS (w : own_Wk Z EL n0 own bytes maxL ret nm p l e R s m args below meth c T ms k n h) {idx : Nat} {y : MethodName} {bytes' : ByteArray} {maxL' : Nat} {ret' : Option FieldType} {rm' : Room} {argsL rest : List Value} {ms0 : List Addr} {Q' : Option Value → Heap → List Addr → Prop} {ps : List FieldType} {rt : Option FieldType}
    (wl : (Jvm.Cond.methodLink own idx y).before a0 Z = true) (wt : (Jvm.Cond.static y).before a0 Z = true) (wz : (Jvm.Cond.initialized y.cls).before a0 Z = true) (wc : (Jvm.Cond.code y bytes' maxL' ret').before a0 Z = true) (hy : y.cls ≠ "java/lang/invoke/MethodHandle" ∧ y.cls ≠ "java/lang/invoke/VarHandle")
    (ct : own_Ct l Z EL n0 y bytes' maxL' ret' [] rm' argsL.toArray h ms0 Q') (hms : ∀ x ∈ ms0, x ∈ ms) (hst : st = argsL.reverse ++ rest) (hsz : Ls.size = maxL) (hpd : parseMethodDescriptor y.desc = some ⟨ps, rt⟩) (hln : argsL.length = ps.length) (hd : decode bytes pc = .ok (.invokestatic idx, 3)) (hp : pc + 3 = pc')
    (hf : rm'.frames + 1 ≤ R.frames) {W : Nat} (hW : (rest.map fun v => v.category).sum = W) (hl : W + (maxL' + 11) + rm'.locals ≤ R.locals) (hc : k + rm'.cells ≤ R.cells) (hn : n + rm'.slots ≤ R.slots)
    (g : ∀ (T' : State) (h' : Heap) (v : Option Value) (ms' : List Addr), own_Wk Z EL n0 own bytes maxL ret nm p l e R s m args below meth c T' (ms' ++ ms) (k + rm'.cells) (n + rm'.slots) h' → Q' v h' ms' → own_Go Z EL n0 p e below s K N Q (T'.setTop (mkF m pc' Ls (v.toList ++ rest)))) :
    own_Go Z EL n0 p e below s K N Q (T.setTop (mkF m pc Ls st)) := by
  subst hp hst
  obtain ⟨h1, h2, h3, h4, h5, h6, locs, vm0, k0, a1, X, eT, hZ, hown, Nf, O, M, hS, hk0, hC, hEW⟩ := w
  have hZ0 : Z.Warmed39 (s.setVm vm0).vm := hZ
  obtain ⟨v, _, ⟨T', L', k', n'⟩, -, X', hS2, hgr, ⟨L, ms', hQ, NL, O', M', C', l1, l2, l3⟩, st'⟩ := callSS X h1 (y := y) hown (mvT hZ0 wl) (mvT hZ0 wt) (mvT hZ0 wz) (mvT hZ0 wc) hy (own_back (s := s) (W := W) ct hZ wc wz (fun x hx => M x (hms x hx)) hf hl hEW hC.1) (g := mkF m pc Ls (argsL.reverse ++ rest)) rfl (by rw [h3]; exact hsz) (argsL := argsL) (rest := rest) (lenOf hpd hln) rfl (by show 2 * 0 + _ ≤ _; rw [hW]; omega) (h2 ▸ hd) (fun _ _ => ⟨rfl, eT, hc, hn⟩)
  dsimp only [Pt.U, Pt.locs, Pt.cells, Pt.slots] at X' hS2 hgr hQ O' M' C' l1 l2 l3 st'
  subst l1 l2 l3
  refine own_go (fun _ q => st'.trans q) (g T' _ v ms' ⟨h1, h2, h3, h4, h5, h6, locs ++ L, T'.vm, T'.heap.size, a1, X', rfl, State.Warmed39.trans (t := s.setVm vm0) hZ hS2.1, by rw [hS2.1.alike.findClass]; exact hown, Nf.app NL, O', fun x hx => ?_, hS.trans hS2 (Nat.le_trans hk0 (by rw [← eT]; exact hgr)), Nat.le_refl _, hC.trans C', hEW⟩ hQ)
  rcases List.mem_append.mp hx with q | q
  · exact M' x q
  · exact ⟨(M x q).1, Nat.lt_of_lt_of_le (M x q).2.1 C'.2.1, C'.safe (M x q).2.1 (M x q).2.2⟩
theorem own_callI (w : own_Wk Z EL n0 own bytes maxL ret nm p l e R s m args below meth c T ms k n h) {idx : Nat} {y : MethodName} {bytes' : ByteArray} {maxL' : Nat} {rm' : Room} {argsL rest : List Value} {ms0 : List Addr} {Q' : Option Value → Heap → List Addr → Prop} {ps : List FieldType} {rt : Option FieldType}
    (hy1 : y.name = "<init>") (wl : (Jvm.Cond.methodLink own idx y).before a0 Z = true) (wt : (Jvm.Cond.instanceMethod y).before a0 Z = true) (wz : (Jvm.Cond.initialized y.cls).before a0 Z = true) (wc : (Jvm.Cond.code y bytes' maxL' none).before a0 Z = true) (hy : y.cls ≠ "java/lang/invoke/MethodHandle" ∧ y.cls ≠ "java/lang/invoke/VarHandle")
    (ct : own_Ct l Z EL n0 y bytes' maxL' none [] rm' (.ref a :: argsL).toArray h ms0 Q') (hms : ∀ x ∈ ms0, x ∈ ms) (hst : st = argsL.reverse ++ .ref a :: rest) (hsz : Ls.size = maxL) (hpd : parseMethodDescriptor y.desc = some ⟨ps, rt⟩) (hln : argsL.length = ps.length) (hd : decode bytes pc = .ok (.invokespecial idx, 3)) (hp : pc + 3 = pc')
    (hf : rm'.frames + 1 ≤ R.frames) {W : Nat} (hW : (rest.map fun v => v.category).sum = W) (hl : W + (maxL' + 11) + rm'.locals ≤ R.locals) (hc : k + rm'.cells ≤ R.cells) (hn : n + rm'.slots ≤ R.slots)
    (g : ∀ (T' : State) (h' : Heap) (v : Option Value) (ms' : List Addr), own_Wk Z EL n0 own bytes maxL ret nm p l e R s m args below meth c T' (ms' ++ ms) (k + rm'.cells) (n + rm'.slots) h' → Q' v h' ms' → own_Go Z EL n0 p e below s K N Q (T'.setTop (mkF m pc' Ls (v.toList ++ rest)))) :
    own_Go Z EL n0 p e below s K N Q (T.setTop (mkF m pc Ls st)) := by
  subst hp hst
  obtain ⟨h1, h2, h3, h4, h5, h6, locs, vm0, k0, a1, X, eT, hZ, hown, Nf, O, M, hS, hk0, hC, hEW⟩ := w
  have hZ0 : Z.Warmed39 (s.setVm vm0).vm := hZ
  obtain ⟨v, _, ⟨T', L', k', n'⟩, -, X', hS2, hgr, ⟨L, ms', hQ, NL, O', M', C', l1, l2, l3⟩, st'⟩ := X.specialBackS h1 (y := y) hy1 hown (mvT hZ0 wl) (mvT hZ0 wt) (mvT hZ0 wc) hy (own_back (s := s) (W := W) ct hZ wc wz (fun x hx => M x (hms x hx)) hf hl hEW hC.1) (g := mkF m pc Ls (argsL.reverse ++ .ref a :: rest)) rfl (by rw [h3]; exact hsz) (Steps.refl _) (a := a) (argsL := argsL) (rest := rest) (lenOf hpd hln) rfl (by show 2 * 0 + _ ≤ _; rw [hW]; omega) (h2 ▸ hd) (fun _ _ => ⟨rfl, eT, hc, hn⟩)
  dsimp only [Pt.U, Pt.locs, Pt.cells, Pt.slots] at X' hS2 hgr hQ O' M' C' l1 l2 l3 st'
  subst l1 l2 l3
  refine own_go (fun _ q => st'.trans q) (g T' _ v ms' ⟨h1, h2, h3, h4, h5, h6, locs ++ L, T'.vm, T'.heap.size, a1, X', rfl, State.Warmed39.trans (t := s.setVm vm0) hZ hS2.1, by rw [hS2.1.alike.findClass]; exact hown, Nf.app NL, O', fun x hx => ?_, hS.trans hS2 (Nat.le_trans hk0 (by rw [← eT]; exact hgr)), Nat.le_refl _, hC.trans C', hEW⟩ hQ)
  rcases List.mem_append.mp hx with q | q
  · exact M' x q
  · exact ⟨(M x q).1, Nat.lt_of_lt_of_le (M x q).2.1 C'.2.1, C'.safe (M x q).2.1 (M x q).2.2⟩
theorem own_decl {y : MethodName} {bytes' : ByteArray} {maxL' : Nat} {ret' : Option FieldType} (wt : (Jvm.Cond.instanceMethod y).before a0 Z = true) (wc : (Jvm.Cond.code y bytes' maxL' ret').before a0 Z = true) : (Jvm.Cond.declares y).before a0 Z = true := by
  obtain ⟨mk, methM, hn, hm, hst, -⟩ := Cond.instanceMethod_spec wt
  obtain ⟨m2, cM, q1, -, -, -, -, -, -, hsig⟩ := Cond.code_spec hn wc
  cases hm.symm.trans q1
  simp [Cond.before, Cond.holds, Cond.value, hn, hm, hst, hsig]
theorem own_same1 {y y2 z2 : MethodName} {C : String} (wt : (Jvm.Cond.instanceMethod y).before a0 Z = true) (wsel : (Jvm.Cond.selects C y2 z2).before a0 Z = true) (hc : z2.cls = y.cls) (hy : y.cls ≠ "java/lang/invoke/MethodHandle" ∧ y.cls ≠ "java/lang/invoke/VarHandle") : (Jvm.Cond.sameMethod y.cls y.cls y.name y.desc).before a0 Z = true := by
  obtain ⟨mk, methM, hn, hm, hst, -⟩ := Cond.instanceMethod_spec wt
  obtain ⟨c2, r2, m2, -, -, q3, -, kP, hkP, hkPi⟩ := Cond.selects_spec wsel
  have hcn := findClass_of_methodNamed hn
  have hc2 := findClass_of_methodNamed q3
  rw [hc, hcn] at hc2
  have e : mk.cls = m2.cls := Option.some.inj hc2
  have hf := State.methodFound?_of_named hn hy
  have hn' : Z.methodNamed? ⟨y.cls, y.name, y.desc⟩ = some mk := hn
  rw [← e] at hkP
  simp [Cond.before, Cond.holds, Cond.value, hcn, hf, hn', hkP, hkPi]
theorem own_callU (w : own_Wk Z EL n0 own bytes maxL ret nm p l e R s m args below meth c T ms k n h) {idx : Nat} {y : MethodName} {KK : String} {bytes' : ByteArray} {maxL' : Nat} {rm' : Room} {argsL rest : List Value} {ms0 : List Addr} {Q' : Option Value → Heap → List Addr → Prop} {ps : List FieldType} {rt : Option FieldType}
    (hy1 : y.name ≠ "<init>") (wl : (Jvm.Cond.methodLink own idx y).before a0 Z = true) (wt : (Jvm.Cond.instanceMethod y).before a0 Z = true) (w2 : (Jvm.Cond.sameMethod y.cls y.cls y.name y.desc).before a0 Z = true) (w4 : (Jvm.Cond.superclass own y.cls).before a0 Z = true) (F : Ins Z h a KK true) (wz : (Jvm.Cond.initialized y.cls).before a0 Z = true) (wc : (Jvm.Cond.code y bytes' maxL' rt).before a0 Z = true) (hy : y.cls ≠ "java/lang/invoke/MethodHandle" ∧ y.cls ≠ "java/lang/invoke/VarHandle")
    (ct : own_Ct l Z EL n0 y bytes' maxL' rt [] rm' (.ref a :: argsL).toArray h ms0 Q') (hms : ∀ x ∈ ms0, x ∈ ms) (hst : st = argsL.reverse ++ .ref a :: rest) (hsz : Ls.size = maxL) (hpd : parseMethodDescriptor y.desc = some ⟨ps, rt⟩) (hln : argsL.length = ps.length) (hd : decode bytes pc = .ok (.invokespecial idx, 3)) (hp : pc + 3 = pc')
    (hf : rm'.frames + 1 ≤ R.frames) {W : Nat} (hW : (rest.map fun v => v.category).sum = W) (hl : W + (maxL' + 11) + rm'.locals ≤ R.locals) (hc : k + rm'.cells ≤ R.cells) (hn : n + rm'.slots ≤ R.slots)
    (g : ∀ (T' : State) (h' : Heap) (v : Option Value) (ms' : List Addr), own_Wk Z EL n0 own bytes maxL ret nm p l e R s m args below meth c T' (ms' ++ ms) (k + rm'.cells) (n + rm'.slots) h' → Q' v h' ms' → own_Go Z EL n0 p e below s K N Q (T'.setTop (mkF m pc' Ls (v.toList ++ rest)))) :
    own_Go Z EL n0 p e below s K N Q (T.setTop (mkF m pc Ls st)) := by
  subst hp hst
  obtain ⟨h1, h2, h3, h4, h5, h6, locs, vm0, k0, a1, X, eT, hZ, hown, Nf, O, M, hS, hk0, hC, hEW⟩ := w
  have hZ0 : Z.Warmed39 (s.setVm vm0).vm := hZ
  obtain ⟨v, _, ⟨T', L', k', n'⟩, -, X', hS2, hgr, ⟨L, ms', hQ, NL, O', M', C', l1, l2, l3⟩, st'⟩ := superBackS X h1 hZ0 hown wl w2 wt w4 hy1 (own_back (s := s) (W := W) ct hZ wc wz (fun x hx => M x (hms x hx)) hf hl hEW hC.1) eT F (g := mkF m pc Ls (argsL.reverse ++ .ref a :: rest)) rfl (by rw [h3]; exact hsz) wc (argsL := argsL) (rest := rest) (lenOf hpd hln) rfl (by show 2 * 0 + _ ≤ _; rw [hW]; omega) (h2 ▸ hd) (fun _ _ => ⟨rfl, eT, hc, hn⟩)
  dsimp only [Pt.U, Pt.locs, Pt.cells, Pt.slots] at X' hS2 hgr hQ O' M' C' l1 l2 l3 st'
  subst l1 l2 l3
  refine own_go (fun _ q => st'.trans q) (g T' _ v ms' ⟨h1, h2, h3, h4, h5, h6, locs ++ L, T'.vm, T'.heap.size, a1, X', rfl, State.Warmed39.trans (t := s.setVm vm0) hZ hS2.1, by rw [hS2.1.alike.findClass]; exact hown, Nf.app NL, O', fun x hx => ?_, hS.trans hS2 (Nat.le_trans hk0 (by rw [← eT]; exact hgr)), Nat.le_refl _, hC.trans C', hEW⟩ hQ)
  rcases List.mem_append.mp hx with q | q
  · exact M' x q
  · exact ⟨(M x q).1, Nat.lt_of_lt_of_le (M x q).2.1 C'.2.1, C'.safe (M x q).2.1 (M x q).2.2⟩
theorem own_callIN (w : own_Wk Z EL n0 own bytes maxL ret nm p l e R s m args below meth c T ms k n h) {idx : Nat} {y : MethodName} {host : String} {bytes' : ByteArray} {maxL' : Nat} {rm' : Room} {argsL rest : List Value} {ms0 : List Addr} {Q' : Option Value → Heap → List Addr → Prop} {ps : List FieldType} {rt : Option FieldType}
    (hy1 : y.name = "<init>") (wl : (Jvm.Cond.methodLinkNest own idx y host).before a0 Z = true) (wt : (Jvm.Cond.instanceMethod y).before a0 Z = true) (wz : (Jvm.Cond.initialized y.cls).before a0 Z = true) (wc : (Jvm.Cond.code y bytes' maxL' none).before a0 Z = true) (hy : y.cls ≠ "java/lang/invoke/MethodHandle" ∧ y.cls ≠ "java/lang/invoke/VarHandle")
    (ct : own_Ct l Z EL n0 y bytes' maxL' none [] rm' (.ref a :: argsL).toArray h ms0 Q') (hms : ∀ x ∈ ms0, x ∈ ms) (hst : st = argsL.reverse ++ .ref a :: rest) (hsz : Ls.size = maxL) (hpd : parseMethodDescriptor y.desc = some ⟨ps, rt⟩) (hln : argsL.length = ps.length) (hd : decode bytes pc = .ok (.invokespecial idx, 3)) (hp : pc + 3 = pc')
    (hf : rm'.frames + 1 ≤ R.frames) {W : Nat} (hW : (rest.map fun v => v.category).sum = W) (hl : W + (maxL' + 11) + rm'.locals ≤ R.locals) (hc : k + rm'.cells ≤ R.cells) (hn : n + rm'.slots ≤ R.slots)
    (g : ∀ (T' : State) (h' : Heap) (v : Option Value) (ms' : List Addr), own_Wk Z EL n0 own bytes maxL ret nm p l e R s m args below meth c T' (ms' ++ ms) (k + rm'.cells) (n + rm'.slots) h' → Q' v h' ms' → own_Go Z EL n0 p e below s K N Q (T'.setTop (mkF m pc' Ls (v.toList ++ rest)))) :
    own_Go Z EL n0 p e below s K N Q (T.setTop (mkF m pc Ls st)) := by
  subst hp hst
  obtain ⟨h1, h2, h3, h4, h5, h6, locs, vm0, k0, a1, X, eT, hZ, hown, Nf, O, M, hS, hk0, hC, hEW⟩ := w
  have hZ0 : Z.Warmed39 (s.setVm vm0).vm := hZ
  obtain ⟨v, _, ⟨T', L', k', n'⟩, -, X', hS2, hgr, ⟨L, ms', hQ, NL, O', M', C', l1, l2, l3⟩, st'⟩ := X.specialBackNestS h1 (y := y) hy1 hown (own_mvMN hZ0 wl) (mvT hZ0 wt) (mvT hZ0 wc) hy (own_back (s := s) (W := W) ct hZ wc wz (fun x hx => M x (hms x hx)) hf hl hEW hC.1) (g := mkF m pc Ls (argsL.reverse ++ .ref a :: rest)) rfl (by rw [h3]; exact hsz) (Steps.refl _) (a := a) (argsL := argsL) (rest := rest) (lenOf hpd hln) rfl (by show 2 * 0 + _ ≤ _; rw [hW]; omega) (h2 ▸ hd) (fun _ _ => ⟨rfl, eT, hc, hn⟩)
  dsimp only [Pt.U, Pt.locs, Pt.cells, Pt.slots] at X' hS2 hgr hQ O' M' C' l1 l2 l3 st'
  subst l1 l2 l3
  refine own_go (fun _ q => st'.trans q) (g T' _ v ms' ⟨h1, h2, h3, h4, h5, h6, locs ++ L, T'.vm, T'.heap.size, a1, X', rfl, State.Warmed39.trans (t := s.setVm vm0) hZ hS2.1, by rw [hS2.1.alike.findClass]; exact hown, Nf.app NL, O', fun x hx => ?_, hS.trans hS2 (Nat.le_trans hk0 (by rw [← eT]; exact hgr)), Nat.le_refl _, hC.trans C', hEW⟩ hQ)
  rcases List.mem_append.mp hx with q | q
  · exact M' x q
  · exact ⟨(M x q).1, Nat.lt_of_lt_of_le (M x q).2.1 C'.2.1, C'.safe (M x q).2.1 (M x q).2.2⟩
theorem own_callV (w : own_Wk Z EL n0 own bytes maxL ret nm p l e R s m args below meth c T ms k n h) {idx : Nat} {C : String} {y z : MethodName} {bytes' : ByteArray} {maxL' : Nat} {ret' : Option FieldType} {rm' : Room} {argsL rest : List Value} {ms0 : List Addr} {Q' : Option Value → Heap → List Addr → Prop} {ps : List FieldType} {rt : Option FieldType}
    (wl : (Jvm.Cond.methodLink own idx y).before a0 Z = true) (wd : (Jvm.Cond.declares y).before a0 Z = true) (hnf : ∀ s' : State, Z.Warmed39 s'.vm → NotFace s' y) (ws : (Jvm.Cond.selects C y z).before a0 Z = true) (wt : (Jvm.Cond.instanceMethod z).before a0 Z = true) (wz : (Jvm.Cond.initialized z.cls).before a0 Z = true) (wc : (Jvm.Cond.code z bytes' maxL' ret').before a0 Z = true) (hy : y.cls ≠ "java/lang/invoke/MethodHandle" ∧ y.cls ≠ "java/lang/invoke/VarHandle")
    (E : Exa Z h a C) (ct : own_Ct l Z EL n0 z bytes' maxL' ret' [] rm' (.ref a :: argsL).toArray h ms0 Q') (hms : ∀ x ∈ ms0, x ∈ ms) (hst : st = argsL.reverse ++ .ref a :: rest) (hsz : Ls.size = maxL) (hpd : parseMethodDescriptor y.desc = some ⟨ps, rt⟩) (hln : argsL.length = ps.length) (hd : decode bytes pc = .ok (.invokevirtual idx, 3)) (hp : pc + 3 = pc')
    (hf : rm'.frames + 1 ≤ R.frames) {W : Nat} (hW : (rest.map fun v => v.category).sum = W) (hl : W + (maxL' + 11) + rm'.locals ≤ R.locals) (hc : k + rm'.cells ≤ R.cells) (hn : n + rm'.slots ≤ R.slots)
    (g : ∀ (T' : State) (h' : Heap) (v : Option Value) (ms' : List Addr), own_Wk Z EL n0 own bytes maxL ret nm p l e R s m args below meth c T' (ms' ++ ms) (k + rm'.cells) (n + rm'.slots) h' → Q' v h' ms' → own_Go Z EL n0 p e below s K N Q (T'.setTop (mkF m pc' Ls (v.toList ++ rest)))) :
    own_Go Z EL n0 p e below s K N Q (T.setTop (mkF m pc Ls st)) := by
  subst hp hst
  obtain ⟨h1, h2, h3, h4, h5, h6, locs, vm0, k0, a1, X, eT, hZ, hown, Nf, O, M, hS, hk0, hC, hEW⟩ := w
  have hZ0 : Z.Warmed39 (s.setVm vm0).vm := hZ
  obtain ⟨cq, kq, qa, qb, qc⟩ := isOf hZ0 eT E
  obtain ⟨v, _, ⟨T', L', k', n'⟩, -, X', hS2, hgr, ⟨L, ms', hQ, NL, O', M', C', l1, l2, l3⟩, st'⟩ := X.virtualBackS h1 (y := y) (z := z) hown (mvT hZ0 wl) (mvT hZ0 wd) (hnf _ hZ0) (mvT hZ0 ws) (mvT hZ0 wt) hy (own_back (s := s) (W := W) ct hZ wc wz (fun x hx => M x (hms x hx)) hf hl hEW hC.1) qa qc (g := mkF m pc Ls (argsL.reverse ++ .ref a :: rest)) rfl (by rw [h3]; exact hsz) (Steps.refl _) (argsL := argsL) (rest := rest) (lenOf hpd hln) rfl (by show 2 * 0 + _ ≤ _; rw [hW]; omega) (h2 ▸ hd) (fun _ _ => ⟨rfl, eT, hc, hn⟩)
  dsimp only [Pt.U, Pt.locs, Pt.cells, Pt.slots] at X' hS2 hgr hQ O' M' C' l1 l2 l3 st'
  subst l1 l2 l3
  refine own_go (fun _ q => st'.trans q) (g T' _ v ms' ⟨h1, h2, h3, h4, h5, h6, locs ++ L, T'.vm, T'.heap.size, a1, X', rfl, State.Warmed39.trans (t := s.setVm vm0) hZ hS2.1, by rw [hS2.1.alike.findClass]; exact hown, Nf.app NL, O', fun x hx => ?_, hS.trans hS2 (Nat.le_trans hk0 (by rw [← eT]; exact hgr)), Nat.le_refl _, hC.trans C', hEW⟩ hQ)
  rcases List.mem_append.mp hx with q | q
  · exact M' x q
  · exact ⟨(M x q).1, Nat.lt_of_lt_of_le (M x q).2.1 C'.2.1, C'.safe (M x q).2.1 (M x q).2.2⟩
theorem own_ifk {C n d : String} (h : C ≠ "java/lang/invoke/MethodHandle" ∧ C ≠ "java/lang/invoke/VarHandle") : ((Jvm.Cond.interfaceMethod C C n d).onTables && (Jvm.Cond.interfaceMethod C C n d).keepsFace) = true := by
  show (true && (false || (C == C && C != "java/lang/invoke/MethodHandle" && C != "java/lang/invoke/VarHandle"))) = true
  simp [h.1, h.2]
theorem own_callF (w : own_Wk Z EL n0 own bytes maxL ret nm p l e R s m args below meth c T ms k n h) {idx cnt : Nat} {C : String} {y z : MethodName} {bytes' : ByteArray} {maxL' : Nat} {ret' : Option FieldType} {rm' : Room} {argsL rest : List Value} {ms0 : List Addr} {Q' : Option Value → Heap → List Addr → Prop} {ps : List FieldType} {rt : Option FieldType}
    (wl : (Jvm.Cond.methodLink own idx y).before a0 Z = true) (wd : (Jvm.Cond.declares y).before a0 Z = true) (wf : (Jvm.Cond.interfaceMethod y.cls y.cls y.name y.desc).before a0 Z = true) (ws : (Jvm.Cond.selects C y z).before a0 Z = true) (wt : (Jvm.Cond.instanceMethod z).before a0 Z = true) (wp : (Jvm.Cond.publicMethod z).before a0 Z = true) (wu : (Jvm.Cond.unhidden C y.name y.desc).before a0 Z = true) (wk : (Jvm.Cond.castable C y.cls).before a0 Z = true) (wz : (Jvm.Cond.initialized z.cls).before a0 Z = true) (wc : (Jvm.Cond.code z bytes' maxL' ret').before a0 Z = true) (hy : y.cls ≠ "java/lang/invoke/MethodHandle" ∧ y.cls ≠ "java/lang/invoke/VarHandle")
    (E : Exa Z h a C) (ct : own_Ct l Z EL n0 z bytes' maxL' ret' [] rm' (.ref a :: argsL).toArray h ms0 Q') (hms : ∀ x ∈ ms0, x ∈ ms) (hst : st = argsL.reverse ++ .ref a :: rest) (hsz : Ls.size = maxL) (hpd : parseMethodDescriptor y.desc = some ⟨ps, rt⟩) (hln : argsL.length = ps.length) (hd : decode bytes pc = .ok (.invokeinterface idx cnt, 5)) (hp : pc + 5 = pc')
    (hf : rm'.frames + 1 ≤ R.frames) {W : Nat} (hW : (rest.map fun v => v.category).sum = W) (hl : W + (maxL' + 11) + rm'.locals ≤ R.locals) (hc : k + rm'.cells ≤ R.cells) (hn : n + rm'.slots ≤ R.slots)
    (g : ∀ (T' : State) (h' : Heap) (v : Option Value) (ms' : List Addr), own_Wk Z EL n0 own bytes maxL ret nm p l e R s m args below meth c T' (ms' ++ ms) (k + rm'.cells) (n + rm'.slots) h' → Q' v h' ms' → own_Go Z EL n0 p e below s K N Q (T'.setTop (mkF m pc' Ls (v.toList ++ rest)))) :
    own_Go Z EL n0 p e below s K N Q (T.setTop (mkF m pc Ls st)) := by
  subst hp hst
  obtain ⟨h1, h2, h3, h4, h5, h6, locs, vm0, k0, a1, X, eT, hZ, hown, Nf, O, M, hS, hk0, hC, hEW⟩ := w
  have hZ0 : Z.Warmed39 (s.setVm vm0).vm := hZ
  obtain ⟨cq, kq, qa, qb, qc⟩ := isOf hZ0 eT E
  obtain ⟨v, _, ⟨T', L', k', n'⟩, -, X', hS2, hgr, ⟨L, ms', hQ, NL, O', M', C', l1, l2, l3⟩, st'⟩ := X.interfaceBackS h1 (xi := y) (y := z) hown (mvT hZ0 wl) (mvT hZ0 wd) (mvT hZ0 wf (own_ifk hy)) (mvT hZ0 ws) (mvT hZ0 wt) (mvT hZ0 wp) (mvT hZ0 wu) (mvT hZ0 wk) hy (own_back (s := s) (W := W) ct hZ wc wz (fun x hx => M x (hms x hx)) hf hl hEW hC.1) qa qb qc (g := mkF m pc Ls (argsL.reverse ++ .ref a :: rest)) rfl (by rw [h3]; exact hsz) (Steps.refl _) (argsL := argsL) (rest := rest) (lenOf hpd hln) rfl (by show 2 * 0 + _ ≤ _; rw [hW]; omega) (h2 ▸ hd) (fun _ _ => ⟨rfl, eT, hc, hn⟩)
  dsimp only [Pt.U, Pt.locs, Pt.cells, Pt.slots] at X' hS2 hgr hQ O' M' C' l1 l2 l3 st'
  subst l1 l2 l3
  refine own_go (fun _ q => st'.trans q) (g T' _ v ms' ⟨h1, h2, h3, h4, h5, h6, locs ++ L, T'.vm, T'.heap.size, a1, X', rfl, State.Warmed39.trans (t := s.setVm vm0) hZ hS2.1, by rw [hS2.1.alike.findClass]; exact hown, Nf.app NL, O', fun x hx => ?_, hS.trans hS2 (Nat.le_trans hk0 (by rw [← eT]; exact hgr)), Nat.le_refl _, hC.trans C', hEW⟩ hQ)
  rcases List.mem_append.mp hx with q | q
  · exact M' x q
  · exact ⟨(M x q).1, Nat.lt_of_lt_of_le (M x q).2.1 C'.2.1, C'.safe (M x q).2.1 (M x q).2.2⟩
theorem own_ldcS (w : own_Wk Z EL n0 own bytes maxL ret nm p l e R s m args below meth c T ms k n h) {idx nn : Nat} {text : String} {vs : List Value} {z : Int32} (wl : (Jvm.Cond.stringLink own idx text).before a0 Z = true) (wS : ∀ a ∈ Bundle.stringAtoms, a.before a0 Z = true) (hmem : (own, idx) ∈ EL) (ht : (∀ c ∈ text.toList, c.toNat < 256) ∧ text.toList.map (fun c => Value.int (Jvm.Lit.byteI c.toNat.toUInt16)) = vs) (hz : ¬ z < 0) (hzl : z.toNatClampNeg = vs.length)
    (hd : decode bytes pc = .ok (.ldc idx, 2)) (hp : pc + 2 = pc') (hn : 4 * text.toList.length ≤ nn) (hbig : nn ≤ 536870912) (hc : k + 2 ≤ R.cells) (hl : n + (nn + 4) ≤ R.slots) (hE : EW Z a0 EL)
    (g : ∀ (T' : State) (h' : Heap) (a b : Addr) (kb : ClassId), own_Wk Z EL n0 own bytes maxL ret nm p l e R s m args below meth c T' ms (k + 2) (n + (nn + 4)) h' → Ext h h' → (Exa Z h' a "java/lang/String" ∧ Fld Z h' a "java/lang/String" "coder" "B" (.int 0) ∧ Fld Z h' a "java/lang/String" "value" "[B" (.ref b) ∧ Arv Z h' b kb .byte z vs (.int 0) ∧ ∀ x ∈ ms, x ≠ a ∧ x ≠ b) → own_Go Z EL n0 p e below s K N Q (T'.setTop (mkF m pc' Ls (.ref a :: st)))) :
    own_Go Z EL n0 p e below s K N Q (T.setTop (mkF m pc Ls st)) := by
  subst hp
  obtain ⟨h1, h2, h3, h4, h5, h6, locs, vm0, k0, a1, X, eT, hZ, hown, Nf, O, M, hS, hk0, hC, hEW⟩ := w
  obtain ⟨a, T', h', k1, b, kb, X', e', E', hS', hk1, hZ', hown', e1, e2, e3, e4, -, -, C', -, hne, st'⟩ := ldcCH X h1 hZ hown wl wS eT hS hk0 hE hmem hC.1 ht hz hzl (g := mkF m pc Ls st) rfl (h2 ▸ hd) hn hbig hc hl
  have hsf : ∀ x ∈ ms, n0 ≤ x ∧ x < h'.size ∧ Safe Z EL T'.vm h' x := fun x hx => ⟨(M x hx).1, Nat.lt_of_lt_of_le (M x hx).2.1 E'.1, C'.safe (M x hx).2.1 (M x hx).2.2⟩
  exact own_go st' (g T' h' a b kb ⟨h1, h2, h3, h4, h5, h6, locs, T'.vm, k1, a1, X', e', hZ', hown', Nf, O.ext E', hsf, hS', hk1, hC.trans C', hEW⟩ E' ⟨e1, e2, e3, e4, fun x hx => hne x (hsf x hx).2.2⟩)
theorem own_aloadN (w : own_Wk Z EL n0 own bytes maxL ret nm p l e R s m args below meth c T ms k n h) {kk : Fin 4} {v : Value} (hd : decode bytes pc = .ok (.aload_n kk, 1)) (hl : Ls[kk.val]? = some (.val v)) (hv : v.isRef = true) (hp : pc + 1 = pc') (g : own_Go Z EL n0 p e below s K N Q (T.setTop (mkF m pc' Ls (v :: st)))) : own_Go Z EL n0 p e below s K N Q (T.setTop (mkF m pc Ls st)) := by
  subst hp; exact own_go (fun _ q => XS.aloadN (own_here w) w.1 rfl (own_dec w hd) hl hv q) g
theorem own_aload (w : own_Wk Z EL n0 own bytes maxL ret nm p l e R s m args below meth c T ms k n h) {kk : Nat} {v : Value} (hd : decode bytes pc = .ok (.aload kk, 2)) (hl : Ls[kk]? = some (.val v)) (hv : v.isRef = true) (hp : pc + 2 = pc') (g : own_Go Z EL n0 p e below s K N Q (T.setTop (mkF m pc' Ls (v :: st)))) : own_Go Z EL n0 p e below s K N Q (T.setTop (mkF m pc Ls st)) := by
  subst hp; exact own_go (fun _ q => XS.aload (own_here w) w.1 rfl (own_dec w hd) hl hv q) g
theorem own_iloadN (w : own_Wk Z EL n0 own bytes maxL ret nm p l e R s m args below meth c T ms k n h) {kk : Fin 4} {v : Int32} (hd : decode bytes pc = .ok (.iload_n kk, 1)) (hl : Ls[kk.val]? = some (.val (.int v))) (hp : pc + 1 = pc') (g : own_Go Z EL n0 p e below s K N Q (T.setTop (mkF m pc' Ls (.int v :: st)))) : own_Go Z EL n0 p e below s K N Q (T.setTop (mkF m pc Ls st)) := by
  subst hp; exact own_go (fun _ q => XS.iloadN (own_here w) w.1 rfl (own_dec w hd) hl q) g
theorem own_iload (w : own_Wk Z EL n0 own bytes maxL ret nm p l e R s m args below meth c T ms k n h) {kk : Nat} {v : Int32} (hd : decode bytes pc = .ok (.iload kk, 2)) (hl : Ls[kk]? = some (.val (.int v))) (hp : pc + 2 = pc') (g : own_Go Z EL n0 p e below s K N Q (T.setTop (mkF m pc' Ls (.int v :: st)))) : own_Go Z EL n0 p e below s K N Q (T.setTop (mkF m pc Ls st)) := by
  subst hp; exact own_go (fun _ q => XS.iload (own_here w) w.1 rfl (own_dec w hd) hl q) g
theorem own_istoreN (w : own_Wk Z EL n0 own bytes maxL ret nm p l e R s m args below meth c T ms k n h) {kk : Fin 4} {x : Int32} (hd : decode bytes pc = .ok (.istore_n kk, 1)) (hl : storeLocals Ls kk.val (.int x) = some Ls') (hp : pc + 1 = pc') (g : own_Go Z EL n0 p e below s K N Q (T.setTop (mkF m pc' Ls' st))) : own_Go Z EL n0 p e below s K N Q (T.setTop (mkF m pc Ls (.int x :: st))) := by
  subst hp; exact own_go (fun _ q => XS.istoreN (own_here w) w.1 rfl (own_dec w hd) rfl hl q) g
theorem own_istore (w : own_Wk Z EL n0 own bytes maxL ret nm p l e R s m args below meth c T ms k n h) {kk : Nat} {x : Int32} (hd : decode bytes pc = .ok (.istore kk, 2)) (hl : storeLocals Ls kk (.int x) = some Ls') (hp : pc + 2 = pc') (g : own_Go Z EL n0 p e below s K N Q (T.setTop (mkF m pc' Ls' st))) : own_Go Z EL n0 p e below s K N Q (T.setTop (mkF m pc Ls (.int x :: st))) := by
  subst hp; exact own_go (fun _ q => XS.istore (own_here w) w.1 rfl (own_dec w hd) rfl hl q) g
theorem own_lloadN (w : own_Wk Z EL n0 own bytes maxL ret nm p l e R s m args below meth c T ms k n h) {kk : Fin 4} {v : Int64} (hd : decode bytes pc = .ok (.lload_n kk, 1)) (hl : Ls[kk.val]? = some (.val (.long v))) (hp : pc + 1 = pc') (g : own_Go Z EL n0 p e below s K N Q (T.setTop (mkF m pc' Ls (.long v :: st)))) : own_Go Z EL n0 p e below s K N Q (T.setTop (mkF m pc Ls st)) := by
  subst hp; exact own_go (fun _ q => XT.lloadN (own_here w) w.1 rfl (own_dec w hd) hl q) g
theorem own_lload (w : own_Wk Z EL n0 own bytes maxL ret nm p l e R s m args below meth c T ms k n h) {kk : Nat} {v : Int64} (hd : decode bytes pc = .ok (.lload kk, 2)) (hl : Ls[kk]? = some (.val (.long v))) (hp : pc + 2 = pc') (g : own_Go Z EL n0 p e below s K N Q (T.setTop (mkF m pc' Ls (.long v :: st)))) : own_Go Z EL n0 p e below s K N Q (T.setTop (mkF m pc Ls st)) := by
  subst hp; exact own_go (fun _ q => XT.lload (own_here w) w.1 rfl (own_dec w hd) hl q) g
theorem own_lstoreN (w : own_Wk Z EL n0 own bytes maxL ret nm p l e R s m args below meth c T ms k n h) {kk : Fin 4} {x : Int64} (hd : decode bytes pc = .ok (.lstore_n kk, 1)) (hl : storeLocals Ls kk.val (.long x) = some Ls') (hp : pc + 1 = pc') (g : own_Go Z EL n0 p e below s K N Q (T.setTop (mkF m pc' Ls' st))) : own_Go Z EL n0 p e below s K N Q (T.setTop (mkF m pc Ls (.long x :: st))) := by
  subst hp; exact own_go (fun _ q => XT.lstoreN (own_here w) w.1 rfl (own_dec w hd) rfl hl q) g
theorem own_lstore (w : own_Wk Z EL n0 own bytes maxL ret nm p l e R s m args below meth c T ms k n h) {kk : Nat} {x : Int64} (hd : decode bytes pc = .ok (.lstore kk, 2)) (hl : storeLocals Ls kk (.long x) = some Ls') (hp : pc + 2 = pc') (g : own_Go Z EL n0 p e below s K N Q (T.setTop (mkF m pc' Ls' st))) : own_Go Z EL n0 p e below s K N Q (T.setTop (mkF m pc Ls (.long x :: st))) := by
  subst hp; exact own_go (fun _ q => XT.lstore (own_here w) w.1 rfl (own_dec w hd) rfl hl q) g
theorem own_astoreN (w : own_Wk Z EL n0 own bytes maxL ret nm p l e R s m args below meth c T ms k n h) {kk : Fin 4} {x : Value} (hd : decode bytes pc = .ok (.astore_n kk, 1)) (hv : x.isRef = true) (hl : storeLocals Ls kk.val x = some Ls') (hp : pc + 1 = pc') (g : own_Go Z EL n0 p e below s K N Q (T.setTop (mkF m pc' Ls' st))) : own_Go Z EL n0 p e below s K N Q (T.setTop (mkF m pc Ls (x :: st))) := by
  subst hp; exact own_go (fun _ q => XS.astoreN (own_here w) w.1 rfl (own_dec w hd) rfl hv hl q) g
theorem own_astore (w : own_Wk Z EL n0 own bytes maxL ret nm p l e R s m args below meth c T ms k n h) {kk : Nat} {x : Value} (hd : decode bytes pc = .ok (.astore kk, 2)) (hv : x.isRef = true) (hl : storeLocals Ls kk x = some Ls') (hp : pc + 2 = pc') (g : own_Go Z EL n0 p e below s K N Q (T.setTop (mkF m pc' Ls' st))) : own_Go Z EL n0 p e below s K N Q (T.setTop (mkF m pc Ls (x :: st))) := by
  subst hp; exact own_go (fun _ q => XS.astore (own_here w) w.1 rfl (own_dec w hd) rfl hv hl q) g
theorem own_iconst (w : own_Wk Z EL n0 own bytes maxL ret nm p l e R s m args below meth c T ms k n h) {i : Int} {x : Int32} (hd : decode bytes pc = .ok (.iconst i, 1)) (hi : Int32.ofInt i = x) (hp : pc + 1 = pc') (g : own_Go Z EL n0 p e below s K N Q (T.setTop (mkF m pc' Ls (.int x :: st)))) : own_Go Z EL n0 p e below s K N Q (T.setTop (mkF m pc Ls st)) := by
  subst hp hi; exact own_go (fun _ q => XS.iconst (own_here w) w.1 rfl (own_dec w hd)  q) g
theorem own_bipush (w : own_Wk Z EL n0 own bytes maxL ret nm p l e R s m args below meth c T ms k n h) {i : Int} {x : Int32} (hd : decode bytes pc = .ok (.bipush i, 2)) (hi : (Int8.ofInt i).toInt32 = x) (hp : pc + 2 = pc') (g : own_Go Z EL n0 p e below s K N Q (T.setTop (mkF m pc' Ls (.int x :: st)))) : own_Go Z EL n0 p e below s K N Q (T.setTop (mkF m pc Ls st)) := by
  subst hp hi; exact own_go (fun _ q => XS.bipush (own_here w) w.1 rfl (own_dec w hd)  q) g
theorem own_sipush (w : own_Wk Z EL n0 own bytes maxL ret nm p l e R s m args below meth c T ms k n h) {i : Int} {x : Int32} (hd : decode bytes pc = .ok (.sipush i, 3)) (hi : (Int16.ofInt i).toInt32 = x) (hp : pc + 3 = pc') (g : own_Go Z EL n0 p e below s K N Q (T.setTop (mkF m pc' Ls (.int x :: st)))) : own_Go Z EL n0 p e below s K N Q (T.setTop (mkF m pc Ls st)) := by
  subst hp hi; exact own_go (fun _ q => XS.sipush (own_here w) w.1 rfl (own_dec w hd)  q) g
theorem own_lconst (w : own_Wk Z EL n0 own bytes maxL ret nm p l e R s m args below meth c T ms k n h) {i : Fin 2} {x : Int64} (hd : decode bytes pc = .ok (.lconst i, 1)) (hi : Int64.ofNat i = x) (hp : pc + 1 = pc') (g : own_Go Z EL n0 p e below s K N Q (T.setTop (mkF m pc' Ls (.long x :: st)))) : own_Go Z EL n0 p e below s K N Q (T.setTop (mkF m pc Ls st)) := by
  subst hp hi; exact own_go (fun _ q => XT.lconst (own_here w) w.1 rfl (own_dec w hd)  q) g
theorem own_aconstNull (w : own_Wk Z EL n0 own bytes maxL ret nm p l e R s m args below meth c T ms k n h)  (hd : decode bytes pc = .ok (.aconst_null, 1))  (hp : pc + 1 = pc') (g : own_Go Z EL n0 p e below s K N Q (T.setTop (mkF m pc' Ls (.null :: st)))) : own_Go Z EL n0 p e below s K N Q (T.setTop (mkF m pc Ls st)) := by
  subst hp; exact own_go (fun _ q => XS.aconstNull (own_here w) w.1 rfl (own_dec w hd)  q) g
theorem own_iadd (w : own_Wk Z EL n0 own bytes maxL ret nm p l e R s m args below meth c T ms k n h) {x y z : Int32} (hd : decode bytes pc = .ok (.iadd, 1)) (hz : x + y = z) (hp : pc + 1 = pc') (g : own_Go Z EL n0 p e below s K N Q (T.setTop (mkF m pc' Ls (.int z :: st)))) : own_Go Z EL n0 p e below s K N Q (T.setTop (mkF m pc Ls (.int y :: .int x :: st))) := by
  subst hp hz; exact own_go (fun _ q => XS.iadd (own_here w) w.1 rfl (own_dec w hd) rfl q) g
theorem own_isub (w : own_Wk Z EL n0 own bytes maxL ret nm p l e R s m args below meth c T ms k n h) {x y z : Int32} (hd : decode bytes pc = .ok (.isub, 1)) (hz : x - y = z) (hp : pc + 1 = pc') (g : own_Go Z EL n0 p e below s K N Q (T.setTop (mkF m pc' Ls (.int z :: st)))) : own_Go Z EL n0 p e below s K N Q (T.setTop (mkF m pc Ls (.int y :: .int x :: st))) := by
  subst hp hz; exact own_go (fun _ q => XS.isub (own_here w) w.1 rfl (own_dec w hd) rfl q) g
theorem own_imul (w : own_Wk Z EL n0 own bytes maxL ret nm p l e R s m args below meth c T ms k n h) {x y z : Int32} (hd : decode bytes pc = .ok (.imul, 1)) (hz : x * y = z) (hp : pc + 1 = pc') (g : own_Go Z EL n0 p e below s K N Q (T.setTop (mkF m pc' Ls (.int z :: st)))) : own_Go Z EL n0 p e below s K N Q (T.setTop (mkF m pc Ls (.int y :: .int x :: st))) := by
  subst hp hz; exact own_go (fun _ q => XS.imul (own_here w) w.1 rfl (own_dec w hd) rfl q) g
theorem own_iand (w : own_Wk Z EL n0 own bytes maxL ret nm p l e R s m args below meth c T ms k n h) {x y z : Int32} (hd : decode bytes pc = .ok (.iand, 1)) (hz : x &&& y = z) (hp : pc + 1 = pc') (g : own_Go Z EL n0 p e below s K N Q (T.setTop (mkF m pc' Ls (.int z :: st)))) : own_Go Z EL n0 p e below s K N Q (T.setTop (mkF m pc Ls (.int y :: .int x :: st))) := by
  subst hp hz; exact own_go (fun _ q => XS.iand (own_here w) w.1 rfl (own_dec w hd) rfl q) g
theorem own_ior (w : own_Wk Z EL n0 own bytes maxL ret nm p l e R s m args below meth c T ms k n h) {x y z : Int32} (hd : decode bytes pc = .ok (.ior, 1)) (hz : x ||| y = z) (hp : pc + 1 = pc') (g : own_Go Z EL n0 p e below s K N Q (T.setTop (mkF m pc' Ls (.int z :: st)))) : own_Go Z EL n0 p e below s K N Q (T.setTop (mkF m pc Ls (.int y :: .int x :: st))) := by
  subst hp hz; exact own_go (fun _ q => XT.ior (own_here w) w.1 rfl (own_dec w hd) rfl q) g
theorem own_ixor (w : own_Wk Z EL n0 own bytes maxL ret nm p l e R s m args below meth c T ms k n h) {x y z : Int32} (hd : decode bytes pc = .ok (.ixor, 1)) (hz : x ^^^ y = z) (hp : pc + 1 = pc') (g : own_Go Z EL n0 p e below s K N Q (T.setTop (mkF m pc' Ls (.int z :: st)))) : own_Go Z EL n0 p e below s K N Q (T.setTop (mkF m pc Ls (.int y :: .int x :: st))) := by
  subst hp hz; exact own_go (fun _ q => XT.ixor (own_here w) w.1 rfl (own_dec w hd) rfl q) g
theorem own_ishl (w : own_Wk Z EL n0 own bytes maxL ret nm p l e R s m args below meth c T ms k n h) {x y z : Int32} (hd : decode bytes pc = .ok (.ishl, 1)) (hz : x <<< (y &&& 31) = z) (hp : pc + 1 = pc') (g : own_Go Z EL n0 p e below s K N Q (T.setTop (mkF m pc' Ls (.int z :: st)))) : own_Go Z EL n0 p e below s K N Q (T.setTop (mkF m pc Ls (.int y :: .int x :: st))) := by
  subst hp hz; exact own_go (fun _ q => XT.ishl (own_here w) w.1 rfl (own_dec w hd) rfl q) g
theorem own_ishr (w : own_Wk Z EL n0 own bytes maxL ret nm p l e R s m args below meth c T ms k n h) {x y z : Int32} (hd : decode bytes pc = .ok (.ishr, 1)) (hz : x >>> (y &&& 31) = z) (hp : pc + 1 = pc') (g : own_Go Z EL n0 p e below s K N Q (T.setTop (mkF m pc' Ls (.int z :: st)))) : own_Go Z EL n0 p e below s K N Q (T.setTop (mkF m pc Ls (.int y :: .int x :: st))) := by
  subst hp hz; exact own_go (fun _ q => XT.ishr (own_here w) w.1 rfl (own_dec w hd) rfl q) g
theorem own_iushr (w : own_Wk Z EL n0 own bytes maxL ret nm p l e R s m args below meth c T ms k n h) {x y z : Int32} (hd : decode bytes pc = .ok (.iushr, 1)) (hz : XT.ushr x y = z) (hp : pc + 1 = pc') (g : own_Go Z EL n0 p e below s K N Q (T.setTop (mkF m pc' Ls (.int z :: st)))) : own_Go Z EL n0 p e below s K N Q (T.setTop (mkF m pc Ls (.int y :: .int x :: st))) := by
  subst hp hz; exact own_go (fun _ q => XT.iushr (own_here w) w.1 rfl (own_dec w hd) rfl q) g
theorem own_idiv (w : own_Wk Z EL n0 own bytes maxL ret nm p l e R s m args below meth c T ms k n h) {x y z : Int32} (hd : decode bytes pc = .ok (.idiv, 1)) (hy : y ≠ 0) (hz : x / y = z) (hp : pc + 1 = pc') (g : own_Go Z EL n0 p e below s K N Q (T.setTop (mkF m pc' Ls (.int z :: st)))) : own_Go Z EL n0 p e below s K N Q (T.setTop (mkF m pc Ls (.int y :: .int x :: st))) := by
  subst hp hz; exact own_go (fun _ q => XS.idiv (own_here w) w.1 rfl (own_dec w hd) rfl hy q) g
theorem own_irem (w : own_Wk Z EL n0 own bytes maxL ret nm p l e R s m args below meth c T ms k n h) {x y z : Int32} (hd : decode bytes pc = .ok (.irem, 1)) (hy : y ≠ 0) (hz : x - (x / y) * y = z) (hp : pc + 1 = pc') (g : own_Go Z EL n0 p e below s K N Q (T.setTop (mkF m pc' Ls (.int z :: st)))) : own_Go Z EL n0 p e below s K N Q (T.setTop (mkF m pc Ls (.int y :: .int x :: st))) := by
  subst hp hz; exact own_go (fun _ q => XS.irem (own_here w) w.1 rfl (own_dec w hd) rfl hy q) g
theorem own_ineg (w : own_Wk Z EL n0 own bytes maxL ret nm p l e R s m args below meth c T ms k n h) {x z : Int32} (hd : decode bytes pc = .ok (.ineg, 1)) (hz : -x = z) (hp : pc + 1 = pc') (g : own_Go Z EL n0 p e below s K N Q (T.setTop (mkF m pc' Ls (.int z :: st)))) : own_Go Z EL n0 p e below s K N Q (T.setTop (mkF m pc Ls (.int x :: st))) := by
  subst hp hz; exact own_go (fun _ q => XS.ineg (own_here w) w.1 rfl (own_dec w hd) rfl q) g
theorem own_ladd (w : own_Wk Z EL n0 own bytes maxL ret nm p l e R s m args below meth c T ms k n h) {x y z : Int64} (hd : decode bytes pc = .ok (.ladd, 1)) (hz : x + y = z) (hp : pc + 1 = pc') (g : own_Go Z EL n0 p e below s K N Q (T.setTop (mkF m pc' Ls (.long z :: st)))) : own_Go Z EL n0 p e below s K N Q (T.setTop (mkF m pc Ls (.long y :: .long x :: st))) := by
  subst hp hz; exact own_go (fun _ q => XT.ladd (own_here w) w.1 rfl (own_dec w hd) rfl q) g
theorem own_lsub (w : own_Wk Z EL n0 own bytes maxL ret nm p l e R s m args below meth c T ms k n h) {x y z : Int64} (hd : decode bytes pc = .ok (.lsub, 1)) (hz : x - y = z) (hp : pc + 1 = pc') (g : own_Go Z EL n0 p e below s K N Q (T.setTop (mkF m pc' Ls (.long z :: st)))) : own_Go Z EL n0 p e below s K N Q (T.setTop (mkF m pc Ls (.long y :: .long x :: st))) := by
  subst hp hz; exact own_go (fun _ q => XT.lsub (own_here w) w.1 rfl (own_dec w hd) rfl q) g
theorem own_lmul (w : own_Wk Z EL n0 own bytes maxL ret nm p l e R s m args below meth c T ms k n h) {x y z : Int64} (hd : decode bytes pc = .ok (.lmul, 1)) (hz : x * y = z) (hp : pc + 1 = pc') (g : own_Go Z EL n0 p e below s K N Q (T.setTop (mkF m pc' Ls (.long z :: st)))) : own_Go Z EL n0 p e below s K N Q (T.setTop (mkF m pc Ls (.long y :: .long x :: st))) := by
  subst hp hz; exact own_go (fun _ q => XT.lmul (own_here w) w.1 rfl (own_dec w hd) rfl q) g
theorem own_land (w : own_Wk Z EL n0 own bytes maxL ret nm p l e R s m args below meth c T ms k n h) {x y z : Int64} (hd : decode bytes pc = .ok (.land, 1)) (hz : x &&& y = z) (hp : pc + 1 = pc') (g : own_Go Z EL n0 p e below s K N Q (T.setTop (mkF m pc' Ls (.long z :: st)))) : own_Go Z EL n0 p e below s K N Q (T.setTop (mkF m pc Ls (.long y :: .long x :: st))) := by
  subst hp hz; exact own_go (fun _ q => XT.land (own_here w) w.1 rfl (own_dec w hd) rfl q) g
theorem own_lor (w : own_Wk Z EL n0 own bytes maxL ret nm p l e R s m args below meth c T ms k n h) {x y z : Int64} (hd : decode bytes pc = .ok (.lor, 1)) (hz : x ||| y = z) (hp : pc + 1 = pc') (g : own_Go Z EL n0 p e below s K N Q (T.setTop (mkF m pc' Ls (.long z :: st)))) : own_Go Z EL n0 p e below s K N Q (T.setTop (mkF m pc Ls (.long y :: .long x :: st))) := by
  subst hp hz; exact own_go (fun _ q => XT.lor (own_here w) w.1 rfl (own_dec w hd) rfl q) g
theorem own_lxor (w : own_Wk Z EL n0 own bytes maxL ret nm p l e R s m args below meth c T ms k n h) {x y z : Int64} (hd : decode bytes pc = .ok (.lxor, 1)) (hz : x ^^^ y = z) (hp : pc + 1 = pc') (g : own_Go Z EL n0 p e below s K N Q (T.setTop (mkF m pc' Ls (.long z :: st)))) : own_Go Z EL n0 p e below s K N Q (T.setTop (mkF m pc Ls (.long y :: .long x :: st))) := by
  subst hp hz; exact own_go (fun _ q => XT.lxor (own_here w) w.1 rfl (own_dec w hd) rfl q) g
theorem own_lshl (w : own_Wk Z EL n0 own bytes maxL ret nm p l e R s m args below meth c T ms k n h) {x z : Int64} {y : Int32} (hd : decode bytes pc = .ok (.lshl, 1)) (hz : x <<< (y.toInt64 &&& 63) = z) (hp : pc + 1 = pc') (g : own_Go Z EL n0 p e below s K N Q (T.setTop (mkF m pc' Ls (.long z :: st)))) : own_Go Z EL n0 p e below s K N Q (T.setTop (mkF m pc Ls (.int y :: .long x :: st))) := by
  subst hp hz; exact own_go (fun _ q => XT.lshl (own_here w) w.1 rfl (own_dec w hd) rfl q) g
theorem own_lshr (w : own_Wk Z EL n0 own bytes maxL ret nm p l e R s m args below meth c T ms k n h) {x z : Int64} {y : Int32} (hd : decode bytes pc = .ok (.lshr, 1)) (hz : x >>> (y.toInt64 &&& 63) = z) (hp : pc + 1 = pc') (g : own_Go Z EL n0 p e below s K N Q (T.setTop (mkF m pc' Ls (.long z :: st)))) : own_Go Z EL n0 p e below s K N Q (T.setTop (mkF m pc Ls (.int y :: .long x :: st))) := by
  subst hp hz; exact own_go (fun _ q => XT.lshr (own_here w) w.1 rfl (own_dec w hd) rfl q) g
theorem own_lushr (w : own_Wk Z EL n0 own bytes maxL ret nm p l e R s m args below meth c T ms k n h) {x z : Int64} {y : Int32} (hd : decode bytes pc = .ok (.lushr, 1)) (hz : XT.ushrL x y = z) (hp : pc + 1 = pc') (g : own_Go Z EL n0 p e below s K N Q (T.setTop (mkF m pc' Ls (.long z :: st)))) : own_Go Z EL n0 p e below s K N Q (T.setTop (mkF m pc Ls (.int y :: .long x :: st))) := by
  subst hp hz; exact own_go (fun _ q => XT.lushr (own_here w) w.1 rfl (own_dec w hd) rfl q) g
theorem own_lneg (w : own_Wk Z EL n0 own bytes maxL ret nm p l e R s m args below meth c T ms k n h) {x z : Int64} (hd : decode bytes pc = .ok (.lneg, 1)) (hz : -x = z) (hp : pc + 1 = pc') (g : own_Go Z EL n0 p e below s K N Q (T.setTop (mkF m pc' Ls (.long z :: st)))) : own_Go Z EL n0 p e below s K N Q (T.setTop (mkF m pc Ls (.long x :: st))) := by
  subst hp hz; exact own_go (fun _ q => XT.lneg (own_here w) w.1 rfl (own_dec w hd) rfl q) g
theorem own_lcmp (w : own_Wk Z EL n0 own bytes maxL ret nm p l e R s m args below meth c T ms k n h) {x y : Int64} {z : Int32} (hd : decode bytes pc = .ok (.lcmp, 1)) (hz : XT.cmpL x y = z) (hp : pc + 1 = pc') (g : own_Go Z EL n0 p e below s K N Q (T.setTop (mkF m pc' Ls (.int z :: st)))) : own_Go Z EL n0 p e below s K N Q (T.setTop (mkF m pc Ls (.long y :: .long x :: st))) := by
  subst hp hz; exact own_go (fun _ q => XT.lcmp (own_here w) w.1 rfl (own_dec w hd) rfl q) g
theorem own_i2l (w : own_Wk Z EL n0 own bytes maxL ret nm p l e R s m args below meth c T ms k n h) {x : Int32} {z : Int64} (hd : decode bytes pc = .ok (.i2l, 1)) (hz : x.toInt64 = z) (hp : pc + 1 = pc') (g : own_Go Z EL n0 p e below s K N Q (T.setTop (mkF m pc' Ls (.long z :: st)))) : own_Go Z EL n0 p e below s K N Q (T.setTop (mkF m pc Ls (.int x :: st))) := by
  subst hp hz; exact own_go (fun _ q => XT.i2l (own_here w) w.1 rfl (own_dec w hd) rfl q) g
theorem own_l2i (w : own_Wk Z EL n0 own bytes maxL ret nm p l e R s m args below meth c T ms k n h) {x : Int64} {z : Int32} (hd : decode bytes pc = .ok (.l2i, 1)) (hz : x.toInt32 = z) (hp : pc + 1 = pc') (g : own_Go Z EL n0 p e below s K N Q (T.setTop (mkF m pc' Ls (.int z :: st)))) : own_Go Z EL n0 p e below s K N Q (T.setTop (mkF m pc Ls (.long x :: st))) := by
  subst hp hz; exact own_go (fun _ q => XT.l2i (own_here w) w.1 rfl (own_dec w hd) rfl q) g
theorem own_i2b (w : own_Wk Z EL n0 own bytes maxL ret nm p l e R s m args below meth c T ms k n h) {x z : Int32} (hd : decode bytes pc = .ok (.i2b, 1)) (hz : x.toInt8.toInt32 = z) (hp : pc + 1 = pc') (g : own_Go Z EL n0 p e below s K N Q (T.setTop (mkF m pc' Ls (.int z :: st)))) : own_Go Z EL n0 p e below s K N Q (T.setTop (mkF m pc Ls (.int x :: st))) := by
  subst hp hz; exact own_go (fun _ q => XT.i2b (own_here w) w.1 rfl (own_dec w hd) rfl q) g
theorem own_i2c (w : own_Wk Z EL n0 own bytes maxL ret nm p l e R s m args below meth c T ms k n h) {x z : Int32} (hd : decode bytes pc = .ok (.i2c, 1)) (hz : x.toUInt32.toUInt16.toUInt32.toInt32 = z) (hp : pc + 1 = pc') (g : own_Go Z EL n0 p e below s K N Q (T.setTop (mkF m pc' Ls (.int z :: st)))) : own_Go Z EL n0 p e below s K N Q (T.setTop (mkF m pc Ls (.int x :: st))) := by
  subst hp hz; exact own_go (fun _ q => XT.i2c (own_here w) w.1 rfl (own_dec w hd) rfl q) g
theorem own_i2s (w : own_Wk Z EL n0 own bytes maxL ret nm p l e R s m args below meth c T ms k n h) {x z : Int32} (hd : decode bytes pc = .ok (.i2s, 1)) (hz : x.toInt16.toInt32 = z) (hp : pc + 1 = pc') (g : own_Go Z EL n0 p e below s K N Q (T.setTop (mkF m pc' Ls (.int z :: st)))) : own_Go Z EL n0 p e below s K N Q (T.setTop (mkF m pc Ls (.int x :: st))) := by
  subst hp hz; exact own_go (fun _ q => XT.i2s (own_here w) w.1 rfl (own_dec w hd) rfl q) g
theorem own_dup (w : own_Wk Z EL n0 own bytes maxL ret nm p l e R s m args below meth c T ms k n h) {x : Value} (hd : decode bytes pc = .ok (.dup, 1)) (hc : x.category = 1) (hp : pc + 1 = pc') (g : own_Go Z EL n0 p e below s K N Q (T.setTop (mkF m pc' Ls (x :: x :: st)))) : own_Go Z EL n0 p e below s K N Q (T.setTop (mkF m pc Ls (x :: st))) := by
  subst hp; exact own_go (fun _ q => XS.dup (own_here w) w.1 rfl (own_dec w hd) rfl hc q) g
theorem own_dupX1 (w : own_Wk Z EL n0 own bytes maxL ret nm p l e R s m args below meth c T ms k n h) {x y : Value} (hd : decode bytes pc = .ok (.dup_x1, 1)) (hc : x.category = 1) (hc' : y.category = 1) (hp : pc + 1 = pc') (g : own_Go Z EL n0 p e below s K N Q (T.setTop (mkF m pc' Ls (x :: y :: x :: st)))) : own_Go Z EL n0 p e below s K N Q (T.setTop (mkF m pc Ls (x :: y :: st))) := by
  subst hp; exact own_go (fun _ q => XT.dupX1 (own_here w) w.1 rfl (own_dec w hd) rfl hc hc' q) g
theorem own_xX2 {tb : Tables} [Ours tb] {e : Env} {below : List Frame} {T target : State} {m : MethodId} {c : Code} {g : JFrame} (h : At T m c below) (hx : tb.exec = Jvm.exec) (hg : g.method = m) {x y z : Value} {rest : List Value} (hd : decode c.code g.pc = .ok (.dup_x2, 1)) (hs : g.stack = x :: y :: z :: rest) (hc : x.category = 1) (hc' : y.category = 1) (hc2 : z.category = 1)
    (hr : Steps tb e below (T.setTop { g with pc := g.pc + 1, stack := x :: y :: z :: x :: rest }) target) : Steps tb e below (T.setTop g) target := by
  subst hg
  jvm_step h [h.top, hx, hd, hs, hc, hc', hc2, dup_x2.wp_sem]
  exact hr
theorem own_dupX2 (w : own_Wk Z EL n0 own bytes maxL ret nm p l e R s m args below meth c T ms k n h) {x y z : Value} (hd : decode bytes pc = .ok (.dup_x2, 1)) (hc : x.category = 1) (hc' : y.category = 1) (hc2 : z.category = 1) (hp : pc + 1 = pc') (g : own_Go Z EL n0 p e below s K N Q (T.setTop (mkF m pc' Ls (x :: y :: z :: x :: st)))) : own_Go Z EL n0 p e below s K N Q (T.setTop (mkF m pc Ls (x :: y :: z :: st))) := by
  subst hp; exact own_go (fun _ q => own_xX2 (own_here w) w.1 rfl (own_dec w hd) rfl hc hc' hc2 q) g
theorem own_dup2 (w : own_Wk Z EL n0 own bytes maxL ret nm p l e R s m args below meth c T ms k n h) {x y : Value} (hd : decode bytes pc = .ok (.dup2, 1)) (hc : x.category = 1) (hc' : y.category = 1) (hp : pc + 1 = pc') (g : own_Go Z EL n0 p e below s K N Q (T.setTop (mkF m pc' Ls (x :: y :: x :: y :: st)))) : own_Go Z EL n0 p e below s K N Q (T.setTop (mkF m pc Ls (x :: y :: st))) := by
  subst hp; exact own_go (fun _ q => XT.dup2 (own_here w) w.1 rfl (own_dec w hd) rfl hc hc' q) g
theorem own_dup2L (w : own_Wk Z EL n0 own bytes maxL ret nm p l e R s m args below meth c T ms k n h) {x : Int64} (hd : decode bytes pc = .ok (.dup2, 1))  (hp : pc + 1 = pc') (g : own_Go Z EL n0 p e below s K N Q (T.setTop (mkF m pc' Ls (.long x :: .long x :: st)))) : own_Go Z EL n0 p e below s K N Q (T.setTop (mkF m pc Ls (.long x :: st))) := by
  subst hp; exact own_go (fun _ q => XT.dup2L (own_here w) w.1 rfl (own_dec w hd) rfl q) g
theorem own_pop (w : own_Wk Z EL n0 own bytes maxL ret nm p l e R s m args below meth c T ms k n h) {x : Value} (hd : decode bytes pc = .ok (.pop, 1)) (hc : x.category = 1) (hp : pc + 1 = pc') (g : own_Go Z EL n0 p e below s K N Q (T.setTop (mkF m pc' Ls st))) : own_Go Z EL n0 p e below s K N Q (T.setTop (mkF m pc Ls (x :: st))) := by
  subst hp; exact own_go (fun _ q => XT.pop (own_here w) w.1 rfl (own_dec w hd) rfl hc q) g
theorem own_iinc (w : own_Wk Z EL n0 own bytes maxL ret nm p l e R s m args below meth c T ms k n h) {kk : Nat} {cst : Int} {x y : Int32} (hd : decode bytes pc = .ok (.iinc kk cst, 3)) (hl : Ls[kk]? = some (.val (.int x))) (hy : x + Int32.ofInt cst = y) (hl' : storeLocals Ls kk (.int y) = some Ls') (hp : pc + 3 = pc') (g : own_Go Z EL n0 p e below s K N Q (T.setTop (mkF m pc' Ls' st))) : own_Go Z EL n0 p e below s K N Q (T.setTop (mkF m pc Ls st)) := by
  subst hp hy; exact own_go (fun _ q => XS.iinc (own_here w) w.1 rfl (own_dec w hd) hl hl' q) g
theorem own_lswH (w : own_Wk Z EL n0 own bytes maxL ret nm p l e R s m args below meth c T ms k n h) {x : Int32} {dflt : Int} {pairs : Array (Int × Int)} {len : Nat} {a off : Int} (hd : decode bytes pc = .ok (.lookupswitch dflt pairs, len)) (hs : (pairs.toList.zip (pairs.toList.drop 1)).all (fun (a, next) => a.1 < next.1) = true) (hf : pairs.find? (·.1 == x.toInt) = some (a, off)) (ho : 0 ≤ (pc : Int) + off) (hp : ((pc : Int) + off).toNat = pc') (g : own_Go Z EL n0 p e below s K N Q (T.setTop (mkF m pc' Ls st))) : own_Go Z EL n0 p e below s K N Q (T.setTop (mkF m pc Ls (.int x :: st))) := by
  subst hp; exact own_pure w (fun s' locs X eT hZ hown t q => X.lookupswitchHit w.1 (g := mkF m pc Ls (.int x :: st)) rfl rfl (own_dec w hd) hs hf ho t q) g
theorem own_lswM (w : own_Wk Z EL n0 own bytes maxL ret nm p l e R s m args below meth c T ms k n h) {x : Int32} {dflt : Int} {pairs : Array (Int × Int)} {len : Nat} (hd : decode bytes pc = .ok (.lookupswitch dflt pairs, len)) (hs : (pairs.toList.zip (pairs.toList.drop 1)).all (fun (a, next) => a.1 < next.1) = true) (hf : pairs.find? (·.1 == x.toInt) = none) (ho : 0 ≤ (pc : Int) + dflt) (hp : ((pc : Int) + dflt).toNat = pc') (g : own_Go Z EL n0 p e below s K N Q (T.setTop (mkF m pc' Ls st))) : own_Go Z EL n0 p e below s K N Q (T.setTop (mkF m pc Ls (.int x :: st))) := by
  subst hp; exact own_pure w (fun s' locs X eT hZ hown t q => X.lookupswitchMiss w.1 (g := mkF m pc Ls (.int x :: st)) rfl rfl (own_dec w hd) hs hf ho t q) g
theorem own_goto (w : own_Wk Z EL n0 own bytes maxL ret nm p l e R s m args below meth c T ms k n h) {o : Int} (hd : decode bytes pc = .ok (.goto o, 3)) (ho : 0 ≤ (pc : Int) + o) (hp : ((pc : Int) + o).toNat = pc') (g : own_Go Z EL n0 p e below s K N Q (T.setTop (mkF m pc' Ls st))) : own_Go Z EL n0 p e below s K N Q (T.setTop (mkF m pc Ls st)) := own_go (fun _ q => XS.goto (own_here w) w.1 rfl (pc0 := pc) rfl (own_dec w hd) ho hp q) g
def own_cT (cd : ClassFile.Cond) (x y : Int32) : Prop := match cd with | .eq => x = y | .ne => ¬ x = y | .lt => x < y | .ge => ¬ x < y | .gt => y < x | .le => ¬ y < x
def own_cF (cd : ClassFile.Cond) (x y : Int32) : Prop := match cd with | .eq => ¬ x = y | .ne => x = y | .lt => ¬ x < y | .ge => x < y | .gt => ¬ y < x | .le => y < x
theorem own_cond (cd : ClassFile.Cond) (x y : Int32) : (own_cT cd x y ∧ if_icmp.holds cd x y = true) ∨ (own_cF cd x y ∧ if_icmp.holds cd x y = false) := by
  cases cd
  · by_cases q : x = y
    · exact Or.inl ⟨q, (teq q).1⟩
    · exact Or.inr ⟨q, (feq q).1⟩
  · by_cases q : x = y
    · exact Or.inr ⟨q, (teq q).2⟩
    · exact Or.inl ⟨q, (feq q).2⟩
  · by_cases q : x < y
    · exact Or.inl ⟨q, (tlt q).1⟩
    · exact Or.inr ⟨q, (flt q).1⟩
  · by_cases q : x < y
    · exact Or.inr ⟨q, (tlt q).2.1⟩
    · exact Or.inl ⟨q, (flt q).2.1⟩
  · by_cases q : y < x
    · exact Or.inl ⟨q, (tlt q).2.2.1⟩
    · exact Or.inr ⟨q, (flt q).2.2.1⟩
  · by_cases q : y < x
    · exact Or.inr ⟨q, (tlt q).2.2.2⟩
    · exact Or.inl ⟨q, (flt q).2.2.2⟩
theorem own_icmp (w : own_Wk Z EL n0 own bytes maxL ret nm p l e R s m args below meth c T ms k n h) {cd : ClassFile.Cond} {x y : Int32} {o : Int} {pcY : Nat} (hd : decode bytes pc = .ok (.if_icmp cd o, 3)) (hp : pc + 3 = pc') (ho : 0 ≤ (pc : Int) + o) (hq : ((pc : Int) + o).toNat = pcY) (gT : own_cT cd x y → own_Go Z EL n0 p e below s K N Q (T.setTop (mkF m pcY Ls st))) (gF : own_cF cd x y → own_Go Z EL n0 p e below s K N Q (T.setTop (mkF m pc' Ls st))) : own_Go Z EL n0 p e below s K N Q (T.setTop (mkF m pc Ls (.int y :: .int x :: st))) := by
  subst hp
  rcases own_cond cd x y with ⟨q, r⟩ | ⟨q, r⟩
  · exact own_go (fun _ z => XS.icmpYes (own_here w) w.1 rfl (pc0 := pc) rfl (own_dec w hd) rfl r ho hq z) (gT q)
  · exact own_go (fun _ z => XS.icmpNo (own_here w) w.1 rfl (own_dec w hd) rfl r z) (gF q)
theorem own_if (w : own_Wk Z EL n0 own bytes maxL ret nm p l e R s m args below meth c T ms k n h) {cd : ClassFile.Cond} {x : Int32} {o : Int} {pcY : Nat} (hd : decode bytes pc = .ok (.ifCond cd o, 3)) (hp : pc + 3 = pc') (ho : 0 ≤ (pc : Int) + o) (hq : ((pc : Int) + o).toNat = pcY) (gT : own_cT cd x 0 → own_Go Z EL n0 p e below s K N Q (T.setTop (mkF m pcY Ls st))) (gF : own_cF cd x 0 → own_Go Z EL n0 p e below s K N Q (T.setTop (mkF m pc' Ls st))) : own_Go Z EL n0 p e below s K N Q (T.setTop (mkF m pc Ls (.int x :: st))) := by
  subst hp
  rcases own_cond cd x 0 with ⟨q, r⟩ | ⟨q, r⟩
  · exact own_go (fun _ z => XS.ifYes (own_here w) w.1 rfl (pc0 := pc) rfl (own_dec w hd) rfl ((if0 cd x).trans r) ho hq z) (gT q)
  · exact own_go (fun _ z => XS.ifNo (own_here w) w.1 rfl (own_dec w hd) rfl ((if0 cd x).trans r) z) (gF q)
theorem own_ifnullY (w : own_Wk Z EL n0 own bytes maxL ret nm p l e R s m args below meth c T ms k n h) {o : Int} (hd : decode bytes pc = .ok (.ifnull o, 3)) (ho : 0 ≤ (pc : Int) + o) (hp : ((pc : Int) + o).toNat = pc') (g : own_Go Z EL n0 p e below s K N Q (T.setTop (mkF m pc' Ls st))) : own_Go Z EL n0 p e below s K N Q (T.setTop (mkF m pc Ls (.null :: st))) := own_go (fun _ q => XS.ifnullYes (own_here w) w.1 rfl (pc0 := pc) rfl (own_dec w hd) rfl ho hp q) g
theorem own_ifnullN (w : own_Wk Z EL n0 own bytes maxL ret nm p l e R s m args below meth c T ms k n h) {o : Int} (hd : decode bytes pc = .ok (.ifnull o, 3)) (hp : pc + 3 = pc') (g : own_Go Z EL n0 p e below s K N Q (T.setTop (mkF m pc' Ls st))) : own_Go Z EL n0 p e below s K N Q (T.setTop (mkF m pc Ls (.ref a :: st))) := by
  subst hp; exact own_go (fun _ q => XS.ifnullNo (own_here w) w.1 rfl (own_dec w hd) rfl q) g
theorem own_ifnonnullY (w : own_Wk Z EL n0 own bytes maxL ret nm p l e R s m args below meth c T ms k n h) {o : Int} (hd : decode bytes pc = .ok (.ifnonnull o, 3)) (ho : 0 ≤ (pc : Int) + o) (hp : ((pc : Int) + o).toNat = pc') (g : own_Go Z EL n0 p e below s K N Q (T.setTop (mkF m pc' Ls st))) : own_Go Z EL n0 p e below s K N Q (T.setTop (mkF m pc Ls (.ref a :: st))) := own_go (fun _ q => XT.ifnonnullYes (own_here w) w.1 rfl (pc0 := pc) rfl (own_dec w hd) rfl ho hp q) g
theorem own_ifnonnullN (w : own_Wk Z EL n0 own bytes maxL ret nm p l e R s m args below meth c T ms k n h) {o : Int} (hd : decode bytes pc = .ok (.ifnonnull o, 3)) (hp : pc + 3 = pc') (g : own_Go Z EL n0 p e below s K N Q (T.setTop (mkF m pc' Ls st))) : own_Go Z EL n0 p e below s K N Q (T.setTop (mkF m pc Ls (.null :: st))) := by
  subst hp; exact own_go (fun _ q => XT.ifnonnullNo (own_here w) w.1 rfl (own_dec w hd) rfl q) g
theorem own_same (w : own_Wk Z EL n0 own bytes maxL ret nm p l e R s m args below meth c T ms k n h) {F F' : JFrame} (f : ∀ (s' : State) (locs : List Loc), Stand p l e R s' m args below meth c T locs k n → T.heap = h → Z.Warmed39 s'.vm → s'.vm.findClass own = some m.cls → ∃ T' : State, Stand p l e R s' m args below meth c T' locs k n ∧ T'.heap = h ∧ ∀ t, Steps p.tables e below (T'.setTop F') t → Steps p.tables e below (T.setTop F) t)
    (g : ∀ T' : State, own_Wk Z EL n0 own bytes maxL ret nm p l e R s m args below meth c T' ms k n h → own_Go Z EL n0 p e below s K N Q (T'.setTop F')) : own_Go Z EL n0 p e below s K N Q (T.setTop F) := by
  refine own_core w (k' := k) (n' := n) (ws := []) (P := fun h' new F'' => h' = h ∧ new = [] ∧ F'' = F') all0 (fun s' locs X eT hZ hown => ?_) (fun T' h' new F'' w' _ q => ?_)
  · obtain ⟨T', X', e', st'⟩ := f s' locs X eT hZ hown
    exact ⟨T', h, [], [], _, by rw [List.append_nil]; exact X', e', Keep.refl _ _, Fr.nil _, all0, ⟨rfl, rfl, rfl⟩, st'⟩
  · obtain ⟨rfl, rfl, rfl⟩ := q; exact g T' w'
theorem own_write (w : own_Wk Z EL n0 own bytes maxL ret nm p l e R s m args below meth c T ms k n h) {F F' : JFrame} {sl : Nat} {v : Value} (hm : a ∈ ms) (f : ∀ (s' : State) (locs : List Loc), Stand p l e R s' m args below meth c T locs k n → T.heap = h → Z.Warmed39 s'.vm → s'.vm.findClass own = some m.cls → ∃ (T' : State) (h' : Heap), Stand p l e R s' m args below meth c T' (locs ++ [⟨a, sl⟩]) k n ∧ T'.heap = h' ∧ Wr h h' a sl v ∧ ∀ t, Steps p.tables e below (T'.setTop F') t → Steps p.tables e below (T.setTop F) t)
    (g : ∀ (T' : State) (h' : Heap), own_Wk Z EL n0 own bytes maxL ret nm p l e R s m args below meth c T' ms k n h' → Wr h h' a sl v → own_Go Z EL n0 p e below s K N Q (T'.setTop F')) : own_Go Z EL n0 p e below s K N Q (T.setTop F) := by
  refine own_core w (k' := k) (n' := n) (ws := [a]) (P := fun h' new F'' => Wr h h' a sl v ∧ new = [] ∧ F'' = F') (allS hm all0) (fun s' locs X eT hZ hown => ?_) (fun T' h' new F'' w' _ q => ?_)
  · obtain ⟨T', h', X', e', W', st'⟩ := f s' locs X eT hZ hown
    exact ⟨T', h', [⟨a, sl⟩], [], _, X', e', Keep.of_wr W', (fun y hy => by cases List.mem_singleton.mp hy; exact (own_mine w a hm).1), all0, ⟨W', rfl, rfl⟩, st'⟩
  · obtain ⟨q, rfl, rfl⟩ := q; exact g T' h' w' q
theorem own_made (w : own_Wk Z EL n0 own bytes maxL ret nm p l e R s m args below meth c T ms k n h) {F : JFrame} {F' : Addr → JFrame} {k' n' : Nat} {P : Addr → Heap → Prop} (f : ∀ (s' : State) (locs : List Loc), Stand p l e R s' m args below meth c T locs k n → T.heap = h → Z.Warmed39 s'.vm → s'.vm.findClass own = some m.cls → ∃ (T' : State) (h' : Heap), Stand p l e R s' m args below meth c T' locs k' n' ∧ T'.heap = h' ∧ Ext h h' ∧ h.size < h'.size ∧ P h.size h' ∧ ∀ t, Steps p.tables e below (T'.setTop (F' h.size)) t → Steps p.tables e below (T.setTop F) t)
    (g : ∀ (T' : State) (h' : Heap) (a : Addr), h.size = a → own_Wk Z EL n0 own bytes maxL ret nm p l e R s m args below meth c T' (a :: ms) k' n' h' → Ext h h' → P a h' → own_Go Z EL n0 p e below s K N Q (T'.setTop (F' a))) : own_Go Z EL n0 p e below s K N Q (T.setTop F) := by
  refine own_core w (k' := k') (n' := n') (ws := []) (P := fun h' new F'' => Ext h h' ∧ P h.size h' ∧ new = [h.size] ∧ F'' = F' h.size) all0 (fun s' locs X eT hZ hown => ?_) (fun T' h' new F'' w' _ q => ?_)
  · obtain ⟨T', h', X', e', E', hlt, hP, st'⟩ := f s' locs X eT hZ hown
    exact ⟨T', h', [], [h.size], _, by rw [List.append_nil]; exact X', e', (Keep.refl _ _).ext E', Fr.nil _, allS ⟨Nat.le_refl _, hlt⟩ all0, ⟨E', hP, rfl, rfl⟩, st'⟩
  · obtain ⟨q1, q2, rfl, rfl⟩ := q; exact g T' h' _ rfl w' q1 q2
theorem own_getF (w : own_Wk Z EL n0 own bytes maxL ret nm p l e R s m args below meth c T ms k n h) {idx : Nat} {R0 O fn fd host : String} {v : Value} (wl : (Jvm.Cond.fieldLink own idx R0 fn fd).before a0 Z = true ∨ (Jvm.Cond.fieldLinkNest own idx R0 fn fd host).before a0 Z = true) (via : Via Z R0 O fn fd) (F : Fld Z h a O fn fd v) (hd : decode bytes pc = .ok (.getfield idx, 3)) (hp : pc + 3 = pc')
    (g : ∀ T' : State, own_Wk Z EL n0 own bytes maxL ret nm p l e R s m args below meth c T' ms k n h → own_Go Z EL n0 p e below s K N Q (T'.setTop (mkF m pc' Ls (v :: st)))) : own_Go Z EL n0 p e below s K N Q (T.setTop (mkF m pc Ls (.ref a :: st))) := by
  subst hp; exact own_same w (fun s' locs X eT hZ hown => getF X w.1 hZ hown wl via eT F (g := mkF m pc Ls (.ref a :: st)) rfl rfl (own_dec w hd)) g
theorem own_getS (w : own_Wk Z EL n0 own bytes maxL ret nm p l e R s m args below meth c T ms k n h) {idx : Nat} {R0 O fn fd host : String} {v : Value} (wl : (Jvm.Cond.fieldLink own idx R0 fn fd).before a0 Z = true ∨ (Jvm.Cond.fieldLinkNest own idx R0 fn fd host).before a0 Z = true) (via : Via Z R0 O fn fd) (F : Sta Z h O fn fd v) (hd : decode bytes pc = .ok (.getstatic idx, 3)) (hp : pc + 3 = pc')
    (g : ∀ T' : State, own_Wk Z EL n0 own bytes maxL ret nm p l e R s m args below meth c T' ms k n h → own_Go Z EL n0 p e below s K N Q (T'.setTop (mkF m pc' Ls (v :: st)))) : own_Go Z EL n0 p e below s K N Q (T.setTop (mkF m pc Ls st)) := by
  subst hp; exact own_same w (fun s' locs X eT hZ hown => getS2 X w.1 hZ hown wl via eT F (g := mkF m pc Ls st) rfl (own_dec w hd)) g
theorem own_putF (w : own_Wk Z EL n0 own bytes maxL ret nm p l e R s m args below meth c T ms k n h) {idx kk : Nat} {R0 O fn fd host C : String} {v ov : Value} {ty : FieldType} (wl : (Jvm.Cond.fieldLink own idx R0 fn fd).before a0 Z = true ∨ (Jvm.Cond.fieldLinkNest own idx R0 fn fd host).before a0 Z = true) (via : Via Z R0 O fn fd) (hm : a ∈ ms) (F : Fld Z h a O fn fd ov) (E : Exa Z h a C) (L : (Jvm.Cond.lays C O fn fd).before a0 Z = true ∨ ((Jvm.Cond.laysFinal C O fn fd).before a0 Z = true ∧ own = O ∧ nm = "<init>")) (wi : (Jvm.Cond.instantiable C kk).before a0 Z = true)
    (hty : parseFieldDescriptor fd = some ty) (hn : narrow ty v = v) (hf : fits ty v = true) (hd : decode bytes pc = .ok (.putfield idx, 3)) (hp : pc + 3 = pc')
    (g : ∀ (T' : State) (h' : Heap), own_Wk Z EL n0 own bytes maxL ret nm p l e R s m args below meth c T' ms k n h' → Wr h h' a (RoadKit.slotOf Z O fn fd) v → own_Go Z EL n0 p e below s K N Q (T'.setTop (mkF m pc' Ls st))) : own_Go Z EL n0 p e below s K N Q (T.setTop (mkF m pc Ls (v :: .ref a :: st))) := by
  subst hp; exact own_write w hm (fun s' locs X eT hZ hown => putF X w.1 hZ hown wl via eT F E (L.imp id fun q => ⟨q.1, q.2.1, w.2.2.2.2.2.1.trans q.2.2⟩) wi hty hn hf (g := mkF m pc Ls (v :: .ref a :: st)) rfl rfl (own_dec w hd)) g
theorem own_newO (w : own_Wk Z EL n0 own bytes maxL ret nm p l e R s m args below meth c T ms k n h) {idx nn : Nat} {C : String} (wl : (Jvm.Cond.classLink own idx C).before a0 Z = true) (wi : (Jvm.Cond.instantiable C nn).before a0 Z = true) (wz : (Jvm.Cond.initialized C).before a0 Z = true) (hd : decode bytes pc = .ok (.new idx, 3)) (hp : pc + 3 = pc') (hc : k + 1 ≤ R.cells) (hl : n + nn ≤ R.slots)
    (g : ∀ (T' : State) (h' : Heap) (a : Addr), h.size = a → own_Wk Z EL n0 own bytes maxL ret nm p l e R s m args below meth c T' (a :: ms) (k + 1) (n + nn) h' → Ext h h' → (Exa Z h' a C ∧ (∀ {O fn fd : String} {ty : FieldType}, Laid Z a0 C O fn fd → parseFieldDescriptor fd = some ty → Fld Z h' a O fn fd (defaultValue ty))) → own_Go Z EL n0 p e below s K N Q (T'.setTop (mkF m pc' Ls (.ref a :: st)))) : own_Go Z EL n0 p e below s K N Q (T.setTop (mkF m pc Ls st)) := by
  subst hp; exact own_made w (F' := fun a => mkF m (pc + 3) Ls (.ref a :: st)) (fun s' locs X eT hZ hown => by
    obtain ⟨T', h', X', e', E', A', D', -, st'⟩ := newO X w.1 hZ hown wl wi wz eT (g := mkF m pc Ls st) rfl (own_dec w hd) hc hl
    exact ⟨T', h', X', e', E', A'.lt, ⟨A', D'⟩, st'⟩) g
theorem own_newP (w : own_Wk Z EL n0 own bytes maxL ret nm p l e R s m args below meth c T ms k n h) {aty : ArrayType} {z : Int32} {cap : Nat} {vs : List Value} {dv : Value} (wl : (Jvm.Cond.arrayClass (newarray.typeOf aty)).before a0 Z = true) (hd : decode bytes pc = .ok (.newarray aty, 2)) (hp : pc + 2 = pc') (hz : ¬ z < 0) (hcap : z.toNatClampNeg ≤ cap) (hb : cap * 8 ≤ 536870912) (hdv : defaultValue (newarray.typeOf aty) = dv) (hvs : ∀ i, vs.getD i dv = dv) (hc : k + 1 ≤ R.cells) (hl : n + cap ≤ R.slots)
    (g : ∀ (T' : State) (h' : Heap) (a : Addr), h.size = a → own_Wk Z EL n0 own bytes maxL ret nm p l e R s m args below meth c T' (a :: ms) (k + 1) (n + cap) h' → Ext h h' → (∃ kA, Arv Z h' a kA (newarray.typeOf aty) z vs dv) → own_Go Z EL n0 p e below s K N Q (T'.setTop (mkF m pc' Ls (.ref a :: st)))) : own_Go Z EL n0 p e below s K N Q (T.setTop (mkF m pc Ls (.int z :: st))) := by
  subst hp hdv; exact own_made w (F' := fun a => mkF m (pc + 2) Ls (.ref a :: st)) (fun s' locs X eT hZ hown => by
    obtain ⟨T', h', cA, X', e', E', A', st'⟩ := newP X w.1 hZ wl eT (g := mkF m pc Ls (.int z :: st)) rfl (own_dec w hd) rfl hz hcap hb hc hl
    exact ⟨T', h', X', e', E', A'.lt, ⟨cA, (Arv.new A' hz).pad fun i => by rw [hvs]; rfl⟩, st'⟩) g
theorem own_stC (w : own_Wk Z EL n0 own bytes maxL ret nm p l e R s m args below meth c T ms k n h) {j : Int32} {x : Int32} {z : Int32} {kA : ClassId} {vs vs' : List Value} {dv xv : Value} {i : Nat} (hm : a ∈ ms) (A : Arv Z h a kA .char z vs dv) (hj : ¬ j < 0 ∧ j < z) (hi : j.toNatClampNeg = i) (hil : i < vs.length) (hxv : (.int (nar .char x)) = xv) (hfv : fits .char xv = true) (hvs : vs.set i xv = vs') (hd : decode bytes pc = .ok (.castore, 1)) (hp : pc + 1 = pc')
    (g : ∀ (T' : State) (h' : Heap), own_Wk Z EL n0 own bytes maxL ret nm p l e R s m args below meth c T' ms k n h' → Wr h h' a j.toNatClampNeg xv → Arv Z h' a kA .char z vs' dv → own_Go Z EL n0 p e below s K N Q (T'.setTop (mkF m pc' Ls st))) : own_Go Z EL n0 p e below s K N Q (T.setTop (mkF m pc Ls (.int x :: .int j :: .ref a :: st))) := by
  subst hp hvs hxv
  obtain ⟨cl, Ar, c1, S, M, H, G⟩ := A
  exact own_write w hm (fun s' locs X eT hZ hown => stC X w.1 hZ eT Ar (inb_of S hj) (g := mkF m pc Ls (.int x :: .int j :: .ref a :: st)) rfl rfl (own_dec w hd)) (fun T' h' w' W => g T' h' w' W (Arv.set Ar c1 S M H G hfv W i hi hil))
theorem own_stB (w : own_Wk Z EL n0 own bytes maxL ret nm p l e R s m args below meth c T ms k n h) {j : Int32} {x : Int32} {z : Int32} {kA : ClassId} {vs vs' : List Value} {dv xv : Value} {i : Nat} (hm : a ∈ ms) (A : Arv Z h a kA .byte z vs dv) (hj : ¬ j < 0 ∧ j < z) (hi : j.toNatClampNeg = i) (hil : i < vs.length) (hxv : (.int x.toInt8.toInt32) = xv) (hfv : fits .byte xv = true) (hvs : vs.set i xv = vs') (hd : decode bytes pc = .ok (.bastore, 1)) (hp : pc + 1 = pc')
    (g : ∀ (T' : State) (h' : Heap), own_Wk Z EL n0 own bytes maxL ret nm p l e R s m args below meth c T' ms k n h' → Wr h h' a j.toNatClampNeg xv → Arv Z h' a kA .byte z vs' dv → own_Go Z EL n0 p e below s K N Q (T'.setTop (mkF m pc' Ls st))) : own_Go Z EL n0 p e below s K N Q (T.setTop (mkF m pc Ls (.int x :: .int j :: .ref a :: st))) := by
  subst hp hvs hxv
  obtain ⟨cl, Ar, c1, S, M, H, G⟩ := A
  exact own_write w hm (fun s' locs X eT hZ hown => stB X w.1 hZ eT Ar (inb_of S hj) (g := mkF m pc Ls (.int x :: .int j :: .ref a :: st)) rfl rfl (own_dec w hd)) (fun T' h' w' W => g T' h' w' W (Arv.set Ar c1 S M H G hfv W i hi hil))
theorem own_stI (w : own_Wk Z EL n0 own bytes maxL ret nm p l e R s m args below meth c T ms k n h) {j : Int32} {x : Int32} {z : Int32} {kA : ClassId} {vs vs' : List Value} {dv xv : Value} {i : Nat} (hm : a ∈ ms) (A : Arv Z h a kA .int z vs dv) (hj : ¬ j < 0 ∧ j < z) (hi : j.toNatClampNeg = i) (hil : i < vs.length) (hxv : (.int x) = xv) (hfv : fits .int xv = true) (hvs : vs.set i xv = vs') (hd : decode bytes pc = .ok (.iastore, 1)) (hp : pc + 1 = pc')
    (g : ∀ (T' : State) (h' : Heap), own_Wk Z EL n0 own bytes maxL ret nm p l e R s m args below meth c T' ms k n h' → Wr h h' a j.toNatClampNeg xv → Arv Z h' a kA .int z vs' dv → own_Go Z EL n0 p e below s K N Q (T'.setTop (mkF m pc' Ls st))) : own_Go Z EL n0 p e below s K N Q (T.setTop (mkF m pc Ls (.int x :: .int j :: .ref a :: st))) := by
  subst hp hvs hxv
  obtain ⟨cl, Ar, c1, S, M, H, G⟩ := A
  exact own_write w hm (fun s' locs X eT hZ hown => stI X w.1 hZ eT Ar (inb_of S hj) (g := mkF m pc Ls (.int x :: .int j :: .ref a :: st)) rfl rfl (own_dec w hd)) (fun T' h' w' W => g T' h' w' W (Arv.set Ar c1 S M H G hfv W i hi hil))
theorem own_stJ (w : own_Wk Z EL n0 own bytes maxL ret nm p l e R s m args below meth c T ms k n h) {j : Int32} {x : Int64} {z : Int32} {kA : ClassId} {vs vs' : List Value} {dv xv : Value} {i : Nat} (hm : a ∈ ms) (A : Arv Z h a kA .long z vs dv) (hj : ¬ j < 0 ∧ j < z) (hi : j.toNatClampNeg = i) (hil : i < vs.length) (hxv : (.long x) = xv) (hfv : fits .long xv = true) (hvs : vs.set i xv = vs') (hd : decode bytes pc = .ok (.lastore, 1)) (hp : pc + 1 = pc')
    (g : ∀ (T' : State) (h' : Heap), own_Wk Z EL n0 own bytes maxL ret nm p l e R s m args below meth c T' ms k n h' → Wr h h' a j.toNatClampNeg xv → Arv Z h' a kA .long z vs' dv → own_Go Z EL n0 p e below s K N Q (T'.setTop (mkF m pc' Ls st))) : own_Go Z EL n0 p e below s K N Q (T.setTop (mkF m pc Ls (.long x :: .int j :: .ref a :: st))) := by
  subst hp hvs hxv
  obtain ⟨cl, Ar, c1, S, M, H, G⟩ := A
  exact own_write w hm (fun s' locs X eT hZ hown => stJ X w.1 hZ eT Ar (inb_of S hj) (g := mkF m pc Ls (.long x :: .int j :: .ref a :: st)) rfl rfl (own_dec w hd)) (fun T' h' w' W => g T' h' w' W (Arv.set Ar c1 S M H G hfv W i hi hil))
theorem own_ldC (w : own_Wk Z EL n0 own bytes maxL ret nm p l e R s m args below meth c T ms k n h) {j : Int32} {v : Value} {z : Int32} {kA : ClassId} {vs : List Value} {dv : Value} (A : Arv Z h a kA .char z vs dv) (hj : ¬ j < 0 ∧ j < z) (hv : vs.getD j.toNatClampNeg dv = v) (hd : decode bytes pc = .ok (.caload, 1)) (hp : pc + 1 = pc') (g : own_Go Z EL n0 p e below s K N Q (T.setTop (mkF m pc' Ls (v :: st)))) : own_Go Z EL n0 p e below s K N Q (T.setTop (mkF m pc Ls (.int j :: .ref a :: st))) := by
  subst hp
  obtain ⟨cl, Ar, c1, S, M, H, G⟩ := A
  exact own_pure w (fun s' locs X eT hZ hown t q => X.caload w.1 (by rw [eT]; exact Ar.1) (State.isArrayOf_alike hZ.alike Ar.2.1) Ar.2.2 (inb_of S hj) (H.at (inb_of S hj) hv) (g := mkF m pc Ls (.int j :: .ref a :: st)) rfl rfl (own_dec w hd) t q) g
theorem own_ldB (w : own_Wk Z EL n0 own bytes maxL ret nm p l e R s m args below meth c T ms k n h) {j : Int32} {v : Value} {z : Int32} {kA : ClassId} {vs : List Value} {dv : Value} (A : Arv Z h a kA .byte z vs dv) (hj : ¬ j < 0 ∧ j < z) (hv : vs.getD j.toNatClampNeg dv = v) (hd : decode bytes pc = .ok (.baload, 1)) (hp : pc + 1 = pc') (g : own_Go Z EL n0 p e below s K N Q (T.setTop (mkF m pc' Ls (v :: st)))) : own_Go Z EL n0 p e below s K N Q (T.setTop (mkF m pc Ls (.int j :: .ref a :: st))) := by
  subst hp
  obtain ⟨cl, Ar, c1, S, M, H, G⟩ := A
  exact own_pure w (fun s' locs X eT hZ hown t q => X.baloadBytes w.1 (by rw [eT]; exact Ar.1) (State.isArrayOf_alike hZ.alike Ar.2.1) Ar.2.2 (inb_of S hj) (H.at (inb_of S hj) hv) (g := mkF m pc Ls (.int j :: .ref a :: st)) rfl rfl (own_dec w hd) t q) g
theorem own_ldI (w : own_Wk Z EL n0 own bytes maxL ret nm p l e R s m args below meth c T ms k n h) {j : Int32} {v : Value} {z : Int32} {kA : ClassId} {vs : List Value} {dv : Value} (A : Arv Z h a kA .int z vs dv) (hj : ¬ j < 0 ∧ j < z) (hv : vs.getD j.toNatClampNeg dv = v) (hd : decode bytes pc = .ok (.iaload, 1)) (hp : pc + 1 = pc') (g : own_Go Z EL n0 p e below s K N Q (T.setTop (mkF m pc' Ls (v :: st)))) : own_Go Z EL n0 p e below s K N Q (T.setTop (mkF m pc Ls (.int j :: .ref a :: st))) := by
  subst hp
  obtain ⟨cl, Ar, c1, S, M, H, G⟩ := A
  exact own_pure w (fun s' locs X eT hZ hown t q => X.iaload w.1 (by rw [eT]; exact Ar.1) (State.isArrayOf_alike hZ.alike Ar.2.1) Ar.2.2 (inb_of S hj) (H.at (inb_of S hj) hv) (g := mkF m pc Ls (.int j :: .ref a :: st)) rfl rfl (own_dec w hd) t q) g
theorem own_ldJ (w : own_Wk Z EL n0 own bytes maxL ret nm p l e R s m args below meth c T ms k n h) {j : Int32} {v : Value} {z : Int32} {kA : ClassId} {vs : List Value} {dv : Value} (A : Arv Z h a kA .long z vs dv) (hj : ¬ j < 0 ∧ j < z) (hv : vs.getD j.toNatClampNeg dv = v) (hd : decode bytes pc = .ok (.laload, 1)) (hp : pc + 1 = pc') (g : own_Go Z EL n0 p e below s K N Q (T.setTop (mkF m pc' Ls (v :: st)))) : own_Go Z EL n0 p e below s K N Q (T.setTop (mkF m pc Ls (.int j :: .ref a :: st))) := by
  subst hp
  obtain ⟨cl, Ar, c1, S, M, H, G⟩ := A
  exact own_pure w (fun s' locs X eT hZ hown t q => X.laload w.1 (by rw [eT]; exact Ar.1) (State.isArrayOf_alike hZ.alike Ar.2.1) Ar.2.2 (inb_of S hj) (H.at (inb_of S hj) hv) (g := mkF m pc Ls (.int j :: .ref a :: st)) rfl rfl (own_dec w hd) t q) g
theorem own_len (w : own_Wk Z EL n0 own bytes maxL ret nm p l e R s m args below meth c T ms k n h) {z : Int32} {kA : ClassId} {ty : FieldType} {vs : List Value} {dv : Value} (A : Arv Z h a kA ty z vs dv) (hd : decode bytes pc = .ok (.arraylength, 1)) (hp : pc + 1 = pc') (g : own_Go Z EL n0 p e below s K N Q (T.setTop (mkF m pc' Ls (.int z :: st)))) : own_Go Z EL n0 p e below s K N Q (T.setTop (mkF m pc Ls (.ref a :: st))) := by
  subst hp
  obtain ⟨cl, Ar, c1, S, M, H, G⟩ := A
  exact own_pure w (fun s' locs X eT hZ hown t q => X.arraylength w.1 (by rw [eT]; exact Ar.1) (State.isArrayOf_alike hZ.alike Ar.2.1) (g := mkF m pc Ls (.ref a :: st)) rfl rfl (own_dec w hd) t (by rw [len_of S M]; exact q)) g
theorem own_ldcI (w : own_Wk Z EL n0 own bytes maxL ret nm p l e R s m args below meth c T ms k n h) {idx : Nat} {x : Int32} (wl : (Jvm.Cond.constant own idx x).before a0 Z = true) (hd : decode bytes pc = .ok (.ldc idx, 2)) (hp : pc + 2 = pc') (g : own_Go Z EL n0 p e below s K N Q (T.setTop (mkF m pc' Ls (.int x :: st)))) : own_Go Z EL n0 p e below s K N Q (T.setTop (mkF m pc Ls st)) := by
  subst hp
  exact own_pure w (fun s' locs X eT hZ hown t q => X.ldcInt w.1 hown (mv hZ wl) (g := mkF m pc Ls st) rfl (own_dec w hd) t q) g
theorem own_ldc2J (w : own_Wk Z EL n0 own bytes maxL ret nm p l e R s m args below meth c T ms k n h) {idx : Nat} {x : Int64} (wl : (Jvm.Cond.constantLong own idx x).before a0 Z = true) (hd : decode bytes pc = .ok (.ldc2_w idx, 3)) (hp : pc + 3 = pc') (g : own_Go Z EL n0 p e below s K N Q (T.setTop (mkF m pc' Ls (.long x :: st)))) : own_Go Z EL n0 p e below s K N Q (T.setTop (mkF m pc Ls st)) := by
  subst hp
  exact own_pure w (fun s' locs X eT hZ hown t q => X.ldc2Long w.1 hown (mv hZ wl) (g := mkF m pc Ls st) rfl (own_dec w hd) t q) g
theorem own_ldA (w : own_Wk Z EL n0 own bytes maxL ret nm p l e R s m args below meth c T ms k n h) {j : Int32} {v : Value} {z : Int32} {kA : ClassId} {ty : FieldType} {vs : List Value} {dv : Value} (A : Arv Z h a kA ty z vs dv) (hty : ty.isReference = true) (hj : ¬ j < 0 ∧ j < z) (hv : vs.getD j.toNatClampNeg dv = v) (hd : decode bytes pc = .ok (.aaload, 1)) (hp : pc + 1 = pc') (g : own_Go Z EL n0 p e below s K N Q (T.setTop (mkF m pc' Ls (v :: st)))) : own_Go Z EL n0 p e below s K N Q (T.setTop (mkF m pc Ls (.int j :: .ref a :: st))) := by
  subst hp
  obtain ⟨cl, Ar, c1, S, M, H, G⟩ := A
  exact own_pure w (fun s' locs X eT hZ hown t q => X.aaload w.1 (by rw [eT]; exact Ar.1) (State.isArrayOf_alike hZ.alike Ar.2.1) hty Ar.2.2 (inb_of S hj) (H.at (inb_of S hj) hv) (g := mkF m pc Ls (.int j :: .ref a :: st)) rfl rfl (own_dec w hd) t q) g
theorem own_castN (w : own_Wk Z EL n0 own bytes maxL ret nm p l e R s m args below meth c T ms k n h) {idx : Nat} (hd : decode bytes pc = .ok (.checkcast idx, 3)) (hp : pc + 3 = pc') (g : own_Go Z EL n0 p e below s K N Q (T.setTop (mkF m pc' Ls (.null :: st)))) : own_Go Z EL n0 p e below s K N Q (T.setTop (mkF m pc Ls (.null :: st))) := by
  subst hp
  exact own_pure w (fun s' locs X eT hZ hown t q => X.checkcastNull w.1 (g := mkF m pc Ls (.null :: st)) rfl rfl (own_dec w hd) t q) g
theorem own_instN (w : own_Wk Z EL n0 own bytes maxL ret nm p l e R s m args below meth c T ms k n h) {idx : Nat} (hd : decode bytes pc = .ok (.instanceof idx, 3)) (hp : pc + 3 = pc') (g : own_Go Z EL n0 p e below s K N Q (T.setTop (mkF m pc' Ls (.int 0 :: st)))) : own_Go Z EL n0 p e below s K N Q (T.setTop (mkF m pc Ls (.null :: st))) := by
  subst hp
  exact own_pure w (fun s' locs X eT hZ hown t q => X.instanceofNull w.1 (g := mkF m pc Ls (.null :: st)) rfl rfl (own_dec w hd) t q) g
theorem own_acopy (w : own_Wk Z EL n0 own bytes maxL ret nm p l e R s m args below meth c T ms k n h) {b : Addr} {idx W : Nat} {kA kB : ClassId} {ty : FieldType} {z z' sp dp nn : Int32} {vs vd us vs' : List Value} {dv dd : Value} (w1 : (Jvm.Cond.methodLink own idx Jvm.Stand.acN).before a0 Z = true) (w2 : (Jvm.Cond.native Jvm.Stand.acN).before a0 Z = true) (w3 : (Jvm.Cond.static Jvm.Stand.acN).before a0 Z = true) (w4 : (Jvm.Cond.initialized "java/lang/System").before a0 Z = true)
    (hm : b ∈ ms) (A : Arv Z h a kA ty z vs dv) (B : Arv Z h b kB ty z' vd dd) (hty : refKind ty = false) (h1 : ¬ sp < 0) (h2 : ¬ dp < 0) (h3 : ¬ nn < 0) (h4 : sp.toNatClampNeg + nn.toNatClampNeg ≤ z.toNatClampNeg) (h5 : dp.toNatClampNeg + nn.toNatClampNeg ≤ z'.toNatClampNeg) (hus : us = (List.range nn.toNatClampNeg).map fun i => vs.getD (sp.toNatClampNeg + i) dv) (hl : dp.toNatClampNeg + nn.toNatClampNeg ≤ vd.length) (hvs : vd.take dp.toNatClampNeg ++ us ++ vd.drop (dp.toNatClampNeg + nn.toNatClampNeg) = vs')
    (hsz : Ls.size = maxL) (hd : decode bytes pc = .ok (.invokestatic idx, 3)) (hp : pc + 3 = pc') (hf : 1 ≤ R.frames) (hW : (st.map fun v => v.category).sum ≤ W) (hlo : W + (nativeFrameWords "java/lang/System" "arraycopy" 5 + 11) ≤ R.locals)
    (g : ∀ (T' : State) (h' : Heap), own_Wk Z EL n0 own bytes maxL ret nm p l e R s m args below meth c T' ms k n h' → Keep h h' [b] → Arv Z h' b kB ty z' vs' dd → own_Go Z EL n0 p e below s K N Q (T'.setTop (mkF m pc' Ls st))) : own_Go Z EL n0 p e below s K N Q (T.setTop (mkF m pc Ls (.int nn :: .int dp :: .ref b :: .int sp :: .ref a :: st))) := by
  subst hp hvs
  refine own_coreL w (k' := k) (n' := n) (ws := [b]) (P := fun h' new F'' => Arv Z h' b kB ty z' (vd.take dp.toNatClampNeg ++ us ++ vd.drop (dp.toNatClampNeg + nn.toNatClampNeg)) dd ∧ new = [] ∧ F'' = mkF m (pc + 3) Ls st) (allS hm all0) (fun s' locs X eT hZ hown Nf => ?_) (fun T' h' new F'' w' Kp q => ?_)
  · obtain ⟨T', h', L, X', e', NL, Kp, B', st'⟩ := cpA X w.1 hZ hown w1 w2 w3 w4 eT A B (Or.inl ⟨rfl, hty⟩) h1 h2 h3 h4 h5 hus hl Nf (own_mine w b hm).1 (g := mkF m pc Ls (.int nn :: .int dp :: .ref b :: .int sp :: .ref a :: st)) rfl (by rw [w.2.2.1]; exact hsz) rfl (own_dec w hd) hf (W := W) (by show 2 * 0 + _ ≤ _; omega) hlo
    exact ⟨T', h', L, [], _, X', e', Kp, NL, all0, ⟨B', rfl, rfl⟩, st'⟩
  · obtain ⟨q1, rfl, rfl⟩ := q; exact g T' h' w' Kp q1
theorem own_clone (w : own_Wk Z EL n0 own bytes maxL ret nm p l e R s m args below meth c T ms k n h) {idx W cap : Nat} {ad : String} {kA : ClassId} {ty : FieldType} {z : Int32} {vs : List Value} {dv : Value} (w1 : (Jvm.Cond.methodLink own idx ⟨ad, "clone", "()Ljava/lang/Object;"⟩).before a0 Z = true) (w2 : (Jvm.Cond.sameMethod ad "java/lang/Object" "clone" "()Ljava/lang/Object;").before a0 Z = true) (w3 : (Jvm.Cond.native ⟨"java/lang/Object", "clone", "()Ljava/lang/Object;"⟩).before a0 Z = true) (w4 : (Jvm.Cond.instanceMethod ⟨"java/lang/Object", "clone", "()Ljava/lang/Object;"⟩).before a0 Z = true) (w5 : (Jvm.Cond.selects ad ⟨ad, "clone", "()Ljava/lang/Object;"⟩ ⟨"java/lang/Object", "clone", "()Ljava/lang/Object;"⟩).before a0 Z = true) (w6 : (Jvm.Cond.castable ad "java/lang/Cloneable").before a0 Z = true)
    (A : Arv Z h a kA ty z vs dv) (E : Exa Z h a ad) (hsz : Ls.size = maxL) (hd : decode bytes pc = .ok (.invokevirtual idx, 3)) (hp : pc + 3 = pc') (hf : 1 ≤ R.frames) (hW : (st.map fun v => v.category).sum ≤ W) (hl : W + 14 ≤ R.locals) (hcap : z.toNatClampNeg ≤ cap) (hc : k + 1 ≤ R.cells) (hn : n + cap ≤ R.slots)
    (g : ∀ (T' : State) (h' : Heap) (b : Addr), h.size = b → own_Wk Z EL n0 own bytes maxL ret nm p l e R s m args below meth c T' (b :: ms) (k + 1) (n + cap) h' → Ext h h' → (Arv Z h' b kA ty z vs dv ∧ Exa Z h' b ad) → own_Go Z EL n0 p e below s K N Q (T'.setTop (mkF m pc' Ls (.ref b :: st)))) : own_Go Z EL n0 p e below s K N Q (T.setTop (mkF m pc Ls (.ref a :: st))) := by
  subst hp; exact own_made w (F' := fun b => mkF m (pc + 3) Ls (.ref b :: st)) (fun s' locs X eT hZ hown => by
    obtain ⟨T', h', X', e', E', A', E2, st'⟩ := cloneH X w.1 hZ hown w1 w2 w3 w4 w5 w6 eT (hs := []) A E (g := mkF m pc Ls (.ref a :: st)) rfl (by rw [w.2.2.1]; exact hsz) rfl (own_dec w hd) hf (W := W) (by show 2 * 0 + _ ≤ _; omega) hl hcap hc hn
    exact ⟨T', h', X', e', E', E2.lt, ⟨A', E2⟩, st'⟩) g
theorem own_castY (w : own_Wk Z EL n0 own bytes maxL ret nm p l e R s m args below meth c T ms k n h) {idx : Nat} {C : String} (wl : (Jvm.Cond.classLink own idx C).before a0 Z = true) (I : Ins Z h a C true) (hd : decode bytes pc = .ok (.checkcast idx, 3)) (hp : pc + 3 = pc') (g : ∀ T' : State, own_Wk Z EL n0 own bytes maxL ret nm p l e R s m args below meth c T' ms k n h → own_Go Z EL n0 p e below s K N Q (T'.setTop (mkF m pc' Ls (.ref a :: st)))) : own_Go Z EL n0 p e below s K N Q (T.setTop (mkF m pc Ls (.ref a :: st))) := by
  subst hp; exact own_same w (fun s' locs X eT hZ hown => castY X w.1 hZ hown wl eT I (g := mkF m pc Ls (.ref a :: st)) rfl rfl (own_dec w hd)) g
theorem own_instY (w : own_Wk Z EL n0 own bytes maxL ret nm p l e R s m args below meth c T ms k n h) {idx : Nat} {C : String} (wl : (Jvm.Cond.classLink own idx C).before a0 Z = true) (I : Ins Z h a C true) (hd : decode bytes pc = .ok (.instanceof idx, 3)) (hp : pc + 3 = pc') (g : ∀ T' : State, own_Wk Z EL n0 own bytes maxL ret nm p l e R s m args below meth c T' ms k n h → own_Go Z EL n0 p e below s K N Q (T'.setTop (mkF m pc' Ls (.int 1 :: st)))) : own_Go Z EL n0 p e below s K N Q (T.setTop (mkF m pc Ls (.ref a :: st))) := by
  subst hp; exact own_same w (fun s' locs X eT hZ hown => instY X w.1 hZ hown wl eT I (g := mkF m pc Ls (.ref a :: st)) rfl rfl (own_dec w hd)) g
theorem own_initO (w : own_Wk Z EL n0 own bytes maxL ret nm p l e R s m args below meth c T ms k n h) {idx W : Nat} (w1 : (Jvm.Cond.methodLink own idx Lib.objectInit).before a0 Z = true) (w2 : (Jvm.Cond.instanceMethod Lib.objectInit).before a0 Z = true) (w3 : (Jvm.Cond.code Lib.objectInit ⟨#[0xb1]⟩ 1 none).before a0 Z = true) (hsz : Ls.size = maxL) (hd : decode bytes pc = .ok (.invokespecial idx, 3)) (hp : pc + 3 = pc') (hf : 1 ≤ R.frames) (hW : (st.map fun v => v.category).sum ≤ W) (hl : W + 12 ≤ R.locals)
    (g : ∀ T' : State, own_Wk Z EL n0 own bytes maxL ret nm p l e R s m args below meth c T' ms k n h → own_Go Z EL n0 p e below s K N Q (T'.setTop (mkF m pc' Ls st))) : own_Go Z EL n0 p e below s K N Q (T.setTop (mkF m pc Ls (.ref a :: st))) := by
  subst hp; exact own_same w (fun s' locs X eT hZ hown => initO X w.1 hZ hown w1 w2 w3 eT (g := mkF m pc Ls (.ref a :: st)) rfl (by rw [w.2.2.1]; exact hsz) rfl (own_dec w hd) hf (W := W) (by show 2 * 0 + _ ≤ _; omega) hl) g
theorem own_acmp (w : own_Wk Z EL n0 own bytes maxL ret nm p l e R s m args below meth c T ms k n h) {cd : ClassFile.ACond} {x y : Value} {o : Int} {pcY : Nat} (hx' : x.isRef = true) (hy' : y.isRef = true) (hd : decode bytes pc = .ok (.if_acmp cd o, 3)) (hp : pc + 3 = pc') (ho : 0 ≤ (pc : Int) + o) (hq : ((pc : Int) + o).toNat = pcY) (gT : (match cd with | .eq => x = y | .ne => ¬ x = y) → own_Go Z EL n0 p e below s K N Q (T.setTop (mkF m pcY Ls st))) (gF : (match cd with | .eq => ¬ x = y | .ne => x = y) → own_Go Z EL n0 p e below s K N Q (T.setTop (mkF m pc' Ls st))) : own_Go Z EL n0 p e below s K N Q (T.setTop (mkF m pc Ls (y :: x :: st))) := by
  subst hp
  cases cd <;> by_cases q : x = y
  · exact own_go (fun _ z => XT.acmpYes (own_here w) w.1 rfl (pc0 := pc) rfl (own_dec w hd) rfl hx' hy' (by simp [XT.acmp, q]) ho hq z) (gT q)
  · exact own_go (fun _ z => XT.acmpNo (own_here w) w.1 rfl (own_dec w hd) rfl hx' hy' (by simp [XT.acmp, q]) z) (gF q)
  · exact own_go (fun _ z => XT.acmpNo (own_here w) w.1 rfl (own_dec w hd) rfl hx' hy' (by simp [XT.acmp, q]) z) (gF q)
  · exact own_go (fun _ z => XT.acmpYes (own_here w) w.1 rfl (pc0 := pc) rfl (own_dec w hd) rfl hx' hy' (by simp [XT.acmp, q]) ho hq z) (gT q)
theorem own_callIB (w : own_Wk Z EL n0 own bytes maxL ret nm p l e R s m args below meth c T ms k n h) {idx : Nat} {y : MethodName} {bytes' : ByteArray} {maxL' : Nat} {argsL rest : List Value} {ws : List Addr} {QQ : Option Value → Heap → List Loc → Prop} {ps : List FieldType} {rt : Option FieldType} {W kc nc : Nat} (hy1 : y.name = "<init>") (wl : (Jvm.Cond.methodLink own idx y).before a0 Z = true) (wt : (Jvm.Cond.instanceMethod y).before a0 Z = true) (wc : (Jvm.Cond.code y bytes' maxL' none).before a0 Z = true) (hy : y.cls ≠ "java/lang/invoke/MethodHandle" ∧ y.cls ≠ "java/lang/invoke/VarHandle")
    (bk : ∀ s' : State, Z.Warmed39 s'.vm → Back l R p e below s' args y 3 W (fun P aa => aa = (.ref a :: argsL).toArray ∧ P.U.heap = h ∧ P.cells + kc ≤ R.cells ∧ P.slots + nc ≤ R.slots) (fun P _ v B => ∃ L, QQ v B.U.heap L ∧ B.locs = P.locs ++ L ∧ B.cells = P.cells + kc ∧ B.slots = P.slots + nc)) (hws : ∀ x ∈ ws, x ∈ ms) (hpost : ∀ v h' L, QQ v h' L → Keep h h' ws ∧ Fr n0 L) (hst : st = argsL.reverse ++ .ref a :: rest) (hsz : Ls.size = maxL) (hpd : parseMethodDescriptor y.desc = some ⟨ps, rt⟩) (hln : argsL.length = ps.length) (hd : decode bytes pc = .ok (.invokespecial idx, 3)) (hp : pc + 3 = pc') (hW : (rest.map fun v => v.category).sum ≤ W) (hc : k + kc ≤ R.cells) (hn : n + nc ≤ R.slots)
    (g : ∀ (T' : State) (h' : Heap) (v : Option Value), own_Wk Z EL n0 own bytes maxL ret nm p l e R s m args below meth c T' ms (k + kc) (n + nc) h' → Keep h h' ws → (∃ L, QQ v h' L) → own_Go Z EL n0 p e below s K N Q (T'.setTop (mkF m pc' Ls (v.toList ++ rest)))) : own_Go Z EL n0 p e below s K N Q (T.setTop (mkF m pc Ls st)) := by
  subst hp hst
  refine own_core w (k' := k + kc) (n' := n + nc) (ws := ws) (P := fun h' new F'' => ∃ v L, QQ v h' L ∧ new = [] ∧ F'' = mkF m (pc + 3) Ls (v.toList ++ rest)) hws (fun s' locs X eT hZ hown => by
    obtain ⟨v, _, ⟨T', L', k', n'⟩, -, X', ⟨L, hQ, l1, l2, l3⟩, st'⟩ := X.specialBack w.1 (y := y) hy1 hown (mvT hZ wl) (mvT hZ wt) (mvT hZ wc) hy (bk s' hZ) (g := mkF m pc Ls (argsL.reverse ++ .ref a :: rest)) rfl (by rw [w.2.2.1]; exact hsz) (Steps.refl _) (a := a) (argsL := argsL) (rest := rest) (lenOf hpd hln) rfl (by show 2 * 0 + _ ≤ _; omega) (own_dec w hd) (fun _ _ => ⟨rfl, eT, hc, hn⟩)
    dsimp only [Pt.U, Pt.locs, Pt.cells, Pt.slots] at X' hQ l1 l2 l3 st'
    subst l1 l2 l3
    exact ⟨T', _, L, [], _, X', rfl, (hpost _ _ _ hQ).1, (hpost _ _ _ hQ).2, all0, ⟨v, L, hQ, rfl, rfl⟩, fun _ q => st'.trans q⟩) (fun T' h' new F'' w' Kp q => by
    obtain ⟨v, L, q1, rfl, rfl⟩ := q
    exact g T' h' v w' Kp ⟨L, q1⟩)
theorem own_callVB (w : own_Wk Z EL n0 own bytes maxL ret nm p l e R s m args below meth c T ms k n h) {idx : Nat} {y z : MethodName} {C : String} {argsL rest : List Value} {ws : List Addr} {QQ : Option Value → Heap → List Loc → Prop} {ps : List FieldType} {rt : Option FieldType} {W kc nc : Nat} (wl : (Jvm.Cond.methodLink own idx y).before a0 Z = true) (wd : (Jvm.Cond.declares y).before a0 Z = true) (hnf : ∀ s' : State, Z.Warmed39 s'.vm → NotFace s' y) (wsel : (Jvm.Cond.selects C y z).before a0 Z = true) (wt : (Jvm.Cond.instanceMethod z).before a0 Z = true) (hy : y.cls ≠ "java/lang/invoke/MethodHandle" ∧ y.cls ≠ "java/lang/invoke/VarHandle") (E : Exa Z h a C)
    (bk : ∀ s' : State, Z.Warmed39 s'.vm → Back l R p e below s' args z 3 W (fun P aa => aa = (.ref a :: argsL).toArray ∧ P.U.heap = h ∧ P.cells + kc ≤ R.cells ∧ P.slots + nc ≤ R.slots) (fun P _ v B => ∃ L, QQ v B.U.heap L ∧ B.locs = P.locs ++ L ∧ B.cells = P.cells + kc ∧ B.slots = P.slots + nc)) (hws : ∀ x ∈ ws, x ∈ ms) (hpost : ∀ v h' L, QQ v h' L → Keep h h' ws ∧ Fr n0 L) (hst : st = argsL.reverse ++ .ref a :: rest) (hsz : Ls.size = maxL) (hpd : parseMethodDescriptor y.desc = some ⟨ps, rt⟩) (hln : argsL.length = ps.length) (hd : decode bytes pc = .ok (.invokevirtual idx, 3)) (hp : pc + 3 = pc') (hW : (rest.map fun v => v.category).sum ≤ W) (hc : k + kc ≤ R.cells) (hn : n + nc ≤ R.slots)
    (g : ∀ (T' : State) (h' : Heap) (v : Option Value), own_Wk Z EL n0 own bytes maxL ret nm p l e R s m args below meth c T' ms (k + kc) (n + nc) h' → Keep h h' ws → (∃ L, QQ v h' L) → own_Go Z EL n0 p e below s K N Q (T'.setTop (mkF m pc' Ls (v.toList ++ rest)))) : own_Go Z EL n0 p e below s K N Q (T.setTop (mkF m pc Ls st)) := by
  subst hp hst
  refine own_core w (k' := k + kc) (n' := n + nc) (ws := ws) (P := fun h' new F'' => ∃ v L, QQ v h' L ∧ new = [] ∧ F'' = mkF m (pc + 3) Ls (v.toList ++ rest)) hws (fun s' locs X eT hZ hown => by
    obtain ⟨cq, kq, qa, qb, qc⟩ := isOf hZ eT E
    obtain ⟨v, _, ⟨T', L', k', n'⟩, -, X', ⟨L, hQ, l1, l2, l3⟩, st'⟩ := X.virtualBack w.1 (y := y) (z := z) hown (mvT hZ wl) (mvT hZ wd) (hnf _ hZ) (mvT hZ wsel) (mvT hZ wt) hy (bk s' hZ) qa qc (g := mkF m pc Ls (argsL.reverse ++ .ref a :: rest)) rfl (by rw [w.2.2.1]; exact hsz) (Steps.refl _) (argsL := argsL) (rest := rest) (lenOf hpd hln) rfl (by show 2 * 0 + _ ≤ _; omega) (own_dec w hd) (fun _ _ => ⟨rfl, eT, hc, hn⟩)
    dsimp only [Pt.U, Pt.locs, Pt.cells, Pt.slots] at X' hQ l1 l2 l3 st'
    subst l1 l2 l3
    exact ⟨T', _, L, [], _, X', rfl, (hpost _ _ _ hQ).1, (hpost _ _ _ hQ).2, all0, ⟨v, L, hQ, rfl, rfl⟩, fun _ q => st'.trans q⟩) (fun T' h' new F'' w' Kp q => by
    obtain ⟨v, L, q1, rfl, rfl⟩ := q
    exact g T' h' v w' Kp ⟨L, q1⟩)
end OwnKit
theorem own_hws {Z : State} {a0 : Array Value} (hw : ∀ d ∈ tables_1, d.before a0 Z = true) : ∀ d ∈ StrChars.Road.words, d.before a0 Z = true := fun d hd => hw d ((by decide +kernel : ∀ d ∈ StrChars.Road.words, d ∈ tables_1) d hd)
theorem own_hwq {Z : State} {a0 : Array Value} (hw : ∀ d ∈ tables_1, d.before a0 Z = true) : ∀ d ∈ StrChars.Road.wordsEq, d.before a0 Z = true := fun d hd => hw d ((by decide +kernel : ∀ d ∈ StrChars.Road.wordsEq, d ∈ tables_1) d hd)
theorem own_hwl {Z : State} {a0 : Array Value} (hw : ∀ d ∈ tables_1, d.before a0 Z = true) : ∀ d ∈ StrChars.Road.wordsLen, d.before a0 Z = true := fun d hd => hw d ((by decide +kernel : ∀ d ∈ StrChars.Road.wordsLen, d ∈ tables_1) d hd)
theorem own_cod {cs : List Int32} {n : Nat} (hn : cs.length = n) (hp : ∀ c ∈ cs, ¬ c < 0 ∧ ¬ (255 : Int32) < c) : StrChars.Road.CodA cs 0 (Int32.ofNat n) ((cs.map fun (c : Int32) => c.toInt8.toInt32).map Value.int) := StrChars.Road.codOf hn (fun c hc => (hp c hc).2)
theorem own_hst {Z : State} {a0 : Array Value} (hw : ∀ d ∈ tables_1, d.before a0 Z = true) : ∀ d ∈ Bundle.stringAtoms, d.before a0 Z = true := fun d hd => hw d ((by decide +kernel : ∀ d ∈ Bundle.stringAtoms, d ∈ tables_1) d hd)
def own_sl (vs : List Value) (b d : Nat) : List Value := (List.range d).map fun i => vs.getD (b + i) (.int 0)
abbrev own_Rg (bI eI dI N : Int32) (b d : Nat) : Prop := ¬ bI < 0 ∧ ¬ dI < 0 ∧ eI - bI = dI ∧ bI + dI = eI ∧ bI.toNatClampNeg = b ∧ dI.toNatClampNeg = d ∧ b + d ≤ N.toNatClampNeg ∧ ¬ eI < bI ∧ ¬ N < eI ∧ ¬ (N - bI) < dI
theorem own_z0 : (0 : Int32).toNatClampNeg = 0 := rfl
theorem own_cp5 {dI : Int32} : (0 : Int32).toNatClampNeg + dI.toNatClampNeg ≤ dI.toNatClampNeg := by rw [own_z0]; omega
theorem own_cpl {dI : Int32} {d : Nat} (h : dI.toNatClampNeg = d) (dv : Value) : (0 : Int32).toNatClampNeg + dI.toNatClampNeg ≤ (List.replicate d dv).length := by rw [own_z0, h, List.length_replicate]; omega
theorem own_cpv {dI : Int32} {d : Nat} (h : dI.toNatClampNeg = d) (dv : Value) (us : List Value) : (List.replicate d dv).take (0 : Int32).toNatClampNeg ++ us ++ (List.replicate d dv).drop ((0 : Int32).toNatClampNeg + dI.toNatClampNeg) = us := by rw [own_z0, h]; simp
theorem own_cpu {bI dI : Int32} {b d : Nat} (h1 : bI.toNatClampNeg = b) (h2 : dI.toNatClampNeg = d) (vs : List Value) : own_sl vs b d = (List.range dI.toNatClampNeg).map fun i => vs.getD (bI.toNatClampNeg + i) (.int 0) := by rw [h1, h2]; rfl
theorem own_cp4 {bI dI N : Int32} {b d : Nat} (h1 : bI.toNatClampNeg = b) (h2 : dI.toNatClampNeg = d) (h : b + d ≤ N.toNatClampNeg) : bI.toNatClampNeg + dI.toNatClampNeg ≤ N.toNatClampNeg := by rw [h1, h2]; exact h
theorem own_ai {x y : Int32} (h1 : ¬ x < y) (h2 : ¬ y < x) : x = y := by
  rw [Int32.lt_iff_toInt_lt] at h1 h2; exact Int32.toInt_inj.mp (by omega)
def own_put (ws : List Value) (d : Nat) (vs : List Value) : List Value := ws.take d ++ vs ++ ws.drop (d + vs.length)
abbrev own_Pu (dp N M : Int32) (d n : Nat) (ws vs : List Value) : Prop := ¬ dp < 0 ∧ ¬ N < 0 ∧ dp.toNatClampNeg = d ∧ N.toNatClampNeg = n ∧ vs.length = n ∧ d + n ≤ M.toNatClampNeg ∧ d + n ≤ ws.length
theorem own_pu5 {dp N M : Int32} {d n : Nat} {ws vs : List Value} (h : own_Pu dp N M d n ws vs) : dp.toNatClampNeg + N.toNatClampNeg ≤ M.toNatClampNeg := by rw [h.2.2.1, h.2.2.2.1]; exact h.2.2.2.2.2.1
theorem own_pul {dp N M : Int32} {d n : Nat} {ws vs : List Value} (h : own_Pu dp N M d n ws vs) : dp.toNatClampNeg + N.toNatClampNeg ≤ ws.length := by rw [h.2.2.1, h.2.2.2.1]; exact h.2.2.2.2.2.2
theorem own_puv {dp N M : Int32} {d n : Nat} {ws vs : List Value} (h : own_Pu dp N M d n ws vs) : ws.take dp.toNatClampNeg ++ vs ++ ws.drop (dp.toNatClampNeg + N.toNatClampNeg) = own_put ws d vs := by rw [h.2.2.1, h.2.2.2.1, own_put, h.2.2.2.2.1]
theorem own_puu {dp N M : Int32} {d n : Nat} {ws vs : List Value} (h : own_Pu dp N M d n ws vs) : vs = (List.range N.toNatClampNeg).map fun i => vs.getD ((0 : Int32).toNatClampNeg + i) (.int 0) := by
  rw [h.2.2.2.1, ← h.2.2.2.2.1, own_z0]
  apply List.ext_getElem
  · simp
  · intro i h1 h2; simp [List.getD, h1]
theorem own_shl0 (x : Int32) : x <<< ((0 : Int32) &&& 31) = x := by apply Int32.toBitVec_inj.mp; simp
theorem own_shr0 (x : Int32) : x >>> ((0 : Int32) &&& 31) = x := by apply Int32.toBitVec_inj.mp; simp
theorem own_nf {s' : State} {args : Array Value} {y y2 z2 : MethodName} {C : String} (w : (Jvm.Cond.selects C y2 z2).before args s' = true) (hc : z2.cls = y.cls) : NotFace s' y := by
  intro r0 hn
  obtain ⟨c2, r2, m2, -, -, q3, -, kP, hkP, hkPi⟩ := Cond.selects_spec w
  have h1 := findClass_of_methodNamed hn
  have h2 := findClass_of_methodNamed q3
  rw [hc, h1] at h2
  have e : r0.cls = m2.cls := Option.some.inj h2
  exact ⟨kP, by rw [e]; exact hkP, hkPi⟩
theorem own_d0_0 : decode jdk_65_method_131_code 0 = .ok (.iload_n 1, 1) := by decide +kernel
theorem own_d0_1 : decode jdk_65_method_131_code 1 = .ok (.iload_n 0, 1) := by decide +kernel
theorem own_d0_2 : decode jdk_65_method_131_code 2 = .ok (.if_icmp .ge 35, 3) := by decide +kernel
theorem own_d0_37 : decode jdk_65_method_131_code 37 = .ok (.return_, 1) := by decide +kernel
theorem own_ef_ckLen (m : MethodId) (bI : Int32) (eI : Int32) : entryFrame m #[(.int bI), (.int eI)] 2 = mkF m 0 #[.val (.int bI), .val (.int eI)] [] := by first | (simp [entryFrame, mkF, argsToLocals, Value.category]; done) | rfl
theorem own_pf0 : plainFor (⟨"java/util/Arrays", "checkLength", "(II)V"⟩ : MethodName) = true := by first | exact plainFor_of_name (by first | (simp [plainName, overriddenIn]; done) | decide +kernel) | decide +kernel
def own_Q_ckLen (Z : State) (h0 : Heap) (bI : Int32) (eI : Int32) (v : Option Value) (h : Heap) (ms : List Addr) : Prop := (h0 = h) ∧ (ms = []) ∧ (v = none)
set_option maxRecDepth 65536 in
set_option maxHeartbeats 40000000 in
theorem own_ct_ckLen (l : Launch) (Z : State) (a0 : Array Value) (hw : ∀ d ∈ tables_1, d.before a0 Z = true) (EL : List (String × Nat)) (hE : EW Z a0 EL) (n0 : Nat) (ws : List Jvm.Cond) (h0 : Heap) (O : Old Z n0 h0) (bI : Int32) (eI : Int32) (hbe : ¬ eI < bI) :
    own_Ct l Z EL n0 (⟨"java/util/Arrays", "checkLength", "(II)V"⟩ : MethodName) jdk_65_method_131_code 2 none ws ({ frames := 0, cells := 0, slots := 0, locals := 0 } : Room) #[(.int bI), (.int eI)] h0 [] (own_Q_ckLen Z h0 bI eI) := by
 refine own_enter (a0 := a0) own_pf0 hE O fun p e s m below meth c T0 w0 => ?_
 rw [own_ef_ckLen m bI eI]
 refine own_iloadN (pc' := 1) w0 own_d0_0 rfl rfl ?_
 refine own_iloadN (pc' := 2) w0 own_d0_1 rfl rfl ?_
 refine own_icmp (pc' := 5) w0 own_d0_2 rfl (by decide) (pcY := 37) rfl (fun (hb2 : ¬ eI < bI) => ?_) (fun (hb2 : eI < bI) => absurd hb2 hbe)
 exact own_ret0 w0 rfl own_d0_37 (by decide) (by decide) (ms' := []) all0 ⟨rfl, rfl, rfl⟩
theorem own_d1_0 : decode jdk_29_method_69_code 0 = .ok (.iload_n 0, 1) := by decide +kernel
theorem own_d1_1 : decode jdk_29_method_69_code 1 = .ok (.iload_n 1, 1) := by decide +kernel
theorem own_d1_2 : decode jdk_29_method_69_code 2 = .ok (.if_icmp .gt 7, 3) := by decide +kernel
theorem own_d1_9 : decode jdk_29_method_69_code 9 = .ok (.iload_n 1, 1) := by decide +kernel
theorem own_d1_10 : decode jdk_29_method_69_code 10 = .ok (.ireturn, 1) := by decide +kernel
theorem own_d1_5 : decode jdk_29_method_69_code 5 = .ok (.iload_n 0, 1) := by decide +kernel
theorem own_d1_6 : decode jdk_29_method_69_code 6 = .ok (.goto 4, 3) := by decide +kernel
theorem own_ef_minR (m : MethodId) (xx : Int32) (yy : Int32) : entryFrame m #[(.int xx), (.int yy)] 2 = mkF m 0 #[.val (.int xx), .val (.int yy)] [] := by first | (simp [entryFrame, mkF, argsToLocals, Value.category]; done) | rfl
theorem own_pf1 : plainFor (⟨"java/lang/Math", "min", "(II)I"⟩ : MethodName) = true := by first | exact plainFor_of_name (by first | (simp [plainName, overriddenIn]; done) | decide +kernel) | decide +kernel
def own_Q_minR (Z : State) (h0 : Heap) (xx : Int32) (yy : Int32) (v : Option Value) (h : Heap) (ms : List Addr) : Prop := (h0 = h) ∧ (ms = []) ∧ (v = some (.int yy))
set_option maxRecDepth 65536 in
set_option maxHeartbeats 40000000 in
theorem own_ct_minR (l : Launch) (Z : State) (a0 : Array Value) (hw : ∀ d ∈ tables_1, d.before a0 Z = true) (EL : List (String × Nat)) (hE : EW Z a0 EL) (n0 : Nat) (ws : List Jvm.Cond) (h0 : Heap) (O : Old Z n0 h0) (xx : Int32) (yy : Int32) (hxy : ¬ xx < yy) :
    own_Ct l Z EL n0 (⟨"java/lang/Math", "min", "(II)I"⟩ : MethodName) jdk_29_method_69_code 2 (some .int) ws ({ frames := 0, cells := 0, slots := 0, locals := 0 } : Room) #[(.int xx), (.int yy)] h0 [] (own_Q_minR Z h0 xx yy) := by
 refine own_enter (a0 := a0) own_pf1 hE O fun p e s m below meth c T0 w0 => ?_
 rw [own_ef_minR m xx yy]
 refine own_iloadN (pc' := 1) w0 own_d1_0 rfl rfl ?_
 refine own_iloadN (pc' := 2) w0 own_d1_1 rfl rfl ?_
 refine own_icmp (pc' := 5) w0 own_d1_2 rfl (by decide) (pcY := 9) rfl (fun (hb2 : yy < xx) => ?_) (fun (hb2 : ¬ yy < xx) => ?_)
 ·
  refine own_iloadN (pc' := 10) w0 own_d1_9 rfl rfl ?_
  exact own_retV w0 (t := .int) rfl rfl (Or.inl ⟨rfl, by simp, _, rfl⟩) own_d1_10 (by decide) (by decide) (ms' := []) all0 ⟨rfl, rfl, rfl⟩
 ·
  refine own_iloadN (pc' := 6) w0 own_d1_5 rfl rfl ?_
  refine own_goto w0 own_d1_6 (by decide) (pc' := 10) rfl ?_
  exact own_retV w0 (t := .int) rfl rfl (Or.inl ⟨rfl, by simp, _, rfl⟩) own_d1_10 (by decide) (by decide) (ms' := []) all0 ⟨rfl, rfl, (by rw [own_ai hxy hb2])⟩
theorem own_d2_0 : decode jdk_65_method_133_code 0 = .ok (.iload_n 1, 1) := by decide +kernel
theorem own_d2_1 : decode jdk_65_method_133_code 1 = .ok (.iload_n 2, 1) := by decide +kernel
theorem own_d2_2 : decode jdk_65_method_133_code 2 = .ok (.invokestatic 343, 3) := by decide +kernel
theorem own_w167 {Z : State} {a0 : Array Value} (hw : ∀ d ∈ tables_1, d.before a0 Z = true) : ((Jvm.Cond.code ({ cls := "java/util/Arrays", name := "checkLength", desc := "(II)V" } : Jvm.MethodName) jdk_65_method_131_code (2 : Nat) (Option.none : Option Jvm.ClassFile.FieldType)) : Jvm.Cond).before a0 Z = true := hw _ (List.mem_of_getElem? (i := 167) rfl)
theorem own_w160 {Z : State} {a0 : Array Value} (hw : ∀ d ∈ tables_1, d.before a0 Z = true) : ((Jvm.Cond.initialized "java/util/Arrays") : Jvm.Cond).before a0 Z = true := hw _ (List.mem_of_getElem? (i := 160) rfl)
theorem own_pd0 : parseMethodDescriptor "(II)V" = some ⟨[.int, .int], none⟩ := by decide +kernel
theorem own_w165 {Z : State} {a0 : Array Value} (hw : ∀ d ∈ tables_1, d.before a0 Z = true) : ((Jvm.Cond.methodLink "java/util/Arrays" (343 : Nat) ({ cls := "java/util/Arrays", name := "checkLength", desc := "(II)V" } : Jvm.MethodName)) : Jvm.Cond).before a0 Z = true := hw _ (List.mem_of_getElem? (i := 165) rfl)
theorem own_w166 {Z : State} {a0 : Array Value} (hw : ∀ d ∈ tables_1, d.before a0 Z = true) : ((Jvm.Cond.static ({ cls := "java/util/Arrays", name := "checkLength", desc := "(II)V" } : Jvm.MethodName)) : Jvm.Cond).before a0 Z = true := hw _ (List.mem_of_getElem? (i := 166) rfl)
theorem own_d2_5 : decode jdk_65_method_133_code 5 = .ok (.iload_n 2, 1) := by decide +kernel
theorem own_d2_6 : decode jdk_65_method_133_code 6 = .ok (.iload_n 1, 1) := by decide +kernel
theorem own_d2_7 : decode jdk_65_method_133_code 7 = .ok (.isub, 1) := by decide +kernel
theorem own_d2_8 : decode jdk_65_method_133_code 8 = .ok (.istore_n 3, 1) := by decide +kernel
theorem own_d2_9 : decode jdk_65_method_133_code 9 = .ok (.iload_n 3, 1) := by decide +kernel
theorem own_d2_10 : decode jdk_65_method_133_code 10 = .ok (.newarray .byte, 2) := by decide +kernel
theorem own_w3 {Z : State} {a0 : Array Value} (hw : ∀ d ∈ tables_1, d.before a0 Z = true) : ((Jvm.Cond.arrayClass Jvm.ClassFile.FieldType.byte) : Jvm.Cond).before a0 Z = true := hw _ (List.mem_of_getElem? (i := 3) rfl)
theorem own_d2_12 : decode jdk_65_method_133_code 12 = .ok (.astore 4, 2) := by decide +kernel
theorem own_d2_14 : decode jdk_65_method_133_code 14 = .ok (.aload_n 0, 1) := by decide +kernel
theorem own_d2_15 : decode jdk_65_method_133_code 15 = .ok (.iload_n 1, 1) := by decide +kernel
theorem own_d2_16 : decode jdk_65_method_133_code 16 = .ok (.aload 4, 2) := by decide +kernel
theorem own_d2_18 : decode jdk_65_method_133_code 18 = .ok (.iconst 0, 1) := by decide +kernel
theorem own_d2_19 : decode jdk_65_method_133_code 19 = .ok (.aload_n 0, 1) := by decide +kernel
theorem own_d2_20 : decode jdk_65_method_133_code 20 = .ok (.arraylength, 1) := by decide +kernel
theorem own_d2_21 : decode jdk_65_method_133_code 21 = .ok (.iload_n 1, 1) := by decide +kernel
theorem own_d2_22 : decode jdk_65_method_133_code 22 = .ok (.isub, 1) := by decide +kernel
theorem own_d2_23 : decode jdk_65_method_133_code 23 = .ok (.iload_n 3, 1) := by decide +kernel
theorem own_d2_24 : decode jdk_65_method_133_code 24 = .ok (.invokestatic 304, 3) := by decide +kernel
theorem own_w171 {Z : State} {a0 : Array Value} (hw : ∀ d ∈ tables_1, d.before a0 Z = true) : ((Jvm.Cond.code ({ cls := "java/lang/Math", name := "min", desc := "(II)I" } : Jvm.MethodName) jdk_29_method_69_code (2 : Nat) (Option.some Jvm.ClassFile.FieldType.int)) : Jvm.Cond).before a0 Z = true := hw _ (List.mem_of_getElem? (i := 171) rfl)
theorem own_w170 {Z : State} {a0 : Array Value} (hw : ∀ d ∈ tables_1, d.before a0 Z = true) : ((Jvm.Cond.initialized "java/lang/Math") : Jvm.Cond).before a0 Z = true := hw _ (List.mem_of_getElem? (i := 170) rfl)
theorem own_pd1 : parseMethodDescriptor "(II)I" = some ⟨[.int, .int], some .int⟩ := by decide +kernel
theorem own_w168 {Z : State} {a0 : Array Value} (hw : ∀ d ∈ tables_1, d.before a0 Z = true) : ((Jvm.Cond.methodLink "java/util/Arrays" (304 : Nat) ({ cls := "java/lang/Math", name := "min", desc := "(II)I" } : Jvm.MethodName)) : Jvm.Cond).before a0 Z = true := hw _ (List.mem_of_getElem? (i := 168) rfl)
theorem own_w169 {Z : State} {a0 : Array Value} (hw : ∀ d ∈ tables_1, d.before a0 Z = true) : ((Jvm.Cond.static ({ cls := "java/lang/Math", name := "min", desc := "(II)I" } : Jvm.MethodName)) : Jvm.Cond).before a0 Z = true := hw _ (List.mem_of_getElem? (i := 169) rfl)
theorem own_d2_27 : decode jdk_65_method_133_code 27 = .ok (.invokestatic 150, 3) := by decide +kernel
theorem own_w172 {Z : State} {a0 : Array Value} (hw : ∀ d ∈ tables_1, d.before a0 Z = true) : ((Jvm.Cond.methodLink "java/util/Arrays" (150 : Nat) ({ cls := "java/lang/System", name := "arraycopy", desc := "(Ljava/lang/Object;ILjava/lang/Object;II)V" } : Jvm.MethodName)) : Jvm.Cond).before a0 Z = true := hw _ (List.mem_of_getElem? (i := 172) rfl)
theorem own_w127 {Z : State} {a0 : Array Value} (hw : ∀ d ∈ tables_1, d.before a0 Z = true) : ((Jvm.Cond.native ({ cls := "java/lang/System", name := "arraycopy", desc := "(Ljava/lang/Object;ILjava/lang/Object;II)V" } : Jvm.MethodName)) : Jvm.Cond).before a0 Z = true := hw _ (List.mem_of_getElem? (i := 127) rfl)
theorem own_w125 {Z : State} {a0 : Array Value} (hw : ∀ d ∈ tables_1, d.before a0 Z = true) : ((Jvm.Cond.static ({ cls := "java/lang/System", name := "arraycopy", desc := "(Ljava/lang/Object;ILjava/lang/Object;II)V" } : Jvm.MethodName)) : Jvm.Cond).before a0 Z = true := hw _ (List.mem_of_getElem? (i := 125) rfl)
theorem own_w126 {Z : State} {a0 : Array Value} (hw : ∀ d ∈ tables_1, d.before a0 Z = true) : ((Jvm.Cond.initialized "java/lang/System") : Jvm.Cond).before a0 Z = true := hw _ (List.mem_of_getElem? (i := 126) rfl)
theorem own_d2_30 : decode jdk_65_method_133_code 30 = .ok (.aload 4, 2) := by decide +kernel
theorem own_d2_32 : decode jdk_65_method_133_code 32 = .ok (.areturn, 1) := by decide +kernel
theorem own_ef_corB (m : MethodId) (ar : Addr) (bI : Int32) (eI : Int32) : entryFrame m #[(.ref ar), (.int bI), (.int eI)] 5 = mkF m 0 #[.val (.ref ar), .val (.int bI), .val (.int eI), .unset, .unset] [] := by first | (simp [entryFrame, mkF, argsToLocals, Value.category]; done) | rfl
theorem own_pf2 : plainFor (⟨"java/util/Arrays", "copyOfRangeByte", "([BII)[B"⟩ : MethodName) = true := by first | exact plainFor_of_name (by first | (simp [plainName, overriddenIn]; done) | decide +kernel) | decide +kernel
def own_Q_corB (Z : State) (h0 : Heap) (ar : Addr) (bI : Int32) (eI : Int32) (kb : ClassId) (N : Int32) (vs : List Value) (dI : Int32) (b : Nat) (d : Nat) (v : Option Value) (h : Heap) (ms : List Addr) : Prop := (Keep h0 h []) ∧ (∃ (r : Addr) (kA : ClassId), (ms = [r]) ∧ (v = some (.ref r)) ∧ (Arv Z h r kA .byte dI (own_sl vs b d) (.int 0)) ∧ (h0.size ≤ r))
set_option maxRecDepth 65536 in
set_option maxHeartbeats 40000000 in
theorem own_ct_corB (l : Launch) (Z : State) (a0 : Array Value) (hw : ∀ d ∈ tables_1, d.before a0 Z = true) (EL : List (String × Nat)) (hE : EW Z a0 EL) (n0 : Nat) (ws : List Jvm.Cond) (h0 : Heap) (O : Old Z n0 h0) (ar : Addr) (bI : Int32) (eI : Int32) (kb : ClassId) (N : Int32) (vs : List Value) (dI : Int32) (b : Nat) (d : Nat) (A_ar : Arv Z h0 ar kb .byte N vs (.int 0)) (Rg : own_Rg bI eI dI N b d) (hcap : d ≤ 16) :
    own_Ct l Z EL n0 (⟨"java/util/Arrays", "copyOfRangeByte", "([BII)[B"⟩ : MethodName) jdk_65_method_133_code 5 (some (.array .byte)) ws ({ frames := 1, cells := 1, slots := 16, locals := 18 } : Room) #[(.ref ar), (.int bI), (.int eI)] h0 [] (own_Q_corB Z h0 ar bI eI kb N vs dI b d) := by
 refine own_enter (a0 := a0) own_pf2 hE O fun p e s m below meth c T0 w0 => ?_
 rw [own_ef_corB m ar bI eI]
 have K : Keep h0 h0 [] := Keep.refl _ _
 refine own_iloadN (pc' := 1) w0 own_d2_0 rfl rfl ?_
 refine own_iloadN (pc' := 2) w0 own_d2_1 rfl rfl ?_
 refine own_callS (pc' := 5) w0 (own_w165 hw) (own_w166 hw) (own_w160 hw) (own_w167 hw) (by decide) (own_ct_ckLen l Z a0 hw EL hE n0 [] h0 (own_old w0) bI eI (Rg.2.2.2.2.2.2.2.1)) all0 (argsL := [(.int bI), (.int eI)]) (rest := []) rfl rfl own_pd0 rfl own_d2_2 rfl (by decide) (W := 0) rfl (by decide) (by decide) (by decide) fun T1 h3 v4 ms5 w2 q6 => ?_
 obtain ⟨rfl, rfl, rfl⟩ := q6
 show own_Go Z EL n0 p e below s _ _ _ (T1.setTop (mkF m 5 _ []))
 refine own_iloadN (pc' := 6) w2 own_d2_5 rfl rfl ?_
 refine own_iloadN (pc' := 7) w2 own_d2_6 rfl rfl ?_
 refine own_isub (pc' := 8) w2 own_d2_7 (z := dI) Rg.2.2.1 rfl ?_
 refine own_istoreN (pc' := 9) w2 own_d2_8 (Ls' := #[.val (.ref ar), .val (.int bI), .val (.int eI), .val (.int dI), .unset]) rfl rfl ?_
 refine own_iloadN (pc' := 10) w2 own_d2_9 rfl rfl ?_
 refine own_newP (pc' := 12) w2 (aty := .byte) (z := dI) (vs := (List.replicate d (.int 0))) (dv := (.int 0)) (cap := 16) (own_w3 hw) own_d2_10 rfl Rg.2.1 (by rw [Rg.2.2.2.2.2.1]; exact hcap) (by decide) rfl (own_rep d (.int 0)) (by decide) (by decide) fun T7 h9 a11 g_a11 w8 E10 ⟨k_a11, A_a11⟩ => ?_
 have ne_ar_a11 : ar ≠ a11 := Nat.ne_of_lt (Nat.lt_of_lt_of_le A_ar.lt (Nat.le_of_eq g_a11))
 have nw_a11 : h0.size ≤ a11 := Nat.le_trans K.1 (Nat.le_of_eq g_a11)
 replace A_ar := A_ar.ext E10
 replace K := K.ext E10
 refine own_astore (pc' := 14) w8 own_d2_12 rfl (Ls' := #[.val (.ref ar), .val (.int bI), .val (.int eI), .val (.int dI), .val (.ref a11)]) rfl rfl ?_
 refine own_aloadN (pc' := 15) w8 own_d2_14 rfl rfl rfl ?_
 refine own_iloadN (pc' := 16) w8 own_d2_15 rfl rfl ?_
 refine own_aload (pc' := 18) w8 own_d2_16 rfl rfl rfl ?_
 refine own_iconst (pc' := 19) w8 own_d2_18 (x := (0 : Int32)) rfl rfl ?_
 refine own_aloadN (pc' := 20) w8 own_d2_19 rfl rfl rfl ?_
 refine own_len (pc' := 21) w8 A_ar own_d2_20 rfl ?_
 refine own_iloadN (pc' := 22) w8 own_d2_21 rfl rfl ?_
 refine own_isub (pc' := 23) w8 own_d2_22 (z := (N - bI)) rfl rfl ?_
 refine own_iloadN (pc' := 24) w8 own_d2_23 rfl rfl ?_
 refine own_callS (pc' := 27) w8 (own_w168 hw) (own_w169 hw) (own_w170 hw) (own_w171 hw) (by decide) (own_ct_minR l Z a0 hw EL hE n0 [] h9 (own_old w8) (N - bI) dI (Rg.2.2.2.2.2.2.2.2.2)) all0 (argsL := [(.int (N - bI)), (.int dI)]) (rest := [(.int (0 : Int32)), (.ref a11), (.int bI), (.ref ar)]) rfl rfl own_pd1 rfl own_d2_24 rfl (by decide) (W := 4) rfl (by decide) (by decide) (by decide) fun T12 h14 v15 ms16 w13 q17 => ?_
 obtain ⟨rfl, rfl, rfl⟩ := q17
 show own_Go Z EL n0 p e below s _ _ _ (T12.setTop (mkF m 27 _ [(.int dI), (.int (0 : Int32)), (.ref a11), (.int bI), (.ref ar)]))
 refine own_acopy (pc' := 30) w13 (us := (own_sl vs b d)) (vs' := (own_sl vs b d)) (own_w172 hw) (own_w127 hw) (own_w125 hw) (own_w126 hw) (by simp) A_ar A_a11 rfl Rg.1 (by decide) Rg.2.1 (own_cp4 Rg.2.2.2.2.1 Rg.2.2.2.2.2.1 Rg.2.2.2.2.2.2.1) own_cp5 (own_cpu Rg.2.2.2.2.1 Rg.2.2.2.2.2.1 vs) (own_cpl Rg.2.2.2.2.2.1 _) (own_cpv Rg.2.2.2.2.2.1 _ _) rfl own_d2_27 rfl (by decide) (W := 0) (Nat.le_of_eq rfl) (by decide) fun T18 h20 w19 K21 A_new => ?_
 clear A_a11
 replace A_ar := A_ar.keep K21 (ninS ne_ar_a11 nin0)
 replace K := K.trans K21 (allS (P := fun x => x ∈ ([] : List Addr) ∨ h0.size ≤ x) (Or.inr nw_a11) all0)
 have A_a11 := A_new; clear A_new
 show own_Go Z EL n0 p e below s _ _ _ (T18.setTop (mkF m 30 _ []))
 refine own_aload (pc' := 32) w19 own_d2_30 rfl rfl rfl ?_
 exact own_retV w19 (t := (.array .byte)) rfl (own_narR rfl rfl) (Or.inr (Or.inr (Or.inr (Or.inr ⟨rfl, rfl, rfl⟩)))) own_d2_32 (by decide) (by decide) (ms' := [a11]) (allS (P := fun x => x ∈ _) (by simp) all0) ⟨K, a11, k_a11, rfl, rfl, A_a11, nw_a11⟩
theorem own_d3_0 : decode jdk_65_method_132_code 0 = .ok (.iload_n 1, 1) := by decide +kernel
theorem own_d3_1 : decode jdk_65_method_132_code 1 = .ok (.ifCond .ne 9, 3) := by decide +kernel
theorem own_d3_10 : decode jdk_65_method_132_code 10 = .ok (.aload_n 0, 1) := by decide +kernel
theorem own_d3_11 : decode jdk_65_method_132_code 11 = .ok (.iload_n 1, 1) := by decide +kernel
theorem own_d3_12 : decode jdk_65_method_132_code 12 = .ok (.iload_n 2, 1) := by decide +kernel
theorem own_d3_13 : decode jdk_65_method_132_code 13 = .ok (.invokestatic 339, 3) := by decide +kernel
theorem own_w164 {Z : State} {a0 : Array Value} (hw : ∀ d ∈ tables_1, d.before a0 Z = true) : ((Jvm.Cond.code ({ cls := "java/util/Arrays", name := "copyOfRangeByte", desc := "([BII)[B" } : Jvm.MethodName) jdk_65_method_133_code (5 : Nat) (Option.some (Jvm.ClassFile.FieldType.array Jvm.ClassFile.FieldType.byte))) : Jvm.Cond).before a0 Z = true := hw _ (List.mem_of_getElem? (i := 164) rfl)
theorem own_pd2 : parseMethodDescriptor "([BII)[B" = some ⟨[(.array .byte), .int, .int], some (.array .byte)⟩ := by decide +kernel
theorem own_w162 {Z : State} {a0 : Array Value} (hw : ∀ d ∈ tables_1, d.before a0 Z = true) : ((Jvm.Cond.methodLink "java/util/Arrays" (339 : Nat) ({ cls := "java/util/Arrays", name := "copyOfRangeByte", desc := "([BII)[B" } : Jvm.MethodName)) : Jvm.Cond).before a0 Z = true := hw _ (List.mem_of_getElem? (i := 162) rfl)
theorem own_w163 {Z : State} {a0 : Array Value} (hw : ∀ d ∈ tables_1, d.before a0 Z = true) : ((Jvm.Cond.static ({ cls := "java/util/Arrays", name := "copyOfRangeByte", desc := "([BII)[B" } : Jvm.MethodName)) : Jvm.Cond).before a0 Z = true := hw _ (List.mem_of_getElem? (i := 163) rfl)
theorem own_d3_16 : decode jdk_65_method_132_code 16 = .ok (.areturn, 1) := by decide +kernel
theorem own_d3_4 : decode jdk_65_method_132_code 4 = .ok (.iload_n 2, 1) := by decide +kernel
theorem own_d3_5 : decode jdk_65_method_132_code 5 = .ok (.aload_n 0, 1) := by decide +kernel
theorem own_d3_6 : decode jdk_65_method_132_code 6 = .ok (.arraylength, 1) := by decide +kernel
theorem own_d3_7 : decode jdk_65_method_132_code 7 = .ok (.if_icmp .eq 10, 3) := by decide +kernel
theorem own_ef_cor (m : MethodId) (ar : Addr) (bI : Int32) (eI : Int32) : entryFrame m #[(.ref ar), (.int bI), (.int eI)] 3 = mkF m 0 #[.val (.ref ar), .val (.int bI), .val (.int eI)] [] := by first | (simp [entryFrame, mkF, argsToLocals, Value.category]; done) | rfl
theorem own_pf3 : plainFor (⟨"java/util/Arrays", "copyOfRange", "([BII)[B"⟩ : MethodName) = true := by first | exact plainFor_of_name (by first | (simp [plainName, overriddenIn]; done) | decide +kernel) | decide +kernel
def own_Q_cor (Z : State) (h0 : Heap) (ar : Addr) (bI : Int32) (eI : Int32) (kb : ClassId) (N : Int32) (vs : List Value) (dI : Int32) (b : Nat) (d : Nat) (v : Option Value) (h : Heap) (ms : List Addr) : Prop := (Keep h0 h []) ∧ (∃ (r : Addr) (kA : ClassId), (ms = [r]) ∧ (v = some (.ref r)) ∧ (Arv Z h r kA .byte dI (own_sl vs b d) (.int 0)) ∧ (h0.size ≤ r))
set_option maxRecDepth 65536 in
set_option maxHeartbeats 40000000 in
theorem own_ct_cor (l : Launch) (Z : State) (a0 : Array Value) (hw : ∀ d ∈ tables_1, d.before a0 Z = true) (EL : List (String × Nat)) (hE : EW Z a0 EL) (n0 : Nat) (ws : List Jvm.Cond) (h0 : Heap) (O : Old Z n0 h0) (ar : Addr) (bI : Int32) (eI : Int32) (kb : ClassId) (N : Int32) (vs : List Value) (dI : Int32) (b : Nat) (d : Nat) (A_ar : Arv Z h0 ar kb .byte N vs (.int 0)) (Rg : own_Rg bI eI dI N b d) (hcap : d ≤ 16) (hnw : ¬ (bI = 0 ∧ eI = N)) :
    own_Ct l Z EL n0 (⟨"java/util/Arrays", "copyOfRange", "([BII)[B"⟩ : MethodName) jdk_65_method_132_code 3 (some (.array .byte)) ws ({ frames := 2, cells := 1, slots := 16, locals := 34 } : Room) #[(.ref ar), (.int bI), (.int eI)] h0 [] (own_Q_cor Z h0 ar bI eI kb N vs dI b d) := by
 refine own_enter (a0 := a0) own_pf3 hE O fun p e s m below meth c T0 w0 => ?_
 rw [own_ef_cor m ar bI eI]
 have K : Keep h0 h0 [] := Keep.refl _ _
 refine own_iloadN (pc' := 1) w0 own_d3_0 rfl rfl ?_
 refine own_if (pc' := 4) w0 own_d3_1 rfl (by decide) (pcY := 10) rfl (fun (hb1 : ¬ bI = (0 : Int32)) => ?_) (fun (hb1 : bI = (0 : Int32)) => ?_)
 ·
  refine own_aloadN (pc' := 11) w0 own_d3_10 rfl rfl rfl ?_
  refine own_iloadN (pc' := 12) w0 own_d3_11 rfl rfl ?_
  refine own_iloadN (pc' := 13) w0 own_d3_12 rfl rfl ?_
  refine own_callS (pc' := 16) w0 (own_w162 hw) (own_w163 hw) (own_w160 hw) (own_w164 hw) (by decide) (own_ct_corB l Z a0 hw EL hE n0 [] h0 (own_old w0) ar bI eI kb N vs dI b d A_ar (Rg) (hcap)) all0 (argsL := [(.ref ar), (.int bI), (.int eI)]) (rest := []) rfl rfl own_pd2 rfl own_d3_13 rfl (by decide) (W := 0) rfl (by decide) (by decide) (by decide) fun T1 h3 v4 ms5 w2 q6 => ?_
  obtain ⟨K9, r_7, kA_8, rfl, rfl, nw_A_r_7, p13_corB_0⟩ := q6
  have ne_ar_r_7 : ar ≠ r_7 := Nat.ne_of_lt (Nat.lt_of_lt_of_le A_ar.lt p13_corB_0)
  have nw_r_7 : h0.size ≤ r_7 := Nat.le_trans K.1 p13_corB_0
  replace A_ar := A_ar.keep K9 nin0
  replace K := K.trans K9 all0
  have A_r_7 := nw_A_r_7; clear nw_A_r_7
  show own_Go Z EL n0 p e below s _ _ _ (T1.setTop (mkF m 16 _ [(.ref r_7)]))
  exact own_retV w2 (t := (.array .byte)) rfl (own_narR rfl rfl) (Or.inr (Or.inr (Or.inr (Or.inr ⟨rfl, rfl, rfl⟩)))) own_d3_16 (by decide) (by decide) (ms' := [r_7]) (allS (P := fun x => x ∈ _) (by simp) all0) ⟨K, r_7, kA_8, rfl, rfl, A_r_7, nw_r_7⟩
 ·
  refine own_iloadN (pc' := 5) w0 own_d3_4 rfl rfl ?_
  refine own_aloadN (pc' := 6) w0 own_d3_5 rfl rfl rfl ?_
  refine own_len (pc' := 7) w0 A_ar own_d3_6 rfl ?_
  refine own_icmp (pc' := 10) w0 own_d3_7 rfl (by decide) (pcY := 17) rfl (fun (hb7 : eI = N) => absurd ⟨hb1, hb7⟩ hnw) (fun (hb7 : ¬ eI = N) => ?_)
  refine own_aloadN (pc' := 11) w0 own_d3_10 rfl rfl rfl ?_
  refine own_iloadN (pc' := 12) w0 own_d3_11 rfl rfl ?_
  refine own_iloadN (pc' := 13) w0 own_d3_12 rfl rfl ?_
  refine own_callS (pc' := 16) w0 (own_w162 hw) (own_w163 hw) (own_w160 hw) (own_w164 hw) (by decide) (own_ct_corB l Z a0 hw EL hE n0 [] h0 (own_old w0) ar bI eI kb N vs dI b d A_ar (Rg) (hcap)) all0 (argsL := [(.ref ar), (.int bI), (.int eI)]) (rest := []) rfl rfl own_pd2 rfl own_d3_13 rfl (by decide) (W := 0) rfl (by decide) (by decide) (by decide) fun T10 h12 v13 ms14 w11 q15 => ?_
  obtain ⟨K18, r_16, kA_17, rfl, rfl, nw_A_r_16, p13_corB_0⟩ := q15
  have ne_ar_r_16 : ar ≠ r_16 := Nat.ne_of_lt (Nat.lt_of_lt_of_le A_ar.lt p13_corB_0)
  have nw_r_16 : h0.size ≤ r_16 := Nat.le_trans K.1 p13_corB_0
  replace A_ar := A_ar.keep K18 nin0
  replace K := K.trans K18 all0
  have A_r_16 := nw_A_r_16; clear nw_A_r_16
  show own_Go Z EL n0 p e below s _ _ _ (T10.setTop (mkF m 16 _ [(.ref r_16)]))
  exact own_retV w11 (t := (.array .byte)) rfl (own_narR rfl rfl) (Or.inr (Or.inr (Or.inr (Or.inr ⟨rfl, rfl, rfl⟩)))) own_d3_16 (by decide) (by decide) (ms' := [r_16]) (allS (P := fun x => x ∈ _) (by simp) all0) ⟨K, r_16, kA_17, rfl, rfl, A_r_16, nw_r_16⟩
theorem own_d4_0 : decode jdk_42_method_152_code 0 = .ok (.getstatic 38, 3) := by decide +kernel
theorem own_w21 {Z : State} {a0 : Array Value} (hw : ∀ d ∈ tables_1, d.before a0 Z = true) : ((Jvm.Cond.fieldLink "java/lang/String" (38 : Nat) "java/lang/String" "COMPACT_STRINGS" "Z") : Jvm.Cond).before a0 Z = true := hw _ (List.mem_of_getElem? (i := 21) rfl)
theorem own_d4_3 : decode jdk_42_method_152_code 3 = .ok (.ifCond .eq 10, 3) := by decide +kernel
theorem own_d4_6 : decode jdk_42_method_152_code 6 = .ok (.aload_n 0, 1) := by decide +kernel
theorem own_d4_7 : decode jdk_42_method_152_code 7 = .ok (.getfield 15, 3) := by decide +kernel
theorem own_w32 {Z : State} {a0 : Array Value} (hw : ∀ d ∈ tables_1, d.before a0 Z = true) : ((Jvm.Cond.fieldLink "java/lang/String" (15 : Nat) "java/lang/String" "coder" "B") : Jvm.Cond).before a0 Z = true := hw _ (List.mem_of_getElem? (i := 32) rfl)
theorem own_d4_10 : decode jdk_42_method_152_code 10 = .ok (.goto 4, 3) := by decide +kernel
theorem own_d4_14 : decode jdk_42_method_152_code 14 = .ok (.ireturn, 1) := by decide +kernel
theorem own_ef_coder (m : MethodId) (a1 : Addr) : entryFrame m #[(.ref a1)] 1 = mkF m 0 #[.val (.ref a1)] [] := by first | (simp [entryFrame, mkF, argsToLocals, Value.category]; done) | rfl
theorem own_pf4 : plainFor (⟨"java/lang/String", "coder", "()B"⟩ : MethodName) = true := by first | exact plainFor_of_name (by first | (simp [plainName, overriddenIn]; done) | decide +kernel) | decide +kernel
def own_Q_coder (Z : State) (h0 : Heap) (a1 : Addr) (z5 : Int32) (v : Option Value) (h : Heap) (ms : List Addr) : Prop := (h0 = h) ∧ (ms = []) ∧ (v = some (.int 0))
set_option maxRecDepth 65536 in
set_option maxHeartbeats 40000000 in
theorem own_ct_coder (l : Launch) (Z : State) (a0 : Array Value) (hw : ∀ d ∈ tables_1, d.before a0 Z = true) (EL : List (String × Nat)) (hE : EW Z a0 EL) (n0 : Nat) (ws : List Jvm.Cond) (h0 : Heap) (O : Old Z n0 h0) (a1 : Addr) (z5 : Int32) (F_a1_coder : Fld Z h0 a1 "java/lang/String" "coder" "B" (.int 0)) (S_COMPACT_STRINGS : Sta Z Z.heap "java/lang/String" "COMPACT_STRINGS" "Z" (.int z5)) (P5 : ¬ z5 = 0) :
    own_Ct l Z EL n0 (⟨"java/lang/String", "coder", "()B"⟩ : MethodName) jdk_42_method_152_code 1 (some .byte) ws ({ frames := 0, cells := 0, slots := 0, locals := 0 } : Room) #[(.ref a1)] h0 [] (own_Q_coder Z h0 a1 z5) := by
 refine own_enter (a0 := a0) own_pf4 hE O fun p e s m below meth c T0 w0 => ?_
 rw [own_ef_coder m a1]
 refine own_getS (pc' := 3) w0 (host := "") (Or.inl (own_w21 hw)) Via.refl (S_COMPACT_STRINGS.ext (own_old w0).2) own_d4_0 rfl fun T1 w2 => ?_
 refine own_if (pc' := 6) w2 own_d4_3 rfl (by decide) (pcY := 13) rfl (fun (hb3 : z5 = (0 : Int32)) => absurd hb3 P5) (fun (hb3 : ¬ z5 = (0 : Int32)) => ?_)
 refine own_aloadN (pc' := 7) w2 own_d4_6 rfl rfl rfl ?_
 refine own_getF (pc' := 10) w2 (host := "") (Or.inl (own_w32 hw)) Via.refl F_a1_coder own_d4_7 rfl fun T3 w4 => ?_
 refine own_goto w4 own_d4_10 (by decide) (pc' := 14) rfl ?_
 exact own_retV w4 (t := .byte) rfl rfl (Or.inl ⟨rfl, by simp, _, rfl⟩) own_d4_14 (by decide) (by decide) (ms' := []) all0 ⟨rfl, rfl, rfl⟩
theorem own_d5_0 : decode jdk_42_method_147_code 0 = .ok (.aload_n 0, 1) := by decide +kernel
theorem own_d5_1 : decode jdk_42_method_147_code 1 = .ok (.invokevirtual 335, 3) := by decide +kernel
theorem own_w100 {Z : State} {a0 : Array Value} (hw : ∀ d ∈ tables_1, d.before a0 Z = true) : ((Jvm.Cond.code ({ cls := "java/lang/String", name := "coder", desc := "()B" } : Jvm.MethodName) jdk_42_method_152_code (1 : Nat) (Option.some Jvm.ClassFile.FieldType.byte)) : Jvm.Cond).before a0 Z = true := hw _ (List.mem_of_getElem? (i := 100) rfl)
theorem own_w1 {Z : State} {a0 : Array Value} (hw : ∀ d ∈ tables_1, d.before a0 Z = true) : ((Jvm.Cond.initialized "java/lang/String") : Jvm.Cond).before a0 Z = true := hw _ (List.mem_of_getElem? (i := 1) rfl)
theorem own_pd3 : parseMethodDescriptor "()B" = some ⟨[], some .byte⟩ := by decide +kernel
theorem own_w96 {Z : State} {a0 : Array Value} (hw : ∀ d ∈ tables_1, d.before a0 Z = true) : ((Jvm.Cond.methodLink "java/lang/String" (335 : Nat) ({ cls := "java/lang/String", name := "coder", desc := "()B" } : Jvm.MethodName)) : Jvm.Cond).before a0 Z = true := hw _ (List.mem_of_getElem? (i := 96) rfl)
theorem own_w97 {Z : State} {a0 : Array Value} (hw : ∀ d ∈ tables_1, d.before a0 Z = true) : ((Jvm.Cond.declares ({ cls := "java/lang/String", name := "coder", desc := "()B" } : Jvm.MethodName)) : Jvm.Cond).before a0 Z = true := hw _ (List.mem_of_getElem? (i := 97) rfl)
theorem own_w99 {Z : State} {a0 : Array Value} (hw : ∀ d ∈ tables_1, d.before a0 Z = true) : ((Jvm.Cond.selects "java/lang/String" ({ cls := "java/lang/String", name := "coder", desc := "()B" } : Jvm.MethodName) ({ cls := "java/lang/String", name := "coder", desc := "()B" } : Jvm.MethodName)) : Jvm.Cond).before a0 Z = true := hw _ (List.mem_of_getElem? (i := 99) rfl)
theorem own_w98 {Z : State} {a0 : Array Value} (hw : ∀ d ∈ tables_1, d.before a0 Z = true) : ((Jvm.Cond.instanceMethod ({ cls := "java/lang/String", name := "coder", desc := "()B" } : Jvm.MethodName)) : Jvm.Cond).before a0 Z = true := hw _ (List.mem_of_getElem? (i := 98) rfl)
theorem own_d5_4 : decode jdk_42_method_147_code 4 = .ok (.iload_n 3, 1) := by decide +kernel
theorem own_d5_5 : decode jdk_42_method_147_code 5 = .ok (.if_icmp .ne 23, 3) := by decide +kernel
theorem own_d5_8 : decode jdk_42_method_147_code 8 = .ok (.aload_n 0, 1) := by decide +kernel
theorem own_d5_9 : decode jdk_42_method_147_code 9 = .ok (.getfield 9, 3) := by decide +kernel
theorem own_w33 {Z : State} {a0 : Array Value} (hw : ∀ d ∈ tables_1, d.before a0 Z = true) : ((Jvm.Cond.fieldLink "java/lang/String" (9 : Nat) "java/lang/String" "value" "[B") : Jvm.Cond).before a0 Z = true := hw _ (List.mem_of_getElem? (i := 33) rfl)
theorem own_d5_12 : decode jdk_42_method_147_code 12 = .ok (.iconst 0, 1) := by decide +kernel
theorem own_d5_13 : decode jdk_42_method_147_code 13 = .ok (.aload_n 1, 1) := by decide +kernel
theorem own_d5_14 : decode jdk_42_method_147_code 14 = .ok (.iload_n 2, 1) := by decide +kernel
theorem own_d5_15 : decode jdk_42_method_147_code 15 = .ok (.iload_n 3, 1) := by decide +kernel
theorem own_d5_16 : decode jdk_42_method_147_code 16 = .ok (.ishl, 1) := by decide +kernel
theorem own_d5_17 : decode jdk_42_method_147_code 17 = .ok (.aload_n 0, 1) := by decide +kernel
theorem own_d5_18 : decode jdk_42_method_147_code 18 = .ok (.getfield 9, 3) := by decide +kernel
theorem own_d5_21 : decode jdk_42_method_147_code 21 = .ok (.arraylength, 1) := by decide +kernel
theorem own_d5_22 : decode jdk_42_method_147_code 22 = .ok (.invokestatic 212, 3) := by decide +kernel
theorem own_w124 {Z : State} {a0 : Array Value} (hw : ∀ d ∈ tables_1, d.before a0 Z = true) : ((Jvm.Cond.methodLink "java/lang/String" (212 : Nat) ({ cls := "java/lang/System", name := "arraycopy", desc := "(Ljava/lang/Object;ILjava/lang/Object;II)V" } : Jvm.MethodName)) : Jvm.Cond).before a0 Z = true := hw _ (List.mem_of_getElem? (i := 124) rfl)
theorem own_d5_25 : decode jdk_42_method_147_code 25 = .ok (.goto 18, 3) := by decide +kernel
theorem own_d5_43 : decode jdk_42_method_147_code 43 = .ok (.return_, 1) := by decide +kernel
theorem own_ef_getB (m : MethodId) (a1 : Addr) (d : Addr) (dp : Int32) : entryFrame m #[(.ref a1), (.ref d), (.int dp), (.int (0 : Int32))] 4 = mkF m 0 #[.val (.ref a1), .val (.ref d), .val (.int dp), .val (.int (0 : Int32))] [] := by first | (simp [entryFrame, mkF, argsToLocals, Value.category]; done) | rfl
theorem own_pf5 : plainFor (⟨"java/lang/String", "getBytes", "([BIB)V"⟩ : MethodName) = true := by first | exact plainFor_of_name (by first | (simp [plainName, overriddenIn]; done) | decide +kernel) | decide +kernel
def own_Q_getB (Z : State) (h0 : Heap) (a1 : Addr) (d : Addr) (dp : Int32) (t : Addr) (kb : ClassId) (N : Int32) (vs : List Value) (kd : ClassId) (M : Int32) (vd : List Value) (dn : Nat) (n : Nat) (z5 : Int32) (v : Option Value) (h : Heap) (ms : List Addr) : Prop := (Keep h0 h [d]) ∧ (ms = []) ∧ (v = none) ∧ (Arv Z h d kd .byte M (own_put vd dn vs) (.int 0))
set_option maxRecDepth 65536 in
set_option maxHeartbeats 40000000 in
theorem own_ct_getB (l : Launch) (Z : State) (a0 : Array Value) (hw : ∀ d ∈ tables_1, d.before a0 Z = true) (EL : List (String × Nat)) (hE : EW Z a0 EL) (n0 : Nat) (ws : List Jvm.Cond) (h0 : Heap) (O : Old Z n0 h0) (a1 : Addr) (d : Addr) (dp : Int32) (t : Addr) (kb : ClassId) (N : Int32) (vs : List Value) (kd : ClassId) (M : Int32) (vd : List Value) (dn : Nat) (n : Nat) (z5 : Int32) (E_a1 : Exa Z h0 a1 "java/lang/String") (F_a1_coder : Fld Z h0 a1 "java/lang/String" "coder" "B" (.int 0)) (F_a1_value : Fld Z h0 a1 "java/lang/String" "value" "[B" (.ref t)) (A_t : Arv Z h0 t kb .byte N vs (.int 0)) (A_d : Arv Z h0 d kd .byte M vd (.int 0)) (S_COMPACT_STRINGS : Sta Z Z.heap "java/lang/String" "COMPACT_STRINGS" "Z" (.int z5)) (P5 : ¬ z5 = 0) (hne : t ≠ d) (hna : a1 ≠ d) (Pu : own_Pu dp N M dn n vd vs) :
    own_Ct l Z EL n0 (⟨"java/lang/String", "getBytes", "([BIB)V"⟩ : MethodName) jdk_42_method_147_code 4 none ws ({ frames := 1, cells := 0, slots := 0, locals := 18 } : Room) #[(.ref a1), (.ref d), (.int dp), (.int (0 : Int32))] h0 [d] (own_Q_getB Z h0 a1 d dp t kb N vs kd M vd dn n z5) := by
 refine own_enter (a0 := a0) own_pf5 hE O fun p e s m below meth c T0 w0 => ?_
 rw [own_ef_getB m a1 d dp]
 have K : Keep h0 h0 [d] := Keep.refl _ _
 refine own_aloadN (pc' := 1) w0 own_d5_0 rfl rfl rfl ?_
 refine own_callV (pc' := 4) w0 (own_w96 hw) (own_w97 hw) (fun s' hZ' => notFace_of_selects (args := #[]) (mvT hZ' (own_w99 hw))) (own_w99 hw) (own_w98 hw) (own_w1 hw) (own_w100 hw) (by decide) E_a1 (own_ct_coder l Z a0 hw EL hE n0 [] h0 (own_old w0) a1 z5 F_a1_coder S_COMPACT_STRINGS (P5)) all0 (argsL := []) (rest := []) rfl rfl own_pd3 rfl own_d5_1 rfl (by decide) (W := 0) rfl (by decide) (by decide) (by decide) fun T1 h3 v4 ms5 w2 q6 => ?_
 obtain ⟨rfl, rfl, rfl⟩ := q6
 show own_Go Z EL n0 p e below s _ _ _ (T1.setTop (mkF m 4 _ [(.int (0 : Int32))]))
 refine own_iloadN (pc' := 5) w2 own_d5_4 rfl rfl ?_
 refine own_icmp (pc' := 8) w2 own_d5_5 rfl (by decide) (pcY := 28) rfl (fun (hb5 : ¬ (0 : Int32) = (0 : Int32)) => absurd hb5 (by decide)) (fun (hb5 : (0 : Int32) = (0 : Int32)) => ?_)
 refine own_aloadN (pc' := 9) w2 own_d5_8 rfl rfl rfl ?_
 refine own_getF (pc' := 12) w2 (host := "") (Or.inl (own_w33 hw)) Via.refl F_a1_value own_d5_9 rfl fun T7 w8 => ?_
 refine own_iconst (pc' := 13) w8 own_d5_12 (x := (0 : Int32)) rfl rfl ?_
 refine own_aloadN (pc' := 14) w8 own_d5_13 rfl rfl rfl ?_
 refine own_iloadN (pc' := 15) w8 own_d5_14 rfl rfl ?_
 refine own_iloadN (pc' := 16) w8 own_d5_15 rfl rfl ?_
 refine own_ishl (pc' := 17) w8 own_d5_16 (z := dp) (own_shl0 dp) rfl ?_
 refine own_aloadN (pc' := 18) w8 own_d5_17 rfl rfl rfl ?_
 refine own_getF (pc' := 21) w8 (host := "") (Or.inl (own_w33 hw)) Via.refl F_a1_value own_d5_18 rfl fun T9 w10 => ?_
 refine own_len (pc' := 22) w10 A_t own_d5_21 rfl ?_
 refine own_acopy (pc' := 25) w10 (us := vs) (vs' := (own_put vd dn vs)) (own_w124 hw) (own_w127 hw) (own_w125 hw) (own_w126 hw) (by simp) A_t A_d rfl (by decide) Pu.1 Pu.2.1 own_cp5 (own_pu5 Pu) (own_puu Pu) (own_pul Pu) (own_puv Pu) rfl own_d5_22 rfl (by decide) (W := 0) (Nat.le_of_eq rfl) (by decide) fun T11 h13 w12 K14 A_new => ?_
 clear A_d
 replace E_a1 := E_a1.keep K14
 replace F_a1_coder := F_a1_coder.keep K14 (ninS hna nin0)
 replace F_a1_value := F_a1_value.keep K14 (ninS hna nin0)
 replace A_t := A_t.keep K14 (ninS hne nin0)
 replace K := K.trans K14 (allS (P := fun x => x ∈ ([d] : List Addr) ∨ h0.size ≤ x) (Or.inl (by simp)) all0)
 have A_d := A_new; clear A_new
 show own_Go Z EL n0 p e below s _ _ _ (T11.setTop (mkF m 25 _ []))
 refine own_goto w12 own_d5_25 (by decide) (pc' := 43) rfl ?_
 exact own_ret0 w12 rfl own_d5_43 (by decide) (by decide) (ms' := []) all0 ⟨K, rfl, rfl, A_d⟩
theorem own_d6_0 : decode jdk_68_method_71_code 0 = .ok (.getstatic 18, 3) := by decide +kernel
theorem own_w76 {Z : State} {a0 : Array Value} (hw : ∀ d ∈ tables_1, d.before a0 Z = true) : ((Jvm.Cond.fieldLink "java/lang/AbstractStringBuilder" (18 : Nat) "java/lang/String" "COMPACT_STRINGS" "Z") : Jvm.Cond).before a0 Z = true := hw _ (List.mem_of_getElem? (i := 76) rfl)
theorem own_d6_3 : decode jdk_68_method_71_code 3 = .ok (.ifCond .eq 18, 3) := by decide +kernel
theorem own_d6_6 : decode jdk_68_method_71_code 6 = .ok (.aload_n 0, 1) := by decide +kernel
theorem own_d6_7 : decode jdk_68_method_71_code 7 = .ok (.getfield 22, 3) := by decide +kernel
theorem own_w79 {Z : State} {a0 : Array Value} (hw : ∀ d ∈ tables_1, d.before a0 Z = true) : ((Jvm.Cond.fieldLink "java/lang/AbstractStringBuilder" (22 : Nat) "java/lang/AbstractStringBuilder" "coder" "B") : Jvm.Cond).before a0 Z = true := hw _ (List.mem_of_getElem? (i := 79) rfl)
theorem own_d6_10 : decode jdk_68_method_71_code 10 = .ok (.aload_n 1, 1) := by decide +kernel
theorem own_d6_11 : decode jdk_68_method_71_code 11 = .ok (.invokevirtual 40, 3) := by decide +kernel
theorem own_w118 {Z : State} {a0 : Array Value} (hw : ∀ d ∈ tables_1, d.before a0 Z = true) : ((Jvm.Cond.methodLink "java/lang/AbstractStringBuilder" (40 : Nat) ({ cls := "java/lang/String", name := "coder", desc := "()B" } : Jvm.MethodName)) : Jvm.Cond).before a0 Z = true := hw _ (List.mem_of_getElem? (i := 118) rfl)
theorem own_d6_14 : decode jdk_68_method_71_code 14 = .ok (.if_icmp .eq 7, 3) := by decide +kernel
theorem own_d6_21 : decode jdk_68_method_71_code 21 = .ok (.return_, 1) := by decide +kernel
theorem own_ef_inflN (m : MethodId) (b1 : Addr) (a1 : Addr) : entryFrame m #[(.ref b1), (.ref a1)] 2 = mkF m 0 #[.val (.ref b1), .val (.ref a1)] [] := by first | (simp [entryFrame, mkF, argsToLocals, Value.category]; done) | rfl
theorem own_pf6 : plainFor (⟨"java/lang/AbstractStringBuilder", "inflateIfNeededFor", "(Ljava/lang/String;)V"⟩ : MethodName) = true := by first | exact plainFor_of_name (by first | (simp [plainName, overriddenIn]; done) | decide +kernel) | decide +kernel
def own_Q_inflN (Z : State) (h0 : Heap) (b1 : Addr) (a1 : Addr) (z5 : Int32) (v : Option Value) (h : Heap) (ms : List Addr) : Prop := (h0 = h) ∧ (ms = []) ∧ (v = none)
set_option maxRecDepth 65536 in
set_option maxHeartbeats 40000000 in
theorem own_ct_inflN (l : Launch) (Z : State) (a0 : Array Value) (hw : ∀ d ∈ tables_1, d.before a0 Z = true) (EL : List (String × Nat)) (hE : EW Z a0 EL) (n0 : Nat) (ws : List Jvm.Cond) (h0 : Heap) (O : Old Z n0 h0) (b1 : Addr) (a1 : Addr) (z5 : Int32) (E_b1 : Exa Z h0 b1 "java/lang/StringBuilder") (F_b1_coder : Fld Z h0 b1 "java/lang/AbstractStringBuilder" "coder" "B" (.int 0)) (E_a1 : Exa Z h0 a1 "java/lang/String") (F_a1_coder : Fld Z h0 a1 "java/lang/String" "coder" "B" (.int 0)) (S_COMPACT_STRINGS : Sta Z Z.heap "java/lang/String" "COMPACT_STRINGS" "Z" (.int z5)) (P5 : ¬ z5 = 0) :
    own_Ct l Z EL n0 (⟨"java/lang/AbstractStringBuilder", "inflateIfNeededFor", "(Ljava/lang/String;)V"⟩ : MethodName) jdk_68_method_71_code 2 none ws ({ frames := 1, cells := 0, slots := 0, locals := 13 } : Room) #[(.ref b1), (.ref a1)] h0 [] (own_Q_inflN Z h0 b1 a1 z5) := by
 refine own_enter (a0 := a0) own_pf6 hE O fun p e s m below meth c T0 w0 => ?_
 rw [own_ef_inflN m b1 a1]
 refine own_getS (pc' := 3) w0 (host := "") (Or.inl (own_w76 hw)) Via.refl (S_COMPACT_STRINGS.ext (own_old w0).2) own_d6_0 rfl fun T1 w2 => ?_
 refine own_if (pc' := 6) w2 own_d6_3 rfl (by decide) (pcY := 21) rfl (fun (hb3 : z5 = (0 : Int32)) => absurd hb3 P5) (fun (hb3 : ¬ z5 = (0 : Int32)) => ?_)
 refine own_aloadN (pc' := 7) w2 own_d6_6 rfl rfl rfl ?_
 refine own_getF (pc' := 10) w2 (host := "") (Or.inl (own_w79 hw)) Via.refl F_b1_coder own_d6_7 rfl fun T3 w4 => ?_
 refine own_aloadN (pc' := 11) w4 own_d6_10 rfl rfl rfl ?_
 refine own_callV (pc' := 14) w4 (own_w118 hw) (own_w97 hw) (fun s' hZ' => notFace_of_selects (args := #[]) (mvT hZ' (own_w99 hw))) (own_w99 hw) (own_w98 hw) (own_w1 hw) (own_w100 hw) (by decide) E_a1 (own_ct_coder l Z a0 hw EL hE n0 [] h0 (own_old w4) a1 z5 F_a1_coder S_COMPACT_STRINGS (P5)) all0 (argsL := []) (rest := [(.int (0 : Int32))]) rfl rfl own_pd3 rfl own_d6_11 rfl (by decide) (W := 1) rfl (by decide) (by decide) (by decide) fun T5 h7 v8 ms9 w6 q10 => ?_
 obtain ⟨rfl, rfl, rfl⟩ := q10
 show own_Go Z EL n0 p e below s _ _ _ (T5.setTop (mkF m 14 _ [(.int (0 : Int32)), (.int (0 : Int32))]))
 refine own_icmp (pc' := 17) w6 own_d6_14 rfl (by decide) (pcY := 21) rfl (fun (hb14 : (0 : Int32) = (0 : Int32)) => ?_) (fun (hb14 : ¬ (0 : Int32) = (0 : Int32)) => absurd hb14 (by decide))
 exact own_ret0 w6 rfl own_d6_21 (by decide) (by decide) (ms' := []) all0 ⟨rfl, rfl, rfl⟩
theorem own_d7_0 : decode jdk_68_method_73_code 0 = .ok (.aload_n 0, 1) := by decide +kernel
theorem own_d7_1 : decode jdk_68_method_73_code 1 = .ok (.aload_n 2, 1) := by decide +kernel
theorem own_d7_2 : decode jdk_68_method_73_code 2 = .ok (.invokevirtual 397, 3) := by decide +kernel
theorem own_w117 {Z : State} {a0 : Array Value} (hw : ∀ d ∈ tables_1, d.before a0 Z = true) : ((Jvm.Cond.code ({ cls := "java/lang/AbstractStringBuilder", name := "inflateIfNeededFor", desc := "(Ljava/lang/String;)V" } : Jvm.MethodName) jdk_68_method_71_code (2 : Nat) (Option.none : Option Jvm.ClassFile.FieldType)) : Jvm.Cond).before a0 Z = true := hw _ (List.mem_of_getElem? (i := 117) rfl)
theorem own_w73 {Z : State} {a0 : Array Value} (hw : ∀ d ∈ tables_1, d.before a0 Z = true) : ((Jvm.Cond.initialized "java/lang/AbstractStringBuilder") : Jvm.Cond).before a0 Z = true := hw _ (List.mem_of_getElem? (i := 73) rfl)
theorem own_pd4 : parseMethodDescriptor "(Ljava/lang/String;)V" = some ⟨[(.object "java/lang/String")], none⟩ := by decide +kernel
theorem own_w113 {Z : State} {a0 : Array Value} (hw : ∀ d ∈ tables_1, d.before a0 Z = true) : ((Jvm.Cond.methodLink "java/lang/AbstractStringBuilder" (397 : Nat) ({ cls := "java/lang/AbstractStringBuilder", name := "inflateIfNeededFor", desc := "(Ljava/lang/String;)V" } : Jvm.MethodName)) : Jvm.Cond).before a0 Z = true := hw _ (List.mem_of_getElem? (i := 113) rfl)
theorem own_w114 {Z : State} {a0 : Array Value} (hw : ∀ d ∈ tables_1, d.before a0 Z = true) : ((Jvm.Cond.instanceMethod ({ cls := "java/lang/AbstractStringBuilder", name := "inflateIfNeededFor", desc := "(Ljava/lang/String;)V" } : Jvm.MethodName)) : Jvm.Cond).before a0 Z = true := hw _ (List.mem_of_getElem? (i := 114) rfl)
theorem own_w116 {Z : State} {a0 : Array Value} (hw : ∀ d ∈ tables_1, d.before a0 Z = true) : ((Jvm.Cond.selects "java/lang/StringBuilder" ({ cls := "java/lang/AbstractStringBuilder", name := "inflateIfNeededFor", desc := "(Ljava/lang/String;)V" } : Jvm.MethodName) ({ cls := "java/lang/AbstractStringBuilder", name := "inflateIfNeededFor", desc := "(Ljava/lang/String;)V" } : Jvm.MethodName)) : Jvm.Cond).before a0 Z = true := hw _ (List.mem_of_getElem? (i := 116) rfl)
theorem own_d7_5 : decode jdk_68_method_73_code 5 = .ok (.aload_n 2, 1) := by decide +kernel
theorem own_d7_6 : decode jdk_68_method_73_code 6 = .ok (.aload_n 0, 1) := by decide +kernel
theorem own_d7_7 : decode jdk_68_method_73_code 7 = .ok (.getfield 15, 3) := by decide +kernel
theorem own_w77 {Z : State} {a0 : Array Value} (hw : ∀ d ∈ tables_1, d.before a0 Z = true) : ((Jvm.Cond.fieldLink "java/lang/AbstractStringBuilder" (15 : Nat) "java/lang/AbstractStringBuilder" "value" "[B") : Jvm.Cond).before a0 Z = true := hw _ (List.mem_of_getElem? (i := 77) rfl)
theorem own_d7_10 : decode jdk_68_method_73_code 10 = .ok (.iload_n 1, 1) := by decide +kernel
theorem own_d7_11 : decode jdk_68_method_73_code 11 = .ok (.aload_n 0, 1) := by decide +kernel
theorem own_d7_12 : decode jdk_68_method_73_code 12 = .ok (.getfield 22, 3) := by decide +kernel
theorem own_d7_15 : decode jdk_68_method_73_code 15 = .ok (.invokevirtual 399, 3) := by decide +kernel
theorem own_w123 {Z : State} {a0 : Array Value} (hw : ∀ d ∈ tables_1, d.before a0 Z = true) : ((Jvm.Cond.code ({ cls := "java/lang/String", name := "getBytes", desc := "([BIB)V" } : Jvm.MethodName) jdk_42_method_147_code (4 : Nat) (Option.none : Option Jvm.ClassFile.FieldType)) : Jvm.Cond).before a0 Z = true := hw _ (List.mem_of_getElem? (i := 123) rfl)
theorem own_pd5 : parseMethodDescriptor "([BIB)V" = some ⟨[(.array .byte), .int, .byte], none⟩ := by decide +kernel
theorem own_w119 {Z : State} {a0 : Array Value} (hw : ∀ d ∈ tables_1, d.before a0 Z = true) : ((Jvm.Cond.methodLink "java/lang/AbstractStringBuilder" (399 : Nat) ({ cls := "java/lang/String", name := "getBytes", desc := "([BIB)V" } : Jvm.MethodName)) : Jvm.Cond).before a0 Z = true := hw _ (List.mem_of_getElem? (i := 119) rfl)
theorem own_w120 {Z : State} {a0 : Array Value} (hw : ∀ d ∈ tables_1, d.before a0 Z = true) : ((Jvm.Cond.declares ({ cls := "java/lang/String", name := "getBytes", desc := "([BIB)V" } : Jvm.MethodName)) : Jvm.Cond).before a0 Z = true := hw _ (List.mem_of_getElem? (i := 120) rfl)
theorem own_w122 {Z : State} {a0 : Array Value} (hw : ∀ d ∈ tables_1, d.before a0 Z = true) : ((Jvm.Cond.selects "java/lang/String" ({ cls := "java/lang/String", name := "getBytes", desc := "([BIB)V" } : Jvm.MethodName) ({ cls := "java/lang/String", name := "getBytes", desc := "([BIB)V" } : Jvm.MethodName)) : Jvm.Cond).before a0 Z = true := hw _ (List.mem_of_getElem? (i := 122) rfl)
theorem own_w121 {Z : State} {a0 : Array Value} (hw : ∀ d ∈ tables_1, d.before a0 Z = true) : ((Jvm.Cond.instanceMethod ({ cls := "java/lang/String", name := "getBytes", desc := "([BIB)V" } : Jvm.MethodName)) : Jvm.Cond).before a0 Z = true := hw _ (List.mem_of_getElem? (i := 121) rfl)
theorem own_d7_18 : decode jdk_68_method_73_code 18 = .ok (.return_, 1) := by decide +kernel
theorem own_ef_putS (m : MethodId) (b1 : Addr) (dp : Int32) (a1 : Addr) : entryFrame m #[(.ref b1), (.int dp), (.ref a1)] 3 = mkF m 0 #[.val (.ref b1), .val (.int dp), .val (.ref a1)] [] := by first | (simp [entryFrame, mkF, argsToLocals, Value.category]; done) | rfl
theorem own_pf7 : plainFor (⟨"java/lang/AbstractStringBuilder", "putStringAt", "(ILjava/lang/String;)V"⟩ : MethodName) = true := by first | exact plainFor_of_name (by first | (simp [plainName, overriddenIn]; done) | decide +kernel) | decide +kernel
def own_Q_putS (Z : State) (h0 : Heap) (b1 : Addr) (dp : Int32) (a1 : Addr) (d : Addr) (kd : ClassId) (M : Int32) (vd : List Value) (t : Addr) (kb : ClassId) (N : Int32) (vs : List Value) (dn : Nat) (n : Nat) (z5 : Int32) (v : Option Value) (h : Heap) (ms : List Addr) : Prop := (Keep h0 h [d]) ∧ (ms = []) ∧ (v = none) ∧ (Arv Z h d kd .byte M (own_put vd dn vs) (.int 0))
set_option maxRecDepth 65536 in
set_option maxHeartbeats 40000000 in
theorem own_ct_putS (l : Launch) (Z : State) (a0 : Array Value) (hw : ∀ d ∈ tables_1, d.before a0 Z = true) (EL : List (String × Nat)) (hE : EW Z a0 EL) (n0 : Nat) (ws : List Jvm.Cond) (h0 : Heap) (O : Old Z n0 h0) (b1 : Addr) (dp : Int32) (a1 : Addr) (d : Addr) (kd : ClassId) (M : Int32) (vd : List Value) (t : Addr) (kb : ClassId) (N : Int32) (vs : List Value) (dn : Nat) (n : Nat) (z5 : Int32) (E_b1 : Exa Z h0 b1 "java/lang/StringBuilder") (F_b1_value : Fld Z h0 b1 "java/lang/AbstractStringBuilder" "value" "[B" (.ref d)) (F_b1_coder : Fld Z h0 b1 "java/lang/AbstractStringBuilder" "coder" "B" (.int 0)) (A_d : Arv Z h0 d kd .byte M vd (.int 0)) (E_a1 : Exa Z h0 a1 "java/lang/String") (F_a1_coder : Fld Z h0 a1 "java/lang/String" "coder" "B" (.int 0)) (F_a1_value : Fld Z h0 a1 "java/lang/String" "value" "[B" (.ref t)) (A_t : Arv Z h0 t kb .byte N vs (.int 0)) (S_COMPACT_STRINGS : Sta Z Z.heap "java/lang/String" "COMPACT_STRINGS" "Z" (.int z5)) (P5 : ¬ z5 = 0) (hne : t ≠ d) (hna : a1 ≠ d) (hbd1 : d ≠ b1) (Pu : own_Pu dp N M dn n vd vs) :
    own_Ct l Z EL n0 (⟨"java/lang/AbstractStringBuilder", "putStringAt", "(ILjava/lang/String;)V"⟩ : MethodName) jdk_68_method_73_code 3 none ws ({ frames := 2, cells := 0, slots := 0, locals := 33 } : Room) #[(.ref b1), (.int dp), (.ref a1)] h0 [d] (own_Q_putS Z h0 b1 dp a1 d kd M vd t kb N vs dn n z5) := by
 refine own_enter (a0 := a0) own_pf7 hE O fun p e s m below meth c T0 w0 => ?_
 rw [own_ef_putS m b1 dp a1]
 have K : Keep h0 h0 [d] := Keep.refl _ _
 refine own_aloadN (pc' := 1) w0 own_d7_0 rfl rfl rfl ?_
 refine own_aloadN (pc' := 2) w0 own_d7_1 rfl rfl rfl ?_
 refine own_callV (pc' := 5) w0 (own_w113 hw) (own_decl (own_w114 hw) (own_w117 hw)) (fun s' hZ' => notFace_of_selects (args := #[]) (mvT hZ' (own_w116 hw))) (own_w116 hw) (own_w114 hw) (own_w73 hw) (own_w117 hw) (by decide) E_b1 (own_ct_inflN l Z a0 hw EL hE n0 [] h0 (own_old w0) b1 a1 z5 E_b1 F_b1_coder E_a1 F_a1_coder S_COMPACT_STRINGS (P5)) all0 (argsL := [(.ref a1)]) (rest := []) rfl rfl own_pd4 rfl own_d7_2 rfl (by decide) (W := 0) rfl (by decide) (by decide) (by decide) fun T1 h3 v4 ms5 w2 q6 => ?_
 obtain ⟨rfl, rfl, rfl⟩ := q6
 show own_Go Z EL n0 p e below s _ _ _ (T1.setTop (mkF m 5 _ []))
 refine own_aloadN (pc' := 6) w2 own_d7_5 rfl rfl rfl ?_
 refine own_aloadN (pc' := 7) w2 own_d7_6 rfl rfl rfl ?_
 refine own_getF (pc' := 10) w2 (host := "") (Or.inl (own_w77 hw)) Via.refl F_b1_value own_d7_7 rfl fun T7 w8 => ?_
 refine own_iloadN (pc' := 11) w8 own_d7_10 rfl rfl ?_
 refine own_aloadN (pc' := 12) w8 own_d7_11 rfl rfl rfl ?_
 refine own_getF (pc' := 15) w8 (host := "") (Or.inl (own_w79 hw)) Via.refl F_b1_coder own_d7_12 rfl fun T9 w10 => ?_
 refine own_callV (pc' := 18) w10 (own_w119 hw) (own_w120 hw) (fun s' hZ' => notFace_of_selects (args := #[]) (mvT hZ' (own_w122 hw))) (own_w122 hw) (own_w121 hw) (own_w1 hw) (own_w123 hw) (by decide) E_a1 (own_ct_getB l Z a0 hw EL hE n0 [] h0 (own_old w10) a1 d dp t kb N vs kd M vd dn n z5 E_a1 F_a1_coder F_a1_value A_t A_d S_COMPACT_STRINGS (P5) hne hna (Pu)) (allS (P := fun x => x ∈ _) (by simp) all0) (argsL := [(.ref d), (.int dp), (.int (0 : Int32))]) (rest := []) rfl rfl own_pd5 rfl own_d7_15 rfl (by decide) (W := 0) rfl (by decide) (by decide) (by decide) fun T11 h13 v14 ms15 w12 q16 => ?_
 obtain ⟨K17, rfl, rfl, nw_A_d⟩ := q16
 replace E_b1 := E_b1.keep K17
 replace F_b1_value := F_b1_value.keep K17 (ninS (Ne.symm hbd1) nin0)
 replace F_b1_coder := F_b1_coder.keep K17 (ninS (Ne.symm hbd1) nin0)
 replace E_a1 := E_a1.keep K17
 replace F_a1_coder := F_a1_coder.keep K17 (ninS hna nin0)
 replace F_a1_value := F_a1_value.keep K17 (ninS hna nin0)
 replace A_t := A_t.keep K17 (ninS hne nin0)
 replace K := K.trans K17 (allS (P := fun x => x ∈ ([d] : List Addr) ∨ h0.size ≤ x) (Or.inl (by simp)) all0)
 have A_d := nw_A_d; clear nw_A_d
 show own_Go Z EL n0 p e below s _ _ _ (T11.setTop (mkF m 18 _ []))
 exact own_ret0 w12 rfl own_d7_18 (by decide) (by decide) (ms' := []) all0 ⟨K, rfl, rfl, A_d⟩
theorem own_d8_0 : decode jdk_68_method_9_code 0 = .ok (.aload_n 0, 1) := by decide +kernel
theorem own_d8_1 : decode jdk_68_method_9_code 1 = .ok (.getfield 15, 3) := by decide +kernel
theorem own_d8_4 : decode jdk_68_method_9_code 4 = .ok (.arraylength, 1) := by decide +kernel
theorem own_d8_5 : decode jdk_68_method_9_code 5 = .ok (.aload_n 0, 1) := by decide +kernel
theorem own_d8_6 : decode jdk_68_method_9_code 6 = .ok (.getfield 22, 3) := by decide +kernel
theorem own_d8_9 : decode jdk_68_method_9_code 9 = .ok (.ishr, 1) := by decide +kernel
theorem own_d8_10 : decode jdk_68_method_9_code 10 = .ok (.istore_n 2, 1) := by decide +kernel
theorem own_d8_11 : decode jdk_68_method_9_code 11 = .ok (.iload_n 1, 1) := by decide +kernel
theorem own_d8_12 : decode jdk_68_method_9_code 12 = .ok (.iload_n 2, 1) := by decide +kernel
theorem own_d8_13 : decode jdk_68_method_9_code 13 = .ok (.isub, 1) := by decide +kernel
theorem own_d8_14 : decode jdk_68_method_9_code 14 = .ok (.ifCond .le 24, 3) := by decide +kernel
theorem own_d8_38 : decode jdk_68_method_9_code 38 = .ok (.return_, 1) := by decide +kernel
theorem own_ef_ensC (m : MethodId) (b1 : Addr) (mc : Int32) : entryFrame m #[(.ref b1), (.int mc)] 3 = mkF m 0 #[.val (.ref b1), .val (.int mc), .unset] [] := by first | (simp [entryFrame, mkF, argsToLocals, Value.category]; done) | rfl
theorem own_pf8 : plainFor (⟨"java/lang/AbstractStringBuilder", "ensureCapacityInternal", "(I)V"⟩ : MethodName) = true := by first | exact plainFor_of_name (by first | (simp [plainName, overriddenIn]; done) | decide +kernel) | decide +kernel
def own_Q_ensC (Z : State) (h0 : Heap) (b1 : Addr) (mc : Int32) (d : Addr) (kd : ClassId) (M : Int32) (vd : List Value) (v : Option Value) (h : Heap) (ms : List Addr) : Prop := (h0 = h) ∧ (ms = []) ∧ (v = none)
set_option maxRecDepth 65536 in
set_option maxHeartbeats 40000000 in
theorem own_ct_ensC (l : Launch) (Z : State) (a0 : Array Value) (hw : ∀ d ∈ tables_1, d.before a0 Z = true) (EL : List (String × Nat)) (hE : EW Z a0 EL) (n0 : Nat) (ws : List Jvm.Cond) (h0 : Heap) (O : Old Z n0 h0) (b1 : Addr) (mc : Int32) (d : Addr) (kd : ClassId) (M : Int32) (vd : List Value) (E_b1 : Exa Z h0 b1 "java/lang/StringBuilder") (F_b1_value : Fld Z h0 b1 "java/lang/AbstractStringBuilder" "value" "[B" (.ref d)) (F_b1_coder : Fld Z h0 b1 "java/lang/AbstractStringBuilder" "coder" "B" (.int 0)) (A_d : Arv Z h0 d kd .byte M vd (.int 0)) (hle : ¬ 0 < (mc - M)) :
    own_Ct l Z EL n0 (⟨"java/lang/AbstractStringBuilder", "ensureCapacityInternal", "(I)V"⟩ : MethodName) jdk_68_method_9_code 3 none ws ({ frames := 0, cells := 0, slots := 0, locals := 0 } : Room) #[(.ref b1), (.int mc)] h0 [] (own_Q_ensC Z h0 b1 mc d kd M vd) := by
 refine own_enter (a0 := a0) own_pf8 hE O fun p e s m below meth c T0 w0 => ?_
 rw [own_ef_ensC m b1 mc]
 refine own_aloadN (pc' := 1) w0 own_d8_0 rfl rfl rfl ?_
 refine own_getF (pc' := 4) w0 (host := "") (Or.inl (own_w77 hw)) Via.refl F_b1_value own_d8_1 rfl fun T1 w2 => ?_
 refine own_len (pc' := 5) w2 A_d own_d8_4 rfl ?_
 refine own_aloadN (pc' := 6) w2 own_d8_5 rfl rfl rfl ?_
 refine own_getF (pc' := 9) w2 (host := "") (Or.inl (own_w79 hw)) Via.refl F_b1_coder own_d8_6 rfl fun T3 w4 => ?_
 refine own_ishr (pc' := 10) w4 own_d8_9 (z := M) (own_shr0 M) rfl ?_
 refine own_istoreN (pc' := 11) w4 own_d8_10 (Ls' := #[.val (.ref b1), .val (.int mc), .val (.int M)]) rfl rfl ?_
 refine own_iloadN (pc' := 12) w4 own_d8_11 rfl rfl ?_
 refine own_iloadN (pc' := 13) w4 own_d8_12 rfl rfl ?_
 refine own_isub (pc' := 14) w4 own_d8_13 (z := (mc - M)) rfl rfl ?_
 refine own_if (pc' := 17) w4 own_d8_14 rfl (by decide) (pcY := 38) rfl (fun (hb14 : ¬ (0 : Int32) < (mc - M)) => ?_) (fun (hb14 : (0 : Int32) < (mc - M)) => absurd hb14 hle)
 exact own_ret0 w4 rfl own_d8_38 (by decide) (by decide) (ms' := []) all0 ⟨rfl, rfl, rfl⟩
theorem own_d9_0 : decode jdk_68_method_22_code 0 = .ok (.aload_n 1, 1) := by decide +kernel
theorem own_d9_1 : decode jdk_68_method_22_code 1 = .ok (.ifnonnull 8, 3) := by decide +kernel
theorem own_d9_9 : decode jdk_68_method_22_code 9 = .ok (.aload_n 1, 1) := by decide +kernel
theorem own_d9_10 : decode jdk_68_method_22_code 10 = .ok (.invokevirtual 32, 3) := by decide +kernel
theorem own_w91 {Z : State} {a0 : Array Value} (hw : ∀ d ∈ tables_1, d.before a0 Z = true) : ((Jvm.Cond.methodLink "java/lang/AbstractStringBuilder" (32 : Nat) ({ cls := "java/lang/String", name := "length", desc := "()I" } : Jvm.MethodName)) : Jvm.Cond).before a0 Z = true := hw _ (List.mem_of_getElem? (i := 91) rfl)
theorem own_w92 {Z : State} {a0 : Array Value} (hw : ∀ d ∈ tables_1, d.before a0 Z = true) : ((Jvm.Cond.declares ({ cls := "java/lang/String", name := "length", desc := "()I" } : Jvm.MethodName)) : Jvm.Cond).before a0 Z = true := hw _ (List.mem_of_getElem? (i := 92) rfl)
theorem own_w94 {Z : State} {a0 : Array Value} (hw : ∀ d ∈ tables_1, d.before a0 Z = true) : ((Jvm.Cond.selects "java/lang/String" ({ cls := "java/lang/String", name := "length", desc := "()I" } : Jvm.MethodName) ({ cls := "java/lang/String", name := "length", desc := "()I" } : Jvm.MethodName)) : Jvm.Cond).before a0 Z = true := hw _ (List.mem_of_getElem? (i := 94) rfl)
theorem own_w93 {Z : State} {a0 : Array Value} (hw : ∀ d ∈ tables_1, d.before a0 Z = true) : ((Jvm.Cond.instanceMethod ({ cls := "java/lang/String", name := "length", desc := "()I" } : Jvm.MethodName)) : Jvm.Cond).before a0 Z = true := hw _ (List.mem_of_getElem? (i := 93) rfl)
theorem own_w2 {Z : State} {a0 : Array Value} (hw : ∀ d ∈ tables_1, d.before a0 Z = true) : ((Jvm.Cond.instantiable "java/lang/String" (4 : Nat)) : Jvm.Cond).before a0 Z = true := hw _ (List.mem_of_getElem? (i := 2) rfl)
theorem own_pd6 : parseMethodDescriptor "()I" = some ⟨[], some .int⟩ := by decide +kernel
theorem own_d9_13 : decode jdk_68_method_22_code 13 = .ok (.istore_n 2, 1) := by decide +kernel
theorem own_d9_14 : decode jdk_68_method_22_code 14 = .ok (.aload_n 0, 1) := by decide +kernel
theorem own_d9_15 : decode jdk_68_method_22_code 15 = .ok (.aload_n 0, 1) := by decide +kernel
theorem own_d9_16 : decode jdk_68_method_22_code 16 = .ok (.getfield 79, 3) := by decide +kernel
theorem own_w101 {Z : State} {a0 : Array Value} (hw : ∀ d ∈ tables_1, d.before a0 Z = true) : ((Jvm.Cond.fieldLink "java/lang/AbstractStringBuilder" (79 : Nat) "java/lang/AbstractStringBuilder" "count" "I") : Jvm.Cond).before a0 Z = true := hw _ (List.mem_of_getElem? (i := 101) rfl)
theorem own_d9_19 : decode jdk_68_method_22_code 19 = .ok (.iload_n 2, 1) := by decide +kernel
theorem own_d9_20 : decode jdk_68_method_22_code 20 = .ok (.iadd, 1) := by decide +kernel
theorem own_d9_21 : decode jdk_68_method_22_code 21 = .ok (.invokevirtual 100, 3) := by decide +kernel
theorem own_w107 {Z : State} {a0 : Array Value} (hw : ∀ d ∈ tables_1, d.before a0 Z = true) : ((Jvm.Cond.code ({ cls := "java/lang/AbstractStringBuilder", name := "ensureCapacityInternal", desc := "(I)V" } : Jvm.MethodName) jdk_68_method_9_code (3 : Nat) (Option.none : Option Jvm.ClassFile.FieldType)) : Jvm.Cond).before a0 Z = true := hw _ (List.mem_of_getElem? (i := 107) rfl)
theorem own_pd7 : parseMethodDescriptor "(I)V" = some ⟨[.int], none⟩ := by decide +kernel
theorem own_w103 {Z : State} {a0 : Array Value} (hw : ∀ d ∈ tables_1, d.before a0 Z = true) : ((Jvm.Cond.methodLink "java/lang/AbstractStringBuilder" (100 : Nat) ({ cls := "java/lang/AbstractStringBuilder", name := "ensureCapacityInternal", desc := "(I)V" } : Jvm.MethodName)) : Jvm.Cond).before a0 Z = true := hw _ (List.mem_of_getElem? (i := 103) rfl)
theorem own_w104 {Z : State} {a0 : Array Value} (hw : ∀ d ∈ tables_1, d.before a0 Z = true) : ((Jvm.Cond.instanceMethod ({ cls := "java/lang/AbstractStringBuilder", name := "ensureCapacityInternal", desc := "(I)V" } : Jvm.MethodName)) : Jvm.Cond).before a0 Z = true := hw _ (List.mem_of_getElem? (i := 104) rfl)
theorem own_w106 {Z : State} {a0 : Array Value} (hw : ∀ d ∈ tables_1, d.before a0 Z = true) : ((Jvm.Cond.selects "java/lang/StringBuilder" ({ cls := "java/lang/AbstractStringBuilder", name := "ensureCapacityInternal", desc := "(I)V" } : Jvm.MethodName) ({ cls := "java/lang/AbstractStringBuilder", name := "ensureCapacityInternal", desc := "(I)V" } : Jvm.MethodName)) : Jvm.Cond).before a0 Z = true := hw _ (List.mem_of_getElem? (i := 106) rfl)
theorem own_d9_24 : decode jdk_68_method_22_code 24 = .ok (.aload_n 0, 1) := by decide +kernel
theorem own_d9_25 : decode jdk_68_method_22_code 25 = .ok (.aload_n 0, 1) := by decide +kernel
theorem own_d9_26 : decode jdk_68_method_22_code 26 = .ok (.getfield 79, 3) := by decide +kernel
theorem own_d9_29 : decode jdk_68_method_22_code 29 = .ok (.aload_n 1, 1) := by decide +kernel
theorem own_d9_30 : decode jdk_68_method_22_code 30 = .ok (.invokevirtual 208, 3) := by decide +kernel
theorem own_w112 {Z : State} {a0 : Array Value} (hw : ∀ d ∈ tables_1, d.before a0 Z = true) : ((Jvm.Cond.code ({ cls := "java/lang/AbstractStringBuilder", name := "putStringAt", desc := "(ILjava/lang/String;)V" } : Jvm.MethodName) jdk_68_method_73_code (3 : Nat) (Option.none : Option Jvm.ClassFile.FieldType)) : Jvm.Cond).before a0 Z = true := hw _ (List.mem_of_getElem? (i := 112) rfl)
theorem own_pd8 : parseMethodDescriptor "(ILjava/lang/String;)V" = some ⟨[.int, (.object "java/lang/String")], none⟩ := by decide +kernel
theorem own_w108 {Z : State} {a0 : Array Value} (hw : ∀ d ∈ tables_1, d.before a0 Z = true) : ((Jvm.Cond.methodLink "java/lang/AbstractStringBuilder" (208 : Nat) ({ cls := "java/lang/AbstractStringBuilder", name := "putStringAt", desc := "(ILjava/lang/String;)V" } : Jvm.MethodName)) : Jvm.Cond).before a0 Z = true := hw _ (List.mem_of_getElem? (i := 108) rfl)
theorem own_w109 {Z : State} {a0 : Array Value} (hw : ∀ d ∈ tables_1, d.before a0 Z = true) : ((Jvm.Cond.instanceMethod ({ cls := "java/lang/AbstractStringBuilder", name := "putStringAt", desc := "(ILjava/lang/String;)V" } : Jvm.MethodName)) : Jvm.Cond).before a0 Z = true := hw _ (List.mem_of_getElem? (i := 109) rfl)
theorem own_w111 {Z : State} {a0 : Array Value} (hw : ∀ d ∈ tables_1, d.before a0 Z = true) : ((Jvm.Cond.selects "java/lang/StringBuilder" ({ cls := "java/lang/AbstractStringBuilder", name := "putStringAt", desc := "(ILjava/lang/String;)V" } : Jvm.MethodName) ({ cls := "java/lang/AbstractStringBuilder", name := "putStringAt", desc := "(ILjava/lang/String;)V" } : Jvm.MethodName)) : Jvm.Cond).before a0 Z = true := hw _ (List.mem_of_getElem? (i := 111) rfl)
theorem own_d9_33 : decode jdk_68_method_22_code 33 = .ok (.aload_n 0, 1) := by decide +kernel
theorem own_d9_34 : decode jdk_68_method_22_code 34 = .ok (.dup, 1) := by decide +kernel
theorem own_d9_35 : decode jdk_68_method_22_code 35 = .ok (.getfield 79, 3) := by decide +kernel
theorem own_d9_38 : decode jdk_68_method_22_code 38 = .ok (.iload_n 2, 1) := by decide +kernel
theorem own_d9_39 : decode jdk_68_method_22_code 39 = .ok (.iadd, 1) := by decide +kernel
theorem own_d9_40 : decode jdk_68_method_22_code 40 = .ok (.putfield 79, 3) := by decide +kernel
theorem own_w102 {Z : State} {a0 : Array Value} (hw : ∀ d ∈ tables_1, d.before a0 Z = true) : ((Jvm.Cond.lays "java/lang/StringBuilder" "java/lang/AbstractStringBuilder" "count" "I") : Jvm.Cond).before a0 Z = true := hw _ (List.mem_of_getElem? (i := 102) rfl)
theorem own_w64 {Z : State} {a0 : Array Value} (hw : ∀ d ∈ tables_1, d.before a0 Z = true) : ((Jvm.Cond.instantiable "java/lang/StringBuilder" (4 : Nat)) : Jvm.Cond).before a0 Z = true := hw _ (List.mem_of_getElem? (i := 64) rfl)
theorem own_w78 {Z : State} {a0 : Array Value} (hw : ∀ d ∈ tables_1, d.before a0 Z = true) : ((Jvm.Cond.lays "java/lang/StringBuilder" "java/lang/AbstractStringBuilder" "value" "[B") : Jvm.Cond).before a0 Z = true := hw _ (List.mem_of_getElem? (i := 78) rfl)
theorem own_w80 {Z : State} {a0 : Array Value} (hw : ∀ d ∈ tables_1, d.before a0 Z = true) : ((Jvm.Cond.lays "java/lang/StringBuilder" "java/lang/AbstractStringBuilder" "coder" "B") : Jvm.Cond).before a0 Z = true := hw _ (List.mem_of_getElem? (i := 80) rfl)
theorem own_d9_43 : decode jdk_68_method_22_code 43 = .ok (.aload_n 0, 1) := by decide +kernel
theorem own_d9_44 : decode jdk_68_method_22_code 44 = .ok (.areturn, 1) := by decide +kernel
theorem own_ef_appA (m : MethodId) (b1 : Addr) (a1 : Addr) : entryFrame m #[(.ref b1), (.ref a1)] 3 = mkF m 0 #[.val (.ref b1), .val (.ref a1), .unset] [] := by first | (simp [entryFrame, mkF, argsToLocals, Value.category]; done) | rfl
theorem own_pf9 : plainFor (⟨"java/lang/AbstractStringBuilder", "append", "(Ljava/lang/String;)Ljava/lang/AbstractStringBuilder;"⟩ : MethodName) = true := by first | exact plainFor_of_name (by first | (simp [plainName, overriddenIn]; done) | decide +kernel) | decide +kernel
def own_Q_appA (Z : State) (h0 : Heap) (b1 : Addr) (a1 : Addr) (d : Addr) (kd : ClassId) (M : Int32) (vd : List Value) (t : Addr) (kb : ClassId) (N : Int32) (vs : List Value) (cs : List Int32) (dp : Int32) (eI : Int32) (dn : Nat) (n : Nat) (z5 : Int32) (v : Option Value) (h : Heap) (ms : List Addr) : Prop := (Keep h0 h [b1, d]) ∧ (ms = []) ∧ (v = some (.ref b1)) ∧ (Exa Z h b1 "java/lang/StringBuilder") ∧ (Fld Z h b1 "java/lang/AbstractStringBuilder" "value" "[B" (.ref d)) ∧ (Fld Z h b1 "java/lang/AbstractStringBuilder" "coder" "B" (.int 0)) ∧ (Fld Z h b1 "java/lang/AbstractStringBuilder" "count" "I" (.int eI)) ∧ (Arv Z h d kd .byte M (own_put vd dn vs) (.int 0))
set_option maxRecDepth 65536 in
set_option maxHeartbeats 40000000 in
theorem own_ct_appA (l : Launch) (Z : State) (a0 : Array Value) (hw : ∀ d ∈ tables_1, d.before a0 Z = true) (EL : List (String × Nat)) (hE : EW Z a0 EL) (n0 : Nat) (ws : List Jvm.Cond) (h0 : Heap) (O : Old Z n0 h0) (b1 : Addr) (a1 : Addr) (d : Addr) (kd : ClassId) (M : Int32) (vd : List Value) (t : Addr) (kb : ClassId) (N : Int32) (vs : List Value) (cs : List Int32) (dp : Int32) (eI : Int32) (dn : Nat) (n : Nat) (z5 : Int32) (E_b1 : Exa Z h0 b1 "java/lang/StringBuilder") (F_b1_value : Fld Z h0 b1 "java/lang/AbstractStringBuilder" "value" "[B" (.ref d)) (F_b1_coder : Fld Z h0 b1 "java/lang/AbstractStringBuilder" "coder" "B" (.int 0)) (F_b1_count : Fld Z h0 b1 "java/lang/AbstractStringBuilder" "count" "I" (.int dp)) (A_d : Arv Z h0 d kd .byte M vd (.int 0)) (E_a1 : Exa Z h0 a1 "java/lang/String") (F_a1_coder : Fld Z h0 a1 "java/lang/String" "coder" "B" (.int 0)) (F_a1_value : Fld Z h0 a1 "java/lang/String" "value" "[B" (.ref t)) (A_t : Arv Z h0 t kb .byte N vs (.int 0)) (hcd : StrChars.Road.CodA cs 0 N vs) (hbd : ∀ c ∈ cs, ¬ c < 0 ∧ ¬ (65535 : Int32) < c) (l2 : cs.length ≤ 4000) (S_COMPACT_STRINGS : Sta Z Z.heap "java/lang/String" "COMPACT_STRINGS" "Z" (.int z5)) (P5 : ¬ z5 = 0) (hne : t ≠ d) (hna : a1 ≠ d) (hbt : t ≠ b1) (hba : a1 ≠ b1) (hbd1 : d ≠ b1) (hNL : Int32.ofNat cs.length = N) (hcE : dp + N = eI) (hle : ¬ 0 < (eI - M)) (Pu : own_Pu dp N M dn n vd vs) :
    own_Ct l Z EL n0 (⟨"java/lang/AbstractStringBuilder", "append", "(Ljava/lang/String;)Ljava/lang/AbstractStringBuilder;"⟩ : MethodName) jdk_68_method_22_code 3 (some (.object "java/lang/AbstractStringBuilder")) ws ({ frames := 3, cells := 0, slots := 0, locals := 47 } : Room) #[(.ref b1), (.ref a1)] h0 [b1, d] (own_Q_appA Z h0 b1 a1 d kd M vd t kb N vs cs dp eI dn n z5) := by
 refine own_enter (a0 := a0) own_pf9 hE O fun p e s m below meth c T0 w0 => ?_
 rw [own_ef_appA m b1 a1]
 have K : Keep h0 h0 [b1, d] := Keep.refl _ _
 refine own_aloadN (pc' := 1) w0 own_d9_0 rfl rfl rfl ?_
 refine own_ifnonnullY w0 own_d9_1 (by decide) (pc' := 9) rfl ?_
 refine own_aloadN (pc' := 10) w0 own_d9_9 rfl rfl rfl ?_
 refine own_callVB (pc' := 13) w0 (kc := 0) (nc := 0) (own_w91 hw) (own_w92 hw) (fun s' hZ' => notFace_of_selects (args := #[]) (mvT hZ' (own_w94 hw))) (own_w94 hw) (own_w93 hw) (by decide) E_a1 (QQ := fun v h' L => (v = some (.int (Int32.ofNat (List.length cs)))) ∧ L = [] ∧ h' = h0) (fun s' hZ' => StrChars.Road.lenW (W := 0) hZ' (own_hwl hw) (kI := 4) (own_w2 hw) E_a1 F_a1_value F_a1_coder A_t hcd hbd (S_COMPACT_STRINGS.ext (own_old w0).2) P5 l2 (by decide) (by decide)) (ws := []) all0 (fun v h' L q => ⟨q.2.2 ▸ Keep.refl _ _, q.2.1 ▸ Fr.nil _⟩) (argsL := []) (rest := []) rfl rfl own_pd6 rfl own_d9_10 rfl (Nat.le_of_eq rfl) (by decide) (by decide) fun T1 h3 v4 w2 K5 q6 => ?_
 obtain ⟨_, rfl, -, e7⟩ := q6
 rw [e7] at w2
 show own_Go Z EL n0 p e below s _ _ _ (T1.setTop (mkF m 13 _ [(.int (Int32.ofNat (List.length cs)))]))
 refine own_istoreN (pc' := 14) w2 own_d9_13 (Ls' := #[.val (.ref b1), .val (.ref a1), .val (.int (Int32.ofNat (List.length cs)))]) rfl rfl ?_
 refine own_aloadN (pc' := 15) w2 own_d9_14 rfl rfl rfl ?_
 refine own_aloadN (pc' := 16) w2 own_d9_15 rfl rfl rfl ?_
 refine own_getF (pc' := 19) w2 (host := "") (Or.inl (own_w101 hw)) Via.refl F_b1_count own_d9_16 rfl fun T8 w9 => ?_
 refine own_iloadN (pc' := 20) w9 own_d9_19 rfl rfl ?_
 refine own_iadd (pc' := 21) w9 own_d9_20 (z := eI) (by rw [hNL]; exact hcE) rfl ?_
 refine own_callV (pc' := 24) w9 (own_w103 hw) (own_decl (own_w104 hw) (own_w107 hw)) (fun s' hZ' => notFace_of_selects (args := #[]) (mvT hZ' (own_w106 hw))) (own_w106 hw) (own_w104 hw) (own_w73 hw) (own_w107 hw) (by decide) E_b1 (own_ct_ensC l Z a0 hw EL hE n0 [] h0 (own_old w9) b1 eI d kd M vd E_b1 F_b1_value F_b1_coder A_d (hle)) all0 (argsL := [(.int eI)]) (rest := []) rfl rfl own_pd7 rfl own_d9_21 rfl (by decide) (W := 0) rfl (by decide) (by decide) (by decide) fun T10 h12 v13 ms14 w11 q15 => ?_
 obtain ⟨rfl, rfl, rfl⟩ := q15
 show own_Go Z EL n0 p e below s _ _ _ (T10.setTop (mkF m 24 _ []))
 refine own_aloadN (pc' := 25) w11 own_d9_24 rfl rfl rfl ?_
 refine own_aloadN (pc' := 26) w11 own_d9_25 rfl rfl rfl ?_
 refine own_getF (pc' := 29) w11 (host := "") (Or.inl (own_w101 hw)) Via.refl F_b1_count own_d9_26 rfl fun T16 w17 => ?_
 refine own_aloadN (pc' := 30) w17 own_d9_29 rfl rfl rfl ?_
 refine own_callV (pc' := 33) w17 (own_w108 hw) (own_decl (own_w109 hw) (own_w112 hw)) (fun s' hZ' => notFace_of_selects (args := #[]) (mvT hZ' (own_w111 hw))) (own_w111 hw) (own_w109 hw) (own_w73 hw) (own_w112 hw) (by decide) E_b1 (own_ct_putS l Z a0 hw EL hE n0 [] h0 (own_old w17) b1 dp a1 d kd M vd t kb N vs dn n z5 E_b1 F_b1_value F_b1_coder A_d E_a1 F_a1_coder F_a1_value A_t S_COMPACT_STRINGS (P5) hne hna hbd1 (Pu)) (allS (P := fun x => x ∈ _) (by simp) all0) (argsL := [(.int dp), (.ref a1)]) (rest := []) rfl rfl own_pd8 rfl own_d9_30 rfl (by decide) (W := 0) rfl (by decide) (by decide) (by decide) fun T18 h20 v21 ms22 w19 q23 => ?_
 obtain ⟨K24, rfl, rfl, nw_A_d⟩ := q23
 replace E_b1 := E_b1.keep K24
 replace F_b1_value := F_b1_value.keep K24 (ninS (Ne.symm hbd1) nin0)
 replace F_b1_coder := F_b1_coder.keep K24 (ninS (Ne.symm hbd1) nin0)
 replace F_b1_count := F_b1_count.keep K24 (ninS (Ne.symm hbd1) nin0)
 replace E_a1 := E_a1.keep K24
 replace F_a1_coder := F_a1_coder.keep K24 (ninS hna nin0)
 replace F_a1_value := F_a1_value.keep K24 (ninS hna nin0)
 replace A_t := A_t.keep K24 (ninS hne nin0)
 replace K := K.trans K24 (allS (P := fun x => x ∈ ([b1, d] : List Addr) ∨ h0.size ≤ x) (Or.inl (by simp)) all0)
 have A_d := nw_A_d; clear nw_A_d
 show own_Go Z EL n0 p e below s _ _ _ (T18.setTop (mkF m 33 _ []))
 refine own_aloadN (pc' := 34) w19 own_d9_33 rfl rfl rfl ?_
 refine own_dup (pc' := 35) w19 own_d9_34 rfl rfl ?_
 refine own_getF (pc' := 38) w19 (host := "") (Or.inl (own_w101 hw)) Via.refl F_b1_count own_d9_35 rfl fun T25 w26 => ?_
 refine own_iloadN (pc' := 39) w26 own_d9_38 rfl rfl ?_
 refine own_iadd (pc' := 40) w26 own_d9_39 (z := eI) (by rw [hNL]; exact hcE) rfl ?_
 refine own_putF (pc' := 43) w26 (host := "") (Or.inl (own_w101 hw)) Via.refl (by simp) F_b1_count E_b1 (Or.inl (own_w102 hw)) (own_w64 hw) (ty := .int) (by decide) rfl rfl own_d9_40 rfl fun T27 h29 w28 W30 => ?_
 replace F_b1_count := F_b1_count.same W30
 replace E_b1 := E_b1.wr W30
 replace F_b1_value := F_b1_value.other W30 (Or.inr (slot_ne (Or.inl (own_w78 hw)) (Or.inl (own_w102 hw)) (by decide) (t := (.array .byte)) (t' := .int) (by decide) (by decide)))
 replace F_b1_coder := F_b1_coder.other W30 (Or.inr (slot_ne (Or.inl (own_w80 hw)) (Or.inl (own_w102 hw)) (by decide) (t := .byte) (t' := .int) (by decide) (by decide)))
 replace E_a1 := E_a1.wr W30
 replace F_a1_coder := F_a1_coder.other W30 (Or.inl hba)
 replace F_a1_value := F_a1_value.other W30 (Or.inl hba)
 replace A_t := A_t.other W30 hbt
 replace A_d := A_d.other W30 hbd1
 replace K := K.wr W30 (Or.inl (by simp))
 refine own_aloadN (pc' := 44) w28 own_d9_43 rfl rfl rfl ?_
 exact own_retV w28 (t := (.object "java/lang/AbstractStringBuilder")) rfl (own_narR rfl rfl) (Or.inr (Or.inr (Or.inr (Or.inr ⟨rfl, rfl, rfl⟩)))) own_d9_44 (by decide) (by decide) (ms' := []) all0 ⟨K, rfl, rfl, E_b1, F_b1_value, F_b1_coder, F_b1_count, A_d⟩
theorem own_d10_0 : decode jdk_67_method_7_code 0 = .ok (.aload_n 0, 1) := by decide +kernel
theorem own_d10_1 : decode jdk_67_method_7_code 1 = .ok (.aload_n 1, 1) := by decide +kernel
theorem own_d10_2 : decode jdk_67_method_7_code 2 = .ok (.invokespecial 29, 3) := by decide +kernel
theorem own_w90 {Z : State} {a0 : Array Value} (hw : ∀ d ∈ tables_1, d.before a0 Z = true) : ((Jvm.Cond.code ({ cls := "java/lang/AbstractStringBuilder", name := "append", desc := "(Ljava/lang/String;)Ljava/lang/AbstractStringBuilder;" } : Jvm.MethodName) jdk_68_method_22_code (3 : Nat) (Option.some (Jvm.ClassFile.FieldType.object "java/lang/AbstractStringBuilder"))) : Jvm.Cond).before a0 Z = true := hw _ (List.mem_of_getElem? (i := 90) rfl)
theorem own_pd9 : parseMethodDescriptor "(Ljava/lang/String;)Ljava/lang/AbstractStringBuilder;" = some ⟨[(.object "java/lang/String")], some (.object "java/lang/AbstractStringBuilder")⟩ := by decide +kernel
theorem own_w87 {Z : State} {a0 : Array Value} (hw : ∀ d ∈ tables_1, d.before a0 Z = true) : ((Jvm.Cond.instanceMethod ({ cls := "java/lang/AbstractStringBuilder", name := "append", desc := "(Ljava/lang/String;)Ljava/lang/AbstractStringBuilder;" } : Jvm.MethodName)) : Jvm.Cond).before a0 Z = true := hw _ (List.mem_of_getElem? (i := 87) rfl)
theorem own_w86 {Z : State} {a0 : Array Value} (hw : ∀ d ∈ tables_1, d.before a0 Z = true) : ((Jvm.Cond.methodLink "java/lang/StringBuilder" (29 : Nat) ({ cls := "java/lang/AbstractStringBuilder", name := "append", desc := "(Ljava/lang/String;)Ljava/lang/AbstractStringBuilder;" } : Jvm.MethodName)) : Jvm.Cond).before a0 Z = true := hw _ (List.mem_of_getElem? (i := 86) rfl)
theorem own_w88 {Z : State} {a0 : Array Value} (hw : ∀ d ∈ tables_1, d.before a0 Z = true) : ((Jvm.Cond.superclass "java/lang/StringBuilder" "java/lang/AbstractStringBuilder") : Jvm.Cond).before a0 Z = true := hw _ (List.mem_of_getElem? (i := 88) rfl)
theorem own_d10_5 : decode jdk_67_method_7_code 5 = .ok (.pop, 1) := by decide +kernel
theorem own_d10_6 : decode jdk_67_method_7_code 6 = .ok (.aload_n 0, 1) := by decide +kernel
theorem own_d10_7 : decode jdk_67_method_7_code 7 = .ok (.areturn, 1) := by decide +kernel
theorem own_ef_appS (m : MethodId) (b1 : Addr) (a1 : Addr) : entryFrame m #[(.ref b1), (.ref a1)] 2 = mkF m 0 #[.val (.ref b1), .val (.ref a1)] [] := by first | (simp [entryFrame, mkF, argsToLocals, Value.category]; done) | rfl
theorem own_pf10 : plainFor (⟨"java/lang/StringBuilder", "append", "(Ljava/lang/String;)Ljava/lang/StringBuilder;"⟩ : MethodName) = true := by first | exact plainFor_of_name (by first | (simp [plainName, overriddenIn]; done) | decide +kernel) | decide +kernel
def own_Q_appS (Z : State) (h0 : Heap) (b1 : Addr) (a1 : Addr) (d : Addr) (kd : ClassId) (M : Int32) (vd : List Value) (t : Addr) (kb : ClassId) (N : Int32) (vs : List Value) (cs : List Int32) (dp : Int32) (eI : Int32) (dn : Nat) (n : Nat) (z5 : Int32) (v : Option Value) (h : Heap) (ms : List Addr) : Prop := (Keep h0 h [b1, d]) ∧ (ms = []) ∧ (v = some (.ref b1)) ∧ (Exa Z h b1 "java/lang/StringBuilder") ∧ (Fld Z h b1 "java/lang/AbstractStringBuilder" "value" "[B" (.ref d)) ∧ (Fld Z h b1 "java/lang/AbstractStringBuilder" "coder" "B" (.int 0)) ∧ (Fld Z h b1 "java/lang/AbstractStringBuilder" "count" "I" (.int eI)) ∧ (Arv Z h d kd .byte M (own_put vd dn vs) (.int 0))
set_option maxRecDepth 65536 in
set_option maxHeartbeats 40000000 in
theorem own_ct_appS (l : Launch) (Z : State) (a0 : Array Value) (hw : ∀ d ∈ tables_1, d.before a0 Z = true) (EL : List (String × Nat)) (hE : EW Z a0 EL) (n0 : Nat) (ws : List Jvm.Cond) (h0 : Heap) (O : Old Z n0 h0) (b1 : Addr) (a1 : Addr) (d : Addr) (kd : ClassId) (M : Int32) (vd : List Value) (t : Addr) (kb : ClassId) (N : Int32) (vs : List Value) (cs : List Int32) (dp : Int32) (eI : Int32) (dn : Nat) (n : Nat) (z5 : Int32) (E_b1 : Exa Z h0 b1 "java/lang/StringBuilder") (F_b1_value : Fld Z h0 b1 "java/lang/AbstractStringBuilder" "value" "[B" (.ref d)) (F_b1_coder : Fld Z h0 b1 "java/lang/AbstractStringBuilder" "coder" "B" (.int 0)) (F_b1_count : Fld Z h0 b1 "java/lang/AbstractStringBuilder" "count" "I" (.int dp)) (A_d : Arv Z h0 d kd .byte M vd (.int 0)) (E_a1 : Exa Z h0 a1 "java/lang/String") (F_a1_coder : Fld Z h0 a1 "java/lang/String" "coder" "B" (.int 0)) (F_a1_value : Fld Z h0 a1 "java/lang/String" "value" "[B" (.ref t)) (A_t : Arv Z h0 t kb .byte N vs (.int 0)) (hcd : StrChars.Road.CodA cs 0 N vs) (hbd : ∀ c ∈ cs, ¬ c < 0 ∧ ¬ (65535 : Int32) < c) (l2 : cs.length ≤ 4000) (S_COMPACT_STRINGS : Sta Z Z.heap "java/lang/String" "COMPACT_STRINGS" "Z" (.int z5)) (P5 : ¬ z5 = 0) (hne : t ≠ d) (hna : a1 ≠ d) (hbt : t ≠ b1) (hba : a1 ≠ b1) (hbd1 : d ≠ b1) (hNL : Int32.ofNat cs.length = N) (hcE : dp + N = eI) (hle : ¬ 0 < (eI - M)) (Pu : own_Pu dp N M dn n vd vs) :
    own_Ct l Z EL n0 (⟨"java/lang/StringBuilder", "append", "(Ljava/lang/String;)Ljava/lang/StringBuilder;"⟩ : MethodName) jdk_67_method_7_code 2 (some (.object "java/lang/StringBuilder")) ws ({ frames := 4, cells := 0, slots := 0, locals := 61 } : Room) #[(.ref b1), (.ref a1)] h0 [b1, d] (own_Q_appS Z h0 b1 a1 d kd M vd t kb N vs cs dp eI dn n z5) := by
 refine own_enter (a0 := a0) own_pf10 hE O fun p e s m below meth c T0 w0 => ?_
 rw [own_ef_appS m b1 a1]
 have K : Keep h0 h0 [b1, d] := Keep.refl _ _
 refine own_aloadN (pc' := 1) w0 own_d10_0 rfl rfl rfl ?_
 refine own_aloadN (pc' := 2) w0 own_d10_1 rfl rfl rfl ?_
 refine own_callU (pc' := 5) w0 (by decide) (own_w86 hw) (own_w87 hw) (own_same1 (own_w87 hw) (own_w106 hw) rfl (by decide)) (own_w88 hw) (Ins.self E_b1) (own_w73 hw) (own_w90 hw) (by decide) (own_ct_appA l Z a0 hw EL hE n0 [] h0 (own_old w0) b1 a1 d kd M vd t kb N vs cs dp eI dn n z5 E_b1 F_b1_value F_b1_coder F_b1_count A_d E_a1 F_a1_coder F_a1_value A_t (hcd) (hbd) (l2) S_COMPACT_STRINGS (P5) hne hna hbt hba hbd1 (hNL) (hcE) (hle) (Pu)) (allS (P := fun x => x ∈ _) (by simp) (allS (P := fun x => x ∈ _) (by simp) all0)) (argsL := [(.ref a1)]) (rest := []) rfl rfl own_pd9 rfl own_d10_2 rfl (by decide) (W := 0) rfl (by decide) (by decide) (by decide) fun T1 h3 v4 ms5 w2 q6 => ?_
 obtain ⟨K7, rfl, rfl, nw_E_b1, nw_F_b1_value, nw_F_b1_coder, nw_F_b1_count, nw_A_d⟩ := q6
 replace E_a1 := E_a1.keep K7
 replace F_a1_coder := F_a1_coder.keep K7 (ninS hba (ninS hna nin0))
 replace F_a1_value := F_a1_value.keep K7 (ninS hba (ninS hna nin0))
 replace A_t := A_t.keep K7 (ninS hbt (ninS hne nin0))
 replace K := K.trans K7 (allS (P := fun x => x ∈ ([b1, d] : List Addr) ∨ h0.size ≤ x) (Or.inl (by simp)) (allS (P := fun x => x ∈ ([b1, d] : List Addr) ∨ h0.size ≤ x) (Or.inl (by simp)) all0))
 have E_b1 := nw_E_b1; clear nw_E_b1
 have F_b1_value := nw_F_b1_value; clear nw_F_b1_value
 have F_b1_coder := nw_F_b1_coder; clear nw_F_b1_coder
 have F_b1_count := nw_F_b1_count; clear nw_F_b1_count
 have A_d := nw_A_d; clear nw_A_d
 show own_Go Z EL n0 p e below s _ _ _ (T1.setTop (mkF m 5 _ [(.ref b1)]))
 refine own_pop (pc' := 6) w2 own_d10_5 rfl rfl ?_
 refine own_aloadN (pc' := 7) w2 own_d10_6 rfl rfl rfl ?_
 exact own_retV w2 (t := (.object "java/lang/StringBuilder")) rfl (own_narR rfl rfl) (Or.inr (Or.inr (Or.inr (Or.inr ⟨rfl, rfl, rfl⟩)))) own_d10_7 (by decide) (by decide) (ms' := []) all0 ⟨K, rfl, rfl, E_b1, F_b1_value, F_b1_coder, F_b1_count, A_d⟩
theorem own_d11_0 : decode jdk_68_method_2_code 0 = .ok (.aload_n 0, 1) := by decide +kernel
theorem own_d11_1 : decode jdk_68_method_2_code 1 = .ok (.invokespecial 3, 3) := by decide +kernel
theorem own_w75 {Z : State} {a0 : Array Value} (hw : ∀ d ∈ tables_1, d.before a0 Z = true) : ((Jvm.Cond.methodLink "java/lang/AbstractStringBuilder" (3 : Nat) ({ cls := "java/lang/Object", name := "<init>", desc := "()V" } : Jvm.MethodName)) : Jvm.Cond).before a0 Z = true := hw _ (List.mem_of_getElem? (i := 75) rfl)
theorem own_w19 {Z : State} {a0 : Array Value} (hw : ∀ d ∈ tables_1, d.before a0 Z = true) : ((Jvm.Cond.instanceMethod ({ cls := "java/lang/Object", name := "<init>", desc := "()V" } : Jvm.MethodName)) : Jvm.Cond).before a0 Z = true := hw _ (List.mem_of_getElem? (i := 19) rfl)
theorem own_w20 {Z : State} {a0 : Array Value} (hw : ∀ d ∈ tables_1, d.before a0 Z = true) : ((Jvm.Cond.code ({ cls := "java/lang/Object", name := "<init>", desc := "()V" } : Jvm.MethodName) object_method_1_code (1 : Nat) (Option.none : Option Jvm.ClassFile.FieldType)) : Jvm.Cond).before a0 Z = true := hw _ (List.mem_of_getElem? (i := 20) rfl)
theorem own_d11_4 : decode jdk_68_method_2_code 4 = .ok (.getstatic 18, 3) := by decide +kernel
theorem own_d11_7 : decode jdk_68_method_2_code 7 = .ok (.ifCond .eq 18, 3) := by decide +kernel
theorem own_d11_10 : decode jdk_68_method_2_code 10 = .ok (.aload_n 0, 1) := by decide +kernel
theorem own_d11_11 : decode jdk_68_method_2_code 11 = .ok (.iload_n 1, 1) := by decide +kernel
theorem own_d11_12 : decode jdk_68_method_2_code 12 = .ok (.newarray .byte, 2) := by decide +kernel
theorem own_d11_14 : decode jdk_68_method_2_code 14 = .ok (.putfield 15, 3) := by decide +kernel
theorem own_d11_17 : decode jdk_68_method_2_code 17 = .ok (.aload_n 0, 1) := by decide +kernel
theorem own_d11_18 : decode jdk_68_method_2_code 18 = .ok (.iconst 0, 1) := by decide +kernel
theorem own_d11_19 : decode jdk_68_method_2_code 19 = .ok (.putfield 22, 3) := by decide +kernel
theorem own_d11_22 : decode jdk_68_method_2_code 22 = .ok (.goto 16, 3) := by decide +kernel
theorem own_d11_38 : decode jdk_68_method_2_code 38 = .ok (.return_, 1) := by decide +kernel
theorem own_ef_abI (m : MethodId) (b1 : Addr) : entryFrame m #[(.ref b1), (.int (16 : Int32))] 2 = mkF m 0 #[.val (.ref b1), .val (.int (16 : Int32))] [] := by first | (simp [entryFrame, mkF, argsToLocals, Value.category]; done) | rfl
theorem own_pf11 : plainFor (⟨"java/lang/AbstractStringBuilder", "<init>", "(I)V"⟩ : MethodName) = true := by first | exact plainFor_of_name (by first | (simp [plainName, overriddenIn]; done) | decide +kernel) | decide +kernel
def own_Q_abI (Z : State) (h0 : Heap) (b1 : Addr) (u1 : Value) (u2 : Value) (z5 : Int32) (v : Option Value) (h : Heap) (ms : List Addr) : Prop := (Keep h0 h [b1]) ∧ (∃ (d : Addr) (kd : ClassId), (ms = [d]) ∧ (v = none) ∧ (Exa Z h b1 "java/lang/StringBuilder") ∧ (Fld Z h b1 "java/lang/AbstractStringBuilder" "value" "[B" (.ref d)) ∧ (Fld Z h b1 "java/lang/AbstractStringBuilder" "coder" "B" (.int 0)) ∧ (Fld Z h b1 "java/lang/AbstractStringBuilder" "count" "I" (.int 0)) ∧ (Arv Z h d kd .byte (16 : Int32) (List.replicate 16 (.int 0)) (.int 0)) ∧ (h0.size ≤ d))
set_option maxRecDepth 65536 in
set_option maxHeartbeats 40000000 in
theorem own_ct_abI (l : Launch) (Z : State) (a0 : Array Value) (hw : ∀ d ∈ tables_1, d.before a0 Z = true) (EL : List (String × Nat)) (hE : EW Z a0 EL) (n0 : Nat) (ws : List Jvm.Cond) (h0 : Heap) (O : Old Z n0 h0) (b1 : Addr) (u1 : Value) (u2 : Value) (z5 : Int32) (E_b1 : Exa Z h0 b1 "java/lang/StringBuilder") (F_b1_value : Fld Z h0 b1 "java/lang/AbstractStringBuilder" "value" "[B" u1) (F_b1_coder : Fld Z h0 b1 "java/lang/AbstractStringBuilder" "coder" "B" u2) (F_b1_count : Fld Z h0 b1 "java/lang/AbstractStringBuilder" "count" "I" (.int 0)) (S_COMPACT_STRINGS : Sta Z Z.heap "java/lang/String" "COMPACT_STRINGS" "Z" (.int z5)) (P5 : ¬ z5 = 0) :
    own_Ct l Z EL n0 (⟨"java/lang/AbstractStringBuilder", "<init>", "(I)V"⟩ : MethodName) jdk_68_method_2_code 2 none ws ({ frames := 1, cells := 1, slots := 16, locals := 12 } : Room) #[(.ref b1), (.int (16 : Int32))] h0 [b1] (own_Q_abI Z h0 b1 u1 u2 z5) := by
 refine own_enter (a0 := a0) own_pf11 hE O fun p e s m below meth c T0 w0 => ?_
 rw [own_ef_abI m b1]
 have K : Keep h0 h0 [b1] := Keep.refl _ _
 refine own_aloadN (pc' := 1) w0 own_d11_0 rfl rfl rfl ?_
 refine own_initO (pc' := 4) w0 (own_w75 hw) (own_w19 hw) (own_w20 hw) rfl own_d11_1 rfl (by decide) (W := 0) (Nat.le_of_eq rfl) (by decide) fun T1 w2 => ?_
 refine own_getS (pc' := 7) w2 (host := "") (Or.inl (own_w76 hw)) Via.refl (S_COMPACT_STRINGS.ext (own_old w2).2) own_d11_4 rfl fun T3 w4 => ?_
 refine own_if (pc' := 10) w4 own_d11_7 rfl (by decide) (pcY := 25) rfl (fun (hb7 : z5 = (0 : Int32)) => absurd hb7 P5) (fun (hb7 : ¬ z5 = (0 : Int32)) => ?_)
 refine own_aloadN (pc' := 11) w4 own_d11_10 rfl rfl rfl ?_
 refine own_iloadN (pc' := 12) w4 own_d11_11 rfl rfl ?_
 refine own_newP (pc' := 14) w4 (aty := .byte) (z := (16 : Int32)) (vs := (List.replicate 16 (.int 0))) (dv := (.int 0)) (cap := 16) (own_w3 hw) own_d11_12 rfl (by decide) (by decide) (by decide) rfl (own_rep 16 (.int 0)) (by decide) (by decide) fun T5 h7 a9 g_a9 w6 E8 ⟨k_a9, A_a9⟩ => ?_
 have ne_b1_a9 : b1 ≠ a9 := Nat.ne_of_lt (Nat.lt_of_lt_of_le E_b1.lt (Nat.le_of_eq g_a9))
 have nw_a9 : h0.size ≤ a9 := Nat.le_trans K.1 (Nat.le_of_eq g_a9)
 replace E_b1 := E_b1.ext E8
 replace F_b1_value := F_b1_value.ext E8
 replace F_b1_coder := F_b1_coder.ext E8
 replace F_b1_count := F_b1_count.ext E8
 replace K := K.ext E8
 refine own_putF (pc' := 17) w6 (host := "") (Or.inl (own_w77 hw)) Via.refl (by simp) F_b1_value E_b1 (Or.inl (own_w78 hw)) (own_w64 hw) (ty := (.array .byte)) (by decide) rfl rfl own_d11_14 rfl fun T10 h12 w11 W13 => ?_
 replace F_b1_value := F_b1_value.same W13
 replace E_b1 := E_b1.wr W13
 replace F_b1_coder := F_b1_coder.other W13 (Or.inr (slot_ne (Or.inl (own_w80 hw)) (Or.inl (own_w78 hw)) (by decide) (t := .byte) (t' := (.array .byte)) (by decide) (by decide)))
 replace F_b1_count := F_b1_count.other W13 (Or.inr (slot_ne (Or.inl (own_w102 hw)) (Or.inl (own_w78 hw)) (by decide) (t := .int) (t' := (.array .byte)) (by decide) (by decide)))
 replace A_a9 := A_a9.other W13 (Ne.symm ne_b1_a9)
 replace K := K.wr W13 (Or.inl (by simp))
 refine own_aloadN (pc' := 18) w11 own_d11_17 rfl rfl rfl ?_
 refine own_iconst (pc' := 19) w11 own_d11_18 (x := (0 : Int32)) rfl rfl ?_
 refine own_putF (pc' := 22) w11 (host := "") (Or.inl (own_w79 hw)) Via.refl (by simp) F_b1_coder E_b1 (Or.inl (own_w80 hw)) (own_w64 hw) (ty := .byte) (by decide) rfl rfl own_d11_19 rfl fun T14 h16 w15 W17 => ?_
 replace F_b1_coder := F_b1_coder.same W17
 replace E_b1 := E_b1.wr W17
 replace F_b1_value := F_b1_value.other W17 (Or.inr (slot_ne (Or.inl (own_w78 hw)) (Or.inl (own_w80 hw)) (by decide) (t := (.array .byte)) (t' := .byte) (by decide) (by decide)))
 replace F_b1_count := F_b1_count.other W17 (Or.inr (slot_ne (Or.inl (own_w102 hw)) (Or.inl (own_w80 hw)) (by decide) (t := .int) (t' := .byte) (by decide) (by decide)))
 replace A_a9 := A_a9.other W17 (Ne.symm ne_b1_a9)
 replace K := K.wr W17 (Or.inl (by simp))
 refine own_goto w15 own_d11_22 (by decide) (pc' := 38) rfl ?_
 exact own_ret0 w15 rfl own_d11_38 (by decide) (by decide) (ms' := [a9]) (allS (P := fun x => x ∈ _) (by simp) all0) ⟨K, a9, k_a9, rfl, rfl, E_b1, F_b1_value, F_b1_coder, F_b1_count, A_a9, nw_a9⟩
theorem own_d12_0 : decode jdk_67_method_1_code 0 = .ok (.aload_n 0, 1) := by decide +kernel
theorem own_d12_1 : decode jdk_67_method_1_code 1 = .ok (.bipush 16, 2) := by decide +kernel
theorem own_d12_3 : decode jdk_67_method_1_code 3 = .ok (.invokespecial 1, 3) := by decide +kernel
theorem own_w74 {Z : State} {a0 : Array Value} (hw : ∀ d ∈ tables_1, d.before a0 Z = true) : ((Jvm.Cond.code ({ cls := "java/lang/AbstractStringBuilder", name := "<init>", desc := "(I)V" } : Jvm.MethodName) jdk_68_method_2_code (2 : Nat) (Option.none : Option Jvm.ClassFile.FieldType)) : Jvm.Cond).before a0 Z = true := hw _ (List.mem_of_getElem? (i := 74) rfl)
theorem own_w69 {Z : State} {a0 : Array Value} (hw : ∀ d ∈ tables_1, d.before a0 Z = true) : ((Jvm.Cond.methodLink "java/lang/StringBuilder" (1 : Nat) ({ cls := "java/lang/AbstractStringBuilder", name := "<init>", desc := "(I)V" } : Jvm.MethodName)) : Jvm.Cond).before a0 Z = true := hw _ (List.mem_of_getElem? (i := 69) rfl)
theorem own_w70 {Z : State} {a0 : Array Value} (hw : ∀ d ∈ tables_1, d.before a0 Z = true) : ((Jvm.Cond.instanceMethod ({ cls := "java/lang/AbstractStringBuilder", name := "<init>", desc := "(I)V" } : Jvm.MethodName)) : Jvm.Cond).before a0 Z = true := hw _ (List.mem_of_getElem? (i := 70) rfl)
theorem own_d12_6 : decode jdk_67_method_1_code 6 = .ok (.return_, 1) := by decide +kernel
theorem own_ef_sbI (m : MethodId) (b1 : Addr) : entryFrame m #[(.ref b1)] 1 = mkF m 0 #[.val (.ref b1)] [] := by first | (simp [entryFrame, mkF, argsToLocals, Value.category]; done) | rfl
theorem own_pf12 : plainFor (⟨"java/lang/StringBuilder", "<init>", "()V"⟩ : MethodName) = true := by first | exact plainFor_of_name (by first | (simp [plainName, overriddenIn]; done) | decide +kernel) | decide +kernel
def own_Q_sbI (Z : State) (h0 : Heap) (b1 : Addr) (u1 : Value) (u2 : Value) (z5 : Int32) (v : Option Value) (h : Heap) (ms : List Addr) : Prop := (Keep h0 h [b1]) ∧ (∃ (d : Addr) (kd : ClassId), (ms = [d]) ∧ (v = none) ∧ (Exa Z h b1 "java/lang/StringBuilder") ∧ (Fld Z h b1 "java/lang/AbstractStringBuilder" "value" "[B" (.ref d)) ∧ (Fld Z h b1 "java/lang/AbstractStringBuilder" "coder" "B" (.int 0)) ∧ (Fld Z h b1 "java/lang/AbstractStringBuilder" "count" "I" (.int 0)) ∧ (Arv Z h d kd .byte (16 : Int32) (List.replicate 16 (.int 0)) (.int 0)) ∧ (h0.size ≤ d))
set_option maxRecDepth 65536 in
set_option maxHeartbeats 40000000 in
theorem own_ct_sbI (l : Launch) (Z : State) (a0 : Array Value) (hw : ∀ d ∈ tables_1, d.before a0 Z = true) (EL : List (String × Nat)) (hE : EW Z a0 EL) (n0 : Nat) (ws : List Jvm.Cond) (h0 : Heap) (O : Old Z n0 h0) (b1 : Addr) (u1 : Value) (u2 : Value) (z5 : Int32) (E_b1 : Exa Z h0 b1 "java/lang/StringBuilder") (F_b1_value : Fld Z h0 b1 "java/lang/AbstractStringBuilder" "value" "[B" u1) (F_b1_coder : Fld Z h0 b1 "java/lang/AbstractStringBuilder" "coder" "B" u2) (F_b1_count : Fld Z h0 b1 "java/lang/AbstractStringBuilder" "count" "I" (.int 0)) (S_COMPACT_STRINGS : Sta Z Z.heap "java/lang/String" "COMPACT_STRINGS" "Z" (.int z5)) (P5 : ¬ z5 = 0) :
    own_Ct l Z EL n0 (⟨"java/lang/StringBuilder", "<init>", "()V"⟩ : MethodName) jdk_67_method_1_code 1 none ws ({ frames := 2, cells := 1, slots := 16, locals := 25 } : Room) #[(.ref b1)] h0 [b1] (own_Q_sbI Z h0 b1 u1 u2 z5) := by
 refine own_enter (a0 := a0) own_pf12 hE O fun p e s m below meth c T0 w0 => ?_
 rw [own_ef_sbI m b1]
 have K : Keep h0 h0 [b1] := Keep.refl _ _
 refine own_aloadN (pc' := 1) w0 own_d12_0 rfl rfl rfl ?_
 refine own_bipush (pc' := 3) w0 own_d12_1 (x := (16 : Int32)) rfl rfl ?_
 refine own_callI (pc' := 6) w0 rfl (own_w69 hw) (own_w70 hw) (own_w73 hw) (own_w74 hw) (by decide) (own_ct_abI l Z a0 hw EL hE n0 [] h0 (own_old w0) b1 u1 u2 z5 E_b1 F_b1_value F_b1_coder F_b1_count S_COMPACT_STRINGS (P5)) (allS (P := fun x => x ∈ _) (by simp) all0) (argsL := [(.int (16 : Int32))]) (rest := []) rfl rfl own_pd7 rfl own_d12_3 rfl (by decide) (W := 0) rfl (by decide) (by decide) (by decide) fun T1 h3 v4 ms5 w2 q6 => ?_
 obtain ⟨K9, d_7, kd_8, rfl, rfl, nw_E_b1, nw_F_b1_value, nw_F_b1_coder, nw_F_b1_count, nw_A_d_7, p3_abI_0⟩ := q6
 have ne_b1_d_7 : b1 ≠ d_7 := Nat.ne_of_lt (Nat.lt_of_lt_of_le E_b1.lt p3_abI_0)
 have nw_d_7 : h0.size ≤ d_7 := Nat.le_trans K.1 p3_abI_0
 replace K := K.trans K9 (allS (P := fun x => x ∈ ([b1] : List Addr) ∨ h0.size ≤ x) (Or.inl (by simp)) all0)
 have E_b1 := nw_E_b1; clear nw_E_b1
 have F_b1_value := nw_F_b1_value; clear nw_F_b1_value
 have F_b1_coder := nw_F_b1_coder; clear nw_F_b1_coder
 have F_b1_count := nw_F_b1_count; clear nw_F_b1_count
 have A_d_7 := nw_A_d_7; clear nw_A_d_7
 show own_Go Z EL n0 p e below s _ _ _ (T1.setTop (mkF m 6 _ []))
 exact own_ret0 w2 rfl own_d12_6 (by decide) (by decide) (ms' := [d_7]) (allS (P := fun x => x ∈ _) (by simp) all0) ⟨K, d_7, kd_8, rfl, rfl, E_b1, F_b1_value, F_b1_coder, F_b1_count, A_d_7, nw_d_7⟩
theorem own_d13_0 : decode jdk_68_method_64_code 0 = .ok (.aload_n 0, 1) := by decide +kernel
theorem own_d13_1 : decode jdk_68_method_64_code 1 = .ok (.getfield 15, 3) := by decide +kernel
theorem own_d13_4 : decode jdk_68_method_64_code 4 = .ok (.areturn, 1) := by decide +kernel
theorem own_ef_getV (m : MethodId) (b1 : Addr) : entryFrame m #[(.ref b1)] 1 = mkF m 0 #[.val (.ref b1)] [] := by first | (simp [entryFrame, mkF, argsToLocals, Value.category]; done) | rfl
theorem own_pf13 : plainFor (⟨"java/lang/AbstractStringBuilder", "getValue", "()[B"⟩ : MethodName) = true := by first | exact plainFor_of_name (by first | (simp [plainName, overriddenIn]; done) | decide +kernel) | decide +kernel
def own_Q_getV (Z : State) (h0 : Heap) (b1 : Addr) (d : Addr) (v : Option Value) (h : Heap) (ms : List Addr) : Prop := (h0 = h) ∧ (ms = []) ∧ (v = some (.ref d))
set_option maxRecDepth 65536 in
set_option maxHeartbeats 40000000 in
theorem own_ct_getV (l : Launch) (Z : State) (a0 : Array Value) (hw : ∀ d ∈ tables_1, d.before a0 Z = true) (EL : List (String × Nat)) (hE : EW Z a0 EL) (n0 : Nat) (ws : List Jvm.Cond) (h0 : Heap) (O : Old Z n0 h0) (b1 : Addr) (d : Addr) (F_b1_value : Fld Z h0 b1 "java/lang/AbstractStringBuilder" "value" "[B" (.ref d)) :
    own_Ct l Z EL n0 (⟨"java/lang/AbstractStringBuilder", "getValue", "()[B"⟩ : MethodName) jdk_68_method_64_code 1 (some (.array .byte)) ws ({ frames := 0, cells := 0, slots := 0, locals := 0 } : Room) #[(.ref b1)] h0 [] (own_Q_getV Z h0 b1 d) := by
 refine own_enter (a0 := a0) own_pf13 hE O fun p e s m below meth c T0 w0 => ?_
 rw [own_ef_getV m b1]
 refine own_aloadN (pc' := 1) w0 own_d13_0 rfl rfl rfl ?_
 refine own_getF (pc' := 4) w0 (host := "") (Or.inl (own_w77 hw)) Via.refl F_b1_value own_d13_1 rfl fun T1 w2 => ?_
 exact own_retV w2 (t := (.array .byte)) rfl (own_narR rfl rfl) (Or.inr (Or.inr (Or.inr (Or.inr ⟨rfl, rfl, rfl⟩)))) own_d13_4 (by decide) (by decide) (ms' := []) all0 ⟨rfl, rfl, rfl⟩
theorem own_d14_0 : decode jdk_68_method_6_code 0 = .ok (.aload_n 0, 1) := by decide +kernel
theorem own_d14_1 : decode jdk_68_method_6_code 1 = .ok (.getfield 79, 3) := by decide +kernel
theorem own_d14_4 : decode jdk_68_method_6_code 4 = .ok (.ireturn, 1) := by decide +kernel
theorem own_ef_lenA (m : MethodId) (b1 : Addr) : entryFrame m #[(.ref b1)] 1 = mkF m 0 #[.val (.ref b1)] [] := by first | (simp [entryFrame, mkF, argsToLocals, Value.category]; done) | rfl
theorem own_pf14 : plainFor (⟨"java/lang/AbstractStringBuilder", "length", "()I"⟩ : MethodName) = true := by first | exact plainFor_of_name (by first | (simp [plainName, overriddenIn]; done) | decide +kernel) | decide +kernel
def own_Q_lenA (Z : State) (h0 : Heap) (b1 : Addr) (eI : Int32) (v : Option Value) (h : Heap) (ms : List Addr) : Prop := (h0 = h) ∧ (ms = []) ∧ (v = some (.int eI))
set_option maxRecDepth 65536 in
set_option maxHeartbeats 40000000 in
theorem own_ct_lenA (l : Launch) (Z : State) (a0 : Array Value) (hw : ∀ d ∈ tables_1, d.before a0 Z = true) (EL : List (String × Nat)) (hE : EW Z a0 EL) (n0 : Nat) (ws : List Jvm.Cond) (h0 : Heap) (O : Old Z n0 h0) (b1 : Addr) (eI : Int32) (F_b1_count : Fld Z h0 b1 "java/lang/AbstractStringBuilder" "count" "I" (.int eI)) :
    own_Ct l Z EL n0 (⟨"java/lang/AbstractStringBuilder", "length", "()I"⟩ : MethodName) jdk_68_method_6_code 1 (some .int) ws ({ frames := 0, cells := 0, slots := 0, locals := 0 } : Room) #[(.ref b1)] h0 [] (own_Q_lenA Z h0 b1 eI) := by
 refine own_enter (a0 := a0) own_pf14 hE O fun p e s m below meth c T0 w0 => ?_
 rw [own_ef_lenA m b1]
 refine own_aloadN (pc' := 1) w0 own_d14_0 rfl rfl rfl ?_
 refine own_getF (pc' := 4) w0 (host := "") (Or.inl (own_w101 hw)) Via.refl F_b1_count own_d14_1 rfl fun T1 w2 => ?_
 exact own_retV w2 (t := .int) rfl rfl (Or.inl ⟨rfl, by simp, _, rfl⟩) own_d14_4 (by decide) (by decide) (ms' := []) all0 ⟨rfl, rfl, rfl⟩
theorem own_d15_0 : decode jdk_67_method_93_code 0 = .ok (.aload_n 0, 1) := by decide +kernel
theorem own_d15_1 : decode jdk_67_method_93_code 1 = .ok (.invokespecial 343, 3) := by decide +kernel
theorem own_w152 {Z : State} {a0 : Array Value} (hw : ∀ d ∈ tables_1, d.before a0 Z = true) : ((Jvm.Cond.code ({ cls := "java/lang/AbstractStringBuilder", name := "length", desc := "()I" } : Jvm.MethodName) jdk_68_method_6_code (1 : Nat) (Option.some Jvm.ClassFile.FieldType.int)) : Jvm.Cond).before a0 Z = true := hw _ (List.mem_of_getElem? (i := 152) rfl)
theorem own_w147 {Z : State} {a0 : Array Value} (hw : ∀ d ∈ tables_1, d.before a0 Z = true) : ((Jvm.Cond.instanceMethod ({ cls := "java/lang/AbstractStringBuilder", name := "length", desc := "()I" } : Jvm.MethodName)) : Jvm.Cond).before a0 Z = true := hw _ (List.mem_of_getElem? (i := 147) rfl)
theorem own_w151 {Z : State} {a0 : Array Value} (hw : ∀ d ∈ tables_1, d.before a0 Z = true) : ((Jvm.Cond.methodLink "java/lang/StringBuilder" (343 : Nat) ({ cls := "java/lang/AbstractStringBuilder", name := "length", desc := "()I" } : Jvm.MethodName)) : Jvm.Cond).before a0 Z = true := hw _ (List.mem_of_getElem? (i := 151) rfl)
theorem own_d15_4 : decode jdk_67_method_93_code 4 = .ok (.ireturn, 1) := by decide +kernel
theorem own_ef_lenS (m : MethodId) (b1 : Addr) : entryFrame m #[(.ref b1)] 1 = mkF m 0 #[.val (.ref b1)] [] := by first | (simp [entryFrame, mkF, argsToLocals, Value.category]; done) | rfl
theorem own_pf15 : plainFor (⟨"java/lang/StringBuilder", "length", "()I"⟩ : MethodName) = true := by first | exact plainFor_of_name (by first | (simp [plainName, overriddenIn]; done) | decide +kernel) | decide +kernel
def own_Q_lenS (Z : State) (h0 : Heap) (b1 : Addr) (eI : Int32) (v : Option Value) (h : Heap) (ms : List Addr) : Prop := (h0 = h) ∧ (ms = []) ∧ (v = some (.int eI))
set_option maxRecDepth 65536 in
set_option maxHeartbeats 40000000 in
theorem own_ct_lenS (l : Launch) (Z : State) (a0 : Array Value) (hw : ∀ d ∈ tables_1, d.before a0 Z = true) (EL : List (String × Nat)) (hE : EW Z a0 EL) (n0 : Nat) (ws : List Jvm.Cond) (h0 : Heap) (O : Old Z n0 h0) (b1 : Addr) (eI : Int32) (E_b1 : Exa Z h0 b1 "java/lang/StringBuilder") (F_b1_count : Fld Z h0 b1 "java/lang/AbstractStringBuilder" "count" "I" (.int eI)) :
    own_Ct l Z EL n0 (⟨"java/lang/StringBuilder", "length", "()I"⟩ : MethodName) jdk_67_method_93_code 1 (some .int) ws ({ frames := 1, cells := 0, slots := 0, locals := 12 } : Room) #[(.ref b1)] h0 [] (own_Q_lenS Z h0 b1 eI) := by
 refine own_enter (a0 := a0) own_pf15 hE O fun p e s m below meth c T0 w0 => ?_
 rw [own_ef_lenS m b1]
 refine own_aloadN (pc' := 1) w0 own_d15_0 rfl rfl rfl ?_
 refine own_callU (pc' := 4) w0 (by decide) (own_w151 hw) (own_w147 hw) (own_same1 (own_w147 hw) (own_w106 hw) rfl (by decide)) (own_w88 hw) (Ins.self E_b1) (own_w73 hw) (own_w152 hw) (by decide) (own_ct_lenA l Z a0 hw EL hE n0 [] h0 (own_old w0) b1 eI F_b1_count) all0 (argsL := []) (rest := []) rfl rfl own_pd6 rfl own_d15_1 rfl (by decide) (W := 0) rfl (by decide) (by decide) (by decide) fun T1 h3 v4 ms5 w2 q6 => ?_
 obtain ⟨rfl, rfl, rfl⟩ := q6
 show own_Go Z EL n0 p e below s _ _ _ (T1.setTop (mkF m 4 _ [(.int eI)]))
 exact own_retV w2 (t := .int) rfl rfl (Or.inl ⟨rfl, by simp, _, rfl⟩) own_d15_4 (by decide) (by decide) (ms' := []) all0 ⟨rfl, rfl, rfl⟩
theorem own_d16_0 : decode jdk_68_method_68_code 0 = .ok (.getstatic 18, 3) := by decide +kernel
theorem own_d16_3 : decode jdk_68_method_68_code 3 = .ok (.ifCond .eq 14, 3) := by decide +kernel
theorem own_d16_6 : decode jdk_68_method_68_code 6 = .ok (.aload_n 0, 1) := by decide +kernel
theorem own_d16_7 : decode jdk_68_method_68_code 7 = .ok (.getfield 22, 3) := by decide +kernel
theorem own_d16_10 : decode jdk_68_method_68_code 10 = .ok (.ifCond .ne 7, 3) := by decide +kernel
theorem own_d16_13 : decode jdk_68_method_68_code 13 = .ok (.iconst 1, 1) := by decide +kernel
theorem own_d16_14 : decode jdk_68_method_68_code 14 = .ok (.goto 4, 3) := by decide +kernel
theorem own_d16_18 : decode jdk_68_method_68_code 18 = .ok (.ireturn, 1) := by decide +kernel
theorem own_ef_isLB (m : MethodId) (b1 : Addr) : entryFrame m #[(.ref b1)] 1 = mkF m 0 #[.val (.ref b1)] [] := by first | (simp [entryFrame, mkF, argsToLocals, Value.category]; done) | rfl
theorem own_pf16 : plainFor (⟨"java/lang/AbstractStringBuilder", "isLatin1", "()Z"⟩ : MethodName) = true := by first | exact plainFor_of_name (by first | (simp [plainName, overriddenIn]; done) | decide +kernel) | decide +kernel
def own_Q_isLB (Z : State) (h0 : Heap) (b1 : Addr) (z5 : Int32) (v : Option Value) (h : Heap) (ms : List Addr) : Prop := (h0 = h) ∧ (ms = []) ∧ (v = some (.int 1))
set_option maxRecDepth 65536 in
set_option maxHeartbeats 40000000 in
theorem own_ct_isLB (l : Launch) (Z : State) (a0 : Array Value) (hw : ∀ d ∈ tables_1, d.before a0 Z = true) (EL : List (String × Nat)) (hE : EW Z a0 EL) (n0 : Nat) (ws : List Jvm.Cond) (h0 : Heap) (O : Old Z n0 h0) (b1 : Addr) (z5 : Int32) (F_b1_coder : Fld Z h0 b1 "java/lang/AbstractStringBuilder" "coder" "B" (.int 0)) (S_COMPACT_STRINGS : Sta Z Z.heap "java/lang/String" "COMPACT_STRINGS" "Z" (.int z5)) (P5 : ¬ z5 = 0) :
    own_Ct l Z EL n0 (⟨"java/lang/AbstractStringBuilder", "isLatin1", "()Z"⟩ : MethodName) jdk_68_method_68_code 1 (some .boolean) ws ({ frames := 0, cells := 0, slots := 0, locals := 0 } : Room) #[(.ref b1)] h0 [] (own_Q_isLB Z h0 b1 z5) := by
 refine own_enter (a0 := a0) own_pf16 hE O fun p e s m below meth c T0 w0 => ?_
 rw [own_ef_isLB m b1]
 refine own_getS (pc' := 3) w0 (host := "") (Or.inl (own_w76 hw)) Via.refl (S_COMPACT_STRINGS.ext (own_old w0).2) own_d16_0 rfl fun T1 w2 => ?_
 refine own_if (pc' := 6) w2 own_d16_3 rfl (by decide) (pcY := 17) rfl (fun (hb3 : z5 = (0 : Int32)) => absurd hb3 P5) (fun (hb3 : ¬ z5 = (0 : Int32)) => ?_)
 refine own_aloadN (pc' := 7) w2 own_d16_6 rfl rfl rfl ?_
 refine own_getF (pc' := 10) w2 (host := "") (Or.inl (own_w79 hw)) Via.refl F_b1_coder own_d16_7 rfl fun T3 w4 => ?_
 refine own_if (pc' := 13) w4 own_d16_10 rfl (by decide) (pcY := 17) rfl (fun (hb10 : ¬ (0 : Int32) = (0 : Int32)) => absurd hb10 (by decide)) (fun (hb10 : (0 : Int32) = (0 : Int32)) => ?_)
 refine own_iconst (pc' := 14) w4 own_d16_13 (x := (1 : Int32)) rfl rfl ?_
 refine own_goto w4 own_d16_14 (by decide) (pc' := 18) rfl ?_
 exact own_retV w4 (t := .boolean) rfl rfl (Or.inl ⟨rfl, by simp, _, rfl⟩) own_d16_18 (by decide) (by decide) (ms' := []) all0 ⟨rfl, rfl, rfl⟩
theorem own_d17_0 : decode jdk_42_method_150_code 0 = .ok (.aload_n 0, 1) := by decide +kernel
theorem own_d17_1 : decode jdk_42_method_150_code 1 = .ok (.invokespecial 1, 3) := by decide +kernel
theorem own_w18 {Z : State} {a0 : Array Value} (hw : ∀ d ∈ tables_1, d.before a0 Z = true) : ((Jvm.Cond.methodLink "java/lang/String" (1 : Nat) ({ cls := "java/lang/Object", name := "<init>", desc := "()V" } : Jvm.MethodName)) : Jvm.Cond).before a0 Z = true := hw _ (List.mem_of_getElem? (i := 18) rfl)
theorem own_d17_4 : decode jdk_42_method_150_code 4 = .ok (.aload_n 1, 1) := by decide +kernel
theorem own_d17_5 : decode jdk_42_method_150_code 5 = .ok (.invokevirtual 552, 3) := by decide +kernel
theorem own_w144 {Z : State} {a0 : Array Value} (hw : ∀ d ∈ tables_1, d.before a0 Z = true) : ((Jvm.Cond.code ({ cls := "java/lang/AbstractStringBuilder", name := "getValue", desc := "()[B" } : Jvm.MethodName) jdk_68_method_64_code (1 : Nat) (Option.some (Jvm.ClassFile.FieldType.array Jvm.ClassFile.FieldType.byte))) : Jvm.Cond).before a0 Z = true := hw _ (List.mem_of_getElem? (i := 144) rfl)
theorem own_pd10 : parseMethodDescriptor "()[B" = some ⟨[], some (.array .byte)⟩ := by decide +kernel
theorem own_w140 {Z : State} {a0 : Array Value} (hw : ∀ d ∈ tables_1, d.before a0 Z = true) : ((Jvm.Cond.methodLink "java/lang/String" (552 : Nat) ({ cls := "java/lang/AbstractStringBuilder", name := "getValue", desc := "()[B" } : Jvm.MethodName)) : Jvm.Cond).before a0 Z = true := hw _ (List.mem_of_getElem? (i := 140) rfl)
theorem own_w141 {Z : State} {a0 : Array Value} (hw : ∀ d ∈ tables_1, d.before a0 Z = true) : ((Jvm.Cond.declares ({ cls := "java/lang/AbstractStringBuilder", name := "getValue", desc := "()[B" } : Jvm.MethodName)) : Jvm.Cond).before a0 Z = true := hw _ (List.mem_of_getElem? (i := 141) rfl)
theorem own_w143 {Z : State} {a0 : Array Value} (hw : ∀ d ∈ tables_1, d.before a0 Z = true) : ((Jvm.Cond.selects "java/lang/StringBuilder" ({ cls := "java/lang/AbstractStringBuilder", name := "getValue", desc := "()[B" } : Jvm.MethodName) ({ cls := "java/lang/AbstractStringBuilder", name := "getValue", desc := "()[B" } : Jvm.MethodName)) : Jvm.Cond).before a0 Z = true := hw _ (List.mem_of_getElem? (i := 143) rfl)
theorem own_w142 {Z : State} {a0 : Array Value} (hw : ∀ d ∈ tables_1, d.before a0 Z = true) : ((Jvm.Cond.instanceMethod ({ cls := "java/lang/AbstractStringBuilder", name := "getValue", desc := "()[B" } : Jvm.MethodName)) : Jvm.Cond).before a0 Z = true := hw _ (List.mem_of_getElem? (i := 142) rfl)
theorem own_d17_8 : decode jdk_42_method_150_code 8 = .ok (.astore_n 3, 1) := by decide +kernel
theorem own_d17_9 : decode jdk_42_method_150_code 9 = .ok (.aload_n 1, 1) := by decide +kernel
theorem own_d17_10 : decode jdk_42_method_150_code 10 = .ok (.invokevirtual 549, 3) := by decide +kernel
theorem own_w150 {Z : State} {a0 : Array Value} (hw : ∀ d ∈ tables_1, d.before a0 Z = true) : ((Jvm.Cond.code ({ cls := "java/lang/StringBuilder", name := "length", desc := "()I" } : Jvm.MethodName) jdk_67_method_93_code (1 : Nat) (Option.some Jvm.ClassFile.FieldType.int)) : Jvm.Cond).before a0 Z = true := hw _ (List.mem_of_getElem? (i := 150) rfl)
theorem own_w65 {Z : State} {a0 : Array Value} (hw : ∀ d ∈ tables_1, d.before a0 Z = true) : ((Jvm.Cond.initialized "java/lang/StringBuilder") : Jvm.Cond).before a0 Z = true := hw _ (List.mem_of_getElem? (i := 65) rfl)
theorem own_w145 {Z : State} {a0 : Array Value} (hw : ∀ d ∈ tables_1, d.before a0 Z = true) : ((Jvm.Cond.methodLink "java/lang/String" (549 : Nat) ({ cls := "java/lang/AbstractStringBuilder", name := "length", desc := "()I" } : Jvm.MethodName)) : Jvm.Cond).before a0 Z = true := hw _ (List.mem_of_getElem? (i := 145) rfl)
theorem own_w146 {Z : State} {a0 : Array Value} (hw : ∀ d ∈ tables_1, d.before a0 Z = true) : ((Jvm.Cond.declares ({ cls := "java/lang/AbstractStringBuilder", name := "length", desc := "()I" } : Jvm.MethodName)) : Jvm.Cond).before a0 Z = true := hw _ (List.mem_of_getElem? (i := 146) rfl)
theorem own_w148 {Z : State} {a0 : Array Value} (hw : ∀ d ∈ tables_1, d.before a0 Z = true) : ((Jvm.Cond.selects "java/lang/StringBuilder" ({ cls := "java/lang/AbstractStringBuilder", name := "length", desc := "()I" } : Jvm.MethodName) ({ cls := "java/lang/StringBuilder", name := "length", desc := "()I" } : Jvm.MethodName)) : Jvm.Cond).before a0 Z = true := hw _ (List.mem_of_getElem? (i := 148) rfl)
theorem own_w149 {Z : State} {a0 : Array Value} (hw : ∀ d ∈ tables_1, d.before a0 Z = true) : ((Jvm.Cond.instanceMethod ({ cls := "java/lang/StringBuilder", name := "length", desc := "()I" } : Jvm.MethodName)) : Jvm.Cond).before a0 Z = true := hw _ (List.mem_of_getElem? (i := 149) rfl)
theorem own_d17_13 : decode jdk_42_method_150_code 13 = .ok (.istore 4, 2) := by decide +kernel
theorem own_d17_15 : decode jdk_42_method_150_code 15 = .ok (.aload_n 1, 1) := by decide +kernel
theorem own_d17_16 : decode jdk_42_method_150_code 16 = .ok (.invokevirtual 1047, 3) := by decide +kernel
theorem own_w157 {Z : State} {a0 : Array Value} (hw : ∀ d ∈ tables_1, d.before a0 Z = true) : ((Jvm.Cond.code ({ cls := "java/lang/AbstractStringBuilder", name := "isLatin1", desc := "()Z" } : Jvm.MethodName) jdk_68_method_68_code (1 : Nat) (Option.some Jvm.ClassFile.FieldType.boolean)) : Jvm.Cond).before a0 Z = true := hw _ (List.mem_of_getElem? (i := 157) rfl)
theorem own_pd11 : parseMethodDescriptor "()Z" = some ⟨[], some .boolean⟩ := by decide +kernel
theorem own_w153 {Z : State} {a0 : Array Value} (hw : ∀ d ∈ tables_1, d.before a0 Z = true) : ((Jvm.Cond.methodLink "java/lang/String" (1047 : Nat) ({ cls := "java/lang/AbstractStringBuilder", name := "isLatin1", desc := "()Z" } : Jvm.MethodName)) : Jvm.Cond).before a0 Z = true := hw _ (List.mem_of_getElem? (i := 153) rfl)
theorem own_w154 {Z : State} {a0 : Array Value} (hw : ∀ d ∈ tables_1, d.before a0 Z = true) : ((Jvm.Cond.declares ({ cls := "java/lang/AbstractStringBuilder", name := "isLatin1", desc := "()Z" } : Jvm.MethodName)) : Jvm.Cond).before a0 Z = true := hw _ (List.mem_of_getElem? (i := 154) rfl)
theorem own_w156 {Z : State} {a0 : Array Value} (hw : ∀ d ∈ tables_1, d.before a0 Z = true) : ((Jvm.Cond.selects "java/lang/StringBuilder" ({ cls := "java/lang/AbstractStringBuilder", name := "isLatin1", desc := "()Z" } : Jvm.MethodName) ({ cls := "java/lang/AbstractStringBuilder", name := "isLatin1", desc := "()Z" } : Jvm.MethodName)) : Jvm.Cond).before a0 Z = true := hw _ (List.mem_of_getElem? (i := 156) rfl)
theorem own_w155 {Z : State} {a0 : Array Value} (hw : ∀ d ∈ tables_1, d.before a0 Z = true) : ((Jvm.Cond.instanceMethod ({ cls := "java/lang/AbstractStringBuilder", name := "isLatin1", desc := "()Z" } : Jvm.MethodName)) : Jvm.Cond).before a0 Z = true := hw _ (List.mem_of_getElem? (i := 155) rfl)
theorem own_d17_19 : decode jdk_42_method_150_code 19 = .ok (.ifCond .eq 22, 3) := by decide +kernel
theorem own_d17_22 : decode jdk_42_method_150_code 22 = .ok (.aload_n 0, 1) := by decide +kernel
theorem own_d17_23 : decode jdk_42_method_150_code 23 = .ok (.iconst 0, 1) := by decide +kernel
theorem own_d17_24 : decode jdk_42_method_150_code 24 = .ok (.putfield 15, 3) := by decide +kernel
theorem own_w5 {Z : State} {a0 : Array Value} (hw : ∀ d ∈ tables_1, d.before a0 Z = true) : ((Jvm.Cond.laysFinal "java/lang/String" "java/lang/String" "coder" "B") : Jvm.Cond).before a0 Z = true := hw _ (List.mem_of_getElem? (i := 5) rfl)
theorem own_w4 {Z : State} {a0 : Array Value} (hw : ∀ d ∈ tables_1, d.before a0 Z = true) : ((Jvm.Cond.laysFinal "java/lang/String" "java/lang/String" "value" "[B") : Jvm.Cond).before a0 Z = true := hw _ (List.mem_of_getElem? (i := 4) rfl)
theorem own_d17_27 : decode jdk_42_method_150_code 27 = .ok (.aload_n 0, 1) := by decide +kernel
theorem own_d17_28 : decode jdk_42_method_150_code 28 = .ok (.aload_n 3, 1) := by decide +kernel
theorem own_d17_29 : decode jdk_42_method_150_code 29 = .ok (.iconst 0, 1) := by decide +kernel
theorem own_d17_30 : decode jdk_42_method_150_code 30 = .ok (.iload 4, 2) := by decide +kernel
theorem own_d17_32 : decode jdk_42_method_150_code 32 = .ok (.invokestatic 54, 3) := by decide +kernel
theorem own_w161 {Z : State} {a0 : Array Value} (hw : ∀ d ∈ tables_1, d.before a0 Z = true) : ((Jvm.Cond.code ({ cls := "java/util/Arrays", name := "copyOfRange", desc := "([BII)[B" } : Jvm.MethodName) jdk_65_method_132_code (3 : Nat) (Option.some (Jvm.ClassFile.FieldType.array Jvm.ClassFile.FieldType.byte))) : Jvm.Cond).before a0 Z = true := hw _ (List.mem_of_getElem? (i := 161) rfl)
theorem own_w158 {Z : State} {a0 : Array Value} (hw : ∀ d ∈ tables_1, d.before a0 Z = true) : ((Jvm.Cond.methodLink "java/lang/String" (54 : Nat) ({ cls := "java/util/Arrays", name := "copyOfRange", desc := "([BII)[B" } : Jvm.MethodName)) : Jvm.Cond).before a0 Z = true := hw _ (List.mem_of_getElem? (i := 158) rfl)
theorem own_w159 {Z : State} {a0 : Array Value} (hw : ∀ d ∈ tables_1, d.before a0 Z = true) : ((Jvm.Cond.static ({ cls := "java/util/Arrays", name := "copyOfRange", desc := "([BII)[B" } : Jvm.MethodName)) : Jvm.Cond).before a0 Z = true := hw _ (List.mem_of_getElem? (i := 159) rfl)
theorem own_d17_35 : decode jdk_42_method_150_code 35 = .ok (.putfield 9, 3) := by decide +kernel
theorem own_d17_38 : decode jdk_42_method_150_code 38 = .ok (.goto 59, 3) := by decide +kernel
theorem own_d17_97 : decode jdk_42_method_150_code 97 = .ok (.return_, 1) := by decide +kernel
theorem own_ef_strAB (m : MethodId) (a1 : Addr) (b1 : Addr) : entryFrame m #[(.ref a1), (.ref b1), .null] 5 = mkF m 0 #[.val (.ref a1), .val (.ref b1), .val .null, .unset, .unset] [] := by first | (simp [entryFrame, mkF, argsToLocals, Value.category]; done) | rfl
theorem own_pf17 : plainFor (⟨"java/lang/String", "<init>", "(Ljava/lang/AbstractStringBuilder;Ljava/lang/Void;)V"⟩ : MethodName) = true := by first | exact plainFor_of_name (by first | (simp [plainName, overriddenIn]; done) | decide +kernel) | decide +kernel
def own_Q_strAB (Z : State) (h0 : Heap) (a1 : Addr) (b1 : Addr) (u1 : Value) (u2 : Value) (d : Addr) (kd : ClassId) (M : Int32) (vd : List Value) (eI : Int32) (nn : Nat) (z5 : Int32) (v : Option Value) (h : Heap) (ms : List Addr) : Prop := (Keep h0 h [a1]) ∧ (∃ (r : Addr) (kA : ClassId), (ms = []) ∧ (v = none) ∧ (Exa Z h a1 "java/lang/String") ∧ (Fld Z h a1 "java/lang/String" "coder" "B" (.int 0)) ∧ (Fld Z h a1 "java/lang/String" "value" "[B" (.ref r)) ∧ (Arv Z h r kA .byte eI (own_sl vd 0 nn) (.int 0)) ∧ (h0.size ≤ r))
set_option maxRecDepth 65536 in
set_option maxHeartbeats 40000000 in
theorem own_ct_strAB (l : Launch) (Z : State) (a0 : Array Value) (hw : ∀ d ∈ tables_1, d.before a0 Z = true) (EL : List (String × Nat)) (hE : EW Z a0 EL) (n0 : Nat) (ws : List Jvm.Cond) (h0 : Heap) (O : Old Z n0 h0) (a1 : Addr) (b1 : Addr) (u1 : Value) (u2 : Value) (d : Addr) (kd : ClassId) (M : Int32) (vd : List Value) (eI : Int32) (nn : Nat) (z5 : Int32) (E_a1 : Exa Z h0 a1 "java/lang/String") (F_a1_value : Fld Z h0 a1 "java/lang/String" "value" "[B" u1) (F_a1_coder : Fld Z h0 a1 "java/lang/String" "coder" "B" u2) (E_b1 : Exa Z h0 b1 "java/lang/StringBuilder") (F_b1_value : Fld Z h0 b1 "java/lang/AbstractStringBuilder" "value" "[B" (.ref d)) (F_b1_coder : Fld Z h0 b1 "java/lang/AbstractStringBuilder" "coder" "B" (.int 0)) (F_b1_count : Fld Z h0 b1 "java/lang/AbstractStringBuilder" "count" "I" (.int eI)) (A_d : Arv Z h0 d kd .byte M vd (.int 0)) (S_COMPACT_STRINGS : Sta Z Z.heap "java/lang/String" "COMPACT_STRINGS" "Z" (.int z5)) (P5 : ¬ z5 = 0) (hab : b1 ≠ a1) (had : d ≠ a1) (Rg : own_Rg 0 eI eI M 0 nn) (hcap : nn ≤ 16) (hnw : ¬ ((0 : Int32) = 0 ∧ eI = M)) :
    own_Ct l Z EL n0 (⟨"java/lang/String", "<init>", "(Ljava/lang/AbstractStringBuilder;Ljava/lang/Void;)V"⟩ : MethodName) jdk_42_method_150_code 5 none ws ({ frames := 3, cells := 1, slots := 16, locals := 49 } : Room) #[(.ref a1), (.ref b1), .null] h0 [a1] (own_Q_strAB Z h0 a1 b1 u1 u2 d kd M vd eI nn z5) := by
 refine own_enter (a0 := a0) own_pf17 hE O fun p e s m below meth c T0 w0 => ?_
 rw [own_ef_strAB m a1 b1]
 have K : Keep h0 h0 [a1] := Keep.refl _ _
 refine own_aloadN (pc' := 1) w0 own_d17_0 rfl rfl rfl ?_
 refine own_initO (pc' := 4) w0 (own_w18 hw) (own_w19 hw) (own_w20 hw) rfl own_d17_1 rfl (by decide) (W := 0) (Nat.le_of_eq rfl) (by decide) fun T1 w2 => ?_
 refine own_aloadN (pc' := 5) w2 own_d17_4 rfl rfl rfl ?_
 refine own_callV (pc' := 8) w2 (own_w140 hw) (own_w141 hw) (fun s' hZ' => notFace_of_selects (args := #[]) (mvT hZ' (own_w143 hw))) (own_w143 hw) (own_w142 hw) (own_w73 hw) (own_w144 hw) (by decide) E_b1 (own_ct_getV l Z a0 hw EL hE n0 [] h0 (own_old w2) b1 d F_b1_value) all0 (argsL := []) (rest := []) rfl rfl own_pd10 rfl own_d17_5 rfl (by decide) (W := 0) rfl (by decide) (by decide) (by decide) fun T3 h5 v6 ms7 w4 q8 => ?_
 obtain ⟨rfl, rfl, rfl⟩ := q8
 show own_Go Z EL n0 p e below s _ _ _ (T3.setTop (mkF m 8 _ [(.ref d)]))
 refine own_astoreN (pc' := 9) w4 own_d17_8 rfl (Ls' := #[.val (.ref a1), .val (.ref b1), .val .null, .val (.ref d), .unset]) rfl rfl ?_
 refine own_aloadN (pc' := 10) w4 own_d17_9 rfl rfl rfl ?_
 refine own_callV (pc' := 13) w4 (own_w145 hw) (own_w146 hw) (fun s' hZ' => own_nf (args := #[]) (mvT hZ' (own_w106 hw)) rfl) (own_w148 hw) (own_w149 hw) (own_w65 hw) (own_w150 hw) (by decide) E_b1 (own_ct_lenS l Z a0 hw EL hE n0 [] h0 (own_old w4) b1 eI E_b1 F_b1_count) all0 (argsL := []) (rest := []) rfl rfl own_pd6 rfl own_d17_10 rfl (by decide) (W := 0) rfl (by decide) (by decide) (by decide) fun T9 h11 v12 ms13 w10 q14 => ?_
 obtain ⟨rfl, rfl, rfl⟩ := q14
 show own_Go Z EL n0 p e below s _ _ _ (T9.setTop (mkF m 13 _ [(.int eI)]))
 refine own_istore (pc' := 15) w10 own_d17_13 (Ls' := #[.val (.ref a1), .val (.ref b1), .val .null, .val (.ref d), .val (.int eI)]) rfl rfl ?_
 refine own_aloadN (pc' := 16) w10 own_d17_15 rfl rfl rfl ?_
 refine own_callV (pc' := 19) w10 (own_w153 hw) (own_w154 hw) (fun s' hZ' => notFace_of_selects (args := #[]) (mvT hZ' (own_w156 hw))) (own_w156 hw) (own_w155 hw) (own_w73 hw) (own_w157 hw) (by decide) E_b1 (own_ct_isLB l Z a0 hw EL hE n0 [] h0 (own_old w10) b1 z5 F_b1_coder S_COMPACT_STRINGS (P5)) all0 (argsL := []) (rest := []) rfl rfl own_pd11 rfl own_d17_16 rfl (by decide) (W := 0) rfl (by decide) (by decide) (by decide) fun T15 h17 v18 ms19 w16 q20 => ?_
 obtain ⟨rfl, rfl, rfl⟩ := q20
 show own_Go Z EL n0 p e below s _ _ _ (T15.setTop (mkF m 19 _ [(.int (1 : Int32))]))
 refine own_if (pc' := 22) w16 own_d17_19 rfl (by decide) (pcY := 41) rfl (fun (hb19 : (1 : Int32) = (0 : Int32)) => absurd hb19 (by decide)) (fun (hb19 : ¬ (1 : Int32) = (0 : Int32)) => ?_)
 refine own_aloadN (pc' := 23) w16 own_d17_22 rfl rfl rfl ?_
 refine own_iconst (pc' := 24) w16 own_d17_23 (x := (0 : Int32)) rfl rfl ?_
 refine own_putF (pc' := 27) w16 (host := "") (Or.inl (own_w32 hw)) Via.refl (by simp) F_a1_coder E_a1 (Or.inr ⟨(own_w5 hw), rfl, rfl⟩) (own_w2 hw) (ty := .byte) (by decide) rfl rfl own_d17_24 rfl fun T21 h23 w22 W24 => ?_
 replace F_a1_coder := F_a1_coder.same W24
 replace E_a1 := E_a1.wr W24
 replace F_a1_value := F_a1_value.other W24 (Or.inr (slot_ne (Or.inr (own_w4 hw)) (Or.inr (own_w5 hw)) (by decide) (t := (.array .byte)) (t' := .byte) (by decide) (by decide)))
 replace E_b1 := E_b1.wr W24
 replace F_b1_value := F_b1_value.other W24 (Or.inl hab)
 replace F_b1_coder := F_b1_coder.other W24 (Or.inl hab)
 replace F_b1_count := F_b1_count.other W24 (Or.inl hab)
 replace A_d := A_d.other W24 had
 replace K := K.wr W24 (Or.inl (by simp))
 refine own_aloadN (pc' := 28) w22 own_d17_27 rfl rfl rfl ?_
 refine own_aloadN (pc' := 29) w22 own_d17_28 rfl rfl rfl ?_
 refine own_iconst (pc' := 30) w22 own_d17_29 (x := (0 : Int32)) rfl rfl ?_
 refine own_iload (pc' := 32) w22 own_d17_30 rfl rfl ?_
 refine own_callS (pc' := 35) w22 (own_w158 hw) (own_w159 hw) (own_w160 hw) (own_w161 hw) (by decide) (own_ct_cor l Z a0 hw EL hE n0 [] h23 (own_old w22) d (0 : Int32) eI kd M vd eI 0 nn A_d (Rg) (hcap) (hnw)) all0 (argsL := [(.ref d), (.int (0 : Int32)), (.int eI)]) (rest := [(.ref a1)]) rfl rfl own_pd2 rfl own_d17_32 rfl (by decide) (W := 1) rfl (by decide) (by decide) (by decide) fun T25 h27 v28 ms29 w26 q30 => ?_
 obtain ⟨K33, r_31, kA_32, rfl, rfl, nw_A_r_31, p32_cor_0⟩ := q30
 have ne_a1_r_31 : a1 ≠ r_31 := Nat.ne_of_lt (Nat.lt_of_lt_of_le E_a1.lt p32_cor_0)
 have ne_b1_r_31 : b1 ≠ r_31 := Nat.ne_of_lt (Nat.lt_of_lt_of_le E_b1.lt p32_cor_0)
 have ne_d_r_31 : d ≠ r_31 := Nat.ne_of_lt (Nat.lt_of_lt_of_le A_d.lt p32_cor_0)
 have nw_r_31 : h0.size ≤ r_31 := Nat.le_trans K.1 p32_cor_0
 replace E_a1 := E_a1.keep K33
 replace F_a1_value := F_a1_value.keep K33 nin0
 replace F_a1_coder := F_a1_coder.keep K33 nin0
 replace E_b1 := E_b1.keep K33
 replace F_b1_value := F_b1_value.keep K33 nin0
 replace F_b1_coder := F_b1_coder.keep K33 nin0
 replace F_b1_count := F_b1_count.keep K33 nin0
 replace A_d := A_d.keep K33 nin0
 replace K := K.trans K33 all0
 have A_r_31 := nw_A_r_31; clear nw_A_r_31
 show own_Go Z EL n0 p e below s _ _ _ (T25.setTop (mkF m 35 _ [(.ref r_31), (.ref a1)]))
 refine own_putF (pc' := 38) w26 (host := "") (Or.inl (own_w33 hw)) Via.refl (by simp) F_a1_value E_a1 (Or.inr ⟨(own_w4 hw), rfl, rfl⟩) (own_w2 hw) (ty := (.array .byte)) (by decide) rfl rfl own_d17_35 rfl fun T34 h36 w35 W37 => ?_
 replace F_a1_value := F_a1_value.same W37
 replace E_a1 := E_a1.wr W37
 replace F_a1_coder := F_a1_coder.other W37 (Or.inr (slot_ne (Or.inr (own_w5 hw)) (Or.inr (own_w4 hw)) (by decide) (t := .byte) (t' := (.array .byte)) (by decide) (by decide)))
 replace E_b1 := E_b1.wr W37
 replace F_b1_value := F_b1_value.other W37 (Or.inl hab)
 replace F_b1_coder := F_b1_coder.other W37 (Or.inl hab)
 replace F_b1_count := F_b1_count.other W37 (Or.inl hab)
 replace A_d := A_d.other W37 had
 replace A_r_31 := A_r_31.other W37 (Ne.symm ne_a1_r_31)
 replace K := K.wr W37 (Or.inl (by simp))
 refine own_goto w35 own_d17_38 (by decide) (pc' := 97) rfl ?_
 exact own_ret0 w35 rfl own_d17_97 (by decide) (by decide) (ms' := []) all0 ⟨K, r_31, kA_32, rfl, rfl, E_a1, F_a1_coder, F_a1_value, A_r_31, nw_r_31⟩
theorem own_d18_0 : decode jdk_42_method_53_code 0 = .ok (.aload_n 0, 1) := by decide +kernel
theorem own_d18_1 : decode jdk_42_method_53_code 1 = .ok (.aload_n 1, 1) := by decide +kernel
theorem own_d18_2 : decode jdk_42_method_53_code 2 = .ok (.aconst_null, 1) := by decide +kernel
theorem own_d18_3 : decode jdk_42_method_53_code 3 = .ok (.invokespecial 489, 3) := by decide +kernel
theorem own_w139 {Z : State} {a0 : Array Value} (hw : ∀ d ∈ tables_1, d.before a0 Z = true) : ((Jvm.Cond.code ({ cls := "java/lang/String", name := "<init>", desc := "(Ljava/lang/AbstractStringBuilder;Ljava/lang/Void;)V" } : Jvm.MethodName) jdk_42_method_150_code (5 : Nat) (Option.none : Option Jvm.ClassFile.FieldType)) : Jvm.Cond).before a0 Z = true := hw _ (List.mem_of_getElem? (i := 139) rfl)
theorem own_pd12 : parseMethodDescriptor "(Ljava/lang/AbstractStringBuilder;Ljava/lang/Void;)V" = some ⟨[(.object "java/lang/AbstractStringBuilder"), (.object "java/lang/Void")], none⟩ := by decide +kernel
theorem own_w137 {Z : State} {a0 : Array Value} (hw : ∀ d ∈ tables_1, d.before a0 Z = true) : ((Jvm.Cond.methodLink "java/lang/String" (489 : Nat) ({ cls := "java/lang/String", name := "<init>", desc := "(Ljava/lang/AbstractStringBuilder;Ljava/lang/Void;)V" } : Jvm.MethodName)) : Jvm.Cond).before a0 Z = true := hw _ (List.mem_of_getElem? (i := 137) rfl)
theorem own_w138 {Z : State} {a0 : Array Value} (hw : ∀ d ∈ tables_1, d.before a0 Z = true) : ((Jvm.Cond.instanceMethod ({ cls := "java/lang/String", name := "<init>", desc := "(Ljava/lang/AbstractStringBuilder;Ljava/lang/Void;)V" } : Jvm.MethodName)) : Jvm.Cond).before a0 Z = true := hw _ (List.mem_of_getElem? (i := 138) rfl)
theorem own_d18_6 : decode jdk_42_method_53_code 6 = .ok (.return_, 1) := by decide +kernel
theorem own_ef_strSB (m : MethodId) (a1 : Addr) (b1 : Addr) : entryFrame m #[(.ref a1), (.ref b1)] 2 = mkF m 0 #[.val (.ref a1), .val (.ref b1)] [] := by first | (simp [entryFrame, mkF, argsToLocals, Value.category]; done) | rfl
theorem own_pf18 : plainFor (⟨"java/lang/String", "<init>", "(Ljava/lang/StringBuilder;)V"⟩ : MethodName) = true := by first | exact plainFor_of_name (by first | (simp [plainName, overriddenIn]; done) | decide +kernel) | decide +kernel
def own_Q_strSB (Z : State) (h0 : Heap) (a1 : Addr) (b1 : Addr) (u1 : Value) (u2 : Value) (d : Addr) (kd : ClassId) (M : Int32) (vd : List Value) (eI : Int32) (nn : Nat) (z5 : Int32) (v : Option Value) (h : Heap) (ms : List Addr) : Prop := (Keep h0 h [a1]) ∧ (∃ (r : Addr) (kA : ClassId), (ms = []) ∧ (v = none) ∧ (Exa Z h a1 "java/lang/String") ∧ (Fld Z h a1 "java/lang/String" "coder" "B" (.int 0)) ∧ (Fld Z h a1 "java/lang/String" "value" "[B" (.ref r)) ∧ (Arv Z h r kA .byte eI (own_sl vd 0 nn) (.int 0)) ∧ (h0.size ≤ r))
set_option maxRecDepth 65536 in
set_option maxHeartbeats 40000000 in
theorem own_ct_strSB (l : Launch) (Z : State) (a0 : Array Value) (hw : ∀ d ∈ tables_1, d.before a0 Z = true) (EL : List (String × Nat)) (hE : EW Z a0 EL) (n0 : Nat) (ws : List Jvm.Cond) (h0 : Heap) (O : Old Z n0 h0) (a1 : Addr) (b1 : Addr) (u1 : Value) (u2 : Value) (d : Addr) (kd : ClassId) (M : Int32) (vd : List Value) (eI : Int32) (nn : Nat) (z5 : Int32) (E_a1 : Exa Z h0 a1 "java/lang/String") (F_a1_value : Fld Z h0 a1 "java/lang/String" "value" "[B" u1) (F_a1_coder : Fld Z h0 a1 "java/lang/String" "coder" "B" u2) (E_b1 : Exa Z h0 b1 "java/lang/StringBuilder") (F_b1_value : Fld Z h0 b1 "java/lang/AbstractStringBuilder" "value" "[B" (.ref d)) (F_b1_coder : Fld Z h0 b1 "java/lang/AbstractStringBuilder" "coder" "B" (.int 0)) (F_b1_count : Fld Z h0 b1 "java/lang/AbstractStringBuilder" "count" "I" (.int eI)) (A_d : Arv Z h0 d kd .byte M vd (.int 0)) (S_COMPACT_STRINGS : Sta Z Z.heap "java/lang/String" "COMPACT_STRINGS" "Z" (.int z5)) (P5 : ¬ z5 = 0) (hab : b1 ≠ a1) (had : d ≠ a1) (Rg : own_Rg 0 eI eI M 0 nn) (hcap : nn ≤ 16) (hnw : ¬ ((0 : Int32) = 0 ∧ eI = M)) :
    own_Ct l Z EL n0 (⟨"java/lang/String", "<init>", "(Ljava/lang/StringBuilder;)V"⟩ : MethodName) jdk_42_method_53_code 2 none ws ({ frames := 4, cells := 1, slots := 16, locals := 65 } : Room) #[(.ref a1), (.ref b1)] h0 [a1] (own_Q_strSB Z h0 a1 b1 u1 u2 d kd M vd eI nn z5) := by
 refine own_enter (a0 := a0) own_pf18 hE O fun p e s m below meth c T0 w0 => ?_
 rw [own_ef_strSB m a1 b1]
 have K : Keep h0 h0 [a1] := Keep.refl _ _
 refine own_aloadN (pc' := 1) w0 own_d18_0 rfl rfl rfl ?_
 refine own_aloadN (pc' := 2) w0 own_d18_1 rfl rfl rfl ?_
 refine own_aconstNull (pc' := 3) w0 own_d18_2 rfl ?_
 refine own_callI (pc' := 6) w0 rfl (own_w137 hw) (own_w138 hw) (own_w1 hw) (own_w139 hw) (by decide) (own_ct_strAB l Z a0 hw EL hE n0 [] h0 (own_old w0) a1 b1 u1 u2 d kd M vd eI nn z5 E_a1 F_a1_value F_a1_coder E_b1 F_b1_value F_b1_coder F_b1_count A_d S_COMPACT_STRINGS (P5) hab had (Rg) (hcap) (hnw)) (allS (P := fun x => x ∈ _) (by simp) all0) (argsL := [(.ref b1), .null]) (rest := []) rfl rfl own_pd12 rfl own_d18_3 rfl (by decide) (W := 0) rfl (by decide) (by decide) (by decide) fun T1 h3 v4 ms5 w2 q6 => ?_
 obtain ⟨K9, r_7, kA_8, rfl, rfl, nw_E_a1, nw_F_a1_coder, nw_F_a1_value, nw_A_r_7, p3_strAB_0⟩ := q6
 have ne_a1_r_7 : a1 ≠ r_7 := Nat.ne_of_lt (Nat.lt_of_lt_of_le E_a1.lt p3_strAB_0)
 have ne_b1_r_7 : b1 ≠ r_7 := Nat.ne_of_lt (Nat.lt_of_lt_of_le E_b1.lt p3_strAB_0)
 have ne_d_r_7 : d ≠ r_7 := Nat.ne_of_lt (Nat.lt_of_lt_of_le A_d.lt p3_strAB_0)
 have nw_r_7 : h0.size ≤ r_7 := Nat.le_trans K.1 p3_strAB_0
 replace E_b1 := E_b1.keep K9
 replace F_b1_value := F_b1_value.keep K9 (ninS hab nin0)
 replace F_b1_coder := F_b1_coder.keep K9 (ninS hab nin0)
 replace F_b1_count := F_b1_count.keep K9 (ninS hab nin0)
 replace A_d := A_d.keep K9 (ninS had nin0)
 replace K := K.trans K9 (allS (P := fun x => x ∈ ([a1] : List Addr) ∨ h0.size ≤ x) (Or.inl (by simp)) all0)
 have E_a1 := nw_E_a1; clear nw_E_a1
 have F_a1_coder := nw_F_a1_coder; clear nw_F_a1_coder
 have F_a1_value := nw_F_a1_value; clear nw_F_a1_value
 have A_r_7 := nw_A_r_7; clear nw_A_r_7
 show own_Go Z EL n0 p e below s _ _ _ (T1.setTop (mkF m 6 _ []))
 exact own_ret0 w2 rfl own_d18_6 (by decide) (by decide) (ms' := []) all0 ⟨K, r_7, kA_8, rfl, rfl, E_a1, F_a1_coder, F_a1_value, A_r_7, nw_r_7⟩
theorem own_d19_0 : decode jdk_67_method_42_code 0 = .ok (.new 18, 3) := by decide +kernel
theorem own_w133 {Z : State} {a0 : Array Value} (hw : ∀ d ∈ tables_1, d.before a0 Z = true) : ((Jvm.Cond.classLink "java/lang/StringBuilder" (18 : Nat) "java/lang/String") : Jvm.Cond).before a0 Z = true := hw _ (List.mem_of_getElem? (i := 133) rfl)
theorem own_d19_3 : decode jdk_67_method_42_code 3 = .ok (.dup, 1) := by decide +kernel
theorem own_d19_4 : decode jdk_67_method_42_code 4 = .ok (.aload_n 0, 1) := by decide +kernel
theorem own_d19_5 : decode jdk_67_method_42_code 5 = .ok (.invokespecial 137, 3) := by decide +kernel
theorem own_w136 {Z : State} {a0 : Array Value} (hw : ∀ d ∈ tables_1, d.before a0 Z = true) : ((Jvm.Cond.code ({ cls := "java/lang/String", name := "<init>", desc := "(Ljava/lang/StringBuilder;)V" } : Jvm.MethodName) jdk_42_method_53_code (2 : Nat) (Option.none : Option Jvm.ClassFile.FieldType)) : Jvm.Cond).before a0 Z = true := hw _ (List.mem_of_getElem? (i := 136) rfl)
theorem own_pd13 : parseMethodDescriptor "(Ljava/lang/StringBuilder;)V" = some ⟨[(.object "java/lang/StringBuilder")], none⟩ := by decide +kernel
theorem own_w134 {Z : State} {a0 : Array Value} (hw : ∀ d ∈ tables_1, d.before a0 Z = true) : ((Jvm.Cond.methodLink "java/lang/StringBuilder" (137 : Nat) ({ cls := "java/lang/String", name := "<init>", desc := "(Ljava/lang/StringBuilder;)V" } : Jvm.MethodName)) : Jvm.Cond).before a0 Z = true := hw _ (List.mem_of_getElem? (i := 134) rfl)
theorem own_w135 {Z : State} {a0 : Array Value} (hw : ∀ d ∈ tables_1, d.before a0 Z = true) : ((Jvm.Cond.instanceMethod ({ cls := "java/lang/String", name := "<init>", desc := "(Ljava/lang/StringBuilder;)V" } : Jvm.MethodName)) : Jvm.Cond).before a0 Z = true := hw _ (List.mem_of_getElem? (i := 135) rfl)
theorem own_d19_8 : decode jdk_67_method_42_code 8 = .ok (.areturn, 1) := by decide +kernel
theorem own_ef_toS (m : MethodId) (b1 : Addr) : entryFrame m #[(.ref b1)] 1 = mkF m 0 #[.val (.ref b1)] [] := by first | (simp [entryFrame, mkF, argsToLocals, Value.category]; done) | rfl
theorem own_pf19 : plainFor (⟨"java/lang/StringBuilder", "toString", "()Ljava/lang/String;"⟩ : MethodName) = true := by first | exact plainFor_of_name (by first | (simp [plainName, overriddenIn]; done) | decide +kernel) | decide +kernel
def own_Q_toS (Z : State) (h0 : Heap) (b1 : Addr) (d : Addr) (kd : ClassId) (M : Int32) (vd : List Value) (eI : Int32) (nn : Nat) (z5 : Int32) (v : Option Value) (h : Heap) (ms : List Addr) : Prop := (Keep h0 h []) ∧ (∃ (q : Addr) (r : Addr) (kA : ClassId), (ms = []) ∧ (v = some (.ref q)) ∧ (Exa Z h q "java/lang/String") ∧ (Fld Z h q "java/lang/String" "coder" "B" (.int 0)) ∧ (Fld Z h q "java/lang/String" "value" "[B" (.ref r)) ∧ (Arv Z h r kA .byte eI (own_sl vd 0 nn) (.int 0)) ∧ (h0.size ≤ q) ∧ (h0.size ≤ r))
set_option maxRecDepth 65536 in
set_option maxHeartbeats 40000000 in
theorem own_ct_toS (l : Launch) (Z : State) (a0 : Array Value) (hw : ∀ d ∈ tables_1, d.before a0 Z = true) (EL : List (String × Nat)) (hE : EW Z a0 EL) (n0 : Nat) (ws : List Jvm.Cond) (h0 : Heap) (O : Old Z n0 h0) (b1 : Addr) (d : Addr) (kd : ClassId) (M : Int32) (vd : List Value) (eI : Int32) (nn : Nat) (z5 : Int32) (E_b1 : Exa Z h0 b1 "java/lang/StringBuilder") (F_b1_value : Fld Z h0 b1 "java/lang/AbstractStringBuilder" "value" "[B" (.ref d)) (F_b1_coder : Fld Z h0 b1 "java/lang/AbstractStringBuilder" "coder" "B" (.int 0)) (F_b1_count : Fld Z h0 b1 "java/lang/AbstractStringBuilder" "count" "I" (.int eI)) (A_d : Arv Z h0 d kd .byte M vd (.int 0)) (S_COMPACT_STRINGS : Sta Z Z.heap "java/lang/String" "COMPACT_STRINGS" "Z" (.int z5)) (P5 : ¬ z5 = 0) (Rg : own_Rg 0 eI eI M 0 nn) (hcap : nn ≤ 16) (hnw : ¬ ((0 : Int32) = 0 ∧ eI = M)) :
    own_Ct l Z EL n0 (⟨"java/lang/StringBuilder", "toString", "()Ljava/lang/String;"⟩ : MethodName) jdk_67_method_42_code 1 (some (.object "java/lang/String")) ws ({ frames := 5, cells := 2, slots := 20, locals := 79 } : Room) #[(.ref b1)] h0 [] (own_Q_toS Z h0 b1 d kd M vd eI nn z5) := by
 refine own_enter (a0 := a0) own_pf19 hE O fun p e s m below meth c T0 w0 => ?_
 rw [own_ef_toS m b1]
 have K : Keep h0 h0 [] := Keep.refl _ _
 refine own_newO (pc' := 3) w0 (own_w133 hw) (own_w2 hw) (own_w1 hw) own_d19_0 rfl (by decide) (by decide) fun T1 h3 a5 g_a5 w2 E4 ⟨E_a5, D6⟩ => ?_
 have ne_b1_a5 : b1 ≠ a5 := Nat.ne_of_lt (Nat.lt_of_lt_of_le E_b1.lt (Nat.le_of_eq g_a5))
 have ne_d_a5 : d ≠ a5 := Nat.ne_of_lt (Nat.lt_of_lt_of_le A_d.lt (Nat.le_of_eq g_a5))
 have nw_a5 : h0.size ≤ a5 := Nat.le_trans K.1 (Nat.le_of_eq g_a5)
 replace E_b1 := E_b1.ext E4
 replace F_b1_value := F_b1_value.ext E4
 replace F_b1_coder := F_b1_coder.ext E4
 replace F_b1_count := F_b1_count.ext E4
 replace A_d := A_d.ext E4
 replace K := K.ext E4
 have F_a5_value : Fld Z h3 a5 "java/lang/String" "value" "[B" .null := D6 (Or.inr (own_w4 hw)) (ty := (.array .byte)) (by decide)
 have F_a5_coder : Fld Z h3 a5 "java/lang/String" "coder" "B" (.int 0) := D6 (Or.inr (own_w5 hw)) (ty := .byte) (by decide)
 refine own_dup (pc' := 4) w2 own_d19_3 rfl rfl ?_
 refine own_aloadN (pc' := 5) w2 own_d19_4 rfl rfl rfl ?_
 refine own_callI (pc' := 8) w2 rfl (own_w134 hw) (own_w135 hw) (own_w1 hw) (own_w136 hw) (by decide) (own_ct_strSB l Z a0 hw EL hE n0 [] h3 (own_old w2) a5 b1 .null (.int 0) d kd M vd eI nn z5 E_a5 F_a5_value F_a5_coder E_b1 F_b1_value F_b1_coder F_b1_count A_d S_COMPACT_STRINGS (P5) ne_b1_a5 ne_d_a5 (Rg) (hcap) (hnw)) (allS (P := fun x => x ∈ _) (by simp) all0) (argsL := [(.ref b1)]) (rest := [(.ref a5)]) rfl rfl own_pd13 rfl own_d19_5 rfl (by decide) (W := 1) rfl (by decide) (by decide) (by decide) fun T7 h9 v10 ms11 w8 q12 => ?_
 obtain ⟨K15, r_13, kA_14, rfl, rfl, nw_E_a5, nw_F_a5_coder, nw_F_a5_value, nw_A_r_13, p5_strSB_0⟩ := q12
 have ne_a5_r_13 : a5 ≠ r_13 := Nat.ne_of_lt (Nat.lt_of_lt_of_le E_a5.lt p5_strSB_0)
 have ne_b1_r_13 : b1 ≠ r_13 := Nat.ne_of_lt (Nat.lt_of_lt_of_le E_b1.lt p5_strSB_0)
 have ne_d_r_13 : d ≠ r_13 := Nat.ne_of_lt (Nat.lt_of_lt_of_le A_d.lt p5_strSB_0)
 have nw_r_13 : h0.size ≤ r_13 := Nat.le_trans K.1 p5_strSB_0
 replace E_b1 := E_b1.keep K15
 replace F_b1_value := F_b1_value.keep K15 (ninS ne_b1_a5 nin0)
 replace F_b1_coder := F_b1_coder.keep K15 (ninS ne_b1_a5 nin0)
 replace F_b1_count := F_b1_count.keep K15 (ninS ne_b1_a5 nin0)
 replace A_d := A_d.keep K15 (ninS ne_d_a5 nin0)
 replace K := K.trans K15 (allS (P := fun x => x ∈ ([] : List Addr) ∨ h0.size ≤ x) (Or.inr nw_a5) all0)
 have E_a5 := nw_E_a5; clear nw_E_a5
 have F_a5_coder := nw_F_a5_coder; clear nw_F_a5_coder
 have F_a5_value := nw_F_a5_value; clear nw_F_a5_value
 have A_r_13 := nw_A_r_13; clear nw_A_r_13
 show own_Go Z EL n0 p e below s _ _ _ (T7.setTop (mkF m 8 _ [(.ref a5)]))
 exact own_retV w8 (t := (.object "java/lang/String")) rfl (own_narR rfl rfl) (Or.inr (Or.inr (Or.inr (Or.inr ⟨rfl, rfl, rfl⟩)))) own_d19_8 (by decide) (by decide) (ms' := []) all0 ⟨K, a5, r_13, kA_14, rfl, rfl, E_a5, F_a5_coder, F_a5_value, A_r_13, nw_a5, nw_r_13⟩
theorem own_d20_0 : decode jdk_30_method_1_code 0 = .ok (.aload_n 0, 1) := by decide +kernel
theorem own_d20_1 : decode jdk_30_method_1_code 1 = .ok (.invokespecial 1, 3) := by decide +kernel
theorem own_w45 {Z : State} {a0 : Array Value} (hw : ∀ d ∈ tables_1, d.before a0 Z = true) : ((Jvm.Cond.methodLink "java/lang/Record" (1 : Nat) ({ cls := "java/lang/Object", name := "<init>", desc := "()V" } : Jvm.MethodName)) : Jvm.Cond).before a0 Z = true := hw _ (List.mem_of_getElem? (i := 45) rfl)
theorem own_d20_4 : decode jdk_30_method_1_code 4 = .ok (.return_, 1) := by decide +kernel
theorem own_ef_recInit (m : MethodId) (a1 : Addr) : entryFrame m #[(.ref a1)] 1 = mkF m 0 #[.val (.ref a1)] [] := by first | (simp [entryFrame, mkF, argsToLocals, Value.category]; done) | rfl
theorem own_pf20 : plainFor (⟨"java/lang/Record", "<init>", "()V"⟩ : MethodName) = true := by first | exact plainFor_of_name (by first | (simp [plainName, overriddenIn]; done) | decide +kernel) | decide +kernel
def own_Q_recInit (Z : State) (h0 : Heap) (a1 : Addr) (v : Option Value) (h : Heap) (ms : List Addr) : Prop := (h0 = h) ∧ (ms = []) ∧ (v = none)
set_option maxRecDepth 65536 in
set_option maxHeartbeats 40000000 in
theorem own_ct_recInit (l : Launch) (Z : State) (a0 : Array Value) (hw : ∀ d ∈ tables_1, d.before a0 Z = true) (EL : List (String × Nat)) (hE : EW Z a0 EL) (n0 : Nat) (ws : List Jvm.Cond) (h0 : Heap) (O : Old Z n0 h0) (a1 : Addr)  :
    own_Ct l Z EL n0 (⟨"java/lang/Record", "<init>", "()V"⟩ : MethodName) jdk_30_method_1_code 1 none ws ({ frames := 1, cells := 0, slots := 0, locals := 12 } : Room) #[(.ref a1)] h0 [] (own_Q_recInit Z h0 a1) := by
 refine own_enter (a0 := a0) own_pf20 hE O fun p e s m below meth c T0 w0 => ?_
 rw [own_ef_recInit m a1]
 refine own_aloadN (pc' := 1) w0 own_d20_0 rfl rfl rfl ?_
 refine own_initO (pc' := 4) w0 (own_w45 hw) (own_w19 hw) (own_w20 hw) rfl own_d20_1 rfl (by decide) (W := 0) (Nat.le_of_eq rfl) (by decide) fun T1 w2 => ?_
 exact own_ret0 w2 rfl own_d20_4 (by decide) (by decide) (ms' := []) all0 ⟨rfl, rfl, rfl⟩
theorem own_d21_0 : decode prog_9_method_1_code 0 = .ok (.aload_n 0, 1) := by decide +kernel
theorem own_d21_1 : decode prog_9_method_1_code 1 = .ok (.invokespecial 1, 3) := by decide +kernel
theorem own_w44 {Z : State} {a0 : Array Value} (hw : ∀ d ∈ tables_1, d.before a0 Z = true) : ((Jvm.Cond.code ({ cls := "java/lang/Record", name := "<init>", desc := "()V" } : Jvm.MethodName) jdk_30_method_1_code (1 : Nat) (Option.none : Option Jvm.ClassFile.FieldType)) : Jvm.Cond).before a0 Z = true := hw _ (List.mem_of_getElem? (i := 44) rfl)
theorem own_w43 {Z : State} {a0 : Array Value} (hw : ∀ d ∈ tables_1, d.before a0 Z = true) : ((Jvm.Cond.initialized "java/lang/Record") : Jvm.Cond).before a0 Z = true := hw _ (List.mem_of_getElem? (i := 43) rfl)
theorem own_pd14 : parseMethodDescriptor "()V" = some ⟨[], none⟩ := by decide +kernel
theorem own_w40 {Z : State} {a0 : Array Value} (hw : ∀ d ∈ tables_1, d.before a0 Z = true) : ((Jvm.Cond.methodLink "com/example/vidura/vidura/Mailbox" (1 : Nat) ({ cls := "java/lang/Record", name := "<init>", desc := "()V" } : Jvm.MethodName)) : Jvm.Cond).before a0 Z = true := hw _ (List.mem_of_getElem? (i := 40) rfl)
theorem own_w41 {Z : State} {a0 : Array Value} (hw : ∀ d ∈ tables_1, d.before a0 Z = true) : ((Jvm.Cond.instanceMethod ({ cls := "java/lang/Record", name := "<init>", desc := "()V" } : Jvm.MethodName)) : Jvm.Cond).before a0 Z = true := hw _ (List.mem_of_getElem? (i := 41) rfl)
theorem own_d21_4 : decode prog_9_method_1_code 4 = .ok (.aload_n 0, 1) := by decide +kernel
theorem own_d21_5 : decode prog_9_method_1_code 5 = .ok (.aload_n 1, 1) := by decide +kernel
theorem own_d21_6 : decode prog_9_method_1_code 6 = .ok (.putfield 7, 3) := by decide +kernel
theorem own_w46 {Z : State} {a0 : Array Value} (hw : ∀ d ∈ tables_1, d.before a0 Z = true) : ((Jvm.Cond.fieldLink "com/example/vidura/vidura/Mailbox" (7 : Nat) "com/example/vidura/vidura/Mailbox" "address" "Ljava/lang/String;") : Jvm.Cond).before a0 Z = true := hw _ (List.mem_of_getElem? (i := 46) rfl)
theorem own_w47 {Z : State} {a0 : Array Value} (hw : ∀ d ∈ tables_1, d.before a0 Z = true) : ((Jvm.Cond.laysFinal "com/example/vidura/vidura/Mailbox" "com/example/vidura/vidura/Mailbox" "address" "Ljava/lang/String;") : Jvm.Cond).before a0 Z = true := hw _ (List.mem_of_getElem? (i := 47) rfl)
theorem own_w35 {Z : State} {a0 : Array Value} (hw : ∀ d ∈ tables_1, d.before a0 Z = true) : ((Jvm.Cond.instantiable "com/example/vidura/vidura/Mailbox" (2 : Nat)) : Jvm.Cond).before a0 Z = true := hw _ (List.mem_of_getElem? (i := 35) rfl)
theorem own_w49 {Z : State} {a0 : Array Value} (hw : ∀ d ∈ tables_1, d.before a0 Z = true) : ((Jvm.Cond.laysFinal "com/example/vidura/vidura/Mailbox" "com/example/vidura/vidura/Mailbox" "home" "Ljava/lang/String;") : Jvm.Cond).before a0 Z = true := hw _ (List.mem_of_getElem? (i := 49) rfl)
theorem own_d21_9 : decode prog_9_method_1_code 9 = .ok (.aload_n 0, 1) := by decide +kernel
theorem own_d21_10 : decode prog_9_method_1_code 10 = .ok (.aload_n 2, 1) := by decide +kernel
theorem own_d21_11 : decode prog_9_method_1_code 11 = .ok (.putfield 13, 3) := by decide +kernel
theorem own_w48 {Z : State} {a0 : Array Value} (hw : ∀ d ∈ tables_1, d.before a0 Z = true) : ((Jvm.Cond.fieldLink "com/example/vidura/vidura/Mailbox" (13 : Nat) "com/example/vidura/vidura/Mailbox" "home" "Ljava/lang/String;") : Jvm.Cond).before a0 Z = true := hw _ (List.mem_of_getElem? (i := 48) rfl)
theorem own_d21_14 : decode prog_9_method_1_code 14 = .ok (.return_, 1) := by decide +kernel
theorem own_ef_mbInit (m : MethodId) (a1 : Addr) (r2 : Addr) (r3 : Addr) : entryFrame m #[(.ref a1), (.ref r2), (.ref r3)] 3 = mkF m 0 #[.val (.ref a1), .val (.ref r2), .val (.ref r3)] [] := by first | (simp [entryFrame, mkF, argsToLocals, Value.category]; done) | rfl
theorem own_pf21 : plainFor (⟨"com/example/vidura/vidura/Mailbox", "<init>", "(Ljava/lang/String;Ljava/lang/String;)V"⟩ : MethodName) = true := by first | exact plainFor_of_name (by first | (simp [plainName, overriddenIn]; done) | decide +kernel) | decide +kernel
def own_Q_mbInit (Z : State) (h0 : Heap) (a1 : Addr) (r2 : Addr) (r3 : Addr) (u1 : Value) (u2 : Value) (v : Option Value) (h : Heap) (ms : List Addr) : Prop := (Keep h0 h [a1]) ∧ (ms = []) ∧ (v = none) ∧ (Exa Z h a1 "com/example/vidura/vidura/Mailbox") ∧ (Fld Z h a1 "com/example/vidura/vidura/Mailbox" "home" "Ljava/lang/String;" (.ref r3))
set_option maxRecDepth 65536 in
set_option maxHeartbeats 40000000 in
theorem own_ct_mbInit (l : Launch) (Z : State) (a0 : Array Value) (hw : ∀ d ∈ tables_1, d.before a0 Z = true) (EL : List (String × Nat)) (hE : EW Z a0 EL) (n0 : Nat) (ws : List Jvm.Cond) (h0 : Heap) (O : Old Z n0 h0) (a1 : Addr) (r2 : Addr) (r3 : Addr) (u1 : Value) (u2 : Value) (E_a1 : Exa Z h0 a1 "com/example/vidura/vidura/Mailbox") (F_a1_address : Fld Z h0 a1 "com/example/vidura/vidura/Mailbox" "address" "Ljava/lang/String;" u1) (F_a1_home : Fld Z h0 a1 "com/example/vidura/vidura/Mailbox" "home" "Ljava/lang/String;" u2) :
    own_Ct l Z EL n0 (⟨"com/example/vidura/vidura/Mailbox", "<init>", "(Ljava/lang/String;Ljava/lang/String;)V"⟩ : MethodName) prog_9_method_1_code 3 none ws ({ frames := 2, cells := 0, slots := 0, locals := 24 } : Room) #[(.ref a1), (.ref r2), (.ref r3)] h0 [a1] (own_Q_mbInit Z h0 a1 r2 r3 u1 u2) := by
 refine own_enter (a0 := a0) own_pf21 hE O fun p e s m below meth c T0 w0 => ?_
 rw [own_ef_mbInit m a1 r2 r3]
 have K : Keep h0 h0 [a1] := Keep.refl _ _
 refine own_aloadN (pc' := 1) w0 own_d21_0 rfl rfl rfl ?_
 refine own_callI (pc' := 4) w0 rfl (own_w40 hw) (own_w41 hw) (own_w43 hw) (own_w44 hw) (by decide) (own_ct_recInit l Z a0 hw EL hE n0 [] h0 (own_old w0) a1 ) all0 (argsL := []) (rest := []) rfl rfl own_pd14 rfl own_d21_1 rfl (by decide) (W := 0) rfl (by decide) (by decide) (by decide) fun T1 h3 v4 ms5 w2 q6 => ?_
 obtain ⟨rfl, rfl, rfl⟩ := q6
 show own_Go Z EL n0 p e below s _ _ _ (T1.setTop (mkF m 4 _ []))
 refine own_aloadN (pc' := 5) w2 own_d21_4 rfl rfl rfl ?_
 refine own_aloadN (pc' := 6) w2 own_d21_5 rfl rfl rfl ?_
 refine own_putF (pc' := 9) w2 (host := "") (Or.inl (own_w46 hw)) Via.refl (by simp) F_a1_address E_a1 (Or.inr ⟨(own_w47 hw), rfl, rfl⟩) (own_w35 hw) (ty := (.object "java/lang/String")) (by decide) rfl rfl own_d21_6 rfl fun T7 h9 w8 W10 => ?_
 replace F_a1_address := F_a1_address.same W10
 replace E_a1 := E_a1.wr W10
 replace F_a1_home := F_a1_home.other W10 (Or.inr (slot_ne (Or.inr (own_w49 hw)) (Or.inr (own_w47 hw)) (by decide) (t := (.object "java/lang/String")) (t' := (.object "java/lang/String")) (by decide) (by decide)))
 replace K := K.wr W10 (Or.inl (by simp))
 refine own_aloadN (pc' := 10) w8 own_d21_9 rfl rfl rfl ?_
 refine own_aloadN (pc' := 11) w8 own_d21_10 rfl rfl rfl ?_
 refine own_putF (pc' := 14) w8 (host := "") (Or.inl (own_w48 hw)) Via.refl (by simp) F_a1_home E_a1 (Or.inr ⟨(own_w49 hw), rfl, rfl⟩) (own_w35 hw) (ty := (.object "java/lang/String")) (by decide) rfl rfl own_d21_11 rfl fun T11 h13 w12 W14 => ?_
 replace F_a1_home := F_a1_home.same W14
 replace E_a1 := E_a1.wr W14
 replace F_a1_address := F_a1_address.other W14 (Or.inr (slot_ne (Or.inr (own_w47 hw)) (Or.inr (own_w49 hw)) (by decide) (t := (.object "java/lang/String")) (t' := (.object "java/lang/String")) (by decide) (by decide)))
 replace K := K.wr W14 (Or.inl (by simp))
 exact own_ret0 w12 rfl own_d21_14 (by decide) (by decide) (ms' := []) all0 ⟨K, rfl, rfl, E_a1, F_a1_home⟩
theorem own_d22_0 : decode prog_9_method_5_code 0 = .ok (.new 29, 3) := by decide +kernel
theorem own_w63 {Z : State} {a0 : Array Value} (hw : ∀ d ∈ tables_1, d.before a0 Z = true) : ((Jvm.Cond.classLink "com/example/vidura/vidura/Mailbox" (29 : Nat) "java/lang/StringBuilder") : Jvm.Cond).before a0 Z = true := hw _ (List.mem_of_getElem? (i := 63) rfl)
theorem own_d22_3 : decode prog_9_method_5_code 3 = .ok (.dup, 1) := by decide +kernel
theorem own_d22_4 : decode prog_9_method_5_code 4 = .ok (.invokespecial 31, 3) := by decide +kernel
theorem own_w68 {Z : State} {a0 : Array Value} (hw : ∀ d ∈ tables_1, d.before a0 Z = true) : ((Jvm.Cond.code ({ cls := "java/lang/StringBuilder", name := "<init>", desc := "()V" } : Jvm.MethodName) jdk_67_method_1_code (1 : Nat) (Option.none : Option Jvm.ClassFile.FieldType)) : Jvm.Cond).before a0 Z = true := hw _ (List.mem_of_getElem? (i := 68) rfl)
theorem own_w66 {Z : State} {a0 : Array Value} (hw : ∀ d ∈ tables_1, d.before a0 Z = true) : ((Jvm.Cond.methodLink "com/example/vidura/vidura/Mailbox" (31 : Nat) ({ cls := "java/lang/StringBuilder", name := "<init>", desc := "()V" } : Jvm.MethodName)) : Jvm.Cond).before a0 Z = true := hw _ (List.mem_of_getElem? (i := 66) rfl)
theorem own_w67 {Z : State} {a0 : Array Value} (hw : ∀ d ∈ tables_1, d.before a0 Z = true) : ((Jvm.Cond.instanceMethod ({ cls := "java/lang/StringBuilder", name := "<init>", desc := "()V" } : Jvm.MethodName)) : Jvm.Cond).before a0 Z = true := hw _ (List.mem_of_getElem? (i := 67) rfl)
theorem own_d22_7 : decode prog_9_method_5_code 7 = .ok (.aload_n 0, 1) := by decide +kernel
theorem own_d22_8 : decode prog_9_method_5_code 8 = .ok (.getfield 13, 3) := by decide +kernel
theorem own_d22_11 : decode prog_9_method_5_code 11 = .ok (.invokevirtual 34, 3) := by decide +kernel
theorem own_w85 {Z : State} {a0 : Array Value} (hw : ∀ d ∈ tables_1, d.before a0 Z = true) : ((Jvm.Cond.code ({ cls := "java/lang/StringBuilder", name := "append", desc := "(Ljava/lang/String;)Ljava/lang/StringBuilder;" } : Jvm.MethodName) jdk_67_method_7_code (2 : Nat) (Option.some (Jvm.ClassFile.FieldType.object "java/lang/StringBuilder"))) : Jvm.Cond).before a0 Z = true := hw _ (List.mem_of_getElem? (i := 85) rfl)
theorem own_pd15 : parseMethodDescriptor "(Ljava/lang/String;)Ljava/lang/StringBuilder;" = some ⟨[(.object "java/lang/String")], some (.object "java/lang/StringBuilder")⟩ := by decide +kernel
theorem own_w81 {Z : State} {a0 : Array Value} (hw : ∀ d ∈ tables_1, d.before a0 Z = true) : ((Jvm.Cond.methodLink "com/example/vidura/vidura/Mailbox" (34 : Nat) ({ cls := "java/lang/StringBuilder", name := "append", desc := "(Ljava/lang/String;)Ljava/lang/StringBuilder;" } : Jvm.MethodName)) : Jvm.Cond).before a0 Z = true := hw _ (List.mem_of_getElem? (i := 81) rfl)
theorem own_w82 {Z : State} {a0 : Array Value} (hw : ∀ d ∈ tables_1, d.before a0 Z = true) : ((Jvm.Cond.declares ({ cls := "java/lang/StringBuilder", name := "append", desc := "(Ljava/lang/String;)Ljava/lang/StringBuilder;" } : Jvm.MethodName)) : Jvm.Cond).before a0 Z = true := hw _ (List.mem_of_getElem? (i := 82) rfl)
theorem own_w84 {Z : State} {a0 : Array Value} (hw : ∀ d ∈ tables_1, d.before a0 Z = true) : ((Jvm.Cond.selects "java/lang/StringBuilder" ({ cls := "java/lang/StringBuilder", name := "append", desc := "(Ljava/lang/String;)Ljava/lang/StringBuilder;" } : Jvm.MethodName) ({ cls := "java/lang/StringBuilder", name := "append", desc := "(Ljava/lang/String;)Ljava/lang/StringBuilder;" } : Jvm.MethodName)) : Jvm.Cond).before a0 Z = true := hw _ (List.mem_of_getElem? (i := 84) rfl)
theorem own_w83 {Z : State} {a0 : Array Value} (hw : ∀ d ∈ tables_1, d.before a0 Z = true) : ((Jvm.Cond.instanceMethod ({ cls := "java/lang/StringBuilder", name := "append", desc := "(Ljava/lang/String;)Ljava/lang/StringBuilder;" } : Jvm.MethodName)) : Jvm.Cond).before a0 Z = true := hw _ (List.mem_of_getElem? (i := 83) rfl)
theorem own_d22_14 : decode prog_9_method_5_code 14 = .ok (.aload_n 1, 1) := by decide +kernel
theorem own_d22_15 : decode prog_9_method_5_code 15 = .ok (.invokevirtual 34, 3) := by decide +kernel
theorem own_d22_18 : decode prog_9_method_5_code 18 = .ok (.invokevirtual 45, 3) := by decide +kernel
theorem own_w132 {Z : State} {a0 : Array Value} (hw : ∀ d ∈ tables_1, d.before a0 Z = true) : ((Jvm.Cond.code ({ cls := "java/lang/StringBuilder", name := "toString", desc := "()Ljava/lang/String;" } : Jvm.MethodName) jdk_67_method_42_code (1 : Nat) (Option.some (Jvm.ClassFile.FieldType.object "java/lang/String"))) : Jvm.Cond).before a0 Z = true := hw _ (List.mem_of_getElem? (i := 132) rfl)
theorem own_pd16 : parseMethodDescriptor "()Ljava/lang/String;" = some ⟨[], some (.object "java/lang/String")⟩ := by decide +kernel
theorem own_w128 {Z : State} {a0 : Array Value} (hw : ∀ d ∈ tables_1, d.before a0 Z = true) : ((Jvm.Cond.methodLink "com/example/vidura/vidura/Mailbox" (45 : Nat) ({ cls := "java/lang/StringBuilder", name := "toString", desc := "()Ljava/lang/String;" } : Jvm.MethodName)) : Jvm.Cond).before a0 Z = true := hw _ (List.mem_of_getElem? (i := 128) rfl)
theorem own_w129 {Z : State} {a0 : Array Value} (hw : ∀ d ∈ tables_1, d.before a0 Z = true) : ((Jvm.Cond.declares ({ cls := "java/lang/StringBuilder", name := "toString", desc := "()Ljava/lang/String;" } : Jvm.MethodName)) : Jvm.Cond).before a0 Z = true := hw _ (List.mem_of_getElem? (i := 129) rfl)
theorem own_w131 {Z : State} {a0 : Array Value} (hw : ∀ d ∈ tables_1, d.before a0 Z = true) : ((Jvm.Cond.selects "java/lang/StringBuilder" ({ cls := "java/lang/StringBuilder", name := "toString", desc := "()Ljava/lang/String;" } : Jvm.MethodName) ({ cls := "java/lang/StringBuilder", name := "toString", desc := "()Ljava/lang/String;" } : Jvm.MethodName)) : Jvm.Cond).before a0 Z = true := hw _ (List.mem_of_getElem? (i := 131) rfl)
theorem own_w130 {Z : State} {a0 : Array Value} (hw : ∀ d ∈ tables_1, d.before a0 Z = true) : ((Jvm.Cond.instanceMethod ({ cls := "java/lang/StringBuilder", name := "toString", desc := "()Ljava/lang/String;" } : Jvm.MethodName)) : Jvm.Cond).before a0 Z = true := hw _ (List.mem_of_getElem? (i := 130) rfl)
theorem own_d22_21 : decode prog_9_method_5_code 21 = .ok (.areturn, 1) := by decide +kernel
theorem own_ef_path (m : MethodId) (mb : Addr) (a2 : Addr) : entryFrame m #[(.ref mb), (.ref a2)] 2 = mkF m 0 #[.val (.ref mb), .val (.ref a2)] [] := by first | (simp [entryFrame, mkF, argsToLocals, Value.category]; done) | rfl
theorem own_pf22 : plainFor (⟨"com/example/vidura/vidura/Mailbox", "path", "(Ljava/lang/String;)Ljava/lang/String;"⟩ : MethodName) = true := by first | exact plainFor_of_name (by first | (simp [plainName, overriddenIn]; done) | decide +kernel) | decide +kernel
def own_Q_path (Z : State) (h0 : Heap) (mb : Addr) (a2 : Addr) (hm : Addr) (t1 : Addr) (kb1 : ClassId) (N1 : Int32) (vs1 : List Value) (cs1 : List Int32) (t2 : Addr) (kb2 : ClassId) (N2 : Int32) (vs2 : List Value) (cs2 : List Int32) (eI : Int32) (n1 : Nat) (n2 : Nat) (nn : Nat) (z5 : Int32) (v : Option Value) (h : Heap) (ms : List Addr) : Prop := (Keep h0 h []) ∧ (∃ (q : Addr) (r : Addr) (kA : ClassId), (ms = []) ∧ (v = some (.ref q)) ∧ (Exa Z h q "java/lang/String") ∧ (Fld Z h q "java/lang/String" "coder" "B" (.int 0)) ∧ (Fld Z h q "java/lang/String" "value" "[B" (.ref r)) ∧ (Arv Z h r kA .byte eI (own_sl (own_put (own_put (List.replicate 16 (.int 0)) 0 vs1) n1 vs2) 0 nn) (.int 0)) ∧ (h0.size ≤ q) ∧ (h0.size ≤ r))
set_option maxRecDepth 65536 in
set_option maxHeartbeats 40000000 in
theorem own_ct_path (l : Launch) (Z : State) (a0 : Array Value) (hw : ∀ d ∈ tables_1, d.before a0 Z = true) (EL : List (String × Nat)) (hE : EW Z a0 EL) (n0 : Nat) (ws : List Jvm.Cond) (h0 : Heap) (O : Old Z n0 h0) (mb : Addr) (a2 : Addr) (hm : Addr) (t1 : Addr) (kb1 : ClassId) (N1 : Int32) (vs1 : List Value) (cs1 : List Int32) (t2 : Addr) (kb2 : ClassId) (N2 : Int32) (vs2 : List Value) (cs2 : List Int32) (eI : Int32) (n1 : Nat) (n2 : Nat) (nn : Nat) (z5 : Int32) (F_mb_home : Fld Z h0 mb "com/example/vidura/vidura/Mailbox" "home" "Ljava/lang/String;" (.ref hm)) (E_hm : Exa Z h0 hm "java/lang/String") (F_hm_coder : Fld Z h0 hm "java/lang/String" "coder" "B" (.int 0)) (F_hm_value : Fld Z h0 hm "java/lang/String" "value" "[B" (.ref t1)) (A_t1 : Arv Z h0 t1 kb1 .byte N1 vs1 (.int 0)) (E_a2 : Exa Z h0 a2 "java/lang/String") (F_a2_coder : Fld Z h0 a2 "java/lang/String" "coder" "B" (.int 0)) (F_a2_value : Fld Z h0 a2 "java/lang/String" "value" "[B" (.ref t2)) (A_t2 : Arv Z h0 t2 kb2 .byte N2 vs2 (.int 0)) (hcd1 : StrChars.Road.CodA cs1 0 N1 vs1) (hbd_1 : ∀ c ∈ cs1, ¬ c < 0 ∧ ¬ (65535 : Int32) < c) (l2_1 : cs1.length ≤ 4000) (hN1 : Int32.ofNat cs1.length = N1) (hcd2 : StrChars.Road.CodA cs2 0 N2 vs2) (hbd_2 : ∀ c ∈ cs2, ¬ c < 0 ∧ ¬ (65535 : Int32) < c) (l2_2 : cs2.length ≤ 4000) (hN2 : Int32.ofNat cs2.length = N2) (S_COMPACT_STRINGS : Sta Z Z.heap "java/lang/String" "COMPACT_STRINGS" "Z" (.int z5)) (P5 : ¬ z5 = 0) (hc2 : N1 + N2 = eI) (hl1 : ¬ 0 < (N1 - (16 : Int32))) (hl2 : ¬ 0 < (eI - (16 : Int32))) (Pu1 : own_Pu 0 N1 16 0 n1 (List.replicate 16 (.int 0)) vs1) (Pu2 : own_Pu N1 N2 16 n1 n2 (own_put (List.replicate 16 (.int 0)) 0 vs1) vs2) (Rg : own_Rg 0 eI eI 16 0 nn) (hcap : nn ≤ 16) (hnw : ¬ ((0 : Int32) = 0 ∧ eI = (16 : Int32))) :
    own_Ct l Z EL n0 (⟨"com/example/vidura/vidura/Mailbox", "path", "(Ljava/lang/String;)Ljava/lang/String;"⟩ : MethodName) prog_9_method_5_code 2 (some (.object "java/lang/String")) ws ({ frames := 6, cells := 4, slots := 40, locals := 91 } : Room) #[(.ref mb), (.ref a2)] h0 [] (own_Q_path Z h0 mb a2 hm t1 kb1 N1 vs1 cs1 t2 kb2 N2 vs2 cs2 eI n1 n2 nn z5) := by
 refine own_enter (a0 := a0) own_pf22 hE O fun p e s m below meth c T0 w0 => ?_
 rw [own_ef_path m mb a2]
 have K : Keep h0 h0 [] := Keep.refl _ _
 refine own_newO (pc' := 3) w0 (own_w63 hw) (own_w64 hw) (own_w65 hw) own_d22_0 rfl (by decide) (by decide) fun T1 h3 a5 g_a5 w2 E4 ⟨E_a5, D6⟩ => ?_
 have ne_a2_a5 : a2 ≠ a5 := Nat.ne_of_lt (Nat.lt_of_lt_of_le E_a2.lt (Nat.le_of_eq g_a5))
 have ne_hm_a5 : hm ≠ a5 := Nat.ne_of_lt (Nat.lt_of_lt_of_le E_hm.lt (Nat.le_of_eq g_a5))
 have ne_mb_a5 : mb ≠ a5 := Nat.ne_of_lt (Nat.lt_of_lt_of_le F_mb_home.lt (Nat.le_of_eq g_a5))
 have ne_t1_a5 : t1 ≠ a5 := Nat.ne_of_lt (Nat.lt_of_lt_of_le A_t1.lt (Nat.le_of_eq g_a5))
 have ne_t2_a5 : t2 ≠ a5 := Nat.ne_of_lt (Nat.lt_of_lt_of_le A_t2.lt (Nat.le_of_eq g_a5))
 have nw_a5 : h0.size ≤ a5 := Nat.le_trans K.1 (Nat.le_of_eq g_a5)
 replace F_mb_home := F_mb_home.ext E4
 replace E_hm := E_hm.ext E4
 replace F_hm_coder := F_hm_coder.ext E4
 replace F_hm_value := F_hm_value.ext E4
 replace A_t1 := A_t1.ext E4
 replace E_a2 := E_a2.ext E4
 replace F_a2_coder := F_a2_coder.ext E4
 replace F_a2_value := F_a2_value.ext E4
 replace A_t2 := A_t2.ext E4
 replace K := K.ext E4
 have F_a5_value : Fld Z h3 a5 "java/lang/AbstractStringBuilder" "value" "[B" .null := D6 (Or.inl (own_w78 hw)) (ty := (.array .byte)) (by decide)
 have F_a5_coder : Fld Z h3 a5 "java/lang/AbstractStringBuilder" "coder" "B" (.int 0) := D6 (Or.inl (own_w80 hw)) (ty := .byte) (by decide)
 have F_a5_count : Fld Z h3 a5 "java/lang/AbstractStringBuilder" "count" "I" (.int 0) := D6 (Or.inl (own_w102 hw)) (ty := .int) (by decide)
 refine own_dup (pc' := 4) w2 own_d22_3 rfl rfl ?_
 refine own_callI (pc' := 7) w2 rfl (own_w66 hw) (own_w67 hw) (own_w65 hw) (own_w68 hw) (by decide) (own_ct_sbI l Z a0 hw EL hE n0 [] h3 (own_old w2) a5 .null (.int 0) z5 E_a5 F_a5_value F_a5_coder F_a5_count S_COMPACT_STRINGS (P5)) (allS (P := fun x => x ∈ _) (by simp) all0) (argsL := []) (rest := [(.ref a5)]) rfl rfl own_pd14 rfl own_d22_4 rfl (by decide) (W := 1) rfl (by decide) (by decide) (by decide) fun T7 h9 v10 ms11 w8 q12 => ?_
 obtain ⟨K15, d_13, kd_14, rfl, rfl, nw_E_a5, nw_F_a5_value, nw_F_a5_coder, nw_F_a5_count, nw_A_d_13, p4_sbI_0⟩ := q12
 have ne_a2_d_13 : a2 ≠ d_13 := Nat.ne_of_lt (Nat.lt_of_lt_of_le E_a2.lt p4_sbI_0)
 have ne_a5_d_13 : a5 ≠ d_13 := Nat.ne_of_lt (Nat.lt_of_lt_of_le E_a5.lt p4_sbI_0)
 have ne_hm_d_13 : hm ≠ d_13 := Nat.ne_of_lt (Nat.lt_of_lt_of_le E_hm.lt p4_sbI_0)
 have ne_mb_d_13 : mb ≠ d_13 := Nat.ne_of_lt (Nat.lt_of_lt_of_le F_mb_home.lt p4_sbI_0)
 have ne_t1_d_13 : t1 ≠ d_13 := Nat.ne_of_lt (Nat.lt_of_lt_of_le A_t1.lt p4_sbI_0)
 have ne_t2_d_13 : t2 ≠ d_13 := Nat.ne_of_lt (Nat.lt_of_lt_of_le A_t2.lt p4_sbI_0)
 have nw_d_13 : h0.size ≤ d_13 := Nat.le_trans K.1 p4_sbI_0
 replace F_mb_home := F_mb_home.keep K15 (ninS ne_mb_a5 nin0)
 replace E_hm := E_hm.keep K15
 replace F_hm_coder := F_hm_coder.keep K15 (ninS ne_hm_a5 nin0)
 replace F_hm_value := F_hm_value.keep K15 (ninS ne_hm_a5 nin0)
 replace A_t1 := A_t1.keep K15 (ninS ne_t1_a5 nin0)
 replace E_a2 := E_a2.keep K15
 replace F_a2_coder := F_a2_coder.keep K15 (ninS ne_a2_a5 nin0)
 replace F_a2_value := F_a2_value.keep K15 (ninS ne_a2_a5 nin0)
 replace A_t2 := A_t2.keep K15 (ninS ne_t2_a5 nin0)
 replace K := K.trans K15 (allS (P := fun x => x ∈ ([] : List Addr) ∨ h0.size ≤ x) (Or.inr nw_a5) all0)
 have E_a5 := nw_E_a5; clear nw_E_a5
 have F_a5_value := nw_F_a5_value; clear nw_F_a5_value
 have F_a5_coder := nw_F_a5_coder; clear nw_F_a5_coder
 have F_a5_count := nw_F_a5_count; clear nw_F_a5_count
 have A_d_13 := nw_A_d_13; clear nw_A_d_13
 show own_Go Z EL n0 p e below s _ _ _ (T7.setTop (mkF m 7 _ [(.ref a5)]))
 refine own_aloadN (pc' := 8) w8 own_d22_7 rfl rfl rfl ?_
 refine own_getF (pc' := 11) w8 (host := "") (Or.inl (own_w48 hw)) Via.refl F_mb_home own_d22_8 rfl fun T16 w17 => ?_
 refine own_callV (pc' := 14) w17 (own_w81 hw) (own_w82 hw) (fun s' hZ' => notFace_of_selects (args := #[]) (mvT hZ' (own_w84 hw))) (own_w84 hw) (own_w83 hw) (own_w65 hw) (own_w85 hw) (by decide) E_a5 (own_ct_appS l Z a0 hw EL hE n0 [] h9 (own_old w17) a5 hm d_13 kd_14 (16 : Int32) (List.replicate 16 (.int 0)) t1 kb1 N1 vs1 cs1 0 N1 0 n1 z5 E_a5 F_a5_value F_a5_coder F_a5_count A_d_13 E_hm F_hm_coder F_hm_value A_t1 (hcd1) (hbd_1) (l2_1) S_COMPACT_STRINGS (P5) ne_t1_d_13 ne_hm_d_13 ne_t1_a5 ne_hm_a5 (Ne.symm ne_a5_d_13) (hN1) (Int32.zero_add _) (hl1) (Pu1)) (allS (P := fun x => x ∈ _) (by simp) (allS (P := fun x => x ∈ _) (by simp) all0)) (argsL := [(.ref hm)]) (rest := []) rfl rfl own_pd15 rfl own_d22_11 rfl (by decide) (W := 0) rfl (by decide) (by decide) (by decide) fun T18 h20 v21 ms22 w19 q23 => ?_
 obtain ⟨K24, rfl, rfl, nw_E_a5, nw_F_a5_value, nw_F_a5_coder, nw_F_a5_count, nw_A_d_13⟩ := q23
 replace F_mb_home := F_mb_home.keep K24 (ninS ne_mb_a5 (ninS ne_mb_d_13 nin0))
 replace E_hm := E_hm.keep K24
 replace F_hm_coder := F_hm_coder.keep K24 (ninS ne_hm_a5 (ninS ne_hm_d_13 nin0))
 replace F_hm_value := F_hm_value.keep K24 (ninS ne_hm_a5 (ninS ne_hm_d_13 nin0))
 replace A_t1 := A_t1.keep K24 (ninS ne_t1_a5 (ninS ne_t1_d_13 nin0))
 replace E_a2 := E_a2.keep K24
 replace F_a2_coder := F_a2_coder.keep K24 (ninS ne_a2_a5 (ninS ne_a2_d_13 nin0))
 replace F_a2_value := F_a2_value.keep K24 (ninS ne_a2_a5 (ninS ne_a2_d_13 nin0))
 replace A_t2 := A_t2.keep K24 (ninS ne_t2_a5 (ninS ne_t2_d_13 nin0))
 replace K := K.trans K24 (allS (P := fun x => x ∈ ([] : List Addr) ∨ h0.size ≤ x) (Or.inr nw_a5) (allS (P := fun x => x ∈ ([] : List Addr) ∨ h0.size ≤ x) (Or.inr nw_d_13) all0))
 have E_a5 := nw_E_a5; clear nw_E_a5
 have F_a5_value := nw_F_a5_value; clear nw_F_a5_value
 have F_a5_coder := nw_F_a5_coder; clear nw_F_a5_coder
 have F_a5_count := nw_F_a5_count; clear nw_F_a5_count
 have A_d_13 := nw_A_d_13; clear nw_A_d_13
 show own_Go Z EL n0 p e below s _ _ _ (T18.setTop (mkF m 14 _ [(.ref a5)]))
 refine own_aloadN (pc' := 15) w19 own_d22_14 rfl rfl rfl ?_
 refine own_callV (pc' := 18) w19 (own_w81 hw) (own_w82 hw) (fun s' hZ' => notFace_of_selects (args := #[]) (mvT hZ' (own_w84 hw))) (own_w84 hw) (own_w83 hw) (own_w65 hw) (own_w85 hw) (by decide) E_a5 (own_ct_appS l Z a0 hw EL hE n0 [] h20 (own_old w19) a5 a2 d_13 kd_14 (16 : Int32) (own_put (List.replicate 16 (.int 0)) 0 vs1) t2 kb2 N2 vs2 cs2 N1 eI n1 n2 z5 E_a5 F_a5_value F_a5_coder F_a5_count A_d_13 E_a2 F_a2_coder F_a2_value A_t2 (hcd2) (hbd_2) (l2_2) S_COMPACT_STRINGS (P5) ne_t2_d_13 ne_a2_d_13 ne_t2_a5 ne_a2_a5 (Ne.symm ne_a5_d_13) (hN2) (hc2) (hl2) (Pu2)) (allS (P := fun x => x ∈ _) (by simp) (allS (P := fun x => x ∈ _) (by simp) all0)) (argsL := [(.ref a2)]) (rest := []) rfl rfl own_pd15 rfl own_d22_15 rfl (by decide) (W := 0) rfl (by decide) (by decide) (by decide) fun T25 h27 v28 ms29 w26 q30 => ?_
 obtain ⟨K31, rfl, rfl, nw_E_a5, nw_F_a5_value, nw_F_a5_coder, nw_F_a5_count, nw_A_d_13⟩ := q30
 replace F_mb_home := F_mb_home.keep K31 (ninS ne_mb_a5 (ninS ne_mb_d_13 nin0))
 replace E_hm := E_hm.keep K31
 replace F_hm_coder := F_hm_coder.keep K31 (ninS ne_hm_a5 (ninS ne_hm_d_13 nin0))
 replace F_hm_value := F_hm_value.keep K31 (ninS ne_hm_a5 (ninS ne_hm_d_13 nin0))
 replace A_t1 := A_t1.keep K31 (ninS ne_t1_a5 (ninS ne_t1_d_13 nin0))
 replace E_a2 := E_a2.keep K31
 replace F_a2_coder := F_a2_coder.keep K31 (ninS ne_a2_a5 (ninS ne_a2_d_13 nin0))
 replace F_a2_value := F_a2_value.keep K31 (ninS ne_a2_a5 (ninS ne_a2_d_13 nin0))
 replace A_t2 := A_t2.keep K31 (ninS ne_t2_a5 (ninS ne_t2_d_13 nin0))
 replace K := K.trans K31 (allS (P := fun x => x ∈ ([] : List Addr) ∨ h0.size ≤ x) (Or.inr nw_a5) (allS (P := fun x => x ∈ ([] : List Addr) ∨ h0.size ≤ x) (Or.inr nw_d_13) all0))
 have E_a5 := nw_E_a5; clear nw_E_a5
 have F_a5_value := nw_F_a5_value; clear nw_F_a5_value
 have F_a5_coder := nw_F_a5_coder; clear nw_F_a5_coder
 have F_a5_count := nw_F_a5_count; clear nw_F_a5_count
 have A_d_13 := nw_A_d_13; clear nw_A_d_13
 show own_Go Z EL n0 p e below s _ _ _ (T25.setTop (mkF m 18 _ [(.ref a5)]))
 refine own_callV (pc' := 21) w26 (own_w128 hw) (own_w129 hw) (fun s' hZ' => notFace_of_selects (args := #[]) (mvT hZ' (own_w131 hw))) (own_w131 hw) (own_w130 hw) (own_w65 hw) (own_w132 hw) (by decide) E_a5 (own_ct_toS l Z a0 hw EL hE n0 [] h27 (own_old w26) a5 d_13 kd_14 (16 : Int32) (own_put (own_put (List.replicate 16 (.int 0)) 0 vs1) n1 vs2) eI nn z5 E_a5 F_a5_value F_a5_coder F_a5_count A_d_13 S_COMPACT_STRINGS (P5) (Rg) (hcap) (hnw)) all0 (argsL := []) (rest := []) rfl rfl own_pd16 rfl own_d22_18 rfl (by decide) (W := 0) rfl (by decide) (by decide) (by decide) fun T32 h34 v35 ms36 w33 q37 => ?_
 obtain ⟨K41, q_38, r_39, kA_40, rfl, rfl, nw_E_q_38, nw_F_q_38_coder, nw_F_q_38_value, nw_A_r_39, p18_toS_0, p18_toS_1⟩ := q37
 have ne_a2_q_38 : a2 ≠ q_38 := Nat.ne_of_lt (Nat.lt_of_lt_of_le E_a2.lt p18_toS_0)
 have ne_a5_q_38 : a5 ≠ q_38 := Nat.ne_of_lt (Nat.lt_of_lt_of_le E_a5.lt p18_toS_0)
 have ne_d_13_q_38 : d_13 ≠ q_38 := Nat.ne_of_lt (Nat.lt_of_lt_of_le A_d_13.lt p18_toS_0)
 have ne_hm_q_38 : hm ≠ q_38 := Nat.ne_of_lt (Nat.lt_of_lt_of_le E_hm.lt p18_toS_0)
 have ne_mb_q_38 : mb ≠ q_38 := Nat.ne_of_lt (Nat.lt_of_lt_of_le F_mb_home.lt p18_toS_0)
 have ne_t1_q_38 : t1 ≠ q_38 := Nat.ne_of_lt (Nat.lt_of_lt_of_le A_t1.lt p18_toS_0)
 have ne_t2_q_38 : t2 ≠ q_38 := Nat.ne_of_lt (Nat.lt_of_lt_of_le A_t2.lt p18_toS_0)
 have nw_q_38 : h0.size ≤ q_38 := Nat.le_trans K.1 p18_toS_0
 have ne_a2_r_39 : a2 ≠ r_39 := Nat.ne_of_lt (Nat.lt_of_lt_of_le E_a2.lt p18_toS_1)
 have ne_a5_r_39 : a5 ≠ r_39 := Nat.ne_of_lt (Nat.lt_of_lt_of_le E_a5.lt p18_toS_1)
 have ne_d_13_r_39 : d_13 ≠ r_39 := Nat.ne_of_lt (Nat.lt_of_lt_of_le A_d_13.lt p18_toS_1)
 have ne_hm_r_39 : hm ≠ r_39 := Nat.ne_of_lt (Nat.lt_of_lt_of_le E_hm.lt p18_toS_1)
 have ne_mb_r_39 : mb ≠ r_39 := Nat.ne_of_lt (Nat.lt_of_lt_of_le F_mb_home.lt p18_toS_1)
 have ne_t1_r_39 : t1 ≠ r_39 := Nat.ne_of_lt (Nat.lt_of_lt_of_le A_t1.lt p18_toS_1)
 have ne_t2_r_39 : t2 ≠ r_39 := Nat.ne_of_lt (Nat.lt_of_lt_of_le A_t2.lt p18_toS_1)
 have nw_r_39 : h0.size ≤ r_39 := Nat.le_trans K.1 p18_toS_1
 replace F_mb_home := F_mb_home.keep K41 nin0
 replace E_hm := E_hm.keep K41
 replace F_hm_coder := F_hm_coder.keep K41 nin0
 replace F_hm_value := F_hm_value.keep K41 nin0
 replace A_t1 := A_t1.keep K41 nin0
 replace E_a2 := E_a2.keep K41
 replace F_a2_coder := F_a2_coder.keep K41 nin0
 replace F_a2_value := F_a2_value.keep K41 nin0
 replace A_t2 := A_t2.keep K41 nin0
 replace E_a5 := E_a5.keep K41
 replace F_a5_value := F_a5_value.keep K41 nin0
 replace F_a5_coder := F_a5_coder.keep K41 nin0
 replace F_a5_count := F_a5_count.keep K41 nin0
 replace A_d_13 := A_d_13.keep K41 nin0
 replace K := K.trans K41 all0
 have E_q_38 := nw_E_q_38; clear nw_E_q_38
 have F_q_38_coder := nw_F_q_38_coder; clear nw_F_q_38_coder
 have F_q_38_value := nw_F_q_38_value; clear nw_F_q_38_value
 have A_r_39 := nw_A_r_39; clear nw_A_r_39
 show own_Go Z EL n0 p e below s _ _ _ (T32.setTop (mkF m 21 _ [(.ref q_38)]))
 exact own_retV w33 (t := (.object "java/lang/String")) rfl (own_narR rfl rfl) (Or.inr (Or.inr (Or.inr (Or.inr ⟨rfl, rfl, rfl⟩)))) own_d22_21 (by decide) (by decide) (ms' := []) all0 ⟨K, q_38, r_39, kA_40, rfl, rfl, E_q_38, F_q_38_coder, F_q_38_value, A_r_39, nw_q_38, nw_r_39⟩
theorem own_d23_0 : decode prog_15_method_1_code 0 = .ok (.aload_n 0, 1) := by decide +kernel
theorem own_d23_1 : decode prog_15_method_1_code 1 = .ok (.invokespecial 1, 3) := by decide +kernel
theorem own_w176 {Z : State} {a0 : Array Value} (hw : ∀ d ∈ tables_1, d.before a0 Z = true) : ((Jvm.Cond.methodLink "com/example/vidura/vidura/WritingForm" (1 : Nat) ({ cls := "java/lang/Record", name := "<init>", desc := "()V" } : Jvm.MethodName)) : Jvm.Cond).before a0 Z = true := hw _ (List.mem_of_getElem? (i := 176) rfl)
theorem own_d23_4 : decode prog_15_method_1_code 4 = .ok (.aload_n 0, 1) := by decide +kernel
theorem own_d23_5 : decode prog_15_method_1_code 5 = .ok (.aload_n 1, 1) := by decide +kernel
theorem own_d23_6 : decode prog_15_method_1_code 6 = .ok (.putfield 7, 3) := by decide +kernel
theorem own_w177 {Z : State} {a0 : Array Value} (hw : ∀ d ∈ tables_1, d.before a0 Z = true) : ((Jvm.Cond.fieldLink "com/example/vidura/vidura/WritingForm" (7 : Nat) "com/example/vidura/vidura/WritingForm" "page" "Ljava/lang/String;") : Jvm.Cond).before a0 Z = true := hw _ (List.mem_of_getElem? (i := 177) rfl)
theorem own_w178 {Z : State} {a0 : Array Value} (hw : ∀ d ∈ tables_1, d.before a0 Z = true) : ((Jvm.Cond.laysFinal "com/example/vidura/vidura/WritingForm" "com/example/vidura/vidura/WritingForm" "page" "Ljava/lang/String;") : Jvm.Cond).before a0 Z = true := hw _ (List.mem_of_getElem? (i := 178) rfl)
theorem own_w55 {Z : State} {a0 : Array Value} (hw : ∀ d ∈ tables_1, d.before a0 Z = true) : ((Jvm.Cond.instantiable "com/example/vidura/vidura/WritingForm" (4 : Nat)) : Jvm.Cond).before a0 Z = true := hw _ (List.mem_of_getElem? (i := 55) rfl)
theorem own_w180 {Z : State} {a0 : Array Value} (hw : ∀ d ∈ tables_1, d.before a0 Z = true) : ((Jvm.Cond.laysFinal "com/example/vidura/vidura/WritingForm" "com/example/vidura/vidura/WritingForm" "action" "Ljava/lang/String;") : Jvm.Cond).before a0 Z = true := hw _ (List.mem_of_getElem? (i := 180) rfl)
theorem own_w182 {Z : State} {a0 : Array Value} (hw : ∀ d ∈ tables_1, d.before a0 Z = true) : ((Jvm.Cond.laysFinal "com/example/vidura/vidura/WritingForm" "com/example/vidura/vidura/WritingForm" "fixedRecipient" "Z") : Jvm.Cond).before a0 Z = true := hw _ (List.mem_of_getElem? (i := 182) rfl)
theorem own_w184 {Z : State} {a0 : Array Value} (hw : ∀ d ∈ tables_1, d.before a0 Z = true) : ((Jvm.Cond.laysFinal "com/example/vidura/vidura/WritingForm" "com/example/vidura/vidura/WritingForm" "from" "Lcom/example/vidura/vidura/Mailbox;") : Jvm.Cond).before a0 Z = true := hw _ (List.mem_of_getElem? (i := 184) rfl)
theorem own_d23_9 : decode prog_15_method_1_code 9 = .ok (.aload_n 0, 1) := by decide +kernel
theorem own_d23_10 : decode prog_15_method_1_code 10 = .ok (.aload_n 2, 1) := by decide +kernel
theorem own_d23_11 : decode prog_15_method_1_code 11 = .ok (.putfield 13, 3) := by decide +kernel
theorem own_w179 {Z : State} {a0 : Array Value} (hw : ∀ d ∈ tables_1, d.before a0 Z = true) : ((Jvm.Cond.fieldLink "com/example/vidura/vidura/WritingForm" (13 : Nat) "com/example/vidura/vidura/WritingForm" "action" "Ljava/lang/String;") : Jvm.Cond).before a0 Z = true := hw _ (List.mem_of_getElem? (i := 179) rfl)
theorem own_d23_14 : decode prog_15_method_1_code 14 = .ok (.aload_n 0, 1) := by decide +kernel
theorem own_d23_15 : decode prog_15_method_1_code 15 = .ok (.iload_n 3, 1) := by decide +kernel
theorem own_d23_16 : decode prog_15_method_1_code 16 = .ok (.putfield 16, 3) := by decide +kernel
theorem own_w181 {Z : State} {a0 : Array Value} (hw : ∀ d ∈ tables_1, d.before a0 Z = true) : ((Jvm.Cond.fieldLink "com/example/vidura/vidura/WritingForm" (16 : Nat) "com/example/vidura/vidura/WritingForm" "fixedRecipient" "Z") : Jvm.Cond).before a0 Z = true := hw _ (List.mem_of_getElem? (i := 181) rfl)
theorem own_d23_19 : decode prog_15_method_1_code 19 = .ok (.aload_n 0, 1) := by decide +kernel
theorem own_d23_20 : decode prog_15_method_1_code 20 = .ok (.aload 4, 2) := by decide +kernel
theorem own_d23_22 : decode prog_15_method_1_code 22 = .ok (.putfield 20, 3) := by decide +kernel
theorem own_w183 {Z : State} {a0 : Array Value} (hw : ∀ d ∈ tables_1, d.before a0 Z = true) : ((Jvm.Cond.fieldLink "com/example/vidura/vidura/WritingForm" (20 : Nat) "com/example/vidura/vidura/WritingForm" "from" "Lcom/example/vidura/vidura/Mailbox;") : Jvm.Cond).before a0 Z = true := hw _ (List.mem_of_getElem? (i := 183) rfl)
theorem own_d23_25 : decode prog_15_method_1_code 25 = .ok (.return_, 1) := by decide +kernel
theorem own_ef_wfInit (m : MethodId) (a1 : Addr) (r1 : Addr) (r2 : Addr) (r3 : Addr) : entryFrame m #[(.ref a1), (.ref r1), (.ref r2), (.int (0 : Int32)), (.ref r3)] 5 = mkF m 0 #[.val (.ref a1), .val (.ref r1), .val (.ref r2), .val (.int (0 : Int32)), .val (.ref r3)] [] := by first | (simp [entryFrame, mkF, argsToLocals, Value.category]; done) | rfl
theorem own_pf23 : plainFor (⟨"com/example/vidura/vidura/WritingForm", "<init>", "(Ljava/lang/String;Ljava/lang/String;ZLcom/example/vidura/vidura/Mailbox;)V"⟩ : MethodName) = true := by first | exact plainFor_of_name (by first | (simp [plainName, overriddenIn]; done) | decide +kernel) | decide +kernel
def own_Q_wfInit (Z : State) (h0 : Heap) (a1 : Addr) (r1 : Addr) (r2 : Addr) (r3 : Addr) (u1 : Value) (u2 : Value) (u3 : Value) (u4 : Value) (v : Option Value) (h : Heap) (ms : List Addr) : Prop := (Keep h0 h [a1]) ∧ (ms = []) ∧ (v = none) ∧ (Exa Z h a1 "com/example/vidura/vidura/WritingForm") ∧ (Fld Z h a1 "com/example/vidura/vidura/WritingForm" "page" "Ljava/lang/String;" (.ref r1)) ∧ (Fld Z h a1 "com/example/vidura/vidura/WritingForm" "action" "Ljava/lang/String;" (.ref r2)) ∧ (Fld Z h a1 "com/example/vidura/vidura/WritingForm" "fixedRecipient" "Z" (.int 0)) ∧ (Fld Z h a1 "com/example/vidura/vidura/WritingForm" "from" "Lcom/example/vidura/vidura/Mailbox;" (.ref r3))
set_option maxRecDepth 65536 in
set_option maxHeartbeats 40000000 in
theorem own_ct_wfInit (l : Launch) (Z : State) (a0 : Array Value) (hw : ∀ d ∈ tables_1, d.before a0 Z = true) (EL : List (String × Nat)) (hE : EW Z a0 EL) (n0 : Nat) (ws : List Jvm.Cond) (h0 : Heap) (O : Old Z n0 h0) (a1 : Addr) (r1 : Addr) (r2 : Addr) (r3 : Addr) (u1 : Value) (u2 : Value) (u3 : Value) (u4 : Value) (E_a1 : Exa Z h0 a1 "com/example/vidura/vidura/WritingForm") (F_a1_page : Fld Z h0 a1 "com/example/vidura/vidura/WritingForm" "page" "Ljava/lang/String;" u1) (F_a1_action : Fld Z h0 a1 "com/example/vidura/vidura/WritingForm" "action" "Ljava/lang/String;" u2) (F_a1_fixedRecipient : Fld Z h0 a1 "com/example/vidura/vidura/WritingForm" "fixedRecipient" "Z" u3) (F_a1_from : Fld Z h0 a1 "com/example/vidura/vidura/WritingForm" "from" "Lcom/example/vidura/vidura/Mailbox;" u4) :
    own_Ct l Z EL n0 (⟨"com/example/vidura/vidura/WritingForm", "<init>", "(Ljava/lang/String;Ljava/lang/String;ZLcom/example/vidura/vidura/Mailbox;)V"⟩ : MethodName) prog_15_method_1_code 5 none ws ({ frames := 2, cells := 0, slots := 0, locals := 24 } : Room) #[(.ref a1), (.ref r1), (.ref r2), (.int (0 : Int32)), (.ref r3)] h0 [a1] (own_Q_wfInit Z h0 a1 r1 r2 r3 u1 u2 u3 u4) := by
 refine own_enter (a0 := a0) own_pf23 hE O fun p e s m below meth c T0 w0 => ?_
 rw [own_ef_wfInit m a1 r1 r2 r3]
 have K : Keep h0 h0 [a1] := Keep.refl _ _
 refine own_aloadN (pc' := 1) w0 own_d23_0 rfl rfl rfl ?_
 refine own_callI (pc' := 4) w0 rfl (own_w176 hw) (own_w41 hw) (own_w43 hw) (own_w44 hw) (by decide) (own_ct_recInit l Z a0 hw EL hE n0 [] h0 (own_old w0) a1 ) all0 (argsL := []) (rest := []) rfl rfl own_pd14 rfl own_d23_1 rfl (by decide) (W := 0) rfl (by decide) (by decide) (by decide) fun T1 h3 v4 ms5 w2 q6 => ?_
 obtain ⟨rfl, rfl, rfl⟩ := q6
 show own_Go Z EL n0 p e below s _ _ _ (T1.setTop (mkF m 4 _ []))
 refine own_aloadN (pc' := 5) w2 own_d23_4 rfl rfl rfl ?_
 refine own_aloadN (pc' := 6) w2 own_d23_5 rfl rfl rfl ?_
 refine own_putF (pc' := 9) w2 (host := "") (Or.inl (own_w177 hw)) Via.refl (by simp) F_a1_page E_a1 (Or.inr ⟨(own_w178 hw), rfl, rfl⟩) (own_w55 hw) (ty := (.object "java/lang/String")) (by decide) rfl rfl own_d23_6 rfl fun T7 h9 w8 W10 => ?_
 replace F_a1_page := F_a1_page.same W10
 replace E_a1 := E_a1.wr W10
 replace F_a1_action := F_a1_action.other W10 (Or.inr (slot_ne (Or.inr (own_w180 hw)) (Or.inr (own_w178 hw)) (by decide) (t := (.object "java/lang/String")) (t' := (.object "java/lang/String")) (by decide) (by decide)))
 replace F_a1_fixedRecipient := F_a1_fixedRecipient.other W10 (Or.inr (slot_ne (Or.inr (own_w182 hw)) (Or.inr (own_w178 hw)) (by decide) (t := .boolean) (t' := (.object "java/lang/String")) (by decide) (by decide)))
 replace F_a1_from := F_a1_from.other W10 (Or.inr (slot_ne (Or.inr (own_w184 hw)) (Or.inr (own_w178 hw)) (by decide) (t := (.object "com/example/vidura/vidura/Mailbox")) (t' := (.object "java/lang/String")) (by decide) (by decide)))
 replace K := K.wr W10 (Or.inl (by simp))
 refine own_aloadN (pc' := 10) w8 own_d23_9 rfl rfl rfl ?_
 refine own_aloadN (pc' := 11) w8 own_d23_10 rfl rfl rfl ?_
 refine own_putF (pc' := 14) w8 (host := "") (Or.inl (own_w179 hw)) Via.refl (by simp) F_a1_action E_a1 (Or.inr ⟨(own_w180 hw), rfl, rfl⟩) (own_w55 hw) (ty := (.object "java/lang/String")) (by decide) rfl rfl own_d23_11 rfl fun T11 h13 w12 W14 => ?_
 replace F_a1_action := F_a1_action.same W14
 replace E_a1 := E_a1.wr W14
 replace F_a1_page := F_a1_page.other W14 (Or.inr (slot_ne (Or.inr (own_w178 hw)) (Or.inr (own_w180 hw)) (by decide) (t := (.object "java/lang/String")) (t' := (.object "java/lang/String")) (by decide) (by decide)))
 replace F_a1_fixedRecipient := F_a1_fixedRecipient.other W14 (Or.inr (slot_ne (Or.inr (own_w182 hw)) (Or.inr (own_w180 hw)) (by decide) (t := .boolean) (t' := (.object "java/lang/String")) (by decide) (by decide)))
 replace F_a1_from := F_a1_from.other W14 (Or.inr (slot_ne (Or.inr (own_w184 hw)) (Or.inr (own_w180 hw)) (by decide) (t := (.object "com/example/vidura/vidura/Mailbox")) (t' := (.object "java/lang/String")) (by decide) (by decide)))
 replace K := K.wr W14 (Or.inl (by simp))
 refine own_aloadN (pc' := 15) w12 own_d23_14 rfl rfl rfl ?_
 refine own_iloadN (pc' := 16) w12 own_d23_15 rfl rfl ?_
 refine own_putF (pc' := 19) w12 (host := "") (Or.inl (own_w181 hw)) Via.refl (by simp) F_a1_fixedRecipient E_a1 (Or.inr ⟨(own_w182 hw), rfl, rfl⟩) (own_w55 hw) (ty := .boolean) (by decide) rfl rfl own_d23_16 rfl fun T15 h17 w16 W18 => ?_
 replace F_a1_fixedRecipient := F_a1_fixedRecipient.same W18
 replace E_a1 := E_a1.wr W18
 replace F_a1_page := F_a1_page.other W18 (Or.inr (slot_ne (Or.inr (own_w178 hw)) (Or.inr (own_w182 hw)) (by decide) (t := (.object "java/lang/String")) (t' := .boolean) (by decide) (by decide)))
 replace F_a1_action := F_a1_action.other W18 (Or.inr (slot_ne (Or.inr (own_w180 hw)) (Or.inr (own_w182 hw)) (by decide) (t := (.object "java/lang/String")) (t' := .boolean) (by decide) (by decide)))
 replace F_a1_from := F_a1_from.other W18 (Or.inr (slot_ne (Or.inr (own_w184 hw)) (Or.inr (own_w182 hw)) (by decide) (t := (.object "com/example/vidura/vidura/Mailbox")) (t' := .boolean) (by decide) (by decide)))
 replace K := K.wr W18 (Or.inl (by simp))
 refine own_aloadN (pc' := 20) w16 own_d23_19 rfl rfl rfl ?_
 refine own_aload (pc' := 22) w16 own_d23_20 rfl rfl rfl ?_
 refine own_putF (pc' := 25) w16 (host := "") (Or.inl (own_w183 hw)) Via.refl (by simp) F_a1_from E_a1 (Or.inr ⟨(own_w184 hw), rfl, rfl⟩) (own_w55 hw) (ty := (.object "com/example/vidura/vidura/Mailbox")) (by decide) rfl rfl own_d23_22 rfl fun T19 h21 w20 W22 => ?_
 replace F_a1_from := F_a1_from.same W22
 replace E_a1 := E_a1.wr W22
 replace F_a1_page := F_a1_page.other W22 (Or.inr (slot_ne (Or.inr (own_w178 hw)) (Or.inr (own_w184 hw)) (by decide) (t := (.object "java/lang/String")) (t' := (.object "com/example/vidura/vidura/Mailbox")) (by decide) (by decide)))
 replace F_a1_action := F_a1_action.other W22 (Or.inr (slot_ne (Or.inr (own_w180 hw)) (Or.inr (own_w184 hw)) (by decide) (t := (.object "java/lang/String")) (t' := (.object "com/example/vidura/vidura/Mailbox")) (by decide) (by decide)))
 replace F_a1_fixedRecipient := F_a1_fixedRecipient.other W22 (Or.inr (slot_ne (Or.inr (own_w182 hw)) (Or.inr (own_w184 hw)) (by decide) (t := .boolean) (t' := (.object "com/example/vidura/vidura/Mailbox")) (by decide) (by decide)))
 replace K := K.wr W22 (Or.inl (by simp))
 exact own_ret0 w20 rfl own_d23_25 (by decide) (by decide) (ms' := []) all0 ⟨K, rfl, rfl, E_a1, F_a1_page, F_a1_action, F_a1_fixedRecipient, F_a1_from⟩
theorem own_d24_0 : decode prog_15_method_2_code 0 = .ok (.new 8, 3) := by decide +kernel
theorem own_w54 {Z : State} {a0 : Array Value} (hw : ∀ d ∈ tables_1, d.before a0 Z = true) : ((Jvm.Cond.classLink "com/example/vidura/vidura/WritingForm" (8 : Nat) "com/example/vidura/vidura/WritingForm") : Jvm.Cond).before a0 Z = true := hw _ (List.mem_of_getElem? (i := 54) rfl)
theorem own_w52 {Z : State} {a0 : Array Value} (hw : ∀ d ∈ tables_1, d.before a0 Z = true) : ((Jvm.Cond.initialized "com/example/vidura/vidura/WritingForm") : Jvm.Cond).before a0 Z = true := hw _ (List.mem_of_getElem? (i := 52) rfl)
theorem own_d24_3 : decode prog_15_method_2_code 3 = .ok (.dup, 1) := by decide +kernel
theorem own_d24_4 : decode prog_15_method_2_code 4 = .ok (.ldc 24, 2) := by decide +kernel
theorem own_w56 {Z : State} {a0 : Array Value} (hw : ∀ d ∈ tables_1, d.before a0 Z = true) : ((Jvm.Cond.stringLink "com/example/vidura/vidura/WritingForm" (24 : Nat) "Write") : Jvm.Cond).before a0 Z = true := hw _ (List.mem_of_getElem? (i := 56) rfl)
theorem own_d24_6 : decode prog_15_method_2_code 6 = .ok (.aload_n 0, 1) := by decide +kernel
theorem own_d24_7 : decode prog_15_method_2_code 7 = .ok (.ldc 28, 2) := by decide +kernel
theorem own_w57 {Z : State} {a0 : Array Value} (hw : ∀ d ∈ tables_1, d.before a0 Z = true) : ((Jvm.Cond.stringLink "com/example/vidura/vidura/WritingForm" (28 : Nat) "/write") : Jvm.Cond).before a0 Z = true := hw _ (List.mem_of_getElem? (i := 57) rfl)
theorem own_d24_9 : decode prog_15_method_2_code 9 = .ok (.invokevirtual 30, 3) := by decide +kernel
theorem own_w62 {Z : State} {a0 : Array Value} (hw : ∀ d ∈ tables_1, d.before a0 Z = true) : ((Jvm.Cond.code ({ cls := "com/example/vidura/vidura/Mailbox", name := "path", desc := "(Ljava/lang/String;)Ljava/lang/String;" } : Jvm.MethodName) prog_9_method_5_code (2 : Nat) (Option.some (Jvm.ClassFile.FieldType.object "java/lang/String"))) : Jvm.Cond).before a0 Z = true := hw _ (List.mem_of_getElem? (i := 62) rfl)
theorem own_w36 {Z : State} {a0 : Array Value} (hw : ∀ d ∈ tables_1, d.before a0 Z = true) : ((Jvm.Cond.initialized "com/example/vidura/vidura/Mailbox") : Jvm.Cond).before a0 Z = true := hw _ (List.mem_of_getElem? (i := 36) rfl)
theorem own_pd17 : parseMethodDescriptor "(Ljava/lang/String;)Ljava/lang/String;" = some ⟨[(.object "java/lang/String")], some (.object "java/lang/String")⟩ := by decide +kernel
theorem own_w58 {Z : State} {a0 : Array Value} (hw : ∀ d ∈ tables_1, d.before a0 Z = true) : ((Jvm.Cond.methodLink "com/example/vidura/vidura/WritingForm" (30 : Nat) ({ cls := "com/example/vidura/vidura/Mailbox", name := "path", desc := "(Ljava/lang/String;)Ljava/lang/String;" } : Jvm.MethodName)) : Jvm.Cond).before a0 Z = true := hw _ (List.mem_of_getElem? (i := 58) rfl)
theorem own_w59 {Z : State} {a0 : Array Value} (hw : ∀ d ∈ tables_1, d.before a0 Z = true) : ((Jvm.Cond.declares ({ cls := "com/example/vidura/vidura/Mailbox", name := "path", desc := "(Ljava/lang/String;)Ljava/lang/String;" } : Jvm.MethodName)) : Jvm.Cond).before a0 Z = true := hw _ (List.mem_of_getElem? (i := 59) rfl)
theorem own_w61 {Z : State} {a0 : Array Value} (hw : ∀ d ∈ tables_1, d.before a0 Z = true) : ((Jvm.Cond.selects "com/example/vidura/vidura/Mailbox" ({ cls := "com/example/vidura/vidura/Mailbox", name := "path", desc := "(Ljava/lang/String;)Ljava/lang/String;" } : Jvm.MethodName) ({ cls := "com/example/vidura/vidura/Mailbox", name := "path", desc := "(Ljava/lang/String;)Ljava/lang/String;" } : Jvm.MethodName)) : Jvm.Cond).before a0 Z = true := hw _ (List.mem_of_getElem? (i := 61) rfl)
theorem own_w60 {Z : State} {a0 : Array Value} (hw : ∀ d ∈ tables_1, d.before a0 Z = true) : ((Jvm.Cond.instanceMethod ({ cls := "com/example/vidura/vidura/Mailbox", name := "path", desc := "(Ljava/lang/String;)Ljava/lang/String;" } : Jvm.MethodName)) : Jvm.Cond).before a0 Z = true := hw _ (List.mem_of_getElem? (i := 60) rfl)
theorem own_d24_12 : decode prog_15_method_2_code 12 = .ok (.iconst 0, 1) := by decide +kernel
theorem own_d24_13 : decode prog_15_method_2_code 13 = .ok (.aload_n 0, 1) := by decide +kernel
theorem own_d24_14 : decode prog_15_method_2_code 14 = .ok (.invokespecial 34, 3) := by decide +kernel
theorem own_w175 {Z : State} {a0 : Array Value} (hw : ∀ d ∈ tables_1, d.before a0 Z = true) : ((Jvm.Cond.code ({ cls := "com/example/vidura/vidura/WritingForm", name := "<init>", desc := "(Ljava/lang/String;Ljava/lang/String;ZLcom/example/vidura/vidura/Mailbox;)V" } : Jvm.MethodName) prog_15_method_1_code (5 : Nat) (Option.none : Option Jvm.ClassFile.FieldType)) : Jvm.Cond).before a0 Z = true := hw _ (List.mem_of_getElem? (i := 175) rfl)
theorem own_pd18 : parseMethodDescriptor "(Ljava/lang/String;Ljava/lang/String;ZLcom/example/vidura/vidura/Mailbox;)V" = some ⟨[(.object "java/lang/String"), (.object "java/lang/String"), .boolean, (.object "com/example/vidura/vidura/Mailbox")], none⟩ := by decide +kernel
theorem own_w173 {Z : State} {a0 : Array Value} (hw : ∀ d ∈ tables_1, d.before a0 Z = true) : ((Jvm.Cond.methodLink "com/example/vidura/vidura/WritingForm" (34 : Nat) ({ cls := "com/example/vidura/vidura/WritingForm", name := "<init>", desc := "(Ljava/lang/String;Ljava/lang/String;ZLcom/example/vidura/vidura/Mailbox;)V" } : Jvm.MethodName)) : Jvm.Cond).before a0 Z = true := hw _ (List.mem_of_getElem? (i := 173) rfl)
theorem own_w174 {Z : State} {a0 : Array Value} (hw : ∀ d ∈ tables_1, d.before a0 Z = true) : ((Jvm.Cond.instanceMethod ({ cls := "com/example/vidura/vidura/WritingForm", name := "<init>", desc := "(Ljava/lang/String;Ljava/lang/String;ZLcom/example/vidura/vidura/Mailbox;)V" } : Jvm.MethodName)) : Jvm.Cond).before a0 Z = true := hw _ (List.mem_of_getElem? (i := 174) rfl)
theorem own_d24_17 : decode prog_15_method_2_code 17 = .ok (.areturn, 1) := by decide +kernel
theorem own_ef_write (m : MethodId) (mb : Addr) : entryFrame m #[(.ref mb)] 1 = mkF m 0 #[.val (.ref mb)] [] := by first | (simp [entryFrame, mkF, argsToLocals, Value.category]; done) | rfl
theorem own_pf24 : plainFor (⟨"com/example/vidura/vidura/WritingForm", "write", "(Lcom/example/vidura/vidura/Mailbox;)Lcom/example/vidura/vidura/WritingForm;"⟩ : MethodName) = true := by first | exact plainFor_of_name (by first | (simp [plainName, overriddenIn]; done) | decide +kernel) | decide +kernel
def own_Q_write (Z : State) (h0 : Heap) (mb : Addr) (hm : Addr) (t1 : Addr) (kb1 : ClassId) (N1 : Int32) (vs1 : List Value) (cs1 : List Int32) (eI : Int32) (n1 : Nat) (nn : Nat) (z5 : Int32) (v : Option Value) (h : Heap) (ms : List Addr) : Prop := (Keep h0 h []) ∧ (∃ (r : Addr) (pg : Addr) (tp : Addr) (kp : ClassId) (q : Addr) (tq : Addr) (kA : ClassId), (ms = []) ∧ (v = some (.ref r)) ∧ (Exa Z h r "com/example/vidura/vidura/WritingForm") ∧ (Fld Z h r "com/example/vidura/vidura/WritingForm" "page" "Ljava/lang/String;" (.ref pg)) ∧ (Fld Z h r "com/example/vidura/vidura/WritingForm" "action" "Ljava/lang/String;" (.ref q)) ∧ (Fld Z h r "com/example/vidura/vidura/WritingForm" "fixedRecipient" "Z" (.int 0)) ∧ (Fld Z h r "com/example/vidura/vidura/WritingForm" "from" "Lcom/example/vidura/vidura/Mailbox;" (.ref mb)) ∧ (Exa Z h pg "java/lang/String") ∧ (Fld Z h pg "java/lang/String" "coder" "B" (.int 0)) ∧ (Fld Z h pg "java/lang/String" "value" "[B" (.ref tp)) ∧ (Arv Z h tp kp .byte (5 : Int32) [(.int 87), (.int 114), (.int 105), (.int 116), (.int 101)] (.int 0)) ∧ (Exa Z h q "java/lang/String") ∧ (Fld Z h q "java/lang/String" "coder" "B" (.int 0)) ∧ (Fld Z h q "java/lang/String" "value" "[B" (.ref tq)) ∧ (Arv Z h tq kA .byte eI (own_sl (own_put (own_put (List.replicate 16 (.int 0)) 0 vs1) n1 [(.int 47), (.int 119), (.int 114), (.int 105), (.int 116), (.int 101)]) 0 nn) (.int 0)) ∧ (h0.size ≤ r))
set_option maxRecDepth 65536 in
set_option maxHeartbeats 40000000 in
theorem own_ct_write (l : Launch) (Z : State) (a0 : Array Value) (hw : ∀ d ∈ tables_1, d.before a0 Z = true) (EL : List (String × Nat)) (hE : EW Z a0 EL) (n0 : Nat) (ws : List Jvm.Cond) (h0 : Heap) (O : Old Z n0 h0) (mb : Addr) (hm : Addr) (t1 : Addr) (kb1 : ClassId) (N1 : Int32) (vs1 : List Value) (cs1 : List Int32) (eI : Int32) (n1 : Nat) (nn : Nat) (z5 : Int32) (E_mb : Exa Z h0 mb "com/example/vidura/vidura/Mailbox") (F_mb_home : Fld Z h0 mb "com/example/vidura/vidura/Mailbox" "home" "Ljava/lang/String;" (.ref hm)) (E_hm : Exa Z h0 hm "java/lang/String") (F_hm_coder : Fld Z h0 hm "java/lang/String" "coder" "B" (.int 0)) (F_hm_value : Fld Z h0 hm "java/lang/String" "value" "[B" (.ref t1)) (A_t1 : Arv Z h0 t1 kb1 .byte N1 vs1 (.int 0)) (hcd1 : StrChars.Road.CodA cs1 0 N1 vs1) (hbd_1 : ∀ c ∈ cs1, ¬ c < 0 ∧ ¬ (65535 : Int32) < c) (l2_1 : cs1.length ≤ 4000) (hN1 : Int32.ofNat cs1.length = N1) (S_COMPACT_STRINGS : Sta Z Z.heap "java/lang/String" "COMPACT_STRINGS" "Z" (.int z5)) (P5 : ¬ z5 = 0) (hc2 : N1 + (6 : Int32) = eI) (hl1 : ¬ 0 < (N1 - (16 : Int32))) (hl2 : ¬ 0 < (eI - (16 : Int32))) (Pu1 : own_Pu 0 N1 16 0 n1 (List.replicate 16 (.int 0)) vs1) (Pu2 : own_Pu N1 (6 : Int32) 16 n1 6 (own_put (List.replicate 16 (.int 0)) 0 vs1) [(.int 47), (.int 119), (.int 114), (.int 105), (.int 116), (.int 101)]) (Rg : own_Rg 0 eI eI 16 0 nn) (hcap : nn ≤ 16) (hnw : ¬ ((0 : Int32) = 0 ∧ eI = (16 : Int32))) (hE24 : ("com/example/vidura/vidura/WritingForm", 24) ∈ EL) (hE28 : ("com/example/vidura/vidura/WritingForm", 28) ∈ EL) :
    own_Ct l Z EL n0 (⟨"com/example/vidura/vidura/WritingForm", "write", "(Lcom/example/vidura/vidura/Mailbox;)Lcom/example/vidura/vidura/WritingForm;"⟩ : MethodName) prog_15_method_2_code 1 (some (.object "com/example/vidura/vidura/WritingForm")) ws ({ frames := 7, cells := 9, slots := 96, locals := 107 } : Room) #[(.ref mb)] h0 [] (own_Q_write Z h0 mb hm t1 kb1 N1 vs1 cs1 eI n1 nn z5) := by
 refine own_enter (a0 := a0) own_pf24 hE O fun p e s m below meth c T0 w0 => ?_
 rw [own_ef_write m mb]
 have K : Keep h0 h0 [] := Keep.refl _ _
 refine own_newO (pc' := 3) w0 (own_w54 hw) (own_w55 hw) (own_w52 hw) own_d24_0 rfl (by decide) (by decide) fun T1 h3 a5 g_a5 w2 E4 ⟨E_a5, D6⟩ => ?_
 have ne_hm_a5 : hm ≠ a5 := Nat.ne_of_lt (Nat.lt_of_lt_of_le E_hm.lt (Nat.le_of_eq g_a5))
 have ne_mb_a5 : mb ≠ a5 := Nat.ne_of_lt (Nat.lt_of_lt_of_le E_mb.lt (Nat.le_of_eq g_a5))
 have ne_t1_a5 : t1 ≠ a5 := Nat.ne_of_lt (Nat.lt_of_lt_of_le A_t1.lt (Nat.le_of_eq g_a5))
 have nw_a5 : h0.size ≤ a5 := Nat.le_trans K.1 (Nat.le_of_eq g_a5)
 replace E_mb := E_mb.ext E4
 replace F_mb_home := F_mb_home.ext E4
 replace E_hm := E_hm.ext E4
 replace F_hm_coder := F_hm_coder.ext E4
 replace F_hm_value := F_hm_value.ext E4
 replace A_t1 := A_t1.ext E4
 replace K := K.ext E4
 have F_a5_page : Fld Z h3 a5 "com/example/vidura/vidura/WritingForm" "page" "Ljava/lang/String;" .null := D6 (Or.inr (own_w178 hw)) (ty := (.object "java/lang/String")) (by decide)
 have F_a5_action : Fld Z h3 a5 "com/example/vidura/vidura/WritingForm" "action" "Ljava/lang/String;" .null := D6 (Or.inr (own_w180 hw)) (ty := (.object "java/lang/String")) (by decide)
 have F_a5_fixedRecipient : Fld Z h3 a5 "com/example/vidura/vidura/WritingForm" "fixedRecipient" "Z" (.int 0) := D6 (Or.inr (own_w182 hw)) (ty := .boolean) (by decide)
 have F_a5_from : Fld Z h3 a5 "com/example/vidura/vidura/WritingForm" "from" "Lcom/example/vidura/vidura/Mailbox;" .null := D6 (Or.inr (own_w184 hw)) (ty := (.object "com/example/vidura/vidura/Mailbox")) (by decide)
 refine own_dup (pc' := 4) w2 own_d24_3 rfl rfl ?_
 refine own_ldcS (pc' := 6) w2 (vs := [(.int 87), (.int 114), (.int 105), (.int 116), (.int 101)]) (z := (5 : Int32)) (nn := 20) (own_w56 hw) (own_hst hw) hE24 ⟨by decide +kernel, by rfl⟩ (by decide) rfl own_d24_4 rfl (by decide +kernel) (by decide) (by decide) (by decide) hE fun T7 h9 a11 t12 kb13 w8 E10 ⟨E_a11, F_a11_coder, F_a11_value, A_t12, ne14⟩ => ?_
 replace E_mb := E_mb.ext E10
 replace F_mb_home := F_mb_home.ext E10
 replace E_hm := E_hm.ext E10
 replace F_hm_coder := F_hm_coder.ext E10
 replace F_hm_value := F_hm_value.ext E10
 replace A_t1 := A_t1.ext E10
 replace E_a5 := E_a5.ext E10
 replace F_a5_page := F_a5_page.ext E10
 replace F_a5_action := F_a5_action.ext E10
 replace F_a5_fixedRecipient := F_a5_fixedRecipient.ext E10
 replace F_a5_from := F_a5_from.ext E10
 replace K := K.ext E10
 have ne_a5_a11 : a5 ≠ a11 := (ne14 a5 (by simp)).1
 have ne_a5_t12 : a5 ≠ t12 := (ne14 a5 (by simp)).2
 refine own_aloadN (pc' := 7) w8 own_d24_6 rfl rfl rfl ?_
 refine own_ldcS (pc' := 9) w8 (vs := [(.int 47), (.int 119), (.int 114), (.int 105), (.int 116), (.int 101)]) (z := (6 : Int32)) (nn := 24) (own_w57 hw) (own_hst hw) hE28 ⟨by decide +kernel, by rfl⟩ (by decide) rfl own_d24_7 rfl (by decide +kernel) (by decide) (by decide) (by decide) hE fun T15 h17 a19 t20 kb21 w16 E18 ⟨E_a19, F_a19_coder, F_a19_value, A_t20, ne22⟩ => ?_
 replace E_mb := E_mb.ext E18
 replace F_mb_home := F_mb_home.ext E18
 replace E_hm := E_hm.ext E18
 replace F_hm_coder := F_hm_coder.ext E18
 replace F_hm_value := F_hm_value.ext E18
 replace A_t1 := A_t1.ext E18
 replace E_a5 := E_a5.ext E18
 replace F_a5_page := F_a5_page.ext E18
 replace F_a5_action := F_a5_action.ext E18
 replace F_a5_fixedRecipient := F_a5_fixedRecipient.ext E18
 replace F_a5_from := F_a5_from.ext E18
 replace E_a11 := E_a11.ext E18
 replace F_a11_coder := F_a11_coder.ext E18
 replace F_a11_value := F_a11_value.ext E18
 replace A_t12 := A_t12.ext E18
 replace K := K.ext E18
 have ne_a5_a19 : a5 ≠ a19 := (ne22 a5 (by simp)).1
 have ne_a5_t20 : a5 ≠ t20 := (ne22 a5 (by simp)).2
 refine own_callV (pc' := 12) w16 (own_w58 hw) (own_w59 hw) (fun s' hZ' => notFace_of_selects (args := #[]) (mvT hZ' (own_w61 hw))) (own_w61 hw) (own_w60 hw) (own_w36 hw) (own_w62 hw) (by decide) E_mb (own_ct_path l Z a0 hw EL hE n0 [] h17 (own_old w16) mb a19 hm t1 kb1 N1 vs1 cs1 t20 kb21 (6 : Int32) [(.int 47), (.int 119), (.int 114), (.int 105), (.int 116), (.int 101)] ([47, 119, 114, 105, 116, 101] : List Int32) eI n1 6 nn z5 F_mb_home E_hm F_hm_coder F_hm_value A_t1 E_a19 F_a19_coder F_a19_value A_t20 (hcd1) (hbd_1) (l2_1) (hN1) (own_cod (cs := ([47, 119, 114, 105, 116, 101] : List Int32)) (n := 6) rfl (by decide : ∀ c ∈ ([47, 119, 114, 105, 116, 101] : List Int32), ¬ c < 0 ∧ ¬ (255 : Int32) < c)) (own_up ([47, 119, 114, 105, 116, 101] : List Int32) (by decide : ∀ c ∈ ([47, 119, 114, 105, 116, 101] : List Int32), ¬ c < 0 ∧ ¬ (255 : Int32) < c)) (by decide) (rfl) S_COMPACT_STRINGS (P5) (hc2) (hl1) (hl2) (Pu1) (Pu2) (Rg) (hcap) (hnw)) all0 (argsL := [(.ref a19)]) (rest := [(.ref a11), (.ref a5), (.ref a5)]) rfl rfl own_pd17 rfl own_d24_9 rfl (by decide) (W := 3) rfl (by decide) (by decide) (by decide) fun T23 h25 v26 ms27 w24 q28 => ?_
 obtain ⟨K32, q_29, r_30, kA_31, rfl, rfl, nw_E_q_29, nw_F_q_29_coder, nw_F_q_29_value, nw_A_r_30, p9_path_0, p9_path_1⟩ := q28
 have ne_a11_q_29 : a11 ≠ q_29 := Nat.ne_of_lt (Nat.lt_of_lt_of_le E_a11.lt p9_path_0)
 have ne_a19_q_29 : a19 ≠ q_29 := Nat.ne_of_lt (Nat.lt_of_lt_of_le E_a19.lt p9_path_0)
 have ne_a5_q_29 : a5 ≠ q_29 := Nat.ne_of_lt (Nat.lt_of_lt_of_le E_a5.lt p9_path_0)
 have ne_hm_q_29 : hm ≠ q_29 := Nat.ne_of_lt (Nat.lt_of_lt_of_le E_hm.lt p9_path_0)
 have ne_mb_q_29 : mb ≠ q_29 := Nat.ne_of_lt (Nat.lt_of_lt_of_le E_mb.lt p9_path_0)
 have ne_t1_q_29 : t1 ≠ q_29 := Nat.ne_of_lt (Nat.lt_of_lt_of_le A_t1.lt p9_path_0)
 have ne_t12_q_29 : t12 ≠ q_29 := Nat.ne_of_lt (Nat.lt_of_lt_of_le A_t12.lt p9_path_0)
 have ne_t20_q_29 : t20 ≠ q_29 := Nat.ne_of_lt (Nat.lt_of_lt_of_le A_t20.lt p9_path_0)
 have nw_q_29 : h0.size ≤ q_29 := Nat.le_trans K.1 p9_path_0
 have ne_a11_r_30 : a11 ≠ r_30 := Nat.ne_of_lt (Nat.lt_of_lt_of_le E_a11.lt p9_path_1)
 have ne_a19_r_30 : a19 ≠ r_30 := Nat.ne_of_lt (Nat.lt_of_lt_of_le E_a19.lt p9_path_1)
 have ne_a5_r_30 : a5 ≠ r_30 := Nat.ne_of_lt (Nat.lt_of_lt_of_le E_a5.lt p9_path_1)
 have ne_hm_r_30 : hm ≠ r_30 := Nat.ne_of_lt (Nat.lt_of_lt_of_le E_hm.lt p9_path_1)
 have ne_mb_r_30 : mb ≠ r_30 := Nat.ne_of_lt (Nat.lt_of_lt_of_le E_mb.lt p9_path_1)
 have ne_t1_r_30 : t1 ≠ r_30 := Nat.ne_of_lt (Nat.lt_of_lt_of_le A_t1.lt p9_path_1)
 have ne_t12_r_30 : t12 ≠ r_30 := Nat.ne_of_lt (Nat.lt_of_lt_of_le A_t12.lt p9_path_1)
 have ne_t20_r_30 : t20 ≠ r_30 := Nat.ne_of_lt (Nat.lt_of_lt_of_le A_t20.lt p9_path_1)
 have nw_r_30 : h0.size ≤ r_30 := Nat.le_trans K.1 p9_path_1
 replace E_mb := E_mb.keep K32
 replace F_mb_home := F_mb_home.keep K32 nin0
 replace E_hm := E_hm.keep K32
 replace F_hm_coder := F_hm_coder.keep K32 nin0
 replace F_hm_value := F_hm_value.keep K32 nin0
 replace A_t1 := A_t1.keep K32 nin0
 replace E_a5 := E_a5.keep K32
 replace F_a5_page := F_a5_page.keep K32 nin0
 replace F_a5_action := F_a5_action.keep K32 nin0
 replace F_a5_fixedRecipient := F_a5_fixedRecipient.keep K32 nin0
 replace F_a5_from := F_a5_from.keep K32 nin0
 replace E_a11 := E_a11.keep K32
 replace F_a11_coder := F_a11_coder.keep K32 nin0
 replace F_a11_value := F_a11_value.keep K32 nin0
 replace A_t12 := A_t12.keep K32 nin0
 replace E_a19 := E_a19.keep K32
 replace F_a19_coder := F_a19_coder.keep K32 nin0
 replace F_a19_value := F_a19_value.keep K32 nin0
 replace A_t20 := A_t20.keep K32 nin0
 replace K := K.trans K32 all0
 have E_q_29 := nw_E_q_29; clear nw_E_q_29
 have F_q_29_coder := nw_F_q_29_coder; clear nw_F_q_29_coder
 have F_q_29_value := nw_F_q_29_value; clear nw_F_q_29_value
 have A_r_30 := nw_A_r_30; clear nw_A_r_30
 show own_Go Z EL n0 p e below s _ _ _ (T23.setTop (mkF m 12 _ [(.ref q_29), (.ref a11), (.ref a5), (.ref a5)]))
 refine own_iconst (pc' := 13) w24 own_d24_12 (x := (0 : Int32)) rfl rfl ?_
 refine own_aloadN (pc' := 14) w24 own_d24_13 rfl rfl rfl ?_
 refine own_callI (pc' := 17) w24 rfl (own_w173 hw) (own_w174 hw) (own_w52 hw) (own_w175 hw) (by decide) (own_ct_wfInit l Z a0 hw EL hE n0 [] h25 (own_old w24) a5 a11 q_29 mb .null .null (.int 0) .null E_a5 F_a5_page F_a5_action F_a5_fixedRecipient F_a5_from) (allS (P := fun x => x ∈ _) (by simp) all0) (argsL := [(.ref a11), (.ref q_29), (.int (0 : Int32)), (.ref mb)]) (rest := [(.ref a5)]) rfl rfl own_pd18 rfl own_d24_14 rfl (by decide) (W := 1) rfl (by decide) (by decide) (by decide) fun T33 h35 v36 ms37 w34 q38 => ?_
 obtain ⟨K39, rfl, rfl, nw_E_a5, nw_F_a5_page, nw_F_a5_action, nw_F_a5_fixedRecipient, nw_F_a5_from⟩ := q38
 replace E_mb := E_mb.keep K39
 replace F_mb_home := F_mb_home.keep K39 (ninS ne_mb_a5 nin0)
 replace E_hm := E_hm.keep K39
 replace F_hm_coder := F_hm_coder.keep K39 (ninS ne_hm_a5 nin0)
 replace F_hm_value := F_hm_value.keep K39 (ninS ne_hm_a5 nin0)
 replace A_t1 := A_t1.keep K39 (ninS ne_t1_a5 nin0)
 replace E_a11 := E_a11.keep K39
 replace F_a11_coder := F_a11_coder.keep K39 (ninS (Ne.symm ne_a5_a11) nin0)
 replace F_a11_value := F_a11_value.keep K39 (ninS (Ne.symm ne_a5_a11) nin0)
 replace A_t12 := A_t12.keep K39 (ninS (Ne.symm ne_a5_t12) nin0)
 replace E_a19 := E_a19.keep K39
 replace F_a19_coder := F_a19_coder.keep K39 (ninS (Ne.symm ne_a5_a19) nin0)
 replace F_a19_value := F_a19_value.keep K39 (ninS (Ne.symm ne_a5_a19) nin0)
 replace A_t20 := A_t20.keep K39 (ninS (Ne.symm ne_a5_t20) nin0)
 replace E_q_29 := E_q_29.keep K39
 replace F_q_29_coder := F_q_29_coder.keep K39 (ninS (Ne.symm ne_a5_q_29) nin0)
 replace F_q_29_value := F_q_29_value.keep K39 (ninS (Ne.symm ne_a5_q_29) nin0)
 replace A_r_30 := A_r_30.keep K39 (ninS (Ne.symm ne_a5_r_30) nin0)
 replace K := K.trans K39 (allS (P := fun x => x ∈ ([] : List Addr) ∨ h0.size ≤ x) (Or.inr nw_a5) all0)
 have E_a5 := nw_E_a5; clear nw_E_a5
 have F_a5_page := nw_F_a5_page; clear nw_F_a5_page
 have F_a5_action := nw_F_a5_action; clear nw_F_a5_action
 have F_a5_fixedRecipient := nw_F_a5_fixedRecipient; clear nw_F_a5_fixedRecipient
 have F_a5_from := nw_F_a5_from; clear nw_F_a5_from
 show own_Go Z EL n0 p e below s _ _ _ (T33.setTop (mkF m 17 _ [(.ref a5)]))
 exact own_retV w34 (t := (.object "com/example/vidura/vidura/WritingForm")) rfl (own_narR rfl rfl) (Or.inr (Or.inr (Or.inr (Or.inr ⟨rfl, rfl, rfl⟩)))) own_d24_17 (by decide) (by decide) (ms' := []) all0 ⟨K, a5, a11, t12, kb13, q_29, r_30, kA_31, rfl, rfl, E_a5, F_a5_page, F_a5_action, F_a5_fixedRecipient, F_a5_from, E_a11, F_a11_coder, F_a11_value, A_t12, E_q_29, F_q_29_coder, F_q_29_value, A_r_30, nw_a5⟩
theorem own_d25_0 : decode prog_15_method_8_code 0 = .ok (.aload_n 0, 1) := by decide +kernel
theorem own_d25_1 : decode prog_15_method_8_code 1 = .ok (.getfield 7, 3) := by decide +kernel
theorem own_d25_4 : decode prog_15_method_8_code 4 = .ok (.areturn, 1) := by decide +kernel
theorem own_ef_page (m : MethodId) (a1 : Addr) : entryFrame m #[(.ref a1)] 1 = mkF m 0 #[.val (.ref a1)] [] := by first | (simp [entryFrame, mkF, argsToLocals, Value.category]; done) | rfl
theorem own_pf25 : plainFor (⟨"com/example/vidura/vidura/WritingForm", "page", "()Ljava/lang/String;"⟩ : MethodName) = true := by first | exact plainFor_of_name (by first | (simp [plainName, overriddenIn]; done) | decide +kernel) | decide +kernel
def own_Q_page (Z : State) (h0 : Heap) (a1 : Addr) (rp : Addr) (v : Option Value) (h : Heap) (ms : List Addr) : Prop := (h0 = h) ∧ (ms = []) ∧ (v = some (.ref rp))
set_option maxRecDepth 65536 in
set_option maxHeartbeats 40000000 in
theorem own_ct_page (l : Launch) (Z : State) (a0 : Array Value) (hw : ∀ d ∈ tables_1, d.before a0 Z = true) (EL : List (String × Nat)) (hE : EW Z a0 EL) (n0 : Nat) (ws : List Jvm.Cond) (h0 : Heap) (O : Old Z n0 h0) (a1 : Addr) (rp : Addr) (F_a1_page : Fld Z h0 a1 "com/example/vidura/vidura/WritingForm" "page" "Ljava/lang/String;" (.ref rp)) :
    own_Ct l Z EL n0 (⟨"com/example/vidura/vidura/WritingForm", "page", "()Ljava/lang/String;"⟩ : MethodName) prog_15_method_8_code 1 (some (.object "java/lang/String")) ws ({ frames := 0, cells := 0, slots := 0, locals := 0 } : Room) #[(.ref a1)] h0 [] (own_Q_page Z h0 a1 rp) := by
 refine own_enter (a0 := a0) own_pf25 hE O fun p e s m below meth c T0 w0 => ?_
 rw [own_ef_page m a1]
 refine own_aloadN (pc' := 1) w0 own_d25_0 rfl rfl rfl ?_
 refine own_getF (pc' := 4) w0 (host := "") (Or.inl (own_w177 hw)) Via.refl F_a1_page own_d25_1 rfl fun T1 w2 => ?_
 exact own_retV w2 (t := (.object "java/lang/String")) rfl (own_narR rfl rfl) (Or.inr (Or.inr (Or.inr (Or.inr ⟨rfl, rfl, rfl⟩)))) own_d25_4 (by decide) (by decide) (ms' := []) all0 ⟨rfl, rfl, rfl⟩
theorem own_d26_0 : decode prog_15_method_9_code 0 = .ok (.aload_n 0, 1) := by decide +kernel
theorem own_d26_1 : decode prog_15_method_9_code 1 = .ok (.getfield 13, 3) := by decide +kernel
theorem own_d26_4 : decode prog_15_method_9_code 4 = .ok (.areturn, 1) := by decide +kernel
theorem own_ef_action (m : MethodId) (a1 : Addr) : entryFrame m #[(.ref a1)] 1 = mkF m 0 #[.val (.ref a1)] [] := by first | (simp [entryFrame, mkF, argsToLocals, Value.category]; done) | rfl
theorem own_pf26 : plainFor (⟨"com/example/vidura/vidura/WritingForm", "action", "()Ljava/lang/String;"⟩ : MethodName) = true := by first | exact plainFor_of_name (by first | (simp [plainName, overriddenIn]; done) | decide +kernel) | decide +kernel
def own_Q_action (Z : State) (h0 : Heap) (a1 : Addr) (rp : Addr) (v : Option Value) (h : Heap) (ms : List Addr) : Prop := (h0 = h) ∧ (ms = []) ∧ (v = some (.ref rp))
set_option maxRecDepth 65536 in
set_option maxHeartbeats 40000000 in
theorem own_ct_action (l : Launch) (Z : State) (a0 : Array Value) (hw : ∀ d ∈ tables_1, d.before a0 Z = true) (EL : List (String × Nat)) (hE : EW Z a0 EL) (n0 : Nat) (ws : List Jvm.Cond) (h0 : Heap) (O : Old Z n0 h0) (a1 : Addr) (rp : Addr) (F_a1_action : Fld Z h0 a1 "com/example/vidura/vidura/WritingForm" "action" "Ljava/lang/String;" (.ref rp)) :
    own_Ct l Z EL n0 (⟨"com/example/vidura/vidura/WritingForm", "action", "()Ljava/lang/String;"⟩ : MethodName) prog_15_method_9_code 1 (some (.object "java/lang/String")) ws ({ frames := 0, cells := 0, slots := 0, locals := 0 } : Room) #[(.ref a1)] h0 [] (own_Q_action Z h0 a1 rp) := by
 refine own_enter (a0 := a0) own_pf26 hE O fun p e s m below meth c T0 w0 => ?_
 rw [own_ef_action m a1]
 refine own_aloadN (pc' := 1) w0 own_d26_0 rfl rfl rfl ?_
 refine own_getF (pc' := 4) w0 (host := "") (Or.inl (own_w179 hw)) Via.refl F_a1_action own_d26_1 rfl fun T1 w2 => ?_
 exact own_retV w2 (t := (.object "java/lang/String")) rfl (own_narR rfl rfl) (Or.inr (Or.inr (Or.inr (Or.inr ⟨rfl, rfl, rfl⟩)))) own_d26_4 (by decide) (by decide) (ms' := []) all0 ⟨rfl, rfl, rfl⟩
theorem own_d27_0 : decode prog_15_method_11_code 0 = .ok (.aload_n 0, 1) := by decide +kernel
theorem own_d27_1 : decode prog_15_method_11_code 1 = .ok (.getfield 20, 3) := by decide +kernel
theorem own_d27_4 : decode prog_15_method_11_code 4 = .ok (.areturn, 1) := by decide +kernel
theorem own_ef_from (m : MethodId) (a1 : Addr) : entryFrame m #[(.ref a1)] 1 = mkF m 0 #[.val (.ref a1)] [] := by first | (simp [entryFrame, mkF, argsToLocals, Value.category]; done) | rfl
theorem own_pf27 : plainFor (⟨"com/example/vidura/vidura/WritingForm", "from", "()Lcom/example/vidura/vidura/Mailbox;"⟩ : MethodName) = true := by first | exact plainFor_of_name (by first | (simp [plainName, overriddenIn]; done) | decide +kernel) | decide +kernel
def own_Q_from (Z : State) (h0 : Heap) (a1 : Addr) (rp : Addr) (v : Option Value) (h : Heap) (ms : List Addr) : Prop := (h0 = h) ∧ (ms = []) ∧ (v = some (.ref rp))
set_option maxRecDepth 65536 in
set_option maxHeartbeats 40000000 in
theorem own_ct_from (l : Launch) (Z : State) (a0 : Array Value) (hw : ∀ d ∈ tables_1, d.before a0 Z = true) (EL : List (String × Nat)) (hE : EW Z a0 EL) (n0 : Nat) (ws : List Jvm.Cond) (h0 : Heap) (O : Old Z n0 h0) (a1 : Addr) (rp : Addr) (F_a1_from : Fld Z h0 a1 "com/example/vidura/vidura/WritingForm" "from" "Lcom/example/vidura/vidura/Mailbox;" (.ref rp)) :
    own_Ct l Z EL n0 (⟨"com/example/vidura/vidura/WritingForm", "from", "()Lcom/example/vidura/vidura/Mailbox;"⟩ : MethodName) prog_15_method_11_code 1 (some (.object "com/example/vidura/vidura/Mailbox")) ws ({ frames := 0, cells := 0, slots := 0, locals := 0 } : Room) #[(.ref a1)] h0 [] (own_Q_from Z h0 a1 rp) := by
 refine own_enter (a0 := a0) own_pf27 hE O fun p e s m below meth c T0 w0 => ?_
 rw [own_ef_from m a1]
 refine own_aloadN (pc' := 1) w0 own_d27_0 rfl rfl rfl ?_
 refine own_getF (pc' := 4) w0 (host := "") (Or.inl (own_w183 hw)) Via.refl F_a1_from own_d27_1 rfl fun T1 w2 => ?_
 exact own_retV w2 (t := (.object "com/example/vidura/vidura/Mailbox")) rfl (own_narR rfl rfl) (Or.inr (Or.inr (Or.inr (Or.inr ⟨rfl, rfl, rfl⟩)))) own_d27_4 (by decide) (by decide) (ms' := []) all0 ⟨rfl, rfl, rfl⟩
theorem own_d28_0 : decode prog_15_method_10_code 0 = .ok (.aload_n 0, 1) := by decide +kernel
theorem own_d28_1 : decode prog_15_method_10_code 1 = .ok (.getfield 16, 3) := by decide +kernel
theorem own_d28_4 : decode prog_15_method_10_code 4 = .ok (.ireturn, 1) := by decide +kernel
theorem own_ef_fixedR (m : MethodId) (a1 : Addr) : entryFrame m #[(.ref a1)] 1 = mkF m 0 #[.val (.ref a1)] [] := by first | (simp [entryFrame, mkF, argsToLocals, Value.category]; done) | rfl
theorem own_pf28 : plainFor (⟨"com/example/vidura/vidura/WritingForm", "fixedRecipient", "()Z"⟩ : MethodName) = true := by first | exact plainFor_of_name (by first | (simp [plainName, overriddenIn]; done) | decide +kernel) | decide +kernel
def own_Q_fixedR (Z : State) (h0 : Heap) (a1 : Addr) (v : Option Value) (h : Heap) (ms : List Addr) : Prop := (h0 = h) ∧ (ms = []) ∧ (v = some (.int 0))
set_option maxRecDepth 65536 in
set_option maxHeartbeats 40000000 in
theorem own_ct_fixedR (l : Launch) (Z : State) (a0 : Array Value) (hw : ∀ d ∈ tables_1, d.before a0 Z = true) (EL : List (String × Nat)) (hE : EW Z a0 EL) (n0 : Nat) (ws : List Jvm.Cond) (h0 : Heap) (O : Old Z n0 h0) (a1 : Addr) (F_a1_fixedRecipient : Fld Z h0 a1 "com/example/vidura/vidura/WritingForm" "fixedRecipient" "Z" (.int 0)) :
    own_Ct l Z EL n0 (⟨"com/example/vidura/vidura/WritingForm", "fixedRecipient", "()Z"⟩ : MethodName) prog_15_method_10_code 1 (some .boolean) ws ({ frames := 0, cells := 0, slots := 0, locals := 0 } : Room) #[(.ref a1)] h0 [] (own_Q_fixedR Z h0 a1) := by
 refine own_enter (a0 := a0) own_pf28 hE O fun p e s m below meth c T0 w0 => ?_
 rw [own_ef_fixedR m a1]
 refine own_aloadN (pc' := 1) w0 own_d28_0 rfl rfl rfl ?_
 refine own_getF (pc' := 4) w0 (host := "") (Or.inl (own_w181 hw)) Via.refl F_a1_fixedRecipient own_d28_1 rfl fun T1 w2 => ?_
 exact own_retV w2 (t := .boolean) rfl rfl (Or.inl ⟨rfl, by simp, _, rfl⟩) own_d28_4 (by decide) (by decide) (ms' := []) all0 ⟨rfl, rfl, rfl⟩
theorem own_d29_0 : decode code 0 = .ok (.iload_n 1, 1) := by decide +kernel
theorem own_d29_1 : decode code 1 = .ok (.sipush 255, 3) := by decide +kernel
theorem own_d29_4 : decode code 4 = .ok (.iand, 1) := by decide +kernel
theorem own_d29_5 : decode code 5 = .ok (.i2c, 1) := by decide +kernel
theorem own_d29_6 : decode code 6 = .ok (.istore 5, 2) := by decide +kernel
theorem own_d29_8 : decode code 8 = .ok (.iload_n 2, 1) := by decide +kernel
theorem own_d29_9 : decode code 9 = .ok (.sipush 255, 3) := by decide +kernel
theorem own_d29_12 : decode code 12 = .ok (.iand, 1) := by decide +kernel
theorem own_d29_13 : decode code 13 = .ok (.i2c, 1) := by decide +kernel
theorem own_d29_14 : decode code 14 = .ok (.istore 6, 2) := by decide +kernel
theorem own_d29_16 : decode code 16 = .ok (.iload_n 3, 1) := by decide +kernel
theorem own_d29_17 : decode code 17 = .ok (.sipush 255, 3) := by decide +kernel
theorem own_d29_20 : decode code 20 = .ok (.iand, 1) := by decide +kernel
theorem own_d29_21 : decode code 21 = .ok (.i2c, 1) := by decide +kernel
theorem own_d29_22 : decode code 22 = .ok (.istore 7, 2) := by decide +kernel
theorem own_d29_24 : decode code 24 = .ok (.iload 4, 2) := by decide +kernel
theorem own_d29_26 : decode code 26 = .ok (.sipush 255, 3) := by decide +kernel
theorem own_d29_29 : decode code 29 = .ok (.iand, 1) := by decide +kernel
theorem own_d29_30 : decode code 30 = .ok (.i2c, 1) := by decide +kernel
theorem own_d29_31 : decode code 31 = .ok (.istore 8, 2) := by decide +kernel
theorem own_d29_33 : decode code 33 = .ok (.iload 4, 2) := by decide +kernel
theorem own_d29_35 : decode code 35 = .ok (.bipush 8, 2) := by decide +kernel
theorem own_d29_37 : decode code 37 = .ok (.iushr, 1) := by decide +kernel
theorem own_d29_38 : decode code 38 = .ok (.sipush 255, 3) := by decide +kernel
theorem own_d29_41 : decode code 41 = .ok (.iand, 1) := by decide +kernel
theorem own_d29_42 : decode code 42 = .ok (.i2c, 1) := by decide +kernel
theorem own_d29_43 : decode code 43 = .ok (.istore 9, 2) := by decide +kernel
theorem own_d29_45 : decode code 45 = .ok (.iload_n 0, 1) := by decide +kernel
theorem own_d29_46 : decode code 46 = .ok (.iconst 3, 1) := by decide +kernel
theorem own_d29_47 : decode code 47 = .ok (.iand, 1) := by decide +kernel
theorem own_d29_48 : decode code 48 = .ok (.istore 10, 2) := by decide +kernel
theorem own_d29_50 : decode code 50 = .ok (.iload 10, 2) := by decide +kernel
theorem own_d29_52 : decode code 52 = .ok (.ifCond .ne 14, 3) := by decide +kernel
theorem own_d29_66 : decode code 66 = .ok (.iload 10, 2) := by decide +kernel
theorem own_d29_68 : decode code 68 = .ok (.iconst 1, 1) := by decide +kernel
theorem own_d29_69 : decode code 69 = .ok (.if_icmp .ne 72, 3) := by decide +kernel
theorem own_d29_141 : decode code 141 = .ok (.iload 10, 2) := by decide +kernel
theorem own_d29_143 : decode code 143 = .ok (.iconst 2, 1) := by decide +kernel
theorem own_d29_144 : decode code 144 = .ok (.if_icmp .ne 83, 3) := by decide +kernel
theorem own_d29_227 : decode code 227 = .ok (.new 11, 3) := by decide +kernel
theorem own_w9 {Z : State} {a0 : Array Value} (hw : ∀ d ∈ tables_1, d.before a0 Z = true) : ((Jvm.Cond.classLink "com/example/vidura/vidura/WritingFormWritePinLaw" (11 : Nat) "java/lang/String") : Jvm.Cond).before a0 Z = true := hw _ (List.mem_of_getElem? (i := 9) rfl)
theorem own_d29_230 : decode code 230 = .ok (.dup, 1) := by decide +kernel
theorem own_d29_231 : decode code 231 = .ok (.iconst 3, 1) := by decide +kernel
theorem own_d29_232 : decode code 232 = .ok (.newarray .char, 2) := by decide +kernel
theorem own_w10 {Z : State} {a0 : Array Value} (hw : ∀ d ∈ tables_1, d.before a0 Z = true) : ((Jvm.Cond.arrayClass Jvm.ClassFile.FieldType.char) : Jvm.Cond).before a0 Z = true := hw _ (List.mem_of_getElem? (i := 10) rfl)
theorem own_d29_234 : decode code 234 = .ok (.dup, 1) := by decide +kernel
theorem own_d29_235 : decode code 235 = .ok (.iconst 0, 1) := by decide +kernel
theorem own_d29_236 : decode code 236 = .ok (.iload 5, 2) := by decide +kernel
theorem own_d29_238 : decode code 238 = .ok (.castore, 1) := by decide +kernel
theorem own_d29_239 : decode code 239 = .ok (.dup, 1) := by decide +kernel
theorem own_d29_240 : decode code 240 = .ok (.iconst 1, 1) := by decide +kernel
theorem own_d29_241 : decode code 241 = .ok (.iload 6, 2) := by decide +kernel
theorem own_d29_243 : decode code 243 = .ok (.castore, 1) := by decide +kernel
theorem own_d29_244 : decode code 244 = .ok (.dup, 1) := by decide +kernel
theorem own_d29_245 : decode code 245 = .ok (.iconst 2, 1) := by decide +kernel
theorem own_d29_246 : decode code 246 = .ok (.iload 7, 2) := by decide +kernel
theorem own_d29_248 : decode code 248 = .ok (.castore, 1) := by decide +kernel
theorem own_d29_249 : decode code 249 = .ok (.invokespecial 13, 3) := by decide +kernel
theorem own_w11 {Z : State} {a0 : Array Value} (hw : ∀ d ∈ tables_1, d.before a0 Z = true) : ((Jvm.Cond.methodLink "com/example/vidura/vidura/WritingFormWritePinLaw" (13 : Nat) ({ cls := "java/lang/String", name := "<init>", desc := "([C)V" } : Jvm.MethodName)) : Jvm.Cond).before a0 Z = true := hw _ (List.mem_of_getElem? (i := 11) rfl)
theorem own_w12 {Z : State} {a0 : Array Value} (hw : ∀ d ∈ tables_1, d.before a0 Z = true) : ((Jvm.Cond.instanceMethod ({ cls := "java/lang/String", name := "<init>", desc := "([C)V" } : Jvm.MethodName)) : Jvm.Cond).before a0 Z = true := hw _ (List.mem_of_getElem? (i := 12) rfl)
theorem own_w13 {Z : State} {a0 : Array Value} (hw : ∀ d ∈ tables_1, d.before a0 Z = true) : ((Jvm.Cond.code ({ cls := "java/lang/String", name := "<init>", desc := "([C)V" } : Jvm.MethodName) jdk_42_method_3_code (2 : Nat) (Option.none : Option Jvm.ClassFile.FieldType)) : Jvm.Cond).before a0 Z = true := hw _ (List.mem_of_getElem? (i := 13) rfl)
theorem own_pd19 : parseMethodDescriptor "([C)V" = some ⟨[(.array .char)], none⟩ := by decide +kernel
theorem own_d29_252 : decode code 252 = .ok (.astore 11, 2) := by decide +kernel
theorem own_d29_254 : decode code 254 = .ok (.new 11, 3) := by decide +kernel
theorem own_d29_257 : decode code 257 = .ok (.dup, 1) := by decide +kernel
theorem own_d29_258 : decode code 258 = .ok (.bipush 9, 2) := by decide +kernel
theorem own_d29_260 : decode code 260 = .ok (.newarray .char, 2) := by decide +kernel
theorem own_d29_262 : decode code 262 = .ok (.dup, 1) := by decide +kernel
theorem own_d29_263 : decode code 263 = .ok (.iconst 0, 1) := by decide +kernel
theorem own_d29_264 : decode code 264 = .ok (.iload 5, 2) := by decide +kernel
theorem own_d29_266 : decode code 266 = .ok (.castore, 1) := by decide +kernel
theorem own_d29_267 : decode code 267 = .ok (.dup, 1) := by decide +kernel
theorem own_d29_268 : decode code 268 = .ok (.iconst 1, 1) := by decide +kernel
theorem own_d29_269 : decode code 269 = .ok (.iload 6, 2) := by decide +kernel
theorem own_d29_271 : decode code 271 = .ok (.castore, 1) := by decide +kernel
theorem own_d29_272 : decode code 272 = .ok (.dup, 1) := by decide +kernel
theorem own_d29_273 : decode code 273 = .ok (.iconst 2, 1) := by decide +kernel
theorem own_d29_274 : decode code 274 = .ok (.iload 7, 2) := by decide +kernel
theorem own_d29_276 : decode code 276 = .ok (.castore, 1) := by decide +kernel
theorem own_d29_277 : decode code 277 = .ok (.dup, 1) := by decide +kernel
theorem own_d29_278 : decode code 278 = .ok (.iconst 3, 1) := by decide +kernel
theorem own_d29_279 : decode code 279 = .ok (.bipush 47, 2) := by decide +kernel
theorem own_d29_281 : decode code 281 = .ok (.castore, 1) := by decide +kernel
theorem own_d29_282 : decode code 282 = .ok (.dup, 1) := by decide +kernel
theorem own_d29_283 : decode code 283 = .ok (.iconst 4, 1) := by decide +kernel
theorem own_d29_284 : decode code 284 = .ok (.bipush 119, 2) := by decide +kernel
theorem own_d29_286 : decode code 286 = .ok (.castore, 1) := by decide +kernel
theorem own_d29_287 : decode code 287 = .ok (.dup, 1) := by decide +kernel
theorem own_d29_288 : decode code 288 = .ok (.iconst 5, 1) := by decide +kernel
theorem own_d29_289 : decode code 289 = .ok (.bipush 114, 2) := by decide +kernel
theorem own_d29_291 : decode code 291 = .ok (.castore, 1) := by decide +kernel
theorem own_d29_292 : decode code 292 = .ok (.dup, 1) := by decide +kernel
theorem own_d29_293 : decode code 293 = .ok (.bipush 6, 2) := by decide +kernel
theorem own_d29_295 : decode code 295 = .ok (.bipush 105, 2) := by decide +kernel
theorem own_d29_297 : decode code 297 = .ok (.castore, 1) := by decide +kernel
theorem own_d29_298 : decode code 298 = .ok (.dup, 1) := by decide +kernel
theorem own_d29_299 : decode code 299 = .ok (.bipush 7, 2) := by decide +kernel
theorem own_d29_301 : decode code 301 = .ok (.bipush 116, 2) := by decide +kernel
theorem own_d29_303 : decode code 303 = .ok (.castore, 1) := by decide +kernel
theorem own_d29_304 : decode code 304 = .ok (.dup, 1) := by decide +kernel
theorem own_d29_305 : decode code 305 = .ok (.bipush 8, 2) := by decide +kernel
theorem own_d29_307 : decode code 307 = .ok (.bipush 101, 2) := by decide +kernel
theorem own_d29_309 : decode code 309 = .ok (.castore, 1) := by decide +kernel
theorem own_d29_310 : decode code 310 = .ok (.invokespecial 13, 3) := by decide +kernel
theorem own_d29_313 : decode code 313 = .ok (.astore 12, 2) := by decide +kernel
theorem own_d29_315 : decode code 315 = .ok (.new 11, 3) := by decide +kernel
theorem own_d29_318 : decode code 318 = .ok (.dup, 1) := by decide +kernel
theorem own_d29_319 : decode code 319 = .ok (.iconst 2, 1) := by decide +kernel
theorem own_d29_320 : decode code 320 = .ok (.newarray .char, 2) := by decide +kernel
theorem own_d29_322 : decode code 322 = .ok (.dup, 1) := by decide +kernel
theorem own_d29_323 : decode code 323 = .ok (.iconst 0, 1) := by decide +kernel
theorem own_d29_324 : decode code 324 = .ok (.iload 8, 2) := by decide +kernel
theorem own_d29_326 : decode code 326 = .ok (.castore, 1) := by decide +kernel
theorem own_d29_327 : decode code 327 = .ok (.dup, 1) := by decide +kernel
theorem own_d29_328 : decode code 328 = .ok (.iconst 1, 1) := by decide +kernel
theorem own_d29_329 : decode code 329 = .ok (.iload 9, 2) := by decide +kernel
theorem own_d29_331 : decode code 331 = .ok (.castore, 1) := by decide +kernel
theorem own_d29_332 : decode code 332 = .ok (.invokespecial 13, 3) := by decide +kernel
theorem own_d29_335 : decode code 335 = .ok (.astore 13, 2) := by decide +kernel
theorem own_d29_337 : decode code 337 = .ok (.new 16, 3) := by decide +kernel
theorem own_w34 {Z : State} {a0 : Array Value} (hw : ∀ d ∈ tables_1, d.before a0 Z = true) : ((Jvm.Cond.classLink "com/example/vidura/vidura/WritingFormWritePinLaw" (16 : Nat) "com/example/vidura/vidura/Mailbox") : Jvm.Cond).before a0 Z = true := hw _ (List.mem_of_getElem? (i := 34) rfl)
theorem own_d29_340 : decode code 340 = .ok (.dup, 1) := by decide +kernel
theorem own_d29_341 : decode code 341 = .ok (.aload 13, 2) := by decide +kernel
theorem own_d29_343 : decode code 343 = .ok (.aload 11, 2) := by decide +kernel
theorem own_d29_345 : decode code 345 = .ok (.invokespecial 18, 3) := by decide +kernel
theorem own_w39 {Z : State} {a0 : Array Value} (hw : ∀ d ∈ tables_1, d.before a0 Z = true) : ((Jvm.Cond.code ({ cls := "com/example/vidura/vidura/Mailbox", name := "<init>", desc := "(Ljava/lang/String;Ljava/lang/String;)V" } : Jvm.MethodName) prog_9_method_1_code (3 : Nat) (Option.none : Option Jvm.ClassFile.FieldType)) : Jvm.Cond).before a0 Z = true := hw _ (List.mem_of_getElem? (i := 39) rfl)
theorem own_pd20 : parseMethodDescriptor "(Ljava/lang/String;Ljava/lang/String;)V" = some ⟨[(.object "java/lang/String"), (.object "java/lang/String")], none⟩ := by decide +kernel
theorem own_w37 {Z : State} {a0 : Array Value} (hw : ∀ d ∈ tables_1, d.before a0 Z = true) : ((Jvm.Cond.methodLink "com/example/vidura/vidura/WritingFormWritePinLaw" (18 : Nat) ({ cls := "com/example/vidura/vidura/Mailbox", name := "<init>", desc := "(Ljava/lang/String;Ljava/lang/String;)V" } : Jvm.MethodName)) : Jvm.Cond).before a0 Z = true := hw _ (List.mem_of_getElem? (i := 37) rfl)
theorem own_w38 {Z : State} {a0 : Array Value} (hw : ∀ d ∈ tables_1, d.before a0 Z = true) : ((Jvm.Cond.instanceMethod ({ cls := "com/example/vidura/vidura/Mailbox", name := "<init>", desc := "(Ljava/lang/String;Ljava/lang/String;)V" } : Jvm.MethodName)) : Jvm.Cond).before a0 Z = true := hw _ (List.mem_of_getElem? (i := 38) rfl)
theorem own_d29_348 : decode code 348 = .ok (.astore 14, 2) := by decide +kernel
theorem own_d29_350 : decode code 350 = .ok (.aload 14, 2) := by decide +kernel
theorem own_d29_352 : decode code 352 = .ok (.invokestatic 21, 3) := by decide +kernel
theorem own_w53 {Z : State} {a0 : Array Value} (hw : ∀ d ∈ tables_1, d.before a0 Z = true) : ((Jvm.Cond.code ({ cls := "com/example/vidura/vidura/WritingForm", name := "write", desc := "(Lcom/example/vidura/vidura/Mailbox;)Lcom/example/vidura/vidura/WritingForm;" } : Jvm.MethodName) prog_15_method_2_code (1 : Nat) (Option.some (Jvm.ClassFile.FieldType.object "com/example/vidura/vidura/WritingForm"))) : Jvm.Cond).before a0 Z = true := hw _ (List.mem_of_getElem? (i := 53) rfl)
theorem own_pd21 : parseMethodDescriptor "(Lcom/example/vidura/vidura/Mailbox;)Lcom/example/vidura/vidura/WritingForm;" = some ⟨[(.object "com/example/vidura/vidura/Mailbox")], some (.object "com/example/vidura/vidura/WritingForm")⟩ := by decide +kernel
theorem own_w50 {Z : State} {a0 : Array Value} (hw : ∀ d ∈ tables_1, d.before a0 Z = true) : ((Jvm.Cond.methodLink "com/example/vidura/vidura/WritingFormWritePinLaw" (21 : Nat) ({ cls := "com/example/vidura/vidura/WritingForm", name := "write", desc := "(Lcom/example/vidura/vidura/Mailbox;)Lcom/example/vidura/vidura/WritingForm;" } : Jvm.MethodName)) : Jvm.Cond).before a0 Z = true := hw _ (List.mem_of_getElem? (i := 50) rfl)
theorem own_w51 {Z : State} {a0 : Array Value} (hw : ∀ d ∈ tables_1, d.before a0 Z = true) : ((Jvm.Cond.static ({ cls := "com/example/vidura/vidura/WritingForm", name := "write", desc := "(Lcom/example/vidura/vidura/Mailbox;)Lcom/example/vidura/vidura/WritingForm;" } : Jvm.MethodName)) : Jvm.Cond).before a0 Z = true := hw _ (List.mem_of_getElem? (i := 51) rfl)
theorem own_d29_355 : decode code 355 = .ok (.astore 15, 2) := by decide +kernel
theorem own_d29_357 : decode code 357 = .ok (.aload 15, 2) := by decide +kernel
theorem own_d29_359 : decode code 359 = .ok (.ifnull 51, 3) := by decide +kernel
theorem own_d29_362 : decode code 362 = .ok (.ldc 27, 2) := by decide +kernel
theorem own_w185 {Z : State} {a0 : Array Value} (hw : ∀ d ∈ tables_1, d.before a0 Z = true) : ((Jvm.Cond.stringLink "com/example/vidura/vidura/WritingFormWritePinLaw" (27 : Nat) "Write") : Jvm.Cond).before a0 Z = true := hw _ (List.mem_of_getElem? (i := 185) rfl)
theorem own_d29_364 : decode code 364 = .ok (.aload 15, 2) := by decide +kernel
theorem own_d29_366 : decode code 366 = .ok (.invokevirtual 29, 3) := by decide +kernel
theorem own_w190 {Z : State} {a0 : Array Value} (hw : ∀ d ∈ tables_1, d.before a0 Z = true) : ((Jvm.Cond.code ({ cls := "com/example/vidura/vidura/WritingForm", name := "page", desc := "()Ljava/lang/String;" } : Jvm.MethodName) prog_15_method_8_code (1 : Nat) (Option.some (Jvm.ClassFile.FieldType.object "java/lang/String"))) : Jvm.Cond).before a0 Z = true := hw _ (List.mem_of_getElem? (i := 190) rfl)
theorem own_w186 {Z : State} {a0 : Array Value} (hw : ∀ d ∈ tables_1, d.before a0 Z = true) : ((Jvm.Cond.methodLink "com/example/vidura/vidura/WritingFormWritePinLaw" (29 : Nat) ({ cls := "com/example/vidura/vidura/WritingForm", name := "page", desc := "()Ljava/lang/String;" } : Jvm.MethodName)) : Jvm.Cond).before a0 Z = true := hw _ (List.mem_of_getElem? (i := 186) rfl)
theorem own_w187 {Z : State} {a0 : Array Value} (hw : ∀ d ∈ tables_1, d.before a0 Z = true) : ((Jvm.Cond.declares ({ cls := "com/example/vidura/vidura/WritingForm", name := "page", desc := "()Ljava/lang/String;" } : Jvm.MethodName)) : Jvm.Cond).before a0 Z = true := hw _ (List.mem_of_getElem? (i := 187) rfl)
theorem own_w189 {Z : State} {a0 : Array Value} (hw : ∀ d ∈ tables_1, d.before a0 Z = true) : ((Jvm.Cond.selects "com/example/vidura/vidura/WritingForm" ({ cls := "com/example/vidura/vidura/WritingForm", name := "page", desc := "()Ljava/lang/String;" } : Jvm.MethodName) ({ cls := "com/example/vidura/vidura/WritingForm", name := "page", desc := "()Ljava/lang/String;" } : Jvm.MethodName)) : Jvm.Cond).before a0 Z = true := hw _ (List.mem_of_getElem? (i := 189) rfl)
theorem own_w188 {Z : State} {a0 : Array Value} (hw : ∀ d ∈ tables_1, d.before a0 Z = true) : ((Jvm.Cond.instanceMethod ({ cls := "com/example/vidura/vidura/WritingForm", name := "page", desc := "()Ljava/lang/String;" } : Jvm.MethodName)) : Jvm.Cond).before a0 Z = true := hw _ (List.mem_of_getElem? (i := 188) rfl)
theorem own_d29_369 : decode code 369 = .ok (.invokevirtual 33, 3) := by decide +kernel
theorem own_w191 {Z : State} {a0 : Array Value} (hw : ∀ d ∈ tables_1, d.before a0 Z = true) : ((Jvm.Cond.methodLink "com/example/vidura/vidura/WritingFormWritePinLaw" (33 : Nat) ({ cls := "java/lang/String", name := "equals", desc := "(Ljava/lang/Object;)Z" } : Jvm.MethodName)) : Jvm.Cond).before a0 Z = true := hw _ (List.mem_of_getElem? (i := 191) rfl)
theorem own_w192 {Z : State} {a0 : Array Value} (hw : ∀ d ∈ tables_1, d.before a0 Z = true) : ((Jvm.Cond.declares ({ cls := "java/lang/String", name := "equals", desc := "(Ljava/lang/Object;)Z" } : Jvm.MethodName)) : Jvm.Cond).before a0 Z = true := hw _ (List.mem_of_getElem? (i := 192) rfl)
theorem own_w194 {Z : State} {a0 : Array Value} (hw : ∀ d ∈ tables_1, d.before a0 Z = true) : ((Jvm.Cond.selects "java/lang/String" ({ cls := "java/lang/String", name := "equals", desc := "(Ljava/lang/Object;)Z" } : Jvm.MethodName) ({ cls := "java/lang/String", name := "equals", desc := "(Ljava/lang/Object;)Z" } : Jvm.MethodName)) : Jvm.Cond).before a0 Z = true := hw _ (List.mem_of_getElem? (i := 194) rfl)
theorem own_w193 {Z : State} {a0 : Array Value} (hw : ∀ d ∈ tables_1, d.before a0 Z = true) : ((Jvm.Cond.instanceMethod ({ cls := "java/lang/String", name := "equals", desc := "(Ljava/lang/Object;)Z" } : Jvm.MethodName)) : Jvm.Cond).before a0 Z = true := hw _ (List.mem_of_getElem? (i := 193) rfl)
theorem own_pd22 : parseMethodDescriptor "(Ljava/lang/Object;)Z" = some ⟨[(.object "java/lang/Object")], some .boolean⟩ := by decide +kernel
theorem own_d29_372 : decode code 372 = .ok (.ifCond .eq 38, 3) := by decide +kernel
theorem own_d29_375 : decode code 375 = .ok (.aload 12, 2) := by decide +kernel
theorem own_d29_377 : decode code 377 = .ok (.aload 15, 2) := by decide +kernel
theorem own_d29_379 : decode code 379 = .ok (.invokevirtual 37, 3) := by decide +kernel
theorem own_w200 {Z : State} {a0 : Array Value} (hw : ∀ d ∈ tables_1, d.before a0 Z = true) : ((Jvm.Cond.code ({ cls := "com/example/vidura/vidura/WritingForm", name := "action", desc := "()Ljava/lang/String;" } : Jvm.MethodName) prog_15_method_9_code (1 : Nat) (Option.some (Jvm.ClassFile.FieldType.object "java/lang/String"))) : Jvm.Cond).before a0 Z = true := hw _ (List.mem_of_getElem? (i := 200) rfl)
theorem own_w196 {Z : State} {a0 : Array Value} (hw : ∀ d ∈ tables_1, d.before a0 Z = true) : ((Jvm.Cond.methodLink "com/example/vidura/vidura/WritingFormWritePinLaw" (37 : Nat) ({ cls := "com/example/vidura/vidura/WritingForm", name := "action", desc := "()Ljava/lang/String;" } : Jvm.MethodName)) : Jvm.Cond).before a0 Z = true := hw _ (List.mem_of_getElem? (i := 196) rfl)
theorem own_w197 {Z : State} {a0 : Array Value} (hw : ∀ d ∈ tables_1, d.before a0 Z = true) : ((Jvm.Cond.declares ({ cls := "com/example/vidura/vidura/WritingForm", name := "action", desc := "()Ljava/lang/String;" } : Jvm.MethodName)) : Jvm.Cond).before a0 Z = true := hw _ (List.mem_of_getElem? (i := 197) rfl)
theorem own_w199 {Z : State} {a0 : Array Value} (hw : ∀ d ∈ tables_1, d.before a0 Z = true) : ((Jvm.Cond.selects "com/example/vidura/vidura/WritingForm" ({ cls := "com/example/vidura/vidura/WritingForm", name := "action", desc := "()Ljava/lang/String;" } : Jvm.MethodName) ({ cls := "com/example/vidura/vidura/WritingForm", name := "action", desc := "()Ljava/lang/String;" } : Jvm.MethodName)) : Jvm.Cond).before a0 Z = true := hw _ (List.mem_of_getElem? (i := 199) rfl)
theorem own_w198 {Z : State} {a0 : Array Value} (hw : ∀ d ∈ tables_1, d.before a0 Z = true) : ((Jvm.Cond.instanceMethod ({ cls := "com/example/vidura/vidura/WritingForm", name := "action", desc := "()Ljava/lang/String;" } : Jvm.MethodName)) : Jvm.Cond).before a0 Z = true := hw _ (List.mem_of_getElem? (i := 198) rfl)
theorem own_d29_382 : decode code 382 = .ok (.invokevirtual 33, 3) := by decide +kernel
theorem own_d29_385 : decode code 385 = .ok (.ifCond .eq 25, 3) := by decide +kernel
theorem own_d29_388 : decode code 388 = .ok (.aload 15, 2) := by decide +kernel
theorem own_d29_390 : decode code 390 = .ok (.invokevirtual 40, 3) := by decide +kernel
theorem own_w210 {Z : State} {a0 : Array Value} (hw : ∀ d ∈ tables_1, d.before a0 Z = true) : ((Jvm.Cond.code ({ cls := "com/example/vidura/vidura/WritingForm", name := "fixedRecipient", desc := "()Z" } : Jvm.MethodName) prog_15_method_10_code (1 : Nat) (Option.some Jvm.ClassFile.FieldType.boolean)) : Jvm.Cond).before a0 Z = true := hw _ (List.mem_of_getElem? (i := 210) rfl)
theorem own_w206 {Z : State} {a0 : Array Value} (hw : ∀ d ∈ tables_1, d.before a0 Z = true) : ((Jvm.Cond.methodLink "com/example/vidura/vidura/WritingFormWritePinLaw" (40 : Nat) ({ cls := "com/example/vidura/vidura/WritingForm", name := "fixedRecipient", desc := "()Z" } : Jvm.MethodName)) : Jvm.Cond).before a0 Z = true := hw _ (List.mem_of_getElem? (i := 206) rfl)
theorem own_w207 {Z : State} {a0 : Array Value} (hw : ∀ d ∈ tables_1, d.before a0 Z = true) : ((Jvm.Cond.declares ({ cls := "com/example/vidura/vidura/WritingForm", name := "fixedRecipient", desc := "()Z" } : Jvm.MethodName)) : Jvm.Cond).before a0 Z = true := hw _ (List.mem_of_getElem? (i := 207) rfl)
theorem own_w209 {Z : State} {a0 : Array Value} (hw : ∀ d ∈ tables_1, d.before a0 Z = true) : ((Jvm.Cond.selects "com/example/vidura/vidura/WritingForm" ({ cls := "com/example/vidura/vidura/WritingForm", name := "fixedRecipient", desc := "()Z" } : Jvm.MethodName) ({ cls := "com/example/vidura/vidura/WritingForm", name := "fixedRecipient", desc := "()Z" } : Jvm.MethodName)) : Jvm.Cond).before a0 Z = true := hw _ (List.mem_of_getElem? (i := 209) rfl)
theorem own_w208 {Z : State} {a0 : Array Value} (hw : ∀ d ∈ tables_1, d.before a0 Z = true) : ((Jvm.Cond.instanceMethod ({ cls := "com/example/vidura/vidura/WritingForm", name := "fixedRecipient", desc := "()Z" } : Jvm.MethodName)) : Jvm.Cond).before a0 Z = true := hw _ (List.mem_of_getElem? (i := 208) rfl)
theorem own_d29_393 : decode code 393 = .ok (.ifCond .ne 17, 3) := by decide +kernel
theorem own_d29_396 : decode code 396 = .ok (.aload 15, 2) := by decide +kernel
theorem own_d29_398 : decode code 398 = .ok (.invokevirtual 44, 3) := by decide +kernel
theorem own_w215 {Z : State} {a0 : Array Value} (hw : ∀ d ∈ tables_1, d.before a0 Z = true) : ((Jvm.Cond.code ({ cls := "com/example/vidura/vidura/WritingForm", name := "from", desc := "()Lcom/example/vidura/vidura/Mailbox;" } : Jvm.MethodName) prog_15_method_11_code (1 : Nat) (Option.some (Jvm.ClassFile.FieldType.object "com/example/vidura/vidura/Mailbox"))) : Jvm.Cond).before a0 Z = true := hw _ (List.mem_of_getElem? (i := 215) rfl)
theorem own_pd23 : parseMethodDescriptor "()Lcom/example/vidura/vidura/Mailbox;" = some ⟨[], some (.object "com/example/vidura/vidura/Mailbox")⟩ := by decide +kernel
theorem own_w211 {Z : State} {a0 : Array Value} (hw : ∀ d ∈ tables_1, d.before a0 Z = true) : ((Jvm.Cond.methodLink "com/example/vidura/vidura/WritingFormWritePinLaw" (44 : Nat) ({ cls := "com/example/vidura/vidura/WritingForm", name := "from", desc := "()Lcom/example/vidura/vidura/Mailbox;" } : Jvm.MethodName)) : Jvm.Cond).before a0 Z = true := hw _ (List.mem_of_getElem? (i := 211) rfl)
theorem own_w212 {Z : State} {a0 : Array Value} (hw : ∀ d ∈ tables_1, d.before a0 Z = true) : ((Jvm.Cond.declares ({ cls := "com/example/vidura/vidura/WritingForm", name := "from", desc := "()Lcom/example/vidura/vidura/Mailbox;" } : Jvm.MethodName)) : Jvm.Cond).before a0 Z = true := hw _ (List.mem_of_getElem? (i := 212) rfl)
theorem own_w214 {Z : State} {a0 : Array Value} (hw : ∀ d ∈ tables_1, d.before a0 Z = true) : ((Jvm.Cond.selects "com/example/vidura/vidura/WritingForm" ({ cls := "com/example/vidura/vidura/WritingForm", name := "from", desc := "()Lcom/example/vidura/vidura/Mailbox;" } : Jvm.MethodName) ({ cls := "com/example/vidura/vidura/WritingForm", name := "from", desc := "()Lcom/example/vidura/vidura/Mailbox;" } : Jvm.MethodName)) : Jvm.Cond).before a0 Z = true := hw _ (List.mem_of_getElem? (i := 214) rfl)
theorem own_w213 {Z : State} {a0 : Array Value} (hw : ∀ d ∈ tables_1, d.before a0 Z = true) : ((Jvm.Cond.instanceMethod ({ cls := "com/example/vidura/vidura/WritingForm", name := "from", desc := "()Lcom/example/vidura/vidura/Mailbox;" } : Jvm.MethodName)) : Jvm.Cond).before a0 Z = true := hw _ (List.mem_of_getElem? (i := 213) rfl)
theorem own_d29_401 : decode code 401 = .ok (.aload 14, 2) := by decide +kernel
theorem own_d29_403 : decode code 403 = .ok (.if_acmp .ne 7, 3) := by decide +kernel
theorem own_d29_406 : decode code 406 = .ok (.iconst 1, 1) := by decide +kernel
theorem own_d29_407 : decode code 407 = .ok (.goto 4, 3) := by decide +kernel
theorem own_d29_411 : decode code 411 = .ok (.ireturn, 1) := by decide +kernel
theorem own_d29_147 : decode code 147 = .ok (.new 11, 3) := by decide +kernel
theorem own_d29_150 : decode code 150 = .ok (.dup, 1) := by decide +kernel
theorem own_d29_151 : decode code 151 = .ok (.iconst 2, 1) := by decide +kernel
theorem own_d29_152 : decode code 152 = .ok (.newarray .char, 2) := by decide +kernel
theorem own_d29_154 : decode code 154 = .ok (.dup, 1) := by decide +kernel
theorem own_d29_155 : decode code 155 = .ok (.iconst 0, 1) := by decide +kernel
theorem own_d29_156 : decode code 156 = .ok (.iload 5, 2) := by decide +kernel
theorem own_d29_158 : decode code 158 = .ok (.castore, 1) := by decide +kernel
theorem own_d29_159 : decode code 159 = .ok (.dup, 1) := by decide +kernel
theorem own_d29_160 : decode code 160 = .ok (.iconst 1, 1) := by decide +kernel
theorem own_d29_161 : decode code 161 = .ok (.iload 6, 2) := by decide +kernel
theorem own_d29_163 : decode code 163 = .ok (.castore, 1) := by decide +kernel
theorem own_d29_164 : decode code 164 = .ok (.invokespecial 13, 3) := by decide +kernel
theorem own_d29_167 : decode code 167 = .ok (.astore 11, 2) := by decide +kernel
theorem own_d29_169 : decode code 169 = .ok (.new 11, 3) := by decide +kernel
theorem own_d29_172 : decode code 172 = .ok (.dup, 1) := by decide +kernel
theorem own_d29_173 : decode code 173 = .ok (.bipush 8, 2) := by decide +kernel
theorem own_d29_175 : decode code 175 = .ok (.newarray .char, 2) := by decide +kernel
theorem own_d29_177 : decode code 177 = .ok (.dup, 1) := by decide +kernel
theorem own_d29_178 : decode code 178 = .ok (.iconst 0, 1) := by decide +kernel
theorem own_d29_179 : decode code 179 = .ok (.iload 5, 2) := by decide +kernel
theorem own_d29_181 : decode code 181 = .ok (.castore, 1) := by decide +kernel
theorem own_d29_182 : decode code 182 = .ok (.dup, 1) := by decide +kernel
theorem own_d29_183 : decode code 183 = .ok (.iconst 1, 1) := by decide +kernel
theorem own_d29_184 : decode code 184 = .ok (.iload 6, 2) := by decide +kernel
theorem own_d29_186 : decode code 186 = .ok (.castore, 1) := by decide +kernel
theorem own_d29_187 : decode code 187 = .ok (.dup, 1) := by decide +kernel
theorem own_d29_188 : decode code 188 = .ok (.iconst 2, 1) := by decide +kernel
theorem own_d29_189 : decode code 189 = .ok (.bipush 47, 2) := by decide +kernel
theorem own_d29_191 : decode code 191 = .ok (.castore, 1) := by decide +kernel
theorem own_d29_192 : decode code 192 = .ok (.dup, 1) := by decide +kernel
theorem own_d29_193 : decode code 193 = .ok (.iconst 3, 1) := by decide +kernel
theorem own_d29_194 : decode code 194 = .ok (.bipush 119, 2) := by decide +kernel
theorem own_d29_196 : decode code 196 = .ok (.castore, 1) := by decide +kernel
theorem own_d29_197 : decode code 197 = .ok (.dup, 1) := by decide +kernel
theorem own_d29_198 : decode code 198 = .ok (.iconst 4, 1) := by decide +kernel
theorem own_d29_199 : decode code 199 = .ok (.bipush 114, 2) := by decide +kernel
theorem own_d29_201 : decode code 201 = .ok (.castore, 1) := by decide +kernel
theorem own_d29_202 : decode code 202 = .ok (.dup, 1) := by decide +kernel
theorem own_d29_203 : decode code 203 = .ok (.iconst 5, 1) := by decide +kernel
theorem own_d29_204 : decode code 204 = .ok (.bipush 105, 2) := by decide +kernel
theorem own_d29_206 : decode code 206 = .ok (.castore, 1) := by decide +kernel
theorem own_d29_207 : decode code 207 = .ok (.dup, 1) := by decide +kernel
theorem own_d29_208 : decode code 208 = .ok (.bipush 6, 2) := by decide +kernel
theorem own_d29_210 : decode code 210 = .ok (.bipush 116, 2) := by decide +kernel
theorem own_d29_212 : decode code 212 = .ok (.castore, 1) := by decide +kernel
theorem own_d29_213 : decode code 213 = .ok (.dup, 1) := by decide +kernel
theorem own_d29_214 : decode code 214 = .ok (.bipush 7, 2) := by decide +kernel
theorem own_d29_216 : decode code 216 = .ok (.bipush 101, 2) := by decide +kernel
theorem own_d29_218 : decode code 218 = .ok (.castore, 1) := by decide +kernel
theorem own_d29_219 : decode code 219 = .ok (.invokespecial 13, 3) := by decide +kernel
theorem own_d29_222 : decode code 222 = .ok (.astore 12, 2) := by decide +kernel
theorem own_d29_224 : decode code 224 = .ok (.goto 91, 3) := by decide +kernel
theorem own_d29_72 : decode code 72 = .ok (.new 11, 3) := by decide +kernel
theorem own_d29_75 : decode code 75 = .ok (.dup, 1) := by decide +kernel
theorem own_d29_76 : decode code 76 = .ok (.iconst 1, 1) := by decide +kernel
theorem own_d29_77 : decode code 77 = .ok (.newarray .char, 2) := by decide +kernel
theorem own_d29_79 : decode code 79 = .ok (.dup, 1) := by decide +kernel
theorem own_d29_80 : decode code 80 = .ok (.iconst 0, 1) := by decide +kernel
theorem own_d29_81 : decode code 81 = .ok (.iload 5, 2) := by decide +kernel
theorem own_d29_83 : decode code 83 = .ok (.castore, 1) := by decide +kernel
theorem own_d29_84 : decode code 84 = .ok (.invokespecial 13, 3) := by decide +kernel
theorem own_d29_87 : decode code 87 = .ok (.astore 11, 2) := by decide +kernel
theorem own_d29_89 : decode code 89 = .ok (.new 11, 3) := by decide +kernel
theorem own_d29_92 : decode code 92 = .ok (.dup, 1) := by decide +kernel
theorem own_d29_93 : decode code 93 = .ok (.bipush 7, 2) := by decide +kernel
theorem own_d29_95 : decode code 95 = .ok (.newarray .char, 2) := by decide +kernel
theorem own_d29_97 : decode code 97 = .ok (.dup, 1) := by decide +kernel
theorem own_d29_98 : decode code 98 = .ok (.iconst 0, 1) := by decide +kernel
theorem own_d29_99 : decode code 99 = .ok (.iload 5, 2) := by decide +kernel
theorem own_d29_101 : decode code 101 = .ok (.castore, 1) := by decide +kernel
theorem own_d29_102 : decode code 102 = .ok (.dup, 1) := by decide +kernel
theorem own_d29_103 : decode code 103 = .ok (.iconst 1, 1) := by decide +kernel
theorem own_d29_104 : decode code 104 = .ok (.bipush 47, 2) := by decide +kernel
theorem own_d29_106 : decode code 106 = .ok (.castore, 1) := by decide +kernel
theorem own_d29_107 : decode code 107 = .ok (.dup, 1) := by decide +kernel
theorem own_d29_108 : decode code 108 = .ok (.iconst 2, 1) := by decide +kernel
theorem own_d29_109 : decode code 109 = .ok (.bipush 119, 2) := by decide +kernel
theorem own_d29_111 : decode code 111 = .ok (.castore, 1) := by decide +kernel
theorem own_d29_112 : decode code 112 = .ok (.dup, 1) := by decide +kernel
theorem own_d29_113 : decode code 113 = .ok (.iconst 3, 1) := by decide +kernel
theorem own_d29_114 : decode code 114 = .ok (.bipush 114, 2) := by decide +kernel
theorem own_d29_116 : decode code 116 = .ok (.castore, 1) := by decide +kernel
theorem own_d29_117 : decode code 117 = .ok (.dup, 1) := by decide +kernel
theorem own_d29_118 : decode code 118 = .ok (.iconst 4, 1) := by decide +kernel
theorem own_d29_119 : decode code 119 = .ok (.bipush 105, 2) := by decide +kernel
theorem own_d29_121 : decode code 121 = .ok (.castore, 1) := by decide +kernel
theorem own_d29_122 : decode code 122 = .ok (.dup, 1) := by decide +kernel
theorem own_d29_123 : decode code 123 = .ok (.iconst 5, 1) := by decide +kernel
theorem own_d29_124 : decode code 124 = .ok (.bipush 116, 2) := by decide +kernel
theorem own_d29_126 : decode code 126 = .ok (.castore, 1) := by decide +kernel
theorem own_d29_127 : decode code 127 = .ok (.dup, 1) := by decide +kernel
theorem own_d29_128 : decode code 128 = .ok (.bipush 6, 2) := by decide +kernel
theorem own_d29_130 : decode code 130 = .ok (.bipush 101, 2) := by decide +kernel
theorem own_d29_132 : decode code 132 = .ok (.castore, 1) := by decide +kernel
theorem own_d29_133 : decode code 133 = .ok (.invokespecial 13, 3) := by decide +kernel
theorem own_d29_136 : decode code 136 = .ok (.astore 12, 2) := by decide +kernel
theorem own_d29_138 : decode code 138 = .ok (.goto 177, 3) := by decide +kernel
theorem own_d29_55 : decode code 55 = .ok (.ldc 7, 2) := by decide +kernel
theorem own_w0 {Z : State} {a0 : Array Value} (hw : ∀ d ∈ tables_1, d.before a0 Z = true) : ((Jvm.Cond.stringLink "com/example/vidura/vidura/WritingFormWritePinLaw" (7 : Nat) "") : Jvm.Cond).before a0 Z = true := hw _ (List.mem_of_getElem? (i := 0) rfl)
theorem own_d29_57 : decode code 57 = .ok (.astore 11, 2) := by decide +kernel
theorem own_d29_59 : decode code 59 = .ok (.ldc 9, 2) := by decide +kernel
theorem own_w8 {Z : State} {a0 : Array Value} (hw : ∀ d ∈ tables_1, d.before a0 Z = true) : ((Jvm.Cond.stringLink "com/example/vidura/vidura/WritingFormWritePinLaw" (9 : Nat) "/write") : Jvm.Cond).before a0 Z = true := hw _ (List.mem_of_getElem? (i := 8) rfl)
theorem own_d29_61 : decode code 61 = .ok (.astore 12, 2) := by decide +kernel
theorem own_d29_63 : decode code 63 = .ok (.goto 252, 3) := by decide +kernel
theorem own_ef_law (m : MethodId) (i0 : Int32) (i1 : Int32) (i2 : Int32) (i3 : Int32) (i4 : Int32) : entryFrame m #[(.int i0), (.int i1), (.int i2), (.int i3), (.int i4)] maxLocals = mkF m 0 #[.val (.int i0), .val (.int i1), .val (.int i2), .val (.int i3), .val (.int i4), .unset, .unset, .unset, .unset, .unset, .unset, .unset, .unset, .unset, .unset, .unset] [] := by first | (simp [entryFrame, mkF, argsToLocals, Value.category, maxLocals]; done) | rfl
theorem own_pf29 : plainFor (⟨"com/example/vidura/vidura/WritingFormWritePinLaw", "law", "(IIIII)Z"⟩ : MethodName) = true := by first | exact plainFor_of_name (by first | (simp [plainName, overriddenIn]; done) | decide +kernel) | decide +kernel
def own_Q_law (Z : State) (h0 : Heap) (i0 : Int32) (i1 : Int32) (i2 : Int32) (i3 : Int32) (i4 : Int32) (z5 : Int32) (v : Option Value) (h : Heap) (ms : List Addr) : Prop := (Keep h0 h []) ∧ (ms = []) ∧ (v = some (.int 1))
set_option maxRecDepth 65536 in
set_option maxHeartbeats 40000000 in
theorem own_ct_law (l : Launch) (Z : State) (a0 : Array Value) (hw : ∀ d ∈ tables_1, d.before a0 Z = true) (EL : List (String × Nat)) (hE : EW Z a0 EL) (n0 : Nat) (ws : List Jvm.Cond) (h0 : Heap) (O : Old Z n0 h0) (i0 : Int32) (i1 : Int32) (i2 : Int32) (i3 : Int32) (i4 : Int32) (z5 : Int32) (S_COMPACT_STRINGS : Sta Z Z.heap "java/lang/String" "COMPACT_STRINGS" "Z" (.int z5)) (P5 : ¬ z5 = 0) (hE24 : ("com/example/vidura/vidura/WritingForm", 24) ∈ EL) (hE28 : ("com/example/vidura/vidura/WritingForm", 28) ∈ EL) (hE7 : ("com/example/vidura/vidura/WritingFormWritePinLaw", 7) ∈ EL) (hE9 : ("com/example/vidura/vidura/WritingFormWritePinLaw", 9) ∈ EL) (hE27 : ("com/example/vidura/vidura/WritingFormWritePinLaw", 27) ∈ EL) :
    own_Ct l Z EL n0 x code maxLocals ret ws room_1 #[(.int i0), (.int i1), (.int i2), (.int i3), (.int i4)] h0 [] (own_Q_law Z h0 i0 i1 i2 i3 i4 z5) := by
 refine own_enter (a0 := a0) own_pf29 hE O fun p e s m below meth c T0 w0 => ?_
 rw [own_ef_law m i0 i1 i2 i3 i4]
 have K : Keep h0 h0 [] := Keep.refl _ _
 refine own_iloadN (pc' := 1) w0 own_d29_0 rfl rfl ?_
 refine own_sipush (pc' := 4) w0 own_d29_1 (x := (255 : Int32)) rfl rfl ?_
 refine own_iand (pc' := 5) w0 own_d29_4 (z := (i1 &&& (255 : Int32))) rfl rfl ?_
 refine own_i2c (pc' := 6) w0 own_d29_5 (z := (i1 &&& (255 : Int32))) (i2c_mask i1) rfl ?_
 refine own_istore (pc' := 8) w0 own_d29_6 (Ls' := #[.val (.int i0), .val (.int i1), .val (.int i2), .val (.int i3), .val (.int i4), .val (.int (i1 &&& (255 : Int32))), .unset, .unset, .unset, .unset, .unset, .unset, .unset, .unset, .unset, .unset]) rfl rfl ?_
 refine own_iloadN (pc' := 9) w0 own_d29_8 rfl rfl ?_
 refine own_sipush (pc' := 12) w0 own_d29_9 (x := (255 : Int32)) rfl rfl ?_
 refine own_iand (pc' := 13) w0 own_d29_12 (z := (i2 &&& (255 : Int32))) rfl rfl ?_
 refine own_i2c (pc' := 14) w0 own_d29_13 (z := (i2 &&& (255 : Int32))) (i2c_mask i2) rfl ?_
 refine own_istore (pc' := 16) w0 own_d29_14 (Ls' := #[.val (.int i0), .val (.int i1), .val (.int i2), .val (.int i3), .val (.int i4), .val (.int (i1 &&& (255 : Int32))), .val (.int (i2 &&& (255 : Int32))), .unset, .unset, .unset, .unset, .unset, .unset, .unset, .unset, .unset]) rfl rfl ?_
 refine own_iloadN (pc' := 17) w0 own_d29_16 rfl rfl ?_
 refine own_sipush (pc' := 20) w0 own_d29_17 (x := (255 : Int32)) rfl rfl ?_
 refine own_iand (pc' := 21) w0 own_d29_20 (z := (i3 &&& (255 : Int32))) rfl rfl ?_
 refine own_i2c (pc' := 22) w0 own_d29_21 (z := (i3 &&& (255 : Int32))) (i2c_mask i3) rfl ?_
 refine own_istore (pc' := 24) w0 own_d29_22 (Ls' := #[.val (.int i0), .val (.int i1), .val (.int i2), .val (.int i3), .val (.int i4), .val (.int (i1 &&& (255 : Int32))), .val (.int (i2 &&& (255 : Int32))), .val (.int (i3 &&& (255 : Int32))), .unset, .unset, .unset, .unset, .unset, .unset, .unset, .unset]) rfl rfl ?_
 refine own_iload (pc' := 26) w0 own_d29_24 rfl rfl ?_
 refine own_sipush (pc' := 29) w0 own_d29_26 (x := (255 : Int32)) rfl rfl ?_
 refine own_iand (pc' := 30) w0 own_d29_29 (z := (i4 &&& (255 : Int32))) rfl rfl ?_
 refine own_i2c (pc' := 31) w0 own_d29_30 (z := (i4 &&& (255 : Int32))) (i2c_mask i4) rfl ?_
 refine own_istore (pc' := 33) w0 own_d29_31 (Ls' := #[.val (.int i0), .val (.int i1), .val (.int i2), .val (.int i3), .val (.int i4), .val (.int (i1 &&& (255 : Int32))), .val (.int (i2 &&& (255 : Int32))), .val (.int (i3 &&& (255 : Int32))), .val (.int (i4 &&& (255 : Int32))), .unset, .unset, .unset, .unset, .unset, .unset, .unset]) rfl rfl ?_
 refine own_iload (pc' := 35) w0 own_d29_33 rfl rfl ?_
 refine own_bipush (pc' := 37) w0 own_d29_35 (x := (8 : Int32)) rfl rfl ?_
 refine own_iushr (pc' := 38) w0 own_d29_37 (z := (XT.ushr i4 (8 : Int32))) rfl rfl ?_
 refine own_sipush (pc' := 41) w0 own_d29_38 (x := (255 : Int32)) rfl rfl ?_
 refine own_iand (pc' := 42) w0 own_d29_41 (z := ((XT.ushr i4 (8 : Int32)) &&& (255 : Int32))) rfl rfl ?_
 refine own_i2c (pc' := 43) w0 own_d29_42 (z := ((XT.ushr i4 (8 : Int32)) &&& (255 : Int32))) (i2c_mask _) rfl ?_
 refine own_istore (pc' := 45) w0 own_d29_43 (Ls' := #[.val (.int i0), .val (.int i1), .val (.int i2), .val (.int i3), .val (.int i4), .val (.int (i1 &&& (255 : Int32))), .val (.int (i2 &&& (255 : Int32))), .val (.int (i3 &&& (255 : Int32))), .val (.int (i4 &&& (255 : Int32))), .val (.int ((XT.ushr i4 (8 : Int32)) &&& (255 : Int32))), .unset, .unset, .unset, .unset, .unset, .unset]) rfl rfl ?_
 refine own_iloadN (pc' := 46) w0 own_d29_45 rfl rfl ?_
 refine own_iconst (pc' := 47) w0 own_d29_46 (x := (3 : Int32)) rfl rfl ?_
 refine own_iand (pc' := 48) w0 own_d29_47 (z := (i0 &&& (3 : Int32))) rfl rfl ?_
 refine own_istore (pc' := 50) w0 own_d29_48 (Ls' := #[.val (.int i0), .val (.int i1), .val (.int i2), .val (.int i3), .val (.int i4), .val (.int (i1 &&& (255 : Int32))), .val (.int (i2 &&& (255 : Int32))), .val (.int (i3 &&& (255 : Int32))), .val (.int (i4 &&& (255 : Int32))), .val (.int ((XT.ushr i4 (8 : Int32)) &&& (255 : Int32))), .val (.int (i0 &&& (3 : Int32))), .unset, .unset, .unset, .unset, .unset]) rfl rfl ?_
 refine own_iload (pc' := 52) w0 own_d29_50 rfl rfl ?_
 refine own_if (pc' := 55) w0 own_d29_52 rfl (by decide) (pcY := 66) rfl (fun (hb52 : ¬ (i0 &&& (3 : Int32)) = (0 : Int32)) => ?_) (fun (hb52 : (i0 &&& (3 : Int32)) = (0 : Int32)) => ?_)
 ·
  refine own_iload (pc' := 68) w0 own_d29_66 rfl rfl ?_
  refine own_iconst (pc' := 69) w0 own_d29_68 (x := (1 : Int32)) rfl rfl ?_
  refine own_icmp (pc' := 72) w0 own_d29_69 rfl (by decide) (pcY := 141) rfl (fun (hb69 : ¬ (i0 &&& (3 : Int32)) = (1 : Int32)) => ?_) (fun (hb69 : (i0 &&& (3 : Int32)) = (1 : Int32)) => ?_)
  ·
   refine own_iload (pc' := 143) w0 own_d29_141 rfl rfl ?_
   refine own_iconst (pc' := 144) w0 own_d29_143 (x := (2 : Int32)) rfl rfl ?_
   refine own_icmp (pc' := 147) w0 own_d29_144 rfl (by decide) (pcY := 227) rfl (fun (hb144 : ¬ (i0 &&& (3 : Int32)) = (2 : Int32)) => ?_) (fun (hb144 : (i0 &&& (3 : Int32)) = (2 : Int32)) => ?_)
   ·
    refine own_newO (pc' := 230) w0 (own_w9 hw) (own_w2 hw) (own_w1 hw) own_d29_227 rfl (by decide) (by decide) fun T1 h3 a5 g_a5 w2 E4 ⟨E_a5, D6⟩ => ?_
    have nw_a5 : h0.size ≤ a5 := Nat.le_trans K.1 (Nat.le_of_eq g_a5)
    replace K := K.ext E4
    have F_a5_value : Fld Z h3 a5 "java/lang/String" "value" "[B" .null := D6 (Or.inr (own_w4 hw)) (ty := (.array .byte)) (by decide)
    have F_a5_coder : Fld Z h3 a5 "java/lang/String" "coder" "B" (.int 0) := D6 (Or.inr (own_w5 hw)) (ty := .byte) (by decide)
    refine own_dup (pc' := 231) w2 own_d29_230 rfl rfl ?_
    refine own_iconst (pc' := 232) w2 own_d29_231 (x := (3 : Int32)) rfl rfl ?_
    refine own_newP (pc' := 234) w2 (aty := .char) (z := (3 : Int32)) (vs := [(.int 0), (.int 0), (.int 0)]) (dv := (.int 0)) (cap := 3) (own_w10 hw) own_d29_232 rfl (by decide) (by decide) (by decide) rfl (own_rep 3 (.int 0)) (by decide) (by decide) fun T7 h9 a11 g_a11 w8 E10 ⟨k_a11, A_a11⟩ => ?_
    have ne_a5_a11 : a5 ≠ a11 := Nat.ne_of_lt (Nat.lt_of_lt_of_le E_a5.lt (Nat.le_of_eq g_a11))
    have nw_a11 : h0.size ≤ a11 := Nat.le_trans K.1 (Nat.le_of_eq g_a11)
    replace E_a5 := E_a5.ext E10
    replace F_a5_value := F_a5_value.ext E10
    replace F_a5_coder := F_a5_coder.ext E10
    replace K := K.ext E10
    refine own_dup (pc' := 235) w8 own_d29_234 rfl rfl ?_
    refine own_iconst (pc' := 236) w8 own_d29_235 (x := (0 : Int32)) rfl rfl ?_
    refine own_iload (pc' := 238) w8 own_d29_236 rfl rfl ?_
    refine own_stC (pc' := 239) w8 (i := 0) (xv := (.int (i1 &&& (255 : Int32)))) (vs' := [(.int (i1 &&& (255 : Int32))), (.int 0), (.int 0)]) (by simp) A_a11 (by decide) rfl (Nat.lt_of_sub_eq_succ rfl) (own_ncB (own_and255 i1)) (own_fcB (own_and255 i1)) rfl own_d29_238 rfl fun T12 h14 w13 W15 A_new => ?_
    clear A_a11
    replace E_a5 := E_a5.wr W15
    replace F_a5_value := F_a5_value.other W15 (Or.inl ne_a5_a11)
    replace F_a5_coder := F_a5_coder.other W15 (Or.inl ne_a5_a11)
    replace K := K.wr W15 (Or.inr nw_a11)
    have A_a11 := A_new
    clear A_new
    refine own_dup (pc' := 240) w13 own_d29_239 rfl rfl ?_
    refine own_iconst (pc' := 241) w13 own_d29_240 (x := (1 : Int32)) rfl rfl ?_
    refine own_iload (pc' := 243) w13 own_d29_241 rfl rfl ?_
    refine own_stC (pc' := 244) w13 (i := 1) (xv := (.int (i2 &&& (255 : Int32)))) (vs' := [(.int (i1 &&& (255 : Int32))), (.int (i2 &&& (255 : Int32))), (.int 0)]) (by simp) A_a11 (by decide) rfl (Nat.lt_of_sub_eq_succ rfl) (own_ncB (own_and255 i2)) (own_fcB (own_and255 i2)) rfl own_d29_243 rfl fun T16 h18 w17 W19 A_new => ?_
    clear A_a11
    replace E_a5 := E_a5.wr W19
    replace F_a5_value := F_a5_value.other W19 (Or.inl ne_a5_a11)
    replace F_a5_coder := F_a5_coder.other W19 (Or.inl ne_a5_a11)
    replace K := K.wr W19 (Or.inr nw_a11)
    have A_a11 := A_new
    clear A_new
    refine own_dup (pc' := 245) w17 own_d29_244 rfl rfl ?_
    refine own_iconst (pc' := 246) w17 own_d29_245 (x := (2 : Int32)) rfl rfl ?_
    refine own_iload (pc' := 248) w17 own_d29_246 rfl rfl ?_
    refine own_stC (pc' := 249) w17 (i := 2) (xv := (.int (i3 &&& (255 : Int32)))) (vs' := [(.int (i1 &&& (255 : Int32))), (.int (i2 &&& (255 : Int32))), (.int (i3 &&& (255 : Int32)))]) (by simp) A_a11 (by decide) rfl (Nat.lt_of_sub_eq_succ rfl) (own_ncB (own_and255 i3)) (own_fcB (own_and255 i3)) rfl own_d29_248 rfl fun T20 h22 w21 W23 A_new => ?_
    clear A_a11
    replace E_a5 := E_a5.wr W23
    replace F_a5_value := F_a5_value.other W23 (Or.inl ne_a5_a11)
    replace F_a5_coder := F_a5_coder.other W23 (Or.inl ne_a5_a11)
    replace K := K.wr W23 (Or.inr nw_a11)
    have A_a11 := A_new
    clear A_new
    refine own_callIB (pc' := 252) w21 (bytes' := jdk_42_method_3_code) rfl (own_w11 hw) (own_w12 hw) (own_w13 hw) (by decide) (fun s' hZ' => StrChars.Road.backV (W := 1) hZ' (own_hws hw) (kI := 4) (own_w2 hw) (cs := [(i1 &&& (255 : Int32)), (i2 &&& (255 : Int32)), (i3 &&& (255 : Int32))]) (n := 3) (n0 := n0) (own_mine w21 a5 (by simp)).1 (own_n0 (own_old w21)) E_a5 F_a5_value F_a5_coder A_a11 (S_COMPACT_STRINGS.ext (own_old w21).2) P5 rfl rfl (by decide) (by decide) (own_allS (own_and255 i1) (own_allS (own_and255 i2) (own_allS (own_and255 i3) own_all0))) rfl (by decide) (by decide)) (ws := [a5]) (allS (P := fun x => x ∈ _) (by simp) all0) (fun v h' L q => ⟨q.2.2.1, q.2.1⟩) (argsL := [.ref a11]) (rest := [(.ref a5)]) rfl rfl own_pd19 rfl own_d29_249 rfl (Nat.le_of_eq rfl) (by decide) (by decide) fun T24 h26 v27 w25 K28 q29 => ?_
    obtain ⟨_, rfl, -, -, nw_E, nw_C, t30, kb31, -, le_t30, ne_t30, nw_V, nw_A⟩ := q29
    have ne_a11_t30 : a11 ≠ t30 := Nat.ne_of_lt (Nat.lt_of_lt_of_le A_a11.lt le_t30)
    have ne_a5_t30 : a5 ≠ t30 := Nat.ne_of_lt (Nat.lt_of_lt_of_le E_a5.lt le_t30)
    have nw_t30 : h0.size ≤ t30 := Nat.le_trans K.1 le_t30
    replace A_a11 := A_a11.keep K28 (ninS (Ne.symm ne_a5_a11) nin0)
    replace K := K.trans K28 (allS (P := fun x => x ∈ ([] : List Addr) ∨ h0.size ≤ x) (Or.inr nw_a5) all0)
    have E_a5 := nw_E; have F_a5_coder := nw_C; have F_a5_value := nw_V; have A_t30 := nw_A; clear nw_E nw_C nw_V nw_A
    show own_Go Z EL n0 p e below s _ _ _ (T24.setTop (mkF m 252 _ [(.ref a5)]))
    refine own_astore (pc' := 254) w25 own_d29_252 rfl (Ls' := #[.val (.int i0), .val (.int i1), .val (.int i2), .val (.int i3), .val (.int i4), .val (.int (i1 &&& (255 : Int32))), .val (.int (i2 &&& (255 : Int32))), .val (.int (i3 &&& (255 : Int32))), .val (.int (i4 &&& (255 : Int32))), .val (.int ((XT.ushr i4 (8 : Int32)) &&& (255 : Int32))), .val (.int (i0 &&& (3 : Int32))), .val (.ref a5), .unset, .unset, .unset, .unset]) rfl rfl ?_
    refine own_newO (pc' := 257) w25 (own_w9 hw) (own_w2 hw) (own_w1 hw) own_d29_254 rfl (by decide) (by decide) fun T32 h34 a36 g_a36 w33 E35 ⟨E_a36, D37⟩ => ?_
    have ne_a11_a36 : a11 ≠ a36 := Nat.ne_of_lt (Nat.lt_of_lt_of_le A_a11.lt (Nat.le_of_eq g_a36))
    have ne_a5_a36 : a5 ≠ a36 := Nat.ne_of_lt (Nat.lt_of_lt_of_le E_a5.lt (Nat.le_of_eq g_a36))
    have ne_t30_a36 : t30 ≠ a36 := Nat.ne_of_lt (Nat.lt_of_lt_of_le A_t30.lt (Nat.le_of_eq g_a36))
    have nw_a36 : h0.size ≤ a36 := Nat.le_trans K.1 (Nat.le_of_eq g_a36)
    replace A_a11 := A_a11.ext E35
    replace E_a5 := E_a5.ext E35
    replace F_a5_coder := F_a5_coder.ext E35
    replace F_a5_value := F_a5_value.ext E35
    replace A_t30 := A_t30.ext E35
    replace K := K.ext E35
    have F_a36_value : Fld Z h34 a36 "java/lang/String" "value" "[B" .null := D37 (Or.inr (own_w4 hw)) (ty := (.array .byte)) (by decide)
    have F_a36_coder : Fld Z h34 a36 "java/lang/String" "coder" "B" (.int 0) := D37 (Or.inr (own_w5 hw)) (ty := .byte) (by decide)
    refine own_dup (pc' := 258) w33 own_d29_257 rfl rfl ?_
    refine own_bipush (pc' := 260) w33 own_d29_258 (x := (9 : Int32)) rfl rfl ?_
    refine own_newP (pc' := 262) w33 (aty := .char) (z := (9 : Int32)) (vs := [(.int 0), (.int 0), (.int 0), (.int 0), (.int 0), (.int 0), (.int 0), (.int 0), (.int 0)]) (dv := (.int 0)) (cap := 9) (own_w10 hw) own_d29_260 rfl (by decide) (by decide) (by decide) rfl (own_rep 9 (.int 0)) (by decide) (by decide) fun T38 h40 a42 g_a42 w39 E41 ⟨k_a42, A_a42⟩ => ?_
    have ne_a11_a42 : a11 ≠ a42 := Nat.ne_of_lt (Nat.lt_of_lt_of_le A_a11.lt (Nat.le_of_eq g_a42))
    have ne_a36_a42 : a36 ≠ a42 := Nat.ne_of_lt (Nat.lt_of_lt_of_le E_a36.lt (Nat.le_of_eq g_a42))
    have ne_a5_a42 : a5 ≠ a42 := Nat.ne_of_lt (Nat.lt_of_lt_of_le E_a5.lt (Nat.le_of_eq g_a42))
    have ne_t30_a42 : t30 ≠ a42 := Nat.ne_of_lt (Nat.lt_of_lt_of_le A_t30.lt (Nat.le_of_eq g_a42))
    have nw_a42 : h0.size ≤ a42 := Nat.le_trans K.1 (Nat.le_of_eq g_a42)
    replace A_a11 := A_a11.ext E41
    replace E_a5 := E_a5.ext E41
    replace F_a5_coder := F_a5_coder.ext E41
    replace F_a5_value := F_a5_value.ext E41
    replace A_t30 := A_t30.ext E41
    replace E_a36 := E_a36.ext E41
    replace F_a36_value := F_a36_value.ext E41
    replace F_a36_coder := F_a36_coder.ext E41
    replace K := K.ext E41
    refine own_dup (pc' := 263) w39 own_d29_262 rfl rfl ?_
    refine own_iconst (pc' := 264) w39 own_d29_263 (x := (0 : Int32)) rfl rfl ?_
    refine own_iload (pc' := 266) w39 own_d29_264 rfl rfl ?_
    refine own_stC (pc' := 267) w39 (i := 0) (xv := (.int (i1 &&& (255 : Int32)))) (vs' := [(.int (i1 &&& (255 : Int32))), (.int 0), (.int 0), (.int 0), (.int 0), (.int 0), (.int 0), (.int 0), (.int 0)]) (by simp) A_a42 (by decide) rfl (Nat.lt_of_sub_eq_succ rfl) (own_ncB (own_and255 i1)) (own_fcB (own_and255 i1)) rfl own_d29_266 rfl fun T43 h45 w44 W46 A_new => ?_
    clear A_a42
    replace A_a11 := A_a11.other W46 ne_a11_a42
    replace E_a5 := E_a5.wr W46
    replace F_a5_coder := F_a5_coder.other W46 (Or.inl ne_a5_a42)
    replace F_a5_value := F_a5_value.other W46 (Or.inl ne_a5_a42)
    replace A_t30 := A_t30.other W46 ne_t30_a42
    replace E_a36 := E_a36.wr W46
    replace F_a36_value := F_a36_value.other W46 (Or.inl ne_a36_a42)
    replace F_a36_coder := F_a36_coder.other W46 (Or.inl ne_a36_a42)
    replace K := K.wr W46 (Or.inr nw_a42)
    have A_a42 := A_new
    clear A_new
    refine own_dup (pc' := 268) w44 own_d29_267 rfl rfl ?_
    refine own_iconst (pc' := 269) w44 own_d29_268 (x := (1 : Int32)) rfl rfl ?_
    refine own_iload (pc' := 271) w44 own_d29_269 rfl rfl ?_
    refine own_stC (pc' := 272) w44 (i := 1) (xv := (.int (i2 &&& (255 : Int32)))) (vs' := [(.int (i1 &&& (255 : Int32))), (.int (i2 &&& (255 : Int32))), (.int 0), (.int 0), (.int 0), (.int 0), (.int 0), (.int 0), (.int 0)]) (by simp) A_a42 (by decide) rfl (Nat.lt_of_sub_eq_succ rfl) (own_ncB (own_and255 i2)) (own_fcB (own_and255 i2)) rfl own_d29_271 rfl fun T47 h49 w48 W50 A_new => ?_
    clear A_a42
    replace A_a11 := A_a11.other W50 ne_a11_a42
    replace E_a5 := E_a5.wr W50
    replace F_a5_coder := F_a5_coder.other W50 (Or.inl ne_a5_a42)
    replace F_a5_value := F_a5_value.other W50 (Or.inl ne_a5_a42)
    replace A_t30 := A_t30.other W50 ne_t30_a42
    replace E_a36 := E_a36.wr W50
    replace F_a36_value := F_a36_value.other W50 (Or.inl ne_a36_a42)
    replace F_a36_coder := F_a36_coder.other W50 (Or.inl ne_a36_a42)
    replace K := K.wr W50 (Or.inr nw_a42)
    have A_a42 := A_new
    clear A_new
    refine own_dup (pc' := 273) w48 own_d29_272 rfl rfl ?_
    refine own_iconst (pc' := 274) w48 own_d29_273 (x := (2 : Int32)) rfl rfl ?_
    refine own_iload (pc' := 276) w48 own_d29_274 rfl rfl ?_
    refine own_stC (pc' := 277) w48 (i := 2) (xv := (.int (i3 &&& (255 : Int32)))) (vs' := [(.int (i1 &&& (255 : Int32))), (.int (i2 &&& (255 : Int32))), (.int (i3 &&& (255 : Int32))), (.int 0), (.int 0), (.int 0), (.int 0), (.int 0), (.int 0)]) (by simp) A_a42 (by decide) rfl (Nat.lt_of_sub_eq_succ rfl) (own_ncB (own_and255 i3)) (own_fcB (own_and255 i3)) rfl own_d29_276 rfl fun T51 h53 w52 W54 A_new => ?_
    clear A_a42
    replace A_a11 := A_a11.other W54 ne_a11_a42
    replace E_a5 := E_a5.wr W54
    replace F_a5_coder := F_a5_coder.other W54 (Or.inl ne_a5_a42)
    replace F_a5_value := F_a5_value.other W54 (Or.inl ne_a5_a42)
    replace A_t30 := A_t30.other W54 ne_t30_a42
    replace E_a36 := E_a36.wr W54
    replace F_a36_value := F_a36_value.other W54 (Or.inl ne_a36_a42)
    replace F_a36_coder := F_a36_coder.other W54 (Or.inl ne_a36_a42)
    replace K := K.wr W54 (Or.inr nw_a42)
    have A_a42 := A_new
    clear A_new
    refine own_dup (pc' := 278) w52 own_d29_277 rfl rfl ?_
    refine own_iconst (pc' := 279) w52 own_d29_278 (x := (3 : Int32)) rfl rfl ?_
    refine own_bipush (pc' := 281) w52 own_d29_279 (x := (47 : Int32)) rfl rfl ?_
    refine own_stC (pc' := 282) w52 (i := 3) (xv := (.int 47)) (vs' := [(.int (i1 &&& (255 : Int32))), (.int (i2 &&& (255 : Int32))), (.int (i3 &&& (255 : Int32))), (.int 47), (.int 0), (.int 0), (.int 0), (.int 0), (.int 0)]) (by simp) A_a42 (by decide) rfl (Nat.lt_of_sub_eq_succ rfl) (own_ncB (by decide)) (own_fcB (by decide)) rfl own_d29_281 rfl fun T55 h57 w56 W58 A_new => ?_
    clear A_a42
    replace A_a11 := A_a11.other W58 ne_a11_a42
    replace E_a5 := E_a5.wr W58
    replace F_a5_coder := F_a5_coder.other W58 (Or.inl ne_a5_a42)
    replace F_a5_value := F_a5_value.other W58 (Or.inl ne_a5_a42)
    replace A_t30 := A_t30.other W58 ne_t30_a42
    replace E_a36 := E_a36.wr W58
    replace F_a36_value := F_a36_value.other W58 (Or.inl ne_a36_a42)
    replace F_a36_coder := F_a36_coder.other W58 (Or.inl ne_a36_a42)
    replace K := K.wr W58 (Or.inr nw_a42)
    have A_a42 := A_new
    clear A_new
    refine own_dup (pc' := 283) w56 own_d29_282 rfl rfl ?_
    refine own_iconst (pc' := 284) w56 own_d29_283 (x := (4 : Int32)) rfl rfl ?_
    refine own_bipush (pc' := 286) w56 own_d29_284 (x := (119 : Int32)) rfl rfl ?_
    refine own_stC (pc' := 287) w56 (i := 4) (xv := (.int 119)) (vs' := [(.int (i1 &&& (255 : Int32))), (.int (i2 &&& (255 : Int32))), (.int (i3 &&& (255 : Int32))), (.int 47), (.int 119), (.int 0), (.int 0), (.int 0), (.int 0)]) (by simp) A_a42 (by decide) rfl (Nat.lt_of_sub_eq_succ rfl) (own_ncB (by decide)) (own_fcB (by decide)) rfl own_d29_286 rfl fun T59 h61 w60 W62 A_new => ?_
    clear A_a42
    replace A_a11 := A_a11.other W62 ne_a11_a42
    replace E_a5 := E_a5.wr W62
    replace F_a5_coder := F_a5_coder.other W62 (Or.inl ne_a5_a42)
    replace F_a5_value := F_a5_value.other W62 (Or.inl ne_a5_a42)
    replace A_t30 := A_t30.other W62 ne_t30_a42
    replace E_a36 := E_a36.wr W62
    replace F_a36_value := F_a36_value.other W62 (Or.inl ne_a36_a42)
    replace F_a36_coder := F_a36_coder.other W62 (Or.inl ne_a36_a42)
    replace K := K.wr W62 (Or.inr nw_a42)
    have A_a42 := A_new
    clear A_new
    refine own_dup (pc' := 288) w60 own_d29_287 rfl rfl ?_
    refine own_iconst (pc' := 289) w60 own_d29_288 (x := (5 : Int32)) rfl rfl ?_
    refine own_bipush (pc' := 291) w60 own_d29_289 (x := (114 : Int32)) rfl rfl ?_
    refine own_stC (pc' := 292) w60 (i := 5) (xv := (.int 114)) (vs' := [(.int (i1 &&& (255 : Int32))), (.int (i2 &&& (255 : Int32))), (.int (i3 &&& (255 : Int32))), (.int 47), (.int 119), (.int 114), (.int 0), (.int 0), (.int 0)]) (by simp) A_a42 (by decide) rfl (Nat.lt_of_sub_eq_succ rfl) (own_ncB (by decide)) (own_fcB (by decide)) rfl own_d29_291 rfl fun T63 h65 w64 W66 A_new => ?_
    clear A_a42
    replace A_a11 := A_a11.other W66 ne_a11_a42
    replace E_a5 := E_a5.wr W66
    replace F_a5_coder := F_a5_coder.other W66 (Or.inl ne_a5_a42)
    replace F_a5_value := F_a5_value.other W66 (Or.inl ne_a5_a42)
    replace A_t30 := A_t30.other W66 ne_t30_a42
    replace E_a36 := E_a36.wr W66
    replace F_a36_value := F_a36_value.other W66 (Or.inl ne_a36_a42)
    replace F_a36_coder := F_a36_coder.other W66 (Or.inl ne_a36_a42)
    replace K := K.wr W66 (Or.inr nw_a42)
    have A_a42 := A_new
    clear A_new
    refine own_dup (pc' := 293) w64 own_d29_292 rfl rfl ?_
    refine own_bipush (pc' := 295) w64 own_d29_293 (x := (6 : Int32)) rfl rfl ?_
    refine own_bipush (pc' := 297) w64 own_d29_295 (x := (105 : Int32)) rfl rfl ?_
    refine own_stC (pc' := 298) w64 (i := 6) (xv := (.int 105)) (vs' := [(.int (i1 &&& (255 : Int32))), (.int (i2 &&& (255 : Int32))), (.int (i3 &&& (255 : Int32))), (.int 47), (.int 119), (.int 114), (.int 105), (.int 0), (.int 0)]) (by simp) A_a42 (by decide) rfl (Nat.lt_of_sub_eq_succ rfl) (own_ncB (by decide)) (own_fcB (by decide)) rfl own_d29_297 rfl fun T67 h69 w68 W70 A_new => ?_
    clear A_a42
    replace A_a11 := A_a11.other W70 ne_a11_a42
    replace E_a5 := E_a5.wr W70
    replace F_a5_coder := F_a5_coder.other W70 (Or.inl ne_a5_a42)
    replace F_a5_value := F_a5_value.other W70 (Or.inl ne_a5_a42)
    replace A_t30 := A_t30.other W70 ne_t30_a42
    replace E_a36 := E_a36.wr W70
    replace F_a36_value := F_a36_value.other W70 (Or.inl ne_a36_a42)
    replace F_a36_coder := F_a36_coder.other W70 (Or.inl ne_a36_a42)
    replace K := K.wr W70 (Or.inr nw_a42)
    have A_a42 := A_new
    clear A_new
    refine own_dup (pc' := 299) w68 own_d29_298 rfl rfl ?_
    refine own_bipush (pc' := 301) w68 own_d29_299 (x := (7 : Int32)) rfl rfl ?_
    refine own_bipush (pc' := 303) w68 own_d29_301 (x := (116 : Int32)) rfl rfl ?_
    refine own_stC (pc' := 304) w68 (i := 7) (xv := (.int 116)) (vs' := [(.int (i1 &&& (255 : Int32))), (.int (i2 &&& (255 : Int32))), (.int (i3 &&& (255 : Int32))), (.int 47), (.int 119), (.int 114), (.int 105), (.int 116), (.int 0)]) (by simp) A_a42 (by decide) rfl (Nat.lt_of_sub_eq_succ rfl) (own_ncB (by decide)) (own_fcB (by decide)) rfl own_d29_303 rfl fun T71 h73 w72 W74 A_new => ?_
    clear A_a42
    replace A_a11 := A_a11.other W74 ne_a11_a42
    replace E_a5 := E_a5.wr W74
    replace F_a5_coder := F_a5_coder.other W74 (Or.inl ne_a5_a42)
    replace F_a5_value := F_a5_value.other W74 (Or.inl ne_a5_a42)
    replace A_t30 := A_t30.other W74 ne_t30_a42
    replace E_a36 := E_a36.wr W74
    replace F_a36_value := F_a36_value.other W74 (Or.inl ne_a36_a42)
    replace F_a36_coder := F_a36_coder.other W74 (Or.inl ne_a36_a42)
    replace K := K.wr W74 (Or.inr nw_a42)
    have A_a42 := A_new
    clear A_new
    refine own_dup (pc' := 305) w72 own_d29_304 rfl rfl ?_
    refine own_bipush (pc' := 307) w72 own_d29_305 (x := (8 : Int32)) rfl rfl ?_
    refine own_bipush (pc' := 309) w72 own_d29_307 (x := (101 : Int32)) rfl rfl ?_
    refine own_stC (pc' := 310) w72 (i := 8) (xv := (.int 101)) (vs' := [(.int (i1 &&& (255 : Int32))), (.int (i2 &&& (255 : Int32))), (.int (i3 &&& (255 : Int32))), (.int 47), (.int 119), (.int 114), (.int 105), (.int 116), (.int 101)]) (by simp) A_a42 (by decide) rfl (Nat.lt_of_sub_eq_succ rfl) (own_ncB (by decide)) (own_fcB (by decide)) rfl own_d29_309 rfl fun T75 h77 w76 W78 A_new => ?_
    clear A_a42
    replace A_a11 := A_a11.other W78 ne_a11_a42
    replace E_a5 := E_a5.wr W78
    replace F_a5_coder := F_a5_coder.other W78 (Or.inl ne_a5_a42)
    replace F_a5_value := F_a5_value.other W78 (Or.inl ne_a5_a42)
    replace A_t30 := A_t30.other W78 ne_t30_a42
    replace E_a36 := E_a36.wr W78
    replace F_a36_value := F_a36_value.other W78 (Or.inl ne_a36_a42)
    replace F_a36_coder := F_a36_coder.other W78 (Or.inl ne_a36_a42)
    replace K := K.wr W78 (Or.inr nw_a42)
    have A_a42 := A_new
    clear A_new
    refine own_callIB (pc' := 313) w76 (bytes' := jdk_42_method_3_code) rfl (own_w11 hw) (own_w12 hw) (own_w13 hw) (by decide) (fun s' hZ' => StrChars.Road.backV (W := 1) hZ' (own_hws hw) (kI := 4) (own_w2 hw) (cs := [(i1 &&& (255 : Int32)), (i2 &&& (255 : Int32)), (i3 &&& (255 : Int32)), 47, 119, 114, 105, 116, 101]) (n := 9) (n0 := n0) (own_mine w76 a36 (by simp)).1 (own_n0 (own_old w76)) E_a36 F_a36_value F_a36_coder A_a42 (S_COMPACT_STRINGS.ext (own_old w76).2) P5 rfl rfl (by decide) (by decide) (own_allS (own_and255 i1) (own_allS (own_and255 i2) (own_allS (own_and255 i3) (own_allS (by decide) (own_allS (by decide) (own_allS (by decide) (own_allS (by decide) (own_allS (by decide) (own_allS (by decide) own_all0))))))))) rfl (by decide) (by decide)) (ws := [a36]) (allS (P := fun x => x ∈ _) (by simp) all0) (fun v h' L q => ⟨q.2.2.1, q.2.1⟩) (argsL := [.ref a42]) (rest := [(.ref a36)]) rfl rfl own_pd19 rfl own_d29_310 rfl (Nat.le_of_eq rfl) (by decide) (by decide) fun T79 h81 v82 w80 K83 q84 => ?_
    obtain ⟨_, rfl, -, -, nw_E, nw_C, t85, kb86, -, le_t85, ne_t85, nw_V, nw_A⟩ := q84
    have ne_a11_t85 : a11 ≠ t85 := Nat.ne_of_lt (Nat.lt_of_lt_of_le A_a11.lt le_t85)
    have ne_a36_t85 : a36 ≠ t85 := Nat.ne_of_lt (Nat.lt_of_lt_of_le E_a36.lt le_t85)
    have ne_a42_t85 : a42 ≠ t85 := Nat.ne_of_lt (Nat.lt_of_lt_of_le A_a42.lt le_t85)
    have ne_a5_t85 : a5 ≠ t85 := Nat.ne_of_lt (Nat.lt_of_lt_of_le E_a5.lt le_t85)
    have ne_t30_t85 : t30 ≠ t85 := Nat.ne_of_lt (Nat.lt_of_lt_of_le A_t30.lt le_t85)
    have nw_t85 : h0.size ≤ t85 := Nat.le_trans K.1 le_t85
    replace A_a11 := A_a11.keep K83 (ninS ne_a11_a36 nin0)
    replace E_a5 := E_a5.keep K83
    replace F_a5_coder := F_a5_coder.keep K83 (ninS ne_a5_a36 nin0)
    replace F_a5_value := F_a5_value.keep K83 (ninS ne_a5_a36 nin0)
    replace A_t30 := A_t30.keep K83 (ninS ne_t30_a36 nin0)
    replace A_a42 := A_a42.keep K83 (ninS (Ne.symm ne_a36_a42) nin0)
    replace K := K.trans K83 (allS (P := fun x => x ∈ ([] : List Addr) ∨ h0.size ≤ x) (Or.inr nw_a36) all0)
    have E_a36 := nw_E; have F_a36_coder := nw_C; have F_a36_value := nw_V; have A_t85 := nw_A; clear nw_E nw_C nw_V nw_A
    show own_Go Z EL n0 p e below s _ _ _ (T79.setTop (mkF m 313 _ [(.ref a36)]))
    refine own_astore (pc' := 315) w80 own_d29_313 rfl (Ls' := #[.val (.int i0), .val (.int i1), .val (.int i2), .val (.int i3), .val (.int i4), .val (.int (i1 &&& (255 : Int32))), .val (.int (i2 &&& (255 : Int32))), .val (.int (i3 &&& (255 : Int32))), .val (.int (i4 &&& (255 : Int32))), .val (.int ((XT.ushr i4 (8 : Int32)) &&& (255 : Int32))), .val (.int (i0 &&& (3 : Int32))), .val (.ref a5), .val (.ref a36), .unset, .unset, .unset]) rfl rfl ?_
    refine own_newO (pc' := 318) w80 (own_w9 hw) (own_w2 hw) (own_w1 hw) own_d29_315 rfl (by decide) (by decide) fun T87 h89 a91 g_a91 w88 E90 ⟨E_a91, D92⟩ => ?_
    have ne_a11_a91 : a11 ≠ a91 := Nat.ne_of_lt (Nat.lt_of_lt_of_le A_a11.lt (Nat.le_of_eq g_a91))
    have ne_a36_a91 : a36 ≠ a91 := Nat.ne_of_lt (Nat.lt_of_lt_of_le E_a36.lt (Nat.le_of_eq g_a91))
    have ne_a42_a91 : a42 ≠ a91 := Nat.ne_of_lt (Nat.lt_of_lt_of_le A_a42.lt (Nat.le_of_eq g_a91))
    have ne_a5_a91 : a5 ≠ a91 := Nat.ne_of_lt (Nat.lt_of_lt_of_le E_a5.lt (Nat.le_of_eq g_a91))
    have ne_t30_a91 : t30 ≠ a91 := Nat.ne_of_lt (Nat.lt_of_lt_of_le A_t30.lt (Nat.le_of_eq g_a91))
    have ne_t85_a91 : t85 ≠ a91 := Nat.ne_of_lt (Nat.lt_of_lt_of_le A_t85.lt (Nat.le_of_eq g_a91))
    have nw_a91 : h0.size ≤ a91 := Nat.le_trans K.1 (Nat.le_of_eq g_a91)
    replace A_a11 := A_a11.ext E90
    replace E_a5 := E_a5.ext E90
    replace F_a5_coder := F_a5_coder.ext E90
    replace F_a5_value := F_a5_value.ext E90
    replace A_t30 := A_t30.ext E90
    replace A_a42 := A_a42.ext E90
    replace E_a36 := E_a36.ext E90
    replace F_a36_coder := F_a36_coder.ext E90
    replace F_a36_value := F_a36_value.ext E90
    replace A_t85 := A_t85.ext E90
    replace K := K.ext E90
    have F_a91_value : Fld Z h89 a91 "java/lang/String" "value" "[B" .null := D92 (Or.inr (own_w4 hw)) (ty := (.array .byte)) (by decide)
    have F_a91_coder : Fld Z h89 a91 "java/lang/String" "coder" "B" (.int 0) := D92 (Or.inr (own_w5 hw)) (ty := .byte) (by decide)
    refine own_dup (pc' := 319) w88 own_d29_318 rfl rfl ?_
    refine own_iconst (pc' := 320) w88 own_d29_319 (x := (2 : Int32)) rfl rfl ?_
    refine own_newP (pc' := 322) w88 (aty := .char) (z := (2 : Int32)) (vs := [(.int 0), (.int 0)]) (dv := (.int 0)) (cap := 2) (own_w10 hw) own_d29_320 rfl (by decide) (by decide) (by decide) rfl (own_rep 2 (.int 0)) (by decide) (by decide) fun T93 h95 a97 g_a97 w94 E96 ⟨k_a97, A_a97⟩ => ?_
    have ne_a11_a97 : a11 ≠ a97 := Nat.ne_of_lt (Nat.lt_of_lt_of_le A_a11.lt (Nat.le_of_eq g_a97))
    have ne_a36_a97 : a36 ≠ a97 := Nat.ne_of_lt (Nat.lt_of_lt_of_le E_a36.lt (Nat.le_of_eq g_a97))
    have ne_a42_a97 : a42 ≠ a97 := Nat.ne_of_lt (Nat.lt_of_lt_of_le A_a42.lt (Nat.le_of_eq g_a97))
    have ne_a5_a97 : a5 ≠ a97 := Nat.ne_of_lt (Nat.lt_of_lt_of_le E_a5.lt (Nat.le_of_eq g_a97))
    have ne_a91_a97 : a91 ≠ a97 := Nat.ne_of_lt (Nat.lt_of_lt_of_le E_a91.lt (Nat.le_of_eq g_a97))
    have ne_t30_a97 : t30 ≠ a97 := Nat.ne_of_lt (Nat.lt_of_lt_of_le A_t30.lt (Nat.le_of_eq g_a97))
    have ne_t85_a97 : t85 ≠ a97 := Nat.ne_of_lt (Nat.lt_of_lt_of_le A_t85.lt (Nat.le_of_eq g_a97))
    have nw_a97 : h0.size ≤ a97 := Nat.le_trans K.1 (Nat.le_of_eq g_a97)
    replace A_a11 := A_a11.ext E96
    replace E_a5 := E_a5.ext E96
    replace F_a5_coder := F_a5_coder.ext E96
    replace F_a5_value := F_a5_value.ext E96
    replace A_t30 := A_t30.ext E96
    replace A_a42 := A_a42.ext E96
    replace E_a36 := E_a36.ext E96
    replace F_a36_coder := F_a36_coder.ext E96
    replace F_a36_value := F_a36_value.ext E96
    replace A_t85 := A_t85.ext E96
    replace E_a91 := E_a91.ext E96
    replace F_a91_value := F_a91_value.ext E96
    replace F_a91_coder := F_a91_coder.ext E96
    replace K := K.ext E96
    refine own_dup (pc' := 323) w94 own_d29_322 rfl rfl ?_
    refine own_iconst (pc' := 324) w94 own_d29_323 (x := (0 : Int32)) rfl rfl ?_
    refine own_iload (pc' := 326) w94 own_d29_324 rfl rfl ?_
    refine own_stC (pc' := 327) w94 (i := 0) (xv := (.int (i4 &&& (255 : Int32)))) (vs' := [(.int (i4 &&& (255 : Int32))), (.int 0)]) (by simp) A_a97 (by decide) rfl (Nat.lt_of_sub_eq_succ rfl) (own_ncB (own_and255 i4)) (own_fcB (own_and255 i4)) rfl own_d29_326 rfl fun T98 h100 w99 W101 A_new => ?_
    clear A_a97
    replace A_a11 := A_a11.other W101 ne_a11_a97
    replace E_a5 := E_a5.wr W101
    replace F_a5_coder := F_a5_coder.other W101 (Or.inl ne_a5_a97)
    replace F_a5_value := F_a5_value.other W101 (Or.inl ne_a5_a97)
    replace A_t30 := A_t30.other W101 ne_t30_a97
    replace A_a42 := A_a42.other W101 ne_a42_a97
    replace E_a36 := E_a36.wr W101
    replace F_a36_coder := F_a36_coder.other W101 (Or.inl ne_a36_a97)
    replace F_a36_value := F_a36_value.other W101 (Or.inl ne_a36_a97)
    replace A_t85 := A_t85.other W101 ne_t85_a97
    replace E_a91 := E_a91.wr W101
    replace F_a91_value := F_a91_value.other W101 (Or.inl ne_a91_a97)
    replace F_a91_coder := F_a91_coder.other W101 (Or.inl ne_a91_a97)
    replace K := K.wr W101 (Or.inr nw_a97)
    have A_a97 := A_new
    clear A_new
    refine own_dup (pc' := 328) w99 own_d29_327 rfl rfl ?_
    refine own_iconst (pc' := 329) w99 own_d29_328 (x := (1 : Int32)) rfl rfl ?_
    refine own_iload (pc' := 331) w99 own_d29_329 rfl rfl ?_
    refine own_stC (pc' := 332) w99 (i := 1) (xv := (.int ((XT.ushr i4 (8 : Int32)) &&& (255 : Int32)))) (vs' := [(.int (i4 &&& (255 : Int32))), (.int ((XT.ushr i4 (8 : Int32)) &&& (255 : Int32)))]) (by simp) A_a97 (by decide) rfl (Nat.lt_of_sub_eq_succ rfl) (own_ncB (own_and255 (XT.ushr i4 (8 : Int32)))) (own_fcB (own_and255 (XT.ushr i4 (8 : Int32)))) rfl own_d29_331 rfl fun T102 h104 w103 W105 A_new => ?_
    clear A_a97
    replace A_a11 := A_a11.other W105 ne_a11_a97
    replace E_a5 := E_a5.wr W105
    replace F_a5_coder := F_a5_coder.other W105 (Or.inl ne_a5_a97)
    replace F_a5_value := F_a5_value.other W105 (Or.inl ne_a5_a97)
    replace A_t30 := A_t30.other W105 ne_t30_a97
    replace A_a42 := A_a42.other W105 ne_a42_a97
    replace E_a36 := E_a36.wr W105
    replace F_a36_coder := F_a36_coder.other W105 (Or.inl ne_a36_a97)
    replace F_a36_value := F_a36_value.other W105 (Or.inl ne_a36_a97)
    replace A_t85 := A_t85.other W105 ne_t85_a97
    replace E_a91 := E_a91.wr W105
    replace F_a91_value := F_a91_value.other W105 (Or.inl ne_a91_a97)
    replace F_a91_coder := F_a91_coder.other W105 (Or.inl ne_a91_a97)
    replace K := K.wr W105 (Or.inr nw_a97)
    have A_a97 := A_new
    clear A_new
    refine own_callIB (pc' := 335) w103 (bytes' := jdk_42_method_3_code) rfl (own_w11 hw) (own_w12 hw) (own_w13 hw) (by decide) (fun s' hZ' => StrChars.Road.backV (W := 1) hZ' (own_hws hw) (kI := 4) (own_w2 hw) (cs := [(i4 &&& (255 : Int32)), ((XT.ushr i4 (8 : Int32)) &&& (255 : Int32))]) (n := 2) (n0 := n0) (own_mine w103 a91 (by simp)).1 (own_n0 (own_old w103)) E_a91 F_a91_value F_a91_coder A_a97 (S_COMPACT_STRINGS.ext (own_old w103).2) P5 rfl rfl (by decide) (by decide) (own_allS (own_and255 i4) (own_allS (own_and255 (XT.ushr i4 (8 : Int32))) own_all0)) rfl (by decide) (by decide)) (ws := [a91]) (allS (P := fun x => x ∈ _) (by simp) all0) (fun v h' L q => ⟨q.2.2.1, q.2.1⟩) (argsL := [.ref a97]) (rest := [(.ref a91)]) rfl rfl own_pd19 rfl own_d29_332 rfl (Nat.le_of_eq rfl) (by decide) (by decide) fun T106 h108 v109 w107 K110 q111 => ?_
    obtain ⟨_, rfl, -, -, nw_E, nw_C, t112, kb113, -, le_t112, ne_t112, nw_V, nw_A⟩ := q111
    have ne_a11_t112 : a11 ≠ t112 := Nat.ne_of_lt (Nat.lt_of_lt_of_le A_a11.lt le_t112)
    have ne_a36_t112 : a36 ≠ t112 := Nat.ne_of_lt (Nat.lt_of_lt_of_le E_a36.lt le_t112)
    have ne_a42_t112 : a42 ≠ t112 := Nat.ne_of_lt (Nat.lt_of_lt_of_le A_a42.lt le_t112)
    have ne_a5_t112 : a5 ≠ t112 := Nat.ne_of_lt (Nat.lt_of_lt_of_le E_a5.lt le_t112)
    have ne_a91_t112 : a91 ≠ t112 := Nat.ne_of_lt (Nat.lt_of_lt_of_le E_a91.lt le_t112)
    have ne_a97_t112 : a97 ≠ t112 := Nat.ne_of_lt (Nat.lt_of_lt_of_le A_a97.lt le_t112)
    have ne_t30_t112 : t30 ≠ t112 := Nat.ne_of_lt (Nat.lt_of_lt_of_le A_t30.lt le_t112)
    have ne_t85_t112 : t85 ≠ t112 := Nat.ne_of_lt (Nat.lt_of_lt_of_le A_t85.lt le_t112)
    have nw_t112 : h0.size ≤ t112 := Nat.le_trans K.1 le_t112
    replace A_a11 := A_a11.keep K110 (ninS ne_a11_a91 nin0)
    replace E_a5 := E_a5.keep K110
    replace F_a5_coder := F_a5_coder.keep K110 (ninS ne_a5_a91 nin0)
    replace F_a5_value := F_a5_value.keep K110 (ninS ne_a5_a91 nin0)
    replace A_t30 := A_t30.keep K110 (ninS ne_t30_a91 nin0)
    replace A_a42 := A_a42.keep K110 (ninS ne_a42_a91 nin0)
    replace E_a36 := E_a36.keep K110
    replace F_a36_coder := F_a36_coder.keep K110 (ninS ne_a36_a91 nin0)
    replace F_a36_value := F_a36_value.keep K110 (ninS ne_a36_a91 nin0)
    replace A_t85 := A_t85.keep K110 (ninS ne_t85_a91 nin0)
    replace A_a97 := A_a97.keep K110 (ninS (Ne.symm ne_a91_a97) nin0)
    replace K := K.trans K110 (allS (P := fun x => x ∈ ([] : List Addr) ∨ h0.size ≤ x) (Or.inr nw_a91) all0)
    have E_a91 := nw_E; have F_a91_coder := nw_C; have F_a91_value := nw_V; have A_t112 := nw_A; clear nw_E nw_C nw_V nw_A
    show own_Go Z EL n0 p e below s _ _ _ (T106.setTop (mkF m 335 _ [(.ref a91)]))
    refine own_astore (pc' := 337) w107 own_d29_335 rfl (Ls' := #[.val (.int i0), .val (.int i1), .val (.int i2), .val (.int i3), .val (.int i4), .val (.int (i1 &&& (255 : Int32))), .val (.int (i2 &&& (255 : Int32))), .val (.int (i3 &&& (255 : Int32))), .val (.int (i4 &&& (255 : Int32))), .val (.int ((XT.ushr i4 (8 : Int32)) &&& (255 : Int32))), .val (.int (i0 &&& (3 : Int32))), .val (.ref a5), .val (.ref a36), .val (.ref a91), .unset, .unset]) rfl rfl ?_
    refine own_newO (pc' := 340) w107 (own_w34 hw) (own_w35 hw) (own_w36 hw) own_d29_337 rfl (by decide) (by decide) fun T114 h116 a118 g_a118 w115 E117 ⟨E_a118, D119⟩ => ?_
    have ne_a11_a118 : a11 ≠ a118 := Nat.ne_of_lt (Nat.lt_of_lt_of_le A_a11.lt (Nat.le_of_eq g_a118))
    have ne_a36_a118 : a36 ≠ a118 := Nat.ne_of_lt (Nat.lt_of_lt_of_le E_a36.lt (Nat.le_of_eq g_a118))
    have ne_a42_a118 : a42 ≠ a118 := Nat.ne_of_lt (Nat.lt_of_lt_of_le A_a42.lt (Nat.le_of_eq g_a118))
    have ne_a5_a118 : a5 ≠ a118 := Nat.ne_of_lt (Nat.lt_of_lt_of_le E_a5.lt (Nat.le_of_eq g_a118))
    have ne_a91_a118 : a91 ≠ a118 := Nat.ne_of_lt (Nat.lt_of_lt_of_le E_a91.lt (Nat.le_of_eq g_a118))
    have ne_a97_a118 : a97 ≠ a118 := Nat.ne_of_lt (Nat.lt_of_lt_of_le A_a97.lt (Nat.le_of_eq g_a118))
    have ne_t112_a118 : t112 ≠ a118 := Nat.ne_of_lt (Nat.lt_of_lt_of_le A_t112.lt (Nat.le_of_eq g_a118))
    have ne_t30_a118 : t30 ≠ a118 := Nat.ne_of_lt (Nat.lt_of_lt_of_le A_t30.lt (Nat.le_of_eq g_a118))
    have ne_t85_a118 : t85 ≠ a118 := Nat.ne_of_lt (Nat.lt_of_lt_of_le A_t85.lt (Nat.le_of_eq g_a118))
    have nw_a118 : h0.size ≤ a118 := Nat.le_trans K.1 (Nat.le_of_eq g_a118)
    replace A_a11 := A_a11.ext E117
    replace E_a5 := E_a5.ext E117
    replace F_a5_coder := F_a5_coder.ext E117
    replace F_a5_value := F_a5_value.ext E117
    replace A_t30 := A_t30.ext E117
    replace A_a42 := A_a42.ext E117
    replace E_a36 := E_a36.ext E117
    replace F_a36_coder := F_a36_coder.ext E117
    replace F_a36_value := F_a36_value.ext E117
    replace A_t85 := A_t85.ext E117
    replace A_a97 := A_a97.ext E117
    replace E_a91 := E_a91.ext E117
    replace F_a91_coder := F_a91_coder.ext E117
    replace F_a91_value := F_a91_value.ext E117
    replace A_t112 := A_t112.ext E117
    replace K := K.ext E117
    have F_a118_address : Fld Z h116 a118 "com/example/vidura/vidura/Mailbox" "address" "Ljava/lang/String;" .null := D119 (Or.inr (own_w47 hw)) (ty := (.object "java/lang/String")) (by decide)
    have F_a118_home : Fld Z h116 a118 "com/example/vidura/vidura/Mailbox" "home" "Ljava/lang/String;" .null := D119 (Or.inr (own_w49 hw)) (ty := (.object "java/lang/String")) (by decide)
    refine own_dup (pc' := 341) w115 own_d29_340 rfl rfl ?_
    refine own_aload (pc' := 343) w115 own_d29_341 rfl rfl rfl ?_
    refine own_aload (pc' := 345) w115 own_d29_343 rfl rfl rfl ?_
    refine own_callI (pc' := 348) w115 rfl (own_w37 hw) (own_w38 hw) (own_w36 hw) (own_w39 hw) (by decide) (own_ct_mbInit l Z a0 hw EL hE n0 [] h116 (own_old w115) a118 a91 a5 .null .null E_a118 F_a118_address F_a118_home) (allS (P := fun x => x ∈ _) (by simp) all0) (argsL := [(.ref a91), (.ref a5)]) (rest := [(.ref a118)]) rfl rfl own_pd20 rfl own_d29_345 rfl (by decide) (W := 1) rfl (by decide) (by decide) (by decide) fun T120 h122 v123 ms124 w121 q125 => ?_
    obtain ⟨K126, rfl, rfl, nw_E_a118, nw_F_a118_home⟩ := q125
    replace A_a11 := A_a11.keep K126 (ninS ne_a11_a118 nin0)
    replace E_a5 := E_a5.keep K126
    replace F_a5_coder := F_a5_coder.keep K126 (ninS ne_a5_a118 nin0)
    replace F_a5_value := F_a5_value.keep K126 (ninS ne_a5_a118 nin0)
    replace A_t30 := A_t30.keep K126 (ninS ne_t30_a118 nin0)
    replace A_a42 := A_a42.keep K126 (ninS ne_a42_a118 nin0)
    replace E_a36 := E_a36.keep K126
    replace F_a36_coder := F_a36_coder.keep K126 (ninS ne_a36_a118 nin0)
    replace F_a36_value := F_a36_value.keep K126 (ninS ne_a36_a118 nin0)
    replace A_t85 := A_t85.keep K126 (ninS ne_t85_a118 nin0)
    replace A_a97 := A_a97.keep K126 (ninS ne_a97_a118 nin0)
    replace E_a91 := E_a91.keep K126
    replace F_a91_coder := F_a91_coder.keep K126 (ninS ne_a91_a118 nin0)
    replace F_a91_value := F_a91_value.keep K126 (ninS ne_a91_a118 nin0)
    replace A_t112 := A_t112.keep K126 (ninS ne_t112_a118 nin0)
    replace K := K.trans K126 (allS (P := fun x => x ∈ ([] : List Addr) ∨ h0.size ≤ x) (Or.inr nw_a118) all0)
    have E_a118 := nw_E_a118; clear nw_E_a118
    have F_a118_home := nw_F_a118_home; clear nw_F_a118_home
    show own_Go Z EL n0 p e below s _ _ _ (T120.setTop (mkF m 348 _ [(.ref a118)]))
    refine own_astore (pc' := 350) w121 own_d29_348 rfl (Ls' := #[.val (.int i0), .val (.int i1), .val (.int i2), .val (.int i3), .val (.int i4), .val (.int (i1 &&& (255 : Int32))), .val (.int (i2 &&& (255 : Int32))), .val (.int (i3 &&& (255 : Int32))), .val (.int (i4 &&& (255 : Int32))), .val (.int ((XT.ushr i4 (8 : Int32)) &&& (255 : Int32))), .val (.int (i0 &&& (3 : Int32))), .val (.ref a5), .val (.ref a36), .val (.ref a91), .val (.ref a118), .unset]) rfl rfl ?_
    refine own_aload (pc' := 352) w121 own_d29_350 rfl rfl rfl ?_
    refine own_callS (pc' := 355) w121 (own_w50 hw) (own_w51 hw) (own_w52 hw) (own_w53 hw) (by decide) (own_ct_write l Z a0 hw EL hE n0 [] h122 (own_old w121) a118 a5 t30 kb31 (3 : Int32) ((([(i1 &&& (255 : Int32)), (i2 &&& (255 : Int32)), (i3 &&& (255 : Int32))] : List Int32).map (fun (c : Int32) => c.toInt8.toInt32)).map Value.int) ([(i1 &&& (255 : Int32)), (i2 &&& (255 : Int32)), (i3 &&& (255 : Int32))] : List Int32) (9 : Int32) 3 9 z5 E_a118 F_a118_home E_a5 F_a5_coder F_a5_value A_t30 ((own_cod (cs := ([(i1 &&& (255 : Int32)), (i2 &&& (255 : Int32)), (i3 &&& (255 : Int32))] : List Int32)) (n := 3) rfl (own_allS (own_and255 i1) (own_allS (own_and255 i2) (own_allS (own_and255 i3) own_all0))))) ((own_up ([(i1 &&& (255 : Int32)), (i2 &&& (255 : Int32)), (i3 &&& (255 : Int32))] : List Int32) (own_allS (own_and255 i1) (own_allS (own_and255 i2) (own_allS (own_and255 i3) own_all0))))) ((Nat.le_of_ble_eq_true rfl)) (rfl) S_COMPACT_STRINGS (P5) (by decide) (by decide) (by decide) (⟨by decide, by decide, rfl, rfl, rfl, by decide, Nat.le_of_ble_eq_true rfl⟩) (⟨by decide, by decide, rfl, rfl, rfl, by decide, Nat.le_of_ble_eq_true rfl⟩) (by decide) (by decide) (by decide) (hE24) (hE28)) all0 (argsL := [(.ref a118)]) (rest := []) rfl rfl own_pd21 rfl own_d29_352 rfl (by decide) (W := 0) rfl (by decide) (by decide) (by decide) fun T127 h129 v130 ms131 w128 q132 => ?_
    obtain ⟨K140, r_133, pg_134, tp_135, kp_136, q_137, tq_138, kA_139, rfl, rfl, nw_E_r_133, nw_F_r_133_page, nw_F_r_133_action, nw_F_r_133_fixedRecipient, nw_F_r_133_from, nw_E_pg_134, nw_F_pg_134_coder, nw_F_pg_134_value, nw_A_tp_135, nw_E_q_137, nw_F_q_137_coder, nw_F_q_137_value, nw_A_tq_138, p352_write_0⟩ := q132
    have ne_a11_r_133 : a11 ≠ r_133 := Nat.ne_of_lt (Nat.lt_of_lt_of_le A_a11.lt p352_write_0)
    have ne_a118_r_133 : a118 ≠ r_133 := Nat.ne_of_lt (Nat.lt_of_lt_of_le E_a118.lt p352_write_0)
    have ne_a36_r_133 : a36 ≠ r_133 := Nat.ne_of_lt (Nat.lt_of_lt_of_le E_a36.lt p352_write_0)
    have ne_a42_r_133 : a42 ≠ r_133 := Nat.ne_of_lt (Nat.lt_of_lt_of_le A_a42.lt p352_write_0)
    have ne_a5_r_133 : a5 ≠ r_133 := Nat.ne_of_lt (Nat.lt_of_lt_of_le E_a5.lt p352_write_0)
    have ne_a91_r_133 : a91 ≠ r_133 := Nat.ne_of_lt (Nat.lt_of_lt_of_le E_a91.lt p352_write_0)
    have ne_a97_r_133 : a97 ≠ r_133 := Nat.ne_of_lt (Nat.lt_of_lt_of_le A_a97.lt p352_write_0)
    have ne_t112_r_133 : t112 ≠ r_133 := Nat.ne_of_lt (Nat.lt_of_lt_of_le A_t112.lt p352_write_0)
    have ne_t30_r_133 : t30 ≠ r_133 := Nat.ne_of_lt (Nat.lt_of_lt_of_le A_t30.lt p352_write_0)
    have ne_t85_r_133 : t85 ≠ r_133 := Nat.ne_of_lt (Nat.lt_of_lt_of_le A_t85.lt p352_write_0)
    have nw_r_133 : h0.size ≤ r_133 := Nat.le_trans K.1 p352_write_0
    replace A_a11 := A_a11.keep K140 nin0
    replace E_a5 := E_a5.keep K140
    replace F_a5_coder := F_a5_coder.keep K140 nin0
    replace F_a5_value := F_a5_value.keep K140 nin0
    replace A_t30 := A_t30.keep K140 nin0
    replace A_a42 := A_a42.keep K140 nin0
    replace E_a36 := E_a36.keep K140
    replace F_a36_coder := F_a36_coder.keep K140 nin0
    replace F_a36_value := F_a36_value.keep K140 nin0
    replace A_t85 := A_t85.keep K140 nin0
    replace A_a97 := A_a97.keep K140 nin0
    replace E_a91 := E_a91.keep K140
    replace F_a91_coder := F_a91_coder.keep K140 nin0
    replace F_a91_value := F_a91_value.keep K140 nin0
    replace A_t112 := A_t112.keep K140 nin0
    replace E_a118 := E_a118.keep K140
    replace F_a118_home := F_a118_home.keep K140 nin0
    replace K := K.trans K140 all0
    have E_r_133 := nw_E_r_133; clear nw_E_r_133
    have F_r_133_page := nw_F_r_133_page; clear nw_F_r_133_page
    have F_r_133_action := nw_F_r_133_action; clear nw_F_r_133_action
    have F_r_133_fixedRecipient := nw_F_r_133_fixedRecipient; clear nw_F_r_133_fixedRecipient
    have F_r_133_from := nw_F_r_133_from; clear nw_F_r_133_from
    have E_pg_134 := nw_E_pg_134; clear nw_E_pg_134
    have F_pg_134_coder := nw_F_pg_134_coder; clear nw_F_pg_134_coder
    have F_pg_134_value := nw_F_pg_134_value; clear nw_F_pg_134_value
    have A_tp_135 := nw_A_tp_135; clear nw_A_tp_135
    have E_q_137 := nw_E_q_137; clear nw_E_q_137
    have F_q_137_coder := nw_F_q_137_coder; clear nw_F_q_137_coder
    have F_q_137_value := nw_F_q_137_value; clear nw_F_q_137_value
    have A_tq_138 := nw_A_tq_138; clear nw_A_tq_138
    show own_Go Z EL n0 p e below s _ _ _ (T127.setTop (mkF m 355 _ [(.ref r_133)]))
    refine own_astore (pc' := 357) w128 own_d29_355 rfl (Ls' := #[.val (.int i0), .val (.int i1), .val (.int i2), .val (.int i3), .val (.int i4), .val (.int (i1 &&& (255 : Int32))), .val (.int (i2 &&& (255 : Int32))), .val (.int (i3 &&& (255 : Int32))), .val (.int (i4 &&& (255 : Int32))), .val (.int ((XT.ushr i4 (8 : Int32)) &&& (255 : Int32))), .val (.int (i0 &&& (3 : Int32))), .val (.ref a5), .val (.ref a36), .val (.ref a91), .val (.ref a118), .val (.ref r_133)]) rfl rfl ?_
    refine own_aload (pc' := 359) w128 own_d29_357 rfl rfl rfl ?_
    refine own_ifnullN (pc' := 362) w128 own_d29_359 rfl ?_
    refine own_ldcS (pc' := 364) w128 (vs := [(.int 87), (.int 114), (.int 105), (.int 116), (.int 101)]) (z := (5 : Int32)) (nn := 20) (own_w185 hw) (own_hst hw) hE27 ⟨by decide +kernel, by rfl⟩ (by decide) rfl own_d29_362 rfl (by decide +kernel) (by decide) (by decide) (by decide) hE fun T141 h143 a145 t146 kb147 w142 E144 ⟨E_a145, F_a145_coder, F_a145_value, A_t146, ne148⟩ => ?_
    replace A_a11 := A_a11.ext E144
    replace E_a5 := E_a5.ext E144
    replace F_a5_coder := F_a5_coder.ext E144
    replace F_a5_value := F_a5_value.ext E144
    replace A_t30 := A_t30.ext E144
    replace A_a42 := A_a42.ext E144
    replace E_a36 := E_a36.ext E144
    replace F_a36_coder := F_a36_coder.ext E144
    replace F_a36_value := F_a36_value.ext E144
    replace A_t85 := A_t85.ext E144
    replace A_a97 := A_a97.ext E144
    replace E_a91 := E_a91.ext E144
    replace F_a91_coder := F_a91_coder.ext E144
    replace F_a91_value := F_a91_value.ext E144
    replace A_t112 := A_t112.ext E144
    replace E_a118 := E_a118.ext E144
    replace F_a118_home := F_a118_home.ext E144
    replace E_r_133 := E_r_133.ext E144
    replace F_r_133_page := F_r_133_page.ext E144
    replace F_r_133_action := F_r_133_action.ext E144
    replace F_r_133_fixedRecipient := F_r_133_fixedRecipient.ext E144
    replace F_r_133_from := F_r_133_from.ext E144
    replace E_pg_134 := E_pg_134.ext E144
    replace F_pg_134_coder := F_pg_134_coder.ext E144
    replace F_pg_134_value := F_pg_134_value.ext E144
    replace A_tp_135 := A_tp_135.ext E144
    replace E_q_137 := E_q_137.ext E144
    replace F_q_137_coder := F_q_137_coder.ext E144
    replace F_q_137_value := F_q_137_value.ext E144
    replace A_tq_138 := A_tq_138.ext E144
    replace K := K.ext E144
    have ne_a118_a145 : a118 ≠ a145 := (ne148 a118 (by simp)).1
    have ne_a118_t146 : a118 ≠ t146 := (ne148 a118 (by simp)).2
    have ne_a97_a145 : a97 ≠ a145 := (ne148 a97 (by simp)).1
    have ne_a97_t146 : a97 ≠ t146 := (ne148 a97 (by simp)).2
    have ne_a91_a145 : a91 ≠ a145 := (ne148 a91 (by simp)).1
    have ne_a91_t146 : a91 ≠ t146 := (ne148 a91 (by simp)).2
    have ne_a42_a145 : a42 ≠ a145 := (ne148 a42 (by simp)).1
    have ne_a42_t146 : a42 ≠ t146 := (ne148 a42 (by simp)).2
    have ne_a36_a145 : a36 ≠ a145 := (ne148 a36 (by simp)).1
    have ne_a36_t146 : a36 ≠ t146 := (ne148 a36 (by simp)).2
    have ne_a11_a145 : a11 ≠ a145 := (ne148 a11 (by simp)).1
    have ne_a11_t146 : a11 ≠ t146 := (ne148 a11 (by simp)).2
    have ne_a5_a145 : a5 ≠ a145 := (ne148 a5 (by simp)).1
    have ne_a5_t146 : a5 ≠ t146 := (ne148 a5 (by simp)).2
    refine own_aload (pc' := 366) w142 own_d29_364 rfl rfl rfl ?_
    refine own_callV (pc' := 369) w142 (own_w186 hw) (own_w187 hw) (fun s' hZ' => notFace_of_selects (args := #[]) (mvT hZ' (own_w189 hw))) (own_w189 hw) (own_w188 hw) (own_w52 hw) (own_w190 hw) (by decide) E_r_133 (own_ct_page l Z a0 hw EL hE n0 [] h143 (own_old w142) r_133 pg_134 F_r_133_page) all0 (argsL := []) (rest := [(.ref a145)]) rfl rfl own_pd16 rfl own_d29_366 rfl (by decide) (W := 1) rfl (by decide) (by decide) (by decide) fun T149 h151 v152 ms153 w150 q154 => ?_
    obtain ⟨rfl, rfl, rfl⟩ := q154
    show own_Go Z EL n0 p e below s _ _ _ (T149.setTop (mkF m 369 _ [(.ref pg_134), (.ref a145)]))
    refine own_callVB (pc' := 372) w150 (kc := 0) (nc := 0) (own_w191 hw) (own_w192 hw) (fun s' hZ' => notFace_of_selects (args := #[]) (mvT hZ' (own_w194 hw))) (own_w194 hw) (own_w193 hw) (by decide) E_a145 (QQ := fun v h' L => ((v = some (.int 1) ∧ ([87, 114, 105, 116, 101] : List Int32) = ([87, 114, 105, 116, 101] : List Int32)) ∨ (v = some (.int 0) ∧ ¬ ([87, 114, 105, 116, 101] : List Int32) = ([87, 114, 105, 116, 101] : List Int32))) ∧ L = [] ∧ h' = h143) (fun s' hZ' => StrChars.Road.eqW (W := 0) hZ' (own_hwq hw) (kI := 4) (own_w2 hw) E_a145 F_a145_value F_a145_coder A_t146 (own_cod (cs := ([87, 114, 105, 116, 101] : List Int32)) (n := 5) rfl (own_allS (by decide) (own_allS (by decide) (own_allS (by decide) (own_allS (by decide) (own_allS (by decide) own_all0)))))) (own_up ([87, 114, 105, 116, 101] : List Int32) (own_allS (by decide) (own_allS (by decide) (own_allS (by decide) (own_allS (by decide) (own_allS (by decide) own_all0)))))) (Nat.le_of_ble_eq_true rfl) E_pg_134 F_pg_134_value F_pg_134_coder A_tp_135 (own_cod (cs := ([87, 114, 105, 116, 101] : List Int32)) (n := 5) rfl (own_allS (by decide) (own_allS (by decide) (own_allS (by decide) (own_allS (by decide) (own_allS (by decide) own_all0)))))) (own_up ([87, 114, 105, 116, 101] : List Int32) (own_allS (by decide) (own_allS (by decide) (own_allS (by decide) (own_allS (by decide) (own_allS (by decide) own_all0)))))) (Nat.le_of_ble_eq_true rfl) (S_COMPACT_STRINGS.ext (own_old w150).2) P5 (by decide) (by decide)) (ws := []) all0 (fun v h' L q => ⟨q.2.2 ▸ Keep.refl _ _, q.2.1 ▸ Fr.nil _⟩) (argsL := [(.ref pg_134)]) (rest := []) rfl rfl own_pd22 rfl own_d29_369 rfl (Nat.le_of_eq rfl) (by decide) (by decide) fun T155 h157 v158 w156 K159 q160 => ?_
    obtain ⟨_, hq_, -, e161⟩ := q160
    rw [e161] at w156
    rcases hq_ with ⟨rfl, hcs0⟩ | ⟨rfl, hcs0⟩
    ·
     show own_Go Z EL n0 p e below s _ _ _ (T155.setTop (mkF m 372 _ [(.int (1 : Int32))]))
     refine own_if (pc' := 375) w156 own_d29_372 rfl (by decide) (pcY := 410) rfl (fun (hb372 : (1 : Int32) = (0 : Int32)) => absurd hb372 (by decide)) (fun (hb372 : ¬ (1 : Int32) = (0 : Int32)) => ?_)
     refine own_aload (pc' := 377) w156 own_d29_375 rfl rfl rfl ?_
     refine own_aload (pc' := 379) w156 own_d29_377 rfl rfl rfl ?_
     refine own_callV (pc' := 382) w156 (own_w196 hw) (own_w197 hw) (fun s' hZ' => notFace_of_selects (args := #[]) (mvT hZ' (own_w199 hw))) (own_w199 hw) (own_w198 hw) (own_w52 hw) (own_w200 hw) (by decide) E_r_133 (own_ct_action l Z a0 hw EL hE n0 [] h143 (own_old w156) r_133 q_137 F_r_133_action) all0 (argsL := []) (rest := [(.ref a36)]) rfl rfl own_pd16 rfl own_d29_379 rfl (by decide) (W := 1) rfl (by decide) (by decide) (by decide) fun T162 h164 v165 ms166 w163 q167 => ?_
     obtain ⟨rfl, rfl, rfl⟩ := q167
     show own_Go Z EL n0 p e below s _ _ _ (T162.setTop (mkF m 382 _ [(.ref q_137), (.ref a36)]))
     have hcq : StrChars.Road.CodA ([(i1 &&& (255 : Int32)), (i2 &&& (255 : Int32)), (i3 &&& (255 : Int32)), 47, 119, 114, 105, 116, 101] : List Int32) 0 (9 : Int32) (own_sl (own_put (own_put (List.replicate 16 (.int 0)) 0 ((([(i1 &&& (255 : Int32)), (i2 &&& (255 : Int32)), (i3 &&& (255 : Int32))] : List Int32).map (fun (c : Int32) => c.toInt8.toInt32)).map Value.int)) 3 [(.int 47), (.int 119), (.int 114), (.int 105), (.int 116), (.int 101)]) 0 9) := (own_cod (cs := ([(i1 &&& (255 : Int32)), (i2 &&& (255 : Int32)), (i3 &&& (255 : Int32)), 47, 119, 114, 105, 116, 101] : List Int32)) (n := 9) rfl (own_allS (own_and255 i1) (own_allS (own_and255 i2) (own_allS (own_and255 i3) (own_allS (by decide) (own_allS (by decide) (own_allS (by decide) (own_allS (by decide) (own_allS (by decide) (own_allS (by decide) own_all0))))))))))
     refine own_callVB (pc' := 385) w163 (kc := 0) (nc := 0) (own_w191 hw) (own_w192 hw) (fun s' hZ' => notFace_of_selects (args := #[]) (mvT hZ' (own_w194 hw))) (own_w194 hw) (own_w193 hw) (by decide) E_a36 (QQ := fun v h' L => ((v = some (.int 1) ∧ ([(i1 &&& (255 : Int32)), (i2 &&& (255 : Int32)), (i3 &&& (255 : Int32)), 47, 119, 114, 105, 116, 101] : List Int32) = ([(i1 &&& (255 : Int32)), (i2 &&& (255 : Int32)), (i3 &&& (255 : Int32)), 47, 119, 114, 105, 116, 101] : List Int32)) ∨ (v = some (.int 0) ∧ ¬ ([(i1 &&& (255 : Int32)), (i2 &&& (255 : Int32)), (i3 &&& (255 : Int32)), 47, 119, 114, 105, 116, 101] : List Int32) = ([(i1 &&& (255 : Int32)), (i2 &&& (255 : Int32)), (i3 &&& (255 : Int32)), 47, 119, 114, 105, 116, 101] : List Int32))) ∧ L = [] ∧ h' = h143) (fun s' hZ' => StrChars.Road.eqW (W := 0) hZ' (own_hwq hw) (kI := 4) (own_w2 hw) E_a36 F_a36_value F_a36_coder A_t85 (own_cod (cs := ([(i1 &&& (255 : Int32)), (i2 &&& (255 : Int32)), (i3 &&& (255 : Int32)), 47, 119, 114, 105, 116, 101] : List Int32)) (n := 9) rfl (own_allS (own_and255 i1) (own_allS (own_and255 i2) (own_allS (own_and255 i3) (own_allS (by decide) (own_allS (by decide) (own_allS (by decide) (own_allS (by decide) (own_allS (by decide) (own_allS (by decide) own_all0)))))))))) (own_up ([(i1 &&& (255 : Int32)), (i2 &&& (255 : Int32)), (i3 &&& (255 : Int32)), 47, 119, 114, 105, 116, 101] : List Int32) (own_allS (own_and255 i1) (own_allS (own_and255 i2) (own_allS (own_and255 i3) (own_allS (by decide) (own_allS (by decide) (own_allS (by decide) (own_allS (by decide) (own_allS (by decide) (own_allS (by decide) own_all0)))))))))) (Nat.le_of_ble_eq_true rfl) E_q_137 F_q_137_value F_q_137_coder A_tq_138 hcq (own_up ([(i1 &&& (255 : Int32)), (i2 &&& (255 : Int32)), (i3 &&& (255 : Int32)), 47, 119, 114, 105, 116, 101] : List Int32) (own_allS (own_and255 i1) (own_allS (own_and255 i2) (own_allS (own_and255 i3) (own_allS (by decide) (own_allS (by decide) (own_allS (by decide) (own_allS (by decide) (own_allS (by decide) (own_allS (by decide) own_all0)))))))))) (Nat.le_of_ble_eq_true rfl) (S_COMPACT_STRINGS.ext (own_old w163).2) P5 (by decide) (by decide)) (ws := []) all0 (fun v h' L q => ⟨q.2.2 ▸ Keep.refl _ _, q.2.1 ▸ Fr.nil _⟩) (argsL := [(.ref q_137)]) (rest := []) rfl rfl own_pd22 rfl own_d29_382 rfl (Nat.le_of_eq rfl) (by decide) (by decide) fun T168 h170 v171 w169 K172 q173 => ?_
     obtain ⟨_, hq_, -, e174⟩ := q173
     rw [e174] at w169
     rcases hq_ with ⟨rfl, hcs1⟩ | ⟨rfl, hcs1⟩
     ·
      show own_Go Z EL n0 p e below s _ _ _ (T168.setTop (mkF m 385 _ [(.int (1 : Int32))]))
      refine own_if (pc' := 388) w169 own_d29_385 rfl (by decide) (pcY := 410) rfl (fun (hb385 : (1 : Int32) = (0 : Int32)) => absurd hb385 (by decide)) (fun (hb385 : ¬ (1 : Int32) = (0 : Int32)) => ?_)
      refine own_aload (pc' := 390) w169 own_d29_388 rfl rfl rfl ?_
      refine own_callV (pc' := 393) w169 (own_w206 hw) (own_w207 hw) (fun s' hZ' => notFace_of_selects (args := #[]) (mvT hZ' (own_w209 hw))) (own_w209 hw) (own_w208 hw) (own_w52 hw) (own_w210 hw) (by decide) E_r_133 (own_ct_fixedR l Z a0 hw EL hE n0 [] h143 (own_old w169) r_133 F_r_133_fixedRecipient) all0 (argsL := []) (rest := []) rfl rfl own_pd11 rfl own_d29_390 rfl (by decide) (W := 0) rfl (by decide) (by decide) (by decide) fun T175 h177 v178 ms179 w176 q180 => ?_
      obtain ⟨rfl, rfl, rfl⟩ := q180
      show own_Go Z EL n0 p e below s _ _ _ (T175.setTop (mkF m 393 _ [(.int (0 : Int32))]))
      refine own_if (pc' := 396) w176 own_d29_393 rfl (by decide) (pcY := 410) rfl (fun (hb393 : ¬ (0 : Int32) = (0 : Int32)) => absurd hb393 (by decide)) (fun (hb393 : (0 : Int32) = (0 : Int32)) => ?_)
      refine own_aload (pc' := 398) w176 own_d29_396 rfl rfl rfl ?_
      refine own_callV (pc' := 401) w176 (own_w211 hw) (own_w212 hw) (fun s' hZ' => notFace_of_selects (args := #[]) (mvT hZ' (own_w214 hw))) (own_w214 hw) (own_w213 hw) (own_w52 hw) (own_w215 hw) (by decide) E_r_133 (own_ct_from l Z a0 hw EL hE n0 [] h143 (own_old w176) r_133 a118 F_r_133_from) all0 (argsL := []) (rest := []) rfl rfl own_pd23 rfl own_d29_398 rfl (by decide) (W := 0) rfl (by decide) (by decide) (by decide) fun T181 h183 v184 ms185 w182 q186 => ?_
      obtain ⟨rfl, rfl, rfl⟩ := q186
      show own_Go Z EL n0 p e below s _ _ _ (T181.setTop (mkF m 401 _ [(.ref a118)]))
      refine own_aload (pc' := 403) w182 own_d29_401 rfl rfl rfl ?_
      refine own_acmp (pc' := 406) w182 rfl rfl own_d29_403 rfl (by decide) (pcY := 410) rfl (fun (hb403 : ¬ ((.ref a118) : Value) = (.ref a118)) => absurd rfl hb403) (fun (hb403 : ((.ref a118) : Value) = (.ref a118)) => ?_)
      refine own_iconst (pc' := 407) w182 own_d29_406 (x := (1 : Int32)) rfl rfl ?_
      refine own_goto w182 own_d29_407 (by decide) (pc' := 411) rfl ?_
      exact own_retV w182 (t := .boolean) rfl rfl (Or.inl ⟨rfl, by simp, _, rfl⟩) own_d29_411 (by decide) (by decide) (ms' := []) all0 ⟨K, rfl, rfl⟩
     ·
      exact absurd rfl hcs1
    ·
     exact absurd rfl hcs0
   ·
    refine own_newO (pc' := 150) w0 (own_w9 hw) (own_w2 hw) (own_w1 hw) own_d29_147 rfl (by decide) (by decide) fun T187 h189 a191 g_a191 w188 E190 ⟨E_a191, D192⟩ => ?_
    have nw_a191 : h0.size ≤ a191 := Nat.le_trans K.1 (Nat.le_of_eq g_a191)
    replace K := K.ext E190
    have F_a191_value : Fld Z h189 a191 "java/lang/String" "value" "[B" .null := D192 (Or.inr (own_w4 hw)) (ty := (.array .byte)) (by decide)
    have F_a191_coder : Fld Z h189 a191 "java/lang/String" "coder" "B" (.int 0) := D192 (Or.inr (own_w5 hw)) (ty := .byte) (by decide)
    refine own_dup (pc' := 151) w188 own_d29_150 rfl rfl ?_
    refine own_iconst (pc' := 152) w188 own_d29_151 (x := (2 : Int32)) rfl rfl ?_
    refine own_newP (pc' := 154) w188 (aty := .char) (z := (2 : Int32)) (vs := [(.int 0), (.int 0)]) (dv := (.int 0)) (cap := 2) (own_w10 hw) own_d29_152 rfl (by decide) (by decide) (by decide) rfl (own_rep 2 (.int 0)) (by decide) (by decide) fun T193 h195 a197 g_a197 w194 E196 ⟨k_a197, A_a197⟩ => ?_
    have ne_a191_a197 : a191 ≠ a197 := Nat.ne_of_lt (Nat.lt_of_lt_of_le E_a191.lt (Nat.le_of_eq g_a197))
    have nw_a197 : h0.size ≤ a197 := Nat.le_trans K.1 (Nat.le_of_eq g_a197)
    replace E_a191 := E_a191.ext E196
    replace F_a191_value := F_a191_value.ext E196
    replace F_a191_coder := F_a191_coder.ext E196
    replace K := K.ext E196
    refine own_dup (pc' := 155) w194 own_d29_154 rfl rfl ?_
    refine own_iconst (pc' := 156) w194 own_d29_155 (x := (0 : Int32)) rfl rfl ?_
    refine own_iload (pc' := 158) w194 own_d29_156 rfl rfl ?_
    refine own_stC (pc' := 159) w194 (i := 0) (xv := (.int (i1 &&& (255 : Int32)))) (vs' := [(.int (i1 &&& (255 : Int32))), (.int 0)]) (by simp) A_a197 (by decide) rfl (Nat.lt_of_sub_eq_succ rfl) (own_ncB (own_and255 i1)) (own_fcB (own_and255 i1)) rfl own_d29_158 rfl fun T198 h200 w199 W201 A_new => ?_
    clear A_a197
    replace E_a191 := E_a191.wr W201
    replace F_a191_value := F_a191_value.other W201 (Or.inl ne_a191_a197)
    replace F_a191_coder := F_a191_coder.other W201 (Or.inl ne_a191_a197)
    replace K := K.wr W201 (Or.inr nw_a197)
    have A_a197 := A_new
    clear A_new
    refine own_dup (pc' := 160) w199 own_d29_159 rfl rfl ?_
    refine own_iconst (pc' := 161) w199 own_d29_160 (x := (1 : Int32)) rfl rfl ?_
    refine own_iload (pc' := 163) w199 own_d29_161 rfl rfl ?_
    refine own_stC (pc' := 164) w199 (i := 1) (xv := (.int (i2 &&& (255 : Int32)))) (vs' := [(.int (i1 &&& (255 : Int32))), (.int (i2 &&& (255 : Int32)))]) (by simp) A_a197 (by decide) rfl (Nat.lt_of_sub_eq_succ rfl) (own_ncB (own_and255 i2)) (own_fcB (own_and255 i2)) rfl own_d29_163 rfl fun T202 h204 w203 W205 A_new => ?_
    clear A_a197
    replace E_a191 := E_a191.wr W205
    replace F_a191_value := F_a191_value.other W205 (Or.inl ne_a191_a197)
    replace F_a191_coder := F_a191_coder.other W205 (Or.inl ne_a191_a197)
    replace K := K.wr W205 (Or.inr nw_a197)
    have A_a197 := A_new
    clear A_new
    refine own_callIB (pc' := 167) w203 (bytes' := jdk_42_method_3_code) rfl (own_w11 hw) (own_w12 hw) (own_w13 hw) (by decide) (fun s' hZ' => StrChars.Road.backV (W := 1) hZ' (own_hws hw) (kI := 4) (own_w2 hw) (cs := [(i1 &&& (255 : Int32)), (i2 &&& (255 : Int32))]) (n := 2) (n0 := n0) (own_mine w203 a191 (by simp)).1 (own_n0 (own_old w203)) E_a191 F_a191_value F_a191_coder A_a197 (S_COMPACT_STRINGS.ext (own_old w203).2) P5 rfl rfl (by decide) (by decide) (own_allS (own_and255 i1) (own_allS (own_and255 i2) own_all0)) rfl (by decide) (by decide)) (ws := [a191]) (allS (P := fun x => x ∈ _) (by simp) all0) (fun v h' L q => ⟨q.2.2.1, q.2.1⟩) (argsL := [.ref a197]) (rest := [(.ref a191)]) rfl rfl own_pd19 rfl own_d29_164 rfl (Nat.le_of_eq rfl) (by decide) (by decide) fun T206 h208 v209 w207 K210 q211 => ?_
    obtain ⟨_, rfl, -, -, nw_E, nw_C, t212, kb213, -, le_t212, ne_t212, nw_V, nw_A⟩ := q211
    have ne_a191_t212 : a191 ≠ t212 := Nat.ne_of_lt (Nat.lt_of_lt_of_le E_a191.lt le_t212)
    have ne_a197_t212 : a197 ≠ t212 := Nat.ne_of_lt (Nat.lt_of_lt_of_le A_a197.lt le_t212)
    have nw_t212 : h0.size ≤ t212 := Nat.le_trans K.1 le_t212
    replace A_a197 := A_a197.keep K210 (ninS (Ne.symm ne_a191_a197) nin0)
    replace K := K.trans K210 (allS (P := fun x => x ∈ ([] : List Addr) ∨ h0.size ≤ x) (Or.inr nw_a191) all0)
    have E_a191 := nw_E; have F_a191_coder := nw_C; have F_a191_value := nw_V; have A_t212 := nw_A; clear nw_E nw_C nw_V nw_A
    show own_Go Z EL n0 p e below s _ _ _ (T206.setTop (mkF m 167 _ [(.ref a191)]))
    refine own_astore (pc' := 169) w207 own_d29_167 rfl (Ls' := #[.val (.int i0), .val (.int i1), .val (.int i2), .val (.int i3), .val (.int i4), .val (.int (i1 &&& (255 : Int32))), .val (.int (i2 &&& (255 : Int32))), .val (.int (i3 &&& (255 : Int32))), .val (.int (i4 &&& (255 : Int32))), .val (.int ((XT.ushr i4 (8 : Int32)) &&& (255 : Int32))), .val (.int (i0 &&& (3 : Int32))), .val (.ref a191), .unset, .unset, .unset, .unset]) rfl rfl ?_
    refine own_newO (pc' := 172) w207 (own_w9 hw) (own_w2 hw) (own_w1 hw) own_d29_169 rfl (by decide) (by decide) fun T214 h216 a218 g_a218 w215 E217 ⟨E_a218, D219⟩ => ?_
    have ne_a191_a218 : a191 ≠ a218 := Nat.ne_of_lt (Nat.lt_of_lt_of_le E_a191.lt (Nat.le_of_eq g_a218))
    have ne_a197_a218 : a197 ≠ a218 := Nat.ne_of_lt (Nat.lt_of_lt_of_le A_a197.lt (Nat.le_of_eq g_a218))
    have ne_t212_a218 : t212 ≠ a218 := Nat.ne_of_lt (Nat.lt_of_lt_of_le A_t212.lt (Nat.le_of_eq g_a218))
    have nw_a218 : h0.size ≤ a218 := Nat.le_trans K.1 (Nat.le_of_eq g_a218)
    replace A_a197 := A_a197.ext E217
    replace E_a191 := E_a191.ext E217
    replace F_a191_coder := F_a191_coder.ext E217
    replace F_a191_value := F_a191_value.ext E217
    replace A_t212 := A_t212.ext E217
    replace K := K.ext E217
    have F_a218_value : Fld Z h216 a218 "java/lang/String" "value" "[B" .null := D219 (Or.inr (own_w4 hw)) (ty := (.array .byte)) (by decide)
    have F_a218_coder : Fld Z h216 a218 "java/lang/String" "coder" "B" (.int 0) := D219 (Or.inr (own_w5 hw)) (ty := .byte) (by decide)
    refine own_dup (pc' := 173) w215 own_d29_172 rfl rfl ?_
    refine own_bipush (pc' := 175) w215 own_d29_173 (x := (8 : Int32)) rfl rfl ?_
    refine own_newP (pc' := 177) w215 (aty := .char) (z := (8 : Int32)) (vs := [(.int 0), (.int 0), (.int 0), (.int 0), (.int 0), (.int 0), (.int 0), (.int 0)]) (dv := (.int 0)) (cap := 8) (own_w10 hw) own_d29_175 rfl (by decide) (by decide) (by decide) rfl (own_rep 8 (.int 0)) (by decide) (by decide) fun T220 h222 a224 g_a224 w221 E223 ⟨k_a224, A_a224⟩ => ?_
    have ne_a191_a224 : a191 ≠ a224 := Nat.ne_of_lt (Nat.lt_of_lt_of_le E_a191.lt (Nat.le_of_eq g_a224))
    have ne_a197_a224 : a197 ≠ a224 := Nat.ne_of_lt (Nat.lt_of_lt_of_le A_a197.lt (Nat.le_of_eq g_a224))
    have ne_a218_a224 : a218 ≠ a224 := Nat.ne_of_lt (Nat.lt_of_lt_of_le E_a218.lt (Nat.le_of_eq g_a224))
    have ne_t212_a224 : t212 ≠ a224 := Nat.ne_of_lt (Nat.lt_of_lt_of_le A_t212.lt (Nat.le_of_eq g_a224))
    have nw_a224 : h0.size ≤ a224 := Nat.le_trans K.1 (Nat.le_of_eq g_a224)
    replace A_a197 := A_a197.ext E223
    replace E_a191 := E_a191.ext E223
    replace F_a191_coder := F_a191_coder.ext E223
    replace F_a191_value := F_a191_value.ext E223
    replace A_t212 := A_t212.ext E223
    replace E_a218 := E_a218.ext E223
    replace F_a218_value := F_a218_value.ext E223
    replace F_a218_coder := F_a218_coder.ext E223
    replace K := K.ext E223
    refine own_dup (pc' := 178) w221 own_d29_177 rfl rfl ?_
    refine own_iconst (pc' := 179) w221 own_d29_178 (x := (0 : Int32)) rfl rfl ?_
    refine own_iload (pc' := 181) w221 own_d29_179 rfl rfl ?_
    refine own_stC (pc' := 182) w221 (i := 0) (xv := (.int (i1 &&& (255 : Int32)))) (vs' := [(.int (i1 &&& (255 : Int32))), (.int 0), (.int 0), (.int 0), (.int 0), (.int 0), (.int 0), (.int 0)]) (by simp) A_a224 (by decide) rfl (Nat.lt_of_sub_eq_succ rfl) (own_ncB (own_and255 i1)) (own_fcB (own_and255 i1)) rfl own_d29_181 rfl fun T225 h227 w226 W228 A_new => ?_
    clear A_a224
    replace A_a197 := A_a197.other W228 ne_a197_a224
    replace E_a191 := E_a191.wr W228
    replace F_a191_coder := F_a191_coder.other W228 (Or.inl ne_a191_a224)
    replace F_a191_value := F_a191_value.other W228 (Or.inl ne_a191_a224)
    replace A_t212 := A_t212.other W228 ne_t212_a224
    replace E_a218 := E_a218.wr W228
    replace F_a218_value := F_a218_value.other W228 (Or.inl ne_a218_a224)
    replace F_a218_coder := F_a218_coder.other W228 (Or.inl ne_a218_a224)
    replace K := K.wr W228 (Or.inr nw_a224)
    have A_a224 := A_new
    clear A_new
    refine own_dup (pc' := 183) w226 own_d29_182 rfl rfl ?_
    refine own_iconst (pc' := 184) w226 own_d29_183 (x := (1 : Int32)) rfl rfl ?_
    refine own_iload (pc' := 186) w226 own_d29_184 rfl rfl ?_
    refine own_stC (pc' := 187) w226 (i := 1) (xv := (.int (i2 &&& (255 : Int32)))) (vs' := [(.int (i1 &&& (255 : Int32))), (.int (i2 &&& (255 : Int32))), (.int 0), (.int 0), (.int 0), (.int 0), (.int 0), (.int 0)]) (by simp) A_a224 (by decide) rfl (Nat.lt_of_sub_eq_succ rfl) (own_ncB (own_and255 i2)) (own_fcB (own_and255 i2)) rfl own_d29_186 rfl fun T229 h231 w230 W232 A_new => ?_
    clear A_a224
    replace A_a197 := A_a197.other W232 ne_a197_a224
    replace E_a191 := E_a191.wr W232
    replace F_a191_coder := F_a191_coder.other W232 (Or.inl ne_a191_a224)
    replace F_a191_value := F_a191_value.other W232 (Or.inl ne_a191_a224)
    replace A_t212 := A_t212.other W232 ne_t212_a224
    replace E_a218 := E_a218.wr W232
    replace F_a218_value := F_a218_value.other W232 (Or.inl ne_a218_a224)
    replace F_a218_coder := F_a218_coder.other W232 (Or.inl ne_a218_a224)
    replace K := K.wr W232 (Or.inr nw_a224)
    have A_a224 := A_new
    clear A_new
    refine own_dup (pc' := 188) w230 own_d29_187 rfl rfl ?_
    refine own_iconst (pc' := 189) w230 own_d29_188 (x := (2 : Int32)) rfl rfl ?_
    refine own_bipush (pc' := 191) w230 own_d29_189 (x := (47 : Int32)) rfl rfl ?_
    refine own_stC (pc' := 192) w230 (i := 2) (xv := (.int 47)) (vs' := [(.int (i1 &&& (255 : Int32))), (.int (i2 &&& (255 : Int32))), (.int 47), (.int 0), (.int 0), (.int 0), (.int 0), (.int 0)]) (by simp) A_a224 (by decide) rfl (Nat.lt_of_sub_eq_succ rfl) (own_ncB (by decide)) (own_fcB (by decide)) rfl own_d29_191 rfl fun T233 h235 w234 W236 A_new => ?_
    clear A_a224
    replace A_a197 := A_a197.other W236 ne_a197_a224
    replace E_a191 := E_a191.wr W236
    replace F_a191_coder := F_a191_coder.other W236 (Or.inl ne_a191_a224)
    replace F_a191_value := F_a191_value.other W236 (Or.inl ne_a191_a224)
    replace A_t212 := A_t212.other W236 ne_t212_a224
    replace E_a218 := E_a218.wr W236
    replace F_a218_value := F_a218_value.other W236 (Or.inl ne_a218_a224)
    replace F_a218_coder := F_a218_coder.other W236 (Or.inl ne_a218_a224)
    replace K := K.wr W236 (Or.inr nw_a224)
    have A_a224 := A_new
    clear A_new
    refine own_dup (pc' := 193) w234 own_d29_192 rfl rfl ?_
    refine own_iconst (pc' := 194) w234 own_d29_193 (x := (3 : Int32)) rfl rfl ?_
    refine own_bipush (pc' := 196) w234 own_d29_194 (x := (119 : Int32)) rfl rfl ?_
    refine own_stC (pc' := 197) w234 (i := 3) (xv := (.int 119)) (vs' := [(.int (i1 &&& (255 : Int32))), (.int (i2 &&& (255 : Int32))), (.int 47), (.int 119), (.int 0), (.int 0), (.int 0), (.int 0)]) (by simp) A_a224 (by decide) rfl (Nat.lt_of_sub_eq_succ rfl) (own_ncB (by decide)) (own_fcB (by decide)) rfl own_d29_196 rfl fun T237 h239 w238 W240 A_new => ?_
    clear A_a224
    replace A_a197 := A_a197.other W240 ne_a197_a224
    replace E_a191 := E_a191.wr W240
    replace F_a191_coder := F_a191_coder.other W240 (Or.inl ne_a191_a224)
    replace F_a191_value := F_a191_value.other W240 (Or.inl ne_a191_a224)
    replace A_t212 := A_t212.other W240 ne_t212_a224
    replace E_a218 := E_a218.wr W240
    replace F_a218_value := F_a218_value.other W240 (Or.inl ne_a218_a224)
    replace F_a218_coder := F_a218_coder.other W240 (Or.inl ne_a218_a224)
    replace K := K.wr W240 (Or.inr nw_a224)
    have A_a224 := A_new
    clear A_new
    refine own_dup (pc' := 198) w238 own_d29_197 rfl rfl ?_
    refine own_iconst (pc' := 199) w238 own_d29_198 (x := (4 : Int32)) rfl rfl ?_
    refine own_bipush (pc' := 201) w238 own_d29_199 (x := (114 : Int32)) rfl rfl ?_
    refine own_stC (pc' := 202) w238 (i := 4) (xv := (.int 114)) (vs' := [(.int (i1 &&& (255 : Int32))), (.int (i2 &&& (255 : Int32))), (.int 47), (.int 119), (.int 114), (.int 0), (.int 0), (.int 0)]) (by simp) A_a224 (by decide) rfl (Nat.lt_of_sub_eq_succ rfl) (own_ncB (by decide)) (own_fcB (by decide)) rfl own_d29_201 rfl fun T241 h243 w242 W244 A_new => ?_
    clear A_a224
    replace A_a197 := A_a197.other W244 ne_a197_a224
    replace E_a191 := E_a191.wr W244
    replace F_a191_coder := F_a191_coder.other W244 (Or.inl ne_a191_a224)
    replace F_a191_value := F_a191_value.other W244 (Or.inl ne_a191_a224)
    replace A_t212 := A_t212.other W244 ne_t212_a224
    replace E_a218 := E_a218.wr W244
    replace F_a218_value := F_a218_value.other W244 (Or.inl ne_a218_a224)
    replace F_a218_coder := F_a218_coder.other W244 (Or.inl ne_a218_a224)
    replace K := K.wr W244 (Or.inr nw_a224)
    have A_a224 := A_new
    clear A_new
    refine own_dup (pc' := 203) w242 own_d29_202 rfl rfl ?_
    refine own_iconst (pc' := 204) w242 own_d29_203 (x := (5 : Int32)) rfl rfl ?_
    refine own_bipush (pc' := 206) w242 own_d29_204 (x := (105 : Int32)) rfl rfl ?_
    refine own_stC (pc' := 207) w242 (i := 5) (xv := (.int 105)) (vs' := [(.int (i1 &&& (255 : Int32))), (.int (i2 &&& (255 : Int32))), (.int 47), (.int 119), (.int 114), (.int 105), (.int 0), (.int 0)]) (by simp) A_a224 (by decide) rfl (Nat.lt_of_sub_eq_succ rfl) (own_ncB (by decide)) (own_fcB (by decide)) rfl own_d29_206 rfl fun T245 h247 w246 W248 A_new => ?_
    clear A_a224
    replace A_a197 := A_a197.other W248 ne_a197_a224
    replace E_a191 := E_a191.wr W248
    replace F_a191_coder := F_a191_coder.other W248 (Or.inl ne_a191_a224)
    replace F_a191_value := F_a191_value.other W248 (Or.inl ne_a191_a224)
    replace A_t212 := A_t212.other W248 ne_t212_a224
    replace E_a218 := E_a218.wr W248
    replace F_a218_value := F_a218_value.other W248 (Or.inl ne_a218_a224)
    replace F_a218_coder := F_a218_coder.other W248 (Or.inl ne_a218_a224)
    replace K := K.wr W248 (Or.inr nw_a224)
    have A_a224 := A_new
    clear A_new
    refine own_dup (pc' := 208) w246 own_d29_207 rfl rfl ?_
    refine own_bipush (pc' := 210) w246 own_d29_208 (x := (6 : Int32)) rfl rfl ?_
    refine own_bipush (pc' := 212) w246 own_d29_210 (x := (116 : Int32)) rfl rfl ?_
    refine own_stC (pc' := 213) w246 (i := 6) (xv := (.int 116)) (vs' := [(.int (i1 &&& (255 : Int32))), (.int (i2 &&& (255 : Int32))), (.int 47), (.int 119), (.int 114), (.int 105), (.int 116), (.int 0)]) (by simp) A_a224 (by decide) rfl (Nat.lt_of_sub_eq_succ rfl) (own_ncB (by decide)) (own_fcB (by decide)) rfl own_d29_212 rfl fun T249 h251 w250 W252 A_new => ?_
    clear A_a224
    replace A_a197 := A_a197.other W252 ne_a197_a224
    replace E_a191 := E_a191.wr W252
    replace F_a191_coder := F_a191_coder.other W252 (Or.inl ne_a191_a224)
    replace F_a191_value := F_a191_value.other W252 (Or.inl ne_a191_a224)
    replace A_t212 := A_t212.other W252 ne_t212_a224
    replace E_a218 := E_a218.wr W252
    replace F_a218_value := F_a218_value.other W252 (Or.inl ne_a218_a224)
    replace F_a218_coder := F_a218_coder.other W252 (Or.inl ne_a218_a224)
    replace K := K.wr W252 (Or.inr nw_a224)
    have A_a224 := A_new
    clear A_new
    refine own_dup (pc' := 214) w250 own_d29_213 rfl rfl ?_
    refine own_bipush (pc' := 216) w250 own_d29_214 (x := (7 : Int32)) rfl rfl ?_
    refine own_bipush (pc' := 218) w250 own_d29_216 (x := (101 : Int32)) rfl rfl ?_
    refine own_stC (pc' := 219) w250 (i := 7) (xv := (.int 101)) (vs' := [(.int (i1 &&& (255 : Int32))), (.int (i2 &&& (255 : Int32))), (.int 47), (.int 119), (.int 114), (.int 105), (.int 116), (.int 101)]) (by simp) A_a224 (by decide) rfl (Nat.lt_of_sub_eq_succ rfl) (own_ncB (by decide)) (own_fcB (by decide)) rfl own_d29_218 rfl fun T253 h255 w254 W256 A_new => ?_
    clear A_a224
    replace A_a197 := A_a197.other W256 ne_a197_a224
    replace E_a191 := E_a191.wr W256
    replace F_a191_coder := F_a191_coder.other W256 (Or.inl ne_a191_a224)
    replace F_a191_value := F_a191_value.other W256 (Or.inl ne_a191_a224)
    replace A_t212 := A_t212.other W256 ne_t212_a224
    replace E_a218 := E_a218.wr W256
    replace F_a218_value := F_a218_value.other W256 (Or.inl ne_a218_a224)
    replace F_a218_coder := F_a218_coder.other W256 (Or.inl ne_a218_a224)
    replace K := K.wr W256 (Or.inr nw_a224)
    have A_a224 := A_new
    clear A_new
    refine own_callIB (pc' := 222) w254 (bytes' := jdk_42_method_3_code) rfl (own_w11 hw) (own_w12 hw) (own_w13 hw) (by decide) (fun s' hZ' => StrChars.Road.backV (W := 1) hZ' (own_hws hw) (kI := 4) (own_w2 hw) (cs := [(i1 &&& (255 : Int32)), (i2 &&& (255 : Int32)), 47, 119, 114, 105, 116, 101]) (n := 8) (n0 := n0) (own_mine w254 a218 (by simp)).1 (own_n0 (own_old w254)) E_a218 F_a218_value F_a218_coder A_a224 (S_COMPACT_STRINGS.ext (own_old w254).2) P5 rfl rfl (by decide) (by decide) (own_allS (own_and255 i1) (own_allS (own_and255 i2) (own_allS (by decide) (own_allS (by decide) (own_allS (by decide) (own_allS (by decide) (own_allS (by decide) (own_allS (by decide) own_all0)))))))) rfl (by decide) (by decide)) (ws := [a218]) (allS (P := fun x => x ∈ _) (by simp) all0) (fun v h' L q => ⟨q.2.2.1, q.2.1⟩) (argsL := [.ref a224]) (rest := [(.ref a218)]) rfl rfl own_pd19 rfl own_d29_219 rfl (Nat.le_of_eq rfl) (by decide) (by decide) fun T257 h259 v260 w258 K261 q262 => ?_
    obtain ⟨_, rfl, -, -, nw_E, nw_C, t263, kb264, -, le_t263, ne_t263, nw_V, nw_A⟩ := q262
    have ne_a191_t263 : a191 ≠ t263 := Nat.ne_of_lt (Nat.lt_of_lt_of_le E_a191.lt le_t263)
    have ne_a197_t263 : a197 ≠ t263 := Nat.ne_of_lt (Nat.lt_of_lt_of_le A_a197.lt le_t263)
    have ne_a218_t263 : a218 ≠ t263 := Nat.ne_of_lt (Nat.lt_of_lt_of_le E_a218.lt le_t263)
    have ne_a224_t263 : a224 ≠ t263 := Nat.ne_of_lt (Nat.lt_of_lt_of_le A_a224.lt le_t263)
    have ne_t212_t263 : t212 ≠ t263 := Nat.ne_of_lt (Nat.lt_of_lt_of_le A_t212.lt le_t263)
    have nw_t263 : h0.size ≤ t263 := Nat.le_trans K.1 le_t263
    replace A_a197 := A_a197.keep K261 (ninS ne_a197_a218 nin0)
    replace E_a191 := E_a191.keep K261
    replace F_a191_coder := F_a191_coder.keep K261 (ninS ne_a191_a218 nin0)
    replace F_a191_value := F_a191_value.keep K261 (ninS ne_a191_a218 nin0)
    replace A_t212 := A_t212.keep K261 (ninS ne_t212_a218 nin0)
    replace A_a224 := A_a224.keep K261 (ninS (Ne.symm ne_a218_a224) nin0)
    replace K := K.trans K261 (allS (P := fun x => x ∈ ([] : List Addr) ∨ h0.size ≤ x) (Or.inr nw_a218) all0)
    have E_a218 := nw_E; have F_a218_coder := nw_C; have F_a218_value := nw_V; have A_t263 := nw_A; clear nw_E nw_C nw_V nw_A
    show own_Go Z EL n0 p e below s _ _ _ (T257.setTop (mkF m 222 _ [(.ref a218)]))
    refine own_astore (pc' := 224) w258 own_d29_222 rfl (Ls' := #[.val (.int i0), .val (.int i1), .val (.int i2), .val (.int i3), .val (.int i4), .val (.int (i1 &&& (255 : Int32))), .val (.int (i2 &&& (255 : Int32))), .val (.int (i3 &&& (255 : Int32))), .val (.int (i4 &&& (255 : Int32))), .val (.int ((XT.ushr i4 (8 : Int32)) &&& (255 : Int32))), .val (.int (i0 &&& (3 : Int32))), .val (.ref a191), .val (.ref a218), .unset, .unset, .unset]) rfl rfl ?_
    refine own_goto w258 own_d29_224 (by decide) (pc' := 315) rfl ?_
    refine own_newO (pc' := 318) w258 (own_w9 hw) (own_w2 hw) (own_w1 hw) own_d29_315 rfl (by decide) (by decide) fun T265 h267 a269 g_a269 w266 E268 ⟨E_a269, D270⟩ => ?_
    have ne_a191_a269 : a191 ≠ a269 := Nat.ne_of_lt (Nat.lt_of_lt_of_le E_a191.lt (Nat.le_of_eq g_a269))
    have ne_a197_a269 : a197 ≠ a269 := Nat.ne_of_lt (Nat.lt_of_lt_of_le A_a197.lt (Nat.le_of_eq g_a269))
    have ne_a218_a269 : a218 ≠ a269 := Nat.ne_of_lt (Nat.lt_of_lt_of_le E_a218.lt (Nat.le_of_eq g_a269))
    have ne_a224_a269 : a224 ≠ a269 := Nat.ne_of_lt (Nat.lt_of_lt_of_le A_a224.lt (Nat.le_of_eq g_a269))
    have ne_t212_a269 : t212 ≠ a269 := Nat.ne_of_lt (Nat.lt_of_lt_of_le A_t212.lt (Nat.le_of_eq g_a269))
    have ne_t263_a269 : t263 ≠ a269 := Nat.ne_of_lt (Nat.lt_of_lt_of_le A_t263.lt (Nat.le_of_eq g_a269))
    have nw_a269 : h0.size ≤ a269 := Nat.le_trans K.1 (Nat.le_of_eq g_a269)
    replace A_a197 := A_a197.ext E268
    replace E_a191 := E_a191.ext E268
    replace F_a191_coder := F_a191_coder.ext E268
    replace F_a191_value := F_a191_value.ext E268
    replace A_t212 := A_t212.ext E268
    replace A_a224 := A_a224.ext E268
    replace E_a218 := E_a218.ext E268
    replace F_a218_coder := F_a218_coder.ext E268
    replace F_a218_value := F_a218_value.ext E268
    replace A_t263 := A_t263.ext E268
    replace K := K.ext E268
    have F_a269_value : Fld Z h267 a269 "java/lang/String" "value" "[B" .null := D270 (Or.inr (own_w4 hw)) (ty := (.array .byte)) (by decide)
    have F_a269_coder : Fld Z h267 a269 "java/lang/String" "coder" "B" (.int 0) := D270 (Or.inr (own_w5 hw)) (ty := .byte) (by decide)
    refine own_dup (pc' := 319) w266 own_d29_318 rfl rfl ?_
    refine own_iconst (pc' := 320) w266 own_d29_319 (x := (2 : Int32)) rfl rfl ?_
    refine own_newP (pc' := 322) w266 (aty := .char) (z := (2 : Int32)) (vs := [(.int 0), (.int 0)]) (dv := (.int 0)) (cap := 2) (own_w10 hw) own_d29_320 rfl (by decide) (by decide) (by decide) rfl (own_rep 2 (.int 0)) (by decide) (by decide) fun T271 h273 a275 g_a275 w272 E274 ⟨k_a275, A_a275⟩ => ?_
    have ne_a191_a275 : a191 ≠ a275 := Nat.ne_of_lt (Nat.lt_of_lt_of_le E_a191.lt (Nat.le_of_eq g_a275))
    have ne_a197_a275 : a197 ≠ a275 := Nat.ne_of_lt (Nat.lt_of_lt_of_le A_a197.lt (Nat.le_of_eq g_a275))
    have ne_a218_a275 : a218 ≠ a275 := Nat.ne_of_lt (Nat.lt_of_lt_of_le E_a218.lt (Nat.le_of_eq g_a275))
    have ne_a224_a275 : a224 ≠ a275 := Nat.ne_of_lt (Nat.lt_of_lt_of_le A_a224.lt (Nat.le_of_eq g_a275))
    have ne_a269_a275 : a269 ≠ a275 := Nat.ne_of_lt (Nat.lt_of_lt_of_le E_a269.lt (Nat.le_of_eq g_a275))
    have ne_t212_a275 : t212 ≠ a275 := Nat.ne_of_lt (Nat.lt_of_lt_of_le A_t212.lt (Nat.le_of_eq g_a275))
    have ne_t263_a275 : t263 ≠ a275 := Nat.ne_of_lt (Nat.lt_of_lt_of_le A_t263.lt (Nat.le_of_eq g_a275))
    have nw_a275 : h0.size ≤ a275 := Nat.le_trans K.1 (Nat.le_of_eq g_a275)
    replace A_a197 := A_a197.ext E274
    replace E_a191 := E_a191.ext E274
    replace F_a191_coder := F_a191_coder.ext E274
    replace F_a191_value := F_a191_value.ext E274
    replace A_t212 := A_t212.ext E274
    replace A_a224 := A_a224.ext E274
    replace E_a218 := E_a218.ext E274
    replace F_a218_coder := F_a218_coder.ext E274
    replace F_a218_value := F_a218_value.ext E274
    replace A_t263 := A_t263.ext E274
    replace E_a269 := E_a269.ext E274
    replace F_a269_value := F_a269_value.ext E274
    replace F_a269_coder := F_a269_coder.ext E274
    replace K := K.ext E274
    refine own_dup (pc' := 323) w272 own_d29_322 rfl rfl ?_
    refine own_iconst (pc' := 324) w272 own_d29_323 (x := (0 : Int32)) rfl rfl ?_
    refine own_iload (pc' := 326) w272 own_d29_324 rfl rfl ?_
    refine own_stC (pc' := 327) w272 (i := 0) (xv := (.int (i4 &&& (255 : Int32)))) (vs' := [(.int (i4 &&& (255 : Int32))), (.int 0)]) (by simp) A_a275 (by decide) rfl (Nat.lt_of_sub_eq_succ rfl) (own_ncB (own_and255 i4)) (own_fcB (own_and255 i4)) rfl own_d29_326 rfl fun T276 h278 w277 W279 A_new => ?_
    clear A_a275
    replace A_a197 := A_a197.other W279 ne_a197_a275
    replace E_a191 := E_a191.wr W279
    replace F_a191_coder := F_a191_coder.other W279 (Or.inl ne_a191_a275)
    replace F_a191_value := F_a191_value.other W279 (Or.inl ne_a191_a275)
    replace A_t212 := A_t212.other W279 ne_t212_a275
    replace A_a224 := A_a224.other W279 ne_a224_a275
    replace E_a218 := E_a218.wr W279
    replace F_a218_coder := F_a218_coder.other W279 (Or.inl ne_a218_a275)
    replace F_a218_value := F_a218_value.other W279 (Or.inl ne_a218_a275)
    replace A_t263 := A_t263.other W279 ne_t263_a275
    replace E_a269 := E_a269.wr W279
    replace F_a269_value := F_a269_value.other W279 (Or.inl ne_a269_a275)
    replace F_a269_coder := F_a269_coder.other W279 (Or.inl ne_a269_a275)
    replace K := K.wr W279 (Or.inr nw_a275)
    have A_a275 := A_new
    clear A_new
    refine own_dup (pc' := 328) w277 own_d29_327 rfl rfl ?_
    refine own_iconst (pc' := 329) w277 own_d29_328 (x := (1 : Int32)) rfl rfl ?_
    refine own_iload (pc' := 331) w277 own_d29_329 rfl rfl ?_
    refine own_stC (pc' := 332) w277 (i := 1) (xv := (.int ((XT.ushr i4 (8 : Int32)) &&& (255 : Int32)))) (vs' := [(.int (i4 &&& (255 : Int32))), (.int ((XT.ushr i4 (8 : Int32)) &&& (255 : Int32)))]) (by simp) A_a275 (by decide) rfl (Nat.lt_of_sub_eq_succ rfl) (own_ncB (own_and255 (XT.ushr i4 (8 : Int32)))) (own_fcB (own_and255 (XT.ushr i4 (8 : Int32)))) rfl own_d29_331 rfl fun T280 h282 w281 W283 A_new => ?_
    clear A_a275
    replace A_a197 := A_a197.other W283 ne_a197_a275
    replace E_a191 := E_a191.wr W283
    replace F_a191_coder := F_a191_coder.other W283 (Or.inl ne_a191_a275)
    replace F_a191_value := F_a191_value.other W283 (Or.inl ne_a191_a275)
    replace A_t212 := A_t212.other W283 ne_t212_a275
    replace A_a224 := A_a224.other W283 ne_a224_a275
    replace E_a218 := E_a218.wr W283
    replace F_a218_coder := F_a218_coder.other W283 (Or.inl ne_a218_a275)
    replace F_a218_value := F_a218_value.other W283 (Or.inl ne_a218_a275)
    replace A_t263 := A_t263.other W283 ne_t263_a275
    replace E_a269 := E_a269.wr W283
    replace F_a269_value := F_a269_value.other W283 (Or.inl ne_a269_a275)
    replace F_a269_coder := F_a269_coder.other W283 (Or.inl ne_a269_a275)
    replace K := K.wr W283 (Or.inr nw_a275)
    have A_a275 := A_new
    clear A_new
    refine own_callIB (pc' := 335) w281 (bytes' := jdk_42_method_3_code) rfl (own_w11 hw) (own_w12 hw) (own_w13 hw) (by decide) (fun s' hZ' => StrChars.Road.backV (W := 1) hZ' (own_hws hw) (kI := 4) (own_w2 hw) (cs := [(i4 &&& (255 : Int32)), ((XT.ushr i4 (8 : Int32)) &&& (255 : Int32))]) (n := 2) (n0 := n0) (own_mine w281 a269 (by simp)).1 (own_n0 (own_old w281)) E_a269 F_a269_value F_a269_coder A_a275 (S_COMPACT_STRINGS.ext (own_old w281).2) P5 rfl rfl (by decide) (by decide) (own_allS (own_and255 i4) (own_allS (own_and255 (XT.ushr i4 (8 : Int32))) own_all0)) rfl (by decide) (by decide)) (ws := [a269]) (allS (P := fun x => x ∈ _) (by simp) all0) (fun v h' L q => ⟨q.2.2.1, q.2.1⟩) (argsL := [.ref a275]) (rest := [(.ref a269)]) rfl rfl own_pd19 rfl own_d29_332 rfl (Nat.le_of_eq rfl) (by decide) (by decide) fun T284 h286 v287 w285 K288 q289 => ?_
    obtain ⟨_, rfl, -, -, nw_E, nw_C, t290, kb291, -, le_t290, ne_t290, nw_V, nw_A⟩ := q289
    have ne_a191_t290 : a191 ≠ t290 := Nat.ne_of_lt (Nat.lt_of_lt_of_le E_a191.lt le_t290)
    have ne_a197_t290 : a197 ≠ t290 := Nat.ne_of_lt (Nat.lt_of_lt_of_le A_a197.lt le_t290)
    have ne_a218_t290 : a218 ≠ t290 := Nat.ne_of_lt (Nat.lt_of_lt_of_le E_a218.lt le_t290)
    have ne_a224_t290 : a224 ≠ t290 := Nat.ne_of_lt (Nat.lt_of_lt_of_le A_a224.lt le_t290)
    have ne_a269_t290 : a269 ≠ t290 := Nat.ne_of_lt (Nat.lt_of_lt_of_le E_a269.lt le_t290)
    have ne_a275_t290 : a275 ≠ t290 := Nat.ne_of_lt (Nat.lt_of_lt_of_le A_a275.lt le_t290)
    have ne_t212_t290 : t212 ≠ t290 := Nat.ne_of_lt (Nat.lt_of_lt_of_le A_t212.lt le_t290)
    have ne_t263_t290 : t263 ≠ t290 := Nat.ne_of_lt (Nat.lt_of_lt_of_le A_t263.lt le_t290)
    have nw_t290 : h0.size ≤ t290 := Nat.le_trans K.1 le_t290
    replace A_a197 := A_a197.keep K288 (ninS ne_a197_a269 nin0)
    replace E_a191 := E_a191.keep K288
    replace F_a191_coder := F_a191_coder.keep K288 (ninS ne_a191_a269 nin0)
    replace F_a191_value := F_a191_value.keep K288 (ninS ne_a191_a269 nin0)
    replace A_t212 := A_t212.keep K288 (ninS ne_t212_a269 nin0)
    replace A_a224 := A_a224.keep K288 (ninS ne_a224_a269 nin0)
    replace E_a218 := E_a218.keep K288
    replace F_a218_coder := F_a218_coder.keep K288 (ninS ne_a218_a269 nin0)
    replace F_a218_value := F_a218_value.keep K288 (ninS ne_a218_a269 nin0)
    replace A_t263 := A_t263.keep K288 (ninS ne_t263_a269 nin0)
    replace A_a275 := A_a275.keep K288 (ninS (Ne.symm ne_a269_a275) nin0)
    replace K := K.trans K288 (allS (P := fun x => x ∈ ([] : List Addr) ∨ h0.size ≤ x) (Or.inr nw_a269) all0)
    have E_a269 := nw_E; have F_a269_coder := nw_C; have F_a269_value := nw_V; have A_t290 := nw_A; clear nw_E nw_C nw_V nw_A
    show own_Go Z EL n0 p e below s _ _ _ (T284.setTop (mkF m 335 _ [(.ref a269)]))
    refine own_astore (pc' := 337) w285 own_d29_335 rfl (Ls' := #[.val (.int i0), .val (.int i1), .val (.int i2), .val (.int i3), .val (.int i4), .val (.int (i1 &&& (255 : Int32))), .val (.int (i2 &&& (255 : Int32))), .val (.int (i3 &&& (255 : Int32))), .val (.int (i4 &&& (255 : Int32))), .val (.int ((XT.ushr i4 (8 : Int32)) &&& (255 : Int32))), .val (.int (i0 &&& (3 : Int32))), .val (.ref a191), .val (.ref a218), .val (.ref a269), .unset, .unset]) rfl rfl ?_
    refine own_newO (pc' := 340) w285 (own_w34 hw) (own_w35 hw) (own_w36 hw) own_d29_337 rfl (by decide) (by decide) fun T292 h294 a296 g_a296 w293 E295 ⟨E_a296, D297⟩ => ?_
    have ne_a191_a296 : a191 ≠ a296 := Nat.ne_of_lt (Nat.lt_of_lt_of_le E_a191.lt (Nat.le_of_eq g_a296))
    have ne_a197_a296 : a197 ≠ a296 := Nat.ne_of_lt (Nat.lt_of_lt_of_le A_a197.lt (Nat.le_of_eq g_a296))
    have ne_a218_a296 : a218 ≠ a296 := Nat.ne_of_lt (Nat.lt_of_lt_of_le E_a218.lt (Nat.le_of_eq g_a296))
    have ne_a224_a296 : a224 ≠ a296 := Nat.ne_of_lt (Nat.lt_of_lt_of_le A_a224.lt (Nat.le_of_eq g_a296))
    have ne_a269_a296 : a269 ≠ a296 := Nat.ne_of_lt (Nat.lt_of_lt_of_le E_a269.lt (Nat.le_of_eq g_a296))
    have ne_a275_a296 : a275 ≠ a296 := Nat.ne_of_lt (Nat.lt_of_lt_of_le A_a275.lt (Nat.le_of_eq g_a296))
    have ne_t212_a296 : t212 ≠ a296 := Nat.ne_of_lt (Nat.lt_of_lt_of_le A_t212.lt (Nat.le_of_eq g_a296))
    have ne_t263_a296 : t263 ≠ a296 := Nat.ne_of_lt (Nat.lt_of_lt_of_le A_t263.lt (Nat.le_of_eq g_a296))
    have ne_t290_a296 : t290 ≠ a296 := Nat.ne_of_lt (Nat.lt_of_lt_of_le A_t290.lt (Nat.le_of_eq g_a296))
    have nw_a296 : h0.size ≤ a296 := Nat.le_trans K.1 (Nat.le_of_eq g_a296)
    replace A_a197 := A_a197.ext E295
    replace E_a191 := E_a191.ext E295
    replace F_a191_coder := F_a191_coder.ext E295
    replace F_a191_value := F_a191_value.ext E295
    replace A_t212 := A_t212.ext E295
    replace A_a224 := A_a224.ext E295
    replace E_a218 := E_a218.ext E295
    replace F_a218_coder := F_a218_coder.ext E295
    replace F_a218_value := F_a218_value.ext E295
    replace A_t263 := A_t263.ext E295
    replace A_a275 := A_a275.ext E295
    replace E_a269 := E_a269.ext E295
    replace F_a269_coder := F_a269_coder.ext E295
    replace F_a269_value := F_a269_value.ext E295
    replace A_t290 := A_t290.ext E295
    replace K := K.ext E295
    have F_a296_address : Fld Z h294 a296 "com/example/vidura/vidura/Mailbox" "address" "Ljava/lang/String;" .null := D297 (Or.inr (own_w47 hw)) (ty := (.object "java/lang/String")) (by decide)
    have F_a296_home : Fld Z h294 a296 "com/example/vidura/vidura/Mailbox" "home" "Ljava/lang/String;" .null := D297 (Or.inr (own_w49 hw)) (ty := (.object "java/lang/String")) (by decide)
    refine own_dup (pc' := 341) w293 own_d29_340 rfl rfl ?_
    refine own_aload (pc' := 343) w293 own_d29_341 rfl rfl rfl ?_
    refine own_aload (pc' := 345) w293 own_d29_343 rfl rfl rfl ?_
    refine own_callI (pc' := 348) w293 rfl (own_w37 hw) (own_w38 hw) (own_w36 hw) (own_w39 hw) (by decide) (own_ct_mbInit l Z a0 hw EL hE n0 [] h294 (own_old w293) a296 a269 a191 .null .null E_a296 F_a296_address F_a296_home) (allS (P := fun x => x ∈ _) (by simp) all0) (argsL := [(.ref a269), (.ref a191)]) (rest := [(.ref a296)]) rfl rfl own_pd20 rfl own_d29_345 rfl (by decide) (W := 1) rfl (by decide) (by decide) (by decide) fun T298 h300 v301 ms302 w299 q303 => ?_
    obtain ⟨K304, rfl, rfl, nw_E_a296, nw_F_a296_home⟩ := q303
    replace A_a197 := A_a197.keep K304 (ninS ne_a197_a296 nin0)
    replace E_a191 := E_a191.keep K304
    replace F_a191_coder := F_a191_coder.keep K304 (ninS ne_a191_a296 nin0)
    replace F_a191_value := F_a191_value.keep K304 (ninS ne_a191_a296 nin0)
    replace A_t212 := A_t212.keep K304 (ninS ne_t212_a296 nin0)
    replace A_a224 := A_a224.keep K304 (ninS ne_a224_a296 nin0)
    replace E_a218 := E_a218.keep K304
    replace F_a218_coder := F_a218_coder.keep K304 (ninS ne_a218_a296 nin0)
    replace F_a218_value := F_a218_value.keep K304 (ninS ne_a218_a296 nin0)
    replace A_t263 := A_t263.keep K304 (ninS ne_t263_a296 nin0)
    replace A_a275 := A_a275.keep K304 (ninS ne_a275_a296 nin0)
    replace E_a269 := E_a269.keep K304
    replace F_a269_coder := F_a269_coder.keep K304 (ninS ne_a269_a296 nin0)
    replace F_a269_value := F_a269_value.keep K304 (ninS ne_a269_a296 nin0)
    replace A_t290 := A_t290.keep K304 (ninS ne_t290_a296 nin0)
    replace K := K.trans K304 (allS (P := fun x => x ∈ ([] : List Addr) ∨ h0.size ≤ x) (Or.inr nw_a296) all0)
    have E_a296 := nw_E_a296; clear nw_E_a296
    have F_a296_home := nw_F_a296_home; clear nw_F_a296_home
    show own_Go Z EL n0 p e below s _ _ _ (T298.setTop (mkF m 348 _ [(.ref a296)]))
    refine own_astore (pc' := 350) w299 own_d29_348 rfl (Ls' := #[.val (.int i0), .val (.int i1), .val (.int i2), .val (.int i3), .val (.int i4), .val (.int (i1 &&& (255 : Int32))), .val (.int (i2 &&& (255 : Int32))), .val (.int (i3 &&& (255 : Int32))), .val (.int (i4 &&& (255 : Int32))), .val (.int ((XT.ushr i4 (8 : Int32)) &&& (255 : Int32))), .val (.int (i0 &&& (3 : Int32))), .val (.ref a191), .val (.ref a218), .val (.ref a269), .val (.ref a296), .unset]) rfl rfl ?_
    refine own_aload (pc' := 352) w299 own_d29_350 rfl rfl rfl ?_
    refine own_callS (pc' := 355) w299 (own_w50 hw) (own_w51 hw) (own_w52 hw) (own_w53 hw) (by decide) (own_ct_write l Z a0 hw EL hE n0 [] h300 (own_old w299) a296 a191 t212 kb213 (2 : Int32) ((([(i1 &&& (255 : Int32)), (i2 &&& (255 : Int32))] : List Int32).map (fun (c : Int32) => c.toInt8.toInt32)).map Value.int) ([(i1 &&& (255 : Int32)), (i2 &&& (255 : Int32))] : List Int32) (8 : Int32) 2 8 z5 E_a296 F_a296_home E_a191 F_a191_coder F_a191_value A_t212 ((own_cod (cs := ([(i1 &&& (255 : Int32)), (i2 &&& (255 : Int32))] : List Int32)) (n := 2) rfl (own_allS (own_and255 i1) (own_allS (own_and255 i2) own_all0)))) ((own_up ([(i1 &&& (255 : Int32)), (i2 &&& (255 : Int32))] : List Int32) (own_allS (own_and255 i1) (own_allS (own_and255 i2) own_all0)))) ((Nat.le_of_ble_eq_true rfl)) (rfl) S_COMPACT_STRINGS (P5) (by decide) (by decide) (by decide) (⟨by decide, by decide, rfl, rfl, rfl, by decide, Nat.le_of_ble_eq_true rfl⟩) (⟨by decide, by decide, rfl, rfl, rfl, by decide, Nat.le_of_ble_eq_true rfl⟩) (by decide) (by decide) (by decide) (hE24) (hE28)) all0 (argsL := [(.ref a296)]) (rest := []) rfl rfl own_pd21 rfl own_d29_352 rfl (by decide) (W := 0) rfl (by decide) (by decide) (by decide) fun T305 h307 v308 ms309 w306 q310 => ?_
    obtain ⟨K318, r_311, pg_312, tp_313, kp_314, q_315, tq_316, kA_317, rfl, rfl, nw_E_r_311, nw_F_r_311_page, nw_F_r_311_action, nw_F_r_311_fixedRecipient, nw_F_r_311_from, nw_E_pg_312, nw_F_pg_312_coder, nw_F_pg_312_value, nw_A_tp_313, nw_E_q_315, nw_F_q_315_coder, nw_F_q_315_value, nw_A_tq_316, p352_write_0⟩ := q310
    have ne_a191_r_311 : a191 ≠ r_311 := Nat.ne_of_lt (Nat.lt_of_lt_of_le E_a191.lt p352_write_0)
    have ne_a197_r_311 : a197 ≠ r_311 := Nat.ne_of_lt (Nat.lt_of_lt_of_le A_a197.lt p352_write_0)
    have ne_a218_r_311 : a218 ≠ r_311 := Nat.ne_of_lt (Nat.lt_of_lt_of_le E_a218.lt p352_write_0)
    have ne_a224_r_311 : a224 ≠ r_311 := Nat.ne_of_lt (Nat.lt_of_lt_of_le A_a224.lt p352_write_0)
    have ne_a269_r_311 : a269 ≠ r_311 := Nat.ne_of_lt (Nat.lt_of_lt_of_le E_a269.lt p352_write_0)
    have ne_a275_r_311 : a275 ≠ r_311 := Nat.ne_of_lt (Nat.lt_of_lt_of_le A_a275.lt p352_write_0)
    have ne_a296_r_311 : a296 ≠ r_311 := Nat.ne_of_lt (Nat.lt_of_lt_of_le E_a296.lt p352_write_0)
    have ne_t212_r_311 : t212 ≠ r_311 := Nat.ne_of_lt (Nat.lt_of_lt_of_le A_t212.lt p352_write_0)
    have ne_t263_r_311 : t263 ≠ r_311 := Nat.ne_of_lt (Nat.lt_of_lt_of_le A_t263.lt p352_write_0)
    have ne_t290_r_311 : t290 ≠ r_311 := Nat.ne_of_lt (Nat.lt_of_lt_of_le A_t290.lt p352_write_0)
    have nw_r_311 : h0.size ≤ r_311 := Nat.le_trans K.1 p352_write_0
    replace A_a197 := A_a197.keep K318 nin0
    replace E_a191 := E_a191.keep K318
    replace F_a191_coder := F_a191_coder.keep K318 nin0
    replace F_a191_value := F_a191_value.keep K318 nin0
    replace A_t212 := A_t212.keep K318 nin0
    replace A_a224 := A_a224.keep K318 nin0
    replace E_a218 := E_a218.keep K318
    replace F_a218_coder := F_a218_coder.keep K318 nin0
    replace F_a218_value := F_a218_value.keep K318 nin0
    replace A_t263 := A_t263.keep K318 nin0
    replace A_a275 := A_a275.keep K318 nin0
    replace E_a269 := E_a269.keep K318
    replace F_a269_coder := F_a269_coder.keep K318 nin0
    replace F_a269_value := F_a269_value.keep K318 nin0
    replace A_t290 := A_t290.keep K318 nin0
    replace E_a296 := E_a296.keep K318
    replace F_a296_home := F_a296_home.keep K318 nin0
    replace K := K.trans K318 all0
    have E_r_311 := nw_E_r_311; clear nw_E_r_311
    have F_r_311_page := nw_F_r_311_page; clear nw_F_r_311_page
    have F_r_311_action := nw_F_r_311_action; clear nw_F_r_311_action
    have F_r_311_fixedRecipient := nw_F_r_311_fixedRecipient; clear nw_F_r_311_fixedRecipient
    have F_r_311_from := nw_F_r_311_from; clear nw_F_r_311_from
    have E_pg_312 := nw_E_pg_312; clear nw_E_pg_312
    have F_pg_312_coder := nw_F_pg_312_coder; clear nw_F_pg_312_coder
    have F_pg_312_value := nw_F_pg_312_value; clear nw_F_pg_312_value
    have A_tp_313 := nw_A_tp_313; clear nw_A_tp_313
    have E_q_315 := nw_E_q_315; clear nw_E_q_315
    have F_q_315_coder := nw_F_q_315_coder; clear nw_F_q_315_coder
    have F_q_315_value := nw_F_q_315_value; clear nw_F_q_315_value
    have A_tq_316 := nw_A_tq_316; clear nw_A_tq_316
    show own_Go Z EL n0 p e below s _ _ _ (T305.setTop (mkF m 355 _ [(.ref r_311)]))
    refine own_astore (pc' := 357) w306 own_d29_355 rfl (Ls' := #[.val (.int i0), .val (.int i1), .val (.int i2), .val (.int i3), .val (.int i4), .val (.int (i1 &&& (255 : Int32))), .val (.int (i2 &&& (255 : Int32))), .val (.int (i3 &&& (255 : Int32))), .val (.int (i4 &&& (255 : Int32))), .val (.int ((XT.ushr i4 (8 : Int32)) &&& (255 : Int32))), .val (.int (i0 &&& (3 : Int32))), .val (.ref a191), .val (.ref a218), .val (.ref a269), .val (.ref a296), .val (.ref r_311)]) rfl rfl ?_
    refine own_aload (pc' := 359) w306 own_d29_357 rfl rfl rfl ?_
    refine own_ifnullN (pc' := 362) w306 own_d29_359 rfl ?_
    refine own_ldcS (pc' := 364) w306 (vs := [(.int 87), (.int 114), (.int 105), (.int 116), (.int 101)]) (z := (5 : Int32)) (nn := 20) (own_w185 hw) (own_hst hw) hE27 ⟨by decide +kernel, by rfl⟩ (by decide) rfl own_d29_362 rfl (by decide +kernel) (by decide) (by decide) (by decide) hE fun T319 h321 a323 t324 kb325 w320 E322 ⟨E_a323, F_a323_coder, F_a323_value, A_t324, ne326⟩ => ?_
    replace A_a197 := A_a197.ext E322
    replace E_a191 := E_a191.ext E322
    replace F_a191_coder := F_a191_coder.ext E322
    replace F_a191_value := F_a191_value.ext E322
    replace A_t212 := A_t212.ext E322
    replace A_a224 := A_a224.ext E322
    replace E_a218 := E_a218.ext E322
    replace F_a218_coder := F_a218_coder.ext E322
    replace F_a218_value := F_a218_value.ext E322
    replace A_t263 := A_t263.ext E322
    replace A_a275 := A_a275.ext E322
    replace E_a269 := E_a269.ext E322
    replace F_a269_coder := F_a269_coder.ext E322
    replace F_a269_value := F_a269_value.ext E322
    replace A_t290 := A_t290.ext E322
    replace E_a296 := E_a296.ext E322
    replace F_a296_home := F_a296_home.ext E322
    replace E_r_311 := E_r_311.ext E322
    replace F_r_311_page := F_r_311_page.ext E322
    replace F_r_311_action := F_r_311_action.ext E322
    replace F_r_311_fixedRecipient := F_r_311_fixedRecipient.ext E322
    replace F_r_311_from := F_r_311_from.ext E322
    replace E_pg_312 := E_pg_312.ext E322
    replace F_pg_312_coder := F_pg_312_coder.ext E322
    replace F_pg_312_value := F_pg_312_value.ext E322
    replace A_tp_313 := A_tp_313.ext E322
    replace E_q_315 := E_q_315.ext E322
    replace F_q_315_coder := F_q_315_coder.ext E322
    replace F_q_315_value := F_q_315_value.ext E322
    replace A_tq_316 := A_tq_316.ext E322
    replace K := K.ext E322
    have ne_a296_a323 : a296 ≠ a323 := (ne326 a296 (by simp)).1
    have ne_a296_t324 : a296 ≠ t324 := (ne326 a296 (by simp)).2
    have ne_a275_a323 : a275 ≠ a323 := (ne326 a275 (by simp)).1
    have ne_a275_t324 : a275 ≠ t324 := (ne326 a275 (by simp)).2
    have ne_a269_a323 : a269 ≠ a323 := (ne326 a269 (by simp)).1
    have ne_a269_t324 : a269 ≠ t324 := (ne326 a269 (by simp)).2
    have ne_a224_a323 : a224 ≠ a323 := (ne326 a224 (by simp)).1
    have ne_a224_t324 : a224 ≠ t324 := (ne326 a224 (by simp)).2
    have ne_a218_a323 : a218 ≠ a323 := (ne326 a218 (by simp)).1
    have ne_a218_t324 : a218 ≠ t324 := (ne326 a218 (by simp)).2
    have ne_a197_a323 : a197 ≠ a323 := (ne326 a197 (by simp)).1
    have ne_a197_t324 : a197 ≠ t324 := (ne326 a197 (by simp)).2
    have ne_a191_a323 : a191 ≠ a323 := (ne326 a191 (by simp)).1
    have ne_a191_t324 : a191 ≠ t324 := (ne326 a191 (by simp)).2
    refine own_aload (pc' := 366) w320 own_d29_364 rfl rfl rfl ?_
    refine own_callV (pc' := 369) w320 (own_w186 hw) (own_w187 hw) (fun s' hZ' => notFace_of_selects (args := #[]) (mvT hZ' (own_w189 hw))) (own_w189 hw) (own_w188 hw) (own_w52 hw) (own_w190 hw) (by decide) E_r_311 (own_ct_page l Z a0 hw EL hE n0 [] h321 (own_old w320) r_311 pg_312 F_r_311_page) all0 (argsL := []) (rest := [(.ref a323)]) rfl rfl own_pd16 rfl own_d29_366 rfl (by decide) (W := 1) rfl (by decide) (by decide) (by decide) fun T327 h329 v330 ms331 w328 q332 => ?_
    obtain ⟨rfl, rfl, rfl⟩ := q332
    show own_Go Z EL n0 p e below s _ _ _ (T327.setTop (mkF m 369 _ [(.ref pg_312), (.ref a323)]))
    refine own_callVB (pc' := 372) w328 (kc := 0) (nc := 0) (own_w191 hw) (own_w192 hw) (fun s' hZ' => notFace_of_selects (args := #[]) (mvT hZ' (own_w194 hw))) (own_w194 hw) (own_w193 hw) (by decide) E_a323 (QQ := fun v h' L => ((v = some (.int 1) ∧ ([87, 114, 105, 116, 101] : List Int32) = ([87, 114, 105, 116, 101] : List Int32)) ∨ (v = some (.int 0) ∧ ¬ ([87, 114, 105, 116, 101] : List Int32) = ([87, 114, 105, 116, 101] : List Int32))) ∧ L = [] ∧ h' = h321) (fun s' hZ' => StrChars.Road.eqW (W := 0) hZ' (own_hwq hw) (kI := 4) (own_w2 hw) E_a323 F_a323_value F_a323_coder A_t324 (own_cod (cs := ([87, 114, 105, 116, 101] : List Int32)) (n := 5) rfl (own_allS (by decide) (own_allS (by decide) (own_allS (by decide) (own_allS (by decide) (own_allS (by decide) own_all0)))))) (own_up ([87, 114, 105, 116, 101] : List Int32) (own_allS (by decide) (own_allS (by decide) (own_allS (by decide) (own_allS (by decide) (own_allS (by decide) own_all0)))))) (Nat.le_of_ble_eq_true rfl) E_pg_312 F_pg_312_value F_pg_312_coder A_tp_313 (own_cod (cs := ([87, 114, 105, 116, 101] : List Int32)) (n := 5) rfl (own_allS (by decide) (own_allS (by decide) (own_allS (by decide) (own_allS (by decide) (own_allS (by decide) own_all0)))))) (own_up ([87, 114, 105, 116, 101] : List Int32) (own_allS (by decide) (own_allS (by decide) (own_allS (by decide) (own_allS (by decide) (own_allS (by decide) own_all0)))))) (Nat.le_of_ble_eq_true rfl) (S_COMPACT_STRINGS.ext (own_old w328).2) P5 (by decide) (by decide)) (ws := []) all0 (fun v h' L q => ⟨q.2.2 ▸ Keep.refl _ _, q.2.1 ▸ Fr.nil _⟩) (argsL := [(.ref pg_312)]) (rest := []) rfl rfl own_pd22 rfl own_d29_369 rfl (Nat.le_of_eq rfl) (by decide) (by decide) fun T333 h335 v336 w334 K337 q338 => ?_
    obtain ⟨_, hq_, -, e339⟩ := q338
    rw [e339] at w334
    rcases hq_ with ⟨rfl, hcs2⟩ | ⟨rfl, hcs2⟩
    ·
     show own_Go Z EL n0 p e below s _ _ _ (T333.setTop (mkF m 372 _ [(.int (1 : Int32))]))
     refine own_if (pc' := 375) w334 own_d29_372 rfl (by decide) (pcY := 410) rfl (fun (hb372 : (1 : Int32) = (0 : Int32)) => absurd hb372 (by decide)) (fun (hb372 : ¬ (1 : Int32) = (0 : Int32)) => ?_)
     refine own_aload (pc' := 377) w334 own_d29_375 rfl rfl rfl ?_
     refine own_aload (pc' := 379) w334 own_d29_377 rfl rfl rfl ?_
     refine own_callV (pc' := 382) w334 (own_w196 hw) (own_w197 hw) (fun s' hZ' => notFace_of_selects (args := #[]) (mvT hZ' (own_w199 hw))) (own_w199 hw) (own_w198 hw) (own_w52 hw) (own_w200 hw) (by decide) E_r_311 (own_ct_action l Z a0 hw EL hE n0 [] h321 (own_old w334) r_311 q_315 F_r_311_action) all0 (argsL := []) (rest := [(.ref a218)]) rfl rfl own_pd16 rfl own_d29_379 rfl (by decide) (W := 1) rfl (by decide) (by decide) (by decide) fun T340 h342 v343 ms344 w341 q345 => ?_
     obtain ⟨rfl, rfl, rfl⟩ := q345
     show own_Go Z EL n0 p e below s _ _ _ (T340.setTop (mkF m 382 _ [(.ref q_315), (.ref a218)]))
     have hcq : StrChars.Road.CodA ([(i1 &&& (255 : Int32)), (i2 &&& (255 : Int32)), 47, 119, 114, 105, 116, 101] : List Int32) 0 (8 : Int32) (own_sl (own_put (own_put (List.replicate 16 (.int 0)) 0 ((([(i1 &&& (255 : Int32)), (i2 &&& (255 : Int32))] : List Int32).map (fun (c : Int32) => c.toInt8.toInt32)).map Value.int)) 2 [(.int 47), (.int 119), (.int 114), (.int 105), (.int 116), (.int 101)]) 0 8) := (own_cod (cs := ([(i1 &&& (255 : Int32)), (i2 &&& (255 : Int32)), 47, 119, 114, 105, 116, 101] : List Int32)) (n := 8) rfl (own_allS (own_and255 i1) (own_allS (own_and255 i2) (own_allS (by decide) (own_allS (by decide) (own_allS (by decide) (own_allS (by decide) (own_allS (by decide) (own_allS (by decide) own_all0)))))))))
     refine own_callVB (pc' := 385) w341 (kc := 0) (nc := 0) (own_w191 hw) (own_w192 hw) (fun s' hZ' => notFace_of_selects (args := #[]) (mvT hZ' (own_w194 hw))) (own_w194 hw) (own_w193 hw) (by decide) E_a218 (QQ := fun v h' L => ((v = some (.int 1) ∧ ([(i1 &&& (255 : Int32)), (i2 &&& (255 : Int32)), 47, 119, 114, 105, 116, 101] : List Int32) = ([(i1 &&& (255 : Int32)), (i2 &&& (255 : Int32)), 47, 119, 114, 105, 116, 101] : List Int32)) ∨ (v = some (.int 0) ∧ ¬ ([(i1 &&& (255 : Int32)), (i2 &&& (255 : Int32)), 47, 119, 114, 105, 116, 101] : List Int32) = ([(i1 &&& (255 : Int32)), (i2 &&& (255 : Int32)), 47, 119, 114, 105, 116, 101] : List Int32))) ∧ L = [] ∧ h' = h321) (fun s' hZ' => StrChars.Road.eqW (W := 0) hZ' (own_hwq hw) (kI := 4) (own_w2 hw) E_a218 F_a218_value F_a218_coder A_t263 (own_cod (cs := ([(i1 &&& (255 : Int32)), (i2 &&& (255 : Int32)), 47, 119, 114, 105, 116, 101] : List Int32)) (n := 8) rfl (own_allS (own_and255 i1) (own_allS (own_and255 i2) (own_allS (by decide) (own_allS (by decide) (own_allS (by decide) (own_allS (by decide) (own_allS (by decide) (own_allS (by decide) own_all0))))))))) (own_up ([(i1 &&& (255 : Int32)), (i2 &&& (255 : Int32)), 47, 119, 114, 105, 116, 101] : List Int32) (own_allS (own_and255 i1) (own_allS (own_and255 i2) (own_allS (by decide) (own_allS (by decide) (own_allS (by decide) (own_allS (by decide) (own_allS (by decide) (own_allS (by decide) own_all0))))))))) (Nat.le_of_ble_eq_true rfl) E_q_315 F_q_315_value F_q_315_coder A_tq_316 hcq (own_up ([(i1 &&& (255 : Int32)), (i2 &&& (255 : Int32)), 47, 119, 114, 105, 116, 101] : List Int32) (own_allS (own_and255 i1) (own_allS (own_and255 i2) (own_allS (by decide) (own_allS (by decide) (own_allS (by decide) (own_allS (by decide) (own_allS (by decide) (own_allS (by decide) own_all0))))))))) (Nat.le_of_ble_eq_true rfl) (S_COMPACT_STRINGS.ext (own_old w341).2) P5 (by decide) (by decide)) (ws := []) all0 (fun v h' L q => ⟨q.2.2 ▸ Keep.refl _ _, q.2.1 ▸ Fr.nil _⟩) (argsL := [(.ref q_315)]) (rest := []) rfl rfl own_pd22 rfl own_d29_382 rfl (Nat.le_of_eq rfl) (by decide) (by decide) fun T346 h348 v349 w347 K350 q351 => ?_
     obtain ⟨_, hq_, -, e352⟩ := q351
     rw [e352] at w347
     rcases hq_ with ⟨rfl, hcs3⟩ | ⟨rfl, hcs3⟩
     ·
      show own_Go Z EL n0 p e below s _ _ _ (T346.setTop (mkF m 385 _ [(.int (1 : Int32))]))
      refine own_if (pc' := 388) w347 own_d29_385 rfl (by decide) (pcY := 410) rfl (fun (hb385 : (1 : Int32) = (0 : Int32)) => absurd hb385 (by decide)) (fun (hb385 : ¬ (1 : Int32) = (0 : Int32)) => ?_)
      refine own_aload (pc' := 390) w347 own_d29_388 rfl rfl rfl ?_
      refine own_callV (pc' := 393) w347 (own_w206 hw) (own_w207 hw) (fun s' hZ' => notFace_of_selects (args := #[]) (mvT hZ' (own_w209 hw))) (own_w209 hw) (own_w208 hw) (own_w52 hw) (own_w210 hw) (by decide) E_r_311 (own_ct_fixedR l Z a0 hw EL hE n0 [] h321 (own_old w347) r_311 F_r_311_fixedRecipient) all0 (argsL := []) (rest := []) rfl rfl own_pd11 rfl own_d29_390 rfl (by decide) (W := 0) rfl (by decide) (by decide) (by decide) fun T353 h355 v356 ms357 w354 q358 => ?_
      obtain ⟨rfl, rfl, rfl⟩ := q358
      show own_Go Z EL n0 p e below s _ _ _ (T353.setTop (mkF m 393 _ [(.int (0 : Int32))]))
      refine own_if (pc' := 396) w354 own_d29_393 rfl (by decide) (pcY := 410) rfl (fun (hb393 : ¬ (0 : Int32) = (0 : Int32)) => absurd hb393 (by decide)) (fun (hb393 : (0 : Int32) = (0 : Int32)) => ?_)
      refine own_aload (pc' := 398) w354 own_d29_396 rfl rfl rfl ?_
      refine own_callV (pc' := 401) w354 (own_w211 hw) (own_w212 hw) (fun s' hZ' => notFace_of_selects (args := #[]) (mvT hZ' (own_w214 hw))) (own_w214 hw) (own_w213 hw) (own_w52 hw) (own_w215 hw) (by decide) E_r_311 (own_ct_from l Z a0 hw EL hE n0 [] h321 (own_old w354) r_311 a296 F_r_311_from) all0 (argsL := []) (rest := []) rfl rfl own_pd23 rfl own_d29_398 rfl (by decide) (W := 0) rfl (by decide) (by decide) (by decide) fun T359 h361 v362 ms363 w360 q364 => ?_
      obtain ⟨rfl, rfl, rfl⟩ := q364
      show own_Go Z EL n0 p e below s _ _ _ (T359.setTop (mkF m 401 _ [(.ref a296)]))
      refine own_aload (pc' := 403) w360 own_d29_401 rfl rfl rfl ?_
      refine own_acmp (pc' := 406) w360 rfl rfl own_d29_403 rfl (by decide) (pcY := 410) rfl (fun (hb403 : ¬ ((.ref a296) : Value) = (.ref a296)) => absurd rfl hb403) (fun (hb403 : ((.ref a296) : Value) = (.ref a296)) => ?_)
      refine own_iconst (pc' := 407) w360 own_d29_406 (x := (1 : Int32)) rfl rfl ?_
      refine own_goto w360 own_d29_407 (by decide) (pc' := 411) rfl ?_
      exact own_retV w360 (t := .boolean) rfl rfl (Or.inl ⟨rfl, by simp, _, rfl⟩) own_d29_411 (by decide) (by decide) (ms' := []) all0 ⟨K, rfl, rfl⟩
     ·
      exact absurd rfl hcs3
    ·
     exact absurd rfl hcs2
  ·
   refine own_newO (pc' := 75) w0 (own_w9 hw) (own_w2 hw) (own_w1 hw) own_d29_72 rfl (by decide) (by decide) fun T365 h367 a369 g_a369 w366 E368 ⟨E_a369, D370⟩ => ?_
   have nw_a369 : h0.size ≤ a369 := Nat.le_trans K.1 (Nat.le_of_eq g_a369)
   replace K := K.ext E368
   have F_a369_value : Fld Z h367 a369 "java/lang/String" "value" "[B" .null := D370 (Or.inr (own_w4 hw)) (ty := (.array .byte)) (by decide)
   have F_a369_coder : Fld Z h367 a369 "java/lang/String" "coder" "B" (.int 0) := D370 (Or.inr (own_w5 hw)) (ty := .byte) (by decide)
   refine own_dup (pc' := 76) w366 own_d29_75 rfl rfl ?_
   refine own_iconst (pc' := 77) w366 own_d29_76 (x := (1 : Int32)) rfl rfl ?_
   refine own_newP (pc' := 79) w366 (aty := .char) (z := (1 : Int32)) (vs := [(.int 0)]) (dv := (.int 0)) (cap := 1) (own_w10 hw) own_d29_77 rfl (by decide) (by decide) (by decide) rfl (own_rep 1 (.int 0)) (by decide) (by decide) fun T371 h373 a375 g_a375 w372 E374 ⟨k_a375, A_a375⟩ => ?_
   have ne_a369_a375 : a369 ≠ a375 := Nat.ne_of_lt (Nat.lt_of_lt_of_le E_a369.lt (Nat.le_of_eq g_a375))
   have nw_a375 : h0.size ≤ a375 := Nat.le_trans K.1 (Nat.le_of_eq g_a375)
   replace E_a369 := E_a369.ext E374
   replace F_a369_value := F_a369_value.ext E374
   replace F_a369_coder := F_a369_coder.ext E374
   replace K := K.ext E374
   refine own_dup (pc' := 80) w372 own_d29_79 rfl rfl ?_
   refine own_iconst (pc' := 81) w372 own_d29_80 (x := (0 : Int32)) rfl rfl ?_
   refine own_iload (pc' := 83) w372 own_d29_81 rfl rfl ?_
   refine own_stC (pc' := 84) w372 (i := 0) (xv := (.int (i1 &&& (255 : Int32)))) (vs' := [(.int (i1 &&& (255 : Int32)))]) (by simp) A_a375 (by decide) rfl (Nat.lt_of_sub_eq_succ rfl) (own_ncB (own_and255 i1)) (own_fcB (own_and255 i1)) rfl own_d29_83 rfl fun T376 h378 w377 W379 A_new => ?_
   clear A_a375
   replace E_a369 := E_a369.wr W379
   replace F_a369_value := F_a369_value.other W379 (Or.inl ne_a369_a375)
   replace F_a369_coder := F_a369_coder.other W379 (Or.inl ne_a369_a375)
   replace K := K.wr W379 (Or.inr nw_a375)
   have A_a375 := A_new
   clear A_new
   refine own_callIB (pc' := 87) w377 (bytes' := jdk_42_method_3_code) rfl (own_w11 hw) (own_w12 hw) (own_w13 hw) (by decide) (fun s' hZ' => StrChars.Road.backV (W := 1) hZ' (own_hws hw) (kI := 4) (own_w2 hw) (cs := [(i1 &&& (255 : Int32))]) (n := 1) (n0 := n0) (own_mine w377 a369 (by simp)).1 (own_n0 (own_old w377)) E_a369 F_a369_value F_a369_coder A_a375 (S_COMPACT_STRINGS.ext (own_old w377).2) P5 rfl rfl (by decide) (by decide) (own_allS (own_and255 i1) own_all0) rfl (by decide) (by decide)) (ws := [a369]) (allS (P := fun x => x ∈ _) (by simp) all0) (fun v h' L q => ⟨q.2.2.1, q.2.1⟩) (argsL := [.ref a375]) (rest := [(.ref a369)]) rfl rfl own_pd19 rfl own_d29_84 rfl (Nat.le_of_eq rfl) (by decide) (by decide) fun T380 h382 v383 w381 K384 q385 => ?_
   obtain ⟨_, rfl, -, -, nw_E, nw_C, t386, kb387, -, le_t386, ne_t386, nw_V, nw_A⟩ := q385
   have ne_a369_t386 : a369 ≠ t386 := Nat.ne_of_lt (Nat.lt_of_lt_of_le E_a369.lt le_t386)
   have ne_a375_t386 : a375 ≠ t386 := Nat.ne_of_lt (Nat.lt_of_lt_of_le A_a375.lt le_t386)
   have nw_t386 : h0.size ≤ t386 := Nat.le_trans K.1 le_t386
   replace A_a375 := A_a375.keep K384 (ninS (Ne.symm ne_a369_a375) nin0)
   replace K := K.trans K384 (allS (P := fun x => x ∈ ([] : List Addr) ∨ h0.size ≤ x) (Or.inr nw_a369) all0)
   have E_a369 := nw_E; have F_a369_coder := nw_C; have F_a369_value := nw_V; have A_t386 := nw_A; clear nw_E nw_C nw_V nw_A
   show own_Go Z EL n0 p e below s _ _ _ (T380.setTop (mkF m 87 _ [(.ref a369)]))
   refine own_astore (pc' := 89) w381 own_d29_87 rfl (Ls' := #[.val (.int i0), .val (.int i1), .val (.int i2), .val (.int i3), .val (.int i4), .val (.int (i1 &&& (255 : Int32))), .val (.int (i2 &&& (255 : Int32))), .val (.int (i3 &&& (255 : Int32))), .val (.int (i4 &&& (255 : Int32))), .val (.int ((XT.ushr i4 (8 : Int32)) &&& (255 : Int32))), .val (.int (i0 &&& (3 : Int32))), .val (.ref a369), .unset, .unset, .unset, .unset]) rfl rfl ?_
   refine own_newO (pc' := 92) w381 (own_w9 hw) (own_w2 hw) (own_w1 hw) own_d29_89 rfl (by decide) (by decide) fun T388 h390 a392 g_a392 w389 E391 ⟨E_a392, D393⟩ => ?_
   have ne_a369_a392 : a369 ≠ a392 := Nat.ne_of_lt (Nat.lt_of_lt_of_le E_a369.lt (Nat.le_of_eq g_a392))
   have ne_a375_a392 : a375 ≠ a392 := Nat.ne_of_lt (Nat.lt_of_lt_of_le A_a375.lt (Nat.le_of_eq g_a392))
   have ne_t386_a392 : t386 ≠ a392 := Nat.ne_of_lt (Nat.lt_of_lt_of_le A_t386.lt (Nat.le_of_eq g_a392))
   have nw_a392 : h0.size ≤ a392 := Nat.le_trans K.1 (Nat.le_of_eq g_a392)
   replace A_a375 := A_a375.ext E391
   replace E_a369 := E_a369.ext E391
   replace F_a369_coder := F_a369_coder.ext E391
   replace F_a369_value := F_a369_value.ext E391
   replace A_t386 := A_t386.ext E391
   replace K := K.ext E391
   have F_a392_value : Fld Z h390 a392 "java/lang/String" "value" "[B" .null := D393 (Or.inr (own_w4 hw)) (ty := (.array .byte)) (by decide)
   have F_a392_coder : Fld Z h390 a392 "java/lang/String" "coder" "B" (.int 0) := D393 (Or.inr (own_w5 hw)) (ty := .byte) (by decide)
   refine own_dup (pc' := 93) w389 own_d29_92 rfl rfl ?_
   refine own_bipush (pc' := 95) w389 own_d29_93 (x := (7 : Int32)) rfl rfl ?_
   refine own_newP (pc' := 97) w389 (aty := .char) (z := (7 : Int32)) (vs := [(.int 0), (.int 0), (.int 0), (.int 0), (.int 0), (.int 0), (.int 0)]) (dv := (.int 0)) (cap := 7) (own_w10 hw) own_d29_95 rfl (by decide) (by decide) (by decide) rfl (own_rep 7 (.int 0)) (by decide) (by decide) fun T394 h396 a398 g_a398 w395 E397 ⟨k_a398, A_a398⟩ => ?_
   have ne_a369_a398 : a369 ≠ a398 := Nat.ne_of_lt (Nat.lt_of_lt_of_le E_a369.lt (Nat.le_of_eq g_a398))
   have ne_a375_a398 : a375 ≠ a398 := Nat.ne_of_lt (Nat.lt_of_lt_of_le A_a375.lt (Nat.le_of_eq g_a398))
   have ne_a392_a398 : a392 ≠ a398 := Nat.ne_of_lt (Nat.lt_of_lt_of_le E_a392.lt (Nat.le_of_eq g_a398))
   have ne_t386_a398 : t386 ≠ a398 := Nat.ne_of_lt (Nat.lt_of_lt_of_le A_t386.lt (Nat.le_of_eq g_a398))
   have nw_a398 : h0.size ≤ a398 := Nat.le_trans K.1 (Nat.le_of_eq g_a398)
   replace A_a375 := A_a375.ext E397
   replace E_a369 := E_a369.ext E397
   replace F_a369_coder := F_a369_coder.ext E397
   replace F_a369_value := F_a369_value.ext E397
   replace A_t386 := A_t386.ext E397
   replace E_a392 := E_a392.ext E397
   replace F_a392_value := F_a392_value.ext E397
   replace F_a392_coder := F_a392_coder.ext E397
   replace K := K.ext E397
   refine own_dup (pc' := 98) w395 own_d29_97 rfl rfl ?_
   refine own_iconst (pc' := 99) w395 own_d29_98 (x := (0 : Int32)) rfl rfl ?_
   refine own_iload (pc' := 101) w395 own_d29_99 rfl rfl ?_
   refine own_stC (pc' := 102) w395 (i := 0) (xv := (.int (i1 &&& (255 : Int32)))) (vs' := [(.int (i1 &&& (255 : Int32))), (.int 0), (.int 0), (.int 0), (.int 0), (.int 0), (.int 0)]) (by simp) A_a398 (by decide) rfl (Nat.lt_of_sub_eq_succ rfl) (own_ncB (own_and255 i1)) (own_fcB (own_and255 i1)) rfl own_d29_101 rfl fun T399 h401 w400 W402 A_new => ?_
   clear A_a398
   replace A_a375 := A_a375.other W402 ne_a375_a398
   replace E_a369 := E_a369.wr W402
   replace F_a369_coder := F_a369_coder.other W402 (Or.inl ne_a369_a398)
   replace F_a369_value := F_a369_value.other W402 (Or.inl ne_a369_a398)
   replace A_t386 := A_t386.other W402 ne_t386_a398
   replace E_a392 := E_a392.wr W402
   replace F_a392_value := F_a392_value.other W402 (Or.inl ne_a392_a398)
   replace F_a392_coder := F_a392_coder.other W402 (Or.inl ne_a392_a398)
   replace K := K.wr W402 (Or.inr nw_a398)
   have A_a398 := A_new
   clear A_new
   refine own_dup (pc' := 103) w400 own_d29_102 rfl rfl ?_
   refine own_iconst (pc' := 104) w400 own_d29_103 (x := (1 : Int32)) rfl rfl ?_
   refine own_bipush (pc' := 106) w400 own_d29_104 (x := (47 : Int32)) rfl rfl ?_
   refine own_stC (pc' := 107) w400 (i := 1) (xv := (.int 47)) (vs' := [(.int (i1 &&& (255 : Int32))), (.int 47), (.int 0), (.int 0), (.int 0), (.int 0), (.int 0)]) (by simp) A_a398 (by decide) rfl (Nat.lt_of_sub_eq_succ rfl) (own_ncB (by decide)) (own_fcB (by decide)) rfl own_d29_106 rfl fun T403 h405 w404 W406 A_new => ?_
   clear A_a398
   replace A_a375 := A_a375.other W406 ne_a375_a398
   replace E_a369 := E_a369.wr W406
   replace F_a369_coder := F_a369_coder.other W406 (Or.inl ne_a369_a398)
   replace F_a369_value := F_a369_value.other W406 (Or.inl ne_a369_a398)
   replace A_t386 := A_t386.other W406 ne_t386_a398
   replace E_a392 := E_a392.wr W406
   replace F_a392_value := F_a392_value.other W406 (Or.inl ne_a392_a398)
   replace F_a392_coder := F_a392_coder.other W406 (Or.inl ne_a392_a398)
   replace K := K.wr W406 (Or.inr nw_a398)
   have A_a398 := A_new
   clear A_new
   refine own_dup (pc' := 108) w404 own_d29_107 rfl rfl ?_
   refine own_iconst (pc' := 109) w404 own_d29_108 (x := (2 : Int32)) rfl rfl ?_
   refine own_bipush (pc' := 111) w404 own_d29_109 (x := (119 : Int32)) rfl rfl ?_
   refine own_stC (pc' := 112) w404 (i := 2) (xv := (.int 119)) (vs' := [(.int (i1 &&& (255 : Int32))), (.int 47), (.int 119), (.int 0), (.int 0), (.int 0), (.int 0)]) (by simp) A_a398 (by decide) rfl (Nat.lt_of_sub_eq_succ rfl) (own_ncB (by decide)) (own_fcB (by decide)) rfl own_d29_111 rfl fun T407 h409 w408 W410 A_new => ?_
   clear A_a398
   replace A_a375 := A_a375.other W410 ne_a375_a398
   replace E_a369 := E_a369.wr W410
   replace F_a369_coder := F_a369_coder.other W410 (Or.inl ne_a369_a398)
   replace F_a369_value := F_a369_value.other W410 (Or.inl ne_a369_a398)
   replace A_t386 := A_t386.other W410 ne_t386_a398
   replace E_a392 := E_a392.wr W410
   replace F_a392_value := F_a392_value.other W410 (Or.inl ne_a392_a398)
   replace F_a392_coder := F_a392_coder.other W410 (Or.inl ne_a392_a398)
   replace K := K.wr W410 (Or.inr nw_a398)
   have A_a398 := A_new
   clear A_new
   refine own_dup (pc' := 113) w408 own_d29_112 rfl rfl ?_
   refine own_iconst (pc' := 114) w408 own_d29_113 (x := (3 : Int32)) rfl rfl ?_
   refine own_bipush (pc' := 116) w408 own_d29_114 (x := (114 : Int32)) rfl rfl ?_
   refine own_stC (pc' := 117) w408 (i := 3) (xv := (.int 114)) (vs' := [(.int (i1 &&& (255 : Int32))), (.int 47), (.int 119), (.int 114), (.int 0), (.int 0), (.int 0)]) (by simp) A_a398 (by decide) rfl (Nat.lt_of_sub_eq_succ rfl) (own_ncB (by decide)) (own_fcB (by decide)) rfl own_d29_116 rfl fun T411 h413 w412 W414 A_new => ?_
   clear A_a398
   replace A_a375 := A_a375.other W414 ne_a375_a398
   replace E_a369 := E_a369.wr W414
   replace F_a369_coder := F_a369_coder.other W414 (Or.inl ne_a369_a398)
   replace F_a369_value := F_a369_value.other W414 (Or.inl ne_a369_a398)
   replace A_t386 := A_t386.other W414 ne_t386_a398
   replace E_a392 := E_a392.wr W414
   replace F_a392_value := F_a392_value.other W414 (Or.inl ne_a392_a398)
   replace F_a392_coder := F_a392_coder.other W414 (Or.inl ne_a392_a398)
   replace K := K.wr W414 (Or.inr nw_a398)
   have A_a398 := A_new
   clear A_new
   refine own_dup (pc' := 118) w412 own_d29_117 rfl rfl ?_
   refine own_iconst (pc' := 119) w412 own_d29_118 (x := (4 : Int32)) rfl rfl ?_
   refine own_bipush (pc' := 121) w412 own_d29_119 (x := (105 : Int32)) rfl rfl ?_
   refine own_stC (pc' := 122) w412 (i := 4) (xv := (.int 105)) (vs' := [(.int (i1 &&& (255 : Int32))), (.int 47), (.int 119), (.int 114), (.int 105), (.int 0), (.int 0)]) (by simp) A_a398 (by decide) rfl (Nat.lt_of_sub_eq_succ rfl) (own_ncB (by decide)) (own_fcB (by decide)) rfl own_d29_121 rfl fun T415 h417 w416 W418 A_new => ?_
   clear A_a398
   replace A_a375 := A_a375.other W418 ne_a375_a398
   replace E_a369 := E_a369.wr W418
   replace F_a369_coder := F_a369_coder.other W418 (Or.inl ne_a369_a398)
   replace F_a369_value := F_a369_value.other W418 (Or.inl ne_a369_a398)
   replace A_t386 := A_t386.other W418 ne_t386_a398
   replace E_a392 := E_a392.wr W418
   replace F_a392_value := F_a392_value.other W418 (Or.inl ne_a392_a398)
   replace F_a392_coder := F_a392_coder.other W418 (Or.inl ne_a392_a398)
   replace K := K.wr W418 (Or.inr nw_a398)
   have A_a398 := A_new
   clear A_new
   refine own_dup (pc' := 123) w416 own_d29_122 rfl rfl ?_
   refine own_iconst (pc' := 124) w416 own_d29_123 (x := (5 : Int32)) rfl rfl ?_
   refine own_bipush (pc' := 126) w416 own_d29_124 (x := (116 : Int32)) rfl rfl ?_
   refine own_stC (pc' := 127) w416 (i := 5) (xv := (.int 116)) (vs' := [(.int (i1 &&& (255 : Int32))), (.int 47), (.int 119), (.int 114), (.int 105), (.int 116), (.int 0)]) (by simp) A_a398 (by decide) rfl (Nat.lt_of_sub_eq_succ rfl) (own_ncB (by decide)) (own_fcB (by decide)) rfl own_d29_126 rfl fun T419 h421 w420 W422 A_new => ?_
   clear A_a398
   replace A_a375 := A_a375.other W422 ne_a375_a398
   replace E_a369 := E_a369.wr W422
   replace F_a369_coder := F_a369_coder.other W422 (Or.inl ne_a369_a398)
   replace F_a369_value := F_a369_value.other W422 (Or.inl ne_a369_a398)
   replace A_t386 := A_t386.other W422 ne_t386_a398
   replace E_a392 := E_a392.wr W422
   replace F_a392_value := F_a392_value.other W422 (Or.inl ne_a392_a398)
   replace F_a392_coder := F_a392_coder.other W422 (Or.inl ne_a392_a398)
   replace K := K.wr W422 (Or.inr nw_a398)
   have A_a398 := A_new
   clear A_new
   refine own_dup (pc' := 128) w420 own_d29_127 rfl rfl ?_
   refine own_bipush (pc' := 130) w420 own_d29_128 (x := (6 : Int32)) rfl rfl ?_
   refine own_bipush (pc' := 132) w420 own_d29_130 (x := (101 : Int32)) rfl rfl ?_
   refine own_stC (pc' := 133) w420 (i := 6) (xv := (.int 101)) (vs' := [(.int (i1 &&& (255 : Int32))), (.int 47), (.int 119), (.int 114), (.int 105), (.int 116), (.int 101)]) (by simp) A_a398 (by decide) rfl (Nat.lt_of_sub_eq_succ rfl) (own_ncB (by decide)) (own_fcB (by decide)) rfl own_d29_132 rfl fun T423 h425 w424 W426 A_new => ?_
   clear A_a398
   replace A_a375 := A_a375.other W426 ne_a375_a398
   replace E_a369 := E_a369.wr W426
   replace F_a369_coder := F_a369_coder.other W426 (Or.inl ne_a369_a398)
   replace F_a369_value := F_a369_value.other W426 (Or.inl ne_a369_a398)
   replace A_t386 := A_t386.other W426 ne_t386_a398
   replace E_a392 := E_a392.wr W426
   replace F_a392_value := F_a392_value.other W426 (Or.inl ne_a392_a398)
   replace F_a392_coder := F_a392_coder.other W426 (Or.inl ne_a392_a398)
   replace K := K.wr W426 (Or.inr nw_a398)
   have A_a398 := A_new
   clear A_new
   refine own_callIB (pc' := 136) w424 (bytes' := jdk_42_method_3_code) rfl (own_w11 hw) (own_w12 hw) (own_w13 hw) (by decide) (fun s' hZ' => StrChars.Road.backV (W := 1) hZ' (own_hws hw) (kI := 4) (own_w2 hw) (cs := [(i1 &&& (255 : Int32)), 47, 119, 114, 105, 116, 101]) (n := 7) (n0 := n0) (own_mine w424 a392 (by simp)).1 (own_n0 (own_old w424)) E_a392 F_a392_value F_a392_coder A_a398 (S_COMPACT_STRINGS.ext (own_old w424).2) P5 rfl rfl (by decide) (by decide) (own_allS (own_and255 i1) (own_allS (by decide) (own_allS (by decide) (own_allS (by decide) (own_allS (by decide) (own_allS (by decide) (own_allS (by decide) own_all0))))))) rfl (by decide) (by decide)) (ws := [a392]) (allS (P := fun x => x ∈ _) (by simp) all0) (fun v h' L q => ⟨q.2.2.1, q.2.1⟩) (argsL := [.ref a398]) (rest := [(.ref a392)]) rfl rfl own_pd19 rfl own_d29_133 rfl (Nat.le_of_eq rfl) (by decide) (by decide) fun T427 h429 v430 w428 K431 q432 => ?_
   obtain ⟨_, rfl, -, -, nw_E, nw_C, t433, kb434, -, le_t433, ne_t433, nw_V, nw_A⟩ := q432
   have ne_a369_t433 : a369 ≠ t433 := Nat.ne_of_lt (Nat.lt_of_lt_of_le E_a369.lt le_t433)
   have ne_a375_t433 : a375 ≠ t433 := Nat.ne_of_lt (Nat.lt_of_lt_of_le A_a375.lt le_t433)
   have ne_a392_t433 : a392 ≠ t433 := Nat.ne_of_lt (Nat.lt_of_lt_of_le E_a392.lt le_t433)
   have ne_a398_t433 : a398 ≠ t433 := Nat.ne_of_lt (Nat.lt_of_lt_of_le A_a398.lt le_t433)
   have ne_t386_t433 : t386 ≠ t433 := Nat.ne_of_lt (Nat.lt_of_lt_of_le A_t386.lt le_t433)
   have nw_t433 : h0.size ≤ t433 := Nat.le_trans K.1 le_t433
   replace A_a375 := A_a375.keep K431 (ninS ne_a375_a392 nin0)
   replace E_a369 := E_a369.keep K431
   replace F_a369_coder := F_a369_coder.keep K431 (ninS ne_a369_a392 nin0)
   replace F_a369_value := F_a369_value.keep K431 (ninS ne_a369_a392 nin0)
   replace A_t386 := A_t386.keep K431 (ninS ne_t386_a392 nin0)
   replace A_a398 := A_a398.keep K431 (ninS (Ne.symm ne_a392_a398) nin0)
   replace K := K.trans K431 (allS (P := fun x => x ∈ ([] : List Addr) ∨ h0.size ≤ x) (Or.inr nw_a392) all0)
   have E_a392 := nw_E; have F_a392_coder := nw_C; have F_a392_value := nw_V; have A_t433 := nw_A; clear nw_E nw_C nw_V nw_A
   show own_Go Z EL n0 p e below s _ _ _ (T427.setTop (mkF m 136 _ [(.ref a392)]))
   refine own_astore (pc' := 138) w428 own_d29_136 rfl (Ls' := #[.val (.int i0), .val (.int i1), .val (.int i2), .val (.int i3), .val (.int i4), .val (.int (i1 &&& (255 : Int32))), .val (.int (i2 &&& (255 : Int32))), .val (.int (i3 &&& (255 : Int32))), .val (.int (i4 &&& (255 : Int32))), .val (.int ((XT.ushr i4 (8 : Int32)) &&& (255 : Int32))), .val (.int (i0 &&& (3 : Int32))), .val (.ref a369), .val (.ref a392), .unset, .unset, .unset]) rfl rfl ?_
   refine own_goto w428 own_d29_138 (by decide) (pc' := 315) rfl ?_
   refine own_newO (pc' := 318) w428 (own_w9 hw) (own_w2 hw) (own_w1 hw) own_d29_315 rfl (by decide) (by decide) fun T435 h437 a439 g_a439 w436 E438 ⟨E_a439, D440⟩ => ?_
   have ne_a369_a439 : a369 ≠ a439 := Nat.ne_of_lt (Nat.lt_of_lt_of_le E_a369.lt (Nat.le_of_eq g_a439))
   have ne_a375_a439 : a375 ≠ a439 := Nat.ne_of_lt (Nat.lt_of_lt_of_le A_a375.lt (Nat.le_of_eq g_a439))
   have ne_a392_a439 : a392 ≠ a439 := Nat.ne_of_lt (Nat.lt_of_lt_of_le E_a392.lt (Nat.le_of_eq g_a439))
   have ne_a398_a439 : a398 ≠ a439 := Nat.ne_of_lt (Nat.lt_of_lt_of_le A_a398.lt (Nat.le_of_eq g_a439))
   have ne_t386_a439 : t386 ≠ a439 := Nat.ne_of_lt (Nat.lt_of_lt_of_le A_t386.lt (Nat.le_of_eq g_a439))
   have ne_t433_a439 : t433 ≠ a439 := Nat.ne_of_lt (Nat.lt_of_lt_of_le A_t433.lt (Nat.le_of_eq g_a439))
   have nw_a439 : h0.size ≤ a439 := Nat.le_trans K.1 (Nat.le_of_eq g_a439)
   replace A_a375 := A_a375.ext E438
   replace E_a369 := E_a369.ext E438
   replace F_a369_coder := F_a369_coder.ext E438
   replace F_a369_value := F_a369_value.ext E438
   replace A_t386 := A_t386.ext E438
   replace A_a398 := A_a398.ext E438
   replace E_a392 := E_a392.ext E438
   replace F_a392_coder := F_a392_coder.ext E438
   replace F_a392_value := F_a392_value.ext E438
   replace A_t433 := A_t433.ext E438
   replace K := K.ext E438
   have F_a439_value : Fld Z h437 a439 "java/lang/String" "value" "[B" .null := D440 (Or.inr (own_w4 hw)) (ty := (.array .byte)) (by decide)
   have F_a439_coder : Fld Z h437 a439 "java/lang/String" "coder" "B" (.int 0) := D440 (Or.inr (own_w5 hw)) (ty := .byte) (by decide)
   refine own_dup (pc' := 319) w436 own_d29_318 rfl rfl ?_
   refine own_iconst (pc' := 320) w436 own_d29_319 (x := (2 : Int32)) rfl rfl ?_
   refine own_newP (pc' := 322) w436 (aty := .char) (z := (2 : Int32)) (vs := [(.int 0), (.int 0)]) (dv := (.int 0)) (cap := 2) (own_w10 hw) own_d29_320 rfl (by decide) (by decide) (by decide) rfl (own_rep 2 (.int 0)) (by decide) (by decide) fun T441 h443 a445 g_a445 w442 E444 ⟨k_a445, A_a445⟩ => ?_
   have ne_a369_a445 : a369 ≠ a445 := Nat.ne_of_lt (Nat.lt_of_lt_of_le E_a369.lt (Nat.le_of_eq g_a445))
   have ne_a375_a445 : a375 ≠ a445 := Nat.ne_of_lt (Nat.lt_of_lt_of_le A_a375.lt (Nat.le_of_eq g_a445))
   have ne_a392_a445 : a392 ≠ a445 := Nat.ne_of_lt (Nat.lt_of_lt_of_le E_a392.lt (Nat.le_of_eq g_a445))
   have ne_a398_a445 : a398 ≠ a445 := Nat.ne_of_lt (Nat.lt_of_lt_of_le A_a398.lt (Nat.le_of_eq g_a445))
   have ne_a439_a445 : a439 ≠ a445 := Nat.ne_of_lt (Nat.lt_of_lt_of_le E_a439.lt (Nat.le_of_eq g_a445))
   have ne_t386_a445 : t386 ≠ a445 := Nat.ne_of_lt (Nat.lt_of_lt_of_le A_t386.lt (Nat.le_of_eq g_a445))
   have ne_t433_a445 : t433 ≠ a445 := Nat.ne_of_lt (Nat.lt_of_lt_of_le A_t433.lt (Nat.le_of_eq g_a445))
   have nw_a445 : h0.size ≤ a445 := Nat.le_trans K.1 (Nat.le_of_eq g_a445)
   replace A_a375 := A_a375.ext E444
   replace E_a369 := E_a369.ext E444
   replace F_a369_coder := F_a369_coder.ext E444
   replace F_a369_value := F_a369_value.ext E444
   replace A_t386 := A_t386.ext E444
   replace A_a398 := A_a398.ext E444
   replace E_a392 := E_a392.ext E444
   replace F_a392_coder := F_a392_coder.ext E444
   replace F_a392_value := F_a392_value.ext E444
   replace A_t433 := A_t433.ext E444
   replace E_a439 := E_a439.ext E444
   replace F_a439_value := F_a439_value.ext E444
   replace F_a439_coder := F_a439_coder.ext E444
   replace K := K.ext E444
   refine own_dup (pc' := 323) w442 own_d29_322 rfl rfl ?_
   refine own_iconst (pc' := 324) w442 own_d29_323 (x := (0 : Int32)) rfl rfl ?_
   refine own_iload (pc' := 326) w442 own_d29_324 rfl rfl ?_
   refine own_stC (pc' := 327) w442 (i := 0) (xv := (.int (i4 &&& (255 : Int32)))) (vs' := [(.int (i4 &&& (255 : Int32))), (.int 0)]) (by simp) A_a445 (by decide) rfl (Nat.lt_of_sub_eq_succ rfl) (own_ncB (own_and255 i4)) (own_fcB (own_and255 i4)) rfl own_d29_326 rfl fun T446 h448 w447 W449 A_new => ?_
   clear A_a445
   replace A_a375 := A_a375.other W449 ne_a375_a445
   replace E_a369 := E_a369.wr W449
   replace F_a369_coder := F_a369_coder.other W449 (Or.inl ne_a369_a445)
   replace F_a369_value := F_a369_value.other W449 (Or.inl ne_a369_a445)
   replace A_t386 := A_t386.other W449 ne_t386_a445
   replace A_a398 := A_a398.other W449 ne_a398_a445
   replace E_a392 := E_a392.wr W449
   replace F_a392_coder := F_a392_coder.other W449 (Or.inl ne_a392_a445)
   replace F_a392_value := F_a392_value.other W449 (Or.inl ne_a392_a445)
   replace A_t433 := A_t433.other W449 ne_t433_a445
   replace E_a439 := E_a439.wr W449
   replace F_a439_value := F_a439_value.other W449 (Or.inl ne_a439_a445)
   replace F_a439_coder := F_a439_coder.other W449 (Or.inl ne_a439_a445)
   replace K := K.wr W449 (Or.inr nw_a445)
   have A_a445 := A_new
   clear A_new
   refine own_dup (pc' := 328) w447 own_d29_327 rfl rfl ?_
   refine own_iconst (pc' := 329) w447 own_d29_328 (x := (1 : Int32)) rfl rfl ?_
   refine own_iload (pc' := 331) w447 own_d29_329 rfl rfl ?_
   refine own_stC (pc' := 332) w447 (i := 1) (xv := (.int ((XT.ushr i4 (8 : Int32)) &&& (255 : Int32)))) (vs' := [(.int (i4 &&& (255 : Int32))), (.int ((XT.ushr i4 (8 : Int32)) &&& (255 : Int32)))]) (by simp) A_a445 (by decide) rfl (Nat.lt_of_sub_eq_succ rfl) (own_ncB (own_and255 (XT.ushr i4 (8 : Int32)))) (own_fcB (own_and255 (XT.ushr i4 (8 : Int32)))) rfl own_d29_331 rfl fun T450 h452 w451 W453 A_new => ?_
   clear A_a445
   replace A_a375 := A_a375.other W453 ne_a375_a445
   replace E_a369 := E_a369.wr W453
   replace F_a369_coder := F_a369_coder.other W453 (Or.inl ne_a369_a445)
   replace F_a369_value := F_a369_value.other W453 (Or.inl ne_a369_a445)
   replace A_t386 := A_t386.other W453 ne_t386_a445
   replace A_a398 := A_a398.other W453 ne_a398_a445
   replace E_a392 := E_a392.wr W453
   replace F_a392_coder := F_a392_coder.other W453 (Or.inl ne_a392_a445)
   replace F_a392_value := F_a392_value.other W453 (Or.inl ne_a392_a445)
   replace A_t433 := A_t433.other W453 ne_t433_a445
   replace E_a439 := E_a439.wr W453
   replace F_a439_value := F_a439_value.other W453 (Or.inl ne_a439_a445)
   replace F_a439_coder := F_a439_coder.other W453 (Or.inl ne_a439_a445)
   replace K := K.wr W453 (Or.inr nw_a445)
   have A_a445 := A_new
   clear A_new
   refine own_callIB (pc' := 335) w451 (bytes' := jdk_42_method_3_code) rfl (own_w11 hw) (own_w12 hw) (own_w13 hw) (by decide) (fun s' hZ' => StrChars.Road.backV (W := 1) hZ' (own_hws hw) (kI := 4) (own_w2 hw) (cs := [(i4 &&& (255 : Int32)), ((XT.ushr i4 (8 : Int32)) &&& (255 : Int32))]) (n := 2) (n0 := n0) (own_mine w451 a439 (by simp)).1 (own_n0 (own_old w451)) E_a439 F_a439_value F_a439_coder A_a445 (S_COMPACT_STRINGS.ext (own_old w451).2) P5 rfl rfl (by decide) (by decide) (own_allS (own_and255 i4) (own_allS (own_and255 (XT.ushr i4 (8 : Int32))) own_all0)) rfl (by decide) (by decide)) (ws := [a439]) (allS (P := fun x => x ∈ _) (by simp) all0) (fun v h' L q => ⟨q.2.2.1, q.2.1⟩) (argsL := [.ref a445]) (rest := [(.ref a439)]) rfl rfl own_pd19 rfl own_d29_332 rfl (Nat.le_of_eq rfl) (by decide) (by decide) fun T454 h456 v457 w455 K458 q459 => ?_
   obtain ⟨_, rfl, -, -, nw_E, nw_C, t460, kb461, -, le_t460, ne_t460, nw_V, nw_A⟩ := q459
   have ne_a369_t460 : a369 ≠ t460 := Nat.ne_of_lt (Nat.lt_of_lt_of_le E_a369.lt le_t460)
   have ne_a375_t460 : a375 ≠ t460 := Nat.ne_of_lt (Nat.lt_of_lt_of_le A_a375.lt le_t460)
   have ne_a392_t460 : a392 ≠ t460 := Nat.ne_of_lt (Nat.lt_of_lt_of_le E_a392.lt le_t460)
   have ne_a398_t460 : a398 ≠ t460 := Nat.ne_of_lt (Nat.lt_of_lt_of_le A_a398.lt le_t460)
   have ne_a439_t460 : a439 ≠ t460 := Nat.ne_of_lt (Nat.lt_of_lt_of_le E_a439.lt le_t460)
   have ne_a445_t460 : a445 ≠ t460 := Nat.ne_of_lt (Nat.lt_of_lt_of_le A_a445.lt le_t460)
   have ne_t386_t460 : t386 ≠ t460 := Nat.ne_of_lt (Nat.lt_of_lt_of_le A_t386.lt le_t460)
   have ne_t433_t460 : t433 ≠ t460 := Nat.ne_of_lt (Nat.lt_of_lt_of_le A_t433.lt le_t460)
   have nw_t460 : h0.size ≤ t460 := Nat.le_trans K.1 le_t460
   replace A_a375 := A_a375.keep K458 (ninS ne_a375_a439 nin0)
   replace E_a369 := E_a369.keep K458
   replace F_a369_coder := F_a369_coder.keep K458 (ninS ne_a369_a439 nin0)
   replace F_a369_value := F_a369_value.keep K458 (ninS ne_a369_a439 nin0)
   replace A_t386 := A_t386.keep K458 (ninS ne_t386_a439 nin0)
   replace A_a398 := A_a398.keep K458 (ninS ne_a398_a439 nin0)
   replace E_a392 := E_a392.keep K458
   replace F_a392_coder := F_a392_coder.keep K458 (ninS ne_a392_a439 nin0)
   replace F_a392_value := F_a392_value.keep K458 (ninS ne_a392_a439 nin0)
   replace A_t433 := A_t433.keep K458 (ninS ne_t433_a439 nin0)
   replace A_a445 := A_a445.keep K458 (ninS (Ne.symm ne_a439_a445) nin0)
   replace K := K.trans K458 (allS (P := fun x => x ∈ ([] : List Addr) ∨ h0.size ≤ x) (Or.inr nw_a439) all0)
   have E_a439 := nw_E; have F_a439_coder := nw_C; have F_a439_value := nw_V; have A_t460 := nw_A; clear nw_E nw_C nw_V nw_A
   show own_Go Z EL n0 p e below s _ _ _ (T454.setTop (mkF m 335 _ [(.ref a439)]))
   refine own_astore (pc' := 337) w455 own_d29_335 rfl (Ls' := #[.val (.int i0), .val (.int i1), .val (.int i2), .val (.int i3), .val (.int i4), .val (.int (i1 &&& (255 : Int32))), .val (.int (i2 &&& (255 : Int32))), .val (.int (i3 &&& (255 : Int32))), .val (.int (i4 &&& (255 : Int32))), .val (.int ((XT.ushr i4 (8 : Int32)) &&& (255 : Int32))), .val (.int (i0 &&& (3 : Int32))), .val (.ref a369), .val (.ref a392), .val (.ref a439), .unset, .unset]) rfl rfl ?_
   refine own_newO (pc' := 340) w455 (own_w34 hw) (own_w35 hw) (own_w36 hw) own_d29_337 rfl (by decide) (by decide) fun T462 h464 a466 g_a466 w463 E465 ⟨E_a466, D467⟩ => ?_
   have ne_a369_a466 : a369 ≠ a466 := Nat.ne_of_lt (Nat.lt_of_lt_of_le E_a369.lt (Nat.le_of_eq g_a466))
   have ne_a375_a466 : a375 ≠ a466 := Nat.ne_of_lt (Nat.lt_of_lt_of_le A_a375.lt (Nat.le_of_eq g_a466))
   have ne_a392_a466 : a392 ≠ a466 := Nat.ne_of_lt (Nat.lt_of_lt_of_le E_a392.lt (Nat.le_of_eq g_a466))
   have ne_a398_a466 : a398 ≠ a466 := Nat.ne_of_lt (Nat.lt_of_lt_of_le A_a398.lt (Nat.le_of_eq g_a466))
   have ne_a439_a466 : a439 ≠ a466 := Nat.ne_of_lt (Nat.lt_of_lt_of_le E_a439.lt (Nat.le_of_eq g_a466))
   have ne_a445_a466 : a445 ≠ a466 := Nat.ne_of_lt (Nat.lt_of_lt_of_le A_a445.lt (Nat.le_of_eq g_a466))
   have ne_t386_a466 : t386 ≠ a466 := Nat.ne_of_lt (Nat.lt_of_lt_of_le A_t386.lt (Nat.le_of_eq g_a466))
   have ne_t433_a466 : t433 ≠ a466 := Nat.ne_of_lt (Nat.lt_of_lt_of_le A_t433.lt (Nat.le_of_eq g_a466))
   have ne_t460_a466 : t460 ≠ a466 := Nat.ne_of_lt (Nat.lt_of_lt_of_le A_t460.lt (Nat.le_of_eq g_a466))
   have nw_a466 : h0.size ≤ a466 := Nat.le_trans K.1 (Nat.le_of_eq g_a466)
   replace A_a375 := A_a375.ext E465
   replace E_a369 := E_a369.ext E465
   replace F_a369_coder := F_a369_coder.ext E465
   replace F_a369_value := F_a369_value.ext E465
   replace A_t386 := A_t386.ext E465
   replace A_a398 := A_a398.ext E465
   replace E_a392 := E_a392.ext E465
   replace F_a392_coder := F_a392_coder.ext E465
   replace F_a392_value := F_a392_value.ext E465
   replace A_t433 := A_t433.ext E465
   replace A_a445 := A_a445.ext E465
   replace E_a439 := E_a439.ext E465
   replace F_a439_coder := F_a439_coder.ext E465
   replace F_a439_value := F_a439_value.ext E465
   replace A_t460 := A_t460.ext E465
   replace K := K.ext E465
   have F_a466_address : Fld Z h464 a466 "com/example/vidura/vidura/Mailbox" "address" "Ljava/lang/String;" .null := D467 (Or.inr (own_w47 hw)) (ty := (.object "java/lang/String")) (by decide)
   have F_a466_home : Fld Z h464 a466 "com/example/vidura/vidura/Mailbox" "home" "Ljava/lang/String;" .null := D467 (Or.inr (own_w49 hw)) (ty := (.object "java/lang/String")) (by decide)
   refine own_dup (pc' := 341) w463 own_d29_340 rfl rfl ?_
   refine own_aload (pc' := 343) w463 own_d29_341 rfl rfl rfl ?_
   refine own_aload (pc' := 345) w463 own_d29_343 rfl rfl rfl ?_
   refine own_callI (pc' := 348) w463 rfl (own_w37 hw) (own_w38 hw) (own_w36 hw) (own_w39 hw) (by decide) (own_ct_mbInit l Z a0 hw EL hE n0 [] h464 (own_old w463) a466 a439 a369 .null .null E_a466 F_a466_address F_a466_home) (allS (P := fun x => x ∈ _) (by simp) all0) (argsL := [(.ref a439), (.ref a369)]) (rest := [(.ref a466)]) rfl rfl own_pd20 rfl own_d29_345 rfl (by decide) (W := 1) rfl (by decide) (by decide) (by decide) fun T468 h470 v471 ms472 w469 q473 => ?_
   obtain ⟨K474, rfl, rfl, nw_E_a466, nw_F_a466_home⟩ := q473
   replace A_a375 := A_a375.keep K474 (ninS ne_a375_a466 nin0)
   replace E_a369 := E_a369.keep K474
   replace F_a369_coder := F_a369_coder.keep K474 (ninS ne_a369_a466 nin0)
   replace F_a369_value := F_a369_value.keep K474 (ninS ne_a369_a466 nin0)
   replace A_t386 := A_t386.keep K474 (ninS ne_t386_a466 nin0)
   replace A_a398 := A_a398.keep K474 (ninS ne_a398_a466 nin0)
   replace E_a392 := E_a392.keep K474
   replace F_a392_coder := F_a392_coder.keep K474 (ninS ne_a392_a466 nin0)
   replace F_a392_value := F_a392_value.keep K474 (ninS ne_a392_a466 nin0)
   replace A_t433 := A_t433.keep K474 (ninS ne_t433_a466 nin0)
   replace A_a445 := A_a445.keep K474 (ninS ne_a445_a466 nin0)
   replace E_a439 := E_a439.keep K474
   replace F_a439_coder := F_a439_coder.keep K474 (ninS ne_a439_a466 nin0)
   replace F_a439_value := F_a439_value.keep K474 (ninS ne_a439_a466 nin0)
   replace A_t460 := A_t460.keep K474 (ninS ne_t460_a466 nin0)
   replace K := K.trans K474 (allS (P := fun x => x ∈ ([] : List Addr) ∨ h0.size ≤ x) (Or.inr nw_a466) all0)
   have E_a466 := nw_E_a466; clear nw_E_a466
   have F_a466_home := nw_F_a466_home; clear nw_F_a466_home
   show own_Go Z EL n0 p e below s _ _ _ (T468.setTop (mkF m 348 _ [(.ref a466)]))
   refine own_astore (pc' := 350) w469 own_d29_348 rfl (Ls' := #[.val (.int i0), .val (.int i1), .val (.int i2), .val (.int i3), .val (.int i4), .val (.int (i1 &&& (255 : Int32))), .val (.int (i2 &&& (255 : Int32))), .val (.int (i3 &&& (255 : Int32))), .val (.int (i4 &&& (255 : Int32))), .val (.int ((XT.ushr i4 (8 : Int32)) &&& (255 : Int32))), .val (.int (i0 &&& (3 : Int32))), .val (.ref a369), .val (.ref a392), .val (.ref a439), .val (.ref a466), .unset]) rfl rfl ?_
   refine own_aload (pc' := 352) w469 own_d29_350 rfl rfl rfl ?_
   refine own_callS (pc' := 355) w469 (own_w50 hw) (own_w51 hw) (own_w52 hw) (own_w53 hw) (by decide) (own_ct_write l Z a0 hw EL hE n0 [] h470 (own_old w469) a466 a369 t386 kb387 (1 : Int32) ((([(i1 &&& (255 : Int32))] : List Int32).map (fun (c : Int32) => c.toInt8.toInt32)).map Value.int) ([(i1 &&& (255 : Int32))] : List Int32) (7 : Int32) 1 7 z5 E_a466 F_a466_home E_a369 F_a369_coder F_a369_value A_t386 ((own_cod (cs := ([(i1 &&& (255 : Int32))] : List Int32)) (n := 1) rfl (own_allS (own_and255 i1) own_all0))) ((own_up ([(i1 &&& (255 : Int32))] : List Int32) (own_allS (own_and255 i1) own_all0))) ((Nat.le_of_ble_eq_true rfl)) (rfl) S_COMPACT_STRINGS (P5) (by decide) (by decide) (by decide) (⟨by decide, by decide, rfl, rfl, rfl, by decide, Nat.le_of_ble_eq_true rfl⟩) (⟨by decide, by decide, rfl, rfl, rfl, by decide, Nat.le_of_ble_eq_true rfl⟩) (by decide) (by decide) (by decide) (hE24) (hE28)) all0 (argsL := [(.ref a466)]) (rest := []) rfl rfl own_pd21 rfl own_d29_352 rfl (by decide) (W := 0) rfl (by decide) (by decide) (by decide) fun T475 h477 v478 ms479 w476 q480 => ?_
   obtain ⟨K488, r_481, pg_482, tp_483, kp_484, q_485, tq_486, kA_487, rfl, rfl, nw_E_r_481, nw_F_r_481_page, nw_F_r_481_action, nw_F_r_481_fixedRecipient, nw_F_r_481_from, nw_E_pg_482, nw_F_pg_482_coder, nw_F_pg_482_value, nw_A_tp_483, nw_E_q_485, nw_F_q_485_coder, nw_F_q_485_value, nw_A_tq_486, p352_write_0⟩ := q480
   have ne_a369_r_481 : a369 ≠ r_481 := Nat.ne_of_lt (Nat.lt_of_lt_of_le E_a369.lt p352_write_0)
   have ne_a375_r_481 : a375 ≠ r_481 := Nat.ne_of_lt (Nat.lt_of_lt_of_le A_a375.lt p352_write_0)
   have ne_a392_r_481 : a392 ≠ r_481 := Nat.ne_of_lt (Nat.lt_of_lt_of_le E_a392.lt p352_write_0)
   have ne_a398_r_481 : a398 ≠ r_481 := Nat.ne_of_lt (Nat.lt_of_lt_of_le A_a398.lt p352_write_0)
   have ne_a439_r_481 : a439 ≠ r_481 := Nat.ne_of_lt (Nat.lt_of_lt_of_le E_a439.lt p352_write_0)
   have ne_a445_r_481 : a445 ≠ r_481 := Nat.ne_of_lt (Nat.lt_of_lt_of_le A_a445.lt p352_write_0)
   have ne_a466_r_481 : a466 ≠ r_481 := Nat.ne_of_lt (Nat.lt_of_lt_of_le E_a466.lt p352_write_0)
   have ne_t386_r_481 : t386 ≠ r_481 := Nat.ne_of_lt (Nat.lt_of_lt_of_le A_t386.lt p352_write_0)
   have ne_t433_r_481 : t433 ≠ r_481 := Nat.ne_of_lt (Nat.lt_of_lt_of_le A_t433.lt p352_write_0)
   have ne_t460_r_481 : t460 ≠ r_481 := Nat.ne_of_lt (Nat.lt_of_lt_of_le A_t460.lt p352_write_0)
   have nw_r_481 : h0.size ≤ r_481 := Nat.le_trans K.1 p352_write_0
   replace A_a375 := A_a375.keep K488 nin0
   replace E_a369 := E_a369.keep K488
   replace F_a369_coder := F_a369_coder.keep K488 nin0
   replace F_a369_value := F_a369_value.keep K488 nin0
   replace A_t386 := A_t386.keep K488 nin0
   replace A_a398 := A_a398.keep K488 nin0
   replace E_a392 := E_a392.keep K488
   replace F_a392_coder := F_a392_coder.keep K488 nin0
   replace F_a392_value := F_a392_value.keep K488 nin0
   replace A_t433 := A_t433.keep K488 nin0
   replace A_a445 := A_a445.keep K488 nin0
   replace E_a439 := E_a439.keep K488
   replace F_a439_coder := F_a439_coder.keep K488 nin0
   replace F_a439_value := F_a439_value.keep K488 nin0
   replace A_t460 := A_t460.keep K488 nin0
   replace E_a466 := E_a466.keep K488
   replace F_a466_home := F_a466_home.keep K488 nin0
   replace K := K.trans K488 all0
   have E_r_481 := nw_E_r_481; clear nw_E_r_481
   have F_r_481_page := nw_F_r_481_page; clear nw_F_r_481_page
   have F_r_481_action := nw_F_r_481_action; clear nw_F_r_481_action
   have F_r_481_fixedRecipient := nw_F_r_481_fixedRecipient; clear nw_F_r_481_fixedRecipient
   have F_r_481_from := nw_F_r_481_from; clear nw_F_r_481_from
   have E_pg_482 := nw_E_pg_482; clear nw_E_pg_482
   have F_pg_482_coder := nw_F_pg_482_coder; clear nw_F_pg_482_coder
   have F_pg_482_value := nw_F_pg_482_value; clear nw_F_pg_482_value
   have A_tp_483 := nw_A_tp_483; clear nw_A_tp_483
   have E_q_485 := nw_E_q_485; clear nw_E_q_485
   have F_q_485_coder := nw_F_q_485_coder; clear nw_F_q_485_coder
   have F_q_485_value := nw_F_q_485_value; clear nw_F_q_485_value
   have A_tq_486 := nw_A_tq_486; clear nw_A_tq_486
   show own_Go Z EL n0 p e below s _ _ _ (T475.setTop (mkF m 355 _ [(.ref r_481)]))
   refine own_astore (pc' := 357) w476 own_d29_355 rfl (Ls' := #[.val (.int i0), .val (.int i1), .val (.int i2), .val (.int i3), .val (.int i4), .val (.int (i1 &&& (255 : Int32))), .val (.int (i2 &&& (255 : Int32))), .val (.int (i3 &&& (255 : Int32))), .val (.int (i4 &&& (255 : Int32))), .val (.int ((XT.ushr i4 (8 : Int32)) &&& (255 : Int32))), .val (.int (i0 &&& (3 : Int32))), .val (.ref a369), .val (.ref a392), .val (.ref a439), .val (.ref a466), .val (.ref r_481)]) rfl rfl ?_
   refine own_aload (pc' := 359) w476 own_d29_357 rfl rfl rfl ?_
   refine own_ifnullN (pc' := 362) w476 own_d29_359 rfl ?_
   refine own_ldcS (pc' := 364) w476 (vs := [(.int 87), (.int 114), (.int 105), (.int 116), (.int 101)]) (z := (5 : Int32)) (nn := 20) (own_w185 hw) (own_hst hw) hE27 ⟨by decide +kernel, by rfl⟩ (by decide) rfl own_d29_362 rfl (by decide +kernel) (by decide) (by decide) (by decide) hE fun T489 h491 a493 t494 kb495 w490 E492 ⟨E_a493, F_a493_coder, F_a493_value, A_t494, ne496⟩ => ?_
   replace A_a375 := A_a375.ext E492
   replace E_a369 := E_a369.ext E492
   replace F_a369_coder := F_a369_coder.ext E492
   replace F_a369_value := F_a369_value.ext E492
   replace A_t386 := A_t386.ext E492
   replace A_a398 := A_a398.ext E492
   replace E_a392 := E_a392.ext E492
   replace F_a392_coder := F_a392_coder.ext E492
   replace F_a392_value := F_a392_value.ext E492
   replace A_t433 := A_t433.ext E492
   replace A_a445 := A_a445.ext E492
   replace E_a439 := E_a439.ext E492
   replace F_a439_coder := F_a439_coder.ext E492
   replace F_a439_value := F_a439_value.ext E492
   replace A_t460 := A_t460.ext E492
   replace E_a466 := E_a466.ext E492
   replace F_a466_home := F_a466_home.ext E492
   replace E_r_481 := E_r_481.ext E492
   replace F_r_481_page := F_r_481_page.ext E492
   replace F_r_481_action := F_r_481_action.ext E492
   replace F_r_481_fixedRecipient := F_r_481_fixedRecipient.ext E492
   replace F_r_481_from := F_r_481_from.ext E492
   replace E_pg_482 := E_pg_482.ext E492
   replace F_pg_482_coder := F_pg_482_coder.ext E492
   replace F_pg_482_value := F_pg_482_value.ext E492
   replace A_tp_483 := A_tp_483.ext E492
   replace E_q_485 := E_q_485.ext E492
   replace F_q_485_coder := F_q_485_coder.ext E492
   replace F_q_485_value := F_q_485_value.ext E492
   replace A_tq_486 := A_tq_486.ext E492
   replace K := K.ext E492
   have ne_a466_a493 : a466 ≠ a493 := (ne496 a466 (by simp)).1
   have ne_a466_t494 : a466 ≠ t494 := (ne496 a466 (by simp)).2
   have ne_a445_a493 : a445 ≠ a493 := (ne496 a445 (by simp)).1
   have ne_a445_t494 : a445 ≠ t494 := (ne496 a445 (by simp)).2
   have ne_a439_a493 : a439 ≠ a493 := (ne496 a439 (by simp)).1
   have ne_a439_t494 : a439 ≠ t494 := (ne496 a439 (by simp)).2
   have ne_a398_a493 : a398 ≠ a493 := (ne496 a398 (by simp)).1
   have ne_a398_t494 : a398 ≠ t494 := (ne496 a398 (by simp)).2
   have ne_a392_a493 : a392 ≠ a493 := (ne496 a392 (by simp)).1
   have ne_a392_t494 : a392 ≠ t494 := (ne496 a392 (by simp)).2
   have ne_a375_a493 : a375 ≠ a493 := (ne496 a375 (by simp)).1
   have ne_a375_t494 : a375 ≠ t494 := (ne496 a375 (by simp)).2
   have ne_a369_a493 : a369 ≠ a493 := (ne496 a369 (by simp)).1
   have ne_a369_t494 : a369 ≠ t494 := (ne496 a369 (by simp)).2
   refine own_aload (pc' := 366) w490 own_d29_364 rfl rfl rfl ?_
   refine own_callV (pc' := 369) w490 (own_w186 hw) (own_w187 hw) (fun s' hZ' => notFace_of_selects (args := #[]) (mvT hZ' (own_w189 hw))) (own_w189 hw) (own_w188 hw) (own_w52 hw) (own_w190 hw) (by decide) E_r_481 (own_ct_page l Z a0 hw EL hE n0 [] h491 (own_old w490) r_481 pg_482 F_r_481_page) all0 (argsL := []) (rest := [(.ref a493)]) rfl rfl own_pd16 rfl own_d29_366 rfl (by decide) (W := 1) rfl (by decide) (by decide) (by decide) fun T497 h499 v500 ms501 w498 q502 => ?_
   obtain ⟨rfl, rfl, rfl⟩ := q502
   show own_Go Z EL n0 p e below s _ _ _ (T497.setTop (mkF m 369 _ [(.ref pg_482), (.ref a493)]))
   refine own_callVB (pc' := 372) w498 (kc := 0) (nc := 0) (own_w191 hw) (own_w192 hw) (fun s' hZ' => notFace_of_selects (args := #[]) (mvT hZ' (own_w194 hw))) (own_w194 hw) (own_w193 hw) (by decide) E_a493 (QQ := fun v h' L => ((v = some (.int 1) ∧ ([87, 114, 105, 116, 101] : List Int32) = ([87, 114, 105, 116, 101] : List Int32)) ∨ (v = some (.int 0) ∧ ¬ ([87, 114, 105, 116, 101] : List Int32) = ([87, 114, 105, 116, 101] : List Int32))) ∧ L = [] ∧ h' = h491) (fun s' hZ' => StrChars.Road.eqW (W := 0) hZ' (own_hwq hw) (kI := 4) (own_w2 hw) E_a493 F_a493_value F_a493_coder A_t494 (own_cod (cs := ([87, 114, 105, 116, 101] : List Int32)) (n := 5) rfl (own_allS (by decide) (own_allS (by decide) (own_allS (by decide) (own_allS (by decide) (own_allS (by decide) own_all0)))))) (own_up ([87, 114, 105, 116, 101] : List Int32) (own_allS (by decide) (own_allS (by decide) (own_allS (by decide) (own_allS (by decide) (own_allS (by decide) own_all0)))))) (Nat.le_of_ble_eq_true rfl) E_pg_482 F_pg_482_value F_pg_482_coder A_tp_483 (own_cod (cs := ([87, 114, 105, 116, 101] : List Int32)) (n := 5) rfl (own_allS (by decide) (own_allS (by decide) (own_allS (by decide) (own_allS (by decide) (own_allS (by decide) own_all0)))))) (own_up ([87, 114, 105, 116, 101] : List Int32) (own_allS (by decide) (own_allS (by decide) (own_allS (by decide) (own_allS (by decide) (own_allS (by decide) own_all0)))))) (Nat.le_of_ble_eq_true rfl) (S_COMPACT_STRINGS.ext (own_old w498).2) P5 (by decide) (by decide)) (ws := []) all0 (fun v h' L q => ⟨q.2.2 ▸ Keep.refl _ _, q.2.1 ▸ Fr.nil _⟩) (argsL := [(.ref pg_482)]) (rest := []) rfl rfl own_pd22 rfl own_d29_369 rfl (Nat.le_of_eq rfl) (by decide) (by decide) fun T503 h505 v506 w504 K507 q508 => ?_
   obtain ⟨_, hq_, -, e509⟩ := q508
   rw [e509] at w504
   rcases hq_ with ⟨rfl, hcs4⟩ | ⟨rfl, hcs4⟩
   ·
    show own_Go Z EL n0 p e below s _ _ _ (T503.setTop (mkF m 372 _ [(.int (1 : Int32))]))
    refine own_if (pc' := 375) w504 own_d29_372 rfl (by decide) (pcY := 410) rfl (fun (hb372 : (1 : Int32) = (0 : Int32)) => absurd hb372 (by decide)) (fun (hb372 : ¬ (1 : Int32) = (0 : Int32)) => ?_)
    refine own_aload (pc' := 377) w504 own_d29_375 rfl rfl rfl ?_
    refine own_aload (pc' := 379) w504 own_d29_377 rfl rfl rfl ?_
    refine own_callV (pc' := 382) w504 (own_w196 hw) (own_w197 hw) (fun s' hZ' => notFace_of_selects (args := #[]) (mvT hZ' (own_w199 hw))) (own_w199 hw) (own_w198 hw) (own_w52 hw) (own_w200 hw) (by decide) E_r_481 (own_ct_action l Z a0 hw EL hE n0 [] h491 (own_old w504) r_481 q_485 F_r_481_action) all0 (argsL := []) (rest := [(.ref a392)]) rfl rfl own_pd16 rfl own_d29_379 rfl (by decide) (W := 1) rfl (by decide) (by decide) (by decide) fun T510 h512 v513 ms514 w511 q515 => ?_
    obtain ⟨rfl, rfl, rfl⟩ := q515
    show own_Go Z EL n0 p e below s _ _ _ (T510.setTop (mkF m 382 _ [(.ref q_485), (.ref a392)]))
    have hcq : StrChars.Road.CodA ([(i1 &&& (255 : Int32)), 47, 119, 114, 105, 116, 101] : List Int32) 0 (7 : Int32) (own_sl (own_put (own_put (List.replicate 16 (.int 0)) 0 ((([(i1 &&& (255 : Int32))] : List Int32).map (fun (c : Int32) => c.toInt8.toInt32)).map Value.int)) 1 [(.int 47), (.int 119), (.int 114), (.int 105), (.int 116), (.int 101)]) 0 7) := (own_cod (cs := ([(i1 &&& (255 : Int32)), 47, 119, 114, 105, 116, 101] : List Int32)) (n := 7) rfl (own_allS (own_and255 i1) (own_allS (by decide) (own_allS (by decide) (own_allS (by decide) (own_allS (by decide) (own_allS (by decide) (own_allS (by decide) own_all0))))))))
    refine own_callVB (pc' := 385) w511 (kc := 0) (nc := 0) (own_w191 hw) (own_w192 hw) (fun s' hZ' => notFace_of_selects (args := #[]) (mvT hZ' (own_w194 hw))) (own_w194 hw) (own_w193 hw) (by decide) E_a392 (QQ := fun v h' L => ((v = some (.int 1) ∧ ([(i1 &&& (255 : Int32)), 47, 119, 114, 105, 116, 101] : List Int32) = ([(i1 &&& (255 : Int32)), 47, 119, 114, 105, 116, 101] : List Int32)) ∨ (v = some (.int 0) ∧ ¬ ([(i1 &&& (255 : Int32)), 47, 119, 114, 105, 116, 101] : List Int32) = ([(i1 &&& (255 : Int32)), 47, 119, 114, 105, 116, 101] : List Int32))) ∧ L = [] ∧ h' = h491) (fun s' hZ' => StrChars.Road.eqW (W := 0) hZ' (own_hwq hw) (kI := 4) (own_w2 hw) E_a392 F_a392_value F_a392_coder A_t433 (own_cod (cs := ([(i1 &&& (255 : Int32)), 47, 119, 114, 105, 116, 101] : List Int32)) (n := 7) rfl (own_allS (own_and255 i1) (own_allS (by decide) (own_allS (by decide) (own_allS (by decide) (own_allS (by decide) (own_allS (by decide) (own_allS (by decide) own_all0)))))))) (own_up ([(i1 &&& (255 : Int32)), 47, 119, 114, 105, 116, 101] : List Int32) (own_allS (own_and255 i1) (own_allS (by decide) (own_allS (by decide) (own_allS (by decide) (own_allS (by decide) (own_allS (by decide) (own_allS (by decide) own_all0)))))))) (Nat.le_of_ble_eq_true rfl) E_q_485 F_q_485_value F_q_485_coder A_tq_486 hcq (own_up ([(i1 &&& (255 : Int32)), 47, 119, 114, 105, 116, 101] : List Int32) (own_allS (own_and255 i1) (own_allS (by decide) (own_allS (by decide) (own_allS (by decide) (own_allS (by decide) (own_allS (by decide) (own_allS (by decide) own_all0)))))))) (Nat.le_of_ble_eq_true rfl) (S_COMPACT_STRINGS.ext (own_old w511).2) P5 (by decide) (by decide)) (ws := []) all0 (fun v h' L q => ⟨q.2.2 ▸ Keep.refl _ _, q.2.1 ▸ Fr.nil _⟩) (argsL := [(.ref q_485)]) (rest := []) rfl rfl own_pd22 rfl own_d29_382 rfl (Nat.le_of_eq rfl) (by decide) (by decide) fun T516 h518 v519 w517 K520 q521 => ?_
    obtain ⟨_, hq_, -, e522⟩ := q521
    rw [e522] at w517
    rcases hq_ with ⟨rfl, hcs5⟩ | ⟨rfl, hcs5⟩
    ·
     show own_Go Z EL n0 p e below s _ _ _ (T516.setTop (mkF m 385 _ [(.int (1 : Int32))]))
     refine own_if (pc' := 388) w517 own_d29_385 rfl (by decide) (pcY := 410) rfl (fun (hb385 : (1 : Int32) = (0 : Int32)) => absurd hb385 (by decide)) (fun (hb385 : ¬ (1 : Int32) = (0 : Int32)) => ?_)
     refine own_aload (pc' := 390) w517 own_d29_388 rfl rfl rfl ?_
     refine own_callV (pc' := 393) w517 (own_w206 hw) (own_w207 hw) (fun s' hZ' => notFace_of_selects (args := #[]) (mvT hZ' (own_w209 hw))) (own_w209 hw) (own_w208 hw) (own_w52 hw) (own_w210 hw) (by decide) E_r_481 (own_ct_fixedR l Z a0 hw EL hE n0 [] h491 (own_old w517) r_481 F_r_481_fixedRecipient) all0 (argsL := []) (rest := []) rfl rfl own_pd11 rfl own_d29_390 rfl (by decide) (W := 0) rfl (by decide) (by decide) (by decide) fun T523 h525 v526 ms527 w524 q528 => ?_
     obtain ⟨rfl, rfl, rfl⟩ := q528
     show own_Go Z EL n0 p e below s _ _ _ (T523.setTop (mkF m 393 _ [(.int (0 : Int32))]))
     refine own_if (pc' := 396) w524 own_d29_393 rfl (by decide) (pcY := 410) rfl (fun (hb393 : ¬ (0 : Int32) = (0 : Int32)) => absurd hb393 (by decide)) (fun (hb393 : (0 : Int32) = (0 : Int32)) => ?_)
     refine own_aload (pc' := 398) w524 own_d29_396 rfl rfl rfl ?_
     refine own_callV (pc' := 401) w524 (own_w211 hw) (own_w212 hw) (fun s' hZ' => notFace_of_selects (args := #[]) (mvT hZ' (own_w214 hw))) (own_w214 hw) (own_w213 hw) (own_w52 hw) (own_w215 hw) (by decide) E_r_481 (own_ct_from l Z a0 hw EL hE n0 [] h491 (own_old w524) r_481 a466 F_r_481_from) all0 (argsL := []) (rest := []) rfl rfl own_pd23 rfl own_d29_398 rfl (by decide) (W := 0) rfl (by decide) (by decide) (by decide) fun T529 h531 v532 ms533 w530 q534 => ?_
     obtain ⟨rfl, rfl, rfl⟩ := q534
     show own_Go Z EL n0 p e below s _ _ _ (T529.setTop (mkF m 401 _ [(.ref a466)]))
     refine own_aload (pc' := 403) w530 own_d29_401 rfl rfl rfl ?_
     refine own_acmp (pc' := 406) w530 rfl rfl own_d29_403 rfl (by decide) (pcY := 410) rfl (fun (hb403 : ¬ ((.ref a466) : Value) = (.ref a466)) => absurd rfl hb403) (fun (hb403 : ((.ref a466) : Value) = (.ref a466)) => ?_)
     refine own_iconst (pc' := 407) w530 own_d29_406 (x := (1 : Int32)) rfl rfl ?_
     refine own_goto w530 own_d29_407 (by decide) (pc' := 411) rfl ?_
     exact own_retV w530 (t := .boolean) rfl rfl (Or.inl ⟨rfl, by simp, _, rfl⟩) own_d29_411 (by decide) (by decide) (ms' := []) all0 ⟨K, rfl, rfl⟩
    ·
     exact absurd rfl hcs5
   ·
    exact absurd rfl hcs4
 ·
  refine own_ldcS (pc' := 57) w0 (vs := []) (z := (0 : Int32)) (nn := 0) (own_w0 hw) (own_hst hw) hE7 ⟨by decide +kernel, by rfl⟩ (by decide) rfl own_d29_55 rfl (by decide +kernel) (by decide) (by decide) (by decide) hE fun T535 h537 a539 t540 kb541 w536 E538 ⟨E_a539, F_a539_coder, F_a539_value, A_t540, ne542⟩ => ?_
  replace K := K.ext E538
  refine own_astore (pc' := 59) w536 own_d29_57 rfl (Ls' := #[.val (.int i0), .val (.int i1), .val (.int i2), .val (.int i3), .val (.int i4), .val (.int (i1 &&& (255 : Int32))), .val (.int (i2 &&& (255 : Int32))), .val (.int (i3 &&& (255 : Int32))), .val (.int (i4 &&& (255 : Int32))), .val (.int ((XT.ushr i4 (8 : Int32)) &&& (255 : Int32))), .val (.int (i0 &&& (3 : Int32))), .val (.ref a539), .unset, .unset, .unset, .unset]) rfl rfl ?_
  refine own_ldcS (pc' := 61) w536 (vs := [(.int 47), (.int 119), (.int 114), (.int 105), (.int 116), (.int 101)]) (z := (6 : Int32)) (nn := 24) (own_w8 hw) (own_hst hw) hE9 ⟨by decide +kernel, by rfl⟩ (by decide) rfl own_d29_59 rfl (by decide +kernel) (by decide) (by decide) (by decide) hE fun T543 h545 a547 t548 kb549 w544 E546 ⟨E_a547, F_a547_coder, F_a547_value, A_t548, ne550⟩ => ?_
  replace E_a539 := E_a539.ext E546
  replace F_a539_coder := F_a539_coder.ext E546
  replace F_a539_value := F_a539_value.ext E546
  replace A_t540 := A_t540.ext E546
  replace K := K.ext E546
  refine own_astore (pc' := 63) w544 own_d29_61 rfl (Ls' := #[.val (.int i0), .val (.int i1), .val (.int i2), .val (.int i3), .val (.int i4), .val (.int (i1 &&& (255 : Int32))), .val (.int (i2 &&& (255 : Int32))), .val (.int (i3 &&& (255 : Int32))), .val (.int (i4 &&& (255 : Int32))), .val (.int ((XT.ushr i4 (8 : Int32)) &&& (255 : Int32))), .val (.int (i0 &&& (3 : Int32))), .val (.ref a539), .val (.ref a547), .unset, .unset, .unset]) rfl rfl ?_
  refine own_goto w544 own_d29_63 (by decide) (pc' := 315) rfl ?_
  refine own_newO (pc' := 318) w544 (own_w9 hw) (own_w2 hw) (own_w1 hw) own_d29_315 rfl (by decide) (by decide) fun T551 h553 a555 g_a555 w552 E554 ⟨E_a555, D556⟩ => ?_
  have ne_a539_a555 : a539 ≠ a555 := Nat.ne_of_lt (Nat.lt_of_lt_of_le E_a539.lt (Nat.le_of_eq g_a555))
  have ne_a547_a555 : a547 ≠ a555 := Nat.ne_of_lt (Nat.lt_of_lt_of_le E_a547.lt (Nat.le_of_eq g_a555))
  have ne_t540_a555 : t540 ≠ a555 := Nat.ne_of_lt (Nat.lt_of_lt_of_le A_t540.lt (Nat.le_of_eq g_a555))
  have ne_t548_a555 : t548 ≠ a555 := Nat.ne_of_lt (Nat.lt_of_lt_of_le A_t548.lt (Nat.le_of_eq g_a555))
  have nw_a555 : h0.size ≤ a555 := Nat.le_trans K.1 (Nat.le_of_eq g_a555)
  replace E_a539 := E_a539.ext E554
  replace F_a539_coder := F_a539_coder.ext E554
  replace F_a539_value := F_a539_value.ext E554
  replace A_t540 := A_t540.ext E554
  replace E_a547 := E_a547.ext E554
  replace F_a547_coder := F_a547_coder.ext E554
  replace F_a547_value := F_a547_value.ext E554
  replace A_t548 := A_t548.ext E554
  replace K := K.ext E554
  have F_a555_value : Fld Z h553 a555 "java/lang/String" "value" "[B" .null := D556 (Or.inr (own_w4 hw)) (ty := (.array .byte)) (by decide)
  have F_a555_coder : Fld Z h553 a555 "java/lang/String" "coder" "B" (.int 0) := D556 (Or.inr (own_w5 hw)) (ty := .byte) (by decide)
  refine own_dup (pc' := 319) w552 own_d29_318 rfl rfl ?_
  refine own_iconst (pc' := 320) w552 own_d29_319 (x := (2 : Int32)) rfl rfl ?_
  refine own_newP (pc' := 322) w552 (aty := .char) (z := (2 : Int32)) (vs := [(.int 0), (.int 0)]) (dv := (.int 0)) (cap := 2) (own_w10 hw) own_d29_320 rfl (by decide) (by decide) (by decide) rfl (own_rep 2 (.int 0)) (by decide) (by decide) fun T557 h559 a561 g_a561 w558 E560 ⟨k_a561, A_a561⟩ => ?_
  have ne_a539_a561 : a539 ≠ a561 := Nat.ne_of_lt (Nat.lt_of_lt_of_le E_a539.lt (Nat.le_of_eq g_a561))
  have ne_a547_a561 : a547 ≠ a561 := Nat.ne_of_lt (Nat.lt_of_lt_of_le E_a547.lt (Nat.le_of_eq g_a561))
  have ne_a555_a561 : a555 ≠ a561 := Nat.ne_of_lt (Nat.lt_of_lt_of_le E_a555.lt (Nat.le_of_eq g_a561))
  have ne_t540_a561 : t540 ≠ a561 := Nat.ne_of_lt (Nat.lt_of_lt_of_le A_t540.lt (Nat.le_of_eq g_a561))
  have ne_t548_a561 : t548 ≠ a561 := Nat.ne_of_lt (Nat.lt_of_lt_of_le A_t548.lt (Nat.le_of_eq g_a561))
  have nw_a561 : h0.size ≤ a561 := Nat.le_trans K.1 (Nat.le_of_eq g_a561)
  replace E_a539 := E_a539.ext E560
  replace F_a539_coder := F_a539_coder.ext E560
  replace F_a539_value := F_a539_value.ext E560
  replace A_t540 := A_t540.ext E560
  replace E_a547 := E_a547.ext E560
  replace F_a547_coder := F_a547_coder.ext E560
  replace F_a547_value := F_a547_value.ext E560
  replace A_t548 := A_t548.ext E560
  replace E_a555 := E_a555.ext E560
  replace F_a555_value := F_a555_value.ext E560
  replace F_a555_coder := F_a555_coder.ext E560
  replace K := K.ext E560
  refine own_dup (pc' := 323) w558 own_d29_322 rfl rfl ?_
  refine own_iconst (pc' := 324) w558 own_d29_323 (x := (0 : Int32)) rfl rfl ?_
  refine own_iload (pc' := 326) w558 own_d29_324 rfl rfl ?_
  refine own_stC (pc' := 327) w558 (i := 0) (xv := (.int (i4 &&& (255 : Int32)))) (vs' := [(.int (i4 &&& (255 : Int32))), (.int 0)]) (by simp) A_a561 (by decide) rfl (Nat.lt_of_sub_eq_succ rfl) (own_ncB (own_and255 i4)) (own_fcB (own_and255 i4)) rfl own_d29_326 rfl fun T562 h564 w563 W565 A_new => ?_
  clear A_a561
  replace E_a539 := E_a539.wr W565
  replace F_a539_coder := F_a539_coder.other W565 (Or.inl ne_a539_a561)
  replace F_a539_value := F_a539_value.other W565 (Or.inl ne_a539_a561)
  replace A_t540 := A_t540.other W565 ne_t540_a561
  replace E_a547 := E_a547.wr W565
  replace F_a547_coder := F_a547_coder.other W565 (Or.inl ne_a547_a561)
  replace F_a547_value := F_a547_value.other W565 (Or.inl ne_a547_a561)
  replace A_t548 := A_t548.other W565 ne_t548_a561
  replace E_a555 := E_a555.wr W565
  replace F_a555_value := F_a555_value.other W565 (Or.inl ne_a555_a561)
  replace F_a555_coder := F_a555_coder.other W565 (Or.inl ne_a555_a561)
  replace K := K.wr W565 (Or.inr nw_a561)
  have A_a561 := A_new
  clear A_new
  refine own_dup (pc' := 328) w563 own_d29_327 rfl rfl ?_
  refine own_iconst (pc' := 329) w563 own_d29_328 (x := (1 : Int32)) rfl rfl ?_
  refine own_iload (pc' := 331) w563 own_d29_329 rfl rfl ?_
  refine own_stC (pc' := 332) w563 (i := 1) (xv := (.int ((XT.ushr i4 (8 : Int32)) &&& (255 : Int32)))) (vs' := [(.int (i4 &&& (255 : Int32))), (.int ((XT.ushr i4 (8 : Int32)) &&& (255 : Int32)))]) (by simp) A_a561 (by decide) rfl (Nat.lt_of_sub_eq_succ rfl) (own_ncB (own_and255 (XT.ushr i4 (8 : Int32)))) (own_fcB (own_and255 (XT.ushr i4 (8 : Int32)))) rfl own_d29_331 rfl fun T566 h568 w567 W569 A_new => ?_
  clear A_a561
  replace E_a539 := E_a539.wr W569
  replace F_a539_coder := F_a539_coder.other W569 (Or.inl ne_a539_a561)
  replace F_a539_value := F_a539_value.other W569 (Or.inl ne_a539_a561)
  replace A_t540 := A_t540.other W569 ne_t540_a561
  replace E_a547 := E_a547.wr W569
  replace F_a547_coder := F_a547_coder.other W569 (Or.inl ne_a547_a561)
  replace F_a547_value := F_a547_value.other W569 (Or.inl ne_a547_a561)
  replace A_t548 := A_t548.other W569 ne_t548_a561
  replace E_a555 := E_a555.wr W569
  replace F_a555_value := F_a555_value.other W569 (Or.inl ne_a555_a561)
  replace F_a555_coder := F_a555_coder.other W569 (Or.inl ne_a555_a561)
  replace K := K.wr W569 (Or.inr nw_a561)
  have A_a561 := A_new
  clear A_new
  refine own_callIB (pc' := 335) w567 (bytes' := jdk_42_method_3_code) rfl (own_w11 hw) (own_w12 hw) (own_w13 hw) (by decide) (fun s' hZ' => StrChars.Road.backV (W := 1) hZ' (own_hws hw) (kI := 4) (own_w2 hw) (cs := [(i4 &&& (255 : Int32)), ((XT.ushr i4 (8 : Int32)) &&& (255 : Int32))]) (n := 2) (n0 := n0) (own_mine w567 a555 (by simp)).1 (own_n0 (own_old w567)) E_a555 F_a555_value F_a555_coder A_a561 (S_COMPACT_STRINGS.ext (own_old w567).2) P5 rfl rfl (by decide) (by decide) (own_allS (own_and255 i4) (own_allS (own_and255 (XT.ushr i4 (8 : Int32))) own_all0)) rfl (by decide) (by decide)) (ws := [a555]) (allS (P := fun x => x ∈ _) (by simp) all0) (fun v h' L q => ⟨q.2.2.1, q.2.1⟩) (argsL := [.ref a561]) (rest := [(.ref a555)]) rfl rfl own_pd19 rfl own_d29_332 rfl (Nat.le_of_eq rfl) (by decide) (by decide) fun T570 h572 v573 w571 K574 q575 => ?_
  obtain ⟨_, rfl, -, -, nw_E, nw_C, t576, kb577, -, le_t576, ne_t576, nw_V, nw_A⟩ := q575
  have ne_a539_t576 : a539 ≠ t576 := Nat.ne_of_lt (Nat.lt_of_lt_of_le E_a539.lt le_t576)
  have ne_a547_t576 : a547 ≠ t576 := Nat.ne_of_lt (Nat.lt_of_lt_of_le E_a547.lt le_t576)
  have ne_a555_t576 : a555 ≠ t576 := Nat.ne_of_lt (Nat.lt_of_lt_of_le E_a555.lt le_t576)
  have ne_a561_t576 : a561 ≠ t576 := Nat.ne_of_lt (Nat.lt_of_lt_of_le A_a561.lt le_t576)
  have ne_t540_t576 : t540 ≠ t576 := Nat.ne_of_lt (Nat.lt_of_lt_of_le A_t540.lt le_t576)
  have ne_t548_t576 : t548 ≠ t576 := Nat.ne_of_lt (Nat.lt_of_lt_of_le A_t548.lt le_t576)
  have nw_t576 : h0.size ≤ t576 := Nat.le_trans K.1 le_t576
  replace E_a539 := E_a539.keep K574
  replace F_a539_coder := F_a539_coder.keep K574 (ninS ne_a539_a555 nin0)
  replace F_a539_value := F_a539_value.keep K574 (ninS ne_a539_a555 nin0)
  replace A_t540 := A_t540.keep K574 (ninS ne_t540_a555 nin0)
  replace E_a547 := E_a547.keep K574
  replace F_a547_coder := F_a547_coder.keep K574 (ninS ne_a547_a555 nin0)
  replace F_a547_value := F_a547_value.keep K574 (ninS ne_a547_a555 nin0)
  replace A_t548 := A_t548.keep K574 (ninS ne_t548_a555 nin0)
  replace A_a561 := A_a561.keep K574 (ninS (Ne.symm ne_a555_a561) nin0)
  replace K := K.trans K574 (allS (P := fun x => x ∈ ([] : List Addr) ∨ h0.size ≤ x) (Or.inr nw_a555) all0)
  have E_a555 := nw_E; have F_a555_coder := nw_C; have F_a555_value := nw_V; have A_t576 := nw_A; clear nw_E nw_C nw_V nw_A
  show own_Go Z EL n0 p e below s _ _ _ (T570.setTop (mkF m 335 _ [(.ref a555)]))
  refine own_astore (pc' := 337) w571 own_d29_335 rfl (Ls' := #[.val (.int i0), .val (.int i1), .val (.int i2), .val (.int i3), .val (.int i4), .val (.int (i1 &&& (255 : Int32))), .val (.int (i2 &&& (255 : Int32))), .val (.int (i3 &&& (255 : Int32))), .val (.int (i4 &&& (255 : Int32))), .val (.int ((XT.ushr i4 (8 : Int32)) &&& (255 : Int32))), .val (.int (i0 &&& (3 : Int32))), .val (.ref a539), .val (.ref a547), .val (.ref a555), .unset, .unset]) rfl rfl ?_
  refine own_newO (pc' := 340) w571 (own_w34 hw) (own_w35 hw) (own_w36 hw) own_d29_337 rfl (by decide) (by decide) fun T578 h580 a582 g_a582 w579 E581 ⟨E_a582, D583⟩ => ?_
  have ne_a539_a582 : a539 ≠ a582 := Nat.ne_of_lt (Nat.lt_of_lt_of_le E_a539.lt (Nat.le_of_eq g_a582))
  have ne_a547_a582 : a547 ≠ a582 := Nat.ne_of_lt (Nat.lt_of_lt_of_le E_a547.lt (Nat.le_of_eq g_a582))
  have ne_a555_a582 : a555 ≠ a582 := Nat.ne_of_lt (Nat.lt_of_lt_of_le E_a555.lt (Nat.le_of_eq g_a582))
  have ne_a561_a582 : a561 ≠ a582 := Nat.ne_of_lt (Nat.lt_of_lt_of_le A_a561.lt (Nat.le_of_eq g_a582))
  have ne_t540_a582 : t540 ≠ a582 := Nat.ne_of_lt (Nat.lt_of_lt_of_le A_t540.lt (Nat.le_of_eq g_a582))
  have ne_t548_a582 : t548 ≠ a582 := Nat.ne_of_lt (Nat.lt_of_lt_of_le A_t548.lt (Nat.le_of_eq g_a582))
  have ne_t576_a582 : t576 ≠ a582 := Nat.ne_of_lt (Nat.lt_of_lt_of_le A_t576.lt (Nat.le_of_eq g_a582))
  have nw_a582 : h0.size ≤ a582 := Nat.le_trans K.1 (Nat.le_of_eq g_a582)
  replace E_a539 := E_a539.ext E581
  replace F_a539_coder := F_a539_coder.ext E581
  replace F_a539_value := F_a539_value.ext E581
  replace A_t540 := A_t540.ext E581
  replace E_a547 := E_a547.ext E581
  replace F_a547_coder := F_a547_coder.ext E581
  replace F_a547_value := F_a547_value.ext E581
  replace A_t548 := A_t548.ext E581
  replace A_a561 := A_a561.ext E581
  replace E_a555 := E_a555.ext E581
  replace F_a555_coder := F_a555_coder.ext E581
  replace F_a555_value := F_a555_value.ext E581
  replace A_t576 := A_t576.ext E581
  replace K := K.ext E581
  have F_a582_address : Fld Z h580 a582 "com/example/vidura/vidura/Mailbox" "address" "Ljava/lang/String;" .null := D583 (Or.inr (own_w47 hw)) (ty := (.object "java/lang/String")) (by decide)
  have F_a582_home : Fld Z h580 a582 "com/example/vidura/vidura/Mailbox" "home" "Ljava/lang/String;" .null := D583 (Or.inr (own_w49 hw)) (ty := (.object "java/lang/String")) (by decide)
  refine own_dup (pc' := 341) w579 own_d29_340 rfl rfl ?_
  refine own_aload (pc' := 343) w579 own_d29_341 rfl rfl rfl ?_
  refine own_aload (pc' := 345) w579 own_d29_343 rfl rfl rfl ?_
  refine own_callI (pc' := 348) w579 rfl (own_w37 hw) (own_w38 hw) (own_w36 hw) (own_w39 hw) (by decide) (own_ct_mbInit l Z a0 hw EL hE n0 [] h580 (own_old w579) a582 a555 a539 .null .null E_a582 F_a582_address F_a582_home) (allS (P := fun x => x ∈ _) (by simp) all0) (argsL := [(.ref a555), (.ref a539)]) (rest := [(.ref a582)]) rfl rfl own_pd20 rfl own_d29_345 rfl (by decide) (W := 1) rfl (by decide) (by decide) (by decide) fun T584 h586 v587 ms588 w585 q589 => ?_
  obtain ⟨K590, rfl, rfl, nw_E_a582, nw_F_a582_home⟩ := q589
  replace E_a539 := E_a539.keep K590
  replace F_a539_coder := F_a539_coder.keep K590 (ninS ne_a539_a582 nin0)
  replace F_a539_value := F_a539_value.keep K590 (ninS ne_a539_a582 nin0)
  replace A_t540 := A_t540.keep K590 (ninS ne_t540_a582 nin0)
  replace E_a547 := E_a547.keep K590
  replace F_a547_coder := F_a547_coder.keep K590 (ninS ne_a547_a582 nin0)
  replace F_a547_value := F_a547_value.keep K590 (ninS ne_a547_a582 nin0)
  replace A_t548 := A_t548.keep K590 (ninS ne_t548_a582 nin0)
  replace A_a561 := A_a561.keep K590 (ninS ne_a561_a582 nin0)
  replace E_a555 := E_a555.keep K590
  replace F_a555_coder := F_a555_coder.keep K590 (ninS ne_a555_a582 nin0)
  replace F_a555_value := F_a555_value.keep K590 (ninS ne_a555_a582 nin0)
  replace A_t576 := A_t576.keep K590 (ninS ne_t576_a582 nin0)
  replace K := K.trans K590 (allS (P := fun x => x ∈ ([] : List Addr) ∨ h0.size ≤ x) (Or.inr nw_a582) all0)
  have E_a582 := nw_E_a582; clear nw_E_a582
  have F_a582_home := nw_F_a582_home; clear nw_F_a582_home
  show own_Go Z EL n0 p e below s _ _ _ (T584.setTop (mkF m 348 _ [(.ref a582)]))
  refine own_astore (pc' := 350) w585 own_d29_348 rfl (Ls' := #[.val (.int i0), .val (.int i1), .val (.int i2), .val (.int i3), .val (.int i4), .val (.int (i1 &&& (255 : Int32))), .val (.int (i2 &&& (255 : Int32))), .val (.int (i3 &&& (255 : Int32))), .val (.int (i4 &&& (255 : Int32))), .val (.int ((XT.ushr i4 (8 : Int32)) &&& (255 : Int32))), .val (.int (i0 &&& (3 : Int32))), .val (.ref a539), .val (.ref a547), .val (.ref a555), .val (.ref a582), .unset]) rfl rfl ?_
  refine own_aload (pc' := 352) w585 own_d29_350 rfl rfl rfl ?_
  refine own_callS (pc' := 355) w585 (own_w50 hw) (own_w51 hw) (own_w52 hw) (own_w53 hw) (by decide) (own_ct_write l Z a0 hw EL hE n0 [] h586 (own_old w585) a582 a539 t540 kb541 (0 : Int32) [] ([] : List Int32) (6 : Int32) 0 6 z5 E_a582 F_a582_home E_a539 F_a539_coder F_a539_value A_t540 ((Or.inl ⟨rfl, rfl, rfl, own_all0⟩)) ((own_up ([] : List Int32) own_all0)) ((Nat.le_of_ble_eq_true rfl)) (rfl) S_COMPACT_STRINGS (P5) (by decide) (by decide) (by decide) (⟨by decide, by decide, rfl, rfl, rfl, by decide, Nat.le_of_ble_eq_true rfl⟩) (⟨by decide, by decide, rfl, rfl, rfl, by decide, Nat.le_of_ble_eq_true rfl⟩) (by decide) (by decide) (by decide) (hE24) (hE28)) all0 (argsL := [(.ref a582)]) (rest := []) rfl rfl own_pd21 rfl own_d29_352 rfl (by decide) (W := 0) rfl (by decide) (by decide) (by decide) fun T591 h593 v594 ms595 w592 q596 => ?_
  obtain ⟨K604, r_597, pg_598, tp_599, kp_600, q_601, tq_602, kA_603, rfl, rfl, nw_E_r_597, nw_F_r_597_page, nw_F_r_597_action, nw_F_r_597_fixedRecipient, nw_F_r_597_from, nw_E_pg_598, nw_F_pg_598_coder, nw_F_pg_598_value, nw_A_tp_599, nw_E_q_601, nw_F_q_601_coder, nw_F_q_601_value, nw_A_tq_602, p352_write_0⟩ := q596
  have ne_a539_r_597 : a539 ≠ r_597 := Nat.ne_of_lt (Nat.lt_of_lt_of_le E_a539.lt p352_write_0)
  have ne_a547_r_597 : a547 ≠ r_597 := Nat.ne_of_lt (Nat.lt_of_lt_of_le E_a547.lt p352_write_0)
  have ne_a555_r_597 : a555 ≠ r_597 := Nat.ne_of_lt (Nat.lt_of_lt_of_le E_a555.lt p352_write_0)
  have ne_a561_r_597 : a561 ≠ r_597 := Nat.ne_of_lt (Nat.lt_of_lt_of_le A_a561.lt p352_write_0)
  have ne_a582_r_597 : a582 ≠ r_597 := Nat.ne_of_lt (Nat.lt_of_lt_of_le E_a582.lt p352_write_0)
  have ne_t540_r_597 : t540 ≠ r_597 := Nat.ne_of_lt (Nat.lt_of_lt_of_le A_t540.lt p352_write_0)
  have ne_t548_r_597 : t548 ≠ r_597 := Nat.ne_of_lt (Nat.lt_of_lt_of_le A_t548.lt p352_write_0)
  have ne_t576_r_597 : t576 ≠ r_597 := Nat.ne_of_lt (Nat.lt_of_lt_of_le A_t576.lt p352_write_0)
  have nw_r_597 : h0.size ≤ r_597 := Nat.le_trans K.1 p352_write_0
  replace E_a539 := E_a539.keep K604
  replace F_a539_coder := F_a539_coder.keep K604 nin0
  replace F_a539_value := F_a539_value.keep K604 nin0
  replace A_t540 := A_t540.keep K604 nin0
  replace E_a547 := E_a547.keep K604
  replace F_a547_coder := F_a547_coder.keep K604 nin0
  replace F_a547_value := F_a547_value.keep K604 nin0
  replace A_t548 := A_t548.keep K604 nin0
  replace A_a561 := A_a561.keep K604 nin0
  replace E_a555 := E_a555.keep K604
  replace F_a555_coder := F_a555_coder.keep K604 nin0
  replace F_a555_value := F_a555_value.keep K604 nin0
  replace A_t576 := A_t576.keep K604 nin0
  replace E_a582 := E_a582.keep K604
  replace F_a582_home := F_a582_home.keep K604 nin0
  replace K := K.trans K604 all0
  have E_r_597 := nw_E_r_597; clear nw_E_r_597
  have F_r_597_page := nw_F_r_597_page; clear nw_F_r_597_page
  have F_r_597_action := nw_F_r_597_action; clear nw_F_r_597_action
  have F_r_597_fixedRecipient := nw_F_r_597_fixedRecipient; clear nw_F_r_597_fixedRecipient
  have F_r_597_from := nw_F_r_597_from; clear nw_F_r_597_from
  have E_pg_598 := nw_E_pg_598; clear nw_E_pg_598
  have F_pg_598_coder := nw_F_pg_598_coder; clear nw_F_pg_598_coder
  have F_pg_598_value := nw_F_pg_598_value; clear nw_F_pg_598_value
  have A_tp_599 := nw_A_tp_599; clear nw_A_tp_599
  have E_q_601 := nw_E_q_601; clear nw_E_q_601
  have F_q_601_coder := nw_F_q_601_coder; clear nw_F_q_601_coder
  have F_q_601_value := nw_F_q_601_value; clear nw_F_q_601_value
  have A_tq_602 := nw_A_tq_602; clear nw_A_tq_602
  show own_Go Z EL n0 p e below s _ _ _ (T591.setTop (mkF m 355 _ [(.ref r_597)]))
  refine own_astore (pc' := 357) w592 own_d29_355 rfl (Ls' := #[.val (.int i0), .val (.int i1), .val (.int i2), .val (.int i3), .val (.int i4), .val (.int (i1 &&& (255 : Int32))), .val (.int (i2 &&& (255 : Int32))), .val (.int (i3 &&& (255 : Int32))), .val (.int (i4 &&& (255 : Int32))), .val (.int ((XT.ushr i4 (8 : Int32)) &&& (255 : Int32))), .val (.int (i0 &&& (3 : Int32))), .val (.ref a539), .val (.ref a547), .val (.ref a555), .val (.ref a582), .val (.ref r_597)]) rfl rfl ?_
  refine own_aload (pc' := 359) w592 own_d29_357 rfl rfl rfl ?_
  refine own_ifnullN (pc' := 362) w592 own_d29_359 rfl ?_
  refine own_ldcS (pc' := 364) w592 (vs := [(.int 87), (.int 114), (.int 105), (.int 116), (.int 101)]) (z := (5 : Int32)) (nn := 20) (own_w185 hw) (own_hst hw) hE27 ⟨by decide +kernel, by rfl⟩ (by decide) rfl own_d29_362 rfl (by decide +kernel) (by decide) (by decide) (by decide) hE fun T605 h607 a609 t610 kb611 w606 E608 ⟨E_a609, F_a609_coder, F_a609_value, A_t610, ne612⟩ => ?_
  replace E_a539 := E_a539.ext E608
  replace F_a539_coder := F_a539_coder.ext E608
  replace F_a539_value := F_a539_value.ext E608
  replace A_t540 := A_t540.ext E608
  replace E_a547 := E_a547.ext E608
  replace F_a547_coder := F_a547_coder.ext E608
  replace F_a547_value := F_a547_value.ext E608
  replace A_t548 := A_t548.ext E608
  replace A_a561 := A_a561.ext E608
  replace E_a555 := E_a555.ext E608
  replace F_a555_coder := F_a555_coder.ext E608
  replace F_a555_value := F_a555_value.ext E608
  replace A_t576 := A_t576.ext E608
  replace E_a582 := E_a582.ext E608
  replace F_a582_home := F_a582_home.ext E608
  replace E_r_597 := E_r_597.ext E608
  replace F_r_597_page := F_r_597_page.ext E608
  replace F_r_597_action := F_r_597_action.ext E608
  replace F_r_597_fixedRecipient := F_r_597_fixedRecipient.ext E608
  replace F_r_597_from := F_r_597_from.ext E608
  replace E_pg_598 := E_pg_598.ext E608
  replace F_pg_598_coder := F_pg_598_coder.ext E608
  replace F_pg_598_value := F_pg_598_value.ext E608
  replace A_tp_599 := A_tp_599.ext E608
  replace E_q_601 := E_q_601.ext E608
  replace F_q_601_coder := F_q_601_coder.ext E608
  replace F_q_601_value := F_q_601_value.ext E608
  replace A_tq_602 := A_tq_602.ext E608
  replace K := K.ext E608
  have ne_a582_a609 : a582 ≠ a609 := (ne612 a582 (by simp)).1
  have ne_a582_t610 : a582 ≠ t610 := (ne612 a582 (by simp)).2
  have ne_a561_a609 : a561 ≠ a609 := (ne612 a561 (by simp)).1
  have ne_a561_t610 : a561 ≠ t610 := (ne612 a561 (by simp)).2
  have ne_a555_a609 : a555 ≠ a609 := (ne612 a555 (by simp)).1
  have ne_a555_t610 : a555 ≠ t610 := (ne612 a555 (by simp)).2
  refine own_aload (pc' := 366) w606 own_d29_364 rfl rfl rfl ?_
  refine own_callV (pc' := 369) w606 (own_w186 hw) (own_w187 hw) (fun s' hZ' => notFace_of_selects (args := #[]) (mvT hZ' (own_w189 hw))) (own_w189 hw) (own_w188 hw) (own_w52 hw) (own_w190 hw) (by decide) E_r_597 (own_ct_page l Z a0 hw EL hE n0 [] h607 (own_old w606) r_597 pg_598 F_r_597_page) all0 (argsL := []) (rest := [(.ref a609)]) rfl rfl own_pd16 rfl own_d29_366 rfl (by decide) (W := 1) rfl (by decide) (by decide) (by decide) fun T613 h615 v616 ms617 w614 q618 => ?_
  obtain ⟨rfl, rfl, rfl⟩ := q618
  show own_Go Z EL n0 p e below s _ _ _ (T613.setTop (mkF m 369 _ [(.ref pg_598), (.ref a609)]))
  refine own_callVB (pc' := 372) w614 (kc := 0) (nc := 0) (own_w191 hw) (own_w192 hw) (fun s' hZ' => notFace_of_selects (args := #[]) (mvT hZ' (own_w194 hw))) (own_w194 hw) (own_w193 hw) (by decide) E_a609 (QQ := fun v h' L => ((v = some (.int 1) ∧ ([87, 114, 105, 116, 101] : List Int32) = ([87, 114, 105, 116, 101] : List Int32)) ∨ (v = some (.int 0) ∧ ¬ ([87, 114, 105, 116, 101] : List Int32) = ([87, 114, 105, 116, 101] : List Int32))) ∧ L = [] ∧ h' = h607) (fun s' hZ' => StrChars.Road.eqW (W := 0) hZ' (own_hwq hw) (kI := 4) (own_w2 hw) E_a609 F_a609_value F_a609_coder A_t610 (own_cod (cs := ([87, 114, 105, 116, 101] : List Int32)) (n := 5) rfl (own_allS (by decide) (own_allS (by decide) (own_allS (by decide) (own_allS (by decide) (own_allS (by decide) own_all0)))))) (own_up ([87, 114, 105, 116, 101] : List Int32) (own_allS (by decide) (own_allS (by decide) (own_allS (by decide) (own_allS (by decide) (own_allS (by decide) own_all0)))))) (Nat.le_of_ble_eq_true rfl) E_pg_598 F_pg_598_value F_pg_598_coder A_tp_599 (own_cod (cs := ([87, 114, 105, 116, 101] : List Int32)) (n := 5) rfl (own_allS (by decide) (own_allS (by decide) (own_allS (by decide) (own_allS (by decide) (own_allS (by decide) own_all0)))))) (own_up ([87, 114, 105, 116, 101] : List Int32) (own_allS (by decide) (own_allS (by decide) (own_allS (by decide) (own_allS (by decide) (own_allS (by decide) own_all0)))))) (Nat.le_of_ble_eq_true rfl) (S_COMPACT_STRINGS.ext (own_old w614).2) P5 (by decide) (by decide)) (ws := []) all0 (fun v h' L q => ⟨q.2.2 ▸ Keep.refl _ _, q.2.1 ▸ Fr.nil _⟩) (argsL := [(.ref pg_598)]) (rest := []) rfl rfl own_pd22 rfl own_d29_369 rfl (Nat.le_of_eq rfl) (by decide) (by decide) fun T619 h621 v622 w620 K623 q624 => ?_
  obtain ⟨_, hq_, -, e625⟩ := q624
  rw [e625] at w620
  rcases hq_ with ⟨rfl, hcs6⟩ | ⟨rfl, hcs6⟩
  ·
   show own_Go Z EL n0 p e below s _ _ _ (T619.setTop (mkF m 372 _ [(.int (1 : Int32))]))
   refine own_if (pc' := 375) w620 own_d29_372 rfl (by decide) (pcY := 410) rfl (fun (hb372 : (1 : Int32) = (0 : Int32)) => absurd hb372 (by decide)) (fun (hb372 : ¬ (1 : Int32) = (0 : Int32)) => ?_)
   refine own_aload (pc' := 377) w620 own_d29_375 rfl rfl rfl ?_
   refine own_aload (pc' := 379) w620 own_d29_377 rfl rfl rfl ?_
   refine own_callV (pc' := 382) w620 (own_w196 hw) (own_w197 hw) (fun s' hZ' => notFace_of_selects (args := #[]) (mvT hZ' (own_w199 hw))) (own_w199 hw) (own_w198 hw) (own_w52 hw) (own_w200 hw) (by decide) E_r_597 (own_ct_action l Z a0 hw EL hE n0 [] h607 (own_old w620) r_597 q_601 F_r_597_action) all0 (argsL := []) (rest := [(.ref a547)]) rfl rfl own_pd16 rfl own_d29_379 rfl (by decide) (W := 1) rfl (by decide) (by decide) (by decide) fun T626 h628 v629 ms630 w627 q631 => ?_
   obtain ⟨rfl, rfl, rfl⟩ := q631
   show own_Go Z EL n0 p e below s _ _ _ (T626.setTop (mkF m 382 _ [(.ref q_601), (.ref a547)]))
   have hcq : StrChars.Road.CodA ([47, 119, 114, 105, 116, 101] : List Int32) 0 (6 : Int32) (own_sl (own_put (own_put (List.replicate 16 (.int 0)) 0 []) 0 [(.int 47), (.int 119), (.int 114), (.int 105), (.int 116), (.int 101)]) 0 6) := (own_cod (cs := ([47, 119, 114, 105, 116, 101] : List Int32)) (n := 6) rfl (own_allS (by decide) (own_allS (by decide) (own_allS (by decide) (own_allS (by decide) (own_allS (by decide) (own_allS (by decide) own_all0)))))))
   refine own_callVB (pc' := 385) w627 (kc := 0) (nc := 0) (own_w191 hw) (own_w192 hw) (fun s' hZ' => notFace_of_selects (args := #[]) (mvT hZ' (own_w194 hw))) (own_w194 hw) (own_w193 hw) (by decide) E_a547 (QQ := fun v h' L => ((v = some (.int 1) ∧ ([47, 119, 114, 105, 116, 101] : List Int32) = ([47, 119, 114, 105, 116, 101] : List Int32)) ∨ (v = some (.int 0) ∧ ¬ ([47, 119, 114, 105, 116, 101] : List Int32) = ([47, 119, 114, 105, 116, 101] : List Int32))) ∧ L = [] ∧ h' = h607) (fun s' hZ' => StrChars.Road.eqW (W := 0) hZ' (own_hwq hw) (kI := 4) (own_w2 hw) E_a547 F_a547_value F_a547_coder A_t548 (own_cod (cs := ([47, 119, 114, 105, 116, 101] : List Int32)) (n := 6) rfl (own_allS (by decide) (own_allS (by decide) (own_allS (by decide) (own_allS (by decide) (own_allS (by decide) (own_allS (by decide) own_all0))))))) (own_up ([47, 119, 114, 105, 116, 101] : List Int32) (own_allS (by decide) (own_allS (by decide) (own_allS (by decide) (own_allS (by decide) (own_allS (by decide) (own_allS (by decide) own_all0))))))) (Nat.le_of_ble_eq_true rfl) E_q_601 F_q_601_value F_q_601_coder A_tq_602 hcq (own_up ([47, 119, 114, 105, 116, 101] : List Int32) (own_allS (by decide) (own_allS (by decide) (own_allS (by decide) (own_allS (by decide) (own_allS (by decide) (own_allS (by decide) own_all0))))))) (Nat.le_of_ble_eq_true rfl) (S_COMPACT_STRINGS.ext (own_old w627).2) P5 (by decide) (by decide)) (ws := []) all0 (fun v h' L q => ⟨q.2.2 ▸ Keep.refl _ _, q.2.1 ▸ Fr.nil _⟩) (argsL := [(.ref q_601)]) (rest := []) rfl rfl own_pd22 rfl own_d29_382 rfl (Nat.le_of_eq rfl) (by decide) (by decide) fun T632 h634 v635 w633 K636 q637 => ?_
   obtain ⟨_, hq_, -, e638⟩ := q637
   rw [e638] at w633
   rcases hq_ with ⟨rfl, hcs7⟩ | ⟨rfl, hcs7⟩
   ·
    show own_Go Z EL n0 p e below s _ _ _ (T632.setTop (mkF m 385 _ [(.int (1 : Int32))]))
    refine own_if (pc' := 388) w633 own_d29_385 rfl (by decide) (pcY := 410) rfl (fun (hb385 : (1 : Int32) = (0 : Int32)) => absurd hb385 (by decide)) (fun (hb385 : ¬ (1 : Int32) = (0 : Int32)) => ?_)
    refine own_aload (pc' := 390) w633 own_d29_388 rfl rfl rfl ?_
    refine own_callV (pc' := 393) w633 (own_w206 hw) (own_w207 hw) (fun s' hZ' => notFace_of_selects (args := #[]) (mvT hZ' (own_w209 hw))) (own_w209 hw) (own_w208 hw) (own_w52 hw) (own_w210 hw) (by decide) E_r_597 (own_ct_fixedR l Z a0 hw EL hE n0 [] h607 (own_old w633) r_597 F_r_597_fixedRecipient) all0 (argsL := []) (rest := []) rfl rfl own_pd11 rfl own_d29_390 rfl (by decide) (W := 0) rfl (by decide) (by decide) (by decide) fun T639 h641 v642 ms643 w640 q644 => ?_
    obtain ⟨rfl, rfl, rfl⟩ := q644
    show own_Go Z EL n0 p e below s _ _ _ (T639.setTop (mkF m 393 _ [(.int (0 : Int32))]))
    refine own_if (pc' := 396) w640 own_d29_393 rfl (by decide) (pcY := 410) rfl (fun (hb393 : ¬ (0 : Int32) = (0 : Int32)) => absurd hb393 (by decide)) (fun (hb393 : (0 : Int32) = (0 : Int32)) => ?_)
    refine own_aload (pc' := 398) w640 own_d29_396 rfl rfl rfl ?_
    refine own_callV (pc' := 401) w640 (own_w211 hw) (own_w212 hw) (fun s' hZ' => notFace_of_selects (args := #[]) (mvT hZ' (own_w214 hw))) (own_w214 hw) (own_w213 hw) (own_w52 hw) (own_w215 hw) (by decide) E_r_597 (own_ct_from l Z a0 hw EL hE n0 [] h607 (own_old w640) r_597 a582 F_r_597_from) all0 (argsL := []) (rest := []) rfl rfl own_pd23 rfl own_d29_398 rfl (by decide) (W := 0) rfl (by decide) (by decide) (by decide) fun T645 h647 v648 ms649 w646 q650 => ?_
    obtain ⟨rfl, rfl, rfl⟩ := q650
    show own_Go Z EL n0 p e below s _ _ _ (T645.setTop (mkF m 401 _ [(.ref a582)]))
    refine own_aload (pc' := 403) w646 own_d29_401 rfl rfl rfl ?_
    refine own_acmp (pc' := 406) w646 rfl rfl own_d29_403 rfl (by decide) (pcY := 410) rfl (fun (hb403 : ¬ ((.ref a582) : Value) = (.ref a582)) => absurd rfl hb403) (fun (hb403 : ((.ref a582) : Value) = (.ref a582)) => ?_)
    refine own_iconst (pc' := 407) w646 own_d29_406 (x := (1 : Int32)) rfl rfl ?_
    refine own_goto w646 own_d29_407 (by decide) (pc' := 411) rfl ?_
    exact own_retV w646 (t := .boolean) rfl rfl (Or.inl ⟨rfl, by simp, _, rfl⟩) own_d29_411 (by decide) (by decide) (ms' := []) all0 ⟨K, rfl, rfl⟩
   ·
    exact absurd rfl hcs7
  ·
   exact absurd rfl hcs6
set_option maxRecDepth 65536 in
set_option maxHeartbeats 40000000 in
theorem comes_1 {Post : Tables → Env → Array Value → State → Outcome → State → Prop} (hpost : ∀ tb e args s v u, (limb_1_1.after args s (.returned v) u = true ∧ limb_1_2.after args s (.returned v) u = true ∧ True) → ReturnedEndW s (.returned v) u (Jvm.fieldLocs frame_1_writes args s ++ Jvm.arrayLocs frame_1_arrays args s ++ Jvm.staticLocs frame_1_statics s) 48 5376 → Post tb e args s (.returned v) u) :
    ArmFor flags0 classFile x code maxLocals ret World_1 tables_1 room_1 Calls_1 rest_1 Pre_1 Post := by
  intro l hfl _ _ p e ha hc hk s m args below hf hA hF happ hP
  obtain ⟨hcalls, hrest, hpre⟩ := hP
  obtain ⟨-, -, -, hnamed, -, -, -, hat⟩ := (Spec.applies_iff hf).mp happ
  obtain ⟨hg, hn⟩ := and_e (Cond.before_iff.mp (show (Jvm.Cond.and given_1 narrow_1).before args s = true from hpre))
  obtain ⟨hct, hg⟩ := and_e hg
  obtain ⟨w0, w1, w2, w3, w4, rfl⟩ : ∃ w0 w1 w2 w3 w4 : Value, args = #[w0, w1, w2, w3, w4] := by
    have hs : args.size = 5 := by simpa [Cond.value, given_1] using hct
    obtain ⟨L⟩ := args
    match L, hs with
    | [w0, w1, w2, w3, w4], _ => exact ⟨w0, w1, w2, w3, w4, rfl⟩
  have hw := fun d (hd : d ∈ tables_1) => atoms_spec (ws := Jvm.Cond.code x code maxLocals ret :: tables_1) hat d (List.mem_cons_of_mem _ hd)
  have hfit : Fit s := fun {y c} hc i hi => by
    obtain ⟨ha, rfl⟩ := Array.getElem?_eq_some_iff.mp hc
    have q := List.all_eq_true.mp ((Array.all_eq_true_iff_forall_mem.mp hF) _ (Array.getElem_mem ha)) i (List.mem_range.mpr hi)
    simpa [Array.getElem?_eq_getElem hi] using q
  obtain ⟨hg0, hg⟩ := and_e hg
  obtain ⟨i0, e0⟩ := is_v hg0
  obtain rfl : w0 = (.int i0) := Option.some.inj e0
  obtain ⟨hg1, hg⟩ := and_e hg
  obtain ⟨i1, e1⟩ := is_v hg1
  obtain rfl : w1 = (.int i1) := Option.some.inj e1
  obtain ⟨hg2, hg⟩ := and_e hg
  obtain ⟨i2, e2⟩ := is_v hg2
  obtain rfl : w2 = (.int i2) := Option.some.inj e2
  obtain ⟨hg3, hg⟩ := and_e hg
  obtain ⟨i3, e3⟩ := is_v hg3
  obtain rfl : w3 = (.int i3) := Option.some.inj e3
  obtain ⟨i4, e4⟩ := is_v hg
  obtain rfl : w4 = (.int i4) := Option.some.inj e4
  obtain ⟨hsets, hown0⟩ := atoms_of _ (rest_1_c_eq ▸ (show rest_1_c.before _ s = true from hrest))
  have n3 := not_v (Cond.before_iff.mp (hsets _ (List.mem_of_getElem? (i := 2) rfl)))
  obtain ⟨z5, e6⟩ := is_v (Cond.before_iff.mp (hsets _ (List.mem_of_getElem? (i := 1) rfl)))
  have S8c : Sta s s.heap "java/lang/String" "COMPACT_STRINGS" "Z" (.int z5) := Sta.start e6 (Or.inl (hsets _ (List.mem_of_getElem? (i := 0) rfl)))
  have P5 : ¬ (z5 = (0 : Int32)) := gotF (Cond.eq_ints e6 (Term.int_eval (0))) n3
  have hE : EW s _ ([("com/example/vidura/vidura/WritingForm", 24), ("com/example/vidura/vidura/WritingForm", 28), ("com/example/vidura/vidura/WritingFormWritePinLaw", 7), ("com/example/vidura/vidura/WritingFormWritePinLaw", 9), ("com/example/vidura/vidura/WritingFormWritePinLaw", 27)] : List (String × Nat)) := (EW.cons (own_w56 hw) (by decide +kernel) (EW.cons (own_w57 hw) (by decide +kernel) (EW.cons (own_w0 hw) (by decide +kernel) (EW.cons (own_w8 hw) (by decide +kernel) (EW.cons (own_w185 hw) (by decide +kernel) EW.nil)))))
  have hC : CHv s ([("com/example/vidura/vidura/WritingForm", 24), ("com/example/vidura/vidura/WritingForm", 28), ("com/example/vidura/vidura/WritingFormWritePinLaw", 7), ("com/example/vidura/vidura/WritingFormWritePinLaw", 9), ("com/example/vidura/vidura/WritingFormWritePinLaw", 27)] : List (String × Nat)) s.vm s.heap := CHv.start hE (fun p hp => hcalls.1 p hp) (hsets _ (List.mem_of_getElem? (i := 2) rfl)) (own_w3 hw) (own_w2 hw)
  obtain ⟨n, o, h1, h2, h3, _, L, ms, rfl, q, N, -, -, -, hq⟩ := own_ct_law l s _ hw _ hE s.heap.size tables_1 s.heap (Old.start s) i0 i1 i2 i3 i4 z5 S8c P5 (by decide) (by decide) (by decide) (by decide) (by decide) p e ha hc hk s m _ below hf ((Spec.applies_iff_loose hf).mp happ).1 ⟨rfl, State.Warmed39.refl s, rfl, hC, fun _ q => nomatch q⟩ trivial
  obtain ⟨-, -, rfl⟩ := q
  refine ⟨n, _, h1, h2, h3, hpost _ _ _ _ _ _ ⟨Cond.after_iff.mpr rfl, Cond.after_iff.mpr (eq_i res_at (Term.int_eval (1)) rfl), trivial⟩ ⟨hq.1, hq.2.1, hq.2.2.1, (hq.2.2.2.sift fun y hy => Or.inr (N y hy)).mono (by decide) (by decide)⟩⟩
theorem main_1_1 : Claimed_1_1 := comes_1 fun _ _ _ _ _ _ h hF => ⟨h.1, hF⟩
theorem main_1_2 : Claimed_1_2 := comes_1 fun _ _ _ _ _ _ h hF => ⟨h.2.1, hF⟩
end Jvm.Pilot.@@N@@
namespace Jvm.Pilot.@@N@@
open Jvm Jvm.ClassFile Sem Op Lib Jvm.Free Jvm.Stand Jvm.Pilot.@@N@@.Jvm.D
/-! MADE BY PROGRAM (witnessworld.py) out of the Statement's table words and the real class files: 26 classes; the members and pool entries that the words name. The judged class is class 1, her method 1. -/
namespace start1
open Jvm.ClassFile
def u (s : String) : CpInfo := .utf8 (stringToUtf16 s)
/-- a pool by its gaps: so many unusable entries, then the entry; so many at the end -/
def gap : Nat → List CpInfo → List CpInfo
  | 0, r => r
  | n + 1, r => .unusable :: gap n r
def poolList (es : List (Nat × CpInfo)) (last : Nat) : List CpInfo := es.foldr (fun e r => gap e.1 (e.2 :: r)) (gap last [])
def pool (es : List (Nat × CpInfo)) (last : Nat) : Array CpInfo := ⟨poolList es last⟩
def fileOf (pool : Array CpInfo) (this : Nat) (attrs : Array Attribute := #[]) (ms : Array MethodInfo := #[]) (fl : Nat := 33) (sup : Nat := 0) (ifs : Array Nat := #[]) (fds : Array FieldInfo := #[]) : ClassFile where
  minorVersion := 0
  majorVersion := 65
  constantPool := pool
  accessFlags := fl
  thisClass := this
  superClass := sup
  interfaces := ifs
  fields := fds
  methods := ms
  attributes := attrs
def plain (name : String) (sup : Option ClassId) : Class where
  name := name
  kind := .ordinary
  loader := none
  accessFlags := 33
  super := sup
  interfaces := #[]
  cf := none
  fields := #[]
  methods := #[]
  instanceTypes := #[]
  staticTypes := #[]
  resolved := #[]
  callSites := []
  init := .initialized
  statics := none
  mirror := none

def pool0 : Array CpInfo := pool [(5, u "<init>"), (0, u "()V"), (1, .class_ 10), (1, u "java/lang/Object")] 113

def k0c0 : Code := { maxStack := 0, maxLocals := 1, code := object_method_1_code, exceptionTable := #[], attributes := #[] }
def k0m0 : Method := { name := "<init>", desc := "()V", sig := { parameters := [], returnType := none }, accessFlags := 1, code := some k0c0 }
/-- java/lang/Object -/
def k0 : Class := { plain "java/lang/Object" none with
  accessFlags := 33
  interfaces := #[]
  cf := some (fileOf pool0 8 #[] #[{ accessFlags := 1, nameIndex := 5, descriptorIndex := 6, attributes := #[] }] 33 0 #[] #[])
  fields := #[]
  methods := #[k0m0]
  instanceTypes := #[]
  staticTypes := #[]
  resolved := Array.replicate 124 none
  statics := none }

def pool1 : Array CpInfo := pool [(2, .class_ 4), (1, u "java/lang/Object"), (0, u "<init>"), (0, u "()V"), (0, .string 8), (0, u ""), (0, .string 10), (0, u "/write"), (0, .class_ 12), (0, u "java/lang/String"), (0, .methodref 11 14), (0, .nameAndType 5 15), (0, u "([C)V"), (0, .class_ 17), (0, u "com/example/vidura/vidura/Mailbox"), (0, .methodref 16 19), (0, .nameAndType 5 20), (0, u "(Ljava/lang/String;Ljava/lang/String;)V"), (0, .methodref 22 23), (0, .class_ 24), (0, .nameAndType 25 26), (0, u "com/example/vidura/vidura/WritingForm"), (0, u "write"), (0, u "(Lcom/example/vidura/vidura/Mailbox;)Lcom/example/vidura/vidura/WritingForm;"), (0, .string 28), (0, u "Write"), (0, .methodref 22 30), (0, .nameAndType 31 32), (0, u "page"), (0, u "()Ljava/lang/String;"), (0, .methodref 11 34), (0, .nameAndType 35 36), (0, u "equals"), (0, u "(Ljava/lang/Object;)Z"), (0, .methodref 22 38), (0, .nameAndType 39 32), (0, u "action"), (0, .methodref 22 41), (0, .nameAndType 42 43), (0, u "fixedRecipient"), (0, u "()Z"), (0, .methodref 22 45), (0, .nameAndType 46 47), (0, u "from"), (0, u "()Lcom/example/vidura/vidura/Mailbox;"), (0, .class_ 49), (0, u "com/example/vidura/vidura/WritingFormWritePinLaw"), (2, u "law"), (0, u "(IIIII)Z")] 3

def k1m0 : Method := { name := "<init>", desc := "()V", sig := { parameters := [], returnType := none }, accessFlags := 1, code := none }
def k1c1 : Code := { maxStack := 6, maxLocals := 16, code := code, exceptionTable := #[], attributes := #[] }
def k1m1 : Method := { name := "law", desc := "(IIIII)Z", sig := { parameters := [.int, .int, .int, .int, .int], returnType := some .boolean }, accessFlags := 9, code := some k1c1 }
/-- com/example/vidura/vidura/WritingFormWritePinLaw -/
def k1 : Class := { plain "com/example/vidura/vidura/WritingFormWritePinLaw" (some 0) with
  accessFlags := 49
  interfaces := #[]
  cf := some (fileOf pool1 48 #[] #[{ accessFlags := 1, nameIndex := 5, descriptorIndex := 6, attributes := #[] }, { accessFlags := 9, nameIndex := 52, descriptorIndex := 53, attributes := #[] }] 49 2 #[] #[])
  fields := #[]
  methods := #[k1m0, k1m1]
  instanceTypes := #[]
  staticTypes := #[]
  resolved := Array.replicate 57 none
  statics := none }

def pool2 : Array CpInfo := pool [(1, .class_ 2), (0, u "java/io/Serializable"), (0, .class_ 4), (0, u "java/lang/Object")] 2

/-- java/io/Serializable -/
def k2 : Class := { plain "java/io/Serializable" (some 0) with
  accessFlags := 1537
  interfaces := #[]
  cf := some (fileOf pool2 1 #[] #[] 1537 3 #[] #[])
  fields := #[]
  methods := #[]
  instanceTypes := #[]
  staticTypes := #[]
  resolved := Array.replicate 7 none
  statics := none }

def pool3 : Array CpInfo := pool [(1, .class_ 2), (0, u "java/lang/Comparable"), (0, .class_ 4), (0, u "java/lang/Object")] 7

/-- java/lang/Comparable -/
def k3 : Class := { plain "java/lang/Comparable" (some 0) with
  accessFlags := 1537
  interfaces := #[]
  cf := some (fileOf pool3 1 #[] #[] 1537 3 #[] #[])
  fields := #[]
  methods := #[]
  instanceTypes := #[]
  staticTypes := #[]
  resolved := Array.replicate 12 none
  statics := none }

def pool4 : Array CpInfo := pool [(2, .class_ 4), (1, u "java/lang/CharSequence"), (42, .class_ 48), (0, u "java/lang/CharSequence$1CodePointIterator"), (10, .class_ 60), (0, u "java/lang/CharSequence$1CharIterator"), (5, .class_ 67), (0, u "java/lang/Object")] 63

/-- java/lang/CharSequence -/
def k4 : Class := { plain "java/lang/CharSequence" (some 0) with
  accessFlags := 1537
  interfaces := #[]
  cf := some (fileOf pool4 2 #[.nestMembers #[47, 59]] #[] 1537 66 #[] #[])
  fields := #[]
  methods := #[]
  instanceTypes := #[]
  staticTypes := #[]
  resolved := Array.replicate 131 none
  statics := none }

def pool5 : Array CpInfo := pool [(1, .class_ 2), (0, u "java/lang/constant/Constable"), (0, .class_ 4), (0, u "java/lang/Object")] 6

/-- java/lang/constant/Constable -/
def k5 : Class := { plain "java/lang/constant/Constable" (some 0) with
  accessFlags := 1537
  interfaces := #[]
  cf := some (fileOf pool5 1 #[] #[] 1537 3 #[] #[])
  fields := #[]
  methods := #[]
  instanceTypes := #[]
  staticTypes := #[]
  resolved := Array.replicate 11 none
  statics := none }

def pool6 : Array CpInfo := pool [(1, .class_ 2), (0, u "java/lang/constant/ConstantDesc"), (0, .class_ 4), (0, u "java/lang/Object")] 32

/-- java/lang/constant/ConstantDesc -/
def k6 : Class := { plain "java/lang/constant/ConstantDesc" (some 0) with
  accessFlags := 1537
  interfaces := #[]
  cf := some (fileOf pool6 1 #[] #[] 1537 3 #[] #[])
  fields := #[]
  methods := #[]
  instanceTypes := #[]
  staticTypes := #[]
  resolved := Array.replicate 37 none
  statics := none }

def pool7 : Array CpInfo := pool [(1, .methodref 2 3), (0, .class_ 4), (0, .nameAndType 5 6), (0, u "java/lang/Object"), (0, u "<init>"), (0, u "()V"), (2, .fieldref 10 11), (0, .class_ 12), (0, .nameAndType 13 14), (0, u "java/lang/String"), (0, u "value"), (0, u "[B"), (0, .fieldref 10 16), (0, .nameAndType 17 18), (0, u "coder"), (0, u "B"), (2, u "hash"), (0, u "I"), (2, u "hashIsZero"), (0, u "Z"), (0, .methodref 10 28), (0, .nameAndType 5 29), (0, u "([CIILjava/lang/Void;)V"), (8, .fieldref 10 39), (0, .nameAndType 40 26), (0, u "COMPACT_STRINGS"), (1, .class_ 44), (1, u "java/lang/StringUTF16"), (0, u "compress"), (1, .methodref 42 48), (0, .nameAndType 49 50), (0, u "coderFromArrayLen"), (0, u "([BI)B"), (3, .methodref 55 56), (0, .class_ 57), (0, .nameAndType 58 59), (0, u "java/util/Arrays"), (0, u "copyOfRange"), (0, u "([BII)[B"), (47, .class_ 109), (1, u "java/lang/StringLatin1"), (32, u "()Z"), (34, .methodref 42 178), (0, .nameAndType 45 179), (0, u "([CII)[B"), (13, .class_ 195), (1, u "java/lang/System"), (16, .methodref 193 213), (0, .nameAndType 214 215), (0, u "arraycopy"), (0, u "(Ljava/lang/Object;ILjava/lang/Object;II)V"), (118, u "()I"), (0, .methodref 10 336), (0, .nameAndType 17 337), (0, u "()B"), (2, u "()[B"), (148, .methodref 10 490), (0, .nameAndType 5 491), (0, u "(Ljava/lang/AbstractStringBuilder;Ljava/lang/Void;)V"), (1, .nameAndType 494 142), (0, u "isLatin1"), (11, .nameAndType 507 334), (0, u "length"), (24, u "getBytes"), (8, .methodref 107 542), (0, .nameAndType 543 544), (0, u "equals"), (0, u "([B[B)Z"), (4, .methodref 550 506), (0, .class_ 551), (0, u "java/lang/AbstractStringBuilder"), (0, .methodref 550 553), (0, .nameAndType 554 340), (0, u "getValue"), (18, u "(Ljava/lang/Object;)Z"), (1, .class_ 576), (0, u "java/lang/CharSequence"), (22, u "CASE_INSENSITIVE_ORDER"), (0, u "Ljava/util/Comparator;"), (220, u "([BIB)V"), (188, u "([C)V"), (36, .methodref 550 493), (53, u "serialPersistentFields"), (0, u "[Ljava/io/ObjectStreamField;"), (0, .class_ 1104), (0, u "java/lang/String$CaseInsensitiveComparator"), (1, .class_ 1107), (0, u "java/io/Serializable"), (0, .class_ 1109), (0, u "java/lang/Comparable"), (0, .class_ 1111), (0, u "java/lang/constant/Constable"), (0, .class_ 1113), (0, u "java/lang/constant/ConstantDesc"), (2, u "serialVersionUID"), (0, u "J"), (3, u "REPL"), (0, u "C"), (2, u "LATIN1"), (1, u "UTF16"), (105, u "(Ljava/lang/StringBuilder;)V")] 217

def k7m0 : Method := { name := "<init>", desc := "()V", sig := { parameters := [], returnType := none }, accessFlags := 1, code := none }
def k7c1 : Code := { maxStack := 5, maxLocals := 2, code := jdk_42_method_3_code, exceptionTable := #[], attributes := #[] }
def k7m1 : Method := { name := "<init>", desc := "([C)V", sig := { parameters := [(.array .char)], returnType := none }, accessFlags := 1, code := some k7c1 }
def k7c2 : Code := { maxStack := 3, maxLocals := 2, code := jdk_42_method_53_code, exceptionTable := #[], attributes := #[] }
def k7m2 : Method := { name := "<init>", desc := "(Ljava/lang/StringBuilder;)V", sig := { parameters := [(.object "java/lang/StringBuilder")], returnType := none }, accessFlags := 1, code := some k7c2 }
def k7c3 : Code := { maxStack := 2, maxLocals := 1, code := jdk_42_method_54_code, exceptionTable := #[], attributes := #[] }
def k7m3 : Method := { name := "length", desc := "()I", sig := { parameters := [], returnType := some .int }, accessFlags := 1, code := some k7c3 }
def k7c4 : Code := { maxStack := 2, maxLocals := 3, code := jdk_42_method_66_code, exceptionTable := #[], attributes := #[] }
def k7m4 : Method := { name := "equals", desc := "(Ljava/lang/Object;)Z", sig := { parameters := [(.object "java/lang/Object")], returnType := some .boolean }, accessFlags := 1, code := some k7c4 }
def k7c5 : Code := { maxStack := 5, maxLocals := 4, code := jdk_42_method_147_code, exceptionTable := #[], attributes := #[] }
def k7m5 : Method := { name := "getBytes", desc := "([BIB)V", sig := { parameters := [(.array .byte), .int, .byte], returnType := none }, accessFlags := 0, code := some k7c5 }
def k7c6 : Code := { maxStack := 4, maxLocals := 6, code := jdk_42_method_149_code, exceptionTable := #[], attributes := #[] }
def k7m6 : Method := { name := "<init>", desc := "([CIILjava/lang/Void;)V", sig := { parameters := [(.array .char), .int, .int, (.object "java/lang/Void")], returnType := none }, accessFlags := 2, code := some k7c6 }
def k7c7 : Code := { maxStack := 5, maxLocals := 5, code := jdk_42_method_150_code, exceptionTable := #[], attributes := #[] }
def k7m7 : Method := { name := "<init>", desc := "(Ljava/lang/AbstractStringBuilder;Ljava/lang/Void;)V", sig := { parameters := [(.object "java/lang/AbstractStringBuilder"), (.object "java/lang/Void")], returnType := none }, accessFlags := 0, code := some k7c7 }
def k7c8 : Code := { maxStack := 1, maxLocals := 1, code := jdk_42_method_152_code, exceptionTable := #[], attributes := #[] }
def k7m8 : Method := { name := "coder", desc := "()B", sig := { parameters := [], returnType := some .byte }, accessFlags := 0, code := some k7c8 }
/-- java/lang/String -/
def k7 : Class := { plain "java/lang/String" (some 0) with
  accessFlags := 49
  interfaces := #[2, 3, 4, 5, 6]
  cf := some (fileOf pool7 10 #[.nestMembers #[1103]] #[{ accessFlags := 1, nameIndex := 5, descriptorIndex := 6, attributes := #[] }, { accessFlags := 1, nameIndex := 5, descriptorIndex := 1010, attributes := #[] }, { accessFlags := 1, nameIndex := 5, descriptorIndex := 1233, attributes := #[] }, { accessFlags := 1, nameIndex := 507, descriptorIndex := 334, attributes := #[] }, { accessFlags := 1, nameIndex := 543, descriptorIndex := 573, attributes := #[] }, { accessFlags := 0, nameIndex := 532, descriptorIndex := 821, attributes := #[] }, { accessFlags := 2, nameIndex := 5, descriptorIndex := 29, attributes := #[] }, { accessFlags := 0, nameIndex := 5, descriptorIndex := 491, attributes := #[] }, { accessFlags := 0, nameIndex := 17, descriptorIndex := 337, attributes := #[] }] 49 2 #[1106, 1108, 575, 1110, 1112] #[{ accessFlags := 18, nameIndex := 13, descriptorIndex := 14, attributes := #[] }, { accessFlags := 18, nameIndex := 17, descriptorIndex := 18, attributes := #[] }, { accessFlags := 2, nameIndex := 21, descriptorIndex := 22, attributes := #[] }, { accessFlags := 2, nameIndex := 25, descriptorIndex := 26, attributes := #[] }, { accessFlags := 26, nameIndex := 1116, descriptorIndex := 1117, attributes := #[] }, { accessFlags := 24, nameIndex := 40, descriptorIndex := 26, attributes := #[] }, { accessFlags := 26, nameIndex := 1101, descriptorIndex := 1102, attributes := #[] }, { accessFlags := 26, nameIndex := 1121, descriptorIndex := 1122, attributes := #[] }, { accessFlags := 25, nameIndex := 599, descriptorIndex := 600, attributes := #[] }, { accessFlags := 24, nameIndex := 1125, descriptorIndex := 18, attributes := #[] }, { accessFlags := 24, nameIndex := 1127, descriptorIndex := 18, attributes := #[] }])
  fields := #[{ name := "value", type := (.array .byte), accessFlags := 18, slot := 0, constantValue := 0 }, { name := "coder", type := .byte, accessFlags := 18, slot := 1, constantValue := 0 }, { name := "hash", type := .int, accessFlags := 2, slot := 2, constantValue := 0 }, { name := "hashIsZero", type := .boolean, accessFlags := 2, slot := 3, constantValue := 0 }, { name := "serialVersionUID", type := .long, accessFlags := 26, slot := 0, constantValue := 0 }, { name := "COMPACT_STRINGS", type := .boolean, accessFlags := 24, slot := 1, constantValue := 0 }, { name := "serialPersistentFields", type := (.array (.object "java/io/ObjectStreamField")), accessFlags := 26, slot := 2, constantValue := 0 }, { name := "REPL", type := .char, accessFlags := 26, slot := 3, constantValue := 0 }, { name := "CASE_INSENSITIVE_ORDER", type := (.object "java/util/Comparator"), accessFlags := 25, slot := 4, constantValue := 0 }, { name := "LATIN1", type := .byte, accessFlags := 24, slot := 5, constantValue := 0 }, { name := "UTF16", type := .byte, accessFlags := 24, slot := 6, constantValue := 0 }]
  methods := #[k7m0, k7m1, k7m2, k7m3, k7m4, k7m5, k7m6, k7m7, k7m8]
  instanceTypes := #[(.array .byte), .byte, .int, .boolean]
  staticTypes := #[.long, .boolean, (.array (.object "java/io/ObjectStreamField")), .char, (.object "java/util/Comparator"), .byte, .byte]
  resolved := Array.replicate 1451 none
  statics := some 0 }

def pool8 : Array CpInfo := pool [(6, .class_ 8), (1, u "java/lang/Object"), (0, u "<init>"), (0, u "()V"), (1, .class_ 14), (1, u "java/lang/StringUTF16"), (31, u "$assertionsDisabled"), (0, u "Z"), (13, u "HI_BYTE_SHIFT"), (0, u "I"), (2, u "LO_BYTE_SHIFT"), (49, .methodref 12 116), (0, .nameAndType 117 118), (0, u "compress"), (0, u "([CI[BII)I"), (3, u "([CII)[B"), (138, u "coderFromArrayLen"), (0, u "([BI)B"), (106, .class_ 371), (1, u "java/lang/StringUTF16$LinesSpliterator"), (58, u "MAX_LENGTH"), (196, .class_ 628), (0, u "java/lang/StringUTF16$CodePointsSpliterator"), (0, .class_ 630), (0, u "java/lang/StringUTF16$CharsSpliterator")] 4

def k8m0 : Method := { name := "<init>", desc := "()V", sig := { parameters := [], returnType := none }, accessFlags := 0, code := none }
def k8c1 : Code := { maxStack := 2, maxLocals := 2, code := jdk_52_method_15_code, exceptionTable := #[], attributes := #[] }
def k8m1 : Method := { name := "coderFromArrayLen", desc := "([BI)B", sig := { parameters := [(.array .byte), .int], returnType := some .byte }, accessFlags := 8, code := some k8c1 }
def k8c2 : Code := { maxStack := 5, maxLocals := 6, code := jdk_52_method_16_code, exceptionTable := #[], attributes := #[] }
def k8m2 : Method := { name := "compress", desc := "([CII)[B", sig := { parameters := [(.array .char), .int, .int], returnType := some (.array .byte) }, accessFlags := 9, code := some k8c2 }
def k8c3 : Code := { maxStack := 3, maxLocals := 7, code := jdk_52_method_21_code, exceptionTable := #[], attributes := #[] }
def k8m3 : Method := { name := "compress", desc := "([CI[BII)I", sig := { parameters := [(.array .char), .int, (.array .byte), .int, .int], returnType := some .int }, accessFlags := 9, code := some k8c3 }
/-- java/lang/StringUTF16 -/
def k8 : Class := { plain "java/lang/StringUTF16" (some 0) with
  accessFlags := 48
  interfaces := #[]
  cf := some (fileOf pool8 12 #[.nestMembers #[627, 629, 369]] #[{ accessFlags := 0, nameIndex := 9, descriptorIndex := 10, attributes := #[] }, { accessFlags := 8, nameIndex := 261, descriptorIndex := 262, attributes := #[] }, { accessFlags := 9, nameIndex := 117, descriptorIndex := 122, attributes := #[] }, { accessFlags := 9, nameIndex := 117, descriptorIndex := 118, attributes := #[] }] 48 6 #[] #[{ accessFlags := 26, nameIndex := 61, descriptorIndex := 62, attributes := #[] }, { accessFlags := 26, nameIndex := 65, descriptorIndex := 62, attributes := #[] }, { accessFlags := 24, nameIndex := 430, descriptorIndex := 62, attributes := #[] }, { accessFlags := 4120, nameIndex := 46, descriptorIndex := 47, attributes := #[] }])
  fields := #[{ name := "HI_BYTE_SHIFT", type := .int, accessFlags := 26, slot := 0, constantValue := 0 }, { name := "LO_BYTE_SHIFT", type := .int, accessFlags := 26, slot := 1, constantValue := 0 }, { name := "MAX_LENGTH", type := .int, accessFlags := 24, slot := 2, constantValue := 0 }, { name := "$assertionsDisabled", type := .boolean, accessFlags := 4120, slot := 3, constantValue := 0 }]
  methods := #[k8m0, k8m1, k8m2, k8m3]
  instanceTypes := #[]
  staticTypes := #[.int, .int, .int, .boolean]
  resolved := Array.replicate 635 none
  statics := none }

def pool9 : Array CpInfo := pool [(1, .methodref 2 3), (0, .class_ 4), (0, .nameAndType 5 6), (0, u "java/lang/Object"), (0, u "<init>"), (0, u "()V"), (0, .class_ 8), (0, u "java/lang/Record")] 13

def k9c0 : Code := { maxStack := 1, maxLocals := 1, code := jdk_30_method_1_code, exceptionTable := #[], attributes := #[] }
def k9m0 : Method := { name := "<init>", desc := "()V", sig := { parameters := [], returnType := none }, accessFlags := 4, code := some k9c0 }
/-- java/lang/Record -/
def k9 : Class := { plain "java/lang/Record" (some 0) with
  accessFlags := 1057
  interfaces := #[]
  cf := some (fileOf pool9 7 #[] #[{ accessFlags := 4, nameIndex := 5, descriptorIndex := 6, attributes := #[] }] 1057 2 #[] #[])
  fields := #[]
  methods := #[k9m0]
  instanceTypes := #[]
  staticTypes := #[]
  resolved := Array.replicate 22 none
  statics := none }

def pool10 : Array CpInfo := pool [(1, .methodref 2 3), (0, .class_ 4), (0, .nameAndType 5 6), (0, u "java/lang/Record"), (0, u "<init>"), (0, u "()V"), (0, .fieldref 8 9), (0, .class_ 10), (0, .nameAndType 11 12), (0, u "com/example/vidura/vidura/Mailbox"), (0, u "address"), (0, u "Ljava/lang/String;"), (0, .fieldref 8 14), (0, .nameAndType 15 12), (0, u "home"), (4, u "()Ljava/lang/String;"), (4, u "(Ljava/lang/String;Ljava/lang/String;)V"), (3, .class_ 30), (0, u "java/lang/StringBuilder"), (0, .methodref 29 3), (2, .methodref 29 35), (0, .nameAndType 36 37), (0, u "append"), (0, u "(Ljava/lang/String;)Ljava/lang/StringBuilder;"), (7, .methodref 29 46), (0, .nameAndType 47 20), (0, u "toString"), (17, u "INBOX"), (3, u "SENT"), (2, u "WRITE"), (11, u "path"), (0, u "(Ljava/lang/String;)Ljava/lang/String;")] 23

def k10c0 : Code := { maxStack := 2, maxLocals := 3, code := prog_9_method_1_code, exceptionTable := #[], attributes := #[] }
def k10m0 : Method := { name := "<init>", desc := "(Ljava/lang/String;Ljava/lang/String;)V", sig := { parameters := [(.object "java/lang/String"), (.object "java/lang/String")], returnType := none }, accessFlags := 0, code := some k10c0 }
def k10c1 : Code := { maxStack := 2, maxLocals := 2, code := prog_9_method_5_code, exceptionTable := #[], attributes := #[] }
def k10m1 : Method := { name := "path", desc := "(Ljava/lang/String;)Ljava/lang/String;", sig := { parameters := [(.object "java/lang/String")], returnType := some (.object "java/lang/String") }, accessFlags := 0, code := some k10c1 }
/-- com/example/vidura/vidura/Mailbox -/
def k10 : Class := { plain "com/example/vidura/vidura/Mailbox" (some 9) with
  accessFlags := 48
  interfaces := #[]
  cf := some (fileOf pool10 8 #[] #[{ accessFlags := 0, nameIndex := 5, descriptorIndex := 25, attributes := #[] }, { accessFlags := 0, nameIndex := 84, descriptorIndex := 85, attributes := #[] }] 48 2 #[] #[{ accessFlags := 18, nameIndex := 11, descriptorIndex := 12, attributes := #[] }, { accessFlags := 18, nameIndex := 15, descriptorIndex := 12, attributes := #[] }, { accessFlags := 24, nameIndex := 65, descriptorIndex := 12, attributes := #[] }, { accessFlags := 24, nameIndex := 69, descriptorIndex := 12, attributes := #[] }, { accessFlags := 24, nameIndex := 72, descriptorIndex := 12, attributes := #[] }])
  fields := #[{ name := "address", type := (.object "java/lang/String"), accessFlags := 18, slot := 0, constantValue := 0 }, { name := "home", type := (.object "java/lang/String"), accessFlags := 18, slot := 1, constantValue := 0 }, { name := "INBOX", type := (.object "java/lang/String"), accessFlags := 24, slot := 0, constantValue := 0 }, { name := "SENT", type := (.object "java/lang/String"), accessFlags := 24, slot := 1, constantValue := 0 }, { name := "WRITE", type := (.object "java/lang/String"), accessFlags := 24, slot := 2, constantValue := 0 }]
  methods := #[k10m0, k10m1]
  instanceTypes := #[(.object "java/lang/String"), (.object "java/lang/String")]
  staticTypes := #[(.object "java/lang/String"), (.object "java/lang/String"), (.object "java/lang/String")]
  resolved := Array.replicate 109 none
  statics := none }

def pool11 : Array CpInfo := pool [(1, .methodref 2 3), (0, .class_ 4), (0, .nameAndType 5 6), (0, u "java/lang/Record"), (0, u "<init>"), (0, u "()V"), (0, .fieldref 8 9), (0, .class_ 10), (0, .nameAndType 11 12), (0, u "com/example/vidura/vidura/WritingForm"), (0, u "page"), (0, u "Ljava/lang/String;"), (0, .fieldref 8 14), (0, .nameAndType 15 12), (0, u "action"), (0, .fieldref 8 17), (0, .nameAndType 18 19), (0, u "fixedRecipient"), (0, u "Z"), (0, .fieldref 8 21), (0, .nameAndType 22 23), (0, u "from"), (0, u "Lcom/example/vidura/vidura/Mailbox;"), (0, .string 25), (0, u "Write"), (0, .class_ 27), (0, u "com/example/vidura/vidura/Mailbox"), (0, .string 29), (0, u "/write"), (0, .methodref 26 31), (0, .nameAndType 32 33), (0, u "path"), (0, u "(Ljava/lang/String;)Ljava/lang/String;"), (0, .methodref 8 35), (0, .nameAndType 5 36), (0, u "(Ljava/lang/String;Ljava/lang/String;ZLcom/example/vidura/vidura/Mailbox;)V"), (19, u "()Ljava/lang/String;"), (18, u "write"), (0, u "(Lcom/example/vidura/vidura/Mailbox;)Lcom/example/vidura/vidura/WritingForm;"), (5, u "()Z"), (0, u "()Lcom/example/vidura/vidura/Mailbox;")] 23

def k11c0 : Code := { maxStack := 2, maxLocals := 5, code := prog_15_method_1_code, exceptionTable := #[], attributes := #[] }
def k11m0 : Method := { name := "<init>", desc := "(Ljava/lang/String;Ljava/lang/String;ZLcom/example/vidura/vidura/Mailbox;)V", sig := { parameters := [(.object "java/lang/String"), (.object "java/lang/String"), .boolean, (.object "com/example/vidura/vidura/Mailbox")], returnType := none }, accessFlags := 0, code := some k11c0 }
def k11c1 : Code := { maxStack := 6, maxLocals := 1, code := prog_15_method_2_code, exceptionTable := #[], attributes := #[] }
def k11m1 : Method := { name := "write", desc := "(Lcom/example/vidura/vidura/Mailbox;)Lcom/example/vidura/vidura/WritingForm;", sig := { parameters := [(.object "com/example/vidura/vidura/Mailbox")], returnType := some (.object "com/example/vidura/vidura/WritingForm") }, accessFlags := 8, code := some k11c1 }
def k11c2 : Code := { maxStack := 1, maxLocals := 1, code := prog_15_method_8_code, exceptionTable := #[], attributes := #[] }
def k11m2 : Method := { name := "page", desc := "()Ljava/lang/String;", sig := { parameters := [], returnType := some (.object "java/lang/String") }, accessFlags := 1, code := some k11c2 }
def k11c3 : Code := { maxStack := 1, maxLocals := 1, code := prog_15_method_9_code, exceptionTable := #[], attributes := #[] }
def k11m3 : Method := { name := "action", desc := "()Ljava/lang/String;", sig := { parameters := [], returnType := some (.object "java/lang/String") }, accessFlags := 1, code := some k11c3 }
def k11c4 : Code := { maxStack := 1, maxLocals := 1, code := prog_15_method_10_code, exceptionTable := #[], attributes := #[] }
def k11m4 : Method := { name := "fixedRecipient", desc := "()Z", sig := { parameters := [], returnType := some .boolean }, accessFlags := 1, code := some k11c4 }
def k11c5 : Code := { maxStack := 1, maxLocals := 1, code := prog_15_method_11_code, exceptionTable := #[], attributes := #[] }
def k11m5 : Method := { name := "from", desc := "()Lcom/example/vidura/vidura/Mailbox;", sig := { parameters := [], returnType := some (.object "com/example/vidura/vidura/Mailbox") }, accessFlags := 1, code := some k11c5 }
/-- com/example/vidura/vidura/WritingForm -/
def k11 : Class := { plain "com/example/vidura/vidura/WritingForm" (some 9) with
  accessFlags := 48
  interfaces := #[]
  cf := some (fileOf pool11 8 #[] #[{ accessFlags := 0, nameIndex := 5, descriptorIndex := 36, attributes := #[] }, { accessFlags := 8, nameIndex := 75, descriptorIndex := 76, attributes := #[] }, { accessFlags := 1, nameIndex := 11, descriptorIndex := 56, attributes := #[] }, { accessFlags := 1, nameIndex := 15, descriptorIndex := 56, attributes := #[] }, { accessFlags := 1, nameIndex := 18, descriptorIndex := 82, attributes := #[] }, { accessFlags := 1, nameIndex := 22, descriptorIndex := 83, attributes := #[] }] 48 2 #[] #[{ accessFlags := 18, nameIndex := 11, descriptorIndex := 12, attributes := #[] }, { accessFlags := 18, nameIndex := 15, descriptorIndex := 12, attributes := #[] }, { accessFlags := 18, nameIndex := 18, descriptorIndex := 19, attributes := #[] }, { accessFlags := 18, nameIndex := 22, descriptorIndex := 23, attributes := #[] }])
  fields := #[{ name := "page", type := (.object "java/lang/String"), accessFlags := 18, slot := 0, constantValue := 0 }, { name := "action", type := (.object "java/lang/String"), accessFlags := 18, slot := 1, constantValue := 0 }, { name := "fixedRecipient", type := .boolean, accessFlags := 18, slot := 2, constantValue := 0 }, { name := "from", type := (.object "com/example/vidura/vidura/Mailbox"), accessFlags := 18, slot := 3, constantValue := 0 }]
  methods := #[k11m0, k11m1, k11m2, k11m3, k11m4, k11m5]
  instanceTypes := #[(.object "java/lang/String"), (.object "java/lang/String"), .boolean, (.object "com/example/vidura/vidura/Mailbox")]
  staticTypes := #[]
  resolved := Array.replicate 107 none
  statics := none }

def pool12 : Array CpInfo := pool [(1, .class_ 2), (0, u "java/lang/Appendable"), (0, .class_ 4), (0, u "java/lang/Object")] 9

/-- java/lang/Appendable -/
def k12 : Class := { plain "java/lang/Appendable" (some 0) with
  accessFlags := 1537
  interfaces := #[]
  cf := some (fileOf pool12 1 #[] #[] 1537 3 #[] #[])
  fields := #[]
  methods := #[]
  instanceTypes := #[]
  staticTypes := #[]
  resolved := Array.replicate 14 none
  statics := none }

def pool13 : Array CpInfo := pool [(1, .class_ 2), (0, u "java/lang/String"), (0, .methodref 4 5), (0, .class_ 6), (0, .nameAndType 7 8), (0, u "java/lang/Object"), (0, u "<init>"), (0, u "()V"), (1, .class_ 12), (1, u "java/lang/AbstractStringBuilder"), (0, u "EMPTYVALUE"), (0, u "[B"), (0, .fieldref 10 16), (0, .nameAndType 17 14), (0, u "value"), (0, .fieldref 1 19), (0, .nameAndType 20 21), (0, u "COMPACT_STRINGS"), (0, u "Z"), (0, .fieldref 10 23), (0, .nameAndType 24 25), (0, u "coder"), (0, u "B"), (6, .methodref 1 33), (0, .nameAndType 34 35), (0, u "length"), (0, u "()I"), (4, .methodref 1 41), (0, .nameAndType 24 42), (0, u "()B"), (2, u "append"), (0, u "(Ljava/lang/String;)Ljava/lang/AbstractStringBuilder;"), (1, .class_ 49), (0, u "java/lang/CharSequence"), (19, u "(Ljava/lang/String;)V"), (5, u "maybeLatin1"), (3, .fieldref 10 80), (0, .nameAndType 81 82), (0, u "count"), (0, u "I"), (2, u "isLatin1"), (0, u "()Z"), (13, .methodref 10 101), (0, .nameAndType 102 103), (0, u "ensureCapacityInternal"), (0, u "(I)V"), (104, .methodref 10 209), (0, .nameAndType 210 211), (0, u "putStringAt"), (0, u "(ILjava/lang/String;)V"), (5, u "inflateIfNeededFor"), (2, .nameAndType 221 222), (0, u "getBytes"), (0, u "([BIB)V"), (174, .methodref 10 398), (0, .nameAndType 217 69), (0, .methodref 1 220), (3, u "()[B"), (40, .class_ 445), (0, u "java/lang/Appendable"), (106, u "getValue")] 56

def k13m0 : Method := { name := "<init>", desc := "()V", sig := { parameters := [], returnType := none }, accessFlags := 0, code := none }
def k13c1 : Code := { maxStack := 2, maxLocals := 2, code := jdk_68_method_2_code, exceptionTable := #[], attributes := #[] }
def k13m1 : Method := { name := "<init>", desc := "(I)V", sig := { parameters := [.int], returnType := none }, accessFlags := 0, code := some k13c1 }
def k13c2 : Code := { maxStack := 1, maxLocals := 1, code := jdk_68_method_6_code, exceptionTable := #[], attributes := #[] }
def k13m2 : Method := { name := "length", desc := "()I", sig := { parameters := [], returnType := some .int }, accessFlags := 1, code := some k13c2 }
def k13c3 : Code := { maxStack := 4, maxLocals := 3, code := jdk_68_method_9_code, exceptionTable := #[], attributes := #[] }
def k13m3 : Method := { name := "ensureCapacityInternal", desc := "(I)V", sig := { parameters := [.int], returnType := none }, accessFlags := 2, code := some k13c3 }
def k13c4 : Code := { maxStack := 3, maxLocals := 3, code := jdk_68_method_22_code, exceptionTable := #[], attributes := #[] }
def k13m4 : Method := { name := "append", desc := "(Ljava/lang/String;)Ljava/lang/AbstractStringBuilder;", sig := { parameters := [(.object "java/lang/String")], returnType := some (.object "java/lang/AbstractStringBuilder") }, accessFlags := 1, code := some k13c4 }
def k13c5 : Code := { maxStack := 1, maxLocals := 1, code := jdk_68_method_64_code, exceptionTable := #[], attributes := #[] }
def k13m5 : Method := { name := "getValue", desc := "()[B", sig := { parameters := [], returnType := some (.array .byte) }, accessFlags := 16, code := some k13c5 }
def k13c6 : Code := { maxStack := 1, maxLocals := 1, code := jdk_68_method_68_code, exceptionTable := #[], attributes := #[] }
def k13m6 : Method := { name := "isLatin1", desc := "()Z", sig := { parameters := [], returnType := some .boolean }, accessFlags := 16, code := some k13c6 }
def k13c7 : Code := { maxStack := 2, maxLocals := 2, code := jdk_68_method_71_code, exceptionTable := #[], attributes := #[] }
def k13m7 : Method := { name := "inflateIfNeededFor", desc := "(Ljava/lang/String;)V", sig := { parameters := [(.object "java/lang/String")], returnType := none }, accessFlags := 2, code := some k13c7 }
def k13c8 : Code := { maxStack := 4, maxLocals := 3, code := jdk_68_method_73_code, exceptionTable := #[], attributes := #[] }
def k13m8 : Method := { name := "putStringAt", desc := "(ILjava/lang/String;)V", sig := { parameters := [.int, (.object "java/lang/String")], returnType := none }, accessFlags := 2, code := some k13c8 }
/-- java/lang/AbstractStringBuilder -/
def k13 : Class := { plain "java/lang/AbstractStringBuilder" (some 0) with
  accessFlags := 1056
  interfaces := #[12, 4]
  cf := some (fileOf pool13 10 #[] #[{ accessFlags := 0, nameIndex := 7, descriptorIndex := 8, attributes := #[] }, { accessFlags := 0, nameIndex := 7, descriptorIndex := 103, attributes := #[] }, { accessFlags := 1, nameIndex := 34, descriptorIndex := 35, attributes := #[] }, { accessFlags := 2, nameIndex := 102, descriptorIndex := 103, attributes := #[] }, { accessFlags := 1, nameIndex := 45, descriptorIndex := 46, attributes := #[] }, { accessFlags := 16, nameIndex := 552, descriptorIndex := 403, attributes := #[] }, { accessFlags := 16, nameIndex := 85, descriptorIndex := 86, attributes := #[] }, { accessFlags := 2, nameIndex := 217, descriptorIndex := 69, attributes := #[] }, { accessFlags := 2, nameIndex := 210, descriptorIndex := 211, attributes := #[] }] 1056 4 #[444, 48] #[{ accessFlags := 0, nameIndex := 17, descriptorIndex := 14, attributes := #[] }, { accessFlags := 0, nameIndex := 24, descriptorIndex := 25, attributes := #[] }, { accessFlags := 0, nameIndex := 75, descriptorIndex := 21, attributes := #[] }, { accessFlags := 0, nameIndex := 81, descriptorIndex := 82, attributes := #[] }, { accessFlags := 26, nameIndex := 13, descriptorIndex := 14, attributes := #[] }])
  fields := #[{ name := "value", type := (.array .byte), accessFlags := 0, slot := 0, constantValue := 0 }, { name := "coder", type := .byte, accessFlags := 0, slot := 1, constantValue := 0 }, { name := "maybeLatin1", type := .boolean, accessFlags := 0, slot := 2, constantValue := 0 }, { name := "count", type := .int, accessFlags := 0, slot := 3, constantValue := 0 }, { name := "EMPTYVALUE", type := (.array .byte), accessFlags := 26, slot := 0, constantValue := 0 }]
  methods := #[k13m0, k13m1, k13m2, k13m3, k13m4, k13m5, k13m6, k13m7, k13m8]
  instanceTypes := #[(.array .byte), .byte, .boolean, .int]
  staticTypes := #[(.array .byte)]
  resolved := Array.replicate 609 none
  statics := none }

def pool14 : Array CpInfo := pool [(1, .methodref 2 3), (0, .class_ 4), (0, .nameAndType 5 6), (0, u "java/lang/AbstractStringBuilder"), (0, u "<init>"), (0, u "(I)V"), (11, .class_ 20), (1, u "java/lang/String"), (3, .class_ 26), (1, u "java/lang/StringBuilder"), (0, u "append"), (0, u "(Ljava/lang/String;)Ljava/lang/StringBuilder;"), (0, .methodref 2 30), (0, .nameAndType 27 31), (0, u "(Ljava/lang/String;)Ljava/lang/AbstractStringBuilder;"), (105, .methodref 18 138), (0, .nameAndType 5 139), (0, u "(Ljava/lang/StringBuilder;)V"), (5, u "()V"), (10, u "()I"), (186, .methodref 2 344), (0, .nameAndType 345 156), (0, u "length"), (3, .class_ 350), (0, u "java/lang/Appendable"), (0, .class_ 352), (0, u "java/io/Serializable"), (0, .class_ 354), (0, u "java/lang/Comparable"), (0, .class_ 356), (0, u "java/lang/CharSequence"), (0, u "serialVersionUID"), (0, u "J"), (40, u "toString"), (0, u "()Ljava/lang/String;")] 21

def k14c0 : Code := { maxStack := 2, maxLocals := 1, code := jdk_67_method_1_code, exceptionTable := #[], attributes := #[] }
def k14m0 : Method := { name := "<init>", desc := "()V", sig := { parameters := [], returnType := none }, accessFlags := 1, code := some k14c0 }
def k14c1 : Code := { maxStack := 2, maxLocals := 2, code := jdk_67_method_7_code, exceptionTable := #[], attributes := #[] }
def k14m1 : Method := { name := "append", desc := "(Ljava/lang/String;)Ljava/lang/StringBuilder;", sig := { parameters := [(.object "java/lang/String")], returnType := some (.object "java/lang/StringBuilder") }, accessFlags := 1, code := some k14c1 }
def k14c2 : Code := { maxStack := 3, maxLocals := 1, code := jdk_67_method_42_code, exceptionTable := #[], attributes := #[] }
def k14m2 : Method := { name := "toString", desc := "()Ljava/lang/String;", sig := { parameters := [], returnType := some (.object "java/lang/String") }, accessFlags := 1, code := some k14c2 }
def k14c3 : Code := { maxStack := 1, maxLocals := 1, code := jdk_67_method_93_code, exceptionTable := #[], attributes := #[] }
def k14m3 : Method := { name := "length", desc := "()I", sig := { parameters := [], returnType := some .int }, accessFlags := 4161, code := some k14c3 }
/-- java/lang/StringBuilder -/
def k14 : Class := { plain "java/lang/StringBuilder" (some 13) with
  accessFlags := 49
  interfaces := #[12, 2, 3, 4]
  cf := some (fileOf pool14 24 #[] #[{ accessFlags := 1, nameIndex := 5, descriptorIndex := 145, attributes := #[] }, { accessFlags := 1, nameIndex := 27, descriptorIndex := 28, attributes := #[] }, { accessFlags := 1, nameIndex := 399, descriptorIndex := 400, attributes := #[] }, { accessFlags := 4161, nameIndex := 345, descriptorIndex := 156, attributes := #[] }] 49 2 #[349, 351, 353, 355] #[{ accessFlags := 24, nameIndex := 357, descriptorIndex := 358, attributes := #[] }])
  fields := #[{ name := "serialVersionUID", type := .long, accessFlags := 24, slot := 0, constantValue := 0 }]
  methods := #[k14m0, k14m1, k14m2, k14m3]
  instanceTypes := #[(.array .byte), .byte, .boolean, .int]
  staticTypes := #[.long]
  resolved := Array.replicate 422 none
  statics := none }

def pool15 : Array CpInfo := pool [(2, .class_ 4), (1, u "java/lang/Object"), (0, u "<init>"), (0, u "()V"), (1, .class_ 10), (1, u "java/lang/System"), (0, u "allowSecurityManager"), (0, u "I"), (16, u "cons"), (0, u "Ljava/io/Console;"), (77, .class_ 110), (1, u "java/lang/System$CallersHolder"), (43, u "initialErrStream"), (0, u "Ljava/io/PrintStream;"), (19, u "security"), (0, u "Ljava/lang/SecurityManager;"), (31, .class_ 209), (0, u "java/lang/System$1"), (7, u "props"), (0, u "Ljava/util/Properties;"), (2, u "lineSeparator"), (0, u "Ljava/lang/String;"), (96, .class_ 321), (1, u "java/lang/System$LoggerFinder"), (5, .class_ 328), (0, u "java/lang/System$Logger"), (67, u "err"), (2, u "out"), (91, u "notSupportedJnuEncoding"), (15, u "in"), (17, u "initialIn"), (0, u "Ljava/io/InputStream;"), (35, u "bootLayer"), (0, u "Ljava/lang/ModuleLayer;"), (99, .class_ 664), (0, u "java/lang/System$2"), (9, u "NEVER"), (2, u "MAYBE"), (49, u "arraycopy"), (0, u "(Ljava/lang/Object;ILjava/lang/Object;II)V"), (72, .class_ 802), (0, u "java/lang/System$Logger$Level")] 31

def k15m0 : Method := { name := "<init>", desc := "()V", sig := { parameters := [], returnType := none }, accessFlags := 2, code := none }
def k15m1 : Method := { name := "arraycopy", desc := "(Ljava/lang/Object;ILjava/lang/Object;II)V", sig := { parameters := [(.object "java/lang/Object"), .int, (.object "java/lang/Object"), .int, .int], returnType := none }, accessFlags := 265, code := none }
/-- java/lang/System -/
def k15 : Class := { plain "java/lang/System" (some 0) with
  accessFlags := 49
  interfaces := #[]
  cf := some (fileOf pool15 8 #[.nestMembers #[319, 327, 801, 108, 663, 208]] #[{ accessFlags := 2, nameIndex := 5, descriptorIndex := 6, attributes := #[] }, { accessFlags := 265, nameIndex := 727, descriptorIndex := 728, attributes := #[] }] 49 2 #[] #[{ accessFlags := 25, nameIndex := 507, descriptorIndex := 526, attributes := #[] }, { accessFlags := 25, nameIndex := 399, descriptorIndex := 155, attributes := #[] }, { accessFlags := 25, nameIndex := 396, descriptorIndex := 155, attributes := #[] }, { accessFlags := 10, nameIndex := 525, descriptorIndex := 526, attributes := #[] }, { accessFlags := 26, nameIndex := 674, descriptorIndex := 12, attributes := #[] }, { accessFlags := 26, nameIndex := 677, descriptorIndex := 12, attributes := #[] }, { accessFlags := 10, nameIndex := 11, descriptorIndex := 12, attributes := #[] }, { accessFlags := 74, nameIndex := 175, descriptorIndex := 176, attributes := #[] }, { accessFlags := 10, nameIndex := 491, descriptorIndex := 222, attributes := #[] }, { accessFlags := 74, nameIndex := 29, descriptorIndex := 30, attributes := #[] }, { accessFlags := 74, nameIndex := 154, descriptorIndex := 155, attributes := #[] }, { accessFlags := 10, nameIndex := 217, descriptorIndex := 218, attributes := #[] }, { accessFlags := 10, nameIndex := 221, descriptorIndex := 222, attributes := #[] }, { accessFlags := 8, nameIndex := 562, descriptorIndex := 563, attributes := #[] }])
  fields := #[{ name := "in", type := (.object "java/io/InputStream"), accessFlags := 25, slot := 0, constantValue := 0 }, { name := "out", type := (.object "java/io/PrintStream"), accessFlags := 25, slot := 1, constantValue := 0 }, { name := "err", type := (.object "java/io/PrintStream"), accessFlags := 25, slot := 2, constantValue := 0 }, { name := "initialIn", type := (.object "java/io/InputStream"), accessFlags := 10, slot := 3, constantValue := 0 }, { name := "NEVER", type := .int, accessFlags := 26, slot := 4, constantValue := 0 }, { name := "MAYBE", type := .int, accessFlags := 26, slot := 5, constantValue := 0 }, { name := "allowSecurityManager", type := .int, accessFlags := 10, slot := 6, constantValue := 0 }, { name := "security", type := (.object "java/lang/SecurityManager"), accessFlags := 74, slot := 7, constantValue := 0 }, { name := "notSupportedJnuEncoding", type := (.object "java/lang/String"), accessFlags := 10, slot := 8, constantValue := 0 }, { name := "cons", type := (.object "java/io/Console"), accessFlags := 74, slot := 9, constantValue := 0 }, { name := "initialErrStream", type := (.object "java/io/PrintStream"), accessFlags := 74, slot := 10, constantValue := 0 }, { name := "props", type := (.object "java/util/Properties"), accessFlags := 10, slot := 11, constantValue := 0 }, { name := "lineSeparator", type := (.object "java/lang/String"), accessFlags := 10, slot := 12, constantValue := 0 }, { name := "bootLayer", type := (.object "java/lang/ModuleLayer"), accessFlags := 8, slot := 13, constantValue := 0 }]
  methods := #[k15m0, k15m1]
  instanceTypes := #[]
  staticTypes := #[(.object "java/io/InputStream"), (.object "java/io/PrintStream"), (.object "java/io/PrintStream"), (.object "java/io/InputStream"), .int, .int, .int, (.object "java/lang/SecurityManager"), (.object "java/lang/String"), (.object "java/io/Console"), (.object "java/io/PrintStream"), (.object "java/util/Properties"), (.object "java/lang/String"), (.object "java/lang/ModuleLayer")]
  resolved := Array.replicate 834 none
  statics := none }

def pool16 : Array CpInfo := pool [(2, .class_ 4), (1, u "java/lang/Object"), (0, u "<init>"), (0, u "()V"), (7, .class_ 16), (1, u "java/util/Arrays"), (57, .class_ 76), (1, u "java/util/Arrays$NaturalOrder"), (36, .class_ 115), (1, u "java/util/Arrays$LegacyMergeSort"), (1, u "Z"), (21, u "copyOfRange"), (10, .methodref 151 152), (0, .class_ 153), (0, .nameAndType 154 155), (0, u "java/lang/System"), (0, u "arraycopy"), (0, u "(Ljava/lang/Object;ILjava/lang/Object;II)V"), (148, .methodref 305 306), (0, .class_ 307), (0, .nameAndType 308 309), (0, u "java/lang/Math"), (0, u "min"), (0, u "(II)I"), (29, .methodref 14 340), (0, .nameAndType 341 342), (0, u "copyOfRangeByte"), (0, u "([BII)[B"), (0, .methodref 14 344), (0, .nameAndType 345 346), (0, u "checkLength"), (0, u "(II)V"), (28, .class_ 376), (0, u "java/util/Arrays$ArrayList"), (68, u "$assertionsDisabled"), (269, u "MIN_ARRAY_SORT_GRAN"), (0, u "I"), (2, u "INSERTIONSORT_THRESHOLD"), (255, .class_ 976), (0, u "java/util/Arrays$ArrayItr")] 52

def k16m0 : Method := { name := "<init>", desc := "()V", sig := { parameters := [], returnType := none }, accessFlags := 2, code := none }
def k16c1 : Code := { maxStack := 4, maxLocals := 2, code := jdk_65_method_131_code, exceptionTable := #[], attributes := #[] }
def k16m1 : Method := { name := "checkLength", desc := "(II)V", sig := { parameters := [.int, .int], returnType := none }, accessFlags := 10, code := some k16c1 }
def k16c2 : Code := { maxStack := 3, maxLocals := 3, code := jdk_65_method_132_code, exceptionTable := #[], attributes := #[] }
def k16m2 : Method := { name := "copyOfRange", desc := "([BII)[B", sig := { parameters := [(.array .byte), .int, .int], returnType := some (.array .byte) }, accessFlags := 9, code := some k16c2 }
def k16c3 : Code := { maxStack := 6, maxLocals := 5, code := jdk_65_method_133_code, exceptionTable := #[], attributes := #[] }
def k16m3 : Method := { name := "copyOfRangeByte", desc := "([BII)[B", sig := { parameters := [(.array .byte), .int, .int], returnType := some (.array .byte) }, accessFlags := 10, code := some k16c3 }
/-- java/util/Arrays -/
def k16 : Class := { plain "java/util/Arrays" (some 0) with
  accessFlags := 49
  interfaces := #[]
  cf := some (fileOf pool16 14 #[.nestMembers #[975, 375, 113, 74]] #[{ accessFlags := 2, nameIndex := 5, descriptorIndex := 6, attributes := #[] }, { accessFlags := 10, nameIndex := 345, descriptorIndex := 346, attributes := #[] }, { accessFlags := 9, nameIndex := 139, descriptorIndex := 342, attributes := #[] }, { accessFlags := 10, nameIndex := 341, descriptorIndex := 342, attributes := #[] }] 49 2 #[] #[{ accessFlags := 26, nameIndex := 715, descriptorIndex := 716, attributes := #[] }, { accessFlags := 26, nameIndex := 719, descriptorIndex := 716, attributes := #[] }, { accessFlags := 4120, nameIndex := 445, descriptorIndex := 117, attributes := #[] }])
  fields := #[{ name := "MIN_ARRAY_SORT_GRAN", type := .int, accessFlags := 26, slot := 0, constantValue := 0 }, { name := "INSERTIONSORT_THRESHOLD", type := .int, accessFlags := 26, slot := 1, constantValue := 0 }, { name := "$assertionsDisabled", type := .boolean, accessFlags := 4120, slot := 2, constantValue := 0 }]
  methods := #[k16m0, k16m1, k16m2, k16m3]
  instanceTypes := #[]
  staticTypes := #[.int, .int, .boolean]
  resolved := Array.replicate 1029 none
  statics := none }

def pool17 : Array CpInfo := pool [(1, .class_ 2), (0, u "java/lang/Math"), (1, .class_ 6), (1, u "java/lang/Object"), (0, u "<init>"), (0, u "()V"), (89, .class_ 100), (1, u "java/lang/Math$RandomNumberGeneratorHolder"), (71, u "negativeZeroFloatBits"), (0, u "J"), (2, u "negativeZeroDoubleBits"), (24, u "min"), (43, u "$assertionsDisabled"), (0, u "Z"), (88, u "(II)I"), (2, u "twoToTheDoubleScaleDown"), (0, u "D"), (4, u "twoToTheDoubleScaleUp"), (9, u "E"), (3, u "PI"), (2, u "TAU"), (2, u "DEGREES_TO_RADIANS"), (0, u "RADIANS_TO_DEGREES")] 94

def k17m0 : Method := { name := "<init>", desc := "()V", sig := { parameters := [], returnType := none }, accessFlags := 2, code := none }
def k17c1 : Code := { maxStack := 2, maxLocals := 2, code := jdk_29_method_69_code, exceptionTable := #[], attributes := #[] }
def k17m1 : Method := { name := "min", desc := "(II)I", sig := { parameters := [.int, .int], returnType := some .int }, accessFlags := 9, code := some k17c1 }
/-- java/lang/Math -/
def k17 : Class := { plain "java/lang/Math" (some 0) with
  accessFlags := 49
  interfaces := #[]
  cf := some (fileOf pool17 1 #[.nestMembers #[98]] #[{ accessFlags := 2, nameIndex := 7, descriptorIndex := 8, attributes := #[] }, { accessFlags := 9, nameIndex := 201, descriptorIndex := 335, attributes := #[] }] 49 4 #[] #[{ accessFlags := 25, nameIndex := 354, descriptorIndex := 339, attributes := #[] }, { accessFlags := 25, nameIndex := 358, descriptorIndex := 339, attributes := #[] }, { accessFlags := 25, nameIndex := 361, descriptorIndex := 339, attributes := #[] }, { accessFlags := 26, nameIndex := 364, descriptorIndex := 339, attributes := #[] }, { accessFlags := 26, nameIndex := 365, descriptorIndex := 339, attributes := #[] }, { accessFlags := 26, nameIndex := 172, descriptorIndex := 173, attributes := #[] }, { accessFlags := 26, nameIndex := 176, descriptorIndex := 173, attributes := #[] }, { accessFlags := 8, nameIndex := 344, descriptorIndex := 339, attributes := #[] }, { accessFlags := 8, nameIndex := 338, descriptorIndex := 339, attributes := #[] }, { accessFlags := 4120, nameIndex := 245, descriptorIndex := 246, attributes := #[] }])
  fields := #[{ name := "E", type := .double, accessFlags := 25, slot := 0, constantValue := 0 }, { name := "PI", type := .double, accessFlags := 25, slot := 1, constantValue := 0 }, { name := "TAU", type := .double, accessFlags := 25, slot := 2, constantValue := 0 }, { name := "DEGREES_TO_RADIANS", type := .double, accessFlags := 26, slot := 3, constantValue := 0 }, { name := "RADIANS_TO_DEGREES", type := .double, accessFlags := 26, slot := 4, constantValue := 0 }, { name := "negativeZeroFloatBits", type := .long, accessFlags := 26, slot := 5, constantValue := 0 }, { name := "negativeZeroDoubleBits", type := .long, accessFlags := 26, slot := 6, constantValue := 0 }, { name := "twoToTheDoubleScaleUp", type := .double, accessFlags := 8, slot := 7, constantValue := 0 }, { name := "twoToTheDoubleScaleDown", type := .double, accessFlags := 8, slot := 8, constantValue := 0 }, { name := "$assertionsDisabled", type := .boolean, accessFlags := 4120, slot := 9, constantValue := 0 }]
  methods := #[k17m0, k17m1]
  instanceTypes := #[]
  staticTypes := #[.double, .double, .double, .double, .double, .long, .long, .double, .double, .boolean]
  resolved := Array.replicate 460 none
  statics := none }

def pool18 : Array CpInfo := pool [(4, .class_ 6), (1, u "java/lang/Object"), (0, u "<init>"), (0, u "()V"), (5, .class_ 16), (1, u "java/lang/StringLatin1"), (104, u "$assertionsDisabled"), (0, u "Z"), (98, .class_ 223), (1, u "java/lang/StringLatin1$LinesSpliterator"), (57, u "equals"), (0, u "([B[B)Z"), (107, .class_ 391), (0, u "java/lang/StringLatin1$CharsSpliterator")] 3

def k18m0 : Method := { name := "<init>", desc := "()V", sig := { parameters := [], returnType := none }, accessFlags := 0, code := none }
def k18c1 : Code := { maxStack := 3, maxLocals := 3, code := jdk_43_method_13_code, exceptionTable := #[], attributes := #[] }
def k18m1 : Method := { name := "equals", desc := "([B[B)Z", sig := { parameters := [(.array .byte), (.array .byte)], returnType := some .boolean }, accessFlags := 9, code := some k18c1 }
/-- java/lang/StringLatin1 -/
def k18 : Class := { plain "java/lang/StringLatin1" (some 0) with
  accessFlags := 48
  interfaces := #[]
  cf := some (fileOf pool18 14 #[.nestMembers #[390, 221]] #[{ accessFlags := 0, nameIndex := 7, descriptorIndex := 8, attributes := #[] }, { accessFlags := 9, nameIndex := 281, descriptorIndex := 282, attributes := #[] }] 48 4 #[] #[{ accessFlags := 4120, nameIndex := 121, descriptorIndex := 122, attributes := #[] }])
  fields := #[{ name := "$assertionsDisabled", type := .boolean, accessFlags := 4120, slot := 0, constantValue := 0 }]
  methods := #[k18m0, k18m1]
  instanceTypes := #[]
  staticTypes := #[.boolean]
  resolved := Array.replicate 395 none
  statics := none }

def pool19 : Array CpInfo := pool [(2, .class_ 4), (1, u "java/lang/Object"), (0, u "<init>"), (0, u "()V"), (17, .class_ 26), (1, u "jdk/internal/util/Preconditions"), (28, .class_ 56), (0, u "jdk/internal/util/Preconditions$4"), (57, .class_ 115), (0, u "jdk/internal/util/Preconditions$1"), (7, u "SIOOBE_FORMATTER"), (0, u "Ljava/util/function/BiFunction;"), (0, .class_ 126), (0, u "jdk/internal/util/Preconditions$2"), (3, u "AIOOBE_FORMATTER"), (0, .class_ 132), (0, u "jdk/internal/util/Preconditions$3"), (3, u "IOOBE_FORMATTER")] 57

def k19m0 : Method := { name := "<init>", desc := "()V", sig := { parameters := [], returnType := none }, accessFlags := 1, code := none }
/-- jdk/internal/util/Preconditions -/
def k19 : Class := { plain "jdk/internal/util/Preconditions" (some 0) with
  accessFlags := 33
  interfaces := #[]
  cf := some (fileOf pool19 24 #[.nestMembers #[55, 131, 125, 114]] #[{ accessFlags := 1, nameIndex := 5, descriptorIndex := 6, attributes := #[] }] 33 2 #[] #[{ accessFlags := 25, nameIndex := 123, descriptorIndex := 124, attributes := #[] }, { accessFlags := 25, nameIndex := 130, descriptorIndex := 124, attributes := #[] }, { accessFlags := 25, nameIndex := 136, descriptorIndex := 124, attributes := #[] }])
  fields := #[{ name := "SIOOBE_FORMATTER", type := (.object "java/util/function/BiFunction"), accessFlags := 25, slot := 0, constantValue := 0 }, { name := "AIOOBE_FORMATTER", type := (.object "java/util/function/BiFunction"), accessFlags := 25, slot := 1, constantValue := 0 }, { name := "IOOBE_FORMATTER", type := (.object "java/util/function/BiFunction"), accessFlags := 25, slot := 2, constantValue := 0 }]
  methods := #[k19m0]
  instanceTypes := #[]
  staticTypes := #[(.object "java/util/function/BiFunction"), (.object "java/util/function/BiFunction"), (.object "java/util/function/BiFunction")]
  resolved := Array.replicate 194 none
  statics := some 1 }

def pool20 : Array CpInfo := pool [(9, u "<init>"), (6, .class_ 18), (1, u "java/lang/Object"), (0, u "()V"), (1, .class_ 23), (1, u "jdk/internal/util/ArraysSupport"), (0, u "LOG2_ARRAY_LONG_INDEX_SCALE"), (0, u "I"), (2, u "U"), (0, u "Ljdk/internal/misc/Unsafe;"), (8, u "BIG_ENDIAN"), (0, u "Z"), (8, u "LOG2_BYTE_BIT_SIZE"), (4, u "LOG2_ARRAY_INT_INDEX_SCALE"), (54, u "JLA"), (0, u "Ljdk/internal/access/JavaLangAccess;"), (11, u "LOG2_ARRAY_BOOLEAN_INDEX_SCALE"), (9, u "LOG2_ARRAY_BYTE_INDEX_SCALE"), (5, u "LOG2_ARRAY_CHAR_INDEX_SCALE"), (5, u "LOG2_ARRAY_SHORT_INDEX_SCALE"), (18, u "LOG2_ARRAY_FLOAT_INDEX_SCALE"), (24, u "LOG2_ARRAY_DOUBLE_INDEX_SCALE"), (89, u "T_BOOLEAN"), (2, u "T_CHAR"), (1, u "T_FLOAT"), (1, u "T_DOUBLE"), (1, u "T_BYTE"), (1, u "T_SHORT"), (1, u "T_INT"), (1, u "T_LONG"), (1, u "SOFT_MAX_ARRAY_LENGTH")] 83

def k20m0 : Method := { name := "<init>", desc := "()V", sig := { parameters := [], returnType := none }, accessFlags := 2, code := none }
/-- jdk/internal/util/ArraysSupport -/
def k20 : Class := { plain "jdk/internal/util/ArraysSupport" (some 0) with
  accessFlags := 33
  interfaces := #[]
  cf := some (fileOf pool20 21 #[] #[{ accessFlags := 2, nameIndex := 9, descriptorIndex := 19, attributes := #[] }] 33 16 #[] #[{ accessFlags := 24, nameIndex := 28, descriptorIndex := 29, attributes := #[] }, { accessFlags := 26, nameIndex := 38, descriptorIndex := 39, attributes := #[] }, { accessFlags := 25, nameIndex := 121, descriptorIndex := 25, attributes := #[] }, { accessFlags := 25, nameIndex := 131, descriptorIndex := 25, attributes := #[] }, { accessFlags := 25, nameIndex := 137, descriptorIndex := 25, attributes := #[] }, { accessFlags := 25, nameIndex := 143, descriptorIndex := 25, attributes := #[] }, { accessFlags := 25, nameIndex := 53, descriptorIndex := 25, attributes := #[] }, { accessFlags := 25, nameIndex := 24, descriptorIndex := 25, attributes := #[] }, { accessFlags := 25, nameIndex := 162, descriptorIndex := 25, attributes := #[] }, { accessFlags := 25, nameIndex := 187, descriptorIndex := 25, attributes := #[] }, { accessFlags := 26, nameIndex := 48, descriptorIndex := 25, attributes := #[] }, { accessFlags := 25, nameIndex := 277, descriptorIndex := 25, attributes := #[] }, { accessFlags := 25, nameIndex := 280, descriptorIndex := 25, attributes := #[] }, { accessFlags := 25, nameIndex := 282, descriptorIndex := 25, attributes := #[] }, { accessFlags := 25, nameIndex := 284, descriptorIndex := 25, attributes := #[] }, { accessFlags := 25, nameIndex := 286, descriptorIndex := 25, attributes := #[] }, { accessFlags := 25, nameIndex := 288, descriptorIndex := 25, attributes := #[] }, { accessFlags := 25, nameIndex := 290, descriptorIndex := 25, attributes := #[] }, { accessFlags := 25, nameIndex := 292, descriptorIndex := 25, attributes := #[] }, { accessFlags := 26, nameIndex := 108, descriptorIndex := 109, attributes := #[] }, { accessFlags := 25, nameIndex := 294, descriptorIndex := 25, attributes := #[] }])
  fields := #[{ name := "U", type := (.object "jdk/internal/misc/Unsafe"), accessFlags := 24, slot := 0, constantValue := 0 }, { name := "BIG_ENDIAN", type := .boolean, accessFlags := 26, slot := 1, constantValue := 0 }, { name := "LOG2_ARRAY_BOOLEAN_INDEX_SCALE", type := .int, accessFlags := 25, slot := 2, constantValue := 0 }, { name := "LOG2_ARRAY_BYTE_INDEX_SCALE", type := .int, accessFlags := 25, slot := 3, constantValue := 0 }, { name := "LOG2_ARRAY_CHAR_INDEX_SCALE", type := .int, accessFlags := 25, slot := 4, constantValue := 0 }, { name := "LOG2_ARRAY_SHORT_INDEX_SCALE", type := .int, accessFlags := 25, slot := 5, constantValue := 0 }, { name := "LOG2_ARRAY_INT_INDEX_SCALE", type := .int, accessFlags := 25, slot := 6, constantValue := 0 }, { name := "LOG2_ARRAY_LONG_INDEX_SCALE", type := .int, accessFlags := 25, slot := 7, constantValue := 0 }, { name := "LOG2_ARRAY_FLOAT_INDEX_SCALE", type := .int, accessFlags := 25, slot := 8, constantValue := 0 }, { name := "LOG2_ARRAY_DOUBLE_INDEX_SCALE", type := .int, accessFlags := 25, slot := 9, constantValue := 0 }, { name := "LOG2_BYTE_BIT_SIZE", type := .int, accessFlags := 26, slot := 10, constantValue := 0 }, { name := "T_BOOLEAN", type := .int, accessFlags := 25, slot := 11, constantValue := 0 }, { name := "T_CHAR", type := .int, accessFlags := 25, slot := 12, constantValue := 0 }, { name := "T_FLOAT", type := .int, accessFlags := 25, slot := 13, constantValue := 0 }, { name := "T_DOUBLE", type := .int, accessFlags := 25, slot := 14, constantValue := 0 }, { name := "T_BYTE", type := .int, accessFlags := 25, slot := 15, constantValue := 0 }, { name := "T_SHORT", type := .int, accessFlags := 25, slot := 16, constantValue := 0 }, { name := "T_INT", type := .int, accessFlags := 25, slot := 17, constantValue := 0 }, { name := "T_LONG", type := .int, accessFlags := 25, slot := 18, constantValue := 0 }, { name := "JLA", type := (.object "jdk/internal/access/JavaLangAccess"), accessFlags := 26, slot := 19, constantValue := 0 }, { name := "SOFT_MAX_ARRAY_LENGTH", type := .int, accessFlags := 25, slot := 20, constantValue := 0 }]
  methods := #[k20m0]
  instanceTypes := #[]
  staticTypes := #[(.object "jdk/internal/misc/Unsafe"), .boolean, .int, .int, .int, .int, .int, .int, .int, .int, .int, .int, .int, .int, .int, .int, .int, .int, .int, (.object "jdk/internal/access/JavaLangAccess"), .int]
  resolved := Array.replicate 378 none
  statics := none }

def pool21 : Array CpInfo := pool [(1, u "java/lang/Cloneable"), (0, .class_ 1), (0, u "java/lang/Object"), (0, .class_ 3)] 3

/-- java/lang/Cloneable -/
def k21 : Class := { plain "java/lang/Cloneable" (some 0) with
  accessFlags := 1537
  interfaces := #[]
  cf := some (fileOf pool21 2 #[] #[] 1537 4 #[] #[])
  fields := #[]
  methods := #[]
  instanceTypes := #[]
  staticTypes := #[]
  resolved := Array.replicate 8 none
  statics := none }

/-- the primitive byte -/
def k22 : Class := { plain "byte" none with kind := .primitive 'B', accessFlags := 0x411 }
/-- [B -/
def k23 : Class := { plain "[B" (some 0) with kind := .array 22 .byte, interfaces := #[21, 2], accessFlags := 1041 }

/-- the primitive char -/
def k24 : Class := { plain "char" none with kind := .primitive 'C', accessFlags := 0x411 }
/-- [C -/
def k25 : Class := { plain "[C" (some 0) with kind := .array 24 .char, interfaces := #[21, 2], accessFlags := 1041 }

def heap : Heap := #[{ cls := 7, slots := #[.long 0, .int 1, .null, .int 0, .null, .int 0, .int 0], vm := .statics 7 },
  { cls := 19, slots := #[.null, .null, .null], vm := .statics 19 }]
def classes : Array Class := #[k0, k1, k2, k3, k4, k5, k6, k7, k8, k9, k10, k11, k12, k13, k14, k15, k16, k17, k18, k19, k20, k21, k22, k23, k24, k25]
def interned : List (Array UInt16 × Addr) := []
def slotsUsed : Nat := 10
def theMethod : MethodId := ⟨1, 1⟩
def args0 : Array Value := #[.int 3, .int 1, .int 2, .int 3, .int 4]
def aboutOver (below : List Frame) : State where
  vm := { classes := classes, interned := interned.toArray }
  heap := heap
  slotsUsed := slotsUsed
  threads := #[{ frames := .invoking theMethod args0 :: below }]
def below0 : List Frame := [.native { method := ⟨0, 0⟩, args := #[] }]
def about1 : State := aboutOver below0
def p0 : Program := .bare "" "" ""
def e0 : Env := launch0.env 0 0 0
theorem w_frames : about1.frames = Frame.invoking theMethod args0 :: below0 := rfl
set_option maxRecDepth 65536 in
theorem w_args : argsFit about1.vm theMethod args0 = true := by decide +kernel
set_option maxRecDepth 65536 in
theorem w_heap : heapFits about1 = true := by decide +kernel
set_option maxRecDepth 65536 in
theorem w_runnable : about1.curStatus? = some .runnable := by decide +kernel
set_option maxRecDepth 65536 in
theorem w_alone : about1.alone = true := by decide +kernel
set_option maxRecDepth 65536 in
theorem w_named : about1.methodNamed? x = some theMethod := by decide +kernel
set_option maxRecDepth 65536 in
theorem w_hears : about1.hears theMethod below0 = true := by decide +kernel
set_option maxRecDepth 65536 in
theorem w_ripe : about1.ripe theMethod args0 below0 = true := by decide +kernel
theorem w_running : about1.status = .running := rfl
set_option maxRecDepth 65536 in
theorem w_room : about1.hasRoom e0.platform room_1 = true :=
  launch0.hasRoom_least _ room_1 (by decide +kernel) (by decide +kernel) (by decide +kernel) (by decide +kernel) (by decide +kernel) (by decide +kernel)
theorem allAtoms_all (ts : List Jvm.Cond) (a : Array Jvm.Value) (st : Jvm.State) : (allAtoms ts).before a st = ts.all (fun c => c.before a st) := by
  induction ts with
  | nil => rfl
  | cons c t ih =>
    show (Jvm.Cond.and c (allAtoms t)).before a st = _
    rw [Jvm.Cond.before_and, ih, List.all_cons]
def words1 : List Jvm.Cond := Jvm.Cond.code x code maxLocals ret :: tables_1
/-- a 'code' word, met by the world's own term for the bytes: nothing is compared byte by byte -/
theorem code_word {y : MethodName} {bytes : ByteArray} {mx : Nat} {rt : Option FieldType} {a : Array Value} {s : State} {m : MethodId} {meth : Method} {c : Code} (h1 : s.methodNamed? y = some m) (h2 : s.vm.method? m = some meth) (h3 : meth.code = some c) (h4 : c.code = bytes)
    (h5 : (c.maxLocals == mx && c.exceptionTable.isEmpty && decide (c.maxStack ≤ mostOperands) && decide (meth.sig.returnType = rt) && !meth.locks && decide (parseMethodDescriptor y.desc = some meth.sig)) = true) : (Jvm.Cond.code y bytes mx rt).before a s = true := by
  simp only [Bool.and_eq_true, beq_iff_eq, Bool.not_eq_true', decide_eq_true_eq] at h5
  obtain ⟨⟨⟨⟨⟨g1, g2⟩, g3⟩, g4⟩, g5⟩, g6⟩ := h5
  simp [Cond.before, Cond.holds, Cond.value, h1, h2, h3, h4, g1, g2, g3, g4, g5, g6]
def isCode : Jvm.Cond → Bool
  | .code _ _ _ _ => true
  | _ => false
theorem all_split {L : List Jvm.Cond} {P : Jvm.Cond → Bool} (h1 : L.all (fun c => isCode c || P c) = true) (h2 : ∀ c ∈ L.filter isCode, P c = true) : L.all P = true := by
  refine List.all_eq_true.mpr fun c hc => ?_
  have h := List.all_eq_true.mp h1 c hc
  rcases Bool.eq_false_or_eq_true (isCode c) with hi | hi
  · exact h2 c (List.mem_filter.mpr ⟨hc, hi⟩)
  · simpa [hi] using h
set_option maxRecDepth 65536 in
theorem w_c0 : (Jvm.Cond.code x code maxLocals ret).before args0 about1 = true := code_word (m := ⟨1, 1⟩) (meth := k1m1) (c := k1c1) (by decide +kernel) rfl rfl rfl (by decide +kernel)
set_option maxRecDepth 65536 in
theorem w_c1 : (Jvm.Cond.code ({ cls := "java/lang/String", name := "<init>", desc := "([C)V" } : Jvm.MethodName) jdk_42_method_3_code (2 : Nat) (Option.none : Option Jvm.ClassFile.FieldType)).before args0 about1 = true := code_word (m := ⟨7, 1⟩) (meth := k7m1) (c := k7c1) (by decide +kernel) rfl rfl rfl (by decide +kernel)
set_option maxRecDepth 65536 in
theorem w_c2 : (Jvm.Cond.code ({ cls := "java/lang/String", name := "<init>", desc := "([CIILjava/lang/Void;)V" } : Jvm.MethodName) jdk_42_method_149_code (6 : Nat) (Option.none : Option Jvm.ClassFile.FieldType)).before args0 about1 = true := code_word (m := ⟨7, 6⟩) (meth := k7m6) (c := k7c6) (by decide +kernel) rfl rfl rfl (by decide +kernel)
set_option maxRecDepth 65536 in
theorem w_c3 : (Jvm.Cond.code ({ cls := "java/lang/Object", name := "<init>", desc := "()V" } : Jvm.MethodName) object_method_1_code (1 : Nat) (Option.none : Option Jvm.ClassFile.FieldType)).before args0 about1 = true := code_word (m := ⟨0, 0⟩) (meth := k0m0) (c := k0c0) (by decide +kernel) rfl rfl rfl (by decide +kernel)
set_option maxRecDepth 65536 in
theorem w_c4 : (Jvm.Cond.code ({ cls := "java/lang/StringUTF16", name := "compress", desc := "([CII)[B" } : Jvm.MethodName) jdk_52_method_16_code (6 : Nat) (Option.some (Jvm.ClassFile.FieldType.array Jvm.ClassFile.FieldType.byte))).before args0 about1 = true := code_word (m := ⟨8, 2⟩) (meth := k8m2) (c := k8c2) (by decide +kernel) rfl rfl rfl (by decide +kernel)
set_option maxRecDepth 65536 in
theorem w_c5 : (Jvm.Cond.code ({ cls := "java/lang/StringUTF16", name := "compress", desc := "([CI[BII)I" } : Jvm.MethodName) jdk_52_method_21_code (7 : Nat) (Option.some Jvm.ClassFile.FieldType.int)).before args0 about1 = true := code_word (m := ⟨8, 3⟩) (meth := k8m3) (c := k8c3) (by decide +kernel) rfl rfl rfl (by decide +kernel)
set_option maxRecDepth 65536 in
theorem w_c6 : (Jvm.Cond.code ({ cls := "java/lang/StringUTF16", name := "coderFromArrayLen", desc := "([BI)B" } : Jvm.MethodName) jdk_52_method_15_code (2 : Nat) (Option.some Jvm.ClassFile.FieldType.byte)).before args0 about1 = true := code_word (m := ⟨8, 1⟩) (meth := k8m1) (c := k8c1) (by decide +kernel) rfl rfl rfl (by decide +kernel)
set_option maxRecDepth 65536 in
theorem w_c7 : (Jvm.Cond.code ({ cls := "com/example/vidura/vidura/Mailbox", name := "<init>", desc := "(Ljava/lang/String;Ljava/lang/String;)V" } : Jvm.MethodName) prog_9_method_1_code (3 : Nat) (Option.none : Option Jvm.ClassFile.FieldType)).before args0 about1 = true := code_word (m := ⟨10, 0⟩) (meth := k10m0) (c := k10c0) (by decide +kernel) rfl rfl rfl (by decide +kernel)
set_option maxRecDepth 65536 in
theorem w_c8 : (Jvm.Cond.code ({ cls := "java/lang/Record", name := "<init>", desc := "()V" } : Jvm.MethodName) jdk_30_method_1_code (1 : Nat) (Option.none : Option Jvm.ClassFile.FieldType)).before args0 about1 = true := code_word (m := ⟨9, 0⟩) (meth := k9m0) (c := k9c0) (by decide +kernel) rfl rfl rfl (by decide +kernel)
set_option maxRecDepth 65536 in
theorem w_c9 : (Jvm.Cond.code ({ cls := "com/example/vidura/vidura/WritingForm", name := "write", desc := "(Lcom/example/vidura/vidura/Mailbox;)Lcom/example/vidura/vidura/WritingForm;" } : Jvm.MethodName) prog_15_method_2_code (1 : Nat) (Option.some (Jvm.ClassFile.FieldType.object "com/example/vidura/vidura/WritingForm"))).before args0 about1 = true := code_word (m := ⟨11, 1⟩) (meth := k11m1) (c := k11c1) (by decide +kernel) rfl rfl rfl (by decide +kernel)
set_option maxRecDepth 65536 in
theorem w_c10 : (Jvm.Cond.code ({ cls := "com/example/vidura/vidura/Mailbox", name := "path", desc := "(Ljava/lang/String;)Ljava/lang/String;" } : Jvm.MethodName) prog_9_method_5_code (2 : Nat) (Option.some (Jvm.ClassFile.FieldType.object "java/lang/String"))).before args0 about1 = true := code_word (m := ⟨10, 1⟩) (meth := k10m1) (c := k10c1) (by decide +kernel) rfl rfl rfl (by decide +kernel)
set_option maxRecDepth 65536 in
theorem w_c11 : (Jvm.Cond.code ({ cls := "java/lang/StringBuilder", name := "<init>", desc := "()V" } : Jvm.MethodName) jdk_67_method_1_code (1 : Nat) (Option.none : Option Jvm.ClassFile.FieldType)).before args0 about1 = true := code_word (m := ⟨14, 0⟩) (meth := k14m0) (c := k14c0) (by decide +kernel) rfl rfl rfl (by decide +kernel)
set_option maxRecDepth 65536 in
theorem w_c12 : (Jvm.Cond.code ({ cls := "java/lang/AbstractStringBuilder", name := "<init>", desc := "(I)V" } : Jvm.MethodName) jdk_68_method_2_code (2 : Nat) (Option.none : Option Jvm.ClassFile.FieldType)).before args0 about1 = true := code_word (m := ⟨13, 1⟩) (meth := k13m1) (c := k13c1) (by decide +kernel) rfl rfl rfl (by decide +kernel)
set_option maxRecDepth 65536 in
theorem w_c13 : (Jvm.Cond.code ({ cls := "java/lang/StringBuilder", name := "append", desc := "(Ljava/lang/String;)Ljava/lang/StringBuilder;" } : Jvm.MethodName) jdk_67_method_7_code (2 : Nat) (Option.some (Jvm.ClassFile.FieldType.object "java/lang/StringBuilder"))).before args0 about1 = true := code_word (m := ⟨14, 1⟩) (meth := k14m1) (c := k14c1) (by decide +kernel) rfl rfl rfl (by decide +kernel)
set_option maxRecDepth 65536 in
theorem w_c14 : (Jvm.Cond.code ({ cls := "java/lang/AbstractStringBuilder", name := "append", desc := "(Ljava/lang/String;)Ljava/lang/AbstractStringBuilder;" } : Jvm.MethodName) jdk_68_method_22_code (3 : Nat) (Option.some (Jvm.ClassFile.FieldType.object "java/lang/AbstractStringBuilder"))).before args0 about1 = true := code_word (m := ⟨13, 4⟩) (meth := k13m4) (c := k13c4) (by decide +kernel) rfl rfl rfl (by decide +kernel)
set_option maxRecDepth 65536 in
theorem w_c15 : (Jvm.Cond.code ({ cls := "java/lang/String", name := "length", desc := "()I" } : Jvm.MethodName) jdk_42_method_54_code (1 : Nat) (Option.some Jvm.ClassFile.FieldType.int)).before args0 about1 = true := code_word (m := ⟨7, 3⟩) (meth := k7m3) (c := k7c3) (by decide +kernel) rfl rfl rfl (by decide +kernel)
set_option maxRecDepth 65536 in
theorem w_c16 : (Jvm.Cond.code ({ cls := "java/lang/String", name := "coder", desc := "()B" } : Jvm.MethodName) jdk_42_method_152_code (1 : Nat) (Option.some Jvm.ClassFile.FieldType.byte)).before args0 about1 = true := code_word (m := ⟨7, 8⟩) (meth := k7m8) (c := k7c8) (by decide +kernel) rfl rfl rfl (by decide +kernel)
set_option maxRecDepth 65536 in
theorem w_c17 : (Jvm.Cond.code ({ cls := "java/lang/AbstractStringBuilder", name := "ensureCapacityInternal", desc := "(I)V" } : Jvm.MethodName) jdk_68_method_9_code (3 : Nat) (Option.none : Option Jvm.ClassFile.FieldType)).before args0 about1 = true := code_word (m := ⟨13, 3⟩) (meth := k13m3) (c := k13c3) (by decide +kernel) rfl rfl rfl (by decide +kernel)
set_option maxRecDepth 65536 in
theorem w_c18 : (Jvm.Cond.code ({ cls := "java/lang/AbstractStringBuilder", name := "putStringAt", desc := "(ILjava/lang/String;)V" } : Jvm.MethodName) jdk_68_method_73_code (3 : Nat) (Option.none : Option Jvm.ClassFile.FieldType)).before args0 about1 = true := code_word (m := ⟨13, 8⟩) (meth := k13m8) (c := k13c8) (by decide +kernel) rfl rfl rfl (by decide +kernel)
set_option maxRecDepth 65536 in
theorem w_c19 : (Jvm.Cond.code ({ cls := "java/lang/AbstractStringBuilder", name := "inflateIfNeededFor", desc := "(Ljava/lang/String;)V" } : Jvm.MethodName) jdk_68_method_71_code (2 : Nat) (Option.none : Option Jvm.ClassFile.FieldType)).before args0 about1 = true := code_word (m := ⟨13, 7⟩) (meth := k13m7) (c := k13c7) (by decide +kernel) rfl rfl rfl (by decide +kernel)
set_option maxRecDepth 65536 in
theorem w_c20 : (Jvm.Cond.code ({ cls := "java/lang/String", name := "getBytes", desc := "([BIB)V" } : Jvm.MethodName) jdk_42_method_147_code (4 : Nat) (Option.none : Option Jvm.ClassFile.FieldType)).before args0 about1 = true := code_word (m := ⟨7, 5⟩) (meth := k7m5) (c := k7c5) (by decide +kernel) rfl rfl rfl (by decide +kernel)
set_option maxRecDepth 65536 in
theorem w_c21 : (Jvm.Cond.code ({ cls := "java/lang/StringBuilder", name := "toString", desc := "()Ljava/lang/String;" } : Jvm.MethodName) jdk_67_method_42_code (1 : Nat) (Option.some (Jvm.ClassFile.FieldType.object "java/lang/String"))).before args0 about1 = true := code_word (m := ⟨14, 2⟩) (meth := k14m2) (c := k14c2) (by decide +kernel) rfl rfl rfl (by decide +kernel)
set_option maxRecDepth 65536 in
theorem w_c22 : (Jvm.Cond.code ({ cls := "java/lang/String", name := "<init>", desc := "(Ljava/lang/StringBuilder;)V" } : Jvm.MethodName) jdk_42_method_53_code (2 : Nat) (Option.none : Option Jvm.ClassFile.FieldType)).before args0 about1 = true := code_word (m := ⟨7, 2⟩) (meth := k7m2) (c := k7c2) (by decide +kernel) rfl rfl rfl (by decide +kernel)
set_option maxRecDepth 65536 in
theorem w_c23 : (Jvm.Cond.code ({ cls := "java/lang/String", name := "<init>", desc := "(Ljava/lang/AbstractStringBuilder;Ljava/lang/Void;)V" } : Jvm.MethodName) jdk_42_method_150_code (5 : Nat) (Option.none : Option Jvm.ClassFile.FieldType)).before args0 about1 = true := code_word (m := ⟨7, 7⟩) (meth := k7m7) (c := k7c7) (by decide +kernel) rfl rfl rfl (by decide +kernel)
set_option maxRecDepth 65536 in
theorem w_c24 : (Jvm.Cond.code ({ cls := "java/lang/AbstractStringBuilder", name := "getValue", desc := "()[B" } : Jvm.MethodName) jdk_68_method_64_code (1 : Nat) (Option.some (Jvm.ClassFile.FieldType.array Jvm.ClassFile.FieldType.byte))).before args0 about1 = true := code_word (m := ⟨13, 5⟩) (meth := k13m5) (c := k13c5) (by decide +kernel) rfl rfl rfl (by decide +kernel)
set_option maxRecDepth 65536 in
theorem w_c25 : (Jvm.Cond.code ({ cls := "java/lang/StringBuilder", name := "length", desc := "()I" } : Jvm.MethodName) jdk_67_method_93_code (1 : Nat) (Option.some Jvm.ClassFile.FieldType.int)).before args0 about1 = true := code_word (m := ⟨14, 3⟩) (meth := k14m3) (c := k14c3) (by decide +kernel) rfl rfl rfl (by decide +kernel)
set_option maxRecDepth 65536 in
theorem w_c26 : (Jvm.Cond.code ({ cls := "java/lang/AbstractStringBuilder", name := "length", desc := "()I" } : Jvm.MethodName) jdk_68_method_6_code (1 : Nat) (Option.some Jvm.ClassFile.FieldType.int)).before args0 about1 = true := code_word (m := ⟨13, 2⟩) (meth := k13m2) (c := k13c2) (by decide +kernel) rfl rfl rfl (by decide +kernel)
set_option maxRecDepth 65536 in
theorem w_c27 : (Jvm.Cond.code ({ cls := "java/lang/AbstractStringBuilder", name := "isLatin1", desc := "()Z" } : Jvm.MethodName) jdk_68_method_68_code (1 : Nat) (Option.some Jvm.ClassFile.FieldType.boolean)).before args0 about1 = true := code_word (m := ⟨13, 6⟩) (meth := k13m6) (c := k13c6) (by decide +kernel) rfl rfl rfl (by decide +kernel)
set_option maxRecDepth 65536 in
theorem w_c28 : (Jvm.Cond.code ({ cls := "java/util/Arrays", name := "copyOfRange", desc := "([BII)[B" } : Jvm.MethodName) jdk_65_method_132_code (3 : Nat) (Option.some (Jvm.ClassFile.FieldType.array Jvm.ClassFile.FieldType.byte))).before args0 about1 = true := code_word (m := ⟨16, 2⟩) (meth := k16m2) (c := k16c2) (by decide +kernel) rfl rfl rfl (by decide +kernel)
set_option maxRecDepth 65536 in
theorem w_c29 : (Jvm.Cond.code ({ cls := "java/util/Arrays", name := "copyOfRangeByte", desc := "([BII)[B" } : Jvm.MethodName) jdk_65_method_133_code (5 : Nat) (Option.some (Jvm.ClassFile.FieldType.array Jvm.ClassFile.FieldType.byte))).before args0 about1 = true := code_word (m := ⟨16, 3⟩) (meth := k16m3) (c := k16c3) (by decide +kernel) rfl rfl rfl (by decide +kernel)
set_option maxRecDepth 65536 in
theorem w_c30 : (Jvm.Cond.code ({ cls := "java/util/Arrays", name := "checkLength", desc := "(II)V" } : Jvm.MethodName) jdk_65_method_131_code (2 : Nat) (Option.none : Option Jvm.ClassFile.FieldType)).before args0 about1 = true := code_word (m := ⟨16, 1⟩) (meth := k16m1) (c := k16c1) (by decide +kernel) rfl rfl rfl (by decide +kernel)
set_option maxRecDepth 65536 in
theorem w_c31 : (Jvm.Cond.code ({ cls := "java/lang/Math", name := "min", desc := "(II)I" } : Jvm.MethodName) jdk_29_method_69_code (2 : Nat) (Option.some Jvm.ClassFile.FieldType.int)).before args0 about1 = true := code_word (m := ⟨17, 1⟩) (meth := k17m1) (c := k17c1) (by decide +kernel) rfl rfl rfl (by decide +kernel)
set_option maxRecDepth 65536 in
theorem w_c32 : (Jvm.Cond.code ({ cls := "com/example/vidura/vidura/WritingForm", name := "<init>", desc := "(Ljava/lang/String;Ljava/lang/String;ZLcom/example/vidura/vidura/Mailbox;)V" } : Jvm.MethodName) prog_15_method_1_code (5 : Nat) (Option.none : Option Jvm.ClassFile.FieldType)).before args0 about1 = true := code_word (m := ⟨11, 0⟩) (meth := k11m0) (c := k11c0) (by decide +kernel) rfl rfl rfl (by decide +kernel)
set_option maxRecDepth 65536 in
theorem w_c33 : (Jvm.Cond.code ({ cls := "com/example/vidura/vidura/WritingForm", name := "page", desc := "()Ljava/lang/String;" } : Jvm.MethodName) prog_15_method_8_code (1 : Nat) (Option.some (Jvm.ClassFile.FieldType.object "java/lang/String"))).before args0 about1 = true := code_word (m := ⟨11, 2⟩) (meth := k11m2) (c := k11c2) (by decide +kernel) rfl rfl rfl (by decide +kernel)
set_option maxRecDepth 65536 in
theorem w_c34 : (Jvm.Cond.code ({ cls := "java/lang/String", name := "equals", desc := "(Ljava/lang/Object;)Z" } : Jvm.MethodName) jdk_42_method_66_code (3 : Nat) (Option.some Jvm.ClassFile.FieldType.boolean)).before args0 about1 = true := code_word (m := ⟨7, 4⟩) (meth := k7m4) (c := k7c4) (by decide +kernel) rfl rfl rfl (by decide +kernel)
set_option maxRecDepth 65536 in
theorem w_c35 : (Jvm.Cond.code ({ cls := "com/example/vidura/vidura/WritingForm", name := "action", desc := "()Ljava/lang/String;" } : Jvm.MethodName) prog_15_method_9_code (1 : Nat) (Option.some (Jvm.ClassFile.FieldType.object "java/lang/String"))).before args0 about1 = true := code_word (m := ⟨11, 3⟩) (meth := k11m3) (c := k11c3) (by decide +kernel) rfl rfl rfl (by decide +kernel)
set_option maxRecDepth 65536 in
theorem w_c36 : (Jvm.Cond.code ({ cls := "java/lang/StringLatin1", name := "equals", desc := "([B[B)Z" } : Jvm.MethodName) jdk_43_method_13_code (3 : Nat) (Option.some Jvm.ClassFile.FieldType.boolean)).before args0 about1 = true := code_word (m := ⟨18, 1⟩) (meth := k18m1) (c := k18c1) (by decide +kernel) rfl rfl rfl (by decide +kernel)
set_option maxRecDepth 65536 in
theorem w_c37 : (Jvm.Cond.code ({ cls := "com/example/vidura/vidura/WritingForm", name := "fixedRecipient", desc := "()Z" } : Jvm.MethodName) prog_15_method_10_code (1 : Nat) (Option.some Jvm.ClassFile.FieldType.boolean)).before args0 about1 = true := code_word (m := ⟨11, 4⟩) (meth := k11m4) (c := k11c4) (by decide +kernel) rfl rfl rfl (by decide +kernel)
set_option maxRecDepth 65536 in
theorem w_c38 : (Jvm.Cond.code ({ cls := "com/example/vidura/vidura/WritingForm", name := "from", desc := "()Lcom/example/vidura/vidura/Mailbox;" } : Jvm.MethodName) prog_15_method_11_code (1 : Nat) (Option.some (Jvm.ClassFile.FieldType.object "com/example/vidura/vidura/Mailbox"))).before args0 about1 = true := code_word (m := ⟨11, 5⟩) (meth := k11m5) (c := k11c5) (by decide +kernel) rfl rfl rfl (by decide +kernel)
def codes1 : List Jvm.Cond := [Jvm.Cond.code x code maxLocals ret, Jvm.Cond.code ({ cls := "java/lang/String", name := "<init>", desc := "([C)V" } : Jvm.MethodName) jdk_42_method_3_code (2 : Nat) (Option.none : Option Jvm.ClassFile.FieldType), Jvm.Cond.code ({ cls := "java/lang/String", name := "<init>", desc := "([CIILjava/lang/Void;)V" } : Jvm.MethodName) jdk_42_method_149_code (6 : Nat) (Option.none : Option Jvm.ClassFile.FieldType), Jvm.Cond.code ({ cls := "java/lang/Object", name := "<init>", desc := "()V" } : Jvm.MethodName) object_method_1_code (1 : Nat) (Option.none : Option Jvm.ClassFile.FieldType), Jvm.Cond.code ({ cls := "java/lang/StringUTF16", name := "compress", desc := "([CII)[B" } : Jvm.MethodName) jdk_52_method_16_code (6 : Nat) (Option.some (Jvm.ClassFile.FieldType.array Jvm.ClassFile.FieldType.byte)), Jvm.Cond.code ({ cls := "java/lang/StringUTF16", name := "compress", desc := "([CI[BII)I" } : Jvm.MethodName) jdk_52_method_21_code (7 : Nat) (Option.some Jvm.ClassFile.FieldType.int), Jvm.Cond.code ({ cls := "java/lang/StringUTF16", name := "coderFromArrayLen", desc := "([BI)B" } : Jvm.MethodName) jdk_52_method_15_code (2 : Nat) (Option.some Jvm.ClassFile.FieldType.byte), Jvm.Cond.code ({ cls := "com/example/vidura/vidura/Mailbox", name := "<init>", desc := "(Ljava/lang/String;Ljava/lang/String;)V" } : Jvm.MethodName) prog_9_method_1_code (3 : Nat) (Option.none : Option Jvm.ClassFile.FieldType), Jvm.Cond.code ({ cls := "java/lang/Record", name := "<init>", desc := "()V" } : Jvm.MethodName) jdk_30_method_1_code (1 : Nat) (Option.none : Option Jvm.ClassFile.FieldType), Jvm.Cond.code ({ cls := "com/example/vidura/vidura/WritingForm", name := "write", desc := "(Lcom/example/vidura/vidura/Mailbox;)Lcom/example/vidura/vidura/WritingForm;" } : Jvm.MethodName) prog_15_method_2_code (1 : Nat) (Option.some (Jvm.ClassFile.FieldType.object "com/example/vidura/vidura/WritingForm")), Jvm.Cond.code ({ cls := "com/example/vidura/vidura/Mailbox", name := "path", desc := "(Ljava/lang/String;)Ljava/lang/String;" } : Jvm.MethodName) prog_9_method_5_code (2 : Nat) (Option.some (Jvm.ClassFile.FieldType.object "java/lang/String")), Jvm.Cond.code ({ cls := "java/lang/StringBuilder", name := "<init>", desc := "()V" } : Jvm.MethodName) jdk_67_method_1_code (1 : Nat) (Option.none : Option Jvm.ClassFile.FieldType), Jvm.Cond.code ({ cls := "java/lang/AbstractStringBuilder", name := "<init>", desc := "(I)V" } : Jvm.MethodName) jdk_68_method_2_code (2 : Nat) (Option.none : Option Jvm.ClassFile.FieldType), Jvm.Cond.code ({ cls := "java/lang/StringBuilder", name := "append", desc := "(Ljava/lang/String;)Ljava/lang/StringBuilder;" } : Jvm.MethodName) jdk_67_method_7_code (2 : Nat) (Option.some (Jvm.ClassFile.FieldType.object "java/lang/StringBuilder")), Jvm.Cond.code ({ cls := "java/lang/AbstractStringBuilder", name := "append", desc := "(Ljava/lang/String;)Ljava/lang/AbstractStringBuilder;" } : Jvm.MethodName) jdk_68_method_22_code (3 : Nat) (Option.some (Jvm.ClassFile.FieldType.object "java/lang/AbstractStringBuilder")), Jvm.Cond.code ({ cls := "java/lang/String", name := "length", desc := "()I" } : Jvm.MethodName) jdk_42_method_54_code (1 : Nat) (Option.some Jvm.ClassFile.FieldType.int), Jvm.Cond.code ({ cls := "java/lang/String", name := "coder", desc := "()B" } : Jvm.MethodName) jdk_42_method_152_code (1 : Nat) (Option.some Jvm.ClassFile.FieldType.byte), Jvm.Cond.code ({ cls := "java/lang/AbstractStringBuilder", name := "ensureCapacityInternal", desc := "(I)V" } : Jvm.MethodName) jdk_68_method_9_code (3 : Nat) (Option.none : Option Jvm.ClassFile.FieldType), Jvm.Cond.code ({ cls := "java/lang/AbstractStringBuilder", name := "putStringAt", desc := "(ILjava/lang/String;)V" } : Jvm.MethodName) jdk_68_method_73_code (3 : Nat) (Option.none : Option Jvm.ClassFile.FieldType), Jvm.Cond.code ({ cls := "java/lang/AbstractStringBuilder", name := "inflateIfNeededFor", desc := "(Ljava/lang/String;)V" } : Jvm.MethodName) jdk_68_method_71_code (2 : Nat) (Option.none : Option Jvm.ClassFile.FieldType), Jvm.Cond.code ({ cls := "java/lang/String", name := "getBytes", desc := "([BIB)V" } : Jvm.MethodName) jdk_42_method_147_code (4 : Nat) (Option.none : Option Jvm.ClassFile.FieldType), Jvm.Cond.code ({ cls := "java/lang/StringBuilder", name := "toString", desc := "()Ljava/lang/String;" } : Jvm.MethodName) jdk_67_method_42_code (1 : Nat) (Option.some (Jvm.ClassFile.FieldType.object "java/lang/String")), Jvm.Cond.code ({ cls := "java/lang/String", name := "<init>", desc := "(Ljava/lang/StringBuilder;)V" } : Jvm.MethodName) jdk_42_method_53_code (2 : Nat) (Option.none : Option Jvm.ClassFile.FieldType), Jvm.Cond.code ({ cls := "java/lang/String", name := "<init>", desc := "(Ljava/lang/AbstractStringBuilder;Ljava/lang/Void;)V" } : Jvm.MethodName) jdk_42_method_150_code (5 : Nat) (Option.none : Option Jvm.ClassFile.FieldType), Jvm.Cond.code ({ cls := "java/lang/AbstractStringBuilder", name := "getValue", desc := "()[B" } : Jvm.MethodName) jdk_68_method_64_code (1 : Nat) (Option.some (Jvm.ClassFile.FieldType.array Jvm.ClassFile.FieldType.byte)), Jvm.Cond.code ({ cls := "java/lang/StringBuilder", name := "length", desc := "()I" } : Jvm.MethodName) jdk_67_method_93_code (1 : Nat) (Option.some Jvm.ClassFile.FieldType.int), Jvm.Cond.code ({ cls := "java/lang/AbstractStringBuilder", name := "length", desc := "()I" } : Jvm.MethodName) jdk_68_method_6_code (1 : Nat) (Option.some Jvm.ClassFile.FieldType.int), Jvm.Cond.code ({ cls := "java/lang/AbstractStringBuilder", name := "isLatin1", desc := "()Z" } : Jvm.MethodName) jdk_68_method_68_code (1 : Nat) (Option.some Jvm.ClassFile.FieldType.boolean), Jvm.Cond.code ({ cls := "java/util/Arrays", name := "copyOfRange", desc := "([BII)[B" } : Jvm.MethodName) jdk_65_method_132_code (3 : Nat) (Option.some (Jvm.ClassFile.FieldType.array Jvm.ClassFile.FieldType.byte)), Jvm.Cond.code ({ cls := "java/util/Arrays", name := "copyOfRangeByte", desc := "([BII)[B" } : Jvm.MethodName) jdk_65_method_133_code (5 : Nat) (Option.some (Jvm.ClassFile.FieldType.array Jvm.ClassFile.FieldType.byte)), Jvm.Cond.code ({ cls := "java/util/Arrays", name := "checkLength", desc := "(II)V" } : Jvm.MethodName) jdk_65_method_131_code (2 : Nat) (Option.none : Option Jvm.ClassFile.FieldType), Jvm.Cond.code ({ cls := "java/lang/Math", name := "min", desc := "(II)I" } : Jvm.MethodName) jdk_29_method_69_code (2 : Nat) (Option.some Jvm.ClassFile.FieldType.int), Jvm.Cond.code ({ cls := "com/example/vidura/vidura/WritingForm", name := "<init>", desc := "(Ljava/lang/String;Ljava/lang/String;ZLcom/example/vidura/vidura/Mailbox;)V" } : Jvm.MethodName) prog_15_method_1_code (5 : Nat) (Option.none : Option Jvm.ClassFile.FieldType), Jvm.Cond.code ({ cls := "com/example/vidura/vidura/WritingForm", name := "page", desc := "()Ljava/lang/String;" } : Jvm.MethodName) prog_15_method_8_code (1 : Nat) (Option.some (Jvm.ClassFile.FieldType.object "java/lang/String")), Jvm.Cond.code ({ cls := "java/lang/String", name := "equals", desc := "(Ljava/lang/Object;)Z" } : Jvm.MethodName) jdk_42_method_66_code (3 : Nat) (Option.some Jvm.ClassFile.FieldType.boolean), Jvm.Cond.code ({ cls := "com/example/vidura/vidura/WritingForm", name := "action", desc := "()Ljava/lang/String;" } : Jvm.MethodName) prog_15_method_9_code (1 : Nat) (Option.some (Jvm.ClassFile.FieldType.object "java/lang/String")), Jvm.Cond.code ({ cls := "java/lang/StringLatin1", name := "equals", desc := "([B[B)Z" } : Jvm.MethodName) jdk_43_method_13_code (3 : Nat) (Option.some Jvm.ClassFile.FieldType.boolean), Jvm.Cond.code ({ cls := "com/example/vidura/vidura/WritingForm", name := "fixedRecipient", desc := "()Z" } : Jvm.MethodName) prog_15_method_10_code (1 : Nat) (Option.some Jvm.ClassFile.FieldType.boolean), Jvm.Cond.code ({ cls := "com/example/vidura/vidura/WritingForm", name := "from", desc := "()Lcom/example/vidura/vidura/Mailbox;" } : Jvm.MethodName) prog_15_method_11_code (1 : Nat) (Option.some (Jvm.ClassFile.FieldType.object "com/example/vidura/vidura/Mailbox"))]
set_option maxRecDepth 65536 in
theorem codes_eq : words1.filter isCode = codes1 := rfl
theorem w_codes : ∀ c ∈ words1.filter isCode, c.before args0 about1 = true := by
  rw [codes_eq]
  intro c hc
  simp only [codes1, List.mem_cons, List.not_mem_nil, or_false] at hc
  rcases hc with rfl | rfl | rfl | rfl | rfl | rfl | rfl | rfl | rfl | rfl | rfl | rfl | rfl | rfl | rfl | rfl | rfl | rfl | rfl | rfl | rfl | rfl | rfl | rfl | rfl | rfl | rfl | rfl | rfl | rfl | rfl | rfl | rfl | rfl | rfl | rfl | rfl | rfl | rfl
  · exact w_c0
  · exact w_c1
  · exact w_c2
  · exact w_c3
  · exact w_c4
  · exact w_c5
  · exact w_c6
  · exact w_c7
  · exact w_c8
  · exact w_c9
  · exact w_c10
  · exact w_c11
  · exact w_c12
  · exact w_c13
  · exact w_c14
  · exact w_c15
  · exact w_c16
  · exact w_c17
  · exact w_c18
  · exact w_c19
  · exact w_c20
  · exact w_c21
  · exact w_c22
  · exact w_c23
  · exact w_c24
  · exact w_c25
  · exact w_c26
  · exact w_c27
  · exact w_c28
  · exact w_c29
  · exact w_c30
  · exact w_c31
  · exact w_c32
  · exact w_c33
  · exact w_c34
  · exact w_c35
  · exact w_c36
  · exact w_c37
  · exact w_c38
set_option maxRecDepth 65536 in
theorem w_t1 : (words1.take 24).all (fun c => isCode c || c.before args0 about1) = true := by decide +kernel
set_option maxRecDepth 65536 in
theorem w_t2 : ((words1.drop 24).take 24).all (fun c => isCode c || c.before args0 about1) = true := by decide +kernel
set_option maxRecDepth 65536 in
theorem w_t3 : (((words1.drop 24).drop 24).take 24).all (fun c => isCode c || c.before args0 about1) = true := by decide +kernel
set_option maxRecDepth 65536 in
theorem w_t4 : ((((words1.drop 24).drop 24).drop 24).take 24).all (fun c => isCode c || c.before args0 about1) = true := by decide +kernel
set_option maxRecDepth 65536 in
theorem w_t5 : (((((words1.drop 24).drop 24).drop 24).drop 24).take 24).all (fun c => isCode c || c.before args0 about1) = true := by decide +kernel
set_option maxRecDepth 65536 in
theorem w_t6 : ((((((words1.drop 24).drop 24).drop 24).drop 24).drop 24).take 24).all (fun c => isCode c || c.before args0 about1) = true := by decide +kernel
set_option maxRecDepth 65536 in
theorem w_t7 : (((((((words1.drop 24).drop 24).drop 24).drop 24).drop 24).drop 24).take 24).all (fun c => isCode c || c.before args0 about1) = true := by decide +kernel
set_option maxRecDepth 65536 in
theorem w_t8 : ((((((((words1.drop 24).drop 24).drop 24).drop 24).drop 24).drop 24).drop 24).take 24).all (fun c => isCode c || c.before args0 about1) = true := by decide +kernel
set_option maxRecDepth 65536 in
theorem w_t9 : (((((((((words1.drop 24).drop 24).drop 24).drop 24).drop 24).drop 24).drop 24).drop 24).take 24).all (fun c => isCode c || c.before args0 about1) = true := by decide +kernel
set_option maxRecDepth 65536 in
theorem w_t10 : (((((((((words1.drop 24).drop 24).drop 24).drop 24).drop 24).drop 24).drop 24).drop 24).drop 24).all (fun c => isCode c || c.before args0 about1) = true := by decide +kernel
theorem w_tables : (allAtoms (Jvm.Cond.code x code maxLocals ret :: tables_1)).before args0 about1 = true := by
  rw [allAtoms_all]
  show words1.all (fun c => c.before args0 about1) = true
  refine all_split ?_ w_codes
  rw [← List.take_append_drop 24 words1, List.all_append, w_t1, ← List.take_append_drop 24 (words1.drop 24), List.all_append, w_t2, ← List.take_append_drop 24 ((words1.drop 24).drop 24), List.all_append, w_t3, ← List.take_append_drop 24 (((words1.drop 24).drop 24).drop 24), List.all_append, w_t4, ← List.take_append_drop 24 ((((words1.drop 24).drop 24).drop 24).drop 24), List.all_append, w_t5, ← List.take_append_drop 24 (((((words1.drop 24).drop 24).drop 24).drop 24).drop 24), List.all_append, w_t6, ← List.take_append_drop 24 ((((((words1.drop 24).drop 24).drop 24).drop 24).drop 24).drop 24), List.all_append, w_t7, ← List.take_append_drop 24 (((((((words1.drop 24).drop 24).drop 24).drop 24).drop 24).drop 24).drop 24), List.all_append, w_t8, ← List.take_append_drop 24 ((((((((words1.drop 24).drop 24).drop 24).drop 24).drop 24).drop 24).drop 24).drop 24), List.all_append, w_t9, w_t10]
  rfl
set_option maxRecDepth 65536 in
theorem w_rest : rest_1_c.before args0 about1 = true := by decide +kernel
set_option maxRecDepth 65536 in
theorem w_case : (Jvm.Cond.and given_1 narrow_1).before args0 about1 = true := by decide +kernel
set_option maxRecDepth 65536 in
theorem w_consts : constsHeld consts_1 about1 := Jvm.Lit.constsHeldB_iff.mp (by decide +kernel)
theorem w_applies : (headSpec (Jvm.Cond.code x code maxLocals ret :: tables_1) room_1).applies x e0.platform about1 = true :=
  (Spec.applies_iff w_frames).mpr ⟨w_running, w_runnable, w_alone, w_named, w_hears, w_ripe, w_room, w_tables⟩
theorem atStart : AtStart classFile x code maxLocals ret World_1 tables_1 room_1 Calls_1 rest_1 Pre_1 launch0 p0 e0 about1 theMethod args0 below0 :=
  ⟨lists_1, trivial, launch0.admits_env _ _ _, launch0.least_env, fairChoices_fair.cas, fairChoices_fair.clock, w_frames, w_args, w_heap, w_applies, ⟨w_consts, trivial⟩, w_rest, w_case⟩
end start1
theorem witness_1 : WitnessClaimed_1 := ⟨start1.p0, start1.e0, start1.about1, start1.theMethod, start1.args0, start1.below0, start1.atStart⟩
end Jvm.Pilot.@@N@@
