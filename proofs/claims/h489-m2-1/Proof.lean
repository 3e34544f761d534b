import JvmDerived
import JvmDerived.Pilot.@@N@@Statement
import JvmDerived.Pilot.@@N@@Code
set_option linter.unusedVariables false
set_option linter.unusedSimpArgs false
/- laws to paste: Road.backV (cut by pick.py; bodies as the Statement names them) -/
namespace Jvm.Pilot.@@N@@
namespace StrChars
open Jvm Sem ClassFile Op Lib Jvm.Stand Jvm.Free.XT Jvm.Free.ALB Jvm.Free.JM Jvm.Free
open Jvm.Lib.Cold (StaticIs)
/-- a char array whose places are chars -/
def Ch (a : Addr) (A : Cell) (U : State) : Prop := Arr .char a A U ∧ Typed .char A
theorem Ch.mv {a : Addr} {A : Cell} {U U' : State} (h : Ch a A U) (hal : U.vm.Alike U'.vm) (hh : U'.heap = U.heap) : Ch a A U' := ⟨h.1.mv hal hh, h.2⟩
theorem Ch.keep {a : Addr} {A : Cell} {U U' : State} (h : Ch a A U) (hal : U.vm.Alike U'.vm) (hk : U'.heap[a]? = some A) : Ch a A U' := ⟨h.1.keep hal hk, h.2⟩
/-- what place i of a char[]'s cell holds -/
def cv (A : Cell) (i : Nat) : Int32 := match A.slots[i]? with | some (.int x) => x | _ => 0
theorem Ch.get {a : Addr} {A : Cell} {U : State} (h : Ch a A U) {i : Nat} (hi : i < A.slots.size) : A.slots[i]? = some (.int (cv A i)) := by
  have e := Array.getElem?_eq_getElem hi
  have f := h.2 i _ e
  unfold cv; rw [e]
  generalize A.slots[i] = v at f
  cases v <;> simp [fits] at f ⊢
/-- the byte that i2b leaves of a char -/
def lo8 (x : Int32) : Int32 := x.toInt8.toInt32
theorem fits_lo8 (y : Int32) : fits .byte (.int (lo8 y)) = true := by
  have h1 := y.toInt8.le_toInt
  have h2 := y.toInt8.toInt_lt
  simp only [lo8, fits, Bool.and_eq_true, decide_eq_true_eq, Int32.le_iff_toInt_le, Int8.toInt_toInt32, show (-128 : Int32).toInt = -128 from by decide, show (127 : Int32).toInt = 127 from by decide]
  omega
/-- A' is A but that each place j of lo .. hi - 1 holds f j -/
def Laid (A A' : Cell) (lo hi : Nat) (f : Nat → Value) : Prop := A'.cls = A.cls ∧ A'.vm = A.vm ∧ A'.slots.size = A.slots.size ∧ ∀ i, A'.slots[i]? = if lo ≤ i ∧ i < hi then some (f i) else A.slots[i]?
theorem Laid.zero (A : Cell) (lo : Nat) (f : Nat → Value) : Laid A A lo (lo + 0) f := ⟨rfl, rfl, rfl, fun i => by rw [if_neg (by omega)]⟩
theorem Laid.step {A Ak : Cell} {lo k : Nat} {f : Nat → Value} {v : Value} (h : Laid A Ak lo k f) (hlo : lo ≤ k) (hk : k < Ak.slots.size) (hv : v = f k) : Laid A (Ak.setSlot k v) lo (k + 1) f := by
  refine ⟨h.1, h.2.1, by simpa [Cell.setSlot] using h.2.2.1, fun i => ?_⟩
  by_cases e : k = i
  · subst e; rw [Cell.slots_setSlot_self v hk, if_pos (by omega), hv]
  · rw [Cell.slots_setSlot_ne v e, h.2.2.2 i]
    by_cases q : lo ≤ i ∧ i < k
    · rw [if_pos q, if_pos (by omega)]
    · rw [if_neg q, if_neg (by omega)]
def U16 : String := "java/lang/StringUTF16"
namespace Cmp5
def yN : MethodName := ⟨"java/lang/StringUTF16", "compress", "([CI[BII)I"⟩
abbrev yB : ByteArray := jdk_52_method_21_code
theorem d0 : decode yB 0 = .ok (.iconst 0, 1) := by decide +kernel
theorem d1 : decode yB 1 = .ok (.istore 5, 2) := by decide +kernel
theorem d3 : decode yB 3 = .ok (.iload 5, 2) := by decide +kernel
theorem d5 : decode yB 5 = .ok (.iload 4, 2) := by decide +kernel
theorem d7 : decode yB 7 = .ok (.if_icmp (.ge) 37, 3) := by decide +kernel
theorem d10 : decode yB 10 = .ok (.aload_n 0, 1) := by decide +kernel
theorem d11 : decode yB 11 = .ok (.iload_n 1, 1) := by decide +kernel
theorem d12 : decode yB 12 = .ok (.caload, 1) := by decide +kernel
theorem d13 : decode yB 13 = .ok (.istore 6, 2) := by decide +kernel
theorem d15 : decode yB 15 = .ok (.iload 6, 2) := by decide +kernel
theorem d17 : decode yB 17 = .ok (.sipush 255, 3) := by decide +kernel
theorem d20 : decode yB 20 = .ok (.if_icmp (.le) 6, 3) := by decide +kernel
theorem d26 : decode yB 26 = .ok (.aload_n 2, 1) := by decide +kernel
theorem d27 : decode yB 27 = .ok (.iload_n 3, 1) := by decide +kernel
theorem d28 : decode yB 28 = .ok (.iload 6, 2) := by decide +kernel
theorem d30 : decode yB 30 = .ok (.i2b, 1) := by decide +kernel
theorem d31 : decode yB 31 = .ok (.bastore, 1) := by decide +kernel
theorem d32 : decode yB 32 = .ok (.iinc 1 1, 3) := by decide +kernel
theorem d35 : decode yB 35 = .ok (.iinc 3 1, 3) := by decide +kernel
theorem d38 : decode yB 38 = .ok (.iinc 5 1, 3) := by decide +kernel
theorem d41 : decode yB 41 = .ok (.goto (-38), 3) := by decide +kernel
theorem d44 : decode yB 44 = .ok (.iload 4, 2) := by decide +kernel
theorem d46 : decode yB 46 = .ok (.ireturn, 1) := by decide +kernel
def site : List Cond := []
def tab : Cond := tabOf yN yB 7 (some .int) site
def P (b : Addr) (A : Cell) (d : Addr) (B : Cell) (o q len : Nat) (args : Array Value) (s : State) : Prop := args = #[.ref b, .int (Int32.ofNat o), .ref d, .int (Int32.ofNat q), .int (Int32.ofNat len)] ∧ Ch b A s ∧ Arr .byte d B s ∧ b ≠ d ∧ o + len ≤ A.slots.size ∧ q + len ≤ B.slots.size ∧ ∀ i, i < len → ¬ 255 < cv A (o + i)
def E (b : Addr) (A : Cell) (d : Addr) (B : Cell) (o q len : Nat) (r : Option Value) (s u : State) : Prop := r = some (.int (Int32.ofNat len)) ∧ ∃ B', Put d B' s u ∧ Laid B B' q (q + len) (fun j => Value.int (lo8 (cv A (o + (j - q)))))
/-- no char of the range above 255: len; the places written hold each char's low byte -/
theorem law (l : Launch) (b : Addr) (A : Cell) (d : Addr) (B : Cell) (o q len : Nat) : Law l yN 5 5 0 0 yB 7 (some .int) site (P b A d B o q len) (E b A d B o q len) (copyLocs d q len) 0 0 := by
  refine Law.of_walk (plainFor_of_name (by decide +kernel)) (by decide +kernel) (by decide +kernel) (by decide) (fun _ _ h => by rw [h.1]; rfl) (fun _ U U' hal hh h => ⟨h.1, h.2.1.mv hal hh, h.2.2.1.mv hal hh, h.2.2.2⟩) (fun r U U' V V' h1 hal h2 h => ⟨h.1, h.2.elim fun B' q => ⟨B', q.1.mv h1 h2, q.2⟩⟩) ?_
  intro p e s m args below meth c s₁ X0 hexec hbytes hml hret hlk hnm hown hh0 W hP
  obtain ⟨rfl, hA, hB, hne, l1, l2, hp⟩ := hP
  have c1 : Steps p.tables e below (s₁.setTop (entryFrame m #[.ref b, .int (Int32.ofNat o), .ref d, .int (Int32.ofNat q), .int (Int32.ofNat len)] 7)) (s₁.setTop (mkF m 0 #[.val (.ref b), .val (.int (Int32.ofNat o)), .val (.ref d), .val (.int (Int32.ofNat q)), .val (.int (Int32.ofNat len)), .unset, .unset] [])) := entry rfl
  have hA0 := hA.1.mv X0.warmed.alike hh0
  have hB0 := hB.mv X0.warmed.alike hh0
  have a31 := hA.1.2.2.2
  have c2 : Steps p.tables e below (s₁.setTop (entryFrame m #[.ref b, .int (Int32.ofNat o), .ref d, .int (Int32.ofNat q), .int (Int32.ofNat len)] 7)) (s₁.setTop (mkF m 3 #[.val (.ref b), .val (.int (Int32.ofNat o)), .val (.ref d), .val (.int (Int32.ofNat q)), .val (.int (Int32.ofNat len)), .val (.int 0), .unset] [])) := c1.trans (by
    refine iconstV X0.here hexec rfl 0 (hb hbytes d0) (by decide) ?_
    refine XS.istore X0.here hexec rfl (hb hbytes d1) rfl rfl ?_
    exact Steps.refl _)
  have loop : ∀ (r i : Nat), i + r = len → ∀ (z : Slot), (z = .unset ∨ ∃ w, z = .val w ∧ w.category = 1) → ∀ (Tl : State) (Bk : Cell), Stand p l e { frames := 0, locals := 0, cells := 0, slots := 0 } s m #[.ref b, .int (Int32.ofNat o), .ref d, .int (Int32.ofNat q), .int (Int32.ofNat len)] below meth c Tl ([] ++ copyLocs d q i) 0 0 → Put d Bk s₁ Tl → Laid B Bk q (q + i) (fun j => Value.int (lo8 (cv A (o + (j - q))))) →
      Steps p.tables e below (s₁.setTop (entryFrame m #[.ref b, .int (Int32.ofNat o), .ref d, .int (Int32.ofNat q), .int (Int32.ofNat len)] 7)) (Tl.setTop (mkF m 3 #[.val (.ref b), .val (.int (Int32.ofNat (o + i))), .val (.ref d), .val (.int (Int32.ofNat (q + i))), .val (.int (Int32.ofNat len)), .val (.int (Int32.ofNat i)), z] [])) → ∃ (T' : State) (B' : Cell) (z' : Slot), Stand p l e { frames := 0, locals := 0, cells := 0, slots := 0 } s m #[.ref b, .int (Int32.ofNat o), .ref d, .int (Int32.ofNat q), .int (Int32.ofNat len)] below meth c T' ([] ++ copyLocs d q len) 0 0 ∧ Put d B' s₁ T' ∧ Laid B B' q (q + len) (fun j => Value.int (lo8 (cv A (o + (j - q))))) ∧
      Steps p.tables e below (s₁.setTop (entryFrame m #[.ref b, .int (Int32.ofNat o), .ref d, .int (Int32.ofNat q), .int (Int32.ofNat len)] 7)) (T'.setTop (mkF m 3 #[.val (.ref b), .val (.int (Int32.ofNat (o + len))), .val (.ref d), .val (.int (Int32.ofNat (q + len))), .val (.int (Int32.ofNat len)), .val (.int (Int32.ofNat len)), z'] [])) := by
    intro r
    induction r with
    | zero =>
      intro i hi z hz Tl Bk Xl pl fl cl
      have hil : i = len := by omega
      rw [hil] at Xl fl cl
      exact ⟨Tl, Bk, z, Xl, pl, fl, cl⟩
    | succ r ih =>
      intro i hi z hz Tl Bk Xl pl fl cl
      have all := X0.warmed.alike.symm.trans Xl.warmed.alike
      have hAl := hA0.keep all (pl.other hne hA0.1)
      have hBk := hB0.like all pl.1 fl.1 fl.2.1 fl.2.2.1
      have hlt : q + i < Bk.slots.size := by rw [fl.2.2.1]; omega
      have c3 : Steps p.tables e below (s₁.setTop (entryFrame m #[.ref b, .int (Int32.ofNat o), .ref d, .int (Int32.ofNat q), .int (Int32.ofNat len)] 7)) (Tl.setTop (mkF m 12 #[.val (.ref b), .val (.int (Int32.ofNat (o + i))), .val (.ref d), .val (.int (Int32.ofNat (q + i))), .val (.int (Int32.ofNat len)), .val (.int (Int32.ofNat i)), z] [.int (Int32.ofNat (o + i)), .ref b])) := cl.trans (by
        refine XS.iload Xl.here hexec rfl (hb hbytes d3) rfl ?_
        refine XS.iload Xl.here hexec rfl (hb hbytes d5) rfl ?_
        refine XS.icmpNo Xl.here hexec rfl (hb hbytes d7) rfl (ii_ge_f (lt32 (by omega) (by omega))) ?_
        refine XS.aloadN Xl.here hexec rfl (hb hbytes d10) rfl rfl ?_
        refine XS.iloadN Xl.here hexec rfl (hb hbytes d11) rfl ?_
        exact Steps.refl _)
      have c4 : Steps p.tables e below (s₁.setTop (entryFrame m #[.ref b, .int (Int32.ofNat o), .ref d, .int (Int32.ofNat q), .int (Int32.ofNat len)] 7)) (Tl.setTop (mkF m 13 #[.val (.ref b), .val (.int (Int32.ofNat (o + i))), .val (.ref d), .val (.int (Int32.ofNat (q + i))), .val (.int (Int32.ofNat len)), .val (.int (Int32.ofNat i)), z] [.int (cv A (o + i))])) := c3.trans (by
        refine Xl.aget hexec hAl rfl (hA.get (i := o + i) (by omega)) rfl rfl (hb hbytes d12) ?_
        exact Steps.refl _)
      have c5 : Steps p.tables e below (s₁.setTop (entryFrame m #[.ref b, .int (Int32.ofNat o), .ref d, .int (Int32.ofNat q), .int (Int32.ofNat len)] 7)) (Tl.setTop (mkF m 15 #[.val (.ref b), .val (.int (Int32.ofNat (o + i))), .val (.ref d), .val (.int (Int32.ofNat (q + i))), .val (.int (Int32.ofNat len)), .val (.int (Int32.ofNat i)), .val (.int (cv A (o + i)))] [])) := c4.trans (by
        refine XS.istoreS Xl.here hexec rfl (hb hbytes d13) rfl rfl hz ?_
        exact Steps.refl _)
      have c6 : Steps p.tables e below (s₁.setTop (entryFrame m #[.ref b, .int (Int32.ofNat o), .ref d, .int (Int32.ofNat q), .int (Int32.ofNat len)] 7)) (Tl.setTop (mkF m 31 #[.val (.ref b), .val (.int (Int32.ofNat (o + i))), .val (.ref d), .val (.int (Int32.ofNat (q + i))), .val (.int (Int32.ofNat len)), .val (.int (Int32.ofNat i)), .val (.int (cv A (o + i)))] [.int (lo8 (cv A (o + i))), .int (Int32.ofNat (q + i)), .ref d])) := c5.trans (by
        refine XS.iload Xl.here hexec rfl (hb hbytes d15) rfl ?_
        refine sipushV Xl.here hexec rfl 255 (hb hbytes d17) (by decide) ?_
        refine XS.icmpYes Xl.here hexec rfl (pc0 := 20) rfl (hb hbytes d20) rfl (ii_le_t (hp i (by omega))) (by decide) rfl ?_
        refine XS.aloadN Xl.here hexec rfl (hb hbytes d26) rfl rfl ?_
        refine XS.iloadN Xl.here hexec rfl (hb hbytes d27) rfl ?_
        refine XS.iload Xl.here hexec rfl (hb hbytes d28) rfl ?_
        refine i2b Xl.here hexec rfl (hb hbytes d30) rfl ?_
        exact Steps.refl _)
      obtain ⟨T7, X7, p7, st7⟩ := Xl.aput hexec hBk rfl hlt rfl (fits_lo8 (cv A (o + i))) (g := (mkF m 31 #[.val (.ref b), .val (.int (Int32.ofNat (o + i))), .val (.ref d), .val (.int (Int32.ofNat (q + i))), .val (.int (Int32.ofNat len)), .val (.int (Int32.ofNat i)), .val (.int (cv A (o + i)))] [.int (lo8 (cv A (o + i))), .int (Int32.ofNat (q + i)), .ref d])) rfl (rest := []) rfl (hb hbytes d31)
      have c8 : Steps p.tables e below (s₁.setTop (entryFrame m #[.ref b, .int (Int32.ofNat o), .ref d, .int (Int32.ofNat q), .int (Int32.ofNat len)] 7)) (T7.setTop (mkF m 32 #[.val (.ref b), .val (.int (Int32.ofNat (o + i))), .val (.ref d), .val (.int (Int32.ofNat (q + i))), .val (.int (Int32.ofNat len)), .val (.int (Int32.ofNat i)), .val (.int (cv A (o + i)))] [])) := c6.trans (st7 _ (Steps.refl _))
      have c9 : Steps p.tables e below (s₁.setTop (entryFrame m #[.ref b, .int (Int32.ofNat o), .ref d, .int (Int32.ofNat q), .int (Int32.ofNat len)] 7)) (T7.setTop (mkF m 3 #[.val (.ref b), .val (.int (Int32.ofNat (o + i) + 1)), .val (.ref d), .val (.int (Int32.ofNat (q + i) + 1)), .val (.int (Int32.ofNat len)), .val (.int (Int32.ofNat i + 1)), .val (.int (cv A (o + i)))] [])) := c8.trans (by
        refine iincV X7.here hexec rfl 1 (hb hbytes d32) (by decide) rfl rfl ?_
        refine iincV X7.here hexec rfl 1 (hb hbytes d35) (by decide) rfl rfl ?_
        refine iincV X7.here hexec rfl 1 (hb hbytes d38) (by decide) rfl rfl ?_
        refine XS.goto X7.here hexec rfl (pc0 := 41) rfl (hb hbytes d41) (by decide) rfl ?_
        exact Steps.refl _)
      have c10 : Steps p.tables e below (s₁.setTop (entryFrame m #[.ref b, .int (Int32.ofNat o), .ref d, .int (Int32.ofNat q), .int (Int32.ofNat len)] 7)) (T7.setTop (mkF m 3 #[.val (.ref b), .val (.int (Int32.ofNat (o + (i + 1)))), .val (.ref d), .val (.int (Int32.ofNat (q + (i + 1)))), .val (.int (Int32.ofNat len)), .val (.int (Int32.ofNat (i + 1))), .val (.int (cv A (o + i)))] [])) := by
        have := c9
        rw [succ32, succ32, succ32] at this
        exact this
      exact ih (i + 1) (by omega) _ (Or.inr ⟨_, rfl, rfl⟩) T7 _ (by rw [copyLocs_step, ← List.append_assoc]; exact X7) (pl.trans p7) (fl.step (by omega) hlt (by simp)) c10
  obtain ⟨T9, B9, z9, X9, p9, f9, g9⟩ := loop len 0 (by omega) .unset (Or.inl rfl) s₁ B (by simpa [copyLocs] using X0) ⟨hB0.1, fun _ _ => rfl, rfl⟩ (Laid.zero _ _ _) c2
  have c11 : Steps p.tables e below (s₁.setTop (entryFrame m #[.ref b, .int (Int32.ofNat o), .ref d, .int (Int32.ofNat q), .int (Int32.ofNat len)] 7)) (T9.setTop (mkF m 46 #[.val (.ref b), .val (.int (Int32.ofNat (o + len))), .val (.ref d), .val (.int (Int32.ofNat (q + len))), .val (.int (Int32.ofNat len)), .val (.int (Int32.ofNat len)), z9] [.int (Int32.ofNat len)])) := g9.trans (by
    refine XS.iload X9.here hexec rfl (hb hbytes d3) rfl ?_
    refine XS.iload X9.here hexec rfl (hb hbytes d5) rfl ?_
    refine XS.icmpYes X9.here hexec rfl (pc0 := 7) rfl (hb hbytes d7) rfl (ii_ge_t (nlt32 (by omega) (Nat.le_refl _))) (by decide) rfl ?_
    refine XS.iload X9.here hexec rfl (hb hbytes d44) rfl ?_
    exact Steps.refl _)
  exact ⟨T9, some (.int (Int32.ofNat len)), _, _, _, X9, by simp, rfl, rfl, (fun h => by cases h), ⟨rfl, B9, p9.from hh0, f9⟩, fun fs hl => c11.trans (X9.ireturnOut hexec hret rfl (Or.inl rfl) (hb hbytes d46) hl)⟩
end Cmp5
namespace Cmp3
def yN : MethodName := ⟨"java/lang/StringUTF16", "compress", "([CII)[B"⟩
abbrev yB : ByteArray := jdk_52_method_16_code
theorem d0 : decode yB 0 = .ok (.iload_n 2, 1) := by decide +kernel
theorem d1 : decode yB 1 = .ok (.newarray .byte, 2) := by decide +kernel
theorem d3 : decode yB 3 = .ok (.astore_n 3, 1) := by decide +kernel
theorem d4 : decode yB 4 = .ok (.aload_n 0, 1) := by decide +kernel
theorem d5 : decode yB 5 = .ok (.iload_n 1, 1) := by decide +kernel
theorem d6 : decode yB 6 = .ok (.aload_n 3, 1) := by decide +kernel
theorem d7 : decode yB 7 = .ok (.iconst 0, 1) := by decide +kernel
theorem d8 : decode yB 8 = .ok (.iload_n 2, 1) := by decide +kernel
theorem d9 : decode yB 9 = .ok (.invokestatic 115, 3) := by decide +kernel
theorem d12 : decode yB 12 = .ok (.istore 4, 2) := by decide +kernel
theorem d14 : decode yB 14 = .ok (.iload 4, 2) := by decide +kernel
theorem d16 : decode yB 16 = .ok (.iload_n 2, 1) := by decide +kernel
theorem d17 : decode yB 17 = .ok (.if_icmp (.eq) 40, 3) := by decide +kernel
theorem d57 : decode yB 57 = .ok (.aload_n 3, 1) := by decide +kernel
theorem d58 : decode yB 58 = .ok (.areturn, 1) := by decide +kernel
def site : List Cond := [.arrayClass .byte, Cmp5.tab] ++ staticW U16 115 Cmp5.yN
def tab : Cond := tabOf yN yB 6 (some (.array .byte)) site
def P (b : Addr) (A : Cell) (o len : Nat) (args : Array Value) (s : State) : Prop := args = #[.ref b, .int (Int32.ofNat o), .int (Int32.ofNat len)] ∧ Ch b A s ∧ o + len ≤ A.slots.size ∧ len ≤ 536870912 ∧ ∀ i, i < len → ¬ 255 < cv A (o + i)
def E (b : Addr) (A : Cell) (o len : Nat) (r : Option Value) (s u : State) : Prop := NewArr .byte "[B" len (fun j => .int (lo8 (cv A (o + j)))) r s u ∧ u.heap.size = s.heap.size + 1
/-- no char of the range above 255: a new byte[] of their low bytes -/
theorem law (l : Launch) (b : Addr) (A : Cell) (o len : Nat) : Law l yN 3 3 1 18 yB 6 (some (.array .byte)) site (P b A o len) (E b A o len) [] 1 len := by
  refine Law.of_walk (plainFor_of_name (by decide +kernel)) (by decide +kernel) (by decide +kernel) (by decide) (fun _ _ h => by rw [h.1]; rfl) (fun _ U U' hal hh h => ⟨h.1, h.2.1.mv hal hh, h.2.2⟩) (fun r U U' V V' h1 hal h2 h => ⟨NewArr.mv r U U' V V' h1 hal h2 h.1, by rw [h1, h2]; exact h.2⟩) ?_
  intro p e s m args below meth c s₁ X0 hexec hbytes hml hret hlk hnm hown hh0 W hP
  obtain ⟨rfl, hA, l1, l2, hp⟩ := hP
  have a31 := hA.1.2.2.2
  have c1 : Steps p.tables e below (s₁.setTop (entryFrame m #[.ref b, .int (Int32.ofNat o), .int (Int32.ofNat len)] 6)) (s₁.setTop (mkF m 0 #[.val (.ref b), .val (.int (Int32.ofNat o)), .val (.int (Int32.ofNat len)), .unset, .unset, .unset] [])) := entry rfl
  have c2 : Steps p.tables e below (s₁.setTop (entryFrame m #[.ref b, .int (Int32.ofNat o), .int (Int32.ofNat len)] 6)) (s₁.setTop (mkF m 1 #[.val (.ref b), .val (.int (Int32.ofNat o)), .val (.int (Int32.ofNat len)), .unset, .unset, .unset] [.int (Int32.ofNat len)])) := c1.trans (by
    refine XS.iloadN X0.here hexec rfl (hb hbytes d0) rfl ?_
    exact Steps.refl _)
  obtain ⟨T3, B3, X3, ba3, bs3, bv3, bh3, bf3, st3⟩ := X0.anew hexec (atype := .byte) (wk W (.arrayClass .byte)) rfl (by show len * 1 ≤ _; omega) (by omega) (g := (mkF m 1 #[.val (.ref b), .val (.int (Int32.ofNat o)), .val (.int (Int32.ofNat len)), .unset, .unset, .unset] [.int (Int32.ofNat len)])) rfl (hb hbytes d1) (rest := []) rfl (Nat.le_refl _) (by show 0 + len ≤ len; omega)
  rw [hh0] at ba3 st3
  have kp3 : XT.Kept s T3 := (XT.Kept.of_eq hh0).push bh3
  have hA3 := hA.keep X3.warmed.alike (kp3 _ _ hA.1.1)
  have hne : b ≠ s.heap.size := hA.1.ne
  have c4 : Steps p.tables e below (s₁.setTop (entryFrame m #[.ref b, .int (Int32.ofNat o), .int (Int32.ofNat len)] 6)) (T3.setTop (mkF m 3 #[.val (.ref b), .val (.int (Int32.ofNat o)), .val (.int (Int32.ofNat len)), .unset, .unset, .unset] [.ref s.heap.size])) := c2.trans (st3 _ (Steps.refl _))
  have c5 : Steps p.tables e below (s₁.setTop (entryFrame m #[.ref b, .int (Int32.ofNat o), .int (Int32.ofNat len)] 6)) (T3.setTop (mkF m 9 #[.val (.ref b), .val (.int (Int32.ofNat o)), .val (.int (Int32.ofNat len)), .val (.ref s.heap.size), .unset, .unset] [.int (Int32.ofNat len), .int 0, .ref s.heap.size, .int (Int32.ofNat o), .ref b])) := c4.trans (by
    refine XS.astoreN X3.here hexec rfl (hb hbytes d3) rfl rfl rfl ?_
    refine XS.aloadN X3.here hexec rfl (hb hbytes d4) rfl rfl ?_
    refine XS.iloadN X3.here hexec rfl (hb hbytes d5) rfl ?_
    refine XS.aloadN X3.here hexec rfl (hb hbytes d6) rfl rfl ?_
    refine iconstV X3.here hexec rfl 0 (hb hbytes d7) (by decide) ?_
    refine XS.iloadN X3.here hexec rfl (hb hbytes d8) rfl ?_
    exact Steps.refl _)
  obtain ⟨v6, T6, X6, E6, g6⟩ := X3.callS hexec (Cmp5.law l b A s.heap.size B3 o 0 len) hown (wks W (staticW U16 115 Cmp5.yN)) (wk W Cmp5.tab) (W := 0) (Nat.le_of_ble_eq_true rfl) (Nat.le_of_ble_eq_true rfl) (Nat.le_refl _) (by show 0 + len + 0 ≤ len; omega) (g := (mkF m 9 #[.val (.ref b), .val (.int (Int32.ofNat o)), .val (.int (Int32.ofNat len)), .val (.ref s.heap.size), .unset, .unset] [.int (Int32.ofNat len), .int (Int32.ofNat 0), .ref s.heap.size, .int (Int32.ofNat o), .ref b])) rfl (by rw [hml]; rfl) c5 (argsL := [.ref b, .int (Int32.ofNat o), .ref s.heap.size, .int (Int32.ofNat 0), .int (Int32.ofNat len)]) (rest := []) rfl rfl (by show 2 * 0 + 0 ≤ _; decide) (hb hbytes d9) (⟨rfl, hA3, ba3, hne, l1, by rw [bs3]; simp, hp⟩)
  obtain ⟨rfl, B6, p6, f6⟩ := E6
  have c7 : Steps p.tables e below (s₁.setTop (entryFrame m #[.ref b, .int (Int32.ofNat o), .int (Int32.ofNat len)] 6)) (T6.setTop (mkF m 12 #[.val (.ref b), .val (.int (Int32.ofNat o)), .val (.int (Int32.ofNat len)), .val (.ref s.heap.size), .unset, .unset] [.int (Int32.ofNat len)])) := g6
  have c8 : Steps p.tables e below (s₁.setTop (entryFrame m #[.ref b, .int (Int32.ofNat o), .int (Int32.ofNat len)] 6)) (T6.setTop (mkF m 58 #[.val (.ref b), .val (.int (Int32.ofNat o)), .val (.int (Int32.ofNat len)), .val (.ref s.heap.size), .val (.int (Int32.ofNat len)), .unset] [.ref s.heap.size])) := c7.trans (by
    refine XS.istore X6.here hexec rfl (hb hbytes d12) rfl rfl ?_
    refine XS.iload X6.here hexec rfl (hb hbytes d14) rfl ?_
    refine XS.iloadN X6.here hexec rfl (hb hbytes d16) rfl ?_
    refine XS.icmpYes X6.here hexec rfl (pc0 := 17) rfl (hb hbytes d17) rfl (ii_eq_t rfl) (by decide) rfl ?_
    refine XS.aloadN X6.here hexec rfl (hb hbytes d57) rfl rfl ?_
    exact Steps.refl _)
  have X8 := X6.wide (L' := []) (cells' := 1) (slots' := len) (fun x hx hlt => by
    simp only [List.nil_append, copyLocs, List.mem_map, List.mem_range] at hx
    obtain ⟨i, -, rfl⟩ := hx
    exact absurd hlt (Nat.lt_irrefl _)) (Nat.le_refl _) (by omega)
  exact ⟨T6, some (.ref s.heap.size), _, _, _, X8, rfl, rfl, rfl, (fun h => by cases h), ⟨⟨rfl, B6, ba3.like (X3.warmed.alike.symm.trans X6.warmed.alike) p6.1 f6.1 f6.2.1 f6.2.2.1, f6.2.1.trans bv3, by rw [X6.warmed.alike.findClass, f6.1]; exact bf3, by rw [f6.2.2.1, bs3]; simp, fun j hj => by rw [f6.2.2.2 j, if_pos (by omega)]; rfl, kp3.put p6 (Nat.le_refl _)⟩, by rw [p6.2.2, bh3, hh0]; simp⟩, fun fs hl => c8.trans (X8.areturnOut hexec rfl hret rfl (hb hbytes d58) hl)⟩
end Cmp3
namespace CodL
def yN : MethodName := ⟨"java/lang/StringUTF16", "coderFromArrayLen", "([BI)B"⟩
abbrev yB : ByteArray := jdk_52_method_15_code
theorem d0 : decode yB 0 = .ok (.iload_n 1, 1) := by decide +kernel
theorem d1 : decode yB 1 = .ok (.aload_n 0, 1) := by decide +kernel
theorem d2 : decode yB 2 = .ok (.arraylength, 1) := by decide +kernel
theorem d3 : decode yB 3 = .ok (.isub, 1) := by decide +kernel
theorem d4 : decode yB 4 = .ok (.bipush 31, 2) := by decide +kernel
theorem d6 : decode yB 6 = .ok (.iushr, 1) := by decide +kernel
theorem d7 : decode yB 7 = .ok (.i2b, 1) := by decide +kernel
theorem d8 : decode yB 8 = .ok (.ireturn, 1) := by decide +kernel
def site : List Cond := []
def tab : Cond := tabOf yN yB 2 (some .byte) site
def P (d : Addr) (B : Cell) (args : Array Value) (s : State) : Prop := args = #[.ref d, .int (Int32.ofNat B.slots.size)] ∧ Arr .byte d B s
def E (r : Option Value) (s u : State) : Prop := XT.PureE (some (.int 0)) r s u
/-- an array as long as the number of chars: LATIN1 -/
theorem law (l : Launch) (d : Addr) (B : Cell) : Law l yN 2 2 0 0 yB 2 (some .byte) site (P d B) E [] 0 0 := by
  refine Law.of_walk (plainFor_of_name (by decide +kernel)) (by decide +kernel) (by decide +kernel) (by decide) (fun _ _ h => by rw [h.1]; rfl) (fun _ U U' hal hh h => ⟨h.1, h.2.mv hal hh⟩) (fun r U U' V V' h1 hal h2 h => XT.PureE.mv r U U' V V' h1 hal h2 h) ?_
  intro p e s m args below meth c s₁ X0 hexec hbytes hml hret hlk hnm hown hh0 W hP
  obtain ⟨rfl, hB⟩ := hP
  have hB0 := hB.mv X0.warmed.alike hh0
  have c1 : Steps p.tables e below (s₁.setTop (entryFrame m #[.ref d, .int (Int32.ofNat B.slots.size)] 2)) (s₁.setTop (mkF m 0 #[.val (.ref d), .val (.int (Int32.ofNat B.slots.size))] [])) := entry rfl
  have c2 : Steps p.tables e below (s₁.setTop (entryFrame m #[.ref d, .int (Int32.ofNat B.slots.size)] 2)) (s₁.setTop (mkF m 2 #[.val (.ref d), .val (.int (Int32.ofNat B.slots.size))] [.ref d, .int (Int32.ofNat B.slots.size)])) := c1.trans (by
    refine XS.iloadN X0.here hexec rfl (hb hbytes d0) rfl ?_
    refine XS.aloadN X0.here hexec rfl (hb hbytes d1) rfl rfl ?_
    exact Steps.refl _)
  have c3 : Steps p.tables e below (s₁.setTop (entryFrame m #[.ref d, .int (Int32.ofNat B.slots.size)] 2)) (s₁.setTop (mkF m 8 #[.val (.ref d), .val (.int (Int32.ofNat B.slots.size))] [.int (lo8 (ushr (Int32.ofNat B.slots.size - Int32.ofNat B.slots.size) 31))])) := c2.trans (by
    refine X0.alen hexec hB0 rfl rfl (hb hbytes d2) ?_
    refine XS.isub X0.here hexec rfl (hb hbytes d3) rfl ?_
    refine bipushV X0.here hexec rfl 31 (hb hbytes d4) (by decide) ?_
    refine iushr X0.here hexec rfl (hb hbytes d6) rfl ?_
    refine i2b X0.here hexec rfl (hb hbytes d7) rfl ?_
    exact Steps.refl _)
  have e0 : lo8 (ushr (Int32.ofNat B.slots.size - Int32.ofNat B.slots.size) 31) = 0 := by rw [Int32.sub_self]; decide
  rw [e0] at c3
  exact ⟨s₁, some (.int 0), _, _, _, X0, rfl, rfl, rfl, (fun h => by cases h), ⟨rfl, hh0⟩, fun fs hl => c3.trans (X0.ireturnOut hexec hret rfl (Or.inr (Or.inr (Or.inl rfl))) (hb hbytes d8) hl)⟩
end CodL
/-- the String at a is Latin-1 over a new byte[] (the heap's one new cell): the low bytes of the len chars of A from o on; every cell but a is kept -/
def Got (a : Addr) (D : Cell) (fV fC : Field) (A : Cell) (o len : Nat) (r : Option Value) (s u : State) : Prop := r = none ∧ ∃ D' V : Cell, Blank "java/lang/String" a D' u ∧ Same D D' [fV.slot, fC.slot] ∧ D'.slots[fV.slot]? = some (.ref s.heap.size) ∧ D'.slots[fC.slot]? = some (.int 0) ∧ Arr .byte s.heap.size V u ∧ V.vm = .none ∧ u.vm.findClass "[B" = some V.cls ∧ V.slots.size = len ∧ (∀ j, j < len → V.slots[j]? = some (.int (lo8 (cv A (o + j))))) ∧ (∀ (y : Addr) (c : Cell), y ≠ a → s.heap[y]? = some c → u.heap[y]? = some c) ∧ u.heap.size = s.heap.size + 1
theorem Got.mv {a : Addr} {D A : Cell} {fV fC : Field} {o len : Nat} : ∀ r (U U' V V' : State), U'.heap = U.heap → V.vm.Alike V'.vm → V'.heap = V.heap → Got a D fV fC A o len r U V → Got a D fV fC A o len r U' V' :=
  fun r U U' V V' h1 hal h2 ⟨e0, D', X, a1, a2, a3, a4, a5, a6, a7, a8, a9, a10, a11⟩ => ⟨e0, D', X, a1.mv hal h2, a2, by rw [h1]; exact a3, a4, by rw [h1]; exact a5.mv hal h2, a6, by rw [hal.findClass]; exact a7, a8, a9, by rw [h1, h2]; exact a10, by rw [h1, h2]; exact a11⟩
namespace New4
def yN : MethodName := ⟨"java/lang/String", "<init>", "([CIILjava/lang/Void;)V"⟩
abbrev yB : ByteArray := jdk_42_method_149_code
theorem d0 : decode yB 0 = .ok (.aload_n 0, 1) := by decide +kernel
theorem d1 : decode yB 1 = .ok (.invokespecial 1, 3) := by decide +kernel
theorem d4 : decode yB 4 = .ok (.iload_n 3, 1) := by decide +kernel
theorem d5 : decode yB 5 = .ok (.ifCond (.ne) 22, 3) := by decide +kernel
theorem d27 : decode yB 27 = .ok (.getstatic 38, 3) := by decide +kernel
theorem d30 : decode yB 30 = .ok (.ifCond (.eq) 28, 3) := by decide +kernel
theorem d33 : decode yB 33 = .ok (.aload_n 1, 1) := by decide +kernel
theorem d34 : decode yB 34 = .ok (.iload_n 2, 1) := by decide +kernel
theorem d35 : decode yB 35 = .ok (.iload_n 3, 1) := by decide +kernel
theorem d36 : decode yB 36 = .ok (.invokestatic 177, 3) := by decide +kernel
theorem d39 : decode yB 39 = .ok (.astore 5, 2) := by decide +kernel
theorem d41 : decode yB 41 = .ok (.aload_n 0, 1) := by decide +kernel
theorem d42 : decode yB 42 = .ok (.aload 5, 2) := by decide +kernel
theorem d44 : decode yB 44 = .ok (.iload_n 3, 1) := by decide +kernel
theorem d45 : decode yB 45 = .ok (.invokestatic 47, 3) := by decide +kernel
theorem d48 : decode yB 48 = .ok (.putfield 15, 3) := by decide +kernel
theorem d51 : decode yB 51 = .ok (.aload_n 0, 1) := by decide +kernel
theorem d52 : decode yB 52 = .ok (.aload 5, 2) := by decide +kernel
theorem d54 : decode yB 54 = .ok (.putfield 9, 3) := by decide +kernel
theorem d57 : decode yB 57 = .ok (.return_, 1) := by decide +kernel
def site : List Cond := [.fieldLink "java/lang/String" 38 "java/lang/String" "COMPACT_STRINGS" "Z", Cmp3.tab, CodL.tab, .laysFinal "java/lang/String" "java/lang/String" "value" "[B", .fieldLink "java/lang/String" 9 "java/lang/String" "value" "[B", .laysFinal "java/lang/String" "java/lang/String" "coder" "B", .fieldLink "java/lang/String" 15 "java/lang/String" "coder" "B"] ++ objW "java/lang/String" 1 ++ staticW "java/lang/String" 177 Cmp3.yN ++ staticW "java/lang/String" 47 CodL.yN
def tab : Cond := tabOf yN yB 6 none site
def P (a : Addr) (D : Cell) (fV fC : Field) (b : Addr) (A : Cell) (z : Int32) (o len : Nat) (args : Array Value) (s : State) : Prop := args = #[.ref a, .ref b, .int (Int32.ofNat o), .int (Int32.ofNat len), .null] ∧ Blank "java/lang/String" a D s ∧ Found "java/lang/String" "value" "[B" fV s ∧ Found "java/lang/String" "coder" "B" fC s ∧ Ch b A s ∧ StaticIs s "java/lang/String" "COMPACT_STRINGS" "Z" (.int z) ∧ ¬ z = 0 ∧ 0 < len ∧ o + len ≤ A.slots.size ∧ len ≤ 536870912 ∧ ∀ i, i < len → ¬ 255 < cv A (o + i)
def E (a : Addr) (D : Cell) (fV fC : Field) (A : Cell) (o len : Nat) (r : Option Value) (s u : State) : Prop := Got a D fV fC A o len r s u
/-- len > 0, no char of the range above 255: a Latin-1 String of their low bytes -/
theorem law (l : Launch) (a : Addr) (D : Cell) (fV fC : Field) (b : Addr) (A : Cell) (z : Int32) (o len : Nat) : Law l yN 5 4 2 35 yB 6 none site (P a D fV fC b A z o len) (E a D fV fC A o len) [⟨a, fC.slot⟩, ⟨a, fV.slot⟩] 1 len := by
  refine Law.of_walk (plainFor_of_name (by decide +kernel)) (by decide +kernel) (by decide +kernel) (by decide) (fun _ _ h => by rw [h.1]; rfl) (fun _ U U' hal hh h => ⟨h.1, h.2.1.mv hal hh, h.2.2.1.al hal, h.2.2.2.1.al hal, h.2.2.2.2.1.mv hal hh, h.2.2.2.2.2.1.there hal hh, h.2.2.2.2.2.2⟩) (fun r U U' V V' h1 hal h2 h => Got.mv r U U' V V' h1 hal h2 h) ?_
  intro p e s m args below meth c s₁ X0 hexec hbytes hml hret hlk hnm hown hh0 W hP
  obtain ⟨rfl, hB, f1, f2, hA, s1, hz, l0, l1, l2, hp⟩ := hP
  have a31 := hA.1.2.2.2
  have c1 : Steps p.tables e below (s₁.setTop (entryFrame m #[.ref a, .ref b, .int (Int32.ofNat o), .int (Int32.ofNat len), .null] 6)) (s₁.setTop (mkF m 0 #[.val (.ref a), .val (.ref b), .val (.int (Int32.ofNat o)), .val (.int (Int32.ofNat len)), .val .null, .unset] [])) := entry rfl
  have c2 : Steps p.tables e below (s₁.setTop (entryFrame m #[.ref a, .ref b, .int (Int32.ofNat o), .int (Int32.ofNat len), .null] 6)) (s₁.setTop (mkF m 1 #[.val (.ref a), .val (.ref b), .val (.int (Int32.ofNat o)), .val (.int (Int32.ofNat len)), .val .null, .unset] [.ref a])) := c1.trans (by
    refine XS.aloadN X0.here hexec rfl (hb hbytes d0) rfl rfl ?_
    exact Steps.refl _)
  obtain ⟨T3, X3, q3, st3⟩ := X0.oinit hexec hown (wks W (objW "java/lang/String" 1)) (g := (mkF m 1 #[.val (.ref a), .val (.ref b), .val (.int (Int32.ofNat o)), .val (.int (Int32.ofNat len)), .val .null, .unset] [.ref a])) rfl (by rw [hml]; rfl) (rest := []) rfl (hb hbytes d1) (W := 0) (by show 2 * 0 + 0 ≤ _; decide) (Nat.le_of_ble_eq_true rfl) (Nat.le_of_ble_eq_true rfl)
  have hh3 := q3.trans hh0
  have c4 : Steps p.tables e below (s₁.setTop (entryFrame m #[.ref a, .ref b, .int (Int32.ofNat o), .int (Int32.ofNat len), .null] 6)) (T3.setTop (mkF m 27 #[.val (.ref a), .val (.ref b), .val (.int (Int32.ofNat o)), .val (.int (Int32.ofNat len)), .val .null, .unset] [])) := (c2.trans (st3 _ (Steps.refl _))).trans (by
    refine XS.iloadN X3.here hexec rfl (hb hbytes d4) rfl ?_
    refine XS.ifYes X3.here hexec rfl (pc0 := 5) rfl (hb hbytes d5) rfl (i0_ne_t (nz32 (by omega) l0)) (by decide) rfl ?_
    exact Steps.refl _)
  obtain ⟨T5, X5, q5, st5⟩ := X3.sget hexec hown (wk W (.fieldLink "java/lang/String" 38 "java/lang/String" "COMPACT_STRINGS" "Z")) s1 (fun _ _ h => by rw [hh3]; exact h) (g := (mkF m 27 #[.val (.ref a), .val (.ref b), .val (.int (Int32.ofNat o)), .val (.int (Int32.ofNat len)), .val .null, .unset] [])) rfl (hb hbytes d27)
  have hh5 := q5.trans hh3
  have c6 : Steps p.tables e below (s₁.setTop (entryFrame m #[.ref a, .ref b, .int (Int32.ofNat o), .int (Int32.ofNat len), .null] 6)) (T5.setTop (mkF m 30 #[.val (.ref a), .val (.ref b), .val (.int (Int32.ofNat o)), .val (.int (Int32.ofNat len)), .val .null, .unset] [.int z])) := c4.trans (st5 _ (Steps.refl _))
  have c7 : Steps p.tables e below (s₁.setTop (entryFrame m #[.ref a, .ref b, .int (Int32.ofNat o), .int (Int32.ofNat len), .null] 6)) (T5.setTop (mkF m 36 #[.val (.ref a), .val (.ref b), .val (.int (Int32.ofNat o)), .val (.int (Int32.ofNat len)), .val .null, .unset] [.int (Int32.ofNat len), .int (Int32.ofNat o), .ref b])) := c6.trans (by
    refine XS.ifNo X5.here hexec rfl (hb hbytes d30) rfl (i0_eq_f hz) ?_
    refine XS.aloadN X5.here hexec rfl (hb hbytes d33) rfl rfl ?_
    refine XS.iloadN X5.here hexec rfl (hb hbytes d34) rfl ?_
    refine XS.iloadN X5.here hexec rfl (hb hbytes d35) rfl ?_
    exact Steps.refl _)
  obtain ⟨v8, T8, X8, E8, g8⟩ := X5.callS hexec (Cmp3.law l b A o len) hown (wks W (staticW "java/lang/String" 177 Cmp3.yN)) (wk W Cmp3.tab) (W := 0) (Nat.le_of_ble_eq_true rfl) (Nat.le_of_ble_eq_true rfl) (Nat.le_refl _) (by show 0 + len ≤ len; omega) (g := (mkF m 36 #[.val (.ref a), .val (.ref b), .val (.int (Int32.ofNat o)), .val (.int (Int32.ofNat len)), .val .null, .unset] [.int (Int32.ofNat len), .int (Int32.ofNat o), .ref b])) rfl (by rw [hml]; rfl) c7 (argsL := [.ref b, .int (Int32.ofNat o), .int (Int32.ofNat len)]) (rest := []) rfl rfl (by show 2 * 0 + 0 ≤ _; decide) (hb hbytes d36) (⟨rfl, hA.mv X5.warmed.alike hh5, l1, l2, hp⟩)
  obtain ⟨e8, z8⟩ := E8
  obtain ⟨rfl, N, n1, n2, n3, n4, n5, n6⟩ := NewArr.mv _ T5 s _ _ hh5.symm (Vm.Alike.refl _) rfl e8
  rw [hh5] at z8
  have hB1 := hB.keep X8.warmed.alike (n6 _ _ hB.1)
  have hne : s.heap.size ≠ a := (Nat.ne_of_lt (Array.getElem?_eq_some_iff.mp hB.1).1).symm
  have c9 : Steps p.tables e below (s₁.setTop (entryFrame m #[.ref a, .ref b, .int (Int32.ofNat o), .int (Int32.ofNat len), .null] 6)) (T8.setTop (mkF m 39 #[.val (.ref a), .val (.ref b), .val (.int (Int32.ofNat o)), .val (.int (Int32.ofNat len)), .val .null, .unset] [.ref s.heap.size])) := g8
  have c10 : Steps p.tables e below (s₁.setTop (entryFrame m #[.ref a, .ref b, .int (Int32.ofNat o), .int (Int32.ofNat len), .null] 6)) (T8.setTop (mkF m 45 #[.val (.ref a), .val (.ref b), .val (.int (Int32.ofNat o)), .val (.int (Int32.ofNat len)), .val .null, .val (.ref s.heap.size)] [.int (Int32.ofNat N.slots.size), .ref s.heap.size, .ref a])) := by
    have hc : Steps p.tables e below (s₁.setTop (entryFrame m #[.ref a, .ref b, .int (Int32.ofNat o), .int (Int32.ofNat len), .null] 6)) (T8.setTop (mkF m 45 #[.val (.ref a), .val (.ref b), .val (.int (Int32.ofNat o)), .val (.int (Int32.ofNat len)), .val .null, .val (.ref s.heap.size)] [.int (Int32.ofNat len), .ref s.heap.size, .ref a])) := c9.trans (by
      refine XS.astore X8.here hexec rfl (hb hbytes d39) rfl rfl rfl ?_
      refine XS.aloadN X8.here hexec rfl (hb hbytes d41) rfl rfl ?_
      refine XS.aload X8.here hexec rfl (hb hbytes d42) rfl rfl ?_
      refine XS.iloadN X8.here hexec rfl (hb hbytes d44) rfl ?_
      exact Steps.refl _)
    rw [n4]; exact hc
  obtain ⟨v11, T11, X11, E11, g11⟩ := X8.callS hexec (CodL.law l s.heap.size N) hown (wks W (staticW "java/lang/String" 47 CodL.yN)) (wk W CodL.tab) (W := 1) (Nat.le_of_ble_eq_true rfl) (Nat.le_of_ble_eq_true rfl) (Nat.le_refl _) (by show 0 + len + 0 ≤ len; omega) (g := (mkF m 45 #[.val (.ref a), .val (.ref b), .val (.int (Int32.ofNat o)), .val (.int (Int32.ofNat len)), .val .null, .val (.ref s.heap.size)] [.int (Int32.ofNat N.slots.size), .ref s.heap.size, .ref a])) rfl (by rw [hml]; rfl) c10 (argsL := [.ref s.heap.size, .int (Int32.ofNat N.slots.size)]) (rest := [.ref a]) rfl rfl (by show 2 * 0 + (1 + 0) ≤ _; decide) (hb hbytes d45) (⟨rfl, n1⟩)
  obtain ⟨rfl, q11⟩ := E11
  have hB11 := hB1.mv (X8.warmed.alike.symm.trans X11.warmed.alike) q11
  have c12 : Steps p.tables e below (s₁.setTop (entryFrame m #[.ref a, .ref b, .int (Int32.ofNat o), .int (Int32.ofNat len), .null] 6)) (T11.setTop (mkF m 48 #[.val (.ref a), .val (.ref b), .val (.int (Int32.ofNat o)), .val (.int (Int32.ofNat len)), .val .null, .val (.ref s.heap.size)] [.int 0, .ref a])) := g11
  obtain ⟨T13, X13, p13, bl13, sl13, st13⟩ := X11.finit hexec hown (wk W (.fieldLink "java/lang/String" 15 "java/lang/String" "coder" "B")) (Or.inr ⟨_, (wk W (.laysFinal "java/lang/String" "java/lang/String" "coder" "B"))⟩) (Or.inl ⟨rfl, hnm⟩) f2 (Or.inl rfl) hB11 (t := .byte) (by decide +kernel) rfl (g := (mkF m 48 #[.val (.ref a), .val (.ref b), .val (.int (Int32.ofNat o)), .val (.int (Int32.ofNat len)), .val .null, .val (.ref s.heap.size)] [.int 0, .ref a])) rfl (rest := []) rfl (hb hbytes d48)
  have c14 : Steps p.tables e below (s₁.setTop (entryFrame m #[.ref a, .ref b, .int (Int32.ofNat o), .int (Int32.ofNat len), .null] 6)) (T13.setTop (mkF m 54 #[.val (.ref a), .val (.ref b), .val (.int (Int32.ofNat o)), .val (.int (Int32.ofNat len)), .val .null, .val (.ref s.heap.size)] [.ref s.heap.size, .ref a])) := (c12.trans (st13 _ (Steps.refl _))).trans (by
    refine XS.aloadN X13.here hexec rfl (hb hbytes d51) rfl rfl ?_
    refine XS.aload X13.here hexec rfl (hb hbytes d52) rfl rfl ?_
    exact Steps.refl _)
  obtain ⟨T15, X15, p15, bl15, sl15, st15⟩ := X13.finit hexec hown (wk W (.fieldLink "java/lang/String" 9 "java/lang/String" "value" "[B")) (Or.inr ⟨_, (wk W (.laysFinal "java/lang/String" "java/lang/String" "value" "[B"))⟩) (Or.inl ⟨rfl, hnm⟩) f1 (Or.inl rfl) bl13 (t := (.array .byte)) (by decide +kernel) rfl (g := (mkF m 54 #[.val (.ref a), .val (.ref b), .val (.int (Int32.ofNat o)), .val (.int (Int32.ofNat len)), .val .null, .val (.ref s.heap.size)] [.ref s.heap.size, .ref a])) rfl (rest := []) rfl (hb hbytes d54)
  have c16 : Steps p.tables e below (s₁.setTop (entryFrame m #[.ref a, .ref b, .int (Int32.ofNat o), .int (Int32.ofNat len), .null] 6)) (T15.setTop (mkF m 57 #[.val (.ref a), .val (.ref b), .val (.int (Int32.ofNat o)), .val (.int (Int32.ofNat len)), .val .null, .val (.ref s.heap.size)] [])) := c14.trans (st15 _ (Steps.refl _))
  have ap := apart (Or.inr ⟨_, (wk W (.laysFinal "java/lang/String" "java/lang/String" "value" "[B"))⟩) (Or.inr ⟨_, (wk W (.laysFinal "java/lang/String" "java/lang/String" "coder" "B"))⟩) f1 f2 (t₁ := .array .byte) (t₂ := .byte) (by decide +kernel) (by decide +kernel) (by decide)
  have al := X8.warmed.alike.symm.trans X15.warmed.alike
  have n7 : T11.heap[s.heap.size]? = some N := by rw [q11]; exact n1.1
  exact ⟨T15, none, _, _, _, X15, by simp, rfl, by omega, (fun _ => rfl), ⟨rfl, _, N, bl15, ((Same.refl D _).set _ (by simp)).set _ (by simp), sl15, (Cell.slots_setSlot_ne _ ap).trans sl13, n1.keep al (p15.other hne (p13.other hne n7)), n2, by rw [al.findClass]; exact n3, n4, n5, fun y c h1 h2 => p15.other h1 (p13.other h1 (by rw [q11]; exact n6 y c h2)), by rw [p15.2.2, p13.2.2, q11]; exact z8⟩, fun fs hl => c16.trans (X15.returnOut hexec hret (hb hbytes d57) hl)⟩
end New4
namespace New1
def yN : MethodName := ⟨"java/lang/String", "<init>", "([C)V"⟩
abbrev yB : ByteArray := jdk_42_method_3_code
theorem d0 : decode yB 0 = .ok (.aload_n 0, 1) := by decide +kernel
theorem d1 : decode yB 1 = .ok (.aload_n 1, 1) := by decide +kernel
theorem d2 : decode yB 2 = .ok (.iconst 0, 1) := by decide +kernel
theorem d3 : decode yB 3 = .ok (.aload_n 1, 1) := by decide +kernel
theorem d4 : decode yB 4 = .ok (.arraylength, 1) := by decide +kernel
theorem d5 : decode yB 5 = .ok (.aconst_null, 1) := by decide +kernel
theorem d6 : decode yB 6 = .ok (.invokespecial 27, 3) := by decide +kernel
theorem d9 : decode yB 9 = .ok (.return_, 1) := by decide +kernel
def site : List Cond := [New4.tab] ++ initW "java/lang/String" 27 New4.yN
def tab : Cond := tabOf yN yB 2 none site
def P (a : Addr) (D : Cell) (fV fC : Field) (b : Addr) (A : Cell) (z : Int32) (args : Array Value) (s : State) : Prop := args = #[.ref a, .ref b] ∧ Blank "java/lang/String" a D s ∧ Found "java/lang/String" "value" "[B" fV s ∧ Found "java/lang/String" "coder" "B" fC s ∧ Ch b A s ∧ StaticIs s "java/lang/String" "COMPACT_STRINGS" "Z" (.int z) ∧ ¬ z = 0 ∧ 0 < A.slots.size ∧ A.slots.size ≤ 536870912 ∧ ∀ i, i < A.slots.size → ¬ 255 < cv A i
def E (a : Addr) (D : Cell) (fV fC : Field) (A : Cell) (r : Option Value) (s u : State) : Prop := Got a D fV fC A 0 A.slots.size r s u
/-- new String(chars), not empty, no char above 255: a Latin-1 String of their low bytes -/
theorem law (l : Launch) (a : Addr) (D : Cell) (fV fC : Field) (b : Addr) (A : Cell) (z : Int32) : Law l yN 2 1 3 52 yB 2 none site (P a D fV fC b A z) (E a D fV fC A) [⟨a, fC.slot⟩, ⟨a, fV.slot⟩] 1 A.slots.size := by
  refine Law.of_walk (plainFor_of_name (by decide +kernel)) (by decide +kernel) (by decide +kernel) (by decide) (fun _ _ h => by rw [h.1]; rfl) (fun _ U U' hal hh h => ⟨h.1, h.2.1.mv hal hh, h.2.2.1.al hal, h.2.2.2.1.al hal, h.2.2.2.2.1.mv hal hh, h.2.2.2.2.2.1.there hal hh, h.2.2.2.2.2.2⟩) (fun r U U' V V' h1 hal h2 h => Got.mv r U U' V V' h1 hal h2 h) ?_
  intro p e s m args below meth c s₁ X0 hexec hbytes hml hret hlk hnm hown hh0 W hP
  obtain ⟨rfl, hB, f1, f2, hA, s1, hz, l0, l2, hp⟩ := hP
  have c1 : Steps p.tables e below (s₁.setTop (entryFrame m #[.ref a, .ref b] 2)) (s₁.setTop (mkF m 0 #[.val (.ref a), .val (.ref b)] [])) := entry rfl
  have c2 : Steps p.tables e below (s₁.setTop (entryFrame m #[.ref a, .ref b] 2)) (s₁.setTop (mkF m 6 #[.val (.ref a), .val (.ref b)] [.null, .int (Int32.ofNat A.slots.size), .int 0, .ref b, .ref a])) := c1.trans (by
    refine XS.aloadN X0.here hexec rfl (hb hbytes d0) rfl rfl ?_
    refine XS.aloadN X0.here hexec rfl (hb hbytes d1) rfl rfl ?_
    refine iconstV X0.here hexec rfl 0 (hb hbytes d2) (by decide) ?_
    refine XS.aloadN X0.here hexec rfl (hb hbytes d3) rfl rfl ?_
    refine X0.alen hexec (hA.1.mv X0.warmed.alike hh0) rfl rfl (hb hbytes d4) ?_
    refine XS.aconstNull X0.here hexec rfl (hb hbytes d5) ?_
    exact Steps.refl _)
  obtain ⟨v3, T3, X3, E3, g3⟩ := X0.callN hexec (New4.law l a D fV fC b A z 0 A.slots.size) rfl hown (wks W (initW "java/lang/String" 27 New4.yN)) (W New4.tab (by simp only [site, List.mem_cons, List.mem_append, true_or, or_true])) (W := 0) (Nat.le_of_ble_eq_true rfl) (Nat.le_of_ble_eq_true rfl) (Nat.le_refl _) (by show 0 + A.slots.size ≤ A.slots.size; omega) (g := (mkF m 6 #[.val (.ref a), .val (.ref b)] [.null, .int (Int32.ofNat A.slots.size), .int (Int32.ofNat 0), .ref b, .ref a])) rfl (by rw [hml]; rfl) c2 (argsL := [.ref b, .int (Int32.ofNat 0), .int (Int32.ofNat A.slots.size), .null]) (rest := []) rfl rfl (by show 2 * 0 + 0 ≤ _; decide) (hb hbytes d6) (⟨rfl, hB.mv X0.warmed.alike hh0, f1.al X0.warmed.alike, f2.al X0.warmed.alike, hA.mv X0.warmed.alike hh0, s1.there X0.warmed.alike hh0, hz, l0, by omega, l2, fun i hi => by rw [Nat.zero_add]; exact hp i hi⟩)
  have e0 := Got.mv _ s₁ s _ _ hh0.symm (Vm.Alike.refl _) rfl E3
  obtain rfl := e0.1
  have c4 : Steps p.tables e below (s₁.setTop (entryFrame m #[.ref a, .ref b] 2)) (T3.setTop (mkF m 9 #[.val (.ref a), .val (.ref b)] [])) := g3
  exact ⟨T3, none, _, _, _, X3, by simp, rfl, by omega, (fun _ => rfl), e0, fun fs hl => c4.trans (X3.returnOut hexec hret (hb hbytes d9) hl)⟩
theorem pays {l : Launch} {R : Room} {p : Program} {e : Env} {below : List Frame} {s : State} {sargs : Array Value} {len W : Nat} (a : Addr) (D : Cell) (fV fC : Field) (b : Addr) (A : Cell) (z : Int32) (htab : tab.before sargs s = true) (hfr : 4 ≤ R.frames) (hlo : W + 65 ≤ R.locals) :
    Back l R p e below s sargs yN len W (fun A₁ a₁ => A₁.cells + 1 ≤ R.cells ∧ A₁.slots + A.slots.size ≤ R.slots ∧ P a D fV fC b A z a₁ A₁.U) (fun A₁ _ v₁ B₁ => E a D fV fC A v₁ A₁.U B₁.U ∧ B₁.locs = A₁.locs ++ [⟨a, fC.slot⟩, ⟨a, fV.slot⟩] ∧ B₁.cells = A₁.cells + 1 ∧ B₁.slots = A₁.slots + A.slots.size) :=
  (law l a D fV fC b A z).pays htab hfr (by omega)
end New1
end StrChars
namespace StrChars.Road
open Jvm Sem ClassFile Op Lib Jvm.Stand Jvm.Free Jvm.Free.XT
open Jvm.Lib.Cold (StaticIs)
abbrev ST : String := "java/lang/String"
/-- every table word that New1's law asks, flat -/
abbrev words : List Jvm.Cond := [.code New1.yN New1.yB 2 none, .initialized ST, .methodLink ST 27 New4.yN, .instanceMethod New4.yN,
  .code New4.yN New4.yB 6 none, .fieldLink ST 38 ST "COMPACT_STRINGS" "Z", .laysFinal ST ST "value" "[B", .fieldLink ST 9 ST "value" "[B", .laysFinal ST ST "coder" "B", .fieldLink ST 15 ST "coder" "B",
  .methodLink ST 1 Lib.objectInit, .instanceMethod Lib.objectInit, .code Lib.objectInit ⟨#[0xb1]⟩ 1 none, .methodLink ST 177 Cmp3.yN, .static Cmp3.yN, .methodLink ST 47 CodL.yN, .static CodL.yN,
  .code Cmp3.yN Cmp3.yB 6 (some (.array .byte)), .initialized U16, .arrayClass .byte, .methodLink U16 115 Cmp5.yN, .static Cmp5.yN, .code Cmp5.yN Cmp5.yB 7 (some .int), .code CodL.yN CodL.yB 2 (some .byte)]
theorem tab_of {a : Array Value} {s : State} (h : ∀ w ∈ words, w.before a s = true) : New1.tab.before a s = true := by
  have h5 : Cmp5.tab.before a s = true := unparts (wk h (.code Cmp5.yN Cmp5.yB 7 (some .int))) (wks h (.initialized Cmp5.yN.cls :: Cmp5.site))
  have hc : CodL.tab.before a s = true := unparts (wk h (.code CodL.yN CodL.yB 2 (some .byte))) (wks h (.initialized CodL.yN.cls :: CodL.site))
  have q5 : ∀ w ∈ Cmp5.tab :: words, w.before a s = true := fun w hw => (List.mem_cons.mp hw).elim (fun e => e ▸ h5) (h w)
  have h3 : Cmp3.tab.before a s = true := unparts (wk q5 (.code Cmp3.yN Cmp3.yB 6 (some (.array .byte)))) (wks q5 (.initialized Cmp3.yN.cls :: Cmp3.site))
  have q3 : ∀ w ∈ Cmp3.tab :: CodL.tab :: words, w.before a s = true := fun w hw => (List.mem_cons.mp hw).elim (fun e => e ▸ h3) fun hw => (List.mem_cons.mp hw).elim (fun e => e ▸ hc) (h w)
  have h4 : New4.tab.before a s = true := unparts (wk q3 (.code New4.yN New4.yB 6 none)) (wks q3 (.initialized New4.yN.cls :: New4.site))
  have q4 : ∀ w ∈ New4.tab :: words, w.before a s = true := fun w hw => (List.mem_cons.mp hw).elim (fun e => e ▸ h4) (h w)
  exact unparts (wk q4 (.code New1.yN New1.yB 2 none)) (wks q4 (.initialized New1.yN.cls :: New1.site))
/-- the words ride from the start Z to the walk's own state -/
theorem moved {Z s : State} {a0 args : Array Value} (hZ : Z.Warmed39 s.vm) (hw : ∀ d ∈ words, d.before a0 Z = true) : ∀ d ∈ words, d.before args s = true := fun d hd => by
  have q := hw d hd
  have t : ∀ d ∈ words, d = .arrayClass .byte ∨ (d.onTables && d.keepsFace) = true := by decide +kernel
  rcases t d hd with rfl | t
  · exact RoadKit.mvA hZ q
  · exact RoadKit.mv hZ q t
/-- WHAT COMES BACK, over the tables of the start Z: h the heap at the call, h' behind it -/
def Q (Z : State) (x : Addr) (A : Cell) (h : Heap) (v : Option Value) (h' : Heap) (L : List Loc) : Prop := v = none ∧ (∀ y ∈ L, y.base = x) ∧ RoadKit.Keep h h' [x] ∧ h'.size = h.size + 1 ∧ RoadKit.Exa Z h' x ST ∧ RoadKit.Fld Z h' x ST "value" "[B" (.ref h.size) ∧ RoadKit.Fld Z h' x ST "coder" "B" (.int 0) ∧
  (∃ V : Cell, RoadKit.Arr Z h' h.size V .byte ∧ V.vm = .none ∧ Z.vm.findClass "[B" = some V.cls ∧ V.slots.size = A.slots.size ∧ ∀ j, j < A.slots.size → V.slots[j]? = some (.int (lo8 (cv A j)))) ∧
  ∀ (O n d : String) (w : Value), RoadKit.Fld Z h x O n d w → RoadKit.slotOf Z O n d ≠ RoadKit.slotOf Z ST "value" "[B" → RoadKit.slotOf Z O n d ≠ RoadKit.slotOf Z ST "coder" "B" → RoadKit.Fld Z h' x O n d w
/-- **new String(chars) AT A CALL, IN THE ROAD'S FORM**: for specialBack behind newO: x the fresh String, b the char[] with the cell A -/
theorem back {p : Program} {l : Launch} {e : Env} {R : Room} {s : State} {args : Array Value} {below : List Frame} {len W : Nat} {Z : State} {a0 : Array Value} {h : Heap} (hZ : Z.Warmed39 s.vm) (hw : ∀ d ∈ words, d.before a0 Z = true) {kI : Nat} (wi : (Jvm.Cond.instantiable ST kI).before a0 Z = true)
    {x b : Addr} {A : Cell} {z : Int32} {v0 c0 : Value} (E : RoadKit.Exa Z h x ST) (V : RoadKit.Fld Z h x ST "value" "[B" v0) (C : RoadKit.Fld Z h x ST "coder" "B" c0) (K : RoadKit.Arr Z h b A .char) (hty : Typed .char A) (S : RoadKit.Sta Z h ST "COMPACT_STRINGS" "Z" (.int z)) (hz : ¬ z = 0)
    (l0 : 0 < A.slots.size) (l2 : A.slots.size ≤ 536870912) (hp : ∀ i, i < A.slots.size → ¬ 255 < cv A i) (hfr : 4 ≤ R.frames) (hlo : W + 65 ≤ R.locals) :
    Back l R p e below s args New1.yN len W (fun P a => a = #[.ref x, .ref b] ∧ P.U.heap = h ∧ P.cells + 1 ≤ R.cells ∧ P.slots + A.slots.size ≤ R.slots)
      (fun P _ v B => ∃ L, Q Z x A h v B.U.heap L ∧ B.locs = P.locs ++ L ∧ B.cells = P.cells + 1 ∧ B.slots = P.slots + A.slots.size) := by
  intro m meth c P g ig mk a X hg hsize hdg hW hn hp'
  obtain ⟨rfl, rfl, r1, r2⟩ := hp'
  have al : Z.vm.Alike P.U.vm := hZ.alike.trans X.warmed.alike
  obtain ⟨D, cfV, kV, iV, fV, hD, gV, stV, knV, obV, asV, slV⟩ := id V
  obtain ⟨D', cfC, kC, iC, fC, hD', gC, stC, -, -, asC, slC⟩ := id C
  cases hD.symm.trans hD'
  obtain ⟨D2, kD, e1, e2, e3, e4, e5⟩ := id E
  cases hD.symm.trans e1
  obtain ⟨c2, k2, i1, i2, i3, -⟩ := Cond.instantiable_spec wi
  cases e2.symm.trans i1
  cases e3.symm.trans i2
  obtain ⟨kU, u1, u2⟩ := al.2.2 _ _ e3
  have hB : Blank ST x D P.U := ⟨hD, ⟨knV, fun q hq => by rw [hq] at obV; cases obV⟩, by rw [al.findClass]; exact e2, kU, u1, by rw [u2]; exact i3, by rw [u2]; exact e5 i3⟩
  have F1 : Found ST "value" "[B" fV P.U := ⟨SBG.found_only al ⟨cfV, kV, iV, gV⟩, stV⟩
  have F2 : Found ST "coder" "B" fC P.U := ⟨SBG.found_only al ⟨cfC, kC, iC, gC⟩, stC⟩
  have hA : Ch b A P.U := ⟨⟨K.1, State.isArrayOf_alike al K.2.1, K.2.2, by omega⟩, hty⟩
  have hS : StaticIs P.U ST "COMPACT_STRINGS" "Z" (.int z) := by
    obtain ⟨cfS, iS, kS, fS, st, cS, t1, t2, t3, t4, t5, t6, t7⟩ := S
    exact StaticIs.there (s := { Z with heap := P.U.heap }) ⟨cfS, iS, kS, fS, st, cS, t1, t2, t3, t4, t5, (fun q => by rw [q] at t6; cases t6), t7⟩ al rfl
  obtain ⟨v, B, X', ⟨⟨hv, E', V', q1, q2, q3, q4, q5, q6, q7, q8, q9, q10, q11⟩, hl, hc, hs⟩, st⟩ := New1.pays x D fV fC b A z (tab_of (moved hZ hw)) hfr hlo m meth c P g ig mk _ X hg hsize hdg hW hn ⟨r1, r2, rfl, hB, F1, F2, hA, hS, hz, l0, l2, hp⟩
  have al' : Z.vm.Alike B.U.vm := hZ.alike.trans X'.warmed.alike
  have hsz : E'.slots.size = D.slots.size := by
    obtain ⟨-, -, -, kB, w1, w2, w3⟩ := q1
    obtain ⟨kB', y1, y2⟩ := al'.2.2 _ _ e3
    rw [q2.2.1] at w1
    cases w1.symm.trans y1
    rw [w3, e5 i3, y2]
  refine ⟨v, B, X', ⟨_, ⟨hv, ?_, ⟨by omega, fun y cy hy hn' => q10 y cy (by simpa using hn') hy, fun y cy hy => ?_⟩, q11, ⟨E', _, q1.1, by rw [q2.2.1]; exact e2, by rw [q2.2.1]; exact e3, by rw [q2.1]; exact obV, fun _ => by rw [hsz]; exact e5 i3⟩,
    ⟨E', cfV, kV, iV, fV, q1.1, gV, stV, by rw [q2.1]; exact knV, by rw [q2.1]; exact obV, by rw [q2.2.1]; exact asV, q3⟩, ⟨E', cfC, kC, iC, fC, q1.1, gC, stC, by rw [q2.1]; exact knV, by rw [q2.1]; exact obV, by rw [q2.2.1]; exact asC, q4⟩,
    ⟨V', ⟨q5.1, State.isArrayOf_alike al'.symm q5.2.1, q5.2.2.1⟩, q6, by rw [← al'.findClass]; exact q7, q8, fun j hj => by have := q9 j hj; rwa [Nat.zero_add] at this⟩, fun O n d w F n1 n2 => ?_⟩, hl, hc, hs⟩, st⟩
  · intro y hy
    simp only [List.mem_cons, List.not_mem_nil, or_false] at hy
    rcases hy with rfl | rfl <;> rfl
  · by_cases q : y = x
    · subst q
      cases hD.symm.trans hy
      exact ⟨E', q1.1, q2.2.1, q2.1, hsz⟩
    · exact ⟨cy, q10 y cy q hy, rfl, rfl, rfl⟩
  · obtain ⟨D3, cf, k, i, f, g1, g2, g3, g4, g5, g6, g7⟩ := F
    cases hD.symm.trans g1
    simp only [RoadKit.slotOf, g2, gV, gC, Option.map_some, Option.getD_some] at n1 n2
    exact ⟨E', cf, k, i, f, q1.1, g2, g3, by rw [q2.1]; exact g4, by rw [q2.1]; exact g5, by rw [q2.2.1]; exact g6, by rw [q2.2.2 f.slot (by simp [n1, n2])]; exact g7⟩
end StrChars.Road
namespace StrChars.Road
open Jvm Sem ClassFile Op Lib Jvm.Stand Jvm.Free Jvm.Free.XT
/-- WHAT COMES BACK, the byte[] as a list of values -/
def QA (Z : State) (x : Addr) (zn : Int32) (cs : List Int32) (h : Heap) (v : Option Value) (h' : Heap) (L : List Loc) : Prop := v = none ∧ (∀ y ∈ L, y.base = x) ∧ RoadKit.Keep h h' [x] ∧ h'.size = h.size + 1 ∧ RoadKit.Exa Z h' x ST ∧ RoadKit.Fld Z h' x ST "value" "[B" (.ref h.size) ∧ RoadKit.Fld Z h' x ST "coder" "B" (.int 0) ∧
  (∃ kb, Z.vm.findClass "[B" = some kb ∧ RoadKit.Arv Z h' h.size kb .byte zn (cs.map fun c => .int (lo8 c)) (.int 0)) ∧
  ∀ (O n d : String) (w : Value), RoadKit.Fld Z h x O n d w → RoadKit.slotOf Z O n d ≠ RoadKit.slotOf Z ST "value" "[B" → RoadKit.slotOf Z O n d ≠ RoadKit.slotOf Z ST "coder" "B" → RoadKit.Fld Z h' x O n d w
/-- **new String(chars) AT A CALL, THE ARRAYS AS LISTS**: the char[] at b holds cs, not empty, no char above 255 -/
theorem backArv {p : Program} {l : Launch} {e : Env} {R : Room} {s : State} {args : Array Value} {below : List Frame} {len W : Nat} {Z : State} {a0 : Array Value} {h : Heap} (hZ : Z.Warmed39 s.vm) (hw : ∀ d ∈ words, d.before a0 Z = true) {kI : Nat} (wi : (Jvm.Cond.instantiable ST kI).before a0 Z = true)
    {x b : Addr} {k : ClassId} {zn z : Int32} {cs : List Int32} {dv v0 c0 : Value} (E : RoadKit.Exa Z h x ST) (V : RoadKit.Fld Z h x ST "value" "[B" v0) (C : RoadKit.Fld Z h x ST "coder" "B" c0) (K : RoadKit.Arv Z h b k .char zn (cs.map Value.int) dv) (S : RoadKit.Sta Z h ST "COMPACT_STRINGS" "Z" (.int z)) (hz : ¬ z = 0)
    (hlen : zn.toNatClampNeg = cs.length) (h0 : 0 < cs.length) (hbig : cs.length ≤ 536870912) (hall : ∀ c ∈ cs, ¬ 255 < c) (hfr : 4 ≤ R.frames) (hlo : W + 65 ≤ R.locals) :
    Back l R p e below s args New1.yN len W (fun P a => a = #[.ref x, .ref b] ∧ P.U.heap = h ∧ P.cells + 1 ≤ R.cells ∧ P.slots + cs.length ≤ R.slots)
      (fun P _ v B => ∃ L, QA Z x zn cs h v B.U.heap L ∧ B.locs = P.locs ++ L ∧ B.cells = P.cells + 1 ∧ B.slots = P.slots + cs.length) := by
  obtain ⟨A, K1, K2, K3, K4, K5, K6⟩ := K
  have e : A.slots.size = cs.length := K3.trans hlen
  have hat : ∀ (i : Nat) (hi : i < cs.length), A.slots[i]? = some (.int cs[i]) := fun i hi => by rw [K5 i (by omega)]; simp [List.getD_eq_getElem?_getD, hi]
  have hcv : ∀ (i : Nat) (hi : i < cs.length), cv A i = cs[i] := fun i hi => by unfold cv; rw [hat i hi]
  have hty : Typed .char A := fun i v hv => by
    have hi : i < A.slots.size := (Array.getElem?_eq_some_iff.mp hv).1
    have q := K5 i hi
    rw [hv] at q
    rw [Option.some.inj q]
    exact K6 i hi
  refine Back.mono (back hZ hw wi E V C K1 hty S hz (by omega) (by omega) (fun i hi => by rw [hcv i (by omega)]; exact hall _ (List.getElem_mem _)) hfr hlo) (fun P a hp => ⟨hp.1, hp.2.1, hp.2.2.1, by rw [e]; exact hp.2.2.2⟩) (fun P a v B hp hq => ?_)
  obtain ⟨L, ⟨q1, q2, q3, q4, q5, q6, q7, ⟨V', v1, v2, v3, v4, v5⟩, q9⟩, hl, hc, hs⟩ := hq
  refine ⟨L, ⟨q1, q2, q3, q4, q5, q6, q7, ⟨V'.cls, v3, V', v1, rfl, by rw [v4, e, hlen], K4, fun i hi => ?_, fun i hi => ?_⟩, q9⟩, hl, hc, by rw [hs, e]⟩
  · have hi' : i < cs.length := by omega
    rw [v5 i (by omega), hcv i hi']; simp [List.getD_eq_getElem?_getD, hi']
  · have hi' : i < cs.length := by omega
    simp only [List.getD_eq_getElem?_getD, List.getElem?_map, List.getElem?_eq_getElem hi', Option.map_some, Option.getD_some]
    exact fits_lo8 _
end StrChars.Road
namespace StrChars.Road
open Jvm Sem ClassFile Op Lib Jvm.Stand Jvm.Free Jvm.Free.XT
/-- WHAT COMES BACK, in the writer's own shape -/
def QV (Z : State) (x : Addr) (N : Int32) (bs : List Int32) (h : Heap) (n0 : Nat) (v : Option Value) (h' : Heap) (L : List Loc) : Prop := v = none ∧ RoadKit.Fr n0 L ∧ RoadKit.Keep h h' [x] ∧ RoadKit.Exa Z h' x ST ∧ RoadKit.Fld Z h' x ST "coder" "B" (.int 0) ∧
  ∃ (t : Addr) (kb : ClassId), n0 ≤ t ∧ h.size ≤ t ∧ ¬ t = x ∧ RoadKit.Fld Z h' x ST "value" "[B" (.ref t) ∧ RoadKit.Arv Z h' t kb .byte N (bs.map Value.int) (.int 0)
/-- **new String(chars) AT A CALL, FOR THE WRITER**: a char[] of n known ints, each 0 to 255 -/
theorem backV {p : Program} {l : Launch} {e : Env} {R : Room} {s : State} {args : Array Value} {below : List Frame} {len W : Nat} {Z : State} {a0 : Array Value} {h : Heap} (hZ : Z.Warmed39 s.vm) (hw : ∀ d ∈ words, d.before a0 Z = true) {kI : Nat} (wi : (Jvm.Cond.instantiable ST kI).before a0 Z = true)
    {x b : Addr} {kC : ClassId} {cs bs : List Int32} {d v0 c0 : Value} {z N : Int32} {n n0 : Nat} (hx0 : n0 ≤ x) (hh0 : n0 ≤ h.size) (E : RoadKit.Exa Z h x ST) (V : RoadKit.Fld Z h x ST "value" "[B" v0) (C : RoadKit.Fld Z h x ST "coder" "B" c0) (K : RoadKit.Arv Z h b kC .char N (cs.map Value.int) d) (S : RoadKit.Sta Z h ST "COMPACT_STRINGS" "Z" (.int z)) (hz : ¬ z = 0)
    (hn : cs.length = n) (hN : N = Int32.ofNat n) (l0 : 0 < n) (l2 : n ≤ 4000) (hp : ∀ c ∈ cs, ¬ c < 0 ∧ ¬ (255 : Int32) < c) (hb : bs = cs.map (fun c => c.toInt8.toInt32)) (hfr : 4 ≤ R.frames) (hlo : W + 65 ≤ R.locals) :
    Back l R p e below s args (⟨"java/lang/String", "<init>", "([C)V"⟩ : MethodName) len W (fun P a => a = #[.ref x, .ref b] ∧ P.U.heap = h ∧ P.cells + 1 ≤ R.cells ∧ P.slots + n ≤ R.slots)
      (fun P _ v B => ∃ L, QV Z x N bs h n0 v B.U.heap L ∧ B.locs = P.locs ++ L ∧ B.cells = P.cells + 1 ∧ B.slots = P.slots + n) := by
  subst hn hN hb
  refine Back.mono (backArv hZ hw wi E V C K S hz (n32 (by omega)) l0 (by omega) (fun c hc => (hp c hc).2) hfr hlo) (fun P a hp => hp) (fun P a v B hp hq => ?_)
  obtain ⟨L, ⟨q1, q2, q3, q4, q5, q6, q7, ⟨kb, v1, v2⟩, q9⟩, hl, hc, hs⟩ := hq
  exact ⟨L, ⟨q1, fun y hy => by rw [q2 y hy]; exact hx0, q3, q5, q7, h.size, kb, hh0, Nat.le_refl _, Nat.ne_of_gt E.lt, q6, by rw [List.map_map]; exact v2⟩, hl, hc, hs⟩
end StrChars.Road
end Jvm.Pilot.@@N@@
namespace Jvm.Pilot.@@N@@
open Jvm Jvm.ClassFile Sem Op Lib Jvm.Free Jvm.Stand Jvm.LawKit Jvm.RoadKit Bundle Jvm.Pilot.@@N@@.Jvm.D
/-! what is left of a run (own_Dn) and the steps towards it: a walk goes FORWARD, goal by goal, and may fork anywhere -/
section Own
variable {p : Program} {l : Launch} {e : Env} {R : Room} {s : State} {m : MethodId} {args : Array Value} {below : List Frame} {meth : Method} {c : Code} {T : State} {locs : List Loc} {cells slots : Nat} {Z : State} {a0 : Array Value} {h : Heap}
def own_Dn (p : Program) (e : Env) (below : List Frame) (G : State → Outcome → Prop) (A : State) : Prop :=
  ∃ s₂ o, Steps p.tables e below A s₂ ∧ s₂.status = .running ∧ Ended s₂ below o ∧ G s₂ o
abbrev own_Ret (s : State) (Q : Option Value → Heap → List Loc → Prop) (k n : Nat) : State → Outcome → Prop :=
  fun s₂ o => ∃ v L, o = .returned v ∧ Q v s₂.heap L ∧ FrameEnd s o s₂ L k n
theorem own_st {G : State → Outcome → Prop} {A B : State} (k : ∀ t, Steps p.tables e below B t → Steps p.tables e below A t) (d : own_Dn p e below G B) : own_Dn p e below G A := by
  obtain ⟨n, o, h1, h2⟩ := d
  exact ⟨n, o, k n h1, h2⟩
theorem own_to {G : State → Outcome → Prop} {A B : State} (k : Steps p.tables e below A B) (d : own_Dn p e below G B) : own_Dn p e below G A := by
  obtain ⟨n, o, h1, h2⟩ := d
  exact ⟨n, o, k.trans h1, h2⟩
theorem own_ret {Q : Option Value → Heap → List Loc → Prop} {v : Option Value} {k n : Nat} {g : JFrame} (X : Stand p l e R s m args below meth c T locs cells slots) (hlk : meth.locks = false) (hv : meth.sig.returnType = none → v = none)
    (hstep : ∀ fs, (∀ (f : JFrame) (acts : List Action), f.method = m → f.locked = none → f.entered = [] → (doReturn e (T.setTop f) acts v).1 = T.setFrames fs) → Steps p.tables e below (T.setTop g) (T.setFrames fs))
    (hQ : Q v T.heap locs) (hk : cells ≤ k) (hn : slots ≤ n) : own_Dn p e below (own_Ret s Q k n) (T.setTop g) := by
  obtain ⟨fs, hr, hrun, hended, hW, hsame⟩ := X.leave (v := v) hv hlk
  exact ⟨_, _, hstep fs hr, hrun, hended, v, locs, rfl, hQ, ⟨_, rfl⟩, hW, hsame.mono hk hn⟩
/-- a return of nothing -/
theorem own_retV {Q : Option Value → Heap → List Loc → Prop} {k n pc : Nat} {Ls : Array Slot} (X : Stand p l e R s m args below meth c T locs cells slots) (hx : p.tables.exec = Jvm.exec) (hlk : meth.locks = false) (hret : meth.sig.returnType = none)
    (hd : decode c.code pc = .ok (.return_, 1)) (hQ : Q none T.heap locs) (hk : cells ≤ k) (hn : slots ≤ n) : own_Dn p e below (own_Ret s Q k n) (T.setTop (mkF m pc Ls [])) :=
  own_ret X hlk (fun _ => rfl) (fun _ hr => X.returnOut hx hret hd hr) hQ hk hn
/-- a return of a value of the return type's kind -/
theorem own_retW {Q : Option Value → Heap → List Loc → Prop} {k n pc : Nat} {Ls : Array Slot} {w : Value} {t : FieldType} {i : Instr} {rest : List Value} (X : Stand p l e R s m args below meth c T locs cells slots) (hx : p.tables.exec = Jvm.exec) (hlk : meth.locks = false)
    (hret : meth.sig.returnType = some t) (hnr : narrow t w = w)
    (hi : (i = .ireturn ∧ (t = .int ∨ t = .boolean ∨ t = .byte ∨ t = .char ∨ t = .short) ∧ ∃ z, w = .int z) ∨ (i = .lreturn ∧ t = .long ∧ ∃ z, w = .long z) ∨ (i = .dreturn ∧ t = .double ∧ ∃ z, w = .double z) ∨ (i = .freturn ∧ t = .float ∧ ∃ z, w = .float z) ∨ (i = .areturn ∧ t.isReference = true ∧ w.isRef = true))
    (hd : decode c.code pc = .ok (i, 1)) (hQ : Q (some w) T.heap locs) (hk : cells ≤ k) (hn : slots ≤ n) : own_Dn p e below (own_Ret s Q k n) (T.setTop (mkF m pc Ls (w :: rest))) :=
  own_ret X hlk (fun h => by rw [hret] at h; cases h) (fun _ hr => retOut X hx hret hnr hi hd hr) hQ hk hn
theorem own_retI {Q : Option Value → Heap → List Loc → Prop} {k n pc : Nat} {Ls : Array Slot} {z : Int32} {rest : List Value} (X : Stand p l e R s m args below meth c T locs cells slots) (hx : p.tables.exec = Jvm.exec) (hlk : meth.locks = false)
    (hret : meth.sig.returnType = some .int) (hd : decode c.code pc = .ok (.ireturn, 1)) (hQ : Q (some (.int z)) T.heap locs) (hk : cells ≤ k) (hn : slots ≤ n) : own_Dn p e below (own_Ret s Q k n) (T.setTop (mkF m pc Ls (.int z :: rest))) :=
  own_retW X hx hlk hret rfl (Or.inl ⟨rfl, Or.inl rfl, z, rfl⟩) hd hQ hk hn
theorem own_retJ {Q : Option Value → Heap → List Loc → Prop} {k n pc : Nat} {Ls : Array Slot} {z : Int64} {rest : List Value} (X : Stand p l e R s m args below meth c T locs cells slots) (hx : p.tables.exec = Jvm.exec) (hlk : meth.locks = false)
    (hret : meth.sig.returnType = some .long) (hd : decode c.code pc = .ok (.lreturn, 1)) (hQ : Q (some (.long z)) T.heap locs) (hk : cells ≤ k) (hn : slots ≤ n) : own_Dn p e below (own_Ret s Q k n) (T.setTop (mkF m pc Ls (.long z :: rest))) :=
  own_retW X hx hlk hret rfl (Or.inr (Or.inl ⟨rfl, rfl, z, rfl⟩)) hd hQ hk hn
theorem own_retA {Q : Option Value → Heap → List Loc → Prop} {k n pc : Nat} {Ls : Array Slot} {a : Addr} {t : FieldType} {rest : List Value} (X : Stand p l e R s m args below meth c T locs cells slots) (hx : p.tables.exec = Jvm.exec) (hlk : meth.locks = false)
    (hret : meth.sig.returnType = some t) (ht : t.isReference = true) (hd : decode c.code pc = .ok (.areturn, 1)) (hQ : Q (some (.ref a)) T.heap locs) (hk : cells ≤ k) (hn : slots ≤ n) : own_Dn p e below (own_Ret s Q k n) (T.setTop (mkF m pc Ls (.ref a :: rest))) :=
  own_retW X hx hlk hret (by cases t <;> first | rfl | (simp [FieldType.isReference] at ht)) (Or.inr (Or.inr (Or.inr (Or.inr ⟨rfl, ht, rfl⟩)))) hd hQ hk hn
/-- a boolean, byte, char or short -/
theorem own_retN {Q : Option Value → Heap → List Loc → Prop} {k n pc : Nat} {Ls : Array Slot} {z : Int32} {t : FieldType} {rest : List Value} (X : Stand p l e R s m args below meth c T locs cells slots) (hx : p.tables.exec = Jvm.exec) (hlk : meth.locks = false)
    (hret : meth.sig.returnType = some t) (ht : t = .boolean ∨ t = .byte ∨ t = .char ∨ t = .short) (hd : decode c.code pc = .ok (.ireturn, 1)) (hQ : Q (some (.int (nar t z))) T.heap locs) (hk : cells ≤ k) (hn : slots ≤ n) : own_Dn p e below (own_Ret s Q k n) (T.setTop (mkF m pc Ls (.int z :: rest))) :=
  own_ret X hlk (fun h => by rw [hret] at h; cases h) (fun _ hr => retN X hx hret ht hd hr) hQ hk hn
/-- a static call by the callee's contract -/
theorem own_callS {rm : Room} {W : Nat} {as' : Array Value} {Q : Option Value → Heap → List Loc → Prop} {own : String} {index : Nat} {y : MethodName} {bytes : ByteArray} {maxL : Nat} {ret : Option FieldType} (X : Stand p l e R s m args below meth c T locs cells slots) (hx : p.tables.exec = Jvm.exec) (hZ : Z.Warmed39 s.vm)
    (hown : s.vm.findClass own = some m.cls) (w1 : (Cond.methodLink own index y).before a0 Z = true) (w2 : (Cond.static y).before a0 Z = true) (w3 : (Cond.initialized y.cls).before a0 Z = true) (w4 : (Cond.code y bytes maxL ret).before a0 Z = true) (hy : y.cls ≠ "java/lang/invoke/MethodHandle" ∧ y.cls ≠ "java/lang/invoke/VarHandle")
    (eT : T.heap = h) (hM : MetFree l y (head1 [Cond.code y bytes maxL ret] rm) (fun a U => a = as' ∧ Z.Warmed39 U.vm ∧ U.heap = h) (fun _ _ _ _ _ => True) (fun _ U o U' => ∃ v L, o = .returned v ∧ Q v U'.heap L ∧ FrameEnd U o U' L rm.cells rm.slots))
    {g : JFrame} (hg : g.method = m) (hsize : g.locals.size = c.maxLocals) {argsL rest : List Value} (hlen : ∀ sig, parseMethodDescriptor y.desc = some sig → argsL.length = sig.parameters.length) (hstack : g.stack = argsL.reverse ++ rest) (has : argsL.toArray = as') (hW : 2 * g.monitorRoom + (rest.map fun v => v.category).sum ≤ W)
    (hdg : decode c.code g.pc = .ok (.invokestatic index, 3)) (hf : rm.frames + 1 ≤ R.frames) (hl : W + (maxL + 11) + rm.locals ≤ R.locals) (hc : cells + rm.cells ≤ R.cells) (hsl : slots + rm.slots ≤ R.slots) :
    ∃ v T' L, Stand p l e R s m args below meth c T' (locs ++ L) (cells + rm.cells) (slots + rm.slots) ∧ Q v T'.heap L ∧
      ∀ t, Steps p.tables e below (T'.setTop { g with pc := g.pc + 3, stack := v.toList ++ rest }) t → Steps p.tables e below (T.setTop g) t := by
  obtain ⟨v, _, ⟨T', L, k', n'⟩, -, X', ⟨Lc, hQ, l1, l2, l3⟩, st⟩ := Jvm.LawKit.callS X hx hown (mvT hZ w1) (mvT hZ w2) (mvT hZ w3) (mvT hZ w4) hy (backOf (W := W) hM hZ w4 w3 hf hl) hg hsize hlen hstack hW hdg (fun _ _ => ⟨has, eT, hc, hsl⟩)
  dsimp only [Pt.U, Pt.locs, Pt.cells, Pt.slots] at X' l1 l2 l3 st hQ
  subst l1 l2 l3
  exact ⟨v, T', Lc, X', hQ, st⟩
/-- a constructor by its contract -/
theorem own_callN {rm : Room} {W : Nat} {as' : Array Value} {Q : Option Value → Heap → List Loc → Prop} {own : String} {index : Nat} {y : MethodName} {bytes : ByteArray} {maxL : Nat} (X : Stand p l e R s m args below meth c T locs cells slots) (hx : p.tables.exec = Jvm.exec) (hZ : Z.Warmed39 s.vm) (hy1 : y.name = "<init>")
    (hown : s.vm.findClass own = some m.cls) (w1 : (Cond.methodLink own index y).before a0 Z = true) (w2 : (Cond.instanceMethod y).before a0 Z = true) (w3 : (Cond.initialized y.cls).before a0 Z = true) (w4 : (Cond.code y bytes maxL none).before a0 Z = true) (hy : y.cls ≠ "java/lang/invoke/MethodHandle" ∧ y.cls ≠ "java/lang/invoke/VarHandle")
    (eT : T.heap = h) (hM : MetFree l y (head1 [Cond.code y bytes maxL none] rm) (fun a U => a = as' ∧ Z.Warmed39 U.vm ∧ U.heap = h) (fun _ _ _ _ _ => True) (fun _ U o U' => ∃ v L, o = .returned v ∧ Q v U'.heap L ∧ FrameEnd U o U' L rm.cells rm.slots))
    {g : JFrame} (hg : g.method = m) (hsize : g.locals.size = c.maxLocals) {a : Addr} {argsL rest : List Value} (hlen : ∀ sig, parseMethodDescriptor y.desc = some sig → argsL.length = sig.parameters.length) (hstack : g.stack = argsL.reverse ++ .ref a :: rest) (has : (.ref a :: argsL).toArray = as') (hW : 2 * g.monitorRoom + (rest.map fun v => v.category).sum ≤ W)
    (hdg : decode c.code g.pc = .ok (.invokespecial index, 3)) (hf : rm.frames + 1 ≤ R.frames) (hl : W + (maxL + 11) + rm.locals ≤ R.locals) (hc : cells + rm.cells ≤ R.cells) (hsl : slots + rm.slots ≤ R.slots) :
    ∃ v T' L, Stand p l e R s m args below meth c T' (locs ++ L) (cells + rm.cells) (slots + rm.slots) ∧ Q v T'.heap L ∧
      ∀ t, Steps p.tables e below (T'.setTop { g with pc := g.pc + 3, stack := v.toList ++ rest }) t → Steps p.tables e below (T.setTop g) t := by
  obtain ⟨v, _, ⟨T', L, k', n'⟩, -, X', ⟨Lc, hQ, l1, l2, l3⟩, st⟩ := X.specialBack hx hy1 hown (mvT hZ w1) (mvT hZ w2) (mvT hZ w4) hy (backOf (W := W) hM hZ w4 w3 hf hl) hg hsize (Steps.refl _) hlen hstack hW hdg (fun _ _ => ⟨has, eT, hc, hsl⟩)
  dsimp only [Pt.U, Pt.locs, Pt.cells, Pt.slots] at X' l1 l2 l3 st hQ
  subst l1 l2 l3
  exact ⟨v, T', Lc, X', hQ, fun t k => st.trans k⟩
/-- a constructor by a payer that is at hand -/
theorem own_callNK {mc ms W : Nat} {as' : Array Value} {Q : Option Value → Heap → List Loc → Prop} {own : String} {index : Nat} {y : MethodName} {bytes : ByteArray} {maxL : Nat} (X : Stand p l e R s m args below meth c T locs cells slots) (hx : p.tables.exec = Jvm.exec) (hZ : Z.Warmed39 s.vm) (hy1 : y.name = "<init>")
    (hown : s.vm.findClass own = some m.cls) (w1 : (Cond.methodLink own index y).before a0 Z = true) (w2 : (Cond.instanceMethod y).before a0 Z = true) (w4 : (Cond.code y bytes maxL none).before a0 Z = true) (hy : y.cls ≠ "java/lang/invoke/MethodHandle" ∧ y.cls ≠ "java/lang/invoke/VarHandle")
    (eT : T.heap = h) (hK : Back l R p e below s args y 3 W (fun A a => a = as' ∧ A.U.heap = h ∧ A.cells + mc ≤ R.cells ∧ A.slots + ms ≤ R.slots) (fun A _ v B => ∃ L, Q v B.U.heap L ∧ B.locs = A.locs ++ L ∧ B.cells = A.cells + mc ∧ B.slots = A.slots + ms))
    {g : JFrame} (hg : g.method = m) (hsize : g.locals.size = c.maxLocals) {a : Addr} {argsL rest : List Value} (hlen : ∀ sig, parseMethodDescriptor y.desc = some sig → argsL.length = sig.parameters.length) (hstack : g.stack = argsL.reverse ++ .ref a :: rest) (has : (.ref a :: argsL).toArray = as') (hW : 2 * g.monitorRoom + (rest.map fun v => v.category).sum ≤ W)
    (hdg : decode c.code g.pc = .ok (.invokespecial index, 3)) (hc : cells + mc ≤ R.cells) (hsl : slots + ms ≤ R.slots) :
    ∃ v T' L, Stand p l e R s m args below meth c T' (locs ++ L) (cells + mc) (slots + ms) ∧ Q v T'.heap L ∧
      ∀ t, Steps p.tables e below (T'.setTop { g with pc := g.pc + 3, stack := v.toList ++ rest }) t → Steps p.tables e below (T.setTop g) t := by
  obtain ⟨v, _, ⟨T', L, k', n'⟩, -, X', ⟨Lc, hQ, l1, l2, l3⟩, st⟩ := X.specialBack hx hy1 hown (mvT hZ w1) (mvT hZ w2) (mvT hZ w4) hy hK hg hsize (Steps.refl _) hlen hstack hW hdg (fun _ _ => ⟨has, eT, hc, hsl⟩)
  dsimp only [Pt.U, Pt.locs, Pt.cells, Pt.slots] at X' l1 l2 l3 st hQ
  subst l1 l2 l3
  exact ⟨v, T', Lc, X', hQ, fun t k => st.trans k⟩
/-- a virtual call by the contract of the method that is selected (declared by a class, the receiver exactly of the class C) -/
theorem own_callV {rm : Room} {W : Nat} {as' : Array Value} {Q : Option Value → Heap → List Loc → Prop} {own C : String} {index : Nat} {y z : MethodName} {bytes : ByteArray} {maxL : Nat} {ret : Option FieldType} (X : Stand p l e R s m args below meth c T locs cells slots) (hx : p.tables.exec = Jvm.exec) (hZ : Z.Warmed39 s.vm)
    (hown : s.vm.findClass own = some m.cls) (w1 : (Cond.methodLink own index y).before a0 Z = true) (w2 : (Cond.declares y).before a0 Z = true) (hnf : NotFace s y) (w5 : (Cond.selects C y z).before a0 Z = true) (w6 : (Cond.instanceMethod z).before a0 Z = true) (w3 : (Cond.initialized z.cls).before a0 Z = true) (w4 : (Cond.code z bytes maxL ret).before a0 Z = true) (hy : y.cls ≠ "java/lang/invoke/MethodHandle" ∧ y.cls ≠ "java/lang/invoke/VarHandle")
    (eT : T.heap = h) (hM : MetFree l z (head1 [Cond.code z bytes maxL ret] rm) (fun a U => a = as' ∧ Z.Warmed39 U.vm ∧ U.heap = h) (fun _ _ _ _ _ => True) (fun _ U o U' => ∃ v L, o = .returned v ∧ Q v U'.heap L ∧ FrameEnd U o U' L rm.cells rm.slots))
    {a : Addr} (E : Exa Z h a C) {g : JFrame} (hg : g.method = m) (hsize : g.locals.size = c.maxLocals) {argsL rest : List Value} (hlen : ∀ sig, parseMethodDescriptor y.desc = some sig → argsL.length = sig.parameters.length) (hstack : g.stack = argsL.reverse ++ .ref a :: rest) (has : (.ref a :: argsL).toArray = as') (hW : 2 * g.monitorRoom + (rest.map fun v => v.category).sum ≤ W)
    (hdg : decode c.code g.pc = .ok (.invokevirtual index, 3)) (hf : rm.frames + 1 ≤ R.frames) (hl : W + (maxL + 11) + rm.locals ≤ R.locals) (hc : cells + rm.cells ≤ R.cells) (hsl : slots + rm.slots ≤ R.slots) :
    ∃ v T' L, Stand p l e R s m args below meth c T' (locs ++ L) (cells + rm.cells) (slots + rm.slots) ∧ Q v T'.heap L ∧
      ∀ t, Steps p.tables e below (T'.setTop { g with pc := g.pc + 3, stack := v.toList ++ rest }) t → Steps p.tables e below (T.setTop g) t := by
  obtain ⟨cq, kq, qa, qb, qc⟩ := isOf hZ eT E
  obtain ⟨v, _, ⟨T', L, k', n'⟩, -, X', ⟨Lc, hQ, l1, l2, l3⟩, st⟩ := X.virtualBack hx hown (mvT hZ w1) (mvT hZ w2) hnf (mvT hZ w5) (mvT hZ w6) hy (backOf (W := W) hM hZ w4 w3 hf hl) qa qc hg hsize (Steps.refl _) hlen hstack hW hdg (fun _ _ => ⟨has, eT, hc, hsl⟩)
  dsimp only [Pt.U, Pt.locs, Pt.cells, Pt.slots] at X' l1 l2 l3 st hQ
  subst l1 l2 l3
  exact ⟨v, T', Lc, X', hQ, fun t k => st.trans k⟩
/-- a virtual call of a method that the named class inherits from 'owner' -/
theorem own_callU {rm : Room} {W : Nat} {as' : Array Value} {Q : Option Value → Heap → List Loc → Prop} {own C owner : String} {index : Nat} {y z : MethodName} {bytes : ByteArray} {maxL : Nat} {ret : Option FieldType} (X : Stand p l e R s m args below meth c T locs cells slots) (hx : p.tables.exec = Jvm.exec) (hZ : Z.Warmed39 s.vm)
    (hown : s.vm.findClass own = some m.cls) (w1 : (Cond.methodLink own index y).before a0 Z = true) (w2 : (Cond.sameMethod y.cls owner y.name y.desc).before a0 Z = true) (w7 : (Cond.declares ⟨owner, y.name, y.desc⟩).before a0 Z = true) (ho : owner ≠ "java/lang/invoke/MethodHandle" ∧ owner ≠ "java/lang/invoke/VarHandle") (w5 : (Cond.selects C y z).before a0 Z = true) (w6 : (Cond.instanceMethod z).before a0 Z = true) (w3 : (Cond.initialized z.cls).before a0 Z = true) (w4 : (Cond.code z bytes maxL ret).before a0 Z = true)
    (eT : T.heap = h) (hM : MetFree l z (head1 [Cond.code z bytes maxL ret] rm) (fun a U => a = as' ∧ Z.Warmed39 U.vm ∧ U.heap = h) (fun _ _ _ _ _ => True) (fun _ U o U' => ∃ v L, o = .returned v ∧ Q v U'.heap L ∧ FrameEnd U o U' L rm.cells rm.slots))
    {a : Addr} (E : Exa Z h a C) {g : JFrame} (hg : g.method = m) (hsize : g.locals.size = c.maxLocals) {argsL rest : List Value} (hlen : ∀ sig, parseMethodDescriptor y.desc = some sig → argsL.length = sig.parameters.length) (hstack : g.stack = argsL.reverse ++ .ref a :: rest) (has : (.ref a :: argsL).toArray = as') (hW : 2 * g.monitorRoom + (rest.map fun v => v.category).sum ≤ W)
    (hdg : decode c.code g.pc = .ok (.invokevirtual index, 3)) (hf : rm.frames + 1 ≤ R.frames) (hl : W + (maxL + 11) + rm.locals ≤ R.locals) (hc : cells + rm.cells ≤ R.cells) (hsl : slots + rm.slots ≤ R.slots) :
    ∃ v T' L, Stand p l e R s m args below meth c T' (locs ++ L) (cells + rm.cells) (slots + rm.slots) ∧ Q v T'.heap L ∧
      ∀ t, Steps p.tables e below (T'.setTop { g with pc := g.pc + 3, stack := v.toList ++ rest }) t → Steps p.tables e below (T.setTop g) t := by
  obtain ⟨cq, kq, qa, qb, qc⟩ := isOf hZ eT E
  obtain ⟨v, _, ⟨T', L, k', n'⟩, -, X', ⟨Lc, hQ, l1, l2, l3⟩, st⟩ := X.virtualBackUp hx hown (mvT hZ w1) (mvT hZ w2) (mvT hZ w7) ho (mvT hZ w5) (mvT hZ w6) (backOf (W := W) hM hZ w4 w3 hf hl) qa qc hg hsize (Steps.refl _) hlen hstack hW hdg (fun _ _ => ⟨has, eT, hc, hsl⟩)
  dsimp only [Pt.U, Pt.locs, Pt.cells, Pt.slots] at X' l1 l2 l3 st hQ
  subst l1 l2 l3
  exact ⟨v, T', Lc, X', hQ, fun t k => st.trans k⟩
theorem own_lrem {g : JFrame} {target : State} (X : Stand p l e R s m args below meth c T locs cells slots) (hx : p.tables.exec = Jvm.exec) (hg : g.method = m) {x y : Int64} {rest : List Value} (hd : decode c.code g.pc = .ok (.lrem, 1)) (hs : g.stack = .long y :: .long x :: rest) (hy : y ≠ 0)
    (hr : Steps p.tables e below (T.setTop { g with pc := g.pc + 1, stack := .long (x % y) :: rest }) target) : Steps p.tables e below (T.setTop g) target :=
  XS.lrem X.here hx hg hd hs hy (by rw [lrem_mod]; exact hr)
end Own
/-! ints as integers -/
theorem own_tL {x y : Int32} (h : x < y) : x.toInt < y.toInt := Int32.lt_iff_toInt_lt.mp h
theorem own_tLn {x y : Int32} (h : ¬ x < y) : ¬ x.toInt < y.toInt := fun q => h (Int32.lt_iff_toInt_lt.mpr q)
theorem own_tE {x y : Int32} (h : x = y) : x.toInt = y.toInt := congrArg _ h
theorem own_tEn {x y : Int32} (h : ¬ x = y) : ¬ x.toInt = y.toInt := fun q => h (Int32.toInt_inj.mp q)
theorem own_uL {x y : Int64} (h : x < y) : x.toInt < y.toInt := Int64.lt_iff_toInt_lt.mp h
theorem own_uLn {x y : Int64} (h : ¬ x < y) : ¬ x.toInt < y.toInt := fun q => h (Int64.lt_iff_toInt_lt.mpr q)
theorem own_uE {x y : Int64} (h : x = y) : x.toInt = y.toInt := congrArg _ h
theorem own_uEn {x y : Int64} (h : ¬ x = y) : ¬ x.toInt = y.toInt := fun q => h (Int64.toInt_inj.mp q)
/-! an array by its values: n places, place i holds f i -/
section OwnArr
variable {p : Program} {l : Launch} {e : Env} {R : Room} {s : State} {m : MethodId} {args : Array Value} {below : List Frame} {meth : Method} {c : Code} {T : State} {locs : List Loc} {cells slots : Nat} {Z : State} {a0 : Array Value} {h h' : Heap} {a b : Addr} {ty : FieldType} {n sl : Nat} {f : Nat → Value} {v : Value} {ws : List Addr}
def own_AV (Z : State) (h : Heap) (a : Addr) (ty : FieldType) (n : Nat) (f : Nat → Value) : Prop := ∃ cl : Cell, Arr Z h a cl ty ∧ cl.slots.size = n ∧ ∀ i, i < n → cl.slots[i]? = some (f i)
theorem own_AV.new {k : ClassId} {z : Int32} (A : Arr Z h a (newA k ty z) ty) (hn : z.toNatClampNeg = n) : own_AV Z h a ty n (fun _ => defaultValue ty) := by
  subst hn
  exact ⟨_, A, sz_new _ _ _, fun i hi => by simp [newA, hi]⟩
theorem own_AV.ext (F : own_AV Z h a ty n f) (E : Ext h h') : own_AV Z h' a ty n f := by
  obtain ⟨cl, A, r⟩ := F
  exact ⟨cl, A.ext E, r⟩
theorem own_AV.other (F : own_AV Z h b ty n f) (W : Wr h h' a sl v) (q : b ≠ a) : own_AV Z h' b ty n f := by
  obtain ⟨cl, A, r⟩ := F
  exact ⟨cl, A.other W q, r⟩
theorem own_AV.lt (F : own_AV Z h a ty n f) : a < h.size := by
  obtain ⟨cl, A, r⟩ := F
  exact A.lt
theorem own_AV.same {i : Nat} (F : own_AV Z h a ty n f) (W : Wr h h' a i v) (hi : i < n) : own_AV Z h' a ty n (fun k => if k = i then v else f k) := by
  obtain ⟨cl, A, S, H⟩ := F
  refine ⟨_, A.same W, (sz_set _ _ _).trans S, fun k hk => ?_⟩
  by_cases q : k = i
  · subst q
    simp [Cell.setSlot, S, hk]
  · simp only [Cell.setSlot, if_neg q]
    rw [Array.getElem?_setIfInBounds_ne (Ne.symm q)]
    exact H k hk
theorem own_AV.congr {f' : Nat → Value} (F : own_AV Z h a ty n f) (q : ∀ i, i < n → f i = f' i) : own_AV Z h a ty n f' := by
  obtain ⟨cl, A, S, H⟩ := F
  exact ⟨cl, A, S, fun i hi => (H i hi).trans (congrArg some (q i hi))⟩
theorem own_AV.keep (F : own_AV Z h a ty n f) (K : Keep h h' ws) (q : a ∉ ws) : own_AV Z h' a ty n f := by
  obtain ⟨cl, A, r⟩ := F
  exact ⟨cl, ⟨K.2.1 _ _ A.1 q, A.2⟩, r⟩
theorem own_AV.arv {z : Int32} {vs : List Value} {d : Value} (F : own_AV Z h a ty n f) (hz : z.toNatClampNeg = n) (h0 : ¬ z < 0) (hv : ∀ i, i < n → vs.getD i d = f i) (hf : ∀ i, i < n → fits ty (f i) = true) : ∃ k, Arv Z h a k ty z vs d := by
  obtain ⟨cl, A, S, H⟩ := F
  refine ⟨cl.cls, cl, A, rfl, S.trans hz.symm, h0, fun i hi => ?_, fun i hi => ?_⟩
  · rw [hv i (S ▸ hi)]
    exact H i (S ▸ hi)
  · rw [hv i (S ▸ hi)]
    exact hf i (S ▸ hi)
theorem own_AV.of_arv {k : ClassId} {z : Int32} {vs : List Value} {d : Value} (F : Arv Z h a k ty z vs d) (hz : z.toNatClampNeg = n) : own_AV Z h a ty n (fun i => vs.getD i d) := by
  obtain ⟨cl, A, -, S, -, H, -⟩ := F
  exact ⟨cl, A, S.trans hz, fun i hi => H i (by rw [S, hz]; exact hi)⟩
theorem own_inb {cl : Cell} {j : Int32} {i : Nat} (S : cl.slots.size = n) (hj : j.toNatClampNeg = i) (h0 : ¬ j < 0) (hi : i < n) : ¬ (j < 0 ∨ cl.slots.size ≤ j.toNatClampNeg) := by
  rintro (q | q)
  · exact h0 q
  · rw [S, hj] at q
    omega
theorem own_caload (X : Stand p l e R s m args below meth c T locs cells slots) (hx : p.tables.exec = Jvm.exec) (hZ : Z.Warmed39 s.vm) (eT : T.heap = h) (F : own_AV Z h a .char n f) {j : Int32} {i : Nat} (hj : j.toNatClampNeg = i) (h0 : ¬ j < 0) (hi : i < n) {g : JFrame} (hg : g.method = m) {rest : List Value} (hs : g.stack = .int j :: .ref a :: rest) (hd : decode c.code g.pc = .ok (.caload, 1)) :
    ∀ t, Steps p.tables e below (T.setTop { g with pc := g.pc + 1, stack := f i :: rest }) t → Steps p.tables e below (T.setTop g) t := by
  obtain ⟨cl, A, S, H⟩ := F
  exact fun t k => X.caload hx (by rw [eT]; exact A.1) (State.isArrayOf_alike hZ.alike A.2.1) A.2.2 (own_inb S hj h0 hi) (by rw [hj]; exact H i hi) hg hs hd t k
theorem own_iaload (X : Stand p l e R s m args below meth c T locs cells slots) (hx : p.tables.exec = Jvm.exec) (hZ : Z.Warmed39 s.vm) (eT : T.heap = h) (F : own_AV Z h a .int n f) {j : Int32} {i : Nat} (hj : j.toNatClampNeg = i) (h0 : ¬ j < 0) (hi : i < n) {g : JFrame} (hg : g.method = m) {rest : List Value} (hs : g.stack = .int j :: .ref a :: rest) (hd : decode c.code g.pc = .ok (.iaload, 1)) :
    ∀ t, Steps p.tables e below (T.setTop { g with pc := g.pc + 1, stack := f i :: rest }) t → Steps p.tables e below (T.setTop g) t := by
  obtain ⟨cl, A, S, H⟩ := F
  exact fun t k => X.iaload hx (by rw [eT]; exact A.1) (State.isArrayOf_alike hZ.alike A.2.1) A.2.2 (own_inb S hj h0 hi) (by rw [hj]; exact H i hi) hg hs hd t k
theorem own_laload (X : Stand p l e R s m args below meth c T locs cells slots) (hx : p.tables.exec = Jvm.exec) (hZ : Z.Warmed39 s.vm) (eT : T.heap = h) (F : own_AV Z h a .long n f) {j : Int32} {i : Nat} (hj : j.toNatClampNeg = i) (h0 : ¬ j < 0) (hi : i < n) {g : JFrame} (hg : g.method = m) {rest : List Value} (hs : g.stack = .int j :: .ref a :: rest) (hd : decode c.code g.pc = .ok (.laload, 1)) :
    ∀ t, Steps p.tables e below (T.setTop { g with pc := g.pc + 1, stack := f i :: rest }) t → Steps p.tables e below (T.setTop g) t := by
  obtain ⟨cl, A, S, H⟩ := F
  exact fun t k => X.laload hx (by rw [eT]; exact A.1) (State.isArrayOf_alike hZ.alike A.2.1) A.2.2 (own_inb S hj h0 hi) (by rw [hj]; exact H i hi) hg hs hd t k
theorem own_baload (X : Stand p l e R s m args below meth c T locs cells slots) (hx : p.tables.exec = Jvm.exec) (hZ : Z.Warmed39 s.vm) (eT : T.heap = h) (F : own_AV Z h a .byte n f) {j : Int32} {i : Nat} (hj : j.toNatClampNeg = i) (h0 : ¬ j < 0) (hi : i < n) {g : JFrame} (hg : g.method = m) {rest : List Value} (hs : g.stack = .int j :: .ref a :: rest) (hd : decode c.code g.pc = .ok (.baload, 1)) :
    ∀ t, Steps p.tables e below (T.setTop { g with pc := g.pc + 1, stack := f i :: rest }) t → Steps p.tables e below (T.setTop g) t := by
  obtain ⟨cl, A, S, H⟩ := F
  exact fun t k => X.baloadBytes hx (by rw [eT]; exact A.1) (State.isArrayOf_alike hZ.alike A.2.1) A.2.2 (own_inb S hj h0 hi) (by rw [hj]; exact H i hi) hg hs hd t k
theorem own_alen (X : Stand p l e R s m args below meth c T locs cells slots) (hx : p.tables.exec = Jvm.exec) (hZ : Z.Warmed39 s.vm) (eT : T.heap = h) (F : own_AV Z h a ty n f) {z : Int32} (hz : n.toInt32 = z) {g : JFrame} (hg : g.method = m) {rest : List Value} (hs : g.stack = .ref a :: rest) (hd : decode c.code g.pc = .ok (.arraylength, 1)) :
    ∀ t, Steps p.tables e below (T.setTop { g with pc := g.pc + 1, stack := .int z :: rest }) t → Steps p.tables e below (T.setTop g) t := by
  obtain ⟨cl, A, S, H⟩ := F
  refine fun t k => X.arraylength hx (by rw [eT]; exact A.1) (State.isArrayOf_alike hZ.alike A.2.1) hg hs hd t ?_
  rw [S, hz]
  exact k
theorem own_stI (X : Stand p l e R s m args below meth c T locs cells slots) (hx : p.tables.exec = Jvm.exec) (hZ : Z.Warmed39 s.vm) (eT : T.heap = h) (F : own_AV Z h a .int n f) {j x : Int32} {i : Nat} (hj : j.toNatClampNeg = i) (h0 : ¬ j < 0) (hi : i < n) {g : JFrame} (hg : g.method = m) {rest : List Value} (hs : g.stack = .int x :: .int j :: .ref a :: rest) (hd : decode c.code g.pc = .ok (.iastore, 1)) :
    ∃ T' h', Stand p l e R s m args below meth c T' (locs ++ [⟨a, i⟩]) cells slots ∧ T'.heap = h' ∧ Wr h h' a i (.int x) ∧ own_AV Z h' a .int n (fun k => if k = i then .int x else f k) ∧ ∀ target, Steps p.tables e below (T'.setTop { g with pc := g.pc + 1, stack := rest }) target → Steps p.tables e below (T.setTop g) target := by
  obtain ⟨cl, A, S, H⟩ := F
  subst hj
  obtain ⟨T', h', X', e', W, st⟩ := stI X hx hZ eT A (own_inb S rfl h0 hi) hg hs hd
  exact ⟨T', h', X', e', W, own_AV.same ⟨cl, A, S, H⟩ W hi, st⟩
theorem own_stJ (X : Stand p l e R s m args below meth c T locs cells slots) (hx : p.tables.exec = Jvm.exec) (hZ : Z.Warmed39 s.vm) (eT : T.heap = h) (F : own_AV Z h a .long n f) {j : Int32} {x : Int64} {i : Nat} (hj : j.toNatClampNeg = i) (h0 : ¬ j < 0) (hi : i < n) {g : JFrame} (hg : g.method = m) {rest : List Value} (hs : g.stack = .long x :: .int j :: .ref a :: rest) (hd : decode c.code g.pc = .ok (.lastore, 1)) :
    ∃ T' h', Stand p l e R s m args below meth c T' (locs ++ [⟨a, i⟩]) cells slots ∧ T'.heap = h' ∧ Wr h h' a i (.long x) ∧ own_AV Z h' a .long n (fun k => if k = i then .long x else f k) ∧ ∀ target, Steps p.tables e below (T'.setTop { g with pc := g.pc + 1, stack := rest }) target → Steps p.tables e below (T.setTop g) target := by
  obtain ⟨cl, A, S, H⟩ := F
  subst hj
  obtain ⟨T', h', X', e', W, st⟩ := stJ X hx hZ eT A (own_inb S rfl h0 hi) hg hs hd
  exact ⟨T', h', X', e', W, own_AV.same ⟨cl, A, S, H⟩ W hi, st⟩
theorem own_stC (X : Stand p l e R s m args below meth c T locs cells slots) (hx : p.tables.exec = Jvm.exec) (hZ : Z.Warmed39 s.vm) (eT : T.heap = h) (F : own_AV Z h a .char n f) {j x : Int32} {i : Nat} (hj : j.toNatClampNeg = i) (h0 : ¬ j < 0) (hi : i < n) {g : JFrame} (hg : g.method = m) {rest : List Value} (hs : g.stack = .int x :: .int j :: .ref a :: rest) (hd : decode c.code g.pc = .ok (.castore, 1)) :
    ∃ T' h', Stand p l e R s m args below meth c T' (locs ++ [⟨a, i⟩]) cells slots ∧ T'.heap = h' ∧ Wr h h' a i (.int (nar .char x)) ∧ own_AV Z h' a .char n (fun k => if k = i then .int (nar .char x) else f k) ∧ ∀ target, Steps p.tables e below (T'.setTop { g with pc := g.pc + 1, stack := rest }) target → Steps p.tables e below (T.setTop g) target := by
  obtain ⟨cl, A, S, H⟩ := F
  subst hj
  obtain ⟨T', h', X', e', W, st⟩ := stC X hx hZ eT A (own_inb S rfl h0 hi) hg hs hd
  exact ⟨T', h', X', e', W, own_AV.same ⟨cl, A, S, H⟩ W hi, st⟩
theorem own_stB (X : Stand p l e R s m args below meth c T locs cells slots) (hx : p.tables.exec = Jvm.exec) (hZ : Z.Warmed39 s.vm) (eT : T.heap = h) (F : own_AV Z h a .byte n f) {j x : Int32} {i : Nat} (hj : j.toNatClampNeg = i) (h0 : ¬ j < 0) (hi : i < n) {g : JFrame} (hg : g.method = m) {rest : List Value} (hs : g.stack = .int x :: .int j :: .ref a :: rest) (hd : decode c.code g.pc = .ok (.bastore, 1)) :
    ∃ T' h', Stand p l e R s m args below meth c T' (locs ++ [⟨a, i⟩]) cells slots ∧ T'.heap = h' ∧ Wr h h' a i (.int (nar .byte x)) ∧ own_AV Z h' a .byte n (fun k => if k = i then .int (nar .byte x) else f k) ∧ ∀ target, Steps p.tables e below (T'.setTop { g with pc := g.pc + 1, stack := rest }) target → Steps p.tables e below (T.setTop g) target := by
  obtain ⟨cl, A, S, H⟩ := F
  subst hj
  obtain ⟨T', h', X', e', W, st⟩ := stB X hx hZ eT A (own_inb S rfl h0 hi) hg hs hd
  exact ⟨T', h', X', e', W, own_AV.same ⟨cl, A, S, H⟩ W hi, st⟩
end OwnArr
/-! bodies that may load a String constant cold: the end is ReturnedEndW, the Stand goes on over the start with the tables at hand -/
section OwnWide
variable {p : Program} {l : Launch} {e : Env} {R : Room} {s : State} {m : MethodId} {args : Array Value} {below : List Frame} {meth : Method} {c : Code} {T : State} {locs : List Loc} {cells slots : Nat} {Z : State} {a0 : Array Value} {h : Heap} {vm0 : Vm} {k0 : Nat}
abbrev own_RetW (s : State) (Q : Option Value → Heap → List Loc → Prop) (k n : Nat) : State → Outcome → Prop :=
  fun s₂ o => ∃ v L, o = .returned v ∧ Q v s₂.heap L ∧ ReturnedEndW s o s₂ L k n
theorem own_since (s : State) : s.Since s.vm 0 := (State.WarmedH.refl s).since 0
theorem own_wret {Q : Option Value → Heap → List Loc → Prop} {v : Option Value} {k n : Nat} {g : JFrame} (X : Stand p l e R (s.setVm vm0) m args below meth c T locs cells slots) (hS : s.Since vm0 k0) (hk0 : k0 ≤ T.heap.size) (hlk : meth.locks = false) (hv : meth.sig.returnType = none → v = none)
    (hstep : ∀ fs, (∀ (f : JFrame) (acts : List Action), f.method = m → f.locked = none → f.entered = [] → (doReturn e (T.setTop f) acts v).1 = T.setFrames fs) → Steps p.tables e below (T.setTop g) (T.setFrames fs))
    (hQ : Q v T.heap locs) (hk : cells ≤ k) (hn : slots ≤ n) : own_Dn p e below (own_RetW s Q k n) (T.setTop g) := by
  obtain ⟨fs, hr, hrun, hended, hE⟩ := X.leaveW hS hk0 (v := v) hv hlk
  exact ⟨_, _, hstep fs hr, hrun, hended, v, locs, rfl, hQ, hE.1, hE.2.1, hE.2.2.1, hE.2.2.2.mono hk hn⟩
theorem own_wretV {Q : Option Value → Heap → List Loc → Prop} {k n pc : Nat} {Ls : Array Slot} (X : Stand p l e R (s.setVm vm0) m args below meth c T locs cells slots) (hS : s.Since vm0 k0) (hk0 : k0 ≤ T.heap.size) (hx : p.tables.exec = Jvm.exec) (hlk : meth.locks = false) (hret : meth.sig.returnType = none)
    (hd : decode c.code pc = .ok (.return_, 1)) (hQ : Q none T.heap locs) (hk : cells ≤ k) (hn : slots ≤ n) : own_Dn p e below (own_RetW s Q k n) (T.setTop (mkF m pc Ls [])) :=
  own_wret X hS hk0 hlk (fun _ => rfl) (fun _ hr => X.returnOut hx hret hd hr) hQ hk hn
theorem own_wretN {Q : Option Value → Heap → List Loc → Prop} {k n pc : Nat} {Ls : Array Slot} {z : Int32} {t : FieldType} {rest : List Value} (X : Stand p l e R (s.setVm vm0) m args below meth c T locs cells slots) (hS : s.Since vm0 k0) (hk0 : k0 ≤ T.heap.size) (hx : p.tables.exec = Jvm.exec) (hlk : meth.locks = false)
    (hret : meth.sig.returnType = some t) (ht : t = .boolean ∨ t = .byte ∨ t = .char ∨ t = .short) (hd : decode c.code pc = .ok (.ireturn, 1)) (hQ : Q (some (.int (nar t z))) T.heap locs) (hk : cells ≤ k) (hn : slots ≤ n) : own_Dn p e below (own_RetW s Q k n) (T.setTop (mkF m pc Ls (.int z :: rest))) :=
  own_wret X hS hk0 hlk (fun h => by rw [hret] at h; cases h) (fun _ hr => retN X hx hret ht hd hr) hQ hk hn
/-- a constructor that may load String constants, by its contract -/
theorem own_callNW {rm : Room} {W : Nat} {as' : Array Value} {Q : Option Value → Heap → List Loc → Prop} {own : String} {index : Nat} {y : MethodName} {bytes : ByteArray} {maxL : Nat} (X : Stand p l e R (s.setVm vm0) m args below meth c T locs cells slots) (hS : s.Since vm0 k0) (hx : p.tables.exec = Jvm.exec) (hZ : Z.Warmed39 (s.setVm vm0).vm) (hy1 : y.name = "<init>")
    (hown : (s.setVm vm0).vm.findClass own = some m.cls) (w1 : (Cond.methodLink own index y).before a0 Z = true) (w2 : (Cond.instanceMethod y).before a0 Z = true) (w3 : (Cond.initialized y.cls).before a0 Z = true) (w4 : (Cond.code y bytes maxL none).before a0 Z = true) (hy : y.cls ≠ "java/lang/invoke/MethodHandle" ∧ y.cls ≠ "java/lang/invoke/VarHandle")
    (eT : T.heap = h) (hk0 : k0 ≤ h.size) (hM : MetFree l y (head1 [Cond.code y bytes maxL none] rm) (fun a U => a = as' ∧ Z.Warmed39 U.vm ∧ U.heap = h) (fun _ _ _ _ _ => True) (fun _ U o U' => ∃ v L, o = .returned v ∧ Q v U'.heap L ∧ ReturnedEndW U o U' L rm.cells rm.slots))
    {g : JFrame} (hg : g.method = m) (hsize : g.locals.size = c.maxLocals) {a : Addr} {argsL rest : List Value} (hlen : ∀ sig, parseMethodDescriptor y.desc = some sig → argsL.length = sig.parameters.length) (hstack : g.stack = argsL.reverse ++ .ref a :: rest) (has : (.ref a :: argsL).toArray = as') (hW : 2 * g.monitorRoom + (rest.map fun v => v.category).sum ≤ W)
    (hdg : decode c.code g.pc = .ok (.invokespecial index, 3)) (hf : rm.frames + 1 ≤ R.frames) (hl : W + (maxL + 11) + rm.locals ≤ R.locals) (hc : cells + rm.cells ≤ R.cells) (hsl : slots + rm.slots ≤ R.slots) :
    ∃ v T' L, Stand p l e R (s.setVm T'.vm) m args below meth c T' (locs ++ L) (cells + rm.cells) (slots + rm.slots) ∧ s.Since T'.vm T'.heap.size ∧ h.size ≤ T'.heap.size ∧ Z.Warmed39 (s.setVm T'.vm).vm ∧ (s.setVm T'.vm).vm.findClass own = some m.cls ∧ Q v T'.heap L ∧
      ∀ t, Steps p.tables e below (T'.setTop { g with pc := g.pc + 3, stack := v.toList ++ rest }) t → Steps p.tables e below (T.setTop g) t := by
  obtain ⟨v, _, ⟨T', L, k', n'⟩, -, X', h2, hgr, ⟨Lc, hQ, l1, l2, l3⟩, st⟩ := X.specialBackS hx hy1 hown (mvT hZ w1) (mvT hZ w2) (mvT hZ w4) hy (backOfS (W := W) hM hZ w4 w3 hf hl) hg hsize (Steps.refl _) hlen hstack hW hdg (fun _ _ => ⟨has, eT, hc, hsl⟩)
  dsimp only [Pt.U, Pt.locs, Pt.cells, Pt.slots] at X' h2 hgr l1 l2 l3 st hQ
  subst l1 l2 l3
  rw [eT] at hgr
  obtain ⟨X2, hS2, hZ2, ho2⟩ := rebS hS hk0 X' h2 hgr hZ hown
  exact ⟨v, T', Lc, X2, hS2, hgr, hZ2, ho2, hQ, fun t k => st.trans k⟩
end OwnWide
theorem own_wS {a0 : Array Value} {Z : State} (hw : ∀ d ∈ tables_1, d.before a0 Z = true) : ∀ a ∈ Bundle.stringAtoms, a.before a0 Z = true := fun d hd => hw d ((by decide +kernel : ∀ d ∈ Bundle.stringAtoms, d ∈ tables_1) d hd)
def own_QN (h0 : Heap) (v : Option Value) (h : Heap) (L : List Loc) : Prop := v = none ∧ L = [] ∧ h = h0
def own_QP (x : Int32) (h0 : Heap) (v : Option Value) (h : Heap) (L : List Loc) : Prop := v = some (.int x) ∧ L = [] ∧ h = h0
def own_QI (Z : State) (a1 : Addr) (vd : Int64) (md : Int32) (n0 : Nat) (v : Option Value) (h : Heap) (L : List Loc) : Prop := v = none ∧ Fr n0 L ∧ Exa Z h a1 "com/example/avocet/avocet/diameter/AvpDefinition" ∧ Fld Z h a1 "com/example/avocet/avocet/diameter/AvpDefinition" "vendorId" "J" (.long vd) ∧ Fld Z h a1 "com/example/avocet/avocet/diameter/AvpDefinition" "mandatory" "Z" (.int md)
def own_Q0 (n0 : Nat) (v : Option Value) (h : Heap) (L : List Loc) : Prop := v = some (.int 1) ∧ Fr n0 L
def own_fl (vd : Int64) (md : Int32) : Int32 := (if vd = 0 then 0 else 128) ||| (if md = 0 then 0 else 64)
theorem own_u32 (x : Int64) : 0 ≤ (x &&& 4294967295).toInt ∧ (x &&& 4294967295).toInt ≤ 4294967295 := by
  have h := c_maskL x 4294967295 32 (by decide) (by decide)
  omega
theorem own_nneg {x : Int64} (h : 0 ≤ x.toInt) : ¬ x < 0 := fun q => by
  have q' := own_uL q
  have z : (0 : Int64).toInt = 0 := by decide
  rw [z] at q'
  omega
theorem own_nbig {x : Int64} (h : x.toInt ≤ 4294967295) : ¬ (4294967295 : Int64) < x := fun q => by
  have q' := own_uL q
  have z : (4294967295 : Int64).toInt = 4294967295 := by decide
  rw [z] at q'
  omega
theorem own_and255 (x : Int32) : ¬ (x &&& 255) < 0 ∧ ¬ (255 : Int32) < (x &&& 255) := by
  have h := c_mask x 255 8 (by decide) (by decide)
  constructor
  · intro q
    have q' := own_tL q
    have z : (0 : Int32).toInt = 0 := by decide
    rw [z] at q'
    omega
  · intro q
    have q' := own_tL q
    have z : (255 : Int32).toInt = 255 := by decide
    rw [z] at q'
    omega
theorem own_ch (x : Int32) : nar .char ((x &&& 255).toUInt32.toUInt16.toUInt32.toInt32) = x &&& 255 := by
  simp only [nar, i2c_mask]
theorem own_ch2 (x : Int32) : fits .char (.int (x &&& 255)) = true := by
  rw [← own_ch]
  exact fits_nar_char _
theorem d1_0 : decode prog_81_method_18_code 0 = .ok (.lload_n 1, 1) := by decide +kernel
theorem d1_1 : decode prog_81_method_18_code 1 = .ok (.lconst 0, 1) := by decide +kernel
theorem d1_2 : decode prog_81_method_18_code 2 = .ok (.lcmp, 1) := by decide +kernel
theorem d1_3 : decode prog_81_method_18_code 3 = .ok (.ifCond .lt 9, 3) := by decide +kernel
theorem d1_6 : decode prog_81_method_18_code 6 = .ok (.lload_n 1, 1) := by decide +kernel
theorem d1_7 : decode prog_81_method_18_code 7 = .ok (.lload_n 3, 1) := by decide +kernel
theorem d1_8 : decode prog_81_method_18_code 8 = .ok (.lcmp, 1) := by decide +kernel
theorem d1_9 : decode prog_81_method_18_code 9 = .ok (.ifCond .le 19, 3) := by decide +kernel
theorem d1_28 : decode prog_81_method_18_code 28 = .ok (.return_, 1) := by decide +kernel
theorem ef_rm_cr (m : MethodId) (x0 : Addr) (x1 : Int64) (x2 : Int64) : entryFrame m #[(.ref x0), (.long x1), (.long x2)] 5 = mkF m 0 #[.val (.ref x0), .val (.long x1), .second, .val (.long x2), .second] [] := by first | (simp [entryFrame, mkF, argsToLocals, Value.category]; done) | rfl
theorem pn_0 : plainName "com/example/avocet/avocet/diameter/MessageHeader" = true := by first | (simp [plainName, overriddenIn]; done) | decide +kernel
set_option maxRecDepth 65536 in
set_option maxHeartbeats 40000000 in
theorem rm_cr (l : Launch) (Z : State) (a0 : Array Value) (hw : ∀ d ∈ tables_1, d.before a0 Z = true) (ws : List Jvm.Cond) (s1 : Addr) (q2 : Int64) (h0 : Heap) (hq : 0 ≤ q2.toInt ∧ q2.toInt ≤ 4294967295) :
    MetFree l (⟨"com/example/avocet/avocet/diameter/MessageHeader", "checkRange", "(Ljava/lang/String;JJ)V"⟩ : MethodName) (head1 (Jvm.Cond.code (⟨"com/example/avocet/avocet/diameter/MessageHeader", "checkRange", "(Ljava/lang/String;JJ)V"⟩ : MethodName) prog_81_method_18_code 5 none :: ws) ({ frames := 0, cells := 0, slots := 0, locals := 0 } : Room)) (fun a U => a = #[(.ref s1), (.long q2), (.long (4294967295 : Int64))] ∧ Z.Warmed39 U.vm ∧ U.heap = h0) (fun _ _ _ _ _ => True) (fun _ U o U' => ∃ v L, o = .returned v ∧ own_QN h0 v U'.heap L ∧ FrameEnd U o U' L ({ frames := 0, cells := 0, slots := 0, locals := 0 } : Room).cells ({ frames := 0, cells := 0, slots := 0, locals := 0 } : Room).slots) := by
  refine MetFree.of_bodySF (plainFor_of_name pn_0) hisR ?_
  intro p e s m args below meth c s₁ Bd hml0 hP hK
  obtain ⟨rfl, hZ, hh⟩ := hP
  have hx := Bd.exec
  have hby := Bd.bytes
  have hlk := Bd.notSynchronized
  have hret := Bd.returns
  have hml : c.maxLocals = 5 := hml0
  have hown : s.vm.findClass "com/example/avocet/avocet/diameter/MessageHeader" = some m.cls := findClass_of_methodNamed Bd.named
  have hnm := (name_of_methodNamed Bd.named Bd.method).1
  have X0 : Stand p l e ({ frames := 0, cells := 0, slots := 0, locals := 0 } : Room) s m #[(.ref s1), (.long q2), (.long (4294967295 : Int64))] below meth c s₁ [] 0 0 := Stand.of_body Bd
  have e0 : s₁.heap = h0 := by rw [← hh, Bd.state]; rfl
  show own_Dn p e below (own_Ret s (own_QN h0) ({ frames := 0, cells := 0, slots := 0, locals := 0 } : Room).cells ({ frames := 0, cells := 0, slots := 0, locals := 0 } : Room).slots) (s₁.setTop (entryFrame m #[(.ref s1), (.long q2), (.long (4294967295 : Int64))] 5))
  rw [ef_rm_cr]
  refine own_st (B := (s₁.setTop (mkF m 1 #[.val (.ref s1), .val (.long q2), .second, .val (.long (4294967295 : Int64)), .second] [(.long q2)]))) (fun _ zk => XS.lloadN X0.here hx rfl (hb hby d1_0) rfl zk) ?_
  refine own_st (B := (s₁.setTop (mkF m 2 #[.val (.ref s1), .val (.long q2), .second, .val (.long (4294967295 : Int64)), .second] [(.long (0 : Int64)), (.long q2)]))) (fun _ zk => XS.lconst X0.here hx rfl (hb hby d1_1) zk) ?_
  refine own_st (B := (s₁.setTop (mkF m 3 #[.val (.ref s1), .val (.long q2), .second, .val (.long (4294967295 : Int64)), .second] [(.int (lcmpW q2 (0 : Int64)))]))) (fun _ zk => XS.lcmp X0.here hx rfl (hb hby d1_2) rfl zk) ?_
  refine own_st (B := (s₁.setTop (mkF m 6 #[.val (.ref s1), .val (.long q2), .second, .val (.long (4294967295 : Int64)), .second] []))) (fun _ zk => XS.ifNo X0.here hx rfl (hb hby d1_3) rfl ((if0 _ _).trans (flt (mt (lw_lt q2 (0 : Int64)).mp (own_nneg hq.1))).1) zk) ?_
  refine own_st (B := (s₁.setTop (mkF m 7 #[.val (.ref s1), .val (.long q2), .second, .val (.long (4294967295 : Int64)), .second] [(.long q2)]))) (fun _ zk => XS.lloadN X0.here hx rfl (hb hby d1_6) rfl zk) ?_
  refine own_st (B := (s₁.setTop (mkF m 8 #[.val (.ref s1), .val (.long q2), .second, .val (.long (4294967295 : Int64)), .second] [(.long (4294967295 : Int64)), (.long q2)]))) (fun _ zk => XS.lloadN X0.here hx rfl (hb hby d1_7) rfl zk) ?_
  refine own_st (B := (s₁.setTop (mkF m 9 #[.val (.ref s1), .val (.long q2), .second, .val (.long (4294967295 : Int64)), .second] [(.int (lcmpW q2 (4294967295 : Int64)))]))) (fun _ zk => XS.lcmp X0.here hx rfl (hb hby d1_8) rfl zk) ?_
  refine own_st (B := (s₁.setTop (mkF m 28 #[.val (.ref s1), .val (.long q2), .second, .val (.long (4294967295 : Int64)), .second] []))) (fun _ zk => XS.ifYes X0.here hx rfl (pc0 := 9) (pc' := 28) rfl (hb hby d1_9) rfl ((if0 _ _).trans (flt (mt (lw_gt q2 (4294967295 : Int64)).mp (own_nbig hq.2))).2.2.2) (by decide) (by decide) zk) ?_
  exact own_retV X0 hx hlk hret (hb hby d1_28) (by show own_QN h0 _ s₁.heap _; rw [e0]; exact ⟨rfl, rfl, rfl⟩) (by decide) (by decide)
theorem d2_0 : decode prog_68_method_29_code 0 = .ok (.aload_n 0, 1) := by decide +kernel
theorem d2_1 : decode prog_68_method_29_code 1 = .ok (.lload_n 1, 1) := by decide +kernel
theorem d2_2 : decode prog_68_method_29_code 2 = .ok (.ldc2_w 335, 3) := by decide +kernel
theorem pd_0 : parseMethodDescriptor "(Ljava/lang/String;JJ)V" = some ⟨[(.object "java/lang/String"), .long, .long], none⟩ := by decide +kernel
theorem d2_5 : decode prog_68_method_29_code 5 = .ok (.invokestatic 21, 3) := by decide +kernel
theorem d2_8 : decode prog_68_method_29_code 8 = .ok (.return_, 1) := by decide +kernel
theorem ef_rm_cu (m : MethodId) (x0 : Addr) (x1 : Int64) : entryFrame m #[(.ref x0), (.long x1)] 3 = mkF m 0 #[.val (.ref x0), .val (.long x1), .second] [] := by first | (simp [entryFrame, mkF, argsToLocals, Value.category]; done) | rfl
theorem pn_1 : plainName "com/example/avocet/avocet/diameter/Avp" = true := by first | (simp [plainName, overriddenIn]; done) | decide +kernel
set_option maxRecDepth 65536 in
set_option maxHeartbeats 40000000 in
theorem rm_cu (l : Launch) (Z : State) (a0 : Array Value) (hw : ∀ d ∈ tables_1, d.before a0 Z = true) (ws : List Jvm.Cond) (s1 : Addr) (q2 : Int64) (h0 : Heap) (hq : 0 ≤ q2.toInt ∧ q2.toInt ≤ 4294967295) :
    MetFree l (⟨"com/example/avocet/avocet/diameter/Avp", "checkUnsigned32", "(Ljava/lang/String;J)V"⟩ : MethodName) (head1 (Jvm.Cond.code (⟨"com/example/avocet/avocet/diameter/Avp", "checkUnsigned32", "(Ljava/lang/String;J)V"⟩ : MethodName) prog_68_method_29_code 3 none :: ws) ({ frames := 1, cells := 0, slots := 0, locals := 16 } : Room)) (fun a U => a = #[(.ref s1), (.long q2)] ∧ Z.Warmed39 U.vm ∧ U.heap = h0) (fun _ _ _ _ _ => True) (fun _ U o U' => ∃ v L, o = .returned v ∧ own_QN h0 v U'.heap L ∧ FrameEnd U o U' L ({ frames := 1, cells := 0, slots := 0, locals := 16 } : Room).cells ({ frames := 1, cells := 0, slots := 0, locals := 16 } : Room).slots) := by
  refine MetFree.of_bodySF (plainFor_of_name pn_1) hisR ?_
  intro p e s m args below meth c s₁ Bd hml0 hP hK
  obtain ⟨rfl, hZ, hh⟩ := hP
  have hx := Bd.exec
  have hby := Bd.bytes
  have hlk := Bd.notSynchronized
  have hret := Bd.returns
  have hml : c.maxLocals = 3 := hml0
  have hown : s.vm.findClass "com/example/avocet/avocet/diameter/Avp" = some m.cls := findClass_of_methodNamed Bd.named
  have hnm := (name_of_methodNamed Bd.named Bd.method).1
  have X0 : Stand p l e ({ frames := 1, cells := 0, slots := 0, locals := 16 } : Room) s m #[(.ref s1), (.long q2)] below meth c s₁ [] 0 0 := Stand.of_body Bd
  have e0 : s₁.heap = h0 := by rw [← hh, Bd.state]; rfl
  show own_Dn p e below (own_Ret s (own_QN h0) ({ frames := 1, cells := 0, slots := 0, locals := 16 } : Room).cells ({ frames := 1, cells := 0, slots := 0, locals := 16 } : Room).slots) (s₁.setTop (entryFrame m #[(.ref s1), (.long q2)] 3))
  rw [ef_rm_cu]
  refine own_st (B := (s₁.setTop (mkF m 1 #[.val (.ref s1), .val (.long q2), .second] [(.ref s1)]))) (fun _ zk => XS.aloadN X0.here hx rfl (hb hby d2_0) rfl rfl zk) ?_
  refine own_st (B := (s₁.setTop (mkF m 2 #[.val (.ref s1), .val (.long q2), .second] [(.long q2), (.ref s1)]))) (fun _ zk => XS.lloadN X0.here hx rfl (hb hby d2_1) rfl zk) ?_
  refine own_st (B := (s₁.setTop (mkF m 5 #[.val (.ref s1), .val (.long q2), .second] [(.long (4294967295 : Int64)), (.long q2), (.ref s1)]))) (fun _ zk => X0.ldc2Long hx hown (mvT hZ (hw _ (List.mem_of_getElem? (i := 48) rfl))) (g := (mkF m 2 #[.val (.ref s1), .val (.long q2), .second] [(.long q2), (.ref s1)])) rfl (hb hby d2_2) _ zk) ?_
  obtain ⟨v1, T1, L1, X1, Q1, st1⟩ := own_callS (W := 0) X0 hx hZ (y := (⟨"com/example/avocet/avocet/diameter/MessageHeader", "checkRange", "(Ljava/lang/String;JJ)V"⟩ : MethodName)) hown (hw _ (List.mem_of_getElem? (i := 49) rfl)) (hw _ (List.mem_of_getElem? (i := 50) rfl)) (hw _ (List.mem_of_getElem? (i := 51) rfl)) (hw _ (List.mem_of_getElem? (i := 52) rfl)) (by decide) e0 (rm_cr l Z a0 hw [] s1 q2 h0 hq) (g := (mkF m 5 #[.val (.ref s1), .val (.long q2), .second] [(.long (4294967295 : Int64)), (.long q2), (.ref s1)])) rfl (by rw [hml]; rfl) (argsL := [(.ref s1), (.long q2), (.long (4294967295 : Int64))]) (rest := []) (lenOf pd_0 rfl) rfl rfl (by show 2 * 0 + _ ≤ _; exact Nat.le_of_eq rfl) (hb hby d2_5) (by decide) (by decide) (by decide) (by decide)
  obtain ⟨rfl, rfl, qe1⟩ := Q1
  refine own_st (B := (T1.setTop (mkF m 8 #[.val (.ref s1), .val (.long q2), .second] []))) st1 ?_
  exact own_retV X1 hx hlk hret (hb hby d2_8) (by show own_QN h0 _ T1.heap _; rw [qe1]; exact ⟨rfl, rfl, rfl⟩) (by decide) (by decide)
theorem d3_0 : decode prog_69_method_1_code 0 = .ok (.aload_n 0, 1) := by decide +kernel
theorem d3_1 : decode prog_69_method_1_code 1 = .ok (.invokespecial 1, 3) := by decide +kernel
theorem d3_4 : decode prog_69_method_1_code 4 = .ok (.ldc 7, 2) := by decide +kernel
theorem d3_6 : decode prog_69_method_1_code 6 = .ok (.lload_n 2, 1) := by decide +kernel
theorem pd_1 : parseMethodDescriptor "(Ljava/lang/String;J)V" = some ⟨[(.object "java/lang/String"), .long], none⟩ := by decide +kernel
theorem d3_7 : decode prog_69_method_1_code 7 = .ok (.invokestatic 9, 3) := by decide +kernel
theorem d3_10 : decode prog_69_method_1_code 10 = .ok (.ldc 15, 2) := by decide +kernel
theorem d3_12 : decode prog_69_method_1_code 12 = .ok (.lload 4, 2) := by decide +kernel
theorem d3_14 : decode prog_69_method_1_code 14 = .ok (.invokestatic 9, 3) := by decide +kernel
theorem d3_17 : decode prog_69_method_1_code 17 = .ok (.aload_n 0, 1) := by decide +kernel
theorem d3_18 : decode prog_69_method_1_code 18 = .ok (.aload_n 1, 1) := by decide +kernel
theorem d3_19 : decode prog_69_method_1_code 19 = .ok (.putfield 17, 3) := by decide +kernel
theorem d3_22 : decode prog_69_method_1_code 22 = .ok (.aload_n 0, 1) := by decide +kernel
theorem d3_23 : decode prog_69_method_1_code 23 = .ok (.lload_n 2, 1) := by decide +kernel
theorem d3_24 : decode prog_69_method_1_code 24 = .ok (.putfield 23, 3) := by decide +kernel
theorem d3_27 : decode prog_69_method_1_code 27 = .ok (.aload_n 0, 1) := by decide +kernel
theorem d3_28 : decode prog_69_method_1_code 28 = .ok (.lload 4, 2) := by decide +kernel
theorem d3_30 : decode prog_69_method_1_code 30 = .ok (.putfield 26, 3) := by decide +kernel
theorem d3_33 : decode prog_69_method_1_code 33 = .ok (.aload_n 0, 1) := by decide +kernel
theorem d3_34 : decode prog_69_method_1_code 34 = .ok (.iload 6, 2) := by decide +kernel
theorem d3_36 : decode prog_69_method_1_code 36 = .ok (.putfield 28, 3) := by decide +kernel
theorem d3_39 : decode prog_69_method_1_code 39 = .ok (.aload_n 0, 1) := by decide +kernel
theorem d3_40 : decode prog_69_method_1_code 40 = .ok (.aload 7, 2) := by decide +kernel
theorem d3_42 : decode prog_69_method_1_code 42 = .ok (.putfield 32, 3) := by decide +kernel
theorem d3_45 : decode prog_69_method_1_code 45 = .ok (.return_, 1) := by decide +kernel
theorem ef_rm_init (m : MethodId) (x0 : Addr) (x1 : Addr) (x2 : Int64) (x3 : Int64) (x4 : Int32) (x5 : Addr) : entryFrame m #[(.ref x0), (.ref x1), (.long x2), (.long x3), (.int x4), (.ref x5)] 8 = mkF m 0 #[.val (.ref x0), .val (.ref x1), .val (.long x2), .second, .val (.long x3), .second, .val (.int x4), .val (.ref x5)] [] := by first | (simp [entryFrame, mkF, argsToLocals, Value.category]; done) | rfl
theorem pn_2 : plainName "com/example/avocet/avocet/diameter/AvpDefinition" = true := by first | (simp [plainName, overriddenIn]; done) | decide +kernel
set_option maxRecDepth 65536 in
set_option maxHeartbeats 40000000 in
theorem rm_init (l : Launch) (Z : State) (a0 : Array Value) (hw : ∀ d ∈ tables_1, d.before a0 Z = true) (ws : List Jvm.Cond) (a1 s1 : Addr) (q2 q3 : Int64) (p4 : Int32) (f5 : Addr) (h0 : Heap) (n0 : Nat) (Z0 : n0 ≤ h0.size) (ga : n0 ≤ a1) (EX : Exa Z h0 a1 "com/example/avocet/avocet/diameter/AvpDefinition") (G_name : Fld Z h0 a1 "com/example/avocet/avocet/diameter/AvpDefinition" "name" "Ljava/lang/String;" .null) (G_code : Fld Z h0 a1 "com/example/avocet/avocet/diameter/AvpDefinition" "code" "J" (.long 0)) (G_vendorId : Fld Z h0 a1 "com/example/avocet/avocet/diameter/AvpDefinition" "vendorId" "J" (.long 0)) (G_mandatory : Fld Z h0 a1 "com/example/avocet/avocet/diameter/AvpDefinition" "mandatory" "Z" (.int 0)) (G_format : Fld Z h0 a1 "com/example/avocet/avocet/diameter/AvpDefinition" "format" "Lcom/example/avocet/avocet/diameter/AvpFormat;" .null) (hq2 : 0 ≤ q2.toInt ∧ q2.toInt ≤ 4294967295) (hq3 : 0 ≤ q3.toInt ∧ q3.toInt ≤ 4294967295) (hd : p4 = 0 ∨ p4 = 1) :
    MetFree l (⟨"com/example/avocet/avocet/diameter/AvpDefinition", "<init>", "(Ljava/lang/String;JJZLcom/example/avocet/avocet/diameter/AvpFormat;)V"⟩ : MethodName) (head1 (Jvm.Cond.code (⟨"com/example/avocet/avocet/diameter/AvpDefinition", "<init>", "(Ljava/lang/String;JJZLcom/example/avocet/avocet/diameter/AvpFormat;)V"⟩ : MethodName) prog_69_method_1_code 8 none :: ws) ({ frames := 2, cells := 4, slots := 56, locals := 30 } : Room)) (fun a U => a = #[(.ref a1), (.ref s1), (.long q2), (.long q3), (.int p4), (.ref f5)] ∧ Z.Warmed39 U.vm ∧ U.heap = h0) (fun _ _ _ _ _ => True) (fun _ U o U' => ∃ v L, o = .returned v ∧ own_QI Z a1 q3 p4 n0 v U'.heap L ∧ ReturnedEndW U o U' L ({ frames := 2, cells := 4, slots := 56, locals := 30 } : Room).cells ({ frames := 2, cells := 4, slots := 56, locals := 30 } : Room).slots) := by
  refine MetFree.of_bodySF (plainFor_of_name pn_2) hisR ?_
  intro p e s m args below meth c s₁ Bd hml0 hP hK
  obtain ⟨rfl, hZ, hh⟩ := hP
  have hx := Bd.exec
  have hby := Bd.bytes
  have hlk := Bd.notSynchronized
  have hret := Bd.returns
  have hml : c.maxLocals = 8 := hml0
  have hown : s.vm.findClass "com/example/avocet/avocet/diameter/AvpDefinition" = some m.cls := findClass_of_methodNamed Bd.named
  have hnm := (name_of_methodNamed Bd.named Bd.method).1
  have X0 : Stand p l e ({ frames := 2, cells := 4, slots := 56, locals := 30 } : Room) (s.setVm s.vm) m #[(.ref a1), (.ref s1), (.long q2), (.long q3), (.int p4), (.ref f5)] below meth c s₁ [] 0 0 := Stand.of_body Bd
  have e0 : s₁.heap = h0 := by rw [← hh, Bd.state]; rfl
  have N0 := Fr.nil n0
  have hS := own_since s
  show own_Dn p e below (own_RetW s (own_QI Z a1 q3 p4 n0) ({ frames := 2, cells := 4, slots := 56, locals := 30 } : Room).cells ({ frames := 2, cells := 4, slots := 56, locals := 30 } : Room).slots) (s₁.setTop (entryFrame m #[(.ref a1), (.ref s1), (.long q2), (.long q3), (.int p4), (.ref f5)] 8))
  rw [ef_rm_init]
  refine own_st (B := (s₁.setTop (mkF m 1 #[.val (.ref a1), .val (.ref s1), .val (.long q2), .second, .val (.long q3), .second, .val (.int p4), .val (.ref f5)] [(.ref a1)]))) (fun _ zk => XS.aloadN X0.here hx rfl (hb hby d3_0) rfl rfl zk) ?_
  obtain ⟨T1, X1, e1, st1⟩ := initO X0 hx hZ hown (hw _ (List.mem_of_getElem? (i := 40) rfl)) (hw _ (List.mem_of_getElem? (i := 13) rfl)) (hw _ (List.mem_of_getElem? (i := 14) rfl)) e0 (g := (mkF m 1 #[.val (.ref a1), .val (.ref s1), .val (.long q2), .second, .val (.long q3), .second, .val (.int p4), .val (.ref f5)] [(.ref a1)])) rfl (by rw [hml]; rfl) rfl (hb hby d3_1) (by decide) (W := 0) (by show 2 * 0 + _ ≤ _; exact Nat.le_of_eq rfl) (by decide)
  refine own_st (B := (T1.setTop (mkF m 4 #[.val (.ref a1), .val (.ref s1), .val (.long q2), .second, .val (.long q3), .second, .val (.int p4), .val (.ref f5)] []))) st1 ?_
  obtain ⟨b2, T2, h2, k2, X2, e2, E2, hS2, hk2, hZ2, ho2, st2⟩ := ldcS (vm0 := s.vm) X1 hx hZ hown (hw _ (List.mem_of_getElem? (i := 41) rfl)) (own_wS hw) e1 hS (Nat.zero_le _) (g := (mkF m 4 #[.val (.ref a1), .val (.ref s1), .val (.long q2), .second, .val (.long q3), .second, .val (.int p4), .val (.ref f5)] [])) rfl (hb hby d3_4) (n := 16) (by decide) (by decide) (by decide) (by decide)
  have hZ := hZ2
  have hown := ho2
  have hS := hS2
  refine own_st (B := (T2.setTop (mkF m 6 #[.val (.ref a1), .val (.ref s1), .val (.long q2), .second, .val (.long q3), .second, .val (.int p4), .val (.ref f5)] [(.ref b2)]))) st2 ?_
  have F2_name := G_name.ext E2
  have F2_code := G_code.ext E2
  have F2_vendorId := G_vendorId.ext E2
  have F2_mandatory := G_mandatory.ext E2
  have F2_format := G_format.ext E2
  have EX2 := EX.ext E2
  refine own_st (B := (T2.setTop (mkF m 7 #[.val (.ref a1), .val (.ref s1), .val (.long q2), .second, .val (.long q3), .second, .val (.int p4), .val (.ref f5)] [(.long q2), (.ref b2)]))) (fun _ zk => XS.lloadN X2.here hx rfl (hb hby d3_6) rfl zk) ?_
  obtain ⟨v3, T3, L3, X3, Q3, st3⟩ := own_callS (W := 0) X2 hx hZ (y := (⟨"com/example/avocet/avocet/diameter/Avp", "checkUnsigned32", "(Ljava/lang/String;J)V"⟩ : MethodName)) hown (hw _ (List.mem_of_getElem? (i := 44) rfl)) (hw _ (List.mem_of_getElem? (i := 45) rfl)) (hw _ (List.mem_of_getElem? (i := 46) rfl)) (hw _ (List.mem_of_getElem? (i := 47) rfl)) (by decide) e2 (rm_cu l Z a0 hw [] b2 q2 h2 hq2) (g := (mkF m 7 #[.val (.ref a1), .val (.ref s1), .val (.long q2), .second, .val (.long q3), .second, .val (.int p4), .val (.ref f5)] [(.long q2), (.ref b2)])) rfl (by rw [hml]; rfl) (argsL := [(.ref b2), (.long q2)]) (rest := []) (lenOf pd_1 rfl) rfl rfl (by show 2 * 0 + _ ≤ _; exact Nat.le_of_eq rfl) (hb hby d3_7) (by decide) (by decide) (by decide) (by decide)
  obtain ⟨rfl, rfl, qe3⟩ := Q3
  refine own_st (B := (T3.setTop (mkF m 10 #[.val (.ref a1), .val (.ref s1), .val (.long q2), .second, .val (.long q3), .second, .val (.int p4), .val (.ref f5)] []))) st3 ?_
  obtain ⟨b4, T4, h4, k4, X4, e4, E4, hS4, hk4, hZ4, ho4, st4⟩ := ldcS (vm0 := T2.vm) X3 hx hZ hown (hw _ (List.mem_of_getElem? (i := 53) rfl)) (own_wS hw) qe3 hS hk2 (g := (mkF m 10 #[.val (.ref a1), .val (.ref s1), .val (.long q2), .second, .val (.long q3), .second, .val (.int p4), .val (.ref f5)] [])) rfl (hb hby d3_10) (n := 32) (by decide) (by decide) (by decide) (by decide)
  have hZ := hZ4
  have hown := ho4
  have hS := hS4
  refine own_st (B := (T4.setTop (mkF m 12 #[.val (.ref a1), .val (.ref s1), .val (.long q2), .second, .val (.long q3), .second, .val (.int p4), .val (.ref f5)] [(.ref b4)]))) st4 ?_
  have F4_name := F2_name.ext E4
  have F4_code := F2_code.ext E4
  have F4_vendorId := F2_vendorId.ext E4
  have F4_mandatory := F2_mandatory.ext E4
  have F4_format := F2_format.ext E4
  have EX4 := EX2.ext E4
  refine own_st (B := (T4.setTop (mkF m 14 #[.val (.ref a1), .val (.ref s1), .val (.long q2), .second, .val (.long q3), .second, .val (.int p4), .val (.ref f5)] [(.long q3), (.ref b4)]))) (fun _ zk => XS.lload X4.here hx rfl (hb hby d3_12) rfl zk) ?_
  obtain ⟨v5, T5, L5, X5, Q5, st5⟩ := own_callS (W := 0) X4 hx hZ (y := (⟨"com/example/avocet/avocet/diameter/Avp", "checkUnsigned32", "(Ljava/lang/String;J)V"⟩ : MethodName)) hown (hw _ (List.mem_of_getElem? (i := 44) rfl)) (hw _ (List.mem_of_getElem? (i := 45) rfl)) (hw _ (List.mem_of_getElem? (i := 46) rfl)) (hw _ (List.mem_of_getElem? (i := 47) rfl)) (by decide) e4 (rm_cu l Z a0 hw [] b4 q3 h4 hq3) (g := (mkF m 14 #[.val (.ref a1), .val (.ref s1), .val (.long q2), .second, .val (.long q3), .second, .val (.int p4), .val (.ref f5)] [(.long q3), (.ref b4)])) rfl (by rw [hml]; rfl) (argsL := [(.ref b4), (.long q3)]) (rest := []) (lenOf pd_1 rfl) rfl rfl (by show 2 * 0 + _ ≤ _; exact Nat.le_of_eq rfl) (hb hby d3_14) (by decide) (by decide) (by decide) (by decide)
  obtain ⟨rfl, rfl, qe5⟩ := Q5
  refine own_st (B := (T5.setTop (mkF m 17 #[.val (.ref a1), .val (.ref s1), .val (.long q2), .second, .val (.long q3), .second, .val (.int p4), .val (.ref f5)] []))) st5 ?_
  have hnar : narrow .boolean (.int p4) = .int p4 := by rcases hd with rfl | rfl <;> rfl
  refine own_st (B := (T5.setTop (mkF m 18 #[.val (.ref a1), .val (.ref s1), .val (.long q2), .second, .val (.long q3), .second, .val (.int p4), .val (.ref f5)] [(.ref a1)]))) (fun _ zk => XS.aloadN X5.here hx rfl (hb hby d3_17) rfl rfl zk) ?_
  refine own_st (B := (T5.setTop (mkF m 19 #[.val (.ref a1), .val (.ref s1), .val (.long q2), .second, .val (.long q3), .second, .val (.int p4), .val (.ref f5)] [(.ref s1), (.ref a1)]))) (fun _ zk => XS.aloadN X5.here hx rfl (hb hby d3_18) rfl rfl zk) ?_
  obtain ⟨T6, h6, X6, e6, W6, st6⟩ := putF X5 hx hZ hown (host := "") (Or.inl (hw _ (List.mem_of_getElem? (i := 54) rfl))) Via.refl qe5 F4_name EX4 (Or.inr ⟨(hw _ (List.mem_of_getElem? (i := 55) rfl)), rfl, hnm⟩) (hw _ (List.mem_of_getElem? (i := 35) rfl)) (ty := (.object "java/lang/String")) (by decide) rfl rfl (g := (mkF m 19 #[.val (.ref a1), .val (.ref s1), .val (.long q2), .second, .val (.long q3), .second, .val (.int p4), .val (.ref f5)] [(.ref s1), (.ref a1)])) rfl rfl (hb hby d3_19)
  refine own_st (B := (T6.setTop (mkF m 22 #[.val (.ref a1), .val (.ref s1), .val (.long q2), .second, .val (.long q3), .second, .val (.int p4), .val (.ref f5)] []))) st6 ?_
  have N6 := Fr.snoc X6 N0 ga
  have F6_name := F4_name.same W6
  have F6_code := (F4_code.other W6 (Or.inr (slot_ne (Or.inr (hw _ (List.mem_of_getElem? (i := 57) rfl))) (Or.inr (hw _ (List.mem_of_getElem? (i := 55) rfl))) (by decide) (t := .long) (t' := (.object "java/lang/String")) (by decide) (by decide))))
  have F6_vendorId := (F4_vendorId.other W6 (Or.inr (slot_ne (Or.inr (hw _ (List.mem_of_getElem? (i := 59) rfl))) (Or.inr (hw _ (List.mem_of_getElem? (i := 55) rfl))) (by decide) (t := .long) (t' := (.object "java/lang/String")) (by decide) (by decide))))
  have F6_mandatory := (F4_mandatory.other W6 (Or.inr (slot_ne (Or.inr (hw _ (List.mem_of_getElem? (i := 61) rfl))) (Or.inr (hw _ (List.mem_of_getElem? (i := 55) rfl))) (by decide) (t := .boolean) (t' := (.object "java/lang/String")) (by decide) (by decide))))
  have F6_format := (F4_format.other W6 (Or.inr (slot_ne (Or.inr (hw _ (List.mem_of_getElem? (i := 63) rfl))) (Or.inr (hw _ (List.mem_of_getElem? (i := 55) rfl))) (by decide) (t := (.object "com/example/avocet/avocet/diameter/AvpFormat")) (t' := (.object "java/lang/String")) (by decide) (by decide))))
  have EX6 := EX4.wr W6
  refine own_st (B := (T6.setTop (mkF m 23 #[.val (.ref a1), .val (.ref s1), .val (.long q2), .second, .val (.long q3), .second, .val (.int p4), .val (.ref f5)] [(.ref a1)]))) (fun _ zk => XS.aloadN X6.here hx rfl (hb hby d3_22) rfl rfl zk) ?_
  refine own_st (B := (T6.setTop (mkF m 24 #[.val (.ref a1), .val (.ref s1), .val (.long q2), .second, .val (.long q3), .second, .val (.int p4), .val (.ref f5)] [(.long q2), (.ref a1)]))) (fun _ zk => XS.lloadN X6.here hx rfl (hb hby d3_23) rfl zk) ?_
  obtain ⟨T7, h7, X7, e7, W7, st7⟩ := putF X6 hx hZ hown (host := "") (Or.inl (hw _ (List.mem_of_getElem? (i := 56) rfl))) Via.refl e6 F6_code EX6 (Or.inr ⟨(hw _ (List.mem_of_getElem? (i := 57) rfl)), rfl, hnm⟩) (hw _ (List.mem_of_getElem? (i := 35) rfl)) (ty := .long) (by decide) rfl rfl (g := (mkF m 24 #[.val (.ref a1), .val (.ref s1), .val (.long q2), .second, .val (.long q3), .second, .val (.int p4), .val (.ref f5)] [(.long q2), (.ref a1)])) rfl rfl (hb hby d3_24)
  refine own_st (B := (T7.setTop (mkF m 27 #[.val (.ref a1), .val (.ref s1), .val (.long q2), .second, .val (.long q3), .second, .val (.int p4), .val (.ref f5)] []))) st7 ?_
  have N7 := Fr.snoc X7 N6 ga
  have F7_name := (F6_name.other W7 (Or.inr (slot_ne (Or.inr (hw _ (List.mem_of_getElem? (i := 55) rfl))) (Or.inr (hw _ (List.mem_of_getElem? (i := 57) rfl))) (by decide) (t := (.object "java/lang/String")) (t' := .long) (by decide) (by decide))))
  have F7_code := F6_code.same W7
  have F7_vendorId := (F6_vendorId.other W7 (Or.inr (slot_ne (Or.inr (hw _ (List.mem_of_getElem? (i := 59) rfl))) (Or.inr (hw _ (List.mem_of_getElem? (i := 57) rfl))) (by decide) (t := .long) (t' := .long) (by decide) (by decide))))
  have F7_mandatory := (F6_mandatory.other W7 (Or.inr (slot_ne (Or.inr (hw _ (List.mem_of_getElem? (i := 61) rfl))) (Or.inr (hw _ (List.mem_of_getElem? (i := 57) rfl))) (by decide) (t := .boolean) (t' := .long) (by decide) (by decide))))
  have F7_format := (F6_format.other W7 (Or.inr (slot_ne (Or.inr (hw _ (List.mem_of_getElem? (i := 63) rfl))) (Or.inr (hw _ (List.mem_of_getElem? (i := 57) rfl))) (by decide) (t := (.object "com/example/avocet/avocet/diameter/AvpFormat")) (t' := .long) (by decide) (by decide))))
  have EX7 := EX6.wr W7
  refine own_st (B := (T7.setTop (mkF m 28 #[.val (.ref a1), .val (.ref s1), .val (.long q2), .second, .val (.long q3), .second, .val (.int p4), .val (.ref f5)] [(.ref a1)]))) (fun _ zk => XS.aloadN X7.here hx rfl (hb hby d3_27) rfl rfl zk) ?_
  refine own_st (B := (T7.setTop (mkF m 30 #[.val (.ref a1), .val (.ref s1), .val (.long q2), .second, .val (.long q3), .second, .val (.int p4), .val (.ref f5)] [(.long q3), (.ref a1)]))) (fun _ zk => XS.lload X7.here hx rfl (hb hby d3_28) rfl zk) ?_
  obtain ⟨T8, h8, X8, e8, W8, st8⟩ := putF X7 hx hZ hown (host := "") (Or.inl (hw _ (List.mem_of_getElem? (i := 58) rfl))) Via.refl e7 F7_vendorId EX7 (Or.inr ⟨(hw _ (List.mem_of_getElem? (i := 59) rfl)), rfl, hnm⟩) (hw _ (List.mem_of_getElem? (i := 35) rfl)) (ty := .long) (by decide) rfl rfl (g := (mkF m 30 #[.val (.ref a1), .val (.ref s1), .val (.long q2), .second, .val (.long q3), .second, .val (.int p4), .val (.ref f5)] [(.long q3), (.ref a1)])) rfl rfl (hb hby d3_30)
  refine own_st (B := (T8.setTop (mkF m 33 #[.val (.ref a1), .val (.ref s1), .val (.long q2), .second, .val (.long q3), .second, .val (.int p4), .val (.ref f5)] []))) st8 ?_
  have N8 := Fr.snoc X8 N7 ga
  have F8_name := (F7_name.other W8 (Or.inr (slot_ne (Or.inr (hw _ (List.mem_of_getElem? (i := 55) rfl))) (Or.inr (hw _ (List.mem_of_getElem? (i := 59) rfl))) (by decide) (t := (.object "java/lang/String")) (t' := .long) (by decide) (by decide))))
  have F8_code := (F7_code.other W8 (Or.inr (slot_ne (Or.inr (hw _ (List.mem_of_getElem? (i := 57) rfl))) (Or.inr (hw _ (List.mem_of_getElem? (i := 59) rfl))) (by decide) (t := .long) (t' := .long) (by decide) (by decide))))
  have F8_vendorId := F7_vendorId.same W8
  have F8_mandatory := (F7_mandatory.other W8 (Or.inr (slot_ne (Or.inr (hw _ (List.mem_of_getElem? (i := 61) rfl))) (Or.inr (hw _ (List.mem_of_getElem? (i := 59) rfl))) (by decide) (t := .boolean) (t' := .long) (by decide) (by decide))))
  have F8_format := (F7_format.other W8 (Or.inr (slot_ne (Or.inr (hw _ (List.mem_of_getElem? (i := 63) rfl))) (Or.inr (hw _ (List.mem_of_getElem? (i := 59) rfl))) (by decide) (t := (.object "com/example/avocet/avocet/diameter/AvpFormat")) (t' := .long) (by decide) (by decide))))
  have EX8 := EX7.wr W8
  refine own_st (B := (T8.setTop (mkF m 34 #[.val (.ref a1), .val (.ref s1), .val (.long q2), .second, .val (.long q3), .second, .val (.int p4), .val (.ref f5)] [(.ref a1)]))) (fun _ zk => XS.aloadN X8.here hx rfl (hb hby d3_33) rfl rfl zk) ?_
  refine own_st (B := (T8.setTop (mkF m 36 #[.val (.ref a1), .val (.ref s1), .val (.long q2), .second, .val (.long q3), .second, .val (.int p4), .val (.ref f5)] [(.int p4), (.ref a1)]))) (fun _ zk => XS.iload X8.here hx rfl (hb hby d3_34) rfl zk) ?_
  obtain ⟨T9, h9, X9, e9, W9, st9⟩ := putFN X8 hx hZ hown (hw _ (List.mem_of_getElem? (i := 60) rfl)) Via.refl e8 F8_mandatory EX8 (Or.inr ⟨(hw _ (List.mem_of_getElem? (i := 61) rfl)), rfl, hnm⟩) (hw _ (List.mem_of_getElem? (i := 35) rfl)) (ty := .boolean) (v' := (.int p4)) (by decide) hnar (by rcases hd with rfl | rfl <;> rfl) (g := (mkF m 36 #[.val (.ref a1), .val (.ref s1), .val (.long q2), .second, .val (.long q3), .second, .val (.int p4), .val (.ref f5)] [(.int p4), (.ref a1)])) rfl rfl (hb hby d3_36)
  refine own_st (B := (T9.setTop (mkF m 39 #[.val (.ref a1), .val (.ref s1), .val (.long q2), .second, .val (.long q3), .second, .val (.int p4), .val (.ref f5)] []))) st9 ?_
  have N9 := Fr.snoc X9 N8 ga
  have F9_name := (F8_name.other W9 (Or.inr (slot_ne (Or.inr (hw _ (List.mem_of_getElem? (i := 55) rfl))) (Or.inr (hw _ (List.mem_of_getElem? (i := 61) rfl))) (by decide) (t := (.object "java/lang/String")) (t' := .boolean) (by decide) (by decide))))
  have F9_code := (F8_code.other W9 (Or.inr (slot_ne (Or.inr (hw _ (List.mem_of_getElem? (i := 57) rfl))) (Or.inr (hw _ (List.mem_of_getElem? (i := 61) rfl))) (by decide) (t := .long) (t' := .boolean) (by decide) (by decide))))
  have F9_vendorId := (F8_vendorId.other W9 (Or.inr (slot_ne (Or.inr (hw _ (List.mem_of_getElem? (i := 59) rfl))) (Or.inr (hw _ (List.mem_of_getElem? (i := 61) rfl))) (by decide) (t := .long) (t' := .boolean) (by decide) (by decide))))
  have F9_mandatory := F8_mandatory.same W9
  have F9_format := (F8_format.other W9 (Or.inr (slot_ne (Or.inr (hw _ (List.mem_of_getElem? (i := 63) rfl))) (Or.inr (hw _ (List.mem_of_getElem? (i := 61) rfl))) (by decide) (t := (.object "com/example/avocet/avocet/diameter/AvpFormat")) (t' := .boolean) (by decide) (by decide))))
  have EX9 := EX8.wr W9
  refine own_st (B := (T9.setTop (mkF m 40 #[.val (.ref a1), .val (.ref s1), .val (.long q2), .second, .val (.long q3), .second, .val (.int p4), .val (.ref f5)] [(.ref a1)]))) (fun _ zk => XS.aloadN X9.here hx rfl (hb hby d3_39) rfl rfl zk) ?_
  refine own_st (B := (T9.setTop (mkF m 42 #[.val (.ref a1), .val (.ref s1), .val (.long q2), .second, .val (.long q3), .second, .val (.int p4), .val (.ref f5)] [(.ref f5), (.ref a1)]))) (fun _ zk => XS.aload X9.here hx rfl (hb hby d3_40) rfl rfl zk) ?_
  obtain ⟨T10, h10, X10, e10, W10, st10⟩ := putF X9 hx hZ hown (host := "") (Or.inl (hw _ (List.mem_of_getElem? (i := 62) rfl))) Via.refl e9 F9_format EX9 (Or.inr ⟨(hw _ (List.mem_of_getElem? (i := 63) rfl)), rfl, hnm⟩) (hw _ (List.mem_of_getElem? (i := 35) rfl)) (ty := (.object "com/example/avocet/avocet/diameter/AvpFormat")) (by decide) rfl rfl (g := (mkF m 42 #[.val (.ref a1), .val (.ref s1), .val (.long q2), .second, .val (.long q3), .second, .val (.int p4), .val (.ref f5)] [(.ref f5), (.ref a1)])) rfl rfl (hb hby d3_42)
  refine own_st (B := (T10.setTop (mkF m 45 #[.val (.ref a1), .val (.ref s1), .val (.long q2), .second, .val (.long q3), .second, .val (.int p4), .val (.ref f5)] []))) st10 ?_
  have N10 := Fr.snoc X10 N9 ga
  have F10_name := (F9_name.other W10 (Or.inr (slot_ne (Or.inr (hw _ (List.mem_of_getElem? (i := 55) rfl))) (Or.inr (hw _ (List.mem_of_getElem? (i := 63) rfl))) (by decide) (t := (.object "java/lang/String")) (t' := (.object "com/example/avocet/avocet/diameter/AvpFormat")) (by decide) (by decide))))
  have F10_code := (F9_code.other W10 (Or.inr (slot_ne (Or.inr (hw _ (List.mem_of_getElem? (i := 57) rfl))) (Or.inr (hw _ (List.mem_of_getElem? (i := 63) rfl))) (by decide) (t := .long) (t' := (.object "com/example/avocet/avocet/diameter/AvpFormat")) (by decide) (by decide))))
  have F10_vendorId := (F9_vendorId.other W10 (Or.inr (slot_ne (Or.inr (hw _ (List.mem_of_getElem? (i := 59) rfl))) (Or.inr (hw _ (List.mem_of_getElem? (i := 63) rfl))) (by decide) (t := .long) (t' := (.object "com/example/avocet/avocet/diameter/AvpFormat")) (by decide) (by decide))))
  have F10_mandatory := (F9_mandatory.other W10 (Or.inr (slot_ne (Or.inr (hw _ (List.mem_of_getElem? (i := 61) rfl))) (Or.inr (hw _ (List.mem_of_getElem? (i := 63) rfl))) (by decide) (t := .boolean) (t' := (.object "com/example/avocet/avocet/diameter/AvpFormat")) (by decide) (by decide))))
  have F10_format := F9_format.same W10
  have EX10 := EX9.wr W10
  exact own_wretV X10 hS (by rw [e10]; exact (Nat.le_trans (Nat.le_trans (Nat.le_trans (Nat.le_trans (Nat.le_trans hk4 (Nat.le_of_eq W6.size.symm)) (Nat.le_of_eq W7.size.symm)) (Nat.le_of_eq W8.size.symm)) (Nat.le_of_eq W9.size.symm)) (Nat.le_of_eq W10.size.symm))) hx hlk hret (hb hby d3_45) (by show own_QI Z a1 q3 p4 n0 _ T10.heap _; rw [e10]; exact ⟨rfl, by simpa using N10, EX10, F10_vendorId, F10_mandatory⟩) (by decide) (by decide)
theorem d4_0 : decode prog_69_method_6_code 0 = .ok (.aload_n 0, 1) := by decide +kernel
theorem d4_1 : decode prog_69_method_6_code 1 = .ok (.getfield 26, 3) := by decide +kernel
theorem d4_4 : decode prog_69_method_6_code 4 = .ok (.lconst 0, 1) := by decide +kernel
theorem d4_5 : decode prog_69_method_6_code 5 = .ok (.lcmp, 1) := by decide +kernel
theorem d4_6 : decode prog_69_method_6_code 6 = .ok (.ifCond .ne 7, 3) := by decide +kernel
theorem d4_9 : decode prog_69_method_6_code 9 = .ok (.iconst 0, 1) := by decide +kernel
theorem d4_10 : decode prog_69_method_6_code 10 = .ok (.goto 6, 3) := by decide +kernel
theorem d4_16 : decode prog_69_method_6_code 16 = .ok (.istore_n 1, 1) := by decide +kernel
theorem d4_17 : decode prog_69_method_6_code 17 = .ok (.iload_n 1, 1) := by decide +kernel
theorem d4_18 : decode prog_69_method_6_code 18 = .ok (.aload_n 0, 1) := by decide +kernel
theorem d4_19 : decode prog_69_method_6_code 19 = .ok (.getfield 28, 3) := by decide +kernel
theorem d4_22 : decode prog_69_method_6_code 22 = .ok (.ifCond .eq 8, 3) := by decide +kernel
theorem d4_30 : decode prog_69_method_6_code 30 = .ok (.iconst 0, 1) := by decide +kernel
theorem d4_31 : decode prog_69_method_6_code 31 = .ok (.ior, 1) := by decide +kernel
theorem d4_32 : decode prog_69_method_6_code 32 = .ok (.ireturn, 1) := by decide +kernel
theorem d4_25 : decode prog_69_method_6_code 25 = .ok (.bipush 64, 2) := by decide +kernel
theorem d4_27 : decode prog_69_method_6_code 27 = .ok (.goto 4, 3) := by decide +kernel
theorem d4_13 : decode prog_69_method_6_code 13 = .ok (.sipush 128, 3) := by decide +kernel
theorem ef_rm_fl (m : MethodId) (x0 : Addr) : entryFrame m #[(.ref x0)] 2 = mkF m 0 #[.val (.ref x0), .unset] [] := by first | (simp [entryFrame, mkF, argsToLocals, Value.category]; done) | rfl
set_option maxRecDepth 65536 in
set_option maxHeartbeats 40000000 in
theorem rm_fl (l : Launch) (Z : State) (a0 : Array Value) (hw : ∀ d ∈ tables_1, d.before a0 Z = true) (ws : List Jvm.Cond) (a1 : Addr) (vd : Int64) (md r : Int32) (h0 : Heap) (FV : Fld Z h0 a1 "com/example/avocet/avocet/diameter/AvpDefinition" "vendorId" "J" (.long vd)) (FM : Fld Z h0 a1 "com/example/avocet/avocet/diameter/AvpDefinition" "mandatory" "Z" (.int md)) (hr : own_fl vd md = r) :
    MetFree l (⟨"com/example/avocet/avocet/diameter/AvpDefinition", "flags", "()I"⟩ : MethodName) (head1 (Jvm.Cond.code (⟨"com/example/avocet/avocet/diameter/AvpDefinition", "flags", "()I"⟩ : MethodName) prog_69_method_6_code 2 (some .int) :: ws) ({ frames := 0, cells := 0, slots := 0, locals := 0 } : Room)) (fun a U => a = #[(.ref a1)] ∧ Z.Warmed39 U.vm ∧ U.heap = h0) (fun _ _ _ _ _ => True) (fun _ U o U' => ∃ v L, o = .returned v ∧ own_QP r h0 v U'.heap L ∧ FrameEnd U o U' L ({ frames := 0, cells := 0, slots := 0, locals := 0 } : Room).cells ({ frames := 0, cells := 0, slots := 0, locals := 0 } : Room).slots) := by
  refine MetFree.of_bodySF (plainFor_of_name pn_2) hisR ?_
  intro p e s m args below meth c s₁ Bd hml0 hP hK
  obtain ⟨rfl, hZ, hh⟩ := hP
  have hx := Bd.exec
  have hby := Bd.bytes
  have hlk := Bd.notSynchronized
  have hret := Bd.returns
  have hml : c.maxLocals = 2 := hml0
  have hown : s.vm.findClass "com/example/avocet/avocet/diameter/AvpDefinition" = some m.cls := findClass_of_methodNamed Bd.named
  have hnm := (name_of_methodNamed Bd.named Bd.method).1
  have X0 : Stand p l e ({ frames := 0, cells := 0, slots := 0, locals := 0 } : Room) s m #[(.ref a1)] below meth c s₁ [] 0 0 := Stand.of_body Bd
  have e0 : s₁.heap = h0 := by rw [← hh, Bd.state]; rfl
  show own_Dn p e below (own_Ret s (own_QP r h0) ({ frames := 0, cells := 0, slots := 0, locals := 0 } : Room).cells ({ frames := 0, cells := 0, slots := 0, locals := 0 } : Room).slots) (s₁.setTop (entryFrame m #[(.ref a1)] 2))
  rw [ef_rm_fl]
  refine own_st (B := (s₁.setTop (mkF m 1 #[.val (.ref a1), .unset] [(.ref a1)]))) (fun _ zk => XS.aloadN X0.here hx rfl (hb hby d4_0) rfl rfl zk) ?_
  obtain ⟨T1, X1, e1, st1⟩ := getF X0 hx hZ hown (host := "") (Or.inl (hw _ (List.mem_of_getElem? (i := 58) rfl))) Via.refl e0 FV (g := (mkF m 1 #[.val (.ref a1), .unset] [(.ref a1)])) rfl rfl (hb hby d4_1)
  refine own_st (B := (T1.setTop (mkF m 4 #[.val (.ref a1), .unset] [(.long vd)]))) st1 ?_
  refine own_st (B := (T1.setTop (mkF m 5 #[.val (.ref a1), .unset] [(.long (0 : Int64)), (.long vd)]))) (fun _ zk => XS.lconst X1.here hx rfl (hb hby d4_4) zk) ?_
  refine own_st (B := (T1.setTop (mkF m 6 #[.val (.ref a1), .unset] [(.int (lcmpW vd (0 : Int64)))]))) (fun _ zk => XS.lcmp X1.here hx rfl (hb hby d4_5) rfl zk) ?_
  by_cases c6_2 : vd = (0 : Int64)
  · refine own_st (B := (T1.setTop (mkF m 9 #[.val (.ref a1), .unset] []))) (fun _ zk => XS.ifNo X1.here hx rfl (hb hby d4_6) rfl ((if0 _ _).trans (teq ((lw_eq vd (0 : Int64)).mpr c6_2)).2) zk) ?_
    refine own_st (B := (T1.setTop (mkF m 10 #[.val (.ref a1), .unset] [(.int (0 : Int32))]))) (fun _ zk => XS.iconst X1.here hx rfl (hb hby d4_9) zk) ?_
    refine own_st (B := (T1.setTop (mkF m 16 #[.val (.ref a1), .unset] [(.int (0 : Int32))]))) (fun _ zk => XS.goto X1.here hx rfl (pc0 := 10) (pc' := 16) rfl (hb hby d4_10) (by decide) (by decide) zk) ?_
    refine own_st (B := (T1.setTop (mkF m 17 #[.val (.ref a1), .val (.int (0 : Int32))] []))) (fun _ zk => XS.istoreN X1.here hx rfl (hb hby d4_16) rfl (l' := #[.val (.ref a1), .val (.int (0 : Int32))]) rfl zk) ?_
    refine own_st (B := (T1.setTop (mkF m 18 #[.val (.ref a1), .val (.int (0 : Int32))] [(.int (0 : Int32))]))) (fun _ zk => XS.iloadN X1.here hx rfl (hb hby d4_17) rfl zk) ?_
    refine own_st (B := (T1.setTop (mkF m 19 #[.val (.ref a1), .val (.int (0 : Int32))] [(.ref a1), (.int (0 : Int32))]))) (fun _ zk => XS.aloadN X1.here hx rfl (hb hby d4_18) rfl rfl zk) ?_
    obtain ⟨T3, X3, e3, st3⟩ := getF X1 hx hZ hown (host := "") (Or.inl (hw _ (List.mem_of_getElem? (i := 60) rfl))) Via.refl e1 FM (g := (mkF m 19 #[.val (.ref a1), .val (.int (0 : Int32))] [(.ref a1), (.int (0 : Int32))])) rfl rfl (hb hby d4_19)
    refine own_st (B := (T3.setTop (mkF m 22 #[.val (.ref a1), .val (.int (0 : Int32))] [(.int md), (.int (0 : Int32))]))) st3 ?_
    by_cases c22_4 : md = (0 : Int32)
    · refine own_st (B := (T3.setTop (mkF m 30 #[.val (.ref a1), .val (.int (0 : Int32))] [(.int (0 : Int32))]))) (fun _ zk => XS.ifYes X3.here hx rfl (pc0 := 22) (pc' := 30) rfl (hb hby d4_22) rfl ((if0 _ _).trans (teq c22_4).1) (by decide) (by decide) zk) ?_
      refine own_st (B := (T3.setTop (mkF m 31 #[.val (.ref a1), .val (.int (0 : Int32))] [(.int (0 : Int32)), (.int (0 : Int32))]))) (fun _ zk => XS.iconst X3.here hx rfl (hb hby d4_30) zk) ?_
      refine own_st (B := (T3.setTop (mkF m 32 #[.val (.ref a1), .val (.int (0 : Int32))] [(.int ((0 : Int32) ||| (0 : Int32)))]))) (fun _ zk => XS.ior X3.here hx rfl (hb hby d4_31) rfl zk) ?_
      subst hr
      have hv : own_fl vd md = ((0 : Int32) ||| (0 : Int32)) := by
        unfold own_fl
        rw [if_pos c6_2, if_pos c22_4]
      exact own_retI X3 hx hlk hret (hb hby d4_32) (by show own_QP (own_fl vd md) h0 _ T3.heap _; rw [e3]; exact ⟨by rw [hv], rfl, rfl⟩) (by decide) (by decide)
    · refine own_st (B := (T3.setTop (mkF m 25 #[.val (.ref a1), .val (.int (0 : Int32))] [(.int (0 : Int32))]))) (fun _ zk => XS.ifNo X3.here hx rfl (hb hby d4_22) rfl ((if0 _ _).trans (feq c22_4).1) zk) ?_
      refine own_st (B := (T3.setTop (mkF m 27 #[.val (.ref a1), .val (.int (0 : Int32))] [(.int (64 : Int32)), (.int (0 : Int32))]))) (fun _ zk => XS.bipush X3.here hx rfl (hb hby d4_25) zk) ?_
      refine own_st (B := (T3.setTop (mkF m 31 #[.val (.ref a1), .val (.int (0 : Int32))] [(.int (64 : Int32)), (.int (0 : Int32))]))) (fun _ zk => XS.goto X3.here hx rfl (pc0 := 27) (pc' := 31) rfl (hb hby d4_27) (by decide) (by decide) zk) ?_
      refine own_st (B := (T3.setTop (mkF m 32 #[.val (.ref a1), .val (.int (0 : Int32))] [(.int ((0 : Int32) ||| (64 : Int32)))]))) (fun _ zk => XS.ior X3.here hx rfl (hb hby d4_31) rfl zk) ?_
      subst hr
      have hv : own_fl vd md = ((0 : Int32) ||| (64 : Int32)) := by
        unfold own_fl
        rw [if_pos c6_2, if_neg c22_4]
      exact own_retI X3 hx hlk hret (hb hby d4_32) (by show own_QP (own_fl vd md) h0 _ T3.heap _; rw [e3]; exact ⟨by rw [hv], rfl, rfl⟩) (by decide) (by decide)
  · refine own_st (B := (T1.setTop (mkF m 13 #[.val (.ref a1), .unset] []))) (fun _ zk => XS.ifYes X1.here hx rfl (pc0 := 6) (pc' := 13) rfl (hb hby d4_6) rfl ((if0 _ _).trans (feq (mt (lw_eq vd (0 : Int64)).mp c6_2)).2) (by decide) (by decide) zk) ?_
    refine own_st (B := (T1.setTop (mkF m 16 #[.val (.ref a1), .unset] [(.int (128 : Int32))]))) (fun _ zk => XS.sipush X1.here hx rfl (hb hby d4_13) zk) ?_
    refine own_st (B := (T1.setTop (mkF m 17 #[.val (.ref a1), .val (.int (128 : Int32))] []))) (fun _ zk => XS.istoreN X1.here hx rfl (hb hby d4_16) rfl (l' := #[.val (.ref a1), .val (.int (128 : Int32))]) rfl zk) ?_
    refine own_st (B := (T1.setTop (mkF m 18 #[.val (.ref a1), .val (.int (128 : Int32))] [(.int (128 : Int32))]))) (fun _ zk => XS.iloadN X1.here hx rfl (hb hby d4_17) rfl zk) ?_
    refine own_st (B := (T1.setTop (mkF m 19 #[.val (.ref a1), .val (.int (128 : Int32))] [(.ref a1), (.int (128 : Int32))]))) (fun _ zk => XS.aloadN X1.here hx rfl (hb hby d4_18) rfl rfl zk) ?_
    obtain ⟨T5, X5, e5, st5⟩ := getF X1 hx hZ hown (host := "") (Or.inl (hw _ (List.mem_of_getElem? (i := 60) rfl))) Via.refl e1 FM (g := (mkF m 19 #[.val (.ref a1), .val (.int (128 : Int32))] [(.ref a1), (.int (128 : Int32))])) rfl rfl (hb hby d4_19)
    refine own_st (B := (T5.setTop (mkF m 22 #[.val (.ref a1), .val (.int (128 : Int32))] [(.int md), (.int (128 : Int32))]))) st5 ?_
    by_cases c22_6 : md = (0 : Int32)
    · refine own_st (B := (T5.setTop (mkF m 30 #[.val (.ref a1), .val (.int (128 : Int32))] [(.int (128 : Int32))]))) (fun _ zk => XS.ifYes X5.here hx rfl (pc0 := 22) (pc' := 30) rfl (hb hby d4_22) rfl ((if0 _ _).trans (teq c22_6).1) (by decide) (by decide) zk) ?_
      refine own_st (B := (T5.setTop (mkF m 31 #[.val (.ref a1), .val (.int (128 : Int32))] [(.int (0 : Int32)), (.int (128 : Int32))]))) (fun _ zk => XS.iconst X5.here hx rfl (hb hby d4_30) zk) ?_
      refine own_st (B := (T5.setTop (mkF m 32 #[.val (.ref a1), .val (.int (128 : Int32))] [(.int ((128 : Int32) ||| (0 : Int32)))]))) (fun _ zk => XS.ior X5.here hx rfl (hb hby d4_31) rfl zk) ?_
      subst hr
      have hv : own_fl vd md = ((128 : Int32) ||| (0 : Int32)) := by
        unfold own_fl
        rw [if_neg c6_2, if_pos c22_6]
      exact own_retI X5 hx hlk hret (hb hby d4_32) (by show own_QP (own_fl vd md) h0 _ T5.heap _; rw [e5]; exact ⟨by rw [hv], rfl, rfl⟩) (by decide) (by decide)
    · refine own_st (B := (T5.setTop (mkF m 25 #[.val (.ref a1), .val (.int (128 : Int32))] [(.int (128 : Int32))]))) (fun _ zk => XS.ifNo X5.here hx rfl (hb hby d4_22) rfl ((if0 _ _).trans (feq c22_6).1) zk) ?_
      refine own_st (B := (T5.setTop (mkF m 27 #[.val (.ref a1), .val (.int (128 : Int32))] [(.int (64 : Int32)), (.int (128 : Int32))]))) (fun _ zk => XS.bipush X5.here hx rfl (hb hby d4_25) zk) ?_
      refine own_st (B := (T5.setTop (mkF m 31 #[.val (.ref a1), .val (.int (128 : Int32))] [(.int (64 : Int32)), (.int (128 : Int32))]))) (fun _ zk => XS.goto X5.here hx rfl (pc0 := 27) (pc' := 31) rfl (hb hby d4_27) (by decide) (by decide) zk) ?_
      refine own_st (B := (T5.setTop (mkF m 32 #[.val (.ref a1), .val (.int (128 : Int32))] [(.int ((128 : Int32) ||| (64 : Int32)))]))) (fun _ zk => XS.ior X5.here hx rfl (hb hby d4_31) rfl zk) ?_
      subst hr
      have hv : own_fl vd md = ((128 : Int32) ||| (64 : Int32)) := by
        unfold own_fl
        rw [if_neg c6_2, if_neg c22_6]
      exact own_retI X5 hx hlk hret (hb hby d4_32) (by show own_QP (own_fl vd md) h0 _ T5.heap _; rw [e5]; exact ⟨by rw [hv], rfl, rfl⟩) (by decide) (by decide)
theorem own_staK {Z : State} {h h' : Heap} {C n d : String} {v : Value} {x : Addr} {D : String} (F : Sta Z h C n d v) (K : Keep h h' [x]) (E : Exa Z h x D) : Sta Z h' C n d v := by
  obtain ⟨cf, i, k, f, st, cell, h1, h2, h3, h4, h5, h6, h7⟩ := F
  obtain ⟨cl, kl, e1, -, -, e4, -⟩ := E
  have ne : st ∉ [x] := fun q => by
    rw [List.mem_singleton.mp q] at h5
    rw [e1] at h5
    cases h5
    rw [e4] at h6
    cases h6
  exact ⟨cf, i, k, f, st, cell, h1, h2, h3, h4, K.2.1 _ _ h5 ne, h6, h7⟩
theorem pd_2 : parseMethodDescriptor "([C)V" = some ⟨[(.array .char)], none⟩ := by decide +kernel
theorem pd_3 : parseMethodDescriptor "(Ljava/lang/String;JJZLcom/example/avocet/avocet/diameter/AvpFormat;)V" = some ⟨[(.object "java/lang/String"), .long, .long, .boolean, (.object "com/example/avocet/avocet/diameter/AvpFormat")], none⟩ := by decide +kernel
theorem pd_4 : parseMethodDescriptor "()I" = some ⟨[], some .int⟩ := by decide +kernel
theorem ef_rm_law (m : MethodId) (x0 : Int64) (x1 : Int64) (x2 : Int32) (x3 : Int32) (x4 : Int32) : entryFrame m #[(.long x0), (.long x1), (.int x2), (.int x3), (.int x4)] maxLocals = mkF m 0 #[.val (.long x0), .second, .val (.long x1), .second, .val (.int x2), .val (.int x3), .val (.int x4), .unset, .unset, .unset, .unset, .unset, .unset, .unset, .unset, .unset, .unset, .unset] [] := by first | (simp [entryFrame, mkF, argsToLocals, Value.category, maxLocals]; done) | rfl
theorem pn_3 : plainName "com/example/avocet/avocet/diameter/AvpDefinitionFlagsPinLaw" = true := by first | (simp [plainName, overriddenIn]; done) | decide +kernel
set_option maxRecDepth 65536 in
set_option maxHeartbeats 40000000 in
theorem rm_law (l : Launch) (Z : State) (a0 : Array Value) (hw : ∀ d ∈ tables_1, d.before a0 Z = true) (ws : List Jvm.Cond) (p1 p2 : Int64) (p3 p5 p6 cs : Int32) (f1 f2 : Addr) (h0 : Heap) (n0 : Nat) (Z0 : n0 ≤ h0.size) (SC : Sta Z h0 "java/lang/String" "COMPACT_STRINGS" "Z" (.int cs)) (hcs : ¬ cs = 0) (S_UNSIGNED32 : Sta Z h0 "com/example/avocet/avocet/diameter/AvpFormat" "UNSIGNED32" "Lcom/example/avocet/avocet/diameter/AvpFormat;" (.ref f1)) (S_GROUPED : Sta Z h0 "com/example/avocet/avocet/diameter/AvpFormat" "GROUPED" "Lcom/example/avocet/avocet/diameter/AvpFormat;" (.ref f2)) :
    MetFree l x (head1 (Jvm.Cond.code x code maxLocals ret :: ws) room_1) (fun a U => a = #[(.long p1), (.long p2), (.int p3), (.int p5), (.int p6)] ∧ Z.Warmed39 U.vm ∧ U.heap = h0) (fun _ _ _ _ _ => True) (fun _ U o U' => ∃ v L, o = .returned v ∧ own_Q0 n0 v U'.heap L ∧ ReturnedEndW U o U' L 24 2176) := by
  refine MetFree.of_bodySF (plainFor_of_name pn_3) hisR ?_
  intro p e s m args below meth c s₁ Bd hml0 hP hK
  obtain ⟨rfl, hZ, hh⟩ := hP
  have hx := Bd.exec
  have hby := Bd.bytes
  have hlk := Bd.notSynchronized
  have hret := Bd.returns
  have hml : c.maxLocals = 18 := hml0
  have hown : s.vm.findClass "com/example/avocet/avocet/diameter/AvpDefinitionFlagsPinLaw" = some m.cls := findClass_of_methodNamed Bd.named
  have hnm := (name_of_methodNamed Bd.named Bd.method).1
  have X0 : Stand p l e room_1 (s.setVm s.vm) m #[(.long p1), (.long p2), (.int p3), (.int p5), (.int p6)] below meth c s₁ [] 0 0 := Stand.of_body Bd
  have e0 : s₁.heap = h0 := by rw [← hh, Bd.state]; rfl
  have N0 := Fr.nil n0
  have hS := own_since s
  show own_Dn p e below (own_RetW s (own_Q0 n0) 24 2176) (s₁.setTop (entryFrame m #[(.long p1), (.long p2), (.int p3), (.int p5), (.int p6)] maxLocals))
  rw [ef_rm_law]
  refine own_st (B := (s₁.setTop (mkF m 2 #[.val (.long p1), .second, .val (.long p2), .second, .val (.int p3), .val (.int p5), .val (.int p6), .unset, .unset, .unset, .unset, .unset, .unset, .unset, .unset, .unset, .unset, .unset] [(.int p3)]))) (fun _ zk => XS.iload X0.here hx rfl (hb hby at_0) rfl zk) ?_
  refine own_st (B := (s₁.setTop (mkF m 3 #[.val (.long p1), .second, .val (.long p2), .second, .val (.int p3), .val (.int p5), .val (.int p6), .unset, .unset, .unset, .unset, .unset, .unset, .unset, .unset, .unset, .unset, .unset] [(.int (1 : Int32)), (.int p3)]))) (fun _ zk => XS.iconst X0.here hx rfl (hb hby at_2) zk) ?_
  refine own_st (B := (s₁.setTop (mkF m 4 #[.val (.long p1), .second, .val (.long p2), .second, .val (.int p3), .val (.int p5), .val (.int p6), .unset, .unset, .unset, .unset, .unset, .unset, .unset, .unset, .unset, .unset, .unset] [(.int (p3 &&& (1 : Int32)))]))) (fun _ zk => XS.iand X0.here hx rfl (hb hby at_3) rfl zk) ?_
  by_cases c4 : (p3 &&& (1 : Int32)) = (0 : Int32)
  · refine own_st (B := (s₁.setTop (mkF m 11 #[.val (.long p1), .second, .val (.long p2), .second, .val (.int p3), .val (.int p5), .val (.int p6), .unset, .unset, .unset, .unset, .unset, .unset, .unset, .unset, .unset, .unset, .unset] []))) (fun _ zk => XS.ifYes X0.here hx rfl (pc0 := 4) (pc' := 11) rfl (hb hby at_4) rfl ((if0 _ _).trans (teq c4).1) (by decide) (by decide) zk) ?_
    refine own_st (B := (s₁.setTop (mkF m 12 #[.val (.long p1), .second, .val (.long p2), .second, .val (.int p3), .val (.int p5), .val (.int p6), .unset, .unset, .unset, .unset, .unset, .unset, .unset, .unset, .unset, .unset, .unset] [(.int (0 : Int32))]))) (fun _ zk => XS.iconst X0.here hx rfl (hb hby at_11) zk) ?_
    refine own_st (B := (s₁.setTop (mkF m 14 #[.val (.long p1), .second, .val (.long p2), .second, .val (.int p3), .val (.int p5), .val (.int p6), .val (.int (0 : Int32)), .unset, .unset, .unset, .unset, .unset, .unset, .unset, .unset, .unset, .unset] []))) (fun _ zk => XS.istore X0.here hx rfl (hb hby at_12) rfl (l' := #[.val (.long p1), .second, .val (.long p2), .second, .val (.int p3), .val (.int p5), .val (.int p6), .val (.int (0 : Int32)), .unset, .unset, .unset, .unset, .unset, .unset, .unset, .unset, .unset, .unset]) rfl zk) ?_
    refine own_st (B := (s₁.setTop (mkF m 16 #[.val (.long p1), .second, .val (.long p2), .second, .val (.int p3), .val (.int p5), .val (.int p6), .val (.int (0 : Int32)), .unset, .unset, .unset, .unset, .unset, .unset, .unset, .unset, .unset, .unset] [(.int p3)]))) (fun _ zk => XS.iload X0.here hx rfl (hb hby at_14) rfl zk) ?_
    refine own_st (B := (s₁.setTop (mkF m 17 #[.val (.long p1), .second, .val (.long p2), .second, .val (.int p3), .val (.int p5), .val (.int p6), .val (.int (0 : Int32)), .unset, .unset, .unset, .unset, .unset, .unset, .unset, .unset, .unset, .unset] [(.int (2 : Int32)), (.int p3)]))) (fun _ zk => XS.iconst X0.here hx rfl (hb hby at_16) zk) ?_
    refine own_st (B := (s₁.setTop (mkF m 18 #[.val (.long p1), .second, .val (.long p2), .second, .val (.int p3), .val (.int p5), .val (.int p6), .val (.int (0 : Int32)), .unset, .unset, .unset, .unset, .unset, .unset, .unset, .unset, .unset, .unset] [(.int (p3 &&& (2 : Int32)))]))) (fun _ zk => XS.iand X0.here hx rfl (hb hby at_17) rfl zk) ?_
    suffices KV : ∀ vd : Int64, (0 ≤ vd.toInt ∧ vd.toInt ≤ 4294967295) → own_Dn p e below (own_RetW s (own_Q0 n0) 24 2176) (s₁.setTop (mkF m 30 #[.val (.long p1), .second, .val (.long p2), .second, .val (.int p3), .val (.int p5), .val (.int p6), .val (.int (0 : Int32)), .unset, .unset, .unset, .unset, .unset, .unset, .unset, .unset, .unset, .unset] [(.long vd)])) by
      by_cases c18_1 : (p3 &&& (2 : Int32)) = (0 : Int32)
      · refine own_st (B := (s₁.setTop (mkF m 25 #[.val (.long p1), .second, .val (.long p2), .second, .val (.int p3), .val (.int p5), .val (.int p6), .val (.int (0 : Int32)), .unset, .unset, .unset, .unset, .unset, .unset, .unset, .unset, .unset, .unset] []))) (fun _ zk => XS.ifYes X0.here hx rfl (pc0 := 18) (pc' := 25) rfl (hb hby at_18) rfl ((if0 _ _).trans (teq c18_1).1) (by decide) (by decide) zk) ?_
        refine own_st (B := (s₁.setTop (mkF m 26 #[.val (.long p1), .second, .val (.long p2), .second, .val (.int p3), .val (.int p5), .val (.int p6), .val (.int (0 : Int32)), .unset, .unset, .unset, .unset, .unset, .unset, .unset, .unset, .unset, .unset] [(.long p2)]))) (fun _ zk => XS.lloadN X0.here hx rfl (hb hby at_25) rfl zk) ?_
        refine own_st (B := (s₁.setTop (mkF m 29 #[.val (.long p1), .second, .val (.long p2), .second, .val (.int p3), .val (.int p5), .val (.int p6), .val (.int (0 : Int32)), .unset, .unset, .unset, .unset, .unset, .unset, .unset, .unset, .unset, .unset] [(.long (4294967295 : Int64)), (.long p2)]))) (fun _ zk => X0.ldc2Long hx hown (mvT hZ (hw _ (List.mem_of_getElem? (i := 0) rfl))) (g := (mkF m 26 #[.val (.long p1), .second, .val (.long p2), .second, .val (.int p3), .val (.int p5), .val (.int p6), .val (.int (0 : Int32)), .unset, .unset, .unset, .unset, .unset, .unset, .unset, .unset, .unset, .unset] [(.long p2)])) rfl (hb hby at_26) _ zk) ?_
        refine own_st (B := (s₁.setTop (mkF m 30 #[.val (.long p1), .second, .val (.long p2), .second, .val (.int p3), .val (.int p5), .val (.int p6), .val (.int (0 : Int32)), .unset, .unset, .unset, .unset, .unset, .unset, .unset, .unset, .unset, .unset] [(.long (p2 &&& (4294967295 : Int64)))]))) (fun _ zk => XS.land X0.here hx rfl (hb hby at_29) rfl zk) ?_
        exact KV _ (own_u32 p2)
      · refine own_st (B := (s₁.setTop (mkF m 21 #[.val (.long p1), .second, .val (.long p2), .second, .val (.int p3), .val (.int p5), .val (.int p6), .val (.int (0 : Int32)), .unset, .unset, .unset, .unset, .unset, .unset, .unset, .unset, .unset, .unset] []))) (fun _ zk => XS.ifNo X0.here hx rfl (hb hby at_18) rfl ((if0 _ _).trans (feq c18_1).1) zk) ?_
        refine own_st (B := (s₁.setTop (mkF m 22 #[.val (.long p1), .second, .val (.long p2), .second, .val (.int p3), .val (.int p5), .val (.int p6), .val (.int (0 : Int32)), .unset, .unset, .unset, .unset, .unset, .unset, .unset, .unset, .unset, .unset] [(.long (0 : Int64))]))) (fun _ zk => XS.lconst X0.here hx rfl (hb hby at_21) zk) ?_
        refine own_st (B := (s₁.setTop (mkF m 30 #[.val (.long p1), .second, .val (.long p2), .second, .val (.int p3), .val (.int p5), .val (.int p6), .val (.int (0 : Int32)), .unset, .unset, .unset, .unset, .unset, .unset, .unset, .unset, .unset, .unset] [(.long (0 : Int64))]))) (fun _ zk => XS.goto X0.here hx rfl (pc0 := 22) (pc' := 30) rfl (hb hby at_22) (by decide) (by decide) zk) ?_
        exact KV _ (by decide)
    intro vd h_vd
    refine own_st (B := (s₁.setTop (mkF m 32 #[.val (.long p1), .second, .val (.long p2), .second, .val (.int p3), .val (.int p5), .val (.int p6), .val (.int (0 : Int32)), .val (.long vd), .second, .unset, .unset, .unset, .unset, .unset, .unset, .unset, .unset] []))) (fun _ zk => XS.lstore X0.here hx rfl (hb hby at_30) rfl (l' := #[.val (.long p1), .second, .val (.long p2), .second, .val (.int p3), .val (.int p5), .val (.int p6), .val (.int (0 : Int32)), .val (.long vd), .second, .unset, .unset, .unset, .unset, .unset, .unset, .unset, .unset]) rfl zk) ?_
    refine own_st (B := (s₁.setTop (mkF m 33 #[.val (.long p1), .second, .val (.long p2), .second, .val (.int p3), .val (.int p5), .val (.int p6), .val (.int (0 : Int32)), .val (.long vd), .second, .unset, .unset, .unset, .unset, .unset, .unset, .unset, .unset] [(.long p1)]))) (fun _ zk => XS.lloadN X0.here hx rfl (hb hby at_32) rfl zk) ?_
    refine own_st (B := (s₁.setTop (mkF m 36 #[.val (.long p1), .second, .val (.long p2), .second, .val (.int p3), .val (.int p5), .val (.int p6), .val (.int (0 : Int32)), .val (.long vd), .second, .unset, .unset, .unset, .unset, .unset, .unset, .unset, .unset] [(.long (4294967295 : Int64)), (.long p1)]))) (fun _ zk => X0.ldc2Long hx hown (mvT hZ (hw _ (List.mem_of_getElem? (i := 0) rfl))) (g := (mkF m 33 #[.val (.long p1), .second, .val (.long p2), .second, .val (.int p3), .val (.int p5), .val (.int p6), .val (.int (0 : Int32)), .val (.long vd), .second, .unset, .unset, .unset, .unset, .unset, .unset, .unset, .unset] [(.long p1)])) rfl (hb hby at_33) _ zk) ?_
    refine own_st (B := (s₁.setTop (mkF m 37 #[.val (.long p1), .second, .val (.long p2), .second, .val (.int p3), .val (.int p5), .val (.int p6), .val (.int (0 : Int32)), .val (.long vd), .second, .unset, .unset, .unset, .unset, .unset, .unset, .unset, .unset] [(.long (p1 &&& (4294967295 : Int64)))]))) (fun _ zk => XS.land X0.here hx rfl (hb hby at_36) rfl zk) ?_
    refine own_st (B := (s₁.setTop (mkF m 39 #[.val (.long p1), .second, .val (.long p2), .second, .val (.int p3), .val (.int p5), .val (.int p6), .val (.int (0 : Int32)), .val (.long vd), .second, .val (.long (p1 &&& (4294967295 : Int64))), .second, .unset, .unset, .unset, .unset, .unset, .unset] []))) (fun _ zk => XS.lstore X0.here hx rfl (hb hby at_37) rfl (l' := #[.val (.long p1), .second, .val (.long p2), .second, .val (.int p3), .val (.int p5), .val (.int p6), .val (.int (0 : Int32)), .val (.long vd), .second, .val (.long (p1 &&& (4294967295 : Int64))), .second, .unset, .unset, .unset, .unset, .unset, .unset]) rfl zk) ?_
    have hcd := own_u32 p1
    generalize (p1 &&& (4294967295 : Int64)) = cd at *
    refine own_st (B := (s₁.setTop (mkF m 40 #[.val (.long p1), .second, .val (.long p2), .second, .val (.int p3), .val (.int p5), .val (.int p6), .val (.int (0 : Int32)), .val (.long vd), .second, .val (.long cd), .second, .unset, .unset, .unset, .unset, .unset, .unset] [(.int (2 : Int32))]))) (fun _ zk => XS.iconst X0.here hx rfl (hb hby at_39) zk) ?_
    obtain ⟨T2, h2, k2, X2, e2, E2, A2, st2⟩ := newP X0 hx hZ (hw _ (List.mem_of_getElem? (i := 1) rfl)) e0 (g := (mkF m 40 #[.val (.long p1), .second, .val (.long p2), .second, .val (.int p3), .val (.int p5), .val (.int p6), .val (.int (0 : Int32)), .val (.long vd), .second, .val (.long cd), .second, .unset, .unset, .unset, .unset, .unset, .unset] [(.int (2 : Int32))])) rfl (hb hby at_40) rfl (by decide) (cap := 2) (by decide) (by decide) (by decide) (by decide)
    obtain ⟨b2, g2⟩ : ∃ z, z = h0.size := ⟨_, rfl⟩
    rw [← g2] at A2 st2
    have g_b2 : n0 ≤ b2 := Nat.le_trans Z0 (Nat.le_of_eq g2.symm)
    have Z2 : n0 ≤ h2.size := Nat.le_trans Z0 E2.1
    refine own_st (B := (T2.setTop (mkF m 42 #[.val (.long p1), .second, .val (.long p2), .second, .val (.int p3), .val (.int p5), .val (.int p6), .val (.int (0 : Int32)), .val (.long vd), .second, .val (.long cd), .second, .unset, .unset, .unset, .unset, .unset, .unset] [(.ref b2)]))) st2 ?_
    have V0 : own_AV Z h2 b2 .char 2 (fun _ => defaultValue .char) := own_AV.new A2 (by decide)
    refine own_st (B := (T2.setTop (mkF m 44 #[.val (.long p1), .second, .val (.long p2), .second, .val (.int p3), .val (.int p5), .val (.int p6), .val (.int (0 : Int32)), .val (.long vd), .second, .val (.long cd), .second, .val (.ref b2), .unset, .unset, .unset, .unset, .unset] []))) (fun _ zk => XS.astore X2.here hx rfl (hb hby at_42) rfl rfl (l' := #[.val (.long p1), .second, .val (.long p2), .second, .val (.int p3), .val (.int p5), .val (.int p6), .val (.int (0 : Int32)), .val (.long vd), .second, .val (.long cd), .second, .val (.ref b2), .unset, .unset, .unset, .unset, .unset]) rfl zk) ?_
    refine own_st (B := (T2.setTop (mkF m 46 #[.val (.long p1), .second, .val (.long p2), .second, .val (.int p3), .val (.int p5), .val (.int p6), .val (.int (0 : Int32)), .val (.long vd), .second, .val (.long cd), .second, .val (.ref b2), .unset, .unset, .unset, .unset, .unset] [(.ref b2)]))) (fun _ zk => XS.aload X2.here hx rfl (hb hby at_44) rfl rfl zk) ?_
    refine own_st (B := (T2.setTop (mkF m 47 #[.val (.long p1), .second, .val (.long p2), .second, .val (.int p3), .val (.int p5), .val (.int p6), .val (.int (0 : Int32)), .val (.long vd), .second, .val (.long cd), .second, .val (.ref b2), .unset, .unset, .unset, .unset, .unset] [(.int (0 : Int32)), (.ref b2)]))) (fun _ zk => XS.iconst X2.here hx rfl (hb hby at_46) zk) ?_
    refine own_st (B := (T2.setTop (mkF m 49 #[.val (.long p1), .second, .val (.long p2), .second, .val (.int p3), .val (.int p5), .val (.int p6), .val (.int (0 : Int32)), .val (.long vd), .second, .val (.long cd), .second, .val (.ref b2), .unset, .unset, .unset, .unset, .unset] [(.int p5), (.int (0 : Int32)), (.ref b2)]))) (fun _ zk => XS.iload X2.here hx rfl (hb hby at_47) rfl zk) ?_
    refine own_st (B := (T2.setTop (mkF m 52 #[.val (.long p1), .second, .val (.long p2), .second, .val (.int p3), .val (.int p5), .val (.int p6), .val (.int (0 : Int32)), .val (.long vd), .second, .val (.long cd), .second, .val (.ref b2), .unset, .unset, .unset, .unset, .unset] [(.int (255 : Int32)), (.int p5), (.int (0 : Int32)), (.ref b2)]))) (fun _ zk => XS.sipush X2.here hx rfl (hb hby at_49) zk) ?_
    refine own_st (B := (T2.setTop (mkF m 53 #[.val (.long p1), .second, .val (.long p2), .second, .val (.int p3), .val (.int p5), .val (.int p6), .val (.int (0 : Int32)), .val (.long vd), .second, .val (.long cd), .second, .val (.ref b2), .unset, .unset, .unset, .unset, .unset] [(.int (p5 &&& (255 : Int32))), (.int (0 : Int32)), (.ref b2)]))) (fun _ zk => XS.iand X2.here hx rfl (hb hby at_52) rfl zk) ?_
    refine own_st (B := (T2.setTop (mkF m 54 #[.val (.long p1), .second, .val (.long p2), .second, .val (.int p3), .val (.int p5), .val (.int p6), .val (.int (0 : Int32)), .val (.long vd), .second, .val (.long cd), .second, .val (.ref b2), .unset, .unset, .unset, .unset, .unset] [(.int ((p5 &&& (255 : Int32)).toUInt32.toUInt16.toUInt32.toInt32)), (.int (0 : Int32)), (.ref b2)]))) (fun _ zk => XS.i2c X2.here hx rfl (hb hby at_53) rfl zk) ?_
    obtain ⟨T3, h3, X3, e3, W3, V3, st3⟩ := own_stC X2 hx hZ e2 V0 (i := 0) (by decide) (by decide) (by decide) (g := (mkF m 54 #[.val (.long p1), .second, .val (.long p2), .second, .val (.int p3), .val (.int p5), .val (.int p6), .val (.int (0 : Int32)), .val (.long vd), .second, .val (.long cd), .second, .val (.ref b2), .unset, .unset, .unset, .unset, .unset] [(.int ((p5 &&& (255 : Int32)).toUInt32.toUInt16.toUInt32.toInt32)), (.int (0 : Int32)), (.ref b2)])) rfl rfl (hb hby at_54)
    refine own_st (B := (T3.setTop (mkF m 55 #[.val (.long p1), .second, .val (.long p2), .second, .val (.int p3), .val (.int p5), .val (.int p6), .val (.int (0 : Int32)), .val (.long vd), .second, .val (.long cd), .second, .val (.ref b2), .unset, .unset, .unset, .unset, .unset] []))) st3 ?_
    have N3 := Fr.snoc X3 N0 g_b2
    refine own_st (B := (T3.setTop (mkF m 57 #[.val (.long p1), .second, .val (.long p2), .second, .val (.int p3), .val (.int p5), .val (.int p6), .val (.int (0 : Int32)), .val (.long vd), .second, .val (.long cd), .second, .val (.ref b2), .unset, .unset, .unset, .unset, .unset] [(.ref b2)]))) (fun _ zk => XS.aload X3.here hx rfl (hb hby at_55) rfl rfl zk) ?_
    refine own_st (B := (T3.setTop (mkF m 58 #[.val (.long p1), .second, .val (.long p2), .second, .val (.int p3), .val (.int p5), .val (.int p6), .val (.int (0 : Int32)), .val (.long vd), .second, .val (.long cd), .second, .val (.ref b2), .unset, .unset, .unset, .unset, .unset] [(.int (1 : Int32)), (.ref b2)]))) (fun _ zk => XS.iconst X3.here hx rfl (hb hby at_57) zk) ?_
    refine own_st (B := (T3.setTop (mkF m 60 #[.val (.long p1), .second, .val (.long p2), .second, .val (.int p3), .val (.int p5), .val (.int p6), .val (.int (0 : Int32)), .val (.long vd), .second, .val (.long cd), .second, .val (.ref b2), .unset, .unset, .unset, .unset, .unset] [(.int p6), (.int (1 : Int32)), (.ref b2)]))) (fun _ zk => XS.iload X3.here hx rfl (hb hby at_58) rfl zk) ?_
    refine own_st (B := (T3.setTop (mkF m 63 #[.val (.long p1), .second, .val (.long p2), .second, .val (.int p3), .val (.int p5), .val (.int p6), .val (.int (0 : Int32)), .val (.long vd), .second, .val (.long cd), .second, .val (.ref b2), .unset, .unset, .unset, .unset, .unset] [(.int (255 : Int32)), (.int p6), (.int (1 : Int32)), (.ref b2)]))) (fun _ zk => XS.sipush X3.here hx rfl (hb hby at_60) zk) ?_
    refine own_st (B := (T3.setTop (mkF m 64 #[.val (.long p1), .second, .val (.long p2), .second, .val (.int p3), .val (.int p5), .val (.int p6), .val (.int (0 : Int32)), .val (.long vd), .second, .val (.long cd), .second, .val (.ref b2), .unset, .unset, .unset, .unset, .unset] [(.int (p6 &&& (255 : Int32))), (.int (1 : Int32)), (.ref b2)]))) (fun _ zk => XS.iand X3.here hx rfl (hb hby at_63) rfl zk) ?_
    refine own_st (B := (T3.setTop (mkF m 65 #[.val (.long p1), .second, .val (.long p2), .second, .val (.int p3), .val (.int p5), .val (.int p6), .val (.int (0 : Int32)), .val (.long vd), .second, .val (.long cd), .second, .val (.ref b2), .unset, .unset, .unset, .unset, .unset] [(.int ((p6 &&& (255 : Int32)).toUInt32.toUInt16.toUInt32.toInt32)), (.int (1 : Int32)), (.ref b2)]))) (fun _ zk => XS.i2c X3.here hx rfl (hb hby at_64) rfl zk) ?_
    obtain ⟨T4, h4, X4, e4, W4, V4, st4⟩ := own_stC X3 hx hZ e3 V3 (i := 1) (by decide) (by decide) (by decide) (g := (mkF m 65 #[.val (.long p1), .second, .val (.long p2), .second, .val (.int p3), .val (.int p5), .val (.int p6), .val (.int (0 : Int32)), .val (.long vd), .second, .val (.long cd), .second, .val (.ref b2), .unset, .unset, .unset, .unset, .unset] [(.int ((p6 &&& (255 : Int32)).toUInt32.toUInt16.toUInt32.toInt32)), (.int (1 : Int32)), (.ref b2)])) rfl rfl (hb hby at_65)
    refine own_st (B := (T4.setTop (mkF m 66 #[.val (.long p1), .second, .val (.long p2), .second, .val (.int p3), .val (.int p5), .val (.int p6), .val (.int (0 : Int32)), .val (.long vd), .second, .val (.long cd), .second, .val (.ref b2), .unset, .unset, .unset, .unset, .unset] []))) st4 ?_
    have N4 := Fr.snoc X4 N3 g_b2
    have ZW : n0 ≤ h4.size := by rw [W4.size, W3.size]; exact Z2
    obtain ⟨T5, h5, X5, e5, E5, A5, D5, -, st5⟩ := newO X4 hx hZ hown (hw _ (List.mem_of_getElem? (i := 2) rfl)) (hw _ (List.mem_of_getElem? (i := 3) rfl)) (hw _ (List.mem_of_getElem? (i := 4) rfl)) e4 (g := (mkF m 66 #[.val (.long p1), .second, .val (.long p2), .second, .val (.int p3), .val (.int p5), .val (.int p6), .val (.int (0 : Int32)), .val (.long vd), .second, .val (.long cd), .second, .val (.ref b2), .unset, .unset, .unset, .unset, .unset] [])) rfl (hb hby at_66) (by decide) (by decide)
    obtain ⟨b5, g5⟩ : ∃ z, z = h4.size := ⟨_, rfl⟩
    rw [← g5] at A5 D5 st5
    have g_b5 : n0 ≤ b5 := Nat.le_trans ZW (Nat.le_of_eq g5.symm)
    have F_coder_b5 : Fld Z h5 b5 "java/lang/String" "coder" "B" (.int (0 : Int32)) := D5 (Or.inr (hw _ (List.mem_of_getElem? (i := 28) rfl))) (ty := .byte) (by decide)
    have F_value_b5 : Fld Z h5 b5 "java/lang/String" "value" "[B" .null := D5 (Or.inr (hw _ (List.mem_of_getElem? (i := 30) rfl))) (ty := (.array .byte)) (by decide)
    have Z5 : n0 ≤ h5.size := Nat.le_trans ZW E5.1
    refine own_st (B := (T5.setTop (mkF m 69 #[.val (.long p1), .second, .val (.long p2), .second, .val (.int p3), .val (.int p5), .val (.int p6), .val (.int (0 : Int32)), .val (.long vd), .second, .val (.long cd), .second, .val (.ref b2), .unset, .unset, .unset, .unset, .unset] [(.ref b5)]))) st5 ?_
    refine own_st (B := (T5.setTop (mkF m 70 #[.val (.long p1), .second, .val (.long p2), .second, .val (.int p3), .val (.int p5), .val (.int p6), .val (.int (0 : Int32)), .val (.long vd), .second, .val (.long cd), .second, .val (.ref b2), .unset, .unset, .unset, .unset, .unset] [(.ref b5), (.ref b5)]))) (fun _ zk => XS.dup X5.here hx rfl (hb hby at_69) rfl rfl zk) ?_
    refine own_st (B := (T5.setTop (mkF m 72 #[.val (.long p1), .second, .val (.long p2), .second, .val (.int p3), .val (.int p5), .val (.int p6), .val (.int (0 : Int32)), .val (.long vd), .second, .val (.long cd), .second, .val (.ref b2), .unset, .unset, .unset, .unset, .unset] [(.ref b2), (.ref b5), (.ref b5)]))) (fun _ zk => XS.aload X5.here hx rfl (hb hby at_70) rfl rfl zk) ?_
    obtain ⟨kA, VA⟩ : ∃ kA, Arv Z h5 b2 kA .char 2 (([p5 &&& 255, p6 &&& 255] : List Int32).map Value.int) (.int 0) := (V4.ext E5).arv (by decide) (by decide)
      (fun i hi => by
        have hi' : i = 0 ∨ i = 1 := by omega
        rcases hi' with rfl | rfl
        · exact congrArg Value.int (own_ch p5).symm
        · exact congrArg Value.int (own_ch p6).symm)
      (fun i hi => by
        have hi' : i = 0 ∨ i = 1 := by omega
        rcases hi' with rfl | rfl
        · exact fits_nar_char _
        · exact fits_nar_char _)
    have hws : ∀ d ∈ StrChars.Road.words, d.before a0 Z = true := fun d hd => hw d ((by decide +kernel : ∀ d ∈ StrChars.Road.words, d ∈ tables_1) d hd)
    have hlat : ∀ c ∈ ([p5 &&& 255, p6 &&& 255] : List Int32), ¬ c < 0 ∧ ¬ (255 : Int32) < c := by
      intro c hc
      simp only [List.mem_cons, List.not_mem_nil, or_false] at hc
      rcases hc with rfl | rfl
      · exact own_and255 p5
      · exact own_and255 p6
    obtain ⟨v6, T6, L6, X6, Q6, st6⟩ := own_callNK (W := 1) X5 hx hZ (y := (⟨"java/lang/String", "<init>", "([C)V"⟩ : MethodName)) rfl hown (hw _ (List.mem_of_getElem? (i := 5) rfl)) (hw _ (List.mem_of_getElem? (i := 6) rfl)) (hw _ (List.mem_of_getElem? (i := 7) rfl)) (by decide) e5 (StrChars.Road.backV (W := 1) hZ hws (kI := 4) (hw _ (List.mem_of_getElem? (i := 3) rfl)) (cs := [p5 &&& 255, p6 &&& 255]) (bs := ([p5 &&& 255, p6 &&& 255] : List Int32).map (fun c => c.toInt8.toInt32)) (n := 2) g_b5 Z5 A5 F_value_b5 F_coder_b5 VA ((((SC.ext E2).wr W3).wr W4).ext E5) hcs rfl rfl (by decide) (by decide) hlat rfl (by decide) (by decide)) (g := (mkF m 72 #[.val (.long p1), .second, .val (.long p2), .second, .val (.int p3), .val (.int p5), .val (.int p6), .val (.int (0 : Int32)), .val (.long vd), .second, .val (.long cd), .second, .val (.ref b2), .unset, .unset, .unset, .unset, .unset] [(.ref b2), (.ref b5), (.ref b5)])) rfl (by rw [hml]; rfl) (a := b5) (argsL := [(.ref b2)]) (rest := [(.ref b5)]) (lenOf pd_2 rfl) rfl rfl (by show 2 * 0 + _ ≤ _; exact Nat.le_of_eq rfl) (hb hby at_72) (by decide) (by decide)
    obtain ⟨rfl, N6q, K6, EX6, -, -⟩ := Q6
    refine own_st (B := (T6.setTop (mkF m 75 #[.val (.long p1), .second, .val (.long p2), .second, .val (.int p3), .val (.int p5), .val (.int p6), .val (.int (0 : Int32)), .val (.long vd), .second, .val (.long cd), .second, .val (.ref b2), .unset, .unset, .unset, .unset, .unset] [(.ref b5)]))) st6 ?_
    have N6 := Fr.app N4 N6q
    have SJ : ∀ {C n d : String} {v : Value}, Sta Z h0 C n d v → Sta Z T6.heap C n d v := fun F => own_staK (((F.ext E2).wr W3).wr W4 |>.ext E5) K6 A5
    refine own_st (B := (T6.setTop (mkF m 77 #[.val (.long p1), .second, .val (.long p2), .second, .val (.int p3), .val (.int p5), .val (.int p6), .val (.int (0 : Int32)), .val (.long vd), .second, .val (.long cd), .second, .val (.ref b2), .val (.ref b5), .unset, .unset, .unset, .unset] []))) (fun _ zk => XS.astore X6.here hx rfl (hb hby at_75) rfl rfl (l' := #[.val (.long p1), .second, .val (.long p2), .second, .val (.int p3), .val (.int p5), .val (.int p6), .val (.int (0 : Int32)), .val (.long vd), .second, .val (.long cd), .second, .val (.ref b2), .val (.ref b5), .unset, .unset, .unset, .unset]) rfl zk) ?_
    refine own_st (B := (T6.setTop (mkF m 79 #[.val (.long p1), .second, .val (.long p2), .second, .val (.int p3), .val (.int p5), .val (.int p6), .val (.int (0 : Int32)), .val (.long vd), .second, .val (.long cd), .second, .val (.ref b2), .val (.ref b5), .unset, .unset, .unset, .unset] [(.int p3)]))) (fun _ zk => XS.iload X6.here hx rfl (hb hby at_77) rfl zk) ?_
    refine own_st (B := (T6.setTop (mkF m 80 #[.val (.long p1), .second, .val (.long p2), .second, .val (.int p3), .val (.int p5), .val (.int p6), .val (.int (0 : Int32)), .val (.long vd), .second, .val (.long cd), .second, .val (.ref b2), .val (.ref b5), .unset, .unset, .unset, .unset] [(.int (4 : Int32)), (.int p3)]))) (fun _ zk => XS.iconst X6.here hx rfl (hb hby at_79) zk) ?_
    refine own_st (B := (T6.setTop (mkF m 81 #[.val (.long p1), .second, .val (.long p2), .second, .val (.int p3), .val (.int p5), .val (.int p6), .val (.int (0 : Int32)), .val (.long vd), .second, .val (.long cd), .second, .val (.ref b2), .val (.ref b5), .unset, .unset, .unset, .unset] [(.int (p3 &&& (4 : Int32)))]))) (fun _ zk => XS.iand X6.here hx rfl (hb hby at_80) rfl zk) ?_
    by_cases cF : (p3 &&& (4 : Int32)) = (0 : Int32)
    · refine own_st (B := (T6.setTop (mkF m 90 #[.val (.long p1), .second, .val (.long p2), .second, .val (.int p3), .val (.int p5), .val (.int p6), .val (.int (0 : Int32)), .val (.long vd), .second, .val (.long cd), .second, .val (.ref b2), .val (.ref b5), .unset, .unset, .unset, .unset] []))) (fun _ zk => XS.ifYes X6.here hx rfl (pc0 := 81) (pc' := 90) rfl (hb hby at_81) rfl ((if0 _ _).trans (teq cF).1) (by decide) (by decide) zk) ?_
      obtain ⟨T7, X7, e7, st7⟩ := getS2 X6 hx hZ hown (host := "") (Or.inl (hw _ (List.mem_of_getElem? (i := 31) rfl))) Via.refl rfl (SJ S_UNSIGNED32) (g := (mkF m 90 #[.val (.long p1), .second, .val (.long p2), .second, .val (.int p3), .val (.int p5), .val (.int p6), .val (.int (0 : Int32)), .val (.long vd), .second, .val (.long cd), .second, .val (.ref b2), .val (.ref b5), .unset, .unset, .unset, .unset] [])) rfl (hb hby at_90)
      refine own_st (B := (T7.setTop (mkF m 93 #[.val (.long p1), .second, .val (.long p2), .second, .val (.int p3), .val (.int p5), .val (.int p6), .val (.int (0 : Int32)), .val (.long vd), .second, .val (.long cd), .second, .val (.ref b2), .val (.ref b5), .unset, .unset, .unset, .unset] [(.ref f1)]))) st7 ?_
      refine own_st (B := (T7.setTop (mkF m 95 #[.val (.long p1), .second, .val (.long p2), .second, .val (.int p3), .val (.int p5), .val (.int p6), .val (.int (0 : Int32)), .val (.long vd), .second, .val (.long cd), .second, .val (.ref b2), .val (.ref b5), .val (.ref f1), .unset, .unset, .unset] []))) (fun _ zk => XS.astore X7.here hx rfl (hb hby at_93) rfl rfl (l' := #[.val (.long p1), .second, .val (.long p2), .second, .val (.int p3), .val (.int p5), .val (.int p6), .val (.int (0 : Int32)), .val (.long vd), .second, .val (.long cd), .second, .val (.ref b2), .val (.ref b5), .val (.ref f1), .unset, .unset, .unset]) rfl zk) ?_
      have ZN : n0 ≤ T6.heap.size := Nat.le_trans Z5 K6.1
      obtain ⟨T8, h8, X8, e8, E8, A8, D8, -, st8⟩ := newO X7 hx hZ hown (hw _ (List.mem_of_getElem? (i := 34) rfl)) (hw _ (List.mem_of_getElem? (i := 35) rfl)) (hw _ (List.mem_of_getElem? (i := 36) rfl)) e7 (g := (mkF m 95 #[.val (.long p1), .second, .val (.long p2), .second, .val (.int p3), .val (.int p5), .val (.int p6), .val (.int (0 : Int32)), .val (.long vd), .second, .val (.long cd), .second, .val (.ref b2), .val (.ref b5), .val (.ref f1), .unset, .unset, .unset] [])) rfl (hb hby at_95) (by decide) (by decide)
      obtain ⟨b8, g8⟩ : ∃ z, z = T6.heap.size := ⟨_, rfl⟩
      rw [← g8] at A8 D8 st8
      have g_b8 : n0 ≤ b8 := Nat.le_trans ZN (Nat.le_of_eq g8.symm)
      have F_name_b8 : Fld Z h8 b8 "com/example/avocet/avocet/diameter/AvpDefinition" "name" "Ljava/lang/String;" .null := D8 (Or.inr (hw _ (List.mem_of_getElem? (i := 55) rfl))) (ty := (.object "java/lang/String")) (by decide)
      have F_code_b8 : Fld Z h8 b8 "com/example/avocet/avocet/diameter/AvpDefinition" "code" "J" (.long (0 : Int64)) := D8 (Or.inr (hw _ (List.mem_of_getElem? (i := 57) rfl))) (ty := .long) (by decide)
      have F_vendorId_b8 : Fld Z h8 b8 "com/example/avocet/avocet/diameter/AvpDefinition" "vendorId" "J" (.long (0 : Int64)) := D8 (Or.inr (hw _ (List.mem_of_getElem? (i := 59) rfl))) (ty := .long) (by decide)
      have F_mandatory_b8 : Fld Z h8 b8 "com/example/avocet/avocet/diameter/AvpDefinition" "mandatory" "Z" (.int (0 : Int32)) := D8 (Or.inr (hw _ (List.mem_of_getElem? (i := 61) rfl))) (ty := .boolean) (by decide)
      have F_format_b8 : Fld Z h8 b8 "com/example/avocet/avocet/diameter/AvpDefinition" "format" "Lcom/example/avocet/avocet/diameter/AvpFormat;" .null := D8 (Or.inr (hw _ (List.mem_of_getElem? (i := 63) rfl))) (ty := (.object "com/example/avocet/avocet/diameter/AvpFormat")) (by decide)
      have Z8 : n0 ≤ h8.size := Nat.le_trans ZN E8.1
      refine own_st (B := (T8.setTop (mkF m 98 #[.val (.long p1), .second, .val (.long p2), .second, .val (.int p3), .val (.int p5), .val (.int p6), .val (.int (0 : Int32)), .val (.long vd), .second, .val (.long cd), .second, .val (.ref b2), .val (.ref b5), .val (.ref f1), .unset, .unset, .unset] [(.ref b8)]))) st8 ?_
      refine own_st (B := (T8.setTop (mkF m 99 #[.val (.long p1), .second, .val (.long p2), .second, .val (.int p3), .val (.int p5), .val (.int p6), .val (.int (0 : Int32)), .val (.long vd), .second, .val (.long cd), .second, .val (.ref b2), .val (.ref b5), .val (.ref f1), .unset, .unset, .unset] [(.ref b8), (.ref b8)]))) (fun _ zk => XS.dup X8.here hx rfl (hb hby at_98) rfl rfl zk) ?_
      refine own_st (B := (T8.setTop (mkF m 101 #[.val (.long p1), .second, .val (.long p2), .second, .val (.int p3), .val (.int p5), .val (.int p6), .val (.int (0 : Int32)), .val (.long vd), .second, .val (.long cd), .second, .val (.ref b2), .val (.ref b5), .val (.ref f1), .unset, .unset, .unset] [(.ref b5), (.ref b8), (.ref b8)]))) (fun _ zk => XS.aload X8.here hx rfl (hb hby at_99) rfl rfl zk) ?_
      refine own_st (B := (T8.setTop (mkF m 103 #[.val (.long p1), .second, .val (.long p2), .second, .val (.int p3), .val (.int p5), .val (.int p6), .val (.int (0 : Int32)), .val (.long vd), .second, .val (.long cd), .second, .val (.ref b2), .val (.ref b5), .val (.ref f1), .unset, .unset, .unset] [(.long cd), (.ref b5), (.ref b8), (.ref b8)]))) (fun _ zk => XS.lload X8.here hx rfl (hb hby at_101) rfl zk) ?_
      refine own_st (B := (T8.setTop (mkF m 105 #[.val (.long p1), .second, .val (.long p2), .second, .val (.int p3), .val (.int p5), .val (.int p6), .val (.int (0 : Int32)), .val (.long vd), .second, .val (.long cd), .second, .val (.ref b2), .val (.ref b5), .val (.ref f1), .unset, .unset, .unset] [(.long vd), (.long cd), (.ref b5), (.ref b8), (.ref b8)]))) (fun _ zk => XS.lload X8.here hx rfl (hb hby at_103) rfl zk) ?_
      refine own_st (B := (T8.setTop (mkF m 107 #[.val (.long p1), .second, .val (.long p2), .second, .val (.int p3), .val (.int p5), .val (.int p6), .val (.int (0 : Int32)), .val (.long vd), .second, .val (.long cd), .second, .val (.ref b2), .val (.ref b5), .val (.ref f1), .unset, .unset, .unset] [(.int (0 : Int32)), (.long vd), (.long cd), (.ref b5), (.ref b8), (.ref b8)]))) (fun _ zk => XS.iload X8.here hx rfl (hb hby at_105) rfl zk) ?_
      refine own_st (B := (T8.setTop (mkF m 109 #[.val (.long p1), .second, .val (.long p2), .second, .val (.int p3), .val (.int p5), .val (.int p6), .val (.int (0 : Int32)), .val (.long vd), .second, .val (.long cd), .second, .val (.ref b2), .val (.ref b5), .val (.ref f1), .unset, .unset, .unset] [(.ref f1), (.int (0 : Int32)), (.long vd), (.long cd), (.ref b5), (.ref b8), (.ref b8)]))) (fun _ zk => XS.aload X8.here hx rfl (hb hby at_107) rfl rfl zk) ?_
      obtain ⟨v9, T9, L9, X9, hS9, hsz9, hZ9, ho9, Q9, st9⟩ := own_callNW (W := 1) X8 hS hx hZ (y := (⟨"com/example/avocet/avocet/diameter/AvpDefinition", "<init>", "(Ljava/lang/String;JJZLcom/example/avocet/avocet/diameter/AvpFormat;)V"⟩ : MethodName)) rfl hown (hw _ (List.mem_of_getElem? (i := 37) rfl)) (hw _ (List.mem_of_getElem? (i := 38) rfl)) (hw _ (List.mem_of_getElem? (i := 36) rfl)) (hw _ (List.mem_of_getElem? (i := 39) rfl)) (by decide) e8 (Nat.zero_le _) (rm_init l Z a0 hw [] b8 b5 cd vd 0 f1 h8 n0 Z8 g_b8 A8 F_name_b8 F_code_b8 F_vendorId_b8 F_mandatory_b8 F_format_b8 hcd h_vd (by decide)) (g := (mkF m 109 #[.val (.long p1), .second, .val (.long p2), .second, .val (.int p3), .val (.int p5), .val (.int p6), .val (.int (0 : Int32)), .val (.long vd), .second, .val (.long cd), .second, .val (.ref b2), .val (.ref b5), .val (.ref f1), .unset, .unset, .unset] [(.ref f1), (.int (0 : Int32)), (.long vd), (.long cd), (.ref b5), (.ref b8), (.ref b8)])) rfl (by rw [hml]; rfl) (a := b8) (argsL := [(.ref b5), (.long cd), (.long vd), (.int (0 : Int32)), (.ref f1)]) (rest := [(.ref b8)]) (lenOf pd_3 rfl) rfl rfl (by show 2 * 0 + _ ≤ _; exact Nat.le_of_eq rfl) (hb hby at_109) (by decide) (by decide) (by decide) (by decide)
      have hZ := hZ9
      have hown := ho9
      have hS := hS9
      obtain ⟨rfl, N9q, EX9, FV9, FM9⟩ := Q9
      refine own_st (B := (T9.setTop (mkF m 112 #[.val (.long p1), .second, .val (.long p2), .second, .val (.int p3), .val (.int p5), .val (.int p6), .val (.int (0 : Int32)), .val (.long vd), .second, .val (.long cd), .second, .val (.ref b2), .val (.ref b5), .val (.ref f1), .unset, .unset, .unset] [(.ref b8)]))) st9 ?_
      have N9 := Fr.app N6 N9q
      refine own_st (B := (T9.setTop (mkF m 114 #[.val (.long p1), .second, .val (.long p2), .second, .val (.int p3), .val (.int p5), .val (.int p6), .val (.int (0 : Int32)), .val (.long vd), .second, .val (.long cd), .second, .val (.ref b2), .val (.ref b5), .val (.ref f1), .val (.ref b8), .unset, .unset] []))) (fun _ zk => XS.astore X9.here hx rfl (hb hby at_112) rfl rfl (l' := #[.val (.long p1), .second, .val (.long p2), .second, .val (.int p3), .val (.int p5), .val (.int p6), .val (.int (0 : Int32)), .val (.long vd), .second, .val (.long cd), .second, .val (.ref b2), .val (.ref b5), .val (.ref f1), .val (.ref b8), .unset, .unset]) rfl zk) ?_
      refine own_st (B := (T9.setTop (mkF m 116 #[.val (.long p1), .second, .val (.long p2), .second, .val (.int p3), .val (.int p5), .val (.int p6), .val (.int (0 : Int32)), .val (.long vd), .second, .val (.long cd), .second, .val (.ref b2), .val (.ref b5), .val (.ref f1), .val (.ref b8), .unset, .unset] [(.ref b8)]))) (fun _ zk => XS.aload X9.here hx rfl (hb hby at_114) rfl rfl zk) ?_
      by_cases hv : vd = 0
      · have hfl : own_fl vd 0 = 0 := by
          unfold own_fl
          rw [if_pos hv]
          decide
        obtain ⟨v10, T10, L10, X10, Q10, st10⟩ := own_callV (W := 0) X9 hx hZ (y := (⟨"com/example/avocet/avocet/diameter/AvpDefinition", "flags", "()I"⟩ : MethodName)) (z := (⟨"com/example/avocet/avocet/diameter/AvpDefinition", "flags", "()I"⟩ : MethodName)) hown (hw _ (List.mem_of_getElem? (i := 64) rfl)) (hw _ (List.mem_of_getElem? (i := 65) rfl)) (notFace_of_selects (args := #[]) (mvT hZ (hw _ (List.mem_of_getElem? (i := 67) rfl)))) (hw _ (List.mem_of_getElem? (i := 67) rfl)) (hw _ (List.mem_of_getElem? (i := 66) rfl)) (hw _ (List.mem_of_getElem? (i := 36) rfl)) (hw _ (List.mem_of_getElem? (i := 68) rfl)) (by decide) rfl (rm_fl l Z a0 hw [] b8 vd 0 0 T9.heap FV9 FM9 hfl) EX9 (g := (mkF m 116 #[.val (.long p1), .second, .val (.long p2), .second, .val (.int p3), .val (.int p5), .val (.int p6), .val (.int (0 : Int32)), .val (.long vd), .second, .val (.long cd), .second, .val (.ref b2), .val (.ref b5), .val (.ref f1), .val (.ref b8), .unset, .unset] [(.ref b8)])) rfl (by rw [hml]; rfl) (argsL := []) (rest := []) (lenOf pd_4 rfl) rfl rfl (by show 2 * 0 + _ ≤ _; exact Nat.le_of_eq rfl) (hb hby at_116) (by decide) (by decide) (by decide) (by decide)
        obtain ⟨rfl, rfl, qe10⟩ := Q10
        refine own_st (B := (T10.setTop (mkF m 119 #[.val (.long p1), .second, .val (.long p2), .second, .val (.int p3), .val (.int p5), .val (.int p6), .val (.int (0 : Int32)), .val (.long vd), .second, .val (.long cd), .second, .val (.ref b2), .val (.ref b5), .val (.ref f1), .val (.ref b8), .unset, .unset] [(.int (0 : Int32))]))) st10 ?_
        refine own_st (B := (T10.setTop (mkF m 121 #[.val (.long p1), .second, .val (.long p2), .second, .val (.int p3), .val (.int p5), .val (.int p6), .val (.int (0 : Int32)), .val (.long vd), .second, .val (.long cd), .second, .val (.ref b2), .val (.ref b5), .val (.ref f1), .val (.ref b8), .val (.int (0 : Int32)), .unset] []))) (fun _ zk => XS.istore X10.here hx rfl (hb hby at_119) rfl (l' := #[.val (.long p1), .second, .val (.long p2), .second, .val (.int p3), .val (.int p5), .val (.int p6), .val (.int (0 : Int32)), .val (.long vd), .second, .val (.long cd), .second, .val (.ref b2), .val (.ref b5), .val (.ref f1), .val (.ref b8), .val (.int (0 : Int32)), .unset]) rfl zk) ?_
        refine own_st (B := (T10.setTop (mkF m 123 #[.val (.long p1), .second, .val (.long p2), .second, .val (.int p3), .val (.int p5), .val (.int p6), .val (.int (0 : Int32)), .val (.long vd), .second, .val (.long cd), .second, .val (.ref b2), .val (.ref b5), .val (.ref f1), .val (.ref b8), .val (.int (0 : Int32)), .unset] [(.long vd)]))) (fun _ zk => XS.lload X10.here hx rfl (hb hby at_121) rfl zk) ?_
        refine own_st (B := (T10.setTop (mkF m 124 #[.val (.long p1), .second, .val (.long p2), .second, .val (.int p3), .val (.int p5), .val (.int p6), .val (.int (0 : Int32)), .val (.long vd), .second, .val (.long cd), .second, .val (.ref b2), .val (.ref b5), .val (.ref f1), .val (.ref b8), .val (.int (0 : Int32)), .unset] [(.long (0 : Int64)), (.long vd)]))) (fun _ zk => XS.lconst X10.here hx rfl (hb hby at_123) zk) ?_
        refine own_st (B := (T10.setTop (mkF m 125 #[.val (.long p1), .second, .val (.long p2), .second, .val (.int p3), .val (.int p5), .val (.int p6), .val (.int (0 : Int32)), .val (.long vd), .second, .val (.long cd), .second, .val (.ref b2), .val (.ref b5), .val (.ref f1), .val (.ref b8), .val (.int (0 : Int32)), .unset] [(.int (lcmpW vd (0 : Int64)))]))) (fun _ zk => XS.lcmp X10.here hx rfl (hb hby at_124) rfl zk) ?_
        refine own_st (B := (T10.setTop (mkF m 128 #[.val (.long p1), .second, .val (.long p2), .second, .val (.int p3), .val (.int p5), .val (.int p6), .val (.int (0 : Int32)), .val (.long vd), .second, .val (.long cd), .second, .val (.ref b2), .val (.ref b5), .val (.ref f1), .val (.ref b8), .val (.int (0 : Int32)), .unset] []))) (fun _ zk => XS.ifNo X10.here hx rfl (hb hby at_125) rfl ((if0 _ _).trans (teq ((lw_eq vd (0 : Int64)).mpr hv)).2) zk) ?_
        refine own_st (B := (T10.setTop (mkF m 130 #[.val (.long p1), .second, .val (.long p2), .second, .val (.int p3), .val (.int p5), .val (.int p6), .val (.int (0 : Int32)), .val (.long vd), .second, .val (.long cd), .second, .val (.ref b2), .val (.ref b5), .val (.ref f1), .val (.ref b8), .val (.int (0 : Int32)), .unset] [(.int (0 : Int32))]))) (fun _ zk => XS.iload X10.here hx rfl (hb hby at_128) rfl zk) ?_
        refine own_st (B := (T10.setTop (mkF m 140 #[.val (.long p1), .second, .val (.long p2), .second, .val (.int p3), .val (.int p5), .val (.int p6), .val (.int (0 : Int32)), .val (.long vd), .second, .val (.long cd), .second, .val (.ref b2), .val (.ref b5), .val (.ref f1), .val (.ref b8), .val (.int (0 : Int32)), .unset] []))) (fun _ zk => XS.ifYes X10.here hx rfl (pc0 := 130) (pc' := 140) rfl (hb hby at_130) rfl ((if0 _ _).trans (teq (by decide)).1) (by decide) (by decide) zk) ?_
        refine own_st (B := (T10.setTop (mkF m 141 #[.val (.long p1), .second, .val (.long p2), .second, .val (.int p3), .val (.int p5), .val (.int p6), .val (.int (0 : Int32)), .val (.long vd), .second, .val (.long cd), .second, .val (.ref b2), .val (.ref b5), .val (.ref f1), .val (.ref b8), .val (.int (0 : Int32)), .unset] [(.int (0 : Int32))]))) (fun _ zk => XS.iconst X10.here hx rfl (hb hby at_140) zk) ?_
        refine own_st (B := (T10.setTop (mkF m 143 #[.val (.long p1), .second, .val (.long p2), .second, .val (.int p3), .val (.int p5), .val (.int p6), .val (.int (0 : Int32)), .val (.long vd), .second, .val (.long cd), .second, .val (.ref b2), .val (.ref b5), .val (.ref f1), .val (.ref b8), .val (.int (0 : Int32)), .val (.int (0 : Int32))] []))) (fun _ zk => XS.istore X10.here hx rfl (hb hby at_141) rfl (l' := #[.val (.long p1), .second, .val (.long p2), .second, .val (.int p3), .val (.int p5), .val (.int p6), .val (.int (0 : Int32)), .val (.long vd), .second, .val (.long cd), .second, .val (.ref b2), .val (.ref b5), .val (.ref f1), .val (.ref b8), .val (.int (0 : Int32)), .val (.int (0 : Int32))]) rfl zk) ?_
        refine own_st (B := (T10.setTop (mkF m 164 #[.val (.long p1), .second, .val (.long p2), .second, .val (.int p3), .val (.int p5), .val (.int p6), .val (.int (0 : Int32)), .val (.long vd), .second, .val (.long cd), .second, .val (.ref b2), .val (.ref b5), .val (.ref f1), .val (.ref b8), .val (.int (0 : Int32)), .val (.int (0 : Int32))] []))) (fun _ zk => XS.goto X10.here hx rfl (pc0 := 143) (pc' := 164) rfl (hb hby at_143) (by decide) (by decide) zk) ?_
        refine own_st (B := (T10.setTop (mkF m 166 #[.val (.long p1), .second, .val (.long p2), .second, .val (.int p3), .val (.int p5), .val (.int p6), .val (.int (0 : Int32)), .val (.long vd), .second, .val (.long cd), .second, .val (.ref b2), .val (.ref b5), .val (.ref f1), .val (.ref b8), .val (.int (0 : Int32)), .val (.int (0 : Int32))] [(.int (0 : Int32))]))) (fun _ zk => XS.iload X10.here hx rfl (hb hby at_164) rfl zk) ?_
        refine own_st (B := (T10.setTop (mkF m 168 #[.val (.long p1), .second, .val (.long p2), .second, .val (.int p3), .val (.int p5), .val (.int p6), .val (.int (0 : Int32)), .val (.long vd), .second, .val (.long cd), .second, .val (.ref b2), .val (.ref b5), .val (.ref f1), .val (.ref b8), .val (.int (0 : Int32)), .val (.int (0 : Int32))] [(.int (0 : Int32)), (.int (0 : Int32))]))) (fun _ zk => XS.iload X10.here hx rfl (hb hby at_166) rfl zk) ?_
        refine own_st (B := (T10.setTop (mkF m 171 #[.val (.long p1), .second, .val (.long p2), .second, .val (.int p3), .val (.int p5), .val (.int p6), .val (.int (0 : Int32)), .val (.long vd), .second, .val (.long cd), .second, .val (.ref b2), .val (.ref b5), .val (.ref f1), .val (.ref b8), .val (.int (0 : Int32)), .val (.int (0 : Int32))] []))) (fun _ zk => XS.icmpNo X10.here hx rfl (hb hby at_168) rfl (teq (by decide)).2 zk) ?_
        refine own_st (B := (T10.setTop (mkF m 172 #[.val (.long p1), .second, .val (.long p2), .second, .val (.int p3), .val (.int p5), .val (.int p6), .val (.int (0 : Int32)), .val (.long vd), .second, .val (.long cd), .second, .val (.ref b2), .val (.ref b5), .val (.ref f1), .val (.ref b8), .val (.int (0 : Int32)), .val (.int (0 : Int32))] [(.int (1 : Int32))]))) (fun _ zk => XS.iconst X10.here hx rfl (hb hby at_171) zk) ?_
        refine own_st (B := (T10.setTop (mkF m 176 #[.val (.long p1), .second, .val (.long p2), .second, .val (.int p3), .val (.int p5), .val (.int p6), .val (.int (0 : Int32)), .val (.long vd), .second, .val (.long cd), .second, .val (.ref b2), .val (.ref b5), .val (.ref f1), .val (.ref b8), .val (.int (0 : Int32)), .val (.int (0 : Int32))] [(.int (1 : Int32))]))) (fun _ zk => XS.goto X10.here hx rfl (pc0 := 172) (pc' := 176) rfl (hb hby at_172) (by decide) (by decide) zk) ?_
        exact own_wretN X10 hS (by rw [qe10]; exact (Nat.le_refl _)) hx hlk (t := .boolean) hret (by simp) (hb hby at_176) (by show own_Q0 n0 _ T10.heap _; rw [qe10]; exact ⟨rfl, by simpa using N9⟩) (by decide) (by decide)
      · have hfl : own_fl vd 0 = 128 := by
          unfold own_fl
          rw [if_neg hv]
          decide
        obtain ⟨v11, T11, L11, X11, Q11, st11⟩ := own_callV (W := 0) X9 hx hZ (y := (⟨"com/example/avocet/avocet/diameter/AvpDefinition", "flags", "()I"⟩ : MethodName)) (z := (⟨"com/example/avocet/avocet/diameter/AvpDefinition", "flags", "()I"⟩ : MethodName)) hown (hw _ (List.mem_of_getElem? (i := 64) rfl)) (hw _ (List.mem_of_getElem? (i := 65) rfl)) (notFace_of_selects (args := #[]) (mvT hZ (hw _ (List.mem_of_getElem? (i := 67) rfl)))) (hw _ (List.mem_of_getElem? (i := 67) rfl)) (hw _ (List.mem_of_getElem? (i := 66) rfl)) (hw _ (List.mem_of_getElem? (i := 36) rfl)) (hw _ (List.mem_of_getElem? (i := 68) rfl)) (by decide) rfl (rm_fl l Z a0 hw [] b8 vd 0 128 T9.heap FV9 FM9 hfl) EX9 (g := (mkF m 116 #[.val (.long p1), .second, .val (.long p2), .second, .val (.int p3), .val (.int p5), .val (.int p6), .val (.int (0 : Int32)), .val (.long vd), .second, .val (.long cd), .second, .val (.ref b2), .val (.ref b5), .val (.ref f1), .val (.ref b8), .unset, .unset] [(.ref b8)])) rfl (by rw [hml]; rfl) (argsL := []) (rest := []) (lenOf pd_4 rfl) rfl rfl (by show 2 * 0 + _ ≤ _; exact Nat.le_of_eq rfl) (hb hby at_116) (by decide) (by decide) (by decide) (by decide)
        obtain ⟨rfl, rfl, qe11⟩ := Q11
        refine own_st (B := (T11.setTop (mkF m 119 #[.val (.long p1), .second, .val (.long p2), .second, .val (.int p3), .val (.int p5), .val (.int p6), .val (.int (0 : Int32)), .val (.long vd), .second, .val (.long cd), .second, .val (.ref b2), .val (.ref b5), .val (.ref f1), .val (.ref b8), .unset, .unset] [(.int (128 : Int32))]))) st11 ?_
        refine own_st (B := (T11.setTop (mkF m 121 #[.val (.long p1), .second, .val (.long p2), .second, .val (.int p3), .val (.int p5), .val (.int p6), .val (.int (0 : Int32)), .val (.long vd), .second, .val (.long cd), .second, .val (.ref b2), .val (.ref b5), .val (.ref f1), .val (.ref b8), .val (.int (128 : Int32)), .unset] []))) (fun _ zk => XS.istore X11.here hx rfl (hb hby at_119) rfl (l' := #[.val (.long p1), .second, .val (.long p2), .second, .val (.int p3), .val (.int p5), .val (.int p6), .val (.int (0 : Int32)), .val (.long vd), .second, .val (.long cd), .second, .val (.ref b2), .val (.ref b5), .val (.ref f1), .val (.ref b8), .val (.int (128 : Int32)), .unset]) rfl zk) ?_
        refine own_st (B := (T11.setTop (mkF m 123 #[.val (.long p1), .second, .val (.long p2), .second, .val (.int p3), .val (.int p5), .val (.int p6), .val (.int (0 : Int32)), .val (.long vd), .second, .val (.long cd), .second, .val (.ref b2), .val (.ref b5), .val (.ref f1), .val (.ref b8), .val (.int (128 : Int32)), .unset] [(.long vd)]))) (fun _ zk => XS.lload X11.here hx rfl (hb hby at_121) rfl zk) ?_
        refine own_st (B := (T11.setTop (mkF m 124 #[.val (.long p1), .second, .val (.long p2), .second, .val (.int p3), .val (.int p5), .val (.int p6), .val (.int (0 : Int32)), .val (.long vd), .second, .val (.long cd), .second, .val (.ref b2), .val (.ref b5), .val (.ref f1), .val (.ref b8), .val (.int (128 : Int32)), .unset] [(.long (0 : Int64)), (.long vd)]))) (fun _ zk => XS.lconst X11.here hx rfl (hb hby at_123) zk) ?_
        refine own_st (B := (T11.setTop (mkF m 125 #[.val (.long p1), .second, .val (.long p2), .second, .val (.int p3), .val (.int p5), .val (.int p6), .val (.int (0 : Int32)), .val (.long vd), .second, .val (.long cd), .second, .val (.ref b2), .val (.ref b5), .val (.ref f1), .val (.ref b8), .val (.int (128 : Int32)), .unset] [(.int (lcmpW vd (0 : Int64)))]))) (fun _ zk => XS.lcmp X11.here hx rfl (hb hby at_124) rfl zk) ?_
        refine own_st (B := (T11.setTop (mkF m 146 #[.val (.long p1), .second, .val (.long p2), .second, .val (.int p3), .val (.int p5), .val (.int p6), .val (.int (0 : Int32)), .val (.long vd), .second, .val (.long cd), .second, .val (.ref b2), .val (.ref b5), .val (.ref f1), .val (.ref b8), .val (.int (128 : Int32)), .unset] []))) (fun _ zk => XS.ifYes X11.here hx rfl (pc0 := 125) (pc' := 146) rfl (hb hby at_125) rfl ((if0 _ _).trans (feq (mt (lw_eq vd (0 : Int64)).mp hv)).2) (by decide) (by decide) zk) ?_
        refine own_st (B := (T11.setTop (mkF m 148 #[.val (.long p1), .second, .val (.long p2), .second, .val (.int p3), .val (.int p5), .val (.int p6), .val (.int (0 : Int32)), .val (.long vd), .second, .val (.long cd), .second, .val (.ref b2), .val (.ref b5), .val (.ref f1), .val (.ref b8), .val (.int (128 : Int32)), .unset] [(.int (0 : Int32))]))) (fun _ zk => XS.iload X11.here hx rfl (hb hby at_146) rfl zk) ?_
        refine own_st (B := (T11.setTop (mkF m 159 #[.val (.long p1), .second, .val (.long p2), .second, .val (.int p3), .val (.int p5), .val (.int p6), .val (.int (0 : Int32)), .val (.long vd), .second, .val (.long cd), .second, .val (.ref b2), .val (.ref b5), .val (.ref f1), .val (.ref b8), .val (.int (128 : Int32)), .unset] []))) (fun _ zk => XS.ifYes X11.here hx rfl (pc0 := 148) (pc' := 159) rfl (hb hby at_148) rfl ((if0 _ _).trans (teq (by decide)).1) (by decide) (by decide) zk) ?_
        refine own_st (B := (T11.setTop (mkF m 162 #[.val (.long p1), .second, .val (.long p2), .second, .val (.int p3), .val (.int p5), .val (.int p6), .val (.int (0 : Int32)), .val (.long vd), .second, .val (.long cd), .second, .val (.ref b2), .val (.ref b5), .val (.ref f1), .val (.ref b8), .val (.int (128 : Int32)), .unset] [(.int (128 : Int32))]))) (fun _ zk => XS.sipush X11.here hx rfl (hb hby at_159) zk) ?_
        refine own_st (B := (T11.setTop (mkF m 164 #[.val (.long p1), .second, .val (.long p2), .second, .val (.int p3), .val (.int p5), .val (.int p6), .val (.int (0 : Int32)), .val (.long vd), .second, .val (.long cd), .second, .val (.ref b2), .val (.ref b5), .val (.ref f1), .val (.ref b8), .val (.int (128 : Int32)), .val (.int (128 : Int32))] []))) (fun _ zk => XS.istore X11.here hx rfl (hb hby at_162) rfl (l' := #[.val (.long p1), .second, .val (.long p2), .second, .val (.int p3), .val (.int p5), .val (.int p6), .val (.int (0 : Int32)), .val (.long vd), .second, .val (.long cd), .second, .val (.ref b2), .val (.ref b5), .val (.ref f1), .val (.ref b8), .val (.int (128 : Int32)), .val (.int (128 : Int32))]) rfl zk) ?_
        refine own_st (B := (T11.setTop (mkF m 166 #[.val (.long p1), .second, .val (.long p2), .second, .val (.int p3), .val (.int p5), .val (.int p6), .val (.int (0 : Int32)), .val (.long vd), .second, .val (.long cd), .second, .val (.ref b2), .val (.ref b5), .val (.ref f1), .val (.ref b8), .val (.int (128 : Int32)), .val (.int (128 : Int32))] [(.int (128 : Int32))]))) (fun _ zk => XS.iload X11.here hx rfl (hb hby at_164) rfl zk) ?_
        refine own_st (B := (T11.setTop (mkF m 168 #[.val (.long p1), .second, .val (.long p2), .second, .val (.int p3), .val (.int p5), .val (.int p6), .val (.int (0 : Int32)), .val (.long vd), .second, .val (.long cd), .second, .val (.ref b2), .val (.ref b5), .val (.ref f1), .val (.ref b8), .val (.int (128 : Int32)), .val (.int (128 : Int32))] [(.int (128 : Int32)), (.int (128 : Int32))]))) (fun _ zk => XS.iload X11.here hx rfl (hb hby at_166) rfl zk) ?_
        refine own_st (B := (T11.setTop (mkF m 171 #[.val (.long p1), .second, .val (.long p2), .second, .val (.int p3), .val (.int p5), .val (.int p6), .val (.int (0 : Int32)), .val (.long vd), .second, .val (.long cd), .second, .val (.ref b2), .val (.ref b5), .val (.ref f1), .val (.ref b8), .val (.int (128 : Int32)), .val (.int (128 : Int32))] []))) (fun _ zk => XS.icmpNo X11.here hx rfl (hb hby at_168) rfl (teq (by decide)).2 zk) ?_
        refine own_st (B := (T11.setTop (mkF m 172 #[.val (.long p1), .second, .val (.long p2), .second, .val (.int p3), .val (.int p5), .val (.int p6), .val (.int (0 : Int32)), .val (.long vd), .second, .val (.long cd), .second, .val (.ref b2), .val (.ref b5), .val (.ref f1), .val (.ref b8), .val (.int (128 : Int32)), .val (.int (128 : Int32))] [(.int (1 : Int32))]))) (fun _ zk => XS.iconst X11.here hx rfl (hb hby at_171) zk) ?_
        refine own_st (B := (T11.setTop (mkF m 176 #[.val (.long p1), .second, .val (.long p2), .second, .val (.int p3), .val (.int p5), .val (.int p6), .val (.int (0 : Int32)), .val (.long vd), .second, .val (.long cd), .second, .val (.ref b2), .val (.ref b5), .val (.ref f1), .val (.ref b8), .val (.int (128 : Int32)), .val (.int (128 : Int32))] [(.int (1 : Int32))]))) (fun _ zk => XS.goto X11.here hx rfl (pc0 := 172) (pc' := 176) rfl (hb hby at_172) (by decide) (by decide) zk) ?_
        exact own_wretN X11 hS (by rw [qe11]; exact (Nat.le_refl _)) hx hlk (t := .boolean) hret (by simp) (hb hby at_176) (by show own_Q0 n0 _ T11.heap _; rw [qe11]; exact ⟨rfl, by simpa using N9⟩) (by decide) (by decide)
    · refine own_st (B := (T6.setTop (mkF m 84 #[.val (.long p1), .second, .val (.long p2), .second, .val (.int p3), .val (.int p5), .val (.int p6), .val (.int (0 : Int32)), .val (.long vd), .second, .val (.long cd), .second, .val (.ref b2), .val (.ref b5), .unset, .unset, .unset, .unset] []))) (fun _ zk => XS.ifNo X6.here hx rfl (hb hby at_81) rfl ((if0 _ _).trans (feq cF).1) zk) ?_
      obtain ⟨T12, X12, e12, st12⟩ := getS2 X6 hx hZ hown (host := "") (Or.inl (hw _ (List.mem_of_getElem? (i := 69) rfl))) Via.refl rfl (SJ S_GROUPED) (g := (mkF m 84 #[.val (.long p1), .second, .val (.long p2), .second, .val (.int p3), .val (.int p5), .val (.int p6), .val (.int (0 : Int32)), .val (.long vd), .second, .val (.long cd), .second, .val (.ref b2), .val (.ref b5), .unset, .unset, .unset, .unset] [])) rfl (hb hby at_84)
      refine own_st (B := (T12.setTop (mkF m 87 #[.val (.long p1), .second, .val (.long p2), .second, .val (.int p3), .val (.int p5), .val (.int p6), .val (.int (0 : Int32)), .val (.long vd), .second, .val (.long cd), .second, .val (.ref b2), .val (.ref b5), .unset, .unset, .unset, .unset] [(.ref f2)]))) st12 ?_
      refine own_st (B := (T12.setTop (mkF m 93 #[.val (.long p1), .second, .val (.long p2), .second, .val (.int p3), .val (.int p5), .val (.int p6), .val (.int (0 : Int32)), .val (.long vd), .second, .val (.long cd), .second, .val (.ref b2), .val (.ref b5), .unset, .unset, .unset, .unset] [(.ref f2)]))) (fun _ zk => XS.goto X12.here hx rfl (pc0 := 87) (pc' := 93) rfl (hb hby at_87) (by decide) (by decide) zk) ?_
      refine own_st (B := (T12.setTop (mkF m 95 #[.val (.long p1), .second, .val (.long p2), .second, .val (.int p3), .val (.int p5), .val (.int p6), .val (.int (0 : Int32)), .val (.long vd), .second, .val (.long cd), .second, .val (.ref b2), .val (.ref b5), .val (.ref f2), .unset, .unset, .unset] []))) (fun _ zk => XS.astore X12.here hx rfl (hb hby at_93) rfl rfl (l' := #[.val (.long p1), .second, .val (.long p2), .second, .val (.int p3), .val (.int p5), .val (.int p6), .val (.int (0 : Int32)), .val (.long vd), .second, .val (.long cd), .second, .val (.ref b2), .val (.ref b5), .val (.ref f2), .unset, .unset, .unset]) rfl zk) ?_
      have ZN : n0 ≤ T6.heap.size := Nat.le_trans Z5 K6.1
      obtain ⟨T13, h13, X13, e13, E13, A13, D13, -, st13⟩ := newO X12 hx hZ hown (hw _ (List.mem_of_getElem? (i := 34) rfl)) (hw _ (List.mem_of_getElem? (i := 35) rfl)) (hw _ (List.mem_of_getElem? (i := 36) rfl)) e12 (g := (mkF m 95 #[.val (.long p1), .second, .val (.long p2), .second, .val (.int p3), .val (.int p5), .val (.int p6), .val (.int (0 : Int32)), .val (.long vd), .second, .val (.long cd), .second, .val (.ref b2), .val (.ref b5), .val (.ref f2), .unset, .unset, .unset] [])) rfl (hb hby at_95) (by decide) (by decide)
      obtain ⟨b13, g13⟩ : ∃ z, z = T6.heap.size := ⟨_, rfl⟩
      rw [← g13] at A13 D13 st13
      have g_b13 : n0 ≤ b13 := Nat.le_trans ZN (Nat.le_of_eq g13.symm)
      have F_name_b13 : Fld Z h13 b13 "com/example/avocet/avocet/diameter/AvpDefinition" "name" "Ljava/lang/String;" .null := D13 (Or.inr (hw _ (List.mem_of_getElem? (i := 55) rfl))) (ty := (.object "java/lang/String")) (by decide)
      have F_code_b13 : Fld Z h13 b13 "com/example/avocet/avocet/diameter/AvpDefinition" "code" "J" (.long (0 : Int64)) := D13 (Or.inr (hw _ (List.mem_of_getElem? (i := 57) rfl))) (ty := .long) (by decide)
      have F_vendorId_b13 : Fld Z h13 b13 "com/example/avocet/avocet/diameter/AvpDefinition" "vendorId" "J" (.long (0 : Int64)) := D13 (Or.inr (hw _ (List.mem_of_getElem? (i := 59) rfl))) (ty := .long) (by decide)
      have F_mandatory_b13 : Fld Z h13 b13 "com/example/avocet/avocet/diameter/AvpDefinition" "mandatory" "Z" (.int (0 : Int32)) := D13 (Or.inr (hw _ (List.mem_of_getElem? (i := 61) rfl))) (ty := .boolean) (by decide)
      have F_format_b13 : Fld Z h13 b13 "com/example/avocet/avocet/diameter/AvpDefinition" "format" "Lcom/example/avocet/avocet/diameter/AvpFormat;" .null := D13 (Or.inr (hw _ (List.mem_of_getElem? (i := 63) rfl))) (ty := (.object "com/example/avocet/avocet/diameter/AvpFormat")) (by decide)
      have Z13 : n0 ≤ h13.size := Nat.le_trans ZN E13.1
      refine own_st (B := (T13.setTop (mkF m 98 #[.val (.long p1), .second, .val (.long p2), .second, .val (.int p3), .val (.int p5), .val (.int p6), .val (.int (0 : Int32)), .val (.long vd), .second, .val (.long cd), .second, .val (.ref b2), .val (.ref b5), .val (.ref f2), .unset, .unset, .unset] [(.ref b13)]))) st13 ?_
      refine own_st (B := (T13.setTop (mkF m 99 #[.val (.long p1), .second, .val (.long p2), .second, .val (.int p3), .val (.int p5), .val (.int p6), .val (.int (0 : Int32)), .val (.long vd), .second, .val (.long cd), .second, .val (.ref b2), .val (.ref b5), .val (.ref f2), .unset, .unset, .unset] [(.ref b13), (.ref b13)]))) (fun _ zk => XS.dup X13.here hx rfl (hb hby at_98) rfl rfl zk) ?_
      refine own_st (B := (T13.setTop (mkF m 101 #[.val (.long p1), .second, .val (.long p2), .second, .val (.int p3), .val (.int p5), .val (.int p6), .val (.int (0 : Int32)), .val (.long vd), .second, .val (.long cd), .second, .val (.ref b2), .val (.ref b5), .val (.ref f2), .unset, .unset, .unset] [(.ref b5), (.ref b13), (.ref b13)]))) (fun _ zk => XS.aload X13.here hx rfl (hb hby at_99) rfl rfl zk) ?_
      refine own_st (B := (T13.setTop (mkF m 103 #[.val (.long p1), .second, .val (.long p2), .second, .val (.int p3), .val (.int p5), .val (.int p6), .val (.int (0 : Int32)), .val (.long vd), .second, .val (.long cd), .second, .val (.ref b2), .val (.ref b5), .val (.ref f2), .unset, .unset, .unset] [(.long cd), (.ref b5), (.ref b13), (.ref b13)]))) (fun _ zk => XS.lload X13.here hx rfl (hb hby at_101) rfl zk) ?_
      refine own_st (B := (T13.setTop (mkF m 105 #[.val (.long p1), .second, .val (.long p2), .second, .val (.int p3), .val (.int p5), .val (.int p6), .val (.int (0 : Int32)), .val (.long vd), .second, .val (.long cd), .second, .val (.ref b2), .val (.ref b5), .val (.ref f2), .unset, .unset, .unset] [(.long vd), (.long cd), (.ref b5), (.ref b13), (.ref b13)]))) (fun _ zk => XS.lload X13.here hx rfl (hb hby at_103) rfl zk) ?_
      refine own_st (B := (T13.setTop (mkF m 107 #[.val (.long p1), .second, .val (.long p2), .second, .val (.int p3), .val (.int p5), .val (.int p6), .val (.int (0 : Int32)), .val (.long vd), .second, .val (.long cd), .second, .val (.ref b2), .val (.ref b5), .val (.ref f2), .unset, .unset, .unset] [(.int (0 : Int32)), (.long vd), (.long cd), (.ref b5), (.ref b13), (.ref b13)]))) (fun _ zk => XS.iload X13.here hx rfl (hb hby at_105) rfl zk) ?_
      refine own_st (B := (T13.setTop (mkF m 109 #[.val (.long p1), .second, .val (.long p2), .second, .val (.int p3), .val (.int p5), .val (.int p6), .val (.int (0 : Int32)), .val (.long vd), .second, .val (.long cd), .second, .val (.ref b2), .val (.ref b5), .val (.ref f2), .unset, .unset, .unset] [(.ref f2), (.int (0 : Int32)), (.long vd), (.long cd), (.ref b5), (.ref b13), (.ref b13)]))) (fun _ zk => XS.aload X13.here hx rfl (hb hby at_107) rfl rfl zk) ?_
      obtain ⟨v14, T14, L14, X14, hS14, hsz14, hZ14, ho14, Q14, st14⟩ := own_callNW (W := 1) X13 hS hx hZ (y := (⟨"com/example/avocet/avocet/diameter/AvpDefinition", "<init>", "(Ljava/lang/String;JJZLcom/example/avocet/avocet/diameter/AvpFormat;)V"⟩ : MethodName)) rfl hown (hw _ (List.mem_of_getElem? (i := 37) rfl)) (hw _ (List.mem_of_getElem? (i := 38) rfl)) (hw _ (List.mem_of_getElem? (i := 36) rfl)) (hw _ (List.mem_of_getElem? (i := 39) rfl)) (by decide) e13 (Nat.zero_le _) (rm_init l Z a0 hw [] b13 b5 cd vd 0 f2 h13 n0 Z13 g_b13 A13 F_name_b13 F_code_b13 F_vendorId_b13 F_mandatory_b13 F_format_b13 hcd h_vd (by decide)) (g := (mkF m 109 #[.val (.long p1), .second, .val (.long p2), .second, .val (.int p3), .val (.int p5), .val (.int p6), .val (.int (0 : Int32)), .val (.long vd), .second, .val (.long cd), .second, .val (.ref b2), .val (.ref b5), .val (.ref f2), .unset, .unset, .unset] [(.ref f2), (.int (0 : Int32)), (.long vd), (.long cd), (.ref b5), (.ref b13), (.ref b13)])) rfl (by rw [hml]; rfl) (a := b13) (argsL := [(.ref b5), (.long cd), (.long vd), (.int (0 : Int32)), (.ref f2)]) (rest := [(.ref b13)]) (lenOf pd_3 rfl) rfl rfl (by show 2 * 0 + _ ≤ _; exact Nat.le_of_eq rfl) (hb hby at_109) (by decide) (by decide) (by decide) (by decide)
      have hZ := hZ14
      have hown := ho14
      have hS := hS14
      obtain ⟨rfl, N14q, EX14, FV14, FM14⟩ := Q14
      refine own_st (B := (T14.setTop (mkF m 112 #[.val (.long p1), .second, .val (.long p2), .second, .val (.int p3), .val (.int p5), .val (.int p6), .val (.int (0 : Int32)), .val (.long vd), .second, .val (.long cd), .second, .val (.ref b2), .val (.ref b5), .val (.ref f2), .unset, .unset, .unset] [(.ref b13)]))) st14 ?_
      have N14 := Fr.app N6 N14q
      refine own_st (B := (T14.setTop (mkF m 114 #[.val (.long p1), .second, .val (.long p2), .second, .val (.int p3), .val (.int p5), .val (.int p6), .val (.int (0 : Int32)), .val (.long vd), .second, .val (.long cd), .second, .val (.ref b2), .val (.ref b5), .val (.ref f2), .val (.ref b13), .unset, .unset] []))) (fun _ zk => XS.astore X14.here hx rfl (hb hby at_112) rfl rfl (l' := #[.val (.long p1), .second, .val (.long p2), .second, .val (.int p3), .val (.int p5), .val (.int p6), .val (.int (0 : Int32)), .val (.long vd), .second, .val (.long cd), .second, .val (.ref b2), .val (.ref b5), .val (.ref f2), .val (.ref b13), .unset, .unset]) rfl zk) ?_
      refine own_st (B := (T14.setTop (mkF m 116 #[.val (.long p1), .second, .val (.long p2), .second, .val (.int p3), .val (.int p5), .val (.int p6), .val (.int (0 : Int32)), .val (.long vd), .second, .val (.long cd), .second, .val (.ref b2), .val (.ref b5), .val (.ref f2), .val (.ref b13), .unset, .unset] [(.ref b13)]))) (fun _ zk => XS.aload X14.here hx rfl (hb hby at_114) rfl rfl zk) ?_
      by_cases hv : vd = 0
      · have hfl : own_fl vd 0 = 0 := by
          unfold own_fl
          rw [if_pos hv]
          decide
        obtain ⟨v15, T15, L15, X15, Q15, st15⟩ := own_callV (W := 0) X14 hx hZ (y := (⟨"com/example/avocet/avocet/diameter/AvpDefinition", "flags", "()I"⟩ : MethodName)) (z := (⟨"com/example/avocet/avocet/diameter/AvpDefinition", "flags", "()I"⟩ : MethodName)) hown (hw _ (List.mem_of_getElem? (i := 64) rfl)) (hw _ (List.mem_of_getElem? (i := 65) rfl)) (notFace_of_selects (args := #[]) (mvT hZ (hw _ (List.mem_of_getElem? (i := 67) rfl)))) (hw _ (List.mem_of_getElem? (i := 67) rfl)) (hw _ (List.mem_of_getElem? (i := 66) rfl)) (hw _ (List.mem_of_getElem? (i := 36) rfl)) (hw _ (List.mem_of_getElem? (i := 68) rfl)) (by decide) rfl (rm_fl l Z a0 hw [] b13 vd 0 0 T14.heap FV14 FM14 hfl) EX14 (g := (mkF m 116 #[.val (.long p1), .second, .val (.long p2), .second, .val (.int p3), .val (.int p5), .val (.int p6), .val (.int (0 : Int32)), .val (.long vd), .second, .val (.long cd), .second, .val (.ref b2), .val (.ref b5), .val (.ref f2), .val (.ref b13), .unset, .unset] [(.ref b13)])) rfl (by rw [hml]; rfl) (argsL := []) (rest := []) (lenOf pd_4 rfl) rfl rfl (by show 2 * 0 + _ ≤ _; exact Nat.le_of_eq rfl) (hb hby at_116) (by decide) (by decide) (by decide) (by decide)
        obtain ⟨rfl, rfl, qe15⟩ := Q15
        refine own_st (B := (T15.setTop (mkF m 119 #[.val (.long p1), .second, .val (.long p2), .second, .val (.int p3), .val (.int p5), .val (.int p6), .val (.int (0 : Int32)), .val (.long vd), .second, .val (.long cd), .second, .val (.ref b2), .val (.ref b5), .val (.ref f2), .val (.ref b13), .unset, .unset] [(.int (0 : Int32))]))) st15 ?_
        refine own_st (B := (T15.setTop (mkF m 121 #[.val (.long p1), .second, .val (.long p2), .second, .val (.int p3), .val (.int p5), .val (.int p6), .val (.int (0 : Int32)), .val (.long vd), .second, .val (.long cd), .second, .val (.ref b2), .val (.ref b5), .val (.ref f2), .val (.ref b13), .val (.int (0 : Int32)), .unset] []))) (fun _ zk => XS.istore X15.here hx rfl (hb hby at_119) rfl (l' := #[.val (.long p1), .second, .val (.long p2), .second, .val (.int p3), .val (.int p5), .val (.int p6), .val (.int (0 : Int32)), .val (.long vd), .second, .val (.long cd), .second, .val (.ref b2), .val (.ref b5), .val (.ref f2), .val (.ref b13), .val (.int (0 : Int32)), .unset]) rfl zk) ?_
        refine own_st (B := (T15.setTop (mkF m 123 #[.val (.long p1), .second, .val (.long p2), .second, .val (.int p3), .val (.int p5), .val (.int p6), .val (.int (0 : Int32)), .val (.long vd), .second, .val (.long cd), .second, .val (.ref b2), .val (.ref b5), .val (.ref f2), .val (.ref b13), .val (.int (0 : Int32)), .unset] [(.long vd)]))) (fun _ zk => XS.lload X15.here hx rfl (hb hby at_121) rfl zk) ?_
        refine own_st (B := (T15.setTop (mkF m 124 #[.val (.long p1), .second, .val (.long p2), .second, .val (.int p3), .val (.int p5), .val (.int p6), .val (.int (0 : Int32)), .val (.long vd), .second, .val (.long cd), .second, .val (.ref b2), .val (.ref b5), .val (.ref f2), .val (.ref b13), .val (.int (0 : Int32)), .unset] [(.long (0 : Int64)), (.long vd)]))) (fun _ zk => XS.lconst X15.here hx rfl (hb hby at_123) zk) ?_
        refine own_st (B := (T15.setTop (mkF m 125 #[.val (.long p1), .second, .val (.long p2), .second, .val (.int p3), .val (.int p5), .val (.int p6), .val (.int (0 : Int32)), .val (.long vd), .second, .val (.long cd), .second, .val (.ref b2), .val (.ref b5), .val (.ref f2), .val (.ref b13), .val (.int (0 : Int32)), .unset] [(.int (lcmpW vd (0 : Int64)))]))) (fun _ zk => XS.lcmp X15.here hx rfl (hb hby at_124) rfl zk) ?_
        refine own_st (B := (T15.setTop (mkF m 128 #[.val (.long p1), .second, .val (.long p2), .second, .val (.int p3), .val (.int p5), .val (.int p6), .val (.int (0 : Int32)), .val (.long vd), .second, .val (.long cd), .second, .val (.ref b2), .val (.ref b5), .val (.ref f2), .val (.ref b13), .val (.int (0 : Int32)), .unset] []))) (fun _ zk => XS.ifNo X15.here hx rfl (hb hby at_125) rfl ((if0 _ _).trans (teq ((lw_eq vd (0 : Int64)).mpr hv)).2) zk) ?_
        refine own_st (B := (T15.setTop (mkF m 130 #[.val (.long p1), .second, .val (.long p2), .second, .val (.int p3), .val (.int p5), .val (.int p6), .val (.int (0 : Int32)), .val (.long vd), .second, .val (.long cd), .second, .val (.ref b2), .val (.ref b5), .val (.ref f2), .val (.ref b13), .val (.int (0 : Int32)), .unset] [(.int (0 : Int32))]))) (fun _ zk => XS.iload X15.here hx rfl (hb hby at_128) rfl zk) ?_
        refine own_st (B := (T15.setTop (mkF m 140 #[.val (.long p1), .second, .val (.long p2), .second, .val (.int p3), .val (.int p5), .val (.int p6), .val (.int (0 : Int32)), .val (.long vd), .second, .val (.long cd), .second, .val (.ref b2), .val (.ref b5), .val (.ref f2), .val (.ref b13), .val (.int (0 : Int32)), .unset] []))) (fun _ zk => XS.ifYes X15.here hx rfl (pc0 := 130) (pc' := 140) rfl (hb hby at_130) rfl ((if0 _ _).trans (teq (by decide)).1) (by decide) (by decide) zk) ?_
        refine own_st (B := (T15.setTop (mkF m 141 #[.val (.long p1), .second, .val (.long p2), .second, .val (.int p3), .val (.int p5), .val (.int p6), .val (.int (0 : Int32)), .val (.long vd), .second, .val (.long cd), .second, .val (.ref b2), .val (.ref b5), .val (.ref f2), .val (.ref b13), .val (.int (0 : Int32)), .unset] [(.int (0 : Int32))]))) (fun _ zk => XS.iconst X15.here hx rfl (hb hby at_140) zk) ?_
        refine own_st (B := (T15.setTop (mkF m 143 #[.val (.long p1), .second, .val (.long p2), .second, .val (.int p3), .val (.int p5), .val (.int p6), .val (.int (0 : Int32)), .val (.long vd), .second, .val (.long cd), .second, .val (.ref b2), .val (.ref b5), .val (.ref f2), .val (.ref b13), .val (.int (0 : Int32)), .val (.int (0 : Int32))] []))) (fun _ zk => XS.istore X15.here hx rfl (hb hby at_141) rfl (l' := #[.val (.long p1), .second, .val (.long p2), .second, .val (.int p3), .val (.int p5), .val (.int p6), .val (.int (0 : Int32)), .val (.long vd), .second, .val (.long cd), .second, .val (.ref b2), .val (.ref b5), .val (.ref f2), .val (.ref b13), .val (.int (0 : Int32)), .val (.int (0 : Int32))]) rfl zk) ?_
        refine own_st (B := (T15.setTop (mkF m 164 #[.val (.long p1), .second, .val (.long p2), .second, .val (.int p3), .val (.int p5), .val (.int p6), .val (.int (0 : Int32)), .val (.long vd), .second, .val (.long cd), .second, .val (.ref b2), .val (.ref b5), .val (.ref f2), .val (.ref b13), .val (.int (0 : Int32)), .val (.int (0 : Int32))] []))) (fun _ zk => XS.goto X15.here hx rfl (pc0 := 143) (pc' := 164) rfl (hb hby at_143) (by decide) (by decide) zk) ?_
        refine own_st (B := (T15.setTop (mkF m 166 #[.val (.long p1), .second, .val (.long p2), .second, .val (.int p3), .val (.int p5), .val (.int p6), .val (.int (0 : Int32)), .val (.long vd), .second, .val (.long cd), .second, .val (.ref b2), .val (.ref b5), .val (.ref f2), .val (.ref b13), .val (.int (0 : Int32)), .val (.int (0 : Int32))] [(.int (0 : Int32))]))) (fun _ zk => XS.iload X15.here hx rfl (hb hby at_164) rfl zk) ?_
        refine own_st (B := (T15.setTop (mkF m 168 #[.val (.long p1), .second, .val (.long p2), .second, .val (.int p3), .val (.int p5), .val (.int p6), .val (.int (0 : Int32)), .val (.long vd), .second, .val (.long cd), .second, .val (.ref b2), .val (.ref b5), .val (.ref f2), .val (.ref b13), .val (.int (0 : Int32)), .val (.int (0 : Int32))] [(.int (0 : Int32)), (.int (0 : Int32))]))) (fun _ zk => XS.iload X15.here hx rfl (hb hby at_166) rfl zk) ?_
        refine own_st (B := (T15.setTop (mkF m 171 #[.val (.long p1), .second, .val (.long p2), .second, .val (.int p3), .val (.int p5), .val (.int p6), .val (.int (0 : Int32)), .val (.long vd), .second, .val (.long cd), .second, .val (.ref b2), .val (.ref b5), .val (.ref f2), .val (.ref b13), .val (.int (0 : Int32)), .val (.int (0 : Int32))] []))) (fun _ zk => XS.icmpNo X15.here hx rfl (hb hby at_168) rfl (teq (by decide)).2 zk) ?_
        refine own_st (B := (T15.setTop (mkF m 172 #[.val (.long p1), .second, .val (.long p2), .second, .val (.int p3), .val (.int p5), .val (.int p6), .val (.int (0 : Int32)), .val (.long vd), .second, .val (.long cd), .second, .val (.ref b2), .val (.ref b5), .val (.ref f2), .val (.ref b13), .val (.int (0 : Int32)), .val (.int (0 : Int32))] [(.int (1 : Int32))]))) (fun _ zk => XS.iconst X15.here hx rfl (hb hby at_171) zk) ?_
        refine own_st (B := (T15.setTop (mkF m 176 #[.val (.long p1), .second, .val (.long p2), .second, .val (.int p3), .val (.int p5), .val (.int p6), .val (.int (0 : Int32)), .val (.long vd), .second, .val (.long cd), .second, .val (.ref b2), .val (.ref b5), .val (.ref f2), .val (.ref b13), .val (.int (0 : Int32)), .val (.int (0 : Int32))] [(.int (1 : Int32))]))) (fun _ zk => XS.goto X15.here hx rfl (pc0 := 172) (pc' := 176) rfl (hb hby at_172) (by decide) (by decide) zk) ?_
        exact own_wretN X15 hS (by rw [qe15]; exact (Nat.le_refl _)) hx hlk (t := .boolean) hret (by simp) (hb hby at_176) (by show own_Q0 n0 _ T15.heap _; rw [qe15]; exact ⟨rfl, by simpa using N14⟩) (by decide) (by decide)
      · have hfl : own_fl vd 0 = 128 := by
          unfold own_fl
          rw [if_neg hv]
          decide
        obtain ⟨v16, T16, L16, X16, Q16, st16⟩ := own_callV (W := 0) X14 hx hZ (y := (⟨"com/example/avocet/avocet/diameter/AvpDefinition", "flags", "()I"⟩ : MethodName)) (z := (⟨"com/example/avocet/avocet/diameter/AvpDefinition", "flags", "()I"⟩ : MethodName)) hown (hw _ (List.mem_of_getElem? (i := 64) rfl)) (hw _ (List.mem_of_getElem? (i := 65) rfl)) (notFace_of_selects (args := #[]) (mvT hZ (hw _ (List.mem_of_getElem? (i := 67) rfl)))) (hw _ (List.mem_of_getElem? (i := 67) rfl)) (hw _ (List.mem_of_getElem? (i := 66) rfl)) (hw _ (List.mem_of_getElem? (i := 36) rfl)) (hw _ (List.mem_of_getElem? (i := 68) rfl)) (by decide) rfl (rm_fl l Z a0 hw [] b13 vd 0 128 T14.heap FV14 FM14 hfl) EX14 (g := (mkF m 116 #[.val (.long p1), .second, .val (.long p2), .second, .val (.int p3), .val (.int p5), .val (.int p6), .val (.int (0 : Int32)), .val (.long vd), .second, .val (.long cd), .second, .val (.ref b2), .val (.ref b5), .val (.ref f2), .val (.ref b13), .unset, .unset] [(.ref b13)])) rfl (by rw [hml]; rfl) (argsL := []) (rest := []) (lenOf pd_4 rfl) rfl rfl (by show 2 * 0 + _ ≤ _; exact Nat.le_of_eq rfl) (hb hby at_116) (by decide) (by decide) (by decide) (by decide)
        obtain ⟨rfl, rfl, qe16⟩ := Q16
        refine own_st (B := (T16.setTop (mkF m 119 #[.val (.long p1), .second, .val (.long p2), .second, .val (.int p3), .val (.int p5), .val (.int p6), .val (.int (0 : Int32)), .val (.long vd), .second, .val (.long cd), .second, .val (.ref b2), .val (.ref b5), .val (.ref f2), .val (.ref b13), .unset, .unset] [(.int (128 : Int32))]))) st16 ?_
        refine own_st (B := (T16.setTop (mkF m 121 #[.val (.long p1), .second, .val (.long p2), .second, .val (.int p3), .val (.int p5), .val (.int p6), .val (.int (0 : Int32)), .val (.long vd), .second, .val (.long cd), .second, .val (.ref b2), .val (.ref b5), .val (.ref f2), .val (.ref b13), .val (.int (128 : Int32)), .unset] []))) (fun _ zk => XS.istore X16.here hx rfl (hb hby at_119) rfl (l' := #[.val (.long p1), .second, .val (.long p2), .second, .val (.int p3), .val (.int p5), .val (.int p6), .val (.int (0 : Int32)), .val (.long vd), .second, .val (.long cd), .second, .val (.ref b2), .val (.ref b5), .val (.ref f2), .val (.ref b13), .val (.int (128 : Int32)), .unset]) rfl zk) ?_
        refine own_st (B := (T16.setTop (mkF m 123 #[.val (.long p1), .second, .val (.long p2), .second, .val (.int p3), .val (.int p5), .val (.int p6), .val (.int (0 : Int32)), .val (.long vd), .second, .val (.long cd), .second, .val (.ref b2), .val (.ref b5), .val (.ref f2), .val (.ref b13), .val (.int (128 : Int32)), .unset] [(.long vd)]))) (fun _ zk => XS.lload X16.here hx rfl (hb hby at_121) rfl zk) ?_
        refine own_st (B := (T16.setTop (mkF m 124 #[.val (.long p1), .second, .val (.long p2), .second, .val (.int p3), .val (.int p5), .val (.int p6), .val (.int (0 : Int32)), .val (.long vd), .second, .val (.long cd), .second, .val (.ref b2), .val (.ref b5), .val (.ref f2), .val (.ref b13), .val (.int (128 : Int32)), .unset] [(.long (0 : Int64)), (.long vd)]))) (fun _ zk => XS.lconst X16.here hx rfl (hb hby at_123) zk) ?_
        refine own_st (B := (T16.setTop (mkF m 125 #[.val (.long p1), .second, .val (.long p2), .second, .val (.int p3), .val (.int p5), .val (.int p6), .val (.int (0 : Int32)), .val (.long vd), .second, .val (.long cd), .second, .val (.ref b2), .val (.ref b5), .val (.ref f2), .val (.ref b13), .val (.int (128 : Int32)), .unset] [(.int (lcmpW vd (0 : Int64)))]))) (fun _ zk => XS.lcmp X16.here hx rfl (hb hby at_124) rfl zk) ?_
        refine own_st (B := (T16.setTop (mkF m 146 #[.val (.long p1), .second, .val (.long p2), .second, .val (.int p3), .val (.int p5), .val (.int p6), .val (.int (0 : Int32)), .val (.long vd), .second, .val (.long cd), .second, .val (.ref b2), .val (.ref b5), .val (.ref f2), .val (.ref b13), .val (.int (128 : Int32)), .unset] []))) (fun _ zk => XS.ifYes X16.here hx rfl (pc0 := 125) (pc' := 146) rfl (hb hby at_125) rfl ((if0 _ _).trans (feq (mt (lw_eq vd (0 : Int64)).mp hv)).2) (by decide) (by decide) zk) ?_
        refine own_st (B := (T16.setTop (mkF m 148 #[.val (.long p1), .second, .val (.long p2), .second, .val (.int p3), .val (.int p5), .val (.int p6), .val (.int (0 : Int32)), .val (.long vd), .second, .val (.long cd), .second, .val (.ref b2), .val (.ref b5), .val (.ref f2), .val (.ref b13), .val (.int (128 : Int32)), .unset] [(.int (0 : Int32))]))) (fun _ zk => XS.iload X16.here hx rfl (hb hby at_146) rfl zk) ?_
        refine own_st (B := (T16.setTop (mkF m 159 #[.val (.long p1), .second, .val (.long p2), .second, .val (.int p3), .val (.int p5), .val (.int p6), .val (.int (0 : Int32)), .val (.long vd), .second, .val (.long cd), .second, .val (.ref b2), .val (.ref b5), .val (.ref f2), .val (.ref b13), .val (.int (128 : Int32)), .unset] []))) (fun _ zk => XS.ifYes X16.here hx rfl (pc0 := 148) (pc' := 159) rfl (hb hby at_148) rfl ((if0 _ _).trans (teq (by decide)).1) (by decide) (by decide) zk) ?_
        refine own_st (B := (T16.setTop (mkF m 162 #[.val (.long p1), .second, .val (.long p2), .second, .val (.int p3), .val (.int p5), .val (.int p6), .val (.int (0 : Int32)), .val (.long vd), .second, .val (.long cd), .second, .val (.ref b2), .val (.ref b5), .val (.ref f2), .val (.ref b13), .val (.int (128 : Int32)), .unset] [(.int (128 : Int32))]))) (fun _ zk => XS.sipush X16.here hx rfl (hb hby at_159) zk) ?_
        refine own_st (B := (T16.setTop (mkF m 164 #[.val (.long p1), .second, .val (.long p2), .second, .val (.int p3), .val (.int p5), .val (.int p6), .val (.int (0 : Int32)), .val (.long vd), .second, .val (.long cd), .second, .val (.ref b2), .val (.ref b5), .val (.ref f2), .val (.ref b13), .val (.int (128 : Int32)), .val (.int (128 : Int32))] []))) (fun _ zk => XS.istore X16.here hx rfl (hb hby at_162) rfl (l' := #[.val (.long p1), .second, .val (.long p2), .second, .val (.int p3), .val (.int p5), .val (.int p6), .val (.int (0 : Int32)), .val (.long vd), .second, .val (.long cd), .second, .val (.ref b2), .val (.ref b5), .val (.ref f2), .val (.ref b13), .val (.int (128 : Int32)), .val (.int (128 : Int32))]) rfl zk) ?_
        refine own_st (B := (T16.setTop (mkF m 166 #[.val (.long p1), .second, .val (.long p2), .second, .val (.int p3), .val (.int p5), .val (.int p6), .val (.int (0 : Int32)), .val (.long vd), .second, .val (.long cd), .second, .val (.ref b2), .val (.ref b5), .val (.ref f2), .val (.ref b13), .val (.int (128 : Int32)), .val (.int (128 : Int32))] [(.int (128 : Int32))]))) (fun _ zk => XS.iload X16.here hx rfl (hb hby at_164) rfl zk) ?_
        refine own_st (B := (T16.setTop (mkF m 168 #[.val (.long p1), .second, .val (.long p2), .second, .val (.int p3), .val (.int p5), .val (.int p6), .val (.int (0 : Int32)), .val (.long vd), .second, .val (.long cd), .second, .val (.ref b2), .val (.ref b5), .val (.ref f2), .val (.ref b13), .val (.int (128 : Int32)), .val (.int (128 : Int32))] [(.int (128 : Int32)), (.int (128 : Int32))]))) (fun _ zk => XS.iload X16.here hx rfl (hb hby at_166) rfl zk) ?_
        refine own_st (B := (T16.setTop (mkF m 171 #[.val (.long p1), .second, .val (.long p2), .second, .val (.int p3), .val (.int p5), .val (.int p6), .val (.int (0 : Int32)), .val (.long vd), .second, .val (.long cd), .second, .val (.ref b2), .val (.ref b5), .val (.ref f2), .val (.ref b13), .val (.int (128 : Int32)), .val (.int (128 : Int32))] []))) (fun _ zk => XS.icmpNo X16.here hx rfl (hb hby at_168) rfl (teq (by decide)).2 zk) ?_
        refine own_st (B := (T16.setTop (mkF m 172 #[.val (.long p1), .second, .val (.long p2), .second, .val (.int p3), .val (.int p5), .val (.int p6), .val (.int (0 : Int32)), .val (.long vd), .second, .val (.long cd), .second, .val (.ref b2), .val (.ref b5), .val (.ref f2), .val (.ref b13), .val (.int (128 : Int32)), .val (.int (128 : Int32))] [(.int (1 : Int32))]))) (fun _ zk => XS.iconst X16.here hx rfl (hb hby at_171) zk) ?_
        refine own_st (B := (T16.setTop (mkF m 176 #[.val (.long p1), .second, .val (.long p2), .second, .val (.int p3), .val (.int p5), .val (.int p6), .val (.int (0 : Int32)), .val (.long vd), .second, .val (.long cd), .second, .val (.ref b2), .val (.ref b5), .val (.ref f2), .val (.ref b13), .val (.int (128 : Int32)), .val (.int (128 : Int32))] [(.int (1 : Int32))]))) (fun _ zk => XS.goto X16.here hx rfl (pc0 := 172) (pc' := 176) rfl (hb hby at_172) (by decide) (by decide) zk) ?_
        exact own_wretN X16 hS (by rw [qe16]; exact (Nat.le_refl _)) hx hlk (t := .boolean) hret (by simp) (hb hby at_176) (by show own_Q0 n0 _ T16.heap _; rw [qe16]; exact ⟨rfl, by simpa using N14⟩) (by decide) (by decide)
  · refine own_st (B := (s₁.setTop (mkF m 7 #[.val (.long p1), .second, .val (.long p2), .second, .val (.int p3), .val (.int p5), .val (.int p6), .unset, .unset, .unset, .unset, .unset, .unset, .unset, .unset, .unset, .unset, .unset] []))) (fun _ zk => XS.ifNo X0.here hx rfl (hb hby at_4) rfl ((if0 _ _).trans (feq c4).1) zk) ?_
    refine own_st (B := (s₁.setTop (mkF m 8 #[.val (.long p1), .second, .val (.long p2), .second, .val (.int p3), .val (.int p5), .val (.int p6), .unset, .unset, .unset, .unset, .unset, .unset, .unset, .unset, .unset, .unset, .unset] [(.int (1 : Int32))]))) (fun _ zk => XS.iconst X0.here hx rfl (hb hby at_7) zk) ?_
    refine own_st (B := (s₁.setTop (mkF m 12 #[.val (.long p1), .second, .val (.long p2), .second, .val (.int p3), .val (.int p5), .val (.int p6), .unset, .unset, .unset, .unset, .unset, .unset, .unset, .unset, .unset, .unset, .unset] [(.int (1 : Int32))]))) (fun _ zk => XS.goto X0.here hx rfl (pc0 := 8) (pc' := 12) rfl (hb hby at_8) (by decide) (by decide) zk) ?_
    refine own_st (B := (s₁.setTop (mkF m 14 #[.val (.long p1), .second, .val (.long p2), .second, .val (.int p3), .val (.int p5), .val (.int p6), .val (.int (1 : Int32)), .unset, .unset, .unset, .unset, .unset, .unset, .unset, .unset, .unset, .unset] []))) (fun _ zk => XS.istore X0.here hx rfl (hb hby at_12) rfl (l' := #[.val (.long p1), .second, .val (.long p2), .second, .val (.int p3), .val (.int p5), .val (.int p6), .val (.int (1 : Int32)), .unset, .unset, .unset, .unset, .unset, .unset, .unset, .unset, .unset, .unset]) rfl zk) ?_
    refine own_st (B := (s₁.setTop (mkF m 16 #[.val (.long p1), .second, .val (.long p2), .second, .val (.int p3), .val (.int p5), .val (.int p6), .val (.int (1 : Int32)), .unset, .unset, .unset, .unset, .unset, .unset, .unset, .unset, .unset, .unset] [(.int p3)]))) (fun _ zk => XS.iload X0.here hx rfl (hb hby at_14) rfl zk) ?_
    refine own_st (B := (s₁.setTop (mkF m 17 #[.val (.long p1), .second, .val (.long p2), .second, .val (.int p3), .val (.int p5), .val (.int p6), .val (.int (1 : Int32)), .unset, .unset, .unset, .unset, .unset, .unset, .unset, .unset, .unset, .unset] [(.int (2 : Int32)), (.int p3)]))) (fun _ zk => XS.iconst X0.here hx rfl (hb hby at_16) zk) ?_
    refine own_st (B := (s₁.setTop (mkF m 18 #[.val (.long p1), .second, .val (.long p2), .second, .val (.int p3), .val (.int p5), .val (.int p6), .val (.int (1 : Int32)), .unset, .unset, .unset, .unset, .unset, .unset, .unset, .unset, .unset, .unset] [(.int (p3 &&& (2 : Int32)))]))) (fun _ zk => XS.iand X0.here hx rfl (hb hby at_17) rfl zk) ?_
    suffices KV : ∀ vd : Int64, (0 ≤ vd.toInt ∧ vd.toInt ≤ 4294967295) → own_Dn p e below (own_RetW s (own_Q0 n0) 24 2176) (s₁.setTop (mkF m 30 #[.val (.long p1), .second, .val (.long p2), .second, .val (.int p3), .val (.int p5), .val (.int p6), .val (.int (1 : Int32)), .unset, .unset, .unset, .unset, .unset, .unset, .unset, .unset, .unset, .unset] [(.long vd)])) by
      by_cases c18_17 : (p3 &&& (2 : Int32)) = (0 : Int32)
      · refine own_st (B := (s₁.setTop (mkF m 25 #[.val (.long p1), .second, .val (.long p2), .second, .val (.int p3), .val (.int p5), .val (.int p6), .val (.int (1 : Int32)), .unset, .unset, .unset, .unset, .unset, .unset, .unset, .unset, .unset, .unset] []))) (fun _ zk => XS.ifYes X0.here hx rfl (pc0 := 18) (pc' := 25) rfl (hb hby at_18) rfl ((if0 _ _).trans (teq c18_17).1) (by decide) (by decide) zk) ?_
        refine own_st (B := (s₁.setTop (mkF m 26 #[.val (.long p1), .second, .val (.long p2), .second, .val (.int p3), .val (.int p5), .val (.int p6), .val (.int (1 : Int32)), .unset, .unset, .unset, .unset, .unset, .unset, .unset, .unset, .unset, .unset] [(.long p2)]))) (fun _ zk => XS.lloadN X0.here hx rfl (hb hby at_25) rfl zk) ?_
        refine own_st (B := (s₁.setTop (mkF m 29 #[.val (.long p1), .second, .val (.long p2), .second, .val (.int p3), .val (.int p5), .val (.int p6), .val (.int (1 : Int32)), .unset, .unset, .unset, .unset, .unset, .unset, .unset, .unset, .unset, .unset] [(.long (4294967295 : Int64)), (.long p2)]))) (fun _ zk => X0.ldc2Long hx hown (mvT hZ (hw _ (List.mem_of_getElem? (i := 0) rfl))) (g := (mkF m 26 #[.val (.long p1), .second, .val (.long p2), .second, .val (.int p3), .val (.int p5), .val (.int p6), .val (.int (1 : Int32)), .unset, .unset, .unset, .unset, .unset, .unset, .unset, .unset, .unset, .unset] [(.long p2)])) rfl (hb hby at_26) _ zk) ?_
        refine own_st (B := (s₁.setTop (mkF m 30 #[.val (.long p1), .second, .val (.long p2), .second, .val (.int p3), .val (.int p5), .val (.int p6), .val (.int (1 : Int32)), .unset, .unset, .unset, .unset, .unset, .unset, .unset, .unset, .unset, .unset] [(.long (p2 &&& (4294967295 : Int64)))]))) (fun _ zk => XS.land X0.here hx rfl (hb hby at_29) rfl zk) ?_
        exact KV _ (own_u32 p2)
      · refine own_st (B := (s₁.setTop (mkF m 21 #[.val (.long p1), .second, .val (.long p2), .second, .val (.int p3), .val (.int p5), .val (.int p6), .val (.int (1 : Int32)), .unset, .unset, .unset, .unset, .unset, .unset, .unset, .unset, .unset, .unset] []))) (fun _ zk => XS.ifNo X0.here hx rfl (hb hby at_18) rfl ((if0 _ _).trans (feq c18_17).1) zk) ?_
        refine own_st (B := (s₁.setTop (mkF m 22 #[.val (.long p1), .second, .val (.long p2), .second, .val (.int p3), .val (.int p5), .val (.int p6), .val (.int (1 : Int32)), .unset, .unset, .unset, .unset, .unset, .unset, .unset, .unset, .unset, .unset] [(.long (0 : Int64))]))) (fun _ zk => XS.lconst X0.here hx rfl (hb hby at_21) zk) ?_
        refine own_st (B := (s₁.setTop (mkF m 30 #[.val (.long p1), .second, .val (.long p2), .second, .val (.int p3), .val (.int p5), .val (.int p6), .val (.int (1 : Int32)), .unset, .unset, .unset, .unset, .unset, .unset, .unset, .unset, .unset, .unset] [(.long (0 : Int64))]))) (fun _ zk => XS.goto X0.here hx rfl (pc0 := 22) (pc' := 30) rfl (hb hby at_22) (by decide) (by decide) zk) ?_
        exact KV _ (by decide)
    intro vd h_vd
    refine own_st (B := (s₁.setTop (mkF m 32 #[.val (.long p1), .second, .val (.long p2), .second, .val (.int p3), .val (.int p5), .val (.int p6), .val (.int (1 : Int32)), .val (.long vd), .second, .unset, .unset, .unset, .unset, .unset, .unset, .unset, .unset] []))) (fun _ zk => XS.lstore X0.here hx rfl (hb hby at_30) rfl (l' := #[.val (.long p1), .second, .val (.long p2), .second, .val (.int p3), .val (.int p5), .val (.int p6), .val (.int (1 : Int32)), .val (.long vd), .second, .unset, .unset, .unset, .unset, .unset, .unset, .unset, .unset]) rfl zk) ?_
    refine own_st (B := (s₁.setTop (mkF m 33 #[.val (.long p1), .second, .val (.long p2), .second, .val (.int p3), .val (.int p5), .val (.int p6), .val (.int (1 : Int32)), .val (.long vd), .second, .unset, .unset, .unset, .unset, .unset, .unset, .unset, .unset] [(.long p1)]))) (fun _ zk => XS.lloadN X0.here hx rfl (hb hby at_32) rfl zk) ?_
    refine own_st (B := (s₁.setTop (mkF m 36 #[.val (.long p1), .second, .val (.long p2), .second, .val (.int p3), .val (.int p5), .val (.int p6), .val (.int (1 : Int32)), .val (.long vd), .second, .unset, .unset, .unset, .unset, .unset, .unset, .unset, .unset] [(.long (4294967295 : Int64)), (.long p1)]))) (fun _ zk => X0.ldc2Long hx hown (mvT hZ (hw _ (List.mem_of_getElem? (i := 0) rfl))) (g := (mkF m 33 #[.val (.long p1), .second, .val (.long p2), .second, .val (.int p3), .val (.int p5), .val (.int p6), .val (.int (1 : Int32)), .val (.long vd), .second, .unset, .unset, .unset, .unset, .unset, .unset, .unset, .unset] [(.long p1)])) rfl (hb hby at_33) _ zk) ?_
    refine own_st (B := (s₁.setTop (mkF m 37 #[.val (.long p1), .second, .val (.long p2), .second, .val (.int p3), .val (.int p5), .val (.int p6), .val (.int (1 : Int32)), .val (.long vd), .second, .unset, .unset, .unset, .unset, .unset, .unset, .unset, .unset] [(.long (p1 &&& (4294967295 : Int64)))]))) (fun _ zk => XS.land X0.here hx rfl (hb hby at_36) rfl zk) ?_
    refine own_st (B := (s₁.setTop (mkF m 39 #[.val (.long p1), .second, .val (.long p2), .second, .val (.int p3), .val (.int p5), .val (.int p6), .val (.int (1 : Int32)), .val (.long vd), .second, .val (.long (p1 &&& (4294967295 : Int64))), .second, .unset, .unset, .unset, .unset, .unset, .unset] []))) (fun _ zk => XS.lstore X0.here hx rfl (hb hby at_37) rfl (l' := #[.val (.long p1), .second, .val (.long p2), .second, .val (.int p3), .val (.int p5), .val (.int p6), .val (.int (1 : Int32)), .val (.long vd), .second, .val (.long (p1 &&& (4294967295 : Int64))), .second, .unset, .unset, .unset, .unset, .unset, .unset]) rfl zk) ?_
    have hcd := own_u32 p1
    generalize (p1 &&& (4294967295 : Int64)) = cd at *
    refine own_st (B := (s₁.setTop (mkF m 40 #[.val (.long p1), .second, .val (.long p2), .second, .val (.int p3), .val (.int p5), .val (.int p6), .val (.int (1 : Int32)), .val (.long vd), .second, .val (.long cd), .second, .unset, .unset, .unset, .unset, .unset, .unset] [(.int (2 : Int32))]))) (fun _ zk => XS.iconst X0.here hx rfl (hb hby at_39) zk) ?_
    obtain ⟨T18, h18, k18, X18, e18, E18, A18, st18⟩ := newP X0 hx hZ (hw _ (List.mem_of_getElem? (i := 1) rfl)) e0 (g := (mkF m 40 #[.val (.long p1), .second, .val (.long p2), .second, .val (.int p3), .val (.int p5), .val (.int p6), .val (.int (1 : Int32)), .val (.long vd), .second, .val (.long cd), .second, .unset, .unset, .unset, .unset, .unset, .unset] [(.int (2 : Int32))])) rfl (hb hby at_40) rfl (by decide) (cap := 2) (by decide) (by decide) (by decide) (by decide)
    obtain ⟨b18, g18⟩ : ∃ z, z = h0.size := ⟨_, rfl⟩
    rw [← g18] at A18 st18
    have g_b18 : n0 ≤ b18 := Nat.le_trans Z0 (Nat.le_of_eq g18.symm)
    have Z18 : n0 ≤ h18.size := Nat.le_trans Z0 E18.1
    refine own_st (B := (T18.setTop (mkF m 42 #[.val (.long p1), .second, .val (.long p2), .second, .val (.int p3), .val (.int p5), .val (.int p6), .val (.int (1 : Int32)), .val (.long vd), .second, .val (.long cd), .second, .unset, .unset, .unset, .unset, .unset, .unset] [(.ref b18)]))) st18 ?_
    have V0 : own_AV Z h18 b18 .char 2 (fun _ => defaultValue .char) := own_AV.new A18 (by decide)
    refine own_st (B := (T18.setTop (mkF m 44 #[.val (.long p1), .second, .val (.long p2), .second, .val (.int p3), .val (.int p5), .val (.int p6), .val (.int (1 : Int32)), .val (.long vd), .second, .val (.long cd), .second, .val (.ref b18), .unset, .unset, .unset, .unset, .unset] []))) (fun _ zk => XS.astore X18.here hx rfl (hb hby at_42) rfl rfl (l' := #[.val (.long p1), .second, .val (.long p2), .second, .val (.int p3), .val (.int p5), .val (.int p6), .val (.int (1 : Int32)), .val (.long vd), .second, .val (.long cd), .second, .val (.ref b18), .unset, .unset, .unset, .unset, .unset]) rfl zk) ?_
    refine own_st (B := (T18.setTop (mkF m 46 #[.val (.long p1), .second, .val (.long p2), .second, .val (.int p3), .val (.int p5), .val (.int p6), .val (.int (1 : Int32)), .val (.long vd), .second, .val (.long cd), .second, .val (.ref b18), .unset, .unset, .unset, .unset, .unset] [(.ref b18)]))) (fun _ zk => XS.aload X18.here hx rfl (hb hby at_44) rfl rfl zk) ?_
    refine own_st (B := (T18.setTop (mkF m 47 #[.val (.long p1), .second, .val (.long p2), .second, .val (.int p3), .val (.int p5), .val (.int p6), .val (.int (1 : Int32)), .val (.long vd), .second, .val (.long cd), .second, .val (.ref b18), .unset, .unset, .unset, .unset, .unset] [(.int (0 : Int32)), (.ref b18)]))) (fun _ zk => XS.iconst X18.here hx rfl (hb hby at_46) zk) ?_
    refine own_st (B := (T18.setTop (mkF m 49 #[.val (.long p1), .second, .val (.long p2), .second, .val (.int p3), .val (.int p5), .val (.int p6), .val (.int (1 : Int32)), .val (.long vd), .second, .val (.long cd), .second, .val (.ref b18), .unset, .unset, .unset, .unset, .unset] [(.int p5), (.int (0 : Int32)), (.ref b18)]))) (fun _ zk => XS.iload X18.here hx rfl (hb hby at_47) rfl zk) ?_
    refine own_st (B := (T18.setTop (mkF m 52 #[.val (.long p1), .second, .val (.long p2), .second, .val (.int p3), .val (.int p5), .val (.int p6), .val (.int (1 : Int32)), .val (.long vd), .second, .val (.long cd), .second, .val (.ref b18), .unset, .unset, .unset, .unset, .unset] [(.int (255 : Int32)), (.int p5), (.int (0 : Int32)), (.ref b18)]))) (fun _ zk => XS.sipush X18.here hx rfl (hb hby at_49) zk) ?_
    refine own_st (B := (T18.setTop (mkF m 53 #[.val (.long p1), .second, .val (.long p2), .second, .val (.int p3), .val (.int p5), .val (.int p6), .val (.int (1 : Int32)), .val (.long vd), .second, .val (.long cd), .second, .val (.ref b18), .unset, .unset, .unset, .unset, .unset] [(.int (p5 &&& (255 : Int32))), (.int (0 : Int32)), (.ref b18)]))) (fun _ zk => XS.iand X18.here hx rfl (hb hby at_52) rfl zk) ?_
    refine own_st (B := (T18.setTop (mkF m 54 #[.val (.long p1), .second, .val (.long p2), .second, .val (.int p3), .val (.int p5), .val (.int p6), .val (.int (1 : Int32)), .val (.long vd), .second, .val (.long cd), .second, .val (.ref b18), .unset, .unset, .unset, .unset, .unset] [(.int ((p5 &&& (255 : Int32)).toUInt32.toUInt16.toUInt32.toInt32)), (.int (0 : Int32)), (.ref b18)]))) (fun _ zk => XS.i2c X18.here hx rfl (hb hby at_53) rfl zk) ?_
    obtain ⟨T19, h19, X19, e19, W19, V19, st19⟩ := own_stC X18 hx hZ e18 V0 (i := 0) (by decide) (by decide) (by decide) (g := (mkF m 54 #[.val (.long p1), .second, .val (.long p2), .second, .val (.int p3), .val (.int p5), .val (.int p6), .val (.int (1 : Int32)), .val (.long vd), .second, .val (.long cd), .second, .val (.ref b18), .unset, .unset, .unset, .unset, .unset] [(.int ((p5 &&& (255 : Int32)).toUInt32.toUInt16.toUInt32.toInt32)), (.int (0 : Int32)), (.ref b18)])) rfl rfl (hb hby at_54)
    refine own_st (B := (T19.setTop (mkF m 55 #[.val (.long p1), .second, .val (.long p2), .second, .val (.int p3), .val (.int p5), .val (.int p6), .val (.int (1 : Int32)), .val (.long vd), .second, .val (.long cd), .second, .val (.ref b18), .unset, .unset, .unset, .unset, .unset] []))) st19 ?_
    have N19 := Fr.snoc X19 N0 g_b18
    refine own_st (B := (T19.setTop (mkF m 57 #[.val (.long p1), .second, .val (.long p2), .second, .val (.int p3), .val (.int p5), .val (.int p6), .val (.int (1 : Int32)), .val (.long vd), .second, .val (.long cd), .second, .val (.ref b18), .unset, .unset, .unset, .unset, .unset] [(.ref b18)]))) (fun _ zk => XS.aload X19.here hx rfl (hb hby at_55) rfl rfl zk) ?_
    refine own_st (B := (T19.setTop (mkF m 58 #[.val (.long p1), .second, .val (.long p2), .second, .val (.int p3), .val (.int p5), .val (.int p6), .val (.int (1 : Int32)), .val (.long vd), .second, .val (.long cd), .second, .val (.ref b18), .unset, .unset, .unset, .unset, .unset] [(.int (1 : Int32)), (.ref b18)]))) (fun _ zk => XS.iconst X19.here hx rfl (hb hby at_57) zk) ?_
    refine own_st (B := (T19.setTop (mkF m 60 #[.val (.long p1), .second, .val (.long p2), .second, .val (.int p3), .val (.int p5), .val (.int p6), .val (.int (1 : Int32)), .val (.long vd), .second, .val (.long cd), .second, .val (.ref b18), .unset, .unset, .unset, .unset, .unset] [(.int p6), (.int (1 : Int32)), (.ref b18)]))) (fun _ zk => XS.iload X19.here hx rfl (hb hby at_58) rfl zk) ?_
    refine own_st (B := (T19.setTop (mkF m 63 #[.val (.long p1), .second, .val (.long p2), .second, .val (.int p3), .val (.int p5), .val (.int p6), .val (.int (1 : Int32)), .val (.long vd), .second, .val (.long cd), .second, .val (.ref b18), .unset, .unset, .unset, .unset, .unset] [(.int (255 : Int32)), (.int p6), (.int (1 : Int32)), (.ref b18)]))) (fun _ zk => XS.sipush X19.here hx rfl (hb hby at_60) zk) ?_
    refine own_st (B := (T19.setTop (mkF m 64 #[.val (.long p1), .second, .val (.long p2), .second, .val (.int p3), .val (.int p5), .val (.int p6), .val (.int (1 : Int32)), .val (.long vd), .second, .val (.long cd), .second, .val (.ref b18), .unset, .unset, .unset, .unset, .unset] [(.int (p6 &&& (255 : Int32))), (.int (1 : Int32)), (.ref b18)]))) (fun _ zk => XS.iand X19.here hx rfl (hb hby at_63) rfl zk) ?_
    refine own_st (B := (T19.setTop (mkF m 65 #[.val (.long p1), .second, .val (.long p2), .second, .val (.int p3), .val (.int p5), .val (.int p6), .val (.int (1 : Int32)), .val (.long vd), .second, .val (.long cd), .second, .val (.ref b18), .unset, .unset, .unset, .unset, .unset] [(.int ((p6 &&& (255 : Int32)).toUInt32.toUInt16.toUInt32.toInt32)), (.int (1 : Int32)), (.ref b18)]))) (fun _ zk => XS.i2c X19.here hx rfl (hb hby at_64) rfl zk) ?_
    obtain ⟨T20, h20, X20, e20, W20, V20, st20⟩ := own_stC X19 hx hZ e19 V19 (i := 1) (by decide) (by decide) (by decide) (g := (mkF m 65 #[.val (.long p1), .second, .val (.long p2), .second, .val (.int p3), .val (.int p5), .val (.int p6), .val (.int (1 : Int32)), .val (.long vd), .second, .val (.long cd), .second, .val (.ref b18), .unset, .unset, .unset, .unset, .unset] [(.int ((p6 &&& (255 : Int32)).toUInt32.toUInt16.toUInt32.toInt32)), (.int (1 : Int32)), (.ref b18)])) rfl rfl (hb hby at_65)
    refine own_st (B := (T20.setTop (mkF m 66 #[.val (.long p1), .second, .val (.long p2), .second, .val (.int p3), .val (.int p5), .val (.int p6), .val (.int (1 : Int32)), .val (.long vd), .second, .val (.long cd), .second, .val (.ref b18), .unset, .unset, .unset, .unset, .unset] []))) st20 ?_
    have N20 := Fr.snoc X20 N19 g_b18
    have ZW : n0 ≤ h20.size := by rw [W20.size, W19.size]; exact Z18
    obtain ⟨T21, h21, X21, e21, E21, A21, D21, -, st21⟩ := newO X20 hx hZ hown (hw _ (List.mem_of_getElem? (i := 2) rfl)) (hw _ (List.mem_of_getElem? (i := 3) rfl)) (hw _ (List.mem_of_getElem? (i := 4) rfl)) e20 (g := (mkF m 66 #[.val (.long p1), .second, .val (.long p2), .second, .val (.int p3), .val (.int p5), .val (.int p6), .val (.int (1 : Int32)), .val (.long vd), .second, .val (.long cd), .second, .val (.ref b18), .unset, .unset, .unset, .unset, .unset] [])) rfl (hb hby at_66) (by decide) (by decide)
    obtain ⟨b21, g21⟩ : ∃ z, z = h20.size := ⟨_, rfl⟩
    rw [← g21] at A21 D21 st21
    have g_b21 : n0 ≤ b21 := Nat.le_trans ZW (Nat.le_of_eq g21.symm)
    have F_coder_b21 : Fld Z h21 b21 "java/lang/String" "coder" "B" (.int (0 : Int32)) := D21 (Or.inr (hw _ (List.mem_of_getElem? (i := 28) rfl))) (ty := .byte) (by decide)
    have F_value_b21 : Fld Z h21 b21 "java/lang/String" "value" "[B" .null := D21 (Or.inr (hw _ (List.mem_of_getElem? (i := 30) rfl))) (ty := (.array .byte)) (by decide)
    have Z21 : n0 ≤ h21.size := Nat.le_trans ZW E21.1
    refine own_st (B := (T21.setTop (mkF m 69 #[.val (.long p1), .second, .val (.long p2), .second, .val (.int p3), .val (.int p5), .val (.int p6), .val (.int (1 : Int32)), .val (.long vd), .second, .val (.long cd), .second, .val (.ref b18), .unset, .unset, .unset, .unset, .unset] [(.ref b21)]))) st21 ?_
    refine own_st (B := (T21.setTop (mkF m 70 #[.val (.long p1), .second, .val (.long p2), .second, .val (.int p3), .val (.int p5), .val (.int p6), .val (.int (1 : Int32)), .val (.long vd), .second, .val (.long cd), .second, .val (.ref b18), .unset, .unset, .unset, .unset, .unset] [(.ref b21), (.ref b21)]))) (fun _ zk => XS.dup X21.here hx rfl (hb hby at_69) rfl rfl zk) ?_
    refine own_st (B := (T21.setTop (mkF m 72 #[.val (.long p1), .second, .val (.long p2), .second, .val (.int p3), .val (.int p5), .val (.int p6), .val (.int (1 : Int32)), .val (.long vd), .second, .val (.long cd), .second, .val (.ref b18), .unset, .unset, .unset, .unset, .unset] [(.ref b18), (.ref b21), (.ref b21)]))) (fun _ zk => XS.aload X21.here hx rfl (hb hby at_70) rfl rfl zk) ?_
    obtain ⟨kA, VA⟩ : ∃ kA, Arv Z h21 b18 kA .char 2 (([p5 &&& 255, p6 &&& 255] : List Int32).map Value.int) (.int 0) := (V20.ext E21).arv (by decide) (by decide)
      (fun i hi => by
        have hi' : i = 0 ∨ i = 1 := by omega
        rcases hi' with rfl | rfl
        · exact congrArg Value.int (own_ch p5).symm
        · exact congrArg Value.int (own_ch p6).symm)
      (fun i hi => by
        have hi' : i = 0 ∨ i = 1 := by omega
        rcases hi' with rfl | rfl
        · exact fits_nar_char _
        · exact fits_nar_char _)
    have hws : ∀ d ∈ StrChars.Road.words, d.before a0 Z = true := fun d hd => hw d ((by decide +kernel : ∀ d ∈ StrChars.Road.words, d ∈ tables_1) d hd)
    have hlat : ∀ c ∈ ([p5 &&& 255, p6 &&& 255] : List Int32), ¬ c < 0 ∧ ¬ (255 : Int32) < c := by
      intro c hc
      simp only [List.mem_cons, List.not_mem_nil, or_false] at hc
      rcases hc with rfl | rfl
      · exact own_and255 p5
      · exact own_and255 p6
    obtain ⟨v22, T22, L22, X22, Q22, st22⟩ := own_callNK (W := 1) X21 hx hZ (y := (⟨"java/lang/String", "<init>", "([C)V"⟩ : MethodName)) rfl hown (hw _ (List.mem_of_getElem? (i := 5) rfl)) (hw _ (List.mem_of_getElem? (i := 6) rfl)) (hw _ (List.mem_of_getElem? (i := 7) rfl)) (by decide) e21 (StrChars.Road.backV (W := 1) hZ hws (kI := 4) (hw _ (List.mem_of_getElem? (i := 3) rfl)) (cs := [p5 &&& 255, p6 &&& 255]) (bs := ([p5 &&& 255, p6 &&& 255] : List Int32).map (fun c => c.toInt8.toInt32)) (n := 2) g_b21 Z21 A21 F_value_b21 F_coder_b21 VA ((((SC.ext E18).wr W19).wr W20).ext E21) hcs rfl rfl (by decide) (by decide) hlat rfl (by decide) (by decide)) (g := (mkF m 72 #[.val (.long p1), .second, .val (.long p2), .second, .val (.int p3), .val (.int p5), .val (.int p6), .val (.int (1 : Int32)), .val (.long vd), .second, .val (.long cd), .second, .val (.ref b18), .unset, .unset, .unset, .unset, .unset] [(.ref b18), (.ref b21), (.ref b21)])) rfl (by rw [hml]; rfl) (a := b21) (argsL := [(.ref b18)]) (rest := [(.ref b21)]) (lenOf pd_2 rfl) rfl rfl (by show 2 * 0 + _ ≤ _; exact Nat.le_of_eq rfl) (hb hby at_72) (by decide) (by decide)
    obtain ⟨rfl, N22q, K22, EX22, -, -⟩ := Q22
    refine own_st (B := (T22.setTop (mkF m 75 #[.val (.long p1), .second, .val (.long p2), .second, .val (.int p3), .val (.int p5), .val (.int p6), .val (.int (1 : Int32)), .val (.long vd), .second, .val (.long cd), .second, .val (.ref b18), .unset, .unset, .unset, .unset, .unset] [(.ref b21)]))) st22 ?_
    have N22 := Fr.app N20 N22q
    have SJ : ∀ {C n d : String} {v : Value}, Sta Z h0 C n d v → Sta Z T22.heap C n d v := fun F => own_staK (((F.ext E18).wr W19).wr W20 |>.ext E21) K22 A21
    refine own_st (B := (T22.setTop (mkF m 77 #[.val (.long p1), .second, .val (.long p2), .second, .val (.int p3), .val (.int p5), .val (.int p6), .val (.int (1 : Int32)), .val (.long vd), .second, .val (.long cd), .second, .val (.ref b18), .val (.ref b21), .unset, .unset, .unset, .unset] []))) (fun _ zk => XS.astore X22.here hx rfl (hb hby at_75) rfl rfl (l' := #[.val (.long p1), .second, .val (.long p2), .second, .val (.int p3), .val (.int p5), .val (.int p6), .val (.int (1 : Int32)), .val (.long vd), .second, .val (.long cd), .second, .val (.ref b18), .val (.ref b21), .unset, .unset, .unset, .unset]) rfl zk) ?_
    refine own_st (B := (T22.setTop (mkF m 79 #[.val (.long p1), .second, .val (.long p2), .second, .val (.int p3), .val (.int p5), .val (.int p6), .val (.int (1 : Int32)), .val (.long vd), .second, .val (.long cd), .second, .val (.ref b18), .val (.ref b21), .unset, .unset, .unset, .unset] [(.int p3)]))) (fun _ zk => XS.iload X22.here hx rfl (hb hby at_77) rfl zk) ?_
    refine own_st (B := (T22.setTop (mkF m 80 #[.val (.long p1), .second, .val (.long p2), .second, .val (.int p3), .val (.int p5), .val (.int p6), .val (.int (1 : Int32)), .val (.long vd), .second, .val (.long cd), .second, .val (.ref b18), .val (.ref b21), .unset, .unset, .unset, .unset] [(.int (4 : Int32)), (.int p3)]))) (fun _ zk => XS.iconst X22.here hx rfl (hb hby at_79) zk) ?_
    refine own_st (B := (T22.setTop (mkF m 81 #[.val (.long p1), .second, .val (.long p2), .second, .val (.int p3), .val (.int p5), .val (.int p6), .val (.int (1 : Int32)), .val (.long vd), .second, .val (.long cd), .second, .val (.ref b18), .val (.ref b21), .unset, .unset, .unset, .unset] [(.int (p3 &&& (4 : Int32)))]))) (fun _ zk => XS.iand X22.here hx rfl (hb hby at_80) rfl zk) ?_
    by_cases cF : (p3 &&& (4 : Int32)) = (0 : Int32)
    · refine own_st (B := (T22.setTop (mkF m 90 #[.val (.long p1), .second, .val (.long p2), .second, .val (.int p3), .val (.int p5), .val (.int p6), .val (.int (1 : Int32)), .val (.long vd), .second, .val (.long cd), .second, .val (.ref b18), .val (.ref b21), .unset, .unset, .unset, .unset] []))) (fun _ zk => XS.ifYes X22.here hx rfl (pc0 := 81) (pc' := 90) rfl (hb hby at_81) rfl ((if0 _ _).trans (teq cF).1) (by decide) (by decide) zk) ?_
      obtain ⟨T23, X23, e23, st23⟩ := getS2 X22 hx hZ hown (host := "") (Or.inl (hw _ (List.mem_of_getElem? (i := 31) rfl))) Via.refl rfl (SJ S_UNSIGNED32) (g := (mkF m 90 #[.val (.long p1), .second, .val (.long p2), .second, .val (.int p3), .val (.int p5), .val (.int p6), .val (.int (1 : Int32)), .val (.long vd), .second, .val (.long cd), .second, .val (.ref b18), .val (.ref b21), .unset, .unset, .unset, .unset] [])) rfl (hb hby at_90)
      refine own_st (B := (T23.setTop (mkF m 93 #[.val (.long p1), .second, .val (.long p2), .second, .val (.int p3), .val (.int p5), .val (.int p6), .val (.int (1 : Int32)), .val (.long vd), .second, .val (.long cd), .second, .val (.ref b18), .val (.ref b21), .unset, .unset, .unset, .unset] [(.ref f1)]))) st23 ?_
      refine own_st (B := (T23.setTop (mkF m 95 #[.val (.long p1), .second, .val (.long p2), .second, .val (.int p3), .val (.int p5), .val (.int p6), .val (.int (1 : Int32)), .val (.long vd), .second, .val (.long cd), .second, .val (.ref b18), .val (.ref b21), .val (.ref f1), .unset, .unset, .unset] []))) (fun _ zk => XS.astore X23.here hx rfl (hb hby at_93) rfl rfl (l' := #[.val (.long p1), .second, .val (.long p2), .second, .val (.int p3), .val (.int p5), .val (.int p6), .val (.int (1 : Int32)), .val (.long vd), .second, .val (.long cd), .second, .val (.ref b18), .val (.ref b21), .val (.ref f1), .unset, .unset, .unset]) rfl zk) ?_
      have ZN : n0 ≤ T22.heap.size := Nat.le_trans Z21 K22.1
      obtain ⟨T24, h24, X24, e24, E24, A24, D24, -, st24⟩ := newO X23 hx hZ hown (hw _ (List.mem_of_getElem? (i := 34) rfl)) (hw _ (List.mem_of_getElem? (i := 35) rfl)) (hw _ (List.mem_of_getElem? (i := 36) rfl)) e23 (g := (mkF m 95 #[.val (.long p1), .second, .val (.long p2), .second, .val (.int p3), .val (.int p5), .val (.int p6), .val (.int (1 : Int32)), .val (.long vd), .second, .val (.long cd), .second, .val (.ref b18), .val (.ref b21), .val (.ref f1), .unset, .unset, .unset] [])) rfl (hb hby at_95) (by decide) (by decide)
      obtain ⟨b24, g24⟩ : ∃ z, z = T22.heap.size := ⟨_, rfl⟩
      rw [← g24] at A24 D24 st24
      have g_b24 : n0 ≤ b24 := Nat.le_trans ZN (Nat.le_of_eq g24.symm)
      have F_name_b24 : Fld Z h24 b24 "com/example/avocet/avocet/diameter/AvpDefinition" "name" "Ljava/lang/String;" .null := D24 (Or.inr (hw _ (List.mem_of_getElem? (i := 55) rfl))) (ty := (.object "java/lang/String")) (by decide)
      have F_code_b24 : Fld Z h24 b24 "com/example/avocet/avocet/diameter/AvpDefinition" "code" "J" (.long (0 : Int64)) := D24 (Or.inr (hw _ (List.mem_of_getElem? (i := 57) rfl))) (ty := .long) (by decide)
      have F_vendorId_b24 : Fld Z h24 b24 "com/example/avocet/avocet/diameter/AvpDefinition" "vendorId" "J" (.long (0 : Int64)) := D24 (Or.inr (hw _ (List.mem_of_getElem? (i := 59) rfl))) (ty := .long) (by decide)
      have F_mandatory_b24 : Fld Z h24 b24 "com/example/avocet/avocet/diameter/AvpDefinition" "mandatory" "Z" (.int (0 : Int32)) := D24 (Or.inr (hw _ (List.mem_of_getElem? (i := 61) rfl))) (ty := .boolean) (by decide)
      have F_format_b24 : Fld Z h24 b24 "com/example/avocet/avocet/diameter/AvpDefinition" "format" "Lcom/example/avocet/avocet/diameter/AvpFormat;" .null := D24 (Or.inr (hw _ (List.mem_of_getElem? (i := 63) rfl))) (ty := (.object "com/example/avocet/avocet/diameter/AvpFormat")) (by decide)
      have Z24 : n0 ≤ h24.size := Nat.le_trans ZN E24.1
      refine own_st (B := (T24.setTop (mkF m 98 #[.val (.long p1), .second, .val (.long p2), .second, .val (.int p3), .val (.int p5), .val (.int p6), .val (.int (1 : Int32)), .val (.long vd), .second, .val (.long cd), .second, .val (.ref b18), .val (.ref b21), .val (.ref f1), .unset, .unset, .unset] [(.ref b24)]))) st24 ?_
      refine own_st (B := (T24.setTop (mkF m 99 #[.val (.long p1), .second, .val (.long p2), .second, .val (.int p3), .val (.int p5), .val (.int p6), .val (.int (1 : Int32)), .val (.long vd), .second, .val (.long cd), .second, .val (.ref b18), .val (.ref b21), .val (.ref f1), .unset, .unset, .unset] [(.ref b24), (.ref b24)]))) (fun _ zk => XS.dup X24.here hx rfl (hb hby at_98) rfl rfl zk) ?_
      refine own_st (B := (T24.setTop (mkF m 101 #[.val (.long p1), .second, .val (.long p2), .second, .val (.int p3), .val (.int p5), .val (.int p6), .val (.int (1 : Int32)), .val (.long vd), .second, .val (.long cd), .second, .val (.ref b18), .val (.ref b21), .val (.ref f1), .unset, .unset, .unset] [(.ref b21), (.ref b24), (.ref b24)]))) (fun _ zk => XS.aload X24.here hx rfl (hb hby at_99) rfl rfl zk) ?_
      refine own_st (B := (T24.setTop (mkF m 103 #[.val (.long p1), .second, .val (.long p2), .second, .val (.int p3), .val (.int p5), .val (.int p6), .val (.int (1 : Int32)), .val (.long vd), .second, .val (.long cd), .second, .val (.ref b18), .val (.ref b21), .val (.ref f1), .unset, .unset, .unset] [(.long cd), (.ref b21), (.ref b24), (.ref b24)]))) (fun _ zk => XS.lload X24.here hx rfl (hb hby at_101) rfl zk) ?_
      refine own_st (B := (T24.setTop (mkF m 105 #[.val (.long p1), .second, .val (.long p2), .second, .val (.int p3), .val (.int p5), .val (.int p6), .val (.int (1 : Int32)), .val (.long vd), .second, .val (.long cd), .second, .val (.ref b18), .val (.ref b21), .val (.ref f1), .unset, .unset, .unset] [(.long vd), (.long cd), (.ref b21), (.ref b24), (.ref b24)]))) (fun _ zk => XS.lload X24.here hx rfl (hb hby at_103) rfl zk) ?_
      refine own_st (B := (T24.setTop (mkF m 107 #[.val (.long p1), .second, .val (.long p2), .second, .val (.int p3), .val (.int p5), .val (.int p6), .val (.int (1 : Int32)), .val (.long vd), .second, .val (.long cd), .second, .val (.ref b18), .val (.ref b21), .val (.ref f1), .unset, .unset, .unset] [(.int (1 : Int32)), (.long vd), (.long cd), (.ref b21), (.ref b24), (.ref b24)]))) (fun _ zk => XS.iload X24.here hx rfl (hb hby at_105) rfl zk) ?_
      refine own_st (B := (T24.setTop (mkF m 109 #[.val (.long p1), .second, .val (.long p2), .second, .val (.int p3), .val (.int p5), .val (.int p6), .val (.int (1 : Int32)), .val (.long vd), .second, .val (.long cd), .second, .val (.ref b18), .val (.ref b21), .val (.ref f1), .unset, .unset, .unset] [(.ref f1), (.int (1 : Int32)), (.long vd), (.long cd), (.ref b21), (.ref b24), (.ref b24)]))) (fun _ zk => XS.aload X24.here hx rfl (hb hby at_107) rfl rfl zk) ?_
      obtain ⟨v25, T25, L25, X25, hS25, hsz25, hZ25, ho25, Q25, st25⟩ := own_callNW (W := 1) X24 hS hx hZ (y := (⟨"com/example/avocet/avocet/diameter/AvpDefinition", "<init>", "(Ljava/lang/String;JJZLcom/example/avocet/avocet/diameter/AvpFormat;)V"⟩ : MethodName)) rfl hown (hw _ (List.mem_of_getElem? (i := 37) rfl)) (hw _ (List.mem_of_getElem? (i := 38) rfl)) (hw _ (List.mem_of_getElem? (i := 36) rfl)) (hw _ (List.mem_of_getElem? (i := 39) rfl)) (by decide) e24 (Nat.zero_le _) (rm_init l Z a0 hw [] b24 b21 cd vd 1 f1 h24 n0 Z24 g_b24 A24 F_name_b24 F_code_b24 F_vendorId_b24 F_mandatory_b24 F_format_b24 hcd h_vd (by decide)) (g := (mkF m 109 #[.val (.long p1), .second, .val (.long p2), .second, .val (.int p3), .val (.int p5), .val (.int p6), .val (.int (1 : Int32)), .val (.long vd), .second, .val (.long cd), .second, .val (.ref b18), .val (.ref b21), .val (.ref f1), .unset, .unset, .unset] [(.ref f1), (.int (1 : Int32)), (.long vd), (.long cd), (.ref b21), (.ref b24), (.ref b24)])) rfl (by rw [hml]; rfl) (a := b24) (argsL := [(.ref b21), (.long cd), (.long vd), (.int (1 : Int32)), (.ref f1)]) (rest := [(.ref b24)]) (lenOf pd_3 rfl) rfl rfl (by show 2 * 0 + _ ≤ _; exact Nat.le_of_eq rfl) (hb hby at_109) (by decide) (by decide) (by decide) (by decide)
      have hZ := hZ25
      have hown := ho25
      have hS := hS25
      obtain ⟨rfl, N25q, EX25, FV25, FM25⟩ := Q25
      refine own_st (B := (T25.setTop (mkF m 112 #[.val (.long p1), .second, .val (.long p2), .second, .val (.int p3), .val (.int p5), .val (.int p6), .val (.int (1 : Int32)), .val (.long vd), .second, .val (.long cd), .second, .val (.ref b18), .val (.ref b21), .val (.ref f1), .unset, .unset, .unset] [(.ref b24)]))) st25 ?_
      have N25 := Fr.app N22 N25q
      refine own_st (B := (T25.setTop (mkF m 114 #[.val (.long p1), .second, .val (.long p2), .second, .val (.int p3), .val (.int p5), .val (.int p6), .val (.int (1 : Int32)), .val (.long vd), .second, .val (.long cd), .second, .val (.ref b18), .val (.ref b21), .val (.ref f1), .val (.ref b24), .unset, .unset] []))) (fun _ zk => XS.astore X25.here hx rfl (hb hby at_112) rfl rfl (l' := #[.val (.long p1), .second, .val (.long p2), .second, .val (.int p3), .val (.int p5), .val (.int p6), .val (.int (1 : Int32)), .val (.long vd), .second, .val (.long cd), .second, .val (.ref b18), .val (.ref b21), .val (.ref f1), .val (.ref b24), .unset, .unset]) rfl zk) ?_
      refine own_st (B := (T25.setTop (mkF m 116 #[.val (.long p1), .second, .val (.long p2), .second, .val (.int p3), .val (.int p5), .val (.int p6), .val (.int (1 : Int32)), .val (.long vd), .second, .val (.long cd), .second, .val (.ref b18), .val (.ref b21), .val (.ref f1), .val (.ref b24), .unset, .unset] [(.ref b24)]))) (fun _ zk => XS.aload X25.here hx rfl (hb hby at_114) rfl rfl zk) ?_
      by_cases hv : vd = 0
      · have hfl : own_fl vd 1 = 64 := by
          unfold own_fl
          rw [if_pos hv]
          decide
        obtain ⟨v26, T26, L26, X26, Q26, st26⟩ := own_callV (W := 0) X25 hx hZ (y := (⟨"com/example/avocet/avocet/diameter/AvpDefinition", "flags", "()I"⟩ : MethodName)) (z := (⟨"com/example/avocet/avocet/diameter/AvpDefinition", "flags", "()I"⟩ : MethodName)) hown (hw _ (List.mem_of_getElem? (i := 64) rfl)) (hw _ (List.mem_of_getElem? (i := 65) rfl)) (notFace_of_selects (args := #[]) (mvT hZ (hw _ (List.mem_of_getElem? (i := 67) rfl)))) (hw _ (List.mem_of_getElem? (i := 67) rfl)) (hw _ (List.mem_of_getElem? (i := 66) rfl)) (hw _ (List.mem_of_getElem? (i := 36) rfl)) (hw _ (List.mem_of_getElem? (i := 68) rfl)) (by decide) rfl (rm_fl l Z a0 hw [] b24 vd 1 64 T25.heap FV25 FM25 hfl) EX25 (g := (mkF m 116 #[.val (.long p1), .second, .val (.long p2), .second, .val (.int p3), .val (.int p5), .val (.int p6), .val (.int (1 : Int32)), .val (.long vd), .second, .val (.long cd), .second, .val (.ref b18), .val (.ref b21), .val (.ref f1), .val (.ref b24), .unset, .unset] [(.ref b24)])) rfl (by rw [hml]; rfl) (argsL := []) (rest := []) (lenOf pd_4 rfl) rfl rfl (by show 2 * 0 + _ ≤ _; exact Nat.le_of_eq rfl) (hb hby at_116) (by decide) (by decide) (by decide) (by decide)
        obtain ⟨rfl, rfl, qe26⟩ := Q26
        refine own_st (B := (T26.setTop (mkF m 119 #[.val (.long p1), .second, .val (.long p2), .second, .val (.int p3), .val (.int p5), .val (.int p6), .val (.int (1 : Int32)), .val (.long vd), .second, .val (.long cd), .second, .val (.ref b18), .val (.ref b21), .val (.ref f1), .val (.ref b24), .unset, .unset] [(.int (64 : Int32))]))) st26 ?_
        refine own_st (B := (T26.setTop (mkF m 121 #[.val (.long p1), .second, .val (.long p2), .second, .val (.int p3), .val (.int p5), .val (.int p6), .val (.int (1 : Int32)), .val (.long vd), .second, .val (.long cd), .second, .val (.ref b18), .val (.ref b21), .val (.ref f1), .val (.ref b24), .val (.int (64 : Int32)), .unset] []))) (fun _ zk => XS.istore X26.here hx rfl (hb hby at_119) rfl (l' := #[.val (.long p1), .second, .val (.long p2), .second, .val (.int p3), .val (.int p5), .val (.int p6), .val (.int (1 : Int32)), .val (.long vd), .second, .val (.long cd), .second, .val (.ref b18), .val (.ref b21), .val (.ref f1), .val (.ref b24), .val (.int (64 : Int32)), .unset]) rfl zk) ?_
        refine own_st (B := (T26.setTop (mkF m 123 #[.val (.long p1), .second, .val (.long p2), .second, .val (.int p3), .val (.int p5), .val (.int p6), .val (.int (1 : Int32)), .val (.long vd), .second, .val (.long cd), .second, .val (.ref b18), .val (.ref b21), .val (.ref f1), .val (.ref b24), .val (.int (64 : Int32)), .unset] [(.long vd)]))) (fun _ zk => XS.lload X26.here hx rfl (hb hby at_121) rfl zk) ?_
        refine own_st (B := (T26.setTop (mkF m 124 #[.val (.long p1), .second, .val (.long p2), .second, .val (.int p3), .val (.int p5), .val (.int p6), .val (.int (1 : Int32)), .val (.long vd), .second, .val (.long cd), .second, .val (.ref b18), .val (.ref b21), .val (.ref f1), .val (.ref b24), .val (.int (64 : Int32)), .unset] [(.long (0 : Int64)), (.long vd)]))) (fun _ zk => XS.lconst X26.here hx rfl (hb hby at_123) zk) ?_
        refine own_st (B := (T26.setTop (mkF m 125 #[.val (.long p1), .second, .val (.long p2), .second, .val (.int p3), .val (.int p5), .val (.int p6), .val (.int (1 : Int32)), .val (.long vd), .second, .val (.long cd), .second, .val (.ref b18), .val (.ref b21), .val (.ref f1), .val (.ref b24), .val (.int (64 : Int32)), .unset] [(.int (lcmpW vd (0 : Int64)))]))) (fun _ zk => XS.lcmp X26.here hx rfl (hb hby at_124) rfl zk) ?_
        refine own_st (B := (T26.setTop (mkF m 128 #[.val (.long p1), .second, .val (.long p2), .second, .val (.int p3), .val (.int p5), .val (.int p6), .val (.int (1 : Int32)), .val (.long vd), .second, .val (.long cd), .second, .val (.ref b18), .val (.ref b21), .val (.ref f1), .val (.ref b24), .val (.int (64 : Int32)), .unset] []))) (fun _ zk => XS.ifNo X26.here hx rfl (hb hby at_125) rfl ((if0 _ _).trans (teq ((lw_eq vd (0 : Int64)).mpr hv)).2) zk) ?_
        refine own_st (B := (T26.setTop (mkF m 130 #[.val (.long p1), .second, .val (.long p2), .second, .val (.int p3), .val (.int p5), .val (.int p6), .val (.int (1 : Int32)), .val (.long vd), .second, .val (.long cd), .second, .val (.ref b18), .val (.ref b21), .val (.ref f1), .val (.ref b24), .val (.int (64 : Int32)), .unset] [(.int (1 : Int32))]))) (fun _ zk => XS.iload X26.here hx rfl (hb hby at_128) rfl zk) ?_
        refine own_st (B := (T26.setTop (mkF m 133 #[.val (.long p1), .second, .val (.long p2), .second, .val (.int p3), .val (.int p5), .val (.int p6), .val (.int (1 : Int32)), .val (.long vd), .second, .val (.long cd), .second, .val (.ref b18), .val (.ref b21), .val (.ref f1), .val (.ref b24), .val (.int (64 : Int32)), .unset] []))) (fun _ zk => XS.ifNo X26.here hx rfl (hb hby at_130) rfl ((if0 _ _).trans (feq (by decide)).1) zk) ?_
        refine own_st (B := (T26.setTop (mkF m 135 #[.val (.long p1), .second, .val (.long p2), .second, .val (.int p3), .val (.int p5), .val (.int p6), .val (.int (1 : Int32)), .val (.long vd), .second, .val (.long cd), .second, .val (.ref b18), .val (.ref b21), .val (.ref f1), .val (.ref b24), .val (.int (64 : Int32)), .unset] [(.int (64 : Int32))]))) (fun _ zk => XS.bipush X26.here hx rfl (hb hby at_133) zk) ?_
        refine own_st (B := (T26.setTop (mkF m 137 #[.val (.long p1), .second, .val (.long p2), .second, .val (.int p3), .val (.int p5), .val (.int p6), .val (.int (1 : Int32)), .val (.long vd), .second, .val (.long cd), .second, .val (.ref b18), .val (.ref b21), .val (.ref f1), .val (.ref b24), .val (.int (64 : Int32)), .val (.int (64 : Int32))] []))) (fun _ zk => XS.istore X26.here hx rfl (hb hby at_135) rfl (l' := #[.val (.long p1), .second, .val (.long p2), .second, .val (.int p3), .val (.int p5), .val (.int p6), .val (.int (1 : Int32)), .val (.long vd), .second, .val (.long cd), .second, .val (.ref b18), .val (.ref b21), .val (.ref f1), .val (.ref b24), .val (.int (64 : Int32)), .val (.int (64 : Int32))]) rfl zk) ?_
        refine own_st (B := (T26.setTop (mkF m 164 #[.val (.long p1), .second, .val (.long p2), .second, .val (.int p3), .val (.int p5), .val (.int p6), .val (.int (1 : Int32)), .val (.long vd), .second, .val (.long cd), .second, .val (.ref b18), .val (.ref b21), .val (.ref f1), .val (.ref b24), .val (.int (64 : Int32)), .val (.int (64 : Int32))] []))) (fun _ zk => XS.goto X26.here hx rfl (pc0 := 137) (pc' := 164) rfl (hb hby at_137) (by decide) (by decide) zk) ?_
        refine own_st (B := (T26.setTop (mkF m 166 #[.val (.long p1), .second, .val (.long p2), .second, .val (.int p3), .val (.int p5), .val (.int p6), .val (.int (1 : Int32)), .val (.long vd), .second, .val (.long cd), .second, .val (.ref b18), .val (.ref b21), .val (.ref f1), .val (.ref b24), .val (.int (64 : Int32)), .val (.int (64 : Int32))] [(.int (64 : Int32))]))) (fun _ zk => XS.iload X26.here hx rfl (hb hby at_164) rfl zk) ?_
        refine own_st (B := (T26.setTop (mkF m 168 #[.val (.long p1), .second, .val (.long p2), .second, .val (.int p3), .val (.int p5), .val (.int p6), .val (.int (1 : Int32)), .val (.long vd), .second, .val (.long cd), .second, .val (.ref b18), .val (.ref b21), .val (.ref f1), .val (.ref b24), .val (.int (64 : Int32)), .val (.int (64 : Int32))] [(.int (64 : Int32)), (.int (64 : Int32))]))) (fun _ zk => XS.iload X26.here hx rfl (hb hby at_166) rfl zk) ?_
        refine own_st (B := (T26.setTop (mkF m 171 #[.val (.long p1), .second, .val (.long p2), .second, .val (.int p3), .val (.int p5), .val (.int p6), .val (.int (1 : Int32)), .val (.long vd), .second, .val (.long cd), .second, .val (.ref b18), .val (.ref b21), .val (.ref f1), .val (.ref b24), .val (.int (64 : Int32)), .val (.int (64 : Int32))] []))) (fun _ zk => XS.icmpNo X26.here hx rfl (hb hby at_168) rfl (teq (by decide)).2 zk) ?_
        refine own_st (B := (T26.setTop (mkF m 172 #[.val (.long p1), .second, .val (.long p2), .second, .val (.int p3), .val (.int p5), .val (.int p6), .val (.int (1 : Int32)), .val (.long vd), .second, .val (.long cd), .second, .val (.ref b18), .val (.ref b21), .val (.ref f1), .val (.ref b24), .val (.int (64 : Int32)), .val (.int (64 : Int32))] [(.int (1 : Int32))]))) (fun _ zk => XS.iconst X26.here hx rfl (hb hby at_171) zk) ?_
        refine own_st (B := (T26.setTop (mkF m 176 #[.val (.long p1), .second, .val (.long p2), .second, .val (.int p3), .val (.int p5), .val (.int p6), .val (.int (1 : Int32)), .val (.long vd), .second, .val (.long cd), .second, .val (.ref b18), .val (.ref b21), .val (.ref f1), .val (.ref b24), .val (.int (64 : Int32)), .val (.int (64 : Int32))] [(.int (1 : Int32))]))) (fun _ zk => XS.goto X26.here hx rfl (pc0 := 172) (pc' := 176) rfl (hb hby at_172) (by decide) (by decide) zk) ?_
        exact own_wretN X26 hS (by rw [qe26]; exact (Nat.le_refl _)) hx hlk (t := .boolean) hret (by simp) (hb hby at_176) (by show own_Q0 n0 _ T26.heap _; rw [qe26]; exact ⟨rfl, by simpa using N25⟩) (by decide) (by decide)
      · have hfl : own_fl vd 1 = 192 := by
          unfold own_fl
          rw [if_neg hv]
          decide
        obtain ⟨v27, T27, L27, X27, Q27, st27⟩ := own_callV (W := 0) X25 hx hZ (y := (⟨"com/example/avocet/avocet/diameter/AvpDefinition", "flags", "()I"⟩ : MethodName)) (z := (⟨"com/example/avocet/avocet/diameter/AvpDefinition", "flags", "()I"⟩ : MethodName)) hown (hw _ (List.mem_of_getElem? (i := 64) rfl)) (hw _ (List.mem_of_getElem? (i := 65) rfl)) (notFace_of_selects (args := #[]) (mvT hZ (hw _ (List.mem_of_getElem? (i := 67) rfl)))) (hw _ (List.mem_of_getElem? (i := 67) rfl)) (hw _ (List.mem_of_getElem? (i := 66) rfl)) (hw _ (List.mem_of_getElem? (i := 36) rfl)) (hw _ (List.mem_of_getElem? (i := 68) rfl)) (by decide) rfl (rm_fl l Z a0 hw [] b24 vd 1 192 T25.heap FV25 FM25 hfl) EX25 (g := (mkF m 116 #[.val (.long p1), .second, .val (.long p2), .second, .val (.int p3), .val (.int p5), .val (.int p6), .val (.int (1 : Int32)), .val (.long vd), .second, .val (.long cd), .second, .val (.ref b18), .val (.ref b21), .val (.ref f1), .val (.ref b24), .unset, .unset] [(.ref b24)])) rfl (by rw [hml]; rfl) (argsL := []) (rest := []) (lenOf pd_4 rfl) rfl rfl (by show 2 * 0 + _ ≤ _; exact Nat.le_of_eq rfl) (hb hby at_116) (by decide) (by decide) (by decide) (by decide)
        obtain ⟨rfl, rfl, qe27⟩ := Q27
        refine own_st (B := (T27.setTop (mkF m 119 #[.val (.long p1), .second, .val (.long p2), .second, .val (.int p3), .val (.int p5), .val (.int p6), .val (.int (1 : Int32)), .val (.long vd), .second, .val (.long cd), .second, .val (.ref b18), .val (.ref b21), .val (.ref f1), .val (.ref b24), .unset, .unset] [(.int (192 : Int32))]))) st27 ?_
        refine own_st (B := (T27.setTop (mkF m 121 #[.val (.long p1), .second, .val (.long p2), .second, .val (.int p3), .val (.int p5), .val (.int p6), .val (.int (1 : Int32)), .val (.long vd), .second, .val (.long cd), .second, .val (.ref b18), .val (.ref b21), .val (.ref f1), .val (.ref b24), .val (.int (192 : Int32)), .unset] []))) (fun _ zk => XS.istore X27.here hx rfl (hb hby at_119) rfl (l' := #[.val (.long p1), .second, .val (.long p2), .second, .val (.int p3), .val (.int p5), .val (.int p6), .val (.int (1 : Int32)), .val (.long vd), .second, .val (.long cd), .second, .val (.ref b18), .val (.ref b21), .val (.ref f1), .val (.ref b24), .val (.int (192 : Int32)), .unset]) rfl zk) ?_
        refine own_st (B := (T27.setTop (mkF m 123 #[.val (.long p1), .second, .val (.long p2), .second, .val (.int p3), .val (.int p5), .val (.int p6), .val (.int (1 : Int32)), .val (.long vd), .second, .val (.long cd), .second, .val (.ref b18), .val (.ref b21), .val (.ref f1), .val (.ref b24), .val (.int (192 : Int32)), .unset] [(.long vd)]))) (fun _ zk => XS.lload X27.here hx rfl (hb hby at_121) rfl zk) ?_
        refine own_st (B := (T27.setTop (mkF m 124 #[.val (.long p1), .second, .val (.long p2), .second, .val (.int p3), .val (.int p5), .val (.int p6), .val (.int (1 : Int32)), .val (.long vd), .second, .val (.long cd), .second, .val (.ref b18), .val (.ref b21), .val (.ref f1), .val (.ref b24), .val (.int (192 : Int32)), .unset] [(.long (0 : Int64)), (.long vd)]))) (fun _ zk => XS.lconst X27.here hx rfl (hb hby at_123) zk) ?_
        refine own_st (B := (T27.setTop (mkF m 125 #[.val (.long p1), .second, .val (.long p2), .second, .val (.int p3), .val (.int p5), .val (.int p6), .val (.int (1 : Int32)), .val (.long vd), .second, .val (.long cd), .second, .val (.ref b18), .val (.ref b21), .val (.ref f1), .val (.ref b24), .val (.int (192 : Int32)), .unset] [(.int (lcmpW vd (0 : Int64)))]))) (fun _ zk => XS.lcmp X27.here hx rfl (hb hby at_124) rfl zk) ?_
        refine own_st (B := (T27.setTop (mkF m 146 #[.val (.long p1), .second, .val (.long p2), .second, .val (.int p3), .val (.int p5), .val (.int p6), .val (.int (1 : Int32)), .val (.long vd), .second, .val (.long cd), .second, .val (.ref b18), .val (.ref b21), .val (.ref f1), .val (.ref b24), .val (.int (192 : Int32)), .unset] []))) (fun _ zk => XS.ifYes X27.here hx rfl (pc0 := 125) (pc' := 146) rfl (hb hby at_125) rfl ((if0 _ _).trans (feq (mt (lw_eq vd (0 : Int64)).mp hv)).2) (by decide) (by decide) zk) ?_
        refine own_st (B := (T27.setTop (mkF m 148 #[.val (.long p1), .second, .val (.long p2), .second, .val (.int p3), .val (.int p5), .val (.int p6), .val (.int (1 : Int32)), .val (.long vd), .second, .val (.long cd), .second, .val (.ref b18), .val (.ref b21), .val (.ref f1), .val (.ref b24), .val (.int (192 : Int32)), .unset] [(.int (1 : Int32))]))) (fun _ zk => XS.iload X27.here hx rfl (hb hby at_146) rfl zk) ?_
        refine own_st (B := (T27.setTop (mkF m 151 #[.val (.long p1), .second, .val (.long p2), .second, .val (.int p3), .val (.int p5), .val (.int p6), .val (.int (1 : Int32)), .val (.long vd), .second, .val (.long cd), .second, .val (.ref b18), .val (.ref b21), .val (.ref f1), .val (.ref b24), .val (.int (192 : Int32)), .unset] []))) (fun _ zk => XS.ifNo X27.here hx rfl (hb hby at_148) rfl ((if0 _ _).trans (feq (by decide)).1) zk) ?_
        refine own_st (B := (T27.setTop (mkF m 154 #[.val (.long p1), .second, .val (.long p2), .second, .val (.int p3), .val (.int p5), .val (.int p6), .val (.int (1 : Int32)), .val (.long vd), .second, .val (.long cd), .second, .val (.ref b18), .val (.ref b21), .val (.ref f1), .val (.ref b24), .val (.int (192 : Int32)), .unset] [(.int (192 : Int32))]))) (fun _ zk => XS.sipush X27.here hx rfl (hb hby at_151) zk) ?_
        refine own_st (B := (T27.setTop (mkF m 156 #[.val (.long p1), .second, .val (.long p2), .second, .val (.int p3), .val (.int p5), .val (.int p6), .val (.int (1 : Int32)), .val (.long vd), .second, .val (.long cd), .second, .val (.ref b18), .val (.ref b21), .val (.ref f1), .val (.ref b24), .val (.int (192 : Int32)), .val (.int (192 : Int32))] []))) (fun _ zk => XS.istore X27.here hx rfl (hb hby at_154) rfl (l' := #[.val (.long p1), .second, .val (.long p2), .second, .val (.int p3), .val (.int p5), .val (.int p6), .val (.int (1 : Int32)), .val (.long vd), .second, .val (.long cd), .second, .val (.ref b18), .val (.ref b21), .val (.ref f1), .val (.ref b24), .val (.int (192 : Int32)), .val (.int (192 : Int32))]) rfl zk) ?_
        refine own_st (B := (T27.setTop (mkF m 164 #[.val (.long p1), .second, .val (.long p2), .second, .val (.int p3), .val (.int p5), .val (.int p6), .val (.int (1 : Int32)), .val (.long vd), .second, .val (.long cd), .second, .val (.ref b18), .val (.ref b21), .val (.ref f1), .val (.ref b24), .val (.int (192 : Int32)), .val (.int (192 : Int32))] []))) (fun _ zk => XS.goto X27.here hx rfl (pc0 := 156) (pc' := 164) rfl (hb hby at_156) (by decide) (by decide) zk) ?_
        refine own_st (B := (T27.setTop (mkF m 166 #[.val (.long p1), .second, .val (.long p2), .second, .val (.int p3), .val (.int p5), .val (.int p6), .val (.int (1 : Int32)), .val (.long vd), .second, .val (.long cd), .second, .val (.ref b18), .val (.ref b21), .val (.ref f1), .val (.ref b24), .val (.int (192 : Int32)), .val (.int (192 : Int32))] [(.int (192 : Int32))]))) (fun _ zk => XS.iload X27.here hx rfl (hb hby at_164) rfl zk) ?_
        refine own_st (B := (T27.setTop (mkF m 168 #[.val (.long p1), .second, .val (.long p2), .second, .val (.int p3), .val (.int p5), .val (.int p6), .val (.int (1 : Int32)), .val (.long vd), .second, .val (.long cd), .second, .val (.ref b18), .val (.ref b21), .val (.ref f1), .val (.ref b24), .val (.int (192 : Int32)), .val (.int (192 : Int32))] [(.int (192 : Int32)), (.int (192 : Int32))]))) (fun _ zk => XS.iload X27.here hx rfl (hb hby at_166) rfl zk) ?_
        refine own_st (B := (T27.setTop (mkF m 171 #[.val (.long p1), .second, .val (.long p2), .second, .val (.int p3), .val (.int p5), .val (.int p6), .val (.int (1 : Int32)), .val (.long vd), .second, .val (.long cd), .second, .val (.ref b18), .val (.ref b21), .val (.ref f1), .val (.ref b24), .val (.int (192 : Int32)), .val (.int (192 : Int32))] []))) (fun _ zk => XS.icmpNo X27.here hx rfl (hb hby at_168) rfl (teq (by decide)).2 zk) ?_
        refine own_st (B := (T27.setTop (mkF m 172 #[.val (.long p1), .second, .val (.long p2), .second, .val (.int p3), .val (.int p5), .val (.int p6), .val (.int (1 : Int32)), .val (.long vd), .second, .val (.long cd), .second, .val (.ref b18), .val (.ref b21), .val (.ref f1), .val (.ref b24), .val (.int (192 : Int32)), .val (.int (192 : Int32))] [(.int (1 : Int32))]))) (fun _ zk => XS.iconst X27.here hx rfl (hb hby at_171) zk) ?_
        refine own_st (B := (T27.setTop (mkF m 176 #[.val (.long p1), .second, .val (.long p2), .second, .val (.int p3), .val (.int p5), .val (.int p6), .val (.int (1 : Int32)), .val (.long vd), .second, .val (.long cd), .second, .val (.ref b18), .val (.ref b21), .val (.ref f1), .val (.ref b24), .val (.int (192 : Int32)), .val (.int (192 : Int32))] [(.int (1 : Int32))]))) (fun _ zk => XS.goto X27.here hx rfl (pc0 := 172) (pc' := 176) rfl (hb hby at_172) (by decide) (by decide) zk) ?_
        exact own_wretN X27 hS (by rw [qe27]; exact (Nat.le_refl _)) hx hlk (t := .boolean) hret (by simp) (hb hby at_176) (by show own_Q0 n0 _ T27.heap _; rw [qe27]; exact ⟨rfl, by simpa using N25⟩) (by decide) (by decide)
    · refine own_st (B := (T22.setTop (mkF m 84 #[.val (.long p1), .second, .val (.long p2), .second, .val (.int p3), .val (.int p5), .val (.int p6), .val (.int (1 : Int32)), .val (.long vd), .second, .val (.long cd), .second, .val (.ref b18), .val (.ref b21), .unset, .unset, .unset, .unset] []))) (fun _ zk => XS.ifNo X22.here hx rfl (hb hby at_81) rfl ((if0 _ _).trans (feq cF).1) zk) ?_
      obtain ⟨T28, X28, e28, st28⟩ := getS2 X22 hx hZ hown (host := "") (Or.inl (hw _ (List.mem_of_getElem? (i := 69) rfl))) Via.refl rfl (SJ S_GROUPED) (g := (mkF m 84 #[.val (.long p1), .second, .val (.long p2), .second, .val (.int p3), .val (.int p5), .val (.int p6), .val (.int (1 : Int32)), .val (.long vd), .second, .val (.long cd), .second, .val (.ref b18), .val (.ref b21), .unset, .unset, .unset, .unset] [])) rfl (hb hby at_84)
      refine own_st (B := (T28.setTop (mkF m 87 #[.val (.long p1), .second, .val (.long p2), .second, .val (.int p3), .val (.int p5), .val (.int p6), .val (.int (1 : Int32)), .val (.long vd), .second, .val (.long cd), .second, .val (.ref b18), .val (.ref b21), .unset, .unset, .unset, .unset] [(.ref f2)]))) st28 ?_
      refine own_st (B := (T28.setTop (mkF m 93 #[.val (.long p1), .second, .val (.long p2), .second, .val (.int p3), .val (.int p5), .val (.int p6), .val (.int (1 : Int32)), .val (.long vd), .second, .val (.long cd), .second, .val (.ref b18), .val (.ref b21), .unset, .unset, .unset, .unset] [(.ref f2)]))) (fun _ zk => XS.goto X28.here hx rfl (pc0 := 87) (pc' := 93) rfl (hb hby at_87) (by decide) (by decide) zk) ?_
      refine own_st (B := (T28.setTop (mkF m 95 #[.val (.long p1), .second, .val (.long p2), .second, .val (.int p3), .val (.int p5), .val (.int p6), .val (.int (1 : Int32)), .val (.long vd), .second, .val (.long cd), .second, .val (.ref b18), .val (.ref b21), .val (.ref f2), .unset, .unset, .unset] []))) (fun _ zk => XS.astore X28.here hx rfl (hb hby at_93) rfl rfl (l' := #[.val (.long p1), .second, .val (.long p2), .second, .val (.int p3), .val (.int p5), .val (.int p6), .val (.int (1 : Int32)), .val (.long vd), .second, .val (.long cd), .second, .val (.ref b18), .val (.ref b21), .val (.ref f2), .unset, .unset, .unset]) rfl zk) ?_
      have ZN : n0 ≤ T22.heap.size := Nat.le_trans Z21 K22.1
      obtain ⟨T29, h29, X29, e29, E29, A29, D29, -, st29⟩ := newO X28 hx hZ hown (hw _ (List.mem_of_getElem? (i := 34) rfl)) (hw _ (List.mem_of_getElem? (i := 35) rfl)) (hw _ (List.mem_of_getElem? (i := 36) rfl)) e28 (g := (mkF m 95 #[.val (.long p1), .second, .val (.long p2), .second, .val (.int p3), .val (.int p5), .val (.int p6), .val (.int (1 : Int32)), .val (.long vd), .second, .val (.long cd), .second, .val (.ref b18), .val (.ref b21), .val (.ref f2), .unset, .unset, .unset] [])) rfl (hb hby at_95) (by decide) (by decide)
      obtain ⟨b29, g29⟩ : ∃ z, z = T22.heap.size := ⟨_, rfl⟩
      rw [← g29] at A29 D29 st29
      have g_b29 : n0 ≤ b29 := Nat.le_trans ZN (Nat.le_of_eq g29.symm)
      have F_name_b29 : Fld Z h29 b29 "com/example/avocet/avocet/diameter/AvpDefinition" "name" "Ljava/lang/String;" .null := D29 (Or.inr (hw _ (List.mem_of_getElem? (i := 55) rfl))) (ty := (.object "java/lang/String")) (by decide)
      have F_code_b29 : Fld Z h29 b29 "com/example/avocet/avocet/diameter/AvpDefinition" "code" "J" (.long (0 : Int64)) := D29 (Or.inr (hw _ (List.mem_of_getElem? (i := 57) rfl))) (ty := .long) (by decide)
      have F_vendorId_b29 : Fld Z h29 b29 "com/example/avocet/avocet/diameter/AvpDefinition" "vendorId" "J" (.long (0 : Int64)) := D29 (Or.inr (hw _ (List.mem_of_getElem? (i := 59) rfl))) (ty := .long) (by decide)
      have F_mandatory_b29 : Fld Z h29 b29 "com/example/avocet/avocet/diameter/AvpDefinition" "mandatory" "Z" (.int (0 : Int32)) := D29 (Or.inr (hw _ (List.mem_of_getElem? (i := 61) rfl))) (ty := .boolean) (by decide)
      have F_format_b29 : Fld Z h29 b29 "com/example/avocet/avocet/diameter/AvpDefinition" "format" "Lcom/example/avocet/avocet/diameter/AvpFormat;" .null := D29 (Or.inr (hw _ (List.mem_of_getElem? (i := 63) rfl))) (ty := (.object "com/example/avocet/avocet/diameter/AvpFormat")) (by decide)
      have Z29 : n0 ≤ h29.size := Nat.le_trans ZN E29.1
      refine own_st (B := (T29.setTop (mkF m 98 #[.val (.long p1), .second, .val (.long p2), .second, .val (.int p3), .val (.int p5), .val (.int p6), .val (.int (1 : Int32)), .val (.long vd), .second, .val (.long cd), .second, .val (.ref b18), .val (.ref b21), .val (.ref f2), .unset, .unset, .unset] [(.ref b29)]))) st29 ?_
      refine own_st (B := (T29.setTop (mkF m 99 #[.val (.long p1), .second, .val (.long p2), .second, .val (.int p3), .val (.int p5), .val (.int p6), .val (.int (1 : Int32)), .val (.long vd), .second, .val (.long cd), .second, .val (.ref b18), .val (.ref b21), .val (.ref f2), .unset, .unset, .unset] [(.ref b29), (.ref b29)]))) (fun _ zk => XS.dup X29.here hx rfl (hb hby at_98) rfl rfl zk) ?_
      refine own_st (B := (T29.setTop (mkF m 101 #[.val (.long p1), .second, .val (.long p2), .second, .val (.int p3), .val (.int p5), .val (.int p6), .val (.int (1 : Int32)), .val (.long vd), .second, .val (.long cd), .second, .val (.ref b18), .val (.ref b21), .val (.ref f2), .unset, .unset, .unset] [(.ref b21), (.ref b29), (.ref b29)]))) (fun _ zk => XS.aload X29.here hx rfl (hb hby at_99) rfl rfl zk) ?_
      refine own_st (B := (T29.setTop (mkF m 103 #[.val (.long p1), .second, .val (.long p2), .second, .val (.int p3), .val (.int p5), .val (.int p6), .val (.int (1 : Int32)), .val (.long vd), .second, .val (.long cd), .second, .val (.ref b18), .val (.ref b21), .val (.ref f2), .unset, .unset, .unset] [(.long cd), (.ref b21), (.ref b29), (.ref b29)]))) (fun _ zk => XS.lload X29.here hx rfl (hb hby at_101) rfl zk) ?_
      refine own_st (B := (T29.setTop (mkF m 105 #[.val (.long p1), .second, .val (.long p2), .second, .val (.int p3), .val (.int p5), .val (.int p6), .val (.int (1 : Int32)), .val (.long vd), .second, .val (.long cd), .second, .val (.ref b18), .val (.ref b21), .val (.ref f2), .unset, .unset, .unset] [(.long vd), (.long cd), (.ref b21), (.ref b29), (.ref b29)]))) (fun _ zk => XS.lload X29.here hx rfl (hb hby at_103) rfl zk) ?_
      refine own_st (B := (T29.setTop (mkF m 107 #[.val (.long p1), .second, .val (.long p2), .second, .val (.int p3), .val (.int p5), .val (.int p6), .val (.int (1 : Int32)), .val (.long vd), .second, .val (.long cd), .second, .val (.ref b18), .val (.ref b21), .val (.ref f2), .unset, .unset, .unset] [(.int (1 : Int32)), (.long vd), (.long cd), (.ref b21), (.ref b29), (.ref b29)]))) (fun _ zk => XS.iload X29.here hx rfl (hb hby at_105) rfl zk) ?_
      refine own_st (B := (T29.setTop (mkF m 109 #[.val (.long p1), .second, .val (.long p2), .second, .val (.int p3), .val (.int p5), .val (.int p6), .val (.int (1 : Int32)), .val (.long vd), .second, .val (.long cd), .second, .val (.ref b18), .val (.ref b21), .val (.ref f2), .unset, .unset, .unset] [(.ref f2), (.int (1 : Int32)), (.long vd), (.long cd), (.ref b21), (.ref b29), (.ref b29)]))) (fun _ zk => XS.aload X29.here hx rfl (hb hby at_107) rfl rfl zk) ?_
      obtain ⟨v30, T30, L30, X30, hS30, hsz30, hZ30, ho30, Q30, st30⟩ := own_callNW (W := 1) X29 hS hx hZ (y := (⟨"com/example/avocet/avocet/diameter/AvpDefinition", "<init>", "(Ljava/lang/String;JJZLcom/example/avocet/avocet/diameter/AvpFormat;)V"⟩ : MethodName)) rfl hown (hw _ (List.mem_of_getElem? (i := 37) rfl)) (hw _ (List.mem_of_getElem? (i := 38) rfl)) (hw _ (List.mem_of_getElem? (i := 36) rfl)) (hw _ (List.mem_of_getElem? (i := 39) rfl)) (by decide) e29 (Nat.zero_le _) (rm_init l Z a0 hw [] b29 b21 cd vd 1 f2 h29 n0 Z29 g_b29 A29 F_name_b29 F_code_b29 F_vendorId_b29 F_mandatory_b29 F_format_b29 hcd h_vd (by decide)) (g := (mkF m 109 #[.val (.long p1), .second, .val (.long p2), .second, .val (.int p3), .val (.int p5), .val (.int p6), .val (.int (1 : Int32)), .val (.long vd), .second, .val (.long cd), .second, .val (.ref b18), .val (.ref b21), .val (.ref f2), .unset, .unset, .unset] [(.ref f2), (.int (1 : Int32)), (.long vd), (.long cd), (.ref b21), (.ref b29), (.ref b29)])) rfl (by rw [hml]; rfl) (a := b29) (argsL := [(.ref b21), (.long cd), (.long vd), (.int (1 : Int32)), (.ref f2)]) (rest := [(.ref b29)]) (lenOf pd_3 rfl) rfl rfl (by show 2 * 0 + _ ≤ _; exact Nat.le_of_eq rfl) (hb hby at_109) (by decide) (by decide) (by decide) (by decide)
      have hZ := hZ30
      have hown := ho30
      have hS := hS30
      obtain ⟨rfl, N30q, EX30, FV30, FM30⟩ := Q30
      refine own_st (B := (T30.setTop (mkF m 112 #[.val (.long p1), .second, .val (.long p2), .second, .val (.int p3), .val (.int p5), .val (.int p6), .val (.int (1 : Int32)), .val (.long vd), .second, .val (.long cd), .second, .val (.ref b18), .val (.ref b21), .val (.ref f2), .unset, .unset, .unset] [(.ref b29)]))) st30 ?_
      have N30 := Fr.app N22 N30q
      refine own_st (B := (T30.setTop (mkF m 114 #[.val (.long p1), .second, .val (.long p2), .second, .val (.int p3), .val (.int p5), .val (.int p6), .val (.int (1 : Int32)), .val (.long vd), .second, .val (.long cd), .second, .val (.ref b18), .val (.ref b21), .val (.ref f2), .val (.ref b29), .unset, .unset] []))) (fun _ zk => XS.astore X30.here hx rfl (hb hby at_112) rfl rfl (l' := #[.val (.long p1), .second, .val (.long p2), .second, .val (.int p3), .val (.int p5), .val (.int p6), .val (.int (1 : Int32)), .val (.long vd), .second, .val (.long cd), .second, .val (.ref b18), .val (.ref b21), .val (.ref f2), .val (.ref b29), .unset, .unset]) rfl zk) ?_
      refine own_st (B := (T30.setTop (mkF m 116 #[.val (.long p1), .second, .val (.long p2), .second, .val (.int p3), .val (.int p5), .val (.int p6), .val (.int (1 : Int32)), .val (.long vd), .second, .val (.long cd), .second, .val (.ref b18), .val (.ref b21), .val (.ref f2), .val (.ref b29), .unset, .unset] [(.ref b29)]))) (fun _ zk => XS.aload X30.here hx rfl (hb hby at_114) rfl rfl zk) ?_
      by_cases hv : vd = 0
      · have hfl : own_fl vd 1 = 64 := by
          unfold own_fl
          rw [if_pos hv]
          decide
        obtain ⟨v31, T31, L31, X31, Q31, st31⟩ := own_callV (W := 0) X30 hx hZ (y := (⟨"com/example/avocet/avocet/diameter/AvpDefinition", "flags", "()I"⟩ : MethodName)) (z := (⟨"com/example/avocet/avocet/diameter/AvpDefinition", "flags", "()I"⟩ : MethodName)) hown (hw _ (List.mem_of_getElem? (i := 64) rfl)) (hw _ (List.mem_of_getElem? (i := 65) rfl)) (notFace_of_selects (args := #[]) (mvT hZ (hw _ (List.mem_of_getElem? (i := 67) rfl)))) (hw _ (List.mem_of_getElem? (i := 67) rfl)) (hw _ (List.mem_of_getElem? (i := 66) rfl)) (hw _ (List.mem_of_getElem? (i := 36) rfl)) (hw _ (List.mem_of_getElem? (i := 68) rfl)) (by decide) rfl (rm_fl l Z a0 hw [] b29 vd 1 64 T30.heap FV30 FM30 hfl) EX30 (g := (mkF m 116 #[.val (.long p1), .second, .val (.long p2), .second, .val (.int p3), .val (.int p5), .val (.int p6), .val (.int (1 : Int32)), .val (.long vd), .second, .val (.long cd), .second, .val (.ref b18), .val (.ref b21), .val (.ref f2), .val (.ref b29), .unset, .unset] [(.ref b29)])) rfl (by rw [hml]; rfl) (argsL := []) (rest := []) (lenOf pd_4 rfl) rfl rfl (by show 2 * 0 + _ ≤ _; exact Nat.le_of_eq rfl) (hb hby at_116) (by decide) (by decide) (by decide) (by decide)
        obtain ⟨rfl, rfl, qe31⟩ := Q31
        refine own_st (B := (T31.setTop (mkF m 119 #[.val (.long p1), .second, .val (.long p2), .second, .val (.int p3), .val (.int p5), .val (.int p6), .val (.int (1 : Int32)), .val (.long vd), .second, .val (.long cd), .second, .val (.ref b18), .val (.ref b21), .val (.ref f2), .val (.ref b29), .unset, .unset] [(.int (64 : Int32))]))) st31 ?_
        refine own_st (B := (T31.setTop (mkF m 121 #[.val (.long p1), .second, .val (.long p2), .second, .val (.int p3), .val (.int p5), .val (.int p6), .val (.int (1 : Int32)), .val (.long vd), .second, .val (.long cd), .second, .val (.ref b18), .val (.ref b21), .val (.ref f2), .val (.ref b29), .val (.int (64 : Int32)), .unset] []))) (fun _ zk => XS.istore X31.here hx rfl (hb hby at_119) rfl (l' := #[.val (.long p1), .second, .val (.long p2), .second, .val (.int p3), .val (.int p5), .val (.int p6), .val (.int (1 : Int32)), .val (.long vd), .second, .val (.long cd), .second, .val (.ref b18), .val (.ref b21), .val (.ref f2), .val (.ref b29), .val (.int (64 : Int32)), .unset]) rfl zk) ?_
        refine own_st (B := (T31.setTop (mkF m 123 #[.val (.long p1), .second, .val (.long p2), .second, .val (.int p3), .val (.int p5), .val (.int p6), .val (.int (1 : Int32)), .val (.long vd), .second, .val (.long cd), .second, .val (.ref b18), .val (.ref b21), .val (.ref f2), .val (.ref b29), .val (.int (64 : Int32)), .unset] [(.long vd)]))) (fun _ zk => XS.lload X31.here hx rfl (hb hby at_121) rfl zk) ?_
        refine own_st (B := (T31.setTop (mkF m 124 #[.val (.long p1), .second, .val (.long p2), .second, .val (.int p3), .val (.int p5), .val (.int p6), .val (.int (1 : Int32)), .val (.long vd), .second, .val (.long cd), .second, .val (.ref b18), .val (.ref b21), .val (.ref f2), .val (.ref b29), .val (.int (64 : Int32)), .unset] [(.long (0 : Int64)), (.long vd)]))) (fun _ zk => XS.lconst X31.here hx rfl (hb hby at_123) zk) ?_
        refine own_st (B := (T31.setTop (mkF m 125 #[.val (.long p1), .second, .val (.long p2), .second, .val (.int p3), .val (.int p5), .val (.int p6), .val (.int (1 : Int32)), .val (.long vd), .second, .val (.long cd), .second, .val (.ref b18), .val (.ref b21), .val (.ref f2), .val (.ref b29), .val (.int (64 : Int32)), .unset] [(.int (lcmpW vd (0 : Int64)))]))) (fun _ zk => XS.lcmp X31.here hx rfl (hb hby at_124) rfl zk) ?_
        refine own_st (B := (T31.setTop (mkF m 128 #[.val (.long p1), .second, .val (.long p2), .second, .val (.int p3), .val (.int p5), .val (.int p6), .val (.int (1 : Int32)), .val (.long vd), .second, .val (.long cd), .second, .val (.ref b18), .val (.ref b21), .val (.ref f2), .val (.ref b29), .val (.int (64 : Int32)), .unset] []))) (fun _ zk => XS.ifNo X31.here hx rfl (hb hby at_125) rfl ((if0 _ _).trans (teq ((lw_eq vd (0 : Int64)).mpr hv)).2) zk) ?_
        refine own_st (B := (T31.setTop (mkF m 130 #[.val (.long p1), .second, .val (.long p2), .second, .val (.int p3), .val (.int p5), .val (.int p6), .val (.int (1 : Int32)), .val (.long vd), .second, .val (.long cd), .second, .val (.ref b18), .val (.ref b21), .val (.ref f2), .val (.ref b29), .val (.int (64 : Int32)), .unset] [(.int (1 : Int32))]))) (fun _ zk => XS.iload X31.here hx rfl (hb hby at_128) rfl zk) ?_
        refine own_st (B := (T31.setTop (mkF m 133 #[.val (.long p1), .second, .val (.long p2), .second, .val (.int p3), .val (.int p5), .val (.int p6), .val (.int (1 : Int32)), .val (.long vd), .second, .val (.long cd), .second, .val (.ref b18), .val (.ref b21), .val (.ref f2), .val (.ref b29), .val (.int (64 : Int32)), .unset] []))) (fun _ zk => XS.ifNo X31.here hx rfl (hb hby at_130) rfl ((if0 _ _).trans (feq (by decide)).1) zk) ?_
        refine own_st (B := (T31.setTop (mkF m 135 #[.val (.long p1), .second, .val (.long p2), .second, .val (.int p3), .val (.int p5), .val (.int p6), .val (.int (1 : Int32)), .val (.long vd), .second, .val (.long cd), .second, .val (.ref b18), .val (.ref b21), .val (.ref f2), .val (.ref b29), .val (.int (64 : Int32)), .unset] [(.int (64 : Int32))]))) (fun _ zk => XS.bipush X31.here hx rfl (hb hby at_133) zk) ?_
        refine own_st (B := (T31.setTop (mkF m 137 #[.val (.long p1), .second, .val (.long p2), .second, .val (.int p3), .val (.int p5), .val (.int p6), .val (.int (1 : Int32)), .val (.long vd), .second, .val (.long cd), .second, .val (.ref b18), .val (.ref b21), .val (.ref f2), .val (.ref b29), .val (.int (64 : Int32)), .val (.int (64 : Int32))] []))) (fun _ zk => XS.istore X31.here hx rfl (hb hby at_135) rfl (l' := #[.val (.long p1), .second, .val (.long p2), .second, .val (.int p3), .val (.int p5), .val (.int p6), .val (.int (1 : Int32)), .val (.long vd), .second, .val (.long cd), .second, .val (.ref b18), .val (.ref b21), .val (.ref f2), .val (.ref b29), .val (.int (64 : Int32)), .val (.int (64 : Int32))]) rfl zk) ?_
        refine own_st (B := (T31.setTop (mkF m 164 #[.val (.long p1), .second, .val (.long p2), .second, .val (.int p3), .val (.int p5), .val (.int p6), .val (.int (1 : Int32)), .val (.long vd), .second, .val (.long cd), .second, .val (.ref b18), .val (.ref b21), .val (.ref f2), .val (.ref b29), .val (.int (64 : Int32)), .val (.int (64 : Int32))] []))) (fun _ zk => XS.goto X31.here hx rfl (pc0 := 137) (pc' := 164) rfl (hb hby at_137) (by decide) (by decide) zk) ?_
        refine own_st (B := (T31.setTop (mkF m 166 #[.val (.long p1), .second, .val (.long p2), .second, .val (.int p3), .val (.int p5), .val (.int p6), .val (.int (1 : Int32)), .val (.long vd), .second, .val (.long cd), .second, .val (.ref b18), .val (.ref b21), .val (.ref f2), .val (.ref b29), .val (.int (64 : Int32)), .val (.int (64 : Int32))] [(.int (64 : Int32))]))) (fun _ zk => XS.iload X31.here hx rfl (hb hby at_164) rfl zk) ?_
        refine own_st (B := (T31.setTop (mkF m 168 #[.val (.long p1), .second, .val (.long p2), .second, .val (.int p3), .val (.int p5), .val (.int p6), .val (.int (1 : Int32)), .val (.long vd), .second, .val (.long cd), .second, .val (.ref b18), .val (.ref b21), .val (.ref f2), .val (.ref b29), .val (.int (64 : Int32)), .val (.int (64 : Int32))] [(.int (64 : Int32)), (.int (64 : Int32))]))) (fun _ zk => XS.iload X31.here hx rfl (hb hby at_166) rfl zk) ?_
        refine own_st (B := (T31.setTop (mkF m 171 #[.val (.long p1), .second, .val (.long p2), .second, .val (.int p3), .val (.int p5), .val (.int p6), .val (.int (1 : Int32)), .val (.long vd), .second, .val (.long cd), .second, .val (.ref b18), .val (.ref b21), .val (.ref f2), .val (.ref b29), .val (.int (64 : Int32)), .val (.int (64 : Int32))] []))) (fun _ zk => XS.icmpNo X31.here hx rfl (hb hby at_168) rfl (teq (by decide)).2 zk) ?_
        refine own_st (B := (T31.setTop (mkF m 172 #[.val (.long p1), .second, .val (.long p2), .second, .val (.int p3), .val (.int p5), .val (.int p6), .val (.int (1 : Int32)), .val (.long vd), .second, .val (.long cd), .second, .val (.ref b18), .val (.ref b21), .val (.ref f2), .val (.ref b29), .val (.int (64 : Int32)), .val (.int (64 : Int32))] [(.int (1 : Int32))]))) (fun _ zk => XS.iconst X31.here hx rfl (hb hby at_171) zk) ?_
        refine own_st (B := (T31.setTop (mkF m 176 #[.val (.long p1), .second, .val (.long p2), .second, .val (.int p3), .val (.int p5), .val (.int p6), .val (.int (1 : Int32)), .val (.long vd), .second, .val (.long cd), .second, .val (.ref b18), .val (.ref b21), .val (.ref f2), .val (.ref b29), .val (.int (64 : Int32)), .val (.int (64 : Int32))] [(.int (1 : Int32))]))) (fun _ zk => XS.goto X31.here hx rfl (pc0 := 172) (pc' := 176) rfl (hb hby at_172) (by decide) (by decide) zk) ?_
        exact own_wretN X31 hS (by rw [qe31]; exact (Nat.le_refl _)) hx hlk (t := .boolean) hret (by simp) (hb hby at_176) (by show own_Q0 n0 _ T31.heap _; rw [qe31]; exact ⟨rfl, by simpa using N30⟩) (by decide) (by decide)
      · have hfl : own_fl vd 1 = 192 := by
          unfold own_fl
          rw [if_neg hv]
          decide
        obtain ⟨v32, T32, L32, X32, Q32, st32⟩ := own_callV (W := 0) X30 hx hZ (y := (⟨"com/example/avocet/avocet/diameter/AvpDefinition", "flags", "()I"⟩ : MethodName)) (z := (⟨"com/example/avocet/avocet/diameter/AvpDefinition", "flags", "()I"⟩ : MethodName)) hown (hw _ (List.mem_of_getElem? (i := 64) rfl)) (hw _ (List.mem_of_getElem? (i := 65) rfl)) (notFace_of_selects (args := #[]) (mvT hZ (hw _ (List.mem_of_getElem? (i := 67) rfl)))) (hw _ (List.mem_of_getElem? (i := 67) rfl)) (hw _ (List.mem_of_getElem? (i := 66) rfl)) (hw _ (List.mem_of_getElem? (i := 36) rfl)) (hw _ (List.mem_of_getElem? (i := 68) rfl)) (by decide) rfl (rm_fl l Z a0 hw [] b29 vd 1 192 T30.heap FV30 FM30 hfl) EX30 (g := (mkF m 116 #[.val (.long p1), .second, .val (.long p2), .second, .val (.int p3), .val (.int p5), .val (.int p6), .val (.int (1 : Int32)), .val (.long vd), .second, .val (.long cd), .second, .val (.ref b18), .val (.ref b21), .val (.ref f2), .val (.ref b29), .unset, .unset] [(.ref b29)])) rfl (by rw [hml]; rfl) (argsL := []) (rest := []) (lenOf pd_4 rfl) rfl rfl (by show 2 * 0 + _ ≤ _; exact Nat.le_of_eq rfl) (hb hby at_116) (by decide) (by decide) (by decide) (by decide)
        obtain ⟨rfl, rfl, qe32⟩ := Q32
        refine own_st (B := (T32.setTop (mkF m 119 #[.val (.long p1), .second, .val (.long p2), .second, .val (.int p3), .val (.int p5), .val (.int p6), .val (.int (1 : Int32)), .val (.long vd), .second, .val (.long cd), .second, .val (.ref b18), .val (.ref b21), .val (.ref f2), .val (.ref b29), .unset, .unset] [(.int (192 : Int32))]))) st32 ?_
        refine own_st (B := (T32.setTop (mkF m 121 #[.val (.long p1), .second, .val (.long p2), .second, .val (.int p3), .val (.int p5), .val (.int p6), .val (.int (1 : Int32)), .val (.long vd), .second, .val (.long cd), .second, .val (.ref b18), .val (.ref b21), .val (.ref f2), .val (.ref b29), .val (.int (192 : Int32)), .unset] []))) (fun _ zk => XS.istore X32.here hx rfl (hb hby at_119) rfl (l' := #[.val (.long p1), .second, .val (.long p2), .second, .val (.int p3), .val (.int p5), .val (.int p6), .val (.int (1 : Int32)), .val (.long vd), .second, .val (.long cd), .second, .val (.ref b18), .val (.ref b21), .val (.ref f2), .val (.ref b29), .val (.int (192 : Int32)), .unset]) rfl zk) ?_
        refine own_st (B := (T32.setTop (mkF m 123 #[.val (.long p1), .second, .val (.long p2), .second, .val (.int p3), .val (.int p5), .val (.int p6), .val (.int (1 : Int32)), .val (.long vd), .second, .val (.long cd), .second, .val (.ref b18), .val (.ref b21), .val (.ref f2), .val (.ref b29), .val (.int (192 : Int32)), .unset] [(.long vd)]))) (fun _ zk => XS.lload X32.here hx rfl (hb hby at_121) rfl zk) ?_
        refine own_st (B := (T32.setTop (mkF m 124 #[.val (.long p1), .second, .val (.long p2), .second, .val (.int p3), .val (.int p5), .val (.int p6), .val (.int (1 : Int32)), .val (.long vd), .second, .val (.long cd), .second, .val (.ref b18), .val (.ref b21), .val (.ref f2), .val (.ref b29), .val (.int (192 : Int32)), .unset] [(.long (0 : Int64)), (.long vd)]))) (fun _ zk => XS.lconst X32.here hx rfl (hb hby at_123) zk) ?_
        refine own_st (B := (T32.setTop (mkF m 125 #[.val (.long p1), .second, .val (.long p2), .second, .val (.int p3), .val (.int p5), .val (.int p6), .val (.int (1 : Int32)), .val (.long vd), .second, .val (.long cd), .second, .val (.ref b18), .val (.ref b21), .val (.ref f2), .val (.ref b29), .val (.int (192 : Int32)), .unset] [(.int (lcmpW vd (0 : Int64)))]))) (fun _ zk => XS.lcmp X32.here hx rfl (hb hby at_124) rfl zk) ?_
        refine own_st (B := (T32.setTop (mkF m 146 #[.val (.long p1), .second, .val (.long p2), .second, .val (.int p3), .val (.int p5), .val (.int p6), .val (.int (1 : Int32)), .val (.long vd), .second, .val (.long cd), .second, .val (.ref b18), .val (.ref b21), .val (.ref f2), .val (.ref b29), .val (.int (192 : Int32)), .unset] []))) (fun _ zk => XS.ifYes X32.here hx rfl (pc0 := 125) (pc' := 146) rfl (hb hby at_125) rfl ((if0 _ _).trans (feq (mt (lw_eq vd (0 : Int64)).mp hv)).2) (by decide) (by decide) zk) ?_
        refine own_st (B := (T32.setTop (mkF m 148 #[.val (.long p1), .second, .val (.long p2), .second, .val (.int p3), .val (.int p5), .val (.int p6), .val (.int (1 : Int32)), .val (.long vd), .second, .val (.long cd), .second, .val (.ref b18), .val (.ref b21), .val (.ref f2), .val (.ref b29), .val (.int (192 : Int32)), .unset] [(.int (1 : Int32))]))) (fun _ zk => XS.iload X32.here hx rfl (hb hby at_146) rfl zk) ?_
        refine own_st (B := (T32.setTop (mkF m 151 #[.val (.long p1), .second, .val (.long p2), .second, .val (.int p3), .val (.int p5), .val (.int p6), .val (.int (1 : Int32)), .val (.long vd), .second, .val (.long cd), .second, .val (.ref b18), .val (.ref b21), .val (.ref f2), .val (.ref b29), .val (.int (192 : Int32)), .unset] []))) (fun _ zk => XS.ifNo X32.here hx rfl (hb hby at_148) rfl ((if0 _ _).trans (feq (by decide)).1) zk) ?_
        refine own_st (B := (T32.setTop (mkF m 154 #[.val (.long p1), .second, .val (.long p2), .second, .val (.int p3), .val (.int p5), .val (.int p6), .val (.int (1 : Int32)), .val (.long vd), .second, .val (.long cd), .second, .val (.ref b18), .val (.ref b21), .val (.ref f2), .val (.ref b29), .val (.int (192 : Int32)), .unset] [(.int (192 : Int32))]))) (fun _ zk => XS.sipush X32.here hx rfl (hb hby at_151) zk) ?_
        refine own_st (B := (T32.setTop (mkF m 156 #[.val (.long p1), .second, .val (.long p2), .second, .val (.int p3), .val (.int p5), .val (.int p6), .val (.int (1 : Int32)), .val (.long vd), .second, .val (.long cd), .second, .val (.ref b18), .val (.ref b21), .val (.ref f2), .val (.ref b29), .val (.int (192 : Int32)), .val (.int (192 : Int32))] []))) (fun _ zk => XS.istore X32.here hx rfl (hb hby at_154) rfl (l' := #[.val (.long p1), .second, .val (.long p2), .second, .val (.int p3), .val (.int p5), .val (.int p6), .val (.int (1 : Int32)), .val (.long vd), .second, .val (.long cd), .second, .val (.ref b18), .val (.ref b21), .val (.ref f2), .val (.ref b29), .val (.int (192 : Int32)), .val (.int (192 : Int32))]) rfl zk) ?_
        refine own_st (B := (T32.setTop (mkF m 164 #[.val (.long p1), .second, .val (.long p2), .second, .val (.int p3), .val (.int p5), .val (.int p6), .val (.int (1 : Int32)), .val (.long vd), .second, .val (.long cd), .second, .val (.ref b18), .val (.ref b21), .val (.ref f2), .val (.ref b29), .val (.int (192 : Int32)), .val (.int (192 : Int32))] []))) (fun _ zk => XS.goto X32.here hx rfl (pc0 := 156) (pc' := 164) rfl (hb hby at_156) (by decide) (by decide) zk) ?_
        refine own_st (B := (T32.setTop (mkF m 166 #[.val (.long p1), .second, .val (.long p2), .second, .val (.int p3), .val (.int p5), .val (.int p6), .val (.int (1 : Int32)), .val (.long vd), .second, .val (.long cd), .second, .val (.ref b18), .val (.ref b21), .val (.ref f2), .val (.ref b29), .val (.int (192 : Int32)), .val (.int (192 : Int32))] [(.int (192 : Int32))]))) (fun _ zk => XS.iload X32.here hx rfl (hb hby at_164) rfl zk) ?_
        refine own_st (B := (T32.setTop (mkF m 168 #[.val (.long p1), .second, .val (.long p2), .second, .val (.int p3), .val (.int p5), .val (.int p6), .val (.int (1 : Int32)), .val (.long vd), .second, .val (.long cd), .second, .val (.ref b18), .val (.ref b21), .val (.ref f2), .val (.ref b29), .val (.int (192 : Int32)), .val (.int (192 : Int32))] [(.int (192 : Int32)), (.int (192 : Int32))]))) (fun _ zk => XS.iload X32.here hx rfl (hb hby at_166) rfl zk) ?_
        refine own_st (B := (T32.setTop (mkF m 171 #[.val (.long p1), .second, .val (.long p2), .second, .val (.int p3), .val (.int p5), .val (.int p6), .val (.int (1 : Int32)), .val (.long vd), .second, .val (.long cd), .second, .val (.ref b18), .val (.ref b21), .val (.ref f2), .val (.ref b29), .val (.int (192 : Int32)), .val (.int (192 : Int32))] []))) (fun _ zk => XS.icmpNo X32.here hx rfl (hb hby at_168) rfl (teq (by decide)).2 zk) ?_
        refine own_st (B := (T32.setTop (mkF m 172 #[.val (.long p1), .second, .val (.long p2), .second, .val (.int p3), .val (.int p5), .val (.int p6), .val (.int (1 : Int32)), .val (.long vd), .second, .val (.long cd), .second, .val (.ref b18), .val (.ref b21), .val (.ref f2), .val (.ref b29), .val (.int (192 : Int32)), .val (.int (192 : Int32))] [(.int (1 : Int32))]))) (fun _ zk => XS.iconst X32.here hx rfl (hb hby at_171) zk) ?_
        refine own_st (B := (T32.setTop (mkF m 176 #[.val (.long p1), .second, .val (.long p2), .second, .val (.int p3), .val (.int p5), .val (.int p6), .val (.int (1 : Int32)), .val (.long vd), .second, .val (.long cd), .second, .val (.ref b18), .val (.ref b21), .val (.ref f2), .val (.ref b29), .val (.int (192 : Int32)), .val (.int (192 : Int32))] [(.int (1 : Int32))]))) (fun _ zk => XS.goto X32.here hx rfl (pc0 := 172) (pc' := 176) rfl (hb hby at_172) (by decide) (by decide) zk) ?_
        exact own_wretN X32 hS (by rw [qe32]; exact (Nat.le_refl _)) hx hlk (t := .boolean) hret (by simp) (hb hby at_176) (by show own_Q0 n0 _ T32.heap _; rw [qe32]; exact ⟨rfl, by simpa using N30⟩) (by decide) (by decide)
set_option maxRecDepth 65536 in
set_option maxHeartbeats 40000000 in
theorem comes_1 {Post : Tables → Env → Array Value → State → Outcome → State → Prop} (hpost : ∀ tb e args s v u, (limb_1_1.after args s (.returned v) u = true ∧ limb_1_2.after args s (.returned v) u = true ∧ True) → ReturnedEndW s (.returned v) u (Jvm.fieldLocs frame_1_writes args s ++ Jvm.arrayLocs frame_1_arrays args s ++ Jvm.staticLocs frame_1_statics s) 24 2176 → Post tb e args s (.returned v) u) :
    ArmFor flags0 classFile x code maxLocals ret World_1 tables_1 room_1 Calls_1 rest_1 Pre_1 Post := by
  intro l hfl _ _ p e ha hc hk s m args below hf hA hF happ hP
  obtain ⟨hcalls, hrest, hpre⟩ := hP
  obtain ⟨-, -, -, hnamed, -, -, -, hat⟩ := (Spec.applies_iff hf).mp happ
  obtain ⟨hg, hn⟩ := and_e (Cond.before_iff.mp (show (Jvm.Cond.and given_1 narrow_1).before args s = true from hpre))
  obtain ⟨g1, g2⟩ := and_e hg
  obtain ⟨g3, g4⟩ := and_e g2
  obtain ⟨g5, g6⟩ := and_e g4
  obtain ⟨g7, g8⟩ := and_e g6
  obtain ⟨g9, g10⟩ := and_e g8
  obtain ⟨w0, w1, w2, w3, w4, rfl⟩ : ∃ w0 w1 w2 w3 w4 : Value, args = #[w0, w1, w2, w3, w4] := by
    have hs : args.size = 5 := by simpa [Cond.value, given_1] using g1
    obtain ⟨L⟩ := args
    match L, hs with
    | [w0, w1, w2, w3, w4], _ => exact ⟨w0, w1, w2, w3, w4, rfl⟩
  have hw := fun d (hd : d ∈ tables_1) => atoms_spec (ws := Jvm.Cond.code x code maxLocals ret :: tables_1) hat d (List.mem_cons_of_mem _ hd)
  have hfit : Fit s := fun {y c} hc i hi => by
    obtain ⟨ha, rfl⟩ := Array.getElem?_eq_some_iff.mp hc
    have q := List.all_eq_true.mp ((Array.all_eq_true_iff_forall_mem.mp hF) _ (Array.getElem_mem ha)) i (List.mem_range.mpr hi)
    simpa [Array.getElem?_eq_getElem hi] using q
  obtain ⟨hsets, hown0⟩ := atoms_of _ (rest_1_c_eq ▸ (show rest_1_c.before _ s = true from hrest))
  have hr0 := Cond.before_iff.mp hown0
  obtain ⟨i0, ei0⟩ := isL_v g3
  obtain rfl : w0 = (.long i0) := Option.some.inj ei0
  obtain ⟨i1, ei1⟩ := isL_v g5
  obtain rfl : w1 = (.long i1) := Option.some.inj ei1
  obtain ⟨i2, ei2⟩ := is_v g7
  obtain rfl : w2 = (.int i2) := Option.some.inj ei2
  obtain ⟨i3, ei3⟩ := is_v g9
  obtain rfl : w3 = (.int i3) := Option.some.inj ei3
  obtain ⟨i4, ei4⟩ := is_v g10
  obtain rfl : w4 = (.int i4) := Option.some.inj ei4
  obtain ⟨cs, ecs⟩ := is_v (Cond.before_iff.mp (hsets _ (List.mem_of_getElem? (i := 1) rfl)))
  have SC : Sta s s.heap "java/lang/String" "COMPACT_STRINGS" "Z" (.int cs) := Sta.start ecs (Or.inl (hsets _ (List.mem_of_getElem? (i := 0) rfl)))
  have hcs : ¬ (cs = (0 : Int32)) := gotF (Cond.eq_ints ecs (Term.int_eval (0))) (not_v (Cond.before_iff.mp (hsets _ (List.mem_of_getElem? (i := 2) rfl))))
  obtain ⟨m1, m2⟩ := and_e hn
  obtain ⟨f1, _, _, _, evm1, -⟩ := Cond.exactly_spec (Cond.before_iff.mpr m1)
  have S_UNSIGNED32 : Sta s s.heap "com/example/avocet/avocet/diameter/AvpFormat" "UNSIGNED32" "Lcom/example/avocet/avocet/diameter/AvpFormat;" (.ref f1) := Sta.start evm1 (Or.inr ⟨(hw _ (List.mem_of_getElem? (i := 32) rfl)), (hw _ (List.mem_of_getElem? (i := 33) rfl))⟩)
  obtain ⟨f2, _, _, _, evm2, -⟩ := Cond.exactly_spec (Cond.before_iff.mpr m2)
  have S_GROUPED : Sta s s.heap "com/example/avocet/avocet/diameter/AvpFormat" "GROUPED" "Lcom/example/avocet/avocet/diameter/AvpFormat;" (.ref f2) := Sta.start evm2 (Or.inr ⟨(hw _ (List.mem_of_getElem? (i := 32) rfl)), (hw _ (List.mem_of_getElem? (i := 70) rfl))⟩)
  obtain ⟨n, o, h1, h2, h3, _, L, rfl, ⟨rfl, N⟩, hq⟩ := rm_law l s _ hw tables_1 i0 i1 i2 i3 i4 cs f1 f2 s.heap s.heap.size (Nat.le_refl _) SC hcs S_UNSIGNED32 S_GROUPED p e ha hc hk s m _ below hf ((Spec.applies_iff_loose hf).mp happ).1 ⟨rfl, State.Warmed39.refl s, rfl⟩ trivial
  refine ⟨n, _, h1, h2, h3, hpost _ _ _ _ _ _ ⟨Cond.after_iff.mpr rfl, Cond.after_iff.mpr (eq_i res_at (Term.int_eval (1)) rfl), trivial⟩ ⟨hq.1, hq.2.1, hq.2.2.1, (hq.2.2.2.sift fun y hy => Or.inr (N y hy)).mono (by decide) (by decide)⟩⟩
theorem main_1_1 : Claimed_1_1 := comes_1 fun _ _ _ _ _ _ h hF => ⟨h.1, hF⟩
theorem main_1_2 : Claimed_1_2 := comes_1 fun _ _ _ _ _ _ h hF => ⟨h.2.1, hF⟩
end Jvm.Pilot.@@N@@
namespace Jvm.Pilot.@@N@@
open Jvm Jvm.ClassFile Sem Op Lib Jvm.Free Jvm.Stand Jvm.Pilot.@@N@@.Jvm.D
/-! MADE BY PROGRAM (witnessworld.py) out of the Statement's table words and the real class files: 24 classes; the members and pool entries that the words name. The judged class is class 1, her method 1. -/
namespace start1
open Jvm.ClassFile
def u (s : String) : CpInfo := .utf8 (stringToUtf16 s)
/-- a pool by its gaps: so many unusable entries, then the entry; so many at the end -/
def gap : Nat → List CpInfo → List CpInfo
  | 0, r => r
  | n + 1, r => .unusable :: gap n r
def poolList (es : List (Nat × CpInfo)) (last : Nat) : List CpInfo := es.foldr (fun e r => gap e.1 (e.2 :: r)) (gap last [])
def pool (es : List (Nat × CpInfo)) (last : Nat) : Array CpInfo := ⟨poolList es last⟩
def fileOf (pool : Array CpInfo) (this : Nat) (attrs : Array Attribute := #[]) (ms : Array MethodInfo := #[]) (fl : Nat := 33) (sup : Nat := 0) (ifs : Array Nat := #[]) (fds : Array FieldInfo := #[]) : ClassFile where
  minorVersion := 0
  majorVersion := 65
  constantPool := pool
  accessFlags := fl
  thisClass := this
  superClass := sup
  interfaces := ifs
  fields := fds
  methods := ms
  attributes := attrs
def plain (name : String) (sup : Option ClassId) : Class where
  name := name
  kind := .ordinary
  loader := none
  accessFlags := 33
  super := sup
  interfaces := #[]
  cf := none
  fields := #[]
  methods := #[]
  instanceTypes := #[]
  staticTypes := #[]
  resolved := #[]
  callSites := []
  init := .initialized
  statics := none
  mirror := none

def pool0 : Array CpInfo := pool [(5, u "<init>"), (0, u "()V"), (1, .class_ 10), (1, u "java/lang/Object")] 113

def k0c0 : Code := { maxStack := 0, maxLocals := 1, code := object_method_1_code, exceptionTable := #[], attributes := #[] }
def k0m0 : Method := { name := "<init>", desc := "()V", sig := { parameters := [], returnType := none }, accessFlags := 1, code := some k0c0 }
/-- java/lang/Object -/
def k0 : Class := { plain "java/lang/Object" none with
  accessFlags := 33
  interfaces := #[]
  cf := some (fileOf pool0 8 #[] #[{ accessFlags := 1, nameIndex := 5, descriptorIndex := 6, attributes := #[] }] 33 0 #[] #[])
  fields := #[]
  methods := #[k0m0]
  instanceTypes := #[]
  staticTypes := #[]
  resolved := Array.replicate 124 none
  statics := none }

def pool1 : Array CpInfo := pool [(2, .class_ 4), (1, u "java/lang/Object"), (0, u "<init>"), (0, u "()V"), (0, .long 4294967295), (1, .class_ 10), (0, u "java/lang/String"), (0, .methodref 9 12), (0, .nameAndType 5 13), (0, u "([C)V"), (0, .fieldref 15 16), (0, .class_ 17), (0, .nameAndType 18 19), (0, u "com/example/avocet/avocet/diameter/AvpFormat"), (0, u "GROUPED"), (0, u "Lcom/example/avocet/avocet/diameter/AvpFormat;"), (0, .fieldref 15 21), (0, .nameAndType 22 19), (0, u "UNSIGNED32"), (0, .class_ 24), (0, u "com/example/avocet/avocet/diameter/AvpDefinition"), (0, .methodref 23 26), (0, .nameAndType 5 27), (0, u "(Ljava/lang/String;JJZLcom/example/avocet/avocet/diameter/AvpFormat;)V"), (0, .methodref 23 29), (0, .nameAndType 30 31), (0, u "flags"), (0, u "()I"), (0, .class_ 33), (0, u "com/example/avocet/avocet/diameter/AvpDefinitionFlagsPinLaw"), (2, u "law"), (0, u "(JJIII)Z")] 5

def k1m0 : Method := { name := "<init>", desc := "()V", sig := { parameters := [], returnType := none }, accessFlags := 2, code := none }
def k1c1 : Code := { maxStack := 9, maxLocals := 18, code := code, exceptionTable := #[], attributes := #[] }
def k1m1 : Method := { name := "law", desc := "(JJIII)Z", sig := { parameters := [.long, .long, .int, .int, .int], returnType := some .boolean }, accessFlags := 9, code := some k1c1 }
/-- com/example/avocet/avocet/diameter/AvpDefinitionFlagsPinLaw -/
def k1 : Class := { plain "com/example/avocet/avocet/diameter/AvpDefinitionFlagsPinLaw" (some 0) with
  accessFlags := 49
  interfaces := #[]
  cf := some (fileOf pool1 32 #[] #[{ accessFlags := 2, nameIndex := 5, descriptorIndex := 6, attributes := #[] }, { accessFlags := 9, nameIndex := 36, descriptorIndex := 37, attributes := #[] }] 49 2 #[] #[])
  fields := #[]
  methods := #[k1m0, k1m1]
  instanceTypes := #[]
  staticTypes := #[]
  resolved := Array.replicate 43 none
  statics := none }

def pool2 : Array CpInfo := pool [(1, .class_ 2), (0, u "java/io/Serializable"), (0, .class_ 4), (0, u "java/lang/Object")] 2

/-- java/io/Serializable -/
def k2 : Class := { plain "java/io/Serializable" (some 0) with
  accessFlags := 1537
  interfaces := #[]
  cf := some (fileOf pool2 1 #[] #[] 1537 3 #[] #[])
  fields := #[]
  methods := #[]
  instanceTypes := #[]
  staticTypes := #[]
  resolved := Array.replicate 7 none
  statics := none }

def pool3 : Array CpInfo := pool [(1, .class_ 2), (0, u "java/lang/Comparable"), (0, .class_ 4), (0, u "java/lang/Object")] 7

/-- java/lang/Comparable -/
def k3 : Class := { plain "java/lang/Comparable" (some 0) with
  accessFlags := 1537
  interfaces := #[]
  cf := some (fileOf pool3 1 #[] #[] 1537 3 #[] #[])
  fields := #[]
  methods := #[]
  instanceTypes := #[]
  staticTypes := #[]
  resolved := Array.replicate 12 none
  statics := none }

def pool4 : Array CpInfo := pool [(2, .class_ 4), (1, u "java/lang/CharSequence"), (42, .class_ 48), (0, u "java/lang/CharSequence$1CodePointIterator"), (10, .class_ 60), (0, u "java/lang/CharSequence$1CharIterator"), (5, .class_ 67), (0, u "java/lang/Object")] 63

/-- java/lang/CharSequence -/
def k4 : Class := { plain "java/lang/CharSequence" (some 0) with
  accessFlags := 1537
  interfaces := #[]
  cf := some (fileOf pool4 2 #[.nestMembers #[47, 59]] #[] 1537 66 #[] #[])
  fields := #[]
  methods := #[]
  instanceTypes := #[]
  staticTypes := #[]
  resolved := Array.replicate 131 none
  statics := none }

def pool5 : Array CpInfo := pool [(1, .class_ 2), (0, u "java/lang/constant/Constable"), (0, .class_ 4), (0, u "java/lang/Object")] 6

/-- java/lang/constant/Constable -/
def k5 : Class := { plain "java/lang/constant/Constable" (some 0) with
  accessFlags := 1537
  interfaces := #[]
  cf := some (fileOf pool5 1 #[] #[] 1537 3 #[] #[])
  fields := #[]
  methods := #[]
  instanceTypes := #[]
  staticTypes := #[]
  resolved := Array.replicate 11 none
  statics := none }

def pool6 : Array CpInfo := pool [(1, .class_ 2), (0, u "java/lang/constant/ConstantDesc"), (0, .class_ 4), (0, u "java/lang/Object")] 32

/-- java/lang/constant/ConstantDesc -/
def k6 : Class := { plain "java/lang/constant/ConstantDesc" (some 0) with
  accessFlags := 1537
  interfaces := #[]
  cf := some (fileOf pool6 1 #[] #[] 1537 3 #[] #[])
  fields := #[]
  methods := #[]
  instanceTypes := #[]
  staticTypes := #[]
  resolved := Array.replicate 37 none
  statics := none }

def pool7 : Array CpInfo := pool [(1, .methodref 2 3), (0, .class_ 4), (0, .nameAndType 5 6), (0, u "java/lang/Object"), (0, u "<init>"), (0, u "()V"), (2, .fieldref 10 11), (0, .class_ 12), (0, .nameAndType 13 14), (0, u "java/lang/String"), (0, u "value"), (0, u "[B"), (0, .fieldref 10 16), (0, .nameAndType 17 18), (0, u "coder"), (0, u "B"), (2, u "hash"), (0, u "I"), (2, u "hashIsZero"), (0, u "Z"), (0, .methodref 10 28), (0, .nameAndType 5 29), (0, u "([CIILjava/lang/Void;)V"), (8, .fieldref 10 39), (0, .nameAndType 40 26), (0, u "COMPACT_STRINGS"), (1, .class_ 44), (1, u "java/lang/StringUTF16"), (0, u "compress"), (1, .methodref 42 48), (0, .nameAndType 49 50), (0, u "coderFromArrayLen"), (0, u "([BI)B"), (126, .methodref 42 178), (0, .nameAndType 45 179), (0, u "([CII)[B"), (395, .class_ 576), (0, u "java/lang/CharSequence"), (22, u "CASE_INSENSITIVE_ORDER"), (0, u "Ljava/util/Comparator;"), (409, u "([C)V"), (90, u "serialPersistentFields"), (0, u "[Ljava/io/ObjectStreamField;"), (0, .class_ 1104), (0, u "java/lang/String$CaseInsensitiveComparator"), (1, .class_ 1107), (0, u "java/io/Serializable"), (0, .class_ 1109), (0, u "java/lang/Comparable"), (0, .class_ 1111), (0, u "java/lang/constant/Constable"), (0, .class_ 1113), (0, u "java/lang/constant/ConstantDesc"), (2, u "serialVersionUID"), (0, u "J"), (3, u "REPL"), (0, u "C"), (2, u "LATIN1"), (1, u "UTF16")] 323

def k7m0 : Method := { name := "<init>", desc := "()V", sig := { parameters := [], returnType := none }, accessFlags := 1, code := none }
def k7c1 : Code := { maxStack := 5, maxLocals := 2, code := jdk_42_method_3_code, exceptionTable := #[], attributes := #[] }
def k7m1 : Method := { name := "<init>", desc := "([C)V", sig := { parameters := [(.array .char)], returnType := none }, accessFlags := 1, code := some k7c1 }
def k7c2 : Code := { maxStack := 4, maxLocals := 6, code := jdk_42_method_149_code, exceptionTable := #[], attributes := #[] }
def k7m2 : Method := { name := "<init>", desc := "([CIILjava/lang/Void;)V", sig := { parameters := [(.array .char), .int, .int, (.object "java/lang/Void")], returnType := none }, accessFlags := 2, code := some k7c2 }
/-- java/lang/String -/
def k7 : Class := { plain "java/lang/String" (some 0) with
  accessFlags := 49
  interfaces := #[2, 3, 4, 5, 6]
  cf := some (fileOf pool7 10 #[.nestMembers #[1103]] #[{ accessFlags := 1, nameIndex := 5, descriptorIndex := 6, attributes := #[] }, { accessFlags := 1, nameIndex := 5, descriptorIndex := 1010, attributes := #[] }, { accessFlags := 2, nameIndex := 5, descriptorIndex := 29, attributes := #[] }] 49 2 #[1106, 1108, 575, 1110, 1112] #[{ accessFlags := 18, nameIndex := 13, descriptorIndex := 14, attributes := #[] }, { accessFlags := 18, nameIndex := 17, descriptorIndex := 18, attributes := #[] }, { accessFlags := 2, nameIndex := 21, descriptorIndex := 22, attributes := #[] }, { accessFlags := 2, nameIndex := 25, descriptorIndex := 26, attributes := #[] }, { accessFlags := 26, nameIndex := 1116, descriptorIndex := 1117, attributes := #[] }, { accessFlags := 24, nameIndex := 40, descriptorIndex := 26, attributes := #[] }, { accessFlags := 26, nameIndex := 1101, descriptorIndex := 1102, attributes := #[] }, { accessFlags := 26, nameIndex := 1121, descriptorIndex := 1122, attributes := #[] }, { accessFlags := 25, nameIndex := 599, descriptorIndex := 600, attributes := #[] }, { accessFlags := 24, nameIndex := 1125, descriptorIndex := 18, attributes := #[] }, { accessFlags := 24, nameIndex := 1127, descriptorIndex := 18, attributes := #[] }])
  fields := #[{ name := "value", type := (.array .byte), accessFlags := 18, slot := 0, constantValue := 0 }, { name := "coder", type := .byte, accessFlags := 18, slot := 1, constantValue := 0 }, { name := "hash", type := .int, accessFlags := 2, slot := 2, constantValue := 0 }, { name := "hashIsZero", type := .boolean, accessFlags := 2, slot := 3, constantValue := 0 }, { name := "serialVersionUID", type := .long, accessFlags := 26, slot := 0, constantValue := 0 }, { name := "COMPACT_STRINGS", type := .boolean, accessFlags := 24, slot := 1, constantValue := 0 }, { name := "serialPersistentFields", type := (.array (.object "java/io/ObjectStreamField")), accessFlags := 26, slot := 2, constantValue := 0 }, { name := "REPL", type := .char, accessFlags := 26, slot := 3, constantValue := 0 }, { name := "CASE_INSENSITIVE_ORDER", type := (.object "java/util/Comparator"), accessFlags := 25, slot := 4, constantValue := 0 }, { name := "LATIN1", type := .byte, accessFlags := 24, slot := 5, constantValue := 0 }, { name := "UTF16", type := .byte, accessFlags := 24, slot := 6, constantValue := 0 }]
  methods := #[k7m0, k7m1, k7m2]
  instanceTypes := #[(.array .byte), .byte, .int, .boolean]
  staticTypes := #[.long, .boolean, (.array (.object "java/io/ObjectStreamField")), .char, (.object "java/util/Comparator"), .byte, .byte]
  resolved := Array.replicate 1451 none
  statics := some 0 }

def pool8 : Array CpInfo := pool [(6, .class_ 8), (1, u "java/lang/Object"), (0, u "<init>"), (0, u "()V"), (1, .class_ 14), (1, u "java/lang/StringUTF16"), (31, u "$assertionsDisabled"), (0, u "Z"), (13, u "HI_BYTE_SHIFT"), (0, u "I"), (2, u "LO_BYTE_SHIFT"), (49, .methodref 12 116), (0, .nameAndType 117 118), (0, u "compress"), (0, u "([CI[BII)I"), (3, u "([CII)[B"), (138, u "coderFromArrayLen"), (0, u "([BI)B"), (106, .class_ 371), (1, u "java/lang/StringUTF16$LinesSpliterator"), (58, u "MAX_LENGTH"), (196, .class_ 628), (0, u "java/lang/StringUTF16$CodePointsSpliterator"), (0, .class_ 630), (0, u "java/lang/StringUTF16$CharsSpliterator")] 4

def k8m0 : Method := { name := "<init>", desc := "()V", sig := { parameters := [], returnType := none }, accessFlags := 0, code := none }
def k8c1 : Code := { maxStack := 2, maxLocals := 2, code := jdk_52_method_15_code, exceptionTable := #[], attributes := #[] }
def k8m1 : Method := { name := "coderFromArrayLen", desc := "([BI)B", sig := { parameters := [(.array .byte), .int], returnType := some .byte }, accessFlags := 8, code := some k8c1 }
def k8c2 : Code := { maxStack := 5, maxLocals := 6, code := jdk_52_method_16_code, exceptionTable := #[], attributes := #[] }
def k8m2 : Method := { name := "compress", desc := "([CII)[B", sig := { parameters := [(.array .char), .int, .int], returnType := some (.array .byte) }, accessFlags := 9, code := some k8c2 }
def k8c3 : Code := { maxStack := 3, maxLocals := 7, code := jdk_52_method_21_code, exceptionTable := #[], attributes := #[] }
def k8m3 : Method := { name := "compress", desc := "([CI[BII)I", sig := { parameters := [(.array .char), .int, (.array .byte), .int, .int], returnType := some .int }, accessFlags := 9, code := some k8c3 }
/-- java/lang/StringUTF16 -/
def k8 : Class := { plain "java/lang/StringUTF16" (some 0) with
  accessFlags := 48
  interfaces := #[]
  cf := some (fileOf pool8 12 #[.nestMembers #[627, 629, 369]] #[{ accessFlags := 0, nameIndex := 9, descriptorIndex := 10, attributes := #[] }, { accessFlags := 8, nameIndex := 261, descriptorIndex := 262, attributes := #[] }, { accessFlags := 9, nameIndex := 117, descriptorIndex := 122, attributes := #[] }, { accessFlags := 9, nameIndex := 117, descriptorIndex := 118, attributes := #[] }] 48 6 #[] #[{ accessFlags := 26, nameIndex := 61, descriptorIndex := 62, attributes := #[] }, { accessFlags := 26, nameIndex := 65, descriptorIndex := 62, attributes := #[] }, { accessFlags := 24, nameIndex := 430, descriptorIndex := 62, attributes := #[] }, { accessFlags := 4120, nameIndex := 46, descriptorIndex := 47, attributes := #[] }])
  fields := #[{ name := "HI_BYTE_SHIFT", type := .int, accessFlags := 26, slot := 0, constantValue := 0 }, { name := "LO_BYTE_SHIFT", type := .int, accessFlags := 26, slot := 1, constantValue := 0 }, { name := "MAX_LENGTH", type := .int, accessFlags := 24, slot := 2, constantValue := 0 }, { name := "$assertionsDisabled", type := .boolean, accessFlags := 4120, slot := 3, constantValue := 0 }]
  methods := #[k8m0, k8m1, k8m2, k8m3]
  instanceTypes := #[]
  staticTypes := #[.int, .int, .int, .boolean]
  resolved := Array.replicate 635 none
  statics := none }

def pool9 : Array CpInfo := pool [(2, .class_ 4), (1, u "java/lang/Enum"), (0, u "name"), (0, u "Ljava/lang/String;"), (2, u "ordinal"), (0, u "I"), (1, .class_ 14), (1, u "java/lang/Object"), (4, u "hash"), (86, .class_ 108), (1, u "java/lang/Enum$EnumDesc"), (2, .class_ 112), (0, u "java/lang/constant/Constable"), (0, .class_ 114), (0, u "java/lang/Comparable"), (0, .class_ 116), (0, u "java/io/Serializable")] 87

/-- java/lang/Enum -/
def k9 : Class := { plain "java/lang/Enum" (some 0) with
  accessFlags := 1057
  interfaces := #[5, 3, 2]
  cf := some (fileOf pool9 2 #[.nestMembers #[106]] #[] 1057 12 #[111, 113, 115] #[{ accessFlags := 18, nameIndex := 5, descriptorIndex := 6, attributes := #[] }, { accessFlags := 18, nameIndex := 9, descriptorIndex := 10, attributes := #[] }, { accessFlags := 2, nameIndex := 19, descriptorIndex := 10, attributes := #[] }])
  fields := #[{ name := "name", type := (.object "java/lang/String"), accessFlags := 18, slot := 0, constantValue := 0 }, { name := "ordinal", type := .int, accessFlags := 18, slot := 1, constantValue := 0 }, { name := "hash", type := .int, accessFlags := 2, slot := 2, constantValue := 0 }]
  methods := #[]
  instanceTypes := #[(.object "java/lang/String"), .int, .int]
  staticTypes := #[]
  resolved := Array.replicate 204 none
  statics := none }

def pool10 : Array CpInfo := pool [(1, .class_ 2), (0, u "com/example/avocet/avocet/diameter/AvpFormat"), (2, u "OCTET_STRING"), (0, u "Lcom/example/avocet/avocet/diameter/AvpFormat;"), (2, u "INTEGER32"), (2, u "INTEGER64"), (2, u "UNSIGNED32"), (2, u "UNSIGNED64"), (2, u "GROUPED"), (2, u "ADDRESS"), (2, u "TIME"), (2, u "UTF8_STRING"), (2, u "DIAMETER_IDENTITY"), (2, u "DIAMETER_URI"), (2, u "ENUMERATED"), (2, u "IP_FILTER_RULE"), (2, u "$VALUES"), (0, u "[Lcom/example/avocet/avocet/diameter/AvpFormat;"), (6, .class_ 55), (1, u "java/lang/Enum"), (8, u "minimumLength"), (0, u "I"), (2, u "fixedLength"), (0, u "Z")] 34

/-- com/example/avocet/avocet/diameter/AvpFormat -/
def k10 : Class := { plain "com/example/avocet/avocet/diameter/AvpFormat" (some 9) with
  accessFlags := 16433
  interfaces := #[]
  cf := some (fileOf pool10 1 #[] #[] 16433 53 #[] #[{ accessFlags := 16409, nameIndex := 5, descriptorIndex := 6, attributes := #[] }, { accessFlags := 16409, nameIndex := 9, descriptorIndex := 6, attributes := #[] }, { accessFlags := 16409, nameIndex := 12, descriptorIndex := 6, attributes := #[] }, { accessFlags := 16409, nameIndex := 15, descriptorIndex := 6, attributes := #[] }, { accessFlags := 16409, nameIndex := 18, descriptorIndex := 6, attributes := #[] }, { accessFlags := 16409, nameIndex := 21, descriptorIndex := 6, attributes := #[] }, { accessFlags := 16409, nameIndex := 24, descriptorIndex := 6, attributes := #[] }, { accessFlags := 16409, nameIndex := 27, descriptorIndex := 6, attributes := #[] }, { accessFlags := 16409, nameIndex := 30, descriptorIndex := 6, attributes := #[] }, { accessFlags := 16409, nameIndex := 33, descriptorIndex := 6, attributes := #[] }, { accessFlags := 16409, nameIndex := 36, descriptorIndex := 6, attributes := #[] }, { accessFlags := 16409, nameIndex := 39, descriptorIndex := 6, attributes := #[] }, { accessFlags := 16409, nameIndex := 42, descriptorIndex := 6, attributes := #[] }, { accessFlags := 18, nameIndex := 64, descriptorIndex := 65, attributes := #[] }, { accessFlags := 18, nameIndex := 68, descriptorIndex := 69, attributes := #[] }, { accessFlags := 4122, nameIndex := 45, descriptorIndex := 46, attributes := #[] }])
  fields := #[{ name := "OCTET_STRING", type := (.object "com/example/avocet/avocet/diameter/AvpFormat"), accessFlags := 16409, slot := 0, constantValue := 0 }, { name := "INTEGER32", type := (.object "com/example/avocet/avocet/diameter/AvpFormat"), accessFlags := 16409, slot := 1, constantValue := 0 }, { name := "INTEGER64", type := (.object "com/example/avocet/avocet/diameter/AvpFormat"), accessFlags := 16409, slot := 2, constantValue := 0 }, { name := "UNSIGNED32", type := (.object "com/example/avocet/avocet/diameter/AvpFormat"), accessFlags := 16409, slot := 3, constantValue := 0 }, { name := "UNSIGNED64", type := (.object "com/example/avocet/avocet/diameter/AvpFormat"), accessFlags := 16409, slot := 4, constantValue := 0 }, { name := "GROUPED", type := (.object "com/example/avocet/avocet/diameter/AvpFormat"), accessFlags := 16409, slot := 5, constantValue := 0 }, { name := "ADDRESS", type := (.object "com/example/avocet/avocet/diameter/AvpFormat"), accessFlags := 16409, slot := 6, constantValue := 0 }, { name := "TIME", type := (.object "com/example/avocet/avocet/diameter/AvpFormat"), accessFlags := 16409, slot := 7, constantValue := 0 }, { name := "UTF8_STRING", type := (.object "com/example/avocet/avocet/diameter/AvpFormat"), accessFlags := 16409, slot := 8, constantValue := 0 }, { name := "DIAMETER_IDENTITY", type := (.object "com/example/avocet/avocet/diameter/AvpFormat"), accessFlags := 16409, slot := 9, constantValue := 0 }, { name := "DIAMETER_URI", type := (.object "com/example/avocet/avocet/diameter/AvpFormat"), accessFlags := 16409, slot := 10, constantValue := 0 }, { name := "ENUMERATED", type := (.object "com/example/avocet/avocet/diameter/AvpFormat"), accessFlags := 16409, slot := 11, constantValue := 0 }, { name := "IP_FILTER_RULE", type := (.object "com/example/avocet/avocet/diameter/AvpFormat"), accessFlags := 16409, slot := 12, constantValue := 0 }, { name := "minimumLength", type := .int, accessFlags := 18, slot := 3, constantValue := 0 }, { name := "fixedLength", type := .boolean, accessFlags := 18, slot := 4, constantValue := 0 }, { name := "$VALUES", type := (.array (.object "com/example/avocet/avocet/diameter/AvpFormat")), accessFlags := 4122, slot := 13, constantValue := 0 }]
  methods := #[]
  instanceTypes := #[(.object "java/lang/String"), .int, .int, .int, .boolean]
  staticTypes := #[(.object "com/example/avocet/avocet/diameter/AvpFormat"), (.object "com/example/avocet/avocet/diameter/AvpFormat"), (.object "com/example/avocet/avocet/diameter/AvpFormat"), (.object "com/example/avocet/avocet/diameter/AvpFormat"), (.object "com/example/avocet/avocet/diameter/AvpFormat"), (.object "com/example/avocet/avocet/diameter/AvpFormat"), (.object "com/example/avocet/avocet/diameter/AvpFormat"), (.object "com/example/avocet/avocet/diameter/AvpFormat"), (.object "com/example/avocet/avocet/diameter/AvpFormat"), (.object "com/example/avocet/avocet/diameter/AvpFormat"), (.object "com/example/avocet/avocet/diameter/AvpFormat"), (.object "com/example/avocet/avocet/diameter/AvpFormat"), (.object "com/example/avocet/avocet/diameter/AvpFormat"), (.array (.object "com/example/avocet/avocet/diameter/AvpFormat"))]
  resolved := Array.replicate 104 none
  statics := some 1 }

def pool11 : Array CpInfo := pool [(1, .methodref 2 3), (0, .class_ 4), (0, .nameAndType 5 6), (0, u "java/lang/Object"), (0, u "<init>"), (0, u "()V"), (0, .string 8), (0, u "code"), (0, .methodref 10 11), (0, .class_ 12), (0, .nameAndType 13 14), (0, u "com/example/avocet/avocet/diameter/Avp"), (0, u "checkUnsigned32"), (0, u "(Ljava/lang/String;J)V"), (0, .string 16), (0, u "vendorId"), (0, .fieldref 18 19), (0, .class_ 20), (0, .nameAndType 21 22), (0, u "com/example/avocet/avocet/diameter/AvpDefinition"), (0, u "name"), (0, u "Ljava/lang/String;"), (0, .fieldref 18 24), (0, .nameAndType 8 25), (0, u "J"), (0, .fieldref 18 27), (0, .nameAndType 16 25), (0, .fieldref 18 29), (0, .nameAndType 30 31), (0, u "mandatory"), (0, u "Z"), (0, .fieldref 18 33), (0, .nameAndType 34 35), (0, u "format"), (0, u "Lcom/example/avocet/avocet/diameter/AvpFormat;"), (9, u "(Ljava/lang/String;JJZLcom/example/avocet/avocet/diameter/AvpFormat;)V"), (4, u "flags"), (0, u "()I")] 21

def k11c0 : Code := { maxStack := 3, maxLocals := 8, code := prog_69_method_1_code, exceptionTable := #[], attributes := #[] }
def k11m0 : Method := { name := "<init>", desc := "(Ljava/lang/String;JJZLcom/example/avocet/avocet/diameter/AvpFormat;)V", sig := { parameters := [(.object "java/lang/String"), .long, .long, .boolean, (.object "com/example/avocet/avocet/diameter/AvpFormat")], returnType := none }, accessFlags := 1, code := some k11c0 }
def k11c1 : Code := { maxStack := 4, maxLocals := 2, code := prog_69_method_6_code, exceptionTable := #[], attributes := #[] }
def k11m1 : Method := { name := "flags", desc := "()I", sig := { parameters := [], returnType := some .int }, accessFlags := 1, code := some k11c1 }
/-- com/example/avocet/avocet/diameter/AvpDefinition -/
def k11 : Class := { plain "com/example/avocet/avocet/diameter/AvpDefinition" (some 0) with
  accessFlags := 49
  interfaces := #[]
  cf := some (fileOf pool11 18 #[] #[{ accessFlags := 1, nameIndex := 5, descriptorIndex := 45, attributes := #[] }, { accessFlags := 1, nameIndex := 50, descriptorIndex := 51, attributes := #[] }] 49 2 #[] #[{ accessFlags := 18, nameIndex := 21, descriptorIndex := 22, attributes := #[] }, { accessFlags := 18, nameIndex := 8, descriptorIndex := 25, attributes := #[] }, { accessFlags := 18, nameIndex := 16, descriptorIndex := 25, attributes := #[] }, { accessFlags := 18, nameIndex := 30, descriptorIndex := 31, attributes := #[] }, { accessFlags := 18, nameIndex := 34, descriptorIndex := 35, attributes := #[] }])
  fields := #[{ name := "name", type := (.object "java/lang/String"), accessFlags := 18, slot := 0, constantValue := 0 }, { name := "code", type := .long, accessFlags := 18, slot := 1, constantValue := 0 }, { name := "vendorId", type := .long, accessFlags := 18, slot := 2, constantValue := 0 }, { name := "mandatory", type := .boolean, accessFlags := 18, slot := 3, constantValue := 0 }, { name := "format", type := (.object "com/example/avocet/avocet/diameter/AvpFormat"), accessFlags := 18, slot := 4, constantValue := 0 }]
  methods := #[k11m0, k11m1]
  instanceTypes := #[(.object "java/lang/String"), .long, .long, .boolean, (.object "com/example/avocet/avocet/diameter/AvpFormat")]
  staticTypes := #[]
  resolved := Array.replicate 73 none
  statics := none }

def pool12 : Array CpInfo := pool [(2, .class_ 4), (1, u "java/lang/Object"), (3, u "code"), (1, .class_ 12), (1, u "com/example/avocet/avocet/diameter/Avp"), (0, u "checkUnsigned32"), (0, u "(Ljava/lang/String;J)V"), (1, u "vendorId"), (1, u "flags"), (2, .methodref 22 23), (0, .class_ 24), (0, .nameAndType 25 26), (0, u "com/example/avocet/avocet/diameter/MessageHeader"), (0, u "checkRange"), (0, u "(Ljava/lang/String;JJ)V"), (15, u "J"), (2, u "I"), (5, u "[B"), (4, u "bytes"), (2, u "dataOffset"), (2, u "dataLength"), (272, .long 4294967295), (72, u "FLAG_VENDOR_SPECIFIC"), (2, u "FLAG_MANDATORY"), (1, u "HEADER_LENGTH"), (1, u "VENDOR_HEADER_LENGTH"), (1, u "MAX_LENGTH"), (0, u "MAX_UNSIGNED32"), (0, u "FAMILY_IPV4"), (0, u "S"), (1, u "FAMILY_IPV6"), (1, u "NTP_ERA_SECONDS"), (0, u "NTP_SECONDS_BEFORE_1970")] 82

def k12c0 : Code := { maxStack := 5, maxLocals := 3, code := prog_68_method_29_code, exceptionTable := #[], attributes := #[] }
def k12m0 : Method := { name := "checkUnsigned32", desc := "(Ljava/lang/String;J)V", sig := { parameters := [(.object "java/lang/String"), .long], returnType := none }, accessFlags := 8, code := some k12c0 }
/-- com/example/avocet/avocet/diameter/Avp -/
def k12 : Class := { plain "com/example/avocet/avocet/diameter/Avp" (some 0) with
  accessFlags := 49
  interfaces := #[]
  cf := some (fileOf pool12 10 #[] #[{ accessFlags := 8, nameIndex := 13, descriptorIndex := 14, attributes := #[] }] 49 2 #[] #[{ accessFlags := 25, nameIndex := 408, descriptorIndex := 45, attributes := #[] }, { accessFlags := 25, nameIndex := 411, descriptorIndex := 45, attributes := #[] }, { accessFlags := 26, nameIndex := 413, descriptorIndex := 45, attributes := #[] }, { accessFlags := 26, nameIndex := 415, descriptorIndex := 45, attributes := #[] }, { accessFlags := 26, nameIndex := 417, descriptorIndex := 45, attributes := #[] }, { accessFlags := 26, nameIndex := 418, descriptorIndex := 42, attributes := #[] }, { accessFlags := 26, nameIndex := 419, descriptorIndex := 420, attributes := #[] }, { accessFlags := 26, nameIndex := 422, descriptorIndex := 420, attributes := #[] }, { accessFlags := 26, nameIndex := 424, descriptorIndex := 42, attributes := #[] }, { accessFlags := 26, nameIndex := 425, descriptorIndex := 42, attributes := #[] }, { accessFlags := 18, nameIndex := 8, descriptorIndex := 42, attributes := #[] }, { accessFlags := 18, nameIndex := 18, descriptorIndex := 45, attributes := #[] }, { accessFlags := 18, nameIndex := 16, descriptorIndex := 42, attributes := #[] }, { accessFlags := 18, nameIndex := 56, descriptorIndex := 51, attributes := #[] }, { accessFlags := 18, nameIndex := 59, descriptorIndex := 45, attributes := #[] }, { accessFlags := 18, nameIndex := 62, descriptorIndex := 45, attributes := #[] }])
  fields := #[{ name := "FLAG_VENDOR_SPECIFIC", type := .int, accessFlags := 25, slot := 0, constantValue := 0 }, { name := "FLAG_MANDATORY", type := .int, accessFlags := 25, slot := 1, constantValue := 0 }, { name := "HEADER_LENGTH", type := .int, accessFlags := 26, slot := 2, constantValue := 0 }, { name := "VENDOR_HEADER_LENGTH", type := .int, accessFlags := 26, slot := 3, constantValue := 0 }, { name := "MAX_LENGTH", type := .int, accessFlags := 26, slot := 4, constantValue := 0 }, { name := "MAX_UNSIGNED32", type := .long, accessFlags := 26, slot := 5, constantValue := 0 }, { name := "FAMILY_IPV4", type := .short, accessFlags := 26, slot := 6, constantValue := 0 }, { name := "FAMILY_IPV6", type := .short, accessFlags := 26, slot := 7, constantValue := 0 }, { name := "NTP_ERA_SECONDS", type := .long, accessFlags := 26, slot := 8, constantValue := 0 }, { name := "NTP_SECONDS_BEFORE_1970", type := .long, accessFlags := 26, slot := 9, constantValue := 0 }, { name := "code", type := .long, accessFlags := 18, slot := 0, constantValue := 0 }, { name := "flags", type := .int, accessFlags := 18, slot := 1, constantValue := 0 }, { name := "vendorId", type := .long, accessFlags := 18, slot := 2, constantValue := 0 }, { name := "bytes", type := (.array .byte), accessFlags := 18, slot := 3, constantValue := 0 }, { name := "dataOffset", type := .int, accessFlags := 18, slot := 4, constantValue := 0 }, { name := "dataLength", type := .int, accessFlags := 18, slot := 5, constantValue := 0 }]
  methods := #[k12m0]
  instanceTypes := #[.long, .int, .long, (.array .byte), .int, .int]
  staticTypes := #[.int, .int, .int, .int, .int, .long, .short, .short, .long, .long]
  resolved := Array.replicate 508 none
  statics := none }

def pool13 : Array CpInfo := pool [(2, .class_ 4), (1, u "java/lang/Object"), (3, u "version"), (3, .class_ 14), (1, u "com/example/avocet/avocet/diameter/MessageHeader"), (0, u "checkRange"), (0, u "(Ljava/lang/String;JJ)V"), (1, u "messageLength"), (3, u "flags"), (1, u "commandCode"), (1, u "applicationId"), (4, u "I"), (8, u "J"), (2, u "hopByHopIdentifier"), (2, u "endToEndIdentifier"), (68, u "LENGTH"), (2, u "VERSION"), (1, u "MAX_MESSAGE_LENGTH"), (0, u "MAX_COMMAND_CODE"), (0, u "FLAG_REQUEST"), (1, u "FLAG_PROXIABLE"), (1, u "FLAG_ERROR"), (1, u "FLAG_POTENTIALLY_RETRANSMITTED"), (1, u "MAX_APPLICATION_ID")] 34

def k13c0 : Code := { maxStack := 7, maxLocals := 5, code := prog_81_method_18_code, exceptionTable := #[], attributes := #[] }
def k13m0 : Method := { name := "checkRange", desc := "(Ljava/lang/String;JJ)V", sig := { parameters := [(.object "java/lang/String"), .long, .long], returnType := none }, accessFlags := 8, code := some k13c0 }
/-- com/example/avocet/avocet/diameter/MessageHeader -/
def k13 : Class := { plain "com/example/avocet/avocet/diameter/MessageHeader" (some 0) with
  accessFlags := 49
  interfaces := #[]
  cf := some (fileOf pool13 12 #[] #[{ accessFlags := 8, nameIndex := 15, descriptorIndex := 16, attributes := #[] }] 49 2 #[] #[{ accessFlags := 25, nameIndex := 115, descriptorIndex := 31, attributes := #[] }, { accessFlags := 25, nameIndex := 118, descriptorIndex := 31, attributes := #[] }, { accessFlags := 25, nameIndex := 120, descriptorIndex := 31, attributes := #[] }, { accessFlags := 25, nameIndex := 121, descriptorIndex := 31, attributes := #[] }, { accessFlags := 25, nameIndex := 122, descriptorIndex := 31, attributes := #[] }, { accessFlags := 25, nameIndex := 124, descriptorIndex := 31, attributes := #[] }, { accessFlags := 25, nameIndex := 126, descriptorIndex := 31, attributes := #[] }, { accessFlags := 25, nameIndex := 128, descriptorIndex := 31, attributes := #[] }, { accessFlags := 26, nameIndex := 130, descriptorIndex := 40, attributes := #[] }, { accessFlags := 18, nameIndex := 8, descriptorIndex := 31, attributes := #[] }, { accessFlags := 18, nameIndex := 18, descriptorIndex := 31, attributes := #[] }, { accessFlags := 18, nameIndex := 22, descriptorIndex := 31, attributes := #[] }, { accessFlags := 18, nameIndex := 24, descriptorIndex := 31, attributes := #[] }, { accessFlags := 18, nameIndex := 26, descriptorIndex := 40, attributes := #[] }, { accessFlags := 18, nameIndex := 43, descriptorIndex := 31, attributes := #[] }, { accessFlags := 18, nameIndex := 46, descriptorIndex := 31, attributes := #[] }])
  fields := #[{ name := "LENGTH", type := .int, accessFlags := 25, slot := 0, constantValue := 0 }, { name := "VERSION", type := .int, accessFlags := 25, slot := 1, constantValue := 0 }, { name := "MAX_MESSAGE_LENGTH", type := .int, accessFlags := 25, slot := 2, constantValue := 0 }, { name := "MAX_COMMAND_CODE", type := .int, accessFlags := 25, slot := 3, constantValue := 0 }, { name := "FLAG_REQUEST", type := .int, accessFlags := 25, slot := 4, constantValue := 0 }, { name := "FLAG_PROXIABLE", type := .int, accessFlags := 25, slot := 5, constantValue := 0 }, { name := "FLAG_ERROR", type := .int, accessFlags := 25, slot := 6, constantValue := 0 }, { name := "FLAG_POTENTIALLY_RETRANSMITTED", type := .int, accessFlags := 25, slot := 7, constantValue := 0 }, { name := "MAX_APPLICATION_ID", type := .long, accessFlags := 26, slot := 8, constantValue := 0 }, { name := "version", type := .int, accessFlags := 18, slot := 0, constantValue := 0 }, { name := "messageLength", type := .int, accessFlags := 18, slot := 1, constantValue := 0 }, { name := "flags", type := .int, accessFlags := 18, slot := 2, constantValue := 0 }, { name := "commandCode", type := .int, accessFlags := 18, slot := 3, constantValue := 0 }, { name := "applicationId", type := .long, accessFlags := 18, slot := 4, constantValue := 0 }, { name := "hopByHopIdentifier", type := .int, accessFlags := 18, slot := 5, constantValue := 0 }, { name := "endToEndIdentifier", type := .int, accessFlags := 18, slot := 6, constantValue := 0 }]
  methods := #[k13m0]
  instanceTypes := #[.int, .int, .int, .int, .long, .int, .int]
  staticTypes := #[.int, .int, .int, .int, .int, .int, .int, .int, .long]
  resolved := Array.replicate 165 none
  statics := none }

def pool14 : Array CpInfo := pool [(4, .class_ 6), (1, u "java/lang/Object"), (0, u "<init>"), (0, u "()V"), (5, .class_ 16), (1, u "java/lang/StringLatin1"), (104, u "$assertionsDisabled"), (0, u "Z"), (98, .class_ 223), (1, u "java/lang/StringLatin1$LinesSpliterator"), (166, .class_ 391), (0, u "java/lang/StringLatin1$CharsSpliterator")] 3

def k14m0 : Method := { name := "<init>", desc := "()V", sig := { parameters := [], returnType := none }, accessFlags := 0, code := none }
/-- java/lang/StringLatin1 -/
def k14 : Class := { plain "java/lang/StringLatin1" (some 0) with
  accessFlags := 48
  interfaces := #[]
  cf := some (fileOf pool14 14 #[.nestMembers #[390, 221]] #[{ accessFlags := 0, nameIndex := 7, descriptorIndex := 8, attributes := #[] }] 48 4 #[] #[{ accessFlags := 4120, nameIndex := 121, descriptorIndex := 122, attributes := #[] }])
  fields := #[{ name := "$assertionsDisabled", type := .boolean, accessFlags := 4120, slot := 0, constantValue := 0 }]
  methods := #[k14m0]
  instanceTypes := #[]
  staticTypes := #[.boolean]
  resolved := Array.replicate 395 none
  statics := none }

def pool15 : Array CpInfo := pool [(2, .class_ 4), (1, u "java/lang/Object"), (0, u "<init>"), (0, u "()V"), (17, .class_ 26), (1, u "jdk/internal/util/Preconditions"), (28, .class_ 56), (0, u "jdk/internal/util/Preconditions$4"), (57, .class_ 115), (0, u "jdk/internal/util/Preconditions$1"), (7, u "SIOOBE_FORMATTER"), (0, u "Ljava/util/function/BiFunction;"), (0, .class_ 126), (0, u "jdk/internal/util/Preconditions$2"), (3, u "AIOOBE_FORMATTER"), (0, .class_ 132), (0, u "jdk/internal/util/Preconditions$3"), (3, u "IOOBE_FORMATTER")] 57

def k15m0 : Method := { name := "<init>", desc := "()V", sig := { parameters := [], returnType := none }, accessFlags := 1, code := none }
/-- jdk/internal/util/Preconditions -/
def k15 : Class := { plain "jdk/internal/util/Preconditions" (some 0) with
  accessFlags := 33
  interfaces := #[]
  cf := some (fileOf pool15 24 #[.nestMembers #[55, 131, 125, 114]] #[{ accessFlags := 1, nameIndex := 5, descriptorIndex := 6, attributes := #[] }] 33 2 #[] #[{ accessFlags := 25, nameIndex := 123, descriptorIndex := 124, attributes := #[] }, { accessFlags := 25, nameIndex := 130, descriptorIndex := 124, attributes := #[] }, { accessFlags := 25, nameIndex := 136, descriptorIndex := 124, attributes := #[] }])
  fields := #[{ name := "SIOOBE_FORMATTER", type := (.object "java/util/function/BiFunction"), accessFlags := 25, slot := 0, constantValue := 0 }, { name := "AIOOBE_FORMATTER", type := (.object "java/util/function/BiFunction"), accessFlags := 25, slot := 1, constantValue := 0 }, { name := "IOOBE_FORMATTER", type := (.object "java/util/function/BiFunction"), accessFlags := 25, slot := 2, constantValue := 0 }]
  methods := #[k15m0]
  instanceTypes := #[]
  staticTypes := #[(.object "java/util/function/BiFunction"), (.object "java/util/function/BiFunction"), (.object "java/util/function/BiFunction")]
  resolved := Array.replicate 194 none
  statics := some 2 }

def pool16 : Array CpInfo := pool [(9, u "<init>"), (6, .class_ 18), (1, u "java/lang/Object"), (0, u "()V"), (1, .class_ 23), (1, u "jdk/internal/util/ArraysSupport"), (0, u "LOG2_ARRAY_LONG_INDEX_SCALE"), (0, u "I"), (2, u "U"), (0, u "Ljdk/internal/misc/Unsafe;"), (8, u "BIG_ENDIAN"), (0, u "Z"), (8, u "LOG2_BYTE_BIT_SIZE"), (4, u "LOG2_ARRAY_INT_INDEX_SCALE"), (54, u "JLA"), (0, u "Ljdk/internal/access/JavaLangAccess;"), (11, u "LOG2_ARRAY_BOOLEAN_INDEX_SCALE"), (9, u "LOG2_ARRAY_BYTE_INDEX_SCALE"), (5, u "LOG2_ARRAY_CHAR_INDEX_SCALE"), (5, u "LOG2_ARRAY_SHORT_INDEX_SCALE"), (18, u "LOG2_ARRAY_FLOAT_INDEX_SCALE"), (24, u "LOG2_ARRAY_DOUBLE_INDEX_SCALE"), (89, u "T_BOOLEAN"), (2, u "T_CHAR"), (1, u "T_FLOAT"), (1, u "T_DOUBLE"), (1, u "T_BYTE"), (1, u "T_SHORT"), (1, u "T_INT"), (1, u "T_LONG"), (1, u "SOFT_MAX_ARRAY_LENGTH")] 83

def k16m0 : Method := { name := "<init>", desc := "()V", sig := { parameters := [], returnType := none }, accessFlags := 2, code := none }
/-- jdk/internal/util/ArraysSupport -/
def k16 : Class := { plain "jdk/internal/util/ArraysSupport" (some 0) with
  accessFlags := 33
  interfaces := #[]
  cf := some (fileOf pool16 21 #[] #[{ accessFlags := 2, nameIndex := 9, descriptorIndex := 19, attributes := #[] }] 33 16 #[] #[{ accessFlags := 24, nameIndex := 28, descriptorIndex := 29, attributes := #[] }, { accessFlags := 26, nameIndex := 38, descriptorIndex := 39, attributes := #[] }, { accessFlags := 25, nameIndex := 121, descriptorIndex := 25, attributes := #[] }, { accessFlags := 25, nameIndex := 131, descriptorIndex := 25, attributes := #[] }, { accessFlags := 25, nameIndex := 137, descriptorIndex := 25, attributes := #[] }, { accessFlags := 25, nameIndex := 143, descriptorIndex := 25, attributes := #[] }, { accessFlags := 25, nameIndex := 53, descriptorIndex := 25, attributes := #[] }, { accessFlags := 25, nameIndex := 24, descriptorIndex := 25, attributes := #[] }, { accessFlags := 25, nameIndex := 162, descriptorIndex := 25, attributes := #[] }, { accessFlags := 25, nameIndex := 187, descriptorIndex := 25, attributes := #[] }, { accessFlags := 26, nameIndex := 48, descriptorIndex := 25, attributes := #[] }, { accessFlags := 25, nameIndex := 277, descriptorIndex := 25, attributes := #[] }, { accessFlags := 25, nameIndex := 280, descriptorIndex := 25, attributes := #[] }, { accessFlags := 25, nameIndex := 282, descriptorIndex := 25, attributes := #[] }, { accessFlags := 25, nameIndex := 284, descriptorIndex := 25, attributes := #[] }, { accessFlags := 25, nameIndex := 286, descriptorIndex := 25, attributes := #[] }, { accessFlags := 25, nameIndex := 288, descriptorIndex := 25, attributes := #[] }, { accessFlags := 25, nameIndex := 290, descriptorIndex := 25, attributes := #[] }, { accessFlags := 25, nameIndex := 292, descriptorIndex := 25, attributes := #[] }, { accessFlags := 26, nameIndex := 108, descriptorIndex := 109, attributes := #[] }, { accessFlags := 25, nameIndex := 294, descriptorIndex := 25, attributes := #[] }])
  fields := #[{ name := "U", type := (.object "jdk/internal/misc/Unsafe"), accessFlags := 24, slot := 0, constantValue := 0 }, { name := "BIG_ENDIAN", type := .boolean, accessFlags := 26, slot := 1, constantValue := 0 }, { name := "LOG2_ARRAY_BOOLEAN_INDEX_SCALE", type := .int, accessFlags := 25, slot := 2, constantValue := 0 }, { name := "LOG2_ARRAY_BYTE_INDEX_SCALE", type := .int, accessFlags := 25, slot := 3, constantValue := 0 }, { name := "LOG2_ARRAY_CHAR_INDEX_SCALE", type := .int, accessFlags := 25, slot := 4, constantValue := 0 }, { name := "LOG2_ARRAY_SHORT_INDEX_SCALE", type := .int, accessFlags := 25, slot := 5, constantValue := 0 }, { name := "LOG2_ARRAY_INT_INDEX_SCALE", type := .int, accessFlags := 25, slot := 6, constantValue := 0 }, { name := "LOG2_ARRAY_LONG_INDEX_SCALE", type := .int, accessFlags := 25, slot := 7, constantValue := 0 }, { name := "LOG2_ARRAY_FLOAT_INDEX_SCALE", type := .int, accessFlags := 25, slot := 8, constantValue := 0 }, { name := "LOG2_ARRAY_DOUBLE_INDEX_SCALE", type := .int, accessFlags := 25, slot := 9, constantValue := 0 }, { name := "LOG2_BYTE_BIT_SIZE", type := .int, accessFlags := 26, slot := 10, constantValue := 0 }, { name := "T_BOOLEAN", type := .int, accessFlags := 25, slot := 11, constantValue := 0 }, { name := "T_CHAR", type := .int, accessFlags := 25, slot := 12, constantValue := 0 }, { name := "T_FLOAT", type := .int, accessFlags := 25, slot := 13, constantValue := 0 }, { name := "T_DOUBLE", type := .int, accessFlags := 25, slot := 14, constantValue := 0 }, { name := "T_BYTE", type := .int, accessFlags := 25, slot := 15, constantValue := 0 }, { name := "T_SHORT", type := .int, accessFlags := 25, slot := 16, constantValue := 0 }, { name := "T_INT", type := .int, accessFlags := 25, slot := 17, constantValue := 0 }, { name := "T_LONG", type := .int, accessFlags := 25, slot := 18, constantValue := 0 }, { name := "JLA", type := (.object "jdk/internal/access/JavaLangAccess"), accessFlags := 26, slot := 19, constantValue := 0 }, { name := "SOFT_MAX_ARRAY_LENGTH", type := .int, accessFlags := 25, slot := 20, constantValue := 0 }]
  methods := #[k16m0]
  instanceTypes := #[]
  staticTypes := #[(.object "jdk/internal/misc/Unsafe"), .boolean, .int, .int, .int, .int, .int, .int, .int, .int, .int, .int, .int, .int, .int, .int, .int, .int, .int, (.object "jdk/internal/access/JavaLangAccess"), .int]
  resolved := Array.replicate 378 none
  statics := none }

def pool17 : Array CpInfo := pool [(1, u "java/lang/Cloneable"), (0, .class_ 1), (0, u "java/lang/Object"), (0, .class_ 3)] 3

/-- java/lang/Cloneable -/
def k17 : Class := { plain "java/lang/Cloneable" (some 0) with
  accessFlags := 1537
  interfaces := #[]
  cf := some (fileOf pool17 2 #[] #[] 1537 4 #[] #[])
  fields := #[]
  methods := #[]
  instanceTypes := #[]
  staticTypes := #[]
  resolved := Array.replicate 8 none
  statics := none }

/-- the primitive byte -/
def k18 : Class := { plain "byte" none with kind := .primitive 'B', accessFlags := 0x411 }
/-- [B -/
def k19 : Class := { plain "[B" (some 0) with kind := .array 18 .byte, interfaces := #[17, 2], accessFlags := 1041 }

/-- the primitive char -/
def k20 : Class := { plain "char" none with kind := .primitive 'C', accessFlags := 0x411 }
/-- [C -/
def k21 : Class := { plain "[C" (some 0) with kind := .array 20 .char, interfaces := #[17, 2], accessFlags := 1041 }

/-- the primitive int -/
def k22 : Class := { plain "int" none with kind := .primitive 'I', accessFlags := 0x411 }
/-- [I -/
def k23 : Class := { plain "[I" (some 0) with kind := .array 22 .int, interfaces := #[17, 2], accessFlags := 1041 }

def heap : Heap := #[{ cls := 7, slots := #[.long 0, .int 1, .null, .int 0, .null, .int 0, .int 0], vm := .statics 7 },
  { cls := 10, slots := #[.null, .null, .null, .ref 3, .null, .ref 4, .null, .null, .null, .null, .null, .null, .null, .null], vm := .statics 10 },
  { cls := 15, slots := #[.null, .null, .null], vm := .statics 15 },
  { cls := 10, slots := #[.null, .int 0, .int 0, .int 0, .int 0], vm := .none },
  { cls := 10, slots := #[.null, .int 1, .int 0, .int 0, .int 0], vm := .none }]
def classes : Array Class := #[k0, k1, k2, k3, k4, k5, k6, k7, k8, k9, k10, k11, k12, k13, k14, k15, k16, k17, k18, k19, k20, k21, k22, k23]
def interned : List (Array UInt16 × Addr) := []
def slotsUsed : Nat := 34
def theMethod : MethodId := ⟨1, 1⟩
def args0 : Array Value := #[.long 5, .long 9, .int 1, .int 65, .int 66]
def aboutOver (below : List Frame) : State where
  vm := { classes := classes, interned := interned.toArray }
  heap := heap
  slotsUsed := slotsUsed
  threads := #[{ frames := .invoking theMethod args0 :: below }]
def below0 : List Frame := [.native { method := ⟨0, 0⟩, args := #[] }]
def about1 : State := aboutOver below0
def p0 : Program := .bare "" "" ""
def e0 : Env := launch0.env 0 0 0
theorem w_frames : about1.frames = Frame.invoking theMethod args0 :: below0 := rfl
set_option maxRecDepth 65536 in
theorem w_args : argsFit about1.vm theMethod args0 = true := by decide +kernel
set_option maxRecDepth 65536 in
theorem w_heap : heapFits about1 = true := by decide +kernel
set_option maxRecDepth 65536 in
theorem w_runnable : about1.curStatus? = some .runnable := by decide +kernel
set_option maxRecDepth 65536 in
theorem w_alone : about1.alone = true := by decide +kernel
set_option maxRecDepth 65536 in
theorem w_named : about1.methodNamed? x = some theMethod := by decide +kernel
set_option maxRecDepth 65536 in
theorem w_hears : about1.hears theMethod below0 = true := by decide +kernel
set_option maxRecDepth 65536 in
theorem w_ripe : about1.ripe theMethod args0 below0 = true := by decide +kernel
theorem w_running : about1.status = .running := rfl
set_option maxRecDepth 65536 in
theorem w_room : about1.hasRoom e0.platform room_1 = true :=
  launch0.hasRoom_least _ room_1 (by decide +kernel) (by decide +kernel) (by decide +kernel) (by decide +kernel) (by decide +kernel) (by decide +kernel)
theorem allAtoms_all (ts : List Jvm.Cond) (a : Array Jvm.Value) (st : Jvm.State) : (allAtoms ts).before a st = ts.all (fun c => c.before a st) := by
  induction ts with
  | nil => rfl
  | cons c t ih =>
    show (Jvm.Cond.and c (allAtoms t)).before a st = _
    rw [Jvm.Cond.before_and, ih, List.all_cons]
def words1 : List Jvm.Cond := Jvm.Cond.code x code maxLocals ret :: tables_1
/-- a 'code' word, met by the world's own term for the bytes: nothing is compared byte by byte -/
theorem code_word {y : MethodName} {bytes : ByteArray} {mx : Nat} {rt : Option FieldType} {a : Array Value} {s : State} {m : MethodId} {meth : Method} {c : Code} (h1 : s.methodNamed? y = some m) (h2 : s.vm.method? m = some meth) (h3 : meth.code = some c) (h4 : c.code = bytes)
    (h5 : (c.maxLocals == mx && c.exceptionTable.isEmpty && decide (c.maxStack ≤ mostOperands) && decide (meth.sig.returnType = rt) && !meth.locks && decide (parseMethodDescriptor y.desc = some meth.sig)) = true) : (Jvm.Cond.code y bytes mx rt).before a s = true := by
  simp only [Bool.and_eq_true, beq_iff_eq, Bool.not_eq_true', decide_eq_true_eq] at h5
  obtain ⟨⟨⟨⟨⟨g1, g2⟩, g3⟩, g4⟩, g5⟩, g6⟩ := h5
  simp [Cond.before, Cond.holds, Cond.value, h1, h2, h3, h4, g1, g2, g3, g4, g5, g6]
def isCode : Jvm.Cond → Bool
  | .code _ _ _ _ => true
  | _ => false
theorem all_split {L : List Jvm.Cond} {P : Jvm.Cond → Bool} (h1 : L.all (fun c => isCode c || P c) = true) (h2 : ∀ c ∈ L.filter isCode, P c = true) : L.all P = true := by
  refine List.all_eq_true.mpr fun c hc => ?_
  have h := List.all_eq_true.mp h1 c hc
  rcases Bool.eq_false_or_eq_true (isCode c) with hi | hi
  · exact h2 c (List.mem_filter.mpr ⟨hc, hi⟩)
  · simpa [hi] using h
set_option maxRecDepth 65536 in
theorem w_c0 : (Jvm.Cond.code x code maxLocals ret).before args0 about1 = true := code_word (m := ⟨1, 1⟩) (meth := k1m1) (c := k1c1) (by decide +kernel) rfl rfl rfl (by decide +kernel)
set_option maxRecDepth 65536 in
theorem w_c1 : (Jvm.Cond.code ({ cls := "java/lang/String", name := "<init>", desc := "([C)V" } : Jvm.MethodName) jdk_42_method_3_code (2 : Nat) (Option.none : Option Jvm.ClassFile.FieldType)).before args0 about1 = true := code_word (m := ⟨7, 1⟩) (meth := k7m1) (c := k7c1) (by decide +kernel) rfl rfl rfl (by decide +kernel)
set_option maxRecDepth 65536 in
theorem w_c2 : (Jvm.Cond.code ({ cls := "java/lang/String", name := "<init>", desc := "([CIILjava/lang/Void;)V" } : Jvm.MethodName) jdk_42_method_149_code (6 : Nat) (Option.none : Option Jvm.ClassFile.FieldType)).before args0 about1 = true := code_word (m := ⟨7, 2⟩) (meth := k7m2) (c := k7c2) (by decide +kernel) rfl rfl rfl (by decide +kernel)
set_option maxRecDepth 65536 in
theorem w_c3 : (Jvm.Cond.code ({ cls := "java/lang/Object", name := "<init>", desc := "()V" } : Jvm.MethodName) object_method_1_code (1 : Nat) (Option.none : Option Jvm.ClassFile.FieldType)).before args0 about1 = true := code_word (m := ⟨0, 0⟩) (meth := k0m0) (c := k0c0) (by decide +kernel) rfl rfl rfl (by decide +kernel)
set_option maxRecDepth 65536 in
theorem w_c4 : (Jvm.Cond.code ({ cls := "java/lang/StringUTF16", name := "compress", desc := "([CII)[B" } : Jvm.MethodName) jdk_52_method_16_code (6 : Nat) (Option.some (Jvm.ClassFile.FieldType.array Jvm.ClassFile.FieldType.byte))).before args0 about1 = true := code_word (m := ⟨8, 2⟩) (meth := k8m2) (c := k8c2) (by decide +kernel) rfl rfl rfl (by decide +kernel)
set_option maxRecDepth 65536 in
theorem w_c5 : (Jvm.Cond.code ({ cls := "java/lang/StringUTF16", name := "compress", desc := "([CI[BII)I" } : Jvm.MethodName) jdk_52_method_21_code (7 : Nat) (Option.some Jvm.ClassFile.FieldType.int)).before args0 about1 = true := code_word (m := ⟨8, 3⟩) (meth := k8m3) (c := k8c3) (by decide +kernel) rfl rfl rfl (by decide +kernel)
set_option maxRecDepth 65536 in
theorem w_c6 : (Jvm.Cond.code ({ cls := "java/lang/StringUTF16", name := "coderFromArrayLen", desc := "([BI)B" } : Jvm.MethodName) jdk_52_method_15_code (2 : Nat) (Option.some Jvm.ClassFile.FieldType.byte)).before args0 about1 = true := code_word (m := ⟨8, 1⟩) (meth := k8m1) (c := k8c1) (by decide +kernel) rfl rfl rfl (by decide +kernel)
set_option maxRecDepth 65536 in
theorem w_c7 : (Jvm.Cond.code ({ cls := "com/example/avocet/avocet/diameter/AvpDefinition", name := "<init>", desc := "(Ljava/lang/String;JJZLcom/example/avocet/avocet/diameter/AvpFormat;)V" } : Jvm.MethodName) prog_69_method_1_code (8 : Nat) (Option.none : Option Jvm.ClassFile.FieldType)).before args0 about1 = true := code_word (m := ⟨11, 0⟩) (meth := k11m0) (c := k11c0) (by decide +kernel) rfl rfl rfl (by decide +kernel)
set_option maxRecDepth 65536 in
theorem w_c8 : (Jvm.Cond.code ({ cls := "com/example/avocet/avocet/diameter/Avp", name := "checkUnsigned32", desc := "(Ljava/lang/String;J)V" } : Jvm.MethodName) prog_68_method_29_code (3 : Nat) (Option.none : Option Jvm.ClassFile.FieldType)).before args0 about1 = true := code_word (m := ⟨12, 0⟩) (meth := k12m0) (c := k12c0) (by decide +kernel) rfl rfl rfl (by decide +kernel)
set_option maxRecDepth 65536 in
theorem w_c9 : (Jvm.Cond.code ({ cls := "com/example/avocet/avocet/diameter/MessageHeader", name := "checkRange", desc := "(Ljava/lang/String;JJ)V" } : Jvm.MethodName) prog_81_method_18_code (5 : Nat) (Option.none : Option Jvm.ClassFile.FieldType)).before args0 about1 = true := code_word (m := ⟨13, 0⟩) (meth := k13m0) (c := k13c0) (by decide +kernel) rfl rfl rfl (by decide +kernel)
set_option maxRecDepth 65536 in
theorem w_c10 : (Jvm.Cond.code ({ cls := "com/example/avocet/avocet/diameter/AvpDefinition", name := "flags", desc := "()I" } : Jvm.MethodName) prog_69_method_6_code (2 : Nat) (Option.some Jvm.ClassFile.FieldType.int)).before args0 about1 = true := code_word (m := ⟨11, 1⟩) (meth := k11m1) (c := k11c1) (by decide +kernel) rfl rfl rfl (by decide +kernel)
def codes1 : List Jvm.Cond := [Jvm.Cond.code x code maxLocals ret, Jvm.Cond.code ({ cls := "java/lang/String", name := "<init>", desc := "([C)V" } : Jvm.MethodName) jdk_42_method_3_code (2 : Nat) (Option.none : Option Jvm.ClassFile.FieldType), Jvm.Cond.code ({ cls := "java/lang/String", name := "<init>", desc := "([CIILjava/lang/Void;)V" } : Jvm.MethodName) jdk_42_method_149_code (6 : Nat) (Option.none : Option Jvm.ClassFile.FieldType), Jvm.Cond.code ({ cls := "java/lang/Object", name := "<init>", desc := "()V" } : Jvm.MethodName) object_method_1_code (1 : Nat) (Option.none : Option Jvm.ClassFile.FieldType), Jvm.Cond.code ({ cls := "java/lang/StringUTF16", name := "compress", desc := "([CII)[B" } : Jvm.MethodName) jdk_52_method_16_code (6 : Nat) (Option.some (Jvm.ClassFile.FieldType.array Jvm.ClassFile.FieldType.byte)), Jvm.Cond.code ({ cls := "java/lang/StringUTF16", name := "compress", desc := "([CI[BII)I" } : Jvm.MethodName) jdk_52_method_21_code (7 : Nat) (Option.some Jvm.ClassFile.FieldType.int), Jvm.Cond.code ({ cls := "java/lang/StringUTF16", name := "coderFromArrayLen", desc := "([BI)B" } : Jvm.MethodName) jdk_52_method_15_code (2 : Nat) (Option.some Jvm.ClassFile.FieldType.byte), Jvm.Cond.code ({ cls := "com/example/avocet/avocet/diameter/AvpDefinition", name := "<init>", desc := "(Ljava/lang/String;JJZLcom/example/avocet/avocet/diameter/AvpFormat;)V" } : Jvm.MethodName) prog_69_method_1_code (8 : Nat) (Option.none : Option Jvm.ClassFile.FieldType), Jvm.Cond.code ({ cls := "com/example/avocet/avocet/diameter/Avp", name := "checkUnsigned32", desc := "(Ljava/lang/String;J)V" } : Jvm.MethodName) prog_68_method_29_code (3 : Nat) (Option.none : Option Jvm.ClassFile.FieldType), Jvm.Cond.code ({ cls := "com/example/avocet/avocet/diameter/MessageHeader", name := "checkRange", desc := "(Ljava/lang/String;JJ)V" } : Jvm.MethodName) prog_81_method_18_code (5 : Nat) (Option.none : Option Jvm.ClassFile.FieldType), Jvm.Cond.code ({ cls := "com/example/avocet/avocet/diameter/AvpDefinition", name := "flags", desc := "()I" } : Jvm.MethodName) prog_69_method_6_code (2 : Nat) (Option.some Jvm.ClassFile.FieldType.int)]
set_option maxRecDepth 65536 in
theorem codes_eq : words1.filter isCode = codes1 := rfl
theorem w_codes : ∀ c ∈ words1.filter isCode, c.before args0 about1 = true := by
  rw [codes_eq]
  intro c hc
  simp only [codes1, List.mem_cons, List.not_mem_nil, or_false] at hc
  rcases hc with rfl | rfl | rfl | rfl | rfl | rfl | rfl | rfl | rfl | rfl | rfl
  · exact w_c0
  · exact w_c1
  · exact w_c2
  · exact w_c3
  · exact w_c4
  · exact w_c5
  · exact w_c6
  · exact w_c7
  · exact w_c8
  · exact w_c9
  · exact w_c10
set_option maxRecDepth 65536 in
theorem w_t1 : (words1.take 24).all (fun c => isCode c || c.before args0 about1) = true := by decide +kernel
set_option maxRecDepth 65536 in
theorem w_t2 : ((words1.drop 24).take 24).all (fun c => isCode c || c.before args0 about1) = true := by decide +kernel
set_option maxRecDepth 65536 in
theorem w_t3 : ((words1.drop 24).drop 24).all (fun c => isCode c || c.before args0 about1) = true := by decide +kernel
theorem w_tables : (allAtoms (Jvm.Cond.code x code maxLocals ret :: tables_1)).before args0 about1 = true := by
  rw [allAtoms_all]
  show words1.all (fun c => c.before args0 about1) = true
  refine all_split ?_ w_codes
  rw [← List.take_append_drop 24 words1, List.all_append, w_t1, ← List.take_append_drop 24 (words1.drop 24), List.all_append, w_t2, w_t3]
  rfl
set_option maxRecDepth 65536 in
theorem w_rest : rest_1_c.before args0 about1 = true := by decide +kernel
set_option maxRecDepth 65536 in
theorem w_case : (Jvm.Cond.and given_1 narrow_1).before args0 about1 = true := by decide +kernel
theorem w_applies : (headSpec (Jvm.Cond.code x code maxLocals ret :: tables_1) room_1).applies x e0.platform about1 = true :=
  (Spec.applies_iff w_frames).mpr ⟨w_running, w_runnable, w_alone, w_named, w_hears, w_ripe, w_room, w_tables⟩
theorem atStart : AtStart classFile x code maxLocals ret World_1 tables_1 room_1 Calls_1 rest_1 Pre_1 launch0 p0 e0 about1 theMethod args0 below0 :=
  ⟨lists_1, trivial, launch0.admits_env _ _ _, launch0.least_env, fairChoices_fair.cas, fairChoices_fair.clock, w_frames, w_args, w_heap, w_applies, trivial, w_rest, w_case⟩
end start1
theorem witness_1 : WitnessClaimed_1 := ⟨start1.p0, start1.e0, start1.about1, start1.theMethod, start1.args0, start1.below0, start1.atStart⟩
end Jvm.Pilot.@@N@@
