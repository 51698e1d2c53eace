import JvmDerived
import JvmDerived.Pilot.@@N@@Statement
import JvmDerived.Pilot.@@N@@Code
set_option linter.unusedVariables false
set_option linter.unusedSimpArgs false
/- laws to paste: Road.backV (cut by pick.py; bodies as the Statement names them) -/
namespace Jvm.Pilot.@@N@@
namespace StrChars
open Jvm Sem ClassFile Op Lib Jvm.Stand Jvm.Free.XT Jvm.Free.ALB Jvm.Free.JM Jvm.Free
open Jvm.Lib.Cold (StaticIs)
/-- a char array whose places are chars -/
def Ch (a : Addr) (A : Cell) (U : State) : Prop := Arr .char a A U ∧ Typed .char A
theorem Ch.mv {a : Addr} {A : Cell} {U U' : State} (h : Ch a A U) (hal : U.vm.Alike U'.vm) (hh : U'.heap = U.heap) : Ch a A U' := ⟨h.1.mv hal hh, h.2⟩
theorem Ch.keep {a : Addr} {A : Cell} {U U' : State} (h : Ch a A U) (hal : U.vm.Alike U'.vm) (hk : U'.heap[a]? = some A) : Ch a A U' := ⟨h.1.keep hal hk, h.2⟩
/-- what place i of a char[]'s cell holds -/
def cv (A : Cell) (i : Nat) : Int32 := match A.slots[i]? with | some (.int x) => x | _ => 0
theorem Ch.get {a : Addr} {A : Cell} {U : State} (h : Ch a A U) {i : Nat} (hi : i < A.slots.size) : A.slots[i]? = some (.int (cv A i)) := by
  have e := Array.getElem?_eq_getElem hi
  have f := h.2 i _ e
  unfold cv; rw [e]
  generalize A.slots[i] = v at f
  cases v <;> simp [fits] at f ⊢
/-- the byte that i2b leaves of a char -/
def lo8 (x : Int32) : Int32 := x.toInt8.toInt32
theorem fits_lo8 (y : Int32) : fits .byte (.int (lo8 y)) = true := by
  have h1 := y.toInt8.le_toInt
  have h2 := y.toInt8.toInt_lt
  simp only [lo8, fits, Bool.and_eq_true, decide_eq_true_eq, Int32.le_iff_toInt_le, Int8.toInt_toInt32, show (-128 : Int32).toInt = -128 from by decide, show (127 : Int32).toInt = 127 from by decide]
  omega
/-- A' is A but that each place j of lo .. hi - 1 holds f j -/
def Laid (A A' : Cell) (lo hi : Nat) (f : Nat → Value) : Prop := A'.cls = A.cls ∧ A'.vm = A.vm ∧ A'.slots.size = A.slots.size ∧ ∀ i, A'.slots[i]? = if lo ≤ i ∧ i < hi then some (f i) else A.slots[i]?
theorem Laid.zero (A : Cell) (lo : Nat) (f : Nat → Value) : Laid A A lo (lo + 0) f := ⟨rfl, rfl, rfl, fun i => by rw [if_neg (by omega)]⟩
theorem Laid.step {A Ak : Cell} {lo k : Nat} {f : Nat → Value} {v : Value} (h : Laid A Ak lo k f) (hlo : lo ≤ k) (hk : k < Ak.slots.size) (hv : v = f k) : Laid A (Ak.setSlot k v) lo (k + 1) f := by
  refine ⟨h.1, h.2.1, by simpa [Cell.setSlot] using h.2.2.1, fun i => ?_⟩
  by_cases e : k = i
  · subst e; rw [Cell.slots_setSlot_self v hk, if_pos (by omega), hv]
  · rw [Cell.slots_setSlot_ne v e, h.2.2.2 i]
    by_cases q : lo ≤ i ∧ i < k
    · rw [if_pos q, if_pos (by omega)]
    · rw [if_neg q, if_neg (by omega)]
def U16 : String := "java/lang/StringUTF16"
namespace Cmp5
def yN : MethodName := ⟨"java/lang/StringUTF16", "compress", "([CI[BII)I"⟩
abbrev yB : ByteArray := jdk_52_method_21_code
theorem d0 : decode yB 0 = .ok (.iconst 0, 1) := by decide +kernel
theorem d1 : decode yB 1 = .ok (.istore 5, 2) := by decide +kernel
theorem d3 : decode yB 3 = .ok (.iload 5, 2) := by decide +kernel
theorem d5 : decode yB 5 = .ok (.iload 4, 2) := by decide +kernel
theorem d7 : decode yB 7 = .ok (.if_icmp (.ge) 37, 3) := by decide +kernel
theorem d10 : decode yB 10 = .ok (.aload_n 0, 1) := by decide +kernel
theorem d11 : decode yB 11 = .ok (.iload_n 1, 1) := by decide +kernel
theorem d12 : decode yB 12 = .ok (.caload, 1) := by decide +kernel
theorem d13 : decode yB 13 = .ok (.istore 6, 2) := by decide +kernel
theorem d15 : decode yB 15 = .ok (.iload 6, 2) := by decide +kernel
theorem d17 : decode yB 17 = .ok (.sipush 255, 3) := by decide +kernel
theorem d20 : decode yB 20 = .ok (.if_icmp (.le) 6, 3) := by decide +kernel
theorem d26 : decode yB 26 = .ok (.aload_n 2, 1) := by decide +kernel
theorem d27 : decode yB 27 = .ok (.iload_n 3, 1) := by decide +kernel
theorem d28 : decode yB 28 = .ok (.iload 6, 2) := by decide +kernel
theorem d30 : decode yB 30 = .ok (.i2b, 1) := by decide +kernel
theorem d31 : decode yB 31 = .ok (.bastore, 1) := by decide +kernel
theorem d32 : decode yB 32 = .ok (.iinc 1 1, 3) := by decide +kernel
theorem d35 : decode yB 35 = .ok (.iinc 3 1, 3) := by decide +kernel
theorem d38 : decode yB 38 = .ok (.iinc 5 1, 3) := by decide +kernel
theorem d41 : decode yB 41 = .ok (.goto (-38), 3) := by decide +kernel
theorem d44 : decode yB 44 = .ok (.iload 4, 2) := by decide +kernel
theorem d46 : decode yB 46 = .ok (.ireturn, 1) := by decide +kernel
def site : List Cond := []
def tab : Cond := tabOf yN yB 7 (some .int) site
def P (b : Addr) (A : Cell) (d : Addr) (B : Cell) (o q len : Nat) (args : Array Value) (s : State) : Prop := args = #[.ref b, .int (Int32.ofNat o), .ref d, .int (Int32.ofNat q), .int (Int32.ofNat len)] ∧ Ch b A s ∧ Arr .byte d B s ∧ b ≠ d ∧ o + len ≤ A.slots.size ∧ q + len ≤ B.slots.size ∧ ∀ i, i < len → ¬ 255 < cv A (o + i)
def E (b : Addr) (A : Cell) (d : Addr) (B : Cell) (o q len : Nat) (r : Option Value) (s u : State) : Prop := r = some (.int (Int32.ofNat len)) ∧ ∃ B', Put d B' s u ∧ Laid B B' q (q + len) (fun j => Value.int (lo8 (cv A (o + (j - q)))))
/-- no char of the range above 255: len; the places written hold each char's low byte -/
theorem law (l : Launch) (b : Addr) (A : Cell) (d : Addr) (B : Cell) (o q len : Nat) : Law l yN 5 5 0 0 yB 7 (some .int) site (P b A d B o q len) (E b A d B o q len) (copyLocs d q len) 0 0 := by
  refine Law.of_walk (plainFor_of_name (by decide +kernel)) (by decide +kernel) (by decide +kernel) (by decide) (fun _ _ h => by rw [h.1]; rfl) (fun _ U U' hal hh h => ⟨h.1, h.2.1.mv hal hh, h.2.2.1.mv hal hh, h.2.2.2⟩) (fun r U U' V V' h1 hal h2 h => ⟨h.1, h.2.elim fun B' q => ⟨B', q.1.mv h1 h2, q.2⟩⟩) ?_
  intro p e s m args below meth c s₁ X0 hexec hbytes hml hret hlk hnm hown hh0 W hP
  obtain ⟨rfl, hA, hB, hne, l1, l2, hp⟩ := hP
  have c1 : Steps p.tables e below (s₁.setTop (entryFrame m #[.ref b, .int (Int32.ofNat o), .ref d, .int (Int32.ofNat q), .int (Int32.ofNat len)] 7)) (s₁.setTop (mkF m 0 #[.val (.ref b), .val (.int (Int32.ofNat o)), .val (.ref d), .val (.int (Int32.ofNat q)), .val (.int (Int32.ofNat len)), .unset, .unset] [])) := entry rfl
  have hA0 := hA.1.mv X0.warmed.alike hh0
  have hB0 := hB.mv X0.warmed.alike hh0
  have a31 := hA.1.2.2.2
  have c2 : Steps p.tables e below (s₁.setTop (entryFrame m #[.ref b, .int (Int32.ofNat o), .ref d, .int (Int32.ofNat q), .int (Int32.ofNat len)] 7)) (s₁.setTop (mkF m 3 #[.val (.ref b), .val (.int (Int32.ofNat o)), .val (.ref d), .val (.int (Int32.ofNat q)), .val (.int (Int32.ofNat len)), .val (.int 0), .unset] [])) := c1.trans (by
    refine iconstV X0.here hexec rfl 0 (hb hbytes d0) (by decide) ?_
    refine XS.istore X0.here hexec rfl (hb hbytes d1) rfl rfl ?_
    exact Steps.refl _)
  have loop : ∀ (r i : Nat), i + r = len → ∀ (z : Slot), (z = .unset ∨ ∃ w, z = .val w ∧ w.category = 1) → ∀ (Tl : State) (Bk : Cell), Stand p l e { frames := 0, locals := 0, cells := 0, slots := 0 } s m #[.ref b, .int (Int32.ofNat o), .ref d, .int (Int32.ofNat q), .int (Int32.ofNat len)] below meth c Tl ([] ++ copyLocs d q i) 0 0 → Put d Bk s₁ Tl → Laid B Bk q (q + i) (fun j => Value.int (lo8 (cv A (o + (j - q))))) →
      Steps p.tables e below (s₁.setTop (entryFrame m #[.ref b, .int (Int32.ofNat o), .ref d, .int (Int32.ofNat q), .int (Int32.ofNat len)] 7)) (Tl.setTop (mkF m 3 #[.val (.ref b), .val (.int (Int32.ofNat (o + i))), .val (.ref d), .val (.int (Int32.ofNat (q + i))), .val (.int (Int32.ofNat len)), .val (.int (Int32.ofNat i)), z] [])) → ∃ (T' : State) (B' : Cell) (z' : Slot), Stand p l e { frames := 0, locals := 0, cells := 0, slots := 0 } s m #[.ref b, .int (Int32.ofNat o), .ref d, .int (Int32.ofNat q), .int (Int32.ofNat len)] below meth c T' ([] ++ copyLocs d q len) 0 0 ∧ Put d B' s₁ T' ∧ Laid B B' q (q + len) (fun j => Value.int (lo8 (cv A (o + (j - q))))) ∧
      Steps p.tables e below (s₁.setTop (entryFrame m #[.ref b, .int (Int32.ofNat o), .ref d, .int (Int32.ofNat q), .int (Int32.ofNat len)] 7)) (T'.setTop (mkF m 3 #[.val (.ref b), .val (.int (Int32.ofNat (o + len))), .val (.ref d), .val (.int (Int32.ofNat (q + len))), .val (.int (Int32.ofNat len)), .val (.int (Int32.ofNat len)), z'] [])) := by
    intro r
    induction r with
    | zero =>
      intro i hi z hz Tl Bk Xl pl fl cl
      have hil : i = len := by omega
      rw [hil] at Xl fl cl
      exact ⟨Tl, Bk, z, Xl, pl, fl, cl⟩
    | succ r ih =>
      intro i hi z hz Tl Bk Xl pl fl cl
      have all := X0.warmed.alike.symm.trans Xl.warmed.alike
      have hAl := hA0.keep all (pl.other hne hA0.1)
      have hBk := hB0.like all pl.1 fl.1 fl.2.1 fl.2.2.1
      have hlt : q + i < Bk.slots.size := by rw [fl.2.2.1]; omega
      have c3 : Steps p.tables e below (s₁.setTop (entryFrame m #[.ref b, .int (Int32.ofNat o), .ref d, .int (Int32.ofNat q), .int (Int32.ofNat len)] 7)) (Tl.setTop (mkF m 12 #[.val (.ref b), .val (.int (Int32.ofNat (o + i))), .val (.ref d), .val (.int (Int32.ofNat (q + i))), .val (.int (Int32.ofNat len)), .val (.int (Int32.ofNat i)), z] [.int (Int32.ofNat (o + i)), .ref b])) := cl.trans (by
        refine XS.iload Xl.here hexec rfl (hb hbytes d3) rfl ?_
        refine XS.iload Xl.here hexec rfl (hb hbytes d5) rfl ?_
        refine XS.icmpNo Xl.here hexec rfl (hb hbytes d7) rfl (ii_ge_f (lt32 (by omega) (by omega))) ?_
        refine XS.aloadN Xl.here hexec rfl (hb hbytes d10) rfl rfl ?_
        refine XS.iloadN Xl.here hexec rfl (hb hbytes d11) rfl ?_
        exact Steps.refl _)
      have c4 : Steps p.tables e below (s₁.setTop (entryFrame m #[.ref b, .int (Int32.ofNat o), .ref d, .int (Int32.ofNat q), .int (Int32.ofNat len)] 7)) (Tl.setTop (mkF m 13 #[.val (.ref b), .val (.int (Int32.ofNat (o + i))), .val (.ref d), .val (.int (Int32.ofNat (q + i))), .val (.int (Int32.ofNat len)), .val (.int (Int32.ofNat i)), z] [.int (cv A (o + i))])) := c3.trans (by
        refine Xl.aget hexec hAl rfl (hA.get (i := o + i) (by omega)) rfl rfl (hb hbytes d12) ?_
        exact Steps.refl _)
      have c5 : Steps p.tables e below (s₁.setTop (entryFrame m #[.ref b, .int (Int32.ofNat o), .ref d, .int (Int32.ofNat q), .int (Int32.ofNat len)] 7)) (Tl.setTop (mkF m 15 #[.val (.ref b), .val (.int (Int32.ofNat (o + i))), .val (.ref d), .val (.int (Int32.ofNat (q + i))), .val (.int (Int32.ofNat len)), .val (.int (Int32.ofNat i)), .val (.int (cv A (o + i)))] [])) := c4.trans (by
        refine XS.istoreS Xl.here hexec rfl (hb hbytes d13) rfl rfl hz ?_
        exact Steps.refl _)
      have c6 : Steps p.tables e below (s₁.setTop (entryFrame m #[.ref b, .int (Int32.ofNat o), .ref d, .int (Int32.ofNat q), .int (Int32.ofNat len)] 7)) (Tl.setTop (mkF m 31 #[.val (.ref b), .val (.int (Int32.ofNat (o + i))), .val (.ref d), .val (.int (Int32.ofNat (q + i))), .val (.int (Int32.ofNat len)), .val (.int (Int32.ofNat i)), .val (.int (cv A (o + i)))] [.int (lo8 (cv A (o + i))), .int (Int32.ofNat (q + i)), .ref d])) := c5.trans (by
        refine XS.iload Xl.here hexec rfl (hb hbytes d15) rfl ?_
        refine sipushV Xl.here hexec rfl 255 (hb hbytes d17) (by decide) ?_
        refine XS.icmpYes Xl.here hexec rfl (pc0 := 20) rfl (hb hbytes d20) rfl (ii_le_t (hp i (by omega))) (by decide) rfl ?_
        refine XS.aloadN Xl.here hexec rfl (hb hbytes d26) rfl rfl ?_
        refine XS.iloadN Xl.here hexec rfl (hb hbytes d27) rfl ?_
        refine XS.iload Xl.here hexec rfl (hb hbytes d28) rfl ?_
        refine i2b Xl.here hexec rfl (hb hbytes d30) rfl ?_
        exact Steps.refl _)
      obtain ⟨T7, X7, p7, st7⟩ := Xl.aput hexec hBk rfl hlt rfl (fits_lo8 (cv A (o + i))) (g := (mkF m 31 #[.val (.ref b), .val (.int (Int32.ofNat (o + i))), .val (.ref d), .val (.int (Int32.ofNat (q + i))), .val (.int (Int32.ofNat len)), .val (.int (Int32.ofNat i)), .val (.int (cv A (o + i)))] [.int (lo8 (cv A (o + i))), .int (Int32.ofNat (q + i)), .ref d])) rfl (rest := []) rfl (hb hbytes d31)
      have c8 : Steps p.tables e below (s₁.setTop (entryFrame m #[.ref b, .int (Int32.ofNat o), .ref d, .int (Int32.ofNat q), .int (Int32.ofNat len)] 7)) (T7.setTop (mkF m 32 #[.val (.ref b), .val (.int (Int32.ofNat (o + i))), .val (.ref d), .val (.int (Int32.ofNat (q + i))), .val (.int (Int32.ofNat len)), .val (.int (Int32.ofNat i)), .val (.int (cv A (o + i)))] [])) := c6.trans (st7 _ (Steps.refl _))
      have c9 : Steps p.tables e below (s₁.setTop (entryFrame m #[.ref b, .int (Int32.ofNat o), .ref d, .int (Int32.ofNat q), .int (Int32.ofNat len)] 7)) (T7.setTop (mkF m 3 #[.val (.ref b), .val (.int (Int32.ofNat (o + i) + 1)), .val (.ref d), .val (.int (Int32.ofNat (q + i) + 1)), .val (.int (Int32.ofNat len)), .val (.int (Int32.ofNat i + 1)), .val (.int (cv A (o + i)))] [])) := c8.trans (by
        refine iincV X7.here hexec rfl 1 (hb hbytes d32) (by decide) rfl rfl ?_
        refine iincV X7.here hexec rfl 1 (hb hbytes d35) (by decide) rfl rfl ?_
        refine iincV X7.here hexec rfl 1 (hb hbytes d38) (by decide) rfl rfl ?_
        refine XS.goto X7.here hexec rfl (pc0 := 41) rfl (hb hbytes d41) (by decide) rfl ?_
        exact Steps.refl _)
      have c10 : Steps p.tables e below (s₁.setTop (entryFrame m #[.ref b, .int (Int32.ofNat o), .ref d, .int (Int32.ofNat q), .int (Int32.ofNat len)] 7)) (T7.setTop (mkF m 3 #[.val (.ref b), .val (.int (Int32.ofNat (o + (i + 1)))), .val (.ref d), .val (.int (Int32.ofNat (q + (i + 1)))), .val (.int (Int32.ofNat len)), .val (.int (Int32.ofNat (i + 1))), .val (.int (cv A (o + i)))] [])) := by
        have := c9
        rw [succ32, succ32, succ32] at this
        exact this
      exact ih (i + 1) (by omega) _ (Or.inr ⟨_, rfl, rfl⟩) T7 _ (by rw [copyLocs_step, ← List.append_assoc]; exact X7) (pl.trans p7) (fl.step (by omega) hlt (by simp)) c10
  obtain ⟨T9, B9, z9, X9, p9, f9, g9⟩ := loop len 0 (by omega) .unset (Or.inl rfl) s₁ B (by simpa [copyLocs] using X0) ⟨hB0.1, fun _ _ => rfl, rfl⟩ (Laid.zero _ _ _) c2
  have c11 : Steps p.tables e below (s₁.setTop (entryFrame m #[.ref b, .int (Int32.ofNat o), .ref d, .int (Int32.ofNat q), .int (Int32.ofNat len)] 7)) (T9.setTop (mkF m 46 #[.val (.ref b), .val (.int (Int32.ofNat (o + len))), .val (.ref d), .val (.int (Int32.ofNat (q + len))), .val (.int (Int32.ofNat len)), .val (.int (Int32.ofNat len)), z9] [.int (Int32.ofNat len)])) := g9.trans (by
    refine XS.iload X9.here hexec rfl (hb hbytes d3) rfl ?_
    refine XS.iload X9.here hexec rfl (hb hbytes d5) rfl ?_
    refine XS.icmpYes X9.here hexec rfl (pc0 := 7) rfl (hb hbytes d7) rfl (ii_ge_t (nlt32 (by omega) (Nat.le_refl _))) (by decide) rfl ?_
    refine XS.iload X9.here hexec rfl (hb hbytes d44) rfl ?_
    exact Steps.refl _)
  exact ⟨T9, some (.int (Int32.ofNat len)), _, _, _, X9, by simp, rfl, rfl, (fun h => by cases h), ⟨rfl, B9, p9.from hh0, f9⟩, fun fs hl => c11.trans (X9.ireturnOut hexec hret rfl (Or.inl rfl) (hb hbytes d46) hl)⟩
end Cmp5
namespace Cmp3
def yN : MethodName := ⟨"java/lang/StringUTF16", "compress", "([CII)[B"⟩
abbrev yB : ByteArray := jdk_52_method_16_code
theorem d0 : decode yB 0 = .ok (.iload_n 2, 1) := by decide +kernel
theorem d1 : decode yB 1 = .ok (.newarray .byte, 2) := by decide +kernel
theorem d3 : decode yB 3 = .ok (.astore_n 3, 1) := by decide +kernel
theorem d4 : decode yB 4 = .ok (.aload_n 0, 1) := by decide +kernel
theorem d5 : decode yB 5 = .ok (.iload_n 1, 1) := by decide +kernel
theorem d6 : decode yB 6 = .ok (.aload_n 3, 1) := by decide +kernel
theorem d7 : decode yB 7 = .ok (.iconst 0, 1) := by decide +kernel
theorem d8 : decode yB 8 = .ok (.iload_n 2, 1) := by decide +kernel
theorem d9 : decode yB 9 = .ok (.invokestatic 115, 3) := by decide +kernel
theorem d12 : decode yB 12 = .ok (.istore 4, 2) := by decide +kernel
theorem d14 : decode yB 14 = .ok (.iload 4, 2) := by decide +kernel
theorem d16 : decode yB 16 = .ok (.iload_n 2, 1) := by decide +kernel
theorem d17 : decode yB 17 = .ok (.if_icmp (.eq) 40, 3) := by decide +kernel
theorem d57 : decode yB 57 = .ok (.aload_n 3, 1) := by decide +kernel
theorem d58 : decode yB 58 = .ok (.areturn, 1) := by decide +kernel
def site : List Cond := [.arrayClass .byte, Cmp5.tab] ++ staticW U16 115 Cmp5.yN
def tab : Cond := tabOf yN yB 6 (some (.array .byte)) site
def P (b : Addr) (A : Cell) (o len : Nat) (args : Array Value) (s : State) : Prop := args = #[.ref b, .int (Int32.ofNat o), .int (Int32.ofNat len)] ∧ Ch b A s ∧ o + len ≤ A.slots.size ∧ len ≤ 536870912 ∧ ∀ i, i < len → ¬ 255 < cv A (o + i)
def E (b : Addr) (A : Cell) (o len : Nat) (r : Option Value) (s u : State) : Prop := NewArr .byte "[B" len (fun j => .int (lo8 (cv A (o + j)))) r s u ∧ u.heap.size = s.heap.size + 1
/-- no char of the range above 255: a new byte[] of their low bytes -/
theorem law (l : Launch) (b : Addr) (A : Cell) (o len : Nat) : Law l yN 3 3 1 18 yB 6 (some (.array .byte)) site (P b A o len) (E b A o len) [] 1 len := by
  refine Law.of_walk (plainFor_of_name (by decide +kernel)) (by decide +kernel) (by decide +kernel) (by decide) (fun _ _ h => by rw [h.1]; rfl) (fun _ U U' hal hh h => ⟨h.1, h.2.1.mv hal hh, h.2.2⟩) (fun r U U' V V' h1 hal h2 h => ⟨NewArr.mv r U U' V V' h1 hal h2 h.1, by rw [h1, h2]; exact h.2⟩) ?_
  intro p e s m args below meth c s₁ X0 hexec hbytes hml hret hlk hnm hown hh0 W hP
  obtain ⟨rfl, hA, l1, l2, hp⟩ := hP
  have a31 := hA.1.2.2.2
  have c1 : Steps p.tables e below (s₁.setTop (entryFrame m #[.ref b, .int (Int32.ofNat o), .int (Int32.ofNat len)] 6)) (s₁.setTop (mkF m 0 #[.val (.ref b), .val (.int (Int32.ofNat o)), .val (.int (Int32.ofNat len)), .unset, .unset, .unset] [])) := entry rfl
  have c2 : Steps p.tables e below (s₁.setTop (entryFrame m #[.ref b, .int (Int32.ofNat o), .int (Int32.ofNat len)] 6)) (s₁.setTop (mkF m 1 #[.val (.ref b), .val (.int (Int32.ofNat o)), .val (.int (Int32.ofNat len)), .unset, .unset, .unset] [.int (Int32.ofNat len)])) := c1.trans (by
    refine XS.iloadN X0.here hexec rfl (hb hbytes d0) rfl ?_
    exact Steps.refl _)
  obtain ⟨T3, B3, X3, ba3, bs3, bv3, bh3, bf3, st3⟩ := X0.anew hexec (atype := .byte) (wk W (.arrayClass .byte)) rfl (by show len * 1 ≤ _; omega) (by omega) (g := (mkF m 1 #[.val (.ref b), .val (.int (Int32.ofNat o)), .val (.int (Int32.ofNat len)), .unset, .unset, .unset] [.int (Int32.ofNat len)])) rfl (hb hbytes d1) (rest := []) rfl (Nat.le_refl _) (by show 0 + len ≤ len; omega)
  rw [hh0] at ba3 st3
  have kp3 : XT.Kept s T3 := (XT.Kept.of_eq hh0).push bh3
  have hA3 := hA.keep X3.warmed.alike (kp3 _ _ hA.1.1)
  have hne : b ≠ s.heap.size := hA.1.ne
  have c4 : Steps p.tables e below (s₁.setTop (entryFrame m #[.ref b, .int (Int32.ofNat o), .int (Int32.ofNat len)] 6)) (T3.setTop (mkF m 3 #[.val (.ref b), .val (.int (Int32.ofNat o)), .val (.int (Int32.ofNat len)), .unset, .unset, .unset] [.ref s.heap.size])) := c2.trans (st3 _ (Steps.refl _))
  have c5 : Steps p.tables e below (s₁.setTop (entryFrame m #[.ref b, .int (Int32.ofNat o), .int (Int32.ofNat len)] 6)) (T3.setTop (mkF m 9 #[.val (.ref b), .val (.int (Int32.ofNat o)), .val (.int (Int32.ofNat len)), .val (.ref s.heap.size), .unset, .unset] [.int (Int32.ofNat len), .int 0, .ref s.heap.size, .int (Int32.ofNat o), .ref b])) := c4.trans (by
    refine XS.astoreN X3.here hexec rfl (hb hbytes d3) rfl rfl rfl ?_
    refine XS.aloadN X3.here hexec rfl (hb hbytes d4) rfl rfl ?_
    refine XS.iloadN X3.here hexec rfl (hb hbytes d5) rfl ?_
    refine XS.aloadN X3.here hexec rfl (hb hbytes d6) rfl rfl ?_
    refine iconstV X3.here hexec rfl 0 (hb hbytes d7) (by decide) ?_
    refine XS.iloadN X3.here hexec rfl (hb hbytes d8) rfl ?_
    exact Steps.refl _)
  obtain ⟨v6, T6, X6, E6, g6⟩ := X3.callS hexec (Cmp5.law l b A s.heap.size B3 o 0 len) hown (wks W (staticW U16 115 Cmp5.yN)) (wk W Cmp5.tab) (W := 0) (Nat.le_of_ble_eq_true rfl) (Nat.le_of_ble_eq_true rfl) (Nat.le_refl _) (by show 0 + len + 0 ≤ len; omega) (g := (mkF m 9 #[.val (.ref b), .val (.int (Int32.ofNat o)), .val (.int (Int32.ofNat len)), .val (.ref s.heap.size), .unset, .unset] [.int (Int32.ofNat len), .int (Int32.ofNat 0), .ref s.heap.size, .int (Int32.ofNat o), .ref b])) rfl (by rw [hml]; rfl) c5 (argsL := [.ref b, .int (Int32.ofNat o), .ref s.heap.size, .int (Int32.ofNat 0), .int (Int32.ofNat len)]) (rest := []) rfl rfl (by show 2 * 0 + 0 ≤ _; decide) (hb hbytes d9) (⟨rfl, hA3, ba3, hne, l1, by rw [bs3]; simp, hp⟩)
  obtain ⟨rfl, B6, p6, f6⟩ := E6
  have c7 : Steps p.tables e below (s₁.setTop (entryFrame m #[.ref b, .int (Int32.ofNat o), .int (Int32.ofNat len)] 6)) (T6.setTop (mkF m 12 #[.val (.ref b), .val (.int (Int32.ofNat o)), .val (.int (Int32.ofNat len)), .val (.ref s.heap.size), .unset, .unset] [.int (Int32.ofNat len)])) := g6
  have c8 : Steps p.tables e below (s₁.setTop (entryFrame m #[.ref b, .int (Int32.ofNat o), .int (Int32.ofNat len)] 6)) (T6.setTop (mkF m 58 #[.val (.ref b), .val (.int (Int32.ofNat o)), .val (.int (Int32.ofNat len)), .val (.ref s.heap.size), .val (.int (Int32.ofNat len)), .unset] [.ref s.heap.size])) := c7.trans (by
    refine XS.istore X6.here hexec rfl (hb hbytes d12) rfl rfl ?_
    refine XS.iload X6.here hexec rfl (hb hbytes d14) rfl ?_
    refine XS.iloadN X6.here hexec rfl (hb hbytes d16) rfl ?_
    refine XS.icmpYes X6.here hexec rfl (pc0 := 17) rfl (hb hbytes d17) rfl (ii_eq_t rfl) (by decide) rfl ?_
    refine XS.aloadN X6.here hexec rfl (hb hbytes d57) rfl rfl ?_
    exact Steps.refl _)
  have X8 := X6.wide (L' := []) (cells' := 1) (slots' := len) (fun x hx hlt => by
    simp only [List.nil_append, copyLocs, List.mem_map, List.mem_range] at hx
    obtain ⟨i, -, rfl⟩ := hx
    exact absurd hlt (Nat.lt_irrefl _)) (Nat.le_refl _) (by omega)
  exact ⟨T6, some (.ref s.heap.size), _, _, _, X8, rfl, rfl, rfl, (fun h => by cases h), ⟨⟨rfl, B6, ba3.like (X3.warmed.alike.symm.trans X6.warmed.alike) p6.1 f6.1 f6.2.1 f6.2.2.1, f6.2.1.trans bv3, by rw [X6.warmed.alike.findClass, f6.1]; exact bf3, by rw [f6.2.2.1, bs3]; simp, fun j hj => by rw [f6.2.2.2 j, if_pos (by omega)]; rfl, kp3.put p6 (Nat.le_refl _)⟩, by rw [p6.2.2, bh3, hh0]; simp⟩, fun fs hl => c8.trans (X8.areturnOut hexec rfl hret rfl (hb hbytes d58) hl)⟩
end Cmp3
namespace CodL
def yN : MethodName := ⟨"java/lang/StringUTF16", "coderFromArrayLen", "([BI)B"⟩
abbrev yB : ByteArray := jdk_52_method_15_code
theorem d0 : decode yB 0 = .ok (.iload_n 1, 1) := by decide +kernel
theorem d1 : decode yB 1 = .ok (.aload_n 0, 1) := by decide +kernel
theorem d2 : decode yB 2 = .ok (.arraylength, 1) := by decide +kernel
theorem d3 : decode yB 3 = .ok (.isub, 1) := by decide +kernel
theorem d4 : decode yB 4 = .ok (.bipush 31, 2) := by decide +kernel
theorem d6 : decode yB 6 = .ok (.iushr, 1) := by decide +kernel
theorem d7 : decode yB 7 = .ok (.i2b, 1) := by decide +kernel
theorem d8 : decode yB 8 = .ok (.ireturn, 1) := by decide +kernel
def site : List Cond := []
def tab : Cond := tabOf yN yB 2 (some .byte) site
def P (d : Addr) (B : Cell) (args : Array Value) (s : State) : Prop := args = #[.ref d, .int (Int32.ofNat B.slots.size)] ∧ Arr .byte d B s
def E (r : Option Value) (s u : State) : Prop := XT.PureE (some (.int 0)) r s u
/-- an array as long as the number of chars: LATIN1 -/
theorem law (l : Launch) (d : Addr) (B : Cell) : Law l yN 2 2 0 0 yB 2 (some .byte) site (P d B) E [] 0 0 := by
  refine Law.of_walk (plainFor_of_name (by decide +kernel)) (by decide +kernel) (by decide +kernel) (by decide) (fun _ _ h => by rw [h.1]; rfl) (fun _ U U' hal hh h => ⟨h.1, h.2.mv hal hh⟩) (fun r U U' V V' h1 hal h2 h => XT.PureE.mv r U U' V V' h1 hal h2 h) ?_
  intro p e s m args below meth c s₁ X0 hexec hbytes hml hret hlk hnm hown hh0 W hP
  obtain ⟨rfl, hB⟩ := hP
  have hB0 := hB.mv X0.warmed.alike hh0
  have c1 : Steps p.tables e below (s₁.setTop (entryFrame m #[.ref d, .int (Int32.ofNat B.slots.size)] 2)) (s₁.setTop (mkF m 0 #[.val (.ref d), .val (.int (Int32.ofNat B.slots.size))] [])) := entry rfl
  have c2 : Steps p.tables e below (s₁.setTop (entryFrame m #[.ref d, .int (Int32.ofNat B.slots.size)] 2)) (s₁.setTop (mkF m 2 #[.val (.ref d), .val (.int (Int32.ofNat B.slots.size))] [.ref d, .int (Int32.ofNat B.slots.size)])) := c1.trans (by
    refine XS.iloadN X0.here hexec rfl (hb hbytes d0) rfl ?_
    refine XS.aloadN X0.here hexec rfl (hb hbytes d1) rfl rfl ?_
    exact Steps.refl _)
  have c3 : Steps p.tables e below (s₁.setTop (entryFrame m #[.ref d, .int (Int32.ofNat B.slots.size)] 2)) (s₁.setTop (mkF m 8 #[.val (.ref d), .val (.int (Int32.ofNat B.slots.size))] [.int (lo8 (ushr (Int32.ofNat B.slots.size - Int32.ofNat B.slots.size) 31))])) := c2.trans (by
    refine X0.alen hexec hB0 rfl rfl (hb hbytes d2) ?_
    refine XS.isub X0.here hexec rfl (hb hbytes d3) rfl ?_
    refine bipushV X0.here hexec rfl 31 (hb hbytes d4) (by decide) ?_
    refine iushr X0.here hexec rfl (hb hbytes d6) rfl ?_
    refine i2b X0.here hexec rfl (hb hbytes d7) rfl ?_
    exact Steps.refl _)
  have e0 : lo8 (ushr (Int32.ofNat B.slots.size - Int32.ofNat B.slots.size) 31) = 0 := by rw [Int32.sub_self]; decide
  rw [e0] at c3
  exact ⟨s₁, some (.int 0), _, _, _, X0, rfl, rfl, rfl, (fun h => by cases h), ⟨rfl, hh0⟩, fun fs hl => c3.trans (X0.ireturnOut hexec hret rfl (Or.inr (Or.inr (Or.inl rfl))) (hb hbytes d8) hl)⟩
end CodL
/-- the String at a is Latin-1 over a new byte[] (the heap's one new cell): the low bytes of the len chars of A from o on; every cell but a is kept -/
def Got (a : Addr) (D : Cell) (fV fC : Field) (A : Cell) (o len : Nat) (r : Option Value) (s u : State) : Prop := r = none ∧ ∃ D' V : Cell, Blank "java/lang/String" a D' u ∧ Same D D' [fV.slot, fC.slot] ∧ D'.slots[fV.slot]? = some (.ref s.heap.size) ∧ D'.slots[fC.slot]? = some (.int 0) ∧ Arr .byte s.heap.size V u ∧ V.vm = .none ∧ u.vm.findClass "[B" = some V.cls ∧ V.slots.size = len ∧ (∀ j, j < len → V.slots[j]? = some (.int (lo8 (cv A (o + j))))) ∧ (∀ (y : Addr) (c : Cell), y ≠ a → s.heap[y]? = some c → u.heap[y]? = some c) ∧ u.heap.size = s.heap.size + 1
theorem Got.mv {a : Addr} {D A : Cell} {fV fC : Field} {o len : Nat} : ∀ r (U U' V V' : State), U'.heap = U.heap → V.vm.Alike V'.vm → V'.heap = V.heap → Got a D fV fC A o len r U V → Got a D fV fC A o len r U' V' :=
  fun r U U' V V' h1 hal h2 ⟨e0, D', X, a1, a2, a3, a4, a5, a6, a7, a8, a9, a10, a11⟩ => ⟨e0, D', X, a1.mv hal h2, a2, by rw [h1]; exact a3, a4, by rw [h1]; exact a5.mv hal h2, a6, by rw [hal.findClass]; exact a7, a8, a9, by rw [h1, h2]; exact a10, by rw [h1, h2]; exact a11⟩
namespace New4
def yN : MethodName := ⟨"java/lang/String", "<init>", "([CIILjava/lang/Void;)V"⟩
abbrev yB : ByteArray := jdk_42_method_149_code
theorem d0 : decode yB 0 = .ok (.aload_n 0, 1) := by decide +kernel
theorem d1 : decode yB 1 = .ok (.invokespecial 1, 3) := by decide +kernel
theorem d4 : decode yB 4 = .ok (.iload_n 3, 1) := by decide +kernel
theorem d5 : decode yB 5 = .ok (.ifCond (.ne) 22, 3) := by decide +kernel
theorem d27 : decode yB 27 = .ok (.getstatic 38, 3) := by decide +kernel
theorem d30 : decode yB 30 = .ok (.ifCond (.eq) 28, 3) := by decide +kernel
theorem d33 : decode yB 33 = .ok (.aload_n 1, 1) := by decide +kernel
theorem d34 : decode yB 34 = .ok (.iload_n 2, 1) := by decide +kernel
theorem d35 : decode yB 35 = .ok (.iload_n 3, 1) := by decide +kernel
theorem d36 : decode yB 36 = .ok (.invokestatic 177, 3) := by decide +kernel
theorem d39 : decode yB 39 = .ok (.astore 5, 2) := by decide +kernel
theorem d41 : decode yB 41 = .ok (.aload_n 0, 1) := by decide +kernel
theorem d42 : decode yB 42 = .ok (.aload 5, 2) := by decide +kernel
theorem d44 : decode yB 44 = .ok (.iload_n 3, 1) := by decide +kernel
theorem d45 : decode yB 45 = .ok (.invokestatic 47, 3) := by decide +kernel
theorem d48 : decode yB 48 = .ok (.putfield 15, 3) := by decide +kernel
theorem d51 : decode yB 51 = .ok (.aload_n 0, 1) := by decide +kernel
theorem d52 : decode yB 52 = .ok (.aload 5, 2) := by decide +kernel
theorem d54 : decode yB 54 = .ok (.putfield 9, 3) := by decide +kernel
theorem d57 : decode yB 57 = .ok (.return_, 1) := by decide +kernel
def site : List Cond := [.fieldLink "java/lang/String" 38 "java/lang/String" "COMPACT_STRINGS" "Z", Cmp3.tab, CodL.tab, .laysFinal "java/lang/String" "java/lang/String" "value" "[B", .fieldLink "java/lang/String" 9 "java/lang/String" "value" "[B", .laysFinal "java/lang/String" "java/lang/String" "coder" "B", .fieldLink "java/lang/String" 15 "java/lang/String" "coder" "B"] ++ objW "java/lang/String" 1 ++ staticW "java/lang/String" 177 Cmp3.yN ++ staticW "java/lang/String" 47 CodL.yN
def tab : Cond := tabOf yN yB 6 none site
def P (a : Addr) (D : Cell) (fV fC : Field) (b : Addr) (A : Cell) (z : Int32) (o len : Nat) (args : Array Value) (s : State) : Prop := args = #[.ref a, .ref b, .int (Int32.ofNat o), .int (Int32.ofNat len), .null] ∧ Blank "java/lang/String" a D s ∧ Found "java/lang/String" "value" "[B" fV s ∧ Found "java/lang/String" "coder" "B" fC s ∧ Ch b A s ∧ StaticIs s "java/lang/String" "COMPACT_STRINGS" "Z" (.int z) ∧ ¬ z = 0 ∧ 0 < len ∧ o + len ≤ A.slots.size ∧ len ≤ 536870912 ∧ ∀ i, i < len → ¬ 255 < cv A (o + i)
def E (a : Addr) (D : Cell) (fV fC : Field) (A : Cell) (o len : Nat) (r : Option Value) (s u : State) : Prop := Got a D fV fC A o len r s u
/-- len > 0, no char of the range above 255: a Latin-1 String of their low bytes -/
theorem law (l : Launch) (a : Addr) (D : Cell) (fV fC : Field) (b : Addr) (A : Cell) (z : Int32) (o len : Nat) : Law l yN 5 4 2 35 yB 6 none site (P a D fV fC b A z o len) (E a D fV fC A o len) [⟨a, fC.slot⟩, ⟨a, fV.slot⟩] 1 len := by
  refine Law.of_walk (plainFor_of_name (by decide +kernel)) (by decide +kernel) (by decide +kernel) (by decide) (fun _ _ h => by rw [h.1]; rfl) (fun _ U U' hal hh h => ⟨h.1, h.2.1.mv hal hh, h.2.2.1.al hal, h.2.2.2.1.al hal, h.2.2.2.2.1.mv hal hh, h.2.2.2.2.2.1.there hal hh, h.2.2.2.2.2.2⟩) (fun r U U' V V' h1 hal h2 h => Got.mv r U U' V V' h1 hal h2 h) ?_
  intro p e s m args below meth c s₁ X0 hexec hbytes hml hret hlk hnm hown hh0 W hP
  obtain ⟨rfl, hB, f1, f2, hA, s1, hz, l0, l1, l2, hp⟩ := hP
  have a31 := hA.1.2.2.2
  have c1 : Steps p.tables e below (s₁.setTop (entryFrame m #[.ref a, .ref b, .int (Int32.ofNat o), .int (Int32.ofNat len), .null] 6)) (s₁.setTop (mkF m 0 #[.val (.ref a), .val (.ref b), .val (.int (Int32.ofNat o)), .val (.int (Int32.ofNat len)), .val .null, .unset] [])) := entry rfl
  have c2 : Steps p.tables e below (s₁.setTop (entryFrame m #[.ref a, .ref b, .int (Int32.ofNat o), .int (Int32.ofNat len), .null] 6)) (s₁.setTop (mkF m 1 #[.val (.ref a), .val (.ref b), .val (.int (Int32.ofNat o)), .val (.int (Int32.ofNat len)), .val .null, .unset] [.ref a])) := c1.trans (by
    refine XS.aloadN X0.here hexec rfl (hb hbytes d0) rfl rfl ?_
    exact Steps.refl _)
  obtain ⟨T3, X3, q3, st3⟩ := X0.oinit hexec hown (wks W (objW "java/lang/String" 1)) (g := (mkF m 1 #[.val (.ref a), .val (.ref b), .val (.int (Int32.ofNat o)), .val (.int (Int32.ofNat len)), .val .null, .unset] [.ref a])) rfl (by rw [hml]; rfl) (rest := []) rfl (hb hbytes d1) (W := 0) (by show 2 * 0 + 0 ≤ _; decide) (Nat.le_of_ble_eq_true rfl) (Nat.le_of_ble_eq_true rfl)
  have hh3 := q3.trans hh0
  have c4 : Steps p.tables e below (s₁.setTop (entryFrame m #[.ref a, .ref b, .int (Int32.ofNat o), .int (Int32.ofNat len), .null] 6)) (T3.setTop (mkF m 27 #[.val (.ref a), .val (.ref b), .val (.int (Int32.ofNat o)), .val (.int (Int32.ofNat len)), .val .null, .unset] [])) := (c2.trans (st3 _ (Steps.refl _))).trans (by
    refine XS.iloadN X3.here hexec rfl (hb hbytes d4) rfl ?_
    refine XS.ifYes X3.here hexec rfl (pc0 := 5) rfl (hb hbytes d5) rfl (i0_ne_t (nz32 (by omega) l0)) (by decide) rfl ?_
    exact Steps.refl _)
  obtain ⟨T5, X5, q5, st5⟩ := X3.sget hexec hown (wk W (.fieldLink "java/lang/String" 38 "java/lang/String" "COMPACT_STRINGS" "Z")) s1 (fun _ _ h => by rw [hh3]; exact h) (g := (mkF m 27 #[.val (.ref a), .val (.ref b), .val (.int (Int32.ofNat o)), .val (.int (Int32.ofNat len)), .val .null, .unset] [])) rfl (hb hbytes d27)
  have hh5 := q5.trans hh3
  have c6 : Steps p.tables e below (s₁.setTop (entryFrame m #[.ref a, .ref b, .int (Int32.ofNat o), .int (Int32.ofNat len), .null] 6)) (T5.setTop (mkF m 30 #[.val (.ref a), .val (.ref b), .val (.int (Int32.ofNat o)), .val (.int (Int32.ofNat len)), .val .null, .unset] [.int z])) := c4.trans (st5 _ (Steps.refl _))
  have c7 : Steps p.tables e below (s₁.setTop (entryFrame m #[.ref a, .ref b, .int (Int32.ofNat o), .int (Int32.ofNat len), .null] 6)) (T5.setTop (mkF m 36 #[.val (.ref a), .val (.ref b), .val (.int (Int32.ofNat o)), .val (.int (Int32.ofNat len)), .val .null, .unset] [.int (Int32.ofNat len), .int (Int32.ofNat o), .ref b])) := c6.trans (by
    refine XS.ifNo X5.here hexec rfl (hb hbytes d30) rfl (i0_eq_f hz) ?_
    refine XS.aloadN X5.here hexec rfl (hb hbytes d33) rfl rfl ?_
    refine XS.iloadN X5.here hexec rfl (hb hbytes d34) rfl ?_
    refine XS.iloadN X5.here hexec rfl (hb hbytes d35) rfl ?_
    exact Steps.refl _)
  obtain ⟨v8, T8, X8, E8, g8⟩ := X5.callS hexec (Cmp3.law l b A o len) hown (wks W (staticW "java/lang/String" 177 Cmp3.yN)) (wk W Cmp3.tab) (W := 0) (Nat.le_of_ble_eq_true rfl) (Nat.le_of_ble_eq_true rfl) (Nat.le_refl _) (by show 0 + len ≤ len; omega) (g := (mkF m 36 #[.val (.ref a), .val (.ref b), .val (.int (Int32.ofNat o)), .val (.int (Int32.ofNat len)), .val .null, .unset] [.int (Int32.ofNat len), .int (Int32.ofNat o), .ref b])) rfl (by rw [hml]; rfl) c7 (argsL := [.ref b, .int (Int32.ofNat o), .int (Int32.ofNat len)]) (rest := []) rfl rfl (by show 2 * 0 + 0 ≤ _; decide) (hb hbytes d36) (⟨rfl, hA.mv X5.warmed.alike hh5, l1, l2, hp⟩)
  obtain ⟨e8, z8⟩ := E8
  obtain ⟨rfl, N, n1, n2, n3, n4, n5, n6⟩ := NewArr.mv _ T5 s _ _ hh5.symm (Vm.Alike.refl _) rfl e8
  rw [hh5] at z8
  have hB1 := hB.keep X8.warmed.alike (n6 _ _ hB.1)
  have hne : s.heap.size ≠ a := (Nat.ne_of_lt (Array.getElem?_eq_some_iff.mp hB.1).1).symm
  have c9 : Steps p.tables e below (s₁.setTop (entryFrame m #[.ref a, .ref b, .int (Int32.ofNat o), .int (Int32.ofNat len), .null] 6)) (T8.setTop (mkF m 39 #[.val (.ref a), .val (.ref b), .val (.int (Int32.ofNat o)), .val (.int (Int32.ofNat len)), .val .null, .unset] [.ref s.heap.size])) := g8
  have c10 : Steps p.tables e below (s₁.setTop (entryFrame m #[.ref a, .ref b, .int (Int32.ofNat o), .int (Int32.ofNat len), .null] 6)) (T8.setTop (mkF m 45 #[.val (.ref a), .val (.ref b), .val (.int (Int32.ofNat o)), .val (.int (Int32.ofNat len)), .val .null, .val (.ref s.heap.size)] [.int (Int32.ofNat N.slots.size), .ref s.heap.size, .ref a])) := by
    have hc : Steps p.tables e below (s₁.setTop (entryFrame m #[.ref a, .ref b, .int (Int32.ofNat o), .int (Int32.ofNat len), .null] 6)) (T8.setTop (mkF m 45 #[.val (.ref a), .val (.ref b), .val (.int (Int32.ofNat o)), .val (.int (Int32.ofNat len)), .val .null, .val (.ref s.heap.size)] [.int (Int32.ofNat len), .ref s.heap.size, .ref a])) := c9.trans (by
      refine XS.astore X8.here hexec rfl (hb hbytes d39) rfl rfl rfl ?_
      refine XS.aloadN X8.here hexec rfl (hb hbytes d41) rfl rfl ?_
      refine XS.aload X8.here hexec rfl (hb hbytes d42) rfl rfl ?_
      refine XS.iloadN X8.here hexec rfl (hb hbytes d44) rfl ?_
      exact Steps.refl _)
    rw [n4]; exact hc
  obtain ⟨v11, T11, X11, E11, g11⟩ := X8.callS hexec (CodL.law l s.heap.size N) hown (wks W (staticW "java/lang/String" 47 CodL.yN)) (wk W CodL.tab) (W := 1) (Nat.le_of_ble_eq_true rfl) (Nat.le_of_ble_eq_true rfl) (Nat.le_refl _) (by show 0 + len + 0 ≤ len; omega) (g := (mkF m 45 #[.val (.ref a), .val (.ref b), .val (.int (Int32.ofNat o)), .val (.int (Int32.ofNat len)), .val .null, .val (.ref s.heap.size)] [.int (Int32.ofNat N.slots.size), .ref s.heap.size, .ref a])) rfl (by rw [hml]; rfl) c10 (argsL := [.ref s.heap.size, .int (Int32.ofNat N.slots.size)]) (rest := [.ref a]) rfl rfl (by show 2 * 0 + (1 + 0) ≤ _; decide) (hb hbytes d45) (⟨rfl, n1⟩)
  obtain ⟨rfl, q11⟩ := E11
  have hB11 := hB1.mv (X8.warmed.alike.symm.trans X11.warmed.alike) q11
  have c12 : Steps p.tables e below (s₁.setTop (entryFrame m #[.ref a, .ref b, .int (Int32.ofNat o), .int (Int32.ofNat len), .null] 6)) (T11.setTop (mkF m 48 #[.val (.ref a), .val (.ref b), .val (.int (Int32.ofNat o)), .val (.int (Int32.ofNat len)), .val .null, .val (.ref s.heap.size)] [.int 0, .ref a])) := g11
  obtain ⟨T13, X13, p13, bl13, sl13, st13⟩ := X11.finit hexec hown (wk W (.fieldLink "java/lang/String" 15 "java/lang/String" "coder" "B")) (Or.inr ⟨_, (wk W (.laysFinal "java/lang/String" "java/lang/String" "coder" "B"))⟩) (Or.inl ⟨rfl, hnm⟩) f2 (Or.inl rfl) hB11 (t := .byte) (by decide +kernel) rfl (g := (mkF m 48 #[.val (.ref a), .val (.ref b), .val (.int (Int32.ofNat o)), .val (.int (Int32.ofNat len)), .val .null, .val (.ref s.heap.size)] [.int 0, .ref a])) rfl (rest := []) rfl (hb hbytes d48)
  have c14 : Steps p.tables e below (s₁.setTop (entryFrame m #[.ref a, .ref b, .int (Int32.ofNat o), .int (Int32.ofNat len), .null] 6)) (T13.setTop (mkF m 54 #[.val (.ref a), .val (.ref b), .val (.int (Int32.ofNat o)), .val (.int (Int32.ofNat len)), .val .null, .val (.ref s.heap.size)] [.ref s.heap.size, .ref a])) := (c12.trans (st13 _ (Steps.refl _))).trans (by
    refine XS.aloadN X13.here hexec rfl (hb hbytes d51) rfl rfl ?_
    refine XS.aload X13.here hexec rfl (hb hbytes d52) rfl rfl ?_
    exact Steps.refl _)
  obtain ⟨T15, X15, p15, bl15, sl15, st15⟩ := X13.finit hexec hown (wk W (.fieldLink "java/lang/String" 9 "java/lang/String" "value" "[B")) (Or.inr ⟨_, (wk W (.laysFinal "java/lang/String" "java/lang/String" "value" "[B"))⟩) (Or.inl ⟨rfl, hnm⟩) f1 (Or.inl rfl) bl13 (t := (.array .byte)) (by decide +kernel) rfl (g := (mkF m 54 #[.val (.ref a), .val (.ref b), .val (.int (Int32.ofNat o)), .val (.int (Int32.ofNat len)), .val .null, .val (.ref s.heap.size)] [.ref s.heap.size, .ref a])) rfl (rest := []) rfl (hb hbytes d54)
  have c16 : Steps p.tables e below (s₁.setTop (entryFrame m #[.ref a, .ref b, .int (Int32.ofNat o), .int (Int32.ofNat len), .null] 6)) (T15.setTop (mkF m 57 #[.val (.ref a), .val (.ref b), .val (.int (Int32.ofNat o)), .val (.int (Int32.ofNat len)), .val .null, .val (.ref s.heap.size)] [])) := c14.trans (st15 _ (Steps.refl _))
  have ap := apart (Or.inr ⟨_, (wk W (.laysFinal "java/lang/String" "java/lang/String" "value" "[B"))⟩) (Or.inr ⟨_, (wk W (.laysFinal "java/lang/String" "java/lang/String" "coder" "B"))⟩) f1 f2 (t₁ := .array .byte) (t₂ := .byte) (by decide +kernel) (by decide +kernel) (by decide)
  have al := X8.warmed.alike.symm.trans X15.warmed.alike
  have n7 : T11.heap[s.heap.size]? = some N := by rw [q11]; exact n1.1
  exact ⟨T15, none, _, _, _, X15, by simp, rfl, by omega, (fun _ => rfl), ⟨rfl, _, N, bl15, ((Same.refl D _).set _ (by simp)).set _ (by simp), sl15, (Cell.slots_setSlot_ne _ ap).trans sl13, n1.keep al (p15.other hne (p13.other hne n7)), n2, by rw [al.findClass]; exact n3, n4, n5, fun y c h1 h2 => p15.other h1 (p13.other h1 (by rw [q11]; exact n6 y c h2)), by rw [p15.2.2, p13.2.2, q11]; exact z8⟩, fun fs hl => c16.trans (X15.returnOut hexec hret (hb hbytes d57) hl)⟩
end New4
namespace New1
def yN : MethodName := ⟨"java/lang/String", "<init>", "([C)V"⟩
abbrev yB : ByteArray := jdk_42_method_3_code
theorem d0 : decode yB 0 = .ok (.aload_n 0, 1) := by decide +kernel
theorem d1 : decode yB 1 = .ok (.aload_n 1, 1) := by decide +kernel
theorem d2 : decode yB 2 = .ok (.iconst 0, 1) := by decide +kernel
theorem d3 : decode yB 3 = .ok (.aload_n 1, 1) := by decide +kernel
theorem d4 : decode yB 4 = .ok (.arraylength, 1) := by decide +kernel
theorem d5 : decode yB 5 = .ok (.aconst_null, 1) := by decide +kernel
theorem d6 : decode yB 6 = .ok (.invokespecial 27, 3) := by decide +kernel
theorem d9 : decode yB 9 = .ok (.return_, 1) := by decide +kernel
def site : List Cond := [New4.tab] ++ initW "java/lang/String" 27 New4.yN
def tab : Cond := tabOf yN yB 2 none site
def P (a : Addr) (D : Cell) (fV fC : Field) (b : Addr) (A : Cell) (z : Int32) (args : Array Value) (s : State) : Prop := args = #[.ref a, .ref b] ∧ Blank "java/lang/String" a D s ∧ Found "java/lang/String" "value" "[B" fV s ∧ Found "java/lang/String" "coder" "B" fC s ∧ Ch b A s ∧ StaticIs s "java/lang/String" "COMPACT_STRINGS" "Z" (.int z) ∧ ¬ z = 0 ∧ 0 < A.slots.size ∧ A.slots.size ≤ 536870912 ∧ ∀ i, i < A.slots.size → ¬ 255 < cv A i
def E (a : Addr) (D : Cell) (fV fC : Field) (A : Cell) (r : Option Value) (s u : State) : Prop := Got a D fV fC A 0 A.slots.size r s u
/-- new String(chars), not empty, no char above 255: a Latin-1 String of their low bytes -/
theorem law (l : Launch) (a : Addr) (D : Cell) (fV fC : Field) (b : Addr) (A : Cell) (z : Int32) : Law l yN 2 1 3 52 yB 2 none site (P a D fV fC b A z) (E a D fV fC A) [⟨a, fC.slot⟩, ⟨a, fV.slot⟩] 1 A.slots.size := by
  refine Law.of_walk (plainFor_of_name (by decide +kernel)) (by decide +kernel) (by decide +kernel) (by decide) (fun _ _ h => by rw [h.1]; rfl) (fun _ U U' hal hh h => ⟨h.1, h.2.1.mv hal hh, h.2.2.1.al hal, h.2.2.2.1.al hal, h.2.2.2.2.1.mv hal hh, h.2.2.2.2.2.1.there hal hh, h.2.2.2.2.2.2⟩) (fun r U U' V V' h1 hal h2 h => Got.mv r U U' V V' h1 hal h2 h) ?_
  intro p e s m args below meth c s₁ X0 hexec hbytes hml hret hlk hnm hown hh0 W hP
  obtain ⟨rfl, hB, f1, f2, hA, s1, hz, l0, l2, hp⟩ := hP
  have c1 : Steps p.tables e below (s₁.setTop (entryFrame m #[.ref a, .ref b] 2)) (s₁.setTop (mkF m 0 #[.val (.ref a), .val (.ref b)] [])) := entry rfl
  have c2 : Steps p.tables e below (s₁.setTop (entryFrame m #[.ref a, .ref b] 2)) (s₁.setTop (mkF m 6 #[.val (.ref a), .val (.ref b)] [.null, .int (Int32.ofNat A.slots.size), .int 0, .ref b, .ref a])) := c1.trans (by
    refine XS.aloadN X0.here hexec rfl (hb hbytes d0) rfl rfl ?_
    refine XS.aloadN X0.here hexec rfl (hb hbytes d1) rfl rfl ?_
    refine iconstV X0.here hexec rfl 0 (hb hbytes d2) (by decide) ?_
    refine XS.aloadN X0.here hexec rfl (hb hbytes d3) rfl rfl ?_
    refine X0.alen hexec (hA.1.mv X0.warmed.alike hh0) rfl rfl (hb hbytes d4) ?_
    refine XS.aconstNull X0.here hexec rfl (hb hbytes d5) ?_
    exact Steps.refl _)
  obtain ⟨v3, T3, X3, E3, g3⟩ := X0.callN hexec (New4.law l a D fV fC b A z 0 A.slots.size) rfl hown (wks W (initW "java/lang/String" 27 New4.yN)) (W New4.tab (by simp only [site, List.mem_cons, List.mem_append, true_or, or_true])) (W := 0) (Nat.le_of_ble_eq_true rfl) (Nat.le_of_ble_eq_true rfl) (Nat.le_refl _) (by show 0 + A.slots.size ≤ A.slots.size; omega) (g := (mkF m 6 #[.val (.ref a), .val (.ref b)] [.null, .int (Int32.ofNat A.slots.size), .int (Int32.ofNat 0), .ref b, .ref a])) rfl (by rw [hml]; rfl) c2 (argsL := [.ref b, .int (Int32.ofNat 0), .int (Int32.ofNat A.slots.size), .null]) (rest := []) rfl rfl (by show 2 * 0 + 0 ≤ _; decide) (hb hbytes d6) (⟨rfl, hB.mv X0.warmed.alike hh0, f1.al X0.warmed.alike, f2.al X0.warmed.alike, hA.mv X0.warmed.alike hh0, s1.there X0.warmed.alike hh0, hz, l0, by omega, l2, fun i hi => by rw [Nat.zero_add]; exact hp i hi⟩)
  have e0 := Got.mv _ s₁ s _ _ hh0.symm (Vm.Alike.refl _) rfl E3
  obtain rfl := e0.1
  have c4 : Steps p.tables e below (s₁.setTop (entryFrame m #[.ref a, .ref b] 2)) (T3.setTop (mkF m 9 #[.val (.ref a), .val (.ref b)] [])) := g3
  exact ⟨T3, none, _, _, _, X3, by simp, rfl, by omega, (fun _ => rfl), e0, fun fs hl => c4.trans (X3.returnOut hexec hret (hb hbytes d9) hl)⟩
theorem pays {l : Launch} {R : Room} {p : Program} {e : Env} {below : List Frame} {s : State} {sargs : Array Value} {len W : Nat} (a : Addr) (D : Cell) (fV fC : Field) (b : Addr) (A : Cell) (z : Int32) (htab : tab.before sargs s = true) (hfr : 4 ≤ R.frames) (hlo : W + 65 ≤ R.locals) :
    Back l R p e below s sargs yN len W (fun A₁ a₁ => A₁.cells + 1 ≤ R.cells ∧ A₁.slots + A.slots.size ≤ R.slots ∧ P a D fV fC b A z a₁ A₁.U) (fun A₁ _ v₁ B₁ => E a D fV fC A v₁ A₁.U B₁.U ∧ B₁.locs = A₁.locs ++ [⟨a, fC.slot⟩, ⟨a, fV.slot⟩] ∧ B₁.cells = A₁.cells + 1 ∧ B₁.slots = A₁.slots + A.slots.size) :=
  (law l a D fV fC b A z).pays htab hfr (by omega)
end New1
end StrChars
namespace StrChars.Road
open Jvm Sem ClassFile Op Lib Jvm.Stand Jvm.Free Jvm.Free.XT
open Jvm.Lib.Cold (StaticIs)
abbrev ST : String := "java/lang/String"
/-- every table word that New1's law asks, flat -/
abbrev words : List Jvm.Cond := [.code New1.yN New1.yB 2 none, .initialized ST, .methodLink ST 27 New4.yN, .instanceMethod New4.yN,
  .code New4.yN New4.yB 6 none, .fieldLink ST 38 ST "COMPACT_STRINGS" "Z", .laysFinal ST ST "value" "[B", .fieldLink ST 9 ST "value" "[B", .laysFinal ST ST "coder" "B", .fieldLink ST 15 ST "coder" "B",
  .methodLink ST 1 Lib.objectInit, .instanceMethod Lib.objectInit, .code Lib.objectInit ⟨#[0xb1]⟩ 1 none, .methodLink ST 177 Cmp3.yN, .static Cmp3.yN, .methodLink ST 47 CodL.yN, .static CodL.yN,
  .code Cmp3.yN Cmp3.yB 6 (some (.array .byte)), .initialized U16, .arrayClass .byte, .methodLink U16 115 Cmp5.yN, .static Cmp5.yN, .code Cmp5.yN Cmp5.yB 7 (some .int), .code CodL.yN CodL.yB 2 (some .byte)]
theorem tab_of {a : Array Value} {s : State} (h : ∀ w ∈ words, w.before a s = true) : New1.tab.before a s = true := by
  have h5 : Cmp5.tab.before a s = true := unparts (wk h (.code Cmp5.yN Cmp5.yB 7 (some .int))) (wks h (.initialized Cmp5.yN.cls :: Cmp5.site))
  have hc : CodL.tab.before a s = true := unparts (wk h (.code CodL.yN CodL.yB 2 (some .byte))) (wks h (.initialized CodL.yN.cls :: CodL.site))
  have q5 : ∀ w ∈ Cmp5.tab :: words, w.before a s = true := fun w hw => (List.mem_cons.mp hw).elim (fun e => e ▸ h5) (h w)
  have h3 : Cmp3.tab.before a s = true := unparts (wk q5 (.code Cmp3.yN Cmp3.yB 6 (some (.array .byte)))) (wks q5 (.initialized Cmp3.yN.cls :: Cmp3.site))
  have q3 : ∀ w ∈ Cmp3.tab :: CodL.tab :: words, w.before a s = true := fun w hw => (List.mem_cons.mp hw).elim (fun e => e ▸ h3) fun hw => (List.mem_cons.mp hw).elim (fun e => e ▸ hc) (h w)
  have h4 : New4.tab.before a s = true := unparts (wk q3 (.code New4.yN New4.yB 6 none)) (wks q3 (.initialized New4.yN.cls :: New4.site))
  have q4 : ∀ w ∈ New4.tab :: words, w.before a s = true := fun w hw => (List.mem_cons.mp hw).elim (fun e => e ▸ h4) (h w)
  exact unparts (wk q4 (.code New1.yN New1.yB 2 none)) (wks q4 (.initialized New1.yN.cls :: New1.site))
/-- the words ride from the start Z to the walk's own state -/
theorem moved {Z s : State} {a0 args : Array Value} (hZ : Z.Warmed39 s.vm) (hw : ∀ d ∈ words, d.before a0 Z = true) : ∀ d ∈ words, d.before args s = true := fun d hd => by
  have q := hw d hd
  have t : ∀ d ∈ words, d = .arrayClass .byte ∨ (d.onTables && d.keepsFace) = true := by decide +kernel
  rcases t d hd with rfl | t
  · exact RoadKit.mvA hZ q
  · exact RoadKit.mv hZ q t
/-- WHAT COMES BACK, over the tables of the start Z: h the heap at the call, h' behind it -/
def Q (Z : State) (x : Addr) (A : Cell) (h : Heap) (v : Option Value) (h' : Heap) (L : List Loc) : Prop := v = none ∧ (∀ y ∈ L, y.base = x) ∧ RoadKit.Keep h h' [x] ∧ h'.size = h.size + 1 ∧ RoadKit.Exa Z h' x ST ∧ RoadKit.Fld Z h' x ST "value" "[B" (.ref h.size) ∧ RoadKit.Fld Z h' x ST "coder" "B" (.int 0) ∧
  (∃ V : Cell, RoadKit.Arr Z h' h.size V .byte ∧ V.vm = .none ∧ Z.vm.findClass "[B" = some V.cls ∧ V.slots.size = A.slots.size ∧ ∀ j, j < A.slots.size → V.slots[j]? = some (.int (lo8 (cv A j)))) ∧
  ∀ (O n d : String) (w : Value), RoadKit.Fld Z h x O n d w → RoadKit.slotOf Z O n d ≠ RoadKit.slotOf Z ST "value" "[B" → RoadKit.slotOf Z O n d ≠ RoadKit.slotOf Z ST "coder" "B" → RoadKit.Fld Z h' x O n d w
/-- **new String(chars) AT A CALL, IN THE ROAD'S FORM**: for specialBack behind newO: x the fresh String, b the char[] with the cell A -/
theorem back {p : Program} {l : Launch} {e : Env} {R : Room} {s : State} {args : Array Value} {below : List Frame} {len W : Nat} {Z : State} {a0 : Array Value} {h : Heap} (hZ : Z.Warmed39 s.vm) (hw : ∀ d ∈ words, d.before a0 Z = true) {kI : Nat} (wi : (Jvm.Cond.instantiable ST kI).before a0 Z = true)
    {x b : Addr} {A : Cell} {z : Int32} {v0 c0 : Value} (E : RoadKit.Exa Z h x ST) (V : RoadKit.Fld Z h x ST "value" "[B" v0) (C : RoadKit.Fld Z h x ST "coder" "B" c0) (K : RoadKit.Arr Z h b A .char) (hty : Typed .char A) (S : RoadKit.Sta Z h ST "COMPACT_STRINGS" "Z" (.int z)) (hz : ¬ z = 0)
    (l0 : 0 < A.slots.size) (l2 : A.slots.size ≤ 536870912) (hp : ∀ i, i < A.slots.size → ¬ 255 < cv A i) (hfr : 4 ≤ R.frames) (hlo : W + 65 ≤ R.locals) :
    Back l R p e below s args New1.yN len W (fun P a => a = #[.ref x, .ref b] ∧ P.U.heap = h ∧ P.cells + 1 ≤ R.cells ∧ P.slots + A.slots.size ≤ R.slots)
      (fun P _ v B => ∃ L, Q Z x A h v B.U.heap L ∧ B.locs = P.locs ++ L ∧ B.cells = P.cells + 1 ∧ B.slots = P.slots + A.slots.size) := by
  intro m meth c P g ig mk a X hg hsize hdg hW hn hp'
  obtain ⟨rfl, rfl, r1, r2⟩ := hp'
  have al : Z.vm.Alike P.U.vm := hZ.alike.trans X.warmed.alike
  obtain ⟨D, cfV, kV, iV, fV, hD, gV, stV, knV, obV, asV, slV⟩ := id V
  obtain ⟨D', cfC, kC, iC, fC, hD', gC, stC, -, -, asC, slC⟩ := id C
  cases hD.symm.trans hD'
  obtain ⟨D2, kD, e1, e2, e3, e4, e5⟩ := id E
  cases hD.symm.trans e1
  obtain ⟨c2, k2, i1, i2, i3, -⟩ := Cond.instantiable_spec wi
  cases e2.symm.trans i1
  cases e3.symm.trans i2
  obtain ⟨kU, u1, u2⟩ := al.2.2 _ _ e3
  have hB : Blank ST x D P.U := ⟨hD, ⟨knV, fun q hq => by rw [hq] at obV; cases obV⟩, by rw [al.findClass]; exact e2, kU, u1, by rw [u2]; exact i3, by rw [u2]; exact e5 i3⟩
  have F1 : Found ST "value" "[B" fV P.U := ⟨SBG.found_only al ⟨cfV, kV, iV, gV⟩, stV⟩
  have F2 : Found ST "coder" "B" fC P.U := ⟨SBG.found_only al ⟨cfC, kC, iC, gC⟩, stC⟩
  have hA : Ch b A P.U := ⟨⟨K.1, State.isArrayOf_alike al K.2.1, K.2.2, by omega⟩, hty⟩
  have hS : StaticIs P.U ST "COMPACT_STRINGS" "Z" (.int z) := by
    obtain ⟨cfS, iS, kS, fS, st, cS, t1, t2, t3, t4, t5, t6, t7⟩ := S
    exact StaticIs.there (s := { Z with heap := P.U.heap }) ⟨cfS, iS, kS, fS, st, cS, t1, t2, t3, t4, t5, (fun q => by rw [q] at t6; cases t6), t7⟩ al rfl
  obtain ⟨v, B, X', ⟨⟨hv, E', V', q1, q2, q3, q4, q5, q6, q7, q8, q9, q10, q11⟩, hl, hc, hs⟩, st⟩ := New1.pays x D fV fC b A z (tab_of (moved hZ hw)) hfr hlo m meth c P g ig mk _ X hg hsize hdg hW hn ⟨r1, r2, rfl, hB, F1, F2, hA, hS, hz, l0, l2, hp⟩
  have al' : Z.vm.Alike B.U.vm := hZ.alike.trans X'.warmed.alike
  have hsz : E'.slots.size = D.slots.size := by
    obtain ⟨-, -, -, kB, w1, w2, w3⟩ := q1
    obtain ⟨kB', y1, y2⟩ := al'.2.2 _ _ e3
    rw [q2.2.1] at w1
    cases w1.symm.trans y1
    rw [w3, e5 i3, y2]
  refine ⟨v, B, X', ⟨_, ⟨hv, ?_, ⟨by omega, fun y cy hy hn' => q10 y cy (by simpa using hn') hy, fun y cy hy => ?_⟩, q11, ⟨E', _, q1.1, by rw [q2.2.1]; exact e2, by rw [q2.2.1]; exact e3, by rw [q2.1]; exact obV, fun _ => by rw [hsz]; exact e5 i3⟩,
    ⟨E', cfV, kV, iV, fV, q1.1, gV, stV, by rw [q2.1]; exact knV, by rw [q2.1]; exact obV, by rw [q2.2.1]; exact asV, q3⟩, ⟨E', cfC, kC, iC, fC, q1.1, gC, stC, by rw [q2.1]; exact knV, by rw [q2.1]; exact obV, by rw [q2.2.1]; exact asC, q4⟩,
    ⟨V', ⟨q5.1, State.isArrayOf_alike al'.symm q5.2.1, q5.2.2.1⟩, q6, by rw [← al'.findClass]; exact q7, q8, fun j hj => by have := q9 j hj; rwa [Nat.zero_add] at this⟩, fun O n d w F n1 n2 => ?_⟩, hl, hc, hs⟩, st⟩
  · intro y hy
    simp only [List.mem_cons, List.not_mem_nil, or_false] at hy
    rcases hy with rfl | rfl <;> rfl
  · by_cases q : y = x
    · subst q
      cases hD.symm.trans hy
      exact ⟨E', q1.1, q2.2.1, q2.1, hsz⟩
    · exact ⟨cy, q10 y cy q hy, rfl, rfl, rfl⟩
  · obtain ⟨D3, cf, k, i, f, g1, g2, g3, g4, g5, g6, g7⟩ := F
    cases hD.symm.trans g1
    simp only [RoadKit.slotOf, g2, gV, gC, Option.map_some, Option.getD_some] at n1 n2
    exact ⟨E', cf, k, i, f, q1.1, g2, g3, by rw [q2.1]; exact g4, by rw [q2.1]; exact g5, by rw [q2.2.1]; exact g6, by rw [q2.2.2 f.slot (by simp [n1, n2])]; exact g7⟩
end StrChars.Road
namespace StrChars.Road
open Jvm Sem ClassFile Op Lib Jvm.Stand Jvm.Free Jvm.Free.XT
/-- WHAT COMES BACK, the byte[] as a list of values -/
def QA (Z : State) (x : Addr) (zn : Int32) (cs : List Int32) (h : Heap) (v : Option Value) (h' : Heap) (L : List Loc) : Prop := v = none ∧ (∀ y ∈ L, y.base = x) ∧ RoadKit.Keep h h' [x] ∧ h'.size = h.size + 1 ∧ RoadKit.Exa Z h' x ST ∧ RoadKit.Fld Z h' x ST "value" "[B" (.ref h.size) ∧ RoadKit.Fld Z h' x ST "coder" "B" (.int 0) ∧
  (∃ kb, Z.vm.findClass "[B" = some kb ∧ RoadKit.Arv Z h' h.size kb .byte zn (cs.map fun c => .int (lo8 c)) (.int 0)) ∧
  ∀ (O n d : String) (w : Value), RoadKit.Fld Z h x O n d w → RoadKit.slotOf Z O n d ≠ RoadKit.slotOf Z ST "value" "[B" → RoadKit.slotOf Z O n d ≠ RoadKit.slotOf Z ST "coder" "B" → RoadKit.Fld Z h' x O n d w
/-- **new String(chars) AT A CALL, THE ARRAYS AS LISTS**: the char[] at b holds cs, not empty, no char above 255 -/
theorem backArv {p : Program} {l : Launch} {e : Env} {R : Room} {s : State} {args : Array Value} {below : List Frame} {len W : Nat} {Z : State} {a0 : Array Value} {h : Heap} (hZ : Z.Warmed39 s.vm) (hw : ∀ d ∈ words, d.before a0 Z = true) {kI : Nat} (wi : (Jvm.Cond.instantiable ST kI).before a0 Z = true)
    {x b : Addr} {k : ClassId} {zn z : Int32} {cs : List Int32} {dv v0 c0 : Value} (E : RoadKit.Exa Z h x ST) (V : RoadKit.Fld Z h x ST "value" "[B" v0) (C : RoadKit.Fld Z h x ST "coder" "B" c0) (K : RoadKit.Arv Z h b k .char zn (cs.map Value.int) dv) (S : RoadKit.Sta Z h ST "COMPACT_STRINGS" "Z" (.int z)) (hz : ¬ z = 0)
    (hlen : zn.toNatClampNeg = cs.length) (h0 : 0 < cs.length) (hbig : cs.length ≤ 536870912) (hall : ∀ c ∈ cs, ¬ 255 < c) (hfr : 4 ≤ R.frames) (hlo : W + 65 ≤ R.locals) :
    Back l R p e below s args New1.yN len W (fun P a => a = #[.ref x, .ref b] ∧ P.U.heap = h ∧ P.cells + 1 ≤ R.cells ∧ P.slots + cs.length ≤ R.slots)
      (fun P _ v B => ∃ L, QA Z x zn cs h v B.U.heap L ∧ B.locs = P.locs ++ L ∧ B.cells = P.cells + 1 ∧ B.slots = P.slots + cs.length) := by
  obtain ⟨A, K1, K2, K3, K4, K5, K6⟩ := K
  have e : A.slots.size = cs.length := K3.trans hlen
  have hat : ∀ (i : Nat) (hi : i < cs.length), A.slots[i]? = some (.int cs[i]) := fun i hi => by rw [K5 i (by omega)]; simp [List.getD_eq_getElem?_getD, hi]
  have hcv : ∀ (i : Nat) (hi : i < cs.length), cv A i = cs[i] := fun i hi => by unfold cv; rw [hat i hi]
  have hty : Typed .char A := fun i v hv => by
    have hi : i < A.slots.size := (Array.getElem?_eq_some_iff.mp hv).1
    have q := K5 i hi
    rw [hv] at q
    rw [Option.some.inj q]
    exact K6 i hi
  refine Back.mono (back hZ hw wi E V C K1 hty S hz (by omega) (by omega) (fun i hi => by rw [hcv i (by omega)]; exact hall _ (List.getElem_mem _)) hfr hlo) (fun P a hp => ⟨hp.1, hp.2.1, hp.2.2.1, by rw [e]; exact hp.2.2.2⟩) (fun P a v B hp hq => ?_)
  obtain ⟨L, ⟨q1, q2, q3, q4, q5, q6, q7, ⟨V', v1, v2, v3, v4, v5⟩, q9⟩, hl, hc, hs⟩ := hq
  refine ⟨L, ⟨q1, q2, q3, q4, q5, q6, q7, ⟨V'.cls, v3, V', v1, rfl, by rw [v4, e, hlen], K4, fun i hi => ?_, fun i hi => ?_⟩, q9⟩, hl, hc, by rw [hs, e]⟩
  · have hi' : i < cs.length := by omega
    rw [v5 i (by omega), hcv i hi']; simp [List.getD_eq_getElem?_getD, hi']
  · have hi' : i < cs.length := by omega
    simp only [List.getD_eq_getElem?_getD, List.getElem?_map, List.getElem?_eq_getElem hi', Option.map_some, Option.getD_some]
    exact fits_lo8 _
end StrChars.Road
namespace StrChars.Road
open Jvm Sem ClassFile Op Lib Jvm.Stand Jvm.Free Jvm.Free.XT
/-- WHAT COMES BACK, in the writer's own shape -/
def QV (Z : State) (x : Addr) (N : Int32) (bs : List Int32) (h : Heap) (n0 : Nat) (v : Option Value) (h' : Heap) (L : List Loc) : Prop := v = none ∧ RoadKit.Fr n0 L ∧ RoadKit.Keep h h' [x] ∧ RoadKit.Exa Z h' x ST ∧ RoadKit.Fld Z h' x ST "coder" "B" (.int 0) ∧
  ∃ (t : Addr) (kb : ClassId), n0 ≤ t ∧ h.size ≤ t ∧ ¬ t = x ∧ RoadKit.Fld Z h' x ST "value" "[B" (.ref t) ∧ RoadKit.Arv Z h' t kb .byte N (bs.map Value.int) (.int 0)
/-- **new String(chars) AT A CALL, FOR THE WRITER**: a char[] of n known ints, each 0 to 255 -/
theorem backV {p : Program} {l : Launch} {e : Env} {R : Room} {s : State} {args : Array Value} {below : List Frame} {len W : Nat} {Z : State} {a0 : Array Value} {h : Heap} (hZ : Z.Warmed39 s.vm) (hw : ∀ d ∈ words, d.before a0 Z = true) {kI : Nat} (wi : (Jvm.Cond.instantiable ST kI).before a0 Z = true)
    {x b : Addr} {kC : ClassId} {cs bs : List Int32} {d v0 c0 : Value} {z N : Int32} {n n0 : Nat} (hx0 : n0 ≤ x) (hh0 : n0 ≤ h.size) (E : RoadKit.Exa Z h x ST) (V : RoadKit.Fld Z h x ST "value" "[B" v0) (C : RoadKit.Fld Z h x ST "coder" "B" c0) (K : RoadKit.Arv Z h b kC .char N (cs.map Value.int) d) (S : RoadKit.Sta Z h ST "COMPACT_STRINGS" "Z" (.int z)) (hz : ¬ z = 0)
    (hn : cs.length = n) (hN : N = Int32.ofNat n) (l0 : 0 < n) (l2 : n ≤ 4000) (hp : ∀ c ∈ cs, ¬ c < 0 ∧ ¬ (255 : Int32) < c) (hb : bs = cs.map (fun c => c.toInt8.toInt32)) (hfr : 4 ≤ R.frames) (hlo : W + 65 ≤ R.locals) :
    Back l R p e below s args (⟨"java/lang/String", "<init>", "([C)V"⟩ : MethodName) len W (fun P a => a = #[.ref x, .ref b] ∧ P.U.heap = h ∧ P.cells + 1 ≤ R.cells ∧ P.slots + n ≤ R.slots)
      (fun P _ v B => ∃ L, QV Z x N bs h n0 v B.U.heap L ∧ B.locs = P.locs ++ L ∧ B.cells = P.cells + 1 ∧ B.slots = P.slots + n) := by
  subst hn hN hb
  refine Back.mono (backArv hZ hw wi E V C K S hz (n32 (by omega)) l0 (by omega) (fun c hc => (hp c hc).2) hfr hlo) (fun P a hp => hp) (fun P a v B hp hq => ?_)
  obtain ⟨L, ⟨q1, q2, q3, q4, q5, q6, q7, ⟨kb, v1, v2⟩, q9⟩, hl, hc, hs⟩ := hq
  exact ⟨L, ⟨q1, fun y hy => by rw [q2 y hy]; exact hx0, q3, q5, q7, h.size, kb, hh0, Nat.le_refl _, Nat.ne_of_gt E.lt, q6, by rw [List.map_map]; exact v2⟩, hl, hc, hs⟩
end StrChars.Road
end Jvm.Pilot.@@N@@

namespace Jvm.RoadKit
open Sem ClassFile Op Lib Jvm.Stand Jvm.Free Jvm.LawKit
section New
variable {p : Program} {l : Launch} {e : Env} {R : Room} {s : State} {m : MethodId} {args : Array Value} {below : List Frame} {meth : Method} {c : Code} {T : State} {locs : List Loc} {cells slots : Nat}
theorem retI (X : Stand p l e R s m args below meth c T locs cells slots) (hx : p.tables.exec = Jvm.exec) {pc : Nat} {Ls : Array Slot} {z : Int32} {rest : List Value} (hret : meth.sig.returnType = some .int) (hd : decode c.code pc = .ok (.ireturn, 1)) {fs : List Frame}
    (hl : ∀ (f : JFrame) (acts : List Action), f.method = m → f.locked = none → f.entered = [] → (doReturn e (T.setTop f) acts (some (.int z))).1 = T.setFrames fs) : Steps p.tables e below (T.setTop (mkF m pc Ls (.int z :: rest))) (T.setFrames fs) := by
  have hm' : T.vm.method? m = some meth := X.method'
  have hn : narrow .int (.int z) = .int z := rfl
  show Steps p.tables e below (T.setTop { method := m, pc := pc, locals := Ls, stack := _ :: rest, locked := none }) _
  jvm_step X.here [X.here.top, hx, hd, hm', hret, hn]
  first | (intro acts; rw [hl _ acts rfl rfl rfl]) | rw [hl _ _ rfl rfl rfl]
  exact Steps.refl _
theorem own_retJ (X : Stand p l e R s m args below meth c T locs cells slots) (hx : p.tables.exec = Jvm.exec) {pc : Nat} {Ls : Array Slot} {z : Int64} {rest : List Value} (hret : meth.sig.returnType = some .long) (hd : decode c.code pc = .ok (.lreturn, 1)) {fs : List Frame}
    (hl : ∀ (f : JFrame) (acts : List Action), f.method = m → f.locked = none → f.entered = [] → (doReturn e (T.setTop f) acts (some (.long z))).1 = T.setFrames fs) : Steps p.tables e below (T.setTop (mkF m pc Ls (.long z :: rest))) (T.setFrames fs) := by
  have hm' : T.vm.method? m = some meth := X.method'
  show Steps p.tables e below (T.setTop { method := m, pc := pc, locals := Ls, stack := _ :: rest, locked := none }) _
  jvm_step X.here [X.here.top, hx, hd, hm', hret, narrow]
  first | (intro acts; rw [hl _ acts rfl rfl rfl]) | rw [hl _ _ rfl rfl rfl]
  exact Steps.refl _
theorem own_retR (X : Stand p l e R s m args below meth c T locs cells slots) (hx : p.tables.exec = Jvm.exec) {pc : Nat} {Ls : Array Slot} {z : Value} (hz : z.isRef = true) {rest : List Value} {t : FieldType} (hret : meth.sig.returnType = some t) (ht : t.isReference = true) (hd : decode c.code pc = .ok (.areturn, 1)) {fs : List Frame}
    (hl : ∀ (f : JFrame) (acts : List Action), f.method = m → f.locked = none → f.entered = [] → (doReturn e (T.setTop f) acts (some z)).1 = T.setFrames fs) : Steps p.tables e below (T.setTop (mkF m pc Ls (z :: rest))) (T.setFrames fs) := by
  have hm' : T.vm.method? m = some meth := X.method'
  show Steps p.tables e below (T.setTop { method := m, pc := pc, locals := Ls, stack := _ :: rest, locked := none }) _
  rcases ref_cases hz with rfl | ⟨a, rfl⟩ <;> cases t <;> first
    | (simp [FieldType.isReference] at ht; done)
    | (jvm_step X.here [X.here.top, hx, hd, hm', hret, Value.isRef, FieldType.isReference]
       first | (intro acts; rw [hl _ acts rfl rfl rfl]) | rw [hl _ _ rfl rfl rfl]
       exact Steps.refl _)
/-- the walk goes on: from this frame the body comes to an end at which P holds -/
def own_G (tb : Tables) (e : Env) (below : List Frame) (T : State) (f : JFrame) (P : State → Outcome → Prop) : Prop := ∃ s₂ o, Steps tb e below (T.setTop f) s₂ ∧ P s₂ o
def own_P (below : List Frame) (s : State) (Q : Option Value → Heap → List Loc → Prop) (ck kk : Nat) : State → Outcome → Prop := fun s₂ o => s₂.status = .running ∧ Ended s₂ below o ∧ ∃ v L, o = .returned v ∧ Q v s₂.heap L ∧ FrameEnd s o s₂ L ck kk
theorem own_go {tb : Tables} {e : Env} {below : List Frame} {T T' : State} {f f' : JFrame} {P : State → Outcome → Prop} (h : ∀ t, Steps tb e below (T'.setTop f') t → Steps tb e below (T.setTop f) t) (g : own_G tb e below T' f' P) : own_G tb e below T f P := by
  obtain ⟨a, o, h1, h2⟩ := g; exact ⟨a, o, h a h1, h2⟩
theorem own_end (X : Stand p l e R s m args below meth c T locs cells slots) (hlocks : meth.locks = false) {v : Option Value} (hv : meth.sig.returnType = none → v = none) {f : JFrame}
    (hret : ∀ fs, (∀ (f : JFrame) (acts : List Action), f.method = m → f.locked = none → f.entered = [] → (doReturn e (T.setTop f) acts v).1 = T.setFrames fs) → Steps p.tables e below (T.setTop f) (T.setFrames fs))
    {Q : Option Value → Heap → List Loc → Prop} {h : Heap} (eT : T.heap = h) (hQ : Q v h locs) {ck kk : Nat} (hc : cells ≤ ck) (hk : slots ≤ kk) : own_G p.tables e below T f (own_P below s Q ck kk) := by
  obtain ⟨fs, hr, hrun, hended, hW, hsame⟩ := X.leave (v := v) hv hlocks
  subst eT
  exact ⟨_, _, hret fs hr, hrun, hended, _, _, rfl, hQ, ⟨_, rfl⟩, hW, hsame.mono hc hk⟩
theorem own_top {tb : Tables} {e : Env} {below : List Frame} {T : State} {f f' : JFrame} {s : State} {Q : Option Value → Heap → List Loc → Prop} {ck kk : Nat} (ef : f = f') (g : own_G tb e below T f' (own_P below s Q ck kk)) :
    ∃ s₂ o, Steps tb e below (T.setTop f) s₂ ∧ s₂.status = .running ∧ Ended s₂ below o ∧ ∃ v L, o = .returned v ∧ Q v s₂.heap L ∧ FrameEnd s o s₂ L ck kk := by
  subst ef; exact g
theorem own_sk {Z : State} {h h' : Heap} {C n d : String} {v : Value} {ws : List Addr} (F : Sta Z h C n d v) (K : Keep h h' ws) (q : ∀ x ∈ ws, ∀ c : Cell, h[x]? = some c → c.vm.isStatics = false) : Sta Z h' C n d v := by
  obtain ⟨cf, i, k, f, st, cell, h1, h2, h3, h4, h5, h6, h7⟩ := F
  exact ⟨cf, i, k, f, st, cell, h1, h2, h3, h4, K.2.1 st cell h5 (fun hm => by have := q st hm cell h5; rw [h6] at this; cases this), h6, h7⟩
theorem own_ak {Z : State} {h h' : Heap} {a : Addr} {c : Cell} {ty : FieldType} (A : Arr Z h a c ty) (K : Keep h h' []) : Arr Z h' a c ty := ⟨K.2.1 a c A.1 List.not_mem_nil, A.2⟩
theorem own_akn {Z : State} {h h' : Heap} {a : Addr} {c : Cell} {ty : FieldType} {ws : List Addr} (A : Arr Z h a c ty) (K : Keep h h' ws) (q : a ∉ ws) : Arr Z h' a c ty := ⟨K.2.1 a c A.1 q, A.2⟩
theorem own_plv {Z : State} {h : Heap} {a : Addr} {k : ClassId} {ty : FieldType} {n : Int32} {vs : List Value} {d : Value} (A : Arv Z h a k ty n vs d) : ∀ c : Cell, h[a]? = some c → c.vm.isStatics = false := fun c hc => by
  obtain ⟨cl, A, -⟩ := A; have := A.1; rw [this] at hc; cases hc; exact A.plain
theorem own_pl {Z : State} {h : Heap} {a : Addr} {C : String} (E : Exa Z h a C) : ∀ c : Cell, h[a]? = some c → c.vm.isStatics = false := fun c hc => by
  obtain ⟨cell, k, h1, _, _, h4, _⟩ := E; rw [h1] at hc; cases hc; exact h4
theorem own_pl1 {h : Heap} {a : Addr} (q : ∀ c : Cell, h[a]? = some c → c.vm.isStatics = false) : ∀ x ∈ [a], ∀ c : Cell, h[x]? = some c → c.vm.isStatics = false := fun x hx => by
  cases List.mem_singleton.mp hx; exact q
end New
end Jvm.RoadKit
namespace Jvm.Pilot.@@N@@
open Jvm Jvm.ClassFile Sem Op Lib Jvm.Free Jvm.Stand Jvm.LawKit Jvm.RoadKit Bundle Jvm.Pilot.@@N@@.Jvm.D
theorem own_pd0 : parseMethodDescriptor "()V" = some ⟨[], none⟩ := by decide +kernel
theorem own_pd1 : parseMethodDescriptor "()I" = some ⟨[], some .int⟩ := by decide +kernel
theorem own_pd2 : parseMethodDescriptor "([C)V" = some ⟨[(.array .char)], none⟩ := by decide +kernel
theorem own_pd3 : parseMethodDescriptor "(Lcom/example/replan/replan/model/Token$Kind;Ljava/lang/String;II)V" = some ⟨[(.object "com/example/replan/replan/model/Token$Kind"), (.object "java/lang/String"), .int, .int], none⟩ := by decide +kernel
theorem own_pd4 : parseMethodDescriptor "(Lcom/example/replan/replan/model/Token;Lcom/example/replan/replan/model/Token;)V" = some ⟨[(.object "com/example/replan/replan/model/Token"), (.object "com/example/replan/replan/model/Token")], none⟩ := by decide +kernel
theorem own_pd5 : parseMethodDescriptor "()Lcom/example/replan/replan/model/Token;" = some ⟨[], some (.object "com/example/replan/replan/model/Token")⟩ := by decide +kernel
theorem own_pd6 : parseMethodDescriptor "(Lcom/example/replan/replan/model/Token;Lcom/example/replan/replan/model/Token;)Z" = some ⟨[(.object "com/example/replan/replan/model/Token"), (.object "com/example/replan/replan/model/Token")], some .boolean⟩ := by decide +kernel
theorem own_pn0 : plainName "java/lang/Record" = true := by first | (simp [plainName, overriddenIn]; done) | decide +kernel
theorem own_pn1 : plainName "com/example/replan/replan/model/Token" = true := by first | (simp [plainName, overriddenIn]; done) | decide +kernel
theorem own_pn2 : plainName "com/example/replan/replan/model/SelectStatement$ColumnName" = true := by first | (simp [plainName, overriddenIn]; done) | decide +kernel
theorem own_pn3 : plainName "com/example/replan/replan/model/ColumnNameStartPinLaw" = true := by first | (simp [plainName, overriddenIn]; done) | decide +kernel

theorem own_m255 (x : Int32) : ¬ (255 : Int32) < (x &&& 255) := by
  have q := c_and x 255 (by decide)
  rw [Int32.lt_iff_toInt_lt]; have : (255 : Int32).toInt = 255 := rfl
  omega
theorem own_m0 (x : Int32) : ¬ (x &&& 255) < (0 : Int32) := by
  have q := c_and x 255 (by decide)
  rw [Int32.lt_iff_toInt_lt]; have : (0 : Int32).toInt = 0 := rfl
  omega


theorem own_lt1 (x : Int32) : ((x &&& (65535 : Int32)) + (1 : Int32)) < (((x &&& (65535 : Int32)) + (1 : Int32)) + (1 : Int32)) := by
  have q := c_and x 65535 (by decide); have e5 : (65535 : Int32).toInt = 65535 := rfl
  have a := c_iadd (x &&& 65535) 1; have e1 : (1 : Int32).toInt = 1 := rfl
  have r1 := rng32 ((x &&& 65535) + 1)
  have b := c_iadd ((x &&& 65535) + 1) 1
  have r2 := rng32 ((x &&& 65535) + 1 + 1)
  rw [Int32.lt_iff_toInt_lt]; omega
theorem own_lt2 (x z : Int32) : ((x &&& (65535 : Int32)) + (1 : Int32)) < ((((x &&& (65535 : Int32)) + (1 : Int32)) + (2 : Int32)) + (z &&& (255 : Int32))) := by
  have q := c_and x 65535 (by decide); have e5 : (65535 : Int32).toInt = 65535 := rfl
  have q' := c_and z 255 (by decide); have e6 : (255 : Int32).toInt = 255 := rfl
  have a := c_iadd (x &&& 65535) 1; have e1 : (1 : Int32).toInt = 1 := rfl; have e2 : (2 : Int32).toInt = 2 := rfl
  have r1 := rng32 ((x &&& 65535) + 1)
  have b := c_iadd ((x &&& 65535) + 1) 2
  have r2 := rng32 ((x &&& 65535) + 1 + 2)
  have c := c_iadd ((x &&& 65535) + 1 + 2) (z &&& 255)
  have r3 := rng32 ((x &&& 65535) + 1 + 2 + (z &&& 255))
  rw [Int32.lt_iff_toInt_lt]; omega

theorem d8_0 : decode jdk_30_method_1_code 0 = .ok (.aload_n 0, 1) := by decide +kernel
theorem d8_1 : decode jdk_30_method_1_code 1 = .ok (.invokespecial 1, 3) := by decide +kernel
theorem d8_4 : decode jdk_30_method_1_code 4 = .ok (.return_, 1) := by decide +kernel
theorem ef_8 (m : MethodId) (a1 : Addr) : entryFrame m #[(.ref a1)] 1 = mkF m 0 #[.val (.ref a1)] [] := by first | (simp [entryFrame, mkF, argsToLocals, Value.category]; done) | rfl
def Q8 (Z : State) (a1 : Addr)  (h0 : Heap) (n0 : Nat) (v : Option Value) (h : Heap) (L : List Loc) : Prop := v = none ∧ Fr n0 L ∧ h = h0
set_option maxRecDepth 65536 in
set_option maxHeartbeats 40000000 in
theorem rm8 (l : Launch) (Z : State) (a0 : Array Value) (hw : ∀ d ∈ tables_1, d.before a0 Z = true) (ws : List Jvm.Cond) (a1 : Addr)  (h0 : Heap) (n0 : Nat) (Z0 : n0 ≤ h0.size) :
    MetFree l (⟨"java/lang/Record", "<init>", "()V"⟩ : MethodName) (head1 (Jvm.Cond.code (⟨"java/lang/Record", "<init>", "()V"⟩ : MethodName) jdk_30_method_1_code 1 none :: ws) ({ frames := 1, cells := 0, slots := 0, locals := 12 } : Room)) (fun a U => a = #[(.ref a1)] ∧ Z.Warmed39 U.vm ∧ U.heap = h0) (fun _ _ _ _ _ => True) (fun _ U o U' => ∃ v L, o = .returned v ∧ Q8 Z a1 h0 n0 v U'.heap L ∧ FrameEnd U o U' L ({ frames := 1, cells := 0, slots := 0, locals := 12 } : Room).cells ({ frames := 1, cells := 0, slots := 0, locals := 12 } : Room).slots) := by
  refine MetFree.of_bodySF (plainFor_of_name own_pn0) hisR ?_
  intro p e s m args below meth c s₁ Bd hml0 hP hK
  obtain ⟨rfl, hZ, hh⟩ := hP
  have hx := Bd.exec
  have hby := Bd.bytes
  have hml : c.maxLocals = 1 := hml0
  have hown : s.vm.findClass "java/lang/Record" = some m.cls := findClass_of_methodNamed Bd.named
  have hnm := (name_of_methodNamed Bd.named Bd.method).1
  have X0 : Stand p l e ({ frames := 1, cells := 0, slots := 0, locals := 12 } : Room) s m #[(.ref a1)] below meth c s₁ [] 0 0 := Stand.of_body Bd
  have e0 : s₁.heap = h0 := by rw [← hh, Bd.state]; rfl
  have N0 := Fr.nil n0
  refine own_top (Q := Q8 Z a1 h0 n0) (ef_8 m a1) ?_
  show own_G p.tables e below s₁ (mkF m 0 #[.val (.ref a1)] []) _
  refine own_go (fun t_ k_ => XS.aloadN X0.here hx rfl (hb hby d8_0) rfl rfl k_) ?_
  show own_G p.tables e below s₁ (mkF m 1 #[.val (.ref a1)] [(.ref a1)]) _
  obtain ⟨T1, X1, e1, st1⟩ := initO X0 hx hZ hown (hw _ (List.mem_of_getElem? (i := 45) rfl)) (hw _ (List.mem_of_getElem? (i := 19) rfl)) (hw _ (List.mem_of_getElem? (i := 20) rfl)) e0 (g := (mkF m 1 #[.val (.ref a1)] [(.ref a1)])) rfl (by rw [hml]; rfl) rfl (hb hby d8_1) (by decide) (W := 0) (by show 2 * 0 + _ ≤ _; exact Nat.le_of_eq rfl) (by decide)
  refine own_go st1 ?_
  show own_G p.tables e below T1 (mkF m 4 #[.val (.ref a1)] []) _
  exact own_end (v := none) X1 Bd.notSynchronized (fun _ => rfl) (fun fs hr => X1.returnOut hx Bd.returns (hb hby d8_4) hr) e1 ⟨rfl, N0, rfl⟩ (by decide) (by decide)
theorem d7_0 : decode prog_48_method_1_code 0 = .ok (.aload_n 0, 1) := by decide +kernel
theorem d7_1 : decode prog_48_method_1_code 1 = .ok (.invokespecial 1, 3) := by decide +kernel
theorem d7_4 : decode prog_48_method_1_code 4 = .ok (.aload_n 0, 1) := by decide +kernel
theorem d7_5 : decode prog_48_method_1_code 5 = .ok (.aload_n 1, 1) := by decide +kernel
theorem d7_6 : decode prog_48_method_1_code 6 = .ok (.putfield 7, 3) := by decide +kernel
theorem d7_9 : decode prog_48_method_1_code 9 = .ok (.aload_n 0, 1) := by decide +kernel
theorem d7_10 : decode prog_48_method_1_code 10 = .ok (.aload_n 2, 1) := by decide +kernel
theorem d7_11 : decode prog_48_method_1_code 11 = .ok (.putfield 13, 3) := by decide +kernel
theorem d7_14 : decode prog_48_method_1_code 14 = .ok (.aload_n 0, 1) := by decide +kernel
theorem d7_15 : decode prog_48_method_1_code 15 = .ok (.iload_n 3, 1) := by decide +kernel
theorem d7_16 : decode prog_48_method_1_code 16 = .ok (.putfield 17, 3) := by decide +kernel
theorem d7_19 : decode prog_48_method_1_code 19 = .ok (.aload_n 0, 1) := by decide +kernel
theorem d7_20 : decode prog_48_method_1_code 20 = .ok (.iload 4, 2) := by decide +kernel
theorem d7_22 : decode prog_48_method_1_code 22 = .ok (.putfield 21, 3) := by decide +kernel
theorem d7_25 : decode prog_48_method_1_code 25 = .ok (.return_, 1) := by decide +kernel
theorem ef_7 (m : MethodId) (a1 : Addr) (a2 : Addr) (a3 : Addr) (p4 : Int32) (p5 : Int32) : entryFrame m #[(.ref a1), (.ref a2), (.ref a3), (.int p4), (.int p5)] 5 = mkF m 0 #[.val (.ref a1), .val (.ref a2), .val (.ref a3), .val (.int p4), .val (.int p5)] [] := by first | (simp [entryFrame, mkF, argsToLocals, Value.category]; done) | rfl
def Q7 (Z : State) (a1 : Addr) (a2 : Addr) (a3 : Addr) (p4 : Int32) (p5 : Int32)  (h0 : Heap) (n0 : Nat) (v : Option Value) (h : Heap) (L : List Loc) : Prop := v = none ∧ Fr n0 L ∧ Keep h0 h [a1] ∧ Exa Z h a1 "com/example/replan/replan/model/Token" ∧ Fld Z h a1 "com/example/replan/replan/model/Token" "line" "I" (.int p4) ∧ Fld Z h a1 "com/example/replan/replan/model/Token" "column" "I" (.int p5)
set_option maxRecDepth 65536 in
set_option maxHeartbeats 40000000 in
theorem rm7 (l : Launch) (Z : State) (a0 : Array Value) (hw : ∀ d ∈ tables_1, d.before a0 Z = true) (ws : List Jvm.Cond) (a1 : Addr) (a2 : Addr) (a3 : Addr) (p4 : Int32) (p5 : Int32)  (h0 : Heap) (n0 : Nat) (Z0 : n0 ≤ h0.size) (ge1 : n0 ≤ a1) (E1 : Exa Z h0 a1 "com/example/replan/replan/model/Token") (F_kind : Fld Z h0 a1 "com/example/replan/replan/model/Token" "kind" "Lcom/example/replan/replan/model/Token$Kind;" .null) (F_text : Fld Z h0 a1 "com/example/replan/replan/model/Token" "text" "Ljava/lang/String;" .null) (F_line : Fld Z h0 a1 "com/example/replan/replan/model/Token" "line" "I" (.int (0 : Int32))) (F_column : Fld Z h0 a1 "com/example/replan/replan/model/Token" "column" "I" (.int (0 : Int32))) :
    MetFree l (⟨"com/example/replan/replan/model/Token", "<init>", "(Lcom/example/replan/replan/model/Token$Kind;Ljava/lang/String;II)V"⟩ : MethodName) (head1 (Jvm.Cond.code (⟨"com/example/replan/replan/model/Token", "<init>", "(Lcom/example/replan/replan/model/Token$Kind;Ljava/lang/String;II)V"⟩ : MethodName) prog_48_method_1_code 5 none :: ws) ({ frames := 2, cells := 0, slots := 0, locals := 24 } : Room)) (fun a U => a = #[(.ref a1), (.ref a2), (.ref a3), (.int p4), (.int p5)] ∧ Z.Warmed39 U.vm ∧ U.heap = h0) (fun _ _ _ _ _ => True) (fun _ U o U' => ∃ v L, o = .returned v ∧ Q7 Z a1 a2 a3 p4 p5 h0 n0 v U'.heap L ∧ FrameEnd U o U' L ({ frames := 2, cells := 0, slots := 0, locals := 24 } : Room).cells ({ frames := 2, cells := 0, slots := 0, locals := 24 } : Room).slots) := by
  refine MetFree.of_bodySF (plainFor_of_name own_pn1) hisR ?_
  intro p e s m args below meth c s₁ Bd hml0 hP hK
  obtain ⟨rfl, hZ, hh⟩ := hP
  have hx := Bd.exec
  have hby := Bd.bytes
  have hml : c.maxLocals = 5 := hml0
  have hown : s.vm.findClass "com/example/replan/replan/model/Token" = some m.cls := findClass_of_methodNamed Bd.named
  have hnm := (name_of_methodNamed Bd.named Bd.method).1
  have X0 : Stand p l e ({ frames := 2, cells := 0, slots := 0, locals := 24 } : Room) s m #[(.ref a1), (.ref a2), (.ref a3), (.int p4), (.int p5)] below meth c s₁ [] 0 0 := Stand.of_body Bd
  have e0 : s₁.heap = h0 := by rw [← hh, Bd.state]; rfl
  have N0 := Fr.nil n0
  refine own_top (Q := Q7 Z a1 a2 a3 p4 p5 h0 n0) (ef_7 m a1 a2 a3 p4 p5) ?_
  show own_G p.tables e below s₁ (mkF m 0 #[.val (.ref a1), .val (.ref a2), .val (.ref a3), .val (.int p4), .val (.int p5)] []) _
  refine own_go (fun t_ k_ => XS.aloadN X0.here hx rfl (hb hby d7_0) rfl rfl k_) ?_
  show own_G p.tables e below s₁ (mkF m 1 #[.val (.ref a1), .val (.ref a2), .val (.ref a3), .val (.int p4), .val (.int p5)] [(.ref a1)]) _
  obtain ⟨_, _, ⟨T1, L1, k1, n1⟩, -, X1, ⟨Lc1, hQ1, l1, y1, z1⟩, st1⟩ := X0.specialBack hx (y := (⟨"java/lang/Record", "<init>", "()V"⟩ : MethodName)) rfl hown (mvT hZ (hw _ (List.mem_of_getElem? (i := 40) rfl))) (mvT hZ (hw _ (List.mem_of_getElem? (i := 41) rfl))) (mvT hZ (hw _ (List.mem_of_getElem? (i := 44) rfl))) (by decide) (backOf (W := 0) (rm8 l Z a0 hw [] a1 h0 n0 Z0) hZ (hw _ (List.mem_of_getElem? (i := 44) rfl)) (hw _ (List.mem_of_getElem? (i := 43) rfl)) (by decide) (by decide)) (g := (mkF m 1 #[.val (.ref a1), .val (.ref a2), .val (.ref a3), .val (.int p4), .val (.int p5)] [(.ref a1)])) rfl (by rw [hml]; rfl) (Steps.refl _) (a := a1) (argsL := []) (rest := []) (lenOf own_pd0 rfl) rfl (by show 2 * 0 + _ ≤ _; exact Nat.le_of_eq rfl) (hb hby d7_1) (fun _ _ => ⟨rfl, e0, (by decide : 0 + 0 ≤ _), (by decide : 0 + 0 ≤ _)⟩)
  dsimp only [Pt.U, Pt.locs, Pt.cells, Pt.slots] at X1 l1 y1 z1 st1 hQ1
  subst l1 y1 z1
  obtain ⟨rfl, N1q, e1⟩ := hQ1
  have N1 := Fr.app N0 N1q
  refine own_go (fun t_ k_ => st1.trans k_) ?_
  show own_G p.tables e below T1 (mkF m 4 #[.val (.ref a1), .val (.ref a2), .val (.ref a3), .val (.int p4), .val (.int p5)] []) _
  refine own_go (fun t_ k_ => XS.aloadN X1.here hx rfl (hb hby d7_4) rfl rfl k_) ?_
  show own_G p.tables e below T1 (mkF m 5 #[.val (.ref a1), .val (.ref a2), .val (.ref a3), .val (.int p4), .val (.int p5)] [(.ref a1)]) _
  refine own_go (fun t_ k_ => XS.aloadN X1.here hx rfl (hb hby d7_5) rfl rfl k_) ?_
  show own_G p.tables e below T1 (mkF m 6 #[.val (.ref a1), .val (.ref a2), .val (.ref a3), .val (.int p4), .val (.int p5)] [(.ref a2), (.ref a1)]) _
  obtain ⟨T2, h2, X2, e2, W2, st2⟩ := putF X1 hx hZ hown (host := "") (Or.inl (hw _ (List.mem_of_getElem? (i := 46) rfl))) Via.refl e1 F_kind E1 (Or.inr ⟨(hw _ (List.mem_of_getElem? (i := 47) rfl)), rfl, hnm⟩) (hw _ (List.mem_of_getElem? (i := 3) rfl)) (ty := (.object "com/example/replan/replan/model/Token$Kind")) (by decide) rfl rfl (g := (mkF m 6 #[.val (.ref a1), .val (.ref a2), .val (.ref a3), .val (.int p4), .val (.int p5)] [(.ref a2), (.ref a1)])) rfl rfl (hb hby d7_6)
  have N2 := Fr.snoc X2 N1 ge1
  refine own_go st2 ?_
  show own_G p.tables e below T2 (mkF m 9 #[.val (.ref a1), .val (.ref a2), .val (.ref a3), .val (.int p4), .val (.int p5)] []) _
  have f3 : Fld Z h2 a1 "com/example/replan/replan/model/Token" "kind" "Lcom/example/replan/replan/model/Token$Kind;" (.ref a2) := F_kind.same W2
  refine own_go (fun t_ k_ => XS.aloadN X2.here hx rfl (hb hby d7_9) rfl rfl k_) ?_
  show own_G p.tables e below T2 (mkF m 10 #[.val (.ref a1), .val (.ref a2), .val (.ref a3), .val (.int p4), .val (.int p5)] [(.ref a1)]) _
  refine own_go (fun t_ k_ => XS.aloadN X2.here hx rfl (hb hby d7_10) rfl rfl k_) ?_
  show own_G p.tables e below T2 (mkF m 11 #[.val (.ref a1), .val (.ref a2), .val (.ref a3), .val (.int p4), .val (.int p5)] [(.ref a3), (.ref a1)]) _
  have f4 : Exa Z h2 a1 "com/example/replan/replan/model/Token" := (E1.wr W2)
  have f5 : Fld Z h2 a1 "com/example/replan/replan/model/Token" "text" "Ljava/lang/String;" .null := (F_text.other W2 (Or.inr (slot_ne (Or.inr (hw _ (List.mem_of_getElem? (i := 49) rfl))) (Or.inr (hw _ (List.mem_of_getElem? (i := 47) rfl))) (by decide) (t := (.object "java/lang/String")) (t' := (.object "com/example/replan/replan/model/Token$Kind")) (by decide) (by decide))))
  obtain ⟨T6, h6, X6, e6, W6, st6⟩ := putF X2 hx hZ hown (host := "") (Or.inl (hw _ (List.mem_of_getElem? (i := 48) rfl))) Via.refl e2 f5 f4 (Or.inr ⟨(hw _ (List.mem_of_getElem? (i := 49) rfl)), rfl, hnm⟩) (hw _ (List.mem_of_getElem? (i := 3) rfl)) (ty := (.object "java/lang/String")) (by decide) rfl rfl (g := (mkF m 11 #[.val (.ref a1), .val (.ref a2), .val (.ref a3), .val (.int p4), .val (.int p5)] [(.ref a3), (.ref a1)])) rfl rfl (hb hby d7_11)
  have N6 := Fr.snoc X6 N2 ge1
  refine own_go st6 ?_
  show own_G p.tables e below T6 (mkF m 14 #[.val (.ref a1), .val (.ref a2), .val (.ref a3), .val (.int p4), .val (.int p5)] []) _
  have f7 : Fld Z h6 a1 "com/example/replan/replan/model/Token" "text" "Ljava/lang/String;" (.ref a3) := f5.same W6
  refine own_go (fun t_ k_ => XS.aloadN X6.here hx rfl (hb hby d7_14) rfl rfl k_) ?_
  show own_G p.tables e below T6 (mkF m 15 #[.val (.ref a1), .val (.ref a2), .val (.ref a3), .val (.int p4), .val (.int p5)] [(.ref a1)]) _
  refine own_go (fun t_ k_ => XS.iloadN X6.here hx rfl (hb hby d7_15) rfl k_) ?_
  show own_G p.tables e below T6 (mkF m 16 #[.val (.ref a1), .val (.ref a2), .val (.ref a3), .val (.int p4), .val (.int p5)] [(.int p4), (.ref a1)]) _
  have f8 : Exa Z h6 a1 "com/example/replan/replan/model/Token" := (f4.wr W6)
  have f9 : Fld Z h6 a1 "com/example/replan/replan/model/Token" "line" "I" (.int (0 : Int32)) := ((F_line.other W2 (Or.inr (slot_ne (Or.inr (hw _ (List.mem_of_getElem? (i := 51) rfl))) (Or.inr (hw _ (List.mem_of_getElem? (i := 47) rfl))) (by decide) (t := .int) (t' := (.object "com/example/replan/replan/model/Token$Kind")) (by decide) (by decide)))).other W6 (Or.inr (slot_ne (Or.inr (hw _ (List.mem_of_getElem? (i := 51) rfl))) (Or.inr (hw _ (List.mem_of_getElem? (i := 49) rfl))) (by decide) (t := .int) (t' := (.object "java/lang/String")) (by decide) (by decide))))
  obtain ⟨T10, h10, X10, e10, W10, st10⟩ := putF X6 hx hZ hown (host := "") (Or.inl (hw _ (List.mem_of_getElem? (i := 50) rfl))) Via.refl e6 f9 f8 (Or.inr ⟨(hw _ (List.mem_of_getElem? (i := 51) rfl)), rfl, hnm⟩) (hw _ (List.mem_of_getElem? (i := 3) rfl)) (ty := .int) (by decide) rfl rfl (g := (mkF m 16 #[.val (.ref a1), .val (.ref a2), .val (.ref a3), .val (.int p4), .val (.int p5)] [(.int p4), (.ref a1)])) rfl rfl (hb hby d7_16)
  have N10 := Fr.snoc X10 N6 ge1
  refine own_go st10 ?_
  show own_G p.tables e below T10 (mkF m 19 #[.val (.ref a1), .val (.ref a2), .val (.ref a3), .val (.int p4), .val (.int p5)] []) _
  have f11 : Fld Z h10 a1 "com/example/replan/replan/model/Token" "line" "I" (.int p4) := f9.same W10
  refine own_go (fun t_ k_ => XS.aloadN X10.here hx rfl (hb hby d7_19) rfl rfl k_) ?_
  show own_G p.tables e below T10 (mkF m 20 #[.val (.ref a1), .val (.ref a2), .val (.ref a3), .val (.int p4), .val (.int p5)] [(.ref a1)]) _
  refine own_go (fun t_ k_ => XS.iload X10.here hx rfl (hb hby d7_20) rfl k_) ?_
  show own_G p.tables e below T10 (mkF m 22 #[.val (.ref a1), .val (.ref a2), .val (.ref a3), .val (.int p4), .val (.int p5)] [(.int p5), (.ref a1)]) _
  have f12 : Exa Z h10 a1 "com/example/replan/replan/model/Token" := (f8.wr W10)
  have f13 : Fld Z h10 a1 "com/example/replan/replan/model/Token" "column" "I" (.int (0 : Int32)) := (((F_column.other W2 (Or.inr (slot_ne (Or.inr (hw _ (List.mem_of_getElem? (i := 53) rfl))) (Or.inr (hw _ (List.mem_of_getElem? (i := 47) rfl))) (by decide) (t := .int) (t' := (.object "com/example/replan/replan/model/Token$Kind")) (by decide) (by decide)))).other W6 (Or.inr (slot_ne (Or.inr (hw _ (List.mem_of_getElem? (i := 53) rfl))) (Or.inr (hw _ (List.mem_of_getElem? (i := 49) rfl))) (by decide) (t := .int) (t' := (.object "java/lang/String")) (by decide) (by decide)))).other W10 (Or.inr (slot_ne (Or.inr (hw _ (List.mem_of_getElem? (i := 53) rfl))) (Or.inr (hw _ (List.mem_of_getElem? (i := 51) rfl))) (by decide) (t := .int) (t' := .int) (by decide) (by decide))))
  obtain ⟨T14, h14, X14, e14, W14, st14⟩ := putF X10 hx hZ hown (host := "") (Or.inl (hw _ (List.mem_of_getElem? (i := 52) rfl))) Via.refl e10 f13 f12 (Or.inr ⟨(hw _ (List.mem_of_getElem? (i := 53) rfl)), rfl, hnm⟩) (hw _ (List.mem_of_getElem? (i := 3) rfl)) (ty := .int) (by decide) rfl rfl (g := (mkF m 22 #[.val (.ref a1), .val (.ref a2), .val (.ref a3), .val (.int p4), .val (.int p5)] [(.int p5), (.ref a1)])) rfl rfl (hb hby d7_22)
  have N14 := Fr.snoc X14 N10 ge1
  refine own_go st14 ?_
  show own_G p.tables e below T14 (mkF m 25 #[.val (.ref a1), .val (.ref a2), .val (.ref a3), .val (.int p4), .val (.int p5)] []) _
  have f15 : Fld Z h14 a1 "com/example/replan/replan/model/Token" "column" "I" (.int p5) := f13.same W14
  have f16 : Keep h0 h14 [a1] := (((((Keep.refl h0 [a1]).wr W2 (Or.inl (List.mem_of_getElem? (i := 0) rfl))).wr W6 (Or.inl (List.mem_of_getElem? (i := 0) rfl))).wr W10 (Or.inl (List.mem_of_getElem? (i := 0) rfl))).wr W14 (Or.inl (List.mem_of_getElem? (i := 0) rfl)))
  have f17 : Exa Z h14 a1 "com/example/replan/replan/model/Token" := (f12.wr W14)
  have f18 : Fld Z h14 a1 "com/example/replan/replan/model/Token" "line" "I" (.int p4) := (f11.other W14 (Or.inr (slot_ne (Or.inr (hw _ (List.mem_of_getElem? (i := 51) rfl))) (Or.inr (hw _ (List.mem_of_getElem? (i := 53) rfl))) (by decide) (t := .int) (t' := .int) (by decide) (by decide))))
  exact own_end (v := none) X14 Bd.notSynchronized (fun _ => rfl) (fun fs hr => X14.returnOut hx Bd.returns (hb hby d7_25) hr) e14 ⟨rfl, N14, f16, f17, f18, f15⟩ (by decide) (by decide)
theorem d9_0 : decode prog_37_method_1_code 0 = .ok (.aload_n 0, 1) := by decide +kernel
theorem d9_1 : decode prog_37_method_1_code 1 = .ok (.invokespecial 1, 3) := by decide +kernel
theorem d9_4 : decode prog_37_method_1_code 4 = .ok (.aload_n 0, 1) := by decide +kernel
theorem d9_5 : decode prog_37_method_1_code 5 = .ok (.aload_n 1, 1) := by decide +kernel
theorem d9_6 : decode prog_37_method_1_code 6 = .ok (.putfield 7, 3) := by decide +kernel
theorem d9_9 : decode prog_37_method_1_code 9 = .ok (.aload_n 0, 1) := by decide +kernel
theorem d9_10 : decode prog_37_method_1_code 10 = .ok (.aload_n 2, 1) := by decide +kernel
theorem d9_11 : decode prog_37_method_1_code 11 = .ok (.putfield 13, 3) := by decide +kernel
theorem d9_14 : decode prog_37_method_1_code 14 = .ok (.return_, 1) := by decide +kernel
theorem ef_9 (m : MethodId) (a1 : Addr) (u : Value) (a3 : Addr) (hr_u : u.isRef = true) : entryFrame m #[(.ref a1), u, (.ref a3)] 3 = mkF m 0 #[.val (.ref a1), .val u, .val (.ref a3)] [] := by rcases ref_cases hr_u with rfl | ⟨_, rfl⟩ <;> first | (simp [entryFrame, mkF, argsToLocals, Value.category]; done) | rfl
def Q9 (Z : State) (a1 : Addr) (u : Value) (a3 : Addr)  (h0 : Heap) (n0 : Nat) (v : Option Value) (h : Heap) (L : List Loc) : Prop := v = none ∧ Fr n0 L ∧ Keep h0 h [a1] ∧ Exa Z h a1 "com/example/replan/replan/model/SelectStatement$ColumnName" ∧ Fld Z h a1 "com/example/replan/replan/model/SelectStatement$ColumnName" "qualifier" "Lcom/example/replan/replan/model/Token;" u ∧ Fld Z h a1 "com/example/replan/replan/model/SelectStatement$ColumnName" "name" "Lcom/example/replan/replan/model/Token;" (.ref a3)
set_option maxRecDepth 65536 in
set_option maxHeartbeats 40000000 in
theorem rm9 (l : Launch) (Z : State) (a0 : Array Value) (hw : ∀ d ∈ tables_1, d.before a0 Z = true) (ws : List Jvm.Cond) (a1 : Addr) (u : Value) (a3 : Addr)  (h0 : Heap) (n0 : Nat) (Z0 : n0 ≤ h0.size) (hu : u.isRef = true) (ge1 : n0 ≤ a1) (E1 : Exa Z h0 a1 "com/example/replan/replan/model/SelectStatement$ColumnName") (F_qualifier : Fld Z h0 a1 "com/example/replan/replan/model/SelectStatement$ColumnName" "qualifier" "Lcom/example/replan/replan/model/Token;" .null) (F_name : Fld Z h0 a1 "com/example/replan/replan/model/SelectStatement$ColumnName" "name" "Lcom/example/replan/replan/model/Token;" .null) :
    MetFree l (⟨"com/example/replan/replan/model/SelectStatement$ColumnName", "<init>", "(Lcom/example/replan/replan/model/Token;Lcom/example/replan/replan/model/Token;)V"⟩ : MethodName) (head1 (Jvm.Cond.code (⟨"com/example/replan/replan/model/SelectStatement$ColumnName", "<init>", "(Lcom/example/replan/replan/model/Token;Lcom/example/replan/replan/model/Token;)V"⟩ : MethodName) prog_37_method_1_code 3 none :: ws) ({ frames := 2, cells := 0, slots := 0, locals := 24 } : Room)) (fun a U => a = #[(.ref a1), u, (.ref a3)] ∧ Z.Warmed39 U.vm ∧ U.heap = h0) (fun _ _ _ _ _ => True) (fun _ U o U' => ∃ v L, o = .returned v ∧ Q9 Z a1 u a3 h0 n0 v U'.heap L ∧ FrameEnd U o U' L ({ frames := 2, cells := 0, slots := 0, locals := 24 } : Room).cells ({ frames := 2, cells := 0, slots := 0, locals := 24 } : Room).slots) := by
  refine MetFree.of_bodySF (plainFor_of_name own_pn2) hisR ?_
  intro p e s m args below meth c s₁ Bd hml0 hP hK
  obtain ⟨rfl, hZ, hh⟩ := hP
  have hx := Bd.exec
  have hby := Bd.bytes
  have hml : c.maxLocals = 3 := hml0
  have hown : s.vm.findClass "com/example/replan/replan/model/SelectStatement$ColumnName" = some m.cls := findClass_of_methodNamed Bd.named
  have hnm := (name_of_methodNamed Bd.named Bd.method).1
  have X0 : Stand p l e ({ frames := 2, cells := 0, slots := 0, locals := 24 } : Room) s m #[(.ref a1), u, (.ref a3)] below meth c s₁ [] 0 0 := Stand.of_body Bd
  have e0 : s₁.heap = h0 := by rw [← hh, Bd.state]; rfl
  have N0 := Fr.nil n0
  refine own_top (Q := Q9 Z a1 u a3 h0 n0) (ef_9 m a1 u a3 hu) ?_
  rcases ref_cases hu with rfl | ⟨w, rfl⟩
  · skip
    show own_G p.tables e below s₁ (mkF m 0 #[.val (.ref a1), .val .null, .val (.ref a3)] []) _
    refine own_go (fun t_ k_ => XS.aloadN X0.here hx rfl (hb hby d9_0) rfl rfl k_) ?_
    show own_G p.tables e below s₁ (mkF m 1 #[.val (.ref a1), .val .null, .val (.ref a3)] [(.ref a1)]) _
    obtain ⟨_, _, ⟨T1, L1, k1, n1⟩, -, X1, ⟨Lc1, hQ1, l1, y1, z1⟩, st1⟩ := X0.specialBack hx (y := (⟨"java/lang/Record", "<init>", "()V"⟩ : MethodName)) rfl hown (mvT hZ (hw _ (List.mem_of_getElem? (i := 60) rfl))) (mvT hZ (hw _ (List.mem_of_getElem? (i := 41) rfl))) (mvT hZ (hw _ (List.mem_of_getElem? (i := 44) rfl))) (by decide) (backOf (W := 0) (rm8 l Z a0 hw [] a1 h0 n0 Z0) hZ (hw _ (List.mem_of_getElem? (i := 44) rfl)) (hw _ (List.mem_of_getElem? (i := 43) rfl)) (by decide) (by decide)) (g := (mkF m 1 #[.val (.ref a1), .val .null, .val (.ref a3)] [(.ref a1)])) rfl (by rw [hml]; rfl) (Steps.refl _) (a := a1) (argsL := []) (rest := []) (lenOf own_pd0 rfl) rfl (by show 2 * 0 + _ ≤ _; exact Nat.le_of_eq rfl) (hb hby d9_1) (fun _ _ => ⟨rfl, e0, (by decide : 0 + 0 ≤ _), (by decide : 0 + 0 ≤ _)⟩)
    dsimp only [Pt.U, Pt.locs, Pt.cells, Pt.slots] at X1 l1 y1 z1 st1 hQ1
    subst l1 y1 z1
    obtain ⟨rfl, N1q, e1⟩ := hQ1
    have N1 := Fr.app N0 N1q
    refine own_go (fun t_ k_ => st1.trans k_) ?_
    show own_G p.tables e below T1 (mkF m 4 #[.val (.ref a1), .val .null, .val (.ref a3)] []) _
    refine own_go (fun t_ k_ => XS.aloadN X1.here hx rfl (hb hby d9_4) rfl rfl k_) ?_
    show own_G p.tables e below T1 (mkF m 5 #[.val (.ref a1), .val .null, .val (.ref a3)] [(.ref a1)]) _
    refine own_go (fun t_ k_ => XS.aloadN X1.here hx rfl (hb hby d9_5) rfl rfl k_) ?_
    show own_G p.tables e below T1 (mkF m 6 #[.val (.ref a1), .val .null, .val (.ref a3)] [.null, (.ref a1)]) _
    obtain ⟨T2, h2, X2, e2, W2, st2⟩ := putF X1 hx hZ hown (host := "") (Or.inl (hw _ (List.mem_of_getElem? (i := 61) rfl))) Via.refl e1 F_qualifier E1 (Or.inr ⟨(hw _ (List.mem_of_getElem? (i := 62) rfl)), rfl, hnm⟩) (hw _ (List.mem_of_getElem? (i := 55) rfl)) (ty := (.object "com/example/replan/replan/model/Token")) (by decide) rfl rfl (g := (mkF m 6 #[.val (.ref a1), .val .null, .val (.ref a3)] [.null, (.ref a1)])) rfl rfl (hb hby d9_6)
    have N2 := Fr.snoc X2 N1 ge1
    refine own_go st2 ?_
    show own_G p.tables e below T2 (mkF m 9 #[.val (.ref a1), .val .null, .val (.ref a3)] []) _
    have f3 : Fld Z h2 a1 "com/example/replan/replan/model/SelectStatement$ColumnName" "qualifier" "Lcom/example/replan/replan/model/Token;" .null := F_qualifier.same W2
    refine own_go (fun t_ k_ => XS.aloadN X2.here hx rfl (hb hby d9_9) rfl rfl k_) ?_
    show own_G p.tables e below T2 (mkF m 10 #[.val (.ref a1), .val .null, .val (.ref a3)] [(.ref a1)]) _
    refine own_go (fun t_ k_ => XS.aloadN X2.here hx rfl (hb hby d9_10) rfl rfl k_) ?_
    show own_G p.tables e below T2 (mkF m 11 #[.val (.ref a1), .val .null, .val (.ref a3)] [(.ref a3), (.ref a1)]) _
    have f4 : Exa Z h2 a1 "com/example/replan/replan/model/SelectStatement$ColumnName" := (E1.wr W2)
    have f5 : Fld Z h2 a1 "com/example/replan/replan/model/SelectStatement$ColumnName" "name" "Lcom/example/replan/replan/model/Token;" .null := (F_name.other W2 (Or.inr (slot_ne (Or.inr (hw _ (List.mem_of_getElem? (i := 64) rfl))) (Or.inr (hw _ (List.mem_of_getElem? (i := 62) rfl))) (by decide) (t := (.object "com/example/replan/replan/model/Token")) (t' := (.object "com/example/replan/replan/model/Token")) (by decide) (by decide))))
    obtain ⟨T6, h6, X6, e6, W6, st6⟩ := putF X2 hx hZ hown (host := "") (Or.inl (hw _ (List.mem_of_getElem? (i := 63) rfl))) Via.refl e2 f5 f4 (Or.inr ⟨(hw _ (List.mem_of_getElem? (i := 64) rfl)), rfl, hnm⟩) (hw _ (List.mem_of_getElem? (i := 55) rfl)) (ty := (.object "com/example/replan/replan/model/Token")) (by decide) rfl rfl (g := (mkF m 11 #[.val (.ref a1), .val .null, .val (.ref a3)] [(.ref a3), (.ref a1)])) rfl rfl (hb hby d9_11)
    have N6 := Fr.snoc X6 N2 ge1
    refine own_go st6 ?_
    show own_G p.tables e below T6 (mkF m 14 #[.val (.ref a1), .val .null, .val (.ref a3)] []) _
    have f7 : Fld Z h6 a1 "com/example/replan/replan/model/SelectStatement$ColumnName" "name" "Lcom/example/replan/replan/model/Token;" (.ref a3) := f5.same W6
    have f8 : Keep h0 h6 [a1] := (((Keep.refl h0 [a1]).wr W2 (Or.inl (List.mem_of_getElem? (i := 0) rfl))).wr W6 (Or.inl (List.mem_of_getElem? (i := 0) rfl)))
    have f9 : Exa Z h6 a1 "com/example/replan/replan/model/SelectStatement$ColumnName" := (f4.wr W6)
    have f10 : Fld Z h6 a1 "com/example/replan/replan/model/SelectStatement$ColumnName" "qualifier" "Lcom/example/replan/replan/model/Token;" .null := (f3.other W6 (Or.inr (slot_ne (Or.inr (hw _ (List.mem_of_getElem? (i := 62) rfl))) (Or.inr (hw _ (List.mem_of_getElem? (i := 64) rfl))) (by decide) (t := (.object "com/example/replan/replan/model/Token")) (t' := (.object "com/example/replan/replan/model/Token")) (by decide) (by decide))))
    exact own_end (v := none) X6 Bd.notSynchronized (fun _ => rfl) (fun fs hr => X6.returnOut hx Bd.returns (hb hby d9_14) hr) e6 ⟨rfl, N6, f8, f9, f10, f7⟩ (by decide) (by decide)
  · skip
    show own_G p.tables e below s₁ (mkF m 0 #[.val (.ref a1), .val (.ref w), .val (.ref a3)] []) _
    refine own_go (fun t_ k_ => XS.aloadN X0.here hx rfl (hb hby d9_0) rfl rfl k_) ?_
    show own_G p.tables e below s₁ (mkF m 1 #[.val (.ref a1), .val (.ref w), .val (.ref a3)] [(.ref a1)]) _
    obtain ⟨_, _, ⟨T11, L11, k11, n11⟩, -, X11, ⟨Lc11, hQ11, l11, y11, z11⟩, st11⟩ := X0.specialBack hx (y := (⟨"java/lang/Record", "<init>", "()V"⟩ : MethodName)) rfl hown (mvT hZ (hw _ (List.mem_of_getElem? (i := 60) rfl))) (mvT hZ (hw _ (List.mem_of_getElem? (i := 41) rfl))) (mvT hZ (hw _ (List.mem_of_getElem? (i := 44) rfl))) (by decide) (backOf (W := 0) (rm8 l Z a0 hw [] a1 h0 n0 Z0) hZ (hw _ (List.mem_of_getElem? (i := 44) rfl)) (hw _ (List.mem_of_getElem? (i := 43) rfl)) (by decide) (by decide)) (g := (mkF m 1 #[.val (.ref a1), .val (.ref w), .val (.ref a3)] [(.ref a1)])) rfl (by rw [hml]; rfl) (Steps.refl _) (a := a1) (argsL := []) (rest := []) (lenOf own_pd0 rfl) rfl (by show 2 * 0 + _ ≤ _; exact Nat.le_of_eq rfl) (hb hby d9_1) (fun _ _ => ⟨rfl, e0, (by decide : 0 + 0 ≤ _), (by decide : 0 + 0 ≤ _)⟩)
    dsimp only [Pt.U, Pt.locs, Pt.cells, Pt.slots] at X11 l11 y11 z11 st11 hQ11
    subst l11 y11 z11
    obtain ⟨rfl, N11q, e11⟩ := hQ11
    have N11 := Fr.app N0 N11q
    refine own_go (fun t_ k_ => st11.trans k_) ?_
    show own_G p.tables e below T11 (mkF m 4 #[.val (.ref a1), .val (.ref w), .val (.ref a3)] []) _
    refine own_go (fun t_ k_ => XS.aloadN X11.here hx rfl (hb hby d9_4) rfl rfl k_) ?_
    show own_G p.tables e below T11 (mkF m 5 #[.val (.ref a1), .val (.ref w), .val (.ref a3)] [(.ref a1)]) _
    refine own_go (fun t_ k_ => XS.aloadN X11.here hx rfl (hb hby d9_5) rfl rfl k_) ?_
    show own_G p.tables e below T11 (mkF m 6 #[.val (.ref a1), .val (.ref w), .val (.ref a3)] [(.ref w), (.ref a1)]) _
    obtain ⟨T12, h12, X12, e12, W12, st12⟩ := putF X11 hx hZ hown (host := "") (Or.inl (hw _ (List.mem_of_getElem? (i := 61) rfl))) Via.refl e11 F_qualifier E1 (Or.inr ⟨(hw _ (List.mem_of_getElem? (i := 62) rfl)), rfl, hnm⟩) (hw _ (List.mem_of_getElem? (i := 55) rfl)) (ty := (.object "com/example/replan/replan/model/Token")) (by decide) rfl rfl (g := (mkF m 6 #[.val (.ref a1), .val (.ref w), .val (.ref a3)] [(.ref w), (.ref a1)])) rfl rfl (hb hby d9_6)
    have N12 := Fr.snoc X12 N11 ge1
    refine own_go st12 ?_
    show own_G p.tables e below T12 (mkF m 9 #[.val (.ref a1), .val (.ref w), .val (.ref a3)] []) _
    have f13 : Fld Z h12 a1 "com/example/replan/replan/model/SelectStatement$ColumnName" "qualifier" "Lcom/example/replan/replan/model/Token;" (.ref w) := F_qualifier.same W12
    refine own_go (fun t_ k_ => XS.aloadN X12.here hx rfl (hb hby d9_9) rfl rfl k_) ?_
    show own_G p.tables e below T12 (mkF m 10 #[.val (.ref a1), .val (.ref w), .val (.ref a3)] [(.ref a1)]) _
    refine own_go (fun t_ k_ => XS.aloadN X12.here hx rfl (hb hby d9_10) rfl rfl k_) ?_
    show own_G p.tables e below T12 (mkF m 11 #[.val (.ref a1), .val (.ref w), .val (.ref a3)] [(.ref a3), (.ref a1)]) _
    have f14 : Exa Z h12 a1 "com/example/replan/replan/model/SelectStatement$ColumnName" := (E1.wr W12)
    have f15 : Fld Z h12 a1 "com/example/replan/replan/model/SelectStatement$ColumnName" "name" "Lcom/example/replan/replan/model/Token;" .null := (F_name.other W12 (Or.inr (slot_ne (Or.inr (hw _ (List.mem_of_getElem? (i := 64) rfl))) (Or.inr (hw _ (List.mem_of_getElem? (i := 62) rfl))) (by decide) (t := (.object "com/example/replan/replan/model/Token")) (t' := (.object "com/example/replan/replan/model/Token")) (by decide) (by decide))))
    obtain ⟨T16, h16, X16, e16, W16, st16⟩ := putF X12 hx hZ hown (host := "") (Or.inl (hw _ (List.mem_of_getElem? (i := 63) rfl))) Via.refl e12 f15 f14 (Or.inr ⟨(hw _ (List.mem_of_getElem? (i := 64) rfl)), rfl, hnm⟩) (hw _ (List.mem_of_getElem? (i := 55) rfl)) (ty := (.object "com/example/replan/replan/model/Token")) (by decide) rfl rfl (g := (mkF m 11 #[.val (.ref a1), .val (.ref w), .val (.ref a3)] [(.ref a3), (.ref a1)])) rfl rfl (hb hby d9_11)
    have N16 := Fr.snoc X16 N12 ge1
    refine own_go st16 ?_
    show own_G p.tables e below T16 (mkF m 14 #[.val (.ref a1), .val (.ref w), .val (.ref a3)] []) _
    have f17 : Fld Z h16 a1 "com/example/replan/replan/model/SelectStatement$ColumnName" "name" "Lcom/example/replan/replan/model/Token;" (.ref a3) := f15.same W16
    have f18 : Keep h0 h16 [a1] := (((Keep.refl h0 [a1]).wr W12 (Or.inl (List.mem_of_getElem? (i := 0) rfl))).wr W16 (Or.inl (List.mem_of_getElem? (i := 0) rfl)))
    have f19 : Exa Z h16 a1 "com/example/replan/replan/model/SelectStatement$ColumnName" := (f14.wr W16)
    have f20 : Fld Z h16 a1 "com/example/replan/replan/model/SelectStatement$ColumnName" "qualifier" "Lcom/example/replan/replan/model/Token;" (.ref w) := (f13.other W16 (Or.inr (slot_ne (Or.inr (hw _ (List.mem_of_getElem? (i := 62) rfl))) (Or.inr (hw _ (List.mem_of_getElem? (i := 64) rfl))) (by decide) (t := (.object "com/example/replan/replan/model/Token")) (t' := (.object "com/example/replan/replan/model/Token")) (by decide) (by decide))))
    exact own_end (v := none) X16 Bd.notSynchronized (fun _ => rfl) (fun fs hr => X16.returnOut hx Bd.returns (hb hby d9_14) hr) e16 ⟨rfl, N16, f18, f19, f20, f17⟩ (by decide) (by decide)
def own_start (u : Value) (n : Addr) : Value := match u with | .null => .ref n | x => x
theorem d10_0 : decode prog_37_method_2_code 0 = .ok (.aload_n 0, 1) := by decide +kernel
theorem d10_1 : decode prog_37_method_2_code 1 = .ok (.getfield 7, 3) := by decide +kernel
theorem d10_4 : decode prog_37_method_2_code 4 = .ok (.ifnonnull 10, 3) := by decide +kernel
theorem d10_7 : decode prog_37_method_2_code 7 = .ok (.aload_n 0, 1) := by decide +kernel
theorem d10_8 : decode prog_37_method_2_code 8 = .ok (.getfield 13, 3) := by decide +kernel
theorem d10_11 : decode prog_37_method_2_code 11 = .ok (.goto 7, 3) := by decide +kernel
theorem d10_14 : decode prog_37_method_2_code 14 = .ok (.aload_n 0, 1) := by decide +kernel
theorem d10_15 : decode prog_37_method_2_code 15 = .ok (.getfield 7, 3) := by decide +kernel
theorem d10_18 : decode prog_37_method_2_code 18 = .ok (.areturn, 1) := by decide +kernel
theorem ef_10 (m : MethodId) (a1 : Addr) : entryFrame m #[(.ref a1)] 1 = mkF m 0 #[.val (.ref a1)] [] := by first | (simp [entryFrame, mkF, argsToLocals, Value.category]; done) | rfl
def Q10 (Z : State) (a1 : Addr) (u : Value) (nm : Addr) (h0 : Heap) (n0 : Nat) (v : Option Value) (h : Heap) (L : List Loc) : Prop := v = some (own_start u nm) ∧ Fr n0 L ∧ h = h0
set_option maxRecDepth 65536 in
set_option maxHeartbeats 40000000 in
theorem rm10 (l : Launch) (Z : State) (a0 : Array Value) (hw : ∀ d ∈ tables_1, d.before a0 Z = true) (ws : List Jvm.Cond) (a1 : Addr) (u : Value) (nm : Addr) (h0 : Heap) (n0 : Nat) (Z0 : n0 ≤ h0.size) (hu : u.isRef = true) (F1 : Fld Z h0 a1 "com/example/replan/replan/model/SelectStatement$ColumnName" "qualifier" "Lcom/example/replan/replan/model/Token;" u) (F2 : Fld Z h0 a1 "com/example/replan/replan/model/SelectStatement$ColumnName" "name" "Lcom/example/replan/replan/model/Token;" (.ref nm)) :
    MetFree l (⟨"com/example/replan/replan/model/SelectStatement$ColumnName", "start", "()Lcom/example/replan/replan/model/Token;"⟩ : MethodName) (head1 (Jvm.Cond.code (⟨"com/example/replan/replan/model/SelectStatement$ColumnName", "start", "()Lcom/example/replan/replan/model/Token;"⟩ : MethodName) prog_37_method_2_code 1 (some (.object "com/example/replan/replan/model/Token")) :: ws) ({ frames := 0, cells := 0, slots := 0, locals := 0 } : Room)) (fun a U => a = #[(.ref a1)] ∧ Z.Warmed39 U.vm ∧ U.heap = h0) (fun _ _ _ _ _ => True) (fun _ U o U' => ∃ v L, o = .returned v ∧ Q10 Z a1 u nm h0 n0 v U'.heap L ∧ FrameEnd U o U' L ({ frames := 0, cells := 0, slots := 0, locals := 0 } : Room).cells ({ frames := 0, cells := 0, slots := 0, locals := 0 } : Room).slots) := by
  refine MetFree.of_bodySF (plainFor_of_name own_pn2) hisR ?_
  intro p e s m args below meth c s₁ Bd hml0 hP hK
  obtain ⟨rfl, hZ, hh⟩ := hP
  have hx := Bd.exec
  have hby := Bd.bytes
  have hml : c.maxLocals = 1 := hml0
  have hown : s.vm.findClass "com/example/replan/replan/model/SelectStatement$ColumnName" = some m.cls := findClass_of_methodNamed Bd.named
  have hnm := (name_of_methodNamed Bd.named Bd.method).1
  have X0 : Stand p l e ({ frames := 0, cells := 0, slots := 0, locals := 0 } : Room) s m #[(.ref a1)] below meth c s₁ [] 0 0 := Stand.of_body Bd
  have e0 : s₁.heap = h0 := by rw [← hh, Bd.state]; rfl
  have N0 := Fr.nil n0
  refine own_top (Q := Q10 Z a1 u nm h0 n0) (ef_10 m a1) ?_
  rcases ref_cases hu with rfl | ⟨w, rfl⟩
  · skip
    show own_G p.tables e below s₁ (mkF m 0 #[.val (.ref a1)] []) _
    refine own_go (fun t_ k_ => XS.aloadN X0.here hx rfl (hb hby d10_0) rfl rfl k_) ?_
    show own_G p.tables e below s₁ (mkF m 1 #[.val (.ref a1)] [(.ref a1)]) _
    obtain ⟨T1, X1, e1, st1⟩ := getF X0 hx hZ hown (host := "") (Or.inl (hw _ (List.mem_of_getElem? (i := 61) rfl))) Via.refl e0 F1 (g := (mkF m 1 #[.val (.ref a1)] [(.ref a1)])) rfl rfl (hb hby d10_1)
    refine own_go st1 ?_
    show own_G p.tables e below T1 (mkF m 4 #[.val (.ref a1)] [.null]) _
    refine own_go (fun t_ k_ => XS.ifnonnullNo X1.here hx rfl (hb hby d10_4) rfl k_) ?_
    show own_G p.tables e below T1 (mkF m 7 #[.val (.ref a1)] []) _
    refine own_go (fun t_ k_ => XS.aloadN X1.here hx rfl (hb hby d10_7) rfl rfl k_) ?_
    show own_G p.tables e below T1 (mkF m 8 #[.val (.ref a1)] [(.ref a1)]) _
    obtain ⟨T2, X2, e2, st2⟩ := getF X1 hx hZ hown (host := "") (Or.inl (hw _ (List.mem_of_getElem? (i := 63) rfl))) Via.refl e1 F2 (g := (mkF m 8 #[.val (.ref a1)] [(.ref a1)])) rfl rfl (hb hby d10_8)
    refine own_go st2 ?_
    show own_G p.tables e below T2 (mkF m 11 #[.val (.ref a1)] [(.ref nm)]) _
    refine own_go (fun t_ k_ => XS.goto X2.here hx rfl (pc0 := 11) (pc' := 18) rfl (hb hby d10_11) (by decide) (by decide) k_) ?_
    show own_G p.tables e below T2 (mkF m 18 #[.val (.ref a1)] [(.ref nm)]) _
    exact own_end (v := some (.ref nm)) X2 Bd.notSynchronized (fun h => by rw [Bd.returns] at h; cases h) (fun fs hr => own_retR X2 hx rfl Bd.returns rfl (hb hby d10_18) hr) e2 ⟨rfl, N0, rfl⟩ (by decide) (by decide)
  · skip
    show own_G p.tables e below s₁ (mkF m 0 #[.val (.ref a1)] []) _
    refine own_go (fun t_ k_ => XS.aloadN X0.here hx rfl (hb hby d10_0) rfl rfl k_) ?_
    show own_G p.tables e below s₁ (mkF m 1 #[.val (.ref a1)] [(.ref a1)]) _
    obtain ⟨T3, X3, e3, st3⟩ := getF X0 hx hZ hown (host := "") (Or.inl (hw _ (List.mem_of_getElem? (i := 61) rfl))) Via.refl e0 F1 (g := (mkF m 1 #[.val (.ref a1)] [(.ref a1)])) rfl rfl (hb hby d10_1)
    refine own_go st3 ?_
    show own_G p.tables e below T3 (mkF m 4 #[.val (.ref a1)] [(.ref w)]) _
    refine own_go (fun t_ k_ => XS.ifnonnullYes X3.here hx rfl (pc0 := 4) (pc' := 14) rfl (hb hby d10_4) rfl (by decide) (by decide) k_) ?_
    show own_G p.tables e below T3 (mkF m 14 #[.val (.ref a1)] []) _
    refine own_go (fun t_ k_ => XS.aloadN X3.here hx rfl (hb hby d10_14) rfl rfl k_) ?_
    show own_G p.tables e below T3 (mkF m 15 #[.val (.ref a1)] [(.ref a1)]) _
    obtain ⟨T4, X4, e4, st4⟩ := getF X3 hx hZ hown (host := "") (Or.inl (hw _ (List.mem_of_getElem? (i := 61) rfl))) Via.refl e3 F1 (g := (mkF m 15 #[.val (.ref a1)] [(.ref a1)])) rfl rfl (hb hby d10_15)
    refine own_go st4 ?_
    show own_G p.tables e below T4 (mkF m 18 #[.val (.ref a1)] [(.ref w)]) _
    exact own_end (v := some (.ref w)) X4 Bd.notSynchronized (fun h => by rw [Bd.returns] at h; cases h) (fun fs hr => own_retR X4 hx rfl Bd.returns rfl (hb hby d10_18) hr) e4 ⟨rfl, N0, rfl⟩ (by decide) (by decide)
theorem d12_0 : decode prog_48_method_11_code 0 = .ok (.aload_n 0, 1) := by decide +kernel
theorem d12_1 : decode prog_48_method_11_code 1 = .ok (.getfield 17, 3) := by decide +kernel
theorem d12_4 : decode prog_48_method_11_code 4 = .ok (.ireturn, 1) := by decide +kernel
theorem ef_12 (m : MethodId) (a1 : Addr) : entryFrame m #[(.ref a1)] 1 = mkF m 0 #[.val (.ref a1)] [] := by first | (simp [entryFrame, mkF, argsToLocals, Value.category]; done) | rfl
def Q12 (Z : State) (a1 : Addr) (u : Int32) (h0 : Heap) (n0 : Nat) (v : Option Value) (h : Heap) (L : List Loc) : Prop := v = some (.int u) ∧ Fr n0 L ∧ h = h0
set_option maxRecDepth 65536 in
set_option maxHeartbeats 40000000 in
theorem rm12 (l : Launch) (Z : State) (a0 : Array Value) (hw : ∀ d ∈ tables_1, d.before a0 Z = true) (ws : List Jvm.Cond) (a1 : Addr) (u : Int32) (h0 : Heap) (n0 : Nat) (Z0 : n0 ≤ h0.size) (F : Fld Z h0 a1 "com/example/replan/replan/model/Token" "line" "I" (.int u)) :
    MetFree l (⟨"com/example/replan/replan/model/Token", "line", "()I"⟩ : MethodName) (head1 (Jvm.Cond.code (⟨"com/example/replan/replan/model/Token", "line", "()I"⟩ : MethodName) prog_48_method_11_code 1 (some .int) :: ws) ({ frames := 0, cells := 0, slots := 0, locals := 0 } : Room)) (fun a U => a = #[(.ref a1)] ∧ Z.Warmed39 U.vm ∧ U.heap = h0) (fun _ _ _ _ _ => True) (fun _ U o U' => ∃ v L, o = .returned v ∧ Q12 Z a1 u h0 n0 v U'.heap L ∧ FrameEnd U o U' L ({ frames := 0, cells := 0, slots := 0, locals := 0 } : Room).cells ({ frames := 0, cells := 0, slots := 0, locals := 0 } : Room).slots) := by
  refine MetFree.of_bodySF (plainFor_of_name own_pn1) hisR ?_
  intro p e s m args below meth c s₁ Bd hml0 hP hK
  obtain ⟨rfl, hZ, hh⟩ := hP
  have hx := Bd.exec
  have hby := Bd.bytes
  have hml : c.maxLocals = 1 := hml0
  have hown : s.vm.findClass "com/example/replan/replan/model/Token" = some m.cls := findClass_of_methodNamed Bd.named
  have hnm := (name_of_methodNamed Bd.named Bd.method).1
  have X0 : Stand p l e ({ frames := 0, cells := 0, slots := 0, locals := 0 } : Room) s m #[(.ref a1)] below meth c s₁ [] 0 0 := Stand.of_body Bd
  have e0 : s₁.heap = h0 := by rw [← hh, Bd.state]; rfl
  have N0 := Fr.nil n0
  refine own_top (Q := Q12 Z a1 u h0 n0) (ef_12 m a1) ?_
  show own_G p.tables e below s₁ (mkF m 0 #[.val (.ref a1)] []) _
  refine own_go (fun t_ k_ => XS.aloadN X0.here hx rfl (hb hby d12_0) rfl rfl k_) ?_
  show own_G p.tables e below s₁ (mkF m 1 #[.val (.ref a1)] [(.ref a1)]) _
  obtain ⟨T1, X1, e1, st1⟩ := getF X0 hx hZ hown (host := "") (Or.inl (hw _ (List.mem_of_getElem? (i := 50) rfl))) Via.refl e0 F (g := (mkF m 1 #[.val (.ref a1)] [(.ref a1)])) rfl rfl (hb hby d12_1)
  refine own_go st1 ?_
  show own_G p.tables e below T1 (mkF m 4 #[.val (.ref a1)] [(.int u)]) _
  exact own_end (v := some (.int u)) X1 Bd.notSynchronized (fun h => by rw [Bd.returns] at h; cases h) (fun fs hr => retI X1 hx Bd.returns (hb hby d12_4) hr) e1 ⟨rfl, N0, rfl⟩ (by decide) (by decide)
theorem d13_0 : decode prog_48_method_12_code 0 = .ok (.aload_n 0, 1) := by decide +kernel
theorem d13_1 : decode prog_48_method_12_code 1 = .ok (.getfield 21, 3) := by decide +kernel
theorem d13_4 : decode prog_48_method_12_code 4 = .ok (.ireturn, 1) := by decide +kernel
theorem ef_13 (m : MethodId) (a1 : Addr) : entryFrame m #[(.ref a1)] 1 = mkF m 0 #[.val (.ref a1)] [] := by first | (simp [entryFrame, mkF, argsToLocals, Value.category]; done) | rfl
def Q13 (Z : State) (a1 : Addr) (u : Int32) (h0 : Heap) (n0 : Nat) (v : Option Value) (h : Heap) (L : List Loc) : Prop := v = some (.int u) ∧ Fr n0 L ∧ h = h0
set_option maxRecDepth 65536 in
set_option maxHeartbeats 40000000 in
theorem rm13 (l : Launch) (Z : State) (a0 : Array Value) (hw : ∀ d ∈ tables_1, d.before a0 Z = true) (ws : List Jvm.Cond) (a1 : Addr) (u : Int32) (h0 : Heap) (n0 : Nat) (Z0 : n0 ≤ h0.size) (F : Fld Z h0 a1 "com/example/replan/replan/model/Token" "column" "I" (.int u)) :
    MetFree l (⟨"com/example/replan/replan/model/Token", "column", "()I"⟩ : MethodName) (head1 (Jvm.Cond.code (⟨"com/example/replan/replan/model/Token", "column", "()I"⟩ : MethodName) prog_48_method_12_code 1 (some .int) :: ws) ({ frames := 0, cells := 0, slots := 0, locals := 0 } : Room)) (fun a U => a = #[(.ref a1)] ∧ Z.Warmed39 U.vm ∧ U.heap = h0) (fun _ _ _ _ _ => True) (fun _ U o U' => ∃ v L, o = .returned v ∧ Q13 Z a1 u h0 n0 v U'.heap L ∧ FrameEnd U o U' L ({ frames := 0, cells := 0, slots := 0, locals := 0 } : Room).cells ({ frames := 0, cells := 0, slots := 0, locals := 0 } : Room).slots) := by
  refine MetFree.of_bodySF (plainFor_of_name own_pn1) hisR ?_
  intro p e s m args below meth c s₁ Bd hml0 hP hK
  obtain ⟨rfl, hZ, hh⟩ := hP
  have hx := Bd.exec
  have hby := Bd.bytes
  have hml : c.maxLocals = 1 := hml0
  have hown : s.vm.findClass "com/example/replan/replan/model/Token" = some m.cls := findClass_of_methodNamed Bd.named
  have hnm := (name_of_methodNamed Bd.named Bd.method).1
  have X0 : Stand p l e ({ frames := 0, cells := 0, slots := 0, locals := 0 } : Room) s m #[(.ref a1)] below meth c s₁ [] 0 0 := Stand.of_body Bd
  have e0 : s₁.heap = h0 := by rw [← hh, Bd.state]; rfl
  have N0 := Fr.nil n0
  refine own_top (Q := Q13 Z a1 u h0 n0) (ef_13 m a1) ?_
  show own_G p.tables e below s₁ (mkF m 0 #[.val (.ref a1)] []) _
  refine own_go (fun t_ k_ => XS.aloadN X0.here hx rfl (hb hby d13_0) rfl rfl k_) ?_
  show own_G p.tables e below s₁ (mkF m 1 #[.val (.ref a1)] [(.ref a1)]) _
  obtain ⟨T1, X1, e1, st1⟩ := getF X0 hx hZ hown (host := "") (Or.inl (hw _ (List.mem_of_getElem? (i := 52) rfl))) Via.refl e0 F (g := (mkF m 1 #[.val (.ref a1)] [(.ref a1)])) rfl rfl (hb hby d13_1)
  refine own_go st1 ?_
  show own_G p.tables e below T1 (mkF m 4 #[.val (.ref a1)] [(.int u)]) _
  exact own_end (v := some (.int u)) X1 Bd.notSynchronized (fun h => by rw [Bd.returns] at h; cases h) (fun fs hr => retI X1 hx Bd.returns (hb hby d13_4) hr) e1 ⟨rfl, N0, rfl⟩ (by decide) (by decide)
theorem d11_0 : decode method_2_code 0 = .ok (.aload_n 0, 1) := by decide +kernel
theorem d11_1 : decode method_2_code 1 = .ok (.invokevirtual 7, 3) := by decide +kernel
theorem d11_4 : decode method_2_code 4 = .ok (.aload_n 1, 1) := by decide +kernel
theorem d11_5 : decode method_2_code 5 = .ok (.invokevirtual 7, 3) := by decide +kernel
theorem d11_8 : decode method_2_code 8 = .ok (.if_icmp .lt 25, 3) := by decide +kernel
theorem d11_11 : decode method_2_code 11 = .ok (.aload_n 0, 1) := by decide +kernel
theorem d11_12 : decode method_2_code 12 = .ok (.invokevirtual 7, 3) := by decide +kernel
theorem d11_15 : decode method_2_code 15 = .ok (.aload_n 1, 1) := by decide +kernel
theorem d11_16 : decode method_2_code 16 = .ok (.invokevirtual 7, 3) := by decide +kernel
theorem d11_19 : decode method_2_code 19 = .ok (.if_icmp .ne 18, 3) := by decide +kernel
theorem d11_22 : decode method_2_code 22 = .ok (.aload_n 0, 1) := by decide +kernel
theorem d11_23 : decode method_2_code 23 = .ok (.invokevirtual 13, 3) := by decide +kernel
theorem d11_26 : decode method_2_code 26 = .ok (.aload_n 1, 1) := by decide +kernel
theorem d11_27 : decode method_2_code 27 = .ok (.invokevirtual 13, 3) := by decide +kernel
theorem d11_30 : decode method_2_code 30 = .ok (.if_icmp .ge 7, 3) := by decide +kernel
theorem d11_33 : decode method_2_code 33 = .ok (.iconst 1, 1) := by decide +kernel
theorem d11_34 : decode method_2_code 34 = .ok (.goto 4, 3) := by decide +kernel
theorem d11_38 : decode method_2_code 38 = .ok (.ireturn, 1) := by decide +kernel
theorem ef_11 (m : MethodId) (a1 : Addr) (a2 : Addr) : entryFrame m #[(.ref a1), (.ref a2)] 2 = mkF m 0 #[.val (.ref a1), .val (.ref a2)] [] := by first | (simp [entryFrame, mkF, argsToLocals, Value.category]; done) | rfl
def Q11 (Z : State) (a1 : Addr) (a2 : Addr) (l1 l2 c1 c2 : Int32) (h0 : Heap) (n0 : Nat) (v : Option Value) (h : Heap) (L : List Loc) : Prop := v = some (.int (1 : Int32)) ∧ Fr n0 L ∧ h = h0
set_option maxRecDepth 65536 in
set_option maxHeartbeats 40000000 in
theorem rm11 (l : Launch) (Z : State) (a0 : Array Value) (hw : ∀ d ∈ tables_1, d.before a0 Z = true) (ws : List Jvm.Cond) (a1 : Addr) (a2 : Addr) (l1 l2 c1 c2 : Int32) (h0 : Heap) (n0 : Nat) (Z0 : n0 ≤ h0.size) (E1 : Exa Z h0 a1 "com/example/replan/replan/model/Token") (E2 : Exa Z h0 a2 "com/example/replan/replan/model/Token") (G1 : Fld Z h0 a1 "com/example/replan/replan/model/Token" "line" "I" (.int l1)) (G2 : Fld Z h0 a2 "com/example/replan/replan/model/Token" "line" "I" (.int l2)) (G3 : Fld Z h0 a1 "com/example/replan/replan/model/Token" "column" "I" (.int c1)) (G4 : Fld Z h0 a2 "com/example/replan/replan/model/Token" "column" "I" (.int c2)) (hbf : l1 < l2 ∨ (l1 = l2 ∧ c1 < c2)) :
    MetFree l (⟨"com/example/replan/replan/model/ColumnNameStartPinLaw", "before", "(Lcom/example/replan/replan/model/Token;Lcom/example/replan/replan/model/Token;)Z"⟩ : MethodName) (head1 (Jvm.Cond.code (⟨"com/example/replan/replan/model/ColumnNameStartPinLaw", "before", "(Lcom/example/replan/replan/model/Token;Lcom/example/replan/replan/model/Token;)Z"⟩ : MethodName) method_2_code 2 (some .boolean) :: ws) ({ frames := 1, cells := 0, slots := 0, locals := 13 } : Room)) (fun a U => a = #[(.ref a1), (.ref a2)] ∧ Z.Warmed39 U.vm ∧ U.heap = h0) (fun _ _ _ _ _ => True) (fun _ U o U' => ∃ v L, o = .returned v ∧ Q11 Z a1 a2 l1 l2 c1 c2 h0 n0 v U'.heap L ∧ FrameEnd U o U' L ({ frames := 1, cells := 0, slots := 0, locals := 13 } : Room).cells ({ frames := 1, cells := 0, slots := 0, locals := 13 } : Room).slots) := by
  refine MetFree.of_bodySF (plainFor_of_name own_pn3) hisR ?_
  intro p e s m args below meth c s₁ Bd hml0 hP hK
  obtain ⟨rfl, hZ, hh⟩ := hP
  have hx := Bd.exec
  have hby := Bd.bytes
  have hml : c.maxLocals = 2 := hml0
  have hown : s.vm.findClass "com/example/replan/replan/model/ColumnNameStartPinLaw" = some m.cls := findClass_of_methodNamed Bd.named
  have hnm := (name_of_methodNamed Bd.named Bd.method).1
  have X0 : Stand p l e ({ frames := 1, cells := 0, slots := 0, locals := 13 } : Room) s m #[(.ref a1), (.ref a2)] below meth c s₁ [] 0 0 := Stand.of_body Bd
  have e0 : s₁.heap = h0 := by rw [← hh, Bd.state]; rfl
  have N0 := Fr.nil n0
  refine own_top (Q := Q11 Z a1 a2 l1 l2 c1 c2 h0 n0) (ef_11 m a1 a2) ?_
  rcases hbf with hlt | ⟨rfl, hcl⟩
  · skip
    show own_G p.tables e below s₁ (mkF m 0 #[.val (.ref a1), .val (.ref a2)] []) _
    refine own_go (fun t_ k_ => XS.aloadN X0.here hx rfl (hb hby d11_0) rfl rfl k_) ?_
    show own_G p.tables e below s₁ (mkF m 1 #[.val (.ref a1), .val (.ref a2)] [(.ref a1)]) _
    obtain ⟨cq1, kq1, q1a, q1b, q1c⟩ := isOf hZ e0 E1
    obtain ⟨_, _, ⟨T1, L1, k1, n1⟩, -, X1, ⟨Lc1, hQ1, l1, y1, z1⟩, st1⟩ := X0.virtualBack hx (y := (⟨"com/example/replan/replan/model/Token", "line", "()I"⟩ : MethodName)) (z := (⟨"com/example/replan/replan/model/Token", "line", "()I"⟩ : MethodName)) hown (mvT hZ (hw _ (List.mem_of_getElem? (i := 74) rfl))) (mvT hZ (hw _ (List.mem_of_getElem? (i := 75) rfl))) (notFace_of_selects (args := #[]) (mvT hZ (hw _ (List.mem_of_getElem? (i := 77) rfl)))) (mvT hZ (hw _ (List.mem_of_getElem? (i := 77) rfl))) (mvT hZ (hw _ (List.mem_of_getElem? (i := 76) rfl))) (by decide) (backOf (W := 0) (rm12 l Z a0 hw [] a1 l1 h0 n0 Z0 G1) hZ (hw _ (List.mem_of_getElem? (i := 78) rfl)) (hw _ (List.mem_of_getElem? (i := 4) rfl)) (by decide) (by decide)) q1a q1c (g := (mkF m 1 #[.val (.ref a1), .val (.ref a2)] [(.ref a1)])) rfl (by rw [hml]; rfl) (Steps.refl _) (argsL := []) (rest := []) (lenOf own_pd1 rfl) rfl (by show 2 * 0 + _ ≤ _; exact Nat.le_of_eq rfl) (hb hby d11_1) (fun _ _ => ⟨rfl, e0, (by decide : 0 + 0 ≤ _), (by decide : 0 + 0 ≤ _)⟩)
    dsimp only [Pt.U, Pt.locs, Pt.cells, Pt.slots] at X1 l1 y1 z1 st1 hQ1
    subst l1 y1 z1
    obtain ⟨rfl, N1q, e1⟩ := hQ1
    have N1 := Fr.app N0 N1q
    refine own_go (fun t_ k_ => st1.trans k_) ?_
    show own_G p.tables e below T1 (mkF m 4 #[.val (.ref a1), .val (.ref a2)] [(.int l1)]) _
    refine own_go (fun t_ k_ => XS.aloadN X1.here hx rfl (hb hby d11_4) rfl rfl k_) ?_
    show own_G p.tables e below T1 (mkF m 5 #[.val (.ref a1), .val (.ref a2)] [(.ref a2), (.int l1)]) _
    obtain ⟨cq2, kq2, q2a, q2b, q2c⟩ := isOf hZ e1 E2
    obtain ⟨_, _, ⟨T2, L2, k2, n2⟩, -, X2, ⟨Lc2, hQ2, l2, y2, z2⟩, st2⟩ := X1.virtualBack hx (y := (⟨"com/example/replan/replan/model/Token", "line", "()I"⟩ : MethodName)) (z := (⟨"com/example/replan/replan/model/Token", "line", "()I"⟩ : MethodName)) hown (mvT hZ (hw _ (List.mem_of_getElem? (i := 74) rfl))) (mvT hZ (hw _ (List.mem_of_getElem? (i := 75) rfl))) (notFace_of_selects (args := #[]) (mvT hZ (hw _ (List.mem_of_getElem? (i := 77) rfl)))) (mvT hZ (hw _ (List.mem_of_getElem? (i := 77) rfl))) (mvT hZ (hw _ (List.mem_of_getElem? (i := 76) rfl))) (by decide) (backOf (W := 1) (rm12 l Z a0 hw [] a2 l2 h0 n0 Z0 G2) hZ (hw _ (List.mem_of_getElem? (i := 78) rfl)) (hw _ (List.mem_of_getElem? (i := 4) rfl)) (by decide) (by decide)) q2a q2c (g := (mkF m 5 #[.val (.ref a1), .val (.ref a2)] [(.ref a2), (.int l1)])) rfl (by rw [hml]; rfl) (Steps.refl _) (argsL := []) (rest := [(.int l1)]) (lenOf own_pd1 rfl) rfl (by show 2 * 0 + _ ≤ _; exact Nat.le_of_eq rfl) (hb hby d11_5) (fun _ _ => ⟨rfl, e1, (by decide : 0 + 0 ≤ _), (by decide : 0 + 0 ≤ _)⟩)
    dsimp only [Pt.U, Pt.locs, Pt.cells, Pt.slots] at X2 l2 y2 z2 st2 hQ2
    subst l2 y2 z2
    obtain ⟨rfl, N2q, e2⟩ := hQ2
    have N2 := Fr.app N1 N2q
    refine own_go (fun t_ k_ => st2.trans k_) ?_
    show own_G p.tables e below T2 (mkF m 8 #[.val (.ref a1), .val (.ref a2)] [(.int l2), (.int l1)]) _
    refine own_go (fun t_ k_ => XS.icmpYes X2.here hx rfl (pc0 := 8) (pc' := 33) rfl (hb hby d11_8) rfl (tlt hlt).1 (by decide) (by decide) k_) ?_
    show own_G p.tables e below T2 (mkF m 33 #[.val (.ref a1), .val (.ref a2)] []) _
    refine own_go (fun t_ k_ => XS.iconst X2.here hx rfl (hb hby d11_33) k_) ?_
    show own_G p.tables e below T2 (mkF m 34 #[.val (.ref a1), .val (.ref a2)] [(.int (1 : Int32))]) _
    refine own_go (fun t_ k_ => XS.goto X2.here hx rfl (pc0 := 34) (pc' := 38) rfl (hb hby d11_34) (by decide) (by decide) k_) ?_
    show own_G p.tables e below T2 (mkF m 38 #[.val (.ref a1), .val (.ref a2)] [(.int (1 : Int32))]) _
    exact own_end (v := some (.int (1 : Int32))) X2 Bd.notSynchronized (fun h => by rw [Bd.returns] at h; cases h) (fun fs hr => retN X2 hx (z := (1 : Int32)) (t := .boolean) Bd.returns (by simp) (hb hby d11_38) hr) e2 ⟨rfl, N2, rfl⟩ (by decide) (by decide)
  · skip
    show own_G p.tables e below s₁ (mkF m 0 #[.val (.ref a1), .val (.ref a2)] []) _
    refine own_go (fun t_ k_ => XS.aloadN X0.here hx rfl (hb hby d11_0) rfl rfl k_) ?_
    show own_G p.tables e below s₁ (mkF m 1 #[.val (.ref a1), .val (.ref a2)] [(.ref a1)]) _
    obtain ⟨cq3, kq3, q3a, q3b, q3c⟩ := isOf hZ e0 E1
    obtain ⟨_, _, ⟨T3, L3, k3, n3⟩, -, X3, ⟨Lc3, hQ3, l3, y3, z3⟩, st3⟩ := X0.virtualBack hx (y := (⟨"com/example/replan/replan/model/Token", "line", "()I"⟩ : MethodName)) (z := (⟨"com/example/replan/replan/model/Token", "line", "()I"⟩ : MethodName)) hown (mvT hZ (hw _ (List.mem_of_getElem? (i := 74) rfl))) (mvT hZ (hw _ (List.mem_of_getElem? (i := 75) rfl))) (notFace_of_selects (args := #[]) (mvT hZ (hw _ (List.mem_of_getElem? (i := 77) rfl)))) (mvT hZ (hw _ (List.mem_of_getElem? (i := 77) rfl))) (mvT hZ (hw _ (List.mem_of_getElem? (i := 76) rfl))) (by decide) (backOf (W := 0) (rm12 l Z a0 hw [] a1 l1 h0 n0 Z0 G1) hZ (hw _ (List.mem_of_getElem? (i := 78) rfl)) (hw _ (List.mem_of_getElem? (i := 4) rfl)) (by decide) (by decide)) q3a q3c (g := (mkF m 1 #[.val (.ref a1), .val (.ref a2)] [(.ref a1)])) rfl (by rw [hml]; rfl) (Steps.refl _) (argsL := []) (rest := []) (lenOf own_pd1 rfl) rfl (by show 2 * 0 + _ ≤ _; exact Nat.le_of_eq rfl) (hb hby d11_1) (fun _ _ => ⟨rfl, e0, (by decide : 0 + 0 ≤ _), (by decide : 0 + 0 ≤ _)⟩)
    dsimp only [Pt.U, Pt.locs, Pt.cells, Pt.slots] at X3 l3 y3 z3 st3 hQ3
    subst l3 y3 z3
    obtain ⟨rfl, N3q, e3⟩ := hQ3
    have N3 := Fr.app N0 N3q
    refine own_go (fun t_ k_ => st3.trans k_) ?_
    show own_G p.tables e below T3 (mkF m 4 #[.val (.ref a1), .val (.ref a2)] [(.int l1)]) _
    refine own_go (fun t_ k_ => XS.aloadN X3.here hx rfl (hb hby d11_4) rfl rfl k_) ?_
    show own_G p.tables e below T3 (mkF m 5 #[.val (.ref a1), .val (.ref a2)] [(.ref a2), (.int l1)]) _
    obtain ⟨cq4, kq4, q4a, q4b, q4c⟩ := isOf hZ e3 E2
    obtain ⟨_, _, ⟨T4, L4, k4, n4⟩, -, X4, ⟨Lc4, hQ4, l4, y4, z4⟩, st4⟩ := X3.virtualBack hx (y := (⟨"com/example/replan/replan/model/Token", "line", "()I"⟩ : MethodName)) (z := (⟨"com/example/replan/replan/model/Token", "line", "()I"⟩ : MethodName)) hown (mvT hZ (hw _ (List.mem_of_getElem? (i := 74) rfl))) (mvT hZ (hw _ (List.mem_of_getElem? (i := 75) rfl))) (notFace_of_selects (args := #[]) (mvT hZ (hw _ (List.mem_of_getElem? (i := 77) rfl)))) (mvT hZ (hw _ (List.mem_of_getElem? (i := 77) rfl))) (mvT hZ (hw _ (List.mem_of_getElem? (i := 76) rfl))) (by decide) (backOf (W := 1) (rm12 l Z a0 hw [] a2 l1 h0 n0 Z0 G2) hZ (hw _ (List.mem_of_getElem? (i := 78) rfl)) (hw _ (List.mem_of_getElem? (i := 4) rfl)) (by decide) (by decide)) q4a q4c (g := (mkF m 5 #[.val (.ref a1), .val (.ref a2)] [(.ref a2), (.int l1)])) rfl (by rw [hml]; rfl) (Steps.refl _) (argsL := []) (rest := [(.int l1)]) (lenOf own_pd1 rfl) rfl (by show 2 * 0 + _ ≤ _; exact Nat.le_of_eq rfl) (hb hby d11_5) (fun _ _ => ⟨rfl, e3, (by decide : 0 + 0 ≤ _), (by decide : 0 + 0 ≤ _)⟩)
    dsimp only [Pt.U, Pt.locs, Pt.cells, Pt.slots] at X4 l4 y4 z4 st4 hQ4
    subst l4 y4 z4
    obtain ⟨rfl, N4q, e4⟩ := hQ4
    have N4 := Fr.app N3 N4q
    refine own_go (fun t_ k_ => st4.trans k_) ?_
    show own_G p.tables e below T4 (mkF m 8 #[.val (.ref a1), .val (.ref a2)] [(.int l1), (.int l1)]) _
    refine own_go (fun t_ k_ => XS.icmpNo X4.here hx rfl (hb hby d11_8) rfl (flt Int32.lt_irrefl).1 k_) ?_
    show own_G p.tables e below T4 (mkF m 11 #[.val (.ref a1), .val (.ref a2)] []) _
    refine own_go (fun t_ k_ => XS.aloadN X4.here hx rfl (hb hby d11_11) rfl rfl k_) ?_
    show own_G p.tables e below T4 (mkF m 12 #[.val (.ref a1), .val (.ref a2)] [(.ref a1)]) _
    obtain ⟨cq5, kq5, q5a, q5b, q5c⟩ := isOf hZ e4 E1
    obtain ⟨_, _, ⟨T5, L5, k5, n5⟩, -, X5, ⟨Lc5, hQ5, l5, y5, z5⟩, st5⟩ := X4.virtualBack hx (y := (⟨"com/example/replan/replan/model/Token", "line", "()I"⟩ : MethodName)) (z := (⟨"com/example/replan/replan/model/Token", "line", "()I"⟩ : MethodName)) hown (mvT hZ (hw _ (List.mem_of_getElem? (i := 74) rfl))) (mvT hZ (hw _ (List.mem_of_getElem? (i := 75) rfl))) (notFace_of_selects (args := #[]) (mvT hZ (hw _ (List.mem_of_getElem? (i := 77) rfl)))) (mvT hZ (hw _ (List.mem_of_getElem? (i := 77) rfl))) (mvT hZ (hw _ (List.mem_of_getElem? (i := 76) rfl))) (by decide) (backOf (W := 0) (rm12 l Z a0 hw [] a1 l1 h0 n0 Z0 G1) hZ (hw _ (List.mem_of_getElem? (i := 78) rfl)) (hw _ (List.mem_of_getElem? (i := 4) rfl)) (by decide) (by decide)) q5a q5c (g := (mkF m 12 #[.val (.ref a1), .val (.ref a2)] [(.ref a1)])) rfl (by rw [hml]; rfl) (Steps.refl _) (argsL := []) (rest := []) (lenOf own_pd1 rfl) rfl (by show 2 * 0 + _ ≤ _; exact Nat.le_of_eq rfl) (hb hby d11_12) (fun _ _ => ⟨rfl, e4, (by decide : 0 + 0 ≤ _), (by decide : 0 + 0 ≤ _)⟩)
    dsimp only [Pt.U, Pt.locs, Pt.cells, Pt.slots] at X5 l5 y5 z5 st5 hQ5
    subst l5 y5 z5
    obtain ⟨rfl, N5q, e5⟩ := hQ5
    have N5 := Fr.app N4 N5q
    refine own_go (fun t_ k_ => st5.trans k_) ?_
    show own_G p.tables e below T5 (mkF m 15 #[.val (.ref a1), .val (.ref a2)] [(.int l1)]) _
    refine own_go (fun t_ k_ => XS.aloadN X5.here hx rfl (hb hby d11_15) rfl rfl k_) ?_
    show own_G p.tables e below T5 (mkF m 16 #[.val (.ref a1), .val (.ref a2)] [(.ref a2), (.int l1)]) _
    obtain ⟨cq6, kq6, q6a, q6b, q6c⟩ := isOf hZ e5 E2
    obtain ⟨_, _, ⟨T6, L6, k6, n6⟩, -, X6, ⟨Lc6, hQ6, l6, y6, z6⟩, st6⟩ := X5.virtualBack hx (y := (⟨"com/example/replan/replan/model/Token", "line", "()I"⟩ : MethodName)) (z := (⟨"com/example/replan/replan/model/Token", "line", "()I"⟩ : MethodName)) hown (mvT hZ (hw _ (List.mem_of_getElem? (i := 74) rfl))) (mvT hZ (hw _ (List.mem_of_getElem? (i := 75) rfl))) (notFace_of_selects (args := #[]) (mvT hZ (hw _ (List.mem_of_getElem? (i := 77) rfl)))) (mvT hZ (hw _ (List.mem_of_getElem? (i := 77) rfl))) (mvT hZ (hw _ (List.mem_of_getElem? (i := 76) rfl))) (by decide) (backOf (W := 1) (rm12 l Z a0 hw [] a2 l1 h0 n0 Z0 G2) hZ (hw _ (List.mem_of_getElem? (i := 78) rfl)) (hw _ (List.mem_of_getElem? (i := 4) rfl)) (by decide) (by decide)) q6a q6c (g := (mkF m 16 #[.val (.ref a1), .val (.ref a2)] [(.ref a2), (.int l1)])) rfl (by rw [hml]; rfl) (Steps.refl _) (argsL := []) (rest := [(.int l1)]) (lenOf own_pd1 rfl) rfl (by show 2 * 0 + _ ≤ _; exact Nat.le_of_eq rfl) (hb hby d11_16) (fun _ _ => ⟨rfl, e5, (by decide : 0 + 0 ≤ _), (by decide : 0 + 0 ≤ _)⟩)
    dsimp only [Pt.U, Pt.locs, Pt.cells, Pt.slots] at X6 l6 y6 z6 st6 hQ6
    subst l6 y6 z6
    obtain ⟨rfl, N6q, e6⟩ := hQ6
    have N6 := Fr.app N5 N6q
    refine own_go (fun t_ k_ => st6.trans k_) ?_
    show own_G p.tables e below T6 (mkF m 19 #[.val (.ref a1), .val (.ref a2)] [(.int l1), (.int l1)]) _
    refine own_go (fun t_ k_ => XS.icmpNo X6.here hx rfl (hb hby d11_19) rfl (teq (rfl : l1 = l1)).2 k_) ?_
    show own_G p.tables e below T6 (mkF m 22 #[.val (.ref a1), .val (.ref a2)] []) _
    refine own_go (fun t_ k_ => XS.aloadN X6.here hx rfl (hb hby d11_22) rfl rfl k_) ?_
    show own_G p.tables e below T6 (mkF m 23 #[.val (.ref a1), .val (.ref a2)] [(.ref a1)]) _
    obtain ⟨cq7, kq7, q7a, q7b, q7c⟩ := isOf hZ e6 E1
    obtain ⟨_, _, ⟨T7, L7, k7, n7⟩, -, X7, ⟨Lc7, hQ7, l7, y7, z7⟩, st7⟩ := X6.virtualBack hx (y := (⟨"com/example/replan/replan/model/Token", "column", "()I"⟩ : MethodName)) (z := (⟨"com/example/replan/replan/model/Token", "column", "()I"⟩ : MethodName)) hown (mvT hZ (hw _ (List.mem_of_getElem? (i := 79) rfl))) (mvT hZ (hw _ (List.mem_of_getElem? (i := 80) rfl))) (notFace_of_selects (args := #[]) (mvT hZ (hw _ (List.mem_of_getElem? (i := 82) rfl)))) (mvT hZ (hw _ (List.mem_of_getElem? (i := 82) rfl))) (mvT hZ (hw _ (List.mem_of_getElem? (i := 81) rfl))) (by decide) (backOf (W := 0) (rm13 l Z a0 hw [] a1 c1 h0 n0 Z0 G3) hZ (hw _ (List.mem_of_getElem? (i := 83) rfl)) (hw _ (List.mem_of_getElem? (i := 4) rfl)) (by decide) (by decide)) q7a q7c (g := (mkF m 23 #[.val (.ref a1), .val (.ref a2)] [(.ref a1)])) rfl (by rw [hml]; rfl) (Steps.refl _) (argsL := []) (rest := []) (lenOf own_pd1 rfl) rfl (by show 2 * 0 + _ ≤ _; exact Nat.le_of_eq rfl) (hb hby d11_23) (fun _ _ => ⟨rfl, e6, (by decide : 0 + 0 ≤ _), (by decide : 0 + 0 ≤ _)⟩)
    dsimp only [Pt.U, Pt.locs, Pt.cells, Pt.slots] at X7 l7 y7 z7 st7 hQ7
    subst l7 y7 z7
    obtain ⟨rfl, N7q, e7⟩ := hQ7
    have N7 := Fr.app N6 N7q
    refine own_go (fun t_ k_ => st7.trans k_) ?_
    show own_G p.tables e below T7 (mkF m 26 #[.val (.ref a1), .val (.ref a2)] [(.int c1)]) _
    refine own_go (fun t_ k_ => XS.aloadN X7.here hx rfl (hb hby d11_26) rfl rfl k_) ?_
    show own_G p.tables e below T7 (mkF m 27 #[.val (.ref a1), .val (.ref a2)] [(.ref a2), (.int c1)]) _
    obtain ⟨cq8, kq8, q8a, q8b, q8c⟩ := isOf hZ e7 E2
    obtain ⟨_, _, ⟨T8, L8, k8, n8⟩, -, X8, ⟨Lc8, hQ8, l8, y8, z8⟩, st8⟩ := X7.virtualBack hx (y := (⟨"com/example/replan/replan/model/Token", "column", "()I"⟩ : MethodName)) (z := (⟨"com/example/replan/replan/model/Token", "column", "()I"⟩ : MethodName)) hown (mvT hZ (hw _ (List.mem_of_getElem? (i := 79) rfl))) (mvT hZ (hw _ (List.mem_of_getElem? (i := 80) rfl))) (notFace_of_selects (args := #[]) (mvT hZ (hw _ (List.mem_of_getElem? (i := 82) rfl)))) (mvT hZ (hw _ (List.mem_of_getElem? (i := 82) rfl))) (mvT hZ (hw _ (List.mem_of_getElem? (i := 81) rfl))) (by decide) (backOf (W := 1) (rm13 l Z a0 hw [] a2 c2 h0 n0 Z0 G4) hZ (hw _ (List.mem_of_getElem? (i := 83) rfl)) (hw _ (List.mem_of_getElem? (i := 4) rfl)) (by decide) (by decide)) q8a q8c (g := (mkF m 27 #[.val (.ref a1), .val (.ref a2)] [(.ref a2), (.int c1)])) rfl (by rw [hml]; rfl) (Steps.refl _) (argsL := []) (rest := [(.int c1)]) (lenOf own_pd1 rfl) rfl (by show 2 * 0 + _ ≤ _; exact Nat.le_of_eq rfl) (hb hby d11_27) (fun _ _ => ⟨rfl, e7, (by decide : 0 + 0 ≤ _), (by decide : 0 + 0 ≤ _)⟩)
    dsimp only [Pt.U, Pt.locs, Pt.cells, Pt.slots] at X8 l8 y8 z8 st8 hQ8
    subst l8 y8 z8
    obtain ⟨rfl, N8q, e8⟩ := hQ8
    have N8 := Fr.app N7 N8q
    refine own_go (fun t_ k_ => st8.trans k_) ?_
    show own_G p.tables e below T8 (mkF m 30 #[.val (.ref a1), .val (.ref a2)] [(.int c2), (.int c1)]) _
    refine own_go (fun t_ k_ => XS.icmpNo X8.here hx rfl (hb hby d11_30) rfl (tlt hcl).2.1 k_) ?_
    show own_G p.tables e below T8 (mkF m 33 #[.val (.ref a1), .val (.ref a2)] []) _
    refine own_go (fun t_ k_ => XS.iconst X8.here hx rfl (hb hby d11_33) k_) ?_
    show own_G p.tables e below T8 (mkF m 34 #[.val (.ref a1), .val (.ref a2)] [(.int (1 : Int32))]) _
    refine own_go (fun t_ k_ => XS.goto X8.here hx rfl (pc0 := 34) (pc' := 38) rfl (hb hby d11_34) (by decide) (by decide) k_) ?_
    show own_G p.tables e below T8 (mkF m 38 #[.val (.ref a1), .val (.ref a2)] [(.int (1 : Int32))]) _
    exact own_end (v := some (.int (1 : Int32))) X8 Bd.notSynchronized (fun h => by rw [Bd.returns] at h; cases h) (fun fs hr => retN X8 hx (z := (1 : Int32)) (t := .boolean) Bd.returns (by simp) (hb hby d11_38) hr) e8 ⟨rfl, N8, rfl⟩ (by decide) (by decide)
theorem ef_0 (m : MethodId) (p1 : Int32) (p2 : Int32) (p3 : Int32) (p4 : Int32) (p5 : Int32) : entryFrame m #[(.int p1), (.int p2), (.int p3), (.int p4), (.int p5)] maxLocals = mkF m 0 #[.val (.int p1), .val (.int p2), .val (.int p3), .val (.int p4), .val (.int p5), .unset, .unset, .unset, .unset, .unset, .unset, .unset, .unset, .unset, .unset, .unset, .unset] [] := by first | (simp [entryFrame, mkF, argsToLocals, Value.category, maxLocals]; done) | rfl
def Q0 (Z : State) (p1 : Int32) (p2 : Int32) (p3 : Int32) (p4 : Int32) (p5 : Int32) (cs : Int32) (wK : Addr) (h0 : Heap) (n0 : Nat) (v : Option Value) (h : Heap) (L : List Loc) : Prop := v = some (.int (1 : Int32)) ∧ Fr n0 L
set_option maxRecDepth 65536 in
set_option maxHeartbeats 40000000 in
theorem rm0 (l : Launch) (Z : State) (a0 : Array Value) (hw : ∀ d ∈ tables_1, d.before a0 Z = true) (ws : List Jvm.Cond) (p1 : Int32) (p2 : Int32) (p3 : Int32) (p4 : Int32) (p5 : Int32) (cs : Int32) (wK : Addr) (h0 : Heap) (n0 : Nat) (Z0 : n0 ≤ h0.size) (S_C : Sta Z h0 "java/lang/String" "COMPACT_STRINGS" "Z" (.int cs)) (hcs : ¬ cs = 0) (S_K : Sta Z h0 "com/example/replan/replan/model/Token$Kind" "WORD" "Lcom/example/replan/replan/model/Token$Kind;" (.ref wK)) :
    MetFree l x (head1 (Jvm.Cond.code x code maxLocals ret :: ws) room_1) (fun a U => a = #[(.int p1), (.int p2), (.int p3), (.int p4), (.int p5)] ∧ Z.Warmed39 U.vm ∧ U.heap = h0) (fun _ _ _ _ _ => True) (fun _ U o U' => ∃ v L, o = .returned v ∧ Q0 Z p1 p2 p3 p4 p5 cs wK h0 n0 v U'.heap L ∧ FrameEnd U o U' L 32 128) := by
  refine MetFree.of_bodySF (plainFor_of_name own_pn3) hisR ?_
  intro p e s m args below meth c s₁ Bd hml0 hP hK
  obtain ⟨rfl, hZ, hh⟩ := hP
  have hx := Bd.exec
  have hby := Bd.bytes
  have hml : c.maxLocals = 17 := hml0
  have hown : s.vm.findClass "com/example/replan/replan/model/ColumnNameStartPinLaw" = some m.cls := findClass_of_methodNamed Bd.named
  have hnm := (name_of_methodNamed Bd.named Bd.method).1
  have X0 : Stand p l e room_1 s m #[(.int p1), (.int p2), (.int p3), (.int p4), (.int p5)] below meth c s₁ [] 0 0 := Stand.of_body Bd
  have e0 : s₁.heap = h0 := by rw [← hh, Bd.state]; rfl
  have N0 := Fr.nil n0
  refine own_top (Q := Q0 Z p1 p2 p3 p4 p5 cs wK h0 n0) (ef_0 m p1 p2 p3 p4 p5) ?_
  have hws : ∀ d ∈ StrChars.Road.words, d.before a0 Z = true := fun d hd => hw d ((by decide +kernel : ∀ d ∈ StrChars.Road.words, d ∈ tables_1) d hd)
  have tail : ∀ (h5 s6 v7 v8 v9 v10 : Int32), (v7 < v9 ∨ (v7 = v9 ∧ v8 < v10)) → own_G p.tables e below s₁ (mkF m 86 #[.val (.int p1), .val (.int p2), .val (.int p3), .val (.int p4), .val (.int p5), .val (.int h5), .val (.int s6), .val (.int v7), .val (.int v8), .val (.int v9), .val (.int v10), .unset, .unset, .unset, .unset, .unset, .unset] []) (own_P below s (Q0 Z p1 p2 p3 p4 p5 cs wK h0 n0) 32 128) := by
    intro h5 s6 v7 v8 v9 v10 hbf
    show own_G p.tables e below s₁ (mkF m 86 #[.val (.int p1), .val (.int p2), .val (.int p3), .val (.int p4), .val (.int p5), .val (.int h5), .val (.int s6), .val (.int v7), .val (.int v8), .val (.int v9), .val (.int v10), .unset, .unset, .unset, .unset, .unset, .unset] []) _
    refine own_go (fun t_ k_ => XS.iconst X0.here hx rfl (hb hby at_86) k_) ?_
    show own_G p.tables e below s₁ (mkF m 87 #[.val (.int p1), .val (.int p2), .val (.int p3), .val (.int p4), .val (.int p5), .val (.int h5), .val (.int s6), .val (.int v7), .val (.int v8), .val (.int v9), .val (.int v10), .unset, .unset, .unset, .unset, .unset, .unset] [(.int (1 : Int32))]) _
    obtain ⟨T1, h1, k1, X1, e1, E1, A1, st1⟩ := newP X0 hx hZ (hw _ (List.mem_of_getElem? (i := 1) rfl)) e0 (g := (mkF m 87 #[.val (.int p1), .val (.int p2), .val (.int p3), .val (.int p4), .val (.int p5), .val (.int h5), .val (.int s6), .val (.int v7), .val (.int v8), .val (.int v9), .val (.int v10), .unset, .unset, .unset, .unset, .unset, .unset] [(.int (1 : Int32))])) rfl (hb hby at_87) rfl (by decide) (cap := 1) (by decide) (by decide) (by decide) (by decide)
    obtain ⟨b1, g1⟩ : ∃ z, z = h0.size := ⟨_, rfl⟩
    rw [← g1] at A1 st1
    have ge_b1 : n0 ≤ b1 := Nat.le_trans Z0 (Nat.le_of_eq g1.symm)
    have V1 : Arv Z h1 b1 k1 .char (1 : Int32) [(.int (0 : Int32))] (.int (0 : Int32)) := (Arv.new A1 (by decide)).pad (pad_rep [] (.int (0 : Int32)) 1)
    refine own_go st1 ?_
    show own_G p.tables e below T1 (mkF m 89 #[.val (.int p1), .val (.int p2), .val (.int p3), .val (.int p4), .val (.int p5), .val (.int h5), .val (.int s6), .val (.int v7), .val (.int v8), .val (.int v9), .val (.int v10), .unset, .unset, .unset, .unset, .unset, .unset] [(.ref b1)]) _
    refine own_go (fun t_ k_ => XS.dup X1.here hx rfl (hb hby at_89) rfl rfl k_) ?_
    show own_G p.tables e below T1 (mkF m 90 #[.val (.int p1), .val (.int p2), .val (.int p3), .val (.int p4), .val (.int p5), .val (.int h5), .val (.int s6), .val (.int v7), .val (.int v8), .val (.int v9), .val (.int v10), .unset, .unset, .unset, .unset, .unset, .unset] [(.ref b1), (.ref b1)]) _
    refine own_go (fun t_ k_ => XS.iconst X1.here hx rfl (hb hby at_90) k_) ?_
    show own_G p.tables e below T1 (mkF m 91 #[.val (.int p1), .val (.int p2), .val (.int p3), .val (.int p4), .val (.int p5), .val (.int h5), .val (.int s6), .val (.int v7), .val (.int v8), .val (.int v9), .val (.int v10), .unset, .unset, .unset, .unset, .unset, .unset] [(.int (0 : Int32)), (.ref b1), (.ref b1)]) _
    refine own_go (fun t_ k_ => XS.iload X1.here hx rfl (hb hby at_91) rfl k_) ?_
    show own_G p.tables e below T1 (mkF m 93 #[.val (.int p1), .val (.int p2), .val (.int p3), .val (.int p4), .val (.int p5), .val (.int h5), .val (.int s6), .val (.int v7), .val (.int v8), .val (.int v9), .val (.int v10), .unset, .unset, .unset, .unset, .unset, .unset] [(.int p5), (.int (0 : Int32)), (.ref b1), (.ref b1)]) _
    refine own_go (fun t_ k_ => XS.bipush X1.here hx rfl (hb hby at_93) k_) ?_
    show own_G p.tables e below T1 (mkF m 95 #[.val (.int p1), .val (.int p2), .val (.int p3), .val (.int p4), .val (.int p5), .val (.int h5), .val (.int s6), .val (.int v7), .val (.int v8), .val (.int v9), .val (.int v10), .unset, .unset, .unset, .unset, .unset, .unset] [(.int (8 : Int32)), (.int p5), (.int (0 : Int32)), (.ref b1), (.ref b1)]) _
    refine own_go (fun t_ k_ => XS.iushr X1.here hx rfl (hb hby at_95) rfl k_) ?_
    show own_G p.tables e below T1 (mkF m 96 #[.val (.int p1), .val (.int p2), .val (.int p3), .val (.int p4), .val (.int p5), .val (.int h5), .val (.int s6), .val (.int v7), .val (.int v8), .val (.int v9), .val (.int v10), .unset, .unset, .unset, .unset, .unset, .unset] [(.int ((p5.toUInt32 >>> ((8 : Int32) &&& 31).toUInt32).toInt32)), (.int (0 : Int32)), (.ref b1), (.ref b1)]) _
    refine own_go (fun t_ k_ => XS.sipush X1.here hx rfl (hb hby at_96) k_) ?_
    show own_G p.tables e below T1 (mkF m 99 #[.val (.int p1), .val (.int p2), .val (.int p3), .val (.int p4), .val (.int p5), .val (.int h5), .val (.int s6), .val (.int v7), .val (.int v8), .val (.int v9), .val (.int v10), .unset, .unset, .unset, .unset, .unset, .unset] [(.int (255 : Int32)), (.int ((p5.toUInt32 >>> ((8 : Int32) &&& 31).toUInt32).toInt32)), (.int (0 : Int32)), (.ref b1), (.ref b1)]) _
    refine own_go (fun t_ k_ => XS.iand X1.here hx rfl (hb hby at_99) rfl k_) ?_
    show own_G p.tables e below T1 (mkF m 100 #[.val (.int p1), .val (.int p2), .val (.int p3), .val (.int p4), .val (.int p5), .val (.int h5), .val (.int s6), .val (.int v7), .val (.int v8), .val (.int v9), .val (.int v10), .unset, .unset, .unset, .unset, .unset, .unset] [(.int (((p5.toUInt32 >>> ((8 : Int32) &&& 31).toUInt32).toInt32) &&& (255 : Int32))), (.int (0 : Int32)), (.ref b1), (.ref b1)]) _
    refine own_go (fun t_ k_ => XS.i2c X1.here hx rfl (hb hby at_100) rfl k_) ?_
    show own_G p.tables e below T1 (mkF m 101 #[.val (.int p1), .val (.int p2), .val (.int p3), .val (.int p4), .val (.int p5), .val (.int h5), .val (.int s6), .val (.int v7), .val (.int v8), .val (.int v9), .val (.int v10), .unset, .unset, .unset, .unset, .unset, .unset] [(.int ((((p5.toUInt32 >>> ((8 : Int32) &&& 31).toUInt32).toInt32) &&& (255 : Int32)).toUInt32.toUInt16.toUInt32.toInt32)), (.int (0 : Int32)), (.ref b1), (.ref b1)]) _
    rw [i2c_mask]
    show own_G p.tables e below T1 (mkF m 101 #[.val (.int p1), .val (.int p2), .val (.int p3), .val (.int p4), .val (.int p5), .val (.int h5), .val (.int s6), .val (.int v7), .val (.int v8), .val (.int v9), .val (.int v10), .unset, .unset, .unset, .unset, .unset, .unset] [(.int (((p5.toUInt32 >>> ((8 : Int32) &&& 31).toUInt32).toInt32) &&& (255 : Int32))), (.int (0 : Int32)), (.ref b1), (.ref b1)]) _
    obtain ⟨cl2, Ar2, q2, S2, M2, H2, G2⟩ := id V1
    have hin2 : ¬ ((0 : Int32) < 0 ∨ cl2.slots.size ≤ ((0 : Int32)).toNatClampNeg) := inb_of S2 ⟨by decide, by decide⟩
    obtain ⟨T2, h2, X2, e2, W2, st2⟩ := stC X1 hx hZ e1 Ar2 (j := (0 : Int32)) hin2 (g := (mkF m 101 #[.val (.int p1), .val (.int p2), .val (.int p3), .val (.int p4), .val (.int p5), .val (.int h5), .val (.int s6), .val (.int v7), .val (.int v8), .val (.int v9), .val (.int v10), .unset, .unset, .unset, .unset, .unset, .unset] [(.int (((p5.toUInt32 >>> ((8 : Int32) &&& 31).toUInt32).toInt32) &&& (255 : Int32))), (.int (0 : Int32)), (.ref b1), (.ref b1)])) rfl rfl (hb hby at_101)
    have N2 := Fr.snoc X2 N0 ge_b1
    have V2 : Arv Z h2 b1 k1 .char (1 : Int32) [(.int (((p5.toUInt32 >>> ((8 : Int32) &&& 31).toUInt32).toInt32) &&& (255 : Int32)))] (.int (0 : Int32)) := by
      have q := Arv.set Ar2 q2 S2 M2 H2 G2 (fits_nar_char _) W2 0 rfl (Nat.le_of_ble_eq_true rfl)
      rw [show nar .char (((p5.toUInt32 >>> ((8 : Int32) &&& 31).toUInt32).toInt32) &&& (255 : Int32)) = (((p5.toUInt32 >>> ((8 : Int32) &&& 31).toUInt32).toInt32) &&& (255 : Int32)) from i2c_mask _] at q
      exact q
    refine own_go st2 ?_
    show own_G p.tables e below T2 (mkF m 102 #[.val (.int p1), .val (.int p2), .val (.int p3), .val (.int p4), .val (.int p5), .val (.int h5), .val (.int s6), .val (.int v7), .val (.int v8), .val (.int v9), .val (.int v10), .unset, .unset, .unset, .unset, .unset, .unset] [(.ref b1)]) _
    refine own_go (fun t_ k_ => XS.astore X2.here hx rfl (hb hby at_102) rfl rfl (l' := #[.val (.int p1), .val (.int p2), .val (.int p3), .val (.int p4), .val (.int p5), .val (.int h5), .val (.int s6), .val (.int v7), .val (.int v8), .val (.int v9), .val (.int v10), .val (.ref b1), .unset, .unset, .unset, .unset, .unset]) rfl k_) ?_
    show own_G p.tables e below T2 (mkF m 104 #[.val (.int p1), .val (.int p2), .val (.int p3), .val (.int p4), .val (.int p5), .val (.int h5), .val (.int s6), .val (.int v7), .val (.int v8), .val (.int v9), .val (.int v10), .val (.ref b1), .unset, .unset, .unset, .unset, .unset] []) _
    refine own_go (fun t_ k_ => XS.iconst X2.here hx rfl (hb hby at_104) k_) ?_
    show own_G p.tables e below T2 (mkF m 105 #[.val (.int p1), .val (.int p2), .val (.int p3), .val (.int p4), .val (.int p5), .val (.int h5), .val (.int s6), .val (.int v7), .val (.int v8), .val (.int v9), .val (.int v10), .val (.ref b1), .unset, .unset, .unset, .unset, .unset] [(.int (1 : Int32))]) _
    obtain ⟨T3, h3, k3, X3, e3, E3, A3, st3⟩ := newP X2 hx hZ (hw _ (List.mem_of_getElem? (i := 1) rfl)) e2 (g := (mkF m 105 #[.val (.int p1), .val (.int p2), .val (.int p3), .val (.int p4), .val (.int p5), .val (.int h5), .val (.int s6), .val (.int v7), .val (.int v8), .val (.int v9), .val (.int v10), .val (.ref b1), .unset, .unset, .unset, .unset, .unset] [(.int (1 : Int32))])) rfl (hb hby at_105) rfl (by decide) (cap := 1) (by decide) (by decide) (by decide) (by decide)
    obtain ⟨b3, g3⟩ : ∃ z, z = h2.size := ⟨_, rfl⟩
    rw [← g3] at A3 st3
    have ne4 : b1 ≠ b3 := Nat.ne_of_lt (Nat.lt_of_lt_of_le V2.lt (Nat.le_of_eq g3.symm))
    have f5 : n0 ≤ h2.size := (Nat.le_trans (Nat.le_trans Z0 E1.1) (Keep.of_wr W2).1)
    have ge_b3 : n0 ≤ b3 := Nat.le_trans f5 (Nat.le_of_eq g3.symm)
    have V3 : Arv Z h3 b3 k3 .char (1 : Int32) [(.int (0 : Int32))] (.int (0 : Int32)) := (Arv.new A3 (by decide)).pad (pad_rep [] (.int (0 : Int32)) 1)
    refine own_go st3 ?_
    show own_G p.tables e below T3 (mkF m 107 #[.val (.int p1), .val (.int p2), .val (.int p3), .val (.int p4), .val (.int p5), .val (.int h5), .val (.int s6), .val (.int v7), .val (.int v8), .val (.int v9), .val (.int v10), .val (.ref b1), .unset, .unset, .unset, .unset, .unset] [(.ref b3)]) _
    refine own_go (fun t_ k_ => XS.dup X3.here hx rfl (hb hby at_107) rfl rfl k_) ?_
    show own_G p.tables e below T3 (mkF m 108 #[.val (.int p1), .val (.int p2), .val (.int p3), .val (.int p4), .val (.int p5), .val (.int h5), .val (.int s6), .val (.int v7), .val (.int v8), .val (.int v9), .val (.int v10), .val (.ref b1), .unset, .unset, .unset, .unset, .unset] [(.ref b3), (.ref b3)]) _
    refine own_go (fun t_ k_ => XS.iconst X3.here hx rfl (hb hby at_108) k_) ?_
    show own_G p.tables e below T3 (mkF m 109 #[.val (.int p1), .val (.int p2), .val (.int p3), .val (.int p4), .val (.int p5), .val (.int h5), .val (.int s6), .val (.int v7), .val (.int v8), .val (.int v9), .val (.int v10), .val (.ref b1), .unset, .unset, .unset, .unset, .unset] [(.int (0 : Int32)), (.ref b3), (.ref b3)]) _
    refine own_go (fun t_ k_ => XS.iload X3.here hx rfl (hb hby at_109) rfl k_) ?_
    show own_G p.tables e below T3 (mkF m 111 #[.val (.int p1), .val (.int p2), .val (.int p3), .val (.int p4), .val (.int p5), .val (.int h5), .val (.int s6), .val (.int v7), .val (.int v8), .val (.int v9), .val (.int v10), .val (.ref b1), .unset, .unset, .unset, .unset, .unset] [(.int p5), (.int (0 : Int32)), (.ref b3), (.ref b3)]) _
    refine own_go (fun t_ k_ => XS.bipush X3.here hx rfl (hb hby at_111) k_) ?_
    show own_G p.tables e below T3 (mkF m 113 #[.val (.int p1), .val (.int p2), .val (.int p3), .val (.int p4), .val (.int p5), .val (.int h5), .val (.int s6), .val (.int v7), .val (.int v8), .val (.int v9), .val (.int v10), .val (.ref b1), .unset, .unset, .unset, .unset, .unset] [(.int (16 : Int32)), (.int p5), (.int (0 : Int32)), (.ref b3), (.ref b3)]) _
    refine own_go (fun t_ k_ => XS.iushr X3.here hx rfl (hb hby at_113) rfl k_) ?_
    show own_G p.tables e below T3 (mkF m 114 #[.val (.int p1), .val (.int p2), .val (.int p3), .val (.int p4), .val (.int p5), .val (.int h5), .val (.int s6), .val (.int v7), .val (.int v8), .val (.int v9), .val (.int v10), .val (.ref b1), .unset, .unset, .unset, .unset, .unset] [(.int ((p5.toUInt32 >>> ((16 : Int32) &&& 31).toUInt32).toInt32)), (.int (0 : Int32)), (.ref b3), (.ref b3)]) _
    refine own_go (fun t_ k_ => XS.sipush X3.here hx rfl (hb hby at_114) k_) ?_
    show own_G p.tables e below T3 (mkF m 117 #[.val (.int p1), .val (.int p2), .val (.int p3), .val (.int p4), .val (.int p5), .val (.int h5), .val (.int s6), .val (.int v7), .val (.int v8), .val (.int v9), .val (.int v10), .val (.ref b1), .unset, .unset, .unset, .unset, .unset] [(.int (255 : Int32)), (.int ((p5.toUInt32 >>> ((16 : Int32) &&& 31).toUInt32).toInt32)), (.int (0 : Int32)), (.ref b3), (.ref b3)]) _
    refine own_go (fun t_ k_ => XS.iand X3.here hx rfl (hb hby at_117) rfl k_) ?_
    show own_G p.tables e below T3 (mkF m 118 #[.val (.int p1), .val (.int p2), .val (.int p3), .val (.int p4), .val (.int p5), .val (.int h5), .val (.int s6), .val (.int v7), .val (.int v8), .val (.int v9), .val (.int v10), .val (.ref b1), .unset, .unset, .unset, .unset, .unset] [(.int (((p5.toUInt32 >>> ((16 : Int32) &&& 31).toUInt32).toInt32) &&& (255 : Int32))), (.int (0 : Int32)), (.ref b3), (.ref b3)]) _
    refine own_go (fun t_ k_ => XS.i2c X3.here hx rfl (hb hby at_118) rfl k_) ?_
    show own_G p.tables e below T3 (mkF m 119 #[.val (.int p1), .val (.int p2), .val (.int p3), .val (.int p4), .val (.int p5), .val (.int h5), .val (.int s6), .val (.int v7), .val (.int v8), .val (.int v9), .val (.int v10), .val (.ref b1), .unset, .unset, .unset, .unset, .unset] [(.int ((((p5.toUInt32 >>> ((16 : Int32) &&& 31).toUInt32).toInt32) &&& (255 : Int32)).toUInt32.toUInt16.toUInt32.toInt32)), (.int (0 : Int32)), (.ref b3), (.ref b3)]) _
    rw [i2c_mask]
    show own_G p.tables e below T3 (mkF m 119 #[.val (.int p1), .val (.int p2), .val (.int p3), .val (.int p4), .val (.int p5), .val (.int h5), .val (.int s6), .val (.int v7), .val (.int v8), .val (.int v9), .val (.int v10), .val (.ref b1), .unset, .unset, .unset, .unset, .unset] [(.int (((p5.toUInt32 >>> ((16 : Int32) &&& 31).toUInt32).toInt32) &&& (255 : Int32))), (.int (0 : Int32)), (.ref b3), (.ref b3)]) _
    obtain ⟨cl6, Ar6, q6, S6, M6, H6, G6⟩ := id V3
    have hin6 : ¬ ((0 : Int32) < 0 ∨ cl6.slots.size ≤ ((0 : Int32)).toNatClampNeg) := inb_of S6 ⟨by decide, by decide⟩
    obtain ⟨T6, h6, X6, e6, W6, st6⟩ := stC X3 hx hZ e3 Ar6 (j := (0 : Int32)) hin6 (g := (mkF m 119 #[.val (.int p1), .val (.int p2), .val (.int p3), .val (.int p4), .val (.int p5), .val (.int h5), .val (.int s6), .val (.int v7), .val (.int v8), .val (.int v9), .val (.int v10), .val (.ref b1), .unset, .unset, .unset, .unset, .unset] [(.int (((p5.toUInt32 >>> ((16 : Int32) &&& 31).toUInt32).toInt32) &&& (255 : Int32))), (.int (0 : Int32)), (.ref b3), (.ref b3)])) rfl rfl (hb hby at_119)
    have N6 := Fr.snoc X6 N2 ge_b3
    have V6 : Arv Z h6 b3 k3 .char (1 : Int32) [(.int (((p5.toUInt32 >>> ((16 : Int32) &&& 31).toUInt32).toInt32) &&& (255 : Int32)))] (.int (0 : Int32)) := by
      have q := Arv.set Ar6 q6 S6 M6 H6 G6 (fits_nar_char _) W6 0 rfl (Nat.le_of_ble_eq_true rfl)
      rw [show nar .char (((p5.toUInt32 >>> ((16 : Int32) &&& 31).toUInt32).toInt32) &&& (255 : Int32)) = (((p5.toUInt32 >>> ((16 : Int32) &&& 31).toUInt32).toInt32) &&& (255 : Int32)) from i2c_mask _] at q
      exact q
    refine own_go st6 ?_
    show own_G p.tables e below T6 (mkF m 120 #[.val (.int p1), .val (.int p2), .val (.int p3), .val (.int p4), .val (.int p5), .val (.int h5), .val (.int s6), .val (.int v7), .val (.int v8), .val (.int v9), .val (.int v10), .val (.ref b1), .unset, .unset, .unset, .unset, .unset] [(.ref b3)]) _
    refine own_go (fun t_ k_ => XS.astore X6.here hx rfl (hb hby at_120) rfl rfl (l' := #[.val (.int p1), .val (.int p2), .val (.int p3), .val (.int p4), .val (.int p5), .val (.int h5), .val (.int s6), .val (.int v7), .val (.int v8), .val (.int v9), .val (.int v10), .val (.ref b1), .val (.ref b3), .unset, .unset, .unset, .unset]) rfl k_) ?_
    show own_G p.tables e below T6 (mkF m 122 #[.val (.int p1), .val (.int p2), .val (.int p3), .val (.int p4), .val (.int p5), .val (.int h5), .val (.int s6), .val (.int v7), .val (.int v8), .val (.int v9), .val (.int v10), .val (.ref b1), .val (.ref b3), .unset, .unset, .unset, .unset] []) _
    obtain ⟨T7, h7, X7, e7, E7, A7, D7, -, st7⟩ := newO X6 hx hZ hown (hw _ (List.mem_of_getElem? (i := 2) rfl)) (hw _ (List.mem_of_getElem? (i := 3) rfl)) (hw _ (List.mem_of_getElem? (i := 4) rfl)) e6 (g := (mkF m 122 #[.val (.int p1), .val (.int p2), .val (.int p3), .val (.int p4), .val (.int p5), .val (.int h5), .val (.int s6), .val (.int v7), .val (.int v8), .val (.int v9), .val (.int v10), .val (.ref b1), .val (.ref b3), .unset, .unset, .unset, .unset] [])) rfl (hb hby at_122) (by decide) (by decide)
    obtain ⟨b7, g7⟩ : ∃ z, z = h6.size := ⟨_, rfl⟩
    rw [← g7] at A7 D7 st7
    have f8 : Arv Z h6 b1 k1 .char (1 : Int32) [(.int (((p5.toUInt32 >>> ((8 : Int32) &&& 31).toUInt32).toInt32) &&& (255 : Int32)))] (.int (0 : Int32)) := ((V2.ext E3).other W6 ne4)
    have ne9 : b1 ≠ b7 := Nat.ne_of_lt (Nat.lt_of_lt_of_le f8.lt (Nat.le_of_eq g7.symm))
    have ne10 : b3 ≠ b7 := Nat.ne_of_lt (Nat.lt_of_lt_of_le V6.lt (Nat.le_of_eq g7.symm))
    have f11 : n0 ≤ h6.size := (Nat.le_trans (Nat.le_trans f5 E3.1) (Keep.of_wr W6).1)
    have ge_b7 : n0 ≤ b7 := Nat.le_trans f11 (Nat.le_of_eq g7.symm)
    have f12 : Fld Z h7 b7 "com/example/replan/replan/model/Token" "kind" "Lcom/example/replan/replan/model/Token$Kind;" .null := D7 (Or.inr (hw _ (List.mem_of_getElem? (i := 47) rfl))) (ty := (.object "com/example/replan/replan/model/Token$Kind")) (by decide)
    have f13 : Fld Z h7 b7 "com/example/replan/replan/model/Token" "text" "Ljava/lang/String;" .null := D7 (Or.inr (hw _ (List.mem_of_getElem? (i := 49) rfl))) (ty := (.object "java/lang/String")) (by decide)
    have f14 : Fld Z h7 b7 "com/example/replan/replan/model/Token" "line" "I" (.int (0 : Int32)) := D7 (Or.inr (hw _ (List.mem_of_getElem? (i := 51) rfl))) (ty := .int) (by decide)
    have f15 : Fld Z h7 b7 "com/example/replan/replan/model/Token" "column" "I" (.int (0 : Int32)) := D7 (Or.inr (hw _ (List.mem_of_getElem? (i := 53) rfl))) (ty := .int) (by decide)
    refine own_go st7 ?_
    show own_G p.tables e below T7 (mkF m 125 #[.val (.int p1), .val (.int p2), .val (.int p3), .val (.int p4), .val (.int p5), .val (.int h5), .val (.int s6), .val (.int v7), .val (.int v8), .val (.int v9), .val (.int v10), .val (.ref b1), .val (.ref b3), .unset, .unset, .unset, .unset] [(.ref b7)]) _
    refine own_go (fun t_ k_ => XS.dup X7.here hx rfl (hb hby at_125) rfl rfl k_) ?_
    show own_G p.tables e below T7 (mkF m 126 #[.val (.int p1), .val (.int p2), .val (.int p3), .val (.int p4), .val (.int p5), .val (.int h5), .val (.int s6), .val (.int v7), .val (.int v8), .val (.int v9), .val (.int v10), .val (.ref b1), .val (.ref b3), .unset, .unset, .unset, .unset] [(.ref b7), (.ref b7)]) _
    have f16 : Sta Z h7 "com/example/replan/replan/model/Token$Kind" "WORD" "Lcom/example/replan/replan/model/Token$Kind;" (.ref wK) := (((((S_K.ext E1).wr W2).ext E3).wr W6).ext E7)
    obtain ⟨T17, X17, e17, st17⟩ := getS2 X7 hx hZ hown (host := "") (Or.inl (hw _ (List.mem_of_getElem? (i := 5) rfl))) Via.refl e7 f16 (g := (mkF m 126 #[.val (.int p1), .val (.int p2), .val (.int p3), .val (.int p4), .val (.int p5), .val (.int h5), .val (.int s6), .val (.int v7), .val (.int v8), .val (.int v9), .val (.int v10), .val (.ref b1), .val (.ref b3), .unset, .unset, .unset, .unset] [(.ref b7), (.ref b7)])) rfl (hb hby at_126)
    refine own_go st17 ?_
    show own_G p.tables e below T17 (mkF m 129 #[.val (.int p1), .val (.int p2), .val (.int p3), .val (.int p4), .val (.int p5), .val (.int h5), .val (.int s6), .val (.int v7), .val (.int v8), .val (.int v9), .val (.int v10), .val (.ref b1), .val (.ref b3), .unset, .unset, .unset, .unset] [(.ref wK), (.ref b7), (.ref b7)]) _
    obtain ⟨T18, h18, X18, e18, E18, A18, D18, -, st18⟩ := newO X17 hx hZ hown (hw _ (List.mem_of_getElem? (i := 8) rfl)) (hw _ (List.mem_of_getElem? (i := 9) rfl)) (hw _ (List.mem_of_getElem? (i := 10) rfl)) e17 (g := (mkF m 129 #[.val (.int p1), .val (.int p2), .val (.int p3), .val (.int p4), .val (.int p5), .val (.int h5), .val (.int s6), .val (.int v7), .val (.int v8), .val (.int v9), .val (.int v10), .val (.ref b1), .val (.ref b3), .unset, .unset, .unset, .unset] [(.ref wK), (.ref b7), (.ref b7)])) rfl (hb hby at_129) (by decide) (by decide)
    obtain ⟨b18, g18⟩ : ∃ z, z = h7.size := ⟨_, rfl⟩
    rw [← g18] at A18 D18 st18
    have f19 : Arv Z h7 b1 k1 .char (1 : Int32) [(.int (((p5.toUInt32 >>> ((8 : Int32) &&& 31).toUInt32).toInt32) &&& (255 : Int32)))] (.int (0 : Int32)) := (f8.ext E7)
    have ne20 : b1 ≠ b18 := Nat.ne_of_lt (Nat.lt_of_lt_of_le f19.lt (Nat.le_of_eq g18.symm))
    have f21 : Arv Z h7 b3 k3 .char (1 : Int32) [(.int (((p5.toUInt32 >>> ((16 : Int32) &&& 31).toUInt32).toInt32) &&& (255 : Int32)))] (.int (0 : Int32)) := (V6.ext E7)
    have ne22 : b3 ≠ b18 := Nat.ne_of_lt (Nat.lt_of_lt_of_le f21.lt (Nat.le_of_eq g18.symm))
    have ne23 : b7 ≠ b18 := Nat.ne_of_lt (Nat.lt_of_lt_of_le A7.lt (Nat.le_of_eq g18.symm))
    have f24 : n0 ≤ h7.size := (Nat.le_trans f11 E7.1)
    have ge_b18 : n0 ≤ b18 := Nat.le_trans f24 (Nat.le_of_eq g18.symm)
    have f25 : Fld Z h18 b18 "java/lang/String" "coder" "B" (.int (0 : Int32)) := D18 (Or.inr (hw _ (List.mem_of_getElem? (i := 34) rfl))) (ty := .byte) (by decide)
    have f26 : Fld Z h18 b18 "java/lang/String" "value" "[B" .null := D18 (Or.inr (hw _ (List.mem_of_getElem? (i := 36) rfl))) (ty := (.array .byte)) (by decide)
    refine own_go st18 ?_
    show own_G p.tables e below T18 (mkF m 132 #[.val (.int p1), .val (.int p2), .val (.int p3), .val (.int p4), .val (.int p5), .val (.int h5), .val (.int s6), .val (.int v7), .val (.int v8), .val (.int v9), .val (.int v10), .val (.ref b1), .val (.ref b3), .unset, .unset, .unset, .unset] [(.ref b18), (.ref wK), (.ref b7), (.ref b7)]) _
    refine own_go (fun t_ k_ => XS.dup X18.here hx rfl (hb hby at_132) rfl rfl k_) ?_
    show own_G p.tables e below T18 (mkF m 133 #[.val (.int p1), .val (.int p2), .val (.int p3), .val (.int p4), .val (.int p5), .val (.int h5), .val (.int s6), .val (.int v7), .val (.int v8), .val (.int v9), .val (.int v10), .val (.ref b1), .val (.ref b3), .unset, .unset, .unset, .unset] [(.ref b18), (.ref b18), (.ref wK), (.ref b7), (.ref b7)]) _
    refine own_go (fun t_ k_ => XS.aload X18.here hx rfl (hb hby at_133) rfl rfl k_) ?_
    show own_G p.tables e below T18 (mkF m 135 #[.val (.int p1), .val (.int p2), .val (.int p3), .val (.int p4), .val (.int p5), .val (.int h5), .val (.int s6), .val (.int v7), .val (.int v8), .val (.int v9), .val (.int v10), .val (.ref b1), .val (.ref b3), .unset, .unset, .unset, .unset] [(.ref b3), (.ref b18), (.ref b18), (.ref wK), (.ref b7), (.ref b7)]) _
    have hp27 : ∀ c ∈ ([(((p5.toUInt32 >>> ((16 : Int32) &&& 31).toUInt32).toInt32) &&& (255 : Int32))] : List Int32), ¬ c < 0 ∧ ¬ (255 : Int32) < c := by
      intro c hc; cases List.mem_singleton.mp hc; exact ⟨own_m0 _, own_m255 _⟩
    have f28 : n0 ≤ h18.size := (Nat.le_trans f24 E18.1)
    have f29 : Sta Z h18 "java/lang/String" "COMPACT_STRINGS" "Z" (.int cs) := ((((((S_C.ext E1).wr W2).ext E3).wr W6).ext E7).ext E18)
    have f30 : Arv Z h18 b3 k3 .char (1 : Int32) [(.int (((p5.toUInt32 >>> ((16 : Int32) &&& 31).toUInt32).toInt32) &&& (255 : Int32)))] (.int (0 : Int32)) := (f21.ext E18)
    have f31 : Sta Z h18 "com/example/replan/replan/model/Token$Kind" "WORD" "Lcom/example/replan/replan/model/Token$Kind;" (.ref wK) := (f16.ext E18)
    have f32 : Arv Z h18 b1 k1 .char (1 : Int32) [(.int (((p5.toUInt32 >>> ((8 : Int32) &&& 31).toUInt32).toInt32) &&& (255 : Int32)))] (.int (0 : Int32)) := (f19.ext E18)
    have f33 : Exa Z h18 b7 "com/example/replan/replan/model/Token" := (A7.ext E18)
    have f34 : Fld Z h18 b7 "com/example/replan/replan/model/Token" "kind" "Lcom/example/replan/replan/model/Token$Kind;" .null := (f12.ext E18)
    have f35 : Fld Z h18 b7 "com/example/replan/replan/model/Token" "text" "Ljava/lang/String;" .null := (f13.ext E18)
    have f36 : Fld Z h18 b7 "com/example/replan/replan/model/Token" "line" "I" (.int (0 : Int32)) := (f14.ext E18)
    have f37 : Fld Z h18 b7 "com/example/replan/replan/model/Token" "column" "I" (.int (0 : Int32)) := (f15.ext E18)
    obtain ⟨_, _, ⟨T38, L38, k38, n38⟩, -, X38, ⟨Lc38, hQ38, l38, y38, z38⟩, st38⟩ := X18.specialBack hx (y := (⟨"java/lang/String", "<init>", "([C)V"⟩ : MethodName)) rfl hown (mvT hZ (hw _ (List.mem_of_getElem? (i := 11) rfl))) (mvT hZ (hw _ (List.mem_of_getElem? (i := 12) rfl))) (mvT hZ (hw _ (List.mem_of_getElem? (i := 13) rfl))) (by decide) (StrChars.Road.backV (W := 4) hZ hws (kI := 4) (hw _ (List.mem_of_getElem? (i := 9) rfl)) (cs := ([(((p5.toUInt32 >>> ((16 : Int32) &&& 31).toUInt32).toInt32) &&& (255 : Int32))] : List Int32)) (bs := (([(((p5.toUInt32 >>> ((16 : Int32) &&& 31).toUInt32).toInt32) &&& (255 : Int32))] : List Int32).map (fun c => c.toInt8.toInt32))) (n := 1) ge_b18 f28 A18 f26 f25 f30 f29 hcs rfl rfl (by decide) (by decide) hp27 rfl (by decide) (by decide)) (g := (mkF m 135 #[.val (.int p1), .val (.int p2), .val (.int p3), .val (.int p4), .val (.int p5), .val (.int h5), .val (.int s6), .val (.int v7), .val (.int v8), .val (.int v9), .val (.int v10), .val (.ref b1), .val (.ref b3), .unset, .unset, .unset, .unset] [(.ref b3), (.ref b18), (.ref b18), (.ref wK), (.ref b7), (.ref b7)])) rfl (by rw [hml]; rfl) (Steps.refl _) (a := b18) (argsL := [(.ref b3)]) (rest := [(.ref b18), (.ref wK), (.ref b7), (.ref b7)]) (lenOf own_pd2 rfl) rfl (by show 2 * 0 + _ ≤ _; exact Nat.le_of_eq rfl) (hb hby at_135) (fun _ _ => ⟨rfl, e18, (by decide : 4 + 1 ≤ _), (by decide : 10 + 1 ≤ _)⟩)
    dsimp only [Pt.U, Pt.locs, Pt.cells, Pt.slots] at X38 l38 y38 z38 st38 hQ38
    subst l38 y38 z38
    obtain ⟨rfl, N38q, K38, Ex38, Fc38, t38, kb38, gt38, szt38, nt38, Fv38, Vt38⟩ := hQ38
    have N38 := Fr.app N6 N38q
    refine own_go (fun t_ k_ => st38.trans k_) ?_
    show own_G p.tables e below T38 (mkF m 138 #[.val (.int p1), .val (.int p2), .val (.int p3), .val (.int p4), .val (.int p5), .val (.int h5), .val (.int s6), .val (.int v7), .val (.int v8), .val (.int v9), .val (.int v10), .val (.ref b1), .val (.ref b3), .unset, .unset, .unset, .unset] [(.ref b18), (.ref wK), (.ref b7), (.ref b7)]) _
    have ne39 : b1 ≠ t38 := Nat.ne_of_lt (Nat.lt_of_lt_of_le f32.lt szt38)
    have ne40 : b3 ≠ t38 := Nat.ne_of_lt (Nat.lt_of_lt_of_le f30.lt szt38)
    have ne41 : b7 ≠ t38 := Nat.ne_of_lt (Nat.lt_of_lt_of_le f33.lt szt38)
    have nx38 : b18 ≠ t38 := fun q => nt38 q.symm
    refine own_go (fun t_ k_ => XS.iload X38.here hx rfl (hb hby at_138) rfl k_) ?_
    show own_G p.tables e below T38 (mkF m 140 #[.val (.int p1), .val (.int p2), .val (.int p3), .val (.int p4), .val (.int p5), .val (.int h5), .val (.int s6), .val (.int v7), .val (.int v8), .val (.int v9), .val (.int v10), .val (.ref b1), .val (.ref b3), .unset, .unset, .unset, .unset] [(.int v9), (.ref b18), (.ref wK), (.ref b7), (.ref b7)]) _
    refine own_go (fun t_ k_ => XS.iload X38.here hx rfl (hb hby at_140) rfl k_) ?_
    show own_G p.tables e below T38 (mkF m 142 #[.val (.int p1), .val (.int p2), .val (.int p3), .val (.int p4), .val (.int p5), .val (.int h5), .val (.int s6), .val (.int v7), .val (.int v8), .val (.int v9), .val (.int v10), .val (.ref b1), .val (.ref b3), .unset, .unset, .unset, .unset] [(.int v10), (.int v9), (.ref b18), (.ref wK), (.ref b7), (.ref b7)]) _
    have f42 : n0 ≤ T38.heap.size := (Nat.le_trans f28 K38.1)
    have f43 : Sta Z T38.heap "java/lang/String" "COMPACT_STRINGS" "Z" (.int cs) := (own_sk f29 K38 (own_pl1 (own_pl A18)))
    have f44 : Sta Z T38.heap "com/example/replan/replan/model/Token$Kind" "WORD" "Lcom/example/replan/replan/model/Token$Kind;" (.ref wK) := (own_sk f31 K38 (own_pl1 (own_pl A18)))
    have f45 : Arv Z T38.heap b1 k1 .char (1 : Int32) [(.int (((p5.toUInt32 >>> ((8 : Int32) &&& 31).toUInt32).toInt32) &&& (255 : Int32)))] (.int (0 : Int32)) := (f32.keep K38 (fun q => ne20 (List.mem_singleton.mp q)))
    have f46 : Exa Z T38.heap b7 "com/example/replan/replan/model/Token" := (f33.keep K38)
    have f47 : Fld Z T38.heap b7 "com/example/replan/replan/model/Token" "kind" "Lcom/example/replan/replan/model/Token$Kind;" .null := (f34.keep K38 (fun q => ne23 (List.mem_singleton.mp q)))
    have f48 : Fld Z T38.heap b7 "com/example/replan/replan/model/Token" "text" "Ljava/lang/String;" .null := (f35.keep K38 (fun q => ne23 (List.mem_singleton.mp q)))
    have f49 : Fld Z T38.heap b7 "com/example/replan/replan/model/Token" "line" "I" (.int (0 : Int32)) := (f36.keep K38 (fun q => ne23 (List.mem_singleton.mp q)))
    have f50 : Fld Z T38.heap b7 "com/example/replan/replan/model/Token" "column" "I" (.int (0 : Int32)) := (f37.keep K38 (fun q => ne23 (List.mem_singleton.mp q)))
    obtain ⟨_, _, ⟨T51, L51, k51, n51⟩, -, X51, ⟨Lc51, hQ51, l51, y51, z51⟩, st51⟩ := X38.specialBack hx (y := (⟨"com/example/replan/replan/model/Token", "<init>", "(Lcom/example/replan/replan/model/Token$Kind;Ljava/lang/String;II)V"⟩ : MethodName)) rfl hown (mvT hZ (hw _ (List.mem_of_getElem? (i := 37) rfl))) (mvT hZ (hw _ (List.mem_of_getElem? (i := 38) rfl))) (mvT hZ (hw _ (List.mem_of_getElem? (i := 39) rfl))) (by decide) (backOf (W := 1) (rm7 l Z a0 hw [] b7 wK b18 v9 v10 T38.heap n0 f42 ge_b7 f46 f47 f48 f49 f50) hZ (hw _ (List.mem_of_getElem? (i := 39) rfl)) (hw _ (List.mem_of_getElem? (i := 4) rfl)) (by decide) (by decide)) (g := (mkF m 142 #[.val (.int p1), .val (.int p2), .val (.int p3), .val (.int p4), .val (.int p5), .val (.int h5), .val (.int s6), .val (.int v7), .val (.int v8), .val (.int v9), .val (.int v10), .val (.ref b1), .val (.ref b3), .unset, .unset, .unset, .unset] [(.int v10), (.int v9), (.ref b18), (.ref wK), (.ref b7), (.ref b7)])) rfl (by rw [hml]; rfl) (Steps.refl _) (a := b7) (argsL := [(.ref wK), (.ref b18), (.int v9), (.int v10)]) (rest := [(.ref b7)]) (lenOf own_pd3 rfl) rfl (by show 2 * 0 + _ ≤ _; exact Nat.le_of_eq rfl) (hb hby at_142) (fun _ _ => ⟨rfl, rfl, (by decide : 5 + 0 ≤ _), (by decide : 11 + 0 ≤ _)⟩)
    dsimp only [Pt.U, Pt.locs, Pt.cells, Pt.slots] at X51 l51 y51 z51 st51 hQ51
    subst l51 y51 z51
    obtain ⟨rfl, N51q, K51, Ex51, Fl51, Fc51⟩ := hQ51
    have N51 := Fr.app N38 N51q
    refine own_go (fun t_ k_ => st51.trans k_) ?_
    show own_G p.tables e below T51 (mkF m 145 #[.val (.int p1), .val (.int p2), .val (.int p3), .val (.int p4), .val (.int p5), .val (.int h5), .val (.int s6), .val (.int v7), .val (.int v8), .val (.int v9), .val (.int v10), .val (.ref b1), .val (.ref b3), .unset, .unset, .unset, .unset] [(.ref b7)]) _
    refine own_go (fun t_ k_ => XS.astore X51.here hx rfl (hb hby at_145) rfl rfl (l' := #[.val (.int p1), .val (.int p2), .val (.int p3), .val (.int p4), .val (.int p5), .val (.int h5), .val (.int s6), .val (.int v7), .val (.int v8), .val (.int v9), .val (.int v10), .val (.ref b1), .val (.ref b3), .val (.ref b7), .unset, .unset, .unset]) rfl k_) ?_
    show own_G p.tables e below T51 (mkF m 147 #[.val (.int p1), .val (.int p2), .val (.int p3), .val (.int p4), .val (.int p5), .val (.int h5), .val (.int s6), .val (.int v7), .val (.int v8), .val (.int v9), .val (.int v10), .val (.ref b1), .val (.ref b3), .val (.ref b7), .unset, .unset, .unset] []) _
    refine own_go (fun t_ k_ => XS.iload X51.here hx rfl (hb hby at_147) rfl k_) ?_
    show own_G p.tables e below T51 (mkF m 149 #[.val (.int p1), .val (.int p2), .val (.int p3), .val (.int p4), .val (.int p5), .val (.int h5), .val (.int s6), .val (.int v7), .val (.int v8), .val (.int v9), .val (.int v10), .val (.ref b1), .val (.ref b3), .val (.ref b7), .unset, .unset, .unset] [(.int h5)]) _
    by_cases hc149_52 : h5 = (0 : Int32)
    · skip
      refine own_go (fun t_ k_ => XS.ifYes X51.here hx rfl (pc0 := 149) (pc' := 178) rfl (hb hby at_149) rfl ((if0 _ _).trans (teq hc149_52).1) (by decide) (by decide) k_) ?_
      show own_G p.tables e below T51 (mkF m 178 #[.val (.int p1), .val (.int p2), .val (.int p3), .val (.int p4), .val (.int p5), .val (.int h5), .val (.int s6), .val (.int v7), .val (.int v8), .val (.int v9), .val (.int v10), .val (.ref b1), .val (.ref b3), .val (.ref b7), .unset, .unset, .unset] []) _
      refine own_go (fun t_ k_ => XS.aconstNull X51.here hx rfl (hb hby at_178) k_) ?_
      show own_G p.tables e below T51 (mkF m 179 #[.val (.int p1), .val (.int p2), .val (.int p3), .val (.int p4), .val (.int p5), .val (.int h5), .val (.int s6), .val (.int v7), .val (.int v8), .val (.int v9), .val (.int v10), .val (.ref b1), .val (.ref b3), .val (.ref b7), .unset, .unset, .unset] [.null]) _
      refine own_go (fun t_ k_ => XS.astore X51.here hx rfl (hb hby at_179) rfl rfl (l' := #[.val (.int p1), .val (.int p2), .val (.int p3), .val (.int p4), .val (.int p5), .val (.int h5), .val (.int s6), .val (.int v7), .val (.int v8), .val (.int v9), .val (.int v10), .val (.ref b1), .val (.ref b3), .val (.ref b7), .val .null, .unset, .unset]) rfl k_) ?_
      show own_G p.tables e below T51 (mkF m 181 #[.val (.int p1), .val (.int p2), .val (.int p3), .val (.int p4), .val (.int p5), .val (.int h5), .val (.int s6), .val (.int v7), .val (.int v8), .val (.int v9), .val (.int v10), .val (.ref b1), .val (.ref b3), .val (.ref b7), .val .null, .unset, .unset] []) _
      obtain ⟨T53, h53, X53, e53, E53, A53, D53, -, st53⟩ := newO X51 hx hZ hown (hw _ (List.mem_of_getElem? (i := 54) rfl)) (hw _ (List.mem_of_getElem? (i := 55) rfl)) (hw _ (List.mem_of_getElem? (i := 56) rfl)) rfl (g := (mkF m 181 #[.val (.int p1), .val (.int p2), .val (.int p3), .val (.int p4), .val (.int p5), .val (.int h5), .val (.int s6), .val (.int v7), .val (.int v8), .val (.int v9), .val (.int v10), .val (.ref b1), .val (.ref b3), .val (.ref b7), .val .null, .unset, .unset] [])) rfl (hb hby at_181) (by decide) (by decide)
      obtain ⟨b53, g53⟩ : ∃ z, z = T51.heap.size := ⟨_, rfl⟩
      rw [← g53] at A53 D53 st53
      have f54 : Arv Z T51.heap b1 k1 .char (1 : Int32) [(.int (((p5.toUInt32 >>> ((8 : Int32) &&& 31).toUInt32).toInt32) &&& (255 : Int32)))] (.int (0 : Int32)) := (f45.keep K51 (fun q => ne9 (List.mem_singleton.mp q)))
      have ne55 : b1 ≠ b53 := Nat.ne_of_lt (Nat.lt_of_lt_of_le f54.lt (Nat.le_of_eq g53.symm))
      have ne56 : b7 ≠ b53 := Nat.ne_of_lt (Nat.lt_of_lt_of_le Ex51.lt (Nat.le_of_eq g53.symm))
      have f57 : n0 ≤ T51.heap.size := (Nat.le_trans f42 K51.1)
      have ge_b53 : n0 ≤ b53 := Nat.le_trans f57 (Nat.le_of_eq g53.symm)
      have f58 : Fld Z h53 b53 "com/example/replan/replan/model/SelectStatement$ColumnName" "qualifier" "Lcom/example/replan/replan/model/Token;" .null := D53 (Or.inr (hw _ (List.mem_of_getElem? (i := 62) rfl))) (ty := (.object "com/example/replan/replan/model/Token")) (by decide)
      have f59 : Fld Z h53 b53 "com/example/replan/replan/model/SelectStatement$ColumnName" "name" "Lcom/example/replan/replan/model/Token;" .null := D53 (Or.inr (hw _ (List.mem_of_getElem? (i := 64) rfl))) (ty := (.object "com/example/replan/replan/model/Token")) (by decide)
      refine own_go st53 ?_
      show own_G p.tables e below T53 (mkF m 184 #[.val (.int p1), .val (.int p2), .val (.int p3), .val (.int p4), .val (.int p5), .val (.int h5), .val (.int s6), .val (.int v7), .val (.int v8), .val (.int v9), .val (.int v10), .val (.ref b1), .val (.ref b3), .val (.ref b7), .val .null, .unset, .unset] [(.ref b53)]) _
      refine own_go (fun t_ k_ => XS.dup X53.here hx rfl (hb hby at_184) rfl rfl k_) ?_
      show own_G p.tables e below T53 (mkF m 185 #[.val (.int p1), .val (.int p2), .val (.int p3), .val (.int p4), .val (.int p5), .val (.int h5), .val (.int s6), .val (.int v7), .val (.int v8), .val (.int v9), .val (.int v10), .val (.ref b1), .val (.ref b3), .val (.ref b7), .val .null, .unset, .unset] [(.ref b53), (.ref b53)]) _
      refine own_go (fun t_ k_ => XS.aload X53.here hx rfl (hb hby at_185) rfl rfl k_) ?_
      show own_G p.tables e below T53 (mkF m 187 #[.val (.int p1), .val (.int p2), .val (.int p3), .val (.int p4), .val (.int p5), .val (.int h5), .val (.int s6), .val (.int v7), .val (.int v8), .val (.int v9), .val (.int v10), .val (.ref b1), .val (.ref b3), .val (.ref b7), .val .null, .unset, .unset] [.null, (.ref b53), (.ref b53)]) _
      refine own_go (fun t_ k_ => XS.aload X53.here hx rfl (hb hby at_187) rfl rfl k_) ?_
      show own_G p.tables e below T53 (mkF m 189 #[.val (.int p1), .val (.int p2), .val (.int p3), .val (.int p4), .val (.int p5), .val (.int h5), .val (.int s6), .val (.int v7), .val (.int v8), .val (.int v9), .val (.int v10), .val (.ref b1), .val (.ref b3), .val (.ref b7), .val .null, .unset, .unset] [(.ref b7), .null, (.ref b53), (.ref b53)]) _
      have f60 : n0 ≤ h53.size := (Nat.le_trans f57 E53.1)
      have f61 : Sta Z h53 "java/lang/String" "COMPACT_STRINGS" "Z" (.int cs) := ((own_sk f43 K51 (own_pl1 (own_pl f46))).ext E53)
      have f62 : Sta Z h53 "com/example/replan/replan/model/Token$Kind" "WORD" "Lcom/example/replan/replan/model/Token$Kind;" (.ref wK) := ((own_sk f44 K51 (own_pl1 (own_pl f46))).ext E53)
      have f63 : Arv Z h53 b1 k1 .char (1 : Int32) [(.int (((p5.toUInt32 >>> ((8 : Int32) &&& 31).toUInt32).toInt32) &&& (255 : Int32)))] (.int (0 : Int32)) := (f54.ext E53)
      have f64 : Exa Z h53 b7 "com/example/replan/replan/model/Token" := (Ex51.ext E53)
      have f65 : Fld Z h53 b7 "com/example/replan/replan/model/Token" "line" "I" (.int v9) := (Fl51.ext E53)
      have f66 : Fld Z h53 b7 "com/example/replan/replan/model/Token" "column" "I" (.int v10) := (Fc51.ext E53)
      obtain ⟨_, _, ⟨T67, L67, k67, n67⟩, -, X67, ⟨Lc67, hQ67, l67, y67, z67⟩, st67⟩ := X53.specialBack hx (y := (⟨"com/example/replan/replan/model/SelectStatement$ColumnName", "<init>", "(Lcom/example/replan/replan/model/Token;Lcom/example/replan/replan/model/Token;)V"⟩ : MethodName)) rfl hown (mvT hZ (hw _ (List.mem_of_getElem? (i := 57) rfl))) (mvT hZ (hw _ (List.mem_of_getElem? (i := 58) rfl))) (mvT hZ (hw _ (List.mem_of_getElem? (i := 59) rfl))) (by decide) (backOf (W := 1) (rm9 l Z a0 hw [] b53 .null b7 h53 n0 f60 rfl ge_b53 A53 f58 f59) hZ (hw _ (List.mem_of_getElem? (i := 59) rfl)) (hw _ (List.mem_of_getElem? (i := 56) rfl)) (by decide) (by decide)) (g := (mkF m 189 #[.val (.int p1), .val (.int p2), .val (.int p3), .val (.int p4), .val (.int p5), .val (.int h5), .val (.int s6), .val (.int v7), .val (.int v8), .val (.int v9), .val (.int v10), .val (.ref b1), .val (.ref b3), .val (.ref b7), .val .null, .unset, .unset] [(.ref b7), .null, (.ref b53), (.ref b53)])) rfl (by rw [hml]; rfl) (Steps.refl _) (a := b53) (argsL := [.null, (.ref b7)]) (rest := [(.ref b53)]) (lenOf own_pd4 rfl) rfl (by show 2 * 0 + _ ≤ _; exact Nat.le_of_eq rfl) (hb hby at_189) (fun _ _ => ⟨rfl, e53, (by decide : 6 + 0 ≤ _), (by decide : 13 + 0 ≤ _)⟩)
      dsimp only [Pt.U, Pt.locs, Pt.cells, Pt.slots] at X67 l67 y67 z67 st67 hQ67
      subst l67 y67 z67
      obtain ⟨rfl, N67q, K67, Ex67, Fq67, Fn67⟩ := hQ67
      have N67 := Fr.app N51 N67q
      refine own_go (fun t_ k_ => st67.trans k_) ?_
      show own_G p.tables e below T67 (mkF m 192 #[.val (.int p1), .val (.int p2), .val (.int p3), .val (.int p4), .val (.int p5), .val (.int h5), .val (.int s6), .val (.int v7), .val (.int v8), .val (.int v9), .val (.int v10), .val (.ref b1), .val (.ref b3), .val (.ref b7), .val .null, .unset, .unset] [(.ref b53)]) _
      refine own_go (fun t_ k_ => XS.astore X67.here hx rfl (hb hby at_192) rfl rfl (l' := #[.val (.int p1), .val (.int p2), .val (.int p3), .val (.int p4), .val (.int p5), .val (.int h5), .val (.int s6), .val (.int v7), .val (.int v8), .val (.int v9), .val (.int v10), .val (.ref b1), .val (.ref b3), .val (.ref b7), .val .null, .val (.ref b53), .unset]) rfl k_) ?_
      show own_G p.tables e below T67 (mkF m 194 #[.val (.int p1), .val (.int p2), .val (.int p3), .val (.int p4), .val (.int p5), .val (.int h5), .val (.int s6), .val (.int v7), .val (.int v8), .val (.int v9), .val (.int v10), .val (.ref b1), .val (.ref b3), .val (.ref b7), .val .null, .val (.ref b53), .unset] []) _
      refine own_go (fun t_ k_ => XS.aload X67.here hx rfl (hb hby at_194) rfl rfl k_) ?_
      show own_G p.tables e below T67 (mkF m 196 #[.val (.int p1), .val (.int p2), .val (.int p3), .val (.int p4), .val (.int p5), .val (.int h5), .val (.int s6), .val (.int v7), .val (.int v8), .val (.int v9), .val (.int v10), .val (.ref b1), .val (.ref b3), .val (.ref b7), .val .null, .val (.ref b53), .unset] [(.ref b53)]) _
      have f68 : n0 ≤ T67.heap.size := (Nat.le_trans f60 K67.1)
      have f69 : Sta Z T67.heap "java/lang/String" "COMPACT_STRINGS" "Z" (.int cs) := (own_sk f61 K67 (own_pl1 (own_pl A53)))
      have f70 : Sta Z T67.heap "com/example/replan/replan/model/Token$Kind" "WORD" "Lcom/example/replan/replan/model/Token$Kind;" (.ref wK) := (own_sk f62 K67 (own_pl1 (own_pl A53)))
      have f71 : Arv Z T67.heap b1 k1 .char (1 : Int32) [(.int (((p5.toUInt32 >>> ((8 : Int32) &&& 31).toUInt32).toInt32) &&& (255 : Int32)))] (.int (0 : Int32)) := (f63.keep K67 (fun q => ne55 (List.mem_singleton.mp q)))
      have f72 : Exa Z T67.heap b7 "com/example/replan/replan/model/Token" := (f64.keep K67)
      have f73 : Fld Z T67.heap b7 "com/example/replan/replan/model/Token" "line" "I" (.int v9) := (f65.keep K67 (fun q => ne56 (List.mem_singleton.mp q)))
      have f74 : Fld Z T67.heap b7 "com/example/replan/replan/model/Token" "column" "I" (.int v10) := (f66.keep K67 (fun q => ne56 (List.mem_singleton.mp q)))
      obtain ⟨cq75, kq75, q75a, q75b, q75c⟩ := isOf hZ rfl Ex67
      obtain ⟨_, _, ⟨T75, L75, k75, n75⟩, -, X75, ⟨Lc75, hQ75, l75, y75, z75⟩, st75⟩ := X67.virtualBack hx (y := (⟨"com/example/replan/replan/model/SelectStatement$ColumnName", "start", "()Lcom/example/replan/replan/model/Token;"⟩ : MethodName)) (z := (⟨"com/example/replan/replan/model/SelectStatement$ColumnName", "start", "()Lcom/example/replan/replan/model/Token;"⟩ : MethodName)) hown (mvT hZ (hw _ (List.mem_of_getElem? (i := 65) rfl))) (mvT hZ (hw _ (List.mem_of_getElem? (i := 66) rfl))) (notFace_of_selects (args := #[]) (mvT hZ (hw _ (List.mem_of_getElem? (i := 68) rfl)))) (mvT hZ (hw _ (List.mem_of_getElem? (i := 68) rfl))) (mvT hZ (hw _ (List.mem_of_getElem? (i := 67) rfl))) (by decide) (backOf (W := 0) (rm10 l Z a0 hw [] b53 .null b7 T67.heap n0 f68 rfl Fq67 Fn67) hZ (hw _ (List.mem_of_getElem? (i := 69) rfl)) (hw _ (List.mem_of_getElem? (i := 56) rfl)) (by decide) (by decide)) q75a q75c (g := (mkF m 196 #[.val (.int p1), .val (.int p2), .val (.int p3), .val (.int p4), .val (.int p5), .val (.int h5), .val (.int s6), .val (.int v7), .val (.int v8), .val (.int v9), .val (.int v10), .val (.ref b1), .val (.ref b3), .val (.ref b7), .val .null, .val (.ref b53), .unset] [(.ref b53)])) rfl (by rw [hml]; rfl) (Steps.refl _) (argsL := []) (rest := []) (lenOf own_pd5 rfl) rfl (by show 2 * 0 + _ ≤ _; exact Nat.le_of_eq rfl) (hb hby at_196) (fun _ _ => ⟨rfl, rfl, (by decide : 6 + 0 ≤ _), (by decide : 13 + 0 ≤ _)⟩)
      dsimp only [Pt.U, Pt.locs, Pt.cells, Pt.slots] at X75 l75 y75 z75 st75 hQ75
      subst l75 y75 z75
      obtain ⟨rfl, N75q, e75⟩ := hQ75
      have N75 := Fr.app N67 N75q
      refine own_go (fun t_ k_ => st75.trans k_) ?_
      show own_G p.tables e below T75 (mkF m 199 #[.val (.int p1), .val (.int p2), .val (.int p3), .val (.int p4), .val (.int p5), .val (.int h5), .val (.int s6), .val (.int v7), .val (.int v8), .val (.int v9), .val (.int v10), .val (.ref b1), .val (.ref b3), .val (.ref b7), .val .null, .val (.ref b53), .unset] [(.ref b7)]) _
      refine own_go (fun t_ k_ => XS.astore X75.here hx rfl (hb hby at_199) rfl rfl (l' := #[.val (.int p1), .val (.int p2), .val (.int p3), .val (.int p4), .val (.int p5), .val (.int h5), .val (.int s6), .val (.int v7), .val (.int v8), .val (.int v9), .val (.int v10), .val (.ref b1), .val (.ref b3), .val (.ref b7), .val .null, .val (.ref b53), .val (.ref b7)]) rfl k_) ?_
      show own_G p.tables e below T75 (mkF m 201 #[.val (.int p1), .val (.int p2), .val (.int p3), .val (.int p4), .val (.int p5), .val (.int h5), .val (.int s6), .val (.int v7), .val (.int v8), .val (.int v9), .val (.int v10), .val (.ref b1), .val (.ref b3), .val (.ref b7), .val .null, .val (.ref b53), .val (.ref b7)] []) _
      refine own_go (fun t_ k_ => XS.aload X75.here hx rfl (hb hby at_201) rfl rfl k_) ?_
      show own_G p.tables e below T75 (mkF m 203 #[.val (.int p1), .val (.int p2), .val (.int p3), .val (.int p4), .val (.int p5), .val (.int h5), .val (.int s6), .val (.int v7), .val (.int v8), .val (.int v9), .val (.int v10), .val (.ref b1), .val (.ref b3), .val (.ref b7), .val .null, .val (.ref b53), .val (.ref b7)] [.null]) _
      refine own_go (fun t_ k_ => XS.ifnonnullNo X75.here hx rfl (hb hby at_203) rfl k_) ?_
      show own_G p.tables e below T75 (mkF m 206 #[.val (.int p1), .val (.int p2), .val (.int p3), .val (.int p4), .val (.int p5), .val (.int h5), .val (.int s6), .val (.int v7), .val (.int v8), .val (.int v9), .val (.int v10), .val (.ref b1), .val (.ref b3), .val (.ref b7), .val .null, .val (.ref b53), .val (.ref b7)] []) _
      refine own_go (fun t_ k_ => XS.aload X75.here hx rfl (hb hby at_206) rfl rfl k_) ?_
      show own_G p.tables e below T75 (mkF m 208 #[.val (.int p1), .val (.int p2), .val (.int p3), .val (.int p4), .val (.int p5), .val (.int h5), .val (.int s6), .val (.int v7), .val (.int v8), .val (.int v9), .val (.int v10), .val (.ref b1), .val (.ref b3), .val (.ref b7), .val .null, .val (.ref b53), .val (.ref b7)] [(.ref b7)]) _
      refine own_go (fun t_ k_ => XS.aload X75.here hx rfl (hb hby at_208) rfl rfl k_) ?_
      show own_G p.tables e below T75 (mkF m 210 #[.val (.int p1), .val (.int p2), .val (.int p3), .val (.int p4), .val (.int p5), .val (.int h5), .val (.int s6), .val (.int v7), .val (.int v8), .val (.int v9), .val (.int v10), .val (.ref b1), .val (.ref b3), .val (.ref b7), .val .null, .val (.ref b53), .val (.ref b7)] [(.ref b7), (.ref b7)]) _
      refine own_go (fun t_ k_ => Jvm.RoadKit.acmp (g := (mkF m 210 #[.val (.int p1), .val (.int p2), .val (.int p3), .val (.int p4), .val (.int p5), .val (.int h5), .val (.int s6), .val (.int v7), .val (.int v8), .val (.int v9), .val (.int v10), .val (.ref b1), .val (.ref b3), .val (.ref b7), .val .null, .val (.ref b53), .val (.ref b7)] [(.ref b7), (.ref b7)])) X75 hx rfl rfl rfl (pc0 := 210) (pc' := 213) (same := true) rfl (hb hby at_210) rfl (decide_eq_true rfl) (by decide) (by decide) k_) ?_
      show own_G p.tables e below T75 (mkF m 213 #[.val (.int p1), .val (.int p2), .val (.int p3), .val (.int p4), .val (.int p5), .val (.int h5), .val (.int s6), .val (.int v7), .val (.int v8), .val (.int v9), .val (.int v10), .val (.ref b1), .val (.ref b3), .val (.ref b7), .val .null, .val (.ref b53), .val (.ref b7)] []) _
      refine own_go (fun t_ k_ => XS.iconst X75.here hx rfl (hb hby at_213) k_) ?_
      show own_G p.tables e below T75 (mkF m 214 #[.val (.int p1), .val (.int p2), .val (.int p3), .val (.int p4), .val (.int p5), .val (.int h5), .val (.int s6), .val (.int v7), .val (.int v8), .val (.int v9), .val (.int v10), .val (.ref b1), .val (.ref b3), .val (.ref b7), .val .null, .val (.ref b53), .val (.ref b7)] [(.int (1 : Int32))]) _
      refine own_go (fun t_ k_ => XS.goto X75.here hx rfl (pc0 := 214) (pc' := 218) rfl (hb hby at_214) (by decide) (by decide) k_) ?_
      show own_G p.tables e below T75 (mkF m 218 #[.val (.int p1), .val (.int p2), .val (.int p3), .val (.int p4), .val (.int p5), .val (.int h5), .val (.int s6), .val (.int v7), .val (.int v8), .val (.int v9), .val (.int v10), .val (.ref b1), .val (.ref b3), .val (.ref b7), .val .null, .val (.ref b53), .val (.ref b7)] [(.int (1 : Int32))]) _
      exact own_end (v := some (.int (1 : Int32))) X75 Bd.notSynchronized (fun h => by rw [Bd.returns] at h; cases h) (fun fs hr => retN X75 hx (z := (1 : Int32)) (t := .boolean) Bd.returns (by simp) (hb hby at_218) hr) e75 ⟨rfl, N75⟩ (by decide) (by decide)
    · skip
      refine own_go (fun t_ k_ => XS.ifNo X51.here hx rfl (hb hby at_149) rfl ((if0 _ _).trans (feq hc149_52).1) k_) ?_
      show own_G p.tables e below T51 (mkF m 152 #[.val (.int p1), .val (.int p2), .val (.int p3), .val (.int p4), .val (.int p5), .val (.int h5), .val (.int s6), .val (.int v7), .val (.int v8), .val (.int v9), .val (.int v10), .val (.ref b1), .val (.ref b3), .val (.ref b7), .unset, .unset, .unset] []) _
      obtain ⟨T76, h76, X76, e76, E76, A76, D76, -, st76⟩ := newO X51 hx hZ hown (hw _ (List.mem_of_getElem? (i := 2) rfl)) (hw _ (List.mem_of_getElem? (i := 3) rfl)) (hw _ (List.mem_of_getElem? (i := 4) rfl)) rfl (g := (mkF m 152 #[.val (.int p1), .val (.int p2), .val (.int p3), .val (.int p4), .val (.int p5), .val (.int h5), .val (.int s6), .val (.int v7), .val (.int v8), .val (.int v9), .val (.int v10), .val (.ref b1), .val (.ref b3), .val (.ref b7), .unset, .unset, .unset] [])) rfl (hb hby at_152) (by decide) (by decide)
      obtain ⟨b76, g76⟩ : ∃ z, z = T51.heap.size := ⟨_, rfl⟩
      rw [← g76] at A76 D76 st76
      have f77 : Arv Z T51.heap b1 k1 .char (1 : Int32) [(.int (((p5.toUInt32 >>> ((8 : Int32) &&& 31).toUInt32).toInt32) &&& (255 : Int32)))] (.int (0 : Int32)) := (f45.keep K51 (fun q => ne9 (List.mem_singleton.mp q)))
      have ne78 : b1 ≠ b76 := Nat.ne_of_lt (Nat.lt_of_lt_of_le f77.lt (Nat.le_of_eq g76.symm))
      have ne79 : b7 ≠ b76 := Nat.ne_of_lt (Nat.lt_of_lt_of_le Ex51.lt (Nat.le_of_eq g76.symm))
      have f80 : n0 ≤ T51.heap.size := (Nat.le_trans f42 K51.1)
      have ge_b76 : n0 ≤ b76 := Nat.le_trans f80 (Nat.le_of_eq g76.symm)
      have f81 : Fld Z h76 b76 "com/example/replan/replan/model/Token" "kind" "Lcom/example/replan/replan/model/Token$Kind;" .null := D76 (Or.inr (hw _ (List.mem_of_getElem? (i := 47) rfl))) (ty := (.object "com/example/replan/replan/model/Token$Kind")) (by decide)
      have f82 : Fld Z h76 b76 "com/example/replan/replan/model/Token" "text" "Ljava/lang/String;" .null := D76 (Or.inr (hw _ (List.mem_of_getElem? (i := 49) rfl))) (ty := (.object "java/lang/String")) (by decide)
      have f83 : Fld Z h76 b76 "com/example/replan/replan/model/Token" "line" "I" (.int (0 : Int32)) := D76 (Or.inr (hw _ (List.mem_of_getElem? (i := 51) rfl))) (ty := .int) (by decide)
      have f84 : Fld Z h76 b76 "com/example/replan/replan/model/Token" "column" "I" (.int (0 : Int32)) := D76 (Or.inr (hw _ (List.mem_of_getElem? (i := 53) rfl))) (ty := .int) (by decide)
      refine own_go st76 ?_
      show own_G p.tables e below T76 (mkF m 155 #[.val (.int p1), .val (.int p2), .val (.int p3), .val (.int p4), .val (.int p5), .val (.int h5), .val (.int s6), .val (.int v7), .val (.int v8), .val (.int v9), .val (.int v10), .val (.ref b1), .val (.ref b3), .val (.ref b7), .unset, .unset, .unset] [(.ref b76)]) _
      refine own_go (fun t_ k_ => XS.dup X76.here hx rfl (hb hby at_155) rfl rfl k_) ?_
      show own_G p.tables e below T76 (mkF m 156 #[.val (.int p1), .val (.int p2), .val (.int p3), .val (.int p4), .val (.int p5), .val (.int h5), .val (.int s6), .val (.int v7), .val (.int v8), .val (.int v9), .val (.int v10), .val (.ref b1), .val (.ref b3), .val (.ref b7), .unset, .unset, .unset] [(.ref b76), (.ref b76)]) _
      have f85 : Sta Z h76 "com/example/replan/replan/model/Token$Kind" "WORD" "Lcom/example/replan/replan/model/Token$Kind;" (.ref wK) := ((own_sk f44 K51 (own_pl1 (own_pl f46))).ext E76)
      obtain ⟨T86, X86, e86, st86⟩ := getS2 X76 hx hZ hown (host := "") (Or.inl (hw _ (List.mem_of_getElem? (i := 5) rfl))) Via.refl e76 f85 (g := (mkF m 156 #[.val (.int p1), .val (.int p2), .val (.int p3), .val (.int p4), .val (.int p5), .val (.int h5), .val (.int s6), .val (.int v7), .val (.int v8), .val (.int v9), .val (.int v10), .val (.ref b1), .val (.ref b3), .val (.ref b7), .unset, .unset, .unset] [(.ref b76), (.ref b76)])) rfl (hb hby at_156)
      refine own_go st86 ?_
      show own_G p.tables e below T86 (mkF m 159 #[.val (.int p1), .val (.int p2), .val (.int p3), .val (.int p4), .val (.int p5), .val (.int h5), .val (.int s6), .val (.int v7), .val (.int v8), .val (.int v9), .val (.int v10), .val (.ref b1), .val (.ref b3), .val (.ref b7), .unset, .unset, .unset] [(.ref wK), (.ref b76), (.ref b76)]) _
      obtain ⟨T87, h87, X87, e87, E87, A87, D87, -, st87⟩ := newO X86 hx hZ hown (hw _ (List.mem_of_getElem? (i := 8) rfl)) (hw _ (List.mem_of_getElem? (i := 9) rfl)) (hw _ (List.mem_of_getElem? (i := 10) rfl)) e86 (g := (mkF m 159 #[.val (.int p1), .val (.int p2), .val (.int p3), .val (.int p4), .val (.int p5), .val (.int h5), .val (.int s6), .val (.int v7), .val (.int v8), .val (.int v9), .val (.int v10), .val (.ref b1), .val (.ref b3), .val (.ref b7), .unset, .unset, .unset] [(.ref wK), (.ref b76), (.ref b76)])) rfl (hb hby at_159) (by decide) (by decide)
      obtain ⟨b87, g87⟩ : ∃ z, z = h76.size := ⟨_, rfl⟩
      rw [← g87] at A87 D87 st87
      have f88 : Arv Z h76 b1 k1 .char (1 : Int32) [(.int (((p5.toUInt32 >>> ((8 : Int32) &&& 31).toUInt32).toInt32) &&& (255 : Int32)))] (.int (0 : Int32)) := (f77.ext E76)
      have ne89 : b1 ≠ b87 := Nat.ne_of_lt (Nat.lt_of_lt_of_le f88.lt (Nat.le_of_eq g87.symm))
      have f90 : Exa Z h76 b7 "com/example/replan/replan/model/Token" := (Ex51.ext E76)
      have ne91 : b7 ≠ b87 := Nat.ne_of_lt (Nat.lt_of_lt_of_le f90.lt (Nat.le_of_eq g87.symm))
      have ne92 : b76 ≠ b87 := Nat.ne_of_lt (Nat.lt_of_lt_of_le A76.lt (Nat.le_of_eq g87.symm))
      have f93 : n0 ≤ h76.size := (Nat.le_trans f80 E76.1)
      have ge_b87 : n0 ≤ b87 := Nat.le_trans f93 (Nat.le_of_eq g87.symm)
      have f94 : Fld Z h87 b87 "java/lang/String" "coder" "B" (.int (0 : Int32)) := D87 (Or.inr (hw _ (List.mem_of_getElem? (i := 34) rfl))) (ty := .byte) (by decide)
      have f95 : Fld Z h87 b87 "java/lang/String" "value" "[B" .null := D87 (Or.inr (hw _ (List.mem_of_getElem? (i := 36) rfl))) (ty := (.array .byte)) (by decide)
      refine own_go st87 ?_
      show own_G p.tables e below T87 (mkF m 162 #[.val (.int p1), .val (.int p2), .val (.int p3), .val (.int p4), .val (.int p5), .val (.int h5), .val (.int s6), .val (.int v7), .val (.int v8), .val (.int v9), .val (.int v10), .val (.ref b1), .val (.ref b3), .val (.ref b7), .unset, .unset, .unset] [(.ref b87), (.ref wK), (.ref b76), (.ref b76)]) _
      refine own_go (fun t_ k_ => XS.dup X87.here hx rfl (hb hby at_162) rfl rfl k_) ?_
      show own_G p.tables e below T87 (mkF m 163 #[.val (.int p1), .val (.int p2), .val (.int p3), .val (.int p4), .val (.int p5), .val (.int h5), .val (.int s6), .val (.int v7), .val (.int v8), .val (.int v9), .val (.int v10), .val (.ref b1), .val (.ref b3), .val (.ref b7), .unset, .unset, .unset] [(.ref b87), (.ref b87), (.ref wK), (.ref b76), (.ref b76)]) _
      refine own_go (fun t_ k_ => XS.aload X87.here hx rfl (hb hby at_163) rfl rfl k_) ?_
      show own_G p.tables e below T87 (mkF m 165 #[.val (.int p1), .val (.int p2), .val (.int p3), .val (.int p4), .val (.int p5), .val (.int h5), .val (.int s6), .val (.int v7), .val (.int v8), .val (.int v9), .val (.int v10), .val (.ref b1), .val (.ref b3), .val (.ref b7), .unset, .unset, .unset] [(.ref b1), (.ref b87), (.ref b87), (.ref wK), (.ref b76), (.ref b76)]) _
      have hp96 : ∀ c ∈ ([(((p5.toUInt32 >>> ((8 : Int32) &&& 31).toUInt32).toInt32) &&& (255 : Int32))] : List Int32), ¬ c < 0 ∧ ¬ (255 : Int32) < c := by
        intro c hc; cases List.mem_singleton.mp hc; exact ⟨own_m0 _, own_m255 _⟩
      have f97 : n0 ≤ h87.size := (Nat.le_trans f93 E87.1)
      have f98 : Sta Z h87 "java/lang/String" "COMPACT_STRINGS" "Z" (.int cs) := (((own_sk f43 K51 (own_pl1 (own_pl f46))).ext E76).ext E87)
      have f99 : Arv Z h87 b1 k1 .char (1 : Int32) [(.int (((p5.toUInt32 >>> ((8 : Int32) &&& 31).toUInt32).toInt32) &&& (255 : Int32)))] (.int (0 : Int32)) := (f88.ext E87)
      have f100 : Sta Z h87 "com/example/replan/replan/model/Token$Kind" "WORD" "Lcom/example/replan/replan/model/Token$Kind;" (.ref wK) := (f85.ext E87)
      have f101 : Exa Z h87 b7 "com/example/replan/replan/model/Token" := (f90.ext E87)
      have f102 : Fld Z h87 b7 "com/example/replan/replan/model/Token" "line" "I" (.int v9) := ((Fl51.ext E76).ext E87)
      have f103 : Fld Z h87 b7 "com/example/replan/replan/model/Token" "column" "I" (.int v10) := ((Fc51.ext E76).ext E87)
      have f104 : Exa Z h87 b76 "com/example/replan/replan/model/Token" := (A76.ext E87)
      have f105 : Fld Z h87 b76 "com/example/replan/replan/model/Token" "kind" "Lcom/example/replan/replan/model/Token$Kind;" .null := (f81.ext E87)
      have f106 : Fld Z h87 b76 "com/example/replan/replan/model/Token" "text" "Ljava/lang/String;" .null := (f82.ext E87)
      have f107 : Fld Z h87 b76 "com/example/replan/replan/model/Token" "line" "I" (.int (0 : Int32)) := (f83.ext E87)
      have f108 : Fld Z h87 b76 "com/example/replan/replan/model/Token" "column" "I" (.int (0 : Int32)) := (f84.ext E87)
      obtain ⟨_, _, ⟨T109, L109, k109, n109⟩, -, X109, ⟨Lc109, hQ109, l109, y109, z109⟩, st109⟩ := X87.specialBack hx (y := (⟨"java/lang/String", "<init>", "([C)V"⟩ : MethodName)) rfl hown (mvT hZ (hw _ (List.mem_of_getElem? (i := 11) rfl))) (mvT hZ (hw _ (List.mem_of_getElem? (i := 12) rfl))) (mvT hZ (hw _ (List.mem_of_getElem? (i := 13) rfl))) (by decide) (StrChars.Road.backV (W := 4) hZ hws (kI := 4) (hw _ (List.mem_of_getElem? (i := 9) rfl)) (cs := ([(((p5.toUInt32 >>> ((8 : Int32) &&& 31).toUInt32).toInt32) &&& (255 : Int32))] : List Int32)) (bs := (([(((p5.toUInt32 >>> ((8 : Int32) &&& 31).toUInt32).toInt32) &&& (255 : Int32))] : List Int32).map (fun c => c.toInt8.toInt32))) (n := 1) ge_b87 f97 A87 f95 f94 f99 f98 hcs rfl rfl (by decide) (by decide) hp96 rfl (by decide) (by decide)) (g := (mkF m 165 #[.val (.int p1), .val (.int p2), .val (.int p3), .val (.int p4), .val (.int p5), .val (.int h5), .val (.int s6), .val (.int v7), .val (.int v8), .val (.int v9), .val (.int v10), .val (.ref b1), .val (.ref b3), .val (.ref b7), .unset, .unset, .unset] [(.ref b1), (.ref b87), (.ref b87), (.ref wK), (.ref b76), (.ref b76)])) rfl (by rw [hml]; rfl) (Steps.refl _) (a := b87) (argsL := [(.ref b1)]) (rest := [(.ref b87), (.ref wK), (.ref b76), (.ref b76)]) (lenOf own_pd2 rfl) rfl (by show 2 * 0 + _ ≤ _; exact Nat.le_of_eq rfl) (hb hby at_165) (fun _ _ => ⟨rfl, e87, (by decide : 7 + 1 ≤ _), (by decide : 19 + 1 ≤ _)⟩)
      dsimp only [Pt.U, Pt.locs, Pt.cells, Pt.slots] at X109 l109 y109 z109 st109 hQ109
      subst l109 y109 z109
      obtain ⟨rfl, N109q, K109, Ex109, Fc109, t109, kb109, gt109, szt109, nt109, Fv109, Vt109⟩ := hQ109
      have N109 := Fr.app N51 N109q
      refine own_go (fun t_ k_ => st109.trans k_) ?_
      show own_G p.tables e below T109 (mkF m 168 #[.val (.int p1), .val (.int p2), .val (.int p3), .val (.int p4), .val (.int p5), .val (.int h5), .val (.int s6), .val (.int v7), .val (.int v8), .val (.int v9), .val (.int v10), .val (.ref b1), .val (.ref b3), .val (.ref b7), .unset, .unset, .unset] [(.ref b87), (.ref wK), (.ref b76), (.ref b76)]) _
      have ne110 : b1 ≠ t109 := Nat.ne_of_lt (Nat.lt_of_lt_of_le f99.lt szt109)
      have ne111 : b7 ≠ t109 := Nat.ne_of_lt (Nat.lt_of_lt_of_le f101.lt szt109)
      have ne112 : b76 ≠ t109 := Nat.ne_of_lt (Nat.lt_of_lt_of_le f104.lt szt109)
      have nx109 : b87 ≠ t109 := fun q => nt109 q.symm
      refine own_go (fun t_ k_ => XS.iload X109.here hx rfl (hb hby at_168) rfl k_) ?_
      show own_G p.tables e below T109 (mkF m 170 #[.val (.int p1), .val (.int p2), .val (.int p3), .val (.int p4), .val (.int p5), .val (.int h5), .val (.int s6), .val (.int v7), .val (.int v8), .val (.int v9), .val (.int v10), .val (.ref b1), .val (.ref b3), .val (.ref b7), .unset, .unset, .unset] [(.int v7), (.ref b87), (.ref wK), (.ref b76), (.ref b76)]) _
      refine own_go (fun t_ k_ => XS.iload X109.here hx rfl (hb hby at_170) rfl k_) ?_
      show own_G p.tables e below T109 (mkF m 172 #[.val (.int p1), .val (.int p2), .val (.int p3), .val (.int p4), .val (.int p5), .val (.int h5), .val (.int s6), .val (.int v7), .val (.int v8), .val (.int v9), .val (.int v10), .val (.ref b1), .val (.ref b3), .val (.ref b7), .unset, .unset, .unset] [(.int v8), (.int v7), (.ref b87), (.ref wK), (.ref b76), (.ref b76)]) _
      have f113 : n0 ≤ T109.heap.size := (Nat.le_trans f97 K109.1)
      have f114 : Sta Z T109.heap "java/lang/String" "COMPACT_STRINGS" "Z" (.int cs) := (own_sk f98 K109 (own_pl1 (own_pl A87)))
      have f115 : Sta Z T109.heap "com/example/replan/replan/model/Token$Kind" "WORD" "Lcom/example/replan/replan/model/Token$Kind;" (.ref wK) := (own_sk f100 K109 (own_pl1 (own_pl A87)))
      have f116 : Exa Z T109.heap b7 "com/example/replan/replan/model/Token" := (f101.keep K109)
      have f117 : Fld Z T109.heap b7 "com/example/replan/replan/model/Token" "line" "I" (.int v9) := (f102.keep K109 (fun q => ne91 (List.mem_singleton.mp q)))
      have f118 : Fld Z T109.heap b7 "com/example/replan/replan/model/Token" "column" "I" (.int v10) := (f103.keep K109 (fun q => ne91 (List.mem_singleton.mp q)))
      have f119 : Exa Z T109.heap b76 "com/example/replan/replan/model/Token" := (f104.keep K109)
      have f120 : Fld Z T109.heap b76 "com/example/replan/replan/model/Token" "kind" "Lcom/example/replan/replan/model/Token$Kind;" .null := (f105.keep K109 (fun q => ne92 (List.mem_singleton.mp q)))
      have f121 : Fld Z T109.heap b76 "com/example/replan/replan/model/Token" "text" "Ljava/lang/String;" .null := (f106.keep K109 (fun q => ne92 (List.mem_singleton.mp q)))
      have f122 : Fld Z T109.heap b76 "com/example/replan/replan/model/Token" "line" "I" (.int (0 : Int32)) := (f107.keep K109 (fun q => ne92 (List.mem_singleton.mp q)))
      have f123 : Fld Z T109.heap b76 "com/example/replan/replan/model/Token" "column" "I" (.int (0 : Int32)) := (f108.keep K109 (fun q => ne92 (List.mem_singleton.mp q)))
      obtain ⟨_, _, ⟨T124, L124, k124, n124⟩, -, X124, ⟨Lc124, hQ124, l124, y124, z124⟩, st124⟩ := X109.specialBack hx (y := (⟨"com/example/replan/replan/model/Token", "<init>", "(Lcom/example/replan/replan/model/Token$Kind;Ljava/lang/String;II)V"⟩ : MethodName)) rfl hown (mvT hZ (hw _ (List.mem_of_getElem? (i := 37) rfl))) (mvT hZ (hw _ (List.mem_of_getElem? (i := 38) rfl))) (mvT hZ (hw _ (List.mem_of_getElem? (i := 39) rfl))) (by decide) (backOf (W := 1) (rm7 l Z a0 hw [] b76 wK b87 v7 v8 T109.heap n0 f113 ge_b76 f119 f120 f121 f122 f123) hZ (hw _ (List.mem_of_getElem? (i := 39) rfl)) (hw _ (List.mem_of_getElem? (i := 4) rfl)) (by decide) (by decide)) (g := (mkF m 172 #[.val (.int p1), .val (.int p2), .val (.int p3), .val (.int p4), .val (.int p5), .val (.int h5), .val (.int s6), .val (.int v7), .val (.int v8), .val (.int v9), .val (.int v10), .val (.ref b1), .val (.ref b3), .val (.ref b7), .unset, .unset, .unset] [(.int v8), (.int v7), (.ref b87), (.ref wK), (.ref b76), (.ref b76)])) rfl (by rw [hml]; rfl) (Steps.refl _) (a := b76) (argsL := [(.ref wK), (.ref b87), (.int v7), (.int v8)]) (rest := [(.ref b76)]) (lenOf own_pd3 rfl) rfl (by show 2 * 0 + _ ≤ _; exact Nat.le_of_eq rfl) (hb hby at_172) (fun _ _ => ⟨rfl, rfl, (by decide : 8 + 0 ≤ _), (by decide : 20 + 0 ≤ _)⟩)
      dsimp only [Pt.U, Pt.locs, Pt.cells, Pt.slots] at X124 l124 y124 z124 st124 hQ124
      subst l124 y124 z124
      obtain ⟨rfl, N124q, K124, Ex124, Fl124, Fc124⟩ := hQ124
      have N124 := Fr.app N109 N124q
      refine own_go (fun t_ k_ => st124.trans k_) ?_
      show own_G p.tables e below T124 (mkF m 175 #[.val (.int p1), .val (.int p2), .val (.int p3), .val (.int p4), .val (.int p5), .val (.int h5), .val (.int s6), .val (.int v7), .val (.int v8), .val (.int v9), .val (.int v10), .val (.ref b1), .val (.ref b3), .val (.ref b7), .unset, .unset, .unset] [(.ref b76)]) _
      refine own_go (fun t_ k_ => XS.goto X124.here hx rfl (pc0 := 175) (pc' := 179) rfl (hb hby at_175) (by decide) (by decide) k_) ?_
      show own_G p.tables e below T124 (mkF m 179 #[.val (.int p1), .val (.int p2), .val (.int p3), .val (.int p4), .val (.int p5), .val (.int h5), .val (.int s6), .val (.int v7), .val (.int v8), .val (.int v9), .val (.int v10), .val (.ref b1), .val (.ref b3), .val (.ref b7), .unset, .unset, .unset] [(.ref b76)]) _
      refine own_go (fun t_ k_ => XS.astore X124.here hx rfl (hb hby at_179) rfl rfl (l' := #[.val (.int p1), .val (.int p2), .val (.int p3), .val (.int p4), .val (.int p5), .val (.int h5), .val (.int s6), .val (.int v7), .val (.int v8), .val (.int v9), .val (.int v10), .val (.ref b1), .val (.ref b3), .val (.ref b7), .val (.ref b76), .unset, .unset]) rfl k_) ?_
      show own_G p.tables e below T124 (mkF m 181 #[.val (.int p1), .val (.int p2), .val (.int p3), .val (.int p4), .val (.int p5), .val (.int h5), .val (.int s6), .val (.int v7), .val (.int v8), .val (.int v9), .val (.int v10), .val (.ref b1), .val (.ref b3), .val (.ref b7), .val (.ref b76), .unset, .unset] []) _
      obtain ⟨T125, h125, X125, e125, E125, A125, D125, -, st125⟩ := newO X124 hx hZ hown (hw _ (List.mem_of_getElem? (i := 54) rfl)) (hw _ (List.mem_of_getElem? (i := 55) rfl)) (hw _ (List.mem_of_getElem? (i := 56) rfl)) rfl (g := (mkF m 181 #[.val (.int p1), .val (.int p2), .val (.int p3), .val (.int p4), .val (.int p5), .val (.int h5), .val (.int s6), .val (.int v7), .val (.int v8), .val (.int v9), .val (.int v10), .val (.ref b1), .val (.ref b3), .val (.ref b7), .val (.ref b76), .unset, .unset] [])) rfl (hb hby at_181) (by decide) (by decide)
      obtain ⟨b125, g125⟩ : ∃ z, z = T124.heap.size := ⟨_, rfl⟩
      rw [← g125] at A125 D125 st125
      have f126 : Exa Z T124.heap b7 "com/example/replan/replan/model/Token" := (f116.keep K124)
      have ne127 : b7 ≠ b125 := Nat.ne_of_lt (Nat.lt_of_lt_of_le f126.lt (Nat.le_of_eq g125.symm))
      have ne128 : b76 ≠ b125 := Nat.ne_of_lt (Nat.lt_of_lt_of_le Ex124.lt (Nat.le_of_eq g125.symm))
      have f129 : n0 ≤ T124.heap.size := (Nat.le_trans f113 K124.1)
      have ge_b125 : n0 ≤ b125 := Nat.le_trans f129 (Nat.le_of_eq g125.symm)
      have f130 : Fld Z h125 b125 "com/example/replan/replan/model/SelectStatement$ColumnName" "qualifier" "Lcom/example/replan/replan/model/Token;" .null := D125 (Or.inr (hw _ (List.mem_of_getElem? (i := 62) rfl))) (ty := (.object "com/example/replan/replan/model/Token")) (by decide)
      have f131 : Fld Z h125 b125 "com/example/replan/replan/model/SelectStatement$ColumnName" "name" "Lcom/example/replan/replan/model/Token;" .null := D125 (Or.inr (hw _ (List.mem_of_getElem? (i := 64) rfl))) (ty := (.object "com/example/replan/replan/model/Token")) (by decide)
      refine own_go st125 ?_
      show own_G p.tables e below T125 (mkF m 184 #[.val (.int p1), .val (.int p2), .val (.int p3), .val (.int p4), .val (.int p5), .val (.int h5), .val (.int s6), .val (.int v7), .val (.int v8), .val (.int v9), .val (.int v10), .val (.ref b1), .val (.ref b3), .val (.ref b7), .val (.ref b76), .unset, .unset] [(.ref b125)]) _
      refine own_go (fun t_ k_ => XS.dup X125.here hx rfl (hb hby at_184) rfl rfl k_) ?_
      show own_G p.tables e below T125 (mkF m 185 #[.val (.int p1), .val (.int p2), .val (.int p3), .val (.int p4), .val (.int p5), .val (.int h5), .val (.int s6), .val (.int v7), .val (.int v8), .val (.int v9), .val (.int v10), .val (.ref b1), .val (.ref b3), .val (.ref b7), .val (.ref b76), .unset, .unset] [(.ref b125), (.ref b125)]) _
      refine own_go (fun t_ k_ => XS.aload X125.here hx rfl (hb hby at_185) rfl rfl k_) ?_
      show own_G p.tables e below T125 (mkF m 187 #[.val (.int p1), .val (.int p2), .val (.int p3), .val (.int p4), .val (.int p5), .val (.int h5), .val (.int s6), .val (.int v7), .val (.int v8), .val (.int v9), .val (.int v10), .val (.ref b1), .val (.ref b3), .val (.ref b7), .val (.ref b76), .unset, .unset] [(.ref b76), (.ref b125), (.ref b125)]) _
      refine own_go (fun t_ k_ => XS.aload X125.here hx rfl (hb hby at_187) rfl rfl k_) ?_
      show own_G p.tables e below T125 (mkF m 189 #[.val (.int p1), .val (.int p2), .val (.int p3), .val (.int p4), .val (.int p5), .val (.int h5), .val (.int s6), .val (.int v7), .val (.int v8), .val (.int v9), .val (.int v10), .val (.ref b1), .val (.ref b3), .val (.ref b7), .val (.ref b76), .unset, .unset] [(.ref b7), (.ref b76), (.ref b125), (.ref b125)]) _
      have f132 : n0 ≤ h125.size := (Nat.le_trans f129 E125.1)
      have f133 : Sta Z h125 "java/lang/String" "COMPACT_STRINGS" "Z" (.int cs) := ((own_sk f114 K124 (own_pl1 (own_pl f119))).ext E125)
      have f134 : Sta Z h125 "com/example/replan/replan/model/Token$Kind" "WORD" "Lcom/example/replan/replan/model/Token$Kind;" (.ref wK) := ((own_sk f115 K124 (own_pl1 (own_pl f119))).ext E125)
      have f135 : Exa Z h125 b7 "com/example/replan/replan/model/Token" := (f126.ext E125)
      have f136 : Fld Z h125 b7 "com/example/replan/replan/model/Token" "line" "I" (.int v9) := ((f117.keep K124 (fun q => ne79 (List.mem_singleton.mp q))).ext E125)
      have f137 : Fld Z h125 b7 "com/example/replan/replan/model/Token" "column" "I" (.int v10) := ((f118.keep K124 (fun q => ne79 (List.mem_singleton.mp q))).ext E125)
      have f138 : Exa Z h125 b76 "com/example/replan/replan/model/Token" := (Ex124.ext E125)
      have f139 : Fld Z h125 b76 "com/example/replan/replan/model/Token" "line" "I" (.int v7) := (Fl124.ext E125)
      have f140 : Fld Z h125 b76 "com/example/replan/replan/model/Token" "column" "I" (.int v8) := (Fc124.ext E125)
      obtain ⟨_, _, ⟨T141, L141, k141, n141⟩, -, X141, ⟨Lc141, hQ141, l141, y141, z141⟩, st141⟩ := X125.specialBack hx (y := (⟨"com/example/replan/replan/model/SelectStatement$ColumnName", "<init>", "(Lcom/example/replan/replan/model/Token;Lcom/example/replan/replan/model/Token;)V"⟩ : MethodName)) rfl hown (mvT hZ (hw _ (List.mem_of_getElem? (i := 57) rfl))) (mvT hZ (hw _ (List.mem_of_getElem? (i := 58) rfl))) (mvT hZ (hw _ (List.mem_of_getElem? (i := 59) rfl))) (by decide) (backOf (W := 1) (rm9 l Z a0 hw [] b125 (.ref b76) b7 h125 n0 f132 rfl ge_b125 A125 f130 f131) hZ (hw _ (List.mem_of_getElem? (i := 59) rfl)) (hw _ (List.mem_of_getElem? (i := 56) rfl)) (by decide) (by decide)) (g := (mkF m 189 #[.val (.int p1), .val (.int p2), .val (.int p3), .val (.int p4), .val (.int p5), .val (.int h5), .val (.int s6), .val (.int v7), .val (.int v8), .val (.int v9), .val (.int v10), .val (.ref b1), .val (.ref b3), .val (.ref b7), .val (.ref b76), .unset, .unset] [(.ref b7), (.ref b76), (.ref b125), (.ref b125)])) rfl (by rw [hml]; rfl) (Steps.refl _) (a := b125) (argsL := [(.ref b76), (.ref b7)]) (rest := [(.ref b125)]) (lenOf own_pd4 rfl) rfl (by show 2 * 0 + _ ≤ _; exact Nat.le_of_eq rfl) (hb hby at_189) (fun _ _ => ⟨rfl, e125, (by decide : 9 + 0 ≤ _), (by decide : 22 + 0 ≤ _)⟩)
      dsimp only [Pt.U, Pt.locs, Pt.cells, Pt.slots] at X141 l141 y141 z141 st141 hQ141
      subst l141 y141 z141
      obtain ⟨rfl, N141q, K141, Ex141, Fq141, Fn141⟩ := hQ141
      have N141 := Fr.app N124 N141q
      refine own_go (fun t_ k_ => st141.trans k_) ?_
      show own_G p.tables e below T141 (mkF m 192 #[.val (.int p1), .val (.int p2), .val (.int p3), .val (.int p4), .val (.int p5), .val (.int h5), .val (.int s6), .val (.int v7), .val (.int v8), .val (.int v9), .val (.int v10), .val (.ref b1), .val (.ref b3), .val (.ref b7), .val (.ref b76), .unset, .unset] [(.ref b125)]) _
      refine own_go (fun t_ k_ => XS.astore X141.here hx rfl (hb hby at_192) rfl rfl (l' := #[.val (.int p1), .val (.int p2), .val (.int p3), .val (.int p4), .val (.int p5), .val (.int h5), .val (.int s6), .val (.int v7), .val (.int v8), .val (.int v9), .val (.int v10), .val (.ref b1), .val (.ref b3), .val (.ref b7), .val (.ref b76), .val (.ref b125), .unset]) rfl k_) ?_
      show own_G p.tables e below T141 (mkF m 194 #[.val (.int p1), .val (.int p2), .val (.int p3), .val (.int p4), .val (.int p5), .val (.int h5), .val (.int s6), .val (.int v7), .val (.int v8), .val (.int v9), .val (.int v10), .val (.ref b1), .val (.ref b3), .val (.ref b7), .val (.ref b76), .val (.ref b125), .unset] []) _
      refine own_go (fun t_ k_ => XS.aload X141.here hx rfl (hb hby at_194) rfl rfl k_) ?_
      show own_G p.tables e below T141 (mkF m 196 #[.val (.int p1), .val (.int p2), .val (.int p3), .val (.int p4), .val (.int p5), .val (.int h5), .val (.int s6), .val (.int v7), .val (.int v8), .val (.int v9), .val (.int v10), .val (.ref b1), .val (.ref b3), .val (.ref b7), .val (.ref b76), .val (.ref b125), .unset] [(.ref b125)]) _
      have f142 : n0 ≤ T141.heap.size := (Nat.le_trans f132 K141.1)
      have f143 : Sta Z T141.heap "java/lang/String" "COMPACT_STRINGS" "Z" (.int cs) := (own_sk f133 K141 (own_pl1 (own_pl A125)))
      have f144 : Sta Z T141.heap "com/example/replan/replan/model/Token$Kind" "WORD" "Lcom/example/replan/replan/model/Token$Kind;" (.ref wK) := (own_sk f134 K141 (own_pl1 (own_pl A125)))
      have f145 : Exa Z T141.heap b7 "com/example/replan/replan/model/Token" := (f135.keep K141)
      have f146 : Fld Z T141.heap b7 "com/example/replan/replan/model/Token" "line" "I" (.int v9) := (f136.keep K141 (fun q => ne127 (List.mem_singleton.mp q)))
      have f147 : Fld Z T141.heap b7 "com/example/replan/replan/model/Token" "column" "I" (.int v10) := (f137.keep K141 (fun q => ne127 (List.mem_singleton.mp q)))
      have f148 : Exa Z T141.heap b76 "com/example/replan/replan/model/Token" := (f138.keep K141)
      have f149 : Fld Z T141.heap b76 "com/example/replan/replan/model/Token" "line" "I" (.int v7) := (f139.keep K141 (fun q => ne128 (List.mem_singleton.mp q)))
      have f150 : Fld Z T141.heap b76 "com/example/replan/replan/model/Token" "column" "I" (.int v8) := (f140.keep K141 (fun q => ne128 (List.mem_singleton.mp q)))
      obtain ⟨cq151, kq151, q151a, q151b, q151c⟩ := isOf hZ rfl Ex141
      obtain ⟨_, _, ⟨T151, L151, k151, n151⟩, -, X151, ⟨Lc151, hQ151, l151, y151, z151⟩, st151⟩ := X141.virtualBack hx (y := (⟨"com/example/replan/replan/model/SelectStatement$ColumnName", "start", "()Lcom/example/replan/replan/model/Token;"⟩ : MethodName)) (z := (⟨"com/example/replan/replan/model/SelectStatement$ColumnName", "start", "()Lcom/example/replan/replan/model/Token;"⟩ : MethodName)) hown (mvT hZ (hw _ (List.mem_of_getElem? (i := 65) rfl))) (mvT hZ (hw _ (List.mem_of_getElem? (i := 66) rfl))) (notFace_of_selects (args := #[]) (mvT hZ (hw _ (List.mem_of_getElem? (i := 68) rfl)))) (mvT hZ (hw _ (List.mem_of_getElem? (i := 68) rfl))) (mvT hZ (hw _ (List.mem_of_getElem? (i := 67) rfl))) (by decide) (backOf (W := 0) (rm10 l Z a0 hw [] b125 (.ref b76) b7 T141.heap n0 f142 rfl Fq141 Fn141) hZ (hw _ (List.mem_of_getElem? (i := 69) rfl)) (hw _ (List.mem_of_getElem? (i := 56) rfl)) (by decide) (by decide)) q151a q151c (g := (mkF m 196 #[.val (.int p1), .val (.int p2), .val (.int p3), .val (.int p4), .val (.int p5), .val (.int h5), .val (.int s6), .val (.int v7), .val (.int v8), .val (.int v9), .val (.int v10), .val (.ref b1), .val (.ref b3), .val (.ref b7), .val (.ref b76), .val (.ref b125), .unset] [(.ref b125)])) rfl (by rw [hml]; rfl) (Steps.refl _) (argsL := []) (rest := []) (lenOf own_pd5 rfl) rfl (by show 2 * 0 + _ ≤ _; exact Nat.le_of_eq rfl) (hb hby at_196) (fun _ _ => ⟨rfl, rfl, (by decide : 9 + 0 ≤ _), (by decide : 22 + 0 ≤ _)⟩)
      dsimp only [Pt.U, Pt.locs, Pt.cells, Pt.slots] at X151 l151 y151 z151 st151 hQ151
      subst l151 y151 z151
      obtain ⟨rfl, N151q, e151⟩ := hQ151
      have N151 := Fr.app N141 N151q
      refine own_go (fun t_ k_ => st151.trans k_) ?_
      show own_G p.tables e below T151 (mkF m 199 #[.val (.int p1), .val (.int p2), .val (.int p3), .val (.int p4), .val (.int p5), .val (.int h5), .val (.int s6), .val (.int v7), .val (.int v8), .val (.int v9), .val (.int v10), .val (.ref b1), .val (.ref b3), .val (.ref b7), .val (.ref b76), .val (.ref b125), .unset] [(.ref b76)]) _
      refine own_go (fun t_ k_ => XS.astore X151.here hx rfl (hb hby at_199) rfl rfl (l' := #[.val (.int p1), .val (.int p2), .val (.int p3), .val (.int p4), .val (.int p5), .val (.int h5), .val (.int s6), .val (.int v7), .val (.int v8), .val (.int v9), .val (.int v10), .val (.ref b1), .val (.ref b3), .val (.ref b7), .val (.ref b76), .val (.ref b125), .val (.ref b76)]) rfl k_) ?_
      show own_G p.tables e below T151 (mkF m 201 #[.val (.int p1), .val (.int p2), .val (.int p3), .val (.int p4), .val (.int p5), .val (.int h5), .val (.int s6), .val (.int v7), .val (.int v8), .val (.int v9), .val (.int v10), .val (.ref b1), .val (.ref b3), .val (.ref b7), .val (.ref b76), .val (.ref b125), .val (.ref b76)] []) _
      refine own_go (fun t_ k_ => XS.aload X151.here hx rfl (hb hby at_201) rfl rfl k_) ?_
      show own_G p.tables e below T151 (mkF m 203 #[.val (.int p1), .val (.int p2), .val (.int p3), .val (.int p4), .val (.int p5), .val (.int h5), .val (.int s6), .val (.int v7), .val (.int v8), .val (.int v9), .val (.int v10), .val (.ref b1), .val (.ref b3), .val (.ref b7), .val (.ref b76), .val (.ref b125), .val (.ref b76)] [(.ref b76)]) _
      refine own_go (fun t_ k_ => XS.ifnonnullYes X151.here hx rfl (pc0 := 203) (pc' := 219) rfl (hb hby at_203) rfl (by decide) (by decide) k_) ?_
      show own_G p.tables e below T151 (mkF m 219 #[.val (.int p1), .val (.int p2), .val (.int p3), .val (.int p4), .val (.int p5), .val (.int h5), .val (.int s6), .val (.int v7), .val (.int v8), .val (.int v9), .val (.int v10), .val (.ref b1), .val (.ref b3), .val (.ref b7), .val (.ref b76), .val (.ref b125), .val (.ref b76)] []) _
      refine own_go (fun t_ k_ => XS.aload X151.here hx rfl (hb hby at_219) rfl rfl k_) ?_
      show own_G p.tables e below T151 (mkF m 221 #[.val (.int p1), .val (.int p2), .val (.int p3), .val (.int p4), .val (.int p5), .val (.int h5), .val (.int s6), .val (.int v7), .val (.int v8), .val (.int v9), .val (.int v10), .val (.ref b1), .val (.ref b3), .val (.ref b7), .val (.ref b76), .val (.ref b125), .val (.ref b76)] [(.ref b76)]) _
      refine own_go (fun t_ k_ => XS.aload X151.here hx rfl (hb hby at_221) rfl rfl k_) ?_
      show own_G p.tables e below T151 (mkF m 223 #[.val (.int p1), .val (.int p2), .val (.int p3), .val (.int p4), .val (.int p5), .val (.int h5), .val (.int s6), .val (.int v7), .val (.int v8), .val (.int v9), .val (.int v10), .val (.ref b1), .val (.ref b3), .val (.ref b7), .val (.ref b76), .val (.ref b125), .val (.ref b76)] [(.ref b76), (.ref b76)]) _
      refine own_go (fun t_ k_ => Jvm.RoadKit.acmp (g := (mkF m 223 #[.val (.int p1), .val (.int p2), .val (.int p3), .val (.int p4), .val (.int p5), .val (.int h5), .val (.int s6), .val (.int v7), .val (.int v8), .val (.int v9), .val (.int v10), .val (.ref b1), .val (.ref b3), .val (.ref b7), .val (.ref b76), .val (.ref b125), .val (.ref b76)] [(.ref b76), (.ref b76)])) X151 hx rfl rfl rfl (pc0 := 223) (pc' := 226) (same := true) rfl (hb hby at_223) rfl (decide_eq_true rfl) (by decide) (by decide) k_) ?_
      show own_G p.tables e below T151 (mkF m 226 #[.val (.int p1), .val (.int p2), .val (.int p3), .val (.int p4), .val (.int p5), .val (.int h5), .val (.int s6), .val (.int v7), .val (.int v8), .val (.int v9), .val (.int v10), .val (.ref b1), .val (.ref b3), .val (.ref b7), .val (.ref b76), .val (.ref b125), .val (.ref b76)] []) _
      refine own_go (fun t_ k_ => XS.aload X151.here hx rfl (hb hby at_226) rfl rfl k_) ?_
      show own_G p.tables e below T151 (mkF m 228 #[.val (.int p1), .val (.int p2), .val (.int p3), .val (.int p4), .val (.int p5), .val (.int h5), .val (.int s6), .val (.int v7), .val (.int v8), .val (.int v9), .val (.int v10), .val (.ref b1), .val (.ref b3), .val (.ref b7), .val (.ref b76), .val (.ref b125), .val (.ref b76)] [(.ref b76)]) _
      refine own_go (fun t_ k_ => XS.aload X151.here hx rfl (hb hby at_228) rfl rfl k_) ?_
      show own_G p.tables e below T151 (mkF m 230 #[.val (.int p1), .val (.int p2), .val (.int p3), .val (.int p4), .val (.int p5), .val (.int h5), .val (.int s6), .val (.int v7), .val (.int v8), .val (.int v9), .val (.int v10), .val (.ref b1), .val (.ref b3), .val (.ref b7), .val (.ref b76), .val (.ref b125), .val (.ref b76)] [(.ref b7), (.ref b76)]) _
      obtain ⟨_, _, ⟨T152, L152, k152, n152⟩, -, X152, ⟨Lc152, hQ152, l152, y152, z152⟩, st152⟩ := Jvm.LawKit.callS X151 hx (y := (⟨"com/example/replan/replan/model/ColumnNameStartPinLaw", "before", "(Lcom/example/replan/replan/model/Token;Lcom/example/replan/replan/model/Token;)Z"⟩ : MethodName)) hown (mvT hZ (hw _ (List.mem_of_getElem? (i := 70) rfl))) (mvT hZ (hw _ (List.mem_of_getElem? (i := 71) rfl))) (mvT hZ (hw _ (List.mem_of_getElem? (i := 72) rfl))) (mvT hZ (hw _ (List.mem_of_getElem? (i := 73) rfl))) (by decide) (backOf (W := 0) (rm11 l Z a0 hw [] b76 b7 v7 v9 v8 v10 T141.heap n0 f142 f148 f145 f149 f146 f150 f147 hbf) hZ (hw _ (List.mem_of_getElem? (i := 73) rfl)) (hw _ (List.mem_of_getElem? (i := 72) rfl)) (by decide) (by decide)) (g := (mkF m 230 #[.val (.int p1), .val (.int p2), .val (.int p3), .val (.int p4), .val (.int p5), .val (.int h5), .val (.int s6), .val (.int v7), .val (.int v8), .val (.int v9), .val (.int v10), .val (.ref b1), .val (.ref b3), .val (.ref b7), .val (.ref b76), .val (.ref b125), .val (.ref b76)] [(.ref b7), (.ref b76)])) rfl (by rw [hml]; rfl) (argsL := [(.ref b76), (.ref b7)]) (rest := []) (lenOf own_pd6 rfl) rfl (by show 2 * 0 + _ ≤ _; exact Nat.le_of_eq rfl) (hb hby at_230) (fun _ _ => ⟨rfl, e151, (by decide : 9 + 0 ≤ _), (by decide : 22 + 0 ≤ _)⟩)
      dsimp only [Pt.U, Pt.locs, Pt.cells, Pt.slots] at X152 l152 y152 z152 st152 hQ152
      subst l152 y152 z152
      obtain ⟨rfl, N152q, e152⟩ := hQ152
      have N152 := Fr.app N151 N152q
      refine own_go st152 ?_
      show own_G p.tables e below T152 (mkF m 233 #[.val (.int p1), .val (.int p2), .val (.int p3), .val (.int p4), .val (.int p5), .val (.int h5), .val (.int s6), .val (.int v7), .val (.int v8), .val (.int v9), .val (.int v10), .val (.ref b1), .val (.ref b3), .val (.ref b7), .val (.ref b76), .val (.ref b125), .val (.ref b76)] [(.int (1 : Int32))]) _
      refine own_go (fun t_ k_ => XS.ifNo X152.here hx rfl (hb hby at_233) rfl ((if0 _ _).trans (feq (by decide : ¬ ((1 : Int32) = (0 : Int32)))).1) k_) ?_
      show own_G p.tables e below T152 (mkF m 236 #[.val (.int p1), .val (.int p2), .val (.int p3), .val (.int p4), .val (.int p5), .val (.int h5), .val (.int s6), .val (.int v7), .val (.int v8), .val (.int v9), .val (.int v10), .val (.ref b1), .val (.ref b3), .val (.ref b7), .val (.ref b76), .val (.ref b125), .val (.ref b76)] []) _
      refine own_go (fun t_ k_ => XS.iconst X152.here hx rfl (hb hby at_236) k_) ?_
      show own_G p.tables e below T152 (mkF m 237 #[.val (.int p1), .val (.int p2), .val (.int p3), .val (.int p4), .val (.int p5), .val (.int h5), .val (.int s6), .val (.int v7), .val (.int v8), .val (.int v9), .val (.int v10), .val (.ref b1), .val (.ref b3), .val (.ref b7), .val (.ref b76), .val (.ref b125), .val (.ref b76)] [(.int (1 : Int32))]) _
      refine own_go (fun t_ k_ => XS.goto X152.here hx rfl (pc0 := 237) (pc' := 241) rfl (hb hby at_237) (by decide) (by decide) k_) ?_
      show own_G p.tables e below T152 (mkF m 241 #[.val (.int p1), .val (.int p2), .val (.int p3), .val (.int p4), .val (.int p5), .val (.int h5), .val (.int s6), .val (.int v7), .val (.int v8), .val (.int v9), .val (.int v10), .val (.ref b1), .val (.ref b3), .val (.ref b7), .val (.ref b76), .val (.ref b125), .val (.ref b76)] [(.int (1 : Int32))]) _
      exact own_end (v := some (.int (1 : Int32))) X152 Bd.notSynchronized (fun h => by rw [Bd.returns] at h; cases h) (fun fs hr => retN X152 hx (z := (1 : Int32)) (t := .boolean) Bd.returns (by simp) (hb hby at_241) hr) e152 ⟨rfl, N152⟩ (by decide) (by decide)
  show own_G p.tables e below s₁ (mkF m 0 #[.val (.int p1), .val (.int p2), .val (.int p3), .val (.int p4), .val (.int p5), .unset, .unset, .unset, .unset, .unset, .unset, .unset, .unset, .unset, .unset, .unset, .unset] []) _
  refine own_go (fun t_ k_ => XS.iload X0.here hx rfl (hb hby at_0) rfl k_) ?_
  show own_G p.tables e below s₁ (mkF m 2 #[.val (.int p1), .val (.int p2), .val (.int p3), .val (.int p4), .val (.int p5), .unset, .unset, .unset, .unset, .unset, .unset, .unset, .unset, .unset, .unset, .unset, .unset] [(.int p5)]) _
  refine own_go (fun t_ k_ => XS.iconst X0.here hx rfl (hb hby at_2) k_) ?_
  show own_G p.tables e below s₁ (mkF m 3 #[.val (.int p1), .val (.int p2), .val (.int p3), .val (.int p4), .val (.int p5), .unset, .unset, .unset, .unset, .unset, .unset, .unset, .unset, .unset, .unset, .unset, .unset] [(.int (1 : Int32)), (.int p5)]) _
  refine own_go (fun t_ k_ => XS.iand X0.here hx rfl (hb hby at_3) rfl k_) ?_
  show own_G p.tables e below s₁ (mkF m 4 #[.val (.int p1), .val (.int p2), .val (.int p3), .val (.int p4), .val (.int p5), .unset, .unset, .unset, .unset, .unset, .unset, .unset, .unset, .unset, .unset, .unset, .unset] [(.int (p5 &&& (1 : Int32)))]) _
  by_cases hc4_153 : (p5 &&& (1 : Int32)) = (0 : Int32)
  · skip
    refine own_go (fun t_ k_ => XS.ifYes X0.here hx rfl (pc0 := 4) (pc' := 11) rfl (hb hby at_4) rfl ((if0 _ _).trans (teq hc4_153).1) (by decide) (by decide) k_) ?_
    show own_G p.tables e below s₁ (mkF m 11 #[.val (.int p1), .val (.int p2), .val (.int p3), .val (.int p4), .val (.int p5), .unset, .unset, .unset, .unset, .unset, .unset, .unset, .unset, .unset, .unset, .unset, .unset] []) _
    refine own_go (fun t_ k_ => XS.iconst X0.here hx rfl (hb hby at_11) k_) ?_
    show own_G p.tables e below s₁ (mkF m 12 #[.val (.int p1), .val (.int p2), .val (.int p3), .val (.int p4), .val (.int p5), .unset, .unset, .unset, .unset, .unset, .unset, .unset, .unset, .unset, .unset, .unset, .unset] [(.int (0 : Int32))]) _
    refine own_go (fun t_ k_ => XS.istore X0.here hx rfl (hb hby at_12) rfl (l' := #[.val (.int p1), .val (.int p2), .val (.int p3), .val (.int p4), .val (.int p5), .val (.int (0 : Int32)), .unset, .unset, .unset, .unset, .unset, .unset, .unset, .unset, .unset, .unset, .unset]) rfl k_) ?_
    show own_G p.tables e below s₁ (mkF m 14 #[.val (.int p1), .val (.int p2), .val (.int p3), .val (.int p4), .val (.int p5), .val (.int (0 : Int32)), .unset, .unset, .unset, .unset, .unset, .unset, .unset, .unset, .unset, .unset, .unset] []) _
    refine own_go (fun t_ k_ => XS.iload X0.here hx rfl (hb hby at_14) rfl k_) ?_
    show own_G p.tables e below s₁ (mkF m 16 #[.val (.int p1), .val (.int p2), .val (.int p3), .val (.int p4), .val (.int p5), .val (.int (0 : Int32)), .unset, .unset, .unset, .unset, .unset, .unset, .unset, .unset, .unset, .unset, .unset] [(.int p5)]) _
    refine own_go (fun t_ k_ => XS.iconst X0.here hx rfl (hb hby at_16) k_) ?_
    show own_G p.tables e below s₁ (mkF m 17 #[.val (.int p1), .val (.int p2), .val (.int p3), .val (.int p4), .val (.int p5), .val (.int (0 : Int32)), .unset, .unset, .unset, .unset, .unset, .unset, .unset, .unset, .unset, .unset, .unset] [(.int (2 : Int32)), (.int p5)]) _
    refine own_go (fun t_ k_ => XS.iand X0.here hx rfl (hb hby at_17) rfl k_) ?_
    show own_G p.tables e below s₁ (mkF m 18 #[.val (.int p1), .val (.int p2), .val (.int p3), .val (.int p4), .val (.int p5), .val (.int (0 : Int32)), .unset, .unset, .unset, .unset, .unset, .unset, .unset, .unset, .unset, .unset, .unset] [(.int (p5 &&& (2 : Int32)))]) _
    by_cases hc18_154 : (p5 &&& (2 : Int32)) = (0 : Int32)
    · skip
      refine own_go (fun t_ k_ => XS.ifYes X0.here hx rfl (pc0 := 18) (pc' := 25) rfl (hb hby at_18) rfl ((if0 _ _).trans (teq hc18_154).1) (by decide) (by decide) k_) ?_
      show own_G p.tables e below s₁ (mkF m 25 #[.val (.int p1), .val (.int p2), .val (.int p3), .val (.int p4), .val (.int p5), .val (.int (0 : Int32)), .unset, .unset, .unset, .unset, .unset, .unset, .unset, .unset, .unset, .unset, .unset] []) _
      refine own_go (fun t_ k_ => XS.iconst X0.here hx rfl (hb hby at_25) k_) ?_
      show own_G p.tables e below s₁ (mkF m 26 #[.val (.int p1), .val (.int p2), .val (.int p3), .val (.int p4), .val (.int p5), .val (.int (0 : Int32)), .unset, .unset, .unset, .unset, .unset, .unset, .unset, .unset, .unset, .unset, .unset] [(.int (0 : Int32))]) _
      refine own_go (fun t_ k_ => XS.istore X0.here hx rfl (hb hby at_26) rfl (l' := #[.val (.int p1), .val (.int p2), .val (.int p3), .val (.int p4), .val (.int p5), .val (.int (0 : Int32)), .val (.int (0 : Int32)), .unset, .unset, .unset, .unset, .unset, .unset, .unset, .unset, .unset, .unset]) rfl k_) ?_
      show own_G p.tables e below s₁ (mkF m 28 #[.val (.int p1), .val (.int p2), .val (.int p3), .val (.int p4), .val (.int p5), .val (.int (0 : Int32)), .val (.int (0 : Int32)), .unset, .unset, .unset, .unset, .unset, .unset, .unset, .unset, .unset, .unset] []) _
      refine own_go (fun t_ k_ => XS.iloadN X0.here hx rfl (hb hby at_28) rfl k_) ?_
      show own_G p.tables e below s₁ (mkF m 29 #[.val (.int p1), .val (.int p2), .val (.int p3), .val (.int p4), .val (.int p5), .val (.int (0 : Int32)), .val (.int (0 : Int32)), .unset, .unset, .unset, .unset, .unset, .unset, .unset, .unset, .unset, .unset] [(.int p1)]) _
      refine own_go (fun t_ k_ => X0.ldcInt hx hown (mvT hZ (hw _ (List.mem_of_getElem? (i := 0) rfl))) (g := (mkF m 29 #[.val (.int p1), .val (.int p2), .val (.int p3), .val (.int p4), .val (.int p5), .val (.int (0 : Int32)), .val (.int (0 : Int32)), .unset, .unset, .unset, .unset, .unset, .unset, .unset, .unset, .unset, .unset] [(.int p1)])) rfl (hb hby at_29) _ k_) ?_
      show own_G p.tables e below s₁ (mkF m 31 #[.val (.int p1), .val (.int p2), .val (.int p3), .val (.int p4), .val (.int p5), .val (.int (0 : Int32)), .val (.int (0 : Int32)), .unset, .unset, .unset, .unset, .unset, .unset, .unset, .unset, .unset, .unset] [(.int (65535 : Int32)), (.int p1)]) _
      refine own_go (fun t_ k_ => XS.iand X0.here hx rfl (hb hby at_31) rfl k_) ?_
      show own_G p.tables e below s₁ (mkF m 32 #[.val (.int p1), .val (.int p2), .val (.int p3), .val (.int p4), .val (.int p5), .val (.int (0 : Int32)), .val (.int (0 : Int32)), .unset, .unset, .unset, .unset, .unset, .unset, .unset, .unset, .unset, .unset] [(.int (p1 &&& (65535 : Int32)))]) _
      refine own_go (fun t_ k_ => XS.iconst X0.here hx rfl (hb hby at_32) k_) ?_
      show own_G p.tables e below s₁ (mkF m 33 #[.val (.int p1), .val (.int p2), .val (.int p3), .val (.int p4), .val (.int p5), .val (.int (0 : Int32)), .val (.int (0 : Int32)), .unset, .unset, .unset, .unset, .unset, .unset, .unset, .unset, .unset, .unset] [(.int (1 : Int32)), (.int (p1 &&& (65535 : Int32)))]) _
      refine own_go (fun t_ k_ => XS.iadd X0.here hx rfl (hb hby at_33) rfl k_) ?_
      show own_G p.tables e below s₁ (mkF m 34 #[.val (.int p1), .val (.int p2), .val (.int p3), .val (.int p4), .val (.int p5), .val (.int (0 : Int32)), .val (.int (0 : Int32)), .unset, .unset, .unset, .unset, .unset, .unset, .unset, .unset, .unset, .unset] [(.int ((p1 &&& (65535 : Int32)) + (1 : Int32)))]) _
      refine own_go (fun t_ k_ => XS.istore X0.here hx rfl (hb hby at_34) rfl (l' := #[.val (.int p1), .val (.int p2), .val (.int p3), .val (.int p4), .val (.int p5), .val (.int (0 : Int32)), .val (.int (0 : Int32)), .val (.int ((p1 &&& (65535 : Int32)) + (1 : Int32))), .unset, .unset, .unset, .unset, .unset, .unset, .unset, .unset, .unset]) rfl k_) ?_
      show own_G p.tables e below s₁ (mkF m 36 #[.val (.int p1), .val (.int p2), .val (.int p3), .val (.int p4), .val (.int p5), .val (.int (0 : Int32)), .val (.int (0 : Int32)), .val (.int ((p1 &&& (65535 : Int32)) + (1 : Int32))), .unset, .unset, .unset, .unset, .unset, .unset, .unset, .unset, .unset] []) _
      refine own_go (fun t_ k_ => XS.iloadN X0.here hx rfl (hb hby at_36) rfl k_) ?_
      show own_G p.tables e below s₁ (mkF m 37 #[.val (.int p1), .val (.int p2), .val (.int p3), .val (.int p4), .val (.int p5), .val (.int (0 : Int32)), .val (.int (0 : Int32)), .val (.int ((p1 &&& (65535 : Int32)) + (1 : Int32))), .unset, .unset, .unset, .unset, .unset, .unset, .unset, .unset, .unset] [(.int p2)]) _
      refine own_go (fun t_ k_ => X0.ldcInt hx hown (mvT hZ (hw _ (List.mem_of_getElem? (i := 0) rfl))) (g := (mkF m 37 #[.val (.int p1), .val (.int p2), .val (.int p3), .val (.int p4), .val (.int p5), .val (.int (0 : Int32)), .val (.int (0 : Int32)), .val (.int ((p1 &&& (65535 : Int32)) + (1 : Int32))), .unset, .unset, .unset, .unset, .unset, .unset, .unset, .unset, .unset] [(.int p2)])) rfl (hb hby at_37) _ k_) ?_
      show own_G p.tables e below s₁ (mkF m 39 #[.val (.int p1), .val (.int p2), .val (.int p3), .val (.int p4), .val (.int p5), .val (.int (0 : Int32)), .val (.int (0 : Int32)), .val (.int ((p1 &&& (65535 : Int32)) + (1 : Int32))), .unset, .unset, .unset, .unset, .unset, .unset, .unset, .unset, .unset] [(.int (65535 : Int32)), (.int p2)]) _
      refine own_go (fun t_ k_ => XS.iand X0.here hx rfl (hb hby at_39) rfl k_) ?_
      show own_G p.tables e below s₁ (mkF m 40 #[.val (.int p1), .val (.int p2), .val (.int p3), .val (.int p4), .val (.int p5), .val (.int (0 : Int32)), .val (.int (0 : Int32)), .val (.int ((p1 &&& (65535 : Int32)) + (1 : Int32))), .unset, .unset, .unset, .unset, .unset, .unset, .unset, .unset, .unset] [(.int (p2 &&& (65535 : Int32)))]) _
      refine own_go (fun t_ k_ => XS.iconst X0.here hx rfl (hb hby at_40) k_) ?_
      show own_G p.tables e below s₁ (mkF m 41 #[.val (.int p1), .val (.int p2), .val (.int p3), .val (.int p4), .val (.int p5), .val (.int (0 : Int32)), .val (.int (0 : Int32)), .val (.int ((p1 &&& (65535 : Int32)) + (1 : Int32))), .unset, .unset, .unset, .unset, .unset, .unset, .unset, .unset, .unset] [(.int (1 : Int32)), (.int (p2 &&& (65535 : Int32)))]) _
      refine own_go (fun t_ k_ => XS.iadd X0.here hx rfl (hb hby at_41) rfl k_) ?_
      show own_G p.tables e below s₁ (mkF m 42 #[.val (.int p1), .val (.int p2), .val (.int p3), .val (.int p4), .val (.int p5), .val (.int (0 : Int32)), .val (.int (0 : Int32)), .val (.int ((p1 &&& (65535 : Int32)) + (1 : Int32))), .unset, .unset, .unset, .unset, .unset, .unset, .unset, .unset, .unset] [(.int ((p2 &&& (65535 : Int32)) + (1 : Int32)))]) _
      refine own_go (fun t_ k_ => XS.istore X0.here hx rfl (hb hby at_42) rfl (l' := #[.val (.int p1), .val (.int p2), .val (.int p3), .val (.int p4), .val (.int p5), .val (.int (0 : Int32)), .val (.int (0 : Int32)), .val (.int ((p1 &&& (65535 : Int32)) + (1 : Int32))), .val (.int ((p2 &&& (65535 : Int32)) + (1 : Int32))), .unset, .unset, .unset, .unset, .unset, .unset, .unset, .unset]) rfl k_) ?_
      show own_G p.tables e below s₁ (mkF m 44 #[.val (.int p1), .val (.int p2), .val (.int p3), .val (.int p4), .val (.int p5), .val (.int (0 : Int32)), .val (.int (0 : Int32)), .val (.int ((p1 &&& (65535 : Int32)) + (1 : Int32))), .val (.int ((p2 &&& (65535 : Int32)) + (1 : Int32))), .unset, .unset, .unset, .unset, .unset, .unset, .unset, .unset] []) _
      refine own_go (fun t_ k_ => XS.iload X0.here hx rfl (hb hby at_44) rfl k_) ?_
      show own_G p.tables e below s₁ (mkF m 46 #[.val (.int p1), .val (.int p2), .val (.int p3), .val (.int p4), .val (.int p5), .val (.int (0 : Int32)), .val (.int (0 : Int32)), .val (.int ((p1 &&& (65535 : Int32)) + (1 : Int32))), .val (.int ((p2 &&& (65535 : Int32)) + (1 : Int32))), .unset, .unset, .unset, .unset, .unset, .unset, .unset, .unset] [(.int (0 : Int32))]) _
      refine own_go (fun t_ k_ => XS.ifYes X0.here hx rfl (pc0 := 46) (pc' := 56) rfl (hb hby at_46) rfl ((if0 _ _).trans (teq (by decide : ((0 : Int32) = (0 : Int32)))).1) (by decide) (by decide) k_) ?_
      show own_G p.tables e below s₁ (mkF m 56 #[.val (.int p1), .val (.int p2), .val (.int p3), .val (.int p4), .val (.int p5), .val (.int (0 : Int32)), .val (.int (0 : Int32)), .val (.int ((p1 &&& (65535 : Int32)) + (1 : Int32))), .val (.int ((p2 &&& (65535 : Int32)) + (1 : Int32))), .unset, .unset, .unset, .unset, .unset, .unset, .unset, .unset] []) _
      refine own_go (fun t_ k_ => XS.iload X0.here hx rfl (hb hby at_56) rfl k_) ?_
      show own_G p.tables e below s₁ (mkF m 58 #[.val (.int p1), .val (.int p2), .val (.int p3), .val (.int p4), .val (.int p5), .val (.int (0 : Int32)), .val (.int (0 : Int32)), .val (.int ((p1 &&& (65535 : Int32)) + (1 : Int32))), .val (.int ((p2 &&& (65535 : Int32)) + (1 : Int32))), .unset, .unset, .unset, .unset, .unset, .unset, .unset, .unset] [(.int ((p1 &&& (65535 : Int32)) + (1 : Int32)))]) _
      refine own_go (fun t_ k_ => XS.istore X0.here hx rfl (hb hby at_58) rfl (l' := #[.val (.int p1), .val (.int p2), .val (.int p3), .val (.int p4), .val (.int p5), .val (.int (0 : Int32)), .val (.int (0 : Int32)), .val (.int ((p1 &&& (65535 : Int32)) + (1 : Int32))), .val (.int ((p2 &&& (65535 : Int32)) + (1 : Int32))), .val (.int ((p1 &&& (65535 : Int32)) + (1 : Int32))), .unset, .unset, .unset, .unset, .unset, .unset, .unset]) rfl k_) ?_
      show own_G p.tables e below s₁ (mkF m 60 #[.val (.int p1), .val (.int p2), .val (.int p3), .val (.int p4), .val (.int p5), .val (.int (0 : Int32)), .val (.int (0 : Int32)), .val (.int ((p1 &&& (65535 : Int32)) + (1 : Int32))), .val (.int ((p2 &&& (65535 : Int32)) + (1 : Int32))), .val (.int ((p1 &&& (65535 : Int32)) + (1 : Int32))), .unset, .unset, .unset, .unset, .unset, .unset, .unset] []) _
      refine own_go (fun t_ k_ => XS.iload X0.here hx rfl (hb hby at_60) rfl k_) ?_
      show own_G p.tables e below s₁ (mkF m 62 #[.val (.int p1), .val (.int p2), .val (.int p3), .val (.int p4), .val (.int p5), .val (.int (0 : Int32)), .val (.int (0 : Int32)), .val (.int ((p1 &&& (65535 : Int32)) + (1 : Int32))), .val (.int ((p2 &&& (65535 : Int32)) + (1 : Int32))), .val (.int ((p1 &&& (65535 : Int32)) + (1 : Int32))), .unset, .unset, .unset, .unset, .unset, .unset, .unset] [(.int (0 : Int32))]) _
      refine own_go (fun t_ k_ => XS.ifYes X0.here hx rfl (pc0 := 62) (pc' := 74) rfl (hb hby at_62) rfl ((if0 _ _).trans (teq (by decide : ((0 : Int32) = (0 : Int32)))).1) (by decide) (by decide) k_) ?_
      show own_G p.tables e below s₁ (mkF m 74 #[.val (.int p1), .val (.int p2), .val (.int p3), .val (.int p4), .val (.int p5), .val (.int (0 : Int32)), .val (.int (0 : Int32)), .val (.int ((p1 &&& (65535 : Int32)) + (1 : Int32))), .val (.int ((p2 &&& (65535 : Int32)) + (1 : Int32))), .val (.int ((p1 &&& (65535 : Int32)) + (1 : Int32))), .unset, .unset, .unset, .unset, .unset, .unset, .unset] []) _
      refine own_go (fun t_ k_ => XS.iload X0.here hx rfl (hb hby at_74) rfl k_) ?_
      show own_G p.tables e below s₁ (mkF m 76 #[.val (.int p1), .val (.int p2), .val (.int p3), .val (.int p4), .val (.int p5), .val (.int (0 : Int32)), .val (.int (0 : Int32)), .val (.int ((p1 &&& (65535 : Int32)) + (1 : Int32))), .val (.int ((p2 &&& (65535 : Int32)) + (1 : Int32))), .val (.int ((p1 &&& (65535 : Int32)) + (1 : Int32))), .unset, .unset, .unset, .unset, .unset, .unset, .unset] [(.int ((p2 &&& (65535 : Int32)) + (1 : Int32)))]) _
      refine own_go (fun t_ k_ => XS.iconst X0.here hx rfl (hb hby at_76) k_) ?_
      show own_G p.tables e below s₁ (mkF m 77 #[.val (.int p1), .val (.int p2), .val (.int p3), .val (.int p4), .val (.int p5), .val (.int (0 : Int32)), .val (.int (0 : Int32)), .val (.int ((p1 &&& (65535 : Int32)) + (1 : Int32))), .val (.int ((p2 &&& (65535 : Int32)) + (1 : Int32))), .val (.int ((p1 &&& (65535 : Int32)) + (1 : Int32))), .unset, .unset, .unset, .unset, .unset, .unset, .unset] [(.int (2 : Int32)), (.int ((p2 &&& (65535 : Int32)) + (1 : Int32)))]) _
      refine own_go (fun t_ k_ => XS.iadd X0.here hx rfl (hb hby at_77) rfl k_) ?_
      show own_G p.tables e below s₁ (mkF m 78 #[.val (.int p1), .val (.int p2), .val (.int p3), .val (.int p4), .val (.int p5), .val (.int (0 : Int32)), .val (.int (0 : Int32)), .val (.int ((p1 &&& (65535 : Int32)) + (1 : Int32))), .val (.int ((p2 &&& (65535 : Int32)) + (1 : Int32))), .val (.int ((p1 &&& (65535 : Int32)) + (1 : Int32))), .unset, .unset, .unset, .unset, .unset, .unset, .unset] [(.int (((p2 &&& (65535 : Int32)) + (1 : Int32)) + (2 : Int32)))]) _
      refine own_go (fun t_ k_ => XS.iloadN X0.here hx rfl (hb hby at_78) rfl k_) ?_
      show own_G p.tables e below s₁ (mkF m 79 #[.val (.int p1), .val (.int p2), .val (.int p3), .val (.int p4), .val (.int p5), .val (.int (0 : Int32)), .val (.int (0 : Int32)), .val (.int ((p1 &&& (65535 : Int32)) + (1 : Int32))), .val (.int ((p2 &&& (65535 : Int32)) + (1 : Int32))), .val (.int ((p1 &&& (65535 : Int32)) + (1 : Int32))), .unset, .unset, .unset, .unset, .unset, .unset, .unset] [(.int p3), (.int (((p2 &&& (65535 : Int32)) + (1 : Int32)) + (2 : Int32)))]) _
      refine own_go (fun t_ k_ => XS.sipush X0.here hx rfl (hb hby at_79) k_) ?_
      show own_G p.tables e below s₁ (mkF m 82 #[.val (.int p1), .val (.int p2), .val (.int p3), .val (.int p4), .val (.int p5), .val (.int (0 : Int32)), .val (.int (0 : Int32)), .val (.int ((p1 &&& (65535 : Int32)) + (1 : Int32))), .val (.int ((p2 &&& (65535 : Int32)) + (1 : Int32))), .val (.int ((p1 &&& (65535 : Int32)) + (1 : Int32))), .unset, .unset, .unset, .unset, .unset, .unset, .unset] [(.int (255 : Int32)), (.int p3), (.int (((p2 &&& (65535 : Int32)) + (1 : Int32)) + (2 : Int32)))]) _
      refine own_go (fun t_ k_ => XS.iand X0.here hx rfl (hb hby at_82) rfl k_) ?_
      show own_G p.tables e below s₁ (mkF m 83 #[.val (.int p1), .val (.int p2), .val (.int p3), .val (.int p4), .val (.int p5), .val (.int (0 : Int32)), .val (.int (0 : Int32)), .val (.int ((p1 &&& (65535 : Int32)) + (1 : Int32))), .val (.int ((p2 &&& (65535 : Int32)) + (1 : Int32))), .val (.int ((p1 &&& (65535 : Int32)) + (1 : Int32))), .unset, .unset, .unset, .unset, .unset, .unset, .unset] [(.int (p3 &&& (255 : Int32))), (.int (((p2 &&& (65535 : Int32)) + (1 : Int32)) + (2 : Int32)))]) _
      refine own_go (fun t_ k_ => XS.iadd X0.here hx rfl (hb hby at_83) rfl k_) ?_
      show own_G p.tables e below s₁ (mkF m 84 #[.val (.int p1), .val (.int p2), .val (.int p3), .val (.int p4), .val (.int p5), .val (.int (0 : Int32)), .val (.int (0 : Int32)), .val (.int ((p1 &&& (65535 : Int32)) + (1 : Int32))), .val (.int ((p2 &&& (65535 : Int32)) + (1 : Int32))), .val (.int ((p1 &&& (65535 : Int32)) + (1 : Int32))), .unset, .unset, .unset, .unset, .unset, .unset, .unset] [(.int ((((p2 &&& (65535 : Int32)) + (1 : Int32)) + (2 : Int32)) + (p3 &&& (255 : Int32))))]) _
      refine own_go (fun t_ k_ => XS.istore X0.here hx rfl (hb hby at_84) rfl (l' := #[.val (.int p1), .val (.int p2), .val (.int p3), .val (.int p4), .val (.int p5), .val (.int (0 : Int32)), .val (.int (0 : Int32)), .val (.int ((p1 &&& (65535 : Int32)) + (1 : Int32))), .val (.int ((p2 &&& (65535 : Int32)) + (1 : Int32))), .val (.int ((p1 &&& (65535 : Int32)) + (1 : Int32))), .val (.int ((((p2 &&& (65535 : Int32)) + (1 : Int32)) + (2 : Int32)) + (p3 &&& (255 : Int32)))), .unset, .unset, .unset, .unset, .unset, .unset]) rfl k_) ?_
      show own_G p.tables e below s₁ (mkF m 86 #[.val (.int p1), .val (.int p2), .val (.int p3), .val (.int p4), .val (.int p5), .val (.int (0 : Int32)), .val (.int (0 : Int32)), .val (.int ((p1 &&& (65535 : Int32)) + (1 : Int32))), .val (.int ((p2 &&& (65535 : Int32)) + (1 : Int32))), .val (.int ((p1 &&& (65535 : Int32)) + (1 : Int32))), .val (.int ((((p2 &&& (65535 : Int32)) + (1 : Int32)) + (2 : Int32)) + (p3 &&& (255 : Int32)))), .unset, .unset, .unset, .unset, .unset, .unset] []) _
      exact tail _ _ _ _ _ _ (Or.inr ⟨rfl, own_lt2 _ _⟩)
    · skip
      refine own_go (fun t_ k_ => XS.ifNo X0.here hx rfl (hb hby at_18) rfl ((if0 _ _).trans (feq hc18_154).1) k_) ?_
      show own_G p.tables e below s₁ (mkF m 21 #[.val (.int p1), .val (.int p2), .val (.int p3), .val (.int p4), .val (.int p5), .val (.int (0 : Int32)), .unset, .unset, .unset, .unset, .unset, .unset, .unset, .unset, .unset, .unset, .unset] []) _
      refine own_go (fun t_ k_ => XS.iconst X0.here hx rfl (hb hby at_21) k_) ?_
      show own_G p.tables e below s₁ (mkF m 22 #[.val (.int p1), .val (.int p2), .val (.int p3), .val (.int p4), .val (.int p5), .val (.int (0 : Int32)), .unset, .unset, .unset, .unset, .unset, .unset, .unset, .unset, .unset, .unset, .unset] [(.int (1 : Int32))]) _
      refine own_go (fun t_ k_ => XS.goto X0.here hx rfl (pc0 := 22) (pc' := 26) rfl (hb hby at_22) (by decide) (by decide) k_) ?_
      show own_G p.tables e below s₁ (mkF m 26 #[.val (.int p1), .val (.int p2), .val (.int p3), .val (.int p4), .val (.int p5), .val (.int (0 : Int32)), .unset, .unset, .unset, .unset, .unset, .unset, .unset, .unset, .unset, .unset, .unset] [(.int (1 : Int32))]) _
      refine own_go (fun t_ k_ => XS.istore X0.here hx rfl (hb hby at_26) rfl (l' := #[.val (.int p1), .val (.int p2), .val (.int p3), .val (.int p4), .val (.int p5), .val (.int (0 : Int32)), .val (.int (1 : Int32)), .unset, .unset, .unset, .unset, .unset, .unset, .unset, .unset, .unset, .unset]) rfl k_) ?_
      show own_G p.tables e below s₁ (mkF m 28 #[.val (.int p1), .val (.int p2), .val (.int p3), .val (.int p4), .val (.int p5), .val (.int (0 : Int32)), .val (.int (1 : Int32)), .unset, .unset, .unset, .unset, .unset, .unset, .unset, .unset, .unset, .unset] []) _
      refine own_go (fun t_ k_ => XS.iloadN X0.here hx rfl (hb hby at_28) rfl k_) ?_
      show own_G p.tables e below s₁ (mkF m 29 #[.val (.int p1), .val (.int p2), .val (.int p3), .val (.int p4), .val (.int p5), .val (.int (0 : Int32)), .val (.int (1 : Int32)), .unset, .unset, .unset, .unset, .unset, .unset, .unset, .unset, .unset, .unset] [(.int p1)]) _
      refine own_go (fun t_ k_ => X0.ldcInt hx hown (mvT hZ (hw _ (List.mem_of_getElem? (i := 0) rfl))) (g := (mkF m 29 #[.val (.int p1), .val (.int p2), .val (.int p3), .val (.int p4), .val (.int p5), .val (.int (0 : Int32)), .val (.int (1 : Int32)), .unset, .unset, .unset, .unset, .unset, .unset, .unset, .unset, .unset, .unset] [(.int p1)])) rfl (hb hby at_29) _ k_) ?_
      show own_G p.tables e below s₁ (mkF m 31 #[.val (.int p1), .val (.int p2), .val (.int p3), .val (.int p4), .val (.int p5), .val (.int (0 : Int32)), .val (.int (1 : Int32)), .unset, .unset, .unset, .unset, .unset, .unset, .unset, .unset, .unset, .unset] [(.int (65535 : Int32)), (.int p1)]) _
      refine own_go (fun t_ k_ => XS.iand X0.here hx rfl (hb hby at_31) rfl k_) ?_
      show own_G p.tables e below s₁ (mkF m 32 #[.val (.int p1), .val (.int p2), .val (.int p3), .val (.int p4), .val (.int p5), .val (.int (0 : Int32)), .val (.int (1 : Int32)), .unset, .unset, .unset, .unset, .unset, .unset, .unset, .unset, .unset, .unset] [(.int (p1 &&& (65535 : Int32)))]) _
      refine own_go (fun t_ k_ => XS.iconst X0.here hx rfl (hb hby at_32) k_) ?_
      show own_G p.tables e below s₁ (mkF m 33 #[.val (.int p1), .val (.int p2), .val (.int p3), .val (.int p4), .val (.int p5), .val (.int (0 : Int32)), .val (.int (1 : Int32)), .unset, .unset, .unset, .unset, .unset, .unset, .unset, .unset, .unset, .unset] [(.int (1 : Int32)), (.int (p1 &&& (65535 : Int32)))]) _
      refine own_go (fun t_ k_ => XS.iadd X0.here hx rfl (hb hby at_33) rfl k_) ?_
      show own_G p.tables e below s₁ (mkF m 34 #[.val (.int p1), .val (.int p2), .val (.int p3), .val (.int p4), .val (.int p5), .val (.int (0 : Int32)), .val (.int (1 : Int32)), .unset, .unset, .unset, .unset, .unset, .unset, .unset, .unset, .unset, .unset] [(.int ((p1 &&& (65535 : Int32)) + (1 : Int32)))]) _
      refine own_go (fun t_ k_ => XS.istore X0.here hx rfl (hb hby at_34) rfl (l' := #[.val (.int p1), .val (.int p2), .val (.int p3), .val (.int p4), .val (.int p5), .val (.int (0 : Int32)), .val (.int (1 : Int32)), .val (.int ((p1 &&& (65535 : Int32)) + (1 : Int32))), .unset, .unset, .unset, .unset, .unset, .unset, .unset, .unset, .unset]) rfl k_) ?_
      show own_G p.tables e below s₁ (mkF m 36 #[.val (.int p1), .val (.int p2), .val (.int p3), .val (.int p4), .val (.int p5), .val (.int (0 : Int32)), .val (.int (1 : Int32)), .val (.int ((p1 &&& (65535 : Int32)) + (1 : Int32))), .unset, .unset, .unset, .unset, .unset, .unset, .unset, .unset, .unset] []) _
      refine own_go (fun t_ k_ => XS.iloadN X0.here hx rfl (hb hby at_36) rfl k_) ?_
      show own_G p.tables e below s₁ (mkF m 37 #[.val (.int p1), .val (.int p2), .val (.int p3), .val (.int p4), .val (.int p5), .val (.int (0 : Int32)), .val (.int (1 : Int32)), .val (.int ((p1 &&& (65535 : Int32)) + (1 : Int32))), .unset, .unset, .unset, .unset, .unset, .unset, .unset, .unset, .unset] [(.int p2)]) _
      refine own_go (fun t_ k_ => X0.ldcInt hx hown (mvT hZ (hw _ (List.mem_of_getElem? (i := 0) rfl))) (g := (mkF m 37 #[.val (.int p1), .val (.int p2), .val (.int p3), .val (.int p4), .val (.int p5), .val (.int (0 : Int32)), .val (.int (1 : Int32)), .val (.int ((p1 &&& (65535 : Int32)) + (1 : Int32))), .unset, .unset, .unset, .unset, .unset, .unset, .unset, .unset, .unset] [(.int p2)])) rfl (hb hby at_37) _ k_) ?_
      show own_G p.tables e below s₁ (mkF m 39 #[.val (.int p1), .val (.int p2), .val (.int p3), .val (.int p4), .val (.int p5), .val (.int (0 : Int32)), .val (.int (1 : Int32)), .val (.int ((p1 &&& (65535 : Int32)) + (1 : Int32))), .unset, .unset, .unset, .unset, .unset, .unset, .unset, .unset, .unset] [(.int (65535 : Int32)), (.int p2)]) _
      refine own_go (fun t_ k_ => XS.iand X0.here hx rfl (hb hby at_39) rfl k_) ?_
      show own_G p.tables e below s₁ (mkF m 40 #[.val (.int p1), .val (.int p2), .val (.int p3), .val (.int p4), .val (.int p5), .val (.int (0 : Int32)), .val (.int (1 : Int32)), .val (.int ((p1 &&& (65535 : Int32)) + (1 : Int32))), .unset, .unset, .unset, .unset, .unset, .unset, .unset, .unset, .unset] [(.int (p2 &&& (65535 : Int32)))]) _
      refine own_go (fun t_ k_ => XS.iconst X0.here hx rfl (hb hby at_40) k_) ?_
      show own_G p.tables e below s₁ (mkF m 41 #[.val (.int p1), .val (.int p2), .val (.int p3), .val (.int p4), .val (.int p5), .val (.int (0 : Int32)), .val (.int (1 : Int32)), .val (.int ((p1 &&& (65535 : Int32)) + (1 : Int32))), .unset, .unset, .unset, .unset, .unset, .unset, .unset, .unset, .unset] [(.int (1 : Int32)), (.int (p2 &&& (65535 : Int32)))]) _
      refine own_go (fun t_ k_ => XS.iadd X0.here hx rfl (hb hby at_41) rfl k_) ?_
      show own_G p.tables e below s₁ (mkF m 42 #[.val (.int p1), .val (.int p2), .val (.int p3), .val (.int p4), .val (.int p5), .val (.int (0 : Int32)), .val (.int (1 : Int32)), .val (.int ((p1 &&& (65535 : Int32)) + (1 : Int32))), .unset, .unset, .unset, .unset, .unset, .unset, .unset, .unset, .unset] [(.int ((p2 &&& (65535 : Int32)) + (1 : Int32)))]) _
      refine own_go (fun t_ k_ => XS.istore X0.here hx rfl (hb hby at_42) rfl (l' := #[.val (.int p1), .val (.int p2), .val (.int p3), .val (.int p4), .val (.int p5), .val (.int (0 : Int32)), .val (.int (1 : Int32)), .val (.int ((p1 &&& (65535 : Int32)) + (1 : Int32))), .val (.int ((p2 &&& (65535 : Int32)) + (1 : Int32))), .unset, .unset, .unset, .unset, .unset, .unset, .unset, .unset]) rfl k_) ?_
      show own_G p.tables e below s₁ (mkF m 44 #[.val (.int p1), .val (.int p2), .val (.int p3), .val (.int p4), .val (.int p5), .val (.int (0 : Int32)), .val (.int (1 : Int32)), .val (.int ((p1 &&& (65535 : Int32)) + (1 : Int32))), .val (.int ((p2 &&& (65535 : Int32)) + (1 : Int32))), .unset, .unset, .unset, .unset, .unset, .unset, .unset, .unset] []) _
      refine own_go (fun t_ k_ => XS.iload X0.here hx rfl (hb hby at_44) rfl k_) ?_
      show own_G p.tables e below s₁ (mkF m 46 #[.val (.int p1), .val (.int p2), .val (.int p3), .val (.int p4), .val (.int p5), .val (.int (0 : Int32)), .val (.int (1 : Int32)), .val (.int ((p1 &&& (65535 : Int32)) + (1 : Int32))), .val (.int ((p2 &&& (65535 : Int32)) + (1 : Int32))), .unset, .unset, .unset, .unset, .unset, .unset, .unset, .unset] [(.int (1 : Int32))]) _
      refine own_go (fun t_ k_ => XS.ifNo X0.here hx rfl (hb hby at_46) rfl ((if0 _ _).trans (feq (by decide : ¬ ((1 : Int32) = (0 : Int32)))).1) k_) ?_
      show own_G p.tables e below s₁ (mkF m 49 #[.val (.int p1), .val (.int p2), .val (.int p3), .val (.int p4), .val (.int p5), .val (.int (0 : Int32)), .val (.int (1 : Int32)), .val (.int ((p1 &&& (65535 : Int32)) + (1 : Int32))), .val (.int ((p2 &&& (65535 : Int32)) + (1 : Int32))), .unset, .unset, .unset, .unset, .unset, .unset, .unset, .unset] []) _
      refine own_go (fun t_ k_ => XS.iload X0.here hx rfl (hb hby at_49) rfl k_) ?_
      show own_G p.tables e below s₁ (mkF m 51 #[.val (.int p1), .val (.int p2), .val (.int p3), .val (.int p4), .val (.int p5), .val (.int (0 : Int32)), .val (.int (1 : Int32)), .val (.int ((p1 &&& (65535 : Int32)) + (1 : Int32))), .val (.int ((p2 &&& (65535 : Int32)) + (1 : Int32))), .unset, .unset, .unset, .unset, .unset, .unset, .unset, .unset] [(.int ((p1 &&& (65535 : Int32)) + (1 : Int32)))]) _
      refine own_go (fun t_ k_ => XS.iconst X0.here hx rfl (hb hby at_51) k_) ?_
      show own_G p.tables e below s₁ (mkF m 52 #[.val (.int p1), .val (.int p2), .val (.int p3), .val (.int p4), .val (.int p5), .val (.int (0 : Int32)), .val (.int (1 : Int32)), .val (.int ((p1 &&& (65535 : Int32)) + (1 : Int32))), .val (.int ((p2 &&& (65535 : Int32)) + (1 : Int32))), .unset, .unset, .unset, .unset, .unset, .unset, .unset, .unset] [(.int (1 : Int32)), (.int ((p1 &&& (65535 : Int32)) + (1 : Int32)))]) _
      refine own_go (fun t_ k_ => XS.iadd X0.here hx rfl (hb hby at_52) rfl k_) ?_
      show own_G p.tables e below s₁ (mkF m 53 #[.val (.int p1), .val (.int p2), .val (.int p3), .val (.int p4), .val (.int p5), .val (.int (0 : Int32)), .val (.int (1 : Int32)), .val (.int ((p1 &&& (65535 : Int32)) + (1 : Int32))), .val (.int ((p2 &&& (65535 : Int32)) + (1 : Int32))), .unset, .unset, .unset, .unset, .unset, .unset, .unset, .unset] [(.int (((p1 &&& (65535 : Int32)) + (1 : Int32)) + (1 : Int32)))]) _
      refine own_go (fun t_ k_ => XS.goto X0.here hx rfl (pc0 := 53) (pc' := 58) rfl (hb hby at_53) (by decide) (by decide) k_) ?_
      show own_G p.tables e below s₁ (mkF m 58 #[.val (.int p1), .val (.int p2), .val (.int p3), .val (.int p4), .val (.int p5), .val (.int (0 : Int32)), .val (.int (1 : Int32)), .val (.int ((p1 &&& (65535 : Int32)) + (1 : Int32))), .val (.int ((p2 &&& (65535 : Int32)) + (1 : Int32))), .unset, .unset, .unset, .unset, .unset, .unset, .unset, .unset] [(.int (((p1 &&& (65535 : Int32)) + (1 : Int32)) + (1 : Int32)))]) _
      refine own_go (fun t_ k_ => XS.istore X0.here hx rfl (hb hby at_58) rfl (l' := #[.val (.int p1), .val (.int p2), .val (.int p3), .val (.int p4), .val (.int p5), .val (.int (0 : Int32)), .val (.int (1 : Int32)), .val (.int ((p1 &&& (65535 : Int32)) + (1 : Int32))), .val (.int ((p2 &&& (65535 : Int32)) + (1 : Int32))), .val (.int (((p1 &&& (65535 : Int32)) + (1 : Int32)) + (1 : Int32))), .unset, .unset, .unset, .unset, .unset, .unset, .unset]) rfl k_) ?_
      show own_G p.tables e below s₁ (mkF m 60 #[.val (.int p1), .val (.int p2), .val (.int p3), .val (.int p4), .val (.int p5), .val (.int (0 : Int32)), .val (.int (1 : Int32)), .val (.int ((p1 &&& (65535 : Int32)) + (1 : Int32))), .val (.int ((p2 &&& (65535 : Int32)) + (1 : Int32))), .val (.int (((p1 &&& (65535 : Int32)) + (1 : Int32)) + (1 : Int32))), .unset, .unset, .unset, .unset, .unset, .unset, .unset] []) _
      refine own_go (fun t_ k_ => XS.iload X0.here hx rfl (hb hby at_60) rfl k_) ?_
      show own_G p.tables e below s₁ (mkF m 62 #[.val (.int p1), .val (.int p2), .val (.int p3), .val (.int p4), .val (.int p5), .val (.int (0 : Int32)), .val (.int (1 : Int32)), .val (.int ((p1 &&& (65535 : Int32)) + (1 : Int32))), .val (.int ((p2 &&& (65535 : Int32)) + (1 : Int32))), .val (.int (((p1 &&& (65535 : Int32)) + (1 : Int32)) + (1 : Int32))), .unset, .unset, .unset, .unset, .unset, .unset, .unset] [(.int (1 : Int32))]) _
      refine own_go (fun t_ k_ => XS.ifNo X0.here hx rfl (hb hby at_62) rfl ((if0 _ _).trans (feq (by decide : ¬ ((1 : Int32) = (0 : Int32)))).1) k_) ?_
      show own_G p.tables e below s₁ (mkF m 65 #[.val (.int p1), .val (.int p2), .val (.int p3), .val (.int p4), .val (.int p5), .val (.int (0 : Int32)), .val (.int (1 : Int32)), .val (.int ((p1 &&& (65535 : Int32)) + (1 : Int32))), .val (.int ((p2 &&& (65535 : Int32)) + (1 : Int32))), .val (.int (((p1 &&& (65535 : Int32)) + (1 : Int32)) + (1 : Int32))), .unset, .unset, .unset, .unset, .unset, .unset, .unset] []) _
      refine own_go (fun t_ k_ => XS.iloadN X0.here hx rfl (hb hby at_65) rfl k_) ?_
      show own_G p.tables e below s₁ (mkF m 66 #[.val (.int p1), .val (.int p2), .val (.int p3), .val (.int p4), .val (.int p5), .val (.int (0 : Int32)), .val (.int (1 : Int32)), .val (.int ((p1 &&& (65535 : Int32)) + (1 : Int32))), .val (.int ((p2 &&& (65535 : Int32)) + (1 : Int32))), .val (.int (((p1 &&& (65535 : Int32)) + (1 : Int32)) + (1 : Int32))), .unset, .unset, .unset, .unset, .unset, .unset, .unset] [(.int p4)]) _
      refine own_go (fun t_ k_ => X0.ldcInt hx hown (mvT hZ (hw _ (List.mem_of_getElem? (i := 0) rfl))) (g := (mkF m 66 #[.val (.int p1), .val (.int p2), .val (.int p3), .val (.int p4), .val (.int p5), .val (.int (0 : Int32)), .val (.int (1 : Int32)), .val (.int ((p1 &&& (65535 : Int32)) + (1 : Int32))), .val (.int ((p2 &&& (65535 : Int32)) + (1 : Int32))), .val (.int (((p1 &&& (65535 : Int32)) + (1 : Int32)) + (1 : Int32))), .unset, .unset, .unset, .unset, .unset, .unset, .unset] [(.int p4)])) rfl (hb hby at_66) _ k_) ?_
      show own_G p.tables e below s₁ (mkF m 68 #[.val (.int p1), .val (.int p2), .val (.int p3), .val (.int p4), .val (.int p5), .val (.int (0 : Int32)), .val (.int (1 : Int32)), .val (.int ((p1 &&& (65535 : Int32)) + (1 : Int32))), .val (.int ((p2 &&& (65535 : Int32)) + (1 : Int32))), .val (.int (((p1 &&& (65535 : Int32)) + (1 : Int32)) + (1 : Int32))), .unset, .unset, .unset, .unset, .unset, .unset, .unset] [(.int (65535 : Int32)), (.int p4)]) _
      refine own_go (fun t_ k_ => XS.iand X0.here hx rfl (hb hby at_68) rfl k_) ?_
      show own_G p.tables e below s₁ (mkF m 69 #[.val (.int p1), .val (.int p2), .val (.int p3), .val (.int p4), .val (.int p5), .val (.int (0 : Int32)), .val (.int (1 : Int32)), .val (.int ((p1 &&& (65535 : Int32)) + (1 : Int32))), .val (.int ((p2 &&& (65535 : Int32)) + (1 : Int32))), .val (.int (((p1 &&& (65535 : Int32)) + (1 : Int32)) + (1 : Int32))), .unset, .unset, .unset, .unset, .unset, .unset, .unset] [(.int (p4 &&& (65535 : Int32)))]) _
      refine own_go (fun t_ k_ => XS.iconst X0.here hx rfl (hb hby at_69) k_) ?_
      show own_G p.tables e below s₁ (mkF m 70 #[.val (.int p1), .val (.int p2), .val (.int p3), .val (.int p4), .val (.int p5), .val (.int (0 : Int32)), .val (.int (1 : Int32)), .val (.int ((p1 &&& (65535 : Int32)) + (1 : Int32))), .val (.int ((p2 &&& (65535 : Int32)) + (1 : Int32))), .val (.int (((p1 &&& (65535 : Int32)) + (1 : Int32)) + (1 : Int32))), .unset, .unset, .unset, .unset, .unset, .unset, .unset] [(.int (1 : Int32)), (.int (p4 &&& (65535 : Int32)))]) _
      refine own_go (fun t_ k_ => XS.iadd X0.here hx rfl (hb hby at_70) rfl k_) ?_
      show own_G p.tables e below s₁ (mkF m 71 #[.val (.int p1), .val (.int p2), .val (.int p3), .val (.int p4), .val (.int p5), .val (.int (0 : Int32)), .val (.int (1 : Int32)), .val (.int ((p1 &&& (65535 : Int32)) + (1 : Int32))), .val (.int ((p2 &&& (65535 : Int32)) + (1 : Int32))), .val (.int (((p1 &&& (65535 : Int32)) + (1 : Int32)) + (1 : Int32))), .unset, .unset, .unset, .unset, .unset, .unset, .unset] [(.int ((p4 &&& (65535 : Int32)) + (1 : Int32)))]) _
      refine own_go (fun t_ k_ => XS.goto X0.here hx rfl (pc0 := 71) (pc' := 84) rfl (hb hby at_71) (by decide) (by decide) k_) ?_
      show own_G p.tables e below s₁ (mkF m 84 #[.val (.int p1), .val (.int p2), .val (.int p3), .val (.int p4), .val (.int p5), .val (.int (0 : Int32)), .val (.int (1 : Int32)), .val (.int ((p1 &&& (65535 : Int32)) + (1 : Int32))), .val (.int ((p2 &&& (65535 : Int32)) + (1 : Int32))), .val (.int (((p1 &&& (65535 : Int32)) + (1 : Int32)) + (1 : Int32))), .unset, .unset, .unset, .unset, .unset, .unset, .unset] [(.int ((p4 &&& (65535 : Int32)) + (1 : Int32)))]) _
      refine own_go (fun t_ k_ => XS.istore X0.here hx rfl (hb hby at_84) rfl (l' := #[.val (.int p1), .val (.int p2), .val (.int p3), .val (.int p4), .val (.int p5), .val (.int (0 : Int32)), .val (.int (1 : Int32)), .val (.int ((p1 &&& (65535 : Int32)) + (1 : Int32))), .val (.int ((p2 &&& (65535 : Int32)) + (1 : Int32))), .val (.int (((p1 &&& (65535 : Int32)) + (1 : Int32)) + (1 : Int32))), .val (.int ((p4 &&& (65535 : Int32)) + (1 : Int32))), .unset, .unset, .unset, .unset, .unset, .unset]) rfl k_) ?_
      show own_G p.tables e below s₁ (mkF m 86 #[.val (.int p1), .val (.int p2), .val (.int p3), .val (.int p4), .val (.int p5), .val (.int (0 : Int32)), .val (.int (1 : Int32)), .val (.int ((p1 &&& (65535 : Int32)) + (1 : Int32))), .val (.int ((p2 &&& (65535 : Int32)) + (1 : Int32))), .val (.int (((p1 &&& (65535 : Int32)) + (1 : Int32)) + (1 : Int32))), .val (.int ((p4 &&& (65535 : Int32)) + (1 : Int32))), .unset, .unset, .unset, .unset, .unset, .unset] []) _
      exact tail _ _ _ _ _ _ (Or.inl (own_lt1 _))
  · skip
    refine own_go (fun t_ k_ => XS.ifNo X0.here hx rfl (hb hby at_4) rfl ((if0 _ _).trans (feq hc4_153).1) k_) ?_
    show own_G p.tables e below s₁ (mkF m 7 #[.val (.int p1), .val (.int p2), .val (.int p3), .val (.int p4), .val (.int p5), .unset, .unset, .unset, .unset, .unset, .unset, .unset, .unset, .unset, .unset, .unset, .unset] []) _
    refine own_go (fun t_ k_ => XS.iconst X0.here hx rfl (hb hby at_7) k_) ?_
    show own_G p.tables e below s₁ (mkF m 8 #[.val (.int p1), .val (.int p2), .val (.int p3), .val (.int p4), .val (.int p5), .unset, .unset, .unset, .unset, .unset, .unset, .unset, .unset, .unset, .unset, .unset, .unset] [(.int (1 : Int32))]) _
    refine own_go (fun t_ k_ => XS.goto X0.here hx rfl (pc0 := 8) (pc' := 12) rfl (hb hby at_8) (by decide) (by decide) k_) ?_
    show own_G p.tables e below s₁ (mkF m 12 #[.val (.int p1), .val (.int p2), .val (.int p3), .val (.int p4), .val (.int p5), .unset, .unset, .unset, .unset, .unset, .unset, .unset, .unset, .unset, .unset, .unset, .unset] [(.int (1 : Int32))]) _
    refine own_go (fun t_ k_ => XS.istore X0.here hx rfl (hb hby at_12) rfl (l' := #[.val (.int p1), .val (.int p2), .val (.int p3), .val (.int p4), .val (.int p5), .val (.int (1 : Int32)), .unset, .unset, .unset, .unset, .unset, .unset, .unset, .unset, .unset, .unset, .unset]) rfl k_) ?_
    show own_G p.tables e below s₁ (mkF m 14 #[.val (.int p1), .val (.int p2), .val (.int p3), .val (.int p4), .val (.int p5), .val (.int (1 : Int32)), .unset, .unset, .unset, .unset, .unset, .unset, .unset, .unset, .unset, .unset, .unset] []) _
    refine own_go (fun t_ k_ => XS.iload X0.here hx rfl (hb hby at_14) rfl k_) ?_
    show own_G p.tables e below s₁ (mkF m 16 #[.val (.int p1), .val (.int p2), .val (.int p3), .val (.int p4), .val (.int p5), .val (.int (1 : Int32)), .unset, .unset, .unset, .unset, .unset, .unset, .unset, .unset, .unset, .unset, .unset] [(.int p5)]) _
    refine own_go (fun t_ k_ => XS.iconst X0.here hx rfl (hb hby at_16) k_) ?_
    show own_G p.tables e below s₁ (mkF m 17 #[.val (.int p1), .val (.int p2), .val (.int p3), .val (.int p4), .val (.int p5), .val (.int (1 : Int32)), .unset, .unset, .unset, .unset, .unset, .unset, .unset, .unset, .unset, .unset, .unset] [(.int (2 : Int32)), (.int p5)]) _
    refine own_go (fun t_ k_ => XS.iand X0.here hx rfl (hb hby at_17) rfl k_) ?_
    show own_G p.tables e below s₁ (mkF m 18 #[.val (.int p1), .val (.int p2), .val (.int p3), .val (.int p4), .val (.int p5), .val (.int (1 : Int32)), .unset, .unset, .unset, .unset, .unset, .unset, .unset, .unset, .unset, .unset, .unset] [(.int (p5 &&& (2 : Int32)))]) _
    by_cases hc18_155 : (p5 &&& (2 : Int32)) = (0 : Int32)
    · skip
      refine own_go (fun t_ k_ => XS.ifYes X0.here hx rfl (pc0 := 18) (pc' := 25) rfl (hb hby at_18) rfl ((if0 _ _).trans (teq hc18_155).1) (by decide) (by decide) k_) ?_
      show own_G p.tables e below s₁ (mkF m 25 #[.val (.int p1), .val (.int p2), .val (.int p3), .val (.int p4), .val (.int p5), .val (.int (1 : Int32)), .unset, .unset, .unset, .unset, .unset, .unset, .unset, .unset, .unset, .unset, .unset] []) _
      refine own_go (fun t_ k_ => XS.iconst X0.here hx rfl (hb hby at_25) k_) ?_
      show own_G p.tables e below s₁ (mkF m 26 #[.val (.int p1), .val (.int p2), .val (.int p3), .val (.int p4), .val (.int p5), .val (.int (1 : Int32)), .unset, .unset, .unset, .unset, .unset, .unset, .unset, .unset, .unset, .unset, .unset] [(.int (0 : Int32))]) _
      refine own_go (fun t_ k_ => XS.istore X0.here hx rfl (hb hby at_26) rfl (l' := #[.val (.int p1), .val (.int p2), .val (.int p3), .val (.int p4), .val (.int p5), .val (.int (1 : Int32)), .val (.int (0 : Int32)), .unset, .unset, .unset, .unset, .unset, .unset, .unset, .unset, .unset, .unset]) rfl k_) ?_
      show own_G p.tables e below s₁ (mkF m 28 #[.val (.int p1), .val (.int p2), .val (.int p3), .val (.int p4), .val (.int p5), .val (.int (1 : Int32)), .val (.int (0 : Int32)), .unset, .unset, .unset, .unset, .unset, .unset, .unset, .unset, .unset, .unset] []) _
      refine own_go (fun t_ k_ => XS.iloadN X0.here hx rfl (hb hby at_28) rfl k_) ?_
      show own_G p.tables e below s₁ (mkF m 29 #[.val (.int p1), .val (.int p2), .val (.int p3), .val (.int p4), .val (.int p5), .val (.int (1 : Int32)), .val (.int (0 : Int32)), .unset, .unset, .unset, .unset, .unset, .unset, .unset, .unset, .unset, .unset] [(.int p1)]) _
      refine own_go (fun t_ k_ => X0.ldcInt hx hown (mvT hZ (hw _ (List.mem_of_getElem? (i := 0) rfl))) (g := (mkF m 29 #[.val (.int p1), .val (.int p2), .val (.int p3), .val (.int p4), .val (.int p5), .val (.int (1 : Int32)), .val (.int (0 : Int32)), .unset, .unset, .unset, .unset, .unset, .unset, .unset, .unset, .unset, .unset] [(.int p1)])) rfl (hb hby at_29) _ k_) ?_
      show own_G p.tables e below s₁ (mkF m 31 #[.val (.int p1), .val (.int p2), .val (.int p3), .val (.int p4), .val (.int p5), .val (.int (1 : Int32)), .val (.int (0 : Int32)), .unset, .unset, .unset, .unset, .unset, .unset, .unset, .unset, .unset, .unset] [(.int (65535 : Int32)), (.int p1)]) _
      refine own_go (fun t_ k_ => XS.iand X0.here hx rfl (hb hby at_31) rfl k_) ?_
      show own_G p.tables e below s₁ (mkF m 32 #[.val (.int p1), .val (.int p2), .val (.int p3), .val (.int p4), .val (.int p5), .val (.int (1 : Int32)), .val (.int (0 : Int32)), .unset, .unset, .unset, .unset, .unset, .unset, .unset, .unset, .unset, .unset] [(.int (p1 &&& (65535 : Int32)))]) _
      refine own_go (fun t_ k_ => XS.iconst X0.here hx rfl (hb hby at_32) k_) ?_
      show own_G p.tables e below s₁ (mkF m 33 #[.val (.int p1), .val (.int p2), .val (.int p3), .val (.int p4), .val (.int p5), .val (.int (1 : Int32)), .val (.int (0 : Int32)), .unset, .unset, .unset, .unset, .unset, .unset, .unset, .unset, .unset, .unset] [(.int (1 : Int32)), (.int (p1 &&& (65535 : Int32)))]) _
      refine own_go (fun t_ k_ => XS.iadd X0.here hx rfl (hb hby at_33) rfl k_) ?_
      show own_G p.tables e below s₁ (mkF m 34 #[.val (.int p1), .val (.int p2), .val (.int p3), .val (.int p4), .val (.int p5), .val (.int (1 : Int32)), .val (.int (0 : Int32)), .unset, .unset, .unset, .unset, .unset, .unset, .unset, .unset, .unset, .unset] [(.int ((p1 &&& (65535 : Int32)) + (1 : Int32)))]) _
      refine own_go (fun t_ k_ => XS.istore X0.here hx rfl (hb hby at_34) rfl (l' := #[.val (.int p1), .val (.int p2), .val (.int p3), .val (.int p4), .val (.int p5), .val (.int (1 : Int32)), .val (.int (0 : Int32)), .val (.int ((p1 &&& (65535 : Int32)) + (1 : Int32))), .unset, .unset, .unset, .unset, .unset, .unset, .unset, .unset, .unset]) rfl k_) ?_
      show own_G p.tables e below s₁ (mkF m 36 #[.val (.int p1), .val (.int p2), .val (.int p3), .val (.int p4), .val (.int p5), .val (.int (1 : Int32)), .val (.int (0 : Int32)), .val (.int ((p1 &&& (65535 : Int32)) + (1 : Int32))), .unset, .unset, .unset, .unset, .unset, .unset, .unset, .unset, .unset] []) _
      refine own_go (fun t_ k_ => XS.iloadN X0.here hx rfl (hb hby at_36) rfl k_) ?_
      show own_G p.tables e below s₁ (mkF m 37 #[.val (.int p1), .val (.int p2), .val (.int p3), .val (.int p4), .val (.int p5), .val (.int (1 : Int32)), .val (.int (0 : Int32)), .val (.int ((p1 &&& (65535 : Int32)) + (1 : Int32))), .unset, .unset, .unset, .unset, .unset, .unset, .unset, .unset, .unset] [(.int p2)]) _
      refine own_go (fun t_ k_ => X0.ldcInt hx hown (mvT hZ (hw _ (List.mem_of_getElem? (i := 0) rfl))) (g := (mkF m 37 #[.val (.int p1), .val (.int p2), .val (.int p3), .val (.int p4), .val (.int p5), .val (.int (1 : Int32)), .val (.int (0 : Int32)), .val (.int ((p1 &&& (65535 : Int32)) + (1 : Int32))), .unset, .unset, .unset, .unset, .unset, .unset, .unset, .unset, .unset] [(.int p2)])) rfl (hb hby at_37) _ k_) ?_
      show own_G p.tables e below s₁ (mkF m 39 #[.val (.int p1), .val (.int p2), .val (.int p3), .val (.int p4), .val (.int p5), .val (.int (1 : Int32)), .val (.int (0 : Int32)), .val (.int ((p1 &&& (65535 : Int32)) + (1 : Int32))), .unset, .unset, .unset, .unset, .unset, .unset, .unset, .unset, .unset] [(.int (65535 : Int32)), (.int p2)]) _
      refine own_go (fun t_ k_ => XS.iand X0.here hx rfl (hb hby at_39) rfl k_) ?_
      show own_G p.tables e below s₁ (mkF m 40 #[.val (.int p1), .val (.int p2), .val (.int p3), .val (.int p4), .val (.int p5), .val (.int (1 : Int32)), .val (.int (0 : Int32)), .val (.int ((p1 &&& (65535 : Int32)) + (1 : Int32))), .unset, .unset, .unset, .unset, .unset, .unset, .unset, .unset, .unset] [(.int (p2 &&& (65535 : Int32)))]) _
      refine own_go (fun t_ k_ => XS.iconst X0.here hx rfl (hb hby at_40) k_) ?_
      show own_G p.tables e below s₁ (mkF m 41 #[.val (.int p1), .val (.int p2), .val (.int p3), .val (.int p4), .val (.int p5), .val (.int (1 : Int32)), .val (.int (0 : Int32)), .val (.int ((p1 &&& (65535 : Int32)) + (1 : Int32))), .unset, .unset, .unset, .unset, .unset, .unset, .unset, .unset, .unset] [(.int (1 : Int32)), (.int (p2 &&& (65535 : Int32)))]) _
      refine own_go (fun t_ k_ => XS.iadd X0.here hx rfl (hb hby at_41) rfl k_) ?_
      show own_G p.tables e below s₁ (mkF m 42 #[.val (.int p1), .val (.int p2), .val (.int p3), .val (.int p4), .val (.int p5), .val (.int (1 : Int32)), .val (.int (0 : Int32)), .val (.int ((p1 &&& (65535 : Int32)) + (1 : Int32))), .unset, .unset, .unset, .unset, .unset, .unset, .unset, .unset, .unset] [(.int ((p2 &&& (65535 : Int32)) + (1 : Int32)))]) _
      refine own_go (fun t_ k_ => XS.istore X0.here hx rfl (hb hby at_42) rfl (l' := #[.val (.int p1), .val (.int p2), .val (.int p3), .val (.int p4), .val (.int p5), .val (.int (1 : Int32)), .val (.int (0 : Int32)), .val (.int ((p1 &&& (65535 : Int32)) + (1 : Int32))), .val (.int ((p2 &&& (65535 : Int32)) + (1 : Int32))), .unset, .unset, .unset, .unset, .unset, .unset, .unset, .unset]) rfl k_) ?_
      show own_G p.tables e below s₁ (mkF m 44 #[.val (.int p1), .val (.int p2), .val (.int p3), .val (.int p4), .val (.int p5), .val (.int (1 : Int32)), .val (.int (0 : Int32)), .val (.int ((p1 &&& (65535 : Int32)) + (1 : Int32))), .val (.int ((p2 &&& (65535 : Int32)) + (1 : Int32))), .unset, .unset, .unset, .unset, .unset, .unset, .unset, .unset] []) _
      refine own_go (fun t_ k_ => XS.iload X0.here hx rfl (hb hby at_44) rfl k_) ?_
      show own_G p.tables e below s₁ (mkF m 46 #[.val (.int p1), .val (.int p2), .val (.int p3), .val (.int p4), .val (.int p5), .val (.int (1 : Int32)), .val (.int (0 : Int32)), .val (.int ((p1 &&& (65535 : Int32)) + (1 : Int32))), .val (.int ((p2 &&& (65535 : Int32)) + (1 : Int32))), .unset, .unset, .unset, .unset, .unset, .unset, .unset, .unset] [(.int (0 : Int32))]) _
      refine own_go (fun t_ k_ => XS.ifYes X0.here hx rfl (pc0 := 46) (pc' := 56) rfl (hb hby at_46) rfl ((if0 _ _).trans (teq (by decide : ((0 : Int32) = (0 : Int32)))).1) (by decide) (by decide) k_) ?_
      show own_G p.tables e below s₁ (mkF m 56 #[.val (.int p1), .val (.int p2), .val (.int p3), .val (.int p4), .val (.int p5), .val (.int (1 : Int32)), .val (.int (0 : Int32)), .val (.int ((p1 &&& (65535 : Int32)) + (1 : Int32))), .val (.int ((p2 &&& (65535 : Int32)) + (1 : Int32))), .unset, .unset, .unset, .unset, .unset, .unset, .unset, .unset] []) _
      refine own_go (fun t_ k_ => XS.iload X0.here hx rfl (hb hby at_56) rfl k_) ?_
      show own_G p.tables e below s₁ (mkF m 58 #[.val (.int p1), .val (.int p2), .val (.int p3), .val (.int p4), .val (.int p5), .val (.int (1 : Int32)), .val (.int (0 : Int32)), .val (.int ((p1 &&& (65535 : Int32)) + (1 : Int32))), .val (.int ((p2 &&& (65535 : Int32)) + (1 : Int32))), .unset, .unset, .unset, .unset, .unset, .unset, .unset, .unset] [(.int ((p1 &&& (65535 : Int32)) + (1 : Int32)))]) _
      refine own_go (fun t_ k_ => XS.istore X0.here hx rfl (hb hby at_58) rfl (l' := #[.val (.int p1), .val (.int p2), .val (.int p3), .val (.int p4), .val (.int p5), .val (.int (1 : Int32)), .val (.int (0 : Int32)), .val (.int ((p1 &&& (65535 : Int32)) + (1 : Int32))), .val (.int ((p2 &&& (65535 : Int32)) + (1 : Int32))), .val (.int ((p1 &&& (65535 : Int32)) + (1 : Int32))), .unset, .unset, .unset, .unset, .unset, .unset, .unset]) rfl k_) ?_
      show own_G p.tables e below s₁ (mkF m 60 #[.val (.int p1), .val (.int p2), .val (.int p3), .val (.int p4), .val (.int p5), .val (.int (1 : Int32)), .val (.int (0 : Int32)), .val (.int ((p1 &&& (65535 : Int32)) + (1 : Int32))), .val (.int ((p2 &&& (65535 : Int32)) + (1 : Int32))), .val (.int ((p1 &&& (65535 : Int32)) + (1 : Int32))), .unset, .unset, .unset, .unset, .unset, .unset, .unset] []) _
      refine own_go (fun t_ k_ => XS.iload X0.here hx rfl (hb hby at_60) rfl k_) ?_
      show own_G p.tables e below s₁ (mkF m 62 #[.val (.int p1), .val (.int p2), .val (.int p3), .val (.int p4), .val (.int p5), .val (.int (1 : Int32)), .val (.int (0 : Int32)), .val (.int ((p1 &&& (65535 : Int32)) + (1 : Int32))), .val (.int ((p2 &&& (65535 : Int32)) + (1 : Int32))), .val (.int ((p1 &&& (65535 : Int32)) + (1 : Int32))), .unset, .unset, .unset, .unset, .unset, .unset, .unset] [(.int (0 : Int32))]) _
      refine own_go (fun t_ k_ => XS.ifYes X0.here hx rfl (pc0 := 62) (pc' := 74) rfl (hb hby at_62) rfl ((if0 _ _).trans (teq (by decide : ((0 : Int32) = (0 : Int32)))).1) (by decide) (by decide) k_) ?_
      show own_G p.tables e below s₁ (mkF m 74 #[.val (.int p1), .val (.int p2), .val (.int p3), .val (.int p4), .val (.int p5), .val (.int (1 : Int32)), .val (.int (0 : Int32)), .val (.int ((p1 &&& (65535 : Int32)) + (1 : Int32))), .val (.int ((p2 &&& (65535 : Int32)) + (1 : Int32))), .val (.int ((p1 &&& (65535 : Int32)) + (1 : Int32))), .unset, .unset, .unset, .unset, .unset, .unset, .unset] []) _
      refine own_go (fun t_ k_ => XS.iload X0.here hx rfl (hb hby at_74) rfl k_) ?_
      show own_G p.tables e below s₁ (mkF m 76 #[.val (.int p1), .val (.int p2), .val (.int p3), .val (.int p4), .val (.int p5), .val (.int (1 : Int32)), .val (.int (0 : Int32)), .val (.int ((p1 &&& (65535 : Int32)) + (1 : Int32))), .val (.int ((p2 &&& (65535 : Int32)) + (1 : Int32))), .val (.int ((p1 &&& (65535 : Int32)) + (1 : Int32))), .unset, .unset, .unset, .unset, .unset, .unset, .unset] [(.int ((p2 &&& (65535 : Int32)) + (1 : Int32)))]) _
      refine own_go (fun t_ k_ => XS.iconst X0.here hx rfl (hb hby at_76) k_) ?_
      show own_G p.tables e below s₁ (mkF m 77 #[.val (.int p1), .val (.int p2), .val (.int p3), .val (.int p4), .val (.int p5), .val (.int (1 : Int32)), .val (.int (0 : Int32)), .val (.int ((p1 &&& (65535 : Int32)) + (1 : Int32))), .val (.int ((p2 &&& (65535 : Int32)) + (1 : Int32))), .val (.int ((p1 &&& (65535 : Int32)) + (1 : Int32))), .unset, .unset, .unset, .unset, .unset, .unset, .unset] [(.int (2 : Int32)), (.int ((p2 &&& (65535 : Int32)) + (1 : Int32)))]) _
      refine own_go (fun t_ k_ => XS.iadd X0.here hx rfl (hb hby at_77) rfl k_) ?_
      show own_G p.tables e below s₁ (mkF m 78 #[.val (.int p1), .val (.int p2), .val (.int p3), .val (.int p4), .val (.int p5), .val (.int (1 : Int32)), .val (.int (0 : Int32)), .val (.int ((p1 &&& (65535 : Int32)) + (1 : Int32))), .val (.int ((p2 &&& (65535 : Int32)) + (1 : Int32))), .val (.int ((p1 &&& (65535 : Int32)) + (1 : Int32))), .unset, .unset, .unset, .unset, .unset, .unset, .unset] [(.int (((p2 &&& (65535 : Int32)) + (1 : Int32)) + (2 : Int32)))]) _
      refine own_go (fun t_ k_ => XS.iloadN X0.here hx rfl (hb hby at_78) rfl k_) ?_
      show own_G p.tables e below s₁ (mkF m 79 #[.val (.int p1), .val (.int p2), .val (.int p3), .val (.int p4), .val (.int p5), .val (.int (1 : Int32)), .val (.int (0 : Int32)), .val (.int ((p1 &&& (65535 : Int32)) + (1 : Int32))), .val (.int ((p2 &&& (65535 : Int32)) + (1 : Int32))), .val (.int ((p1 &&& (65535 : Int32)) + (1 : Int32))), .unset, .unset, .unset, .unset, .unset, .unset, .unset] [(.int p3), (.int (((p2 &&& (65535 : Int32)) + (1 : Int32)) + (2 : Int32)))]) _
      refine own_go (fun t_ k_ => XS.sipush X0.here hx rfl (hb hby at_79) k_) ?_
      show own_G p.tables e below s₁ (mkF m 82 #[.val (.int p1), .val (.int p2), .val (.int p3), .val (.int p4), .val (.int p5), .val (.int (1 : Int32)), .val (.int (0 : Int32)), .val (.int ((p1 &&& (65535 : Int32)) + (1 : Int32))), .val (.int ((p2 &&& (65535 : Int32)) + (1 : Int32))), .val (.int ((p1 &&& (65535 : Int32)) + (1 : Int32))), .unset, .unset, .unset, .unset, .unset, .unset, .unset] [(.int (255 : Int32)), (.int p3), (.int (((p2 &&& (65535 : Int32)) + (1 : Int32)) + (2 : Int32)))]) _
      refine own_go (fun t_ k_ => XS.iand X0.here hx rfl (hb hby at_82) rfl k_) ?_
      show own_G p.tables e below s₁ (mkF m 83 #[.val (.int p1), .val (.int p2), .val (.int p3), .val (.int p4), .val (.int p5), .val (.int (1 : Int32)), .val (.int (0 : Int32)), .val (.int ((p1 &&& (65535 : Int32)) + (1 : Int32))), .val (.int ((p2 &&& (65535 : Int32)) + (1 : Int32))), .val (.int ((p1 &&& (65535 : Int32)) + (1 : Int32))), .unset, .unset, .unset, .unset, .unset, .unset, .unset] [(.int (p3 &&& (255 : Int32))), (.int (((p2 &&& (65535 : Int32)) + (1 : Int32)) + (2 : Int32)))]) _
      refine own_go (fun t_ k_ => XS.iadd X0.here hx rfl (hb hby at_83) rfl k_) ?_
      show own_G p.tables e below s₁ (mkF m 84 #[.val (.int p1), .val (.int p2), .val (.int p3), .val (.int p4), .val (.int p5), .val (.int (1 : Int32)), .val (.int (0 : Int32)), .val (.int ((p1 &&& (65535 : Int32)) + (1 : Int32))), .val (.int ((p2 &&& (65535 : Int32)) + (1 : Int32))), .val (.int ((p1 &&& (65535 : Int32)) + (1 : Int32))), .unset, .unset, .unset, .unset, .unset, .unset, .unset] [(.int ((((p2 &&& (65535 : Int32)) + (1 : Int32)) + (2 : Int32)) + (p3 &&& (255 : Int32))))]) _
      refine own_go (fun t_ k_ => XS.istore X0.here hx rfl (hb hby at_84) rfl (l' := #[.val (.int p1), .val (.int p2), .val (.int p3), .val (.int p4), .val (.int p5), .val (.int (1 : Int32)), .val (.int (0 : Int32)), .val (.int ((p1 &&& (65535 : Int32)) + (1 : Int32))), .val (.int ((p2 &&& (65535 : Int32)) + (1 : Int32))), .val (.int ((p1 &&& (65535 : Int32)) + (1 : Int32))), .val (.int ((((p2 &&& (65535 : Int32)) + (1 : Int32)) + (2 : Int32)) + (p3 &&& (255 : Int32)))), .unset, .unset, .unset, .unset, .unset, .unset]) rfl k_) ?_
      show own_G p.tables e below s₁ (mkF m 86 #[.val (.int p1), .val (.int p2), .val (.int p3), .val (.int p4), .val (.int p5), .val (.int (1 : Int32)), .val (.int (0 : Int32)), .val (.int ((p1 &&& (65535 : Int32)) + (1 : Int32))), .val (.int ((p2 &&& (65535 : Int32)) + (1 : Int32))), .val (.int ((p1 &&& (65535 : Int32)) + (1 : Int32))), .val (.int ((((p2 &&& (65535 : Int32)) + (1 : Int32)) + (2 : Int32)) + (p3 &&& (255 : Int32)))), .unset, .unset, .unset, .unset, .unset, .unset] []) _
      exact tail _ _ _ _ _ _ (Or.inr ⟨rfl, own_lt2 _ _⟩)
    · skip
      refine own_go (fun t_ k_ => XS.ifNo X0.here hx rfl (hb hby at_18) rfl ((if0 _ _).trans (feq hc18_155).1) k_) ?_
      show own_G p.tables e below s₁ (mkF m 21 #[.val (.int p1), .val (.int p2), .val (.int p3), .val (.int p4), .val (.int p5), .val (.int (1 : Int32)), .unset, .unset, .unset, .unset, .unset, .unset, .unset, .unset, .unset, .unset, .unset] []) _
      refine own_go (fun t_ k_ => XS.iconst X0.here hx rfl (hb hby at_21) k_) ?_
      show own_G p.tables e below s₁ (mkF m 22 #[.val (.int p1), .val (.int p2), .val (.int p3), .val (.int p4), .val (.int p5), .val (.int (1 : Int32)), .unset, .unset, .unset, .unset, .unset, .unset, .unset, .unset, .unset, .unset, .unset] [(.int (1 : Int32))]) _
      refine own_go (fun t_ k_ => XS.goto X0.here hx rfl (pc0 := 22) (pc' := 26) rfl (hb hby at_22) (by decide) (by decide) k_) ?_
      show own_G p.tables e below s₁ (mkF m 26 #[.val (.int p1), .val (.int p2), .val (.int p3), .val (.int p4), .val (.int p5), .val (.int (1 : Int32)), .unset, .unset, .unset, .unset, .unset, .unset, .unset, .unset, .unset, .unset, .unset] [(.int (1 : Int32))]) _
      refine own_go (fun t_ k_ => XS.istore X0.here hx rfl (hb hby at_26) rfl (l' := #[.val (.int p1), .val (.int p2), .val (.int p3), .val (.int p4), .val (.int p5), .val (.int (1 : Int32)), .val (.int (1 : Int32)), .unset, .unset, .unset, .unset, .unset, .unset, .unset, .unset, .unset, .unset]) rfl k_) ?_
      show own_G p.tables e below s₁ (mkF m 28 #[.val (.int p1), .val (.int p2), .val (.int p3), .val (.int p4), .val (.int p5), .val (.int (1 : Int32)), .val (.int (1 : Int32)), .unset, .unset, .unset, .unset, .unset, .unset, .unset, .unset, .unset, .unset] []) _
      refine own_go (fun t_ k_ => XS.iloadN X0.here hx rfl (hb hby at_28) rfl k_) ?_
      show own_G p.tables e below s₁ (mkF m 29 #[.val (.int p1), .val (.int p2), .val (.int p3), .val (.int p4), .val (.int p5), .val (.int (1 : Int32)), .val (.int (1 : Int32)), .unset, .unset, .unset, .unset, .unset, .unset, .unset, .unset, .unset, .unset] [(.int p1)]) _
      refine own_go (fun t_ k_ => X0.ldcInt hx hown (mvT hZ (hw _ (List.mem_of_getElem? (i := 0) rfl))) (g := (mkF m 29 #[.val (.int p1), .val (.int p2), .val (.int p3), .val (.int p4), .val (.int p5), .val (.int (1 : Int32)), .val (.int (1 : Int32)), .unset, .unset, .unset, .unset, .unset, .unset, .unset, .unset, .unset, .unset] [(.int p1)])) rfl (hb hby at_29) _ k_) ?_
      show own_G p.tables e below s₁ (mkF m 31 #[.val (.int p1), .val (.int p2), .val (.int p3), .val (.int p4), .val (.int p5), .val (.int (1 : Int32)), .val (.int (1 : Int32)), .unset, .unset, .unset, .unset, .unset, .unset, .unset, .unset, .unset, .unset] [(.int (65535 : Int32)), (.int p1)]) _
      refine own_go (fun t_ k_ => XS.iand X0.here hx rfl (hb hby at_31) rfl k_) ?_
      show own_G p.tables e below s₁ (mkF m 32 #[.val (.int p1), .val (.int p2), .val (.int p3), .val (.int p4), .val (.int p5), .val (.int (1 : Int32)), .val (.int (1 : Int32)), .unset, .unset, .unset, .unset, .unset, .unset, .unset, .unset, .unset, .unset] [(.int (p1 &&& (65535 : Int32)))]) _
      refine own_go (fun t_ k_ => XS.iconst X0.here hx rfl (hb hby at_32) k_) ?_
      show own_G p.tables e below s₁ (mkF m 33 #[.val (.int p1), .val (.int p2), .val (.int p3), .val (.int p4), .val (.int p5), .val (.int (1 : Int32)), .val (.int (1 : Int32)), .unset, .unset, .unset, .unset, .unset, .unset, .unset, .unset, .unset, .unset] [(.int (1 : Int32)), (.int (p1 &&& (65535 : Int32)))]) _
      refine own_go (fun t_ k_ => XS.iadd X0.here hx rfl (hb hby at_33) rfl k_) ?_
      show own_G p.tables e below s₁ (mkF m 34 #[.val (.int p1), .val (.int p2), .val (.int p3), .val (.int p4), .val (.int p5), .val (.int (1 : Int32)), .val (.int (1 : Int32)), .unset, .unset, .unset, .unset, .unset, .unset, .unset, .unset, .unset, .unset] [(.int ((p1 &&& (65535 : Int32)) + (1 : Int32)))]) _
      refine own_go (fun t_ k_ => XS.istore X0.here hx rfl (hb hby at_34) rfl (l' := #[.val (.int p1), .val (.int p2), .val (.int p3), .val (.int p4), .val (.int p5), .val (.int (1 : Int32)), .val (.int (1 : Int32)), .val (.int ((p1 &&& (65535 : Int32)) + (1 : Int32))), .unset, .unset, .unset, .unset, .unset, .unset, .unset, .unset, .unset]) rfl k_) ?_
      show own_G p.tables e below s₁ (mkF m 36 #[.val (.int p1), .val (.int p2), .val (.int p3), .val (.int p4), .val (.int p5), .val (.int (1 : Int32)), .val (.int (1 : Int32)), .val (.int ((p1 &&& (65535 : Int32)) + (1 : Int32))), .unset, .unset, .unset, .unset, .unset, .unset, .unset, .unset, .unset] []) _
      refine own_go (fun t_ k_ => XS.iloadN X0.here hx rfl (hb hby at_36) rfl k_) ?_
      show own_G p.tables e below s₁ (mkF m 37 #[.val (.int p1), .val (.int p2), .val (.int p3), .val (.int p4), .val (.int p5), .val (.int (1 : Int32)), .val (.int (1 : Int32)), .val (.int ((p1 &&& (65535 : Int32)) + (1 : Int32))), .unset, .unset, .unset, .unset, .unset, .unset, .unset, .unset, .unset] [(.int p2)]) _
      refine own_go (fun t_ k_ => X0.ldcInt hx hown (mvT hZ (hw _ (List.mem_of_getElem? (i := 0) rfl))) (g := (mkF m 37 #[.val (.int p1), .val (.int p2), .val (.int p3), .val (.int p4), .val (.int p5), .val (.int (1 : Int32)), .val (.int (1 : Int32)), .val (.int ((p1 &&& (65535 : Int32)) + (1 : Int32))), .unset, .unset, .unset, .unset, .unset, .unset, .unset, .unset, .unset] [(.int p2)])) rfl (hb hby at_37) _ k_) ?_
      show own_G p.tables e below s₁ (mkF m 39 #[.val (.int p1), .val (.int p2), .val (.int p3), .val (.int p4), .val (.int p5), .val (.int (1 : Int32)), .val (.int (1 : Int32)), .val (.int ((p1 &&& (65535 : Int32)) + (1 : Int32))), .unset, .unset, .unset, .unset, .unset, .unset, .unset, .unset, .unset] [(.int (65535 : Int32)), (.int p2)]) _
      refine own_go (fun t_ k_ => XS.iand X0.here hx rfl (hb hby at_39) rfl k_) ?_
      show own_G p.tables e below s₁ (mkF m 40 #[.val (.int p1), .val (.int p2), .val (.int p3), .val (.int p4), .val (.int p5), .val (.int (1 : Int32)), .val (.int (1 : Int32)), .val (.int ((p1 &&& (65535 : Int32)) + (1 : Int32))), .unset, .unset, .unset, .unset, .unset, .unset, .unset, .unset, .unset] [(.int (p2 &&& (65535 : Int32)))]) _
      refine own_go (fun t_ k_ => XS.iconst X0.here hx rfl (hb hby at_40) k_) ?_
      show own_G p.tables e below s₁ (mkF m 41 #[.val (.int p1), .val (.int p2), .val (.int p3), .val (.int p4), .val (.int p5), .val (.int (1 : Int32)), .val (.int (1 : Int32)), .val (.int ((p1 &&& (65535 : Int32)) + (1 : Int32))), .unset, .unset, .unset, .unset, .unset, .unset, .unset, .unset, .unset] [(.int (1 : Int32)), (.int (p2 &&& (65535 : Int32)))]) _
      refine own_go (fun t_ k_ => XS.iadd X0.here hx rfl (hb hby at_41) rfl k_) ?_
      show own_G p.tables e below s₁ (mkF m 42 #[.val (.int p1), .val (.int p2), .val (.int p3), .val (.int p4), .val (.int p5), .val (.int (1 : Int32)), .val (.int (1 : Int32)), .val (.int ((p1 &&& (65535 : Int32)) + (1 : Int32))), .unset, .unset, .unset, .unset, .unset, .unset, .unset, .unset, .unset] [(.int ((p2 &&& (65535 : Int32)) + (1 : Int32)))]) _
      refine own_go (fun t_ k_ => XS.istore X0.here hx rfl (hb hby at_42) rfl (l' := #[.val (.int p1), .val (.int p2), .val (.int p3), .val (.int p4), .val (.int p5), .val (.int (1 : Int32)), .val (.int (1 : Int32)), .val (.int ((p1 &&& (65535 : Int32)) + (1 : Int32))), .val (.int ((p2 &&& (65535 : Int32)) + (1 : Int32))), .unset, .unset, .unset, .unset, .unset, .unset, .unset, .unset]) rfl k_) ?_
      show own_G p.tables e below s₁ (mkF m 44 #[.val (.int p1), .val (.int p2), .val (.int p3), .val (.int p4), .val (.int p5), .val (.int (1 : Int32)), .val (.int (1 : Int32)), .val (.int ((p1 &&& (65535 : Int32)) + (1 : Int32))), .val (.int ((p2 &&& (65535 : Int32)) + (1 : Int32))), .unset, .unset, .unset, .unset, .unset, .unset, .unset, .unset] []) _
      refine own_go (fun t_ k_ => XS.iload X0.here hx rfl (hb hby at_44) rfl k_) ?_
      show own_G p.tables e below s₁ (mkF m 46 #[.val (.int p1), .val (.int p2), .val (.int p3), .val (.int p4), .val (.int p5), .val (.int (1 : Int32)), .val (.int (1 : Int32)), .val (.int ((p1 &&& (65535 : Int32)) + (1 : Int32))), .val (.int ((p2 &&& (65535 : Int32)) + (1 : Int32))), .unset, .unset, .unset, .unset, .unset, .unset, .unset, .unset] [(.int (1 : Int32))]) _
      refine own_go (fun t_ k_ => XS.ifNo X0.here hx rfl (hb hby at_46) rfl ((if0 _ _).trans (feq (by decide : ¬ ((1 : Int32) = (0 : Int32)))).1) k_) ?_
      show own_G p.tables e below s₁ (mkF m 49 #[.val (.int p1), .val (.int p2), .val (.int p3), .val (.int p4), .val (.int p5), .val (.int (1 : Int32)), .val (.int (1 : Int32)), .val (.int ((p1 &&& (65535 : Int32)) + (1 : Int32))), .val (.int ((p2 &&& (65535 : Int32)) + (1 : Int32))), .unset, .unset, .unset, .unset, .unset, .unset, .unset, .unset] []) _
      refine own_go (fun t_ k_ => XS.iload X0.here hx rfl (hb hby at_49) rfl k_) ?_
      show own_G p.tables e below s₁ (mkF m 51 #[.val (.int p1), .val (.int p2), .val (.int p3), .val (.int p4), .val (.int p5), .val (.int (1 : Int32)), .val (.int (1 : Int32)), .val (.int ((p1 &&& (65535 : Int32)) + (1 : Int32))), .val (.int ((p2 &&& (65535 : Int32)) + (1 : Int32))), .unset, .unset, .unset, .unset, .unset, .unset, .unset, .unset] [(.int ((p1 &&& (65535 : Int32)) + (1 : Int32)))]) _
      refine own_go (fun t_ k_ => XS.iconst X0.here hx rfl (hb hby at_51) k_) ?_
      show own_G p.tables e below s₁ (mkF m 52 #[.val (.int p1), .val (.int p2), .val (.int p3), .val (.int p4), .val (.int p5), .val (.int (1 : Int32)), .val (.int (1 : Int32)), .val (.int ((p1 &&& (65535 : Int32)) + (1 : Int32))), .val (.int ((p2 &&& (65535 : Int32)) + (1 : Int32))), .unset, .unset, .unset, .unset, .unset, .unset, .unset, .unset] [(.int (1 : Int32)), (.int ((p1 &&& (65535 : Int32)) + (1 : Int32)))]) _
      refine own_go (fun t_ k_ => XS.iadd X0.here hx rfl (hb hby at_52) rfl k_) ?_
      show own_G p.tables e below s₁ (mkF m 53 #[.val (.int p1), .val (.int p2), .val (.int p3), .val (.int p4), .val (.int p5), .val (.int (1 : Int32)), .val (.int (1 : Int32)), .val (.int ((p1 &&& (65535 : Int32)) + (1 : Int32))), .val (.int ((p2 &&& (65535 : Int32)) + (1 : Int32))), .unset, .unset, .unset, .unset, .unset, .unset, .unset, .unset] [(.int (((p1 &&& (65535 : Int32)) + (1 : Int32)) + (1 : Int32)))]) _
      refine own_go (fun t_ k_ => XS.goto X0.here hx rfl (pc0 := 53) (pc' := 58) rfl (hb hby at_53) (by decide) (by decide) k_) ?_
      show own_G p.tables e below s₁ (mkF m 58 #[.val (.int p1), .val (.int p2), .val (.int p3), .val (.int p4), .val (.int p5), .val (.int (1 : Int32)), .val (.int (1 : Int32)), .val (.int ((p1 &&& (65535 : Int32)) + (1 : Int32))), .val (.int ((p2 &&& (65535 : Int32)) + (1 : Int32))), .unset, .unset, .unset, .unset, .unset, .unset, .unset, .unset] [(.int (((p1 &&& (65535 : Int32)) + (1 : Int32)) + (1 : Int32)))]) _
      refine own_go (fun t_ k_ => XS.istore X0.here hx rfl (hb hby at_58) rfl (l' := #[.val (.int p1), .val (.int p2), .val (.int p3), .val (.int p4), .val (.int p5), .val (.int (1 : Int32)), .val (.int (1 : Int32)), .val (.int ((p1 &&& (65535 : Int32)) + (1 : Int32))), .val (.int ((p2 &&& (65535 : Int32)) + (1 : Int32))), .val (.int (((p1 &&& (65535 : Int32)) + (1 : Int32)) + (1 : Int32))), .unset, .unset, .unset, .unset, .unset, .unset, .unset]) rfl k_) ?_
      show own_G p.tables e below s₁ (mkF m 60 #[.val (.int p1), .val (.int p2), .val (.int p3), .val (.int p4), .val (.int p5), .val (.int (1 : Int32)), .val (.int (1 : Int32)), .val (.int ((p1 &&& (65535 : Int32)) + (1 : Int32))), .val (.int ((p2 &&& (65535 : Int32)) + (1 : Int32))), .val (.int (((p1 &&& (65535 : Int32)) + (1 : Int32)) + (1 : Int32))), .unset, .unset, .unset, .unset, .unset, .unset, .unset] []) _
      refine own_go (fun t_ k_ => XS.iload X0.here hx rfl (hb hby at_60) rfl k_) ?_
      show own_G p.tables e below s₁ (mkF m 62 #[.val (.int p1), .val (.int p2), .val (.int p3), .val (.int p4), .val (.int p5), .val (.int (1 : Int32)), .val (.int (1 : Int32)), .val (.int ((p1 &&& (65535 : Int32)) + (1 : Int32))), .val (.int ((p2 &&& (65535 : Int32)) + (1 : Int32))), .val (.int (((p1 &&& (65535 : Int32)) + (1 : Int32)) + (1 : Int32))), .unset, .unset, .unset, .unset, .unset, .unset, .unset] [(.int (1 : Int32))]) _
      refine own_go (fun t_ k_ => XS.ifNo X0.here hx rfl (hb hby at_62) rfl ((if0 _ _).trans (feq (by decide : ¬ ((1 : Int32) = (0 : Int32)))).1) k_) ?_
      show own_G p.tables e below s₁ (mkF m 65 #[.val (.int p1), .val (.int p2), .val (.int p3), .val (.int p4), .val (.int p5), .val (.int (1 : Int32)), .val (.int (1 : Int32)), .val (.int ((p1 &&& (65535 : Int32)) + (1 : Int32))), .val (.int ((p2 &&& (65535 : Int32)) + (1 : Int32))), .val (.int (((p1 &&& (65535 : Int32)) + (1 : Int32)) + (1 : Int32))), .unset, .unset, .unset, .unset, .unset, .unset, .unset] []) _
      refine own_go (fun t_ k_ => XS.iloadN X0.here hx rfl (hb hby at_65) rfl k_) ?_
      show own_G p.tables e below s₁ (mkF m 66 #[.val (.int p1), .val (.int p2), .val (.int p3), .val (.int p4), .val (.int p5), .val (.int (1 : Int32)), .val (.int (1 : Int32)), .val (.int ((p1 &&& (65535 : Int32)) + (1 : Int32))), .val (.int ((p2 &&& (65535 : Int32)) + (1 : Int32))), .val (.int (((p1 &&& (65535 : Int32)) + (1 : Int32)) + (1 : Int32))), .unset, .unset, .unset, .unset, .unset, .unset, .unset] [(.int p4)]) _
      refine own_go (fun t_ k_ => X0.ldcInt hx hown (mvT hZ (hw _ (List.mem_of_getElem? (i := 0) rfl))) (g := (mkF m 66 #[.val (.int p1), .val (.int p2), .val (.int p3), .val (.int p4), .val (.int p5), .val (.int (1 : Int32)), .val (.int (1 : Int32)), .val (.int ((p1 &&& (65535 : Int32)) + (1 : Int32))), .val (.int ((p2 &&& (65535 : Int32)) + (1 : Int32))), .val (.int (((p1 &&& (65535 : Int32)) + (1 : Int32)) + (1 : Int32))), .unset, .unset, .unset, .unset, .unset, .unset, .unset] [(.int p4)])) rfl (hb hby at_66) _ k_) ?_
      show own_G p.tables e below s₁ (mkF m 68 #[.val (.int p1), .val (.int p2), .val (.int p3), .val (.int p4), .val (.int p5), .val (.int (1 : Int32)), .val (.int (1 : Int32)), .val (.int ((p1 &&& (65535 : Int32)) + (1 : Int32))), .val (.int ((p2 &&& (65535 : Int32)) + (1 : Int32))), .val (.int (((p1 &&& (65535 : Int32)) + (1 : Int32)) + (1 : Int32))), .unset, .unset, .unset, .unset, .unset, .unset, .unset] [(.int (65535 : Int32)), (.int p4)]) _
      refine own_go (fun t_ k_ => XS.iand X0.here hx rfl (hb hby at_68) rfl k_) ?_
      show own_G p.tables e below s₁ (mkF m 69 #[.val (.int p1), .val (.int p2), .val (.int p3), .val (.int p4), .val (.int p5), .val (.int (1 : Int32)), .val (.int (1 : Int32)), .val (.int ((p1 &&& (65535 : Int32)) + (1 : Int32))), .val (.int ((p2 &&& (65535 : Int32)) + (1 : Int32))), .val (.int (((p1 &&& (65535 : Int32)) + (1 : Int32)) + (1 : Int32))), .unset, .unset, .unset, .unset, .unset, .unset, .unset] [(.int (p4 &&& (65535 : Int32)))]) _
      refine own_go (fun t_ k_ => XS.iconst X0.here hx rfl (hb hby at_69) k_) ?_
      show own_G p.tables e below s₁ (mkF m 70 #[.val (.int p1), .val (.int p2), .val (.int p3), .val (.int p4), .val (.int p5), .val (.int (1 : Int32)), .val (.int (1 : Int32)), .val (.int ((p1 &&& (65535 : Int32)) + (1 : Int32))), .val (.int ((p2 &&& (65535 : Int32)) + (1 : Int32))), .val (.int (((p1 &&& (65535 : Int32)) + (1 : Int32)) + (1 : Int32))), .unset, .unset, .unset, .unset, .unset, .unset, .unset] [(.int (1 : Int32)), (.int (p4 &&& (65535 : Int32)))]) _
      refine own_go (fun t_ k_ => XS.iadd X0.here hx rfl (hb hby at_70) rfl k_) ?_
      show own_G p.tables e below s₁ (mkF m 71 #[.val (.int p1), .val (.int p2), .val (.int p3), .val (.int p4), .val (.int p5), .val (.int (1 : Int32)), .val (.int (1 : Int32)), .val (.int ((p1 &&& (65535 : Int32)) + (1 : Int32))), .val (.int ((p2 &&& (65535 : Int32)) + (1 : Int32))), .val (.int (((p1 &&& (65535 : Int32)) + (1 : Int32)) + (1 : Int32))), .unset, .unset, .unset, .unset, .unset, .unset, .unset] [(.int ((p4 &&& (65535 : Int32)) + (1 : Int32)))]) _
      refine own_go (fun t_ k_ => XS.goto X0.here hx rfl (pc0 := 71) (pc' := 84) rfl (hb hby at_71) (by decide) (by decide) k_) ?_
      show own_G p.tables e below s₁ (mkF m 84 #[.val (.int p1), .val (.int p2), .val (.int p3), .val (.int p4), .val (.int p5), .val (.int (1 : Int32)), .val (.int (1 : Int32)), .val (.int ((p1 &&& (65535 : Int32)) + (1 : Int32))), .val (.int ((p2 &&& (65535 : Int32)) + (1 : Int32))), .val (.int (((p1 &&& (65535 : Int32)) + (1 : Int32)) + (1 : Int32))), .unset, .unset, .unset, .unset, .unset, .unset, .unset] [(.int ((p4 &&& (65535 : Int32)) + (1 : Int32)))]) _
      refine own_go (fun t_ k_ => XS.istore X0.here hx rfl (hb hby at_84) rfl (l' := #[.val (.int p1), .val (.int p2), .val (.int p3), .val (.int p4), .val (.int p5), .val (.int (1 : Int32)), .val (.int (1 : Int32)), .val (.int ((p1 &&& (65535 : Int32)) + (1 : Int32))), .val (.int ((p2 &&& (65535 : Int32)) + (1 : Int32))), .val (.int (((p1 &&& (65535 : Int32)) + (1 : Int32)) + (1 : Int32))), .val (.int ((p4 &&& (65535 : Int32)) + (1 : Int32))), .unset, .unset, .unset, .unset, .unset, .unset]) rfl k_) ?_
      show own_G p.tables e below s₁ (mkF m 86 #[.val (.int p1), .val (.int p2), .val (.int p3), .val (.int p4), .val (.int p5), .val (.int (1 : Int32)), .val (.int (1 : Int32)), .val (.int ((p1 &&& (65535 : Int32)) + (1 : Int32))), .val (.int ((p2 &&& (65535 : Int32)) + (1 : Int32))), .val (.int (((p1 &&& (65535 : Int32)) + (1 : Int32)) + (1 : Int32))), .val (.int ((p4 &&& (65535 : Int32)) + (1 : Int32))), .unset, .unset, .unset, .unset, .unset, .unset] []) _
      exact tail _ _ _ _ _ _ (Or.inl (own_lt1 _))
set_option maxRecDepth 65536 in
set_option maxHeartbeats 40000000 in
theorem comes_1 {Post : Tables → Env → Array Value → State → Outcome → State → Prop} (hpost : ∀ tb e args s v u, (limb_1_1.after args s (.returned v) u = true ∧ limb_1_2.after args s (.returned v) u = true ∧ True) → FrameEnd s (.returned v) u (Jvm.fieldLocs frame_1_writes args s ++ Jvm.arrayLocs frame_1_arrays args s ++ Jvm.staticLocs frame_1_statics s) 32 128 → Post tb e args s (.returned v) u) :
    ArmFor flags0 classFile x code maxLocals ret World_1 tables_1 room_1 Calls_1 rest_1 Pre_1 Post := by
  intro l hfl _ _ p e ha hc hk s m args below hf hA hF happ hP
  obtain ⟨hcalls, hrest, hpre⟩ := hP
  obtain ⟨-, -, -, hnamed, -, -, -, hat⟩ := (Spec.applies_iff hf).mp happ
  obtain ⟨hg, hn⟩ := and_e (Cond.before_iff.mp (show (Jvm.Cond.and given_1 narrow_1).before args s = true from hpre))
  obtain ⟨g0, gr0⟩ := and_e hg
  obtain ⟨g1, gr1⟩ := and_e gr0
  obtain ⟨g2, gr2⟩ := and_e gr1
  obtain ⟨g3, gr3⟩ := and_e gr2
  obtain ⟨g4, gr4⟩ := and_e gr3
  obtain ⟨w0, w1, w2, w3, w4, rfl⟩ : ∃ w0 w1 w2 w3 w4 : Value, args = #[w0, w1, w2, w3, w4] := by
    have hs : args.size = 5 := by simpa [Cond.value, given_1] using g0
    obtain ⟨L⟩ := args
    match L, hs with
    | [w0, w1, w2, w3, w4], _ => exact ⟨w0, w1, w2, w3, w4, rfl⟩
  have hw := fun d (hd : d ∈ tables_1) => atoms_spec (ws := Jvm.Cond.code x code maxLocals ret :: tables_1) hat d (List.mem_cons_of_mem _ hd)
  have hfit : Fit s := fun {y c} hc i hi => by
    obtain ⟨ha, rfl⟩ := Array.getElem?_eq_some_iff.mp hc
    have q := List.all_eq_true.mp ((Array.all_eq_true_iff_forall_mem.mp hF) _ (Array.getElem_mem ha)) i (List.mem_range.mpr hi)
    simpa [Array.getElem?_eq_getElem hi] using q
  obtain ⟨hsets, hown0⟩ := atoms_of _ (rest_1_c_eq ▸ (show rest_1_c.before _ s = true from hrest))
  have hr0 := Cond.before_iff.mp hown0
  obtain ⟨i0, ei0⟩ := is_v g1
  obtain rfl : w0 = (.int i0) := Option.some.inj ei0
  obtain ⟨i1, ei1⟩ := is_v g2
  obtain rfl : w1 = (.int i1) := Option.some.inj ei1
  obtain ⟨i2, ei2⟩ := is_v g3
  obtain rfl : w2 = (.int i2) := Option.some.inj ei2
  obtain ⟨i3, ei3⟩ := is_v g4
  obtain rfl : w3 = (.int i3) := Option.some.inj ei3
  obtain ⟨i4, ei4⟩ := is_v gr4
  obtain rfl : w4 = (.int i4) := Option.some.inj ei4
  obtain ⟨cs, ec⟩ := is_v (Cond.before_iff.mp (hsets _ (List.mem_of_getElem? (i := 1) rfl)))
  have S_C := Sta.start ec (Or.inl (hsets _ (List.mem_of_getElem? (i := 0) rfl)))
  have hcs : ¬ cs = 0 := fun q => by
    have z := not_v (Cond.before_iff.mp (hsets _ (List.mem_of_getElem? (i := 2) rfl)))
    rw [eq_i ec (Term.int_eval (0)) (congrArg Value.int q)] at z; cases z
  obtain ⟨wK, vK⟩ := exa_v hn
  have S_K := Sta.start vK (Or.inr ⟨(hw _ (List.mem_of_getElem? (i := 6) rfl)), (hw _ (List.mem_of_getElem? (i := 7) rfl))⟩)
  obtain ⟨n, o, h1, h2, h3, _, L, rfl, ⟨rfl, N⟩, hq⟩ := rm0 l s _ hw tables_1 i0 i1 i2 i3 i4 cs wK s.heap s.heap.size (Nat.le_refl _) S_C hcs S_K p e ha hc hk s m _ below hf ((Spec.applies_iff_loose hf).mp happ).1 ⟨rfl, State.Warmed39.refl s, rfl⟩ trivial
  refine ⟨n, _, h1, h2, h3, hpost _ _ _ _ _ _ ⟨Cond.after_iff.mpr rfl, Cond.after_iff.mpr (eq_i res_at (Term.int_eval (1)) rfl), trivial⟩ ⟨hq.1, hq.2.1, (hq.2.2.sift fun y hy => Or.inr (N y hy)).mono (by decide) (by decide)⟩⟩
theorem main_1_1 : Claimed_1_1 := comes_1 fun _ _ _ _ _ _ h hF => ⟨h.1, hF⟩
theorem main_1_2 : Claimed_1_2 := comes_1 fun _ _ _ _ _ _ h hF => ⟨h.2.1, hF⟩
end Jvm.Pilot.@@N@@
namespace Jvm.Pilot.@@N@@
open Jvm Jvm.ClassFile Sem Op Lib Jvm.Free Jvm.Stand Jvm.Pilot.@@N@@.Jvm.D
/-! MADE BY PROGRAM (witnessworld.py) out of the Statement's table words and the real class files: 26 classes; the members and pool entries that the words name. The judged class is class 1, her method 2. -/
namespace start1
open Jvm.ClassFile
def u (s : String) : CpInfo := .utf8 (stringToUtf16 s)
/-- a pool by its gaps: so many unusable entries, then the entry; so many at the end -/
def gap : Nat → List CpInfo → List CpInfo
  | 0, r => r
  | n + 1, r => .unusable :: gap n r
def poolList (es : List (Nat × CpInfo)) (last : Nat) : List CpInfo := es.foldr (fun e r => gap e.1 (e.2 :: r)) (gap last [])
def pool (es : List (Nat × CpInfo)) (last : Nat) : Array CpInfo := ⟨poolList es last⟩
def fileOf (pool : Array CpInfo) (this : Nat) (attrs : Array Attribute := #[]) (ms : Array MethodInfo := #[]) (fl : Nat := 33) (sup : Nat := 0) (ifs : Array Nat := #[]) (fds : Array FieldInfo := #[]) : ClassFile where
  minorVersion := 0
  majorVersion := 65
  constantPool := pool
  accessFlags := fl
  thisClass := this
  superClass := sup
  interfaces := ifs
  fields := fds
  methods := ms
  attributes := attrs
def plain (name : String) (sup : Option ClassId) : Class where
  name := name
  kind := .ordinary
  loader := none
  accessFlags := 33
  super := sup
  interfaces := #[]
  cf := none
  fields := #[]
  methods := #[]
  instanceTypes := #[]
  staticTypes := #[]
  resolved := #[]
  callSites := []
  init := .initialized
  statics := none
  mirror := none

def pool0 : Array CpInfo := pool [(5, u "<init>"), (0, u "()V"), (1, .class_ 10), (1, u "java/lang/Object")] 113

def k0c0 : Code := { maxStack := 0, maxLocals := 1, code := object_method_1_code, exceptionTable := #[], attributes := #[] }
def k0m0 : Method := { name := "<init>", desc := "()V", sig := { parameters := [], returnType := none }, accessFlags := 1, code := some k0c0 }
/-- java/lang/Object -/
def k0 : Class := { plain "java/lang/Object" none with
  accessFlags := 33
  interfaces := #[]
  cf := some (fileOf pool0 8 #[] #[{ accessFlags := 1, nameIndex := 5, descriptorIndex := 6, attributes := #[] }] 33 0 #[] #[])
  fields := #[]
  methods := #[k0m0]
  instanceTypes := #[]
  staticTypes := #[]
  resolved := Array.replicate 124 none
  statics := none }

def pool1 : Array CpInfo := pool [(2, .class_ 4), (1, u "java/lang/Object"), (0, u "<init>"), (0, u "()V"), (0, .methodref 8 9), (0, .class_ 10), (0, .nameAndType 11 12), (0, u "com/example/replan/replan/model/Token"), (0, u "line"), (0, u "()I"), (0, .methodref 8 14), (0, .nameAndType 15 12), (0, u "column"), (0, .integer 65535), (0, .fieldref 18 19), (0, .class_ 20), (0, .nameAndType 21 22), (0, u "com/example/replan/replan/model/Token$Kind"), (0, u "WORD"), (0, u "Lcom/example/replan/replan/model/Token$Kind;"), (0, .class_ 24), (0, u "java/lang/String"), (0, .methodref 23 26), (0, .nameAndType 5 27), (0, u "([C)V"), (0, .methodref 8 29), (0, .nameAndType 5 30), (0, u "(Lcom/example/replan/replan/model/Token$Kind;Ljava/lang/String;II)V"), (0, .class_ 32), (0, u "com/example/replan/replan/model/SelectStatement$ColumnName"), (0, .methodref 31 34), (0, .nameAndType 5 35), (0, u "(Lcom/example/replan/replan/model/Token;Lcom/example/replan/replan/model/Token;)V"), (0, .methodref 31 37), (0, .nameAndType 38 39), (0, u "start"), (0, u "()Lcom/example/replan/replan/model/Token;"), (0, .methodref 41 42), (0, .class_ 43), (0, .nameAndType 44 45), (0, u "com/example/replan/replan/model/ColumnNameStartPinLaw"), (0, u "before"), (0, u "(Lcom/example/replan/replan/model/Token;Lcom/example/replan/replan/model/Token;)Z"), (3, u "law"), (0, u "(IIIII)Z")] 9

def k1m0 : Method := { name := "<init>", desc := "()V", sig := { parameters := [], returnType := none }, accessFlags := 1, code := none }
def k1c1 : Code := { maxStack := 2, maxLocals := 2, code := method_2_code, exceptionTable := #[], attributes := #[] }
def k1m1 : Method := { name := "before", desc := "(Lcom/example/replan/replan/model/Token;Lcom/example/replan/replan/model/Token;)Z", sig := { parameters := [(.object "com/example/replan/replan/model/Token"), (.object "com/example/replan/replan/model/Token")], returnType := some .boolean }, accessFlags := 10, code := some k1c1 }
def k1c2 : Code := { maxStack := 6, maxLocals := 17, code := code, exceptionTable := #[], attributes := #[] }
def k1m2 : Method := { name := "law", desc := "(IIIII)Z", sig := { parameters := [.int, .int, .int, .int, .int], returnType := some .boolean }, accessFlags := 9, code := some k1c2 }
/-- com/example/replan/replan/model/ColumnNameStartPinLaw -/
def k1 : Class := { plain "com/example/replan/replan/model/ColumnNameStartPinLaw" (some 0) with
  accessFlags := 49
  interfaces := #[]
  cf := some (fileOf pool1 41 #[] #[{ accessFlags := 1, nameIndex := 5, descriptorIndex := 6, attributes := #[] }, { accessFlags := 10, nameIndex := 44, descriptorIndex := 45, attributes := #[] }, { accessFlags := 9, nameIndex := 49, descriptorIndex := 50, attributes := #[] }] 49 2 #[] #[])
  fields := #[]
  methods := #[k1m0, k1m1, k1m2]
  instanceTypes := #[]
  staticTypes := #[]
  resolved := Array.replicate 60 none
  statics := none }

def pool2 : Array CpInfo := pool [(1, .methodref 2 3), (0, .class_ 4), (0, .nameAndType 5 6), (0, u "java/lang/Object"), (0, u "<init>"), (0, u "()V"), (0, .class_ 8), (0, u "java/lang/Record")] 13

def k2c0 : Code := { maxStack := 1, maxLocals := 1, code := jdk_30_method_1_code, exceptionTable := #[], attributes := #[] }
def k2m0 : Method := { name := "<init>", desc := "()V", sig := { parameters := [], returnType := none }, accessFlags := 4, code := some k2c0 }
/-- java/lang/Record -/
def k2 : Class := { plain "java/lang/Record" (some 0) with
  accessFlags := 1057
  interfaces := #[]
  cf := some (fileOf pool2 7 #[] #[{ accessFlags := 4, nameIndex := 5, descriptorIndex := 6, attributes := #[] }] 1057 2 #[] #[])
  fields := #[]
  methods := #[k2m0]
  instanceTypes := #[]
  staticTypes := #[]
  resolved := Array.replicate 22 none
  statics := none }

def pool3 : Array CpInfo := pool [(1, .methodref 2 3), (0, .class_ 4), (0, .nameAndType 5 6), (0, u "java/lang/Record"), (0, u "<init>"), (0, u "()V"), (0, .fieldref 8 9), (0, .class_ 10), (0, .nameAndType 11 12), (0, u "com/example/replan/replan/model/Token"), (0, u "kind"), (0, u "Lcom/example/replan/replan/model/Token$Kind;"), (0, .fieldref 8 14), (0, .nameAndType 15 16), (0, u "text"), (0, u "Ljava/lang/String;"), (0, .fieldref 8 18), (0, .nameAndType 19 20), (0, u "line"), (0, u "I"), (0, .fieldref 8 22), (0, .nameAndType 23 20), (0, u "column"), (1, .class_ 27), (1, u "com/example/replan/replan/model/Token$Kind"), (13, u "()I"), (28, u "END_OF_QUERY"), (1, u "(Lcom/example/replan/replan/model/Token$Kind;Ljava/lang/String;II)V")] 43

def k3c0 : Code := { maxStack := 2, maxLocals := 5, code := prog_48_method_1_code, exceptionTable := #[], attributes := #[] }
def k3m0 : Method := { name := "<init>", desc := "(Lcom/example/replan/replan/model/Token$Kind;Ljava/lang/String;II)V", sig := { parameters := [(.object "com/example/replan/replan/model/Token$Kind"), (.object "java/lang/String"), .int, .int], returnType := none }, accessFlags := 0, code := some k3c0 }
def k3c1 : Code := { maxStack := 1, maxLocals := 1, code := prog_48_method_11_code, exceptionTable := #[], attributes := #[] }
def k3m1 : Method := { name := "line", desc := "()I", sig := { parameters := [], returnType := some .int }, accessFlags := 1, code := some k3c1 }
def k3c2 : Code := { maxStack := 1, maxLocals := 1, code := prog_48_method_12_code, exceptionTable := #[], attributes := #[] }
def k3m2 : Method := { name := "column", desc := "()I", sig := { parameters := [], returnType := some .int }, accessFlags := 1, code := some k3c2 }
/-- com/example/replan/replan/model/Token -/
def k3 : Class := { plain "com/example/replan/replan/model/Token" (some 2) with
  accessFlags := 48
  interfaces := #[]
  cf := some (fileOf pool3 8 #[.nestMembers #[25]] #[{ accessFlags := 0, nameIndex := 5, descriptorIndex := 72, attributes := #[] }, { accessFlags := 1, nameIndex := 19, descriptorIndex := 41, attributes := #[] }, { accessFlags := 1, nameIndex := 23, descriptorIndex := 41, attributes := #[] }] 48 2 #[] #[{ accessFlags := 18, nameIndex := 11, descriptorIndex := 12, attributes := #[] }, { accessFlags := 18, nameIndex := 15, descriptorIndex := 16, attributes := #[] }, { accessFlags := 18, nameIndex := 19, descriptorIndex := 20, attributes := #[] }, { accessFlags := 18, nameIndex := 23, descriptorIndex := 20, attributes := #[] }, { accessFlags := 24, nameIndex := 70, descriptorIndex := 16, attributes := #[] }])
  fields := #[{ name := "kind", type := (.object "com/example/replan/replan/model/Token$Kind"), accessFlags := 18, slot := 0, constantValue := 0 }, { name := "text", type := (.object "java/lang/String"), accessFlags := 18, slot := 1, constantValue := 0 }, { name := "line", type := .int, accessFlags := 18, slot := 2, constantValue := 0 }, { name := "column", type := .int, accessFlags := 18, slot := 3, constantValue := 0 }, { name := "END_OF_QUERY", type := (.object "java/lang/String"), accessFlags := 24, slot := 0, constantValue := 0 }]
  methods := #[k3m0, k3m1, k3m2]
  instanceTypes := #[(.object "com/example/replan/replan/model/Token$Kind"), (.object "java/lang/String"), .int, .int]
  staticTypes := #[(.object "java/lang/String")]
  resolved := Array.replicate 116 none
  statics := none }

def pool4 : Array CpInfo := pool [(1, .class_ 2), (0, u "java/lang/constant/Constable"), (0, .class_ 4), (0, u "java/lang/Object")] 6

/-- java/lang/constant/Constable -/
def k4 : Class := { plain "java/lang/constant/Constable" (some 0) with
  accessFlags := 1537
  interfaces := #[]
  cf := some (fileOf pool4 1 #[] #[] 1537 3 #[] #[])
  fields := #[]
  methods := #[]
  instanceTypes := #[]
  staticTypes := #[]
  resolved := Array.replicate 11 none
  statics := none }

def pool5 : Array CpInfo := pool [(1, .class_ 2), (0, u "java/lang/Comparable"), (0, .class_ 4), (0, u "java/lang/Object")] 7

/-- java/lang/Comparable -/
def k5 : Class := { plain "java/lang/Comparable" (some 0) with
  accessFlags := 1537
  interfaces := #[]
  cf := some (fileOf pool5 1 #[] #[] 1537 3 #[] #[])
  fields := #[]
  methods := #[]
  instanceTypes := #[]
  staticTypes := #[]
  resolved := Array.replicate 12 none
  statics := none }

def pool6 : Array CpInfo := pool [(1, .class_ 2), (0, u "java/io/Serializable"), (0, .class_ 4), (0, u "java/lang/Object")] 2

/-- java/io/Serializable -/
def k6 : Class := { plain "java/io/Serializable" (some 0) with
  accessFlags := 1537
  interfaces := #[]
  cf := some (fileOf pool6 1 #[] #[] 1537 3 #[] #[])
  fields := #[]
  methods := #[]
  instanceTypes := #[]
  staticTypes := #[]
  resolved := Array.replicate 7 none
  statics := none }

def pool7 : Array CpInfo := pool [(2, .class_ 4), (1, u "java/lang/Enum"), (0, u "name"), (0, u "Ljava/lang/String;"), (2, u "ordinal"), (0, u "I"), (1, .class_ 14), (1, u "java/lang/Object"), (4, u "hash"), (86, .class_ 108), (1, u "java/lang/Enum$EnumDesc"), (2, .class_ 112), (0, u "java/lang/constant/Constable"), (0, .class_ 114), (0, u "java/lang/Comparable"), (0, .class_ 116), (0, u "java/io/Serializable")] 87

/-- java/lang/Enum -/
def k7 : Class := { plain "java/lang/Enum" (some 0) with
  accessFlags := 1057
  interfaces := #[4, 5, 6]
  cf := some (fileOf pool7 2 #[.nestMembers #[106]] #[] 1057 12 #[111, 113, 115] #[{ accessFlags := 18, nameIndex := 5, descriptorIndex := 6, attributes := #[] }, { accessFlags := 18, nameIndex := 9, descriptorIndex := 10, attributes := #[] }, { accessFlags := 2, nameIndex := 19, descriptorIndex := 10, attributes := #[] }])
  fields := #[{ name := "name", type := (.object "java/lang/String"), accessFlags := 18, slot := 0, constantValue := 0 }, { name := "ordinal", type := .int, accessFlags := 18, slot := 1, constantValue := 0 }, { name := "hash", type := .int, accessFlags := 2, slot := 2, constantValue := 0 }]
  methods := #[]
  instanceTypes := #[(.object "java/lang/String"), .int, .int]
  staticTypes := #[]
  resolved := Array.replicate 204 none
  statics := none }

def pool8 : Array CpInfo := pool [(1, .class_ 2), (0, u "com/example/replan/replan/model/Token$Kind"), (2, u "WORD"), (0, u "Lcom/example/replan/replan/model/Token$Kind;"), (2, u "NUMBER"), (2, u "STRING"), (2, u "SYMBOL"), (2, u "END"), (2, u "$VALUES"), (0, u "[Lcom/example/replan/replan/model/Token$Kind;"), (6, .class_ 31), (1, u "java/lang/Enum"), (28, .class_ 61), (0, u "com/example/replan/replan/model/Token")] 2

/-- com/example/replan/replan/model/Token$Kind -/
def k8 : Class := { plain "com/example/replan/replan/model/Token$Kind" (some 7) with
  accessFlags := 16432
  interfaces := #[]
  cf := some (fileOf pool8 1 #[.nestHost 60] #[] 16432 29 #[] #[{ accessFlags := 16409, nameIndex := 5, descriptorIndex := 6, attributes := #[] }, { accessFlags := 16409, nameIndex := 9, descriptorIndex := 6, attributes := #[] }, { accessFlags := 16409, nameIndex := 12, descriptorIndex := 6, attributes := #[] }, { accessFlags := 16409, nameIndex := 15, descriptorIndex := 6, attributes := #[] }, { accessFlags := 16409, nameIndex := 18, descriptorIndex := 6, attributes := #[] }, { accessFlags := 4122, nameIndex := 21, descriptorIndex := 22, attributes := #[] }])
  fields := #[{ name := "WORD", type := (.object "com/example/replan/replan/model/Token$Kind"), accessFlags := 16409, slot := 0, constantValue := 0 }, { name := "NUMBER", type := (.object "com/example/replan/replan/model/Token$Kind"), accessFlags := 16409, slot := 1, constantValue := 0 }, { name := "STRING", type := (.object "com/example/replan/replan/model/Token$Kind"), accessFlags := 16409, slot := 2, constantValue := 0 }, { name := "SYMBOL", type := (.object "com/example/replan/replan/model/Token$Kind"), accessFlags := 16409, slot := 3, constantValue := 0 }, { name := "END", type := (.object "com/example/replan/replan/model/Token$Kind"), accessFlags := 16409, slot := 4, constantValue := 0 }, { name := "$VALUES", type := (.array (.object "com/example/replan/replan/model/Token$Kind")), accessFlags := 4122, slot := 5, constantValue := 0 }]
  methods := #[]
  instanceTypes := #[(.object "java/lang/String"), .int, .int]
  staticTypes := #[(.object "com/example/replan/replan/model/Token$Kind"), (.object "com/example/replan/replan/model/Token$Kind"), (.object "com/example/replan/replan/model/Token$Kind"), (.object "com/example/replan/replan/model/Token$Kind"), (.object "com/example/replan/replan/model/Token$Kind"), (.array (.object "com/example/replan/replan/model/Token$Kind"))]
  resolved := Array.replicate 64 none
  statics := some 0 }

def pool9 : Array CpInfo := pool [(2, .class_ 4), (1, u "java/lang/CharSequence"), (42, .class_ 48), (0, u "java/lang/CharSequence$1CodePointIterator"), (10, .class_ 60), (0, u "java/lang/CharSequence$1CharIterator"), (5, .class_ 67), (0, u "java/lang/Object")] 63

/-- java/lang/CharSequence -/
def k9 : Class := { plain "java/lang/CharSequence" (some 0) with
  accessFlags := 1537
  interfaces := #[]
  cf := some (fileOf pool9 2 #[.nestMembers #[47, 59]] #[] 1537 66 #[] #[])
  fields := #[]
  methods := #[]
  instanceTypes := #[]
  staticTypes := #[]
  resolved := Array.replicate 131 none
  statics := none }

def pool10 : Array CpInfo := pool [(1, .class_ 2), (0, u "java/lang/constant/ConstantDesc"), (0, .class_ 4), (0, u "java/lang/Object")] 32

/-- java/lang/constant/ConstantDesc -/
def k10 : Class := { plain "java/lang/constant/ConstantDesc" (some 0) with
  accessFlags := 1537
  interfaces := #[]
  cf := some (fileOf pool10 1 #[] #[] 1537 3 #[] #[])
  fields := #[]
  methods := #[]
  instanceTypes := #[]
  staticTypes := #[]
  resolved := Array.replicate 37 none
  statics := none }

def pool11 : Array CpInfo := pool [(1, .methodref 2 3), (0, .class_ 4), (0, .nameAndType 5 6), (0, u "java/lang/Object"), (0, u "<init>"), (0, u "()V"), (2, .fieldref 10 11), (0, .class_ 12), (0, .nameAndType 13 14), (0, u "java/lang/String"), (0, u "value"), (0, u "[B"), (0, .fieldref 10 16), (0, .nameAndType 17 18), (0, u "coder"), (0, u "B"), (2, u "hash"), (0, u "I"), (2, u "hashIsZero"), (0, u "Z"), (0, .methodref 10 28), (0, .nameAndType 5 29), (0, u "([CIILjava/lang/Void;)V"), (8, .fieldref 10 39), (0, .nameAndType 40 26), (0, u "COMPACT_STRINGS"), (1, .class_ 44), (1, u "java/lang/StringUTF16"), (0, u "compress"), (1, .methodref 42 48), (0, .nameAndType 49 50), (0, u "coderFromArrayLen"), (0, u "([BI)B"), (126, .methodref 42 178), (0, .nameAndType 45 179), (0, u "([CII)[B"), (395, .class_ 576), (0, u "java/lang/CharSequence"), (22, u "CASE_INSENSITIVE_ORDER"), (0, u "Ljava/util/Comparator;"), (409, u "([C)V"), (90, u "serialPersistentFields"), (0, u "[Ljava/io/ObjectStreamField;"), (0, .class_ 1104), (0, u "java/lang/String$CaseInsensitiveComparator"), (1, .class_ 1107), (0, u "java/io/Serializable"), (0, .class_ 1109), (0, u "java/lang/Comparable"), (0, .class_ 1111), (0, u "java/lang/constant/Constable"), (0, .class_ 1113), (0, u "java/lang/constant/ConstantDesc"), (2, u "serialVersionUID"), (0, u "J"), (3, u "REPL"), (0, u "C"), (2, u "LATIN1"), (1, u "UTF16")] 323

def k11m0 : Method := { name := "<init>", desc := "()V", sig := { parameters := [], returnType := none }, accessFlags := 1, code := none }
def k11c1 : Code := { maxStack := 5, maxLocals := 2, code := jdk_42_method_3_code, exceptionTable := #[], attributes := #[] }
def k11m1 : Method := { name := "<init>", desc := "([C)V", sig := { parameters := [(.array .char)], returnType := none }, accessFlags := 1, code := some k11c1 }
def k11c2 : Code := { maxStack := 4, maxLocals := 6, code := jdk_42_method_149_code, exceptionTable := #[], attributes := #[] }
def k11m2 : Method := { name := "<init>", desc := "([CIILjava/lang/Void;)V", sig := { parameters := [(.array .char), .int, .int, (.object "java/lang/Void")], returnType := none }, accessFlags := 2, code := some k11c2 }
/-- java/lang/String -/
def k11 : Class := { plain "java/lang/String" (some 0) with
  accessFlags := 49
  interfaces := #[6, 5, 9, 4, 10]
  cf := some (fileOf pool11 10 #[.nestMembers #[1103]] #[{ accessFlags := 1, nameIndex := 5, descriptorIndex := 6, attributes := #[] }, { accessFlags := 1, nameIndex := 5, descriptorIndex := 1010, attributes := #[] }, { accessFlags := 2, nameIndex := 5, descriptorIndex := 29, attributes := #[] }] 49 2 #[1106, 1108, 575, 1110, 1112] #[{ accessFlags := 18, nameIndex := 13, descriptorIndex := 14, attributes := #[] }, { accessFlags := 18, nameIndex := 17, descriptorIndex := 18, attributes := #[] }, { accessFlags := 2, nameIndex := 21, descriptorIndex := 22, attributes := #[] }, { accessFlags := 2, nameIndex := 25, descriptorIndex := 26, attributes := #[] }, { accessFlags := 26, nameIndex := 1116, descriptorIndex := 1117, attributes := #[] }, { accessFlags := 24, nameIndex := 40, descriptorIndex := 26, attributes := #[] }, { accessFlags := 26, nameIndex := 1101, descriptorIndex := 1102, attributes := #[] }, { accessFlags := 26, nameIndex := 1121, descriptorIndex := 1122, attributes := #[] }, { accessFlags := 25, nameIndex := 599, descriptorIndex := 600, attributes := #[] }, { accessFlags := 24, nameIndex := 1125, descriptorIndex := 18, attributes := #[] }, { accessFlags := 24, nameIndex := 1127, descriptorIndex := 18, attributes := #[] }])
  fields := #[{ name := "value", type := (.array .byte), accessFlags := 18, slot := 0, constantValue := 0 }, { name := "coder", type := .byte, accessFlags := 18, slot := 1, constantValue := 0 }, { name := "hash", type := .int, accessFlags := 2, slot := 2, constantValue := 0 }, { name := "hashIsZero", type := .boolean, accessFlags := 2, slot := 3, constantValue := 0 }, { name := "serialVersionUID", type := .long, accessFlags := 26, slot := 0, constantValue := 0 }, { name := "COMPACT_STRINGS", type := .boolean, accessFlags := 24, slot := 1, constantValue := 0 }, { name := "serialPersistentFields", type := (.array (.object "java/io/ObjectStreamField")), accessFlags := 26, slot := 2, constantValue := 0 }, { name := "REPL", type := .char, accessFlags := 26, slot := 3, constantValue := 0 }, { name := "CASE_INSENSITIVE_ORDER", type := (.object "java/util/Comparator"), accessFlags := 25, slot := 4, constantValue := 0 }, { name := "LATIN1", type := .byte, accessFlags := 24, slot := 5, constantValue := 0 }, { name := "UTF16", type := .byte, accessFlags := 24, slot := 6, constantValue := 0 }]
  methods := #[k11m0, k11m1, k11m2]
  instanceTypes := #[(.array .byte), .byte, .int, .boolean]
  staticTypes := #[.long, .boolean, (.array (.object "java/io/ObjectStreamField")), .char, (.object "java/util/Comparator"), .byte, .byte]
  resolved := Array.replicate 1451 none
  statics := some 1 }

def pool12 : Array CpInfo := pool [(6, .class_ 8), (1, u "java/lang/Object"), (0, u "<init>"), (0, u "()V"), (1, .class_ 14), (1, u "java/lang/StringUTF16"), (31, u "$assertionsDisabled"), (0, u "Z"), (13, u "HI_BYTE_SHIFT"), (0, u "I"), (2, u "LO_BYTE_SHIFT"), (49, .methodref 12 116), (0, .nameAndType 117 118), (0, u "compress"), (0, u "([CI[BII)I"), (3, u "([CII)[B"), (138, u "coderFromArrayLen"), (0, u "([BI)B"), (106, .class_ 371), (1, u "java/lang/StringUTF16$LinesSpliterator"), (58, u "MAX_LENGTH"), (196, .class_ 628), (0, u "java/lang/StringUTF16$CodePointsSpliterator"), (0, .class_ 630), (0, u "java/lang/StringUTF16$CharsSpliterator")] 4

def k12m0 : Method := { name := "<init>", desc := "()V", sig := { parameters := [], returnType := none }, accessFlags := 0, code := none }
def k12c1 : Code := { maxStack := 2, maxLocals := 2, code := jdk_52_method_15_code, exceptionTable := #[], attributes := #[] }
def k12m1 : Method := { name := "coderFromArrayLen", desc := "([BI)B", sig := { parameters := [(.array .byte), .int], returnType := some .byte }, accessFlags := 8, code := some k12c1 }
def k12c2 : Code := { maxStack := 5, maxLocals := 6, code := jdk_52_method_16_code, exceptionTable := #[], attributes := #[] }
def k12m2 : Method := { name := "compress", desc := "([CII)[B", sig := { parameters := [(.array .char), .int, .int], returnType := some (.array .byte) }, accessFlags := 9, code := some k12c2 }
def k12c3 : Code := { maxStack := 3, maxLocals := 7, code := jdk_52_method_21_code, exceptionTable := #[], attributes := #[] }
def k12m3 : Method := { name := "compress", desc := "([CI[BII)I", sig := { parameters := [(.array .char), .int, (.array .byte), .int, .int], returnType := some .int }, accessFlags := 9, code := some k12c3 }
/-- java/lang/StringUTF16 -/
def k12 : Class := { plain "java/lang/StringUTF16" (some 0) with
  accessFlags := 48
  interfaces := #[]
  cf := some (fileOf pool12 12 #[.nestMembers #[627, 629, 369]] #[{ accessFlags := 0, nameIndex := 9, descriptorIndex := 10, attributes := #[] }, { accessFlags := 8, nameIndex := 261, descriptorIndex := 262, attributes := #[] }, { accessFlags := 9, nameIndex := 117, descriptorIndex := 122, attributes := #[] }, { accessFlags := 9, nameIndex := 117, descriptorIndex := 118, attributes := #[] }] 48 6 #[] #[{ accessFlags := 26, nameIndex := 61, descriptorIndex := 62, attributes := #[] }, { accessFlags := 26, nameIndex := 65, descriptorIndex := 62, attributes := #[] }, { accessFlags := 24, nameIndex := 430, descriptorIndex := 62, attributes := #[] }, { accessFlags := 4120, nameIndex := 46, descriptorIndex := 47, attributes := #[] }])
  fields := #[{ name := "HI_BYTE_SHIFT", type := .int, accessFlags := 26, slot := 0, constantValue := 0 }, { name := "LO_BYTE_SHIFT", type := .int, accessFlags := 26, slot := 1, constantValue := 0 }, { name := "MAX_LENGTH", type := .int, accessFlags := 24, slot := 2, constantValue := 0 }, { name := "$assertionsDisabled", type := .boolean, accessFlags := 4120, slot := 3, constantValue := 0 }]
  methods := #[k12m0, k12m1, k12m2, k12m3]
  instanceTypes := #[]
  staticTypes := #[.int, .int, .int, .boolean]
  resolved := Array.replicate 635 none
  statics := none }

def pool13 : Array CpInfo := pool [(1, .class_ 2), (0, u "com/example/replan/replan/model/SelectStatement$Operand"), (0, .class_ 4), (0, u "java/lang/Object"), (5, .class_ 11), (0, u "com/example/replan/replan/model/SelectStatement")] 9

/-- com/example/replan/replan/model/SelectStatement$Operand -/
def k13 : Class := { plain "com/example/replan/replan/model/SelectStatement$Operand" (some 0) with
  accessFlags := 1536
  interfaces := #[]
  cf := some (fileOf pool13 1 #[.nestHost 10] #[] 1536 3 #[] #[])
  fields := #[]
  methods := #[]
  instanceTypes := #[]
  staticTypes := #[]
  resolved := Array.replicate 21 none
  statics := none }

def pool14 : Array CpInfo := pool [(1, .class_ 2), (0, u "com/example/replan/replan/model/SelectStatement$Expression"), (0, .class_ 4), (0, u "java/lang/Object"), (5, .class_ 11), (0, u "com/example/replan/replan/model/SelectStatement")] 18

/-- com/example/replan/replan/model/SelectStatement$Expression -/
def k14 : Class := { plain "com/example/replan/replan/model/SelectStatement$Expression" (some 0) with
  accessFlags := 1536
  interfaces := #[]
  cf := some (fileOf pool14 1 #[.nestHost 10] #[] 1536 3 #[] #[])
  fields := #[]
  methods := #[]
  instanceTypes := #[]
  staticTypes := #[]
  resolved := Array.replicate 30 none
  statics := none }

def pool15 : Array CpInfo := pool [(1, .methodref 2 3), (0, .class_ 4), (0, .nameAndType 5 6), (0, u "java/lang/Record"), (0, u "<init>"), (0, u "()V"), (0, .fieldref 8 9), (0, .class_ 10), (0, .nameAndType 11 12), (0, u "com/example/replan/replan/model/SelectStatement$ColumnName"), (0, u "qualifier"), (0, u "Lcom/example/replan/replan/model/Token;"), (0, .fieldref 8 14), (0, .nameAndType 15 12), (0, u "name"), (12, .class_ 29), (0, u "com/example/replan/replan/model/SelectStatement$Operand"), (0, .class_ 31), (0, u "com/example/replan/replan/model/SelectStatement$Expression"), (0, u "(Lcom/example/replan/replan/model/Token;Lcom/example/replan/replan/model/Token;)V"), (3, u "start"), (0, u "()Lcom/example/replan/replan/model/Token;"), (9, .class_ 48), (0, u "com/example/replan/replan/model/SelectStatement")] 22

def k15c0 : Code := { maxStack := 2, maxLocals := 3, code := prog_37_method_1_code, exceptionTable := #[], attributes := #[] }
def k15m0 : Method := { name := "<init>", desc := "(Lcom/example/replan/replan/model/Token;Lcom/example/replan/replan/model/Token;)V", sig := { parameters := [(.object "com/example/replan/replan/model/Token"), (.object "com/example/replan/replan/model/Token")], returnType := none }, accessFlags := 0, code := some k15c0 }
def k15c1 : Code := { maxStack := 1, maxLocals := 1, code := prog_37_method_2_code, exceptionTable := #[], attributes := #[] }
def k15m1 : Method := { name := "start", desc := "()Lcom/example/replan/replan/model/Token;", sig := { parameters := [], returnType := some (.object "com/example/replan/replan/model/Token") }, accessFlags := 1, code := some k15c1 }
/-- com/example/replan/replan/model/SelectStatement$ColumnName -/
def k15 : Class := { plain "com/example/replan/replan/model/SelectStatement$ColumnName" (some 2) with
  accessFlags := 48
  interfaces := #[13, 14]
  cf := some (fileOf pool15 8 #[.nestHost 47] #[{ accessFlags := 0, nameIndex := 5, descriptorIndex := 32, attributes := #[] }, { accessFlags := 1, nameIndex := 36, descriptorIndex := 37, attributes := #[] }] 48 2 #[28, 30] #[{ accessFlags := 18, nameIndex := 11, descriptorIndex := 12, attributes := #[] }, { accessFlags := 18, nameIndex := 15, descriptorIndex := 12, attributes := #[] }])
  fields := #[{ name := "qualifier", type := (.object "com/example/replan/replan/model/Token"), accessFlags := 18, slot := 0, constantValue := 0 }, { name := "name", type := (.object "com/example/replan/replan/model/Token"), accessFlags := 18, slot := 1, constantValue := 0 }]
  methods := #[k15m0, k15m1]
  instanceTypes := #[(.object "com/example/replan/replan/model/Token"), (.object "com/example/replan/replan/model/Token")]
  staticTypes := #[]
  resolved := Array.replicate 71 none
  statics := none }

def pool16 : Array CpInfo := pool [(4, .class_ 6), (1, u "java/lang/Object"), (0, u "<init>"), (0, u "()V"), (5, .class_ 16), (1, u "java/lang/StringLatin1"), (104, u "$assertionsDisabled"), (0, u "Z"), (98, .class_ 223), (1, u "java/lang/StringLatin1$LinesSpliterator"), (166, .class_ 391), (0, u "java/lang/StringLatin1$CharsSpliterator")] 3

def k16m0 : Method := { name := "<init>", desc := "()V", sig := { parameters := [], returnType := none }, accessFlags := 0, code := none }
/-- java/lang/StringLatin1 -/
def k16 : Class := { plain "java/lang/StringLatin1" (some 0) with
  accessFlags := 48
  interfaces := #[]
  cf := some (fileOf pool16 14 #[.nestMembers #[390, 221]] #[{ accessFlags := 0, nameIndex := 7, descriptorIndex := 8, attributes := #[] }] 48 4 #[] #[{ accessFlags := 4120, nameIndex := 121, descriptorIndex := 122, attributes := #[] }])
  fields := #[{ name := "$assertionsDisabled", type := .boolean, accessFlags := 4120, slot := 0, constantValue := 0 }]
  methods := #[k16m0]
  instanceTypes := #[]
  staticTypes := #[.boolean]
  resolved := Array.replicate 395 none
  statics := none }

def pool17 : Array CpInfo := pool [(2, .class_ 4), (1, u "java/lang/Object"), (0, u "<init>"), (0, u "()V"), (17, .class_ 26), (1, u "jdk/internal/util/Preconditions"), (28, .class_ 56), (0, u "jdk/internal/util/Preconditions$4"), (57, .class_ 115), (0, u "jdk/internal/util/Preconditions$1"), (7, u "SIOOBE_FORMATTER"), (0, u "Ljava/util/function/BiFunction;"), (0, .class_ 126), (0, u "jdk/internal/util/Preconditions$2"), (3, u "AIOOBE_FORMATTER"), (0, .class_ 132), (0, u "jdk/internal/util/Preconditions$3"), (3, u "IOOBE_FORMATTER")] 57

def k17m0 : Method := { name := "<init>", desc := "()V", sig := { parameters := [], returnType := none }, accessFlags := 1, code := none }
/-- jdk/internal/util/Preconditions -/
def k17 : Class := { plain "jdk/internal/util/Preconditions" (some 0) with
  accessFlags := 33
  interfaces := #[]
  cf := some (fileOf pool17 24 #[.nestMembers #[55, 131, 125, 114]] #[{ accessFlags := 1, nameIndex := 5, descriptorIndex := 6, attributes := #[] }] 33 2 #[] #[{ accessFlags := 25, nameIndex := 123, descriptorIndex := 124, attributes := #[] }, { accessFlags := 25, nameIndex := 130, descriptorIndex := 124, attributes := #[] }, { accessFlags := 25, nameIndex := 136, descriptorIndex := 124, attributes := #[] }])
  fields := #[{ name := "SIOOBE_FORMATTER", type := (.object "java/util/function/BiFunction"), accessFlags := 25, slot := 0, constantValue := 0 }, { name := "AIOOBE_FORMATTER", type := (.object "java/util/function/BiFunction"), accessFlags := 25, slot := 1, constantValue := 0 }, { name := "IOOBE_FORMATTER", type := (.object "java/util/function/BiFunction"), accessFlags := 25, slot := 2, constantValue := 0 }]
  methods := #[k17m0]
  instanceTypes := #[]
  staticTypes := #[(.object "java/util/function/BiFunction"), (.object "java/util/function/BiFunction"), (.object "java/util/function/BiFunction")]
  resolved := Array.replicate 194 none
  statics := some 2 }

def pool18 : Array CpInfo := pool [(9, u "<init>"), (6, .class_ 18), (1, u "java/lang/Object"), (0, u "()V"), (1, .class_ 23), (1, u "jdk/internal/util/ArraysSupport"), (0, u "LOG2_ARRAY_LONG_INDEX_SCALE"), (0, u "I"), (2, u "U"), (0, u "Ljdk/internal/misc/Unsafe;"), (8, u "BIG_ENDIAN"), (0, u "Z"), (8, u "LOG2_BYTE_BIT_SIZE"), (4, u "LOG2_ARRAY_INT_INDEX_SCALE"), (54, u "JLA"), (0, u "Ljdk/internal/access/JavaLangAccess;"), (11, u "LOG2_ARRAY_BOOLEAN_INDEX_SCALE"), (9, u "LOG2_ARRAY_BYTE_INDEX_SCALE"), (5, u "LOG2_ARRAY_CHAR_INDEX_SCALE"), (5, u "LOG2_ARRAY_SHORT_INDEX_SCALE"), (18, u "LOG2_ARRAY_FLOAT_INDEX_SCALE"), (24, u "LOG2_ARRAY_DOUBLE_INDEX_SCALE"), (89, u "T_BOOLEAN"), (2, u "T_CHAR"), (1, u "T_FLOAT"), (1, u "T_DOUBLE"), (1, u "T_BYTE"), (1, u "T_SHORT"), (1, u "T_INT"), (1, u "T_LONG"), (1, u "SOFT_MAX_ARRAY_LENGTH")] 83

def k18m0 : Method := { name := "<init>", desc := "()V", sig := { parameters := [], returnType := none }, accessFlags := 2, code := none }
/-- jdk/internal/util/ArraysSupport -/
def k18 : Class := { plain "jdk/internal/util/ArraysSupport" (some 0) with
  accessFlags := 33
  interfaces := #[]
  cf := some (fileOf pool18 21 #[] #[{ accessFlags := 2, nameIndex := 9, descriptorIndex := 19, attributes := #[] }] 33 16 #[] #[{ accessFlags := 24, nameIndex := 28, descriptorIndex := 29, attributes := #[] }, { accessFlags := 26, nameIndex := 38, descriptorIndex := 39, attributes := #[] }, { accessFlags := 25, nameIndex := 121, descriptorIndex := 25, attributes := #[] }, { accessFlags := 25, nameIndex := 131, descriptorIndex := 25, attributes := #[] }, { accessFlags := 25, nameIndex := 137, descriptorIndex := 25, attributes := #[] }, { accessFlags := 25, nameIndex := 143, descriptorIndex := 25, attributes := #[] }, { accessFlags := 25, nameIndex := 53, descriptorIndex := 25, attributes := #[] }, { accessFlags := 25, nameIndex := 24, descriptorIndex := 25, attributes := #[] }, { accessFlags := 25, nameIndex := 162, descriptorIndex := 25, attributes := #[] }, { accessFlags := 25, nameIndex := 187, descriptorIndex := 25, attributes := #[] }, { accessFlags := 26, nameIndex := 48, descriptorIndex := 25, attributes := #[] }, { accessFlags := 25, nameIndex := 277, descriptorIndex := 25, attributes := #[] }, { accessFlags := 25, nameIndex := 280, descriptorIndex := 25, attributes := #[] }, { accessFlags := 25, nameIndex := 282, descriptorIndex := 25, attributes := #[] }, { accessFlags := 25, nameIndex := 284, descriptorIndex := 25, attributes := #[] }, { accessFlags := 25, nameIndex := 286, descriptorIndex := 25, attributes := #[] }, { accessFlags := 25, nameIndex := 288, descriptorIndex := 25, attributes := #[] }, { accessFlags := 25, nameIndex := 290, descriptorIndex := 25, attributes := #[] }, { accessFlags := 25, nameIndex := 292, descriptorIndex := 25, attributes := #[] }, { accessFlags := 26, nameIndex := 108, descriptorIndex := 109, attributes := #[] }, { accessFlags := 25, nameIndex := 294, descriptorIndex := 25, attributes := #[] }])
  fields := #[{ name := "U", type := (.object "jdk/internal/misc/Unsafe"), accessFlags := 24, slot := 0, constantValue := 0 }, { name := "BIG_ENDIAN", type := .boolean, accessFlags := 26, slot := 1, constantValue := 0 }, { name := "LOG2_ARRAY_BOOLEAN_INDEX_SCALE", type := .int, accessFlags := 25, slot := 2, constantValue := 0 }, { name := "LOG2_ARRAY_BYTE_INDEX_SCALE", type := .int, accessFlags := 25, slot := 3, constantValue := 0 }, { name := "LOG2_ARRAY_CHAR_INDEX_SCALE", type := .int, accessFlags := 25, slot := 4, constantValue := 0 }, { name := "LOG2_ARRAY_SHORT_INDEX_SCALE", type := .int, accessFlags := 25, slot := 5, constantValue := 0 }, { name := "LOG2_ARRAY_INT_INDEX_SCALE", type := .int, accessFlags := 25, slot := 6, constantValue := 0 }, { name := "LOG2_ARRAY_LONG_INDEX_SCALE", type := .int, accessFlags := 25, slot := 7, constantValue := 0 }, { name := "LOG2_ARRAY_FLOAT_INDEX_SCALE", type := .int, accessFlags := 25, slot := 8, constantValue := 0 }, { name := "LOG2_ARRAY_DOUBLE_INDEX_SCALE", type := .int, accessFlags := 25, slot := 9, constantValue := 0 }, { name := "LOG2_BYTE_BIT_SIZE", type := .int, accessFlags := 26, slot := 10, constantValue := 0 }, { name := "T_BOOLEAN", type := .int, accessFlags := 25, slot := 11, constantValue := 0 }, { name := "T_CHAR", type := .int, accessFlags := 25, slot := 12, constantValue := 0 }, { name := "T_FLOAT", type := .int, accessFlags := 25, slot := 13, constantValue := 0 }, { name := "T_DOUBLE", type := .int, accessFlags := 25, slot := 14, constantValue := 0 }, { name := "T_BYTE", type := .int, accessFlags := 25, slot := 15, constantValue := 0 }, { name := "T_SHORT", type := .int, accessFlags := 25, slot := 16, constantValue := 0 }, { name := "T_INT", type := .int, accessFlags := 25, slot := 17, constantValue := 0 }, { name := "T_LONG", type := .int, accessFlags := 25, slot := 18, constantValue := 0 }, { name := "JLA", type := (.object "jdk/internal/access/JavaLangAccess"), accessFlags := 26, slot := 19, constantValue := 0 }, { name := "SOFT_MAX_ARRAY_LENGTH", type := .int, accessFlags := 25, slot := 20, constantValue := 0 }]
  methods := #[k18m0]
  instanceTypes := #[]
  staticTypes := #[(.object "jdk/internal/misc/Unsafe"), .boolean, .int, .int, .int, .int, .int, .int, .int, .int, .int, .int, .int, .int, .int, .int, .int, .int, .int, (.object "jdk/internal/access/JavaLangAccess"), .int]
  resolved := Array.replicate 378 none
  statics := none }

def pool19 : Array CpInfo := pool [(1, u "java/lang/Cloneable"), (0, .class_ 1), (0, u "java/lang/Object"), (0, .class_ 3)] 3

/-- java/lang/Cloneable -/
def k19 : Class := { plain "java/lang/Cloneable" (some 0) with
  accessFlags := 1537
  interfaces := #[]
  cf := some (fileOf pool19 2 #[] #[] 1537 4 #[] #[])
  fields := #[]
  methods := #[]
  instanceTypes := #[]
  staticTypes := #[]
  resolved := Array.replicate 8 none
  statics := none }

/-- the primitive byte -/
def k20 : Class := { plain "byte" none with kind := .primitive 'B', accessFlags := 0x411 }
/-- [B -/
def k21 : Class := { plain "[B" (some 0) with kind := .array 20 .byte, interfaces := #[19, 6], accessFlags := 1041 }

/-- the primitive char -/
def k22 : Class := { plain "char" none with kind := .primitive 'C', accessFlags := 0x411 }
/-- [C -/
def k23 : Class := { plain "[C" (some 0) with kind := .array 22 .char, interfaces := #[19, 6], accessFlags := 1041 }

/-- the primitive int -/
def k24 : Class := { plain "int" none with kind := .primitive 'I', accessFlags := 0x411 }
/-- [I -/
def k25 : Class := { plain "[I" (some 0) with kind := .array 24 .int, interfaces := #[19, 6], accessFlags := 1041 }

def heap : Heap := #[{ cls := 8, slots := #[.ref 3, .null, .null, .null, .null, .null], vm := .statics 8 },
  { cls := 11, slots := #[.long 0, .int 1, .null, .int 0, .null, .int 0, .int 0], vm := .statics 11 },
  { cls := 17, slots := #[.null, .null, .null], vm := .statics 17 },
  { cls := 8, slots := #[.null, .int 0, .int 0], vm := .none }]
def classes : Array Class := #[k0, k1, k2, k3, k4, k5, k6, k7, k8, k9, k10, k11, k12, k13, k14, k15, k16, k17, k18, k19, k20, k21, k22, k23, k24, k25]
def interned : List (Array UInt16 × Addr) := []
def slotsUsed : Nat := 19
def theMethod : MethodId := ⟨1, 2⟩
def args0 : Array Value := #[.int 5, .int 6, .int 7, .int 8, .int 0]
def aboutOver (below : List Frame) : State where
  vm := { classes := classes, interned := interned.toArray }
  heap := heap
  slotsUsed := slotsUsed
  threads := #[{ frames := .invoking theMethod args0 :: below }]
def below0 : List Frame := [.native { method := ⟨0, 0⟩, args := #[] }]
def about1 : State := aboutOver below0
def p0 : Program := .bare "" "" ""
def e0 : Env := launch0.env 0 0 0
theorem w_frames : about1.frames = Frame.invoking theMethod args0 :: below0 := rfl
set_option maxRecDepth 65536 in
theorem w_args : argsFit about1.vm theMethod args0 = true := by decide +kernel
set_option maxRecDepth 65536 in
theorem w_heap : heapFits about1 = true := by decide +kernel
set_option maxRecDepth 65536 in
theorem w_runnable : about1.curStatus? = some .runnable := by decide +kernel
set_option maxRecDepth 65536 in
theorem w_alone : about1.alone = true := by decide +kernel
set_option maxRecDepth 65536 in
theorem w_named : about1.methodNamed? x = some theMethod := by decide +kernel
set_option maxRecDepth 65536 in
theorem w_hears : about1.hears theMethod below0 = true := by decide +kernel
set_option maxRecDepth 65536 in
theorem w_ripe : about1.ripe theMethod args0 below0 = true := by decide +kernel
theorem w_running : about1.status = .running := rfl
set_option maxRecDepth 65536 in
theorem w_room : about1.hasRoom e0.platform room_1 = true :=
  launch0.hasRoom_least _ room_1 (by decide +kernel) (by decide +kernel) (by decide +kernel) (by decide +kernel) (by decide +kernel) (by decide +kernel)
theorem allAtoms_all (ts : List Jvm.Cond) (a : Array Jvm.Value) (st : Jvm.State) : (allAtoms ts).before a st = ts.all (fun c => c.before a st) := by
  induction ts with
  | nil => rfl
  | cons c t ih =>
    show (Jvm.Cond.and c (allAtoms t)).before a st = _
    rw [Jvm.Cond.before_and, ih, List.all_cons]
def words1 : List Jvm.Cond := Jvm.Cond.code x code maxLocals ret :: tables_1
/-- a 'code' word, met by the world's own term for the bytes: nothing is compared byte by byte -/
theorem code_word {y : MethodName} {bytes : ByteArray} {mx : Nat} {rt : Option FieldType} {a : Array Value} {s : State} {m : MethodId} {meth : Method} {c : Code} (h1 : s.methodNamed? y = some m) (h2 : s.vm.method? m = some meth) (h3 : meth.code = some c) (h4 : c.code = bytes)
    (h5 : (c.maxLocals == mx && c.exceptionTable.isEmpty && decide (c.maxStack ≤ mostOperands) && decide (meth.sig.returnType = rt) && !meth.locks && decide (parseMethodDescriptor y.desc = some meth.sig)) = true) : (Jvm.Cond.code y bytes mx rt).before a s = true := by
  simp only [Bool.and_eq_true, beq_iff_eq, Bool.not_eq_true', decide_eq_true_eq] at h5
  obtain ⟨⟨⟨⟨⟨g1, g2⟩, g3⟩, g4⟩, g5⟩, g6⟩ := h5
  simp [Cond.before, Cond.holds, Cond.value, h1, h2, h3, h4, g1, g2, g3, g4, g5, g6]
def isCode : Jvm.Cond → Bool
  | .code _ _ _ _ => true
  | _ => false
theorem all_split {L : List Jvm.Cond} {P : Jvm.Cond → Bool} (h1 : L.all (fun c => isCode c || P c) = true) (h2 : ∀ c ∈ L.filter isCode, P c = true) : L.all P = true := by
  refine List.all_eq_true.mpr fun c hc => ?_
  have h := List.all_eq_true.mp h1 c hc
  rcases Bool.eq_false_or_eq_true (isCode c) with hi | hi
  · exact h2 c (List.mem_filter.mpr ⟨hc, hi⟩)
  · simpa [hi] using h
set_option maxRecDepth 65536 in
theorem w_c0 : (Jvm.Cond.code x code maxLocals ret).before args0 about1 = true := code_word (m := ⟨1, 2⟩) (meth := k1m2) (c := k1c2) (by decide +kernel) rfl rfl rfl (by decide +kernel)
set_option maxRecDepth 65536 in
theorem w_c1 : (Jvm.Cond.code ({ cls := "java/lang/String", name := "<init>", desc := "([C)V" } : Jvm.MethodName) jdk_42_method_3_code (2 : Nat) (Option.none : Option Jvm.ClassFile.FieldType)).before args0 about1 = true := code_word (m := ⟨11, 1⟩) (meth := k11m1) (c := k11c1) (by decide +kernel) rfl rfl rfl (by decide +kernel)
set_option maxRecDepth 65536 in
theorem w_c2 : (Jvm.Cond.code ({ cls := "java/lang/String", name := "<init>", desc := "([CIILjava/lang/Void;)V" } : Jvm.MethodName) jdk_42_method_149_code (6 : Nat) (Option.none : Option Jvm.ClassFile.FieldType)).before args0 about1 = true := code_word (m := ⟨11, 2⟩) (meth := k11m2) (c := k11c2) (by decide +kernel) rfl rfl rfl (by decide +kernel)
set_option maxRecDepth 65536 in
theorem w_c3 : (Jvm.Cond.code ({ cls := "java/lang/Object", name := "<init>", desc := "()V" } : Jvm.MethodName) object_method_1_code (1 : Nat) (Option.none : Option Jvm.ClassFile.FieldType)).before args0 about1 = true := code_word (m := ⟨0, 0⟩) (meth := k0m0) (c := k0c0) (by decide +kernel) rfl rfl rfl (by decide +kernel)
set_option maxRecDepth 65536 in
theorem w_c4 : (Jvm.Cond.code ({ cls := "java/lang/StringUTF16", name := "compress", desc := "([CII)[B" } : Jvm.MethodName) jdk_52_method_16_code (6 : Nat) (Option.some (Jvm.ClassFile.FieldType.array Jvm.ClassFile.FieldType.byte))).before args0 about1 = true := code_word (m := ⟨12, 2⟩) (meth := k12m2) (c := k12c2) (by decide +kernel) rfl rfl rfl (by decide +kernel)
set_option maxRecDepth 65536 in
theorem w_c5 : (Jvm.Cond.code ({ cls := "java/lang/StringUTF16", name := "compress", desc := "([CI[BII)I" } : Jvm.MethodName) jdk_52_method_21_code (7 : Nat) (Option.some Jvm.ClassFile.FieldType.int)).before args0 about1 = true := code_word (m := ⟨12, 3⟩) (meth := k12m3) (c := k12c3) (by decide +kernel) rfl rfl rfl (by decide +kernel)
set_option maxRecDepth 65536 in
theorem w_c6 : (Jvm.Cond.code ({ cls := "java/lang/StringUTF16", name := "coderFromArrayLen", desc := "([BI)B" } : Jvm.MethodName) jdk_52_method_15_code (2 : Nat) (Option.some Jvm.ClassFile.FieldType.byte)).before args0 about1 = true := code_word (m := ⟨12, 1⟩) (meth := k12m1) (c := k12c1) (by decide +kernel) rfl rfl rfl (by decide +kernel)
set_option maxRecDepth 65536 in
theorem w_c7 : (Jvm.Cond.code ({ cls := "com/example/replan/replan/model/Token", name := "<init>", desc := "(Lcom/example/replan/replan/model/Token$Kind;Ljava/lang/String;II)V" } : Jvm.MethodName) prog_48_method_1_code (5 : Nat) (Option.none : Option Jvm.ClassFile.FieldType)).before args0 about1 = true := code_word (m := ⟨3, 0⟩) (meth := k3m0) (c := k3c0) (by decide +kernel) rfl rfl rfl (by decide +kernel)
set_option maxRecDepth 65536 in
theorem w_c8 : (Jvm.Cond.code ({ cls := "java/lang/Record", name := "<init>", desc := "()V" } : Jvm.MethodName) jdk_30_method_1_code (1 : Nat) (Option.none : Option Jvm.ClassFile.FieldType)).before args0 about1 = true := code_word (m := ⟨2, 0⟩) (meth := k2m0) (c := k2c0) (by decide +kernel) rfl rfl rfl (by decide +kernel)
set_option maxRecDepth 65536 in
theorem w_c9 : (Jvm.Cond.code ({ cls := "com/example/replan/replan/model/SelectStatement$ColumnName", name := "<init>", desc := "(Lcom/example/replan/replan/model/Token;Lcom/example/replan/replan/model/Token;)V" } : Jvm.MethodName) prog_37_method_1_code (3 : Nat) (Option.none : Option Jvm.ClassFile.FieldType)).before args0 about1 = true := code_word (m := ⟨15, 0⟩) (meth := k15m0) (c := k15c0) (by decide +kernel) rfl rfl rfl (by decide +kernel)
set_option maxRecDepth 65536 in
theorem w_c10 : (Jvm.Cond.code ({ cls := "com/example/replan/replan/model/SelectStatement$ColumnName", name := "start", desc := "()Lcom/example/replan/replan/model/Token;" } : Jvm.MethodName) prog_37_method_2_code (1 : Nat) (Option.some (Jvm.ClassFile.FieldType.object "com/example/replan/replan/model/Token"))).before args0 about1 = true := code_word (m := ⟨15, 1⟩) (meth := k15m1) (c := k15c1) (by decide +kernel) rfl rfl rfl (by decide +kernel)
set_option maxRecDepth 65536 in
theorem w_c11 : (Jvm.Cond.code ({ cls := "com/example/replan/replan/model/ColumnNameStartPinLaw", name := "before", desc := "(Lcom/example/replan/replan/model/Token;Lcom/example/replan/replan/model/Token;)Z" } : Jvm.MethodName) method_2_code (2 : Nat) (Option.some Jvm.ClassFile.FieldType.boolean)).before args0 about1 = true := code_word (m := ⟨1, 1⟩) (meth := k1m1) (c := k1c1) (by decide +kernel) rfl rfl rfl (by decide +kernel)
set_option maxRecDepth 65536 in
theorem w_c12 : (Jvm.Cond.code ({ cls := "com/example/replan/replan/model/Token", name := "line", desc := "()I" } : Jvm.MethodName) prog_48_method_11_code (1 : Nat) (Option.some Jvm.ClassFile.FieldType.int)).before args0 about1 = true := code_word (m := ⟨3, 1⟩) (meth := k3m1) (c := k3c1) (by decide +kernel) rfl rfl rfl (by decide +kernel)
set_option maxRecDepth 65536 in
theorem w_c13 : (Jvm.Cond.code ({ cls := "com/example/replan/replan/model/Token", name := "column", desc := "()I" } : Jvm.MethodName) prog_48_method_12_code (1 : Nat) (Option.some Jvm.ClassFile.FieldType.int)).before args0 about1 = true := code_word (m := ⟨3, 2⟩) (meth := k3m2) (c := k3c2) (by decide +kernel) rfl rfl rfl (by decide +kernel)
def codes1 : List Jvm.Cond := [Jvm.Cond.code x code maxLocals ret, Jvm.Cond.code ({ cls := "java/lang/String", name := "<init>", desc := "([C)V" } : Jvm.MethodName) jdk_42_method_3_code (2 : Nat) (Option.none : Option Jvm.ClassFile.FieldType), Jvm.Cond.code ({ cls := "java/lang/String", name := "<init>", desc := "([CIILjava/lang/Void;)V" } : Jvm.MethodName) jdk_42_method_149_code (6 : Nat) (Option.none : Option Jvm.ClassFile.FieldType), Jvm.Cond.code ({ cls := "java/lang/Object", name := "<init>", desc := "()V" } : Jvm.MethodName) object_method_1_code (1 : Nat) (Option.none : Option Jvm.ClassFile.FieldType), Jvm.Cond.code ({ cls := "java/lang/StringUTF16", name := "compress", desc := "([CII)[B" } : Jvm.MethodName) jdk_52_method_16_code (6 : Nat) (Option.some (Jvm.ClassFile.FieldType.array Jvm.ClassFile.FieldType.byte)), Jvm.Cond.code ({ cls := "java/lang/StringUTF16", name := "compress", desc := "([CI[BII)I" } : Jvm.MethodName) jdk_52_method_21_code (7 : Nat) (Option.some Jvm.ClassFile.FieldType.int), Jvm.Cond.code ({ cls := "java/lang/StringUTF16", name := "coderFromArrayLen", desc := "([BI)B" } : Jvm.MethodName) jdk_52_method_15_code (2 : Nat) (Option.some Jvm.ClassFile.FieldType.byte), Jvm.Cond.code ({ cls := "com/example/replan/replan/model/Token", name := "<init>", desc := "(Lcom/example/replan/replan/model/Token$Kind;Ljava/lang/String;II)V" } : Jvm.MethodName) prog_48_method_1_code (5 : Nat) (Option.none : Option Jvm.ClassFile.FieldType), Jvm.Cond.code ({ cls := "java/lang/Record", name := "<init>", desc := "()V" } : Jvm.MethodName) jdk_30_method_1_code (1 : Nat) (Option.none : Option Jvm.ClassFile.FieldType), Jvm.Cond.code ({ cls := "com/example/replan/replan/model/SelectStatement$ColumnName", name := "<init>", desc := "(Lcom/example/replan/replan/model/Token;Lcom/example/replan/replan/model/Token;)V" } : Jvm.MethodName) prog_37_method_1_code (3 : Nat) (Option.none : Option Jvm.ClassFile.FieldType), Jvm.Cond.code ({ cls := "com/example/replan/replan/model/SelectStatement$ColumnName", name := "start", desc := "()Lcom/example/replan/replan/model/Token;" } : Jvm.MethodName) prog_37_method_2_code (1 : Nat) (Option.some (Jvm.ClassFile.FieldType.object "com/example/replan/replan/model/Token")), Jvm.Cond.code ({ cls := "com/example/replan/replan/model/ColumnNameStartPinLaw", name := "before", desc := "(Lcom/example/replan/replan/model/Token;Lcom/example/replan/replan/model/Token;)Z" } : Jvm.MethodName) method_2_code (2 : Nat) (Option.some Jvm.ClassFile.FieldType.boolean), Jvm.Cond.code ({ cls := "com/example/replan/replan/model/Token", name := "line", desc := "()I" } : Jvm.MethodName) prog_48_method_11_code (1 : Nat) (Option.some Jvm.ClassFile.FieldType.int), Jvm.Cond.code ({ cls := "com/example/replan/replan/model/Token", name := "column", desc := "()I" } : Jvm.MethodName) prog_48_method_12_code (1 : Nat) (Option.some Jvm.ClassFile.FieldType.int)]
set_option maxRecDepth 65536 in
theorem codes_eq : words1.filter isCode = codes1 := rfl
theorem w_codes : ∀ c ∈ words1.filter isCode, c.before args0 about1 = true := by
  rw [codes_eq]
  intro c hc
  simp only [codes1, List.mem_cons, List.not_mem_nil, or_false] at hc
  rcases hc with rfl | rfl | rfl | rfl | rfl | rfl | rfl | rfl | rfl | rfl | rfl | rfl | rfl | rfl
  · exact w_c0
  · exact w_c1
  · exact w_c2
  · exact w_c3
  · exact w_c4
  · exact w_c5
  · exact w_c6
  · exact w_c7
  · exact w_c8
  · exact w_c9
  · exact w_c10
  · exact w_c11
  · exact w_c12
  · exact w_c13
set_option maxRecDepth 65536 in
theorem w_t1 : (words1.take 24).all (fun c => isCode c || c.before args0 about1) = true := by decide +kernel
set_option maxRecDepth 65536 in
theorem w_t2 : ((words1.drop 24).take 24).all (fun c => isCode c || c.before args0 about1) = true := by decide +kernel
set_option maxRecDepth 65536 in
theorem w_t3 : (((words1.drop 24).drop 24).take 24).all (fun c => isCode c || c.before args0 about1) = true := by decide +kernel
set_option maxRecDepth 65536 in
theorem w_t4 : (((words1.drop 24).drop 24).drop 24).all (fun c => isCode c || c.before args0 about1) = true := by decide +kernel
theorem w_tables : (allAtoms (Jvm.Cond.code x code maxLocals ret :: tables_1)).before args0 about1 = true := by
  rw [allAtoms_all]
  show words1.all (fun c => c.before args0 about1) = true
  refine all_split ?_ w_codes
  rw [← List.take_append_drop 24 words1, List.all_append, w_t1, ← List.take_append_drop 24 (words1.drop 24), List.all_append, w_t2, ← List.take_append_drop 24 ((words1.drop 24).drop 24), List.all_append, w_t3, w_t4]
  rfl
set_option maxRecDepth 65536 in
theorem w_rest : rest_1_c.before args0 about1 = true := by decide +kernel
set_option maxRecDepth 65536 in
theorem w_case : (Jvm.Cond.and given_1 narrow_1).before args0 about1 = true := by decide +kernel
theorem w_applies : (headSpec (Jvm.Cond.code x code maxLocals ret :: tables_1) room_1).applies x e0.platform about1 = true :=
  (Spec.applies_iff w_frames).mpr ⟨w_running, w_runnable, w_alone, w_named, w_hears, w_ripe, w_room, w_tables⟩
theorem atStart : AtStart classFile x code maxLocals ret World_1 tables_1 room_1 Calls_1 rest_1 Pre_1 launch0 p0 e0 about1 theMethod args0 below0 :=
  ⟨lists_1, trivial, launch0.admits_env _ _ _, launch0.least_env, fairChoices_fair.cas, fairChoices_fair.clock, w_frames, w_args, w_heap, w_applies, trivial, w_rest, w_case⟩
end start1
theorem witness_1 : WitnessClaimed_1 := ⟨start1.p0, start1.e0, start1.about1, start1.theMethod, start1.args0, start1.below0, start1.atStart⟩
end Jvm.Pilot.@@N@@
