import JvmDerived
import JvmDerived.Pilot.@@N@@Statement
import JvmDerived.Pilot.@@N@@Code
set_option linter.unusedVariables false
set_option linter.unusedSimpArgs false
/- laws to paste: Road.backV, Road.eqW, Road.codOf (cut by pick.py; bodies as the Statement names them) -/
namespace Jvm.Pilot.@@N@@
namespace StrChars
open Jvm Sem ClassFile Op Lib Jvm.Stand Jvm.Free.XT Jvm.Free.ALB Jvm.Free.JM Jvm.Free
open Jvm.Lib.Cold (StaticIs)
/-- a char array whose places are chars -/
def Ch (a : Addr) (A : Cell) (U : State) : Prop := Arr .char a A U ∧ Typed .char A
theorem Ch.mv {a : Addr} {A : Cell} {U U' : State} (h : Ch a A U) (hal : U.vm.Alike U'.vm) (hh : U'.heap = U.heap) : Ch a A U' := ⟨h.1.mv hal hh, h.2⟩
theorem Ch.keep {a : Addr} {A : Cell} {U U' : State} (h : Ch a A U) (hal : U.vm.Alike U'.vm) (hk : U'.heap[a]? = some A) : Ch a A U' := ⟨h.1.keep hal hk, h.2⟩
/-- what place i of a char[]'s cell holds -/
def cv (A : Cell) (i : Nat) : Int32 := match A.slots[i]? with | some (.int x) => x | _ => 0
theorem Ch.get {a : Addr} {A : Cell} {U : State} (h : Ch a A U) {i : Nat} (hi : i < A.slots.size) : A.slots[i]? = some (.int (cv A i)) := by
  have e := Array.getElem?_eq_getElem hi
  have f := h.2 i _ e
  unfold cv; rw [e]
  generalize A.slots[i] = v at f
  cases v <;> simp [fits] at f ⊢
/-- the byte that i2b leaves of a char -/
def lo8 (x : Int32) : Int32 := x.toInt8.toInt32
theorem fits_lo8 (y : Int32) : fits .byte (.int (lo8 y)) = true := by
  have h1 := y.toInt8.le_toInt
  have h2 := y.toInt8.toInt_lt
  simp only [lo8, fits, Bool.and_eq_true, decide_eq_true_eq, Int32.le_iff_toInt_le, Int8.toInt_toInt32, show (-128 : Int32).toInt = -128 from by decide, show (127 : Int32).toInt = 127 from by decide]
  omega
/-- A' is A but that each place j of lo .. hi - 1 holds f j -/
def Laid (A A' : Cell) (lo hi : Nat) (f : Nat → Value) : Prop := A'.cls = A.cls ∧ A'.vm = A.vm ∧ A'.slots.size = A.slots.size ∧ ∀ i, A'.slots[i]? = if lo ≤ i ∧ i < hi then some (f i) else A.slots[i]?
theorem Laid.zero (A : Cell) (lo : Nat) (f : Nat → Value) : Laid A A lo (lo + 0) f := ⟨rfl, rfl, rfl, fun i => by rw [if_neg (by omega)]⟩
theorem Laid.step {A Ak : Cell} {lo k : Nat} {f : Nat → Value} {v : Value} (h : Laid A Ak lo k f) (hlo : lo ≤ k) (hk : k < Ak.slots.size) (hv : v = f k) : Laid A (Ak.setSlot k v) lo (k + 1) f := by
  refine ⟨h.1, h.2.1, by simpa [Cell.setSlot] using h.2.2.1, fun i => ?_⟩
  by_cases e : k = i
  · subst e; rw [Cell.slots_setSlot_self v hk, if_pos (by omega), hv]
  · rw [Cell.slots_setSlot_ne v e, h.2.2.2 i]
    by_cases q : lo ≤ i ∧ i < k
    · rw [if_pos q, if_pos (by omega)]
    · rw [if_neg q, if_neg (by omega)]
def U16 : String := "java/lang/StringUTF16"
namespace Cmp5
def yN : MethodName := ⟨"java/lang/StringUTF16", "compress", "([CI[BII)I"⟩
abbrev yB : ByteArray := jdk_52_method_21_code
theorem d0 : decode yB 0 = .ok (.iconst 0, 1) := by decide +kernel
theorem d1 : decode yB 1 = .ok (.istore 5, 2) := by decide +kernel
theorem d3 : decode yB 3 = .ok (.iload 5, 2) := by decide +kernel
theorem d5 : decode yB 5 = .ok (.iload 4, 2) := by decide +kernel
theorem d7 : decode yB 7 = .ok (.if_icmp (.ge) 37, 3) := by decide +kernel
theorem d10 : decode yB 10 = .ok (.aload_n 0, 1) := by decide +kernel
theorem d11 : decode yB 11 = .ok (.iload_n 1, 1) := by decide +kernel
theorem d12 : decode yB 12 = .ok (.caload, 1) := by decide +kernel
theorem d13 : decode yB 13 = .ok (.istore 6, 2) := by decide +kernel
theorem d15 : decode yB 15 = .ok (.iload 6, 2) := by decide +kernel
theorem d17 : decode yB 17 = .ok (.sipush 255, 3) := by decide +kernel
theorem d20 : decode yB 20 = .ok (.if_icmp (.le) 6, 3) := by decide +kernel
theorem d26 : decode yB 26 = .ok (.aload_n 2, 1) := by decide +kernel
theorem d27 : decode yB 27 = .ok (.iload_n 3, 1) := by decide +kernel
theorem d28 : decode yB 28 = .ok (.iload 6, 2) := by decide +kernel
theorem d30 : decode yB 30 = .ok (.i2b, 1) := by decide +kernel
theorem d31 : decode yB 31 = .ok (.bastore, 1) := by decide +kernel
theorem d32 : decode yB 32 = .ok (.iinc 1 1, 3) := by decide +kernel
theorem d35 : decode yB 35 = .ok (.iinc 3 1, 3) := by decide +kernel
theorem d38 : decode yB 38 = .ok (.iinc 5 1, 3) := by decide +kernel
theorem d41 : decode yB 41 = .ok (.goto (-38), 3) := by decide +kernel
theorem d44 : decode yB 44 = .ok (.iload 4, 2) := by decide +kernel
theorem d46 : decode yB 46 = .ok (.ireturn, 1) := by decide +kernel
def site : List Cond := []
def tab : Cond := tabOf yN yB 7 (some .int) site
def P (b : Addr) (A : Cell) (d : Addr) (B : Cell) (o q len : Nat) (args : Array Value) (s : State) : Prop := args = #[.ref b, .int (Int32.ofNat o), .ref d, .int (Int32.ofNat q), .int (Int32.ofNat len)] ∧ Ch b A s ∧ Arr .byte d B s ∧ b ≠ d ∧ o + len ≤ A.slots.size ∧ q + len ≤ B.slots.size ∧ ∀ i, i < len → ¬ 255 < cv A (o + i)
def E (b : Addr) (A : Cell) (d : Addr) (B : Cell) (o q len : Nat) (r : Option Value) (s u : State) : Prop := r = some (.int (Int32.ofNat len)) ∧ ∃ B', Put d B' s u ∧ Laid B B' q (q + len) (fun j => Value.int (lo8 (cv A (o + (j - q)))))
/-- no char of the range above 255: len; the places written hold each char's low byte -/
theorem law (l : Launch) (b : Addr) (A : Cell) (d : Addr) (B : Cell) (o q len : Nat) : Law l yN 5 5 0 0 yB 7 (some .int) site (P b A d B o q len) (E b A d B o q len) (copyLocs d q len) 0 0 := by
  refine Law.of_walk (plainFor_of_name (by decide +kernel)) (by decide +kernel) (by decide +kernel) (by decide) (fun _ _ h => by rw [h.1]; rfl) (fun _ U U' hal hh h => ⟨h.1, h.2.1.mv hal hh, h.2.2.1.mv hal hh, h.2.2.2⟩) (fun r U U' V V' h1 hal h2 h => ⟨h.1, h.2.elim fun B' q => ⟨B', q.1.mv h1 h2, q.2⟩⟩) ?_
  intro p e s m args below meth c s₁ X0 hexec hbytes hml hret hlk hnm hown hh0 W hP
  obtain ⟨rfl, hA, hB, hne, l1, l2, hp⟩ := hP
  have c1 : Steps p.tables e below (s₁.setTop (entryFrame m #[.ref b, .int (Int32.ofNat o), .ref d, .int (Int32.ofNat q), .int (Int32.ofNat len)] 7)) (s₁.setTop (mkF m 0 #[.val (.ref b), .val (.int (Int32.ofNat o)), .val (.ref d), .val (.int (Int32.ofNat q)), .val (.int (Int32.ofNat len)), .unset, .unset] [])) := entry rfl
  have hA0 := hA.1.mv X0.warmed.alike hh0
  have hB0 := hB.mv X0.warmed.alike hh0
  have a31 := hA.1.2.2.2
  have c2 : Steps p.tables e below (s₁.setTop (entryFrame m #[.ref b, .int (Int32.ofNat o), .ref d, .int (Int32.ofNat q), .int (Int32.ofNat len)] 7)) (s₁.setTop (mkF m 3 #[.val (.ref b), .val (.int (Int32.ofNat o)), .val (.ref d), .val (.int (Int32.ofNat q)), .val (.int (Int32.ofNat len)), .val (.int 0), .unset] [])) := c1.trans (by
    refine iconstV X0.here hexec rfl 0 (hb hbytes d0) (by decide) ?_
    refine XS.istore X0.here hexec rfl (hb hbytes d1) rfl rfl ?_
    exact Steps.refl _)
  have loop : ∀ (r i : Nat), i + r = len → ∀ (z : Slot), (z = .unset ∨ ∃ w, z = .val w ∧ w.category = 1) → ∀ (Tl : State) (Bk : Cell), Stand p l e { frames := 0, locals := 0, cells := 0, slots := 0 } s m #[.ref b, .int (Int32.ofNat o), .ref d, .int (Int32.ofNat q), .int (Int32.ofNat len)] below meth c Tl ([] ++ copyLocs d q i) 0 0 → Put d Bk s₁ Tl → Laid B Bk q (q + i) (fun j => Value.int (lo8 (cv A (o + (j - q))))) →
      Steps p.tables e below (s₁.setTop (entryFrame m #[.ref b, .int (Int32.ofNat o), .ref d, .int (Int32.ofNat q), .int (Int32.ofNat len)] 7)) (Tl.setTop (mkF m 3 #[.val (.ref b), .val (.int (Int32.ofNat (o + i))), .val (.ref d), .val (.int (Int32.ofNat (q + i))), .val (.int (Int32.ofNat len)), .val (.int (Int32.ofNat i)), z] [])) → ∃ (T' : State) (B' : Cell) (z' : Slot), Stand p l e { frames := 0, locals := 0, cells := 0, slots := 0 } s m #[.ref b, .int (Int32.ofNat o), .ref d, .int (Int32.ofNat q), .int (Int32.ofNat len)] below meth c T' ([] ++ copyLocs d q len) 0 0 ∧ Put d B' s₁ T' ∧ Laid B B' q (q + len) (fun j => Value.int (lo8 (cv A (o + (j - q))))) ∧
      Steps p.tables e below (s₁.setTop (entryFrame m #[.ref b, .int (Int32.ofNat o), .ref d, .int (Int32.ofNat q), .int (Int32.ofNat len)] 7)) (T'.setTop (mkF m 3 #[.val (.ref b), .val (.int (Int32.ofNat (o + len))), .val (.ref d), .val (.int (Int32.ofNat (q + len))), .val (.int (Int32.ofNat len)), .val (.int (Int32.ofNat len)), z'] [])) := by
    intro r
    induction r with
    | zero =>
      intro i hi z hz Tl Bk Xl pl fl cl
      have hil : i = len := by omega
      rw [hil] at Xl fl cl
      exact ⟨Tl, Bk, z, Xl, pl, fl, cl⟩
    | succ r ih =>
      intro i hi z hz Tl Bk Xl pl fl cl
      have all := X0.warmed.alike.symm.trans Xl.warmed.alike
      have hAl := hA0.keep all (pl.other hne hA0.1)
      have hBk := hB0.like all pl.1 fl.1 fl.2.1 fl.2.2.1
      have hlt : q + i < Bk.slots.size := by rw [fl.2.2.1]; omega
      have c3 : Steps p.tables e below (s₁.setTop (entryFrame m #[.ref b, .int (Int32.ofNat o), .ref d, .int (Int32.ofNat q), .int (Int32.ofNat len)] 7)) (Tl.setTop (mkF m 12 #[.val (.ref b), .val (.int (Int32.ofNat (o + i))), .val (.ref d), .val (.int (Int32.ofNat (q + i))), .val (.int (Int32.ofNat len)), .val (.int (Int32.ofNat i)), z] [.int (Int32.ofNat (o + i)), .ref b])) := cl.trans (by
        refine XS.iload Xl.here hexec rfl (hb hbytes d3) rfl ?_
        refine XS.iload Xl.here hexec rfl (hb hbytes d5) rfl ?_
        refine XS.icmpNo Xl.here hexec rfl (hb hbytes d7) rfl (ii_ge_f (lt32 (by omega) (by omega))) ?_
        refine XS.aloadN Xl.here hexec rfl (hb hbytes d10) rfl rfl ?_
        refine XS.iloadN Xl.here hexec rfl (hb hbytes d11) rfl ?_
        exact Steps.refl _)
      have c4 : Steps p.tables e below (s₁.setTop (entryFrame m #[.ref b, .int (Int32.ofNat o), .ref d, .int (Int32.ofNat q), .int (Int32.ofNat len)] 7)) (Tl.setTop (mkF m 13 #[.val (.ref b), .val (.int (Int32.ofNat (o + i))), .val (.ref d), .val (.int (Int32.ofNat (q + i))), .val (.int (Int32.ofNat len)), .val (.int (Int32.ofNat i)), z] [.int (cv A (o + i))])) := c3.trans (by
        refine Xl.aget hexec hAl rfl (hA.get (i := o + i) (by omega)) rfl rfl (hb hbytes d12) ?_
        exact Steps.refl _)
      have c5 : Steps p.tables e below (s₁.setTop (entryFrame m #[.ref b, .int (Int32.ofNat o), .ref d, .int (Int32.ofNat q), .int (Int32.ofNat len)] 7)) (Tl.setTop (mkF m 15 #[.val (.ref b), .val (.int (Int32.ofNat (o + i))), .val (.ref d), .val (.int (Int32.ofNat (q + i))), .val (.int (Int32.ofNat len)), .val (.int (Int32.ofNat i)), .val (.int (cv A (o + i)))] [])) := c4.trans (by
        refine XS.istoreS Xl.here hexec rfl (hb hbytes d13) rfl rfl hz ?_
        exact Steps.refl _)
      have c6 : Steps p.tables e below (s₁.setTop (entryFrame m #[.ref b, .int (Int32.ofNat o), .ref d, .int (Int32.ofNat q), .int (Int32.ofNat len)] 7)) (Tl.setTop (mkF m 31 #[.val (.ref b), .val (.int (Int32.ofNat (o + i))), .val (.ref d), .val (.int (Int32.ofNat (q + i))), .val (.int (Int32.ofNat len)), .val (.int (Int32.ofNat i)), .val (.int (cv A (o + i)))] [.int (lo8 (cv A (o + i))), .int (Int32.ofNat (q + i)), .ref d])) := c5.trans (by
        refine XS.iload Xl.here hexec rfl (hb hbytes d15) rfl ?_
        refine sipushV Xl.here hexec rfl 255 (hb hbytes d17) (by decide) ?_
        refine XS.icmpYes Xl.here hexec rfl (pc0 := 20) rfl (hb hbytes d20) rfl (ii_le_t (hp i (by omega))) (by decide) rfl ?_
        refine XS.aloadN Xl.here hexec rfl (hb hbytes d26) rfl rfl ?_
        refine XS.iloadN Xl.here hexec rfl (hb hbytes d27) rfl ?_
        refine XS.iload Xl.here hexec rfl (hb hbytes d28) rfl ?_
        refine i2b Xl.here hexec rfl (hb hbytes d30) rfl ?_
        exact Steps.refl _)
      obtain ⟨T7, X7, p7, st7⟩ := Xl.aput hexec hBk rfl hlt rfl (fits_lo8 (cv A (o + i))) (g := (mkF m 31 #[.val (.ref b), .val (.int (Int32.ofNat (o + i))), .val (.ref d), .val (.int (Int32.ofNat (q + i))), .val (.int (Int32.ofNat len)), .val (.int (Int32.ofNat i)), .val (.int (cv A (o + i)))] [.int (lo8 (cv A (o + i))), .int (Int32.ofNat (q + i)), .ref d])) rfl (rest := []) rfl (hb hbytes d31)
      have c8 : Steps p.tables e below (s₁.setTop (entryFrame m #[.ref b, .int (Int32.ofNat o), .ref d, .int (Int32.ofNat q), .int (Int32.ofNat len)] 7)) (T7.setTop (mkF m 32 #[.val (.ref b), .val (.int (Int32.ofNat (o + i))), .val (.ref d), .val (.int (Int32.ofNat (q + i))), .val (.int (Int32.ofNat len)), .val (.int (Int32.ofNat i)), .val (.int (cv A (o + i)))] [])) := c6.trans (st7 _ (Steps.refl _))
      have c9 : Steps p.tables e below (s₁.setTop (entryFrame m #[.ref b, .int (Int32.ofNat o), .ref d, .int (Int32.ofNat q), .int (Int32.ofNat len)] 7)) (T7.setTop (mkF m 3 #[.val (.ref b), .val (.int (Int32.ofNat (o + i) + 1)), .val (.ref d), .val (.int (Int32.ofNat (q + i) + 1)), .val (.int (Int32.ofNat len)), .val (.int (Int32.ofNat i + 1)), .val (.int (cv A (o + i)))] [])) := c8.trans (by
        refine iincV X7.here hexec rfl 1 (hb hbytes d32) (by decide) rfl rfl ?_
        refine iincV X7.here hexec rfl 1 (hb hbytes d35) (by decide) rfl rfl ?_
        refine iincV X7.here hexec rfl 1 (hb hbytes d38) (by decide) rfl rfl ?_
        refine XS.goto X7.here hexec rfl (pc0 := 41) rfl (hb hbytes d41) (by decide) rfl ?_
        exact Steps.refl _)
      have c10 : Steps p.tables e below (s₁.setTop (entryFrame m #[.ref b, .int (Int32.ofNat o), .ref d, .int (Int32.ofNat q), .int (Int32.ofNat len)] 7)) (T7.setTop (mkF m 3 #[.val (.ref b), .val (.int (Int32.ofNat (o + (i + 1)))), .val (.ref d), .val (.int (Int32.ofNat (q + (i + 1)))), .val (.int (Int32.ofNat len)), .val (.int (Int32.ofNat (i + 1))), .val (.int (cv A (o + i)))] [])) := by
        have := c9
        rw [succ32, succ32, succ32] at this
        exact this
      exact ih (i + 1) (by omega) _ (Or.inr ⟨_, rfl, rfl⟩) T7 _ (by rw [copyLocs_step, ← List.append_assoc]; exact X7) (pl.trans p7) (fl.step (by omega) hlt (by simp)) c10
  obtain ⟨T9, B9, z9, X9, p9, f9, g9⟩ := loop len 0 (by omega) .unset (Or.inl rfl) s₁ B (by simpa [copyLocs] using X0) ⟨hB0.1, fun _ _ => rfl, rfl⟩ (Laid.zero _ _ _) c2
  have c11 : Steps p.tables e below (s₁.setTop (entryFrame m #[.ref b, .int (Int32.ofNat o), .ref d, .int (Int32.ofNat q), .int (Int32.ofNat len)] 7)) (T9.setTop (mkF m 46 #[.val (.ref b), .val (.int (Int32.ofNat (o + len))), .val (.ref d), .val (.int (Int32.ofNat (q + len))), .val (.int (Int32.ofNat len)), .val (.int (Int32.ofNat len)), z9] [.int (Int32.ofNat len)])) := g9.trans (by
    refine XS.iload X9.here hexec rfl (hb hbytes d3) rfl ?_
    refine XS.iload X9.here hexec rfl (hb hbytes d5) rfl ?_
    refine XS.icmpYes X9.here hexec rfl (pc0 := 7) rfl (hb hbytes d7) rfl (ii_ge_t (nlt32 (by omega) (Nat.le_refl _))) (by decide) rfl ?_
    refine XS.iload X9.here hexec rfl (hb hbytes d44) rfl ?_
    exact Steps.refl _)
  exact ⟨T9, some (.int (Int32.ofNat len)), _, _, _, X9, by simp, rfl, rfl, (fun h => by cases h), ⟨rfl, B9, p9.from hh0, f9⟩, fun fs hl => c11.trans (X9.ireturnOut hexec hret rfl (Or.inl rfl) (hb hbytes d46) hl)⟩
end Cmp5
namespace Cmp3
def yN : MethodName := ⟨"java/lang/StringUTF16", "compress", "([CII)[B"⟩
abbrev yB : ByteArray := jdk_52_method_16_code
theorem d0 : decode yB 0 = .ok (.iload_n 2, 1) := by decide +kernel
theorem d1 : decode yB 1 = .ok (.newarray .byte, 2) := by decide +kernel
theorem d3 : decode yB 3 = .ok (.astore_n 3, 1) := by decide +kernel
theorem d4 : decode yB 4 = .ok (.aload_n 0, 1) := by decide +kernel
theorem d5 : decode yB 5 = .ok (.iload_n 1, 1) := by decide +kernel
theorem d6 : decode yB 6 = .ok (.aload_n 3, 1) := by decide +kernel
theorem d7 : decode yB 7 = .ok (.iconst 0, 1) := by decide +kernel
theorem d8 : decode yB 8 = .ok (.iload_n 2, 1) := by decide +kernel
theorem d9 : decode yB 9 = .ok (.invokestatic 115, 3) := by decide +kernel
theorem d12 : decode yB 12 = .ok (.istore 4, 2) := by decide +kernel
theorem d14 : decode yB 14 = .ok (.iload 4, 2) := by decide +kernel
theorem d16 : decode yB 16 = .ok (.iload_n 2, 1) := by decide +kernel
theorem d17 : decode yB 17 = .ok (.if_icmp (.eq) 40, 3) := by decide +kernel
theorem d57 : decode yB 57 = .ok (.aload_n 3, 1) := by decide +kernel
theorem d58 : decode yB 58 = .ok (.areturn, 1) := by decide +kernel
def site : List Cond := [.arrayClass .byte, Cmp5.tab] ++ staticW U16 115 Cmp5.yN
def tab : Cond := tabOf yN yB 6 (some (.array .byte)) site
def P (b : Addr) (A : Cell) (o len : Nat) (args : Array Value) (s : State) : Prop := args = #[.ref b, .int (Int32.ofNat o), .int (Int32.ofNat len)] ∧ Ch b A s ∧ o + len ≤ A.slots.size ∧ len ≤ 536870912 ∧ ∀ i, i < len → ¬ 255 < cv A (o + i)
def E (b : Addr) (A : Cell) (o len : Nat) (r : Option Value) (s u : State) : Prop := NewArr .byte "[B" len (fun j => .int (lo8 (cv A (o + j)))) r s u ∧ u.heap.size = s.heap.size + 1
/-- no char of the range above 255: a new byte[] of their low bytes -/
theorem law (l : Launch) (b : Addr) (A : Cell) (o len : Nat) : Law l yN 3 3 1 18 yB 6 (some (.array .byte)) site (P b A o len) (E b A o len) [] 1 len := by
  refine Law.of_walk (plainFor_of_name (by decide +kernel)) (by decide +kernel) (by decide +kernel) (by decide) (fun _ _ h => by rw [h.1]; rfl) (fun _ U U' hal hh h => ⟨h.1, h.2.1.mv hal hh, h.2.2⟩) (fun r U U' V V' h1 hal h2 h => ⟨NewArr.mv r U U' V V' h1 hal h2 h.1, by rw [h1, h2]; exact h.2⟩) ?_
  intro p e s m args below meth c s₁ X0 hexec hbytes hml hret hlk hnm hown hh0 W hP
  obtain ⟨rfl, hA, l1, l2, hp⟩ := hP
  have a31 := hA.1.2.2.2
  have c1 : Steps p.tables e below (s₁.setTop (entryFrame m #[.ref b, .int (Int32.ofNat o), .int (Int32.ofNat len)] 6)) (s₁.setTop (mkF m 0 #[.val (.ref b), .val (.int (Int32.ofNat o)), .val (.int (Int32.ofNat len)), .unset, .unset, .unset] [])) := entry rfl
  have c2 : Steps p.tables e below (s₁.setTop (entryFrame m #[.ref b, .int (Int32.ofNat o), .int (Int32.ofNat len)] 6)) (s₁.setTop (mkF m 1 #[.val (.ref b), .val (.int (Int32.ofNat o)), .val (.int (Int32.ofNat len)), .unset, .unset, .unset] [.int (Int32.ofNat len)])) := c1.trans (by
    refine XS.iloadN X0.here hexec rfl (hb hbytes d0) rfl ?_
    exact Steps.refl _)
  obtain ⟨T3, B3, X3, ba3, bs3, bv3, bh3, bf3, st3⟩ := X0.anew hexec (atype := .byte) (wk W (.arrayClass .byte)) rfl (by show len * 1 ≤ _; omega) (by omega) (g := (mkF m 1 #[.val (.ref b), .val (.int (Int32.ofNat o)), .val (.int (Int32.ofNat len)), .unset, .unset, .unset] [.int (Int32.ofNat len)])) rfl (hb hbytes d1) (rest := []) rfl (Nat.le_refl _) (by show 0 + len ≤ len; omega)
  rw [hh0] at ba3 st3
  have kp3 : XT.Kept s T3 := (XT.Kept.of_eq hh0).push bh3
  have hA3 := hA.keep X3.warmed.alike (kp3 _ _ hA.1.1)
  have hne : b ≠ s.heap.size := hA.1.ne
  have c4 : Steps p.tables e below (s₁.setTop (entryFrame m #[.ref b, .int (Int32.ofNat o), .int (Int32.ofNat len)] 6)) (T3.setTop (mkF m 3 #[.val (.ref b), .val (.int (Int32.ofNat o)), .val (.int (Int32.ofNat len)), .unset, .unset, .unset] [.ref s.heap.size])) := c2.trans (st3 _ (Steps.refl _))
  have c5 : Steps p.tables e below (s₁.setTop (entryFrame m #[.ref b, .int (Int32.ofNat o), .int (Int32.ofNat len)] 6)) (T3.setTop (mkF m 9 #[.val (.ref b), .val (.int (Int32.ofNat o)), .val (.int (Int32.ofNat len)), .val (.ref s.heap.size), .unset, .unset] [.int (Int32.ofNat len), .int 0, .ref s.heap.size, .int (Int32.ofNat o), .ref b])) := c4.trans (by
    refine XS.astoreN X3.here hexec rfl (hb hbytes d3) rfl rfl rfl ?_
    refine XS.aloadN X3.here hexec rfl (hb hbytes d4) rfl rfl ?_
    refine XS.iloadN X3.here hexec rfl (hb hbytes d5) rfl ?_
    refine XS.aloadN X3.here hexec rfl (hb hbytes d6) rfl rfl ?_
    refine iconstV X3.here hexec rfl 0 (hb hbytes d7) (by decide) ?_
    refine XS.iloadN X3.here hexec rfl (hb hbytes d8) rfl ?_
    exact Steps.refl _)
  obtain ⟨v6, T6, X6, E6, g6⟩ := X3.callS hexec (Cmp5.law l b A s.heap.size B3 o 0 len) hown (wks W (staticW U16 115 Cmp5.yN)) (wk W Cmp5.tab) (W := 0) (Nat.le_of_ble_eq_true rfl) (Nat.le_of_ble_eq_true rfl) (Nat.le_refl _) (by show 0 + len + 0 ≤ len; omega) (g := (mkF m 9 #[.val (.ref b), .val (.int (Int32.ofNat o)), .val (.int (Int32.ofNat len)), .val (.ref s.heap.size), .unset, .unset] [.int (Int32.ofNat len), .int (Int32.ofNat 0), .ref s.heap.size, .int (Int32.ofNat o), .ref b])) rfl (by rw [hml]; rfl) c5 (argsL := [.ref b, .int (Int32.ofNat o), .ref s.heap.size, .int (Int32.ofNat 0), .int (Int32.ofNat len)]) (rest := []) rfl rfl (by show 2 * 0 + 0 ≤ _; decide) (hb hbytes d9) (⟨rfl, hA3, ba3, hne, l1, by rw [bs3]; simp, hp⟩)
  obtain ⟨rfl, B6, p6, f6⟩ := E6
  have c7 : Steps p.tables e below (s₁.setTop (entryFrame m #[.ref b, .int (Int32.ofNat o), .int (Int32.ofNat len)] 6)) (T6.setTop (mkF m 12 #[.val (.ref b), .val (.int (Int32.ofNat o)), .val (.int (Int32.ofNat len)), .val (.ref s.heap.size), .unset, .unset] [.int (Int32.ofNat len)])) := g6
  have c8 : Steps p.tables e below (s₁.setTop (entryFrame m #[.ref b, .int (Int32.ofNat o), .int (Int32.ofNat len)] 6)) (T6.setTop (mkF m 58 #[.val (.ref b), .val (.int (Int32.ofNat o)), .val (.int (Int32.ofNat len)), .val (.ref s.heap.size), .val (.int (Int32.ofNat len)), .unset] [.ref s.heap.size])) := c7.trans (by
    refine XS.istore X6.here hexec rfl (hb hbytes d12) rfl rfl ?_
    refine XS.iload X6.here hexec rfl (hb hbytes d14) rfl ?_
    refine XS.iloadN X6.here hexec rfl (hb hbytes d16) rfl ?_
    refine XS.icmpYes X6.here hexec rfl (pc0 := 17) rfl (hb hbytes d17) rfl (ii_eq_t rfl) (by decide) rfl ?_
    refine XS.aloadN X6.here hexec rfl (hb hbytes d57) rfl rfl ?_
    exact Steps.refl _)
  have X8 := X6.wide (L' := []) (cells' := 1) (slots' := len) (fun x hx hlt => by
    simp only [List.nil_append, copyLocs, List.mem_map, List.mem_range] at hx
    obtain ⟨i, -, rfl⟩ := hx
    exact absurd hlt (Nat.lt_irrefl _)) (Nat.le_refl _) (by omega)
  exact ⟨T6, some (.ref s.heap.size), _, _, _, X8, rfl, rfl, rfl, (fun h => by cases h), ⟨⟨rfl, B6, ba3.like (X3.warmed.alike.symm.trans X6.warmed.alike) p6.1 f6.1 f6.2.1 f6.2.2.1, f6.2.1.trans bv3, by rw [X6.warmed.alike.findClass, f6.1]; exact bf3, by rw [f6.2.2.1, bs3]; simp, fun j hj => by rw [f6.2.2.2 j, if_pos (by omega)]; rfl, kp3.put p6 (Nat.le_refl _)⟩, by rw [p6.2.2, bh3, hh0]; simp⟩, fun fs hl => c8.trans (X8.areturnOut hexec rfl hret rfl (hb hbytes d58) hl)⟩
end Cmp3
namespace CodL
def yN : MethodName := ⟨"java/lang/StringUTF16", "coderFromArrayLen", "([BI)B"⟩
abbrev yB : ByteArray := jdk_52_method_15_code
theorem d0 : decode yB 0 = .ok (.iload_n 1, 1) := by decide +kernel
theorem d1 : decode yB 1 = .ok (.aload_n 0, 1) := by decide +kernel
theorem d2 : decode yB 2 = .ok (.arraylength, 1) := by decide +kernel
theorem d3 : decode yB 3 = .ok (.isub, 1) := by decide +kernel
theorem d4 : decode yB 4 = .ok (.bipush 31, 2) := by decide +kernel
theorem d6 : decode yB 6 = .ok (.iushr, 1) := by decide +kernel
theorem d7 : decode yB 7 = .ok (.i2b, 1) := by decide +kernel
theorem d8 : decode yB 8 = .ok (.ireturn, 1) := by decide +kernel
def site : List Cond := []
def tab : Cond := tabOf yN yB 2 (some .byte) site
def P (d : Addr) (B : Cell) (args : Array Value) (s : State) : Prop := args = #[.ref d, .int (Int32.ofNat B.slots.size)] ∧ Arr .byte d B s
def E (r : Option Value) (s u : State) : Prop := XT.PureE (some (.int 0)) r s u
/-- an array as long as the number of chars: LATIN1 -/
theorem law (l : Launch) (d : Addr) (B : Cell) : Law l yN 2 2 0 0 yB 2 (some .byte) site (P d B) E [] 0 0 := by
  refine Law.of_walk (plainFor_of_name (by decide +kernel)) (by decide +kernel) (by decide +kernel) (by decide) (fun _ _ h => by rw [h.1]; rfl) (fun _ U U' hal hh h => ⟨h.1, h.2.mv hal hh⟩) (fun r U U' V V' h1 hal h2 h => XT.PureE.mv r U U' V V' h1 hal h2 h) ?_
  intro p e s m args below meth c s₁ X0 hexec hbytes hml hret hlk hnm hown hh0 W hP
  obtain ⟨rfl, hB⟩ := hP
  have hB0 := hB.mv X0.warmed.alike hh0
  have c1 : Steps p.tables e below (s₁.setTop (entryFrame m #[.ref d, .int (Int32.ofNat B.slots.size)] 2)) (s₁.setTop (mkF m 0 #[.val (.ref d), .val (.int (Int32.ofNat B.slots.size))] [])) := entry rfl
  have c2 : Steps p.tables e below (s₁.setTop (entryFrame m #[.ref d, .int (Int32.ofNat B.slots.size)] 2)) (s₁.setTop (mkF m 2 #[.val (.ref d), .val (.int (Int32.ofNat B.slots.size))] [.ref d, .int (Int32.ofNat B.slots.size)])) := c1.trans (by
    refine XS.iloadN X0.here hexec rfl (hb hbytes d0) rfl ?_
    refine XS.aloadN X0.here hexec rfl (hb hbytes d1) rfl rfl ?_
    exact Steps.refl _)
  have c3 : Steps p.tables e below (s₁.setTop (entryFrame m #[.ref d, .int (Int32.ofNat B.slots.size)] 2)) (s₁.setTop (mkF m 8 #[.val (.ref d), .val (.int (Int32.ofNat B.slots.size))] [.int (lo8 (ushr (Int32.ofNat B.slots.size - Int32.ofNat B.slots.size) 31))])) := c2.trans (by
    refine X0.alen hexec hB0 rfl rfl (hb hbytes d2) ?_
    refine XS.isub X0.here hexec rfl (hb hbytes d3) rfl ?_
    refine bipushV X0.here hexec rfl 31 (hb hbytes d4) (by decide) ?_
    refine iushr X0.here hexec rfl (hb hbytes d6) rfl ?_
    refine i2b X0.here hexec rfl (hb hbytes d7) rfl ?_
    exact Steps.refl _)
  have e0 : lo8 (ushr (Int32.ofNat B.slots.size - Int32.ofNat B.slots.size) 31) = 0 := by rw [Int32.sub_self]; decide
  rw [e0] at c3
  exact ⟨s₁, some (.int 0), _, _, _, X0, rfl, rfl, rfl, (fun h => by cases h), ⟨rfl, hh0⟩, fun fs hl => c3.trans (X0.ireturnOut hexec hret rfl (Or.inr (Or.inr (Or.inl rfl))) (hb hbytes d8) hl)⟩
end CodL
/-- the String at a is Latin-1 over a new byte[] (the heap's one new cell): the low bytes of the len chars of A from o on; every cell but a is kept -/
def Got (a : Addr) (D : Cell) (fV fC : Field) (A : Cell) (o len : Nat) (r : Option Value) (s u : State) : Prop := r = none ∧ ∃ D' V : Cell, Blank "java/lang/String" a D' u ∧ Same D D' [fV.slot, fC.slot] ∧ D'.slots[fV.slot]? = some (.ref s.heap.size) ∧ D'.slots[fC.slot]? = some (.int 0) ∧ Arr .byte s.heap.size V u ∧ V.vm = .none ∧ u.vm.findClass "[B" = some V.cls ∧ V.slots.size = len ∧ (∀ j, j < len → V.slots[j]? = some (.int (lo8 (cv A (o + j))))) ∧ (∀ (y : Addr) (c : Cell), y ≠ a → s.heap[y]? = some c → u.heap[y]? = some c) ∧ u.heap.size = s.heap.size + 1
theorem Got.mv {a : Addr} {D A : Cell} {fV fC : Field} {o len : Nat} : ∀ r (U U' V V' : State), U'.heap = U.heap → V.vm.Alike V'.vm → V'.heap = V.heap → Got a D fV fC A o len r U V → Got a D fV fC A o len r U' V' :=
  fun r U U' V V' h1 hal h2 ⟨e0, D', X, a1, a2, a3, a4, a5, a6, a7, a8, a9, a10, a11⟩ => ⟨e0, D', X, a1.mv hal h2, a2, by rw [h1]; exact a3, a4, by rw [h1]; exact a5.mv hal h2, a6, by rw [hal.findClass]; exact a7, a8, a9, by rw [h1, h2]; exact a10, by rw [h1, h2]; exact a11⟩
namespace New4
def yN : MethodName := ⟨"java/lang/String", "<init>", "([CIILjava/lang/Void;)V"⟩
abbrev yB : ByteArray := jdk_42_method_149_code
theorem d0 : decode yB 0 = .ok (.aload_n 0, 1) := by decide +kernel
theorem d1 : decode yB 1 = .ok (.invokespecial 1, 3) := by decide +kernel
theorem d4 : decode yB 4 = .ok (.iload_n 3, 1) := by decide +kernel
theorem d5 : decode yB 5 = .ok (.ifCond (.ne) 22, 3) := by decide +kernel
theorem d27 : decode yB 27 = .ok (.getstatic 38, 3) := by decide +kernel
theorem d30 : decode yB 30 = .ok (.ifCond (.eq) 28, 3) := by decide +kernel
theorem d33 : decode yB 33 = .ok (.aload_n 1, 1) := by decide +kernel
theorem d34 : decode yB 34 = .ok (.iload_n 2, 1) := by decide +kernel
theorem d35 : decode yB 35 = .ok (.iload_n 3, 1) := by decide +kernel
theorem d36 : decode yB 36 = .ok (.invokestatic 177, 3) := by decide +kernel
theorem d39 : decode yB 39 = .ok (.astore 5, 2) := by decide +kernel
theorem d41 : decode yB 41 = .ok (.aload_n 0, 1) := by decide +kernel
theorem d42 : decode yB 42 = .ok (.aload 5, 2) := by decide +kernel
theorem d44 : decode yB 44 = .ok (.iload_n 3, 1) := by decide +kernel
theorem d45 : decode yB 45 = .ok (.invokestatic 47, 3) := by decide +kernel
theorem d48 : decode yB 48 = .ok (.putfield 15, 3) := by decide +kernel
theorem d51 : decode yB 51 = .ok (.aload_n 0, 1) := by decide +kernel
theorem d52 : decode yB 52 = .ok (.aload 5, 2) := by decide +kernel
theorem d54 : decode yB 54 = .ok (.putfield 9, 3) := by decide +kernel
theorem d57 : decode yB 57 = .ok (.return_, 1) := by decide +kernel
def site : List Cond := [.fieldLink "java/lang/String" 38 "java/lang/String" "COMPACT_STRINGS" "Z", Cmp3.tab, CodL.tab, .laysFinal "java/lang/String" "java/lang/String" "value" "[B", .fieldLink "java/lang/String" 9 "java/lang/String" "value" "[B", .laysFinal "java/lang/String" "java/lang/String" "coder" "B", .fieldLink "java/lang/String" 15 "java/lang/String" "coder" "B"] ++ objW "java/lang/String" 1 ++ staticW "java/lang/String" 177 Cmp3.yN ++ staticW "java/lang/String" 47 CodL.yN
def tab : Cond := tabOf yN yB 6 none site
def P (a : Addr) (D : Cell) (fV fC : Field) (b : Addr) (A : Cell) (z : Int32) (o len : Nat) (args : Array Value) (s : State) : Prop := args = #[.ref a, .ref b, .int (Int32.ofNat o), .int (Int32.ofNat len), .null] ∧ Blank "java/lang/String" a D s ∧ Found "java/lang/String" "value" "[B" fV s ∧ Found "java/lang/String" "coder" "B" fC s ∧ Ch b A s ∧ StaticIs s "java/lang/String" "COMPACT_STRINGS" "Z" (.int z) ∧ ¬ z = 0 ∧ 0 < len ∧ o + len ≤ A.slots.size ∧ len ≤ 536870912 ∧ ∀ i, i < len → ¬ 255 < cv A (o + i)
def E (a : Addr) (D : Cell) (fV fC : Field) (A : Cell) (o len : Nat) (r : Option Value) (s u : State) : Prop := Got a D fV fC A o len r s u
/-- len > 0, no char of the range above 255: a Latin-1 String of their low bytes -/
theorem law (l : Launch) (a : Addr) (D : Cell) (fV fC : Field) (b : Addr) (A : Cell) (z : Int32) (o len : Nat) : Law l yN 5 4 2 35 yB 6 none site (P a D fV fC b A z o len) (E a D fV fC A o len) [⟨a, fC.slot⟩, ⟨a, fV.slot⟩] 1 len := by
  refine Law.of_walk (plainFor_of_name (by decide +kernel)) (by decide +kernel) (by decide +kernel) (by decide) (fun _ _ h => by rw [h.1]; rfl) (fun _ U U' hal hh h => ⟨h.1, h.2.1.mv hal hh, h.2.2.1.al hal, h.2.2.2.1.al hal, h.2.2.2.2.1.mv hal hh, h.2.2.2.2.2.1.there hal hh, h.2.2.2.2.2.2⟩) (fun r U U' V V' h1 hal h2 h => Got.mv r U U' V V' h1 hal h2 h) ?_
  intro p e s m args below meth c s₁ X0 hexec hbytes hml hret hlk hnm hown hh0 W hP
  obtain ⟨rfl, hB, f1, f2, hA, s1, hz, l0, l1, l2, hp⟩ := hP
  have a31 := hA.1.2.2.2
  have c1 : Steps p.tables e below (s₁.setTop (entryFrame m #[.ref a, .ref b, .int (Int32.ofNat o), .int (Int32.ofNat len), .null] 6)) (s₁.setTop (mkF m 0 #[.val (.ref a), .val (.ref b), .val (.int (Int32.ofNat o)), .val (.int (Int32.ofNat len)), .val .null, .unset] [])) := entry rfl
  have c2 : Steps p.tables e below (s₁.setTop (entryFrame m #[.ref a, .ref b, .int (Int32.ofNat o), .int (Int32.ofNat len), .null] 6)) (s₁.setTop (mkF m 1 #[.val (.ref a), .val (.ref b), .val (.int (Int32.ofNat o)), .val (.int (Int32.ofNat len)), .val .null, .unset] [.ref a])) := c1.trans (by
    refine XS.aloadN X0.here hexec rfl (hb hbytes d0) rfl rfl ?_
    exact Steps.refl _)
  obtain ⟨T3, X3, q3, st3⟩ := X0.oinit hexec hown (wks W (objW "java/lang/String" 1)) (g := (mkF m 1 #[.val (.ref a), .val (.ref b), .val (.int (Int32.ofNat o)), .val (.int (Int32.ofNat len)), .val .null, .unset] [.ref a])) rfl (by rw [hml]; rfl) (rest := []) rfl (hb hbytes d1) (W := 0) (by show 2 * 0 + 0 ≤ _; decide) (Nat.le_of_ble_eq_true rfl) (Nat.le_of_ble_eq_true rfl)
  have hh3 := q3.trans hh0
  have c4 : Steps p.tables e below (s₁.setTop (entryFrame m #[.ref a, .ref b, .int (Int32.ofNat o), .int (Int32.ofNat len), .null] 6)) (T3.setTop (mkF m 27 #[.val (.ref a), .val (.ref b), .val (.int (Int32.ofNat o)), .val (.int (Int32.ofNat len)), .val .null, .unset] [])) := (c2.trans (st3 _ (Steps.refl _))).trans (by
    refine XS.iloadN X3.here hexec rfl (hb hbytes d4) rfl ?_
    refine XS.ifYes X3.here hexec rfl (pc0 := 5) rfl (hb hbytes d5) rfl (i0_ne_t (nz32 (by omega) l0)) (by decide) rfl ?_
    exact Steps.refl _)
  obtain ⟨T5, X5, q5, st5⟩ := X3.sget hexec hown (wk W (.fieldLink "java/lang/String" 38 "java/lang/String" "COMPACT_STRINGS" "Z")) s1 (fun _ _ h => by rw [hh3]; exact h) (g := (mkF m 27 #[.val (.ref a), .val (.ref b), .val (.int (Int32.ofNat o)), .val (.int (Int32.ofNat len)), .val .null, .unset] [])) rfl (hb hbytes d27)
  have hh5 := q5.trans hh3
  have c6 : Steps p.tables e below (s₁.setTop (entryFrame m #[.ref a, .ref b, .int (Int32.ofNat o), .int (Int32.ofNat len), .null] 6)) (T5.setTop (mkF m 30 #[.val (.ref a), .val (.ref b), .val (.int (Int32.ofNat o)), .val (.int (Int32.ofNat len)), .val .null, .unset] [.int z])) := c4.trans (st5 _ (Steps.refl _))
  have c7 : Steps p.tables e below (s₁.setTop (entryFrame m #[.ref a, .ref b, .int (Int32.ofNat o), .int (Int32.ofNat len), .null] 6)) (T5.setTop (mkF m 36 #[.val (.ref a), .val (.ref b), .val (.int (Int32.ofNat o)), .val (.int (Int32.ofNat len)), .val .null, .unset] [.int (Int32.ofNat len), .int (Int32.ofNat o), .ref b])) := c6.trans (by
    refine XS.ifNo X5.here hexec rfl (hb hbytes d30) rfl (i0_eq_f hz) ?_
    refine XS.aloadN X5.here hexec rfl (hb hbytes d33) rfl rfl ?_
    refine XS.iloadN X5.here hexec rfl (hb hbytes d34) rfl ?_
    refine XS.iloadN X5.here hexec rfl (hb hbytes d35) rfl ?_
    exact Steps.refl _)
  obtain ⟨v8, T8, X8, E8, g8⟩ := X5.callS hexec (Cmp3.law l b A o len) hown (wks W (staticW "java/lang/String" 177 Cmp3.yN)) (wk W Cmp3.tab) (W := 0) (Nat.le_of_ble_eq_true rfl) (Nat.le_of_ble_eq_true rfl) (Nat.le_refl _) (by show 0 + len ≤ len; omega) (g := (mkF m 36 #[.val (.ref a), .val (.ref b), .val (.int (Int32.ofNat o)), .val (.int (Int32.ofNat len)), .val .null, .unset] [.int (Int32.ofNat len), .int (Int32.ofNat o), .ref b])) rfl (by rw [hml]; rfl) c7 (argsL := [.ref b, .int (Int32.ofNat o), .int (Int32.ofNat len)]) (rest := []) rfl rfl (by show 2 * 0 + 0 ≤ _; decide) (hb hbytes d36) (⟨rfl, hA.mv X5.warmed.alike hh5, l1, l2, hp⟩)
  obtain ⟨e8, z8⟩ := E8
  obtain ⟨rfl, N, n1, n2, n3, n4, n5, n6⟩ := NewArr.mv _ T5 s _ _ hh5.symm (Vm.Alike.refl _) rfl e8
  rw [hh5] at z8
  have hB1 := hB.keep X8.warmed.alike (n6 _ _ hB.1)
  have hne : s.heap.size ≠ a := (Nat.ne_of_lt (Array.getElem?_eq_some_iff.mp hB.1).1).symm
  have c9 : Steps p.tables e below (s₁.setTop (entryFrame m #[.ref a, .ref b, .int (Int32.ofNat o), .int (Int32.ofNat len), .null] 6)) (T8.setTop (mkF m 39 #[.val (.ref a), .val (.ref b), .val (.int (Int32.ofNat o)), .val (.int (Int32.ofNat len)), .val .null, .unset] [.ref s.heap.size])) := g8
  have c10 : Steps p.tables e below (s₁.setTop (entryFrame m #[.ref a, .ref b, .int (Int32.ofNat o), .int (Int32.ofNat len), .null] 6)) (T8.setTop (mkF m 45 #[.val (.ref a), .val (.ref b), .val (.int (Int32.ofNat o)), .val (.int (Int32.ofNat len)), .val .null, .val (.ref s.heap.size)] [.int (Int32.ofNat N.slots.size), .ref s.heap.size, .ref a])) := by
    have hc : Steps p.tables e below (s₁.setTop (entryFrame m #[.ref a, .ref b, .int (Int32.ofNat o), .int (Int32.ofNat len), .null] 6)) (T8.setTop (mkF m 45 #[.val (.ref a), .val (.ref b), .val (.int (Int32.ofNat o)), .val (.int (Int32.ofNat len)), .val .null, .val (.ref s.heap.size)] [.int (Int32.ofNat len), .ref s.heap.size, .ref a])) := c9.trans (by
      refine XS.astore X8.here hexec rfl (hb hbytes d39) rfl rfl rfl ?_
      refine XS.aloadN X8.here hexec rfl (hb hbytes d41) rfl rfl ?_
      refine XS.aload X8.here hexec rfl (hb hbytes d42) rfl rfl ?_
      refine XS.iloadN X8.here hexec rfl (hb hbytes d44) rfl ?_
      exact Steps.refl _)
    rw [n4]; exact hc
  obtain ⟨v11, T11, X11, E11, g11⟩ := X8.callS hexec (CodL.law l s.heap.size N) hown (wks W (staticW "java/lang/String" 47 CodL.yN)) (wk W CodL.tab) (W := 1) (Nat.le_of_ble_eq_true rfl) (Nat.le_of_ble_eq_true rfl) (Nat.le_refl _) (by show 0 + len + 0 ≤ len; omega) (g := (mkF m 45 #[.val (.ref a), .val (.ref b), .val (.int (Int32.ofNat o)), .val (.int (Int32.ofNat len)), .val .null, .val (.ref s.heap.size)] [.int (Int32.ofNat N.slots.size), .ref s.heap.size, .ref a])) rfl (by rw [hml]; rfl) c10 (argsL := [.ref s.heap.size, .int (Int32.ofNat N.slots.size)]) (rest := [.ref a]) rfl rfl (by show 2 * 0 + (1 + 0) ≤ _; decide) (hb hbytes d45) (⟨rfl, n1⟩)
  obtain ⟨rfl, q11⟩ := E11
  have hB11 := hB1.mv (X8.warmed.alike.symm.trans X11.warmed.alike) q11
  have c12 : Steps p.tables e below (s₁.setTop (entryFrame m #[.ref a, .ref b, .int (Int32.ofNat o), .int (Int32.ofNat len), .null] 6)) (T11.setTop (mkF m 48 #[.val (.ref a), .val (.ref b), .val (.int (Int32.ofNat o)), .val (.int (Int32.ofNat len)), .val .null, .val (.ref s.heap.size)] [.int 0, .ref a])) := g11
  obtain ⟨T13, X13, p13, bl13, sl13, st13⟩ := X11.finit hexec hown (wk W (.fieldLink "java/lang/String" 15 "java/lang/String" "coder" "B")) (Or.inr ⟨_, (wk W (.laysFinal "java/lang/String" "java/lang/String" "coder" "B"))⟩) (Or.inl ⟨rfl, hnm⟩) f2 (Or.inl rfl) hB11 (t := .byte) (by decide +kernel) rfl (g := (mkF m 48 #[.val (.ref a), .val (.ref b), .val (.int (Int32.ofNat o)), .val (.int (Int32.ofNat len)), .val .null, .val (.ref s.heap.size)] [.int 0, .ref a])) rfl (rest := []) rfl (hb hbytes d48)
  have c14 : Steps p.tables e below (s₁.setTop (entryFrame m #[.ref a, .ref b, .int (Int32.ofNat o), .int (Int32.ofNat len), .null] 6)) (T13.setTop (mkF m 54 #[.val (.ref a), .val (.ref b), .val (.int (Int32.ofNat o)), .val (.int (Int32.ofNat len)), .val .null, .val (.ref s.heap.size)] [.ref s.heap.size, .ref a])) := (c12.trans (st13 _ (Steps.refl _))).trans (by
    refine XS.aloadN X13.here hexec rfl (hb hbytes d51) rfl rfl ?_
    refine XS.aload X13.here hexec rfl (hb hbytes d52) rfl rfl ?_
    exact Steps.refl _)
  obtain ⟨T15, X15, p15, bl15, sl15, st15⟩ := X13.finit hexec hown (wk W (.fieldLink "java/lang/String" 9 "java/lang/String" "value" "[B")) (Or.inr ⟨_, (wk W (.laysFinal "java/lang/String" "java/lang/String" "value" "[B"))⟩) (Or.inl ⟨rfl, hnm⟩) f1 (Or.inl rfl) bl13 (t := (.array .byte)) (by decide +kernel) rfl (g := (mkF m 54 #[.val (.ref a), .val (.ref b), .val (.int (Int32.ofNat o)), .val (.int (Int32.ofNat len)), .val .null, .val (.ref s.heap.size)] [.ref s.heap.size, .ref a])) rfl (rest := []) rfl (hb hbytes d54)
  have c16 : Steps p.tables e below (s₁.setTop (entryFrame m #[.ref a, .ref b, .int (Int32.ofNat o), .int (Int32.ofNat len), .null] 6)) (T15.setTop (mkF m 57 #[.val (.ref a), .val (.ref b), .val (.int (Int32.ofNat o)), .val (.int (Int32.ofNat len)), .val .null, .val (.ref s.heap.size)] [])) := c14.trans (st15 _ (Steps.refl _))
  have ap := apart (Or.inr ⟨_, (wk W (.laysFinal "java/lang/String" "java/lang/String" "value" "[B"))⟩) (Or.inr ⟨_, (wk W (.laysFinal "java/lang/String" "java/lang/String" "coder" "B"))⟩) f1 f2 (t₁ := .array .byte) (t₂ := .byte) (by decide +kernel) (by decide +kernel) (by decide)
  have al := X8.warmed.alike.symm.trans X15.warmed.alike
  have n7 : T11.heap[s.heap.size]? = some N := by rw [q11]; exact n1.1
  exact ⟨T15, none, _, _, _, X15, by simp, rfl, by omega, (fun _ => rfl), ⟨rfl, _, N, bl15, ((Same.refl D _).set _ (by simp)).set _ (by simp), sl15, (Cell.slots_setSlot_ne _ ap).trans sl13, n1.keep al (p15.other hne (p13.other hne n7)), n2, by rw [al.findClass]; exact n3, n4, n5, fun y c h1 h2 => p15.other h1 (p13.other h1 (by rw [q11]; exact n6 y c h2)), by rw [p15.2.2, p13.2.2, q11]; exact z8⟩, fun fs hl => c16.trans (X15.returnOut hexec hret (hb hbytes d57) hl)⟩
end New4
namespace New1
def yN : MethodName := ⟨"java/lang/String", "<init>", "([C)V"⟩
abbrev yB : ByteArray := jdk_42_method_3_code
theorem d0 : decode yB 0 = .ok (.aload_n 0, 1) := by decide +kernel
theorem d1 : decode yB 1 = .ok (.aload_n 1, 1) := by decide +kernel
theorem d2 : decode yB 2 = .ok (.iconst 0, 1) := by decide +kernel
theorem d3 : decode yB 3 = .ok (.aload_n 1, 1) := by decide +kernel
theorem d4 : decode yB 4 = .ok (.arraylength, 1) := by decide +kernel
theorem d5 : decode yB 5 = .ok (.aconst_null, 1) := by decide +kernel
theorem d6 : decode yB 6 = .ok (.invokespecial 27, 3) := by decide +kernel
theorem d9 : decode yB 9 = .ok (.return_, 1) := by decide +kernel
def site : List Cond := [New4.tab] ++ initW "java/lang/String" 27 New4.yN
def tab : Cond := tabOf yN yB 2 none site
def P (a : Addr) (D : Cell) (fV fC : Field) (b : Addr) (A : Cell) (z : Int32) (args : Array Value) (s : State) : Prop := args = #[.ref a, .ref b] ∧ Blank "java/lang/String" a D s ∧ Found "java/lang/String" "value" "[B" fV s ∧ Found "java/lang/String" "coder" "B" fC s ∧ Ch b A s ∧ StaticIs s "java/lang/String" "COMPACT_STRINGS" "Z" (.int z) ∧ ¬ z = 0 ∧ 0 < A.slots.size ∧ A.slots.size ≤ 536870912 ∧ ∀ i, i < A.slots.size → ¬ 255 < cv A i
def E (a : Addr) (D : Cell) (fV fC : Field) (A : Cell) (r : Option Value) (s u : State) : Prop := Got a D fV fC A 0 A.slots.size r s u
/-- new String(chars), not empty, no char above 255: a Latin-1 String of their low bytes -/
theorem law (l : Launch) (a : Addr) (D : Cell) (fV fC : Field) (b : Addr) (A : Cell) (z : Int32) : Law l yN 2 1 3 52 yB 2 none site (P a D fV fC b A z) (E a D fV fC A) [⟨a, fC.slot⟩, ⟨a, fV.slot⟩] 1 A.slots.size := by
  refine Law.of_walk (plainFor_of_name (by decide +kernel)) (by decide +kernel) (by decide +kernel) (by decide) (fun _ _ h => by rw [h.1]; rfl) (fun _ U U' hal hh h => ⟨h.1, h.2.1.mv hal hh, h.2.2.1.al hal, h.2.2.2.1.al hal, h.2.2.2.2.1.mv hal hh, h.2.2.2.2.2.1.there hal hh, h.2.2.2.2.2.2⟩) (fun r U U' V V' h1 hal h2 h => Got.mv r U U' V V' h1 hal h2 h) ?_
  intro p e s m args below meth c s₁ X0 hexec hbytes hml hret hlk hnm hown hh0 W hP
  obtain ⟨rfl, hB, f1, f2, hA, s1, hz, l0, l2, hp⟩ := hP
  have c1 : Steps p.tables e below (s₁.setTop (entryFrame m #[.ref a, .ref b] 2)) (s₁.setTop (mkF m 0 #[.val (.ref a), .val (.ref b)] [])) := entry rfl
  have c2 : Steps p.tables e below (s₁.setTop (entryFrame m #[.ref a, .ref b] 2)) (s₁.setTop (mkF m 6 #[.val (.ref a), .val (.ref b)] [.null, .int (Int32.ofNat A.slots.size), .int 0, .ref b, .ref a])) := c1.trans (by
    refine XS.aloadN X0.here hexec rfl (hb hbytes d0) rfl rfl ?_
    refine XS.aloadN X0.here hexec rfl (hb hbytes d1) rfl rfl ?_
    refine iconstV X0.here hexec rfl 0 (hb hbytes d2) (by decide) ?_
    refine XS.aloadN X0.here hexec rfl (hb hbytes d3) rfl rfl ?_
    refine X0.alen hexec (hA.1.mv X0.warmed.alike hh0) rfl rfl (hb hbytes d4) ?_
    refine XS.aconstNull X0.here hexec rfl (hb hbytes d5) ?_
    exact Steps.refl _)
  obtain ⟨v3, T3, X3, E3, g3⟩ := X0.callN hexec (New4.law l a D fV fC b A z 0 A.slots.size) rfl hown (wks W (initW "java/lang/String" 27 New4.yN)) (W New4.tab (by simp only [site, List.mem_cons, List.mem_append, true_or, or_true])) (W := 0) (Nat.le_of_ble_eq_true rfl) (Nat.le_of_ble_eq_true rfl) (Nat.le_refl _) (by show 0 + A.slots.size ≤ A.slots.size; omega) (g := (mkF m 6 #[.val (.ref a), .val (.ref b)] [.null, .int (Int32.ofNat A.slots.size), .int (Int32.ofNat 0), .ref b, .ref a])) rfl (by rw [hml]; rfl) c2 (argsL := [.ref b, .int (Int32.ofNat 0), .int (Int32.ofNat A.slots.size), .null]) (rest := []) rfl rfl (by show 2 * 0 + 0 ≤ _; decide) (hb hbytes d6) (⟨rfl, hB.mv X0.warmed.alike hh0, f1.al X0.warmed.alike, f2.al X0.warmed.alike, hA.mv X0.warmed.alike hh0, s1.there X0.warmed.alike hh0, hz, l0, by omega, l2, fun i hi => by rw [Nat.zero_add]; exact hp i hi⟩)
  have e0 := Got.mv _ s₁ s _ _ hh0.symm (Vm.Alike.refl _) rfl E3
  obtain rfl := e0.1
  have c4 : Steps p.tables e below (s₁.setTop (entryFrame m #[.ref a, .ref b] 2)) (T3.setTop (mkF m 9 #[.val (.ref a), .val (.ref b)] [])) := g3
  exact ⟨T3, none, _, _, _, X3, by simp, rfl, by omega, (fun _ => rfl), e0, fun fs hl => c4.trans (X3.returnOut hexec hret (hb hbytes d9) hl)⟩
theorem pays {l : Launch} {R : Room} {p : Program} {e : Env} {below : List Frame} {s : State} {sargs : Array Value} {len W : Nat} (a : Addr) (D : Cell) (fV fC : Field) (b : Addr) (A : Cell) (z : Int32) (htab : tab.before sargs s = true) (hfr : 4 ≤ R.frames) (hlo : W + 65 ≤ R.locals) :
    Back l R p e below s sargs yN len W (fun A₁ a₁ => A₁.cells + 1 ≤ R.cells ∧ A₁.slots + A.slots.size ≤ R.slots ∧ P a D fV fC b A z a₁ A₁.U) (fun A₁ _ v₁ B₁ => E a D fV fC A v₁ A₁.U B₁.U ∧ B₁.locs = A₁.locs ++ [⟨a, fC.slot⟩, ⟨a, fV.slot⟩] ∧ B₁.cells = A₁.cells + 1 ∧ B₁.slots = A₁.slots + A.slots.size) :=
  (law l a D fV fC b A z).pays htab hfr (by omega)
end New1
/-- the byte, read back as charAt reads it, is the char -/
theorem lo8_mask {x : Int32} (h0 : ¬ x < 0) (h1 : ¬ 255 < x) : lo8 x &&& 255 = x := by
  have t : ∀ k : Fin 256, lo8 (Int32.ofNat k.val) &&& 255 = Int32.ofNat k.val := by decide +kernel
  rw [Int32.lt_iff_toInt_lt] at h0 h1
  have e0 : (0 : Int32).toInt = 0 := rfl
  have e1 : (255 : Int32).toInt = 255 := rfl
  obtain ⟨k, hk⟩ : ∃ k : Nat, x.toInt = k := ⟨x.toInt.toNat, by omega⟩
  have hx : x = Int32.ofNat k := Int32.toInt_inj.mp (by rw [hk, Int32.toInt_ofNat_small (by omega)])
  rw [hx]
  exact t ⟨k, by omega⟩
end StrChars
namespace StrChars.Road
open Jvm Sem ClassFile Op Lib Jvm.Stand Jvm.Free Jvm.Free.XT
open Jvm.Lib.Cold (StaticIs)
abbrev ST : String := "java/lang/String"
/-- every table word that New1's law asks, flat -/
abbrev words : List Jvm.Cond := [.code New1.yN New1.yB 2 none, .initialized ST, .methodLink ST 27 New4.yN, .instanceMethod New4.yN,
  .code New4.yN New4.yB 6 none, .fieldLink ST 38 ST "COMPACT_STRINGS" "Z", .laysFinal ST ST "value" "[B", .fieldLink ST 9 ST "value" "[B", .laysFinal ST ST "coder" "B", .fieldLink ST 15 ST "coder" "B",
  .methodLink ST 1 Lib.objectInit, .instanceMethod Lib.objectInit, .code Lib.objectInit ⟨#[0xb1]⟩ 1 none, .methodLink ST 177 Cmp3.yN, .static Cmp3.yN, .methodLink ST 47 CodL.yN, .static CodL.yN,
  .code Cmp3.yN Cmp3.yB 6 (some (.array .byte)), .initialized U16, .arrayClass .byte, .methodLink U16 115 Cmp5.yN, .static Cmp5.yN, .code Cmp5.yN Cmp5.yB 7 (some .int), .code CodL.yN CodL.yB 2 (some .byte)]
theorem tab_of {a : Array Value} {s : State} (h : ∀ w ∈ words, w.before a s = true) : New1.tab.before a s = true := by
  have h5 : Cmp5.tab.before a s = true := unparts (wk h (.code Cmp5.yN Cmp5.yB 7 (some .int))) (wks h (.initialized Cmp5.yN.cls :: Cmp5.site))
  have hc : CodL.tab.before a s = true := unparts (wk h (.code CodL.yN CodL.yB 2 (some .byte))) (wks h (.initialized CodL.yN.cls :: CodL.site))
  have q5 : ∀ w ∈ Cmp5.tab :: words, w.before a s = true := fun w hw => (List.mem_cons.mp hw).elim (fun e => e ▸ h5) (h w)
  have h3 : Cmp3.tab.before a s = true := unparts (wk q5 (.code Cmp3.yN Cmp3.yB 6 (some (.array .byte)))) (wks q5 (.initialized Cmp3.yN.cls :: Cmp3.site))
  have q3 : ∀ w ∈ Cmp3.tab :: CodL.tab :: words, w.before a s = true := fun w hw => (List.mem_cons.mp hw).elim (fun e => e ▸ h3) fun hw => (List.mem_cons.mp hw).elim (fun e => e ▸ hc) (h w)
  have h4 : New4.tab.before a s = true := unparts (wk q3 (.code New4.yN New4.yB 6 none)) (wks q3 (.initialized New4.yN.cls :: New4.site))
  have q4 : ∀ w ∈ New4.tab :: words, w.before a s = true := fun w hw => (List.mem_cons.mp hw).elim (fun e => e ▸ h4) (h w)
  exact unparts (wk q4 (.code New1.yN New1.yB 2 none)) (wks q4 (.initialized New1.yN.cls :: New1.site))
/-- the words ride from the start Z to the walk's own state -/
theorem moved {Z s : State} {a0 args : Array Value} (hZ : Z.Warmed39 s.vm) (hw : ∀ d ∈ words, d.before a0 Z = true) : ∀ d ∈ words, d.before args s = true := fun d hd => by
  have q := hw d hd
  have t : ∀ d ∈ words, d = .arrayClass .byte ∨ (d.onTables && d.keepsFace) = true := by decide +kernel
  rcases t d hd with rfl | t
  · exact RoadKit.mvA hZ q
  · exact RoadKit.mv hZ q t
/-- WHAT COMES BACK, over the tables of the start Z: h the heap at the call, h' behind it -/
def Q (Z : State) (x : Addr) (A : Cell) (h : Heap) (v : Option Value) (h' : Heap) (L : List Loc) : Prop := v = none ∧ (∀ y ∈ L, y.base = x) ∧ RoadKit.Keep h h' [x] ∧ h'.size = h.size + 1 ∧ RoadKit.Exa Z h' x ST ∧ RoadKit.Fld Z h' x ST "value" "[B" (.ref h.size) ∧ RoadKit.Fld Z h' x ST "coder" "B" (.int 0) ∧
  (∃ V : Cell, RoadKit.Arr Z h' h.size V .byte ∧ V.vm = .none ∧ Z.vm.findClass "[B" = some V.cls ∧ V.slots.size = A.slots.size ∧ ∀ j, j < A.slots.size → V.slots[j]? = some (.int (lo8 (cv A j)))) ∧
  ∀ (O n d : String) (w : Value), RoadKit.Fld Z h x O n d w → RoadKit.slotOf Z O n d ≠ RoadKit.slotOf Z ST "value" "[B" → RoadKit.slotOf Z O n d ≠ RoadKit.slotOf Z ST "coder" "B" → RoadKit.Fld Z h' x O n d w
/-- **new String(chars) AT A CALL, IN THE ROAD'S FORM**: for specialBack behind newO: x the fresh String, b the char[] with the cell A -/
theorem back {p : Program} {l : Launch} {e : Env} {R : Room} {s : State} {args : Array Value} {below : List Frame} {len W : Nat} {Z : State} {a0 : Array Value} {h : Heap} (hZ : Z.Warmed39 s.vm) (hw : ∀ d ∈ words, d.before a0 Z = true) {kI : Nat} (wi : (Jvm.Cond.instantiable ST kI).before a0 Z = true)
    {x b : Addr} {A : Cell} {z : Int32} {v0 c0 : Value} (E : RoadKit.Exa Z h x ST) (V : RoadKit.Fld Z h x ST "value" "[B" v0) (C : RoadKit.Fld Z h x ST "coder" "B" c0) (K : RoadKit.Arr Z h b A .char) (hty : Typed .char A) (S : RoadKit.Sta Z h ST "COMPACT_STRINGS" "Z" (.int z)) (hz : ¬ z = 0)
    (l0 : 0 < A.slots.size) (l2 : A.slots.size ≤ 536870912) (hp : ∀ i, i < A.slots.size → ¬ 255 < cv A i) (hfr : 4 ≤ R.frames) (hlo : W + 65 ≤ R.locals) :
    Back l R p e below s args New1.yN len W (fun P a => a = #[.ref x, .ref b] ∧ P.U.heap = h ∧ P.cells + 1 ≤ R.cells ∧ P.slots + A.slots.size ≤ R.slots)
      (fun P _ v B => ∃ L, Q Z x A h v B.U.heap L ∧ B.locs = P.locs ++ L ∧ B.cells = P.cells + 1 ∧ B.slots = P.slots + A.slots.size) := by
  intro m meth c P g ig mk a X hg hsize hdg hW hn hp'
  obtain ⟨rfl, rfl, r1, r2⟩ := hp'
  have al : Z.vm.Alike P.U.vm := hZ.alike.trans X.warmed.alike
  obtain ⟨D, cfV, kV, iV, fV, hD, gV, stV, knV, obV, asV, slV⟩ := id V
  obtain ⟨D', cfC, kC, iC, fC, hD', gC, stC, -, -, asC, slC⟩ := id C
  cases hD.symm.trans hD'
  obtain ⟨D2, kD, e1, e2, e3, e4, e5⟩ := id E
  cases hD.symm.trans e1
  obtain ⟨c2, k2, i1, i2, i3, -⟩ := Cond.instantiable_spec wi
  cases e2.symm.trans i1
  cases e3.symm.trans i2
  obtain ⟨kU, u1, u2⟩ := al.2.2 _ _ e3
  have hB : Blank ST x D P.U := ⟨hD, ⟨knV, fun q hq => by rw [hq] at obV; cases obV⟩, by rw [al.findClass]; exact e2, kU, u1, by rw [u2]; exact i3, by rw [u2]; exact e5 i3⟩
  have F1 : Found ST "value" "[B" fV P.U := ⟨SBG.found_only al ⟨cfV, kV, iV, gV⟩, stV⟩
  have F2 : Found ST "coder" "B" fC P.U := ⟨SBG.found_only al ⟨cfC, kC, iC, gC⟩, stC⟩
  have hA : Ch b A P.U := ⟨⟨K.1, State.isArrayOf_alike al K.2.1, K.2.2, by omega⟩, hty⟩
  have hS : StaticIs P.U ST "COMPACT_STRINGS" "Z" (.int z) := by
    obtain ⟨cfS, iS, kS, fS, st, cS, t1, t2, t3, t4, t5, t6, t7⟩ := S
    exact StaticIs.there (s := { Z with heap := P.U.heap }) ⟨cfS, iS, kS, fS, st, cS, t1, t2, t3, t4, t5, (fun q => by rw [q] at t6; cases t6), t7⟩ al rfl
  obtain ⟨v, B, X', ⟨⟨hv, E', V', q1, q2, q3, q4, q5, q6, q7, q8, q9, q10, q11⟩, hl, hc, hs⟩, st⟩ := New1.pays x D fV fC b A z (tab_of (moved hZ hw)) hfr hlo m meth c P g ig mk _ X hg hsize hdg hW hn ⟨r1, r2, rfl, hB, F1, F2, hA, hS, hz, l0, l2, hp⟩
  have al' : Z.vm.Alike B.U.vm := hZ.alike.trans X'.warmed.alike
  have hsz : E'.slots.size = D.slots.size := by
    obtain ⟨-, -, -, kB, w1, w2, w3⟩ := q1
    obtain ⟨kB', y1, y2⟩ := al'.2.2 _ _ e3
    rw [q2.2.1] at w1
    cases w1.symm.trans y1
    rw [w3, e5 i3, y2]
  refine ⟨v, B, X', ⟨_, ⟨hv, ?_, ⟨by omega, fun y cy hy hn' => q10 y cy (by simpa using hn') hy, fun y cy hy => ?_⟩, q11, ⟨E', _, q1.1, by rw [q2.2.1]; exact e2, by rw [q2.2.1]; exact e3, by rw [q2.1]; exact obV, fun _ => by rw [hsz]; exact e5 i3⟩,
    ⟨E', cfV, kV, iV, fV, q1.1, gV, stV, by rw [q2.1]; exact knV, by rw [q2.1]; exact obV, by rw [q2.2.1]; exact asV, q3⟩, ⟨E', cfC, kC, iC, fC, q1.1, gC, stC, by rw [q2.1]; exact knV, by rw [q2.1]; exact obV, by rw [q2.2.1]; exact asC, q4⟩,
    ⟨V', ⟨q5.1, State.isArrayOf_alike al'.symm q5.2.1, q5.2.2.1⟩, q6, by rw [← al'.findClass]; exact q7, q8, fun j hj => by have := q9 j hj; rwa [Nat.zero_add] at this⟩, fun O n d w F n1 n2 => ?_⟩, hl, hc, hs⟩, st⟩
  · intro y hy
    simp only [List.mem_cons, List.not_mem_nil, or_false] at hy
    rcases hy with rfl | rfl <;> rfl
  · by_cases q : y = x
    · subst q
      cases hD.symm.trans hy
      exact ⟨E', q1.1, q2.2.1, q2.1, hsz⟩
    · exact ⟨cy, q10 y cy q hy, rfl, rfl, rfl⟩
  · obtain ⟨D3, cf, k, i, f, g1, g2, g3, g4, g5, g6, g7⟩ := F
    cases hD.symm.trans g1
    simp only [RoadKit.slotOf, g2, gV, gC, Option.map_some, Option.getD_some] at n1 n2
    exact ⟨E', cf, k, i, f, q1.1, g2, g3, by rw [q2.1]; exact g4, by rw [q2.1]; exact g5, by rw [q2.2.1]; exact g6, by rw [q2.2.2 f.slot (by simp [n1, n2])]; exact g7⟩
end StrChars.Road
namespace StrChars.Road
open Jvm Sem ClassFile Op Lib Jvm.Stand Jvm.Free Jvm.Free.XT
/-- WHAT COMES BACK, the byte[] as a list of values -/
def QA (Z : State) (x : Addr) (zn : Int32) (cs : List Int32) (h : Heap) (v : Option Value) (h' : Heap) (L : List Loc) : Prop := v = none ∧ (∀ y ∈ L, y.base = x) ∧ RoadKit.Keep h h' [x] ∧ h'.size = h.size + 1 ∧ RoadKit.Exa Z h' x ST ∧ RoadKit.Fld Z h' x ST "value" "[B" (.ref h.size) ∧ RoadKit.Fld Z h' x ST "coder" "B" (.int 0) ∧
  (∃ kb, Z.vm.findClass "[B" = some kb ∧ RoadKit.Arv Z h' h.size kb .byte zn (cs.map fun c => .int (lo8 c)) (.int 0)) ∧
  ∀ (O n d : String) (w : Value), RoadKit.Fld Z h x O n d w → RoadKit.slotOf Z O n d ≠ RoadKit.slotOf Z ST "value" "[B" → RoadKit.slotOf Z O n d ≠ RoadKit.slotOf Z ST "coder" "B" → RoadKit.Fld Z h' x O n d w
/-- **new String(chars) AT A CALL, THE ARRAYS AS LISTS**: the char[] at b holds cs, not empty, no char above 255 -/
theorem backArv {p : Program} {l : Launch} {e : Env} {R : Room} {s : State} {args : Array Value} {below : List Frame} {len W : Nat} {Z : State} {a0 : Array Value} {h : Heap} (hZ : Z.Warmed39 s.vm) (hw : ∀ d ∈ words, d.before a0 Z = true) {kI : Nat} (wi : (Jvm.Cond.instantiable ST kI).before a0 Z = true)
    {x b : Addr} {k : ClassId} {zn z : Int32} {cs : List Int32} {dv v0 c0 : Value} (E : RoadKit.Exa Z h x ST) (V : RoadKit.Fld Z h x ST "value" "[B" v0) (C : RoadKit.Fld Z h x ST "coder" "B" c0) (K : RoadKit.Arv Z h b k .char zn (cs.map Value.int) dv) (S : RoadKit.Sta Z h ST "COMPACT_STRINGS" "Z" (.int z)) (hz : ¬ z = 0)
    (hlen : zn.toNatClampNeg = cs.length) (h0 : 0 < cs.length) (hbig : cs.length ≤ 536870912) (hall : ∀ c ∈ cs, ¬ 255 < c) (hfr : 4 ≤ R.frames) (hlo : W + 65 ≤ R.locals) :
    Back l R p e below s args New1.yN len W (fun P a => a = #[.ref x, .ref b] ∧ P.U.heap = h ∧ P.cells + 1 ≤ R.cells ∧ P.slots + cs.length ≤ R.slots)
      (fun P _ v B => ∃ L, QA Z x zn cs h v B.U.heap L ∧ B.locs = P.locs ++ L ∧ B.cells = P.cells + 1 ∧ B.slots = P.slots + cs.length) := by
  obtain ⟨A, K1, K2, K3, K4, K5, K6⟩ := K
  have e : A.slots.size = cs.length := K3.trans hlen
  have hat : ∀ (i : Nat) (hi : i < cs.length), A.slots[i]? = some (.int cs[i]) := fun i hi => by rw [K5 i (by omega)]; simp [List.getD_eq_getElem?_getD, hi]
  have hcv : ∀ (i : Nat) (hi : i < cs.length), cv A i = cs[i] := fun i hi => by unfold cv; rw [hat i hi]
  have hty : Typed .char A := fun i v hv => by
    have hi : i < A.slots.size := (Array.getElem?_eq_some_iff.mp hv).1
    have q := K5 i hi
    rw [hv] at q
    rw [Option.some.inj q]
    exact K6 i hi
  refine Back.mono (back hZ hw wi E V C K1 hty S hz (by omega) (by omega) (fun i hi => by rw [hcv i (by omega)]; exact hall _ (List.getElem_mem _)) hfr hlo) (fun P a hp => ⟨hp.1, hp.2.1, hp.2.2.1, by rw [e]; exact hp.2.2.2⟩) (fun P a v B hp hq => ?_)
  obtain ⟨L, ⟨q1, q2, q3, q4, q5, q6, q7, ⟨V', v1, v2, v3, v4, v5⟩, q9⟩, hl, hc, hs⟩ := hq
  refine ⟨L, ⟨q1, q2, q3, q4, q5, q6, q7, ⟨V'.cls, v3, V', v1, rfl, by rw [v4, e, hlen], K4, fun i hi => ?_, fun i hi => ?_⟩, q9⟩, hl, hc, by rw [hs, e]⟩
  · have hi' : i < cs.length := by omega
    rw [v5 i (by omega), hcv i hi']; simp [List.getD_eq_getElem?_getD, hi']
  · have hi' : i < cs.length := by omega
    simp only [List.getD_eq_getElem?_getD, List.getElem?_map, List.getElem?_eq_getElem hi', Option.map_some, Option.getD_some]
    exact fits_lo8 _
end StrChars.Road
namespace StrChars.Road
open Jvm Sem ClassFile Op Lib Jvm.Stand Jvm.Free Jvm.Free.XT
/-- WHAT COMES BACK, in the writer's own shape -/
def QV (Z : State) (x : Addr) (N : Int32) (bs : List Int32) (h : Heap) (n0 : Nat) (v : Option Value) (h' : Heap) (L : List Loc) : Prop := v = none ∧ RoadKit.Fr n0 L ∧ RoadKit.Keep h h' [x] ∧ RoadKit.Exa Z h' x ST ∧ RoadKit.Fld Z h' x ST "coder" "B" (.int 0) ∧
  ∃ (t : Addr) (kb : ClassId), n0 ≤ t ∧ h.size ≤ t ∧ ¬ t = x ∧ RoadKit.Fld Z h' x ST "value" "[B" (.ref t) ∧ RoadKit.Arv Z h' t kb .byte N (bs.map Value.int) (.int 0)
/-- **new String(chars) AT A CALL, FOR THE WRITER**: a char[] of n known ints, each 0 to 255 -/
theorem backV {p : Program} {l : Launch} {e : Env} {R : Room} {s : State} {args : Array Value} {below : List Frame} {len W : Nat} {Z : State} {a0 : Array Value} {h : Heap} (hZ : Z.Warmed39 s.vm) (hw : ∀ d ∈ words, d.before a0 Z = true) {kI : Nat} (wi : (Jvm.Cond.instantiable ST kI).before a0 Z = true)
    {x b : Addr} {kC : ClassId} {cs bs : List Int32} {d v0 c0 : Value} {z N : Int32} {n n0 : Nat} (hx0 : n0 ≤ x) (hh0 : n0 ≤ h.size) (E : RoadKit.Exa Z h x ST) (V : RoadKit.Fld Z h x ST "value" "[B" v0) (C : RoadKit.Fld Z h x ST "coder" "B" c0) (K : RoadKit.Arv Z h b kC .char N (cs.map Value.int) d) (S : RoadKit.Sta Z h ST "COMPACT_STRINGS" "Z" (.int z)) (hz : ¬ z = 0)
    (hn : cs.length = n) (hN : N = Int32.ofNat n) (l0 : 0 < n) (l2 : n ≤ 4000) (hp : ∀ c ∈ cs, ¬ c < 0 ∧ ¬ (255 : Int32) < c) (hb : bs = cs.map (fun c => c.toInt8.toInt32)) (hfr : 4 ≤ R.frames) (hlo : W + 65 ≤ R.locals) :
    Back l R p e below s args (⟨"java/lang/String", "<init>", "([C)V"⟩ : MethodName) len W (fun P a => a = #[.ref x, .ref b] ∧ P.U.heap = h ∧ P.cells + 1 ≤ R.cells ∧ P.slots + n ≤ R.slots)
      (fun P _ v B => ∃ L, QV Z x N bs h n0 v B.U.heap L ∧ B.locs = P.locs ++ L ∧ B.cells = P.cells + 1 ∧ B.slots = P.slots + n) := by
  subst hn hN hb
  refine Back.mono (backArv hZ hw wi E V C K S hz (n32 (by omega)) l0 (by omega) (fun c hc => (hp c hc).2) hfr hlo) (fun P a hp => hp) (fun P a v B hp hq => ?_)
  obtain ⟨L, ⟨q1, q2, q3, q4, q5, q6, q7, ⟨kb, v1, v2⟩, q9⟩, hl, hc, hs⟩ := hq
  exact ⟨L, ⟨q1, fun y hy => by rw [q2 y hy]; exact hx0, q3, q5, q7, h.size, kb, hh0, Nat.le_refl _, Nat.ne_of_gt E.lt, q6, by rw [List.map_map]; exact v2⟩, hl, hc, hs⟩
end StrChars.Road
namespace StrChars
open Jvm Sem ClassFile Op Lib Jvm.Stand Jvm.Free.XT Jvm.Free.ALB Jvm.Free.JM Jvm.Free
open Jvm.Lib.Cold (StaticIs)
def hi8 (x : Int32) : Int32 := lo8 (x >>> ((8 : Int32) &&& 31))
/-- what StringUTF16.getChar makes of two bytes -/
def pairCh (u v : Int32) : Int32 := (((u &&& 255) <<< ((0 : Int32) &&& 31)) ||| ((v &&& 255) <<< ((8 : Int32) &&& 31))).toUInt32.toUInt16.toUInt32.toInt32
theorem lo8_and (x : Int32) : (lo8 x &&& 255).toBitVec.toNat = x.toBitVec.toNat % 256 := by
  have h : (lo8 x).toBitVec = (x.toBitVec.signExtend 8).signExtend 32 := by rw [lo8, Int8.toBitVec_toInt32, Int32.toBitVec_toInt8]
  rw [Int32.toBitVec_and, BitVec.toNat_and, h]
  have e : ((x.toBitVec.signExtend 8).signExtend 32).toNat % 256 = x.toBitVec.toNat % 256 := by
    rw [BitVec.toNat_signExtend]
    have hlt := x.toBitVec.isLt
    simp only [BitVec.toNat_setWidth, BitVec.toNat_signExtend]
    split <;> split <;> omega
  rw [← e]
  exact Nat.and_two_pow_sub_one_eq_mod _ 8
theorem pair_says {c : Int32} (h0 : ¬ c < 0) (h1 : ¬ 65535 < c) : pairCh (lo8 c) (hi8 c) = c := by
  rw [Int32.lt_iff_toInt_lt] at h0 h1
  have e0 : (0 : Int32).toInt = 0 := rfl
  have e1 : (65535 : Int32).toInt = 65535 := rfl
  have hc : c.toInt = c.toBitVec.toNat := by
    have := c.toBitVec.isLt
    have e : c.toInt = c.toBitVec.toInt := rfl
    rw [e] at h0 h1
    rw [e]
    rw [BitVec.toInt_eq_toNat_cond] at h0 h1 ⊢
    split at h0 <;> split <;> omega
  have hn : c.toBitVec.toNat < 65536 := by omega
  have a1 := lo8_and c
  have a2 : (hi8 c &&& 255).toBitVec.toNat = c.toBitVec.toNat / 256 := by
    rw [hi8, lo8_and]
    have e : ((8 : Int32) &&& 31) = 8 := by decide
    rw [e, Int32.toBitVec_shiftRight]
    have e2 : ((8 : Int32).toBitVec.smod 32) = 8#32 := by decide
    rw [e2, BitVec.sshiftRight_eq', BitVec.toNat_sshiftRight_of_msb_false (by rw [BitVec.msb_eq_false_iff_two_mul_lt]; omega)]
    show c.toBitVec.toNat >>> 8 % 256 = _
    rw [Nat.shiftRight_eq_div_pow]
    omega
  unfold pairCh
  apply Int32.toBitVec_inj.mp
  apply BitVec.eq_of_toNat_eq
  have f0 : ((0 : Int32) &&& 31) = 0 := by decide
  have f8 : ((8 : Int32) &&& 31) = 8 := by decide
  rw [f0, f8]
  have g : (((lo8 c &&& 255) <<< (0 : Int32)) ||| ((hi8 c &&& 255) <<< (8 : Int32))).toBitVec.toNat = c.toBitVec.toNat := by
    rw [Int32.toBitVec_or, Int32.toBitVec_shiftLeft, Int32.toBitVec_shiftLeft]
    have s0 : ((0 : Int32).toBitVec.smod 32) = 0#32 := by decide
    have s8 : ((8 : Int32).toBitVec.smod 32) = 8#32 := by decide
    rw [s0, s8, BitVec.toNat_or]
    simp only [BitVec.shiftLeft_eq', BitVec.toNat_shiftLeft, a1, a2]
    show (c.toBitVec.toNat % 256) <<< 0 % 2 ^ 32 ||| (c.toBitVec.toNat / 256) <<< 8 % 2 ^ 32 = _
    rw [Nat.shiftLeft_zero, Nat.mod_eq_of_lt (show c.toBitVec.toNat % 256 < 2 ^ 32 by omega), Nat.mod_eq_of_lt (show (c.toBitVec.toNat / 256) <<< 8 < 2 ^ 32 by rw [Nat.shiftLeft_eq]; omega), Nat.or_comm, ← Nat.shiftLeft_add_eq_or_of_lt (by omega), Nat.shiftLeft_eq]
    omega
  show BitVec.toNat (((((lo8 c &&& 255) <<< (0 : Int32)) ||| ((hi8 c &&& 255) <<< (8 : Int32))).toBitVec.setWidth 16).setWidth 32) = _
  rw [BitVec.toNat_setWidth, BitVec.toNat_setWidth, g]
  omega
end StrChars
namespace StrChars
open Jvm Sem ClassFile Op Lib Jvm.Stand Jvm.Free.XT Jvm.Free.ALB Jvm.Free.JM Jvm.Free
open Jvm.Lib.Cold (StaticIs)
/-- the array's cell V codes the n chars f 0 .. f (n - 1) by the coder cd, as the JDK does: coder 1 just where some char is above 255 -/
def Cod (cd : Int32) (n : Nat) (f : Nat → Int32) (V : Cell) : Prop := (cd = 0 ∧ V.slots.size = n ∧ ∀ j, j < n → V.slots[j]? = some (.int (lo8 (f j))) ∧ ¬ 255 < f j) ∨ (cd = 1 ∧ V.slots.size = 2 * n ∧ (∀ j, j < n → V.slots[2 * j]? = some (.int (lo8 (f j))) ∧ V.slots[2 * j + 1]? = some (.int (hi8 (f j)))) ∧ ∃ j, j < n ∧ 255 < f j)
/-- **x is a String of the n chars f 0 .. f (n - 1)**, Latin-1 or UTF-16; its array at t has the cell V -/
def Txt (x t : Addr) (V : Cell) (cd : Int32) (n : Nat) (f : Nat → Int32) (U : State) : Prop := Exact "java/lang/String" x U ∧ Has x "java/lang/String" "value" "[B" (.ref t) U ∧ Has x "java/lang/String" "coder" "B" (.int cd) U ∧ XT.Arr .byte t V U ∧ Cod cd n f V ∧ ∀ j, j < n → ¬ f j < 0 ∧ ¬ 65535 < f j
theorem Txt.mv {x t : Addr} {V : Cell} {cd : Int32} {n : Nat} {f : Nat → Int32} {U U' : State} (h : Txt x t V cd n f U) (hal : U.vm.Alike U'.vm) (hh : U'.heap = U.heap) : Txt x t V cd n f U' := ⟨h.1.mv hal hh, h.2.1.mv hal hh, h.2.2.1.mv hal hh, h.2.2.2.1.mv hal hh, h.2.2.2.2⟩
end StrChars
namespace StrChars.Road
open Jvm Sem ClassFile Op Lib Jvm.Stand Jvm.Free Jvm.Free.XT
open Jvm.Lib.Cold (StaticIs)
theorem consq {a : Array Value} {s : State} {c : Jvm.Cond} {L : List Jvm.Cond} (h0 : c.before a s = true) (h : ∀ w ∈ L, w.before a s = true) : ∀ w ∈ c :: L, w.before a s = true := fun w hw => (List.mem_cons.mp hw).elim (fun e => e ▸ h0) (h w)
/-- the bytes of the chars cs, low before high -/
def wideBytes : List Int32 → List Value
  | [] => []
  | c :: cs => .int (lo8 c) :: .int (hi8 c) :: wideBytes cs
theorem wide_lo (d : Value) : ∀ (cs : List Int32) (j : Nat), j < cs.length → (wideBytes cs).getD (2 * j) d = .int (lo8 (cs.getD j 0))
  | [], j, h => absurd h (Nat.not_lt_zero j)
  | c :: cs, 0, _ => rfl
  | c :: cs, j + 1, h => by
    have q := wide_lo d cs j (by simpa using h)
    rw [show 2 * (j + 1) = 2 * j + 1 + 1 from by omega]
    simpa [wideBytes] using q
theorem wide_hi (d : Value) : ∀ (cs : List Int32) (j : Nat), j < cs.length → (wideBytes cs).getD (2 * j + 1) d = .int (hi8 (cs.getD j 0))
  | [], j, h => absurd h (Nat.not_lt_zero j)
  | c :: cs, 0, _ => rfl
  | c :: cs, j + 1, h => by
    have q := wide_hi d cs j (by simpa using h)
    rw [show 2 * (j + 1) + 1 = 2 * j + 1 + 1 + 1 from by omega]
    simpa [wideBytes] using q
theorem low_at (d : Value) (cs : List Int32) (j : Nat) (h : j < cs.length) : (cs.map fun c => Value.int (lo8 c)).getD j d = .int (lo8 (cs.getD j 0)) := by
  simp [List.getD_eq_getElem?_getD, h]
/-- an array of N2 bytes vs codes the chars cs by the coder cd -/
def CodA (cs : List Int32) (cd N2 : Int32) (vs : List Value) : Prop := (cd = 0 ∧ N2 = Int32.ofNat cs.length ∧ vs = (cs.map fun c => Value.int (lo8 c)) ∧ ∀ c ∈ cs, ¬ 255 < c) ∨ (cd = 1 ∧ N2 = Int32.ofNat (2 * cs.length) ∧ vs = wideBytes cs ∧ ∃ c ∈ cs, 255 < c)
theorem CodA.cod {cs : List Int32} {cd N2 : Int32} {vs : List Value} {V : Cell} (h : CodA cs cd N2 vs) (hn : 2 * cs.length < 2 ^ 31) (hs : V.slots.size = N2.toNatClampNeg) (hv : RoadKit.Has V vs (.int 0)) : Cod cd cs.length (fun j => cs.getD j 0) V := by
  rcases h with ⟨rfl, rfl, rfl, h⟩ | ⟨rfl, rfl, rfl, c, hc, hw⟩
  · rw [n32 (by omega)] at hs
    exact Or.inl ⟨rfl, hs, fun j hj => ⟨by rw [hv j (by omega), low_at _ _ _ hj], by
      have e : cs.getD j 0 = cs[j] := by simp [List.getD_eq_getElem?_getD, hj]
      show ¬ 255 < cs.getD j 0
      rw [e]; exact h _ (List.getElem_mem _)⟩⟩
  · rw [n32 (by omega)] at hs
    obtain ⟨j, hj, rfl⟩ := List.getElem_of_mem hc
    exact Or.inr ⟨rfl, hs, fun j hj => ⟨by rw [hv _ (by omega), wide_lo _ _ _ hj], by rw [hv _ (by omega), wide_hi _ _ _ hj]⟩, j, hj, by
      have e : cs.getD j 0 = cs[j] := by simp [List.getD_eq_getElem?_getD, hj]
      show 255 < cs.getD j 0
      rw [e]; exact hw⟩
/-- an object of exactly java/lang/String, its two fields found: as the laws ask it -/
theorem strObj {Z U : State} {a0 : Array Value} {kI : Nat} (wi : (Jvm.Cond.instantiable ST kI).before a0 Z = true) (al : Z.vm.Alike U.vm) {x : Addr} {v0 c0 : Value} (E : RoadKit.Exa Z U.heap x ST) (V : RoadKit.Fld Z U.heap x ST "value" "[B" v0) (C : RoadKit.Fld Z U.heap x ST "coder" "B" c0) :
    ∃ (D : Cell) (fV fC : Field), Blank ST x D U ∧ Found ST "value" "[B" fV U ∧ Found ST "coder" "B" fC U ∧ D.slots[fV.slot]? = some v0 ∧ D.slots[fC.slot]? = some c0 ∧ RoadKit.slotOf Z ST "value" "[B" = fV.slot ∧ RoadKit.slotOf Z ST "coder" "B" = fC.slot := by
  obtain ⟨D, cfV, kV, iV, fV, hD, gV, stV, knV, obV, asV, slV⟩ := V
  obtain ⟨D', cfC, kC, iC, fC, hD', gC, stC, -, -, asC, slC⟩ := C
  cases hD.symm.trans hD'
  obtain ⟨D2, kD, e1, e2, e3, e4, e5⟩ := E
  cases hD.symm.trans e1
  obtain ⟨c2, k2, i1, i2, i3, -⟩ := Cond.instantiable_spec wi
  cases e2.symm.trans i1
  cases e3.symm.trans i2
  obtain ⟨kU, u1, u2⟩ := al.2.2 _ _ e3
  exact ⟨D, fV, fC, ⟨hD, ⟨knV, fun q hq => by rw [hq] at obV; cases obV⟩, by rw [al.findClass]; exact e2, kU, u1, by rw [u2]; exact i3, by rw [u2]; exact e5 i3⟩, ⟨SBG.found_only al ⟨cfV, kV, iV, gV⟩, stV⟩, ⟨SBG.found_only al ⟨cfC, kC, iC, gC⟩, stC⟩, slV, slC, by simp [RoadKit.slotOf, gV], by simp [RoadKit.slotOf, gC]⟩
theorem sta_is {Z U : State} (al : Z.vm.Alike U.vm) {C n d : String} {v : Value} (S : RoadKit.Sta Z U.heap C n d v) : StaticIs U C n d v := by
  obtain ⟨cfS, iS, kS, fS, st, cS, t1, t2, t3, t4, t5, t6, t7⟩ := S
  exact StaticIs.there (s := { Z with heap := U.heap }) ⟨cfS, iS, kS, fS, st, cS, t1, t2, t3, t4, t5, (fun q => by rw [q] at t6; cases t6), t7⟩ al rfl
end StrChars.Road
namespace StrChars
open Jvm Sem ClassFile Op Lib Jvm.Stand Jvm.Free.XT Jvm.Free.ALB Jvm.Free.JM Jvm.Free
open Jvm.Lib.Cold (StaticIs)
/-- what place i of a byte[]'s cell holds -/
def yv (A : Cell) (i : Nat) : Int32 := match A.slots[i]? with | some (.int x) => x | _ => 0
theorem yv_get {a : Addr} {A : Cell} {U : State} (h : XT.Arr .byte a A U) (ht : Typed .byte A) {i : Nat} (hi : i < A.slots.size) : A.slots[i]? = some (.int (yv A i)) := by
  have e := Array.getElem?_eq_getElem hi
  have f := ht i _ e
  unfold yv; rw [e]
  generalize A.slots[i] = v at f
  cases v <;> simp [fits] at f ⊢
/-- the two arrays are equal, place for place -/
def EqC (A B : Cell) : Prop := A.slots.size = B.slots.size ∧ ∀ i, i < A.slots.size → yv A i = yv B i
/-- a boolean that says whether p -/
def Says01 (q : Prop) (r : Option Value) (s u : State) : Prop := ∃ v : Int32, r = some (.int v) ∧ u.heap = s.heap ∧ ((v = 1 ∧ q) ∨ (v = 0 ∧ ¬ q))
theorem Says01.mv {q : Prop} : ∀ r (U U' V V' : State), U'.heap = U.heap → V.vm.Alike V'.vm → V'.heap = V.heap → Says01 q r U V → Says01 q r U' V' :=
  fun r U U' V V' h1 _ h2 ⟨v, a, b, c⟩ => ⟨v, a, by rw [h1, h2]; exact b, c⟩
namespace LEq
def yN : MethodName := ⟨"java/lang/StringLatin1", "equals", "([B[B)Z"⟩
abbrev yB : ByteArray := jdk_43_method_13_code
theorem d0 : decode yB 0 = .ok (.aload_n 0, 1) := by decide +kernel
theorem d1 : decode yB 1 = .ok (.arraylength, 1) := by decide +kernel
theorem d2 : decode yB 2 = .ok (.aload_n 1, 1) := by decide +kernel
theorem d3 : decode yB 3 = .ok (.arraylength, 1) := by decide +kernel
theorem d4 : decode yB 4 = .ok (.if_icmp (.ne) 30, 3) := by decide +kernel
theorem d7 : decode yB 7 = .ok (.iconst 0, 1) := by decide +kernel
theorem d8 : decode yB 8 = .ok (.istore_n 2, 1) := by decide +kernel
theorem d9 : decode yB 9 = .ok (.iload_n 2, 1) := by decide +kernel
theorem d10 : decode yB 10 = .ok (.aload_n 0, 1) := by decide +kernel
theorem d11 : decode yB 11 = .ok (.arraylength, 1) := by decide +kernel
theorem d12 : decode yB 12 = .ok (.if_icmp (.ge) 20, 3) := by decide +kernel
theorem d15 : decode yB 15 = .ok (.aload_n 0, 1) := by decide +kernel
theorem d16 : decode yB 16 = .ok (.iload_n 2, 1) := by decide +kernel
theorem d17 : decode yB 17 = .ok (.baload, 1) := by decide +kernel
theorem d18 : decode yB 18 = .ok (.aload_n 1, 1) := by decide +kernel
theorem d19 : decode yB 19 = .ok (.iload_n 2, 1) := by decide +kernel
theorem d20 : decode yB 20 = .ok (.baload, 1) := by decide +kernel
theorem d21 : decode yB 21 = .ok (.if_icmp (.eq) 5, 3) := by decide +kernel
theorem d24 : decode yB 24 = .ok (.iconst 0, 1) := by decide +kernel
theorem d25 : decode yB 25 = .ok (.ireturn, 1) := by decide +kernel
theorem d26 : decode yB 26 = .ok (.iinc 2 1, 3) := by decide +kernel
theorem d29 : decode yB 29 = .ok (.goto (-20), 3) := by decide +kernel
theorem d32 : decode yB 32 = .ok (.iconst 1, 1) := by decide +kernel
theorem d33 : decode yB 33 = .ok (.ireturn, 1) := by decide +kernel
theorem d34 : decode yB 34 = .ok (.iconst 0, 1) := by decide +kernel
theorem d35 : decode yB 35 = .ok (.ireturn, 1) := by decide +kernel
def site : List Cond := []
def tab : Cond := tabOf yN yB 3 (some .boolean) site
def P (a : Addr) (A : Cell) (b : Addr) (B : Cell) (args : Array Value) (s : State) : Prop := args = #[.ref a, .ref b] ∧ XT.Arr .byte a A s ∧ Typed .byte A ∧ XT.Arr .byte b B s ∧ Typed .byte B
/-- whether two byte[] are equal, place for place -/
theorem law (l : Launch) (a : Addr) (A : Cell) (b : Addr) (B : Cell) : Law l yN 2 2 0 0 yB 3 (some .boolean) site (P a A b B) (Says01 (EqC A B)) [] 0 0 := by
  refine Law.of_walk (plainFor_of_name (by decide +kernel)) (by decide +kernel) (by decide +kernel) (by decide) (fun _ _ h => by rw [h.1]; rfl) (fun _ U U' hal hh h => ⟨h.1, h.2.1.mv hal hh, h.2.2.1, h.2.2.2.1.mv hal hh, h.2.2.2.2⟩) (fun r U U' V V' h1 hal h2 h => Says01.mv r U U' V V' h1 hal h2 h) ?_
  intro p e s m args below meth c s₁ X0 hexec hbytes hml hret hlk hnm hown hh0 W hP
  obtain ⟨rfl, hA, tA, hB, tB⟩ := hP
  have a31 := hA.2.2.2
  have b31 := hB.2.2.2
  have hA0 := hA.mv X0.warmed.alike hh0
  have hB0 := hB.mv X0.warmed.alike hh0
  have c1 : Steps p.tables e below (s₁.setTop (entryFrame m #[.ref a, .ref b] 3)) (s₁.setTop (mkF m 0 #[.val (.ref a), .val (.ref b), .unset] [])) := entry rfl
  have c2 : Steps p.tables e below (s₁.setTop (entryFrame m #[.ref a, .ref b] 3)) (s₁.setTop (mkF m 4 #[.val (.ref a), .val (.ref b), .unset] [.int (Int32.ofNat B.slots.size), .int (Int32.ofNat A.slots.size)])) := c1.trans (by
    refine XS.aloadN X0.here hexec rfl (hb hbytes d0) rfl rfl ?_
    refine X0.alen hexec hA0 rfl rfl (hb hbytes d1) ?_
    refine XS.aloadN X0.here hexec rfl (hb hbytes d2) rfl rfl ?_
    refine X0.alen hexec hB0 rfl rfl (hb hbytes d3) ?_
    exact Steps.refl _)
  by_cases hs : A.slots.size = B.slots.size
  · have c3 : Steps p.tables e below (s₁.setTop (entryFrame m #[.ref a, .ref b] 3)) (s₁.setTop (mkF m 9 #[.val (.ref a), .val (.ref b), .val (.int 0)] [])) := c2.trans (by
      refine XS.icmpNo X0.here hexec rfl (hb hbytes d4) rfl (ii_ne_f (by rw [hs])) ?_
      refine iconstV X0.here hexec rfl 0 (hb hbytes d7) (by decide) ?_
      refine XS.istoreN X0.here hexec rfl (hb hbytes d8) rfl rfl ?_
      exact Steps.refl _)
    have loop : ∀ (r i : Nat), i + r = A.slots.size → (∀ j, j < i → yv A j = yv B j) → Steps p.tables e below (s₁.setTop (entryFrame m #[.ref a, .ref b] 3)) (s₁.setTop (mkF m 9 #[.val (.ref a), .val (.ref b), .val (.int (Int32.ofNat i))] [])) → ∃ (pc : Nat) (Ls : Array Slot) (v : Int32), (pc = 25 ∨ pc = 33) ∧ ((v = 1 ∧ EqC A B) ∨ (v = 0 ∧ ¬ EqC A B)) ∧ Steps p.tables e below (s₁.setTop (entryFrame m #[.ref a, .ref b] 3)) (s₁.setTop (mkF m pc Ls [.int v])) := by
      intro r
      induction r with
      | zero =>
        intro i hi he cl
        exact ⟨33, _, 1, Or.inr rfl, Or.inl ⟨rfl, hs, fun j hj => he j (by omega)⟩, cl.trans (by
          refine XS.iloadN X0.here hexec rfl (hb hbytes d9) rfl ?_
          refine XS.aloadN X0.here hexec rfl (hb hbytes d10) rfl rfl ?_
          refine X0.alen hexec hA0 rfl rfl (hb hbytes d11) ?_
          refine XS.icmpYes X0.here hexec rfl (pc0 := 12) rfl (hb hbytes d12) rfl (ii_ge_t (nlt32 (by omega) (by omega))) (by decide) rfl ?_
          refine iconstV X0.here hexec rfl 1 (hb hbytes d32) (by decide) ?_
          exact Steps.refl _)⟩
      | succ r ih =>
        intro i hi he cl
        have c4 : Steps p.tables e below (s₁.setTop (entryFrame m #[.ref a, .ref b] 3)) (s₁.setTop (mkF m 21 #[.val (.ref a), .val (.ref b), .val (.int (Int32.ofNat i))] [.int (yv B i), .int (yv A i)])) := cl.trans (by
          refine XS.iloadN X0.here hexec rfl (hb hbytes d9) rfl ?_
          refine XS.aloadN X0.here hexec rfl (hb hbytes d10) rfl rfl ?_
          refine X0.alen hexec hA0 rfl rfl (hb hbytes d11) ?_
          refine XS.icmpNo X0.here hexec rfl (hb hbytes d12) rfl (ii_ge_f (lt32 (by omega) (by omega))) ?_
          refine XS.aloadN X0.here hexec rfl (hb hbytes d15) rfl rfl ?_
          refine XS.iloadN X0.here hexec rfl (hb hbytes d16) rfl ?_
          refine X0.aget hexec hA0 rfl (yv_get hA tA (i := i) (by omega)) rfl rfl (hb hbytes d17) ?_
          refine XS.aloadN X0.here hexec rfl (hb hbytes d18) rfl rfl ?_
          refine XS.iloadN X0.here hexec rfl (hb hbytes d19) rfl ?_
          refine X0.aget hexec hB0 rfl (yv_get hB tB (i := i) (by omega)) rfl rfl (hb hbytes d20) ?_
          exact Steps.refl _)
        by_cases hv : yv A i = yv B i
        · have c5 : Steps p.tables e below (s₁.setTop (entryFrame m #[.ref a, .ref b] 3)) (s₁.setTop (mkF m 9 #[.val (.ref a), .val (.ref b), .val (.int (Int32.ofNat i + 1))] [])) := c4.trans (by
            refine XS.icmpYes X0.here hexec rfl (pc0 := 21) rfl (hb hbytes d21) rfl (ii_eq_t hv) (by decide) rfl ?_
            refine iincV X0.here hexec rfl 1 (hb hbytes d26) (by decide) rfl rfl ?_
            refine XS.goto X0.here hexec rfl (pc0 := 29) rfl (hb hbytes d29) (by decide) rfl ?_
            exact Steps.refl _)
          rw [succ32] at c5
          exact ih (i + 1) (by omega) (fun j hj => by
            by_cases e : j = i
            · rw [e]; exact hv
            · exact he j (by omega)) c5
        · exact ⟨25, _, 0, Or.inl rfl, Or.inr ⟨rfl, fun q => hv (q.2 i (by omega))⟩, c4.trans (by
            refine XS.icmpNo X0.here hexec rfl (hb hbytes d21) rfl (ii_eq_f hv) ?_
            refine iconstV X0.here hexec rfl 0 (hb hbytes d24) (by decide) ?_
            exact Steps.refl _)⟩
    obtain ⟨pc, Ls, v, hpc, hv, cz⟩ := loop A.slots.size 0 (by omega) (fun j hj => absurd hj (Nat.not_lt_zero j)) c3
    have nv : narrow .boolean (.int v) = .int v := by rcases hv with ⟨rfl, -⟩ | ⟨rfl, -⟩ <;> rfl
    rcases hpc with rfl | rfl
    · exact ⟨s₁, some (.int v), _, _, _, X0, rfl, rfl, rfl, (fun h => by cases h), ⟨v, rfl, hh0, hv⟩, fun fs hl => cz.trans (X0.ireturnOut hexec hret nv (Or.inr (Or.inl rfl)) (hb hbytes d25) hl)⟩
    · exact ⟨s₁, some (.int v), _, _, _, X0, rfl, rfl, rfl, (fun h => by cases h), ⟨v, rfl, hh0, hv⟩, fun fs hl => cz.trans (X0.ireturnOut hexec hret nv (Or.inr (Or.inl rfl)) (hb hbytes d33) hl)⟩
  · have c3 : Steps p.tables e below (s₁.setTop (entryFrame m #[.ref a, .ref b] 3)) (s₁.setTop (mkF m 35 #[.val (.ref a), .val (.ref b), .unset] [.int 0])) := c2.trans (by
      refine XS.icmpYes X0.here hexec rfl (pc0 := 4) rfl (hb hbytes d4) rfl (ii_ne_t (ne32 a31 b31 hs)) (by decide) rfl ?_
      refine iconstV X0.here hexec rfl 0 (hb hbytes d34) (by decide) ?_
      exact Steps.refl _)
    exact ⟨s₁, some (.int 0), _, _, _, X0, rfl, rfl, rfl, (fun h => by cases h), ⟨0, rfl, hh0, Or.inr ⟨rfl, fun q => hs q.1⟩⟩, fun fs hl => c3.trans (X0.ireturnOut hexec hret rfl (Or.inr (Or.inl rfl)) (hb hbytes d35) hl)⟩
end LEq
theorem Cod.ty {cd : Int32} {n : Nat} {f : Nat → Int32} {V : Cell} (h : Cod cd n f V) : Typed .byte V := fun i v hv => by
  have hi : i < V.slots.size := (Array.getElem?_eq_some_iff.mp hv).1
  rcases h with ⟨-, k1, k2⟩ | ⟨-, k1, k2, -⟩
  · rw [(k2 i (by omega)).1] at hv; cases hv; exact fits_lo8 _
  · rcases Nat.mod_two_eq_zero_or_one i with e | e
    · obtain ⟨j, rfl⟩ : ∃ j, i = 2 * j := ⟨i / 2, by omega⟩
      rw [(k2 j (by omega)).1] at hv; cases hv; exact fits_lo8 _
    · obtain ⟨j, rfl⟩ : ∃ j, i = 2 * j + 1 := ⟨i / 2, by omega⟩
      rw [(k2 j (by omega)).2] at hv; cases hv; exact fits_lo8 _
/-- the same text -/
def SameT (n : Nat) (f : Nat → Int32) (k : Nat) (g : Nat → Int32) : Prop := n = k ∧ ∀ j, j < n → f j = g j
theorem lo8_inj {x y : Int32} (h0 : ¬ x < 0) (h1 : ¬ 255 < x) (k0 : ¬ y < 0) (k1 : ¬ 255 < y) (h : lo8 x = lo8 y) : x = y := by
  rw [← lo8_mask h0 h1, ← lo8_mask k0 k1, h]
/-- arrays coded by one coder are equal just where the texts are -/
theorem Cod.eqv {cd : Int32} {n k : Nat} {f g : Nat → Int32} {V V' : Cell} (h : Cod cd n f V) (h' : Cod cd k g V') (hf : ∀ j, j < n → ¬ f j < 0 ∧ ¬ 65535 < f j) (hg : ∀ j, j < k → ¬ g j < 0 ∧ ¬ 65535 < g j) : EqC V V' ↔ SameT n f k g := by
  have yvv : ∀ {W : Cell} {i : Nat} {x : Int32}, W.slots[i]? = some (.int x) → yv W i = x := fun q => by unfold yv; rw [q]
  rcases h with ⟨rfl, k1, k2⟩ | ⟨rfl, k1, k2, -⟩
  · rcases h' with ⟨-, m1, m2⟩ | ⟨e, -⟩
    · constructor
      · rintro ⟨e1, e2⟩
        refine ⟨by omega, fun j hj => ?_⟩
        have q := e2 j (by omega)
        rw [yvv (k2 j hj).1, yvv (m2 j (by omega)).1] at q
        exact lo8_inj (hf j hj).1 (k2 j hj).2 (hg j (by omega)).1 (m2 j (by omega)).2 q
      · rintro ⟨rfl, e2⟩
        refine ⟨by omega, fun j hj => ?_⟩
        rw [yvv (k2 j (by omega)).1, yvv (m2 j (by omega)).1, e2 j (by omega)]
    · exact absurd e (by decide)
  · rcases h' with ⟨e, -⟩ | ⟨-, m1, m2, -⟩
    · exact absurd e (by decide)
    · constructor
      · rintro ⟨e1, e2⟩
        refine ⟨by omega, fun j hj => ?_⟩
        have q1 := e2 (2 * j) (by omega)
        have q2 := e2 (2 * j + 1) (by omega)
        rw [yvv (k2 j hj).1, yvv (m2 j (by omega)).1] at q1
        rw [yvv (k2 j hj).2, yvv (m2 j (by omega)).2] at q2
        rw [← pair_says (hf j hj).1 (hf j hj).2, ← pair_says (hg j (by omega)).1 (hg j (by omega)).2, q1, q2]
      · rintro ⟨rfl, e2⟩
        refine ⟨by omega, fun i hi => ?_⟩
        rcases Nat.mod_two_eq_zero_or_one i with e | e
        · obtain ⟨j, rfl⟩ : ∃ j, i = 2 * j := ⟨i / 2, by omega⟩
          rw [yvv (k2 j (by omega)).1, yvv (m2 j (by omega)).1, e2 j (by omega)]
        · obtain ⟨j, rfl⟩ : ∃ j, i = 2 * j + 1 := ⟨i / 2, by omega⟩
          rw [yvv (k2 j (by omega)).2, yvv (m2 j (by omega)).2, e2 j (by omega)]
/-- two codings differ: so do the texts -/
theorem Cod.dif {cd cd' : Int32} {n k : Nat} {f g : Nat → Int32} {V V' : Cell} (h : Cod cd n f V) (h' : Cod cd' k g V') (hne : ¬ cd = cd') : ¬ SameT n f k g := by
  rintro ⟨rfl, e⟩
  rcases h with ⟨rfl, -, k2⟩ | ⟨rfl, -, -, j, hj, hw⟩
  · rcases h' with ⟨rfl, -⟩ | ⟨-, -, -, j, hj, hw⟩
    · exact hne rfl
    · exact (k2 j hj).2 (by rw [e j hj]; exact hw)
  · rcases h' with ⟨-, -, m2⟩ | ⟨rfl, -⟩
    · exact (m2 j hj).2 (by rw [← e j hj]; exact hw)
    · exact hne rfl
/-- an object of exactly C is an instance of C -/
theorem cinst {p : Program} {l : Launch} {e : Env} {R : Room} {s : State} {m : MethodId} {args : Array Value} {below : List Frame} {meth : Method} {c : Code} {T : State} {locs : List Loc} {cells slots : Nat} (X : Stand p l e R s m args below meth c T locs cells slots) (hexec : p.tables.exec = Jvm.exec) {own C : String} {index : Nat} (hown : s.vm.findClass own = some m.cls) (hlink : (Cond.classLink own index C).before args s = true) {a : Addr} (hE : Exact C a T)
    {g : JFrame} (hg : g.method = m) {rest : List Value} (hstack : g.stack = .ref a :: rest) (hdg : decode c.code g.pc = .ok (.instanceof index, 3)) :
    ∃ T', Stand p l e R s m args below meth c T' locs cells slots ∧ T'.heap = T.heap ∧ ∀ target, Steps p.tables e below (T'.setTop { g with pc := g.pc + 3, stack := .int 1 :: rest }) target → Steps p.tables e below (T.setTop g) target := by
  obtain ⟨cB, h1, D, h2, h3, h4⟩ := hE
  have h1' : s.vm.findClass C = some cB := by rw [← X.warmed.alike.findClass]; exact h1
  obtain ⟨vm', X', st⟩ := X.instanceofYes hexec hown hlink h2 h4 h1' (by rw [h3]; exact Jvm.Free.SB.assignable_self _ _) hg hstack hdg
  exact ⟨_, X', rfl, st⟩
theorem cself {p : Program} {l : Launch} {e : Env} {R : Room} {s : State} {m : MethodId} {args : Array Value} {below : List Frame} {meth : Method} {c : Code} {T : State} {locs : List Loc} {cells slots : Nat} (X : Stand p l e R s m args below meth c T locs cells slots) (hexec : p.tables.exec = Jvm.exec) {own C : String} {index : Nat} (hown : s.vm.findClass own = some m.cls) (hlink : (Cond.classLink own index C).before args s = true) {a : Addr} (hE : Exact C a T)
    {g : JFrame} (hg : g.method = m) {rest : List Value} (hstack : g.stack = .ref a :: rest) (hdg : decode c.code g.pc = .ok (.checkcast index, 3)) :
    ∃ T', Stand p l e R s m args below meth c T' locs cells slots ∧ T'.heap = T.heap ∧ ∀ target, Steps p.tables e below (T'.setTop { g with pc := g.pc + 3, stack := .ref a :: rest }) target → Steps p.tables e below (T.setTop g) target := by
  obtain ⟨cB, h1, D, h2, h3, h4⟩ := hE
  have h1' : s.vm.findClass C = some cB := by rw [← X.warmed.alike.findClass]; exact h1
  obtain ⟨vm', X', st⟩ := X.checkcastYes hexec hown hlink h2 h4 h1' (by rw [h3]; exact Jvm.Free.SB.assignable_self _ _) hg hstack hdg
  exact ⟨_, X', rfl, fun t h => st t (by rw [← hstack] at h; exact h)⟩
namespace SEq
def yN : MethodName := ⟨"java/lang/String", "equals", "(Ljava/lang/Object;)Z"⟩
abbrev yB : ByteArray := jdk_42_method_66_code
theorem d0 : decode yB 0 = .ok (.aload_n 0, 1) := by decide +kernel
theorem d1 : decode yB 1 = .ok (.aload_n 1, 1) := by decide +kernel
theorem d2 : decode yB 2 = .ok (.if_acmp (.ne) 5, 3) := by decide +kernel
theorem d5 : decode yB 5 = .ok (.iconst 1, 1) := by decide +kernel
theorem d6 : decode yB 6 = .ok (.ireturn, 1) := by decide +kernel
theorem d7 : decode yB 7 = .ok (.aload_n 1, 1) := by decide +kernel
theorem d8 : decode yB 8 = .ok (.instanceof 10, 3) := by decide +kernel
theorem d11 : decode yB 11 = .ok (.ifCond (.eq) 43, 3) := by decide +kernel
theorem d14 : decode yB 14 = .ok (.aload_n 1, 1) := by decide +kernel
theorem d15 : decode yB 15 = .ok (.checkcast 10, 3) := by decide +kernel
theorem d18 : decode yB 18 = .ok (.astore_n 2, 1) := by decide +kernel
theorem d19 : decode yB 19 = .ok (.getstatic 38, 3) := by decide +kernel
theorem d22 : decode yB 22 = .ok (.ifCond (.eq) 14, 3) := by decide +kernel
theorem d25 : decode yB 25 = .ok (.aload_n 0, 1) := by decide +kernel
theorem d26 : decode yB 26 = .ok (.getfield 15, 3) := by decide +kernel
theorem d29 : decode yB 29 = .ok (.aload_n 2, 1) := by decide +kernel
theorem d30 : decode yB 30 = .ok (.getfield 15, 3) := by decide +kernel
theorem d33 : decode yB 33 = .ok (.if_icmp (.ne) 21, 3) := by decide +kernel
theorem d36 : decode yB 36 = .ok (.aload_n 0, 1) := by decide +kernel
theorem d37 : decode yB 37 = .ok (.getfield 9, 3) := by decide +kernel
theorem d40 : decode yB 40 = .ok (.aload_n 2, 1) := by decide +kernel
theorem d41 : decode yB 41 = .ok (.getfield 9, 3) := by decide +kernel
theorem d44 : decode yB 44 = .ok (.invokestatic 541, 3) := by decide +kernel
theorem d47 : decode yB 47 = .ok (.ifCond (.eq) 7, 3) := by decide +kernel
theorem d50 : decode yB 50 = .ok (.iconst 1, 1) := by decide +kernel
theorem d51 : decode yB 51 = .ok (.goto 4, 3) := by decide +kernel
theorem d54 : decode yB 54 = .ok (.iconst 0, 1) := by decide +kernel
theorem d55 : decode yB 55 = .ok (.ireturn, 1) := by decide +kernel
def site : List Cond := [.classLink "java/lang/String" 10 "java/lang/String", .fieldLink "java/lang/String" 38 "java/lang/String" "COMPACT_STRINGS" "Z", .fieldLink "java/lang/String" 15 "java/lang/String" "coder" "B", .fieldLink "java/lang/String" 9 "java/lang/String" "value" "[B", LEq.tab] ++ staticW "java/lang/String" 541 LEq.yN
def tab : Cond := tabOf yN yB 3 (some .boolean) site
def P (x t : Addr) (V : Cell) (cd : Int32) (n : Nat) (f : Nat → Int32) (y t' : Addr) (V' : Cell) (cd' : Int32) (k : Nat) (g : Nat → Int32) (z : Int32) (args : Array Value) (s : State) : Prop := args = #[.ref x, .ref y] ∧ Txt x t V cd n f s ∧ Txt y t' V' cd' k g s ∧ StaticIs s "java/lang/String" "COMPACT_STRINGS" "Z" (.int z) ∧ ¬ z = 0
/-- equals(Object) of two Strings: whether the texts are the same -/
theorem law (l : Launch) (x t : Addr) (V : Cell) (cd : Int32) (n : Nat) (f : Nat → Int32) (y t' : Addr) (V' : Cell) (cd' : Int32) (k : Nat) (g : Nat → Int32) (z : Int32) : Law l yN 2 1 1 14 yB 3 (some .boolean) site (P x t V cd n f y t' V' cd' k g z) (Says01 (SameT n f k g)) [] 0 0 := by
  refine Law.of_walk (plainFor_of_name (by decide +kernel)) (by decide +kernel) (by decide +kernel) (by decide) (fun _ _ h => by rw [h.1]; rfl) (fun _ U U' hal hh h => ⟨h.1, h.2.1.mv hal hh, h.2.2.1.mv hal hh, h.2.2.2.1.there hal hh, h.2.2.2.2⟩) (fun r U U' V V' h1 hal h2 h => Says01.mv r U U' V V' h1 hal h2 h) ?_
  intro p e s m args below meth c s₁ X0 hexec hbytes hml hret hlk hnm hown hh0 W hP
  obtain ⟨rfl, hx, hy, s1, hz⟩ := hP
  have c1 : Steps p.tables e below (s₁.setTop (entryFrame m #[.ref x, .ref y] 3)) (s₁.setTop (mkF m 2 #[.val (.ref x), .val (.ref y), .unset] [.ref y, .ref x])) := Steps.trans (entry rfl) (by
    show Steps p.tables e below (s₁.setTop (mkF m 0 #[.val (.ref x), .val (.ref y), .unset] [])) _
    refine XS.aloadN X0.here hexec rfl (hb hbytes d0) rfl rfl ?_
    refine XS.aloadN X0.here hexec rfl (hb hbytes d1) rfl rfl ?_
    exact Steps.refl _)
  by_cases hxy : x = y
  · have c2 : Steps p.tables e below (s₁.setTop (entryFrame m #[.ref x, .ref y] 3)) (s₁.setTop (mkF m 6 #[.val (.ref x), .val (.ref y), .unset] [.int 1])) := c1.trans (by
      refine acmpNo X0.here hexec rfl (hb hbytes d2) rfl rfl rfl (by simp [acmp, hxy]) ?_
      refine iconstV X0.here hexec rfl 1 (hb hbytes d5) (by decide) ?_
      exact Steps.refl _)
    subst hxy
    have ec : cd = cd' := by
      obtain ⟨D, fd, a1, a2, a3⟩ := hx.2.2.1
      obtain ⟨D', fd', b1, b2, b3⟩ := hy.2.2.1
      cases a1.symm.trans b1
      obtain ⟨q1, q2, q3, q4⟩ := a2.1
      obtain ⟨r1, r2, r3, r4⟩ := b2.1
      cases q4.symm.trans r4
      cases a3.symm.trans b3; rfl
    have et : t = t' := by
      obtain ⟨D, fd, a1, a2, a3⟩ := hx.2.1
      obtain ⟨D', fd', b1, b2, b3⟩ := hy.2.1
      cases a1.symm.trans b1
      obtain ⟨q1, q2, q3, q4⟩ := a2.1
      obtain ⟨r1, r2, r3, r4⟩ := b2.1
      cases q4.symm.trans r4
      cases a3.symm.trans b3; rfl
    subst ec et
    have ev : V = V' := by cases hx.2.2.2.1.1.symm.trans hy.2.2.2.1.1; rfl
    subst ev
    have hs : SameT n f k g := (Cod.eqv hx.2.2.2.2.1 hy.2.2.2.2.1 hx.2.2.2.2.2 hy.2.2.2.2.2).mp ⟨rfl, fun _ _ => rfl⟩
    exact ⟨s₁, some (.int 1), _, _, _, X0, rfl, rfl, rfl, (fun h => by cases h), ⟨1, rfl, hh0, Or.inl ⟨rfl, hs⟩⟩, fun fs hl => c2.trans (X0.ireturnOut hexec hret rfl (Or.inr (Or.inl rfl)) (hb hbytes d6) hl)⟩
  · have c2 : Steps p.tables e below (s₁.setTop (entryFrame m #[.ref x, .ref y] 3)) (s₁.setTop (mkF m 8 #[.val (.ref x), .val (.ref y), .unset] [.ref y])) := c1.trans (by
      refine acmpYes X0.here hexec rfl (pc0 := 2) rfl (hb hbytes d2) rfl rfl rfl (by simp [acmp, hxy]) (by decide) rfl ?_
      refine XS.aloadN X0.here hexec rfl (hb hbytes d7) rfl rfl ?_
      exact Steps.refl _)
    obtain ⟨T3, X3, q3, st3⟩ := cinst X0 hexec hown (wk W (.classLink "java/lang/String" 10 "java/lang/String")) (hy.mv X0.warmed.alike hh0).1 (g := (mkF m 8 #[.val (.ref x), .val (.ref y), .unset] [.ref y])) rfl (rest := []) rfl (hb hbytes d8)
    have hh3 := q3.trans hh0
    have c4 : Steps p.tables e below (s₁.setTop (entryFrame m #[.ref x, .ref y] 3)) (T3.setTop (mkF m 15 #[.val (.ref x), .val (.ref y), .unset] [.ref y])) := (c2.trans (st3 _ (Steps.refl _))).trans (by
      refine XS.ifNo X3.here hexec rfl (hb hbytes d11) rfl (i0_eq_f (by decide)) ?_
      refine XS.aloadN X3.here hexec rfl (hb hbytes d14) rfl rfl ?_
      exact Steps.refl _)
    obtain ⟨T5, X5, q5, st5⟩ := cself X3 hexec hown (wk W (.classLink "java/lang/String" 10 "java/lang/String")) (hy.mv X3.warmed.alike hh3).1 (g := (mkF m 15 #[.val (.ref x), .val (.ref y), .unset] [.ref y])) rfl (rest := []) rfl (hb hbytes d15)
    have hh5 := q5.trans hh3
    have c6 : Steps p.tables e below (s₁.setTop (entryFrame m #[.ref x, .ref y] 3)) (T5.setTop (mkF m 19 #[.val (.ref x), .val (.ref y), .val (.ref y)] [])) := (c4.trans (st5 _ (Steps.refl _))).trans (by
      refine XS.astoreN X5.here hexec rfl (hb hbytes d18) rfl rfl rfl ?_
      exact Steps.refl _)
    obtain ⟨T7, X7, q7, st7⟩ := X5.sget hexec hown (wk W (.fieldLink "java/lang/String" 38 "java/lang/String" "COMPACT_STRINGS" "Z")) s1 (fun _ _ h => by rw [hh5]; exact h) (g := (mkF m 19 #[.val (.ref x), .val (.ref y), .val (.ref y)] [])) rfl (hb hbytes d19)
    have hh7 := q7.trans hh5
    have c8 : Steps p.tables e below (s₁.setTop (entryFrame m #[.ref x, .ref y] 3)) (T7.setTop (mkF m 26 #[.val (.ref x), .val (.ref y), .val (.ref y)] [.ref x])) := (c6.trans (st7 _ (Steps.refl _))).trans (by
      refine XS.ifNo X7.here hexec rfl (hb hbytes d22) rfl (i0_eq_f hz) ?_
      refine XS.aloadN X7.here hexec rfl (hb hbytes d25) rfl rfl ?_
      exact Steps.refl _)
    obtain ⟨T9, X9, q9, st9⟩ := X7.hget hexec hown (wk W (.fieldLink "java/lang/String" 15 "java/lang/String" "coder" "B")) (hx.mv X7.warmed.alike hh7).2.2.1 (g := (mkF m 26 #[.val (.ref x), .val (.ref y), .val (.ref y)] [.ref x])) rfl (rest := []) rfl (hb hbytes d26)
    have hh9 := q9.trans hh7
    have c10 : Steps p.tables e below (s₁.setTop (entryFrame m #[.ref x, .ref y] 3)) (T9.setTop (mkF m 30 #[.val (.ref x), .val (.ref y), .val (.ref y)] [.ref y, .int cd])) := (c8.trans (st9 _ (Steps.refl _))).trans (by
      refine XS.aloadN X9.here hexec rfl (hb hbytes d29) rfl rfl ?_
      exact Steps.refl _)
    obtain ⟨T11, X11, q11, st11⟩ := X9.hget hexec hown (wk W (.fieldLink "java/lang/String" 15 "java/lang/String" "coder" "B")) (hy.mv X9.warmed.alike hh9).2.2.1 (g := (mkF m 30 #[.val (.ref x), .val (.ref y), .val (.ref y)] [.ref y, .int cd])) rfl (rest := [.int cd]) rfl (hb hbytes d30)
    have hh11 := q11.trans hh9
    have c12 : Steps p.tables e below (s₁.setTop (entryFrame m #[.ref x, .ref y] 3)) (T11.setTop (mkF m 33 #[.val (.ref x), .val (.ref y), .val (.ref y)] [.int cd', .int cd])) := c10.trans (st11 _ (Steps.refl _))
    by_cases hcd : cd = cd'
    · subst hcd
      have c13 : Steps p.tables e below (s₁.setTop (entryFrame m #[.ref x, .ref y] 3)) (T11.setTop (mkF m 37 #[.val (.ref x), .val (.ref y), .val (.ref y)] [.ref x])) := c12.trans (by
        refine XS.icmpNo X11.here hexec rfl (hb hbytes d33) rfl (ii_ne_f rfl) ?_
        refine XS.aloadN X11.here hexec rfl (hb hbytes d36) rfl rfl ?_
        exact Steps.refl _)
      obtain ⟨T14, X14, q14, st14⟩ := X11.hget hexec hown (wk W (.fieldLink "java/lang/String" 9 "java/lang/String" "value" "[B")) (hx.mv X11.warmed.alike hh11).2.1 (g := (mkF m 37 #[.val (.ref x), .val (.ref y), .val (.ref y)] [.ref x])) rfl (rest := []) rfl (hb hbytes d37)
      have hh14 := q14.trans hh11
      have c15 : Steps p.tables e below (s₁.setTop (entryFrame m #[.ref x, .ref y] 3)) (T14.setTop (mkF m 41 #[.val (.ref x), .val (.ref y), .val (.ref y)] [.ref y, .ref t])) := (c13.trans (st14 _ (Steps.refl _))).trans (by
        refine XS.aloadN X14.here hexec rfl (hb hbytes d40) rfl rfl ?_
        exact Steps.refl _)
      obtain ⟨T16, X16, q16, st16⟩ := X14.hget hexec hown (wk W (.fieldLink "java/lang/String" 9 "java/lang/String" "value" "[B")) (hy.mv X14.warmed.alike hh14).2.1 (g := (mkF m 41 #[.val (.ref x), .val (.ref y), .val (.ref y)] [.ref y, .ref t])) rfl (rest := [.ref t]) rfl (hb hbytes d41)
      have hh16 := q16.trans hh14
      have c17 : Steps p.tables e below (s₁.setTop (entryFrame m #[.ref x, .ref y] 3)) (T16.setTop (mkF m 44 #[.val (.ref x), .val (.ref y), .val (.ref y)] [.ref t', .ref t])) := c15.trans (st16 _ (Steps.refl _))
      obtain ⟨v18, T18, X18, E18, g18⟩ := X16.callS hexec (LEq.law l t V t' V') hown (wks W (staticW "java/lang/String" 541 LEq.yN)) (wk W LEq.tab) (W := 0) (Nat.le_of_ble_eq_true rfl) (Nat.le_of_ble_eq_true rfl) (Nat.le_refl _) (Nat.le_refl _) (g := (mkF m 44 #[.val (.ref x), .val (.ref y), .val (.ref y)] [.ref t', .ref t])) rfl (by rw [hml]; rfl) c17 (argsL := [.ref t, .ref t']) (rest := []) rfl rfl (by show 2 * 0 + 0 ≤ _; decide) (hb hbytes d44) (⟨rfl, hx.2.2.2.1.mv X16.warmed.alike hh16, hx.2.2.2.2.1.ty, hy.2.2.2.1.mv X16.warmed.alike hh16, hy.2.2.2.2.1.ty⟩)
      obtain ⟨v, rfl, q18, hv⟩ := E18
      have iff := Cod.eqv hx.2.2.2.2.1 hy.2.2.2.2.1 hx.2.2.2.2.2 hy.2.2.2.2.2
      rcases hv with ⟨rfl, he⟩ | ⟨rfl, he⟩
      · have c19 : Steps p.tables e below (s₁.setTop (entryFrame m #[.ref x, .ref y] 3)) (T18.setTop (mkF m 55 #[.val (.ref x), .val (.ref y), .val (.ref y)] [.int 1])) := Steps.trans g18 (by
          refine XS.ifNo X18.here hexec rfl (hb hbytes d47) rfl (i0_eq_f (by decide)) ?_
          refine iconstV X18.here hexec rfl 1 (hb hbytes d50) (by decide) ?_
          refine XS.goto X18.here hexec rfl (pc0 := 51) rfl (hb hbytes d51) (by decide) rfl ?_
          exact Steps.refl _)
        exact ⟨T18, some (.int 1), _, _, _, X18, rfl, rfl, rfl, (fun h => by cases h), ⟨1, rfl, q18.trans hh16, Or.inl ⟨rfl, iff.mp he⟩⟩, fun fs hl => c19.trans (X18.ireturnOut hexec hret rfl (Or.inr (Or.inl rfl)) (hb hbytes d55) hl)⟩
      · have c19 : Steps p.tables e below (s₁.setTop (entryFrame m #[.ref x, .ref y] 3)) (T18.setTop (mkF m 55 #[.val (.ref x), .val (.ref y), .val (.ref y)] [.int 0])) := Steps.trans g18 (by
          refine XS.ifYes X18.here hexec rfl (pc0 := 47) rfl (hb hbytes d47) rfl (i0_eq_t rfl) (by decide) rfl ?_
          refine iconstV X18.here hexec rfl 0 (hb hbytes d54) (by decide) ?_
          exact Steps.refl _)
        exact ⟨T18, some (.int 0), _, _, _, X18, rfl, rfl, rfl, (fun h => by cases h), ⟨0, rfl, q18.trans hh16, Or.inr ⟨rfl, fun q => he (iff.mpr q)⟩⟩, fun fs hl => c19.trans (X18.ireturnOut hexec hret rfl (Or.inr (Or.inl rfl)) (hb hbytes d55) hl)⟩
    · have c13 : Steps p.tables e below (s₁.setTop (entryFrame m #[.ref x, .ref y] 3)) (T11.setTop (mkF m 55 #[.val (.ref x), .val (.ref y), .val (.ref y)] [.int 0])) := c12.trans (by
        refine XS.icmpYes X11.here hexec rfl (pc0 := 33) rfl (hb hbytes d33) rfl (ii_ne_t hcd) (by decide) rfl ?_
        refine iconstV X11.here hexec rfl 0 (hb hbytes d54) (by decide) ?_
        exact Steps.refl _)
      exact ⟨T11, some (.int 0), _, _, _, X11, rfl, rfl, rfl, (fun h => by cases h), ⟨0, rfl, hh11, Or.inr ⟨rfl, Cod.dif hx.2.2.2.2.1 hy.2.2.2.2.1 hcd⟩⟩, fun fs hl => c13.trans (X11.ireturnOut hexec hret rfl (Or.inr (Or.inl rfl)) (hb hbytes d55) hl)⟩
theorem pays {l : Launch} {R : Room} {p : Program} {e : Env} {below : List Frame} {s : State} {sargs : Array Value} {len W : Nat} (x t : Addr) (V : Cell) (cd : Int32) (n : Nat) (f : Nat → Int32) (y t' : Addr) (V' : Cell) (cd' : Int32) (k : Nat) (g : Nat → Int32) (z : Int32) (htab : tab.before sargs s = true) (hfr : 2 ≤ R.frames) (hlo : W + 28 ≤ R.locals) :
    Back l R p e below s sargs yN len W (fun A₁ a₁ => A₁.cells + 0 ≤ R.cells ∧ A₁.slots + 0 ≤ R.slots ∧ P x t V cd n f y t' V' cd' k g z a₁ A₁.U) (fun A₁ _ v₁ B₁ => Says01 (SameT n f k g) v₁ A₁.U B₁.U ∧ B₁.locs = A₁.locs ++ [] ∧ B₁.cells = A₁.cells + 0 ∧ B₁.slots = A₁.slots + 0) :=
  (law l x t V cd n f y t' V' cd' k g z).pays htab hfr (by omega)
end SEq
end StrChars
namespace StrChars.Road
open Jvm Sem ClassFile Op Lib Jvm.Stand Jvm.Free Jvm.Free.XT
open Jvm.Lib.Cold (StaticIs)
/-- the words of String.equals(Object) -/
abbrev wordsEq : List Jvm.Cond := [.code SEq.yN SEq.yB 3 (some .boolean), .initialized ST, .classLink ST 10 ST, .fieldLink ST 38 ST "COMPACT_STRINGS" "Z", .fieldLink ST 15 ST "coder" "B", .fieldLink ST 9 ST "value" "[B", .methodLink ST 541 LEq.yN, .static LEq.yN, .code LEq.yN LEq.yB 3 (some .boolean), .initialized "java/lang/StringLatin1"]
theorem tabEq_of {a : Array Value} {s : State} (h : ∀ w ∈ wordsEq, w.before a s = true) : SEq.tab.before a s = true := by
  have hl : LEq.tab.before a s = true := unparts (wk h (.code LEq.yN LEq.yB 3 (some .boolean))) (wks h (.initialized LEq.yN.cls :: LEq.site))
  have q := consq hl h
  exact unparts (wk q (.code SEq.yN SEq.yB 3 (some .boolean))) (wks q (.initialized SEq.yN.cls :: SEq.site))
theorem movedEq {Z s : State} {a0 args : Array Value} (hZ : Z.Warmed39 s.vm) (hw : ∀ d ∈ wordsEq, d.before a0 Z = true) : ∀ d ∈ wordsEq, d.before args s = true := fun d hd => by
  have t : ∀ d ∈ wordsEq, (d.onTables && d.keepsFace) = true := by decide +kernel
  exact RoadKit.mv hZ (hw d hd) (t d hd)
/-- the road's facts of a String, as the laws ask it -/
theorem txt_of {Z U : State} {a0 : Array Value} {kI : Nat} (wi : (Jvm.Cond.instantiable ST kI).before a0 Z = true) (al : Z.vm.Alike U.vm) {x t : Addr} {kb : ClassId} {cs : List Int32} {cd N2 : Int32} {vs : List Value} (E : RoadKit.Exa Z U.heap x ST) (V : RoadKit.Fld Z U.heap x ST "value" "[B" (.ref t)) (C : RoadKit.Fld Z U.heap x ST "coder" "B" (.int cd)) (K : RoadKit.Arv Z U.heap t kb .byte N2 vs (.int 0)) (hc : CodA cs cd N2 vs) (hb : ∀ c ∈ cs, ¬ c < 0 ∧ ¬ (65535 : Int32) < c) (l2 : cs.length ≤ 4000) :
    ∃ A, Txt x t A cd cs.length (fun j => cs.getD j 0) U := by
  obtain ⟨A, K1, K2, K3, K4, K5, K6⟩ := K
  have hcod := hc.cod (by omega) K3 K5
  obtain ⟨D, fV, fC, hB, F1, F2, g1, g2, -, -⟩ := strObj wi al E V C
  exact ⟨A, ⟨_, hB.2.2.1, D, hB.1, rfl, by cases q : D.vm <;> first | rfl | exact absurd q (hB.2.1.2 _)⟩, Has.of hB F1 g1, Has.of hB F2 g2, ⟨K1.1, State.isArrayOf_alike al K1.2.1, K1.2.2, by rcases hcod with ⟨-, q, -⟩ | ⟨-, q, -⟩ <;> omega⟩, hcod, fun j hj => by
    have e : cs.getD j 0 = cs[j] := by simp [List.getD_eq_getElem?_getD, hj]
    show ¬ cs.getD j 0 < 0 ∧ ¬ 65535 < cs.getD j 0
    rw [e]; exact hb _ (List.getElem_mem _)⟩
theorem same_list (cs ds : List Int32) : SameT cs.length (fun j => cs.getD j 0) ds.length (fun j => ds.getD j 0) ↔ cs = ds := by
  constructor
  · rintro ⟨e, q⟩
    refine List.ext_getElem e fun j h1 h2 => ?_
    have := q j h1
    simpa [List.getD_eq_getElem?_getD, h1, h2] using this
  · rintro rfl
    exact ⟨rfl, fun _ _ => rfl⟩
/-- **equals(Object) OF TWO SUCH STRINGS**: 1 just where the chars are the same -/
theorem eqW {p : Program} {l : Launch} {e : Env} {R : Room} {s : State} {args : Array Value} {below : List Frame} {len W : Nat} {Z : State} {a0 : Array Value} {h : Heap} (hZ : Z.Warmed39 s.vm) (hw : ∀ d ∈ wordsEq, d.before a0 Z = true) {kI : Nat} (wi : (Jvm.Cond.instantiable ST kI).before a0 Z = true)
    {x t : Addr} {kb : ClassId} {cs : List Int32} {cd N2 : Int32} {vs : List Value} (E : RoadKit.Exa Z h x ST) (V : RoadKit.Fld Z h x ST "value" "[B" (.ref t)) (C : RoadKit.Fld Z h x ST "coder" "B" (.int cd)) (K : RoadKit.Arv Z h t kb .byte N2 vs (.int 0)) (hc : CodA cs cd N2 vs) (hb : ∀ c ∈ cs, ¬ c < 0 ∧ ¬ (65535 : Int32) < c) (l2 : cs.length ≤ 4000)
    {y t' : Addr} {kb' : ClassId} {ds : List Int32} {cd' N2' : Int32} {vs' : List Value} (E' : RoadKit.Exa Z h y ST) (V' : RoadKit.Fld Z h y ST "value" "[B" (.ref t')) (C' : RoadKit.Fld Z h y ST "coder" "B" (.int cd')) (K' : RoadKit.Arv Z h t' kb' .byte N2' vs' (.int 0)) (hc' : CodA ds cd' N2' vs') (hb' : ∀ c ∈ ds, ¬ c < 0 ∧ ¬ (65535 : Int32) < c) (l2' : ds.length ≤ 4000)
    {z : Int32} (S : RoadKit.Sta Z h ST "COMPACT_STRINGS" "Z" (.int z)) (hz : ¬ z = 0) (hfr : 2 ≤ R.frames) (hlo : W + 28 ≤ R.locals) :
    Back l R p e below s args (⟨"java/lang/String", "equals", "(Ljava/lang/Object;)Z"⟩ : MethodName) len W (fun P a => a = #[.ref x, .ref y] ∧ P.U.heap = h ∧ P.cells + 0 ≤ R.cells ∧ P.slots + 0 ≤ R.slots)
      (fun P _ v B => ∃ L, (((v = some (.int 1) ∧ cs = ds) ∨ (v = some (.int 0) ∧ ¬ cs = ds)) ∧ L = [] ∧ B.U.heap = h) ∧ B.locs = P.locs ++ L ∧ B.cells = P.cells + 0 ∧ B.slots = P.slots + 0) := by
  intro m meth c P g ig mk a X hg hsize hdg hW hn hp'
  obtain ⟨rfl, rfl, r1, r2⟩ := hp'
  have al : Z.vm.Alike P.U.vm := hZ.alike.trans X.warmed.alike
  obtain ⟨A, hx⟩ := txt_of wi al E V C K hc hb l2
  obtain ⟨A', hy⟩ := txt_of wi al E' V' C' K' hc' hb' l2'
  obtain ⟨v, B, X', ⟨⟨w, hv, hh, hq⟩, hl, hk, hs⟩, st⟩ := SEq.pays x t A cd cs.length (fun j => cs.getD j 0) y t' A' cd' ds.length (fun j => ds.getD j 0) z (tabEq_of (movedEq hZ hw)) hfr hlo m meth c P g ig mk _ X hg hsize hdg hW hn ⟨r1, r2, rfl, hx, hy, sta_is al S, hz⟩
  refine ⟨v, B, X', ⟨[], ⟨?_, rfl, hh⟩, hl, hk, hs⟩, st⟩
  rcases hq with ⟨rfl, q⟩ | ⟨rfl, q⟩
  · exact Or.inl ⟨hv, (same_list cs ds).mp q⟩
  · exact Or.inr ⟨hv, fun e => q ((same_list cs ds).mpr e)⟩
end StrChars.Road
namespace StrChars.Road
open Jvm Sem ClassFile Op Lib Jvm.Stand Jvm.Free Jvm.Free.XT
open Jvm.Lib.Cold (StaticIs)
/-- what backV says of its String, as the contracts of this text ask it: cs's low bytes, coder 0 -/
theorem codOf {cs : List Int32} {n : Nat} (hn : cs.length = n) (hb : ∀ c ∈ cs, ¬ 255 < c) : CodA cs 0 (Int32.ofNat n) ((cs.map lo8).map Value.int) := Or.inl ⟨rfl, by rw [hn], by simp [List.map_map, Function.comp_def], hb⟩
end StrChars.Road
end Jvm.Pilot.@@N@@

namespace Jvm.RoadKit
open Sem ClassFile Op Lib Jvm.Stand Jvm.Free Jvm.LawKit
section New
variable {p : Program} {l : Launch} {e : Env} {R : Room} {s : State} {m : MethodId} {args : Array Value} {below : List Frame} {meth : Method} {c : Code} {T : State} {locs : List Loc} {cells slots : Nat}
theorem retI (X : Stand p l e R s m args below meth c T locs cells slots) (hx : p.tables.exec = Jvm.exec) {pc : Nat} {Ls : Array Slot} {z : Int32} {rest : List Value} (hret : meth.sig.returnType = some .int) (hd : decode c.code pc = .ok (.ireturn, 1)) {fs : List Frame}
    (hl : ∀ (f : JFrame) (acts : List Action), f.method = m → f.locked = none → f.entered = [] → (doReturn e (T.setTop f) acts (some (.int z))).1 = T.setFrames fs) : Steps p.tables e below (T.setTop (mkF m pc Ls (.int z :: rest))) (T.setFrames fs) := by
  have hm' : T.vm.method? m = some meth := X.method'
  have hn : narrow .int (.int z) = .int z := rfl
  show Steps p.tables e below (T.setTop { method := m, pc := pc, locals := Ls, stack := _ :: rest, locked := none }) _
  jvm_step X.here [X.here.top, hx, hd, hm', hret, hn]
  first | (intro acts; rw [hl _ acts rfl rfl rfl]) | rw [hl _ _ rfl rfl rfl]
  exact Steps.refl _
theorem own_retJ (X : Stand p l e R s m args below meth c T locs cells slots) (hx : p.tables.exec = Jvm.exec) {pc : Nat} {Ls : Array Slot} {z : Int64} {rest : List Value} (hret : meth.sig.returnType = some .long) (hd : decode c.code pc = .ok (.lreturn, 1)) {fs : List Frame}
    (hl : ∀ (f : JFrame) (acts : List Action), f.method = m → f.locked = none → f.entered = [] → (doReturn e (T.setTop f) acts (some (.long z))).1 = T.setFrames fs) : Steps p.tables e below (T.setTop (mkF m pc Ls (.long z :: rest))) (T.setFrames fs) := by
  have hm' : T.vm.method? m = some meth := X.method'
  show Steps p.tables e below (T.setTop { method := m, pc := pc, locals := Ls, stack := _ :: rest, locked := none }) _
  jvm_step X.here [X.here.top, hx, hd, hm', hret, narrow]
  first | (intro acts; rw [hl _ acts rfl rfl rfl]) | rw [hl _ _ rfl rfl rfl]
  exact Steps.refl _
theorem own_retR (X : Stand p l e R s m args below meth c T locs cells slots) (hx : p.tables.exec = Jvm.exec) {pc : Nat} {Ls : Array Slot} {z : Value} (hz : z.isRef = true) {rest : List Value} {t : FieldType} (hret : meth.sig.returnType = some t) (ht : t.isReference = true) (hd : decode c.code pc = .ok (.areturn, 1)) {fs : List Frame}
    (hl : ∀ (f : JFrame) (acts : List Action), f.method = m → f.locked = none → f.entered = [] → (doReturn e (T.setTop f) acts (some z)).1 = T.setFrames fs) : Steps p.tables e below (T.setTop (mkF m pc Ls (z :: rest))) (T.setFrames fs) := by
  have hm' : T.vm.method? m = some meth := X.method'
  show Steps p.tables e below (T.setTop { method := m, pc := pc, locals := Ls, stack := _ :: rest, locked := none }) _
  rcases ref_cases hz with rfl | ⟨a, rfl⟩ <;> cases t <;> first
    | (simp [FieldType.isReference] at ht; done)
    | (jvm_step X.here [X.here.top, hx, hd, hm', hret, Value.isRef, FieldType.isReference]
       first | (intro acts; rw [hl _ acts rfl rfl rfl]) | rw [hl _ _ rfl rfl rfl]
       exact Steps.refl _)
/-- the walk goes on: from this frame the body comes to an end at which P holds -/
def own_G (tb : Tables) (e : Env) (below : List Frame) (T : State) (f : JFrame) (P : State → Outcome → Prop) : Prop := ∃ s₂ o, Steps tb e below (T.setTop f) s₂ ∧ P s₂ o
def own_P (below : List Frame) (s : State) (Q : Option Value → Heap → List Loc → Prop) (ck kk : Nat) : State → Outcome → Prop := fun s₂ o => s₂.status = .running ∧ Ended s₂ below o ∧ ∃ v L, o = .returned v ∧ Q v s₂.heap L ∧ FrameEnd s o s₂ L ck kk
theorem own_go {tb : Tables} {e : Env} {below : List Frame} {T T' : State} {f f' : JFrame} {P : State → Outcome → Prop} (h : ∀ t, Steps tb e below (T'.setTop f') t → Steps tb e below (T.setTop f) t) (g : own_G tb e below T' f' P) : own_G tb e below T f P := by
  obtain ⟨a, o, h1, h2⟩ := g; exact ⟨a, o, h a h1, h2⟩
theorem own_end (X : Stand p l e R s m args below meth c T locs cells slots) (hlocks : meth.locks = false) {v : Option Value} (hv : meth.sig.returnType = none → v = none) {f : JFrame}
    (hret : ∀ fs, (∀ (f : JFrame) (acts : List Action), f.method = m → f.locked = none → f.entered = [] → (doReturn e (T.setTop f) acts v).1 = T.setFrames fs) → Steps p.tables e below (T.setTop f) (T.setFrames fs))
    {Q : Option Value → Heap → List Loc → Prop} {h : Heap} (eT : T.heap = h) (hQ : Q v h locs) {ck kk : Nat} (hc : cells ≤ ck) (hk : slots ≤ kk) : own_G p.tables e below T f (own_P below s Q ck kk) := by
  obtain ⟨fs, hr, hrun, hended, hW, hsame⟩ := X.leave (v := v) hv hlocks
  subst eT
  exact ⟨_, _, hret fs hr, hrun, hended, _, _, rfl, hQ, ⟨_, rfl⟩, hW, hsame.mono hc hk⟩
theorem own_top {tb : Tables} {e : Env} {below : List Frame} {T : State} {f f' : JFrame} {s : State} {Q : Option Value → Heap → List Loc → Prop} {ck kk : Nat} (ef : f = f') (g : own_G tb e below T f' (own_P below s Q ck kk)) :
    ∃ s₂ o, Steps tb e below (T.setTop f) s₂ ∧ s₂.status = .running ∧ Ended s₂ below o ∧ ∃ v L, o = .returned v ∧ Q v s₂.heap L ∧ FrameEnd s o s₂ L ck kk := by
  subst ef; exact g
theorem own_sk {Z : State} {h h' : Heap} {C n d : String} {v : Value} {ws : List Addr} (F : Sta Z h C n d v) (K : Keep h h' ws) (q : ∀ x ∈ ws, ∀ c : Cell, h[x]? = some c → c.vm.isStatics = false) : Sta Z h' C n d v := by
  obtain ⟨cf, i, k, f, st, cell, h1, h2, h3, h4, h5, h6, h7⟩ := F
  exact ⟨cf, i, k, f, st, cell, h1, h2, h3, h4, K.2.1 st cell h5 (fun hm => by have := q st hm cell h5; rw [h6] at this; cases this), h6, h7⟩
theorem own_ak {Z : State} {h h' : Heap} {a : Addr} {c : Cell} {ty : FieldType} (A : Arr Z h a c ty) (K : Keep h h' []) : Arr Z h' a c ty := ⟨K.2.1 a c A.1 List.not_mem_nil, A.2⟩
theorem own_akn {Z : State} {h h' : Heap} {a : Addr} {c : Cell} {ty : FieldType} {ws : List Addr} (A : Arr Z h a c ty) (K : Keep h h' ws) (q : a ∉ ws) : Arr Z h' a c ty := ⟨K.2.1 a c A.1 q, A.2⟩
theorem own_plv {Z : State} {h : Heap} {a : Addr} {k : ClassId} {ty : FieldType} {n : Int32} {vs : List Value} {d : Value} (A : Arv Z h a k ty n vs d) : ∀ c : Cell, h[a]? = some c → c.vm.isStatics = false := fun c hc => by
  obtain ⟨cl, A, -⟩ := A; have := A.1; rw [this] at hc; cases hc; exact A.plain
theorem own_pl {Z : State} {h : Heap} {a : Addr} {C : String} (E : Exa Z h a C) : ∀ c : Cell, h[a]? = some c → c.vm.isStatics = false := fun c hc => by
  obtain ⟨cell, k, h1, _, _, h4, _⟩ := E; rw [h1] at hc; cases hc; exact h4
theorem own_pl1 {h : Heap} {a : Addr} (q : ∀ c : Cell, h[a]? = some c → c.vm.isStatics = false) : ∀ x ∈ [a], ∀ c : Cell, h[x]? = some c → c.vm.isStatics = false := fun x hx => by
  cases List.mem_singleton.mp hx; exact q
end New
end Jvm.RoadKit
namespace Jvm.Pilot.@@N@@
open Jvm Jvm.ClassFile Sem Op Lib Jvm.Free Jvm.Stand Jvm.LawKit Jvm.RoadKit Bundle Jvm.Pilot.@@N@@.Jvm.D
theorem own_pd0 : parseMethodDescriptor "(C)Z" = some ⟨[.char], some .boolean⟩ := by decide +kernel
theorem own_pd1 : parseMethodDescriptor "(C)[B" = some ⟨[.char], some (.array .byte)⟩ := by decide +kernel
theorem own_pd2 : parseMethodDescriptor "([BB)V" = some ⟨[(.array .byte), .byte], none⟩ := by decide +kernel
theorem own_pd3 : parseMethodDescriptor "(Ljava/lang/Object;)Z" = some ⟨[(.object "java/lang/Object")], some .boolean⟩ := by decide +kernel
theorem own_pd4 : parseMethodDescriptor "(C)Ljava/lang/String;" = some ⟨[.char], some (.object "java/lang/String")⟩ := by decide +kernel
theorem own_pd5 : parseMethodDescriptor "(Ljava/lang/String;Ljava/lang/String;Ljava/lang/String;III)V" = some ⟨[(.object "java/lang/String"), (.object "java/lang/String"), (.object "java/lang/String"), .int, .int, .int], none⟩ := by decide +kernel
theorem own_pd6 : parseMethodDescriptor "([C)V" = some ⟨[(.array .char)], none⟩ := by decide +kernel
theorem own_pn0 : plainName "java/lang/StringLatin1" = true := by first | (simp [plainName, overriddenIn]; done) | decide +kernel
theorem own_pn1 : plainName "java/lang/String" = true := by first | (simp [plainName, overriddenIn]; done) | decide +kernel
theorem own_pn2 : plainName "com/example/line_to_seat/linetoseat/store/SectionSeats" = true := by first | (simp [plainName, overriddenIn]; done) | decide +kernel
theorem own_pn3 : plainName "com/example/line_to_seat/linetoseat/store/SectionSeatsEqualsPinLaw" = true := by first | (simp [plainName, overriddenIn]; done) | decide +kernel

theorem own_m255 (x : Int32) : ¬ (255 : Int32) < (x &&& 255) := by
  have q := c_and x 255 (by decide)
  rw [Int32.lt_iff_toInt_lt]; have : (255 : Int32).toInt = 255 := rfl
  omega
theorem own_m0 (x : Int32) : ¬ (x &&& 255) < (0 : Int32) := by
  have q := c_and x 255 (by decide)
  rw [Int32.lt_iff_toInt_lt]; have : (0 : Int32).toInt = 0 := rfl
  omega

theorem own_bb {x : Int32} : x.toInt8.toInt32.toInt8.toInt32 = x.toInt8.toInt32 := by
  have h : x.toInt8.toInt32.toInt8 = x.toInt8 := by simp
  rw [h]


theorem own_narc {c : Int32} (h : ¬ c < 0 ∧ ¬ (255 : Int32) < c) : nar .char c = c := by
  have q := c_i2c c
  obtain ⟨h0, h1⟩ := h
  rw [Int32.lt_iff_toInt_lt] at h0 h1
  have a : (0 : Int32).toInt = 0 := rfl
  have b : (255 : Int32).toInt = 255 := rfl
  apply Int32.toInt_inj.mp
  show c.toUInt32.toUInt16.toUInt32.toInt32.toInt = c.toInt
  omega
theorem own_na {Z : State} {a0 : Array Value} (w1 : (Jvm.Cond.superclass "java/lang/String" "java/lang/Object").before a0 Z = true) (w2 : (Jvm.Cond.noSuperclass "java/lang/Object").before a0 Z = true) (w3 : (Jvm.Cond.instantiable "com/example/line_to_seat/linetoseat/store/SectionSeats" 6).before a0 Z = true) (w4 : (Jvm.Cond.instantiable "java/lang/String" 4).before a0 Z = true) :
    ∃ c t, Z.vm.findClass "java/lang/String" = some c ∧ Z.vm.findClass "com/example/line_to_seat/linetoseat/store/SectionSeats" = some t ∧ Z.vm.assignable c t = false := by
  obtain ⟨o, ko, o1, o2, o3, -, -⟩ := Cond.noSuperclass_spec w2
  obtain ⟨t, kt, t1, t2, t3, t4, -, -⟩ := Cond.instantiable_spec w3
  obtain ⟨u, ku, u1, u2, u3, -, -, -⟩ := Cond.instantiable_spec w4
  have n0 : NS Z "java/lang/Object" "com/example/line_to_seat/linetoseat/store/SectionSeats" := ⟨o, t, o1, t1, fun fuel => by
    have ne := ids_ne o1 t1 (by decide)
    cases fuel with
    | zero => rfl
    | succ f => simp [Vm.isSubclassAux, ne, o2, o3]⟩
  obtain ⟨c, t', f1, f2, f3⟩ := NS.step w1 n0 (by decide)
  cases u1.symm.trans f1
  cases t1.symm.trans f2
  have ne := ids_ne u1 t1 (by decide)
  have hi : kt.isInterface = false := by
    cases q : kt.isInterface with
    | false => rfl
    | true => rw [q] at t4; simp at t4
  refine ⟨u, t, u1, t1, ?_⟩
  show Z.vm.assignableAux (255 + 1) u t = false
  simp [Vm.assignableAux, ne, u2, t2, u3, t3, hi, Vm.isSubclass, f3]
def own_eq (a b c : Int32) (s e w : Int32) (a' b' c' : Int32) (s' e' w' : Int32) : Int32 := if a = a' ∧ b = b' ∧ c = c' ∧ s = s' ∧ e = e' ∧ w = w' then 1 else 0
theorem own_eq_comm (a b c s e w a' b' c' s' e' w' : Int32) : own_eq a b c s e w a' b' c' s' e' w' = own_eq a' b' c' s' e' w' a b c s e w := by
  unfold own_eq
  by_cases h : a = a' ∧ b = b' ∧ c = c' ∧ s = s' ∧ e = e' ∧ w = w'
  · rw [if_pos h, if_pos ⟨h.1.symm, h.2.1.symm, h.2.2.1.symm, h.2.2.2.1.symm, h.2.2.2.2.1.symm, h.2.2.2.2.2.symm⟩]
  · rw [if_neg h, if_neg (fun q => h ⟨q.1.symm, q.2.1.symm, q.2.2.1.symm, q.2.2.2.1.symm, q.2.2.2.2.1.symm, q.2.2.2.2.2.symm⟩)]
theorem own_eq_refl (a b c s e w : Int32) : own_eq a b c s e w a b c s e w = 1 := by unfold own_eq; exact if_pos ⟨rfl, rfl, rfl, rfl, rfl, rfl⟩
theorem own_up {c : Int32} (h : ¬ c < 0 ∧ ¬ (255 : Int32) < c) : ∀ z ∈ ([c] : List Int32), ¬ z < 0 ∧ ¬ (65535 : Int32) < z := by
  intro z hz; cases List.mem_singleton.mp hz
  refine ⟨h.1, ?_⟩
  have h1 := h.2
  rw [Int32.lt_iff_toInt_lt] at h1 ⊢
  have a : (65535 : Int32).toInt = 65535 := rfl
  have b : (255 : Int32).toInt = 255 := rfl
  omega
theorem own_dn {c : Int32} (h : ¬ c < 0 ∧ ¬ (255 : Int32) < c) : ∀ z ∈ ([c] : List Int32), ¬ (255 : Int32) < z := by
  intro z hz; cases List.mem_singleton.mp hz; exact h.2
theorem own_mm (x : Int32) : ¬ (x &&& 255) < 0 ∧ ¬ (255 : Int32) < (x &&& 255) := ⟨own_m0 x, own_m255 x⟩

theorem d2_0 : decode jdk_43_method_3_code 0 = .ok (.iload_n 0, 1) := by decide +kernel
theorem d2_1 : decode jdk_43_method_3_code 1 = .ok (.sipush 255, 3) := by decide +kernel
theorem d2_4 : decode jdk_43_method_3_code 4 = .ok (.if_icmp .gt 7, 3) := by decide +kernel
theorem d2_7 : decode jdk_43_method_3_code 7 = .ok (.iconst 1, 1) := by decide +kernel
theorem d2_8 : decode jdk_43_method_3_code 8 = .ok (.goto 4, 3) := by decide +kernel
theorem d2_12 : decode jdk_43_method_3_code 12 = .ok (.ireturn, 1) := by decide +kernel
theorem ef_2 (m : MethodId) (p1 : Int32) : entryFrame m #[(.int p1)] 1 = mkF m 0 #[.val (.int p1)] [] := by first | (simp [entryFrame, mkF, argsToLocals, Value.category]; done) | rfl
def Q2 (Z : State) (p1 : Int32)  (h0 : Heap) (n0 : Nat) (v : Option Value) (h : Heap) (L : List Loc) : Prop := v = some (.int (1 : Int32)) ∧ Fr n0 L ∧ h = h0
set_option maxRecDepth 65536 in
set_option maxHeartbeats 40000000 in
theorem rm2 (l : Launch) (Z : State) (a0 : Array Value) (hw : ∀ d ∈ tables_1, d.before a0 Z = true) (ws : List Jvm.Cond) (p1 : Int32)  (h0 : Heap) (n0 : Nat) (Z0 : n0 ≤ h0.size) (h255 : ¬ (255 : Int32) < p1) :
    MetFree l (⟨"java/lang/StringLatin1", "canEncode", "(C)Z"⟩ : MethodName) (head1 (Jvm.Cond.code (⟨"java/lang/StringLatin1", "canEncode", "(C)Z"⟩ : MethodName) jdk_43_method_3_code 1 (some .boolean) :: ws) ({ frames := 0, cells := 0, slots := 0, locals := 0 } : Room)) (fun a U => a = #[(.int p1)] ∧ Z.Warmed39 U.vm ∧ U.heap = h0) (fun _ _ _ _ _ => True) (fun _ U o U' => ∃ v L, o = .returned v ∧ Q2 Z p1 h0 n0 v U'.heap L ∧ FrameEnd U o U' L ({ frames := 0, cells := 0, slots := 0, locals := 0 } : Room).cells ({ frames := 0, cells := 0, slots := 0, locals := 0 } : Room).slots) := by
  refine MetFree.of_bodySF (plainFor_of_name own_pn0) hisR ?_
  intro p e s m args below meth c s₁ Bd hml0 hP hK
  obtain ⟨rfl, hZ, hh⟩ := hP
  have hx := Bd.exec
  have hby := Bd.bytes
  have hml : c.maxLocals = 1 := hml0
  have hown : s.vm.findClass "java/lang/StringLatin1" = some m.cls := findClass_of_methodNamed Bd.named
  have hnm := (name_of_methodNamed Bd.named Bd.method).1
  have X0 : Stand p l e ({ frames := 0, cells := 0, slots := 0, locals := 0 } : Room) s m #[(.int p1)] below meth c s₁ [] 0 0 := Stand.of_body Bd
  have e0 : s₁.heap = h0 := by rw [← hh, Bd.state]; rfl
  have N0 := Fr.nil n0
  refine own_top (Q := Q2 Z p1 h0 n0) (ef_2 m p1) ?_
  show own_G p.tables e below s₁ (mkF m 0 #[.val (.int p1)] []) _
  refine own_go (fun t_ k_ => XS.iloadN X0.here hx rfl (hb hby d2_0) rfl k_) ?_
  show own_G p.tables e below s₁ (mkF m 1 #[.val (.int p1)] [(.int p1)]) _
  refine own_go (fun t_ k_ => XS.sipush X0.here hx rfl (hb hby d2_1) k_) ?_
  show own_G p.tables e below s₁ (mkF m 4 #[.val (.int p1)] [(.int (255 : Int32)), (.int p1)]) _
  refine own_go (fun t_ k_ => XS.icmpNo X0.here hx rfl (hb hby d2_4) rfl (flt h255).2.2.1 k_) ?_
  show own_G p.tables e below s₁ (mkF m 7 #[.val (.int p1)] []) _
  refine own_go (fun t_ k_ => XS.iconst X0.here hx rfl (hb hby d2_7) k_) ?_
  show own_G p.tables e below s₁ (mkF m 8 #[.val (.int p1)] [(.int (1 : Int32))]) _
  refine own_go (fun t_ k_ => XS.goto X0.here hx rfl (pc0 := 8) (pc' := 12) rfl (hb hby d2_8) (by decide) (by decide) k_) ?_
  show own_G p.tables e below s₁ (mkF m 12 #[.val (.int p1)] [(.int (1 : Int32))]) _
  exact own_end (v := some (.int (1 : Int32))) X0 Bd.notSynchronized (fun h => by rw [Bd.returns] at h; cases h) (fun fs hr => retN X0 hx (z := (1 : Int32)) (t := .boolean) Bd.returns (by simp) (hb hby d2_12) hr) e0 ⟨rfl, N0, rfl⟩ (by decide) (by decide)
theorem d3_0 : decode jdk_43_method_46_code 0 = .ok (.iconst 1, 1) := by decide +kernel
theorem d3_1 : decode jdk_43_method_46_code 1 = .ok (.newarray .byte, 2) := by decide +kernel
theorem d3_3 : decode jdk_43_method_46_code 3 = .ok (.dup, 1) := by decide +kernel
theorem d3_4 : decode jdk_43_method_46_code 4 = .ok (.iconst 0, 1) := by decide +kernel
theorem d3_5 : decode jdk_43_method_46_code 5 = .ok (.iload_n 0, 1) := by decide +kernel
theorem d3_6 : decode jdk_43_method_46_code 6 = .ok (.i2b, 1) := by decide +kernel
theorem d3_7 : decode jdk_43_method_46_code 7 = .ok (.bastore, 1) := by decide +kernel
theorem d3_8 : decode jdk_43_method_46_code 8 = .ok (.areturn, 1) := by decide +kernel
theorem ef_3 (m : MethodId) (p1 : Int32) : entryFrame m #[(.int p1)] 1 = mkF m 0 #[.val (.int p1)] [] := by first | (simp [entryFrame, mkF, argsToLocals, Value.category]; done) | rfl
def Q3 (Z : State) (p1 : Int32)  (h0 : Heap) (n0 : Nat) (v : Option Value) (h : Heap) (L : List Loc) : Prop := ∃ (t : Addr) (kb : ClassId), v = some (.ref t) ∧ Fr n0 L ∧ Keep h0 h [] ∧ n0 ≤ t ∧ h0.size ≤ t ∧ Arv Z h t kb .byte (1 : Int32) [(.int p1.toInt8.toInt32)] (.int (0 : Int32))
set_option maxRecDepth 65536 in
set_option maxHeartbeats 40000000 in
theorem rm3 (l : Launch) (Z : State) (a0 : Array Value) (hw : ∀ d ∈ tables_1, d.before a0 Z = true) (ws : List Jvm.Cond) (p1 : Int32)  (h0 : Heap) (n0 : Nat) (Z0 : n0 ≤ h0.size) :
    MetFree l (⟨"java/lang/StringLatin1", "toBytes", "(C)[B"⟩ : MethodName) (head1 (Jvm.Cond.code (⟨"java/lang/StringLatin1", "toBytes", "(C)[B"⟩ : MethodName) jdk_43_method_46_code 1 (some (.array .byte)) :: ws) ({ frames := 0, cells := 1, slots := 1, locals := 0 } : Room)) (fun a U => a = #[(.int p1)] ∧ Z.Warmed39 U.vm ∧ U.heap = h0) (fun _ _ _ _ _ => True) (fun _ U o U' => ∃ v L, o = .returned v ∧ Q3 Z p1 h0 n0 v U'.heap L ∧ FrameEnd U o U' L ({ frames := 0, cells := 1, slots := 1, locals := 0 } : Room).cells ({ frames := 0, cells := 1, slots := 1, locals := 0 } : Room).slots) := by
  refine MetFree.of_bodySF (plainFor_of_name own_pn0) hisR ?_
  intro p e s m args below meth c s₁ Bd hml0 hP hK
  obtain ⟨rfl, hZ, hh⟩ := hP
  have hx := Bd.exec
  have hby := Bd.bytes
  have hml : c.maxLocals = 1 := hml0
  have hown : s.vm.findClass "java/lang/StringLatin1" = some m.cls := findClass_of_methodNamed Bd.named
  have hnm := (name_of_methodNamed Bd.named Bd.method).1
  have X0 : Stand p l e ({ frames := 0, cells := 1, slots := 1, locals := 0 } : Room) s m #[(.int p1)] below meth c s₁ [] 0 0 := Stand.of_body Bd
  have e0 : s₁.heap = h0 := by rw [← hh, Bd.state]; rfl
  have N0 := Fr.nil n0
  refine own_top (Q := Q3 Z p1 h0 n0) (ef_3 m p1) ?_
  show own_G p.tables e below s₁ (mkF m 0 #[.val (.int p1)] []) _
  refine own_go (fun t_ k_ => XS.iconst X0.here hx rfl (hb hby d3_0) k_) ?_
  show own_G p.tables e below s₁ (mkF m 1 #[.val (.int p1)] [(.int (1 : Int32))]) _
  obtain ⟨T1, h1, k1, X1, e1, E1, A1, st1⟩ := newP X0 hx hZ (hw _ (List.mem_of_getElem? (i := 18) rfl)) e0 (g := (mkF m 1 #[.val (.int p1)] [(.int (1 : Int32))])) rfl (hb hby d3_1) rfl (by decide) (cap := 1) (by decide) (by decide) (by decide) (by decide)
  obtain ⟨b1, g1⟩ : ∃ z, z = h0.size := ⟨_, rfl⟩
  rw [← g1] at A1 st1
  have ge_b1 : n0 ≤ b1 := Nat.le_trans Z0 (Nat.le_of_eq g1.symm)
  have sz_b1 : h0.size ≤ b1 := Nat.le_trans (Keep.refl h0 []).1 (Nat.le_of_eq g1.symm)
  have V1 : Arv Z h1 b1 k1 .byte (1 : Int32) [(.int (0 : Int32))] (.int (0 : Int32)) := (Arv.new A1 (by decide)).pad (pad_rep [] (.int (0 : Int32)) 1)
  refine own_go st1 ?_
  show own_G p.tables e below T1 (mkF m 3 #[.val (.int p1)] [(.ref b1)]) _
  refine own_go (fun t_ k_ => XS.dup X1.here hx rfl (hb hby d3_3) rfl rfl k_) ?_
  show own_G p.tables e below T1 (mkF m 4 #[.val (.int p1)] [(.ref b1), (.ref b1)]) _
  refine own_go (fun t_ k_ => XS.iconst X1.here hx rfl (hb hby d3_4) k_) ?_
  show own_G p.tables e below T1 (mkF m 5 #[.val (.int p1)] [(.int (0 : Int32)), (.ref b1), (.ref b1)]) _
  refine own_go (fun t_ k_ => XS.iloadN X1.here hx rfl (hb hby d3_5) rfl k_) ?_
  show own_G p.tables e below T1 (mkF m 6 #[.val (.int p1)] [(.int p1), (.int (0 : Int32)), (.ref b1), (.ref b1)]) _
  refine own_go (fun t_ k_ => XS.i2b X1.here hx rfl (hb hby d3_6) rfl k_) ?_
  show own_G p.tables e below T1 (mkF m 7 #[.val (.int p1)] [(.int (p1.toInt8.toInt32)), (.int (0 : Int32)), (.ref b1), (.ref b1)]) _
  obtain ⟨cl2, Ar2, q2, S2, M2, H2, G2⟩ := id V1
  have hin2 : ¬ ((0 : Int32) < 0 ∨ cl2.slots.size ≤ ((0 : Int32)).toNatClampNeg) := inb_of S2 ⟨by decide, by decide⟩
  obtain ⟨T2, h2, X2, e2, W2, st2⟩ := stB X1 hx hZ e1 Ar2 (j := (0 : Int32)) hin2 (g := (mkF m 7 #[.val (.int p1)] [(.int (p1.toInt8.toInt32)), (.int (0 : Int32)), (.ref b1), (.ref b1)])) rfl rfl (hb hby d3_7)
  have N2 := Fr.snoc X2 N0 ge_b1
  have V2 : Arv Z h2 b1 k1 .byte (1 : Int32) [(.int p1.toInt8.toInt32)] (.int (0 : Int32)) := by
    have q := Arv.set Ar2 q2 S2 M2 H2 G2 (fits_nar_byte _) W2 0 rfl (Nat.le_of_ble_eq_true rfl)
    rw [own_bb] at q
    exact q
  refine own_go st2 ?_
  show own_G p.tables e below T2 (mkF m 8 #[.val (.int p1)] [(.ref b1)]) _
  have f3 : Keep h0 h2 [] := (((Keep.refl h0 []).ext E1).wr W2 (Or.inr sz_b1))
  exact own_end (v := some (.ref b1)) X2 Bd.notSynchronized (fun h => by rw [Bd.returns] at h; cases h) (fun fs hr => own_retR X2 hx rfl Bd.returns rfl (hb hby d3_8) hr) e2 ⟨_, _, rfl, N2, f3, ge_b1, sz_b1, V2⟩ (by decide) (by decide)
theorem d4_0 : decode jdk_42_method_151_code 0 = .ok (.aload_n 0, 1) := by decide +kernel
theorem d4_1 : decode jdk_42_method_151_code 1 = .ok (.invokespecial 1, 3) := by decide +kernel
theorem d4_4 : decode jdk_42_method_151_code 4 = .ok (.aload_n 0, 1) := by decide +kernel
theorem d4_5 : decode jdk_42_method_151_code 5 = .ok (.aload_n 1, 1) := by decide +kernel
theorem d4_6 : decode jdk_42_method_151_code 6 = .ok (.putfield 9, 3) := by decide +kernel
theorem d4_9 : decode jdk_42_method_151_code 9 = .ok (.aload_n 0, 1) := by decide +kernel
theorem d4_10 : decode jdk_42_method_151_code 10 = .ok (.iload_n 2, 1) := by decide +kernel
theorem d4_11 : decode jdk_42_method_151_code 11 = .ok (.putfield 15, 3) := by decide +kernel
theorem d4_14 : decode jdk_42_method_151_code 14 = .ok (.return_, 1) := by decide +kernel
theorem ef_4 (m : MethodId) (a1 : Addr) (a2 : Addr) : entryFrame m #[(.ref a1), (.ref a2), (.int (0 : Int32))] 3 = mkF m 0 #[.val (.ref a1), .val (.ref a2), .val (.int (0 : Int32))] [] := by first | (simp [entryFrame, mkF, argsToLocals, Value.category]; done) | rfl
def Q4 (Z : State) (a1 : Addr) (a2 : Addr)  (h0 : Heap) (n0 : Nat) (v : Option Value) (h : Heap) (L : List Loc) : Prop := v = none ∧ Fr n0 L ∧ Keep h0 h [a1] ∧ Exa Z h a1 "java/lang/String" ∧ Fld Z h a1 "java/lang/String" "value" "[B" (.ref a2) ∧ Fld Z h a1 "java/lang/String" "coder" "B" (.int (0 : Int32))
set_option maxRecDepth 65536 in
set_option maxHeartbeats 40000000 in
theorem rm4 (l : Launch) (Z : State) (a0 : Array Value) (hw : ∀ d ∈ tables_1, d.before a0 Z = true) (ws : List Jvm.Cond) (a1 : Addr) (a2 : Addr)  (h0 : Heap) (n0 : Nat) (Z0 : n0 ≤ h0.size) (ge1 : n0 ≤ a1) (E1 : Exa Z h0 a1 "java/lang/String") (F1 : Fld Z h0 a1 "java/lang/String" "value" "[B" .null) (F2 : Fld Z h0 a1 "java/lang/String" "coder" "B" (.int (0 : Int32))) :
    MetFree l (⟨"java/lang/String", "<init>", "([BB)V"⟩ : MethodName) (head1 (Jvm.Cond.code (⟨"java/lang/String", "<init>", "([BB)V"⟩ : MethodName) jdk_42_method_151_code 3 none :: ws) ({ frames := 1, cells := 0, slots := 0, locals := 12 } : Room)) (fun a U => a = #[(.ref a1), (.ref a2), (.int (0 : Int32))] ∧ Z.Warmed39 U.vm ∧ U.heap = h0) (fun _ _ _ _ _ => True) (fun _ U o U' => ∃ v L, o = .returned v ∧ Q4 Z a1 a2 h0 n0 v U'.heap L ∧ FrameEnd U o U' L ({ frames := 1, cells := 0, slots := 0, locals := 12 } : Room).cells ({ frames := 1, cells := 0, slots := 0, locals := 12 } : Room).slots) := by
  refine MetFree.of_bodySF (plainFor_of_name own_pn1) hisR ?_
  intro p e s m args below meth c s₁ Bd hml0 hP hK
  obtain ⟨rfl, hZ, hh⟩ := hP
  have hx := Bd.exec
  have hby := Bd.bytes
  have hml : c.maxLocals = 3 := hml0
  have hown : s.vm.findClass "java/lang/String" = some m.cls := findClass_of_methodNamed Bd.named
  have hnm := (name_of_methodNamed Bd.named Bd.method).1
  have X0 : Stand p l e ({ frames := 1, cells := 0, slots := 0, locals := 12 } : Room) s m #[(.ref a1), (.ref a2), (.int (0 : Int32))] below meth c s₁ [] 0 0 := Stand.of_body Bd
  have e0 : s₁.heap = h0 := by rw [← hh, Bd.state]; rfl
  have N0 := Fr.nil n0
  refine own_top (Q := Q4 Z a1 a2 h0 n0) (ef_4 m a1 a2) ?_
  show own_G p.tables e below s₁ (mkF m 0 #[.val (.ref a1), .val (.ref a2), .val (.int (0 : Int32))] []) _
  refine own_go (fun t_ k_ => XS.aloadN X0.here hx rfl (hb hby d4_0) rfl rfl k_) ?_
  show own_G p.tables e below s₁ (mkF m 1 #[.val (.ref a1), .val (.ref a2), .val (.int (0 : Int32))] [(.ref a1)]) _
  obtain ⟨T1, X1, e1, st1⟩ := initO X0 hx hZ hown (hw _ (List.mem_of_getElem? (i := 23) rfl)) (hw _ (List.mem_of_getElem? (i := 24) rfl)) (hw _ (List.mem_of_getElem? (i := 25) rfl)) e0 (g := (mkF m 1 #[.val (.ref a1), .val (.ref a2), .val (.int (0 : Int32))] [(.ref a1)])) rfl (by rw [hml]; rfl) rfl (hb hby d4_1) (by decide) (W := 0) (by show 2 * 0 + _ ≤ _; exact Nat.le_of_eq rfl) (by decide)
  refine own_go st1 ?_
  show own_G p.tables e below T1 (mkF m 4 #[.val (.ref a1), .val (.ref a2), .val (.int (0 : Int32))] []) _
  refine own_go (fun t_ k_ => XS.aloadN X1.here hx rfl (hb hby d4_4) rfl rfl k_) ?_
  show own_G p.tables e below T1 (mkF m 5 #[.val (.ref a1), .val (.ref a2), .val (.int (0 : Int32))] [(.ref a1)]) _
  refine own_go (fun t_ k_ => XS.aloadN X1.here hx rfl (hb hby d4_5) rfl rfl k_) ?_
  show own_G p.tables e below T1 (mkF m 6 #[.val (.ref a1), .val (.ref a2), .val (.int (0 : Int32))] [(.ref a2), (.ref a1)]) _
  obtain ⟨T2, h2, X2, e2, W2, st2⟩ := putF X1 hx hZ hown (host := "") (Or.inl (hw _ (List.mem_of_getElem? (i := 26) rfl))) Via.refl e1 F1 E1 (Or.inr ⟨(hw _ (List.mem_of_getElem? (i := 27) rfl)), rfl, hnm⟩) (hw _ (List.mem_of_getElem? (i := 14) rfl)) (ty := (.array .byte)) (by decide) rfl rfl (g := (mkF m 6 #[.val (.ref a1), .val (.ref a2), .val (.int (0 : Int32))] [(.ref a2), (.ref a1)])) rfl rfl (hb hby d4_6)
  have N2 := Fr.snoc X2 N0 ge1
  refine own_go st2 ?_
  show own_G p.tables e below T2 (mkF m 9 #[.val (.ref a1), .val (.ref a2), .val (.int (0 : Int32))] []) _
  have f3 : Fld Z h2 a1 "java/lang/String" "value" "[B" (.ref a2) := F1.same W2
  refine own_go (fun t_ k_ => XS.aloadN X2.here hx rfl (hb hby d4_9) rfl rfl k_) ?_
  show own_G p.tables e below T2 (mkF m 10 #[.val (.ref a1), .val (.ref a2), .val (.int (0 : Int32))] [(.ref a1)]) _
  refine own_go (fun t_ k_ => XS.iloadN X2.here hx rfl (hb hby d4_10) rfl k_) ?_
  show own_G p.tables e below T2 (mkF m 11 #[.val (.ref a1), .val (.ref a2), .val (.int (0 : Int32))] [(.int (0 : Int32)), (.ref a1)]) _
  have f4 : Exa Z h2 a1 "java/lang/String" := (E1.wr W2)
  have f5 : Fld Z h2 a1 "java/lang/String" "coder" "B" (.int (0 : Int32)) := (F2.other W2 (Or.inr (slot_ne (Or.inr (hw _ (List.mem_of_getElem? (i := 29) rfl))) (Or.inr (hw _ (List.mem_of_getElem? (i := 27) rfl))) (by decide) (t := .byte) (t' := (.array .byte)) (by decide) (by decide))))
  obtain ⟨T6, h6, X6, e6, W6, st6⟩ := putFN X2 hx hZ hown (hw _ (List.mem_of_getElem? (i := 28) rfl)) Via.refl e2 f5 f4 (Or.inr ⟨(hw _ (List.mem_of_getElem? (i := 29) rfl)), rfl, hnm⟩) (hw _ (List.mem_of_getElem? (i := 14) rfl)) (ty := .byte) (v' := (.int (0 : Int32))) (by decide) rfl rfl (g := (mkF m 11 #[.val (.ref a1), .val (.ref a2), .val (.int (0 : Int32))] [(.int (0 : Int32)), (.ref a1)])) rfl rfl (hb hby d4_11)
  have N6 := Fr.snoc X6 N2 ge1
  refine own_go st6 ?_
  show own_G p.tables e below T6 (mkF m 14 #[.val (.ref a1), .val (.ref a2), .val (.int (0 : Int32))] []) _
  have f7 : Fld Z h6 a1 "java/lang/String" "coder" "B" (.int (0 : Int32)) := f5.same W6
  have f8 : Keep h0 h6 [a1] := (((Keep.refl h0 [a1]).wr W2 (Or.inl (List.mem_of_getElem? (i := 0) rfl))).wr W6 (Or.inl (List.mem_of_getElem? (i := 0) rfl)))
  have f9 : Exa Z h6 a1 "java/lang/String" := (f4.wr W6)
  have f10 : Fld Z h6 a1 "java/lang/String" "value" "[B" (.ref a2) := (f3.other W6 (Or.inr (slot_ne (Or.inr (hw _ (List.mem_of_getElem? (i := 27) rfl))) (Or.inr (hw _ (List.mem_of_getElem? (i := 29) rfl))) (by decide) (t := (.array .byte)) (t' := .byte) (by decide) (by decide))))
  exact own_end (v := none) X6 Bd.notSynchronized (fun _ => rfl) (fun fs hr => X6.returnOut hx Bd.returns (hb hby d4_14) hr) e6 ⟨rfl, N6, f8, f9, f10, f7⟩ (by decide) (by decide)
theorem d1_0 : decode jdk_42_method_139_code 0 = .ok (.getstatic 38, 3) := by decide +kernel
theorem d1_3 : decode jdk_42_method_139_code 3 = .ok (.ifCond .eq 23, 3) := by decide +kernel
theorem d1_6 : decode jdk_42_method_139_code 6 = .ok (.iload_n 0, 1) := by decide +kernel
theorem d1_7 : decode jdk_42_method_139_code 7 = .ok (.invokestatic 1015, 3) := by decide +kernel
theorem d1_10 : decode jdk_42_method_139_code 10 = .ok (.ifCond .eq 16, 3) := by decide +kernel
theorem d1_13 : decode jdk_42_method_139_code 13 = .ok (.new 10, 3) := by decide +kernel
theorem d1_16 : decode jdk_42_method_139_code 16 = .ok (.dup, 1) := by decide +kernel
theorem d1_17 : decode jdk_42_method_139_code 17 = .ok (.iload_n 0, 1) := by decide +kernel
theorem d1_18 : decode jdk_42_method_139_code 18 = .ok (.invokestatic 1018, 3) := by decide +kernel
theorem d1_21 : decode jdk_42_method_139_code 21 = .ok (.iconst 0, 1) := by decide +kernel
theorem d1_22 : decode jdk_42_method_139_code 22 = .ok (.invokespecial 209, 3) := by decide +kernel
theorem d1_25 : decode jdk_42_method_139_code 25 = .ok (.areturn, 1) := by decide +kernel
theorem ef_1 (m : MethodId) (p1 : Int32) : entryFrame m #[(.int p1)] 1 = mkF m 0 #[.val (.int p1)] [] := by first | (simp [entryFrame, mkF, argsToLocals, Value.category]; done) | rfl
def Q1 (Z : State) (p1 : Int32) (cs : Int32) (h0 : Heap) (n0 : Nat) (v : Option Value) (h : Heap) (L : List Loc) : Prop := ∃ (a t : Addr) (kb : ClassId), v = some (.ref a) ∧ Fr n0 L ∧ Keep h0 h [] ∧ n0 ≤ a ∧ h0.size ≤ a ∧ h0.size ≤ t ∧ a ≠ t ∧ Exa Z h a "java/lang/String" ∧ Fld Z h a "java/lang/String" "coder" "B" (.int (0 : Int32)) ∧ Fld Z h a "java/lang/String" "value" "[B" (.ref t) ∧ Arv Z h t kb .byte (1 : Int32) [(.int p1.toInt8.toInt32)] (.int (0 : Int32))
set_option maxRecDepth 65536 in
set_option maxHeartbeats 40000000 in
theorem rm1 (l : Launch) (Z : State) (a0 : Array Value) (hw : ∀ d ∈ tables_1, d.before a0 Z = true) (ws : List Jvm.Cond) (p1 : Int32) (cs : Int32) (h0 : Heap) (n0 : Nat) (Z0 : n0 ≤ h0.size) (S_C : Sta Z h0 "java/lang/String" "COMPACT_STRINGS" "Z" (.int cs)) (hcs : ¬ cs = 0) (h255 : ¬ (255 : Int32) < p1) :
    MetFree l (⟨"java/lang/String", "valueOf", "(C)Ljava/lang/String;"⟩ : MethodName) (head1 (Jvm.Cond.code (⟨"java/lang/String", "valueOf", "(C)Ljava/lang/String;"⟩ : MethodName) jdk_42_method_139_code 1 (some (.object "java/lang/String")) :: ws) ({ frames := 2, cells := 2, slots := 5, locals := 27 } : Room)) (fun a U => a = #[(.int p1)] ∧ Z.Warmed39 U.vm ∧ U.heap = h0) (fun _ _ _ _ _ => True) (fun _ U o U' => ∃ v L, o = .returned v ∧ Q1 Z p1 cs h0 n0 v U'.heap L ∧ FrameEnd U o U' L ({ frames := 2, cells := 2, slots := 5, locals := 27 } : Room).cells ({ frames := 2, cells := 2, slots := 5, locals := 27 } : Room).slots) := by
  refine MetFree.of_bodySF (plainFor_of_name own_pn1) hisR ?_
  intro p e s m args below meth c s₁ Bd hml0 hP hK
  obtain ⟨rfl, hZ, hh⟩ := hP
  have hx := Bd.exec
  have hby := Bd.bytes
  have hml : c.maxLocals = 1 := hml0
  have hown : s.vm.findClass "java/lang/String" = some m.cls := findClass_of_methodNamed Bd.named
  have hnm := (name_of_methodNamed Bd.named Bd.method).1
  have X0 : Stand p l e ({ frames := 2, cells := 2, slots := 5, locals := 27 } : Room) s m #[(.int p1)] below meth c s₁ [] 0 0 := Stand.of_body Bd
  have e0 : s₁.heap = h0 := by rw [← hh, Bd.state]; rfl
  have N0 := Fr.nil n0
  refine own_top (Q := Q1 Z p1 cs h0 n0) (ef_1 m p1) ?_
  show own_G p.tables e below s₁ (mkF m 0 #[.val (.int p1)] []) _
  obtain ⟨T1, X1, e1, st1⟩ := getS2 X0 hx hZ hown (host := "") (Or.inl (hw _ (List.mem_of_getElem? (i := 8) rfl))) Via.refl e0 S_C (g := (mkF m 0 #[.val (.int p1)] [])) rfl (hb hby d1_0)
  refine own_go st1 ?_
  show own_G p.tables e below T1 (mkF m 3 #[.val (.int p1)] [(.int cs)]) _
  refine own_go (fun t_ k_ => XS.ifNo X1.here hx rfl (hb hby d1_3) rfl ((if0 _ _).trans (feq hcs).1) k_) ?_
  show own_G p.tables e below T1 (mkF m 6 #[.val (.int p1)] []) _
  refine own_go (fun t_ k_ => XS.iloadN X1.here hx rfl (hb hby d1_6) rfl k_) ?_
  show own_G p.tables e below T1 (mkF m 7 #[.val (.int p1)] [(.int p1)]) _
  obtain ⟨_, _, ⟨T2, L2, k2, n2⟩, -, X2, ⟨Lc2, hQ2, l2, y2, z2⟩, st2⟩ := Jvm.LawKit.callS X1 hx (y := (⟨"java/lang/StringLatin1", "canEncode", "(C)Z"⟩ : MethodName)) hown (mvT hZ (hw _ (List.mem_of_getElem? (i := 9) rfl))) (mvT hZ (hw _ (List.mem_of_getElem? (i := 10) rfl))) (mvT hZ (hw _ (List.mem_of_getElem? (i := 11) rfl))) (mvT hZ (hw _ (List.mem_of_getElem? (i := 12) rfl))) (by decide) (backOf (W := 0) (rm2 l Z a0 hw [] p1 h0 n0 Z0 h255) hZ (hw _ (List.mem_of_getElem? (i := 12) rfl)) (hw _ (List.mem_of_getElem? (i := 11) rfl)) (by decide) (by decide)) (g := (mkF m 7 #[.val (.int p1)] [(.int p1)])) rfl (by rw [hml]; rfl) (argsL := [(.int p1)]) (rest := []) (lenOf own_pd0 rfl) rfl (by show 2 * 0 + _ ≤ _; exact Nat.le_of_eq rfl) (hb hby d1_7) (fun _ _ => ⟨rfl, e1, (by decide : 0 + 0 ≤ _), (by decide : 0 + 0 ≤ _)⟩)
  dsimp only [Pt.U, Pt.locs, Pt.cells, Pt.slots] at X2 l2 y2 z2 st2 hQ2
  subst l2 y2 z2
  obtain ⟨rfl, N2q, e2⟩ := hQ2
  have N2 := Fr.app N0 N2q
  refine own_go st2 ?_
  show own_G p.tables e below T2 (mkF m 10 #[.val (.int p1)] [(.int (1 : Int32))]) _
  refine own_go (fun t_ k_ => XS.ifNo X2.here hx rfl (hb hby d1_10) rfl ((if0 _ _).trans (feq (by decide : ¬ ((1 : Int32) = (0 : Int32)))).1) k_) ?_
  show own_G p.tables e below T2 (mkF m 13 #[.val (.int p1)] []) _
  obtain ⟨T3, h3, X3, e3, E3, A3, D3, -, st3⟩ := newO X2 hx hZ hown (hw _ (List.mem_of_getElem? (i := 13) rfl)) (hw _ (List.mem_of_getElem? (i := 14) rfl)) (hw _ (List.mem_of_getElem? (i := 6) rfl)) e2 (g := (mkF m 13 #[.val (.int p1)] [])) rfl (hb hby d1_13) (by decide) (by decide)
  obtain ⟨b3, g3⟩ : ∃ z, z = h0.size := ⟨_, rfl⟩
  rw [← g3] at A3 D3 st3
  have ge_b3 : n0 ≤ b3 := Nat.le_trans Z0 (Nat.le_of_eq g3.symm)
  have sz_b3 : h0.size ≤ b3 := Nat.le_trans (Keep.refl h0 []).1 (Nat.le_of_eq g3.symm)
  have f4 : Fld Z h3 b3 "java/lang/String" "value" "[B" .null := D3 (Or.inr (hw _ (List.mem_of_getElem? (i := 27) rfl))) (ty := (.array .byte)) (by decide)
  have f5 : Fld Z h3 b3 "java/lang/String" "coder" "B" (.int (0 : Int32)) := D3 (Or.inr (hw _ (List.mem_of_getElem? (i := 29) rfl))) (ty := .byte) (by decide)
  refine own_go st3 ?_
  show own_G p.tables e below T3 (mkF m 16 #[.val (.int p1)] [(.ref b3)]) _
  refine own_go (fun t_ k_ => XS.dup X3.here hx rfl (hb hby d1_16) rfl rfl k_) ?_
  show own_G p.tables e below T3 (mkF m 17 #[.val (.int p1)] [(.ref b3), (.ref b3)]) _
  refine own_go (fun t_ k_ => XS.iloadN X3.here hx rfl (hb hby d1_17) rfl k_) ?_
  show own_G p.tables e below T3 (mkF m 18 #[.val (.int p1)] [(.int p1), (.ref b3), (.ref b3)]) _
  have f6 : n0 ≤ h3.size := (Nat.le_trans Z0 E3.1)
  have f7 : Keep h0 h3 [] := ((Keep.refl h0 []).ext E3)
  obtain ⟨_, _, ⟨T8, L8, k8, n8⟩, -, X8, ⟨Lc8, hQ8, l8, y8, z8⟩, st8⟩ := Jvm.LawKit.callS X3 hx (y := (⟨"java/lang/StringLatin1", "toBytes", "(C)[B"⟩ : MethodName)) hown (mvT hZ (hw _ (List.mem_of_getElem? (i := 15) rfl))) (mvT hZ (hw _ (List.mem_of_getElem? (i := 16) rfl))) (mvT hZ (hw _ (List.mem_of_getElem? (i := 11) rfl))) (mvT hZ (hw _ (List.mem_of_getElem? (i := 17) rfl))) (by decide) (backOf (W := 2) (rm3 l Z a0 hw [] p1 h3 n0 f6) hZ (hw _ (List.mem_of_getElem? (i := 17) rfl)) (hw _ (List.mem_of_getElem? (i := 11) rfl)) (by decide) (by decide)) (g := (mkF m 18 #[.val (.int p1)] [(.int p1), (.ref b3), (.ref b3)])) rfl (by rw [hml]; rfl) (argsL := [(.int p1)]) (rest := [(.ref b3), (.ref b3)]) (lenOf own_pd1 rfl) rfl (by show 2 * 0 + _ ≤ _; exact Nat.le_of_eq rfl) (hb hby d1_18) (fun _ _ => ⟨rfl, e3, (by decide : 1 + 1 ≤ _), (by decide : 4 + 1 ≤ _)⟩)
  dsimp only [Pt.U, Pt.locs, Pt.cells, Pt.slots] at X8 l8 y8 z8 st8 hQ8
  subst l8 y8 z8
  obtain ⟨t8, kb8, rfl, N8q, K8, gt8, st_8, V8⟩ := hQ8
  have N8 := Fr.app N2 N8q
  refine own_go st8 ?_
  show own_G p.tables e below T8 (mkF m 21 #[.val (.int p1)] [(.ref t8), (.ref b3), (.ref b3)]) _
  have ne_8 : b3 ≠ t8 := Nat.ne_of_lt (Nat.lt_of_lt_of_le A3.lt st_8)
  refine own_go (fun t_ k_ => XS.iconst X8.here hx rfl (hb hby d1_21) k_) ?_
  show own_G p.tables e below T8 (mkF m 22 #[.val (.int p1)] [(.int (0 : Int32)), (.ref t8), (.ref b3), (.ref b3)]) _
  have f9 : n0 ≤ T8.heap.size := (Nat.le_trans f6 K8.1)
  have f10 : Exa Z T8.heap b3 "java/lang/String" := (A3.keep K8)
  have f11 : Fld Z T8.heap b3 "java/lang/String" "value" "[B" .null := (f4.keep K8 List.not_mem_nil)
  have f12 : Fld Z T8.heap b3 "java/lang/String" "coder" "B" (.int (0 : Int32)) := (f5.keep K8 List.not_mem_nil)
  have f13 : Keep h0 T8.heap [] := (f7.trans K8 all0)
  obtain ⟨_, _, ⟨T14, L14, k14, n14⟩, -, X14, ⟨Lc14, hQ14, l14, y14, z14⟩, st14⟩ := X8.specialBack hx (y := (⟨"java/lang/String", "<init>", "([BB)V"⟩ : MethodName)) rfl hown (mvT hZ (hw _ (List.mem_of_getElem? (i := 19) rfl))) (mvT hZ (hw _ (List.mem_of_getElem? (i := 20) rfl))) (mvT hZ (hw _ (List.mem_of_getElem? (i := 22) rfl))) (by decide) (backOf (W := 1) (rm4 l Z a0 hw [] b3 t8 T8.heap n0 f9 ge_b3 f10 f11 f12) hZ (hw _ (List.mem_of_getElem? (i := 22) rfl)) (hw _ (List.mem_of_getElem? (i := 6) rfl)) (by decide) (by decide)) (g := (mkF m 22 #[.val (.int p1)] [(.int (0 : Int32)), (.ref t8), (.ref b3), (.ref b3)])) rfl (by rw [hml]; rfl) (Steps.refl _) (a := b3) (argsL := [(.ref t8), (.int (0 : Int32))]) (rest := [(.ref b3)]) (lenOf own_pd2 rfl) rfl (by show 2 * 0 + _ ≤ _; exact Nat.le_of_eq rfl) (hb hby d1_22) (fun _ _ => ⟨rfl, rfl, (by decide : 2 + 0 ≤ _), (by decide : 5 + 0 ≤ _)⟩)
  dsimp only [Pt.U, Pt.locs, Pt.cells, Pt.slots] at X14 l14 y14 z14 st14 hQ14
  subst l14 y14 z14
  obtain ⟨rfl, N14q, K14, Ex14, Fv14, Fc14⟩ := hQ14
  have N14 := Fr.app N8 N14q
  refine own_go (fun t_ k_ => st14.trans k_) ?_
  show own_G p.tables e below T14 (mkF m 25 #[.val (.int p1)] [(.ref b3)]) _
  have f15 : Keep h0 T14.heap [] := (f13.trans K14 (allS (Or.inr sz_b3) all0))
  have f16 : Arv Z T14.heap t8 kb8 .byte (1 : Int32) [(.int p1.toInt8.toInt32)] (.int (0 : Int32)) := (V8.keep K14 (fun q => (Ne.symm ne_8) (List.mem_singleton.mp q)))
  exact own_end (v := some (.ref b3)) X14 Bd.notSynchronized (fun h => by rw [Bd.returns] at h; cases h) (fun fs hr => own_retR X14 hx rfl Bd.returns rfl (hb hby d1_25) hr) rfl ⟨_, _, _, rfl, N14, f15, ge_b3, sz_b3, (Nat.le_trans f7.1 st_8), ne_8, Ex14, Fc14, Fv14, f16⟩ (by decide) (by decide)
theorem d6_0 : decode prog_41_method_1_code 0 = .ok (.aload_n 0, 1) := by decide +kernel
theorem d6_1 : decode prog_41_method_1_code 1 = .ok (.invokespecial 1, 3) := by decide +kernel
theorem d6_4 : decode prog_41_method_1_code 4 = .ok (.aload_n 0, 1) := by decide +kernel
theorem d6_5 : decode prog_41_method_1_code 5 = .ok (.aload_n 1, 1) := by decide +kernel
theorem d6_6 : decode prog_41_method_1_code 6 = .ok (.putfield 7, 3) := by decide +kernel
theorem d6_9 : decode prog_41_method_1_code 9 = .ok (.aload_n 0, 1) := by decide +kernel
theorem d6_10 : decode prog_41_method_1_code 10 = .ok (.aload_n 2, 1) := by decide +kernel
theorem d6_11 : decode prog_41_method_1_code 11 = .ok (.putfield 13, 3) := by decide +kernel
theorem d6_14 : decode prog_41_method_1_code 14 = .ok (.aload_n 0, 1) := by decide +kernel
theorem d6_15 : decode prog_41_method_1_code 15 = .ok (.aload_n 3, 1) := by decide +kernel
theorem d6_16 : decode prog_41_method_1_code 16 = .ok (.putfield 16, 3) := by decide +kernel
theorem d6_19 : decode prog_41_method_1_code 19 = .ok (.aload_n 0, 1) := by decide +kernel
theorem d6_20 : decode prog_41_method_1_code 20 = .ok (.iload 4, 2) := by decide +kernel
theorem d6_22 : decode prog_41_method_1_code 22 = .ok (.putfield 19, 3) := by decide +kernel
theorem d6_25 : decode prog_41_method_1_code 25 = .ok (.aload_n 0, 1) := by decide +kernel
theorem d6_26 : decode prog_41_method_1_code 26 = .ok (.iload 5, 2) := by decide +kernel
theorem d6_28 : decode prog_41_method_1_code 28 = .ok (.putfield 23, 3) := by decide +kernel
theorem d6_31 : decode prog_41_method_1_code 31 = .ok (.aload_n 0, 1) := by decide +kernel
theorem d6_32 : decode prog_41_method_1_code 32 = .ok (.iload 6, 2) := by decide +kernel
theorem d6_34 : decode prog_41_method_1_code 34 = .ok (.putfield 26, 3) := by decide +kernel
theorem d6_37 : decode prog_41_method_1_code 37 = .ok (.return_, 1) := by decide +kernel
theorem ef_6 (m : MethodId) (a1 : Addr) (r0 : Addr) (r1 : Addr) (r2 : Addr) (sv : Int32) (en : Int32) (wl : Int32) : entryFrame m #[(.ref a1), (.ref r0), (.ref r1), (.ref r2), (.int sv), (.int en), (.int wl)] 7 = mkF m 0 #[.val (.ref a1), .val (.ref r0), .val (.ref r1), .val (.ref r2), .val (.int sv), .val (.int en), .val (.int wl)] [] := by first | (simp [entryFrame, mkF, argsToLocals, Value.category]; done) | rfl
def Q6 (Z : State) (a1 : Addr) (r0 : Addr) (r1 : Addr) (r2 : Addr) (sv : Int32) (en : Int32) (wl : Int32)  (h0 : Heap) (n0 : Nat) (v : Option Value) (h : Heap) (L : List Loc) : Prop := v = none ∧ Fr n0 L ∧ Keep h0 h [a1] ∧ Exa Z h a1 "com/example/line_to_seat/linetoseat/store/SectionSeats" ∧ Fld Z h a1 "com/example/line_to_seat/linetoseat/store/SectionSeats" "sectionId" "Ljava/lang/String;" (.ref r0) ∧ Fld Z h a1 "com/example/line_to_seat/linetoseat/store/SectionSeats" "course" "Ljava/lang/String;" (.ref r1) ∧ Fld Z h a1 "com/example/line_to_seat/linetoseat/store/SectionSeats" "sectionCode" "Ljava/lang/String;" (.ref r2) ∧ Fld Z h a1 "com/example/line_to_seat/linetoseat/store/SectionSeats" "seats" "I" (.int sv) ∧ Fld Z h a1 "com/example/line_to_seat/linetoseat/store/SectionSeats" "enrolled" "I" (.int en) ∧ Fld Z h a1 "com/example/line_to_seat/linetoseat/store/SectionSeats" "waitlisted" "I" (.int wl)
set_option maxRecDepth 65536 in
set_option maxHeartbeats 40000000 in
theorem rm6 (l : Launch) (Z : State) (a0 : Array Value) (hw : ∀ d ∈ tables_1, d.before a0 Z = true) (ws : List Jvm.Cond) (a1 : Addr) (r0 : Addr) (r1 : Addr) (r2 : Addr) (sv : Int32) (en : Int32) (wl : Int32)  (h0 : Heap) (n0 : Nat) (Z0 : n0 ≤ h0.size) (ge1 : n0 ≤ a1) (E1 : Exa Z h0 a1 "com/example/line_to_seat/linetoseat/store/SectionSeats") (F_sectionId : Fld Z h0 a1 "com/example/line_to_seat/linetoseat/store/SectionSeats" "sectionId" "Ljava/lang/String;" .null) (F_course : Fld Z h0 a1 "com/example/line_to_seat/linetoseat/store/SectionSeats" "course" "Ljava/lang/String;" .null) (F_sectionCode : Fld Z h0 a1 "com/example/line_to_seat/linetoseat/store/SectionSeats" "sectionCode" "Ljava/lang/String;" .null) (F_seats : Fld Z h0 a1 "com/example/line_to_seat/linetoseat/store/SectionSeats" "seats" "I" (.int (0 : Int32))) (F_enrolled : Fld Z h0 a1 "com/example/line_to_seat/linetoseat/store/SectionSeats" "enrolled" "I" (.int (0 : Int32))) (F_waitlisted : Fld Z h0 a1 "com/example/line_to_seat/linetoseat/store/SectionSeats" "waitlisted" "I" (.int (0 : Int32))) :
    MetFree l (⟨"com/example/line_to_seat/linetoseat/store/SectionSeats", "<init>", "(Ljava/lang/String;Ljava/lang/String;Ljava/lang/String;III)V"⟩ : MethodName) (head1 (Jvm.Cond.code (⟨"com/example/line_to_seat/linetoseat/store/SectionSeats", "<init>", "(Ljava/lang/String;Ljava/lang/String;Ljava/lang/String;III)V"⟩ : MethodName) prog_41_method_1_code 7 none :: ws) ({ frames := 1, cells := 0, slots := 0, locals := 12 } : Room)) (fun a U => a = #[(.ref a1), (.ref r0), (.ref r1), (.ref r2), (.int sv), (.int en), (.int wl)] ∧ Z.Warmed39 U.vm ∧ U.heap = h0) (fun _ _ _ _ _ => True) (fun _ U o U' => ∃ v L, o = .returned v ∧ Q6 Z a1 r0 r1 r2 sv en wl h0 n0 v U'.heap L ∧ FrameEnd U o U' L ({ frames := 1, cells := 0, slots := 0, locals := 12 } : Room).cells ({ frames := 1, cells := 0, slots := 0, locals := 12 } : Room).slots) := by
  refine MetFree.of_bodySF (plainFor_of_name own_pn2) hisR ?_
  intro p e s m args below meth c s₁ Bd hml0 hP hK
  obtain ⟨rfl, hZ, hh⟩ := hP
  have hx := Bd.exec
  have hby := Bd.bytes
  have hml : c.maxLocals = 7 := hml0
  have hown : s.vm.findClass "com/example/line_to_seat/linetoseat/store/SectionSeats" = some m.cls := findClass_of_methodNamed Bd.named
  have hnm := (name_of_methodNamed Bd.named Bd.method).1
  have X0 : Stand p l e ({ frames := 1, cells := 0, slots := 0, locals := 12 } : Room) s m #[(.ref a1), (.ref r0), (.ref r1), (.ref r2), (.int sv), (.int en), (.int wl)] below meth c s₁ [] 0 0 := Stand.of_body Bd
  have e0 : s₁.heap = h0 := by rw [← hh, Bd.state]; rfl
  have N0 := Fr.nil n0
  refine own_top (Q := Q6 Z a1 r0 r1 r2 sv en wl h0 n0) (ef_6 m a1 r0 r1 r2 sv en wl) ?_
  show own_G p.tables e below s₁ (mkF m 0 #[.val (.ref a1), .val (.ref r0), .val (.ref r1), .val (.ref r2), .val (.int sv), .val (.int en), .val (.int wl)] []) _
  refine own_go (fun t_ k_ => XS.aloadN X0.here hx rfl (hb hby d6_0) rfl rfl k_) ?_
  show own_G p.tables e below s₁ (mkF m 1 #[.val (.ref a1), .val (.ref r0), .val (.ref r1), .val (.ref r2), .val (.int sv), .val (.int en), .val (.int wl)] [(.ref a1)]) _
  obtain ⟨T1, X1, e1, st1⟩ := initO X0 hx hZ hown (hw _ (List.mem_of_getElem? (i := 33) rfl)) (hw _ (List.mem_of_getElem? (i := 24) rfl)) (hw _ (List.mem_of_getElem? (i := 25) rfl)) e0 (g := (mkF m 1 #[.val (.ref a1), .val (.ref r0), .val (.ref r1), .val (.ref r2), .val (.int sv), .val (.int en), .val (.int wl)] [(.ref a1)])) rfl (by rw [hml]; rfl) rfl (hb hby d6_1) (by decide) (W := 0) (by show 2 * 0 + _ ≤ _; exact Nat.le_of_eq rfl) (by decide)
  refine own_go st1 ?_
  show own_G p.tables e below T1 (mkF m 4 #[.val (.ref a1), .val (.ref r0), .val (.ref r1), .val (.ref r2), .val (.int sv), .val (.int en), .val (.int wl)] []) _
  refine own_go (fun t_ k_ => XS.aloadN X1.here hx rfl (hb hby d6_4) rfl rfl k_) ?_
  show own_G p.tables e below T1 (mkF m 5 #[.val (.ref a1), .val (.ref r0), .val (.ref r1), .val (.ref r2), .val (.int sv), .val (.int en), .val (.int wl)] [(.ref a1)]) _
  refine own_go (fun t_ k_ => XS.aloadN X1.here hx rfl (hb hby d6_5) rfl rfl k_) ?_
  show own_G p.tables e below T1 (mkF m 6 #[.val (.ref a1), .val (.ref r0), .val (.ref r1), .val (.ref r2), .val (.int sv), .val (.int en), .val (.int wl)] [(.ref r0), (.ref a1)]) _
  obtain ⟨T2, h2, X2, e2, W2, st2⟩ := putF X1 hx hZ hown (host := "") (Or.inl (hw _ (List.mem_of_getElem? (i := 34) rfl))) Via.refl e1 F_sectionId E1 (Or.inr ⟨(hw _ (List.mem_of_getElem? (i := 35) rfl)), rfl, hnm⟩) (hw _ (List.mem_of_getElem? (i := 2) rfl)) (ty := (.object "java/lang/String")) (by decide) rfl rfl (g := (mkF m 6 #[.val (.ref a1), .val (.ref r0), .val (.ref r1), .val (.ref r2), .val (.int sv), .val (.int en), .val (.int wl)] [(.ref r0), (.ref a1)])) rfl rfl (hb hby d6_6)
  have N2 := Fr.snoc X2 N0 ge1
  refine own_go st2 ?_
  show own_G p.tables e below T2 (mkF m 9 #[.val (.ref a1), .val (.ref r0), .val (.ref r1), .val (.ref r2), .val (.int sv), .val (.int en), .val (.int wl)] []) _
  have f3 : Fld Z h2 a1 "com/example/line_to_seat/linetoseat/store/SectionSeats" "sectionId" "Ljava/lang/String;" (.ref r0) := F_sectionId.same W2
  refine own_go (fun t_ k_ => XS.aloadN X2.here hx rfl (hb hby d6_9) rfl rfl k_) ?_
  show own_G p.tables e below T2 (mkF m 10 #[.val (.ref a1), .val (.ref r0), .val (.ref r1), .val (.ref r2), .val (.int sv), .val (.int en), .val (.int wl)] [(.ref a1)]) _
  refine own_go (fun t_ k_ => XS.aloadN X2.here hx rfl (hb hby d6_10) rfl rfl k_) ?_
  show own_G p.tables e below T2 (mkF m 11 #[.val (.ref a1), .val (.ref r0), .val (.ref r1), .val (.ref r2), .val (.int sv), .val (.int en), .val (.int wl)] [(.ref r1), (.ref a1)]) _
  have f4 : Exa Z h2 a1 "com/example/line_to_seat/linetoseat/store/SectionSeats" := (E1.wr W2)
  have f5 : Fld Z h2 a1 "com/example/line_to_seat/linetoseat/store/SectionSeats" "course" "Ljava/lang/String;" .null := (F_course.other W2 (Or.inr (slot_ne (Or.inr (hw _ (List.mem_of_getElem? (i := 37) rfl))) (Or.inr (hw _ (List.mem_of_getElem? (i := 35) rfl))) (by decide) (t := (.object "java/lang/String")) (t' := (.object "java/lang/String")) (by decide) (by decide))))
  obtain ⟨T6, h6, X6, e6, W6, st6⟩ := putF X2 hx hZ hown (host := "") (Or.inl (hw _ (List.mem_of_getElem? (i := 36) rfl))) Via.refl e2 f5 f4 (Or.inr ⟨(hw _ (List.mem_of_getElem? (i := 37) rfl)), rfl, hnm⟩) (hw _ (List.mem_of_getElem? (i := 2) rfl)) (ty := (.object "java/lang/String")) (by decide) rfl rfl (g := (mkF m 11 #[.val (.ref a1), .val (.ref r0), .val (.ref r1), .val (.ref r2), .val (.int sv), .val (.int en), .val (.int wl)] [(.ref r1), (.ref a1)])) rfl rfl (hb hby d6_11)
  have N6 := Fr.snoc X6 N2 ge1
  refine own_go st6 ?_
  show own_G p.tables e below T6 (mkF m 14 #[.val (.ref a1), .val (.ref r0), .val (.ref r1), .val (.ref r2), .val (.int sv), .val (.int en), .val (.int wl)] []) _
  have f7 : Fld Z h6 a1 "com/example/line_to_seat/linetoseat/store/SectionSeats" "course" "Ljava/lang/String;" (.ref r1) := f5.same W6
  refine own_go (fun t_ k_ => XS.aloadN X6.here hx rfl (hb hby d6_14) rfl rfl k_) ?_
  show own_G p.tables e below T6 (mkF m 15 #[.val (.ref a1), .val (.ref r0), .val (.ref r1), .val (.ref r2), .val (.int sv), .val (.int en), .val (.int wl)] [(.ref a1)]) _
  refine own_go (fun t_ k_ => XS.aloadN X6.here hx rfl (hb hby d6_15) rfl rfl k_) ?_
  show own_G p.tables e below T6 (mkF m 16 #[.val (.ref a1), .val (.ref r0), .val (.ref r1), .val (.ref r2), .val (.int sv), .val (.int en), .val (.int wl)] [(.ref r2), (.ref a1)]) _
  have f8 : Exa Z h6 a1 "com/example/line_to_seat/linetoseat/store/SectionSeats" := (f4.wr W6)
  have f9 : Fld Z h2 a1 "com/example/line_to_seat/linetoseat/store/SectionSeats" "sectionCode" "Ljava/lang/String;" .null := (F_sectionCode.other W2 (Or.inr (slot_ne (Or.inr (hw _ (List.mem_of_getElem? (i := 39) rfl))) (Or.inr (hw _ (List.mem_of_getElem? (i := 35) rfl))) (by decide) (t := (.object "java/lang/String")) (t' := (.object "java/lang/String")) (by decide) (by decide))))
  have f10 : Fld Z h6 a1 "com/example/line_to_seat/linetoseat/store/SectionSeats" "sectionCode" "Ljava/lang/String;" .null := (f9.other W6 (Or.inr (slot_ne (Or.inr (hw _ (List.mem_of_getElem? (i := 39) rfl))) (Or.inr (hw _ (List.mem_of_getElem? (i := 37) rfl))) (by decide) (t := (.object "java/lang/String")) (t' := (.object "java/lang/String")) (by decide) (by decide))))
  obtain ⟨T11, h11, X11, e11, W11, st11⟩ := putF X6 hx hZ hown (host := "") (Or.inl (hw _ (List.mem_of_getElem? (i := 38) rfl))) Via.refl e6 f10 f8 (Or.inr ⟨(hw _ (List.mem_of_getElem? (i := 39) rfl)), rfl, hnm⟩) (hw _ (List.mem_of_getElem? (i := 2) rfl)) (ty := (.object "java/lang/String")) (by decide) rfl rfl (g := (mkF m 16 #[.val (.ref a1), .val (.ref r0), .val (.ref r1), .val (.ref r2), .val (.int sv), .val (.int en), .val (.int wl)] [(.ref r2), (.ref a1)])) rfl rfl (hb hby d6_16)
  have N11 := Fr.snoc X11 N6 ge1
  refine own_go st11 ?_
  show own_G p.tables e below T11 (mkF m 19 #[.val (.ref a1), .val (.ref r0), .val (.ref r1), .val (.ref r2), .val (.int sv), .val (.int en), .val (.int wl)] []) _
  have f12 : Fld Z h11 a1 "com/example/line_to_seat/linetoseat/store/SectionSeats" "sectionCode" "Ljava/lang/String;" (.ref r2) := f10.same W11
  refine own_go (fun t_ k_ => XS.aloadN X11.here hx rfl (hb hby d6_19) rfl rfl k_) ?_
  show own_G p.tables e below T11 (mkF m 20 #[.val (.ref a1), .val (.ref r0), .val (.ref r1), .val (.ref r2), .val (.int sv), .val (.int en), .val (.int wl)] [(.ref a1)]) _
  refine own_go (fun t_ k_ => XS.iload X11.here hx rfl (hb hby d6_20) rfl k_) ?_
  show own_G p.tables e below T11 (mkF m 22 #[.val (.ref a1), .val (.ref r0), .val (.ref r1), .val (.ref r2), .val (.int sv), .val (.int en), .val (.int wl)] [(.int sv), (.ref a1)]) _
  have f13 : Exa Z h11 a1 "com/example/line_to_seat/linetoseat/store/SectionSeats" := (f8.wr W11)
  have f14 : Fld Z h2 a1 "com/example/line_to_seat/linetoseat/store/SectionSeats" "seats" "I" (.int (0 : Int32)) := (F_seats.other W2 (Or.inr (slot_ne (Or.inr (hw _ (List.mem_of_getElem? (i := 41) rfl))) (Or.inr (hw _ (List.mem_of_getElem? (i := 35) rfl))) (by decide) (t := .int) (t' := (.object "java/lang/String")) (by decide) (by decide))))
  have f15 : Fld Z h6 a1 "com/example/line_to_seat/linetoseat/store/SectionSeats" "seats" "I" (.int (0 : Int32)) := (f14.other W6 (Or.inr (slot_ne (Or.inr (hw _ (List.mem_of_getElem? (i := 41) rfl))) (Or.inr (hw _ (List.mem_of_getElem? (i := 37) rfl))) (by decide) (t := .int) (t' := (.object "java/lang/String")) (by decide) (by decide))))
  have f16 : Fld Z h11 a1 "com/example/line_to_seat/linetoseat/store/SectionSeats" "seats" "I" (.int (0 : Int32)) := (f15.other W11 (Or.inr (slot_ne (Or.inr (hw _ (List.mem_of_getElem? (i := 41) rfl))) (Or.inr (hw _ (List.mem_of_getElem? (i := 39) rfl))) (by decide) (t := .int) (t' := (.object "java/lang/String")) (by decide) (by decide))))
  obtain ⟨T17, h17, X17, e17, W17, st17⟩ := putF X11 hx hZ hown (host := "") (Or.inl (hw _ (List.mem_of_getElem? (i := 40) rfl))) Via.refl e11 f16 f13 (Or.inr ⟨(hw _ (List.mem_of_getElem? (i := 41) rfl)), rfl, hnm⟩) (hw _ (List.mem_of_getElem? (i := 2) rfl)) (ty := .int) (by decide) rfl rfl (g := (mkF m 22 #[.val (.ref a1), .val (.ref r0), .val (.ref r1), .val (.ref r2), .val (.int sv), .val (.int en), .val (.int wl)] [(.int sv), (.ref a1)])) rfl rfl (hb hby d6_22)
  have N17 := Fr.snoc X17 N11 ge1
  refine own_go st17 ?_
  show own_G p.tables e below T17 (mkF m 25 #[.val (.ref a1), .val (.ref r0), .val (.ref r1), .val (.ref r2), .val (.int sv), .val (.int en), .val (.int wl)] []) _
  have f18 : Fld Z h17 a1 "com/example/line_to_seat/linetoseat/store/SectionSeats" "seats" "I" (.int sv) := f16.same W17
  refine own_go (fun t_ k_ => XS.aloadN X17.here hx rfl (hb hby d6_25) rfl rfl k_) ?_
  show own_G p.tables e below T17 (mkF m 26 #[.val (.ref a1), .val (.ref r0), .val (.ref r1), .val (.ref r2), .val (.int sv), .val (.int en), .val (.int wl)] [(.ref a1)]) _
  refine own_go (fun t_ k_ => XS.iload X17.here hx rfl (hb hby d6_26) rfl k_) ?_
  show own_G p.tables e below T17 (mkF m 28 #[.val (.ref a1), .val (.ref r0), .val (.ref r1), .val (.ref r2), .val (.int sv), .val (.int en), .val (.int wl)] [(.int en), (.ref a1)]) _
  have f19 : Exa Z h17 a1 "com/example/line_to_seat/linetoseat/store/SectionSeats" := (f13.wr W17)
  have f20 : Fld Z h2 a1 "com/example/line_to_seat/linetoseat/store/SectionSeats" "enrolled" "I" (.int (0 : Int32)) := (F_enrolled.other W2 (Or.inr (slot_ne (Or.inr (hw _ (List.mem_of_getElem? (i := 43) rfl))) (Or.inr (hw _ (List.mem_of_getElem? (i := 35) rfl))) (by decide) (t := .int) (t' := (.object "java/lang/String")) (by decide) (by decide))))
  have f21 : Fld Z h6 a1 "com/example/line_to_seat/linetoseat/store/SectionSeats" "enrolled" "I" (.int (0 : Int32)) := (f20.other W6 (Or.inr (slot_ne (Or.inr (hw _ (List.mem_of_getElem? (i := 43) rfl))) (Or.inr (hw _ (List.mem_of_getElem? (i := 37) rfl))) (by decide) (t := .int) (t' := (.object "java/lang/String")) (by decide) (by decide))))
  have f22 : Fld Z h11 a1 "com/example/line_to_seat/linetoseat/store/SectionSeats" "enrolled" "I" (.int (0 : Int32)) := (f21.other W11 (Or.inr (slot_ne (Or.inr (hw _ (List.mem_of_getElem? (i := 43) rfl))) (Or.inr (hw _ (List.mem_of_getElem? (i := 39) rfl))) (by decide) (t := .int) (t' := (.object "java/lang/String")) (by decide) (by decide))))
  have f23 : Fld Z h17 a1 "com/example/line_to_seat/linetoseat/store/SectionSeats" "enrolled" "I" (.int (0 : Int32)) := (f22.other W17 (Or.inr (slot_ne (Or.inr (hw _ (List.mem_of_getElem? (i := 43) rfl))) (Or.inr (hw _ (List.mem_of_getElem? (i := 41) rfl))) (by decide) (t := .int) (t' := .int) (by decide) (by decide))))
  obtain ⟨T24, h24, X24, e24, W24, st24⟩ := putF X17 hx hZ hown (host := "") (Or.inl (hw _ (List.mem_of_getElem? (i := 42) rfl))) Via.refl e17 f23 f19 (Or.inr ⟨(hw _ (List.mem_of_getElem? (i := 43) rfl)), rfl, hnm⟩) (hw _ (List.mem_of_getElem? (i := 2) rfl)) (ty := .int) (by decide) rfl rfl (g := (mkF m 28 #[.val (.ref a1), .val (.ref r0), .val (.ref r1), .val (.ref r2), .val (.int sv), .val (.int en), .val (.int wl)] [(.int en), (.ref a1)])) rfl rfl (hb hby d6_28)
  have N24 := Fr.snoc X24 N17 ge1
  refine own_go st24 ?_
  show own_G p.tables e below T24 (mkF m 31 #[.val (.ref a1), .val (.ref r0), .val (.ref r1), .val (.ref r2), .val (.int sv), .val (.int en), .val (.int wl)] []) _
  have f25 : Fld Z h24 a1 "com/example/line_to_seat/linetoseat/store/SectionSeats" "enrolled" "I" (.int en) := f23.same W24
  refine own_go (fun t_ k_ => XS.aloadN X24.here hx rfl (hb hby d6_31) rfl rfl k_) ?_
  show own_G p.tables e below T24 (mkF m 32 #[.val (.ref a1), .val (.ref r0), .val (.ref r1), .val (.ref r2), .val (.int sv), .val (.int en), .val (.int wl)] [(.ref a1)]) _
  refine own_go (fun t_ k_ => XS.iload X24.here hx rfl (hb hby d6_32) rfl k_) ?_
  show own_G p.tables e below T24 (mkF m 34 #[.val (.ref a1), .val (.ref r0), .val (.ref r1), .val (.ref r2), .val (.int sv), .val (.int en), .val (.int wl)] [(.int wl), (.ref a1)]) _
  have f26 : Exa Z h24 a1 "com/example/line_to_seat/linetoseat/store/SectionSeats" := (f19.wr W24)
  have f27 : Fld Z h2 a1 "com/example/line_to_seat/linetoseat/store/SectionSeats" "waitlisted" "I" (.int (0 : Int32)) := (F_waitlisted.other W2 (Or.inr (slot_ne (Or.inr (hw _ (List.mem_of_getElem? (i := 45) rfl))) (Or.inr (hw _ (List.mem_of_getElem? (i := 35) rfl))) (by decide) (t := .int) (t' := (.object "java/lang/String")) (by decide) (by decide))))
  have f28 : Fld Z h6 a1 "com/example/line_to_seat/linetoseat/store/SectionSeats" "waitlisted" "I" (.int (0 : Int32)) := (f27.other W6 (Or.inr (slot_ne (Or.inr (hw _ (List.mem_of_getElem? (i := 45) rfl))) (Or.inr (hw _ (List.mem_of_getElem? (i := 37) rfl))) (by decide) (t := .int) (t' := (.object "java/lang/String")) (by decide) (by decide))))
  have f29 : Fld Z h11 a1 "com/example/line_to_seat/linetoseat/store/SectionSeats" "waitlisted" "I" (.int (0 : Int32)) := (f28.other W11 (Or.inr (slot_ne (Or.inr (hw _ (List.mem_of_getElem? (i := 45) rfl))) (Or.inr (hw _ (List.mem_of_getElem? (i := 39) rfl))) (by decide) (t := .int) (t' := (.object "java/lang/String")) (by decide) (by decide))))
  have f30 : Fld Z h17 a1 "com/example/line_to_seat/linetoseat/store/SectionSeats" "waitlisted" "I" (.int (0 : Int32)) := (f29.other W17 (Or.inr (slot_ne (Or.inr (hw _ (List.mem_of_getElem? (i := 45) rfl))) (Or.inr (hw _ (List.mem_of_getElem? (i := 41) rfl))) (by decide) (t := .int) (t' := .int) (by decide) (by decide))))
  have f31 : Fld Z h24 a1 "com/example/line_to_seat/linetoseat/store/SectionSeats" "waitlisted" "I" (.int (0 : Int32)) := (f30.other W24 (Or.inr (slot_ne (Or.inr (hw _ (List.mem_of_getElem? (i := 45) rfl))) (Or.inr (hw _ (List.mem_of_getElem? (i := 43) rfl))) (by decide) (t := .int) (t' := .int) (by decide) (by decide))))
  obtain ⟨T32, h32, X32, e32, W32, st32⟩ := putF X24 hx hZ hown (host := "") (Or.inl (hw _ (List.mem_of_getElem? (i := 44) rfl))) Via.refl e24 f31 f26 (Or.inr ⟨(hw _ (List.mem_of_getElem? (i := 45) rfl)), rfl, hnm⟩) (hw _ (List.mem_of_getElem? (i := 2) rfl)) (ty := .int) (by decide) rfl rfl (g := (mkF m 34 #[.val (.ref a1), .val (.ref r0), .val (.ref r1), .val (.ref r2), .val (.int sv), .val (.int en), .val (.int wl)] [(.int wl), (.ref a1)])) rfl rfl (hb hby d6_34)
  have N32 := Fr.snoc X32 N24 ge1
  refine own_go st32 ?_
  show own_G p.tables e below T32 (mkF m 37 #[.val (.ref a1), .val (.ref r0), .val (.ref r1), .val (.ref r2), .val (.int sv), .val (.int en), .val (.int wl)] []) _
  have f33 : Fld Z h32 a1 "com/example/line_to_seat/linetoseat/store/SectionSeats" "waitlisted" "I" (.int wl) := f31.same W32
  have f34 : Keep h0 h32 [a1] := (((((((Keep.refl h0 [a1]).wr W2 (Or.inl (List.mem_of_getElem? (i := 0) rfl))).wr W6 (Or.inl (List.mem_of_getElem? (i := 0) rfl))).wr W11 (Or.inl (List.mem_of_getElem? (i := 0) rfl))).wr W17 (Or.inl (List.mem_of_getElem? (i := 0) rfl))).wr W24 (Or.inl (List.mem_of_getElem? (i := 0) rfl))).wr W32 (Or.inl (List.mem_of_getElem? (i := 0) rfl)))
  have f35 : Exa Z h32 a1 "com/example/line_to_seat/linetoseat/store/SectionSeats" := (f26.wr W32)
  have f36 : Fld Z h6 a1 "com/example/line_to_seat/linetoseat/store/SectionSeats" "sectionId" "Ljava/lang/String;" (.ref r0) := (f3.other W6 (Or.inr (slot_ne (Or.inr (hw _ (List.mem_of_getElem? (i := 35) rfl))) (Or.inr (hw _ (List.mem_of_getElem? (i := 37) rfl))) (by decide) (t := (.object "java/lang/String")) (t' := (.object "java/lang/String")) (by decide) (by decide))))
  have f37 : Fld Z h11 a1 "com/example/line_to_seat/linetoseat/store/SectionSeats" "sectionId" "Ljava/lang/String;" (.ref r0) := (f36.other W11 (Or.inr (slot_ne (Or.inr (hw _ (List.mem_of_getElem? (i := 35) rfl))) (Or.inr (hw _ (List.mem_of_getElem? (i := 39) rfl))) (by decide) (t := (.object "java/lang/String")) (t' := (.object "java/lang/String")) (by decide) (by decide))))
  have f38 : Fld Z h17 a1 "com/example/line_to_seat/linetoseat/store/SectionSeats" "sectionId" "Ljava/lang/String;" (.ref r0) := (f37.other W17 (Or.inr (slot_ne (Or.inr (hw _ (List.mem_of_getElem? (i := 35) rfl))) (Or.inr (hw _ (List.mem_of_getElem? (i := 41) rfl))) (by decide) (t := (.object "java/lang/String")) (t' := .int) (by decide) (by decide))))
  have f39 : Fld Z h24 a1 "com/example/line_to_seat/linetoseat/store/SectionSeats" "sectionId" "Ljava/lang/String;" (.ref r0) := (f38.other W24 (Or.inr (slot_ne (Or.inr (hw _ (List.mem_of_getElem? (i := 35) rfl))) (Or.inr (hw _ (List.mem_of_getElem? (i := 43) rfl))) (by decide) (t := (.object "java/lang/String")) (t' := .int) (by decide) (by decide))))
  have f40 : Fld Z h32 a1 "com/example/line_to_seat/linetoseat/store/SectionSeats" "sectionId" "Ljava/lang/String;" (.ref r0) := (f39.other W32 (Or.inr (slot_ne (Or.inr (hw _ (List.mem_of_getElem? (i := 35) rfl))) (Or.inr (hw _ (List.mem_of_getElem? (i := 45) rfl))) (by decide) (t := (.object "java/lang/String")) (t' := .int) (by decide) (by decide))))
  have f41 : Fld Z h11 a1 "com/example/line_to_seat/linetoseat/store/SectionSeats" "course" "Ljava/lang/String;" (.ref r1) := (f7.other W11 (Or.inr (slot_ne (Or.inr (hw _ (List.mem_of_getElem? (i := 37) rfl))) (Or.inr (hw _ (List.mem_of_getElem? (i := 39) rfl))) (by decide) (t := (.object "java/lang/String")) (t' := (.object "java/lang/String")) (by decide) (by decide))))
  have f42 : Fld Z h17 a1 "com/example/line_to_seat/linetoseat/store/SectionSeats" "course" "Ljava/lang/String;" (.ref r1) := (f41.other W17 (Or.inr (slot_ne (Or.inr (hw _ (List.mem_of_getElem? (i := 37) rfl))) (Or.inr (hw _ (List.mem_of_getElem? (i := 41) rfl))) (by decide) (t := (.object "java/lang/String")) (t' := .int) (by decide) (by decide))))
  have f43 : Fld Z h24 a1 "com/example/line_to_seat/linetoseat/store/SectionSeats" "course" "Ljava/lang/String;" (.ref r1) := (f42.other W24 (Or.inr (slot_ne (Or.inr (hw _ (List.mem_of_getElem? (i := 37) rfl))) (Or.inr (hw _ (List.mem_of_getElem? (i := 43) rfl))) (by decide) (t := (.object "java/lang/String")) (t' := .int) (by decide) (by decide))))
  have f44 : Fld Z h32 a1 "com/example/line_to_seat/linetoseat/store/SectionSeats" "course" "Ljava/lang/String;" (.ref r1) := (f43.other W32 (Or.inr (slot_ne (Or.inr (hw _ (List.mem_of_getElem? (i := 37) rfl))) (Or.inr (hw _ (List.mem_of_getElem? (i := 45) rfl))) (by decide) (t := (.object "java/lang/String")) (t' := .int) (by decide) (by decide))))
  have f45 : Fld Z h17 a1 "com/example/line_to_seat/linetoseat/store/SectionSeats" "sectionCode" "Ljava/lang/String;" (.ref r2) := (f12.other W17 (Or.inr (slot_ne (Or.inr (hw _ (List.mem_of_getElem? (i := 39) rfl))) (Or.inr (hw _ (List.mem_of_getElem? (i := 41) rfl))) (by decide) (t := (.object "java/lang/String")) (t' := .int) (by decide) (by decide))))
  have f46 : Fld Z h24 a1 "com/example/line_to_seat/linetoseat/store/SectionSeats" "sectionCode" "Ljava/lang/String;" (.ref r2) := (f45.other W24 (Or.inr (slot_ne (Or.inr (hw _ (List.mem_of_getElem? (i := 39) rfl))) (Or.inr (hw _ (List.mem_of_getElem? (i := 43) rfl))) (by decide) (t := (.object "java/lang/String")) (t' := .int) (by decide) (by decide))))
  have f47 : Fld Z h32 a1 "com/example/line_to_seat/linetoseat/store/SectionSeats" "sectionCode" "Ljava/lang/String;" (.ref r2) := (f46.other W32 (Or.inr (slot_ne (Or.inr (hw _ (List.mem_of_getElem? (i := 39) rfl))) (Or.inr (hw _ (List.mem_of_getElem? (i := 45) rfl))) (by decide) (t := (.object "java/lang/String")) (t' := .int) (by decide) (by decide))))
  have f48 : Fld Z h24 a1 "com/example/line_to_seat/linetoseat/store/SectionSeats" "seats" "I" (.int sv) := (f18.other W24 (Or.inr (slot_ne (Or.inr (hw _ (List.mem_of_getElem? (i := 41) rfl))) (Or.inr (hw _ (List.mem_of_getElem? (i := 43) rfl))) (by decide) (t := .int) (t' := .int) (by decide) (by decide))))
  have f49 : Fld Z h32 a1 "com/example/line_to_seat/linetoseat/store/SectionSeats" "seats" "I" (.int sv) := (f48.other W32 (Or.inr (slot_ne (Or.inr (hw _ (List.mem_of_getElem? (i := 41) rfl))) (Or.inr (hw _ (List.mem_of_getElem? (i := 45) rfl))) (by decide) (t := .int) (t' := .int) (by decide) (by decide))))
  have f50 : Fld Z h32 a1 "com/example/line_to_seat/linetoseat/store/SectionSeats" "enrolled" "I" (.int en) := (f25.other W32 (Or.inr (slot_ne (Or.inr (hw _ (List.mem_of_getElem? (i := 43) rfl))) (Or.inr (hw _ (List.mem_of_getElem? (i := 45) rfl))) (by decide) (t := .int) (t' := .int) (by decide) (by decide))))
  exact own_end (v := none) X32 Bd.notSynchronized (fun _ => rfl) (fun fs hr => X32.returnOut hx Bd.returns (hb hby d6_37) hr) e32 ⟨rfl, N32, f34, f35, f40, f44, f47, f49, f50, f33⟩ (by decide) (by decide)
theorem d12_0 : decode prog_41_method_9_code 0 = .ok (.aload_n 1, 1) := by decide +kernel
theorem d12_1 : decode prog_41_method_9_code 1 = .ok (.instanceof 8, 3) := by decide +kernel
theorem d12_4 : decode prog_41_method_9_code 4 = .ok (.ifCond .eq 87, 3) := by decide +kernel
theorem d12_91 : decode prog_41_method_9_code 91 = .ok (.iconst 0, 1) := by decide +kernel
theorem d12_92 : decode prog_41_method_9_code 92 = .ok (.ireturn, 1) := by decide +kernel
theorem ef_12N (m : MethodId) (a1 : Addr) : entryFrame m #[(.ref a1), .null] 3 = mkF m 0 #[.val (.ref a1), .val .null, .unset] [] := by first | (simp [entryFrame, mkF, argsToLocals, Value.category]; done) | rfl
def Q12N (Z : State) (a1 : Addr)  (h0 : Heap) (n0 : Nat) (v : Option Value) (h : Heap) (L : List Loc) : Prop := v = some (.int (0 : Int32)) ∧ Fr n0 L ∧ h = h0
set_option maxRecDepth 65536 in
set_option maxHeartbeats 40000000 in
theorem rm12N (l : Launch) (Z : State) (a0 : Array Value) (hw : ∀ d ∈ tables_1, d.before a0 Z = true) (ws : List Jvm.Cond) (a1 : Addr)  (h0 : Heap) (n0 : Nat) (Z0 : n0 ≤ h0.size) :
    MetFree l (⟨"com/example/line_to_seat/linetoseat/store/SectionSeats", "equals", "(Ljava/lang/Object;)Z"⟩ : MethodName) (head1 (Jvm.Cond.code (⟨"com/example/line_to_seat/linetoseat/store/SectionSeats", "equals", "(Ljava/lang/Object;)Z"⟩ : MethodName) prog_41_method_9_code 3 (some .boolean) :: ws) ({ frames := 0, cells := 0, slots := 0, locals := 0 } : Room)) (fun a U => a = #[(.ref a1), .null] ∧ Z.Warmed39 U.vm ∧ U.heap = h0) (fun _ _ _ _ _ => True) (fun _ U o U' => ∃ v L, o = .returned v ∧ Q12N Z a1 h0 n0 v U'.heap L ∧ FrameEnd U o U' L ({ frames := 0, cells := 0, slots := 0, locals := 0 } : Room).cells ({ frames := 0, cells := 0, slots := 0, locals := 0 } : Room).slots) := by
  refine MetFree.of_bodySF (plainFor_of_name own_pn2) hisR ?_
  intro p e s m args below meth c s₁ Bd hml0 hP hK
  obtain ⟨rfl, hZ, hh⟩ := hP
  have hx := Bd.exec
  have hby := Bd.bytes
  have hml : c.maxLocals = 3 := hml0
  have hown : s.vm.findClass "com/example/line_to_seat/linetoseat/store/SectionSeats" = some m.cls := findClass_of_methodNamed Bd.named
  have hnm := (name_of_methodNamed Bd.named Bd.method).1
  have X0 : Stand p l e ({ frames := 0, cells := 0, slots := 0, locals := 0 } : Room) s m #[(.ref a1), .null] below meth c s₁ [] 0 0 := Stand.of_body Bd
  have e0 : s₁.heap = h0 := by rw [← hh, Bd.state]; rfl
  have N0 := Fr.nil n0
  refine own_top (Q := Q12N Z a1 h0 n0) (ef_12N m a1) ?_
  show own_G p.tables e below s₁ (mkF m 0 #[.val (.ref a1), .val .null, .unset] []) _
  refine own_go (fun t_ k_ => XS.aloadN X0.here hx rfl (hb hby d12_0) rfl rfl k_) ?_
  show own_G p.tables e below s₁ (mkF m 1 #[.val (.ref a1), .val .null, .unset] [.null]) _
  refine own_go (fun t_ k_ => X0.instanceofNull hx (g := (mkF m 1 #[.val (.ref a1), .val .null, .unset] [.null])) rfl rfl (hb hby d12_1) _ k_) ?_
  show own_G p.tables e below s₁ (mkF m 4 #[.val (.ref a1), .val .null, .unset] [(.int (0 : Int32))]) _
  refine own_go (fun t_ k_ => XS.ifYes X0.here hx rfl (pc0 := 4) (pc' := 91) rfl (hb hby d12_4) rfl ((if0 _ _).trans (teq (by decide : ((0 : Int32) = (0 : Int32)))).1) (by decide) (by decide) k_) ?_
  show own_G p.tables e below s₁ (mkF m 91 #[.val (.ref a1), .val .null, .unset] []) _
  refine own_go (fun t_ k_ => XS.iconst X0.here hx rfl (hb hby d12_91) k_) ?_
  show own_G p.tables e below s₁ (mkF m 92 #[.val (.ref a1), .val .null, .unset] [(.int (0 : Int32))]) _
  exact own_end (v := some (.int (0 : Int32))) X0 Bd.notSynchronized (fun h => by rw [Bd.returns] at h; cases h) (fun fs hr => retN X0 hx (z := (0 : Int32)) (t := .boolean) Bd.returns (by simp) (hb hby d12_92) hr) e0 ⟨rfl, N0, rfl⟩ (by decide) (by decide)
theorem ef_12S (m : MethodId) (a1 : Addr) (a2 : Addr) : entryFrame m #[(.ref a1), (.ref a2)] 3 = mkF m 0 #[.val (.ref a1), .val (.ref a2), .unset] [] := by first | (simp [entryFrame, mkF, argsToLocals, Value.category]; done) | rfl
def Q12S (Z : State) (a1 : Addr) (a2 : Addr)  (h0 : Heap) (n0 : Nat) (v : Option Value) (h : Heap) (L : List Loc) : Prop := v = some (.int (0 : Int32)) ∧ Fr n0 L ∧ h = h0
set_option maxRecDepth 65536 in
set_option maxHeartbeats 40000000 in
theorem rm12S (l : Launch) (Z : State) (a0 : Array Value) (hw : ∀ d ∈ tables_1, d.before a0 Z = true) (ws : List Jvm.Cond) (a1 : Addr) (a2 : Addr)  (h0 : Heap) (n0 : Nat) (Z0 : n0 ≤ h0.size) (E2 : Exa Z h0 a2 "java/lang/String") :
    MetFree l (⟨"com/example/line_to_seat/linetoseat/store/SectionSeats", "equals", "(Ljava/lang/Object;)Z"⟩ : MethodName) (head1 (Jvm.Cond.code (⟨"com/example/line_to_seat/linetoseat/store/SectionSeats", "equals", "(Ljava/lang/Object;)Z"⟩ : MethodName) prog_41_method_9_code 3 (some .boolean) :: ws) ({ frames := 0, cells := 0, slots := 0, locals := 0 } : Room)) (fun a U => a = #[(.ref a1), (.ref a2)] ∧ Z.Warmed39 U.vm ∧ U.heap = h0) (fun _ _ _ _ _ => True) (fun _ U o U' => ∃ v L, o = .returned v ∧ Q12S Z a1 a2 h0 n0 v U'.heap L ∧ FrameEnd U o U' L ({ frames := 0, cells := 0, slots := 0, locals := 0 } : Room).cells ({ frames := 0, cells := 0, slots := 0, locals := 0 } : Room).slots) := by
  refine MetFree.of_bodySF (plainFor_of_name own_pn2) hisR ?_
  intro p e s m args below meth c s₁ Bd hml0 hP hK
  obtain ⟨rfl, hZ, hh⟩ := hP
  have hx := Bd.exec
  have hby := Bd.bytes
  have hml : c.maxLocals = 3 := hml0
  have hown : s.vm.findClass "com/example/line_to_seat/linetoseat/store/SectionSeats" = some m.cls := findClass_of_methodNamed Bd.named
  have hnm := (name_of_methodNamed Bd.named Bd.method).1
  have X0 : Stand p l e ({ frames := 0, cells := 0, slots := 0, locals := 0 } : Room) s m #[(.ref a1), (.ref a2)] below meth c s₁ [] 0 0 := Stand.of_body Bd
  have e0 : s₁.heap = h0 := by rw [← hh, Bd.state]; rfl
  have N0 := Fr.nil n0
  refine own_top (Q := Q12S Z a1 a2 h0 n0) (ef_12S m a1 a2) ?_
  show own_G p.tables e below s₁ (mkF m 0 #[.val (.ref a1), .val (.ref a2), .unset] []) _
  refine own_go (fun t_ k_ => XS.aloadN X0.here hx rfl (hb hby d12_0) rfl rfl k_) ?_
  show own_G p.tables e below s₁ (mkF m 1 #[.val (.ref a1), .val (.ref a2), .unset] [(.ref a2)]) _
  obtain ⟨T1, X1, e1, st1⟩ := instNo X0 hx hZ hown (hw _ (List.mem_of_getElem? (i := 69) rfl)) e0 E2 (own_na (hw _ (List.mem_of_getElem? (i := 79) rfl)) (hw _ (List.mem_of_getElem? (i := 80) rfl)) (hw _ (List.mem_of_getElem? (i := 2) rfl)) (hw _ (List.mem_of_getElem? (i := 14) rfl))) (g := (mkF m 1 #[.val (.ref a1), .val (.ref a2), .unset] [(.ref a2)])) rfl rfl (hb hby d12_1)
  refine own_go st1 ?_
  show own_G p.tables e below T1 (mkF m 4 #[.val (.ref a1), .val (.ref a2), .unset] [(.int (0 : Int32))]) _
  refine own_go (fun t_ k_ => XS.ifYes X1.here hx rfl (pc0 := 4) (pc' := 91) rfl (hb hby d12_4) rfl ((if0 _ _).trans (teq (by decide : ((0 : Int32) = (0 : Int32)))).1) (by decide) (by decide) k_) ?_
  show own_G p.tables e below T1 (mkF m 91 #[.val (.ref a1), .val (.ref a2), .unset] []) _
  refine own_go (fun t_ k_ => XS.iconst X1.here hx rfl (hb hby d12_91) k_) ?_
  show own_G p.tables e below T1 (mkF m 92 #[.val (.ref a1), .val (.ref a2), .unset] [(.int (0 : Int32))]) _
  exact own_end (v := some (.int (0 : Int32))) X1 Bd.notSynchronized (fun h => by rw [Bd.returns] at h; cases h) (fun fs hr => retN X1 hx (z := (0 : Int32)) (t := .boolean) Bd.returns (by simp) (hb hby d12_92) hr) e1 ⟨rfl, N0, rfl⟩ (by decide) (by decide)
theorem d12_7 : decode prog_41_method_9_code 7 = .ok (.aload_n 1, 1) := by decide +kernel
theorem d12_8 : decode prog_41_method_9_code 8 = .ok (.checkcast 8, 3) := by decide +kernel
theorem d12_11 : decode prog_41_method_9_code 11 = .ok (.astore_n 2, 1) := by decide +kernel
theorem d12_12 : decode prog_41_method_9_code 12 = .ok (.aload_n 0, 1) := by decide +kernel
theorem d12_13 : decode prog_41_method_9_code 13 = .ok (.getfield 7, 3) := by decide +kernel
theorem d12_16 : decode prog_41_method_9_code 16 = .ok (.aload_n 2, 1) := by decide +kernel
theorem d12_17 : decode prog_41_method_9_code 17 = .ok (.getfield 7, 3) := by decide +kernel
theorem d12_20 : decode prog_41_method_9_code 20 = .ok (.invokevirtual 29, 3) := by decide +kernel
theorem d12_23 : decode prog_41_method_9_code 23 = .ok (.ifCond .eq 68, 3) := by decide +kernel
theorem d12_26 : decode prog_41_method_9_code 26 = .ok (.aload_n 0, 1) := by decide +kernel
theorem d12_27 : decode prog_41_method_9_code 27 = .ok (.getfield 13, 3) := by decide +kernel
theorem d12_30 : decode prog_41_method_9_code 30 = .ok (.aload_n 2, 1) := by decide +kernel
theorem d12_31 : decode prog_41_method_9_code 31 = .ok (.getfield 13, 3) := by decide +kernel
theorem d12_34 : decode prog_41_method_9_code 34 = .ok (.invokevirtual 29, 3) := by decide +kernel
theorem d12_37 : decode prog_41_method_9_code 37 = .ok (.ifCond .eq 54, 3) := by decide +kernel
theorem d12_40 : decode prog_41_method_9_code 40 = .ok (.aload_n 0, 1) := by decide +kernel
theorem d12_41 : decode prog_41_method_9_code 41 = .ok (.getfield 16, 3) := by decide +kernel
theorem d12_44 : decode prog_41_method_9_code 44 = .ok (.aload_n 2, 1) := by decide +kernel
theorem d12_45 : decode prog_41_method_9_code 45 = .ok (.getfield 16, 3) := by decide +kernel
theorem d12_48 : decode prog_41_method_9_code 48 = .ok (.invokevirtual 29, 3) := by decide +kernel
theorem d12_51 : decode prog_41_method_9_code 51 = .ok (.ifCond .eq 40, 3) := by decide +kernel
theorem d12_54 : decode prog_41_method_9_code 54 = .ok (.aload_n 0, 1) := by decide +kernel
theorem d12_55 : decode prog_41_method_9_code 55 = .ok (.getfield 19, 3) := by decide +kernel
theorem d12_58 : decode prog_41_method_9_code 58 = .ok (.aload_n 2, 1) := by decide +kernel
theorem d12_59 : decode prog_41_method_9_code 59 = .ok (.getfield 19, 3) := by decide +kernel
theorem d12_62 : decode prog_41_method_9_code 62 = .ok (.if_icmp .ne 29, 3) := by decide +kernel
theorem d12_65 : decode prog_41_method_9_code 65 = .ok (.aload_n 0, 1) := by decide +kernel
theorem d12_66 : decode prog_41_method_9_code 66 = .ok (.getfield 23, 3) := by decide +kernel
theorem d12_69 : decode prog_41_method_9_code 69 = .ok (.aload_n 2, 1) := by decide +kernel
theorem d12_70 : decode prog_41_method_9_code 70 = .ok (.getfield 23, 3) := by decide +kernel
theorem d12_73 : decode prog_41_method_9_code 73 = .ok (.if_icmp .ne 18, 3) := by decide +kernel
theorem d12_76 : decode prog_41_method_9_code 76 = .ok (.aload_n 0, 1) := by decide +kernel
theorem d12_77 : decode prog_41_method_9_code 77 = .ok (.getfield 26, 3) := by decide +kernel
theorem d12_80 : decode prog_41_method_9_code 80 = .ok (.aload_n 2, 1) := by decide +kernel
theorem d12_81 : decode prog_41_method_9_code 81 = .ok (.getfield 26, 3) := by decide +kernel
theorem d12_84 : decode prog_41_method_9_code 84 = .ok (.if_icmp .ne 7, 3) := by decide +kernel
theorem d12_87 : decode prog_41_method_9_code 87 = .ok (.iconst 1, 1) := by decide +kernel
theorem d12_88 : decode prog_41_method_9_code 88 = .ok (.goto 4, 3) := by decide +kernel
theorem ef_12 (m : MethodId) (a1 : Addr) (a2 : Addr) : entryFrame m #[(.ref a1), (.ref a2)] 3 = mkF m 0 #[.val (.ref a1), .val (.ref a2), .unset] [] := by first | (simp [entryFrame, mkF, argsToLocals, Value.category]; done) | rfl
def Q12 (Z : State) (a1 : Addr) (a2 : Addr) (cs : Int32) (ra0 ta0 : Addr) (ka0 : ClassId) (ca0 : Int32) (ra1 ta1 : Addr) (ka1 : ClassId) (ca1 : Int32) (ra2 ta2 : Addr) (ka2 : ClassId) (ca2 : Int32) (rb0 tb0 : Addr) (kb0 : ClassId) (cb0 : Int32) (rb1 tb1 : Addr) (kb1 : ClassId) (cb1 : Int32) (rb2 tb2 : Addr) (kb2 : ClassId) (cb2 : Int32) (sa ea wa sb eb wb : Int32) (h0 : Heap) (n0 : Nat) (v : Option Value) (h : Heap) (L : List Loc) : Prop := v = some (.int (own_eq ca0 ca1 ca2 sa ea wa cb0 cb1 cb2 sb eb wb)) ∧ Fr n0 L ∧ h = h0
set_option maxRecDepth 65536 in
set_option maxHeartbeats 40000000 in
theorem rm12 (l : Launch) (Z : State) (a0 : Array Value) (hw : ∀ d ∈ tables_1, d.before a0 Z = true) (ws : List Jvm.Cond) (a1 : Addr) (a2 : Addr) (cs : Int32) (ra0 ta0 : Addr) (ka0 : ClassId) (ca0 : Int32) (ra1 ta1 : Addr) (ka1 : ClassId) (ca1 : Int32) (ra2 ta2 : Addr) (ka2 : ClassId) (ca2 : Int32) (rb0 tb0 : Addr) (kb0 : ClassId) (cb0 : Int32) (rb1 tb1 : Addr) (kb1 : ClassId) (cb1 : Int32) (rb2 tb2 : Addr) (kb2 : ClassId) (cb2 : Int32) (sa ea wa sb eb wb : Int32) (h0 : Heap) (n0 : Nat) (Z0 : n0 ≤ h0.size) (S_C : Sta Z h0 "java/lang/String" "COMPACT_STRINGS" "Z" (.int cs)) (hcs : ¬ cs = 0) (E1 : Exa Z h0 a1 "com/example/line_to_seat/linetoseat/store/SectionSeats") (E2 : Exa Z h0 a2 "com/example/line_to_seat/linetoseat/store/SectionSeats") (Ga0 : Fld Z h0 a1 "com/example/line_to_seat/linetoseat/store/SectionSeats" "sectionId" "Ljava/lang/String;" (.ref ra0)) (Ga1 : Fld Z h0 a1 "com/example/line_to_seat/linetoseat/store/SectionSeats" "course" "Ljava/lang/String;" (.ref ra1)) (Ga2 : Fld Z h0 a1 "com/example/line_to_seat/linetoseat/store/SectionSeats" "sectionCode" "Ljava/lang/String;" (.ref ra2)) (Ga3 : Fld Z h0 a1 "com/example/line_to_seat/linetoseat/store/SectionSeats" "seats" "I" (.int sa)) (Ga4 : Fld Z h0 a1 "com/example/line_to_seat/linetoseat/store/SectionSeats" "enrolled" "I" (.int ea)) (Ga5 : Fld Z h0 a1 "com/example/line_to_seat/linetoseat/store/SectionSeats" "waitlisted" "I" (.int wa)) (Ea0 : Exa Z h0 ra0 "java/lang/String") (Ca0 : Fld Z h0 ra0 "java/lang/String" "coder" "B" (.int (0 : Int32))) (Va0 : Fld Z h0 ra0 "java/lang/String" "value" "[B" (.ref ta0)) (Aa0 : Arv Z h0 ta0 ka0 .byte (1 : Int32) [(.int ca0.toInt8.toInt32)] (.int (0 : Int32))) (ha0 : ¬ ca0 < 0 ∧ ¬ (255 : Int32) < ca0) (Ea1 : Exa Z h0 ra1 "java/lang/String") (Ca1 : Fld Z h0 ra1 "java/lang/String" "coder" "B" (.int (0 : Int32))) (Va1 : Fld Z h0 ra1 "java/lang/String" "value" "[B" (.ref ta1)) (Aa1 : Arv Z h0 ta1 ka1 .byte (1 : Int32) [(.int ca1.toInt8.toInt32)] (.int (0 : Int32))) (ha1 : ¬ ca1 < 0 ∧ ¬ (255 : Int32) < ca1) (Ea2 : Exa Z h0 ra2 "java/lang/String") (Ca2 : Fld Z h0 ra2 "java/lang/String" "coder" "B" (.int (0 : Int32))) (Va2 : Fld Z h0 ra2 "java/lang/String" "value" "[B" (.ref ta2)) (Aa2 : Arv Z h0 ta2 ka2 .byte (1 : Int32) [(.int ca2.toInt8.toInt32)] (.int (0 : Int32))) (ha2 : ¬ ca2 < 0 ∧ ¬ (255 : Int32) < ca2) (Gb0 : Fld Z h0 a2 "com/example/line_to_seat/linetoseat/store/SectionSeats" "sectionId" "Ljava/lang/String;" (.ref rb0)) (Gb1 : Fld Z h0 a2 "com/example/line_to_seat/linetoseat/store/SectionSeats" "course" "Ljava/lang/String;" (.ref rb1)) (Gb2 : Fld Z h0 a2 "com/example/line_to_seat/linetoseat/store/SectionSeats" "sectionCode" "Ljava/lang/String;" (.ref rb2)) (Gb3 : Fld Z h0 a2 "com/example/line_to_seat/linetoseat/store/SectionSeats" "seats" "I" (.int sb)) (Gb4 : Fld Z h0 a2 "com/example/line_to_seat/linetoseat/store/SectionSeats" "enrolled" "I" (.int eb)) (Gb5 : Fld Z h0 a2 "com/example/line_to_seat/linetoseat/store/SectionSeats" "waitlisted" "I" (.int wb)) (Eb0 : Exa Z h0 rb0 "java/lang/String") (Cb0 : Fld Z h0 rb0 "java/lang/String" "coder" "B" (.int (0 : Int32))) (Vb0 : Fld Z h0 rb0 "java/lang/String" "value" "[B" (.ref tb0)) (Ab0 : Arv Z h0 tb0 kb0 .byte (1 : Int32) [(.int cb0.toInt8.toInt32)] (.int (0 : Int32))) (hb0 : ¬ cb0 < 0 ∧ ¬ (255 : Int32) < cb0) (Eb1 : Exa Z h0 rb1 "java/lang/String") (Cb1 : Fld Z h0 rb1 "java/lang/String" "coder" "B" (.int (0 : Int32))) (Vb1 : Fld Z h0 rb1 "java/lang/String" "value" "[B" (.ref tb1)) (Ab1 : Arv Z h0 tb1 kb1 .byte (1 : Int32) [(.int cb1.toInt8.toInt32)] (.int (0 : Int32))) (hb1 : ¬ cb1 < 0 ∧ ¬ (255 : Int32) < cb1) (Eb2 : Exa Z h0 rb2 "java/lang/String") (Cb2 : Fld Z h0 rb2 "java/lang/String" "coder" "B" (.int (0 : Int32))) (Vb2 : Fld Z h0 rb2 "java/lang/String" "value" "[B" (.ref tb2)) (Ab2 : Arv Z h0 tb2 kb2 .byte (1 : Int32) [(.int cb2.toInt8.toInt32)] (.int (0 : Int32))) (hb2 : ¬ cb2 < 0 ∧ ¬ (255 : Int32) < cb2) :
    MetFree l (⟨"com/example/line_to_seat/linetoseat/store/SectionSeats", "equals", "(Ljava/lang/Object;)Z"⟩ : MethodName) (head1 (Jvm.Cond.code (⟨"com/example/line_to_seat/linetoseat/store/SectionSeats", "equals", "(Ljava/lang/Object;)Z"⟩ : MethodName) prog_41_method_9_code 3 (some .boolean) :: ws) ({ frames := 2, cells := 0, slots := 0, locals := 28 } : Room)) (fun a U => a = #[(.ref a1), (.ref a2)] ∧ Z.Warmed39 U.vm ∧ U.heap = h0) (fun _ _ _ _ _ => True) (fun _ U o U' => ∃ v L, o = .returned v ∧ Q12 Z a1 a2 cs ra0 ta0 ka0 ca0 ra1 ta1 ka1 ca1 ra2 ta2 ka2 ca2 rb0 tb0 kb0 cb0 rb1 tb1 kb1 cb1 rb2 tb2 kb2 cb2 sa ea wa sb eb wb h0 n0 v U'.heap L ∧ FrameEnd U o U' L ({ frames := 2, cells := 0, slots := 0, locals := 28 } : Room).cells ({ frames := 2, cells := 0, slots := 0, locals := 28 } : Room).slots) := by
  refine MetFree.of_bodySF (plainFor_of_name own_pn2) hisR ?_
  intro p e s m args below meth c s₁ Bd hml0 hP hK
  obtain ⟨rfl, hZ, hh⟩ := hP
  have hx := Bd.exec
  have hby := Bd.bytes
  have hml : c.maxLocals = 3 := hml0
  have hown : s.vm.findClass "com/example/line_to_seat/linetoseat/store/SectionSeats" = some m.cls := findClass_of_methodNamed Bd.named
  have hnm := (name_of_methodNamed Bd.named Bd.method).1
  have X0 : Stand p l e ({ frames := 2, cells := 0, slots := 0, locals := 28 } : Room) s m #[(.ref a1), (.ref a2)] below meth c s₁ [] 0 0 := Stand.of_body Bd
  have e0 : s₁.heap = h0 := by rw [← hh, Bd.state]; rfl
  have N0 := Fr.nil n0
  refine own_top (Q := Q12 Z a1 a2 cs ra0 ta0 ka0 ca0 ra1 ta1 ka1 ca1 ra2 ta2 ka2 ca2 rb0 tb0 kb0 cb0 rb1 tb1 kb1 cb1 rb2 tb2 kb2 cb2 sa ea wa sb eb wb h0 n0) (ef_12 m a1 a2) ?_
  have heq : ∀ d ∈ StrChars.Road.wordsEq, d.before a0 Z = true := fun d hd => hw d ((by decide +kernel : ∀ d ∈ StrChars.Road.wordsEq, d ∈ tables_1) d hd)
  show own_G p.tables e below s₁ (mkF m 0 #[.val (.ref a1), .val (.ref a2), .unset] []) _
  refine own_go (fun t_ k_ => XS.aloadN X0.here hx rfl (hb hby d12_0) rfl rfl k_) ?_
  show own_G p.tables e below s₁ (mkF m 1 #[.val (.ref a1), .val (.ref a2), .unset] [(.ref a2)]) _
  obtain ⟨T1, X1, e1, st1⟩ := instY X0 hx hZ hown (hw _ (List.mem_of_getElem? (i := 69) rfl)) e0 (Ins.self E2) (g := (mkF m 1 #[.val (.ref a1), .val (.ref a2), .unset] [(.ref a2)])) rfl rfl (hb hby d12_1)
  refine own_go st1 ?_
  show own_G p.tables e below T1 (mkF m 4 #[.val (.ref a1), .val (.ref a2), .unset] [(.int (1 : Int32))]) _
  refine own_go (fun t_ k_ => XS.ifNo X1.here hx rfl (hb hby d12_4) rfl ((if0 _ _).trans (feq (by decide : ¬ ((1 : Int32) = (0 : Int32)))).1) k_) ?_
  show own_G p.tables e below T1 (mkF m 7 #[.val (.ref a1), .val (.ref a2), .unset] []) _
  refine own_go (fun t_ k_ => XS.aloadN X1.here hx rfl (hb hby d12_7) rfl rfl k_) ?_
  show own_G p.tables e below T1 (mkF m 8 #[.val (.ref a1), .val (.ref a2), .unset] [(.ref a2)]) _
  obtain ⟨T2, X2, e2, st2⟩ := castY X1 hx hZ hown (hw _ (List.mem_of_getElem? (i := 69) rfl)) e1 (Ins.self E2) (g := (mkF m 8 #[.val (.ref a1), .val (.ref a2), .unset] [(.ref a2)])) rfl rfl (hb hby d12_8)
  refine own_go st2 ?_
  show own_G p.tables e below T2 (mkF m 11 #[.val (.ref a1), .val (.ref a2), .unset] [(.ref a2)]) _
  refine own_go (fun t_ k_ => XS.astoreN X2.here hx rfl (hb hby d12_11) rfl rfl (l' := #[.val (.ref a1), .val (.ref a2), .val (.ref a2)]) rfl k_) ?_
  show own_G p.tables e below T2 (mkF m 12 #[.val (.ref a1), .val (.ref a2), .val (.ref a2)] []) _
  refine own_go (fun t_ k_ => XS.aloadN X2.here hx rfl (hb hby d12_12) rfl rfl k_) ?_
  show own_G p.tables e below T2 (mkF m 13 #[.val (.ref a1), .val (.ref a2), .val (.ref a2)] [(.ref a1)]) _
  obtain ⟨T3, X3, e3, st3⟩ := getF X2 hx hZ hown (host := "") (Or.inl (hw _ (List.mem_of_getElem? (i := 34) rfl))) Via.refl e2 Ga0 (g := (mkF m 13 #[.val (.ref a1), .val (.ref a2), .val (.ref a2)] [(.ref a1)])) rfl rfl (hb hby d12_13)
  refine own_go st3 ?_
  show own_G p.tables e below T3 (mkF m 16 #[.val (.ref a1), .val (.ref a2), .val (.ref a2)] [(.ref ra0)]) _
  refine own_go (fun t_ k_ => XS.aloadN X3.here hx rfl (hb hby d12_16) rfl rfl k_) ?_
  show own_G p.tables e below T3 (mkF m 17 #[.val (.ref a1), .val (.ref a2), .val (.ref a2)] [(.ref a2), (.ref ra0)]) _
  obtain ⟨T4, X4, e4, st4⟩ := getF X3 hx hZ hown (host := "") (Or.inl (hw _ (List.mem_of_getElem? (i := 34) rfl))) Via.refl e3 Gb0 (g := (mkF m 17 #[.val (.ref a1), .val (.ref a2), .val (.ref a2)] [(.ref a2), (.ref ra0)])) rfl rfl (hb hby d12_17)
  refine own_go st4 ?_
  show own_G p.tables e below T4 (mkF m 20 #[.val (.ref a1), .val (.ref a2), .val (.ref a2)] [(.ref rb0), (.ref ra0)]) _
  obtain ⟨cq5, kq5, q5a, q5b, q5c⟩ := isOf hZ e4 Ea0
  obtain ⟨_, _, ⟨T5, L5, k5, n5⟩, -, X5, ⟨Lc5, hQ5, l5, y5, z5⟩, st5⟩ := X4.virtualBack hx (y := (⟨"java/lang/String", "equals", "(Ljava/lang/Object;)Z"⟩ : MethodName)) (z := (⟨"java/lang/String", "equals", "(Ljava/lang/Object;)Z"⟩ : MethodName)) hown (mvT hZ (hw _ (List.mem_of_getElem? (i := 71) rfl))) (mvT hZ (hw _ (List.mem_of_getElem? (i := 72) rfl))) (notFace_of_selects (args := #[]) (mvT hZ (hw _ (List.mem_of_getElem? (i := 74) rfl)))) (mvT hZ (hw _ (List.mem_of_getElem? (i := 74) rfl))) (mvT hZ (hw _ (List.mem_of_getElem? (i := 73) rfl))) (by decide) (StrChars.Road.eqW (W := 0) hZ heq (kI := 4) (hw _ (List.mem_of_getElem? (i := 14) rfl)) (cs := [ca0]) (cd := 0) (N2 := (1 : Int32)) (vs := [(.int ca0.toInt8.toInt32)]) Ea0 Va0 Ca0 Aa0 (StrChars.Road.codOf (n := 1) (cs := [ca0]) rfl (own_dn ha0)) (own_up ha0) (Nat.le_of_ble_eq_true rfl) (ds := [cb0]) (cd' := 0) (N2' := (1 : Int32)) (vs' := [(.int cb0.toInt8.toInt32)]) Eb0 Vb0 Cb0 Ab0 (StrChars.Road.codOf (n := 1) (cs := [cb0]) rfl (own_dn hb0)) (own_up hb0) (Nat.le_of_ble_eq_true rfl) S_C hcs (by decide) (by decide)) q5a q5c (g := (mkF m 20 #[.val (.ref a1), .val (.ref a2), .val (.ref a2)] [(.ref rb0), (.ref ra0)])) rfl (by rw [hml]; rfl) (Steps.refl _) (argsL := [(.ref rb0)]) (rest := []) (lenOf own_pd3 rfl) rfl (by show 2 * 0 + _ ≤ _; exact Nat.le_of_eq rfl) (hb hby d12_20) (fun _ _ => ⟨rfl, e4, (by decide : 0 + 0 ≤ _), (by decide : 0 + 0 ≤ _)⟩)
  dsimp only [Pt.U, Pt.locs, Pt.cells, Pt.slots] at X5 l5 y5 z5 st5 hQ5
  subst l5 y5 z5
  obtain ⟨hor5, rfl, e5⟩ := hQ5
  have N5 := Fr.app N0 (Fr.nil n0)
  rcases hor5 with ⟨rfl, hq5⟩ | ⟨rfl, hq5⟩
  · skip
    have hd5 : ca0 = cb0 := (List.cons.inj hq5).1
    refine own_go (fun t_ k_ => st5.trans k_) ?_
    show own_G p.tables e below T5 (mkF m 23 #[.val (.ref a1), .val (.ref a2), .val (.ref a2)] [(.int (1 : Int32))]) _
    refine own_go (fun t_ k_ => XS.ifNo X5.here hx rfl (hb hby d12_23) rfl ((if0 _ _).trans (feq (by decide : ¬ ((1 : Int32) = (0 : Int32)))).1) k_) ?_
    show own_G p.tables e below T5 (mkF m 26 #[.val (.ref a1), .val (.ref a2), .val (.ref a2)] []) _
    refine own_go (fun t_ k_ => XS.aloadN X5.here hx rfl (hb hby d12_26) rfl rfl k_) ?_
    show own_G p.tables e below T5 (mkF m 27 #[.val (.ref a1), .val (.ref a2), .val (.ref a2)] [(.ref a1)]) _
    obtain ⟨T6, X6, e6, st6⟩ := getF X5 hx hZ hown (host := "") (Or.inl (hw _ (List.mem_of_getElem? (i := 36) rfl))) Via.refl e5 Ga1 (g := (mkF m 27 #[.val (.ref a1), .val (.ref a2), .val (.ref a2)] [(.ref a1)])) rfl rfl (hb hby d12_27)
    refine own_go st6 ?_
    show own_G p.tables e below T6 (mkF m 30 #[.val (.ref a1), .val (.ref a2), .val (.ref a2)] [(.ref ra1)]) _
    refine own_go (fun t_ k_ => XS.aloadN X6.here hx rfl (hb hby d12_30) rfl rfl k_) ?_
    show own_G p.tables e below T6 (mkF m 31 #[.val (.ref a1), .val (.ref a2), .val (.ref a2)] [(.ref a2), (.ref ra1)]) _
    obtain ⟨T7, X7, e7, st7⟩ := getF X6 hx hZ hown (host := "") (Or.inl (hw _ (List.mem_of_getElem? (i := 36) rfl))) Via.refl e6 Gb1 (g := (mkF m 31 #[.val (.ref a1), .val (.ref a2), .val (.ref a2)] [(.ref a2), (.ref ra1)])) rfl rfl (hb hby d12_31)
    refine own_go st7 ?_
    show own_G p.tables e below T7 (mkF m 34 #[.val (.ref a1), .val (.ref a2), .val (.ref a2)] [(.ref rb1), (.ref ra1)]) _
    obtain ⟨cq8, kq8, q8a, q8b, q8c⟩ := isOf hZ e7 Ea1
    obtain ⟨_, _, ⟨T8, L8, k8, n8⟩, -, X8, ⟨Lc8, hQ8, l8, y8, z8⟩, st8⟩ := X7.virtualBack hx (y := (⟨"java/lang/String", "equals", "(Ljava/lang/Object;)Z"⟩ : MethodName)) (z := (⟨"java/lang/String", "equals", "(Ljava/lang/Object;)Z"⟩ : MethodName)) hown (mvT hZ (hw _ (List.mem_of_getElem? (i := 71) rfl))) (mvT hZ (hw _ (List.mem_of_getElem? (i := 72) rfl))) (notFace_of_selects (args := #[]) (mvT hZ (hw _ (List.mem_of_getElem? (i := 74) rfl)))) (mvT hZ (hw _ (List.mem_of_getElem? (i := 74) rfl))) (mvT hZ (hw _ (List.mem_of_getElem? (i := 73) rfl))) (by decide) (StrChars.Road.eqW (W := 0) hZ heq (kI := 4) (hw _ (List.mem_of_getElem? (i := 14) rfl)) (cs := [ca1]) (cd := 0) (N2 := (1 : Int32)) (vs := [(.int ca1.toInt8.toInt32)]) Ea1 Va1 Ca1 Aa1 (StrChars.Road.codOf (n := 1) (cs := [ca1]) rfl (own_dn ha1)) (own_up ha1) (Nat.le_of_ble_eq_true rfl) (ds := [cb1]) (cd' := 0) (N2' := (1 : Int32)) (vs' := [(.int cb1.toInt8.toInt32)]) Eb1 Vb1 Cb1 Ab1 (StrChars.Road.codOf (n := 1) (cs := [cb1]) rfl (own_dn hb1)) (own_up hb1) (Nat.le_of_ble_eq_true rfl) S_C hcs (by decide) (by decide)) q8a q8c (g := (mkF m 34 #[.val (.ref a1), .val (.ref a2), .val (.ref a2)] [(.ref rb1), (.ref ra1)])) rfl (by rw [hml]; rfl) (Steps.refl _) (argsL := [(.ref rb1)]) (rest := []) (lenOf own_pd3 rfl) rfl (by show 2 * 0 + _ ≤ _; exact Nat.le_of_eq rfl) (hb hby d12_34) (fun _ _ => ⟨rfl, e7, (by decide : 0 + 0 ≤ _), (by decide : 0 + 0 ≤ _)⟩)
    dsimp only [Pt.U, Pt.locs, Pt.cells, Pt.slots] at X8 l8 y8 z8 st8 hQ8
    subst l8 y8 z8
    obtain ⟨hor8, rfl, e8⟩ := hQ8
    have N8 := Fr.app N5 (Fr.nil n0)
    rcases hor8 with ⟨rfl, hq8⟩ | ⟨rfl, hq8⟩
    · skip
      have hd8 : ca1 = cb1 := (List.cons.inj hq8).1
      refine own_go (fun t_ k_ => st8.trans k_) ?_
      show own_G p.tables e below T8 (mkF m 37 #[.val (.ref a1), .val (.ref a2), .val (.ref a2)] [(.int (1 : Int32))]) _
      refine own_go (fun t_ k_ => XS.ifNo X8.here hx rfl (hb hby d12_37) rfl ((if0 _ _).trans (feq (by decide : ¬ ((1 : Int32) = (0 : Int32)))).1) k_) ?_
      show own_G p.tables e below T8 (mkF m 40 #[.val (.ref a1), .val (.ref a2), .val (.ref a2)] []) _
      refine own_go (fun t_ k_ => XS.aloadN X8.here hx rfl (hb hby d12_40) rfl rfl k_) ?_
      show own_G p.tables e below T8 (mkF m 41 #[.val (.ref a1), .val (.ref a2), .val (.ref a2)] [(.ref a1)]) _
      obtain ⟨T9, X9, e9, st9⟩ := getF X8 hx hZ hown (host := "") (Or.inl (hw _ (List.mem_of_getElem? (i := 38) rfl))) Via.refl e8 Ga2 (g := (mkF m 41 #[.val (.ref a1), .val (.ref a2), .val (.ref a2)] [(.ref a1)])) rfl rfl (hb hby d12_41)
      refine own_go st9 ?_
      show own_G p.tables e below T9 (mkF m 44 #[.val (.ref a1), .val (.ref a2), .val (.ref a2)] [(.ref ra2)]) _
      refine own_go (fun t_ k_ => XS.aloadN X9.here hx rfl (hb hby d12_44) rfl rfl k_) ?_
      show own_G p.tables e below T9 (mkF m 45 #[.val (.ref a1), .val (.ref a2), .val (.ref a2)] [(.ref a2), (.ref ra2)]) _
      obtain ⟨T10, X10, e10, st10⟩ := getF X9 hx hZ hown (host := "") (Or.inl (hw _ (List.mem_of_getElem? (i := 38) rfl))) Via.refl e9 Gb2 (g := (mkF m 45 #[.val (.ref a1), .val (.ref a2), .val (.ref a2)] [(.ref a2), (.ref ra2)])) rfl rfl (hb hby d12_45)
      refine own_go st10 ?_
      show own_G p.tables e below T10 (mkF m 48 #[.val (.ref a1), .val (.ref a2), .val (.ref a2)] [(.ref rb2), (.ref ra2)]) _
      obtain ⟨cq11, kq11, q11a, q11b, q11c⟩ := isOf hZ e10 Ea2
      obtain ⟨_, _, ⟨T11, L11, k11, n11⟩, -, X11, ⟨Lc11, hQ11, l11, y11, z11⟩, st11⟩ := X10.virtualBack hx (y := (⟨"java/lang/String", "equals", "(Ljava/lang/Object;)Z"⟩ : MethodName)) (z := (⟨"java/lang/String", "equals", "(Ljava/lang/Object;)Z"⟩ : MethodName)) hown (mvT hZ (hw _ (List.mem_of_getElem? (i := 71) rfl))) (mvT hZ (hw _ (List.mem_of_getElem? (i := 72) rfl))) (notFace_of_selects (args := #[]) (mvT hZ (hw _ (List.mem_of_getElem? (i := 74) rfl)))) (mvT hZ (hw _ (List.mem_of_getElem? (i := 74) rfl))) (mvT hZ (hw _ (List.mem_of_getElem? (i := 73) rfl))) (by decide) (StrChars.Road.eqW (W := 0) hZ heq (kI := 4) (hw _ (List.mem_of_getElem? (i := 14) rfl)) (cs := [ca2]) (cd := 0) (N2 := (1 : Int32)) (vs := [(.int ca2.toInt8.toInt32)]) Ea2 Va2 Ca2 Aa2 (StrChars.Road.codOf (n := 1) (cs := [ca2]) rfl (own_dn ha2)) (own_up ha2) (Nat.le_of_ble_eq_true rfl) (ds := [cb2]) (cd' := 0) (N2' := (1 : Int32)) (vs' := [(.int cb2.toInt8.toInt32)]) Eb2 Vb2 Cb2 Ab2 (StrChars.Road.codOf (n := 1) (cs := [cb2]) rfl (own_dn hb2)) (own_up hb2) (Nat.le_of_ble_eq_true rfl) S_C hcs (by decide) (by decide)) q11a q11c (g := (mkF m 48 #[.val (.ref a1), .val (.ref a2), .val (.ref a2)] [(.ref rb2), (.ref ra2)])) rfl (by rw [hml]; rfl) (Steps.refl _) (argsL := [(.ref rb2)]) (rest := []) (lenOf own_pd3 rfl) rfl (by show 2 * 0 + _ ≤ _; exact Nat.le_of_eq rfl) (hb hby d12_48) (fun _ _ => ⟨rfl, e10, (by decide : 0 + 0 ≤ _), (by decide : 0 + 0 ≤ _)⟩)
      dsimp only [Pt.U, Pt.locs, Pt.cells, Pt.slots] at X11 l11 y11 z11 st11 hQ11
      subst l11 y11 z11
      obtain ⟨hor11, rfl, e11⟩ := hQ11
      have N11 := Fr.app N8 (Fr.nil n0)
      rcases hor11 with ⟨rfl, hq11⟩ | ⟨rfl, hq11⟩
      · skip
        have hd11 : ca2 = cb2 := (List.cons.inj hq11).1
        refine own_go (fun t_ k_ => st11.trans k_) ?_
        show own_G p.tables e below T11 (mkF m 51 #[.val (.ref a1), .val (.ref a2), .val (.ref a2)] [(.int (1 : Int32))]) _
        refine own_go (fun t_ k_ => XS.ifNo X11.here hx rfl (hb hby d12_51) rfl ((if0 _ _).trans (feq (by decide : ¬ ((1 : Int32) = (0 : Int32)))).1) k_) ?_
        show own_G p.tables e below T11 (mkF m 54 #[.val (.ref a1), .val (.ref a2), .val (.ref a2)] []) _
        refine own_go (fun t_ k_ => XS.aloadN X11.here hx rfl (hb hby d12_54) rfl rfl k_) ?_
        show own_G p.tables e below T11 (mkF m 55 #[.val (.ref a1), .val (.ref a2), .val (.ref a2)] [(.ref a1)]) _
        obtain ⟨T12, X12, e12, st12⟩ := getF X11 hx hZ hown (host := "") (Or.inl (hw _ (List.mem_of_getElem? (i := 40) rfl))) Via.refl e11 Ga3 (g := (mkF m 55 #[.val (.ref a1), .val (.ref a2), .val (.ref a2)] [(.ref a1)])) rfl rfl (hb hby d12_55)
        refine own_go st12 ?_
        show own_G p.tables e below T12 (mkF m 58 #[.val (.ref a1), .val (.ref a2), .val (.ref a2)] [(.int sa)]) _
        refine own_go (fun t_ k_ => XS.aloadN X12.here hx rfl (hb hby d12_58) rfl rfl k_) ?_
        show own_G p.tables e below T12 (mkF m 59 #[.val (.ref a1), .val (.ref a2), .val (.ref a2)] [(.ref a2), (.int sa)]) _
        obtain ⟨T13, X13, e13, st13⟩ := getF X12 hx hZ hown (host := "") (Or.inl (hw _ (List.mem_of_getElem? (i := 40) rfl))) Via.refl e12 Gb3 (g := (mkF m 59 #[.val (.ref a1), .val (.ref a2), .val (.ref a2)] [(.ref a2), (.int sa)])) rfl rfl (hb hby d12_59)
        refine own_go st13 ?_
        show own_G p.tables e below T13 (mkF m 62 #[.val (.ref a1), .val (.ref a2), .val (.ref a2)] [(.int sb), (.int sa)]) _
        by_cases hc62_14 : sa = sb
        · skip
          refine own_go (fun t_ k_ => XS.icmpNo X13.here hx rfl (hb hby d12_62) rfl (teq hc62_14).2 k_) ?_
          show own_G p.tables e below T13 (mkF m 65 #[.val (.ref a1), .val (.ref a2), .val (.ref a2)] []) _
          refine own_go (fun t_ k_ => XS.aloadN X13.here hx rfl (hb hby d12_65) rfl rfl k_) ?_
          show own_G p.tables e below T13 (mkF m 66 #[.val (.ref a1), .val (.ref a2), .val (.ref a2)] [(.ref a1)]) _
          obtain ⟨T15, X15, e15, st15⟩ := getF X13 hx hZ hown (host := "") (Or.inl (hw _ (List.mem_of_getElem? (i := 42) rfl))) Via.refl e13 Ga4 (g := (mkF m 66 #[.val (.ref a1), .val (.ref a2), .val (.ref a2)] [(.ref a1)])) rfl rfl (hb hby d12_66)
          refine own_go st15 ?_
          show own_G p.tables e below T15 (mkF m 69 #[.val (.ref a1), .val (.ref a2), .val (.ref a2)] [(.int ea)]) _
          refine own_go (fun t_ k_ => XS.aloadN X15.here hx rfl (hb hby d12_69) rfl rfl k_) ?_
          show own_G p.tables e below T15 (mkF m 70 #[.val (.ref a1), .val (.ref a2), .val (.ref a2)] [(.ref a2), (.int ea)]) _
          obtain ⟨T16, X16, e16, st16⟩ := getF X15 hx hZ hown (host := "") (Or.inl (hw _ (List.mem_of_getElem? (i := 42) rfl))) Via.refl e15 Gb4 (g := (mkF m 70 #[.val (.ref a1), .val (.ref a2), .val (.ref a2)] [(.ref a2), (.int ea)])) rfl rfl (hb hby d12_70)
          refine own_go st16 ?_
          show own_G p.tables e below T16 (mkF m 73 #[.val (.ref a1), .val (.ref a2), .val (.ref a2)] [(.int eb), (.int ea)]) _
          by_cases hc73_17 : ea = eb
          · skip
            refine own_go (fun t_ k_ => XS.icmpNo X16.here hx rfl (hb hby d12_73) rfl (teq hc73_17).2 k_) ?_
            show own_G p.tables e below T16 (mkF m 76 #[.val (.ref a1), .val (.ref a2), .val (.ref a2)] []) _
            refine own_go (fun t_ k_ => XS.aloadN X16.here hx rfl (hb hby d12_76) rfl rfl k_) ?_
            show own_G p.tables e below T16 (mkF m 77 #[.val (.ref a1), .val (.ref a2), .val (.ref a2)] [(.ref a1)]) _
            obtain ⟨T18, X18, e18, st18⟩ := getF X16 hx hZ hown (host := "") (Or.inl (hw _ (List.mem_of_getElem? (i := 44) rfl))) Via.refl e16 Ga5 (g := (mkF m 77 #[.val (.ref a1), .val (.ref a2), .val (.ref a2)] [(.ref a1)])) rfl rfl (hb hby d12_77)
            refine own_go st18 ?_
            show own_G p.tables e below T18 (mkF m 80 #[.val (.ref a1), .val (.ref a2), .val (.ref a2)] [(.int wa)]) _
            refine own_go (fun t_ k_ => XS.aloadN X18.here hx rfl (hb hby d12_80) rfl rfl k_) ?_
            show own_G p.tables e below T18 (mkF m 81 #[.val (.ref a1), .val (.ref a2), .val (.ref a2)] [(.ref a2), (.int wa)]) _
            obtain ⟨T19, X19, e19, st19⟩ := getF X18 hx hZ hown (host := "") (Or.inl (hw _ (List.mem_of_getElem? (i := 44) rfl))) Via.refl e18 Gb5 (g := (mkF m 81 #[.val (.ref a1), .val (.ref a2), .val (.ref a2)] [(.ref a2), (.int wa)])) rfl rfl (hb hby d12_81)
            refine own_go st19 ?_
            show own_G p.tables e below T19 (mkF m 84 #[.val (.ref a1), .val (.ref a2), .val (.ref a2)] [(.int wb), (.int wa)]) _
            by_cases hc84_20 : wa = wb
            · skip
              refine own_go (fun t_ k_ => XS.icmpNo X19.here hx rfl (hb hby d12_84) rfl (teq hc84_20).2 k_) ?_
              show own_G p.tables e below T19 (mkF m 87 #[.val (.ref a1), .val (.ref a2), .val (.ref a2)] []) _
              refine own_go (fun t_ k_ => XS.iconst X19.here hx rfl (hb hby d12_87) k_) ?_
              show own_G p.tables e below T19 (mkF m 88 #[.val (.ref a1), .val (.ref a2), .val (.ref a2)] [(.int (1 : Int32))]) _
              refine own_go (fun t_ k_ => XS.goto X19.here hx rfl (pc0 := 88) (pc' := 92) rfl (hb hby d12_88) (by decide) (by decide) k_) ?_
              show own_G p.tables e below T19 (mkF m 92 #[.val (.ref a1), .val (.ref a2), .val (.ref a2)] [(.int (1 : Int32))]) _
              exact own_end (v := some (.int (1 : Int32))) X19 Bd.notSynchronized (fun h => by rw [Bd.returns] at h; cases h) (fun fs hr => retN X19 hx (z := (1 : Int32)) (t := .boolean) Bd.returns (by simp) (hb hby d12_92) hr) e19 ⟨congrArg (fun z => some (Value.int z)) (by unfold own_eq; rw [if_pos ⟨hd5, hd8, hd11, hc62_14, hc73_17, hc84_20⟩]), N11, rfl⟩ (by decide) (by decide)
            · skip
              refine own_go (fun t_ k_ => XS.icmpYes X19.here hx rfl (pc0 := 84) (pc' := 91) rfl (hb hby d12_84) rfl (feq hc84_20).2 (by decide) (by decide) k_) ?_
              show own_G p.tables e below T19 (mkF m 91 #[.val (.ref a1), .val (.ref a2), .val (.ref a2)] []) _
              refine own_go (fun t_ k_ => XS.iconst X19.here hx rfl (hb hby d12_91) k_) ?_
              show own_G p.tables e below T19 (mkF m 92 #[.val (.ref a1), .val (.ref a2), .val (.ref a2)] [(.int (0 : Int32))]) _
              exact own_end (v := some (.int (0 : Int32))) X19 Bd.notSynchronized (fun h => by rw [Bd.returns] at h; cases h) (fun fs hr => retN X19 hx (z := (0 : Int32)) (t := .boolean) Bd.returns (by simp) (hb hby d12_92) hr) e19 ⟨congrArg (fun z => some (Value.int z)) (by unfold own_eq; rw [if_neg (fun q => hc84_20 q.2.2.2.2.2)]), N11, rfl⟩ (by decide) (by decide)
          · skip
            refine own_go (fun t_ k_ => XS.icmpYes X16.here hx rfl (pc0 := 73) (pc' := 91) rfl (hb hby d12_73) rfl (feq hc73_17).2 (by decide) (by decide) k_) ?_
            show own_G p.tables e below T16 (mkF m 91 #[.val (.ref a1), .val (.ref a2), .val (.ref a2)] []) _
            refine own_go (fun t_ k_ => XS.iconst X16.here hx rfl (hb hby d12_91) k_) ?_
            show own_G p.tables e below T16 (mkF m 92 #[.val (.ref a1), .val (.ref a2), .val (.ref a2)] [(.int (0 : Int32))]) _
            exact own_end (v := some (.int (0 : Int32))) X16 Bd.notSynchronized (fun h => by rw [Bd.returns] at h; cases h) (fun fs hr => retN X16 hx (z := (0 : Int32)) (t := .boolean) Bd.returns (by simp) (hb hby d12_92) hr) e16 ⟨congrArg (fun z => some (Value.int z)) (by unfold own_eq; rw [if_neg (fun q => hc73_17 q.2.2.2.2.1)]), N11, rfl⟩ (by decide) (by decide)
        · skip
          refine own_go (fun t_ k_ => XS.icmpYes X13.here hx rfl (pc0 := 62) (pc' := 91) rfl (hb hby d12_62) rfl (feq hc62_14).2 (by decide) (by decide) k_) ?_
          show own_G p.tables e below T13 (mkF m 91 #[.val (.ref a1), .val (.ref a2), .val (.ref a2)] []) _
          refine own_go (fun t_ k_ => XS.iconst X13.here hx rfl (hb hby d12_91) k_) ?_
          show own_G p.tables e below T13 (mkF m 92 #[.val (.ref a1), .val (.ref a2), .val (.ref a2)] [(.int (0 : Int32))]) _
          exact own_end (v := some (.int (0 : Int32))) X13 Bd.notSynchronized (fun h => by rw [Bd.returns] at h; cases h) (fun fs hr => retN X13 hx (z := (0 : Int32)) (t := .boolean) Bd.returns (by simp) (hb hby d12_92) hr) e13 ⟨congrArg (fun z => some (Value.int z)) (by unfold own_eq; rw [if_neg (fun q => hc62_14 q.2.2.2.1)]), N11, rfl⟩ (by decide) (by decide)
      · skip
        have hd11 : ¬ ca2 = cb2 := fun z => hq11 (by rw [z])
        refine own_go (fun t_ k_ => st11.trans k_) ?_
        show own_G p.tables e below T11 (mkF m 51 #[.val (.ref a1), .val (.ref a2), .val (.ref a2)] [(.int (0 : Int32))]) _
        refine own_go (fun t_ k_ => XS.ifYes X11.here hx rfl (pc0 := 51) (pc' := 91) rfl (hb hby d12_51) rfl ((if0 _ _).trans (teq (by decide : ((0 : Int32) = (0 : Int32)))).1) (by decide) (by decide) k_) ?_
        show own_G p.tables e below T11 (mkF m 91 #[.val (.ref a1), .val (.ref a2), .val (.ref a2)] []) _
        refine own_go (fun t_ k_ => XS.iconst X11.here hx rfl (hb hby d12_91) k_) ?_
        show own_G p.tables e below T11 (mkF m 92 #[.val (.ref a1), .val (.ref a2), .val (.ref a2)] [(.int (0 : Int32))]) _
        exact own_end (v := some (.int (0 : Int32))) X11 Bd.notSynchronized (fun h => by rw [Bd.returns] at h; cases h) (fun fs hr => retN X11 hx (z := (0 : Int32)) (t := .boolean) Bd.returns (by simp) (hb hby d12_92) hr) e11 ⟨congrArg (fun z => some (Value.int z)) (by unfold own_eq; rw [if_neg (fun q => hd11 q.2.2.1)]), N11, rfl⟩ (by decide) (by decide)
    · skip
      have hd8 : ¬ ca1 = cb1 := fun z => hq8 (by rw [z])
      refine own_go (fun t_ k_ => st8.trans k_) ?_
      show own_G p.tables e below T8 (mkF m 37 #[.val (.ref a1), .val (.ref a2), .val (.ref a2)] [(.int (0 : Int32))]) _
      refine own_go (fun t_ k_ => XS.ifYes X8.here hx rfl (pc0 := 37) (pc' := 91) rfl (hb hby d12_37) rfl ((if0 _ _).trans (teq (by decide : ((0 : Int32) = (0 : Int32)))).1) (by decide) (by decide) k_) ?_
      show own_G p.tables e below T8 (mkF m 91 #[.val (.ref a1), .val (.ref a2), .val (.ref a2)] []) _
      refine own_go (fun t_ k_ => XS.iconst X8.here hx rfl (hb hby d12_91) k_) ?_
      show own_G p.tables e below T8 (mkF m 92 #[.val (.ref a1), .val (.ref a2), .val (.ref a2)] [(.int (0 : Int32))]) _
      exact own_end (v := some (.int (0 : Int32))) X8 Bd.notSynchronized (fun h => by rw [Bd.returns] at h; cases h) (fun fs hr => retN X8 hx (z := (0 : Int32)) (t := .boolean) Bd.returns (by simp) (hb hby d12_92) hr) e8 ⟨congrArg (fun z => some (Value.int z)) (by unfold own_eq; rw [if_neg (fun q => hd8 q.2.1)]), N8, rfl⟩ (by decide) (by decide)
  · skip
    have hd5 : ¬ ca0 = cb0 := fun z => hq5 (by rw [z])
    refine own_go (fun t_ k_ => st5.trans k_) ?_
    show own_G p.tables e below T5 (mkF m 23 #[.val (.ref a1), .val (.ref a2), .val (.ref a2)] [(.int (0 : Int32))]) _
    refine own_go (fun t_ k_ => XS.ifYes X5.here hx rfl (pc0 := 23) (pc' := 91) rfl (hb hby d12_23) rfl ((if0 _ _).trans (teq (by decide : ((0 : Int32) = (0 : Int32)))).1) (by decide) (by decide) k_) ?_
    show own_G p.tables e below T5 (mkF m 91 #[.val (.ref a1), .val (.ref a2), .val (.ref a2)] []) _
    refine own_go (fun t_ k_ => XS.iconst X5.here hx rfl (hb hby d12_91) k_) ?_
    show own_G p.tables e below T5 (mkF m 92 #[.val (.ref a1), .val (.ref a2), .val (.ref a2)] [(.int (0 : Int32))]) _
    exact own_end (v := some (.int (0 : Int32))) X5 Bd.notSynchronized (fun h => by rw [Bd.returns] at h; cases h) (fun fs hr => retN X5 hx (z := (0 : Int32)) (t := .boolean) Bd.returns (by simp) (hb hby d12_92) hr) e5 ⟨congrArg (fun z => some (Value.int z)) (by unfold own_eq; rw [if_neg (fun q => hd5 q.1)]), N5, rfl⟩ (by decide) (by decide)
theorem ef_0 (m : MethodId) (p1 : Int32) (p2 : Int32) (p3 : Int32) (p4 : Int32) (p5 : Int32) (p6 : Int32) : entryFrame m #[(.int p1), (.int p2), (.int p3), (.int p4), (.int p5), (.int p6)] maxLocals = mkF m 0 #[.val (.int p1), .val (.int p2), .val (.int p3), .val (.int p4), .val (.int p5), .val (.int p6), .unset, .unset, .unset, .unset, .unset, .unset, .unset, .unset, .unset, .unset, .unset, .unset, .unset, .unset] [] := by first | (simp [entryFrame, mkF, argsToLocals, Value.category, maxLocals]; done) | rfl
def Q0 (Z : State) (p1 : Int32) (p2 : Int32) (p3 : Int32) (p4 : Int32) (p5 : Int32) (p6 : Int32) (cs : Int32) (h0 : Heap) (n0 : Nat) (v : Option Value) (h : Heap) (L : List Loc) : Prop := v = some (.int (1 : Int32)) ∧ Fr n0 L
set_option maxRecDepth 65536 in
set_option maxHeartbeats 40000000 in
theorem rm0 (l : Launch) (Z : State) (a0 : Array Value) (hw : ∀ d ∈ tables_1, d.before a0 Z = true) (ws : List Jvm.Cond) (p1 : Int32) (p2 : Int32) (p3 : Int32) (p4 : Int32) (p5 : Int32) (p6 : Int32) (cs : Int32) (h0 : Heap) (n0 : Nat) (Z0 : n0 ≤ h0.size) (S_C : Sta Z h0 "java/lang/String" "COMPACT_STRINGS" "Z" (.int cs)) (hcs : ¬ cs = 0) :
    MetFree l x (head1 (Jvm.Cond.code x code maxLocals ret :: ws) room_1) (fun a U => a = #[(.int p1), (.int p2), (.int p3), (.int p4), (.int p5), (.int p6)] ∧ Z.Warmed39 U.vm ∧ U.heap = h0) (fun _ _ _ _ _ => True) (fun _ U o U' => ∃ v L, o = .returned v ∧ Q0 Z p1 p2 p3 p4 p5 p6 cs h0 n0 v U'.heap L ∧ FrameEnd U o U' L 48 192) := by
  refine MetFree.of_bodySF (plainFor_of_name own_pn3) hisR ?_
  intro p e s m args below meth c s₁ Bd hml0 hP hK
  obtain ⟨rfl, hZ, hh⟩ := hP
  have hx := Bd.exec
  have hby := Bd.bytes
  have hml : c.maxLocals = 20 := hml0
  have hown : s.vm.findClass "com/example/line_to_seat/linetoseat/store/SectionSeatsEqualsPinLaw" = some m.cls := findClass_of_methodNamed Bd.named
  have hnm := (name_of_methodNamed Bd.named Bd.method).1
  have X0 : Stand p l e room_1 s m #[(.int p1), (.int p2), (.int p3), (.int p4), (.int p5), (.int p6)] below meth c s₁ [] 0 0 := Stand.of_body Bd
  have e0 : s₁.heap = h0 := by rw [← hh, Bd.state]; rfl
  have N0 := Fr.nil n0
  refine own_top (Q := Q0 Z p1 p2 p3 p4 p5 p6 cs h0 n0) (ef_0 m p1 p2 p3 p4 p5 p6) ?_
  have hws : ∀ d ∈ StrChars.Road.words, d.before a0 Z = true := fun d hd => hw d ((by decide +kernel : ∀ d ∈ StrChars.Road.words, d ∈ tables_1) d hd)
  show own_G p.tables e below s₁ (mkF m 0 #[.val (.int p1), .val (.int p2), .val (.int p3), .val (.int p4), .val (.int p5), .val (.int p6), .unset, .unset, .unset, .unset, .unset, .unset, .unset, .unset, .unset, .unset, .unset, .unset, .unset, .unset] []) _
  refine own_go (fun t_ k_ => XS.iloadN X0.here hx rfl (hb hby at_0) rfl k_) ?_
  show own_G p.tables e below s₁ (mkF m 1 #[.val (.int p1), .val (.int p2), .val (.int p3), .val (.int p4), .val (.int p5), .val (.int p6), .unset, .unset, .unset, .unset, .unset, .unset, .unset, .unset, .unset, .unset, .unset, .unset, .unset, .unset] [(.int p1)]) _
  refine own_go (fun t_ k_ => XS.sipush X0.here hx rfl (hb hby at_1) k_) ?_
  show own_G p.tables e below s₁ (mkF m 4 #[.val (.int p1), .val (.int p2), .val (.int p3), .val (.int p4), .val (.int p5), .val (.int p6), .unset, .unset, .unset, .unset, .unset, .unset, .unset, .unset, .unset, .unset, .unset, .unset, .unset, .unset] [(.int (255 : Int32)), (.int p1)]) _
  refine own_go (fun t_ k_ => XS.iand X0.here hx rfl (hb hby at_4) rfl k_) ?_
  show own_G p.tables e below s₁ (mkF m 5 #[.val (.int p1), .val (.int p2), .val (.int p3), .val (.int p4), .val (.int p5), .val (.int p6), .unset, .unset, .unset, .unset, .unset, .unset, .unset, .unset, .unset, .unset, .unset, .unset, .unset, .unset] [(.int (p1 &&& (255 : Int32)))]) _
  refine own_go (fun t_ k_ => XS.i2c X0.here hx rfl (hb hby at_5) rfl k_) ?_
  show own_G p.tables e below s₁ (mkF m 6 #[.val (.int p1), .val (.int p2), .val (.int p3), .val (.int p4), .val (.int p5), .val (.int p6), .unset, .unset, .unset, .unset, .unset, .unset, .unset, .unset, .unset, .unset, .unset, .unset, .unset, .unset] [(.int ((p1 &&& (255 : Int32)).toUInt32.toUInt16.toUInt32.toInt32))]) _
  rw [i2c_mask]
  show own_G p.tables e below s₁ (mkF m 6 #[.val (.int p1), .val (.int p2), .val (.int p3), .val (.int p4), .val (.int p5), .val (.int p6), .unset, .unset, .unset, .unset, .unset, .unset, .unset, .unset, .unset, .unset, .unset, .unset, .unset, .unset] [(.int (p1 &&& (255 : Int32)))]) _
  refine own_go (fun t_ k_ => XS.istore X0.here hx rfl (hb hby at_6) rfl (l' := #[.val (.int p1), .val (.int p2), .val (.int p3), .val (.int p4), .val (.int p5), .val (.int p6), .val (.int (p1 &&& (255 : Int32))), .unset, .unset, .unset, .unset, .unset, .unset, .unset, .unset, .unset, .unset, .unset, .unset, .unset]) rfl k_) ?_
  show own_G p.tables e below s₁ (mkF m 8 #[.val (.int p1), .val (.int p2), .val (.int p3), .val (.int p4), .val (.int p5), .val (.int p6), .val (.int (p1 &&& (255 : Int32))), .unset, .unset, .unset, .unset, .unset, .unset, .unset, .unset, .unset, .unset, .unset, .unset, .unset] []) _
  refine own_go (fun t_ k_ => XS.iloadN X0.here hx rfl (hb hby at_8) rfl k_) ?_
  show own_G p.tables e below s₁ (mkF m 9 #[.val (.int p1), .val (.int p2), .val (.int p3), .val (.int p4), .val (.int p5), .val (.int p6), .val (.int (p1 &&& (255 : Int32))), .unset, .unset, .unset, .unset, .unset, .unset, .unset, .unset, .unset, .unset, .unset, .unset, .unset] [(.int p1)]) _
  refine own_go (fun t_ k_ => XS.bipush X0.here hx rfl (hb hby at_9) k_) ?_
  show own_G p.tables e below s₁ (mkF m 11 #[.val (.int p1), .val (.int p2), .val (.int p3), .val (.int p4), .val (.int p5), .val (.int p6), .val (.int (p1 &&& (255 : Int32))), .unset, .unset, .unset, .unset, .unset, .unset, .unset, .unset, .unset, .unset, .unset, .unset, .unset] [(.int (8 : Int32)), (.int p1)]) _
  refine own_go (fun t_ k_ => XS.iushr X0.here hx rfl (hb hby at_11) rfl k_) ?_
  show own_G p.tables e below s₁ (mkF m 12 #[.val (.int p1), .val (.int p2), .val (.int p3), .val (.int p4), .val (.int p5), .val (.int p6), .val (.int (p1 &&& (255 : Int32))), .unset, .unset, .unset, .unset, .unset, .unset, .unset, .unset, .unset, .unset, .unset, .unset, .unset] [(.int ((p1.toUInt32 >>> ((8 : Int32) &&& 31).toUInt32).toInt32))]) _
  refine own_go (fun t_ k_ => XS.sipush X0.here hx rfl (hb hby at_12) k_) ?_
  show own_G p.tables e below s₁ (mkF m 15 #[.val (.int p1), .val (.int p2), .val (.int p3), .val (.int p4), .val (.int p5), .val (.int p6), .val (.int (p1 &&& (255 : Int32))), .unset, .unset, .unset, .unset, .unset, .unset, .unset, .unset, .unset, .unset, .unset, .unset, .unset] [(.int (255 : Int32)), (.int ((p1.toUInt32 >>> ((8 : Int32) &&& 31).toUInt32).toInt32))]) _
  refine own_go (fun t_ k_ => XS.iand X0.here hx rfl (hb hby at_15) rfl k_) ?_
  show own_G p.tables e below s₁ (mkF m 16 #[.val (.int p1), .val (.int p2), .val (.int p3), .val (.int p4), .val (.int p5), .val (.int p6), .val (.int (p1 &&& (255 : Int32))), .unset, .unset, .unset, .unset, .unset, .unset, .unset, .unset, .unset, .unset, .unset, .unset, .unset] [(.int (((p1.toUInt32 >>> ((8 : Int32) &&& 31).toUInt32).toInt32) &&& (255 : Int32)))]) _
  refine own_go (fun t_ k_ => XS.i2c X0.here hx rfl (hb hby at_16) rfl k_) ?_
  show own_G p.tables e below s₁ (mkF m 17 #[.val (.int p1), .val (.int p2), .val (.int p3), .val (.int p4), .val (.int p5), .val (.int p6), .val (.int (p1 &&& (255 : Int32))), .unset, .unset, .unset, .unset, .unset, .unset, .unset, .unset, .unset, .unset, .unset, .unset, .unset] [(.int ((((p1.toUInt32 >>> ((8 : Int32) &&& 31).toUInt32).toInt32) &&& (255 : Int32)).toUInt32.toUInt16.toUInt32.toInt32))]) _
  rw [i2c_mask]
  show own_G p.tables e below s₁ (mkF m 17 #[.val (.int p1), .val (.int p2), .val (.int p3), .val (.int p4), .val (.int p5), .val (.int p6), .val (.int (p1 &&& (255 : Int32))), .unset, .unset, .unset, .unset, .unset, .unset, .unset, .unset, .unset, .unset, .unset, .unset, .unset] [(.int (((p1.toUInt32 >>> ((8 : Int32) &&& 31).toUInt32).toInt32) &&& (255 : Int32)))]) _
  refine own_go (fun t_ k_ => XS.istore X0.here hx rfl (hb hby at_17) rfl (l' := #[.val (.int p1), .val (.int p2), .val (.int p3), .val (.int p4), .val (.int p5), .val (.int p6), .val (.int (p1 &&& (255 : Int32))), .val (.int (((p1.toUInt32 >>> ((8 : Int32) &&& 31).toUInt32).toInt32) &&& (255 : Int32))), .unset, .unset, .unset, .unset, .unset, .unset, .unset, .unset, .unset, .unset, .unset, .unset]) rfl k_) ?_
  show own_G p.tables e below s₁ (mkF m 19 #[.val (.int p1), .val (.int p2), .val (.int p3), .val (.int p4), .val (.int p5), .val (.int p6), .val (.int (p1 &&& (255 : Int32))), .val (.int (((p1.toUInt32 >>> ((8 : Int32) &&& 31).toUInt32).toInt32) &&& (255 : Int32))), .unset, .unset, .unset, .unset, .unset, .unset, .unset, .unset, .unset, .unset, .unset, .unset] []) _
  refine own_go (fun t_ k_ => XS.iloadN X0.here hx rfl (hb hby at_19) rfl k_) ?_
  show own_G p.tables e below s₁ (mkF m 20 #[.val (.int p1), .val (.int p2), .val (.int p3), .val (.int p4), .val (.int p5), .val (.int p6), .val (.int (p1 &&& (255 : Int32))), .val (.int (((p1.toUInt32 >>> ((8 : Int32) &&& 31).toUInt32).toInt32) &&& (255 : Int32))), .unset, .unset, .unset, .unset, .unset, .unset, .unset, .unset, .unset, .unset, .unset, .unset] [(.int p1)]) _
  refine own_go (fun t_ k_ => XS.bipush X0.here hx rfl (hb hby at_20) k_) ?_
  show own_G p.tables e below s₁ (mkF m 22 #[.val (.int p1), .val (.int p2), .val (.int p3), .val (.int p4), .val (.int p5), .val (.int p6), .val (.int (p1 &&& (255 : Int32))), .val (.int (((p1.toUInt32 >>> ((8 : Int32) &&& 31).toUInt32).toInt32) &&& (255 : Int32))), .unset, .unset, .unset, .unset, .unset, .unset, .unset, .unset, .unset, .unset, .unset, .unset] [(.int (16 : Int32)), (.int p1)]) _
  refine own_go (fun t_ k_ => XS.iushr X0.here hx rfl (hb hby at_22) rfl k_) ?_
  show own_G p.tables e below s₁ (mkF m 23 #[.val (.int p1), .val (.int p2), .val (.int p3), .val (.int p4), .val (.int p5), .val (.int p6), .val (.int (p1 &&& (255 : Int32))), .val (.int (((p1.toUInt32 >>> ((8 : Int32) &&& 31).toUInt32).toInt32) &&& (255 : Int32))), .unset, .unset, .unset, .unset, .unset, .unset, .unset, .unset, .unset, .unset, .unset, .unset] [(.int ((p1.toUInt32 >>> ((16 : Int32) &&& 31).toUInt32).toInt32))]) _
  refine own_go (fun t_ k_ => XS.sipush X0.here hx rfl (hb hby at_23) k_) ?_
  show own_G p.tables e below s₁ (mkF m 26 #[.val (.int p1), .val (.int p2), .val (.int p3), .val (.int p4), .val (.int p5), .val (.int p6), .val (.int (p1 &&& (255 : Int32))), .val (.int (((p1.toUInt32 >>> ((8 : Int32) &&& 31).toUInt32).toInt32) &&& (255 : Int32))), .unset, .unset, .unset, .unset, .unset, .unset, .unset, .unset, .unset, .unset, .unset, .unset] [(.int (255 : Int32)), (.int ((p1.toUInt32 >>> ((16 : Int32) &&& 31).toUInt32).toInt32))]) _
  refine own_go (fun t_ k_ => XS.iand X0.here hx rfl (hb hby at_26) rfl k_) ?_
  show own_G p.tables e below s₁ (mkF m 27 #[.val (.int p1), .val (.int p2), .val (.int p3), .val (.int p4), .val (.int p5), .val (.int p6), .val (.int (p1 &&& (255 : Int32))), .val (.int (((p1.toUInt32 >>> ((8 : Int32) &&& 31).toUInt32).toInt32) &&& (255 : Int32))), .unset, .unset, .unset, .unset, .unset, .unset, .unset, .unset, .unset, .unset, .unset, .unset] [(.int (((p1.toUInt32 >>> ((16 : Int32) &&& 31).toUInt32).toInt32) &&& (255 : Int32)))]) _
  refine own_go (fun t_ k_ => XS.i2c X0.here hx rfl (hb hby at_27) rfl k_) ?_
  show own_G p.tables e below s₁ (mkF m 28 #[.val (.int p1), .val (.int p2), .val (.int p3), .val (.int p4), .val (.int p5), .val (.int p6), .val (.int (p1 &&& (255 : Int32))), .val (.int (((p1.toUInt32 >>> ((8 : Int32) &&& 31).toUInt32).toInt32) &&& (255 : Int32))), .unset, .unset, .unset, .unset, .unset, .unset, .unset, .unset, .unset, .unset, .unset, .unset] [(.int ((((p1.toUInt32 >>> ((16 : Int32) &&& 31).toUInt32).toInt32) &&& (255 : Int32)).toUInt32.toUInt16.toUInt32.toInt32))]) _
  rw [i2c_mask]
  show own_G p.tables e below s₁ (mkF m 28 #[.val (.int p1), .val (.int p2), .val (.int p3), .val (.int p4), .val (.int p5), .val (.int p6), .val (.int (p1 &&& (255 : Int32))), .val (.int (((p1.toUInt32 >>> ((8 : Int32) &&& 31).toUInt32).toInt32) &&& (255 : Int32))), .unset, .unset, .unset, .unset, .unset, .unset, .unset, .unset, .unset, .unset, .unset, .unset] [(.int (((p1.toUInt32 >>> ((16 : Int32) &&& 31).toUInt32).toInt32) &&& (255 : Int32)))]) _
  refine own_go (fun t_ k_ => XS.istore X0.here hx rfl (hb hby at_28) rfl (l' := #[.val (.int p1), .val (.int p2), .val (.int p3), .val (.int p4), .val (.int p5), .val (.int p6), .val (.int (p1 &&& (255 : Int32))), .val (.int (((p1.toUInt32 >>> ((8 : Int32) &&& 31).toUInt32).toInt32) &&& (255 : Int32))), .val (.int (((p1.toUInt32 >>> ((16 : Int32) &&& 31).toUInt32).toInt32) &&& (255 : Int32))), .unset, .unset, .unset, .unset, .unset, .unset, .unset, .unset, .unset, .unset, .unset]) rfl k_) ?_
  show own_G p.tables e below s₁ (mkF m 30 #[.val (.int p1), .val (.int p2), .val (.int p3), .val (.int p4), .val (.int p5), .val (.int p6), .val (.int (p1 &&& (255 : Int32))), .val (.int (((p1.toUInt32 >>> ((8 : Int32) &&& 31).toUInt32).toInt32) &&& (255 : Int32))), .val (.int (((p1.toUInt32 >>> ((16 : Int32) &&& 31).toUInt32).toInt32) &&& (255 : Int32))), .unset, .unset, .unset, .unset, .unset, .unset, .unset, .unset, .unset, .unset, .unset] []) _
  refine own_go (fun t_ k_ => XS.iload X0.here hx rfl (hb hby at_30) rfl k_) ?_
  show own_G p.tables e below s₁ (mkF m 32 #[.val (.int p1), .val (.int p2), .val (.int p3), .val (.int p4), .val (.int p5), .val (.int p6), .val (.int (p1 &&& (255 : Int32))), .val (.int (((p1.toUInt32 >>> ((8 : Int32) &&& 31).toUInt32).toInt32) &&& (255 : Int32))), .val (.int (((p1.toUInt32 >>> ((16 : Int32) &&& 31).toUInt32).toInt32) &&& (255 : Int32))), .unset, .unset, .unset, .unset, .unset, .unset, .unset, .unset, .unset, .unset, .unset] [(.int p6)]) _
  refine own_go (fun t_ k_ => XS.sipush X0.here hx rfl (hb hby at_32) k_) ?_
  show own_G p.tables e below s₁ (mkF m 35 #[.val (.int p1), .val (.int p2), .val (.int p3), .val (.int p4), .val (.int p5), .val (.int p6), .val (.int (p1 &&& (255 : Int32))), .val (.int (((p1.toUInt32 >>> ((8 : Int32) &&& 31).toUInt32).toInt32) &&& (255 : Int32))), .val (.int (((p1.toUInt32 >>> ((16 : Int32) &&& 31).toUInt32).toInt32) &&& (255 : Int32))), .unset, .unset, .unset, .unset, .unset, .unset, .unset, .unset, .unset, .unset, .unset] [(.int (255 : Int32)), (.int p6)]) _
  refine own_go (fun t_ k_ => XS.iand X0.here hx rfl (hb hby at_35) rfl k_) ?_
  show own_G p.tables e below s₁ (mkF m 36 #[.val (.int p1), .val (.int p2), .val (.int p3), .val (.int p4), .val (.int p5), .val (.int p6), .val (.int (p1 &&& (255 : Int32))), .val (.int (((p1.toUInt32 >>> ((8 : Int32) &&& 31).toUInt32).toInt32) &&& (255 : Int32))), .val (.int (((p1.toUInt32 >>> ((16 : Int32) &&& 31).toUInt32).toInt32) &&& (255 : Int32))), .unset, .unset, .unset, .unset, .unset, .unset, .unset, .unset, .unset, .unset, .unset] [(.int (p6 &&& (255 : Int32)))]) _
  refine own_go (fun t_ k_ => XS.i2c X0.here hx rfl (hb hby at_36) rfl k_) ?_
  show own_G p.tables e below s₁ (mkF m 37 #[.val (.int p1), .val (.int p2), .val (.int p3), .val (.int p4), .val (.int p5), .val (.int p6), .val (.int (p1 &&& (255 : Int32))), .val (.int (((p1.toUInt32 >>> ((8 : Int32) &&& 31).toUInt32).toInt32) &&& (255 : Int32))), .val (.int (((p1.toUInt32 >>> ((16 : Int32) &&& 31).toUInt32).toInt32) &&& (255 : Int32))), .unset, .unset, .unset, .unset, .unset, .unset, .unset, .unset, .unset, .unset, .unset] [(.int ((p6 &&& (255 : Int32)).toUInt32.toUInt16.toUInt32.toInt32))]) _
  rw [i2c_mask]
  show own_G p.tables e below s₁ (mkF m 37 #[.val (.int p1), .val (.int p2), .val (.int p3), .val (.int p4), .val (.int p5), .val (.int p6), .val (.int (p1 &&& (255 : Int32))), .val (.int (((p1.toUInt32 >>> ((8 : Int32) &&& 31).toUInt32).toInt32) &&& (255 : Int32))), .val (.int (((p1.toUInt32 >>> ((16 : Int32) &&& 31).toUInt32).toInt32) &&& (255 : Int32))), .unset, .unset, .unset, .unset, .unset, .unset, .unset, .unset, .unset, .unset, .unset] [(.int (p6 &&& (255 : Int32)))]) _
  refine own_go (fun t_ k_ => XS.istore X0.here hx rfl (hb hby at_37) rfl (l' := #[.val (.int p1), .val (.int p2), .val (.int p3), .val (.int p4), .val (.int p5), .val (.int p6), .val (.int (p1 &&& (255 : Int32))), .val (.int (((p1.toUInt32 >>> ((8 : Int32) &&& 31).toUInt32).toInt32) &&& (255 : Int32))), .val (.int (((p1.toUInt32 >>> ((16 : Int32) &&& 31).toUInt32).toInt32) &&& (255 : Int32))), .val (.int (p6 &&& (255 : Int32))), .unset, .unset, .unset, .unset, .unset, .unset, .unset, .unset, .unset, .unset]) rfl k_) ?_
  show own_G p.tables e below s₁ (mkF m 39 #[.val (.int p1), .val (.int p2), .val (.int p3), .val (.int p4), .val (.int p5), .val (.int p6), .val (.int (p1 &&& (255 : Int32))), .val (.int (((p1.toUInt32 >>> ((8 : Int32) &&& 31).toUInt32).toInt32) &&& (255 : Int32))), .val (.int (((p1.toUInt32 >>> ((16 : Int32) &&& 31).toUInt32).toInt32) &&& (255 : Int32))), .val (.int (p6 &&& (255 : Int32))), .unset, .unset, .unset, .unset, .unset, .unset, .unset, .unset, .unset, .unset] []) _
  refine own_go (fun t_ k_ => XS.iload X0.here hx rfl (hb hby at_39) rfl k_) ?_
  show own_G p.tables e below s₁ (mkF m 41 #[.val (.int p1), .val (.int p2), .val (.int p3), .val (.int p4), .val (.int p5), .val (.int p6), .val (.int (p1 &&& (255 : Int32))), .val (.int (((p1.toUInt32 >>> ((8 : Int32) &&& 31).toUInt32).toInt32) &&& (255 : Int32))), .val (.int (((p1.toUInt32 >>> ((16 : Int32) &&& 31).toUInt32).toInt32) &&& (255 : Int32))), .val (.int (p6 &&& (255 : Int32))), .unset, .unset, .unset, .unset, .unset, .unset, .unset, .unset, .unset, .unset] [(.int p5)]) _
  refine own_go (fun t_ k_ => X0.ldcInt hx hown (mvT hZ (hw _ (List.mem_of_getElem? (i := 0) rfl))) (g := (mkF m 41 #[.val (.int p1), .val (.int p2), .val (.int p3), .val (.int p4), .val (.int p5), .val (.int p6), .val (.int (p1 &&& (255 : Int32))), .val (.int (((p1.toUInt32 >>> ((8 : Int32) &&& 31).toUInt32).toInt32) &&& (255 : Int32))), .val (.int (((p1.toUInt32 >>> ((16 : Int32) &&& 31).toUInt32).toInt32) &&& (255 : Int32))), .val (.int (p6 &&& (255 : Int32))), .unset, .unset, .unset, .unset, .unset, .unset, .unset, .unset, .unset, .unset] [(.int p5)])) rfl (hb hby at_41) _ k_) ?_
  show own_G p.tables e below s₁ (mkF m 43 #[.val (.int p1), .val (.int p2), .val (.int p3), .val (.int p4), .val (.int p5), .val (.int p6), .val (.int (p1 &&& (255 : Int32))), .val (.int (((p1.toUInt32 >>> ((8 : Int32) &&& 31).toUInt32).toInt32) &&& (255 : Int32))), .val (.int (((p1.toUInt32 >>> ((16 : Int32) &&& 31).toUInt32).toInt32) &&& (255 : Int32))), .val (.int (p6 &&& (255 : Int32))), .unset, .unset, .unset, .unset, .unset, .unset, .unset, .unset, .unset, .unset] [(.int (2147483647 : Int32)), (.int p5)]) _
  refine own_go (fun t_ k_ => XS.iand X0.here hx rfl (hb hby at_43) rfl k_) ?_
  show own_G p.tables e below s₁ (mkF m 44 #[.val (.int p1), .val (.int p2), .val (.int p3), .val (.int p4), .val (.int p5), .val (.int p6), .val (.int (p1 &&& (255 : Int32))), .val (.int (((p1.toUInt32 >>> ((8 : Int32) &&& 31).toUInt32).toInt32) &&& (255 : Int32))), .val (.int (((p1.toUInt32 >>> ((16 : Int32) &&& 31).toUInt32).toInt32) &&& (255 : Int32))), .val (.int (p6 &&& (255 : Int32))), .unset, .unset, .unset, .unset, .unset, .unset, .unset, .unset, .unset, .unset] [(.int (p5 &&& (2147483647 : Int32)))]) _
  refine own_go (fun t_ k_ => XS.bipush X0.here hx rfl (hb hby at_44) k_) ?_
  show own_G p.tables e below s₁ (mkF m 46 #[.val (.int p1), .val (.int p2), .val (.int p3), .val (.int p4), .val (.int p5), .val (.int p6), .val (.int (p1 &&& (255 : Int32))), .val (.int (((p1.toUInt32 >>> ((8 : Int32) &&& 31).toUInt32).toInt32) &&& (255 : Int32))), .val (.int (((p1.toUInt32 >>> ((16 : Int32) &&& 31).toUInt32).toInt32) &&& (255 : Int32))), .val (.int (p6 &&& (255 : Int32))), .unset, .unset, .unset, .unset, .unset, .unset, .unset, .unset, .unset, .unset] [(.int (10 : Int32)), (.int (p5 &&& (2147483647 : Int32)))]) _
  refine own_go (fun t_ k_ => iremM X0 hx rfl (hb hby at_46) rfl (by decide) k_) ?_
  show own_G p.tables e below s₁ (mkF m 47 #[.val (.int p1), .val (.int p2), .val (.int p3), .val (.int p4), .val (.int p5), .val (.int p6), .val (.int (p1 &&& (255 : Int32))), .val (.int (((p1.toUInt32 >>> ((8 : Int32) &&& 31).toUInt32).toInt32) &&& (255 : Int32))), .val (.int (((p1.toUInt32 >>> ((16 : Int32) &&& 31).toUInt32).toInt32) &&& (255 : Int32))), .val (.int (p6 &&& (255 : Int32))), .unset, .unset, .unset, .unset, .unset, .unset, .unset, .unset, .unset, .unset] [(.int ((p5 &&& (2147483647 : Int32)) % (10 : Int32)))]) _
  refine own_go (fun t_ k_ => XS.istore X0.here hx rfl (hb hby at_47) rfl (l' := #[.val (.int p1), .val (.int p2), .val (.int p3), .val (.int p4), .val (.int p5), .val (.int p6), .val (.int (p1 &&& (255 : Int32))), .val (.int (((p1.toUInt32 >>> ((8 : Int32) &&& 31).toUInt32).toInt32) &&& (255 : Int32))), .val (.int (((p1.toUInt32 >>> ((16 : Int32) &&& 31).toUInt32).toInt32) &&& (255 : Int32))), .val (.int (p6 &&& (255 : Int32))), .val (.int ((p5 &&& (2147483647 : Int32)) % (10 : Int32))), .unset, .unset, .unset, .unset, .unset, .unset, .unset, .unset, .unset]) rfl k_) ?_
  show own_G p.tables e below s₁ (mkF m 49 #[.val (.int p1), .val (.int p2), .val (.int p3), .val (.int p4), .val (.int p5), .val (.int p6), .val (.int (p1 &&& (255 : Int32))), .val (.int (((p1.toUInt32 >>> ((8 : Int32) &&& 31).toUInt32).toInt32) &&& (255 : Int32))), .val (.int (((p1.toUInt32 >>> ((16 : Int32) &&& 31).toUInt32).toInt32) &&& (255 : Int32))), .val (.int (p6 &&& (255 : Int32))), .val (.int ((p5 &&& (2147483647 : Int32)) % (10 : Int32))), .unset, .unset, .unset, .unset, .unset, .unset, .unset, .unset, .unset] []) _
  obtain ⟨T1, h1, X1, e1, E1, A1, D1, -, st1⟩ := newO X0 hx hZ hown (hw _ (List.mem_of_getElem? (i := 1) rfl)) (hw _ (List.mem_of_getElem? (i := 2) rfl)) (hw _ (List.mem_of_getElem? (i := 3) rfl)) e0 (g := (mkF m 49 #[.val (.int p1), .val (.int p2), .val (.int p3), .val (.int p4), .val (.int p5), .val (.int p6), .val (.int (p1 &&& (255 : Int32))), .val (.int (((p1.toUInt32 >>> ((8 : Int32) &&& 31).toUInt32).toInt32) &&& (255 : Int32))), .val (.int (((p1.toUInt32 >>> ((16 : Int32) &&& 31).toUInt32).toInt32) &&& (255 : Int32))), .val (.int (p6 &&& (255 : Int32))), .val (.int ((p5 &&& (2147483647 : Int32)) % (10 : Int32))), .unset, .unset, .unset, .unset, .unset, .unset, .unset, .unset, .unset] [])) rfl (hb hby at_49) (by decide) (by decide)
  obtain ⟨b1, g1⟩ : ∃ z, z = h0.size := ⟨_, rfl⟩
  rw [← g1] at A1 D1 st1
  have ge_b1 : n0 ≤ b1 := Nat.le_trans Z0 (Nat.le_of_eq g1.symm)
  have f2 : Fld Z h1 b1 "com/example/line_to_seat/linetoseat/store/SectionSeats" "sectionId" "Ljava/lang/String;" .null := D1 (Or.inr (hw _ (List.mem_of_getElem? (i := 35) rfl))) (ty := (.object "java/lang/String")) (by decide)
  have f3 : Fld Z h1 b1 "com/example/line_to_seat/linetoseat/store/SectionSeats" "course" "Ljava/lang/String;" .null := D1 (Or.inr (hw _ (List.mem_of_getElem? (i := 37) rfl))) (ty := (.object "java/lang/String")) (by decide)
  have f4 : Fld Z h1 b1 "com/example/line_to_seat/linetoseat/store/SectionSeats" "sectionCode" "Ljava/lang/String;" .null := D1 (Or.inr (hw _ (List.mem_of_getElem? (i := 39) rfl))) (ty := (.object "java/lang/String")) (by decide)
  have f5 : Fld Z h1 b1 "com/example/line_to_seat/linetoseat/store/SectionSeats" "seats" "I" (.int (0 : Int32)) := D1 (Or.inr (hw _ (List.mem_of_getElem? (i := 41) rfl))) (ty := .int) (by decide)
  have f6 : Fld Z h1 b1 "com/example/line_to_seat/linetoseat/store/SectionSeats" "enrolled" "I" (.int (0 : Int32)) := D1 (Or.inr (hw _ (List.mem_of_getElem? (i := 43) rfl))) (ty := .int) (by decide)
  have f7 : Fld Z h1 b1 "com/example/line_to_seat/linetoseat/store/SectionSeats" "waitlisted" "I" (.int (0 : Int32)) := D1 (Or.inr (hw _ (List.mem_of_getElem? (i := 45) rfl))) (ty := .int) (by decide)
  refine own_go st1 ?_
  show own_G p.tables e below T1 (mkF m 52 #[.val (.int p1), .val (.int p2), .val (.int p3), .val (.int p4), .val (.int p5), .val (.int p6), .val (.int (p1 &&& (255 : Int32))), .val (.int (((p1.toUInt32 >>> ((8 : Int32) &&& 31).toUInt32).toInt32) &&& (255 : Int32))), .val (.int (((p1.toUInt32 >>> ((16 : Int32) &&& 31).toUInt32).toInt32) &&& (255 : Int32))), .val (.int (p6 &&& (255 : Int32))), .val (.int ((p5 &&& (2147483647 : Int32)) % (10 : Int32))), .unset, .unset, .unset, .unset, .unset, .unset, .unset, .unset, .unset] [(.ref b1)]) _
  refine own_go (fun t_ k_ => XS.dup X1.here hx rfl (hb hby at_52) rfl rfl k_) ?_
  show own_G p.tables e below T1 (mkF m 53 #[.val (.int p1), .val (.int p2), .val (.int p3), .val (.int p4), .val (.int p5), .val (.int p6), .val (.int (p1 &&& (255 : Int32))), .val (.int (((p1.toUInt32 >>> ((8 : Int32) &&& 31).toUInt32).toInt32) &&& (255 : Int32))), .val (.int (((p1.toUInt32 >>> ((16 : Int32) &&& 31).toUInt32).toInt32) &&& (255 : Int32))), .val (.int (p6 &&& (255 : Int32))), .val (.int ((p5 &&& (2147483647 : Int32)) % (10 : Int32))), .unset, .unset, .unset, .unset, .unset, .unset, .unset, .unset, .unset] [(.ref b1), (.ref b1)]) _
  refine own_go (fun t_ k_ => XS.iload X1.here hx rfl (hb hby at_53) rfl k_) ?_
  show own_G p.tables e below T1 (mkF m 55 #[.val (.int p1), .val (.int p2), .val (.int p3), .val (.int p4), .val (.int p5), .val (.int p6), .val (.int (p1 &&& (255 : Int32))), .val (.int (((p1.toUInt32 >>> ((8 : Int32) &&& 31).toUInt32).toInt32) &&& (255 : Int32))), .val (.int (((p1.toUInt32 >>> ((16 : Int32) &&& 31).toUInt32).toInt32) &&& (255 : Int32))), .val (.int (p6 &&& (255 : Int32))), .val (.int ((p5 &&& (2147483647 : Int32)) % (10 : Int32))), .unset, .unset, .unset, .unset, .unset, .unset, .unset, .unset, .unset] [(.int (p1 &&& (255 : Int32))), (.ref b1), (.ref b1)]) _
  have f8 : n0 ≤ h1.size := (Nat.le_trans Z0 E1.1)
  have f9 : Sta Z h1 "java/lang/String" "COMPACT_STRINGS" "Z" (.int cs) := (S_C.ext E1)
  obtain ⟨_, _, ⟨T10, L10, k10, n10⟩, -, X10, ⟨Lc10, hQ10, l10, y10, z10⟩, st10⟩ := Jvm.LawKit.callS X1 hx (y := (⟨"java/lang/String", "valueOf", "(C)Ljava/lang/String;"⟩ : MethodName)) hown (mvT hZ (hw _ (List.mem_of_getElem? (i := 4) rfl))) (mvT hZ (hw _ (List.mem_of_getElem? (i := 5) rfl))) (mvT hZ (hw _ (List.mem_of_getElem? (i := 6) rfl))) (mvT hZ (hw _ (List.mem_of_getElem? (i := 7) rfl))) (by decide) (backOf (W := 2) (rm1 l Z a0 hw [] (p1 &&& (255 : Int32)) cs h1 n0 f8 f9 hcs (own_m255 _)) hZ (hw _ (List.mem_of_getElem? (i := 7) rfl)) (hw _ (List.mem_of_getElem? (i := 6) rfl)) (by decide) (by decide)) (g := (mkF m 55 #[.val (.int p1), .val (.int p2), .val (.int p3), .val (.int p4), .val (.int p5), .val (.int p6), .val (.int (p1 &&& (255 : Int32))), .val (.int (((p1.toUInt32 >>> ((8 : Int32) &&& 31).toUInt32).toInt32) &&& (255 : Int32))), .val (.int (((p1.toUInt32 >>> ((16 : Int32) &&& 31).toUInt32).toInt32) &&& (255 : Int32))), .val (.int (p6 &&& (255 : Int32))), .val (.int ((p5 &&& (2147483647 : Int32)) % (10 : Int32))), .unset, .unset, .unset, .unset, .unset, .unset, .unset, .unset, .unset] [(.int (p1 &&& (255 : Int32))), (.ref b1), (.ref b1)])) rfl (by rw [hml]; rfl) (argsL := [(.int (p1 &&& (255 : Int32)))]) (rest := [(.ref b1), (.ref b1)]) (lenOf own_pd4 rfl) rfl (by show 2 * 0 + _ ≤ _; exact Nat.le_of_eq rfl) (hb hby at_55) (fun _ _ => ⟨rfl, e1, (by decide : 1 + 2 ≤ _), (by decide : 6 + 5 ≤ _)⟩)
  dsimp only [Pt.U, Pt.locs, Pt.cells, Pt.slots] at X10 l10 y10 z10 st10 hQ10
  subst l10 y10 z10
  obtain ⟨a10, t10, kb10, rfl, N10q, K10, ga10, sa10, sta10, nat10, Ea10, Ca10, Va10, Ta10⟩ := hQ10
  have N10 := Fr.app N0 N10q
  refine own_go st10 ?_
  show own_G p.tables e below T10 (mkF m 58 #[.val (.int p1), .val (.int p2), .val (.int p3), .val (.int p4), .val (.int p5), .val (.int p6), .val (.int (p1 &&& (255 : Int32))), .val (.int (((p1.toUInt32 >>> ((8 : Int32) &&& 31).toUInt32).toInt32) &&& (255 : Int32))), .val (.int (((p1.toUInt32 >>> ((16 : Int32) &&& 31).toUInt32).toInt32) &&& (255 : Int32))), .val (.int (p6 &&& (255 : Int32))), .val (.int ((p5 &&& (2147483647 : Int32)) % (10 : Int32))), .unset, .unset, .unset, .unset, .unset, .unset, .unset, .unset, .unset] [(.ref a10), (.ref b1), (.ref b1)]) _
  have ne11 : b1 ≠ a10 := Nat.ne_of_lt (Nat.lt_of_lt_of_le A1.lt sa10)
  have ne12 : b1 ≠ t10 := Nat.ne_of_lt (Nat.lt_of_lt_of_le A1.lt sta10)
  refine own_go (fun t_ k_ => XS.iload X10.here hx rfl (hb hby at_58) rfl k_) ?_
  show own_G p.tables e below T10 (mkF m 60 #[.val (.int p1), .val (.int p2), .val (.int p3), .val (.int p4), .val (.int p5), .val (.int p6), .val (.int (p1 &&& (255 : Int32))), .val (.int (((p1.toUInt32 >>> ((8 : Int32) &&& 31).toUInt32).toInt32) &&& (255 : Int32))), .val (.int (((p1.toUInt32 >>> ((16 : Int32) &&& 31).toUInt32).toInt32) &&& (255 : Int32))), .val (.int (p6 &&& (255 : Int32))), .val (.int ((p5 &&& (2147483647 : Int32)) % (10 : Int32))), .unset, .unset, .unset, .unset, .unset, .unset, .unset, .unset, .unset] [(.int (((p1.toUInt32 >>> ((8 : Int32) &&& 31).toUInt32).toInt32) &&& (255 : Int32))), (.ref a10), (.ref b1), (.ref b1)]) _
  have f13 : n0 ≤ T10.heap.size := (Nat.le_trans f8 K10.1)
  have f14 : Sta Z T10.heap "java/lang/String" "COMPACT_STRINGS" "Z" (.int cs) := (own_sk f9 K10 (fun _ q => nomatch q))
  have f15 : Exa Z T10.heap b1 "com/example/line_to_seat/linetoseat/store/SectionSeats" := (A1.keep K10)
  obtain ⟨_, _, ⟨T16, L16, k16, n16⟩, -, X16, ⟨Lc16, hQ16, l16, y16, z16⟩, st16⟩ := Jvm.LawKit.callS X10 hx (y := (⟨"java/lang/String", "valueOf", "(C)Ljava/lang/String;"⟩ : MethodName)) hown (mvT hZ (hw _ (List.mem_of_getElem? (i := 4) rfl))) (mvT hZ (hw _ (List.mem_of_getElem? (i := 5) rfl))) (mvT hZ (hw _ (List.mem_of_getElem? (i := 6) rfl))) (mvT hZ (hw _ (List.mem_of_getElem? (i := 7) rfl))) (by decide) (backOf (W := 3) (rm1 l Z a0 hw [] (((p1.toUInt32 >>> ((8 : Int32) &&& 31).toUInt32).toInt32) &&& (255 : Int32)) cs T10.heap n0 f13 f14 hcs (own_m255 _)) hZ (hw _ (List.mem_of_getElem? (i := 7) rfl)) (hw _ (List.mem_of_getElem? (i := 6) rfl)) (by decide) (by decide)) (g := (mkF m 60 #[.val (.int p1), .val (.int p2), .val (.int p3), .val (.int p4), .val (.int p5), .val (.int p6), .val (.int (p1 &&& (255 : Int32))), .val (.int (((p1.toUInt32 >>> ((8 : Int32) &&& 31).toUInt32).toInt32) &&& (255 : Int32))), .val (.int (((p1.toUInt32 >>> ((16 : Int32) &&& 31).toUInt32).toInt32) &&& (255 : Int32))), .val (.int (p6 &&& (255 : Int32))), .val (.int ((p5 &&& (2147483647 : Int32)) % (10 : Int32))), .unset, .unset, .unset, .unset, .unset, .unset, .unset, .unset, .unset] [(.int (((p1.toUInt32 >>> ((8 : Int32) &&& 31).toUInt32).toInt32) &&& (255 : Int32))), (.ref a10), (.ref b1), (.ref b1)])) rfl (by rw [hml]; rfl) (argsL := [(.int (((p1.toUInt32 >>> ((8 : Int32) &&& 31).toUInt32).toInt32) &&& (255 : Int32)))]) (rest := [(.ref a10), (.ref b1), (.ref b1)]) (lenOf own_pd4 rfl) rfl (by show 2 * 0 + _ ≤ _; exact Nat.le_of_eq rfl) (hb hby at_60) (fun _ _ => ⟨rfl, rfl, (by decide : 3 + 2 ≤ _), (by decide : 11 + 5 ≤ _)⟩)
  dsimp only [Pt.U, Pt.locs, Pt.cells, Pt.slots] at X16 l16 y16 z16 st16 hQ16
  subst l16 y16 z16
  obtain ⟨a16, t16, kb16, rfl, N16q, K16, ga16, sa16, sta16, nat16, Ea16, Ca16, Va16, Ta16⟩ := hQ16
  have N16 := Fr.app N10 N16q
  refine own_go st16 ?_
  show own_G p.tables e below T16 (mkF m 63 #[.val (.int p1), .val (.int p2), .val (.int p3), .val (.int p4), .val (.int p5), .val (.int p6), .val (.int (p1 &&& (255 : Int32))), .val (.int (((p1.toUInt32 >>> ((8 : Int32) &&& 31).toUInt32).toInt32) &&& (255 : Int32))), .val (.int (((p1.toUInt32 >>> ((16 : Int32) &&& 31).toUInt32).toInt32) &&& (255 : Int32))), .val (.int (p6 &&& (255 : Int32))), .val (.int ((p5 &&& (2147483647 : Int32)) % (10 : Int32))), .unset, .unset, .unset, .unset, .unset, .unset, .unset, .unset, .unset] [(.ref a16), (.ref a10), (.ref b1), (.ref b1)]) _
  have ne17 : b1 ≠ a16 := Nat.ne_of_lt (Nat.lt_of_lt_of_le f15.lt sa16)
  have ne18 : a10 ≠ a16 := Nat.ne_of_lt (Nat.lt_of_lt_of_le Ea10.lt sa16)
  have ne19 : t10 ≠ a16 := Nat.ne_of_lt (Nat.lt_of_lt_of_le Ta10.lt sa16)
  have ne20 : b1 ≠ t16 := Nat.ne_of_lt (Nat.lt_of_lt_of_le f15.lt sta16)
  have ne21 : a10 ≠ t16 := Nat.ne_of_lt (Nat.lt_of_lt_of_le Ea10.lt sta16)
  have ne22 : t10 ≠ t16 := Nat.ne_of_lt (Nat.lt_of_lt_of_le Ta10.lt sta16)
  refine own_go (fun t_ k_ => XS.iload X16.here hx rfl (hb hby at_63) rfl k_) ?_
  show own_G p.tables e below T16 (mkF m 65 #[.val (.int p1), .val (.int p2), .val (.int p3), .val (.int p4), .val (.int p5), .val (.int p6), .val (.int (p1 &&& (255 : Int32))), .val (.int (((p1.toUInt32 >>> ((8 : Int32) &&& 31).toUInt32).toInt32) &&& (255 : Int32))), .val (.int (((p1.toUInt32 >>> ((16 : Int32) &&& 31).toUInt32).toInt32) &&& (255 : Int32))), .val (.int (p6 &&& (255 : Int32))), .val (.int ((p5 &&& (2147483647 : Int32)) % (10 : Int32))), .unset, .unset, .unset, .unset, .unset, .unset, .unset, .unset, .unset] [(.int (((p1.toUInt32 >>> ((16 : Int32) &&& 31).toUInt32).toInt32) &&& (255 : Int32))), (.ref a16), (.ref a10), (.ref b1), (.ref b1)]) _
  have f23 : n0 ≤ T16.heap.size := (Nat.le_trans f13 K16.1)
  have f24 : Sta Z T16.heap "java/lang/String" "COMPACT_STRINGS" "Z" (.int cs) := (own_sk f14 K16 (fun _ q => nomatch q))
  have f25 : Exa Z T16.heap b1 "com/example/line_to_seat/linetoseat/store/SectionSeats" := (f15.keep K16)
  have f26 : Exa Z T16.heap a10 "java/lang/String" := (Ea10.keep K16)
  have f27 : Arv Z T16.heap t10 kb10 .byte (1 : Int32) [(.int (p1 &&& (255 : Int32)).toInt8.toInt32)] (.int (0 : Int32)) := (Ta10.keep K16 List.not_mem_nil)
  obtain ⟨_, _, ⟨T28, L28, k28, n28⟩, -, X28, ⟨Lc28, hQ28, l28, y28, z28⟩, st28⟩ := Jvm.LawKit.callS X16 hx (y := (⟨"java/lang/String", "valueOf", "(C)Ljava/lang/String;"⟩ : MethodName)) hown (mvT hZ (hw _ (List.mem_of_getElem? (i := 4) rfl))) (mvT hZ (hw _ (List.mem_of_getElem? (i := 5) rfl))) (mvT hZ (hw _ (List.mem_of_getElem? (i := 6) rfl))) (mvT hZ (hw _ (List.mem_of_getElem? (i := 7) rfl))) (by decide) (backOf (W := 4) (rm1 l Z a0 hw [] (((p1.toUInt32 >>> ((16 : Int32) &&& 31).toUInt32).toInt32) &&& (255 : Int32)) cs T16.heap n0 f23 f24 hcs (own_m255 _)) hZ (hw _ (List.mem_of_getElem? (i := 7) rfl)) (hw _ (List.mem_of_getElem? (i := 6) rfl)) (by decide) (by decide)) (g := (mkF m 65 #[.val (.int p1), .val (.int p2), .val (.int p3), .val (.int p4), .val (.int p5), .val (.int p6), .val (.int (p1 &&& (255 : Int32))), .val (.int (((p1.toUInt32 >>> ((8 : Int32) &&& 31).toUInt32).toInt32) &&& (255 : Int32))), .val (.int (((p1.toUInt32 >>> ((16 : Int32) &&& 31).toUInt32).toInt32) &&& (255 : Int32))), .val (.int (p6 &&& (255 : Int32))), .val (.int ((p5 &&& (2147483647 : Int32)) % (10 : Int32))), .unset, .unset, .unset, .unset, .unset, .unset, .unset, .unset, .unset] [(.int (((p1.toUInt32 >>> ((16 : Int32) &&& 31).toUInt32).toInt32) &&& (255 : Int32))), (.ref a16), (.ref a10), (.ref b1), (.ref b1)])) rfl (by rw [hml]; rfl) (argsL := [(.int (((p1.toUInt32 >>> ((16 : Int32) &&& 31).toUInt32).toInt32) &&& (255 : Int32)))]) (rest := [(.ref a16), (.ref a10), (.ref b1), (.ref b1)]) (lenOf own_pd4 rfl) rfl (by show 2 * 0 + _ ≤ _; exact Nat.le_of_eq rfl) (hb hby at_65) (fun _ _ => ⟨rfl, rfl, (by decide : 5 + 2 ≤ _), (by decide : 16 + 5 ≤ _)⟩)
  dsimp only [Pt.U, Pt.locs, Pt.cells, Pt.slots] at X28 l28 y28 z28 st28 hQ28
  subst l28 y28 z28
  obtain ⟨a28, t28, kb28, rfl, N28q, K28, ga28, sa28, sta28, nat28, Ea28, Ca28, Va28, Ta28⟩ := hQ28
  have N28 := Fr.app N16 N28q
  refine own_go st28 ?_
  show own_G p.tables e below T28 (mkF m 68 #[.val (.int p1), .val (.int p2), .val (.int p3), .val (.int p4), .val (.int p5), .val (.int p6), .val (.int (p1 &&& (255 : Int32))), .val (.int (((p1.toUInt32 >>> ((8 : Int32) &&& 31).toUInt32).toInt32) &&& (255 : Int32))), .val (.int (((p1.toUInt32 >>> ((16 : Int32) &&& 31).toUInt32).toInt32) &&& (255 : Int32))), .val (.int (p6 &&& (255 : Int32))), .val (.int ((p5 &&& (2147483647 : Int32)) % (10 : Int32))), .unset, .unset, .unset, .unset, .unset, .unset, .unset, .unset, .unset] [(.ref a28), (.ref a16), (.ref a10), (.ref b1), (.ref b1)]) _
  have ne29 : b1 ≠ a28 := Nat.ne_of_lt (Nat.lt_of_lt_of_le f25.lt sa28)
  have ne30 : a10 ≠ a28 := Nat.ne_of_lt (Nat.lt_of_lt_of_le f26.lt sa28)
  have ne31 : t10 ≠ a28 := Nat.ne_of_lt (Nat.lt_of_lt_of_le f27.lt sa28)
  have ne32 : a16 ≠ a28 := Nat.ne_of_lt (Nat.lt_of_lt_of_le Ea16.lt sa28)
  have ne33 : t16 ≠ a28 := Nat.ne_of_lt (Nat.lt_of_lt_of_le Ta16.lt sa28)
  have ne34 : b1 ≠ t28 := Nat.ne_of_lt (Nat.lt_of_lt_of_le f25.lt sta28)
  have ne35 : a10 ≠ t28 := Nat.ne_of_lt (Nat.lt_of_lt_of_le f26.lt sta28)
  have ne36 : t10 ≠ t28 := Nat.ne_of_lt (Nat.lt_of_lt_of_le f27.lt sta28)
  have ne37 : a16 ≠ t28 := Nat.ne_of_lt (Nat.lt_of_lt_of_le Ea16.lt sta28)
  have ne38 : t16 ≠ t28 := Nat.ne_of_lt (Nat.lt_of_lt_of_le Ta16.lt sta28)
  refine own_go (fun t_ k_ => XS.iloadN X28.here hx rfl (hb hby at_68) rfl k_) ?_
  show own_G p.tables e below T28 (mkF m 69 #[.val (.int p1), .val (.int p2), .val (.int p3), .val (.int p4), .val (.int p5), .val (.int p6), .val (.int (p1 &&& (255 : Int32))), .val (.int (((p1.toUInt32 >>> ((8 : Int32) &&& 31).toUInt32).toInt32) &&& (255 : Int32))), .val (.int (((p1.toUInt32 >>> ((16 : Int32) &&& 31).toUInt32).toInt32) &&& (255 : Int32))), .val (.int (p6 &&& (255 : Int32))), .val (.int ((p5 &&& (2147483647 : Int32)) % (10 : Int32))), .unset, .unset, .unset, .unset, .unset, .unset, .unset, .unset, .unset] [(.int p2), (.ref a28), (.ref a16), (.ref a10), (.ref b1), (.ref b1)]) _
  refine own_go (fun t_ k_ => XS.iloadN X28.here hx rfl (hb hby at_69) rfl k_) ?_
  show own_G p.tables e below T28 (mkF m 70 #[.val (.int p1), .val (.int p2), .val (.int p3), .val (.int p4), .val (.int p5), .val (.int p6), .val (.int (p1 &&& (255 : Int32))), .val (.int (((p1.toUInt32 >>> ((8 : Int32) &&& 31).toUInt32).toInt32) &&& (255 : Int32))), .val (.int (((p1.toUInt32 >>> ((16 : Int32) &&& 31).toUInt32).toInt32) &&& (255 : Int32))), .val (.int (p6 &&& (255 : Int32))), .val (.int ((p5 &&& (2147483647 : Int32)) % (10 : Int32))), .unset, .unset, .unset, .unset, .unset, .unset, .unset, .unset, .unset] [(.int p3), (.int p2), (.ref a28), (.ref a16), (.ref a10), (.ref b1), (.ref b1)]) _
  refine own_go (fun t_ k_ => XS.iloadN X28.here hx rfl (hb hby at_70) rfl k_) ?_
  show own_G p.tables e below T28 (mkF m 71 #[.val (.int p1), .val (.int p2), .val (.int p3), .val (.int p4), .val (.int p5), .val (.int p6), .val (.int (p1 &&& (255 : Int32))), .val (.int (((p1.toUInt32 >>> ((8 : Int32) &&& 31).toUInt32).toInt32) &&& (255 : Int32))), .val (.int (((p1.toUInt32 >>> ((16 : Int32) &&& 31).toUInt32).toInt32) &&& (255 : Int32))), .val (.int (p6 &&& (255 : Int32))), .val (.int ((p5 &&& (2147483647 : Int32)) % (10 : Int32))), .unset, .unset, .unset, .unset, .unset, .unset, .unset, .unset, .unset] [(.int p4), (.int p3), (.int p2), (.ref a28), (.ref a16), (.ref a10), (.ref b1), (.ref b1)]) _
  have f39 : n0 ≤ T28.heap.size := (Nat.le_trans f23 K28.1)
  have f40 : Exa Z T28.heap b1 "com/example/line_to_seat/linetoseat/store/SectionSeats" := (f25.keep K28)
  have f41 : Sta Z T28.heap "java/lang/String" "COMPACT_STRINGS" "Z" (.int cs) := (own_sk f24 K28 (fun _ q => nomatch q))
  have f42 : Fld Z T28.heap b1 "com/example/line_to_seat/linetoseat/store/SectionSeats" "sectionId" "Ljava/lang/String;" .null := (((f2.keep K10 List.not_mem_nil).keep K16 List.not_mem_nil).keep K28 List.not_mem_nil)
  have f43 : Fld Z T28.heap b1 "com/example/line_to_seat/linetoseat/store/SectionSeats" "course" "Ljava/lang/String;" .null := (((f3.keep K10 List.not_mem_nil).keep K16 List.not_mem_nil).keep K28 List.not_mem_nil)
  have f44 : Fld Z T28.heap b1 "com/example/line_to_seat/linetoseat/store/SectionSeats" "sectionCode" "Ljava/lang/String;" .null := (((f4.keep K10 List.not_mem_nil).keep K16 List.not_mem_nil).keep K28 List.not_mem_nil)
  have f45 : Fld Z T28.heap b1 "com/example/line_to_seat/linetoseat/store/SectionSeats" "seats" "I" (.int (0 : Int32)) := (((f5.keep K10 List.not_mem_nil).keep K16 List.not_mem_nil).keep K28 List.not_mem_nil)
  have f46 : Fld Z T28.heap b1 "com/example/line_to_seat/linetoseat/store/SectionSeats" "enrolled" "I" (.int (0 : Int32)) := (((f6.keep K10 List.not_mem_nil).keep K16 List.not_mem_nil).keep K28 List.not_mem_nil)
  have f47 : Fld Z T28.heap b1 "com/example/line_to_seat/linetoseat/store/SectionSeats" "waitlisted" "I" (.int (0 : Int32)) := (((f7.keep K10 List.not_mem_nil).keep K16 List.not_mem_nil).keep K28 List.not_mem_nil)
  obtain ⟨_, _, ⟨T48, L48, k48, n48⟩, -, X48, ⟨Lc48, hQ48, l48, y48, z48⟩, st48⟩ := X28.specialBack hx (y := (⟨"com/example/line_to_seat/linetoseat/store/SectionSeats", "<init>", "(Ljava/lang/String;Ljava/lang/String;Ljava/lang/String;III)V"⟩ : MethodName)) rfl hown (mvT hZ (hw _ (List.mem_of_getElem? (i := 30) rfl))) (mvT hZ (hw _ (List.mem_of_getElem? (i := 31) rfl))) (mvT hZ (hw _ (List.mem_of_getElem? (i := 32) rfl))) (by decide) (backOf (W := 1) (rm6 l Z a0 hw [] b1 a10 a16 a28 p2 p3 p4 T28.heap n0 f39 ge_b1 f40 f42 f43 f44 f45 f46 f47) hZ (hw _ (List.mem_of_getElem? (i := 32) rfl)) (hw _ (List.mem_of_getElem? (i := 3) rfl)) (by decide) (by decide)) (g := (mkF m 71 #[.val (.int p1), .val (.int p2), .val (.int p3), .val (.int p4), .val (.int p5), .val (.int p6), .val (.int (p1 &&& (255 : Int32))), .val (.int (((p1.toUInt32 >>> ((8 : Int32) &&& 31).toUInt32).toInt32) &&& (255 : Int32))), .val (.int (((p1.toUInt32 >>> ((16 : Int32) &&& 31).toUInt32).toInt32) &&& (255 : Int32))), .val (.int (p6 &&& (255 : Int32))), .val (.int ((p5 &&& (2147483647 : Int32)) % (10 : Int32))), .unset, .unset, .unset, .unset, .unset, .unset, .unset, .unset, .unset] [(.int p4), (.int p3), (.int p2), (.ref a28), (.ref a16), (.ref a10), (.ref b1), (.ref b1)])) rfl (by rw [hml]; rfl) (Steps.refl _) (a := b1) (argsL := [(.ref a10), (.ref a16), (.ref a28), (.int p2), (.int p3), (.int p4)]) (rest := [(.ref b1)]) (lenOf own_pd5 rfl) rfl (by show 2 * 0 + _ ≤ _; exact Nat.le_of_eq rfl) (hb hby at_71) (fun _ _ => ⟨rfl, rfl, (by decide : 7 + 0 ≤ _), (by decide : 21 + 0 ≤ _)⟩)
  dsimp only [Pt.U, Pt.locs, Pt.cells, Pt.slots] at X48 l48 y48 z48 st48 hQ48
  subst l48 y48 z48
  obtain ⟨rfl, N48q, K48, Ex48, u0_48, u1_48, u2_48, u3_48, u4_48, u5_48⟩ := hQ48
  have N48 := Fr.app N28 N48q
  refine own_go (fun t_ k_ => st48.trans k_) ?_
  show own_G p.tables e below T48 (mkF m 74 #[.val (.int p1), .val (.int p2), .val (.int p3), .val (.int p4), .val (.int p5), .val (.int p6), .val (.int (p1 &&& (255 : Int32))), .val (.int (((p1.toUInt32 >>> ((8 : Int32) &&& 31).toUInt32).toInt32) &&& (255 : Int32))), .val (.int (((p1.toUInt32 >>> ((16 : Int32) &&& 31).toUInt32).toInt32) &&& (255 : Int32))), .val (.int (p6 &&& (255 : Int32))), .val (.int ((p5 &&& (2147483647 : Int32)) % (10 : Int32))), .unset, .unset, .unset, .unset, .unset, .unset, .unset, .unset, .unset] [(.ref b1)]) _
  refine own_go (fun t_ k_ => XS.astore X48.here hx rfl (hb hby at_74) rfl rfl (l' := #[.val (.int p1), .val (.int p2), .val (.int p3), .val (.int p4), .val (.int p5), .val (.int p6), .val (.int (p1 &&& (255 : Int32))), .val (.int (((p1.toUInt32 >>> ((8 : Int32) &&& 31).toUInt32).toInt32) &&& (255 : Int32))), .val (.int (((p1.toUInt32 >>> ((16 : Int32) &&& 31).toUInt32).toInt32) &&& (255 : Int32))), .val (.int (p6 &&& (255 : Int32))), .val (.int ((p5 &&& (2147483647 : Int32)) % (10 : Int32))), .val (.ref b1), .unset, .unset, .unset, .unset, .unset, .unset, .unset, .unset]) rfl k_) ?_
  show own_G p.tables e below T48 (mkF m 76 #[.val (.int p1), .val (.int p2), .val (.int p3), .val (.int p4), .val (.int p5), .val (.int p6), .val (.int (p1 &&& (255 : Int32))), .val (.int (((p1.toUInt32 >>> ((8 : Int32) &&& 31).toUInt32).toInt32) &&& (255 : Int32))), .val (.int (((p1.toUInt32 >>> ((16 : Int32) &&& 31).toUInt32).toInt32) &&& (255 : Int32))), .val (.int (p6 &&& (255 : Int32))), .val (.int ((p5 &&& (2147483647 : Int32)) % (10 : Int32))), .val (.ref b1), .unset, .unset, .unset, .unset, .unset, .unset, .unset, .unset] []) _
  have tail273 : ∀ (i0 i1 i2 m0 m1 m2 ex : Int32), (¬ i0 < 0 ∧ ¬ (255 : Int32) < i0) → (¬ i1 < 0 ∧ ¬ (255 : Int32) < i1) → (¬ i2 < 0 ∧ ¬ (255 : Int32) < i2) → own_eq (p1 &&& (255 : Int32)) (((p1.toUInt32 >>> ((8 : Int32) &&& 31).toUInt32).toInt32) &&& (255 : Int32)) (((p1.toUInt32 >>> ((16 : Int32) &&& 31).toUInt32).toInt32) &&& (255 : Int32)) p2 p3 p4 i0 i1 i2 m0 m1 m2 = ex → own_G p.tables e below T48 (mkF m 273 #[.val (.int p1), .val (.int p2), .val (.int p3), .val (.int p4), .val (.int p5), .val (.int p6), .val (.int (p1 &&& (255 : Int32))), .val (.int (((p1.toUInt32 >>> ((8 : Int32) &&& 31).toUInt32).toInt32) &&& (255 : Int32))), .val (.int (((p1.toUInt32 >>> ((16 : Int32) &&& 31).toUInt32).toInt32) &&& (255 : Int32))), .val (.int (p6 &&& (255 : Int32))), .val (.int ((p5 &&& (2147483647 : Int32)) % (10 : Int32))), .val (.ref b1), .val (.int i0), .val (.int i1), .val (.int i2), .val (.int m0), .val (.int m1), .val (.int m2), .val (.int ex), .unset] []) (own_P below s (Q0 Z p1 p2 p3 p4 p5 p6 cs h0 n0) 48 192) := by
    intro i0 i1 i2 m0 m1 m2 ex hi0 hi1 hi2 hex
    show own_G p.tables e below T48 (mkF m 273 #[.val (.int p1), .val (.int p2), .val (.int p3), .val (.int p4), .val (.int p5), .val (.int p6), .val (.int (p1 &&& (255 : Int32))), .val (.int (((p1.toUInt32 >>> ((8 : Int32) &&& 31).toUInt32).toInt32) &&& (255 : Int32))), .val (.int (((p1.toUInt32 >>> ((16 : Int32) &&& 31).toUInt32).toInt32) &&& (255 : Int32))), .val (.int (p6 &&& (255 : Int32))), .val (.int ((p5 &&& (2147483647 : Int32)) % (10 : Int32))), .val (.ref b1), .val (.int i0), .val (.int i1), .val (.int i2), .val (.int m0), .val (.int m1), .val (.int m2), .val (.int ex), .unset] []) _
    obtain ⟨T49, h49, X49, e49, E49, A49, D49, -, st49⟩ := newO X48 hx hZ hown (hw _ (List.mem_of_getElem? (i := 1) rfl)) (hw _ (List.mem_of_getElem? (i := 2) rfl)) (hw _ (List.mem_of_getElem? (i := 3) rfl)) rfl (g := (mkF m 273 #[.val (.int p1), .val (.int p2), .val (.int p3), .val (.int p4), .val (.int p5), .val (.int p6), .val (.int (p1 &&& (255 : Int32))), .val (.int (((p1.toUInt32 >>> ((8 : Int32) &&& 31).toUInt32).toInt32) &&& (255 : Int32))), .val (.int (((p1.toUInt32 >>> ((16 : Int32) &&& 31).toUInt32).toInt32) &&& (255 : Int32))), .val (.int (p6 &&& (255 : Int32))), .val (.int ((p5 &&& (2147483647 : Int32)) % (10 : Int32))), .val (.ref b1), .val (.int i0), .val (.int i1), .val (.int i2), .val (.int m0), .val (.int m1), .val (.int m2), .val (.int ex), .unset] [])) rfl (hb hby at_273) (by decide) (by decide)
    obtain ⟨b49, g49⟩ : ∃ z, z = T48.heap.size := ⟨_, rfl⟩
    rw [← g49] at A49 D49 st49
    have ne50 : b1 ≠ b49 := Nat.ne_of_lt (Nat.lt_of_lt_of_le Ex48.lt (Nat.le_of_eq g49.symm))
    have f51 : Exa Z T48.heap a10 "java/lang/String" := ((f26.keep K28).keep K48)
    have ne52 : a10 ≠ b49 := Nat.ne_of_lt (Nat.lt_of_lt_of_le f51.lt (Nat.le_of_eq g49.symm))
    have f53 : Arv Z T48.heap t10 kb10 .byte (1 : Int32) [(.int (p1 &&& (255 : Int32)).toInt8.toInt32)] (.int (0 : Int32)) := ((f27.keep K28 List.not_mem_nil).keep K48 (fun q => (Ne.symm ne12) (List.mem_singleton.mp q)))
    have ne54 : t10 ≠ b49 := Nat.ne_of_lt (Nat.lt_of_lt_of_le f53.lt (Nat.le_of_eq g49.symm))
    have f55 : Exa Z T48.heap a16 "java/lang/String" := ((Ea16.keep K28).keep K48)
    have ne56 : a16 ≠ b49 := Nat.ne_of_lt (Nat.lt_of_lt_of_le f55.lt (Nat.le_of_eq g49.symm))
    have f57 : Arv Z T48.heap t16 kb16 .byte (1 : Int32) [(.int (((p1.toUInt32 >>> ((8 : Int32) &&& 31).toUInt32).toInt32) &&& (255 : Int32)).toInt8.toInt32)] (.int (0 : Int32)) := ((Ta16.keep K28 List.not_mem_nil).keep K48 (fun q => (Ne.symm ne20) (List.mem_singleton.mp q)))
    have ne58 : t16 ≠ b49 := Nat.ne_of_lt (Nat.lt_of_lt_of_le f57.lt (Nat.le_of_eq g49.symm))
    have f59 : Exa Z T48.heap a28 "java/lang/String" := (Ea28.keep K48)
    have ne60 : a28 ≠ b49 := Nat.ne_of_lt (Nat.lt_of_lt_of_le f59.lt (Nat.le_of_eq g49.symm))
    have f61 : Arv Z T48.heap t28 kb28 .byte (1 : Int32) [(.int (((p1.toUInt32 >>> ((16 : Int32) &&& 31).toUInt32).toInt32) &&& (255 : Int32)).toInt8.toInt32)] (.int (0 : Int32)) := (Ta28.keep K48 (fun q => (Ne.symm ne34) (List.mem_singleton.mp q)))
    have ne62 : t28 ≠ b49 := Nat.ne_of_lt (Nat.lt_of_lt_of_le f61.lt (Nat.le_of_eq g49.symm))
    have f63 : n0 ≤ T48.heap.size := (Nat.le_trans f39 K48.1)
    have ge_b49 : n0 ≤ b49 := Nat.le_trans f63 (Nat.le_of_eq g49.symm)
    have f64 : Fld Z h49 b49 "com/example/line_to_seat/linetoseat/store/SectionSeats" "sectionId" "Ljava/lang/String;" .null := D49 (Or.inr (hw _ (List.mem_of_getElem? (i := 35) rfl))) (ty := (.object "java/lang/String")) (by decide)
    have f65 : Fld Z h49 b49 "com/example/line_to_seat/linetoseat/store/SectionSeats" "course" "Ljava/lang/String;" .null := D49 (Or.inr (hw _ (List.mem_of_getElem? (i := 37) rfl))) (ty := (.object "java/lang/String")) (by decide)
    have f66 : Fld Z h49 b49 "com/example/line_to_seat/linetoseat/store/SectionSeats" "sectionCode" "Ljava/lang/String;" .null := D49 (Or.inr (hw _ (List.mem_of_getElem? (i := 39) rfl))) (ty := (.object "java/lang/String")) (by decide)
    have f67 : Fld Z h49 b49 "com/example/line_to_seat/linetoseat/store/SectionSeats" "seats" "I" (.int (0 : Int32)) := D49 (Or.inr (hw _ (List.mem_of_getElem? (i := 41) rfl))) (ty := .int) (by decide)
    have f68 : Fld Z h49 b49 "com/example/line_to_seat/linetoseat/store/SectionSeats" "enrolled" "I" (.int (0 : Int32)) := D49 (Or.inr (hw _ (List.mem_of_getElem? (i := 43) rfl))) (ty := .int) (by decide)
    have f69 : Fld Z h49 b49 "com/example/line_to_seat/linetoseat/store/SectionSeats" "waitlisted" "I" (.int (0 : Int32)) := D49 (Or.inr (hw _ (List.mem_of_getElem? (i := 45) rfl))) (ty := .int) (by decide)
    refine own_go st49 ?_
    show own_G p.tables e below T49 (mkF m 276 #[.val (.int p1), .val (.int p2), .val (.int p3), .val (.int p4), .val (.int p5), .val (.int p6), .val (.int (p1 &&& (255 : Int32))), .val (.int (((p1.toUInt32 >>> ((8 : Int32) &&& 31).toUInt32).toInt32) &&& (255 : Int32))), .val (.int (((p1.toUInt32 >>> ((16 : Int32) &&& 31).toUInt32).toInt32) &&& (255 : Int32))), .val (.int (p6 &&& (255 : Int32))), .val (.int ((p5 &&& (2147483647 : Int32)) % (10 : Int32))), .val (.ref b1), .val (.int i0), .val (.int i1), .val (.int i2), .val (.int m0), .val (.int m1), .val (.int m2), .val (.int ex), .unset] [(.ref b49)]) _
    refine own_go (fun t_ k_ => XS.dup X49.here hx rfl (hb hby at_276) rfl rfl k_) ?_
    show own_G p.tables e below T49 (mkF m 277 #[.val (.int p1), .val (.int p2), .val (.int p3), .val (.int p4), .val (.int p5), .val (.int p6), .val (.int (p1 &&& (255 : Int32))), .val (.int (((p1.toUInt32 >>> ((8 : Int32) &&& 31).toUInt32).toInt32) &&& (255 : Int32))), .val (.int (((p1.toUInt32 >>> ((16 : Int32) &&& 31).toUInt32).toInt32) &&& (255 : Int32))), .val (.int (p6 &&& (255 : Int32))), .val (.int ((p5 &&& (2147483647 : Int32)) % (10 : Int32))), .val (.ref b1), .val (.int i0), .val (.int i1), .val (.int i2), .val (.int m0), .val (.int m1), .val (.int m2), .val (.int ex), .unset] [(.ref b49), (.ref b49)]) _
    obtain ⟨T70, h70, X70, e70, E70, A70, D70, -, st70⟩ := newO X49 hx hZ hown (hw _ (List.mem_of_getElem? (i := 46) rfl)) (hw _ (List.mem_of_getElem? (i := 14) rfl)) (hw _ (List.mem_of_getElem? (i := 6) rfl)) e49 (g := (mkF m 277 #[.val (.int p1), .val (.int p2), .val (.int p3), .val (.int p4), .val (.int p5), .val (.int p6), .val (.int (p1 &&& (255 : Int32))), .val (.int (((p1.toUInt32 >>> ((8 : Int32) &&& 31).toUInt32).toInt32) &&& (255 : Int32))), .val (.int (((p1.toUInt32 >>> ((16 : Int32) &&& 31).toUInt32).toInt32) &&& (255 : Int32))), .val (.int (p6 &&& (255 : Int32))), .val (.int ((p5 &&& (2147483647 : Int32)) % (10 : Int32))), .val (.ref b1), .val (.int i0), .val (.int i1), .val (.int i2), .val (.int m0), .val (.int m1), .val (.int m2), .val (.int ex), .unset] [(.ref b49), (.ref b49)])) rfl (hb hby at_277) (by decide) (by decide)
    obtain ⟨b70, g70⟩ : ∃ z, z = h49.size := ⟨_, rfl⟩
    rw [← g70] at A70 D70 st70
    have f71 : Exa Z h49 b1 "com/example/line_to_seat/linetoseat/store/SectionSeats" := (Ex48.ext E49)
    have ne72 : b1 ≠ b70 := Nat.ne_of_lt (Nat.lt_of_lt_of_le f71.lt (Nat.le_of_eq g70.symm))
    have f73 : Exa Z h49 a10 "java/lang/String" := (f51.ext E49)
    have ne74 : a10 ≠ b70 := Nat.ne_of_lt (Nat.lt_of_lt_of_le f73.lt (Nat.le_of_eq g70.symm))
    have f75 : Arv Z h49 t10 kb10 .byte (1 : Int32) [(.int (p1 &&& (255 : Int32)).toInt8.toInt32)] (.int (0 : Int32)) := (f53.ext E49)
    have ne76 : t10 ≠ b70 := Nat.ne_of_lt (Nat.lt_of_lt_of_le f75.lt (Nat.le_of_eq g70.symm))
    have f77 : Exa Z h49 a16 "java/lang/String" := (f55.ext E49)
    have ne78 : a16 ≠ b70 := Nat.ne_of_lt (Nat.lt_of_lt_of_le f77.lt (Nat.le_of_eq g70.symm))
    have f79 : Arv Z h49 t16 kb16 .byte (1 : Int32) [(.int (((p1.toUInt32 >>> ((8 : Int32) &&& 31).toUInt32).toInt32) &&& (255 : Int32)).toInt8.toInt32)] (.int (0 : Int32)) := (f57.ext E49)
    have ne80 : t16 ≠ b70 := Nat.ne_of_lt (Nat.lt_of_lt_of_le f79.lt (Nat.le_of_eq g70.symm))
    have f81 : Exa Z h49 a28 "java/lang/String" := (f59.ext E49)
    have ne82 : a28 ≠ b70 := Nat.ne_of_lt (Nat.lt_of_lt_of_le f81.lt (Nat.le_of_eq g70.symm))
    have f83 : Arv Z h49 t28 kb28 .byte (1 : Int32) [(.int (((p1.toUInt32 >>> ((16 : Int32) &&& 31).toUInt32).toInt32) &&& (255 : Int32)).toInt8.toInt32)] (.int (0 : Int32)) := (f61.ext E49)
    have ne84 : t28 ≠ b70 := Nat.ne_of_lt (Nat.lt_of_lt_of_le f83.lt (Nat.le_of_eq g70.symm))
    have ne85 : b49 ≠ b70 := Nat.ne_of_lt (Nat.lt_of_lt_of_le A49.lt (Nat.le_of_eq g70.symm))
    have f86 : n0 ≤ h49.size := (Nat.le_trans f63 E49.1)
    have ge_b70 : n0 ≤ b70 := Nat.le_trans f86 (Nat.le_of_eq g70.symm)
    have f87 : Fld Z h70 b70 "java/lang/String" "value" "[B" .null := D70 (Or.inr (hw _ (List.mem_of_getElem? (i := 27) rfl))) (ty := (.array .byte)) (by decide)
    have f88 : Fld Z h70 b70 "java/lang/String" "coder" "B" (.int (0 : Int32)) := D70 (Or.inr (hw _ (List.mem_of_getElem? (i := 29) rfl))) (ty := .byte) (by decide)
    refine own_go st70 ?_
    show own_G p.tables e below T70 (mkF m 280 #[.val (.int p1), .val (.int p2), .val (.int p3), .val (.int p4), .val (.int p5), .val (.int p6), .val (.int (p1 &&& (255 : Int32))), .val (.int (((p1.toUInt32 >>> ((8 : Int32) &&& 31).toUInt32).toInt32) &&& (255 : Int32))), .val (.int (((p1.toUInt32 >>> ((16 : Int32) &&& 31).toUInt32).toInt32) &&& (255 : Int32))), .val (.int (p6 &&& (255 : Int32))), .val (.int ((p5 &&& (2147483647 : Int32)) % (10 : Int32))), .val (.ref b1), .val (.int i0), .val (.int i1), .val (.int i2), .val (.int m0), .val (.int m1), .val (.int m2), .val (.int ex), .unset] [(.ref b70), (.ref b49), (.ref b49)]) _
    refine own_go (fun t_ k_ => XS.dup X70.here hx rfl (hb hby at_280) rfl rfl k_) ?_
    show own_G p.tables e below T70 (mkF m 281 #[.val (.int p1), .val (.int p2), .val (.int p3), .val (.int p4), .val (.int p5), .val (.int p6), .val (.int (p1 &&& (255 : Int32))), .val (.int (((p1.toUInt32 >>> ((8 : Int32) &&& 31).toUInt32).toInt32) &&& (255 : Int32))), .val (.int (((p1.toUInt32 >>> ((16 : Int32) &&& 31).toUInt32).toInt32) &&& (255 : Int32))), .val (.int (p6 &&& (255 : Int32))), .val (.int ((p5 &&& (2147483647 : Int32)) % (10 : Int32))), .val (.ref b1), .val (.int i0), .val (.int i1), .val (.int i2), .val (.int m0), .val (.int m1), .val (.int m2), .val (.int ex), .unset] [(.ref b70), (.ref b70), (.ref b49), (.ref b49)]) _
    refine own_go (fun t_ k_ => XS.iconst X70.here hx rfl (hb hby at_281) k_) ?_
    show own_G p.tables e below T70 (mkF m 282 #[.val (.int p1), .val (.int p2), .val (.int p3), .val (.int p4), .val (.int p5), .val (.int p6), .val (.int (p1 &&& (255 : Int32))), .val (.int (((p1.toUInt32 >>> ((8 : Int32) &&& 31).toUInt32).toInt32) &&& (255 : Int32))), .val (.int (((p1.toUInt32 >>> ((16 : Int32) &&& 31).toUInt32).toInt32) &&& (255 : Int32))), .val (.int (p6 &&& (255 : Int32))), .val (.int ((p5 &&& (2147483647 : Int32)) % (10 : Int32))), .val (.ref b1), .val (.int i0), .val (.int i1), .val (.int i2), .val (.int m0), .val (.int m1), .val (.int m2), .val (.int ex), .unset] [(.int (1 : Int32)), (.ref b70), (.ref b70), (.ref b49), (.ref b49)]) _
    obtain ⟨T89, h89, k89, X89, e89, E89, A89, st89⟩ := newP X70 hx hZ (hw _ (List.mem_of_getElem? (i := 47) rfl)) e70 (g := (mkF m 282 #[.val (.int p1), .val (.int p2), .val (.int p3), .val (.int p4), .val (.int p5), .val (.int p6), .val (.int (p1 &&& (255 : Int32))), .val (.int (((p1.toUInt32 >>> ((8 : Int32) &&& 31).toUInt32).toInt32) &&& (255 : Int32))), .val (.int (((p1.toUInt32 >>> ((16 : Int32) &&& 31).toUInt32).toInt32) &&& (255 : Int32))), .val (.int (p6 &&& (255 : Int32))), .val (.int ((p5 &&& (2147483647 : Int32)) % (10 : Int32))), .val (.ref b1), .val (.int i0), .val (.int i1), .val (.int i2), .val (.int m0), .val (.int m1), .val (.int m2), .val (.int ex), .unset] [(.int (1 : Int32)), (.ref b70), (.ref b70), (.ref b49), (.ref b49)])) rfl (hb hby at_282) rfl (by decide) (cap := 1) (by decide) (by decide) (by decide) (by decide)
    obtain ⟨b89, g89⟩ : ∃ z, z = h70.size := ⟨_, rfl⟩
    rw [← g89] at A89 st89
    have f90 : Exa Z h70 b1 "com/example/line_to_seat/linetoseat/store/SectionSeats" := (f71.ext E70)
    have ne91 : b1 ≠ b89 := Nat.ne_of_lt (Nat.lt_of_lt_of_le f90.lt (Nat.le_of_eq g89.symm))
    have f92 : Exa Z h70 a10 "java/lang/String" := (f73.ext E70)
    have ne93 : a10 ≠ b89 := Nat.ne_of_lt (Nat.lt_of_lt_of_le f92.lt (Nat.le_of_eq g89.symm))
    have f94 : Arv Z h70 t10 kb10 .byte (1 : Int32) [(.int (p1 &&& (255 : Int32)).toInt8.toInt32)] (.int (0 : Int32)) := (f75.ext E70)
    have ne95 : t10 ≠ b89 := Nat.ne_of_lt (Nat.lt_of_lt_of_le f94.lt (Nat.le_of_eq g89.symm))
    have f96 : Exa Z h70 a16 "java/lang/String" := (f77.ext E70)
    have ne97 : a16 ≠ b89 := Nat.ne_of_lt (Nat.lt_of_lt_of_le f96.lt (Nat.le_of_eq g89.symm))
    have f98 : Arv Z h70 t16 kb16 .byte (1 : Int32) [(.int (((p1.toUInt32 >>> ((8 : Int32) &&& 31).toUInt32).toInt32) &&& (255 : Int32)).toInt8.toInt32)] (.int (0 : Int32)) := (f79.ext E70)
    have ne99 : t16 ≠ b89 := Nat.ne_of_lt (Nat.lt_of_lt_of_le f98.lt (Nat.le_of_eq g89.symm))
    have f100 : Exa Z h70 a28 "java/lang/String" := (f81.ext E70)
    have ne101 : a28 ≠ b89 := Nat.ne_of_lt (Nat.lt_of_lt_of_le f100.lt (Nat.le_of_eq g89.symm))
    have f102 : Arv Z h70 t28 kb28 .byte (1 : Int32) [(.int (((p1.toUInt32 >>> ((16 : Int32) &&& 31).toUInt32).toInt32) &&& (255 : Int32)).toInt8.toInt32)] (.int (0 : Int32)) := (f83.ext E70)
    have ne103 : t28 ≠ b89 := Nat.ne_of_lt (Nat.lt_of_lt_of_le f102.lt (Nat.le_of_eq g89.symm))
    have f104 : Exa Z h70 b49 "com/example/line_to_seat/linetoseat/store/SectionSeats" := (A49.ext E70)
    have ne105 : b49 ≠ b89 := Nat.ne_of_lt (Nat.lt_of_lt_of_le f104.lt (Nat.le_of_eq g89.symm))
    have ne106 : b70 ≠ b89 := Nat.ne_of_lt (Nat.lt_of_lt_of_le A70.lt (Nat.le_of_eq g89.symm))
    have f107 : n0 ≤ h70.size := (Nat.le_trans f86 E70.1)
    have ge_b89 : n0 ≤ b89 := Nat.le_trans f107 (Nat.le_of_eq g89.symm)
    have V89 : Arv Z h89 b89 k89 .char (1 : Int32) [(.int (0 : Int32))] (.int (0 : Int32)) := (Arv.new A89 (by decide)).pad (pad_rep [] (.int (0 : Int32)) 1)
    refine own_go st89 ?_
    show own_G p.tables e below T89 (mkF m 284 #[.val (.int p1), .val (.int p2), .val (.int p3), .val (.int p4), .val (.int p5), .val (.int p6), .val (.int (p1 &&& (255 : Int32))), .val (.int (((p1.toUInt32 >>> ((8 : Int32) &&& 31).toUInt32).toInt32) &&& (255 : Int32))), .val (.int (((p1.toUInt32 >>> ((16 : Int32) &&& 31).toUInt32).toInt32) &&& (255 : Int32))), .val (.int (p6 &&& (255 : Int32))), .val (.int ((p5 &&& (2147483647 : Int32)) % (10 : Int32))), .val (.ref b1), .val (.int i0), .val (.int i1), .val (.int i2), .val (.int m0), .val (.int m1), .val (.int m2), .val (.int ex), .unset] [(.ref b89), (.ref b70), (.ref b70), (.ref b49), (.ref b49)]) _
    refine own_go (fun t_ k_ => XS.dup X89.here hx rfl (hb hby at_284) rfl rfl k_) ?_
    show own_G p.tables e below T89 (mkF m 285 #[.val (.int p1), .val (.int p2), .val (.int p3), .val (.int p4), .val (.int p5), .val (.int p6), .val (.int (p1 &&& (255 : Int32))), .val (.int (((p1.toUInt32 >>> ((8 : Int32) &&& 31).toUInt32).toInt32) &&& (255 : Int32))), .val (.int (((p1.toUInt32 >>> ((16 : Int32) &&& 31).toUInt32).toInt32) &&& (255 : Int32))), .val (.int (p6 &&& (255 : Int32))), .val (.int ((p5 &&& (2147483647 : Int32)) % (10 : Int32))), .val (.ref b1), .val (.int i0), .val (.int i1), .val (.int i2), .val (.int m0), .val (.int m1), .val (.int m2), .val (.int ex), .unset] [(.ref b89), (.ref b89), (.ref b70), (.ref b70), (.ref b49), (.ref b49)]) _
    refine own_go (fun t_ k_ => XS.iconst X89.here hx rfl (hb hby at_285) k_) ?_
    show own_G p.tables e below T89 (mkF m 286 #[.val (.int p1), .val (.int p2), .val (.int p3), .val (.int p4), .val (.int p5), .val (.int p6), .val (.int (p1 &&& (255 : Int32))), .val (.int (((p1.toUInt32 >>> ((8 : Int32) &&& 31).toUInt32).toInt32) &&& (255 : Int32))), .val (.int (((p1.toUInt32 >>> ((16 : Int32) &&& 31).toUInt32).toInt32) &&& (255 : Int32))), .val (.int (p6 &&& (255 : Int32))), .val (.int ((p5 &&& (2147483647 : Int32)) % (10 : Int32))), .val (.ref b1), .val (.int i0), .val (.int i1), .val (.int i2), .val (.int m0), .val (.int m1), .val (.int m2), .val (.int ex), .unset] [(.int (0 : Int32)), (.ref b89), (.ref b89), (.ref b70), (.ref b70), (.ref b49), (.ref b49)]) _
    refine own_go (fun t_ k_ => XS.iload X89.here hx rfl (hb hby at_286) rfl k_) ?_
    show own_G p.tables e below T89 (mkF m 288 #[.val (.int p1), .val (.int p2), .val (.int p3), .val (.int p4), .val (.int p5), .val (.int p6), .val (.int (p1 &&& (255 : Int32))), .val (.int (((p1.toUInt32 >>> ((8 : Int32) &&& 31).toUInt32).toInt32) &&& (255 : Int32))), .val (.int (((p1.toUInt32 >>> ((16 : Int32) &&& 31).toUInt32).toInt32) &&& (255 : Int32))), .val (.int (p6 &&& (255 : Int32))), .val (.int ((p5 &&& (2147483647 : Int32)) % (10 : Int32))), .val (.ref b1), .val (.int i0), .val (.int i1), .val (.int i2), .val (.int m0), .val (.int m1), .val (.int m2), .val (.int ex), .unset] [(.int i0), (.int (0 : Int32)), (.ref b89), (.ref b89), (.ref b70), (.ref b70), (.ref b49), (.ref b49)]) _
    obtain ⟨cl108, Ar108, q108, S108, M108, H108, G108⟩ := id V89
    have hin108 : ¬ ((0 : Int32) < 0 ∨ cl108.slots.size ≤ ((0 : Int32)).toNatClampNeg) := inb_of S108 ⟨by decide, by decide⟩
    obtain ⟨T108, h108, X108, e108, W108, st108⟩ := stC X89 hx hZ e89 Ar108 (j := (0 : Int32)) hin108 (g := (mkF m 288 #[.val (.int p1), .val (.int p2), .val (.int p3), .val (.int p4), .val (.int p5), .val (.int p6), .val (.int (p1 &&& (255 : Int32))), .val (.int (((p1.toUInt32 >>> ((8 : Int32) &&& 31).toUInt32).toInt32) &&& (255 : Int32))), .val (.int (((p1.toUInt32 >>> ((16 : Int32) &&& 31).toUInt32).toInt32) &&& (255 : Int32))), .val (.int (p6 &&& (255 : Int32))), .val (.int ((p5 &&& (2147483647 : Int32)) % (10 : Int32))), .val (.ref b1), .val (.int i0), .val (.int i1), .val (.int i2), .val (.int m0), .val (.int m1), .val (.int m2), .val (.int ex), .unset] [(.int i0), (.int (0 : Int32)), (.ref b89), (.ref b89), (.ref b70), (.ref b70), (.ref b49), (.ref b49)])) rfl rfl (hb hby at_288)
    have N108 := Fr.snoc X108 N48 ge_b89
    have V108 : Arv Z h108 b89 k89 .char (1 : Int32) [(.int i0)] (.int (0 : Int32)) := by
      have q := Arv.set Ar108 q108 S108 M108 H108 G108 (fits_nar_char _) W108 0 rfl (Nat.le_of_ble_eq_true rfl)
      rw [own_narc hi0] at q
      exact q
    refine own_go st108 ?_
    show own_G p.tables e below T108 (mkF m 289 #[.val (.int p1), .val (.int p2), .val (.int p3), .val (.int p4), .val (.int p5), .val (.int p6), .val (.int (p1 &&& (255 : Int32))), .val (.int (((p1.toUInt32 >>> ((8 : Int32) &&& 31).toUInt32).toInt32) &&& (255 : Int32))), .val (.int (((p1.toUInt32 >>> ((16 : Int32) &&& 31).toUInt32).toInt32) &&& (255 : Int32))), .val (.int (p6 &&& (255 : Int32))), .val (.int ((p5 &&& (2147483647 : Int32)) % (10 : Int32))), .val (.ref b1), .val (.int i0), .val (.int i1), .val (.int i2), .val (.int m0), .val (.int m1), .val (.int m2), .val (.int ex), .unset] [(.ref b89), (.ref b70), (.ref b70), (.ref b49), (.ref b49)]) _
    have hp109 : ∀ c ∈ ([i0] : List Int32), ¬ c < 0 ∧ ¬ (255 : Int32) < c := by
      intro c hc; cases List.mem_singleton.mp hc; exact hi0
    have f110 : n0 ≤ h108.size := (Nat.le_trans (Nat.le_trans f107 E89.1) (Keep.of_wr W108).1)
    have f111 : Sta Z h108 "java/lang/String" "COMPACT_STRINGS" "Z" (.int cs) := (((((own_sk f41 K48 (own_pl1 (own_pl f40))).ext E49).ext E70).ext E89).wr W108)
    have f112 : Exa Z h108 b70 "java/lang/String" := ((A70.ext E89).wr W108)
    have f113 : Fld Z h108 b70 "java/lang/String" "value" "[B" .null := ((f87.ext E89).other W108 (Or.inl ne106))
    have f114 : Fld Z h108 b70 "java/lang/String" "coder" "B" (.int (0 : Int32)) := ((f88.ext E89).other W108 (Or.inl ne106))
    have f115 : Exa Z h108 b1 "com/example/line_to_seat/linetoseat/store/SectionSeats" := ((f90.ext E89).wr W108)
    have f116 : Fld Z h108 b1 "com/example/line_to_seat/linetoseat/store/SectionSeats" "sectionId" "Ljava/lang/String;" (.ref a10) := ((((u0_48.ext E49).ext E70).ext E89).other W108 (Or.inl ne91))
    have f117 : Fld Z h108 b1 "com/example/line_to_seat/linetoseat/store/SectionSeats" "course" "Ljava/lang/String;" (.ref a16) := ((((u1_48.ext E49).ext E70).ext E89).other W108 (Or.inl ne91))
    have f118 : Fld Z h108 b1 "com/example/line_to_seat/linetoseat/store/SectionSeats" "sectionCode" "Ljava/lang/String;" (.ref a28) := ((((u2_48.ext E49).ext E70).ext E89).other W108 (Or.inl ne91))
    have f119 : Fld Z h108 b1 "com/example/line_to_seat/linetoseat/store/SectionSeats" "seats" "I" (.int p2) := ((((u3_48.ext E49).ext E70).ext E89).other W108 (Or.inl ne91))
    have f120 : Fld Z h108 b1 "com/example/line_to_seat/linetoseat/store/SectionSeats" "enrolled" "I" (.int p3) := ((((u4_48.ext E49).ext E70).ext E89).other W108 (Or.inl ne91))
    have f121 : Fld Z h108 b1 "com/example/line_to_seat/linetoseat/store/SectionSeats" "waitlisted" "I" (.int p4) := ((((u5_48.ext E49).ext E70).ext E89).other W108 (Or.inl ne91))
    have f122 : Exa Z h108 a10 "java/lang/String" := ((f92.ext E89).wr W108)
    have f123 : Fld Z h108 a10 "java/lang/String" "coder" "B" (.int (0 : Int32)) := (((((((Ca10.keep K16 List.not_mem_nil).keep K28 List.not_mem_nil).keep K48 (fun q => (Ne.symm ne11) (List.mem_singleton.mp q))).ext E49).ext E70).ext E89).other W108 (Or.inl ne93))
    have f124 : Fld Z h108 a10 "java/lang/String" "value" "[B" (.ref t10) := (((((((Va10.keep K16 List.not_mem_nil).keep K28 List.not_mem_nil).keep K48 (fun q => (Ne.symm ne11) (List.mem_singleton.mp q))).ext E49).ext E70).ext E89).other W108 (Or.inl ne93))
    have f125 : Arv Z h108 t10 kb10 .byte (1 : Int32) [(.int (p1 &&& (255 : Int32)).toInt8.toInt32)] (.int (0 : Int32)) := ((f94.ext E89).other W108 ne95)
    have f126 : Exa Z h108 a16 "java/lang/String" := ((f96.ext E89).wr W108)
    have f127 : Fld Z h108 a16 "java/lang/String" "coder" "B" (.int (0 : Int32)) := ((((((Ca16.keep K28 List.not_mem_nil).keep K48 (fun q => (Ne.symm ne17) (List.mem_singleton.mp q))).ext E49).ext E70).ext E89).other W108 (Or.inl ne97))
    have f128 : Fld Z h108 a16 "java/lang/String" "value" "[B" (.ref t16) := ((((((Va16.keep K28 List.not_mem_nil).keep K48 (fun q => (Ne.symm ne17) (List.mem_singleton.mp q))).ext E49).ext E70).ext E89).other W108 (Or.inl ne97))
    have f129 : Arv Z h108 t16 kb16 .byte (1 : Int32) [(.int (((p1.toUInt32 >>> ((8 : Int32) &&& 31).toUInt32).toInt32) &&& (255 : Int32)).toInt8.toInt32)] (.int (0 : Int32)) := ((f98.ext E89).other W108 ne99)
    have f130 : Exa Z h108 a28 "java/lang/String" := ((f100.ext E89).wr W108)
    have f131 : Fld Z h108 a28 "java/lang/String" "coder" "B" (.int (0 : Int32)) := (((((Ca28.keep K48 (fun q => (Ne.symm ne29) (List.mem_singleton.mp q))).ext E49).ext E70).ext E89).other W108 (Or.inl ne101))
    have f132 : Fld Z h108 a28 "java/lang/String" "value" "[B" (.ref t28) := (((((Va28.keep K48 (fun q => (Ne.symm ne29) (List.mem_singleton.mp q))).ext E49).ext E70).ext E89).other W108 (Or.inl ne101))
    have f133 : Arv Z h108 t28 kb28 .byte (1 : Int32) [(.int (((p1.toUInt32 >>> ((16 : Int32) &&& 31).toUInt32).toInt32) &&& (255 : Int32)).toInt8.toInt32)] (.int (0 : Int32)) := ((f102.ext E89).other W108 ne103)
    have f134 : Exa Z h108 b49 "com/example/line_to_seat/linetoseat/store/SectionSeats" := ((f104.ext E89).wr W108)
    have f135 : Fld Z h108 b49 "com/example/line_to_seat/linetoseat/store/SectionSeats" "sectionId" "Ljava/lang/String;" .null := (((f64.ext E70).ext E89).other W108 (Or.inl ne105))
    have f136 : Fld Z h108 b49 "com/example/line_to_seat/linetoseat/store/SectionSeats" "course" "Ljava/lang/String;" .null := (((f65.ext E70).ext E89).other W108 (Or.inl ne105))
    have f137 : Fld Z h108 b49 "com/example/line_to_seat/linetoseat/store/SectionSeats" "sectionCode" "Ljava/lang/String;" .null := (((f66.ext E70).ext E89).other W108 (Or.inl ne105))
    have f138 : Fld Z h108 b49 "com/example/line_to_seat/linetoseat/store/SectionSeats" "seats" "I" (.int (0 : Int32)) := (((f67.ext E70).ext E89).other W108 (Or.inl ne105))
    have f139 : Fld Z h108 b49 "com/example/line_to_seat/linetoseat/store/SectionSeats" "enrolled" "I" (.int (0 : Int32)) := (((f68.ext E70).ext E89).other W108 (Or.inl ne105))
    have f140 : Fld Z h108 b49 "com/example/line_to_seat/linetoseat/store/SectionSeats" "waitlisted" "I" (.int (0 : Int32)) := (((f69.ext E70).ext E89).other W108 (Or.inl ne105))
    obtain ⟨_, _, ⟨T141, L141, k141, n141⟩, -, X141, ⟨Lc141, hQ141, l141, y141, z141⟩, st141⟩ := X108.specialBack hx (y := (⟨"java/lang/String", "<init>", "([C)V"⟩ : MethodName)) rfl hown (mvT hZ (hw _ (List.mem_of_getElem? (i := 48) rfl))) (mvT hZ (hw _ (List.mem_of_getElem? (i := 49) rfl))) (mvT hZ (hw _ (List.mem_of_getElem? (i := 50) rfl))) (by decide) (StrChars.Road.backV (W := 3) hZ hws (kI := 4) (hw _ (List.mem_of_getElem? (i := 14) rfl)) (cs := ([i0] : List Int32)) (bs := (([i0] : List Int32).map (fun c => c.toInt8.toInt32))) (n := 1) ge_b70 f110 f112 f113 f114 V108 f111 hcs rfl rfl (by decide) (by decide) hp109 rfl (by decide) (by decide)) (g := (mkF m 289 #[.val (.int p1), .val (.int p2), .val (.int p3), .val (.int p4), .val (.int p5), .val (.int p6), .val (.int (p1 &&& (255 : Int32))), .val (.int (((p1.toUInt32 >>> ((8 : Int32) &&& 31).toUInt32).toInt32) &&& (255 : Int32))), .val (.int (((p1.toUInt32 >>> ((16 : Int32) &&& 31).toUInt32).toInt32) &&& (255 : Int32))), .val (.int (p6 &&& (255 : Int32))), .val (.int ((p5 &&& (2147483647 : Int32)) % (10 : Int32))), .val (.ref b1), .val (.int i0), .val (.int i1), .val (.int i2), .val (.int m0), .val (.int m1), .val (.int m2), .val (.int ex), .unset] [(.ref b89), (.ref b70), (.ref b70), (.ref b49), (.ref b49)])) rfl (by rw [hml]; rfl) (Steps.refl _) (a := b70) (argsL := [(.ref b89)]) (rest := [(.ref b70), (.ref b49), (.ref b49)]) (lenOf own_pd6 rfl) rfl (by show 2 * 0 + _ ≤ _; exact Nat.le_of_eq rfl) (hb hby at_289) (fun _ _ => ⟨rfl, e108, (by decide : 10 + 1 ≤ _), (by decide : 32 + 1 ≤ _)⟩)
    dsimp only [Pt.U, Pt.locs, Pt.cells, Pt.slots] at X141 l141 y141 z141 st141 hQ141
    subst l141 y141 z141
    obtain ⟨rfl, N141q, K141, Ex141, Fc141, t141, kb141, gt141, szt141, nt141, Fv141, Vt141⟩ := hQ141
    have N141 := Fr.app N108 N141q
    refine own_go (fun t_ k_ => st141.trans k_) ?_
    show own_G p.tables e below T141 (mkF m 292 #[.val (.int p1), .val (.int p2), .val (.int p3), .val (.int p4), .val (.int p5), .val (.int p6), .val (.int (p1 &&& (255 : Int32))), .val (.int (((p1.toUInt32 >>> ((8 : Int32) &&& 31).toUInt32).toInt32) &&& (255 : Int32))), .val (.int (((p1.toUInt32 >>> ((16 : Int32) &&& 31).toUInt32).toInt32) &&& (255 : Int32))), .val (.int (p6 &&& (255 : Int32))), .val (.int ((p5 &&& (2147483647 : Int32)) % (10 : Int32))), .val (.ref b1), .val (.int i0), .val (.int i1), .val (.int i2), .val (.int m0), .val (.int m1), .val (.int m2), .val (.int ex), .unset] [(.ref b70), (.ref b49), (.ref b49)]) _
    have ne142 : b1 ≠ t141 := Nat.ne_of_lt (Nat.lt_of_lt_of_le f115.lt szt141)
    have ne143 : a10 ≠ t141 := Nat.ne_of_lt (Nat.lt_of_lt_of_le f122.lt szt141)
    have ne144 : t10 ≠ t141 := Nat.ne_of_lt (Nat.lt_of_lt_of_le f125.lt szt141)
    have ne145 : a16 ≠ t141 := Nat.ne_of_lt (Nat.lt_of_lt_of_le f126.lt szt141)
    have ne146 : t16 ≠ t141 := Nat.ne_of_lt (Nat.lt_of_lt_of_le f129.lt szt141)
    have ne147 : a28 ≠ t141 := Nat.ne_of_lt (Nat.lt_of_lt_of_le f130.lt szt141)
    have ne148 : t28 ≠ t141 := Nat.ne_of_lt (Nat.lt_of_lt_of_le f133.lt szt141)
    have ne149 : b49 ≠ t141 := Nat.ne_of_lt (Nat.lt_of_lt_of_le f134.lt szt141)
    have ne150 : b89 ≠ t141 := Nat.ne_of_lt (Nat.lt_of_lt_of_le V108.lt szt141)
    have nx141 : b70 ≠ t141 := fun q => nt141 q.symm
    have Vu141 : Arv Z T141.heap t141 kb141 .byte (1 : Int32) [(.int i0.toInt8.toInt32)] (.int (0 : Int32)) := Vt141
    obtain ⟨T151, h151, X151, e151, E151, A151, D151, -, st151⟩ := newO X141 hx hZ hown (hw _ (List.mem_of_getElem? (i := 46) rfl)) (hw _ (List.mem_of_getElem? (i := 14) rfl)) (hw _ (List.mem_of_getElem? (i := 6) rfl)) rfl (g := (mkF m 292 #[.val (.int p1), .val (.int p2), .val (.int p3), .val (.int p4), .val (.int p5), .val (.int p6), .val (.int (p1 &&& (255 : Int32))), .val (.int (((p1.toUInt32 >>> ((8 : Int32) &&& 31).toUInt32).toInt32) &&& (255 : Int32))), .val (.int (((p1.toUInt32 >>> ((16 : Int32) &&& 31).toUInt32).toInt32) &&& (255 : Int32))), .val (.int (p6 &&& (255 : Int32))), .val (.int ((p5 &&& (2147483647 : Int32)) % (10 : Int32))), .val (.ref b1), .val (.int i0), .val (.int i1), .val (.int i2), .val (.int m0), .val (.int m1), .val (.int m2), .val (.int ex), .unset] [(.ref b70), (.ref b49), (.ref b49)])) rfl (hb hby at_292) (by decide) (by decide)
    obtain ⟨b151, g151⟩ : ∃ z, z = T141.heap.size := ⟨_, rfl⟩
    rw [← g151] at A151 D151 st151
    have f152 : Exa Z T141.heap b1 "com/example/line_to_seat/linetoseat/store/SectionSeats" := (f115.keep K141)
    have ne153 : b1 ≠ b151 := Nat.ne_of_lt (Nat.lt_of_lt_of_le f152.lt (Nat.le_of_eq g151.symm))
    have f154 : Exa Z T141.heap a10 "java/lang/String" := (f122.keep K141)
    have ne155 : a10 ≠ b151 := Nat.ne_of_lt (Nat.lt_of_lt_of_le f154.lt (Nat.le_of_eq g151.symm))
    have f156 : Arv Z T141.heap t10 kb10 .byte (1 : Int32) [(.int (p1 &&& (255 : Int32)).toInt8.toInt32)] (.int (0 : Int32)) := (f125.keep K141 (fun q => ne76 (List.mem_singleton.mp q)))
    have ne157 : t10 ≠ b151 := Nat.ne_of_lt (Nat.lt_of_lt_of_le f156.lt (Nat.le_of_eq g151.symm))
    have f158 : Exa Z T141.heap a16 "java/lang/String" := (f126.keep K141)
    have ne159 : a16 ≠ b151 := Nat.ne_of_lt (Nat.lt_of_lt_of_le f158.lt (Nat.le_of_eq g151.symm))
    have f160 : Arv Z T141.heap t16 kb16 .byte (1 : Int32) [(.int (((p1.toUInt32 >>> ((8 : Int32) &&& 31).toUInt32).toInt32) &&& (255 : Int32)).toInt8.toInt32)] (.int (0 : Int32)) := (f129.keep K141 (fun q => ne80 (List.mem_singleton.mp q)))
    have ne161 : t16 ≠ b151 := Nat.ne_of_lt (Nat.lt_of_lt_of_le f160.lt (Nat.le_of_eq g151.symm))
    have f162 : Exa Z T141.heap a28 "java/lang/String" := (f130.keep K141)
    have ne163 : a28 ≠ b151 := Nat.ne_of_lt (Nat.lt_of_lt_of_le f162.lt (Nat.le_of_eq g151.symm))
    have f164 : Arv Z T141.heap t28 kb28 .byte (1 : Int32) [(.int (((p1.toUInt32 >>> ((16 : Int32) &&& 31).toUInt32).toInt32) &&& (255 : Int32)).toInt8.toInt32)] (.int (0 : Int32)) := (f133.keep K141 (fun q => ne84 (List.mem_singleton.mp q)))
    have ne165 : t28 ≠ b151 := Nat.ne_of_lt (Nat.lt_of_lt_of_le f164.lt (Nat.le_of_eq g151.symm))
    have f166 : Exa Z T141.heap b49 "com/example/line_to_seat/linetoseat/store/SectionSeats" := (f134.keep K141)
    have ne167 : b49 ≠ b151 := Nat.ne_of_lt (Nat.lt_of_lt_of_le f166.lt (Nat.le_of_eq g151.symm))
    have ne168 : b70 ≠ b151 := Nat.ne_of_lt (Nat.lt_of_lt_of_le Ex141.lt (Nat.le_of_eq g151.symm))
    have ne169 : t141 ≠ b151 := Nat.ne_of_lt (Nat.lt_of_lt_of_le Vu141.lt (Nat.le_of_eq g151.symm))
    have f170 : n0 ≤ T141.heap.size := (Nat.le_trans f110 K141.1)
    have ge_b151 : n0 ≤ b151 := Nat.le_trans f170 (Nat.le_of_eq g151.symm)
    have f171 : Fld Z h151 b151 "java/lang/String" "value" "[B" .null := D151 (Or.inr (hw _ (List.mem_of_getElem? (i := 27) rfl))) (ty := (.array .byte)) (by decide)
    have f172 : Fld Z h151 b151 "java/lang/String" "coder" "B" (.int (0 : Int32)) := D151 (Or.inr (hw _ (List.mem_of_getElem? (i := 29) rfl))) (ty := .byte) (by decide)
    refine own_go st151 ?_
    show own_G p.tables e below T151 (mkF m 295 #[.val (.int p1), .val (.int p2), .val (.int p3), .val (.int p4), .val (.int p5), .val (.int p6), .val (.int (p1 &&& (255 : Int32))), .val (.int (((p1.toUInt32 >>> ((8 : Int32) &&& 31).toUInt32).toInt32) &&& (255 : Int32))), .val (.int (((p1.toUInt32 >>> ((16 : Int32) &&& 31).toUInt32).toInt32) &&& (255 : Int32))), .val (.int (p6 &&& (255 : Int32))), .val (.int ((p5 &&& (2147483647 : Int32)) % (10 : Int32))), .val (.ref b1), .val (.int i0), .val (.int i1), .val (.int i2), .val (.int m0), .val (.int m1), .val (.int m2), .val (.int ex), .unset] [(.ref b151), (.ref b70), (.ref b49), (.ref b49)]) _
    refine own_go (fun t_ k_ => XS.dup X151.here hx rfl (hb hby at_295) rfl rfl k_) ?_
    show own_G p.tables e below T151 (mkF m 296 #[.val (.int p1), .val (.int p2), .val (.int p3), .val (.int p4), .val (.int p5), .val (.int p6), .val (.int (p1 &&& (255 : Int32))), .val (.int (((p1.toUInt32 >>> ((8 : Int32) &&& 31).toUInt32).toInt32) &&& (255 : Int32))), .val (.int (((p1.toUInt32 >>> ((16 : Int32) &&& 31).toUInt32).toInt32) &&& (255 : Int32))), .val (.int (p6 &&& (255 : Int32))), .val (.int ((p5 &&& (2147483647 : Int32)) % (10 : Int32))), .val (.ref b1), .val (.int i0), .val (.int i1), .val (.int i2), .val (.int m0), .val (.int m1), .val (.int m2), .val (.int ex), .unset] [(.ref b151), (.ref b151), (.ref b70), (.ref b49), (.ref b49)]) _
    refine own_go (fun t_ k_ => XS.iconst X151.here hx rfl (hb hby at_296) k_) ?_
    show own_G p.tables e below T151 (mkF m 297 #[.val (.int p1), .val (.int p2), .val (.int p3), .val (.int p4), .val (.int p5), .val (.int p6), .val (.int (p1 &&& (255 : Int32))), .val (.int (((p1.toUInt32 >>> ((8 : Int32) &&& 31).toUInt32).toInt32) &&& (255 : Int32))), .val (.int (((p1.toUInt32 >>> ((16 : Int32) &&& 31).toUInt32).toInt32) &&& (255 : Int32))), .val (.int (p6 &&& (255 : Int32))), .val (.int ((p5 &&& (2147483647 : Int32)) % (10 : Int32))), .val (.ref b1), .val (.int i0), .val (.int i1), .val (.int i2), .val (.int m0), .val (.int m1), .val (.int m2), .val (.int ex), .unset] [(.int (1 : Int32)), (.ref b151), (.ref b151), (.ref b70), (.ref b49), (.ref b49)]) _
    obtain ⟨T173, h173, k173, X173, e173, E173, A173, st173⟩ := newP X151 hx hZ (hw _ (List.mem_of_getElem? (i := 47) rfl)) e151 (g := (mkF m 297 #[.val (.int p1), .val (.int p2), .val (.int p3), .val (.int p4), .val (.int p5), .val (.int p6), .val (.int (p1 &&& (255 : Int32))), .val (.int (((p1.toUInt32 >>> ((8 : Int32) &&& 31).toUInt32).toInt32) &&& (255 : Int32))), .val (.int (((p1.toUInt32 >>> ((16 : Int32) &&& 31).toUInt32).toInt32) &&& (255 : Int32))), .val (.int (p6 &&& (255 : Int32))), .val (.int ((p5 &&& (2147483647 : Int32)) % (10 : Int32))), .val (.ref b1), .val (.int i0), .val (.int i1), .val (.int i2), .val (.int m0), .val (.int m1), .val (.int m2), .val (.int ex), .unset] [(.int (1 : Int32)), (.ref b151), (.ref b151), (.ref b70), (.ref b49), (.ref b49)])) rfl (hb hby at_297) rfl (by decide) (cap := 1) (by decide) (by decide) (by decide) (by decide)
    obtain ⟨b173, g173⟩ : ∃ z, z = h151.size := ⟨_, rfl⟩
    rw [← g173] at A173 st173
    have f174 : Exa Z h151 b1 "com/example/line_to_seat/linetoseat/store/SectionSeats" := (f152.ext E151)
    have ne175 : b1 ≠ b173 := Nat.ne_of_lt (Nat.lt_of_lt_of_le f174.lt (Nat.le_of_eq g173.symm))
    have f176 : Exa Z h151 a10 "java/lang/String" := (f154.ext E151)
    have ne177 : a10 ≠ b173 := Nat.ne_of_lt (Nat.lt_of_lt_of_le f176.lt (Nat.le_of_eq g173.symm))
    have f178 : Arv Z h151 t10 kb10 .byte (1 : Int32) [(.int (p1 &&& (255 : Int32)).toInt8.toInt32)] (.int (0 : Int32)) := (f156.ext E151)
    have ne179 : t10 ≠ b173 := Nat.ne_of_lt (Nat.lt_of_lt_of_le f178.lt (Nat.le_of_eq g173.symm))
    have f180 : Exa Z h151 a16 "java/lang/String" := (f158.ext E151)
    have ne181 : a16 ≠ b173 := Nat.ne_of_lt (Nat.lt_of_lt_of_le f180.lt (Nat.le_of_eq g173.symm))
    have f182 : Arv Z h151 t16 kb16 .byte (1 : Int32) [(.int (((p1.toUInt32 >>> ((8 : Int32) &&& 31).toUInt32).toInt32) &&& (255 : Int32)).toInt8.toInt32)] (.int (0 : Int32)) := (f160.ext E151)
    have ne183 : t16 ≠ b173 := Nat.ne_of_lt (Nat.lt_of_lt_of_le f182.lt (Nat.le_of_eq g173.symm))
    have f184 : Exa Z h151 a28 "java/lang/String" := (f162.ext E151)
    have ne185 : a28 ≠ b173 := Nat.ne_of_lt (Nat.lt_of_lt_of_le f184.lt (Nat.le_of_eq g173.symm))
    have f186 : Arv Z h151 t28 kb28 .byte (1 : Int32) [(.int (((p1.toUInt32 >>> ((16 : Int32) &&& 31).toUInt32).toInt32) &&& (255 : Int32)).toInt8.toInt32)] (.int (0 : Int32)) := (f164.ext E151)
    have ne187 : t28 ≠ b173 := Nat.ne_of_lt (Nat.lt_of_lt_of_le f186.lt (Nat.le_of_eq g173.symm))
    have f188 : Exa Z h151 b49 "com/example/line_to_seat/linetoseat/store/SectionSeats" := (f166.ext E151)
    have ne189 : b49 ≠ b173 := Nat.ne_of_lt (Nat.lt_of_lt_of_le f188.lt (Nat.le_of_eq g173.symm))
    have f190 : Exa Z h151 b70 "java/lang/String" := (Ex141.ext E151)
    have ne191 : b70 ≠ b173 := Nat.ne_of_lt (Nat.lt_of_lt_of_le f190.lt (Nat.le_of_eq g173.symm))
    have f192 : Arv Z h151 t141 kb141 .byte (1 : Int32) [(.int i0.toInt8.toInt32)] (.int (0 : Int32)) := (Vu141.ext E151)
    have ne193 : t141 ≠ b173 := Nat.ne_of_lt (Nat.lt_of_lt_of_le f192.lt (Nat.le_of_eq g173.symm))
    have ne194 : b151 ≠ b173 := Nat.ne_of_lt (Nat.lt_of_lt_of_le A151.lt (Nat.le_of_eq g173.symm))
    have f195 : n0 ≤ h151.size := (Nat.le_trans f170 E151.1)
    have ge_b173 : n0 ≤ b173 := Nat.le_trans f195 (Nat.le_of_eq g173.symm)
    have V173 : Arv Z h173 b173 k173 .char (1 : Int32) [(.int (0 : Int32))] (.int (0 : Int32)) := (Arv.new A173 (by decide)).pad (pad_rep [] (.int (0 : Int32)) 1)
    refine own_go st173 ?_
    show own_G p.tables e below T173 (mkF m 299 #[.val (.int p1), .val (.int p2), .val (.int p3), .val (.int p4), .val (.int p5), .val (.int p6), .val (.int (p1 &&& (255 : Int32))), .val (.int (((p1.toUInt32 >>> ((8 : Int32) &&& 31).toUInt32).toInt32) &&& (255 : Int32))), .val (.int (((p1.toUInt32 >>> ((16 : Int32) &&& 31).toUInt32).toInt32) &&& (255 : Int32))), .val (.int (p6 &&& (255 : Int32))), .val (.int ((p5 &&& (2147483647 : Int32)) % (10 : Int32))), .val (.ref b1), .val (.int i0), .val (.int i1), .val (.int i2), .val (.int m0), .val (.int m1), .val (.int m2), .val (.int ex), .unset] [(.ref b173), (.ref b151), (.ref b151), (.ref b70), (.ref b49), (.ref b49)]) _
    refine own_go (fun t_ k_ => XS.dup X173.here hx rfl (hb hby at_299) rfl rfl k_) ?_
    show own_G p.tables e below T173 (mkF m 300 #[.val (.int p1), .val (.int p2), .val (.int p3), .val (.int p4), .val (.int p5), .val (.int p6), .val (.int (p1 &&& (255 : Int32))), .val (.int (((p1.toUInt32 >>> ((8 : Int32) &&& 31).toUInt32).toInt32) &&& (255 : Int32))), .val (.int (((p1.toUInt32 >>> ((16 : Int32) &&& 31).toUInt32).toInt32) &&& (255 : Int32))), .val (.int (p6 &&& (255 : Int32))), .val (.int ((p5 &&& (2147483647 : Int32)) % (10 : Int32))), .val (.ref b1), .val (.int i0), .val (.int i1), .val (.int i2), .val (.int m0), .val (.int m1), .val (.int m2), .val (.int ex), .unset] [(.ref b173), (.ref b173), (.ref b151), (.ref b151), (.ref b70), (.ref b49), (.ref b49)]) _
    refine own_go (fun t_ k_ => XS.iconst X173.here hx rfl (hb hby at_300) k_) ?_
    show own_G p.tables e below T173 (mkF m 301 #[.val (.int p1), .val (.int p2), .val (.int p3), .val (.int p4), .val (.int p5), .val (.int p6), .val (.int (p1 &&& (255 : Int32))), .val (.int (((p1.toUInt32 >>> ((8 : Int32) &&& 31).toUInt32).toInt32) &&& (255 : Int32))), .val (.int (((p1.toUInt32 >>> ((16 : Int32) &&& 31).toUInt32).toInt32) &&& (255 : Int32))), .val (.int (p6 &&& (255 : Int32))), .val (.int ((p5 &&& (2147483647 : Int32)) % (10 : Int32))), .val (.ref b1), .val (.int i0), .val (.int i1), .val (.int i2), .val (.int m0), .val (.int m1), .val (.int m2), .val (.int ex), .unset] [(.int (0 : Int32)), (.ref b173), (.ref b173), (.ref b151), (.ref b151), (.ref b70), (.ref b49), (.ref b49)]) _
    refine own_go (fun t_ k_ => XS.iload X173.here hx rfl (hb hby at_301) rfl k_) ?_
    show own_G p.tables e below T173 (mkF m 303 #[.val (.int p1), .val (.int p2), .val (.int p3), .val (.int p4), .val (.int p5), .val (.int p6), .val (.int (p1 &&& (255 : Int32))), .val (.int (((p1.toUInt32 >>> ((8 : Int32) &&& 31).toUInt32).toInt32) &&& (255 : Int32))), .val (.int (((p1.toUInt32 >>> ((16 : Int32) &&& 31).toUInt32).toInt32) &&& (255 : Int32))), .val (.int (p6 &&& (255 : Int32))), .val (.int ((p5 &&& (2147483647 : Int32)) % (10 : Int32))), .val (.ref b1), .val (.int i0), .val (.int i1), .val (.int i2), .val (.int m0), .val (.int m1), .val (.int m2), .val (.int ex), .unset] [(.int i1), (.int (0 : Int32)), (.ref b173), (.ref b173), (.ref b151), (.ref b151), (.ref b70), (.ref b49), (.ref b49)]) _
    obtain ⟨cl196, Ar196, q196, S196, M196, H196, G196⟩ := id V173
    have hin196 : ¬ ((0 : Int32) < 0 ∨ cl196.slots.size ≤ ((0 : Int32)).toNatClampNeg) := inb_of S196 ⟨by decide, by decide⟩
    obtain ⟨T196, h196, X196, e196, W196, st196⟩ := stC X173 hx hZ e173 Ar196 (j := (0 : Int32)) hin196 (g := (mkF m 303 #[.val (.int p1), .val (.int p2), .val (.int p3), .val (.int p4), .val (.int p5), .val (.int p6), .val (.int (p1 &&& (255 : Int32))), .val (.int (((p1.toUInt32 >>> ((8 : Int32) &&& 31).toUInt32).toInt32) &&& (255 : Int32))), .val (.int (((p1.toUInt32 >>> ((16 : Int32) &&& 31).toUInt32).toInt32) &&& (255 : Int32))), .val (.int (p6 &&& (255 : Int32))), .val (.int ((p5 &&& (2147483647 : Int32)) % (10 : Int32))), .val (.ref b1), .val (.int i0), .val (.int i1), .val (.int i2), .val (.int m0), .val (.int m1), .val (.int m2), .val (.int ex), .unset] [(.int i1), (.int (0 : Int32)), (.ref b173), (.ref b173), (.ref b151), (.ref b151), (.ref b70), (.ref b49), (.ref b49)])) rfl rfl (hb hby at_303)
    have N196 := Fr.snoc X196 N141 ge_b173
    have V196 : Arv Z h196 b173 k173 .char (1 : Int32) [(.int i1)] (.int (0 : Int32)) := by
      have q := Arv.set Ar196 q196 S196 M196 H196 G196 (fits_nar_char _) W196 0 rfl (Nat.le_of_ble_eq_true rfl)
      rw [own_narc hi1] at q
      exact q
    refine own_go st196 ?_
    show own_G p.tables e below T196 (mkF m 304 #[.val (.int p1), .val (.int p2), .val (.int p3), .val (.int p4), .val (.int p5), .val (.int p6), .val (.int (p1 &&& (255 : Int32))), .val (.int (((p1.toUInt32 >>> ((8 : Int32) &&& 31).toUInt32).toInt32) &&& (255 : Int32))), .val (.int (((p1.toUInt32 >>> ((16 : Int32) &&& 31).toUInt32).toInt32) &&& (255 : Int32))), .val (.int (p6 &&& (255 : Int32))), .val (.int ((p5 &&& (2147483647 : Int32)) % (10 : Int32))), .val (.ref b1), .val (.int i0), .val (.int i1), .val (.int i2), .val (.int m0), .val (.int m1), .val (.int m2), .val (.int ex), .unset] [(.ref b173), (.ref b151), (.ref b151), (.ref b70), (.ref b49), (.ref b49)]) _
    have hp197 : ∀ c ∈ ([i1] : List Int32), ¬ c < 0 ∧ ¬ (255 : Int32) < c := by
      intro c hc; cases List.mem_singleton.mp hc; exact hi1
    have f198 : n0 ≤ h196.size := (Nat.le_trans (Nat.le_trans f195 E173.1) (Keep.of_wr W196).1)
    have f199 : Sta Z h196 "java/lang/String" "COMPACT_STRINGS" "Z" (.int cs) := ((((own_sk f111 K141 (own_pl1 (own_pl f112))).ext E151).ext E173).wr W196)
    have f200 : Exa Z h196 b151 "java/lang/String" := ((A151.ext E173).wr W196)
    have f201 : Fld Z h196 b151 "java/lang/String" "value" "[B" .null := ((f171.ext E173).other W196 (Or.inl ne194))
    have f202 : Fld Z h196 b151 "java/lang/String" "coder" "B" (.int (0 : Int32)) := ((f172.ext E173).other W196 (Or.inl ne194))
    have f203 : Exa Z h196 b1 "com/example/line_to_seat/linetoseat/store/SectionSeats" := ((f174.ext E173).wr W196)
    have f204 : Fld Z h196 b1 "com/example/line_to_seat/linetoseat/store/SectionSeats" "sectionId" "Ljava/lang/String;" (.ref a10) := ((((f116.keep K141 (fun q => ne72 (List.mem_singleton.mp q))).ext E151).ext E173).other W196 (Or.inl ne175))
    have f205 : Fld Z h196 b1 "com/example/line_to_seat/linetoseat/store/SectionSeats" "course" "Ljava/lang/String;" (.ref a16) := ((((f117.keep K141 (fun q => ne72 (List.mem_singleton.mp q))).ext E151).ext E173).other W196 (Or.inl ne175))
    have f206 : Fld Z h196 b1 "com/example/line_to_seat/linetoseat/store/SectionSeats" "sectionCode" "Ljava/lang/String;" (.ref a28) := ((((f118.keep K141 (fun q => ne72 (List.mem_singleton.mp q))).ext E151).ext E173).other W196 (Or.inl ne175))
    have f207 : Fld Z h196 b1 "com/example/line_to_seat/linetoseat/store/SectionSeats" "seats" "I" (.int p2) := ((((f119.keep K141 (fun q => ne72 (List.mem_singleton.mp q))).ext E151).ext E173).other W196 (Or.inl ne175))
    have f208 : Fld Z h196 b1 "com/example/line_to_seat/linetoseat/store/SectionSeats" "enrolled" "I" (.int p3) := ((((f120.keep K141 (fun q => ne72 (List.mem_singleton.mp q))).ext E151).ext E173).other W196 (Or.inl ne175))
    have f209 : Fld Z h196 b1 "com/example/line_to_seat/linetoseat/store/SectionSeats" "waitlisted" "I" (.int p4) := ((((f121.keep K141 (fun q => ne72 (List.mem_singleton.mp q))).ext E151).ext E173).other W196 (Or.inl ne175))
    have f210 : Exa Z h196 a10 "java/lang/String" := ((f176.ext E173).wr W196)
    have f211 : Fld Z h196 a10 "java/lang/String" "coder" "B" (.int (0 : Int32)) := ((((f123.keep K141 (fun q => ne74 (List.mem_singleton.mp q))).ext E151).ext E173).other W196 (Or.inl ne177))
    have f212 : Fld Z h196 a10 "java/lang/String" "value" "[B" (.ref t10) := ((((f124.keep K141 (fun q => ne74 (List.mem_singleton.mp q))).ext E151).ext E173).other W196 (Or.inl ne177))
    have f213 : Arv Z h196 t10 kb10 .byte (1 : Int32) [(.int (p1 &&& (255 : Int32)).toInt8.toInt32)] (.int (0 : Int32)) := ((f178.ext E173).other W196 ne179)
    have f214 : Exa Z h196 a16 "java/lang/String" := ((f180.ext E173).wr W196)
    have f215 : Fld Z h196 a16 "java/lang/String" "coder" "B" (.int (0 : Int32)) := ((((f127.keep K141 (fun q => ne78 (List.mem_singleton.mp q))).ext E151).ext E173).other W196 (Or.inl ne181))
    have f216 : Fld Z h196 a16 "java/lang/String" "value" "[B" (.ref t16) := ((((f128.keep K141 (fun q => ne78 (List.mem_singleton.mp q))).ext E151).ext E173).other W196 (Or.inl ne181))
    have f217 : Arv Z h196 t16 kb16 .byte (1 : Int32) [(.int (((p1.toUInt32 >>> ((8 : Int32) &&& 31).toUInt32).toInt32) &&& (255 : Int32)).toInt8.toInt32)] (.int (0 : Int32)) := ((f182.ext E173).other W196 ne183)
    have f218 : Exa Z h196 a28 "java/lang/String" := ((f184.ext E173).wr W196)
    have f219 : Fld Z h196 a28 "java/lang/String" "coder" "B" (.int (0 : Int32)) := ((((f131.keep K141 (fun q => ne82 (List.mem_singleton.mp q))).ext E151).ext E173).other W196 (Or.inl ne185))
    have f220 : Fld Z h196 a28 "java/lang/String" "value" "[B" (.ref t28) := ((((f132.keep K141 (fun q => ne82 (List.mem_singleton.mp q))).ext E151).ext E173).other W196 (Or.inl ne185))
    have f221 : Arv Z h196 t28 kb28 .byte (1 : Int32) [(.int (((p1.toUInt32 >>> ((16 : Int32) &&& 31).toUInt32).toInt32) &&& (255 : Int32)).toInt8.toInt32)] (.int (0 : Int32)) := ((f186.ext E173).other W196 ne187)
    have f222 : Exa Z h196 b49 "com/example/line_to_seat/linetoseat/store/SectionSeats" := ((f188.ext E173).wr W196)
    have f223 : Fld Z h196 b49 "com/example/line_to_seat/linetoseat/store/SectionSeats" "sectionId" "Ljava/lang/String;" .null := ((((f135.keep K141 (fun q => ne85 (List.mem_singleton.mp q))).ext E151).ext E173).other W196 (Or.inl ne189))
    have f224 : Fld Z h196 b49 "com/example/line_to_seat/linetoseat/store/SectionSeats" "course" "Ljava/lang/String;" .null := ((((f136.keep K141 (fun q => ne85 (List.mem_singleton.mp q))).ext E151).ext E173).other W196 (Or.inl ne189))
    have f225 : Fld Z h196 b49 "com/example/line_to_seat/linetoseat/store/SectionSeats" "sectionCode" "Ljava/lang/String;" .null := ((((f137.keep K141 (fun q => ne85 (List.mem_singleton.mp q))).ext E151).ext E173).other W196 (Or.inl ne189))
    have f226 : Fld Z h196 b49 "com/example/line_to_seat/linetoseat/store/SectionSeats" "seats" "I" (.int (0 : Int32)) := ((((f138.keep K141 (fun q => ne85 (List.mem_singleton.mp q))).ext E151).ext E173).other W196 (Or.inl ne189))
    have f227 : Fld Z h196 b49 "com/example/line_to_seat/linetoseat/store/SectionSeats" "enrolled" "I" (.int (0 : Int32)) := ((((f139.keep K141 (fun q => ne85 (List.mem_singleton.mp q))).ext E151).ext E173).other W196 (Or.inl ne189))
    have f228 : Fld Z h196 b49 "com/example/line_to_seat/linetoseat/store/SectionSeats" "waitlisted" "I" (.int (0 : Int32)) := ((((f140.keep K141 (fun q => ne85 (List.mem_singleton.mp q))).ext E151).ext E173).other W196 (Or.inl ne189))
    have f229 : Exa Z h196 b70 "java/lang/String" := ((f190.ext E173).wr W196)
    have f230 : Fld Z h196 b70 "java/lang/String" "coder" "B" (.int (0 : Int32)) := (((Fc141.ext E151).ext E173).other W196 (Or.inl ne191))
    have f231 : Fld Z h196 b70 "java/lang/String" "value" "[B" (.ref t141) := (((Fv141.ext E151).ext E173).other W196 (Or.inl ne191))
    have f232 : Arv Z h196 t141 kb141 .byte (1 : Int32) [(.int i0.toInt8.toInt32)] (.int (0 : Int32)) := ((f192.ext E173).other W196 ne193)
    obtain ⟨_, _, ⟨T233, L233, k233, n233⟩, -, X233, ⟨Lc233, hQ233, l233, y233, z233⟩, st233⟩ := X196.specialBack hx (y := (⟨"java/lang/String", "<init>", "([C)V"⟩ : MethodName)) rfl hown (mvT hZ (hw _ (List.mem_of_getElem? (i := 48) rfl))) (mvT hZ (hw _ (List.mem_of_getElem? (i := 49) rfl))) (mvT hZ (hw _ (List.mem_of_getElem? (i := 50) rfl))) (by decide) (StrChars.Road.backV (W := 4) hZ hws (kI := 4) (hw _ (List.mem_of_getElem? (i := 14) rfl)) (cs := ([i1] : List Int32)) (bs := (([i1] : List Int32).map (fun c => c.toInt8.toInt32))) (n := 1) ge_b151 f198 f200 f201 f202 V196 f199 hcs rfl rfl (by decide) (by decide) hp197 rfl (by decide) (by decide)) (g := (mkF m 304 #[.val (.int p1), .val (.int p2), .val (.int p3), .val (.int p4), .val (.int p5), .val (.int p6), .val (.int (p1 &&& (255 : Int32))), .val (.int (((p1.toUInt32 >>> ((8 : Int32) &&& 31).toUInt32).toInt32) &&& (255 : Int32))), .val (.int (((p1.toUInt32 >>> ((16 : Int32) &&& 31).toUInt32).toInt32) &&& (255 : Int32))), .val (.int (p6 &&& (255 : Int32))), .val (.int ((p5 &&& (2147483647 : Int32)) % (10 : Int32))), .val (.ref b1), .val (.int i0), .val (.int i1), .val (.int i2), .val (.int m0), .val (.int m1), .val (.int m2), .val (.int ex), .unset] [(.ref b173), (.ref b151), (.ref b151), (.ref b70), (.ref b49), (.ref b49)])) rfl (by rw [hml]; rfl) (Steps.refl _) (a := b151) (argsL := [(.ref b173)]) (rest := [(.ref b151), (.ref b70), (.ref b49), (.ref b49)]) (lenOf own_pd6 rfl) rfl (by show 2 * 0 + _ ≤ _; exact Nat.le_of_eq rfl) (hb hby at_304) (fun _ _ => ⟨rfl, e196, (by decide : 13 + 1 ≤ _), (by decide : 38 + 1 ≤ _)⟩)
    dsimp only [Pt.U, Pt.locs, Pt.cells, Pt.slots] at X233 l233 y233 z233 st233 hQ233
    subst l233 y233 z233
    obtain ⟨rfl, N233q, K233, Ex233, Fc233, t233, kb233, gt233, szt233, nt233, Fv233, Vt233⟩ := hQ233
    have N233 := Fr.app N196 N233q
    refine own_go (fun t_ k_ => st233.trans k_) ?_
    show own_G p.tables e below T233 (mkF m 307 #[.val (.int p1), .val (.int p2), .val (.int p3), .val (.int p4), .val (.int p5), .val (.int p6), .val (.int (p1 &&& (255 : Int32))), .val (.int (((p1.toUInt32 >>> ((8 : Int32) &&& 31).toUInt32).toInt32) &&& (255 : Int32))), .val (.int (((p1.toUInt32 >>> ((16 : Int32) &&& 31).toUInt32).toInt32) &&& (255 : Int32))), .val (.int (p6 &&& (255 : Int32))), .val (.int ((p5 &&& (2147483647 : Int32)) % (10 : Int32))), .val (.ref b1), .val (.int i0), .val (.int i1), .val (.int i2), .val (.int m0), .val (.int m1), .val (.int m2), .val (.int ex), .unset] [(.ref b151), (.ref b70), (.ref b49), (.ref b49)]) _
    have ne234 : b1 ≠ t233 := Nat.ne_of_lt (Nat.lt_of_lt_of_le f203.lt szt233)
    have ne235 : a10 ≠ t233 := Nat.ne_of_lt (Nat.lt_of_lt_of_le f210.lt szt233)
    have ne236 : t10 ≠ t233 := Nat.ne_of_lt (Nat.lt_of_lt_of_le f213.lt szt233)
    have ne237 : a16 ≠ t233 := Nat.ne_of_lt (Nat.lt_of_lt_of_le f214.lt szt233)
    have ne238 : t16 ≠ t233 := Nat.ne_of_lt (Nat.lt_of_lt_of_le f217.lt szt233)
    have ne239 : a28 ≠ t233 := Nat.ne_of_lt (Nat.lt_of_lt_of_le f218.lt szt233)
    have ne240 : t28 ≠ t233 := Nat.ne_of_lt (Nat.lt_of_lt_of_le f221.lt szt233)
    have ne241 : b49 ≠ t233 := Nat.ne_of_lt (Nat.lt_of_lt_of_le f222.lt szt233)
    have ne242 : b70 ≠ t233 := Nat.ne_of_lt (Nat.lt_of_lt_of_le f229.lt szt233)
    have ne243 : t141 ≠ t233 := Nat.ne_of_lt (Nat.lt_of_lt_of_le f232.lt szt233)
    have ne244 : b173 ≠ t233 := Nat.ne_of_lt (Nat.lt_of_lt_of_le V196.lt szt233)
    have nx233 : b151 ≠ t233 := fun q => nt233 q.symm
    have Vu233 : Arv Z T233.heap t233 kb233 .byte (1 : Int32) [(.int i1.toInt8.toInt32)] (.int (0 : Int32)) := Vt233
    obtain ⟨T245, h245, X245, e245, E245, A245, D245, -, st245⟩ := newO X233 hx hZ hown (hw _ (List.mem_of_getElem? (i := 46) rfl)) (hw _ (List.mem_of_getElem? (i := 14) rfl)) (hw _ (List.mem_of_getElem? (i := 6) rfl)) rfl (g := (mkF m 307 #[.val (.int p1), .val (.int p2), .val (.int p3), .val (.int p4), .val (.int p5), .val (.int p6), .val (.int (p1 &&& (255 : Int32))), .val (.int (((p1.toUInt32 >>> ((8 : Int32) &&& 31).toUInt32).toInt32) &&& (255 : Int32))), .val (.int (((p1.toUInt32 >>> ((16 : Int32) &&& 31).toUInt32).toInt32) &&& (255 : Int32))), .val (.int (p6 &&& (255 : Int32))), .val (.int ((p5 &&& (2147483647 : Int32)) % (10 : Int32))), .val (.ref b1), .val (.int i0), .val (.int i1), .val (.int i2), .val (.int m0), .val (.int m1), .val (.int m2), .val (.int ex), .unset] [(.ref b151), (.ref b70), (.ref b49), (.ref b49)])) rfl (hb hby at_307) (by decide) (by decide)
    obtain ⟨b245, g245⟩ : ∃ z, z = T233.heap.size := ⟨_, rfl⟩
    rw [← g245] at A245 D245 st245
    have f246 : Exa Z T233.heap b1 "com/example/line_to_seat/linetoseat/store/SectionSeats" := (f203.keep K233)
    have ne247 : b1 ≠ b245 := Nat.ne_of_lt (Nat.lt_of_lt_of_le f246.lt (Nat.le_of_eq g245.symm))
    have f248 : Exa Z T233.heap a10 "java/lang/String" := (f210.keep K233)
    have ne249 : a10 ≠ b245 := Nat.ne_of_lt (Nat.lt_of_lt_of_le f248.lt (Nat.le_of_eq g245.symm))
    have f250 : Arv Z T233.heap t10 kb10 .byte (1 : Int32) [(.int (p1 &&& (255 : Int32)).toInt8.toInt32)] (.int (0 : Int32)) := (f213.keep K233 (fun q => ne157 (List.mem_singleton.mp q)))
    have ne251 : t10 ≠ b245 := Nat.ne_of_lt (Nat.lt_of_lt_of_le f250.lt (Nat.le_of_eq g245.symm))
    have f252 : Exa Z T233.heap a16 "java/lang/String" := (f214.keep K233)
    have ne253 : a16 ≠ b245 := Nat.ne_of_lt (Nat.lt_of_lt_of_le f252.lt (Nat.le_of_eq g245.symm))
    have f254 : Arv Z T233.heap t16 kb16 .byte (1 : Int32) [(.int (((p1.toUInt32 >>> ((8 : Int32) &&& 31).toUInt32).toInt32) &&& (255 : Int32)).toInt8.toInt32)] (.int (0 : Int32)) := (f217.keep K233 (fun q => ne161 (List.mem_singleton.mp q)))
    have ne255 : t16 ≠ b245 := Nat.ne_of_lt (Nat.lt_of_lt_of_le f254.lt (Nat.le_of_eq g245.symm))
    have f256 : Exa Z T233.heap a28 "java/lang/String" := (f218.keep K233)
    have ne257 : a28 ≠ b245 := Nat.ne_of_lt (Nat.lt_of_lt_of_le f256.lt (Nat.le_of_eq g245.symm))
    have f258 : Arv Z T233.heap t28 kb28 .byte (1 : Int32) [(.int (((p1.toUInt32 >>> ((16 : Int32) &&& 31).toUInt32).toInt32) &&& (255 : Int32)).toInt8.toInt32)] (.int (0 : Int32)) := (f221.keep K233 (fun q => ne165 (List.mem_singleton.mp q)))
    have ne259 : t28 ≠ b245 := Nat.ne_of_lt (Nat.lt_of_lt_of_le f258.lt (Nat.le_of_eq g245.symm))
    have f260 : Exa Z T233.heap b49 "com/example/line_to_seat/linetoseat/store/SectionSeats" := (f222.keep K233)
    have ne261 : b49 ≠ b245 := Nat.ne_of_lt (Nat.lt_of_lt_of_le f260.lt (Nat.le_of_eq g245.symm))
    have f262 : Exa Z T233.heap b70 "java/lang/String" := (f229.keep K233)
    have ne263 : b70 ≠ b245 := Nat.ne_of_lt (Nat.lt_of_lt_of_le f262.lt (Nat.le_of_eq g245.symm))
    have f264 : Arv Z T233.heap t141 kb141 .byte (1 : Int32) [(.int i0.toInt8.toInt32)] (.int (0 : Int32)) := (f232.keep K233 (fun q => ne169 (List.mem_singleton.mp q)))
    have ne265 : t141 ≠ b245 := Nat.ne_of_lt (Nat.lt_of_lt_of_le f264.lt (Nat.le_of_eq g245.symm))
    have ne266 : b151 ≠ b245 := Nat.ne_of_lt (Nat.lt_of_lt_of_le Ex233.lt (Nat.le_of_eq g245.symm))
    have ne267 : t233 ≠ b245 := Nat.ne_of_lt (Nat.lt_of_lt_of_le Vu233.lt (Nat.le_of_eq g245.symm))
    have f268 : n0 ≤ T233.heap.size := (Nat.le_trans f198 K233.1)
    have ge_b245 : n0 ≤ b245 := Nat.le_trans f268 (Nat.le_of_eq g245.symm)
    have f269 : Fld Z h245 b245 "java/lang/String" "value" "[B" .null := D245 (Or.inr (hw _ (List.mem_of_getElem? (i := 27) rfl))) (ty := (.array .byte)) (by decide)
    have f270 : Fld Z h245 b245 "java/lang/String" "coder" "B" (.int (0 : Int32)) := D245 (Or.inr (hw _ (List.mem_of_getElem? (i := 29) rfl))) (ty := .byte) (by decide)
    refine own_go st245 ?_
    show own_G p.tables e below T245 (mkF m 310 #[.val (.int p1), .val (.int p2), .val (.int p3), .val (.int p4), .val (.int p5), .val (.int p6), .val (.int (p1 &&& (255 : Int32))), .val (.int (((p1.toUInt32 >>> ((8 : Int32) &&& 31).toUInt32).toInt32) &&& (255 : Int32))), .val (.int (((p1.toUInt32 >>> ((16 : Int32) &&& 31).toUInt32).toInt32) &&& (255 : Int32))), .val (.int (p6 &&& (255 : Int32))), .val (.int ((p5 &&& (2147483647 : Int32)) % (10 : Int32))), .val (.ref b1), .val (.int i0), .val (.int i1), .val (.int i2), .val (.int m0), .val (.int m1), .val (.int m2), .val (.int ex), .unset] [(.ref b245), (.ref b151), (.ref b70), (.ref b49), (.ref b49)]) _
    refine own_go (fun t_ k_ => XS.dup X245.here hx rfl (hb hby at_310) rfl rfl k_) ?_
    show own_G p.tables e below T245 (mkF m 311 #[.val (.int p1), .val (.int p2), .val (.int p3), .val (.int p4), .val (.int p5), .val (.int p6), .val (.int (p1 &&& (255 : Int32))), .val (.int (((p1.toUInt32 >>> ((8 : Int32) &&& 31).toUInt32).toInt32) &&& (255 : Int32))), .val (.int (((p1.toUInt32 >>> ((16 : Int32) &&& 31).toUInt32).toInt32) &&& (255 : Int32))), .val (.int (p6 &&& (255 : Int32))), .val (.int ((p5 &&& (2147483647 : Int32)) % (10 : Int32))), .val (.ref b1), .val (.int i0), .val (.int i1), .val (.int i2), .val (.int m0), .val (.int m1), .val (.int m2), .val (.int ex), .unset] [(.ref b245), (.ref b245), (.ref b151), (.ref b70), (.ref b49), (.ref b49)]) _
    refine own_go (fun t_ k_ => XS.iconst X245.here hx rfl (hb hby at_311) k_) ?_
    show own_G p.tables e below T245 (mkF m 312 #[.val (.int p1), .val (.int p2), .val (.int p3), .val (.int p4), .val (.int p5), .val (.int p6), .val (.int (p1 &&& (255 : Int32))), .val (.int (((p1.toUInt32 >>> ((8 : Int32) &&& 31).toUInt32).toInt32) &&& (255 : Int32))), .val (.int (((p1.toUInt32 >>> ((16 : Int32) &&& 31).toUInt32).toInt32) &&& (255 : Int32))), .val (.int (p6 &&& (255 : Int32))), .val (.int ((p5 &&& (2147483647 : Int32)) % (10 : Int32))), .val (.ref b1), .val (.int i0), .val (.int i1), .val (.int i2), .val (.int m0), .val (.int m1), .val (.int m2), .val (.int ex), .unset] [(.int (1 : Int32)), (.ref b245), (.ref b245), (.ref b151), (.ref b70), (.ref b49), (.ref b49)]) _
    obtain ⟨T271, h271, k271, X271, e271, E271, A271, st271⟩ := newP X245 hx hZ (hw _ (List.mem_of_getElem? (i := 47) rfl)) e245 (g := (mkF m 312 #[.val (.int p1), .val (.int p2), .val (.int p3), .val (.int p4), .val (.int p5), .val (.int p6), .val (.int (p1 &&& (255 : Int32))), .val (.int (((p1.toUInt32 >>> ((8 : Int32) &&& 31).toUInt32).toInt32) &&& (255 : Int32))), .val (.int (((p1.toUInt32 >>> ((16 : Int32) &&& 31).toUInt32).toInt32) &&& (255 : Int32))), .val (.int (p6 &&& (255 : Int32))), .val (.int ((p5 &&& (2147483647 : Int32)) % (10 : Int32))), .val (.ref b1), .val (.int i0), .val (.int i1), .val (.int i2), .val (.int m0), .val (.int m1), .val (.int m2), .val (.int ex), .unset] [(.int (1 : Int32)), (.ref b245), (.ref b245), (.ref b151), (.ref b70), (.ref b49), (.ref b49)])) rfl (hb hby at_312) rfl (by decide) (cap := 1) (by decide) (by decide) (by decide) (by decide)
    obtain ⟨b271, g271⟩ : ∃ z, z = h245.size := ⟨_, rfl⟩
    rw [← g271] at A271 st271
    have f272 : Exa Z h245 b1 "com/example/line_to_seat/linetoseat/store/SectionSeats" := (f246.ext E245)
    have ne273 : b1 ≠ b271 := Nat.ne_of_lt (Nat.lt_of_lt_of_le f272.lt (Nat.le_of_eq g271.symm))
    have f274 : Exa Z h245 a10 "java/lang/String" := (f248.ext E245)
    have ne275 : a10 ≠ b271 := Nat.ne_of_lt (Nat.lt_of_lt_of_le f274.lt (Nat.le_of_eq g271.symm))
    have f276 : Arv Z h245 t10 kb10 .byte (1 : Int32) [(.int (p1 &&& (255 : Int32)).toInt8.toInt32)] (.int (0 : Int32)) := (f250.ext E245)
    have ne277 : t10 ≠ b271 := Nat.ne_of_lt (Nat.lt_of_lt_of_le f276.lt (Nat.le_of_eq g271.symm))
    have f278 : Exa Z h245 a16 "java/lang/String" := (f252.ext E245)
    have ne279 : a16 ≠ b271 := Nat.ne_of_lt (Nat.lt_of_lt_of_le f278.lt (Nat.le_of_eq g271.symm))
    have f280 : Arv Z h245 t16 kb16 .byte (1 : Int32) [(.int (((p1.toUInt32 >>> ((8 : Int32) &&& 31).toUInt32).toInt32) &&& (255 : Int32)).toInt8.toInt32)] (.int (0 : Int32)) := (f254.ext E245)
    have ne281 : t16 ≠ b271 := Nat.ne_of_lt (Nat.lt_of_lt_of_le f280.lt (Nat.le_of_eq g271.symm))
    have f282 : Exa Z h245 a28 "java/lang/String" := (f256.ext E245)
    have ne283 : a28 ≠ b271 := Nat.ne_of_lt (Nat.lt_of_lt_of_le f282.lt (Nat.le_of_eq g271.symm))
    have f284 : Arv Z h245 t28 kb28 .byte (1 : Int32) [(.int (((p1.toUInt32 >>> ((16 : Int32) &&& 31).toUInt32).toInt32) &&& (255 : Int32)).toInt8.toInt32)] (.int (0 : Int32)) := (f258.ext E245)
    have ne285 : t28 ≠ b271 := Nat.ne_of_lt (Nat.lt_of_lt_of_le f284.lt (Nat.le_of_eq g271.symm))
    have f286 : Exa Z h245 b49 "com/example/line_to_seat/linetoseat/store/SectionSeats" := (f260.ext E245)
    have ne287 : b49 ≠ b271 := Nat.ne_of_lt (Nat.lt_of_lt_of_le f286.lt (Nat.le_of_eq g271.symm))
    have f288 : Exa Z h245 b70 "java/lang/String" := (f262.ext E245)
    have ne289 : b70 ≠ b271 := Nat.ne_of_lt (Nat.lt_of_lt_of_le f288.lt (Nat.le_of_eq g271.symm))
    have f290 : Arv Z h245 t141 kb141 .byte (1 : Int32) [(.int i0.toInt8.toInt32)] (.int (0 : Int32)) := (f264.ext E245)
    have ne291 : t141 ≠ b271 := Nat.ne_of_lt (Nat.lt_of_lt_of_le f290.lt (Nat.le_of_eq g271.symm))
    have f292 : Exa Z h245 b151 "java/lang/String" := (Ex233.ext E245)
    have ne293 : b151 ≠ b271 := Nat.ne_of_lt (Nat.lt_of_lt_of_le f292.lt (Nat.le_of_eq g271.symm))
    have f294 : Arv Z h245 t233 kb233 .byte (1 : Int32) [(.int i1.toInt8.toInt32)] (.int (0 : Int32)) := (Vu233.ext E245)
    have ne295 : t233 ≠ b271 := Nat.ne_of_lt (Nat.lt_of_lt_of_le f294.lt (Nat.le_of_eq g271.symm))
    have ne296 : b245 ≠ b271 := Nat.ne_of_lt (Nat.lt_of_lt_of_le A245.lt (Nat.le_of_eq g271.symm))
    have f297 : n0 ≤ h245.size := (Nat.le_trans f268 E245.1)
    have ge_b271 : n0 ≤ b271 := Nat.le_trans f297 (Nat.le_of_eq g271.symm)
    have V271 : Arv Z h271 b271 k271 .char (1 : Int32) [(.int (0 : Int32))] (.int (0 : Int32)) := (Arv.new A271 (by decide)).pad (pad_rep [] (.int (0 : Int32)) 1)
    refine own_go st271 ?_
    show own_G p.tables e below T271 (mkF m 314 #[.val (.int p1), .val (.int p2), .val (.int p3), .val (.int p4), .val (.int p5), .val (.int p6), .val (.int (p1 &&& (255 : Int32))), .val (.int (((p1.toUInt32 >>> ((8 : Int32) &&& 31).toUInt32).toInt32) &&& (255 : Int32))), .val (.int (((p1.toUInt32 >>> ((16 : Int32) &&& 31).toUInt32).toInt32) &&& (255 : Int32))), .val (.int (p6 &&& (255 : Int32))), .val (.int ((p5 &&& (2147483647 : Int32)) % (10 : Int32))), .val (.ref b1), .val (.int i0), .val (.int i1), .val (.int i2), .val (.int m0), .val (.int m1), .val (.int m2), .val (.int ex), .unset] [(.ref b271), (.ref b245), (.ref b245), (.ref b151), (.ref b70), (.ref b49), (.ref b49)]) _
    refine own_go (fun t_ k_ => XS.dup X271.here hx rfl (hb hby at_314) rfl rfl k_) ?_
    show own_G p.tables e below T271 (mkF m 315 #[.val (.int p1), .val (.int p2), .val (.int p3), .val (.int p4), .val (.int p5), .val (.int p6), .val (.int (p1 &&& (255 : Int32))), .val (.int (((p1.toUInt32 >>> ((8 : Int32) &&& 31).toUInt32).toInt32) &&& (255 : Int32))), .val (.int (((p1.toUInt32 >>> ((16 : Int32) &&& 31).toUInt32).toInt32) &&& (255 : Int32))), .val (.int (p6 &&& (255 : Int32))), .val (.int ((p5 &&& (2147483647 : Int32)) % (10 : Int32))), .val (.ref b1), .val (.int i0), .val (.int i1), .val (.int i2), .val (.int m0), .val (.int m1), .val (.int m2), .val (.int ex), .unset] [(.ref b271), (.ref b271), (.ref b245), (.ref b245), (.ref b151), (.ref b70), (.ref b49), (.ref b49)]) _
    refine own_go (fun t_ k_ => XS.iconst X271.here hx rfl (hb hby at_315) k_) ?_
    show own_G p.tables e below T271 (mkF m 316 #[.val (.int p1), .val (.int p2), .val (.int p3), .val (.int p4), .val (.int p5), .val (.int p6), .val (.int (p1 &&& (255 : Int32))), .val (.int (((p1.toUInt32 >>> ((8 : Int32) &&& 31).toUInt32).toInt32) &&& (255 : Int32))), .val (.int (((p1.toUInt32 >>> ((16 : Int32) &&& 31).toUInt32).toInt32) &&& (255 : Int32))), .val (.int (p6 &&& (255 : Int32))), .val (.int ((p5 &&& (2147483647 : Int32)) % (10 : Int32))), .val (.ref b1), .val (.int i0), .val (.int i1), .val (.int i2), .val (.int m0), .val (.int m1), .val (.int m2), .val (.int ex), .unset] [(.int (0 : Int32)), (.ref b271), (.ref b271), (.ref b245), (.ref b245), (.ref b151), (.ref b70), (.ref b49), (.ref b49)]) _
    refine own_go (fun t_ k_ => XS.iload X271.here hx rfl (hb hby at_316) rfl k_) ?_
    show own_G p.tables e below T271 (mkF m 318 #[.val (.int p1), .val (.int p2), .val (.int p3), .val (.int p4), .val (.int p5), .val (.int p6), .val (.int (p1 &&& (255 : Int32))), .val (.int (((p1.toUInt32 >>> ((8 : Int32) &&& 31).toUInt32).toInt32) &&& (255 : Int32))), .val (.int (((p1.toUInt32 >>> ((16 : Int32) &&& 31).toUInt32).toInt32) &&& (255 : Int32))), .val (.int (p6 &&& (255 : Int32))), .val (.int ((p5 &&& (2147483647 : Int32)) % (10 : Int32))), .val (.ref b1), .val (.int i0), .val (.int i1), .val (.int i2), .val (.int m0), .val (.int m1), .val (.int m2), .val (.int ex), .unset] [(.int i2), (.int (0 : Int32)), (.ref b271), (.ref b271), (.ref b245), (.ref b245), (.ref b151), (.ref b70), (.ref b49), (.ref b49)]) _
    obtain ⟨cl298, Ar298, q298, S298, M298, H298, G298⟩ := id V271
    have hin298 : ¬ ((0 : Int32) < 0 ∨ cl298.slots.size ≤ ((0 : Int32)).toNatClampNeg) := inb_of S298 ⟨by decide, by decide⟩
    obtain ⟨T298, h298, X298, e298, W298, st298⟩ := stC X271 hx hZ e271 Ar298 (j := (0 : Int32)) hin298 (g := (mkF m 318 #[.val (.int p1), .val (.int p2), .val (.int p3), .val (.int p4), .val (.int p5), .val (.int p6), .val (.int (p1 &&& (255 : Int32))), .val (.int (((p1.toUInt32 >>> ((8 : Int32) &&& 31).toUInt32).toInt32) &&& (255 : Int32))), .val (.int (((p1.toUInt32 >>> ((16 : Int32) &&& 31).toUInt32).toInt32) &&& (255 : Int32))), .val (.int (p6 &&& (255 : Int32))), .val (.int ((p5 &&& (2147483647 : Int32)) % (10 : Int32))), .val (.ref b1), .val (.int i0), .val (.int i1), .val (.int i2), .val (.int m0), .val (.int m1), .val (.int m2), .val (.int ex), .unset] [(.int i2), (.int (0 : Int32)), (.ref b271), (.ref b271), (.ref b245), (.ref b245), (.ref b151), (.ref b70), (.ref b49), (.ref b49)])) rfl rfl (hb hby at_318)
    have N298 := Fr.snoc X298 N233 ge_b271
    have V298 : Arv Z h298 b271 k271 .char (1 : Int32) [(.int i2)] (.int (0 : Int32)) := by
      have q := Arv.set Ar298 q298 S298 M298 H298 G298 (fits_nar_char _) W298 0 rfl (Nat.le_of_ble_eq_true rfl)
      rw [own_narc hi2] at q
      exact q
    refine own_go st298 ?_
    show own_G p.tables e below T298 (mkF m 319 #[.val (.int p1), .val (.int p2), .val (.int p3), .val (.int p4), .val (.int p5), .val (.int p6), .val (.int (p1 &&& (255 : Int32))), .val (.int (((p1.toUInt32 >>> ((8 : Int32) &&& 31).toUInt32).toInt32) &&& (255 : Int32))), .val (.int (((p1.toUInt32 >>> ((16 : Int32) &&& 31).toUInt32).toInt32) &&& (255 : Int32))), .val (.int (p6 &&& (255 : Int32))), .val (.int ((p5 &&& (2147483647 : Int32)) % (10 : Int32))), .val (.ref b1), .val (.int i0), .val (.int i1), .val (.int i2), .val (.int m0), .val (.int m1), .val (.int m2), .val (.int ex), .unset] [(.ref b271), (.ref b245), (.ref b245), (.ref b151), (.ref b70), (.ref b49), (.ref b49)]) _
    have hp299 : ∀ c ∈ ([i2] : List Int32), ¬ c < 0 ∧ ¬ (255 : Int32) < c := by
      intro c hc; cases List.mem_singleton.mp hc; exact hi2
    have f300 : n0 ≤ h298.size := (Nat.le_trans (Nat.le_trans f297 E271.1) (Keep.of_wr W298).1)
    have f301 : Sta Z h298 "java/lang/String" "COMPACT_STRINGS" "Z" (.int cs) := ((((own_sk f199 K233 (own_pl1 (own_pl f200))).ext E245).ext E271).wr W298)
    have f302 : Exa Z h298 b245 "java/lang/String" := ((A245.ext E271).wr W298)
    have f303 : Fld Z h298 b245 "java/lang/String" "value" "[B" .null := ((f269.ext E271).other W298 (Or.inl ne296))
    have f304 : Fld Z h298 b245 "java/lang/String" "coder" "B" (.int (0 : Int32)) := ((f270.ext E271).other W298 (Or.inl ne296))
    have f305 : Exa Z h298 b1 "com/example/line_to_seat/linetoseat/store/SectionSeats" := ((f272.ext E271).wr W298)
    have f306 : Fld Z h298 b1 "com/example/line_to_seat/linetoseat/store/SectionSeats" "sectionId" "Ljava/lang/String;" (.ref a10) := ((((f204.keep K233 (fun q => ne153 (List.mem_singleton.mp q))).ext E245).ext E271).other W298 (Or.inl ne273))
    have f307 : Fld Z h298 b1 "com/example/line_to_seat/linetoseat/store/SectionSeats" "course" "Ljava/lang/String;" (.ref a16) := ((((f205.keep K233 (fun q => ne153 (List.mem_singleton.mp q))).ext E245).ext E271).other W298 (Or.inl ne273))
    have f308 : Fld Z h298 b1 "com/example/line_to_seat/linetoseat/store/SectionSeats" "sectionCode" "Ljava/lang/String;" (.ref a28) := ((((f206.keep K233 (fun q => ne153 (List.mem_singleton.mp q))).ext E245).ext E271).other W298 (Or.inl ne273))
    have f309 : Fld Z h298 b1 "com/example/line_to_seat/linetoseat/store/SectionSeats" "seats" "I" (.int p2) := ((((f207.keep K233 (fun q => ne153 (List.mem_singleton.mp q))).ext E245).ext E271).other W298 (Or.inl ne273))
    have f310 : Fld Z h298 b1 "com/example/line_to_seat/linetoseat/store/SectionSeats" "enrolled" "I" (.int p3) := ((((f208.keep K233 (fun q => ne153 (List.mem_singleton.mp q))).ext E245).ext E271).other W298 (Or.inl ne273))
    have f311 : Fld Z h298 b1 "com/example/line_to_seat/linetoseat/store/SectionSeats" "waitlisted" "I" (.int p4) := ((((f209.keep K233 (fun q => ne153 (List.mem_singleton.mp q))).ext E245).ext E271).other W298 (Or.inl ne273))
    have f312 : Exa Z h298 a10 "java/lang/String" := ((f274.ext E271).wr W298)
    have f313 : Fld Z h298 a10 "java/lang/String" "coder" "B" (.int (0 : Int32)) := ((((f211.keep K233 (fun q => ne155 (List.mem_singleton.mp q))).ext E245).ext E271).other W298 (Or.inl ne275))
    have f314 : Fld Z h298 a10 "java/lang/String" "value" "[B" (.ref t10) := ((((f212.keep K233 (fun q => ne155 (List.mem_singleton.mp q))).ext E245).ext E271).other W298 (Or.inl ne275))
    have f315 : Arv Z h298 t10 kb10 .byte (1 : Int32) [(.int (p1 &&& (255 : Int32)).toInt8.toInt32)] (.int (0 : Int32)) := ((f276.ext E271).other W298 ne277)
    have f316 : Exa Z h298 a16 "java/lang/String" := ((f278.ext E271).wr W298)
    have f317 : Fld Z h298 a16 "java/lang/String" "coder" "B" (.int (0 : Int32)) := ((((f215.keep K233 (fun q => ne159 (List.mem_singleton.mp q))).ext E245).ext E271).other W298 (Or.inl ne279))
    have f318 : Fld Z h298 a16 "java/lang/String" "value" "[B" (.ref t16) := ((((f216.keep K233 (fun q => ne159 (List.mem_singleton.mp q))).ext E245).ext E271).other W298 (Or.inl ne279))
    have f319 : Arv Z h298 t16 kb16 .byte (1 : Int32) [(.int (((p1.toUInt32 >>> ((8 : Int32) &&& 31).toUInt32).toInt32) &&& (255 : Int32)).toInt8.toInt32)] (.int (0 : Int32)) := ((f280.ext E271).other W298 ne281)
    have f320 : Exa Z h298 a28 "java/lang/String" := ((f282.ext E271).wr W298)
    have f321 : Fld Z h298 a28 "java/lang/String" "coder" "B" (.int (0 : Int32)) := ((((f219.keep K233 (fun q => ne163 (List.mem_singleton.mp q))).ext E245).ext E271).other W298 (Or.inl ne283))
    have f322 : Fld Z h298 a28 "java/lang/String" "value" "[B" (.ref t28) := ((((f220.keep K233 (fun q => ne163 (List.mem_singleton.mp q))).ext E245).ext E271).other W298 (Or.inl ne283))
    have f323 : Arv Z h298 t28 kb28 .byte (1 : Int32) [(.int (((p1.toUInt32 >>> ((16 : Int32) &&& 31).toUInt32).toInt32) &&& (255 : Int32)).toInt8.toInt32)] (.int (0 : Int32)) := ((f284.ext E271).other W298 ne285)
    have f324 : Exa Z h298 b49 "com/example/line_to_seat/linetoseat/store/SectionSeats" := ((f286.ext E271).wr W298)
    have f325 : Fld Z h298 b49 "com/example/line_to_seat/linetoseat/store/SectionSeats" "sectionId" "Ljava/lang/String;" .null := ((((f223.keep K233 (fun q => ne167 (List.mem_singleton.mp q))).ext E245).ext E271).other W298 (Or.inl ne287))
    have f326 : Fld Z h298 b49 "com/example/line_to_seat/linetoseat/store/SectionSeats" "course" "Ljava/lang/String;" .null := ((((f224.keep K233 (fun q => ne167 (List.mem_singleton.mp q))).ext E245).ext E271).other W298 (Or.inl ne287))
    have f327 : Fld Z h298 b49 "com/example/line_to_seat/linetoseat/store/SectionSeats" "sectionCode" "Ljava/lang/String;" .null := ((((f225.keep K233 (fun q => ne167 (List.mem_singleton.mp q))).ext E245).ext E271).other W298 (Or.inl ne287))
    have f328 : Fld Z h298 b49 "com/example/line_to_seat/linetoseat/store/SectionSeats" "seats" "I" (.int (0 : Int32)) := ((((f226.keep K233 (fun q => ne167 (List.mem_singleton.mp q))).ext E245).ext E271).other W298 (Or.inl ne287))
    have f329 : Fld Z h298 b49 "com/example/line_to_seat/linetoseat/store/SectionSeats" "enrolled" "I" (.int (0 : Int32)) := ((((f227.keep K233 (fun q => ne167 (List.mem_singleton.mp q))).ext E245).ext E271).other W298 (Or.inl ne287))
    have f330 : Fld Z h298 b49 "com/example/line_to_seat/linetoseat/store/SectionSeats" "waitlisted" "I" (.int (0 : Int32)) := ((((f228.keep K233 (fun q => ne167 (List.mem_singleton.mp q))).ext E245).ext E271).other W298 (Or.inl ne287))
    have f331 : Exa Z h298 b70 "java/lang/String" := ((f288.ext E271).wr W298)
    have f332 : Fld Z h298 b70 "java/lang/String" "coder" "B" (.int (0 : Int32)) := ((((f230.keep K233 (fun q => ne168 (List.mem_singleton.mp q))).ext E245).ext E271).other W298 (Or.inl ne289))
    have f333 : Fld Z h298 b70 "java/lang/String" "value" "[B" (.ref t141) := ((((f231.keep K233 (fun q => ne168 (List.mem_singleton.mp q))).ext E245).ext E271).other W298 (Or.inl ne289))
    have f334 : Arv Z h298 t141 kb141 .byte (1 : Int32) [(.int i0.toInt8.toInt32)] (.int (0 : Int32)) := ((f290.ext E271).other W298 ne291)
    have f335 : Exa Z h298 b151 "java/lang/String" := ((f292.ext E271).wr W298)
    have f336 : Fld Z h298 b151 "java/lang/String" "coder" "B" (.int (0 : Int32)) := (((Fc233.ext E245).ext E271).other W298 (Or.inl ne293))
    have f337 : Fld Z h298 b151 "java/lang/String" "value" "[B" (.ref t233) := (((Fv233.ext E245).ext E271).other W298 (Or.inl ne293))
    have f338 : Arv Z h298 t233 kb233 .byte (1 : Int32) [(.int i1.toInt8.toInt32)] (.int (0 : Int32)) := ((f294.ext E271).other W298 ne295)
    obtain ⟨_, _, ⟨T339, L339, k339, n339⟩, -, X339, ⟨Lc339, hQ339, l339, y339, z339⟩, st339⟩ := X298.specialBack hx (y := (⟨"java/lang/String", "<init>", "([C)V"⟩ : MethodName)) rfl hown (mvT hZ (hw _ (List.mem_of_getElem? (i := 48) rfl))) (mvT hZ (hw _ (List.mem_of_getElem? (i := 49) rfl))) (mvT hZ (hw _ (List.mem_of_getElem? (i := 50) rfl))) (by decide) (StrChars.Road.backV (W := 5) hZ hws (kI := 4) (hw _ (List.mem_of_getElem? (i := 14) rfl)) (cs := ([i2] : List Int32)) (bs := (([i2] : List Int32).map (fun c => c.toInt8.toInt32))) (n := 1) ge_b245 f300 f302 f303 f304 V298 f301 hcs rfl rfl (by decide) (by decide) hp299 rfl (by decide) (by decide)) (g := (mkF m 319 #[.val (.int p1), .val (.int p2), .val (.int p3), .val (.int p4), .val (.int p5), .val (.int p6), .val (.int (p1 &&& (255 : Int32))), .val (.int (((p1.toUInt32 >>> ((8 : Int32) &&& 31).toUInt32).toInt32) &&& (255 : Int32))), .val (.int (((p1.toUInt32 >>> ((16 : Int32) &&& 31).toUInt32).toInt32) &&& (255 : Int32))), .val (.int (p6 &&& (255 : Int32))), .val (.int ((p5 &&& (2147483647 : Int32)) % (10 : Int32))), .val (.ref b1), .val (.int i0), .val (.int i1), .val (.int i2), .val (.int m0), .val (.int m1), .val (.int m2), .val (.int ex), .unset] [(.ref b271), (.ref b245), (.ref b245), (.ref b151), (.ref b70), (.ref b49), (.ref b49)])) rfl (by rw [hml]; rfl) (Steps.refl _) (a := b245) (argsL := [(.ref b271)]) (rest := [(.ref b245), (.ref b151), (.ref b70), (.ref b49), (.ref b49)]) (lenOf own_pd6 rfl) rfl (by show 2 * 0 + _ ≤ _; exact Nat.le_of_eq rfl) (hb hby at_319) (fun _ _ => ⟨rfl, e298, (by decide : 16 + 1 ≤ _), (by decide : 44 + 1 ≤ _)⟩)
    dsimp only [Pt.U, Pt.locs, Pt.cells, Pt.slots] at X339 l339 y339 z339 st339 hQ339
    subst l339 y339 z339
    obtain ⟨rfl, N339q, K339, Ex339, Fc339, t339, kb339, gt339, szt339, nt339, Fv339, Vt339⟩ := hQ339
    have N339 := Fr.app N298 N339q
    refine own_go (fun t_ k_ => st339.trans k_) ?_
    show own_G p.tables e below T339 (mkF m 322 #[.val (.int p1), .val (.int p2), .val (.int p3), .val (.int p4), .val (.int p5), .val (.int p6), .val (.int (p1 &&& (255 : Int32))), .val (.int (((p1.toUInt32 >>> ((8 : Int32) &&& 31).toUInt32).toInt32) &&& (255 : Int32))), .val (.int (((p1.toUInt32 >>> ((16 : Int32) &&& 31).toUInt32).toInt32) &&& (255 : Int32))), .val (.int (p6 &&& (255 : Int32))), .val (.int ((p5 &&& (2147483647 : Int32)) % (10 : Int32))), .val (.ref b1), .val (.int i0), .val (.int i1), .val (.int i2), .val (.int m0), .val (.int m1), .val (.int m2), .val (.int ex), .unset] [(.ref b245), (.ref b151), (.ref b70), (.ref b49), (.ref b49)]) _
    have ne340 : b1 ≠ t339 := Nat.ne_of_lt (Nat.lt_of_lt_of_le f305.lt szt339)
    have ne341 : a10 ≠ t339 := Nat.ne_of_lt (Nat.lt_of_lt_of_le f312.lt szt339)
    have ne342 : t10 ≠ t339 := Nat.ne_of_lt (Nat.lt_of_lt_of_le f315.lt szt339)
    have ne343 : a16 ≠ t339 := Nat.ne_of_lt (Nat.lt_of_lt_of_le f316.lt szt339)
    have ne344 : t16 ≠ t339 := Nat.ne_of_lt (Nat.lt_of_lt_of_le f319.lt szt339)
    have ne345 : a28 ≠ t339 := Nat.ne_of_lt (Nat.lt_of_lt_of_le f320.lt szt339)
    have ne346 : t28 ≠ t339 := Nat.ne_of_lt (Nat.lt_of_lt_of_le f323.lt szt339)
    have ne347 : b49 ≠ t339 := Nat.ne_of_lt (Nat.lt_of_lt_of_le f324.lt szt339)
    have ne348 : b70 ≠ t339 := Nat.ne_of_lt (Nat.lt_of_lt_of_le f331.lt szt339)
    have ne349 : t141 ≠ t339 := Nat.ne_of_lt (Nat.lt_of_lt_of_le f334.lt szt339)
    have ne350 : b151 ≠ t339 := Nat.ne_of_lt (Nat.lt_of_lt_of_le f335.lt szt339)
    have ne351 : t233 ≠ t339 := Nat.ne_of_lt (Nat.lt_of_lt_of_le f338.lt szt339)
    have ne352 : b271 ≠ t339 := Nat.ne_of_lt (Nat.lt_of_lt_of_le V298.lt szt339)
    have nx339 : b245 ≠ t339 := fun q => nt339 q.symm
    have Vu339 : Arv Z T339.heap t339 kb339 .byte (1 : Int32) [(.int i2.toInt8.toInt32)] (.int (0 : Int32)) := Vt339
    refine own_go (fun t_ k_ => XS.iload X339.here hx rfl (hb hby at_322) rfl k_) ?_
    show own_G p.tables e below T339 (mkF m 324 #[.val (.int p1), .val (.int p2), .val (.int p3), .val (.int p4), .val (.int p5), .val (.int p6), .val (.int (p1 &&& (255 : Int32))), .val (.int (((p1.toUInt32 >>> ((8 : Int32) &&& 31).toUInt32).toInt32) &&& (255 : Int32))), .val (.int (((p1.toUInt32 >>> ((16 : Int32) &&& 31).toUInt32).toInt32) &&& (255 : Int32))), .val (.int (p6 &&& (255 : Int32))), .val (.int ((p5 &&& (2147483647 : Int32)) % (10 : Int32))), .val (.ref b1), .val (.int i0), .val (.int i1), .val (.int i2), .val (.int m0), .val (.int m1), .val (.int m2), .val (.int ex), .unset] [(.int m0), (.ref b245), (.ref b151), (.ref b70), (.ref b49), (.ref b49)]) _
    refine own_go (fun t_ k_ => XS.iload X339.here hx rfl (hb hby at_324) rfl k_) ?_
    show own_G p.tables e below T339 (mkF m 326 #[.val (.int p1), .val (.int p2), .val (.int p3), .val (.int p4), .val (.int p5), .val (.int p6), .val (.int (p1 &&& (255 : Int32))), .val (.int (((p1.toUInt32 >>> ((8 : Int32) &&& 31).toUInt32).toInt32) &&& (255 : Int32))), .val (.int (((p1.toUInt32 >>> ((16 : Int32) &&& 31).toUInt32).toInt32) &&& (255 : Int32))), .val (.int (p6 &&& (255 : Int32))), .val (.int ((p5 &&& (2147483647 : Int32)) % (10 : Int32))), .val (.ref b1), .val (.int i0), .val (.int i1), .val (.int i2), .val (.int m0), .val (.int m1), .val (.int m2), .val (.int ex), .unset] [(.int m1), (.int m0), (.ref b245), (.ref b151), (.ref b70), (.ref b49), (.ref b49)]) _
    refine own_go (fun t_ k_ => XS.iload X339.here hx rfl (hb hby at_326) rfl k_) ?_
    show own_G p.tables e below T339 (mkF m 328 #[.val (.int p1), .val (.int p2), .val (.int p3), .val (.int p4), .val (.int p5), .val (.int p6), .val (.int (p1 &&& (255 : Int32))), .val (.int (((p1.toUInt32 >>> ((8 : Int32) &&& 31).toUInt32).toInt32) &&& (255 : Int32))), .val (.int (((p1.toUInt32 >>> ((16 : Int32) &&& 31).toUInt32).toInt32) &&& (255 : Int32))), .val (.int (p6 &&& (255 : Int32))), .val (.int ((p5 &&& (2147483647 : Int32)) % (10 : Int32))), .val (.ref b1), .val (.int i0), .val (.int i1), .val (.int i2), .val (.int m0), .val (.int m1), .val (.int m2), .val (.int ex), .unset] [(.int m2), (.int m1), (.int m0), (.ref b245), (.ref b151), (.ref b70), (.ref b49), (.ref b49)]) _
    have f353 : n0 ≤ T339.heap.size := (Nat.le_trans f300 K339.1)
    have f354 : Exa Z T339.heap b49 "com/example/line_to_seat/linetoseat/store/SectionSeats" := (f324.keep K339)
    have f355 : Sta Z T339.heap "java/lang/String" "COMPACT_STRINGS" "Z" (.int cs) := (own_sk f301 K339 (own_pl1 (own_pl f302)))
    have f356 : Fld Z T339.heap b49 "com/example/line_to_seat/linetoseat/store/SectionSeats" "sectionId" "Ljava/lang/String;" .null := (f325.keep K339 (fun q => ne261 (List.mem_singleton.mp q)))
    have f357 : Fld Z T339.heap b49 "com/example/line_to_seat/linetoseat/store/SectionSeats" "course" "Ljava/lang/String;" .null := (f326.keep K339 (fun q => ne261 (List.mem_singleton.mp q)))
    have f358 : Fld Z T339.heap b49 "com/example/line_to_seat/linetoseat/store/SectionSeats" "sectionCode" "Ljava/lang/String;" .null := (f327.keep K339 (fun q => ne261 (List.mem_singleton.mp q)))
    have f359 : Fld Z T339.heap b49 "com/example/line_to_seat/linetoseat/store/SectionSeats" "seats" "I" (.int (0 : Int32)) := (f328.keep K339 (fun q => ne261 (List.mem_singleton.mp q)))
    have f360 : Fld Z T339.heap b49 "com/example/line_to_seat/linetoseat/store/SectionSeats" "enrolled" "I" (.int (0 : Int32)) := (f329.keep K339 (fun q => ne261 (List.mem_singleton.mp q)))
    have f361 : Fld Z T339.heap b49 "com/example/line_to_seat/linetoseat/store/SectionSeats" "waitlisted" "I" (.int (0 : Int32)) := (f330.keep K339 (fun q => ne261 (List.mem_singleton.mp q)))
    obtain ⟨_, _, ⟨T362, L362, k362, n362⟩, -, X362, ⟨Lc362, hQ362, l362, y362, z362⟩, st362⟩ := X339.specialBack hx (y := (⟨"com/example/line_to_seat/linetoseat/store/SectionSeats", "<init>", "(Ljava/lang/String;Ljava/lang/String;Ljava/lang/String;III)V"⟩ : MethodName)) rfl hown (mvT hZ (hw _ (List.mem_of_getElem? (i := 30) rfl))) (mvT hZ (hw _ (List.mem_of_getElem? (i := 31) rfl))) (mvT hZ (hw _ (List.mem_of_getElem? (i := 32) rfl))) (by decide) (backOf (W := 1) (rm6 l Z a0 hw [] b49 b70 b151 b245 m0 m1 m2 T339.heap n0 f353 ge_b49 f354 f356 f357 f358 f359 f360 f361) hZ (hw _ (List.mem_of_getElem? (i := 32) rfl)) (hw _ (List.mem_of_getElem? (i := 3) rfl)) (by decide) (by decide)) (g := (mkF m 328 #[.val (.int p1), .val (.int p2), .val (.int p3), .val (.int p4), .val (.int p5), .val (.int p6), .val (.int (p1 &&& (255 : Int32))), .val (.int (((p1.toUInt32 >>> ((8 : Int32) &&& 31).toUInt32).toInt32) &&& (255 : Int32))), .val (.int (((p1.toUInt32 >>> ((16 : Int32) &&& 31).toUInt32).toInt32) &&& (255 : Int32))), .val (.int (p6 &&& (255 : Int32))), .val (.int ((p5 &&& (2147483647 : Int32)) % (10 : Int32))), .val (.ref b1), .val (.int i0), .val (.int i1), .val (.int i2), .val (.int m0), .val (.int m1), .val (.int m2), .val (.int ex), .unset] [(.int m2), (.int m1), (.int m0), (.ref b245), (.ref b151), (.ref b70), (.ref b49), (.ref b49)])) rfl (by rw [hml]; rfl) (Steps.refl _) (a := b49) (argsL := [(.ref b70), (.ref b151), (.ref b245), (.int m0), (.int m1), (.int m2)]) (rest := [(.ref b49)]) (lenOf own_pd5 rfl) rfl (by show 2 * 0 + _ ≤ _; exact Nat.le_of_eq rfl) (hb hby at_328) (fun _ _ => ⟨rfl, rfl, (by decide : 17 + 0 ≤ _), (by decide : 45 + 0 ≤ _)⟩)
    dsimp only [Pt.U, Pt.locs, Pt.cells, Pt.slots] at X362 l362 y362 z362 st362 hQ362
    subst l362 y362 z362
    obtain ⟨rfl, N362q, K362, Ex362, u0_362, u1_362, u2_362, u3_362, u4_362, u5_362⟩ := hQ362
    have N362 := Fr.app N339 N362q
    refine own_go (fun t_ k_ => st362.trans k_) ?_
    show own_G p.tables e below T362 (mkF m 331 #[.val (.int p1), .val (.int p2), .val (.int p3), .val (.int p4), .val (.int p5), .val (.int p6), .val (.int (p1 &&& (255 : Int32))), .val (.int (((p1.toUInt32 >>> ((8 : Int32) &&& 31).toUInt32).toInt32) &&& (255 : Int32))), .val (.int (((p1.toUInt32 >>> ((16 : Int32) &&& 31).toUInt32).toInt32) &&& (255 : Int32))), .val (.int (p6 &&& (255 : Int32))), .val (.int ((p5 &&& (2147483647 : Int32)) % (10 : Int32))), .val (.ref b1), .val (.int i0), .val (.int i1), .val (.int i2), .val (.int m0), .val (.int m1), .val (.int m2), .val (.int ex), .unset] [(.ref b49)]) _
    refine own_go (fun t_ k_ => XS.astore X362.here hx rfl (hb hby at_331) rfl rfl (l' := #[.val (.int p1), .val (.int p2), .val (.int p3), .val (.int p4), .val (.int p5), .val (.int p6), .val (.int (p1 &&& (255 : Int32))), .val (.int (((p1.toUInt32 >>> ((8 : Int32) &&& 31).toUInt32).toInt32) &&& (255 : Int32))), .val (.int (((p1.toUInt32 >>> ((16 : Int32) &&& 31).toUInt32).toInt32) &&& (255 : Int32))), .val (.int (p6 &&& (255 : Int32))), .val (.int ((p5 &&& (2147483647 : Int32)) % (10 : Int32))), .val (.ref b1), .val (.int i0), .val (.int i1), .val (.int i2), .val (.int m0), .val (.int m1), .val (.int m2), .val (.int ex), .val (.ref b49)]) rfl k_) ?_
    show own_G p.tables e below T362 (mkF m 333 #[.val (.int p1), .val (.int p2), .val (.int p3), .val (.int p4), .val (.int p5), .val (.int p6), .val (.int (p1 &&& (255 : Int32))), .val (.int (((p1.toUInt32 >>> ((8 : Int32) &&& 31).toUInt32).toInt32) &&& (255 : Int32))), .val (.int (((p1.toUInt32 >>> ((16 : Int32) &&& 31).toUInt32).toInt32) &&& (255 : Int32))), .val (.int (p6 &&& (255 : Int32))), .val (.int ((p5 &&& (2147483647 : Int32)) % (10 : Int32))), .val (.ref b1), .val (.int i0), .val (.int i1), .val (.int i2), .val (.int m0), .val (.int m1), .val (.int m2), .val (.int ex), .val (.ref b49)] []) _
    refine own_go (fun t_ k_ => XS.aload X362.here hx rfl (hb hby at_333) rfl rfl k_) ?_
    show own_G p.tables e below T362 (mkF m 335 #[.val (.int p1), .val (.int p2), .val (.int p3), .val (.int p4), .val (.int p5), .val (.int p6), .val (.int (p1 &&& (255 : Int32))), .val (.int (((p1.toUInt32 >>> ((8 : Int32) &&& 31).toUInt32).toInt32) &&& (255 : Int32))), .val (.int (((p1.toUInt32 >>> ((16 : Int32) &&& 31).toUInt32).toInt32) &&& (255 : Int32))), .val (.int (p6 &&& (255 : Int32))), .val (.int ((p5 &&& (2147483647 : Int32)) % (10 : Int32))), .val (.ref b1), .val (.int i0), .val (.int i1), .val (.int i2), .val (.int m0), .val (.int m1), .val (.int m2), .val (.int ex), .val (.ref b49)] [(.ref b1)]) _
    refine own_go (fun t_ k_ => XS.aload X362.here hx rfl (hb hby at_335) rfl rfl k_) ?_
    show own_G p.tables e below T362 (mkF m 337 #[.val (.int p1), .val (.int p2), .val (.int p3), .val (.int p4), .val (.int p5), .val (.int p6), .val (.int (p1 &&& (255 : Int32))), .val (.int (((p1.toUInt32 >>> ((8 : Int32) &&& 31).toUInt32).toInt32) &&& (255 : Int32))), .val (.int (((p1.toUInt32 >>> ((16 : Int32) &&& 31).toUInt32).toInt32) &&& (255 : Int32))), .val (.int (p6 &&& (255 : Int32))), .val (.int ((p5 &&& (2147483647 : Int32)) % (10 : Int32))), .val (.ref b1), .val (.int i0), .val (.int i1), .val (.int i2), .val (.int m0), .val (.int m1), .val (.int m2), .val (.int ex), .val (.ref b49)] [(.ref b49), (.ref b1)]) _
    have f363 : n0 ≤ T362.heap.size := (Nat.le_trans f353 K362.1)
    have f364 : Sta Z T362.heap "java/lang/String" "COMPACT_STRINGS" "Z" (.int cs) := (own_sk f355 K362 (own_pl1 (own_pl f354)))
    have f365 : Exa Z T362.heap b1 "com/example/line_to_seat/linetoseat/store/SectionSeats" := ((f305.keep K339).keep K362)
    have f366 : Fld Z T362.heap b1 "com/example/line_to_seat/linetoseat/store/SectionSeats" "sectionId" "Ljava/lang/String;" (.ref a10) := ((f306.keep K339 (fun q => ne247 (List.mem_singleton.mp q))).keep K362 (fun q => ne50 (List.mem_singleton.mp q)))
    have f367 : Fld Z T362.heap b1 "com/example/line_to_seat/linetoseat/store/SectionSeats" "course" "Ljava/lang/String;" (.ref a16) := ((f307.keep K339 (fun q => ne247 (List.mem_singleton.mp q))).keep K362 (fun q => ne50 (List.mem_singleton.mp q)))
    have f368 : Fld Z T362.heap b1 "com/example/line_to_seat/linetoseat/store/SectionSeats" "sectionCode" "Ljava/lang/String;" (.ref a28) := ((f308.keep K339 (fun q => ne247 (List.mem_singleton.mp q))).keep K362 (fun q => ne50 (List.mem_singleton.mp q)))
    have f369 : Fld Z T362.heap b1 "com/example/line_to_seat/linetoseat/store/SectionSeats" "seats" "I" (.int p2) := ((f309.keep K339 (fun q => ne247 (List.mem_singleton.mp q))).keep K362 (fun q => ne50 (List.mem_singleton.mp q)))
    have f370 : Fld Z T362.heap b1 "com/example/line_to_seat/linetoseat/store/SectionSeats" "enrolled" "I" (.int p3) := ((f310.keep K339 (fun q => ne247 (List.mem_singleton.mp q))).keep K362 (fun q => ne50 (List.mem_singleton.mp q)))
    have f371 : Fld Z T362.heap b1 "com/example/line_to_seat/linetoseat/store/SectionSeats" "waitlisted" "I" (.int p4) := ((f311.keep K339 (fun q => ne247 (List.mem_singleton.mp q))).keep K362 (fun q => ne50 (List.mem_singleton.mp q)))
    have f372 : Exa Z T362.heap a10 "java/lang/String" := ((f312.keep K339).keep K362)
    have f373 : Fld Z T362.heap a10 "java/lang/String" "coder" "B" (.int (0 : Int32)) := ((f313.keep K339 (fun q => ne249 (List.mem_singleton.mp q))).keep K362 (fun q => ne52 (List.mem_singleton.mp q)))
    have f374 : Fld Z T362.heap a10 "java/lang/String" "value" "[B" (.ref t10) := ((f314.keep K339 (fun q => ne249 (List.mem_singleton.mp q))).keep K362 (fun q => ne52 (List.mem_singleton.mp q)))
    have f375 : Arv Z T362.heap t10 kb10 .byte (1 : Int32) [(.int (p1 &&& (255 : Int32)).toInt8.toInt32)] (.int (0 : Int32)) := ((f315.keep K339 (fun q => ne251 (List.mem_singleton.mp q))).keep K362 (fun q => ne54 (List.mem_singleton.mp q)))
    have f376 : Exa Z T362.heap a16 "java/lang/String" := ((f316.keep K339).keep K362)
    have f377 : Fld Z T362.heap a16 "java/lang/String" "coder" "B" (.int (0 : Int32)) := ((f317.keep K339 (fun q => ne253 (List.mem_singleton.mp q))).keep K362 (fun q => ne56 (List.mem_singleton.mp q)))
    have f378 : Fld Z T362.heap a16 "java/lang/String" "value" "[B" (.ref t16) := ((f318.keep K339 (fun q => ne253 (List.mem_singleton.mp q))).keep K362 (fun q => ne56 (List.mem_singleton.mp q)))
    have f379 : Arv Z T362.heap t16 kb16 .byte (1 : Int32) [(.int (((p1.toUInt32 >>> ((8 : Int32) &&& 31).toUInt32).toInt32) &&& (255 : Int32)).toInt8.toInt32)] (.int (0 : Int32)) := ((f319.keep K339 (fun q => ne255 (List.mem_singleton.mp q))).keep K362 (fun q => ne58 (List.mem_singleton.mp q)))
    have f380 : Exa Z T362.heap a28 "java/lang/String" := ((f320.keep K339).keep K362)
    have f381 : Fld Z T362.heap a28 "java/lang/String" "coder" "B" (.int (0 : Int32)) := ((f321.keep K339 (fun q => ne257 (List.mem_singleton.mp q))).keep K362 (fun q => ne60 (List.mem_singleton.mp q)))
    have f382 : Fld Z T362.heap a28 "java/lang/String" "value" "[B" (.ref t28) := ((f322.keep K339 (fun q => ne257 (List.mem_singleton.mp q))).keep K362 (fun q => ne60 (List.mem_singleton.mp q)))
    have f383 : Arv Z T362.heap t28 kb28 .byte (1 : Int32) [(.int (((p1.toUInt32 >>> ((16 : Int32) &&& 31).toUInt32).toInt32) &&& (255 : Int32)).toInt8.toInt32)] (.int (0 : Int32)) := ((f323.keep K339 (fun q => ne259 (List.mem_singleton.mp q))).keep K362 (fun q => ne62 (List.mem_singleton.mp q)))
    have f384 : Exa Z T362.heap b70 "java/lang/String" := ((f331.keep K339).keep K362)
    have f385 : Fld Z T362.heap b70 "java/lang/String" "coder" "B" (.int (0 : Int32)) := ((f332.keep K339 (fun q => ne263 (List.mem_singleton.mp q))).keep K362 (fun q => (Ne.symm ne85) (List.mem_singleton.mp q)))
    have f386 : Fld Z T362.heap b70 "java/lang/String" "value" "[B" (.ref t141) := ((f333.keep K339 (fun q => ne263 (List.mem_singleton.mp q))).keep K362 (fun q => (Ne.symm ne85) (List.mem_singleton.mp q)))
    have f387 : Arv Z T362.heap t141 kb141 .byte (1 : Int32) [(.int i0.toInt8.toInt32)] (.int (0 : Int32)) := ((f334.keep K339 (fun q => ne265 (List.mem_singleton.mp q))).keep K362 (fun q => (Ne.symm ne149) (List.mem_singleton.mp q)))
    have f388 : Exa Z T362.heap b151 "java/lang/String" := ((f335.keep K339).keep K362)
    have f389 : Fld Z T362.heap b151 "java/lang/String" "coder" "B" (.int (0 : Int32)) := ((f336.keep K339 (fun q => ne266 (List.mem_singleton.mp q))).keep K362 (fun q => (Ne.symm ne167) (List.mem_singleton.mp q)))
    have f390 : Fld Z T362.heap b151 "java/lang/String" "value" "[B" (.ref t233) := ((f337.keep K339 (fun q => ne266 (List.mem_singleton.mp q))).keep K362 (fun q => (Ne.symm ne167) (List.mem_singleton.mp q)))
    have f391 : Arv Z T362.heap t233 kb233 .byte (1 : Int32) [(.int i1.toInt8.toInt32)] (.int (0 : Int32)) := ((f338.keep K339 (fun q => ne267 (List.mem_singleton.mp q))).keep K362 (fun q => (Ne.symm ne241) (List.mem_singleton.mp q)))
    have f392 : Exa Z T362.heap b245 "java/lang/String" := (Ex339.keep K362)
    have f393 : Fld Z T362.heap b245 "java/lang/String" "coder" "B" (.int (0 : Int32)) := (Fc339.keep K362 (fun q => (Ne.symm ne261) (List.mem_singleton.mp q)))
    have f394 : Fld Z T362.heap b245 "java/lang/String" "value" "[B" (.ref t339) := (Fv339.keep K362 (fun q => (Ne.symm ne261) (List.mem_singleton.mp q)))
    have f395 : Arv Z T362.heap t339 kb339 .byte (1 : Int32) [(.int i2.toInt8.toInt32)] (.int (0 : Int32)) := (Vu339.keep K362 (fun q => (Ne.symm ne347) (List.mem_singleton.mp q)))
    obtain ⟨cq396, kq396, q396a, q396b, q396c⟩ := isOf hZ rfl f365
    obtain ⟨_, _, ⟨T396, L396, k396, n396⟩, -, X396, ⟨Lc396, hQ396, l396, y396, z396⟩, st396⟩ := X362.virtualBack hx (y := (⟨"com/example/line_to_seat/linetoseat/store/SectionSeats", "equals", "(Ljava/lang/Object;)Z"⟩ : MethodName)) (z := (⟨"com/example/line_to_seat/linetoseat/store/SectionSeats", "equals", "(Ljava/lang/Object;)Z"⟩ : MethodName)) hown (mvT hZ (hw _ (List.mem_of_getElem? (i := 64) rfl))) (mvT hZ (hw _ (List.mem_of_getElem? (i := 65) rfl))) (notFace_of_selects (args := #[]) (mvT hZ (hw _ (List.mem_of_getElem? (i := 67) rfl)))) (mvT hZ (hw _ (List.mem_of_getElem? (i := 67) rfl))) (mvT hZ (hw _ (List.mem_of_getElem? (i := 66) rfl))) (by decide) (backOf (W := 0) (rm12 l Z a0 hw [] b1 b49 cs a10 t10 kb10 (p1 &&& (255 : Int32)) a16 t16 kb16 (((p1.toUInt32 >>> ((8 : Int32) &&& 31).toUInt32).toInt32) &&& (255 : Int32)) a28 t28 kb28 (((p1.toUInt32 >>> ((16 : Int32) &&& 31).toUInt32).toInt32) &&& (255 : Int32)) b70 t141 kb141 i0 b151 t233 kb233 i1 b245 t339 kb339 i2 p2 p3 p4 m0 m1 m2 T362.heap n0 f363 f364 hcs f365 Ex362 f366 f367 f368 f369 f370 f371 f372 f373 f374 f375 (own_mm _) f376 f377 f378 f379 (own_mm _) f380 f381 f382 f383 (own_mm _) u0_362 u1_362 u2_362 u3_362 u4_362 u5_362 f384 f385 f386 f387 hi0 f388 f389 f390 f391 hi1 f392 f393 f394 f395 hi2) hZ (hw _ (List.mem_of_getElem? (i := 68) rfl)) (hw _ (List.mem_of_getElem? (i := 3) rfl)) (by decide) (by decide)) q396a q396c (g := (mkF m 337 #[.val (.int p1), .val (.int p2), .val (.int p3), .val (.int p4), .val (.int p5), .val (.int p6), .val (.int (p1 &&& (255 : Int32))), .val (.int (((p1.toUInt32 >>> ((8 : Int32) &&& 31).toUInt32).toInt32) &&& (255 : Int32))), .val (.int (((p1.toUInt32 >>> ((16 : Int32) &&& 31).toUInt32).toInt32) &&& (255 : Int32))), .val (.int (p6 &&& (255 : Int32))), .val (.int ((p5 &&& (2147483647 : Int32)) % (10 : Int32))), .val (.ref b1), .val (.int i0), .val (.int i1), .val (.int i2), .val (.int m0), .val (.int m1), .val (.int m2), .val (.int ex), .val (.ref b49)] [(.ref b49), (.ref b1)])) rfl (by rw [hml]; rfl) (Steps.refl _) (argsL := [(.ref b49)]) (rest := []) (lenOf own_pd3 rfl) rfl (by show 2 * 0 + _ ≤ _; exact Nat.le_of_eq rfl) (hb hby at_337) (fun _ _ => ⟨rfl, rfl, (by decide : 17 + 0 ≤ _), (by decide : 45 + 0 ≤ _)⟩)
    dsimp only [Pt.U, Pt.locs, Pt.cells, Pt.slots] at X396 l396 y396 z396 st396 hQ396
    subst l396 y396 z396
    obtain ⟨rfl, N396q, e396⟩ := hQ396
    have N396 := Fr.app N362 N396q
    refine own_go (fun t_ k_ => st396.trans k_) ?_
    show own_G p.tables e below T396 (mkF m 340 #[.val (.int p1), .val (.int p2), .val (.int p3), .val (.int p4), .val (.int p5), .val (.int p6), .val (.int (p1 &&& (255 : Int32))), .val (.int (((p1.toUInt32 >>> ((8 : Int32) &&& 31).toUInt32).toInt32) &&& (255 : Int32))), .val (.int (((p1.toUInt32 >>> ((16 : Int32) &&& 31).toUInt32).toInt32) &&& (255 : Int32))), .val (.int (p6 &&& (255 : Int32))), .val (.int ((p5 &&& (2147483647 : Int32)) % (10 : Int32))), .val (.ref b1), .val (.int i0), .val (.int i1), .val (.int i2), .val (.int m0), .val (.int m1), .val (.int m2), .val (.int ex), .val (.ref b49)] [(.int (own_eq (p1 &&& (255 : Int32)) (((p1.toUInt32 >>> ((8 : Int32) &&& 31).toUInt32).toInt32) &&& (255 : Int32)) (((p1.toUInt32 >>> ((16 : Int32) &&& 31).toUInt32).toInt32) &&& (255 : Int32)) p2 p3 p4 i0 i1 i2 m0 m1 m2))]) _
    refine own_go (fun t_ k_ => XS.iload X396.here hx rfl (hb hby at_340) rfl k_) ?_
    show own_G p.tables e below T396 (mkF m 342 #[.val (.int p1), .val (.int p2), .val (.int p3), .val (.int p4), .val (.int p5), .val (.int p6), .val (.int (p1 &&& (255 : Int32))), .val (.int (((p1.toUInt32 >>> ((8 : Int32) &&& 31).toUInt32).toInt32) &&& (255 : Int32))), .val (.int (((p1.toUInt32 >>> ((16 : Int32) &&& 31).toUInt32).toInt32) &&& (255 : Int32))), .val (.int (p6 &&& (255 : Int32))), .val (.int ((p5 &&& (2147483647 : Int32)) % (10 : Int32))), .val (.ref b1), .val (.int i0), .val (.int i1), .val (.int i2), .val (.int m0), .val (.int m1), .val (.int m2), .val (.int ex), .val (.ref b49)] [(.int ex), (.int (own_eq (p1 &&& (255 : Int32)) (((p1.toUInt32 >>> ((8 : Int32) &&& 31).toUInt32).toInt32) &&& (255 : Int32)) (((p1.toUInt32 >>> ((16 : Int32) &&& 31).toUInt32).toInt32) &&& (255 : Int32)) p2 p3 p4 i0 i1 i2 m0 m1 m2))]) _
    refine own_go (fun t_ k_ => XS.icmpNo X396.here hx rfl (hb hby at_342) rfl (teq hex).2 k_) ?_
    show own_G p.tables e below T396 (mkF m 345 #[.val (.int p1), .val (.int p2), .val (.int p3), .val (.int p4), .val (.int p5), .val (.int p6), .val (.int (p1 &&& (255 : Int32))), .val (.int (((p1.toUInt32 >>> ((8 : Int32) &&& 31).toUInt32).toInt32) &&& (255 : Int32))), .val (.int (((p1.toUInt32 >>> ((16 : Int32) &&& 31).toUInt32).toInt32) &&& (255 : Int32))), .val (.int (p6 &&& (255 : Int32))), .val (.int ((p5 &&& (2147483647 : Int32)) % (10 : Int32))), .val (.ref b1), .val (.int i0), .val (.int i1), .val (.int i2), .val (.int m0), .val (.int m1), .val (.int m2), .val (.int ex), .val (.ref b49)] []) _
    refine own_go (fun t_ k_ => XS.aload X396.here hx rfl (hb hby at_345) rfl rfl k_) ?_
    show own_G p.tables e below T396 (mkF m 347 #[.val (.int p1), .val (.int p2), .val (.int p3), .val (.int p4), .val (.int p5), .val (.int p6), .val (.int (p1 &&& (255 : Int32))), .val (.int (((p1.toUInt32 >>> ((8 : Int32) &&& 31).toUInt32).toInt32) &&& (255 : Int32))), .val (.int (((p1.toUInt32 >>> ((16 : Int32) &&& 31).toUInt32).toInt32) &&& (255 : Int32))), .val (.int (p6 &&& (255 : Int32))), .val (.int ((p5 &&& (2147483647 : Int32)) % (10 : Int32))), .val (.ref b1), .val (.int i0), .val (.int i1), .val (.int i2), .val (.int m0), .val (.int m1), .val (.int m2), .val (.int ex), .val (.ref b49)] [(.ref b49)]) _
    refine own_go (fun t_ k_ => XS.aload X396.here hx rfl (hb hby at_347) rfl rfl k_) ?_
    show own_G p.tables e below T396 (mkF m 349 #[.val (.int p1), .val (.int p2), .val (.int p3), .val (.int p4), .val (.int p5), .val (.int p6), .val (.int (p1 &&& (255 : Int32))), .val (.int (((p1.toUInt32 >>> ((8 : Int32) &&& 31).toUInt32).toInt32) &&& (255 : Int32))), .val (.int (((p1.toUInt32 >>> ((16 : Int32) &&& 31).toUInt32).toInt32) &&& (255 : Int32))), .val (.int (p6 &&& (255 : Int32))), .val (.int ((p5 &&& (2147483647 : Int32)) % (10 : Int32))), .val (.ref b1), .val (.int i0), .val (.int i1), .val (.int i2), .val (.int m0), .val (.int m1), .val (.int m2), .val (.int ex), .val (.ref b49)] [(.ref b1), (.ref b49)]) _
    obtain ⟨cq397, kq397, q397a, q397b, q397c⟩ := isOf hZ e396 Ex362
    obtain ⟨_, _, ⟨T397, L397, k397, n397⟩, -, X397, ⟨Lc397, hQ397, l397, y397, z397⟩, st397⟩ := X396.virtualBack hx (y := (⟨"com/example/line_to_seat/linetoseat/store/SectionSeats", "equals", "(Ljava/lang/Object;)Z"⟩ : MethodName)) (z := (⟨"com/example/line_to_seat/linetoseat/store/SectionSeats", "equals", "(Ljava/lang/Object;)Z"⟩ : MethodName)) hown (mvT hZ (hw _ (List.mem_of_getElem? (i := 64) rfl))) (mvT hZ (hw _ (List.mem_of_getElem? (i := 65) rfl))) (notFace_of_selects (args := #[]) (mvT hZ (hw _ (List.mem_of_getElem? (i := 67) rfl)))) (mvT hZ (hw _ (List.mem_of_getElem? (i := 67) rfl))) (mvT hZ (hw _ (List.mem_of_getElem? (i := 66) rfl))) (by decide) (backOf (W := 0) (rm12 l Z a0 hw [] b49 b1 cs b70 t141 kb141 i0 b151 t233 kb233 i1 b245 t339 kb339 i2 a10 t10 kb10 (p1 &&& (255 : Int32)) a16 t16 kb16 (((p1.toUInt32 >>> ((8 : Int32) &&& 31).toUInt32).toInt32) &&& (255 : Int32)) a28 t28 kb28 (((p1.toUInt32 >>> ((16 : Int32) &&& 31).toUInt32).toInt32) &&& (255 : Int32)) m0 m1 m2 p2 p3 p4 T362.heap n0 f363 f364 hcs Ex362 f365 u0_362 u1_362 u2_362 u3_362 u4_362 u5_362 f384 f385 f386 f387 hi0 f388 f389 f390 f391 hi1 f392 f393 f394 f395 hi2 f366 f367 f368 f369 f370 f371 f372 f373 f374 f375 (own_mm _) f376 f377 f378 f379 (own_mm _) f380 f381 f382 f383 (own_mm _)) hZ (hw _ (List.mem_of_getElem? (i := 68) rfl)) (hw _ (List.mem_of_getElem? (i := 3) rfl)) (by decide) (by decide)) q397a q397c (g := (mkF m 349 #[.val (.int p1), .val (.int p2), .val (.int p3), .val (.int p4), .val (.int p5), .val (.int p6), .val (.int (p1 &&& (255 : Int32))), .val (.int (((p1.toUInt32 >>> ((8 : Int32) &&& 31).toUInt32).toInt32) &&& (255 : Int32))), .val (.int (((p1.toUInt32 >>> ((16 : Int32) &&& 31).toUInt32).toInt32) &&& (255 : Int32))), .val (.int (p6 &&& (255 : Int32))), .val (.int ((p5 &&& (2147483647 : Int32)) % (10 : Int32))), .val (.ref b1), .val (.int i0), .val (.int i1), .val (.int i2), .val (.int m0), .val (.int m1), .val (.int m2), .val (.int ex), .val (.ref b49)] [(.ref b1), (.ref b49)])) rfl (by rw [hml]; rfl) (Steps.refl _) (argsL := [(.ref b1)]) (rest := []) (lenOf own_pd3 rfl) rfl (by show 2 * 0 + _ ≤ _; exact Nat.le_of_eq rfl) (hb hby at_349) (fun _ _ => ⟨rfl, e396, (by decide : 17 + 0 ≤ _), (by decide : 45 + 0 ≤ _)⟩)
    dsimp only [Pt.U, Pt.locs, Pt.cells, Pt.slots] at X397 l397 y397 z397 st397 hQ397
    subst l397 y397 z397
    obtain ⟨rfl, N397q, e397⟩ := hQ397
    have N397 := Fr.app N396 N397q
    refine own_go (fun t_ k_ => st397.trans k_) ?_
    show own_G p.tables e below T397 (mkF m 352 #[.val (.int p1), .val (.int p2), .val (.int p3), .val (.int p4), .val (.int p5), .val (.int p6), .val (.int (p1 &&& (255 : Int32))), .val (.int (((p1.toUInt32 >>> ((8 : Int32) &&& 31).toUInt32).toInt32) &&& (255 : Int32))), .val (.int (((p1.toUInt32 >>> ((16 : Int32) &&& 31).toUInt32).toInt32) &&& (255 : Int32))), .val (.int (p6 &&& (255 : Int32))), .val (.int ((p5 &&& (2147483647 : Int32)) % (10 : Int32))), .val (.ref b1), .val (.int i0), .val (.int i1), .val (.int i2), .val (.int m0), .val (.int m1), .val (.int m2), .val (.int ex), .val (.ref b49)] [(.int (own_eq i0 i1 i2 m0 m1 m2 (p1 &&& (255 : Int32)) (((p1.toUInt32 >>> ((8 : Int32) &&& 31).toUInt32).toInt32) &&& (255 : Int32)) (((p1.toUInt32 >>> ((16 : Int32) &&& 31).toUInt32).toInt32) &&& (255 : Int32)) p2 p3 p4))]) _
    refine own_go (fun t_ k_ => XS.iload X397.here hx rfl (hb hby at_352) rfl k_) ?_
    show own_G p.tables e below T397 (mkF m 354 #[.val (.int p1), .val (.int p2), .val (.int p3), .val (.int p4), .val (.int p5), .val (.int p6), .val (.int (p1 &&& (255 : Int32))), .val (.int (((p1.toUInt32 >>> ((8 : Int32) &&& 31).toUInt32).toInt32) &&& (255 : Int32))), .val (.int (((p1.toUInt32 >>> ((16 : Int32) &&& 31).toUInt32).toInt32) &&& (255 : Int32))), .val (.int (p6 &&& (255 : Int32))), .val (.int ((p5 &&& (2147483647 : Int32)) % (10 : Int32))), .val (.ref b1), .val (.int i0), .val (.int i1), .val (.int i2), .val (.int m0), .val (.int m1), .val (.int m2), .val (.int ex), .val (.ref b49)] [(.int ex), (.int (own_eq i0 i1 i2 m0 m1 m2 (p1 &&& (255 : Int32)) (((p1.toUInt32 >>> ((8 : Int32) &&& 31).toUInt32).toInt32) &&& (255 : Int32)) (((p1.toUInt32 >>> ((16 : Int32) &&& 31).toUInt32).toInt32) &&& (255 : Int32)) p2 p3 p4))]) _
    refine own_go (fun t_ k_ => XS.icmpNo X397.here hx rfl (hb hby at_354) rfl (teq ((own_eq_comm _ _ _ _ _ _ _ _ _ _ _ _).trans hex)).2 k_) ?_
    show own_G p.tables e below T397 (mkF m 357 #[.val (.int p1), .val (.int p2), .val (.int p3), .val (.int p4), .val (.int p5), .val (.int p6), .val (.int (p1 &&& (255 : Int32))), .val (.int (((p1.toUInt32 >>> ((8 : Int32) &&& 31).toUInt32).toInt32) &&& (255 : Int32))), .val (.int (((p1.toUInt32 >>> ((16 : Int32) &&& 31).toUInt32).toInt32) &&& (255 : Int32))), .val (.int (p6 &&& (255 : Int32))), .val (.int ((p5 &&& (2147483647 : Int32)) % (10 : Int32))), .val (.ref b1), .val (.int i0), .val (.int i1), .val (.int i2), .val (.int m0), .val (.int m1), .val (.int m2), .val (.int ex), .val (.ref b49)] []) _
    refine own_go (fun t_ k_ => XS.iconst X397.here hx rfl (hb hby at_357) k_) ?_
    show own_G p.tables e below T397 (mkF m 358 #[.val (.int p1), .val (.int p2), .val (.int p3), .val (.int p4), .val (.int p5), .val (.int p6), .val (.int (p1 &&& (255 : Int32))), .val (.int (((p1.toUInt32 >>> ((8 : Int32) &&& 31).toUInt32).toInt32) &&& (255 : Int32))), .val (.int (((p1.toUInt32 >>> ((16 : Int32) &&& 31).toUInt32).toInt32) &&& (255 : Int32))), .val (.int (p6 &&& (255 : Int32))), .val (.int ((p5 &&& (2147483647 : Int32)) % (10 : Int32))), .val (.ref b1), .val (.int i0), .val (.int i1), .val (.int i2), .val (.int m0), .val (.int m1), .val (.int m2), .val (.int ex), .val (.ref b49)] [(.int (1 : Int32))]) _
    refine own_go (fun t_ k_ => XS.goto X397.here hx rfl (pc0 := 358) (pc' := 362) rfl (hb hby at_358) (by decide) (by decide) k_) ?_
    show own_G p.tables e below T397 (mkF m 362 #[.val (.int p1), .val (.int p2), .val (.int p3), .val (.int p4), .val (.int p5), .val (.int p6), .val (.int (p1 &&& (255 : Int32))), .val (.int (((p1.toUInt32 >>> ((8 : Int32) &&& 31).toUInt32).toInt32) &&& (255 : Int32))), .val (.int (((p1.toUInt32 >>> ((16 : Int32) &&& 31).toUInt32).toInt32) &&& (255 : Int32))), .val (.int (p6 &&& (255 : Int32))), .val (.int ((p5 &&& (2147483647 : Int32)) % (10 : Int32))), .val (.ref b1), .val (.int i0), .val (.int i1), .val (.int i2), .val (.int m0), .val (.int m1), .val (.int m2), .val (.int ex), .val (.ref b49)] [(.int (1 : Int32))]) _
    exact own_end (v := some (.int (1 : Int32))) X397 Bd.notSynchronized (fun h => by rw [Bd.returns] at h; cases h) (fun fs hr => retN X397 hx (z := (1 : Int32)) (t := .boolean) Bd.returns (by simp) (hb hby at_362) hr) e397 ⟨rfl, N397⟩ (by decide) (by decide)
  have tail227 : ∀ (i0 i1 i2 m0 m1 m2 : Int32), (¬ i0 < 0 ∧ ¬ (255 : Int32) < i0) → (¬ i1 < 0 ∧ ¬ (255 : Int32) < i1) → (¬ i2 < 0 ∧ ¬ (255 : Int32) < i2) → own_G p.tables e below T48 (mkF m 227 #[.val (.int p1), .val (.int p2), .val (.int p3), .val (.int p4), .val (.int p5), .val (.int p6), .val (.int (p1 &&& (255 : Int32))), .val (.int (((p1.toUInt32 >>> ((8 : Int32) &&& 31).toUInt32).toInt32) &&& (255 : Int32))), .val (.int (((p1.toUInt32 >>> ((16 : Int32) &&& 31).toUInt32).toInt32) &&& (255 : Int32))), .val (.int (p6 &&& (255 : Int32))), .val (.int ((p5 &&& (2147483647 : Int32)) % (10 : Int32))), .val (.ref b1), .val (.int i0), .val (.int i1), .val (.int i2), .val (.int m0), .val (.int m1), .val (.int m2), .unset, .unset] []) (own_P below s (Q0 Z p1 p2 p3 p4 p5 p6 cs h0 n0) 48 192) := by
    intro i0 i1 i2 m0 m1 m2 hi0 hi1 hi2
    show own_G p.tables e below T48 (mkF m 227 #[.val (.int p1), .val (.int p2), .val (.int p3), .val (.int p4), .val (.int p5), .val (.int p6), .val (.int (p1 &&& (255 : Int32))), .val (.int (((p1.toUInt32 >>> ((8 : Int32) &&& 31).toUInt32).toInt32) &&& (255 : Int32))), .val (.int (((p1.toUInt32 >>> ((16 : Int32) &&& 31).toUInt32).toInt32) &&& (255 : Int32))), .val (.int (p6 &&& (255 : Int32))), .val (.int ((p5 &&& (2147483647 : Int32)) % (10 : Int32))), .val (.ref b1), .val (.int i0), .val (.int i1), .val (.int i2), .val (.int m0), .val (.int m1), .val (.int m2), .unset, .unset] []) _
    refine own_go (fun t_ k_ => XS.iload X48.here hx rfl (hb hby at_227) rfl k_) ?_
    show own_G p.tables e below T48 (mkF m 229 #[.val (.int p1), .val (.int p2), .val (.int p3), .val (.int p4), .val (.int p5), .val (.int p6), .val (.int (p1 &&& (255 : Int32))), .val (.int (((p1.toUInt32 >>> ((8 : Int32) &&& 31).toUInt32).toInt32) &&& (255 : Int32))), .val (.int (((p1.toUInt32 >>> ((16 : Int32) &&& 31).toUInt32).toInt32) &&& (255 : Int32))), .val (.int (p6 &&& (255 : Int32))), .val (.int ((p5 &&& (2147483647 : Int32)) % (10 : Int32))), .val (.ref b1), .val (.int i0), .val (.int i1), .val (.int i2), .val (.int m0), .val (.int m1), .val (.int m2), .unset, .unset] [(.int i0)]) _
    refine own_go (fun t_ k_ => XS.iload X48.here hx rfl (hb hby at_229) rfl k_) ?_
    show own_G p.tables e below T48 (mkF m 231 #[.val (.int p1), .val (.int p2), .val (.int p3), .val (.int p4), .val (.int p5), .val (.int p6), .val (.int (p1 &&& (255 : Int32))), .val (.int (((p1.toUInt32 >>> ((8 : Int32) &&& 31).toUInt32).toInt32) &&& (255 : Int32))), .val (.int (((p1.toUInt32 >>> ((16 : Int32) &&& 31).toUInt32).toInt32) &&& (255 : Int32))), .val (.int (p6 &&& (255 : Int32))), .val (.int ((p5 &&& (2147483647 : Int32)) % (10 : Int32))), .val (.ref b1), .val (.int i0), .val (.int i1), .val (.int i2), .val (.int m0), .val (.int m1), .val (.int m2), .unset, .unset] [(.int (p1 &&& (255 : Int32))), (.int i0)]) _
    by_cases hc231_398 : i0 = (p1 &&& (255 : Int32))
    · skip
      refine own_go (fun t_ k_ => XS.icmpNo X48.here hx rfl (hb hby at_231) rfl (teq hc231_398).2 k_) ?_
      show own_G p.tables e below T48 (mkF m 234 #[.val (.int p1), .val (.int p2), .val (.int p3), .val (.int p4), .val (.int p5), .val (.int p6), .val (.int (p1 &&& (255 : Int32))), .val (.int (((p1.toUInt32 >>> ((8 : Int32) &&& 31).toUInt32).toInt32) &&& (255 : Int32))), .val (.int (((p1.toUInt32 >>> ((16 : Int32) &&& 31).toUInt32).toInt32) &&& (255 : Int32))), .val (.int (p6 &&& (255 : Int32))), .val (.int ((p5 &&& (2147483647 : Int32)) % (10 : Int32))), .val (.ref b1), .val (.int i0), .val (.int i1), .val (.int i2), .val (.int m0), .val (.int m1), .val (.int m2), .unset, .unset] []) _
      refine own_go (fun t_ k_ => XS.iload X48.here hx rfl (hb hby at_234) rfl k_) ?_
      show own_G p.tables e below T48 (mkF m 236 #[.val (.int p1), .val (.int p2), .val (.int p3), .val (.int p4), .val (.int p5), .val (.int p6), .val (.int (p1 &&& (255 : Int32))), .val (.int (((p1.toUInt32 >>> ((8 : Int32) &&& 31).toUInt32).toInt32) &&& (255 : Int32))), .val (.int (((p1.toUInt32 >>> ((16 : Int32) &&& 31).toUInt32).toInt32) &&& (255 : Int32))), .val (.int (p6 &&& (255 : Int32))), .val (.int ((p5 &&& (2147483647 : Int32)) % (10 : Int32))), .val (.ref b1), .val (.int i0), .val (.int i1), .val (.int i2), .val (.int m0), .val (.int m1), .val (.int m2), .unset, .unset] [(.int i1)]) _
      refine own_go (fun t_ k_ => XS.iload X48.here hx rfl (hb hby at_236) rfl k_) ?_
      show own_G p.tables e below T48 (mkF m 238 #[.val (.int p1), .val (.int p2), .val (.int p3), .val (.int p4), .val (.int p5), .val (.int p6), .val (.int (p1 &&& (255 : Int32))), .val (.int (((p1.toUInt32 >>> ((8 : Int32) &&& 31).toUInt32).toInt32) &&& (255 : Int32))), .val (.int (((p1.toUInt32 >>> ((16 : Int32) &&& 31).toUInt32).toInt32) &&& (255 : Int32))), .val (.int (p6 &&& (255 : Int32))), .val (.int ((p5 &&& (2147483647 : Int32)) % (10 : Int32))), .val (.ref b1), .val (.int i0), .val (.int i1), .val (.int i2), .val (.int m0), .val (.int m1), .val (.int m2), .unset, .unset] [(.int (((p1.toUInt32 >>> ((8 : Int32) &&& 31).toUInt32).toInt32) &&& (255 : Int32))), (.int i1)]) _
      by_cases hc238_399 : i1 = (((p1.toUInt32 >>> ((8 : Int32) &&& 31).toUInt32).toInt32) &&& (255 : Int32))
      · skip
        refine own_go (fun t_ k_ => XS.icmpNo X48.here hx rfl (hb hby at_238) rfl (teq hc238_399).2 k_) ?_
        show own_G p.tables e below T48 (mkF m 241 #[.val (.int p1), .val (.int p2), .val (.int p3), .val (.int p4), .val (.int p5), .val (.int p6), .val (.int (p1 &&& (255 : Int32))), .val (.int (((p1.toUInt32 >>> ((8 : Int32) &&& 31).toUInt32).toInt32) &&& (255 : Int32))), .val (.int (((p1.toUInt32 >>> ((16 : Int32) &&& 31).toUInt32).toInt32) &&& (255 : Int32))), .val (.int (p6 &&& (255 : Int32))), .val (.int ((p5 &&& (2147483647 : Int32)) % (10 : Int32))), .val (.ref b1), .val (.int i0), .val (.int i1), .val (.int i2), .val (.int m0), .val (.int m1), .val (.int m2), .unset, .unset] []) _
        refine own_go (fun t_ k_ => XS.iload X48.here hx rfl (hb hby at_241) rfl k_) ?_
        show own_G p.tables e below T48 (mkF m 243 #[.val (.int p1), .val (.int p2), .val (.int p3), .val (.int p4), .val (.int p5), .val (.int p6), .val (.int (p1 &&& (255 : Int32))), .val (.int (((p1.toUInt32 >>> ((8 : Int32) &&& 31).toUInt32).toInt32) &&& (255 : Int32))), .val (.int (((p1.toUInt32 >>> ((16 : Int32) &&& 31).toUInt32).toInt32) &&& (255 : Int32))), .val (.int (p6 &&& (255 : Int32))), .val (.int ((p5 &&& (2147483647 : Int32)) % (10 : Int32))), .val (.ref b1), .val (.int i0), .val (.int i1), .val (.int i2), .val (.int m0), .val (.int m1), .val (.int m2), .unset, .unset] [(.int i2)]) _
        refine own_go (fun t_ k_ => XS.iload X48.here hx rfl (hb hby at_243) rfl k_) ?_
        show own_G p.tables e below T48 (mkF m 245 #[.val (.int p1), .val (.int p2), .val (.int p3), .val (.int p4), .val (.int p5), .val (.int p6), .val (.int (p1 &&& (255 : Int32))), .val (.int (((p1.toUInt32 >>> ((8 : Int32) &&& 31).toUInt32).toInt32) &&& (255 : Int32))), .val (.int (((p1.toUInt32 >>> ((16 : Int32) &&& 31).toUInt32).toInt32) &&& (255 : Int32))), .val (.int (p6 &&& (255 : Int32))), .val (.int ((p5 &&& (2147483647 : Int32)) % (10 : Int32))), .val (.ref b1), .val (.int i0), .val (.int i1), .val (.int i2), .val (.int m0), .val (.int m1), .val (.int m2), .unset, .unset] [(.int (((p1.toUInt32 >>> ((16 : Int32) &&& 31).toUInt32).toInt32) &&& (255 : Int32))), (.int i2)]) _
        by_cases hc245_400 : i2 = (((p1.toUInt32 >>> ((16 : Int32) &&& 31).toUInt32).toInt32) &&& (255 : Int32))
        · skip
          refine own_go (fun t_ k_ => XS.icmpNo X48.here hx rfl (hb hby at_245) rfl (teq hc245_400).2 k_) ?_
          show own_G p.tables e below T48 (mkF m 248 #[.val (.int p1), .val (.int p2), .val (.int p3), .val (.int p4), .val (.int p5), .val (.int p6), .val (.int (p1 &&& (255 : Int32))), .val (.int (((p1.toUInt32 >>> ((8 : Int32) &&& 31).toUInt32).toInt32) &&& (255 : Int32))), .val (.int (((p1.toUInt32 >>> ((16 : Int32) &&& 31).toUInt32).toInt32) &&& (255 : Int32))), .val (.int (p6 &&& (255 : Int32))), .val (.int ((p5 &&& (2147483647 : Int32)) % (10 : Int32))), .val (.ref b1), .val (.int i0), .val (.int i1), .val (.int i2), .val (.int m0), .val (.int m1), .val (.int m2), .unset, .unset] []) _
          refine own_go (fun t_ k_ => XS.iload X48.here hx rfl (hb hby at_248) rfl k_) ?_
          show own_G p.tables e below T48 (mkF m 250 #[.val (.int p1), .val (.int p2), .val (.int p3), .val (.int p4), .val (.int p5), .val (.int p6), .val (.int (p1 &&& (255 : Int32))), .val (.int (((p1.toUInt32 >>> ((8 : Int32) &&& 31).toUInt32).toInt32) &&& (255 : Int32))), .val (.int (((p1.toUInt32 >>> ((16 : Int32) &&& 31).toUInt32).toInt32) &&& (255 : Int32))), .val (.int (p6 &&& (255 : Int32))), .val (.int ((p5 &&& (2147483647 : Int32)) % (10 : Int32))), .val (.ref b1), .val (.int i0), .val (.int i1), .val (.int i2), .val (.int m0), .val (.int m1), .val (.int m2), .unset, .unset] [(.int m0)]) _
          refine own_go (fun t_ k_ => XS.iloadN X48.here hx rfl (hb hby at_250) rfl k_) ?_
          show own_G p.tables e below T48 (mkF m 251 #[.val (.int p1), .val (.int p2), .val (.int p3), .val (.int p4), .val (.int p5), .val (.int p6), .val (.int (p1 &&& (255 : Int32))), .val (.int (((p1.toUInt32 >>> ((8 : Int32) &&& 31).toUInt32).toInt32) &&& (255 : Int32))), .val (.int (((p1.toUInt32 >>> ((16 : Int32) &&& 31).toUInt32).toInt32) &&& (255 : Int32))), .val (.int (p6 &&& (255 : Int32))), .val (.int ((p5 &&& (2147483647 : Int32)) % (10 : Int32))), .val (.ref b1), .val (.int i0), .val (.int i1), .val (.int i2), .val (.int m0), .val (.int m1), .val (.int m2), .unset, .unset] [(.int p2), (.int m0)]) _
          by_cases hc251_401 : m0 = p2
          · skip
            refine own_go (fun t_ k_ => XS.icmpNo X48.here hx rfl (hb hby at_251) rfl (teq hc251_401).2 k_) ?_
            show own_G p.tables e below T48 (mkF m 254 #[.val (.int p1), .val (.int p2), .val (.int p3), .val (.int p4), .val (.int p5), .val (.int p6), .val (.int (p1 &&& (255 : Int32))), .val (.int (((p1.toUInt32 >>> ((8 : Int32) &&& 31).toUInt32).toInt32) &&& (255 : Int32))), .val (.int (((p1.toUInt32 >>> ((16 : Int32) &&& 31).toUInt32).toInt32) &&& (255 : Int32))), .val (.int (p6 &&& (255 : Int32))), .val (.int ((p5 &&& (2147483647 : Int32)) % (10 : Int32))), .val (.ref b1), .val (.int i0), .val (.int i1), .val (.int i2), .val (.int m0), .val (.int m1), .val (.int m2), .unset, .unset] []) _
            refine own_go (fun t_ k_ => XS.iload X48.here hx rfl (hb hby at_254) rfl k_) ?_
            show own_G p.tables e below T48 (mkF m 256 #[.val (.int p1), .val (.int p2), .val (.int p3), .val (.int p4), .val (.int p5), .val (.int p6), .val (.int (p1 &&& (255 : Int32))), .val (.int (((p1.toUInt32 >>> ((8 : Int32) &&& 31).toUInt32).toInt32) &&& (255 : Int32))), .val (.int (((p1.toUInt32 >>> ((16 : Int32) &&& 31).toUInt32).toInt32) &&& (255 : Int32))), .val (.int (p6 &&& (255 : Int32))), .val (.int ((p5 &&& (2147483647 : Int32)) % (10 : Int32))), .val (.ref b1), .val (.int i0), .val (.int i1), .val (.int i2), .val (.int m0), .val (.int m1), .val (.int m2), .unset, .unset] [(.int m1)]) _
            refine own_go (fun t_ k_ => XS.iloadN X48.here hx rfl (hb hby at_256) rfl k_) ?_
            show own_G p.tables e below T48 (mkF m 257 #[.val (.int p1), .val (.int p2), .val (.int p3), .val (.int p4), .val (.int p5), .val (.int p6), .val (.int (p1 &&& (255 : Int32))), .val (.int (((p1.toUInt32 >>> ((8 : Int32) &&& 31).toUInt32).toInt32) &&& (255 : Int32))), .val (.int (((p1.toUInt32 >>> ((16 : Int32) &&& 31).toUInt32).toInt32) &&& (255 : Int32))), .val (.int (p6 &&& (255 : Int32))), .val (.int ((p5 &&& (2147483647 : Int32)) % (10 : Int32))), .val (.ref b1), .val (.int i0), .val (.int i1), .val (.int i2), .val (.int m0), .val (.int m1), .val (.int m2), .unset, .unset] [(.int p3), (.int m1)]) _
            by_cases hc257_402 : m1 = p3
            · skip
              refine own_go (fun t_ k_ => XS.icmpNo X48.here hx rfl (hb hby at_257) rfl (teq hc257_402).2 k_) ?_
              show own_G p.tables e below T48 (mkF m 260 #[.val (.int p1), .val (.int p2), .val (.int p3), .val (.int p4), .val (.int p5), .val (.int p6), .val (.int (p1 &&& (255 : Int32))), .val (.int (((p1.toUInt32 >>> ((8 : Int32) &&& 31).toUInt32).toInt32) &&& (255 : Int32))), .val (.int (((p1.toUInt32 >>> ((16 : Int32) &&& 31).toUInt32).toInt32) &&& (255 : Int32))), .val (.int (p6 &&& (255 : Int32))), .val (.int ((p5 &&& (2147483647 : Int32)) % (10 : Int32))), .val (.ref b1), .val (.int i0), .val (.int i1), .val (.int i2), .val (.int m0), .val (.int m1), .val (.int m2), .unset, .unset] []) _
              refine own_go (fun t_ k_ => XS.iload X48.here hx rfl (hb hby at_260) rfl k_) ?_
              show own_G p.tables e below T48 (mkF m 262 #[.val (.int p1), .val (.int p2), .val (.int p3), .val (.int p4), .val (.int p5), .val (.int p6), .val (.int (p1 &&& (255 : Int32))), .val (.int (((p1.toUInt32 >>> ((8 : Int32) &&& 31).toUInt32).toInt32) &&& (255 : Int32))), .val (.int (((p1.toUInt32 >>> ((16 : Int32) &&& 31).toUInt32).toInt32) &&& (255 : Int32))), .val (.int (p6 &&& (255 : Int32))), .val (.int ((p5 &&& (2147483647 : Int32)) % (10 : Int32))), .val (.ref b1), .val (.int i0), .val (.int i1), .val (.int i2), .val (.int m0), .val (.int m1), .val (.int m2), .unset, .unset] [(.int m2)]) _
              refine own_go (fun t_ k_ => XS.iloadN X48.here hx rfl (hb hby at_262) rfl k_) ?_
              show own_G p.tables e below T48 (mkF m 263 #[.val (.int p1), .val (.int p2), .val (.int p3), .val (.int p4), .val (.int p5), .val (.int p6), .val (.int (p1 &&& (255 : Int32))), .val (.int (((p1.toUInt32 >>> ((8 : Int32) &&& 31).toUInt32).toInt32) &&& (255 : Int32))), .val (.int (((p1.toUInt32 >>> ((16 : Int32) &&& 31).toUInt32).toInt32) &&& (255 : Int32))), .val (.int (p6 &&& (255 : Int32))), .val (.int ((p5 &&& (2147483647 : Int32)) % (10 : Int32))), .val (.ref b1), .val (.int i0), .val (.int i1), .val (.int i2), .val (.int m0), .val (.int m1), .val (.int m2), .unset, .unset] [(.int p4), (.int m2)]) _
              by_cases hc263_403 : m2 = p4
              · skip
                refine own_go (fun t_ k_ => XS.icmpNo X48.here hx rfl (hb hby at_263) rfl (teq hc263_403).2 k_) ?_
                show own_G p.tables e below T48 (mkF m 266 #[.val (.int p1), .val (.int p2), .val (.int p3), .val (.int p4), .val (.int p5), .val (.int p6), .val (.int (p1 &&& (255 : Int32))), .val (.int (((p1.toUInt32 >>> ((8 : Int32) &&& 31).toUInt32).toInt32) &&& (255 : Int32))), .val (.int (((p1.toUInt32 >>> ((16 : Int32) &&& 31).toUInt32).toInt32) &&& (255 : Int32))), .val (.int (p6 &&& (255 : Int32))), .val (.int ((p5 &&& (2147483647 : Int32)) % (10 : Int32))), .val (.ref b1), .val (.int i0), .val (.int i1), .val (.int i2), .val (.int m0), .val (.int m1), .val (.int m2), .unset, .unset] []) _
                refine own_go (fun t_ k_ => XS.iconst X48.here hx rfl (hb hby at_266) k_) ?_
                show own_G p.tables e below T48 (mkF m 267 #[.val (.int p1), .val (.int p2), .val (.int p3), .val (.int p4), .val (.int p5), .val (.int p6), .val (.int (p1 &&& (255 : Int32))), .val (.int (((p1.toUInt32 >>> ((8 : Int32) &&& 31).toUInt32).toInt32) &&& (255 : Int32))), .val (.int (((p1.toUInt32 >>> ((16 : Int32) &&& 31).toUInt32).toInt32) &&& (255 : Int32))), .val (.int (p6 &&& (255 : Int32))), .val (.int ((p5 &&& (2147483647 : Int32)) % (10 : Int32))), .val (.ref b1), .val (.int i0), .val (.int i1), .val (.int i2), .val (.int m0), .val (.int m1), .val (.int m2), .unset, .unset] [(.int (1 : Int32))]) _
                refine own_go (fun t_ k_ => XS.goto X48.here hx rfl (pc0 := 267) (pc' := 271) rfl (hb hby at_267) (by decide) (by decide) k_) ?_
                show own_G p.tables e below T48 (mkF m 271 #[.val (.int p1), .val (.int p2), .val (.int p3), .val (.int p4), .val (.int p5), .val (.int p6), .val (.int (p1 &&& (255 : Int32))), .val (.int (((p1.toUInt32 >>> ((8 : Int32) &&& 31).toUInt32).toInt32) &&& (255 : Int32))), .val (.int (((p1.toUInt32 >>> ((16 : Int32) &&& 31).toUInt32).toInt32) &&& (255 : Int32))), .val (.int (p6 &&& (255 : Int32))), .val (.int ((p5 &&& (2147483647 : Int32)) % (10 : Int32))), .val (.ref b1), .val (.int i0), .val (.int i1), .val (.int i2), .val (.int m0), .val (.int m1), .val (.int m2), .unset, .unset] [(.int (1 : Int32))]) _
                refine own_go (fun t_ k_ => XS.istore X48.here hx rfl (hb hby at_271) rfl (l' := #[.val (.int p1), .val (.int p2), .val (.int p3), .val (.int p4), .val (.int p5), .val (.int p6), .val (.int (p1 &&& (255 : Int32))), .val (.int (((p1.toUInt32 >>> ((8 : Int32) &&& 31).toUInt32).toInt32) &&& (255 : Int32))), .val (.int (((p1.toUInt32 >>> ((16 : Int32) &&& 31).toUInt32).toInt32) &&& (255 : Int32))), .val (.int (p6 &&& (255 : Int32))), .val (.int ((p5 &&& (2147483647 : Int32)) % (10 : Int32))), .val (.ref b1), .val (.int i0), .val (.int i1), .val (.int i2), .val (.int m0), .val (.int m1), .val (.int m2), .val (.int (1 : Int32)), .unset]) rfl k_) ?_
                show own_G p.tables e below T48 (mkF m 273 #[.val (.int p1), .val (.int p2), .val (.int p3), .val (.int p4), .val (.int p5), .val (.int p6), .val (.int (p1 &&& (255 : Int32))), .val (.int (((p1.toUInt32 >>> ((8 : Int32) &&& 31).toUInt32).toInt32) &&& (255 : Int32))), .val (.int (((p1.toUInt32 >>> ((16 : Int32) &&& 31).toUInt32).toInt32) &&& (255 : Int32))), .val (.int (p6 &&& (255 : Int32))), .val (.int ((p5 &&& (2147483647 : Int32)) % (10 : Int32))), .val (.ref b1), .val (.int i0), .val (.int i1), .val (.int i2), .val (.int m0), .val (.int m1), .val (.int m2), .val (.int (1 : Int32)), .unset] []) _
                exact tail273 _ _ _ _ _ _ _ hi0 hi1 hi2 (by unfold own_eq; exact if_pos ⟨hc231_398.symm, hc238_399.symm, hc245_400.symm, hc251_401.symm, hc257_402.symm, hc263_403.symm⟩)
              · skip
                refine own_go (fun t_ k_ => XS.icmpYes X48.here hx rfl (pc0 := 263) (pc' := 270) rfl (hb hby at_263) rfl (feq hc263_403).2 (by decide) (by decide) k_) ?_
                show own_G p.tables e below T48 (mkF m 270 #[.val (.int p1), .val (.int p2), .val (.int p3), .val (.int p4), .val (.int p5), .val (.int p6), .val (.int (p1 &&& (255 : Int32))), .val (.int (((p1.toUInt32 >>> ((8 : Int32) &&& 31).toUInt32).toInt32) &&& (255 : Int32))), .val (.int (((p1.toUInt32 >>> ((16 : Int32) &&& 31).toUInt32).toInt32) &&& (255 : Int32))), .val (.int (p6 &&& (255 : Int32))), .val (.int ((p5 &&& (2147483647 : Int32)) % (10 : Int32))), .val (.ref b1), .val (.int i0), .val (.int i1), .val (.int i2), .val (.int m0), .val (.int m1), .val (.int m2), .unset, .unset] []) _
                refine own_go (fun t_ k_ => XS.iconst X48.here hx rfl (hb hby at_270) k_) ?_
                show own_G p.tables e below T48 (mkF m 271 #[.val (.int p1), .val (.int p2), .val (.int p3), .val (.int p4), .val (.int p5), .val (.int p6), .val (.int (p1 &&& (255 : Int32))), .val (.int (((p1.toUInt32 >>> ((8 : Int32) &&& 31).toUInt32).toInt32) &&& (255 : Int32))), .val (.int (((p1.toUInt32 >>> ((16 : Int32) &&& 31).toUInt32).toInt32) &&& (255 : Int32))), .val (.int (p6 &&& (255 : Int32))), .val (.int ((p5 &&& (2147483647 : Int32)) % (10 : Int32))), .val (.ref b1), .val (.int i0), .val (.int i1), .val (.int i2), .val (.int m0), .val (.int m1), .val (.int m2), .unset, .unset] [(.int (0 : Int32))]) _
                refine own_go (fun t_ k_ => XS.istore X48.here hx rfl (hb hby at_271) rfl (l' := #[.val (.int p1), .val (.int p2), .val (.int p3), .val (.int p4), .val (.int p5), .val (.int p6), .val (.int (p1 &&& (255 : Int32))), .val (.int (((p1.toUInt32 >>> ((8 : Int32) &&& 31).toUInt32).toInt32) &&& (255 : Int32))), .val (.int (((p1.toUInt32 >>> ((16 : Int32) &&& 31).toUInt32).toInt32) &&& (255 : Int32))), .val (.int (p6 &&& (255 : Int32))), .val (.int ((p5 &&& (2147483647 : Int32)) % (10 : Int32))), .val (.ref b1), .val (.int i0), .val (.int i1), .val (.int i2), .val (.int m0), .val (.int m1), .val (.int m2), .val (.int (0 : Int32)), .unset]) rfl k_) ?_
                show own_G p.tables e below T48 (mkF m 273 #[.val (.int p1), .val (.int p2), .val (.int p3), .val (.int p4), .val (.int p5), .val (.int p6), .val (.int (p1 &&& (255 : Int32))), .val (.int (((p1.toUInt32 >>> ((8 : Int32) &&& 31).toUInt32).toInt32) &&& (255 : Int32))), .val (.int (((p1.toUInt32 >>> ((16 : Int32) &&& 31).toUInt32).toInt32) &&& (255 : Int32))), .val (.int (p6 &&& (255 : Int32))), .val (.int ((p5 &&& (2147483647 : Int32)) % (10 : Int32))), .val (.ref b1), .val (.int i0), .val (.int i1), .val (.int i2), .val (.int m0), .val (.int m1), .val (.int m2), .val (.int (0 : Int32)), .unset] []) _
                exact tail273 _ _ _ _ _ _ _ hi0 hi1 hi2 (by unfold own_eq; exact if_neg (fun q => hc263_403 (q.2.2.2.2.2).symm))
            · skip
              refine own_go (fun t_ k_ => XS.icmpYes X48.here hx rfl (pc0 := 257) (pc' := 270) rfl (hb hby at_257) rfl (feq hc257_402).2 (by decide) (by decide) k_) ?_
              show own_G p.tables e below T48 (mkF m 270 #[.val (.int p1), .val (.int p2), .val (.int p3), .val (.int p4), .val (.int p5), .val (.int p6), .val (.int (p1 &&& (255 : Int32))), .val (.int (((p1.toUInt32 >>> ((8 : Int32) &&& 31).toUInt32).toInt32) &&& (255 : Int32))), .val (.int (((p1.toUInt32 >>> ((16 : Int32) &&& 31).toUInt32).toInt32) &&& (255 : Int32))), .val (.int (p6 &&& (255 : Int32))), .val (.int ((p5 &&& (2147483647 : Int32)) % (10 : Int32))), .val (.ref b1), .val (.int i0), .val (.int i1), .val (.int i2), .val (.int m0), .val (.int m1), .val (.int m2), .unset, .unset] []) _
              refine own_go (fun t_ k_ => XS.iconst X48.here hx rfl (hb hby at_270) k_) ?_
              show own_G p.tables e below T48 (mkF m 271 #[.val (.int p1), .val (.int p2), .val (.int p3), .val (.int p4), .val (.int p5), .val (.int p6), .val (.int (p1 &&& (255 : Int32))), .val (.int (((p1.toUInt32 >>> ((8 : Int32) &&& 31).toUInt32).toInt32) &&& (255 : Int32))), .val (.int (((p1.toUInt32 >>> ((16 : Int32) &&& 31).toUInt32).toInt32) &&& (255 : Int32))), .val (.int (p6 &&& (255 : Int32))), .val (.int ((p5 &&& (2147483647 : Int32)) % (10 : Int32))), .val (.ref b1), .val (.int i0), .val (.int i1), .val (.int i2), .val (.int m0), .val (.int m1), .val (.int m2), .unset, .unset] [(.int (0 : Int32))]) _
              refine own_go (fun t_ k_ => XS.istore X48.here hx rfl (hb hby at_271) rfl (l' := #[.val (.int p1), .val (.int p2), .val (.int p3), .val (.int p4), .val (.int p5), .val (.int p6), .val (.int (p1 &&& (255 : Int32))), .val (.int (((p1.toUInt32 >>> ((8 : Int32) &&& 31).toUInt32).toInt32) &&& (255 : Int32))), .val (.int (((p1.toUInt32 >>> ((16 : Int32) &&& 31).toUInt32).toInt32) &&& (255 : Int32))), .val (.int (p6 &&& (255 : Int32))), .val (.int ((p5 &&& (2147483647 : Int32)) % (10 : Int32))), .val (.ref b1), .val (.int i0), .val (.int i1), .val (.int i2), .val (.int m0), .val (.int m1), .val (.int m2), .val (.int (0 : Int32)), .unset]) rfl k_) ?_
              show own_G p.tables e below T48 (mkF m 273 #[.val (.int p1), .val (.int p2), .val (.int p3), .val (.int p4), .val (.int p5), .val (.int p6), .val (.int (p1 &&& (255 : Int32))), .val (.int (((p1.toUInt32 >>> ((8 : Int32) &&& 31).toUInt32).toInt32) &&& (255 : Int32))), .val (.int (((p1.toUInt32 >>> ((16 : Int32) &&& 31).toUInt32).toInt32) &&& (255 : Int32))), .val (.int (p6 &&& (255 : Int32))), .val (.int ((p5 &&& (2147483647 : Int32)) % (10 : Int32))), .val (.ref b1), .val (.int i0), .val (.int i1), .val (.int i2), .val (.int m0), .val (.int m1), .val (.int m2), .val (.int (0 : Int32)), .unset] []) _
              exact tail273 _ _ _ _ _ _ _ hi0 hi1 hi2 (by unfold own_eq; exact if_neg (fun q => hc257_402 (q.2.2.2.2.1).symm))
          · skip
            refine own_go (fun t_ k_ => XS.icmpYes X48.here hx rfl (pc0 := 251) (pc' := 270) rfl (hb hby at_251) rfl (feq hc251_401).2 (by decide) (by decide) k_) ?_
            show own_G p.tables e below T48 (mkF m 270 #[.val (.int p1), .val (.int p2), .val (.int p3), .val (.int p4), .val (.int p5), .val (.int p6), .val (.int (p1 &&& (255 : Int32))), .val (.int (((p1.toUInt32 >>> ((8 : Int32) &&& 31).toUInt32).toInt32) &&& (255 : Int32))), .val (.int (((p1.toUInt32 >>> ((16 : Int32) &&& 31).toUInt32).toInt32) &&& (255 : Int32))), .val (.int (p6 &&& (255 : Int32))), .val (.int ((p5 &&& (2147483647 : Int32)) % (10 : Int32))), .val (.ref b1), .val (.int i0), .val (.int i1), .val (.int i2), .val (.int m0), .val (.int m1), .val (.int m2), .unset, .unset] []) _
            refine own_go (fun t_ k_ => XS.iconst X48.here hx rfl (hb hby at_270) k_) ?_
            show own_G p.tables e below T48 (mkF m 271 #[.val (.int p1), .val (.int p2), .val (.int p3), .val (.int p4), .val (.int p5), .val (.int p6), .val (.int (p1 &&& (255 : Int32))), .val (.int (((p1.toUInt32 >>> ((8 : Int32) &&& 31).toUInt32).toInt32) &&& (255 : Int32))), .val (.int (((p1.toUInt32 >>> ((16 : Int32) &&& 31).toUInt32).toInt32) &&& (255 : Int32))), .val (.int (p6 &&& (255 : Int32))), .val (.int ((p5 &&& (2147483647 : Int32)) % (10 : Int32))), .val (.ref b1), .val (.int i0), .val (.int i1), .val (.int i2), .val (.int m0), .val (.int m1), .val (.int m2), .unset, .unset] [(.int (0 : Int32))]) _
            refine own_go (fun t_ k_ => XS.istore X48.here hx rfl (hb hby at_271) rfl (l' := #[.val (.int p1), .val (.int p2), .val (.int p3), .val (.int p4), .val (.int p5), .val (.int p6), .val (.int (p1 &&& (255 : Int32))), .val (.int (((p1.toUInt32 >>> ((8 : Int32) &&& 31).toUInt32).toInt32) &&& (255 : Int32))), .val (.int (((p1.toUInt32 >>> ((16 : Int32) &&& 31).toUInt32).toInt32) &&& (255 : Int32))), .val (.int (p6 &&& (255 : Int32))), .val (.int ((p5 &&& (2147483647 : Int32)) % (10 : Int32))), .val (.ref b1), .val (.int i0), .val (.int i1), .val (.int i2), .val (.int m0), .val (.int m1), .val (.int m2), .val (.int (0 : Int32)), .unset]) rfl k_) ?_
            show own_G p.tables e below T48 (mkF m 273 #[.val (.int p1), .val (.int p2), .val (.int p3), .val (.int p4), .val (.int p5), .val (.int p6), .val (.int (p1 &&& (255 : Int32))), .val (.int (((p1.toUInt32 >>> ((8 : Int32) &&& 31).toUInt32).toInt32) &&& (255 : Int32))), .val (.int (((p1.toUInt32 >>> ((16 : Int32) &&& 31).toUInt32).toInt32) &&& (255 : Int32))), .val (.int (p6 &&& (255 : Int32))), .val (.int ((p5 &&& (2147483647 : Int32)) % (10 : Int32))), .val (.ref b1), .val (.int i0), .val (.int i1), .val (.int i2), .val (.int m0), .val (.int m1), .val (.int m2), .val (.int (0 : Int32)), .unset] []) _
            exact tail273 _ _ _ _ _ _ _ hi0 hi1 hi2 (by unfold own_eq; exact if_neg (fun q => hc251_401 (q.2.2.2.1).symm))
        · skip
          refine own_go (fun t_ k_ => XS.icmpYes X48.here hx rfl (pc0 := 245) (pc' := 270) rfl (hb hby at_245) rfl (feq hc245_400).2 (by decide) (by decide) k_) ?_
          show own_G p.tables e below T48 (mkF m 270 #[.val (.int p1), .val (.int p2), .val (.int p3), .val (.int p4), .val (.int p5), .val (.int p6), .val (.int (p1 &&& (255 : Int32))), .val (.int (((p1.toUInt32 >>> ((8 : Int32) &&& 31).toUInt32).toInt32) &&& (255 : Int32))), .val (.int (((p1.toUInt32 >>> ((16 : Int32) &&& 31).toUInt32).toInt32) &&& (255 : Int32))), .val (.int (p6 &&& (255 : Int32))), .val (.int ((p5 &&& (2147483647 : Int32)) % (10 : Int32))), .val (.ref b1), .val (.int i0), .val (.int i1), .val (.int i2), .val (.int m0), .val (.int m1), .val (.int m2), .unset, .unset] []) _
          refine own_go (fun t_ k_ => XS.iconst X48.here hx rfl (hb hby at_270) k_) ?_
          show own_G p.tables e below T48 (mkF m 271 #[.val (.int p1), .val (.int p2), .val (.int p3), .val (.int p4), .val (.int p5), .val (.int p6), .val (.int (p1 &&& (255 : Int32))), .val (.int (((p1.toUInt32 >>> ((8 : Int32) &&& 31).toUInt32).toInt32) &&& (255 : Int32))), .val (.int (((p1.toUInt32 >>> ((16 : Int32) &&& 31).toUInt32).toInt32) &&& (255 : Int32))), .val (.int (p6 &&& (255 : Int32))), .val (.int ((p5 &&& (2147483647 : Int32)) % (10 : Int32))), .val (.ref b1), .val (.int i0), .val (.int i1), .val (.int i2), .val (.int m0), .val (.int m1), .val (.int m2), .unset, .unset] [(.int (0 : Int32))]) _
          refine own_go (fun t_ k_ => XS.istore X48.here hx rfl (hb hby at_271) rfl (l' := #[.val (.int p1), .val (.int p2), .val (.int p3), .val (.int p4), .val (.int p5), .val (.int p6), .val (.int (p1 &&& (255 : Int32))), .val (.int (((p1.toUInt32 >>> ((8 : Int32) &&& 31).toUInt32).toInt32) &&& (255 : Int32))), .val (.int (((p1.toUInt32 >>> ((16 : Int32) &&& 31).toUInt32).toInt32) &&& (255 : Int32))), .val (.int (p6 &&& (255 : Int32))), .val (.int ((p5 &&& (2147483647 : Int32)) % (10 : Int32))), .val (.ref b1), .val (.int i0), .val (.int i1), .val (.int i2), .val (.int m0), .val (.int m1), .val (.int m2), .val (.int (0 : Int32)), .unset]) rfl k_) ?_
          show own_G p.tables e below T48 (mkF m 273 #[.val (.int p1), .val (.int p2), .val (.int p3), .val (.int p4), .val (.int p5), .val (.int p6), .val (.int (p1 &&& (255 : Int32))), .val (.int (((p1.toUInt32 >>> ((8 : Int32) &&& 31).toUInt32).toInt32) &&& (255 : Int32))), .val (.int (((p1.toUInt32 >>> ((16 : Int32) &&& 31).toUInt32).toInt32) &&& (255 : Int32))), .val (.int (p6 &&& (255 : Int32))), .val (.int ((p5 &&& (2147483647 : Int32)) % (10 : Int32))), .val (.ref b1), .val (.int i0), .val (.int i1), .val (.int i2), .val (.int m0), .val (.int m1), .val (.int m2), .val (.int (0 : Int32)), .unset] []) _
          exact tail273 _ _ _ _ _ _ _ hi0 hi1 hi2 (by unfold own_eq; exact if_neg (fun q => hc245_400 (q.2.2.1).symm))
      · skip
        refine own_go (fun t_ k_ => XS.icmpYes X48.here hx rfl (pc0 := 238) (pc' := 270) rfl (hb hby at_238) rfl (feq hc238_399).2 (by decide) (by decide) k_) ?_
        show own_G p.tables e below T48 (mkF m 270 #[.val (.int p1), .val (.int p2), .val (.int p3), .val (.int p4), .val (.int p5), .val (.int p6), .val (.int (p1 &&& (255 : Int32))), .val (.int (((p1.toUInt32 >>> ((8 : Int32) &&& 31).toUInt32).toInt32) &&& (255 : Int32))), .val (.int (((p1.toUInt32 >>> ((16 : Int32) &&& 31).toUInt32).toInt32) &&& (255 : Int32))), .val (.int (p6 &&& (255 : Int32))), .val (.int ((p5 &&& (2147483647 : Int32)) % (10 : Int32))), .val (.ref b1), .val (.int i0), .val (.int i1), .val (.int i2), .val (.int m0), .val (.int m1), .val (.int m2), .unset, .unset] []) _
        refine own_go (fun t_ k_ => XS.iconst X48.here hx rfl (hb hby at_270) k_) ?_
        show own_G p.tables e below T48 (mkF m 271 #[.val (.int p1), .val (.int p2), .val (.int p3), .val (.int p4), .val (.int p5), .val (.int p6), .val (.int (p1 &&& (255 : Int32))), .val (.int (((p1.toUInt32 >>> ((8 : Int32) &&& 31).toUInt32).toInt32) &&& (255 : Int32))), .val (.int (((p1.toUInt32 >>> ((16 : Int32) &&& 31).toUInt32).toInt32) &&& (255 : Int32))), .val (.int (p6 &&& (255 : Int32))), .val (.int ((p5 &&& (2147483647 : Int32)) % (10 : Int32))), .val (.ref b1), .val (.int i0), .val (.int i1), .val (.int i2), .val (.int m0), .val (.int m1), .val (.int m2), .unset, .unset] [(.int (0 : Int32))]) _
        refine own_go (fun t_ k_ => XS.istore X48.here hx rfl (hb hby at_271) rfl (l' := #[.val (.int p1), .val (.int p2), .val (.int p3), .val (.int p4), .val (.int p5), .val (.int p6), .val (.int (p1 &&& (255 : Int32))), .val (.int (((p1.toUInt32 >>> ((8 : Int32) &&& 31).toUInt32).toInt32) &&& (255 : Int32))), .val (.int (((p1.toUInt32 >>> ((16 : Int32) &&& 31).toUInt32).toInt32) &&& (255 : Int32))), .val (.int (p6 &&& (255 : Int32))), .val (.int ((p5 &&& (2147483647 : Int32)) % (10 : Int32))), .val (.ref b1), .val (.int i0), .val (.int i1), .val (.int i2), .val (.int m0), .val (.int m1), .val (.int m2), .val (.int (0 : Int32)), .unset]) rfl k_) ?_
        show own_G p.tables e below T48 (mkF m 273 #[.val (.int p1), .val (.int p2), .val (.int p3), .val (.int p4), .val (.int p5), .val (.int p6), .val (.int (p1 &&& (255 : Int32))), .val (.int (((p1.toUInt32 >>> ((8 : Int32) &&& 31).toUInt32).toInt32) &&& (255 : Int32))), .val (.int (((p1.toUInt32 >>> ((16 : Int32) &&& 31).toUInt32).toInt32) &&& (255 : Int32))), .val (.int (p6 &&& (255 : Int32))), .val (.int ((p5 &&& (2147483647 : Int32)) % (10 : Int32))), .val (.ref b1), .val (.int i0), .val (.int i1), .val (.int i2), .val (.int m0), .val (.int m1), .val (.int m2), .val (.int (0 : Int32)), .unset] []) _
        exact tail273 _ _ _ _ _ _ _ hi0 hi1 hi2 (by unfold own_eq; exact if_neg (fun q => hc238_399 (q.2.1).symm))
    · skip
      refine own_go (fun t_ k_ => XS.icmpYes X48.here hx rfl (pc0 := 231) (pc' := 270) rfl (hb hby at_231) rfl (feq hc231_398).2 (by decide) (by decide) k_) ?_
      show own_G p.tables e below T48 (mkF m 270 #[.val (.int p1), .val (.int p2), .val (.int p3), .val (.int p4), .val (.int p5), .val (.int p6), .val (.int (p1 &&& (255 : Int32))), .val (.int (((p1.toUInt32 >>> ((8 : Int32) &&& 31).toUInt32).toInt32) &&& (255 : Int32))), .val (.int (((p1.toUInt32 >>> ((16 : Int32) &&& 31).toUInt32).toInt32) &&& (255 : Int32))), .val (.int (p6 &&& (255 : Int32))), .val (.int ((p5 &&& (2147483647 : Int32)) % (10 : Int32))), .val (.ref b1), .val (.int i0), .val (.int i1), .val (.int i2), .val (.int m0), .val (.int m1), .val (.int m2), .unset, .unset] []) _
      refine own_go (fun t_ k_ => XS.iconst X48.here hx rfl (hb hby at_270) k_) ?_
      show own_G p.tables e below T48 (mkF m 271 #[.val (.int p1), .val (.int p2), .val (.int p3), .val (.int p4), .val (.int p5), .val (.int p6), .val (.int (p1 &&& (255 : Int32))), .val (.int (((p1.toUInt32 >>> ((8 : Int32) &&& 31).toUInt32).toInt32) &&& (255 : Int32))), .val (.int (((p1.toUInt32 >>> ((16 : Int32) &&& 31).toUInt32).toInt32) &&& (255 : Int32))), .val (.int (p6 &&& (255 : Int32))), .val (.int ((p5 &&& (2147483647 : Int32)) % (10 : Int32))), .val (.ref b1), .val (.int i0), .val (.int i1), .val (.int i2), .val (.int m0), .val (.int m1), .val (.int m2), .unset, .unset] [(.int (0 : Int32))]) _
      refine own_go (fun t_ k_ => XS.istore X48.here hx rfl (hb hby at_271) rfl (l' := #[.val (.int p1), .val (.int p2), .val (.int p3), .val (.int p4), .val (.int p5), .val (.int p6), .val (.int (p1 &&& (255 : Int32))), .val (.int (((p1.toUInt32 >>> ((8 : Int32) &&& 31).toUInt32).toInt32) &&& (255 : Int32))), .val (.int (((p1.toUInt32 >>> ((16 : Int32) &&& 31).toUInt32).toInt32) &&& (255 : Int32))), .val (.int (p6 &&& (255 : Int32))), .val (.int ((p5 &&& (2147483647 : Int32)) % (10 : Int32))), .val (.ref b1), .val (.int i0), .val (.int i1), .val (.int i2), .val (.int m0), .val (.int m1), .val (.int m2), .val (.int (0 : Int32)), .unset]) rfl k_) ?_
      show own_G p.tables e below T48 (mkF m 273 #[.val (.int p1), .val (.int p2), .val (.int p3), .val (.int p4), .val (.int p5), .val (.int p6), .val (.int (p1 &&& (255 : Int32))), .val (.int (((p1.toUInt32 >>> ((8 : Int32) &&& 31).toUInt32).toInt32) &&& (255 : Int32))), .val (.int (((p1.toUInt32 >>> ((16 : Int32) &&& 31).toUInt32).toInt32) &&& (255 : Int32))), .val (.int (p6 &&& (255 : Int32))), .val (.int ((p5 &&& (2147483647 : Int32)) % (10 : Int32))), .val (.ref b1), .val (.int i0), .val (.int i1), .val (.int i2), .val (.int m0), .val (.int m1), .val (.int m2), .val (.int (0 : Int32)), .unset] []) _
      exact tail273 _ _ _ _ _ _ _ hi0 hi1 hi2 (by unfold own_eq; exact if_neg (fun q => hc231_398 (q.1).symm))
  refine own_go (fun t_ k_ => XS.iload X48.here hx rfl (hb hby at_76) rfl k_) ?_
  show own_G p.tables e below T48 (mkF m 78 #[.val (.int p1), .val (.int p2), .val (.int p3), .val (.int p4), .val (.int p5), .val (.int p6), .val (.int (p1 &&& (255 : Int32))), .val (.int (((p1.toUInt32 >>> ((8 : Int32) &&& 31).toUInt32).toInt32) &&& (255 : Int32))), .val (.int (((p1.toUInt32 >>> ((16 : Int32) &&& 31).toUInt32).toInt32) &&& (255 : Int32))), .val (.int (p6 &&& (255 : Int32))), .val (.int ((p5 &&& (2147483647 : Int32)) % (10 : Int32))), .val (.ref b1), .unset, .unset, .unset, .unset, .unset, .unset, .unset, .unset] [(.int ((p5 &&& (2147483647 : Int32)) % (10 : Int32)))]) _
  refine own_go (fun t_ k_ => XS.bipush X48.here hx rfl (hb hby at_78) k_) ?_
  show own_G p.tables e below T48 (mkF m 80 #[.val (.int p1), .val (.int p2), .val (.int p3), .val (.int p4), .val (.int p5), .val (.int p6), .val (.int (p1 &&& (255 : Int32))), .val (.int (((p1.toUInt32 >>> ((8 : Int32) &&& 31).toUInt32).toInt32) &&& (255 : Int32))), .val (.int (((p1.toUInt32 >>> ((16 : Int32) &&& 31).toUInt32).toInt32) &&& (255 : Int32))), .val (.int (p6 &&& (255 : Int32))), .val (.int ((p5 &&& (2147483647 : Int32)) % (10 : Int32))), .val (.ref b1), .unset, .unset, .unset, .unset, .unset, .unset, .unset, .unset] [(.int (7 : Int32)), (.int ((p5 &&& (2147483647 : Int32)) % (10 : Int32)))]) _
  by_cases hc80_404 : ((p5 &&& (2147483647 : Int32)) % (10 : Int32)) = (7 : Int32)
  · skip
    refine own_go (fun t_ k_ => XS.icmpNo X48.here hx rfl (hb hby at_80) rfl (teq hc80_404).2 k_) ?_
    show own_G p.tables e below T48 (mkF m 83 #[.val (.int p1), .val (.int p2), .val (.int p3), .val (.int p4), .val (.int p5), .val (.int p6), .val (.int (p1 &&& (255 : Int32))), .val (.int (((p1.toUInt32 >>> ((8 : Int32) &&& 31).toUInt32).toInt32) &&& (255 : Int32))), .val (.int (((p1.toUInt32 >>> ((16 : Int32) &&& 31).toUInt32).toInt32) &&& (255 : Int32))), .val (.int (p6 &&& (255 : Int32))), .val (.int ((p5 &&& (2147483647 : Int32)) % (10 : Int32))), .val (.ref b1), .unset, .unset, .unset, .unset, .unset, .unset, .unset, .unset] []) _
    refine own_go (fun t_ k_ => XS.aload X48.here hx rfl (hb hby at_83) rfl rfl k_) ?_
    show own_G p.tables e below T48 (mkF m 85 #[.val (.int p1), .val (.int p2), .val (.int p3), .val (.int p4), .val (.int p5), .val (.int p6), .val (.int (p1 &&& (255 : Int32))), .val (.int (((p1.toUInt32 >>> ((8 : Int32) &&& 31).toUInt32).toInt32) &&& (255 : Int32))), .val (.int (((p1.toUInt32 >>> ((16 : Int32) &&& 31).toUInt32).toInt32) &&& (255 : Int32))), .val (.int (p6 &&& (255 : Int32))), .val (.int ((p5 &&& (2147483647 : Int32)) % (10 : Int32))), .val (.ref b1), .unset, .unset, .unset, .unset, .unset, .unset, .unset, .unset] [(.ref b1)]) _
    refine own_go (fun t_ k_ => XS.aconstNull X48.here hx rfl (hb hby at_85) k_) ?_
    show own_G p.tables e below T48 (mkF m 86 #[.val (.int p1), .val (.int p2), .val (.int p3), .val (.int p4), .val (.int p5), .val (.int p6), .val (.int (p1 &&& (255 : Int32))), .val (.int (((p1.toUInt32 >>> ((8 : Int32) &&& 31).toUInt32).toInt32) &&& (255 : Int32))), .val (.int (((p1.toUInt32 >>> ((16 : Int32) &&& 31).toUInt32).toInt32) &&& (255 : Int32))), .val (.int (p6 &&& (255 : Int32))), .val (.int ((p5 &&& (2147483647 : Int32)) % (10 : Int32))), .val (.ref b1), .unset, .unset, .unset, .unset, .unset, .unset, .unset, .unset] [.null, (.ref b1)]) _
    have f405 : n0 ≤ T48.heap.size := (Nat.le_trans f39 K48.1)
    obtain ⟨cq406, kq406, q406a, q406b, q406c⟩ := isOf hZ rfl Ex48
    obtain ⟨_, _, ⟨T406, L406, k406, n406⟩, -, X406, ⟨Lc406, hQ406, l406, y406, z406⟩, st406⟩ := X48.virtualBack hx (y := (⟨"com/example/line_to_seat/linetoseat/store/SectionSeats", "equals", "(Ljava/lang/Object;)Z"⟩ : MethodName)) (z := (⟨"com/example/line_to_seat/linetoseat/store/SectionSeats", "equals", "(Ljava/lang/Object;)Z"⟩ : MethodName)) hown (mvT hZ (hw _ (List.mem_of_getElem? (i := 64) rfl))) (mvT hZ (hw _ (List.mem_of_getElem? (i := 65) rfl))) (notFace_of_selects (args := #[]) (mvT hZ (hw _ (List.mem_of_getElem? (i := 67) rfl)))) (mvT hZ (hw _ (List.mem_of_getElem? (i := 67) rfl))) (mvT hZ (hw _ (List.mem_of_getElem? (i := 66) rfl))) (by decide) (backOf (W := 0) (rm12N l Z a0 hw [] b1 T48.heap n0 f405) hZ (hw _ (List.mem_of_getElem? (i := 68) rfl)) (hw _ (List.mem_of_getElem? (i := 3) rfl)) (by decide) (by decide)) q406a q406c (g := (mkF m 86 #[.val (.int p1), .val (.int p2), .val (.int p3), .val (.int p4), .val (.int p5), .val (.int p6), .val (.int (p1 &&& (255 : Int32))), .val (.int (((p1.toUInt32 >>> ((8 : Int32) &&& 31).toUInt32).toInt32) &&& (255 : Int32))), .val (.int (((p1.toUInt32 >>> ((16 : Int32) &&& 31).toUInt32).toInt32) &&& (255 : Int32))), .val (.int (p6 &&& (255 : Int32))), .val (.int ((p5 &&& (2147483647 : Int32)) % (10 : Int32))), .val (.ref b1), .unset, .unset, .unset, .unset, .unset, .unset, .unset, .unset] [.null, (.ref b1)])) rfl (by rw [hml]; rfl) (Steps.refl _) (argsL := [.null]) (rest := []) (lenOf own_pd3 rfl) rfl (by show 2 * 0 + _ ≤ _; exact Nat.le_of_eq rfl) (hb hby at_86) (fun _ _ => ⟨rfl, rfl, (by decide : 7 + 0 ≤ _), (by decide : 21 + 0 ≤ _)⟩)
    dsimp only [Pt.U, Pt.locs, Pt.cells, Pt.slots] at X406 l406 y406 z406 st406 hQ406
    subst l406 y406 z406
    obtain ⟨rfl, N406q, e406⟩ := hQ406
    have N406 := Fr.app N48 N406q
    refine own_go (fun t_ k_ => st406.trans k_) ?_
    show own_G p.tables e below T406 (mkF m 89 #[.val (.int p1), .val (.int p2), .val (.int p3), .val (.int p4), .val (.int p5), .val (.int p6), .val (.int (p1 &&& (255 : Int32))), .val (.int (((p1.toUInt32 >>> ((8 : Int32) &&& 31).toUInt32).toInt32) &&& (255 : Int32))), .val (.int (((p1.toUInt32 >>> ((16 : Int32) &&& 31).toUInt32).toInt32) &&& (255 : Int32))), .val (.int (p6 &&& (255 : Int32))), .val (.int ((p5 &&& (2147483647 : Int32)) % (10 : Int32))), .val (.ref b1), .unset, .unset, .unset, .unset, .unset, .unset, .unset, .unset] [(.int (0 : Int32))]) _
    refine own_go (fun t_ k_ => XS.ifNo X406.here hx rfl (hb hby at_89) rfl ((if0 _ _).trans (teq (by decide : ((0 : Int32) = (0 : Int32)))).2) k_) ?_
    show own_G p.tables e below T406 (mkF m 92 #[.val (.int p1), .val (.int p2), .val (.int p3), .val (.int p4), .val (.int p5), .val (.int p6), .val (.int (p1 &&& (255 : Int32))), .val (.int (((p1.toUInt32 >>> ((8 : Int32) &&& 31).toUInt32).toInt32) &&& (255 : Int32))), .val (.int (((p1.toUInt32 >>> ((16 : Int32) &&& 31).toUInt32).toInt32) &&& (255 : Int32))), .val (.int (p6 &&& (255 : Int32))), .val (.int ((p5 &&& (2147483647 : Int32)) % (10 : Int32))), .val (.ref b1), .unset, .unset, .unset, .unset, .unset, .unset, .unset, .unset] []) _
    refine own_go (fun t_ k_ => XS.iconst X406.here hx rfl (hb hby at_92) k_) ?_
    show own_G p.tables e below T406 (mkF m 93 #[.val (.int p1), .val (.int p2), .val (.int p3), .val (.int p4), .val (.int p5), .val (.int p6), .val (.int (p1 &&& (255 : Int32))), .val (.int (((p1.toUInt32 >>> ((8 : Int32) &&& 31).toUInt32).toInt32) &&& (255 : Int32))), .val (.int (((p1.toUInt32 >>> ((16 : Int32) &&& 31).toUInt32).toInt32) &&& (255 : Int32))), .val (.int (p6 &&& (255 : Int32))), .val (.int ((p5 &&& (2147483647 : Int32)) % (10 : Int32))), .val (.ref b1), .unset, .unset, .unset, .unset, .unset, .unset, .unset, .unset] [(.int (1 : Int32))]) _
    refine own_go (fun t_ k_ => XS.goto X406.here hx rfl (pc0 := 93) (pc' := 97) rfl (hb hby at_93) (by decide) (by decide) k_) ?_
    show own_G p.tables e below T406 (mkF m 97 #[.val (.int p1), .val (.int p2), .val (.int p3), .val (.int p4), .val (.int p5), .val (.int p6), .val (.int (p1 &&& (255 : Int32))), .val (.int (((p1.toUInt32 >>> ((8 : Int32) &&& 31).toUInt32).toInt32) &&& (255 : Int32))), .val (.int (((p1.toUInt32 >>> ((16 : Int32) &&& 31).toUInt32).toInt32) &&& (255 : Int32))), .val (.int (p6 &&& (255 : Int32))), .val (.int ((p5 &&& (2147483647 : Int32)) % (10 : Int32))), .val (.ref b1), .unset, .unset, .unset, .unset, .unset, .unset, .unset, .unset] [(.int (1 : Int32))]) _
    exact own_end (v := some (.int (1 : Int32))) X406 Bd.notSynchronized (fun h => by rw [Bd.returns] at h; cases h) (fun fs hr => retN X406 hx (z := (1 : Int32)) (t := .boolean) Bd.returns (by simp) (hb hby at_97) hr) e406 ⟨rfl, N406⟩ (by decide) (by decide)
  · skip
    refine own_go (fun t_ k_ => XS.icmpYes X48.here hx rfl (pc0 := 80) (pc' := 98) rfl (hb hby at_80) rfl (feq hc80_404).2 (by decide) (by decide) k_) ?_
    show own_G p.tables e below T48 (mkF m 98 #[.val (.int p1), .val (.int p2), .val (.int p3), .val (.int p4), .val (.int p5), .val (.int p6), .val (.int (p1 &&& (255 : Int32))), .val (.int (((p1.toUInt32 >>> ((8 : Int32) &&& 31).toUInt32).toInt32) &&& (255 : Int32))), .val (.int (((p1.toUInt32 >>> ((16 : Int32) &&& 31).toUInt32).toInt32) &&& (255 : Int32))), .val (.int (p6 &&& (255 : Int32))), .val (.int ((p5 &&& (2147483647 : Int32)) % (10 : Int32))), .val (.ref b1), .unset, .unset, .unset, .unset, .unset, .unset, .unset, .unset] []) _
    refine own_go (fun t_ k_ => XS.iload X48.here hx rfl (hb hby at_98) rfl k_) ?_
    show own_G p.tables e below T48 (mkF m 100 #[.val (.int p1), .val (.int p2), .val (.int p3), .val (.int p4), .val (.int p5), .val (.int p6), .val (.int (p1 &&& (255 : Int32))), .val (.int (((p1.toUInt32 >>> ((8 : Int32) &&& 31).toUInt32).toInt32) &&& (255 : Int32))), .val (.int (((p1.toUInt32 >>> ((16 : Int32) &&& 31).toUInt32).toInt32) &&& (255 : Int32))), .val (.int (p6 &&& (255 : Int32))), .val (.int ((p5 &&& (2147483647 : Int32)) % (10 : Int32))), .val (.ref b1), .unset, .unset, .unset, .unset, .unset, .unset, .unset, .unset] [(.int ((p5 &&& (2147483647 : Int32)) % (10 : Int32)))]) _
    refine own_go (fun t_ k_ => XS.bipush X48.here hx rfl (hb hby at_100) k_) ?_
    show own_G p.tables e below T48 (mkF m 102 #[.val (.int p1), .val (.int p2), .val (.int p3), .val (.int p4), .val (.int p5), .val (.int p6), .val (.int (p1 &&& (255 : Int32))), .val (.int (((p1.toUInt32 >>> ((8 : Int32) &&& 31).toUInt32).toInt32) &&& (255 : Int32))), .val (.int (((p1.toUInt32 >>> ((16 : Int32) &&& 31).toUInt32).toInt32) &&& (255 : Int32))), .val (.int (p6 &&& (255 : Int32))), .val (.int ((p5 &&& (2147483647 : Int32)) % (10 : Int32))), .val (.ref b1), .unset, .unset, .unset, .unset, .unset, .unset, .unset, .unset] [(.int (8 : Int32)), (.int ((p5 &&& (2147483647 : Int32)) % (10 : Int32)))]) _
    by_cases hc102_407 : ((p5 &&& (2147483647 : Int32)) % (10 : Int32)) = (8 : Int32)
    · skip
      refine own_go (fun t_ k_ => XS.icmpNo X48.here hx rfl (hb hby at_102) rfl (teq hc102_407).2 k_) ?_
      show own_G p.tables e below T48 (mkF m 105 #[.val (.int p1), .val (.int p2), .val (.int p3), .val (.int p4), .val (.int p5), .val (.int p6), .val (.int (p1 &&& (255 : Int32))), .val (.int (((p1.toUInt32 >>> ((8 : Int32) &&& 31).toUInt32).toInt32) &&& (255 : Int32))), .val (.int (((p1.toUInt32 >>> ((16 : Int32) &&& 31).toUInt32).toInt32) &&& (255 : Int32))), .val (.int (p6 &&& (255 : Int32))), .val (.int ((p5 &&& (2147483647 : Int32)) % (10 : Int32))), .val (.ref b1), .unset, .unset, .unset, .unset, .unset, .unset, .unset, .unset] []) _
      refine own_go (fun t_ k_ => XS.aload X48.here hx rfl (hb hby at_105) rfl rfl k_) ?_
      show own_G p.tables e below T48 (mkF m 107 #[.val (.int p1), .val (.int p2), .val (.int p3), .val (.int p4), .val (.int p5), .val (.int p6), .val (.int (p1 &&& (255 : Int32))), .val (.int (((p1.toUInt32 >>> ((8 : Int32) &&& 31).toUInt32).toInt32) &&& (255 : Int32))), .val (.int (((p1.toUInt32 >>> ((16 : Int32) &&& 31).toUInt32).toInt32) &&& (255 : Int32))), .val (.int (p6 &&& (255 : Int32))), .val (.int ((p5 &&& (2147483647 : Int32)) % (10 : Int32))), .val (.ref b1), .unset, .unset, .unset, .unset, .unset, .unset, .unset, .unset] [(.ref b1)]) _
      refine own_go (fun t_ k_ => XS.iload X48.here hx rfl (hb hby at_107) rfl k_) ?_
      show own_G p.tables e below T48 (mkF m 109 #[.val (.int p1), .val (.int p2), .val (.int p3), .val (.int p4), .val (.int p5), .val (.int p6), .val (.int (p1 &&& (255 : Int32))), .val (.int (((p1.toUInt32 >>> ((8 : Int32) &&& 31).toUInt32).toInt32) &&& (255 : Int32))), .val (.int (((p1.toUInt32 >>> ((16 : Int32) &&& 31).toUInt32).toInt32) &&& (255 : Int32))), .val (.int (p6 &&& (255 : Int32))), .val (.int ((p5 &&& (2147483647 : Int32)) % (10 : Int32))), .val (.ref b1), .unset, .unset, .unset, .unset, .unset, .unset, .unset, .unset] [(.int (p1 &&& (255 : Int32))), (.ref b1)]) _
      have f408 : n0 ≤ T48.heap.size := (Nat.le_trans f39 K48.1)
      have f409 : Sta Z T48.heap "java/lang/String" "COMPACT_STRINGS" "Z" (.int cs) := (own_sk f41 K48 (own_pl1 (own_pl f40)))
      have f410 : Exa Z T48.heap a10 "java/lang/String" := ((f26.keep K28).keep K48)
      have f411 : Arv Z T48.heap t10 kb10 .byte (1 : Int32) [(.int (p1 &&& (255 : Int32)).toInt8.toInt32)] (.int (0 : Int32)) := ((f27.keep K28 List.not_mem_nil).keep K48 (fun q => (Ne.symm ne12) (List.mem_singleton.mp q)))
      have f412 : Exa Z T48.heap a16 "java/lang/String" := ((Ea16.keep K28).keep K48)
      have f413 : Arv Z T48.heap t16 kb16 .byte (1 : Int32) [(.int (((p1.toUInt32 >>> ((8 : Int32) &&& 31).toUInt32).toInt32) &&& (255 : Int32)).toInt8.toInt32)] (.int (0 : Int32)) := ((Ta16.keep K28 List.not_mem_nil).keep K48 (fun q => (Ne.symm ne20) (List.mem_singleton.mp q)))
      have f414 : Exa Z T48.heap a28 "java/lang/String" := (Ea28.keep K48)
      have f415 : Arv Z T48.heap t28 kb28 .byte (1 : Int32) [(.int (((p1.toUInt32 >>> ((16 : Int32) &&& 31).toUInt32).toInt32) &&& (255 : Int32)).toInt8.toInt32)] (.int (0 : Int32)) := (Ta28.keep K48 (fun q => (Ne.symm ne34) (List.mem_singleton.mp q)))
      obtain ⟨_, _, ⟨T416, L416, k416, n416⟩, -, X416, ⟨Lc416, hQ416, l416, y416, z416⟩, st416⟩ := Jvm.LawKit.callS X48 hx (y := (⟨"java/lang/String", "valueOf", "(C)Ljava/lang/String;"⟩ : MethodName)) hown (mvT hZ (hw _ (List.mem_of_getElem? (i := 4) rfl))) (mvT hZ (hw _ (List.mem_of_getElem? (i := 5) rfl))) (mvT hZ (hw _ (List.mem_of_getElem? (i := 6) rfl))) (mvT hZ (hw _ (List.mem_of_getElem? (i := 7) rfl))) (by decide) (backOf (W := 1) (rm1 l Z a0 hw [] (p1 &&& (255 : Int32)) cs T48.heap n0 f408 f409 hcs (own_m255 _)) hZ (hw _ (List.mem_of_getElem? (i := 7) rfl)) (hw _ (List.mem_of_getElem? (i := 6) rfl)) (by decide) (by decide)) (g := (mkF m 109 #[.val (.int p1), .val (.int p2), .val (.int p3), .val (.int p4), .val (.int p5), .val (.int p6), .val (.int (p1 &&& (255 : Int32))), .val (.int (((p1.toUInt32 >>> ((8 : Int32) &&& 31).toUInt32).toInt32) &&& (255 : Int32))), .val (.int (((p1.toUInt32 >>> ((16 : Int32) &&& 31).toUInt32).toInt32) &&& (255 : Int32))), .val (.int (p6 &&& (255 : Int32))), .val (.int ((p5 &&& (2147483647 : Int32)) % (10 : Int32))), .val (.ref b1), .unset, .unset, .unset, .unset, .unset, .unset, .unset, .unset] [(.int (p1 &&& (255 : Int32))), (.ref b1)])) rfl (by rw [hml]; rfl) (argsL := [(.int (p1 &&& (255 : Int32)))]) (rest := [(.ref b1)]) (lenOf own_pd4 rfl) rfl (by show 2 * 0 + _ ≤ _; exact Nat.le_of_eq rfl) (hb hby at_109) (fun _ _ => ⟨rfl, rfl, (by decide : 7 + 2 ≤ _), (by decide : 21 + 5 ≤ _)⟩)
      dsimp only [Pt.U, Pt.locs, Pt.cells, Pt.slots] at X416 l416 y416 z416 st416 hQ416
      subst l416 y416 z416
      obtain ⟨a416, t416, kb416, rfl, N416q, K416, ga416, sa416, sta416, nat416, Ea416, Ca416, Va416, Ta416⟩ := hQ416
      have N416 := Fr.app N48 N416q
      refine own_go st416 ?_
      show own_G p.tables e below T416 (mkF m 112 #[.val (.int p1), .val (.int p2), .val (.int p3), .val (.int p4), .val (.int p5), .val (.int p6), .val (.int (p1 &&& (255 : Int32))), .val (.int (((p1.toUInt32 >>> ((8 : Int32) &&& 31).toUInt32).toInt32) &&& (255 : Int32))), .val (.int (((p1.toUInt32 >>> ((16 : Int32) &&& 31).toUInt32).toInt32) &&& (255 : Int32))), .val (.int (p6 &&& (255 : Int32))), .val (.int ((p5 &&& (2147483647 : Int32)) % (10 : Int32))), .val (.ref b1), .unset, .unset, .unset, .unset, .unset, .unset, .unset, .unset] [(.ref a416), (.ref b1)]) _
      have ne417 : b1 ≠ a416 := Nat.ne_of_lt (Nat.lt_of_lt_of_le Ex48.lt sa416)
      have ne418 : a10 ≠ a416 := Nat.ne_of_lt (Nat.lt_of_lt_of_le f410.lt sa416)
      have ne419 : t10 ≠ a416 := Nat.ne_of_lt (Nat.lt_of_lt_of_le f411.lt sa416)
      have ne420 : a16 ≠ a416 := Nat.ne_of_lt (Nat.lt_of_lt_of_le f412.lt sa416)
      have ne421 : t16 ≠ a416 := Nat.ne_of_lt (Nat.lt_of_lt_of_le f413.lt sa416)
      have ne422 : a28 ≠ a416 := Nat.ne_of_lt (Nat.lt_of_lt_of_le f414.lt sa416)
      have ne423 : t28 ≠ a416 := Nat.ne_of_lt (Nat.lt_of_lt_of_le f415.lt sa416)
      have ne424 : b1 ≠ t416 := Nat.ne_of_lt (Nat.lt_of_lt_of_le Ex48.lt sta416)
      have ne425 : a10 ≠ t416 := Nat.ne_of_lt (Nat.lt_of_lt_of_le f410.lt sta416)
      have ne426 : t10 ≠ t416 := Nat.ne_of_lt (Nat.lt_of_lt_of_le f411.lt sta416)
      have ne427 : a16 ≠ t416 := Nat.ne_of_lt (Nat.lt_of_lt_of_le f412.lt sta416)
      have ne428 : t16 ≠ t416 := Nat.ne_of_lt (Nat.lt_of_lt_of_le f413.lt sta416)
      have ne429 : a28 ≠ t416 := Nat.ne_of_lt (Nat.lt_of_lt_of_le f414.lt sta416)
      have ne430 : t28 ≠ t416 := Nat.ne_of_lt (Nat.lt_of_lt_of_le f415.lt sta416)
      have f431 : n0 ≤ T416.heap.size := (Nat.le_trans f408 K416.1)
      have f433 : Exa Z T416.heap b1 "com/example/line_to_seat/linetoseat/store/SectionSeats" := (Ex48.keep K416)
      obtain ⟨cq432, kq432, q432a, q432b, q432c⟩ := isOf hZ rfl f433
      obtain ⟨_, _, ⟨T432, L432, k432, n432⟩, -, X432, ⟨Lc432, hQ432, l432, y432, z432⟩, st432⟩ := X416.virtualBack hx (y := (⟨"com/example/line_to_seat/linetoseat/store/SectionSeats", "equals", "(Ljava/lang/Object;)Z"⟩ : MethodName)) (z := (⟨"com/example/line_to_seat/linetoseat/store/SectionSeats", "equals", "(Ljava/lang/Object;)Z"⟩ : MethodName)) hown (mvT hZ (hw _ (List.mem_of_getElem? (i := 64) rfl))) (mvT hZ (hw _ (List.mem_of_getElem? (i := 65) rfl))) (notFace_of_selects (args := #[]) (mvT hZ (hw _ (List.mem_of_getElem? (i := 67) rfl)))) (mvT hZ (hw _ (List.mem_of_getElem? (i := 67) rfl))) (mvT hZ (hw _ (List.mem_of_getElem? (i := 66) rfl))) (by decide) (backOf (W := 0) (rm12S l Z a0 hw [] b1 a416 T416.heap n0 f431 Ea416) hZ (hw _ (List.mem_of_getElem? (i := 68) rfl)) (hw _ (List.mem_of_getElem? (i := 3) rfl)) (by decide) (by decide)) q432a q432c (g := (mkF m 112 #[.val (.int p1), .val (.int p2), .val (.int p3), .val (.int p4), .val (.int p5), .val (.int p6), .val (.int (p1 &&& (255 : Int32))), .val (.int (((p1.toUInt32 >>> ((8 : Int32) &&& 31).toUInt32).toInt32) &&& (255 : Int32))), .val (.int (((p1.toUInt32 >>> ((16 : Int32) &&& 31).toUInt32).toInt32) &&& (255 : Int32))), .val (.int (p6 &&& (255 : Int32))), .val (.int ((p5 &&& (2147483647 : Int32)) % (10 : Int32))), .val (.ref b1), .unset, .unset, .unset, .unset, .unset, .unset, .unset, .unset] [(.ref a416), (.ref b1)])) rfl (by rw [hml]; rfl) (Steps.refl _) (argsL := [(.ref a416)]) (rest := []) (lenOf own_pd3 rfl) rfl (by show 2 * 0 + _ ≤ _; exact Nat.le_of_eq rfl) (hb hby at_112) (fun _ _ => ⟨rfl, rfl, (by decide : 9 + 0 ≤ _), (by decide : 26 + 0 ≤ _)⟩)
      dsimp only [Pt.U, Pt.locs, Pt.cells, Pt.slots] at X432 l432 y432 z432 st432 hQ432
      subst l432 y432 z432
      obtain ⟨rfl, N432q, e432⟩ := hQ432
      have N432 := Fr.app N416 N432q
      refine own_go (fun t_ k_ => st432.trans k_) ?_
      show own_G p.tables e below T432 (mkF m 115 #[.val (.int p1), .val (.int p2), .val (.int p3), .val (.int p4), .val (.int p5), .val (.int p6), .val (.int (p1 &&& (255 : Int32))), .val (.int (((p1.toUInt32 >>> ((8 : Int32) &&& 31).toUInt32).toInt32) &&& (255 : Int32))), .val (.int (((p1.toUInt32 >>> ((16 : Int32) &&& 31).toUInt32).toInt32) &&& (255 : Int32))), .val (.int (p6 &&& (255 : Int32))), .val (.int ((p5 &&& (2147483647 : Int32)) % (10 : Int32))), .val (.ref b1), .unset, .unset, .unset, .unset, .unset, .unset, .unset, .unset] [(.int (0 : Int32))]) _
      refine own_go (fun t_ k_ => XS.ifNo X432.here hx rfl (hb hby at_115) rfl ((if0 _ _).trans (teq (by decide : ((0 : Int32) = (0 : Int32)))).2) k_) ?_
      show own_G p.tables e below T432 (mkF m 118 #[.val (.int p1), .val (.int p2), .val (.int p3), .val (.int p4), .val (.int p5), .val (.int p6), .val (.int (p1 &&& (255 : Int32))), .val (.int (((p1.toUInt32 >>> ((8 : Int32) &&& 31).toUInt32).toInt32) &&& (255 : Int32))), .val (.int (((p1.toUInt32 >>> ((16 : Int32) &&& 31).toUInt32).toInt32) &&& (255 : Int32))), .val (.int (p6 &&& (255 : Int32))), .val (.int ((p5 &&& (2147483647 : Int32)) % (10 : Int32))), .val (.ref b1), .unset, .unset, .unset, .unset, .unset, .unset, .unset, .unset] []) _
      refine own_go (fun t_ k_ => XS.iconst X432.here hx rfl (hb hby at_118) k_) ?_
      show own_G p.tables e below T432 (mkF m 119 #[.val (.int p1), .val (.int p2), .val (.int p3), .val (.int p4), .val (.int p5), .val (.int p6), .val (.int (p1 &&& (255 : Int32))), .val (.int (((p1.toUInt32 >>> ((8 : Int32) &&& 31).toUInt32).toInt32) &&& (255 : Int32))), .val (.int (((p1.toUInt32 >>> ((16 : Int32) &&& 31).toUInt32).toInt32) &&& (255 : Int32))), .val (.int (p6 &&& (255 : Int32))), .val (.int ((p5 &&& (2147483647 : Int32)) % (10 : Int32))), .val (.ref b1), .unset, .unset, .unset, .unset, .unset, .unset, .unset, .unset] [(.int (1 : Int32))]) _
      refine own_go (fun t_ k_ => XS.goto X432.here hx rfl (pc0 := 119) (pc' := 123) rfl (hb hby at_119) (by decide) (by decide) k_) ?_
      show own_G p.tables e below T432 (mkF m 123 #[.val (.int p1), .val (.int p2), .val (.int p3), .val (.int p4), .val (.int p5), .val (.int p6), .val (.int (p1 &&& (255 : Int32))), .val (.int (((p1.toUInt32 >>> ((8 : Int32) &&& 31).toUInt32).toInt32) &&& (255 : Int32))), .val (.int (((p1.toUInt32 >>> ((16 : Int32) &&& 31).toUInt32).toInt32) &&& (255 : Int32))), .val (.int (p6 &&& (255 : Int32))), .val (.int ((p5 &&& (2147483647 : Int32)) % (10 : Int32))), .val (.ref b1), .unset, .unset, .unset, .unset, .unset, .unset, .unset, .unset] [(.int (1 : Int32))]) _
      exact own_end (v := some (.int (1 : Int32))) X432 Bd.notSynchronized (fun h => by rw [Bd.returns] at h; cases h) (fun fs hr => retN X432 hx (z := (1 : Int32)) (t := .boolean) Bd.returns (by simp) (hb hby at_123) hr) e432 ⟨rfl, N432⟩ (by decide) (by decide)
    · skip
      refine own_go (fun t_ k_ => XS.icmpYes X48.here hx rfl (pc0 := 102) (pc' := 124) rfl (hb hby at_102) rfl (feq hc102_407).2 (by decide) (by decide) k_) ?_
      show own_G p.tables e below T48 (mkF m 124 #[.val (.int p1), .val (.int p2), .val (.int p3), .val (.int p4), .val (.int p5), .val (.int p6), .val (.int (p1 &&& (255 : Int32))), .val (.int (((p1.toUInt32 >>> ((8 : Int32) &&& 31).toUInt32).toInt32) &&& (255 : Int32))), .val (.int (((p1.toUInt32 >>> ((16 : Int32) &&& 31).toUInt32).toInt32) &&& (255 : Int32))), .val (.int (p6 &&& (255 : Int32))), .val (.int ((p5 &&& (2147483647 : Int32)) % (10 : Int32))), .val (.ref b1), .unset, .unset, .unset, .unset, .unset, .unset, .unset, .unset] []) _
      refine own_go (fun t_ k_ => XS.iload X48.here hx rfl (hb hby at_124) rfl k_) ?_
      show own_G p.tables e below T48 (mkF m 126 #[.val (.int p1), .val (.int p2), .val (.int p3), .val (.int p4), .val (.int p5), .val (.int p6), .val (.int (p1 &&& (255 : Int32))), .val (.int (((p1.toUInt32 >>> ((8 : Int32) &&& 31).toUInt32).toInt32) &&& (255 : Int32))), .val (.int (((p1.toUInt32 >>> ((16 : Int32) &&& 31).toUInt32).toInt32) &&& (255 : Int32))), .val (.int (p6 &&& (255 : Int32))), .val (.int ((p5 &&& (2147483647 : Int32)) % (10 : Int32))), .val (.ref b1), .unset, .unset, .unset, .unset, .unset, .unset, .unset, .unset] [(.int ((p5 &&& (2147483647 : Int32)) % (10 : Int32)))]) _
      refine own_go (fun t_ k_ => XS.bipush X48.here hx rfl (hb hby at_126) k_) ?_
      show own_G p.tables e below T48 (mkF m 128 #[.val (.int p1), .val (.int p2), .val (.int p3), .val (.int p4), .val (.int p5), .val (.int p6), .val (.int (p1 &&& (255 : Int32))), .val (.int (((p1.toUInt32 >>> ((8 : Int32) &&& 31).toUInt32).toInt32) &&& (255 : Int32))), .val (.int (((p1.toUInt32 >>> ((16 : Int32) &&& 31).toUInt32).toInt32) &&& (255 : Int32))), .val (.int (p6 &&& (255 : Int32))), .val (.int ((p5 &&& (2147483647 : Int32)) % (10 : Int32))), .val (.ref b1), .unset, .unset, .unset, .unset, .unset, .unset, .unset, .unset] [(.int (9 : Int32)), (.int ((p5 &&& (2147483647 : Int32)) % (10 : Int32)))]) _
      by_cases hc128_434 : ((p5 &&& (2147483647 : Int32)) % (10 : Int32)) = (9 : Int32)
      · skip
        refine own_go (fun t_ k_ => XS.icmpNo X48.here hx rfl (hb hby at_128) rfl (teq hc128_434).2 k_) ?_
        show own_G p.tables e below T48 (mkF m 131 #[.val (.int p1), .val (.int p2), .val (.int p3), .val (.int p4), .val (.int p5), .val (.int p6), .val (.int (p1 &&& (255 : Int32))), .val (.int (((p1.toUInt32 >>> ((8 : Int32) &&& 31).toUInt32).toInt32) &&& (255 : Int32))), .val (.int (((p1.toUInt32 >>> ((16 : Int32) &&& 31).toUInt32).toInt32) &&& (255 : Int32))), .val (.int (p6 &&& (255 : Int32))), .val (.int ((p5 &&& (2147483647 : Int32)) % (10 : Int32))), .val (.ref b1), .unset, .unset, .unset, .unset, .unset, .unset, .unset, .unset] []) _
        refine own_go (fun t_ k_ => XS.aload X48.here hx rfl (hb hby at_131) rfl rfl k_) ?_
        show own_G p.tables e below T48 (mkF m 133 #[.val (.int p1), .val (.int p2), .val (.int p3), .val (.int p4), .val (.int p5), .val (.int p6), .val (.int (p1 &&& (255 : Int32))), .val (.int (((p1.toUInt32 >>> ((8 : Int32) &&& 31).toUInt32).toInt32) &&& (255 : Int32))), .val (.int (((p1.toUInt32 >>> ((16 : Int32) &&& 31).toUInt32).toInt32) &&& (255 : Int32))), .val (.int (p6 &&& (255 : Int32))), .val (.int ((p5 &&& (2147483647 : Int32)) % (10 : Int32))), .val (.ref b1), .unset, .unset, .unset, .unset, .unset, .unset, .unset, .unset] [(.ref b1)]) _
        refine own_go (fun t_ k_ => XS.aload X48.here hx rfl (hb hby at_133) rfl rfl k_) ?_
        show own_G p.tables e below T48 (mkF m 135 #[.val (.int p1), .val (.int p2), .val (.int p3), .val (.int p4), .val (.int p5), .val (.int p6), .val (.int (p1 &&& (255 : Int32))), .val (.int (((p1.toUInt32 >>> ((8 : Int32) &&& 31).toUInt32).toInt32) &&& (255 : Int32))), .val (.int (((p1.toUInt32 >>> ((16 : Int32) &&& 31).toUInt32).toInt32) &&& (255 : Int32))), .val (.int (p6 &&& (255 : Int32))), .val (.int ((p5 &&& (2147483647 : Int32)) % (10 : Int32))), .val (.ref b1), .unset, .unset, .unset, .unset, .unset, .unset, .unset, .unset] [(.ref b1), (.ref b1)]) _
        have f435 : n0 ≤ T48.heap.size := (Nat.le_trans f39 K48.1)
        have f436 : Sta Z T48.heap "java/lang/String" "COMPACT_STRINGS" "Z" (.int cs) := (own_sk f41 K48 (own_pl1 (own_pl f40)))
        have f437 : Exa Z T48.heap a10 "java/lang/String" := ((f26.keep K28).keep K48)
        have f438 : Fld Z T48.heap a10 "java/lang/String" "coder" "B" (.int (0 : Int32)) := (((Ca10.keep K16 List.not_mem_nil).keep K28 List.not_mem_nil).keep K48 (fun q => (Ne.symm ne11) (List.mem_singleton.mp q)))
        have f439 : Fld Z T48.heap a10 "java/lang/String" "value" "[B" (.ref t10) := (((Va10.keep K16 List.not_mem_nil).keep K28 List.not_mem_nil).keep K48 (fun q => (Ne.symm ne11) (List.mem_singleton.mp q)))
        have f440 : Arv Z T48.heap t10 kb10 .byte (1 : Int32) [(.int (p1 &&& (255 : Int32)).toInt8.toInt32)] (.int (0 : Int32)) := ((f27.keep K28 List.not_mem_nil).keep K48 (fun q => (Ne.symm ne12) (List.mem_singleton.mp q)))
        have f441 : Exa Z T48.heap a16 "java/lang/String" := ((Ea16.keep K28).keep K48)
        have f442 : Fld Z T48.heap a16 "java/lang/String" "coder" "B" (.int (0 : Int32)) := ((Ca16.keep K28 List.not_mem_nil).keep K48 (fun q => (Ne.symm ne17) (List.mem_singleton.mp q)))
        have f443 : Fld Z T48.heap a16 "java/lang/String" "value" "[B" (.ref t16) := ((Va16.keep K28 List.not_mem_nil).keep K48 (fun q => (Ne.symm ne17) (List.mem_singleton.mp q)))
        have f444 : Arv Z T48.heap t16 kb16 .byte (1 : Int32) [(.int (((p1.toUInt32 >>> ((8 : Int32) &&& 31).toUInt32).toInt32) &&& (255 : Int32)).toInt8.toInt32)] (.int (0 : Int32)) := ((Ta16.keep K28 List.not_mem_nil).keep K48 (fun q => (Ne.symm ne20) (List.mem_singleton.mp q)))
        have f445 : Exa Z T48.heap a28 "java/lang/String" := (Ea28.keep K48)
        have f446 : Fld Z T48.heap a28 "java/lang/String" "coder" "B" (.int (0 : Int32)) := (Ca28.keep K48 (fun q => (Ne.symm ne29) (List.mem_singleton.mp q)))
        have f447 : Fld Z T48.heap a28 "java/lang/String" "value" "[B" (.ref t28) := (Va28.keep K48 (fun q => (Ne.symm ne29) (List.mem_singleton.mp q)))
        have f448 : Arv Z T48.heap t28 kb28 .byte (1 : Int32) [(.int (((p1.toUInt32 >>> ((16 : Int32) &&& 31).toUInt32).toInt32) &&& (255 : Int32)).toInt8.toInt32)] (.int (0 : Int32)) := (Ta28.keep K48 (fun q => (Ne.symm ne34) (List.mem_singleton.mp q)))
        obtain ⟨cq449, kq449, q449a, q449b, q449c⟩ := isOf hZ rfl Ex48
        obtain ⟨_, _, ⟨T449, L449, k449, n449⟩, -, X449, ⟨Lc449, hQ449, l449, y449, z449⟩, st449⟩ := X48.virtualBack hx (y := (⟨"com/example/line_to_seat/linetoseat/store/SectionSeats", "equals", "(Ljava/lang/Object;)Z"⟩ : MethodName)) (z := (⟨"com/example/line_to_seat/linetoseat/store/SectionSeats", "equals", "(Ljava/lang/Object;)Z"⟩ : MethodName)) hown (mvT hZ (hw _ (List.mem_of_getElem? (i := 64) rfl))) (mvT hZ (hw _ (List.mem_of_getElem? (i := 65) rfl))) (notFace_of_selects (args := #[]) (mvT hZ (hw _ (List.mem_of_getElem? (i := 67) rfl)))) (mvT hZ (hw _ (List.mem_of_getElem? (i := 67) rfl))) (mvT hZ (hw _ (List.mem_of_getElem? (i := 66) rfl))) (by decide) (backOf (W := 0) (rm12 l Z a0 hw [] b1 b1 cs a10 t10 kb10 (p1 &&& (255 : Int32)) a16 t16 kb16 (((p1.toUInt32 >>> ((8 : Int32) &&& 31).toUInt32).toInt32) &&& (255 : Int32)) a28 t28 kb28 (((p1.toUInt32 >>> ((16 : Int32) &&& 31).toUInt32).toInt32) &&& (255 : Int32)) a10 t10 kb10 (p1 &&& (255 : Int32)) a16 t16 kb16 (((p1.toUInt32 >>> ((8 : Int32) &&& 31).toUInt32).toInt32) &&& (255 : Int32)) a28 t28 kb28 (((p1.toUInt32 >>> ((16 : Int32) &&& 31).toUInt32).toInt32) &&& (255 : Int32)) p2 p3 p4 p2 p3 p4 T48.heap n0 f435 f436 hcs Ex48 Ex48 u0_48 u1_48 u2_48 u3_48 u4_48 u5_48 f437 f438 f439 f440 (own_mm _) f441 f442 f443 f444 (own_mm _) f445 f446 f447 f448 (own_mm _) u0_48 u1_48 u2_48 u3_48 u4_48 u5_48 f437 f438 f439 f440 (own_mm _) f441 f442 f443 f444 (own_mm _) f445 f446 f447 f448 (own_mm _)) hZ (hw _ (List.mem_of_getElem? (i := 68) rfl)) (hw _ (List.mem_of_getElem? (i := 3) rfl)) (by decide) (by decide)) q449a q449c (g := (mkF m 135 #[.val (.int p1), .val (.int p2), .val (.int p3), .val (.int p4), .val (.int p5), .val (.int p6), .val (.int (p1 &&& (255 : Int32))), .val (.int (((p1.toUInt32 >>> ((8 : Int32) &&& 31).toUInt32).toInt32) &&& (255 : Int32))), .val (.int (((p1.toUInt32 >>> ((16 : Int32) &&& 31).toUInt32).toInt32) &&& (255 : Int32))), .val (.int (p6 &&& (255 : Int32))), .val (.int ((p5 &&& (2147483647 : Int32)) % (10 : Int32))), .val (.ref b1), .unset, .unset, .unset, .unset, .unset, .unset, .unset, .unset] [(.ref b1), (.ref b1)])) rfl (by rw [hml]; rfl) (Steps.refl _) (argsL := [(.ref b1)]) (rest := []) (lenOf own_pd3 rfl) rfl (by show 2 * 0 + _ ≤ _; exact Nat.le_of_eq rfl) (hb hby at_135) (fun _ _ => ⟨rfl, rfl, (by decide : 7 + 0 ≤ _), (by decide : 21 + 0 ≤ _)⟩)
        dsimp only [Pt.U, Pt.locs, Pt.cells, Pt.slots] at X449 l449 y449 z449 st449 hQ449
        subst l449 y449 z449
        obtain ⟨rfl, N449q, e449⟩ := hQ449
        have N449 := Fr.app N48 N449q
        refine own_go (fun t_ k_ => st449.trans k_) ?_
        show own_G p.tables e below T449 (mkF m 138 #[.val (.int p1), .val (.int p2), .val (.int p3), .val (.int p4), .val (.int p5), .val (.int p6), .val (.int (p1 &&& (255 : Int32))), .val (.int (((p1.toUInt32 >>> ((8 : Int32) &&& 31).toUInt32).toInt32) &&& (255 : Int32))), .val (.int (((p1.toUInt32 >>> ((16 : Int32) &&& 31).toUInt32).toInt32) &&& (255 : Int32))), .val (.int (p6 &&& (255 : Int32))), .val (.int ((p5 &&& (2147483647 : Int32)) % (10 : Int32))), .val (.ref b1), .unset, .unset, .unset, .unset, .unset, .unset, .unset, .unset] [(.int (own_eq (p1 &&& (255 : Int32)) (((p1.toUInt32 >>> ((8 : Int32) &&& 31).toUInt32).toInt32) &&& (255 : Int32)) (((p1.toUInt32 >>> ((16 : Int32) &&& 31).toUInt32).toInt32) &&& (255 : Int32)) p2 p3 p4 (p1 &&& (255 : Int32)) (((p1.toUInt32 >>> ((8 : Int32) &&& 31).toUInt32).toInt32) &&& (255 : Int32)) (((p1.toUInt32 >>> ((16 : Int32) &&& 31).toUInt32).toInt32) &&& (255 : Int32)) p2 p3 p4))]) _
        rw [own_eq_refl]
        show own_G p.tables e below T449 (mkF m 138 #[.val (.int p1), .val (.int p2), .val (.int p3), .val (.int p4), .val (.int p5), .val (.int p6), .val (.int (p1 &&& (255 : Int32))), .val (.int (((p1.toUInt32 >>> ((8 : Int32) &&& 31).toUInt32).toInt32) &&& (255 : Int32))), .val (.int (((p1.toUInt32 >>> ((16 : Int32) &&& 31).toUInt32).toInt32) &&& (255 : Int32))), .val (.int (p6 &&& (255 : Int32))), .val (.int ((p5 &&& (2147483647 : Int32)) % (10 : Int32))), .val (.ref b1), .unset, .unset, .unset, .unset, .unset, .unset, .unset, .unset] [(.int (1 : Int32))]) _
        exact own_end (v := some (.int (1 : Int32))) X449 Bd.notSynchronized (fun h => by rw [Bd.returns] at h; cases h) (fun fs hr => retN X449 hx (z := (1 : Int32)) (t := .boolean) Bd.returns (by simp) (hb hby at_138) hr) e449 ⟨rfl, N449⟩ (by decide) (by decide)
      · skip
        refine own_go (fun t_ k_ => XS.icmpYes X48.here hx rfl (pc0 := 128) (pc' := 139) rfl (hb hby at_128) rfl (feq hc128_434).2 (by decide) (by decide) k_) ?_
        show own_G p.tables e below T48 (mkF m 139 #[.val (.int p1), .val (.int p2), .val (.int p3), .val (.int p4), .val (.int p5), .val (.int p6), .val (.int (p1 &&& (255 : Int32))), .val (.int (((p1.toUInt32 >>> ((8 : Int32) &&& 31).toUInt32).toInt32) &&& (255 : Int32))), .val (.int (((p1.toUInt32 >>> ((16 : Int32) &&& 31).toUInt32).toInt32) &&& (255 : Int32))), .val (.int (p6 &&& (255 : Int32))), .val (.int ((p5 &&& (2147483647 : Int32)) % (10 : Int32))), .val (.ref b1), .unset, .unset, .unset, .unset, .unset, .unset, .unset, .unset] []) _
        refine own_go (fun t_ k_ => XS.iload X48.here hx rfl (hb hby at_139) rfl k_) ?_
        show own_G p.tables e below T48 (mkF m 141 #[.val (.int p1), .val (.int p2), .val (.int p3), .val (.int p4), .val (.int p5), .val (.int p6), .val (.int (p1 &&& (255 : Int32))), .val (.int (((p1.toUInt32 >>> ((8 : Int32) &&& 31).toUInt32).toInt32) &&& (255 : Int32))), .val (.int (((p1.toUInt32 >>> ((16 : Int32) &&& 31).toUInt32).toInt32) &&& (255 : Int32))), .val (.int (p6 &&& (255 : Int32))), .val (.int ((p5 &&& (2147483647 : Int32)) % (10 : Int32))), .val (.ref b1), .unset, .unset, .unset, .unset, .unset, .unset, .unset, .unset] [(.int ((p5 &&& (2147483647 : Int32)) % (10 : Int32)))]) _
        refine own_go (fun t_ k_ => XS.iconst X48.here hx rfl (hb hby at_141) k_) ?_
        show own_G p.tables e below T48 (mkF m 142 #[.val (.int p1), .val (.int p2), .val (.int p3), .val (.int p4), .val (.int p5), .val (.int p6), .val (.int (p1 &&& (255 : Int32))), .val (.int (((p1.toUInt32 >>> ((8 : Int32) &&& 31).toUInt32).toInt32) &&& (255 : Int32))), .val (.int (((p1.toUInt32 >>> ((16 : Int32) &&& 31).toUInt32).toInt32) &&& (255 : Int32))), .val (.int (p6 &&& (255 : Int32))), .val (.int ((p5 &&& (2147483647 : Int32)) % (10 : Int32))), .val (.ref b1), .unset, .unset, .unset, .unset, .unset, .unset, .unset, .unset] [(.int (1 : Int32)), (.int ((p5 &&& (2147483647 : Int32)) % (10 : Int32)))]) _
        by_cases hc142_450 : ((p5 &&& (2147483647 : Int32)) % (10 : Int32)) = (1 : Int32)
        · skip
          refine own_go (fun t_ k_ => XS.icmpNo X48.here hx rfl (hb hby at_142) rfl (teq hc142_450).2 k_) ?_
          show own_G p.tables e below T48 (mkF m 145 #[.val (.int p1), .val (.int p2), .val (.int p3), .val (.int p4), .val (.int p5), .val (.int p6), .val (.int (p1 &&& (255 : Int32))), .val (.int (((p1.toUInt32 >>> ((8 : Int32) &&& 31).toUInt32).toInt32) &&& (255 : Int32))), .val (.int (((p1.toUInt32 >>> ((16 : Int32) &&& 31).toUInt32).toInt32) &&& (255 : Int32))), .val (.int (p6 &&& (255 : Int32))), .val (.int ((p5 &&& (2147483647 : Int32)) % (10 : Int32))), .val (.ref b1), .unset, .unset, .unset, .unset, .unset, .unset, .unset, .unset] []) _
          refine own_go (fun t_ k_ => XS.iload X48.here hx rfl (hb hby at_145) rfl k_) ?_
          show own_G p.tables e below T48 (mkF m 147 #[.val (.int p1), .val (.int p2), .val (.int p3), .val (.int p4), .val (.int p5), .val (.int p6), .val (.int (p1 &&& (255 : Int32))), .val (.int (((p1.toUInt32 >>> ((8 : Int32) &&& 31).toUInt32).toInt32) &&& (255 : Int32))), .val (.int (((p1.toUInt32 >>> ((16 : Int32) &&& 31).toUInt32).toInt32) &&& (255 : Int32))), .val (.int (p6 &&& (255 : Int32))), .val (.int ((p5 &&& (2147483647 : Int32)) % (10 : Int32))), .val (.ref b1), .unset, .unset, .unset, .unset, .unset, .unset, .unset, .unset] [(.int (p6 &&& (255 : Int32)))]) _
          refine own_go (fun t_ k_ => XS.goto X48.here hx rfl (pc0 := 147) (pc' := 152) rfl (hb hby at_147) (by decide) (by decide) k_) ?_
          show own_G p.tables e below T48 (mkF m 152 #[.val (.int p1), .val (.int p2), .val (.int p3), .val (.int p4), .val (.int p5), .val (.int p6), .val (.int (p1 &&& (255 : Int32))), .val (.int (((p1.toUInt32 >>> ((8 : Int32) &&& 31).toUInt32).toInt32) &&& (255 : Int32))), .val (.int (((p1.toUInt32 >>> ((16 : Int32) &&& 31).toUInt32).toInt32) &&& (255 : Int32))), .val (.int (p6 &&& (255 : Int32))), .val (.int ((p5 &&& (2147483647 : Int32)) % (10 : Int32))), .val (.ref b1), .unset, .unset, .unset, .unset, .unset, .unset, .unset, .unset] [(.int (p6 &&& (255 : Int32)))]) _
          refine own_go (fun t_ k_ => XS.istore X48.here hx rfl (hb hby at_152) rfl (l' := #[.val (.int p1), .val (.int p2), .val (.int p3), .val (.int p4), .val (.int p5), .val (.int p6), .val (.int (p1 &&& (255 : Int32))), .val (.int (((p1.toUInt32 >>> ((8 : Int32) &&& 31).toUInt32).toInt32) &&& (255 : Int32))), .val (.int (((p1.toUInt32 >>> ((16 : Int32) &&& 31).toUInt32).toInt32) &&& (255 : Int32))), .val (.int (p6 &&& (255 : Int32))), .val (.int ((p5 &&& (2147483647 : Int32)) % (10 : Int32))), .val (.ref b1), .val (.int (p6 &&& (255 : Int32))), .unset, .unset, .unset, .unset, .unset, .unset, .unset]) rfl k_) ?_
          show own_G p.tables e below T48 (mkF m 154 #[.val (.int p1), .val (.int p2), .val (.int p3), .val (.int p4), .val (.int p5), .val (.int p6), .val (.int (p1 &&& (255 : Int32))), .val (.int (((p1.toUInt32 >>> ((8 : Int32) &&& 31).toUInt32).toInt32) &&& (255 : Int32))), .val (.int (((p1.toUInt32 >>> ((16 : Int32) &&& 31).toUInt32).toInt32) &&& (255 : Int32))), .val (.int (p6 &&& (255 : Int32))), .val (.int ((p5 &&& (2147483647 : Int32)) % (10 : Int32))), .val (.ref b1), .val (.int (p6 &&& (255 : Int32))), .unset, .unset, .unset, .unset, .unset, .unset, .unset] []) _
          refine own_go (fun t_ k_ => XS.iload X48.here hx rfl (hb hby at_154) rfl k_) ?_
          show own_G p.tables e below T48 (mkF m 156 #[.val (.int p1), .val (.int p2), .val (.int p3), .val (.int p4), .val (.int p5), .val (.int p6), .val (.int (p1 &&& (255 : Int32))), .val (.int (((p1.toUInt32 >>> ((8 : Int32) &&& 31).toUInt32).toInt32) &&& (255 : Int32))), .val (.int (((p1.toUInt32 >>> ((16 : Int32) &&& 31).toUInt32).toInt32) &&& (255 : Int32))), .val (.int (p6 &&& (255 : Int32))), .val (.int ((p5 &&& (2147483647 : Int32)) % (10 : Int32))), .val (.ref b1), .val (.int (p6 &&& (255 : Int32))), .unset, .unset, .unset, .unset, .unset, .unset, .unset] [(.int ((p5 &&& (2147483647 : Int32)) % (10 : Int32)))]) _
          refine own_go (fun t_ k_ => XS.iconst X48.here hx rfl (hb hby at_156) k_) ?_
          show own_G p.tables e below T48 (mkF m 157 #[.val (.int p1), .val (.int p2), .val (.int p3), .val (.int p4), .val (.int p5), .val (.int p6), .val (.int (p1 &&& (255 : Int32))), .val (.int (((p1.toUInt32 >>> ((8 : Int32) &&& 31).toUInt32).toInt32) &&& (255 : Int32))), .val (.int (((p1.toUInt32 >>> ((16 : Int32) &&& 31).toUInt32).toInt32) &&& (255 : Int32))), .val (.int (p6 &&& (255 : Int32))), .val (.int ((p5 &&& (2147483647 : Int32)) % (10 : Int32))), .val (.ref b1), .val (.int (p6 &&& (255 : Int32))), .unset, .unset, .unset, .unset, .unset, .unset, .unset] [(.int (2 : Int32)), (.int ((p5 &&& (2147483647 : Int32)) % (10 : Int32)))]) _
          refine own_go (fun t_ k_ => XS.icmpYes X48.here hx rfl (pc0 := 157) (pc' := 165) rfl (hb hby at_157) rfl (feq (fun q => absurd (hc142_450.symm.trans q) (by decide))).2 (by decide) (by decide) k_) ?_
          show own_G p.tables e below T48 (mkF m 165 #[.val (.int p1), .val (.int p2), .val (.int p3), .val (.int p4), .val (.int p5), .val (.int p6), .val (.int (p1 &&& (255 : Int32))), .val (.int (((p1.toUInt32 >>> ((8 : Int32) &&& 31).toUInt32).toInt32) &&& (255 : Int32))), .val (.int (((p1.toUInt32 >>> ((16 : Int32) &&& 31).toUInt32).toInt32) &&& (255 : Int32))), .val (.int (p6 &&& (255 : Int32))), .val (.int ((p5 &&& (2147483647 : Int32)) % (10 : Int32))), .val (.ref b1), .val (.int (p6 &&& (255 : Int32))), .unset, .unset, .unset, .unset, .unset, .unset, .unset] []) _
          refine own_go (fun t_ k_ => XS.iload X48.here hx rfl (hb hby at_165) rfl k_) ?_
          show own_G p.tables e below T48 (mkF m 167 #[.val (.int p1), .val (.int p2), .val (.int p3), .val (.int p4), .val (.int p5), .val (.int p6), .val (.int (p1 &&& (255 : Int32))), .val (.int (((p1.toUInt32 >>> ((8 : Int32) &&& 31).toUInt32).toInt32) &&& (255 : Int32))), .val (.int (((p1.toUInt32 >>> ((16 : Int32) &&& 31).toUInt32).toInt32) &&& (255 : Int32))), .val (.int (p6 &&& (255 : Int32))), .val (.int ((p5 &&& (2147483647 : Int32)) % (10 : Int32))), .val (.ref b1), .val (.int (p6 &&& (255 : Int32))), .unset, .unset, .unset, .unset, .unset, .unset, .unset] [(.int (((p1.toUInt32 >>> ((8 : Int32) &&& 31).toUInt32).toInt32) &&& (255 : Int32)))]) _
          refine own_go (fun t_ k_ => XS.istore X48.here hx rfl (hb hby at_167) rfl (l' := #[.val (.int p1), .val (.int p2), .val (.int p3), .val (.int p4), .val (.int p5), .val (.int p6), .val (.int (p1 &&& (255 : Int32))), .val (.int (((p1.toUInt32 >>> ((8 : Int32) &&& 31).toUInt32).toInt32) &&& (255 : Int32))), .val (.int (((p1.toUInt32 >>> ((16 : Int32) &&& 31).toUInt32).toInt32) &&& (255 : Int32))), .val (.int (p6 &&& (255 : Int32))), .val (.int ((p5 &&& (2147483647 : Int32)) % (10 : Int32))), .val (.ref b1), .val (.int (p6 &&& (255 : Int32))), .val (.int (((p1.toUInt32 >>> ((8 : Int32) &&& 31).toUInt32).toInt32) &&& (255 : Int32))), .unset, .unset, .unset, .unset, .unset, .unset]) rfl k_) ?_
          show own_G p.tables e below T48 (mkF m 169 #[.val (.int p1), .val (.int p2), .val (.int p3), .val (.int p4), .val (.int p5), .val (.int p6), .val (.int (p1 &&& (255 : Int32))), .val (.int (((p1.toUInt32 >>> ((8 : Int32) &&& 31).toUInt32).toInt32) &&& (255 : Int32))), .val (.int (((p1.toUInt32 >>> ((16 : Int32) &&& 31).toUInt32).toInt32) &&& (255 : Int32))), .val (.int (p6 &&& (255 : Int32))), .val (.int ((p5 &&& (2147483647 : Int32)) % (10 : Int32))), .val (.ref b1), .val (.int (p6 &&& (255 : Int32))), .val (.int (((p1.toUInt32 >>> ((8 : Int32) &&& 31).toUInt32).toInt32) &&& (255 : Int32))), .unset, .unset, .unset, .unset, .unset, .unset] []) _
          refine own_go (fun t_ k_ => XS.iload X48.here hx rfl (hb hby at_169) rfl k_) ?_
          show own_G p.tables e below T48 (mkF m 171 #[.val (.int p1), .val (.int p2), .val (.int p3), .val (.int p4), .val (.int p5), .val (.int p6), .val (.int (p1 &&& (255 : Int32))), .val (.int (((p1.toUInt32 >>> ((8 : Int32) &&& 31).toUInt32).toInt32) &&& (255 : Int32))), .val (.int (((p1.toUInt32 >>> ((16 : Int32) &&& 31).toUInt32).toInt32) &&& (255 : Int32))), .val (.int (p6 &&& (255 : Int32))), .val (.int ((p5 &&& (2147483647 : Int32)) % (10 : Int32))), .val (.ref b1), .val (.int (p6 &&& (255 : Int32))), .val (.int (((p1.toUInt32 >>> ((8 : Int32) &&& 31).toUInt32).toInt32) &&& (255 : Int32))), .unset, .unset, .unset, .unset, .unset, .unset] [(.int ((p5 &&& (2147483647 : Int32)) % (10 : Int32)))]) _
          refine own_go (fun t_ k_ => XS.iconst X48.here hx rfl (hb hby at_171) k_) ?_
          show own_G p.tables e below T48 (mkF m 172 #[.val (.int p1), .val (.int p2), .val (.int p3), .val (.int p4), .val (.int p5), .val (.int p6), .val (.int (p1 &&& (255 : Int32))), .val (.int (((p1.toUInt32 >>> ((8 : Int32) &&& 31).toUInt32).toInt32) &&& (255 : Int32))), .val (.int (((p1.toUInt32 >>> ((16 : Int32) &&& 31).toUInt32).toInt32) &&& (255 : Int32))), .val (.int (p6 &&& (255 : Int32))), .val (.int ((p5 &&& (2147483647 : Int32)) % (10 : Int32))), .val (.ref b1), .val (.int (p6 &&& (255 : Int32))), .val (.int (((p1.toUInt32 >>> ((8 : Int32) &&& 31).toUInt32).toInt32) &&& (255 : Int32))), .unset, .unset, .unset, .unset, .unset, .unset] [(.int (3 : Int32)), (.int ((p5 &&& (2147483647 : Int32)) % (10 : Int32)))]) _
          refine own_go (fun t_ k_ => XS.icmpYes X48.here hx rfl (pc0 := 172) (pc' := 180) rfl (hb hby at_172) rfl (feq (fun q => absurd (hc142_450.symm.trans q) (by decide))).2 (by decide) (by decide) k_) ?_
          show own_G p.tables e below T48 (mkF m 180 #[.val (.int p1), .val (.int p2), .val (.int p3), .val (.int p4), .val (.int p5), .val (.int p6), .val (.int (p1 &&& (255 : Int32))), .val (.int (((p1.toUInt32 >>> ((8 : Int32) &&& 31).toUInt32).toInt32) &&& (255 : Int32))), .val (.int (((p1.toUInt32 >>> ((16 : Int32) &&& 31).toUInt32).toInt32) &&& (255 : Int32))), .val (.int (p6 &&& (255 : Int32))), .val (.int ((p5 &&& (2147483647 : Int32)) % (10 : Int32))), .val (.ref b1), .val (.int (p6 &&& (255 : Int32))), .val (.int (((p1.toUInt32 >>> ((8 : Int32) &&& 31).toUInt32).toInt32) &&& (255 : Int32))), .unset, .unset, .unset, .unset, .unset, .unset] []) _
          refine own_go (fun t_ k_ => XS.iload X48.here hx rfl (hb hby at_180) rfl k_) ?_
          show own_G p.tables e below T48 (mkF m 182 #[.val (.int p1), .val (.int p2), .val (.int p3), .val (.int p4), .val (.int p5), .val (.int p6), .val (.int (p1 &&& (255 : Int32))), .val (.int (((p1.toUInt32 >>> ((8 : Int32) &&& 31).toUInt32).toInt32) &&& (255 : Int32))), .val (.int (((p1.toUInt32 >>> ((16 : Int32) &&& 31).toUInt32).toInt32) &&& (255 : Int32))), .val (.int (p6 &&& (255 : Int32))), .val (.int ((p5 &&& (2147483647 : Int32)) % (10 : Int32))), .val (.ref b1), .val (.int (p6 &&& (255 : Int32))), .val (.int (((p1.toUInt32 >>> ((8 : Int32) &&& 31).toUInt32).toInt32) &&& (255 : Int32))), .unset, .unset, .unset, .unset, .unset, .unset] [(.int (((p1.toUInt32 >>> ((16 : Int32) &&& 31).toUInt32).toInt32) &&& (255 : Int32)))]) _
          refine own_go (fun t_ k_ => XS.istore X48.here hx rfl (hb hby at_182) rfl (l' := #[.val (.int p1), .val (.int p2), .val (.int p3), .val (.int p4), .val (.int p5), .val (.int p6), .val (.int (p1 &&& (255 : Int32))), .val (.int (((p1.toUInt32 >>> ((8 : Int32) &&& 31).toUInt32).toInt32) &&& (255 : Int32))), .val (.int (((p1.toUInt32 >>> ((16 : Int32) &&& 31).toUInt32).toInt32) &&& (255 : Int32))), .val (.int (p6 &&& (255 : Int32))), .val (.int ((p5 &&& (2147483647 : Int32)) % (10 : Int32))), .val (.ref b1), .val (.int (p6 &&& (255 : Int32))), .val (.int (((p1.toUInt32 >>> ((8 : Int32) &&& 31).toUInt32).toInt32) &&& (255 : Int32))), .val (.int (((p1.toUInt32 >>> ((16 : Int32) &&& 31).toUInt32).toInt32) &&& (255 : Int32))), .unset, .unset, .unset, .unset, .unset]) rfl k_) ?_
          show own_G p.tables e below T48 (mkF m 184 #[.val (.int p1), .val (.int p2), .val (.int p3), .val (.int p4), .val (.int p5), .val (.int p6), .val (.int (p1 &&& (255 : Int32))), .val (.int (((p1.toUInt32 >>> ((8 : Int32) &&& 31).toUInt32).toInt32) &&& (255 : Int32))), .val (.int (((p1.toUInt32 >>> ((16 : Int32) &&& 31).toUInt32).toInt32) &&& (255 : Int32))), .val (.int (p6 &&& (255 : Int32))), .val (.int ((p5 &&& (2147483647 : Int32)) % (10 : Int32))), .val (.ref b1), .val (.int (p6 &&& (255 : Int32))), .val (.int (((p1.toUInt32 >>> ((8 : Int32) &&& 31).toUInt32).toInt32) &&& (255 : Int32))), .val (.int (((p1.toUInt32 >>> ((16 : Int32) &&& 31).toUInt32).toInt32) &&& (255 : Int32))), .unset, .unset, .unset, .unset, .unset] []) _
          refine own_go (fun t_ k_ => XS.iload X48.here hx rfl (hb hby at_184) rfl k_) ?_
          show own_G p.tables e below T48 (mkF m 186 #[.val (.int p1), .val (.int p2), .val (.int p3), .val (.int p4), .val (.int p5), .val (.int p6), .val (.int (p1 &&& (255 : Int32))), .val (.int (((p1.toUInt32 >>> ((8 : Int32) &&& 31).toUInt32).toInt32) &&& (255 : Int32))), .val (.int (((p1.toUInt32 >>> ((16 : Int32) &&& 31).toUInt32).toInt32) &&& (255 : Int32))), .val (.int (p6 &&& (255 : Int32))), .val (.int ((p5 &&& (2147483647 : Int32)) % (10 : Int32))), .val (.ref b1), .val (.int (p6 &&& (255 : Int32))), .val (.int (((p1.toUInt32 >>> ((8 : Int32) &&& 31).toUInt32).toInt32) &&& (255 : Int32))), .val (.int (((p1.toUInt32 >>> ((16 : Int32) &&& 31).toUInt32).toInt32) &&& (255 : Int32))), .unset, .unset, .unset, .unset, .unset] [(.int ((p5 &&& (2147483647 : Int32)) % (10 : Int32)))]) _
          refine own_go (fun t_ k_ => XS.iconst X48.here hx rfl (hb hby at_186) k_) ?_
          show own_G p.tables e below T48 (mkF m 187 #[.val (.int p1), .val (.int p2), .val (.int p3), .val (.int p4), .val (.int p5), .val (.int p6), .val (.int (p1 &&& (255 : Int32))), .val (.int (((p1.toUInt32 >>> ((8 : Int32) &&& 31).toUInt32).toInt32) &&& (255 : Int32))), .val (.int (((p1.toUInt32 >>> ((16 : Int32) &&& 31).toUInt32).toInt32) &&& (255 : Int32))), .val (.int (p6 &&& (255 : Int32))), .val (.int ((p5 &&& (2147483647 : Int32)) % (10 : Int32))), .val (.ref b1), .val (.int (p6 &&& (255 : Int32))), .val (.int (((p1.toUInt32 >>> ((8 : Int32) &&& 31).toUInt32).toInt32) &&& (255 : Int32))), .val (.int (((p1.toUInt32 >>> ((16 : Int32) &&& 31).toUInt32).toInt32) &&& (255 : Int32))), .unset, .unset, .unset, .unset, .unset] [(.int (4 : Int32)), (.int ((p5 &&& (2147483647 : Int32)) % (10 : Int32)))]) _
          refine own_go (fun t_ k_ => XS.icmpYes X48.here hx rfl (pc0 := 187) (pc' := 195) rfl (hb hby at_187) rfl (feq (fun q => absurd (hc142_450.symm.trans q) (by decide))).2 (by decide) (by decide) k_) ?_
          show own_G p.tables e below T48 (mkF m 195 #[.val (.int p1), .val (.int p2), .val (.int p3), .val (.int p4), .val (.int p5), .val (.int p6), .val (.int (p1 &&& (255 : Int32))), .val (.int (((p1.toUInt32 >>> ((8 : Int32) &&& 31).toUInt32).toInt32) &&& (255 : Int32))), .val (.int (((p1.toUInt32 >>> ((16 : Int32) &&& 31).toUInt32).toInt32) &&& (255 : Int32))), .val (.int (p6 &&& (255 : Int32))), .val (.int ((p5 &&& (2147483647 : Int32)) % (10 : Int32))), .val (.ref b1), .val (.int (p6 &&& (255 : Int32))), .val (.int (((p1.toUInt32 >>> ((8 : Int32) &&& 31).toUInt32).toInt32) &&& (255 : Int32))), .val (.int (((p1.toUInt32 >>> ((16 : Int32) &&& 31).toUInt32).toInt32) &&& (255 : Int32))), .unset, .unset, .unset, .unset, .unset] []) _
          refine own_go (fun t_ k_ => XS.iloadN X48.here hx rfl (hb hby at_195) rfl k_) ?_
          show own_G p.tables e below T48 (mkF m 196 #[.val (.int p1), .val (.int p2), .val (.int p3), .val (.int p4), .val (.int p5), .val (.int p6), .val (.int (p1 &&& (255 : Int32))), .val (.int (((p1.toUInt32 >>> ((8 : Int32) &&& 31).toUInt32).toInt32) &&& (255 : Int32))), .val (.int (((p1.toUInt32 >>> ((16 : Int32) &&& 31).toUInt32).toInt32) &&& (255 : Int32))), .val (.int (p6 &&& (255 : Int32))), .val (.int ((p5 &&& (2147483647 : Int32)) % (10 : Int32))), .val (.ref b1), .val (.int (p6 &&& (255 : Int32))), .val (.int (((p1.toUInt32 >>> ((8 : Int32) &&& 31).toUInt32).toInt32) &&& (255 : Int32))), .val (.int (((p1.toUInt32 >>> ((16 : Int32) &&& 31).toUInt32).toInt32) &&& (255 : Int32))), .unset, .unset, .unset, .unset, .unset] [(.int p2)]) _
          refine own_go (fun t_ k_ => XS.istore X48.here hx rfl (hb hby at_196) rfl (l' := #[.val (.int p1), .val (.int p2), .val (.int p3), .val (.int p4), .val (.int p5), .val (.int p6), .val (.int (p1 &&& (255 : Int32))), .val (.int (((p1.toUInt32 >>> ((8 : Int32) &&& 31).toUInt32).toInt32) &&& (255 : Int32))), .val (.int (((p1.toUInt32 >>> ((16 : Int32) &&& 31).toUInt32).toInt32) &&& (255 : Int32))), .val (.int (p6 &&& (255 : Int32))), .val (.int ((p5 &&& (2147483647 : Int32)) % (10 : Int32))), .val (.ref b1), .val (.int (p6 &&& (255 : Int32))), .val (.int (((p1.toUInt32 >>> ((8 : Int32) &&& 31).toUInt32).toInt32) &&& (255 : Int32))), .val (.int (((p1.toUInt32 >>> ((16 : Int32) &&& 31).toUInt32).toInt32) &&& (255 : Int32))), .val (.int p2), .unset, .unset, .unset, .unset]) rfl k_) ?_
          show own_G p.tables e below T48 (mkF m 198 #[.val (.int p1), .val (.int p2), .val (.int p3), .val (.int p4), .val (.int p5), .val (.int p6), .val (.int (p1 &&& (255 : Int32))), .val (.int (((p1.toUInt32 >>> ((8 : Int32) &&& 31).toUInt32).toInt32) &&& (255 : Int32))), .val (.int (((p1.toUInt32 >>> ((16 : Int32) &&& 31).toUInt32).toInt32) &&& (255 : Int32))), .val (.int (p6 &&& (255 : Int32))), .val (.int ((p5 &&& (2147483647 : Int32)) % (10 : Int32))), .val (.ref b1), .val (.int (p6 &&& (255 : Int32))), .val (.int (((p1.toUInt32 >>> ((8 : Int32) &&& 31).toUInt32).toInt32) &&& (255 : Int32))), .val (.int (((p1.toUInt32 >>> ((16 : Int32) &&& 31).toUInt32).toInt32) &&& (255 : Int32))), .val (.int p2), .unset, .unset, .unset, .unset] []) _
          refine own_go (fun t_ k_ => XS.iload X48.here hx rfl (hb hby at_198) rfl k_) ?_
          show own_G p.tables e below T48 (mkF m 200 #[.val (.int p1), .val (.int p2), .val (.int p3), .val (.int p4), .val (.int p5), .val (.int p6), .val (.int (p1 &&& (255 : Int32))), .val (.int (((p1.toUInt32 >>> ((8 : Int32) &&& 31).toUInt32).toInt32) &&& (255 : Int32))), .val (.int (((p1.toUInt32 >>> ((16 : Int32) &&& 31).toUInt32).toInt32) &&& (255 : Int32))), .val (.int (p6 &&& (255 : Int32))), .val (.int ((p5 &&& (2147483647 : Int32)) % (10 : Int32))), .val (.ref b1), .val (.int (p6 &&& (255 : Int32))), .val (.int (((p1.toUInt32 >>> ((8 : Int32) &&& 31).toUInt32).toInt32) &&& (255 : Int32))), .val (.int (((p1.toUInt32 >>> ((16 : Int32) &&& 31).toUInt32).toInt32) &&& (255 : Int32))), .val (.int p2), .unset, .unset, .unset, .unset] [(.int ((p5 &&& (2147483647 : Int32)) % (10 : Int32)))]) _
          refine own_go (fun t_ k_ => XS.iconst X48.here hx rfl (hb hby at_200) k_) ?_
          show own_G p.tables e below T48 (mkF m 201 #[.val (.int p1), .val (.int p2), .val (.int p3), .val (.int p4), .val (.int p5), .val (.int p6), .val (.int (p1 &&& (255 : Int32))), .val (.int (((p1.toUInt32 >>> ((8 : Int32) &&& 31).toUInt32).toInt32) &&& (255 : Int32))), .val (.int (((p1.toUInt32 >>> ((16 : Int32) &&& 31).toUInt32).toInt32) &&& (255 : Int32))), .val (.int (p6 &&& (255 : Int32))), .val (.int ((p5 &&& (2147483647 : Int32)) % (10 : Int32))), .val (.ref b1), .val (.int (p6 &&& (255 : Int32))), .val (.int (((p1.toUInt32 >>> ((8 : Int32) &&& 31).toUInt32).toInt32) &&& (255 : Int32))), .val (.int (((p1.toUInt32 >>> ((16 : Int32) &&& 31).toUInt32).toInt32) &&& (255 : Int32))), .val (.int p2), .unset, .unset, .unset, .unset] [(.int (5 : Int32)), (.int ((p5 &&& (2147483647 : Int32)) % (10 : Int32)))]) _
          refine own_go (fun t_ k_ => XS.icmpYes X48.here hx rfl (pc0 := 201) (pc' := 209) rfl (hb hby at_201) rfl (feq (fun q => absurd (hc142_450.symm.trans q) (by decide))).2 (by decide) (by decide) k_) ?_
          show own_G p.tables e below T48 (mkF m 209 #[.val (.int p1), .val (.int p2), .val (.int p3), .val (.int p4), .val (.int p5), .val (.int p6), .val (.int (p1 &&& (255 : Int32))), .val (.int (((p1.toUInt32 >>> ((8 : Int32) &&& 31).toUInt32).toInt32) &&& (255 : Int32))), .val (.int (((p1.toUInt32 >>> ((16 : Int32) &&& 31).toUInt32).toInt32) &&& (255 : Int32))), .val (.int (p6 &&& (255 : Int32))), .val (.int ((p5 &&& (2147483647 : Int32)) % (10 : Int32))), .val (.ref b1), .val (.int (p6 &&& (255 : Int32))), .val (.int (((p1.toUInt32 >>> ((8 : Int32) &&& 31).toUInt32).toInt32) &&& (255 : Int32))), .val (.int (((p1.toUInt32 >>> ((16 : Int32) &&& 31).toUInt32).toInt32) &&& (255 : Int32))), .val (.int p2), .unset, .unset, .unset, .unset] []) _
          refine own_go (fun t_ k_ => XS.iloadN X48.here hx rfl (hb hby at_209) rfl k_) ?_
          show own_G p.tables e below T48 (mkF m 210 #[.val (.int p1), .val (.int p2), .val (.int p3), .val (.int p4), .val (.int p5), .val (.int p6), .val (.int (p1 &&& (255 : Int32))), .val (.int (((p1.toUInt32 >>> ((8 : Int32) &&& 31).toUInt32).toInt32) &&& (255 : Int32))), .val (.int (((p1.toUInt32 >>> ((16 : Int32) &&& 31).toUInt32).toInt32) &&& (255 : Int32))), .val (.int (p6 &&& (255 : Int32))), .val (.int ((p5 &&& (2147483647 : Int32)) % (10 : Int32))), .val (.ref b1), .val (.int (p6 &&& (255 : Int32))), .val (.int (((p1.toUInt32 >>> ((8 : Int32) &&& 31).toUInt32).toInt32) &&& (255 : Int32))), .val (.int (((p1.toUInt32 >>> ((16 : Int32) &&& 31).toUInt32).toInt32) &&& (255 : Int32))), .val (.int p2), .unset, .unset, .unset, .unset] [(.int p3)]) _
          refine own_go (fun t_ k_ => XS.istore X48.here hx rfl (hb hby at_210) rfl (l' := #[.val (.int p1), .val (.int p2), .val (.int p3), .val (.int p4), .val (.int p5), .val (.int p6), .val (.int (p1 &&& (255 : Int32))), .val (.int (((p1.toUInt32 >>> ((8 : Int32) &&& 31).toUInt32).toInt32) &&& (255 : Int32))), .val (.int (((p1.toUInt32 >>> ((16 : Int32) &&& 31).toUInt32).toInt32) &&& (255 : Int32))), .val (.int (p6 &&& (255 : Int32))), .val (.int ((p5 &&& (2147483647 : Int32)) % (10 : Int32))), .val (.ref b1), .val (.int (p6 &&& (255 : Int32))), .val (.int (((p1.toUInt32 >>> ((8 : Int32) &&& 31).toUInt32).toInt32) &&& (255 : Int32))), .val (.int (((p1.toUInt32 >>> ((16 : Int32) &&& 31).toUInt32).toInt32) &&& (255 : Int32))), .val (.int p2), .val (.int p3), .unset, .unset, .unset]) rfl k_) ?_
          show own_G p.tables e below T48 (mkF m 212 #[.val (.int p1), .val (.int p2), .val (.int p3), .val (.int p4), .val (.int p5), .val (.int p6), .val (.int (p1 &&& (255 : Int32))), .val (.int (((p1.toUInt32 >>> ((8 : Int32) &&& 31).toUInt32).toInt32) &&& (255 : Int32))), .val (.int (((p1.toUInt32 >>> ((16 : Int32) &&& 31).toUInt32).toInt32) &&& (255 : Int32))), .val (.int (p6 &&& (255 : Int32))), .val (.int ((p5 &&& (2147483647 : Int32)) % (10 : Int32))), .val (.ref b1), .val (.int (p6 &&& (255 : Int32))), .val (.int (((p1.toUInt32 >>> ((8 : Int32) &&& 31).toUInt32).toInt32) &&& (255 : Int32))), .val (.int (((p1.toUInt32 >>> ((16 : Int32) &&& 31).toUInt32).toInt32) &&& (255 : Int32))), .val (.int p2), .val (.int p3), .unset, .unset, .unset] []) _
          refine own_go (fun t_ k_ => XS.iload X48.here hx rfl (hb hby at_212) rfl k_) ?_
          show own_G p.tables e below T48 (mkF m 214 #[.val (.int p1), .val (.int p2), .val (.int p3), .val (.int p4), .val (.int p5), .val (.int p6), .val (.int (p1 &&& (255 : Int32))), .val (.int (((p1.toUInt32 >>> ((8 : Int32) &&& 31).toUInt32).toInt32) &&& (255 : Int32))), .val (.int (((p1.toUInt32 >>> ((16 : Int32) &&& 31).toUInt32).toInt32) &&& (255 : Int32))), .val (.int (p6 &&& (255 : Int32))), .val (.int ((p5 &&& (2147483647 : Int32)) % (10 : Int32))), .val (.ref b1), .val (.int (p6 &&& (255 : Int32))), .val (.int (((p1.toUInt32 >>> ((8 : Int32) &&& 31).toUInt32).toInt32) &&& (255 : Int32))), .val (.int (((p1.toUInt32 >>> ((16 : Int32) &&& 31).toUInt32).toInt32) &&& (255 : Int32))), .val (.int p2), .val (.int p3), .unset, .unset, .unset] [(.int ((p5 &&& (2147483647 : Int32)) % (10 : Int32)))]) _
          refine own_go (fun t_ k_ => XS.bipush X48.here hx rfl (hb hby at_214) k_) ?_
          show own_G p.tables e below T48 (mkF m 216 #[.val (.int p1), .val (.int p2), .val (.int p3), .val (.int p4), .val (.int p5), .val (.int p6), .val (.int (p1 &&& (255 : Int32))), .val (.int (((p1.toUInt32 >>> ((8 : Int32) &&& 31).toUInt32).toInt32) &&& (255 : Int32))), .val (.int (((p1.toUInt32 >>> ((16 : Int32) &&& 31).toUInt32).toInt32) &&& (255 : Int32))), .val (.int (p6 &&& (255 : Int32))), .val (.int ((p5 &&& (2147483647 : Int32)) % (10 : Int32))), .val (.ref b1), .val (.int (p6 &&& (255 : Int32))), .val (.int (((p1.toUInt32 >>> ((8 : Int32) &&& 31).toUInt32).toInt32) &&& (255 : Int32))), .val (.int (((p1.toUInt32 >>> ((16 : Int32) &&& 31).toUInt32).toInt32) &&& (255 : Int32))), .val (.int p2), .val (.int p3), .unset, .unset, .unset] [(.int (6 : Int32)), (.int ((p5 &&& (2147483647 : Int32)) % (10 : Int32)))]) _
          refine own_go (fun t_ k_ => XS.icmpYes X48.here hx rfl (pc0 := 216) (pc' := 224) rfl (hb hby at_216) rfl (feq (fun q => absurd (hc142_450.symm.trans q) (by decide))).2 (by decide) (by decide) k_) ?_
          show own_G p.tables e below T48 (mkF m 224 #[.val (.int p1), .val (.int p2), .val (.int p3), .val (.int p4), .val (.int p5), .val (.int p6), .val (.int (p1 &&& (255 : Int32))), .val (.int (((p1.toUInt32 >>> ((8 : Int32) &&& 31).toUInt32).toInt32) &&& (255 : Int32))), .val (.int (((p1.toUInt32 >>> ((16 : Int32) &&& 31).toUInt32).toInt32) &&& (255 : Int32))), .val (.int (p6 &&& (255 : Int32))), .val (.int ((p5 &&& (2147483647 : Int32)) % (10 : Int32))), .val (.ref b1), .val (.int (p6 &&& (255 : Int32))), .val (.int (((p1.toUInt32 >>> ((8 : Int32) &&& 31).toUInt32).toInt32) &&& (255 : Int32))), .val (.int (((p1.toUInt32 >>> ((16 : Int32) &&& 31).toUInt32).toInt32) &&& (255 : Int32))), .val (.int p2), .val (.int p3), .unset, .unset, .unset] []) _
          refine own_go (fun t_ k_ => XS.iloadN X48.here hx rfl (hb hby at_224) rfl k_) ?_
          show own_G p.tables e below T48 (mkF m 225 #[.val (.int p1), .val (.int p2), .val (.int p3), .val (.int p4), .val (.int p5), .val (.int p6), .val (.int (p1 &&& (255 : Int32))), .val (.int (((p1.toUInt32 >>> ((8 : Int32) &&& 31).toUInt32).toInt32) &&& (255 : Int32))), .val (.int (((p1.toUInt32 >>> ((16 : Int32) &&& 31).toUInt32).toInt32) &&& (255 : Int32))), .val (.int (p6 &&& (255 : Int32))), .val (.int ((p5 &&& (2147483647 : Int32)) % (10 : Int32))), .val (.ref b1), .val (.int (p6 &&& (255 : Int32))), .val (.int (((p1.toUInt32 >>> ((8 : Int32) &&& 31).toUInt32).toInt32) &&& (255 : Int32))), .val (.int (((p1.toUInt32 >>> ((16 : Int32) &&& 31).toUInt32).toInt32) &&& (255 : Int32))), .val (.int p2), .val (.int p3), .unset, .unset, .unset] [(.int p4)]) _
          refine own_go (fun t_ k_ => XS.istore X48.here hx rfl (hb hby at_225) rfl (l' := #[.val (.int p1), .val (.int p2), .val (.int p3), .val (.int p4), .val (.int p5), .val (.int p6), .val (.int (p1 &&& (255 : Int32))), .val (.int (((p1.toUInt32 >>> ((8 : Int32) &&& 31).toUInt32).toInt32) &&& (255 : Int32))), .val (.int (((p1.toUInt32 >>> ((16 : Int32) &&& 31).toUInt32).toInt32) &&& (255 : Int32))), .val (.int (p6 &&& (255 : Int32))), .val (.int ((p5 &&& (2147483647 : Int32)) % (10 : Int32))), .val (.ref b1), .val (.int (p6 &&& (255 : Int32))), .val (.int (((p1.toUInt32 >>> ((8 : Int32) &&& 31).toUInt32).toInt32) &&& (255 : Int32))), .val (.int (((p1.toUInt32 >>> ((16 : Int32) &&& 31).toUInt32).toInt32) &&& (255 : Int32))), .val (.int p2), .val (.int p3), .val (.int p4), .unset, .unset]) rfl k_) ?_
          show own_G p.tables e below T48 (mkF m 227 #[.val (.int p1), .val (.int p2), .val (.int p3), .val (.int p4), .val (.int p5), .val (.int p6), .val (.int (p1 &&& (255 : Int32))), .val (.int (((p1.toUInt32 >>> ((8 : Int32) &&& 31).toUInt32).toInt32) &&& (255 : Int32))), .val (.int (((p1.toUInt32 >>> ((16 : Int32) &&& 31).toUInt32).toInt32) &&& (255 : Int32))), .val (.int (p6 &&& (255 : Int32))), .val (.int ((p5 &&& (2147483647 : Int32)) % (10 : Int32))), .val (.ref b1), .val (.int (p6 &&& (255 : Int32))), .val (.int (((p1.toUInt32 >>> ((8 : Int32) &&& 31).toUInt32).toInt32) &&& (255 : Int32))), .val (.int (((p1.toUInt32 >>> ((16 : Int32) &&& 31).toUInt32).toInt32) &&& (255 : Int32))), .val (.int p2), .val (.int p3), .val (.int p4), .unset, .unset] []) _
          exact tail227 _ _ _ _ _ _ (own_mm _) (own_mm _) (own_mm _)
        · skip
          refine own_go (fun t_ k_ => XS.icmpYes X48.here hx rfl (pc0 := 142) (pc' := 150) rfl (hb hby at_142) rfl (feq hc142_450).2 (by decide) (by decide) k_) ?_
          show own_G p.tables e below T48 (mkF m 150 #[.val (.int p1), .val (.int p2), .val (.int p3), .val (.int p4), .val (.int p5), .val (.int p6), .val (.int (p1 &&& (255 : Int32))), .val (.int (((p1.toUInt32 >>> ((8 : Int32) &&& 31).toUInt32).toInt32) &&& (255 : Int32))), .val (.int (((p1.toUInt32 >>> ((16 : Int32) &&& 31).toUInt32).toInt32) &&& (255 : Int32))), .val (.int (p6 &&& (255 : Int32))), .val (.int ((p5 &&& (2147483647 : Int32)) % (10 : Int32))), .val (.ref b1), .unset, .unset, .unset, .unset, .unset, .unset, .unset, .unset] []) _
          refine own_go (fun t_ k_ => XS.iload X48.here hx rfl (hb hby at_150) rfl k_) ?_
          show own_G p.tables e below T48 (mkF m 152 #[.val (.int p1), .val (.int p2), .val (.int p3), .val (.int p4), .val (.int p5), .val (.int p6), .val (.int (p1 &&& (255 : Int32))), .val (.int (((p1.toUInt32 >>> ((8 : Int32) &&& 31).toUInt32).toInt32) &&& (255 : Int32))), .val (.int (((p1.toUInt32 >>> ((16 : Int32) &&& 31).toUInt32).toInt32) &&& (255 : Int32))), .val (.int (p6 &&& (255 : Int32))), .val (.int ((p5 &&& (2147483647 : Int32)) % (10 : Int32))), .val (.ref b1), .unset, .unset, .unset, .unset, .unset, .unset, .unset, .unset] [(.int (p1 &&& (255 : Int32)))]) _
          refine own_go (fun t_ k_ => XS.istore X48.here hx rfl (hb hby at_152) rfl (l' := #[.val (.int p1), .val (.int p2), .val (.int p3), .val (.int p4), .val (.int p5), .val (.int p6), .val (.int (p1 &&& (255 : Int32))), .val (.int (((p1.toUInt32 >>> ((8 : Int32) &&& 31).toUInt32).toInt32) &&& (255 : Int32))), .val (.int (((p1.toUInt32 >>> ((16 : Int32) &&& 31).toUInt32).toInt32) &&& (255 : Int32))), .val (.int (p6 &&& (255 : Int32))), .val (.int ((p5 &&& (2147483647 : Int32)) % (10 : Int32))), .val (.ref b1), .val (.int (p1 &&& (255 : Int32))), .unset, .unset, .unset, .unset, .unset, .unset, .unset]) rfl k_) ?_
          show own_G p.tables e below T48 (mkF m 154 #[.val (.int p1), .val (.int p2), .val (.int p3), .val (.int p4), .val (.int p5), .val (.int p6), .val (.int (p1 &&& (255 : Int32))), .val (.int (((p1.toUInt32 >>> ((8 : Int32) &&& 31).toUInt32).toInt32) &&& (255 : Int32))), .val (.int (((p1.toUInt32 >>> ((16 : Int32) &&& 31).toUInt32).toInt32) &&& (255 : Int32))), .val (.int (p6 &&& (255 : Int32))), .val (.int ((p5 &&& (2147483647 : Int32)) % (10 : Int32))), .val (.ref b1), .val (.int (p1 &&& (255 : Int32))), .unset, .unset, .unset, .unset, .unset, .unset, .unset] []) _
          refine own_go (fun t_ k_ => XS.iload X48.here hx rfl (hb hby at_154) rfl k_) ?_
          show own_G p.tables e below T48 (mkF m 156 #[.val (.int p1), .val (.int p2), .val (.int p3), .val (.int p4), .val (.int p5), .val (.int p6), .val (.int (p1 &&& (255 : Int32))), .val (.int (((p1.toUInt32 >>> ((8 : Int32) &&& 31).toUInt32).toInt32) &&& (255 : Int32))), .val (.int (((p1.toUInt32 >>> ((16 : Int32) &&& 31).toUInt32).toInt32) &&& (255 : Int32))), .val (.int (p6 &&& (255 : Int32))), .val (.int ((p5 &&& (2147483647 : Int32)) % (10 : Int32))), .val (.ref b1), .val (.int (p1 &&& (255 : Int32))), .unset, .unset, .unset, .unset, .unset, .unset, .unset] [(.int ((p5 &&& (2147483647 : Int32)) % (10 : Int32)))]) _
          refine own_go (fun t_ k_ => XS.iconst X48.here hx rfl (hb hby at_156) k_) ?_
          show own_G p.tables e below T48 (mkF m 157 #[.val (.int p1), .val (.int p2), .val (.int p3), .val (.int p4), .val (.int p5), .val (.int p6), .val (.int (p1 &&& (255 : Int32))), .val (.int (((p1.toUInt32 >>> ((8 : Int32) &&& 31).toUInt32).toInt32) &&& (255 : Int32))), .val (.int (((p1.toUInt32 >>> ((16 : Int32) &&& 31).toUInt32).toInt32) &&& (255 : Int32))), .val (.int (p6 &&& (255 : Int32))), .val (.int ((p5 &&& (2147483647 : Int32)) % (10 : Int32))), .val (.ref b1), .val (.int (p1 &&& (255 : Int32))), .unset, .unset, .unset, .unset, .unset, .unset, .unset] [(.int (2 : Int32)), (.int ((p5 &&& (2147483647 : Int32)) % (10 : Int32)))]) _
          by_cases hc157_451 : ((p5 &&& (2147483647 : Int32)) % (10 : Int32)) = (2 : Int32)
          · skip
            refine own_go (fun t_ k_ => XS.icmpNo X48.here hx rfl (hb hby at_157) rfl (teq hc157_451).2 k_) ?_
            show own_G p.tables e below T48 (mkF m 160 #[.val (.int p1), .val (.int p2), .val (.int p3), .val (.int p4), .val (.int p5), .val (.int p6), .val (.int (p1 &&& (255 : Int32))), .val (.int (((p1.toUInt32 >>> ((8 : Int32) &&& 31).toUInt32).toInt32) &&& (255 : Int32))), .val (.int (((p1.toUInt32 >>> ((16 : Int32) &&& 31).toUInt32).toInt32) &&& (255 : Int32))), .val (.int (p6 &&& (255 : Int32))), .val (.int ((p5 &&& (2147483647 : Int32)) % (10 : Int32))), .val (.ref b1), .val (.int (p1 &&& (255 : Int32))), .unset, .unset, .unset, .unset, .unset, .unset, .unset] []) _
            refine own_go (fun t_ k_ => XS.iload X48.here hx rfl (hb hby at_160) rfl k_) ?_
            show own_G p.tables e below T48 (mkF m 162 #[.val (.int p1), .val (.int p2), .val (.int p3), .val (.int p4), .val (.int p5), .val (.int p6), .val (.int (p1 &&& (255 : Int32))), .val (.int (((p1.toUInt32 >>> ((8 : Int32) &&& 31).toUInt32).toInt32) &&& (255 : Int32))), .val (.int (((p1.toUInt32 >>> ((16 : Int32) &&& 31).toUInt32).toInt32) &&& (255 : Int32))), .val (.int (p6 &&& (255 : Int32))), .val (.int ((p5 &&& (2147483647 : Int32)) % (10 : Int32))), .val (.ref b1), .val (.int (p1 &&& (255 : Int32))), .unset, .unset, .unset, .unset, .unset, .unset, .unset] [(.int (p6 &&& (255 : Int32)))]) _
            refine own_go (fun t_ k_ => XS.goto X48.here hx rfl (pc0 := 162) (pc' := 167) rfl (hb hby at_162) (by decide) (by decide) k_) ?_
            show own_G p.tables e below T48 (mkF m 167 #[.val (.int p1), .val (.int p2), .val (.int p3), .val (.int p4), .val (.int p5), .val (.int p6), .val (.int (p1 &&& (255 : Int32))), .val (.int (((p1.toUInt32 >>> ((8 : Int32) &&& 31).toUInt32).toInt32) &&& (255 : Int32))), .val (.int (((p1.toUInt32 >>> ((16 : Int32) &&& 31).toUInt32).toInt32) &&& (255 : Int32))), .val (.int (p6 &&& (255 : Int32))), .val (.int ((p5 &&& (2147483647 : Int32)) % (10 : Int32))), .val (.ref b1), .val (.int (p1 &&& (255 : Int32))), .unset, .unset, .unset, .unset, .unset, .unset, .unset] [(.int (p6 &&& (255 : Int32)))]) _
            refine own_go (fun t_ k_ => XS.istore X48.here hx rfl (hb hby at_167) rfl (l' := #[.val (.int p1), .val (.int p2), .val (.int p3), .val (.int p4), .val (.int p5), .val (.int p6), .val (.int (p1 &&& (255 : Int32))), .val (.int (((p1.toUInt32 >>> ((8 : Int32) &&& 31).toUInt32).toInt32) &&& (255 : Int32))), .val (.int (((p1.toUInt32 >>> ((16 : Int32) &&& 31).toUInt32).toInt32) &&& (255 : Int32))), .val (.int (p6 &&& (255 : Int32))), .val (.int ((p5 &&& (2147483647 : Int32)) % (10 : Int32))), .val (.ref b1), .val (.int (p1 &&& (255 : Int32))), .val (.int (p6 &&& (255 : Int32))), .unset, .unset, .unset, .unset, .unset, .unset]) rfl k_) ?_
            show own_G p.tables e below T48 (mkF m 169 #[.val (.int p1), .val (.int p2), .val (.int p3), .val (.int p4), .val (.int p5), .val (.int p6), .val (.int (p1 &&& (255 : Int32))), .val (.int (((p1.toUInt32 >>> ((8 : Int32) &&& 31).toUInt32).toInt32) &&& (255 : Int32))), .val (.int (((p1.toUInt32 >>> ((16 : Int32) &&& 31).toUInt32).toInt32) &&& (255 : Int32))), .val (.int (p6 &&& (255 : Int32))), .val (.int ((p5 &&& (2147483647 : Int32)) % (10 : Int32))), .val (.ref b1), .val (.int (p1 &&& (255 : Int32))), .val (.int (p6 &&& (255 : Int32))), .unset, .unset, .unset, .unset, .unset, .unset] []) _
            refine own_go (fun t_ k_ => XS.iload X48.here hx rfl (hb hby at_169) rfl k_) ?_
            show own_G p.tables e below T48 (mkF m 171 #[.val (.int p1), .val (.int p2), .val (.int p3), .val (.int p4), .val (.int p5), .val (.int p6), .val (.int (p1 &&& (255 : Int32))), .val (.int (((p1.toUInt32 >>> ((8 : Int32) &&& 31).toUInt32).toInt32) &&& (255 : Int32))), .val (.int (((p1.toUInt32 >>> ((16 : Int32) &&& 31).toUInt32).toInt32) &&& (255 : Int32))), .val (.int (p6 &&& (255 : Int32))), .val (.int ((p5 &&& (2147483647 : Int32)) % (10 : Int32))), .val (.ref b1), .val (.int (p1 &&& (255 : Int32))), .val (.int (p6 &&& (255 : Int32))), .unset, .unset, .unset, .unset, .unset, .unset] [(.int ((p5 &&& (2147483647 : Int32)) % (10 : Int32)))]) _
            refine own_go (fun t_ k_ => XS.iconst X48.here hx rfl (hb hby at_171) k_) ?_
            show own_G p.tables e below T48 (mkF m 172 #[.val (.int p1), .val (.int p2), .val (.int p3), .val (.int p4), .val (.int p5), .val (.int p6), .val (.int (p1 &&& (255 : Int32))), .val (.int (((p1.toUInt32 >>> ((8 : Int32) &&& 31).toUInt32).toInt32) &&& (255 : Int32))), .val (.int (((p1.toUInt32 >>> ((16 : Int32) &&& 31).toUInt32).toInt32) &&& (255 : Int32))), .val (.int (p6 &&& (255 : Int32))), .val (.int ((p5 &&& (2147483647 : Int32)) % (10 : Int32))), .val (.ref b1), .val (.int (p1 &&& (255 : Int32))), .val (.int (p6 &&& (255 : Int32))), .unset, .unset, .unset, .unset, .unset, .unset] [(.int (3 : Int32)), (.int ((p5 &&& (2147483647 : Int32)) % (10 : Int32)))]) _
            refine own_go (fun t_ k_ => XS.icmpYes X48.here hx rfl (pc0 := 172) (pc' := 180) rfl (hb hby at_172) rfl (feq (fun q => absurd (hc157_451.symm.trans q) (by decide))).2 (by decide) (by decide) k_) ?_
            show own_G p.tables e below T48 (mkF m 180 #[.val (.int p1), .val (.int p2), .val (.int p3), .val (.int p4), .val (.int p5), .val (.int p6), .val (.int (p1 &&& (255 : Int32))), .val (.int (((p1.toUInt32 >>> ((8 : Int32) &&& 31).toUInt32).toInt32) &&& (255 : Int32))), .val (.int (((p1.toUInt32 >>> ((16 : Int32) &&& 31).toUInt32).toInt32) &&& (255 : Int32))), .val (.int (p6 &&& (255 : Int32))), .val (.int ((p5 &&& (2147483647 : Int32)) % (10 : Int32))), .val (.ref b1), .val (.int (p1 &&& (255 : Int32))), .val (.int (p6 &&& (255 : Int32))), .unset, .unset, .unset, .unset, .unset, .unset] []) _
            refine own_go (fun t_ k_ => XS.iload X48.here hx rfl (hb hby at_180) rfl k_) ?_
            show own_G p.tables e below T48 (mkF m 182 #[.val (.int p1), .val (.int p2), .val (.int p3), .val (.int p4), .val (.int p5), .val (.int p6), .val (.int (p1 &&& (255 : Int32))), .val (.int (((p1.toUInt32 >>> ((8 : Int32) &&& 31).toUInt32).toInt32) &&& (255 : Int32))), .val (.int (((p1.toUInt32 >>> ((16 : Int32) &&& 31).toUInt32).toInt32) &&& (255 : Int32))), .val (.int (p6 &&& (255 : Int32))), .val (.int ((p5 &&& (2147483647 : Int32)) % (10 : Int32))), .val (.ref b1), .val (.int (p1 &&& (255 : Int32))), .val (.int (p6 &&& (255 : Int32))), .unset, .unset, .unset, .unset, .unset, .unset] [(.int (((p1.toUInt32 >>> ((16 : Int32) &&& 31).toUInt32).toInt32) &&& (255 : Int32)))]) _
            refine own_go (fun t_ k_ => XS.istore X48.here hx rfl (hb hby at_182) rfl (l' := #[.val (.int p1), .val (.int p2), .val (.int p3), .val (.int p4), .val (.int p5), .val (.int p6), .val (.int (p1 &&& (255 : Int32))), .val (.int (((p1.toUInt32 >>> ((8 : Int32) &&& 31).toUInt32).toInt32) &&& (255 : Int32))), .val (.int (((p1.toUInt32 >>> ((16 : Int32) &&& 31).toUInt32).toInt32) &&& (255 : Int32))), .val (.int (p6 &&& (255 : Int32))), .val (.int ((p5 &&& (2147483647 : Int32)) % (10 : Int32))), .val (.ref b1), .val (.int (p1 &&& (255 : Int32))), .val (.int (p6 &&& (255 : Int32))), .val (.int (((p1.toUInt32 >>> ((16 : Int32) &&& 31).toUInt32).toInt32) &&& (255 : Int32))), .unset, .unset, .unset, .unset, .unset]) rfl k_) ?_
            show own_G p.tables e below T48 (mkF m 184 #[.val (.int p1), .val (.int p2), .val (.int p3), .val (.int p4), .val (.int p5), .val (.int p6), .val (.int (p1 &&& (255 : Int32))), .val (.int (((p1.toUInt32 >>> ((8 : Int32) &&& 31).toUInt32).toInt32) &&& (255 : Int32))), .val (.int (((p1.toUInt32 >>> ((16 : Int32) &&& 31).toUInt32).toInt32) &&& (255 : Int32))), .val (.int (p6 &&& (255 : Int32))), .val (.int ((p5 &&& (2147483647 : Int32)) % (10 : Int32))), .val (.ref b1), .val (.int (p1 &&& (255 : Int32))), .val (.int (p6 &&& (255 : Int32))), .val (.int (((p1.toUInt32 >>> ((16 : Int32) &&& 31).toUInt32).toInt32) &&& (255 : Int32))), .unset, .unset, .unset, .unset, .unset] []) _
            refine own_go (fun t_ k_ => XS.iload X48.here hx rfl (hb hby at_184) rfl k_) ?_
            show own_G p.tables e below T48 (mkF m 186 #[.val (.int p1), .val (.int p2), .val (.int p3), .val (.int p4), .val (.int p5), .val (.int p6), .val (.int (p1 &&& (255 : Int32))), .val (.int (((p1.toUInt32 >>> ((8 : Int32) &&& 31).toUInt32).toInt32) &&& (255 : Int32))), .val (.int (((p1.toUInt32 >>> ((16 : Int32) &&& 31).toUInt32).toInt32) &&& (255 : Int32))), .val (.int (p6 &&& (255 : Int32))), .val (.int ((p5 &&& (2147483647 : Int32)) % (10 : Int32))), .val (.ref b1), .val (.int (p1 &&& (255 : Int32))), .val (.int (p6 &&& (255 : Int32))), .val (.int (((p1.toUInt32 >>> ((16 : Int32) &&& 31).toUInt32).toInt32) &&& (255 : Int32))), .unset, .unset, .unset, .unset, .unset] [(.int ((p5 &&& (2147483647 : Int32)) % (10 : Int32)))]) _
            refine own_go (fun t_ k_ => XS.iconst X48.here hx rfl (hb hby at_186) k_) ?_
            show own_G p.tables e below T48 (mkF m 187 #[.val (.int p1), .val (.int p2), .val (.int p3), .val (.int p4), .val (.int p5), .val (.int p6), .val (.int (p1 &&& (255 : Int32))), .val (.int (((p1.toUInt32 >>> ((8 : Int32) &&& 31).toUInt32).toInt32) &&& (255 : Int32))), .val (.int (((p1.toUInt32 >>> ((16 : Int32) &&& 31).toUInt32).toInt32) &&& (255 : Int32))), .val (.int (p6 &&& (255 : Int32))), .val (.int ((p5 &&& (2147483647 : Int32)) % (10 : Int32))), .val (.ref b1), .val (.int (p1 &&& (255 : Int32))), .val (.int (p6 &&& (255 : Int32))), .val (.int (((p1.toUInt32 >>> ((16 : Int32) &&& 31).toUInt32).toInt32) &&& (255 : Int32))), .unset, .unset, .unset, .unset, .unset] [(.int (4 : Int32)), (.int ((p5 &&& (2147483647 : Int32)) % (10 : Int32)))]) _
            refine own_go (fun t_ k_ => XS.icmpYes X48.here hx rfl (pc0 := 187) (pc' := 195) rfl (hb hby at_187) rfl (feq (fun q => absurd (hc157_451.symm.trans q) (by decide))).2 (by decide) (by decide) k_) ?_
            show own_G p.tables e below T48 (mkF m 195 #[.val (.int p1), .val (.int p2), .val (.int p3), .val (.int p4), .val (.int p5), .val (.int p6), .val (.int (p1 &&& (255 : Int32))), .val (.int (((p1.toUInt32 >>> ((8 : Int32) &&& 31).toUInt32).toInt32) &&& (255 : Int32))), .val (.int (((p1.toUInt32 >>> ((16 : Int32) &&& 31).toUInt32).toInt32) &&& (255 : Int32))), .val (.int (p6 &&& (255 : Int32))), .val (.int ((p5 &&& (2147483647 : Int32)) % (10 : Int32))), .val (.ref b1), .val (.int (p1 &&& (255 : Int32))), .val (.int (p6 &&& (255 : Int32))), .val (.int (((p1.toUInt32 >>> ((16 : Int32) &&& 31).toUInt32).toInt32) &&& (255 : Int32))), .unset, .unset, .unset, .unset, .unset] []) _
            refine own_go (fun t_ k_ => XS.iloadN X48.here hx rfl (hb hby at_195) rfl k_) ?_
            show own_G p.tables e below T48 (mkF m 196 #[.val (.int p1), .val (.int p2), .val (.int p3), .val (.int p4), .val (.int p5), .val (.int p6), .val (.int (p1 &&& (255 : Int32))), .val (.int (((p1.toUInt32 >>> ((8 : Int32) &&& 31).toUInt32).toInt32) &&& (255 : Int32))), .val (.int (((p1.toUInt32 >>> ((16 : Int32) &&& 31).toUInt32).toInt32) &&& (255 : Int32))), .val (.int (p6 &&& (255 : Int32))), .val (.int ((p5 &&& (2147483647 : Int32)) % (10 : Int32))), .val (.ref b1), .val (.int (p1 &&& (255 : Int32))), .val (.int (p6 &&& (255 : Int32))), .val (.int (((p1.toUInt32 >>> ((16 : Int32) &&& 31).toUInt32).toInt32) &&& (255 : Int32))), .unset, .unset, .unset, .unset, .unset] [(.int p2)]) _
            refine own_go (fun t_ k_ => XS.istore X48.here hx rfl (hb hby at_196) rfl (l' := #[.val (.int p1), .val (.int p2), .val (.int p3), .val (.int p4), .val (.int p5), .val (.int p6), .val (.int (p1 &&& (255 : Int32))), .val (.int (((p1.toUInt32 >>> ((8 : Int32) &&& 31).toUInt32).toInt32) &&& (255 : Int32))), .val (.int (((p1.toUInt32 >>> ((16 : Int32) &&& 31).toUInt32).toInt32) &&& (255 : Int32))), .val (.int (p6 &&& (255 : Int32))), .val (.int ((p5 &&& (2147483647 : Int32)) % (10 : Int32))), .val (.ref b1), .val (.int (p1 &&& (255 : Int32))), .val (.int (p6 &&& (255 : Int32))), .val (.int (((p1.toUInt32 >>> ((16 : Int32) &&& 31).toUInt32).toInt32) &&& (255 : Int32))), .val (.int p2), .unset, .unset, .unset, .unset]) rfl k_) ?_
            show own_G p.tables e below T48 (mkF m 198 #[.val (.int p1), .val (.int p2), .val (.int p3), .val (.int p4), .val (.int p5), .val (.int p6), .val (.int (p1 &&& (255 : Int32))), .val (.int (((p1.toUInt32 >>> ((8 : Int32) &&& 31).toUInt32).toInt32) &&& (255 : Int32))), .val (.int (((p1.toUInt32 >>> ((16 : Int32) &&& 31).toUInt32).toInt32) &&& (255 : Int32))), .val (.int (p6 &&& (255 : Int32))), .val (.int ((p5 &&& (2147483647 : Int32)) % (10 : Int32))), .val (.ref b1), .val (.int (p1 &&& (255 : Int32))), .val (.int (p6 &&& (255 : Int32))), .val (.int (((p1.toUInt32 >>> ((16 : Int32) &&& 31).toUInt32).toInt32) &&& (255 : Int32))), .val (.int p2), .unset, .unset, .unset, .unset] []) _
            refine own_go (fun t_ k_ => XS.iload X48.here hx rfl (hb hby at_198) rfl k_) ?_
            show own_G p.tables e below T48 (mkF m 200 #[.val (.int p1), .val (.int p2), .val (.int p3), .val (.int p4), .val (.int p5), .val (.int p6), .val (.int (p1 &&& (255 : Int32))), .val (.int (((p1.toUInt32 >>> ((8 : Int32) &&& 31).toUInt32).toInt32) &&& (255 : Int32))), .val (.int (((p1.toUInt32 >>> ((16 : Int32) &&& 31).toUInt32).toInt32) &&& (255 : Int32))), .val (.int (p6 &&& (255 : Int32))), .val (.int ((p5 &&& (2147483647 : Int32)) % (10 : Int32))), .val (.ref b1), .val (.int (p1 &&& (255 : Int32))), .val (.int (p6 &&& (255 : Int32))), .val (.int (((p1.toUInt32 >>> ((16 : Int32) &&& 31).toUInt32).toInt32) &&& (255 : Int32))), .val (.int p2), .unset, .unset, .unset, .unset] [(.int ((p5 &&& (2147483647 : Int32)) % (10 : Int32)))]) _
            refine own_go (fun t_ k_ => XS.iconst X48.here hx rfl (hb hby at_200) k_) ?_
            show own_G p.tables e below T48 (mkF m 201 #[.val (.int p1), .val (.int p2), .val (.int p3), .val (.int p4), .val (.int p5), .val (.int p6), .val (.int (p1 &&& (255 : Int32))), .val (.int (((p1.toUInt32 >>> ((8 : Int32) &&& 31).toUInt32).toInt32) &&& (255 : Int32))), .val (.int (((p1.toUInt32 >>> ((16 : Int32) &&& 31).toUInt32).toInt32) &&& (255 : Int32))), .val (.int (p6 &&& (255 : Int32))), .val (.int ((p5 &&& (2147483647 : Int32)) % (10 : Int32))), .val (.ref b1), .val (.int (p1 &&& (255 : Int32))), .val (.int (p6 &&& (255 : Int32))), .val (.int (((p1.toUInt32 >>> ((16 : Int32) &&& 31).toUInt32).toInt32) &&& (255 : Int32))), .val (.int p2), .unset, .unset, .unset, .unset] [(.int (5 : Int32)), (.int ((p5 &&& (2147483647 : Int32)) % (10 : Int32)))]) _
            refine own_go (fun t_ k_ => XS.icmpYes X48.here hx rfl (pc0 := 201) (pc' := 209) rfl (hb hby at_201) rfl (feq (fun q => absurd (hc157_451.symm.trans q) (by decide))).2 (by decide) (by decide) k_) ?_
            show own_G p.tables e below T48 (mkF m 209 #[.val (.int p1), .val (.int p2), .val (.int p3), .val (.int p4), .val (.int p5), .val (.int p6), .val (.int (p1 &&& (255 : Int32))), .val (.int (((p1.toUInt32 >>> ((8 : Int32) &&& 31).toUInt32).toInt32) &&& (255 : Int32))), .val (.int (((p1.toUInt32 >>> ((16 : Int32) &&& 31).toUInt32).toInt32) &&& (255 : Int32))), .val (.int (p6 &&& (255 : Int32))), .val (.int ((p5 &&& (2147483647 : Int32)) % (10 : Int32))), .val (.ref b1), .val (.int (p1 &&& (255 : Int32))), .val (.int (p6 &&& (255 : Int32))), .val (.int (((p1.toUInt32 >>> ((16 : Int32) &&& 31).toUInt32).toInt32) &&& (255 : Int32))), .val (.int p2), .unset, .unset, .unset, .unset] []) _
            refine own_go (fun t_ k_ => XS.iloadN X48.here hx rfl (hb hby at_209) rfl k_) ?_
            show own_G p.tables e below T48 (mkF m 210 #[.val (.int p1), .val (.int p2), .val (.int p3), .val (.int p4), .val (.int p5), .val (.int p6), .val (.int (p1 &&& (255 : Int32))), .val (.int (((p1.toUInt32 >>> ((8 : Int32) &&& 31).toUInt32).toInt32) &&& (255 : Int32))), .val (.int (((p1.toUInt32 >>> ((16 : Int32) &&& 31).toUInt32).toInt32) &&& (255 : Int32))), .val (.int (p6 &&& (255 : Int32))), .val (.int ((p5 &&& (2147483647 : Int32)) % (10 : Int32))), .val (.ref b1), .val (.int (p1 &&& (255 : Int32))), .val (.int (p6 &&& (255 : Int32))), .val (.int (((p1.toUInt32 >>> ((16 : Int32) &&& 31).toUInt32).toInt32) &&& (255 : Int32))), .val (.int p2), .unset, .unset, .unset, .unset] [(.int p3)]) _
            refine own_go (fun t_ k_ => XS.istore X48.here hx rfl (hb hby at_210) rfl (l' := #[.val (.int p1), .val (.int p2), .val (.int p3), .val (.int p4), .val (.int p5), .val (.int p6), .val (.int (p1 &&& (255 : Int32))), .val (.int (((p1.toUInt32 >>> ((8 : Int32) &&& 31).toUInt32).toInt32) &&& (255 : Int32))), .val (.int (((p1.toUInt32 >>> ((16 : Int32) &&& 31).toUInt32).toInt32) &&& (255 : Int32))), .val (.int (p6 &&& (255 : Int32))), .val (.int ((p5 &&& (2147483647 : Int32)) % (10 : Int32))), .val (.ref b1), .val (.int (p1 &&& (255 : Int32))), .val (.int (p6 &&& (255 : Int32))), .val (.int (((p1.toUInt32 >>> ((16 : Int32) &&& 31).toUInt32).toInt32) &&& (255 : Int32))), .val (.int p2), .val (.int p3), .unset, .unset, .unset]) rfl k_) ?_
            show own_G p.tables e below T48 (mkF m 212 #[.val (.int p1), .val (.int p2), .val (.int p3), .val (.int p4), .val (.int p5), .val (.int p6), .val (.int (p1 &&& (255 : Int32))), .val (.int (((p1.toUInt32 >>> ((8 : Int32) &&& 31).toUInt32).toInt32) &&& (255 : Int32))), .val (.int (((p1.toUInt32 >>> ((16 : Int32) &&& 31).toUInt32).toInt32) &&& (255 : Int32))), .val (.int (p6 &&& (255 : Int32))), .val (.int ((p5 &&& (2147483647 : Int32)) % (10 : Int32))), .val (.ref b1), .val (.int (p1 &&& (255 : Int32))), .val (.int (p6 &&& (255 : Int32))), .val (.int (((p1.toUInt32 >>> ((16 : Int32) &&& 31).toUInt32).toInt32) &&& (255 : Int32))), .val (.int p2), .val (.int p3), .unset, .unset, .unset] []) _
            refine own_go (fun t_ k_ => XS.iload X48.here hx rfl (hb hby at_212) rfl k_) ?_
            show own_G p.tables e below T48 (mkF m 214 #[.val (.int p1), .val (.int p2), .val (.int p3), .val (.int p4), .val (.int p5), .val (.int p6), .val (.int (p1 &&& (255 : Int32))), .val (.int (((p1.toUInt32 >>> ((8 : Int32) &&& 31).toUInt32).toInt32) &&& (255 : Int32))), .val (.int (((p1.toUInt32 >>> ((16 : Int32) &&& 31).toUInt32).toInt32) &&& (255 : Int32))), .val (.int (p6 &&& (255 : Int32))), .val (.int ((p5 &&& (2147483647 : Int32)) % (10 : Int32))), .val (.ref b1), .val (.int (p1 &&& (255 : Int32))), .val (.int (p6 &&& (255 : Int32))), .val (.int (((p1.toUInt32 >>> ((16 : Int32) &&& 31).toUInt32).toInt32) &&& (255 : Int32))), .val (.int p2), .val (.int p3), .unset, .unset, .unset] [(.int ((p5 &&& (2147483647 : Int32)) % (10 : Int32)))]) _
            refine own_go (fun t_ k_ => XS.bipush X48.here hx rfl (hb hby at_214) k_) ?_
            show own_G p.tables e below T48 (mkF m 216 #[.val (.int p1), .val (.int p2), .val (.int p3), .val (.int p4), .val (.int p5), .val (.int p6), .val (.int (p1 &&& (255 : Int32))), .val (.int (((p1.toUInt32 >>> ((8 : Int32) &&& 31).toUInt32).toInt32) &&& (255 : Int32))), .val (.int (((p1.toUInt32 >>> ((16 : Int32) &&& 31).toUInt32).toInt32) &&& (255 : Int32))), .val (.int (p6 &&& (255 : Int32))), .val (.int ((p5 &&& (2147483647 : Int32)) % (10 : Int32))), .val (.ref b1), .val (.int (p1 &&& (255 : Int32))), .val (.int (p6 &&& (255 : Int32))), .val (.int (((p1.toUInt32 >>> ((16 : Int32) &&& 31).toUInt32).toInt32) &&& (255 : Int32))), .val (.int p2), .val (.int p3), .unset, .unset, .unset] [(.int (6 : Int32)), (.int ((p5 &&& (2147483647 : Int32)) % (10 : Int32)))]) _
            refine own_go (fun t_ k_ => XS.icmpYes X48.here hx rfl (pc0 := 216) (pc' := 224) rfl (hb hby at_216) rfl (feq (fun q => absurd (hc157_451.symm.trans q) (by decide))).2 (by decide) (by decide) k_) ?_
            show own_G p.tables e below T48 (mkF m 224 #[.val (.int p1), .val (.int p2), .val (.int p3), .val (.int p4), .val (.int p5), .val (.int p6), .val (.int (p1 &&& (255 : Int32))), .val (.int (((p1.toUInt32 >>> ((8 : Int32) &&& 31).toUInt32).toInt32) &&& (255 : Int32))), .val (.int (((p1.toUInt32 >>> ((16 : Int32) &&& 31).toUInt32).toInt32) &&& (255 : Int32))), .val (.int (p6 &&& (255 : Int32))), .val (.int ((p5 &&& (2147483647 : Int32)) % (10 : Int32))), .val (.ref b1), .val (.int (p1 &&& (255 : Int32))), .val (.int (p6 &&& (255 : Int32))), .val (.int (((p1.toUInt32 >>> ((16 : Int32) &&& 31).toUInt32).toInt32) &&& (255 : Int32))), .val (.int p2), .val (.int p3), .unset, .unset, .unset] []) _
            refine own_go (fun t_ k_ => XS.iloadN X48.here hx rfl (hb hby at_224) rfl k_) ?_
            show own_G p.tables e below T48 (mkF m 225 #[.val (.int p1), .val (.int p2), .val (.int p3), .val (.int p4), .val (.int p5), .val (.int p6), .val (.int (p1 &&& (255 : Int32))), .val (.int (((p1.toUInt32 >>> ((8 : Int32) &&& 31).toUInt32).toInt32) &&& (255 : Int32))), .val (.int (((p1.toUInt32 >>> ((16 : Int32) &&& 31).toUInt32).toInt32) &&& (255 : Int32))), .val (.int (p6 &&& (255 : Int32))), .val (.int ((p5 &&& (2147483647 : Int32)) % (10 : Int32))), .val (.ref b1), .val (.int (p1 &&& (255 : Int32))), .val (.int (p6 &&& (255 : Int32))), .val (.int (((p1.toUInt32 >>> ((16 : Int32) &&& 31).toUInt32).toInt32) &&& (255 : Int32))), .val (.int p2), .val (.int p3), .unset, .unset, .unset] [(.int p4)]) _
            refine own_go (fun t_ k_ => XS.istore X48.here hx rfl (hb hby at_225) rfl (l' := #[.val (.int p1), .val (.int p2), .val (.int p3), .val (.int p4), .val (.int p5), .val (.int p6), .val (.int (p1 &&& (255 : Int32))), .val (.int (((p1.toUInt32 >>> ((8 : Int32) &&& 31).toUInt32).toInt32) &&& (255 : Int32))), .val (.int (((p1.toUInt32 >>> ((16 : Int32) &&& 31).toUInt32).toInt32) &&& (255 : Int32))), .val (.int (p6 &&& (255 : Int32))), .val (.int ((p5 &&& (2147483647 : Int32)) % (10 : Int32))), .val (.ref b1), .val (.int (p1 &&& (255 : Int32))), .val (.int (p6 &&& (255 : Int32))), .val (.int (((p1.toUInt32 >>> ((16 : Int32) &&& 31).toUInt32).toInt32) &&& (255 : Int32))), .val (.int p2), .val (.int p3), .val (.int p4), .unset, .unset]) rfl k_) ?_
            show own_G p.tables e below T48 (mkF m 227 #[.val (.int p1), .val (.int p2), .val (.int p3), .val (.int p4), .val (.int p5), .val (.int p6), .val (.int (p1 &&& (255 : Int32))), .val (.int (((p1.toUInt32 >>> ((8 : Int32) &&& 31).toUInt32).toInt32) &&& (255 : Int32))), .val (.int (((p1.toUInt32 >>> ((16 : Int32) &&& 31).toUInt32).toInt32) &&& (255 : Int32))), .val (.int (p6 &&& (255 : Int32))), .val (.int ((p5 &&& (2147483647 : Int32)) % (10 : Int32))), .val (.ref b1), .val (.int (p1 &&& (255 : Int32))), .val (.int (p6 &&& (255 : Int32))), .val (.int (((p1.toUInt32 >>> ((16 : Int32) &&& 31).toUInt32).toInt32) &&& (255 : Int32))), .val (.int p2), .val (.int p3), .val (.int p4), .unset, .unset] []) _
            exact tail227 _ _ _ _ _ _ (own_mm _) (own_mm _) (own_mm _)
          · skip
            refine own_go (fun t_ k_ => XS.icmpYes X48.here hx rfl (pc0 := 157) (pc' := 165) rfl (hb hby at_157) rfl (feq hc157_451).2 (by decide) (by decide) k_) ?_
            show own_G p.tables e below T48 (mkF m 165 #[.val (.int p1), .val (.int p2), .val (.int p3), .val (.int p4), .val (.int p5), .val (.int p6), .val (.int (p1 &&& (255 : Int32))), .val (.int (((p1.toUInt32 >>> ((8 : Int32) &&& 31).toUInt32).toInt32) &&& (255 : Int32))), .val (.int (((p1.toUInt32 >>> ((16 : Int32) &&& 31).toUInt32).toInt32) &&& (255 : Int32))), .val (.int (p6 &&& (255 : Int32))), .val (.int ((p5 &&& (2147483647 : Int32)) % (10 : Int32))), .val (.ref b1), .val (.int (p1 &&& (255 : Int32))), .unset, .unset, .unset, .unset, .unset, .unset, .unset] []) _
            refine own_go (fun t_ k_ => XS.iload X48.here hx rfl (hb hby at_165) rfl k_) ?_
            show own_G p.tables e below T48 (mkF m 167 #[.val (.int p1), .val (.int p2), .val (.int p3), .val (.int p4), .val (.int p5), .val (.int p6), .val (.int (p1 &&& (255 : Int32))), .val (.int (((p1.toUInt32 >>> ((8 : Int32) &&& 31).toUInt32).toInt32) &&& (255 : Int32))), .val (.int (((p1.toUInt32 >>> ((16 : Int32) &&& 31).toUInt32).toInt32) &&& (255 : Int32))), .val (.int (p6 &&& (255 : Int32))), .val (.int ((p5 &&& (2147483647 : Int32)) % (10 : Int32))), .val (.ref b1), .val (.int (p1 &&& (255 : Int32))), .unset, .unset, .unset, .unset, .unset, .unset, .unset] [(.int (((p1.toUInt32 >>> ((8 : Int32) &&& 31).toUInt32).toInt32) &&& (255 : Int32)))]) _
            refine own_go (fun t_ k_ => XS.istore X48.here hx rfl (hb hby at_167) rfl (l' := #[.val (.int p1), .val (.int p2), .val (.int p3), .val (.int p4), .val (.int p5), .val (.int p6), .val (.int (p1 &&& (255 : Int32))), .val (.int (((p1.toUInt32 >>> ((8 : Int32) &&& 31).toUInt32).toInt32) &&& (255 : Int32))), .val (.int (((p1.toUInt32 >>> ((16 : Int32) &&& 31).toUInt32).toInt32) &&& (255 : Int32))), .val (.int (p6 &&& (255 : Int32))), .val (.int ((p5 &&& (2147483647 : Int32)) % (10 : Int32))), .val (.ref b1), .val (.int (p1 &&& (255 : Int32))), .val (.int (((p1.toUInt32 >>> ((8 : Int32) &&& 31).toUInt32).toInt32) &&& (255 : Int32))), .unset, .unset, .unset, .unset, .unset, .unset]) rfl k_) ?_
            show own_G p.tables e below T48 (mkF m 169 #[.val (.int p1), .val (.int p2), .val (.int p3), .val (.int p4), .val (.int p5), .val (.int p6), .val (.int (p1 &&& (255 : Int32))), .val (.int (((p1.toUInt32 >>> ((8 : Int32) &&& 31).toUInt32).toInt32) &&& (255 : Int32))), .val (.int (((p1.toUInt32 >>> ((16 : Int32) &&& 31).toUInt32).toInt32) &&& (255 : Int32))), .val (.int (p6 &&& (255 : Int32))), .val (.int ((p5 &&& (2147483647 : Int32)) % (10 : Int32))), .val (.ref b1), .val (.int (p1 &&& (255 : Int32))), .val (.int (((p1.toUInt32 >>> ((8 : Int32) &&& 31).toUInt32).toInt32) &&& (255 : Int32))), .unset, .unset, .unset, .unset, .unset, .unset] []) _
            refine own_go (fun t_ k_ => XS.iload X48.here hx rfl (hb hby at_169) rfl k_) ?_
            show own_G p.tables e below T48 (mkF m 171 #[.val (.int p1), .val (.int p2), .val (.int p3), .val (.int p4), .val (.int p5), .val (.int p6), .val (.int (p1 &&& (255 : Int32))), .val (.int (((p1.toUInt32 >>> ((8 : Int32) &&& 31).toUInt32).toInt32) &&& (255 : Int32))), .val (.int (((p1.toUInt32 >>> ((16 : Int32) &&& 31).toUInt32).toInt32) &&& (255 : Int32))), .val (.int (p6 &&& (255 : Int32))), .val (.int ((p5 &&& (2147483647 : Int32)) % (10 : Int32))), .val (.ref b1), .val (.int (p1 &&& (255 : Int32))), .val (.int (((p1.toUInt32 >>> ((8 : Int32) &&& 31).toUInt32).toInt32) &&& (255 : Int32))), .unset, .unset, .unset, .unset, .unset, .unset] [(.int ((p5 &&& (2147483647 : Int32)) % (10 : Int32)))]) _
            refine own_go (fun t_ k_ => XS.iconst X48.here hx rfl (hb hby at_171) k_) ?_
            show own_G p.tables e below T48 (mkF m 172 #[.val (.int p1), .val (.int p2), .val (.int p3), .val (.int p4), .val (.int p5), .val (.int p6), .val (.int (p1 &&& (255 : Int32))), .val (.int (((p1.toUInt32 >>> ((8 : Int32) &&& 31).toUInt32).toInt32) &&& (255 : Int32))), .val (.int (((p1.toUInt32 >>> ((16 : Int32) &&& 31).toUInt32).toInt32) &&& (255 : Int32))), .val (.int (p6 &&& (255 : Int32))), .val (.int ((p5 &&& (2147483647 : Int32)) % (10 : Int32))), .val (.ref b1), .val (.int (p1 &&& (255 : Int32))), .val (.int (((p1.toUInt32 >>> ((8 : Int32) &&& 31).toUInt32).toInt32) &&& (255 : Int32))), .unset, .unset, .unset, .unset, .unset, .unset] [(.int (3 : Int32)), (.int ((p5 &&& (2147483647 : Int32)) % (10 : Int32)))]) _
            by_cases hc172_452 : ((p5 &&& (2147483647 : Int32)) % (10 : Int32)) = (3 : Int32)
            · skip
              refine own_go (fun t_ k_ => XS.icmpNo X48.here hx rfl (hb hby at_172) rfl (teq hc172_452).2 k_) ?_
              show own_G p.tables e below T48 (mkF m 175 #[.val (.int p1), .val (.int p2), .val (.int p3), .val (.int p4), .val (.int p5), .val (.int p6), .val (.int (p1 &&& (255 : Int32))), .val (.int (((p1.toUInt32 >>> ((8 : Int32) &&& 31).toUInt32).toInt32) &&& (255 : Int32))), .val (.int (((p1.toUInt32 >>> ((16 : Int32) &&& 31).toUInt32).toInt32) &&& (255 : Int32))), .val (.int (p6 &&& (255 : Int32))), .val (.int ((p5 &&& (2147483647 : Int32)) % (10 : Int32))), .val (.ref b1), .val (.int (p1 &&& (255 : Int32))), .val (.int (((p1.toUInt32 >>> ((8 : Int32) &&& 31).toUInt32).toInt32) &&& (255 : Int32))), .unset, .unset, .unset, .unset, .unset, .unset] []) _
              refine own_go (fun t_ k_ => XS.iload X48.here hx rfl (hb hby at_175) rfl k_) ?_
              show own_G p.tables e below T48 (mkF m 177 #[.val (.int p1), .val (.int p2), .val (.int p3), .val (.int p4), .val (.int p5), .val (.int p6), .val (.int (p1 &&& (255 : Int32))), .val (.int (((p1.toUInt32 >>> ((8 : Int32) &&& 31).toUInt32).toInt32) &&& (255 : Int32))), .val (.int (((p1.toUInt32 >>> ((16 : Int32) &&& 31).toUInt32).toInt32) &&& (255 : Int32))), .val (.int (p6 &&& (255 : Int32))), .val (.int ((p5 &&& (2147483647 : Int32)) % (10 : Int32))), .val (.ref b1), .val (.int (p1 &&& (255 : Int32))), .val (.int (((p1.toUInt32 >>> ((8 : Int32) &&& 31).toUInt32).toInt32) &&& (255 : Int32))), .unset, .unset, .unset, .unset, .unset, .unset] [(.int (p6 &&& (255 : Int32)))]) _
              refine own_go (fun t_ k_ => XS.goto X48.here hx rfl (pc0 := 177) (pc' := 182) rfl (hb hby at_177) (by decide) (by decide) k_) ?_
              show own_G p.tables e below T48 (mkF m 182 #[.val (.int p1), .val (.int p2), .val (.int p3), .val (.int p4), .val (.int p5), .val (.int p6), .val (.int (p1 &&& (255 : Int32))), .val (.int (((p1.toUInt32 >>> ((8 : Int32) &&& 31).toUInt32).toInt32) &&& (255 : Int32))), .val (.int (((p1.toUInt32 >>> ((16 : Int32) &&& 31).toUInt32).toInt32) &&& (255 : Int32))), .val (.int (p6 &&& (255 : Int32))), .val (.int ((p5 &&& (2147483647 : Int32)) % (10 : Int32))), .val (.ref b1), .val (.int (p1 &&& (255 : Int32))), .val (.int (((p1.toUInt32 >>> ((8 : Int32) &&& 31).toUInt32).toInt32) &&& (255 : Int32))), .unset, .unset, .unset, .unset, .unset, .unset] [(.int (p6 &&& (255 : Int32)))]) _
              refine own_go (fun t_ k_ => XS.istore X48.here hx rfl (hb hby at_182) rfl (l' := #[.val (.int p1), .val (.int p2), .val (.int p3), .val (.int p4), .val (.int p5), .val (.int p6), .val (.int (p1 &&& (255 : Int32))), .val (.int (((p1.toUInt32 >>> ((8 : Int32) &&& 31).toUInt32).toInt32) &&& (255 : Int32))), .val (.int (((p1.toUInt32 >>> ((16 : Int32) &&& 31).toUInt32).toInt32) &&& (255 : Int32))), .val (.int (p6 &&& (255 : Int32))), .val (.int ((p5 &&& (2147483647 : Int32)) % (10 : Int32))), .val (.ref b1), .val (.int (p1 &&& (255 : Int32))), .val (.int (((p1.toUInt32 >>> ((8 : Int32) &&& 31).toUInt32).toInt32) &&& (255 : Int32))), .val (.int (p6 &&& (255 : Int32))), .unset, .unset, .unset, .unset, .unset]) rfl k_) ?_
              show own_G p.tables e below T48 (mkF m 184 #[.val (.int p1), .val (.int p2), .val (.int p3), .val (.int p4), .val (.int p5), .val (.int p6), .val (.int (p1 &&& (255 : Int32))), .val (.int (((p1.toUInt32 >>> ((8 : Int32) &&& 31).toUInt32).toInt32) &&& (255 : Int32))), .val (.int (((p1.toUInt32 >>> ((16 : Int32) &&& 31).toUInt32).toInt32) &&& (255 : Int32))), .val (.int (p6 &&& (255 : Int32))), .val (.int ((p5 &&& (2147483647 : Int32)) % (10 : Int32))), .val (.ref b1), .val (.int (p1 &&& (255 : Int32))), .val (.int (((p1.toUInt32 >>> ((8 : Int32) &&& 31).toUInt32).toInt32) &&& (255 : Int32))), .val (.int (p6 &&& (255 : Int32))), .unset, .unset, .unset, .unset, .unset] []) _
              refine own_go (fun t_ k_ => XS.iload X48.here hx rfl (hb hby at_184) rfl k_) ?_
              show own_G p.tables e below T48 (mkF m 186 #[.val (.int p1), .val (.int p2), .val (.int p3), .val (.int p4), .val (.int p5), .val (.int p6), .val (.int (p1 &&& (255 : Int32))), .val (.int (((p1.toUInt32 >>> ((8 : Int32) &&& 31).toUInt32).toInt32) &&& (255 : Int32))), .val (.int (((p1.toUInt32 >>> ((16 : Int32) &&& 31).toUInt32).toInt32) &&& (255 : Int32))), .val (.int (p6 &&& (255 : Int32))), .val (.int ((p5 &&& (2147483647 : Int32)) % (10 : Int32))), .val (.ref b1), .val (.int (p1 &&& (255 : Int32))), .val (.int (((p1.toUInt32 >>> ((8 : Int32) &&& 31).toUInt32).toInt32) &&& (255 : Int32))), .val (.int (p6 &&& (255 : Int32))), .unset, .unset, .unset, .unset, .unset] [(.int ((p5 &&& (2147483647 : Int32)) % (10 : Int32)))]) _
              refine own_go (fun t_ k_ => XS.iconst X48.here hx rfl (hb hby at_186) k_) ?_
              show own_G p.tables e below T48 (mkF m 187 #[.val (.int p1), .val (.int p2), .val (.int p3), .val (.int p4), .val (.int p5), .val (.int p6), .val (.int (p1 &&& (255 : Int32))), .val (.int (((p1.toUInt32 >>> ((8 : Int32) &&& 31).toUInt32).toInt32) &&& (255 : Int32))), .val (.int (((p1.toUInt32 >>> ((16 : Int32) &&& 31).toUInt32).toInt32) &&& (255 : Int32))), .val (.int (p6 &&& (255 : Int32))), .val (.int ((p5 &&& (2147483647 : Int32)) % (10 : Int32))), .val (.ref b1), .val (.int (p1 &&& (255 : Int32))), .val (.int (((p1.toUInt32 >>> ((8 : Int32) &&& 31).toUInt32).toInt32) &&& (255 : Int32))), .val (.int (p6 &&& (255 : Int32))), .unset, .unset, .unset, .unset, .unset] [(.int (4 : Int32)), (.int ((p5 &&& (2147483647 : Int32)) % (10 : Int32)))]) _
              refine own_go (fun t_ k_ => XS.icmpYes X48.here hx rfl (pc0 := 187) (pc' := 195) rfl (hb hby at_187) rfl (feq (fun q => absurd (hc172_452.symm.trans q) (by decide))).2 (by decide) (by decide) k_) ?_
              show own_G p.tables e below T48 (mkF m 195 #[.val (.int p1), .val (.int p2), .val (.int p3), .val (.int p4), .val (.int p5), .val (.int p6), .val (.int (p1 &&& (255 : Int32))), .val (.int (((p1.toUInt32 >>> ((8 : Int32) &&& 31).toUInt32).toInt32) &&& (255 : Int32))), .val (.int (((p1.toUInt32 >>> ((16 : Int32) &&& 31).toUInt32).toInt32) &&& (255 : Int32))), .val (.int (p6 &&& (255 : Int32))), .val (.int ((p5 &&& (2147483647 : Int32)) % (10 : Int32))), .val (.ref b1), .val (.int (p1 &&& (255 : Int32))), .val (.int (((p1.toUInt32 >>> ((8 : Int32) &&& 31).toUInt32).toInt32) &&& (255 : Int32))), .val (.int (p6 &&& (255 : Int32))), .unset, .unset, .unset, .unset, .unset] []) _
              refine own_go (fun t_ k_ => XS.iloadN X48.here hx rfl (hb hby at_195) rfl k_) ?_
              show own_G p.tables e below T48 (mkF m 196 #[.val (.int p1), .val (.int p2), .val (.int p3), .val (.int p4), .val (.int p5), .val (.int p6), .val (.int (p1 &&& (255 : Int32))), .val (.int (((p1.toUInt32 >>> ((8 : Int32) &&& 31).toUInt32).toInt32) &&& (255 : Int32))), .val (.int (((p1.toUInt32 >>> ((16 : Int32) &&& 31).toUInt32).toInt32) &&& (255 : Int32))), .val (.int (p6 &&& (255 : Int32))), .val (.int ((p5 &&& (2147483647 : Int32)) % (10 : Int32))), .val (.ref b1), .val (.int (p1 &&& (255 : Int32))), .val (.int (((p1.toUInt32 >>> ((8 : Int32) &&& 31).toUInt32).toInt32) &&& (255 : Int32))), .val (.int (p6 &&& (255 : Int32))), .unset, .unset, .unset, .unset, .unset] [(.int p2)]) _
              refine own_go (fun t_ k_ => XS.istore X48.here hx rfl (hb hby at_196) rfl (l' := #[.val (.int p1), .val (.int p2), .val (.int p3), .val (.int p4), .val (.int p5), .val (.int p6), .val (.int (p1 &&& (255 : Int32))), .val (.int (((p1.toUInt32 >>> ((8 : Int32) &&& 31).toUInt32).toInt32) &&& (255 : Int32))), .val (.int (((p1.toUInt32 >>> ((16 : Int32) &&& 31).toUInt32).toInt32) &&& (255 : Int32))), .val (.int (p6 &&& (255 : Int32))), .val (.int ((p5 &&& (2147483647 : Int32)) % (10 : Int32))), .val (.ref b1), .val (.int (p1 &&& (255 : Int32))), .val (.int (((p1.toUInt32 >>> ((8 : Int32) &&& 31).toUInt32).toInt32) &&& (255 : Int32))), .val (.int (p6 &&& (255 : Int32))), .val (.int p2), .unset, .unset, .unset, .unset]) rfl k_) ?_
              show own_G p.tables e below T48 (mkF m 198 #[.val (.int p1), .val (.int p2), .val (.int p3), .val (.int p4), .val (.int p5), .val (.int p6), .val (.int (p1 &&& (255 : Int32))), .val (.int (((p1.toUInt32 >>> ((8 : Int32) &&& 31).toUInt32).toInt32) &&& (255 : Int32))), .val (.int (((p1.toUInt32 >>> ((16 : Int32) &&& 31).toUInt32).toInt32) &&& (255 : Int32))), .val (.int (p6 &&& (255 : Int32))), .val (.int ((p5 &&& (2147483647 : Int32)) % (10 : Int32))), .val (.ref b1), .val (.int (p1 &&& (255 : Int32))), .val (.int (((p1.toUInt32 >>> ((8 : Int32) &&& 31).toUInt32).toInt32) &&& (255 : Int32))), .val (.int (p6 &&& (255 : Int32))), .val (.int p2), .unset, .unset, .unset, .unset] []) _
              refine own_go (fun t_ k_ => XS.iload X48.here hx rfl (hb hby at_198) rfl k_) ?_
              show own_G p.tables e below T48 (mkF m 200 #[.val (.int p1), .val (.int p2), .val (.int p3), .val (.int p4), .val (.int p5), .val (.int p6), .val (.int (p1 &&& (255 : Int32))), .val (.int (((p1.toUInt32 >>> ((8 : Int32) &&& 31).toUInt32).toInt32) &&& (255 : Int32))), .val (.int (((p1.toUInt32 >>> ((16 : Int32) &&& 31).toUInt32).toInt32) &&& (255 : Int32))), .val (.int (p6 &&& (255 : Int32))), .val (.int ((p5 &&& (2147483647 : Int32)) % (10 : Int32))), .val (.ref b1), .val (.int (p1 &&& (255 : Int32))), .val (.int (((p1.toUInt32 >>> ((8 : Int32) &&& 31).toUInt32).toInt32) &&& (255 : Int32))), .val (.int (p6 &&& (255 : Int32))), .val (.int p2), .unset, .unset, .unset, .unset] [(.int ((p5 &&& (2147483647 : Int32)) % (10 : Int32)))]) _
              refine own_go (fun t_ k_ => XS.iconst X48.here hx rfl (hb hby at_200) k_) ?_
              show own_G p.tables e below T48 (mkF m 201 #[.val (.int p1), .val (.int p2), .val (.int p3), .val (.int p4), .val (.int p5), .val (.int p6), .val (.int (p1 &&& (255 : Int32))), .val (.int (((p1.toUInt32 >>> ((8 : Int32) &&& 31).toUInt32).toInt32) &&& (255 : Int32))), .val (.int (((p1.toUInt32 >>> ((16 : Int32) &&& 31).toUInt32).toInt32) &&& (255 : Int32))), .val (.int (p6 &&& (255 : Int32))), .val (.int ((p5 &&& (2147483647 : Int32)) % (10 : Int32))), .val (.ref b1), .val (.int (p1 &&& (255 : Int32))), .val (.int (((p1.toUInt32 >>> ((8 : Int32) &&& 31).toUInt32).toInt32) &&& (255 : Int32))), .val (.int (p6 &&& (255 : Int32))), .val (.int p2), .unset, .unset, .unset, .unset] [(.int (5 : Int32)), (.int ((p5 &&& (2147483647 : Int32)) % (10 : Int32)))]) _
              refine own_go (fun t_ k_ => XS.icmpYes X48.here hx rfl (pc0 := 201) (pc' := 209) rfl (hb hby at_201) rfl (feq (fun q => absurd (hc172_452.symm.trans q) (by decide))).2 (by decide) (by decide) k_) ?_
              show own_G p.tables e below T48 (mkF m 209 #[.val (.int p1), .val (.int p2), .val (.int p3), .val (.int p4), .val (.int p5), .val (.int p6), .val (.int (p1 &&& (255 : Int32))), .val (.int (((p1.toUInt32 >>> ((8 : Int32) &&& 31).toUInt32).toInt32) &&& (255 : Int32))), .val (.int (((p1.toUInt32 >>> ((16 : Int32) &&& 31).toUInt32).toInt32) &&& (255 : Int32))), .val (.int (p6 &&& (255 : Int32))), .val (.int ((p5 &&& (2147483647 : Int32)) % (10 : Int32))), .val (.ref b1), .val (.int (p1 &&& (255 : Int32))), .val (.int (((p1.toUInt32 >>> ((8 : Int32) &&& 31).toUInt32).toInt32) &&& (255 : Int32))), .val (.int (p6 &&& (255 : Int32))), .val (.int p2), .unset, .unset, .unset, .unset] []) _
              refine own_go (fun t_ k_ => XS.iloadN X48.here hx rfl (hb hby at_209) rfl k_) ?_
              show own_G p.tables e below T48 (mkF m 210 #[.val (.int p1), .val (.int p2), .val (.int p3), .val (.int p4), .val (.int p5), .val (.int p6), .val (.int (p1 &&& (255 : Int32))), .val (.int (((p1.toUInt32 >>> ((8 : Int32) &&& 31).toUInt32).toInt32) &&& (255 : Int32))), .val (.int (((p1.toUInt32 >>> ((16 : Int32) &&& 31).toUInt32).toInt32) &&& (255 : Int32))), .val (.int (p6 &&& (255 : Int32))), .val (.int ((p5 &&& (2147483647 : Int32)) % (10 : Int32))), .val (.ref b1), .val (.int (p1 &&& (255 : Int32))), .val (.int (((p1.toUInt32 >>> ((8 : Int32) &&& 31).toUInt32).toInt32) &&& (255 : Int32))), .val (.int (p6 &&& (255 : Int32))), .val (.int p2), .unset, .unset, .unset, .unset] [(.int p3)]) _
              refine own_go (fun t_ k_ => XS.istore X48.here hx rfl (hb hby at_210) rfl (l' := #[.val (.int p1), .val (.int p2), .val (.int p3), .val (.int p4), .val (.int p5), .val (.int p6), .val (.int (p1 &&& (255 : Int32))), .val (.int (((p1.toUInt32 >>> ((8 : Int32) &&& 31).toUInt32).toInt32) &&& (255 : Int32))), .val (.int (((p1.toUInt32 >>> ((16 : Int32) &&& 31).toUInt32).toInt32) &&& (255 : Int32))), .val (.int (p6 &&& (255 : Int32))), .val (.int ((p5 &&& (2147483647 : Int32)) % (10 : Int32))), .val (.ref b1), .val (.int (p1 &&& (255 : Int32))), .val (.int (((p1.toUInt32 >>> ((8 : Int32) &&& 31).toUInt32).toInt32) &&& (255 : Int32))), .val (.int (p6 &&& (255 : Int32))), .val (.int p2), .val (.int p3), .unset, .unset, .unset]) rfl k_) ?_
              show own_G p.tables e below T48 (mkF m 212 #[.val (.int p1), .val (.int p2), .val (.int p3), .val (.int p4), .val (.int p5), .val (.int p6), .val (.int (p1 &&& (255 : Int32))), .val (.int (((p1.toUInt32 >>> ((8 : Int32) &&& 31).toUInt32).toInt32) &&& (255 : Int32))), .val (.int (((p1.toUInt32 >>> ((16 : Int32) &&& 31).toUInt32).toInt32) &&& (255 : Int32))), .val (.int (p6 &&& (255 : Int32))), .val (.int ((p5 &&& (2147483647 : Int32)) % (10 : Int32))), .val (.ref b1), .val (.int (p1 &&& (255 : Int32))), .val (.int (((p1.toUInt32 >>> ((8 : Int32) &&& 31).toUInt32).toInt32) &&& (255 : Int32))), .val (.int (p6 &&& (255 : Int32))), .val (.int p2), .val (.int p3), .unset, .unset, .unset] []) _
              refine own_go (fun t_ k_ => XS.iload X48.here hx rfl (hb hby at_212) rfl k_) ?_
              show own_G p.tables e below T48 (mkF m 214 #[.val (.int p1), .val (.int p2), .val (.int p3), .val (.int p4), .val (.int p5), .val (.int p6), .val (.int (p1 &&& (255 : Int32))), .val (.int (((p1.toUInt32 >>> ((8 : Int32) &&& 31).toUInt32).toInt32) &&& (255 : Int32))), .val (.int (((p1.toUInt32 >>> ((16 : Int32) &&& 31).toUInt32).toInt32) &&& (255 : Int32))), .val (.int (p6 &&& (255 : Int32))), .val (.int ((p5 &&& (2147483647 : Int32)) % (10 : Int32))), .val (.ref b1), .val (.int (p1 &&& (255 : Int32))), .val (.int (((p1.toUInt32 >>> ((8 : Int32) &&& 31).toUInt32).toInt32) &&& (255 : Int32))), .val (.int (p6 &&& (255 : Int32))), .val (.int p2), .val (.int p3), .unset, .unset, .unset] [(.int ((p5 &&& (2147483647 : Int32)) % (10 : Int32)))]) _
              refine own_go (fun t_ k_ => XS.bipush X48.here hx rfl (hb hby at_214) k_) ?_
              show own_G p.tables e below T48 (mkF m 216 #[.val (.int p1), .val (.int p2), .val (.int p3), .val (.int p4), .val (.int p5), .val (.int p6), .val (.int (p1 &&& (255 : Int32))), .val (.int (((p1.toUInt32 >>> ((8 : Int32) &&& 31).toUInt32).toInt32) &&& (255 : Int32))), .val (.int (((p1.toUInt32 >>> ((16 : Int32) &&& 31).toUInt32).toInt32) &&& (255 : Int32))), .val (.int (p6 &&& (255 : Int32))), .val (.int ((p5 &&& (2147483647 : Int32)) % (10 : Int32))), .val (.ref b1), .val (.int (p1 &&& (255 : Int32))), .val (.int (((p1.toUInt32 >>> ((8 : Int32) &&& 31).toUInt32).toInt32) &&& (255 : Int32))), .val (.int (p6 &&& (255 : Int32))), .val (.int p2), .val (.int p3), .unset, .unset, .unset] [(.int (6 : Int32)), (.int ((p5 &&& (2147483647 : Int32)) % (10 : Int32)))]) _
              refine own_go (fun t_ k_ => XS.icmpYes X48.here hx rfl (pc0 := 216) (pc' := 224) rfl (hb hby at_216) rfl (feq (fun q => absurd (hc172_452.symm.trans q) (by decide))).2 (by decide) (by decide) k_) ?_
              show own_G p.tables e below T48 (mkF m 224 #[.val (.int p1), .val (.int p2), .val (.int p3), .val (.int p4), .val (.int p5), .val (.int p6), .val (.int (p1 &&& (255 : Int32))), .val (.int (((p1.toUInt32 >>> ((8 : Int32) &&& 31).toUInt32).toInt32) &&& (255 : Int32))), .val (.int (((p1.toUInt32 >>> ((16 : Int32) &&& 31).toUInt32).toInt32) &&& (255 : Int32))), .val (.int (p6 &&& (255 : Int32))), .val (.int ((p5 &&& (2147483647 : Int32)) % (10 : Int32))), .val (.ref b1), .val (.int (p1 &&& (255 : Int32))), .val (.int (((p1.toUInt32 >>> ((8 : Int32) &&& 31).toUInt32).toInt32) &&& (255 : Int32))), .val (.int (p6 &&& (255 : Int32))), .val (.int p2), .val (.int p3), .unset, .unset, .unset] []) _
              refine own_go (fun t_ k_ => XS.iloadN X48.here hx rfl (hb hby at_224) rfl k_) ?_
              show own_G p.tables e below T48 (mkF m 225 #[.val (.int p1), .val (.int p2), .val (.int p3), .val (.int p4), .val (.int p5), .val (.int p6), .val (.int (p1 &&& (255 : Int32))), .val (.int (((p1.toUInt32 >>> ((8 : Int32) &&& 31).toUInt32).toInt32) &&& (255 : Int32))), .val (.int (((p1.toUInt32 >>> ((16 : Int32) &&& 31).toUInt32).toInt32) &&& (255 : Int32))), .val (.int (p6 &&& (255 : Int32))), .val (.int ((p5 &&& (2147483647 : Int32)) % (10 : Int32))), .val (.ref b1), .val (.int (p1 &&& (255 : Int32))), .val (.int (((p1.toUInt32 >>> ((8 : Int32) &&& 31).toUInt32).toInt32) &&& (255 : Int32))), .val (.int (p6 &&& (255 : Int32))), .val (.int p2), .val (.int p3), .unset, .unset, .unset] [(.int p4)]) _
              refine own_go (fun t_ k_ => XS.istore X48.here hx rfl (hb hby at_225) rfl (l' := #[.val (.int p1), .val (.int p2), .val (.int p3), .val (.int p4), .val (.int p5), .val (.int p6), .val (.int (p1 &&& (255 : Int32))), .val (.int (((p1.toUInt32 >>> ((8 : Int32) &&& 31).toUInt32).toInt32) &&& (255 : Int32))), .val (.int (((p1.toUInt32 >>> ((16 : Int32) &&& 31).toUInt32).toInt32) &&& (255 : Int32))), .val (.int (p6 &&& (255 : Int32))), .val (.int ((p5 &&& (2147483647 : Int32)) % (10 : Int32))), .val (.ref b1), .val (.int (p1 &&& (255 : Int32))), .val (.int (((p1.toUInt32 >>> ((8 : Int32) &&& 31).toUInt32).toInt32) &&& (255 : Int32))), .val (.int (p6 &&& (255 : Int32))), .val (.int p2), .val (.int p3), .val (.int p4), .unset, .unset]) rfl k_) ?_
              show own_G p.tables e below T48 (mkF m 227 #[.val (.int p1), .val (.int p2), .val (.int p3), .val (.int p4), .val (.int p5), .val (.int p6), .val (.int (p1 &&& (255 : Int32))), .val (.int (((p1.toUInt32 >>> ((8 : Int32) &&& 31).toUInt32).toInt32) &&& (255 : Int32))), .val (.int (((p1.toUInt32 >>> ((16 : Int32) &&& 31).toUInt32).toInt32) &&& (255 : Int32))), .val (.int (p6 &&& (255 : Int32))), .val (.int ((p5 &&& (2147483647 : Int32)) % (10 : Int32))), .val (.ref b1), .val (.int (p1 &&& (255 : Int32))), .val (.int (((p1.toUInt32 >>> ((8 : Int32) &&& 31).toUInt32).toInt32) &&& (255 : Int32))), .val (.int (p6 &&& (255 : Int32))), .val (.int p2), .val (.int p3), .val (.int p4), .unset, .unset] []) _
              exact tail227 _ _ _ _ _ _ (own_mm _) (own_mm _) (own_mm _)
            · skip
              refine own_go (fun t_ k_ => XS.icmpYes X48.here hx rfl (pc0 := 172) (pc' := 180) rfl (hb hby at_172) rfl (feq hc172_452).2 (by decide) (by decide) k_) ?_
              show own_G p.tables e below T48 (mkF m 180 #[.val (.int p1), .val (.int p2), .val (.int p3), .val (.int p4), .val (.int p5), .val (.int p6), .val (.int (p1 &&& (255 : Int32))), .val (.int (((p1.toUInt32 >>> ((8 : Int32) &&& 31).toUInt32).toInt32) &&& (255 : Int32))), .val (.int (((p1.toUInt32 >>> ((16 : Int32) &&& 31).toUInt32).toInt32) &&& (255 : Int32))), .val (.int (p6 &&& (255 : Int32))), .val (.int ((p5 &&& (2147483647 : Int32)) % (10 : Int32))), .val (.ref b1), .val (.int (p1 &&& (255 : Int32))), .val (.int (((p1.toUInt32 >>> ((8 : Int32) &&& 31).toUInt32).toInt32) &&& (255 : Int32))), .unset, .unset, .unset, .unset, .unset, .unset] []) _
              refine own_go (fun t_ k_ => XS.iload X48.here hx rfl (hb hby at_180) rfl k_) ?_
              show own_G p.tables e below T48 (mkF m 182 #[.val (.int p1), .val (.int p2), .val (.int p3), .val (.int p4), .val (.int p5), .val (.int p6), .val (.int (p1 &&& (255 : Int32))), .val (.int (((p1.toUInt32 >>> ((8 : Int32) &&& 31).toUInt32).toInt32) &&& (255 : Int32))), .val (.int (((p1.toUInt32 >>> ((16 : Int32) &&& 31).toUInt32).toInt32) &&& (255 : Int32))), .val (.int (p6 &&& (255 : Int32))), .val (.int ((p5 &&& (2147483647 : Int32)) % (10 : Int32))), .val (.ref b1), .val (.int (p1 &&& (255 : Int32))), .val (.int (((p1.toUInt32 >>> ((8 : Int32) &&& 31).toUInt32).toInt32) &&& (255 : Int32))), .unset, .unset, .unset, .unset, .unset, .unset] [(.int (((p1.toUInt32 >>> ((16 : Int32) &&& 31).toUInt32).toInt32) &&& (255 : Int32)))]) _
              refine own_go (fun t_ k_ => XS.istore X48.here hx rfl (hb hby at_182) rfl (l' := #[.val (.int p1), .val (.int p2), .val (.int p3), .val (.int p4), .val (.int p5), .val (.int p6), .val (.int (p1 &&& (255 : Int32))), .val (.int (((p1.toUInt32 >>> ((8 : Int32) &&& 31).toUInt32).toInt32) &&& (255 : Int32))), .val (.int (((p1.toUInt32 >>> ((16 : Int32) &&& 31).toUInt32).toInt32) &&& (255 : Int32))), .val (.int (p6 &&& (255 : Int32))), .val (.int ((p5 &&& (2147483647 : Int32)) % (10 : Int32))), .val (.ref b1), .val (.int (p1 &&& (255 : Int32))), .val (.int (((p1.toUInt32 >>> ((8 : Int32) &&& 31).toUInt32).toInt32) &&& (255 : Int32))), .val (.int (((p1.toUInt32 >>> ((16 : Int32) &&& 31).toUInt32).toInt32) &&& (255 : Int32))), .unset, .unset, .unset, .unset, .unset]) rfl k_) ?_
              show own_G p.tables e below T48 (mkF m 184 #[.val (.int p1), .val (.int p2), .val (.int p3), .val (.int p4), .val (.int p5), .val (.int p6), .val (.int (p1 &&& (255 : Int32))), .val (.int (((p1.toUInt32 >>> ((8 : Int32) &&& 31).toUInt32).toInt32) &&& (255 : Int32))), .val (.int (((p1.toUInt32 >>> ((16 : Int32) &&& 31).toUInt32).toInt32) &&& (255 : Int32))), .val (.int (p6 &&& (255 : Int32))), .val (.int ((p5 &&& (2147483647 : Int32)) % (10 : Int32))), .val (.ref b1), .val (.int (p1 &&& (255 : Int32))), .val (.int (((p1.toUInt32 >>> ((8 : Int32) &&& 31).toUInt32).toInt32) &&& (255 : Int32))), .val (.int (((p1.toUInt32 >>> ((16 : Int32) &&& 31).toUInt32).toInt32) &&& (255 : Int32))), .unset, .unset, .unset, .unset, .unset] []) _
              refine own_go (fun t_ k_ => XS.iload X48.here hx rfl (hb hby at_184) rfl k_) ?_
              show own_G p.tables e below T48 (mkF m 186 #[.val (.int p1), .val (.int p2), .val (.int p3), .val (.int p4), .val (.int p5), .val (.int p6), .val (.int (p1 &&& (255 : Int32))), .val (.int (((p1.toUInt32 >>> ((8 : Int32) &&& 31).toUInt32).toInt32) &&& (255 : Int32))), .val (.int (((p1.toUInt32 >>> ((16 : Int32) &&& 31).toUInt32).toInt32) &&& (255 : Int32))), .val (.int (p6 &&& (255 : Int32))), .val (.int ((p5 &&& (2147483647 : Int32)) % (10 : Int32))), .val (.ref b1), .val (.int (p1 &&& (255 : Int32))), .val (.int (((p1.toUInt32 >>> ((8 : Int32) &&& 31).toUInt32).toInt32) &&& (255 : Int32))), .val (.int (((p1.toUInt32 >>> ((16 : Int32) &&& 31).toUInt32).toInt32) &&& (255 : Int32))), .unset, .unset, .unset, .unset, .unset] [(.int ((p5 &&& (2147483647 : Int32)) % (10 : Int32)))]) _
              refine own_go (fun t_ k_ => XS.iconst X48.here hx rfl (hb hby at_186) k_) ?_
              show own_G p.tables e below T48 (mkF m 187 #[.val (.int p1), .val (.int p2), .val (.int p3), .val (.int p4), .val (.int p5), .val (.int p6), .val (.int (p1 &&& (255 : Int32))), .val (.int (((p1.toUInt32 >>> ((8 : Int32) &&& 31).toUInt32).toInt32) &&& (255 : Int32))), .val (.int (((p1.toUInt32 >>> ((16 : Int32) &&& 31).toUInt32).toInt32) &&& (255 : Int32))), .val (.int (p6 &&& (255 : Int32))), .val (.int ((p5 &&& (2147483647 : Int32)) % (10 : Int32))), .val (.ref b1), .val (.int (p1 &&& (255 : Int32))), .val (.int (((p1.toUInt32 >>> ((8 : Int32) &&& 31).toUInt32).toInt32) &&& (255 : Int32))), .val (.int (((p1.toUInt32 >>> ((16 : Int32) &&& 31).toUInt32).toInt32) &&& (255 : Int32))), .unset, .unset, .unset, .unset, .unset] [(.int (4 : Int32)), (.int ((p5 &&& (2147483647 : Int32)) % (10 : Int32)))]) _
              by_cases hc187_453 : ((p5 &&& (2147483647 : Int32)) % (10 : Int32)) = (4 : Int32)
              · skip
                refine own_go (fun t_ k_ => XS.icmpNo X48.here hx rfl (hb hby at_187) rfl (teq hc187_453).2 k_) ?_
                show own_G p.tables e below T48 (mkF m 190 #[.val (.int p1), .val (.int p2), .val (.int p3), .val (.int p4), .val (.int p5), .val (.int p6), .val (.int (p1 &&& (255 : Int32))), .val (.int (((p1.toUInt32 >>> ((8 : Int32) &&& 31).toUInt32).toInt32) &&& (255 : Int32))), .val (.int (((p1.toUInt32 >>> ((16 : Int32) &&& 31).toUInt32).toInt32) &&& (255 : Int32))), .val (.int (p6 &&& (255 : Int32))), .val (.int ((p5 &&& (2147483647 : Int32)) % (10 : Int32))), .val (.ref b1), .val (.int (p1 &&& (255 : Int32))), .val (.int (((p1.toUInt32 >>> ((8 : Int32) &&& 31).toUInt32).toInt32) &&& (255 : Int32))), .val (.int (((p1.toUInt32 >>> ((16 : Int32) &&& 31).toUInt32).toInt32) &&& (255 : Int32))), .unset, .unset, .unset, .unset, .unset] []) _
                refine own_go (fun t_ k_ => XS.iload X48.here hx rfl (hb hby at_190) rfl k_) ?_
                show own_G p.tables e below T48 (mkF m 192 #[.val (.int p1), .val (.int p2), .val (.int p3), .val (.int p4), .val (.int p5), .val (.int p6), .val (.int (p1 &&& (255 : Int32))), .val (.int (((p1.toUInt32 >>> ((8 : Int32) &&& 31).toUInt32).toInt32) &&& (255 : Int32))), .val (.int (((p1.toUInt32 >>> ((16 : Int32) &&& 31).toUInt32).toInt32) &&& (255 : Int32))), .val (.int (p6 &&& (255 : Int32))), .val (.int ((p5 &&& (2147483647 : Int32)) % (10 : Int32))), .val (.ref b1), .val (.int (p1 &&& (255 : Int32))), .val (.int (((p1.toUInt32 >>> ((8 : Int32) &&& 31).toUInt32).toInt32) &&& (255 : Int32))), .val (.int (((p1.toUInt32 >>> ((16 : Int32) &&& 31).toUInt32).toInt32) &&& (255 : Int32))), .unset, .unset, .unset, .unset, .unset] [(.int p6)]) _
                refine own_go (fun t_ k_ => XS.goto X48.here hx rfl (pc0 := 192) (pc' := 196) rfl (hb hby at_192) (by decide) (by decide) k_) ?_
                show own_G p.tables e below T48 (mkF m 196 #[.val (.int p1), .val (.int p2), .val (.int p3), .val (.int p4), .val (.int p5), .val (.int p6), .val (.int (p1 &&& (255 : Int32))), .val (.int (((p1.toUInt32 >>> ((8 : Int32) &&& 31).toUInt32).toInt32) &&& (255 : Int32))), .val (.int (((p1.toUInt32 >>> ((16 : Int32) &&& 31).toUInt32).toInt32) &&& (255 : Int32))), .val (.int (p6 &&& (255 : Int32))), .val (.int ((p5 &&& (2147483647 : Int32)) % (10 : Int32))), .val (.ref b1), .val (.int (p1 &&& (255 : Int32))), .val (.int (((p1.toUInt32 >>> ((8 : Int32) &&& 31).toUInt32).toInt32) &&& (255 : Int32))), .val (.int (((p1.toUInt32 >>> ((16 : Int32) &&& 31).toUInt32).toInt32) &&& (255 : Int32))), .unset, .unset, .unset, .unset, .unset] [(.int p6)]) _
                refine own_go (fun t_ k_ => XS.istore X48.here hx rfl (hb hby at_196) rfl (l' := #[.val (.int p1), .val (.int p2), .val (.int p3), .val (.int p4), .val (.int p5), .val (.int p6), .val (.int (p1 &&& (255 : Int32))), .val (.int (((p1.toUInt32 >>> ((8 : Int32) &&& 31).toUInt32).toInt32) &&& (255 : Int32))), .val (.int (((p1.toUInt32 >>> ((16 : Int32) &&& 31).toUInt32).toInt32) &&& (255 : Int32))), .val (.int (p6 &&& (255 : Int32))), .val (.int ((p5 &&& (2147483647 : Int32)) % (10 : Int32))), .val (.ref b1), .val (.int (p1 &&& (255 : Int32))), .val (.int (((p1.toUInt32 >>> ((8 : Int32) &&& 31).toUInt32).toInt32) &&& (255 : Int32))), .val (.int (((p1.toUInt32 >>> ((16 : Int32) &&& 31).toUInt32).toInt32) &&& (255 : Int32))), .val (.int p6), .unset, .unset, .unset, .unset]) rfl k_) ?_
                show own_G p.tables e below T48 (mkF m 198 #[.val (.int p1), .val (.int p2), .val (.int p3), .val (.int p4), .val (.int p5), .val (.int p6), .val (.int (p1 &&& (255 : Int32))), .val (.int (((p1.toUInt32 >>> ((8 : Int32) &&& 31).toUInt32).toInt32) &&& (255 : Int32))), .val (.int (((p1.toUInt32 >>> ((16 : Int32) &&& 31).toUInt32).toInt32) &&& (255 : Int32))), .val (.int (p6 &&& (255 : Int32))), .val (.int ((p5 &&& (2147483647 : Int32)) % (10 : Int32))), .val (.ref b1), .val (.int (p1 &&& (255 : Int32))), .val (.int (((p1.toUInt32 >>> ((8 : Int32) &&& 31).toUInt32).toInt32) &&& (255 : Int32))), .val (.int (((p1.toUInt32 >>> ((16 : Int32) &&& 31).toUInt32).toInt32) &&& (255 : Int32))), .val (.int p6), .unset, .unset, .unset, .unset] []) _
                refine own_go (fun t_ k_ => XS.iload X48.here hx rfl (hb hby at_198) rfl k_) ?_
                show own_G p.tables e below T48 (mkF m 200 #[.val (.int p1), .val (.int p2), .val (.int p3), .val (.int p4), .val (.int p5), .val (.int p6), .val (.int (p1 &&& (255 : Int32))), .val (.int (((p1.toUInt32 >>> ((8 : Int32) &&& 31).toUInt32).toInt32) &&& (255 : Int32))), .val (.int (((p1.toUInt32 >>> ((16 : Int32) &&& 31).toUInt32).toInt32) &&& (255 : Int32))), .val (.int (p6 &&& (255 : Int32))), .val (.int ((p5 &&& (2147483647 : Int32)) % (10 : Int32))), .val (.ref b1), .val (.int (p1 &&& (255 : Int32))), .val (.int (((p1.toUInt32 >>> ((8 : Int32) &&& 31).toUInt32).toInt32) &&& (255 : Int32))), .val (.int (((p1.toUInt32 >>> ((16 : Int32) &&& 31).toUInt32).toInt32) &&& (255 : Int32))), .val (.int p6), .unset, .unset, .unset, .unset] [(.int ((p5 &&& (2147483647 : Int32)) % (10 : Int32)))]) _
                refine own_go (fun t_ k_ => XS.iconst X48.here hx rfl (hb hby at_200) k_) ?_
                show own_G p.tables e below T48 (mkF m 201 #[.val (.int p1), .val (.int p2), .val (.int p3), .val (.int p4), .val (.int p5), .val (.int p6), .val (.int (p1 &&& (255 : Int32))), .val (.int (((p1.toUInt32 >>> ((8 : Int32) &&& 31).toUInt32).toInt32) &&& (255 : Int32))), .val (.int (((p1.toUInt32 >>> ((16 : Int32) &&& 31).toUInt32).toInt32) &&& (255 : Int32))), .val (.int (p6 &&& (255 : Int32))), .val (.int ((p5 &&& (2147483647 : Int32)) % (10 : Int32))), .val (.ref b1), .val (.int (p1 &&& (255 : Int32))), .val (.int (((p1.toUInt32 >>> ((8 : Int32) &&& 31).toUInt32).toInt32) &&& (255 : Int32))), .val (.int (((p1.toUInt32 >>> ((16 : Int32) &&& 31).toUInt32).toInt32) &&& (255 : Int32))), .val (.int p6), .unset, .unset, .unset, .unset] [(.int (5 : Int32)), (.int ((p5 &&& (2147483647 : Int32)) % (10 : Int32)))]) _
                refine own_go (fun t_ k_ => XS.icmpYes X48.here hx rfl (pc0 := 201) (pc' := 209) rfl (hb hby at_201) rfl (feq (fun q => absurd (hc187_453.symm.trans q) (by decide))).2 (by decide) (by decide) k_) ?_
                show own_G p.tables e below T48 (mkF m 209 #[.val (.int p1), .val (.int p2), .val (.int p3), .val (.int p4), .val (.int p5), .val (.int p6), .val (.int (p1 &&& (255 : Int32))), .val (.int (((p1.toUInt32 >>> ((8 : Int32) &&& 31).toUInt32).toInt32) &&& (255 : Int32))), .val (.int (((p1.toUInt32 >>> ((16 : Int32) &&& 31).toUInt32).toInt32) &&& (255 : Int32))), .val (.int (p6 &&& (255 : Int32))), .val (.int ((p5 &&& (2147483647 : Int32)) % (10 : Int32))), .val (.ref b1), .val (.int (p1 &&& (255 : Int32))), .val (.int (((p1.toUInt32 >>> ((8 : Int32) &&& 31).toUInt32).toInt32) &&& (255 : Int32))), .val (.int (((p1.toUInt32 >>> ((16 : Int32) &&& 31).toUInt32).toInt32) &&& (255 : Int32))), .val (.int p6), .unset, .unset, .unset, .unset] []) _
                refine own_go (fun t_ k_ => XS.iloadN X48.here hx rfl (hb hby at_209) rfl k_) ?_
                show own_G p.tables e below T48 (mkF m 210 #[.val (.int p1), .val (.int p2), .val (.int p3), .val (.int p4), .val (.int p5), .val (.int p6), .val (.int (p1 &&& (255 : Int32))), .val (.int (((p1.toUInt32 >>> ((8 : Int32) &&& 31).toUInt32).toInt32) &&& (255 : Int32))), .val (.int (((p1.toUInt32 >>> ((16 : Int32) &&& 31).toUInt32).toInt32) &&& (255 : Int32))), .val (.int (p6 &&& (255 : Int32))), .val (.int ((p5 &&& (2147483647 : Int32)) % (10 : Int32))), .val (.ref b1), .val (.int (p1 &&& (255 : Int32))), .val (.int (((p1.toUInt32 >>> ((8 : Int32) &&& 31).toUInt32).toInt32) &&& (255 : Int32))), .val (.int (((p1.toUInt32 >>> ((16 : Int32) &&& 31).toUInt32).toInt32) &&& (255 : Int32))), .val (.int p6), .unset, .unset, .unset, .unset] [(.int p3)]) _
                refine own_go (fun t_ k_ => XS.istore X48.here hx rfl (hb hby at_210) rfl (l' := #[.val (.int p1), .val (.int p2), .val (.int p3), .val (.int p4), .val (.int p5), .val (.int p6), .val (.int (p1 &&& (255 : Int32))), .val (.int (((p1.toUInt32 >>> ((8 : Int32) &&& 31).toUInt32).toInt32) &&& (255 : Int32))), .val (.int (((p1.toUInt32 >>> ((16 : Int32) &&& 31).toUInt32).toInt32) &&& (255 : Int32))), .val (.int (p6 &&& (255 : Int32))), .val (.int ((p5 &&& (2147483647 : Int32)) % (10 : Int32))), .val (.ref b1), .val (.int (p1 &&& (255 : Int32))), .val (.int (((p1.toUInt32 >>> ((8 : Int32) &&& 31).toUInt32).toInt32) &&& (255 : Int32))), .val (.int (((p1.toUInt32 >>> ((16 : Int32) &&& 31).toUInt32).toInt32) &&& (255 : Int32))), .val (.int p6), .val (.int p3), .unset, .unset, .unset]) rfl k_) ?_
                show own_G p.tables e below T48 (mkF m 212 #[.val (.int p1), .val (.int p2), .val (.int p3), .val (.int p4), .val (.int p5), .val (.int p6), .val (.int (p1 &&& (255 : Int32))), .val (.int (((p1.toUInt32 >>> ((8 : Int32) &&& 31).toUInt32).toInt32) &&& (255 : Int32))), .val (.int (((p1.toUInt32 >>> ((16 : Int32) &&& 31).toUInt32).toInt32) &&& (255 : Int32))), .val (.int (p6 &&& (255 : Int32))), .val (.int ((p5 &&& (2147483647 : Int32)) % (10 : Int32))), .val (.ref b1), .val (.int (p1 &&& (255 : Int32))), .val (.int (((p1.toUInt32 >>> ((8 : Int32) &&& 31).toUInt32).toInt32) &&& (255 : Int32))), .val (.int (((p1.toUInt32 >>> ((16 : Int32) &&& 31).toUInt32).toInt32) &&& (255 : Int32))), .val (.int p6), .val (.int p3), .unset, .unset, .unset] []) _
                refine own_go (fun t_ k_ => XS.iload X48.here hx rfl (hb hby at_212) rfl k_) ?_
                show own_G p.tables e below T48 (mkF m 214 #[.val (.int p1), .val (.int p2), .val (.int p3), .val (.int p4), .val (.int p5), .val (.int p6), .val (.int (p1 &&& (255 : Int32))), .val (.int (((p1.toUInt32 >>> ((8 : Int32) &&& 31).toUInt32).toInt32) &&& (255 : Int32))), .val (.int (((p1.toUInt32 >>> ((16 : Int32) &&& 31).toUInt32).toInt32) &&& (255 : Int32))), .val (.int (p6 &&& (255 : Int32))), .val (.int ((p5 &&& (2147483647 : Int32)) % (10 : Int32))), .val (.ref b1), .val (.int (p1 &&& (255 : Int32))), .val (.int (((p1.toUInt32 >>> ((8 : Int32) &&& 31).toUInt32).toInt32) &&& (255 : Int32))), .val (.int (((p1.toUInt32 >>> ((16 : Int32) &&& 31).toUInt32).toInt32) &&& (255 : Int32))), .val (.int p6), .val (.int p3), .unset, .unset, .unset] [(.int ((p5 &&& (2147483647 : Int32)) % (10 : Int32)))]) _
                refine own_go (fun t_ k_ => XS.bipush X48.here hx rfl (hb hby at_214) k_) ?_
                show own_G p.tables e below T48 (mkF m 216 #[.val (.int p1), .val (.int p2), .val (.int p3), .val (.int p4), .val (.int p5), .val (.int p6), .val (.int (p1 &&& (255 : Int32))), .val (.int (((p1.toUInt32 >>> ((8 : Int32) &&& 31).toUInt32).toInt32) &&& (255 : Int32))), .val (.int (((p1.toUInt32 >>> ((16 : Int32) &&& 31).toUInt32).toInt32) &&& (255 : Int32))), .val (.int (p6 &&& (255 : Int32))), .val (.int ((p5 &&& (2147483647 : Int32)) % (10 : Int32))), .val (.ref b1), .val (.int (p1 &&& (255 : Int32))), .val (.int (((p1.toUInt32 >>> ((8 : Int32) &&& 31).toUInt32).toInt32) &&& (255 : Int32))), .val (.int (((p1.toUInt32 >>> ((16 : Int32) &&& 31).toUInt32).toInt32) &&& (255 : Int32))), .val (.int p6), .val (.int p3), .unset, .unset, .unset] [(.int (6 : Int32)), (.int ((p5 &&& (2147483647 : Int32)) % (10 : Int32)))]) _
                refine own_go (fun t_ k_ => XS.icmpYes X48.here hx rfl (pc0 := 216) (pc' := 224) rfl (hb hby at_216) rfl (feq (fun q => absurd (hc187_453.symm.trans q) (by decide))).2 (by decide) (by decide) k_) ?_
                show own_G p.tables e below T48 (mkF m 224 #[.val (.int p1), .val (.int p2), .val (.int p3), .val (.int p4), .val (.int p5), .val (.int p6), .val (.int (p1 &&& (255 : Int32))), .val (.int (((p1.toUInt32 >>> ((8 : Int32) &&& 31).toUInt32).toInt32) &&& (255 : Int32))), .val (.int (((p1.toUInt32 >>> ((16 : Int32) &&& 31).toUInt32).toInt32) &&& (255 : Int32))), .val (.int (p6 &&& (255 : Int32))), .val (.int ((p5 &&& (2147483647 : Int32)) % (10 : Int32))), .val (.ref b1), .val (.int (p1 &&& (255 : Int32))), .val (.int (((p1.toUInt32 >>> ((8 : Int32) &&& 31).toUInt32).toInt32) &&& (255 : Int32))), .val (.int (((p1.toUInt32 >>> ((16 : Int32) &&& 31).toUInt32).toInt32) &&& (255 : Int32))), .val (.int p6), .val (.int p3), .unset, .unset, .unset] []) _
                refine own_go (fun t_ k_ => XS.iloadN X48.here hx rfl (hb hby at_224) rfl k_) ?_
                show own_G p.tables e below T48 (mkF m 225 #[.val (.int p1), .val (.int p2), .val (.int p3), .val (.int p4), .val (.int p5), .val (.int p6), .val (.int (p1 &&& (255 : Int32))), .val (.int (((p1.toUInt32 >>> ((8 : Int32) &&& 31).toUInt32).toInt32) &&& (255 : Int32))), .val (.int (((p1.toUInt32 >>> ((16 : Int32) &&& 31).toUInt32).toInt32) &&& (255 : Int32))), .val (.int (p6 &&& (255 : Int32))), .val (.int ((p5 &&& (2147483647 : Int32)) % (10 : Int32))), .val (.ref b1), .val (.int (p1 &&& (255 : Int32))), .val (.int (((p1.toUInt32 >>> ((8 : Int32) &&& 31).toUInt32).toInt32) &&& (255 : Int32))), .val (.int (((p1.toUInt32 >>> ((16 : Int32) &&& 31).toUInt32).toInt32) &&& (255 : Int32))), .val (.int p6), .val (.int p3), .unset, .unset, .unset] [(.int p4)]) _
                refine own_go (fun t_ k_ => XS.istore X48.here hx rfl (hb hby at_225) rfl (l' := #[.val (.int p1), .val (.int p2), .val (.int p3), .val (.int p4), .val (.int p5), .val (.int p6), .val (.int (p1 &&& (255 : Int32))), .val (.int (((p1.toUInt32 >>> ((8 : Int32) &&& 31).toUInt32).toInt32) &&& (255 : Int32))), .val (.int (((p1.toUInt32 >>> ((16 : Int32) &&& 31).toUInt32).toInt32) &&& (255 : Int32))), .val (.int (p6 &&& (255 : Int32))), .val (.int ((p5 &&& (2147483647 : Int32)) % (10 : Int32))), .val (.ref b1), .val (.int (p1 &&& (255 : Int32))), .val (.int (((p1.toUInt32 >>> ((8 : Int32) &&& 31).toUInt32).toInt32) &&& (255 : Int32))), .val (.int (((p1.toUInt32 >>> ((16 : Int32) &&& 31).toUInt32).toInt32) &&& (255 : Int32))), .val (.int p6), .val (.int p3), .val (.int p4), .unset, .unset]) rfl k_) ?_
                show own_G p.tables e below T48 (mkF m 227 #[.val (.int p1), .val (.int p2), .val (.int p3), .val (.int p4), .val (.int p5), .val (.int p6), .val (.int (p1 &&& (255 : Int32))), .val (.int (((p1.toUInt32 >>> ((8 : Int32) &&& 31).toUInt32).toInt32) &&& (255 : Int32))), .val (.int (((p1.toUInt32 >>> ((16 : Int32) &&& 31).toUInt32).toInt32) &&& (255 : Int32))), .val (.int (p6 &&& (255 : Int32))), .val (.int ((p5 &&& (2147483647 : Int32)) % (10 : Int32))), .val (.ref b1), .val (.int (p1 &&& (255 : Int32))), .val (.int (((p1.toUInt32 >>> ((8 : Int32) &&& 31).toUInt32).toInt32) &&& (255 : Int32))), .val (.int (((p1.toUInt32 >>> ((16 : Int32) &&& 31).toUInt32).toInt32) &&& (255 : Int32))), .val (.int p6), .val (.int p3), .val (.int p4), .unset, .unset] []) _
                exact tail227 _ _ _ _ _ _ (own_mm _) (own_mm _) (own_mm _)
              · skip
                refine own_go (fun t_ k_ => XS.icmpYes X48.here hx rfl (pc0 := 187) (pc' := 195) rfl (hb hby at_187) rfl (feq hc187_453).2 (by decide) (by decide) k_) ?_
                show own_G p.tables e below T48 (mkF m 195 #[.val (.int p1), .val (.int p2), .val (.int p3), .val (.int p4), .val (.int p5), .val (.int p6), .val (.int (p1 &&& (255 : Int32))), .val (.int (((p1.toUInt32 >>> ((8 : Int32) &&& 31).toUInt32).toInt32) &&& (255 : Int32))), .val (.int (((p1.toUInt32 >>> ((16 : Int32) &&& 31).toUInt32).toInt32) &&& (255 : Int32))), .val (.int (p6 &&& (255 : Int32))), .val (.int ((p5 &&& (2147483647 : Int32)) % (10 : Int32))), .val (.ref b1), .val (.int (p1 &&& (255 : Int32))), .val (.int (((p1.toUInt32 >>> ((8 : Int32) &&& 31).toUInt32).toInt32) &&& (255 : Int32))), .val (.int (((p1.toUInt32 >>> ((16 : Int32) &&& 31).toUInt32).toInt32) &&& (255 : Int32))), .unset, .unset, .unset, .unset, .unset] []) _
                refine own_go (fun t_ k_ => XS.iloadN X48.here hx rfl (hb hby at_195) rfl k_) ?_
                show own_G p.tables e below T48 (mkF m 196 #[.val (.int p1), .val (.int p2), .val (.int p3), .val (.int p4), .val (.int p5), .val (.int p6), .val (.int (p1 &&& (255 : Int32))), .val (.int (((p1.toUInt32 >>> ((8 : Int32) &&& 31).toUInt32).toInt32) &&& (255 : Int32))), .val (.int (((p1.toUInt32 >>> ((16 : Int32) &&& 31).toUInt32).toInt32) &&& (255 : Int32))), .val (.int (p6 &&& (255 : Int32))), .val (.int ((p5 &&& (2147483647 : Int32)) % (10 : Int32))), .val (.ref b1), .val (.int (p1 &&& (255 : Int32))), .val (.int (((p1.toUInt32 >>> ((8 : Int32) &&& 31).toUInt32).toInt32) &&& (255 : Int32))), .val (.int (((p1.toUInt32 >>> ((16 : Int32) &&& 31).toUInt32).toInt32) &&& (255 : Int32))), .unset, .unset, .unset, .unset, .unset] [(.int p2)]) _
                refine own_go (fun t_ k_ => XS.istore X48.here hx rfl (hb hby at_196) rfl (l' := #[.val (.int p1), .val (.int p2), .val (.int p3), .val (.int p4), .val (.int p5), .val (.int p6), .val (.int (p1 &&& (255 : Int32))), .val (.int (((p1.toUInt32 >>> ((8 : Int32) &&& 31).toUInt32).toInt32) &&& (255 : Int32))), .val (.int (((p1.toUInt32 >>> ((16 : Int32) &&& 31).toUInt32).toInt32) &&& (255 : Int32))), .val (.int (p6 &&& (255 : Int32))), .val (.int ((p5 &&& (2147483647 : Int32)) % (10 : Int32))), .val (.ref b1), .val (.int (p1 &&& (255 : Int32))), .val (.int (((p1.toUInt32 >>> ((8 : Int32) &&& 31).toUInt32).toInt32) &&& (255 : Int32))), .val (.int (((p1.toUInt32 >>> ((16 : Int32) &&& 31).toUInt32).toInt32) &&& (255 : Int32))), .val (.int p2), .unset, .unset, .unset, .unset]) rfl k_) ?_
                show own_G p.tables e below T48 (mkF m 198 #[.val (.int p1), .val (.int p2), .val (.int p3), .val (.int p4), .val (.int p5), .val (.int p6), .val (.int (p1 &&& (255 : Int32))), .val (.int (((p1.toUInt32 >>> ((8 : Int32) &&& 31).toUInt32).toInt32) &&& (255 : Int32))), .val (.int (((p1.toUInt32 >>> ((16 : Int32) &&& 31).toUInt32).toInt32) &&& (255 : Int32))), .val (.int (p6 &&& (255 : Int32))), .val (.int ((p5 &&& (2147483647 : Int32)) % (10 : Int32))), .val (.ref b1), .val (.int (p1 &&& (255 : Int32))), .val (.int (((p1.toUInt32 >>> ((8 : Int32) &&& 31).toUInt32).toInt32) &&& (255 : Int32))), .val (.int (((p1.toUInt32 >>> ((16 : Int32) &&& 31).toUInt32).toInt32) &&& (255 : Int32))), .val (.int p2), .unset, .unset, .unset, .unset] []) _
                refine own_go (fun t_ k_ => XS.iload X48.here hx rfl (hb hby at_198) rfl k_) ?_
                show own_G p.tables e below T48 (mkF m 200 #[.val (.int p1), .val (.int p2), .val (.int p3), .val (.int p4), .val (.int p5), .val (.int p6), .val (.int (p1 &&& (255 : Int32))), .val (.int (((p1.toUInt32 >>> ((8 : Int32) &&& 31).toUInt32).toInt32) &&& (255 : Int32))), .val (.int (((p1.toUInt32 >>> ((16 : Int32) &&& 31).toUInt32).toInt32) &&& (255 : Int32))), .val (.int (p6 &&& (255 : Int32))), .val (.int ((p5 &&& (2147483647 : Int32)) % (10 : Int32))), .val (.ref b1), .val (.int (p1 &&& (255 : Int32))), .val (.int (((p1.toUInt32 >>> ((8 : Int32) &&& 31).toUInt32).toInt32) &&& (255 : Int32))), .val (.int (((p1.toUInt32 >>> ((16 : Int32) &&& 31).toUInt32).toInt32) &&& (255 : Int32))), .val (.int p2), .unset, .unset, .unset, .unset] [(.int ((p5 &&& (2147483647 : Int32)) % (10 : Int32)))]) _
                refine own_go (fun t_ k_ => XS.iconst X48.here hx rfl (hb hby at_200) k_) ?_
                show own_G p.tables e below T48 (mkF m 201 #[.val (.int p1), .val (.int p2), .val (.int p3), .val (.int p4), .val (.int p5), .val (.int p6), .val (.int (p1 &&& (255 : Int32))), .val (.int (((p1.toUInt32 >>> ((8 : Int32) &&& 31).toUInt32).toInt32) &&& (255 : Int32))), .val (.int (((p1.toUInt32 >>> ((16 : Int32) &&& 31).toUInt32).toInt32) &&& (255 : Int32))), .val (.int (p6 &&& (255 : Int32))), .val (.int ((p5 &&& (2147483647 : Int32)) % (10 : Int32))), .val (.ref b1), .val (.int (p1 &&& (255 : Int32))), .val (.int (((p1.toUInt32 >>> ((8 : Int32) &&& 31).toUInt32).toInt32) &&& (255 : Int32))), .val (.int (((p1.toUInt32 >>> ((16 : Int32) &&& 31).toUInt32).toInt32) &&& (255 : Int32))), .val (.int p2), .unset, .unset, .unset, .unset] [(.int (5 : Int32)), (.int ((p5 &&& (2147483647 : Int32)) % (10 : Int32)))]) _
                by_cases hc201_454 : ((p5 &&& (2147483647 : Int32)) % (10 : Int32)) = (5 : Int32)
                · skip
                  refine own_go (fun t_ k_ => XS.icmpNo X48.here hx rfl (hb hby at_201) rfl (teq hc201_454).2 k_) ?_
                  show own_G p.tables e below T48 (mkF m 204 #[.val (.int p1), .val (.int p2), .val (.int p3), .val (.int p4), .val (.int p5), .val (.int p6), .val (.int (p1 &&& (255 : Int32))), .val (.int (((p1.toUInt32 >>> ((8 : Int32) &&& 31).toUInt32).toInt32) &&& (255 : Int32))), .val (.int (((p1.toUInt32 >>> ((16 : Int32) &&& 31).toUInt32).toInt32) &&& (255 : Int32))), .val (.int (p6 &&& (255 : Int32))), .val (.int ((p5 &&& (2147483647 : Int32)) % (10 : Int32))), .val (.ref b1), .val (.int (p1 &&& (255 : Int32))), .val (.int (((p1.toUInt32 >>> ((8 : Int32) &&& 31).toUInt32).toInt32) &&& (255 : Int32))), .val (.int (((p1.toUInt32 >>> ((16 : Int32) &&& 31).toUInt32).toInt32) &&& (255 : Int32))), .val (.int p2), .unset, .unset, .unset, .unset] []) _
                  refine own_go (fun t_ k_ => XS.iload X48.here hx rfl (hb hby at_204) rfl k_) ?_
                  show own_G p.tables e below T48 (mkF m 206 #[.val (.int p1), .val (.int p2), .val (.int p3), .val (.int p4), .val (.int p5), .val (.int p6), .val (.int (p1 &&& (255 : Int32))), .val (.int (((p1.toUInt32 >>> ((8 : Int32) &&& 31).toUInt32).toInt32) &&& (255 : Int32))), .val (.int (((p1.toUInt32 >>> ((16 : Int32) &&& 31).toUInt32).toInt32) &&& (255 : Int32))), .val (.int (p6 &&& (255 : Int32))), .val (.int ((p5 &&& (2147483647 : Int32)) % (10 : Int32))), .val (.ref b1), .val (.int (p1 &&& (255 : Int32))), .val (.int (((p1.toUInt32 >>> ((8 : Int32) &&& 31).toUInt32).toInt32) &&& (255 : Int32))), .val (.int (((p1.toUInt32 >>> ((16 : Int32) &&& 31).toUInt32).toInt32) &&& (255 : Int32))), .val (.int p2), .unset, .unset, .unset, .unset] [(.int p6)]) _
                  refine own_go (fun t_ k_ => XS.goto X48.here hx rfl (pc0 := 206) (pc' := 210) rfl (hb hby at_206) (by decide) (by decide) k_) ?_
                  show own_G p.tables e below T48 (mkF m 210 #[.val (.int p1), .val (.int p2), .val (.int p3), .val (.int p4), .val (.int p5), .val (.int p6), .val (.int (p1 &&& (255 : Int32))), .val (.int (((p1.toUInt32 >>> ((8 : Int32) &&& 31).toUInt32).toInt32) &&& (255 : Int32))), .val (.int (((p1.toUInt32 >>> ((16 : Int32) &&& 31).toUInt32).toInt32) &&& (255 : Int32))), .val (.int (p6 &&& (255 : Int32))), .val (.int ((p5 &&& (2147483647 : Int32)) % (10 : Int32))), .val (.ref b1), .val (.int (p1 &&& (255 : Int32))), .val (.int (((p1.toUInt32 >>> ((8 : Int32) &&& 31).toUInt32).toInt32) &&& (255 : Int32))), .val (.int (((p1.toUInt32 >>> ((16 : Int32) &&& 31).toUInt32).toInt32) &&& (255 : Int32))), .val (.int p2), .unset, .unset, .unset, .unset] [(.int p6)]) _
                  refine own_go (fun t_ k_ => XS.istore X48.here hx rfl (hb hby at_210) rfl (l' := #[.val (.int p1), .val (.int p2), .val (.int p3), .val (.int p4), .val (.int p5), .val (.int p6), .val (.int (p1 &&& (255 : Int32))), .val (.int (((p1.toUInt32 >>> ((8 : Int32) &&& 31).toUInt32).toInt32) &&& (255 : Int32))), .val (.int (((p1.toUInt32 >>> ((16 : Int32) &&& 31).toUInt32).toInt32) &&& (255 : Int32))), .val (.int (p6 &&& (255 : Int32))), .val (.int ((p5 &&& (2147483647 : Int32)) % (10 : Int32))), .val (.ref b1), .val (.int (p1 &&& (255 : Int32))), .val (.int (((p1.toUInt32 >>> ((8 : Int32) &&& 31).toUInt32).toInt32) &&& (255 : Int32))), .val (.int (((p1.toUInt32 >>> ((16 : Int32) &&& 31).toUInt32).toInt32) &&& (255 : Int32))), .val (.int p2), .val (.int p6), .unset, .unset, .unset]) rfl k_) ?_
                  show own_G p.tables e below T48 (mkF m 212 #[.val (.int p1), .val (.int p2), .val (.int p3), .val (.int p4), .val (.int p5), .val (.int p6), .val (.int (p1 &&& (255 : Int32))), .val (.int (((p1.toUInt32 >>> ((8 : Int32) &&& 31).toUInt32).toInt32) &&& (255 : Int32))), .val (.int (((p1.toUInt32 >>> ((16 : Int32) &&& 31).toUInt32).toInt32) &&& (255 : Int32))), .val (.int (p6 &&& (255 : Int32))), .val (.int ((p5 &&& (2147483647 : Int32)) % (10 : Int32))), .val (.ref b1), .val (.int (p1 &&& (255 : Int32))), .val (.int (((p1.toUInt32 >>> ((8 : Int32) &&& 31).toUInt32).toInt32) &&& (255 : Int32))), .val (.int (((p1.toUInt32 >>> ((16 : Int32) &&& 31).toUInt32).toInt32) &&& (255 : Int32))), .val (.int p2), .val (.int p6), .unset, .unset, .unset] []) _
                  refine own_go (fun t_ k_ => XS.iload X48.here hx rfl (hb hby at_212) rfl k_) ?_
                  show own_G p.tables e below T48 (mkF m 214 #[.val (.int p1), .val (.int p2), .val (.int p3), .val (.int p4), .val (.int p5), .val (.int p6), .val (.int (p1 &&& (255 : Int32))), .val (.int (((p1.toUInt32 >>> ((8 : Int32) &&& 31).toUInt32).toInt32) &&& (255 : Int32))), .val (.int (((p1.toUInt32 >>> ((16 : Int32) &&& 31).toUInt32).toInt32) &&& (255 : Int32))), .val (.int (p6 &&& (255 : Int32))), .val (.int ((p5 &&& (2147483647 : Int32)) % (10 : Int32))), .val (.ref b1), .val (.int (p1 &&& (255 : Int32))), .val (.int (((p1.toUInt32 >>> ((8 : Int32) &&& 31).toUInt32).toInt32) &&& (255 : Int32))), .val (.int (((p1.toUInt32 >>> ((16 : Int32) &&& 31).toUInt32).toInt32) &&& (255 : Int32))), .val (.int p2), .val (.int p6), .unset, .unset, .unset] [(.int ((p5 &&& (2147483647 : Int32)) % (10 : Int32)))]) _
                  refine own_go (fun t_ k_ => XS.bipush X48.here hx rfl (hb hby at_214) k_) ?_
                  show own_G p.tables e below T48 (mkF m 216 #[.val (.int p1), .val (.int p2), .val (.int p3), .val (.int p4), .val (.int p5), .val (.int p6), .val (.int (p1 &&& (255 : Int32))), .val (.int (((p1.toUInt32 >>> ((8 : Int32) &&& 31).toUInt32).toInt32) &&& (255 : Int32))), .val (.int (((p1.toUInt32 >>> ((16 : Int32) &&& 31).toUInt32).toInt32) &&& (255 : Int32))), .val (.int (p6 &&& (255 : Int32))), .val (.int ((p5 &&& (2147483647 : Int32)) % (10 : Int32))), .val (.ref b1), .val (.int (p1 &&& (255 : Int32))), .val (.int (((p1.toUInt32 >>> ((8 : Int32) &&& 31).toUInt32).toInt32) &&& (255 : Int32))), .val (.int (((p1.toUInt32 >>> ((16 : Int32) &&& 31).toUInt32).toInt32) &&& (255 : Int32))), .val (.int p2), .val (.int p6), .unset, .unset, .unset] [(.int (6 : Int32)), (.int ((p5 &&& (2147483647 : Int32)) % (10 : Int32)))]) _
                  refine own_go (fun t_ k_ => XS.icmpYes X48.here hx rfl (pc0 := 216) (pc' := 224) rfl (hb hby at_216) rfl (feq (fun q => absurd (hc201_454.symm.trans q) (by decide))).2 (by decide) (by decide) k_) ?_
                  show own_G p.tables e below T48 (mkF m 224 #[.val (.int p1), .val (.int p2), .val (.int p3), .val (.int p4), .val (.int p5), .val (.int p6), .val (.int (p1 &&& (255 : Int32))), .val (.int (((p1.toUInt32 >>> ((8 : Int32) &&& 31).toUInt32).toInt32) &&& (255 : Int32))), .val (.int (((p1.toUInt32 >>> ((16 : Int32) &&& 31).toUInt32).toInt32) &&& (255 : Int32))), .val (.int (p6 &&& (255 : Int32))), .val (.int ((p5 &&& (2147483647 : Int32)) % (10 : Int32))), .val (.ref b1), .val (.int (p1 &&& (255 : Int32))), .val (.int (((p1.toUInt32 >>> ((8 : Int32) &&& 31).toUInt32).toInt32) &&& (255 : Int32))), .val (.int (((p1.toUInt32 >>> ((16 : Int32) &&& 31).toUInt32).toInt32) &&& (255 : Int32))), .val (.int p2), .val (.int p6), .unset, .unset, .unset] []) _
                  refine own_go (fun t_ k_ => XS.iloadN X48.here hx rfl (hb hby at_224) rfl k_) ?_
                  show own_G p.tables e below T48 (mkF m 225 #[.val (.int p1), .val (.int p2), .val (.int p3), .val (.int p4), .val (.int p5), .val (.int p6), .val (.int (p1 &&& (255 : Int32))), .val (.int (((p1.toUInt32 >>> ((8 : Int32) &&& 31).toUInt32).toInt32) &&& (255 : Int32))), .val (.int (((p1.toUInt32 >>> ((16 : Int32) &&& 31).toUInt32).toInt32) &&& (255 : Int32))), .val (.int (p6 &&& (255 : Int32))), .val (.int ((p5 &&& (2147483647 : Int32)) % (10 : Int32))), .val (.ref b1), .val (.int (p1 &&& (255 : Int32))), .val (.int (((p1.toUInt32 >>> ((8 : Int32) &&& 31).toUInt32).toInt32) &&& (255 : Int32))), .val (.int (((p1.toUInt32 >>> ((16 : Int32) &&& 31).toUInt32).toInt32) &&& (255 : Int32))), .val (.int p2), .val (.int p6), .unset, .unset, .unset] [(.int p4)]) _
                  refine own_go (fun t_ k_ => XS.istore X48.here hx rfl (hb hby at_225) rfl (l' := #[.val (.int p1), .val (.int p2), .val (.int p3), .val (.int p4), .val (.int p5), .val (.int p6), .val (.int (p1 &&& (255 : Int32))), .val (.int (((p1.toUInt32 >>> ((8 : Int32) &&& 31).toUInt32).toInt32) &&& (255 : Int32))), .val (.int (((p1.toUInt32 >>> ((16 : Int32) &&& 31).toUInt32).toInt32) &&& (255 : Int32))), .val (.int (p6 &&& (255 : Int32))), .val (.int ((p5 &&& (2147483647 : Int32)) % (10 : Int32))), .val (.ref b1), .val (.int (p1 &&& (255 : Int32))), .val (.int (((p1.toUInt32 >>> ((8 : Int32) &&& 31).toUInt32).toInt32) &&& (255 : Int32))), .val (.int (((p1.toUInt32 >>> ((16 : Int32) &&& 31).toUInt32).toInt32) &&& (255 : Int32))), .val (.int p2), .val (.int p6), .val (.int p4), .unset, .unset]) rfl k_) ?_
                  show own_G p.tables e below T48 (mkF m 227 #[.val (.int p1), .val (.int p2), .val (.int p3), .val (.int p4), .val (.int p5), .val (.int p6), .val (.int (p1 &&& (255 : Int32))), .val (.int (((p1.toUInt32 >>> ((8 : Int32) &&& 31).toUInt32).toInt32) &&& (255 : Int32))), .val (.int (((p1.toUInt32 >>> ((16 : Int32) &&& 31).toUInt32).toInt32) &&& (255 : Int32))), .val (.int (p6 &&& (255 : Int32))), .val (.int ((p5 &&& (2147483647 : Int32)) % (10 : Int32))), .val (.ref b1), .val (.int (p1 &&& (255 : Int32))), .val (.int (((p1.toUInt32 >>> ((8 : Int32) &&& 31).toUInt32).toInt32) &&& (255 : Int32))), .val (.int (((p1.toUInt32 >>> ((16 : Int32) &&& 31).toUInt32).toInt32) &&& (255 : Int32))), .val (.int p2), .val (.int p6), .val (.int p4), .unset, .unset] []) _
                  exact tail227 _ _ _ _ _ _ (own_mm _) (own_mm _) (own_mm _)
                · skip
                  refine own_go (fun t_ k_ => XS.icmpYes X48.here hx rfl (pc0 := 201) (pc' := 209) rfl (hb hby at_201) rfl (feq hc201_454).2 (by decide) (by decide) k_) ?_
                  show own_G p.tables e below T48 (mkF m 209 #[.val (.int p1), .val (.int p2), .val (.int p3), .val (.int p4), .val (.int p5), .val (.int p6), .val (.int (p1 &&& (255 : Int32))), .val (.int (((p1.toUInt32 >>> ((8 : Int32) &&& 31).toUInt32).toInt32) &&& (255 : Int32))), .val (.int (((p1.toUInt32 >>> ((16 : Int32) &&& 31).toUInt32).toInt32) &&& (255 : Int32))), .val (.int (p6 &&& (255 : Int32))), .val (.int ((p5 &&& (2147483647 : Int32)) % (10 : Int32))), .val (.ref b1), .val (.int (p1 &&& (255 : Int32))), .val (.int (((p1.toUInt32 >>> ((8 : Int32) &&& 31).toUInt32).toInt32) &&& (255 : Int32))), .val (.int (((p1.toUInt32 >>> ((16 : Int32) &&& 31).toUInt32).toInt32) &&& (255 : Int32))), .val (.int p2), .unset, .unset, .unset, .unset] []) _
                  refine own_go (fun t_ k_ => XS.iloadN X48.here hx rfl (hb hby at_209) rfl k_) ?_
                  show own_G p.tables e below T48 (mkF m 210 #[.val (.int p1), .val (.int p2), .val (.int p3), .val (.int p4), .val (.int p5), .val (.int p6), .val (.int (p1 &&& (255 : Int32))), .val (.int (((p1.toUInt32 >>> ((8 : Int32) &&& 31).toUInt32).toInt32) &&& (255 : Int32))), .val (.int (((p1.toUInt32 >>> ((16 : Int32) &&& 31).toUInt32).toInt32) &&& (255 : Int32))), .val (.int (p6 &&& (255 : Int32))), .val (.int ((p5 &&& (2147483647 : Int32)) % (10 : Int32))), .val (.ref b1), .val (.int (p1 &&& (255 : Int32))), .val (.int (((p1.toUInt32 >>> ((8 : Int32) &&& 31).toUInt32).toInt32) &&& (255 : Int32))), .val (.int (((p1.toUInt32 >>> ((16 : Int32) &&& 31).toUInt32).toInt32) &&& (255 : Int32))), .val (.int p2), .unset, .unset, .unset, .unset] [(.int p3)]) _
                  refine own_go (fun t_ k_ => XS.istore X48.here hx rfl (hb hby at_210) rfl (l' := #[.val (.int p1), .val (.int p2), .val (.int p3), .val (.int p4), .val (.int p5), .val (.int p6), .val (.int (p1 &&& (255 : Int32))), .val (.int (((p1.toUInt32 >>> ((8 : Int32) &&& 31).toUInt32).toInt32) &&& (255 : Int32))), .val (.int (((p1.toUInt32 >>> ((16 : Int32) &&& 31).toUInt32).toInt32) &&& (255 : Int32))), .val (.int (p6 &&& (255 : Int32))), .val (.int ((p5 &&& (2147483647 : Int32)) % (10 : Int32))), .val (.ref b1), .val (.int (p1 &&& (255 : Int32))), .val (.int (((p1.toUInt32 >>> ((8 : Int32) &&& 31).toUInt32).toInt32) &&& (255 : Int32))), .val (.int (((p1.toUInt32 >>> ((16 : Int32) &&& 31).toUInt32).toInt32) &&& (255 : Int32))), .val (.int p2), .val (.int p3), .unset, .unset, .unset]) rfl k_) ?_
                  show own_G p.tables e below T48 (mkF m 212 #[.val (.int p1), .val (.int p2), .val (.int p3), .val (.int p4), .val (.int p5), .val (.int p6), .val (.int (p1 &&& (255 : Int32))), .val (.int (((p1.toUInt32 >>> ((8 : Int32) &&& 31).toUInt32).toInt32) &&& (255 : Int32))), .val (.int (((p1.toUInt32 >>> ((16 : Int32) &&& 31).toUInt32).toInt32) &&& (255 : Int32))), .val (.int (p6 &&& (255 : Int32))), .val (.int ((p5 &&& (2147483647 : Int32)) % (10 : Int32))), .val (.ref b1), .val (.int (p1 &&& (255 : Int32))), .val (.int (((p1.toUInt32 >>> ((8 : Int32) &&& 31).toUInt32).toInt32) &&& (255 : Int32))), .val (.int (((p1.toUInt32 >>> ((16 : Int32) &&& 31).toUInt32).toInt32) &&& (255 : Int32))), .val (.int p2), .val (.int p3), .unset, .unset, .unset] []) _
                  refine own_go (fun t_ k_ => XS.iload X48.here hx rfl (hb hby at_212) rfl k_) ?_
                  show own_G p.tables e below T48 (mkF m 214 #[.val (.int p1), .val (.int p2), .val (.int p3), .val (.int p4), .val (.int p5), .val (.int p6), .val (.int (p1 &&& (255 : Int32))), .val (.int (((p1.toUInt32 >>> ((8 : Int32) &&& 31).toUInt32).toInt32) &&& (255 : Int32))), .val (.int (((p1.toUInt32 >>> ((16 : Int32) &&& 31).toUInt32).toInt32) &&& (255 : Int32))), .val (.int (p6 &&& (255 : Int32))), .val (.int ((p5 &&& (2147483647 : Int32)) % (10 : Int32))), .val (.ref b1), .val (.int (p1 &&& (255 : Int32))), .val (.int (((p1.toUInt32 >>> ((8 : Int32) &&& 31).toUInt32).toInt32) &&& (255 : Int32))), .val (.int (((p1.toUInt32 >>> ((16 : Int32) &&& 31).toUInt32).toInt32) &&& (255 : Int32))), .val (.int p2), .val (.int p3), .unset, .unset, .unset] [(.int ((p5 &&& (2147483647 : Int32)) % (10 : Int32)))]) _
                  refine own_go (fun t_ k_ => XS.bipush X48.here hx rfl (hb hby at_214) k_) ?_
                  show own_G p.tables e below T48 (mkF m 216 #[.val (.int p1), .val (.int p2), .val (.int p3), .val (.int p4), .val (.int p5), .val (.int p6), .val (.int (p1 &&& (255 : Int32))), .val (.int (((p1.toUInt32 >>> ((8 : Int32) &&& 31).toUInt32).toInt32) &&& (255 : Int32))), .val (.int (((p1.toUInt32 >>> ((16 : Int32) &&& 31).toUInt32).toInt32) &&& (255 : Int32))), .val (.int (p6 &&& (255 : Int32))), .val (.int ((p5 &&& (2147483647 : Int32)) % (10 : Int32))), .val (.ref b1), .val (.int (p1 &&& (255 : Int32))), .val (.int (((p1.toUInt32 >>> ((8 : Int32) &&& 31).toUInt32).toInt32) &&& (255 : Int32))), .val (.int (((p1.toUInt32 >>> ((16 : Int32) &&& 31).toUInt32).toInt32) &&& (255 : Int32))), .val (.int p2), .val (.int p3), .unset, .unset, .unset] [(.int (6 : Int32)), (.int ((p5 &&& (2147483647 : Int32)) % (10 : Int32)))]) _
                  by_cases hc216_455 : ((p5 &&& (2147483647 : Int32)) % (10 : Int32)) = (6 : Int32)
                  · skip
                    refine own_go (fun t_ k_ => XS.icmpNo X48.here hx rfl (hb hby at_216) rfl (teq hc216_455).2 k_) ?_
                    show own_G p.tables e below T48 (mkF m 219 #[.val (.int p1), .val (.int p2), .val (.int p3), .val (.int p4), .val (.int p5), .val (.int p6), .val (.int (p1 &&& (255 : Int32))), .val (.int (((p1.toUInt32 >>> ((8 : Int32) &&& 31).toUInt32).toInt32) &&& (255 : Int32))), .val (.int (((p1.toUInt32 >>> ((16 : Int32) &&& 31).toUInt32).toInt32) &&& (255 : Int32))), .val (.int (p6 &&& (255 : Int32))), .val (.int ((p5 &&& (2147483647 : Int32)) % (10 : Int32))), .val (.ref b1), .val (.int (p1 &&& (255 : Int32))), .val (.int (((p1.toUInt32 >>> ((8 : Int32) &&& 31).toUInt32).toInt32) &&& (255 : Int32))), .val (.int (((p1.toUInt32 >>> ((16 : Int32) &&& 31).toUInt32).toInt32) &&& (255 : Int32))), .val (.int p2), .val (.int p3), .unset, .unset, .unset] []) _
                    refine own_go (fun t_ k_ => XS.iload X48.here hx rfl (hb hby at_219) rfl k_) ?_
                    show own_G p.tables e below T48 (mkF m 221 #[.val (.int p1), .val (.int p2), .val (.int p3), .val (.int p4), .val (.int p5), .val (.int p6), .val (.int (p1 &&& (255 : Int32))), .val (.int (((p1.toUInt32 >>> ((8 : Int32) &&& 31).toUInt32).toInt32) &&& (255 : Int32))), .val (.int (((p1.toUInt32 >>> ((16 : Int32) &&& 31).toUInt32).toInt32) &&& (255 : Int32))), .val (.int (p6 &&& (255 : Int32))), .val (.int ((p5 &&& (2147483647 : Int32)) % (10 : Int32))), .val (.ref b1), .val (.int (p1 &&& (255 : Int32))), .val (.int (((p1.toUInt32 >>> ((8 : Int32) &&& 31).toUInt32).toInt32) &&& (255 : Int32))), .val (.int (((p1.toUInt32 >>> ((16 : Int32) &&& 31).toUInt32).toInt32) &&& (255 : Int32))), .val (.int p2), .val (.int p3), .unset, .unset, .unset] [(.int p6)]) _
                    refine own_go (fun t_ k_ => XS.goto X48.here hx rfl (pc0 := 221) (pc' := 225) rfl (hb hby at_221) (by decide) (by decide) k_) ?_
                    show own_G p.tables e below T48 (mkF m 225 #[.val (.int p1), .val (.int p2), .val (.int p3), .val (.int p4), .val (.int p5), .val (.int p6), .val (.int (p1 &&& (255 : Int32))), .val (.int (((p1.toUInt32 >>> ((8 : Int32) &&& 31).toUInt32).toInt32) &&& (255 : Int32))), .val (.int (((p1.toUInt32 >>> ((16 : Int32) &&& 31).toUInt32).toInt32) &&& (255 : Int32))), .val (.int (p6 &&& (255 : Int32))), .val (.int ((p5 &&& (2147483647 : Int32)) % (10 : Int32))), .val (.ref b1), .val (.int (p1 &&& (255 : Int32))), .val (.int (((p1.toUInt32 >>> ((8 : Int32) &&& 31).toUInt32).toInt32) &&& (255 : Int32))), .val (.int (((p1.toUInt32 >>> ((16 : Int32) &&& 31).toUInt32).toInt32) &&& (255 : Int32))), .val (.int p2), .val (.int p3), .unset, .unset, .unset] [(.int p6)]) _
                    refine own_go (fun t_ k_ => XS.istore X48.here hx rfl (hb hby at_225) rfl (l' := #[.val (.int p1), .val (.int p2), .val (.int p3), .val (.int p4), .val (.int p5), .val (.int p6), .val (.int (p1 &&& (255 : Int32))), .val (.int (((p1.toUInt32 >>> ((8 : Int32) &&& 31).toUInt32).toInt32) &&& (255 : Int32))), .val (.int (((p1.toUInt32 >>> ((16 : Int32) &&& 31).toUInt32).toInt32) &&& (255 : Int32))), .val (.int (p6 &&& (255 : Int32))), .val (.int ((p5 &&& (2147483647 : Int32)) % (10 : Int32))), .val (.ref b1), .val (.int (p1 &&& (255 : Int32))), .val (.int (((p1.toUInt32 >>> ((8 : Int32) &&& 31).toUInt32).toInt32) &&& (255 : Int32))), .val (.int (((p1.toUInt32 >>> ((16 : Int32) &&& 31).toUInt32).toInt32) &&& (255 : Int32))), .val (.int p2), .val (.int p3), .val (.int p6), .unset, .unset]) rfl k_) ?_
                    show own_G p.tables e below T48 (mkF m 227 #[.val (.int p1), .val (.int p2), .val (.int p3), .val (.int p4), .val (.int p5), .val (.int p6), .val (.int (p1 &&& (255 : Int32))), .val (.int (((p1.toUInt32 >>> ((8 : Int32) &&& 31).toUInt32).toInt32) &&& (255 : Int32))), .val (.int (((p1.toUInt32 >>> ((16 : Int32) &&& 31).toUInt32).toInt32) &&& (255 : Int32))), .val (.int (p6 &&& (255 : Int32))), .val (.int ((p5 &&& (2147483647 : Int32)) % (10 : Int32))), .val (.ref b1), .val (.int (p1 &&& (255 : Int32))), .val (.int (((p1.toUInt32 >>> ((8 : Int32) &&& 31).toUInt32).toInt32) &&& (255 : Int32))), .val (.int (((p1.toUInt32 >>> ((16 : Int32) &&& 31).toUInt32).toInt32) &&& (255 : Int32))), .val (.int p2), .val (.int p3), .val (.int p6), .unset, .unset] []) _
                    exact tail227 _ _ _ _ _ _ (own_mm _) (own_mm _) (own_mm _)
                  · skip
                    refine own_go (fun t_ k_ => XS.icmpYes X48.here hx rfl (pc0 := 216) (pc' := 224) rfl (hb hby at_216) rfl (feq hc216_455).2 (by decide) (by decide) k_) ?_
                    show own_G p.tables e below T48 (mkF m 224 #[.val (.int p1), .val (.int p2), .val (.int p3), .val (.int p4), .val (.int p5), .val (.int p6), .val (.int (p1 &&& (255 : Int32))), .val (.int (((p1.toUInt32 >>> ((8 : Int32) &&& 31).toUInt32).toInt32) &&& (255 : Int32))), .val (.int (((p1.toUInt32 >>> ((16 : Int32) &&& 31).toUInt32).toInt32) &&& (255 : Int32))), .val (.int (p6 &&& (255 : Int32))), .val (.int ((p5 &&& (2147483647 : Int32)) % (10 : Int32))), .val (.ref b1), .val (.int (p1 &&& (255 : Int32))), .val (.int (((p1.toUInt32 >>> ((8 : Int32) &&& 31).toUInt32).toInt32) &&& (255 : Int32))), .val (.int (((p1.toUInt32 >>> ((16 : Int32) &&& 31).toUInt32).toInt32) &&& (255 : Int32))), .val (.int p2), .val (.int p3), .unset, .unset, .unset] []) _
                    refine own_go (fun t_ k_ => XS.iloadN X48.here hx rfl (hb hby at_224) rfl k_) ?_
                    show own_G p.tables e below T48 (mkF m 225 #[.val (.int p1), .val (.int p2), .val (.int p3), .val (.int p4), .val (.int p5), .val (.int p6), .val (.int (p1 &&& (255 : Int32))), .val (.int (((p1.toUInt32 >>> ((8 : Int32) &&& 31).toUInt32).toInt32) &&& (255 : Int32))), .val (.int (((p1.toUInt32 >>> ((16 : Int32) &&& 31).toUInt32).toInt32) &&& (255 : Int32))), .val (.int (p6 &&& (255 : Int32))), .val (.int ((p5 &&& (2147483647 : Int32)) % (10 : Int32))), .val (.ref b1), .val (.int (p1 &&& (255 : Int32))), .val (.int (((p1.toUInt32 >>> ((8 : Int32) &&& 31).toUInt32).toInt32) &&& (255 : Int32))), .val (.int (((p1.toUInt32 >>> ((16 : Int32) &&& 31).toUInt32).toInt32) &&& (255 : Int32))), .val (.int p2), .val (.int p3), .unset, .unset, .unset] [(.int p4)]) _
                    refine own_go (fun t_ k_ => XS.istore X48.here hx rfl (hb hby at_225) rfl (l' := #[.val (.int p1), .val (.int p2), .val (.int p3), .val (.int p4), .val (.int p5), .val (.int p6), .val (.int (p1 &&& (255 : Int32))), .val (.int (((p1.toUInt32 >>> ((8 : Int32) &&& 31).toUInt32).toInt32) &&& (255 : Int32))), .val (.int (((p1.toUInt32 >>> ((16 : Int32) &&& 31).toUInt32).toInt32) &&& (255 : Int32))), .val (.int (p6 &&& (255 : Int32))), .val (.int ((p5 &&& (2147483647 : Int32)) % (10 : Int32))), .val (.ref b1), .val (.int (p1 &&& (255 : Int32))), .val (.int (((p1.toUInt32 >>> ((8 : Int32) &&& 31).toUInt32).toInt32) &&& (255 : Int32))), .val (.int (((p1.toUInt32 >>> ((16 : Int32) &&& 31).toUInt32).toInt32) &&& (255 : Int32))), .val (.int p2), .val (.int p3), .val (.int p4), .unset, .unset]) rfl k_) ?_
                    show own_G p.tables e below T48 (mkF m 227 #[.val (.int p1), .val (.int p2), .val (.int p3), .val (.int p4), .val (.int p5), .val (.int p6), .val (.int (p1 &&& (255 : Int32))), .val (.int (((p1.toUInt32 >>> ((8 : Int32) &&& 31).toUInt32).toInt32) &&& (255 : Int32))), .val (.int (((p1.toUInt32 >>> ((16 : Int32) &&& 31).toUInt32).toInt32) &&& (255 : Int32))), .val (.int (p6 &&& (255 : Int32))), .val (.int ((p5 &&& (2147483647 : Int32)) % (10 : Int32))), .val (.ref b1), .val (.int (p1 &&& (255 : Int32))), .val (.int (((p1.toUInt32 >>> ((8 : Int32) &&& 31).toUInt32).toInt32) &&& (255 : Int32))), .val (.int (((p1.toUInt32 >>> ((16 : Int32) &&& 31).toUInt32).toInt32) &&& (255 : Int32))), .val (.int p2), .val (.int p3), .val (.int p4), .unset, .unset] []) _
                    exact tail227 _ _ _ _ _ _ (own_mm _) (own_mm _) (own_mm _)
set_option maxRecDepth 65536 in
set_option maxHeartbeats 40000000 in
theorem comes_1 {Post : Tables → Env → Array Value → State → Outcome → State → Prop} (hpost : ∀ tb e args s v u, (limb_1_1.after args s (.returned v) u = true ∧ limb_1_2.after args s (.returned v) u = true ∧ True) → FrameEnd s (.returned v) u (Jvm.fieldLocs frame_1_writes args s ++ Jvm.arrayLocs frame_1_arrays args s ++ Jvm.staticLocs frame_1_statics s) 48 192 → Post tb e args s (.returned v) u) :
    ArmFor flags0 classFile x code maxLocals ret World_1 tables_1 room_1 Calls_1 rest_1 Pre_1 Post := by
  intro l hfl _ _ p e ha hc hk s m args below hf hA hF happ hP
  obtain ⟨hcalls, hrest, hpre⟩ := hP
  obtain ⟨-, -, -, hnamed, -, -, -, hat⟩ := (Spec.applies_iff hf).mp happ
  obtain ⟨hg, hn⟩ := and_e (Cond.before_iff.mp (show (Jvm.Cond.and given_1 narrow_1).before args s = true from hpre))
  obtain ⟨g0, gr0⟩ := and_e hg
  obtain ⟨g1, gr1⟩ := and_e gr0
  obtain ⟨g2, gr2⟩ := and_e gr1
  obtain ⟨g3, gr3⟩ := and_e gr2
  obtain ⟨g4, gr4⟩ := and_e gr3
  obtain ⟨g5, gr5⟩ := and_e gr4
  obtain ⟨w0, w1, w2, w3, w4, w5, rfl⟩ : ∃ w0 w1 w2 w3 w4 w5 : Value, args = #[w0, w1, w2, w3, w4, w5] := by
    have hs : args.size = 6 := by simpa [Cond.value, given_1] using g0
    obtain ⟨L⟩ := args
    match L, hs with
    | [w0, w1, w2, w3, w4, w5], _ => exact ⟨w0, w1, w2, w3, w4, w5, rfl⟩
  have hw := fun d (hd : d ∈ tables_1) => atoms_spec (ws := Jvm.Cond.code x code maxLocals ret :: tables_1) hat d (List.mem_cons_of_mem _ hd)
  have hfit : Fit s := fun {y c} hc i hi => by
    obtain ⟨ha, rfl⟩ := Array.getElem?_eq_some_iff.mp hc
    have q := List.all_eq_true.mp ((Array.all_eq_true_iff_forall_mem.mp hF) _ (Array.getElem_mem ha)) i (List.mem_range.mpr hi)
    simpa [Array.getElem?_eq_getElem hi] using q
  obtain ⟨hsets, hown0⟩ := atoms_of _ (rest_1_c_eq ▸ (show rest_1_c.before _ s = true from hrest))
  have hr0 := Cond.before_iff.mp hown0
  obtain ⟨i0, ei0⟩ := is_v g1
  obtain rfl : w0 = (.int i0) := Option.some.inj ei0
  obtain ⟨i1, ei1⟩ := is_v g2
  obtain rfl : w1 = (.int i1) := Option.some.inj ei1
  obtain ⟨i2, ei2⟩ := is_v g3
  obtain rfl : w2 = (.int i2) := Option.some.inj ei2
  obtain ⟨i3, ei3⟩ := is_v g4
  obtain rfl : w3 = (.int i3) := Option.some.inj ei3
  obtain ⟨i4, ei4⟩ := is_v g5
  obtain rfl : w4 = (.int i4) := Option.some.inj ei4
  obtain ⟨i5, ei5⟩ := is_v gr5
  obtain rfl : w5 = (.int i5) := Option.some.inj ei5
  obtain ⟨cs, ec⟩ := is_v (Cond.before_iff.mp (hsets _ (List.mem_of_getElem? (i := 1) rfl)))
  have S_C := Sta.start ec (Or.inl (hsets _ (List.mem_of_getElem? (i := 0) rfl)))
  have hcs : ¬ cs = 0 := fun q => by
    have z := not_v (Cond.before_iff.mp (hsets _ (List.mem_of_getElem? (i := 2) rfl)))
    rw [eq_i ec (Term.int_eval (0)) (congrArg Value.int q)] at z; cases z
  obtain ⟨n, o, h1, h2, h3, _, L, rfl, ⟨rfl, N⟩, hq⟩ := rm0 l s _ hw tables_1 i0 i1 i2 i3 i4 i5 cs s.heap s.heap.size (Nat.le_refl _) S_C hcs p e ha hc hk s m _ below hf ((Spec.applies_iff_loose hf).mp happ).1 ⟨rfl, State.Warmed39.refl s, rfl⟩ trivial
  refine ⟨n, _, h1, h2, h3, hpost _ _ _ _ _ _ ⟨Cond.after_iff.mpr rfl, Cond.after_iff.mpr (eq_i res_at (Term.int_eval (1)) rfl), trivial⟩ ⟨hq.1, hq.2.1, (hq.2.2.sift fun y hy => Or.inr (N y hy)).mono (by decide) (by decide)⟩⟩
theorem main_1_1 : Claimed_1_1 := comes_1 fun _ _ _ _ _ _ h hF => ⟨h.1, hF⟩
theorem main_1_2 : Claimed_1_2 := comes_1 fun _ _ _ _ _ _ h hF => ⟨h.2.1, hF⟩
end Jvm.Pilot.@@N@@
namespace Jvm.Pilot.@@N@@
open Jvm Jvm.ClassFile Sem Op Lib Jvm.Free Jvm.Stand Jvm.Pilot.@@N@@.Jvm.D
/-! MADE BY PROGRAM (witnessworld.py) out of the Statement's table words and the real class files: 20 classes; the members and pool entries that the words name. The judged class is class 1, her method 1. -/
namespace start1
open Jvm.ClassFile
def u (s : String) : CpInfo := .utf8 (stringToUtf16 s)
/-- a pool by its gaps: so many unusable entries, then the entry; so many at the end -/
def gap : Nat → List CpInfo → List CpInfo
  | 0, r => r
  | n + 1, r => .unusable :: gap n r
def poolList (es : List (Nat × CpInfo)) (last : Nat) : List CpInfo := es.foldr (fun e r => gap e.1 (e.2 :: r)) (gap last [])
def pool (es : List (Nat × CpInfo)) (last : Nat) : Array CpInfo := ⟨poolList es last⟩
def fileOf (pool : Array CpInfo) (this : Nat) (attrs : Array Attribute := #[]) (ms : Array MethodInfo := #[]) (fl : Nat := 33) (sup : Nat := 0) (ifs : Array Nat := #[]) (fds : Array FieldInfo := #[]) : ClassFile where
  minorVersion := 0
  majorVersion := 65
  constantPool := pool
  accessFlags := fl
  thisClass := this
  superClass := sup
  interfaces := ifs
  fields := fds
  methods := ms
  attributes := attrs
def plain (name : String) (sup : Option ClassId) : Class where
  name := name
  kind := .ordinary
  loader := none
  accessFlags := 33
  super := sup
  interfaces := #[]
  cf := none
  fields := #[]
  methods := #[]
  instanceTypes := #[]
  staticTypes := #[]
  resolved := #[]
  callSites := []
  init := .initialized
  statics := none
  mirror := none

def pool0 : Array CpInfo := pool [(5, u "<init>"), (0, u "()V"), (1, .class_ 10), (1, u "java/lang/Object")] 113

def k0c0 : Code := { maxStack := 0, maxLocals := 1, code := object_method_1_code, exceptionTable := #[], attributes := #[] }
def k0m0 : Method := { name := "<init>", desc := "()V", sig := { parameters := [], returnType := none }, accessFlags := 1, code := some k0c0 }
/-- java/lang/Object -/
def k0 : Class := { plain "java/lang/Object" none with
  accessFlags := 33
  interfaces := #[]
  cf := some (fileOf pool0 8 #[] #[{ accessFlags := 1, nameIndex := 5, descriptorIndex := 6, attributes := #[] }] 33 0 #[] #[])
  fields := #[]
  methods := #[k0m0]
  instanceTypes := #[]
  staticTypes := #[]
  resolved := Array.replicate 124 none
  statics := none }

def pool1 : Array CpInfo := pool [(2, .class_ 4), (1, u "java/lang/Object"), (0, u "<init>"), (0, u "()V"), (0, .integer 2147483647), (0, .class_ 9), (0, u "com/example/line_to_seat/linetoseat/store/SectionSeats"), (0, .methodref 11 12), (0, .class_ 13), (0, .nameAndType 14 15), (0, u "java/lang/String"), (0, u "valueOf"), (0, u "(C)Ljava/lang/String;"), (0, .methodref 8 17), (0, .nameAndType 5 18), (0, u "(Ljava/lang/String;Ljava/lang/String;Ljava/lang/String;III)V"), (0, .methodref 8 20), (0, .nameAndType 21 22), (0, u "equals"), (0, u "(Ljava/lang/Object;)Z"), (0, .methodref 11 24), (0, .nameAndType 5 25), (0, u "([C)V"), (0, .class_ 27), (0, u "com/example/line_to_seat/linetoseat/store/SectionSeatsEqualsPinLaw"), (2, u "law"), (0, u "(IIIIII)Z")] 3

def k1m0 : Method := { name := "<init>", desc := "()V", sig := { parameters := [], returnType := none }, accessFlags := 1, code := none }
def k1c1 : Code := { maxStack := 10, maxLocals := 20, code := code, exceptionTable := #[], attributes := #[] }
def k1m1 : Method := { name := "law", desc := "(IIIIII)Z", sig := { parameters := [.int, .int, .int, .int, .int, .int], returnType := some .boolean }, accessFlags := 9, code := some k1c1 }
/-- com/example/line_to_seat/linetoseat/store/SectionSeatsEqualsPinLaw -/
def k1 : Class := { plain "com/example/line_to_seat/linetoseat/store/SectionSeatsEqualsPinLaw" (some 0) with
  accessFlags := 49
  interfaces := #[]
  cf := some (fileOf pool1 26 #[] #[{ accessFlags := 1, nameIndex := 5, descriptorIndex := 6, attributes := #[] }, { accessFlags := 9, nameIndex := 30, descriptorIndex := 31, attributes := #[] }] 49 2 #[] #[])
  fields := #[]
  methods := #[k1m0, k1m1]
  instanceTypes := #[]
  staticTypes := #[]
  resolved := Array.replicate 35 none
  statics := none }

def pool2 : Array CpInfo := pool [(1, .methodref 2 3), (0, .class_ 4), (0, .nameAndType 5 6), (0, u "java/lang/Object"), (0, u "<init>"), (0, u "()V"), (0, .fieldref 8 9), (0, .class_ 10), (0, .nameAndType 11 12), (0, u "com/example/line_to_seat/linetoseat/store/SectionSeats"), (0, u "sectionId"), (0, u "Ljava/lang/String;"), (0, .fieldref 8 14), (0, .nameAndType 15 12), (0, u "course"), (0, .fieldref 8 17), (0, .nameAndType 18 12), (0, u "sectionCode"), (0, .fieldref 8 20), (0, .nameAndType 21 22), (0, u "seats"), (0, u "I"), (0, .fieldref 8 24), (0, .nameAndType 25 22), (0, u "enrolled"), (0, .fieldref 8 27), (0, .nameAndType 28 22), (0, u "waitlisted"), (0, .methodref 30 31), (0, .class_ 32), (0, .nameAndType 33 34), (0, u "java/lang/String"), (0, u "equals"), (0, u "(Ljava/lang/Object;)Z"), (16, u "(Ljava/lang/String;Ljava/lang/String;Ljava/lang/String;III)V")] 31

def k2c0 : Code := { maxStack := 2, maxLocals := 7, code := prog_41_method_1_code, exceptionTable := #[], attributes := #[] }
def k2m0 : Method := { name := "<init>", desc := "(Ljava/lang/String;Ljava/lang/String;Ljava/lang/String;III)V", sig := { parameters := [(.object "java/lang/String"), (.object "java/lang/String"), (.object "java/lang/String"), .int, .int, .int], returnType := none }, accessFlags := 1, code := some k2c0 }
def k2c1 : Code := { maxStack := 2, maxLocals := 3, code := prog_41_method_9_code, exceptionTable := #[], attributes := #[] }
def k2m1 : Method := { name := "equals", desc := "(Ljava/lang/Object;)Z", sig := { parameters := [(.object "java/lang/Object")], returnType := some .boolean }, accessFlags := 1, code := some k2c1 }
/-- com/example/line_to_seat/linetoseat/store/SectionSeats -/
def k2 : Class := { plain "com/example/line_to_seat/linetoseat/store/SectionSeats" (some 0) with
  accessFlags := 33
  interfaces := #[]
  cf := some (fileOf pool2 8 #[] #[{ accessFlags := 1, nameIndex := 5, descriptorIndex := 51, attributes := #[] }, { accessFlags := 1, nameIndex := 33, descriptorIndex := 34, attributes := #[] }] 33 2 #[] #[{ accessFlags := 18, nameIndex := 11, descriptorIndex := 12, attributes := #[] }, { accessFlags := 18, nameIndex := 15, descriptorIndex := 12, attributes := #[] }, { accessFlags := 18, nameIndex := 18, descriptorIndex := 12, attributes := #[] }, { accessFlags := 18, nameIndex := 21, descriptorIndex := 22, attributes := #[] }, { accessFlags := 18, nameIndex := 25, descriptorIndex := 22, attributes := #[] }, { accessFlags := 18, nameIndex := 28, descriptorIndex := 22, attributes := #[] }])
  fields := #[{ name := "sectionId", type := (.object "java/lang/String"), accessFlags := 18, slot := 0, constantValue := 0 }, { name := "course", type := (.object "java/lang/String"), accessFlags := 18, slot := 1, constantValue := 0 }, { name := "sectionCode", type := (.object "java/lang/String"), accessFlags := 18, slot := 2, constantValue := 0 }, { name := "seats", type := .int, accessFlags := 18, slot := 3, constantValue := 0 }, { name := "enrolled", type := .int, accessFlags := 18, slot := 4, constantValue := 0 }, { name := "waitlisted", type := .int, accessFlags := 18, slot := 5, constantValue := 0 }]
  methods := #[k2m0, k2m1]
  instanceTypes := #[(.object "java/lang/String"), (.object "java/lang/String"), (.object "java/lang/String"), .int, .int, .int]
  staticTypes := #[]
  resolved := Array.replicate 83 none
  statics := none }

def pool3 : Array CpInfo := pool [(1, .class_ 2), (0, u "java/io/Serializable"), (0, .class_ 4), (0, u "java/lang/Object")] 2

/-- java/io/Serializable -/
def k3 : Class := { plain "java/io/Serializable" (some 0) with
  accessFlags := 1537
  interfaces := #[]
  cf := some (fileOf pool3 1 #[] #[] 1537 3 #[] #[])
  fields := #[]
  methods := #[]
  instanceTypes := #[]
  staticTypes := #[]
  resolved := Array.replicate 7 none
  statics := none }

def pool4 : Array CpInfo := pool [(1, .class_ 2), (0, u "java/lang/Comparable"), (0, .class_ 4), (0, u "java/lang/Object")] 7

/-- java/lang/Comparable -/
def k4 : Class := { plain "java/lang/Comparable" (some 0) with
  accessFlags := 1537
  interfaces := #[]
  cf := some (fileOf pool4 1 #[] #[] 1537 3 #[] #[])
  fields := #[]
  methods := #[]
  instanceTypes := #[]
  staticTypes := #[]
  resolved := Array.replicate 12 none
  statics := none }

def pool5 : Array CpInfo := pool [(2, .class_ 4), (1, u "java/lang/CharSequence"), (42, .class_ 48), (0, u "java/lang/CharSequence$1CodePointIterator"), (10, .class_ 60), (0, u "java/lang/CharSequence$1CharIterator"), (5, .class_ 67), (0, u "java/lang/Object")] 63

/-- java/lang/CharSequence -/
def k5 : Class := { plain "java/lang/CharSequence" (some 0) with
  accessFlags := 1537
  interfaces := #[]
  cf := some (fileOf pool5 2 #[.nestMembers #[47, 59]] #[] 1537 66 #[] #[])
  fields := #[]
  methods := #[]
  instanceTypes := #[]
  staticTypes := #[]
  resolved := Array.replicate 131 none
  statics := none }

def pool6 : Array CpInfo := pool [(1, .class_ 2), (0, u "java/lang/constant/Constable"), (0, .class_ 4), (0, u "java/lang/Object")] 6

/-- java/lang/constant/Constable -/
def k6 : Class := { plain "java/lang/constant/Constable" (some 0) with
  accessFlags := 1537
  interfaces := #[]
  cf := some (fileOf pool6 1 #[] #[] 1537 3 #[] #[])
  fields := #[]
  methods := #[]
  instanceTypes := #[]
  staticTypes := #[]
  resolved := Array.replicate 11 none
  statics := none }

def pool7 : Array CpInfo := pool [(1, .class_ 2), (0, u "java/lang/constant/ConstantDesc"), (0, .class_ 4), (0, u "java/lang/Object")] 32

/-- java/lang/constant/ConstantDesc -/
def k7 : Class := { plain "java/lang/constant/ConstantDesc" (some 0) with
  accessFlags := 1537
  interfaces := #[]
  cf := some (fileOf pool7 1 #[] #[] 1537 3 #[] #[])
  fields := #[]
  methods := #[]
  instanceTypes := #[]
  staticTypes := #[]
  resolved := Array.replicate 37 none
  statics := none }

def pool8 : Array CpInfo := pool [(1, .methodref 2 3), (0, .class_ 4), (0, .nameAndType 5 6), (0, u "java/lang/Object"), (0, u "<init>"), (0, u "()V"), (2, .fieldref 10 11), (0, .class_ 12), (0, .nameAndType 13 14), (0, u "java/lang/String"), (0, u "value"), (0, u "[B"), (0, .fieldref 10 16), (0, .nameAndType 17 18), (0, u "coder"), (0, u "B"), (2, u "hash"), (0, u "I"), (2, u "hashIsZero"), (0, u "Z"), (0, .methodref 10 28), (0, .nameAndType 5 29), (0, u "([CIILjava/lang/Void;)V"), (8, .fieldref 10 39), (0, .nameAndType 40 26), (0, u "COMPACT_STRINGS"), (1, .class_ 44), (1, u "java/lang/StringUTF16"), (0, u "compress"), (1, .methodref 42 48), (0, .nameAndType 49 50), (0, u "coderFromArrayLen"), (0, u "([BI)B"), (2, u "toBytes"), (53, .class_ 109), (1, u "java/lang/StringLatin1"), (67, .methodref 42 178), (0, .nameAndType 45 179), (0, u "([CII)[B"), (29, .methodref 10 210), (0, .nameAndType 5 211), (0, u "([BB)V"), (157, u "(C)Z"), (171, .methodref 107 542), (0, .nameAndType 543 544), (0, u "equals"), (0, u "([B[B)Z"), (28, u "(Ljava/lang/Object;)Z"), (1, .class_ 576), (0, u "java/lang/CharSequence"), (22, u "CASE_INSENSITIVE_ORDER"), (0, u "Ljava/util/Comparator;"), (181, u "valueOf"), (0, u "(C)Ljava/lang/String;"), (226, u "([C)V"), (4, .methodref 107 1016), (0, .nameAndType 1017 369), (0, u "canEncode"), (0, .methodref 107 1019), (0, .nameAndType 53 1020), (0, u "(C)[B"), (80, u "serialPersistentFields"), (0, u "[Ljava/io/ObjectStreamField;"), (0, .class_ 1104), (0, u "java/lang/String$CaseInsensitiveComparator"), (1, .class_ 1107), (0, u "java/io/Serializable"), (0, .class_ 1109), (0, u "java/lang/Comparable"), (0, .class_ 1111), (0, u "java/lang/constant/Constable"), (0, .class_ 1113), (0, u "java/lang/constant/ConstantDesc"), (2, u "serialVersionUID"), (0, u "J"), (3, u "REPL"), (0, u "C"), (2, u "LATIN1"), (1, u "UTF16")] 323

def k8m0 : Method := { name := "<init>", desc := "()V", sig := { parameters := [], returnType := none }, accessFlags := 1, code := none }
def k8c1 : Code := { maxStack := 5, maxLocals := 2, code := jdk_42_method_3_code, exceptionTable := #[], attributes := #[] }
def k8m1 : Method := { name := "<init>", desc := "([C)V", sig := { parameters := [(.array .char)], returnType := none }, accessFlags := 1, code := some k8c1 }
def k8c2 : Code := { maxStack := 2, maxLocals := 3, code := jdk_42_method_66_code, exceptionTable := #[], attributes := #[] }
def k8m2 : Method := { name := "equals", desc := "(Ljava/lang/Object;)Z", sig := { parameters := [(.object "java/lang/Object")], returnType := some .boolean }, accessFlags := 1, code := some k8c2 }
def k8c3 : Code := { maxStack := 4, maxLocals := 1, code := jdk_42_method_139_code, exceptionTable := #[], attributes := #[] }
def k8m3 : Method := { name := "valueOf", desc := "(C)Ljava/lang/String;", sig := { parameters := [.char], returnType := some (.object "java/lang/String") }, accessFlags := 9, code := some k8c3 }
def k8c4 : Code := { maxStack := 4, maxLocals := 6, code := jdk_42_method_149_code, exceptionTable := #[], attributes := #[] }
def k8m4 : Method := { name := "<init>", desc := "([CIILjava/lang/Void;)V", sig := { parameters := [(.array .char), .int, .int, (.object "java/lang/Void")], returnType := none }, accessFlags := 2, code := some k8c4 }
def k8c5 : Code := { maxStack := 2, maxLocals := 3, code := jdk_42_method_151_code, exceptionTable := #[], attributes := #[] }
def k8m5 : Method := { name := "<init>", desc := "([BB)V", sig := { parameters := [(.array .byte), .byte], returnType := none }, accessFlags := 0, code := some k8c5 }
/-- java/lang/String -/
def k8 : Class := { plain "java/lang/String" (some 0) with
  accessFlags := 49
  interfaces := #[3, 4, 5, 6, 7]
  cf := some (fileOf pool8 10 #[.nestMembers #[1103]] #[{ accessFlags := 1, nameIndex := 5, descriptorIndex := 6, attributes := #[] }, { accessFlags := 1, nameIndex := 5, descriptorIndex := 1010, attributes := #[] }, { accessFlags := 1, nameIndex := 543, descriptorIndex := 573, attributes := #[] }, { accessFlags := 9, nameIndex := 782, descriptorIndex := 783, attributes := #[] }, { accessFlags := 2, nameIndex := 5, descriptorIndex := 29, attributes := #[] }, { accessFlags := 0, nameIndex := 5, descriptorIndex := 211, attributes := #[] }] 49 2 #[1106, 1108, 575, 1110, 1112] #[{ accessFlags := 18, nameIndex := 13, descriptorIndex := 14, attributes := #[] }, { accessFlags := 18, nameIndex := 17, descriptorIndex := 18, attributes := #[] }, { accessFlags := 2, nameIndex := 21, descriptorIndex := 22, attributes := #[] }, { accessFlags := 2, nameIndex := 25, descriptorIndex := 26, attributes := #[] }, { accessFlags := 26, nameIndex := 1116, descriptorIndex := 1117, attributes := #[] }, { accessFlags := 24, nameIndex := 40, descriptorIndex := 26, attributes := #[] }, { accessFlags := 26, nameIndex := 1101, descriptorIndex := 1102, attributes := #[] }, { accessFlags := 26, nameIndex := 1121, descriptorIndex := 1122, attributes := #[] }, { accessFlags := 25, nameIndex := 599, descriptorIndex := 600, attributes := #[] }, { accessFlags := 24, nameIndex := 1125, descriptorIndex := 18, attributes := #[] }, { accessFlags := 24, nameIndex := 1127, descriptorIndex := 18, attributes := #[] }])
  fields := #[{ name := "value", type := (.array .byte), accessFlags := 18, slot := 0, constantValue := 0 }, { name := "coder", type := .byte, accessFlags := 18, slot := 1, constantValue := 0 }, { name := "hash", type := .int, accessFlags := 2, slot := 2, constantValue := 0 }, { name := "hashIsZero", type := .boolean, accessFlags := 2, slot := 3, constantValue := 0 }, { name := "serialVersionUID", type := .long, accessFlags := 26, slot := 0, constantValue := 0 }, { name := "COMPACT_STRINGS", type := .boolean, accessFlags := 24, slot := 1, constantValue := 0 }, { name := "serialPersistentFields", type := (.array (.object "java/io/ObjectStreamField")), accessFlags := 26, slot := 2, constantValue := 0 }, { name := "REPL", type := .char, accessFlags := 26, slot := 3, constantValue := 0 }, { name := "CASE_INSENSITIVE_ORDER", type := (.object "java/util/Comparator"), accessFlags := 25, slot := 4, constantValue := 0 }, { name := "LATIN1", type := .byte, accessFlags := 24, slot := 5, constantValue := 0 }, { name := "UTF16", type := .byte, accessFlags := 24, slot := 6, constantValue := 0 }]
  methods := #[k8m0, k8m1, k8m2, k8m3, k8m4, k8m5]
  instanceTypes := #[(.array .byte), .byte, .int, .boolean]
  staticTypes := #[.long, .boolean, (.array (.object "java/io/ObjectStreamField")), .char, (.object "java/util/Comparator"), .byte, .byte]
  resolved := Array.replicate 1451 none
  statics := some 0 }

def pool9 : Array CpInfo := pool [(4, .class_ 6), (1, u "java/lang/Object"), (0, u "<init>"), (0, u "()V"), (5, .class_ 16), (1, u "java/lang/StringLatin1"), (73, u "canEncode"), (14, u "(C)Z"), (15, u "$assertionsDisabled"), (0, u "Z"), (98, .class_ 223), (1, u "java/lang/StringLatin1$LinesSpliterator"), (57, u "equals"), (0, u "([B[B)Z"), (97, u "toBytes"), (1, u "(C)[B"), (7, .class_ 391), (0, u "java/lang/StringLatin1$CharsSpliterator")] 3

def k9m0 : Method := { name := "<init>", desc := "()V", sig := { parameters := [], returnType := none }, accessFlags := 0, code := none }
def k9c1 : Code := { maxStack := 2, maxLocals := 1, code := jdk_43_method_3_code, exceptionTable := #[], attributes := #[] }
def k9m1 : Method := { name := "canEncode", desc := "(C)Z", sig := { parameters := [.char], returnType := some .boolean }, accessFlags := 9, code := some k9c1 }
def k9c2 : Code := { maxStack := 3, maxLocals := 3, code := jdk_43_method_13_code, exceptionTable := #[], attributes := #[] }
def k9m2 : Method := { name := "equals", desc := "([B[B)Z", sig := { parameters := [(.array .byte), (.array .byte)], returnType := some .boolean }, accessFlags := 9, code := some k9c2 }
def k9c3 : Code := { maxStack := 4, maxLocals := 1, code := jdk_43_method_46_code, exceptionTable := #[], attributes := #[] }
def k9m3 : Method := { name := "toBytes", desc := "(C)[B", sig := { parameters := [.char], returnType := some (.array .byte) }, accessFlags := 9, code := some k9c3 }
/-- java/lang/StringLatin1 -/
def k9 : Class := { plain "java/lang/StringLatin1" (some 0) with
  accessFlags := 48
  interfaces := #[]
  cf := some (fileOf pool9 14 #[.nestMembers #[390, 221]] #[{ accessFlags := 0, nameIndex := 7, descriptorIndex := 8, attributes := #[] }, { accessFlags := 9, nameIndex := 90, descriptorIndex := 105, attributes := #[] }, { accessFlags := 9, nameIndex := 281, descriptorIndex := 282, attributes := #[] }, { accessFlags := 9, nameIndex := 380, descriptorIndex := 382, attributes := #[] }] 48 4 #[] #[{ accessFlags := 4120, nameIndex := 121, descriptorIndex := 122, attributes := #[] }])
  fields := #[{ name := "$assertionsDisabled", type := .boolean, accessFlags := 4120, slot := 0, constantValue := 0 }]
  methods := #[k9m0, k9m1, k9m2, k9m3]
  instanceTypes := #[]
  staticTypes := #[.boolean]
  resolved := Array.replicate 395 none
  statics := none }

def pool10 : Array CpInfo := pool [(6, .class_ 8), (1, u "java/lang/Object"), (0, u "<init>"), (0, u "()V"), (1, .class_ 14), (1, u "java/lang/StringUTF16"), (31, u "$assertionsDisabled"), (0, u "Z"), (13, u "HI_BYTE_SHIFT"), (0, u "I"), (2, u "LO_BYTE_SHIFT"), (49, .methodref 12 116), (0, .nameAndType 117 118), (0, u "compress"), (0, u "([CI[BII)I"), (3, u "([CII)[B"), (138, u "coderFromArrayLen"), (0, u "([BI)B"), (106, .class_ 371), (1, u "java/lang/StringUTF16$LinesSpliterator"), (58, u "MAX_LENGTH"), (196, .class_ 628), (0, u "java/lang/StringUTF16$CodePointsSpliterator"), (0, .class_ 630), (0, u "java/lang/StringUTF16$CharsSpliterator")] 4

def k10m0 : Method := { name := "<init>", desc := "()V", sig := { parameters := [], returnType := none }, accessFlags := 0, code := none }
def k10c1 : Code := { maxStack := 2, maxLocals := 2, code := jdk_52_method_15_code, exceptionTable := #[], attributes := #[] }
def k10m1 : Method := { name := "coderFromArrayLen", desc := "([BI)B", sig := { parameters := [(.array .byte), .int], returnType := some .byte }, accessFlags := 8, code := some k10c1 }
def k10c2 : Code := { maxStack := 5, maxLocals := 6, code := jdk_52_method_16_code, exceptionTable := #[], attributes := #[] }
def k10m2 : Method := { name := "compress", desc := "([CII)[B", sig := { parameters := [(.array .char), .int, .int], returnType := some (.array .byte) }, accessFlags := 9, code := some k10c2 }
def k10c3 : Code := { maxStack := 3, maxLocals := 7, code := jdk_52_method_21_code, exceptionTable := #[], attributes := #[] }
def k10m3 : Method := { name := "compress", desc := "([CI[BII)I", sig := { parameters := [(.array .char), .int, (.array .byte), .int, .int], returnType := some .int }, accessFlags := 9, code := some k10c3 }
/-- java/lang/StringUTF16 -/
def k10 : Class := { plain "java/lang/StringUTF16" (some 0) with
  accessFlags := 48
  interfaces := #[]
  cf := some (fileOf pool10 12 #[.nestMembers #[627, 629, 369]] #[{ accessFlags := 0, nameIndex := 9, descriptorIndex := 10, attributes := #[] }, { accessFlags := 8, nameIndex := 261, descriptorIndex := 262, attributes := #[] }, { accessFlags := 9, nameIndex := 117, descriptorIndex := 122, attributes := #[] }, { accessFlags := 9, nameIndex := 117, descriptorIndex := 118, attributes := #[] }] 48 6 #[] #[{ accessFlags := 26, nameIndex := 61, descriptorIndex := 62, attributes := #[] }, { accessFlags := 26, nameIndex := 65, descriptorIndex := 62, attributes := #[] }, { accessFlags := 24, nameIndex := 430, descriptorIndex := 62, attributes := #[] }, { accessFlags := 4120, nameIndex := 46, descriptorIndex := 47, attributes := #[] }])
  fields := #[{ name := "HI_BYTE_SHIFT", type := .int, accessFlags := 26, slot := 0, constantValue := 0 }, { name := "LO_BYTE_SHIFT", type := .int, accessFlags := 26, slot := 1, constantValue := 0 }, { name := "MAX_LENGTH", type := .int, accessFlags := 24, slot := 2, constantValue := 0 }, { name := "$assertionsDisabled", type := .boolean, accessFlags := 4120, slot := 3, constantValue := 0 }]
  methods := #[k10m0, k10m1, k10m2, k10m3]
  instanceTypes := #[]
  staticTypes := #[.int, .int, .int, .boolean]
  resolved := Array.replicate 635 none
  statics := none }

def pool11 : Array CpInfo := pool [(2, .class_ 4), (1, u "java/lang/Object"), (0, u "<init>"), (0, u "()V"), (17, .class_ 26), (1, u "jdk/internal/util/Preconditions"), (28, .class_ 56), (0, u "jdk/internal/util/Preconditions$4"), (57, .class_ 115), (0, u "jdk/internal/util/Preconditions$1"), (7, u "SIOOBE_FORMATTER"), (0, u "Ljava/util/function/BiFunction;"), (0, .class_ 126), (0, u "jdk/internal/util/Preconditions$2"), (3, u "AIOOBE_FORMATTER"), (0, .class_ 132), (0, u "jdk/internal/util/Preconditions$3"), (3, u "IOOBE_FORMATTER")] 57

def k11m0 : Method := { name := "<init>", desc := "()V", sig := { parameters := [], returnType := none }, accessFlags := 1, code := none }
/-- jdk/internal/util/Preconditions -/
def k11 : Class := { plain "jdk/internal/util/Preconditions" (some 0) with
  accessFlags := 33
  interfaces := #[]
  cf := some (fileOf pool11 24 #[.nestMembers #[55, 131, 125, 114]] #[{ accessFlags := 1, nameIndex := 5, descriptorIndex := 6, attributes := #[] }] 33 2 #[] #[{ accessFlags := 25, nameIndex := 123, descriptorIndex := 124, attributes := #[] }, { accessFlags := 25, nameIndex := 130, descriptorIndex := 124, attributes := #[] }, { accessFlags := 25, nameIndex := 136, descriptorIndex := 124, attributes := #[] }])
  fields := #[{ name := "SIOOBE_FORMATTER", type := (.object "java/util/function/BiFunction"), accessFlags := 25, slot := 0, constantValue := 0 }, { name := "AIOOBE_FORMATTER", type := (.object "java/util/function/BiFunction"), accessFlags := 25, slot := 1, constantValue := 0 }, { name := "IOOBE_FORMATTER", type := (.object "java/util/function/BiFunction"), accessFlags := 25, slot := 2, constantValue := 0 }]
  methods := #[k11m0]
  instanceTypes := #[]
  staticTypes := #[(.object "java/util/function/BiFunction"), (.object "java/util/function/BiFunction"), (.object "java/util/function/BiFunction")]
  resolved := Array.replicate 194 none
  statics := some 1 }

def pool12 : Array CpInfo := pool [(9, u "<init>"), (6, .class_ 18), (1, u "java/lang/Object"), (0, u "()V"), (1, .class_ 23), (1, u "jdk/internal/util/ArraysSupport"), (0, u "LOG2_ARRAY_LONG_INDEX_SCALE"), (0, u "I"), (2, u "U"), (0, u "Ljdk/internal/misc/Unsafe;"), (8, u "BIG_ENDIAN"), (0, u "Z"), (8, u "LOG2_BYTE_BIT_SIZE"), (4, u "LOG2_ARRAY_INT_INDEX_SCALE"), (54, u "JLA"), (0, u "Ljdk/internal/access/JavaLangAccess;"), (11, u "LOG2_ARRAY_BOOLEAN_INDEX_SCALE"), (9, u "LOG2_ARRAY_BYTE_INDEX_SCALE"), (5, u "LOG2_ARRAY_CHAR_INDEX_SCALE"), (5, u "LOG2_ARRAY_SHORT_INDEX_SCALE"), (18, u "LOG2_ARRAY_FLOAT_INDEX_SCALE"), (24, u "LOG2_ARRAY_DOUBLE_INDEX_SCALE"), (89, u "T_BOOLEAN"), (2, u "T_CHAR"), (1, u "T_FLOAT"), (1, u "T_DOUBLE"), (1, u "T_BYTE"), (1, u "T_SHORT"), (1, u "T_INT"), (1, u "T_LONG"), (1, u "SOFT_MAX_ARRAY_LENGTH")] 83

def k12m0 : Method := { name := "<init>", desc := "()V", sig := { parameters := [], returnType := none }, accessFlags := 2, code := none }
/-- jdk/internal/util/ArraysSupport -/
def k12 : Class := { plain "jdk/internal/util/ArraysSupport" (some 0) with
  accessFlags := 33
  interfaces := #[]
  cf := some (fileOf pool12 21 #[] #[{ accessFlags := 2, nameIndex := 9, descriptorIndex := 19, attributes := #[] }] 33 16 #[] #[{ accessFlags := 24, nameIndex := 28, descriptorIndex := 29, attributes := #[] }, { accessFlags := 26, nameIndex := 38, descriptorIndex := 39, attributes := #[] }, { accessFlags := 25, nameIndex := 121, descriptorIndex := 25, attributes := #[] }, { accessFlags := 25, nameIndex := 131, descriptorIndex := 25, attributes := #[] }, { accessFlags := 25, nameIndex := 137, descriptorIndex := 25, attributes := #[] }, { accessFlags := 25, nameIndex := 143, descriptorIndex := 25, attributes := #[] }, { accessFlags := 25, nameIndex := 53, descriptorIndex := 25, attributes := #[] }, { accessFlags := 25, nameIndex := 24, descriptorIndex := 25, attributes := #[] }, { accessFlags := 25, nameIndex := 162, descriptorIndex := 25, attributes := #[] }, { accessFlags := 25, nameIndex := 187, descriptorIndex := 25, attributes := #[] }, { accessFlags := 26, nameIndex := 48, descriptorIndex := 25, attributes := #[] }, { accessFlags := 25, nameIndex := 277, descriptorIndex := 25, attributes := #[] }, { accessFlags := 25, nameIndex := 280, descriptorIndex := 25, attributes := #[] }, { accessFlags := 25, nameIndex := 282, descriptorIndex := 25, attributes := #[] }, { accessFlags := 25, nameIndex := 284, descriptorIndex := 25, attributes := #[] }, { accessFlags := 25, nameIndex := 286, descriptorIndex := 25, attributes := #[] }, { accessFlags := 25, nameIndex := 288, descriptorIndex := 25, attributes := #[] }, { accessFlags := 25, nameIndex := 290, descriptorIndex := 25, attributes := #[] }, { accessFlags := 25, nameIndex := 292, descriptorIndex := 25, attributes := #[] }, { accessFlags := 26, nameIndex := 108, descriptorIndex := 109, attributes := #[] }, { accessFlags := 25, nameIndex := 294, descriptorIndex := 25, attributes := #[] }])
  fields := #[{ name := "U", type := (.object "jdk/internal/misc/Unsafe"), accessFlags := 24, slot := 0, constantValue := 0 }, { name := "BIG_ENDIAN", type := .boolean, accessFlags := 26, slot := 1, constantValue := 0 }, { name := "LOG2_ARRAY_BOOLEAN_INDEX_SCALE", type := .int, accessFlags := 25, slot := 2, constantValue := 0 }, { name := "LOG2_ARRAY_BYTE_INDEX_SCALE", type := .int, accessFlags := 25, slot := 3, constantValue := 0 }, { name := "LOG2_ARRAY_CHAR_INDEX_SCALE", type := .int, accessFlags := 25, slot := 4, constantValue := 0 }, { name := "LOG2_ARRAY_SHORT_INDEX_SCALE", type := .int, accessFlags := 25, slot := 5, constantValue := 0 }, { name := "LOG2_ARRAY_INT_INDEX_SCALE", type := .int, accessFlags := 25, slot := 6, constantValue := 0 }, { name := "LOG2_ARRAY_LONG_INDEX_SCALE", type := .int, accessFlags := 25, slot := 7, constantValue := 0 }, { name := "LOG2_ARRAY_FLOAT_INDEX_SCALE", type := .int, accessFlags := 25, slot := 8, constantValue := 0 }, { name := "LOG2_ARRAY_DOUBLE_INDEX_SCALE", type := .int, accessFlags := 25, slot := 9, constantValue := 0 }, { name := "LOG2_BYTE_BIT_SIZE", type := .int, accessFlags := 26, slot := 10, constantValue := 0 }, { name := "T_BOOLEAN", type := .int, accessFlags := 25, slot := 11, constantValue := 0 }, { name := "T_CHAR", type := .int, accessFlags := 25, slot := 12, constantValue := 0 }, { name := "T_FLOAT", type := .int, accessFlags := 25, slot := 13, constantValue := 0 }, { name := "T_DOUBLE", type := .int, accessFlags := 25, slot := 14, constantValue := 0 }, { name := "T_BYTE", type := .int, accessFlags := 25, slot := 15, constantValue := 0 }, { name := "T_SHORT", type := .int, accessFlags := 25, slot := 16, constantValue := 0 }, { name := "T_INT", type := .int, accessFlags := 25, slot := 17, constantValue := 0 }, { name := "T_LONG", type := .int, accessFlags := 25, slot := 18, constantValue := 0 }, { name := "JLA", type := (.object "jdk/internal/access/JavaLangAccess"), accessFlags := 26, slot := 19, constantValue := 0 }, { name := "SOFT_MAX_ARRAY_LENGTH", type := .int, accessFlags := 25, slot := 20, constantValue := 0 }]
  methods := #[k12m0]
  instanceTypes := #[]
  staticTypes := #[(.object "jdk/internal/misc/Unsafe"), .boolean, .int, .int, .int, .int, .int, .int, .int, .int, .int, .int, .int, .int, .int, .int, .int, .int, .int, (.object "jdk/internal/access/JavaLangAccess"), .int]
  resolved := Array.replicate 378 none
  statics := none }

def pool13 : Array CpInfo := pool [(1, u "java/lang/Cloneable"), (0, .class_ 1), (0, u "java/lang/Object"), (0, .class_ 3)] 3

/-- java/lang/Cloneable -/
def k13 : Class := { plain "java/lang/Cloneable" (some 0) with
  accessFlags := 1537
  interfaces := #[]
  cf := some (fileOf pool13 2 #[] #[] 1537 4 #[] #[])
  fields := #[]
  methods := #[]
  instanceTypes := #[]
  staticTypes := #[]
  resolved := Array.replicate 8 none
  statics := none }

/-- the primitive byte -/
def k14 : Class := { plain "byte" none with kind := .primitive 'B', accessFlags := 0x411 }
/-- [B -/
def k15 : Class := { plain "[B" (some 0) with kind := .array 14 .byte, interfaces := #[13, 3], accessFlags := 1041 }

/-- the primitive char -/
def k16 : Class := { plain "char" none with kind := .primitive 'C', accessFlags := 0x411 }
/-- [C -/
def k17 : Class := { plain "[C" (some 0) with kind := .array 16 .char, interfaces := #[13, 3], accessFlags := 1041 }

/-- the primitive int -/
def k18 : Class := { plain "int" none with kind := .primitive 'I', accessFlags := 0x411 }
/-- [I -/
def k19 : Class := { plain "[I" (some 0) with kind := .array 18 .int, interfaces := #[13, 3], accessFlags := 1041 }

def heap : Heap := #[{ cls := 8, slots := #[.long 0, .int 1, .null, .int 0, .null, .int 0, .int 0], vm := .statics 8 },
  { cls := 11, slots := #[.null, .null, .null], vm := .statics 11 }]
def classes : Array Class := #[k0, k1, k2, k3, k4, k5, k6, k7, k8, k9, k10, k11, k12, k13, k14, k15, k16, k17, k18, k19]
def interned : List (Array UInt16 × Addr) := []
def slotsUsed : Nat := 10
def theMethod : MethodId := ⟨1, 1⟩
def args0 : Array Value := #[.int 65, .int 3, .int 4, .int 5, .int 2, .int 66]
def aboutOver (below : List Frame) : State where
  vm := { classes := classes, interned := interned.toArray }
  heap := heap
  slotsUsed := slotsUsed
  threads := #[{ frames := .invoking theMethod args0 :: below }]
def below0 : List Frame := [.native { method := ⟨0, 0⟩, args := #[] }]
def about1 : State := aboutOver below0
def p0 : Program := .bare "" "" ""
def e0 : Env := launch0.env 0 0 0
theorem w_frames : about1.frames = Frame.invoking theMethod args0 :: below0 := rfl
set_option maxRecDepth 65536 in
theorem w_args : argsFit about1.vm theMethod args0 = true := by decide +kernel
set_option maxRecDepth 65536 in
theorem w_heap : heapFits about1 = true := by decide +kernel
set_option maxRecDepth 65536 in
theorem w_runnable : about1.curStatus? = some .runnable := by decide +kernel
set_option maxRecDepth 65536 in
theorem w_alone : about1.alone = true := by decide +kernel
set_option maxRecDepth 65536 in
theorem w_named : about1.methodNamed? x = some theMethod := by decide +kernel
set_option maxRecDepth 65536 in
theorem w_hears : about1.hears theMethod below0 = true := by decide +kernel
set_option maxRecDepth 65536 in
theorem w_ripe : about1.ripe theMethod args0 below0 = true := by decide +kernel
theorem w_running : about1.status = .running := rfl
set_option maxRecDepth 65536 in
theorem w_room : about1.hasRoom e0.platform room_1 = true :=
  launch0.hasRoom_least _ room_1 (by decide +kernel) (by decide +kernel) (by decide +kernel) (by decide +kernel) (by decide +kernel) (by decide +kernel)
theorem allAtoms_all (ts : List Jvm.Cond) (a : Array Jvm.Value) (st : Jvm.State) : (allAtoms ts).before a st = ts.all (fun c => c.before a st) := by
  induction ts with
  | nil => rfl
  | cons c t ih =>
    show (Jvm.Cond.and c (allAtoms t)).before a st = _
    rw [Jvm.Cond.before_and, ih, List.all_cons]
def words1 : List Jvm.Cond := Jvm.Cond.code x code maxLocals ret :: tables_1
/-- a 'code' word, met by the world's own term for the bytes: nothing is compared byte by byte -/
theorem code_word {y : MethodName} {bytes : ByteArray} {mx : Nat} {rt : Option FieldType} {a : Array Value} {s : State} {m : MethodId} {meth : Method} {c : Code} (h1 : s.methodNamed? y = some m) (h2 : s.vm.method? m = some meth) (h3 : meth.code = some c) (h4 : c.code = bytes)
    (h5 : (c.maxLocals == mx && c.exceptionTable.isEmpty && decide (c.maxStack ≤ mostOperands) && decide (meth.sig.returnType = rt) && !meth.locks && decide (parseMethodDescriptor y.desc = some meth.sig)) = true) : (Jvm.Cond.code y bytes mx rt).before a s = true := by
  simp only [Bool.and_eq_true, beq_iff_eq, Bool.not_eq_true', decide_eq_true_eq] at h5
  obtain ⟨⟨⟨⟨⟨g1, g2⟩, g3⟩, g4⟩, g5⟩, g6⟩ := h5
  simp [Cond.before, Cond.holds, Cond.value, h1, h2, h3, h4, g1, g2, g3, g4, g5, g6]
def isCode : Jvm.Cond → Bool
  | .code _ _ _ _ => true
  | _ => false
theorem all_split {L : List Jvm.Cond} {P : Jvm.Cond → Bool} (h1 : L.all (fun c => isCode c || P c) = true) (h2 : ∀ c ∈ L.filter isCode, P c = true) : L.all P = true := by
  refine List.all_eq_true.mpr fun c hc => ?_
  have h := List.all_eq_true.mp h1 c hc
  rcases Bool.eq_false_or_eq_true (isCode c) with hi | hi
  · exact h2 c (List.mem_filter.mpr ⟨hc, hi⟩)
  · simpa [hi] using h
set_option maxRecDepth 65536 in
theorem w_c0 : (Jvm.Cond.code x code maxLocals ret).before args0 about1 = true := code_word (m := ⟨1, 1⟩) (meth := k1m1) (c := k1c1) (by decide +kernel) rfl rfl rfl (by decide +kernel)
set_option maxRecDepth 65536 in
theorem w_c1 : (Jvm.Cond.code ({ cls := "java/lang/String", name := "valueOf", desc := "(C)Ljava/lang/String;" } : Jvm.MethodName) jdk_42_method_139_code (1 : Nat) (Option.some (Jvm.ClassFile.FieldType.object "java/lang/String"))).before args0 about1 = true := code_word (m := ⟨8, 3⟩) (meth := k8m3) (c := k8c3) (by decide +kernel) rfl rfl rfl (by decide +kernel)
set_option maxRecDepth 65536 in
theorem w_c2 : (Jvm.Cond.code ({ cls := "java/lang/StringLatin1", name := "canEncode", desc := "(C)Z" } : Jvm.MethodName) jdk_43_method_3_code (1 : Nat) (Option.some Jvm.ClassFile.FieldType.boolean)).before args0 about1 = true := code_word (m := ⟨9, 1⟩) (meth := k9m1) (c := k9c1) (by decide +kernel) rfl rfl rfl (by decide +kernel)
set_option maxRecDepth 65536 in
theorem w_c3 : (Jvm.Cond.code ({ cls := "java/lang/StringLatin1", name := "toBytes", desc := "(C)[B" } : Jvm.MethodName) jdk_43_method_46_code (1 : Nat) (Option.some (Jvm.ClassFile.FieldType.array Jvm.ClassFile.FieldType.byte))).before args0 about1 = true := code_word (m := ⟨9, 3⟩) (meth := k9m3) (c := k9c3) (by decide +kernel) rfl rfl rfl (by decide +kernel)
set_option maxRecDepth 65536 in
theorem w_c4 : (Jvm.Cond.code ({ cls := "java/lang/String", name := "<init>", desc := "([BB)V" } : Jvm.MethodName) jdk_42_method_151_code (3 : Nat) (Option.none : Option Jvm.ClassFile.FieldType)).before args0 about1 = true := code_word (m := ⟨8, 5⟩) (meth := k8m5) (c := k8c5) (by decide +kernel) rfl rfl rfl (by decide +kernel)
set_option maxRecDepth 65536 in
theorem w_c5 : (Jvm.Cond.code ({ cls := "java/lang/Object", name := "<init>", desc := "()V" } : Jvm.MethodName) object_method_1_code (1 : Nat) (Option.none : Option Jvm.ClassFile.FieldType)).before args0 about1 = true := code_word (m := ⟨0, 0⟩) (meth := k0m0) (c := k0c0) (by decide +kernel) rfl rfl rfl (by decide +kernel)
set_option maxRecDepth 65536 in
theorem w_c6 : (Jvm.Cond.code ({ cls := "com/example/line_to_seat/linetoseat/store/SectionSeats", name := "<init>", desc := "(Ljava/lang/String;Ljava/lang/String;Ljava/lang/String;III)V" } : Jvm.MethodName) prog_41_method_1_code (7 : Nat) (Option.none : Option Jvm.ClassFile.FieldType)).before args0 about1 = true := code_word (m := ⟨2, 0⟩) (meth := k2m0) (c := k2c0) (by decide +kernel) rfl rfl rfl (by decide +kernel)
set_option maxRecDepth 65536 in
theorem w_c7 : (Jvm.Cond.code ({ cls := "java/lang/String", name := "<init>", desc := "([C)V" } : Jvm.MethodName) jdk_42_method_3_code (2 : Nat) (Option.none : Option Jvm.ClassFile.FieldType)).before args0 about1 = true := code_word (m := ⟨8, 1⟩) (meth := k8m1) (c := k8c1) (by decide +kernel) rfl rfl rfl (by decide +kernel)
set_option maxRecDepth 65536 in
theorem w_c8 : (Jvm.Cond.code ({ cls := "java/lang/String", name := "<init>", desc := "([CIILjava/lang/Void;)V" } : Jvm.MethodName) jdk_42_method_149_code (6 : Nat) (Option.none : Option Jvm.ClassFile.FieldType)).before args0 about1 = true := code_word (m := ⟨8, 4⟩) (meth := k8m4) (c := k8c4) (by decide +kernel) rfl rfl rfl (by decide +kernel)
set_option maxRecDepth 65536 in
theorem w_c9 : (Jvm.Cond.code ({ cls := "java/lang/StringUTF16", name := "compress", desc := "([CII)[B" } : Jvm.MethodName) jdk_52_method_16_code (6 : Nat) (Option.some (Jvm.ClassFile.FieldType.array Jvm.ClassFile.FieldType.byte))).before args0 about1 = true := code_word (m := ⟨10, 2⟩) (meth := k10m2) (c := k10c2) (by decide +kernel) rfl rfl rfl (by decide +kernel)
set_option maxRecDepth 65536 in
theorem w_c10 : (Jvm.Cond.code ({ cls := "java/lang/StringUTF16", name := "compress", desc := "([CI[BII)I" } : Jvm.MethodName) jdk_52_method_21_code (7 : Nat) (Option.some Jvm.ClassFile.FieldType.int)).before args0 about1 = true := code_word (m := ⟨10, 3⟩) (meth := k10m3) (c := k10c3) (by decide +kernel) rfl rfl rfl (by decide +kernel)
set_option maxRecDepth 65536 in
theorem w_c11 : (Jvm.Cond.code ({ cls := "java/lang/StringUTF16", name := "coderFromArrayLen", desc := "([BI)B" } : Jvm.MethodName) jdk_52_method_15_code (2 : Nat) (Option.some Jvm.ClassFile.FieldType.byte)).before args0 about1 = true := code_word (m := ⟨10, 1⟩) (meth := k10m1) (c := k10c1) (by decide +kernel) rfl rfl rfl (by decide +kernel)
set_option maxRecDepth 65536 in
theorem w_c12 : (Jvm.Cond.code ({ cls := "com/example/line_to_seat/linetoseat/store/SectionSeats", name := "equals", desc := "(Ljava/lang/Object;)Z" } : Jvm.MethodName) prog_41_method_9_code (3 : Nat) (Option.some Jvm.ClassFile.FieldType.boolean)).before args0 about1 = true := code_word (m := ⟨2, 1⟩) (meth := k2m1) (c := k2c1) (by decide +kernel) rfl rfl rfl (by decide +kernel)
set_option maxRecDepth 65536 in
theorem w_c13 : (Jvm.Cond.code ({ cls := "java/lang/String", name := "equals", desc := "(Ljava/lang/Object;)Z" } : Jvm.MethodName) jdk_42_method_66_code (3 : Nat) (Option.some Jvm.ClassFile.FieldType.boolean)).before args0 about1 = true := code_word (m := ⟨8, 2⟩) (meth := k8m2) (c := k8c2) (by decide +kernel) rfl rfl rfl (by decide +kernel)
set_option maxRecDepth 65536 in
theorem w_c14 : (Jvm.Cond.code ({ cls := "java/lang/StringLatin1", name := "equals", desc := "([B[B)Z" } : Jvm.MethodName) jdk_43_method_13_code (3 : Nat) (Option.some Jvm.ClassFile.FieldType.boolean)).before args0 about1 = true := code_word (m := ⟨9, 2⟩) (meth := k9m2) (c := k9c2) (by decide +kernel) rfl rfl rfl (by decide +kernel)
def codes1 : List Jvm.Cond := [Jvm.Cond.code x code maxLocals ret, Jvm.Cond.code ({ cls := "java/lang/String", name := "valueOf", desc := "(C)Ljava/lang/String;" } : Jvm.MethodName) jdk_42_method_139_code (1 : Nat) (Option.some (Jvm.ClassFile.FieldType.object "java/lang/String")), Jvm.Cond.code ({ cls := "java/lang/StringLatin1", name := "canEncode", desc := "(C)Z" } : Jvm.MethodName) jdk_43_method_3_code (1 : Nat) (Option.some Jvm.ClassFile.FieldType.boolean), Jvm.Cond.code ({ cls := "java/lang/StringLatin1", name := "toBytes", desc := "(C)[B" } : Jvm.MethodName) jdk_43_method_46_code (1 : Nat) (Option.some (Jvm.ClassFile.FieldType.array Jvm.ClassFile.FieldType.byte)), Jvm.Cond.code ({ cls := "java/lang/String", name := "<init>", desc := "([BB)V" } : Jvm.MethodName) jdk_42_method_151_code (3 : Nat) (Option.none : Option Jvm.ClassFile.FieldType), Jvm.Cond.code ({ cls := "java/lang/Object", name := "<init>", desc := "()V" } : Jvm.MethodName) object_method_1_code (1 : Nat) (Option.none : Option Jvm.ClassFile.FieldType), Jvm.Cond.code ({ cls := "com/example/line_to_seat/linetoseat/store/SectionSeats", name := "<init>", desc := "(Ljava/lang/String;Ljava/lang/String;Ljava/lang/String;III)V" } : Jvm.MethodName) prog_41_method_1_code (7 : Nat) (Option.none : Option Jvm.ClassFile.FieldType), Jvm.Cond.code ({ cls := "java/lang/String", name := "<init>", desc := "([C)V" } : Jvm.MethodName) jdk_42_method_3_code (2 : Nat) (Option.none : Option Jvm.ClassFile.FieldType), Jvm.Cond.code ({ cls := "java/lang/String", name := "<init>", desc := "([CIILjava/lang/Void;)V" } : Jvm.MethodName) jdk_42_method_149_code (6 : Nat) (Option.none : Option Jvm.ClassFile.FieldType), Jvm.Cond.code ({ cls := "java/lang/StringUTF16", name := "compress", desc := "([CII)[B" } : Jvm.MethodName) jdk_52_method_16_code (6 : Nat) (Option.some (Jvm.ClassFile.FieldType.array Jvm.ClassFile.FieldType.byte)), Jvm.Cond.code ({ cls := "java/lang/StringUTF16", name := "compress", desc := "([CI[BII)I" } : Jvm.MethodName) jdk_52_method_21_code (7 : Nat) (Option.some Jvm.ClassFile.FieldType.int), Jvm.Cond.code ({ cls := "java/lang/StringUTF16", name := "coderFromArrayLen", desc := "([BI)B" } : Jvm.MethodName) jdk_52_method_15_code (2 : Nat) (Option.some Jvm.ClassFile.FieldType.byte), Jvm.Cond.code ({ cls := "com/example/line_to_seat/linetoseat/store/SectionSeats", name := "equals", desc := "(Ljava/lang/Object;)Z" } : Jvm.MethodName) prog_41_method_9_code (3 : Nat) (Option.some Jvm.ClassFile.FieldType.boolean), Jvm.Cond.code ({ cls := "java/lang/String", name := "equals", desc := "(Ljava/lang/Object;)Z" } : Jvm.MethodName) jdk_42_method_66_code (3 : Nat) (Option.some Jvm.ClassFile.FieldType.boolean), Jvm.Cond.code ({ cls := "java/lang/StringLatin1", name := "equals", desc := "([B[B)Z" } : Jvm.MethodName) jdk_43_method_13_code (3 : Nat) (Option.some Jvm.ClassFile.FieldType.boolean)]
set_option maxRecDepth 65536 in
theorem codes_eq : words1.filter isCode = codes1 := rfl
theorem w_codes : ∀ c ∈ words1.filter isCode, c.before args0 about1 = true := by
  rw [codes_eq]
  intro c hc
  simp only [codes1, List.mem_cons, List.not_mem_nil, or_false] at hc
  rcases hc with rfl | rfl | rfl | rfl | rfl | rfl | rfl | rfl | rfl | rfl | rfl | rfl | rfl | rfl | rfl
  · exact w_c0
  · exact w_c1
  · exact w_c2
  · exact w_c3
  · exact w_c4
  · exact w_c5
  · exact w_c6
  · exact w_c7
  · exact w_c8
  · exact w_c9
  · exact w_c10
  · exact w_c11
  · exact w_c12
  · exact w_c13
  · exact w_c14
set_option maxRecDepth 65536 in
theorem w_t1 : (words1.take 24).all (fun c => isCode c || c.before args0 about1) = true := by decide +kernel
set_option maxRecDepth 65536 in
theorem w_t2 : ((words1.drop 24).take 24).all (fun c => isCode c || c.before args0 about1) = true := by decide +kernel
set_option maxRecDepth 65536 in
theorem w_t3 : (((words1.drop 24).drop 24).take 24).all (fun c => isCode c || c.before args0 about1) = true := by decide +kernel
set_option maxRecDepth 65536 in
theorem w_t4 : (((words1.drop 24).drop 24).drop 24).all (fun c => isCode c || c.before args0 about1) = true := by decide +kernel
theorem w_tables : (allAtoms (Jvm.Cond.code x code maxLocals ret :: tables_1)).before args0 about1 = true := by
  rw [allAtoms_all]
  show words1.all (fun c => c.before args0 about1) = true
  refine all_split ?_ w_codes
  rw [← List.take_append_drop 24 words1, List.all_append, w_t1, ← List.take_append_drop 24 (words1.drop 24), List.all_append, w_t2, ← List.take_append_drop 24 ((words1.drop 24).drop 24), List.all_append, w_t3, w_t4]
  rfl
set_option maxRecDepth 65536 in
theorem w_rest : rest_1_c.before args0 about1 = true := by decide +kernel
set_option maxRecDepth 65536 in
theorem w_case : (Jvm.Cond.and given_1 narrow_1).before args0 about1 = true := by decide +kernel
theorem w_applies : (headSpec (Jvm.Cond.code x code maxLocals ret :: tables_1) room_1).applies x e0.platform about1 = true :=
  (Spec.applies_iff w_frames).mpr ⟨w_running, w_runnable, w_alone, w_named, w_hears, w_ripe, w_room, w_tables⟩
theorem atStart : AtStart classFile x code maxLocals ret World_1 tables_1 room_1 Calls_1 rest_1 Pre_1 launch0 p0 e0 about1 theMethod args0 below0 :=
  ⟨lists_1, trivial, launch0.admits_env _ _ _, launch0.least_env, fairChoices_fair.cas, fairChoices_fair.clock, w_frames, w_args, w_heap, w_applies, trivial, w_rest, w_case⟩
end start1
theorem witness_1 : WitnessClaimed_1 := ⟨start1.p0, start1.e0, start1.about1, start1.theMethod, start1.args0, start1.below0, start1.atStart⟩
end Jvm.Pilot.@@N@@
