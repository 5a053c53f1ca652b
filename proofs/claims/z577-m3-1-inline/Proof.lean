import JvmDerived
import JvmDerived.Pilot.@@N@@Statement
import JvmDerived.Pilot.@@N@@Code
set_option linter.unusedVariables false
set_option linter.unusedSimpArgs false
/- laws to paste: Road.backV (cut by pick.py; bodies as the Statement names them) -/
namespace Jvm.Pilot.@@N@@
namespace StrChars
open Jvm Sem ClassFile Op Lib Jvm.Stand Jvm.Free.XT Jvm.Free.ALB Jvm.Free.JM Jvm.Free
open Jvm.Lib.Cold (StaticIs)
/-- a char array whose places are chars -/
def Ch (a : Addr) (A : Cell) (U : State) : Prop := Arr .char a A U ∧ Typed .char A
theorem Ch.mv {a : Addr} {A : Cell} {U U' : State} (h : Ch a A U) (hal : U.vm.Alike U'.vm) (hh : U'.heap = U.heap) : Ch a A U' := ⟨h.1.mv hal hh, h.2⟩
theorem Ch.keep {a : Addr} {A : Cell} {U U' : State} (h : Ch a A U) (hal : U.vm.Alike U'.vm) (hk : U'.heap[a]? = some A) : Ch a A U' := ⟨h.1.keep hal hk, h.2⟩
/-- what place i of a char[]'s cell holds -/
def cv (A : Cell) (i : Nat) : Int32 := match A.slots[i]? with | some (.int x) => x | _ => 0
theorem Ch.get {a : Addr} {A : Cell} {U : State} (h : Ch a A U) {i : Nat} (hi : i < A.slots.size) : A.slots[i]? = some (.int (cv A i)) := by
  have e := Array.getElem?_eq_getElem hi
  have f := h.2 i _ e
  unfold cv; rw [e]
  generalize A.slots[i] = v at f
  cases v <;> simp [fits] at f ⊢
/-- the byte that i2b leaves of a char -/
def lo8 (x : Int32) : Int32 := x.toInt8.toInt32
theorem fits_lo8 (y : Int32) : fits .byte (.int (lo8 y)) = true := by
  have h1 := y.toInt8.le_toInt
  have h2 := y.toInt8.toInt_lt
  simp only [lo8, fits, Bool.and_eq_true, decide_eq_true_eq, Int32.le_iff_toInt_le, Int8.toInt_toInt32, show (-128 : Int32).toInt = -128 from by decide, show (127 : Int32).toInt = 127 from by decide]
  omega
/-- A' is A but that each place j of lo .. hi - 1 holds f j -/
def Laid (A A' : Cell) (lo hi : Nat) (f : Nat → Value) : Prop := A'.cls = A.cls ∧ A'.vm = A.vm ∧ A'.slots.size = A.slots.size ∧ ∀ i, A'.slots[i]? = if lo ≤ i ∧ i < hi then some (f i) else A.slots[i]?
theorem Laid.zero (A : Cell) (lo : Nat) (f : Nat → Value) : Laid A A lo (lo + 0) f := ⟨rfl, rfl, rfl, fun i => by rw [if_neg (by omega)]⟩
theorem Laid.step {A Ak : Cell} {lo k : Nat} {f : Nat → Value} {v : Value} (h : Laid A Ak lo k f) (hlo : lo ≤ k) (hk : k < Ak.slots.size) (hv : v = f k) : Laid A (Ak.setSlot k v) lo (k + 1) f := by
  refine ⟨h.1, h.2.1, by simpa [Cell.setSlot] using h.2.2.1, fun i => ?_⟩
  by_cases e : k = i
  · subst e; rw [Cell.slots_setSlot_self v hk, if_pos (by omega), hv]
  · rw [Cell.slots_setSlot_ne v e, h.2.2.2 i]
    by_cases q : lo ≤ i ∧ i < k
    · rw [if_pos q, if_pos (by omega)]
    · rw [if_neg q, if_neg (by omega)]
def U16 : String := "java/lang/StringUTF16"
namespace Cmp5
def yN : MethodName := ⟨"java/lang/StringUTF16", "compress", "([CI[BII)I"⟩
abbrev yB : ByteArray := jdk_52_method_21_code
theorem d0 : decode yB 0 = .ok (.iconst 0, 1) := by decide +kernel
theorem d1 : decode yB 1 = .ok (.istore 5, 2) := by decide +kernel
theorem d3 : decode yB 3 = .ok (.iload 5, 2) := by decide +kernel
theorem d5 : decode yB 5 = .ok (.iload 4, 2) := by decide +kernel
theorem d7 : decode yB 7 = .ok (.if_icmp (.ge) 37, 3) := by decide +kernel
theorem d10 : decode yB 10 = .ok (.aload_n 0, 1) := by decide +kernel
theorem d11 : decode yB 11 = .ok (.iload_n 1, 1) := by decide +kernel
theorem d12 : decode yB 12 = .ok (.caload, 1) := by decide +kernel
theorem d13 : decode yB 13 = .ok (.istore 6, 2) := by decide +kernel
theorem d15 : decode yB 15 = .ok (.iload 6, 2) := by decide +kernel
theorem d17 : decode yB 17 = .ok (.sipush 255, 3) := by decide +kernel
theorem d20 : decode yB 20 = .ok (.if_icmp (.le) 6, 3) := by decide +kernel
theorem d26 : decode yB 26 = .ok (.aload_n 2, 1) := by decide +kernel
theorem d27 : decode yB 27 = .ok (.iload_n 3, 1) := by decide +kernel
theorem d28 : decode yB 28 = .ok (.iload 6, 2) := by decide +kernel
theorem d30 : decode yB 30 = .ok (.i2b, 1) := by decide +kernel
theorem d31 : decode yB 31 = .ok (.bastore, 1) := by decide +kernel
theorem d32 : decode yB 32 = .ok (.iinc 1 1, 3) := by decide +kernel
theorem d35 : decode yB 35 = .ok (.iinc 3 1, 3) := by decide +kernel
theorem d38 : decode yB 38 = .ok (.iinc 5 1, 3) := by decide +kernel
theorem d41 : decode yB 41 = .ok (.goto (-38), 3) := by decide +kernel
theorem d44 : decode yB 44 = .ok (.iload 4, 2) := by decide +kernel
theorem d46 : decode yB 46 = .ok (.ireturn, 1) := by decide +kernel
def site : List Cond := []
def tab : Cond := tabOf yN yB 7 (some .int) site
def P (b : Addr) (A : Cell) (d : Addr) (B : Cell) (o q len : Nat) (args : Array Value) (s : State) : Prop := args = #[.ref b, .int (Int32.ofNat o), .ref d, .int (Int32.ofNat q), .int (Int32.ofNat len)] ∧ Ch b A s ∧ Arr .byte d B s ∧ b ≠ d ∧ o + len ≤ A.slots.size ∧ q + len ≤ B.slots.size ∧ ∀ i, i < len → ¬ 255 < cv A (o + i)
def E (b : Addr) (A : Cell) (d : Addr) (B : Cell) (o q len : Nat) (r : Option Value) (s u : State) : Prop := r = some (.int (Int32.ofNat len)) ∧ ∃ B', Put d B' s u ∧ Laid B B' q (q + len) (fun j => Value.int (lo8 (cv A (o + (j - q)))))
/-- no char of the range above 255: len; the places written hold each char's low byte -/
theorem law (l : Launch) (b : Addr) (A : Cell) (d : Addr) (B : Cell) (o q len : Nat) : Law l yN 5 5 0 0 yB 7 (some .int) site (P b A d B o q len) (E b A d B o q len) (copyLocs d q len) 0 0 := by
  refine Law.of_walk (plainFor_of_name (by decide +kernel)) (by decide +kernel) (by decide +kernel) (by decide) (fun _ _ h => by rw [h.1]; rfl) (fun _ U U' hal hh h => ⟨h.1, h.2.1.mv hal hh, h.2.2.1.mv hal hh, h.2.2.2⟩) (fun r U U' V V' h1 hal h2 h => ⟨h.1, h.2.elim fun B' q => ⟨B', q.1.mv h1 h2, q.2⟩⟩) ?_
  intro p e s m args below meth c s₁ X0 hexec hbytes hml hret hlk hnm hown hh0 W hP
  obtain ⟨rfl, hA, hB, hne, l1, l2, hp⟩ := hP
  have c1 : Steps p.tables e below (s₁.setTop (entryFrame m #[.ref b, .int (Int32.ofNat o), .ref d, .int (Int32.ofNat q), .int (Int32.ofNat len)] 7)) (s₁.setTop (mkF m 0 #[.val (.ref b), .val (.int (Int32.ofNat o)), .val (.ref d), .val (.int (Int32.ofNat q)), .val (.int (Int32.ofNat len)), .unset, .unset] [])) := entry rfl
  have hA0 := hA.1.mv X0.warmed.alike hh0
  have hB0 := hB.mv X0.warmed.alike hh0
  have a31 := hA.1.2.2.2
  have c2 : Steps p.tables e below (s₁.setTop (entryFrame m #[.ref b, .int (Int32.ofNat o), .ref d, .int (Int32.ofNat q), .int (Int32.ofNat len)] 7)) (s₁.setTop (mkF m 3 #[.val (.ref b), .val (.int (Int32.ofNat o)), .val (.ref d), .val (.int (Int32.ofNat q)), .val (.int (Int32.ofNat len)), .val (.int 0), .unset] [])) := c1.trans (by
    refine iconstV X0.here hexec rfl 0 (hb hbytes d0) (by decide) ?_
    refine XS.istore X0.here hexec rfl (hb hbytes d1) rfl rfl ?_
    exact Steps.refl _)
  have loop : ∀ (r i : Nat), i + r = len → ∀ (z : Slot), (z = .unset ∨ ∃ w, z = .val w ∧ w.category = 1) → ∀ (Tl : State) (Bk : Cell), Stand p l e { frames := 0, locals := 0, cells := 0, slots := 0 } s m #[.ref b, .int (Int32.ofNat o), .ref d, .int (Int32.ofNat q), .int (Int32.ofNat len)] below meth c Tl ([] ++ copyLocs d q i) 0 0 → Put d Bk s₁ Tl → Laid B Bk q (q + i) (fun j => Value.int (lo8 (cv A (o + (j - q))))) →
      Steps p.tables e below (s₁.setTop (entryFrame m #[.ref b, .int (Int32.ofNat o), .ref d, .int (Int32.ofNat q), .int (Int32.ofNat len)] 7)) (Tl.setTop (mkF m 3 #[.val (.ref b), .val (.int (Int32.ofNat (o + i))), .val (.ref d), .val (.int (Int32.ofNat (q + i))), .val (.int (Int32.ofNat len)), .val (.int (Int32.ofNat i)), z] [])) → ∃ (T' : State) (B' : Cell) (z' : Slot), Stand p l e { frames := 0, locals := 0, cells := 0, slots := 0 } s m #[.ref b, .int (Int32.ofNat o), .ref d, .int (Int32.ofNat q), .int (Int32.ofNat len)] below meth c T' ([] ++ copyLocs d q len) 0 0 ∧ Put d B' s₁ T' ∧ Laid B B' q (q + len) (fun j => Value.int (lo8 (cv A (o + (j - q))))) ∧
      Steps p.tables e below (s₁.setTop (entryFrame m #[.ref b, .int (Int32.ofNat o), .ref d, .int (Int32.ofNat q), .int (Int32.ofNat len)] 7)) (T'.setTop (mkF m 3 #[.val (.ref b), .val (.int (Int32.ofNat (o + len))), .val (.ref d), .val (.int (Int32.ofNat (q + len))), .val (.int (Int32.ofNat len)), .val (.int (Int32.ofNat len)), z'] [])) := by
    intro r
    induction r with
    | zero =>
      intro i hi z hz Tl Bk Xl pl fl cl
      have hil : i = len := by omega
      rw [hil] at Xl fl cl
      exact ⟨Tl, Bk, z, Xl, pl, fl, cl⟩
    | succ r ih =>
      intro i hi z hz Tl Bk Xl pl fl cl
      have all := X0.warmed.alike.symm.trans Xl.warmed.alike
      have hAl := hA0.keep all (pl.other hne hA0.1)
      have hBk := hB0.like all pl.1 fl.1 fl.2.1 fl.2.2.1
      have hlt : q + i < Bk.slots.size := by rw [fl.2.2.1]; omega
      have c3 : Steps p.tables e below (s₁.setTop (entryFrame m #[.ref b, .int (Int32.ofNat o), .ref d, .int (Int32.ofNat q), .int (Int32.ofNat len)] 7)) (Tl.setTop (mkF m 12 #[.val (.ref b), .val (.int (Int32.ofNat (o + i))), .val (.ref d), .val (.int (Int32.ofNat (q + i))), .val (.int (Int32.ofNat len)), .val (.int (Int32.ofNat i)), z] [.int (Int32.ofNat (o + i)), .ref b])) := cl.trans (by
        refine XS.iload Xl.here hexec rfl (hb hbytes d3) rfl ?_
        refine XS.iload Xl.here hexec rfl (hb hbytes d5) rfl ?_
        refine XS.icmpNo Xl.here hexec rfl (hb hbytes d7) rfl (ii_ge_f (lt32 (by omega) (by omega))) ?_
        refine XS.aloadN Xl.here hexec rfl (hb hbytes d10) rfl rfl ?_
        refine XS.iloadN Xl.here hexec rfl (hb hbytes d11) rfl ?_
        exact Steps.refl _)
      have c4 : Steps p.tables e below (s₁.setTop (entryFrame m #[.ref b, .int (Int32.ofNat o), .ref d, .int (Int32.ofNat q), .int (Int32.ofNat len)] 7)) (Tl.setTop (mkF m 13 #[.val (.ref b), .val (.int (Int32.ofNat (o + i))), .val (.ref d), .val (.int (Int32.ofNat (q + i))), .val (.int (Int32.ofNat len)), .val (.int (Int32.ofNat i)), z] [.int (cv A (o + i))])) := c3.trans (by
        refine Xl.aget hexec hAl rfl (hA.get (i := o + i) (by omega)) rfl rfl (hb hbytes d12) ?_
        exact Steps.refl _)
      have c5 : Steps p.tables e below (s₁.setTop (entryFrame m #[.ref b, .int (Int32.ofNat o), .ref d, .int (Int32.ofNat q), .int (Int32.ofNat len)] 7)) (Tl.setTop (mkF m 15 #[.val (.ref b), .val (.int (Int32.ofNat (o + i))), .val (.ref d), .val (.int (Int32.ofNat (q + i))), .val (.int (Int32.ofNat len)), .val (.int (Int32.ofNat i)), .val (.int (cv A (o + i)))] [])) := c4.trans (by
        refine XS.istoreS Xl.here hexec rfl (hb hbytes d13) rfl rfl hz ?_
        exact Steps.refl _)
      have c6 : Steps p.tables e below (s₁.setTop (entryFrame m #[.ref b, .int (Int32.ofNat o), .ref d, .int (Int32.ofNat q), .int (Int32.ofNat len)] 7)) (Tl.setTop (mkF m 31 #[.val (.ref b), .val (.int (Int32.ofNat (o + i))), .val (.ref d), .val (.int (Int32.ofNat (q + i))), .val (.int (Int32.ofNat len)), .val (.int (Int32.ofNat i)), .val (.int (cv A (o + i)))] [.int (lo8 (cv A (o + i))), .int (Int32.ofNat (q + i)), .ref d])) := c5.trans (by
        refine XS.iload Xl.here hexec rfl (hb hbytes d15) rfl ?_
        refine sipushV Xl.here hexec rfl 255 (hb hbytes d17) (by decide) ?_
        refine XS.icmpYes Xl.here hexec rfl (pc0 := 20) rfl (hb hbytes d20) rfl (ii_le_t (hp i (by omega))) (by decide) rfl ?_
        refine XS.aloadN Xl.here hexec rfl (hb hbytes d26) rfl rfl ?_
        refine XS.iloadN Xl.here hexec rfl (hb hbytes d27) rfl ?_
        refine XS.iload Xl.here hexec rfl (hb hbytes d28) rfl ?_
        refine i2b Xl.here hexec rfl (hb hbytes d30) rfl ?_
        exact Steps.refl _)
      obtain ⟨T7, X7, p7, st7⟩ := Xl.aput hexec hBk rfl hlt rfl (fits_lo8 (cv A (o + i))) (g := (mkF m 31 #[.val (.ref b), .val (.int (Int32.ofNat (o + i))), .val (.ref d), .val (.int (Int32.ofNat (q + i))), .val (.int (Int32.ofNat len)), .val (.int (Int32.ofNat i)), .val (.int (cv A (o + i)))] [.int (lo8 (cv A (o + i))), .int (Int32.ofNat (q + i)), .ref d])) rfl (rest := []) rfl (hb hbytes d31)
      have c8 : Steps p.tables e below (s₁.setTop (entryFrame m #[.ref b, .int (Int32.ofNat o), .ref d, .int (Int32.ofNat q), .int (Int32.ofNat len)] 7)) (T7.setTop (mkF m 32 #[.val (.ref b), .val (.int (Int32.ofNat (o + i))), .val (.ref d), .val (.int (Int32.ofNat (q + i))), .val (.int (Int32.ofNat len)), .val (.int (Int32.ofNat i)), .val (.int (cv A (o + i)))] [])) := c6.trans (st7 _ (Steps.refl _))
      have c9 : Steps p.tables e below (s₁.setTop (entryFrame m #[.ref b, .int (Int32.ofNat o), .ref d, .int (Int32.ofNat q), .int (Int32.ofNat len)] 7)) (T7.setTop (mkF m 3 #[.val (.ref b), .val (.int (Int32.ofNat (o + i) + 1)), .val (.ref d), .val (.int (Int32.ofNat (q + i) + 1)), .val (.int (Int32.ofNat len)), .val (.int (Int32.ofNat i + 1)), .val (.int (cv A (o + i)))] [])) := c8.trans (by
        refine iincV X7.here hexec rfl 1 (hb hbytes d32) (by decide) rfl rfl ?_
        refine iincV X7.here hexec rfl 1 (hb hbytes d35) (by decide) rfl rfl ?_
        refine iincV X7.here hexec rfl 1 (hb hbytes d38) (by decide) rfl rfl ?_
        refine XS.goto X7.here hexec rfl (pc0 := 41) rfl (hb hbytes d41) (by decide) rfl ?_
        exact Steps.refl _)
      have c10 : Steps p.tables e below (s₁.setTop (entryFrame m #[.ref b, .int (Int32.ofNat o), .ref d, .int (Int32.ofNat q), .int (Int32.ofNat len)] 7)) (T7.setTop (mkF m 3 #[.val (.ref b), .val (.int (Int32.ofNat (o + (i + 1)))), .val (.ref d), .val (.int (Int32.ofNat (q + (i + 1)))), .val (.int (Int32.ofNat len)), .val (.int (Int32.ofNat (i + 1))), .val (.int (cv A (o + i)))] [])) := by
        have := c9
        rw [succ32, succ32, succ32] at this
        exact this
      exact ih (i + 1) (by omega) _ (Or.inr ⟨_, rfl, rfl⟩) T7 _ (by rw [copyLocs_step, ← List.append_assoc]; exact X7) (pl.trans p7) (fl.step (by omega) hlt (by simp)) c10
  obtain ⟨T9, B9, z9, X9, p9, f9, g9⟩ := loop len 0 (by omega) .unset (Or.inl rfl) s₁ B (by simpa [copyLocs] using X0) ⟨hB0.1, fun _ _ => rfl, rfl⟩ (Laid.zero _ _ _) c2
  have c11 : Steps p.tables e below (s₁.setTop (entryFrame m #[.ref b, .int (Int32.ofNat o), .ref d, .int (Int32.ofNat q), .int (Int32.ofNat len)] 7)) (T9.setTop (mkF m 46 #[.val (.ref b), .val (.int (Int32.ofNat (o + len))), .val (.ref d), .val (.int (Int32.ofNat (q + len))), .val (.int (Int32.ofNat len)), .val (.int (Int32.ofNat len)), z9] [.int (Int32.ofNat len)])) := g9.trans (by
    refine XS.iload X9.here hexec rfl (hb hbytes d3) rfl ?_
    refine XS.iload X9.here hexec rfl (hb hbytes d5) rfl ?_
    refine XS.icmpYes X9.here hexec rfl (pc0 := 7) rfl (hb hbytes d7) rfl (ii_ge_t (nlt32 (by omega) (Nat.le_refl _))) (by decide) rfl ?_
    refine XS.iload X9.here hexec rfl (hb hbytes d44) rfl ?_
    exact Steps.refl _)
  exact ⟨T9, some (.int (Int32.ofNat len)), _, _, _, X9, by simp, rfl, rfl, (fun h => by cases h), ⟨rfl, B9, p9.from hh0, f9⟩, fun fs hl => c11.trans (X9.ireturnOut hexec hret rfl (Or.inl rfl) (hb hbytes d46) hl)⟩
end Cmp5
namespace Cmp3
def yN : MethodName := ⟨"java/lang/StringUTF16", "compress", "([CII)[B"⟩
abbrev yB : ByteArray := jdk_52_method_16_code
theorem d0 : decode yB 0 = .ok (.iload_n 2, 1) := by decide +kernel
theorem d1 : decode yB 1 = .ok (.newarray .byte, 2) := by decide +kernel
theorem d3 : decode yB 3 = .ok (.astore_n 3, 1) := by decide +kernel
theorem d4 : decode yB 4 = .ok (.aload_n 0, 1) := by decide +kernel
theorem d5 : decode yB 5 = .ok (.iload_n 1, 1) := by decide +kernel
theorem d6 : decode yB 6 = .ok (.aload_n 3, 1) := by decide +kernel
theorem d7 : decode yB 7 = .ok (.iconst 0, 1) := by decide +kernel
theorem d8 : decode yB 8 = .ok (.iload_n 2, 1) := by decide +kernel
theorem d9 : decode yB 9 = .ok (.invokestatic 115, 3) := by decide +kernel
theorem d12 : decode yB 12 = .ok (.istore 4, 2) := by decide +kernel
theorem d14 : decode yB 14 = .ok (.iload 4, 2) := by decide +kernel
theorem d16 : decode yB 16 = .ok (.iload_n 2, 1) := by decide +kernel
theorem d17 : decode yB 17 = .ok (.if_icmp (.eq) 40, 3) := by decide +kernel
theorem d57 : decode yB 57 = .ok (.aload_n 3, 1) := by decide +kernel
theorem d58 : decode yB 58 = .ok (.areturn, 1) := by decide +kernel
def site : List Cond := [.arrayClass .byte, Cmp5.tab] ++ staticW U16 115 Cmp5.yN
def tab : Cond := tabOf yN yB 6 (some (.array .byte)) site
def P (b : Addr) (A : Cell) (o len : Nat) (args : Array Value) (s : State) : Prop := args = #[.ref b, .int (Int32.ofNat o), .int (Int32.ofNat len)] ∧ Ch b A s ∧ o + len ≤ A.slots.size ∧ len ≤ 536870912 ∧ ∀ i, i < len → ¬ 255 < cv A (o + i)
def E (b : Addr) (A : Cell) (o len : Nat) (r : Option Value) (s u : State) : Prop := NewArr .byte "[B" len (fun j => .int (lo8 (cv A (o + j)))) r s u ∧ u.heap.size = s.heap.size + 1
/-- no char of the range above 255: a new byte[] of their low bytes -/
theorem law (l : Launch) (b : Addr) (A : Cell) (o len : Nat) : Law l yN 3 3 1 18 yB 6 (some (.array .byte)) site (P b A o len) (E b A o len) [] 1 len := by
  refine Law.of_walk (plainFor_of_name (by decide +kernel)) (by decide +kernel) (by decide +kernel) (by decide) (fun _ _ h => by rw [h.1]; rfl) (fun _ U U' hal hh h => ⟨h.1, h.2.1.mv hal hh, h.2.2⟩) (fun r U U' V V' h1 hal h2 h => ⟨NewArr.mv r U U' V V' h1 hal h2 h.1, by rw [h1, h2]; exact h.2⟩) ?_
  intro p e s m args below meth c s₁ X0 hexec hbytes hml hret hlk hnm hown hh0 W hP
  obtain ⟨rfl, hA, l1, l2, hp⟩ := hP
  have a31 := hA.1.2.2.2
  have c1 : Steps p.tables e below (s₁.setTop (entryFrame m #[.ref b, .int (Int32.ofNat o), .int (Int32.ofNat len)] 6)) (s₁.setTop (mkF m 0 #[.val (.ref b), .val (.int (Int32.ofNat o)), .val (.int (Int32.ofNat len)), .unset, .unset, .unset] [])) := entry rfl
  have c2 : Steps p.tables e below (s₁.setTop (entryFrame m #[.ref b, .int (Int32.ofNat o), .int (Int32.ofNat len)] 6)) (s₁.setTop (mkF m 1 #[.val (.ref b), .val (.int (Int32.ofNat o)), .val (.int (Int32.ofNat len)), .unset, .unset, .unset] [.int (Int32.ofNat len)])) := c1.trans (by
    refine XS.iloadN X0.here hexec rfl (hb hbytes d0) rfl ?_
    exact Steps.refl _)
  obtain ⟨T3, B3, X3, ba3, bs3, bv3, bh3, bf3, st3⟩ := X0.anew hexec (atype := .byte) (wk W (.arrayClass .byte)) rfl (by show len * 1 ≤ _; omega) (by omega) (g := (mkF m 1 #[.val (.ref b), .val (.int (Int32.ofNat o)), .val (.int (Int32.ofNat len)), .unset, .unset, .unset] [.int (Int32.ofNat len)])) rfl (hb hbytes d1) (rest := []) rfl (Nat.le_refl _) (by show 0 + len ≤ len; omega)
  rw [hh0] at ba3 st3
  have kp3 : XT.Kept s T3 := (XT.Kept.of_eq hh0).push bh3
  have hA3 := hA.keep X3.warmed.alike (kp3 _ _ hA.1.1)
  have hne : b ≠ s.heap.size := hA.1.ne
  have c4 : Steps p.tables e below (s₁.setTop (entryFrame m #[.ref b, .int (Int32.ofNat o), .int (Int32.ofNat len)] 6)) (T3.setTop (mkF m 3 #[.val (.ref b), .val (.int (Int32.ofNat o)), .val (.int (Int32.ofNat len)), .unset, .unset, .unset] [.ref s.heap.size])) := c2.trans (st3 _ (Steps.refl _))
  have c5 : Steps p.tables e below (s₁.setTop (entryFrame m #[.ref b, .int (Int32.ofNat o), .int (Int32.ofNat len)] 6)) (T3.setTop (mkF m 9 #[.val (.ref b), .val (.int (Int32.ofNat o)), .val (.int (Int32.ofNat len)), .val (.ref s.heap.size), .unset, .unset] [.int (Int32.ofNat len), .int 0, .ref s.heap.size, .int (Int32.ofNat o), .ref b])) := c4.trans (by
    refine XS.astoreN X3.here hexec rfl (hb hbytes d3) rfl rfl rfl ?_
    refine XS.aloadN X3.here hexec rfl (hb hbytes d4) rfl rfl ?_
    refine XS.iloadN X3.here hexec rfl (hb hbytes d5) rfl ?_
    refine XS.aloadN X3.here hexec rfl (hb hbytes d6) rfl rfl ?_
    refine iconstV X3.here hexec rfl 0 (hb hbytes d7) (by decide) ?_
    refine XS.iloadN X3.here hexec rfl (hb hbytes d8) rfl ?_
    exact Steps.refl _)
  obtain ⟨v6, T6, X6, E6, g6⟩ := X3.callS hexec (Cmp5.law l b A s.heap.size B3 o 0 len) hown (wks W (staticW U16 115 Cmp5.yN)) (wk W Cmp5.tab) (W := 0) (Nat.le_of_ble_eq_true rfl) (Nat.le_of_ble_eq_true rfl) (Nat.le_refl _) (by show 0 + len + 0 ≤ len; omega) (g := (mkF m 9 #[.val (.ref b), .val (.int (Int32.ofNat o)), .val (.int (Int32.ofNat len)), .val (.ref s.heap.size), .unset, .unset] [.int (Int32.ofNat len), .int (Int32.ofNat 0), .ref s.heap.size, .int (Int32.ofNat o), .ref b])) rfl (by rw [hml]; rfl) c5 (argsL := [.ref b, .int (Int32.ofNat o), .ref s.heap.size, .int (Int32.ofNat 0), .int (Int32.ofNat len)]) (rest := []) rfl rfl (by show 2 * 0 + 0 ≤ _; decide) (hb hbytes d9) (⟨rfl, hA3, ba3, hne, l1, by rw [bs3]; simp, hp⟩)
  obtain ⟨rfl, B6, p6, f6⟩ := E6
  have c7 : Steps p.tables e below (s₁.setTop (entryFrame m #[.ref b, .int (Int32.ofNat o), .int (Int32.ofNat len)] 6)) (T6.setTop (mkF m 12 #[.val (.ref b), .val (.int (Int32.ofNat o)), .val (.int (Int32.ofNat len)), .val (.ref s.heap.size), .unset, .unset] [.int (Int32.ofNat len)])) := g6
  have c8 : Steps p.tables e below (s₁.setTop (entryFrame m #[.ref b, .int (Int32.ofNat o), .int (Int32.ofNat len)] 6)) (T6.setTop (mkF m 58 #[.val (.ref b), .val (.int (Int32.ofNat o)), .val (.int (Int32.ofNat len)), .val (.ref s.heap.size), .val (.int (Int32.ofNat len)), .unset] [.ref s.heap.size])) := c7.trans (by
    refine XS.istore X6.here hexec rfl (hb hbytes d12) rfl rfl ?_
    refine XS.iload X6.here hexec rfl (hb hbytes d14) rfl ?_
    refine XS.iloadN X6.here hexec rfl (hb hbytes d16) rfl ?_
    refine XS.icmpYes X6.here hexec rfl (pc0 := 17) rfl (hb hbytes d17) rfl (ii_eq_t rfl) (by decide) rfl ?_
    refine XS.aloadN X6.here hexec rfl (hb hbytes d57) rfl rfl ?_
    exact Steps.refl _)
  have X8 := X6.wide (L' := []) (cells' := 1) (slots' := len) (fun x hx hlt => by
    simp only [List.nil_append, copyLocs, List.mem_map, List.mem_range] at hx
    obtain ⟨i, -, rfl⟩ := hx
    exact absurd hlt (Nat.lt_irrefl _)) (Nat.le_refl _) (by omega)
  exact ⟨T6, some (.ref s.heap.size), _, _, _, X8, rfl, rfl, rfl, (fun h => by cases h), ⟨⟨rfl, B6, ba3.like (X3.warmed.alike.symm.trans X6.warmed.alike) p6.1 f6.1 f6.2.1 f6.2.2.1, f6.2.1.trans bv3, by rw [X6.warmed.alike.findClass, f6.1]; exact bf3, by rw [f6.2.2.1, bs3]; simp, fun j hj => by rw [f6.2.2.2 j, if_pos (by omega)]; rfl, kp3.put p6 (Nat.le_refl _)⟩, by rw [p6.2.2, bh3, hh0]; simp⟩, fun fs hl => c8.trans (X8.areturnOut hexec rfl hret rfl (hb hbytes d58) hl)⟩
end Cmp3
namespace CodL
def yN : MethodName := ⟨"java/lang/StringUTF16", "coderFromArrayLen", "([BI)B"⟩
abbrev yB : ByteArray := jdk_52_method_15_code
theorem d0 : decode yB 0 = .ok (.iload_n 1, 1) := by decide +kernel
theorem d1 : decode yB 1 = .ok (.aload_n 0, 1) := by decide +kernel
theorem d2 : decode yB 2 = .ok (.arraylength, 1) := by decide +kernel
theorem d3 : decode yB 3 = .ok (.isub, 1) := by decide +kernel
theorem d4 : decode yB 4 = .ok (.bipush 31, 2) := by decide +kernel
theorem d6 : decode yB 6 = .ok (.iushr, 1) := by decide +kernel
theorem d7 : decode yB 7 = .ok (.i2b, 1) := by decide +kernel
theorem d8 : decode yB 8 = .ok (.ireturn, 1) := by decide +kernel
def site : List Cond := []
def tab : Cond := tabOf yN yB 2 (some .byte) site
def P (d : Addr) (B : Cell) (args : Array Value) (s : State) : Prop := args = #[.ref d, .int (Int32.ofNat B.slots.size)] ∧ Arr .byte d B s
def E (r : Option Value) (s u : State) : Prop := XT.PureE (some (.int 0)) r s u
/-- an array as long as the number of chars: LATIN1 -/
theorem law (l : Launch) (d : Addr) (B : Cell) : Law l yN 2 2 0 0 yB 2 (some .byte) site (P d B) E [] 0 0 := by
  refine Law.of_walk (plainFor_of_name (by decide +kernel)) (by decide +kernel) (by decide +kernel) (by decide) (fun _ _ h => by rw [h.1]; rfl) (fun _ U U' hal hh h => ⟨h.1, h.2.mv hal hh⟩) (fun r U U' V V' h1 hal h2 h => XT.PureE.mv r U U' V V' h1 hal h2 h) ?_
  intro p e s m args below meth c s₁ X0 hexec hbytes hml hret hlk hnm hown hh0 W hP
  obtain ⟨rfl, hB⟩ := hP
  have hB0 := hB.mv X0.warmed.alike hh0
  have c1 : Steps p.tables e below (s₁.setTop (entryFrame m #[.ref d, .int (Int32.ofNat B.slots.size)] 2)) (s₁.setTop (mkF m 0 #[.val (.ref d), .val (.int (Int32.ofNat B.slots.size))] [])) := entry rfl
  have c2 : Steps p.tables e below (s₁.setTop (entryFrame m #[.ref d, .int (Int32.ofNat B.slots.size)] 2)) (s₁.setTop (mkF m 2 #[.val (.ref d), .val (.int (Int32.ofNat B.slots.size))] [.ref d, .int (Int32.ofNat B.slots.size)])) := c1.trans (by
    refine XS.iloadN X0.here hexec rfl (hb hbytes d0) rfl ?_
    refine XS.aloadN X0.here hexec rfl (hb hbytes d1) rfl rfl ?_
    exact Steps.refl _)
  have c3 : Steps p.tables e below (s₁.setTop (entryFrame m #[.ref d, .int (Int32.ofNat B.slots.size)] 2)) (s₁.setTop (mkF m 8 #[.val (.ref d), .val (.int (Int32.ofNat B.slots.size))] [.int (lo8 (ushr (Int32.ofNat B.slots.size - Int32.ofNat B.slots.size) 31))])) := c2.trans (by
    refine X0.alen hexec hB0 rfl rfl (hb hbytes d2) ?_
    refine XS.isub X0.here hexec rfl (hb hbytes d3) rfl ?_
    refine bipushV X0.here hexec rfl 31 (hb hbytes d4) (by decide) ?_
    refine iushr X0.here hexec rfl (hb hbytes d6) rfl ?_
    refine i2b X0.here hexec rfl (hb hbytes d7) rfl ?_
    exact Steps.refl _)
  have e0 : lo8 (ushr (Int32.ofNat B.slots.size - Int32.ofNat B.slots.size) 31) = 0 := by rw [Int32.sub_self]; decide
  rw [e0] at c3
  exact ⟨s₁, some (.int 0), _, _, _, X0, rfl, rfl, rfl, (fun h => by cases h), ⟨rfl, hh0⟩, fun fs hl => c3.trans (X0.ireturnOut hexec hret rfl (Or.inr (Or.inr (Or.inl rfl))) (hb hbytes d8) hl)⟩
end CodL
/-- the String at a is Latin-1 over a new byte[] (the heap's one new cell): the low bytes of the len chars of A from o on; every cell but a is kept -/
def Got (a : Addr) (D : Cell) (fV fC : Field) (A : Cell) (o len : Nat) (r : Option Value) (s u : State) : Prop := r = none ∧ ∃ D' V : Cell, Blank "java/lang/String" a D' u ∧ Same D D' [fV.slot, fC.slot] ∧ D'.slots[fV.slot]? = some (.ref s.heap.size) ∧ D'.slots[fC.slot]? = some (.int 0) ∧ Arr .byte s.heap.size V u ∧ V.vm = .none ∧ u.vm.findClass "[B" = some V.cls ∧ V.slots.size = len ∧ (∀ j, j < len → V.slots[j]? = some (.int (lo8 (cv A (o + j))))) ∧ (∀ (y : Addr) (c : Cell), y ≠ a → s.heap[y]? = some c → u.heap[y]? = some c) ∧ u.heap.size = s.heap.size + 1
theorem Got.mv {a : Addr} {D A : Cell} {fV fC : Field} {o len : Nat} : ∀ r (U U' V V' : State), U'.heap = U.heap → V.vm.Alike V'.vm → V'.heap = V.heap → Got a D fV fC A o len r U V → Got a D fV fC A o len r U' V' :=
  fun r U U' V V' h1 hal h2 ⟨e0, D', X, a1, a2, a3, a4, a5, a6, a7, a8, a9, a10, a11⟩ => ⟨e0, D', X, a1.mv hal h2, a2, by rw [h1]; exact a3, a4, by rw [h1]; exact a5.mv hal h2, a6, by rw [hal.findClass]; exact a7, a8, a9, by rw [h1, h2]; exact a10, by rw [h1, h2]; exact a11⟩
namespace New4
def yN : MethodName := ⟨"java/lang/String", "<init>", "([CIILjava/lang/Void;)V"⟩
abbrev yB : ByteArray := jdk_42_method_149_code
theorem d0 : decode yB 0 = .ok (.aload_n 0, 1) := by decide +kernel
theorem d1 : decode yB 1 = .ok (.invokespecial 1, 3) := by decide +kernel
theorem d4 : decode yB 4 = .ok (.iload_n 3, 1) := by decide +kernel
theorem d5 : decode yB 5 = .ok (.ifCond (.ne) 22, 3) := by decide +kernel
theorem d27 : decode yB 27 = .ok (.getstatic 38, 3) := by decide +kernel
theorem d30 : decode yB 30 = .ok (.ifCond (.eq) 28, 3) := by decide +kernel
theorem d33 : decode yB 33 = .ok (.aload_n 1, 1) := by decide +kernel
theorem d34 : decode yB 34 = .ok (.iload_n 2, 1) := by decide +kernel
theorem d35 : decode yB 35 = .ok (.iload_n 3, 1) := by decide +kernel
theorem d36 : decode yB 36 = .ok (.invokestatic 177, 3) := by decide +kernel
theorem d39 : decode yB 39 = .ok (.astore 5, 2) := by decide +kernel
theorem d41 : decode yB 41 = .ok (.aload_n 0, 1) := by decide +kernel
theorem d42 : decode yB 42 = .ok (.aload 5, 2) := by decide +kernel
theorem d44 : decode yB 44 = .ok (.iload_n 3, 1) := by decide +kernel
theorem d45 : decode yB 45 = .ok (.invokestatic 47, 3) := by decide +kernel
theorem d48 : decode yB 48 = .ok (.putfield 15, 3) := by decide +kernel
theorem d51 : decode yB 51 = .ok (.aload_n 0, 1) := by decide +kernel
theorem d52 : decode yB 52 = .ok (.aload 5, 2) := by decide +kernel
theorem d54 : decode yB 54 = .ok (.putfield 9, 3) := by decide +kernel
theorem d57 : decode yB 57 = .ok (.return_, 1) := by decide +kernel
def site : List Cond := [.fieldLink "java/lang/String" 38 "java/lang/String" "COMPACT_STRINGS" "Z", Cmp3.tab, CodL.tab, .laysFinal "java/lang/String" "java/lang/String" "value" "[B", .fieldLink "java/lang/String" 9 "java/lang/String" "value" "[B", .laysFinal "java/lang/String" "java/lang/String" "coder" "B", .fieldLink "java/lang/String" 15 "java/lang/String" "coder" "B"] ++ objW "java/lang/String" 1 ++ staticW "java/lang/String" 177 Cmp3.yN ++ staticW "java/lang/String" 47 CodL.yN
def tab : Cond := tabOf yN yB 6 none site
def P (a : Addr) (D : Cell) (fV fC : Field) (b : Addr) (A : Cell) (z : Int32) (o len : Nat) (args : Array Value) (s : State) : Prop := args = #[.ref a, .ref b, .int (Int32.ofNat o), .int (Int32.ofNat len), .null] ∧ Blank "java/lang/String" a D s ∧ Found "java/lang/String" "value" "[B" fV s ∧ Found "java/lang/String" "coder" "B" fC s ∧ Ch b A s ∧ StaticIs s "java/lang/String" "COMPACT_STRINGS" "Z" (.int z) ∧ ¬ z = 0 ∧ 0 < len ∧ o + len ≤ A.slots.size ∧ len ≤ 536870912 ∧ ∀ i, i < len → ¬ 255 < cv A (o + i)
def E (a : Addr) (D : Cell) (fV fC : Field) (A : Cell) (o len : Nat) (r : Option Value) (s u : State) : Prop := Got a D fV fC A o len r s u
/-- len > 0, no char of the range above 255: a Latin-1 String of their low bytes -/
theorem law (l : Launch) (a : Addr) (D : Cell) (fV fC : Field) (b : Addr) (A : Cell) (z : Int32) (o len : Nat) : Law l yN 5 4 2 35 yB 6 none site (P a D fV fC b A z o len) (E a D fV fC A o len) [⟨a, fC.slot⟩, ⟨a, fV.slot⟩] 1 len := by
  refine Law.of_walk (plainFor_of_name (by decide +kernel)) (by decide +kernel) (by decide +kernel) (by decide) (fun _ _ h => by rw [h.1]; rfl) (fun _ U U' hal hh h => ⟨h.1, h.2.1.mv hal hh, h.2.2.1.al hal, h.2.2.2.1.al hal, h.2.2.2.2.1.mv hal hh, h.2.2.2.2.2.1.there hal hh, h.2.2.2.2.2.2⟩) (fun r U U' V V' h1 hal h2 h => Got.mv r U U' V V' h1 hal h2 h) ?_
  intro p e s m args below meth c s₁ X0 hexec hbytes hml hret hlk hnm hown hh0 W hP
  obtain ⟨rfl, hB, f1, f2, hA, s1, hz, l0, l1, l2, hp⟩ := hP
  have a31 := hA.1.2.2.2
  have c1 : Steps p.tables e below (s₁.setTop (entryFrame m #[.ref a, .ref b, .int (Int32.ofNat o), .int (Int32.ofNat len), .null] 6)) (s₁.setTop (mkF m 0 #[.val (.ref a), .val (.ref b), .val (.int (Int32.ofNat o)), .val (.int (Int32.ofNat len)), .val .null, .unset] [])) := entry rfl
  have c2 : Steps p.tables e below (s₁.setTop (entryFrame m #[.ref a, .ref b, .int (Int32.ofNat o), .int (Int32.ofNat len), .null] 6)) (s₁.setTop (mkF m 1 #[.val (.ref a), .val (.ref b), .val (.int (Int32.ofNat o)), .val (.int (Int32.ofNat len)), .val .null, .unset] [.ref a])) := c1.trans (by
    refine XS.aloadN X0.here hexec rfl (hb hbytes d0) rfl rfl ?_
    exact Steps.refl _)
  obtain ⟨T3, X3, q3, st3⟩ := X0.oinit hexec hown (wks W (objW "java/lang/String" 1)) (g := (mkF m 1 #[.val (.ref a), .val (.ref b), .val (.int (Int32.ofNat o)), .val (.int (Int32.ofNat len)), .val .null, .unset] [.ref a])) rfl (by rw [hml]; rfl) (rest := []) rfl (hb hbytes d1) (W := 0) (by show 2 * 0 + 0 ≤ _; decide) (Nat.le_of_ble_eq_true rfl) (Nat.le_of_ble_eq_true rfl)
  have hh3 := q3.trans hh0
  have c4 : Steps p.tables e below (s₁.setTop (entryFrame m #[.ref a, .ref b, .int (Int32.ofNat o), .int (Int32.ofNat len), .null] 6)) (T3.setTop (mkF m 27 #[.val (.ref a), .val (.ref b), .val (.int (Int32.ofNat o)), .val (.int (Int32.ofNat len)), .val .null, .unset] [])) := (c2.trans (st3 _ (Steps.refl _))).trans (by
    refine XS.iloadN X3.here hexec rfl (hb hbytes d4) rfl ?_
    refine XS.ifYes X3.here hexec rfl (pc0 := 5) rfl (hb hbytes d5) rfl (i0_ne_t (nz32 (by omega) l0)) (by decide) rfl ?_
    exact Steps.refl _)
  obtain ⟨T5, X5, q5, st5⟩ := X3.sget hexec hown (wk W (.fieldLink "java/lang/String" 38 "java/lang/String" "COMPACT_STRINGS" "Z")) s1 (fun _ _ h => by rw [hh3]; exact h) (g := (mkF m 27 #[.val (.ref a), .val (.ref b), .val (.int (Int32.ofNat o)), .val (.int (Int32.ofNat len)), .val .null, .unset] [])) rfl (hb hbytes d27)
  have hh5 := q5.trans hh3
  have c6 : Steps p.tables e below (s₁.setTop (entryFrame m #[.ref a, .ref b, .int (Int32.ofNat o), .int (Int32.ofNat len), .null] 6)) (T5.setTop (mkF m 30 #[.val (.ref a), .val (.ref b), .val (.int (Int32.ofNat o)), .val (.int (Int32.ofNat len)), .val .null, .unset] [.int z])) := c4.trans (st5 _ (Steps.refl _))
  have c7 : Steps p.tables e below (s₁.setTop (entryFrame m #[.ref a, .ref b, .int (Int32.ofNat o), .int (Int32.ofNat len), .null] 6)) (T5.setTop (mkF m 36 #[.val (.ref a), .val (.ref b), .val (.int (Int32.ofNat o)), .val (.int (Int32.ofNat len)), .val .null, .unset] [.int (Int32.ofNat len), .int (Int32.ofNat o), .ref b])) := c6.trans (by
    refine XS.ifNo X5.here hexec rfl (hb hbytes d30) rfl (i0_eq_f hz) ?_
    refine XS.aloadN X5.here hexec rfl (hb hbytes d33) rfl rfl ?_
    refine XS.iloadN X5.here hexec rfl (hb hbytes d34) rfl ?_
    refine XS.iloadN X5.here hexec rfl (hb hbytes d35) rfl ?_
    exact Steps.refl _)
  obtain ⟨v8, T8, X8, E8, g8⟩ := X5.callS hexec (Cmp3.law l b A o len) hown (wks W (staticW "java/lang/String" 177 Cmp3.yN)) (wk W Cmp3.tab) (W := 0) (Nat.le_of_ble_eq_true rfl) (Nat.le_of_ble_eq_true rfl) (Nat.le_refl _) (by show 0 + len ≤ len; omega) (g := (mkF m 36 #[.val (.ref a), .val (.ref b), .val (.int (Int32.ofNat o)), .val (.int (Int32.ofNat len)), .val .null, .unset] [.int (Int32.ofNat len), .int (Int32.ofNat o), .ref b])) rfl (by rw [hml]; rfl) c7 (argsL := [.ref b, .int (Int32.ofNat o), .int (Int32.ofNat len)]) (rest := []) rfl rfl (by show 2 * 0 + 0 ≤ _; decide) (hb hbytes d36) (⟨rfl, hA.mv X5.warmed.alike hh5, l1, l2, hp⟩)
  obtain ⟨e8, z8⟩ := E8
  obtain ⟨rfl, N, n1, n2, n3, n4, n5, n6⟩ := NewArr.mv _ T5 s _ _ hh5.symm (Vm.Alike.refl _) rfl e8
  rw [hh5] at z8
  have hB1 := hB.keep X8.warmed.alike (n6 _ _ hB.1)
  have hne : s.heap.size ≠ a := (Nat.ne_of_lt (Array.getElem?_eq_some_iff.mp hB.1).1).symm
  have c9 : Steps p.tables e below (s₁.setTop (entryFrame m #[.ref a, .ref b, .int (Int32.ofNat o), .int (Int32.ofNat len), .null] 6)) (T8.setTop (mkF m 39 #[.val (.ref a), .val (.ref b), .val (.int (Int32.ofNat o)), .val (.int (Int32.ofNat len)), .val .null, .unset] [.ref s.heap.size])) := g8
  have c10 : Steps p.tables e below (s₁.setTop (entryFrame m #[.ref a, .ref b, .int (Int32.ofNat o), .int (Int32.ofNat len), .null] 6)) (T8.setTop (mkF m 45 #[.val (.ref a), .val (.ref b), .val (.int (Int32.ofNat o)), .val (.int (Int32.ofNat len)), .val .null, .val (.ref s.heap.size)] [.int (Int32.ofNat N.slots.size), .ref s.heap.size, .ref a])) := by
    have hc : Steps p.tables e below (s₁.setTop (entryFrame m #[.ref a, .ref b, .int (Int32.ofNat o), .int (Int32.ofNat len), .null] 6)) (T8.setTop (mkF m 45 #[.val (.ref a), .val (.ref b), .val (.int (Int32.ofNat o)), .val (.int (Int32.ofNat len)), .val .null, .val (.ref s.heap.size)] [.int (Int32.ofNat len), .ref s.heap.size, .ref a])) := c9.trans (by
      refine XS.astore X8.here hexec rfl (hb hbytes d39) rfl rfl rfl ?_
      refine XS.aloadN X8.here hexec rfl (hb hbytes d41) rfl rfl ?_
      refine XS.aload X8.here hexec rfl (hb hbytes d42) rfl rfl ?_
      refine XS.iloadN X8.here hexec rfl (hb hbytes d44) rfl ?_
      exact Steps.refl _)
    rw [n4]; exact hc
  obtain ⟨v11, T11, X11, E11, g11⟩ := X8.callS hexec (CodL.law l s.heap.size N) hown (wks W (staticW "java/lang/String" 47 CodL.yN)) (wk W CodL.tab) (W := 1) (Nat.le_of_ble_eq_true rfl) (Nat.le_of_ble_eq_true rfl) (Nat.le_refl _) (by show 0 + len + 0 ≤ len; omega) (g := (mkF m 45 #[.val (.ref a), .val (.ref b), .val (.int (Int32.ofNat o)), .val (.int (Int32.ofNat len)), .val .null, .val (.ref s.heap.size)] [.int (Int32.ofNat N.slots.size), .ref s.heap.size, .ref a])) rfl (by rw [hml]; rfl) c10 (argsL := [.ref s.heap.size, .int (Int32.ofNat N.slots.size)]) (rest := [.ref a]) rfl rfl (by show 2 * 0 + (1 + 0) ≤ _; decide) (hb hbytes d45) (⟨rfl, n1⟩)
  obtain ⟨rfl, q11⟩ := E11
  have hB11 := hB1.mv (X8.warmed.alike.symm.trans X11.warmed.alike) q11
  have c12 : Steps p.tables e below (s₁.setTop (entryFrame m #[.ref a, .ref b, .int (Int32.ofNat o), .int (Int32.ofNat len), .null] 6)) (T11.setTop (mkF m 48 #[.val (.ref a), .val (.ref b), .val (.int (Int32.ofNat o)), .val (.int (Int32.ofNat len)), .val .null, .val (.ref s.heap.size)] [.int 0, .ref a])) := g11
  obtain ⟨T13, X13, p13, bl13, sl13, st13⟩ := X11.finit hexec hown (wk W (.fieldLink "java/lang/String" 15 "java/lang/String" "coder" "B")) (Or.inr ⟨_, (wk W (.laysFinal "java/lang/String" "java/lang/String" "coder" "B"))⟩) (Or.inl ⟨rfl, hnm⟩) f2 (Or.inl rfl) hB11 (t := .byte) (by decide +kernel) rfl (g := (mkF m 48 #[.val (.ref a), .val (.ref b), .val (.int (Int32.ofNat o)), .val (.int (Int32.ofNat len)), .val .null, .val (.ref s.heap.size)] [.int 0, .ref a])) rfl (rest := []) rfl (hb hbytes d48)
  have c14 : Steps p.tables e below (s₁.setTop (entryFrame m #[.ref a, .ref b, .int (Int32.ofNat o), .int (Int32.ofNat len), .null] 6)) (T13.setTop (mkF m 54 #[.val (.ref a), .val (.ref b), .val (.int (Int32.ofNat o)), .val (.int (Int32.ofNat len)), .val .null, .val (.ref s.heap.size)] [.ref s.heap.size, .ref a])) := (c12.trans (st13 _ (Steps.refl _))).trans (by
    refine XS.aloadN X13.here hexec rfl (hb hbytes d51) rfl rfl ?_
    refine XS.aload X13.here hexec rfl (hb hbytes d52) rfl rfl ?_
    exact Steps.refl _)
  obtain ⟨T15, X15, p15, bl15, sl15, st15⟩ := X13.finit hexec hown (wk W (.fieldLink "java/lang/String" 9 "java/lang/String" "value" "[B")) (Or.inr ⟨_, (wk W (.laysFinal "java/lang/String" "java/lang/String" "value" "[B"))⟩) (Or.inl ⟨rfl, hnm⟩) f1 (Or.inl rfl) bl13 (t := (.array .byte)) (by decide +kernel) rfl (g := (mkF m 54 #[.val (.ref a), .val (.ref b), .val (.int (Int32.ofNat o)), .val (.int (Int32.ofNat len)), .val .null, .val (.ref s.heap.size)] [.ref s.heap.size, .ref a])) rfl (rest := []) rfl (hb hbytes d54)
  have c16 : Steps p.tables e below (s₁.setTop (entryFrame m #[.ref a, .ref b, .int (Int32.ofNat o), .int (Int32.ofNat len), .null] 6)) (T15.setTop (mkF m 57 #[.val (.ref a), .val (.ref b), .val (.int (Int32.ofNat o)), .val (.int (Int32.ofNat len)), .val .null, .val (.ref s.heap.size)] [])) := c14.trans (st15 _ (Steps.refl _))
  have ap := apart (Or.inr ⟨_, (wk W (.laysFinal "java/lang/String" "java/lang/String" "value" "[B"))⟩) (Or.inr ⟨_, (wk W (.laysFinal "java/lang/String" "java/lang/String" "coder" "B"))⟩) f1 f2 (t₁ := .array .byte) (t₂ := .byte) (by decide +kernel) (by decide +kernel) (by decide)
  have al := X8.warmed.alike.symm.trans X15.warmed.alike
  have n7 : T11.heap[s.heap.size]? = some N := by rw [q11]; exact n1.1
  exact ⟨T15, none, _, _, _, X15, by simp, rfl, by omega, (fun _ => rfl), ⟨rfl, _, N, bl15, ((Same.refl D _).set _ (by simp)).set _ (by simp), sl15, (Cell.slots_setSlot_ne _ ap).trans sl13, n1.keep al (p15.other hne (p13.other hne n7)), n2, by rw [al.findClass]; exact n3, n4, n5, fun y c h1 h2 => p15.other h1 (p13.other h1 (by rw [q11]; exact n6 y c h2)), by rw [p15.2.2, p13.2.2, q11]; exact z8⟩, fun fs hl => c16.trans (X15.returnOut hexec hret (hb hbytes d57) hl)⟩
end New4
namespace New1
def yN : MethodName := ⟨"java/lang/String", "<init>", "([C)V"⟩
abbrev yB : ByteArray := jdk_42_method_3_code
theorem d0 : decode yB 0 = .ok (.aload_n 0, 1) := by decide +kernel
theorem d1 : decode yB 1 = .ok (.aload_n 1, 1) := by decide +kernel
theorem d2 : decode yB 2 = .ok (.iconst 0, 1) := by decide +kernel
theorem d3 : decode yB 3 = .ok (.aload_n 1, 1) := by decide +kernel
theorem d4 : decode yB 4 = .ok (.arraylength, 1) := by decide +kernel
theorem d5 : decode yB 5 = .ok (.aconst_null, 1) := by decide +kernel
theorem d6 : decode yB 6 = .ok (.invokespecial 27, 3) := by decide +kernel
theorem d9 : decode yB 9 = .ok (.return_, 1) := by decide +kernel
def site : List Cond := [New4.tab] ++ initW "java/lang/String" 27 New4.yN
def tab : Cond := tabOf yN yB 2 none site
def P (a : Addr) (D : Cell) (fV fC : Field) (b : Addr) (A : Cell) (z : Int32) (args : Array Value) (s : State) : Prop := args = #[.ref a, .ref b] ∧ Blank "java/lang/String" a D s ∧ Found "java/lang/String" "value" "[B" fV s ∧ Found "java/lang/String" "coder" "B" fC s ∧ Ch b A s ∧ StaticIs s "java/lang/String" "COMPACT_STRINGS" "Z" (.int z) ∧ ¬ z = 0 ∧ 0 < A.slots.size ∧ A.slots.size ≤ 536870912 ∧ ∀ i, i < A.slots.size → ¬ 255 < cv A i
def E (a : Addr) (D : Cell) (fV fC : Field) (A : Cell) (r : Option Value) (s u : State) : Prop := Got a D fV fC A 0 A.slots.size r s u
/-- new String(chars), not empty, no char above 255: a Latin-1 String of their low bytes -/
theorem law (l : Launch) (a : Addr) (D : Cell) (fV fC : Field) (b : Addr) (A : Cell) (z : Int32) : Law l yN 2 1 3 52 yB 2 none site (P a D fV fC b A z) (E a D fV fC A) [⟨a, fC.slot⟩, ⟨a, fV.slot⟩] 1 A.slots.size := by
  refine Law.of_walk (plainFor_of_name (by decide +kernel)) (by decide +kernel) (by decide +kernel) (by decide) (fun _ _ h => by rw [h.1]; rfl) (fun _ U U' hal hh h => ⟨h.1, h.2.1.mv hal hh, h.2.2.1.al hal, h.2.2.2.1.al hal, h.2.2.2.2.1.mv hal hh, h.2.2.2.2.2.1.there hal hh, h.2.2.2.2.2.2⟩) (fun r U U' V V' h1 hal h2 h => Got.mv r U U' V V' h1 hal h2 h) ?_
  intro p e s m args below meth c s₁ X0 hexec hbytes hml hret hlk hnm hown hh0 W hP
  obtain ⟨rfl, hB, f1, f2, hA, s1, hz, l0, l2, hp⟩ := hP
  have c1 : Steps p.tables e below (s₁.setTop (entryFrame m #[.ref a, .ref b] 2)) (s₁.setTop (mkF m 0 #[.val (.ref a), .val (.ref b)] [])) := entry rfl
  have c2 : Steps p.tables e below (s₁.setTop (entryFrame m #[.ref a, .ref b] 2)) (s₁.setTop (mkF m 6 #[.val (.ref a), .val (.ref b)] [.null, .int (Int32.ofNat A.slots.size), .int 0, .ref b, .ref a])) := c1.trans (by
    refine XS.aloadN X0.here hexec rfl (hb hbytes d0) rfl rfl ?_
    refine XS.aloadN X0.here hexec rfl (hb hbytes d1) rfl rfl ?_
    refine iconstV X0.here hexec rfl 0 (hb hbytes d2) (by decide) ?_
    refine XS.aloadN X0.here hexec rfl (hb hbytes d3) rfl rfl ?_
    refine X0.alen hexec (hA.1.mv X0.warmed.alike hh0) rfl rfl (hb hbytes d4) ?_
    refine XS.aconstNull X0.here hexec rfl (hb hbytes d5) ?_
    exact Steps.refl _)
  obtain ⟨v3, T3, X3, E3, g3⟩ := X0.callN hexec (New4.law l a D fV fC b A z 0 A.slots.size) rfl hown (wks W (initW "java/lang/String" 27 New4.yN)) (W New4.tab (by simp only [site, List.mem_cons, List.mem_append, true_or, or_true])) (W := 0) (Nat.le_of_ble_eq_true rfl) (Nat.le_of_ble_eq_true rfl) (Nat.le_refl _) (by show 0 + A.slots.size ≤ A.slots.size; omega) (g := (mkF m 6 #[.val (.ref a), .val (.ref b)] [.null, .int (Int32.ofNat A.slots.size), .int (Int32.ofNat 0), .ref b, .ref a])) rfl (by rw [hml]; rfl) c2 (argsL := [.ref b, .int (Int32.ofNat 0), .int (Int32.ofNat A.slots.size), .null]) (rest := []) rfl rfl (by show 2 * 0 + 0 ≤ _; decide) (hb hbytes d6) (⟨rfl, hB.mv X0.warmed.alike hh0, f1.al X0.warmed.alike, f2.al X0.warmed.alike, hA.mv X0.warmed.alike hh0, s1.there X0.warmed.alike hh0, hz, l0, by omega, l2, fun i hi => by rw [Nat.zero_add]; exact hp i hi⟩)
  have e0 := Got.mv _ s₁ s _ _ hh0.symm (Vm.Alike.refl _) rfl E3
  obtain rfl := e0.1
  have c4 : Steps p.tables e below (s₁.setTop (entryFrame m #[.ref a, .ref b] 2)) (T3.setTop (mkF m 9 #[.val (.ref a), .val (.ref b)] [])) := g3
  exact ⟨T3, none, _, _, _, X3, by simp, rfl, by omega, (fun _ => rfl), e0, fun fs hl => c4.trans (X3.returnOut hexec hret (hb hbytes d9) hl)⟩
theorem pays {l : Launch} {R : Room} {p : Program} {e : Env} {below : List Frame} {s : State} {sargs : Array Value} {len W : Nat} (a : Addr) (D : Cell) (fV fC : Field) (b : Addr) (A : Cell) (z : Int32) (htab : tab.before sargs s = true) (hfr : 4 ≤ R.frames) (hlo : W + 65 ≤ R.locals) :
    Back l R p e below s sargs yN len W (fun A₁ a₁ => A₁.cells + 1 ≤ R.cells ∧ A₁.slots + A.slots.size ≤ R.slots ∧ P a D fV fC b A z a₁ A₁.U) (fun A₁ _ v₁ B₁ => E a D fV fC A v₁ A₁.U B₁.U ∧ B₁.locs = A₁.locs ++ [⟨a, fC.slot⟩, ⟨a, fV.slot⟩] ∧ B₁.cells = A₁.cells + 1 ∧ B₁.slots = A₁.slots + A.slots.size) :=
  (law l a D fV fC b A z).pays htab hfr (by omega)
end New1
end StrChars
namespace StrChars.Road
open Jvm Sem ClassFile Op Lib Jvm.Stand Jvm.Free Jvm.Free.XT
open Jvm.Lib.Cold (StaticIs)
abbrev ST : String := "java/lang/String"
/-- every table word that New1's law asks, flat -/
abbrev words : List Jvm.Cond := [.code New1.yN New1.yB 2 none, .initialized ST, .methodLink ST 27 New4.yN, .instanceMethod New4.yN,
  .code New4.yN New4.yB 6 none, .fieldLink ST 38 ST "COMPACT_STRINGS" "Z", .laysFinal ST ST "value" "[B", .fieldLink ST 9 ST "value" "[B", .laysFinal ST ST "coder" "B", .fieldLink ST 15 ST "coder" "B",
  .methodLink ST 1 Lib.objectInit, .instanceMethod Lib.objectInit, .code Lib.objectInit ⟨#[0xb1]⟩ 1 none, .methodLink ST 177 Cmp3.yN, .static Cmp3.yN, .methodLink ST 47 CodL.yN, .static CodL.yN,
  .code Cmp3.yN Cmp3.yB 6 (some (.array .byte)), .initialized U16, .arrayClass .byte, .methodLink U16 115 Cmp5.yN, .static Cmp5.yN, .code Cmp5.yN Cmp5.yB 7 (some .int), .code CodL.yN CodL.yB 2 (some .byte)]
theorem tab_of {a : Array Value} {s : State} (h : ∀ w ∈ words, w.before a s = true) : New1.tab.before a s = true := by
  have h5 : Cmp5.tab.before a s = true := unparts (wk h (.code Cmp5.yN Cmp5.yB 7 (some .int))) (wks h (.initialized Cmp5.yN.cls :: Cmp5.site))
  have hc : CodL.tab.before a s = true := unparts (wk h (.code CodL.yN CodL.yB 2 (some .byte))) (wks h (.initialized CodL.yN.cls :: CodL.site))
  have q5 : ∀ w ∈ Cmp5.tab :: words, w.before a s = true := fun w hw => (List.mem_cons.mp hw).elim (fun e => e ▸ h5) (h w)
  have h3 : Cmp3.tab.before a s = true := unparts (wk q5 (.code Cmp3.yN Cmp3.yB 6 (some (.array .byte)))) (wks q5 (.initialized Cmp3.yN.cls :: Cmp3.site))
  have q3 : ∀ w ∈ Cmp3.tab :: CodL.tab :: words, w.before a s = true := fun w hw => (List.mem_cons.mp hw).elim (fun e => e ▸ h3) fun hw => (List.mem_cons.mp hw).elim (fun e => e ▸ hc) (h w)
  have h4 : New4.tab.before a s = true := unparts (wk q3 (.code New4.yN New4.yB 6 none)) (wks q3 (.initialized New4.yN.cls :: New4.site))
  have q4 : ∀ w ∈ New4.tab :: words, w.before a s = true := fun w hw => (List.mem_cons.mp hw).elim (fun e => e ▸ h4) (h w)
  exact unparts (wk q4 (.code New1.yN New1.yB 2 none)) (wks q4 (.initialized New1.yN.cls :: New1.site))
/-- the words ride from the start Z to the walk's own state -/
theorem moved {Z s : State} {a0 args : Array Value} (hZ : Z.Warmed39 s.vm) (hw : ∀ d ∈ words, d.before a0 Z = true) : ∀ d ∈ words, d.before args s = true := fun d hd => by
  have q := hw d hd
  have t : ∀ d ∈ words, d = .arrayClass .byte ∨ (d.onTables && d.keepsFace) = true := by decide +kernel
  rcases t d hd with rfl | t
  · exact RoadKit.mvA hZ q
  · exact RoadKit.mv hZ q t
/-- WHAT COMES BACK, over the tables of the start Z: h the heap at the call, h' behind it -/
def Q (Z : State) (x : Addr) (A : Cell) (h : Heap) (v : Option Value) (h' : Heap) (L : List Loc) : Prop := v = none ∧ (∀ y ∈ L, y.base = x) ∧ RoadKit.Keep h h' [x] ∧ h'.size = h.size + 1 ∧ RoadKit.Exa Z h' x ST ∧ RoadKit.Fld Z h' x ST "value" "[B" (.ref h.size) ∧ RoadKit.Fld Z h' x ST "coder" "B" (.int 0) ∧
  (∃ V : Cell, RoadKit.Arr Z h' h.size V .byte ∧ V.vm = .none ∧ Z.vm.findClass "[B" = some V.cls ∧ V.slots.size = A.slots.size ∧ ∀ j, j < A.slots.size → V.slots[j]? = some (.int (lo8 (cv A j)))) ∧
  ∀ (O n d : String) (w : Value), RoadKit.Fld Z h x O n d w → RoadKit.slotOf Z O n d ≠ RoadKit.slotOf Z ST "value" "[B" → RoadKit.slotOf Z O n d ≠ RoadKit.slotOf Z ST "coder" "B" → RoadKit.Fld Z h' x O n d w
/-- **new String(chars) AT A CALL, IN THE ROAD'S FORM**: for specialBack behind newO: x the fresh String, b the char[] with the cell A -/
theorem back {p : Program} {l : Launch} {e : Env} {R : Room} {s : State} {args : Array Value} {below : List Frame} {len W : Nat} {Z : State} {a0 : Array Value} {h : Heap} (hZ : Z.Warmed39 s.vm) (hw : ∀ d ∈ words, d.before a0 Z = true) {kI : Nat} (wi : (Jvm.Cond.instantiable ST kI).before a0 Z = true)
    {x b : Addr} {A : Cell} {z : Int32} {v0 c0 : Value} (E : RoadKit.Exa Z h x ST) (V : RoadKit.Fld Z h x ST "value" "[B" v0) (C : RoadKit.Fld Z h x ST "coder" "B" c0) (K : RoadKit.Arr Z h b A .char) (hty : Typed .char A) (S : RoadKit.Sta Z h ST "COMPACT_STRINGS" "Z" (.int z)) (hz : ¬ z = 0)
    (l0 : 0 < A.slots.size) (l2 : A.slots.size ≤ 536870912) (hp : ∀ i, i < A.slots.size → ¬ 255 < cv A i) (hfr : 4 ≤ R.frames) (hlo : W + 65 ≤ R.locals) :
    Back l R p e below s args New1.yN len W (fun P a => a = #[.ref x, .ref b] ∧ P.U.heap = h ∧ P.cells + 1 ≤ R.cells ∧ P.slots + A.slots.size ≤ R.slots)
      (fun P _ v B => ∃ L, Q Z x A h v B.U.heap L ∧ B.locs = P.locs ++ L ∧ B.cells = P.cells + 1 ∧ B.slots = P.slots + A.slots.size) := by
  intro m meth c P g ig mk a X hg hsize hdg hW hn hp'
  obtain ⟨rfl, rfl, r1, r2⟩ := hp'
  have al : Z.vm.Alike P.U.vm := hZ.alike.trans X.warmed.alike
  obtain ⟨D, cfV, kV, iV, fV, hD, gV, stV, knV, obV, asV, slV⟩ := id V
  obtain ⟨D', cfC, kC, iC, fC, hD', gC, stC, -, -, asC, slC⟩ := id C
  cases hD.symm.trans hD'
  obtain ⟨D2, kD, e1, e2, e3, e4, e5⟩ := id E
  cases hD.symm.trans e1
  obtain ⟨c2, k2, i1, i2, i3, -⟩ := Cond.instantiable_spec wi
  cases e2.symm.trans i1
  cases e3.symm.trans i2
  obtain ⟨kU, u1, u2⟩ := al.2.2 _ _ e3
  have hB : Blank ST x D P.U := ⟨hD, ⟨knV, fun q hq => by rw [hq] at obV; cases obV⟩, by rw [al.findClass]; exact e2, kU, u1, by rw [u2]; exact i3, by rw [u2]; exact e5 i3⟩
  have F1 : Found ST "value" "[B" fV P.U := ⟨SBG.found_only al ⟨cfV, kV, iV, gV⟩, stV⟩
  have F2 : Found ST "coder" "B" fC P.U := ⟨SBG.found_only al ⟨cfC, kC, iC, gC⟩, stC⟩
  have hA : Ch b A P.U := ⟨⟨K.1, State.isArrayOf_alike al K.2.1, K.2.2, by omega⟩, hty⟩
  have hS : StaticIs P.U ST "COMPACT_STRINGS" "Z" (.int z) := by
    obtain ⟨cfS, iS, kS, fS, st, cS, t1, t2, t3, t4, t5, t6, t7⟩ := S
    exact StaticIs.there (s := { Z with heap := P.U.heap }) ⟨cfS, iS, kS, fS, st, cS, t1, t2, t3, t4, t5, (fun q => by rw [q] at t6; cases t6), t7⟩ al rfl
  obtain ⟨v, B, X', ⟨⟨hv, E', V', q1, q2, q3, q4, q5, q6, q7, q8, q9, q10, q11⟩, hl, hc, hs⟩, st⟩ := New1.pays x D fV fC b A z (tab_of (moved hZ hw)) hfr hlo m meth c P g ig mk _ X hg hsize hdg hW hn ⟨r1, r2, rfl, hB, F1, F2, hA, hS, hz, l0, l2, hp⟩
  have al' : Z.vm.Alike B.U.vm := hZ.alike.trans X'.warmed.alike
  have hsz : E'.slots.size = D.slots.size := by
    obtain ⟨-, -, -, kB, w1, w2, w3⟩ := q1
    obtain ⟨kB', y1, y2⟩ := al'.2.2 _ _ e3
    rw [q2.2.1] at w1
    cases w1.symm.trans y1
    rw [w3, e5 i3, y2]
  refine ⟨v, B, X', ⟨_, ⟨hv, ?_, ⟨by omega, fun y cy hy hn' => q10 y cy (by simpa using hn') hy, fun y cy hy => ?_⟩, q11, ⟨E', _, q1.1, by rw [q2.2.1]; exact e2, by rw [q2.2.1]; exact e3, by rw [q2.1]; exact obV, fun _ => by rw [hsz]; exact e5 i3⟩,
    ⟨E', cfV, kV, iV, fV, q1.1, gV, stV, by rw [q2.1]; exact knV, by rw [q2.1]; exact obV, by rw [q2.2.1]; exact asV, q3⟩, ⟨E', cfC, kC, iC, fC, q1.1, gC, stC, by rw [q2.1]; exact knV, by rw [q2.1]; exact obV, by rw [q2.2.1]; exact asC, q4⟩,
    ⟨V', ⟨q5.1, State.isArrayOf_alike al'.symm q5.2.1, q5.2.2.1⟩, q6, by rw [← al'.findClass]; exact q7, q8, fun j hj => by have := q9 j hj; rwa [Nat.zero_add] at this⟩, fun O n d w F n1 n2 => ?_⟩, hl, hc, hs⟩, st⟩
  · intro y hy
    simp only [List.mem_cons, List.not_mem_nil, or_false] at hy
    rcases hy with rfl | rfl <;> rfl
  · by_cases q : y = x
    · subst q
      cases hD.symm.trans hy
      exact ⟨E', q1.1, q2.2.1, q2.1, hsz⟩
    · exact ⟨cy, q10 y cy q hy, rfl, rfl, rfl⟩
  · obtain ⟨D3, cf, k, i, f, g1, g2, g3, g4, g5, g6, g7⟩ := F
    cases hD.symm.trans g1
    simp only [RoadKit.slotOf, g2, gV, gC, Option.map_some, Option.getD_some] at n1 n2
    exact ⟨E', cf, k, i, f, q1.1, g2, g3, by rw [q2.1]; exact g4, by rw [q2.1]; exact g5, by rw [q2.2.1]; exact g6, by rw [q2.2.2 f.slot (by simp [n1, n2])]; exact g7⟩
end StrChars.Road
namespace StrChars.Road
open Jvm Sem ClassFile Op Lib Jvm.Stand Jvm.Free Jvm.Free.XT
/-- WHAT COMES BACK, the byte[] as a list of values -/
def QA (Z : State) (x : Addr) (zn : Int32) (cs : List Int32) (h : Heap) (v : Option Value) (h' : Heap) (L : List Loc) : Prop := v = none ∧ (∀ y ∈ L, y.base = x) ∧ RoadKit.Keep h h' [x] ∧ h'.size = h.size + 1 ∧ RoadKit.Exa Z h' x ST ∧ RoadKit.Fld Z h' x ST "value" "[B" (.ref h.size) ∧ RoadKit.Fld Z h' x ST "coder" "B" (.int 0) ∧
  (∃ kb, Z.vm.findClass "[B" = some kb ∧ RoadKit.Arv Z h' h.size kb .byte zn (cs.map fun c => .int (lo8 c)) (.int 0)) ∧
  ∀ (O n d : String) (w : Value), RoadKit.Fld Z h x O n d w → RoadKit.slotOf Z O n d ≠ RoadKit.slotOf Z ST "value" "[B" → RoadKit.slotOf Z O n d ≠ RoadKit.slotOf Z ST "coder" "B" → RoadKit.Fld Z h' x O n d w
/-- **new String(chars) AT A CALL, THE ARRAYS AS LISTS**: the char[] at b holds cs, not empty, no char above 255 -/
theorem backArv {p : Program} {l : Launch} {e : Env} {R : Room} {s : State} {args : Array Value} {below : List Frame} {len W : Nat} {Z : State} {a0 : Array Value} {h : Heap} (hZ : Z.Warmed39 s.vm) (hw : ∀ d ∈ words, d.before a0 Z = true) {kI : Nat} (wi : (Jvm.Cond.instantiable ST kI).before a0 Z = true)
    {x b : Addr} {k : ClassId} {zn z : Int32} {cs : List Int32} {dv v0 c0 : Value} (E : RoadKit.Exa Z h x ST) (V : RoadKit.Fld Z h x ST "value" "[B" v0) (C : RoadKit.Fld Z h x ST "coder" "B" c0) (K : RoadKit.Arv Z h b k .char zn (cs.map Value.int) dv) (S : RoadKit.Sta Z h ST "COMPACT_STRINGS" "Z" (.int z)) (hz : ¬ z = 0)
    (hlen : zn.toNatClampNeg = cs.length) (h0 : 0 < cs.length) (hbig : cs.length ≤ 536870912) (hall : ∀ c ∈ cs, ¬ 255 < c) (hfr : 4 ≤ R.frames) (hlo : W + 65 ≤ R.locals) :
    Back l R p e below s args New1.yN len W (fun P a => a = #[.ref x, .ref b] ∧ P.U.heap = h ∧ P.cells + 1 ≤ R.cells ∧ P.slots + cs.length ≤ R.slots)
      (fun P _ v B => ∃ L, QA Z x zn cs h v B.U.heap L ∧ B.locs = P.locs ++ L ∧ B.cells = P.cells + 1 ∧ B.slots = P.slots + cs.length) := by
  obtain ⟨A, K1, K2, K3, K4, K5, K6⟩ := K
  have e : A.slots.size = cs.length := K3.trans hlen
  have hat : ∀ (i : Nat) (hi : i < cs.length), A.slots[i]? = some (.int cs[i]) := fun i hi => by rw [K5 i (by omega)]; simp [List.getD_eq_getElem?_getD, hi]
  have hcv : ∀ (i : Nat) (hi : i < cs.length), cv A i = cs[i] := fun i hi => by unfold cv; rw [hat i hi]
  have hty : Typed .char A := fun i v hv => by
    have hi : i < A.slots.size := (Array.getElem?_eq_some_iff.mp hv).1
    have q := K5 i hi
    rw [hv] at q
    rw [Option.some.inj q]
    exact K6 i hi
  refine Back.mono (back hZ hw wi E V C K1 hty S hz (by omega) (by omega) (fun i hi => by rw [hcv i (by omega)]; exact hall _ (List.getElem_mem _)) hfr hlo) (fun P a hp => ⟨hp.1, hp.2.1, hp.2.2.1, by rw [e]; exact hp.2.2.2⟩) (fun P a v B hp hq => ?_)
  obtain ⟨L, ⟨q1, q2, q3, q4, q5, q6, q7, ⟨V', v1, v2, v3, v4, v5⟩, q9⟩, hl, hc, hs⟩ := hq
  refine ⟨L, ⟨q1, q2, q3, q4, q5, q6, q7, ⟨V'.cls, v3, V', v1, rfl, by rw [v4, e, hlen], K4, fun i hi => ?_, fun i hi => ?_⟩, q9⟩, hl, hc, by rw [hs, e]⟩
  · have hi' : i < cs.length := by omega
    rw [v5 i (by omega), hcv i hi']; simp [List.getD_eq_getElem?_getD, hi']
  · have hi' : i < cs.length := by omega
    simp only [List.getD_eq_getElem?_getD, List.getElem?_map, List.getElem?_eq_getElem hi', Option.map_some, Option.getD_some]
    exact fits_lo8 _
end StrChars.Road
namespace StrChars.Road
open Jvm Sem ClassFile Op Lib Jvm.Stand Jvm.Free Jvm.Free.XT
/-- WHAT COMES BACK, in the writer's own shape -/
def QV (Z : State) (x : Addr) (N : Int32) (bs : List Int32) (h : Heap) (n0 : Nat) (v : Option Value) (h' : Heap) (L : List Loc) : Prop := v = none ∧ RoadKit.Fr n0 L ∧ RoadKit.Keep h h' [x] ∧ RoadKit.Exa Z h' x ST ∧ RoadKit.Fld Z h' x ST "coder" "B" (.int 0) ∧
  ∃ (t : Addr) (kb : ClassId), n0 ≤ t ∧ h.size ≤ t ∧ ¬ t = x ∧ RoadKit.Fld Z h' x ST "value" "[B" (.ref t) ∧ RoadKit.Arv Z h' t kb .byte N (bs.map Value.int) (.int 0)
/-- **new String(chars) AT A CALL, FOR THE WRITER**: a char[] of n known ints, each 0 to 255 -/
theorem backV {p : Program} {l : Launch} {e : Env} {R : Room} {s : State} {args : Array Value} {below : List Frame} {len W : Nat} {Z : State} {a0 : Array Value} {h : Heap} (hZ : Z.Warmed39 s.vm) (hw : ∀ d ∈ words, d.before a0 Z = true) {kI : Nat} (wi : (Jvm.Cond.instantiable ST kI).before a0 Z = true)
    {x b : Addr} {kC : ClassId} {cs bs : List Int32} {d v0 c0 : Value} {z N : Int32} {n n0 : Nat} (hx0 : n0 ≤ x) (hh0 : n0 ≤ h.size) (E : RoadKit.Exa Z h x ST) (V : RoadKit.Fld Z h x ST "value" "[B" v0) (C : RoadKit.Fld Z h x ST "coder" "B" c0) (K : RoadKit.Arv Z h b kC .char N (cs.map Value.int) d) (S : RoadKit.Sta Z h ST "COMPACT_STRINGS" "Z" (.int z)) (hz : ¬ z = 0)
    (hn : cs.length = n) (hN : N = Int32.ofNat n) (l0 : 0 < n) (l2 : n ≤ 4000) (hp : ∀ c ∈ cs, ¬ c < 0 ∧ ¬ (255 : Int32) < c) (hb : bs = cs.map (fun c => c.toInt8.toInt32)) (hfr : 4 ≤ R.frames) (hlo : W + 65 ≤ R.locals) :
    Back l R p e below s args (⟨"java/lang/String", "<init>", "([C)V"⟩ : MethodName) len W (fun P a => a = #[.ref x, .ref b] ∧ P.U.heap = h ∧ P.cells + 1 ≤ R.cells ∧ P.slots + n ≤ R.slots)
      (fun P _ v B => ∃ L, QV Z x N bs h n0 v B.U.heap L ∧ B.locs = P.locs ++ L ∧ B.cells = P.cells + 1 ∧ B.slots = P.slots + n) := by
  subst hn hN hb
  refine Back.mono (backArv hZ hw wi E V C K S hz (n32 (by omega)) l0 (by omega) (fun c hc => (hp c hc).2) hfr hlo) (fun P a hp => hp) (fun P a v B hp hq => ?_)
  obtain ⟨L, ⟨q1, q2, q3, q4, q5, q6, q7, ⟨kb, v1, v2⟩, q9⟩, hl, hc, hs⟩ := hq
  exact ⟨L, ⟨q1, fun y hy => by rw [q2 y hy]; exact hx0, q3, q5, q7, h.size, kb, hh0, Nat.le_refl _, Nat.ne_of_gt E.lt, q6, by rw [List.map_map]; exact v2⟩, hl, hc, hs⟩
end StrChars.Road
end Jvm.Pilot.@@N@@
namespace Jvm.Pilot.@@N@@
open Jvm Jvm.ClassFile Sem Op Lib Jvm.Free Jvm.Stand Jvm.LawKit Jvm.RoadKit Bundle Jvm.Pilot.@@N@@.Jvm.D
section OwnKit
variable {p : Program} {l : Launch} {e : Env} {R : Room} {s : State} {m : MethodId} {args : Array Value} {below : List Frame} {meth : Method} {c : Code} {T : State} {locs : List Loc} {cells slots : Nat} {Z : State} {a0 : Array Value} {h : Heap} {n0 kc ks : Nat} {FE : Outcome → State → List Loc → Prop} {Q : Option Value → Heap → Prop} {pc pc' : Nat} {Ls Ls' : Array Slot} {st : List Value}
/-- from the state S the run comes back to its caller with what Q says, having written nothing below n0 -/
def Goes (p : Program) (e : Env) (below : List Frame) (FE : Outcome → State → List Loc → Prop) (n0 : Nat) (Q : Option Value → Heap → Prop) (S : State) : Prop :=
  ∃ s₂ o, Steps p.tables e below S s₂ ∧ s₂.status = .running ∧ Ended s₂ below o ∧ ∃ v L, o = .returned v ∧ (Fr n0 L ∧ Q v s₂.heap) ∧ FE o s₂ L
/-- the contract of a body -/
def Meets (l : Launch) (y : MethodName) (bytes : ByteArray) (maxL : Nat) (ret : Option FieldType) (ws : List Jvm.Cond) (rm : Room) (kc ks : Nat) (Z : State) (as' : Array Value) (h : Heap) (n0 : Nat) (Q : Option Value → Heap → Prop) : Prop :=
  MetFree l y (head1 (Jvm.Cond.code y bytes maxL ret :: ws) rm) (fun a U => a = as' ∧ Z.Warmed39 U.vm ∧ U.heap = h) (fun _ _ _ _ _ => True) (fun _ U o U' => ∃ v L, o = .returned v ∧ (Fr n0 L ∧ Q v U'.heap) ∧ FrameEnd U o U' L kc ks)
theorem Goes.via {S S' : State} (f : ∀ t, Steps p.tables e below S' t → Steps p.tables e below S t) (g : Goes p e below FE n0 Q S') : Goes p e below FE n0 Q S := by
  obtain ⟨s₂, o, k, r⟩ := g
  exact ⟨s₂, o, f _ k, r⟩
theorem Goes.ret {S : State} {v : Option Value} (X : Stand p l e R s m args below meth c T locs cells slots) (N : Fr n0 locs) (hlk : meth.locks = false) (hv : meth.sig.returnType = none → v = none) (hc : cells ≤ kc) (hs : slots ≤ ks) (hq : Q v T.heap)
    (f : ∀ fs, (∀ (f : JFrame) (acts : List Action), f.method = m → f.locked = none → f.entered = [] → (doReturn e (T.setTop f) acts v).1 = T.setFrames fs) → Steps p.tables e below S (T.setFrames fs)) : Goes p e below (fun o t L => FrameEnd s o t L kc ks) n0 Q S := by
  obtain ⟨fs, hr, hrun, hended, hW, hsame⟩ := X.leave hv hlk
  exact ⟨_, _, f fs hr, hrun, hended, _, _, rfl, ⟨N, hq⟩, ⟨_, rfl⟩, hW, hsame.mono hc hs⟩
theorem own_sz (O : Old Z n0 h) : n0 ≤ h.size := O.1 ▸ O.2.1
theorem Meets.of {y : MethodName} {bytes : ByteArray} {maxL : Nat} {ret : Option FieldType} {ws : List Jvm.Cond} {rm : Room} {as' : Array Value} (hx : plainFor y = true) {F : MethodId → JFrame} (hF : ∀ m, entryFrame m as' maxL = F m)
    (body : ∀ p e s m below meth c T, p.tables.exec = Jvm.exec → c.code = bytes → c.maxLocals = maxL → s.vm.findClass y.cls = some m.cls → meth.name = y.name → meth.sig.returnType = ret → meth.locks = false → Z.Warmed39 s.vm →
      Stand p l e rm s m as' below meth c T [] 0 0 → T.heap = h → Goes p e below (fun o t L => FrameEnd s o t L kc ks) n0 Q (T.setTop (F m))) :
    Meets l y bytes maxL ret ws rm kc ks Z as' h n0 Q := by
  refine MetFree.of_bodySF hx hisR ?_
  intro p e s m args below meth c s₁ Bd hml hP hK
  obtain ⟨rfl, hZ, hh⟩ := hP
  have X0 : Stand p l e rm s m args below meth c s₁ [] 0 0 := Stand.of_body Bd
  have e0 : s₁.heap = h := by rw [← hh, Bd.state]; rfl
  obtain ⟨s₂, o, k, r⟩ := body p e s m below meth c s₁ Bd.exec Bd.bytes hml (findClass_of_methodNamed Bd.named) (name_of_methodNamed Bd.named Bd.method).1 Bd.returns Bd.notSynchronized hZ X0 e0
  exact ⟨s₂, o, castTop (hF m) k, r⟩
theorem own_iloadN (X : Stand p l e R s m args below meth c T locs cells slots) (hx : p.tables.exec = Jvm.exec) {k : Fin 4} {v : Int32} (hd : decode c.code pc = .ok (.iload_n k, 1)) (hl : Ls[k.val]? = some (.val (.int v)))
    (g : Goes p e below FE n0 Q (T.setTop (mkF m (pc + 1) Ls (.int v :: st)))) : Goes p e below FE n0 Q (T.setTop (mkF m pc Ls st)) :=
  Goes.via (fun _ k => XS.iloadN X.here hx rfl hd hl k) g
theorem own_iload (X : Stand p l e R s m args below meth c T locs cells slots) (hx : p.tables.exec = Jvm.exec) {k : Nat} {v : Int32} (hd : decode c.code pc = .ok (.iload k, 2)) (hl : Ls[k]? = some (.val (.int v)))
    (g : Goes p e below FE n0 Q (T.setTop (mkF m (pc + 2) Ls (.int v :: st)))) : Goes p e below FE n0 Q (T.setTop (mkF m pc Ls st)) :=
  Goes.via (fun _ k => XS.iload X.here hx rfl hd hl k) g
theorem own_istoreN (X : Stand p l e R s m args below meth c T locs cells slots) (hx : p.tables.exec = Jvm.exec) {k : Fin 4} {x : Int32} (hd : decode c.code pc = .ok (.istore_n k, 1)) (hl : storeLocals Ls k.val (.int x) = some Ls')
    (g : Goes p e below FE n0 Q (T.setTop (mkF m (pc + 1) Ls' st))) : Goes p e below FE n0 Q (T.setTop (mkF m pc Ls (.int x :: st))) :=
  Goes.via (fun _ k => XS.istoreN X.here hx rfl hd rfl hl k) g
theorem own_istore (X : Stand p l e R s m args below meth c T locs cells slots) (hx : p.tables.exec = Jvm.exec) {k : Nat} {x : Int32} (hd : decode c.code pc = .ok (.istore k, 2)) (hl : storeLocals Ls k (.int x) = some Ls')
    (g : Goes p e below FE n0 Q (T.setTop (mkF m (pc + 2) Ls' st))) : Goes p e below FE n0 Q (T.setTop (mkF m pc Ls (.int x :: st))) :=
  Goes.via (fun _ k => XS.istore X.here hx rfl hd rfl hl k) g
theorem own_lloadN (X : Stand p l e R s m args below meth c T locs cells slots) (hx : p.tables.exec = Jvm.exec) {k : Fin 4} {v : Int64} (hd : decode c.code pc = .ok (.lload_n k, 1)) (hl : Ls[k.val]? = some (.val (.long v)))
    (g : Goes p e below FE n0 Q (T.setTop (mkF m (pc + 1) Ls (.long v :: st)))) : Goes p e below FE n0 Q (T.setTop (mkF m pc Ls st)) :=
  Goes.via (fun _ k => XS.lloadN X.here hx rfl hd hl k) g
theorem own_lload (X : Stand p l e R s m args below meth c T locs cells slots) (hx : p.tables.exec = Jvm.exec) {k : Nat} {v : Int64} (hd : decode c.code pc = .ok (.lload k, 2)) (hl : Ls[k]? = some (.val (.long v)))
    (g : Goes p e below FE n0 Q (T.setTop (mkF m (pc + 2) Ls (.long v :: st)))) : Goes p e below FE n0 Q (T.setTop (mkF m pc Ls st)) :=
  Goes.via (fun _ k => XS.lload X.here hx rfl hd hl k) g
theorem own_lstoreN (X : Stand p l e R s m args below meth c T locs cells slots) (hx : p.tables.exec = Jvm.exec) {k : Fin 4} {x : Int64} (hd : decode c.code pc = .ok (.lstore_n k, 1)) (hl : storeLocals Ls k.val (.long x) = some Ls')
    (g : Goes p e below FE n0 Q (T.setTop (mkF m (pc + 1) Ls' st))) : Goes p e below FE n0 Q (T.setTop (mkF m pc Ls (.long x :: st))) :=
  Goes.via (fun _ k => XS.lstoreN X.here hx rfl hd rfl hl k) g
theorem own_lstore (X : Stand p l e R s m args below meth c T locs cells slots) (hx : p.tables.exec = Jvm.exec) {k : Nat} {x : Int64} (hd : decode c.code pc = .ok (.lstore k, 2)) (hl : storeLocals Ls k (.long x) = some Ls')
    (g : Goes p e below FE n0 Q (T.setTop (mkF m (pc + 2) Ls' st))) : Goes p e below FE n0 Q (T.setTop (mkF m pc Ls (.long x :: st))) :=
  Goes.via (fun _ k => XS.lstore X.here hx rfl hd rfl hl k) g
theorem own_aloadN (X : Stand p l e R s m args below meth c T locs cells slots) (hx : p.tables.exec = Jvm.exec) {k : Fin 4} {v : Value} (hd : decode c.code pc = .ok (.aload_n k, 1)) (hl : Ls[k.val]? = some (.val v)) (hv : v.isRef = true)
    (g : Goes p e below FE n0 Q (T.setTop (mkF m (pc + 1) Ls (v :: st)))) : Goes p e below FE n0 Q (T.setTop (mkF m pc Ls st)) :=
  Goes.via (fun _ k => XS.aloadN X.here hx rfl hd hl hv k) g
theorem own_aload (X : Stand p l e R s m args below meth c T locs cells slots) (hx : p.tables.exec = Jvm.exec) {k : Nat} {v : Value} (hd : decode c.code pc = .ok (.aload k, 2)) (hl : Ls[k]? = some (.val v)) (hv : v.isRef = true)
    (g : Goes p e below FE n0 Q (T.setTop (mkF m (pc + 2) Ls (v :: st)))) : Goes p e below FE n0 Q (T.setTop (mkF m pc Ls st)) :=
  Goes.via (fun _ k => XS.aload X.here hx rfl hd hl hv k) g
theorem own_astoreN (X : Stand p l e R s m args below meth c T locs cells slots) (hx : p.tables.exec = Jvm.exec) {k : Fin 4} {x : Value} (hd : decode c.code pc = .ok (.astore_n k, 1)) (hv : x.isRef = true) (hl : storeLocals Ls k.val x = some Ls')
    (g : Goes p e below FE n0 Q (T.setTop (mkF m (pc + 1) Ls' st))) : Goes p e below FE n0 Q (T.setTop (mkF m pc Ls (x :: st))) :=
  Goes.via (fun _ k => XS.astoreN X.here hx rfl hd rfl hv hl k) g
theorem own_astore (X : Stand p l e R s m args below meth c T locs cells slots) (hx : p.tables.exec = Jvm.exec) {k : Nat} {x : Value} (hd : decode c.code pc = .ok (.astore k, 2)) (hv : x.isRef = true) (hl : storeLocals Ls k x = some Ls')
    (g : Goes p e below FE n0 Q (T.setTop (mkF m (pc + 2) Ls' st))) : Goes p e below FE n0 Q (T.setTop (mkF m pc Ls (x :: st))) :=
  Goes.via (fun _ k => XS.astore X.here hx rfl hd rfl hv hl k) g
theorem own_iconst (X : Stand p l e R s m args below meth c T locs cells slots) (hx : p.tables.exec = Jvm.exec) {i : Int} {v : Int32} (hd : decode c.code pc = .ok (.iconst i, 1)) (hv : Int32.ofInt i = v)
    (g : Goes p e below FE n0 Q (T.setTop (mkF m (pc + 1) Ls (.int v :: st)))) : Goes p e below FE n0 Q (T.setTop (mkF m pc Ls st)) := by
  subst hv
  exact Goes.via (fun _ k => XS.iconst X.here hx rfl hd k) g
theorem own_bipush (X : Stand p l e R s m args below meth c T locs cells slots) (hx : p.tables.exec = Jvm.exec) {i : Int} {v : Int32} (hd : decode c.code pc = .ok (.bipush i, 2)) (hv : (Int8.ofInt i).toInt32 = v)
    (g : Goes p e below FE n0 Q (T.setTop (mkF m (pc + 2) Ls (.int v :: st)))) : Goes p e below FE n0 Q (T.setTop (mkF m pc Ls st)) := by
  subst hv
  exact Goes.via (fun _ k => XS.bipush X.here hx rfl hd k) g
theorem own_sipush (X : Stand p l e R s m args below meth c T locs cells slots) (hx : p.tables.exec = Jvm.exec) {i : Int} {v : Int32} (hd : decode c.code pc = .ok (.sipush i, 3)) (hv : (Int16.ofInt i).toInt32 = v)
    (g : Goes p e below FE n0 Q (T.setTop (mkF m (pc + 3) Ls (.int v :: st)))) : Goes p e below FE n0 Q (T.setTop (mkF m pc Ls st)) := by
  subst hv
  exact Goes.via (fun _ k => XS.sipush X.here hx rfl hd k) g
theorem own_lconst (X : Stand p l e R s m args below meth c T locs cells slots) (hx : p.tables.exec = Jvm.exec) {i : Fin 2} {v : Int64} (hd : decode c.code pc = .ok (.lconst i, 1)) (hv : Int64.ofNat i = v)
    (g : Goes p e below FE n0 Q (T.setTop (mkF m (pc + 1) Ls (.long v :: st)))) : Goes p e below FE n0 Q (T.setTop (mkF m pc Ls st)) := by
  subst hv
  exact Goes.via (fun _ k => XS.lconst X.here hx rfl hd k) g
theorem own_aconst_null (X : Stand p l e R s m args below meth c T locs cells slots) (hx : p.tables.exec = Jvm.exec)  (hd : decode c.code pc = .ok (.aconst_null, 1))
    (g : Goes p e below FE n0 Q (T.setTop (mkF m (pc + 1) Ls (.null :: st)))) : Goes p e below FE n0 Q (T.setTop (mkF m pc Ls st)) :=
  Goes.via (fun _ k => XS.aconstNull X.here hx rfl hd k) g
theorem own_iadd (X : Stand p l e R s m args below meth c T locs cells slots) (hx : p.tables.exec = Jvm.exec) {x y : Int32} (hd : decode c.code pc = .ok (.iadd, 1))
    (g : Goes p e below FE n0 Q (T.setTop (mkF m (pc + 1) Ls (.int (x + y) :: st)))) : Goes p e below FE n0 Q (T.setTop (mkF m pc Ls (.int y :: .int x :: st))) :=
  Goes.via (fun _ k => XS.iadd X.here hx rfl hd rfl k) g
theorem own_isub (X : Stand p l e R s m args below meth c T locs cells slots) (hx : p.tables.exec = Jvm.exec) {x y : Int32} (hd : decode c.code pc = .ok (.isub, 1))
    (g : Goes p e below FE n0 Q (T.setTop (mkF m (pc + 1) Ls (.int (x - y) :: st)))) : Goes p e below FE n0 Q (T.setTop (mkF m pc Ls (.int y :: .int x :: st))) :=
  Goes.via (fun _ k => XS.isub X.here hx rfl hd rfl k) g
theorem own_imul (X : Stand p l e R s m args below meth c T locs cells slots) (hx : p.tables.exec = Jvm.exec) {x y : Int32} (hd : decode c.code pc = .ok (.imul, 1))
    (g : Goes p e below FE n0 Q (T.setTop (mkF m (pc + 1) Ls (.int (x * y) :: st)))) : Goes p e below FE n0 Q (T.setTop (mkF m pc Ls (.int y :: .int x :: st))) :=
  Goes.via (fun _ k => XS.imul X.here hx rfl hd rfl k) g
theorem own_iand (X : Stand p l e R s m args below meth c T locs cells slots) (hx : p.tables.exec = Jvm.exec) {x y : Int32} (hd : decode c.code pc = .ok (.iand, 1))
    (g : Goes p e below FE n0 Q (T.setTop (mkF m (pc + 1) Ls (.int (x &&& y) :: st)))) : Goes p e below FE n0 Q (T.setTop (mkF m pc Ls (.int y :: .int x :: st))) :=
  Goes.via (fun _ k => XS.iand X.here hx rfl hd rfl k) g
theorem own_ior (X : Stand p l e R s m args below meth c T locs cells slots) (hx : p.tables.exec = Jvm.exec) {x y : Int32} (hd : decode c.code pc = .ok (.ior, 1))
    (g : Goes p e below FE n0 Q (T.setTop (mkF m (pc + 1) Ls (.int (x ||| y) :: st)))) : Goes p e below FE n0 Q (T.setTop (mkF m pc Ls (.int y :: .int x :: st))) :=
  Goes.via (fun _ k => XS.ior X.here hx rfl hd rfl k) g
theorem own_ixor (X : Stand p l e R s m args below meth c T locs cells slots) (hx : p.tables.exec = Jvm.exec) {x y : Int32} (hd : decode c.code pc = .ok (.ixor, 1))
    (g : Goes p e below FE n0 Q (T.setTop (mkF m (pc + 1) Ls (.int (x ^^^ y) :: st)))) : Goes p e below FE n0 Q (T.setTop (mkF m pc Ls (.int y :: .int x :: st))) :=
  Goes.via (fun _ k => XS.ixor X.here hx rfl hd rfl k) g
theorem own_idiv (X : Stand p l e R s m args below meth c T locs cells slots) (hx : p.tables.exec = Jvm.exec) {x y : Int32} (hd : decode c.code pc = .ok (.idiv, 1)) (hy : y ≠ 0)
    (g : Goes p e below FE n0 Q (T.setTop (mkF m (pc + 1) Ls (.int (x / y) :: st)))) : Goes p e below FE n0 Q (T.setTop (mkF m pc Ls (.int y :: .int x :: st))) :=
  Goes.via (fun _ k => XS.idiv X.here hx rfl hd rfl hy k) g
theorem own_ineg (X : Stand p l e R s m args below meth c T locs cells slots) (hx : p.tables.exec = Jvm.exec) {x : Int32} (hd : decode c.code pc = .ok (.ineg, 1))
    (g : Goes p e below FE n0 Q (T.setTop (mkF m (pc + 1) Ls (.int (-x) :: st)))) : Goes p e below FE n0 Q (T.setTop (mkF m pc Ls (.int x :: st))) :=
  Goes.via (fun _ k => XS.ineg X.here hx rfl hd rfl k) g
theorem own_ladd (X : Stand p l e R s m args below meth c T locs cells slots) (hx : p.tables.exec = Jvm.exec) {x y : Int64} (hd : decode c.code pc = .ok (.ladd, 1))
    (g : Goes p e below FE n0 Q (T.setTop (mkF m (pc + 1) Ls (.long (x + y) :: st)))) : Goes p e below FE n0 Q (T.setTop (mkF m pc Ls (.long y :: .long x :: st))) :=
  Goes.via (fun _ k => XS.ladd X.here hx rfl hd rfl k) g
theorem own_lsub (X : Stand p l e R s m args below meth c T locs cells slots) (hx : p.tables.exec = Jvm.exec) {x y : Int64} (hd : decode c.code pc = .ok (.lsub, 1))
    (g : Goes p e below FE n0 Q (T.setTop (mkF m (pc + 1) Ls (.long (x - y) :: st)))) : Goes p e below FE n0 Q (T.setTop (mkF m pc Ls (.long y :: .long x :: st))) :=
  Goes.via (fun _ k => XS.lsub X.here hx rfl hd rfl k) g
theorem own_lmul (X : Stand p l e R s m args below meth c T locs cells slots) (hx : p.tables.exec = Jvm.exec) {x y : Int64} (hd : decode c.code pc = .ok (.lmul, 1))
    (g : Goes p e below FE n0 Q (T.setTop (mkF m (pc + 1) Ls (.long (x * y) :: st)))) : Goes p e below FE n0 Q (T.setTop (mkF m pc Ls (.long y :: .long x :: st))) :=
  Goes.via (fun _ k => XS.lmul X.here hx rfl hd rfl k) g
theorem own_land (X : Stand p l e R s m args below meth c T locs cells slots) (hx : p.tables.exec = Jvm.exec) {x y : Int64} (hd : decode c.code pc = .ok (.land, 1))
    (g : Goes p e below FE n0 Q (T.setTop (mkF m (pc + 1) Ls (.long (x &&& y) :: st)))) : Goes p e below FE n0 Q (T.setTop (mkF m pc Ls (.long y :: .long x :: st))) :=
  Goes.via (fun _ k => XS.land X.here hx rfl hd rfl k) g
theorem own_lor (X : Stand p l e R s m args below meth c T locs cells slots) (hx : p.tables.exec = Jvm.exec) {x y : Int64} (hd : decode c.code pc = .ok (.lor, 1))
    (g : Goes p e below FE n0 Q (T.setTop (mkF m (pc + 1) Ls (.long (x ||| y) :: st)))) : Goes p e below FE n0 Q (T.setTop (mkF m pc Ls (.long y :: .long x :: st))) :=
  Goes.via (fun _ k => XS.lor X.here hx rfl hd rfl k) g
theorem own_lxor (X : Stand p l e R s m args below meth c T locs cells slots) (hx : p.tables.exec = Jvm.exec) {x y : Int64} (hd : decode c.code pc = .ok (.lxor, 1))
    (g : Goes p e below FE n0 Q (T.setTop (mkF m (pc + 1) Ls (.long (x ^^^ y) :: st)))) : Goes p e below FE n0 Q (T.setTop (mkF m pc Ls (.long y :: .long x :: st))) :=
  Goes.via (fun _ k => XS.lxor X.here hx rfl hd rfl k) g
theorem own_ldiv (X : Stand p l e R s m args below meth c T locs cells slots) (hx : p.tables.exec = Jvm.exec) {x y : Int64} (hd : decode c.code pc = .ok (.ldiv, 1)) (hy : y ≠ 0)
    (g : Goes p e below FE n0 Q (T.setTop (mkF m (pc + 1) Ls (.long (x / y) :: st)))) : Goes p e below FE n0 Q (T.setTop (mkF m pc Ls (.long y :: .long x :: st))) :=
  Goes.via (fun _ k => XS.ldiv X.here hx rfl hd rfl hy k) g
theorem own_lneg (X : Stand p l e R s m args below meth c T locs cells slots) (hx : p.tables.exec = Jvm.exec) {x : Int64} (hd : decode c.code pc = .ok (.lneg, 1))
    (g : Goes p e below FE n0 Q (T.setTop (mkF m (pc + 1) Ls (.long (-x) :: st)))) : Goes p e below FE n0 Q (T.setTop (mkF m pc Ls (.long x :: st))) :=
  Goes.via (fun _ k => XS.lneg X.here hx rfl hd rfl k) g
theorem own_irem (X : Stand p l e R s m args below meth c T locs cells slots) (hx : p.tables.exec = Jvm.exec) {x y : Int32} (hd : decode c.code pc = .ok (.irem, 1)) (hy : y ≠ 0)
    (g : Goes p e below FE n0 Q (T.setTop (mkF m (pc + 1) Ls (.int (x % y) :: st)))) : Goes p e below FE n0 Q (T.setTop (mkF m pc Ls (.int y :: .int x :: st))) :=
  Goes.via (fun _ k => iremM (g := mkF m pc Ls (.int y :: .int x :: st)) X hx rfl hd rfl hy k) g
theorem own_lrem (X : Stand p l e R s m args below meth c T locs cells slots) (hx : p.tables.exec = Jvm.exec) {x y : Int64} (hd : decode c.code pc = .ok (.lrem, 1)) (hy : y ≠ 0)
    (g : Goes p e below FE n0 Q (T.setTop (mkF m (pc + 1) Ls (.long (x % y) :: st)))) : Goes p e below FE n0 Q (T.setTop (mkF m pc Ls (.long y :: .long x :: st))) := by
  rw [← lrem_mod] at g
  exact Goes.via (fun _ k => XS.lrem X.here hx rfl hd rfl hy k) g
theorem own_ishl (X : Stand p l e R s m args below meth c T locs cells slots) (hx : p.tables.exec = Jvm.exec) {x y : Int32} (hd : decode c.code pc = .ok (.ishl, 1))
    (g : Goes p e below FE n0 Q (T.setTop (mkF m (pc + 1) Ls (.int (x <<< (y &&& 31)) :: st)))) : Goes p e below FE n0 Q (T.setTop (mkF m pc Ls (.int y :: .int x :: st))) :=
  Goes.via (fun _ k => XS.ishl X.here hx rfl hd rfl k) g
theorem own_ishr (X : Stand p l e R s m args below meth c T locs cells slots) (hx : p.tables.exec = Jvm.exec) {x y : Int32} (hd : decode c.code pc = .ok (.ishr, 1))
    (g : Goes p e below FE n0 Q (T.setTop (mkF m (pc + 1) Ls (.int (x >>> (y &&& 31)) :: st)))) : Goes p e below FE n0 Q (T.setTop (mkF m pc Ls (.int y :: .int x :: st))) :=
  Goes.via (fun _ k => XS.ishr X.here hx rfl hd rfl k) g
theorem own_iushr (X : Stand p l e R s m args below meth c T locs cells slots) (hx : p.tables.exec = Jvm.exec) {x y : Int32} (hd : decode c.code pc = .ok (.iushr, 1))
    (g : Goes p e below FE n0 Q (T.setTop (mkF m (pc + 1) Ls (.int ((x.toUInt32 >>> (y &&& 31).toUInt32).toInt32) :: st)))) : Goes p e below FE n0 Q (T.setTop (mkF m pc Ls (.int y :: .int x :: st))) :=
  Goes.via (fun _ k => XS.iushr X.here hx rfl hd rfl k) g
theorem own_lshl (X : Stand p l e R s m args below meth c T locs cells slots) (hx : p.tables.exec = Jvm.exec) {x : Int64} {y : Int32} (hd : decode c.code pc = .ok (.lshl, 1))
    (g : Goes p e below FE n0 Q (T.setTop (mkF m (pc + 1) Ls (.long (x <<< (y &&& 0x3f).toInt64) :: st)))) : Goes p e below FE n0 Q (T.setTop (mkF m pc Ls (.int y :: .long x :: st))) :=
  Goes.via (fun _ k => by jvm_step X.here [X.here.top, hx, hd]; first | exact k | simpa [mkF] using k) g
theorem own_lshr (X : Stand p l e R s m args below meth c T locs cells slots) (hx : p.tables.exec = Jvm.exec) {x : Int64} {y : Int32} (hd : decode c.code pc = .ok (.lshr, 1))
    (g : Goes p e below FE n0 Q (T.setTop (mkF m (pc + 1) Ls (.long (x >>> (y &&& 0x3f).toInt64) :: st)))) : Goes p e below FE n0 Q (T.setTop (mkF m pc Ls (.int y :: .long x :: st))) :=
  Goes.via (fun _ k => by jvm_step X.here [X.here.top, hx, hd]; first | exact k | simpa [mkF] using k) g
theorem own_lushr (X : Stand p l e R s m args below meth c T locs cells slots) (hx : p.tables.exec = Jvm.exec) {x : Int64} {y : Int32} (hd : decode c.code pc = .ok (.lushr, 1))
    (g : Goes p e below FE n0 Q (T.setTop (mkF m (pc + 1) Ls (.long ((x.toUInt64 >>> (y &&& 0x3f).toInt64.toUInt64).toInt64) :: st)))) : Goes p e below FE n0 Q (T.setTop (mkF m pc Ls (.int y :: .long x :: st))) :=
  Goes.via (fun _ k => by jvm_step X.here [X.here.top, hx, hd]; first | exact k | simpa [mkF] using k) g
theorem own_i2l (X : Stand p l e R s m args below meth c T locs cells slots) (hx : p.tables.exec = Jvm.exec) {x : Int32} (hd : decode c.code pc = .ok (.i2l, 1))
    (g : Goes p e below FE n0 Q (T.setTop (mkF m (pc + 1) Ls (.long (x.toInt64) :: st)))) : Goes p e below FE n0 Q (T.setTop (mkF m pc Ls (.int x :: st))) :=
  Goes.via (fun _ k => XS.i2l X.here hx rfl hd rfl k) g
theorem own_l2i (X : Stand p l e R s m args below meth c T locs cells slots) (hx : p.tables.exec = Jvm.exec) {x : Int64} (hd : decode c.code pc = .ok (.l2i, 1))
    (g : Goes p e below FE n0 Q (T.setTop (mkF m (pc + 1) Ls (.int (x.toInt32) :: st)))) : Goes p e below FE n0 Q (T.setTop (mkF m pc Ls (.long x :: st))) :=
  Goes.via (fun _ k => XS.l2i X.here hx rfl hd rfl k) g
theorem own_i2b (X : Stand p l e R s m args below meth c T locs cells slots) (hx : p.tables.exec = Jvm.exec) {x : Int32} (hd : decode c.code pc = .ok (.i2b, 1))
    (g : Goes p e below FE n0 Q (T.setTop (mkF m (pc + 1) Ls (.int (x.toInt8.toInt32) :: st)))) : Goes p e below FE n0 Q (T.setTop (mkF m pc Ls (.int x :: st))) :=
  Goes.via (fun _ k => XS.i2b X.here hx rfl hd rfl k) g
theorem own_i2s (X : Stand p l e R s m args below meth c T locs cells slots) (hx : p.tables.exec = Jvm.exec) {x : Int32} (hd : decode c.code pc = .ok (.i2s, 1))
    (g : Goes p e below FE n0 Q (T.setTop (mkF m (pc + 1) Ls (.int (x.toInt16.toInt32) :: st)))) : Goes p e below FE n0 Q (T.setTop (mkF m pc Ls (.int x :: st))) :=
  Goes.via (fun _ k => XS.i2s X.here hx rfl hd rfl k) g
theorem own_i2c (X : Stand p l e R s m args below meth c T locs cells slots) (hx : p.tables.exec = Jvm.exec) {x : Int32} (hd : decode c.code pc = .ok (.i2c, 1))
    (g : Goes p e below FE n0 Q (T.setTop (mkF m (pc + 1) Ls (.int (x.toUInt32.toUInt16.toUInt32.toInt32) :: st)))) : Goes p e below FE n0 Q (T.setTop (mkF m pc Ls (.int x :: st))) :=
  Goes.via (fun _ k => XS.i2c X.here hx rfl hd rfl k) g
theorem own_lcmp (X : Stand p l e R s m args below meth c T locs cells slots) (hx : p.tables.exec = Jvm.exec) {x y : Int64} (hd : decode c.code pc = .ok (.lcmp, 1))
    (g : Goes p e below FE n0 Q (T.setTop (mkF m (pc + 1) Ls (.int (lcmpW x y) :: st)))) : Goes p e below FE n0 Q (T.setTop (mkF m pc Ls (.long y :: .long x :: st))) :=
  Goes.via (fun _ k => XS.lcmp X.here hx rfl hd rfl k) g
theorem own_dup (X : Stand p l e R s m args below meth c T locs cells slots) (hx : p.tables.exec = Jvm.exec) {x : Value} (hd : decode c.code pc = .ok (.dup, 1)) (hc : x.category = 1)
    (g : Goes p e below FE n0 Q (T.setTop (mkF m (pc + 1) Ls (x :: x :: st)))) : Goes p e below FE n0 Q (T.setTop (mkF m pc Ls (x :: st))) :=
  Goes.via (fun _ k => XS.dup X.here hx rfl hd rfl hc k) g
theorem own_pop (X : Stand p l e R s m args below meth c T locs cells slots) (hx : p.tables.exec = Jvm.exec) {x : Value} (hd : decode c.code pc = .ok (.pop, 1)) (hc : x.category = 1)
    (g : Goes p e below FE n0 Q (T.setTop (mkF m (pc + 1) Ls st))) : Goes p e below FE n0 Q (T.setTop (mkF m pc Ls (x :: st))) :=
  Goes.via (fun _ k => XS.pop X.here hx rfl hd rfl hc k) g
theorem own_dup_x1 (X : Stand p l e R s m args below meth c T locs cells slots) (hx : p.tables.exec = Jvm.exec) {x y : Value} (hd : decode c.code pc = .ok (.dup_x1, 1)) (hc : x.category = 1) (hc' : y.category = 1)
    (g : Goes p e below FE n0 Q (T.setTop (mkF m (pc + 1) Ls (x :: y :: x :: st)))) : Goes p e below FE n0 Q (T.setTop (mkF m pc Ls (x :: y :: st))) :=
  Goes.via (fun _ k => XS.dupX1 X.here hx rfl hd rfl hc hc' k) g
theorem own_dup2 (X : Stand p l e R s m args below meth c T locs cells slots) (hx : p.tables.exec = Jvm.exec) {x y : Value} (hd : decode c.code pc = .ok (.dup2, 1)) (hc : x.category = 1) (hc' : y.category = 1)
    (g : Goes p e below FE n0 Q (T.setTop (mkF m (pc + 1) Ls (x :: y :: x :: y :: st)))) : Goes p e below FE n0 Q (T.setTop (mkF m pc Ls (x :: y :: st))) :=
  Goes.via (fun _ k => Jvm.Free.XT.dup2 X.here hx rfl hd rfl hc hc' k) g
theorem own_iinc (X : Stand p l e R s m args below meth c T locs cells slots) (hx : p.tables.exec = Jvm.exec) {k : Nat} {cst : Int} {x : Int32} (hd : decode c.code pc = .ok (.iinc k cst, 3)) (hl : Ls[k]? = some (.val (.int x))) (hl' : storeLocals Ls k (.int (x + Int32.ofInt cst)) = some Ls')
    (g : Goes p e below FE n0 Q (T.setTop (mkF m (pc + 3) Ls' st))) : Goes p e below FE n0 Q (T.setTop (mkF m pc Ls st)) :=
  Goes.via (fun _ k => XS.iinc X.here hx rfl hd hl hl' k) g
theorem own_goto (X : Stand p l e R s m args below meth c T locs cells slots) (hx : p.tables.exec = Jvm.exec) {o : Int} (hd : decode c.code pc = .ok (.goto o, 3)) (ho : 0 ≤ (pc : Int) + o) (hp : ((pc : Int) + o).toNat = pc')
    (g : Goes p e below FE n0 Q (T.setTop (mkF m pc' Ls st))) : Goes p e below FE n0 Q (T.setTop (mkF m pc Ls st)) :=
  Goes.via (fun _ k => XS.goto X.here hx rfl rfl hd ho hp k) g
theorem own_ifYes (X : Stand p l e R s m args below meth c T locs cells slots) (hx : p.tables.exec = Jvm.exec) {cd : ClassFile.Cond} {o : Int} {x : Int32} (hd : decode c.code pc = .ok (.ifCond cd o, 3)) (hc : ifCond.holds cd x = true) (ho : 0 ≤ (pc : Int) + o) (hp : ((pc : Int) + o).toNat = pc')
    (g : Goes p e below FE n0 Q (T.setTop (mkF m pc' Ls st))) : Goes p e below FE n0 Q (T.setTop (mkF m pc Ls (.int x :: st))) :=
  Goes.via (fun _ k => XS.ifYes X.here hx rfl rfl hd rfl hc ho hp k) g
theorem own_ifNo (X : Stand p l e R s m args below meth c T locs cells slots) (hx : p.tables.exec = Jvm.exec) {cd : ClassFile.Cond} {o : Int} {x : Int32} (hd : decode c.code pc = .ok (.ifCond cd o, 3)) (hc : ifCond.holds cd x = false)
    (g : Goes p e below FE n0 Q (T.setTop (mkF m (pc + 3) Ls st))) : Goes p e below FE n0 Q (T.setTop (mkF m pc Ls (.int x :: st))) :=
  Goes.via (fun _ k => XS.ifNo X.here hx rfl hd rfl hc k) g
theorem own_icmpYes (X : Stand p l e R s m args below meth c T locs cells slots) (hx : p.tables.exec = Jvm.exec) {cd : ClassFile.Cond} {o : Int} {x y : Int32} (hd : decode c.code pc = .ok (.if_icmp cd o, 3)) (hc : if_icmp.holds cd x y = true) (ho : 0 ≤ (pc : Int) + o) (hp : ((pc : Int) + o).toNat = pc')
    (g : Goes p e below FE n0 Q (T.setTop (mkF m pc' Ls st))) : Goes p e below FE n0 Q (T.setTop (mkF m pc Ls (.int y :: .int x :: st))) :=
  Goes.via (fun _ k => XS.icmpYes X.here hx rfl rfl hd rfl hc ho hp k) g
theorem own_icmpNo (X : Stand p l e R s m args below meth c T locs cells slots) (hx : p.tables.exec = Jvm.exec) {cd : ClassFile.Cond} {o : Int} {x y : Int32} (hd : decode c.code pc = .ok (.if_icmp cd o, 3)) (hc : if_icmp.holds cd x y = false)
    (g : Goes p e below FE n0 Q (T.setTop (mkF m (pc + 3) Ls st))) : Goes p e below FE n0 Q (T.setTop (mkF m pc Ls (.int y :: .int x :: st))) :=
  Goes.via (fun _ k => XS.icmpNo X.here hx rfl hd rfl hc k) g
theorem own_ifnullYes (X : Stand p l e R s m args below meth c T locs cells slots) (hx : p.tables.exec = Jvm.exec) {o : Int} (hd : decode c.code pc = .ok (.ifnull o, 3)) (ho : 0 ≤ (pc : Int) + o) (hp : ((pc : Int) + o).toNat = pc')
    (g : Goes p e below FE n0 Q (T.setTop (mkF m pc' Ls st))) : Goes p e below FE n0 Q (T.setTop (mkF m pc Ls (.null :: st))) :=
  Goes.via (fun _ k => XS.ifnullYes X.here hx rfl rfl hd rfl ho hp k) g
theorem own_ifnullNo (X : Stand p l e R s m args below meth c T locs cells slots) (hx : p.tables.exec = Jvm.exec) {o : Int} {b : Addr} (hd : decode c.code pc = .ok (.ifnull o, 3))
    (g : Goes p e below FE n0 Q (T.setTop (mkF m (pc + 3) Ls st))) : Goes p e below FE n0 Q (T.setTop (mkF m pc Ls (.ref b :: st))) :=
  Goes.via (fun _ k => XS.ifnullNo X.here hx rfl hd rfl k) g
theorem own_ifnonnullYes (X : Stand p l e R s m args below meth c T locs cells slots) (hx : p.tables.exec = Jvm.exec) {o : Int} {b : Addr} (hd : decode c.code pc = .ok (.ifnonnull o, 3)) (ho : 0 ≤ (pc : Int) + o) (hp : ((pc : Int) + o).toNat = pc')
    (g : Goes p e below FE n0 Q (T.setTop (mkF m pc' Ls st))) : Goes p e below FE n0 Q (T.setTop (mkF m pc Ls (.ref b :: st))) :=
  Goes.via (fun _ k => XS.ifnonnullYes X.here hx rfl rfl hd rfl ho hp k) g
theorem own_ifnonnullNo (X : Stand p l e R s m args below meth c T locs cells slots) (hx : p.tables.exec = Jvm.exec) {o : Int} (hd : decode c.code pc = .ok (.ifnonnull o, 3))
    (g : Goes p e below FE n0 Q (T.setTop (mkF m (pc + 3) Ls st))) : Goes p e below FE n0 Q (T.setTop (mkF m pc Ls (.null :: st))) :=
  Goes.via (fun _ k => XS.ifnonnullNo X.here hx rfl hd rfl k) g
theorem own_acmp (X : Stand p l e R s m args below meth c T locs cells slots) (hx : p.tables.exec = Jvm.exec) {cd : ACond} {x y : Value} {o : Int} {same : Bool} (h1 : x.isRef = true) (h2 : y.isRef = true) (hd : decode c.code pc = .ok (.if_acmp cd o, 3)) (hq : decide (x = y) = same) (ho : 0 ≤ (pc : Int) + o) (hp : pc' = if acV cd same = true then ((pc : Int) + o).toNat else pc + 3)
    (g : Goes p e below FE n0 Q (T.setTop (mkF m pc' Ls st))) : Goes p e below FE n0 Q (T.setTop (mkF m pc Ls (y :: x :: st))) :=
  Goes.via (fun _ k => Jvm.RoadKit.acmp (g := mkF m pc Ls (y :: x :: st)) X hx rfl h1 h2 rfl hd rfl hq ho hp k) g
theorem own_tswIn (X : Stand p l e R s m args below meth c T locs cells slots) (hx : p.tables.exec = Jvm.exec) {dflt low high : Int} {offs : Array Int} {len : Nat} {o : Int} {i : Int32} (hd : decode c.code pc = .ok (.tableswitch dflt low high offs, len)) (hin : ¬ (i.toInt < low ∨ i.toInt > high)) (hoff : offs[(i.toInt - low).toNat]? = some o) (ho : 0 ≤ (pc : Int) + o) (hp : ((pc : Int) + o).toNat = pc')
    (g : Goes p e below FE n0 Q (T.setTop (mkF m pc' Ls st))) : Goes p e below FE n0 Q (T.setTop (mkF m pc Ls (.int i :: st))) :=
  Goes.via (fun _ k => XS.tswIn X.here hx rfl rfl hd rfl hin hoff ho hp k) g
theorem own_tswOut (X : Stand p l e R s m args below meth c T locs cells slots) (hx : p.tables.exec = Jvm.exec) {dflt low high : Int} {offs : Array Int} {len : Nat} {i : Int32} (hd : decode c.code pc = .ok (.tableswitch dflt low high offs, len)) (hout : i.toInt < low ∨ i.toInt > high) (ho : 0 ≤ (pc : Int) + dflt) (hp : ((pc : Int) + dflt).toNat = pc')
    (g : Goes p e below FE n0 Q (T.setTop (mkF m pc' Ls st))) : Goes p e below FE n0 Q (T.setTop (mkF m pc Ls (.int i :: st))) :=
  Goes.via (fun _ k => XS.tswOut X.here hx rfl rfl hd rfl hout ho hp k) g
theorem own_ldcInt (X : Stand p l e R s m args below meth c T locs cells slots) (hx : p.tables.exec = Jvm.exec) (hZ : Z.Warmed39 s.vm) {own : String} {index : Nat} (hown : s.vm.findClass own = some m.cls) {v : Int32} (w : (Jvm.Cond.constant own index v).before a0 Z = true) (hd : decode c.code pc = .ok (.ldc index, 2))
    (g : Goes p e below FE n0 Q (T.setTop (mkF m (pc + 2) Ls (.int v :: st)))) : Goes p e below FE n0 Q (T.setTop (mkF m pc Ls st)) :=
  Goes.via (X.ldcInt hx hown (mvT hZ w) (g := mkF m pc Ls st) rfl hd) g
theorem own_ldcwInt (X : Stand p l e R s m args below meth c T locs cells slots) (hx : p.tables.exec = Jvm.exec) (hZ : Z.Warmed39 s.vm) {own : String} {index : Nat} (hown : s.vm.findClass own = some m.cls) {v : Int32} (w : (Jvm.Cond.constant own index v).before a0 Z = true) (hd : decode c.code pc = .ok (.ldc_w index, 3))
    (g : Goes p e below FE n0 Q (T.setTop (mkF m (pc + 3) Ls (.int v :: st)))) : Goes p e below FE n0 Q (T.setTop (mkF m pc Ls st)) :=
  Goes.via (X.ldcwInt hx hown (mvT hZ w) (g := mkF m pc Ls st) rfl hd) g
theorem own_ldc2Long (X : Stand p l e R s m args below meth c T locs cells slots) (hx : p.tables.exec = Jvm.exec) (hZ : Z.Warmed39 s.vm) {own : String} {index : Nat} (hown : s.vm.findClass own = some m.cls) {v : Int64} (w : (Jvm.Cond.constantLong own index v).before a0 Z = true) (hd : decode c.code pc = .ok (.ldc2_w index, 3))
    (g : Goes p e below FE n0 Q (T.setTop (mkF m (pc + 3) Ls (.long v :: st)))) : Goes p e below FE n0 Q (T.setTop (mkF m pc Ls st)) :=
  Goes.via (X.ldc2Long hx hown (mvT hZ w) (g := mkF m pc Ls st) rfl hd) g
theorem own_getF (X : Stand p l e R s m args below meth c T locs cells slots) (hx : p.tables.exec = Jvm.exec) (hZ : Z.Warmed39 s.vm) {own : String} {index : Nat} (hown : s.vm.findClass own = some m.cls) {R0 O n d host : String} (w : ((Jvm.Cond.fieldLink own index R0 n d).before a0 Z = true ∨ (Jvm.Cond.fieldLinkNest own index R0 n d host).before a0 Z = true)) (via : Via Z R0 O n d) (eT : T.heap = h) {a : Addr} {v : Value} (F : Fld Z h a O n d v) (hd : decode c.code pc = .ok (.getfield index, 3))
    (k : ∀ T', Stand p l e R s m args below meth c T' locs cells slots → T'.heap = h → Goes p e below FE n0 Q (T'.setTop (mkF m (pc + 3) Ls (v :: st)))) : Goes p e below FE n0 Q (T.setTop (mkF m pc Ls (.ref a :: st))) := by
  obtain ⟨T', X', e', st'⟩ := getF X hx hZ hown w via eT F (g := mkF m pc Ls (.ref a :: st)) rfl rfl hd
  exact Goes.via st' (k T' X' e')
theorem own_getS (X : Stand p l e R s m args below meth c T locs cells slots) (hx : p.tables.exec = Jvm.exec) (hZ : Z.Warmed39 s.vm) {own : String} {index : Nat} (hown : s.vm.findClass own = some m.cls) {R0 O n d host : String} (w : ((Jvm.Cond.fieldLink own index R0 n d).before a0 Z = true ∨ (Jvm.Cond.fieldLinkNest own index R0 n d host).before a0 Z = true)) (via : Via Z R0 O n d) (eT : T.heap = h) {v : Value} (F : Sta Z h O n d v) (hd : decode c.code pc = .ok (.getstatic index, 3))
    (k : ∀ T', Stand p l e R s m args below meth c T' locs cells slots → T'.heap = h → Goes p e below FE n0 Q (T'.setTop (mkF m (pc + 3) Ls (v :: st)))) : Goes p e below FE n0 Q (T.setTop (mkF m pc Ls st)) := by
  obtain ⟨T', X', e', st'⟩ := getS2 X hx hZ hown w via eT F (g := mkF m pc Ls st) rfl hd
  exact Goes.via st' (k T' X' e')
theorem own_initO (X : Stand p l e R s m args below meth c T locs cells slots) (hx : p.tables.exec = Jvm.exec) (hZ : Z.Warmed39 s.vm) {own : String} {index : Nat} (hown : s.vm.findClass own = some m.cls) (w1 : (Jvm.Cond.methodLink own index Lib.objectInit).before a0 Z = true) (w2 : (Jvm.Cond.instanceMethod Lib.objectInit).before a0 Z = true) (w3 : (Jvm.Cond.code Lib.objectInit ⟨#[0xb1]⟩ 1 none).before a0 Z = true) (eT : T.heap = h) (hsize : Ls.size = c.maxLocals) {a : Addr} (hd : decode c.code pc = .ok (.invokespecial index, 3)) (hf : 1 ≤ R.frames) {W : Nat} (hW : (st.map fun v => v.category).sum ≤ W) (hl : W + 12 ≤ R.locals)
    (k : ∀ T', Stand p l e R s m args below meth c T' locs cells slots → T'.heap = h → Goes p e below FE n0 Q (T'.setTop (mkF m (pc + 3) Ls st))) : Goes p e below FE n0 Q (T.setTop (mkF m pc Ls (.ref a :: st))) := by
  obtain ⟨T', X', e', st'⟩ := initO X hx hZ hown w1 w2 w3 eT (g := mkF m pc Ls (.ref a :: st)) rfl hsize rfl hd hf (W := W) (by show 2 * 0 + _ ≤ _; omega) hl
  exact Goes.via st' (k T' X' e')
theorem own_new (X : Stand p l e R s m args below meth c T locs cells slots) (hx : p.tables.exec = Jvm.exec) (hZ : Z.Warmed39 s.vm) {own : String} {index : Nat} (hown : s.vm.findClass own = some m.cls) {C : String} {nn : Nat} (w : (Jvm.Cond.classLink own index C).before a0 Z = true) (wi : (Jvm.Cond.instantiable C nn).before a0 Z = true) (wz : (Jvm.Cond.initialized C).before a0 Z = true) (eT : T.heap = h) (hd : decode c.code pc = .ok (.new index, 3)) (hc : cells + 1 ≤ R.cells) (hl : slots + nn ≤ R.slots)
    (k : ∀ T' h' b, b = h.size → Stand p l e R s m args below meth c T' locs (cells + 1) (slots + nn) → T'.heap = h' → Ext h h' → Exa Z h' b C → (∀ {O nm d : String} {ty : FieldType}, Laid Z a0 C O nm d → parseFieldDescriptor d = some ty → Fld Z h' b O nm d (defaultValue ty)) → Goes p e below FE n0 Q (T'.setTop (mkF m (pc + 3) Ls (.ref b :: st)))) : Goes p e below FE n0 Q (T.setTop (mkF m pc Ls st)) := by
  obtain ⟨T', h', X', e', E', A', D', -, st'⟩ := newO X hx hZ hown w wi wz eT (g := mkF m pc Ls st) rfl hd hc hl
  exact Goes.via st' (k T' h' _ rfl X' e' E' A' D')
theorem own_putF (X : Stand p l e R s m args below meth c T locs cells slots) (hx : p.tables.exec = Jvm.exec) (hZ : Z.Warmed39 s.vm) {own : String} {index : Nat} (hown : s.vm.findClass own = some m.cls) {R0 O n d host C : String} {kk : Nat} {ty : FieldType} (N : Fr n0 locs) (w : ((Jvm.Cond.fieldLink own index R0 n d).before a0 Z = true ∨ (Jvm.Cond.fieldLinkNest own index R0 n d host).before a0 Z = true)) (via : Via Z R0 O n d) (eT : T.heap = h) {a : Addr} {v old : Value} (F : Fld Z h a O n d old) (E : Exa Z h a C) (L : (Jvm.Cond.lays C O n d).before a0 Z = true ∨ ((Jvm.Cond.laysFinal C O n d).before a0 Z = true ∧ own = O ∧ meth.name = "<init>")) (wi : (Jvm.Cond.instantiable C kk).before a0 Z = true) (hty : parseFieldDescriptor d = some ty) (hn : narrow ty v = v) (hf : fits ty v = true) (hge : n0 ≤ a) (hd : decode c.code pc = .ok (.putfield index, 3))
    (k : ∀ T' h' locs', Stand p l e R s m args below meth c T' locs' cells slots → T'.heap = h' → Fr n0 locs' → Wr h h' a (RoadKit.slotOf Z O n d) v → Goes p e below FE n0 Q (T'.setTop (mkF m (pc + 3) Ls st))) : Goes p e below FE n0 Q (T.setTop (mkF m pc Ls (v :: .ref a :: st))) := by
  obtain ⟨T', h', X', e', W', st'⟩ := putF X hx hZ hown w via eT F E L wi hty hn hf (g := mkF m pc Ls (v :: .ref a :: st)) rfl rfl hd
  exact Goes.via st' (k T' h' _ X' e' (Fr.snoc X' N hge) W')
theorem own_castY (X : Stand p l e R s m args below meth c T locs cells slots) (hx : p.tables.exec = Jvm.exec) (hZ : Z.Warmed39 s.vm) {own : String} {index : Nat} (hown : s.vm.findClass own = some m.cls) {K : String} (w : (Jvm.Cond.classLink own index K).before a0 Z = true) (eT : T.heap = h) {a : Addr} (F : Ins Z h a K true) (hd : decode c.code pc = .ok (.checkcast index, 3))
    (k : ∀ T', Stand p l e R s m args below meth c T' locs cells slots → T'.heap = h → Goes p e below FE n0 Q (T'.setTop (mkF m (pc + 3) Ls (.ref a :: st)))) : Goes p e below FE n0 Q (T.setTop (mkF m pc Ls (.ref a :: st))) := by
  obtain ⟨T', X', e', st'⟩ := castY X hx hZ hown w eT F (g := mkF m pc Ls (.ref a :: st)) rfl rfl hd
  exact Goes.via st' (k T' X' e')
theorem own_castNull (X : Stand p l e R s m args below meth c T locs cells slots) (hx : p.tables.exec = Jvm.exec) {index : Nat} (hd : decode c.code pc = .ok (.checkcast index, 3))
    (g : Goes p e below FE n0 Q (T.setTop (mkF m (pc + 3) Ls (.null :: st)))) : Goes p e below FE n0 Q (T.setTop (mkF m pc Ls (.null :: st))) :=
  Goes.via (X.checkcastNull hx (g := mkF m pc Ls (.null :: st)) rfl rfl hd) g
theorem own_instNull (X : Stand p l e R s m args below meth c T locs cells slots) (hx : p.tables.exec = Jvm.exec) {index : Nat} (hd : decode c.code pc = .ok (.instanceof index, 3))
    (g : Goes p e below FE n0 Q (T.setTop (mkF m (pc + 3) Ls (.int 0 :: st)))) : Goes p e below FE n0 Q (T.setTop (mkF m pc Ls (.null :: st))) :=
  Goes.via (X.instanceofNull hx (g := mkF m pc Ls (.null :: st)) rfl rfl hd) g
theorem own_instY (X : Stand p l e R s m args below meth c T locs cells slots) (hx : p.tables.exec = Jvm.exec) (hZ : Z.Warmed39 s.vm) {own : String} {index : Nat} (hown : s.vm.findClass own = some m.cls) {K : String} (w : (Jvm.Cond.classLink own index K).before a0 Z = true) (eT : T.heap = h) {a : Addr} (F : Ins Z h a K true) (hd : decode c.code pc = .ok (.instanceof index, 3))
    (k : ∀ T', Stand p l e R s m args below meth c T' locs cells slots → T'.heap = h → Goes p e below FE n0 Q (T'.setTop (mkF m (pc + 3) Ls (.int 1 :: st)))) : Goes p e below FE n0 Q (T.setTop (mkF m pc Ls (.ref a :: st))) := by
  obtain ⟨T', X', e', st'⟩ := instY X hx hZ hown w eT F (g := mkF m pc Ls (.ref a :: st)) rfl rfl hd
  exact Goes.via st' (k T' X' e')
theorem own_instN (X : Stand p l e R s m args below meth c T locs cells slots) (hx : p.tables.exec = Jvm.exec) (hZ : Z.Warmed39 s.vm) {own : String} {index : Nat} (hown : s.vm.findClass own = some m.cls) {K C : String} (w : (Jvm.Cond.classLink own index K).before a0 Z = true) (eT : T.heap = h) {a : Addr} (E : Exa Z h a C) (F : ∃ c t, Z.vm.findClass C = some c ∧ Z.vm.findClass K = some t ∧ Z.vm.assignable c t = false) (hd : decode c.code pc = .ok (.instanceof index, 3))
    (k : ∀ T', Stand p l e R s m args below meth c T' locs cells slots → T'.heap = h → Goes p e below FE n0 Q (T'.setTop (mkF m (pc + 3) Ls (.int 0 :: st)))) : Goes p e below FE n0 Q (T.setTop (mkF m pc Ls (.ref a :: st))) := by
  obtain ⟨T', X', e', st'⟩ := instNo X hx hZ hown w eT E F (g := mkF m pc Ls (.ref a :: st)) rfl rfl hd
  exact Goes.via st' (k T' X' e')
theorem own_lsw (X : Stand p l e R s m args below meth c T locs cells slots) (hx : p.tables.exec = Jvm.exec) {dflt : Int} {prs : Array (Int × Int)} {len : Nat} {o kk : Int} {i : Int32} (hd : decode c.code pc = .ok (.lookupswitch dflt prs, len)) (hso : (prs.toList.zip (prs.toList.drop 1)).all (fun (a, next) => a.1 < next.1) = true) (hf : prs.find? (·.1 == i.toInt) = some (kk, o)) (ho : 0 ≤ (pc : Int) + o) (hp : ((pc : Int) + o).toNat = pc')
    (g : Goes p e below FE n0 Q (T.setTop (mkF m pc' Ls st))) : Goes p e below FE n0 Q (T.setTop (mkF m pc Ls (.int i :: st))) := by
  subst hp
  exact Goes.via (X.lookupswitchHit hx (g := mkF m pc Ls (.int i :: st)) rfl rfl hd hso hf ho) g
theorem own_clone (X : Stand p l e R s m args below meth c T locs cells slots) (hx : p.tables.exec = Jvm.exec) (hZ : Z.Warmed39 s.vm) {own : String} {index : Nat} (hown : s.vm.findClass own = some m.cls) {ad : String} (w1 : (Jvm.Cond.methodLink own index ⟨ad, "clone", "()Ljava/lang/Object;"⟩).before a0 Z = true) (w2 : (Jvm.Cond.sameMethod ad "java/lang/Object" "clone" "()Ljava/lang/Object;").before a0 Z = true) (w3 : (Jvm.Cond.native ⟨"java/lang/Object", "clone", "()Ljava/lang/Object;"⟩).before a0 Z = true) (w4 : (Jvm.Cond.instanceMethod ⟨"java/lang/Object", "clone", "()Ljava/lang/Object;"⟩).before a0 Z = true) (w5 : (Jvm.Cond.selects ad ⟨ad, "clone", "()Ljava/lang/Object;"⟩ ⟨"java/lang/Object", "clone", "()Ljava/lang/Object;"⟩).before a0 Z = true) (w6 : (Jvm.Cond.castable ad "java/lang/Cloneable").before a0 Z = true) (eT : T.heap = h) {a : Addr} {k : ClassId} {ty : FieldType} {z : Int32} {vs : List Value} {dv : Value} (F : Arv Z h a k ty z vs dv) (E : Exa Z h a ad) (hsize : Ls.size = c.maxLocals) (hd : decode c.code pc = .ok (.invokevirtual index, 3)) (hf : 1 ≤ R.frames) {W cap : Nat} (hW : (st.map fun v => v.category).sum ≤ W) (hl : W + 14 ≤ R.locals) (hcap : z.toNatClampNeg ≤ cap) (hc : cells + 1 ≤ R.cells) (hsl : slots + cap ≤ R.slots)
    (k : ∀ T' h' b, b = h.size → Stand p l e R s m args below meth c T' locs (cells + 1) (slots + cap) → T'.heap = h' → Ext h h' → Arv Z h' b k ty z vs dv → Exa Z h' b ad → Goes p e below FE n0 Q (T'.setTop (mkF m (pc + 3) Ls (.ref b :: st)))) : Goes p e below FE n0 Q (T.setTop (mkF m pc Ls (.ref a :: st))) := by
  obtain ⟨T', h', X', e', E', A', Ex', st'⟩ := cloneH X hx hZ hown w1 w2 w3 w4 w5 w6 eT F.arh E (g := mkF m pc Ls (.ref a :: st)) rfl hsize rfl hd hf (W := W) (cap := cap) (by show 2 * 0 + _ ≤ _; omega) hl hcap hc hsl
  exact Goes.via st' (k T' h' _ rfl X' e' E' A' Ex')
theorem own_iaload (X : Stand p l e R s m args below meth c T locs cells slots) (hx : p.tables.exec = Jvm.exec) (hZ : Z.Warmed39 s.vm) (eT : T.heap = h) {a : Addr} {k : ClassId} {z j : Int32} {vs : List Value} {dv v : Value} (F : Arv Z h a k .int z vs dv) (hj : ¬ j < 0 ∧ j < z) (hv : vs.getD j.toNatClampNeg dv = v) (hd : decode c.code pc = .ok (.iaload, 1))
    (g : Goes p e below FE n0 Q (T.setTop (mkF m (pc + 1) Ls (v :: st)))) : Goes p e below FE n0 Q (T.setTop (mkF m pc Ls (.int j :: .ref a :: st))) := by
  obtain ⟨cl, A, -, S, -, H, -⟩ := F
  exact Goes.via (fun t k => X.iaload hx (j := j) (v := v) (by rw [eT]; exact A.1) (State.isArrayOf_alike hZ.alike A.2.1) A.2.2 (inb_of S hj) (H.at (inb_of S hj) hv) (g := mkF m pc Ls (.int j :: .ref a :: st)) rfl rfl hd t k) g
theorem own_laload (X : Stand p l e R s m args below meth c T locs cells slots) (hx : p.tables.exec = Jvm.exec) (hZ : Z.Warmed39 s.vm) (eT : T.heap = h) {a : Addr} {k : ClassId} {z j : Int32} {vs : List Value} {dv v : Value} (F : Arv Z h a k .long z vs dv) (hj : ¬ j < 0 ∧ j < z) (hv : vs.getD j.toNatClampNeg dv = v) (hd : decode c.code pc = .ok (.laload, 1))
    (g : Goes p e below FE n0 Q (T.setTop (mkF m (pc + 1) Ls (v :: st)))) : Goes p e below FE n0 Q (T.setTop (mkF m pc Ls (.int j :: .ref a :: st))) := by
  obtain ⟨cl, A, -, S, -, H, -⟩ := F
  exact Goes.via (fun t k => X.laload hx (j := j) (v := v) (by rw [eT]; exact A.1) (State.isArrayOf_alike hZ.alike A.2.1) A.2.2 (inb_of S hj) (H.at (inb_of S hj) hv) (g := mkF m pc Ls (.int j :: .ref a :: st)) rfl rfl hd t k) g
theorem own_caload (X : Stand p l e R s m args below meth c T locs cells slots) (hx : p.tables.exec = Jvm.exec) (hZ : Z.Warmed39 s.vm) (eT : T.heap = h) {a : Addr} {k : ClassId} {z j : Int32} {vs : List Value} {dv v : Value} (F : Arv Z h a k .char z vs dv) (hj : ¬ j < 0 ∧ j < z) (hv : vs.getD j.toNatClampNeg dv = v) (hd : decode c.code pc = .ok (.caload, 1))
    (g : Goes p e below FE n0 Q (T.setTop (mkF m (pc + 1) Ls (v :: st)))) : Goes p e below FE n0 Q (T.setTop (mkF m pc Ls (.int j :: .ref a :: st))) := by
  obtain ⟨cl, A, -, S, -, H, -⟩ := F
  exact Goes.via (fun t k => X.caload hx (j := j) (v := v) (by rw [eT]; exact A.1) (State.isArrayOf_alike hZ.alike A.2.1) A.2.2 (inb_of S hj) (H.at (inb_of S hj) hv) (g := mkF m pc Ls (.int j :: .ref a :: st)) rfl rfl hd t k) g
theorem own_baload (X : Stand p l e R s m args below meth c T locs cells slots) (hx : p.tables.exec = Jvm.exec) (hZ : Z.Warmed39 s.vm) (eT : T.heap = h) {a : Addr} {k : ClassId} {z j : Int32} {vs : List Value} {dv v : Value} (F : Arv Z h a k .byte z vs dv) (hj : ¬ j < 0 ∧ j < z) (hv : vs.getD j.toNatClampNeg dv = v) (hd : decode c.code pc = .ok (.baload, 1))
    (g : Goes p e below FE n0 Q (T.setTop (mkF m (pc + 1) Ls (v :: st)))) : Goes p e below FE n0 Q (T.setTop (mkF m pc Ls (.int j :: .ref a :: st))) := by
  obtain ⟨cl, A, -, S, -, H, -⟩ := F
  exact Goes.via (fun t k => X.baloadBytes hx (j := j) (v := v) (by rw [eT]; exact A.1) (State.isArrayOf_alike hZ.alike A.2.1) A.2.2 (inb_of S hj) (H.at (inb_of S hj) hv) (g := mkF m pc Ls (.int j :: .ref a :: st)) rfl rfl hd t k) g
theorem own_aaload (X : Stand p l e R s m args below meth c T locs cells slots) (hx : p.tables.exec = Jvm.exec) (hZ : Z.Warmed39 s.vm) (eT : T.heap = h) {a : Addr} {k : ClassId} {ty : FieldType} {z j : Int32} {vs : List Value} {dv v : Value} (F : Arv Z h a k ty z vs dv) (hty : ty.isReference = true) (hj : ¬ j < 0 ∧ j < z) (hv : vs.getD j.toNatClampNeg dv = v) (hd : decode c.code pc = .ok (.aaload, 1))
    (g : Goes p e below FE n0 Q (T.setTop (mkF m (pc + 1) Ls (v :: st)))) : Goes p e below FE n0 Q (T.setTop (mkF m pc Ls (.int j :: .ref a :: st))) := by
  obtain ⟨cl, A, -, S, -, H, -⟩ := F
  exact Goes.via (fun t k => X.aaload hx (j := j) (v := v) (by rw [eT]; exact A.1) (State.isArrayOf_alike hZ.alike A.2.1) hty A.2.2 (inb_of S hj) (H.at (inb_of S hj) hv) (g := mkF m pc Ls (.int j :: .ref a :: st)) rfl rfl hd t k) g
theorem own_aaloadC (X : Stand p l e R s m args below meth c T locs cells slots) (hx : p.tables.exec = Jvm.exec) (hZ : Z.Warmed39 s.vm) (eT : T.heap = h) {a : Addr} {cl : Cell} {ty : FieldType} {j : Int32} {v : Value} (A : Arr Z h a cl ty) (hty : ty.isReference = true) (hj : ¬ (j < 0 ∨ cl.slots.size ≤ j.toNatClampNeg)) (hv : cl.slots[j.toNatClampNeg]? = some v) (hd : decode c.code pc = .ok (.aaload, 1))
    (g : Goes p e below FE n0 Q (T.setTop (mkF m (pc + 1) Ls (v :: st)))) : Goes p e below FE n0 Q (T.setTop (mkF m pc Ls (.int j :: .ref a :: st))) :=
  Goes.via (fun t k => X.aaload hx (j := j) (v := v) (by rw [eT]; exact A.1) (State.isArrayOf_alike hZ.alike A.2.1) hty A.2.2 hj hv (g := mkF m pc Ls (.int j :: .ref a :: st)) rfl rfl hd t k) g
theorem own_alen (X : Stand p l e R s m args below meth c T locs cells slots) (hx : p.tables.exec = Jvm.exec) (hZ : Z.Warmed39 s.vm) (eT : T.heap = h) {a : Addr} {k : ClassId} {ty : FieldType} {z : Int32} {vs : List Value} {dv : Value} (F : Arv Z h a k ty z vs dv) (hd : decode c.code pc = .ok (.arraylength, 1))
    (g : Goes p e below FE n0 Q (T.setTop (mkF m (pc + 1) Ls (.int z :: st)))) : Goes p e below FE n0 Q (T.setTop (mkF m pc Ls (.ref a :: st))) := by
  obtain ⟨cl, A, -, S, hz, -, -⟩ := F
  rw [← len_of S hz] at g
  exact Goes.via (fun t k => X.arraylength hx (by rw [eT]; exact A.1) (State.isArrayOf_alike hZ.alike A.2.1) (g := mkF m pc Ls (.ref a :: st)) rfl rfl hd t k) g
theorem own_newP (X : Stand p l e R s m args below meth c T locs cells slots) (hx : p.tables.exec = Jvm.exec) (hZ : Z.Warmed39 s.vm) {aty : ArrayType} (w : (Jvm.Cond.arrayClass (newarray.typeOf aty)).before a0 Z = true) (eT : T.heap = h) {n : Int32} (hd : decode c.code pc = .ok (.newarray aty, 2)) (hn : ¬ n < 0) {cap : Nat} (hcap : n.toNatClampNeg ≤ cap) (hb : cap * 8 ≤ 536870912) (hc : cells + 1 ≤ R.cells) (hl : slots + cap ≤ R.slots)
    (k : ∀ T' h' b cA, b = h.size → Stand p l e R s m args below meth c T' locs (cells + 1) (slots + cap) → T'.heap = h' → Ext h h' → Arv Z h' b cA (newarray.typeOf aty) n [] (defaultValue (newarray.typeOf aty)) → Goes p e below FE n0 Q (T'.setTop (mkF m (pc + 2) Ls (.ref b :: st)))) : Goes p e below FE n0 Q (T.setTop (mkF m pc Ls (.int n :: st))) := by
  obtain ⟨T', h', cA, X', e', E', A', st'⟩ := newP X hx hZ w eT (g := mkF m pc Ls (.int n :: st)) rfl hd rfl hn hcap hb hc hl
  exact Goes.via st' (k T' h' _ cA rfl X' e' E' (Arv.new A' hn))
theorem own_newR (X : Stand p l e R s m args below meth c T locs cells slots) (hx : p.tables.exec = Jvm.exec) (hZ : Z.Warmed39 s.vm) {own : String} {index : Nat} (hown : s.vm.findClass own = some m.cls) {C : String} (w1 : (Jvm.Cond.classLink own index C).before a0 Z = true) (w2 : (Jvm.Cond.arrayOver (.object C)).before a0 Z = true) (eT : T.heap = h) {n : Int32} (hd : decode c.code pc = .ok (.anewarray index, 3)) (hn : ¬ n < 0) {cap : Nat} (hcap : n.toNatClampNeg ≤ cap) (hb : cap * 8 ≤ 536870912) (hc : cells + 1 ≤ R.cells) (hl : slots + cap ≤ R.slots)
    (k : ∀ T' h' b cA, b = h.size → Stand p l e R s m args below meth c T' locs (cells + 1) (slots + cap) → T'.heap = h' → Ext h h' → Arv Z h' b cA (.object C) n [] .null → Ovr Z cA C → Goes p e below FE n0 Q (T'.setTop (mkF m (pc + 3) Ls (.ref b :: st)))) : Goes p e below FE n0 Q (T.setTop (mkF m pc Ls (.int n :: st))) := by
  obtain ⟨T', h', cA, X', e', E', A', O', st'⟩ := newR X hx hZ hown w1 w2 eT (g := mkF m pc Ls (.int n :: st)) rfl hd rfl hn hcap hb hc hl
  exact Goes.via st' (k T' h' _ cA rfl X' e' E' (Arv.new A' hn) O')
theorem own_newPE (X : Stand p l e R s m args below meth c T locs cells slots) (hx : p.tables.exec = Jvm.exec) (hZ : Z.Warmed39 s.vm) {aty : ArrayType} (w : (Jvm.Cond.arrayClass (newarray.typeOf aty)).before a0 Z = true) (eT : T.heap = h) {n : Int32} {ad : String} (had : "[" ++ (newarray.typeOf aty).toString = ad) (hd : decode c.code pc = .ok (.newarray aty, 2)) (hn : ¬ n < 0) {cap : Nat} (hcap : n.toNatClampNeg ≤ cap) (hb : cap * 8 ≤ 536870912) (hc : cells + 1 ≤ R.cells) (hl : slots + cap ≤ R.slots)
    (k : ∀ T' h' b cA, b = h.size → Stand p l e R s m args below meth c T' locs (cells + 1) (slots + cap) → T'.heap = h' → Ext h h' → Arv Z h' b cA (newarray.typeOf aty) n [] (defaultValue (newarray.typeOf aty)) → Exa Z h' b ad → Goes p e below FE n0 Q (T'.setTop (mkF m (pc + 2) Ls (.ref b :: st)))) : Goes p e below FE n0 Q (T.setTop (mkF m pc Ls (.int n :: st))) := by
  obtain ⟨T', h', cA, X', e', E', A', Ex', st'⟩ := newPE X hx hZ w eT (g := mkF m pc Ls (.int n :: st)) rfl hd rfl hn hcap hb hc hl had
  exact Goes.via st' (k T' h' _ cA rfl X' e' E' (Arv.new A' hn) Ex')
theorem own_newRE (X : Stand p l e R s m args below meth c T locs cells slots) (hx : p.tables.exec = Jvm.exec) (hZ : Z.Warmed39 s.vm) {own : String} {index : Nat} (hown : s.vm.findClass own = some m.cls) {C ad : String} (had : "[" ++ (FieldType.object C).toString = ad) (w1 : (Jvm.Cond.classLink own index C).before a0 Z = true) (w2 : (Jvm.Cond.arrayOver (.object C)).before a0 Z = true) (eT : T.heap = h) {n : Int32} (hd : decode c.code pc = .ok (.anewarray index, 3)) (hn : ¬ n < 0) {cap : Nat} (hcap : n.toNatClampNeg ≤ cap) (hb : cap * 8 ≤ 536870912) (hc : cells + 1 ≤ R.cells) (hl : slots + cap ≤ R.slots)
    (k : ∀ T' h' b cA, b = h.size → Stand p l e R s m args below meth c T' locs (cells + 1) (slots + cap) → T'.heap = h' → Ext h h' → Arv Z h' b cA (.object C) n [] .null → Ovr Z cA C → Exa Z h' b ad → Goes p e below FE n0 Q (T'.setTop (mkF m (pc + 3) Ls (.ref b :: st)))) : Goes p e below FE n0 Q (T.setTop (mkF m pc Ls (.int n :: st))) := by
  obtain ⟨T', h', cA, X', e', E', A', Ex', O', st'⟩ := newRE X hx hZ hown w1 w2 eT (g := mkF m pc Ls (.int n :: st)) rfl hd rfl hn hcap hb hc hl had
  exact Goes.via st' (k T' h' _ cA rfl X' e' E' (Arv.new A' hn) O' Ex')
theorem own_newRA (X : Stand p l e R s m args below meth c T locs cells slots) (hx : p.tables.exec = Jvm.exec) (hZ : Z.Warmed39 s.vm) {own : String} {index : Nat} (hown : s.vm.findClass own = some m.cls) {C ad : String} {ty : FieldType} (hC : (FieldType.array ty).toString = C) (had : "[" ++ C = ad) (w1 : (Jvm.Cond.classLink own index C).before a0 Z = true) (w2 : (Jvm.Cond.arrayOver (.array ty)).before a0 Z = true) (eT : T.heap = h) {n : Int32} (hd : decode c.code pc = .ok (.anewarray index, 3)) (hn : ¬ n < 0) {cap : Nat} (hcap : n.toNatClampNeg ≤ cap) (hb : cap * 8 ≤ 536870912) (hc : cells + 1 ≤ R.cells) (hl : slots + cap ≤ R.slots)
    (k : ∀ T' h' b cA, b = h.size → Stand p l e R s m args below meth c T' locs (cells + 1) (slots + cap) → T'.heap = h' → Ext h h' → Arv Z h' b cA (.array ty) n [] .null → OvrA Z cA ty C → Goes p e below FE n0 Q (T'.setTop (mkF m (pc + 3) Ls (.ref b :: st)))) : Goes p e below FE n0 Q (T.setTop (mkF m pc Ls (.int n :: st))) := by
  obtain ⟨T', h', cA, X', e', E', A', Ex', O', st'⟩ := newRA X hx hZ hown hC w1 w2 eT (g := mkF m pc Ls (.int n :: st)) rfl hd rfl hn hcap hb hc hl had
  exact Goes.via st' (k T' h' _ cA rfl X' e' E' (Arv.new A' hn) O')
theorem own_iastore (X : Stand p l e R s m args below meth c T locs cells slots) (hx : p.tables.exec = Jvm.exec) (hZ : Z.Warmed39 s.vm) (N : Fr n0 locs) (eT : T.heap = h) {a : Addr} {k : ClassId} {z j : Int32} {vs : List Value} {dv : Value} {x : Int32} (F : Arv Z h a k .int z vs dv) (hj : ¬ j < 0 ∧ j < z) {i : Nat} (hi : j.toNatClampNeg = i) (hlen : i < vs.length) (hge : n0 ≤ a) (hd : decode c.code pc = .ok (.iastore, 1))
    (k : ∀ T' h' locs', Stand p l e R s m args below meth c T' locs' cells slots → T'.heap = h' → Fr n0 locs' → Wr h h' a j.toNatClampNeg (.int x) → Arv Z h' a k .int z (vs.set i (.int x)) dv → Goes p e below FE n0 Q (T'.setTop (mkF m (pc + 1) Ls st))) : Goes p e below FE n0 Q (T.setTop (mkF m pc Ls (.int x :: .int j :: .ref a :: st))) := by
  obtain ⟨cl, A, q1, S, q3, H, G⟩ := F
  obtain ⟨T', h', X', e', W', st'⟩ := stI X hx hZ eT A (j := j) (inb_of S hj) (g := mkF m pc Ls (.int x :: .int j :: .ref a :: st)) rfl rfl hd
  exact Goes.via st' (k T' h' _ X' e' (Fr.snoc X' N hge) W' (Arv.set A q1 S q3 H G rfl W' i hi hlen))
theorem own_lastore (X : Stand p l e R s m args below meth c T locs cells slots) (hx : p.tables.exec = Jvm.exec) (hZ : Z.Warmed39 s.vm) (N : Fr n0 locs) (eT : T.heap = h) {a : Addr} {k : ClassId} {z j : Int32} {vs : List Value} {dv : Value} {x : Int64} (F : Arv Z h a k .long z vs dv) (hj : ¬ j < 0 ∧ j < z) {i : Nat} (hi : j.toNatClampNeg = i) (hlen : i < vs.length) (hge : n0 ≤ a) (hd : decode c.code pc = .ok (.lastore, 1))
    (k : ∀ T' h' locs', Stand p l e R s m args below meth c T' locs' cells slots → T'.heap = h' → Fr n0 locs' → Wr h h' a j.toNatClampNeg (.long x) → Arv Z h' a k .long z (vs.set i (.long x)) dv → Goes p e below FE n0 Q (T'.setTop (mkF m (pc + 1) Ls st))) : Goes p e below FE n0 Q (T.setTop (mkF m pc Ls (.long x :: .int j :: .ref a :: st))) := by
  obtain ⟨cl, A, q1, S, q3, H, G⟩ := F
  obtain ⟨T', h', X', e', W', st'⟩ := stJ X hx hZ eT A (j := j) (inb_of S hj) (g := mkF m pc Ls (.long x :: .int j :: .ref a :: st)) rfl rfl hd
  exact Goes.via st' (k T' h' _ X' e' (Fr.snoc X' N hge) W' (Arv.set A q1 S q3 H G rfl W' i hi hlen))
theorem own_castore (X : Stand p l e R s m args below meth c T locs cells slots) (hx : p.tables.exec = Jvm.exec) (hZ : Z.Warmed39 s.vm) (N : Fr n0 locs) (eT : T.heap = h) {a : Addr} {k : ClassId} {z j : Int32} {vs : List Value} {dv : Value} {x : Int32} (F : Arv Z h a k .char z vs dv) (hj : ¬ j < 0 ∧ j < z) {i : Nat} (hi : j.toNatClampNeg = i) (hlen : i < vs.length) (hge : n0 ≤ a) (hd : decode c.code pc = .ok (.castore, 1))
    (k : ∀ T' h' locs', Stand p l e R s m args below meth c T' locs' cells slots → T'.heap = h' → Fr n0 locs' → Wr h h' a j.toNatClampNeg (.int (nar .char x)) → Arv Z h' a k .char z (vs.set i (.int (nar .char x))) dv → Goes p e below FE n0 Q (T'.setTop (mkF m (pc + 1) Ls st))) : Goes p e below FE n0 Q (T.setTop (mkF m pc Ls (.int x :: .int j :: .ref a :: st))) := by
  obtain ⟨cl, A, q1, S, q3, H, G⟩ := F
  obtain ⟨T', h', X', e', W', st'⟩ := stC X hx hZ eT A (j := j) (inb_of S hj) (g := mkF m pc Ls (.int x :: .int j :: .ref a :: st)) rfl rfl hd
  exact Goes.via st' (k T' h' _ X' e' (Fr.snoc X' N hge) W' (Arv.set A q1 S q3 H G (fits_nar_char _) W' i hi hlen))
theorem own_bastore (X : Stand p l e R s m args below meth c T locs cells slots) (hx : p.tables.exec = Jvm.exec) (hZ : Z.Warmed39 s.vm) (N : Fr n0 locs) (eT : T.heap = h) {a : Addr} {k : ClassId} {z j : Int32} {vs : List Value} {dv : Value} {x : Int32} (F : Arv Z h a k .byte z vs dv) (hj : ¬ j < 0 ∧ j < z) {i : Nat} (hi : j.toNatClampNeg = i) (hlen : i < vs.length) (hge : n0 ≤ a) (hd : decode c.code pc = .ok (.bastore, 1))
    (k : ∀ T' h' locs', Stand p l e R s m args below meth c T' locs' cells slots → T'.heap = h' → Fr n0 locs' → Wr h h' a j.toNatClampNeg (.int (x.toInt8.toInt32)) → Arv Z h' a k .byte z (vs.set i (.int (x.toInt8.toInt32))) dv → Goes p e below FE n0 Q (T'.setTop (mkF m (pc + 1) Ls st))) : Goes p e below FE n0 Q (T.setTop (mkF m pc Ls (.int x :: .int j :: .ref a :: st))) := by
  obtain ⟨cl, A, q1, S, q3, H, G⟩ := F
  obtain ⟨T', h', X', e', W', st'⟩ := stB X hx hZ eT A (j := j) (inb_of S hj) (g := mkF m pc Ls (.int x :: .int j :: .ref a :: st)) rfl rfl hd
  exact Goes.via st' (k T' h' _ X' e' (Fr.snoc X' N hge) W' (Arv.set A q1 S q3 H G (fits_nar_byte _) W' i hi hlen))
theorem own_aastore (X : Stand p l e R s m args below meth c T locs cells slots) (hx : p.tables.exec = Jvm.exec) (hZ : Z.Warmed39 s.vm) (N : Fr n0 locs) (eT : T.heap = h) {a : Addr} {k : ClassId} {ty : FieldType} {z j : Int32} {vs : List Value} {dv v : Value} (F : Arv Z h a k ty z vs dv) (hty : ty.isReference = true) (hfit : fits ty v = true) (hj : ¬ j < 0 ∧ j < z) {i : Nat} (hi : j.toNatClampNeg = i) (hlen : i < vs.length) (hge : n0 ≤ a) (hst : ∀ cl, Arr Z h a cl ty → cl.cls = k → Sto Z h a v) (hd : decode c.code pc = .ok (.aastore, 1))
    (k : ∀ T' h' locs', Stand p l e R s m args below meth c T' locs' cells slots → T'.heap = h' → Fr n0 locs' → Wr h h' a j.toNatClampNeg v → Arv Z h' a k ty z (vs.set i v) dv → Goes p e below FE n0 Q (T'.setTop (mkF m (pc + 1) Ls st))) : Goes p e below FE n0 Q (T.setTop (mkF m pc Ls (v :: .int j :: .ref a :: st))) := by
  obtain ⟨cl, A, q1, S, q3, H, G⟩ := F
  obtain ⟨T', h', X', e', W', st'⟩ := stR X hx hZ eT A (j := j) (inb_of S hj) hty (hst cl A q1) (g := mkF m pc Ls (v :: .int j :: .ref a :: st)) rfl rfl hd
  exact Goes.via st' (k T' h' _ X' e' (Fr.snoc X' N hge) W' (Arv.set A q1 S q3 H G hfit W' i hi hlen))
theorem own_selfsel {y : MethodName} {nn : Nat} (wi : (Jvm.Cond.instantiable y.cls nn).before a0 Z = true) (w2 : (Jvm.Cond.instanceMethod y).before a0 Z = true) (w6 : (Jvm.Cond.privateMethod y).before a0 Z = true) (hy : y.cls ≠ "java/lang/invoke/MethodHandle" ∧ y.cls ≠ "java/lang/invoke/VarHandle") : (Jvm.Cond.selects y.cls y y).before a0 Z = true := by
  obtain ⟨c, k, h1, h2, -, h4, -⟩ := Cond.instantiable_spec wi
  exact selects_self_of_private h1 h2 (by rw [Bool.or_eq_false_iff] at h4; exact h4.1) (Cond.privateMethod_at w6) w2 hy
theorem own_callS (X : Stand p l e R s m args below meth c T locs cells slots) (hx : p.tables.exec = Jvm.exec) (hZ : Z.Warmed39 s.vm) {own : String} {index : Nat} (hown : s.vm.findClass own = some m.cls) {y : MethodName} {bytes : ByteArray} {maxL : Nat} {ret : Option FieldType} {rm : Room} {W : Nat} {Q' : Option Value → Heap → Prop} (w1 : (Jvm.Cond.methodLink own index y).before a0 Z = true) (w2 : (Jvm.Cond.static y).before a0 Z = true) (w3 : (Jvm.Cond.initialized y.cls).before a0 Z = true) (w4 : (Jvm.Cond.code y bytes maxL ret).before a0 Z = true) (hy : y.cls ≠ "java/lang/invoke/MethodHandle" ∧ y.cls ≠ "java/lang/invoke/VarHandle") (hf : rm.frames + 1 ≤ R.frames) (hl : W + (maxL + 11) + rm.locals ≤ R.locals) (N : Fr n0 locs) (eT : T.heap = h) (hsize : Ls.size = c.maxLocals) {argsL rest : List Value} (hlen : ∀ sig, parseMethodDescriptor y.desc = some sig → argsL.length = sig.parameters.length) (hW : (rest.map fun v => v.category).sum ≤ W) (hc : cells + rm.cells ≤ R.cells) (hs : slots + rm.slots ≤ R.slots) (M : Meets l y bytes maxL ret [] rm rm.cells rm.slots Z argsL.toArray h n0 Q') (hst : st = argsL.reverse ++ rest) (hd : decode c.code pc = .ok (.invokestatic index, 3))
    (k : ∀ v T' locs', Stand p l e R s m args below meth c T' locs' (cells + rm.cells) (slots + rm.slots) → Fr n0 locs' → Q' v T'.heap → Goes p e below FE n0 Q (T'.setTop (mkF m (pc + 3) Ls (v.toList ++ rest)))) : Goes p e below FE n0 Q (T.setTop (mkF m pc Ls st)) := by
  subst hst
  obtain ⟨v, _, ⟨T', L', k', n'⟩, -, X', ⟨Lc, hQ, l1, l2, l3⟩, st'⟩ := Jvm.LawKit.callS X hx (y := y) hown (mvT hZ w1) (mvT hZ w2) (mvT hZ w3) (mvT hZ w4) hy (backOf (W := W) (Q := fun v h L => Fr n0 L ∧ Q' v h) M hZ w4 w3 hf hl) (g := mkF m pc Ls (argsL.reverse ++ rest)) rfl hsize (argsL := argsL) (rest := rest) hlen rfl (by show 2 * 0 + _ ≤ _; omega) hd (fun _ _ => ⟨rfl, eT, hc, hs⟩)
  dsimp only [Pt.U, Pt.locs, Pt.cells, Pt.slots] at X' l1 l2 l3 st' hQ
  subst l1 l2 l3
  exact Goes.via st' (k v T' _ X' (Fr.app N hQ.1) hQ.2)
theorem own_special (X : Stand p l e R s m args below meth c T locs cells slots) (hx : p.tables.exec = Jvm.exec) (hZ : Z.Warmed39 s.vm) {own : String} {index : Nat} (hown : s.vm.findClass own = some m.cls) {y : MethodName} {bytes : ByteArray} {maxL : Nat} {rm : Room} {W : Nat} {Q' : Option Value → Heap → Prop} (hy1 : y.name = "<init>") (w1 : (Jvm.Cond.methodLink own index y).before a0 Z = true) (w2 : (Jvm.Cond.instanceMethod y).before a0 Z = true) (w3 : (Jvm.Cond.initialized y.cls).before a0 Z = true) (w4 : (Jvm.Cond.code y bytes maxL none).before a0 Z = true) {a : Addr} (hy : y.cls ≠ "java/lang/invoke/MethodHandle" ∧ y.cls ≠ "java/lang/invoke/VarHandle") (hf : rm.frames + 1 ≤ R.frames) (hl : W + (maxL + 11) + rm.locals ≤ R.locals) (N : Fr n0 locs) (eT : T.heap = h) (hsize : Ls.size = c.maxLocals) {argsL rest : List Value} (hlen : ∀ sig, parseMethodDescriptor y.desc = some sig → argsL.length = sig.parameters.length) (hW : (rest.map fun v => v.category).sum ≤ W) (hc : cells + rm.cells ≤ R.cells) (hs : slots + rm.slots ≤ R.slots) (M : Meets l y bytes maxL none [] rm rm.cells rm.slots Z (.ref a :: argsL).toArray h n0 Q') (hst : st = argsL.reverse ++ .ref a :: rest) (hd : decode c.code pc = .ok (.invokespecial index, 3))
    (k : ∀ v T' locs', Stand p l e R s m args below meth c T' locs' (cells + rm.cells) (slots + rm.slots) → Fr n0 locs' → Q' v T'.heap → Goes p e below FE n0 Q (T'.setTop (mkF m (pc + 3) Ls (v.toList ++ rest)))) : Goes p e below FE n0 Q (T.setTop (mkF m pc Ls st)) := by
  subst hst
  obtain ⟨v, _, ⟨T', L', k', n'⟩, -, X', ⟨Lc, hQ, l1, l2, l3⟩, st'⟩ := X.specialBack hx (y := y) hy1 hown (mvT hZ w1) (mvT hZ w2) (mvT hZ w4) hy (backOf (W := W) (Q := fun v h L => Fr n0 L ∧ Q' v h) M hZ w4 w3 hf hl) (g := mkF m pc Ls (argsL.reverse ++ .ref a :: rest)) rfl hsize (Steps.refl _) (a := a) (argsL := argsL) (rest := rest) hlen rfl (by show 2 * 0 + _ ≤ _; omega) hd (fun _ _ => ⟨rfl, eT, hc, hs⟩)
  dsimp only [Pt.U, Pt.locs, Pt.cells, Pt.slots] at X' l1 l2 l3 st' hQ
  subst l1 l2 l3
  exact Goes.via (fun _ k => st'.trans k) (k v T' _ X' (Fr.app N hQ.1) hQ.2)
theorem own_specialNest (X : Stand p l e R s m args below meth c T locs cells slots) (hx : p.tables.exec = Jvm.exec) (hZ : Z.Warmed39 s.vm) {own : String} {index : Nat} (hown : s.vm.findClass own = some m.cls) {y : MethodName} {bytes : ByteArray} {maxL : Nat} {rm : Room} {W : Nat} {Q' : Option Value → Heap → Prop} {host : String} (hy1 : y.name = "<init>") (w1 : (Jvm.Cond.methodLinkNest own index y host).before a0 Z = true) (w2 : (Jvm.Cond.instanceMethod y).before a0 Z = true) (w3 : (Jvm.Cond.initialized y.cls).before a0 Z = true) (w4 : (Jvm.Cond.code y bytes maxL none).before a0 Z = true) {a : Addr} (hy : y.cls ≠ "java/lang/invoke/MethodHandle" ∧ y.cls ≠ "java/lang/invoke/VarHandle") (hf : rm.frames + 1 ≤ R.frames) (hl : W + (maxL + 11) + rm.locals ≤ R.locals) (N : Fr n0 locs) (eT : T.heap = h) (hsize : Ls.size = c.maxLocals) {argsL rest : List Value} (hlen : ∀ sig, parseMethodDescriptor y.desc = some sig → argsL.length = sig.parameters.length) (hW : (rest.map fun v => v.category).sum ≤ W) (hc : cells + rm.cells ≤ R.cells) (hs : slots + rm.slots ≤ R.slots) (M : Meets l y bytes maxL none [] rm rm.cells rm.slots Z (.ref a :: argsL).toArray h n0 Q') (hst : st = argsL.reverse ++ .ref a :: rest) (hd : decode c.code pc = .ok (.invokespecial index, 3))
    (k : ∀ v T' locs', Stand p l e R s m args below meth c T' locs' (cells + rm.cells) (slots + rm.slots) → Fr n0 locs' → Q' v T'.heap → Goes p e below FE n0 Q (T'.setTop (mkF m (pc + 3) Ls (v.toList ++ rest)))) : Goes p e below FE n0 Q (T.setTop (mkF m pc Ls st)) := by
  subst hst
  obtain ⟨v, _, ⟨T', L', k', n'⟩, -, X', ⟨Lc, hQ, l1, l2, l3⟩, st'⟩ := X.specialBackNest hx (y := y) hy1 hown (Cond.methodLinkNest_wide hZ w1 :) (mvT hZ w2) (mvT hZ w4) hy (backOf (W := W) (Q := fun v h L => Fr n0 L ∧ Q' v h) M hZ w4 w3 hf hl) (g := mkF m pc Ls (argsL.reverse ++ .ref a :: rest)) rfl hsize (Steps.refl _) (a := a) (argsL := argsL) (rest := rest) hlen rfl (by show 2 * 0 + _ ≤ _; omega) hd (fun _ _ => ⟨rfl, eT, hc, hs⟩)
  dsimp only [Pt.U, Pt.locs, Pt.cells, Pt.slots] at X' l1 l2 l3 st' hQ
  subst l1 l2 l3
  exact Goes.via (fun _ k => st'.trans k) (k v T' _ X' (Fr.app N hQ.1) hQ.2)
theorem own_virtual (X : Stand p l e R s m args below meth c T locs cells slots) (hx : p.tables.exec = Jvm.exec) (hZ : Z.Warmed39 s.vm) {own : String} {index : Nat} (hown : s.vm.findClass own = some m.cls) {y : MethodName} {bytes : ByteArray} {maxL : Nat} {ret : Option FieldType} {rm : Room} {W : Nat} {Q' : Option Value → Heap → Prop} {z : MethodName} {C : String} (w1 : (Jvm.Cond.methodLink own index y).before a0 Z = true) (w2 : (Jvm.Cond.declares y).before a0 Z = true) (hnf : NotFace s y) (w5 : (Jvm.Cond.selects C y z).before a0 Z = true) (w6 : (Jvm.Cond.instanceMethod z).before a0 Z = true) (w3 : (Jvm.Cond.initialized z.cls).before a0 Z = true) (w4 : (Jvm.Cond.code z bytes maxL ret).before a0 Z = true) {a : Addr} (E : Exa Z h a C) (hy : y.cls ≠ "java/lang/invoke/MethodHandle" ∧ y.cls ≠ "java/lang/invoke/VarHandle") (hf : rm.frames + 1 ≤ R.frames) (hl : W + (maxL + 11) + rm.locals ≤ R.locals) (N : Fr n0 locs) (eT : T.heap = h) (hsize : Ls.size = c.maxLocals) {argsL rest : List Value} (hlen : ∀ sig, parseMethodDescriptor y.desc = some sig → argsL.length = sig.parameters.length) (hW : (rest.map fun v => v.category).sum ≤ W) (hc : cells + rm.cells ≤ R.cells) (hs : slots + rm.slots ≤ R.slots) (M : Meets l z bytes maxL ret [] rm rm.cells rm.slots Z (.ref a :: argsL).toArray h n0 Q') (hst : st = argsL.reverse ++ .ref a :: rest) (hd : decode c.code pc = .ok (.invokevirtual index, 3))
    (k : ∀ v T' locs', Stand p l e R s m args below meth c T' locs' (cells + rm.cells) (slots + rm.slots) → Fr n0 locs' → Q' v T'.heap → Goes p e below FE n0 Q (T'.setTop (mkF m (pc + 3) Ls (v.toList ++ rest)))) : Goes p e below FE n0 Q (T.setTop (mkF m pc Ls st)) := by
  subst hst
  obtain ⟨cq, kq, qa, qb, qc⟩ := isOf hZ eT E
  obtain ⟨v, _, ⟨T', L', k', n'⟩, -, X', ⟨Lc, hQ, l1, l2, l3⟩, st'⟩ := X.virtualBack hx (y := y) (z := z) hown (mvT hZ w1) (mvT hZ w2) hnf (mvT hZ w5) (mvT hZ w6) hy (backOf (W := W) (Q := fun v h L => Fr n0 L ∧ Q' v h) M hZ w4 w3 hf hl) qa qc (g := mkF m pc Ls (argsL.reverse ++ .ref a :: rest)) rfl hsize (Steps.refl _) (argsL := argsL) (rest := rest) hlen rfl (by show 2 * 0 + _ ≤ _; omega) hd (fun _ _ => ⟨rfl, eT, hc, hs⟩)
  dsimp only [Pt.U, Pt.locs, Pt.cells, Pt.slots] at X' l1 l2 l3 st' hQ
  subst l1 l2 l3
  exact Goes.via (fun _ k => st'.trans k) (k v T' _ X' (Fr.app N hQ.1) hQ.2)
theorem own_private (X : Stand p l e R s m args below meth c T locs cells slots) (hx : p.tables.exec = Jvm.exec) (hZ : Z.Warmed39 s.vm) {own : String} {index : Nat} (hown : s.vm.findClass own = some m.cls) {y : MethodName} {bytes : ByteArray} {maxL : Nat} {ret : Option FieldType} {rm : Room} {W : Nat} {Q' : Option Value → Heap → Prop} (w1 : (Jvm.Cond.methodLink own index y).before a0 Z = true) (w2 : (Jvm.Cond.instanceMethod y).before a0 Z = true) {nn : Nat} (w5 : (Jvm.Cond.instantiable y.cls nn).before a0 Z = true) (w6 : (Jvm.Cond.privateMethod y).before a0 Z = true) (w3 : (Jvm.Cond.initialized y.cls).before a0 Z = true) (w4 : (Jvm.Cond.code y bytes maxL ret).before a0 Z = true) {a : Addr} {C : String} (E : Exa Z h a C) (hy : y.cls ≠ "java/lang/invoke/MethodHandle" ∧ y.cls ≠ "java/lang/invoke/VarHandle") (hf : rm.frames + 1 ≤ R.frames) (hl : W + (maxL + 11) + rm.locals ≤ R.locals) (N : Fr n0 locs) (eT : T.heap = h) (hsize : Ls.size = c.maxLocals) {argsL rest : List Value} (hlen : ∀ sig, parseMethodDescriptor y.desc = some sig → argsL.length = sig.parameters.length) (hW : (rest.map fun v => v.category).sum ≤ W) (hc : cells + rm.cells ≤ R.cells) (hs : slots + rm.slots ≤ R.slots) (M : Meets l y bytes maxL ret [] rm rm.cells rm.slots Z (.ref a :: argsL).toArray h n0 Q') (hst : st = argsL.reverse ++ .ref a :: rest) (hd : decode c.code pc = .ok (.invokevirtual index, 3))
    (k : ∀ v T' locs', Stand p l e R s m args below meth c T' locs' (cells + rm.cells) (slots + rm.slots) → Fr n0 locs' → Q' v T'.heap → Goes p e below FE n0 Q (T'.setTop (mkF m (pc + 3) Ls (v.toList ++ rest)))) : Goes p e below FE n0 Q (T.setTop (mkF m pc Ls st)) := by
  subst hst
  obtain ⟨cq, qa, qb⟩ := E.cell
  obtain ⟨v, _, ⟨T', L', k', n'⟩, -, X', ⟨Lc, hQ, l1, l2, l3⟩, st'⟩ := X.privateBack hx (y := y) hown (mvT hZ w1) (mvT hZ w2) (mvT hZ (own_selfsel w5 w2 w6 hy)) (Cond.privateMethod_at (mvP hZ w6 (args := #[]))) (mvT hZ w4) hy (backOf (W := W) (Q := fun v h L => Fr n0 L ∧ Q' v h) M hZ w4 w3 hf hl) (g := mkF m pc Ls (argsL.reverse ++ .ref a :: rest)) rfl hsize (Steps.refl _) (a := a) (by rw [eT]; exact qa) qb (argsL := argsL) (rest := rest) hlen rfl (by show 2 * 0 + _ ≤ _; omega) hd (fun _ _ => ⟨rfl, eT, hc, hs⟩)
  dsimp only [Pt.U, Pt.locs, Pt.cells, Pt.slots] at X' l1 l2 l3 st' hQ
  subst l1 l2 l3
  exact Goes.via (fun _ k => st'.trans k) (k v T' _ X' (Fr.app N hQ.1) hQ.2)
theorem own_virtualUp (X : Stand p l e R s m args below meth c T locs cells slots) (hx : p.tables.exec = Jvm.exec) (hZ : Z.Warmed39 s.vm) {own : String} {index : Nat} (hown : s.vm.findClass own = some m.cls) {y : MethodName} {bytes : ByteArray} {maxL : Nat} {ret : Option FieldType} {rm : Room} {W : Nat} {Q' : Option Value → Heap → Prop} {z : MethodName} {C owner : String} (w1 : (Jvm.Cond.methodLink own index y).before a0 Z = true) (w2 : (Jvm.Cond.sameMethod y.cls owner y.name y.desc).before a0 Z = true) (w7 : (Jvm.Cond.declares ⟨owner, y.name, y.desc⟩).before a0 Z = true) (w5 : (Jvm.Cond.selects C y z).before a0 Z = true) (w6 : (Jvm.Cond.instanceMethod z).before a0 Z = true) (w3 : (Jvm.Cond.initialized z.cls).before a0 Z = true) (w4 : (Jvm.Cond.code z bytes maxL ret).before a0 Z = true) {a : Addr} (E : Exa Z h a C) (hy : owner ≠ "java/lang/invoke/MethodHandle" ∧ owner ≠ "java/lang/invoke/VarHandle") (hf : rm.frames + 1 ≤ R.frames) (hl : W + (maxL + 11) + rm.locals ≤ R.locals) (N : Fr n0 locs) (eT : T.heap = h) (hsize : Ls.size = c.maxLocals) {argsL rest : List Value} (hlen : ∀ sig, parseMethodDescriptor y.desc = some sig → argsL.length = sig.parameters.length) (hW : (rest.map fun v => v.category).sum ≤ W) (hc : cells + rm.cells ≤ R.cells) (hs : slots + rm.slots ≤ R.slots) (M : Meets l z bytes maxL ret [] rm rm.cells rm.slots Z (.ref a :: argsL).toArray h n0 Q') (hst : st = argsL.reverse ++ .ref a :: rest) (hd : decode c.code pc = .ok (.invokevirtual index, 3))
    (k : ∀ v T' locs', Stand p l e R s m args below meth c T' locs' (cells + rm.cells) (slots + rm.slots) → Fr n0 locs' → Q' v T'.heap → Goes p e below FE n0 Q (T'.setTop (mkF m (pc + 3) Ls (v.toList ++ rest)))) : Goes p e below FE n0 Q (T.setTop (mkF m pc Ls st)) := by
  subst hst
  obtain ⟨cq, kq, qa, qb, qc⟩ := isOf hZ eT E
  obtain ⟨v, _, ⟨T', L', k', n'⟩, -, X', ⟨Lc, hQ, l1, l2, l3⟩, st'⟩ := X.virtualBackUp hx (x := y) (y := z) hown (mvT hZ w1) (mvT hZ w2) (mvT hZ w7 (by simp [Cond.onTables, Cond.keepsFace, Cond.keeps, Cond.steady, Cond.faceAtom, hy.1, hy.2])) hy (mvT hZ w5) (mvT hZ w6) (backOf (W := W) (Q := fun v h L => Fr n0 L ∧ Q' v h) M hZ w4 w3 hf hl) qa qc (g := mkF m pc Ls (argsL.reverse ++ .ref a :: rest)) rfl hsize (Steps.refl _) (argsL := argsL) (rest := rest) hlen rfl (by show 2 * 0 + _ ≤ _; omega) hd (fun _ _ => ⟨rfl, eT, hc, hs⟩)
  dsimp only [Pt.U, Pt.locs, Pt.cells, Pt.slots] at X' l1 l2 l3 st' hQ
  subst l1 l2 l3
  exact Goes.via (fun _ k => st'.trans k) (k v T' _ X' (Fr.app N hQ.1) hQ.2)
theorem own_iface (X : Stand p l e R s m args below meth c T locs cells slots) (hx : p.tables.exec = Jvm.exec) (hZ : Z.Warmed39 s.vm) {own : String} {index : Nat} (hown : s.vm.findClass own = some m.cls) {y : MethodName} {bytes : ByteArray} {maxL : Nat} {ret : Option FieldType} {rm : Room} {W : Nat} {Q' : Option Value → Heap → Prop} {z : MethodName} {C : String} {count : Nat} (w1 : (Jvm.Cond.methodLink own index y).before a0 Z = true) (w2 : (Jvm.Cond.declares y).before a0 Z = true) (w7 : (Jvm.Cond.interfaceMethod y.cls y.cls y.name y.desc).before a0 Z = true) (w5 : (Jvm.Cond.selects C y z).before a0 Z = true) (w6 : (Jvm.Cond.instanceMethod z).before a0 Z = true) (w8 : (Jvm.Cond.publicMethod z).before a0 Z = true) (w9 : (Jvm.Cond.unhidden C y.name y.desc).before a0 Z = true) (wc : (Jvm.Cond.castable C y.cls).before a0 Z = true) (w3 : (Jvm.Cond.initialized z.cls).before a0 Z = true) (w4 : (Jvm.Cond.code z bytes maxL ret).before a0 Z = true) {a : Addr} (E : Exa Z h a C) (hy : y.cls ≠ "java/lang/invoke/MethodHandle" ∧ y.cls ≠ "java/lang/invoke/VarHandle") (hf : rm.frames + 1 ≤ R.frames) (hl : W + (maxL + 11) + rm.locals ≤ R.locals) (N : Fr n0 locs) (eT : T.heap = h) (hsize : Ls.size = c.maxLocals) {argsL rest : List Value} (hlen : ∀ sig, parseMethodDescriptor y.desc = some sig → argsL.length = sig.parameters.length) (hW : (rest.map fun v => v.category).sum ≤ W) (hc : cells + rm.cells ≤ R.cells) (hs : slots + rm.slots ≤ R.slots) (M : Meets l z bytes maxL ret [] rm rm.cells rm.slots Z (.ref a :: argsL).toArray h n0 Q') (hst : st = argsL.reverse ++ .ref a :: rest) (hd : decode c.code pc = .ok (.invokeinterface index count, 5))
    (k : ∀ v T' locs', Stand p l e R s m args below meth c T' locs' (cells + rm.cells) (slots + rm.slots) → Fr n0 locs' → Q' v T'.heap → Goes p e below FE n0 Q (T'.setTop (mkF m (pc + 5) Ls (v.toList ++ rest)))) : Goes p e below FE n0 Q (T.setTop (mkF m pc Ls st)) := by
  subst hst
  obtain ⟨cq, kq, qa, qb, qc⟩ := isOf hZ eT E
  obtain ⟨v, _, ⟨T', L', k', n'⟩, -, X', ⟨Lc, hQ, l1, l2, l3⟩, st'⟩ := X.interfaceBack hx (xi := y) (y := z) hown (mvT hZ w1) (mvT hZ w2) (mvT hZ w7 (by simp [Cond.onTables, Cond.keepsFace, Cond.keeps, Cond.steady, Cond.faceAtom, hy.1, hy.2])) (mvT hZ w5) (mvT hZ w6) (mvT hZ w8) (mvT hZ w9) (mvT hZ wc) hy (backOf (W := W) (Q := fun v h L => Fr n0 L ∧ Q' v h) M hZ w4 w3 hf hl) qa qb qc (g := mkF m pc Ls (argsL.reverse ++ .ref a :: rest)) rfl hsize (Steps.refl _) (argsL := argsL) (rest := rest) hlen rfl (by show 2 * 0 + _ ≤ _; omega) hd (fun _ _ => ⟨rfl, eT, hc, hs⟩)
  dsimp only [Pt.U, Pt.locs, Pt.cells, Pt.slots] at X' l1 l2 l3 st' hQ
  subst l1 l2 l3
  exact Goes.via (fun _ k => st'.trans k) (k v T' _ X' (Fr.app N hQ.1) hQ.2)
theorem own_gcls (X : Stand p l e R s m args below meth c T locs cells slots) (hx : p.tables.exec = Jvm.exec) (hZ : Z.Warmed39 s.vm) {own : String} {index : Nat} (hown : s.vm.findClass own = some m.cls) {C : String} (w1 : (Jvm.Cond.methodLink own index ⟨"java/lang/Object", "getClass", "()Ljava/lang/Class;"⟩).before a0 Z = true) (w2 : (Jvm.Cond.declares ⟨"java/lang/Object", "getClass", "()Ljava/lang/Class;"⟩).before a0 Z = true) (w3 : (Jvm.Cond.noSuperclass "java/lang/Object").before a0 Z = true) (w4 : (Jvm.Cond.selects C ⟨"java/lang/Object", "getClass", "()Ljava/lang/Class;"⟩ ⟨"java/lang/Object", "getClass", "()Ljava/lang/Class;"⟩).before a0 Z = true) (w5 : (Jvm.Cond.instanceMethod ⟨"java/lang/Object", "getClass", "()Ljava/lang/Class;"⟩).before a0 Z = true) (w6 : (Jvm.Cond.native ⟨"java/lang/Object", "getClass", "()Ljava/lang/Class;"⟩).before a0 Z = true) (eT : T.heap = h) {a mr : Addr} (E : Exa Z h a C) (M : ∃ (c : ClassId) (k : Class), Z.vm.findClass C = some c ∧ Z.vm.classes[c]? = some k ∧ k.mirror = some mr) (hsize : Ls.size = c.maxLocals) (hd : decode c.code pc = .ok (.invokevirtual index, 3)) (hf : 1 ≤ R.frames) {W : Nat} (hW : (st.map fun v => v.category).sum ≤ W) (hl : W + 14 ≤ R.locals)
    (k : ∀ T', Stand p l e R s m args below meth c T' locs cells slots → T'.heap = h → Goes p e below FE n0 Q (T'.setTop (mkF m (pc + 3) Ls (.ref mr :: st)))) : Goes p e below FE n0 Q (T.setTop (mkF m pc Ls (.ref a :: st))) := by
  obtain ⟨cB, kB, i1, i2, i3⟩ := isOf hZ eT E
  obtain ⟨cc, kc, m1, m2, m3⟩ := M
  rw [hZ.alike.findClass] at i1
  cases i1.symm.trans m1
  obtain ⟨k', q, ek⟩ := hZ.alike.2.2 _ _ m2
  obtain ⟨vm', X', st'⟩ := X.getClassOf hx hown (mvT hZ w1) (mvT hZ w2) (nf_top (args := #[]) (mvT hZ w3)) (mvT hZ w4) (mvT hZ w5) (mvT hZ w6) (by rw [hZ.alike.findClass]; exact m1) i3 q (by rw [ek]; exact m3) (g := mkF m pc Ls (.ref a :: st)) rfl hsize rfl hd hf (by show 2 * 0 + _ + (1 + 2 + 11) ≤ _; omega)
  exact Goes.via st' (k _ X' eT)
theorem own_ldcMir (X : Stand p l e R s m args below meth c T locs cells slots) (hx : p.tables.exec = Jvm.exec) (hZ : Z.Warmed39 s.vm) {own : String} {index : Nat} (hown : s.vm.findClass own = some m.cls) {C : String} (w : (Jvm.Cond.classLink own index C).before a0 Z = true) (eT : T.heap = h) {mr : Addr} (M : ∃ (c : ClassId) (k : Class), Z.vm.findClass C = some c ∧ Z.vm.classes[c]? = some k ∧ k.mirror = some mr) (hd : decode c.code pc = .ok (.ldc index, 2))
    (k : ∀ T', Stand p l e R s m args below meth c T' locs cells slots → T'.heap = h → Goes p e below FE n0 Q (T'.setTop (mkF m (pc + 2) Ls (.ref mr :: st)))) : Goes p e below FE n0 Q (T.setTop (mkF m pc Ls st)) := by
  obtain ⟨cc, kc, m1, m2, m3⟩ := M
  obtain ⟨k', q, ek⟩ := hZ.alike.2.2 _ _ m2
  have hf' : s.vm.findClass C = some cc := by rw [hZ.alike.findClass]; exact m1
  obtain ⟨vm', X', st'⟩ := X.ldcMirror hx hown (mv hZ w) (a := mr) (by
    have hm : k'.mirror = some mr := by first | (rw [ek]; exact m3) | (rw [← ek]; exact m3) | (have := congrArg Class.mirror ek; simp at this; rw [← this]; exact m3) | (have := congrArg Class.mirror ek; simp at this; rw [this]; exact m3)
    show ((s.vm.findClass C).bind fun c => (s.vm.classes[c]?).bind fun k => k.mirror.bind fun a => some (Value.ref a)) = some (.ref mr)
    rw [hf']
    show ((s.vm.classes[cc]?).bind fun k => k.mirror.bind fun a => some (Value.ref a)) = some (.ref mr)
    rw [q]
    show (k'.mirror.bind fun a => some (Value.ref a)) = some (.ref mr)
    rw [hm]
    rfl) (g := mkF m pc Ls st) rfl hd
  exact Goes.via st' (k _ X' eT)
theorem own_cpA (X : Stand p l e R s m args below meth c T locs cells slots) (hx : p.tables.exec = Jvm.exec) (hZ : Z.Warmed39 s.vm) {own : String} {index : Nat} (hown : s.vm.findClass own = some m.cls) (w1 : (Jvm.Cond.methodLink own index Jvm.Stand.acN).before a0 Z = true) (w2 : (Jvm.Cond.native Jvm.Stand.acN).before a0 Z = true) (w3 : (Jvm.Cond.static Jvm.Stand.acN).before a0 Z = true) (w4 : (Jvm.Cond.initialized "java/lang/System").before a0 Z = true) (eT : T.heap = h) {a b : Addr} {k k' : ClassId} {ty ty' : FieldType} {z z' sp dp nn : Int32} {vs vd us vr : List Value} {dv dd : Value} (A : Arv Z h a k ty z vs dv) (B : Arv Z h b k' ty' z' vd dd) (hty : (ty = ty' ∧ refKind ty = false) ∨ (refKind ty = true ∧ refKind ty' = true ∧ StoL Z h b us)) (h1 : ¬ sp < 0) (h2 : ¬ dp < 0) (h3 : ¬ nn < 0) (h4 : sp.toNatClampNeg + nn.toNatClampNeg ≤ z.toNatClampNeg) (h5 : dp.toNatClampNeg + nn.toNatClampNeg ≤ z'.toNatClampNeg) (hus : us = (List.range nn.toNatClampNeg).map fun i => vs.getD (sp.toNatClampNeg + i) dv) (hl : dp.toNatClampNeg + nn.toNatClampNeg ≤ vd.length) (hvr : vd.take dp.toNatClampNeg ++ us ++ vd.drop (dp.toNatClampNeg + nn.toNatClampNeg) = vr) (N : Fr n0 locs) (ge : n0 ≤ b) (hsize : Ls.size = c.maxLocals) (hd : decode c.code pc = .ok (.invokestatic index, 3)) (hf : 1 ≤ R.frames) {W : Nat} (hW : (st.map fun v => v.category).sum ≤ W) (hlo : W + 18 ≤ R.locals)
    (k : ∀ T' h' locs', Stand p l e R s m args below meth c T' locs' cells slots → T'.heap = h' → Fr n0 locs' → Keep h h' [b] → Arv Z h' b k' ty' z' vr dd → Goes p e below FE n0 Q (T'.setTop (mkF m (pc + 3) Ls st))) : Goes p e below FE n0 Q (T.setTop (mkF m pc Ls (.int nn :: .int dp :: .ref b :: .int sp :: .ref a :: st))) := by
  subst hvr
  obtain ⟨T', h', L, X', e', N', K', V', st'⟩ := cpA X hx hZ hown w1 w2 w3 w4 eT A B hty h1 h2 h3 h4 h5 hus hl N ge (g := mkF m pc Ls (.int nn :: .int dp :: .ref b :: .int sp :: .ref a :: st)) rfl hsize rfl hd hf (W := W) (by show 2 * 0 + _ ≤ _; omega) hlo
  exact Goes.via st' (k T' h' L X' e' N' K' V')
theorem own_retN (X : Stand p l e R s m args below meth c T locs cells slots) (hx : p.tables.exec = Jvm.exec) {t : FieldType} {z : Int32} (N : Fr n0 locs) (hlk : meth.locks = false) (hc : cells ≤ kc) (hs : slots ≤ ks) (hret : meth.sig.returnType = some t) (ht : t = .boolean ∨ t = .byte ∨ t = .char ∨ t = .short) (hd : decode c.code pc = .ok (.ireturn, 1)) (hq : Q (some (.int (nar t z))) T.heap) : Goes p e below (fun o t L => FrameEnd s o t L kc ks) n0 Q (T.setTop (mkF m pc Ls (.int z :: st))) :=
  Goes.ret X N hlk (fun h => by rw [hret] at h; cases h) hc hs hq (fun fs hr => retN X hx hret ht hd hr)
theorem own_retI (X : Stand p l e R s m args below meth c T locs cells slots) (hx : p.tables.exec = Jvm.exec) {z : Int32} (N : Fr n0 locs) (hlk : meth.locks = false) (hc : cells ≤ kc) (hs : slots ≤ ks) (hret : meth.sig.returnType = some .int) (hd : decode c.code pc = .ok (.ireturn, 1)) (hq : Q (some (.int z)) T.heap) : Goes p e below (fun o t L => FrameEnd s o t L kc ks) n0 Q (T.setTop (mkF m pc Ls (.int z :: st))) :=
  Goes.ret X N hlk (fun h => by rw [hret] at h; cases h) hc hs hq (fun fs hr => retOut X hx hret rfl (Or.inl ⟨rfl, Or.inl rfl, _, rfl⟩) hd hr)
theorem own_retJ (X : Stand p l e R s m args below meth c T locs cells slots) (hx : p.tables.exec = Jvm.exec) {z : Int64} (N : Fr n0 locs) (hlk : meth.locks = false) (hc : cells ≤ kc) (hs : slots ≤ ks) (hret : meth.sig.returnType = some .long) (hd : decode c.code pc = .ok (.lreturn, 1)) (hq : Q (some (.long z)) T.heap) : Goes p e below (fun o t L => FrameEnd s o t L kc ks) n0 Q (T.setTop (mkF m pc Ls (.long z :: st))) :=
  Goes.ret X N hlk (fun h => by rw [hret] at h; cases h) hc hs hq (fun fs hr => retOut X hx hret rfl (Or.inr (Or.inl ⟨rfl, rfl, _, rfl⟩)) hd hr)
theorem own_retR (X : Stand p l e R s m args below meth c T locs cells slots) (hx : p.tables.exec = Jvm.exec) {v : Value} {t : FieldType} (N : Fr n0 locs) (hlk : meth.locks = false) (hc : cells ≤ kc) (hs : slots ≤ ks) (hret : meth.sig.returnType = some t) (ht : t.isReference = true) (hv : v.isRef = true) (hn : narrow t v = v) (hd : decode c.code pc = .ok (.areturn, 1)) (hq : Q (some v) T.heap) : Goes p e below (fun o t L => FrameEnd s o t L kc ks) n0 Q (T.setTop (mkF m pc Ls (v :: st))) :=
  Goes.ret X N hlk (fun h => by rw [hret] at h; cases h) hc hs hq (fun fs hr => retOut X hx hret hn (Or.inr (Or.inr (Or.inr (Or.inr ⟨rfl, ht, hv⟩)))) hd hr)
theorem own_retV (X : Stand p l e R s m args below meth c T locs cells slots) (hx : p.tables.exec = Jvm.exec) (N : Fr n0 locs) (hlk : meth.locks = false) (hc : cells ≤ kc) (hs : slots ≤ ks) (hret : meth.sig.returnType = none) (hd : decode c.code pc = .ok (.return_, 1)) (hq : Q none T.heap) : Goes p e below (fun o t L => FrameEnd s o t L kc ks) n0 Q (T.setTop (mkF m pc Ls [])) :=
  Goes.ret X N hlk (fun _ => rfl) hc hs hq (fun fs hr => X.returnOut hx hret hd hr)
theorem own_bz {P : Prop} [Decidable P] (h : ¬ P) : (if P then (1 : Int32) else (0 : Int32)) = (0 : Int32) := if_neg h
theorem own_bnz {P : Prop} [Decidable P] (h : ¬ ¬ P) : ¬ ((if P then (1 : Int32) else (0 : Int32)) = (0 : Int32)) := by rw [if_pos (Classical.not_not.mp h)]; decide
theorem own_nb (P : Prop) [Decidable P] : narrow .boolean (.int (if P then (1 : Int32) else (0 : Int32))) = (.int (if P then (1 : Int32) else (0 : Int32))) ∧ fits .boolean (.int (if P then (1 : Int32) else (0 : Int32))) = true := by
  by_cases h : P
  · rw [if_pos h]; exact ⟨rfl, rfl⟩
  · rw [if_neg h]; exact ⟨rfl, rfl⟩
theorem own_narb (P : Prop) [Decidable P] : nar .boolean (if P then (1 : Int32) else (0 : Int32)) = (if P then (1 : Int32) else (0 : Int32)) := by
  by_cases h : P
  · rw [if_pos h]; rfl
  · rw [if_neg h]; rfl
theorem own_eq {args : Array Value} {s s' : State} {o : Option Outcome} {idx : List Nat} {a b : Term} {v : Value} (h : (Jvm.Cond.eq a b).value args s o s' idx = some true) (hb : b.eval args s o idx s' = some v) : a.eval args s o idx s' = some v := by
  simp only [Cond.value, hb] at h
  cases ha : a.eval args s o idx s' with
  | none => simp [ha] at h
  | some w => rw [ha] at h; cases w <;> cases v <;> simp_all
theorem own_len {args : Array Value} {t : Term} {a : Addr} {cl : Cell} {ty : FieldType} {z : Int32} (ev : t.eval args Z none [] Z = some (.ref a)) (A : Arr Z Z.heap a cl ty) (hl : (Term.length t).eval args Z none [] Z = some (.int z)) : cl.slots.size < 2 ^ 31 ∧ cl.slots.size.toInt32 = z := by
  have ha : Z.arrayAt? a = some cl := A.fin (Vm.Alike.refl _)
  by_cases q : cl.slots.size < 2 ^ 31
  · have h2 := (len_f ev ha q).symm.trans hl
    exact ⟨q, by cases h2; rfl⟩
  · simp [Term.eval, ev, ha, q] at hl
theorem own_arr {args : Array Value} {t : Term} {a : Addr} {cl : Cell} {ty : FieldType} {z : Int32} {vs : List Value} {dv : Value} (hf : Fit Z) (ev : t.eval args Z none [] Z = some (.ref a)) (A : Arr Z Z.heap a cl ty) (hl : (Term.length t).eval args Z none [] Z = some (.int z)) (hz : ¬ z < 0) (hn : z.toNatClampNeg = vs.length) (H : HasL cl 0 vs) : Arv Z Z.heap a cl.cls ty z vs dv :=
  Arv.start hf A (own_len ev A hl).1 (own_len ev A hl).2 hz hn H
theorem own_fold {f : Nat → Option Bool} : ∀ (L : List Nat) (acc : Option Bool), L.foldl (fun acc i => match acc with | some true => f i | x => x) acc = some true → acc = some true ∧ ∀ i ∈ L, f i = some true
  | [], acc, h => ⟨h, fun _ q => nomatch q⟩
  | i :: L, acc, h => by
    obtain ⟨h1, h2⟩ := own_fold L _ h
    have h3 : acc = some true := by rcases acc with _ | (_ | _) <;> simp_all
    subst h3
    exact ⟨rfl, fun j hj => by rcases List.mem_cons.mp hj with rfl | q; exact h1; exact h2 j q⟩
theorem own_all {args : Array Value} {first s : State} {o : Option Outcome} {idx : List Nat} {t : Term} {c : Jvm.Cond} {a : Addr} {cell : Cell} (h : (Jvm.Cond.all t c).value args first o s idx = some true) (ev : t.eval args first o idx s = some (.ref a)) (ha : s.arrayAt? a = some cell) : ∀ i, i < cell.slots.size → c.value args first o s (i :: idx) = some true := by
  intro i hi
  simp only [Cond.value, ev, ha] at h
  exact (own_fold _ _ h).2 i (List.mem_range.mpr hi)
theorem own_exaI {args : Array Value} {t : Term} {C : String} {idx : List Nat} (h : (Jvm.Cond.exactly t C).value args Z none Z idx = some true) : ∃ b, t.eval args Z none idx Z = some (.ref b) ∧ Exa Z Z.heap b C := by
  obtain ⟨a, c, cell, k, e1, e2, e3, e4, e5, e6, e7⟩ := Cond.exactly_spec (beq_iff_eq.mpr h : (Jvm.Cond.exactly t C).holds args Z none Z idx = true)
  subst e6
  exact ⟨a, e1, cell, k, e3, e2, e4, e5, e7⟩
theorem own_NSroot {O K : String} {nn : Nat} (w : (Jvm.Cond.noSuperclass O).before a0 Z = true) (wi : (Jvm.Cond.instantiable K nn).before a0 Z = true) (hn : O ≠ K) : NS Z O K := by
  obtain ⟨c, k, h1, h2, h3, -, -⟩ := Cond.noSuperclass_spec w
  obtain ⟨t, kt, g1, -⟩ := Cond.instantiable_spec wi
  have ne := ids_ne h1 g1 hn
  refine ⟨c, t, h1, g1, fun fuel => ?_⟩
  cases fuel with
  | zero => rfl
  | succ f => simp [Vm.isSubclassAux, ne, h2, h3]
theorem own_NSno {C S K : String} {nn : Nat} (w : (Jvm.Cond.superclass C S).before a0 Z = true) (wi : (Jvm.Cond.instantiable K nn).before a0 Z = true) (n : NS Z C K) (hn : C ≠ K) : ∃ c t, Z.vm.findClass C = some c ∧ Z.vm.findClass K = some t ∧ Z.vm.assignable c t = false := by
  obtain ⟨c, t, h0, g0, n3⟩ := n
  obtain ⟨p, k, kp, h1, h2, h3, h4, h5, -, h7⟩ := Cond.superclass_spec h0 w
  obtain ⟨t', k', g1, g2, g5, g7, -⟩ := Cond.instantiable_spec wi
  cases g0.symm.trans g1
  rw [Bool.or_eq_false_iff] at g7
  have ne := ids_ne h0 g0 hn
  refine ⟨c, t, h0, g0, ?_⟩
  show Z.vm.assignableAux (255 + 1) c t = false
  simp [Vm.assignableAux, ne, h2, g2, h5, g5, g7.1, Vm.isSubclass, n3]
end OwnKit
section OwnWide
variable {p : Program} {l : Launch} {e : Env} {R : Room} {s : State} {m : MethodId} {args : Array Value} {below : List Frame} {meth : Method} {c : Code} {T : State} {locs : List Loc} {cells slots : Nat} {Z : State} {a0 : Array Value} {h : Heap} {n0 kc ks k0 : Nat} {vm0 : Vm} {FE : Outcome → State → List Loc → Prop} {Q : Option Value → Heap → Prop} {pc pc' : Nat} {Ls Ls' : Array Slot} {st : List Value}
/-- the contract of a body that may load String constants -/
def MeetsW (l : Launch) (y : MethodName) (bytes : ByteArray) (maxL : Nat) (ret : Option FieldType) (ws : List Jvm.Cond) (rm : Room) (kc ks : Nat) (Z : State) (as' : Array Value) (h : Heap) (n0 : Nat) (Q : Option Value → Heap → Prop) : Prop :=
  MetFree l y (head1 (Jvm.Cond.code y bytes maxL ret :: ws) rm) (fun a U => a = as' ∧ Z.Warmed39 U.vm ∧ U.heap = h) (fun _ _ _ _ _ => True) (fun _ U o U' => ∃ v L, o = .returned v ∧ (Fr n0 L ∧ Q v U'.heap) ∧ ReturnedEndW U o U' L kc ks)
theorem MeetsW.of {y : MethodName} {bytes : ByteArray} {maxL : Nat} {ret : Option FieldType} {ws : List Jvm.Cond} {rm : Room} {as' : Array Value} (hx : plainFor y = true) {F : MethodId → JFrame} (hF : ∀ m, entryFrame m as' maxL = F m)
    (body : ∀ p e s m below meth c T, p.tables.exec = Jvm.exec → c.code = bytes → c.maxLocals = maxL → s.vm.findClass y.cls = some m.cls → meth.name = y.name → meth.sig.returnType = ret → meth.locks = false → Z.Warmed39 s.vm → s.Since s.vm 0 →
      Stand p l e rm (s.setVm s.vm) m as' below meth c T [] 0 0 → T.heap = h → Goes p e below (fun o t L => ReturnedEndW s o t L kc ks) n0 Q (T.setTop (F m))) :
    MeetsW l y bytes maxL ret ws rm kc ks Z as' h n0 Q := by
  refine MetFree.of_bodySF hx hisR ?_
  intro p e s m args below meth c s₁ Bd hml hP hK
  obtain ⟨rfl, hZ, hh⟩ := hP
  have X0 : Stand p l e rm s m args below meth c s₁ [] 0 0 := Stand.of_body Bd
  have e0 : s₁.heap = h := by rw [← hh, Bd.state]; rfl
  obtain ⟨s₂, o, k, r⟩ := body p e s m below meth c s₁ Bd.exec Bd.bytes hml (findClass_of_methodNamed Bd.named) (name_of_methodNamed Bd.named Bd.method).1 Bd.returns Bd.notSynchronized hZ ((State.WarmedH.refl s).since 0) X0 e0
  exact ⟨s₂, o, castTop (hF m) k, r⟩
theorem Goes.retW {S : State} {v : Option Value} (X : Stand p l e R (s.setVm vm0) m args below meth c T locs cells slots) (hS : s.Since vm0 k0) (hk : k0 ≤ T.heap.size) (N : Fr n0 locs) (hlk : meth.locks = false) (hv : meth.sig.returnType = none → v = none) (hc : cells ≤ kc) (hs : slots ≤ ks) (hq : Q v T.heap)
    (f : ∀ fs, (∀ (f : JFrame) (acts : List Action), f.method = m → f.locked = none → f.entered = [] → (doReturn e (T.setTop f) acts v).1 = T.setFrames fs) → Steps p.tables e below S (T.setFrames fs)) : Goes p e below (fun o t L => ReturnedEndW s o t L kc ks) n0 Q S := by
  obtain ⟨fs, hr, hrun, hended, hE⟩ := X.leaveW hS hk hv hlk
  exact ⟨_, _, f fs hr, hrun, hended, _, _, rfl, ⟨N, hq⟩, hE.1, hE.2.1, hE.2.2.1, hE.2.2.2.mono hc hs⟩
theorem own_retNW (X : Stand p l e R (s.setVm vm0) m args below meth c T locs cells slots) (hx : p.tables.exec = Jvm.exec) {t : FieldType} {z : Int32} (hS : s.Since vm0 k0) (hk : k0 ≤ T.heap.size) (N : Fr n0 locs) (hlk : meth.locks = false) (hc : cells ≤ kc) (hs : slots ≤ ks) (hret : meth.sig.returnType = some t) (ht : t = .boolean ∨ t = .byte ∨ t = .char ∨ t = .short) (hd : decode c.code pc = .ok (.ireturn, 1)) (hq : Q (some (.int (nar t z))) T.heap) : Goes p e below (fun o t L => ReturnedEndW s o t L kc ks) n0 Q (T.setTop (mkF m pc Ls (.int z :: st))) :=
  Goes.retW X hS hk N hlk (fun h => by rw [hret] at h; cases h) hc hs hq (fun fs hr => retN X hx hret ht hd hr)
theorem own_retIW (X : Stand p l e R (s.setVm vm0) m args below meth c T locs cells slots) (hx : p.tables.exec = Jvm.exec) {z : Int32} (hS : s.Since vm0 k0) (hk : k0 ≤ T.heap.size) (N : Fr n0 locs) (hlk : meth.locks = false) (hc : cells ≤ kc) (hs : slots ≤ ks) (hret : meth.sig.returnType = some .int) (hd : decode c.code pc = .ok (.ireturn, 1)) (hq : Q (some (.int z)) T.heap) : Goes p e below (fun o t L => ReturnedEndW s o t L kc ks) n0 Q (T.setTop (mkF m pc Ls (.int z :: st))) :=
  Goes.retW X hS hk N hlk (fun h => by rw [hret] at h; cases h) hc hs hq (fun fs hr => retOut X hx hret rfl (Or.inl ⟨rfl, Or.inl rfl, _, rfl⟩) hd hr)
theorem own_retRW (X : Stand p l e R (s.setVm vm0) m args below meth c T locs cells slots) (hx : p.tables.exec = Jvm.exec) {v : Value} {t : FieldType} (hS : s.Since vm0 k0) (hk : k0 ≤ T.heap.size) (N : Fr n0 locs) (hlk : meth.locks = false) (hc : cells ≤ kc) (hs : slots ≤ ks) (hret : meth.sig.returnType = some t) (ht : t.isReference = true) (hv : v.isRef = true) (hn : narrow t v = v) (hd : decode c.code pc = .ok (.areturn, 1)) (hq : Q (some v) T.heap) : Goes p e below (fun o t L => ReturnedEndW s o t L kc ks) n0 Q (T.setTop (mkF m pc Ls (v :: st))) :=
  Goes.retW X hS hk N hlk (fun h => by rw [hret] at h; cases h) hc hs hq (fun fs hr => retOut X hx hret hn (Or.inr (Or.inr (Or.inr (Or.inr ⟨rfl, ht, hv⟩)))) hd hr)
theorem own_retVW (X : Stand p l e R (s.setVm vm0) m args below meth c T locs cells slots) (hx : p.tables.exec = Jvm.exec) (hS : s.Since vm0 k0) (hk : k0 ≤ T.heap.size) (N : Fr n0 locs) (hlk : meth.locks = false) (hc : cells ≤ kc) (hs : slots ≤ ks) (hret : meth.sig.returnType = none) (hd : decode c.code pc = .ok (.return_, 1)) (hq : Q none T.heap) : Goes p e below (fun o t L => ReturnedEndW s o t L kc ks) n0 Q (T.setTop (mkF m pc Ls [])) :=
  Goes.retW X hS hk N hlk (fun _ => rfl) hc hs hq (fun fs hr => X.returnOut hx hret hd hr)
theorem own_ldcS (X : Stand p l e R (s.setVm vm0) m args below meth c T locs cells slots) (hx : p.tables.exec = Jvm.exec) (hZ : Z.Warmed39 (s.setVm vm0).vm) {own : String} {index : Nat} (hown : (s.setVm vm0).vm.findClass own = some m.cls) (hS : s.Since vm0 k0) (hk : k0 ≤ h.size) {text : String} (w : (Jvm.Cond.stringLink own index text).before a0 Z = true) (wS : ∀ a ∈ Bundle.stringAtoms, a.before a0 Z = true) (eT : T.heap = h) {n : Nat} (hd : decode c.code pc = .ok (.ldc index, 2)) (hn : 4 * text.toList.length ≤ n) (hbig : n ≤ 536870912) (hc : cells + 2 ≤ R.cells) (hl : slots + (n + 4) ≤ R.slots)
    (k : ∀ a T' h' k1, Stand p l e R (s.setVm T'.vm) m args below meth c T' locs (cells + 2) (slots + (n + 4)) → s.Since T'.vm k1 → k1 ≤ h'.size → Z.Warmed39 (s.setVm T'.vm).vm → (s.setVm T'.vm).vm.findClass own = some m.cls → T'.heap = h' → Ext h h' → Goes p e below FE n0 Q (T'.setTop (mkF m (pc + 2) Ls (.ref a :: st)))) : Goes p e below FE n0 Q (T.setTop (mkF m pc Ls st)) := by
  obtain ⟨a, T', h', k1, X', e', E', S', q1, Z', o', st'⟩ := ldcS X hx hZ hown w wS eT hS hk (g := mkF m pc Ls st) rfl hd hn hbig hc hl
  exact Goes.via st' (k a T' h' k1 X' S' q1 Z' o' e' E')
theorem own_callSW (X : Stand p l e R (s.setVm vm0) m args below meth c T locs cells slots) (hx : p.tables.exec = Jvm.exec) (hZ : Z.Warmed39 (s.setVm vm0).vm) {own : String} {index : Nat} (hown : (s.setVm vm0).vm.findClass own = some m.cls) (hS : s.Since vm0 k0) (hk : k0 ≤ h.size) {y : MethodName} {bytes : ByteArray} {maxL : Nat} {ret : Option FieldType} {rm : Room} {W : Nat} {Q' : Option Value → Heap → Prop} (w1 : (Jvm.Cond.methodLink own index y).before a0 Z = true) (w2 : (Jvm.Cond.static y).before a0 Z = true) (w3 : (Jvm.Cond.initialized y.cls).before a0 Z = true) (w4 : (Jvm.Cond.code y bytes maxL ret).before a0 Z = true) (hy : y.cls ≠ "java/lang/invoke/MethodHandle" ∧ y.cls ≠ "java/lang/invoke/VarHandle") (hf : rm.frames + 1 ≤ R.frames) (hl : W + (maxL + 11) + rm.locals ≤ R.locals) (N : Fr n0 locs) (eT : T.heap = h) (hsize : Ls.size = c.maxLocals) {argsL rest : List Value} (hlen : ∀ sig, parseMethodDescriptor y.desc = some sig → argsL.length = sig.parameters.length) (hW : (rest.map fun v => v.category).sum ≤ W) (hc : cells + rm.cells ≤ R.cells) (hs : slots + rm.slots ≤ R.slots) (M : MeetsW l y bytes maxL ret [] rm rm.cells rm.slots Z argsL.toArray h n0 Q') (hst : st = argsL.reverse ++ rest) (hd : decode c.code pc = .ok (.invokestatic index, 3))
    (k : ∀ v T' locs' k1, Stand p l e R (s.setVm T'.vm) m args below meth c T' locs' (cells + rm.cells) (slots + rm.slots) → s.Since T'.vm k1 → k1 ≤ T'.heap.size → Z.Warmed39 (s.setVm T'.vm).vm → (s.setVm T'.vm).vm.findClass own = some m.cls → Fr n0 locs' → Q' v T'.heap → Goes p e below FE n0 Q (T'.setTop (mkF m (pc + 3) Ls (v.toList ++ rest)))) : Goes p e below FE n0 Q (T.setTop (mkF m pc Ls st)) := by
  subst hst
  obtain ⟨v, _, ⟨T', L', k', n'⟩, -, X', h2, hg, ⟨Lc, hQ, l1, l2, l3⟩, st'⟩ := callSS X hx (y := y) hown (mvT hZ w1) (mvT hZ w2) (mvT hZ w3) (mvT hZ w4) hy (backOfS (W := W) (Q := fun v h L => Fr n0 L ∧ Q' v h) M hZ w4 w3 hf hl) (g := mkF m pc Ls (argsL.reverse ++ rest)) rfl hsize (argsL := argsL) (rest := rest) hlen rfl (by show 2 * 0 + _ ≤ _; omega) hd (fun _ _ => ⟨rfl, eT, hc, hs⟩)
  dsimp only [Pt.U, Pt.locs, Pt.cells, Pt.slots] at X' l1 l2 l3 st' hQ h2 hg
  subst l1 l2 l3
  obtain ⟨X'', S'', Z'', o''⟩ := rebS hS hk X' h2 (eT ▸ hg) hZ hown
  exact Goes.via (fun _ k => st'.trans k) (k v T' _ _ X'' S'' (Nat.le_refl _) Z'' o'' (Fr.app N hQ.1) hQ.2)
theorem own_virtualW (X : Stand p l e R (s.setVm vm0) m args below meth c T locs cells slots) (hx : p.tables.exec = Jvm.exec) (hZ : Z.Warmed39 (s.setVm vm0).vm) {own : String} {index : Nat} (hown : (s.setVm vm0).vm.findClass own = some m.cls) (hS : s.Since vm0 k0) (hk : k0 ≤ h.size) {y : MethodName} {bytes : ByteArray} {maxL : Nat} {ret : Option FieldType} {rm : Room} {W : Nat} {Q' : Option Value → Heap → Prop} {z : MethodName} {C : String} (w1 : (Jvm.Cond.methodLink own index y).before a0 Z = true) (w2 : (Jvm.Cond.declares y).before a0 Z = true) (hnf : NotFace (s.setVm vm0) y) (w5 : (Jvm.Cond.selects C y z).before a0 Z = true) (w6 : (Jvm.Cond.instanceMethod z).before a0 Z = true) (w3 : (Jvm.Cond.initialized z.cls).before a0 Z = true) (w4 : (Jvm.Cond.code z bytes maxL ret).before a0 Z = true) {a : Addr} (E : Exa Z h a C) (hy : y.cls ≠ "java/lang/invoke/MethodHandle" ∧ y.cls ≠ "java/lang/invoke/VarHandle") (hf : rm.frames + 1 ≤ R.frames) (hl : W + (maxL + 11) + rm.locals ≤ R.locals) (N : Fr n0 locs) (eT : T.heap = h) (hsize : Ls.size = c.maxLocals) {argsL rest : List Value} (hlen : ∀ sig, parseMethodDescriptor y.desc = some sig → argsL.length = sig.parameters.length) (hW : (rest.map fun v => v.category).sum ≤ W) (hc : cells + rm.cells ≤ R.cells) (hs : slots + rm.slots ≤ R.slots) (M : MeetsW l z bytes maxL ret [] rm rm.cells rm.slots Z (.ref a :: argsL).toArray h n0 Q') (hst : st = argsL.reverse ++ .ref a :: rest) (hd : decode c.code pc = .ok (.invokevirtual index, 3))
    (k : ∀ v T' locs' k1, Stand p l e R (s.setVm T'.vm) m args below meth c T' locs' (cells + rm.cells) (slots + rm.slots) → s.Since T'.vm k1 → k1 ≤ T'.heap.size → Z.Warmed39 (s.setVm T'.vm).vm → (s.setVm T'.vm).vm.findClass own = some m.cls → Fr n0 locs' → Q' v T'.heap → Goes p e below FE n0 Q (T'.setTop (mkF m (pc + 3) Ls (v.toList ++ rest)))) : Goes p e below FE n0 Q (T.setTop (mkF m pc Ls st)) := by
  subst hst
  obtain ⟨cq, kq, qa, qb, qc⟩ := isOf hZ eT E
  obtain ⟨v, _, ⟨T', L', k', n'⟩, -, X', h2, hg, ⟨Lc, hQ, l1, l2, l3⟩, st'⟩ := X.virtualBackS hx (y := y) (z := z) hown (mvT hZ w1) (mvT hZ w2) hnf (mvT hZ w5) (mvT hZ w6) hy (backOfS (W := W) (Q := fun v h L => Fr n0 L ∧ Q' v h) M hZ w4 w3 hf hl) qa qc (g := mkF m pc Ls (argsL.reverse ++ .ref a :: rest)) rfl hsize (Steps.refl _) (argsL := argsL) (rest := rest) hlen rfl (by show 2 * 0 + _ ≤ _; omega) hd (fun _ _ => ⟨rfl, eT, hc, hs⟩)
  dsimp only [Pt.U, Pt.locs, Pt.cells, Pt.slots] at X' l1 l2 l3 st' hQ h2 hg
  subst l1 l2 l3
  obtain ⟨X'', S'', Z'', o''⟩ := rebS hS hk X' h2 (eT ▸ hg) hZ hown
  exact Goes.via (fun _ k => st'.trans k) (k v T' _ _ X'' S'' (Nat.le_refl _) Z'' o'' (Fr.app N hQ.1) hQ.2)
end OwnWide
section OwnHeld
variable {p : Program} {l : Launch} {e : Env} {R : Room} {s : State} {m : MethodId} {args : Array Value} {below : List Frame} {meth : Method} {c : Code} {T : State} {locs : List Loc} {cells slots : Nat} {Z : State} {a0 : Array Value} {h h' h0 : Heap} {n0 kc ks k0 : Nat} {vm0 : Vm} {FE : Outcome → State → List Loc → Prop} {Q : Option Value → Heap → Prop} {pc pc' : Nat} {Ls Ls' : Array Slot} {st : List Value} {EL : List (String × Nat)}
/-- x is a String of the signs cs, each 0 to 255 -/
def IsStr (Z : State) (h : Heap) (x : Addr) (cs : List Int32) : Prop := ∃ (t : Addr) (kb : ClassId), Exa Z h x "java/lang/String" ∧ Fld Z h x "java/lang/String" "value" "[B" (.ref t) ∧ Fld Z h x "java/lang/String" "coder" "B" (.int 0) ∧
  Arv Z h t kb .byte (Int32.ofNat cs.length) ((cs.map fun c => c.toInt8.toInt32).map Value.int) (.int 0) ∧ cs.length ≤ 4000 ∧ ∀ c ∈ cs, ¬ c < 0 ∧ ¬ (255 : Int32) < c
theorem IsStr.ext {x : Addr} {cs : List Int32} (S : IsStr Z h x cs) (E : Ext h h') : IsStr Z h' x cs := by
  obtain ⟨t, kb, a, b, c, d, r⟩ := S
  exact ⟨t, kb, a.ext E, b.ext E, c.ext E, d.ext E, r⟩
theorem IsStr.keep0 {x : Addr} {cs : List Int32} (S : IsStr Z h x cs) (K : Keep h h' []) : IsStr Z h' x cs := by
  obtain ⟨t, kb, a, b, c, d, r⟩ := S
  exact ⟨t, kb, a.keep K, b.keep K nin0, c.keep K nin0, d.keep K nin0, r⟩
theorem IsStr.exa {x : Addr} {cs : List Int32} (S : IsStr Z h x cs) : Exa Z h x "java/lang/String" := by
  obtain ⟨t, kb, a, r⟩ := S
  exact a
/-- a local's place that holds nothing or a word of one place -/
def Pl (x : Slot) : Prop := x = .unset ∨ (∃ b, x = .val (.ref b)) ∨ (∃ i, x = .val (.int i))
def MeetsH (l : Launch) (y : MethodName) (bytes : ByteArray) (maxL : Nat) (ret : Option FieldType) (ws : List Jvm.Cond) (rm : Room) (kc ks : Nat) (Z : State) (EL : List (String × Nat)) (as' : Array Value) (h : Heap) (n0 : Nat) (Q : Option Value → Heap → Prop) : Prop :=
  MetFree l y (head1 (Jvm.Cond.code y bytes maxL ret :: ws) rm) (fun a U => a = as' ∧ Z.Warmed39 U.vm ∧ U.heap = h ∧ CHv Z EL U.vm h) (fun _ _ _ _ _ => True) (fun _ U o U' => ∃ v L, o = .returned v ∧ (Fr n0 L ∧ Q v U'.heap) ∧ CHr Z EL U.vm U.heap U'.vm U'.heap ∧ ReturnedEndW U o U' L kc ks)
theorem MeetsH.of {y : MethodName} {bytes : ByteArray} {maxL : Nat} {ret : Option FieldType} {ws : List Jvm.Cond} {rm : Room} {as' : Array Value} (hx : plainFor y = true) {F : MethodId → JFrame} (hF : ∀ m, entryFrame m as' maxL = F m)
    (body : ∀ p e s m below meth c T, p.tables.exec = Jvm.exec → c.code = bytes → c.maxLocals = maxL → s.vm.findClass y.cls = some m.cls → meth.name = y.name → meth.sig.returnType = ret → meth.locks = false → Z.Warmed39 s.vm → s.Since s.vm 0 → CHv Z EL s.vm h →
      Stand p l e rm (s.setVm s.vm) m as' below meth c T [] 0 0 → T.heap = h → Goes p e below (fun o t L => CHr Z EL s.vm h t.vm t.heap ∧ ReturnedEndW s o t L kc ks) n0 Q (T.setTop (F m))) :
    MeetsH l y bytes maxL ret ws rm kc ks Z EL as' h n0 Q := by
  refine MetFree.of_bodySF hx hisR ?_
  intro p e s m args below meth c s₁ Bd hml hP hK
  obtain ⟨rfl, hZ, hh, hC⟩ := hP
  subst hh
  have X0 : Stand p l e rm s m args below meth c s₁ [] 0 0 := Stand.of_body Bd
  have e0 : s₁.heap = s.heap := by rw [Bd.state]; rfl
  obtain ⟨s₂, o, k, r⟩ := body p e s m below meth c s₁ Bd.exec Bd.bytes hml (findClass_of_methodNamed Bd.named) (name_of_methodNamed Bd.named Bd.method).1 Bd.returns Bd.notSynchronized hZ ((State.WarmedH.refl s).since 0) hC X0 e0
  exact ⟨s₂, o, castTop (hF m) k, r⟩
theorem Goes.retH {S : State} {v : Option Value} (X : Stand p l e R (s.setVm vm0) m args below meth c T locs cells slots) (hS : s.Since vm0 k0) (hk : k0 ≤ T.heap.size) (hZ : Z.Warmed39 vm0) (hEL : EW Z a0 EL) (C : CHr Z EL s.vm h0 vm0 T.heap) (N : Fr n0 locs) (hlk : meth.locks = false) (hv : meth.sig.returnType = none → v = none) (hc : cells ≤ kc) (hs : slots ≤ ks) (hq : Q v T.heap)
    (f : ∀ fs, (∀ (f : JFrame) (acts : List Action), f.method = m → f.locked = none → f.entered = [] → (doReturn e (T.setTop f) acts v).1 = T.setFrames fs) → Steps p.tables e below S (T.setFrames fs)) : Goes p e below (fun o t L => CHr Z EL s.vm h0 t.vm t.heap ∧ ReturnedEndW s o t L kc ks) n0 Q S := by
  obtain ⟨fs, hr, hrun, hended, hE⟩ := X.leaveW hS hk hv hlk
  have C' := C.trans (CHv.at X hZ hEL C.1)
  exact ⟨_, _, f fs hr, hrun, hended, _, _, rfl, ⟨N, hq⟩, C', hE.1, hE.2.1, hE.2.2.1, hE.2.2.2.mono hc hs⟩
theorem own_retNH (X : Stand p l e R (s.setVm vm0) m args below meth c T locs cells slots) (hx : p.tables.exec = Jvm.exec) {t : FieldType} {z : Int32} (hS : s.Since vm0 k0) (hk : k0 ≤ T.heap.size) (hZ : Z.Warmed39 vm0) (hEL : EW Z a0 EL) (C : CHr Z EL s.vm h0 vm0 T.heap) (N : Fr n0 locs) (hlk : meth.locks = false) (hc : cells ≤ kc) (hs : slots ≤ ks) (hret : meth.sig.returnType = some t) (ht : t = .boolean ∨ t = .byte ∨ t = .char ∨ t = .short) (hd : decode c.code pc = .ok (.ireturn, 1)) (hq : Q (some (.int (nar t z))) T.heap) : Goes p e below (fun o t L => CHr Z EL s.vm h0 t.vm t.heap ∧ ReturnedEndW s o t L kc ks) n0 Q (T.setTop (mkF m pc Ls (.int z :: st))) :=
  Goes.retH X hS hk hZ hEL C N hlk (fun h => by rw [hret] at h; cases h) hc hs hq (fun fs hr => retN X hx hret ht hd hr)
theorem own_ldcH (X : Stand p l e R (s.setVm vm0) m args below meth c T locs cells slots) (hx : p.tables.exec = Jvm.exec) (hZ : Z.Warmed39 (s.setVm vm0).vm) {own : String} {index : Nat} (hown : (s.setVm vm0).vm.findClass own = some m.cls) (hS : s.Since vm0 k0) (hk : k0 ≤ h.size) {text : String} (w : (Jvm.Cond.stringLink own index text).before a0 Z = true) (wS : ∀ a ∈ Bundle.stringAtoms, a.before a0 Z = true) (hEL : EW Z a0 EL) (hmem : (own, index) ∈ EL) (H : CHv Z EL vm0 h) (eT : T.heap = h) {cs : List Int32} (ht : (∀ c ∈ text.toList, c.toNat < 256) ∧ text.toList.map (fun c => Value.int (Jvm.Lit.byteI c.toNat.toUInt16)) = (cs.map fun c => c.toInt8.toInt32).map Value.int) (hz : ¬ Int32.ofNat cs.length < 0 ∧ (Int32.ofNat cs.length).toNatClampNeg = cs.length) (h4 : cs.length ≤ 4000) (h5 : ∀ c ∈ cs, ¬ c < 0 ∧ ¬ (255 : Int32) < c) {n : Nat} (hd : decode c.code pc = .ok (.ldc index, 2)) (hn : 4 * text.toList.length ≤ n) (hbig : n ≤ 536870912) (hc : cells + 2 ≤ R.cells) (hl : slots + (n + 4) ≤ R.slots)
    (k : ∀ a T' h' k1, Stand p l e R (s.setVm T'.vm) m args below meth c T' locs (cells + 2) (slots + (n + 4)) → s.Since T'.vm k1 → k1 ≤ h'.size → Z.Warmed39 (s.setVm T'.vm).vm → (s.setVm T'.vm).vm.findClass own = some m.cls → T'.heap = h' → Ext h h' → CHr Z EL vm0 h T'.vm h' → IsStr Z h' a cs → Goes p e below FE n0 Q (T'.setTop (mkF m (pc + 2) Ls (.ref a :: st)))) : Goes p e below FE n0 Q (T.setTop (mkF m pc Ls st)) := by
  obtain ⟨a, T', h', k1, b, kb, X', e', E', S', q1, Z', o', f1, f2, f3, f4, -, -, hC, -, -, st'⟩ := ldcCH X hx hZ hown w wS eT hS hk hEL hmem H ht hz.1 (by rw [hz.2]; simp) (g := mkF m pc Ls st) rfl hd hn hbig hc hl
  exact Goes.via st' (k a T' h' k1 X' S' q1 Z' o' e' E' hC ⟨b, kb, f1, f3, f2, f4, h4, h5⟩)
theorem own_virtualH (X : Stand p l e R (s.setVm vm0) m args below meth c T locs cells slots) (hx : p.tables.exec = Jvm.exec) (hZ : Z.Warmed39 (s.setVm vm0).vm) {own : String} {index : Nat} (hown : (s.setVm vm0).vm.findClass own = some m.cls) (hS : s.Since vm0 k0) (hk : k0 ≤ h.size) {y : MethodName} {bytes : ByteArray} {maxL : Nat} {ret : Option FieldType} {rm : Room} {W : Nat} {Q' : Option Value → Heap → Prop} {z : MethodName} {C : String} (w1 : (Jvm.Cond.methodLink own index y).before a0 Z = true) (w2 : (Jvm.Cond.declares y).before a0 Z = true) (hnf : NotFace (s.setVm vm0) y) (w5 : (Jvm.Cond.selects C y z).before a0 Z = true) (w6 : (Jvm.Cond.instanceMethod z).before a0 Z = true) (w3 : (Jvm.Cond.initialized z.cls).before a0 Z = true) (w4 : (Jvm.Cond.code z bytes maxL ret).before a0 Z = true) {a : Addr} (E : Exa Z h a C) (hEL : EW Z a0 EL) (H : CHv Z EL vm0 h) (hy : y.cls ≠ "java/lang/invoke/MethodHandle" ∧ y.cls ≠ "java/lang/invoke/VarHandle") (hf : rm.frames + 1 ≤ R.frames) (hl : W + (maxL + 11) + rm.locals ≤ R.locals) (N : Fr n0 locs) (eT : T.heap = h) (hsize : Ls.size = c.maxLocals) {argsL rest : List Value} (hlen : ∀ sig, parseMethodDescriptor y.desc = some sig → argsL.length = sig.parameters.length) (hW : (rest.map fun v => v.category).sum ≤ W) (hc : cells + rm.cells ≤ R.cells) (hs : slots + rm.slots ≤ R.slots) (M : MeetsH l z bytes maxL ret [] rm rm.cells rm.slots Z EL (.ref a :: argsL).toArray h n0 Q') (hst : st = argsL.reverse ++ .ref a :: rest) (hd : decode c.code pc = .ok (.invokevirtual index, 3))
    (k : ∀ v T' locs' k1, Stand p l e R (s.setVm T'.vm) m args below meth c T' locs' (cells + rm.cells) (slots + rm.slots) → s.Since T'.vm k1 → k1 ≤ T'.heap.size → Z.Warmed39 (s.setVm T'.vm).vm → (s.setVm T'.vm).vm.findClass own = some m.cls → Fr n0 locs' → CHr Z EL vm0 h T'.vm T'.heap → Q' v T'.heap → Goes p e below FE n0 Q (T'.setTop (mkF m (pc + 3) Ls (v.toList ++ rest)))) : Goes p e below FE n0 Q (T.setTop (mkF m pc Ls st)) := by
  subst hst
  obtain ⟨cq, kq, qa, qb, qc⟩ := isOf hZ eT E
  obtain ⟨v, _, ⟨T', L', k', n'⟩, -, X', h2, hg, ⟨Lc, hQ, l1, l2, l3, hC⟩, st'⟩ := X.virtualBackS hx (y := y) (z := z) hown (mvT hZ w1) (mvT hZ w2) hnf (mvT hZ w5) (mvT hZ w6) hy (backOfSH (W := W) (Q := fun v h L => Fr n0 L ∧ Q' v h) M hZ w4 w3 hf hl hEL H) qa qc (g := mkF m pc Ls (argsL.reverse ++ .ref a :: rest)) rfl hsize (Steps.refl _) (argsL := argsL) (rest := rest) hlen rfl (by show 2 * 0 + _ ≤ _; omega) hd (fun _ _ => ⟨rfl, eT, hc, hs⟩)
  dsimp only [Pt.U, Pt.locs, Pt.cells, Pt.slots] at X' l1 l2 l3 st' hQ h2 hg hC
  subst l1 l2 l3
  obtain ⟨X'', S'', Z'', o''⟩ := rebS hS hk X' h2 (eT ▸ hg) hZ hown
  exact Goes.via (fun _ k => st'.trans k) (k v T' _ _ X'' S'' (Nat.le_refl _) Z'' o'' (Fr.app N hQ.1) hC hQ.2)
theorem own_callSH (X : Stand p l e R (s.setVm vm0) m args below meth c T locs cells slots) (hx : p.tables.exec = Jvm.exec) (hZ : Z.Warmed39 (s.setVm vm0).vm) {own : String} {index : Nat} (hown : (s.setVm vm0).vm.findClass own = some m.cls) (hS : s.Since vm0 k0) (hk : k0 ≤ h.size) {y : MethodName} {bytes : ByteArray} {maxL : Nat} {ret : Option FieldType} {rm : Room} {W : Nat} {Q' : Option Value → Heap → Prop} (w1 : (Jvm.Cond.methodLink own index y).before a0 Z = true) (w2 : (Jvm.Cond.static y).before a0 Z = true) (w3 : (Jvm.Cond.initialized y.cls).before a0 Z = true) (w4 : (Jvm.Cond.code y bytes maxL ret).before a0 Z = true) (hEL : EW Z a0 EL) (H : CHv Z EL vm0 h) (hy : y.cls ≠ "java/lang/invoke/MethodHandle" ∧ y.cls ≠ "java/lang/invoke/VarHandle") (hf : rm.frames + 1 ≤ R.frames) (hl : W + (maxL + 11) + rm.locals ≤ R.locals) (N : Fr n0 locs) (eT : T.heap = h) (hsize : Ls.size = c.maxLocals) {argsL rest : List Value} (hlen : ∀ sig, parseMethodDescriptor y.desc = some sig → argsL.length = sig.parameters.length) (hW : (rest.map fun v => v.category).sum ≤ W) (hc : cells + rm.cells ≤ R.cells) (hs : slots + rm.slots ≤ R.slots) (M : MeetsH l y bytes maxL ret [] rm rm.cells rm.slots Z EL argsL.toArray h n0 Q') (hst : st = argsL.reverse ++ rest) (hd : decode c.code pc = .ok (.invokestatic index, 3))
    (k : ∀ v T' locs' k1, Stand p l e R (s.setVm T'.vm) m args below meth c T' locs' (cells + rm.cells) (slots + rm.slots) → s.Since T'.vm k1 → k1 ≤ T'.heap.size → Z.Warmed39 (s.setVm T'.vm).vm → (s.setVm T'.vm).vm.findClass own = some m.cls → Fr n0 locs' → CHr Z EL vm0 h T'.vm T'.heap → Q' v T'.heap → Goes p e below FE n0 Q (T'.setTop (mkF m (pc + 3) Ls (v.toList ++ rest)))) : Goes p e below FE n0 Q (T.setTop (mkF m pc Ls st)) := by
  subst hst
  obtain ⟨v, _, ⟨T', L', k', n'⟩, -, X', h2, hg, ⟨Lc, hQ, l1, l2, l3, hC⟩, st'⟩ := callSS X hx (y := y) hown (mvT hZ w1) (mvT hZ w2) (mvT hZ w3) (mvT hZ w4) hy (backOfSH (W := W) (Q := fun v h L => Fr n0 L ∧ Q' v h) M hZ w4 w3 hf hl hEL H) (g := mkF m pc Ls (argsL.reverse ++ rest)) rfl hsize (argsL := argsL) (rest := rest) hlen rfl (by show 2 * 0 + _ ≤ _; omega) hd (fun _ _ => ⟨rfl, eT, hc, hs⟩)
  dsimp only [Pt.U, Pt.locs, Pt.cells, Pt.slots] at X' l1 l2 l3 st' hQ h2 hg hC
  subst l1 l2 l3
  obtain ⟨X'', S'', Z'', o''⟩ := rebS hS hk X' h2 (eT ▸ hg) hZ hown
  exact Goes.via (fun _ k => st'.trans k) (k v T' _ _ X'' S'' (Nat.le_refl _) Z'' o'' (Fr.app N hQ.1) hC hQ.2)
theorem own_specialH (X : Stand p l e R (s.setVm vm0) m args below meth c T locs cells slots) (hx : p.tables.exec = Jvm.exec) (hZ : Z.Warmed39 (s.setVm vm0).vm) {own : String} {index : Nat} (hown : (s.setVm vm0).vm.findClass own = some m.cls) (hS : s.Since vm0 k0) (hk : k0 ≤ h.size) {y : MethodName} {bytes : ByteArray} {maxL : Nat} {rm : Room} {W : Nat} {Q' : Option Value → Heap → Prop} (hy1 : y.name = "<init>") (w1 : (Jvm.Cond.methodLink own index y).before a0 Z = true) (w2 : (Jvm.Cond.instanceMethod y).before a0 Z = true) (w3 : (Jvm.Cond.initialized y.cls).before a0 Z = true) (w4 : (Jvm.Cond.code y bytes maxL none).before a0 Z = true) {a : Addr} (hEL : EW Z a0 EL) (H : CHv Z EL vm0 h) (hy : y.cls ≠ "java/lang/invoke/MethodHandle" ∧ y.cls ≠ "java/lang/invoke/VarHandle") (hf : rm.frames + 1 ≤ R.frames) (hl : W + (maxL + 11) + rm.locals ≤ R.locals) (N : Fr n0 locs) (eT : T.heap = h) (hsize : Ls.size = c.maxLocals) {argsL rest : List Value} (hlen : ∀ sig, parseMethodDescriptor y.desc = some sig → argsL.length = sig.parameters.length) (hW : (rest.map fun v => v.category).sum ≤ W) (hc : cells + rm.cells ≤ R.cells) (hs : slots + rm.slots ≤ R.slots) (M : MeetsH l y bytes maxL none [] rm rm.cells rm.slots Z EL (.ref a :: argsL).toArray h n0 Q') (hst : st = argsL.reverse ++ .ref a :: rest) (hd : decode c.code pc = .ok (.invokespecial index, 3))
    (k : ∀ v T' locs' k1, Stand p l e R (s.setVm T'.vm) m args below meth c T' locs' (cells + rm.cells) (slots + rm.slots) → s.Since T'.vm k1 → k1 ≤ T'.heap.size → Z.Warmed39 (s.setVm T'.vm).vm → (s.setVm T'.vm).vm.findClass own = some m.cls → Fr n0 locs' → CHr Z EL vm0 h T'.vm T'.heap → Q' v T'.heap → Goes p e below FE n0 Q (T'.setTop (mkF m (pc + 3) Ls (v.toList ++ rest)))) : Goes p e below FE n0 Q (T.setTop (mkF m pc Ls st)) := by
  subst hst
  obtain ⟨v, _, ⟨T', L', k', n'⟩, -, X', h2, hg, ⟨Lc, hQ, l1, l2, l3, hC⟩, st'⟩ := X.specialBackS hx (y := y) hy1 hown (mvT hZ w1) (mvT hZ w2) (mvT hZ w4) hy (backOfSH (W := W) (Q := fun v h L => Fr n0 L ∧ Q' v h) M hZ w4 w3 hf hl hEL H) (g := mkF m pc Ls (argsL.reverse ++ .ref a :: rest)) rfl hsize (Steps.refl _) (a := a) (argsL := argsL) (rest := rest) hlen rfl (by show 2 * 0 + _ ≤ _; omega) hd (fun _ _ => ⟨rfl, eT, hc, hs⟩)
  dsimp only [Pt.U, Pt.locs, Pt.cells, Pt.slots] at X' l1 l2 l3 st' hQ h2 hg hC
  subst l1 l2 l3
  obtain ⟨X'', S'', Z'', o''⟩ := rebS hS hk X' h2 (eT ▸ hg) hZ hown
  exact Goes.via (fun _ k => st'.trans k) (k v T' _ _ X'' S'' (Nat.le_refl _) Z'' o'' (Fr.app N hQ.1) hC hQ.2)
theorem own_retVH (X : Stand p l e R (s.setVm vm0) m args below meth c T locs cells slots) (hx : p.tables.exec = Jvm.exec) (hS : s.Since vm0 k0) (hk : k0 ≤ T.heap.size) (hZ : Z.Warmed39 vm0) (hEL : EW Z a0 EL) (C : CHr Z EL s.vm h0 vm0 T.heap) (N : Fr n0 locs) (hlk : meth.locks = false) (hc : cells ≤ kc) (hs : slots ≤ ks) (hret : meth.sig.returnType = none) (hd : decode c.code pc = .ok (.return_, 1)) (hq : Q none T.heap) : Goes p e below (fun o t L => CHr Z EL s.vm h0 t.vm t.heap ∧ ReturnedEndW s o t L kc ks) n0 Q (T.setTop (mkF m pc Ls [])) :=
  Goes.retH X hS hk hZ hEL C N hlk (fun _ => rfl) hc hs hq (fun fs hr => X.returnOut hx hret hd hr)
theorem own_retRH (X : Stand p l e R (s.setVm vm0) m args below meth c T locs cells slots) (hx : p.tables.exec = Jvm.exec) {v : Value} {t : FieldType} (hS : s.Since vm0 k0) (hk : k0 ≤ T.heap.size) (hZ : Z.Warmed39 vm0) (hEL : EW Z a0 EL) (C : CHr Z EL s.vm h0 vm0 T.heap) (N : Fr n0 locs) (hlk : meth.locks = false) (hc : cells ≤ kc) (hs : slots ≤ ks) (hret : meth.sig.returnType = some t) (ht : t.isReference = true) (hv : v.isRef = true) (hn : narrow t v = v) (hd : decode c.code pc = .ok (.areturn, 1)) (hq : Q (some v) T.heap) : Goes p e below (fun o t L => CHr Z EL s.vm h0 t.vm t.heap ∧ ReturnedEndW s o t L kc ks) n0 Q (T.setTop (mkF m pc Ls (v :: st))) :=
  Goes.retH X hS hk hZ hEL C N hlk (fun h => by rw [hret] at h; cases h) hc hs hq (fun fs hr => retOut X hx hret hn (Or.inr (Or.inr (Or.inr (Or.inr ⟨rfl, ht, hv⟩)))) hd hr)
theorem own_strNew (X : Stand p l e R s m args below meth c T locs cells slots) (hx : p.tables.exec = Jvm.exec) (hZ : Z.Warmed39 s.vm) {own : String} {index : Nat} (hown : s.vm.findClass own = some m.cls) {bytes : ByteArray} (w1 : (Jvm.Cond.methodLink own index (⟨"java/lang/String", "<init>", "([C)V"⟩ : MethodName)).before a0 Z = true) (w2 : (Jvm.Cond.instanceMethod (⟨"java/lang/String", "<init>", "([C)V"⟩ : MethodName)).before a0 Z = true) (w4 : (Jvm.Cond.code (⟨"java/lang/String", "<init>", "([C)V"⟩ : MethodName) bytes 2 none).before a0 Z = true) (hws : ∀ d ∈ StrChars.Road.words, d.before a0 Z = true) (wi : (Jvm.Cond.instantiable "java/lang/String" 4).before a0 Z = true) {x b : Addr} {kC : ClassId} {cs : List Int32} {v0 c0 d : Value} {z : Int32} (N : Fr n0 locs) (eT : T.heap = h) (hx0 : n0 ≤ x) (hh0 : n0 ≤ h.size) (E : Exa Z h x "java/lang/String") (V : Fld Z h x "java/lang/String" "value" "[B" v0) (C : Fld Z h x "java/lang/String" "coder" "B" c0) {n : Nat} {Nn : Int32} (hn : cs.length = n) (hN : Nn = Int32.ofNat n) (K : Arv Z h b kC .char Nn (cs.map Value.int) d) (S : Sta Z h "java/lang/String" "COMPACT_STRINGS" "Z" (.int z)) (hz : ¬ z = 0) (l0 : 0 < n) (l2 : n ≤ 4000) (hp : ∀ c ∈ cs, ¬ c < 0 ∧ ¬ (255 : Int32) < c) {W : Nat} {rest : List Value} (hfr : 4 ≤ R.frames) (hlo : W + 65 ≤ R.locals) (hsize : Ls.size = c.maxLocals) (hW : (rest.map fun v => v.category).sum ≤ W) (hc : cells + 1 ≤ R.cells) (hs : slots + n ≤ R.slots) (hd : decode c.code pc = .ok (.invokespecial index, 3))
    (k : ∀ T' locs' h', Stand p l e R s m args below meth c T' locs' (cells + 1) (slots + n) → T'.heap = h' → Fr n0 locs' → Keep h h' [x] → IsStr Z h' x cs → Goes p e below FE n0 Q (T'.setTop (mkF m (pc + 3) Ls rest))) : Goes p e below FE n0 Q (T.setTop (mkF m pc Ls (.ref b :: .ref x :: rest))) := by
  subst hn hN
  obtain ⟨v, _, ⟨T', L', k', n'⟩, -, X', ⟨Lc, ⟨rfl, q1, q2, q3, q4, t, kb, -, -, -, q5, q6⟩, l1, l2', l3⟩, st'⟩ := X.specialBack hx (y := (⟨"java/lang/String", "<init>", "([C)V"⟩ : MethodName)) rfl hown (mvT hZ w1) (mvT hZ w2) (mvT hZ w4) (by decide) (StrChars.Road.backV (W := W) (n0 := n0) (cs := cs) hZ hws wi hx0 hh0 E V C K S hz rfl rfl l0 l2 hp rfl hfr hlo) (g := mkF m pc Ls (.ref b :: .ref x :: rest)) rfl hsize (Steps.refl _) (a := x) (argsL := [.ref b]) (rest := rest) (lenOf (by decide +kernel : parseMethodDescriptor "([C)V" = some ⟨[.array .char], none⟩) rfl) rfl (by show 2 * 0 + _ ≤ _; omega) hd (fun _ _ => ⟨rfl, eT, hc, hs⟩)
  dsimp only [Pt.U, Pt.locs, Pt.cells, Pt.slots] at X' l1 l2' l3 st' q1 q2 q3 q4 q5 q6
  subst l1 l2' l3
  exact Goes.via (fun _ k => st'.trans k) (k T' _ _ X' rfl (Fr.app N q1) q2 ⟨t, kb, q3, q5, q4, q6, l2, hp⟩)
theorem own_gd (l : List Int32) (i : Nat) (x : Int32) : (l.map Value.int).getD i (.int x) = .int (l.getD i x) := by
  simp only [List.getD_eq_getElem?_getD, List.getElem?_map]
  cases l[i]? <;> rfl
theorem own_seteq (l : List Int32) (i : Nat) (x : Int32) (hi : i < l.length) : l.set i x = l ↔ l.getD i 0 = x := by
  rw [List.getD_eq_getElem?_getD, List.getElem?_eq_getElem hi, Option.getD_some]
  constructor
  · intro q
    have := congrArg (fun z => z[i]?) q
    simp only [List.getElem?_set_self hi, List.getElem?_eq_getElem hi, Option.some.injEq] at this
    exact this.symm
  · intro q
    rw [← q, List.set_getElem_self]
theorem own_setb {l : List Int32} (h : ∀ c ∈ l, ¬ c < 0 ∧ ¬ (255 : Int32) < c) (i : Nat) {x : Int32} (hx : ¬ x < 0 ∧ ¬ (255 : Int32) < x) : ∀ c ∈ l.set i x, ¬ c < 0 ∧ ¬ (255 : Int32) < c := fun c hc => by
  rcases List.mem_or_eq_of_mem_set hc with q | rfl
  · exact h c q
  · exact hx
end OwnHeld
section OwnSb
variable {p : Program} {l : Launch} {e : Env} {R : Room} {s : State} {m : MethodId} {args : Array Value} {below : List Frame} {meth : Method} {c : Code} {T : State} {locs : List Loc} {cells slots : Nat} {Z : State} {a0 : Array Value} {h : Heap} {n0 : Nat} {FE : Outcome → State → List Loc → Prop} {Q : Option Value → Heap → Prop} {pc : Nat} {Ls : Array Slot} {st : List Value}
/-- signs as the bytes of an array -/
abbrev bl (bs : List Int32) : List Value := (bs.map fun c => c.toInt8.toInt32).map Value.int
theorem bl_len (bs : List Int32) : (bl bs).length = bs.length := by simp
theorem bl_app (a b : List Int32) : bl (a ++ b) = bl a ++ bl b := by simp
theorem own_ofn {n : Nat} (h : n < 2147483648) : (Int32.ofNat n).toInt = (n : Int) := Int32.toInt_ofNat_small (by omega)
theorem own_clamp {n : Nat} (h : n < 2147483648) : (Int32.ofNat n).toNatClampNeg = n := by
  show (Int32.ofNat n).toInt.toNat = n
  rw [own_ofn h]; simp
theorem own_nneg {n : Nat} (h : n < 2147483648) : ¬ (Int32.ofNat n < 0) := by
  rw [Int32.lt_iff_toInt_lt, own_ofn h, show (0 : Int32).toInt = 0 by decide]; omega
theorem own_shr0 (x : Int32) : x >>> ((0 : Int32) &&& 31) = x := by rw [show ((0 : Int32) &&& 31) = 0 by decide]; simp
theorem own_shl0 (x : Int32) : x <<< ((0 : Int32) &&& 31) = x := by rw [show ((0 : Int32) &&& 31) = 0 by decide]; simp
theorem own_add (a b : Nat) : Int32.ofNat a + Int32.ofNat b = Int32.ofNat (a + b) := (Int32.ofNat_add a b).symm
theorem own_addL (a b : List Int32) : Int32.ofNat a.length + Int32.ofNat b.length = Int32.ofNat (a ++ b).length := by rw [own_add, List.length_append]
theorem own_us (cs : List Int32) (hs : cs.length < 2147483648) : bl cs = (List.range (Int32.ofNat cs.length).toNatClampNeg).map fun i => (bl cs).getD ((0 : Int32).toNatClampNeg + i) (.int 0) := by
  rw [own_clamp hs, show (0 : Int32).toNatClampNeg = 0 by decide]
  apply List.ext_getElem
  · simp
  · intro i h1 h2
    simp at h1
    simp [List.getD_eq_getElem?_getD, h1]
theorem own_tk (bs : List Int32) (tl : List Value) : (bl bs ++ tl).take bs.length = bl bs := by
  have q := List.take_left (l₁ := bl bs) (l₂ := tl)
  rwa [bl_len] at q
theorem own_dr (bs : List Int32) (tl : List Value) (n : Nat) : (bl bs ++ tl).drop (bs.length + n) = tl.drop n := by
  have q := List.drop_left (l₁ := bl bs) (l₂ := tl)
  rw [bl_len] at q
  rw [← List.drop_drop, q]
/-- a String's bytes into an array behind the bytes bs -/
theorem own_cpS (X : Stand p l e R s m args below meth c T locs cells slots) (hx : p.tables.exec = Jvm.exec) (hZ : Z.Warmed39 s.vm) {own : String} {index : Nat} (hown : s.vm.findClass own = some m.cls) (w1 : (Jvm.Cond.methodLink own index Jvm.Stand.acN).before a0 Z = true) (w2 : (Jvm.Cond.native Jvm.Stand.acN).before a0 Z = true) (w3 : (Jvm.Cond.static Jvm.Stand.acN).before a0 Z = true) (w4 : (Jvm.Cond.initialized "java/lang/System").before a0 Z = true) (eT : T.heap = h) {a b : Addr} {k k' : ClassId} {z' : Int32} {cs bs : List Int32} {tl : List Value} (A : Arv Z h a k .byte (Int32.ofNat cs.length) (bl cs) (.int 0)) (B : Arv Z h b k' .byte z' (bl bs ++ tl) (.int 0)) (hz : z'.toNatClampNeg = bs.length + tl.length) (hfit : cs.length ≤ tl.length) (hsm : bs.length + tl.length ≤ 4000) (N : Fr n0 locs) (ge : n0 ≤ b) (hsize : Ls.size = c.maxLocals) (hd : decode c.code pc = .ok (.invokestatic index, 3)) (hf : 1 ≤ R.frames) {W : Nat} (hW : (st.map fun v => v.category).sum ≤ W) (hlo : W + 18 ≤ R.locals)
    (k : ∀ T' h' locs', Stand p l e R s m args below meth c T' locs' cells slots → T'.heap = h' → Fr n0 locs' → Keep h h' [b] → Arv Z h' b k' .byte z' (bl (bs ++ cs) ++ (tl.drop cs.length)) (.int 0) → Goes p e below FE n0 Q (T'.setTop (mkF m (pc + 3) Ls st))) : Goes p e below FE n0 Q (T.setTop (mkF m pc Ls (.int (Int32.ofNat cs.length) :: .int (Int32.ofNat bs.length) :: .ref b :: .int 0 :: .ref a :: st))) := by
  have c1 : (Int32.ofNat cs.length).toNatClampNeg = cs.length := own_clamp (by omega)
  have c2 : (Int32.ofNat bs.length).toNatClampNeg = bs.length := own_clamp (by omega)
  have c0 : (0 : Int32).toNatClampNeg = 0 := by decide
  exact own_cpA X hx hZ hown w1 w2 w3 w4 eT A B (us := bl cs) (vr := bl (bs ++ cs) ++ (tl.drop cs.length)) (Or.inl ⟨rfl, rfl⟩) (by decide) (own_nneg (by omega)) (own_nneg (by omega)) (by rw [c0, c1]; omega) (by rw [c2, c1, hz]; omega) (own_us cs (by omega)) (by rw [c2, c1]; simp; omega) (by rw [c2, c1, own_tk, own_dr, bl_app]) N ge hsize hd hf (W := W) hW hlo k
/-- the whole of an array of 16 into one of 34 -/
theorem own_cpG (X : Stand p l e R s m args below meth c T locs cells slots) (hx : p.tables.exec = Jvm.exec) (hZ : Z.Warmed39 s.vm) {own : String} {index : Nat} (hown : s.vm.findClass own = some m.cls) (w1 : (Jvm.Cond.methodLink own index Jvm.Stand.acN).before a0 Z = true) (w2 : (Jvm.Cond.native Jvm.Stand.acN).before a0 Z = true) (w3 : (Jvm.Cond.static Jvm.Stand.acN).before a0 Z = true) (w4 : (Jvm.Cond.initialized "java/lang/System").before a0 Z = true) (eT : T.heap = h) {a b : Addr} {k k' : ClassId} {bs : List Int32} {tl : List Value} (A : Arv Z h a k .byte (16 : Int32) (bl bs ++ tl) (.int 0)) (B : Arv Z h b k' .byte (34 : Int32) (List.replicate 34 (Value.int (0 : Int32))) (.int 0)) (hz : bs.length + tl.length = 16) (N : Fr n0 locs) (ge : n0 ≤ b) (hsize : Ls.size = c.maxLocals) (hd : decode c.code pc = .ok (.invokestatic index, 3)) (hf : 1 ≤ R.frames) {W : Nat} (hW : (st.map fun v => v.category).sum ≤ W) (hlo : W + 18 ≤ R.locals)
    (k : ∀ T' h' locs', Stand p l e R s m args below meth c T' locs' cells slots → T'.heap = h' → Fr n0 locs' → Keep h h' [b] → Arv Z h' b k' .byte (34 : Int32) (bl bs ++ (tl ++ List.replicate 18 (Value.int (0 : Int32)))) (.int 0) → Goes p e below FE n0 Q (T'.setTop (mkF m (pc + 3) Ls st))) : Goes p e below FE n0 Q (T.setTop (mkF m pc Ls (.int (16 : Int32) :: .int (0 : Int32) :: .ref b :: .int (0 : Int32) :: .ref a :: st))) := by
  have c1 : (16 : Int32).toNatClampNeg = 16 := by decide
  have c0 : (0 : Int32).toNatClampNeg = 0 := by decide
  have hl : (bl bs ++ tl).length = 16 := by simp; omega
  refine own_cpA X hx hZ hown w1 w2 w3 w4 eT A B (us := bl bs ++ tl) (vr := bl bs ++ (tl ++ List.replicate 18 (Value.int (0 : Int32)))) (Or.inl ⟨rfl, rfl⟩) (by decide) (by decide) (by decide) (by decide) (by decide) ?_ (by rw [c0, c1]; simp) ?_ N ge hsize hd hf (W := W) hW hlo k
  · rw [c0, c1]
    apply List.ext_getElem
    · simp; omega
    · intro i h1 h2
      simp only [List.getElem_map, List.getElem_range, Nat.zero_add]
      rw [List.getD_eq_getElem?_getD, List.getElem?_eq_getElem h1]; rfl
  · rw [c0, c1, List.append_assoc]; simp
/-- the first bytes of a builder's array into a new one -/
theorem own_cpR (X : Stand p l e R s m args below meth c T locs cells slots) (hx : p.tables.exec = Jvm.exec) (hZ : Z.Warmed39 s.vm) {own : String} {index : Nat} (hown : s.vm.findClass own = some m.cls) (w1 : (Jvm.Cond.methodLink own index Jvm.Stand.acN).before a0 Z = true) (w2 : (Jvm.Cond.native Jvm.Stand.acN).before a0 Z = true) (w3 : (Jvm.Cond.static Jvm.Stand.acN).before a0 Z = true) (w4 : (Jvm.Cond.initialized "java/lang/System").before a0 Z = true) (eT : T.heap = h) {a b : Addr} {k k' : ClassId} {z : Int32} {bs : List Int32} {tl : List Value} (A : Arv Z h a k .byte z (bl bs ++ tl) (.int 0)) (B : Arv Z h b k' .byte (Int32.ofNat bs.length) [] (.int 0)) (hz : z.toNatClampNeg = bs.length + tl.length) (hsm : bs.length + tl.length ≤ 4000) (N : Fr n0 locs) (ge : n0 ≤ b) (hsize : Ls.size = c.maxLocals) (hd : decode c.code pc = .ok (.invokestatic index, 3)) (hf : 1 ≤ R.frames) {W : Nat} (hW : (st.map fun v => v.category).sum ≤ W) (hlo : W + 18 ≤ R.locals)
    (k : ∀ T' h' locs', Stand p l e R s m args below meth c T' locs' cells slots → T'.heap = h' → Fr n0 locs' → Keep h h' [b] → Arv Z h' b k' .byte (Int32.ofNat bs.length) (bl bs) (.int 0) → Goes p e below FE n0 Q (T'.setTop (mkF m (pc + 3) Ls st))) : Goes p e below FE n0 Q (T.setTop (mkF m pc Ls (.int (Int32.ofNat bs.length) :: .int (0 : Int32) :: .ref b :: .int (0 : Int32) :: .ref a :: st))) := by
  have c1 : (Int32.ofNat bs.length).toNatClampNeg = bs.length := own_clamp (by omega)
  have c0 : (0 : Int32).toNatClampNeg = 0 := by decide
  have B' : Arv Z h b k' .byte (Int32.ofNat bs.length) (List.replicate bs.length (Value.int (0 : Int32))) (.int 0) := B.pad (pad_rep [] (.int 0) bs.length)
  refine own_cpA X hx hZ hown w1 w2 w3 w4 eT A B' (us := bl bs) (vr := bl bs) (Or.inl ⟨rfl, rfl⟩) (by decide) (by decide) (own_nneg (by omega)) (by rw [c0, c1, hz]; omega) (by rw [c0, c1]; omega) ?_ (by rw [c0, c1]; simp) ?_ N ge hsize hd hf (W := W) hW hlo k
  · rw [c0, c1]
    apply List.ext_getElem
    · simp
    · intro i h1 h2
      have h3 : i < bs.length := by simpa using h1
      simp only [List.getElem_map, List.getElem_range, Nat.zero_add]
      rw [List.getD_eq_getElem?_getD, List.getElem?_append_left (by simpa using h3), List.getElem?_eq_getElem (by simpa using h3)]; simp
  · rw [c0, c1]; simp
theorem own_full {k : ClassId} {a : Addr} {bs : List Int32} {tl : List Value} (A : Arv Z h a k .byte (16 : Int32) (bl bs ++ tl) (.int 0)) (hz : bs.length + tl.length = 16) (hb : bs.length = 16) : Arv Z h a k .byte (Int32.ofNat bs.length) (bl bs) (.int 0) := by
  have q : tl = [] := List.length_eq_zero_iff.mp (by omega)
  subst q
  rw [hb, show Int32.ofNat 16 = (16 : Int32) by decide]
  simpa using A
theorem own_rng16 {q : Int32} {mn : Nat} (h1 : q = Int32.ofNat mn) (h2 : mn ≤ 16) : ¬ ((0 : Int32) < (q - (16 : Int32))) := by
  subst h1
  have a := own_ofn (n := mn) (by omega)
  have b := c_isub (Int32.ofNat mn) 16
  have r := rng32 (Int32.ofNat mn - 16)
  rw [Int32.lt_iff_toInt_lt, show (0 : Int32).toInt = 0 by decide]
  have : (16 : Int32).toInt = 16 := by decide
  omega
theorem own_rng34 {q : Int32} {mn : Nat} (h1 : q = Int32.ofNat mn) (h2 : mn ≤ 34) : ¬ ((0 : Int32) < (q - (34 : Int32))) := by
  subst h1
  have a := own_ofn (n := mn) (by omega)
  have b := c_isub (Int32.ofNat mn) 34
  have r := rng32 (Int32.ofNat mn - 34)
  rw [Int32.lt_iff_toInt_lt, show (0 : Int32).toInt = 0 by decide]
  have : (34 : Int32).toInt = 34 := by decide
  omega
theorem own_grw16 {q : Int32} {mn : Nat} (h1 : q = Int32.ofNat mn) (h2 : 16 < mn) (h3 : mn ≤ 34) : (0 : Int32) < (q - (16 : Int32)) ∧ ¬ ((18 : Int32) < (q - (16 : Int32))) := by
  subst h1
  have a := own_ofn (n := mn) (by omega)
  have b := c_isub (Int32.ofNat mn) 16
  have r := rng32 (Int32.ofNat mn - 16)
  rw [Int32.lt_iff_toInt_lt, Int32.lt_iff_toInt_lt, show (0 : Int32).toInt = 0 by decide, show (18 : Int32).toInt = 18 by decide]
  have : (16 : Int32).toInt = 16 := by decide
  omega
theorem own_anti {x y : Int32} (h1 : ¬ (y < x)) (h2 : ¬ (x < y)) : x = y := by
  rw [Int32.lt_iff_toInt_lt] at h1 h2
  exact Int32.toInt_inj.mp (by omega)
/-- invokespecial of a method of the superclass -/
theorem own_specialUp (X : Stand p l e R s m args below meth c T locs cells slots) (hx : p.tables.exec = Jvm.exec) (hZ : Z.Warmed39 s.vm) {own : String} {index : Nat} (hown : s.vm.findClass own = some m.cls) {y : MethodName} {bytes : ByteArray} {maxL : Nat} {ret : Option FieldType} {rm : Room} {W : Nat} {Q' : Option Value → Heap → Prop} (w1 : (Jvm.Cond.methodLink own index y).before a0 Z = true) (w2 : (Jvm.Cond.instanceMethod y).before a0 Z = true) (w5 : (Jvm.Cond.superclass own y.cls).before a0 Z = true) {D : String} {y0 : MethodName} (w7 : (Jvm.Cond.selects D y0 y0).before a0 Z = true) (h7 : y0.cls = y.cls) (w3 : (Jvm.Cond.initialized y.cls).before a0 Z = true) (w4 : (Jvm.Cond.code y bytes maxL ret).before a0 Z = true) {a : Addr} {C : String} (E : Exa Z h a C) (hyi : y.name ≠ "<init>") (hy : y.cls ≠ "java/lang/invoke/MethodHandle" ∧ y.cls ≠ "java/lang/invoke/VarHandle") (hf : rm.frames + 1 ≤ R.frames) (hl : W + (maxL + 11) + rm.locals ≤ R.locals) (N : Fr n0 locs) (eT : T.heap = h) (hsize : Ls.size = c.maxLocals) {argsL rest : List Value} (hlen : ∀ sig, parseMethodDescriptor y.desc = some sig → argsL.length = sig.parameters.length) (hW : (rest.map fun v => v.category).sum ≤ W) (hc : cells + rm.cells ≤ R.cells) (hs : slots + rm.slots ≤ R.slots) (M : Meets l y bytes maxL ret [] rm rm.cells rm.slots Z (.ref a :: argsL).toArray h n0 Q') (hst : st = argsL.reverse ++ .ref a :: rest) (hd : decode c.code pc = .ok (.invokespecial index, 3))
    (k : ∀ v T' locs', Stand p l e R s m args below meth c T' locs' (cells + rm.cells) (slots + rm.slots) → Fr n0 locs' → Q' v T'.heap → Goes p e below FE n0 Q (T'.setTop (mkF m (pc + 3) Ls (v.toList ++ rest)))) : Goes p e below FE n0 Q (T.setTop (mkF m pc Ls st)) := by
  subst hst
  obtain ⟨cell, kc0, h1, h2, h3, h4, -⟩ := E
  have hinst : (Jvm.Cond.instanceMethod y).before args s = true := mvT hZ w2
  have hcode : (Jvm.Cond.code y bytes maxL ret).before args s = true := mvT hZ w4
  have hsup : (Jvm.Cond.superclass own y.cls).before args s = true := mvT hZ w5
  obtain ⟨r0, r, hn, hrm, hstc, hab⟩ := Cond.instanceMethod_spec hinst
  obtain ⟨methL, cL, hmL, -, -, -, -, -, -, hsigL⟩ := Cond.code_spec hn hcode
  cases hrm.symm.trans hmL
  obtain ⟨cn, dk, kp, hcn, hdk, hkp, hsuper, -, -, hnid⟩ := Cond.superclass_spec hown hsup
  have hcn' : s.vm.findClass y.cls = some r0.cls := findClass_of_methodNamed hn
  cases hcn.symm.trans hcn'
  obtain ⟨kr, hkr, -⟩ := className_of_methodNamed hn
  have hsub := Jvm.Free.SB.SBLen.isSubclass_self _ _ _ hkr
  obtain ⟨kS, hkS, -⟩ := hZ.alike.2.2 _ _ h3
  have hfd : s.methodFound? y.cls y.name y.desc = some r0 := State.methodFound?_of_named hn hy
  obtain ⟨c7, r7, m7, -, -, q7, -, k7, hk7, hk7i⟩ := Cond.selects_spec (mvT (args := args) hZ w7)
  have e7 := findClass_of_methodNamed q7
  rw [h7] at e7
  have e8 := Option.some.inj (e7.symm.trans hcn')
  rw [e8] at hk7
  have hsame : (Jvm.Cond.sameMethod y.cls y.cls y.name y.desc).before args s = true := by
    have hn' : s.methodNamed? ⟨y.cls, y.name, y.desc⟩ = some r0 := hn
    simp [Cond.before, Cond.holds, Cond.value, hcn', hfd, hn', hk7, hk7i]
  have K : Back l R p e below s args y 3 W _ _ := backOf (W := W) (Q := fun v h L => Fr n0 L ∧ Q' v h) M hZ w4 w3 hf hl
  obtain ⟨v, _, ⟨T', L', k', n'⟩, -, X', ⟨Lc, hQ, l1, l2, l3⟩, st'⟩ := X.specialUpBack hx (x := y) (owner := y.cls) hown (mvT hZ w1) hsame hn hrm hstc hab hyi hdk hnid hcn' hsuper hsub (a := a) (cell := cell) (by rw [eT]; exact h1) (fun q z => by rw [z] at h4; cases h4) hkS K (g := mkF m pc Ls (argsL.reverse ++ .ref a :: rest)) rfl hsize (Steps.refl _) (argsL := argsL) (rest := rest) (hlen _ hsigL) rfl (by show 2 * 0 + _ ≤ _; omega) hd (fun _ _ => ⟨rfl, eT, hc, hs⟩)
  dsimp only [Pt.U, Pt.locs, Pt.cells, Pt.slots] at X' l1 l2 l3 st' hQ
  subst l1 l2 l3
  exact Goes.via (fun _ k => st'.trans k) (k v T' _ X' (Fr.app N hQ.1) hQ.2)
/-- a private method of a class that is perhaps abstract, called on an object whose class selects it -/
theorem own_privateS (X : Stand p l e R s m args below meth c T locs cells slots) (hx : p.tables.exec = Jvm.exec) (hZ : Z.Warmed39 s.vm) {own : String} {index : Nat} (hown : s.vm.findClass own = some m.cls) {y : MethodName} {bytes : ByteArray} {maxL : Nat} {ret : Option FieldType} {rm : Room} {W : Nat} {Q' : Option Value → Heap → Prop} {D : String} (w1 : (Jvm.Cond.methodLink own index y).before a0 Z = true) (w2 : (Jvm.Cond.instanceMethod y).before a0 Z = true) (w5 : (Jvm.Cond.selects D y y).before a0 Z = true) (w6 : (Jvm.Cond.privateMethod y).before a0 Z = true) (w3 : (Jvm.Cond.initialized y.cls).before a0 Z = true) (w4 : (Jvm.Cond.code y bytes maxL ret).before a0 Z = true) {a : Addr} {C : String} (E : Exa Z h a C) (hy : y.cls ≠ "java/lang/invoke/MethodHandle" ∧ y.cls ≠ "java/lang/invoke/VarHandle") (hf : rm.frames + 1 ≤ R.frames) (hl : W + (maxL + 11) + rm.locals ≤ R.locals) (N : Fr n0 locs) (eT : T.heap = h) (hsize : Ls.size = c.maxLocals) {argsL rest : List Value} (hlen : ∀ sig, parseMethodDescriptor y.desc = some sig → argsL.length = sig.parameters.length) (hW : (rest.map fun v => v.category).sum ≤ W) (hc : cells + rm.cells ≤ R.cells) (hs : slots + rm.slots ≤ R.slots) (M : Meets l y bytes maxL ret [] rm rm.cells rm.slots Z (.ref a :: argsL).toArray h n0 Q') (hst : st = argsL.reverse ++ .ref a :: rest) (hd : decode c.code pc = .ok (.invokevirtual index, 3))
    (k : ∀ v T' locs', Stand p l e R s m args below meth c T' locs' (cells + rm.cells) (slots + rm.slots) → Fr n0 locs' → Q' v T'.heap → Goes p e below FE n0 Q (T'.setTop (mkF m (pc + 3) Ls (v.toList ++ rest)))) : Goes p e below FE n0 Q (T.setTop (mkF m pc Ls st)) := by
  subst hst
  obtain ⟨cq, qa, qb⟩ := E.cell
  have hinst : (Jvm.Cond.instanceMethod y).before args s = true := mvT hZ w2
  have hpriv : s.PrivateAt y := Cond.privateMethod_at (mvP hZ w6 (args := #[]))
  obtain ⟨mk, methM, hnamed, -⟩ := Cond.instanceMethod_spec hinst
  obtain ⟨c2, r2, m2, -, -, q3, -, kP, hkP, hkPi⟩ := Cond.selects_spec (mvT (args := args) hZ w5)
  cases hnamed.symm.trans q3
  have hsel : (Jvm.Cond.selects y.cls y y).before args s = true := selects_self_of_private (findClass_of_methodNamed hnamed) hkP hkPi hpriv hinst hy
  obtain ⟨v, _, ⟨T', L', k', n'⟩, -, X', ⟨Lc, hQ, l1, l2, l3⟩, st'⟩ := X.privateBack hx (y := y) hown (mvT hZ w1) hinst hsel hpriv (mvT hZ w4) hy (backOf (W := W) (Q := fun v h L => Fr n0 L ∧ Q' v h) M hZ w4 w3 hf hl) (g := mkF m pc Ls (argsL.reverse ++ .ref a :: rest)) rfl hsize (Steps.refl _) (a := a) (by rw [eT]; exact qa) qb (argsL := argsL) (rest := rest) hlen rfl (by show 2 * 0 + _ ≤ _; omega) hd (fun _ _ => ⟨rfl, eT, hc, hs⟩)
  dsimp only [Pt.U, Pt.locs, Pt.cells, Pt.slots] at X' l1 l2 l3 st' hQ
  subst l1 l2 l3
  exact Goes.via (fun _ k => st'.trans k) (k v T' _ X' (Fr.app N hQ.1) hQ.2)
end OwnSb
/-- how many decimal digits -/
def nd (n : Nat) : Nat := if n < 10 then 1 else if n < 100 then 2 else if n < 1000 then 3 else if n < 10000 then 4 else if n < 100000 then 5 else if n < 1000000 then 6 else if n < 10000000 then 7 else if n < 100000000 then 8 else if n < 1000000000 then 9 else 10
theorem own_nd1 {n : Nat} (hA : 0 ≤ n) (hB : n < 10) : nd n = 1 := by unfold nd; (repeat' split) <;> omega
theorem own_nd2 {n : Nat} (hA : 10 ≤ n) (hB : n < 100) : nd n = 2 := by unfold nd; (repeat' split) <;> omega
theorem own_nd3 {n : Nat} (hA : 100 ≤ n) (hB : n < 1000) : nd n = 3 := by unfold nd; (repeat' split) <;> omega
theorem own_nd4 {n : Nat} (hA : 1000 ≤ n) (hB : n < 10000) : nd n = 4 := by unfold nd; (repeat' split) <;> omega
theorem own_nd5 {n : Nat} (hA : 10000 ≤ n) (hB : n < 100000) : nd n = 5 := by unfold nd; (repeat' split) <;> omega
theorem own_nd6 {n : Nat} (hA : 100000 ≤ n) (hB : n < 1000000) : nd n = 6 := by unfold nd; (repeat' split) <;> omega
theorem own_nd7 {n : Nat} (hA : 1000000 ≤ n) (hB : n < 10000000) : nd n = 7 := by unfold nd; (repeat' split) <;> omega
theorem own_nd8 {n : Nat} (hA : 10000000 ≤ n) (hB : n < 100000000) : nd n = 8 := by unfold nd; (repeat' split) <;> omega
theorem own_nd9 {n : Nat} (hA : 100000000 ≤ n) (hB : n < 1000000000) : nd n = 9 := by unfold nd; (repeat' split) <;> omega
theorem own_nd10 {n : Nat} (hA : 1000000000 ≤ n) (hB : n < 100000000000) : nd n = 10 := by unfold nd; (repeat' split) <;> omega
/-- the digit of weight 10^j -/
abbrev dj (n j : Nat) : Int32 := Int32.ofNat (48 + n / 10 ^ j % 10)
/-- the decimal digits -/
def dg (n : Nat) : List Int32 := (List.range (nd n)).map fun i => dj n (nd n - 1 - i)
theorem dg_len (n : Nat) : (dg n).length = nd n := by simp [dg]
theorem own_addD (bs : List Int32) (n : Nat) : Int32.ofNat bs.length + Int32.ofNat (nd n) = Int32.ofNat (bs ++ dg n).length := by rw [own_add, List.length_append, dg_len]
theorem nd_le (n : Nat) : 1 ≤ nd n ∧ nd n ≤ 10 := by unfold nd; (repeat' split) <;> omega
theorem nd_step {n : Nat} (h1 : 100 ≤ n) (h2 : n < 2147483648) : nd n = nd (n / 100) + 2 := by
  by_cases c3 : n < 1000
  · rw [own_nd3 (by omega) (by omega), own_nd1 (by omega) (by omega)]
  by_cases c4 : n < 10000
  · rw [own_nd4 (by omega) (by omega), own_nd2 (by omega) (by omega)]
  by_cases c5 : n < 100000
  · rw [own_nd5 (by omega) (by omega), own_nd3 (by omega) (by omega)]
  by_cases c6 : n < 1000000
  · rw [own_nd6 (by omega) (by omega), own_nd4 (by omega) (by omega)]
  by_cases c7 : n < 10000000
  · rw [own_nd7 (by omega) (by omega), own_nd5 (by omega) (by omega)]
  by_cases c8 : n < 100000000
  · rw [own_nd8 (by omega) (by omega), own_nd6 (by omega) (by omega)]
  by_cases c9 : n < 1000000000
  · rw [own_nd9 (by omega) (by omega), own_nd7 (by omega) (by omega)]
  rw [own_nd10 (by omega) (by omega), own_nd8 (by omega) (by omega)]
theorem dg_step {n : Nat} (h1 : 100 ≤ n) (h2 : n < 2147483648) : dg n = dg (n / 100) ++ [dj n 1, dj n 0] := by
  have e := nd_step h1 h2
  have b := nd_le (n / 100)
  unfold dg
  rw [e, List.range_succ, List.range_succ, List.append_assoc, List.map_append]
  congr 1
  · apply List.map_congr_left
    intro i hi
    have hi' : i < nd (n / 100) := List.mem_range.mp hi
    have q : nd (n / 100) + 2 - 1 - i = (nd (n / 100) - 1 - i) + 2 := by omega
    rw [q]
    show Int32.ofNat (48 + n / 10 ^ (nd (n / 100) - 1 - i + 2) % 10) = Int32.ofNat (48 + n / 100 / 10 ^ (nd (n / 100) - 1 - i) % 10)
    rw [Nat.div_div_eq_div_mul, Nat.pow_add, Nat.mul_comm (10 ^ (nd (n / 100) - 1 - i)) (10 ^ 2)]
  · have q1 : nd (n / 100) + 2 - 1 - nd (n / 100) = 1 := by omega
    have q2 : nd (n / 100) + 2 - 1 - (nd (n / 100) + 1) = 0 := by omega
    simp [q1, q2]
theorem dg_two {n : Nat} (h1 : 10 ≤ n) (h2 : n < 100) : dg n = [dj n 1, dj n 0] := by
  unfold dg; rw [own_nd2 h1 h2]; rfl
theorem dg_one {n : Nat} (h2 : n < 10) : dg n = [dj n 0] := by
  unfold dg; rw [own_nd1 (Nat.zero_le _) h2]; rfl
theorem own_sz1 {v : Int32} (h0 : (0 : Int32) < v)  (hB : (-10 : Int32) < (-v)) : (1 : Int32) = Int32.ofNat (nd v.toNatClampNeg) := by
  have z : (0 : Int32).toInt = 0 := by decide
  rw [Int32.lt_iff_toInt_lt, z] at h0
  have n := nat_of (j := v) (by rw [Int32.lt_iff_toInt_lt, z]; omega)
  have g := c_ineg v
  have r := rng32 v
  have r' := rng32 (-v)
  have zB : (-10 : Int32).toInt = -10 := by decide
  rw [Int32.lt_iff_toInt_lt, zB] at hB
  have q : nd v.toNatClampNeg = 1 := own_nd1 (by omega) (by omega)
  rw [q]; decide
theorem own_nl1 {v : Int32} (h0 : (0 : Int32) < v)  (hB : v < (10 : Int32)) : (1 : Int32) = Int32.ofNat (nd v.toNatClampNeg) := by
  have z : (0 : Int32).toInt = 0 := by decide
  rw [Int32.lt_iff_toInt_lt, z] at h0
  have n := nat_of (j := v) (by rw [Int32.lt_iff_toInt_lt, z]; omega)
  have r := rng32 v
  have zB : (10 : Int32).toInt = 10 := by decide
  rw [Int32.lt_iff_toInt_lt, zB] at hB
  have q : nd v.toNatClampNeg = 1 := own_nd1 (by omega) (by omega)
  rw [q]; decide
theorem own_sz2 {v : Int32} (h0 : (0 : Int32) < v) (hA : ¬ ((-10 : Int32) < (-v))) (hB : (-100 : Int32) < (-v)) : (2 : Int32) = Int32.ofNat (nd v.toNatClampNeg) := by
  have z : (0 : Int32).toInt = 0 := by decide
  rw [Int32.lt_iff_toInt_lt, z] at h0
  have n := nat_of (j := v) (by rw [Int32.lt_iff_toInt_lt, z]; omega)
  have g := c_ineg v
  have r := rng32 v
  have r' := rng32 (-v)
  have zA : (-10 : Int32).toInt = -10 := by decide
  rw [Int32.lt_iff_toInt_lt, zA] at hA
  have zB : (-100 : Int32).toInt = -100 := by decide
  rw [Int32.lt_iff_toInt_lt, zB] at hB
  have q : nd v.toNatClampNeg = 2 := own_nd2 (by omega) (by omega)
  rw [q]; decide
theorem own_nl2 {v : Int32} (h0 : (0 : Int32) < v) (hA : ¬ (v < (10 : Int32))) (hB : v < (100 : Int32)) : (2 : Int32) = Int32.ofNat (nd v.toNatClampNeg) := by
  have z : (0 : Int32).toInt = 0 := by decide
  rw [Int32.lt_iff_toInt_lt, z] at h0
  have n := nat_of (j := v) (by rw [Int32.lt_iff_toInt_lt, z]; omega)
  have r := rng32 v
  have zA : (10 : Int32).toInt = 10 := by decide
  rw [Int32.lt_iff_toInt_lt, zA] at hA
  have zB : (100 : Int32).toInt = 100 := by decide
  rw [Int32.lt_iff_toInt_lt, zB] at hB
  have q : nd v.toNatClampNeg = 2 := own_nd2 (by omega) (by omega)
  rw [q]; decide
theorem own_sz3 {v : Int32} (h0 : (0 : Int32) < v) (hA : ¬ ((-100 : Int32) < (-v))) (hB : (-1000 : Int32) < (-v)) : (3 : Int32) = Int32.ofNat (nd v.toNatClampNeg) := by
  have z : (0 : Int32).toInt = 0 := by decide
  rw [Int32.lt_iff_toInt_lt, z] at h0
  have n := nat_of (j := v) (by rw [Int32.lt_iff_toInt_lt, z]; omega)
  have g := c_ineg v
  have r := rng32 v
  have r' := rng32 (-v)
  have zA : (-100 : Int32).toInt = -100 := by decide
  rw [Int32.lt_iff_toInt_lt, zA] at hA
  have zB : (-1000 : Int32).toInt = -1000 := by decide
  rw [Int32.lt_iff_toInt_lt, zB] at hB
  have q : nd v.toNatClampNeg = 3 := own_nd3 (by omega) (by omega)
  rw [q]; decide
theorem own_nl3 {v : Int32} (h0 : (0 : Int32) < v) (hA : ¬ (v < (100 : Int32))) (hB : v < (1000 : Int32)) : (3 : Int32) = Int32.ofNat (nd v.toNatClampNeg) := by
  have z : (0 : Int32).toInt = 0 := by decide
  rw [Int32.lt_iff_toInt_lt, z] at h0
  have n := nat_of (j := v) (by rw [Int32.lt_iff_toInt_lt, z]; omega)
  have r := rng32 v
  have zA : (100 : Int32).toInt = 100 := by decide
  rw [Int32.lt_iff_toInt_lt, zA] at hA
  have zB : (1000 : Int32).toInt = 1000 := by decide
  rw [Int32.lt_iff_toInt_lt, zB] at hB
  have q : nd v.toNatClampNeg = 3 := own_nd3 (by omega) (by omega)
  rw [q]; decide
theorem own_sz4 {v : Int32} (h0 : (0 : Int32) < v) (hA : ¬ ((-1000 : Int32) < (-v))) (hB : (-10000 : Int32) < (-v)) : (4 : Int32) = Int32.ofNat (nd v.toNatClampNeg) := by
  have z : (0 : Int32).toInt = 0 := by decide
  rw [Int32.lt_iff_toInt_lt, z] at h0
  have n := nat_of (j := v) (by rw [Int32.lt_iff_toInt_lt, z]; omega)
  have g := c_ineg v
  have r := rng32 v
  have r' := rng32 (-v)
  have zA : (-1000 : Int32).toInt = -1000 := by decide
  rw [Int32.lt_iff_toInt_lt, zA] at hA
  have zB : (-10000 : Int32).toInt = -10000 := by decide
  rw [Int32.lt_iff_toInt_lt, zB] at hB
  have q : nd v.toNatClampNeg = 4 := own_nd4 (by omega) (by omega)
  rw [q]; decide
theorem own_nl4 {v : Int32} (h0 : (0 : Int32) < v) (hA : ¬ (v < (1000 : Int32))) (hB : v < (10000 : Int32)) : (4 : Int32) = Int32.ofNat (nd v.toNatClampNeg) := by
  have z : (0 : Int32).toInt = 0 := by decide
  rw [Int32.lt_iff_toInt_lt, z] at h0
  have n := nat_of (j := v) (by rw [Int32.lt_iff_toInt_lt, z]; omega)
  have r := rng32 v
  have zA : (1000 : Int32).toInt = 1000 := by decide
  rw [Int32.lt_iff_toInt_lt, zA] at hA
  have zB : (10000 : Int32).toInt = 10000 := by decide
  rw [Int32.lt_iff_toInt_lt, zB] at hB
  have q : nd v.toNatClampNeg = 4 := own_nd4 (by omega) (by omega)
  rw [q]; decide
theorem own_sz5 {v : Int32} (h0 : (0 : Int32) < v) (hA : ¬ ((-10000 : Int32) < (-v))) (hB : (-100000 : Int32) < (-v)) : (5 : Int32) = Int32.ofNat (nd v.toNatClampNeg) := by
  have z : (0 : Int32).toInt = 0 := by decide
  rw [Int32.lt_iff_toInt_lt, z] at h0
  have n := nat_of (j := v) (by rw [Int32.lt_iff_toInt_lt, z]; omega)
  have g := c_ineg v
  have r := rng32 v
  have r' := rng32 (-v)
  have zA : (-10000 : Int32).toInt = -10000 := by decide
  rw [Int32.lt_iff_toInt_lt, zA] at hA
  have zB : (-100000 : Int32).toInt = -100000 := by decide
  rw [Int32.lt_iff_toInt_lt, zB] at hB
  have q : nd v.toNatClampNeg = 5 := own_nd5 (by omega) (by omega)
  rw [q]; decide
theorem own_nl5 {v : Int32} (h0 : (0 : Int32) < v) (hA : ¬ (v < (10000 : Int32))) (hB : v < (100000 : Int32)) : (5 : Int32) = Int32.ofNat (nd v.toNatClampNeg) := by
  have z : (0 : Int32).toInt = 0 := by decide
  rw [Int32.lt_iff_toInt_lt, z] at h0
  have n := nat_of (j := v) (by rw [Int32.lt_iff_toInt_lt, z]; omega)
  have r := rng32 v
  have zA : (10000 : Int32).toInt = 10000 := by decide
  rw [Int32.lt_iff_toInt_lt, zA] at hA
  have zB : (100000 : Int32).toInt = 100000 := by decide
  rw [Int32.lt_iff_toInt_lt, zB] at hB
  have q : nd v.toNatClampNeg = 5 := own_nd5 (by omega) (by omega)
  rw [q]; decide
theorem own_sz6 {v : Int32} (h0 : (0 : Int32) < v) (hA : ¬ ((-100000 : Int32) < (-v))) (hB : (-1000000 : Int32) < (-v)) : (6 : Int32) = Int32.ofNat (nd v.toNatClampNeg) := by
  have z : (0 : Int32).toInt = 0 := by decide
  rw [Int32.lt_iff_toInt_lt, z] at h0
  have n := nat_of (j := v) (by rw [Int32.lt_iff_toInt_lt, z]; omega)
  have g := c_ineg v
  have r := rng32 v
  have r' := rng32 (-v)
  have zA : (-100000 : Int32).toInt = -100000 := by decide
  rw [Int32.lt_iff_toInt_lt, zA] at hA
  have zB : (-1000000 : Int32).toInt = -1000000 := by decide
  rw [Int32.lt_iff_toInt_lt, zB] at hB
  have q : nd v.toNatClampNeg = 6 := own_nd6 (by omega) (by omega)
  rw [q]; decide
theorem own_nl6 {v : Int32} (h0 : (0 : Int32) < v) (hA : ¬ (v < (100000 : Int32))) (hB : v < (1000000 : Int32)) : (6 : Int32) = Int32.ofNat (nd v.toNatClampNeg) := by
  have z : (0 : Int32).toInt = 0 := by decide
  rw [Int32.lt_iff_toInt_lt, z] at h0
  have n := nat_of (j := v) (by rw [Int32.lt_iff_toInt_lt, z]; omega)
  have r := rng32 v
  have zA : (100000 : Int32).toInt = 100000 := by decide
  rw [Int32.lt_iff_toInt_lt, zA] at hA
  have zB : (1000000 : Int32).toInt = 1000000 := by decide
  rw [Int32.lt_iff_toInt_lt, zB] at hB
  have q : nd v.toNatClampNeg = 6 := own_nd6 (by omega) (by omega)
  rw [q]; decide
theorem own_sz7 {v : Int32} (h0 : (0 : Int32) < v) (hA : ¬ ((-1000000 : Int32) < (-v))) (hB : (-10000000 : Int32) < (-v)) : (7 : Int32) = Int32.ofNat (nd v.toNatClampNeg) := by
  have z : (0 : Int32).toInt = 0 := by decide
  rw [Int32.lt_iff_toInt_lt, z] at h0
  have n := nat_of (j := v) (by rw [Int32.lt_iff_toInt_lt, z]; omega)
  have g := c_ineg v
  have r := rng32 v
  have r' := rng32 (-v)
  have zA : (-1000000 : Int32).toInt = -1000000 := by decide
  rw [Int32.lt_iff_toInt_lt, zA] at hA
  have zB : (-10000000 : Int32).toInt = -10000000 := by decide
  rw [Int32.lt_iff_toInt_lt, zB] at hB
  have q : nd v.toNatClampNeg = 7 := own_nd7 (by omega) (by omega)
  rw [q]; decide
theorem own_nl7 {v : Int32} (h0 : (0 : Int32) < v) (hA : ¬ (v < (1000000 : Int32))) (hB : v < (10000000 : Int32)) : (7 : Int32) = Int32.ofNat (nd v.toNatClampNeg) := by
  have z : (0 : Int32).toInt = 0 := by decide
  rw [Int32.lt_iff_toInt_lt, z] at h0
  have n := nat_of (j := v) (by rw [Int32.lt_iff_toInt_lt, z]; omega)
  have r := rng32 v
  have zA : (1000000 : Int32).toInt = 1000000 := by decide
  rw [Int32.lt_iff_toInt_lt, zA] at hA
  have zB : (10000000 : Int32).toInt = 10000000 := by decide
  rw [Int32.lt_iff_toInt_lt, zB] at hB
  have q : nd v.toNatClampNeg = 7 := own_nd7 (by omega) (by omega)
  rw [q]; decide
theorem own_sz8 {v : Int32} (h0 : (0 : Int32) < v) (hA : ¬ ((-10000000 : Int32) < (-v))) (hB : (-100000000 : Int32) < (-v)) : (8 : Int32) = Int32.ofNat (nd v.toNatClampNeg) := by
  have z : (0 : Int32).toInt = 0 := by decide
  rw [Int32.lt_iff_toInt_lt, z] at h0
  have n := nat_of (j := v) (by rw [Int32.lt_iff_toInt_lt, z]; omega)
  have g := c_ineg v
  have r := rng32 v
  have r' := rng32 (-v)
  have zA : (-10000000 : Int32).toInt = -10000000 := by decide
  rw [Int32.lt_iff_toInt_lt, zA] at hA
  have zB : (-100000000 : Int32).toInt = -100000000 := by decide
  rw [Int32.lt_iff_toInt_lt, zB] at hB
  have q : nd v.toNatClampNeg = 8 := own_nd8 (by omega) (by omega)
  rw [q]; decide
theorem own_nl8 {v : Int32} (h0 : (0 : Int32) < v) (hA : ¬ (v < (10000000 : Int32))) (hB : v < (100000000 : Int32)) : (8 : Int32) = Int32.ofNat (nd v.toNatClampNeg) := by
  have z : (0 : Int32).toInt = 0 := by decide
  rw [Int32.lt_iff_toInt_lt, z] at h0
  have n := nat_of (j := v) (by rw [Int32.lt_iff_toInt_lt, z]; omega)
  have r := rng32 v
  have zA : (10000000 : Int32).toInt = 10000000 := by decide
  rw [Int32.lt_iff_toInt_lt, zA] at hA
  have zB : (100000000 : Int32).toInt = 100000000 := by decide
  rw [Int32.lt_iff_toInt_lt, zB] at hB
  have q : nd v.toNatClampNeg = 8 := own_nd8 (by omega) (by omega)
  rw [q]; decide
theorem own_sz9 {v : Int32} (h0 : (0 : Int32) < v) (hA : ¬ ((-100000000 : Int32) < (-v))) (hB : (-1000000000 : Int32) < (-v)) : (9 : Int32) = Int32.ofNat (nd v.toNatClampNeg) := by
  have z : (0 : Int32).toInt = 0 := by decide
  rw [Int32.lt_iff_toInt_lt, z] at h0
  have n := nat_of (j := v) (by rw [Int32.lt_iff_toInt_lt, z]; omega)
  have g := c_ineg v
  have r := rng32 v
  have r' := rng32 (-v)
  have zA : (-100000000 : Int32).toInt = -100000000 := by decide
  rw [Int32.lt_iff_toInt_lt, zA] at hA
  have zB : (-1000000000 : Int32).toInt = -1000000000 := by decide
  rw [Int32.lt_iff_toInt_lt, zB] at hB
  have q : nd v.toNatClampNeg = 9 := own_nd9 (by omega) (by omega)
  rw [q]; decide
theorem own_nl9 {v : Int32} (h0 : (0 : Int32) < v) (hA : ¬ (v < (100000000 : Int32))) (hB : v < (1000000000 : Int32)) : (9 : Int32) = Int32.ofNat (nd v.toNatClampNeg) := by
  have z : (0 : Int32).toInt = 0 := by decide
  rw [Int32.lt_iff_toInt_lt, z] at h0
  have n := nat_of (j := v) (by rw [Int32.lt_iff_toInt_lt, z]; omega)
  have r := rng32 v
  have zA : (100000000 : Int32).toInt = 100000000 := by decide
  rw [Int32.lt_iff_toInt_lt, zA] at hA
  have zB : (1000000000 : Int32).toInt = 1000000000 := by decide
  rw [Int32.lt_iff_toInt_lt, zB] at hB
  have q : nd v.toNatClampNeg = 9 := own_nd9 (by omega) (by omega)
  rw [q]; decide
theorem own_sz10 {v : Int32} (h0 : (0 : Int32) < v) (hA : ¬ ((-1000000000 : Int32) < (-v)))  : (10 : Int32) = Int32.ofNat (nd v.toNatClampNeg) := by
  have z : (0 : Int32).toInt = 0 := by decide
  rw [Int32.lt_iff_toInt_lt, z] at h0
  have n := nat_of (j := v) (by rw [Int32.lt_iff_toInt_lt, z]; omega)
  have g := c_ineg v
  have r := rng32 v
  have r' := rng32 (-v)
  have zA : (-1000000000 : Int32).toInt = -1000000000 := by decide
  rw [Int32.lt_iff_toInt_lt, zA] at hA
  have q : nd v.toNatClampNeg = 10 := own_nd10 (by omega) (by omega)
  rw [q]; decide
theorem own_nl10 {v : Int32} (h0 : (0 : Int32) < v) (hA : ¬ (v < (1000000000 : Int32)))  : (10 : Int32) = Int32.ofNat (nd v.toNatClampNeg) := by
  have z : (0 : Int32).toInt = 0 := by decide
  rw [Int32.lt_iff_toInt_lt, z] at h0
  have n := nat_of (j := v) (by rw [Int32.lt_iff_toInt_lt, z]; omega)
  have r := rng32 v
  have zA : (1000000000 : Int32).toInt = 1000000000 := by decide
  rw [Int32.lt_iff_toInt_lt, zA] at hA
  have q : nd v.toNatClampNeg = 10 := own_nd10 (by omega) (by omega)
  rw [q]; decide
theorem own_w {Z : State} {a0 : Array Value} (hw : ∀ d ∈ tables_1, d.before a0 Z = true) (i : Nat) {d : Jvm.Cond} (h : tables_1[i]? = some d) : d.before a0 Z = true := hw d (List.mem_of_getElem? h)
def tx0 : List Int32 := [58]
theorem tx0_t : (∀ c ∈ (":" : String).toList, c.toNat < 256) ∧ (":" : String).toList.map (fun c => Value.int (Jvm.Lit.byteI c.toNat.toUInt16)) = (tx0.map fun c => c.toInt8.toInt32).map Value.int := by decide +kernel
theorem tx0_z : ¬ Int32.ofNat tx0.length < 0 ∧ (Int32.ofNat tx0.length).toNatClampNeg = tx0.length := by decide +kernel
theorem tx0_4 : tx0.length ≤ 4000 := by decide +kernel
theorem tx0_5 : ∀ c ∈ tx0, ¬ c < 0 ∧ ¬ (255 : Int32) < c := by decide +kernel
def tx1 : List Int32 := [58, 32]
theorem tx1_t : (∀ c ∈ (": " : String).toList, c.toNat < 256) ∧ (": " : String).toList.map (fun c => Value.int (Jvm.Lit.byteI c.toNat.toUInt16)) = (tx1.map fun c => c.toInt8.toInt32).map Value.int := by decide +kernel
theorem tx1_z : ¬ Int32.ofNat tx1.length < 0 ∧ (Int32.ofNat tx1.length).toNatClampNeg = tx1.length := by decide +kernel
theorem tx1_4 : tx1.length ≤ 4000 := by decide +kernel
theorem tx1_5 : ∀ c ∈ tx1, ¬ c < 0 ∧ ¬ (255 : Int32) < c := by decide +kernel
def tx2 : List Int32 := []
theorem tx2_t : (∀ c ∈ ("" : String).toList, c.toNat < 256) ∧ ("" : String).toList.map (fun c => Value.int (Jvm.Lit.byteI c.toNat.toUInt16)) = (tx2.map fun c => c.toInt8.toInt32).map Value.int := by decide +kernel
theorem tx2_z : ¬ Int32.ofNat tx2.length < 0 ∧ (Int32.ofNat tx2.length).toNatClampNeg = tx2.length := by decide +kernel
theorem tx2_4 : tx2.length ≤ 4000 := by decide +kernel
theorem tx2_5 : ∀ c ∈ tx2, ¬ c < 0 ∧ ¬ (255 : Int32) < c := by decide +kernel
theorem own_nfOf {args : Array Value} {s : State} {C : String} {y y0 : MethodName} (hsel : (Jvm.Cond.selects C y0 y0).before args s = true) (hc : y.cls = y0.cls) : NotFace s y := fun r0 h0 => by
  obtain ⟨c2, r2, m2, q1, q2, q3, q4, kP, hkP, hkPi⟩ := Cond.selects_spec hsel
  have e1 := findClass_of_methodNamed h0
  have e2 := findClass_of_methodNamed q3
  rw [hc] at e1
  have e3 := Option.some.inj (e1.symm.trans e2)
  exact ⟨kP, by rw [e3]; exact hkP, hkPi⟩
theorem own_hasl {cl : Cell} {f : Nat → Value} : ∀ (n i : Nat), (∀ j, i ≤ j → j < i + n → cl.slots[j]? = some (f j)) → HasL cl i ((List.range' i n).map f)
  | 0, _, _ => trivial
  | n + 1, i, H => ⟨H i (Nat.le_refl _) (by omega), own_hasl n (i + 1) fun j h1 h2 => H j (by omega) (by omega)⟩
theorem own_dig {Z : State} {args a0 : Array Value} {f : String} {w : Addr} {F : Nat → Nat} {rhs : Term} (hfit : Fit Z) (ev : (Term.static "java/lang/Integer" f "[B").eval args Z none [] Z = some (.ref w)) (hx : (Jvm.Cond.exactly (Term.static "java/lang/Integer" f "[B") "[B").value args Z none Z [] = some true) (wa : (Jvm.Cond.arrayClass .byte).before a0 Z = true) (hl : (Term.length (Term.static "java/lang/Integer" f "[B")).eval args Z none [] Z = some (.int (100 : Int32)))
    (hr : ∀ r, r < 100 → rhs.eval args Z none [r] Z = some (.int (Int32.ofNat (F r)))) (ha : (Jvm.Cond.all (Term.static "java/lang/Integer" f "[B") (Jvm.Cond.eq (Term.elem (Term.static "java/lang/Integer" f "[B") (Term.index (0 : Nat))) rhs)).value args Z none Z [] = some true) :
    ∃ k, Arv Z Z.heap w k .byte (100 : Int32) ((List.range' 0 100).map fun i => Value.int (Int32.ofNat (F i))) (.int (0 : Int32)) := by
  obtain ⟨cl, kB, h1, h2, h3, h4, -⟩ := Exa.start ev hx
  obtain ⟨cB, kB', comp, g1, g2, g3⟩ := Cond.arrayClass_spec wa
  rw [show ("[" ++ FieldType.toString .byte) = "[B" by decide] at g1
  cases h2.symm.trans g1
  cases h3.symm.trans g2
  obtain ⟨d', D', hev', harrAt, hlen⟩ := Term.length_spec hl
  cases ev.symm.trans hev'
  obtain ⟨hc', hkn, -, -⟩ := State.arrayAt?_spec harrAt
  cases h1.symm.trans hc'
  have A : Arr Z Z.heap w cl .byte := ⟨h1, ⟨fun q hq => (by rw [hq] at h4; cases h4), kB, h3, comp, g3⟩, hkn⟩
  have L := own_len ev A hl
  have hz : cl.slots.size = 100 := by
    have e := len_toInt L.1
    rw [L.2] at e
    have : (100 : Int32).toInt = 100 := by decide
    omega
  refine ⟨cl.cls, own_arr hfit ev A hl (by decide) (by rw [List.length_map, List.length_range']; decide) (own_hasl 100 0 fun i _ hi => ?_)⟩
  have hi' : i < 100 := by omega
  have hc := own_all ha ev (A.fin (Vm.Alike.refl _)) i (by omega)
  have e1 := own_eq hc (hr i hi')
  obtain ⟨-, e3⟩ := elem_in (x := w) (j := i.toInt32) e1 ev rfl A.1
  have e4 : (i.toInt32).toNatClampNeg = i := by simp only [Int32.toNatClampNeg, len_toInt (Nat.lt_trans hi' (by decide) : i < 2 ^ 31)]; rfl
  rw [e4] at e3
  exact e3
def dOnes : List Value := (List.range' 0 100).map fun i => Value.int (Int32.ofNat (48 + i % 10))
def dTens : List Value := (List.range' 0 100).map fun i => Value.int (Int32.ofNat (48 + i / 10))
theorem own_rget (f : Nat → Value) (d : Value) {i : Nat} (h : i < 100) : ((List.range' 0 100).map f).getD i d = f i := by
  rw [List.getD_eq_getElem?_getD, List.getElem?_eq_getElem (by simpa using h)]
  simp
theorem own_sub0 (x : Int32) : x - (0 : Int32) = x := by
  apply Int32.toInt_inj.mp
  have a := c_isub x 0
  have b := rng32 x
  have c := rng32 (x - 0)
  have : (0 : Int32).toInt = 0 := by decide
  omega
theorem own_pneg {p : Int32} (h : (0 : Int32) < p) : ¬ (p < (0 : Int32)) := by
  rw [Int32.lt_iff_toInt_lt] at h ⊢
  omega
theorem own_z32 : (0 : Int32).toInt = 0 := by decide
theorem own_capr16 {n : Nat} (h : n ≤ 16) : ¬ ((16 : Int32) < Int32.ofNat n) := by
  rw [Int32.lt_iff_toInt_lt, own_ofn (by omega), show (16 : Int32).toInt = 16 by decide]; omega
theorem own_capr34 {n : Nat} (h : n ≤ 34) : ¬ ((34 : Int32) < Int32.ofNat n) := by
  rw [Int32.lt_iff_toInt_lt, own_ofn (by omega), show (34 : Int32).toInt = 34 by decide]; omega
theorem own_neq16 {n : Nat} (h : n < 16) : ¬ (Int32.ofNat n = (16 : Int32)) := fun q => by
  have e := congrArg Int32.toInt q
  rw [own_ofn (by omega), show (16 : Int32).toInt = 16 by decide] at e; omega
theorem own_neq34 {n : Nat} (h : n < 34) : ¬ (Int32.ofNat n = (34 : Int32)) := fun q => by
  have e := congrArg Int32.toInt q
  rw [own_ofn (by omega), show (34 : Int32).toInt = 34 by decide] at e; omega
-- the digits' loop
theorem own_set {α : Type} (A C : List α) (i : Nat) (v : α) : (A ++ C).set (A.length + i) v = A ++ C.set i v := by
  rw [List.set_append_right _ _ (Nat.le_add_right _ _), Nat.add_sub_cancel_left]
theorem own_setB {α : Type} {n : Nat} (A C : List α) (hn : A.length = n) (i : Nat) (v : α) : (A ++ C).set (n + i) v = A ++ C.set i v := by
  subst hn; exact own_set A C i v
theorem own_pnat {p : Int32} (h : (0 : Int32) < p) : p.toInt = (p.toNatClampNeg : Int) := nat_of (own_pneg h)
theorem own_gc0 {p : Int32} (h : (0 : Int32) < p) : (-p).toInt = -(p.toNatClampNeg : Int) := by
  have a := own_pnat h
  have b := c_ineg p
  have c := rng32 p
  have d := rng32 (-p)
  rw [Int32.lt_iff_toInt_lt, own_z32] at h
  omega
theorem own_gcl (p : Int32) : p.toNatClampNeg < 2147483648 := by
  have c := rng32 p
  show p.toInt.toNat < _
  omega
theorem own_tkl {tl : List Value} {n : Nat} (h : n ≤ tl.length) : (tl.take n).length = n := by rw [List.length_take]; omega
theorem own_bb {bs : List Int32} {tl : List Value} {n cap : Nat} (hc : bs.length + tl.length = cap) (h : n ≤ tl.length) : bs.length + ((tl.take n).length + (tl.drop n).length) = cap := by rw [List.length_take, List.length_drop]; omega
theorem own_n100 {x : Int32} {mm : Nat} (hx : x.toInt = -(mm : Int)) (h : (-100 : Int32) < x) : mm < 100 := by
  rw [Int32.lt_iff_toInt_lt, show (-100 : Int32).toInt = -100 by decide] at h; omega
theorem own_m100 {x : Int32} {mm : Nat} (hx : x.toInt = -(mm : Int)) (h : ¬ ((-100 : Int32) < x)) : 100 ≤ mm := by
  rw [Int32.lt_iff_toInt_lt, show (-100 : Int32).toInt = -100 by decide] at h; omega
theorem own_m10 {x : Int32} {mm : Nat} (hx : x.toInt = -(mm : Int)) (h : x < (-9 : Int32)) : 10 ≤ mm := by
  rw [Int32.lt_iff_toInt_lt, show (-9 : Int32).toInt = -9 by decide] at h; omega
theorem own_n10 {x : Int32} {mm : Nat} (hx : x.toInt = -(mm : Int)) (h : ¬ (x < (-9 : Int32))) : mm < 10 := by
  rw [Int32.lt_iff_toInt_lt, show (-9 : Int32).toInt = -9 by decide] at h; omega
theorem own_lt100 {mm : Nat} (h : 100 ≤ mm) : mm / 100 < mm := by omega
theorem own_gcx {x : Int32} {mm : Nat} (hx : x.toInt = -(mm : Int)) (hm : 100 ≤ mm) : (x / (100 : Int32)).toInt = -((mm / 100 : Nat) : Int) := by
  have q := (c_idiv x 100 100 (by decide) (by decide)).2 (by omega)
  rw [q, hx]; omega
theorem own_split2 {js : List Value} {mm : Nat} (h : js.length = nd mm) (hm : 100 ≤ mm) (hlt : mm < 2147483648) : ∃ js0 u0 u1, js = js0 ++ [u0, u1] ∧ js0.length = nd (mm / 100) := by
  have e := nd_step hm hlt
  have hl : js.length = nd (mm / 100) + 2 := by omega
  refine ⟨js.take (nd (mm / 100)), js[nd (mm / 100)]'(by omega), js[nd (mm / 100) + 1]'(by omega), ?_, by rw [List.length_take]; omega⟩
  apply List.ext_getElem
  · simp; omega
  · intro i h1 h2
    by_cases q : i < nd (mm / 100)
    · rw [List.getElem_append_left (by rw [List.length_take]; omega), List.getElem_take]
    · have hlen : (js.take (nd (mm / 100))).length = nd (mm / 100) := by rw [List.length_take]; omega
      rw [List.getElem_append_right (by omega)]
      have c : i = nd (mm / 100) ∨ i = nd (mm / 100) + 1 := by omega
      rcases c with rfl | rfl
      · simp [hlen]
      · simp [hlen]
theorem own_gcA {Z : State} {h : Heap} {a : Addr} {k : ClassId} {z : Int32} {bs : List Int32} {js0 po : List Value} {u0 u1 x y dv : Value} (V : Arv Z h a k .byte z (((bl bs ++ ((js0 ++ [u0, u1]) ++ po)).set (bs.length + (js0.length + 1)) x).set (bs.length + js0.length) y) dv) : Arv Z h a k .byte z (bl bs ++ (js0 ++ (y :: x :: po))) dv := by
  have e1 : (bl bs ++ ((js0 ++ [u0, u1]) ++ po)).set (bs.length + (js0.length + 1)) x = bl bs ++ (js0 ++ (u0 :: x :: po)) := by
    rw [own_setB (bl bs) _ (bl_len bs), List.append_assoc, own_set]; rfl
  have e2 : (bl bs ++ (js0 ++ (u0 :: x :: po))).set (bs.length + js0.length) y = bl bs ++ (js0 ++ (y :: x :: po)) := by
    rw [own_setB (bl bs) _ (bl_len bs)]
    have q := own_set js0 (u0 :: x :: po) 0 y
    rw [Nat.add_zero] at q
    rw [q]; rfl
  rw [e1, e2] at V
  exact V
theorem own_ix {z j : Int32} {cap i : Nat} (hz : z.toInt = (cap : Int)) (hi : i < cap) (hj : j.toInt = (i : Int)) : (¬ j < 0 ∧ j < z) ∧ j.toNatClampNeg = i := by
  have a : ¬ j < 0 := by rw [Int32.lt_iff_toInt_lt, own_z32]; omega
  refine ⟨⟨a, by rw [Int32.lt_iff_toInt_lt]; omega⟩, ?_⟩
  have := nat_of a
  omega
theorem own_dec {c : Int32} {n : Nat} (hc : c.toInt = (n : Int)) (h1 : 1 ≤ n) : (c + (-1 : Int32)).toInt = ((n - 1 : Nat) : Int) := by
  have a := c_iadd c (-1)
  have b := rng32 (c + (-1 : Int32))
  have d := rng32 c
  have : (-1 : Int32).toInt = -1 := by decide
  omega
theorem own_c5 {c5 : Int32} {b mm cap q : Nat} (hcc : c5 = Int32.ofNat (b + nd mm)) (hbb : b + q = cap) (hcap : cap ≤ 34) : c5.toInt = ((b + nd mm : Nat) : Int) := by
  have n := nd_le mm
  rw [hcc]; exact own_ofn (by omega)
theorem own_gcs1 {z c5 : Int32} {bs : List Int32} {js0 po : List Value} {u0 u1 : Value} {mm cap : Nat} (hz : z.toInt = (cap : Int)) (hcap : cap ≤ 34) (hcc : c5 = Int32.ofNat (bs.length + nd mm)) (hm : 100 ≤ mm) (hlt : mm < 2147483648) (hjs0 : js0.length = nd (mm / 100)) (hbb : bs.length + ((js0 ++ [u0, u1]).length + po.length) = cap) : (¬ (c5 + (-1 : Int32)) < 0 ∧ (c5 + (-1 : Int32)) < z) ∧ (c5 + (-1 : Int32)).toNatClampNeg = bs.length + (js0.length + 1) := by
  have e := nd_step hm hlt
  have l : (js0 ++ [u0, u1]).length = js0.length + 2 := by simp
  refine own_ix hz (by omega) ((own_dec (own_c5 hcc hbb hcap) (by omega)).trans ?_)
  congr 1; omega
theorem own_gcs2 {z c5 : Int32} {bs : List Int32} {js0 po : List Value} {u0 u1 : Value} {mm cap : Nat} (hz : z.toInt = (cap : Int)) (hcap : cap ≤ 34) (hcc : c5 = Int32.ofNat (bs.length + nd mm)) (hm : 100 ≤ mm) (hlt : mm < 2147483648) (hjs0 : js0.length = nd (mm / 100)) (hbb : bs.length + ((js0 ++ [u0, u1]).length + po.length) = cap) : (¬ ((c5 + (-1 : Int32)) + (-1 : Int32)) < 0 ∧ ((c5 + (-1 : Int32)) + (-1 : Int32)) < z) ∧ ((c5 + (-1 : Int32)) + (-1 : Int32)).toNatClampNeg = bs.length + js0.length := by
  have e := nd_step hm hlt
  have l : (js0 ++ [u0, u1]).length = js0.length + 2 := by simp
  refine own_ix hz (by omega) ((own_dec (own_dec (own_c5 hcc hbb hcap) (by omega)) (by omega)).trans ?_)
  congr 1; omega
theorem own_gcs3 {z c5 : Int32} {bs : List Int32} {js po : List Value} {mm cap : Nat} (hz : z.toInt = (cap : Int)) (hcap : cap ≤ 34) (hcc : c5 = Int32.ofNat (bs.length + nd mm)) (hjs : js.length = nd mm) (hbb : bs.length + (js.length + po.length) = cap) : (¬ (c5 + (-1 : Int32)) < 0 ∧ (c5 + (-1 : Int32)) < z) ∧ (c5 + (-1 : Int32)).toNatClampNeg = bs.length + (js.length - 1) := by
  have n := nd_le mm
  refine own_ix hz (by omega) ((own_dec (own_c5 hcc hbb hcap) (by omega)).trans ?_)
  congr 1; omega
theorem own_gcs4 {z c5 : Int32} {bs : List Int32} {js po : List Value} {mm cap : Nat} (hz : z.toInt = (cap : Int)) (hcap : cap ≤ 34) (hcc : c5 = Int32.ofNat (bs.length + nd mm)) (h10 : 10 ≤ mm) (hm : mm < 100) (hjs : js.length = nd mm) (hbb : bs.length + (js.length + po.length) = cap) : (¬ ((c5 + (-1 : Int32)) + (-1 : Int32)) < 0 ∧ ((c5 + (-1 : Int32)) + (-1 : Int32)) < z) ∧ ((c5 + (-1 : Int32)) + (-1 : Int32)).toNatClampNeg = bs.length := by
  have n := own_nd2 h10 hm
  refine own_ix hz (by omega) ((own_dec (own_dec (own_c5 hcc hbb hcap) (by omega)) (by omega)).trans ?_)
  congr 1; omega
theorem own_gcr {x : Int32} {mm : Nat} (hx : x.toInt = -(mm : Int)) (hm : 100 ≤ mm) (hlt : mm < 2147483648) : (((x / (100 : Int32)) * (100 : Int32)) - x).toInt = ((mm % 100 : Nat) : Int) := by
  have q := own_gcx hx hm
  have a := c_imul (x / (100 : Int32)) 100
  have b := c_isub ((x / (100 : Int32)) * (100 : Int32)) x
  have r := rng32 ((x / (100 : Int32)) * (100 : Int32))
  have r2 := rng32 (((x / (100 : Int32)) * (100 : Int32)) - x)
  have e : (100 : Int32).toInt = 100 := by decide
  rw [q, e] at a
  omega
theorem own_gcj {x : Int32} {mm : Nat} (hx : x.toInt = -(mm : Int)) (hm : 100 ≤ mm) (hlt : mm < 2147483648) : ¬ (((x / (100 : Int32)) * (100 : Int32)) - x) < 0 ∧ (((x / (100 : Int32)) * (100 : Int32)) - x) < (100 : Int32) := (own_ix (z := (100 : Int32)) (cap := 100) (i := mm % 100) (by decide) (by omega) (own_gcr hx hm hlt)).1
theorem own_gcvo {x : Int32} {mm : Nat} {d : Value} (hx : x.toInt = -(mm : Int)) (hm : 100 ≤ mm) (hlt : mm < 2147483648) : dOnes.getD (((x / (100 : Int32)) * (100 : Int32)) - x).toNatClampNeg d = .int (Int32.ofNat (48 + (mm % 100) % 10)) := by
  rw [(own_ix (z := (100 : Int32)) (cap := 100) (i := mm % 100) (by decide) (by omega) (own_gcr hx hm hlt)).2]
  exact own_rget _ d (by omega)
theorem own_gcvt {x : Int32} {mm : Nat} {d : Value} (hx : x.toInt = -(mm : Int)) (hm : 100 ≤ mm) (hlt : mm < 2147483648) : dTens.getD (((x / (100 : Int32)) * (100 : Int32)) - x).toNatClampNeg d = .int (Int32.ofNat (48 + (mm % 100) / 10)) := by
  rw [(own_ix (z := (100 : Int32)) (cap := 100) (i := mm % 100) (by decide) (by omega) (own_gcr hx hm hlt)).2]
  exact own_rget _ d (by omega)
theorem own_gcn {x : Int32} {mm : Nat} (hx : x.toInt = -(mm : Int)) (hm : mm < 100) : (-x).toInt = (mm : Int) := by
  have a := c_ineg x
  have r := rng32 (-x)
  omega
theorem own_gcj2 {x : Int32} {mm : Nat} (hx : x.toInt = -(mm : Int)) (hm : mm < 100) : ¬ (-x) < 0 ∧ (-x) < (100 : Int32) := (own_ix (z := (100 : Int32)) (cap := 100) (i := mm) (by decide) (by omega) (own_gcn hx hm)).1
theorem own_gcv2o {x : Int32} {mm : Nat} {d : Value} (hx : x.toInt = -(mm : Int)) (hm : mm < 100) : dOnes.getD (-x).toNatClampNeg d = .int (Int32.ofNat (48 + mm % 10)) := by
  rw [(own_ix (z := (100 : Int32)) (cap := 100) (i := mm) (by decide) (by omega) (own_gcn hx hm)).2]
  exact own_rget _ d hm
theorem own_gcv2t {x : Int32} {mm : Nat} {d : Value} (hx : x.toInt = -(mm : Int)) (hm : mm < 100) : dTens.getD (-x).toNatClampNeg d = .int (Int32.ofNat (48 + mm / 10)) := by
  rw [(own_ix (z := (100 : Int32)) (cap := 100) (i := mm) (by decide) (by omega) (own_gcn hx hm)).2]
  exact own_rget _ d hm
theorem own_gcc {c5 : Int32} {b mm cap q : Nat} (hcc : c5 = Int32.ofNat (b + nd mm)) (hm : 100 ≤ mm) (hlt : mm < 2147483648) (hbb : b + q = cap) (hcap : cap ≤ 34) : ((c5 + (-1 : Int32)) + (-1 : Int32)) = Int32.ofNat (b + nd (mm / 100)) := by
  have e := nd_step hm hlt
  have n := nd_le mm
  apply Int32.toInt_inj.mp
  rw [own_dec (own_dec (own_c5 hcc hbb hcap) (by omega)) (by omega), own_ofn (by omega)]
  congr 1; omega
theorem own_gcd {n mm : Nat} {po r : List Value} (hm : 100 ≤ mm) (hlt : mm < 2147483648) (hpo : bl (dg mm) ++ po = bl (dg n) ++ r) : bl (dg (mm / 100)) ++ (Value.int (Int32.ofNat (48 + (mm % 100) / 10)).toInt8.toInt32 :: Value.int (Int32.ofNat (48 + (mm % 100) % 10)).toInt8.toInt32 :: po) = bl (dg n) ++ r := by
  rw [← hpo, dg_step hm hlt, bl_app, List.append_assoc]
  congr 1
  have e1 : (mm % 100) / 10 = mm / 10 ^ 1 % 10 := by omega
  have e0 : (mm % 100) % 10 = mm / 10 ^ 0 % 10 := by omega
  rw [e1, e0]; rfl
theorem own_gcE1 {Z : State} {h : Heap} {a : Addr} {k : ClassId} {z : Int32} {bs : List Int32} {js po r : List Value} {mm n : Nat} {dv : Value} (h10 : mm < 10) (hm : mm < 100) (hjs : js.length = nd mm) (hpo : bl (dg mm) ++ po = bl (dg n) ++ r) (V : Arv Z h a k .byte z ((bl bs ++ (js ++ po)).set (bs.length + (js.length - 1)) (.int (Int32.ofNat (48 + mm % 10)).toInt8.toInt32)) dv) : Arv Z h a k .byte z (bl (bs ++ dg n) ++ r) dv := by
  rw [own_nd1 (Nat.zero_le _) h10] at hjs
  obtain ⟨u, rfl⟩ := List.length_eq_one_iff.mp hjs
  rw [own_setB (bl bs) _ (bl_len bs)] at V
  have e : ([u] ++ po).set ([u].length - 1) (.int (Int32.ofNat (48 + mm % 10)).toInt8.toInt32) = bl (dg mm) ++ po := by
    rw [dg_one h10]
    have e0 : mm % 10 = mm / 10 ^ 0 % 10 := by omega
    rw [e0]; rfl
  rw [e, hpo, ← List.append_assoc, ← bl_app] at V
  exact V
theorem own_gcE2 {Z : State} {h : Heap} {a : Addr} {k : ClassId} {z : Int32} {bs : List Int32} {js po r : List Value} {mm n : Nat} {dv : Value} (h10 : 10 ≤ mm) (hm : mm < 100) (hjs : js.length = nd mm) (hpo : bl (dg mm) ++ po = bl (dg n) ++ r) (V : Arv Z h a k .byte z (((bl bs ++ (js ++ po)).set (bs.length + (js.length - 1)) (.int (Int32.ofNat (48 + mm % 10)).toInt8.toInt32)).set bs.length (.int (Int32.ofNat (48 + mm / 10)).toInt8.toInt32)) dv) : Arv Z h a k .byte z (bl (bs ++ dg n) ++ r) dv := by
  rw [own_nd2 h10 hm] at hjs
  obtain ⟨u, w, rfl⟩ : ∃ u w, js = [u, w] := match js, hjs with | [u, w], _ => ⟨u, w, rfl⟩
  rw [own_setB (bl bs) _ (bl_len bs)] at V
  have q := own_setB (bl bs) (([u, w] ++ po).set ([u, w].length - 1) (.int (Int32.ofNat (48 + mm % 10)).toInt8.toInt32)) (bl_len bs) 0 (.int (Int32.ofNat (48 + mm / 10)).toInt8.toInt32)
  rw [Nat.add_zero] at q
  rw [q] at V
  have e : (([u, w] ++ po).set ([u, w].length - 1) (.int (Int32.ofNat (48 + mm % 10)).toInt8.toInt32)).set 0 (.int (Int32.ofNat (48 + mm / 10)).toInt8.toInt32) = bl (dg mm) ++ po := by
    rw [dg_two h10 hm]
    have e0 : mm % 10 = mm / 10 ^ 0 % 10 := by omega
    have e1 : mm / 10 = mm / 10 ^ 1 % 10 := by omega
    rw [e0, e1]; rfl
  rw [e, hpo, ← List.append_assoc, ← bl_app] at V
  exact V
-- the law's own lists
theorem own_wNew {Z : State} {a0 : Array Value} (hw : ∀ d ∈ tables_1, d.before a0 Z = true) : ∀ d ∈ StrChars.Road.words, d.before a0 Z = true := fun d hd => hw d ((by decide +kernel : ∀ d ∈ StrChars.Road.words, d ∈ tables_1) d hd)
abbrev B8 (x : Int32) : Prop := ¬ x < 0 ∧ ¬ (255 : Int32) < x
theorem own_ch (x : Int32) : B8 (x &&& (255 : Int32)) := by
  have e := c_mask x 255 8 (by decide) (by decide)
  have a : (0 : Int32).toInt = 0 := by decide
  have b : (255 : Int32).toInt = 255 := by decide
  unfold B8
  rw [Int32.lt_iff_toInt_lt, Int32.lt_iff_toInt_lt, a, b]
  omega
theorem own_rng8 {x : Int32} (h : B8 x) : 0 ≤ x.toInt ∧ x.toInt ≤ 255 := by
  have a : (0 : Int32).toInt = 0 := by decide
  have b : (255 : Int32).toInt = 255 := by decide
  have h1 := h.1
  have h2 := h.2
  rw [Int32.lt_iff_toInt_lt, a] at h1
  rw [Int32.lt_iff_toInt_lt, b] at h2
  omega
theorem own_nar {x : Int32} (h : B8 x) : nar .char x = x := by
  have e := c_i2c x
  have r := own_rng8 h
  apply Int32.toInt_inj.mp
  show x.toUInt32.toUInt16.toUInt32.toInt32.toInt = x.toInt
  omega
theorem own_posi {p : Int32} (h : ¬ (p < (1 : Int32))) : (0 : Int32) < p := by
  rw [Int32.lt_iff_toInt_lt, show (1 : Int32).toInt = 1 by decide] at h
  rw [Int32.lt_iff_toInt_lt, own_z32]; omega
theorem tx0_l : tx0.length = 1 := rfl
theorem tx1_l : tx1.length = 2 := rfl
theorem tx2_l : tx2.length = 0 := rfl
def posL (l c : Int32) : List Int32 := if l < (1 : Int32) then tx2 else if c < (1 : Int32) then ((([] : List Int32) ++ tx0) ++ (dg l.toNatClampNeg)) else ((((([] : List Int32) ++ tx0) ++ (dg l.toNatClampNeg)) ++ tx0) ++ (dg c.toNatClampNeg))
theorem posL_0 {l c : Int32} (h : l < (1 : Int32)) : posL l c = tx2 := if_pos h
theorem posL_1 {l c : Int32} (h : ¬ (l < (1 : Int32))) (h2 : c < (1 : Int32)) : posL l c = ((([] : List Int32) ++ tx0) ++ (dg l.toNatClampNeg)) := by unfold posL; rw [if_neg h, if_pos h2]
theorem posL_2 {l c : Int32} (h : ¬ (l < (1 : Int32))) (h2 : ¬ (c < (1 : Int32))) : posL l c = ((((([] : List Int32) ++ tx0) ++ (dg l.toNatClampNeg)) ++ tx0) ++ (dg c.toNatClampNeg)) := by unfold posL; rw [if_neg h, if_neg h2]
theorem own_len0 {l c : Int32} (h : l < (1 : Int32)) : (posL l c).length = 0 := by rw [posL_0 h]; rfl
theorem own_len1 {l c : Int32} (h : ¬ (l < (1 : Int32))) (h2 : c < (1 : Int32)) : (posL l c).length = 1 + nd l.toNatClampNeg := by rw [posL_1 h h2]; simp only [List.length_append, List.length_nil, dg_len, tx0_l] <;> omega
theorem own_len2 {l c : Int32} (h : ¬ (l < (1 : Int32))) (h2 : ¬ (c < (1 : Int32))) : (posL l c).length = 2 + nd l.toNatClampNeg + nd c.toNatClampNeg := by rw [posL_2 h h2]; simp only [List.length_append, List.length_nil, dg_len, tx0_l] <;> omega
theorem posL_le (l c : Int32) : (posL l c).length ≤ 22 := by
  have a := nd_le l.toNatClampNeg
  have b := nd_le c.toNatClampNeg
  by_cases h : l < (1 : Int32)
  · rw [own_len0 h]; omega
  · by_cases h2 : c < (1 : Int32)
    · rw [own_len1 h h2]; omega
    · rw [own_len2 h h2]; omega
def ch0 (a : Int32) : Int32 := a &&& (255 : Int32)
def ch1 (a : Int32) : Int32 := (a.toUInt32 >>> ((8 : Int32) &&& 31).toUInt32).toInt32 &&& (255 : Int32)
def msg (a b l c : Int32) : List Int32 := (((([] : List Int32) ++ [ch0 a, ch1 a]) ++ (posL l c)) ++ tx1) ++ [ch0 b, ch1 b]
theorem msg_len (a b l c : Int32) : (msg a b l c).length = 6 + (posL l c).length := by unfold msg; simp only [List.length_append, List.length_nil, List.length_cons, tx1_l] <;> omega
theorem own_b8n {n : Nat} (h : n < 256) : B8 (Int32.ofNat n) := by
  unfold B8
  rw [Int32.lt_iff_toInt_lt, Int32.lt_iff_toInt_lt, own_ofn (by omega), own_z32, show (255 : Int32).toInt = 255 by decide]
  omega
theorem dg_b8 (n : Nat) : ∀ x ∈ dg n, B8 x := by
  intro x hx
  obtain ⟨i, -, rfl⟩ := List.mem_map.mp hx
  exact own_b8n (by omega)
theorem tx_b8 : (∀ x ∈ tx0, B8 x) ∧ (∀ x ∈ tx1, B8 x) := ⟨tx0_5, tx1_5⟩
theorem own_ap {P : Int32 → Prop} {a b : List Int32} (h1 : ∀ x ∈ a, P x) (h2 : ∀ x ∈ b, P x) : ∀ x ∈ a ++ b, P x := fun x hx => (List.mem_append.mp hx).elim (h1 x) (h2 x)
theorem own_no {P : Int32 → Prop} : ∀ x ∈ ([] : List Int32), P x := fun _ q => nomatch q
theorem own_pr2 {P : Int32 → Prop} {a b : Int32} (h1 : P a) (h2 : P b) : ∀ x ∈ [a, b], P x := fun x hx => by
  rcases List.mem_cons.mp hx with rfl | hx
  · exact h1
  · rcases List.mem_cons.mp hx with rfl | hx
    · exact h2
    · nomatch hx
theorem posL_b8 (l c : Int32) : ∀ x ∈ posL l c, B8 x := by
  by_cases h : l < (1 : Int32)
  · rw [posL_0 h]; exact own_no
  · by_cases h2 : c < (1 : Int32)
    · rw [posL_1 h h2]; exact own_ap (own_ap own_no tx_b8.1) (dg_b8 _)
    · rw [posL_2 h h2]; exact own_ap (own_ap (own_ap (own_ap own_no tx_b8.1) (dg_b8 _)) tx_b8.1) (dg_b8 _)
theorem msg_b8 (a b l c : Int32) : ∀ x ∈ msg a b l c, B8 x := own_ap (own_ap (own_ap (own_ap own_no (own_pr2 (own_ch _) (own_ch _))) (posL_b8 l c)) tx_b8.2) (own_pr2 (own_ch _) (own_ch _))
theorem own_gl {X Y : List Int32} {i : Nat} (h : i < X.length) : (X ++ Y).getD i 0 = X.getD i 0 := by
  rw [List.getD_eq_getElem?_getD, List.getD_eq_getElem?_getD, List.getElem?_append_left h]
theorem own_gr {X Y : List Int32} {i : Nat} (j : Nat) (h : i = X.length + j) : (X ++ Y).getD i 0 = Y.getD j 0 := by
  subst h
  rw [List.getD_eq_getElem?_getD, List.getD_eq_getElem?_getD, List.getElem?_append_right (Nat.le_add_right _ _), Nat.add_sub_cancel_left]
theorem own_blget (cs : List Int32) (i : Nat) : (bl cs).getD i (.int (0 : Int32)) = .int ((cs.getD i (0 : Int32)).toInt8.toInt32) := by
  by_cases h : i < cs.length
  · rw [List.getD_eq_getElem?_getD, List.getD_eq_getElem?_getD, List.getElem?_eq_getElem (by simpa using h), List.getElem?_eq_getElem h]; simp
  · rw [List.getD_eq_getElem?_getD, List.getD_eq_getElem?_getD, List.getElem?_eq_none (by simpa using h), List.getElem?_eq_none (by omega)]; rfl
theorem own_b8get {cs : List Int32} (h : ∀ x ∈ cs, B8 x) (i : Nat) : B8 (cs.getD i (0 : Int32)) := by
  by_cases q : i < cs.length
  · rw [List.getD_eq_getElem?_getD, List.getElem?_eq_getElem q]; exact h _ (List.getElem_mem q)
  · rw [List.getD_eq_getElem?_getD, List.getElem?_eq_none (by omega)]; exact own_b8n (n := 0) (by decide)
theorem own_chr {y : Int32} (h : B8 y) : nar .char ((y.toInt8.toInt32 &&& (255 : Int32)).toUInt32.toUInt16.toUInt32.toInt32) = y := by
  have r := own_rng8 h
  have e := c_i2b y
  have q := c_mask y.toInt8.toInt32 255 8 (by decide) (by decide)
  rw [i2c_mask, own_nar (own_ch _)]
  apply Int32.toInt_inj.mp
  rw [q]; omega
theorem own_m0 (a b l c : Int32) : (msg a b l c).getD 0 0 = ch0 a := by
  unfold msg; rw [own_gl (by simp), own_gl (by simp), own_gl (by simp)]; rfl
theorem own_m1 (a b l c : Int32) : (msg a b l c).getD 1 0 = ch1 a := by
  unfold msg; rw [own_gl (by simp), own_gl (by simp), own_gl (by simp)]; rfl
theorem own_mp {a b l c : Int32} {i : Nat} (j : Nat) (h : i = 2 + j) (hj : j < (posL l c).length) : (msg a b l c).getD i 0 = (posL l c).getD j 0 := by
  unfold msg; rw [own_gl (by simp; omega), own_gl (by simp; omega), own_gr j (by simp; omega)]
theorem own_mt {a b l c : Int32} {i : Nat} (j : Nat) (h : i = 2 + (posL l c).length + j) (hj : j < 2) : (msg a b l c).getD i 0 = tx1.getD j 0 := by
  unfold msg; rw [own_gl (by simp [tx1_l]; omega), own_gr j (by simp; omega)]
theorem own_me {a b l c : Int32} {i : Nat} (j : Nat) (h : i = 4 + (posL l c).length + j) : (msg a b l c).getD i 0 = [ch0 b, ch1 b].getD j 0 := by
  unfold msg; rw [own_gr j (by simp [tx1_l]; omega)]
theorem dg_get {n j : Nat} (h : j < nd n) : (dg n).getD j 0 = dj n (nd n - 1 - j) := by
  rw [List.getD_eq_getElem?_getD, List.getElem?_eq_getElem (by rw [dg_len]; exact h)]
  simp [dg]
theorem own_p0 {l c : Int32} (h : ¬ (l < (1 : Int32))) : (posL l c).getD 0 0 = 58 := by
  by_cases h2 : c < (1 : Int32)
  · rw [posL_1 h h2, own_gl (by decide)]; rfl
  · rw [posL_2 h h2, own_gl (by simp [tx0_l]; try omega), own_gl (by simp [tx0_l]; try omega), own_gl (by decide)]; rfl
theorem own_p1 {l c : Int32} {i : Nat} (h : ¬ (l < (1 : Int32))) (j : Nat) (hi : i = 1 + j) (hj : j < nd l.toNatClampNeg) : (posL l c).getD i 0 = dj l.toNatClampNeg (nd l.toNatClampNeg - 1 - j) := by
  by_cases h2 : c < (1 : Int32)
  · rw [posL_1 h h2, own_gr j (by simp [tx0_l]; omega), dg_get hj]
  · rw [posL_2 h h2, own_gl (by simp [tx0_l, dg_len]; omega), own_gl (by simp [tx0_l, dg_len]; omega), own_gr j (by simp [tx0_l]; omega), dg_get hj]
theorem own_p2 {l c : Int32} {i : Nat} (h : ¬ (l < (1 : Int32))) (h2 : ¬ (c < (1 : Int32))) (hi : i = 1 + nd l.toNatClampNeg) : (posL l c).getD i 0 = 58 := by
  rw [posL_2 h h2, own_gl (by simp [tx0_l, dg_len]; omega), own_gr 0 (by simp [tx0_l, dg_len]; omega)]; rfl
theorem own_p3 {l c : Int32} {i : Nat} (h : ¬ (l < (1 : Int32))) (h2 : ¬ (c < (1 : Int32))) (j : Nat) (hi : i = 2 + nd l.toNatClampNeg + j) (hj : j < nd c.toNatClampNeg) : (posL l c).getD i 0 = dj c.toNatClampNeg (nd c.toNatClampNeg - 1 - j) := by
  rw [posL_2 h h2, own_gr j (by simp [tx0_l, dg_len]; omega), dg_get hj]
-- what the law's reference answers
theorem own_in {p q : Int32} {n : Nat} (h : ¬ (p < (0 : Int32))) (hq : q.toInt = (n : Int)) (e : p = q) : p.toNatClampNeg = n := by
  subst e
  have := nat_of h
  omega
theorem own_nardj (n j : Nat) : nar .char (dj n j) = dj n j := own_nar (own_b8n (by omega))
theorem own_NL (n : Nat) : (Int32.ofNat (nd n)).toInt = (nd n : Int) := own_ofn (by have := nd_le n; omega)
theorem own_P1 (l : Int32) : ((3 : Int32) + Int32.ofNat (nd l.toNatClampNeg)).toInt = ((3 + nd l.toNatClampNeg : Nat) : Int) := by
  have a := c_iadd (3 : Int32) (Int32.ofNat (nd l.toNatClampNeg))
  have b := rng32 ((3 : Int32) + Int32.ofNat (nd l.toNatClampNeg))
  have d := nd_le l.toNatClampNeg
  have e : (3 : Int32).toInt = 3 := by decide
  rw [own_NL, e] at a
  omega
theorem own_R1 (l : Int32) : ((2 : Int32) + Int32.ofNat (nd l.toNatClampNeg)).toInt = ((2 + nd l.toNatClampNeg : Nat) : Int) := by
  have a := c_iadd (2 : Int32) (Int32.ofNat (nd l.toNatClampNeg))
  have b := rng32 ((2 : Int32) + Int32.ofNat (nd l.toNatClampNeg))
  have d := nd_le l.toNatClampNeg
  have e : (2 : Int32).toInt = 2 := by decide
  rw [own_NL, e] at a
  omega
theorem own_R2 (l c : Int32) : (((3 : Int32) + Int32.ofNat (nd l.toNatClampNeg)) + Int32.ofNat (nd c.toNatClampNeg)).toInt = ((3 + nd l.toNatClampNeg + nd c.toNatClampNeg : Nat) : Int) := by
  have a := c_iadd ((3 : Int32) + Int32.ofNat (nd l.toNatClampNeg)) (Int32.ofNat (nd c.toNatClampNeg))
  have b := rng32 (((3 : Int32) + Int32.ofNat (nd l.toNatClampNeg)) + Int32.ofNat (nd c.toNatClampNeg))
  have d := nd_le l.toNatClampNeg
  have d2 := nd_le c.toNatClampNeg
  rw [own_NL, own_P1] at a
  omega
theorem own_P2 (l c : Int32) : ((((3 : Int32) + Int32.ofNat (nd l.toNatClampNeg)) + (1 : Int32)) + Int32.ofNat (nd c.toNatClampNeg)).toInt = ((4 + nd l.toNatClampNeg + nd c.toNatClampNeg : Nat) : Int) := by
  have a0 := c_iadd ((3 : Int32) + Int32.ofNat (nd l.toNatClampNeg)) 1
  have a := c_iadd (((3 : Int32) + Int32.ofNat (nd l.toNatClampNeg)) + (1 : Int32)) (Int32.ofNat (nd c.toNatClampNeg))
  have b0 := rng32 (((3 : Int32) + Int32.ofNat (nd l.toNatClampNeg)) + (1 : Int32))
  have b := rng32 ((((3 : Int32) + Int32.ofNat (nd l.toNatClampNeg)) + (1 : Int32)) + Int32.ofNat (nd c.toNatClampNeg))
  have d := nd_le l.toNatClampNeg
  have d2 := nd_le c.toNatClampNeg
  have e : (1 : Int32).toInt = 1 := by decide
  rw [own_P1, e] at a0
  rw [own_NL] at a
  omega
theorem hP0 {l c : Int32} (h : l < (1 : Int32)) : (2 : Int32).toInt = ((2 + (posL l c).length : Nat) : Int) := by rw [own_len0 h]; decide
theorem hQ0 {l c : Int32} (h : l < (1 : Int32)) : (3 : Int32).toInt = ((3 + (posL l c).length : Nat) : Int) := by rw [own_len0 h]; decide
theorem hR0 {l c : Int32} (h : l < (1 : Int32)) : (4 : Int32).toInt = ((4 + (posL l c).length : Nat) : Int) := by rw [own_len0 h]; decide
theorem hP1 {l c : Int32} (h : ¬ (l < (1 : Int32))) (h2 : c < (1 : Int32)) : ((3 : Int32) + Int32.ofNat (nd l.toNatClampNeg)).toInt = ((2 + (posL l c).length : Nat) : Int) := by rw [own_len1 h h2, own_P1]; congr 1; omega
theorem hP2 {l c : Int32} (h : ¬ (l < (1 : Int32))) (h2 : ¬ (c < (1 : Int32))) : ((((3 : Int32) + Int32.ofNat (nd l.toNatClampNeg)) + (1 : Int32)) + Int32.ofNat (nd c.toNatClampNeg)).toInt = ((2 + (posL l c).length : Nat) : Int) := by rw [own_len2 h h2, own_P2]; congr 1; omega
theorem own_q1 {P l c : Int32} (h : P.toInt = ((2 + (posL l c).length : Nat) : Int)) : (P + (1 : Int32)).toInt = ((3 + (posL l c).length : Nat) : Int) := by
  have a := c_iadd P 1
  have b := rng32 (P + (1 : Int32))
  have d := posL_le l c
  have e : (1 : Int32).toInt = 1 := by decide
  omega
theorem own_q2 {P l c : Int32} (h : P.toInt = ((2 + (posL l c).length : Nat) : Int)) : (P + (2 : Int32)).toInt = ((4 + (posL l c).length : Nat) : Int) := by
  have a := c_iadd P 2
  have b := rng32 (P + (2 : Int32))
  have d := posL_le l c
  have e : (2 : Int32).toInt = 2 := by decide
  omega
theorem ex_0 {p a b l c : Int32} (h : p = (0 : Int32)) : nar .char ((a &&& (255 : Int32)).toUInt32.toUInt16.toUInt32.toInt32) = (msg a b l c).getD p.toNatClampNeg (0 : Int32) := by
  subst h
  rw [i2c_mask, own_nar (own_ch _)]
  exact (own_m0 a b l c).symm
theorem ex_1 {p a b l c : Int32} (h : p = (1 : Int32)) : nar .char (((a.toUInt32 >>> ((8 : Int32) &&& 31).toUInt32).toInt32 &&& (255 : Int32)).toUInt32.toUInt16.toUInt32.toInt32) = (msg a b l c).getD p.toNatClampNeg (0 : Int32) := by
  subst h
  rw [i2c_mask, own_nar (own_ch _)]
  exact (own_m1 a b l c).symm
theorem ex_58 : nar .char (58 : Int32) = (58 : Int32) := by decide
theorem ex_32 : nar .char (32 : Int32) = (32 : Int32) := by decide
theorem own_lpos {l c : Int32} (h : ¬ (l < (1 : Int32))) : 1 + nd l.toNatClampNeg ≤ (posL l c).length := by
  by_cases h2 : c < (1 : Int32)
  · rw [own_len1 h h2]; exact Nat.le_refl _
  · rw [own_len2 h h2]; omega
theorem ex_3 {p a b l c : Int32} (hl : ¬ (l < (1 : Int32))) (h : p = (2 : Int32)) : nar .char (58 : Int32) = (msg a b l c).getD p.toNatClampNeg (0 : Int32) := by
  subst h
  have q := own_lpos (c := c) hl
  rw [ex_58, show (2 : Int32).toNatClampNeg = 2 by decide, own_mp 0 rfl (by omega), own_p0 hl]
theorem ex_4 {p a b l c : Int32} (hlo : ¬ (p < (0 : Int32))) (hl : ¬ (l < (1 : Int32))) (h0 : ¬ (p = (0 : Int32))) (h1 : ¬ (p = (1 : Int32))) (h2 : ¬ (p = (2 : Int32))) (h3 : ¬ (((2 : Int32) + Int32.ofNat (nd l.toNatClampNeg)) < p)) : 3 ≤ p.toNatClampNeg ∧ p.toNatClampNeg ≤ 2 + nd l.toNatClampNeg ∧ nar .char (dj l.toNatClampNeg (nd l.toNatClampNeg - 1 - (p.toNatClampNeg - 3))) = (msg a b l c).getD p.toNatClampNeg (0 : Int32) := by
  have n := nat_of hlo
  have e0 : p.toInt ≠ 0 := fun q => h0 (Int32.toInt_inj.mp q)
  have e1 : p.toInt ≠ 1 := fun q => h1 (Int32.toInt_inj.mp q)
  have e2 : p.toInt ≠ 2 := fun q => h2 (Int32.toInt_inj.mp q)
  rw [Int32.lt_iff_toInt_lt, own_R1] at h3
  have w := own_lpos (c := c) hl
  refine ⟨by omega, by omega, ?_⟩
  rw [own_nardj, own_mp (p.toNatClampNeg - 2) (by omega) (by omega), own_p1 hl (p.toNatClampNeg - 3) (by omega) (by omega)]
theorem ex_5 {p a b l c : Int32} (hlo : ¬ (p < (0 : Int32))) (hl : ¬ (l < (1 : Int32))) (hc : ¬ (c < (1 : Int32))) (h : p = ((3 : Int32) + Int32.ofNat (nd l.toNatClampNeg))) : nar .char (58 : Int32) = (msg a b l c).getD p.toNatClampNeg (0 : Int32) := by
  have q := own_len2 hl hc
  rw [ex_58, own_in hlo (own_P1 l) h, own_mp (1 + nd l.toNatClampNeg) (by omega) (by omega), own_p2 hl hc rfl]
theorem ex_6 {p a b l c : Int32} (hlo : ¬ (p < (0 : Int32))) (hl : ¬ (l < (1 : Int32))) (hc : ¬ (c < (1 : Int32))) (h3 : ((2 : Int32) + Int32.ofNat (nd l.toNatClampNeg)) < p) (h4 : ¬ (p = ((3 : Int32) + Int32.ofNat (nd l.toNatClampNeg)))) (h5 : ¬ ((((3 : Int32) + Int32.ofNat (nd l.toNatClampNeg)) + Int32.ofNat (nd c.toNatClampNeg)) < p)) : 4 + nd l.toNatClampNeg ≤ p.toNatClampNeg ∧ p.toNatClampNeg ≤ 3 + nd l.toNatClampNeg + nd c.toNatClampNeg ∧ nar .char (dj c.toNatClampNeg (nd c.toNatClampNeg - 1 - (p.toNatClampNeg - (4 + nd l.toNatClampNeg)))) = (msg a b l c).getD p.toNatClampNeg (0 : Int32) := by
  have n := nat_of hlo
  have q := own_len2 hl hc
  have e4 : p.toInt ≠ ((3 : Int32) + Int32.ofNat (nd l.toNatClampNeg)).toInt := fun q => h4 (Int32.toInt_inj.mp q)
  rw [own_P1] at e4
  rw [Int32.lt_iff_toInt_lt, own_R1] at h3
  rw [Int32.lt_iff_toInt_lt, own_R2] at h5
  refine ⟨by omega, by omega, ?_⟩
  rw [own_nardj, own_mp (p.toNatClampNeg - 2) (by omega) (by omega), own_p3 hl hc (p.toNatClampNeg - (4 + nd l.toNatClampNeg)) (by omega) (by omega)]
theorem ex_t0 {p P a b l c : Int32} (hlo : ¬ (p < (0 : Int32))) (hP : P.toInt = ((2 + (posL l c).length : Nat) : Int)) (h : p = P) : nar .char (58 : Int32) = (msg a b l c).getD p.toNatClampNeg (0 : Int32) := by
  rw [ex_58, own_in hlo hP h, own_mt (i := 2 + (posL l c).length) 0 (by omega) (by decide)]; rfl
theorem ex_t1 {p P a b l c : Int32} (hlo : ¬ (p < (0 : Int32))) (hP : P.toInt = ((3 + (posL l c).length : Nat) : Int)) (h : p = P) : nar .char (32 : Int32) = (msg a b l c).getD p.toNatClampNeg (0 : Int32) := by
  rw [ex_32, own_in hlo hP h, own_mt 1 (by omega) (by decide)]; rfl
theorem ex_t2 {p P a b l c : Int32} (hlo : ¬ (p < (0 : Int32))) (hP : P.toInt = ((4 + (posL l c).length : Nat) : Int)) (h : p = P) : nar .char ((b &&& (255 : Int32)).toUInt32.toUInt16.toUInt32.toInt32) = (msg a b l c).getD p.toNatClampNeg (0 : Int32) := by
  rw [i2c_mask, own_nar (own_ch _), own_in hlo hP h, own_me (i := 4 + (posL l c).length) 0 (by omega)]; rfl
theorem ex_t3 {p P Q R a b l c : Int32} (hlo : ¬ (p < (0 : Int32))) (hhi : p < (Int32.ofNat (msg a b l c).length)) (hP : P.toInt = ((2 + (posL l c).length : Nat) : Int)) (hQ : Q.toInt = ((3 + (posL l c).length : Nat) : Int)) (hR : R.toInt = ((4 + (posL l c).length : Nat) : Int)) (hge : 2 + (posL l c).length ≤ p.toNatClampNeg) (h1 : ¬ (p = P)) (h2 : ¬ (p = Q)) (h3 : ¬ (p = R)) : nar .char (((b.toUInt32 >>> ((8 : Int32) &&& 31).toUInt32).toInt32 &&& (255 : Int32)).toUInt32.toUInt16.toUInt32.toInt32) = (msg a b l c).getD p.toNatClampNeg (0 : Int32) := by
  have n := nat_of hlo
  have d := posL_le l c
  have m := msg_len a b l c
  rw [Int32.lt_iff_toInt_lt, own_ofn (by omega)] at hhi
  have e1 : p.toInt ≠ P.toInt := fun q => h1 (Int32.toInt_inj.mp q)
  have e2 : p.toInt ≠ Q.toInt := fun q => h2 (Int32.toInt_inj.mp q)
  have e3 : p.toInt ≠ R.toInt := fun q => h3 (Int32.toInt_inj.mp q)
  rw [i2c_mask, own_nar (own_ch _), own_me 1 (by omega)]; rfl
theorem hg0 {p l c : Int32} (hlo : ¬ (p < (0 : Int32))) (hl : l < (1 : Int32)) (h0 : ¬ (p = (0 : Int32))) (h1 : ¬ (p = (1 : Int32))) : 2 + (posL l c).length ≤ p.toNatClampNeg := by
  have n := nat_of hlo
  have e0 : p.toInt ≠ 0 := fun q => h0 (Int32.toInt_inj.mp q)
  have e1 : p.toInt ≠ 1 := fun q => h1 (Int32.toInt_inj.mp q)
  rw [own_len0 hl]; omega
theorem hg1 {p l c : Int32} (hlo : ¬ (p < (0 : Int32))) (hl : ¬ (l < (1 : Int32))) (hc : c < (1 : Int32)) (h3 : ((2 : Int32) + Int32.ofNat (nd l.toNatClampNeg)) < p) : 2 + (posL l c).length ≤ p.toNatClampNeg := by
  have n := nat_of hlo
  rw [Int32.lt_iff_toInt_lt, own_R1] at h3
  rw [own_len1 hl hc]; omega
theorem hg2 {p l c : Int32} (hlo : ¬ (p < (0 : Int32))) (hl : ¬ (l < (1 : Int32))) (hc : ¬ (c < (1 : Int32))) (h5 : (((3 : Int32) + Int32.ofNat (nd l.toNatClampNeg)) + Int32.ofNat (nd c.toNatClampNeg)) < p) : 2 + (posL l c).length ≤ p.toNatClampNeg := by
  have n := nat_of hlo
  rw [Int32.lt_iff_toInt_lt, own_R2] at h5
  rw [own_len2 hl hc]; omega
theorem own_dj1 {p l : Int32} (hlo : ¬ (p < (0 : Int32))) (h3 : 3 ≤ p.toNatClampNeg) (h4 : p.toNatClampNeg ≤ 2 + nd l.toNatClampNeg) : ((Int32.ofNat (nd l.toNatClampNeg) - (1 : Int32)) - ((p - (2 : Int32)) - (1 : Int32))).toInt = ((nd l.toNatClampNeg - 1 - (p.toNatClampNeg - 3) : Nat) : Int) ∧ nd l.toNatClampNeg - 1 - (p.toNatClampNeg - 3) < 10 := by
  have n := nat_of hlo
  have d := nd_le l.toNatClampNeg
  have r := rng32 p
  have a1 := c_isub (Int32.ofNat (nd l.toNatClampNeg)) 1
  have a2 := c_isub p 2
  have a3 := c_isub (p - (2 : Int32)) 1
  have a4 := c_isub (Int32.ofNat (nd l.toNatClampNeg) - (1 : Int32)) ((p - (2 : Int32)) - (1 : Int32))
  have b1 := rng32 (Int32.ofNat (nd l.toNatClampNeg) - (1 : Int32))
  have b2 := rng32 (p - (2 : Int32))
  have b3 := rng32 ((p - (2 : Int32)) - (1 : Int32))
  have b4 := rng32 ((Int32.ofNat (nd l.toNatClampNeg) - (1 : Int32)) - ((p - (2 : Int32)) - (1 : Int32)))
  have e1 : (1 : Int32).toInt = 1 := by decide
  have e2 : (2 : Int32).toInt = 2 := by decide
  rw [own_NL, e1] at a1
  rw [e2] at a2
  rw [e1] at a3
  refine ⟨?_, by omega⟩
  omega
theorem own_dj2 {p l c : Int32} (hlo : ¬ (p < (0 : Int32))) (h3 : 4 + nd l.toNatClampNeg ≤ p.toNatClampNeg) (h4 : p.toNatClampNeg ≤ 3 + nd l.toNatClampNeg + nd c.toNatClampNeg) : ((Int32.ofNat (nd c.toNatClampNeg) - (1 : Int32)) - ((p - ((3 : Int32) + Int32.ofNat (nd l.toNatClampNeg))) - (1 : Int32))).toInt = ((nd c.toNatClampNeg - 1 - (p.toNatClampNeg - (4 + nd l.toNatClampNeg)) : Nat) : Int) ∧ nd c.toNatClampNeg - 1 - (p.toNatClampNeg - (4 + nd l.toNatClampNeg)) < 10 := by
  have n := nat_of hlo
  have d := nd_le l.toNatClampNeg
  have d2 := nd_le c.toNatClampNeg
  have r := rng32 p
  have a1 := c_isub (Int32.ofNat (nd c.toNatClampNeg)) 1
  have a2 := c_isub p ((3 : Int32) + Int32.ofNat (nd l.toNatClampNeg))
  have a3 := c_isub (p - ((3 : Int32) + Int32.ofNat (nd l.toNatClampNeg))) 1
  have a4 := c_isub (Int32.ofNat (nd c.toNatClampNeg) - (1 : Int32)) ((p - ((3 : Int32) + Int32.ofNat (nd l.toNatClampNeg))) - (1 : Int32))
  have b1 := rng32 (Int32.ofNat (nd c.toNatClampNeg) - (1 : Int32))
  have b2 := rng32 (p - ((3 : Int32) + Int32.ofNat (nd l.toNatClampNeg)))
  have b3 := rng32 ((p - ((3 : Int32) + Int32.ofNat (nd l.toNatClampNeg))) - (1 : Int32))
  have b4 := rng32 ((Int32.ofNat (nd c.toNatClampNeg) - (1 : Int32)) - ((p - ((3 : Int32) + Int32.ofNat (nd l.toNatClampNeg))) - (1 : Int32)))
  have e1 : (1 : Int32).toInt = 1 := by decide
  rw [own_NL, e1] at a1
  rw [own_P1] at a2
  rw [e1] at a3
  refine ⟨?_, by omega⟩
  omega
-- the digit
def pw (j : Nat) : Int32 := Int32.ofNat (10 ^ j)
theorem own_pwl {j : Nat} {d : Value} (h : j < 10) : [Value.int (1 : Int32), .int (10 : Int32), .int (100 : Int32), .int (1000 : Int32), .int (10000 : Int32), .int (100000 : Int32), .int (1000000 : Int32), .int (10000000 : Int32), .int (100000000 : Int32), .int (1000000000 : Int32)].getD j d = .int (pw j) := by
  match j, h with
  | 0, _ => rfl
  | 1, _ => rfl
  | 2, _ => rfl
  | 3, _ => rfl
  | 4, _ => rfl
  | 5, _ => rfl
  | 6, _ => rfl
  | 7, _ => rfl
  | 8, _ => rfl
  | 9, _ => rfl
  | n + 10, h => exact absurd h (by omega)
theorem own_pwi {j : Nat} (h : j < 10) : (pw j).toInt = ((10 ^ j : Nat) : Int) := by
  have : ∀ j, j < 10 → 10 ^ j < 2147483648 := by decide
  exact own_ofn (this j h)
theorem own_pwz {j : Nat} (h : j < 10) : pw j ≠ 0 := fun q => by
  have e := congrArg Int32.toInt q
  rw [own_pwi h, own_z32] at e
  have := Nat.pow_pos (n := j) (show 0 < 10 by decide)
  omega
theorem own_pwx {j : Nat} {i : Int32} {d : Value} (h : j < 10) (hj : i.toInt = (j : Int)) : (¬ i < 0 ∧ i < (10 : Int32)) ∧ [Value.int (1 : Int32), .int (10 : Int32), .int (100 : Int32), .int (1000 : Int32), .int (10000 : Int32), .int (100000 : Int32), .int (1000000 : Int32), .int (10000000 : Int32), .int (100000000 : Int32), .int (1000000000 : Int32)].getD i.toNatClampNeg d = .int (pw j) := by
  have q := own_ix (z := (10 : Int32)) (cap := 10) (by decide) h hj
  exact ⟨q.1, by rw [q.2]; exact own_pwl h⟩
theorem own_dgL {v : Int32} {j : Nat} (hv : (0 : Int32) < v) (h : j < 10) : nar .char (((48 : Int32) + ((v / pw j) % (10 : Int32))).toUInt32.toUInt16.toUInt32.toInt32) = dj v.toNatClampNeg j := by
  have n := own_pnat hv
  have i := own_pwi h
  have hp := Nat.pow_pos (n := j) (show 0 < 10 by decide)
  have ne : pw j ≠ -1 := fun q => by
    have e := congrArg Int32.toInt q
    rw [i, show (-1 : Int32).toInt = -1 by decide] at e; omega
  have d1 := (c_idiv v (pw j) _ i ne).1 (by omega)
  rw [n, ← Int.natCast_ediv] at d1
  obtain ⟨t, ht⟩ : ∃ t, t = v.toNatClampNeg / 10 ^ j := ⟨_, rfl⟩
  rw [← ht] at d1
  have d2 := (c_irem (v / pw j) 10 10 (by decide)).1 (by omega)
  rw [d1] at d2
  have d3 := c_iadd (48 : Int32) ((v / pw j) % (10 : Int32))
  have r3 := rng32 ((48 : Int32) + ((v / pw j) % (10 : Int32)))
  have e48 : (48 : Int32).toInt = 48 := by decide
  rw [d2, e48] at d3
  have s : (48 : Int32) + ((v / pw j) % (10 : Int32)) = Int32.ofNat (48 + t % 10) := by
    apply Int32.toInt_inj.mp
    rw [own_ofn (by omega)]
    omega
  have s' : (48 : Int32) + ((v / pw j) % (10 : Int32)) = dj v.toNatClampNeg j := by rw [s, ht]
  rw [s']
  have q : (dj v.toNatClampNeg j).toUInt32.toUInt16.toUInt32.toInt32 = dj v.toNatClampNeg j := own_nardj _ _
  rw [q]; exact own_nardj _ _
theorem own_i1 {p : Int32} (h : ¬ (p < (0 : Int32)) ∧ p < (25 : Int32)) {k : Int32} (hk : 0 ≤ k.toInt ∧ k.toInt ≤ 3) : ¬ ((p + k) < (0 : Int32)) := by
  have h1 := h.1
  have h2 := h.2
  rw [Int32.lt_iff_toInt_lt, own_z32] at h1
  rw [Int32.lt_iff_toInt_lt, show (25 : Int32).toInt = 25 by decide] at h2
  have a := c_iadd p k
  have b := rng32 (p + k)
  rw [Int32.lt_iff_toInt_lt, own_z32]
  omega
theorem own_tot0 {l c : Int32} (hl : l < (1 : Int32)) : (6 : Int32) = Int32.ofNat (6 + (posL l c).length) := by
  rw [own_len0 hl]; decide
theorem own_tot1 {l c : Int32} (hl : ¬ (l < (1 : Int32))) (hc : c < (1 : Int32)) : (((3 : Int32) + Int32.ofNat (nd l.toNatClampNeg)) + (4 : Int32)) = Int32.ofNat (6 + (posL l c).length) := by
  have d := nd_le l.toNatClampNeg
  apply Int32.toInt_inj.mp
  rw [own_len1 hl hc, own_ofn (by omega)]
  have x := c_iadd ((3 : Int32) + Int32.ofNat (nd l.toNatClampNeg)) 4
  have y := rng32 (((3 : Int32) + Int32.ofNat (nd l.toNatClampNeg)) + (4 : Int32))
  rw [own_P1, show (4 : Int32).toInt = 4 by decide] at x
  omega
theorem own_tot2 {l c : Int32} (hl : ¬ (l < (1 : Int32))) (hc : ¬ (c < (1 : Int32))) : (((((3 : Int32) + Int32.ofNat (nd l.toNatClampNeg)) + (1 : Int32)) + Int32.ofNat (nd c.toNatClampNeg)) + (4 : Int32)) = Int32.ofNat (6 + (posL l c).length) := by
  have d := nd_le l.toNatClampNeg
  have d2 := nd_le c.toNatClampNeg
  apply Int32.toInt_inj.mp
  rw [own_len2 hl hc, own_ofn (by omega)]
  have x := c_iadd ((((3 : Int32) + Int32.ofNat (nd l.toNatClampNeg)) + (1 : Int32)) + Int32.ofNat (nd c.toNatClampNeg)) 4
  have y := rng32 (((((3 : Int32) + Int32.ofNat (nd l.toNatClampNeg)) + (1 : Int32)) + Int32.ofNat (nd c.toNatClampNeg)) + (4 : Int32))
  rw [own_P2, show (4 : Int32).toInt = 4 by decide] at x
  omega
def Start (Z : State) (w_DigitOnes : Addr) (w_DigitTens : Addr) (zc : Int32) (fm : Value) (k_ones : ClassId) (k_tens : ClassId) : Prop :=
  Sta Z Z.heap "java/lang/Integer" "DigitOnes" "[B" (.ref w_DigitOnes) ∧
  Exa Z Z.heap w_DigitOnes "[B" ∧
  Sta Z Z.heap "java/lang/Integer" "DigitTens" "[B" (.ref w_DigitTens) ∧
  Exa Z Z.heap w_DigitTens "[B" ∧
  Arv Z Z.heap w_DigitOnes k_ones .byte (100 : Int32) dOnes (.int (0 : Int32)) ∧
  Arv Z Z.heap w_DigitTens k_tens .byte (100 : Int32) dTens (.int (0 : Int32)) ∧
  Sta Z Z.heap "java/lang/String" "COMPACT_STRINGS" "Z" (.int zc) ∧
  (¬ (zc = (0 : Int32))) ∧
  Sta Z Z.heap "jdk/internal/util/Preconditions" "SIOOBE_FORMATTER" "Ljava/util/function/BiFunction;" fm ∧
  (fm.isRef = true) ∧
  True
theorem d13_0 : decode jdk_42_method_152_code 0 = .ok (.getstatic 38, 3) := by decide +kernel
theorem d13_3 : decode jdk_42_method_152_code 3 = .ok (.ifCond .eq 10, 3) := by decide +kernel
theorem d13_6 : decode jdk_42_method_152_code 6 = .ok (.aload_n 0, 1) := by decide +kernel
theorem d13_7 : decode jdk_42_method_152_code 7 = .ok (.getfield 15, 3) := by decide +kernel
theorem d13_10 : decode jdk_42_method_152_code 10 = .ok (.goto 4, 3) := by decide +kernel
theorem d13_14 : decode jdk_42_method_152_code 14 = .ok (.ireturn, 1) := by decide +kernel
theorem pn_0 : plainName "java/lang/String" = true := by first | (simp [plainName, overriddenIn]; done) | decide +kernel
def Q13 (Z : State) (a1 : Addr) (w_DigitOnes : Addr) (w_DigitTens : Addr) (zc : Int32) (fm : Value) (k_ones : ClassId) (k_tens : ClassId) (h0 : Heap) (n0 : Nat) (v : Option Value) (h : Heap) : Prop :=
  (v = some (.int (0 : Int32)) ∧ h = h0)
theorem ef_13 (m : MethodId) (a1 : Addr) : entryFrame m #[(.ref a1)] 1 = mkF m 0 #[.val (.ref a1)] [] := by first | (simp [entryFrame, mkF, argsToLocals, Value.category]; done) | rfl
set_option maxRecDepth 65536 in
set_option maxHeartbeats 40000000 in
theorem rm13 (l : Launch) (Z : State) (a0 : Array Value) (hw : ∀ d ∈ tables_1, d.before a0 Z = true) (ws : List Jvm.Cond) (a1 : Addr) (w_DigitOnes : Addr) (w_DigitTens : Addr) (zc : Int32) (fm : Value) (k_ones : ClassId) (k_tens : ClassId) (h0 : Heap) (n0 : Nat) (O0 : Old Z n0 h0) (SF : Start Z w_DigitOnes w_DigitTens zc fm k_ones k_tens) (f0 : Fld Z h0 a1 "java/lang/String" "coder" "B" (.int (0 : Int32))) :
    Meets l (⟨"java/lang/String", "coder", "()B"⟩ : MethodName) jdk_42_method_152_code 1 (some .byte) ws ({ frames := 0, cells := 0, slots := 0, locals := 0 } : Room) ({ frames := 0, cells := 0, slots := 0, locals := 0 } : Room).cells ({ frames := 0, cells := 0, slots := 0, locals := 0 } : Room).slots Z #[(.ref a1)] h0 n0 (Q13 Z a1 w_DigitOnes w_DigitTens zc fm k_ones k_tens h0 n0) := by
  refine Meets.of (F := fun m => mkF m 0 #[.val (.ref a1)] []) (plainFor_of_name pn_0) (fun m => ef_13 m a1) ?_
  intro p e s m below meth c T0 hx hby hml hown0 hnm hret hlk hZ X0 e0
  have hown : s.vm.findClass "java/lang/String" = some m.cls := hown0
  have N0 := Fr.nil n0
  obtain ⟨z0, z1, z2, z3, z4, z5, z6, hzc, z8, hfm, -⟩ := SF
  show Goes _ _ _ _ _ _ (T0.setTop (mkF m 0 #[.val (.ref a1)] []))
  refine own_getS X0 hx hZ hown (host := "") (Or.inl (own_w hw 14 rfl)) Via.refl e0 (z6.ext O0.2) (hb hby d13_0) (fun T1 X1 e1 => ?_)
  refine own_ifNo X1 hx (hb hby d13_3) ((if0 _ _).trans (feq (hzc : ¬ (zc = (0 : Int32)))).1) ?_
  refine own_aloadN X1 hx (hb hby d13_6) rfl rfl ?_
  refine own_getF X1 hx hZ hown (host := "") (Or.inl (own_w hw 26 rfl)) Via.refl e1 f0 (hb hby d13_7) (fun T2 X2 e2 => ?_)
  refine own_goto X2 hx (pc' := 14) (hb hby d13_10) (by decide) (by decide) ?_
  show Goes _ _ _ _ _ _ (T2.setTop (mkF m 14 #[.val (.ref a1)] [(.int (0 : Int32))]))
  exact own_retN X2 hx (t := .byte) N0 hlk (by decide) (by decide) hret (by simp) (hb hby d13_14) (by rw [e2]; exact ⟨rfl, rfl⟩)
theorem d12_0 : decode jdk_42_method_54_code 0 = .ok (.aload_n 0, 1) := by decide +kernel
theorem d12_1 : decode jdk_42_method_54_code 1 = .ok (.getfield 9, 3) := by decide +kernel
theorem d12_4 : decode jdk_42_method_54_code 4 = .ok (.arraylength, 1) := by decide +kernel
theorem d12_5 : decode jdk_42_method_54_code 5 = .ok (.aload_n 0, 1) := by decide +kernel
theorem d12_6 : decode jdk_42_method_54_code 6 = .ok (.invokevirtual 335, 3) := by decide +kernel
theorem pd_0 : parseMethodDescriptor "()B" = some ⟨[], some .byte⟩ := by decide +kernel
theorem d12_9 : decode jdk_42_method_54_code 9 = .ok (.ishr, 1) := by decide +kernel
theorem d12_10 : decode jdk_42_method_54_code 10 = .ok (.ireturn, 1) := by decide +kernel
def Q12 (Z : State) (a1 : Addr) (t : Addr) (k : ClassId) (cs : List Int32) (w_DigitOnes : Addr) (w_DigitTens : Addr) (zc : Int32) (fm : Value) (k_ones : ClassId) (k_tens : ClassId) (h0 : Heap) (n0 : Nat) (v : Option Value) (h : Heap) : Prop :=
  (v = some (.int (Int32.ofNat cs.length)) ∧ h = h0)
theorem ef_12 (m : MethodId) (a1 : Addr) : entryFrame m #[(.ref a1)] 1 = mkF m 0 #[.val (.ref a1)] [] := by first | (simp [entryFrame, mkF, argsToLocals, Value.category]; done) | rfl
set_option maxRecDepth 65536 in
set_option maxHeartbeats 40000000 in
theorem rm12 (l : Launch) (Z : State) (a0 : Array Value) (hw : ∀ d ∈ tables_1, d.before a0 Z = true) (ws : List Jvm.Cond) (a1 : Addr) (t : Addr) (k : ClassId) (cs : List Int32) (w_DigitOnes : Addr) (w_DigitTens : Addr) (zc : Int32) (fm : Value) (k_ones : ClassId) (k_tens : ClassId) (h0 : Heap) (n0 : Nat) (O0 : Old Z n0 h0) (SF : Start Z w_DigitOnes w_DigitTens zc fm k_ones k_tens) (f0 : Exa Z h0 a1 "java/lang/String") (f1 : Fld Z h0 a1 "java/lang/String" "value" "[B" (.ref t)) (f2 : Fld Z h0 a1 "java/lang/String" "coder" "B" (.int (0 : Int32))) (f3 : Arv Z h0 t k .byte (Int32.ofNat cs.length) (bl cs) (.int (0 : Int32))) :
    Meets l (⟨"java/lang/String", "length", "()I"⟩ : MethodName) jdk_42_method_54_code 1 (some .int) ws ({ frames := 1, cells := 0, slots := 0, locals := 13 } : Room) ({ frames := 1, cells := 0, slots := 0, locals := 13 } : Room).cells ({ frames := 1, cells := 0, slots := 0, locals := 13 } : Room).slots Z #[(.ref a1)] h0 n0 (Q12 Z a1 t k cs w_DigitOnes w_DigitTens zc fm k_ones k_tens h0 n0) := by
  refine Meets.of (F := fun m => mkF m 0 #[.val (.ref a1)] []) (plainFor_of_name pn_0) (fun m => ef_12 m a1) ?_
  intro p e s m below meth c T0 hx hby hml hown0 hnm hret hlk hZ X0 e0
  have hown : s.vm.findClass "java/lang/String" = some m.cls := hown0
  have N0 := Fr.nil n0
  obtain ⟨z0, z1, z2, z3, z4, z5, z6, hzc, z8, hfm, -⟩ := SF
  show Goes _ _ _ _ _ _ (T0.setTop (mkF m 0 #[.val (.ref a1)] []))
  refine own_aloadN X0 hx (hb hby d12_0) rfl rfl ?_
  refine own_getF X0 hx hZ hown (host := "") (Or.inl (own_w hw 28 rfl)) Via.refl e0 f1 (hb hby d12_1) (fun T1 X1 e1 => ?_)
  refine own_alen X1 hx hZ e1 f3 (hb hby d12_4) ?_
  refine own_aloadN X1 hx (hb hby d12_5) rfl rfl ?_
  refine own_virtual X1 hx hZ hown (y := (⟨"java/lang/String", "coder", "()B"⟩ : MethodName)) (z := (⟨"java/lang/String", "coder", "()B"⟩ : MethodName)) (own_w hw 67 rfl) (own_w hw 68 rfl) (notFace_of_selects (args := #[]) (mvT hZ (own_w hw 70 rfl))) (own_w hw 70 rfl) (own_w hw 69 rfl) (own_w hw 2 rfl) (own_w hw 71 rfl) (a := a1) f0 (by decide) (W := 1) (by decide) (by decide) N0 e1 (by rw [hml]; rfl) (argsL := []) (rest := [(.int (Int32.ofNat cs.length))]) (lenOf pd_0 rfl) (Nat.le_of_eq rfl) (by decide) (by decide) (rm13 l Z a0 hw [] a1 w_DigitOnes w_DigitTens zc fm k_ones k_tens h0 n0 O0 ⟨z0, z1, z2, z3, z4, z5, z6, hzc, z8, hfm, trivial⟩ f2) rfl (hb hby d12_6) ?_
  intro v2 T2 lc2 X2 N2 hQ2
  obtain ⟨rfl, e2⟩ := hQ2
  refine own_ishr X2 hx (hb hby d12_9) ?_
  show Goes _ _ _ _ _ _ (T2.setTop (mkF m 10 #[.val (.ref a1)] [(.int ((Int32.ofNat cs.length) >>> ((0 : Int32) &&& 31)))]))
  rw [own_shr0]
  show Goes _ _ _ _ _ _ (T2.setTop (mkF m 10 #[.val (.ref a1)] [(.int (Int32.ofNat cs.length))]))
  exact own_retI X2 hx N2 hlk (by decide) (by decide) hret (hb hby d12_10) (by rw [e2]; exact ⟨rfl, rfl⟩)
theorem d39_0 : decode jdk_42_method_154_code 0 = .ok (.getstatic 38, 3) := by decide +kernel
theorem d39_3 : decode jdk_42_method_154_code 3 = .ok (.ifCond .eq 14, 3) := by decide +kernel
theorem d39_6 : decode jdk_42_method_154_code 6 = .ok (.aload_n 0, 1) := by decide +kernel
theorem d39_7 : decode jdk_42_method_154_code 7 = .ok (.getfield 15, 3) := by decide +kernel
theorem d39_10 : decode jdk_42_method_154_code 10 = .ok (.ifCond .ne 7, 3) := by decide +kernel
theorem d39_13 : decode jdk_42_method_154_code 13 = .ok (.iconst 1, 1) := by decide +kernel
theorem d39_14 : decode jdk_42_method_154_code 14 = .ok (.goto 4, 3) := by decide +kernel
theorem d39_18 : decode jdk_42_method_154_code 18 = .ok (.ireturn, 1) := by decide +kernel
def Q39 (Z : State) (a1 : Addr) (w_DigitOnes : Addr) (w_DigitTens : Addr) (zc : Int32) (fm : Value) (k_ones : ClassId) (k_tens : ClassId) (h0 : Heap) (n0 : Nat) (v : Option Value) (h : Heap) : Prop :=
  (v = some (.int (1 : Int32)) ∧ h = h0)
theorem ef_39 (m : MethodId) (a1 : Addr) : entryFrame m #[(.ref a1)] 1 = mkF m 0 #[.val (.ref a1)] [] := by first | (simp [entryFrame, mkF, argsToLocals, Value.category]; done) | rfl
set_option maxRecDepth 65536 in
set_option maxHeartbeats 40000000 in
theorem rm39 (l : Launch) (Z : State) (a0 : Array Value) (hw : ∀ d ∈ tables_1, d.before a0 Z = true) (ws : List Jvm.Cond) (a1 : Addr) (w_DigitOnes : Addr) (w_DigitTens : Addr) (zc : Int32) (fm : Value) (k_ones : ClassId) (k_tens : ClassId) (h0 : Heap) (n0 : Nat) (O0 : Old Z n0 h0) (SF : Start Z w_DigitOnes w_DigitTens zc fm k_ones k_tens) (f0 : Fld Z h0 a1 "java/lang/String" "coder" "B" (.int (0 : Int32))) :
    Meets l (⟨"java/lang/String", "isLatin1", "()Z"⟩ : MethodName) jdk_42_method_154_code 1 (some .boolean) ws ({ frames := 0, cells := 0, slots := 0, locals := 0 } : Room) ({ frames := 0, cells := 0, slots := 0, locals := 0 } : Room).cells ({ frames := 0, cells := 0, slots := 0, locals := 0 } : Room).slots Z #[(.ref a1)] h0 n0 (Q39 Z a1 w_DigitOnes w_DigitTens zc fm k_ones k_tens h0 n0) := by
  refine Meets.of (F := fun m => mkF m 0 #[.val (.ref a1)] []) (plainFor_of_name pn_0) (fun m => ef_39 m a1) ?_
  intro p e s m below meth c T0 hx hby hml hown0 hnm hret hlk hZ X0 e0
  have hown : s.vm.findClass "java/lang/String" = some m.cls := hown0
  have N0 := Fr.nil n0
  obtain ⟨z0, z1, z2, z3, z4, z5, z6, hzc, z8, hfm, -⟩ := SF
  show Goes _ _ _ _ _ _ (T0.setTop (mkF m 0 #[.val (.ref a1)] []))
  refine own_getS X0 hx hZ hown (host := "") (Or.inl (own_w hw 14 rfl)) Via.refl e0 (z6.ext O0.2) (hb hby d39_0) (fun T1 X1 e1 => ?_)
  refine own_ifNo X1 hx (hb hby d39_3) ((if0 _ _).trans (feq (hzc : ¬ (zc = (0 : Int32)))).1) ?_
  refine own_aloadN X1 hx (hb hby d39_6) rfl rfl ?_
  refine own_getF X1 hx hZ hown (host := "") (Or.inl (own_w hw 26 rfl)) Via.refl e1 f0 (hb hby d39_7) (fun T2 X2 e2 => ?_)
  refine own_ifNo X2 hx (hb hby d39_10) ((if0 _ _).trans (teq (by decide : (0 : Int32) = (0 : Int32))).2) ?_
  refine own_iconst X2 hx (v := (1 : Int32)) (hb hby d39_13) rfl ?_
  refine own_goto X2 hx (pc' := 18) (hb hby d39_14) (by decide) (by decide) ?_
  show Goes _ _ _ _ _ _ (T2.setTop (mkF m 18 #[.val (.ref a1)] [(.int (1 : Int32))]))
  exact own_retN X2 hx (t := .boolean) N0 hlk (by decide) (by decide) hret (by simp) (hb hby d39_18) (by rw [e2]; exact ⟨rfl, rfl⟩)
theorem d9_0 : decode jdk_68_method_2_code 0 = .ok (.aload_n 0, 1) := by decide +kernel
theorem d9_1 : decode jdk_68_method_2_code 1 = .ok (.invokespecial 3, 3) := by decide +kernel
theorem d9_4 : decode jdk_68_method_2_code 4 = .ok (.getstatic 18, 3) := by decide +kernel
theorem d9_7 : decode jdk_68_method_2_code 7 = .ok (.ifCond .eq 18, 3) := by decide +kernel
theorem d9_10 : decode jdk_68_method_2_code 10 = .ok (.aload_n 0, 1) := by decide +kernel
theorem d9_11 : decode jdk_68_method_2_code 11 = .ok (.iload_n 1, 1) := by decide +kernel
theorem d9_12 : decode jdk_68_method_2_code 12 = .ok (.newarray .byte, 2) := by decide +kernel
theorem d9_14 : decode jdk_68_method_2_code 14 = .ok (.putfield 15, 3) := by decide +kernel
theorem d9_17 : decode jdk_68_method_2_code 17 = .ok (.aload_n 0, 1) := by decide +kernel
theorem d9_18 : decode jdk_68_method_2_code 18 = .ok (.iconst 0, 1) := by decide +kernel
theorem d9_19 : decode jdk_68_method_2_code 19 = .ok (.putfield 22, 3) := by decide +kernel
theorem d9_22 : decode jdk_68_method_2_code 22 = .ok (.goto 16, 3) := by decide +kernel
theorem d9_38 : decode jdk_68_method_2_code 38 = .ok (.return_, 1) := by decide +kernel
theorem pn_1 : plainName "java/lang/AbstractStringBuilder" = true := by first | (simp [plainName, overriddenIn]; done) | decide +kernel
def Q9 (Z : State) (a1 : Addr) (u1 : Value) (u2 : Value) (w_DigitOnes : Addr) (w_DigitTens : Addr) (zc : Int32) (fm : Value) (k_ones : ClassId) (k_tens : ClassId) (h0 : Heap) (n0 : Nat) (v : Option Value) (h : Heap) : Prop :=
  (∃ (an : Addr) (kn : ClassId), v = none ∧ Keep h0 h [a1] ∧ Fld Z h a1 "java/lang/AbstractStringBuilder" "value" "[B" (.ref an) ∧ Fld Z h a1 "java/lang/AbstractStringBuilder" "coder" "B" (.int (0 : Int32)) ∧ Fld Z h a1 "java/lang/AbstractStringBuilder" "count" "I" (.int (Int32.ofNat ([] : List Int32).length)) ∧ h0.size ≤ an ∧ Exa Z h an "[B" ∧ Arv Z h an kn .byte (16 : Int32) (bl ([] : List Int32) ++ (List.replicate 16 (Value.int (0 : Int32)))) (.int (0 : Int32)))
theorem ef_9 (m : MethodId) (a1 : Addr) : entryFrame m #[(.ref a1), (.int (16 : Int32))] 2 = mkF m 0 #[.val (.ref a1), .val (.int (16 : Int32))] [] := by first | (simp [entryFrame, mkF, argsToLocals, Value.category]; done) | rfl
set_option maxRecDepth 65536 in
set_option maxHeartbeats 40000000 in
theorem rm9 (l : Launch) (Z : State) (a0 : Array Value) (hw : ∀ d ∈ tables_1, d.before a0 Z = true) (ws : List Jvm.Cond) (a1 : Addr) (u1 : Value) (u2 : Value) (w_DigitOnes : Addr) (w_DigitTens : Addr) (zc : Int32) (fm : Value) (k_ones : ClassId) (k_tens : ClassId) (h0 : Heap) (n0 : Nat) (O0 : Old Z n0 h0) (SF : Start Z w_DigitOnes w_DigitTens zc fm k_ones k_tens) (f0 : Exa Z h0 a1 "java/lang/StringBuilder") (f1 : Fld Z h0 a1 "java/lang/AbstractStringBuilder" "value" "[B" u1) (f2 : Fld Z h0 a1 "java/lang/AbstractStringBuilder" "coder" "B" u2) (f3 : Fld Z h0 a1 "java/lang/AbstractStringBuilder" "count" "I" (.int (0 : Int32))) (f4 : n0 ≤ a1) :
    Meets l (⟨"java/lang/AbstractStringBuilder", "<init>", "(I)V"⟩ : MethodName) jdk_68_method_2_code 2 none ws ({ frames := 1, cells := 1, slots := 16, locals := 12 } : Room) ({ frames := 1, cells := 1, slots := 16, locals := 12 } : Room).cells ({ frames := 1, cells := 1, slots := 16, locals := 12 } : Room).slots Z #[(.ref a1), (.int (16 : Int32))] h0 n0 (Q9 Z a1 u1 u2 w_DigitOnes w_DigitTens zc fm k_ones k_tens h0 n0) := by
  refine Meets.of (F := fun m => mkF m 0 #[.val (.ref a1), .val (.int (16 : Int32))] []) (plainFor_of_name pn_1) (fun m => ef_9 m a1) ?_
  intro p e s m below meth c T0 hx hby hml hown0 hnm hret hlk hZ X0 e0
  have hown : s.vm.findClass "java/lang/AbstractStringBuilder" = some m.cls := hown0
  have N0 := Fr.nil n0
  have KC0 := Keep.refl h0 [a1]
  obtain ⟨z0, z1, z2, z3, z4, z5, z6, hzc, z8, hfm, -⟩ := SF
  show Goes _ _ _ _ _ _ (T0.setTop (mkF m 0 #[.val (.ref a1), .val (.int (16 : Int32))] []))
  refine own_aloadN X0 hx (hb hby d9_0) rfl rfl ?_
  refine own_initO X0 hx hZ hown (own_w hw 46 rfl) (own_w hw 12 rfl) (own_w hw 13 rfl) e0 (by rw [hml]; rfl) (hb hby d9_1) (by decide) (W := 0) (Nat.le_of_eq rfl) (by decide) (fun T1 X1 e1 => ?_)
  refine own_getS X1 hx hZ hown (host := "") (Or.inl (own_w hw 47 rfl)) Via.refl e1 (z6.ext O0.2) (hb hby d9_4) (fun T2 X2 e2 => ?_)
  refine own_ifNo X2 hx (hb hby d9_7) ((if0 _ _).trans (feq (hzc : ¬ (zc = (0 : Int32)))).1) ?_
  refine own_aloadN X2 hx (hb hby d9_10) rfl rfl ?_
  refine own_iloadN X2 hx (hb hby d9_11) rfl ?_
  refine own_newPE X2 hx hZ (own_w hw 19 rfl) e2 (ad := "[B") (by decide +kernel) (hb hby d9_12) (by decide) (cap := 16) (by decide) (by decide) (by decide) (by decide) (fun T3 h3 b3 k3 g3 X3 e3 E3 A3 B3 => ?_)
  have ne_a1_b3 : a1 ≠ b3 := Nat.ne_of_lt (Nat.lt_of_lt_of_le f0.lt (Nat.le_of_eq g3.symm))
  have ge_b3 : n0 ≤ b3 := Nat.le_trans (own_sz O0) (Nat.le_of_eq g3.symm)
  have sz_b3 : h0.size ≤ b3 := Nat.le_trans KC0.1 (Nat.le_of_eq g3.symm)
  have E4_a1 := f0.ext E3
  have F4_value_a1 := f1.ext E3
  have F4_coder_a1 := f2.ext E3
  have F4_count_a1 := f3.ext E3
  have O4 := O0.ext E3
  have KC4 := KC0.ext E3
  have V3 : Arv Z h3 b3 k3 .byte (16 : Int32) [(.int (0 : Int32)), (.int (0 : Int32)), (.int (0 : Int32)), (.int (0 : Int32)), (.int (0 : Int32)), (.int (0 : Int32)), (.int (0 : Int32)), (.int (0 : Int32)), (.int (0 : Int32)), (.int (0 : Int32)), (.int (0 : Int32)), (.int (0 : Int32)), (.int (0 : Int32)), (.int (0 : Int32)), (.int (0 : Int32)), (.int (0 : Int32))] (.int (0 : Int32)) := A3.pad (pad_rep [] (.int (0 : Int32)) 16)
  refine own_putF X3 hx hZ hown N0 (host := "") (Or.inl (own_w hw 48 rfl)) Via.refl e3 F4_value_a1 E4_a1 (Or.inl (own_w hw 49 rfl)) (own_w hw 35 rfl) (ty := (.array .byte)) (by decide) rfl rfl f4 (hb hby d9_14) (fun T5 h5 lc5 X5 e5 N5 W5 => ?_)
  have E6_a1 := E4_a1.wr W5
  have E6_b3 := B3.wr W5
  have F6_value_a1 := F4_value_a1.same W5
  have F6_coder_a1 := F4_coder_a1.other W5 (Or.inr (slot_ne (Or.inl (own_w hw 51 rfl)) (Or.inl (own_w hw 49 rfl)) (by decide) (t := .byte) (t' := (.array .byte)) (by decide) (by decide)))
  have F6_count_a1 := F4_count_a1.other W5 (Or.inr (slot_ne (Or.inl (own_w hw 73 rfl)) (Or.inl (own_w hw 49 rfl)) (by decide) (t := .int) (t' := (.array .byte)) (by decide) (by decide)))
  have A6_b3 := V3.other W5 (Ne.symm ne_a1_b3)
  have O6 := O4.wr W5 f4
  have KC6 := KC4.wr W5 (Or.inl (List.mem_of_getElem? (i := 0) rfl))
  refine own_aloadN X5 hx (hb hby d9_17) rfl rfl ?_
  refine own_iconst X5 hx (v := (0 : Int32)) (hb hby d9_18) rfl ?_
  refine own_putF X5 hx hZ hown N5 (host := "") (Or.inl (own_w hw 50 rfl)) Via.refl e5 F6_coder_a1 E6_a1 (Or.inl (own_w hw 51 rfl)) (own_w hw 35 rfl) (ty := .byte) (by decide) rfl rfl f4 (hb hby d9_19) (fun T7 h7 lc7 X7 e7 N7 W7 => ?_)
  have E8_b3 := E6_b3.wr W7
  have F8_value_a1 := F6_value_a1.other W7 (Or.inr (slot_ne (Or.inl (own_w hw 49 rfl)) (Or.inl (own_w hw 51 rfl)) (by decide) (t := (.array .byte)) (t' := .byte) (by decide) (by decide)))
  have F8_coder_a1 := F6_coder_a1.same W7
  have F8_count_a1 := F6_count_a1.other W7 (Or.inr (slot_ne (Or.inl (own_w hw 73 rfl)) (Or.inl (own_w hw 51 rfl)) (by decide) (t := .int) (t' := .byte) (by decide) (by decide)))
  have A8_b3 := A6_b3.other W7 (Ne.symm ne_a1_b3)
  have O8 := O6.wr W7 f4
  have KC8 := KC6.wr W7 (Or.inl (List.mem_of_getElem? (i := 0) rfl))
  refine own_goto X7 hx (pc' := 38) (hb hby d9_22) (by decide) (by decide) ?_
  show Goes _ _ _ _ _ _ (T7.setTop (mkF m 38 #[.val (.ref a1), .val (.int (16 : Int32))] []))
  exact own_retV X7 hx N7 hlk (by decide) (by decide) hret (hb hby d9_38) (by rw [e7]; exact ⟨b3, k3, rfl, KC8, F8_value_a1, F8_coder_a1, F8_count_a1, sz_b3, E8_b3, A8_b3⟩)
theorem d8_0 : decode jdk_67_method_1_code 0 = .ok (.aload_n 0, 1) := by decide +kernel
theorem d8_1 : decode jdk_67_method_1_code 1 = .ok (.bipush 16, 2) := by decide +kernel
theorem d8_3 : decode jdk_67_method_1_code 3 = .ok (.invokespecial 1, 3) := by decide +kernel
theorem pd_1 : parseMethodDescriptor "(I)V" = some ⟨[.int], none⟩ := by decide +kernel
theorem d8_6 : decode jdk_67_method_1_code 6 = .ok (.return_, 1) := by decide +kernel
theorem pn_2 : plainName "java/lang/StringBuilder" = true := by first | (simp [plainName, overriddenIn]; done) | decide +kernel
def Q8 (Z : State) (a1 : Addr) (u1 : Value) (u2 : Value) (w_DigitOnes : Addr) (w_DigitTens : Addr) (zc : Int32) (fm : Value) (k_ones : ClassId) (k_tens : ClassId) (h0 : Heap) (n0 : Nat) (v : Option Value) (h : Heap) : Prop :=
  (∃ (an : Addr) (kn : ClassId), v = none ∧ Keep h0 h [a1] ∧ Fld Z h a1 "java/lang/AbstractStringBuilder" "value" "[B" (.ref an) ∧ Fld Z h a1 "java/lang/AbstractStringBuilder" "coder" "B" (.int (0 : Int32)) ∧ Fld Z h a1 "java/lang/AbstractStringBuilder" "count" "I" (.int (Int32.ofNat ([] : List Int32).length)) ∧ h0.size ≤ an ∧ Exa Z h an "[B" ∧ Arv Z h an kn .byte (16 : Int32) (bl ([] : List Int32) ++ (List.replicate 16 (Value.int (0 : Int32)))) (.int (0 : Int32)))
theorem ef_8 (m : MethodId) (a1 : Addr) : entryFrame m #[(.ref a1)] 1 = mkF m 0 #[.val (.ref a1)] [] := by first | (simp [entryFrame, mkF, argsToLocals, Value.category]; done) | rfl
set_option maxRecDepth 65536 in
set_option maxHeartbeats 40000000 in
theorem rm8 (l : Launch) (Z : State) (a0 : Array Value) (hw : ∀ d ∈ tables_1, d.before a0 Z = true) (ws : List Jvm.Cond) (a1 : Addr) (u1 : Value) (u2 : Value) (w_DigitOnes : Addr) (w_DigitTens : Addr) (zc : Int32) (fm : Value) (k_ones : ClassId) (k_tens : ClassId) (h0 : Heap) (n0 : Nat) (O0 : Old Z n0 h0) (SF : Start Z w_DigitOnes w_DigitTens zc fm k_ones k_tens) (f0 : Exa Z h0 a1 "java/lang/StringBuilder") (f1 : Fld Z h0 a1 "java/lang/AbstractStringBuilder" "value" "[B" u1) (f2 : Fld Z h0 a1 "java/lang/AbstractStringBuilder" "coder" "B" u2) (f3 : Fld Z h0 a1 "java/lang/AbstractStringBuilder" "count" "I" (.int (0 : Int32))) (f4 : n0 ≤ a1) :
    Meets l (⟨"java/lang/StringBuilder", "<init>", "()V"⟩ : MethodName) jdk_67_method_1_code 1 none ws ({ frames := 2, cells := 1, slots := 16, locals := 25 } : Room) ({ frames := 2, cells := 1, slots := 16, locals := 25 } : Room).cells ({ frames := 2, cells := 1, slots := 16, locals := 25 } : Room).slots Z #[(.ref a1)] h0 n0 (Q8 Z a1 u1 u2 w_DigitOnes w_DigitTens zc fm k_ones k_tens h0 n0) := by
  refine Meets.of (F := fun m => mkF m 0 #[.val (.ref a1)] []) (plainFor_of_name pn_2) (fun m => ef_8 m a1) ?_
  intro p e s m below meth c T0 hx hby hml hown0 hnm hret hlk hZ X0 e0
  have hown : s.vm.findClass "java/lang/StringBuilder" = some m.cls := hown0
  have N0 := Fr.nil n0
  have KC0 := Keep.refl h0 [a1]
  obtain ⟨z0, z1, z2, z3, z4, z5, z6, hzc, z8, hfm, -⟩ := SF
  show Goes _ _ _ _ _ _ (T0.setTop (mkF m 0 #[.val (.ref a1)] []))
  refine own_aloadN X0 hx (hb hby d8_0) rfl rfl ?_
  refine own_bipush X0 hx (v := (16 : Int32)) (hb hby d8_1) rfl ?_
  refine own_special X0 hx hZ hown (y := (⟨"java/lang/AbstractStringBuilder", "<init>", "(I)V"⟩ : MethodName)) rfl (own_w hw 40 rfl) (own_w hw 41 rfl) (own_w hw 44 rfl) (own_w hw 45 rfl) (a := a1) (by decide) (W := 0) (by decide) (by decide) N0 e0 (by rw [hml]; rfl) (argsL := [(.int (16 : Int32))]) (rest := []) (lenOf pd_1 rfl) (Nat.le_of_eq rfl) (by decide) (by decide) (rm9 l Z a0 hw [] a1 (u1) (u2) w_DigitOnes w_DigitTens zc fm k_ones k_tens h0 n0 O0 ⟨z0, z1, z2, z3, z4, z5, z6, hzc, z8, hfm, trivial⟩ f0 f1 f2 f3 f4) rfl (hb hby d8_3) ?_
  intro v1 T1 lc1 X1 N1 hQ1
  obtain ⟨an_1, kn_1, rfl, K1, r1_0, r1_1, r1_2, r1_3, r1_4, r1_5⟩ := hQ1
  have O2 := O0.keep K1 (allS f4 all0)
  have KC2 := KC0.trans K1 (allS (Or.inl (List.mem_of_getElem? (i := 0) rfl)) all0)
  have ge_an_1 : n0 ≤ an_1 := Nat.le_trans (own_sz O0) r1_3
  have sz_an_1 : h0.size ≤ an_1 := Nat.le_trans KC0.1 r1_3
  show Goes _ _ _ _ _ _ (T1.setTop (mkF m 6 #[.val (.ref a1)] []))
  exact own_retV X1 hx N1 hlk (by decide) (by decide) hret (hb hby d8_6) (⟨an_1, kn_1, rfl, KC2, r1_0, r1_1, r1_2, sz_an_1, r1_4, r1_5⟩)
theorem d33_0 : decode jdk_29_method_69_code 0 = .ok (.iload_n 0, 1) := by decide +kernel
theorem d33_1 : decode jdk_29_method_69_code 1 = .ok (.iload_n 1, 1) := by decide +kernel
theorem d33_2 : decode jdk_29_method_69_code 2 = .ok (.if_icmp .gt 7, 3) := by decide +kernel
theorem d33_5 : decode jdk_29_method_69_code 5 = .ok (.iload_n 0, 1) := by decide +kernel
theorem d33_6 : decode jdk_29_method_69_code 6 = .ok (.goto 4, 3) := by decide +kernel
theorem d33_10 : decode jdk_29_method_69_code 10 = .ok (.ireturn, 1) := by decide +kernel
def Q33g (Z : State) (h0 : Heap) (n0 : Nat) (v : Option Value) (h : Heap) : Prop :=
  (v = some (.int (16 : Int32)) ∧ h = h0)
theorem ef_33g (m : MethodId) : entryFrame m #[(.int (16 : Int32)), (.int (34 : Int32))] 2 = mkF m 0 #[.val (.int (16 : Int32)), .val (.int (34 : Int32))] [] := by first | (simp [entryFrame, mkF, argsToLocals, Value.category]; done) | rfl
set_option maxRecDepth 65536 in
set_option maxHeartbeats 40000000 in
theorem rm33g (l : Launch) (Z : State) (a0 : Array Value) (hw : ∀ d ∈ tables_1, d.before a0 Z = true) (ws : List Jvm.Cond) (h0 : Heap) (n0 : Nat) (O0 : Old Z n0 h0) :
    Meets l (⟨"java/lang/Math", "min", "(II)I"⟩ : MethodName) jdk_29_method_69_code 2 (some .int) ws ({ frames := 0, cells := 0, slots := 0, locals := 0 } : Room) ({ frames := 0, cells := 0, slots := 0, locals := 0 } : Room).cells ({ frames := 0, cells := 0, slots := 0, locals := 0 } : Room).slots Z #[(.int (16 : Int32)), (.int (34 : Int32))] h0 n0 (Q33g Z h0 n0) := by
  refine Meets.of (F := fun m => mkF m 0 #[.val (.int (16 : Int32)), .val (.int (34 : Int32))] []) (Jvm.Free.JP.mathPlain rfl (by decide +kernel)) (fun m => ef_33g m) ?_
  intro p e s m below meth c T0 hx hby hml hown0 hnm hret hlk hZ X0 e0
  have hown : s.vm.findClass "java/lang/Math" = some m.cls := hown0
  have N0 := Fr.nil n0
  show Goes _ _ _ _ _ _ (T0.setTop (mkF m 0 #[.val (.int (16 : Int32)), .val (.int (34 : Int32))] []))
  refine own_iloadN X0 hx (hb hby d33_0) rfl ?_
  refine own_iloadN X0 hx (hb hby d33_1) rfl ?_
  refine own_icmpNo X0 hx (hb hby d33_2) (flt (by decide : ¬ ((34 : Int32) < (16 : Int32)))).2.2.1 ?_
  refine own_iloadN X0 hx (hb hby d33_5) rfl ?_
  refine own_goto X0 hx (pc' := 10) (hb hby d33_6) (by decide) (by decide) ?_
  show Goes _ _ _ _ _ _ (T0.setTop (mkF m 10 #[.val (.int (16 : Int32)), .val (.int (34 : Int32))] [(.int (16 : Int32))]))
  exact own_retI X0 hx N0 hlk (by decide) (by decide) hret (hb hby d33_10) (by rw [e0]; exact ⟨rfl, rfl⟩)
theorem d33_9 : decode jdk_29_method_69_code 9 = .ok (.iload_n 1, 1) := by decide +kernel
def Q33r (Z : State) (p1 : Int32) (p2 : Int32) (h0 : Heap) (n0 : Nat) (v : Option Value) (h : Heap) : Prop :=
  (v = some (.int p2) ∧ h = h0)
theorem ef_33r (m : MethodId) (p1 : Int32) (p2 : Int32) : entryFrame m #[(.int p1), (.int p2)] 2 = mkF m 0 #[.val (.int p1), .val (.int p2)] [] := by first | (simp [entryFrame, mkF, argsToLocals, Value.category]; done) | rfl
set_option maxRecDepth 65536 in
set_option maxHeartbeats 40000000 in
theorem rm33r (l : Launch) (Z : State) (a0 : Array Value) (hw : ∀ d ∈ tables_1, d.before a0 Z = true) (ws : List Jvm.Cond) (p1 : Int32) (p2 : Int32) (h0 : Heap) (n0 : Nat) (O0 : Old Z n0 h0) (hq : ¬ (p1 < p2)) :
    Meets l (⟨"java/lang/Math", "min", "(II)I"⟩ : MethodName) jdk_29_method_69_code 2 (some .int) ws ({ frames := 0, cells := 0, slots := 0, locals := 0 } : Room) ({ frames := 0, cells := 0, slots := 0, locals := 0 } : Room).cells ({ frames := 0, cells := 0, slots := 0, locals := 0 } : Room).slots Z #[(.int p1), (.int p2)] h0 n0 (Q33r Z p1 p2 h0 n0) := by
  refine Meets.of (F := fun m => mkF m 0 #[.val (.int p1), .val (.int p2)] []) (Jvm.Free.JP.mathPlain rfl (by decide +kernel)) (fun m => ef_33r m p1 p2) ?_
  intro p e s m below meth c T0 hx hby hml hown0 hnm hret hlk hZ X0 e0
  have hown : s.vm.findClass "java/lang/Math" = some m.cls := hown0
  have N0 := Fr.nil n0
  show Goes _ _ _ _ _ _ (T0.setTop (mkF m 0 #[.val (.int p1), .val (.int p2)] []))
  refine own_iloadN X0 hx (hb hby d33_0) rfl ?_
  refine own_iloadN X0 hx (hb hby d33_1) rfl ?_
  by_cases hc2_1 : p2 < p1
  ·
    refine own_icmpYes X0 hx (pc' := 9) (hb hby d33_2) (tlt (hc2_1 : p2 < p1)).2.2.1 (by decide) (by decide) ?_
    refine own_iloadN X0 hx (hb hby d33_9) rfl ?_
    show Goes _ _ _ _ _ _ (T0.setTop (mkF m 10 #[.val (.int p1), .val (.int p2)] [(.int p2)]))
    exact own_retI X0 hx N0 hlk (by decide) (by decide) hret (hb hby d33_10) (by rw [e0]; exact ⟨rfl, rfl⟩)
  ·
    refine own_icmpNo X0 hx (hb hby d33_2) (flt (hc2_1 : ¬ (p2 < p1))).2.2.1 ?_
    refine own_iloadN X0 hx (hb hby d33_5) rfl ?_
    refine own_goto X0 hx (pc' := 10) (hb hby d33_6) (by decide) (by decide) ?_
    show Goes _ _ _ _ _ _ (T0.setTop (mkF m 10 #[.val (.int p1), .val (.int p2)] [(.int p1)]))
    exact own_retI X0 hx N0 hlk (by decide) (by decide) hret (hb hby d33_10) (by rw [e0]; exact ⟨(congrArg (fun z => some (Value.int z)) (own_anti hc2_1 hq)), rfl⟩)
theorem d47_0 : decode jdk_29_method_65_code 0 = .ok (.iload_n 0, 1) := by decide +kernel
theorem d47_1 : decode jdk_29_method_65_code 1 = .ok (.iload_n 1, 1) := by decide +kernel
theorem d47_2 : decode jdk_29_method_65_code 2 = .ok (.if_icmp .lt 7, 3) := by decide +kernel
theorem d47_9 : decode jdk_29_method_65_code 9 = .ok (.iload_n 1, 1) := by decide +kernel
theorem d47_10 : decode jdk_29_method_65_code 10 = .ok (.ireturn, 1) := by decide +kernel
theorem d47_5 : decode jdk_29_method_65_code 5 = .ok (.iload_n 0, 1) := by decide +kernel
theorem d47_6 : decode jdk_29_method_65_code 6 = .ok (.goto 4, 3) := by decide +kernel
def Q47 (Z : State) (p1 : Int32) (p2 : Int32) (h0 : Heap) (n0 : Nat) (v : Option Value) (h : Heap) : Prop :=
  (v = some (.int p2) ∧ h = h0)
theorem ef_47 (m : MethodId) (p1 : Int32) (p2 : Int32) : entryFrame m #[(.int p1), (.int p2)] 2 = mkF m 0 #[.val (.int p1), .val (.int p2)] [] := by first | (simp [entryFrame, mkF, argsToLocals, Value.category]; done) | rfl
set_option maxRecDepth 65536 in
set_option maxHeartbeats 40000000 in
theorem rm47 (l : Launch) (Z : State) (a0 : Array Value) (hw : ∀ d ∈ tables_1, d.before a0 Z = true) (ws : List Jvm.Cond) (p1 : Int32) (p2 : Int32) (h0 : Heap) (n0 : Nat) (O0 : Old Z n0 h0) (hq : ¬ (p2 < p1)) :
    Meets l (⟨"java/lang/Math", "max", "(II)I"⟩ : MethodName) jdk_29_method_65_code 2 (some .int) ws ({ frames := 0, cells := 0, slots := 0, locals := 0 } : Room) ({ frames := 0, cells := 0, slots := 0, locals := 0 } : Room).cells ({ frames := 0, cells := 0, slots := 0, locals := 0 } : Room).slots Z #[(.int p1), (.int p2)] h0 n0 (Q47 Z p1 p2 h0 n0) := by
  refine Meets.of (F := fun m => mkF m 0 #[.val (.int p1), .val (.int p2)] []) (Jvm.Free.JP.mathPlain rfl (by decide +kernel)) (fun m => ef_47 m p1 p2) ?_
  intro p e s m below meth c T0 hx hby hml hown0 hnm hret hlk hZ X0 e0
  have hown : s.vm.findClass "java/lang/Math" = some m.cls := hown0
  have N0 := Fr.nil n0
  show Goes _ _ _ _ _ _ (T0.setTop (mkF m 0 #[.val (.int p1), .val (.int p2)] []))
  refine own_iloadN X0 hx (hb hby d47_0) rfl ?_
  refine own_iloadN X0 hx (hb hby d47_1) rfl ?_
  by_cases hc2_1 : p1 < p2
  ·
    refine own_icmpYes X0 hx (pc' := 9) (hb hby d47_2) (tlt (hc2_1 : p1 < p2)).1 (by decide) (by decide) ?_
    refine own_iloadN X0 hx (hb hby d47_9) rfl ?_
    show Goes _ _ _ _ _ _ (T0.setTop (mkF m 10 #[.val (.int p1), .val (.int p2)] [(.int p2)]))
    exact own_retI X0 hx N0 hlk (by decide) (by decide) hret (hb hby d47_10) (by rw [e0]; exact ⟨rfl, rfl⟩)
  ·
    refine own_icmpNo X0 hx (hb hby d47_2) (flt (hc2_1 : ¬ (p1 < p2))).1 ?_
    refine own_iloadN X0 hx (hb hby d47_5) rfl ?_
    refine own_goto X0 hx (pc' := 10) (hb hby d47_6) (by decide) (by decide) ?_
    show Goes _ _ _ _ _ _ (T0.setTop (mkF m 10 #[.val (.int p1), .val (.int p2)] [(.int p1)]))
    exact own_retI X0 hx N0 hlk (by decide) (by decide) hret (hb hby d47_10) (by rw [e0]; exact ⟨(congrArg (fun z => some (Value.int z)) (own_anti hq hc2_1)), rfl⟩)
theorem d46_0 : decode jdk_48_method_27_code 0 = .ok (.iload_n 0, 1) := by decide +kernel
theorem d46_1 : decode jdk_48_method_27_code 1 = .ok (.iload_n 1, 1) := by decide +kernel
theorem d46_2 : decode jdk_48_method_27_code 2 = .ok (.iload_n 2, 1) := by decide +kernel
theorem d46_3 : decode jdk_48_method_27_code 3 = .ok (.invokestatic 194, 3) := by decide +kernel
theorem pd_2 : parseMethodDescriptor "(II)I" = some ⟨[.int, .int], some .int⟩ := by decide +kernel
theorem d46_6 : decode jdk_48_method_27_code 6 = .ok (.iadd, 1) := by decide +kernel
theorem d46_7 : decode jdk_48_method_27_code 7 = .ok (.istore_n 3, 1) := by decide +kernel
theorem d46_8 : decode jdk_48_method_27_code 8 = .ok (.iconst 0, 1) := by decide +kernel
theorem d46_9 : decode jdk_48_method_27_code 9 = .ok (.iload_n 3, 1) := by decide +kernel
theorem d46_10 : decode jdk_48_method_27_code 10 = .ok (.if_icmp .ge 11, 3) := by decide +kernel
theorem d46_13 : decode jdk_48_method_27_code 13 = .ok (.iload_n 3, 1) := by decide +kernel
theorem d46_14 : decode jdk_48_method_27_code 14 = .ok (.ldc 200, 2) := by decide +kernel
theorem d46_16 : decode jdk_48_method_27_code 16 = .ok (.if_icmp .gt 5, 3) := by decide +kernel
theorem d46_19 : decode jdk_48_method_27_code 19 = .ok (.iload_n 3, 1) := by decide +kernel
theorem d46_20 : decode jdk_48_method_27_code 20 = .ok (.ireturn, 1) := by decide +kernel
theorem pn_3 : plainName "jdk/internal/util/ArraysSupport" = true := by first | (simp [plainName, overriddenIn]; done) | decide +kernel
def Q46 (Z : State) (p2 : Int32) (h0 : Heap) (n0 : Nat) (v : Option Value) (h : Heap) : Prop :=
  (v = some (.int (34 : Int32)) ∧ h = h0)
theorem ef_46 (m : MethodId) (p2 : Int32) : entryFrame m #[(.int (16 : Int32)), (.int p2), (.int (18 : Int32))] 4 = mkF m 0 #[.val (.int (16 : Int32)), .val (.int p2), .val (.int (18 : Int32)), .unset] [] := by first | (simp [entryFrame, mkF, argsToLocals, Value.category]; done) | rfl
set_option maxRecDepth 65536 in
set_option maxHeartbeats 40000000 in
theorem rm46 (l : Launch) (Z : State) (a0 : Array Value) (hw : ∀ d ∈ tables_1, d.before a0 Z = true) (ws : List Jvm.Cond) (p2 : Int32) (h0 : Heap) (n0 : Nat) (O0 : Old Z n0 h0) (hq : ¬ ((18 : Int32) < p2)) :
    Meets l (⟨"jdk/internal/util/ArraysSupport", "newLength", "(III)I"⟩ : MethodName) jdk_48_method_27_code 4 (some .int) ws ({ frames := 1, cells := 0, slots := 0, locals := 14 } : Room) ({ frames := 1, cells := 0, slots := 0, locals := 14 } : Room).cells ({ frames := 1, cells := 0, slots := 0, locals := 14 } : Room).slots Z #[(.int (16 : Int32)), (.int p2), (.int (18 : Int32))] h0 n0 (Q46 Z p2 h0 n0) := by
  refine Meets.of (F := fun m => mkF m 0 #[.val (.int (16 : Int32)), .val (.int p2), .val (.int (18 : Int32)), .unset] []) (plainFor_of_name pn_3) (fun m => ef_46 m p2) ?_
  intro p e s m below meth c T0 hx hby hml hown0 hnm hret hlk hZ X0 e0
  have hown : s.vm.findClass "jdk/internal/util/ArraysSupport" = some m.cls := hown0
  have N0 := Fr.nil n0
  show Goes _ _ _ _ _ _ (T0.setTop (mkF m 0 #[.val (.int (16 : Int32)), .val (.int p2), .val (.int (18 : Int32)), .unset] []))
  refine own_iloadN X0 hx (hb hby d46_0) rfl ?_
  refine own_iloadN X0 hx (hb hby d46_1) rfl ?_
  refine own_iloadN X0 hx (hb hby d46_2) rfl ?_
  refine own_callS X0 hx hZ hown (y := (⟨"java/lang/Math", "max", "(II)I"⟩ : MethodName)) (own_w hw 228 rfl) (own_w hw 229 rfl) (own_w hw 165 rfl) (own_w hw 230 rfl) (by decide) (W := 1) (by decide) (by decide) N0 e0 (by rw [hml]; rfl) (argsL := [(.int p2), (.int (18 : Int32))]) (rest := [(.int (16 : Int32))]) (lenOf pd_2 rfl) (Nat.le_of_eq rfl) (by decide) (by decide) (rm47 l Z a0 hw [] p2 (18 : Int32) h0 n0 O0 hq) rfl (hb hby d46_3) ?_
  intro v1 T1 lc1 X1 N1 hQ1
  obtain ⟨rfl, e1⟩ := hQ1
  refine own_iadd X1 hx (hb hby d46_6) ?_
  show Goes _ _ _ _ _ _ (T1.setTop (mkF m 7 #[.val (.int (16 : Int32)), .val (.int p2), .val (.int (18 : Int32)), .unset] [(.int ((16 : Int32) + (18 : Int32)))]))
  rw [show ((16 : Int32) + (18 : Int32)) = (34 : Int32) by decide]
  refine own_istoreN X1 hx (Ls' := #[.val (.int (16 : Int32)), .val (.int p2), .val (.int (18 : Int32)), .val (.int (34 : Int32))]) (hb hby d46_7) rfl ?_
  refine own_iconst X1 hx (v := (0 : Int32)) (hb hby d46_8) rfl ?_
  refine own_iloadN X1 hx (hb hby d46_9) rfl ?_
  refine own_icmpNo X1 hx (hb hby d46_10) (tlt (by decide : (0 : Int32) < (34 : Int32))).2.1 ?_
  refine own_iloadN X1 hx (hb hby d46_13) rfl ?_
  refine own_ldcInt X1 hx hZ hown (own_w hw 231 rfl) (hb hby d46_14) ?_
  refine own_icmpNo X1 hx (hb hby d46_16) (flt (by decide : ¬ ((2147483639 : Int32) < (34 : Int32)))).2.2.1 ?_
  refine own_iloadN X1 hx (hb hby d46_19) rfl ?_
  show Goes _ _ _ _ _ _ (T1.setTop (mkF m 20 #[.val (.int (16 : Int32)), .val (.int p2), .val (.int (18 : Int32)), .val (.int (34 : Int32))] [(.int (34 : Int32))]))
  exact own_retI X1 hx N1 hlk (by decide) (by decide) hret (hb hby d46_20) (by rw [e1]; exact ⟨rfl, rfl⟩)
theorem d45_0 : decode jdk_68_method_10_code 0 = .ok (.aload_n 0, 1) := by decide +kernel
theorem d45_1 : decode jdk_68_method_10_code 1 = .ok (.getfield 15, 3) := by decide +kernel
theorem d45_4 : decode jdk_68_method_10_code 4 = .ok (.arraylength, 1) := by decide +kernel
theorem d45_5 : decode jdk_68_method_10_code 5 = .ok (.istore_n 2, 1) := by decide +kernel
theorem d45_6 : decode jdk_68_method_10_code 6 = .ok (.iload_n 1, 1) := by decide +kernel
theorem d45_7 : decode jdk_68_method_10_code 7 = .ok (.aload_n 0, 1) := by decide +kernel
theorem d45_8 : decode jdk_68_method_10_code 8 = .ok (.getfield 22, 3) := by decide +kernel
theorem d45_11 : decode jdk_68_method_10_code 11 = .ok (.ishl, 1) := by decide +kernel
theorem d45_12 : decode jdk_68_method_10_code 12 = .ok (.istore_n 3, 1) := by decide +kernel
theorem d45_13 : decode jdk_68_method_10_code 13 = .ok (.iload_n 3, 1) := by decide +kernel
theorem d45_14 : decode jdk_68_method_10_code 14 = .ok (.iload_n 2, 1) := by decide +kernel
theorem d45_15 : decode jdk_68_method_10_code 15 = .ok (.isub, 1) := by decide +kernel
theorem d45_16 : decode jdk_68_method_10_code 16 = .ok (.istore 4, 2) := by decide +kernel
theorem d45_18 : decode jdk_68_method_10_code 18 = .ok (.iload_n 2, 1) := by decide +kernel
theorem d45_19 : decode jdk_68_method_10_code 19 = .ok (.iload 4, 2) := by decide +kernel
theorem d45_21 : decode jdk_68_method_10_code 21 = .ok (.iload_n 2, 1) := by decide +kernel
theorem d45_22 : decode jdk_68_method_10_code 22 = .ok (.iconst 2, 1) := by decide +kernel
theorem d45_23 : decode jdk_68_method_10_code 23 = .ok (.aload_n 0, 1) := by decide +kernel
theorem d45_24 : decode jdk_68_method_10_code 24 = .ok (.getfield 22, 3) := by decide +kernel
theorem d45_27 : decode jdk_68_method_10_code 27 = .ok (.ishl, 1) := by decide +kernel
theorem d45_28 : decode jdk_68_method_10_code 28 = .ok (.iadd, 1) := by decide +kernel
theorem d45_29 : decode jdk_68_method_10_code 29 = .ok (.invokestatic 114, 3) := by decide +kernel
theorem pd_3 : parseMethodDescriptor "(III)I" = some ⟨[.int, .int, .int], some .int⟩ := by decide +kernel
theorem d45_32 : decode jdk_68_method_10_code 32 = .ok (.istore 5, 2) := by decide +kernel
theorem d45_34 : decode jdk_68_method_10_code 34 = .ok (.iload 5, 2) := by decide +kernel
theorem d45_36 : decode jdk_68_method_10_code 36 = .ok (.ldc 39, 2) := by decide +kernel
theorem d45_38 : decode jdk_68_method_10_code 38 = .ok (.if_icmp .ne 13, 3) := by decide +kernel
theorem d45_51 : decode jdk_68_method_10_code 51 = .ok (.iload 5, 2) := by decide +kernel
theorem d45_53 : decode jdk_68_method_10_code 53 = .ok (.aload_n 0, 1) := by decide +kernel
theorem d45_54 : decode jdk_68_method_10_code 54 = .ok (.getfield 22, 3) := by decide +kernel
theorem d45_57 : decode jdk_68_method_10_code 57 = .ok (.ishr, 1) := by decide +kernel
theorem d45_58 : decode jdk_68_method_10_code 58 = .ok (.ireturn, 1) := by decide +kernel
def Q45 (Z : State) (a1 : Addr) (p2 : Int32) (a : Addr) (kd : ClassId) (vs : List Value) (mn : Nat) (h0 : Heap) (n0 : Nat) (v : Option Value) (h : Heap) : Prop :=
  (v = some (.int (34 : Int32)) ∧ h = h0)
theorem ef_45 (m : MethodId) (a1 : Addr) (p2 : Int32) : entryFrame m #[(.ref a1), (.int p2)] 6 = mkF m 0 #[.val (.ref a1), .val (.int p2), .unset, .unset, .unset, .unset] [] := by first | (simp [entryFrame, mkF, argsToLocals, Value.category]; done) | rfl
set_option maxRecDepth 65536 in
set_option maxHeartbeats 40000000 in
theorem rm45 (l : Launch) (Z : State) (a0 : Array Value) (hw : ∀ d ∈ tables_1, d.before a0 Z = true) (ws : List Jvm.Cond) (a1 : Addr) (p2 : Int32) (a : Addr) (kd : ClassId) (vs : List Value) (mn : Nat) (h0 : Heap) (n0 : Nat) (O0 : Old Z n0 h0) (f0 : Fld Z h0 a1 "java/lang/AbstractStringBuilder" "value" "[B" (.ref a)) (f1 : Fld Z h0 a1 "java/lang/AbstractStringBuilder" "coder" "B" (.int (0 : Int32))) (f2 : Arv Z h0 a kd .byte (16 : Int32) vs (.int (0 : Int32))) (hmn : p2 = Int32.ofNat mn) (hgt : 16 < mn) (hle : mn ≤ 34) :
    Meets l (⟨"java/lang/AbstractStringBuilder", "newCapacity", "(I)I"⟩ : MethodName) jdk_68_method_10_code 6 (some .int) ws ({ frames := 2, cells := 0, slots := 0, locals := 29 } : Room) ({ frames := 2, cells := 0, slots := 0, locals := 29 } : Room).cells ({ frames := 2, cells := 0, slots := 0, locals := 29 } : Room).slots Z #[(.ref a1), (.int p2)] h0 n0 (Q45 Z a1 p2 a kd vs mn h0 n0) := by
  refine Meets.of (F := fun m => mkF m 0 #[.val (.ref a1), .val (.int p2), .unset, .unset, .unset, .unset] []) (plainFor_of_name pn_1) (fun m => ef_45 m a1 p2) ?_
  intro p e s m below meth c T0 hx hby hml hown0 hnm hret hlk hZ X0 e0
  have hown : s.vm.findClass "java/lang/AbstractStringBuilder" = some m.cls := hown0
  have N0 := Fr.nil n0
  show Goes _ _ _ _ _ _ (T0.setTop (mkF m 0 #[.val (.ref a1), .val (.int p2), .unset, .unset, .unset, .unset] []))
  refine own_aloadN X0 hx (hb hby d45_0) rfl rfl ?_
  refine own_getF X0 hx hZ hown (host := "") (Or.inl (own_w hw 48 rfl)) Via.refl e0 f0 (hb hby d45_1) (fun T1 X1 e1 => ?_)
  refine own_alen X1 hx hZ e1 f2 (hb hby d45_4) ?_
  refine own_istoreN X1 hx (Ls' := #[.val (.ref a1), .val (.int p2), .val (.int (16 : Int32)), .unset, .unset, .unset]) (hb hby d45_5) rfl ?_
  refine own_iloadN X1 hx (hb hby d45_6) rfl ?_
  refine own_aloadN X1 hx (hb hby d45_7) rfl rfl ?_
  refine own_getF X1 hx hZ hown (host := "") (Or.inl (own_w hw 50 rfl)) Via.refl e1 f1 (hb hby d45_8) (fun T2 X2 e2 => ?_)
  refine own_ishl X2 hx (hb hby d45_11) ?_
  show Goes _ _ _ _ _ _ (T2.setTop (mkF m 12 #[.val (.ref a1), .val (.int p2), .val (.int (16 : Int32)), .unset, .unset, .unset] [(.int (p2 <<< ((0 : Int32) &&& 31)))]))
  rw [own_shl0]
  refine own_istoreN X2 hx (Ls' := #[.val (.ref a1), .val (.int p2), .val (.int (16 : Int32)), .val (.int p2), .unset, .unset]) (hb hby d45_12) rfl ?_
  refine own_iloadN X2 hx (hb hby d45_13) rfl ?_
  refine own_iloadN X2 hx (hb hby d45_14) rfl ?_
  refine own_isub X2 hx (hb hby d45_15) ?_
  refine own_istore X2 hx (Ls' := #[.val (.ref a1), .val (.int p2), .val (.int (16 : Int32)), .val (.int p2), .val (.int (p2 - (16 : Int32))), .unset]) (hb hby d45_16) rfl ?_
  show Goes _ _ _ _ _ _ (T2.setTop (mkF m 18 #[.val (.ref a1), .val (.int p2), .val (.int (16 : Int32)), .val (.int p2), .val (.int (p2 - (16 : Int32))), .unset] []))
  refine own_iloadN X2 hx (hb hby d45_18) rfl ?_
  refine own_iload X2 hx (hb hby d45_19) rfl ?_
  refine own_iloadN X2 hx (hb hby d45_21) rfl ?_
  refine own_iconst X2 hx (v := (2 : Int32)) (hb hby d45_22) rfl ?_
  refine own_aloadN X2 hx (hb hby d45_23) rfl rfl ?_
  refine own_getF X2 hx hZ hown (host := "") (Or.inl (own_w hw 50 rfl)) Via.refl e2 f1 (hb hby d45_24) (fun T3 X3 e3 => ?_)
  refine own_ishl X3 hx (hb hby d45_27) ?_
  show Goes _ _ _ _ _ _ (T3.setTop (mkF m 28 #[.val (.ref a1), .val (.int p2), .val (.int (16 : Int32)), .val (.int p2), .val (.int (p2 - (16 : Int32))), .unset] [(.int ((2 : Int32) <<< ((0 : Int32) &&& 31))), (.int (16 : Int32)), (.int (p2 - (16 : Int32))), (.int (16 : Int32))]))
  rw [own_shl0]
  refine own_iadd X3 hx (hb hby d45_28) ?_
  show Goes _ _ _ _ _ _ (T3.setTop (mkF m 29 #[.val (.ref a1), .val (.int p2), .val (.int (16 : Int32)), .val (.int p2), .val (.int (p2 - (16 : Int32))), .unset] [(.int ((16 : Int32) + (2 : Int32))), (.int (p2 - (16 : Int32))), (.int (16 : Int32))]))
  rw [show ((16 : Int32) + (2 : Int32)) = (18 : Int32) by decide]
  refine own_callS X3 hx hZ hown (y := (⟨"jdk/internal/util/ArraysSupport", "newLength", "(III)I"⟩ : MethodName)) (own_w hw 224 rfl) (own_w hw 225 rfl) (own_w hw 226 rfl) (own_w hw 227 rfl) (by decide) (W := 0) (by decide) (by decide) N0 e3 (by rw [hml]; rfl) (argsL := [(.int (16 : Int32)), (.int (p2 - (16 : Int32))), (.int (18 : Int32))]) (rest := []) (lenOf pd_3 rfl) (Nat.le_of_eq rfl) (by decide) (by decide) (rm46 l Z a0 hw [] (p2 - (16 : Int32)) h0 n0 O0 (own_grw16 hmn hgt hle).2) rfl (hb hby d45_29) ?_
  intro v4 T4 lc4 X4 N4 hQ4
  obtain ⟨rfl, e4⟩ := hQ4
  refine own_istore X4 hx (Ls' := #[.val (.ref a1), .val (.int p2), .val (.int (16 : Int32)), .val (.int p2), .val (.int (p2 - (16 : Int32))), .val (.int (34 : Int32))]) (hb hby d45_32) rfl ?_
  refine own_iload X4 hx (hb hby d45_34) rfl ?_
  refine own_ldcInt X4 hx hZ hown (own_w hw 232 rfl) (hb hby d45_36) ?_
  refine own_icmpYes X4 hx (pc' := 51) (hb hby d45_38) (feq (by decide : ¬ ((34 : Int32) = (2147483647 : Int32)))).2 (by decide) (by decide) ?_
  refine own_iload X4 hx (hb hby d45_51) rfl ?_
  refine own_aloadN X4 hx (hb hby d45_53) rfl rfl ?_
  refine own_getF X4 hx hZ hown (host := "") (Or.inl (own_w hw 50 rfl)) Via.refl e4 f1 (hb hby d45_54) (fun T5 X5 e5 => ?_)
  refine own_ishr X5 hx (hb hby d45_57) ?_
  show Goes _ _ _ _ _ _ (T5.setTop (mkF m 58 #[.val (.ref a1), .val (.int p2), .val (.int (16 : Int32)), .val (.int p2), .val (.int (p2 - (16 : Int32))), .val (.int (34 : Int32))] [(.int ((34 : Int32) >>> ((0 : Int32) &&& 31)))]))
  rw [own_shr0]
  show Goes _ _ _ _ _ _ (T5.setTop (mkF m 58 #[.val (.ref a1), .val (.int p2), .val (.int (16 : Int32)), .val (.int p2), .val (.int (p2 - (16 : Int32))), .val (.int (34 : Int32))] [(.int (34 : Int32))]))
  exact own_retI X5 hx N4 hlk (by decide) (by decide) hret (hb hby d45_58) (by rw [e5]; exact ⟨rfl, rfl⟩)
theorem d48_0 : decode jdk_65_method_121_code 0 = .ok (.iload_n 1, 1) := by decide +kernel
theorem d48_1 : decode jdk_65_method_121_code 1 = .ok (.aload_n 0, 1) := by decide +kernel
theorem d48_2 : decode jdk_65_method_121_code 2 = .ok (.arraylength, 1) := by decide +kernel
theorem d48_3 : decode jdk_65_method_121_code 3 = .ok (.if_icmp .ne 11, 3) := by decide +kernel
theorem d48_14 : decode jdk_65_method_121_code 14 = .ok (.iload_n 1, 1) := by decide +kernel
theorem d48_15 : decode jdk_65_method_121_code 15 = .ok (.newarray .byte, 2) := by decide +kernel
theorem d48_17 : decode jdk_65_method_121_code 17 = .ok (.astore_n 2, 1) := by decide +kernel
theorem d48_18 : decode jdk_65_method_121_code 18 = .ok (.aload_n 0, 1) := by decide +kernel
theorem d48_19 : decode jdk_65_method_121_code 19 = .ok (.iconst 0, 1) := by decide +kernel
theorem d48_20 : decode jdk_65_method_121_code 20 = .ok (.aload_n 2, 1) := by decide +kernel
theorem d48_21 : decode jdk_65_method_121_code 21 = .ok (.iconst 0, 1) := by decide +kernel
theorem d48_22 : decode jdk_65_method_121_code 22 = .ok (.aload_n 0, 1) := by decide +kernel
theorem d48_23 : decode jdk_65_method_121_code 23 = .ok (.arraylength, 1) := by decide +kernel
theorem d48_24 : decode jdk_65_method_121_code 24 = .ok (.iload_n 1, 1) := by decide +kernel
theorem d48_25 : decode jdk_65_method_121_code 25 = .ok (.invokestatic 304, 3) := by decide +kernel
theorem d48_28 : decode jdk_65_method_121_code 28 = .ok (.invokestatic 150, 3) := by decide +kernel
theorem d48_31 : decode jdk_65_method_121_code 31 = .ok (.aload_n 2, 1) := by decide +kernel
theorem d48_32 : decode jdk_65_method_121_code 32 = .ok (.areturn, 1) := by decide +kernel
theorem pn_4 : plainName "java/util/Arrays" = true := by first | (simp [plainName, overriddenIn]; done) | decide +kernel
def Q48 (Z : State) (a1 : Addr) (kd : ClassId) (bs : List Int32) (tl : List Value) (h0 : Heap) (n0 : Nat) (v : Option Value) (h : Heap) : Prop :=
  (∃ (an : Addr) (kn : ClassId), v = some (.ref an) ∧ Keep h0 h [] ∧ h0.size ≤ an ∧ Arv Z h an kn .byte (34 : Int32) (bl bs ++ (tl ++ (List.replicate 18 (Value.int (0 : Int32))))) (.int (0 : Int32)))
theorem ef_48 (m : MethodId) (a1 : Addr) : entryFrame m #[(.ref a1), (.int (34 : Int32))] 3 = mkF m 0 #[.val (.ref a1), .val (.int (34 : Int32)), .unset] [] := by first | (simp [entryFrame, mkF, argsToLocals, Value.category]; done) | rfl
set_option maxRecDepth 65536 in
set_option maxHeartbeats 40000000 in
theorem rm48 (l : Launch) (Z : State) (a0 : Array Value) (hw : ∀ d ∈ tables_1, d.before a0 Z = true) (ws : List Jvm.Cond) (a1 : Addr) (kd : ClassId) (bs : List Int32) (tl : List Value) (h0 : Heap) (n0 : Nat) (O0 : Old Z n0 h0) (f0 : Arv Z h0 a1 kd .byte (16 : Int32) (bl bs ++ tl) (.int (0 : Int32))) (hcap : bs.length + tl.length = 16) :
    Meets l (⟨"java/util/Arrays", "copyOf", "([BI)[B"⟩ : MethodName) jdk_65_method_121_code 3 (some (.array .byte)) ws ({ frames := 1, cells := 1, slots := 34, locals := 18 } : Room) ({ frames := 1, cells := 1, slots := 34, locals := 18 } : Room).cells ({ frames := 1, cells := 1, slots := 34, locals := 18 } : Room).slots Z #[(.ref a1), (.int (34 : Int32))] h0 n0 (Q48 Z a1 kd bs tl h0 n0) := by
  refine Meets.of (F := fun m => mkF m 0 #[.val (.ref a1), .val (.int (34 : Int32)), .unset] []) (plainFor_of_name pn_4) (fun m => ef_48 m a1) ?_
  intro p e s m below meth c T0 hx hby hml hown0 hnm hret hlk hZ X0 e0
  have hown : s.vm.findClass "java/util/Arrays" = some m.cls := hown0
  have N0 := Fr.nil n0
  have KC0 := Keep.refl h0 []
  show Goes _ _ _ _ _ _ (T0.setTop (mkF m 0 #[.val (.ref a1), .val (.int (34 : Int32)), .unset] []))
  refine own_iloadN X0 hx (hb hby d48_0) rfl ?_
  refine own_aloadN X0 hx (hb hby d48_1) rfl rfl ?_
  refine own_alen X0 hx hZ e0 f0 (hb hby d48_2) ?_
  refine own_icmpYes X0 hx (pc' := 14) (hb hby d48_3) (feq (by decide : ¬ ((34 : Int32) = (16 : Int32)))).2 (by decide) (by decide) ?_
  refine own_iloadN X0 hx (hb hby d48_14) rfl ?_
  refine own_newP X0 hx hZ (own_w hw 19 rfl) e0 (hb hby d48_15) (by decide) (cap := 34) (by decide) (by decide) (by decide) (by decide) (fun T1 h1 b1 k1 g1 X1 e1 E1 A1 => ?_)
  have ge_b1 : n0 ≤ b1 := Nat.le_trans (own_sz O0) (Nat.le_of_eq g1.symm)
  have sz_b1 : h0.size ≤ b1 := Nat.le_trans KC0.1 (Nat.le_of_eq g1.symm)
  have A2_a1 := f0.ext E1
  have O2 := O0.ext E1
  have KC2 := KC0.ext E1
  have V1 : Arv Z h1 b1 k1 .byte (34 : Int32) [(.int (0 : Int32)), (.int (0 : Int32)), (.int (0 : Int32)), (.int (0 : Int32)), (.int (0 : Int32)), (.int (0 : Int32)), (.int (0 : Int32)), (.int (0 : Int32)), (.int (0 : Int32)), (.int (0 : Int32)), (.int (0 : Int32)), (.int (0 : Int32)), (.int (0 : Int32)), (.int (0 : Int32)), (.int (0 : Int32)), (.int (0 : Int32)), (.int (0 : Int32)), (.int (0 : Int32)), (.int (0 : Int32)), (.int (0 : Int32)), (.int (0 : Int32)), (.int (0 : Int32)), (.int (0 : Int32)), (.int (0 : Int32)), (.int (0 : Int32)), (.int (0 : Int32)), (.int (0 : Int32)), (.int (0 : Int32)), (.int (0 : Int32)), (.int (0 : Int32)), (.int (0 : Int32)), (.int (0 : Int32)), (.int (0 : Int32)), (.int (0 : Int32))] (.int (0 : Int32)) := A1.pad (pad_rep [] (.int (0 : Int32)) 34)
  refine own_astoreN X1 hx (Ls' := #[.val (.ref a1), .val (.int (34 : Int32)), .val (.ref b1)]) (hb hby d48_17) rfl rfl ?_
  refine own_aloadN X1 hx (hb hby d48_18) rfl rfl ?_
  refine own_iconst X1 hx (v := (0 : Int32)) (hb hby d48_19) rfl ?_
  refine own_aloadN X1 hx (hb hby d48_20) rfl rfl ?_
  refine own_iconst X1 hx (v := (0 : Int32)) (hb hby d48_21) rfl ?_
  show Goes _ _ _ _ _ _ (T1.setTop (mkF m 22 #[.val (.ref a1), .val (.int (34 : Int32)), .val (.ref b1)] [(.int (0 : Int32)), (.ref b1), (.int (0 : Int32)), (.ref a1)]))
  refine own_aloadN X1 hx (hb hby d48_22) rfl rfl ?_
  refine own_alen X1 hx hZ e1 A2_a1 (hb hby d48_23) ?_
  refine own_iloadN X1 hx (hb hby d48_24) rfl ?_
  refine own_callS X1 hx hZ hown (y := (⟨"java/lang/Math", "min", "(II)I"⟩ : MethodName)) (own_w hw 163 rfl) (own_w hw 164 rfl) (own_w hw 165 rfl) (own_w hw 166 rfl) (by decide) (W := 4) (by decide) (by decide) N0 e1 (by rw [hml]; rfl) (argsL := [(.int (16 : Int32)), (.int (34 : Int32))]) (rest := [(.int (0 : Int32)), (.ref b1), (.int (0 : Int32)), (.ref a1)]) (lenOf pd_2 rfl) (Nat.le_of_eq rfl) (by decide) (by decide) (rm33g l Z a0 hw [] h1 n0 O2) rfl (hb hby d48_25) ?_
  intro v3 T3 lc3 X3 N3 hQ3
  obtain ⟨rfl, e3⟩ := hQ3
  show Goes _ _ _ _ _ _ (T3.setTop (mkF m 28 #[.val (.ref a1), .val (.int (34 : Int32)), .val (.ref b1)] [(.int (16 : Int32)), (.int (0 : Int32)), (.ref b1), (.int (0 : Int32)), (.ref a1)]))
  refine own_cpG X3 hx hZ hown (own_w hw 167 rfl) (own_w hw 98 rfl) (own_w hw 96 rfl) (own_w hw 97 rfl) e3 A2_a1 V1 hcap N3 ge_b1 (by rw [hml]; rfl) (hb hby d48_28) (by decide) (W := 0) (Nat.le_of_eq rfl) (by decide) (fun T4 h4 lc4 X4 e4 N4 K4 V4 => ?_)
  have O5 := O2.keep K4 (allS ge_b1 all0)
  have KC5 := KC2.trans K4 (allS (Or.inr sz_b1) all0)
  refine own_aloadN X4 hx (hb hby d48_31) rfl rfl ?_
  show Goes _ _ _ _ _ _ (T4.setTop (mkF m 32 #[.val (.ref a1), .val (.int (34 : Int32)), .val (.ref b1)] [(.ref b1)]))
  exact own_retR X4 hx N4 hlk (by decide) (by decide) hret rfl rfl rfl (hb hby d48_32) (by rw [e4]; exact ⟨b1, k1, rfl, KC5, sz_b1, V4⟩)
theorem d14_0 : decode jdk_68_method_9_code 0 = .ok (.aload_n 0, 1) := by decide +kernel
theorem d14_1 : decode jdk_68_method_9_code 1 = .ok (.getfield 15, 3) := by decide +kernel
theorem d14_4 : decode jdk_68_method_9_code 4 = .ok (.arraylength, 1) := by decide +kernel
theorem d14_5 : decode jdk_68_method_9_code 5 = .ok (.aload_n 0, 1) := by decide +kernel
theorem d14_6 : decode jdk_68_method_9_code 6 = .ok (.getfield 22, 3) := by decide +kernel
theorem d14_9 : decode jdk_68_method_9_code 9 = .ok (.ishr, 1) := by decide +kernel
theorem d14_10 : decode jdk_68_method_9_code 10 = .ok (.istore_n 2, 1) := by decide +kernel
theorem d14_11 : decode jdk_68_method_9_code 11 = .ok (.iload_n 1, 1) := by decide +kernel
theorem d14_12 : decode jdk_68_method_9_code 12 = .ok (.iload_n 2, 1) := by decide +kernel
theorem d14_13 : decode jdk_68_method_9_code 13 = .ok (.isub, 1) := by decide +kernel
theorem d14_14 : decode jdk_68_method_9_code 14 = .ok (.ifCond .le 24, 3) := by decide +kernel
theorem d14_38 : decode jdk_68_method_9_code 38 = .ok (.return_, 1) := by decide +kernel
def Q1416r (Z : State) (a1 : Addr) (p2 : Int32) (a : Addr) (kd : ClassId) (vs : List Value) (mn : Nat) (h0 : Heap) (n0 : Nat) (v : Option Value) (h : Heap) : Prop :=
  (v = none ∧ h = h0)
theorem ef_1416r (m : MethodId) (a1 : Addr) (p2 : Int32) : entryFrame m #[(.ref a1), (.int p2)] 3 = mkF m 0 #[.val (.ref a1), .val (.int p2), .unset] [] := by first | (simp [entryFrame, mkF, argsToLocals, Value.category]; done) | rfl
set_option maxRecDepth 65536 in
set_option maxHeartbeats 40000000 in
theorem rm1416r (l : Launch) (Z : State) (a0 : Array Value) (hw : ∀ d ∈ tables_1, d.before a0 Z = true) (ws : List Jvm.Cond) (a1 : Addr) (p2 : Int32) (a : Addr) (kd : ClassId) (vs : List Value) (mn : Nat) (h0 : Heap) (n0 : Nat) (O0 : Old Z n0 h0) (f0 : Fld Z h0 a1 "java/lang/AbstractStringBuilder" "value" "[B" (.ref a)) (f1 : Fld Z h0 a1 "java/lang/AbstractStringBuilder" "coder" "B" (.int (0 : Int32))) (f2 : Arv Z h0 a kd .byte (16 : Int32) vs (.int (0 : Int32))) (hmn : p2 = Int32.ofNat mn) (hle : mn ≤ 16) :
    Meets l (⟨"java/lang/AbstractStringBuilder", "ensureCapacityInternal", "(I)V"⟩ : MethodName) jdk_68_method_9_code 3 none ws ({ frames := 0, cells := 0, slots := 0, locals := 0 } : Room) ({ frames := 0, cells := 0, slots := 0, locals := 0 } : Room).cells ({ frames := 0, cells := 0, slots := 0, locals := 0 } : Room).slots Z #[(.ref a1), (.int p2)] h0 n0 (Q1416r Z a1 p2 a kd vs mn h0 n0) := by
  refine Meets.of (F := fun m => mkF m 0 #[.val (.ref a1), .val (.int p2), .unset] []) (plainFor_of_name pn_1) (fun m => ef_1416r m a1 p2) ?_
  intro p e s m below meth c T0 hx hby hml hown0 hnm hret hlk hZ X0 e0
  have hown : s.vm.findClass "java/lang/AbstractStringBuilder" = some m.cls := hown0
  have N0 := Fr.nil n0
  show Goes _ _ _ _ _ _ (T0.setTop (mkF m 0 #[.val (.ref a1), .val (.int p2), .unset] []))
  refine own_aloadN X0 hx (hb hby d14_0) rfl rfl ?_
  refine own_getF X0 hx hZ hown (host := "") (Or.inl (own_w hw 48 rfl)) Via.refl e0 f0 (hb hby d14_1) (fun T1 X1 e1 => ?_)
  refine own_alen X1 hx hZ e1 f2 (hb hby d14_4) ?_
  refine own_aloadN X1 hx (hb hby d14_5) rfl rfl ?_
  refine own_getF X1 hx hZ hown (host := "") (Or.inl (own_w hw 50 rfl)) Via.refl e1 f1 (hb hby d14_6) (fun T2 X2 e2 => ?_)
  refine own_ishr X2 hx (hb hby d14_9) ?_
  show Goes _ _ _ _ _ _ (T2.setTop (mkF m 10 #[.val (.ref a1), .val (.int p2), .unset] [(.int ((16 : Int32) >>> ((0 : Int32) &&& 31)))]))
  rw [own_shr0]
  refine own_istoreN X2 hx (Ls' := #[.val (.ref a1), .val (.int p2), .val (.int (16 : Int32))]) (hb hby d14_10) rfl ?_
  refine own_iloadN X2 hx (hb hby d14_11) rfl ?_
  refine own_iloadN X2 hx (hb hby d14_12) rfl ?_
  refine own_isub X2 hx (hb hby d14_13) ?_
  refine own_ifYes X2 hx (pc' := 38) (hb hby d14_14) ((if0 _ _).trans (flt ((own_rng16 hmn hle) : ¬ ((0 : Int32) < (p2 - (16 : Int32))))).2.2.2) (by decide) (by decide) ?_
  show Goes _ _ _ _ _ _ (T2.setTop (mkF m 38 #[.val (.ref a1), .val (.int p2), .val (.int (16 : Int32))] []))
  exact own_retV X2 hx N0 hlk (by decide) (by decide) hret (hb hby d14_38) (by rw [e2]; exact ⟨rfl, rfl⟩)
def Q1434r (Z : State) (a1 : Addr) (p2 : Int32) (a : Addr) (kd : ClassId) (vs : List Value) (mn : Nat) (h0 : Heap) (n0 : Nat) (v : Option Value) (h : Heap) : Prop :=
  (v = none ∧ h = h0)
theorem ef_1434r (m : MethodId) (a1 : Addr) (p2 : Int32) : entryFrame m #[(.ref a1), (.int p2)] 3 = mkF m 0 #[.val (.ref a1), .val (.int p2), .unset] [] := by first | (simp [entryFrame, mkF, argsToLocals, Value.category]; done) | rfl
set_option maxRecDepth 65536 in
set_option maxHeartbeats 40000000 in
theorem rm1434r (l : Launch) (Z : State) (a0 : Array Value) (hw : ∀ d ∈ tables_1, d.before a0 Z = true) (ws : List Jvm.Cond) (a1 : Addr) (p2 : Int32) (a : Addr) (kd : ClassId) (vs : List Value) (mn : Nat) (h0 : Heap) (n0 : Nat) (O0 : Old Z n0 h0) (f0 : Fld Z h0 a1 "java/lang/AbstractStringBuilder" "value" "[B" (.ref a)) (f1 : Fld Z h0 a1 "java/lang/AbstractStringBuilder" "coder" "B" (.int (0 : Int32))) (f2 : Arv Z h0 a kd .byte (34 : Int32) vs (.int (0 : Int32))) (hmn : p2 = Int32.ofNat mn) (hle : mn ≤ 34) :
    Meets l (⟨"java/lang/AbstractStringBuilder", "ensureCapacityInternal", "(I)V"⟩ : MethodName) jdk_68_method_9_code 3 none ws ({ frames := 0, cells := 0, slots := 0, locals := 0 } : Room) ({ frames := 0, cells := 0, slots := 0, locals := 0 } : Room).cells ({ frames := 0, cells := 0, slots := 0, locals := 0 } : Room).slots Z #[(.ref a1), (.int p2)] h0 n0 (Q1434r Z a1 p2 a kd vs mn h0 n0) := by
  refine Meets.of (F := fun m => mkF m 0 #[.val (.ref a1), .val (.int p2), .unset] []) (plainFor_of_name pn_1) (fun m => ef_1434r m a1 p2) ?_
  intro p e s m below meth c T0 hx hby hml hown0 hnm hret hlk hZ X0 e0
  have hown : s.vm.findClass "java/lang/AbstractStringBuilder" = some m.cls := hown0
  have N0 := Fr.nil n0
  show Goes _ _ _ _ _ _ (T0.setTop (mkF m 0 #[.val (.ref a1), .val (.int p2), .unset] []))
  refine own_aloadN X0 hx (hb hby d14_0) rfl rfl ?_
  refine own_getF X0 hx hZ hown (host := "") (Or.inl (own_w hw 48 rfl)) Via.refl e0 f0 (hb hby d14_1) (fun T1 X1 e1 => ?_)
  refine own_alen X1 hx hZ e1 f2 (hb hby d14_4) ?_
  refine own_aloadN X1 hx (hb hby d14_5) rfl rfl ?_
  refine own_getF X1 hx hZ hown (host := "") (Or.inl (own_w hw 50 rfl)) Via.refl e1 f1 (hb hby d14_6) (fun T2 X2 e2 => ?_)
  refine own_ishr X2 hx (hb hby d14_9) ?_
  show Goes _ _ _ _ _ _ (T2.setTop (mkF m 10 #[.val (.ref a1), .val (.int p2), .unset] [(.int ((34 : Int32) >>> ((0 : Int32) &&& 31)))]))
  rw [own_shr0]
  refine own_istoreN X2 hx (Ls' := #[.val (.ref a1), .val (.int p2), .val (.int (34 : Int32))]) (hb hby d14_10) rfl ?_
  refine own_iloadN X2 hx (hb hby d14_11) rfl ?_
  refine own_iloadN X2 hx (hb hby d14_12) rfl ?_
  refine own_isub X2 hx (hb hby d14_13) ?_
  refine own_ifYes X2 hx (pc' := 38) (hb hby d14_14) ((if0 _ _).trans (flt ((own_rng34 hmn hle) : ¬ ((0 : Int32) < (p2 - (34 : Int32))))).2.2.2) (by decide) (by decide) ?_
  show Goes _ _ _ _ _ _ (T2.setTop (mkF m 38 #[.val (.ref a1), .val (.int p2), .val (.int (34 : Int32))] []))
  exact own_retV X2 hx N0 hlk (by decide) (by decide) hret (hb hby d14_38) (by rw [e2]; exact ⟨rfl, rfl⟩)
theorem d14_17 : decode jdk_68_method_9_code 17 = .ok (.aload_n 0, 1) := by decide +kernel
theorem d14_18 : decode jdk_68_method_9_code 18 = .ok (.aload_n 0, 1) := by decide +kernel
theorem d14_19 : decode jdk_68_method_9_code 19 = .ok (.getfield 15, 3) := by decide +kernel
theorem d14_22 : decode jdk_68_method_9_code 22 = .ok (.aload_n 0, 1) := by decide +kernel
theorem d14_23 : decode jdk_68_method_9_code 23 = .ok (.iload_n 1, 1) := by decide +kernel
theorem d14_24 : decode jdk_68_method_9_code 24 = .ok (.invokevirtual 104, 3) := by decide +kernel
theorem pd_4 : parseMethodDescriptor "(I)I" = some ⟨[.int], some .int⟩ := by decide +kernel
theorem d14_27 : decode jdk_68_method_9_code 27 = .ok (.aload_n 0, 1) := by decide +kernel
theorem d14_28 : decode jdk_68_method_9_code 28 = .ok (.getfield 22, 3) := by decide +kernel
theorem d14_31 : decode jdk_68_method_9_code 31 = .ok (.ishl, 1) := by decide +kernel
theorem d14_32 : decode jdk_68_method_9_code 32 = .ok (.invokestatic 108, 3) := by decide +kernel
theorem pd_5 : parseMethodDescriptor "([BI)[B" = some ⟨[(.array .byte), .int], some (.array .byte)⟩ := by decide +kernel
theorem d14_35 : decode jdk_68_method_9_code 35 = .ok (.putfield 15, 3) := by decide +kernel
def Q1416g (Z : State) (a1 : Addr) (p2 : Int32) (a : Addr) (kd : ClassId) (bs : List Int32) (tl : List Value) (mn : Nat) (ct : Int32) (h0 : Heap) (n0 : Nat) (v : Option Value) (h : Heap) : Prop :=
  (∃ (an : Addr) (kn : ClassId), v = none ∧ Keep h0 h [a1] ∧ Fld Z h a1 "java/lang/AbstractStringBuilder" "value" "[B" (.ref an) ∧ Fld Z h a1 "java/lang/AbstractStringBuilder" "coder" "B" (.int (0 : Int32)) ∧ Fld Z h a1 "java/lang/AbstractStringBuilder" "count" "I" (.int ct) ∧ h0.size ≤ an ∧ Arv Z h an kn .byte (34 : Int32) (bl bs ++ (tl ++ (List.replicate 18 (Value.int (0 : Int32))))) (.int (0 : Int32)))
theorem ef_1416g (m : MethodId) (a1 : Addr) (p2 : Int32) : entryFrame m #[(.ref a1), (.int p2)] 3 = mkF m 0 #[.val (.ref a1), .val (.int p2), .unset] [] := by first | (simp [entryFrame, mkF, argsToLocals, Value.category]; done) | rfl
set_option maxRecDepth 65536 in
set_option maxHeartbeats 40000000 in
theorem rm1416g (l : Launch) (Z : State) (a0 : Array Value) (hw : ∀ d ∈ tables_1, d.before a0 Z = true) (ws : List Jvm.Cond) (a1 : Addr) (p2 : Int32) (a : Addr) (kd : ClassId) (bs : List Int32) (tl : List Value) (mn : Nat) (ct : Int32) (h0 : Heap) (n0 : Nat) (O0 : Old Z n0 h0) (f0 : Exa Z h0 a1 "java/lang/StringBuilder") (f1 : Fld Z h0 a1 "java/lang/AbstractStringBuilder" "value" "[B" (.ref a)) (f2 : Fld Z h0 a1 "java/lang/AbstractStringBuilder" "coder" "B" (.int (0 : Int32))) (f3 : Fld Z h0 a1 "java/lang/AbstractStringBuilder" "count" "I" (.int ct)) (f4 : Arv Z h0 a kd .byte (16 : Int32) (bl bs ++ tl) (.int (0 : Int32))) (f5 : n0 ≤ a1) (hcap : bs.length + tl.length = 16) (hmn : p2 = Int32.ofNat mn) (hgt : 16 < mn) (hle : mn ≤ 34) :
    Meets l (⟨"java/lang/AbstractStringBuilder", "ensureCapacityInternal", "(I)V"⟩ : MethodName) jdk_68_method_9_code 3 none ws ({ frames := 3, cells := 1, slots := 34, locals := 48 } : Room) ({ frames := 3, cells := 1, slots := 34, locals := 48 } : Room).cells ({ frames := 3, cells := 1, slots := 34, locals := 48 } : Room).slots Z #[(.ref a1), (.int p2)] h0 n0 (Q1416g Z a1 p2 a kd bs tl mn ct h0 n0) := by
  refine Meets.of (F := fun m => mkF m 0 #[.val (.ref a1), .val (.int p2), .unset] []) (plainFor_of_name pn_1) (fun m => ef_1416g m a1 p2) ?_
  intro p e s m below meth c T0 hx hby hml hown0 hnm hret hlk hZ X0 e0
  have hown : s.vm.findClass "java/lang/AbstractStringBuilder" = some m.cls := hown0
  have N0 := Fr.nil n0
  have KC0 := Keep.refl h0 [a1]
  show Goes _ _ _ _ _ _ (T0.setTop (mkF m 0 #[.val (.ref a1), .val (.int p2), .unset] []))
  refine own_aloadN X0 hx (hb hby d14_0) rfl rfl ?_
  refine own_getF X0 hx hZ hown (host := "") (Or.inl (own_w hw 48 rfl)) Via.refl e0 f1 (hb hby d14_1) (fun T1 X1 e1 => ?_)
  refine own_alen X1 hx hZ e1 f4 (hb hby d14_4) ?_
  refine own_aloadN X1 hx (hb hby d14_5) rfl rfl ?_
  refine own_getF X1 hx hZ hown (host := "") (Or.inl (own_w hw 50 rfl)) Via.refl e1 f2 (hb hby d14_6) (fun T2 X2 e2 => ?_)
  refine own_ishr X2 hx (hb hby d14_9) ?_
  show Goes _ _ _ _ _ _ (T2.setTop (mkF m 10 #[.val (.ref a1), .val (.int p2), .unset] [(.int ((16 : Int32) >>> ((0 : Int32) &&& 31)))]))
  rw [own_shr0]
  refine own_istoreN X2 hx (Ls' := #[.val (.ref a1), .val (.int p2), .val (.int (16 : Int32))]) (hb hby d14_10) rfl ?_
  refine own_iloadN X2 hx (hb hby d14_11) rfl ?_
  refine own_iloadN X2 hx (hb hby d14_12) rfl ?_
  refine own_isub X2 hx (hb hby d14_13) ?_
  refine own_ifNo X2 hx (hb hby d14_14) ((if0 _ _).trans (tlt ((own_grw16 hmn hgt hle).1 : (0 : Int32) < (p2 - (16 : Int32)))).2.2.2) ?_
  refine own_aloadN X2 hx (hb hby d14_17) rfl rfl ?_
  refine own_aloadN X2 hx (hb hby d14_18) rfl rfl ?_
  refine own_getF X2 hx hZ hown (host := "") (Or.inl (own_w hw 48 rfl)) Via.refl e2 f1 (hb hby d14_19) (fun T3 X3 e3 => ?_)
  refine own_aloadN X3 hx (hb hby d14_22) rfl rfl ?_
  refine own_iloadN X3 hx (hb hby d14_23) rfl ?_
  refine own_privateS X3 hx hZ hown (y := (⟨"java/lang/AbstractStringBuilder", "newCapacity", "(I)I"⟩ : MethodName)) (own_w hw 219 rfl) (own_w hw 220 rfl) (own_w hw 222 rfl) (own_w hw 221 rfl) (own_w hw 44 rfl) (own_w hw 223 rfl) (a := a1) f0 (by decide) (W := 2) (by decide) (by decide) N0 e3 (by rw [hml]; rfl) (argsL := [(.int p2)]) (rest := [(.ref a), (.ref a1)]) (lenOf pd_4 rfl) (Nat.le_of_eq rfl) (by decide) (by decide) (rm45 l Z a0 hw [] a1 p2 a kd (bl bs ++ tl) mn h0 n0 O0 f1 f2 f4 hmn hgt hle) rfl (hb hby d14_24) ?_
  intro v4 T4 lc4 X4 N4 hQ4
  obtain ⟨rfl, e4⟩ := hQ4
  refine own_aloadN X4 hx (hb hby d14_27) rfl rfl ?_
  refine own_getF X4 hx hZ hown (host := "") (Or.inl (own_w hw 50 rfl)) Via.refl e4 f2 (hb hby d14_28) (fun T5 X5 e5 => ?_)
  refine own_ishl X5 hx (hb hby d14_31) ?_
  show Goes _ _ _ _ _ _ (T5.setTop (mkF m 32 #[.val (.ref a1), .val (.int p2), .val (.int (16 : Int32))] [(.int ((34 : Int32) <<< ((0 : Int32) &&& 31))), (.ref a), (.ref a1)]))
  rw [own_shl0]
  refine own_callS X5 hx hZ hown (y := (⟨"java/util/Arrays", "copyOf", "([BI)[B"⟩ : MethodName)) (own_w hw 233 rfl) (own_w hw 234 rfl) (own_w hw 155 rfl) (own_w hw 235 rfl) (by decide) (W := 1) (by decide) (by decide) N4 e5 (by rw [hml]; rfl) (argsL := [(.ref a), (.int (34 : Int32))]) (rest := [(.ref a1)]) (lenOf pd_5 rfl) (Nat.le_of_eq rfl) (by decide) (by decide) (rm48 l Z a0 hw [] a kd bs tl h0 n0 O0 f4 hcap) rfl (hb hby d14_32) ?_
  intro v6 T6 lc6 X6 N6 hQ6
  obtain ⟨an_6, kn_6, rfl, K6, r6_0, r6_1⟩ := hQ6
  have E7_a1 := f0.keep K6
  have F7_value_a1 := f1.keep K6 nin0
  have F7_coder_a1 := f2.keep K6 nin0
  have F7_count_a1 := f3.keep K6 nin0
  have O7 := O0.keep K6 all0
  have KC7 := KC0.trans K6 all0
  have ne_a1_an_6 : a1 ≠ an_6 := Nat.ne_of_lt (Nat.lt_of_lt_of_le f0.lt r6_0)
  have ge_an_6 : n0 ≤ an_6 := Nat.le_trans (own_sz O0) r6_0
  have sz_an_6 : h0.size ≤ an_6 := Nat.le_trans KC0.1 r6_0
  refine own_putF X6 hx hZ hown N6 (host := "") (Or.inl (own_w hw 48 rfl)) Via.refl rfl F7_value_a1 E7_a1 (Or.inl (own_w hw 49 rfl)) (own_w hw 35 rfl) (ty := (.array .byte)) (by decide) rfl rfl f5 (hb hby d14_35) (fun T8 h8 lc8 X8 e8 N8 W8 => ?_)
  have F9_value_a1 := F7_value_a1.same W8
  have F9_coder_a1 := F7_coder_a1.other W8 (Or.inr (slot_ne (Or.inl (own_w hw 51 rfl)) (Or.inl (own_w hw 49 rfl)) (by decide) (t := .byte) (t' := (.array .byte)) (by decide) (by decide)))
  have F9_count_a1 := F7_count_a1.other W8 (Or.inr (slot_ne (Or.inl (own_w hw 73 rfl)) (Or.inl (own_w hw 49 rfl)) (by decide) (t := .int) (t' := (.array .byte)) (by decide) (by decide)))
  have A9_an_6 := r6_1.other W8 (Ne.symm ne_a1_an_6)
  have O9 := O7.wr W8 f5
  have KC9 := KC7.wr W8 (Or.inl (List.mem_of_getElem? (i := 0) rfl))
  show Goes _ _ _ _ _ _ (T8.setTop (mkF m 38 #[.val (.ref a1), .val (.int p2), .val (.int (16 : Int32))] []))
  exact own_retV X8 hx N8 hlk (by decide) (by decide) hret (hb hby d14_38) (by rw [e8]; exact ⟨an_6, kn_6, rfl, KC9, F9_value_a1, F9_coder_a1, F9_count_a1, sz_an_6, A9_an_6⟩)
theorem d16_0 : decode jdk_68_method_71_code 0 = .ok (.getstatic 18, 3) := by decide +kernel
theorem d16_3 : decode jdk_68_method_71_code 3 = .ok (.ifCond .eq 18, 3) := by decide +kernel
theorem d16_6 : decode jdk_68_method_71_code 6 = .ok (.aload_n 0, 1) := by decide +kernel
theorem d16_7 : decode jdk_68_method_71_code 7 = .ok (.getfield 22, 3) := by decide +kernel
theorem d16_10 : decode jdk_68_method_71_code 10 = .ok (.aload_n 1, 1) := by decide +kernel
theorem d16_11 : decode jdk_68_method_71_code 11 = .ok (.invokevirtual 40, 3) := by decide +kernel
theorem d16_14 : decode jdk_68_method_71_code 14 = .ok (.if_icmp .eq 7, 3) := by decide +kernel
theorem d16_21 : decode jdk_68_method_71_code 21 = .ok (.return_, 1) := by decide +kernel
def Q16 (Z : State) (a1 : Addr) (a2 : Addr) (w_DigitOnes : Addr) (w_DigitTens : Addr) (zc : Int32) (fm : Value) (k_ones : ClassId) (k_tens : ClassId) (h0 : Heap) (n0 : Nat) (v : Option Value) (h : Heap) : Prop :=
  (v = none ∧ h = h0)
theorem ef_16 (m : MethodId) (a1 : Addr) (a2 : Addr) : entryFrame m #[(.ref a1), (.ref a2)] 2 = mkF m 0 #[.val (.ref a1), .val (.ref a2)] [] := by first | (simp [entryFrame, mkF, argsToLocals, Value.category]; done) | rfl
set_option maxRecDepth 65536 in
set_option maxHeartbeats 40000000 in
theorem rm16 (l : Launch) (Z : State) (a0 : Array Value) (hw : ∀ d ∈ tables_1, d.before a0 Z = true) (ws : List Jvm.Cond) (a1 : Addr) (a2 : Addr) (w_DigitOnes : Addr) (w_DigitTens : Addr) (zc : Int32) (fm : Value) (k_ones : ClassId) (k_tens : ClassId) (h0 : Heap) (n0 : Nat) (O0 : Old Z n0 h0) (SF : Start Z w_DigitOnes w_DigitTens zc fm k_ones k_tens) (f0 : Fld Z h0 a1 "java/lang/AbstractStringBuilder" "coder" "B" (.int (0 : Int32))) (f1 : Exa Z h0 a2 "java/lang/String") (f2 : Fld Z h0 a2 "java/lang/String" "coder" "B" (.int (0 : Int32))) :
    Meets l (⟨"java/lang/AbstractStringBuilder", "inflateIfNeededFor", "(Ljava/lang/String;)V"⟩ : MethodName) jdk_68_method_71_code 2 none ws ({ frames := 1, cells := 0, slots := 0, locals := 13 } : Room) ({ frames := 1, cells := 0, slots := 0, locals := 13 } : Room).cells ({ frames := 1, cells := 0, slots := 0, locals := 13 } : Room).slots Z #[(.ref a1), (.ref a2)] h0 n0 (Q16 Z a1 a2 w_DigitOnes w_DigitTens zc fm k_ones k_tens h0 n0) := by
  refine Meets.of (F := fun m => mkF m 0 #[.val (.ref a1), .val (.ref a2)] []) (plainFor_of_name pn_1) (fun m => ef_16 m a1 a2) ?_
  intro p e s m below meth c T0 hx hby hml hown0 hnm hret hlk hZ X0 e0
  have hown : s.vm.findClass "java/lang/AbstractStringBuilder" = some m.cls := hown0
  have N0 := Fr.nil n0
  obtain ⟨z0, z1, z2, z3, z4, z5, z6, hzc, z8, hfm, -⟩ := SF
  show Goes _ _ _ _ _ _ (T0.setTop (mkF m 0 #[.val (.ref a1), .val (.ref a2)] []))
  refine own_getS X0 hx hZ hown (host := "") (Or.inl (own_w hw 47 rfl)) Via.refl e0 (z6.ext O0.2) (hb hby d16_0) (fun T1 X1 e1 => ?_)
  refine own_ifNo X1 hx (hb hby d16_3) ((if0 _ _).trans (feq (hzc : ¬ (zc = (0 : Int32)))).1) ?_
  refine own_aloadN X1 hx (hb hby d16_6) rfl rfl ?_
  refine own_getF X1 hx hZ hown (host := "") (Or.inl (own_w hw 50 rfl)) Via.refl e1 f0 (hb hby d16_7) (fun T2 X2 e2 => ?_)
  refine own_aloadN X2 hx (hb hby d16_10) rfl rfl ?_
  refine own_virtual X2 hx hZ hown (y := (⟨"java/lang/String", "coder", "()B"⟩ : MethodName)) (z := (⟨"java/lang/String", "coder", "()B"⟩ : MethodName)) (own_w hw 89 rfl) (own_w hw 68 rfl) (notFace_of_selects (args := #[]) (mvT hZ (own_w hw 70 rfl))) (own_w hw 70 rfl) (own_w hw 69 rfl) (own_w hw 2 rfl) (own_w hw 71 rfl) (a := a2) f1 (by decide) (W := 1) (by decide) (by decide) N0 e2 (by rw [hml]; rfl) (argsL := []) (rest := [(.int (0 : Int32))]) (lenOf pd_0 rfl) (Nat.le_of_eq rfl) (by decide) (by decide) (rm13 l Z a0 hw [] a2 w_DigitOnes w_DigitTens zc fm k_ones k_tens h0 n0 O0 ⟨z0, z1, z2, z3, z4, z5, z6, hzc, z8, hfm, trivial⟩ f2) rfl (hb hby d16_11) ?_
  intro v3 T3 lc3 X3 N3 hQ3
  obtain ⟨rfl, e3⟩ := hQ3
  refine own_icmpYes X3 hx (pc' := 21) (hb hby d16_14) (teq (by decide : (0 : Int32) = (0 : Int32))).1 (by decide) (by decide) ?_
  show Goes _ _ _ _ _ _ (T3.setTop (mkF m 21 #[.val (.ref a1), .val (.ref a2)] []))
  exact own_retV X3 hx N3 hlk (by decide) (by decide) hret (hb hby d16_21) (by rw [e3]; exact ⟨rfl, rfl⟩)
theorem d17_0 : decode jdk_42_method_147_code 0 = .ok (.aload_n 0, 1) := by decide +kernel
theorem d17_1 : decode jdk_42_method_147_code 1 = .ok (.invokevirtual 335, 3) := by decide +kernel
theorem d17_4 : decode jdk_42_method_147_code 4 = .ok (.iload_n 3, 1) := by decide +kernel
theorem d17_5 : decode jdk_42_method_147_code 5 = .ok (.if_icmp .ne 23, 3) := by decide +kernel
theorem d17_8 : decode jdk_42_method_147_code 8 = .ok (.aload_n 0, 1) := by decide +kernel
theorem d17_9 : decode jdk_42_method_147_code 9 = .ok (.getfield 9, 3) := by decide +kernel
theorem d17_12 : decode jdk_42_method_147_code 12 = .ok (.iconst 0, 1) := by decide +kernel
theorem d17_13 : decode jdk_42_method_147_code 13 = .ok (.aload_n 1, 1) := by decide +kernel
theorem d17_14 : decode jdk_42_method_147_code 14 = .ok (.iload_n 2, 1) := by decide +kernel
theorem d17_15 : decode jdk_42_method_147_code 15 = .ok (.iload_n 3, 1) := by decide +kernel
theorem d17_16 : decode jdk_42_method_147_code 16 = .ok (.ishl, 1) := by decide +kernel
theorem d17_17 : decode jdk_42_method_147_code 17 = .ok (.aload_n 0, 1) := by decide +kernel
theorem d17_18 : decode jdk_42_method_147_code 18 = .ok (.getfield 9, 3) := by decide +kernel
theorem d17_21 : decode jdk_42_method_147_code 21 = .ok (.arraylength, 1) := by decide +kernel
theorem d17_22 : decode jdk_42_method_147_code 22 = .ok (.invokestatic 212, 3) := by decide +kernel
theorem d17_25 : decode jdk_42_method_147_code 25 = .ok (.goto 18, 3) := by decide +kernel
theorem d17_43 : decode jdk_42_method_147_code 43 = .ok (.return_, 1) := by decide +kernel
def Q1716 (Z : State) (a1 : Addr) (a2 : Addr) (t : Addr) (k : ClassId) (cs : List Int32) (kd : ClassId) (bs : List Int32) (tl : List Value) (w_DigitOnes : Addr) (w_DigitTens : Addr) (zc : Int32) (fm : Value) (k_ones : ClassId) (k_tens : ClassId) (h0 : Heap) (n0 : Nat) (v : Option Value) (h : Heap) : Prop :=
  (v = none ∧ Keep h0 h [a2] ∧ Arv Z h a2 kd .byte (16 : Int32) (bl (bs ++ cs) ++ (tl.drop cs.length)) (.int (0 : Int32)))
theorem ef_1716 (m : MethodId) (a1 : Addr) (a2 : Addr) (bs : List Int32) : entryFrame m #[(.ref a1), (.ref a2), (.int (Int32.ofNat bs.length)), (.int (0 : Int32))] 4 = mkF m 0 #[.val (.ref a1), .val (.ref a2), .val (.int (Int32.ofNat bs.length)), .val (.int (0 : Int32))] [] := by first | (simp [entryFrame, mkF, argsToLocals, Value.category]; done) | rfl
set_option maxRecDepth 65536 in
set_option maxHeartbeats 40000000 in
theorem rm1716 (l : Launch) (Z : State) (a0 : Array Value) (hw : ∀ d ∈ tables_1, d.before a0 Z = true) (ws : List Jvm.Cond) (a1 : Addr) (a2 : Addr) (t : Addr) (k : ClassId) (cs : List Int32) (kd : ClassId) (bs : List Int32) (tl : List Value) (w_DigitOnes : Addr) (w_DigitTens : Addr) (zc : Int32) (fm : Value) (k_ones : ClassId) (k_tens : ClassId) (h0 : Heap) (n0 : Nat) (O0 : Old Z n0 h0) (SF : Start Z w_DigitOnes w_DigitTens zc fm k_ones k_tens) (f0 : Exa Z h0 a1 "java/lang/String") (f1 : Fld Z h0 a1 "java/lang/String" "value" "[B" (.ref t)) (f2 : Fld Z h0 a1 "java/lang/String" "coder" "B" (.int (0 : Int32))) (f3 : Arv Z h0 t k .byte (Int32.ofNat cs.length) (bl cs) (.int (0 : Int32))) (f4 : Arv Z h0 a2 kd .byte (16 : Int32) (bl bs ++ tl) (.int (0 : Int32))) (f5 : n0 ≤ a2) (hcap : bs.length + tl.length = 16) (hfit : cs.length ≤ tl.length) :
    Meets l (⟨"java/lang/String", "getBytes", "([BIB)V"⟩ : MethodName) jdk_42_method_147_code 4 none ws ({ frames := 1, cells := 0, slots := 0, locals := 18 } : Room) ({ frames := 1, cells := 0, slots := 0, locals := 18 } : Room).cells ({ frames := 1, cells := 0, slots := 0, locals := 18 } : Room).slots Z #[(.ref a1), (.ref a2), (.int (Int32.ofNat bs.length)), (.int (0 : Int32))] h0 n0 (Q1716 Z a1 a2 t k cs kd bs tl w_DigitOnes w_DigitTens zc fm k_ones k_tens h0 n0) := by
  refine Meets.of (F := fun m => mkF m 0 #[.val (.ref a1), .val (.ref a2), .val (.int (Int32.ofNat bs.length)), .val (.int (0 : Int32))] []) (plainFor_of_name pn_0) (fun m => ef_1716 m a1 a2 bs) ?_
  intro p e s m below meth c T0 hx hby hml hown0 hnm hret hlk hZ X0 e0
  have hown : s.vm.findClass "java/lang/String" = some m.cls := hown0
  have N0 := Fr.nil n0
  have KC0 := Keep.refl h0 [a2]
  obtain ⟨z0, z1, z2, z3, z4, z5, z6, hzc, z8, hfm, -⟩ := SF
  show Goes _ _ _ _ _ _ (T0.setTop (mkF m 0 #[.val (.ref a1), .val (.ref a2), .val (.int (Int32.ofNat bs.length)), .val (.int (0 : Int32))] []))
  refine own_aloadN X0 hx (hb hby d17_0) rfl rfl ?_
  refine own_virtual X0 hx hZ hown (y := (⟨"java/lang/String", "coder", "()B"⟩ : MethodName)) (z := (⟨"java/lang/String", "coder", "()B"⟩ : MethodName)) (own_w hw 67 rfl) (own_w hw 68 rfl) (notFace_of_selects (args := #[]) (mvT hZ (own_w hw 70 rfl))) (own_w hw 70 rfl) (own_w hw 69 rfl) (own_w hw 2 rfl) (own_w hw 71 rfl) (a := a1) f0 (by decide) (W := 0) (by decide) (by decide) N0 e0 (by rw [hml]; rfl) (argsL := []) (rest := []) (lenOf pd_0 rfl) (Nat.le_of_eq rfl) (by decide) (by decide) (rm13 l Z a0 hw [] a1 w_DigitOnes w_DigitTens zc fm k_ones k_tens h0 n0 O0 ⟨z0, z1, z2, z3, z4, z5, z6, hzc, z8, hfm, trivial⟩ f2) rfl (hb hby d17_1) ?_
  intro v1 T1 lc1 X1 N1 hQ1
  obtain ⟨rfl, e1⟩ := hQ1
  refine own_iloadN X1 hx (hb hby d17_4) rfl ?_
  refine own_icmpNo X1 hx (hb hby d17_5) (teq (by decide : (0 : Int32) = (0 : Int32))).2 ?_
  refine own_aloadN X1 hx (hb hby d17_8) rfl rfl ?_
  refine own_getF X1 hx hZ hown (host := "") (Or.inl (own_w hw 28 rfl)) Via.refl e1 f1 (hb hby d17_9) (fun T2 X2 e2 => ?_)
  refine own_iconst X2 hx (v := (0 : Int32)) (hb hby d17_12) rfl ?_
  refine own_aloadN X2 hx (hb hby d17_13) rfl rfl ?_
  refine own_iloadN X2 hx (hb hby d17_14) rfl ?_
  refine own_iloadN X2 hx (hb hby d17_15) rfl ?_
  refine own_ishl X2 hx (hb hby d17_16) ?_
  show Goes _ _ _ _ _ _ (T2.setTop (mkF m 17 #[.val (.ref a1), .val (.ref a2), .val (.int (Int32.ofNat bs.length)), .val (.int (0 : Int32))] [(.int ((Int32.ofNat bs.length) <<< ((0 : Int32) &&& 31))), (.ref a2), (.int (0 : Int32)), (.ref t)]))
  rw [own_shl0]
  refine own_aloadN X2 hx (hb hby d17_17) rfl rfl ?_
  refine own_getF X2 hx hZ hown (host := "") (Or.inl (own_w hw 28 rfl)) Via.refl e2 f1 (hb hby d17_18) (fun T3 X3 e3 => ?_)
  refine own_alen X3 hx hZ e3 f3 (hb hby d17_21) ?_
  show Goes _ _ _ _ _ _ (T3.setTop (mkF m 22 #[.val (.ref a1), .val (.ref a2), .val (.int (Int32.ofNat bs.length)), .val (.int (0 : Int32))] [(.int (Int32.ofNat cs.length)), (.int (Int32.ofNat bs.length)), (.ref a2), (.int (0 : Int32)), (.ref t)]))
  refine own_cpS X3 hx hZ hown (own_w hw 95 rfl) (own_w hw 98 rfl) (own_w hw 96 rfl) (own_w hw 97 rfl) e3 f3 f4 (by rw [hcap]; decide) hfit (by omega) N1 f5 (by rw [hml]; rfl) (hb hby d17_22) (by decide) (W := 0) (Nat.le_of_eq rfl) (by decide) (fun T4 h4 lc4 X4 e4 N4 K4 V4 => ?_)
  have O5 := O0.keep K4 (allS f5 all0)
  have KC5 := KC0.trans K4 (allS (Or.inl (List.mem_of_getElem? (i := 0) rfl)) all0)
  refine own_goto X4 hx (pc' := 43) (hb hby d17_25) (by decide) (by decide) ?_
  show Goes _ _ _ _ _ _ (T4.setTop (mkF m 43 #[.val (.ref a1), .val (.ref a2), .val (.int (Int32.ofNat bs.length)), .val (.int (0 : Int32))] []))
  exact own_retV X4 hx N4 hlk (by decide) (by decide) hret (hb hby d17_43) (by rw [e4]; exact ⟨rfl, KC5, V4⟩)
theorem d15_0 : decode jdk_68_method_73_code 0 = .ok (.aload_n 0, 1) := by decide +kernel
theorem d15_1 : decode jdk_68_method_73_code 1 = .ok (.aload_n 2, 1) := by decide +kernel
theorem d15_2 : decode jdk_68_method_73_code 2 = .ok (.invokevirtual 397, 3) := by decide +kernel
theorem pd_6 : parseMethodDescriptor "(Ljava/lang/String;)V" = some ⟨[(.object "java/lang/String")], none⟩ := by decide +kernel
theorem d15_5 : decode jdk_68_method_73_code 5 = .ok (.aload_n 2, 1) := by decide +kernel
theorem d15_6 : decode jdk_68_method_73_code 6 = .ok (.aload_n 0, 1) := by decide +kernel
theorem d15_7 : decode jdk_68_method_73_code 7 = .ok (.getfield 15, 3) := by decide +kernel
theorem d15_10 : decode jdk_68_method_73_code 10 = .ok (.iload_n 1, 1) := by decide +kernel
theorem d15_11 : decode jdk_68_method_73_code 11 = .ok (.aload_n 0, 1) := by decide +kernel
theorem d15_12 : decode jdk_68_method_73_code 12 = .ok (.getfield 22, 3) := by decide +kernel
theorem d15_15 : decode jdk_68_method_73_code 15 = .ok (.invokevirtual 399, 3) := by decide +kernel
theorem pd_7 : parseMethodDescriptor "([BIB)V" = some ⟨[(.array .byte), .int, .byte], none⟩ := by decide +kernel
theorem d15_18 : decode jdk_68_method_73_code 18 = .ok (.return_, 1) := by decide +kernel
def Q1516 (Z : State) (a1 : Addr) (a3 : Addr) (a : Addr) (kd : ClassId) (bs : List Int32) (tl : List Value) (t : Addr) (k : ClassId) (cs : List Int32) (w_DigitOnes : Addr) (w_DigitTens : Addr) (zc : Int32) (fm : Value) (k_ones : ClassId) (k_tens : ClassId) (h0 : Heap) (n0 : Nat) (v : Option Value) (h : Heap) : Prop :=
  (v = none ∧ Keep h0 h [a] ∧ Arv Z h a kd .byte (16 : Int32) (bl (bs ++ cs) ++ (tl.drop cs.length)) (.int (0 : Int32)))
theorem ef_1516 (m : MethodId) (a1 : Addr) (a3 : Addr) (bs : List Int32) : entryFrame m #[(.ref a1), (.int (Int32.ofNat bs.length)), (.ref a3)] 3 = mkF m 0 #[.val (.ref a1), .val (.int (Int32.ofNat bs.length)), .val (.ref a3)] [] := by first | (simp [entryFrame, mkF, argsToLocals, Value.category]; done) | rfl
set_option maxRecDepth 65536 in
set_option maxHeartbeats 40000000 in
theorem rm1516 (l : Launch) (Z : State) (a0 : Array Value) (hw : ∀ d ∈ tables_1, d.before a0 Z = true) (ws : List Jvm.Cond) (a1 : Addr) (a3 : Addr) (a : Addr) (kd : ClassId) (bs : List Int32) (tl : List Value) (t : Addr) (k : ClassId) (cs : List Int32) (w_DigitOnes : Addr) (w_DigitTens : Addr) (zc : Int32) (fm : Value) (k_ones : ClassId) (k_tens : ClassId) (h0 : Heap) (n0 : Nat) (O0 : Old Z n0 h0) (SF : Start Z w_DigitOnes w_DigitTens zc fm k_ones k_tens) (f0 : Exa Z h0 a1 "java/lang/StringBuilder") (f1 : Fld Z h0 a1 "java/lang/AbstractStringBuilder" "value" "[B" (.ref a)) (f2 : Fld Z h0 a1 "java/lang/AbstractStringBuilder" "coder" "B" (.int (0 : Int32))) (f3 : Arv Z h0 a kd .byte (16 : Int32) (bl bs ++ tl) (.int (0 : Int32))) (f4 : n0 ≤ a) (hcap : bs.length + tl.length = 16) (f6 : Exa Z h0 a3 "java/lang/String") (f7 : Fld Z h0 a3 "java/lang/String" "value" "[B" (.ref t)) (f8 : Fld Z h0 a3 "java/lang/String" "coder" "B" (.int (0 : Int32))) (f9 : Arv Z h0 t k .byte (Int32.ofNat cs.length) (bl cs) (.int (0 : Int32))) (hfit : cs.length ≤ tl.length) :
    Meets l (⟨"java/lang/AbstractStringBuilder", "putStringAt", "(ILjava/lang/String;)V"⟩ : MethodName) jdk_68_method_73_code 3 none ws ({ frames := 2, cells := 0, slots := 0, locals := 33 } : Room) ({ frames := 2, cells := 0, slots := 0, locals := 33 } : Room).cells ({ frames := 2, cells := 0, slots := 0, locals := 33 } : Room).slots Z #[(.ref a1), (.int (Int32.ofNat bs.length)), (.ref a3)] h0 n0 (Q1516 Z a1 a3 a kd bs tl t k cs w_DigitOnes w_DigitTens zc fm k_ones k_tens h0 n0) := by
  refine Meets.of (F := fun m => mkF m 0 #[.val (.ref a1), .val (.int (Int32.ofNat bs.length)), .val (.ref a3)] []) (plainFor_of_name pn_1) (fun m => ef_1516 m a1 a3 bs) ?_
  intro p e s m below meth c T0 hx hby hml hown0 hnm hret hlk hZ X0 e0
  have hown : s.vm.findClass "java/lang/AbstractStringBuilder" = some m.cls := hown0
  have N0 := Fr.nil n0
  have KC0 := Keep.refl h0 [a]
  obtain ⟨z0, z1, z2, z3, z4, z5, z6, hzc, z8, hfm, -⟩ := SF
  show Goes _ _ _ _ _ _ (T0.setTop (mkF m 0 #[.val (.ref a1), .val (.int (Int32.ofNat bs.length)), .val (.ref a3)] []))
  refine own_aloadN X0 hx (hb hby d15_0) rfl rfl ?_
  refine own_aloadN X0 hx (hb hby d15_1) rfl rfl ?_
  refine own_privateS X0 hx hZ hown (y := (⟨"java/lang/AbstractStringBuilder", "inflateIfNeededFor", "(Ljava/lang/String;)V"⟩ : MethodName)) (own_w hw 84 rfl) (own_w hw 85 rfl) (own_w hw 87 rfl) (own_w hw 86 rfl) (own_w hw 44 rfl) (own_w hw 88 rfl) (a := a1) f0 (by decide) (W := 0) (by decide) (by decide) N0 e0 (by rw [hml]; rfl) (argsL := [(.ref a3)]) (rest := []) (lenOf pd_6 rfl) (Nat.le_of_eq rfl) (by decide) (by decide) (rm16 l Z a0 hw [] a1 a3 w_DigitOnes w_DigitTens zc fm k_ones k_tens h0 n0 O0 ⟨z0, z1, z2, z3, z4, z5, z6, hzc, z8, hfm, trivial⟩ f2 f6 f8) rfl (hb hby d15_2) ?_
  intro v1 T1 lc1 X1 N1 hQ1
  obtain ⟨rfl, e1⟩ := hQ1
  refine own_aloadN X1 hx (hb hby d15_5) rfl rfl ?_
  refine own_aloadN X1 hx (hb hby d15_6) rfl rfl ?_
  refine own_getF X1 hx hZ hown (host := "") (Or.inl (own_w hw 48 rfl)) Via.refl e1 f1 (hb hby d15_7) (fun T2 X2 e2 => ?_)
  refine own_iloadN X2 hx (hb hby d15_10) rfl ?_
  refine own_aloadN X2 hx (hb hby d15_11) rfl rfl ?_
  refine own_getF X2 hx hZ hown (host := "") (Or.inl (own_w hw 50 rfl)) Via.refl e2 f2 (hb hby d15_12) (fun T3 X3 e3 => ?_)
  refine own_virtual X3 hx hZ hown (y := (⟨"java/lang/String", "getBytes", "([BIB)V"⟩ : MethodName)) (z := (⟨"java/lang/String", "getBytes", "([BIB)V"⟩ : MethodName)) (own_w hw 90 rfl) (own_w hw 91 rfl) (notFace_of_selects (args := #[]) (mvT hZ (own_w hw 93 rfl))) (own_w hw 93 rfl) (own_w hw 92 rfl) (own_w hw 2 rfl) (own_w hw 94 rfl) (a := a3) f6 (by decide) (W := 0) (by decide) (by decide) N1 e3 (by rw [hml]; rfl) (argsL := [(.ref a), (.int (Int32.ofNat bs.length)), (.int (0 : Int32))]) (rest := []) (lenOf pd_7 rfl) (Nat.le_of_eq rfl) (by decide) (by decide) (rm1716 l Z a0 hw [] a3 a t k cs kd bs tl w_DigitOnes w_DigitTens zc fm k_ones k_tens h0 n0 O0 ⟨z0, z1, z2, z3, z4, z5, z6, hzc, z8, hfm, trivial⟩ f6 f7 f8 f9 f3 f4 hcap hfit) rfl (hb hby d15_15) ?_
  intro v4 T4 lc4 X4 N4 hQ4
  obtain ⟨rfl, K4, r4_0⟩ := hQ4
  have O5 := O0.keep K4 (allS f4 all0)
  have KC5 := KC0.trans K4 (allS (Or.inl (List.mem_of_getElem? (i := 0) rfl)) all0)
  show Goes _ _ _ _ _ _ (T4.setTop (mkF m 18 #[.val (.ref a1), .val (.int (Int32.ofNat bs.length)), .val (.ref a3)] []))
  exact own_retV X4 hx N4 hlk (by decide) (by decide) hret (hb hby d15_18) (⟨rfl, KC5, r4_0⟩)
def Q1734 (Z : State) (a1 : Addr) (a2 : Addr) (t : Addr) (k : ClassId) (cs : List Int32) (kd : ClassId) (bs : List Int32) (tl : List Value) (w_DigitOnes : Addr) (w_DigitTens : Addr) (zc : Int32) (fm : Value) (k_ones : ClassId) (k_tens : ClassId) (h0 : Heap) (n0 : Nat) (v : Option Value) (h : Heap) : Prop :=
  (v = none ∧ Keep h0 h [a2] ∧ Arv Z h a2 kd .byte (34 : Int32) (bl (bs ++ cs) ++ (tl.drop cs.length)) (.int (0 : Int32)))
theorem ef_1734 (m : MethodId) (a1 : Addr) (a2 : Addr) (bs : List Int32) : entryFrame m #[(.ref a1), (.ref a2), (.int (Int32.ofNat bs.length)), (.int (0 : Int32))] 4 = mkF m 0 #[.val (.ref a1), .val (.ref a2), .val (.int (Int32.ofNat bs.length)), .val (.int (0 : Int32))] [] := by first | (simp [entryFrame, mkF, argsToLocals, Value.category]; done) | rfl
set_option maxRecDepth 65536 in
set_option maxHeartbeats 40000000 in
theorem rm1734 (l : Launch) (Z : State) (a0 : Array Value) (hw : ∀ d ∈ tables_1, d.before a0 Z = true) (ws : List Jvm.Cond) (a1 : Addr) (a2 : Addr) (t : Addr) (k : ClassId) (cs : List Int32) (kd : ClassId) (bs : List Int32) (tl : List Value) (w_DigitOnes : Addr) (w_DigitTens : Addr) (zc : Int32) (fm : Value) (k_ones : ClassId) (k_tens : ClassId) (h0 : Heap) (n0 : Nat) (O0 : Old Z n0 h0) (SF : Start Z w_DigitOnes w_DigitTens zc fm k_ones k_tens) (f0 : Exa Z h0 a1 "java/lang/String") (f1 : Fld Z h0 a1 "java/lang/String" "value" "[B" (.ref t)) (f2 : Fld Z h0 a1 "java/lang/String" "coder" "B" (.int (0 : Int32))) (f3 : Arv Z h0 t k .byte (Int32.ofNat cs.length) (bl cs) (.int (0 : Int32))) (f4 : Arv Z h0 a2 kd .byte (34 : Int32) (bl bs ++ tl) (.int (0 : Int32))) (f5 : n0 ≤ a2) (hcap : bs.length + tl.length = 34) (hfit : cs.length ≤ tl.length) :
    Meets l (⟨"java/lang/String", "getBytes", "([BIB)V"⟩ : MethodName) jdk_42_method_147_code 4 none ws ({ frames := 1, cells := 0, slots := 0, locals := 18 } : Room) ({ frames := 1, cells := 0, slots := 0, locals := 18 } : Room).cells ({ frames := 1, cells := 0, slots := 0, locals := 18 } : Room).slots Z #[(.ref a1), (.ref a2), (.int (Int32.ofNat bs.length)), (.int (0 : Int32))] h0 n0 (Q1734 Z a1 a2 t k cs kd bs tl w_DigitOnes w_DigitTens zc fm k_ones k_tens h0 n0) := by
  refine Meets.of (F := fun m => mkF m 0 #[.val (.ref a1), .val (.ref a2), .val (.int (Int32.ofNat bs.length)), .val (.int (0 : Int32))] []) (plainFor_of_name pn_0) (fun m => ef_1734 m a1 a2 bs) ?_
  intro p e s m below meth c T0 hx hby hml hown0 hnm hret hlk hZ X0 e0
  have hown : s.vm.findClass "java/lang/String" = some m.cls := hown0
  have N0 := Fr.nil n0
  have KC0 := Keep.refl h0 [a2]
  obtain ⟨z0, z1, z2, z3, z4, z5, z6, hzc, z8, hfm, -⟩ := SF
  show Goes _ _ _ _ _ _ (T0.setTop (mkF m 0 #[.val (.ref a1), .val (.ref a2), .val (.int (Int32.ofNat bs.length)), .val (.int (0 : Int32))] []))
  refine own_aloadN X0 hx (hb hby d17_0) rfl rfl ?_
  refine own_virtual X0 hx hZ hown (y := (⟨"java/lang/String", "coder", "()B"⟩ : MethodName)) (z := (⟨"java/lang/String", "coder", "()B"⟩ : MethodName)) (own_w hw 67 rfl) (own_w hw 68 rfl) (notFace_of_selects (args := #[]) (mvT hZ (own_w hw 70 rfl))) (own_w hw 70 rfl) (own_w hw 69 rfl) (own_w hw 2 rfl) (own_w hw 71 rfl) (a := a1) f0 (by decide) (W := 0) (by decide) (by decide) N0 e0 (by rw [hml]; rfl) (argsL := []) (rest := []) (lenOf pd_0 rfl) (Nat.le_of_eq rfl) (by decide) (by decide) (rm13 l Z a0 hw [] a1 w_DigitOnes w_DigitTens zc fm k_ones k_tens h0 n0 O0 ⟨z0, z1, z2, z3, z4, z5, z6, hzc, z8, hfm, trivial⟩ f2) rfl (hb hby d17_1) ?_
  intro v1 T1 lc1 X1 N1 hQ1
  obtain ⟨rfl, e1⟩ := hQ1
  refine own_iloadN X1 hx (hb hby d17_4) rfl ?_
  refine own_icmpNo X1 hx (hb hby d17_5) (teq (by decide : (0 : Int32) = (0 : Int32))).2 ?_
  refine own_aloadN X1 hx (hb hby d17_8) rfl rfl ?_
  refine own_getF X1 hx hZ hown (host := "") (Or.inl (own_w hw 28 rfl)) Via.refl e1 f1 (hb hby d17_9) (fun T2 X2 e2 => ?_)
  refine own_iconst X2 hx (v := (0 : Int32)) (hb hby d17_12) rfl ?_
  refine own_aloadN X2 hx (hb hby d17_13) rfl rfl ?_
  refine own_iloadN X2 hx (hb hby d17_14) rfl ?_
  refine own_iloadN X2 hx (hb hby d17_15) rfl ?_
  refine own_ishl X2 hx (hb hby d17_16) ?_
  show Goes _ _ _ _ _ _ (T2.setTop (mkF m 17 #[.val (.ref a1), .val (.ref a2), .val (.int (Int32.ofNat bs.length)), .val (.int (0 : Int32))] [(.int ((Int32.ofNat bs.length) <<< ((0 : Int32) &&& 31))), (.ref a2), (.int (0 : Int32)), (.ref t)]))
  rw [own_shl0]
  refine own_aloadN X2 hx (hb hby d17_17) rfl rfl ?_
  refine own_getF X2 hx hZ hown (host := "") (Or.inl (own_w hw 28 rfl)) Via.refl e2 f1 (hb hby d17_18) (fun T3 X3 e3 => ?_)
  refine own_alen X3 hx hZ e3 f3 (hb hby d17_21) ?_
  show Goes _ _ _ _ _ _ (T3.setTop (mkF m 22 #[.val (.ref a1), .val (.ref a2), .val (.int (Int32.ofNat bs.length)), .val (.int (0 : Int32))] [(.int (Int32.ofNat cs.length)), (.int (Int32.ofNat bs.length)), (.ref a2), (.int (0 : Int32)), (.ref t)]))
  refine own_cpS X3 hx hZ hown (own_w hw 95 rfl) (own_w hw 98 rfl) (own_w hw 96 rfl) (own_w hw 97 rfl) e3 f3 f4 (by rw [hcap]; decide) hfit (by omega) N1 f5 (by rw [hml]; rfl) (hb hby d17_22) (by decide) (W := 0) (Nat.le_of_eq rfl) (by decide) (fun T4 h4 lc4 X4 e4 N4 K4 V4 => ?_)
  have O5 := O0.keep K4 (allS f5 all0)
  have KC5 := KC0.trans K4 (allS (Or.inl (List.mem_of_getElem? (i := 0) rfl)) all0)
  refine own_goto X4 hx (pc' := 43) (hb hby d17_25) (by decide) (by decide) ?_
  show Goes _ _ _ _ _ _ (T4.setTop (mkF m 43 #[.val (.ref a1), .val (.ref a2), .val (.int (Int32.ofNat bs.length)), .val (.int (0 : Int32))] []))
  exact own_retV X4 hx N4 hlk (by decide) (by decide) hret (hb hby d17_43) (by rw [e4]; exact ⟨rfl, KC5, V4⟩)
def Q1534 (Z : State) (a1 : Addr) (a3 : Addr) (a : Addr) (kd : ClassId) (bs : List Int32) (tl : List Value) (t : Addr) (k : ClassId) (cs : List Int32) (w_DigitOnes : Addr) (w_DigitTens : Addr) (zc : Int32) (fm : Value) (k_ones : ClassId) (k_tens : ClassId) (h0 : Heap) (n0 : Nat) (v : Option Value) (h : Heap) : Prop :=
  (v = none ∧ Keep h0 h [a] ∧ Arv Z h a kd .byte (34 : Int32) (bl (bs ++ cs) ++ (tl.drop cs.length)) (.int (0 : Int32)))
theorem ef_1534 (m : MethodId) (a1 : Addr) (a3 : Addr) (bs : List Int32) : entryFrame m #[(.ref a1), (.int (Int32.ofNat bs.length)), (.ref a3)] 3 = mkF m 0 #[.val (.ref a1), .val (.int (Int32.ofNat bs.length)), .val (.ref a3)] [] := by first | (simp [entryFrame, mkF, argsToLocals, Value.category]; done) | rfl
set_option maxRecDepth 65536 in
set_option maxHeartbeats 40000000 in
theorem rm1534 (l : Launch) (Z : State) (a0 : Array Value) (hw : ∀ d ∈ tables_1, d.before a0 Z = true) (ws : List Jvm.Cond) (a1 : Addr) (a3 : Addr) (a : Addr) (kd : ClassId) (bs : List Int32) (tl : List Value) (t : Addr) (k : ClassId) (cs : List Int32) (w_DigitOnes : Addr) (w_DigitTens : Addr) (zc : Int32) (fm : Value) (k_ones : ClassId) (k_tens : ClassId) (h0 : Heap) (n0 : Nat) (O0 : Old Z n0 h0) (SF : Start Z w_DigitOnes w_DigitTens zc fm k_ones k_tens) (f0 : Exa Z h0 a1 "java/lang/StringBuilder") (f1 : Fld Z h0 a1 "java/lang/AbstractStringBuilder" "value" "[B" (.ref a)) (f2 : Fld Z h0 a1 "java/lang/AbstractStringBuilder" "coder" "B" (.int (0 : Int32))) (f3 : Arv Z h0 a kd .byte (34 : Int32) (bl bs ++ tl) (.int (0 : Int32))) (f4 : n0 ≤ a) (hcap : bs.length + tl.length = 34) (f6 : Exa Z h0 a3 "java/lang/String") (f7 : Fld Z h0 a3 "java/lang/String" "value" "[B" (.ref t)) (f8 : Fld Z h0 a3 "java/lang/String" "coder" "B" (.int (0 : Int32))) (f9 : Arv Z h0 t k .byte (Int32.ofNat cs.length) (bl cs) (.int (0 : Int32))) (hfit : cs.length ≤ tl.length) :
    Meets l (⟨"java/lang/AbstractStringBuilder", "putStringAt", "(ILjava/lang/String;)V"⟩ : MethodName) jdk_68_method_73_code 3 none ws ({ frames := 2, cells := 0, slots := 0, locals := 33 } : Room) ({ frames := 2, cells := 0, slots := 0, locals := 33 } : Room).cells ({ frames := 2, cells := 0, slots := 0, locals := 33 } : Room).slots Z #[(.ref a1), (.int (Int32.ofNat bs.length)), (.ref a3)] h0 n0 (Q1534 Z a1 a3 a kd bs tl t k cs w_DigitOnes w_DigitTens zc fm k_ones k_tens h0 n0) := by
  refine Meets.of (F := fun m => mkF m 0 #[.val (.ref a1), .val (.int (Int32.ofNat bs.length)), .val (.ref a3)] []) (plainFor_of_name pn_1) (fun m => ef_1534 m a1 a3 bs) ?_
  intro p e s m below meth c T0 hx hby hml hown0 hnm hret hlk hZ X0 e0
  have hown : s.vm.findClass "java/lang/AbstractStringBuilder" = some m.cls := hown0
  have N0 := Fr.nil n0
  have KC0 := Keep.refl h0 [a]
  obtain ⟨z0, z1, z2, z3, z4, z5, z6, hzc, z8, hfm, -⟩ := SF
  show Goes _ _ _ _ _ _ (T0.setTop (mkF m 0 #[.val (.ref a1), .val (.int (Int32.ofNat bs.length)), .val (.ref a3)] []))
  refine own_aloadN X0 hx (hb hby d15_0) rfl rfl ?_
  refine own_aloadN X0 hx (hb hby d15_1) rfl rfl ?_
  refine own_privateS X0 hx hZ hown (y := (⟨"java/lang/AbstractStringBuilder", "inflateIfNeededFor", "(Ljava/lang/String;)V"⟩ : MethodName)) (own_w hw 84 rfl) (own_w hw 85 rfl) (own_w hw 87 rfl) (own_w hw 86 rfl) (own_w hw 44 rfl) (own_w hw 88 rfl) (a := a1) f0 (by decide) (W := 0) (by decide) (by decide) N0 e0 (by rw [hml]; rfl) (argsL := [(.ref a3)]) (rest := []) (lenOf pd_6 rfl) (Nat.le_of_eq rfl) (by decide) (by decide) (rm16 l Z a0 hw [] a1 a3 w_DigitOnes w_DigitTens zc fm k_ones k_tens h0 n0 O0 ⟨z0, z1, z2, z3, z4, z5, z6, hzc, z8, hfm, trivial⟩ f2 f6 f8) rfl (hb hby d15_2) ?_
  intro v1 T1 lc1 X1 N1 hQ1
  obtain ⟨rfl, e1⟩ := hQ1
  refine own_aloadN X1 hx (hb hby d15_5) rfl rfl ?_
  refine own_aloadN X1 hx (hb hby d15_6) rfl rfl ?_
  refine own_getF X1 hx hZ hown (host := "") (Or.inl (own_w hw 48 rfl)) Via.refl e1 f1 (hb hby d15_7) (fun T2 X2 e2 => ?_)
  refine own_iloadN X2 hx (hb hby d15_10) rfl ?_
  refine own_aloadN X2 hx (hb hby d15_11) rfl rfl ?_
  refine own_getF X2 hx hZ hown (host := "") (Or.inl (own_w hw 50 rfl)) Via.refl e2 f2 (hb hby d15_12) (fun T3 X3 e3 => ?_)
  refine own_virtual X3 hx hZ hown (y := (⟨"java/lang/String", "getBytes", "([BIB)V"⟩ : MethodName)) (z := (⟨"java/lang/String", "getBytes", "([BIB)V"⟩ : MethodName)) (own_w hw 90 rfl) (own_w hw 91 rfl) (notFace_of_selects (args := #[]) (mvT hZ (own_w hw 93 rfl))) (own_w hw 93 rfl) (own_w hw 92 rfl) (own_w hw 2 rfl) (own_w hw 94 rfl) (a := a3) f6 (by decide) (W := 0) (by decide) (by decide) N1 e3 (by rw [hml]; rfl) (argsL := [(.ref a), (.int (Int32.ofNat bs.length)), (.int (0 : Int32))]) (rest := []) (lenOf pd_7 rfl) (Nat.le_of_eq rfl) (by decide) (by decide) (rm1734 l Z a0 hw [] a3 a t k cs kd bs tl w_DigitOnes w_DigitTens zc fm k_ones k_tens h0 n0 O0 ⟨z0, z1, z2, z3, z4, z5, z6, hzc, z8, hfm, trivial⟩ f6 f7 f8 f9 f3 f4 hcap hfit) rfl (hb hby d15_15) ?_
  intro v4 T4 lc4 X4 N4 hQ4
  obtain ⟨rfl, K4, r4_0⟩ := hQ4
  have O5 := O0.keep K4 (allS f4 all0)
  have KC5 := KC0.trans K4 (allS (Or.inl (List.mem_of_getElem? (i := 0) rfl)) all0)
  show Goes _ _ _ _ _ _ (T4.setTop (mkF m 18 #[.val (.ref a1), .val (.int (Int32.ofNat bs.length)), .val (.ref a3)] []))
  exact own_retV X4 hx N4 hlk (by decide) (by decide) hret (hb hby d15_18) (⟨rfl, KC5, r4_0⟩)
theorem d11_0 : decode jdk_68_method_22_code 0 = .ok (.aload_n 1, 1) := by decide +kernel
theorem d11_1 : decode jdk_68_method_22_code 1 = .ok (.ifnonnull 8, 3) := by decide +kernel
theorem d11_9 : decode jdk_68_method_22_code 9 = .ok (.aload_n 1, 1) := by decide +kernel
theorem d11_10 : decode jdk_68_method_22_code 10 = .ok (.invokevirtual 32, 3) := by decide +kernel
theorem pd_8 : parseMethodDescriptor "()I" = some ⟨[], some .int⟩ := by decide +kernel
theorem d11_13 : decode jdk_68_method_22_code 13 = .ok (.istore_n 2, 1) := by decide +kernel
theorem d11_14 : decode jdk_68_method_22_code 14 = .ok (.aload_n 0, 1) := by decide +kernel
theorem d11_15 : decode jdk_68_method_22_code 15 = .ok (.aload_n 0, 1) := by decide +kernel
theorem d11_16 : decode jdk_68_method_22_code 16 = .ok (.getfield 79, 3) := by decide +kernel
theorem d11_19 : decode jdk_68_method_22_code 19 = .ok (.iload_n 2, 1) := by decide +kernel
theorem d11_20 : decode jdk_68_method_22_code 20 = .ok (.iadd, 1) := by decide +kernel
theorem d11_21 : decode jdk_68_method_22_code 21 = .ok (.invokevirtual 100, 3) := by decide +kernel
theorem d11_24 : decode jdk_68_method_22_code 24 = .ok (.aload_n 0, 1) := by decide +kernel
theorem d11_25 : decode jdk_68_method_22_code 25 = .ok (.aload_n 0, 1) := by decide +kernel
theorem d11_26 : decode jdk_68_method_22_code 26 = .ok (.getfield 79, 3) := by decide +kernel
theorem d11_29 : decode jdk_68_method_22_code 29 = .ok (.aload_n 1, 1) := by decide +kernel
theorem d11_30 : decode jdk_68_method_22_code 30 = .ok (.invokevirtual 208, 3) := by decide +kernel
theorem pd_9 : parseMethodDescriptor "(ILjava/lang/String;)V" = some ⟨[.int, (.object "java/lang/String")], none⟩ := by decide +kernel
theorem d11_33 : decode jdk_68_method_22_code 33 = .ok (.aload_n 0, 1) := by decide +kernel
theorem d11_34 : decode jdk_68_method_22_code 34 = .ok (.dup, 1) := by decide +kernel
theorem d11_35 : decode jdk_68_method_22_code 35 = .ok (.getfield 79, 3) := by decide +kernel
theorem d11_38 : decode jdk_68_method_22_code 38 = .ok (.iload_n 2, 1) := by decide +kernel
theorem d11_39 : decode jdk_68_method_22_code 39 = .ok (.iadd, 1) := by decide +kernel
theorem d11_40 : decode jdk_68_method_22_code 40 = .ok (.putfield 79, 3) := by decide +kernel
theorem d11_43 : decode jdk_68_method_22_code 43 = .ok (.aload_n 0, 1) := by decide +kernel
theorem d11_44 : decode jdk_68_method_22_code 44 = .ok (.areturn, 1) := by decide +kernel
def Q1116r (Z : State) (a1 : Addr) (a2 : Addr) (a : Addr) (kd : ClassId) (bs : List Int32) (tl : List Value) (t : Addr) (k : ClassId) (cs : List Int32) (w_DigitOnes : Addr) (w_DigitTens : Addr) (zc : Int32) (fm : Value) (k_ones : ClassId) (k_tens : ClassId) (h0 : Heap) (n0 : Nat) (v : Option Value) (h : Heap) : Prop :=
  (v = some (.ref a1) ∧ Keep h0 h [a1, a] ∧ Fld Z h a1 "java/lang/AbstractStringBuilder" "value" "[B" (.ref a) ∧ Fld Z h a1 "java/lang/AbstractStringBuilder" "coder" "B" (.int (0 : Int32)) ∧ Fld Z h a1 "java/lang/AbstractStringBuilder" "count" "I" (.int (Int32.ofNat (bs ++ cs).length)) ∧ Arv Z h a kd .byte (16 : Int32) (bl (bs ++ cs) ++ (tl.drop cs.length)) (.int (0 : Int32)) ∧ (bs ++ cs).length + (tl.drop cs.length).length = 16)
theorem ef_1116r (m : MethodId) (a1 : Addr) (a2 : Addr) : entryFrame m #[(.ref a1), (.ref a2)] 3 = mkF m 0 #[.val (.ref a1), .val (.ref a2), .unset] [] := by first | (simp [entryFrame, mkF, argsToLocals, Value.category]; done) | rfl
set_option maxRecDepth 65536 in
set_option maxHeartbeats 40000000 in
theorem rm1116r (l : Launch) (Z : State) (a0 : Array Value) (hw : ∀ d ∈ tables_1, d.before a0 Z = true) (ws : List Jvm.Cond) (a1 : Addr) (a2 : Addr) (a : Addr) (kd : ClassId) (bs : List Int32) (tl : List Value) (t : Addr) (k : ClassId) (cs : List Int32) (w_DigitOnes : Addr) (w_DigitTens : Addr) (zc : Int32) (fm : Value) (k_ones : ClassId) (k_tens : ClassId) (h0 : Heap) (n0 : Nat) (O0 : Old Z n0 h0) (SF : Start Z w_DigitOnes w_DigitTens zc fm k_ones k_tens) (f0 : Exa Z h0 a1 "java/lang/StringBuilder") (f1 : Fld Z h0 a1 "java/lang/AbstractStringBuilder" "value" "[B" (.ref a)) (f2 : Fld Z h0 a1 "java/lang/AbstractStringBuilder" "coder" "B" (.int (0 : Int32))) (f3 : Fld Z h0 a1 "java/lang/AbstractStringBuilder" "count" "I" (.int (Int32.ofNat bs.length))) (f4 : Arv Z h0 a kd .byte (16 : Int32) (bl bs ++ tl) (.int (0 : Int32))) (f5 : Exa Z h0 a "[B") (f6 : n0 ≤ a1) (f7 : n0 ≤ a) (hcap : bs.length + tl.length = 16) (f9 : Exa Z h0 a2 "java/lang/String") (f10 : Fld Z h0 a2 "java/lang/String" "value" "[B" (.ref t)) (f11 : Fld Z h0 a2 "java/lang/String" "coder" "B" (.int (0 : Int32))) (f12 : Arv Z h0 t k .byte (Int32.ofNat cs.length) (bl cs) (.int (0 : Int32))) (hfit : bs.length + cs.length ≤ 16) :
    Meets l (⟨"java/lang/AbstractStringBuilder", "append", "(Ljava/lang/String;)Ljava/lang/AbstractStringBuilder;"⟩ : MethodName) jdk_68_method_22_code 3 (some (.object "java/lang/AbstractStringBuilder")) ws ({ frames := 3, cells := 0, slots := 0, locals := 47 } : Room) ({ frames := 3, cells := 0, slots := 0, locals := 47 } : Room).cells ({ frames := 3, cells := 0, slots := 0, locals := 47 } : Room).slots Z #[(.ref a1), (.ref a2)] h0 n0 (Q1116r Z a1 a2 a kd bs tl t k cs w_DigitOnes w_DigitTens zc fm k_ones k_tens h0 n0) := by
  refine Meets.of (F := fun m => mkF m 0 #[.val (.ref a1), .val (.ref a2), .unset] []) (plainFor_of_name pn_1) (fun m => ef_1116r m a1 a2) ?_
  intro p e s m below meth c T0 hx hby hml hown0 hnm hret hlk hZ X0 e0
  have hown : s.vm.findClass "java/lang/AbstractStringBuilder" = some m.cls := hown0
  have N0 := Fr.nil n0
  have KC0 := Keep.refl h0 [a1, a]
  obtain ⟨z0, z1, z2, z3, z4, z5, z6, hzc, z8, hfm, -⟩ := SF
  show Goes _ _ _ _ _ _ (T0.setTop (mkF m 0 #[.val (.ref a1), .val (.ref a2), .unset] []))
  refine own_aloadN X0 hx (hb hby d11_0) rfl rfl ?_
  refine own_ifnonnullYes X0 hx (pc' := 9) (hb hby d11_1) (by decide) (by decide) ?_
  refine own_aloadN X0 hx (hb hby d11_9) rfl rfl ?_
  refine own_virtual X0 hx hZ hown (y := (⟨"java/lang/String", "length", "()I"⟩ : MethodName)) (z := (⟨"java/lang/String", "length", "()I"⟩ : MethodName)) (own_w hw 62 rfl) (own_w hw 63 rfl) (notFace_of_selects (args := #[]) (mvT hZ (own_w hw 65 rfl))) (own_w hw 65 rfl) (own_w hw 64 rfl) (own_w hw 2 rfl) (own_w hw 66 rfl) (a := a2) f9 (by decide) (W := 0) (by decide) (by decide) N0 e0 (by rw [hml]; rfl) (argsL := []) (rest := []) (lenOf pd_8 rfl) (Nat.le_of_eq rfl) (by decide) (by decide) (rm12 l Z a0 hw [] a2 t k cs w_DigitOnes w_DigitTens zc fm k_ones k_tens h0 n0 O0 ⟨z0, z1, z2, z3, z4, z5, z6, hzc, z8, hfm, trivial⟩ f9 f10 f11 f12) rfl (hb hby d11_10) ?_
  intro v1 T1 lc1 X1 N1 hQ1
  obtain ⟨rfl, e1⟩ := hQ1
  refine own_istoreN X1 hx (Ls' := #[.val (.ref a1), .val (.ref a2), .val (.int (Int32.ofNat cs.length))]) (hb hby d11_13) rfl ?_
  refine own_aloadN X1 hx (hb hby d11_14) rfl rfl ?_
  refine own_aloadN X1 hx (hb hby d11_15) rfl rfl ?_
  refine own_getF X1 hx hZ hown (host := "") (Or.inl (own_w hw 72 rfl)) Via.refl e1 f3 (hb hby d11_16) (fun T2 X2 e2 => ?_)
  refine own_iloadN X2 hx (hb hby d11_19) rfl ?_
  refine own_iadd X2 hx (hb hby d11_20) ?_
  refine own_privateS X2 hx hZ hown (y := (⟨"java/lang/AbstractStringBuilder", "ensureCapacityInternal", "(I)V"⟩ : MethodName)) (own_w hw 74 rfl) (own_w hw 75 rfl) (own_w hw 77 rfl) (own_w hw 76 rfl) (own_w hw 44 rfl) (own_w hw 78 rfl) (a := a1) f0 (by decide) (W := 0) (by decide) (by decide) N1 e2 (by rw [hml]; rfl) (argsL := [(.int ((Int32.ofNat bs.length) + (Int32.ofNat cs.length)))]) (rest := []) (lenOf pd_1 rfl) (Nat.le_of_eq rfl) (by decide) (by decide) (rm1416r l Z a0 hw [] a1 ((Int32.ofNat bs.length) + (Int32.ofNat cs.length)) a kd (bl bs ++ tl) (bs.length + cs.length) h0 n0 O0 f1 f2 f4 (own_add _ _) hfit) rfl (hb hby d11_21) ?_
  intro v3 T3 lc3 X3 N3 hQ3
  obtain ⟨rfl, e3⟩ := hQ3
  refine own_aloadN X3 hx (hb hby d11_24) rfl rfl ?_
  refine own_aloadN X3 hx (hb hby d11_25) rfl rfl ?_
  refine own_getF X3 hx hZ hown (host := "") (Or.inl (own_w hw 72 rfl)) Via.refl e3 f3 (hb hby d11_26) (fun T4 X4 e4 => ?_)
  refine own_aloadN X4 hx (hb hby d11_29) rfl rfl ?_
  refine own_privateS X4 hx hZ hown (y := (⟨"java/lang/AbstractStringBuilder", "putStringAt", "(ILjava/lang/String;)V"⟩ : MethodName)) (own_w hw 79 rfl) (own_w hw 80 rfl) (own_w hw 82 rfl) (own_w hw 81 rfl) (own_w hw 44 rfl) (own_w hw 83 rfl) (a := a1) f0 (by decide) (W := 0) (by decide) (by decide) N3 e4 (by rw [hml]; rfl) (argsL := [(.int (Int32.ofNat bs.length)), (.ref a2)]) (rest := []) (lenOf pd_9 rfl) (Nat.le_of_eq rfl) (by decide) (by decide) (rm1516 l Z a0 hw [] a1 a2 a kd bs tl t k cs w_DigitOnes w_DigitTens zc fm k_ones k_tens h0 n0 O0 ⟨z0, z1, z2, z3, z4, z5, z6, hzc, z8, hfm, trivial⟩ f0 f1 f2 f4 f7 hcap f9 f10 f11 f12 (by omega)) rfl (hb hby d11_30) ?_
  intro v5 T5 lc5 X5 N5 hQ5
  obtain ⟨rfl, K5, r5_0⟩ := hQ5
  have E6_a1 := f0.keep K5
  have E6_a := f5.keep K5
  have F6_value_a1 := f1.keep K5 (ninS (ne_exa f0 f5 (by decide)) nin0)
  have F6_coder_a1 := f2.keep K5 (ninS (ne_exa f0 f5 (by decide)) nin0)
  have F6_count_a1 := f3.keep K5 (ninS (ne_exa f0 f5 (by decide)) nin0)
  have O6 := O0.keep K5 (allS f7 all0)
  have KC6 := KC0.trans K5 (allS (Or.inl (List.mem_of_getElem? (i := 1) rfl)) all0)
  refine own_aloadN X5 hx (hb hby d11_33) rfl rfl ?_
  refine own_dup X5 hx (hb hby d11_34) rfl ?_
  refine own_getF X5 hx hZ hown (host := "") (Or.inl (own_w hw 72 rfl)) Via.refl rfl F6_count_a1 (hb hby d11_35) (fun T7 X7 e7 => ?_)
  refine own_iloadN X7 hx (hb hby d11_38) rfl ?_
  refine own_iadd X7 hx (hb hby d11_39) ?_
  refine own_putF X7 hx hZ hown N5 (host := "") (Or.inl (own_w hw 72 rfl)) Via.refl e7 F6_count_a1 E6_a1 (Or.inl (own_w hw 73 rfl)) (own_w hw 35 rfl) (ty := .int) (by decide) rfl rfl f6 (hb hby d11_40) (fun T8 h8 lc8 X8 e8 N8 W8 => ?_)
  have F9_value_a1 := F6_value_a1.other W8 (Or.inr (slot_ne (Or.inl (own_w hw 49 rfl)) (Or.inl (own_w hw 73 rfl)) (by decide) (t := (.array .byte)) (t' := .int) (by decide) (by decide)))
  have F9_coder_a1 := F6_coder_a1.other W8 (Or.inr (slot_ne (Or.inl (own_w hw 51 rfl)) (Or.inl (own_w hw 73 rfl)) (by decide) (t := .byte) (t' := .int) (by decide) (by decide)))
  have F9_count_a1 := F6_count_a1.same W8
  have A9_a := r5_0.other W8 (ne_exa E6_a E6_a1 (by decide))
  have O9 := O6.wr W8 f6
  have KC9 := KC6.wr W8 (Or.inl (List.mem_of_getElem? (i := 0) rfl))
  refine own_aloadN X8 hx (hb hby d11_43) rfl rfl ?_
  show Goes _ _ _ _ _ _ (T8.setTop (mkF m 44 #[.val (.ref a1), .val (.ref a2), .val (.int (Int32.ofNat cs.length))] [(.ref a1)]))
  exact own_retR X8 hx N8 hlk (by decide) (by decide) hret rfl rfl rfl (hb hby d11_44) (by rw [e8]; exact ⟨rfl, KC9, F9_value_a1, F9_coder_a1, (by rw [← own_addL]; exact F9_count_a1), A9_a, (by simp only [List.length_append, List.length_drop, List.length_replicate, dg_len] <;> omega)⟩)
theorem d10_0 : decode jdk_67_method_7_code 0 = .ok (.aload_n 0, 1) := by decide +kernel
theorem d10_1 : decode jdk_67_method_7_code 1 = .ok (.aload_n 1, 1) := by decide +kernel
theorem d10_2 : decode jdk_67_method_7_code 2 = .ok (.invokespecial 29, 3) := by decide +kernel
theorem pd_10 : parseMethodDescriptor "(Ljava/lang/String;)Ljava/lang/AbstractStringBuilder;" = some ⟨[(.object "java/lang/String")], some (.object "java/lang/AbstractStringBuilder")⟩ := by decide +kernel
theorem d10_5 : decode jdk_67_method_7_code 5 = .ok (.pop, 1) := by decide +kernel
theorem d10_6 : decode jdk_67_method_7_code 6 = .ok (.aload_n 0, 1) := by decide +kernel
theorem d10_7 : decode jdk_67_method_7_code 7 = .ok (.areturn, 1) := by decide +kernel
def Q1016r (Z : State) (a1 : Addr) (a2 : Addr) (a : Addr) (kd : ClassId) (bs : List Int32) (tl : List Value) (t : Addr) (k : ClassId) (cs : List Int32) (w_DigitOnes : Addr) (w_DigitTens : Addr) (zc : Int32) (fm : Value) (k_ones : ClassId) (k_tens : ClassId) (h0 : Heap) (n0 : Nat) (v : Option Value) (h : Heap) : Prop :=
  (v = some (.ref a1) ∧ Keep h0 h [a1, a] ∧ Fld Z h a1 "java/lang/AbstractStringBuilder" "value" "[B" (.ref a) ∧ Fld Z h a1 "java/lang/AbstractStringBuilder" "coder" "B" (.int (0 : Int32)) ∧ Fld Z h a1 "java/lang/AbstractStringBuilder" "count" "I" (.int (Int32.ofNat (bs ++ cs).length)) ∧ Arv Z h a kd .byte (16 : Int32) (bl (bs ++ cs) ++ (tl.drop cs.length)) (.int (0 : Int32)) ∧ (bs ++ cs).length + (tl.drop cs.length).length = 16)
theorem ef_1016r (m : MethodId) (a1 : Addr) (a2 : Addr) : entryFrame m #[(.ref a1), (.ref a2)] 2 = mkF m 0 #[.val (.ref a1), .val (.ref a2)] [] := by first | (simp [entryFrame, mkF, argsToLocals, Value.category]; done) | rfl
set_option maxRecDepth 65536 in
set_option maxHeartbeats 40000000 in
theorem rm1016r (l : Launch) (Z : State) (a0 : Array Value) (hw : ∀ d ∈ tables_1, d.before a0 Z = true) (ws : List Jvm.Cond) (a1 : Addr) (a2 : Addr) (a : Addr) (kd : ClassId) (bs : List Int32) (tl : List Value) (t : Addr) (k : ClassId) (cs : List Int32) (w_DigitOnes : Addr) (w_DigitTens : Addr) (zc : Int32) (fm : Value) (k_ones : ClassId) (k_tens : ClassId) (h0 : Heap) (n0 : Nat) (O0 : Old Z n0 h0) (SF : Start Z w_DigitOnes w_DigitTens zc fm k_ones k_tens) (f0 : Exa Z h0 a1 "java/lang/StringBuilder") (f1 : Fld Z h0 a1 "java/lang/AbstractStringBuilder" "value" "[B" (.ref a)) (f2 : Fld Z h0 a1 "java/lang/AbstractStringBuilder" "coder" "B" (.int (0 : Int32))) (f3 : Fld Z h0 a1 "java/lang/AbstractStringBuilder" "count" "I" (.int (Int32.ofNat bs.length))) (f4 : Arv Z h0 a kd .byte (16 : Int32) (bl bs ++ tl) (.int (0 : Int32))) (f5 : Exa Z h0 a "[B") (f6 : n0 ≤ a1) (f7 : n0 ≤ a) (hcap : bs.length + tl.length = 16) (f9 : Exa Z h0 a2 "java/lang/String") (f10 : Fld Z h0 a2 "java/lang/String" "value" "[B" (.ref t)) (f11 : Fld Z h0 a2 "java/lang/String" "coder" "B" (.int (0 : Int32))) (f12 : Arv Z h0 t k .byte (Int32.ofNat cs.length) (bl cs) (.int (0 : Int32))) (hfit : bs.length + cs.length ≤ 16) :
    Meets l (⟨"java/lang/StringBuilder", "append", "(Ljava/lang/String;)Ljava/lang/StringBuilder;"⟩ : MethodName) jdk_67_method_7_code 2 (some (.object "java/lang/StringBuilder")) ws ({ frames := 4, cells := 0, slots := 0, locals := 61 } : Room) ({ frames := 4, cells := 0, slots := 0, locals := 61 } : Room).cells ({ frames := 4, cells := 0, slots := 0, locals := 61 } : Room).slots Z #[(.ref a1), (.ref a2)] h0 n0 (Q1016r Z a1 a2 a kd bs tl t k cs w_DigitOnes w_DigitTens zc fm k_ones k_tens h0 n0) := by
  refine Meets.of (F := fun m => mkF m 0 #[.val (.ref a1), .val (.ref a2)] []) (plainFor_of_name pn_2) (fun m => ef_1016r m a1 a2) ?_
  intro p e s m below meth c T0 hx hby hml hown0 hnm hret hlk hZ X0 e0
  have hown : s.vm.findClass "java/lang/StringBuilder" = some m.cls := hown0
  have N0 := Fr.nil n0
  have KC0 := Keep.refl h0 [a1, a]
  obtain ⟨z0, z1, z2, z3, z4, z5, z6, hzc, z8, hfm, -⟩ := SF
  show Goes _ _ _ _ _ _ (T0.setTop (mkF m 0 #[.val (.ref a1), .val (.ref a2)] []))
  refine own_aloadN X0 hx (hb hby d10_0) rfl rfl ?_
  refine own_aloadN X0 hx (hb hby d10_1) rfl rfl ?_
  refine own_specialUp X0 hx hZ hown (y := (⟨"java/lang/AbstractStringBuilder", "append", "(Ljava/lang/String;)Ljava/lang/AbstractStringBuilder;"⟩ : MethodName)) (own_w hw 57 rfl) (own_w hw 58 rfl) (own_w hw 59 rfl) (own_w hw 77 rfl) rfl (own_w hw 44 rfl) (own_w hw 61 rfl) (a := a1) f0 (by decide) (by decide) (W := 0) (by decide) (by decide) N0 e0 (by rw [hml]; rfl) (argsL := [(.ref a2)]) (rest := []) (lenOf pd_10 rfl) (Nat.le_of_eq rfl) (by decide) (by decide) (rm1116r l Z a0 hw [] a1 a2 a kd bs tl t k cs w_DigitOnes w_DigitTens zc fm k_ones k_tens h0 n0 O0 ⟨z0, z1, z2, z3, z4, z5, z6, hzc, z8, hfm, trivial⟩ f0 f1 f2 f3 f4 f5 f6 f7 hcap f9 f10 f11 f12 hfit) rfl (hb hby d10_2) ?_
  intro v1 T1 lc1 X1 N1 hQ1
  obtain ⟨rfl, K1, r1_0, r1_1, r1_2, r1_3, r1_4⟩ := hQ1
  have O2 := O0.keep K1 (allS f6 (allS f7 all0))
  have KC2 := KC0.trans K1 (allS (Or.inl (List.mem_of_getElem? (i := 0) rfl)) (allS (Or.inl (List.mem_of_getElem? (i := 1) rfl)) all0))
  refine own_pop X1 hx (hb hby d10_5) rfl ?_
  refine own_aloadN X1 hx (hb hby d10_6) rfl rfl ?_
  show Goes _ _ _ _ _ _ (T1.setTop (mkF m 7 #[.val (.ref a1), .val (.ref a2)] [(.ref a1)]))
  exact own_retR X1 hx N1 hlk (by decide) (by decide) hret rfl rfl rfl (hb hby d10_7) (⟨rfl, KC2, r1_0, r1_1, r1_2, r1_3, r1_4⟩)
def Q1134r (Z : State) (a1 : Addr) (a2 : Addr) (a : Addr) (kd : ClassId) (bs : List Int32) (tl : List Value) (t : Addr) (k : ClassId) (cs : List Int32) (w_DigitOnes : Addr) (w_DigitTens : Addr) (zc : Int32) (fm : Value) (k_ones : ClassId) (k_tens : ClassId) (h0 : Heap) (n0 : Nat) (v : Option Value) (h : Heap) : Prop :=
  (v = some (.ref a1) ∧ Keep h0 h [a1, a] ∧ Fld Z h a1 "java/lang/AbstractStringBuilder" "value" "[B" (.ref a) ∧ Fld Z h a1 "java/lang/AbstractStringBuilder" "coder" "B" (.int (0 : Int32)) ∧ Fld Z h a1 "java/lang/AbstractStringBuilder" "count" "I" (.int (Int32.ofNat (bs ++ cs).length)) ∧ Arv Z h a kd .byte (34 : Int32) (bl (bs ++ cs) ++ (tl.drop cs.length)) (.int (0 : Int32)) ∧ (bs ++ cs).length + (tl.drop cs.length).length = 34)
theorem ef_1134r (m : MethodId) (a1 : Addr) (a2 : Addr) : entryFrame m #[(.ref a1), (.ref a2)] 3 = mkF m 0 #[.val (.ref a1), .val (.ref a2), .unset] [] := by first | (simp [entryFrame, mkF, argsToLocals, Value.category]; done) | rfl
set_option maxRecDepth 65536 in
set_option maxHeartbeats 40000000 in
theorem rm1134r (l : Launch) (Z : State) (a0 : Array Value) (hw : ∀ d ∈ tables_1, d.before a0 Z = true) (ws : List Jvm.Cond) (a1 : Addr) (a2 : Addr) (a : Addr) (kd : ClassId) (bs : List Int32) (tl : List Value) (t : Addr) (k : ClassId) (cs : List Int32) (w_DigitOnes : Addr) (w_DigitTens : Addr) (zc : Int32) (fm : Value) (k_ones : ClassId) (k_tens : ClassId) (h0 : Heap) (n0 : Nat) (O0 : Old Z n0 h0) (SF : Start Z w_DigitOnes w_DigitTens zc fm k_ones k_tens) (f0 : Exa Z h0 a1 "java/lang/StringBuilder") (f1 : Fld Z h0 a1 "java/lang/AbstractStringBuilder" "value" "[B" (.ref a)) (f2 : Fld Z h0 a1 "java/lang/AbstractStringBuilder" "coder" "B" (.int (0 : Int32))) (f3 : Fld Z h0 a1 "java/lang/AbstractStringBuilder" "count" "I" (.int (Int32.ofNat bs.length))) (f4 : Arv Z h0 a kd .byte (34 : Int32) (bl bs ++ tl) (.int (0 : Int32))) (f5 : n0 ≤ a1) (f6 : n0 ≤ a) (hcap : bs.length + tl.length = 34) (f8 : Exa Z h0 a2 "java/lang/String") (f9 : Fld Z h0 a2 "java/lang/String" "value" "[B" (.ref t)) (f10 : Fld Z h0 a2 "java/lang/String" "coder" "B" (.int (0 : Int32))) (f11 : Arv Z h0 t k .byte (Int32.ofNat cs.length) (bl cs) (.int (0 : Int32))) (hfit : bs.length + cs.length ≤ 34) :
    Meets l (⟨"java/lang/AbstractStringBuilder", "append", "(Ljava/lang/String;)Ljava/lang/AbstractStringBuilder;"⟩ : MethodName) jdk_68_method_22_code 3 (some (.object "java/lang/AbstractStringBuilder")) ws ({ frames := 3, cells := 0, slots := 0, locals := 47 } : Room) ({ frames := 3, cells := 0, slots := 0, locals := 47 } : Room).cells ({ frames := 3, cells := 0, slots := 0, locals := 47 } : Room).slots Z #[(.ref a1), (.ref a2)] h0 n0 (Q1134r Z a1 a2 a kd bs tl t k cs w_DigitOnes w_DigitTens zc fm k_ones k_tens h0 n0) := by
  refine Meets.of (F := fun m => mkF m 0 #[.val (.ref a1), .val (.ref a2), .unset] []) (plainFor_of_name pn_1) (fun m => ef_1134r m a1 a2) ?_
  intro p e s m below meth c T0 hx hby hml hown0 hnm hret hlk hZ X0 e0
  have hown : s.vm.findClass "java/lang/AbstractStringBuilder" = some m.cls := hown0
  have N0 := Fr.nil n0
  have KC0 := Keep.refl h0 [a1, a]
  obtain ⟨z0, z1, z2, z3, z4, z5, z6, hzc, z8, hfm, -⟩ := SF
  show Goes _ _ _ _ _ _ (T0.setTop (mkF m 0 #[.val (.ref a1), .val (.ref a2), .unset] []))
  refine own_aloadN X0 hx (hb hby d11_0) rfl rfl ?_
  refine own_ifnonnullYes X0 hx (pc' := 9) (hb hby d11_1) (by decide) (by decide) ?_
  refine own_aloadN X0 hx (hb hby d11_9) rfl rfl ?_
  refine own_virtual X0 hx hZ hown (y := (⟨"java/lang/String", "length", "()I"⟩ : MethodName)) (z := (⟨"java/lang/String", "length", "()I"⟩ : MethodName)) (own_w hw 62 rfl) (own_w hw 63 rfl) (notFace_of_selects (args := #[]) (mvT hZ (own_w hw 65 rfl))) (own_w hw 65 rfl) (own_w hw 64 rfl) (own_w hw 2 rfl) (own_w hw 66 rfl) (a := a2) f8 (by decide) (W := 0) (by decide) (by decide) N0 e0 (by rw [hml]; rfl) (argsL := []) (rest := []) (lenOf pd_8 rfl) (Nat.le_of_eq rfl) (by decide) (by decide) (rm12 l Z a0 hw [] a2 t k cs w_DigitOnes w_DigitTens zc fm k_ones k_tens h0 n0 O0 ⟨z0, z1, z2, z3, z4, z5, z6, hzc, z8, hfm, trivial⟩ f8 f9 f10 f11) rfl (hb hby d11_10) ?_
  intro v1 T1 lc1 X1 N1 hQ1
  obtain ⟨rfl, e1⟩ := hQ1
  refine own_istoreN X1 hx (Ls' := #[.val (.ref a1), .val (.ref a2), .val (.int (Int32.ofNat cs.length))]) (hb hby d11_13) rfl ?_
  refine own_aloadN X1 hx (hb hby d11_14) rfl rfl ?_
  refine own_aloadN X1 hx (hb hby d11_15) rfl rfl ?_
  refine own_getF X1 hx hZ hown (host := "") (Or.inl (own_w hw 72 rfl)) Via.refl e1 f3 (hb hby d11_16) (fun T2 X2 e2 => ?_)
  refine own_iloadN X2 hx (hb hby d11_19) rfl ?_
  refine own_iadd X2 hx (hb hby d11_20) ?_
  refine own_privateS X2 hx hZ hown (y := (⟨"java/lang/AbstractStringBuilder", "ensureCapacityInternal", "(I)V"⟩ : MethodName)) (own_w hw 74 rfl) (own_w hw 75 rfl) (own_w hw 77 rfl) (own_w hw 76 rfl) (own_w hw 44 rfl) (own_w hw 78 rfl) (a := a1) f0 (by decide) (W := 0) (by decide) (by decide) N1 e2 (by rw [hml]; rfl) (argsL := [(.int ((Int32.ofNat bs.length) + (Int32.ofNat cs.length)))]) (rest := []) (lenOf pd_1 rfl) (Nat.le_of_eq rfl) (by decide) (by decide) (rm1434r l Z a0 hw [] a1 ((Int32.ofNat bs.length) + (Int32.ofNat cs.length)) a kd (bl bs ++ tl) (bs.length + cs.length) h0 n0 O0 f1 f2 f4 (own_add _ _) hfit) rfl (hb hby d11_21) ?_
  intro v3 T3 lc3 X3 N3 hQ3
  obtain ⟨rfl, e3⟩ := hQ3
  refine own_aloadN X3 hx (hb hby d11_24) rfl rfl ?_
  refine own_aloadN X3 hx (hb hby d11_25) rfl rfl ?_
  refine own_getF X3 hx hZ hown (host := "") (Or.inl (own_w hw 72 rfl)) Via.refl e3 f3 (hb hby d11_26) (fun T4 X4 e4 => ?_)
  refine own_aloadN X4 hx (hb hby d11_29) rfl rfl ?_
  refine own_privateS X4 hx hZ hown (y := (⟨"java/lang/AbstractStringBuilder", "putStringAt", "(ILjava/lang/String;)V"⟩ : MethodName)) (own_w hw 79 rfl) (own_w hw 80 rfl) (own_w hw 82 rfl) (own_w hw 81 rfl) (own_w hw 44 rfl) (own_w hw 83 rfl) (a := a1) f0 (by decide) (W := 0) (by decide) (by decide) N3 e4 (by rw [hml]; rfl) (argsL := [(.int (Int32.ofNat bs.length)), (.ref a2)]) (rest := []) (lenOf pd_9 rfl) (Nat.le_of_eq rfl) (by decide) (by decide) (rm1534 l Z a0 hw [] a1 a2 a kd bs tl t k cs w_DigitOnes w_DigitTens zc fm k_ones k_tens h0 n0 O0 ⟨z0, z1, z2, z3, z4, z5, z6, hzc, z8, hfm, trivial⟩ f0 f1 f2 f4 f6 hcap f8 f9 f10 f11 (by omega)) rfl (hb hby d11_30) ?_
  intro v5 T5 lc5 X5 N5 hQ5
  obtain ⟨rfl, K5, r5_0⟩ := hQ5
  have E6_a1 := f0.keep K5
  have F6_value_a1 := f1.keep K5 (ninS (Exa.neArv f0 f4 (own_w hw 35 rfl)) nin0)
  have F6_coder_a1 := f2.keep K5 (ninS (Exa.neArv f0 f4 (own_w hw 35 rfl)) nin0)
  have F6_count_a1 := f3.keep K5 (ninS (Exa.neArv f0 f4 (own_w hw 35 rfl)) nin0)
  have O6 := O0.keep K5 (allS f6 all0)
  have KC6 := KC0.trans K5 (allS (Or.inl (List.mem_of_getElem? (i := 1) rfl)) all0)
  refine own_aloadN X5 hx (hb hby d11_33) rfl rfl ?_
  refine own_dup X5 hx (hb hby d11_34) rfl ?_
  refine own_getF X5 hx hZ hown (host := "") (Or.inl (own_w hw 72 rfl)) Via.refl rfl F6_count_a1 (hb hby d11_35) (fun T7 X7 e7 => ?_)
  refine own_iloadN X7 hx (hb hby d11_38) rfl ?_
  refine own_iadd X7 hx (hb hby d11_39) ?_
  refine own_putF X7 hx hZ hown N5 (host := "") (Or.inl (own_w hw 72 rfl)) Via.refl e7 F6_count_a1 E6_a1 (Or.inl (own_w hw 73 rfl)) (own_w hw 35 rfl) (ty := .int) (by decide) rfl rfl f5 (hb hby d11_40) (fun T8 h8 lc8 X8 e8 N8 W8 => ?_)
  have F9_value_a1 := F6_value_a1.other W8 (Or.inr (slot_ne (Or.inl (own_w hw 49 rfl)) (Or.inl (own_w hw 73 rfl)) (by decide) (t := (.array .byte)) (t' := .int) (by decide) (by decide)))
  have F9_coder_a1 := F6_coder_a1.other W8 (Or.inr (slot_ne (Or.inl (own_w hw 51 rfl)) (Or.inl (own_w hw 73 rfl)) (by decide) (t := .byte) (t' := .int) (by decide) (by decide)))
  have F9_count_a1 := F6_count_a1.same W8
  have A9_a := r5_0.other W8 (Ne.symm (Exa.neArv E6_a1 r5_0 (own_w hw 35 rfl)))
  have O9 := O6.wr W8 f5
  have KC9 := KC6.wr W8 (Or.inl (List.mem_of_getElem? (i := 0) rfl))
  refine own_aloadN X8 hx (hb hby d11_43) rfl rfl ?_
  show Goes _ _ _ _ _ _ (T8.setTop (mkF m 44 #[.val (.ref a1), .val (.ref a2), .val (.int (Int32.ofNat cs.length))] [(.ref a1)]))
  exact own_retR X8 hx N8 hlk (by decide) (by decide) hret rfl rfl rfl (hb hby d11_44) (by rw [e8]; exact ⟨rfl, KC9, F9_value_a1, F9_coder_a1, (by rw [← own_addL]; exact F9_count_a1), A9_a, (by simp only [List.length_append, List.length_drop, List.length_replicate, dg_len] <;> omega)⟩)
def Q1034r (Z : State) (a1 : Addr) (a2 : Addr) (a : Addr) (kd : ClassId) (bs : List Int32) (tl : List Value) (t : Addr) (k : ClassId) (cs : List Int32) (w_DigitOnes : Addr) (w_DigitTens : Addr) (zc : Int32) (fm : Value) (k_ones : ClassId) (k_tens : ClassId) (h0 : Heap) (n0 : Nat) (v : Option Value) (h : Heap) : Prop :=
  (v = some (.ref a1) ∧ Keep h0 h [a1, a] ∧ Fld Z h a1 "java/lang/AbstractStringBuilder" "value" "[B" (.ref a) ∧ Fld Z h a1 "java/lang/AbstractStringBuilder" "coder" "B" (.int (0 : Int32)) ∧ Fld Z h a1 "java/lang/AbstractStringBuilder" "count" "I" (.int (Int32.ofNat (bs ++ cs).length)) ∧ Arv Z h a kd .byte (34 : Int32) (bl (bs ++ cs) ++ (tl.drop cs.length)) (.int (0 : Int32)) ∧ (bs ++ cs).length + (tl.drop cs.length).length = 34)
theorem ef_1034r (m : MethodId) (a1 : Addr) (a2 : Addr) : entryFrame m #[(.ref a1), (.ref a2)] 2 = mkF m 0 #[.val (.ref a1), .val (.ref a2)] [] := by first | (simp [entryFrame, mkF, argsToLocals, Value.category]; done) | rfl
set_option maxRecDepth 65536 in
set_option maxHeartbeats 40000000 in
theorem rm1034r (l : Launch) (Z : State) (a0 : Array Value) (hw : ∀ d ∈ tables_1, d.before a0 Z = true) (ws : List Jvm.Cond) (a1 : Addr) (a2 : Addr) (a : Addr) (kd : ClassId) (bs : List Int32) (tl : List Value) (t : Addr) (k : ClassId) (cs : List Int32) (w_DigitOnes : Addr) (w_DigitTens : Addr) (zc : Int32) (fm : Value) (k_ones : ClassId) (k_tens : ClassId) (h0 : Heap) (n0 : Nat) (O0 : Old Z n0 h0) (SF : Start Z w_DigitOnes w_DigitTens zc fm k_ones k_tens) (f0 : Exa Z h0 a1 "java/lang/StringBuilder") (f1 : Fld Z h0 a1 "java/lang/AbstractStringBuilder" "value" "[B" (.ref a)) (f2 : Fld Z h0 a1 "java/lang/AbstractStringBuilder" "coder" "B" (.int (0 : Int32))) (f3 : Fld Z h0 a1 "java/lang/AbstractStringBuilder" "count" "I" (.int (Int32.ofNat bs.length))) (f4 : Arv Z h0 a kd .byte (34 : Int32) (bl bs ++ tl) (.int (0 : Int32))) (f5 : n0 ≤ a1) (f6 : n0 ≤ a) (hcap : bs.length + tl.length = 34) (f8 : Exa Z h0 a2 "java/lang/String") (f9 : Fld Z h0 a2 "java/lang/String" "value" "[B" (.ref t)) (f10 : Fld Z h0 a2 "java/lang/String" "coder" "B" (.int (0 : Int32))) (f11 : Arv Z h0 t k .byte (Int32.ofNat cs.length) (bl cs) (.int (0 : Int32))) (hfit : bs.length + cs.length ≤ 34) :
    Meets l (⟨"java/lang/StringBuilder", "append", "(Ljava/lang/String;)Ljava/lang/StringBuilder;"⟩ : MethodName) jdk_67_method_7_code 2 (some (.object "java/lang/StringBuilder")) ws ({ frames := 4, cells := 0, slots := 0, locals := 61 } : Room) ({ frames := 4, cells := 0, slots := 0, locals := 61 } : Room).cells ({ frames := 4, cells := 0, slots := 0, locals := 61 } : Room).slots Z #[(.ref a1), (.ref a2)] h0 n0 (Q1034r Z a1 a2 a kd bs tl t k cs w_DigitOnes w_DigitTens zc fm k_ones k_tens h0 n0) := by
  refine Meets.of (F := fun m => mkF m 0 #[.val (.ref a1), .val (.ref a2)] []) (plainFor_of_name pn_2) (fun m => ef_1034r m a1 a2) ?_
  intro p e s m below meth c T0 hx hby hml hown0 hnm hret hlk hZ X0 e0
  have hown : s.vm.findClass "java/lang/StringBuilder" = some m.cls := hown0
  have N0 := Fr.nil n0
  have KC0 := Keep.refl h0 [a1, a]
  obtain ⟨z0, z1, z2, z3, z4, z5, z6, hzc, z8, hfm, -⟩ := SF
  show Goes _ _ _ _ _ _ (T0.setTop (mkF m 0 #[.val (.ref a1), .val (.ref a2)] []))
  refine own_aloadN X0 hx (hb hby d10_0) rfl rfl ?_
  refine own_aloadN X0 hx (hb hby d10_1) rfl rfl ?_
  refine own_specialUp X0 hx hZ hown (y := (⟨"java/lang/AbstractStringBuilder", "append", "(Ljava/lang/String;)Ljava/lang/AbstractStringBuilder;"⟩ : MethodName)) (own_w hw 57 rfl) (own_w hw 58 rfl) (own_w hw 59 rfl) (own_w hw 77 rfl) rfl (own_w hw 44 rfl) (own_w hw 61 rfl) (a := a1) f0 (by decide) (by decide) (W := 0) (by decide) (by decide) N0 e0 (by rw [hml]; rfl) (argsL := [(.ref a2)]) (rest := []) (lenOf pd_10 rfl) (Nat.le_of_eq rfl) (by decide) (by decide) (rm1134r l Z a0 hw [] a1 a2 a kd bs tl t k cs w_DigitOnes w_DigitTens zc fm k_ones k_tens h0 n0 O0 ⟨z0, z1, z2, z3, z4, z5, z6, hzc, z8, hfm, trivial⟩ f0 f1 f2 f3 f4 f5 f6 hcap f8 f9 f10 f11 hfit) rfl (hb hby d10_2) ?_
  intro v1 T1 lc1 X1 N1 hQ1
  obtain ⟨rfl, K1, r1_0, r1_1, r1_2, r1_3, r1_4⟩ := hQ1
  have O2 := O0.keep K1 (allS f5 (allS f6 all0))
  have KC2 := KC0.trans K1 (allS (Or.inl (List.mem_of_getElem? (i := 0) rfl)) (allS (Or.inl (List.mem_of_getElem? (i := 1) rfl)) all0))
  refine own_pop X1 hx (hb hby d10_5) rfl ?_
  refine own_aloadN X1 hx (hb hby d10_6) rfl rfl ?_
  show Goes _ _ _ _ _ _ (T1.setTop (mkF m 7 #[.val (.ref a1), .val (.ref a2)] [(.ref a1)]))
  exact own_retR X1 hx N1 hlk (by decide) (by decide) hret rfl rfl rfl (hb hby d10_7) (⟨rfl, KC2, r1_0, r1_1, r1_2, r1_3, r1_4⟩)
def Q1116g (Z : State) (a1 : Addr) (a2 : Addr) (a : Addr) (kd : ClassId) (bs : List Int32) (tl : List Value) (t : Addr) (k : ClassId) (cs : List Int32) (w_DigitOnes : Addr) (w_DigitTens : Addr) (zc : Int32) (fm : Value) (k_ones : ClassId) (k_tens : ClassId) (h0 : Heap) (n0 : Nat) (v : Option Value) (h : Heap) : Prop :=
  (∃ (an : Addr) (kn : ClassId), v = some (.ref a1) ∧ Keep h0 h [a1] ∧ Fld Z h a1 "java/lang/AbstractStringBuilder" "value" "[B" (.ref an) ∧ Fld Z h a1 "java/lang/AbstractStringBuilder" "coder" "B" (.int (0 : Int32)) ∧ Fld Z h a1 "java/lang/AbstractStringBuilder" "count" "I" (.int (Int32.ofNat (bs ++ cs).length)) ∧ h0.size ≤ an ∧ Arv Z h an kn .byte (34 : Int32) (bl (bs ++ cs) ++ ((tl ++ (List.replicate 18 (Value.int (0 : Int32)))).drop cs.length)) (.int (0 : Int32)) ∧ (bs ++ cs).length + ((tl ++ (List.replicate 18 (Value.int (0 : Int32)))).drop cs.length).length = 34)
theorem ef_1116g (m : MethodId) (a1 : Addr) (a2 : Addr) : entryFrame m #[(.ref a1), (.ref a2)] 3 = mkF m 0 #[.val (.ref a1), .val (.ref a2), .unset] [] := by first | (simp [entryFrame, mkF, argsToLocals, Value.category]; done) | rfl
set_option maxRecDepth 65536 in
set_option maxHeartbeats 40000000 in
theorem rm1116g (l : Launch) (Z : State) (a0 : Array Value) (hw : ∀ d ∈ tables_1, d.before a0 Z = true) (ws : List Jvm.Cond) (a1 : Addr) (a2 : Addr) (a : Addr) (kd : ClassId) (bs : List Int32) (tl : List Value) (t : Addr) (k : ClassId) (cs : List Int32) (w_DigitOnes : Addr) (w_DigitTens : Addr) (zc : Int32) (fm : Value) (k_ones : ClassId) (k_tens : ClassId) (h0 : Heap) (n0 : Nat) (O0 : Old Z n0 h0) (SF : Start Z w_DigitOnes w_DigitTens zc fm k_ones k_tens) (f0 : Exa Z h0 a1 "java/lang/StringBuilder") (f1 : Fld Z h0 a1 "java/lang/AbstractStringBuilder" "value" "[B" (.ref a)) (f2 : Fld Z h0 a1 "java/lang/AbstractStringBuilder" "coder" "B" (.int (0 : Int32))) (f3 : Fld Z h0 a1 "java/lang/AbstractStringBuilder" "count" "I" (.int (Int32.ofNat bs.length))) (f4 : Arv Z h0 a kd .byte (16 : Int32) (bl bs ++ tl) (.int (0 : Int32))) (f5 : Exa Z h0 a "[B") (f6 : n0 ≤ a1) (f7 : n0 ≤ a) (hcap : bs.length + tl.length = 16) (f9 : Exa Z h0 a2 "java/lang/String") (f10 : Fld Z h0 a2 "java/lang/String" "value" "[B" (.ref t)) (f11 : Fld Z h0 a2 "java/lang/String" "coder" "B" (.int (0 : Int32))) (f12 : Arv Z h0 t k .byte (Int32.ofNat cs.length) (bl cs) (.int (0 : Int32))) (hgt : 16 < bs.length + cs.length) (hle : bs.length + cs.length ≤ 34) :
    Meets l (⟨"java/lang/AbstractStringBuilder", "append", "(Ljava/lang/String;)Ljava/lang/AbstractStringBuilder;"⟩ : MethodName) jdk_68_method_22_code 3 (some (.object "java/lang/AbstractStringBuilder")) ws ({ frames := 4, cells := 1, slots := 34, locals := 62 } : Room) ({ frames := 4, cells := 1, slots := 34, locals := 62 } : Room).cells ({ frames := 4, cells := 1, slots := 34, locals := 62 } : Room).slots Z #[(.ref a1), (.ref a2)] h0 n0 (Q1116g Z a1 a2 a kd bs tl t k cs w_DigitOnes w_DigitTens zc fm k_ones k_tens h0 n0) := by
  refine Meets.of (F := fun m => mkF m 0 #[.val (.ref a1), .val (.ref a2), .unset] []) (plainFor_of_name pn_1) (fun m => ef_1116g m a1 a2) ?_
  intro p e s m below meth c T0 hx hby hml hown0 hnm hret hlk hZ X0 e0
  have hown : s.vm.findClass "java/lang/AbstractStringBuilder" = some m.cls := hown0
  have N0 := Fr.nil n0
  have KC0 := Keep.refl h0 [a1]
  obtain ⟨z0, z1, z2, z3, z4, z5, z6, hzc, z8, hfm, -⟩ := SF
  show Goes _ _ _ _ _ _ (T0.setTop (mkF m 0 #[.val (.ref a1), .val (.ref a2), .unset] []))
  refine own_aloadN X0 hx (hb hby d11_0) rfl rfl ?_
  refine own_ifnonnullYes X0 hx (pc' := 9) (hb hby d11_1) (by decide) (by decide) ?_
  refine own_aloadN X0 hx (hb hby d11_9) rfl rfl ?_
  refine own_virtual X0 hx hZ hown (y := (⟨"java/lang/String", "length", "()I"⟩ : MethodName)) (z := (⟨"java/lang/String", "length", "()I"⟩ : MethodName)) (own_w hw 62 rfl) (own_w hw 63 rfl) (notFace_of_selects (args := #[]) (mvT hZ (own_w hw 65 rfl))) (own_w hw 65 rfl) (own_w hw 64 rfl) (own_w hw 2 rfl) (own_w hw 66 rfl) (a := a2) f9 (by decide) (W := 0) (by decide) (by decide) N0 e0 (by rw [hml]; rfl) (argsL := []) (rest := []) (lenOf pd_8 rfl) (Nat.le_of_eq rfl) (by decide) (by decide) (rm12 l Z a0 hw [] a2 t k cs w_DigitOnes w_DigitTens zc fm k_ones k_tens h0 n0 O0 ⟨z0, z1, z2, z3, z4, z5, z6, hzc, z8, hfm, trivial⟩ f9 f10 f11 f12) rfl (hb hby d11_10) ?_
  intro v1 T1 lc1 X1 N1 hQ1
  obtain ⟨rfl, e1⟩ := hQ1
  refine own_istoreN X1 hx (Ls' := #[.val (.ref a1), .val (.ref a2), .val (.int (Int32.ofNat cs.length))]) (hb hby d11_13) rfl ?_
  refine own_aloadN X1 hx (hb hby d11_14) rfl rfl ?_
  refine own_aloadN X1 hx (hb hby d11_15) rfl rfl ?_
  refine own_getF X1 hx hZ hown (host := "") (Or.inl (own_w hw 72 rfl)) Via.refl e1 f3 (hb hby d11_16) (fun T2 X2 e2 => ?_)
  refine own_iloadN X2 hx (hb hby d11_19) rfl ?_
  refine own_iadd X2 hx (hb hby d11_20) ?_
  refine own_privateS X2 hx hZ hown (y := (⟨"java/lang/AbstractStringBuilder", "ensureCapacityInternal", "(I)V"⟩ : MethodName)) (own_w hw 74 rfl) (own_w hw 75 rfl) (own_w hw 77 rfl) (own_w hw 76 rfl) (own_w hw 44 rfl) (own_w hw 78 rfl) (a := a1) f0 (by decide) (W := 0) (by decide) (by decide) N1 e2 (by rw [hml]; rfl) (argsL := [(.int ((Int32.ofNat bs.length) + (Int32.ofNat cs.length)))]) (rest := []) (lenOf pd_1 rfl) (Nat.le_of_eq rfl) (by decide) (by decide) (rm1416g l Z a0 hw [] a1 ((Int32.ofNat bs.length) + (Int32.ofNat cs.length)) a kd bs tl (bs.length + cs.length) (Int32.ofNat bs.length) h0 n0 O0 f0 f1 f2 f3 f4 f6 hcap (own_add _ _) hgt hle) rfl (hb hby d11_21) ?_
  intro v3 T3 lc3 X3 N3 hQ3
  obtain ⟨an_3, kn_3, rfl, K3, r3_0, r3_1, r3_2, r3_3, r3_4⟩ := hQ3
  have E4_a1 := f0.keep K3
  have E4_a2 := f9.keep K3
  have F4_value_a2 := f10.keep K3 (ninS (ne_exa f9 f0 (by decide)) nin0)
  have F4_coder_a2 := f11.keep K3 (ninS (ne_exa f9 f0 (by decide)) nin0)
  have A4_t := f12.keep K3 (ninS (Ne.symm (Exa.neArv f0 f12 (own_w hw 35 rfl))) nin0)
  have O4 := O0.keep K3 (allS f6 all0)
  have KC4 := KC0.trans K3 (allS (Or.inl (List.mem_of_getElem? (i := 0) rfl)) all0)
  have ne_a1_an_3 : a1 ≠ an_3 := Nat.ne_of_lt (Nat.lt_of_lt_of_le f0.lt r3_3)
  have ge_an_3 : n0 ≤ an_3 := Nat.le_trans (own_sz O0) r3_3
  have sz_an_3 : h0.size ≤ an_3 := Nat.le_trans KC0.1 r3_3
  refine own_aloadN X3 hx (hb hby d11_24) rfl rfl ?_
  refine own_aloadN X3 hx (hb hby d11_25) rfl rfl ?_
  refine own_getF X3 hx hZ hown (host := "") (Or.inl (own_w hw 72 rfl)) Via.refl rfl r3_2 (hb hby d11_26) (fun T5 X5 e5 => ?_)
  refine own_aloadN X5 hx (hb hby d11_29) rfl rfl ?_
  refine own_privateS X5 hx hZ hown (y := (⟨"java/lang/AbstractStringBuilder", "putStringAt", "(ILjava/lang/String;)V"⟩ : MethodName)) (own_w hw 79 rfl) (own_w hw 80 rfl) (own_w hw 82 rfl) (own_w hw 81 rfl) (own_w hw 44 rfl) (own_w hw 83 rfl) (a := a1) E4_a1 (by decide) (W := 0) (by decide) (by decide) N3 e5 (by rw [hml]; rfl) (argsL := [(.int (Int32.ofNat bs.length)), (.ref a2)]) (rest := []) (lenOf pd_9 rfl) (Nat.le_of_eq rfl) (by decide) (by decide) (rm1534 l Z a0 hw [] a1 a2 an_3 kn_3 bs (tl ++ (List.replicate 18 (Value.int (0 : Int32)))) t k cs w_DigitOnes w_DigitTens zc fm k_ones k_tens T3.heap n0 O4 ⟨z0, z1, z2, z3, z4, z5, z6, hzc, z8, hfm, trivial⟩ E4_a1 r3_0 r3_1 r3_4 ge_an_3 (by simp only [List.length_append, List.length_drop, List.length_replicate, dg_len] <;> omega) E4_a2 F4_value_a2 F4_coder_a2 A4_t (by simp only [List.length_append, List.length_drop, List.length_replicate, dg_len] <;> omega)) rfl (hb hby d11_30) ?_
  intro v6 T6 lc6 X6 N6 hQ6
  obtain ⟨rfl, K6, r6_0⟩ := hQ6
  have E7_a1 := E4_a1.keep K6
  have F7_value_a1 := r3_0.keep K6 (ninS ne_a1_an_3 nin0)
  have F7_coder_a1 := r3_1.keep K6 (ninS ne_a1_an_3 nin0)
  have F7_count_a1 := r3_2.keep K6 (ninS ne_a1_an_3 nin0)
  have O7 := O4.keep K6 (allS ge_an_3 all0)
  have KC7 := KC4.trans K6 (allS (Or.inr sz_an_3) all0)
  refine own_aloadN X6 hx (hb hby d11_33) rfl rfl ?_
  refine own_dup X6 hx (hb hby d11_34) rfl ?_
  refine own_getF X6 hx hZ hown (host := "") (Or.inl (own_w hw 72 rfl)) Via.refl rfl F7_count_a1 (hb hby d11_35) (fun T8 X8 e8 => ?_)
  refine own_iloadN X8 hx (hb hby d11_38) rfl ?_
  refine own_iadd X8 hx (hb hby d11_39) ?_
  refine own_putF X8 hx hZ hown N6 (host := "") (Or.inl (own_w hw 72 rfl)) Via.refl e8 F7_count_a1 E7_a1 (Or.inl (own_w hw 73 rfl)) (own_w hw 35 rfl) (ty := .int) (by decide) rfl rfl f6 (hb hby d11_40) (fun T9 h9 lc9 X9 e9 N9 W9 => ?_)
  have F10_value_a1 := F7_value_a1.other W9 (Or.inr (slot_ne (Or.inl (own_w hw 49 rfl)) (Or.inl (own_w hw 73 rfl)) (by decide) (t := (.array .byte)) (t' := .int) (by decide) (by decide)))
  have F10_coder_a1 := F7_coder_a1.other W9 (Or.inr (slot_ne (Or.inl (own_w hw 51 rfl)) (Or.inl (own_w hw 73 rfl)) (by decide) (t := .byte) (t' := .int) (by decide) (by decide)))
  have F10_count_a1 := F7_count_a1.same W9
  have A10_an_3 := r6_0.other W9 (Ne.symm ne_a1_an_3)
  have O10 := O7.wr W9 f6
  have KC10 := KC7.wr W9 (Or.inl (List.mem_of_getElem? (i := 0) rfl))
  refine own_aloadN X9 hx (hb hby d11_43) rfl rfl ?_
  show Goes _ _ _ _ _ _ (T9.setTop (mkF m 44 #[.val (.ref a1), .val (.ref a2), .val (.int (Int32.ofNat cs.length))] [(.ref a1)]))
  exact own_retR X9 hx N9 hlk (by decide) (by decide) hret rfl rfl rfl (hb hby d11_44) (by rw [e9]; exact ⟨an_3, kn_3, rfl, KC10, F10_value_a1, F10_coder_a1, (by rw [← own_addL]; exact F10_count_a1), sz_an_3, A10_an_3, (by simp only [List.length_append, List.length_drop, List.length_replicate, dg_len] <;> omega)⟩)
def Q1016g (Z : State) (a1 : Addr) (a2 : Addr) (a : Addr) (kd : ClassId) (bs : List Int32) (tl : List Value) (t : Addr) (k : ClassId) (cs : List Int32) (w_DigitOnes : Addr) (w_DigitTens : Addr) (zc : Int32) (fm : Value) (k_ones : ClassId) (k_tens : ClassId) (h0 : Heap) (n0 : Nat) (v : Option Value) (h : Heap) : Prop :=
  (∃ (an : Addr) (kn : ClassId), v = some (.ref a1) ∧ Keep h0 h [a1] ∧ Fld Z h a1 "java/lang/AbstractStringBuilder" "value" "[B" (.ref an) ∧ Fld Z h a1 "java/lang/AbstractStringBuilder" "coder" "B" (.int (0 : Int32)) ∧ Fld Z h a1 "java/lang/AbstractStringBuilder" "count" "I" (.int (Int32.ofNat (bs ++ cs).length)) ∧ h0.size ≤ an ∧ Arv Z h an kn .byte (34 : Int32) (bl (bs ++ cs) ++ ((tl ++ (List.replicate 18 (Value.int (0 : Int32)))).drop cs.length)) (.int (0 : Int32)) ∧ (bs ++ cs).length + ((tl ++ (List.replicate 18 (Value.int (0 : Int32)))).drop cs.length).length = 34)
theorem ef_1016g (m : MethodId) (a1 : Addr) (a2 : Addr) : entryFrame m #[(.ref a1), (.ref a2)] 2 = mkF m 0 #[.val (.ref a1), .val (.ref a2)] [] := by first | (simp [entryFrame, mkF, argsToLocals, Value.category]; done) | rfl
set_option maxRecDepth 65536 in
set_option maxHeartbeats 40000000 in
theorem rm1016g (l : Launch) (Z : State) (a0 : Array Value) (hw : ∀ d ∈ tables_1, d.before a0 Z = true) (ws : List Jvm.Cond) (a1 : Addr) (a2 : Addr) (a : Addr) (kd : ClassId) (bs : List Int32) (tl : List Value) (t : Addr) (k : ClassId) (cs : List Int32) (w_DigitOnes : Addr) (w_DigitTens : Addr) (zc : Int32) (fm : Value) (k_ones : ClassId) (k_tens : ClassId) (h0 : Heap) (n0 : Nat) (O0 : Old Z n0 h0) (SF : Start Z w_DigitOnes w_DigitTens zc fm k_ones k_tens) (f0 : Exa Z h0 a1 "java/lang/StringBuilder") (f1 : Fld Z h0 a1 "java/lang/AbstractStringBuilder" "value" "[B" (.ref a)) (f2 : Fld Z h0 a1 "java/lang/AbstractStringBuilder" "coder" "B" (.int (0 : Int32))) (f3 : Fld Z h0 a1 "java/lang/AbstractStringBuilder" "count" "I" (.int (Int32.ofNat bs.length))) (f4 : Arv Z h0 a kd .byte (16 : Int32) (bl bs ++ tl) (.int (0 : Int32))) (f5 : Exa Z h0 a "[B") (f6 : n0 ≤ a1) (f7 : n0 ≤ a) (hcap : bs.length + tl.length = 16) (f9 : Exa Z h0 a2 "java/lang/String") (f10 : Fld Z h0 a2 "java/lang/String" "value" "[B" (.ref t)) (f11 : Fld Z h0 a2 "java/lang/String" "coder" "B" (.int (0 : Int32))) (f12 : Arv Z h0 t k .byte (Int32.ofNat cs.length) (bl cs) (.int (0 : Int32))) (hgt : 16 < bs.length + cs.length) (hle : bs.length + cs.length ≤ 34) :
    Meets l (⟨"java/lang/StringBuilder", "append", "(Ljava/lang/String;)Ljava/lang/StringBuilder;"⟩ : MethodName) jdk_67_method_7_code 2 (some (.object "java/lang/StringBuilder")) ws ({ frames := 5, cells := 1, slots := 34, locals := 76 } : Room) ({ frames := 5, cells := 1, slots := 34, locals := 76 } : Room).cells ({ frames := 5, cells := 1, slots := 34, locals := 76 } : Room).slots Z #[(.ref a1), (.ref a2)] h0 n0 (Q1016g Z a1 a2 a kd bs tl t k cs w_DigitOnes w_DigitTens zc fm k_ones k_tens h0 n0) := by
  refine Meets.of (F := fun m => mkF m 0 #[.val (.ref a1), .val (.ref a2)] []) (plainFor_of_name pn_2) (fun m => ef_1016g m a1 a2) ?_
  intro p e s m below meth c T0 hx hby hml hown0 hnm hret hlk hZ X0 e0
  have hown : s.vm.findClass "java/lang/StringBuilder" = some m.cls := hown0
  have N0 := Fr.nil n0
  have KC0 := Keep.refl h0 [a1]
  obtain ⟨z0, z1, z2, z3, z4, z5, z6, hzc, z8, hfm, -⟩ := SF
  show Goes _ _ _ _ _ _ (T0.setTop (mkF m 0 #[.val (.ref a1), .val (.ref a2)] []))
  refine own_aloadN X0 hx (hb hby d10_0) rfl rfl ?_
  refine own_aloadN X0 hx (hb hby d10_1) rfl rfl ?_
  refine own_specialUp X0 hx hZ hown (y := (⟨"java/lang/AbstractStringBuilder", "append", "(Ljava/lang/String;)Ljava/lang/AbstractStringBuilder;"⟩ : MethodName)) (own_w hw 57 rfl) (own_w hw 58 rfl) (own_w hw 59 rfl) (own_w hw 77 rfl) rfl (own_w hw 44 rfl) (own_w hw 61 rfl) (a := a1) f0 (by decide) (by decide) (W := 0) (by decide) (by decide) N0 e0 (by rw [hml]; rfl) (argsL := [(.ref a2)]) (rest := []) (lenOf pd_10 rfl) (Nat.le_of_eq rfl) (by decide) (by decide) (rm1116g l Z a0 hw [] a1 a2 a kd bs tl t k cs w_DigitOnes w_DigitTens zc fm k_ones k_tens h0 n0 O0 ⟨z0, z1, z2, z3, z4, z5, z6, hzc, z8, hfm, trivial⟩ f0 f1 f2 f3 f4 f5 f6 f7 hcap f9 f10 f11 f12 hgt hle) rfl (hb hby d10_2) ?_
  intro v1 T1 lc1 X1 N1 hQ1
  obtain ⟨an_1, kn_1, rfl, K1, r1_0, r1_1, r1_2, r1_3, r1_4, r1_5⟩ := hQ1
  have O2 := O0.keep K1 (allS f6 all0)
  have KC2 := KC0.trans K1 (allS (Or.inl (List.mem_of_getElem? (i := 0) rfl)) all0)
  have ge_an_1 : n0 ≤ an_1 := Nat.le_trans (own_sz O0) r1_3
  have sz_an_1 : h0.size ≤ an_1 := Nat.le_trans KC0.1 r1_3
  refine own_pop X1 hx (hb hby d10_5) rfl ?_
  refine own_aloadN X1 hx (hb hby d10_6) rfl rfl ?_
  show Goes _ _ _ _ _ _ (T1.setTop (mkF m 7 #[.val (.ref a1), .val (.ref a2)] [(.ref a1)]))
  exact own_retR X1 hx N1 hlk (by decide) (by decide) hret rfl rfl rfl (hb hby d10_7) (⟨an_1, kn_1, rfl, KC2, r1_0, r1_1, r1_2, sz_an_1, r1_4, r1_5⟩)
theorem d21_0 : decode jdk_33_method_13_code 0 = .ok (.iconst 1, 1) := by decide +kernel
theorem d21_1 : decode jdk_33_method_13_code 1 = .ok (.istore_n 1, 1) := by decide +kernel
theorem d21_2 : decode jdk_33_method_13_code 2 = .ok (.iload_n 0, 1) := by decide +kernel
theorem d21_3 : decode jdk_33_method_13_code 3 = .ok (.ifCond .lt 8, 3) := by decide +kernel
theorem d21_6 : decode jdk_33_method_13_code 6 = .ok (.iconst 0, 1) := by decide +kernel
theorem d21_7 : decode jdk_33_method_13_code 7 = .ok (.istore_n 1, 1) := by decide +kernel
theorem d21_8 : decode jdk_33_method_13_code 8 = .ok (.iload_n 0, 1) := by decide +kernel
theorem d21_9 : decode jdk_33_method_13_code 9 = .ok (.ineg, 1) := by decide +kernel
theorem d21_10 : decode jdk_33_method_13_code 10 = .ok (.istore_n 0, 1) := by decide +kernel
theorem d21_11 : decode jdk_33_method_13_code 11 = .ok (.bipush (-10), 2) := by decide +kernel
theorem d21_13 : decode jdk_33_method_13_code 13 = .ok (.istore_n 2, 1) := by decide +kernel
theorem d21_14 : decode jdk_33_method_13_code 14 = .ok (.iconst 1, 1) := by decide +kernel
theorem d21_15 : decode jdk_33_method_13_code 15 = .ok (.istore_n 3, 1) := by decide +kernel
theorem d21_16 : decode jdk_33_method_13_code 16 = .ok (.iload_n 3, 1) := by decide +kernel
theorem d21_17 : decode jdk_33_method_13_code 17 = .ok (.bipush 10, 2) := by decide +kernel
theorem d21_19 : decode jdk_33_method_13_code 19 = .ok (.if_icmp .ge 23, 3) := by decide +kernel
theorem d21_22 : decode jdk_33_method_13_code 22 = .ok (.iload_n 0, 1) := by decide +kernel
theorem d21_23 : decode jdk_33_method_13_code 23 = .ok (.iload_n 2, 1) := by decide +kernel
theorem d21_24 : decode jdk_33_method_13_code 24 = .ok (.if_icmp .le 7, 3) := by decide +kernel
theorem d21_27 : decode jdk_33_method_13_code 27 = .ok (.iload_n 3, 1) := by decide +kernel
theorem d21_28 : decode jdk_33_method_13_code 28 = .ok (.iload_n 1, 1) := by decide +kernel
theorem d21_29 : decode jdk_33_method_13_code 29 = .ok (.iadd, 1) := by decide +kernel
theorem d21_30 : decode jdk_33_method_13_code 30 = .ok (.ireturn, 1) := by decide +kernel
theorem d21_31 : decode jdk_33_method_13_code 31 = .ok (.bipush 10, 2) := by decide +kernel
theorem d21_33 : decode jdk_33_method_13_code 33 = .ok (.iload_n 2, 1) := by decide +kernel
theorem d21_34 : decode jdk_33_method_13_code 34 = .ok (.imul, 1) := by decide +kernel
theorem d21_35 : decode jdk_33_method_13_code 35 = .ok (.istore_n 2, 1) := by decide +kernel
theorem d21_36 : decode jdk_33_method_13_code 36 = .ok (.iinc 3 1, 3) := by decide +kernel
theorem d21_39 : decode jdk_33_method_13_code 39 = .ok (.goto (-23), 3) := by decide +kernel
theorem d21_42 : decode jdk_33_method_13_code 42 = .ok (.bipush 10, 2) := by decide +kernel
theorem d21_44 : decode jdk_33_method_13_code 44 = .ok (.iload_n 1, 1) := by decide +kernel
theorem d21_45 : decode jdk_33_method_13_code 45 = .ok (.iadd, 1) := by decide +kernel
theorem d21_46 : decode jdk_33_method_13_code 46 = .ok (.ireturn, 1) := by decide +kernel
theorem pn_5 : plainName "java/lang/Integer" = true := by first | (simp [plainName, overriddenIn]; done) | decide +kernel
def Q21 (Z : State) (p1 : Int32) (h0 : Heap) (n0 : Nat) (v : Option Value) (h : Heap) : Prop :=
  (v = some (.int (Int32.ofNat (nd p1.toNatClampNeg))) ∧ h = h0)
theorem ef_21 (m : MethodId) (p1 : Int32) : entryFrame m #[(.int p1)] 4 = mkF m 0 #[.val (.int p1), .unset, .unset, .unset] [] := by first | (simp [entryFrame, mkF, argsToLocals, Value.category]; done) | rfl
set_option maxRecDepth 65536 in
set_option maxHeartbeats 40000000 in
theorem rm21 (l : Launch) (Z : State) (a0 : Array Value) (hw : ∀ d ∈ tables_1, d.before a0 Z = true) (ws : List Jvm.Cond) (p1 : Int32) (h0 : Heap) (n0 : Nat) (O0 : Old Z n0 h0) (hpos : (0 : Int32) < p1) :
    Meets l (⟨"java/lang/Integer", "stringSize", "(I)I"⟩ : MethodName) jdk_33_method_13_code 4 (some .int) ws ({ frames := 0, cells := 0, slots := 0, locals := 0 } : Room) ({ frames := 0, cells := 0, slots := 0, locals := 0 } : Room).cells ({ frames := 0, cells := 0, slots := 0, locals := 0 } : Room).slots Z #[(.int p1)] h0 n0 (Q21 Z p1 h0 n0) := by
  refine Meets.of (F := fun m => mkF m 0 #[.val (.int p1), .unset, .unset, .unset] []) (plainFor_of_name pn_5) (fun m => ef_21 m p1) ?_
  intro p e s m below meth c T0 hx hby hml hown0 hnm hret hlk hZ X0 e0
  have hown : s.vm.findClass "java/lang/Integer" = some m.cls := hown0
  have N0 := Fr.nil n0
  show Goes _ _ _ _ _ _ (T0.setTop (mkF m 0 #[.val (.int p1), .unset, .unset, .unset] []))
  refine own_iconst X0 hx (v := (1 : Int32)) (hb hby d21_0) rfl ?_
  refine own_istoreN X0 hx (Ls' := #[.val (.int p1), .val (.int (1 : Int32)), .unset, .unset]) (hb hby d21_1) rfl ?_
  refine own_iloadN X0 hx (hb hby d21_2) rfl ?_
  refine own_ifNo X0 hx (hb hby d21_3) ((if0 _ _).trans (flt ((own_pneg hpos) : ¬ (p1 < (0 : Int32)))).1) ?_
  refine own_iconst X0 hx (v := (0 : Int32)) (hb hby d21_6) rfl ?_
  refine own_istoreN X0 hx (Ls' := #[.val (.int p1), .val (.int (0 : Int32)), .unset, .unset]) (hb hby d21_7) rfl ?_
  refine own_iloadN X0 hx (hb hby d21_8) rfl ?_
  refine own_ineg X0 hx (hb hby d21_9) ?_
  refine own_istoreN X0 hx (Ls' := #[.val (.int (-p1)), .val (.int (0 : Int32)), .unset, .unset]) (hb hby d21_10) rfl ?_
  show Goes _ _ _ _ _ _ (T0.setTop (mkF m 11 #[.val (.int (-p1)), .val (.int (0 : Int32)), .unset, .unset] []))
  refine own_bipush X0 hx (v := (-10 : Int32)) (hb hby d21_11) rfl ?_
  refine own_istoreN X0 hx (Ls' := #[.val (.int (-p1)), .val (.int (0 : Int32)), .val (.int (-10 : Int32)), .unset]) (hb hby d21_13) rfl ?_
  refine own_iconst X0 hx (v := (1 : Int32)) (hb hby d21_14) rfl ?_
  refine own_istoreN X0 hx (Ls' := #[.val (.int (-p1)), .val (.int (0 : Int32)), .val (.int (-10 : Int32)), .val (.int (1 : Int32))]) (hb hby d21_15) rfl ?_
  refine own_iloadN X0 hx (hb hby d21_16) rfl ?_
  refine own_bipush X0 hx (v := (10 : Int32)) (hb hby d21_17) rfl ?_
  refine own_icmpNo X0 hx (hb hby d21_19) (tlt (by decide : (1 : Int32) < (10 : Int32))).2.1 ?_
  refine own_iloadN X0 hx (hb hby d21_22) rfl ?_
  refine own_iloadN X0 hx (hb hby d21_23) rfl ?_
  by_cases hc24_1 : (-10 : Int32) < (-p1)
  ·
    refine own_icmpNo X0 hx (hb hby d21_24) (tlt (hc24_1 : (-10 : Int32) < (-p1))).2.2.2 ?_
    refine own_iloadN X0 hx (hb hby d21_27) rfl ?_
    refine own_iloadN X0 hx (hb hby d21_28) rfl ?_
    refine own_iadd X0 hx (hb hby d21_29) ?_
    show Goes _ _ _ _ _ _ (T0.setTop (mkF m 30 #[.val (.int (-p1)), .val (.int (0 : Int32)), .val (.int (-10 : Int32)), .val (.int (1 : Int32))] [(.int ((1 : Int32) + (0 : Int32)))]))
    rw [show ((1 : Int32) + (0 : Int32)) = (1 : Int32) by decide]
    exact own_retI X0 hx N0 hlk (by decide) (by decide) hret (hb hby d21_30) (by rw [e0]; exact ⟨(congrArg (fun z => some (Value.int z)) (own_sz1 hpos hc24_1)), rfl⟩)
  ·
    refine own_icmpYes X0 hx (pc' := 31) (hb hby d21_24) (flt (hc24_1 : ¬ ((-10 : Int32) < (-p1)))).2.2.2 (by decide) (by decide) ?_
    refine own_bipush X0 hx (v := (10 : Int32)) (hb hby d21_31) rfl ?_
    refine own_iloadN X0 hx (hb hby d21_33) rfl ?_
    refine own_imul X0 hx (hb hby d21_34) ?_
    show Goes _ _ _ _ _ _ (T0.setTop (mkF m 35 #[.val (.int (-p1)), .val (.int (0 : Int32)), .val (.int (-10 : Int32)), .val (.int (1 : Int32))] [(.int ((10 : Int32) * (-10 : Int32)))]))
    rw [show ((10 : Int32) * (-10 : Int32)) = (-100 : Int32) by decide]
    refine own_istoreN X0 hx (Ls' := #[.val (.int (-p1)), .val (.int (0 : Int32)), .val (.int (-100 : Int32)), .val (.int (1 : Int32))]) (hb hby d21_35) rfl ?_
    refine own_iinc X0 hx (Ls' := #[.val (.int (-p1)), .val (.int (0 : Int32)), .val (.int (-100 : Int32)), .val (.int ((1 : Int32) + (1 : Int32)))]) (hb hby d21_36) rfl rfl ?_
    refine own_goto X0 hx (pc' := 16) (hb hby d21_39) (by decide) (by decide) ?_
    refine own_iloadN X0 hx (hb hby d21_16) rfl ?_
    refine own_bipush X0 hx (v := (10 : Int32)) (hb hby d21_17) rfl ?_
    refine own_icmpNo X0 hx (hb hby d21_19) (tlt (by decide : ((1 : Int32) + (1 : Int32)) < (10 : Int32))).2.1 ?_
    refine own_iloadN X0 hx (hb hby d21_22) rfl ?_
    refine own_iloadN X0 hx (hb hby d21_23) rfl ?_
    by_cases hc24_2 : (-100 : Int32) < (-p1)
    ·
      refine own_icmpNo X0 hx (hb hby d21_24) (tlt (hc24_2 : (-100 : Int32) < (-p1))).2.2.2 ?_
      refine own_iloadN X0 hx (hb hby d21_27) rfl ?_
      refine own_iloadN X0 hx (hb hby d21_28) rfl ?_
      refine own_iadd X0 hx (hb hby d21_29) ?_
      show Goes _ _ _ _ _ _ (T0.setTop (mkF m 30 #[.val (.int (-p1)), .val (.int (0 : Int32)), .val (.int (-100 : Int32)), .val (.int ((1 : Int32) + (1 : Int32)))] [(.int (((1 : Int32) + (1 : Int32)) + (0 : Int32)))]))
      rw [show (((1 : Int32) + (1 : Int32)) + (0 : Int32)) = (2 : Int32) by decide]
      exact own_retI X0 hx N0 hlk (by decide) (by decide) hret (hb hby d21_30) (by rw [e0]; exact ⟨(congrArg (fun z => some (Value.int z)) (own_sz2 hpos hc24_1 hc24_2)), rfl⟩)
    ·
      refine own_icmpYes X0 hx (pc' := 31) (hb hby d21_24) (flt (hc24_2 : ¬ ((-100 : Int32) < (-p1)))).2.2.2 (by decide) (by decide) ?_
      refine own_bipush X0 hx (v := (10 : Int32)) (hb hby d21_31) rfl ?_
      refine own_iloadN X0 hx (hb hby d21_33) rfl ?_
      refine own_imul X0 hx (hb hby d21_34) ?_
      show Goes _ _ _ _ _ _ (T0.setTop (mkF m 35 #[.val (.int (-p1)), .val (.int (0 : Int32)), .val (.int (-100 : Int32)), .val (.int ((1 : Int32) + (1 : Int32)))] [(.int ((10 : Int32) * (-100 : Int32)))]))
      rw [show ((10 : Int32) * (-100 : Int32)) = (-1000 : Int32) by decide]
      refine own_istoreN X0 hx (Ls' := #[.val (.int (-p1)), .val (.int (0 : Int32)), .val (.int (-1000 : Int32)), .val (.int ((1 : Int32) + (1 : Int32)))]) (hb hby d21_35) rfl ?_
      refine own_iinc X0 hx (Ls' := #[.val (.int (-p1)), .val (.int (0 : Int32)), .val (.int (-1000 : Int32)), .val (.int (((1 : Int32) + (1 : Int32)) + (1 : Int32)))]) (hb hby d21_36) rfl rfl ?_
      refine own_goto X0 hx (pc' := 16) (hb hby d21_39) (by decide) (by decide) ?_
      refine own_iloadN X0 hx (hb hby d21_16) rfl ?_
      refine own_bipush X0 hx (v := (10 : Int32)) (hb hby d21_17) rfl ?_
      refine own_icmpNo X0 hx (hb hby d21_19) (tlt (by decide : (((1 : Int32) + (1 : Int32)) + (1 : Int32)) < (10 : Int32))).2.1 ?_
      refine own_iloadN X0 hx (hb hby d21_22) rfl ?_
      refine own_iloadN X0 hx (hb hby d21_23) rfl ?_
      by_cases hc24_3 : (-1000 : Int32) < (-p1)
      ·
        refine own_icmpNo X0 hx (hb hby d21_24) (tlt (hc24_3 : (-1000 : Int32) < (-p1))).2.2.2 ?_
        refine own_iloadN X0 hx (hb hby d21_27) rfl ?_
        refine own_iloadN X0 hx (hb hby d21_28) rfl ?_
        refine own_iadd X0 hx (hb hby d21_29) ?_
        show Goes _ _ _ _ _ _ (T0.setTop (mkF m 30 #[.val (.int (-p1)), .val (.int (0 : Int32)), .val (.int (-1000 : Int32)), .val (.int (((1 : Int32) + (1 : Int32)) + (1 : Int32)))] [(.int ((((1 : Int32) + (1 : Int32)) + (1 : Int32)) + (0 : Int32)))]))
        rw [show ((((1 : Int32) + (1 : Int32)) + (1 : Int32)) + (0 : Int32)) = (3 : Int32) by decide]
        exact own_retI X0 hx N0 hlk (by decide) (by decide) hret (hb hby d21_30) (by rw [e0]; exact ⟨(congrArg (fun z => some (Value.int z)) (own_sz3 hpos hc24_2 hc24_3)), rfl⟩)
      ·
        refine own_icmpYes X0 hx (pc' := 31) (hb hby d21_24) (flt (hc24_3 : ¬ ((-1000 : Int32) < (-p1)))).2.2.2 (by decide) (by decide) ?_
        refine own_bipush X0 hx (v := (10 : Int32)) (hb hby d21_31) rfl ?_
        refine own_iloadN X0 hx (hb hby d21_33) rfl ?_
        refine own_imul X0 hx (hb hby d21_34) ?_
        show Goes _ _ _ _ _ _ (T0.setTop (mkF m 35 #[.val (.int (-p1)), .val (.int (0 : Int32)), .val (.int (-1000 : Int32)), .val (.int (((1 : Int32) + (1 : Int32)) + (1 : Int32)))] [(.int ((10 : Int32) * (-1000 : Int32)))]))
        rw [show ((10 : Int32) * (-1000 : Int32)) = (-10000 : Int32) by decide]
        refine own_istoreN X0 hx (Ls' := #[.val (.int (-p1)), .val (.int (0 : Int32)), .val (.int (-10000 : Int32)), .val (.int (((1 : Int32) + (1 : Int32)) + (1 : Int32)))]) (hb hby d21_35) rfl ?_
        refine own_iinc X0 hx (Ls' := #[.val (.int (-p1)), .val (.int (0 : Int32)), .val (.int (-10000 : Int32)), .val (.int ((((1 : Int32) + (1 : Int32)) + (1 : Int32)) + (1 : Int32)))]) (hb hby d21_36) rfl rfl ?_
        refine own_goto X0 hx (pc' := 16) (hb hby d21_39) (by decide) (by decide) ?_
        refine own_iloadN X0 hx (hb hby d21_16) rfl ?_
        refine own_bipush X0 hx (v := (10 : Int32)) (hb hby d21_17) rfl ?_
        refine own_icmpNo X0 hx (hb hby d21_19) (tlt (by decide : ((((1 : Int32) + (1 : Int32)) + (1 : Int32)) + (1 : Int32)) < (10 : Int32))).2.1 ?_
        refine own_iloadN X0 hx (hb hby d21_22) rfl ?_
        refine own_iloadN X0 hx (hb hby d21_23) rfl ?_
        by_cases hc24_4 : (-10000 : Int32) < (-p1)
        ·
          refine own_icmpNo X0 hx (hb hby d21_24) (tlt (hc24_4 : (-10000 : Int32) < (-p1))).2.2.2 ?_
          refine own_iloadN X0 hx (hb hby d21_27) rfl ?_
          refine own_iloadN X0 hx (hb hby d21_28) rfl ?_
          refine own_iadd X0 hx (hb hby d21_29) ?_
          show Goes _ _ _ _ _ _ (T0.setTop (mkF m 30 #[.val (.int (-p1)), .val (.int (0 : Int32)), .val (.int (-10000 : Int32)), .val (.int ((((1 : Int32) + (1 : Int32)) + (1 : Int32)) + (1 : Int32)))] [(.int (((((1 : Int32) + (1 : Int32)) + (1 : Int32)) + (1 : Int32)) + (0 : Int32)))]))
          rw [show (((((1 : Int32) + (1 : Int32)) + (1 : Int32)) + (1 : Int32)) + (0 : Int32)) = (4 : Int32) by decide]
          exact own_retI X0 hx N0 hlk (by decide) (by decide) hret (hb hby d21_30) (by rw [e0]; exact ⟨(congrArg (fun z => some (Value.int z)) (own_sz4 hpos hc24_3 hc24_4)), rfl⟩)
        ·
          refine own_icmpYes X0 hx (pc' := 31) (hb hby d21_24) (flt (hc24_4 : ¬ ((-10000 : Int32) < (-p1)))).2.2.2 (by decide) (by decide) ?_
          refine own_bipush X0 hx (v := (10 : Int32)) (hb hby d21_31) rfl ?_
          refine own_iloadN X0 hx (hb hby d21_33) rfl ?_
          refine own_imul X0 hx (hb hby d21_34) ?_
          show Goes _ _ _ _ _ _ (T0.setTop (mkF m 35 #[.val (.int (-p1)), .val (.int (0 : Int32)), .val (.int (-10000 : Int32)), .val (.int ((((1 : Int32) + (1 : Int32)) + (1 : Int32)) + (1 : Int32)))] [(.int ((10 : Int32) * (-10000 : Int32)))]))
          rw [show ((10 : Int32) * (-10000 : Int32)) = (-100000 : Int32) by decide]
          refine own_istoreN X0 hx (Ls' := #[.val (.int (-p1)), .val (.int (0 : Int32)), .val (.int (-100000 : Int32)), .val (.int ((((1 : Int32) + (1 : Int32)) + (1 : Int32)) + (1 : Int32)))]) (hb hby d21_35) rfl ?_
          refine own_iinc X0 hx (Ls' := #[.val (.int (-p1)), .val (.int (0 : Int32)), .val (.int (-100000 : Int32)), .val (.int (((((1 : Int32) + (1 : Int32)) + (1 : Int32)) + (1 : Int32)) + (1 : Int32)))]) (hb hby d21_36) rfl rfl ?_
          refine own_goto X0 hx (pc' := 16) (hb hby d21_39) (by decide) (by decide) ?_
          refine own_iloadN X0 hx (hb hby d21_16) rfl ?_
          refine own_bipush X0 hx (v := (10 : Int32)) (hb hby d21_17) rfl ?_
          refine own_icmpNo X0 hx (hb hby d21_19) (tlt (by decide : (((((1 : Int32) + (1 : Int32)) + (1 : Int32)) + (1 : Int32)) + (1 : Int32)) < (10 : Int32))).2.1 ?_
          refine own_iloadN X0 hx (hb hby d21_22) rfl ?_
          refine own_iloadN X0 hx (hb hby d21_23) rfl ?_
          by_cases hc24_5 : (-100000 : Int32) < (-p1)
          ·
            refine own_icmpNo X0 hx (hb hby d21_24) (tlt (hc24_5 : (-100000 : Int32) < (-p1))).2.2.2 ?_
            refine own_iloadN X0 hx (hb hby d21_27) rfl ?_
            refine own_iloadN X0 hx (hb hby d21_28) rfl ?_
            refine own_iadd X0 hx (hb hby d21_29) ?_
            show Goes _ _ _ _ _ _ (T0.setTop (mkF m 30 #[.val (.int (-p1)), .val (.int (0 : Int32)), .val (.int (-100000 : Int32)), .val (.int (((((1 : Int32) + (1 : Int32)) + (1 : Int32)) + (1 : Int32)) + (1 : Int32)))] [(.int ((((((1 : Int32) + (1 : Int32)) + (1 : Int32)) + (1 : Int32)) + (1 : Int32)) + (0 : Int32)))]))
            rw [show ((((((1 : Int32) + (1 : Int32)) + (1 : Int32)) + (1 : Int32)) + (1 : Int32)) + (0 : Int32)) = (5 : Int32) by decide]
            exact own_retI X0 hx N0 hlk (by decide) (by decide) hret (hb hby d21_30) (by rw [e0]; exact ⟨(congrArg (fun z => some (Value.int z)) (own_sz5 hpos hc24_4 hc24_5)), rfl⟩)
          ·
            refine own_icmpYes X0 hx (pc' := 31) (hb hby d21_24) (flt (hc24_5 : ¬ ((-100000 : Int32) < (-p1)))).2.2.2 (by decide) (by decide) ?_
            refine own_bipush X0 hx (v := (10 : Int32)) (hb hby d21_31) rfl ?_
            refine own_iloadN X0 hx (hb hby d21_33) rfl ?_
            refine own_imul X0 hx (hb hby d21_34) ?_
            show Goes _ _ _ _ _ _ (T0.setTop (mkF m 35 #[.val (.int (-p1)), .val (.int (0 : Int32)), .val (.int (-100000 : Int32)), .val (.int (((((1 : Int32) + (1 : Int32)) + (1 : Int32)) + (1 : Int32)) + (1 : Int32)))] [(.int ((10 : Int32) * (-100000 : Int32)))]))
            rw [show ((10 : Int32) * (-100000 : Int32)) = (-1000000 : Int32) by decide]
            refine own_istoreN X0 hx (Ls' := #[.val (.int (-p1)), .val (.int (0 : Int32)), .val (.int (-1000000 : Int32)), .val (.int (((((1 : Int32) + (1 : Int32)) + (1 : Int32)) + (1 : Int32)) + (1 : Int32)))]) (hb hby d21_35) rfl ?_
            refine own_iinc X0 hx (Ls' := #[.val (.int (-p1)), .val (.int (0 : Int32)), .val (.int (-1000000 : Int32)), .val (.int ((((((1 : Int32) + (1 : Int32)) + (1 : Int32)) + (1 : Int32)) + (1 : Int32)) + (1 : Int32)))]) (hb hby d21_36) rfl rfl ?_
            refine own_goto X0 hx (pc' := 16) (hb hby d21_39) (by decide) (by decide) ?_
            refine own_iloadN X0 hx (hb hby d21_16) rfl ?_
            refine own_bipush X0 hx (v := (10 : Int32)) (hb hby d21_17) rfl ?_
            refine own_icmpNo X0 hx (hb hby d21_19) (tlt (by decide : ((((((1 : Int32) + (1 : Int32)) + (1 : Int32)) + (1 : Int32)) + (1 : Int32)) + (1 : Int32)) < (10 : Int32))).2.1 ?_
            refine own_iloadN X0 hx (hb hby d21_22) rfl ?_
            refine own_iloadN X0 hx (hb hby d21_23) rfl ?_
            by_cases hc24_6 : (-1000000 : Int32) < (-p1)
            ·
              refine own_icmpNo X0 hx (hb hby d21_24) (tlt (hc24_6 : (-1000000 : Int32) < (-p1))).2.2.2 ?_
              refine own_iloadN X0 hx (hb hby d21_27) rfl ?_
              refine own_iloadN X0 hx (hb hby d21_28) rfl ?_
              refine own_iadd X0 hx (hb hby d21_29) ?_
              show Goes _ _ _ _ _ _ (T0.setTop (mkF m 30 #[.val (.int (-p1)), .val (.int (0 : Int32)), .val (.int (-1000000 : Int32)), .val (.int ((((((1 : Int32) + (1 : Int32)) + (1 : Int32)) + (1 : Int32)) + (1 : Int32)) + (1 : Int32)))] [(.int (((((((1 : Int32) + (1 : Int32)) + (1 : Int32)) + (1 : Int32)) + (1 : Int32)) + (1 : Int32)) + (0 : Int32)))]))
              rw [show (((((((1 : Int32) + (1 : Int32)) + (1 : Int32)) + (1 : Int32)) + (1 : Int32)) + (1 : Int32)) + (0 : Int32)) = (6 : Int32) by decide]
              exact own_retI X0 hx N0 hlk (by decide) (by decide) hret (hb hby d21_30) (by rw [e0]; exact ⟨(congrArg (fun z => some (Value.int z)) (own_sz6 hpos hc24_5 hc24_6)), rfl⟩)
            ·
              refine own_icmpYes X0 hx (pc' := 31) (hb hby d21_24) (flt (hc24_6 : ¬ ((-1000000 : Int32) < (-p1)))).2.2.2 (by decide) (by decide) ?_
              refine own_bipush X0 hx (v := (10 : Int32)) (hb hby d21_31) rfl ?_
              refine own_iloadN X0 hx (hb hby d21_33) rfl ?_
              refine own_imul X0 hx (hb hby d21_34) ?_
              show Goes _ _ _ _ _ _ (T0.setTop (mkF m 35 #[.val (.int (-p1)), .val (.int (0 : Int32)), .val (.int (-1000000 : Int32)), .val (.int ((((((1 : Int32) + (1 : Int32)) + (1 : Int32)) + (1 : Int32)) + (1 : Int32)) + (1 : Int32)))] [(.int ((10 : Int32) * (-1000000 : Int32)))]))
              rw [show ((10 : Int32) * (-1000000 : Int32)) = (-10000000 : Int32) by decide]
              refine own_istoreN X0 hx (Ls' := #[.val (.int (-p1)), .val (.int (0 : Int32)), .val (.int (-10000000 : Int32)), .val (.int ((((((1 : Int32) + (1 : Int32)) + (1 : Int32)) + (1 : Int32)) + (1 : Int32)) + (1 : Int32)))]) (hb hby d21_35) rfl ?_
              refine own_iinc X0 hx (Ls' := #[.val (.int (-p1)), .val (.int (0 : Int32)), .val (.int (-10000000 : Int32)), .val (.int (((((((1 : Int32) + (1 : Int32)) + (1 : Int32)) + (1 : Int32)) + (1 : Int32)) + (1 : Int32)) + (1 : Int32)))]) (hb hby d21_36) rfl rfl ?_
              refine own_goto X0 hx (pc' := 16) (hb hby d21_39) (by decide) (by decide) ?_
              refine own_iloadN X0 hx (hb hby d21_16) rfl ?_
              refine own_bipush X0 hx (v := (10 : Int32)) (hb hby d21_17) rfl ?_
              refine own_icmpNo X0 hx (hb hby d21_19) (tlt (by decide : (((((((1 : Int32) + (1 : Int32)) + (1 : Int32)) + (1 : Int32)) + (1 : Int32)) + (1 : Int32)) + (1 : Int32)) < (10 : Int32))).2.1 ?_
              refine own_iloadN X0 hx (hb hby d21_22) rfl ?_
              refine own_iloadN X0 hx (hb hby d21_23) rfl ?_
              by_cases hc24_7 : (-10000000 : Int32) < (-p1)
              ·
                refine own_icmpNo X0 hx (hb hby d21_24) (tlt (hc24_7 : (-10000000 : Int32) < (-p1))).2.2.2 ?_
                refine own_iloadN X0 hx (hb hby d21_27) rfl ?_
                refine own_iloadN X0 hx (hb hby d21_28) rfl ?_
                refine own_iadd X0 hx (hb hby d21_29) ?_
                show Goes _ _ _ _ _ _ (T0.setTop (mkF m 30 #[.val (.int (-p1)), .val (.int (0 : Int32)), .val (.int (-10000000 : Int32)), .val (.int (((((((1 : Int32) + (1 : Int32)) + (1 : Int32)) + (1 : Int32)) + (1 : Int32)) + (1 : Int32)) + (1 : Int32)))] [(.int ((((((((1 : Int32) + (1 : Int32)) + (1 : Int32)) + (1 : Int32)) + (1 : Int32)) + (1 : Int32)) + (1 : Int32)) + (0 : Int32)))]))
                rw [show ((((((((1 : Int32) + (1 : Int32)) + (1 : Int32)) + (1 : Int32)) + (1 : Int32)) + (1 : Int32)) + (1 : Int32)) + (0 : Int32)) = (7 : Int32) by decide]
                exact own_retI X0 hx N0 hlk (by decide) (by decide) hret (hb hby d21_30) (by rw [e0]; exact ⟨(congrArg (fun z => some (Value.int z)) (own_sz7 hpos hc24_6 hc24_7)), rfl⟩)
              ·
                refine own_icmpYes X0 hx (pc' := 31) (hb hby d21_24) (flt (hc24_7 : ¬ ((-10000000 : Int32) < (-p1)))).2.2.2 (by decide) (by decide) ?_
                refine own_bipush X0 hx (v := (10 : Int32)) (hb hby d21_31) rfl ?_
                refine own_iloadN X0 hx (hb hby d21_33) rfl ?_
                refine own_imul X0 hx (hb hby d21_34) ?_
                show Goes _ _ _ _ _ _ (T0.setTop (mkF m 35 #[.val (.int (-p1)), .val (.int (0 : Int32)), .val (.int (-10000000 : Int32)), .val (.int (((((((1 : Int32) + (1 : Int32)) + (1 : Int32)) + (1 : Int32)) + (1 : Int32)) + (1 : Int32)) + (1 : Int32)))] [(.int ((10 : Int32) * (-10000000 : Int32)))]))
                rw [show ((10 : Int32) * (-10000000 : Int32)) = (-100000000 : Int32) by decide]
                refine own_istoreN X0 hx (Ls' := #[.val (.int (-p1)), .val (.int (0 : Int32)), .val (.int (-100000000 : Int32)), .val (.int (((((((1 : Int32) + (1 : Int32)) + (1 : Int32)) + (1 : Int32)) + (1 : Int32)) + (1 : Int32)) + (1 : Int32)))]) (hb hby d21_35) rfl ?_
                refine own_iinc X0 hx (Ls' := #[.val (.int (-p1)), .val (.int (0 : Int32)), .val (.int (-100000000 : Int32)), .val (.int ((((((((1 : Int32) + (1 : Int32)) + (1 : Int32)) + (1 : Int32)) + (1 : Int32)) + (1 : Int32)) + (1 : Int32)) + (1 : Int32)))]) (hb hby d21_36) rfl rfl ?_
                refine own_goto X0 hx (pc' := 16) (hb hby d21_39) (by decide) (by decide) ?_
                refine own_iloadN X0 hx (hb hby d21_16) rfl ?_
                refine own_bipush X0 hx (v := (10 : Int32)) (hb hby d21_17) rfl ?_
                refine own_icmpNo X0 hx (hb hby d21_19) (tlt (by decide : ((((((((1 : Int32) + (1 : Int32)) + (1 : Int32)) + (1 : Int32)) + (1 : Int32)) + (1 : Int32)) + (1 : Int32)) + (1 : Int32)) < (10 : Int32))).2.1 ?_
                refine own_iloadN X0 hx (hb hby d21_22) rfl ?_
                refine own_iloadN X0 hx (hb hby d21_23) rfl ?_
                by_cases hc24_8 : (-100000000 : Int32) < (-p1)
                ·
                  refine own_icmpNo X0 hx (hb hby d21_24) (tlt (hc24_8 : (-100000000 : Int32) < (-p1))).2.2.2 ?_
                  refine own_iloadN X0 hx (hb hby d21_27) rfl ?_
                  refine own_iloadN X0 hx (hb hby d21_28) rfl ?_
                  refine own_iadd X0 hx (hb hby d21_29) ?_
                  show Goes _ _ _ _ _ _ (T0.setTop (mkF m 30 #[.val (.int (-p1)), .val (.int (0 : Int32)), .val (.int (-100000000 : Int32)), .val (.int ((((((((1 : Int32) + (1 : Int32)) + (1 : Int32)) + (1 : Int32)) + (1 : Int32)) + (1 : Int32)) + (1 : Int32)) + (1 : Int32)))] [(.int (((((((((1 : Int32) + (1 : Int32)) + (1 : Int32)) + (1 : Int32)) + (1 : Int32)) + (1 : Int32)) + (1 : Int32)) + (1 : Int32)) + (0 : Int32)))]))
                  rw [show (((((((((1 : Int32) + (1 : Int32)) + (1 : Int32)) + (1 : Int32)) + (1 : Int32)) + (1 : Int32)) + (1 : Int32)) + (1 : Int32)) + (0 : Int32)) = (8 : Int32) by decide]
                  exact own_retI X0 hx N0 hlk (by decide) (by decide) hret (hb hby d21_30) (by rw [e0]; exact ⟨(congrArg (fun z => some (Value.int z)) (own_sz8 hpos hc24_7 hc24_8)), rfl⟩)
                ·
                  refine own_icmpYes X0 hx (pc' := 31) (hb hby d21_24) (flt (hc24_8 : ¬ ((-100000000 : Int32) < (-p1)))).2.2.2 (by decide) (by decide) ?_
                  refine own_bipush X0 hx (v := (10 : Int32)) (hb hby d21_31) rfl ?_
                  refine own_iloadN X0 hx (hb hby d21_33) rfl ?_
                  refine own_imul X0 hx (hb hby d21_34) ?_
                  show Goes _ _ _ _ _ _ (T0.setTop (mkF m 35 #[.val (.int (-p1)), .val (.int (0 : Int32)), .val (.int (-100000000 : Int32)), .val (.int ((((((((1 : Int32) + (1 : Int32)) + (1 : Int32)) + (1 : Int32)) + (1 : Int32)) + (1 : Int32)) + (1 : Int32)) + (1 : Int32)))] [(.int ((10 : Int32) * (-100000000 : Int32)))]))
                  rw [show ((10 : Int32) * (-100000000 : Int32)) = (-1000000000 : Int32) by decide]
                  refine own_istoreN X0 hx (Ls' := #[.val (.int (-p1)), .val (.int (0 : Int32)), .val (.int (-1000000000 : Int32)), .val (.int ((((((((1 : Int32) + (1 : Int32)) + (1 : Int32)) + (1 : Int32)) + (1 : Int32)) + (1 : Int32)) + (1 : Int32)) + (1 : Int32)))]) (hb hby d21_35) rfl ?_
                  refine own_iinc X0 hx (Ls' := #[.val (.int (-p1)), .val (.int (0 : Int32)), .val (.int (-1000000000 : Int32)), .val (.int (((((((((1 : Int32) + (1 : Int32)) + (1 : Int32)) + (1 : Int32)) + (1 : Int32)) + (1 : Int32)) + (1 : Int32)) + (1 : Int32)) + (1 : Int32)))]) (hb hby d21_36) rfl rfl ?_
                  refine own_goto X0 hx (pc' := 16) (hb hby d21_39) (by decide) (by decide) ?_
                  refine own_iloadN X0 hx (hb hby d21_16) rfl ?_
                  refine own_bipush X0 hx (v := (10 : Int32)) (hb hby d21_17) rfl ?_
                  refine own_icmpNo X0 hx (hb hby d21_19) (tlt (by decide : (((((((((1 : Int32) + (1 : Int32)) + (1 : Int32)) + (1 : Int32)) + (1 : Int32)) + (1 : Int32)) + (1 : Int32)) + (1 : Int32)) + (1 : Int32)) < (10 : Int32))).2.1 ?_
                  refine own_iloadN X0 hx (hb hby d21_22) rfl ?_
                  refine own_iloadN X0 hx (hb hby d21_23) rfl ?_
                  by_cases hc24_9 : (-1000000000 : Int32) < (-p1)
                  ·
                    refine own_icmpNo X0 hx (hb hby d21_24) (tlt (hc24_9 : (-1000000000 : Int32) < (-p1))).2.2.2 ?_
                    refine own_iloadN X0 hx (hb hby d21_27) rfl ?_
                    refine own_iloadN X0 hx (hb hby d21_28) rfl ?_
                    refine own_iadd X0 hx (hb hby d21_29) ?_
                    show Goes _ _ _ _ _ _ (T0.setTop (mkF m 30 #[.val (.int (-p1)), .val (.int (0 : Int32)), .val (.int (-1000000000 : Int32)), .val (.int (((((((((1 : Int32) + (1 : Int32)) + (1 : Int32)) + (1 : Int32)) + (1 : Int32)) + (1 : Int32)) + (1 : Int32)) + (1 : Int32)) + (1 : Int32)))] [(.int ((((((((((1 : Int32) + (1 : Int32)) + (1 : Int32)) + (1 : Int32)) + (1 : Int32)) + (1 : Int32)) + (1 : Int32)) + (1 : Int32)) + (1 : Int32)) + (0 : Int32)))]))
                    rw [show ((((((((((1 : Int32) + (1 : Int32)) + (1 : Int32)) + (1 : Int32)) + (1 : Int32)) + (1 : Int32)) + (1 : Int32)) + (1 : Int32)) + (1 : Int32)) + (0 : Int32)) = (9 : Int32) by decide]
                    exact own_retI X0 hx N0 hlk (by decide) (by decide) hret (hb hby d21_30) (by rw [e0]; exact ⟨(congrArg (fun z => some (Value.int z)) (own_sz9 hpos hc24_8 hc24_9)), rfl⟩)
                  ·
                    refine own_icmpYes X0 hx (pc' := 31) (hb hby d21_24) (flt (hc24_9 : ¬ ((-1000000000 : Int32) < (-p1)))).2.2.2 (by decide) (by decide) ?_
                    refine own_bipush X0 hx (v := (10 : Int32)) (hb hby d21_31) rfl ?_
                    refine own_iloadN X0 hx (hb hby d21_33) rfl ?_
                    refine own_imul X0 hx (hb hby d21_34) ?_
                    show Goes _ _ _ _ _ _ (T0.setTop (mkF m 35 #[.val (.int (-p1)), .val (.int (0 : Int32)), .val (.int (-1000000000 : Int32)), .val (.int (((((((((1 : Int32) + (1 : Int32)) + (1 : Int32)) + (1 : Int32)) + (1 : Int32)) + (1 : Int32)) + (1 : Int32)) + (1 : Int32)) + (1 : Int32)))] [(.int ((10 : Int32) * (-1000000000 : Int32)))]))
                    rw [show ((10 : Int32) * (-1000000000 : Int32)) = (-1410065408 : Int32) by decide]
                    refine own_istoreN X0 hx (Ls' := #[.val (.int (-p1)), .val (.int (0 : Int32)), .val (.int (-1410065408 : Int32)), .val (.int (((((((((1 : Int32) + (1 : Int32)) + (1 : Int32)) + (1 : Int32)) + (1 : Int32)) + (1 : Int32)) + (1 : Int32)) + (1 : Int32)) + (1 : Int32)))]) (hb hby d21_35) rfl ?_
                    refine own_iinc X0 hx (Ls' := #[.val (.int (-p1)), .val (.int (0 : Int32)), .val (.int (-1410065408 : Int32)), .val (.int ((((((((((1 : Int32) + (1 : Int32)) + (1 : Int32)) + (1 : Int32)) + (1 : Int32)) + (1 : Int32)) + (1 : Int32)) + (1 : Int32)) + (1 : Int32)) + (1 : Int32)))]) (hb hby d21_36) rfl rfl ?_
                    refine own_goto X0 hx (pc' := 16) (hb hby d21_39) (by decide) (by decide) ?_
                    refine own_iloadN X0 hx (hb hby d21_16) rfl ?_
                    refine own_bipush X0 hx (v := (10 : Int32)) (hb hby d21_17) rfl ?_
                    refine own_icmpYes X0 hx (pc' := 42) (hb hby d21_19) (flt (by decide : ¬ (((((((((((1 : Int32) + (1 : Int32)) + (1 : Int32)) + (1 : Int32)) + (1 : Int32)) + (1 : Int32)) + (1 : Int32)) + (1 : Int32)) + (1 : Int32)) + (1 : Int32)) < (10 : Int32)))).2.1 (by decide) (by decide) ?_
                    refine own_bipush X0 hx (v := (10 : Int32)) (hb hby d21_42) rfl ?_
                    refine own_iloadN X0 hx (hb hby d21_44) rfl ?_
                    refine own_iadd X0 hx (hb hby d21_45) ?_
                    show Goes _ _ _ _ _ _ (T0.setTop (mkF m 46 #[.val (.int (-p1)), .val (.int (0 : Int32)), .val (.int (-1410065408 : Int32)), .val (.int ((((((((((1 : Int32) + (1 : Int32)) + (1 : Int32)) + (1 : Int32)) + (1 : Int32)) + (1 : Int32)) + (1 : Int32)) + (1 : Int32)) + (1 : Int32)) + (1 : Int32)))] [(.int ((10 : Int32) + (0 : Int32)))]))
                    rw [show ((10 : Int32) + (0 : Int32)) = (10 : Int32) by decide]
                    exact own_retI X0 hx N0 hlk (by decide) (by decide) hret (hb hby d21_46) (by rw [e0]; exact ⟨(congrArg (fun z => some (Value.int z)) (own_sz10 hpos hc24_9)), rfl⟩)
theorem d35_0 : decode method_5_code 0 = .ok (.iload_n 0, 1) := by decide +kernel
theorem d35_1 : decode method_5_code 1 = .ok (.bipush 10, 2) := by decide +kernel
theorem d35_3 : decode method_5_code 3 = .ok (.if_icmp .ge 5, 3) := by decide +kernel
theorem d35_6 : decode method_5_code 6 = .ok (.iconst 1, 1) := by decide +kernel
theorem d35_7 : decode method_5_code 7 = .ok (.ireturn, 1) := by decide +kernel
theorem d35_8 : decode method_5_code 8 = .ok (.iload_n 0, 1) := by decide +kernel
theorem d35_9 : decode method_5_code 9 = .ok (.bipush 100, 2) := by decide +kernel
theorem d35_11 : decode method_5_code 11 = .ok (.if_icmp .ge 5, 3) := by decide +kernel
theorem d35_14 : decode method_5_code 14 = .ok (.iconst 2, 1) := by decide +kernel
theorem d35_15 : decode method_5_code 15 = .ok (.ireturn, 1) := by decide +kernel
theorem d35_16 : decode method_5_code 16 = .ok (.iload_n 0, 1) := by decide +kernel
theorem d35_17 : decode method_5_code 17 = .ok (.sipush 1000, 3) := by decide +kernel
theorem d35_20 : decode method_5_code 20 = .ok (.if_icmp .ge 5, 3) := by decide +kernel
theorem d35_23 : decode method_5_code 23 = .ok (.iconst 3, 1) := by decide +kernel
theorem d35_24 : decode method_5_code 24 = .ok (.ireturn, 1) := by decide +kernel
theorem d35_25 : decode method_5_code 25 = .ok (.iload_n 0, 1) := by decide +kernel
theorem d35_26 : decode method_5_code 26 = .ok (.sipush 10000, 3) := by decide +kernel
theorem d35_29 : decode method_5_code 29 = .ok (.if_icmp .ge 5, 3) := by decide +kernel
theorem d35_32 : decode method_5_code 32 = .ok (.iconst 4, 1) := by decide +kernel
theorem d35_33 : decode method_5_code 33 = .ok (.ireturn, 1) := by decide +kernel
theorem d35_34 : decode method_5_code 34 = .ok (.iload_n 0, 1) := by decide +kernel
theorem d35_35 : decode method_5_code 35 = .ok (.ldc 43, 2) := by decide +kernel
theorem d35_37 : decode method_5_code 37 = .ok (.if_icmp .ge 5, 3) := by decide +kernel
theorem d35_40 : decode method_5_code 40 = .ok (.iconst 5, 1) := by decide +kernel
theorem d35_41 : decode method_5_code 41 = .ok (.ireturn, 1) := by decide +kernel
theorem d35_42 : decode method_5_code 42 = .ok (.iload_n 0, 1) := by decide +kernel
theorem d35_43 : decode method_5_code 43 = .ok (.ldc 44, 2) := by decide +kernel
theorem d35_45 : decode method_5_code 45 = .ok (.if_icmp .ge 6, 3) := by decide +kernel
theorem d35_48 : decode method_5_code 48 = .ok (.bipush 6, 2) := by decide +kernel
theorem d35_50 : decode method_5_code 50 = .ok (.ireturn, 1) := by decide +kernel
theorem d35_51 : decode method_5_code 51 = .ok (.iload_n 0, 1) := by decide +kernel
theorem d35_52 : decode method_5_code 52 = .ok (.ldc 45, 2) := by decide +kernel
theorem d35_54 : decode method_5_code 54 = .ok (.if_icmp .ge 6, 3) := by decide +kernel
theorem d35_57 : decode method_5_code 57 = .ok (.bipush 7, 2) := by decide +kernel
theorem d35_59 : decode method_5_code 59 = .ok (.ireturn, 1) := by decide +kernel
theorem d35_60 : decode method_5_code 60 = .ok (.iload_n 0, 1) := by decide +kernel
theorem d35_61 : decode method_5_code 61 = .ok (.ldc 46, 2) := by decide +kernel
theorem d35_63 : decode method_5_code 63 = .ok (.if_icmp .ge 6, 3) := by decide +kernel
theorem d35_66 : decode method_5_code 66 = .ok (.bipush 8, 2) := by decide +kernel
theorem d35_68 : decode method_5_code 68 = .ok (.ireturn, 1) := by decide +kernel
theorem d35_69 : decode method_5_code 69 = .ok (.iload_n 0, 1) := by decide +kernel
theorem d35_70 : decode method_5_code 70 = .ok (.ldc 47, 2) := by decide +kernel
theorem d35_72 : decode method_5_code 72 = .ok (.if_icmp .ge 6, 3) := by decide +kernel
theorem d35_75 : decode method_5_code 75 = .ok (.bipush 9, 2) := by decide +kernel
theorem d35_77 : decode method_5_code 77 = .ok (.ireturn, 1) := by decide +kernel
theorem d35_78 : decode method_5_code 78 = .ok (.bipush 10, 2) := by decide +kernel
theorem d35_80 : decode method_5_code 80 = .ok (.ireturn, 1) := by decide +kernel
theorem pn_6 : plainName "com/example/gantry/gantry/descriptor/DescriptorExceptionMessagePinLaw" = true := by first | (simp [plainName, overriddenIn]; done) | decide +kernel
def Q35 (Z : State) (p1 : Int32) (h0 : Heap) (n0 : Nat) (v : Option Value) (h : Heap) : Prop :=
  (v = some (.int (Int32.ofNat (nd p1.toNatClampNeg))) ∧ h = h0)
theorem ef_35 (m : MethodId) (p1 : Int32) : entryFrame m #[(.int p1)] 1 = mkF m 0 #[.val (.int p1)] [] := by first | (simp [entryFrame, mkF, argsToLocals, Value.category]; done) | rfl
set_option maxRecDepth 65536 in
set_option maxHeartbeats 40000000 in
theorem rm35 (l : Launch) (Z : State) (a0 : Array Value) (hw : ∀ d ∈ tables_1, d.before a0 Z = true) (ws : List Jvm.Cond) (p1 : Int32) (h0 : Heap) (n0 : Nat) (O0 : Old Z n0 h0) (hpos : (0 : Int32) < p1) :
    Meets l (⟨"com/example/gantry/gantry/descriptor/DescriptorExceptionMessagePinLaw", "numLen", "(I)I"⟩ : MethodName) method_5_code 1 (some .int) ws ({ frames := 0, cells := 0, slots := 0, locals := 0 } : Room) ({ frames := 0, cells := 0, slots := 0, locals := 0 } : Room).cells ({ frames := 0, cells := 0, slots := 0, locals := 0 } : Room).slots Z #[(.int p1)] h0 n0 (Q35 Z p1 h0 n0) := by
  refine Meets.of (F := fun m => mkF m 0 #[.val (.int p1)] []) (plainFor_of_name pn_6) (fun m => ef_35 m p1) ?_
  intro p e s m below meth c T0 hx hby hml hown0 hnm hret hlk hZ X0 e0
  have hown : s.vm.findClass "com/example/gantry/gantry/descriptor/DescriptorExceptionMessagePinLaw" = some m.cls := hown0
  have N0 := Fr.nil n0
  show Goes _ _ _ _ _ _ (T0.setTop (mkF m 0 #[.val (.int p1)] []))
  refine own_iloadN X0 hx (hb hby d35_0) rfl ?_
  refine own_bipush X0 hx (v := (10 : Int32)) (hb hby d35_1) rfl ?_
  by_cases hc3_1 : p1 < (10 : Int32)
  ·
    refine own_icmpNo X0 hx (hb hby d35_3) (tlt (hc3_1 : p1 < (10 : Int32))).2.1 ?_
    refine own_iconst X0 hx (v := (1 : Int32)) (hb hby d35_6) rfl ?_
    show Goes _ _ _ _ _ _ (T0.setTop (mkF m 7 #[.val (.int p1)] [(.int (1 : Int32))]))
    exact own_retI X0 hx N0 hlk (by decide) (by decide) hret (hb hby d35_7) (by rw [e0]; exact ⟨(congrArg (fun z => some (Value.int z)) (own_nl1 hpos hc3_1)), rfl⟩)
  ·
    refine own_icmpYes X0 hx (pc' := 8) (hb hby d35_3) (flt (hc3_1 : ¬ (p1 < (10 : Int32)))).2.1 (by decide) (by decide) ?_
    refine own_iloadN X0 hx (hb hby d35_8) rfl ?_
    refine own_bipush X0 hx (v := (100 : Int32)) (hb hby d35_9) rfl ?_
    by_cases hc11_2 : p1 < (100 : Int32)
    ·
      refine own_icmpNo X0 hx (hb hby d35_11) (tlt (hc11_2 : p1 < (100 : Int32))).2.1 ?_
      refine own_iconst X0 hx (v := (2 : Int32)) (hb hby d35_14) rfl ?_
      show Goes _ _ _ _ _ _ (T0.setTop (mkF m 15 #[.val (.int p1)] [(.int (2 : Int32))]))
      exact own_retI X0 hx N0 hlk (by decide) (by decide) hret (hb hby d35_15) (by rw [e0]; exact ⟨(congrArg (fun z => some (Value.int z)) (own_nl2 hpos hc3_1 hc11_2)), rfl⟩)
    ·
      refine own_icmpYes X0 hx (pc' := 16) (hb hby d35_11) (flt (hc11_2 : ¬ (p1 < (100 : Int32)))).2.1 (by decide) (by decide) ?_
      refine own_iloadN X0 hx (hb hby d35_16) rfl ?_
      refine own_sipush X0 hx (v := (1000 : Int32)) (hb hby d35_17) rfl ?_
      by_cases hc20_3 : p1 < (1000 : Int32)
      ·
        refine own_icmpNo X0 hx (hb hby d35_20) (tlt (hc20_3 : p1 < (1000 : Int32))).2.1 ?_
        refine own_iconst X0 hx (v := (3 : Int32)) (hb hby d35_23) rfl ?_
        show Goes _ _ _ _ _ _ (T0.setTop (mkF m 24 #[.val (.int p1)] [(.int (3 : Int32))]))
        exact own_retI X0 hx N0 hlk (by decide) (by decide) hret (hb hby d35_24) (by rw [e0]; exact ⟨(congrArg (fun z => some (Value.int z)) (own_nl3 hpos hc11_2 hc20_3)), rfl⟩)
      ·
        refine own_icmpYes X0 hx (pc' := 25) (hb hby d35_20) (flt (hc20_3 : ¬ (p1 < (1000 : Int32)))).2.1 (by decide) (by decide) ?_
        refine own_iloadN X0 hx (hb hby d35_25) rfl ?_
        refine own_sipush X0 hx (v := (10000 : Int32)) (hb hby d35_26) rfl ?_
        by_cases hc29_4 : p1 < (10000 : Int32)
        ·
          refine own_icmpNo X0 hx (hb hby d35_29) (tlt (hc29_4 : p1 < (10000 : Int32))).2.1 ?_
          refine own_iconst X0 hx (v := (4 : Int32)) (hb hby d35_32) rfl ?_
          show Goes _ _ _ _ _ _ (T0.setTop (mkF m 33 #[.val (.int p1)] [(.int (4 : Int32))]))
          exact own_retI X0 hx N0 hlk (by decide) (by decide) hret (hb hby d35_33) (by rw [e0]; exact ⟨(congrArg (fun z => some (Value.int z)) (own_nl4 hpos hc20_3 hc29_4)), rfl⟩)
        ·
          refine own_icmpYes X0 hx (pc' := 34) (hb hby d35_29) (flt (hc29_4 : ¬ (p1 < (10000 : Int32)))).2.1 (by decide) (by decide) ?_
          refine own_iloadN X0 hx (hb hby d35_34) rfl ?_
          refine own_ldcInt X0 hx hZ hown (own_w hw 212 rfl) (hb hby d35_35) ?_
          by_cases hc37_5 : p1 < (100000 : Int32)
          ·
            refine own_icmpNo X0 hx (hb hby d35_37) (tlt (hc37_5 : p1 < (100000 : Int32))).2.1 ?_
            refine own_iconst X0 hx (v := (5 : Int32)) (hb hby d35_40) rfl ?_
            show Goes _ _ _ _ _ _ (T0.setTop (mkF m 41 #[.val (.int p1)] [(.int (5 : Int32))]))
            exact own_retI X0 hx N0 hlk (by decide) (by decide) hret (hb hby d35_41) (by rw [e0]; exact ⟨(congrArg (fun z => some (Value.int z)) (own_nl5 hpos hc29_4 hc37_5)), rfl⟩)
          ·
            refine own_icmpYes X0 hx (pc' := 42) (hb hby d35_37) (flt (hc37_5 : ¬ (p1 < (100000 : Int32)))).2.1 (by decide) (by decide) ?_
            refine own_iloadN X0 hx (hb hby d35_42) rfl ?_
            refine own_ldcInt X0 hx hZ hown (own_w hw 213 rfl) (hb hby d35_43) ?_
            by_cases hc45_6 : p1 < (1000000 : Int32)
            ·
              refine own_icmpNo X0 hx (hb hby d35_45) (tlt (hc45_6 : p1 < (1000000 : Int32))).2.1 ?_
              refine own_bipush X0 hx (v := (6 : Int32)) (hb hby d35_48) rfl ?_
              show Goes _ _ _ _ _ _ (T0.setTop (mkF m 50 #[.val (.int p1)] [(.int (6 : Int32))]))
              exact own_retI X0 hx N0 hlk (by decide) (by decide) hret (hb hby d35_50) (by rw [e0]; exact ⟨(congrArg (fun z => some (Value.int z)) (own_nl6 hpos hc37_5 hc45_6)), rfl⟩)
            ·
              refine own_icmpYes X0 hx (pc' := 51) (hb hby d35_45) (flt (hc45_6 : ¬ (p1 < (1000000 : Int32)))).2.1 (by decide) (by decide) ?_
              refine own_iloadN X0 hx (hb hby d35_51) rfl ?_
              refine own_ldcInt X0 hx hZ hown (own_w hw 214 rfl) (hb hby d35_52) ?_
              by_cases hc54_7 : p1 < (10000000 : Int32)
              ·
                refine own_icmpNo X0 hx (hb hby d35_54) (tlt (hc54_7 : p1 < (10000000 : Int32))).2.1 ?_
                refine own_bipush X0 hx (v := (7 : Int32)) (hb hby d35_57) rfl ?_
                show Goes _ _ _ _ _ _ (T0.setTop (mkF m 59 #[.val (.int p1)] [(.int (7 : Int32))]))
                exact own_retI X0 hx N0 hlk (by decide) (by decide) hret (hb hby d35_59) (by rw [e0]; exact ⟨(congrArg (fun z => some (Value.int z)) (own_nl7 hpos hc45_6 hc54_7)), rfl⟩)
              ·
                refine own_icmpYes X0 hx (pc' := 60) (hb hby d35_54) (flt (hc54_7 : ¬ (p1 < (10000000 : Int32)))).2.1 (by decide) (by decide) ?_
                refine own_iloadN X0 hx (hb hby d35_60) rfl ?_
                refine own_ldcInt X0 hx hZ hown (own_w hw 215 rfl) (hb hby d35_61) ?_
                by_cases hc63_8 : p1 < (100000000 : Int32)
                ·
                  refine own_icmpNo X0 hx (hb hby d35_63) (tlt (hc63_8 : p1 < (100000000 : Int32))).2.1 ?_
                  refine own_bipush X0 hx (v := (8 : Int32)) (hb hby d35_66) rfl ?_
                  show Goes _ _ _ _ _ _ (T0.setTop (mkF m 68 #[.val (.int p1)] [(.int (8 : Int32))]))
                  exact own_retI X0 hx N0 hlk (by decide) (by decide) hret (hb hby d35_68) (by rw [e0]; exact ⟨(congrArg (fun z => some (Value.int z)) (own_nl8 hpos hc54_7 hc63_8)), rfl⟩)
                ·
                  refine own_icmpYes X0 hx (pc' := 69) (hb hby d35_63) (flt (hc63_8 : ¬ (p1 < (100000000 : Int32)))).2.1 (by decide) (by decide) ?_
                  refine own_iloadN X0 hx (hb hby d35_69) rfl ?_
                  refine own_ldcInt X0 hx hZ hown (own_w hw 216 rfl) (hb hby d35_70) ?_
                  by_cases hc72_9 : p1 < (1000000000 : Int32)
                  ·
                    refine own_icmpNo X0 hx (hb hby d35_72) (tlt (hc72_9 : p1 < (1000000000 : Int32))).2.1 ?_
                    refine own_bipush X0 hx (v := (9 : Int32)) (hb hby d35_75) rfl ?_
                    show Goes _ _ _ _ _ _ (T0.setTop (mkF m 77 #[.val (.int p1)] [(.int (9 : Int32))]))
                    exact own_retI X0 hx N0 hlk (by decide) (by decide) hret (hb hby d35_77) (by rw [e0]; exact ⟨(congrArg (fun z => some (Value.int z)) (own_nl9 hpos hc63_8 hc72_9)), rfl⟩)
                  ·
                    refine own_icmpYes X0 hx (pc' := 78) (hb hby d35_72) (flt (hc72_9 : ¬ (p1 < (1000000000 : Int32)))).2.1 (by decide) (by decide) ?_
                    refine own_bipush X0 hx (v := (10 : Int32)) (hb hby d35_78) rfl ?_
                    show Goes _ _ _ _ _ _ (T0.setTop (mkF m 80 #[.val (.int p1)] [(.int (10 : Int32))]))
                    exact own_retI X0 hx N0 hlk (by decide) (by decide) hret (hb hby d35_80) (by rw [e0]; exact ⟨(congrArg (fun z => some (Value.int z)) (own_nl10 hpos hc72_9)), rfl⟩)
theorem d22_0 : decode jdk_68_method_68_code 0 = .ok (.getstatic 18, 3) := by decide +kernel
theorem d22_3 : decode jdk_68_method_68_code 3 = .ok (.ifCond .eq 14, 3) := by decide +kernel
theorem d22_6 : decode jdk_68_method_68_code 6 = .ok (.aload_n 0, 1) := by decide +kernel
theorem d22_7 : decode jdk_68_method_68_code 7 = .ok (.getfield 22, 3) := by decide +kernel
theorem d22_10 : decode jdk_68_method_68_code 10 = .ok (.ifCond .ne 7, 3) := by decide +kernel
theorem d22_13 : decode jdk_68_method_68_code 13 = .ok (.iconst 1, 1) := by decide +kernel
theorem d22_14 : decode jdk_68_method_68_code 14 = .ok (.goto 4, 3) := by decide +kernel
theorem d22_18 : decode jdk_68_method_68_code 18 = .ok (.ireturn, 1) := by decide +kernel
def Q22 (Z : State) (a1 : Addr) (w_DigitOnes : Addr) (w_DigitTens : Addr) (zc : Int32) (fm : Value) (k_ones : ClassId) (k_tens : ClassId) (h0 : Heap) (n0 : Nat) (v : Option Value) (h : Heap) : Prop :=
  (v = some (.int (1 : Int32)) ∧ h = h0)
theorem ef_22 (m : MethodId) (a1 : Addr) : entryFrame m #[(.ref a1)] 1 = mkF m 0 #[.val (.ref a1)] [] := by first | (simp [entryFrame, mkF, argsToLocals, Value.category]; done) | rfl
set_option maxRecDepth 65536 in
set_option maxHeartbeats 40000000 in
theorem rm22 (l : Launch) (Z : State) (a0 : Array Value) (hw : ∀ d ∈ tables_1, d.before a0 Z = true) (ws : List Jvm.Cond) (a1 : Addr) (w_DigitOnes : Addr) (w_DigitTens : Addr) (zc : Int32) (fm : Value) (k_ones : ClassId) (k_tens : ClassId) (h0 : Heap) (n0 : Nat) (O0 : Old Z n0 h0) (SF : Start Z w_DigitOnes w_DigitTens zc fm k_ones k_tens) (f0 : Fld Z h0 a1 "java/lang/AbstractStringBuilder" "coder" "B" (.int (0 : Int32))) :
    Meets l (⟨"java/lang/AbstractStringBuilder", "isLatin1", "()Z"⟩ : MethodName) jdk_68_method_68_code 1 (some .boolean) ws ({ frames := 0, cells := 0, slots := 0, locals := 0 } : Room) ({ frames := 0, cells := 0, slots := 0, locals := 0 } : Room).cells ({ frames := 0, cells := 0, slots := 0, locals := 0 } : Room).slots Z #[(.ref a1)] h0 n0 (Q22 Z a1 w_DigitOnes w_DigitTens zc fm k_ones k_tens h0 n0) := by
  refine Meets.of (F := fun m => mkF m 0 #[.val (.ref a1)] []) (plainFor_of_name pn_1) (fun m => ef_22 m a1) ?_
  intro p e s m below meth c T0 hx hby hml hown0 hnm hret hlk hZ X0 e0
  have hown : s.vm.findClass "java/lang/AbstractStringBuilder" = some m.cls := hown0
  have N0 := Fr.nil n0
  obtain ⟨z0, z1, z2, z3, z4, z5, z6, hzc, z8, hfm, -⟩ := SF
  show Goes _ _ _ _ _ _ (T0.setTop (mkF m 0 #[.val (.ref a1)] []))
  refine own_getS X0 hx hZ hown (host := "") (Or.inl (own_w hw 47 rfl)) Via.refl e0 (z6.ext O0.2) (hb hby d22_0) (fun T1 X1 e1 => ?_)
  refine own_ifNo X1 hx (hb hby d22_3) ((if0 _ _).trans (feq (hzc : ¬ (zc = (0 : Int32)))).1) ?_
  refine own_aloadN X1 hx (hb hby d22_6) rfl rfl ?_
  refine own_getF X1 hx hZ hown (host := "") (Or.inl (own_w hw 50 rfl)) Via.refl e1 f0 (hb hby d22_7) (fun T2 X2 e2 => ?_)
  refine own_ifNo X2 hx (hb hby d22_10) ((if0 _ _).trans (teq (by decide : (0 : Int32) = (0 : Int32))).2) ?_
  refine own_iconst X2 hx (v := (1 : Int32)) (hb hby d22_13) rfl ?_
  refine own_goto X2 hx (pc' := 18) (hb hby d22_14) (by decide) (by decide) ?_
  show Goes _ _ _ _ _ _ (T2.setTop (mkF m 18 #[.val (.ref a1)] [(.int (1 : Int32))]))
  exact own_retN X2 hx (t := .boolean) N0 hlk (by decide) (by decide) hret (by simp) (hb hby d22_18) (by rw [e2]; exact ⟨rfl, rfl⟩)
theorem d23_0 : decode jdk_33_method_12_code 0 = .ok (.iload_n 1, 1) := by decide +kernel
theorem d23_1 : decode jdk_33_method_12_code 1 = .ok (.istore 5, 2) := by decide +kernel
theorem d23_3 : decode jdk_33_method_12_code 3 = .ok (.iload_n 0, 1) := by decide +kernel
theorem d23_4 : decode jdk_33_method_12_code 4 = .ok (.ifCond .ge 7, 3) := by decide +kernel
theorem d23_11 : decode jdk_33_method_12_code 11 = .ok (.iconst 0, 1) := by decide +kernel
theorem d23_12 : decode jdk_33_method_12_code 12 = .ok (.istore 6, 2) := by decide +kernel
theorem d23_14 : decode jdk_33_method_12_code 14 = .ok (.iload 6, 2) := by decide +kernel
theorem d23_16 : decode jdk_33_method_12_code 16 = .ok (.ifCond .ne 6, 3) := by decide +kernel
theorem d23_19 : decode jdk_33_method_12_code 19 = .ok (.iload_n 0, 1) := by decide +kernel
theorem d23_20 : decode jdk_33_method_12_code 20 = .ok (.ineg, 1) := by decide +kernel
theorem d23_21 : decode jdk_33_method_12_code 21 = .ok (.istore_n 0, 1) := by decide +kernel
theorem d23_22 : decode jdk_33_method_12_code 22 = .ok (.iload_n 0, 1) := by decide +kernel
theorem d23_23 : decode jdk_33_method_12_code 23 = .ok (.bipush (-100), 2) := by decide +kernel
theorem d23_25 : decode jdk_33_method_12_code 25 = .ok (.if_icmp .gt 47, 3) := by decide +kernel
theorem d23_72 : decode jdk_33_method_12_code 72 = .ok (.aload_n 2, 1) := by decide +kernel
theorem d23_73 : decode jdk_33_method_12_code 73 = .ok (.iinc 5 (-1), 3) := by decide +kernel
theorem d23_76 : decode jdk_33_method_12_code 76 = .ok (.iload 5, 2) := by decide +kernel
theorem d23_78 : decode jdk_33_method_12_code 78 = .ok (.getstatic 83, 3) := by decide +kernel
theorem d23_81 : decode jdk_33_method_12_code 81 = .ok (.iload_n 0, 1) := by decide +kernel
theorem d23_82 : decode jdk_33_method_12_code 82 = .ok (.ineg, 1) := by decide +kernel
theorem d23_83 : decode jdk_33_method_12_code 83 = .ok (.baload, 1) := by decide +kernel
theorem d23_84 : decode jdk_33_method_12_code 84 = .ok (.bastore, 1) := by decide +kernel
theorem d23_85 : decode jdk_33_method_12_code 85 = .ok (.iload_n 0, 1) := by decide +kernel
theorem d23_86 : decode jdk_33_method_12_code 86 = .ok (.bipush (-9), 2) := by decide +kernel
theorem d23_88 : decode jdk_33_method_12_code 88 = .ok (.if_icmp .ge 16, 3) := by decide +kernel
theorem d23_91 : decode jdk_33_method_12_code 91 = .ok (.aload_n 2, 1) := by decide +kernel
theorem d23_92 : decode jdk_33_method_12_code 92 = .ok (.iinc 5 (-1), 3) := by decide +kernel
theorem d23_95 : decode jdk_33_method_12_code 95 = .ok (.iload 5, 2) := by decide +kernel
theorem d23_97 : decode jdk_33_method_12_code 97 = .ok (.getstatic 87, 3) := by decide +kernel
theorem d23_100 : decode jdk_33_method_12_code 100 = .ok (.iload_n 0, 1) := by decide +kernel
theorem d23_101 : decode jdk_33_method_12_code 101 = .ok (.ineg, 1) := by decide +kernel
theorem d23_102 : decode jdk_33_method_12_code 102 = .ok (.baload, 1) := by decide +kernel
theorem d23_103 : decode jdk_33_method_12_code 103 = .ok (.bastore, 1) := by decide +kernel
theorem d23_104 : decode jdk_33_method_12_code 104 = .ok (.iload 6, 2) := by decide +kernel
theorem d23_106 : decode jdk_33_method_12_code 106 = .ok (.ifCond .eq 12, 3) := by decide +kernel
theorem d23_118 : decode jdk_33_method_12_code 118 = .ok (.iload 5, 2) := by decide +kernel
theorem d23_120 : decode jdk_33_method_12_code 120 = .ok (.ireturn, 1) := by decide +kernel
theorem d23_28 : decode jdk_33_method_12_code 28 = .ok (.iload_n 0, 1) := by decide +kernel
theorem d23_29 : decode jdk_33_method_12_code 29 = .ok (.bipush 100, 2) := by decide +kernel
theorem d23_31 : decode jdk_33_method_12_code 31 = .ok (.idiv, 1) := by decide +kernel
theorem d23_32 : decode jdk_33_method_12_code 32 = .ok (.istore_n 3, 1) := by decide +kernel
theorem d23_33 : decode jdk_33_method_12_code 33 = .ok (.iload_n 3, 1) := by decide +kernel
theorem d23_34 : decode jdk_33_method_12_code 34 = .ok (.bipush 100, 2) := by decide +kernel
theorem d23_36 : decode jdk_33_method_12_code 36 = .ok (.imul, 1) := by decide +kernel
theorem d23_37 : decode jdk_33_method_12_code 37 = .ok (.iload_n 0, 1) := by decide +kernel
theorem d23_38 : decode jdk_33_method_12_code 38 = .ok (.isub, 1) := by decide +kernel
theorem d23_39 : decode jdk_33_method_12_code 39 = .ok (.istore 4, 2) := by decide +kernel
theorem d23_41 : decode jdk_33_method_12_code 41 = .ok (.iload_n 3, 1) := by decide +kernel
theorem d23_42 : decode jdk_33_method_12_code 42 = .ok (.istore_n 0, 1) := by decide +kernel
theorem d23_43 : decode jdk_33_method_12_code 43 = .ok (.aload_n 2, 1) := by decide +kernel
theorem d23_44 : decode jdk_33_method_12_code 44 = .ok (.iinc 5 (-1), 3) := by decide +kernel
theorem d23_47 : decode jdk_33_method_12_code 47 = .ok (.iload 5, 2) := by decide +kernel
theorem d23_49 : decode jdk_33_method_12_code 49 = .ok (.getstatic 83, 3) := by decide +kernel
theorem d23_52 : decode jdk_33_method_12_code 52 = .ok (.iload 4, 2) := by decide +kernel
theorem d23_54 : decode jdk_33_method_12_code 54 = .ok (.baload, 1) := by decide +kernel
theorem d23_55 : decode jdk_33_method_12_code 55 = .ok (.bastore, 1) := by decide +kernel
theorem d23_56 : decode jdk_33_method_12_code 56 = .ok (.aload_n 2, 1) := by decide +kernel
theorem d23_57 : decode jdk_33_method_12_code 57 = .ok (.iinc 5 (-1), 3) := by decide +kernel
theorem d23_60 : decode jdk_33_method_12_code 60 = .ok (.iload 5, 2) := by decide +kernel
theorem d23_62 : decode jdk_33_method_12_code 62 = .ok (.getstatic 87, 3) := by decide +kernel
theorem d23_65 : decode jdk_33_method_12_code 65 = .ok (.iload 4, 2) := by decide +kernel
theorem d23_67 : decode jdk_33_method_12_code 67 = .ok (.baload, 1) := by decide +kernel
theorem d23_68 : decode jdk_33_method_12_code 68 = .ok (.bastore, 1) := by decide +kernel
theorem d23_69 : decode jdk_33_method_12_code 69 = .ok (.goto (-47), 3) := by decide +kernel
def Q2316 (Z : State) (p1 : Int32) (p2 : Int32) (a3 : Addr) (kd : ClassId) (bs : List Int32) (tl : List Value) (w_DigitOnes : Addr) (w_DigitTens : Addr) (zc : Int32) (fm : Value) (k_ones : ClassId) (k_tens : ClassId) (h0 : Heap) (n0 : Nat) (v : Option Value) (h : Heap) : Prop :=
  (∃ (w : Int32), v = some (.int w) ∧ Keep h0 h [a3] ∧ Arv Z h a3 kd .byte (16 : Int32) (bl (bs ++ dg p1.toNatClampNeg) ++ (tl.drop (nd p1.toNatClampNeg))) (.int (0 : Int32)))
theorem ef_2316 (m : MethodId) (p1 : Int32) (p2 : Int32) (a3 : Addr) : entryFrame m #[(.int p1), (.int p2), (.ref a3)] 7 = mkF m 0 #[.val (.int p1), .val (.int p2), .val (.ref a3), .unset, .unset, .unset, .unset] [] := by first | (simp [entryFrame, mkF, argsToLocals, Value.category]; done) | rfl
set_option maxRecDepth 65536 in
set_option maxHeartbeats 40000000 in
theorem rm2316 (l : Launch) (Z : State) (a0 : Array Value) (hw : ∀ d ∈ tables_1, d.before a0 Z = true) (ws : List Jvm.Cond) (p1 : Int32) (p2 : Int32) (a3 : Addr) (kd : ClassId) (bs : List Int32) (tl : List Value) (w_DigitOnes : Addr) (w_DigitTens : Addr) (zc : Int32) (fm : Value) (k_ones : ClassId) (k_tens : ClassId) (h0 : Heap) (n0 : Nat) (O0 : Old Z n0 h0) (SF : Start Z w_DigitOnes w_DigitTens zc fm k_ones k_tens) (hpos : (0 : Int32) < p1) (hp2 : p2 = Int32.ofNat (bs.length + nd p1.toNatClampNeg)) (f2 : Arv Z h0 a3 kd .byte (16 : Int32) (bl bs ++ tl) (.int (0 : Int32))) (f3 : n0 ≤ a3) (hcap : bs.length + tl.length = 16) (hfit : nd p1.toNatClampNeg ≤ tl.length) :
    Meets l (⟨"java/lang/Integer", "getChars", "(II[B)I"⟩ : MethodName) jdk_33_method_12_code 7 (some .int) ws ({ frames := 0, cells := 0, slots := 0, locals := 0 } : Room) ({ frames := 0, cells := 0, slots := 0, locals := 0 } : Room).cells ({ frames := 0, cells := 0, slots := 0, locals := 0 } : Room).slots Z #[(.int p1), (.int p2), (.ref a3)] h0 n0 (Q2316 Z p1 p2 a3 kd bs tl w_DigitOnes w_DigitTens zc fm k_ones k_tens h0 n0) := by
  refine Meets.of (F := fun m => mkF m 0 #[.val (.int p1), .val (.int p2), .val (.ref a3), .unset, .unset, .unset, .unset] []) (plainFor_of_name pn_5) (fun m => ef_2316 m p1 p2 a3) ?_
  intro p e s m below meth c T0 hx hby hml hown0 hnm hret hlk hZ X0 e0
  have hown : s.vm.findClass "java/lang/Integer" = some m.cls := hown0
  have N0 := Fr.nil n0
  have KC0 := Keep.refl h0 [a3]
  obtain ⟨z0, z1, z2, z3, z4, z5, z6, hzc, z8, hfm, -⟩ := SF
  show Goes _ _ _ _ _ _ (T0.setTop (mkF m 0 #[.val (.int p1), .val (.int p2), .val (.ref a3), .unset, .unset, .unset, .unset] []))
  refine own_iloadN X0 hx (hb hby d23_0) rfl ?_
  refine own_istore X0 hx (Ls' := #[.val (.int p1), .val (.int p2), .val (.ref a3), .unset, .unset, .val (.int p2), .unset]) (hb hby d23_1) rfl ?_
  refine own_iloadN X0 hx (hb hby d23_3) rfl ?_
  refine own_ifYes X0 hx (pc' := 11) (hb hby d23_4) ((if0 _ _).trans (flt ((own_pneg hpos) : ¬ (p1 < (0 : Int32)))).2.1) (by decide) (by decide) ?_
  refine own_iconst X0 hx (v := (0 : Int32)) (hb hby d23_11) rfl ?_
  refine own_istore X0 hx (Ls' := #[.val (.int p1), .val (.int p2), .val (.ref a3), .unset, .unset, .val (.int p2), .val (.int (0 : Int32))]) (hb hby d23_12) rfl ?_
  refine own_iload X0 hx (hb hby d23_14) rfl ?_
  refine own_ifNo X0 hx (hb hby d23_16) ((if0 _ _).trans (teq (by decide : (0 : Int32) = (0 : Int32))).2) ?_
  refine own_iloadN X0 hx (hb hby d23_19) rfl ?_
  refine own_ineg X0 hx (hb hby d23_20) ?_
  refine own_istoreN X0 hx (Ls' := #[.val (.int (-p1)), .val (.int p2), .val (.ref a3), .unset, .unset, .val (.int p2), .val (.int (0 : Int32))]) (hb hby d23_21) rfl ?_
  show Goes _ _ _ _ _ _ (T0.setTop (mkF m 22 #[.val (.int (-p1)), .val (.int p2), .val (.ref a3), .unset, .unset, .val (.int p2), .val (.int (0 : Int32))] []))
  have LP : ∀ (mm : Nat) (x c5 : Int32) (s3 s4 : Slot) (js po : List Value) (hL : Heap) (TL : State) (lcL : List Loc) (XL : Stand p l e ({ frames := 0, cells := 0, slots := 0, locals := 0 } : Room) s m #[(.int p1), (.int p2), (.ref a3)] below meth c TL lcL 0 0) (NL : Fr n0 lcL) (eL : TL.heap = hL) (OL : Old Z n0 hL) (KL : Keep h0 hL [a3]) (AL : Arv Z hL a3 kd .byte (16 : Int32) (bl bs ++ (js ++ po)) (.int (0 : Int32))) (hp_s3 : Pl s3) (hp_s4 : Pl s4) (hx0 : x.toInt = -(mm : Int)) (hlt : mm < 2147483648) (hcc : c5 = Int32.ofNat (bs.length + nd mm)) (hjs : js.length = nd mm) (hpo : bl (dg mm) ++ po = bl (dg p1.toNatClampNeg) ++ tl.drop (nd p1.toNatClampNeg)) (hbb : bs.length + (js.length + po.length) = 16), Goes p e below (fun o t L => FrameEnd s o t L ({ frames := 0, cells := 0, slots := 0, locals := 0 } : Room).cells ({ frames := 0, cells := 0, slots := 0, locals := 0 } : Room).slots) n0 (Q2316 Z p1 p2 a3 kd bs tl w_DigitOnes w_DigitTens zc fm k_ones k_tens h0 n0) (TL.setTop (mkF m 22 #[.val (.int x), .val (.int p2), .val (.ref a3), s3, s4, .val (.int c5), .val (.int (0 : Int32))] [])) := by
    intro mm
    induction mm using Nat.strongRecOn with
    | _ mm ih =>
      intro x c5 s3 s4 js po hL TL lcL XL NL eL OL KL AL hp_s3 hp_s4 hx0 hlt hcc hjs hpo hbb
      show Goes _ _ _ _ _ _ (TL.setTop (mkF m 22 #[.val (.int x), .val (.int p2), .val (.ref a3), s3, s4, .val (.int c5), .val (.int (0 : Int32))] []))
      refine own_iloadN XL hx (hb hby d23_22) rfl ?_
      refine own_bipush XL hx (v := (-100 : Int32)) (hb hby d23_23) rfl ?_
      by_cases hc25_1 : (-100 : Int32) < x
      ·
        refine own_icmpYes XL hx (pc' := 72) (hb hby d23_25) (tlt (hc25_1 : (-100 : Int32) < x)).2.2.1 (by decide) (by decide) ?_
        show Goes _ _ _ _ _ _ (TL.setTop (mkF m 72 #[.val (.int x), .val (.int p2), .val (.ref a3), s3, s4, .val (.int c5), .val (.int (0 : Int32))] []))
        have hm100 := own_n100 hx0 hc25_1
        refine own_aloadN XL hx (hb hby d23_72) rfl rfl ?_
        refine own_iinc XL hx (Ls' := #[.val (.int x), .val (.int p2), .val (.ref a3), s3, s4, .val (.int (c5 + (-1 : Int32))), .val (.int (0 : Int32))]) (hb hby d23_73) rfl rfl ?_
        refine own_iload XL hx (hb hby d23_76) rfl ?_
        refine own_getS XL hx hZ hown (host := "") (Or.inl (own_w hw 126 rfl)) Via.refl eL (z0.ext OL.2) (hb hby d23_78) (fun T2 X2 e2 => ?_)
        refine own_iloadN X2 hx (hb hby d23_81) rfl ?_
        refine own_ineg X2 hx (hb hby d23_82) ?_
        refine own_baload X2 hx hZ e2 (z4.ext OL.2) (own_gcj2 hx0 hm100) (v := (.int (Int32.ofNat (48 + mm % 10)))) (own_gcv2o hx0 hm100) (hb hby d23_83) ?_
        refine own_bastore X2 hx hZ NL e2 AL (own_gcs3 (z := (16 : Int32)) (by decide) (by decide) hcc hjs hbb).1 (i := (bs.length + (js.length - 1))) (own_gcs3 (z := (16 : Int32)) (by decide) (by decide) hcc hjs hbb).2 (by have qn := nd_le mm; simp only [List.length_append, bl_len, List.length_set, List.length_cons, List.length_nil] at *; omega) f3 (hb hby d23_84) (fun T3 h3 lc3 X3 e3 N3 W3 V3 => ?_)
        have O4 := OL.wr W3 f3
        have KC4 := KL.wr W3 (Or.inl (List.mem_of_getElem? (i := 0) rfl))
        refine own_iloadN X3 hx (hb hby d23_85) rfl ?_
        refine own_bipush X3 hx (v := (-9 : Int32)) (hb hby d23_86) rfl ?_
        by_cases hc88_5 : x < (-9 : Int32)
        ·
          refine own_icmpNo X3 hx (hb hby d23_88) (tlt (hc88_5 : x < (-9 : Int32))).2.1 ?_
          show Goes _ _ _ _ _ _ (T3.setTop (mkF m 91 #[.val (.int x), .val (.int p2), .val (.ref a3), s3, s4, .val (.int (c5 + (-1 : Int32))), .val (.int (0 : Int32))] []))
          have h10 := own_m10 hx0 hc88_5
          refine own_aloadN X3 hx (hb hby d23_91) rfl rfl ?_
          refine own_iinc X3 hx (Ls' := #[.val (.int x), .val (.int p2), .val (.ref a3), s3, s4, .val (.int ((c5 + (-1 : Int32)) + (-1 : Int32))), .val (.int (0 : Int32))]) (hb hby d23_92) rfl rfl ?_
          refine own_iload X3 hx (hb hby d23_95) rfl ?_
          refine own_getS X3 hx hZ hown (host := "") (Or.inl (own_w hw 217 rfl)) Via.refl e3 (z2.ext O4.2) (hb hby d23_97) (fun T6 X6 e6 => ?_)
          refine own_iloadN X6 hx (hb hby d23_100) rfl ?_
          refine own_ineg X6 hx (hb hby d23_101) ?_
          refine own_baload X6 hx hZ e6 (z5.ext O4.2) (own_gcj2 hx0 hm100) (v := (.int (Int32.ofNat (48 + mm / 10)))) (own_gcv2t hx0 hm100) (hb hby d23_102) ?_
          refine own_bastore X6 hx hZ N3 e6 V3 (own_gcs4 (z := (16 : Int32)) (by decide) (by decide) hcc h10 hm100 hjs hbb).1 (i := bs.length) (own_gcs4 (z := (16 : Int32)) (by decide) (by decide) hcc h10 hm100 hjs hbb).2 (by have qn := nd_le mm; simp only [List.length_append, bl_len, List.length_set, List.length_cons, List.length_nil] at *; omega) f3 (hb hby d23_103) (fun T7 h7 lc7 X7 e7 N7 W7 V7 => ?_)
          have O8 := O4.wr W7 f3
          have KC8 := KC4.wr W7 (Or.inl (List.mem_of_getElem? (i := 0) rfl))
          show Goes _ _ _ _ _ _ (T7.setTop (mkF m 104 #[.val (.int x), .val (.int p2), .val (.ref a3), s3, s4, .val (.int ((c5 + (-1 : Int32)) + (-1 : Int32))), .val (.int (0 : Int32))] []))
          refine own_iload X7 hx (hb hby d23_104) rfl ?_
          refine own_ifYes X7 hx (pc' := 118) (hb hby d23_106) ((if0 _ _).trans (teq (by decide : (0 : Int32) = (0 : Int32))).1) (by decide) (by decide) ?_
          refine own_iload X7 hx (hb hby d23_118) rfl ?_
          show Goes _ _ _ _ _ _ (T7.setTop (mkF m 120 #[.val (.int x), .val (.int p2), .val (.ref a3), s3, s4, .val (.int ((c5 + (-1 : Int32)) + (-1 : Int32))), .val (.int (0 : Int32))] [(.int ((c5 + (-1 : Int32)) + (-1 : Int32)))]))
          exact own_retI X7 hx N7 hlk (by decide) (by decide) hret (hb hby d23_120) (by rw [e7]; exact ⟨((c5 + (-1 : Int32)) + (-1 : Int32)), rfl, KC8, (own_gcE2 h10 hm100 hjs hpo V7)⟩)
        ·
          refine own_icmpYes X3 hx (pc' := 104) (hb hby d23_88) (flt (hc88_5 : ¬ (x < (-9 : Int32)))).2.1 (by decide) (by decide) ?_
          show Goes _ _ _ _ _ _ (T3.setTop (mkF m 104 #[.val (.int x), .val (.int p2), .val (.ref a3), s3, s4, .val (.int (c5 + (-1 : Int32))), .val (.int (0 : Int32))] []))
          have h10 := own_n10 hx0 hc88_5
          refine own_iload X3 hx (hb hby d23_104) rfl ?_
          refine own_ifYes X3 hx (pc' := 118) (hb hby d23_106) ((if0 _ _).trans (teq (by decide : (0 : Int32) = (0 : Int32))).1) (by decide) (by decide) ?_
          refine own_iload X3 hx (hb hby d23_118) rfl ?_
          show Goes _ _ _ _ _ _ (T3.setTop (mkF m 120 #[.val (.int x), .val (.int p2), .val (.ref a3), s3, s4, .val (.int (c5 + (-1 : Int32))), .val (.int (0 : Int32))] [(.int (c5 + (-1 : Int32)))]))
          exact own_retI X3 hx N3 hlk (by decide) (by decide) hret (hb hby d23_120) (by rw [e3]; exact ⟨(c5 + (-1 : Int32)), rfl, KC4, (own_gcE1 h10 hm100 hjs hpo V3)⟩)
      ·
        refine own_icmpNo XL hx (hb hby d23_25) (flt (hc25_1 : ¬ ((-100 : Int32) < x))).2.2.1 ?_
        show Goes _ _ _ _ _ _ (TL.setTop (mkF m 28 #[.val (.int x), .val (.int p2), .val (.ref a3), s3, s4, .val (.int c5), .val (.int (0 : Int32))] []))
        have hm100 := own_m100 hx0 hc25_1
        obtain ⟨js0, u0, u1, hj0, hjs0⟩ := own_split2 hjs hm100 hlt
        subst hj0
        refine own_iloadN XL hx (hb hby d23_28) rfl ?_
        refine own_bipush XL hx (v := (100 : Int32)) (hb hby d23_29) rfl ?_
        refine own_idiv XL hx (hb hby d23_31) (by decide) ?_
        refine own_istoreN XL hx (Ls' := #[.val (.int x), .val (.int p2), .val (.ref a3), .val (.int (x / (100 : Int32))), s4, .val (.int c5), .val (.int (0 : Int32))]) (hb hby d23_32) (by rcases hp_s3 with rfl | ⟨_, rfl⟩ | ⟨_, rfl⟩ <;> rfl) ?_
        refine own_iloadN XL hx (hb hby d23_33) rfl ?_
        show Goes _ _ _ _ _ _ (TL.setTop (mkF m 34 #[.val (.int x), .val (.int p2), .val (.ref a3), .val (.int (x / (100 : Int32))), s4, .val (.int c5), .val (.int (0 : Int32))] [(.int (x / (100 : Int32)))]))
        refine own_bipush XL hx (v := (100 : Int32)) (hb hby d23_34) rfl ?_
        refine own_imul XL hx (hb hby d23_36) ?_
        refine own_iloadN XL hx (hb hby d23_37) rfl ?_
        refine own_isub XL hx (hb hby d23_38) ?_
        refine own_istore XL hx (Ls' := #[.val (.int x), .val (.int p2), .val (.ref a3), .val (.int (x / (100 : Int32))), .val (.int (((x / (100 : Int32)) * (100 : Int32)) - x)), .val (.int c5), .val (.int (0 : Int32))]) (hb hby d23_39) (by rcases hp_s4 with rfl | ⟨_, rfl⟩ | ⟨_, rfl⟩ <;> rfl) ?_
        refine own_iloadN XL hx (hb hby d23_41) rfl ?_
        refine own_istoreN XL hx (Ls' := #[.val (.int (x / (100 : Int32))), .val (.int p2), .val (.ref a3), .val (.int (x / (100 : Int32))), .val (.int (((x / (100 : Int32)) * (100 : Int32)) - x)), .val (.int c5), .val (.int (0 : Int32))]) (hb hby d23_42) rfl ?_
        refine own_aloadN XL hx (hb hby d23_43) rfl rfl ?_
        refine own_iinc XL hx (Ls' := #[.val (.int (x / (100 : Int32))), .val (.int p2), .val (.ref a3), .val (.int (x / (100 : Int32))), .val (.int (((x / (100 : Int32)) * (100 : Int32)) - x)), .val (.int (c5 + (-1 : Int32))), .val (.int (0 : Int32))]) (hb hby d23_44) rfl rfl ?_
        refine own_iload XL hx (hb hby d23_47) rfl ?_
        refine own_getS XL hx hZ hown (host := "") (Or.inl (own_w hw 126 rfl)) Via.refl eL (z0.ext OL.2) (hb hby d23_49) (fun T9 X9 e9 => ?_)
        refine own_iload X9 hx (hb hby d23_52) rfl ?_
        refine own_baload X9 hx hZ e9 (z4.ext OL.2) (own_gcj hx0 hm100 hlt) (v := (.int (Int32.ofNat (48 + (mm % 100) % 10)))) (own_gcvo hx0 hm100 hlt) (hb hby d23_54) ?_
        refine own_bastore X9 hx hZ NL e9 AL (own_gcs1 (z := (16 : Int32)) (by decide) (by decide) hcc hm100 hlt hjs0 hbb).1 (i := (bs.length + (js0.length + 1))) (own_gcs1 (z := (16 : Int32)) (by decide) (by decide) hcc hm100 hlt hjs0 hbb).2 (by have qn := nd_le mm; simp only [List.length_append, bl_len, List.length_set, List.length_cons, List.length_nil] at *; omega) f3 (hb hby d23_55) (fun T10 h10 lc10 X10 e10 N10 W10 V10 => ?_)
        have O11 := OL.wr W10 f3
        have KC11 := KL.wr W10 (Or.inl (List.mem_of_getElem? (i := 0) rfl))
        refine own_aloadN X10 hx (hb hby d23_56) rfl rfl ?_
        refine own_iinc X10 hx (Ls' := #[.val (.int (x / (100 : Int32))), .val (.int p2), .val (.ref a3), .val (.int (x / (100 : Int32))), .val (.int (((x / (100 : Int32)) * (100 : Int32)) - x)), .val (.int ((c5 + (-1 : Int32)) + (-1 : Int32))), .val (.int (0 : Int32))]) (hb hby d23_57) rfl rfl ?_
        refine own_iload X10 hx (hb hby d23_60) rfl ?_
        refine own_getS X10 hx hZ hown (host := "") (Or.inl (own_w hw 217 rfl)) Via.refl e10 (z2.ext O11.2) (hb hby d23_62) (fun T12 X12 e12 => ?_)
        refine own_iload X12 hx (hb hby d23_65) rfl ?_
        refine own_baload X12 hx hZ e12 (z5.ext O11.2) (own_gcj hx0 hm100 hlt) (v := (.int (Int32.ofNat (48 + (mm % 100) / 10)))) (own_gcvt hx0 hm100 hlt) (hb hby d23_67) ?_
        refine own_bastore X12 hx hZ N10 e12 V10 (own_gcs2 (z := (16 : Int32)) (by decide) (by decide) hcc hm100 hlt hjs0 hbb).1 (i := (bs.length + js0.length)) (own_gcs2 (z := (16 : Int32)) (by decide) (by decide) hcc hm100 hlt hjs0 hbb).2 (by have qn := nd_le mm; simp only [List.length_append, bl_len, List.length_set, List.length_cons, List.length_nil] at *; omega) f3 (hb hby d23_68) (fun T13 h13 lc13 X13 e13 N13 W13 V13 => ?_)
        have O14 := O11.wr W13 f3
        have KC14 := KC11.wr W13 (Or.inl (List.mem_of_getElem? (i := 0) rfl))
        refine own_goto X13 hx (pc' := 22) (hb hby d23_69) (by decide) (by decide) ?_
        show Goes _ _ _ _ _ _ (T13.setTop (mkF m 22 #[.val (.int (x / (100 : Int32))), .val (.int p2), .val (.ref a3), .val (.int (x / (100 : Int32))), .val (.int (((x / (100 : Int32)) * (100 : Int32)) - x)), .val (.int ((c5 + (-1 : Int32)) + (-1 : Int32))), .val (.int (0 : Int32))] []))
        exact ih (mm / 100) (own_lt100 hm100) (x / (100 : Int32)) ((c5 + (-1 : Int32)) + (-1 : Int32)) _ _ js0 _ h13 T13 _ X13 N13 e13 O14 KC14 (own_gcA V13) (Or.inr (Or.inr ⟨_, rfl⟩)) (Or.inr (Or.inr ⟨_, rfl⟩)) (own_gcx hx0 hm100) (by omega) (own_gcc hcc hm100 hlt hbb (by decide)) hjs0 (own_gcd hm100 hlt hpo) (by simp only [List.length_cons, List.length_append, List.length_nil] at hbb ⊢; omega)
  exact LP p1.toNatClampNeg (-p1) _ _ _ (tl.take (nd p1.toNatClampNeg)) (tl.drop (nd p1.toNatClampNeg)) h0 T0 _ X0 N0 e0 O0 KC0 (by rw [List.take_append_drop]; exact f2) (Or.inl rfl) (Or.inl rfl) (own_gc0 hpos) (own_gcl p1) hp2 (own_tkl hfit) rfl (own_bb hcap hfit)
def Q2334 (Z : State) (p1 : Int32) (p2 : Int32) (a3 : Addr) (kd : ClassId) (bs : List Int32) (tl : List Value) (w_DigitOnes : Addr) (w_DigitTens : Addr) (zc : Int32) (fm : Value) (k_ones : ClassId) (k_tens : ClassId) (h0 : Heap) (n0 : Nat) (v : Option Value) (h : Heap) : Prop :=
  (∃ (w : Int32), v = some (.int w) ∧ Keep h0 h [a3] ∧ Arv Z h a3 kd .byte (34 : Int32) (bl (bs ++ dg p1.toNatClampNeg) ++ (tl.drop (nd p1.toNatClampNeg))) (.int (0 : Int32)))
theorem ef_2334 (m : MethodId) (p1 : Int32) (p2 : Int32) (a3 : Addr) : entryFrame m #[(.int p1), (.int p2), (.ref a3)] 7 = mkF m 0 #[.val (.int p1), .val (.int p2), .val (.ref a3), .unset, .unset, .unset, .unset] [] := by first | (simp [entryFrame, mkF, argsToLocals, Value.category]; done) | rfl
set_option maxRecDepth 65536 in
set_option maxHeartbeats 40000000 in
theorem rm2334 (l : Launch) (Z : State) (a0 : Array Value) (hw : ∀ d ∈ tables_1, d.before a0 Z = true) (ws : List Jvm.Cond) (p1 : Int32) (p2 : Int32) (a3 : Addr) (kd : ClassId) (bs : List Int32) (tl : List Value) (w_DigitOnes : Addr) (w_DigitTens : Addr) (zc : Int32) (fm : Value) (k_ones : ClassId) (k_tens : ClassId) (h0 : Heap) (n0 : Nat) (O0 : Old Z n0 h0) (SF : Start Z w_DigitOnes w_DigitTens zc fm k_ones k_tens) (hpos : (0 : Int32) < p1) (hp2 : p2 = Int32.ofNat (bs.length + nd p1.toNatClampNeg)) (f2 : Arv Z h0 a3 kd .byte (34 : Int32) (bl bs ++ tl) (.int (0 : Int32))) (f3 : n0 ≤ a3) (hcap : bs.length + tl.length = 34) (hfit : nd p1.toNatClampNeg ≤ tl.length) :
    Meets l (⟨"java/lang/Integer", "getChars", "(II[B)I"⟩ : MethodName) jdk_33_method_12_code 7 (some .int) ws ({ frames := 0, cells := 0, slots := 0, locals := 0 } : Room) ({ frames := 0, cells := 0, slots := 0, locals := 0 } : Room).cells ({ frames := 0, cells := 0, slots := 0, locals := 0 } : Room).slots Z #[(.int p1), (.int p2), (.ref a3)] h0 n0 (Q2334 Z p1 p2 a3 kd bs tl w_DigitOnes w_DigitTens zc fm k_ones k_tens h0 n0) := by
  refine Meets.of (F := fun m => mkF m 0 #[.val (.int p1), .val (.int p2), .val (.ref a3), .unset, .unset, .unset, .unset] []) (plainFor_of_name pn_5) (fun m => ef_2334 m p1 p2 a3) ?_
  intro p e s m below meth c T0 hx hby hml hown0 hnm hret hlk hZ X0 e0
  have hown : s.vm.findClass "java/lang/Integer" = some m.cls := hown0
  have N0 := Fr.nil n0
  have KC0 := Keep.refl h0 [a3]
  obtain ⟨z0, z1, z2, z3, z4, z5, z6, hzc, z8, hfm, -⟩ := SF
  show Goes _ _ _ _ _ _ (T0.setTop (mkF m 0 #[.val (.int p1), .val (.int p2), .val (.ref a3), .unset, .unset, .unset, .unset] []))
  refine own_iloadN X0 hx (hb hby d23_0) rfl ?_
  refine own_istore X0 hx (Ls' := #[.val (.int p1), .val (.int p2), .val (.ref a3), .unset, .unset, .val (.int p2), .unset]) (hb hby d23_1) rfl ?_
  refine own_iloadN X0 hx (hb hby d23_3) rfl ?_
  refine own_ifYes X0 hx (pc' := 11) (hb hby d23_4) ((if0 _ _).trans (flt ((own_pneg hpos) : ¬ (p1 < (0 : Int32)))).2.1) (by decide) (by decide) ?_
  refine own_iconst X0 hx (v := (0 : Int32)) (hb hby d23_11) rfl ?_
  refine own_istore X0 hx (Ls' := #[.val (.int p1), .val (.int p2), .val (.ref a3), .unset, .unset, .val (.int p2), .val (.int (0 : Int32))]) (hb hby d23_12) rfl ?_
  refine own_iload X0 hx (hb hby d23_14) rfl ?_
  refine own_ifNo X0 hx (hb hby d23_16) ((if0 _ _).trans (teq (by decide : (0 : Int32) = (0 : Int32))).2) ?_
  refine own_iloadN X0 hx (hb hby d23_19) rfl ?_
  refine own_ineg X0 hx (hb hby d23_20) ?_
  refine own_istoreN X0 hx (Ls' := #[.val (.int (-p1)), .val (.int p2), .val (.ref a3), .unset, .unset, .val (.int p2), .val (.int (0 : Int32))]) (hb hby d23_21) rfl ?_
  show Goes _ _ _ _ _ _ (T0.setTop (mkF m 22 #[.val (.int (-p1)), .val (.int p2), .val (.ref a3), .unset, .unset, .val (.int p2), .val (.int (0 : Int32))] []))
  have LP : ∀ (mm : Nat) (x c5 : Int32) (s3 s4 : Slot) (js po : List Value) (hL : Heap) (TL : State) (lcL : List Loc) (XL : Stand p l e ({ frames := 0, cells := 0, slots := 0, locals := 0 } : Room) s m #[(.int p1), (.int p2), (.ref a3)] below meth c TL lcL 0 0) (NL : Fr n0 lcL) (eL : TL.heap = hL) (OL : Old Z n0 hL) (KL : Keep h0 hL [a3]) (AL : Arv Z hL a3 kd .byte (34 : Int32) (bl bs ++ (js ++ po)) (.int (0 : Int32))) (hp_s3 : Pl s3) (hp_s4 : Pl s4) (hx0 : x.toInt = -(mm : Int)) (hlt : mm < 2147483648) (hcc : c5 = Int32.ofNat (bs.length + nd mm)) (hjs : js.length = nd mm) (hpo : bl (dg mm) ++ po = bl (dg p1.toNatClampNeg) ++ tl.drop (nd p1.toNatClampNeg)) (hbb : bs.length + (js.length + po.length) = 34), Goes p e below (fun o t L => FrameEnd s o t L ({ frames := 0, cells := 0, slots := 0, locals := 0 } : Room).cells ({ frames := 0, cells := 0, slots := 0, locals := 0 } : Room).slots) n0 (Q2334 Z p1 p2 a3 kd bs tl w_DigitOnes w_DigitTens zc fm k_ones k_tens h0 n0) (TL.setTop (mkF m 22 #[.val (.int x), .val (.int p2), .val (.ref a3), s3, s4, .val (.int c5), .val (.int (0 : Int32))] [])) := by
    intro mm
    induction mm using Nat.strongRecOn with
    | _ mm ih =>
      intro x c5 s3 s4 js po hL TL lcL XL NL eL OL KL AL hp_s3 hp_s4 hx0 hlt hcc hjs hpo hbb
      show Goes _ _ _ _ _ _ (TL.setTop (mkF m 22 #[.val (.int x), .val (.int p2), .val (.ref a3), s3, s4, .val (.int c5), .val (.int (0 : Int32))] []))
      refine own_iloadN XL hx (hb hby d23_22) rfl ?_
      refine own_bipush XL hx (v := (-100 : Int32)) (hb hby d23_23) rfl ?_
      by_cases hc25_1 : (-100 : Int32) < x
      ·
        refine own_icmpYes XL hx (pc' := 72) (hb hby d23_25) (tlt (hc25_1 : (-100 : Int32) < x)).2.2.1 (by decide) (by decide) ?_
        show Goes _ _ _ _ _ _ (TL.setTop (mkF m 72 #[.val (.int x), .val (.int p2), .val (.ref a3), s3, s4, .val (.int c5), .val (.int (0 : Int32))] []))
        have hm100 := own_n100 hx0 hc25_1
        refine own_aloadN XL hx (hb hby d23_72) rfl rfl ?_
        refine own_iinc XL hx (Ls' := #[.val (.int x), .val (.int p2), .val (.ref a3), s3, s4, .val (.int (c5 + (-1 : Int32))), .val (.int (0 : Int32))]) (hb hby d23_73) rfl rfl ?_
        refine own_iload XL hx (hb hby d23_76) rfl ?_
        refine own_getS XL hx hZ hown (host := "") (Or.inl (own_w hw 126 rfl)) Via.refl eL (z0.ext OL.2) (hb hby d23_78) (fun T2 X2 e2 => ?_)
        refine own_iloadN X2 hx (hb hby d23_81) rfl ?_
        refine own_ineg X2 hx (hb hby d23_82) ?_
        refine own_baload X2 hx hZ e2 (z4.ext OL.2) (own_gcj2 hx0 hm100) (v := (.int (Int32.ofNat (48 + mm % 10)))) (own_gcv2o hx0 hm100) (hb hby d23_83) ?_
        refine own_bastore X2 hx hZ NL e2 AL (own_gcs3 (z := (34 : Int32)) (by decide) (by decide) hcc hjs hbb).1 (i := (bs.length + (js.length - 1))) (own_gcs3 (z := (34 : Int32)) (by decide) (by decide) hcc hjs hbb).2 (by have qn := nd_le mm; simp only [List.length_append, bl_len, List.length_set, List.length_cons, List.length_nil] at *; omega) f3 (hb hby d23_84) (fun T3 h3 lc3 X3 e3 N3 W3 V3 => ?_)
        have O4 := OL.wr W3 f3
        have KC4 := KL.wr W3 (Or.inl (List.mem_of_getElem? (i := 0) rfl))
        refine own_iloadN X3 hx (hb hby d23_85) rfl ?_
        refine own_bipush X3 hx (v := (-9 : Int32)) (hb hby d23_86) rfl ?_
        by_cases hc88_5 : x < (-9 : Int32)
        ·
          refine own_icmpNo X3 hx (hb hby d23_88) (tlt (hc88_5 : x < (-9 : Int32))).2.1 ?_
          show Goes _ _ _ _ _ _ (T3.setTop (mkF m 91 #[.val (.int x), .val (.int p2), .val (.ref a3), s3, s4, .val (.int (c5 + (-1 : Int32))), .val (.int (0 : Int32))] []))
          have h10 := own_m10 hx0 hc88_5
          refine own_aloadN X3 hx (hb hby d23_91) rfl rfl ?_
          refine own_iinc X3 hx (Ls' := #[.val (.int x), .val (.int p2), .val (.ref a3), s3, s4, .val (.int ((c5 + (-1 : Int32)) + (-1 : Int32))), .val (.int (0 : Int32))]) (hb hby d23_92) rfl rfl ?_
          refine own_iload X3 hx (hb hby d23_95) rfl ?_
          refine own_getS X3 hx hZ hown (host := "") (Or.inl (own_w hw 217 rfl)) Via.refl e3 (z2.ext O4.2) (hb hby d23_97) (fun T6 X6 e6 => ?_)
          refine own_iloadN X6 hx (hb hby d23_100) rfl ?_
          refine own_ineg X6 hx (hb hby d23_101) ?_
          refine own_baload X6 hx hZ e6 (z5.ext O4.2) (own_gcj2 hx0 hm100) (v := (.int (Int32.ofNat (48 + mm / 10)))) (own_gcv2t hx0 hm100) (hb hby d23_102) ?_
          refine own_bastore X6 hx hZ N3 e6 V3 (own_gcs4 (z := (34 : Int32)) (by decide) (by decide) hcc h10 hm100 hjs hbb).1 (i := bs.length) (own_gcs4 (z := (34 : Int32)) (by decide) (by decide) hcc h10 hm100 hjs hbb).2 (by have qn := nd_le mm; simp only [List.length_append, bl_len, List.length_set, List.length_cons, List.length_nil] at *; omega) f3 (hb hby d23_103) (fun T7 h7 lc7 X7 e7 N7 W7 V7 => ?_)
          have O8 := O4.wr W7 f3
          have KC8 := KC4.wr W7 (Or.inl (List.mem_of_getElem? (i := 0) rfl))
          show Goes _ _ _ _ _ _ (T7.setTop (mkF m 104 #[.val (.int x), .val (.int p2), .val (.ref a3), s3, s4, .val (.int ((c5 + (-1 : Int32)) + (-1 : Int32))), .val (.int (0 : Int32))] []))
          refine own_iload X7 hx (hb hby d23_104) rfl ?_
          refine own_ifYes X7 hx (pc' := 118) (hb hby d23_106) ((if0 _ _).trans (teq (by decide : (0 : Int32) = (0 : Int32))).1) (by decide) (by decide) ?_
          refine own_iload X7 hx (hb hby d23_118) rfl ?_
          show Goes _ _ _ _ _ _ (T7.setTop (mkF m 120 #[.val (.int x), .val (.int p2), .val (.ref a3), s3, s4, .val (.int ((c5 + (-1 : Int32)) + (-1 : Int32))), .val (.int (0 : Int32))] [(.int ((c5 + (-1 : Int32)) + (-1 : Int32)))]))
          exact own_retI X7 hx N7 hlk (by decide) (by decide) hret (hb hby d23_120) (by rw [e7]; exact ⟨((c5 + (-1 : Int32)) + (-1 : Int32)), rfl, KC8, (own_gcE2 h10 hm100 hjs hpo V7)⟩)
        ·
          refine own_icmpYes X3 hx (pc' := 104) (hb hby d23_88) (flt (hc88_5 : ¬ (x < (-9 : Int32)))).2.1 (by decide) (by decide) ?_
          show Goes _ _ _ _ _ _ (T3.setTop (mkF m 104 #[.val (.int x), .val (.int p2), .val (.ref a3), s3, s4, .val (.int (c5 + (-1 : Int32))), .val (.int (0 : Int32))] []))
          have h10 := own_n10 hx0 hc88_5
          refine own_iload X3 hx (hb hby d23_104) rfl ?_
          refine own_ifYes X3 hx (pc' := 118) (hb hby d23_106) ((if0 _ _).trans (teq (by decide : (0 : Int32) = (0 : Int32))).1) (by decide) (by decide) ?_
          refine own_iload X3 hx (hb hby d23_118) rfl ?_
          show Goes _ _ _ _ _ _ (T3.setTop (mkF m 120 #[.val (.int x), .val (.int p2), .val (.ref a3), s3, s4, .val (.int (c5 + (-1 : Int32))), .val (.int (0 : Int32))] [(.int (c5 + (-1 : Int32)))]))
          exact own_retI X3 hx N3 hlk (by decide) (by decide) hret (hb hby d23_120) (by rw [e3]; exact ⟨(c5 + (-1 : Int32)), rfl, KC4, (own_gcE1 h10 hm100 hjs hpo V3)⟩)
      ·
        refine own_icmpNo XL hx (hb hby d23_25) (flt (hc25_1 : ¬ ((-100 : Int32) < x))).2.2.1 ?_
        show Goes _ _ _ _ _ _ (TL.setTop (mkF m 28 #[.val (.int x), .val (.int p2), .val (.ref a3), s3, s4, .val (.int c5), .val (.int (0 : Int32))] []))
        have hm100 := own_m100 hx0 hc25_1
        obtain ⟨js0, u0, u1, hj0, hjs0⟩ := own_split2 hjs hm100 hlt
        subst hj0
        refine own_iloadN XL hx (hb hby d23_28) rfl ?_
        refine own_bipush XL hx (v := (100 : Int32)) (hb hby d23_29) rfl ?_
        refine own_idiv XL hx (hb hby d23_31) (by decide) ?_
        refine own_istoreN XL hx (Ls' := #[.val (.int x), .val (.int p2), .val (.ref a3), .val (.int (x / (100 : Int32))), s4, .val (.int c5), .val (.int (0 : Int32))]) (hb hby d23_32) (by rcases hp_s3 with rfl | ⟨_, rfl⟩ | ⟨_, rfl⟩ <;> rfl) ?_
        refine own_iloadN XL hx (hb hby d23_33) rfl ?_
        show Goes _ _ _ _ _ _ (TL.setTop (mkF m 34 #[.val (.int x), .val (.int p2), .val (.ref a3), .val (.int (x / (100 : Int32))), s4, .val (.int c5), .val (.int (0 : Int32))] [(.int (x / (100 : Int32)))]))
        refine own_bipush XL hx (v := (100 : Int32)) (hb hby d23_34) rfl ?_
        refine own_imul XL hx (hb hby d23_36) ?_
        refine own_iloadN XL hx (hb hby d23_37) rfl ?_
        refine own_isub XL hx (hb hby d23_38) ?_
        refine own_istore XL hx (Ls' := #[.val (.int x), .val (.int p2), .val (.ref a3), .val (.int (x / (100 : Int32))), .val (.int (((x / (100 : Int32)) * (100 : Int32)) - x)), .val (.int c5), .val (.int (0 : Int32))]) (hb hby d23_39) (by rcases hp_s4 with rfl | ⟨_, rfl⟩ | ⟨_, rfl⟩ <;> rfl) ?_
        refine own_iloadN XL hx (hb hby d23_41) rfl ?_
        refine own_istoreN XL hx (Ls' := #[.val (.int (x / (100 : Int32))), .val (.int p2), .val (.ref a3), .val (.int (x / (100 : Int32))), .val (.int (((x / (100 : Int32)) * (100 : Int32)) - x)), .val (.int c5), .val (.int (0 : Int32))]) (hb hby d23_42) rfl ?_
        refine own_aloadN XL hx (hb hby d23_43) rfl rfl ?_
        refine own_iinc XL hx (Ls' := #[.val (.int (x / (100 : Int32))), .val (.int p2), .val (.ref a3), .val (.int (x / (100 : Int32))), .val (.int (((x / (100 : Int32)) * (100 : Int32)) - x)), .val (.int (c5 + (-1 : Int32))), .val (.int (0 : Int32))]) (hb hby d23_44) rfl rfl ?_
        refine own_iload XL hx (hb hby d23_47) rfl ?_
        refine own_getS XL hx hZ hown (host := "") (Or.inl (own_w hw 126 rfl)) Via.refl eL (z0.ext OL.2) (hb hby d23_49) (fun T9 X9 e9 => ?_)
        refine own_iload X9 hx (hb hby d23_52) rfl ?_
        refine own_baload X9 hx hZ e9 (z4.ext OL.2) (own_gcj hx0 hm100 hlt) (v := (.int (Int32.ofNat (48 + (mm % 100) % 10)))) (own_gcvo hx0 hm100 hlt) (hb hby d23_54) ?_
        refine own_bastore X9 hx hZ NL e9 AL (own_gcs1 (z := (34 : Int32)) (by decide) (by decide) hcc hm100 hlt hjs0 hbb).1 (i := (bs.length + (js0.length + 1))) (own_gcs1 (z := (34 : Int32)) (by decide) (by decide) hcc hm100 hlt hjs0 hbb).2 (by have qn := nd_le mm; simp only [List.length_append, bl_len, List.length_set, List.length_cons, List.length_nil] at *; omega) f3 (hb hby d23_55) (fun T10 h10 lc10 X10 e10 N10 W10 V10 => ?_)
        have O11 := OL.wr W10 f3
        have KC11 := KL.wr W10 (Or.inl (List.mem_of_getElem? (i := 0) rfl))
        refine own_aloadN X10 hx (hb hby d23_56) rfl rfl ?_
        refine own_iinc X10 hx (Ls' := #[.val (.int (x / (100 : Int32))), .val (.int p2), .val (.ref a3), .val (.int (x / (100 : Int32))), .val (.int (((x / (100 : Int32)) * (100 : Int32)) - x)), .val (.int ((c5 + (-1 : Int32)) + (-1 : Int32))), .val (.int (0 : Int32))]) (hb hby d23_57) rfl rfl ?_
        refine own_iload X10 hx (hb hby d23_60) rfl ?_
        refine own_getS X10 hx hZ hown (host := "") (Or.inl (own_w hw 217 rfl)) Via.refl e10 (z2.ext O11.2) (hb hby d23_62) (fun T12 X12 e12 => ?_)
        refine own_iload X12 hx (hb hby d23_65) rfl ?_
        refine own_baload X12 hx hZ e12 (z5.ext O11.2) (own_gcj hx0 hm100 hlt) (v := (.int (Int32.ofNat (48 + (mm % 100) / 10)))) (own_gcvt hx0 hm100 hlt) (hb hby d23_67) ?_
        refine own_bastore X12 hx hZ N10 e12 V10 (own_gcs2 (z := (34 : Int32)) (by decide) (by decide) hcc hm100 hlt hjs0 hbb).1 (i := (bs.length + js0.length)) (own_gcs2 (z := (34 : Int32)) (by decide) (by decide) hcc hm100 hlt hjs0 hbb).2 (by have qn := nd_le mm; simp only [List.length_append, bl_len, List.length_set, List.length_cons, List.length_nil] at *; omega) f3 (hb hby d23_68) (fun T13 h13 lc13 X13 e13 N13 W13 V13 => ?_)
        have O14 := O11.wr W13 f3
        have KC14 := KC11.wr W13 (Or.inl (List.mem_of_getElem? (i := 0) rfl))
        refine own_goto X13 hx (pc' := 22) (hb hby d23_69) (by decide) (by decide) ?_
        show Goes _ _ _ _ _ _ (T13.setTop (mkF m 22 #[.val (.int (x / (100 : Int32))), .val (.int p2), .val (.ref a3), .val (.int (x / (100 : Int32))), .val (.int (((x / (100 : Int32)) * (100 : Int32)) - x)), .val (.int ((c5 + (-1 : Int32)) + (-1 : Int32))), .val (.int (0 : Int32))] []))
        exact ih (mm / 100) (own_lt100 hm100) (x / (100 : Int32)) ((c5 + (-1 : Int32)) + (-1 : Int32)) _ _ js0 _ h13 T13 _ X13 N13 e13 O14 KC14 (own_gcA V13) (Or.inr (Or.inr ⟨_, rfl⟩)) (Or.inr (Or.inr ⟨_, rfl⟩)) (own_gcx hx0 hm100) (by omega) (own_gcc hcc hm100 hlt hbb (by decide)) hjs0 (own_gcd hm100 hlt hpo) (by simp only [List.length_cons, List.length_append, List.length_nil] at hbb ⊢; omega)
  exact LP p1.toNatClampNeg (-p1) _ _ _ (tl.take (nd p1.toNatClampNeg)) (tl.drop (nd p1.toNatClampNeg)) h0 T0 _ X0 N0 e0 O0 KC0 (by rw [List.take_append_drop]; exact f2) (Or.inl rfl) (Or.inl rfl) (own_gc0 hpos) (own_gcl p1) hp2 (own_tkl hfit) rfl (own_bb hcap hfit)
theorem d20_0 : decode jdk_68_method_32_code 0 = .ok (.aload_n 0, 1) := by decide +kernel
theorem d20_1 : decode jdk_68_method_32_code 1 = .ok (.getfield 79, 3) := by decide +kernel
theorem d20_4 : decode jdk_68_method_32_code 4 = .ok (.istore_n 2, 1) := by decide +kernel
theorem d20_5 : decode jdk_68_method_32_code 5 = .ok (.iload_n 2, 1) := by decide +kernel
theorem d20_6 : decode jdk_68_method_32_code 6 = .ok (.iload_n 1, 1) := by decide +kernel
theorem d20_7 : decode jdk_68_method_32_code 7 = .ok (.invokestatic 245, 3) := by decide +kernel
theorem d20_10 : decode jdk_68_method_32_code 10 = .ok (.iadd, 1) := by decide +kernel
theorem d20_11 : decode jdk_68_method_32_code 11 = .ok (.istore_n 3, 1) := by decide +kernel
theorem d20_12 : decode jdk_68_method_32_code 12 = .ok (.aload_n 0, 1) := by decide +kernel
theorem d20_13 : decode jdk_68_method_32_code 13 = .ok (.iload_n 3, 1) := by decide +kernel
theorem d20_14 : decode jdk_68_method_32_code 14 = .ok (.invokevirtual 100, 3) := by decide +kernel
theorem d20_17 : decode jdk_68_method_32_code 17 = .ok (.aload_n 0, 1) := by decide +kernel
theorem d20_18 : decode jdk_68_method_32_code 18 = .ok (.invokevirtual 83, 3) := by decide +kernel
theorem pd_11 : parseMethodDescriptor "()Z" = some ⟨[], some .boolean⟩ := by decide +kernel
theorem d20_21 : decode jdk_68_method_32_code 21 = .ok (.ifCond .eq 16, 3) := by decide +kernel
theorem d20_24 : decode jdk_68_method_32_code 24 = .ok (.iload_n 1, 1) := by decide +kernel
theorem d20_25 : decode jdk_68_method_32_code 25 = .ok (.iload_n 3, 1) := by decide +kernel
theorem d20_26 : decode jdk_68_method_32_code 26 = .ok (.aload_n 0, 1) := by decide +kernel
theorem d20_27 : decode jdk_68_method_32_code 27 = .ok (.getfield 15, 3) := by decide +kernel
theorem d20_30 : decode jdk_68_method_32_code 30 = .ok (.invokestatic 248, 3) := by decide +kernel
theorem pd_12 : parseMethodDescriptor "(II[B)I" = some ⟨[.int, .int, (.array .byte)], some .int⟩ := by decide +kernel
theorem d20_33 : decode jdk_68_method_32_code 33 = .ok (.pop, 1) := by decide +kernel
theorem d20_34 : decode jdk_68_method_32_code 34 = .ok (.goto 14, 3) := by decide +kernel
theorem d20_48 : decode jdk_68_method_32_code 48 = .ok (.aload_n 0, 1) := by decide +kernel
theorem d20_49 : decode jdk_68_method_32_code 49 = .ok (.iload_n 3, 1) := by decide +kernel
theorem d20_50 : decode jdk_68_method_32_code 50 = .ok (.putfield 79, 3) := by decide +kernel
theorem d20_53 : decode jdk_68_method_32_code 53 = .ok (.aload_n 0, 1) := by decide +kernel
theorem d20_54 : decode jdk_68_method_32_code 54 = .ok (.areturn, 1) := by decide +kernel
def Q2016r (Z : State) (a1 : Addr) (p2 : Int32) (a : Addr) (kd : ClassId) (bs : List Int32) (tl : List Value) (w_DigitOnes : Addr) (w_DigitTens : Addr) (zc : Int32) (fm : Value) (k_ones : ClassId) (k_tens : ClassId) (h0 : Heap) (n0 : Nat) (v : Option Value) (h : Heap) : Prop :=
  (v = some (.ref a1) ∧ Keep h0 h [a1, a] ∧ Fld Z h a1 "java/lang/AbstractStringBuilder" "value" "[B" (.ref a) ∧ Fld Z h a1 "java/lang/AbstractStringBuilder" "coder" "B" (.int (0 : Int32)) ∧ Fld Z h a1 "java/lang/AbstractStringBuilder" "count" "I" (.int (Int32.ofNat (bs ++ (dg p2.toNatClampNeg)).length)) ∧ Arv Z h a kd .byte (16 : Int32) (bl (bs ++ (dg p2.toNatClampNeg)) ++ (tl.drop (nd p2.toNatClampNeg))) (.int (0 : Int32)) ∧ (bs ++ (dg p2.toNatClampNeg)).length + (tl.drop (nd p2.toNatClampNeg)).length = 16)
theorem ef_2016r (m : MethodId) (a1 : Addr) (p2 : Int32) : entryFrame m #[(.ref a1), (.int p2)] 4 = mkF m 0 #[.val (.ref a1), .val (.int p2), .unset, .unset] [] := by first | (simp [entryFrame, mkF, argsToLocals, Value.category]; done) | rfl
set_option maxRecDepth 65536 in
set_option maxHeartbeats 40000000 in
theorem rm2016r (l : Launch) (Z : State) (a0 : Array Value) (hw : ∀ d ∈ tables_1, d.before a0 Z = true) (ws : List Jvm.Cond) (a1 : Addr) (p2 : Int32) (a : Addr) (kd : ClassId) (bs : List Int32) (tl : List Value) (w_DigitOnes : Addr) (w_DigitTens : Addr) (zc : Int32) (fm : Value) (k_ones : ClassId) (k_tens : ClassId) (h0 : Heap) (n0 : Nat) (O0 : Old Z n0 h0) (SF : Start Z w_DigitOnes w_DigitTens zc fm k_ones k_tens) (f0 : Exa Z h0 a1 "java/lang/StringBuilder") (f1 : Fld Z h0 a1 "java/lang/AbstractStringBuilder" "value" "[B" (.ref a)) (f2 : Fld Z h0 a1 "java/lang/AbstractStringBuilder" "coder" "B" (.int (0 : Int32))) (f3 : Fld Z h0 a1 "java/lang/AbstractStringBuilder" "count" "I" (.int (Int32.ofNat bs.length))) (f4 : Arv Z h0 a kd .byte (16 : Int32) (bl bs ++ tl) (.int (0 : Int32))) (f5 : Exa Z h0 a "[B") (f6 : n0 ≤ a1) (f7 : n0 ≤ a) (hcap : bs.length + tl.length = 16) (hpos : (0 : Int32) < p2) (hfit : bs.length + nd p2.toNatClampNeg ≤ 16) :
    Meets l (⟨"java/lang/AbstractStringBuilder", "append", "(I)Ljava/lang/AbstractStringBuilder;"⟩ : MethodName) jdk_68_method_32_code 4 (some (.object "java/lang/AbstractStringBuilder")) ws ({ frames := 1, cells := 0, slots := 0, locals := 18 } : Room) ({ frames := 1, cells := 0, slots := 0, locals := 18 } : Room).cells ({ frames := 1, cells := 0, slots := 0, locals := 18 } : Room).slots Z #[(.ref a1), (.int p2)] h0 n0 (Q2016r Z a1 p2 a kd bs tl w_DigitOnes w_DigitTens zc fm k_ones k_tens h0 n0) := by
  refine Meets.of (F := fun m => mkF m 0 #[.val (.ref a1), .val (.int p2), .unset, .unset] []) (plainFor_of_name pn_1) (fun m => ef_2016r m a1 p2) ?_
  intro p e s m below meth c T0 hx hby hml hown0 hnm hret hlk hZ X0 e0
  have hown : s.vm.findClass "java/lang/AbstractStringBuilder" = some m.cls := hown0
  have N0 := Fr.nil n0
  have KC0 := Keep.refl h0 [a1, a]
  obtain ⟨z0, z1, z2, z3, z4, z5, z6, hzc, z8, hfm, -⟩ := SF
  show Goes _ _ _ _ _ _ (T0.setTop (mkF m 0 #[.val (.ref a1), .val (.int p2), .unset, .unset] []))
  refine own_aloadN X0 hx (hb hby d20_0) rfl rfl ?_
  refine own_getF X0 hx hZ hown (host := "") (Or.inl (own_w hw 72 rfl)) Via.refl e0 f3 (hb hby d20_1) (fun T1 X1 e1 => ?_)
  refine own_istoreN X1 hx (Ls' := #[.val (.ref a1), .val (.int p2), .val (.int (Int32.ofNat bs.length)), .unset]) (hb hby d20_4) rfl ?_
  refine own_iloadN X1 hx (hb hby d20_5) rfl ?_
  refine own_iloadN X1 hx (hb hby d20_6) rfl ?_
  refine own_callS X1 hx hZ hown (y := (⟨"java/lang/Integer", "stringSize", "(I)I"⟩ : MethodName)) (own_w hw 114 rfl) (own_w hw 115 rfl) (own_w hw 116 rfl) (own_w hw 117 rfl) (by decide) (W := 1) (by decide) (by decide) N0 e1 (by rw [hml]; rfl) (argsL := [(.int p2)]) (rest := [(.int (Int32.ofNat bs.length))]) (lenOf pd_4 rfl) (Nat.le_of_eq rfl) (by decide) (by decide) (rm21 l Z a0 hw [] p2 h0 n0 O0 hpos) rfl (hb hby d20_7) ?_
  intro v2 T2 lc2 X2 N2 hQ2
  obtain ⟨rfl, e2⟩ := hQ2
  refine own_iadd X2 hx (hb hby d20_10) ?_
  refine own_istoreN X2 hx (Ls' := #[.val (.ref a1), .val (.int p2), .val (.int (Int32.ofNat bs.length)), .val (.int ((Int32.ofNat bs.length) + (Int32.ofNat (nd p2.toNatClampNeg))))]) (hb hby d20_11) rfl ?_
  refine own_aloadN X2 hx (hb hby d20_12) rfl rfl ?_
  refine own_iloadN X2 hx (hb hby d20_13) rfl ?_
  refine own_privateS X2 hx hZ hown (y := (⟨"java/lang/AbstractStringBuilder", "ensureCapacityInternal", "(I)V"⟩ : MethodName)) (own_w hw 74 rfl) (own_w hw 75 rfl) (own_w hw 77 rfl) (own_w hw 76 rfl) (own_w hw 44 rfl) (own_w hw 78 rfl) (a := a1) f0 (by decide) (W := 0) (by decide) (by decide) N2 e2 (by rw [hml]; rfl) (argsL := [(.int ((Int32.ofNat bs.length) + (Int32.ofNat (nd p2.toNatClampNeg))))]) (rest := []) (lenOf pd_1 rfl) (Nat.le_of_eq rfl) (by decide) (by decide) (rm1416r l Z a0 hw [] a1 ((Int32.ofNat bs.length) + (Int32.ofNat (nd p2.toNatClampNeg))) a kd (bl bs ++ tl) (bs.length + nd p2.toNatClampNeg) h0 n0 O0 f1 f2 f4 (own_add _ _) hfit) rfl (hb hby d20_14) ?_
  intro v3 T3 lc3 X3 N3 hQ3
  obtain ⟨rfl, e3⟩ := hQ3
  refine own_aloadN X3 hx (hb hby d20_17) rfl rfl ?_
  refine own_virtual X3 hx hZ hown (y := (⟨"java/lang/AbstractStringBuilder", "isLatin1", "()Z"⟩ : MethodName)) (z := (⟨"java/lang/AbstractStringBuilder", "isLatin1", "()Z"⟩ : MethodName)) (own_w hw 118 rfl) (own_w hw 119 rfl) (notFace_of_selects (args := #[]) (mvT hZ (own_w hw 121 rfl))) (own_w hw 121 rfl) (own_w hw 120 rfl) (own_w hw 44 rfl) (own_w hw 122 rfl) (a := a1) f0 (by decide) (W := 0) (by decide) (by decide) N3 e3 (by rw [hml]; rfl) (argsL := []) (rest := []) (lenOf pd_11 rfl) (Nat.le_of_eq rfl) (by decide) (by decide) (rm22 l Z a0 hw [] a1 w_DigitOnes w_DigitTens zc fm k_ones k_tens h0 n0 O0 ⟨z0, z1, z2, z3, z4, z5, z6, hzc, z8, hfm, trivial⟩ f2) rfl (hb hby d20_18) ?_
  intro v4 T4 lc4 X4 N4 hQ4
  obtain ⟨rfl, e4⟩ := hQ4
  refine own_ifNo X4 hx (hb hby d20_21) ((if0 _ _).trans (feq (by decide : ¬ ((1 : Int32) = (0 : Int32)))).1) ?_
  refine own_iloadN X4 hx (hb hby d20_24) rfl ?_
  refine own_iloadN X4 hx (hb hby d20_25) rfl ?_
  refine own_aloadN X4 hx (hb hby d20_26) rfl rfl ?_
  refine own_getF X4 hx hZ hown (host := "") (Or.inl (own_w hw 48 rfl)) Via.refl e4 f1 (hb hby d20_27) (fun T5 X5 e5 => ?_)
  refine own_callS X5 hx hZ hown (y := (⟨"java/lang/Integer", "getChars", "(II[B)I"⟩ : MethodName)) (own_w hw 123 rfl) (own_w hw 124 rfl) (own_w hw 116 rfl) (own_w hw 125 rfl) (by decide) (W := 0) (by decide) (by decide) N4 e5 (by rw [hml]; rfl) (argsL := [(.int p2), (.int ((Int32.ofNat bs.length) + (Int32.ofNat (nd p2.toNatClampNeg)))), (.ref a)]) (rest := []) (lenOf pd_12 rfl) (Nat.le_of_eq rfl) (by decide) (by decide) (rm2316 l Z a0 hw [] p2 ((Int32.ofNat bs.length) + (Int32.ofNat (nd p2.toNatClampNeg))) a kd bs tl w_DigitOnes w_DigitTens zc fm k_ones k_tens h0 n0 O0 ⟨z0, z1, z2, z3, z4, z5, z6, hzc, z8, hfm, trivial⟩ hpos (own_add _ _) f4 f7 hcap (by omega)) rfl (hb hby d20_30) ?_
  intro v6 T6 lc6 X6 N6 hQ6
  obtain ⟨w_6, rfl, K6, r6_0⟩ := hQ6
  have E7_a1 := f0.keep K6
  have E7_a := f5.keep K6
  have F7_value_a1 := f1.keep K6 (ninS (ne_exa f0 f5 (by decide)) nin0)
  have F7_coder_a1 := f2.keep K6 (ninS (ne_exa f0 f5 (by decide)) nin0)
  have F7_count_a1 := f3.keep K6 (ninS (ne_exa f0 f5 (by decide)) nin0)
  have O7 := O0.keep K6 (allS f7 all0)
  have KC7 := KC0.trans K6 (allS (Or.inl (List.mem_of_getElem? (i := 1) rfl)) all0)
  refine own_pop X6 hx (hb hby d20_33) rfl ?_
  refine own_goto X6 hx (pc' := 48) (hb hby d20_34) (by decide) (by decide) ?_
  refine own_aloadN X6 hx (hb hby d20_48) rfl rfl ?_
  refine own_iloadN X6 hx (hb hby d20_49) rfl ?_
  refine own_putF X6 hx hZ hown N6 (host := "") (Or.inl (own_w hw 72 rfl)) Via.refl rfl F7_count_a1 E7_a1 (Or.inl (own_w hw 73 rfl)) (own_w hw 35 rfl) (ty := .int) (by decide) rfl rfl f6 (hb hby d20_50) (fun T8 h8 lc8 X8 e8 N8 W8 => ?_)
  have F9_value_a1 := F7_value_a1.other W8 (Or.inr (slot_ne (Or.inl (own_w hw 49 rfl)) (Or.inl (own_w hw 73 rfl)) (by decide) (t := (.array .byte)) (t' := .int) (by decide) (by decide)))
  have F9_coder_a1 := F7_coder_a1.other W8 (Or.inr (slot_ne (Or.inl (own_w hw 51 rfl)) (Or.inl (own_w hw 73 rfl)) (by decide) (t := .byte) (t' := .int) (by decide) (by decide)))
  have F9_count_a1 := F7_count_a1.same W8
  have A9_a := r6_0.other W8 (ne_exa E7_a E7_a1 (by decide))
  have O9 := O7.wr W8 f6
  have KC9 := KC7.wr W8 (Or.inl (List.mem_of_getElem? (i := 0) rfl))
  refine own_aloadN X8 hx (hb hby d20_53) rfl rfl ?_
  show Goes _ _ _ _ _ _ (T8.setTop (mkF m 54 #[.val (.ref a1), .val (.int p2), .val (.int (Int32.ofNat bs.length)), .val (.int ((Int32.ofNat bs.length) + (Int32.ofNat (nd p2.toNatClampNeg))))] [(.ref a1)]))
  exact own_retR X8 hx N8 hlk (by decide) (by decide) hret rfl rfl rfl (hb hby d20_54) (by rw [e8]; exact ⟨rfl, KC9, F9_value_a1, F9_coder_a1, (by rw [← own_addD]; exact F9_count_a1), A9_a, (by simp only [List.length_append, List.length_drop, List.length_replicate, dg_len] <;> omega)⟩)
theorem d19_0 : decode jdk_67_method_15_code 0 = .ok (.aload_n 0, 1) := by decide +kernel
theorem d19_1 : decode jdk_67_method_15_code 1 = .ok (.iload_n 1, 1) := by decide +kernel
theorem d19_2 : decode jdk_67_method_15_code 2 = .ok (.invokespecial 53, 3) := by decide +kernel
theorem pd_13 : parseMethodDescriptor "(I)Ljava/lang/AbstractStringBuilder;" = some ⟨[.int], some (.object "java/lang/AbstractStringBuilder")⟩ := by decide +kernel
theorem d19_5 : decode jdk_67_method_15_code 5 = .ok (.pop, 1) := by decide +kernel
theorem d19_6 : decode jdk_67_method_15_code 6 = .ok (.aload_n 0, 1) := by decide +kernel
theorem d19_7 : decode jdk_67_method_15_code 7 = .ok (.areturn, 1) := by decide +kernel
def Q1916r (Z : State) (a1 : Addr) (p2 : Int32) (a : Addr) (kd : ClassId) (bs : List Int32) (tl : List Value) (w_DigitOnes : Addr) (w_DigitTens : Addr) (zc : Int32) (fm : Value) (k_ones : ClassId) (k_tens : ClassId) (h0 : Heap) (n0 : Nat) (v : Option Value) (h : Heap) : Prop :=
  (v = some (.ref a1) ∧ Keep h0 h [a1, a] ∧ Fld Z h a1 "java/lang/AbstractStringBuilder" "value" "[B" (.ref a) ∧ Fld Z h a1 "java/lang/AbstractStringBuilder" "coder" "B" (.int (0 : Int32)) ∧ Fld Z h a1 "java/lang/AbstractStringBuilder" "count" "I" (.int (Int32.ofNat (bs ++ (dg p2.toNatClampNeg)).length)) ∧ Arv Z h a kd .byte (16 : Int32) (bl (bs ++ (dg p2.toNatClampNeg)) ++ (tl.drop (nd p2.toNatClampNeg))) (.int (0 : Int32)) ∧ (bs ++ (dg p2.toNatClampNeg)).length + (tl.drop (nd p2.toNatClampNeg)).length = 16)
theorem ef_1916r (m : MethodId) (a1 : Addr) (p2 : Int32) : entryFrame m #[(.ref a1), (.int p2)] 2 = mkF m 0 #[.val (.ref a1), .val (.int p2)] [] := by first | (simp [entryFrame, mkF, argsToLocals, Value.category]; done) | rfl
set_option maxRecDepth 65536 in
set_option maxHeartbeats 40000000 in
theorem rm1916r (l : Launch) (Z : State) (a0 : Array Value) (hw : ∀ d ∈ tables_1, d.before a0 Z = true) (ws : List Jvm.Cond) (a1 : Addr) (p2 : Int32) (a : Addr) (kd : ClassId) (bs : List Int32) (tl : List Value) (w_DigitOnes : Addr) (w_DigitTens : Addr) (zc : Int32) (fm : Value) (k_ones : ClassId) (k_tens : ClassId) (h0 : Heap) (n0 : Nat) (O0 : Old Z n0 h0) (SF : Start Z w_DigitOnes w_DigitTens zc fm k_ones k_tens) (f0 : Exa Z h0 a1 "java/lang/StringBuilder") (f1 : Fld Z h0 a1 "java/lang/AbstractStringBuilder" "value" "[B" (.ref a)) (f2 : Fld Z h0 a1 "java/lang/AbstractStringBuilder" "coder" "B" (.int (0 : Int32))) (f3 : Fld Z h0 a1 "java/lang/AbstractStringBuilder" "count" "I" (.int (Int32.ofNat bs.length))) (f4 : Arv Z h0 a kd .byte (16 : Int32) (bl bs ++ tl) (.int (0 : Int32))) (f5 : Exa Z h0 a "[B") (f6 : n0 ≤ a1) (f7 : n0 ≤ a) (hcap : bs.length + tl.length = 16) (hpos : (0 : Int32) < p2) (hfit : bs.length + nd p2.toNatClampNeg ≤ 16) :
    Meets l (⟨"java/lang/StringBuilder", "append", "(I)Ljava/lang/StringBuilder;"⟩ : MethodName) jdk_67_method_15_code 2 (some (.object "java/lang/StringBuilder")) ws ({ frames := 2, cells := 0, slots := 0, locals := 33 } : Room) ({ frames := 2, cells := 0, slots := 0, locals := 33 } : Room).cells ({ frames := 2, cells := 0, slots := 0, locals := 33 } : Room).slots Z #[(.ref a1), (.int p2)] h0 n0 (Q1916r Z a1 p2 a kd bs tl w_DigitOnes w_DigitTens zc fm k_ones k_tens h0 n0) := by
  refine Meets.of (F := fun m => mkF m 0 #[.val (.ref a1), .val (.int p2)] []) (plainFor_of_name pn_2) (fun m => ef_1916r m a1 p2) ?_
  intro p e s m below meth c T0 hx hby hml hown0 hnm hret hlk hZ X0 e0
  have hown : s.vm.findClass "java/lang/StringBuilder" = some m.cls := hown0
  have N0 := Fr.nil n0
  have KC0 := Keep.refl h0 [a1, a]
  obtain ⟨z0, z1, z2, z3, z4, z5, z6, hzc, z8, hfm, -⟩ := SF
  show Goes _ _ _ _ _ _ (T0.setTop (mkF m 0 #[.val (.ref a1), .val (.int p2)] []))
  refine own_aloadN X0 hx (hb hby d19_0) rfl rfl ?_
  refine own_iloadN X0 hx (hb hby d19_1) rfl ?_
  refine own_specialUp X0 hx hZ hown (y := (⟨"java/lang/AbstractStringBuilder", "append", "(I)Ljava/lang/AbstractStringBuilder;"⟩ : MethodName)) (own_w hw 110 rfl) (own_w hw 111 rfl) (own_w hw 59 rfl) (own_w hw 77 rfl) rfl (own_w hw 44 rfl) (own_w hw 113 rfl) (a := a1) f0 (by decide) (by decide) (W := 0) (by decide) (by decide) N0 e0 (by rw [hml]; rfl) (argsL := [(.int p2)]) (rest := []) (lenOf pd_13 rfl) (Nat.le_of_eq rfl) (by decide) (by decide) (rm2016r l Z a0 hw [] a1 p2 a kd bs tl w_DigitOnes w_DigitTens zc fm k_ones k_tens h0 n0 O0 ⟨z0, z1, z2, z3, z4, z5, z6, hzc, z8, hfm, trivial⟩ f0 f1 f2 f3 f4 f5 f6 f7 hcap hpos hfit) rfl (hb hby d19_2) ?_
  intro v1 T1 lc1 X1 N1 hQ1
  obtain ⟨rfl, K1, r1_0, r1_1, r1_2, r1_3, r1_4⟩ := hQ1
  have O2 := O0.keep K1 (allS f6 (allS f7 all0))
  have KC2 := KC0.trans K1 (allS (Or.inl (List.mem_of_getElem? (i := 0) rfl)) (allS (Or.inl (List.mem_of_getElem? (i := 1) rfl)) all0))
  refine own_pop X1 hx (hb hby d19_5) rfl ?_
  refine own_aloadN X1 hx (hb hby d19_6) rfl rfl ?_
  show Goes _ _ _ _ _ _ (T1.setTop (mkF m 7 #[.val (.ref a1), .val (.int p2)] [(.ref a1)]))
  exact own_retR X1 hx N1 hlk (by decide) (by decide) hret rfl rfl rfl (hb hby d19_7) (⟨rfl, KC2, r1_0, r1_1, r1_2, r1_3, r1_4⟩)
def Q2034r (Z : State) (a1 : Addr) (p2 : Int32) (a : Addr) (kd : ClassId) (bs : List Int32) (tl : List Value) (w_DigitOnes : Addr) (w_DigitTens : Addr) (zc : Int32) (fm : Value) (k_ones : ClassId) (k_tens : ClassId) (h0 : Heap) (n0 : Nat) (v : Option Value) (h : Heap) : Prop :=
  (v = some (.ref a1) ∧ Keep h0 h [a1, a] ∧ Fld Z h a1 "java/lang/AbstractStringBuilder" "value" "[B" (.ref a) ∧ Fld Z h a1 "java/lang/AbstractStringBuilder" "coder" "B" (.int (0 : Int32)) ∧ Fld Z h a1 "java/lang/AbstractStringBuilder" "count" "I" (.int (Int32.ofNat (bs ++ (dg p2.toNatClampNeg)).length)) ∧ Arv Z h a kd .byte (34 : Int32) (bl (bs ++ (dg p2.toNatClampNeg)) ++ (tl.drop (nd p2.toNatClampNeg))) (.int (0 : Int32)) ∧ (bs ++ (dg p2.toNatClampNeg)).length + (tl.drop (nd p2.toNatClampNeg)).length = 34)
theorem ef_2034r (m : MethodId) (a1 : Addr) (p2 : Int32) : entryFrame m #[(.ref a1), (.int p2)] 4 = mkF m 0 #[.val (.ref a1), .val (.int p2), .unset, .unset] [] := by first | (simp [entryFrame, mkF, argsToLocals, Value.category]; done) | rfl
set_option maxRecDepth 65536 in
set_option maxHeartbeats 40000000 in
theorem rm2034r (l : Launch) (Z : State) (a0 : Array Value) (hw : ∀ d ∈ tables_1, d.before a0 Z = true) (ws : List Jvm.Cond) (a1 : Addr) (p2 : Int32) (a : Addr) (kd : ClassId) (bs : List Int32) (tl : List Value) (w_DigitOnes : Addr) (w_DigitTens : Addr) (zc : Int32) (fm : Value) (k_ones : ClassId) (k_tens : ClassId) (h0 : Heap) (n0 : Nat) (O0 : Old Z n0 h0) (SF : Start Z w_DigitOnes w_DigitTens zc fm k_ones k_tens) (f0 : Exa Z h0 a1 "java/lang/StringBuilder") (f1 : Fld Z h0 a1 "java/lang/AbstractStringBuilder" "value" "[B" (.ref a)) (f2 : Fld Z h0 a1 "java/lang/AbstractStringBuilder" "coder" "B" (.int (0 : Int32))) (f3 : Fld Z h0 a1 "java/lang/AbstractStringBuilder" "count" "I" (.int (Int32.ofNat bs.length))) (f4 : Arv Z h0 a kd .byte (34 : Int32) (bl bs ++ tl) (.int (0 : Int32))) (f5 : n0 ≤ a1) (f6 : n0 ≤ a) (hcap : bs.length + tl.length = 34) (hpos : (0 : Int32) < p2) (hfit : bs.length + nd p2.toNatClampNeg ≤ 34) :
    Meets l (⟨"java/lang/AbstractStringBuilder", "append", "(I)Ljava/lang/AbstractStringBuilder;"⟩ : MethodName) jdk_68_method_32_code 4 (some (.object "java/lang/AbstractStringBuilder")) ws ({ frames := 1, cells := 0, slots := 0, locals := 18 } : Room) ({ frames := 1, cells := 0, slots := 0, locals := 18 } : Room).cells ({ frames := 1, cells := 0, slots := 0, locals := 18 } : Room).slots Z #[(.ref a1), (.int p2)] h0 n0 (Q2034r Z a1 p2 a kd bs tl w_DigitOnes w_DigitTens zc fm k_ones k_tens h0 n0) := by
  refine Meets.of (F := fun m => mkF m 0 #[.val (.ref a1), .val (.int p2), .unset, .unset] []) (plainFor_of_name pn_1) (fun m => ef_2034r m a1 p2) ?_
  intro p e s m below meth c T0 hx hby hml hown0 hnm hret hlk hZ X0 e0
  have hown : s.vm.findClass "java/lang/AbstractStringBuilder" = some m.cls := hown0
  have N0 := Fr.nil n0
  have KC0 := Keep.refl h0 [a1, a]
  obtain ⟨z0, z1, z2, z3, z4, z5, z6, hzc, z8, hfm, -⟩ := SF
  show Goes _ _ _ _ _ _ (T0.setTop (mkF m 0 #[.val (.ref a1), .val (.int p2), .unset, .unset] []))
  refine own_aloadN X0 hx (hb hby d20_0) rfl rfl ?_
  refine own_getF X0 hx hZ hown (host := "") (Or.inl (own_w hw 72 rfl)) Via.refl e0 f3 (hb hby d20_1) (fun T1 X1 e1 => ?_)
  refine own_istoreN X1 hx (Ls' := #[.val (.ref a1), .val (.int p2), .val (.int (Int32.ofNat bs.length)), .unset]) (hb hby d20_4) rfl ?_
  refine own_iloadN X1 hx (hb hby d20_5) rfl ?_
  refine own_iloadN X1 hx (hb hby d20_6) rfl ?_
  refine own_callS X1 hx hZ hown (y := (⟨"java/lang/Integer", "stringSize", "(I)I"⟩ : MethodName)) (own_w hw 114 rfl) (own_w hw 115 rfl) (own_w hw 116 rfl) (own_w hw 117 rfl) (by decide) (W := 1) (by decide) (by decide) N0 e1 (by rw [hml]; rfl) (argsL := [(.int p2)]) (rest := [(.int (Int32.ofNat bs.length))]) (lenOf pd_4 rfl) (Nat.le_of_eq rfl) (by decide) (by decide) (rm21 l Z a0 hw [] p2 h0 n0 O0 hpos) rfl (hb hby d20_7) ?_
  intro v2 T2 lc2 X2 N2 hQ2
  obtain ⟨rfl, e2⟩ := hQ2
  refine own_iadd X2 hx (hb hby d20_10) ?_
  refine own_istoreN X2 hx (Ls' := #[.val (.ref a1), .val (.int p2), .val (.int (Int32.ofNat bs.length)), .val (.int ((Int32.ofNat bs.length) + (Int32.ofNat (nd p2.toNatClampNeg))))]) (hb hby d20_11) rfl ?_
  refine own_aloadN X2 hx (hb hby d20_12) rfl rfl ?_
  refine own_iloadN X2 hx (hb hby d20_13) rfl ?_
  refine own_privateS X2 hx hZ hown (y := (⟨"java/lang/AbstractStringBuilder", "ensureCapacityInternal", "(I)V"⟩ : MethodName)) (own_w hw 74 rfl) (own_w hw 75 rfl) (own_w hw 77 rfl) (own_w hw 76 rfl) (own_w hw 44 rfl) (own_w hw 78 rfl) (a := a1) f0 (by decide) (W := 0) (by decide) (by decide) N2 e2 (by rw [hml]; rfl) (argsL := [(.int ((Int32.ofNat bs.length) + (Int32.ofNat (nd p2.toNatClampNeg))))]) (rest := []) (lenOf pd_1 rfl) (Nat.le_of_eq rfl) (by decide) (by decide) (rm1434r l Z a0 hw [] a1 ((Int32.ofNat bs.length) + (Int32.ofNat (nd p2.toNatClampNeg))) a kd (bl bs ++ tl) (bs.length + nd p2.toNatClampNeg) h0 n0 O0 f1 f2 f4 (own_add _ _) hfit) rfl (hb hby d20_14) ?_
  intro v3 T3 lc3 X3 N3 hQ3
  obtain ⟨rfl, e3⟩ := hQ3
  refine own_aloadN X3 hx (hb hby d20_17) rfl rfl ?_
  refine own_virtual X3 hx hZ hown (y := (⟨"java/lang/AbstractStringBuilder", "isLatin1", "()Z"⟩ : MethodName)) (z := (⟨"java/lang/AbstractStringBuilder", "isLatin1", "()Z"⟩ : MethodName)) (own_w hw 118 rfl) (own_w hw 119 rfl) (notFace_of_selects (args := #[]) (mvT hZ (own_w hw 121 rfl))) (own_w hw 121 rfl) (own_w hw 120 rfl) (own_w hw 44 rfl) (own_w hw 122 rfl) (a := a1) f0 (by decide) (W := 0) (by decide) (by decide) N3 e3 (by rw [hml]; rfl) (argsL := []) (rest := []) (lenOf pd_11 rfl) (Nat.le_of_eq rfl) (by decide) (by decide) (rm22 l Z a0 hw [] a1 w_DigitOnes w_DigitTens zc fm k_ones k_tens h0 n0 O0 ⟨z0, z1, z2, z3, z4, z5, z6, hzc, z8, hfm, trivial⟩ f2) rfl (hb hby d20_18) ?_
  intro v4 T4 lc4 X4 N4 hQ4
  obtain ⟨rfl, e4⟩ := hQ4
  refine own_ifNo X4 hx (hb hby d20_21) ((if0 _ _).trans (feq (by decide : ¬ ((1 : Int32) = (0 : Int32)))).1) ?_
  refine own_iloadN X4 hx (hb hby d20_24) rfl ?_
  refine own_iloadN X4 hx (hb hby d20_25) rfl ?_
  refine own_aloadN X4 hx (hb hby d20_26) rfl rfl ?_
  refine own_getF X4 hx hZ hown (host := "") (Or.inl (own_w hw 48 rfl)) Via.refl e4 f1 (hb hby d20_27) (fun T5 X5 e5 => ?_)
  refine own_callS X5 hx hZ hown (y := (⟨"java/lang/Integer", "getChars", "(II[B)I"⟩ : MethodName)) (own_w hw 123 rfl) (own_w hw 124 rfl) (own_w hw 116 rfl) (own_w hw 125 rfl) (by decide) (W := 0) (by decide) (by decide) N4 e5 (by rw [hml]; rfl) (argsL := [(.int p2), (.int ((Int32.ofNat bs.length) + (Int32.ofNat (nd p2.toNatClampNeg)))), (.ref a)]) (rest := []) (lenOf pd_12 rfl) (Nat.le_of_eq rfl) (by decide) (by decide) (rm2334 l Z a0 hw [] p2 ((Int32.ofNat bs.length) + (Int32.ofNat (nd p2.toNatClampNeg))) a kd bs tl w_DigitOnes w_DigitTens zc fm k_ones k_tens h0 n0 O0 ⟨z0, z1, z2, z3, z4, z5, z6, hzc, z8, hfm, trivial⟩ hpos (own_add _ _) f4 f6 hcap (by omega)) rfl (hb hby d20_30) ?_
  intro v6 T6 lc6 X6 N6 hQ6
  obtain ⟨w_6, rfl, K6, r6_0⟩ := hQ6
  have E7_a1 := f0.keep K6
  have F7_value_a1 := f1.keep K6 (ninS (Exa.neArv f0 f4 (own_w hw 35 rfl)) nin0)
  have F7_coder_a1 := f2.keep K6 (ninS (Exa.neArv f0 f4 (own_w hw 35 rfl)) nin0)
  have F7_count_a1 := f3.keep K6 (ninS (Exa.neArv f0 f4 (own_w hw 35 rfl)) nin0)
  have O7 := O0.keep K6 (allS f6 all0)
  have KC7 := KC0.trans K6 (allS (Or.inl (List.mem_of_getElem? (i := 1) rfl)) all0)
  refine own_pop X6 hx (hb hby d20_33) rfl ?_
  refine own_goto X6 hx (pc' := 48) (hb hby d20_34) (by decide) (by decide) ?_
  refine own_aloadN X6 hx (hb hby d20_48) rfl rfl ?_
  refine own_iloadN X6 hx (hb hby d20_49) rfl ?_
  refine own_putF X6 hx hZ hown N6 (host := "") (Or.inl (own_w hw 72 rfl)) Via.refl rfl F7_count_a1 E7_a1 (Or.inl (own_w hw 73 rfl)) (own_w hw 35 rfl) (ty := .int) (by decide) rfl rfl f5 (hb hby d20_50) (fun T8 h8 lc8 X8 e8 N8 W8 => ?_)
  have F9_value_a1 := F7_value_a1.other W8 (Or.inr (slot_ne (Or.inl (own_w hw 49 rfl)) (Or.inl (own_w hw 73 rfl)) (by decide) (t := (.array .byte)) (t' := .int) (by decide) (by decide)))
  have F9_coder_a1 := F7_coder_a1.other W8 (Or.inr (slot_ne (Or.inl (own_w hw 51 rfl)) (Or.inl (own_w hw 73 rfl)) (by decide) (t := .byte) (t' := .int) (by decide) (by decide)))
  have F9_count_a1 := F7_count_a1.same W8
  have A9_a := r6_0.other W8 (Ne.symm (Exa.neArv E7_a1 r6_0 (own_w hw 35 rfl)))
  have O9 := O7.wr W8 f5
  have KC9 := KC7.wr W8 (Or.inl (List.mem_of_getElem? (i := 0) rfl))
  refine own_aloadN X8 hx (hb hby d20_53) rfl rfl ?_
  show Goes _ _ _ _ _ _ (T8.setTop (mkF m 54 #[.val (.ref a1), .val (.int p2), .val (.int (Int32.ofNat bs.length)), .val (.int ((Int32.ofNat bs.length) + (Int32.ofNat (nd p2.toNatClampNeg))))] [(.ref a1)]))
  exact own_retR X8 hx N8 hlk (by decide) (by decide) hret rfl rfl rfl (hb hby d20_54) (by rw [e8]; exact ⟨rfl, KC9, F9_value_a1, F9_coder_a1, (by rw [← own_addD]; exact F9_count_a1), A9_a, (by simp only [List.length_append, List.length_drop, List.length_replicate, dg_len] <;> omega)⟩)
def Q1934r (Z : State) (a1 : Addr) (p2 : Int32) (a : Addr) (kd : ClassId) (bs : List Int32) (tl : List Value) (w_DigitOnes : Addr) (w_DigitTens : Addr) (zc : Int32) (fm : Value) (k_ones : ClassId) (k_tens : ClassId) (h0 : Heap) (n0 : Nat) (v : Option Value) (h : Heap) : Prop :=
  (v = some (.ref a1) ∧ Keep h0 h [a1, a] ∧ Fld Z h a1 "java/lang/AbstractStringBuilder" "value" "[B" (.ref a) ∧ Fld Z h a1 "java/lang/AbstractStringBuilder" "coder" "B" (.int (0 : Int32)) ∧ Fld Z h a1 "java/lang/AbstractStringBuilder" "count" "I" (.int (Int32.ofNat (bs ++ (dg p2.toNatClampNeg)).length)) ∧ Arv Z h a kd .byte (34 : Int32) (bl (bs ++ (dg p2.toNatClampNeg)) ++ (tl.drop (nd p2.toNatClampNeg))) (.int (0 : Int32)) ∧ (bs ++ (dg p2.toNatClampNeg)).length + (tl.drop (nd p2.toNatClampNeg)).length = 34)
theorem ef_1934r (m : MethodId) (a1 : Addr) (p2 : Int32) : entryFrame m #[(.ref a1), (.int p2)] 2 = mkF m 0 #[.val (.ref a1), .val (.int p2)] [] := by first | (simp [entryFrame, mkF, argsToLocals, Value.category]; done) | rfl
set_option maxRecDepth 65536 in
set_option maxHeartbeats 40000000 in
theorem rm1934r (l : Launch) (Z : State) (a0 : Array Value) (hw : ∀ d ∈ tables_1, d.before a0 Z = true) (ws : List Jvm.Cond) (a1 : Addr) (p2 : Int32) (a : Addr) (kd : ClassId) (bs : List Int32) (tl : List Value) (w_DigitOnes : Addr) (w_DigitTens : Addr) (zc : Int32) (fm : Value) (k_ones : ClassId) (k_tens : ClassId) (h0 : Heap) (n0 : Nat) (O0 : Old Z n0 h0) (SF : Start Z w_DigitOnes w_DigitTens zc fm k_ones k_tens) (f0 : Exa Z h0 a1 "java/lang/StringBuilder") (f1 : Fld Z h0 a1 "java/lang/AbstractStringBuilder" "value" "[B" (.ref a)) (f2 : Fld Z h0 a1 "java/lang/AbstractStringBuilder" "coder" "B" (.int (0 : Int32))) (f3 : Fld Z h0 a1 "java/lang/AbstractStringBuilder" "count" "I" (.int (Int32.ofNat bs.length))) (f4 : Arv Z h0 a kd .byte (34 : Int32) (bl bs ++ tl) (.int (0 : Int32))) (f5 : n0 ≤ a1) (f6 : n0 ≤ a) (hcap : bs.length + tl.length = 34) (hpos : (0 : Int32) < p2) (hfit : bs.length + nd p2.toNatClampNeg ≤ 34) :
    Meets l (⟨"java/lang/StringBuilder", "append", "(I)Ljava/lang/StringBuilder;"⟩ : MethodName) jdk_67_method_15_code 2 (some (.object "java/lang/StringBuilder")) ws ({ frames := 2, cells := 0, slots := 0, locals := 33 } : Room) ({ frames := 2, cells := 0, slots := 0, locals := 33 } : Room).cells ({ frames := 2, cells := 0, slots := 0, locals := 33 } : Room).slots Z #[(.ref a1), (.int p2)] h0 n0 (Q1934r Z a1 p2 a kd bs tl w_DigitOnes w_DigitTens zc fm k_ones k_tens h0 n0) := by
  refine Meets.of (F := fun m => mkF m 0 #[.val (.ref a1), .val (.int p2)] []) (plainFor_of_name pn_2) (fun m => ef_1934r m a1 p2) ?_
  intro p e s m below meth c T0 hx hby hml hown0 hnm hret hlk hZ X0 e0
  have hown : s.vm.findClass "java/lang/StringBuilder" = some m.cls := hown0
  have N0 := Fr.nil n0
  have KC0 := Keep.refl h0 [a1, a]
  obtain ⟨z0, z1, z2, z3, z4, z5, z6, hzc, z8, hfm, -⟩ := SF
  show Goes _ _ _ _ _ _ (T0.setTop (mkF m 0 #[.val (.ref a1), .val (.int p2)] []))
  refine own_aloadN X0 hx (hb hby d19_0) rfl rfl ?_
  refine own_iloadN X0 hx (hb hby d19_1) rfl ?_
  refine own_specialUp X0 hx hZ hown (y := (⟨"java/lang/AbstractStringBuilder", "append", "(I)Ljava/lang/AbstractStringBuilder;"⟩ : MethodName)) (own_w hw 110 rfl) (own_w hw 111 rfl) (own_w hw 59 rfl) (own_w hw 77 rfl) rfl (own_w hw 44 rfl) (own_w hw 113 rfl) (a := a1) f0 (by decide) (by decide) (W := 0) (by decide) (by decide) N0 e0 (by rw [hml]; rfl) (argsL := [(.int p2)]) (rest := []) (lenOf pd_13 rfl) (Nat.le_of_eq rfl) (by decide) (by decide) (rm2034r l Z a0 hw [] a1 p2 a kd bs tl w_DigitOnes w_DigitTens zc fm k_ones k_tens h0 n0 O0 ⟨z0, z1, z2, z3, z4, z5, z6, hzc, z8, hfm, trivial⟩ f0 f1 f2 f3 f4 f5 f6 hcap hpos hfit) rfl (hb hby d19_2) ?_
  intro v1 T1 lc1 X1 N1 hQ1
  obtain ⟨rfl, K1, r1_0, r1_1, r1_2, r1_3, r1_4⟩ := hQ1
  have O2 := O0.keep K1 (allS f5 (allS f6 all0))
  have KC2 := KC0.trans K1 (allS (Or.inl (List.mem_of_getElem? (i := 0) rfl)) (allS (Or.inl (List.mem_of_getElem? (i := 1) rfl)) all0))
  refine own_pop X1 hx (hb hby d19_5) rfl ?_
  refine own_aloadN X1 hx (hb hby d19_6) rfl rfl ?_
  show Goes _ _ _ _ _ _ (T1.setTop (mkF m 7 #[.val (.ref a1), .val (.int p2)] [(.ref a1)]))
  exact own_retR X1 hx N1 hlk (by decide) (by decide) hret rfl rfl rfl (hb hby d19_7) (⟨rfl, KC2, r1_0, r1_1, r1_2, r1_3, r1_4⟩)
def Q2016g (Z : State) (a1 : Addr) (p2 : Int32) (a : Addr) (kd : ClassId) (bs : List Int32) (tl : List Value) (w_DigitOnes : Addr) (w_DigitTens : Addr) (zc : Int32) (fm : Value) (k_ones : ClassId) (k_tens : ClassId) (h0 : Heap) (n0 : Nat) (v : Option Value) (h : Heap) : Prop :=
  (∃ (an : Addr) (kn : ClassId), v = some (.ref a1) ∧ Keep h0 h [a1] ∧ Fld Z h a1 "java/lang/AbstractStringBuilder" "value" "[B" (.ref an) ∧ Fld Z h a1 "java/lang/AbstractStringBuilder" "coder" "B" (.int (0 : Int32)) ∧ Fld Z h a1 "java/lang/AbstractStringBuilder" "count" "I" (.int (Int32.ofNat (bs ++ (dg p2.toNatClampNeg)).length)) ∧ h0.size ≤ an ∧ Arv Z h an kn .byte (34 : Int32) (bl (bs ++ (dg p2.toNatClampNeg)) ++ ((tl ++ (List.replicate 18 (Value.int (0 : Int32)))).drop (nd p2.toNatClampNeg))) (.int (0 : Int32)) ∧ (bs ++ (dg p2.toNatClampNeg)).length + ((tl ++ (List.replicate 18 (Value.int (0 : Int32)))).drop (nd p2.toNatClampNeg)).length = 34)
theorem ef_2016g (m : MethodId) (a1 : Addr) (p2 : Int32) : entryFrame m #[(.ref a1), (.int p2)] 4 = mkF m 0 #[.val (.ref a1), .val (.int p2), .unset, .unset] [] := by first | (simp [entryFrame, mkF, argsToLocals, Value.category]; done) | rfl
set_option maxRecDepth 65536 in
set_option maxHeartbeats 40000000 in
theorem rm2016g (l : Launch) (Z : State) (a0 : Array Value) (hw : ∀ d ∈ tables_1, d.before a0 Z = true) (ws : List Jvm.Cond) (a1 : Addr) (p2 : Int32) (a : Addr) (kd : ClassId) (bs : List Int32) (tl : List Value) (w_DigitOnes : Addr) (w_DigitTens : Addr) (zc : Int32) (fm : Value) (k_ones : ClassId) (k_tens : ClassId) (h0 : Heap) (n0 : Nat) (O0 : Old Z n0 h0) (SF : Start Z w_DigitOnes w_DigitTens zc fm k_ones k_tens) (f0 : Exa Z h0 a1 "java/lang/StringBuilder") (f1 : Fld Z h0 a1 "java/lang/AbstractStringBuilder" "value" "[B" (.ref a)) (f2 : Fld Z h0 a1 "java/lang/AbstractStringBuilder" "coder" "B" (.int (0 : Int32))) (f3 : Fld Z h0 a1 "java/lang/AbstractStringBuilder" "count" "I" (.int (Int32.ofNat bs.length))) (f4 : Arv Z h0 a kd .byte (16 : Int32) (bl bs ++ tl) (.int (0 : Int32))) (f5 : Exa Z h0 a "[B") (f6 : n0 ≤ a1) (f7 : n0 ≤ a) (hcap : bs.length + tl.length = 16) (hpos : (0 : Int32) < p2) (hgt : 16 < bs.length + nd p2.toNatClampNeg) (hle : bs.length + nd p2.toNatClampNeg ≤ 34) :
    Meets l (⟨"java/lang/AbstractStringBuilder", "append", "(I)Ljava/lang/AbstractStringBuilder;"⟩ : MethodName) jdk_68_method_32_code 4 (some (.object "java/lang/AbstractStringBuilder")) ws ({ frames := 4, cells := 1, slots := 34, locals := 62 } : Room) ({ frames := 4, cells := 1, slots := 34, locals := 62 } : Room).cells ({ frames := 4, cells := 1, slots := 34, locals := 62 } : Room).slots Z #[(.ref a1), (.int p2)] h0 n0 (Q2016g Z a1 p2 a kd bs tl w_DigitOnes w_DigitTens zc fm k_ones k_tens h0 n0) := by
  refine Meets.of (F := fun m => mkF m 0 #[.val (.ref a1), .val (.int p2), .unset, .unset] []) (plainFor_of_name pn_1) (fun m => ef_2016g m a1 p2) ?_
  intro p e s m below meth c T0 hx hby hml hown0 hnm hret hlk hZ X0 e0
  have hown : s.vm.findClass "java/lang/AbstractStringBuilder" = some m.cls := hown0
  have N0 := Fr.nil n0
  have KC0 := Keep.refl h0 [a1]
  obtain ⟨z0, z1, z2, z3, z4, z5, z6, hzc, z8, hfm, -⟩ := SF
  show Goes _ _ _ _ _ _ (T0.setTop (mkF m 0 #[.val (.ref a1), .val (.int p2), .unset, .unset] []))
  refine own_aloadN X0 hx (hb hby d20_0) rfl rfl ?_
  refine own_getF X0 hx hZ hown (host := "") (Or.inl (own_w hw 72 rfl)) Via.refl e0 f3 (hb hby d20_1) (fun T1 X1 e1 => ?_)
  refine own_istoreN X1 hx (Ls' := #[.val (.ref a1), .val (.int p2), .val (.int (Int32.ofNat bs.length)), .unset]) (hb hby d20_4) rfl ?_
  refine own_iloadN X1 hx (hb hby d20_5) rfl ?_
  refine own_iloadN X1 hx (hb hby d20_6) rfl ?_
  refine own_callS X1 hx hZ hown (y := (⟨"java/lang/Integer", "stringSize", "(I)I"⟩ : MethodName)) (own_w hw 114 rfl) (own_w hw 115 rfl) (own_w hw 116 rfl) (own_w hw 117 rfl) (by decide) (W := 1) (by decide) (by decide) N0 e1 (by rw [hml]; rfl) (argsL := [(.int p2)]) (rest := [(.int (Int32.ofNat bs.length))]) (lenOf pd_4 rfl) (Nat.le_of_eq rfl) (by decide) (by decide) (rm21 l Z a0 hw [] p2 h0 n0 O0 hpos) rfl (hb hby d20_7) ?_
  intro v2 T2 lc2 X2 N2 hQ2
  obtain ⟨rfl, e2⟩ := hQ2
  refine own_iadd X2 hx (hb hby d20_10) ?_
  refine own_istoreN X2 hx (Ls' := #[.val (.ref a1), .val (.int p2), .val (.int (Int32.ofNat bs.length)), .val (.int ((Int32.ofNat bs.length) + (Int32.ofNat (nd p2.toNatClampNeg))))]) (hb hby d20_11) rfl ?_
  refine own_aloadN X2 hx (hb hby d20_12) rfl rfl ?_
  refine own_iloadN X2 hx (hb hby d20_13) rfl ?_
  refine own_privateS X2 hx hZ hown (y := (⟨"java/lang/AbstractStringBuilder", "ensureCapacityInternal", "(I)V"⟩ : MethodName)) (own_w hw 74 rfl) (own_w hw 75 rfl) (own_w hw 77 rfl) (own_w hw 76 rfl) (own_w hw 44 rfl) (own_w hw 78 rfl) (a := a1) f0 (by decide) (W := 0) (by decide) (by decide) N2 e2 (by rw [hml]; rfl) (argsL := [(.int ((Int32.ofNat bs.length) + (Int32.ofNat (nd p2.toNatClampNeg))))]) (rest := []) (lenOf pd_1 rfl) (Nat.le_of_eq rfl) (by decide) (by decide) (rm1416g l Z a0 hw [] a1 ((Int32.ofNat bs.length) + (Int32.ofNat (nd p2.toNatClampNeg))) a kd bs tl (bs.length + nd p2.toNatClampNeg) (Int32.ofNat bs.length) h0 n0 O0 f0 f1 f2 f3 f4 f6 hcap (own_add _ _) hgt hle) rfl (hb hby d20_14) ?_
  intro v3 T3 lc3 X3 N3 hQ3
  obtain ⟨an_3, kn_3, rfl, K3, r3_0, r3_1, r3_2, r3_3, r3_4⟩ := hQ3
  have E4_a1 := f0.keep K3
  have O4 := O0.keep K3 (allS f6 all0)
  have KC4 := KC0.trans K3 (allS (Or.inl (List.mem_of_getElem? (i := 0) rfl)) all0)
  have ne_a1_an_3 : a1 ≠ an_3 := Nat.ne_of_lt (Nat.lt_of_lt_of_le f0.lt r3_3)
  have ge_an_3 : n0 ≤ an_3 := Nat.le_trans (own_sz O0) r3_3
  have sz_an_3 : h0.size ≤ an_3 := Nat.le_trans KC0.1 r3_3
  refine own_aloadN X3 hx (hb hby d20_17) rfl rfl ?_
  refine own_virtual X3 hx hZ hown (y := (⟨"java/lang/AbstractStringBuilder", "isLatin1", "()Z"⟩ : MethodName)) (z := (⟨"java/lang/AbstractStringBuilder", "isLatin1", "()Z"⟩ : MethodName)) (own_w hw 118 rfl) (own_w hw 119 rfl) (notFace_of_selects (args := #[]) (mvT hZ (own_w hw 121 rfl))) (own_w hw 121 rfl) (own_w hw 120 rfl) (own_w hw 44 rfl) (own_w hw 122 rfl) (a := a1) E4_a1 (by decide) (W := 0) (by decide) (by decide) N3 rfl (by rw [hml]; rfl) (argsL := []) (rest := []) (lenOf pd_11 rfl) (Nat.le_of_eq rfl) (by decide) (by decide) (rm22 l Z a0 hw [] a1 w_DigitOnes w_DigitTens zc fm k_ones k_tens T3.heap n0 O4 ⟨z0, z1, z2, z3, z4, z5, z6, hzc, z8, hfm, trivial⟩ r3_1) rfl (hb hby d20_18) ?_
  intro v5 T5 lc5 X5 N5 hQ5
  obtain ⟨rfl, e5⟩ := hQ5
  refine own_ifNo X5 hx (hb hby d20_21) ((if0 _ _).trans (feq (by decide : ¬ ((1 : Int32) = (0 : Int32)))).1) ?_
  refine own_iloadN X5 hx (hb hby d20_24) rfl ?_
  refine own_iloadN X5 hx (hb hby d20_25) rfl ?_
  refine own_aloadN X5 hx (hb hby d20_26) rfl rfl ?_
  refine own_getF X5 hx hZ hown (host := "") (Or.inl (own_w hw 48 rfl)) Via.refl e5 r3_0 (hb hby d20_27) (fun T6 X6 e6 => ?_)
  refine own_callS X6 hx hZ hown (y := (⟨"java/lang/Integer", "getChars", "(II[B)I"⟩ : MethodName)) (own_w hw 123 rfl) (own_w hw 124 rfl) (own_w hw 116 rfl) (own_w hw 125 rfl) (by decide) (W := 0) (by decide) (by decide) N5 e6 (by rw [hml]; rfl) (argsL := [(.int p2), (.int ((Int32.ofNat bs.length) + (Int32.ofNat (nd p2.toNatClampNeg)))), (.ref an_3)]) (rest := []) (lenOf pd_12 rfl) (Nat.le_of_eq rfl) (by decide) (by decide) (rm2334 l Z a0 hw [] p2 ((Int32.ofNat bs.length) + (Int32.ofNat (nd p2.toNatClampNeg))) an_3 kn_3 bs (tl ++ (List.replicate 18 (Value.int (0 : Int32)))) w_DigitOnes w_DigitTens zc fm k_ones k_tens T3.heap n0 O4 ⟨z0, z1, z2, z3, z4, z5, z6, hzc, z8, hfm, trivial⟩ hpos (own_add _ _) r3_4 ge_an_3 (by simp only [List.length_append, List.length_drop, List.length_replicate, dg_len] <;> omega) (by simp only [List.length_append, List.length_drop, List.length_replicate, dg_len] <;> omega)) rfl (hb hby d20_30) ?_
  intro v7 T7 lc7 X7 N7 hQ7
  obtain ⟨w_7, rfl, K7, r7_0⟩ := hQ7
  have E8_a1 := E4_a1.keep K7
  have F8_value_a1 := r3_0.keep K7 (ninS ne_a1_an_3 nin0)
  have F8_coder_a1 := r3_1.keep K7 (ninS ne_a1_an_3 nin0)
  have F8_count_a1 := r3_2.keep K7 (ninS ne_a1_an_3 nin0)
  have O8 := O4.keep K7 (allS ge_an_3 all0)
  have KC8 := KC4.trans K7 (allS (Or.inr sz_an_3) all0)
  refine own_pop X7 hx (hb hby d20_33) rfl ?_
  refine own_goto X7 hx (pc' := 48) (hb hby d20_34) (by decide) (by decide) ?_
  refine own_aloadN X7 hx (hb hby d20_48) rfl rfl ?_
  refine own_iloadN X7 hx (hb hby d20_49) rfl ?_
  refine own_putF X7 hx hZ hown N7 (host := "") (Or.inl (own_w hw 72 rfl)) Via.refl rfl F8_count_a1 E8_a1 (Or.inl (own_w hw 73 rfl)) (own_w hw 35 rfl) (ty := .int) (by decide) rfl rfl f6 (hb hby d20_50) (fun T9 h9 lc9 X9 e9 N9 W9 => ?_)
  have F10_value_a1 := F8_value_a1.other W9 (Or.inr (slot_ne (Or.inl (own_w hw 49 rfl)) (Or.inl (own_w hw 73 rfl)) (by decide) (t := (.array .byte)) (t' := .int) (by decide) (by decide)))
  have F10_coder_a1 := F8_coder_a1.other W9 (Or.inr (slot_ne (Or.inl (own_w hw 51 rfl)) (Or.inl (own_w hw 73 rfl)) (by decide) (t := .byte) (t' := .int) (by decide) (by decide)))
  have F10_count_a1 := F8_count_a1.same W9
  have A10_an_3 := r7_0.other W9 (Ne.symm ne_a1_an_3)
  have O10 := O8.wr W9 f6
  have KC10 := KC8.wr W9 (Or.inl (List.mem_of_getElem? (i := 0) rfl))
  refine own_aloadN X9 hx (hb hby d20_53) rfl rfl ?_
  show Goes _ _ _ _ _ _ (T9.setTop (mkF m 54 #[.val (.ref a1), .val (.int p2), .val (.int (Int32.ofNat bs.length)), .val (.int ((Int32.ofNat bs.length) + (Int32.ofNat (nd p2.toNatClampNeg))))] [(.ref a1)]))
  exact own_retR X9 hx N9 hlk (by decide) (by decide) hret rfl rfl rfl (hb hby d20_54) (by rw [e9]; exact ⟨an_3, kn_3, rfl, KC10, F10_value_a1, F10_coder_a1, (by rw [← own_addD]; exact F10_count_a1), sz_an_3, A10_an_3, (by simp only [List.length_append, List.length_drop, List.length_replicate, dg_len] <;> omega)⟩)
def Q1916g (Z : State) (a1 : Addr) (p2 : Int32) (a : Addr) (kd : ClassId) (bs : List Int32) (tl : List Value) (w_DigitOnes : Addr) (w_DigitTens : Addr) (zc : Int32) (fm : Value) (k_ones : ClassId) (k_tens : ClassId) (h0 : Heap) (n0 : Nat) (v : Option Value) (h : Heap) : Prop :=
  (∃ (an : Addr) (kn : ClassId), v = some (.ref a1) ∧ Keep h0 h [a1] ∧ Fld Z h a1 "java/lang/AbstractStringBuilder" "value" "[B" (.ref an) ∧ Fld Z h a1 "java/lang/AbstractStringBuilder" "coder" "B" (.int (0 : Int32)) ∧ Fld Z h a1 "java/lang/AbstractStringBuilder" "count" "I" (.int (Int32.ofNat (bs ++ (dg p2.toNatClampNeg)).length)) ∧ h0.size ≤ an ∧ Arv Z h an kn .byte (34 : Int32) (bl (bs ++ (dg p2.toNatClampNeg)) ++ ((tl ++ (List.replicate 18 (Value.int (0 : Int32)))).drop (nd p2.toNatClampNeg))) (.int (0 : Int32)) ∧ (bs ++ (dg p2.toNatClampNeg)).length + ((tl ++ (List.replicate 18 (Value.int (0 : Int32)))).drop (nd p2.toNatClampNeg)).length = 34)
theorem ef_1916g (m : MethodId) (a1 : Addr) (p2 : Int32) : entryFrame m #[(.ref a1), (.int p2)] 2 = mkF m 0 #[.val (.ref a1), .val (.int p2)] [] := by first | (simp [entryFrame, mkF, argsToLocals, Value.category]; done) | rfl
set_option maxRecDepth 65536 in
set_option maxHeartbeats 40000000 in
theorem rm1916g (l : Launch) (Z : State) (a0 : Array Value) (hw : ∀ d ∈ tables_1, d.before a0 Z = true) (ws : List Jvm.Cond) (a1 : Addr) (p2 : Int32) (a : Addr) (kd : ClassId) (bs : List Int32) (tl : List Value) (w_DigitOnes : Addr) (w_DigitTens : Addr) (zc : Int32) (fm : Value) (k_ones : ClassId) (k_tens : ClassId) (h0 : Heap) (n0 : Nat) (O0 : Old Z n0 h0) (SF : Start Z w_DigitOnes w_DigitTens zc fm k_ones k_tens) (f0 : Exa Z h0 a1 "java/lang/StringBuilder") (f1 : Fld Z h0 a1 "java/lang/AbstractStringBuilder" "value" "[B" (.ref a)) (f2 : Fld Z h0 a1 "java/lang/AbstractStringBuilder" "coder" "B" (.int (0 : Int32))) (f3 : Fld Z h0 a1 "java/lang/AbstractStringBuilder" "count" "I" (.int (Int32.ofNat bs.length))) (f4 : Arv Z h0 a kd .byte (16 : Int32) (bl bs ++ tl) (.int (0 : Int32))) (f5 : Exa Z h0 a "[B") (f6 : n0 ≤ a1) (f7 : n0 ≤ a) (hcap : bs.length + tl.length = 16) (hpos : (0 : Int32) < p2) (hgt : 16 < bs.length + nd p2.toNatClampNeg) (hle : bs.length + nd p2.toNatClampNeg ≤ 34) :
    Meets l (⟨"java/lang/StringBuilder", "append", "(I)Ljava/lang/StringBuilder;"⟩ : MethodName) jdk_67_method_15_code 2 (some (.object "java/lang/StringBuilder")) ws ({ frames := 5, cells := 1, slots := 34, locals := 77 } : Room) ({ frames := 5, cells := 1, slots := 34, locals := 77 } : Room).cells ({ frames := 5, cells := 1, slots := 34, locals := 77 } : Room).slots Z #[(.ref a1), (.int p2)] h0 n0 (Q1916g Z a1 p2 a kd bs tl w_DigitOnes w_DigitTens zc fm k_ones k_tens h0 n0) := by
  refine Meets.of (F := fun m => mkF m 0 #[.val (.ref a1), .val (.int p2)] []) (plainFor_of_name pn_2) (fun m => ef_1916g m a1 p2) ?_
  intro p e s m below meth c T0 hx hby hml hown0 hnm hret hlk hZ X0 e0
  have hown : s.vm.findClass "java/lang/StringBuilder" = some m.cls := hown0
  have N0 := Fr.nil n0
  have KC0 := Keep.refl h0 [a1]
  obtain ⟨z0, z1, z2, z3, z4, z5, z6, hzc, z8, hfm, -⟩ := SF
  show Goes _ _ _ _ _ _ (T0.setTop (mkF m 0 #[.val (.ref a1), .val (.int p2)] []))
  refine own_aloadN X0 hx (hb hby d19_0) rfl rfl ?_
  refine own_iloadN X0 hx (hb hby d19_1) rfl ?_
  refine own_specialUp X0 hx hZ hown (y := (⟨"java/lang/AbstractStringBuilder", "append", "(I)Ljava/lang/AbstractStringBuilder;"⟩ : MethodName)) (own_w hw 110 rfl) (own_w hw 111 rfl) (own_w hw 59 rfl) (own_w hw 77 rfl) rfl (own_w hw 44 rfl) (own_w hw 113 rfl) (a := a1) f0 (by decide) (by decide) (W := 0) (by decide) (by decide) N0 e0 (by rw [hml]; rfl) (argsL := [(.int p2)]) (rest := []) (lenOf pd_13 rfl) (Nat.le_of_eq rfl) (by decide) (by decide) (rm2016g l Z a0 hw [] a1 p2 a kd bs tl w_DigitOnes w_DigitTens zc fm k_ones k_tens h0 n0 O0 ⟨z0, z1, z2, z3, z4, z5, z6, hzc, z8, hfm, trivial⟩ f0 f1 f2 f3 f4 f5 f6 f7 hcap hpos hgt hle) rfl (hb hby d19_2) ?_
  intro v1 T1 lc1 X1 N1 hQ1
  obtain ⟨an_1, kn_1, rfl, K1, r1_0, r1_1, r1_2, r1_3, r1_4, r1_5⟩ := hQ1
  have O2 := O0.keep K1 (allS f6 all0)
  have KC2 := KC0.trans K1 (allS (Or.inl (List.mem_of_getElem? (i := 0) rfl)) all0)
  have ge_an_1 : n0 ≤ an_1 := Nat.le_trans (own_sz O0) r1_3
  have sz_an_1 : h0.size ≤ an_1 := Nat.le_trans KC0.1 r1_3
  refine own_pop X1 hx (hb hby d19_5) rfl ?_
  refine own_aloadN X1 hx (hb hby d19_6) rfl rfl ?_
  show Goes _ _ _ _ _ _ (T1.setTop (mkF m 7 #[.val (.ref a1), .val (.int p2)] [(.ref a1)]))
  exact own_retR X1 hx N1 hlk (by decide) (by decide) hret rfl rfl rfl (hb hby d19_7) (⟨an_1, kn_1, rfl, KC2, r1_0, r1_1, r1_2, sz_an_1, r1_4, r1_5⟩)
theorem d27_0 : decode jdk_68_method_64_code 0 = .ok (.aload_n 0, 1) := by decide +kernel
theorem d27_1 : decode jdk_68_method_64_code 1 = .ok (.getfield 15, 3) := by decide +kernel
theorem d27_4 : decode jdk_68_method_64_code 4 = .ok (.areturn, 1) := by decide +kernel
def Q27 (Z : State) (a1 : Addr) (a : Addr) (h0 : Heap) (n0 : Nat) (v : Option Value) (h : Heap) : Prop :=
  (v = some (.ref a) ∧ h = h0)
theorem ef_27 (m : MethodId) (a1 : Addr) : entryFrame m #[(.ref a1)] 1 = mkF m 0 #[.val (.ref a1)] [] := by first | (simp [entryFrame, mkF, argsToLocals, Value.category]; done) | rfl
set_option maxRecDepth 65536 in
set_option maxHeartbeats 40000000 in
theorem rm27 (l : Launch) (Z : State) (a0 : Array Value) (hw : ∀ d ∈ tables_1, d.before a0 Z = true) (ws : List Jvm.Cond) (a1 : Addr) (a : Addr) (h0 : Heap) (n0 : Nat) (O0 : Old Z n0 h0) (f0 : Fld Z h0 a1 "java/lang/AbstractStringBuilder" "value" "[B" (.ref a)) :
    Meets l (⟨"java/lang/AbstractStringBuilder", "getValue", "()[B"⟩ : MethodName) jdk_68_method_64_code 1 (some (.array .byte)) ws ({ frames := 0, cells := 0, slots := 0, locals := 0 } : Room) ({ frames := 0, cells := 0, slots := 0, locals := 0 } : Room).cells ({ frames := 0, cells := 0, slots := 0, locals := 0 } : Room).slots Z #[(.ref a1)] h0 n0 (Q27 Z a1 a h0 n0) := by
  refine Meets.of (F := fun m => mkF m 0 #[.val (.ref a1)] []) (plainFor_of_name pn_1) (fun m => ef_27 m a1) ?_
  intro p e s m below meth c T0 hx hby hml hown0 hnm hret hlk hZ X0 e0
  have hown : s.vm.findClass "java/lang/AbstractStringBuilder" = some m.cls := hown0
  have N0 := Fr.nil n0
  show Goes _ _ _ _ _ _ (T0.setTop (mkF m 0 #[.val (.ref a1)] []))
  refine own_aloadN X0 hx (hb hby d27_0) rfl rfl ?_
  refine own_getF X0 hx hZ hown (host := "") (Or.inl (own_w hw 48 rfl)) Via.refl e0 f0 (hb hby d27_1) (fun T1 X1 e1 => ?_)
  show Goes _ _ _ _ _ _ (T1.setTop (mkF m 4 #[.val (.ref a1)] [(.ref a)]))
  exact own_retR X1 hx N0 hlk (by decide) (by decide) hret rfl rfl rfl (hb hby d27_4) (by rw [e1]; exact ⟨rfl, rfl⟩)
theorem d29_0 : decode jdk_68_method_6_code 0 = .ok (.aload_n 0, 1) := by decide +kernel
theorem d29_1 : decode jdk_68_method_6_code 1 = .ok (.getfield 79, 3) := by decide +kernel
theorem d29_4 : decode jdk_68_method_6_code 4 = .ok (.ireturn, 1) := by decide +kernel
def Q29 (Z : State) (a1 : Addr) (ct : Int32) (h0 : Heap) (n0 : Nat) (v : Option Value) (h : Heap) : Prop :=
  (v = some (.int ct) ∧ h = h0)
theorem ef_29 (m : MethodId) (a1 : Addr) : entryFrame m #[(.ref a1)] 1 = mkF m 0 #[.val (.ref a1)] [] := by first | (simp [entryFrame, mkF, argsToLocals, Value.category]; done) | rfl
set_option maxRecDepth 65536 in
set_option maxHeartbeats 40000000 in
theorem rm29 (l : Launch) (Z : State) (a0 : Array Value) (hw : ∀ d ∈ tables_1, d.before a0 Z = true) (ws : List Jvm.Cond) (a1 : Addr) (ct : Int32) (h0 : Heap) (n0 : Nat) (O0 : Old Z n0 h0) (f0 : Fld Z h0 a1 "java/lang/AbstractStringBuilder" "count" "I" (.int ct)) :
    Meets l (⟨"java/lang/AbstractStringBuilder", "length", "()I"⟩ : MethodName) jdk_68_method_6_code 1 (some .int) ws ({ frames := 0, cells := 0, slots := 0, locals := 0 } : Room) ({ frames := 0, cells := 0, slots := 0, locals := 0 } : Room).cells ({ frames := 0, cells := 0, slots := 0, locals := 0 } : Room).slots Z #[(.ref a1)] h0 n0 (Q29 Z a1 ct h0 n0) := by
  refine Meets.of (F := fun m => mkF m 0 #[.val (.ref a1)] []) (plainFor_of_name pn_1) (fun m => ef_29 m a1) ?_
  intro p e s m below meth c T0 hx hby hml hown0 hnm hret hlk hZ X0 e0
  have hown : s.vm.findClass "java/lang/AbstractStringBuilder" = some m.cls := hown0
  have N0 := Fr.nil n0
  show Goes _ _ _ _ _ _ (T0.setTop (mkF m 0 #[.val (.ref a1)] []))
  refine own_aloadN X0 hx (hb hby d29_0) rfl rfl ?_
  refine own_getF X0 hx hZ hown (host := "") (Or.inl (own_w hw 72 rfl)) Via.refl e0 f0 (hb hby d29_1) (fun T1 X1 e1 => ?_)
  show Goes _ _ _ _ _ _ (T1.setTop (mkF m 4 #[.val (.ref a1)] [(.int ct)]))
  exact own_retI X1 hx N0 hlk (by decide) (by decide) hret (hb hby d29_4) (by rw [e1]; exact ⟨rfl, rfl⟩)
theorem d28_0 : decode jdk_67_method_93_code 0 = .ok (.aload_n 0, 1) := by decide +kernel
theorem d28_1 : decode jdk_67_method_93_code 1 = .ok (.invokespecial 343, 3) := by decide +kernel
theorem d28_4 : decode jdk_67_method_93_code 4 = .ok (.ireturn, 1) := by decide +kernel
def Q28 (Z : State) (a1 : Addr) (ct : Int32) (h0 : Heap) (n0 : Nat) (v : Option Value) (h : Heap) : Prop :=
  (v = some (.int ct) ∧ h = h0)
theorem ef_28 (m : MethodId) (a1 : Addr) : entryFrame m #[(.ref a1)] 1 = mkF m 0 #[.val (.ref a1)] [] := by first | (simp [entryFrame, mkF, argsToLocals, Value.category]; done) | rfl
set_option maxRecDepth 65536 in
set_option maxHeartbeats 40000000 in
theorem rm28 (l : Launch) (Z : State) (a0 : Array Value) (hw : ∀ d ∈ tables_1, d.before a0 Z = true) (ws : List Jvm.Cond) (a1 : Addr) (ct : Int32) (h0 : Heap) (n0 : Nat) (O0 : Old Z n0 h0) (f0 : Exa Z h0 a1 "java/lang/StringBuilder") (f1 : Fld Z h0 a1 "java/lang/AbstractStringBuilder" "count" "I" (.int ct)) :
    Meets l (⟨"java/lang/StringBuilder", "length", "()I"⟩ : MethodName) jdk_67_method_93_code 1 (some .int) ws ({ frames := 1, cells := 0, slots := 0, locals := 12 } : Room) ({ frames := 1, cells := 0, slots := 0, locals := 12 } : Room).cells ({ frames := 1, cells := 0, slots := 0, locals := 12 } : Room).slots Z #[(.ref a1)] h0 n0 (Q28 Z a1 ct h0 n0) := by
  refine Meets.of (F := fun m => mkF m 0 #[.val (.ref a1)] []) (plainFor_of_name pn_2) (fun m => ef_28 m a1) ?_
  intro p e s m below meth c T0 hx hby hml hown0 hnm hret hlk hZ X0 e0
  have hown : s.vm.findClass "java/lang/StringBuilder" = some m.cls := hown0
  have N0 := Fr.nil n0
  show Goes _ _ _ _ _ _ (T0.setTop (mkF m 0 #[.val (.ref a1)] []))
  refine own_aloadN X0 hx (hb hby d28_0) rfl rfl ?_
  refine own_specialUp X0 hx hZ hown (y := (⟨"java/lang/AbstractStringBuilder", "length", "()I"⟩ : MethodName)) (own_w hw 150 rfl) (own_w hw 146 rfl) (own_w hw 59 rfl) (own_w hw 77 rfl) rfl (own_w hw 44 rfl) (own_w hw 151 rfl) (a := a1) f0 (by decide) (by decide) (W := 0) (by decide) (by decide) N0 e0 (by rw [hml]; rfl) (argsL := []) (rest := []) (lenOf pd_8 rfl) (Nat.le_of_eq rfl) (by decide) (by decide) (rm29 l Z a0 hw [] a1 ct h0 n0 O0 f1) rfl (hb hby d28_1) ?_
  intro v1 T1 lc1 X1 N1 hQ1
  obtain ⟨rfl, e1⟩ := hQ1
  show Goes _ _ _ _ _ _ (T1.setTop (mkF m 4 #[.val (.ref a1)] [(.int ct)]))
  exact own_retI X1 hx N1 hlk (by decide) (by decide) hret (hb hby d28_4) (by rw [e1]; exact ⟨rfl, rfl⟩)
theorem d32_0 : decode jdk_65_method_131_code 0 = .ok (.iload_n 1, 1) := by decide +kernel
theorem d32_1 : decode jdk_65_method_131_code 1 = .ok (.iload_n 0, 1) := by decide +kernel
theorem d32_2 : decode jdk_65_method_131_code 2 = .ok (.if_icmp .ge 35, 3) := by decide +kernel
theorem d32_37 : decode jdk_65_method_131_code 37 = .ok (.return_, 1) := by decide +kernel
def Q32 (Z : State) (p2 : Int32) (h0 : Heap) (n0 : Nat) (v : Option Value) (h : Heap) : Prop :=
  (v = none ∧ h = h0)
theorem ef_32 (m : MethodId) (p2 : Int32) : entryFrame m #[(.int (0 : Int32)), (.int p2)] 2 = mkF m 0 #[.val (.int (0 : Int32)), .val (.int p2)] [] := by first | (simp [entryFrame, mkF, argsToLocals, Value.category]; done) | rfl
set_option maxRecDepth 65536 in
set_option maxHeartbeats 40000000 in
theorem rm32 (l : Launch) (Z : State) (a0 : Array Value) (hw : ∀ d ∈ tables_1, d.before a0 Z = true) (ws : List Jvm.Cond) (p2 : Int32) (h0 : Heap) (n0 : Nat) (O0 : Old Z n0 h0) (hq : ¬ (p2 < (0 : Int32))) :
    Meets l (⟨"java/util/Arrays", "checkLength", "(II)V"⟩ : MethodName) jdk_65_method_131_code 2 none ws ({ frames := 0, cells := 0, slots := 0, locals := 0 } : Room) ({ frames := 0, cells := 0, slots := 0, locals := 0 } : Room).cells ({ frames := 0, cells := 0, slots := 0, locals := 0 } : Room).slots Z #[(.int (0 : Int32)), (.int p2)] h0 n0 (Q32 Z p2 h0 n0) := by
  refine Meets.of (F := fun m => mkF m 0 #[.val (.int (0 : Int32)), .val (.int p2)] []) (plainFor_of_name pn_4) (fun m => ef_32 m p2) ?_
  intro p e s m below meth c T0 hx hby hml hown0 hnm hret hlk hZ X0 e0
  have hown : s.vm.findClass "java/util/Arrays" = some m.cls := hown0
  have N0 := Fr.nil n0
  show Goes _ _ _ _ _ _ (T0.setTop (mkF m 0 #[.val (.int (0 : Int32)), .val (.int p2)] []))
  refine own_iloadN X0 hx (hb hby d32_0) rfl ?_
  refine own_iloadN X0 hx (hb hby d32_1) rfl ?_
  refine own_icmpYes X0 hx (pc' := 37) (hb hby d32_2) (flt (hq : ¬ (p2 < (0 : Int32)))).2.1 (by decide) (by decide) ?_
  show Goes _ _ _ _ _ _ (T0.setTop (mkF m 37 #[.val (.int (0 : Int32)), .val (.int p2)] []))
  exact own_retV X0 hx N0 hlk (by decide) (by decide) hret (hb hby d32_37) (by rw [e0]; exact ⟨rfl, rfl⟩)
theorem d31_0 : decode jdk_65_method_133_code 0 = .ok (.iload_n 1, 1) := by decide +kernel
theorem d31_1 : decode jdk_65_method_133_code 1 = .ok (.iload_n 2, 1) := by decide +kernel
theorem d31_2 : decode jdk_65_method_133_code 2 = .ok (.invokestatic 343, 3) := by decide +kernel
theorem pd_14 : parseMethodDescriptor "(II)V" = some ⟨[.int, .int], none⟩ := by decide +kernel
theorem d31_5 : decode jdk_65_method_133_code 5 = .ok (.iload_n 2, 1) := by decide +kernel
theorem d31_6 : decode jdk_65_method_133_code 6 = .ok (.iload_n 1, 1) := by decide +kernel
theorem d31_7 : decode jdk_65_method_133_code 7 = .ok (.isub, 1) := by decide +kernel
theorem d31_8 : decode jdk_65_method_133_code 8 = .ok (.istore_n 3, 1) := by decide +kernel
theorem d31_9 : decode jdk_65_method_133_code 9 = .ok (.iload_n 3, 1) := by decide +kernel
theorem d31_10 : decode jdk_65_method_133_code 10 = .ok (.newarray .byte, 2) := by decide +kernel
theorem d31_12 : decode jdk_65_method_133_code 12 = .ok (.astore 4, 2) := by decide +kernel
theorem d31_14 : decode jdk_65_method_133_code 14 = .ok (.aload_n 0, 1) := by decide +kernel
theorem d31_15 : decode jdk_65_method_133_code 15 = .ok (.iload_n 1, 1) := by decide +kernel
theorem d31_16 : decode jdk_65_method_133_code 16 = .ok (.aload 4, 2) := by decide +kernel
theorem d31_18 : decode jdk_65_method_133_code 18 = .ok (.iconst 0, 1) := by decide +kernel
theorem d31_19 : decode jdk_65_method_133_code 19 = .ok (.aload_n 0, 1) := by decide +kernel
theorem d31_20 : decode jdk_65_method_133_code 20 = .ok (.arraylength, 1) := by decide +kernel
theorem d31_21 : decode jdk_65_method_133_code 21 = .ok (.iload_n 1, 1) := by decide +kernel
theorem d31_22 : decode jdk_65_method_133_code 22 = .ok (.isub, 1) := by decide +kernel
theorem d31_23 : decode jdk_65_method_133_code 23 = .ok (.iload_n 3, 1) := by decide +kernel
theorem d31_24 : decode jdk_65_method_133_code 24 = .ok (.invokestatic 304, 3) := by decide +kernel
theorem d31_27 : decode jdk_65_method_133_code 27 = .ok (.invokestatic 150, 3) := by decide +kernel
theorem d31_30 : decode jdk_65_method_133_code 30 = .ok (.aload 4, 2) := by decide +kernel
theorem d31_32 : decode jdk_65_method_133_code 32 = .ok (.areturn, 1) := by decide +kernel
def Q3116 (Z : State) (a1 : Addr) (kd : ClassId) (bs : List Int32) (tl : List Value) (h0 : Heap) (n0 : Nat) (v : Option Value) (h : Heap) : Prop :=
  (∃ (an : Addr) (kn : ClassId), v = some (.ref an) ∧ Keep h0 h [] ∧ h0.size ≤ an ∧ Arv Z h an kn .byte (Int32.ofNat bs.length) (bl bs) (.int (0 : Int32)))
theorem ef_3116 (m : MethodId) (a1 : Addr) (bs : List Int32) : entryFrame m #[(.ref a1), (.int (0 : Int32)), (.int (Int32.ofNat bs.length))] 5 = mkF m 0 #[.val (.ref a1), .val (.int (0 : Int32)), .val (.int (Int32.ofNat bs.length)), .unset, .unset] [] := by first | (simp [entryFrame, mkF, argsToLocals, Value.category]; done) | rfl
set_option maxRecDepth 65536 in
set_option maxHeartbeats 40000000 in
theorem rm3116 (l : Launch) (Z : State) (a0 : Array Value) (hw : ∀ d ∈ tables_1, d.before a0 Z = true) (ws : List Jvm.Cond) (a1 : Addr) (kd : ClassId) (bs : List Int32) (tl : List Value) (h0 : Heap) (n0 : Nat) (O0 : Old Z n0 h0) (f0 : Arv Z h0 a1 kd .byte (16 : Int32) (bl bs ++ tl) (.int (0 : Int32))) (hcap : bs.length + tl.length = 16) :
    Meets l (⟨"java/util/Arrays", "copyOfRangeByte", "([BII)[B"⟩ : MethodName) jdk_65_method_133_code 5 (some (.array .byte)) ws ({ frames := 1, cells := 1, slots := 16, locals := 18 } : Room) ({ frames := 1, cells := 1, slots := 16, locals := 18 } : Room).cells ({ frames := 1, cells := 1, slots := 16, locals := 18 } : Room).slots Z #[(.ref a1), (.int (0 : Int32)), (.int (Int32.ofNat bs.length))] h0 n0 (Q3116 Z a1 kd bs tl h0 n0) := by
  refine Meets.of (F := fun m => mkF m 0 #[.val (.ref a1), .val (.int (0 : Int32)), .val (.int (Int32.ofNat bs.length)), .unset, .unset] []) (plainFor_of_name pn_4) (fun m => ef_3116 m a1 bs) ?_
  intro p e s m below meth c T0 hx hby hml hown0 hnm hret hlk hZ X0 e0
  have hown : s.vm.findClass "java/util/Arrays" = some m.cls := hown0
  have N0 := Fr.nil n0
  have KC0 := Keep.refl h0 []
  show Goes _ _ _ _ _ _ (T0.setTop (mkF m 0 #[.val (.ref a1), .val (.int (0 : Int32)), .val (.int (Int32.ofNat bs.length)), .unset, .unset] []))
  refine own_iloadN X0 hx (hb hby d31_0) rfl ?_
  refine own_iloadN X0 hx (hb hby d31_1) rfl ?_
  refine own_callS X0 hx hZ hown (y := (⟨"java/util/Arrays", "checkLength", "(II)V"⟩ : MethodName)) (own_w hw 160 rfl) (own_w hw 161 rfl) (own_w hw 155 rfl) (own_w hw 162 rfl) (by decide) (W := 0) (by decide) (by decide) N0 e0 (by rw [hml]; rfl) (argsL := [(.int (0 : Int32)), (.int (Int32.ofNat bs.length))]) (rest := []) (lenOf pd_14 rfl) (Nat.le_of_eq rfl) (by decide) (by decide) (rm32 l Z a0 hw [] (Int32.ofNat bs.length) h0 n0 O0 (own_nneg (by omega))) rfl (hb hby d31_2) ?_
  intro v1 T1 lc1 X1 N1 hQ1
  obtain ⟨rfl, e1⟩ := hQ1
  refine own_iloadN X1 hx (hb hby d31_5) rfl ?_
  refine own_iloadN X1 hx (hb hby d31_6) rfl ?_
  refine own_isub X1 hx (hb hby d31_7) ?_
  show Goes _ _ _ _ _ _ (T1.setTop (mkF m 8 #[.val (.ref a1), .val (.int (0 : Int32)), .val (.int (Int32.ofNat bs.length)), .unset, .unset] [(.int ((Int32.ofNat bs.length) - (0 : Int32)))]))
  rw [own_sub0]
  refine own_istoreN X1 hx (Ls' := #[.val (.ref a1), .val (.int (0 : Int32)), .val (.int (Int32.ofNat bs.length)), .val (.int (Int32.ofNat bs.length)), .unset]) (hb hby d31_8) rfl ?_
  refine own_iloadN X1 hx (hb hby d31_9) rfl ?_
  refine own_newP X1 hx hZ (own_w hw 19 rfl) e1 (hb hby d31_10) (own_nneg (by omega)) (cap := 16) (by rw [own_clamp (by omega)]; omega) (by decide) (by decide) (by decide) (fun T2 h2 b2 k2 g2 X2 e2 E2 A2 => ?_)
  have ge_b2 : n0 ≤ b2 := Nat.le_trans (own_sz O0) (Nat.le_of_eq g2.symm)
  have sz_b2 : h0.size ≤ b2 := Nat.le_trans KC0.1 (Nat.le_of_eq g2.symm)
  have A3_a1 := f0.ext E2
  have O3 := O0.ext E2
  have KC3 := KC0.ext E2
  refine own_astore X2 hx (Ls' := #[.val (.ref a1), .val (.int (0 : Int32)), .val (.int (Int32.ofNat bs.length)), .val (.int (Int32.ofNat bs.length)), .val (.ref b2)]) (hb hby d31_12) rfl rfl ?_
  refine own_aloadN X2 hx (hb hby d31_14) rfl rfl ?_
  refine own_iloadN X2 hx (hb hby d31_15) rfl ?_
  refine own_aload X2 hx (hb hby d31_16) rfl rfl ?_
  refine own_iconst X2 hx (v := (0 : Int32)) (hb hby d31_18) rfl ?_
  show Goes _ _ _ _ _ _ (T2.setTop (mkF m 19 #[.val (.ref a1), .val (.int (0 : Int32)), .val (.int (Int32.ofNat bs.length)), .val (.int (Int32.ofNat bs.length)), .val (.ref b2)] [(.int (0 : Int32)), (.ref b2), (.int (0 : Int32)), (.ref a1)]))
  refine own_aloadN X2 hx (hb hby d31_19) rfl rfl ?_
  refine own_alen X2 hx hZ e2 A3_a1 (hb hby d31_20) ?_
  refine own_iloadN X2 hx (hb hby d31_21) rfl ?_
  refine own_isub X2 hx (hb hby d31_22) ?_
  show Goes _ _ _ _ _ _ (T2.setTop (mkF m 23 #[.val (.ref a1), .val (.int (0 : Int32)), .val (.int (Int32.ofNat bs.length)), .val (.int (Int32.ofNat bs.length)), .val (.ref b2)] [(.int ((16 : Int32) - (0 : Int32))), (.int (0 : Int32)), (.ref b2), (.int (0 : Int32)), (.ref a1)]))
  rw [show ((16 : Int32) - (0 : Int32)) = (16 : Int32) by decide]
  refine own_iloadN X2 hx (hb hby d31_23) rfl ?_
  refine own_callS X2 hx hZ hown (y := (⟨"java/lang/Math", "min", "(II)I"⟩ : MethodName)) (own_w hw 163 rfl) (own_w hw 164 rfl) (own_w hw 165 rfl) (own_w hw 166 rfl) (by decide) (W := 4) (by decide) (by decide) N1 e2 (by rw [hml]; rfl) (argsL := [(.int (16 : Int32)), (.int (Int32.ofNat bs.length))]) (rest := [(.int (0 : Int32)), (.ref b2), (.int (0 : Int32)), (.ref a1)]) (lenOf pd_2 rfl) (Nat.le_of_eq rfl) (by decide) (by decide) (rm33r l Z a0 hw [] (16 : Int32) (Int32.ofNat bs.length) h2 n0 O3 (own_capr16 (by omega))) rfl (hb hby d31_24) ?_
  intro v4 T4 lc4 X4 N4 hQ4
  obtain ⟨rfl, e4⟩ := hQ4
  show Goes _ _ _ _ _ _ (T4.setTop (mkF m 27 #[.val (.ref a1), .val (.int (0 : Int32)), .val (.int (Int32.ofNat bs.length)), .val (.int (Int32.ofNat bs.length)), .val (.ref b2)] [(.int (Int32.ofNat bs.length)), (.int (0 : Int32)), (.ref b2), (.int (0 : Int32)), (.ref a1)]))
  refine own_cpR X4 hx hZ hown (own_w hw 167 rfl) (own_w hw 98 rfl) (own_w hw 96 rfl) (own_w hw 97 rfl) e4 A3_a1 A2 (by rw [hcap]; decide) (by omega) N4 ge_b2 (by rw [hml]; rfl) (hb hby d31_27) (by decide) (W := 0) (Nat.le_of_eq rfl) (by decide) (fun T5 h5 lc5 X5 e5 N5 K5 V5 => ?_)
  have O6 := O3.keep K5 (allS ge_b2 all0)
  have KC6 := KC3.trans K5 (allS (Or.inr sz_b2) all0)
  refine own_aload X5 hx (hb hby d31_30) rfl rfl ?_
  show Goes _ _ _ _ _ _ (T5.setTop (mkF m 32 #[.val (.ref a1), .val (.int (0 : Int32)), .val (.int (Int32.ofNat bs.length)), .val (.int (Int32.ofNat bs.length)), .val (.ref b2)] [(.ref b2)]))
  exact own_retR X5 hx N5 hlk (by decide) (by decide) hret rfl rfl rfl (hb hby d31_32) (by rw [e5]; exact ⟨b2, k2, rfl, KC6, sz_b2, V5⟩)
theorem d30_0 : decode jdk_65_method_132_code 0 = .ok (.iload_n 1, 1) := by decide +kernel
theorem d30_1 : decode jdk_65_method_132_code 1 = .ok (.ifCond .ne 9, 3) := by decide +kernel
theorem d30_4 : decode jdk_65_method_132_code 4 = .ok (.iload_n 2, 1) := by decide +kernel
theorem d30_5 : decode jdk_65_method_132_code 5 = .ok (.aload_n 0, 1) := by decide +kernel
theorem d30_6 : decode jdk_65_method_132_code 6 = .ok (.arraylength, 1) := by decide +kernel
theorem d30_7 : decode jdk_65_method_132_code 7 = .ok (.if_icmp .eq 10, 3) := by decide +kernel
theorem d30_10 : decode jdk_65_method_132_code 10 = .ok (.aload_n 0, 1) := by decide +kernel
theorem d30_11 : decode jdk_65_method_132_code 11 = .ok (.iload_n 1, 1) := by decide +kernel
theorem d30_12 : decode jdk_65_method_132_code 12 = .ok (.iload_n 2, 1) := by decide +kernel
theorem d30_13 : decode jdk_65_method_132_code 13 = .ok (.invokestatic 339, 3) := by decide +kernel
theorem pd_15 : parseMethodDescriptor "([BII)[B" = some ⟨[(.array .byte), .int, .int], some (.array .byte)⟩ := by decide +kernel
theorem d30_16 : decode jdk_65_method_132_code 16 = .ok (.areturn, 1) := by decide +kernel
def Q3016c (Z : State) (a1 : Addr) (kd : ClassId) (bs : List Int32) (tl : List Value) (h0 : Heap) (n0 : Nat) (v : Option Value) (h : Heap) : Prop :=
  (∃ (an : Addr) (kn : ClassId), v = some (.ref an) ∧ Keep h0 h [] ∧ h0.size ≤ an ∧ Arv Z h an kn .byte (Int32.ofNat bs.length) (bl bs) (.int (0 : Int32)))
theorem ef_3016c (m : MethodId) (a1 : Addr) (bs : List Int32) : entryFrame m #[(.ref a1), (.int (0 : Int32)), (.int (Int32.ofNat bs.length))] 3 = mkF m 0 #[.val (.ref a1), .val (.int (0 : Int32)), .val (.int (Int32.ofNat bs.length))] [] := by first | (simp [entryFrame, mkF, argsToLocals, Value.category]; done) | rfl
set_option maxRecDepth 65536 in
set_option maxHeartbeats 40000000 in
theorem rm3016c (l : Launch) (Z : State) (a0 : Array Value) (hw : ∀ d ∈ tables_1, d.before a0 Z = true) (ws : List Jvm.Cond) (a1 : Addr) (kd : ClassId) (bs : List Int32) (tl : List Value) (h0 : Heap) (n0 : Nat) (O0 : Old Z n0 h0) (f0 : Arv Z h0 a1 kd .byte (16 : Int32) (bl bs ++ tl) (.int (0 : Int32))) (hcap : bs.length + tl.length = 16) (hlt : bs.length < 16) :
    Meets l (⟨"java/util/Arrays", "copyOfRange", "([BII)[B"⟩ : MethodName) jdk_65_method_132_code 3 (some (.array .byte)) ws ({ frames := 2, cells := 1, slots := 16, locals := 34 } : Room) ({ frames := 2, cells := 1, slots := 16, locals := 34 } : Room).cells ({ frames := 2, cells := 1, slots := 16, locals := 34 } : Room).slots Z #[(.ref a1), (.int (0 : Int32)), (.int (Int32.ofNat bs.length))] h0 n0 (Q3016c Z a1 kd bs tl h0 n0) := by
  refine Meets.of (F := fun m => mkF m 0 #[.val (.ref a1), .val (.int (0 : Int32)), .val (.int (Int32.ofNat bs.length))] []) (plainFor_of_name pn_4) (fun m => ef_3016c m a1 bs) ?_
  intro p e s m below meth c T0 hx hby hml hown0 hnm hret hlk hZ X0 e0
  have hown : s.vm.findClass "java/util/Arrays" = some m.cls := hown0
  have N0 := Fr.nil n0
  have KC0 := Keep.refl h0 []
  show Goes _ _ _ _ _ _ (T0.setTop (mkF m 0 #[.val (.ref a1), .val (.int (0 : Int32)), .val (.int (Int32.ofNat bs.length))] []))
  refine own_iloadN X0 hx (hb hby d30_0) rfl ?_
  refine own_ifNo X0 hx (hb hby d30_1) ((if0 _ _).trans (teq (by decide : (0 : Int32) = (0 : Int32))).2) ?_
  refine own_iloadN X0 hx (hb hby d30_4) rfl ?_
  refine own_aloadN X0 hx (hb hby d30_5) rfl rfl ?_
  refine own_alen X0 hx hZ e0 f0 (hb hby d30_6) ?_
  refine own_icmpNo X0 hx (hb hby d30_7) (feq ((own_neq16 hlt) : ¬ ((Int32.ofNat bs.length) = (16 : Int32)))).1 ?_
  refine own_aloadN X0 hx (hb hby d30_10) rfl rfl ?_
  refine own_iloadN X0 hx (hb hby d30_11) rfl ?_
  refine own_iloadN X0 hx (hb hby d30_12) rfl ?_
  refine own_callS X0 hx hZ hown (y := (⟨"java/util/Arrays", "copyOfRangeByte", "([BII)[B"⟩ : MethodName)) (own_w hw 157 rfl) (own_w hw 158 rfl) (own_w hw 155 rfl) (own_w hw 159 rfl) (by decide) (W := 0) (by decide) (by decide) N0 e0 (by rw [hml]; rfl) (argsL := [(.ref a1), (.int (0 : Int32)), (.int (Int32.ofNat bs.length))]) (rest := []) (lenOf pd_15 rfl) (Nat.le_of_eq rfl) (by decide) (by decide) (rm3116 l Z a0 hw [] a1 kd bs tl h0 n0 O0 f0 hcap) rfl (hb hby d30_13) ?_
  intro v1 T1 lc1 X1 N1 hQ1
  obtain ⟨an_1, kn_1, rfl, K1, r1_0, r1_1⟩ := hQ1
  have O2 := O0.keep K1 all0
  have KC2 := KC0.trans K1 all0
  have ge_an_1 : n0 ≤ an_1 := Nat.le_trans (own_sz O0) r1_0
  have sz_an_1 : h0.size ≤ an_1 := Nat.le_trans KC0.1 r1_0
  show Goes _ _ _ _ _ _ (T1.setTop (mkF m 16 #[.val (.ref a1), .val (.int (0 : Int32)), .val (.int (Int32.ofNat bs.length))] [(.ref an_1)]))
  exact own_retR X1 hx N1 hlk (by decide) (by decide) hret rfl rfl rfl (hb hby d30_16) (⟨an_1, kn_1, rfl, KC2, sz_an_1, r1_1⟩)
def Q3134 (Z : State) (a1 : Addr) (kd : ClassId) (bs : List Int32) (tl : List Value) (h0 : Heap) (n0 : Nat) (v : Option Value) (h : Heap) : Prop :=
  (∃ (an : Addr) (kn : ClassId), v = some (.ref an) ∧ Keep h0 h [] ∧ h0.size ≤ an ∧ Arv Z h an kn .byte (Int32.ofNat bs.length) (bl bs) (.int (0 : Int32)))
theorem ef_3134 (m : MethodId) (a1 : Addr) (bs : List Int32) : entryFrame m #[(.ref a1), (.int (0 : Int32)), (.int (Int32.ofNat bs.length))] 5 = mkF m 0 #[.val (.ref a1), .val (.int (0 : Int32)), .val (.int (Int32.ofNat bs.length)), .unset, .unset] [] := by first | (simp [entryFrame, mkF, argsToLocals, Value.category]; done) | rfl
set_option maxRecDepth 65536 in
set_option maxHeartbeats 40000000 in
theorem rm3134 (l : Launch) (Z : State) (a0 : Array Value) (hw : ∀ d ∈ tables_1, d.before a0 Z = true) (ws : List Jvm.Cond) (a1 : Addr) (kd : ClassId) (bs : List Int32) (tl : List Value) (h0 : Heap) (n0 : Nat) (O0 : Old Z n0 h0) (f0 : Arv Z h0 a1 kd .byte (34 : Int32) (bl bs ++ tl) (.int (0 : Int32))) (hcap : bs.length + tl.length = 34) :
    Meets l (⟨"java/util/Arrays", "copyOfRangeByte", "([BII)[B"⟩ : MethodName) jdk_65_method_133_code 5 (some (.array .byte)) ws ({ frames := 1, cells := 1, slots := 34, locals := 18 } : Room) ({ frames := 1, cells := 1, slots := 34, locals := 18 } : Room).cells ({ frames := 1, cells := 1, slots := 34, locals := 18 } : Room).slots Z #[(.ref a1), (.int (0 : Int32)), (.int (Int32.ofNat bs.length))] h0 n0 (Q3134 Z a1 kd bs tl h0 n0) := by
  refine Meets.of (F := fun m => mkF m 0 #[.val (.ref a1), .val (.int (0 : Int32)), .val (.int (Int32.ofNat bs.length)), .unset, .unset] []) (plainFor_of_name pn_4) (fun m => ef_3134 m a1 bs) ?_
  intro p e s m below meth c T0 hx hby hml hown0 hnm hret hlk hZ X0 e0
  have hown : s.vm.findClass "java/util/Arrays" = some m.cls := hown0
  have N0 := Fr.nil n0
  have KC0 := Keep.refl h0 []
  show Goes _ _ _ _ _ _ (T0.setTop (mkF m 0 #[.val (.ref a1), .val (.int (0 : Int32)), .val (.int (Int32.ofNat bs.length)), .unset, .unset] []))
  refine own_iloadN X0 hx (hb hby d31_0) rfl ?_
  refine own_iloadN X0 hx (hb hby d31_1) rfl ?_
  refine own_callS X0 hx hZ hown (y := (⟨"java/util/Arrays", "checkLength", "(II)V"⟩ : MethodName)) (own_w hw 160 rfl) (own_w hw 161 rfl) (own_w hw 155 rfl) (own_w hw 162 rfl) (by decide) (W := 0) (by decide) (by decide) N0 e0 (by rw [hml]; rfl) (argsL := [(.int (0 : Int32)), (.int (Int32.ofNat bs.length))]) (rest := []) (lenOf pd_14 rfl) (Nat.le_of_eq rfl) (by decide) (by decide) (rm32 l Z a0 hw [] (Int32.ofNat bs.length) h0 n0 O0 (own_nneg (by omega))) rfl (hb hby d31_2) ?_
  intro v1 T1 lc1 X1 N1 hQ1
  obtain ⟨rfl, e1⟩ := hQ1
  refine own_iloadN X1 hx (hb hby d31_5) rfl ?_
  refine own_iloadN X1 hx (hb hby d31_6) rfl ?_
  refine own_isub X1 hx (hb hby d31_7) ?_
  show Goes _ _ _ _ _ _ (T1.setTop (mkF m 8 #[.val (.ref a1), .val (.int (0 : Int32)), .val (.int (Int32.ofNat bs.length)), .unset, .unset] [(.int ((Int32.ofNat bs.length) - (0 : Int32)))]))
  rw [own_sub0]
  refine own_istoreN X1 hx (Ls' := #[.val (.ref a1), .val (.int (0 : Int32)), .val (.int (Int32.ofNat bs.length)), .val (.int (Int32.ofNat bs.length)), .unset]) (hb hby d31_8) rfl ?_
  refine own_iloadN X1 hx (hb hby d31_9) rfl ?_
  refine own_newP X1 hx hZ (own_w hw 19 rfl) e1 (hb hby d31_10) (own_nneg (by omega)) (cap := 34) (by rw [own_clamp (by omega)]; omega) (by decide) (by decide) (by decide) (fun T2 h2 b2 k2 g2 X2 e2 E2 A2 => ?_)
  have ge_b2 : n0 ≤ b2 := Nat.le_trans (own_sz O0) (Nat.le_of_eq g2.symm)
  have sz_b2 : h0.size ≤ b2 := Nat.le_trans KC0.1 (Nat.le_of_eq g2.symm)
  have A3_a1 := f0.ext E2
  have O3 := O0.ext E2
  have KC3 := KC0.ext E2
  refine own_astore X2 hx (Ls' := #[.val (.ref a1), .val (.int (0 : Int32)), .val (.int (Int32.ofNat bs.length)), .val (.int (Int32.ofNat bs.length)), .val (.ref b2)]) (hb hby d31_12) rfl rfl ?_
  refine own_aloadN X2 hx (hb hby d31_14) rfl rfl ?_
  refine own_iloadN X2 hx (hb hby d31_15) rfl ?_
  refine own_aload X2 hx (hb hby d31_16) rfl rfl ?_
  refine own_iconst X2 hx (v := (0 : Int32)) (hb hby d31_18) rfl ?_
  show Goes _ _ _ _ _ _ (T2.setTop (mkF m 19 #[.val (.ref a1), .val (.int (0 : Int32)), .val (.int (Int32.ofNat bs.length)), .val (.int (Int32.ofNat bs.length)), .val (.ref b2)] [(.int (0 : Int32)), (.ref b2), (.int (0 : Int32)), (.ref a1)]))
  refine own_aloadN X2 hx (hb hby d31_19) rfl rfl ?_
  refine own_alen X2 hx hZ e2 A3_a1 (hb hby d31_20) ?_
  refine own_iloadN X2 hx (hb hby d31_21) rfl ?_
  refine own_isub X2 hx (hb hby d31_22) ?_
  show Goes _ _ _ _ _ _ (T2.setTop (mkF m 23 #[.val (.ref a1), .val (.int (0 : Int32)), .val (.int (Int32.ofNat bs.length)), .val (.int (Int32.ofNat bs.length)), .val (.ref b2)] [(.int ((34 : Int32) - (0 : Int32))), (.int (0 : Int32)), (.ref b2), (.int (0 : Int32)), (.ref a1)]))
  rw [show ((34 : Int32) - (0 : Int32)) = (34 : Int32) by decide]
  refine own_iloadN X2 hx (hb hby d31_23) rfl ?_
  refine own_callS X2 hx hZ hown (y := (⟨"java/lang/Math", "min", "(II)I"⟩ : MethodName)) (own_w hw 163 rfl) (own_w hw 164 rfl) (own_w hw 165 rfl) (own_w hw 166 rfl) (by decide) (W := 4) (by decide) (by decide) N1 e2 (by rw [hml]; rfl) (argsL := [(.int (34 : Int32)), (.int (Int32.ofNat bs.length))]) (rest := [(.int (0 : Int32)), (.ref b2), (.int (0 : Int32)), (.ref a1)]) (lenOf pd_2 rfl) (Nat.le_of_eq rfl) (by decide) (by decide) (rm33r l Z a0 hw [] (34 : Int32) (Int32.ofNat bs.length) h2 n0 O3 (own_capr34 (by omega))) rfl (hb hby d31_24) ?_
  intro v4 T4 lc4 X4 N4 hQ4
  obtain ⟨rfl, e4⟩ := hQ4
  show Goes _ _ _ _ _ _ (T4.setTop (mkF m 27 #[.val (.ref a1), .val (.int (0 : Int32)), .val (.int (Int32.ofNat bs.length)), .val (.int (Int32.ofNat bs.length)), .val (.ref b2)] [(.int (Int32.ofNat bs.length)), (.int (0 : Int32)), (.ref b2), (.int (0 : Int32)), (.ref a1)]))
  refine own_cpR X4 hx hZ hown (own_w hw 167 rfl) (own_w hw 98 rfl) (own_w hw 96 rfl) (own_w hw 97 rfl) e4 A3_a1 A2 (by rw [hcap]; decide) (by omega) N4 ge_b2 (by rw [hml]; rfl) (hb hby d31_27) (by decide) (W := 0) (Nat.le_of_eq rfl) (by decide) (fun T5 h5 lc5 X5 e5 N5 K5 V5 => ?_)
  have O6 := O3.keep K5 (allS ge_b2 all0)
  have KC6 := KC3.trans K5 (allS (Or.inr sz_b2) all0)
  refine own_aload X5 hx (hb hby d31_30) rfl rfl ?_
  show Goes _ _ _ _ _ _ (T5.setTop (mkF m 32 #[.val (.ref a1), .val (.int (0 : Int32)), .val (.int (Int32.ofNat bs.length)), .val (.int (Int32.ofNat bs.length)), .val (.ref b2)] [(.ref b2)]))
  exact own_retR X5 hx N5 hlk (by decide) (by decide) hret rfl rfl rfl (hb hby d31_32) (by rw [e5]; exact ⟨b2, k2, rfl, KC6, sz_b2, V5⟩)
def Q3034c (Z : State) (a1 : Addr) (kd : ClassId) (bs : List Int32) (tl : List Value) (h0 : Heap) (n0 : Nat) (v : Option Value) (h : Heap) : Prop :=
  (∃ (an : Addr) (kn : ClassId), v = some (.ref an) ∧ Keep h0 h [] ∧ h0.size ≤ an ∧ Arv Z h an kn .byte (Int32.ofNat bs.length) (bl bs) (.int (0 : Int32)))
theorem ef_3034c (m : MethodId) (a1 : Addr) (bs : List Int32) : entryFrame m #[(.ref a1), (.int (0 : Int32)), (.int (Int32.ofNat bs.length))] 3 = mkF m 0 #[.val (.ref a1), .val (.int (0 : Int32)), .val (.int (Int32.ofNat bs.length))] [] := by first | (simp [entryFrame, mkF, argsToLocals, Value.category]; done) | rfl
set_option maxRecDepth 65536 in
set_option maxHeartbeats 40000000 in
theorem rm3034c (l : Launch) (Z : State) (a0 : Array Value) (hw : ∀ d ∈ tables_1, d.before a0 Z = true) (ws : List Jvm.Cond) (a1 : Addr) (kd : ClassId) (bs : List Int32) (tl : List Value) (h0 : Heap) (n0 : Nat) (O0 : Old Z n0 h0) (f0 : Arv Z h0 a1 kd .byte (34 : Int32) (bl bs ++ tl) (.int (0 : Int32))) (hcap : bs.length + tl.length = 34) (hlt : bs.length < 34) :
    Meets l (⟨"java/util/Arrays", "copyOfRange", "([BII)[B"⟩ : MethodName) jdk_65_method_132_code 3 (some (.array .byte)) ws ({ frames := 2, cells := 1, slots := 34, locals := 34 } : Room) ({ frames := 2, cells := 1, slots := 34, locals := 34 } : Room).cells ({ frames := 2, cells := 1, slots := 34, locals := 34 } : Room).slots Z #[(.ref a1), (.int (0 : Int32)), (.int (Int32.ofNat bs.length))] h0 n0 (Q3034c Z a1 kd bs tl h0 n0) := by
  refine Meets.of (F := fun m => mkF m 0 #[.val (.ref a1), .val (.int (0 : Int32)), .val (.int (Int32.ofNat bs.length))] []) (plainFor_of_name pn_4) (fun m => ef_3034c m a1 bs) ?_
  intro p e s m below meth c T0 hx hby hml hown0 hnm hret hlk hZ X0 e0
  have hown : s.vm.findClass "java/util/Arrays" = some m.cls := hown0
  have N0 := Fr.nil n0
  have KC0 := Keep.refl h0 []
  show Goes _ _ _ _ _ _ (T0.setTop (mkF m 0 #[.val (.ref a1), .val (.int (0 : Int32)), .val (.int (Int32.ofNat bs.length))] []))
  refine own_iloadN X0 hx (hb hby d30_0) rfl ?_
  refine own_ifNo X0 hx (hb hby d30_1) ((if0 _ _).trans (teq (by decide : (0 : Int32) = (0 : Int32))).2) ?_
  refine own_iloadN X0 hx (hb hby d30_4) rfl ?_
  refine own_aloadN X0 hx (hb hby d30_5) rfl rfl ?_
  refine own_alen X0 hx hZ e0 f0 (hb hby d30_6) ?_
  refine own_icmpNo X0 hx (hb hby d30_7) (feq ((own_neq34 hlt) : ¬ ((Int32.ofNat bs.length) = (34 : Int32)))).1 ?_
  refine own_aloadN X0 hx (hb hby d30_10) rfl rfl ?_
  refine own_iloadN X0 hx (hb hby d30_11) rfl ?_
  refine own_iloadN X0 hx (hb hby d30_12) rfl ?_
  refine own_callS X0 hx hZ hown (y := (⟨"java/util/Arrays", "copyOfRangeByte", "([BII)[B"⟩ : MethodName)) (own_w hw 157 rfl) (own_w hw 158 rfl) (own_w hw 155 rfl) (own_w hw 159 rfl) (by decide) (W := 0) (by decide) (by decide) N0 e0 (by rw [hml]; rfl) (argsL := [(.ref a1), (.int (0 : Int32)), (.int (Int32.ofNat bs.length))]) (rest := []) (lenOf pd_15 rfl) (Nat.le_of_eq rfl) (by decide) (by decide) (rm3134 l Z a0 hw [] a1 kd bs tl h0 n0 O0 f0 hcap) rfl (hb hby d30_13) ?_
  intro v1 T1 lc1 X1 N1 hQ1
  obtain ⟨an_1, kn_1, rfl, K1, r1_0, r1_1⟩ := hQ1
  have O2 := O0.keep K1 all0
  have KC2 := KC0.trans K1 all0
  have ge_an_1 : n0 ≤ an_1 := Nat.le_trans (own_sz O0) r1_0
  have sz_an_1 : h0.size ≤ an_1 := Nat.le_trans KC0.1 r1_0
  show Goes _ _ _ _ _ _ (T1.setTop (mkF m 16 #[.val (.ref a1), .val (.int (0 : Int32)), .val (.int (Int32.ofNat bs.length))] [(.ref an_1)]))
  exact own_retR X1 hx N1 hlk (by decide) (by decide) hret rfl rfl rfl (hb hby d30_16) (⟨an_1, kn_1, rfl, KC2, sz_an_1, r1_1⟩)
theorem d30_17 : decode jdk_65_method_132_code 17 = .ok (.aload_n 0, 1) := by decide +kernel
theorem d30_18 : decode jdk_65_method_132_code 18 = .ok (.invokevirtual 310, 3) := by decide +kernel
theorem d30_21 : decode jdk_65_method_132_code 21 = .ok (.checkcast 311, 3) := by decide +kernel
theorem d30_24 : decode jdk_65_method_132_code 24 = .ok (.areturn, 1) := by decide +kernel
def Q3016f (Z : State) (a1 : Addr) (kd : ClassId) (bs : List Int32) (tl : List Value) (h0 : Heap) (n0 : Nat) (v : Option Value) (h : Heap) : Prop :=
  (∃ (an : Addr) (kn : ClassId), v = some (.ref an) ∧ Keep h0 h [] ∧ h0.size ≤ an ∧ Arv Z h an kn .byte (Int32.ofNat bs.length) (bl bs) (.int (0 : Int32)))
theorem ef_3016f (m : MethodId) (a1 : Addr) (bs : List Int32) : entryFrame m #[(.ref a1), (.int (0 : Int32)), (.int (Int32.ofNat bs.length))] 3 = mkF m 0 #[.val (.ref a1), .val (.int (0 : Int32)), .val (.int (Int32.ofNat bs.length))] [] := by first | (simp [entryFrame, mkF, argsToLocals, Value.category]; done) | rfl
set_option maxRecDepth 65536 in
set_option maxHeartbeats 40000000 in
theorem rm3016f (l : Launch) (Z : State) (a0 : Array Value) (hw : ∀ d ∈ tables_1, d.before a0 Z = true) (ws : List Jvm.Cond) (a1 : Addr) (kd : ClassId) (bs : List Int32) (tl : List Value) (h0 : Heap) (n0 : Nat) (O0 : Old Z n0 h0) (f0 : Exa Z h0 a1 "[B") (f1 : Arv Z h0 a1 kd .byte (16 : Int32) (bl bs ++ tl) (.int (0 : Int32))) (hcap : bs.length + tl.length = 16) (hful : bs.length = 16) :
    Meets l (⟨"java/util/Arrays", "copyOfRange", "([BII)[B"⟩ : MethodName) jdk_65_method_132_code 3 (some (.array .byte)) ws ({ frames := 1, cells := 1, slots := 16, locals := 14 } : Room) ({ frames := 1, cells := 1, slots := 16, locals := 14 } : Room).cells ({ frames := 1, cells := 1, slots := 16, locals := 14 } : Room).slots Z #[(.ref a1), (.int (0 : Int32)), (.int (Int32.ofNat bs.length))] h0 n0 (Q3016f Z a1 kd bs tl h0 n0) := by
  refine Meets.of (F := fun m => mkF m 0 #[.val (.ref a1), .val (.int (0 : Int32)), .val (.int (Int32.ofNat bs.length))] []) (plainFor_of_name pn_4) (fun m => ef_3016f m a1 bs) ?_
  intro p e s m below meth c T0 hx hby hml hown0 hnm hret hlk hZ X0 e0
  have hown : s.vm.findClass "java/util/Arrays" = some m.cls := hown0
  have N0 := Fr.nil n0
  have KC0 := Keep.refl h0 []
  show Goes _ _ _ _ _ _ (T0.setTop (mkF m 0 #[.val (.ref a1), .val (.int (0 : Int32)), .val (.int (Int32.ofNat bs.length))] []))
  refine own_iloadN X0 hx (hb hby d30_0) rfl ?_
  refine own_ifNo X0 hx (hb hby d30_1) ((if0 _ _).trans (teq (by decide : (0 : Int32) = (0 : Int32))).2) ?_
  refine own_iloadN X0 hx (hb hby d30_4) rfl ?_
  refine own_aloadN X0 hx (hb hby d30_5) rfl rfl ?_
  refine own_alen X0 hx hZ e0 f1 (hb hby d30_6) ?_
  refine own_icmpYes X0 hx (pc' := 17) (hb hby d30_7) (teq ((by rw [hful]; decide) : (Int32.ofNat bs.length) = (16 : Int32))).1 (by decide) (by decide) ?_
  refine own_aloadN X0 hx (hb hby d30_17) rfl rfl ?_
  refine own_clone X0 hx hZ hown (own_w hw 236 rfl) (own_w hw 237 rfl) (own_w hw 241 rfl) (own_w hw 239 rfl) (own_w hw 240 rfl) (own_w hw 242 rfl) e0 f1 f0 (by rw [hml]; rfl) (hb hby d30_18) (by decide) (W := 0) (cap := 16) (Nat.le_of_eq rfl) (by decide) (by decide) (by decide) (by decide) (fun T1 h1 b1 g1 X1 e1 E1 V1 A1 => ?_)
  have ge_b1 : n0 ≤ b1 := Nat.le_trans (own_sz O0) (Nat.le_of_eq g1.symm)
  have sz_b1 : h0.size ≤ b1 := Nat.le_trans KC0.1 (Nat.le_of_eq g1.symm)
  have O2 := O0.ext E1
  have KC2 := KC0.ext E1
  refine own_castY X1 hx hZ hown (own_w hw 243 rfl) e1 (Ins.self A1) (hb hby d30_21) (fun T3 X3 e3 => ?_)
  show Goes _ _ _ _ _ _ (T3.setTop (mkF m 24 #[.val (.ref a1), .val (.int (0 : Int32)), .val (.int (Int32.ofNat bs.length))] [(.ref b1)]))
  exact own_retR X3 hx N0 hlk (by decide) (by decide) hret rfl rfl rfl (hb hby d30_24) (by rw [e3]; exact ⟨b1, kd, rfl, KC2, sz_b1, (own_full V1 hcap hful)⟩)
theorem d26_0 : decode jdk_42_method_150_code 0 = .ok (.aload_n 0, 1) := by decide +kernel
theorem d26_1 : decode jdk_42_method_150_code 1 = .ok (.invokespecial 1, 3) := by decide +kernel
theorem d26_4 : decode jdk_42_method_150_code 4 = .ok (.aload_n 1, 1) := by decide +kernel
theorem d26_5 : decode jdk_42_method_150_code 5 = .ok (.invokevirtual 552, 3) := by decide +kernel
theorem pd_16 : parseMethodDescriptor "()[B" = some ⟨[], some (.array .byte)⟩ := by decide +kernel
theorem d26_8 : decode jdk_42_method_150_code 8 = .ok (.astore_n 3, 1) := by decide +kernel
theorem d26_9 : decode jdk_42_method_150_code 9 = .ok (.aload_n 1, 1) := by decide +kernel
theorem d26_10 : decode jdk_42_method_150_code 10 = .ok (.invokevirtual 549, 3) := by decide +kernel
theorem d26_13 : decode jdk_42_method_150_code 13 = .ok (.istore 4, 2) := by decide +kernel
theorem d26_15 : decode jdk_42_method_150_code 15 = .ok (.aload_n 1, 1) := by decide +kernel
theorem d26_16 : decode jdk_42_method_150_code 16 = .ok (.invokevirtual 1047, 3) := by decide +kernel
theorem d26_19 : decode jdk_42_method_150_code 19 = .ok (.ifCond .eq 22, 3) := by decide +kernel
theorem d26_22 : decode jdk_42_method_150_code 22 = .ok (.aload_n 0, 1) := by decide +kernel
theorem d26_23 : decode jdk_42_method_150_code 23 = .ok (.iconst 0, 1) := by decide +kernel
theorem d26_24 : decode jdk_42_method_150_code 24 = .ok (.putfield 15, 3) := by decide +kernel
theorem d26_27 : decode jdk_42_method_150_code 27 = .ok (.aload_n 0, 1) := by decide +kernel
theorem d26_28 : decode jdk_42_method_150_code 28 = .ok (.aload_n 3, 1) := by decide +kernel
theorem d26_29 : decode jdk_42_method_150_code 29 = .ok (.iconst 0, 1) := by decide +kernel
theorem d26_30 : decode jdk_42_method_150_code 30 = .ok (.iload 4, 2) := by decide +kernel
theorem d26_32 : decode jdk_42_method_150_code 32 = .ok (.invokestatic 54, 3) := by decide +kernel
theorem d26_35 : decode jdk_42_method_150_code 35 = .ok (.putfield 9, 3) := by decide +kernel
theorem d26_38 : decode jdk_42_method_150_code 38 = .ok (.goto 59, 3) := by decide +kernel
theorem d26_97 : decode jdk_42_method_150_code 97 = .ok (.return_, 1) := by decide +kernel
def Q2616c (Z : State) (a1 : Addr) (a2 : Addr) (u1 : Value) (u2 : Value) (a : Addr) (kd : ClassId) (bs : List Int32) (tl : List Value) (w_DigitOnes : Addr) (w_DigitTens : Addr) (zc : Int32) (fm : Value) (k_ones : ClassId) (k_tens : ClassId) (h0 : Heap) (n0 : Nat) (v : Option Value) (h : Heap) : Prop :=
  (∃ (an : Addr) (kn : ClassId), v = none ∧ Keep h0 h [a1] ∧ Fld Z h a1 "java/lang/String" "value" "[B" (.ref an) ∧ Fld Z h a1 "java/lang/String" "coder" "B" (.int (0 : Int32)) ∧ h0.size ≤ an ∧ Arv Z h an kn .byte (Int32.ofNat bs.length) (bl bs) (.int (0 : Int32)))
theorem ef_2616c (m : MethodId) (a1 : Addr) (a2 : Addr) : entryFrame m #[(.ref a1), (.ref a2), .null] 5 = mkF m 0 #[.val (.ref a1), .val (.ref a2), .val .null, .unset, .unset] [] := by first | (simp [entryFrame, mkF, argsToLocals, Value.category]; done) | rfl
set_option maxRecDepth 65536 in
set_option maxHeartbeats 40000000 in
theorem rm2616c (l : Launch) (Z : State) (a0 : Array Value) (hw : ∀ d ∈ tables_1, d.before a0 Z = true) (ws : List Jvm.Cond) (a1 : Addr) (a2 : Addr) (u1 : Value) (u2 : Value) (a : Addr) (kd : ClassId) (bs : List Int32) (tl : List Value) (w_DigitOnes : Addr) (w_DigitTens : Addr) (zc : Int32) (fm : Value) (k_ones : ClassId) (k_tens : ClassId) (h0 : Heap) (n0 : Nat) (O0 : Old Z n0 h0) (SF : Start Z w_DigitOnes w_DigitTens zc fm k_ones k_tens) (f0 : Exa Z h0 a1 "java/lang/String") (f1 : Fld Z h0 a1 "java/lang/String" "value" "[B" u1) (f2 : Fld Z h0 a1 "java/lang/String" "coder" "B" u2) (f3 : n0 ≤ a1) (f4 : Exa Z h0 a2 "java/lang/StringBuilder") (f5 : Fld Z h0 a2 "java/lang/AbstractStringBuilder" "value" "[B" (.ref a)) (f6 : Fld Z h0 a2 "java/lang/AbstractStringBuilder" "coder" "B" (.int (0 : Int32))) (f7 : Fld Z h0 a2 "java/lang/AbstractStringBuilder" "count" "I" (.int (Int32.ofNat bs.length))) (f8 : Arv Z h0 a kd .byte (16 : Int32) (bl bs ++ tl) (.int (0 : Int32))) (f9 : Exa Z h0 a "[B") (f10 : n0 ≤ a2) (f11 : n0 ≤ a) (hcap : bs.length + tl.length = 16) (hlt : bs.length < 16) :
    Meets l (⟨"java/lang/String", "<init>", "(Ljava/lang/AbstractStringBuilder;Ljava/lang/Void;)V"⟩ : MethodName) jdk_42_method_150_code 5 none ws ({ frames := 3, cells := 1, slots := 16, locals := 49 } : Room) ({ frames := 3, cells := 1, slots := 16, locals := 49 } : Room).cells ({ frames := 3, cells := 1, slots := 16, locals := 49 } : Room).slots Z #[(.ref a1), (.ref a2), .null] h0 n0 (Q2616c Z a1 a2 u1 u2 a kd bs tl w_DigitOnes w_DigitTens zc fm k_ones k_tens h0 n0) := by
  refine Meets.of (F := fun m => mkF m 0 #[.val (.ref a1), .val (.ref a2), .val .null, .unset, .unset] []) (plainFor_of_name pn_0) (fun m => ef_2616c m a1 a2) ?_
  intro p e s m below meth c T0 hx hby hml hown0 hnm hret hlk hZ X0 e0
  have hown : s.vm.findClass "java/lang/String" = some m.cls := hown0
  have N0 := Fr.nil n0
  have KC0 := Keep.refl h0 [a1]
  obtain ⟨z0, z1, z2, z3, z4, z5, z6, hzc, z8, hfm, -⟩ := SF
  show Goes _ _ _ _ _ _ (T0.setTop (mkF m 0 #[.val (.ref a1), .val (.ref a2), .val .null, .unset, .unset] []))
  refine own_aloadN X0 hx (hb hby d26_0) rfl rfl ?_
  refine own_initO X0 hx hZ hown (own_w hw 11 rfl) (own_w hw 12 rfl) (own_w hw 13 rfl) e0 (by rw [hml]; rfl) (hb hby d26_1) (by decide) (W := 0) (Nat.le_of_eq rfl) (by decide) (fun T1 X1 e1 => ?_)
  refine own_aloadN X1 hx (hb hby d26_4) rfl rfl ?_
  refine own_virtual X1 hx hZ hown (y := (⟨"java/lang/AbstractStringBuilder", "getValue", "()[B"⟩ : MethodName)) (z := (⟨"java/lang/AbstractStringBuilder", "getValue", "()[B"⟩ : MethodName)) (own_w hw 139 rfl) (own_w hw 140 rfl) (notFace_of_selects (args := #[]) (mvT hZ (own_w hw 142 rfl))) (own_w hw 142 rfl) (own_w hw 141 rfl) (own_w hw 44 rfl) (own_w hw 143 rfl) (a := a2) f4 (by decide) (W := 0) (by decide) (by decide) N0 e1 (by rw [hml]; rfl) (argsL := []) (rest := []) (lenOf pd_16 rfl) (Nat.le_of_eq rfl) (by decide) (by decide) (rm27 l Z a0 hw [] a2 a h0 n0 O0 f5) rfl (hb hby d26_5) ?_
  intro v2 T2 lc2 X2 N2 hQ2
  obtain ⟨rfl, e2⟩ := hQ2
  refine own_astoreN X2 hx (Ls' := #[.val (.ref a1), .val (.ref a2), .val .null, .val (.ref a), .unset]) (hb hby d26_8) rfl rfl ?_
  refine own_aloadN X2 hx (hb hby d26_9) rfl rfl ?_
  refine own_virtual X2 hx hZ hown (y := (⟨"java/lang/AbstractStringBuilder", "length", "()I"⟩ : MethodName)) (z := (⟨"java/lang/StringBuilder", "length", "()I"⟩ : MethodName)) (own_w hw 144 rfl) (own_w hw 145 rfl) (own_nfOf (args := #[]) (mvT hZ (own_w hw 121 rfl)) rfl) (own_w hw 147 rfl) (own_w hw 148 rfl) (own_w hw 36 rfl) (own_w hw 149 rfl) (a := a2) f4 (by decide) (W := 0) (by decide) (by decide) N2 e2 (by rw [hml]; rfl) (argsL := []) (rest := []) (lenOf pd_8 rfl) (Nat.le_of_eq rfl) (by decide) (by decide) (rm28 l Z a0 hw [] a2 (Int32.ofNat bs.length) h0 n0 O0 f4 f7) rfl (hb hby d26_10) ?_
  intro v3 T3 lc3 X3 N3 hQ3
  obtain ⟨rfl, e3⟩ := hQ3
  refine own_istore X3 hx (Ls' := #[.val (.ref a1), .val (.ref a2), .val .null, .val (.ref a), .val (.int (Int32.ofNat bs.length))]) (hb hby d26_13) rfl ?_
  refine own_aloadN X3 hx (hb hby d26_15) rfl rfl ?_
  refine own_virtual X3 hx hZ hown (y := (⟨"java/lang/AbstractStringBuilder", "isLatin1", "()Z"⟩ : MethodName)) (z := (⟨"java/lang/AbstractStringBuilder", "isLatin1", "()Z"⟩ : MethodName)) (own_w hw 152 rfl) (own_w hw 119 rfl) (notFace_of_selects (args := #[]) (mvT hZ (own_w hw 121 rfl))) (own_w hw 121 rfl) (own_w hw 120 rfl) (own_w hw 44 rfl) (own_w hw 122 rfl) (a := a2) f4 (by decide) (W := 0) (by decide) (by decide) N3 e3 (by rw [hml]; rfl) (argsL := []) (rest := []) (lenOf pd_11 rfl) (Nat.le_of_eq rfl) (by decide) (by decide) (rm22 l Z a0 hw [] a2 w_DigitOnes w_DigitTens zc fm k_ones k_tens h0 n0 O0 ⟨z0, z1, z2, z3, z4, z5, z6, hzc, z8, hfm, trivial⟩ f6) rfl (hb hby d26_16) ?_
  intro v4 T4 lc4 X4 N4 hQ4
  obtain ⟨rfl, e4⟩ := hQ4
  refine own_ifNo X4 hx (hb hby d26_19) ((if0 _ _).trans (feq (by decide : ¬ ((1 : Int32) = (0 : Int32)))).1) ?_
  refine own_aloadN X4 hx (hb hby d26_22) rfl rfl ?_
  refine own_iconst X4 hx (v := (0 : Int32)) (hb hby d26_23) rfl ?_
  refine own_putF X4 hx hZ hown N4 (host := "") (Or.inl (own_w hw 26 rfl)) Via.refl e4 f2 f0 (Or.inr ⟨(own_w hw 27 rfl), rfl, hnm⟩) (own_w hw 1 rfl) (ty := .byte) (by decide) rfl rfl f3 (hb hby d26_24) (fun T5 h5 lc5 X5 e5 N5 W5 => ?_)
  have E6_a1 := f0.wr W5
  have F6_value_a1 := f1.other W5 (Or.inr (slot_ne (Or.inr (own_w hw 29 rfl)) (Or.inr (own_w hw 27 rfl)) (by decide) (t := (.array .byte)) (t' := .byte) (by decide) (by decide)))
  have F6_coder_a1 := f2.same W5
  have A6_a := f8.other W5 (ne_exa f9 f0 (by decide))
  have O6 := O0.wr W5 f3
  have KC6 := KC0.wr W5 (Or.inl (List.mem_of_getElem? (i := 0) rfl))
  refine own_aloadN X5 hx (hb hby d26_27) rfl rfl ?_
  refine own_aloadN X5 hx (hb hby d26_28) rfl rfl ?_
  refine own_iconst X5 hx (v := (0 : Int32)) (hb hby d26_29) rfl ?_
  refine own_iload X5 hx (hb hby d26_30) rfl ?_
  refine own_callS X5 hx hZ hown (y := (⟨"java/util/Arrays", "copyOfRange", "([BII)[B"⟩ : MethodName)) (own_w hw 153 rfl) (own_w hw 154 rfl) (own_w hw 155 rfl) (own_w hw 156 rfl) (by decide) (W := 1) (by decide) (by decide) N5 e5 (by rw [hml]; rfl) (argsL := [(.ref a), (.int (0 : Int32)), (.int (Int32.ofNat bs.length))]) (rest := [(.ref a1)]) (lenOf pd_15 rfl) (Nat.le_of_eq rfl) (by decide) (by decide) (rm3016c l Z a0 hw [] a kd bs tl h5 n0 O6 A6_a hcap hlt) rfl (hb hby d26_32) ?_
  intro v7 T7 lc7 X7 N7 hQ7
  obtain ⟨an_7, kn_7, rfl, K7, r7_0, r7_1⟩ := hQ7
  have E8_a1 := E6_a1.keep K7
  have F8_value_a1 := F6_value_a1.keep K7 nin0
  have F8_coder_a1 := F6_coder_a1.keep K7 nin0
  have O8 := O6.keep K7 all0
  have KC8 := KC6.trans K7 all0
  have ne_a1_an_7 : a1 ≠ an_7 := Nat.ne_of_lt (Nat.lt_of_lt_of_le E6_a1.lt r7_0)
  have ge_an_7 : n0 ≤ an_7 := Nat.le_trans (own_sz O6) r7_0
  have sz_an_7 : h0.size ≤ an_7 := Nat.le_trans KC6.1 r7_0
  refine own_putF X7 hx hZ hown N7 (host := "") (Or.inl (own_w hw 28 rfl)) Via.refl rfl F8_value_a1 E8_a1 (Or.inr ⟨(own_w hw 29 rfl), rfl, hnm⟩) (own_w hw 1 rfl) (ty := (.array .byte)) (by decide) rfl rfl f3 (hb hby d26_35) (fun T9 h9 lc9 X9 e9 N9 W9 => ?_)
  have F10_value_a1 := F8_value_a1.same W9
  have F10_coder_a1 := F8_coder_a1.other W9 (Or.inr (slot_ne (Or.inr (own_w hw 27 rfl)) (Or.inr (own_w hw 29 rfl)) (by decide) (t := .byte) (t' := (.array .byte)) (by decide) (by decide)))
  have A10_an_7 := r7_1.other W9 (Ne.symm ne_a1_an_7)
  have O10 := O8.wr W9 f3
  have KC10 := KC8.wr W9 (Or.inl (List.mem_of_getElem? (i := 0) rfl))
  refine own_goto X9 hx (pc' := 97) (hb hby d26_38) (by decide) (by decide) ?_
  show Goes _ _ _ _ _ _ (T9.setTop (mkF m 97 #[.val (.ref a1), .val (.ref a2), .val .null, .val (.ref a), .val (.int (Int32.ofNat bs.length))] []))
  exact own_retV X9 hx N9 hlk (by decide) (by decide) hret (hb hby d26_97) (by rw [e9]; exact ⟨an_7, kn_7, rfl, KC10, F10_value_a1, F10_coder_a1, sz_an_7, A10_an_7⟩)
theorem d25_0 : decode jdk_42_method_53_code 0 = .ok (.aload_n 0, 1) := by decide +kernel
theorem d25_1 : decode jdk_42_method_53_code 1 = .ok (.aload_n 1, 1) := by decide +kernel
theorem d25_2 : decode jdk_42_method_53_code 2 = .ok (.aconst_null, 1) := by decide +kernel
theorem d25_3 : decode jdk_42_method_53_code 3 = .ok (.invokespecial 489, 3) := by decide +kernel
theorem pd_17 : parseMethodDescriptor "(Ljava/lang/AbstractStringBuilder;Ljava/lang/Void;)V" = some ⟨[(.object "java/lang/AbstractStringBuilder"), (.object "java/lang/Void")], none⟩ := by decide +kernel
theorem d25_6 : decode jdk_42_method_53_code 6 = .ok (.return_, 1) := by decide +kernel
def Q2516c (Z : State) (a1 : Addr) (a2 : Addr) (u1 : Value) (u2 : Value) (a : Addr) (kd : ClassId) (bs : List Int32) (tl : List Value) (w_DigitOnes : Addr) (w_DigitTens : Addr) (zc : Int32) (fm : Value) (k_ones : ClassId) (k_tens : ClassId) (h0 : Heap) (n0 : Nat) (v : Option Value) (h : Heap) : Prop :=
  (∃ (an : Addr) (kn : ClassId), v = none ∧ Keep h0 h [a1] ∧ Fld Z h a1 "java/lang/String" "value" "[B" (.ref an) ∧ Fld Z h a1 "java/lang/String" "coder" "B" (.int (0 : Int32)) ∧ h0.size ≤ an ∧ Arv Z h an kn .byte (Int32.ofNat bs.length) (bl bs) (.int (0 : Int32)))
theorem ef_2516c (m : MethodId) (a1 : Addr) (a2 : Addr) : entryFrame m #[(.ref a1), (.ref a2)] 2 = mkF m 0 #[.val (.ref a1), .val (.ref a2)] [] := by first | (simp [entryFrame, mkF, argsToLocals, Value.category]; done) | rfl
set_option maxRecDepth 65536 in
set_option maxHeartbeats 40000000 in
theorem rm2516c (l : Launch) (Z : State) (a0 : Array Value) (hw : ∀ d ∈ tables_1, d.before a0 Z = true) (ws : List Jvm.Cond) (a1 : Addr) (a2 : Addr) (u1 : Value) (u2 : Value) (a : Addr) (kd : ClassId) (bs : List Int32) (tl : List Value) (w_DigitOnes : Addr) (w_DigitTens : Addr) (zc : Int32) (fm : Value) (k_ones : ClassId) (k_tens : ClassId) (h0 : Heap) (n0 : Nat) (O0 : Old Z n0 h0) (SF : Start Z w_DigitOnes w_DigitTens zc fm k_ones k_tens) (f0 : Exa Z h0 a1 "java/lang/String") (f1 : Fld Z h0 a1 "java/lang/String" "value" "[B" u1) (f2 : Fld Z h0 a1 "java/lang/String" "coder" "B" u2) (f3 : n0 ≤ a1) (f4 : Exa Z h0 a2 "java/lang/StringBuilder") (f5 : Fld Z h0 a2 "java/lang/AbstractStringBuilder" "value" "[B" (.ref a)) (f6 : Fld Z h0 a2 "java/lang/AbstractStringBuilder" "coder" "B" (.int (0 : Int32))) (f7 : Fld Z h0 a2 "java/lang/AbstractStringBuilder" "count" "I" (.int (Int32.ofNat bs.length))) (f8 : Arv Z h0 a kd .byte (16 : Int32) (bl bs ++ tl) (.int (0 : Int32))) (f9 : Exa Z h0 a "[B") (f10 : n0 ≤ a2) (f11 : n0 ≤ a) (hcap : bs.length + tl.length = 16) (hlt : bs.length < 16) :
    Meets l (⟨"java/lang/String", "<init>", "(Ljava/lang/StringBuilder;)V"⟩ : MethodName) jdk_42_method_53_code 2 none ws ({ frames := 4, cells := 1, slots := 16, locals := 65 } : Room) ({ frames := 4, cells := 1, slots := 16, locals := 65 } : Room).cells ({ frames := 4, cells := 1, slots := 16, locals := 65 } : Room).slots Z #[(.ref a1), (.ref a2)] h0 n0 (Q2516c Z a1 a2 u1 u2 a kd bs tl w_DigitOnes w_DigitTens zc fm k_ones k_tens h0 n0) := by
  refine Meets.of (F := fun m => mkF m 0 #[.val (.ref a1), .val (.ref a2)] []) (plainFor_of_name pn_0) (fun m => ef_2516c m a1 a2) ?_
  intro p e s m below meth c T0 hx hby hml hown0 hnm hret hlk hZ X0 e0
  have hown : s.vm.findClass "java/lang/String" = some m.cls := hown0
  have N0 := Fr.nil n0
  have KC0 := Keep.refl h0 [a1]
  obtain ⟨z0, z1, z2, z3, z4, z5, z6, hzc, z8, hfm, -⟩ := SF
  show Goes _ _ _ _ _ _ (T0.setTop (mkF m 0 #[.val (.ref a1), .val (.ref a2)] []))
  refine own_aloadN X0 hx (hb hby d25_0) rfl rfl ?_
  refine own_aloadN X0 hx (hb hby d25_1) rfl rfl ?_
  refine own_aconst_null X0 hx (hb hby d25_2) ?_
  refine own_special X0 hx hZ hown (y := (⟨"java/lang/String", "<init>", "(Ljava/lang/AbstractStringBuilder;Ljava/lang/Void;)V"⟩ : MethodName)) rfl (own_w hw 136 rfl) (own_w hw 137 rfl) (own_w hw 2 rfl) (own_w hw 138 rfl) (a := a1) (by decide) (W := 0) (by decide) (by decide) N0 e0 (by rw [hml]; rfl) (argsL := [(.ref a2), .null]) (rest := []) (lenOf pd_17 rfl) (Nat.le_of_eq rfl) (by decide) (by decide) (rm2616c l Z a0 hw [] a1 a2 (u1) (u2) a kd bs tl w_DigitOnes w_DigitTens zc fm k_ones k_tens h0 n0 O0 ⟨z0, z1, z2, z3, z4, z5, z6, hzc, z8, hfm, trivial⟩ f0 f1 f2 f3 f4 f5 f6 f7 f8 f9 f10 f11 hcap hlt) rfl (hb hby d25_3) ?_
  intro v1 T1 lc1 X1 N1 hQ1
  obtain ⟨an_1, kn_1, rfl, K1, r1_0, r1_1, r1_2, r1_3⟩ := hQ1
  have O2 := O0.keep K1 (allS f3 all0)
  have KC2 := KC0.trans K1 (allS (Or.inl (List.mem_of_getElem? (i := 0) rfl)) all0)
  have ge_an_1 : n0 ≤ an_1 := Nat.le_trans (own_sz O0) r1_2
  have sz_an_1 : h0.size ≤ an_1 := Nat.le_trans KC0.1 r1_2
  show Goes _ _ _ _ _ _ (T1.setTop (mkF m 6 #[.val (.ref a1), .val (.ref a2)] []))
  exact own_retV X1 hx N1 hlk (by decide) (by decide) hret (hb hby d25_6) (⟨an_1, kn_1, rfl, KC2, r1_0, r1_1, sz_an_1, r1_3⟩)
theorem d24_0 : decode jdk_67_method_42_code 0 = .ok (.new 18, 3) := by decide +kernel
theorem d24_3 : decode jdk_67_method_42_code 3 = .ok (.dup, 1) := by decide +kernel
theorem d24_4 : decode jdk_67_method_42_code 4 = .ok (.aload_n 0, 1) := by decide +kernel
theorem d24_5 : decode jdk_67_method_42_code 5 = .ok (.invokespecial 137, 3) := by decide +kernel
theorem pd_18 : parseMethodDescriptor "(Ljava/lang/StringBuilder;)V" = some ⟨[(.object "java/lang/StringBuilder")], none⟩ := by decide +kernel
theorem d24_8 : decode jdk_67_method_42_code 8 = .ok (.areturn, 1) := by decide +kernel
def Q2416c (Z : State) (a1 : Addr) (a : Addr) (kd : ClassId) (bs : List Int32) (tl : List Value) (w_DigitOnes : Addr) (w_DigitTens : Addr) (zc : Int32) (fm : Value) (k_ones : ClassId) (k_tens : ClassId) (h0 : Heap) (n0 : Nat) (v : Option Value) (h : Heap) : Prop :=
  (∃ (x : Addr) (an : Addr) (kn : ClassId), v = some (.ref x) ∧ Keep h0 h [] ∧ h0.size ≤ x ∧ h0.size ≤ an ∧ Exa Z h x "java/lang/String" ∧ Fld Z h x "java/lang/String" "value" "[B" (.ref an) ∧ Fld Z h x "java/lang/String" "coder" "B" (.int (0 : Int32)) ∧ Arv Z h an kn .byte (Int32.ofNat bs.length) (bl bs) (.int (0 : Int32)))
theorem ef_2416c (m : MethodId) (a1 : Addr) : entryFrame m #[(.ref a1)] 1 = mkF m 0 #[.val (.ref a1)] [] := by first | (simp [entryFrame, mkF, argsToLocals, Value.category]; done) | rfl
set_option maxRecDepth 65536 in
set_option maxHeartbeats 40000000 in
theorem rm2416c (l : Launch) (Z : State) (a0 : Array Value) (hw : ∀ d ∈ tables_1, d.before a0 Z = true) (ws : List Jvm.Cond) (a1 : Addr) (a : Addr) (kd : ClassId) (bs : List Int32) (tl : List Value) (w_DigitOnes : Addr) (w_DigitTens : Addr) (zc : Int32) (fm : Value) (k_ones : ClassId) (k_tens : ClassId) (h0 : Heap) (n0 : Nat) (O0 : Old Z n0 h0) (SF : Start Z w_DigitOnes w_DigitTens zc fm k_ones k_tens) (f0 : Exa Z h0 a1 "java/lang/StringBuilder") (f1 : Fld Z h0 a1 "java/lang/AbstractStringBuilder" "value" "[B" (.ref a)) (f2 : Fld Z h0 a1 "java/lang/AbstractStringBuilder" "coder" "B" (.int (0 : Int32))) (f3 : Fld Z h0 a1 "java/lang/AbstractStringBuilder" "count" "I" (.int (Int32.ofNat bs.length))) (f4 : Arv Z h0 a kd .byte (16 : Int32) (bl bs ++ tl) (.int (0 : Int32))) (f5 : Exa Z h0 a "[B") (f6 : n0 ≤ a1) (f7 : n0 ≤ a) (hcap : bs.length + tl.length = 16) (hlt : bs.length < 16) :
    Meets l (⟨"java/lang/StringBuilder", "toString", "()Ljava/lang/String;"⟩ : MethodName) jdk_67_method_42_code 1 (some (.object "java/lang/String")) ws ({ frames := 5, cells := 2, slots := 20, locals := 79 } : Room) ({ frames := 5, cells := 2, slots := 20, locals := 79 } : Room).cells ({ frames := 5, cells := 2, slots := 20, locals := 79 } : Room).slots Z #[(.ref a1)] h0 n0 (Q2416c Z a1 a kd bs tl w_DigitOnes w_DigitTens zc fm k_ones k_tens h0 n0) := by
  refine Meets.of (F := fun m => mkF m 0 #[.val (.ref a1)] []) (plainFor_of_name pn_2) (fun m => ef_2416c m a1) ?_
  intro p e s m below meth c T0 hx hby hml hown0 hnm hret hlk hZ X0 e0
  have hown : s.vm.findClass "java/lang/StringBuilder" = some m.cls := hown0
  have N0 := Fr.nil n0
  have KC0 := Keep.refl h0 []
  obtain ⟨z0, z1, z2, z3, z4, z5, z6, hzc, z8, hfm, -⟩ := SF
  show Goes _ _ _ _ _ _ (T0.setTop (mkF m 0 #[.val (.ref a1)] []))
  refine own_new X0 hx hZ hown (own_w hw 132 rfl) (own_w hw 1 rfl) (own_w hw 2 rfl) e0 (hb hby d24_0) (by decide) (by decide) (fun T1 h1 b1 g1 X1 e1 E1 A1 D1 => ?_)
  have ge_b1 : n0 ≤ b1 := Nat.le_trans (own_sz O0) (Nat.le_of_eq g1.symm)
  have sz_b1 : h0.size ≤ b1 := Nat.le_trans KC0.1 (Nat.le_of_eq g1.symm)
  have E2_a1 := f0.ext E1
  have E2_a := f5.ext E1
  have F2_value_a1 := f1.ext E1
  have F2_coder_a1 := f2.ext E1
  have F2_count_a1 := f3.ext E1
  have A2_a := f4.ext E1
  have O2 := O0.ext E1
  have KC2 := KC0.ext E1
  have F1_coder_b1 : Fld Z h1 b1 "java/lang/String" "coder" "B" (.int (0 : Int32)) := D1 (Or.inr (own_w hw 27 rfl)) (ty := .byte) (by decide)
  have F1_value_b1 : Fld Z h1 b1 "java/lang/String" "value" "[B" .null := D1 (Or.inr (own_w hw 29 rfl)) (ty := (.array .byte)) (by decide)
  refine own_dup X1 hx (hb hby d24_3) rfl ?_
  refine own_aloadN X1 hx (hb hby d24_4) rfl rfl ?_
  refine own_special X1 hx hZ hown (y := (⟨"java/lang/String", "<init>", "(Ljava/lang/StringBuilder;)V"⟩ : MethodName)) rfl (own_w hw 133 rfl) (own_w hw 134 rfl) (own_w hw 2 rfl) (own_w hw 135 rfl) (a := b1) (by decide) (W := 1) (by decide) (by decide) N0 e1 (by rw [hml]; rfl) (argsL := [(.ref a1)]) (rest := [(.ref b1)]) (lenOf pd_18 rfl) (Nat.le_of_eq rfl) (by decide) (by decide) (rm2516c l Z a0 hw [] b1 a1 (.null) ((.int (0 : Int32))) a kd bs tl w_DigitOnes w_DigitTens zc fm k_ones k_tens h1 n0 O2 ⟨z0, z1, z2, z3, z4, z5, z6, hzc, z8, hfm, trivial⟩ A1 F1_value_b1 F1_coder_b1 ge_b1 E2_a1 F2_value_a1 F2_coder_a1 F2_count_a1 A2_a E2_a f6 f7 hcap hlt) rfl (hb hby d24_5) ?_
  intro v3 T3 lc3 X3 N3 hQ3
  obtain ⟨an_3, kn_3, rfl, K3, r3_0, r3_1, r3_2, r3_3⟩ := hQ3
  have E4_b1 := A1.keep K3
  have O4 := O2.keep K3 (allS ge_b1 all0)
  have KC4 := KC2.trans K3 (allS (Or.inr sz_b1) all0)
  have ge_an_3 : n0 ≤ an_3 := Nat.le_trans (own_sz O2) r3_2
  have sz_an_3 : h0.size ≤ an_3 := Nat.le_trans KC2.1 r3_2
  show Goes _ _ _ _ _ _ (T3.setTop (mkF m 8 #[.val (.ref a1)] [(.ref b1)]))
  exact own_retR X3 hx N3 hlk (by decide) (by decide) hret rfl rfl rfl (hb hby d24_8) (⟨b1, an_3, kn_3, rfl, KC4, sz_b1, sz_an_3, E4_b1, r3_0, r3_1, r3_3⟩)
def Q2634c (Z : State) (a1 : Addr) (a2 : Addr) (u1 : Value) (u2 : Value) (a : Addr) (kd : ClassId) (bs : List Int32) (tl : List Value) (w_DigitOnes : Addr) (w_DigitTens : Addr) (zc : Int32) (fm : Value) (k_ones : ClassId) (k_tens : ClassId) (h0 : Heap) (n0 : Nat) (v : Option Value) (h : Heap) : Prop :=
  (∃ (an : Addr) (kn : ClassId), v = none ∧ Keep h0 h [a1] ∧ Fld Z h a1 "java/lang/String" "value" "[B" (.ref an) ∧ Fld Z h a1 "java/lang/String" "coder" "B" (.int (0 : Int32)) ∧ h0.size ≤ an ∧ Arv Z h an kn .byte (Int32.ofNat bs.length) (bl bs) (.int (0 : Int32)))
theorem ef_2634c (m : MethodId) (a1 : Addr) (a2 : Addr) : entryFrame m #[(.ref a1), (.ref a2), .null] 5 = mkF m 0 #[.val (.ref a1), .val (.ref a2), .val .null, .unset, .unset] [] := by first | (simp [entryFrame, mkF, argsToLocals, Value.category]; done) | rfl
set_option maxRecDepth 65536 in
set_option maxHeartbeats 40000000 in
theorem rm2634c (l : Launch) (Z : State) (a0 : Array Value) (hw : ∀ d ∈ tables_1, d.before a0 Z = true) (ws : List Jvm.Cond) (a1 : Addr) (a2 : Addr) (u1 : Value) (u2 : Value) (a : Addr) (kd : ClassId) (bs : List Int32) (tl : List Value) (w_DigitOnes : Addr) (w_DigitTens : Addr) (zc : Int32) (fm : Value) (k_ones : ClassId) (k_tens : ClassId) (h0 : Heap) (n0 : Nat) (O0 : Old Z n0 h0) (SF : Start Z w_DigitOnes w_DigitTens zc fm k_ones k_tens) (f0 : Exa Z h0 a1 "java/lang/String") (f1 : Fld Z h0 a1 "java/lang/String" "value" "[B" u1) (f2 : Fld Z h0 a1 "java/lang/String" "coder" "B" u2) (f3 : n0 ≤ a1) (f4 : Exa Z h0 a2 "java/lang/StringBuilder") (f5 : Fld Z h0 a2 "java/lang/AbstractStringBuilder" "value" "[B" (.ref a)) (f6 : Fld Z h0 a2 "java/lang/AbstractStringBuilder" "coder" "B" (.int (0 : Int32))) (f7 : Fld Z h0 a2 "java/lang/AbstractStringBuilder" "count" "I" (.int (Int32.ofNat bs.length))) (f8 : Arv Z h0 a kd .byte (34 : Int32) (bl bs ++ tl) (.int (0 : Int32))) (f9 : n0 ≤ a2) (f10 : n0 ≤ a) (hcap : bs.length + tl.length = 34) (hlt : bs.length < 34) :
    Meets l (⟨"java/lang/String", "<init>", "(Ljava/lang/AbstractStringBuilder;Ljava/lang/Void;)V"⟩ : MethodName) jdk_42_method_150_code 5 none ws ({ frames := 3, cells := 1, slots := 34, locals := 49 } : Room) ({ frames := 3, cells := 1, slots := 34, locals := 49 } : Room).cells ({ frames := 3, cells := 1, slots := 34, locals := 49 } : Room).slots Z #[(.ref a1), (.ref a2), .null] h0 n0 (Q2634c Z a1 a2 u1 u2 a kd bs tl w_DigitOnes w_DigitTens zc fm k_ones k_tens h0 n0) := by
  refine Meets.of (F := fun m => mkF m 0 #[.val (.ref a1), .val (.ref a2), .val .null, .unset, .unset] []) (plainFor_of_name pn_0) (fun m => ef_2634c m a1 a2) ?_
  intro p e s m below meth c T0 hx hby hml hown0 hnm hret hlk hZ X0 e0
  have hown : s.vm.findClass "java/lang/String" = some m.cls := hown0
  have N0 := Fr.nil n0
  have KC0 := Keep.refl h0 [a1]
  obtain ⟨z0, z1, z2, z3, z4, z5, z6, hzc, z8, hfm, -⟩ := SF
  show Goes _ _ _ _ _ _ (T0.setTop (mkF m 0 #[.val (.ref a1), .val (.ref a2), .val .null, .unset, .unset] []))
  refine own_aloadN X0 hx (hb hby d26_0) rfl rfl ?_
  refine own_initO X0 hx hZ hown (own_w hw 11 rfl) (own_w hw 12 rfl) (own_w hw 13 rfl) e0 (by rw [hml]; rfl) (hb hby d26_1) (by decide) (W := 0) (Nat.le_of_eq rfl) (by decide) (fun T1 X1 e1 => ?_)
  refine own_aloadN X1 hx (hb hby d26_4) rfl rfl ?_
  refine own_virtual X1 hx hZ hown (y := (⟨"java/lang/AbstractStringBuilder", "getValue", "()[B"⟩ : MethodName)) (z := (⟨"java/lang/AbstractStringBuilder", "getValue", "()[B"⟩ : MethodName)) (own_w hw 139 rfl) (own_w hw 140 rfl) (notFace_of_selects (args := #[]) (mvT hZ (own_w hw 142 rfl))) (own_w hw 142 rfl) (own_w hw 141 rfl) (own_w hw 44 rfl) (own_w hw 143 rfl) (a := a2) f4 (by decide) (W := 0) (by decide) (by decide) N0 e1 (by rw [hml]; rfl) (argsL := []) (rest := []) (lenOf pd_16 rfl) (Nat.le_of_eq rfl) (by decide) (by decide) (rm27 l Z a0 hw [] a2 a h0 n0 O0 f5) rfl (hb hby d26_5) ?_
  intro v2 T2 lc2 X2 N2 hQ2
  obtain ⟨rfl, e2⟩ := hQ2
  refine own_astoreN X2 hx (Ls' := #[.val (.ref a1), .val (.ref a2), .val .null, .val (.ref a), .unset]) (hb hby d26_8) rfl rfl ?_
  refine own_aloadN X2 hx (hb hby d26_9) rfl rfl ?_
  refine own_virtual X2 hx hZ hown (y := (⟨"java/lang/AbstractStringBuilder", "length", "()I"⟩ : MethodName)) (z := (⟨"java/lang/StringBuilder", "length", "()I"⟩ : MethodName)) (own_w hw 144 rfl) (own_w hw 145 rfl) (own_nfOf (args := #[]) (mvT hZ (own_w hw 121 rfl)) rfl) (own_w hw 147 rfl) (own_w hw 148 rfl) (own_w hw 36 rfl) (own_w hw 149 rfl) (a := a2) f4 (by decide) (W := 0) (by decide) (by decide) N2 e2 (by rw [hml]; rfl) (argsL := []) (rest := []) (lenOf pd_8 rfl) (Nat.le_of_eq rfl) (by decide) (by decide) (rm28 l Z a0 hw [] a2 (Int32.ofNat bs.length) h0 n0 O0 f4 f7) rfl (hb hby d26_10) ?_
  intro v3 T3 lc3 X3 N3 hQ3
  obtain ⟨rfl, e3⟩ := hQ3
  refine own_istore X3 hx (Ls' := #[.val (.ref a1), .val (.ref a2), .val .null, .val (.ref a), .val (.int (Int32.ofNat bs.length))]) (hb hby d26_13) rfl ?_
  refine own_aloadN X3 hx (hb hby d26_15) rfl rfl ?_
  refine own_virtual X3 hx hZ hown (y := (⟨"java/lang/AbstractStringBuilder", "isLatin1", "()Z"⟩ : MethodName)) (z := (⟨"java/lang/AbstractStringBuilder", "isLatin1", "()Z"⟩ : MethodName)) (own_w hw 152 rfl) (own_w hw 119 rfl) (notFace_of_selects (args := #[]) (mvT hZ (own_w hw 121 rfl))) (own_w hw 121 rfl) (own_w hw 120 rfl) (own_w hw 44 rfl) (own_w hw 122 rfl) (a := a2) f4 (by decide) (W := 0) (by decide) (by decide) N3 e3 (by rw [hml]; rfl) (argsL := []) (rest := []) (lenOf pd_11 rfl) (Nat.le_of_eq rfl) (by decide) (by decide) (rm22 l Z a0 hw [] a2 w_DigitOnes w_DigitTens zc fm k_ones k_tens h0 n0 O0 ⟨z0, z1, z2, z3, z4, z5, z6, hzc, z8, hfm, trivial⟩ f6) rfl (hb hby d26_16) ?_
  intro v4 T4 lc4 X4 N4 hQ4
  obtain ⟨rfl, e4⟩ := hQ4
  refine own_ifNo X4 hx (hb hby d26_19) ((if0 _ _).trans (feq (by decide : ¬ ((1 : Int32) = (0 : Int32)))).1) ?_
  refine own_aloadN X4 hx (hb hby d26_22) rfl rfl ?_
  refine own_iconst X4 hx (v := (0 : Int32)) (hb hby d26_23) rfl ?_
  refine own_putF X4 hx hZ hown N4 (host := "") (Or.inl (own_w hw 26 rfl)) Via.refl e4 f2 f0 (Or.inr ⟨(own_w hw 27 rfl), rfl, hnm⟩) (own_w hw 1 rfl) (ty := .byte) (by decide) rfl rfl f3 (hb hby d26_24) (fun T5 h5 lc5 X5 e5 N5 W5 => ?_)
  have E6_a1 := f0.wr W5
  have F6_value_a1 := f1.other W5 (Or.inr (slot_ne (Or.inr (own_w hw 29 rfl)) (Or.inr (own_w hw 27 rfl)) (by decide) (t := (.array .byte)) (t' := .byte) (by decide) (by decide)))
  have F6_coder_a1 := f2.same W5
  have A6_a := f8.other W5 (Ne.symm (Exa.neArv f0 f8 (own_w hw 1 rfl)))
  have O6 := O0.wr W5 f3
  have KC6 := KC0.wr W5 (Or.inl (List.mem_of_getElem? (i := 0) rfl))
  refine own_aloadN X5 hx (hb hby d26_27) rfl rfl ?_
  refine own_aloadN X5 hx (hb hby d26_28) rfl rfl ?_
  refine own_iconst X5 hx (v := (0 : Int32)) (hb hby d26_29) rfl ?_
  refine own_iload X5 hx (hb hby d26_30) rfl ?_
  refine own_callS X5 hx hZ hown (y := (⟨"java/util/Arrays", "copyOfRange", "([BII)[B"⟩ : MethodName)) (own_w hw 153 rfl) (own_w hw 154 rfl) (own_w hw 155 rfl) (own_w hw 156 rfl) (by decide) (W := 1) (by decide) (by decide) N5 e5 (by rw [hml]; rfl) (argsL := [(.ref a), (.int (0 : Int32)), (.int (Int32.ofNat bs.length))]) (rest := [(.ref a1)]) (lenOf pd_15 rfl) (Nat.le_of_eq rfl) (by decide) (by decide) (rm3034c l Z a0 hw [] a kd bs tl h5 n0 O6 A6_a hcap hlt) rfl (hb hby d26_32) ?_
  intro v7 T7 lc7 X7 N7 hQ7
  obtain ⟨an_7, kn_7, rfl, K7, r7_0, r7_1⟩ := hQ7
  have E8_a1 := E6_a1.keep K7
  have F8_value_a1 := F6_value_a1.keep K7 nin0
  have F8_coder_a1 := F6_coder_a1.keep K7 nin0
  have O8 := O6.keep K7 all0
  have KC8 := KC6.trans K7 all0
  have ne_a1_an_7 : a1 ≠ an_7 := Nat.ne_of_lt (Nat.lt_of_lt_of_le E6_a1.lt r7_0)
  have ge_an_7 : n0 ≤ an_7 := Nat.le_trans (own_sz O6) r7_0
  have sz_an_7 : h0.size ≤ an_7 := Nat.le_trans KC6.1 r7_0
  refine own_putF X7 hx hZ hown N7 (host := "") (Or.inl (own_w hw 28 rfl)) Via.refl rfl F8_value_a1 E8_a1 (Or.inr ⟨(own_w hw 29 rfl), rfl, hnm⟩) (own_w hw 1 rfl) (ty := (.array .byte)) (by decide) rfl rfl f3 (hb hby d26_35) (fun T9 h9 lc9 X9 e9 N9 W9 => ?_)
  have F10_value_a1 := F8_value_a1.same W9
  have F10_coder_a1 := F8_coder_a1.other W9 (Or.inr (slot_ne (Or.inr (own_w hw 27 rfl)) (Or.inr (own_w hw 29 rfl)) (by decide) (t := .byte) (t' := (.array .byte)) (by decide) (by decide)))
  have A10_an_7 := r7_1.other W9 (Ne.symm ne_a1_an_7)
  have O10 := O8.wr W9 f3
  have KC10 := KC8.wr W9 (Or.inl (List.mem_of_getElem? (i := 0) rfl))
  refine own_goto X9 hx (pc' := 97) (hb hby d26_38) (by decide) (by decide) ?_
  show Goes _ _ _ _ _ _ (T9.setTop (mkF m 97 #[.val (.ref a1), .val (.ref a2), .val .null, .val (.ref a), .val (.int (Int32.ofNat bs.length))] []))
  exact own_retV X9 hx N9 hlk (by decide) (by decide) hret (hb hby d26_97) (by rw [e9]; exact ⟨an_7, kn_7, rfl, KC10, F10_value_a1, F10_coder_a1, sz_an_7, A10_an_7⟩)
def Q2534c (Z : State) (a1 : Addr) (a2 : Addr) (u1 : Value) (u2 : Value) (a : Addr) (kd : ClassId) (bs : List Int32) (tl : List Value) (w_DigitOnes : Addr) (w_DigitTens : Addr) (zc : Int32) (fm : Value) (k_ones : ClassId) (k_tens : ClassId) (h0 : Heap) (n0 : Nat) (v : Option Value) (h : Heap) : Prop :=
  (∃ (an : Addr) (kn : ClassId), v = none ∧ Keep h0 h [a1] ∧ Fld Z h a1 "java/lang/String" "value" "[B" (.ref an) ∧ Fld Z h a1 "java/lang/String" "coder" "B" (.int (0 : Int32)) ∧ h0.size ≤ an ∧ Arv Z h an kn .byte (Int32.ofNat bs.length) (bl bs) (.int (0 : Int32)))
theorem ef_2534c (m : MethodId) (a1 : Addr) (a2 : Addr) : entryFrame m #[(.ref a1), (.ref a2)] 2 = mkF m 0 #[.val (.ref a1), .val (.ref a2)] [] := by first | (simp [entryFrame, mkF, argsToLocals, Value.category]; done) | rfl
set_option maxRecDepth 65536 in
set_option maxHeartbeats 40000000 in
theorem rm2534c (l : Launch) (Z : State) (a0 : Array Value) (hw : ∀ d ∈ tables_1, d.before a0 Z = true) (ws : List Jvm.Cond) (a1 : Addr) (a2 : Addr) (u1 : Value) (u2 : Value) (a : Addr) (kd : ClassId) (bs : List Int32) (tl : List Value) (w_DigitOnes : Addr) (w_DigitTens : Addr) (zc : Int32) (fm : Value) (k_ones : ClassId) (k_tens : ClassId) (h0 : Heap) (n0 : Nat) (O0 : Old Z n0 h0) (SF : Start Z w_DigitOnes w_DigitTens zc fm k_ones k_tens) (f0 : Exa Z h0 a1 "java/lang/String") (f1 : Fld Z h0 a1 "java/lang/String" "value" "[B" u1) (f2 : Fld Z h0 a1 "java/lang/String" "coder" "B" u2) (f3 : n0 ≤ a1) (f4 : Exa Z h0 a2 "java/lang/StringBuilder") (f5 : Fld Z h0 a2 "java/lang/AbstractStringBuilder" "value" "[B" (.ref a)) (f6 : Fld Z h0 a2 "java/lang/AbstractStringBuilder" "coder" "B" (.int (0 : Int32))) (f7 : Fld Z h0 a2 "java/lang/AbstractStringBuilder" "count" "I" (.int (Int32.ofNat bs.length))) (f8 : Arv Z h0 a kd .byte (34 : Int32) (bl bs ++ tl) (.int (0 : Int32))) (f9 : n0 ≤ a2) (f10 : n0 ≤ a) (hcap : bs.length + tl.length = 34) (hlt : bs.length < 34) :
    Meets l (⟨"java/lang/String", "<init>", "(Ljava/lang/StringBuilder;)V"⟩ : MethodName) jdk_42_method_53_code 2 none ws ({ frames := 4, cells := 1, slots := 34, locals := 65 } : Room) ({ frames := 4, cells := 1, slots := 34, locals := 65 } : Room).cells ({ frames := 4, cells := 1, slots := 34, locals := 65 } : Room).slots Z #[(.ref a1), (.ref a2)] h0 n0 (Q2534c Z a1 a2 u1 u2 a kd bs tl w_DigitOnes w_DigitTens zc fm k_ones k_tens h0 n0) := by
  refine Meets.of (F := fun m => mkF m 0 #[.val (.ref a1), .val (.ref a2)] []) (plainFor_of_name pn_0) (fun m => ef_2534c m a1 a2) ?_
  intro p e s m below meth c T0 hx hby hml hown0 hnm hret hlk hZ X0 e0
  have hown : s.vm.findClass "java/lang/String" = some m.cls := hown0
  have N0 := Fr.nil n0
  have KC0 := Keep.refl h0 [a1]
  obtain ⟨z0, z1, z2, z3, z4, z5, z6, hzc, z8, hfm, -⟩ := SF
  show Goes _ _ _ _ _ _ (T0.setTop (mkF m 0 #[.val (.ref a1), .val (.ref a2)] []))
  refine own_aloadN X0 hx (hb hby d25_0) rfl rfl ?_
  refine own_aloadN X0 hx (hb hby d25_1) rfl rfl ?_
  refine own_aconst_null X0 hx (hb hby d25_2) ?_
  refine own_special X0 hx hZ hown (y := (⟨"java/lang/String", "<init>", "(Ljava/lang/AbstractStringBuilder;Ljava/lang/Void;)V"⟩ : MethodName)) rfl (own_w hw 136 rfl) (own_w hw 137 rfl) (own_w hw 2 rfl) (own_w hw 138 rfl) (a := a1) (by decide) (W := 0) (by decide) (by decide) N0 e0 (by rw [hml]; rfl) (argsL := [(.ref a2), .null]) (rest := []) (lenOf pd_17 rfl) (Nat.le_of_eq rfl) (by decide) (by decide) (rm2634c l Z a0 hw [] a1 a2 (u1) (u2) a kd bs tl w_DigitOnes w_DigitTens zc fm k_ones k_tens h0 n0 O0 ⟨z0, z1, z2, z3, z4, z5, z6, hzc, z8, hfm, trivial⟩ f0 f1 f2 f3 f4 f5 f6 f7 f8 f9 f10 hcap hlt) rfl (hb hby d25_3) ?_
  intro v1 T1 lc1 X1 N1 hQ1
  obtain ⟨an_1, kn_1, rfl, K1, r1_0, r1_1, r1_2, r1_3⟩ := hQ1
  have O2 := O0.keep K1 (allS f3 all0)
  have KC2 := KC0.trans K1 (allS (Or.inl (List.mem_of_getElem? (i := 0) rfl)) all0)
  have ge_an_1 : n0 ≤ an_1 := Nat.le_trans (own_sz O0) r1_2
  have sz_an_1 : h0.size ≤ an_1 := Nat.le_trans KC0.1 r1_2
  show Goes _ _ _ _ _ _ (T1.setTop (mkF m 6 #[.val (.ref a1), .val (.ref a2)] []))
  exact own_retV X1 hx N1 hlk (by decide) (by decide) hret (hb hby d25_6) (⟨an_1, kn_1, rfl, KC2, r1_0, r1_1, sz_an_1, r1_3⟩)
def Q2434c (Z : State) (a1 : Addr) (a : Addr) (kd : ClassId) (bs : List Int32) (tl : List Value) (w_DigitOnes : Addr) (w_DigitTens : Addr) (zc : Int32) (fm : Value) (k_ones : ClassId) (k_tens : ClassId) (h0 : Heap) (n0 : Nat) (v : Option Value) (h : Heap) : Prop :=
  (∃ (x : Addr) (an : Addr) (kn : ClassId), v = some (.ref x) ∧ Keep h0 h [] ∧ h0.size ≤ x ∧ h0.size ≤ an ∧ Exa Z h x "java/lang/String" ∧ Fld Z h x "java/lang/String" "value" "[B" (.ref an) ∧ Fld Z h x "java/lang/String" "coder" "B" (.int (0 : Int32)) ∧ Arv Z h an kn .byte (Int32.ofNat bs.length) (bl bs) (.int (0 : Int32)))
theorem ef_2434c (m : MethodId) (a1 : Addr) : entryFrame m #[(.ref a1)] 1 = mkF m 0 #[.val (.ref a1)] [] := by first | (simp [entryFrame, mkF, argsToLocals, Value.category]; done) | rfl
set_option maxRecDepth 65536 in
set_option maxHeartbeats 40000000 in
theorem rm2434c (l : Launch) (Z : State) (a0 : Array Value) (hw : ∀ d ∈ tables_1, d.before a0 Z = true) (ws : List Jvm.Cond) (a1 : Addr) (a : Addr) (kd : ClassId) (bs : List Int32) (tl : List Value) (w_DigitOnes : Addr) (w_DigitTens : Addr) (zc : Int32) (fm : Value) (k_ones : ClassId) (k_tens : ClassId) (h0 : Heap) (n0 : Nat) (O0 : Old Z n0 h0) (SF : Start Z w_DigitOnes w_DigitTens zc fm k_ones k_tens) (f0 : Exa Z h0 a1 "java/lang/StringBuilder") (f1 : Fld Z h0 a1 "java/lang/AbstractStringBuilder" "value" "[B" (.ref a)) (f2 : Fld Z h0 a1 "java/lang/AbstractStringBuilder" "coder" "B" (.int (0 : Int32))) (f3 : Fld Z h0 a1 "java/lang/AbstractStringBuilder" "count" "I" (.int (Int32.ofNat bs.length))) (f4 : Arv Z h0 a kd .byte (34 : Int32) (bl bs ++ tl) (.int (0 : Int32))) (f5 : n0 ≤ a1) (f6 : n0 ≤ a) (hcap : bs.length + tl.length = 34) (hlt : bs.length < 34) :
    Meets l (⟨"java/lang/StringBuilder", "toString", "()Ljava/lang/String;"⟩ : MethodName) jdk_67_method_42_code 1 (some (.object "java/lang/String")) ws ({ frames := 5, cells := 2, slots := 38, locals := 79 } : Room) ({ frames := 5, cells := 2, slots := 38, locals := 79 } : Room).cells ({ frames := 5, cells := 2, slots := 38, locals := 79 } : Room).slots Z #[(.ref a1)] h0 n0 (Q2434c Z a1 a kd bs tl w_DigitOnes w_DigitTens zc fm k_ones k_tens h0 n0) := by
  refine Meets.of (F := fun m => mkF m 0 #[.val (.ref a1)] []) (plainFor_of_name pn_2) (fun m => ef_2434c m a1) ?_
  intro p e s m below meth c T0 hx hby hml hown0 hnm hret hlk hZ X0 e0
  have hown : s.vm.findClass "java/lang/StringBuilder" = some m.cls := hown0
  have N0 := Fr.nil n0
  have KC0 := Keep.refl h0 []
  obtain ⟨z0, z1, z2, z3, z4, z5, z6, hzc, z8, hfm, -⟩ := SF
  show Goes _ _ _ _ _ _ (T0.setTop (mkF m 0 #[.val (.ref a1)] []))
  refine own_new X0 hx hZ hown (own_w hw 132 rfl) (own_w hw 1 rfl) (own_w hw 2 rfl) e0 (hb hby d24_0) (by decide) (by decide) (fun T1 h1 b1 g1 X1 e1 E1 A1 D1 => ?_)
  have ge_b1 : n0 ≤ b1 := Nat.le_trans (own_sz O0) (Nat.le_of_eq g1.symm)
  have sz_b1 : h0.size ≤ b1 := Nat.le_trans KC0.1 (Nat.le_of_eq g1.symm)
  have E2_a1 := f0.ext E1
  have F2_value_a1 := f1.ext E1
  have F2_coder_a1 := f2.ext E1
  have F2_count_a1 := f3.ext E1
  have A2_a := f4.ext E1
  have O2 := O0.ext E1
  have KC2 := KC0.ext E1
  have F1_coder_b1 : Fld Z h1 b1 "java/lang/String" "coder" "B" (.int (0 : Int32)) := D1 (Or.inr (own_w hw 27 rfl)) (ty := .byte) (by decide)
  have F1_value_b1 : Fld Z h1 b1 "java/lang/String" "value" "[B" .null := D1 (Or.inr (own_w hw 29 rfl)) (ty := (.array .byte)) (by decide)
  refine own_dup X1 hx (hb hby d24_3) rfl ?_
  refine own_aloadN X1 hx (hb hby d24_4) rfl rfl ?_
  refine own_special X1 hx hZ hown (y := (⟨"java/lang/String", "<init>", "(Ljava/lang/StringBuilder;)V"⟩ : MethodName)) rfl (own_w hw 133 rfl) (own_w hw 134 rfl) (own_w hw 2 rfl) (own_w hw 135 rfl) (a := b1) (by decide) (W := 1) (by decide) (by decide) N0 e1 (by rw [hml]; rfl) (argsL := [(.ref a1)]) (rest := [(.ref b1)]) (lenOf pd_18 rfl) (Nat.le_of_eq rfl) (by decide) (by decide) (rm2534c l Z a0 hw [] b1 a1 (.null) ((.int (0 : Int32))) a kd bs tl w_DigitOnes w_DigitTens zc fm k_ones k_tens h1 n0 O2 ⟨z0, z1, z2, z3, z4, z5, z6, hzc, z8, hfm, trivial⟩ A1 F1_value_b1 F1_coder_b1 ge_b1 E2_a1 F2_value_a1 F2_coder_a1 F2_count_a1 A2_a f5 f6 hcap hlt) rfl (hb hby d24_5) ?_
  intro v3 T3 lc3 X3 N3 hQ3
  obtain ⟨an_3, kn_3, rfl, K3, r3_0, r3_1, r3_2, r3_3⟩ := hQ3
  have E4_b1 := A1.keep K3
  have O4 := O2.keep K3 (allS ge_b1 all0)
  have KC4 := KC2.trans K3 (allS (Or.inr sz_b1) all0)
  have ge_an_3 : n0 ≤ an_3 := Nat.le_trans (own_sz O2) r3_2
  have sz_an_3 : h0.size ≤ an_3 := Nat.le_trans KC2.1 r3_2
  show Goes _ _ _ _ _ _ (T3.setTop (mkF m 8 #[.val (.ref a1)] [(.ref b1)]))
  exact own_retR X3 hx N3 hlk (by decide) (by decide) hret rfl rfl rfl (hb hby d24_8) (⟨b1, an_3, kn_3, rfl, KC4, sz_b1, sz_an_3, E4_b1, r3_0, r3_1, r3_3⟩)
def Q2616f (Z : State) (a1 : Addr) (a2 : Addr) (u1 : Value) (u2 : Value) (a : Addr) (kd : ClassId) (bs : List Int32) (tl : List Value) (w_DigitOnes : Addr) (w_DigitTens : Addr) (zc : Int32) (fm : Value) (k_ones : ClassId) (k_tens : ClassId) (h0 : Heap) (n0 : Nat) (v : Option Value) (h : Heap) : Prop :=
  (∃ (an : Addr) (kn : ClassId), v = none ∧ Keep h0 h [a1] ∧ Fld Z h a1 "java/lang/String" "value" "[B" (.ref an) ∧ Fld Z h a1 "java/lang/String" "coder" "B" (.int (0 : Int32)) ∧ h0.size ≤ an ∧ Arv Z h an kn .byte (Int32.ofNat bs.length) (bl bs) (.int (0 : Int32)))
theorem ef_2616f (m : MethodId) (a1 : Addr) (a2 : Addr) : entryFrame m #[(.ref a1), (.ref a2), .null] 5 = mkF m 0 #[.val (.ref a1), .val (.ref a2), .val .null, .unset, .unset] [] := by first | (simp [entryFrame, mkF, argsToLocals, Value.category]; done) | rfl
set_option maxRecDepth 65536 in
set_option maxHeartbeats 40000000 in
theorem rm2616f (l : Launch) (Z : State) (a0 : Array Value) (hw : ∀ d ∈ tables_1, d.before a0 Z = true) (ws : List Jvm.Cond) (a1 : Addr) (a2 : Addr) (u1 : Value) (u2 : Value) (a : Addr) (kd : ClassId) (bs : List Int32) (tl : List Value) (w_DigitOnes : Addr) (w_DigitTens : Addr) (zc : Int32) (fm : Value) (k_ones : ClassId) (k_tens : ClassId) (h0 : Heap) (n0 : Nat) (O0 : Old Z n0 h0) (SF : Start Z w_DigitOnes w_DigitTens zc fm k_ones k_tens) (f0 : Exa Z h0 a1 "java/lang/String") (f1 : Fld Z h0 a1 "java/lang/String" "value" "[B" u1) (f2 : Fld Z h0 a1 "java/lang/String" "coder" "B" u2) (f3 : n0 ≤ a1) (f4 : Exa Z h0 a2 "java/lang/StringBuilder") (f5 : Fld Z h0 a2 "java/lang/AbstractStringBuilder" "value" "[B" (.ref a)) (f6 : Fld Z h0 a2 "java/lang/AbstractStringBuilder" "coder" "B" (.int (0 : Int32))) (f7 : Fld Z h0 a2 "java/lang/AbstractStringBuilder" "count" "I" (.int (Int32.ofNat bs.length))) (f8 : Arv Z h0 a kd .byte (16 : Int32) (bl bs ++ tl) (.int (0 : Int32))) (f9 : Exa Z h0 a "[B") (f10 : n0 ≤ a2) (f11 : n0 ≤ a) (hcap : bs.length + tl.length = 16) (hful : bs.length = 16) :
    Meets l (⟨"java/lang/String", "<init>", "(Ljava/lang/AbstractStringBuilder;Ljava/lang/Void;)V"⟩ : MethodName) jdk_42_method_150_code 5 none ws ({ frames := 2, cells := 1, slots := 16, locals := 29 } : Room) ({ frames := 2, cells := 1, slots := 16, locals := 29 } : Room).cells ({ frames := 2, cells := 1, slots := 16, locals := 29 } : Room).slots Z #[(.ref a1), (.ref a2), .null] h0 n0 (Q2616f Z a1 a2 u1 u2 a kd bs tl w_DigitOnes w_DigitTens zc fm k_ones k_tens h0 n0) := by
  refine Meets.of (F := fun m => mkF m 0 #[.val (.ref a1), .val (.ref a2), .val .null, .unset, .unset] []) (plainFor_of_name pn_0) (fun m => ef_2616f m a1 a2) ?_
  intro p e s m below meth c T0 hx hby hml hown0 hnm hret hlk hZ X0 e0
  have hown : s.vm.findClass "java/lang/String" = some m.cls := hown0
  have N0 := Fr.nil n0
  have KC0 := Keep.refl h0 [a1]
  obtain ⟨z0, z1, z2, z3, z4, z5, z6, hzc, z8, hfm, -⟩ := SF
  show Goes _ _ _ _ _ _ (T0.setTop (mkF m 0 #[.val (.ref a1), .val (.ref a2), .val .null, .unset, .unset] []))
  refine own_aloadN X0 hx (hb hby d26_0) rfl rfl ?_
  refine own_initO X0 hx hZ hown (own_w hw 11 rfl) (own_w hw 12 rfl) (own_w hw 13 rfl) e0 (by rw [hml]; rfl) (hb hby d26_1) (by decide) (W := 0) (Nat.le_of_eq rfl) (by decide) (fun T1 X1 e1 => ?_)
  refine own_aloadN X1 hx (hb hby d26_4) rfl rfl ?_
  refine own_virtual X1 hx hZ hown (y := (⟨"java/lang/AbstractStringBuilder", "getValue", "()[B"⟩ : MethodName)) (z := (⟨"java/lang/AbstractStringBuilder", "getValue", "()[B"⟩ : MethodName)) (own_w hw 139 rfl) (own_w hw 140 rfl) (notFace_of_selects (args := #[]) (mvT hZ (own_w hw 142 rfl))) (own_w hw 142 rfl) (own_w hw 141 rfl) (own_w hw 44 rfl) (own_w hw 143 rfl) (a := a2) f4 (by decide) (W := 0) (by decide) (by decide) N0 e1 (by rw [hml]; rfl) (argsL := []) (rest := []) (lenOf pd_16 rfl) (Nat.le_of_eq rfl) (by decide) (by decide) (rm27 l Z a0 hw [] a2 a h0 n0 O0 f5) rfl (hb hby d26_5) ?_
  intro v2 T2 lc2 X2 N2 hQ2
  obtain ⟨rfl, e2⟩ := hQ2
  refine own_astoreN X2 hx (Ls' := #[.val (.ref a1), .val (.ref a2), .val .null, .val (.ref a), .unset]) (hb hby d26_8) rfl rfl ?_
  refine own_aloadN X2 hx (hb hby d26_9) rfl rfl ?_
  refine own_virtual X2 hx hZ hown (y := (⟨"java/lang/AbstractStringBuilder", "length", "()I"⟩ : MethodName)) (z := (⟨"java/lang/StringBuilder", "length", "()I"⟩ : MethodName)) (own_w hw 144 rfl) (own_w hw 145 rfl) (own_nfOf (args := #[]) (mvT hZ (own_w hw 121 rfl)) rfl) (own_w hw 147 rfl) (own_w hw 148 rfl) (own_w hw 36 rfl) (own_w hw 149 rfl) (a := a2) f4 (by decide) (W := 0) (by decide) (by decide) N2 e2 (by rw [hml]; rfl) (argsL := []) (rest := []) (lenOf pd_8 rfl) (Nat.le_of_eq rfl) (by decide) (by decide) (rm28 l Z a0 hw [] a2 (Int32.ofNat bs.length) h0 n0 O0 f4 f7) rfl (hb hby d26_10) ?_
  intro v3 T3 lc3 X3 N3 hQ3
  obtain ⟨rfl, e3⟩ := hQ3
  refine own_istore X3 hx (Ls' := #[.val (.ref a1), .val (.ref a2), .val .null, .val (.ref a), .val (.int (Int32.ofNat bs.length))]) (hb hby d26_13) rfl ?_
  refine own_aloadN X3 hx (hb hby d26_15) rfl rfl ?_
  refine own_virtual X3 hx hZ hown (y := (⟨"java/lang/AbstractStringBuilder", "isLatin1", "()Z"⟩ : MethodName)) (z := (⟨"java/lang/AbstractStringBuilder", "isLatin1", "()Z"⟩ : MethodName)) (own_w hw 152 rfl) (own_w hw 119 rfl) (notFace_of_selects (args := #[]) (mvT hZ (own_w hw 121 rfl))) (own_w hw 121 rfl) (own_w hw 120 rfl) (own_w hw 44 rfl) (own_w hw 122 rfl) (a := a2) f4 (by decide) (W := 0) (by decide) (by decide) N3 e3 (by rw [hml]; rfl) (argsL := []) (rest := []) (lenOf pd_11 rfl) (Nat.le_of_eq rfl) (by decide) (by decide) (rm22 l Z a0 hw [] a2 w_DigitOnes w_DigitTens zc fm k_ones k_tens h0 n0 O0 ⟨z0, z1, z2, z3, z4, z5, z6, hzc, z8, hfm, trivial⟩ f6) rfl (hb hby d26_16) ?_
  intro v4 T4 lc4 X4 N4 hQ4
  obtain ⟨rfl, e4⟩ := hQ4
  refine own_ifNo X4 hx (hb hby d26_19) ((if0 _ _).trans (feq (by decide : ¬ ((1 : Int32) = (0 : Int32)))).1) ?_
  refine own_aloadN X4 hx (hb hby d26_22) rfl rfl ?_
  refine own_iconst X4 hx (v := (0 : Int32)) (hb hby d26_23) rfl ?_
  refine own_putF X4 hx hZ hown N4 (host := "") (Or.inl (own_w hw 26 rfl)) Via.refl e4 f2 f0 (Or.inr ⟨(own_w hw 27 rfl), rfl, hnm⟩) (own_w hw 1 rfl) (ty := .byte) (by decide) rfl rfl f3 (hb hby d26_24) (fun T5 h5 lc5 X5 e5 N5 W5 => ?_)
  have E6_a1 := f0.wr W5
  have E6_a := f9.wr W5
  have F6_value_a1 := f1.other W5 (Or.inr (slot_ne (Or.inr (own_w hw 29 rfl)) (Or.inr (own_w hw 27 rfl)) (by decide) (t := (.array .byte)) (t' := .byte) (by decide) (by decide)))
  have F6_coder_a1 := f2.same W5
  have A6_a := f8.other W5 (ne_exa f9 f0 (by decide))
  have O6 := O0.wr W5 f3
  have KC6 := KC0.wr W5 (Or.inl (List.mem_of_getElem? (i := 0) rfl))
  refine own_aloadN X5 hx (hb hby d26_27) rfl rfl ?_
  refine own_aloadN X5 hx (hb hby d26_28) rfl rfl ?_
  refine own_iconst X5 hx (v := (0 : Int32)) (hb hby d26_29) rfl ?_
  refine own_iload X5 hx (hb hby d26_30) rfl ?_
  refine own_callS X5 hx hZ hown (y := (⟨"java/util/Arrays", "copyOfRange", "([BII)[B"⟩ : MethodName)) (own_w hw 153 rfl) (own_w hw 154 rfl) (own_w hw 155 rfl) (own_w hw 156 rfl) (by decide) (W := 1) (by decide) (by decide) N5 e5 (by rw [hml]; rfl) (argsL := [(.ref a), (.int (0 : Int32)), (.int (Int32.ofNat bs.length))]) (rest := [(.ref a1)]) (lenOf pd_15 rfl) (Nat.le_of_eq rfl) (by decide) (by decide) (rm3016f l Z a0 hw [] a kd bs tl h5 n0 O6 E6_a A6_a hcap hful) rfl (hb hby d26_32) ?_
  intro v7 T7 lc7 X7 N7 hQ7
  obtain ⟨an_7, kn_7, rfl, K7, r7_0, r7_1⟩ := hQ7
  have E8_a1 := E6_a1.keep K7
  have F8_value_a1 := F6_value_a1.keep K7 nin0
  have F8_coder_a1 := F6_coder_a1.keep K7 nin0
  have O8 := O6.keep K7 all0
  have KC8 := KC6.trans K7 all0
  have ne_a1_an_7 : a1 ≠ an_7 := Nat.ne_of_lt (Nat.lt_of_lt_of_le E6_a1.lt r7_0)
  have ge_an_7 : n0 ≤ an_7 := Nat.le_trans (own_sz O6) r7_0
  have sz_an_7 : h0.size ≤ an_7 := Nat.le_trans KC6.1 r7_0
  refine own_putF X7 hx hZ hown N7 (host := "") (Or.inl (own_w hw 28 rfl)) Via.refl rfl F8_value_a1 E8_a1 (Or.inr ⟨(own_w hw 29 rfl), rfl, hnm⟩) (own_w hw 1 rfl) (ty := (.array .byte)) (by decide) rfl rfl f3 (hb hby d26_35) (fun T9 h9 lc9 X9 e9 N9 W9 => ?_)
  have F10_value_a1 := F8_value_a1.same W9
  have F10_coder_a1 := F8_coder_a1.other W9 (Or.inr (slot_ne (Or.inr (own_w hw 27 rfl)) (Or.inr (own_w hw 29 rfl)) (by decide) (t := .byte) (t' := (.array .byte)) (by decide) (by decide)))
  have A10_an_7 := r7_1.other W9 (Ne.symm ne_a1_an_7)
  have O10 := O8.wr W9 f3
  have KC10 := KC8.wr W9 (Or.inl (List.mem_of_getElem? (i := 0) rfl))
  refine own_goto X9 hx (pc' := 97) (hb hby d26_38) (by decide) (by decide) ?_
  show Goes _ _ _ _ _ _ (T9.setTop (mkF m 97 #[.val (.ref a1), .val (.ref a2), .val .null, .val (.ref a), .val (.int (Int32.ofNat bs.length))] []))
  exact own_retV X9 hx N9 hlk (by decide) (by decide) hret (hb hby d26_97) (by rw [e9]; exact ⟨an_7, kn_7, rfl, KC10, F10_value_a1, F10_coder_a1, sz_an_7, A10_an_7⟩)
def Q2516f (Z : State) (a1 : Addr) (a2 : Addr) (u1 : Value) (u2 : Value) (a : Addr) (kd : ClassId) (bs : List Int32) (tl : List Value) (w_DigitOnes : Addr) (w_DigitTens : Addr) (zc : Int32) (fm : Value) (k_ones : ClassId) (k_tens : ClassId) (h0 : Heap) (n0 : Nat) (v : Option Value) (h : Heap) : Prop :=
  (∃ (an : Addr) (kn : ClassId), v = none ∧ Keep h0 h [a1] ∧ Fld Z h a1 "java/lang/String" "value" "[B" (.ref an) ∧ Fld Z h a1 "java/lang/String" "coder" "B" (.int (0 : Int32)) ∧ h0.size ≤ an ∧ Arv Z h an kn .byte (Int32.ofNat bs.length) (bl bs) (.int (0 : Int32)))
theorem ef_2516f (m : MethodId) (a1 : Addr) (a2 : Addr) : entryFrame m #[(.ref a1), (.ref a2)] 2 = mkF m 0 #[.val (.ref a1), .val (.ref a2)] [] := by first | (simp [entryFrame, mkF, argsToLocals, Value.category]; done) | rfl
set_option maxRecDepth 65536 in
set_option maxHeartbeats 40000000 in
theorem rm2516f (l : Launch) (Z : State) (a0 : Array Value) (hw : ∀ d ∈ tables_1, d.before a0 Z = true) (ws : List Jvm.Cond) (a1 : Addr) (a2 : Addr) (u1 : Value) (u2 : Value) (a : Addr) (kd : ClassId) (bs : List Int32) (tl : List Value) (w_DigitOnes : Addr) (w_DigitTens : Addr) (zc : Int32) (fm : Value) (k_ones : ClassId) (k_tens : ClassId) (h0 : Heap) (n0 : Nat) (O0 : Old Z n0 h0) (SF : Start Z w_DigitOnes w_DigitTens zc fm k_ones k_tens) (f0 : Exa Z h0 a1 "java/lang/String") (f1 : Fld Z h0 a1 "java/lang/String" "value" "[B" u1) (f2 : Fld Z h0 a1 "java/lang/String" "coder" "B" u2) (f3 : n0 ≤ a1) (f4 : Exa Z h0 a2 "java/lang/StringBuilder") (f5 : Fld Z h0 a2 "java/lang/AbstractStringBuilder" "value" "[B" (.ref a)) (f6 : Fld Z h0 a2 "java/lang/AbstractStringBuilder" "coder" "B" (.int (0 : Int32))) (f7 : Fld Z h0 a2 "java/lang/AbstractStringBuilder" "count" "I" (.int (Int32.ofNat bs.length))) (f8 : Arv Z h0 a kd .byte (16 : Int32) (bl bs ++ tl) (.int (0 : Int32))) (f9 : Exa Z h0 a "[B") (f10 : n0 ≤ a2) (f11 : n0 ≤ a) (hcap : bs.length + tl.length = 16) (hful : bs.length = 16) :
    Meets l (⟨"java/lang/String", "<init>", "(Ljava/lang/StringBuilder;)V"⟩ : MethodName) jdk_42_method_53_code 2 none ws ({ frames := 3, cells := 1, slots := 16, locals := 45 } : Room) ({ frames := 3, cells := 1, slots := 16, locals := 45 } : Room).cells ({ frames := 3, cells := 1, slots := 16, locals := 45 } : Room).slots Z #[(.ref a1), (.ref a2)] h0 n0 (Q2516f Z a1 a2 u1 u2 a kd bs tl w_DigitOnes w_DigitTens zc fm k_ones k_tens h0 n0) := by
  refine Meets.of (F := fun m => mkF m 0 #[.val (.ref a1), .val (.ref a2)] []) (plainFor_of_name pn_0) (fun m => ef_2516f m a1 a2) ?_
  intro p e s m below meth c T0 hx hby hml hown0 hnm hret hlk hZ X0 e0
  have hown : s.vm.findClass "java/lang/String" = some m.cls := hown0
  have N0 := Fr.nil n0
  have KC0 := Keep.refl h0 [a1]
  obtain ⟨z0, z1, z2, z3, z4, z5, z6, hzc, z8, hfm, -⟩ := SF
  show Goes _ _ _ _ _ _ (T0.setTop (mkF m 0 #[.val (.ref a1), .val (.ref a2)] []))
  refine own_aloadN X0 hx (hb hby d25_0) rfl rfl ?_
  refine own_aloadN X0 hx (hb hby d25_1) rfl rfl ?_
  refine own_aconst_null X0 hx (hb hby d25_2) ?_
  refine own_special X0 hx hZ hown (y := (⟨"java/lang/String", "<init>", "(Ljava/lang/AbstractStringBuilder;Ljava/lang/Void;)V"⟩ : MethodName)) rfl (own_w hw 136 rfl) (own_w hw 137 rfl) (own_w hw 2 rfl) (own_w hw 138 rfl) (a := a1) (by decide) (W := 0) (by decide) (by decide) N0 e0 (by rw [hml]; rfl) (argsL := [(.ref a2), .null]) (rest := []) (lenOf pd_17 rfl) (Nat.le_of_eq rfl) (by decide) (by decide) (rm2616f l Z a0 hw [] a1 a2 (u1) (u2) a kd bs tl w_DigitOnes w_DigitTens zc fm k_ones k_tens h0 n0 O0 ⟨z0, z1, z2, z3, z4, z5, z6, hzc, z8, hfm, trivial⟩ f0 f1 f2 f3 f4 f5 f6 f7 f8 f9 f10 f11 hcap hful) rfl (hb hby d25_3) ?_
  intro v1 T1 lc1 X1 N1 hQ1
  obtain ⟨an_1, kn_1, rfl, K1, r1_0, r1_1, r1_2, r1_3⟩ := hQ1
  have O2 := O0.keep K1 (allS f3 all0)
  have KC2 := KC0.trans K1 (allS (Or.inl (List.mem_of_getElem? (i := 0) rfl)) all0)
  have ge_an_1 : n0 ≤ an_1 := Nat.le_trans (own_sz O0) r1_2
  have sz_an_1 : h0.size ≤ an_1 := Nat.le_trans KC0.1 r1_2
  show Goes _ _ _ _ _ _ (T1.setTop (mkF m 6 #[.val (.ref a1), .val (.ref a2)] []))
  exact own_retV X1 hx N1 hlk (by decide) (by decide) hret (hb hby d25_6) (⟨an_1, kn_1, rfl, KC2, r1_0, r1_1, sz_an_1, r1_3⟩)
def Q2416f (Z : State) (a1 : Addr) (a : Addr) (kd : ClassId) (bs : List Int32) (tl : List Value) (w_DigitOnes : Addr) (w_DigitTens : Addr) (zc : Int32) (fm : Value) (k_ones : ClassId) (k_tens : ClassId) (h0 : Heap) (n0 : Nat) (v : Option Value) (h : Heap) : Prop :=
  (∃ (x : Addr) (an : Addr) (kn : ClassId), v = some (.ref x) ∧ Keep h0 h [] ∧ h0.size ≤ x ∧ h0.size ≤ an ∧ Exa Z h x "java/lang/String" ∧ Fld Z h x "java/lang/String" "value" "[B" (.ref an) ∧ Fld Z h x "java/lang/String" "coder" "B" (.int (0 : Int32)) ∧ Arv Z h an kn .byte (Int32.ofNat bs.length) (bl bs) (.int (0 : Int32)))
theorem ef_2416f (m : MethodId) (a1 : Addr) : entryFrame m #[(.ref a1)] 1 = mkF m 0 #[.val (.ref a1)] [] := by first | (simp [entryFrame, mkF, argsToLocals, Value.category]; done) | rfl
set_option maxRecDepth 65536 in
set_option maxHeartbeats 40000000 in
theorem rm2416f (l : Launch) (Z : State) (a0 : Array Value) (hw : ∀ d ∈ tables_1, d.before a0 Z = true) (ws : List Jvm.Cond) (a1 : Addr) (a : Addr) (kd : ClassId) (bs : List Int32) (tl : List Value) (w_DigitOnes : Addr) (w_DigitTens : Addr) (zc : Int32) (fm : Value) (k_ones : ClassId) (k_tens : ClassId) (h0 : Heap) (n0 : Nat) (O0 : Old Z n0 h0) (SF : Start Z w_DigitOnes w_DigitTens zc fm k_ones k_tens) (f0 : Exa Z h0 a1 "java/lang/StringBuilder") (f1 : Fld Z h0 a1 "java/lang/AbstractStringBuilder" "value" "[B" (.ref a)) (f2 : Fld Z h0 a1 "java/lang/AbstractStringBuilder" "coder" "B" (.int (0 : Int32))) (f3 : Fld Z h0 a1 "java/lang/AbstractStringBuilder" "count" "I" (.int (Int32.ofNat bs.length))) (f4 : Arv Z h0 a kd .byte (16 : Int32) (bl bs ++ tl) (.int (0 : Int32))) (f5 : Exa Z h0 a "[B") (f6 : n0 ≤ a1) (f7 : n0 ≤ a) (hcap : bs.length + tl.length = 16) (hful : bs.length = 16) :
    Meets l (⟨"java/lang/StringBuilder", "toString", "()Ljava/lang/String;"⟩ : MethodName) jdk_67_method_42_code 1 (some (.object "java/lang/String")) ws ({ frames := 4, cells := 2, slots := 20, locals := 59 } : Room) ({ frames := 4, cells := 2, slots := 20, locals := 59 } : Room).cells ({ frames := 4, cells := 2, slots := 20, locals := 59 } : Room).slots Z #[(.ref a1)] h0 n0 (Q2416f Z a1 a kd bs tl w_DigitOnes w_DigitTens zc fm k_ones k_tens h0 n0) := by
  refine Meets.of (F := fun m => mkF m 0 #[.val (.ref a1)] []) (plainFor_of_name pn_2) (fun m => ef_2416f m a1) ?_
  intro p e s m below meth c T0 hx hby hml hown0 hnm hret hlk hZ X0 e0
  have hown : s.vm.findClass "java/lang/StringBuilder" = some m.cls := hown0
  have N0 := Fr.nil n0
  have KC0 := Keep.refl h0 []
  obtain ⟨z0, z1, z2, z3, z4, z5, z6, hzc, z8, hfm, -⟩ := SF
  show Goes _ _ _ _ _ _ (T0.setTop (mkF m 0 #[.val (.ref a1)] []))
  refine own_new X0 hx hZ hown (own_w hw 132 rfl) (own_w hw 1 rfl) (own_w hw 2 rfl) e0 (hb hby d24_0) (by decide) (by decide) (fun T1 h1 b1 g1 X1 e1 E1 A1 D1 => ?_)
  have ge_b1 : n0 ≤ b1 := Nat.le_trans (own_sz O0) (Nat.le_of_eq g1.symm)
  have sz_b1 : h0.size ≤ b1 := Nat.le_trans KC0.1 (Nat.le_of_eq g1.symm)
  have E2_a1 := f0.ext E1
  have E2_a := f5.ext E1
  have F2_value_a1 := f1.ext E1
  have F2_coder_a1 := f2.ext E1
  have F2_count_a1 := f3.ext E1
  have A2_a := f4.ext E1
  have O2 := O0.ext E1
  have KC2 := KC0.ext E1
  have F1_coder_b1 : Fld Z h1 b1 "java/lang/String" "coder" "B" (.int (0 : Int32)) := D1 (Or.inr (own_w hw 27 rfl)) (ty := .byte) (by decide)
  have F1_value_b1 : Fld Z h1 b1 "java/lang/String" "value" "[B" .null := D1 (Or.inr (own_w hw 29 rfl)) (ty := (.array .byte)) (by decide)
  refine own_dup X1 hx (hb hby d24_3) rfl ?_
  refine own_aloadN X1 hx (hb hby d24_4) rfl rfl ?_
  refine own_special X1 hx hZ hown (y := (⟨"java/lang/String", "<init>", "(Ljava/lang/StringBuilder;)V"⟩ : MethodName)) rfl (own_w hw 133 rfl) (own_w hw 134 rfl) (own_w hw 2 rfl) (own_w hw 135 rfl) (a := b1) (by decide) (W := 1) (by decide) (by decide) N0 e1 (by rw [hml]; rfl) (argsL := [(.ref a1)]) (rest := [(.ref b1)]) (lenOf pd_18 rfl) (Nat.le_of_eq rfl) (by decide) (by decide) (rm2516f l Z a0 hw [] b1 a1 (.null) ((.int (0 : Int32))) a kd bs tl w_DigitOnes w_DigitTens zc fm k_ones k_tens h1 n0 O2 ⟨z0, z1, z2, z3, z4, z5, z6, hzc, z8, hfm, trivial⟩ A1 F1_value_b1 F1_coder_b1 ge_b1 E2_a1 F2_value_a1 F2_coder_a1 F2_count_a1 A2_a E2_a f6 f7 hcap hful) rfl (hb hby d24_5) ?_
  intro v3 T3 lc3 X3 N3 hQ3
  obtain ⟨an_3, kn_3, rfl, K3, r3_0, r3_1, r3_2, r3_3⟩ := hQ3
  have E4_b1 := A1.keep K3
  have O4 := O2.keep K3 (allS ge_b1 all0)
  have KC4 := KC2.trans K3 (allS (Or.inr sz_b1) all0)
  have ge_an_3 : n0 ≤ an_3 := Nat.le_trans (own_sz O2) r3_2
  have sz_an_3 : h0.size ≤ an_3 := Nat.le_trans KC2.1 r3_2
  show Goes _ _ _ _ _ _ (T3.setTop (mkF m 8 #[.val (.ref a1)] [(.ref b1)]))
  exact own_retR X3 hx N3 hlk (by decide) (by decide) hret rfl rfl rfl (hb hby d24_8) (⟨b1, an_3, kn_3, rfl, KC4, sz_b1, sz_an_3, E4_b1, r3_0, r3_1, r3_3⟩)
theorem d18_0 : decode prog_3_method_3_code 0 = .ok (.iload_n 0, 1) := by decide +kernel
theorem d18_1 : decode prog_3_method_3_code 1 = .ok (.iconst 1, 1) := by decide +kernel
theorem d18_2 : decode prog_3_method_3_code 2 = .ok (.if_icmp .ge 6, 3) := by decide +kernel
theorem d18_5 : decode prog_3_method_3_code 5 = .ok (.ldc 32, 2) := by decide +kernel
theorem own_wS {Z : State} {a0 : Array Value} (hw : ∀ d ∈ tables_1, d.before a0 Z = true) : ∀ a ∈ Bundle.stringAtoms, a.before a0 Z = true := by
  intro a ha
  simp only [Bundle.stringAtoms, List.mem_cons, List.not_mem_nil, or_false] at ha
  rcases ha with rfl | rfl | rfl | rfl | rfl | rfl | rfl
  · exact (own_w hw 2 rfl)
  · exact (own_w hw 1 rfl)
  · exact (own_w hw 19 rfl)
  · exact (own_w hw 29 rfl)
  · exact (own_w hw 27 rfl)
  · exact (own_w hw 103 rfl)
  · exact (own_w hw 104 rfl)
theorem d18_7 : decode prog_3_method_3_code 7 = .ok (.areturn, 1) := by decide +kernel
theorem d18_8 : decode prog_3_method_3_code 8 = .ok (.iload_n 1, 1) := by decide +kernel
theorem d18_9 : decode prog_3_method_3_code 9 = .ok (.iconst 1, 1) := by decide +kernel
theorem d18_10 : decode prog_3_method_3_code 10 = .ok (.if_icmp .ge 25, 3) := by decide +kernel
theorem d18_13 : decode prog_3_method_3_code 13 = .ok (.new 13, 3) := by decide +kernel
theorem d18_16 : decode prog_3_method_3_code 16 = .ok (.dup, 1) := by decide +kernel
theorem d18_17 : decode prog_3_method_3_code 17 = .ok (.invokespecial 15, 3) := by decide +kernel
theorem pd_19 : parseMethodDescriptor "()V" = some ⟨[], none⟩ := by decide +kernel
theorem d18_20 : decode prog_3_method_3_code 20 = .ok (.ldc 34, 2) := by decide +kernel
theorem d18_22 : decode prog_3_method_3_code 22 = .ok (.invokevirtual 18, 3) := by decide +kernel
theorem pd_20 : parseMethodDescriptor "(Ljava/lang/String;)Ljava/lang/StringBuilder;" = some ⟨[(.object "java/lang/String")], some (.object "java/lang/StringBuilder")⟩ := by decide +kernel
theorem d18_25 : decode prog_3_method_3_code 25 = .ok (.iload_n 0, 1) := by decide +kernel
theorem d18_26 : decode prog_3_method_3_code 26 = .ok (.invokevirtual 36, 3) := by decide +kernel
theorem pd_21 : parseMethodDescriptor "(I)Ljava/lang/StringBuilder;" = some ⟨[.int], some (.object "java/lang/StringBuilder")⟩ := by decide +kernel
theorem d18_29 : decode prog_3_method_3_code 29 = .ok (.invokevirtual 28, 3) := by decide +kernel
theorem pd_22 : parseMethodDescriptor "()Ljava/lang/String;" = some ⟨[], some (.object "java/lang/String")⟩ := by decide +kernel
theorem d18_32 : decode prog_3_method_3_code 32 = .ok (.goto 31, 3) := by decide +kernel
theorem d18_63 : decode prog_3_method_3_code 63 = .ok (.areturn, 1) := by decide +kernel
theorem d18_35 : decode prog_3_method_3_code 35 = .ok (.new 13, 3) := by decide +kernel
theorem d18_38 : decode prog_3_method_3_code 38 = .ok (.dup, 1) := by decide +kernel
theorem d18_39 : decode prog_3_method_3_code 39 = .ok (.invokespecial 15, 3) := by decide +kernel
theorem d18_42 : decode prog_3_method_3_code 42 = .ok (.ldc 34, 2) := by decide +kernel
theorem d18_44 : decode prog_3_method_3_code 44 = .ok (.invokevirtual 18, 3) := by decide +kernel
theorem d18_47 : decode prog_3_method_3_code 47 = .ok (.iload_n 0, 1) := by decide +kernel
theorem d18_48 : decode prog_3_method_3_code 48 = .ok (.invokevirtual 36, 3) := by decide +kernel
theorem d18_51 : decode prog_3_method_3_code 51 = .ok (.ldc 34, 2) := by decide +kernel
theorem d18_53 : decode prog_3_method_3_code 53 = .ok (.invokevirtual 18, 3) := by decide +kernel
theorem d18_56 : decode prog_3_method_3_code 56 = .ok (.iload_n 1, 1) := by decide +kernel
theorem d18_57 : decode prog_3_method_3_code 57 = .ok (.invokevirtual 36, 3) := by decide +kernel
theorem d18_60 : decode prog_3_method_3_code 60 = .ok (.invokevirtual 28, 3) := by decide +kernel
theorem pn_7 : plainName "com/example/gantry/gantry/descriptor/DescriptorException" = true := by first | (simp [plainName, overriddenIn]; done) | decide +kernel
def Q18 (Z : State) (p1 : Int32) (p2 : Int32) (w_DigitOnes : Addr) (w_DigitTens : Addr) (zc : Int32) (fm : Value) (k_ones : ClassId) (k_tens : ClassId) (h0 : Heap) (n0 : Nat) (v : Option Value) (h : Heap) : Prop :=
  (∃ (x : Addr) (an : Addr) (kn : ClassId), v = some (.ref x) ∧ Keep h0 h [] ∧ Exa Z h x "java/lang/String" ∧ Fld Z h x "java/lang/String" "value" "[B" (.ref an) ∧ Fld Z h x "java/lang/String" "coder" "B" (.int (0 : Int32)) ∧ Arv Z h an kn .byte (Int32.ofNat (posL p1 p2).length) (bl (posL p1 p2)) (.int (0 : Int32)))
theorem ef_18 (m : MethodId) (p1 : Int32) (p2 : Int32) : entryFrame m #[(.int p1), (.int p2)] 2 = mkF m 0 #[.val (.int p1), .val (.int p2)] [] := by first | (simp [entryFrame, mkF, argsToLocals, Value.category]; done) | rfl
set_option maxRecDepth 65536 in
set_option maxHeartbeats 40000000 in
theorem rm18 (l : Launch) (Z : State) (a0 : Array Value) (hw : ∀ d ∈ tables_1, d.before a0 Z = true) (hEL : EW Z a0 consts_1) (ws : List Jvm.Cond) (p1 : Int32) (p2 : Int32) (w_DigitOnes : Addr) (w_DigitTens : Addr) (zc : Int32) (fm : Value) (k_ones : ClassId) (k_tens : ClassId) (h0 : Heap) (n0 : Nat) (O0 : Old Z n0 h0) (SF : Start Z w_DigitOnes w_DigitTens zc fm k_ones k_tens) :
    MeetsH l (⟨"com/example/gantry/gantry/descriptor/DescriptorException", "position", "(II)Ljava/lang/String;"⟩ : MethodName) prog_3_method_3_code 2 (some (.object "java/lang/String")) ws ({ frames := 6, cells := 9, slots := 108, locals := 91 } : Room) ({ frames := 6, cells := 9, slots := 108, locals := 91 } : Room).cells ({ frames := 6, cells := 9, slots := 108, locals := 91 } : Room).slots Z consts_1 #[(.int p1), (.int p2)] h0 n0 (Q18 Z p1 p2 w_DigitOnes w_DigitTens zc fm k_ones k_tens h0 n0) := by
  refine MeetsH.of (F := fun m => mkF m 0 #[.val (.int p1), .val (.int p2)] []) (plainFor_of_name pn_7) (fun m => ef_18 m p1 p2) ?_
  intro p e s m below meth c T0 hx hby hml hown0 hnm hret hlk hZ hS0 hC0 X0 e0
  have hown : s.vm.findClass "com/example/gantry/gantry/descriptor/DescriptorException" = some m.cls := hown0
  have N0 := Fr.nil n0
  have KC0 := Keep.refl h0 []
  have C0 := CHr.refl hC0
  obtain ⟨z0, z1, z2, z3, z4, z5, z6, hzc, z8, hfm, -⟩ := SF
  show Goes _ _ _ _ _ _ (T0.setTop (mkF m 0 #[.val (.int p1), .val (.int p2)] []))
  refine own_iloadN X0 hx (hb hby d18_0) rfl ?_
  refine own_iconst X0 hx (v := (1 : Int32)) (hb hby d18_1) rfl ?_
  by_cases hc2_1 : p1 < (1 : Int32)
  ·
    refine own_icmpNo X0 hx (hb hby d18_2) (tlt (hc2_1 : p1 < (1 : Int32))).2.1 ?_
    refine own_ldcH X0 hx hZ hown hS0 (Nat.zero_le _) (own_w hw 218 rfl) (own_wS hw) hEL (by simp [consts_1]) C0.1 e0 (cs := tx2) tx2_t tx2_z tx2_4 tx2_5 (n := 0) (hb hby d18_5) (by decide +kernel) (by decide) (by decide) (by decide) (fun sa2 T2 h2 k1_2 X2 hS2 hk2_ hZ hown e2 E2 D2 I2 => ?_)
    have O3 := O0.ext E2
    have KC3 := KC0.ext E2
    have CC2 := C0.trans D2
    have KB4 := Keep.refl h2 []
    show Goes _ _ _ _ _ _ (T2.setTop (mkF m 7 #[.val (.int p1), .val (.int p2)] [(.ref sa2)]))
    obtain ⟨t5, kb5, UE5, UV5, UC5, UA5, -⟩ := id I2
    exact own_retRH X2 hx hS2 (by rw [e2]; exact hk2_) hZ hEL (by rw [e2]; exact CC2) N0 hlk (by decide) (by decide) hret rfl rfl rfl (hb hby d18_7) (by rw [e2]; exact ⟨sa2, t5, kb5, rfl, (KC3.trans KB4 all0), UE5, UV5, UC5, (by rw [posL_0 hc2_1]; exact UA5)⟩)
  ·
    refine own_icmpYes X0 hx (pc' := 8) (hb hby d18_2) (flt (hc2_1 : ¬ (p1 < (1 : Int32)))).2.1 (by decide) (by decide) ?_
    refine own_iloadN X0 hx (hb hby d18_8) rfl ?_
    refine own_iconst X0 hx (v := (1 : Int32)) (hb hby d18_9) rfl ?_
    by_cases hc10_6 : p2 < (1 : Int32)
    ·
      refine own_icmpNo X0 hx (hb hby d18_10) (tlt (hc10_6 : p2 < (1 : Int32))).2.1 ?_
      refine own_new X0 hx hZ hown (own_w hw 34 rfl) (own_w hw 35 rfl) (own_w hw 36 rfl) e0 (hb hby d18_13) (by decide) (by decide) (fun T7 h7 b7 g7 X7 e7 E7 A7 D7 => ?_)
      have ge_b7 : n0 ≤ b7 := Nat.le_trans (own_sz O0) (Nat.le_of_eq g7.symm)
      have sz_b7 : h0.size ≤ b7 := Nat.le_trans KC0.1 (Nat.le_of_eq g7.symm)
      have O8 := O0.ext E7
      have KC8 := KC0.ext E7
      have F7_value_b7 : Fld Z h7 b7 "java/lang/AbstractStringBuilder" "value" "[B" .null := D7 (Or.inl (own_w hw 49 rfl)) (ty := (.array .byte)) (by decide)
      have F7_coder_b7 : Fld Z h7 b7 "java/lang/AbstractStringBuilder" "coder" "B" (.int (0 : Int32)) := D7 (Or.inl (own_w hw 51 rfl)) (ty := .byte) (by decide)
      have F7_count_b7 : Fld Z h7 b7 "java/lang/AbstractStringBuilder" "count" "I" (.int (0 : Int32)) := D7 (Or.inl (own_w hw 73 rfl)) (ty := .int) (by decide)
      refine own_dup X7 hx (hb hby d18_16) rfl ?_
      refine own_special X7 hx hZ hown (y := (⟨"java/lang/StringBuilder", "<init>", "()V"⟩ : MethodName)) rfl (own_w hw 37 rfl) (own_w hw 38 rfl) (own_w hw 36 rfl) (own_w hw 39 rfl) (a := b7) (by decide) (W := 1) (by decide) (by decide) N0 e7 (by rw [hml]; rfl) (argsL := []) (rest := [(.ref b7)]) (lenOf pd_19 rfl) (Nat.le_of_eq rfl) (by decide) (by decide) (rm8 l Z a0 hw [] b7 (.null) ((.int (0 : Int32))) w_DigitOnes w_DigitTens zc fm k_ones k_tens h7 n0 O8 ⟨z0, z1, z2, z3, z4, z5, z6, hzc, z8, hfm, trivial⟩ A7 F7_value_b7 F7_coder_b7 F7_count_b7 ge_b7) rfl (hb hby d18_17) ?_
      intro v9 T9 lc9 X9 N9 hQ9
      obtain ⟨an_9, kn_9, rfl, K9, r9_0, r9_1, r9_2, r9_3, r9_4, r9_5⟩ := hQ9
      have E10_b7 := A7.keep K9
      have O10 := O8.keep K9 (allS ge_b7 all0)
      have KC10 := KC8.trans K9 (allS (Or.inr sz_b7) all0)
      have ge_an_9 : n0 ≤ an_9 := Nat.le_trans (own_sz O8) r9_3
      have sz_an_9 : h0.size ≤ an_9 := Nat.le_trans KC8.1 r9_3
      have Cc11 := C0.trans (CHr.keep KC10 all0 C0.1)
      have SP13 := Safe.keep KC10 all0 C0.1 (Safe.new sz_an_9)
      have SL13 := r9_4.lt
      have SP14 := Safe.keep KC10 all0 C0.1 (Safe.new sz_b7)
      have SL14 := E10_b7.lt
      refine own_ldcH X9 hx hZ hown hS0 (Nat.zero_le _) (own_w hw 102 rfl) (own_wS hw) hEL (by simp [consts_1]) Cc11.1 rfl (cs := tx0) tx0_t tx0_z tx0_4 tx0_5 (n := 4) (hb hby d18_20) (by decide +kernel) (by decide) (by decide) (by decide) (fun sa12 T12 h12 k1_12 X12 hS12 hk12_ hZ hown e12 E12 D12 I12 => ?_)
      have E15_b7 := E10_b7.ext E12
      have E15_an_9 := r9_4.ext E12
      have F15_value_b7 := r9_0.ext E12
      have F15_coder_b7 := r9_1.ext E12
      have F15_count_b7 := r9_2.ext E12
      have A15_an_9 := r9_5.ext E12
      have O15 := O10.ext E12
      have KC15 := KC10.ext E12
      have CC12 := Cc11.trans D12
      have SA16_an_9 := D12.safe SL13 SP13
      have SA16_b7 := D12.safe SL14 SP14
      have KB16 := Keep.refl h12 [an_9, b7]
      show Goes _ _ _ _ _ _ (T12.setTop (mkF m 22 #[.val (.int p1), .val (.int p2)] [(.ref sa12), (.ref b7)]))
      obtain ⟨t17, kb17, UE17, UV17, UC17, UA17, -⟩ := id I12
      refine own_virtual X12 hx hZ hown (y := (⟨"java/lang/StringBuilder", "append", "(Ljava/lang/String;)Ljava/lang/StringBuilder;"⟩ : MethodName)) (z := (⟨"java/lang/StringBuilder", "append", "(Ljava/lang/String;)Ljava/lang/StringBuilder;"⟩ : MethodName)) (own_w hw 52 rfl) (own_w hw 53 rfl) (notFace_of_selects (args := #[]) (mvT hZ (own_w hw 55 rfl))) (own_w hw 55 rfl) (own_w hw 54 rfl) (own_w hw 36 rfl) (own_w hw 56 rfl) (a := b7) E15_b7 (by decide) (W := 0) (by decide) (by decide) N9 e12 (by rw [hml]; rfl) (argsL := [(.ref sa12)]) (rest := []) (lenOf pd_20 rfl) (Nat.le_of_eq rfl) (by decide) (by decide) (rm1016r l Z a0 hw [] b7 sa12 an_9 kn_9 ([] : List Int32) (List.replicate 16 (Value.int (0 : Int32))) t17 kb17 tx0 w_DigitOnes w_DigitTens zc fm k_ones k_tens h12 n0 O15 ⟨z0, z1, z2, z3, z4, z5, z6, hzc, z8, hfm, trivial⟩ E15_b7 F15_value_b7 F15_coder_b7 F15_count_b7 A15_an_9 E15_an_9 ge_b7 ge_an_9 rfl UE17 UV17 UC17 UA17 (by decide)) rfl (hb hby d18_22) ?_
      intro v18 T18 lc18 X18 N18 hQ18
      obtain ⟨rfl, K18, r18_0, r18_1, r18_2, r18_3, r18_4⟩ := hQ18
      have E19_b7 := E15_b7.keep K18
      have E19_an_9 := E15_an_9.keep K18
      have O19 := O15.keep K18 (allS ge_b7 (allS ge_an_9 all0))
      have hk19 := Nat.le_trans hk12_ K18.1
      have KC19 := KB16.trans K18 (allS (Or.inl (List.mem_of_getElem? (i := 1) rfl)) (allS (Or.inl (List.mem_of_getElem? (i := 0) rfl)) all0))
      refine own_iloadN X18 hx (hb hby d18_25) rfl ?_
      refine own_virtual X18 hx hZ hown (y := (⟨"java/lang/StringBuilder", "append", "(I)Ljava/lang/StringBuilder;"⟩ : MethodName)) (z := (⟨"java/lang/StringBuilder", "append", "(I)Ljava/lang/StringBuilder;"⟩ : MethodName)) (own_w hw 105 rfl) (own_w hw 106 rfl) (notFace_of_selects (args := #[]) (mvT hZ (own_w hw 108 rfl))) (own_w hw 108 rfl) (own_w hw 107 rfl) (own_w hw 36 rfl) (own_w hw 109 rfl) (a := b7) E19_b7 (by decide) (W := 0) (by decide) (by decide) N18 rfl (by rw [hml]; rfl) (argsL := [(.int p1)]) (rest := []) (lenOf pd_21 rfl) (Nat.le_of_eq rfl) (by decide) (by decide) (rm1916r l Z a0 hw [] b7 p1 an_9 kn_9 (([] : List Int32) ++ tx0) ((List.replicate 16 (Value.int (0 : Int32))).drop tx0.length) w_DigitOnes w_DigitTens zc fm k_ones k_tens T18.heap n0 O19 ⟨z0, z1, z2, z3, z4, z5, z6, hzc, z8, hfm, trivial⟩ E19_b7 r18_0 r18_1 r18_2 r18_3 E19_an_9 ge_b7 ge_an_9 r18_4 (own_posi hc2_1) (by have q0 := nd_le p1.toNatClampNeg; have q1 := nd_le p2.toNatClampNeg; simp only [List.length_append, List.length_nil, List.length_cons, dg_len, tx0_l, tx1_l, tx2_l] <;> omega)) rfl (hb hby d18_26) ?_
      intro v20 T20 lc20 X20 N20 hQ20
      obtain ⟨rfl, K20, r20_0, r20_1, r20_2, r20_3, r20_4⟩ := hQ20
      have E21_b7 := E19_b7.keep K20
      have E21_an_9 := E19_an_9.keep K20
      have O21 := O19.keep K20 (allS ge_b7 (allS ge_an_9 all0))
      have hk21 := Nat.le_trans hk19 K20.1
      have KC21 := KC19.trans K20 (allS (Or.inl (List.mem_of_getElem? (i := 1) rfl)) (allS (Or.inl (List.mem_of_getElem? (i := 0) rfl)) all0))
      show Goes _ _ _ _ _ _ (T20.setTop (mkF m 29 #[.val (.int p1), .val (.int p2)] [(.ref b7)]))
      by_cases hft29 : ((([] : List Int32) ++ tx0) ++ (dg p1.toNatClampNeg)).length = 16
      ·
        show Goes _ _ _ _ _ _ (T20.setTop (mkF m 29 #[.val (.int p1), .val (.int p2)] [(.ref b7)]))
        refine own_virtual X20 hx hZ hown (y := (⟨"java/lang/StringBuilder", "toString", "()Ljava/lang/String;"⟩ : MethodName)) (z := (⟨"java/lang/StringBuilder", "toString", "()Ljava/lang/String;"⟩ : MethodName)) (own_w hw 127 rfl) (own_w hw 128 rfl) (notFace_of_selects (args := #[]) (mvT hZ (own_w hw 130 rfl))) (own_w hw 130 rfl) (own_w hw 129 rfl) (own_w hw 36 rfl) (own_w hw 131 rfl) (a := b7) E21_b7 (by decide) (W := 0) (by decide) (by decide) N20 rfl (by rw [hml]; rfl) (argsL := []) (rest := []) (lenOf pd_22 rfl) (Nat.le_of_eq rfl) (by decide) (by decide) (rm2416f l Z a0 hw [] b7 an_9 kn_9 ((([] : List Int32) ++ tx0) ++ (dg p1.toNatClampNeg)) (((List.replicate 16 (Value.int (0 : Int32))).drop tx0.length).drop (nd p1.toNatClampNeg)) w_DigitOnes w_DigitTens zc fm k_ones k_tens T20.heap n0 O21 ⟨z0, z1, z2, z3, z4, z5, z6, hzc, z8, hfm, trivial⟩ E21_b7 r20_0 r20_1 r20_2 r20_3 E21_an_9 ge_b7 ge_an_9 r20_4 hft29) rfl (hb hby d18_29) ?_
        intro v22 T22 lc22 X22 N22 hQ22
        obtain ⟨x_22, an_22, kn_22, rfl, K22, r22_0, r22_1, r22_2, r22_3, r22_4, r22_5⟩ := hQ22
        have O23 := O21.keep K22 all0
        have hk23 := Nat.le_trans hk21 K22.1
        have KC23 := KC21.trans K22 all0
        have ge_x_22 : n0 ≤ x_22 := Nat.le_trans (own_sz O21) r22_0
        have sz_x_22 : h12.size ≤ x_22 := Nat.le_trans KC21.1 r22_0
        have ge_an_22 : n0 ≤ an_22 := Nat.le_trans (own_sz O21) r22_1
        have sz_an_22 : h12.size ≤ an_22 := Nat.le_trans KC21.1 r22_1
        refine own_goto X22 hx (pc' := 63) (hb hby d18_32) (by decide) (by decide) ?_
        show Goes _ _ _ _ _ _ (T22.setTop (mkF m 63 #[.val (.int p1), .val (.int p2)] [(.ref x_22)]))
        have Cc24 := CC12.trans (CHr.keep KC23 (allS SA16_an_9 (allS SA16_b7 all0)) CC12.1)
        exact own_retRH X22 hx hS12 hk23 hZ hEL Cc24 N22 hlk (by decide) (by decide) hret rfl rfl rfl (hb hby d18_63) (⟨x_22, an_22, kn_22, rfl, (KC15.trans KC23 (allS (Or.inr sz_an_9) (allS (Or.inr sz_b7) all0))), r22_2, r22_3, r22_4, (by rw [posL_1 hc2_1 hc10_6]; exact r22_5)⟩)
      ·
        show Goes _ _ _ _ _ _ (T20.setTop (mkF m 29 #[.val (.int p1), .val (.int p2)] [(.ref b7)]))
        refine own_virtual X20 hx hZ hown (y := (⟨"java/lang/StringBuilder", "toString", "()Ljava/lang/String;"⟩ : MethodName)) (z := (⟨"java/lang/StringBuilder", "toString", "()Ljava/lang/String;"⟩ : MethodName)) (own_w hw 127 rfl) (own_w hw 128 rfl) (notFace_of_selects (args := #[]) (mvT hZ (own_w hw 130 rfl))) (own_w hw 130 rfl) (own_w hw 129 rfl) (own_w hw 36 rfl) (own_w hw 131 rfl) (a := b7) E21_b7 (by decide) (W := 0) (by decide) (by decide) N20 rfl (by rw [hml]; rfl) (argsL := []) (rest := []) (lenOf pd_22 rfl) (Nat.le_of_eq rfl) (by decide) (by decide) (rm2416c l Z a0 hw [] b7 an_9 kn_9 ((([] : List Int32) ++ tx0) ++ (dg p1.toNatClampNeg)) (((List.replicate 16 (Value.int (0 : Int32))).drop tx0.length).drop (nd p1.toNatClampNeg)) w_DigitOnes w_DigitTens zc fm k_ones k_tens T20.heap n0 O21 ⟨z0, z1, z2, z3, z4, z5, z6, hzc, z8, hfm, trivial⟩ E21_b7 r20_0 r20_1 r20_2 r20_3 E21_an_9 ge_b7 ge_an_9 r20_4 (by omega)) rfl (hb hby d18_29) ?_
        intro v25 T25 lc25 X25 N25 hQ25
        obtain ⟨x_25, an_25, kn_25, rfl, K25, r25_0, r25_1, r25_2, r25_3, r25_4, r25_5⟩ := hQ25
        have O26 := O21.keep K25 all0
        have hk26 := Nat.le_trans hk21 K25.1
        have KC26 := KC21.trans K25 all0
        have ge_x_25 : n0 ≤ x_25 := Nat.le_trans (own_sz O21) r25_0
        have sz_x_25 : h12.size ≤ x_25 := Nat.le_trans KC21.1 r25_0
        have ge_an_25 : n0 ≤ an_25 := Nat.le_trans (own_sz O21) r25_1
        have sz_an_25 : h12.size ≤ an_25 := Nat.le_trans KC21.1 r25_1
        refine own_goto X25 hx (pc' := 63) (hb hby d18_32) (by decide) (by decide) ?_
        show Goes _ _ _ _ _ _ (T25.setTop (mkF m 63 #[.val (.int p1), .val (.int p2)] [(.ref x_25)]))
        have Cc27 := CC12.trans (CHr.keep KC26 (allS SA16_an_9 (allS SA16_b7 all0)) CC12.1)
        exact own_retRH X25 hx hS12 hk26 hZ hEL Cc27 N25 hlk (by decide) (by decide) hret rfl rfl rfl (hb hby d18_63) (⟨x_25, an_25, kn_25, rfl, (KC15.trans KC26 (allS (Or.inr sz_an_9) (allS (Or.inr sz_b7) all0))), r25_2, r25_3, r25_4, (by rw [posL_1 hc2_1 hc10_6]; exact r25_5)⟩)
    ·
      refine own_icmpYes X0 hx (pc' := 35) (hb hby d18_10) (flt (hc10_6 : ¬ (p2 < (1 : Int32)))).2.1 (by decide) (by decide) ?_
      refine own_new X0 hx hZ hown (own_w hw 34 rfl) (own_w hw 35 rfl) (own_w hw 36 rfl) e0 (hb hby d18_35) (by decide) (by decide) (fun T28 h28 b28 g28 X28 e28 E28 A28 D28 => ?_)
      have ge_b28 : n0 ≤ b28 := Nat.le_trans (own_sz O0) (Nat.le_of_eq g28.symm)
      have sz_b28 : h0.size ≤ b28 := Nat.le_trans KC0.1 (Nat.le_of_eq g28.symm)
      have O29 := O0.ext E28
      have KC29 := KC0.ext E28
      have F28_value_b28 : Fld Z h28 b28 "java/lang/AbstractStringBuilder" "value" "[B" .null := D28 (Or.inl (own_w hw 49 rfl)) (ty := (.array .byte)) (by decide)
      have F28_coder_b28 : Fld Z h28 b28 "java/lang/AbstractStringBuilder" "coder" "B" (.int (0 : Int32)) := D28 (Or.inl (own_w hw 51 rfl)) (ty := .byte) (by decide)
      have F28_count_b28 : Fld Z h28 b28 "java/lang/AbstractStringBuilder" "count" "I" (.int (0 : Int32)) := D28 (Or.inl (own_w hw 73 rfl)) (ty := .int) (by decide)
      refine own_dup X28 hx (hb hby d18_38) rfl ?_
      refine own_special X28 hx hZ hown (y := (⟨"java/lang/StringBuilder", "<init>", "()V"⟩ : MethodName)) rfl (own_w hw 37 rfl) (own_w hw 38 rfl) (own_w hw 36 rfl) (own_w hw 39 rfl) (a := b28) (by decide) (W := 1) (by decide) (by decide) N0 e28 (by rw [hml]; rfl) (argsL := []) (rest := [(.ref b28)]) (lenOf pd_19 rfl) (Nat.le_of_eq rfl) (by decide) (by decide) (rm8 l Z a0 hw [] b28 (.null) ((.int (0 : Int32))) w_DigitOnes w_DigitTens zc fm k_ones k_tens h28 n0 O29 ⟨z0, z1, z2, z3, z4, z5, z6, hzc, z8, hfm, trivial⟩ A28 F28_value_b28 F28_coder_b28 F28_count_b28 ge_b28) rfl (hb hby d18_39) ?_
      intro v30 T30 lc30 X30 N30 hQ30
      obtain ⟨an_30, kn_30, rfl, K30, r30_0, r30_1, r30_2, r30_3, r30_4, r30_5⟩ := hQ30
      have E31_b28 := A28.keep K30
      have O31 := O29.keep K30 (allS ge_b28 all0)
      have KC31 := KC29.trans K30 (allS (Or.inr sz_b28) all0)
      have ge_an_30 : n0 ≤ an_30 := Nat.le_trans (own_sz O29) r30_3
      have sz_an_30 : h0.size ≤ an_30 := Nat.le_trans KC29.1 r30_3
      have Cc32 := C0.trans (CHr.keep KC31 all0 C0.1)
      have SP34 := Safe.keep KC31 all0 C0.1 (Safe.new sz_an_30)
      have SL34 := r30_4.lt
      have SP35 := Safe.keep KC31 all0 C0.1 (Safe.new sz_b28)
      have SL35 := E31_b28.lt
      refine own_ldcH X30 hx hZ hown hS0 (Nat.zero_le _) (own_w hw 102 rfl) (own_wS hw) hEL (by simp [consts_1]) Cc32.1 rfl (cs := tx0) tx0_t tx0_z tx0_4 tx0_5 (n := 4) (hb hby d18_42) (by decide +kernel) (by decide) (by decide) (by decide) (fun sa33 T33 h33 k1_33 X33 hS33 hk33_ hZ hown e33 E33 D33 I33 => ?_)
      have E36_b28 := E31_b28.ext E33
      have E36_an_30 := r30_4.ext E33
      have F36_value_b28 := r30_0.ext E33
      have F36_coder_b28 := r30_1.ext E33
      have F36_count_b28 := r30_2.ext E33
      have A36_an_30 := r30_5.ext E33
      have O36 := O31.ext E33
      have KC36 := KC31.ext E33
      have CC33 := Cc32.trans D33
      have SA37_an_30 := D33.safe SL34 SP34
      have SA37_b28 := D33.safe SL35 SP35
      have KB37 := Keep.refl h33 [an_30, b28]
      show Goes _ _ _ _ _ _ (T33.setTop (mkF m 44 #[.val (.int p1), .val (.int p2)] [(.ref sa33), (.ref b28)]))
      obtain ⟨t38, kb38, UE38, UV38, UC38, UA38, -⟩ := id I33
      refine own_virtual X33 hx hZ hown (y := (⟨"java/lang/StringBuilder", "append", "(Ljava/lang/String;)Ljava/lang/StringBuilder;"⟩ : MethodName)) (z := (⟨"java/lang/StringBuilder", "append", "(Ljava/lang/String;)Ljava/lang/StringBuilder;"⟩ : MethodName)) (own_w hw 52 rfl) (own_w hw 53 rfl) (notFace_of_selects (args := #[]) (mvT hZ (own_w hw 55 rfl))) (own_w hw 55 rfl) (own_w hw 54 rfl) (own_w hw 36 rfl) (own_w hw 56 rfl) (a := b28) E36_b28 (by decide) (W := 0) (by decide) (by decide) N30 e33 (by rw [hml]; rfl) (argsL := [(.ref sa33)]) (rest := []) (lenOf pd_20 rfl) (Nat.le_of_eq rfl) (by decide) (by decide) (rm1016r l Z a0 hw [] b28 sa33 an_30 kn_30 ([] : List Int32) (List.replicate 16 (Value.int (0 : Int32))) t38 kb38 tx0 w_DigitOnes w_DigitTens zc fm k_ones k_tens h33 n0 O36 ⟨z0, z1, z2, z3, z4, z5, z6, hzc, z8, hfm, trivial⟩ E36_b28 F36_value_b28 F36_coder_b28 F36_count_b28 A36_an_30 E36_an_30 ge_b28 ge_an_30 rfl UE38 UV38 UC38 UA38 (by decide)) rfl (hb hby d18_44) ?_
      intro v39 T39 lc39 X39 N39 hQ39
      obtain ⟨rfl, K39, r39_0, r39_1, r39_2, r39_3, r39_4⟩ := hQ39
      have E40_b28 := E36_b28.keep K39
      have E40_an_30 := E36_an_30.keep K39
      have O40 := O36.keep K39 (allS ge_b28 (allS ge_an_30 all0))
      have hk40 := Nat.le_trans hk33_ K39.1
      have KC40 := KB37.trans K39 (allS (Or.inl (List.mem_of_getElem? (i := 1) rfl)) (allS (Or.inl (List.mem_of_getElem? (i := 0) rfl)) all0))
      refine own_iloadN X39 hx (hb hby d18_47) rfl ?_
      refine own_virtual X39 hx hZ hown (y := (⟨"java/lang/StringBuilder", "append", "(I)Ljava/lang/StringBuilder;"⟩ : MethodName)) (z := (⟨"java/lang/StringBuilder", "append", "(I)Ljava/lang/StringBuilder;"⟩ : MethodName)) (own_w hw 105 rfl) (own_w hw 106 rfl) (notFace_of_selects (args := #[]) (mvT hZ (own_w hw 108 rfl))) (own_w hw 108 rfl) (own_w hw 107 rfl) (own_w hw 36 rfl) (own_w hw 109 rfl) (a := b28) E40_b28 (by decide) (W := 0) (by decide) (by decide) N39 rfl (by rw [hml]; rfl) (argsL := [(.int p1)]) (rest := []) (lenOf pd_21 rfl) (Nat.le_of_eq rfl) (by decide) (by decide) (rm1916r l Z a0 hw [] b28 p1 an_30 kn_30 (([] : List Int32) ++ tx0) ((List.replicate 16 (Value.int (0 : Int32))).drop tx0.length) w_DigitOnes w_DigitTens zc fm k_ones k_tens T39.heap n0 O40 ⟨z0, z1, z2, z3, z4, z5, z6, hzc, z8, hfm, trivial⟩ E40_b28 r39_0 r39_1 r39_2 r39_3 E40_an_30 ge_b28 ge_an_30 r39_4 (own_posi hc2_1) (by have q0 := nd_le p1.toNatClampNeg; have q1 := nd_le p2.toNatClampNeg; simp only [List.length_append, List.length_nil, List.length_cons, dg_len, tx0_l, tx1_l, tx2_l] <;> omega)) rfl (hb hby d18_48) ?_
      intro v41 T41 lc41 X41 N41 hQ41
      obtain ⟨rfl, K41, r41_0, r41_1, r41_2, r41_3, r41_4⟩ := hQ41
      have E42_b28 := E40_b28.keep K41
      have E42_an_30 := E40_an_30.keep K41
      have O42 := O40.keep K41 (allS ge_b28 (allS ge_an_30 all0))
      have hk42 := Nat.le_trans hk40 K41.1
      have KC42 := KC40.trans K41 (allS (Or.inl (List.mem_of_getElem? (i := 1) rfl)) (allS (Or.inl (List.mem_of_getElem? (i := 0) rfl)) all0))
      have Cc43 := CC33.trans (CHr.keep KC42 (allS SA37_an_30 (allS SA37_b28 all0)) CC33.1)
      have SP45 := Safe.keep KC42 (allS SA37_an_30 (allS SA37_b28 all0)) CC33.1 SA37_an_30
      have SL45 := E42_an_30.lt
      have SP46 := Safe.keep KC42 (allS SA37_an_30 (allS SA37_b28 all0)) CC33.1 SA37_b28
      have SL46 := E42_b28.lt
      refine own_ldcH X41 hx hZ hown hS33 hk42 (own_w hw 102 rfl) (own_wS hw) hEL (by simp [consts_1]) Cc43.1 rfl (cs := tx0) tx0_t tx0_z tx0_4 tx0_5 (n := 4) (hb hby d18_51) (by decide +kernel) (by decide) (by decide) (by decide) (fun sa44 T44 h44 k1_44 X44 hS44 hk44_ hZ hown e44 E44 D44 I44 => ?_)
      have E47_b28 := E42_b28.ext E44
      have E47_an_30 := E42_an_30.ext E44
      have F47_value_b28 := r41_0.ext E44
      have F47_coder_b28 := r41_1.ext E44
      have F47_count_b28 := r41_2.ext E44
      have A47_an_30 := r41_3.ext E44
      have O47 := O42.ext E44
      have KC47 := KC42.ext E44
      have CC44 := Cc43.trans D44
      have KQ48 := KC36.trans KC47 (allS (Or.inr sz_an_30) (allS (Or.inr sz_b28) all0))
      have SA48_an_30 := D44.safe SL45 SP45
      have SA48_b28 := D44.safe SL46 SP46
      have KB48 := Keep.refl h44 [an_30, b28]
      show Goes _ _ _ _ _ _ (T44.setTop (mkF m 53 #[.val (.int p1), .val (.int p2)] [(.ref sa44), (.ref b28)]))
      obtain ⟨t49, kb49, UE49, UV49, UC49, UA49, -⟩ := id I44
      refine own_virtual X44 hx hZ hown (y := (⟨"java/lang/StringBuilder", "append", "(Ljava/lang/String;)Ljava/lang/StringBuilder;"⟩ : MethodName)) (z := (⟨"java/lang/StringBuilder", "append", "(Ljava/lang/String;)Ljava/lang/StringBuilder;"⟩ : MethodName)) (own_w hw 52 rfl) (own_w hw 53 rfl) (notFace_of_selects (args := #[]) (mvT hZ (own_w hw 55 rfl))) (own_w hw 55 rfl) (own_w hw 54 rfl) (own_w hw 36 rfl) (own_w hw 56 rfl) (a := b28) E47_b28 (by decide) (W := 0) (by decide) (by decide) N41 e44 (by rw [hml]; rfl) (argsL := [(.ref sa44)]) (rest := []) (lenOf pd_20 rfl) (Nat.le_of_eq rfl) (by decide) (by decide) (rm1016r l Z a0 hw [] b28 sa44 an_30 kn_30 ((([] : List Int32) ++ tx0) ++ (dg p1.toNatClampNeg)) (((List.replicate 16 (Value.int (0 : Int32))).drop tx0.length).drop (nd p1.toNatClampNeg)) t49 kb49 tx0 w_DigitOnes w_DigitTens zc fm k_ones k_tens h44 n0 O47 ⟨z0, z1, z2, z3, z4, z5, z6, hzc, z8, hfm, trivial⟩ E47_b28 F47_value_b28 F47_coder_b28 F47_count_b28 A47_an_30 E47_an_30 ge_b28 ge_an_30 r41_4 UE49 UV49 UC49 UA49 (by have q0 := nd_le p1.toNatClampNeg; have q1 := nd_le p2.toNatClampNeg; simp only [List.length_append, List.length_nil, List.length_cons, dg_len, tx0_l, tx1_l, tx2_l] <;> omega)) rfl (hb hby d18_53) ?_
      intro v50 T50 lc50 X50 N50 hQ50
      obtain ⟨rfl, K50, r50_0, r50_1, r50_2, r50_3, r50_4⟩ := hQ50
      have E51_b28 := E47_b28.keep K50
      have E51_an_30 := E47_an_30.keep K50
      have O51 := O47.keep K50 (allS ge_b28 (allS ge_an_30 all0))
      have hk51 := Nat.le_trans hk44_ K50.1
      have KC51 := KB48.trans K50 (allS (Or.inl (List.mem_of_getElem? (i := 1) rfl)) (allS (Or.inl (List.mem_of_getElem? (i := 0) rfl)) all0))
      refine own_iloadN X50 hx (hb hby d18_56) rfl ?_
      show Goes _ _ _ _ _ _ (T50.setTop (mkF m 57 #[.val (.int p1), .val (.int p2)] [(.int p2), (.ref b28)]))
      by_cases hft57 : (((([] : List Int32) ++ tx0) ++ (dg p1.toNatClampNeg)) ++ tx0).length + nd p2.toNatClampNeg ≤ 16
      ·
        show Goes _ _ _ _ _ _ (T50.setTop (mkF m 57 #[.val (.int p1), .val (.int p2)] [(.int p2), (.ref b28)]))
        refine own_virtual X50 hx hZ hown (y := (⟨"java/lang/StringBuilder", "append", "(I)Ljava/lang/StringBuilder;"⟩ : MethodName)) (z := (⟨"java/lang/StringBuilder", "append", "(I)Ljava/lang/StringBuilder;"⟩ : MethodName)) (own_w hw 105 rfl) (own_w hw 106 rfl) (notFace_of_selects (args := #[]) (mvT hZ (own_w hw 108 rfl))) (own_w hw 108 rfl) (own_w hw 107 rfl) (own_w hw 36 rfl) (own_w hw 109 rfl) (a := b28) E51_b28 (by decide) (W := 0) (by decide) (by decide) N50 rfl (by rw [hml]; rfl) (argsL := [(.int p2)]) (rest := []) (lenOf pd_21 rfl) (Nat.le_of_eq rfl) (by decide) (by decide) (rm1916r l Z a0 hw [] b28 p2 an_30 kn_30 (((([] : List Int32) ++ tx0) ++ (dg p1.toNatClampNeg)) ++ tx0) ((((List.replicate 16 (Value.int (0 : Int32))).drop tx0.length).drop (nd p1.toNatClampNeg)).drop tx0.length) w_DigitOnes w_DigitTens zc fm k_ones k_tens T50.heap n0 O51 ⟨z0, z1, z2, z3, z4, z5, z6, hzc, z8, hfm, trivial⟩ E51_b28 r50_0 r50_1 r50_2 r50_3 E51_an_30 ge_b28 ge_an_30 r50_4 (own_posi hc10_6) hft57) rfl (hb hby d18_57) ?_
        intro v52 T52 lc52 X52 N52 hQ52
        obtain ⟨rfl, K52, r52_0, r52_1, r52_2, r52_3, r52_4⟩ := hQ52
        have E53_b28 := E51_b28.keep K52
        have E53_an_30 := E51_an_30.keep K52
        have O53 := O51.keep K52 (allS ge_b28 (allS ge_an_30 all0))
        have hk53 := Nat.le_trans hk51 K52.1
        have KC53 := KC51.trans K52 (allS (Or.inl (List.mem_of_getElem? (i := 1) rfl)) (allS (Or.inl (List.mem_of_getElem? (i := 0) rfl)) all0))
        show Goes _ _ _ _ _ _ (T52.setTop (mkF m 60 #[.val (.int p1), .val (.int p2)] [(.ref b28)]))
        by_cases hft60 : ((((([] : List Int32) ++ tx0) ++ (dg p1.toNatClampNeg)) ++ tx0) ++ (dg p2.toNatClampNeg)).length = 16
        ·
          show Goes _ _ _ _ _ _ (T52.setTop (mkF m 60 #[.val (.int p1), .val (.int p2)] [(.ref b28)]))
          refine own_virtual X52 hx hZ hown (y := (⟨"java/lang/StringBuilder", "toString", "()Ljava/lang/String;"⟩ : MethodName)) (z := (⟨"java/lang/StringBuilder", "toString", "()Ljava/lang/String;"⟩ : MethodName)) (own_w hw 127 rfl) (own_w hw 128 rfl) (notFace_of_selects (args := #[]) (mvT hZ (own_w hw 130 rfl))) (own_w hw 130 rfl) (own_w hw 129 rfl) (own_w hw 36 rfl) (own_w hw 131 rfl) (a := b28) E53_b28 (by decide) (W := 0) (by decide) (by decide) N52 rfl (by rw [hml]; rfl) (argsL := []) (rest := []) (lenOf pd_22 rfl) (Nat.le_of_eq rfl) (by decide) (by decide) (rm2416f l Z a0 hw [] b28 an_30 kn_30 ((((([] : List Int32) ++ tx0) ++ (dg p1.toNatClampNeg)) ++ tx0) ++ (dg p2.toNatClampNeg)) (((((List.replicate 16 (Value.int (0 : Int32))).drop tx0.length).drop (nd p1.toNatClampNeg)).drop tx0.length).drop (nd p2.toNatClampNeg)) w_DigitOnes w_DigitTens zc fm k_ones k_tens T52.heap n0 O53 ⟨z0, z1, z2, z3, z4, z5, z6, hzc, z8, hfm, trivial⟩ E53_b28 r52_0 r52_1 r52_2 r52_3 E53_an_30 ge_b28 ge_an_30 r52_4 hft60) rfl (hb hby d18_60) ?_
          intro v54 T54 lc54 X54 N54 hQ54
          obtain ⟨x_54, an_54, kn_54, rfl, K54, r54_0, r54_1, r54_2, r54_3, r54_4, r54_5⟩ := hQ54
          have O55 := O53.keep K54 all0
          have hk55 := Nat.le_trans hk53 K54.1
          have KC55 := KC53.trans K54 all0
          have ge_x_54 : n0 ≤ x_54 := Nat.le_trans (own_sz O53) r54_0
          have sz_x_54 : h44.size ≤ x_54 := Nat.le_trans KC53.1 r54_0
          have ge_an_54 : n0 ≤ an_54 := Nat.le_trans (own_sz O53) r54_1
          have sz_an_54 : h44.size ≤ an_54 := Nat.le_trans KC53.1 r54_1
          show Goes _ _ _ _ _ _ (T54.setTop (mkF m 63 #[.val (.int p1), .val (.int p2)] [(.ref x_54)]))
          have Cc56 := CC44.trans (CHr.keep KC55 (allS SA48_an_30 (allS SA48_b28 all0)) CC44.1)
          exact own_retRH X54 hx hS44 hk55 hZ hEL Cc56 N54 hlk (by decide) (by decide) hret rfl rfl rfl (hb hby d18_63) (⟨x_54, an_54, kn_54, rfl, (KQ48.trans KC55 (allS (Or.inr sz_an_30) (allS (Or.inr sz_b28) all0))), r54_2, r54_3, r54_4, (by rw [posL_2 hc2_1 hc10_6]; exact r54_5)⟩)
        ·
          show Goes _ _ _ _ _ _ (T52.setTop (mkF m 60 #[.val (.int p1), .val (.int p2)] [(.ref b28)]))
          refine own_virtual X52 hx hZ hown (y := (⟨"java/lang/StringBuilder", "toString", "()Ljava/lang/String;"⟩ : MethodName)) (z := (⟨"java/lang/StringBuilder", "toString", "()Ljava/lang/String;"⟩ : MethodName)) (own_w hw 127 rfl) (own_w hw 128 rfl) (notFace_of_selects (args := #[]) (mvT hZ (own_w hw 130 rfl))) (own_w hw 130 rfl) (own_w hw 129 rfl) (own_w hw 36 rfl) (own_w hw 131 rfl) (a := b28) E53_b28 (by decide) (W := 0) (by decide) (by decide) N52 rfl (by rw [hml]; rfl) (argsL := []) (rest := []) (lenOf pd_22 rfl) (Nat.le_of_eq rfl) (by decide) (by decide) (rm2416c l Z a0 hw [] b28 an_30 kn_30 ((((([] : List Int32) ++ tx0) ++ (dg p1.toNatClampNeg)) ++ tx0) ++ (dg p2.toNatClampNeg)) (((((List.replicate 16 (Value.int (0 : Int32))).drop tx0.length).drop (nd p1.toNatClampNeg)).drop tx0.length).drop (nd p2.toNatClampNeg)) w_DigitOnes w_DigitTens zc fm k_ones k_tens T52.heap n0 O53 ⟨z0, z1, z2, z3, z4, z5, z6, hzc, z8, hfm, trivial⟩ E53_b28 r52_0 r52_1 r52_2 r52_3 E53_an_30 ge_b28 ge_an_30 r52_4 (by omega)) rfl (hb hby d18_60) ?_
          intro v57 T57 lc57 X57 N57 hQ57
          obtain ⟨x_57, an_57, kn_57, rfl, K57, r57_0, r57_1, r57_2, r57_3, r57_4, r57_5⟩ := hQ57
          have O58 := O53.keep K57 all0
          have hk58 := Nat.le_trans hk53 K57.1
          have KC58 := KC53.trans K57 all0
          have ge_x_57 : n0 ≤ x_57 := Nat.le_trans (own_sz O53) r57_0
          have sz_x_57 : h44.size ≤ x_57 := Nat.le_trans KC53.1 r57_0
          have ge_an_57 : n0 ≤ an_57 := Nat.le_trans (own_sz O53) r57_1
          have sz_an_57 : h44.size ≤ an_57 := Nat.le_trans KC53.1 r57_1
          show Goes _ _ _ _ _ _ (T57.setTop (mkF m 63 #[.val (.int p1), .val (.int p2)] [(.ref x_57)]))
          have Cc59 := CC44.trans (CHr.keep KC58 (allS SA48_an_30 (allS SA48_b28 all0)) CC44.1)
          exact own_retRH X57 hx hS44 hk58 hZ hEL Cc59 N57 hlk (by decide) (by decide) hret rfl rfl rfl (hb hby d18_63) (⟨x_57, an_57, kn_57, rfl, (KQ48.trans KC58 (allS (Or.inr sz_an_30) (allS (Or.inr sz_b28) all0))), r57_2, r57_3, r57_4, (by rw [posL_2 hc2_1 hc10_6]; exact r57_5)⟩)
      ·
        show Goes _ _ _ _ _ _ (T50.setTop (mkF m 57 #[.val (.int p1), .val (.int p2)] [(.int p2), (.ref b28)]))
        refine own_virtual X50 hx hZ hown (y := (⟨"java/lang/StringBuilder", "append", "(I)Ljava/lang/StringBuilder;"⟩ : MethodName)) (z := (⟨"java/lang/StringBuilder", "append", "(I)Ljava/lang/StringBuilder;"⟩ : MethodName)) (own_w hw 105 rfl) (own_w hw 106 rfl) (notFace_of_selects (args := #[]) (mvT hZ (own_w hw 108 rfl))) (own_w hw 108 rfl) (own_w hw 107 rfl) (own_w hw 36 rfl) (own_w hw 109 rfl) (a := b28) E51_b28 (by decide) (W := 0) (by decide) (by decide) N50 rfl (by rw [hml]; rfl) (argsL := [(.int p2)]) (rest := []) (lenOf pd_21 rfl) (Nat.le_of_eq rfl) (by decide) (by decide) (rm1916g l Z a0 hw [] b28 p2 an_30 kn_30 (((([] : List Int32) ++ tx0) ++ (dg p1.toNatClampNeg)) ++ tx0) ((((List.replicate 16 (Value.int (0 : Int32))).drop tx0.length).drop (nd p1.toNatClampNeg)).drop tx0.length) w_DigitOnes w_DigitTens zc fm k_ones k_tens T50.heap n0 O51 ⟨z0, z1, z2, z3, z4, z5, z6, hzc, z8, hfm, trivial⟩ E51_b28 r50_0 r50_1 r50_2 r50_3 E51_an_30 ge_b28 ge_an_30 r50_4 (own_posi hc10_6) (by omega) (by have q0 := nd_le p1.toNatClampNeg; have q1 := nd_le p2.toNatClampNeg; simp only [List.length_append, List.length_nil, List.length_cons, dg_len, tx0_l, tx1_l, tx2_l] <;> omega)) rfl (hb hby d18_57) ?_
        intro v60 T60 lc60 X60 N60 hQ60
        obtain ⟨an_60, kn_60, rfl, K60, r60_0, r60_1, r60_2, r60_3, r60_4, r60_5⟩ := hQ60
        have E61_b28 := E51_b28.keep K60
        have O61 := O51.keep K60 (allS ge_b28 all0)
        have hk61 := Nat.le_trans hk51 K60.1
        have KC61 := KC51.trans K60 (allS (Or.inl (List.mem_of_getElem? (i := 1) rfl)) all0)
        have ge_an_60 : n0 ≤ an_60 := Nat.le_trans (own_sz O51) r60_3
        have sz_an_60 : h44.size ≤ an_60 := Nat.le_trans KC51.1 r60_3
        show Goes _ _ _ _ _ _ (T60.setTop (mkF m 60 #[.val (.int p1), .val (.int p2)] [(.ref b28)]))
        refine own_virtual X60 hx hZ hown (y := (⟨"java/lang/StringBuilder", "toString", "()Ljava/lang/String;"⟩ : MethodName)) (z := (⟨"java/lang/StringBuilder", "toString", "()Ljava/lang/String;"⟩ : MethodName)) (own_w hw 127 rfl) (own_w hw 128 rfl) (notFace_of_selects (args := #[]) (mvT hZ (own_w hw 130 rfl))) (own_w hw 130 rfl) (own_w hw 129 rfl) (own_w hw 36 rfl) (own_w hw 131 rfl) (a := b28) E61_b28 (by decide) (W := 0) (by decide) (by decide) N60 rfl (by rw [hml]; rfl) (argsL := []) (rest := []) (lenOf pd_22 rfl) (Nat.le_of_eq rfl) (by decide) (by decide) (rm2434c l Z a0 hw [] b28 an_60 kn_60 ((((([] : List Int32) ++ tx0) ++ (dg p1.toNatClampNeg)) ++ tx0) ++ (dg p2.toNatClampNeg)) ((((((List.replicate 16 (Value.int (0 : Int32))).drop tx0.length).drop (nd p1.toNatClampNeg)).drop tx0.length) ++ (List.replicate 18 (Value.int (0 : Int32)))).drop (nd p2.toNatClampNeg)) w_DigitOnes w_DigitTens zc fm k_ones k_tens T60.heap n0 O61 ⟨z0, z1, z2, z3, z4, z5, z6, hzc, z8, hfm, trivial⟩ E61_b28 r60_0 r60_1 r60_2 r60_4 ge_b28 ge_an_60 r60_5 (by have q0 := nd_le p1.toNatClampNeg; have q1 := nd_le p2.toNatClampNeg; simp only [List.length_append, List.length_nil, List.length_cons, dg_len, tx0_l, tx1_l, tx2_l] <;> omega)) rfl (hb hby d18_60) ?_
        intro v62 T62 lc62 X62 N62 hQ62
        obtain ⟨x_62, an_62, kn_62, rfl, K62, r62_0, r62_1, r62_2, r62_3, r62_4, r62_5⟩ := hQ62
        have O63 := O61.keep K62 all0
        have hk63 := Nat.le_trans hk61 K62.1
        have KC63 := KC61.trans K62 all0
        have ge_x_62 : n0 ≤ x_62 := Nat.le_trans (own_sz O61) r62_0
        have sz_x_62 : h44.size ≤ x_62 := Nat.le_trans KC61.1 r62_0
        have ge_an_62 : n0 ≤ an_62 := Nat.le_trans (own_sz O61) r62_1
        have sz_an_62 : h44.size ≤ an_62 := Nat.le_trans KC61.1 r62_1
        show Goes _ _ _ _ _ _ (T62.setTop (mkF m 63 #[.val (.int p1), .val (.int p2)] [(.ref x_62)]))
        have Cc64 := CC44.trans (CHr.keep KC63 (allS SA48_an_30 (allS SA48_b28 all0)) CC44.1)
        exact own_retRH X62 hx hS44 hk63 hZ hEL Cc64 N62 hlk (by decide) (by decide) hret rfl rfl rfl (hb hby d18_63) (⟨x_62, an_62, kn_62, rfl, (KQ48.trans KC63 (allS (Or.inr sz_an_30) (allS (Or.inr sz_b28) all0))), r62_2, r62_3, r62_4, (by rw [posL_2 hc2_1 hc10_6]; exact r62_5)⟩)
theorem d7_0 : decode prog_3_method_2_code 0 = .ok (.new 13, 3) := by decide +kernel
theorem d7_3 : decode prog_3_method_2_code 3 = .ok (.dup, 1) := by decide +kernel
theorem d7_4 : decode prog_3_method_2_code 4 = .ok (.invokespecial 15, 3) := by decide +kernel
theorem d7_7 : decode prog_3_method_2_code 7 = .ok (.aload_n 0, 1) := by decide +kernel
theorem d7_8 : decode prog_3_method_2_code 8 = .ok (.invokevirtual 18, 3) := by decide +kernel
theorem d7_11 : decode prog_3_method_2_code 11 = .ok (.iload_n 1, 1) := by decide +kernel
theorem d7_12 : decode prog_3_method_2_code 12 = .ok (.iload_n 2, 1) := by decide +kernel
theorem d7_13 : decode prog_3_method_2_code 13 = .ok (.invokestatic 22, 3) := by decide +kernel
theorem pd_23 : parseMethodDescriptor "(II)Ljava/lang/String;" = some ⟨[.int, .int], some (.object "java/lang/String")⟩ := by decide +kernel
theorem d7_16 : decode prog_3_method_2_code 16 = .ok (.invokevirtual 18, 3) := by decide +kernel
theorem d7_19 : decode prog_3_method_2_code 19 = .ok (.ldc 26, 2) := by decide +kernel
theorem d7_21 : decode prog_3_method_2_code 21 = .ok (.invokevirtual 18, 3) := by decide +kernel
theorem d7_24 : decode prog_3_method_2_code 24 = .ok (.aload_n 3, 1) := by decide +kernel
theorem d7_25 : decode prog_3_method_2_code 25 = .ok (.invokevirtual 18, 3) := by decide +kernel
theorem d7_28 : decode prog_3_method_2_code 28 = .ok (.invokevirtual 28, 3) := by decide +kernel
theorem d7_31 : decode prog_3_method_2_code 31 = .ok (.areturn, 1) := by decide +kernel
def Q7 (Z : State) (a1 : Addr) (p2 : Int32) (p3 : Int32) (a4 : Addr) (t1 : Addr) (k1 : ClassId) (cs1 : List Int32) (t4 : Addr) (k4 : ClassId) (cs4 : List Int32) (w_DigitOnes : Addr) (w_DigitTens : Addr) (zc : Int32) (fm : Value) (k_ones : ClassId) (k_tens : ClassId) (h0 : Heap) (n0 : Nat) (v : Option Value) (h : Heap) : Prop :=
  (∃ (x : Addr) (an : Addr) (kn : ClassId), v = some (.ref x) ∧ Keep h0 h [] ∧ Exa Z h x "java/lang/String" ∧ Fld Z h x "java/lang/String" "value" "[B" (.ref an) ∧ Fld Z h x "java/lang/String" "coder" "B" (.int (0 : Int32)) ∧ Arv Z h an kn .byte (Int32.ofNat ((((([] : List Int32) ++ cs1) ++ (posL p2 p3)) ++ tx1) ++ cs4).length) (bl ((((([] : List Int32) ++ cs1) ++ (posL p2 p3)) ++ tx1) ++ cs4)) (.int (0 : Int32)))
theorem ef_7 (m : MethodId) (a1 : Addr) (p2 : Int32) (p3 : Int32) (a4 : Addr) : entryFrame m #[(.ref a1), (.int p2), (.int p3), (.ref a4)] 4 = mkF m 0 #[.val (.ref a1), .val (.int p2), .val (.int p3), .val (.ref a4)] [] := by first | (simp [entryFrame, mkF, argsToLocals, Value.category]; done) | rfl
set_option maxRecDepth 65536 in
set_option maxHeartbeats 40000000 in
theorem rm7 (l : Launch) (Z : State) (a0 : Array Value) (hw : ∀ d ∈ tables_1, d.before a0 Z = true) (hEL : EW Z a0 consts_1) (ws : List Jvm.Cond) (a1 : Addr) (p2 : Int32) (p3 : Int32) (a4 : Addr) (t1 : Addr) (k1 : ClassId) (cs1 : List Int32) (t4 : Addr) (k4 : ClassId) (cs4 : List Int32) (w_DigitOnes : Addr) (w_DigitTens : Addr) (zc : Int32) (fm : Value) (k_ones : ClassId) (k_tens : ClassId) (h0 : Heap) (n0 : Nat) (O0 : Old Z n0 h0) (SF : Start Z w_DigitOnes w_DigitTens zc fm k_ones k_tens) (f0 : Exa Z h0 a1 "java/lang/String") (f1 : Fld Z h0 a1 "java/lang/String" "value" "[B" (.ref t1)) (f2 : Fld Z h0 a1 "java/lang/String" "coder" "B" (.int (0 : Int32))) (f3 : Arv Z h0 t1 k1 .byte (Int32.ofNat cs1.length) (bl cs1) (.int (0 : Int32))) (f4 : Exa Z h0 a4 "java/lang/String") (f5 : Fld Z h0 a4 "java/lang/String" "value" "[B" (.ref t4)) (f6 : Fld Z h0 a4 "java/lang/String" "coder" "B" (.int (0 : Int32))) (f7 : Arv Z h0 t4 k4 .byte (Int32.ofNat cs4.length) (bl cs4) (.int (0 : Int32))) (hl1 : cs1.length = 2) (hl4 : cs4.length = 2) :
    MeetsH l (⟨"com/example/gantry/gantry/descriptor/DescriptorException", "message", "(Ljava/lang/String;IILjava/lang/String;)Ljava/lang/String;"⟩ : MethodName) prog_3_method_2_code 4 (some (.object "java/lang/String")) ws ({ frames := 7, cells := 16, slots := 212, locals := 105 } : Room) ({ frames := 7, cells := 16, slots := 212, locals := 105 } : Room).cells ({ frames := 7, cells := 16, slots := 212, locals := 105 } : Room).slots Z consts_1 #[(.ref a1), (.int p2), (.int p3), (.ref a4)] h0 n0 (Q7 Z a1 p2 p3 a4 t1 k1 cs1 t4 k4 cs4 w_DigitOnes w_DigitTens zc fm k_ones k_tens h0 n0) := by
  refine MeetsH.of (F := fun m => mkF m 0 #[.val (.ref a1), .val (.int p2), .val (.int p3), .val (.ref a4)] []) (plainFor_of_name pn_7) (fun m => ef_7 m a1 p2 p3 a4) ?_
  intro p e s m below meth c T0 hx hby hml hown0 hnm hret hlk hZ hS0 hC0 X0 e0
  have hown : s.vm.findClass "com/example/gantry/gantry/descriptor/DescriptorException" = some m.cls := hown0
  have N0 := Fr.nil n0
  have KC0 := Keep.refl h0 []
  have C0 := CHr.refl hC0
  obtain ⟨z0, z1, z2, z3, z4, z5, z6, hzc, z8, hfm, -⟩ := SF
  show Goes _ _ _ _ _ _ (T0.setTop (mkF m 0 #[.val (.ref a1), .val (.int p2), .val (.int p3), .val (.ref a4)] []))
  refine own_new X0 hx hZ hown (own_w hw 34 rfl) (own_w hw 35 rfl) (own_w hw 36 rfl) e0 (hb hby d7_0) (by decide) (by decide) (fun T1 h1 b1 g1 X1 e1 E1 A1 D1 => ?_)
  have ne_a4_b1 : a4 ≠ b1 := Nat.ne_of_lt (Nat.lt_of_lt_of_le f4.lt (Nat.le_of_eq g1.symm))
  have ne_t4_b1 : t4 ≠ b1 := Nat.ne_of_lt (Nat.lt_of_lt_of_le f7.lt (Nat.le_of_eq g1.symm))
  have ne_t1_b1 : t1 ≠ b1 := Nat.ne_of_lt (Nat.lt_of_lt_of_le f3.lt (Nat.le_of_eq g1.symm))
  have ne_a1_b1 : a1 ≠ b1 := Nat.ne_of_lt (Nat.lt_of_lt_of_le f0.lt (Nat.le_of_eq g1.symm))
  have ge_b1 : n0 ≤ b1 := Nat.le_trans (own_sz O0) (Nat.le_of_eq g1.symm)
  have sz_b1 : h0.size ≤ b1 := Nat.le_trans KC0.1 (Nat.le_of_eq g1.symm)
  have E2_a1 := f0.ext E1
  have E2_a4 := f4.ext E1
  have F2_value_a1 := f1.ext E1
  have F2_coder_a1 := f2.ext E1
  have F2_value_a4 := f5.ext E1
  have F2_coder_a4 := f6.ext E1
  have A2_t1 := f3.ext E1
  have A2_t4 := f7.ext E1
  have O2 := O0.ext E1
  have KC2 := KC0.ext E1
  have F1_value_b1 : Fld Z h1 b1 "java/lang/AbstractStringBuilder" "value" "[B" .null := D1 (Or.inl (own_w hw 49 rfl)) (ty := (.array .byte)) (by decide)
  have F1_coder_b1 : Fld Z h1 b1 "java/lang/AbstractStringBuilder" "coder" "B" (.int (0 : Int32)) := D1 (Or.inl (own_w hw 51 rfl)) (ty := .byte) (by decide)
  have F1_count_b1 : Fld Z h1 b1 "java/lang/AbstractStringBuilder" "count" "I" (.int (0 : Int32)) := D1 (Or.inl (own_w hw 73 rfl)) (ty := .int) (by decide)
  refine own_dup X1 hx (hb hby d7_3) rfl ?_
  refine own_special X1 hx hZ hown (y := (⟨"java/lang/StringBuilder", "<init>", "()V"⟩ : MethodName)) rfl (own_w hw 37 rfl) (own_w hw 38 rfl) (own_w hw 36 rfl) (own_w hw 39 rfl) (a := b1) (by decide) (W := 1) (by decide) (by decide) N0 e1 (by rw [hml]; rfl) (argsL := []) (rest := [(.ref b1)]) (lenOf pd_19 rfl) (Nat.le_of_eq rfl) (by decide) (by decide) (rm8 l Z a0 hw [] b1 (.null) ((.int (0 : Int32))) w_DigitOnes w_DigitTens zc fm k_ones k_tens h1 n0 O2 ⟨z0, z1, z2, z3, z4, z5, z6, hzc, z8, hfm, trivial⟩ A1 F1_value_b1 F1_coder_b1 F1_count_b1 ge_b1) rfl (hb hby d7_4) ?_
  intro v3 T3 lc3 X3 N3 hQ3
  obtain ⟨an_3, kn_3, rfl, K3, r3_0, r3_1, r3_2, r3_3, r3_4, r3_5⟩ := hQ3
  have E4_a1 := E2_a1.keep K3
  have E4_a4 := E2_a4.keep K3
  have E4_b1 := A1.keep K3
  have F4_value_a1 := F2_value_a1.keep K3 (ninS ne_a1_b1 nin0)
  have F4_coder_a1 := F2_coder_a1.keep K3 (ninS ne_a1_b1 nin0)
  have F4_value_a4 := F2_value_a4.keep K3 (ninS ne_a4_b1 nin0)
  have F4_coder_a4 := F2_coder_a4.keep K3 (ninS ne_a4_b1 nin0)
  have A4_t1 := A2_t1.keep K3 (ninS ne_t1_b1 nin0)
  have A4_t4 := A2_t4.keep K3 (ninS ne_t4_b1 nin0)
  have O4 := O2.keep K3 (allS ge_b1 all0)
  have KC4 := KC2.trans K3 (allS (Or.inr sz_b1) all0)
  have ne_t4_an_3 : t4 ≠ an_3 := Nat.ne_of_lt (Nat.lt_of_lt_of_le A2_t4.lt r3_3)
  have ne_a4_an_3 : a4 ≠ an_3 := Nat.ne_of_lt (Nat.lt_of_lt_of_le E2_a4.lt r3_3)
  have ge_an_3 : n0 ≤ an_3 := Nat.le_trans (own_sz O2) r3_3
  have sz_an_3 : h0.size ≤ an_3 := Nat.le_trans KC2.1 r3_3
  refine own_aloadN X3 hx (hb hby d7_7) rfl rfl ?_
  refine own_virtual X3 hx hZ hown (y := (⟨"java/lang/StringBuilder", "append", "(Ljava/lang/String;)Ljava/lang/StringBuilder;"⟩ : MethodName)) (z := (⟨"java/lang/StringBuilder", "append", "(Ljava/lang/String;)Ljava/lang/StringBuilder;"⟩ : MethodName)) (own_w hw 52 rfl) (own_w hw 53 rfl) (notFace_of_selects (args := #[]) (mvT hZ (own_w hw 55 rfl))) (own_w hw 55 rfl) (own_w hw 54 rfl) (own_w hw 36 rfl) (own_w hw 56 rfl) (a := b1) E4_b1 (by decide) (W := 0) (by decide) (by decide) N3 rfl (by rw [hml]; rfl) (argsL := [(.ref a1)]) (rest := []) (lenOf pd_20 rfl) (Nat.le_of_eq rfl) (by decide) (by decide) (rm1016r l Z a0 hw [] b1 a1 an_3 kn_3 ([] : List Int32) (List.replicate 16 (Value.int (0 : Int32))) t1 k1 cs1 w_DigitOnes w_DigitTens zc fm k_ones k_tens T3.heap n0 O4 ⟨z0, z1, z2, z3, z4, z5, z6, hzc, z8, hfm, trivial⟩ E4_b1 r3_0 r3_1 r3_2 r3_5 r3_4 ge_b1 ge_an_3 rfl E4_a1 F4_value_a1 F4_coder_a1 A4_t1 (by rw [hl1]; decide)) rfl (hb hby d7_8) ?_
  intro v5 T5 lc5 X5 N5 hQ5
  obtain ⟨rfl, K5, r5_0, r5_1, r5_2, r5_3, r5_4⟩ := hQ5
  have E6_a4 := E4_a4.keep K5
  have E6_b1 := E4_b1.keep K5
  have E6_an_3 := r3_4.keep K5
  have F6_value_a4 := F4_value_a4.keep K5 (ninS ne_a4_b1 (ninS ne_a4_an_3 nin0))
  have F6_coder_a4 := F4_coder_a4.keep K5 (ninS ne_a4_b1 (ninS ne_a4_an_3 nin0))
  have A6_t4 := A4_t4.keep K5 (ninS ne_t4_b1 (ninS ne_t4_an_3 nin0))
  have O6 := O4.keep K5 (allS ge_b1 (allS ge_an_3 all0))
  have KC6 := KC4.trans K5 (allS (Or.inr sz_b1) (allS (Or.inr sz_an_3) all0))
  refine own_iloadN X5 hx (hb hby d7_11) rfl ?_
  refine own_iloadN X5 hx (hb hby d7_12) rfl ?_
  have Cc7 := C0.trans (CHr.keep KC6 all0 C0.1)
  have SP8 := Safe.keep KC6 all0 C0.1 (Safe.new sz_an_3)
  have SL8 := E6_an_3.lt
  have SP9 := Safe.keep KC6 all0 C0.1 (Safe.new sz_b1)
  have SL9 := E6_b1.lt
  refine own_callSH X5 hx hZ hown hS0 (Nat.zero_le _) (y := (⟨"com/example/gantry/gantry/descriptor/DescriptorException", "position", "(II)Ljava/lang/String;"⟩ : MethodName)) (own_w hw 99 rfl) (own_w hw 100 rfl) (own_w hw 32 rfl) (own_w hw 101 rfl) hEL Cc7.1 (by decide) (W := 1) (by decide) (by decide) N5 rfl (by rw [hml]; rfl) (argsL := [(.int p2), (.int p3)]) (rest := [(.ref b1)]) (lenOf pd_23 rfl) (Nat.le_of_eq rfl) (by decide) (by decide) (rm18 l Z a0 hw hEL [] p2 p3 w_DigitOnes w_DigitTens zc fm k_ones k_tens T5.heap n0 O6 ⟨z0, z1, z2, z3, z4, z5, z6, hzc, z8, hfm, trivial⟩) rfl (hb hby d7_13) ?_
  intro v10 T10 lc10 k1_10 X10 hS10 hk10_ hZ hown N10 D10 hQ10
  have CC10 := Cc7.trans D10
  obtain ⟨x_10, an_10, kn_10, rfl, K10, r10_0, r10_1, r10_2, r10_3⟩ := hQ10
  have E11_a4 := E6_a4.keep K10
  have E11_b1 := E6_b1.keep K10
  have E11_an_3 := E6_an_3.keep K10
  have F11_value_a4 := F6_value_a4.keep K10 nin0
  have F11_coder_a4 := F6_coder_a4.keep K10 nin0
  have F11_value_b1 := r5_0.keep K10 nin0
  have F11_coder_b1 := r5_1.keep K10 nin0
  have F11_count_b1 := r5_2.keep K10 nin0
  have A11_t4 := A6_t4.keep K10 nin0
  have A11_an_3 := r5_3.keep K10 nin0
  have O11 := O6.keep K10 all0
  have KC11 := KC6.trans K10 all0
  have SA12_an_3 := D10.safe SL8 SP8
  have SA12_b1 := D10.safe SL9 SP9
  have KB12 := Keep.refl T10.heap [an_3, b1]
  show Goes _ _ _ _ _ _ (T10.setTop (mkF m 16 #[.val (.ref a1), .val (.int p2), .val (.int p3), .val (.ref a4)] [(.ref x_10), (.ref b1)]))
  by_cases hft16 : (([] : List Int32) ++ cs1).length + (posL p2 p3).length ≤ 16
  ·
    show Goes _ _ _ _ _ _ (T10.setTop (mkF m 16 #[.val (.ref a1), .val (.int p2), .val (.int p3), .val (.ref a4)] [(.ref x_10), (.ref b1)]))
    refine own_virtual X10 hx hZ hown (y := (⟨"java/lang/StringBuilder", "append", "(Ljava/lang/String;)Ljava/lang/StringBuilder;"⟩ : MethodName)) (z := (⟨"java/lang/StringBuilder", "append", "(Ljava/lang/String;)Ljava/lang/StringBuilder;"⟩ : MethodName)) (own_w hw 52 rfl) (own_w hw 53 rfl) (notFace_of_selects (args := #[]) (mvT hZ (own_w hw 55 rfl))) (own_w hw 55 rfl) (own_w hw 54 rfl) (own_w hw 36 rfl) (own_w hw 56 rfl) (a := b1) E11_b1 (by decide) (W := 0) (by decide) (by decide) N10 rfl (by rw [hml]; rfl) (argsL := [(.ref x_10)]) (rest := []) (lenOf pd_20 rfl) (Nat.le_of_eq rfl) (by decide) (by decide) (rm1016r l Z a0 hw [] b1 x_10 an_3 kn_3 (([] : List Int32) ++ cs1) ((List.replicate 16 (Value.int (0 : Int32))).drop cs1.length) an_10 kn_10 (posL p2 p3) w_DigitOnes w_DigitTens zc fm k_ones k_tens T10.heap n0 O11 ⟨z0, z1, z2, z3, z4, z5, z6, hzc, z8, hfm, trivial⟩ E11_b1 F11_value_b1 F11_coder_b1 F11_count_b1 A11_an_3 E11_an_3 ge_b1 ge_an_3 r5_4 r10_0 r10_1 r10_2 r10_3 hft16) rfl (hb hby d7_16) ?_
    intro v13 T13 lc13 X13 N13 hQ13
    obtain ⟨rfl, K13, r13_0, r13_1, r13_2, r13_3, r13_4⟩ := hQ13
    have E14_a4 := E11_a4.keep K13
    have E14_b1 := E11_b1.keep K13
    have E14_an_3 := E11_an_3.keep K13
    have F14_value_a4 := F11_value_a4.keep K13 (ninS ne_a4_b1 (ninS ne_a4_an_3 nin0))
    have F14_coder_a4 := F11_coder_a4.keep K13 (ninS ne_a4_b1 (ninS ne_a4_an_3 nin0))
    have A14_t4 := A11_t4.keep K13 (ninS ne_t4_b1 (ninS ne_t4_an_3 nin0))
    have O14 := O11.keep K13 (allS ge_b1 (allS ge_an_3 all0))
    have hk14 := Nat.le_trans hk10_ K13.1
    have KC14 := KB12.trans K13 (allS (Or.inl (List.mem_of_getElem? (i := 1) rfl)) (allS (Or.inl (List.mem_of_getElem? (i := 0) rfl)) all0))
    have Cc15 := CC10.trans (CHr.keep KC14 (allS SA12_an_3 (allS SA12_b1 all0)) CC10.1)
    have SP17 := Safe.keep KC14 (allS SA12_an_3 (allS SA12_b1 all0)) CC10.1 SA12_an_3
    have SL17 := E14_an_3.lt
    have SP18 := Safe.keep KC14 (allS SA12_an_3 (allS SA12_b1 all0)) CC10.1 SA12_b1
    have SL18 := E14_b1.lt
    refine own_ldcH X13 hx hZ hown hS10 hk14 (own_w hw 168 rfl) (own_wS hw) hEL (by simp [consts_1]) Cc15.1 rfl (cs := tx1) tx1_t tx1_z tx1_4 tx1_5 (n := 8) (hb hby d7_19) (by decide +kernel) (by decide) (by decide) (by decide) (fun sa16 T16 h16 k1_16 X16 hS16 hk16_ hZ hown e16 E16 D16 I16 => ?_)
    have E19_a4 := E14_a4.ext E16
    have E19_b1 := E14_b1.ext E16
    have E19_an_3 := E14_an_3.ext E16
    have F19_value_a4 := F14_value_a4.ext E16
    have F19_coder_a4 := F14_coder_a4.ext E16
    have F19_value_b1 := r13_0.ext E16
    have F19_coder_b1 := r13_1.ext E16
    have F19_count_b1 := r13_2.ext E16
    have A19_t4 := A14_t4.ext E16
    have A19_an_3 := r13_3.ext E16
    have O19 := O14.ext E16
    have KC19 := KC14.ext E16
    have CC16 := Cc15.trans D16
    have KQ20 := KC11.trans KC19 (allS (Or.inr sz_an_3) (allS (Or.inr sz_b1) all0))
    have SA20_an_3 := D16.safe SL17 SP17
    have SA20_b1 := D16.safe SL18 SP18
    have KB20 := Keep.refl h16 [an_3, b1]
    show Goes _ _ _ _ _ _ (T16.setTop (mkF m 21 #[.val (.ref a1), .val (.int p2), .val (.int p3), .val (.ref a4)] [(.ref sa16), (.ref b1)]))
    obtain ⟨t21, kb21, UE21, UV21, UC21, UA21, -⟩ := id I16
    by_cases hft21 : ((([] : List Int32) ++ cs1) ++ (posL p2 p3)).length + tx1.length ≤ 16
    ·
      show Goes _ _ _ _ _ _ (T16.setTop (mkF m 21 #[.val (.ref a1), .val (.int p2), .val (.int p3), .val (.ref a4)] [(.ref sa16), (.ref b1)]))
      refine own_virtual X16 hx hZ hown (y := (⟨"java/lang/StringBuilder", "append", "(Ljava/lang/String;)Ljava/lang/StringBuilder;"⟩ : MethodName)) (z := (⟨"java/lang/StringBuilder", "append", "(Ljava/lang/String;)Ljava/lang/StringBuilder;"⟩ : MethodName)) (own_w hw 52 rfl) (own_w hw 53 rfl) (notFace_of_selects (args := #[]) (mvT hZ (own_w hw 55 rfl))) (own_w hw 55 rfl) (own_w hw 54 rfl) (own_w hw 36 rfl) (own_w hw 56 rfl) (a := b1) E19_b1 (by decide) (W := 0) (by decide) (by decide) N13 e16 (by rw [hml]; rfl) (argsL := [(.ref sa16)]) (rest := []) (lenOf pd_20 rfl) (Nat.le_of_eq rfl) (by decide) (by decide) (rm1016r l Z a0 hw [] b1 sa16 an_3 kn_3 ((([] : List Int32) ++ cs1) ++ (posL p2 p3)) (((List.replicate 16 (Value.int (0 : Int32))).drop cs1.length).drop (posL p2 p3).length) t21 kb21 tx1 w_DigitOnes w_DigitTens zc fm k_ones k_tens h16 n0 O19 ⟨z0, z1, z2, z3, z4, z5, z6, hzc, z8, hfm, trivial⟩ E19_b1 F19_value_b1 F19_coder_b1 F19_count_b1 A19_an_3 E19_an_3 ge_b1 ge_an_3 r13_4 UE21 UV21 UC21 UA21 hft21) rfl (hb hby d7_21) ?_
      intro v22 T22 lc22 X22 N22 hQ22
      obtain ⟨rfl, K22, r22_0, r22_1, r22_2, r22_3, r22_4⟩ := hQ22
      have E23_a4 := E19_a4.keep K22
      have E23_b1 := E19_b1.keep K22
      have E23_an_3 := E19_an_3.keep K22
      have F23_value_a4 := F19_value_a4.keep K22 (ninS ne_a4_b1 (ninS ne_a4_an_3 nin0))
      have F23_coder_a4 := F19_coder_a4.keep K22 (ninS ne_a4_b1 (ninS ne_a4_an_3 nin0))
      have A23_t4 := A19_t4.keep K22 (ninS ne_t4_b1 (ninS ne_t4_an_3 nin0))
      have O23 := O19.keep K22 (allS ge_b1 (allS ge_an_3 all0))
      have hk23 := Nat.le_trans hk16_ K22.1
      have KC23 := KB20.trans K22 (allS (Or.inl (List.mem_of_getElem? (i := 1) rfl)) (allS (Or.inl (List.mem_of_getElem? (i := 0) rfl)) all0))
      refine own_aloadN X22 hx (hb hby d7_24) rfl rfl ?_
      show Goes _ _ _ _ _ _ (T22.setTop (mkF m 25 #[.val (.ref a1), .val (.int p2), .val (.int p3), .val (.ref a4)] [(.ref a4), (.ref b1)]))
      by_cases hft25 : (((([] : List Int32) ++ cs1) ++ (posL p2 p3)) ++ tx1).length + cs4.length ≤ 16
      ·
        show Goes _ _ _ _ _ _ (T22.setTop (mkF m 25 #[.val (.ref a1), .val (.int p2), .val (.int p3), .val (.ref a4)] [(.ref a4), (.ref b1)]))
        refine own_virtual X22 hx hZ hown (y := (⟨"java/lang/StringBuilder", "append", "(Ljava/lang/String;)Ljava/lang/StringBuilder;"⟩ : MethodName)) (z := (⟨"java/lang/StringBuilder", "append", "(Ljava/lang/String;)Ljava/lang/StringBuilder;"⟩ : MethodName)) (own_w hw 52 rfl) (own_w hw 53 rfl) (notFace_of_selects (args := #[]) (mvT hZ (own_w hw 55 rfl))) (own_w hw 55 rfl) (own_w hw 54 rfl) (own_w hw 36 rfl) (own_w hw 56 rfl) (a := b1) E23_b1 (by decide) (W := 0) (by decide) (by decide) N22 rfl (by rw [hml]; rfl) (argsL := [(.ref a4)]) (rest := []) (lenOf pd_20 rfl) (Nat.le_of_eq rfl) (by decide) (by decide) (rm1016r l Z a0 hw [] b1 a4 an_3 kn_3 (((([] : List Int32) ++ cs1) ++ (posL p2 p3)) ++ tx1) ((((List.replicate 16 (Value.int (0 : Int32))).drop cs1.length).drop (posL p2 p3).length).drop tx1.length) t4 k4 cs4 w_DigitOnes w_DigitTens zc fm k_ones k_tens T22.heap n0 O23 ⟨z0, z1, z2, z3, z4, z5, z6, hzc, z8, hfm, trivial⟩ E23_b1 r22_0 r22_1 r22_2 r22_3 E23_an_3 ge_b1 ge_an_3 r22_4 E23_a4 F23_value_a4 F23_coder_a4 A23_t4 hft25) rfl (hb hby d7_25) ?_
        intro v24 T24 lc24 X24 N24 hQ24
        obtain ⟨rfl, K24, r24_0, r24_1, r24_2, r24_3, r24_4⟩ := hQ24
        have E25_b1 := E23_b1.keep K24
        have E25_an_3 := E23_an_3.keep K24
        have O25 := O23.keep K24 (allS ge_b1 (allS ge_an_3 all0))
        have hk25 := Nat.le_trans hk23 K24.1
        have KC25 := KC23.trans K24 (allS (Or.inl (List.mem_of_getElem? (i := 1) rfl)) (allS (Or.inl (List.mem_of_getElem? (i := 0) rfl)) all0))
        show Goes _ _ _ _ _ _ (T24.setTop (mkF m 28 #[.val (.ref a1), .val (.int p2), .val (.int p3), .val (.ref a4)] [(.ref b1)]))
        by_cases hft28 : ((((([] : List Int32) ++ cs1) ++ (posL p2 p3)) ++ tx1) ++ cs4).length = 16
        ·
          show Goes _ _ _ _ _ _ (T24.setTop (mkF m 28 #[.val (.ref a1), .val (.int p2), .val (.int p3), .val (.ref a4)] [(.ref b1)]))
          refine own_virtual X24 hx hZ hown (y := (⟨"java/lang/StringBuilder", "toString", "()Ljava/lang/String;"⟩ : MethodName)) (z := (⟨"java/lang/StringBuilder", "toString", "()Ljava/lang/String;"⟩ : MethodName)) (own_w hw 127 rfl) (own_w hw 128 rfl) (notFace_of_selects (args := #[]) (mvT hZ (own_w hw 130 rfl))) (own_w hw 130 rfl) (own_w hw 129 rfl) (own_w hw 36 rfl) (own_w hw 131 rfl) (a := b1) E25_b1 (by decide) (W := 0) (by decide) (by decide) N24 rfl (by rw [hml]; rfl) (argsL := []) (rest := []) (lenOf pd_22 rfl) (Nat.le_of_eq rfl) (by decide) (by decide) (rm2416f l Z a0 hw [] b1 an_3 kn_3 ((((([] : List Int32) ++ cs1) ++ (posL p2 p3)) ++ tx1) ++ cs4) (((((List.replicate 16 (Value.int (0 : Int32))).drop cs1.length).drop (posL p2 p3).length).drop tx1.length).drop cs4.length) w_DigitOnes w_DigitTens zc fm k_ones k_tens T24.heap n0 O25 ⟨z0, z1, z2, z3, z4, z5, z6, hzc, z8, hfm, trivial⟩ E25_b1 r24_0 r24_1 r24_2 r24_3 E25_an_3 ge_b1 ge_an_3 r24_4 hft28) rfl (hb hby d7_28) ?_
          intro v26 T26 lc26 X26 N26 hQ26
          obtain ⟨x_26, an_26, kn_26, rfl, K26, r26_0, r26_1, r26_2, r26_3, r26_4, r26_5⟩ := hQ26
          have O27 := O25.keep K26 all0
          have hk27 := Nat.le_trans hk25 K26.1
          have KC27 := KC25.trans K26 all0
          have ge_x_26 : n0 ≤ x_26 := Nat.le_trans (own_sz O25) r26_0
          have sz_x_26 : h16.size ≤ x_26 := Nat.le_trans KC25.1 r26_0
          have ge_an_26 : n0 ≤ an_26 := Nat.le_trans (own_sz O25) r26_1
          have sz_an_26 : h16.size ≤ an_26 := Nat.le_trans KC25.1 r26_1
          show Goes _ _ _ _ _ _ (T26.setTop (mkF m 31 #[.val (.ref a1), .val (.int p2), .val (.int p3), .val (.ref a4)] [(.ref x_26)]))
          have Cc28 := CC16.trans (CHr.keep KC27 (allS SA20_an_3 (allS SA20_b1 all0)) CC16.1)
          exact own_retRH X26 hx hS16 hk27 hZ hEL Cc28 N26 hlk (by decide) (by decide) hret rfl rfl rfl (hb hby d7_31) (⟨x_26, an_26, kn_26, rfl, (KQ20.trans KC27 (allS (Or.inr sz_an_3) (allS (Or.inr sz_b1) all0))), r26_2, r26_3, r26_4, r26_5⟩)
        ·
          show Goes _ _ _ _ _ _ (T24.setTop (mkF m 28 #[.val (.ref a1), .val (.int p2), .val (.int p3), .val (.ref a4)] [(.ref b1)]))
          refine own_virtual X24 hx hZ hown (y := (⟨"java/lang/StringBuilder", "toString", "()Ljava/lang/String;"⟩ : MethodName)) (z := (⟨"java/lang/StringBuilder", "toString", "()Ljava/lang/String;"⟩ : MethodName)) (own_w hw 127 rfl) (own_w hw 128 rfl) (notFace_of_selects (args := #[]) (mvT hZ (own_w hw 130 rfl))) (own_w hw 130 rfl) (own_w hw 129 rfl) (own_w hw 36 rfl) (own_w hw 131 rfl) (a := b1) E25_b1 (by decide) (W := 0) (by decide) (by decide) N24 rfl (by rw [hml]; rfl) (argsL := []) (rest := []) (lenOf pd_22 rfl) (Nat.le_of_eq rfl) (by decide) (by decide) (rm2416c l Z a0 hw [] b1 an_3 kn_3 ((((([] : List Int32) ++ cs1) ++ (posL p2 p3)) ++ tx1) ++ cs4) (((((List.replicate 16 (Value.int (0 : Int32))).drop cs1.length).drop (posL p2 p3).length).drop tx1.length).drop cs4.length) w_DigitOnes w_DigitTens zc fm k_ones k_tens T24.heap n0 O25 ⟨z0, z1, z2, z3, z4, z5, z6, hzc, z8, hfm, trivial⟩ E25_b1 r24_0 r24_1 r24_2 r24_3 E25_an_3 ge_b1 ge_an_3 r24_4 (by omega)) rfl (hb hby d7_28) ?_
          intro v29 T29 lc29 X29 N29 hQ29
          obtain ⟨x_29, an_29, kn_29, rfl, K29, r29_0, r29_1, r29_2, r29_3, r29_4, r29_5⟩ := hQ29
          have O30 := O25.keep K29 all0
          have hk30 := Nat.le_trans hk25 K29.1
          have KC30 := KC25.trans K29 all0
          have ge_x_29 : n0 ≤ x_29 := Nat.le_trans (own_sz O25) r29_0
          have sz_x_29 : h16.size ≤ x_29 := Nat.le_trans KC25.1 r29_0
          have ge_an_29 : n0 ≤ an_29 := Nat.le_trans (own_sz O25) r29_1
          have sz_an_29 : h16.size ≤ an_29 := Nat.le_trans KC25.1 r29_1
          show Goes _ _ _ _ _ _ (T29.setTop (mkF m 31 #[.val (.ref a1), .val (.int p2), .val (.int p3), .val (.ref a4)] [(.ref x_29)]))
          have Cc31 := CC16.trans (CHr.keep KC30 (allS SA20_an_3 (allS SA20_b1 all0)) CC16.1)
          exact own_retRH X29 hx hS16 hk30 hZ hEL Cc31 N29 hlk (by decide) (by decide) hret rfl rfl rfl (hb hby d7_31) (⟨x_29, an_29, kn_29, rfl, (KQ20.trans KC30 (allS (Or.inr sz_an_3) (allS (Or.inr sz_b1) all0))), r29_2, r29_3, r29_4, r29_5⟩)
      ·
        show Goes _ _ _ _ _ _ (T22.setTop (mkF m 25 #[.val (.ref a1), .val (.int p2), .val (.int p3), .val (.ref a4)] [(.ref a4), (.ref b1)]))
        refine own_virtual X22 hx hZ hown (y := (⟨"java/lang/StringBuilder", "append", "(Ljava/lang/String;)Ljava/lang/StringBuilder;"⟩ : MethodName)) (z := (⟨"java/lang/StringBuilder", "append", "(Ljava/lang/String;)Ljava/lang/StringBuilder;"⟩ : MethodName)) (own_w hw 52 rfl) (own_w hw 53 rfl) (notFace_of_selects (args := #[]) (mvT hZ (own_w hw 55 rfl))) (own_w hw 55 rfl) (own_w hw 54 rfl) (own_w hw 36 rfl) (own_w hw 56 rfl) (a := b1) E23_b1 (by decide) (W := 0) (by decide) (by decide) N22 rfl (by rw [hml]; rfl) (argsL := [(.ref a4)]) (rest := []) (lenOf pd_20 rfl) (Nat.le_of_eq rfl) (by decide) (by decide) (rm1016g l Z a0 hw [] b1 a4 an_3 kn_3 (((([] : List Int32) ++ cs1) ++ (posL p2 p3)) ++ tx1) ((((List.replicate 16 (Value.int (0 : Int32))).drop cs1.length).drop (posL p2 p3).length).drop tx1.length) t4 k4 cs4 w_DigitOnes w_DigitTens zc fm k_ones k_tens T22.heap n0 O23 ⟨z0, z1, z2, z3, z4, z5, z6, hzc, z8, hfm, trivial⟩ E23_b1 r22_0 r22_1 r22_2 r22_3 E23_an_3 ge_b1 ge_an_3 r22_4 E23_a4 F23_value_a4 F23_coder_a4 A23_t4 (by omega) (by have q0 := posL_le p2 p3; have q1 := hl1; have q2 := hl4; simp only [List.length_append, List.length_nil, List.length_cons, dg_len, tx0_l, tx1_l, tx2_l] <;> omega)) rfl (hb hby d7_25) ?_
        intro v32 T32 lc32 X32 N32 hQ32
        obtain ⟨an_32, kn_32, rfl, K32, r32_0, r32_1, r32_2, r32_3, r32_4, r32_5⟩ := hQ32
        have E33_b1 := E23_b1.keep K32
        have O33 := O23.keep K32 (allS ge_b1 all0)
        have hk33 := Nat.le_trans hk23 K32.1
        have KC33 := KC23.trans K32 (allS (Or.inl (List.mem_of_getElem? (i := 1) rfl)) all0)
        have ge_an_32 : n0 ≤ an_32 := Nat.le_trans (own_sz O23) r32_3
        have sz_an_32 : h16.size ≤ an_32 := Nat.le_trans KC23.1 r32_3
        show Goes _ _ _ _ _ _ (T32.setTop (mkF m 28 #[.val (.ref a1), .val (.int p2), .val (.int p3), .val (.ref a4)] [(.ref b1)]))
        refine own_virtual X32 hx hZ hown (y := (⟨"java/lang/StringBuilder", "toString", "()Ljava/lang/String;"⟩ : MethodName)) (z := (⟨"java/lang/StringBuilder", "toString", "()Ljava/lang/String;"⟩ : MethodName)) (own_w hw 127 rfl) (own_w hw 128 rfl) (notFace_of_selects (args := #[]) (mvT hZ (own_w hw 130 rfl))) (own_w hw 130 rfl) (own_w hw 129 rfl) (own_w hw 36 rfl) (own_w hw 131 rfl) (a := b1) E33_b1 (by decide) (W := 0) (by decide) (by decide) N32 rfl (by rw [hml]; rfl) (argsL := []) (rest := []) (lenOf pd_22 rfl) (Nat.le_of_eq rfl) (by decide) (by decide) (rm2434c l Z a0 hw [] b1 an_32 kn_32 ((((([] : List Int32) ++ cs1) ++ (posL p2 p3)) ++ tx1) ++ cs4) ((((((List.replicate 16 (Value.int (0 : Int32))).drop cs1.length).drop (posL p2 p3).length).drop tx1.length) ++ (List.replicate 18 (Value.int (0 : Int32)))).drop cs4.length) w_DigitOnes w_DigitTens zc fm k_ones k_tens T32.heap n0 O33 ⟨z0, z1, z2, z3, z4, z5, z6, hzc, z8, hfm, trivial⟩ E33_b1 r32_0 r32_1 r32_2 r32_4 ge_b1 ge_an_32 r32_5 (by have q0 := posL_le p2 p3; have q1 := hl1; have q2 := hl4; simp only [List.length_append, List.length_nil, List.length_cons, dg_len, tx0_l, tx1_l, tx2_l] <;> omega)) rfl (hb hby d7_28) ?_
        intro v34 T34 lc34 X34 N34 hQ34
        obtain ⟨x_34, an_34, kn_34, rfl, K34, r34_0, r34_1, r34_2, r34_3, r34_4, r34_5⟩ := hQ34
        have O35 := O33.keep K34 all0
        have hk35 := Nat.le_trans hk33 K34.1
        have KC35 := KC33.trans K34 all0
        have ge_x_34 : n0 ≤ x_34 := Nat.le_trans (own_sz O33) r34_0
        have sz_x_34 : h16.size ≤ x_34 := Nat.le_trans KC33.1 r34_0
        have ge_an_34 : n0 ≤ an_34 := Nat.le_trans (own_sz O33) r34_1
        have sz_an_34 : h16.size ≤ an_34 := Nat.le_trans KC33.1 r34_1
        show Goes _ _ _ _ _ _ (T34.setTop (mkF m 31 #[.val (.ref a1), .val (.int p2), .val (.int p3), .val (.ref a4)] [(.ref x_34)]))
        have Cc36 := CC16.trans (CHr.keep KC35 (allS SA20_an_3 (allS SA20_b1 all0)) CC16.1)
        exact own_retRH X34 hx hS16 hk35 hZ hEL Cc36 N34 hlk (by decide) (by decide) hret rfl rfl rfl (hb hby d7_31) (⟨x_34, an_34, kn_34, rfl, (KQ20.trans KC35 (allS (Or.inr sz_an_3) (allS (Or.inr sz_b1) all0))), r34_2, r34_3, r34_4, r34_5⟩)
    ·
      show Goes _ _ _ _ _ _ (T16.setTop (mkF m 21 #[.val (.ref a1), .val (.int p2), .val (.int p3), .val (.ref a4)] [(.ref sa16), (.ref b1)]))
      refine own_virtual X16 hx hZ hown (y := (⟨"java/lang/StringBuilder", "append", "(Ljava/lang/String;)Ljava/lang/StringBuilder;"⟩ : MethodName)) (z := (⟨"java/lang/StringBuilder", "append", "(Ljava/lang/String;)Ljava/lang/StringBuilder;"⟩ : MethodName)) (own_w hw 52 rfl) (own_w hw 53 rfl) (notFace_of_selects (args := #[]) (mvT hZ (own_w hw 55 rfl))) (own_w hw 55 rfl) (own_w hw 54 rfl) (own_w hw 36 rfl) (own_w hw 56 rfl) (a := b1) E19_b1 (by decide) (W := 0) (by decide) (by decide) N13 e16 (by rw [hml]; rfl) (argsL := [(.ref sa16)]) (rest := []) (lenOf pd_20 rfl) (Nat.le_of_eq rfl) (by decide) (by decide) (rm1016g l Z a0 hw [] b1 sa16 an_3 kn_3 ((([] : List Int32) ++ cs1) ++ (posL p2 p3)) (((List.replicate 16 (Value.int (0 : Int32))).drop cs1.length).drop (posL p2 p3).length) t21 kb21 tx1 w_DigitOnes w_DigitTens zc fm k_ones k_tens h16 n0 O19 ⟨z0, z1, z2, z3, z4, z5, z6, hzc, z8, hfm, trivial⟩ E19_b1 F19_value_b1 F19_coder_b1 F19_count_b1 A19_an_3 E19_an_3 ge_b1 ge_an_3 r13_4 UE21 UV21 UC21 UA21 (by omega) (by have q0 := posL_le p2 p3; have q1 := hl1; have q2 := hl4; simp only [List.length_append, List.length_nil, List.length_cons, dg_len, tx0_l, tx1_l, tx2_l] <;> omega)) rfl (hb hby d7_21) ?_
      intro v37 T37 lc37 X37 N37 hQ37
      obtain ⟨an_37, kn_37, rfl, K37, r37_0, r37_1, r37_2, r37_3, r37_4, r37_5⟩ := hQ37
      have E38_a4 := E19_a4.keep K37
      have E38_b1 := E19_b1.keep K37
      have F38_value_a4 := F19_value_a4.keep K37 (ninS ne_a4_b1 nin0)
      have F38_coder_a4 := F19_coder_a4.keep K37 (ninS ne_a4_b1 nin0)
      have A38_t4 := A19_t4.keep K37 (ninS ne_t4_b1 nin0)
      have O38 := O19.keep K37 (allS ge_b1 all0)
      have hk38 := Nat.le_trans hk16_ K37.1
      have KC38 := KB20.trans K37 (allS (Or.inl (List.mem_of_getElem? (i := 1) rfl)) all0)
      have ge_an_37 : n0 ≤ an_37 := Nat.le_trans (own_sz O19) r37_3
      have sz_an_37 : h16.size ≤ an_37 := Nat.le_trans KB20.1 r37_3
      refine own_aloadN X37 hx (hb hby d7_24) rfl rfl ?_
      show Goes _ _ _ _ _ _ (T37.setTop (mkF m 25 #[.val (.ref a1), .val (.int p2), .val (.int p3), .val (.ref a4)] [(.ref a4), (.ref b1)]))
      refine own_virtual X37 hx hZ hown (y := (⟨"java/lang/StringBuilder", "append", "(Ljava/lang/String;)Ljava/lang/StringBuilder;"⟩ : MethodName)) (z := (⟨"java/lang/StringBuilder", "append", "(Ljava/lang/String;)Ljava/lang/StringBuilder;"⟩ : MethodName)) (own_w hw 52 rfl) (own_w hw 53 rfl) (notFace_of_selects (args := #[]) (mvT hZ (own_w hw 55 rfl))) (own_w hw 55 rfl) (own_w hw 54 rfl) (own_w hw 36 rfl) (own_w hw 56 rfl) (a := b1) E38_b1 (by decide) (W := 0) (by decide) (by decide) N37 rfl (by rw [hml]; rfl) (argsL := [(.ref a4)]) (rest := []) (lenOf pd_20 rfl) (Nat.le_of_eq rfl) (by decide) (by decide) (rm1034r l Z a0 hw [] b1 a4 an_37 kn_37 (((([] : List Int32) ++ cs1) ++ (posL p2 p3)) ++ tx1) (((((List.replicate 16 (Value.int (0 : Int32))).drop cs1.length).drop (posL p2 p3).length) ++ (List.replicate 18 (Value.int (0 : Int32)))).drop tx1.length) t4 k4 cs4 w_DigitOnes w_DigitTens zc fm k_ones k_tens T37.heap n0 O38 ⟨z0, z1, z2, z3, z4, z5, z6, hzc, z8, hfm, trivial⟩ E38_b1 r37_0 r37_1 r37_2 r37_4 ge_b1 ge_an_37 r37_5 E38_a4 F38_value_a4 F38_coder_a4 A38_t4 (by have q0 := posL_le p2 p3; have q1 := hl1; have q2 := hl4; simp only [List.length_append, List.length_nil, List.length_cons, dg_len, tx0_l, tx1_l, tx2_l] <;> omega)) rfl (hb hby d7_25) ?_
      intro v39 T39 lc39 X39 N39 hQ39
      obtain ⟨rfl, K39, r39_0, r39_1, r39_2, r39_3, r39_4⟩ := hQ39
      have E40_b1 := E38_b1.keep K39
      have O40 := O38.keep K39 (allS ge_b1 (allS ge_an_37 all0))
      have hk40 := Nat.le_trans hk38 K39.1
      have KC40 := KC38.trans K39 (allS (Or.inl (List.mem_of_getElem? (i := 1) rfl)) (allS (Or.inr sz_an_37) all0))
      show Goes _ _ _ _ _ _ (T39.setTop (mkF m 28 #[.val (.ref a1), .val (.int p2), .val (.int p3), .val (.ref a4)] [(.ref b1)]))
      refine own_virtual X39 hx hZ hown (y := (⟨"java/lang/StringBuilder", "toString", "()Ljava/lang/String;"⟩ : MethodName)) (z := (⟨"java/lang/StringBuilder", "toString", "()Ljava/lang/String;"⟩ : MethodName)) (own_w hw 127 rfl) (own_w hw 128 rfl) (notFace_of_selects (args := #[]) (mvT hZ (own_w hw 130 rfl))) (own_w hw 130 rfl) (own_w hw 129 rfl) (own_w hw 36 rfl) (own_w hw 131 rfl) (a := b1) E40_b1 (by decide) (W := 0) (by decide) (by decide) N39 rfl (by rw [hml]; rfl) (argsL := []) (rest := []) (lenOf pd_22 rfl) (Nat.le_of_eq rfl) (by decide) (by decide) (rm2434c l Z a0 hw [] b1 an_37 kn_37 ((((([] : List Int32) ++ cs1) ++ (posL p2 p3)) ++ tx1) ++ cs4) ((((((List.replicate 16 (Value.int (0 : Int32))).drop cs1.length).drop (posL p2 p3).length) ++ (List.replicate 18 (Value.int (0 : Int32)))).drop tx1.length).drop cs4.length) w_DigitOnes w_DigitTens zc fm k_ones k_tens T39.heap n0 O40 ⟨z0, z1, z2, z3, z4, z5, z6, hzc, z8, hfm, trivial⟩ E40_b1 r39_0 r39_1 r39_2 r39_3 ge_b1 ge_an_37 r39_4 (by have q0 := posL_le p2 p3; have q1 := hl1; have q2 := hl4; simp only [List.length_append, List.length_nil, List.length_cons, dg_len, tx0_l, tx1_l, tx2_l] <;> omega)) rfl (hb hby d7_28) ?_
      intro v41 T41 lc41 X41 N41 hQ41
      obtain ⟨x_41, an_41, kn_41, rfl, K41, r41_0, r41_1, r41_2, r41_3, r41_4, r41_5⟩ := hQ41
      have O42 := O40.keep K41 all0
      have hk42 := Nat.le_trans hk40 K41.1
      have KC42 := KC40.trans K41 all0
      have ge_x_41 : n0 ≤ x_41 := Nat.le_trans (own_sz O40) r41_0
      have sz_x_41 : h16.size ≤ x_41 := Nat.le_trans KC40.1 r41_0
      have ge_an_41 : n0 ≤ an_41 := Nat.le_trans (own_sz O40) r41_1
      have sz_an_41 : h16.size ≤ an_41 := Nat.le_trans KC40.1 r41_1
      show Goes _ _ _ _ _ _ (T41.setTop (mkF m 31 #[.val (.ref a1), .val (.int p2), .val (.int p3), .val (.ref a4)] [(.ref x_41)]))
      have Cc43 := CC16.trans (CHr.keep KC42 (allS SA20_an_3 (allS SA20_b1 all0)) CC16.1)
      exact own_retRH X41 hx hS16 hk42 hZ hEL Cc43 N41 hlk (by decide) (by decide) hret rfl rfl rfl (hb hby d7_31) (⟨x_41, an_41, kn_41, rfl, (KQ20.trans KC42 (allS (Or.inr sz_an_3) (allS (Or.inr sz_b1) all0))), r41_2, r41_3, r41_4, r41_5⟩)
  ·
    show Goes _ _ _ _ _ _ (T10.setTop (mkF m 16 #[.val (.ref a1), .val (.int p2), .val (.int p3), .val (.ref a4)] [(.ref x_10), (.ref b1)]))
    refine own_virtual X10 hx hZ hown (y := (⟨"java/lang/StringBuilder", "append", "(Ljava/lang/String;)Ljava/lang/StringBuilder;"⟩ : MethodName)) (z := (⟨"java/lang/StringBuilder", "append", "(Ljava/lang/String;)Ljava/lang/StringBuilder;"⟩ : MethodName)) (own_w hw 52 rfl) (own_w hw 53 rfl) (notFace_of_selects (args := #[]) (mvT hZ (own_w hw 55 rfl))) (own_w hw 55 rfl) (own_w hw 54 rfl) (own_w hw 36 rfl) (own_w hw 56 rfl) (a := b1) E11_b1 (by decide) (W := 0) (by decide) (by decide) N10 rfl (by rw [hml]; rfl) (argsL := [(.ref x_10)]) (rest := []) (lenOf pd_20 rfl) (Nat.le_of_eq rfl) (by decide) (by decide) (rm1016g l Z a0 hw [] b1 x_10 an_3 kn_3 (([] : List Int32) ++ cs1) ((List.replicate 16 (Value.int (0 : Int32))).drop cs1.length) an_10 kn_10 (posL p2 p3) w_DigitOnes w_DigitTens zc fm k_ones k_tens T10.heap n0 O11 ⟨z0, z1, z2, z3, z4, z5, z6, hzc, z8, hfm, trivial⟩ E11_b1 F11_value_b1 F11_coder_b1 F11_count_b1 A11_an_3 E11_an_3 ge_b1 ge_an_3 r5_4 r10_0 r10_1 r10_2 r10_3 (by omega) (by have q0 := posL_le p2 p3; have q1 := hl1; have q2 := hl4; simp only [List.length_append, List.length_nil, List.length_cons, dg_len, tx0_l, tx1_l, tx2_l] <;> omega)) rfl (hb hby d7_16) ?_
    intro v44 T44 lc44 X44 N44 hQ44
    obtain ⟨an_44, kn_44, rfl, K44, r44_0, r44_1, r44_2, r44_3, r44_4, r44_5⟩ := hQ44
    have E45_a4 := E11_a4.keep K44
    have E45_b1 := E11_b1.keep K44
    have E45_an_3 := E11_an_3.keep K44
    have F45_value_a4 := F11_value_a4.keep K44 (ninS ne_a4_b1 nin0)
    have F45_coder_a4 := F11_coder_a4.keep K44 (ninS ne_a4_b1 nin0)
    have A45_t4 := A11_t4.keep K44 (ninS ne_t4_b1 nin0)
    have O45 := O11.keep K44 (allS ge_b1 all0)
    have hk45 := Nat.le_trans hk10_ K44.1
    have KC45 := KB12.trans K44 (allS (Or.inl (List.mem_of_getElem? (i := 1) rfl)) all0)
    have ne_t4_an_44 : t4 ≠ an_44 := Nat.ne_of_lt (Nat.lt_of_lt_of_le A11_t4.lt r44_3)
    have ne_a4_an_44 : a4 ≠ an_44 := Nat.ne_of_lt (Nat.lt_of_lt_of_le E11_a4.lt r44_3)
    have ge_an_44 : n0 ≤ an_44 := Nat.le_trans (own_sz O11) r44_3
    have sz_an_44 : T10.heap.size ≤ an_44 := Nat.le_trans KB12.1 r44_3
    have Cc46 := CC10.trans (CHr.keep KC45 (allS SA12_an_3 (allS SA12_b1 all0)) CC10.1)
    have SP48 := Safe.keep KC45 (allS SA12_an_3 (allS SA12_b1 all0)) CC10.1 SA12_an_3
    have SL48 := E45_an_3.lt
    have s0_49 : h0.size ≤ an_44 := Nat.le_trans KC11.1 sz_an_44
    have SP50 := Safe.keep KC45 (allS SA12_an_3 (allS SA12_b1 all0)) CC10.1 (Safe.new sz_an_44)
    have SL50 := r44_4.lt
    have SP51 := Safe.keep KC45 (allS SA12_an_3 (allS SA12_b1 all0)) CC10.1 SA12_b1
    have SL51 := E45_b1.lt
    refine own_ldcH X44 hx hZ hown hS10 hk45 (own_w hw 168 rfl) (own_wS hw) hEL (by simp [consts_1]) Cc46.1 rfl (cs := tx1) tx1_t tx1_z tx1_4 tx1_5 (n := 8) (hb hby d7_19) (by decide +kernel) (by decide) (by decide) (by decide) (fun sa47 T47 h47 k1_47 X47 hS47 hk47_ hZ hown e47 E47 D47 I47 => ?_)
    have E52_a4 := E45_a4.ext E47
    have E52_b1 := E45_b1.ext E47
    have F52_value_a4 := F45_value_a4.ext E47
    have F52_coder_a4 := F45_coder_a4.ext E47
    have F52_value_b1 := r44_0.ext E47
    have F52_coder_b1 := r44_1.ext E47
    have F52_count_b1 := r44_2.ext E47
    have A52_t4 := A45_t4.ext E47
    have A52_an_44 := r44_4.ext E47
    have O52 := O45.ext E47
    have KC52 := KC45.ext E47
    have CC47 := Cc46.trans D47
    have KQ53 := KC11.trans KC52 (allS (Or.inr sz_an_3) (allS (Or.inr sz_b1) all0))
    have SA53_an_3 := D47.safe SL48 SP48
    have SA53_an_44 := D47.safe SL50 SP50
    have SA53_b1 := D47.safe SL51 SP51
    have KB53 := Keep.refl h47 [an_3, an_44, b1]
    show Goes _ _ _ _ _ _ (T47.setTop (mkF m 21 #[.val (.ref a1), .val (.int p2), .val (.int p3), .val (.ref a4)] [(.ref sa47), (.ref b1)]))
    obtain ⟨t54, kb54, UE54, UV54, UC54, UA54, -⟩ := id I47
    refine own_virtual X47 hx hZ hown (y := (⟨"java/lang/StringBuilder", "append", "(Ljava/lang/String;)Ljava/lang/StringBuilder;"⟩ : MethodName)) (z := (⟨"java/lang/StringBuilder", "append", "(Ljava/lang/String;)Ljava/lang/StringBuilder;"⟩ : MethodName)) (own_w hw 52 rfl) (own_w hw 53 rfl) (notFace_of_selects (args := #[]) (mvT hZ (own_w hw 55 rfl))) (own_w hw 55 rfl) (own_w hw 54 rfl) (own_w hw 36 rfl) (own_w hw 56 rfl) (a := b1) E52_b1 (by decide) (W := 0) (by decide) (by decide) N44 e47 (by rw [hml]; rfl) (argsL := [(.ref sa47)]) (rest := []) (lenOf pd_20 rfl) (Nat.le_of_eq rfl) (by decide) (by decide) (rm1034r l Z a0 hw [] b1 sa47 an_44 kn_44 ((([] : List Int32) ++ cs1) ++ (posL p2 p3)) ((((List.replicate 16 (Value.int (0 : Int32))).drop cs1.length) ++ (List.replicate 18 (Value.int (0 : Int32)))).drop (posL p2 p3).length) t54 kb54 tx1 w_DigitOnes w_DigitTens zc fm k_ones k_tens h47 n0 O52 ⟨z0, z1, z2, z3, z4, z5, z6, hzc, z8, hfm, trivial⟩ E52_b1 F52_value_b1 F52_coder_b1 F52_count_b1 A52_an_44 ge_b1 ge_an_44 r44_5 UE54 UV54 UC54 UA54 (by have q0 := posL_le p2 p3; have q1 := hl1; have q2 := hl4; simp only [List.length_append, List.length_nil, List.length_cons, dg_len, tx0_l, tx1_l, tx2_l] <;> omega)) rfl (hb hby d7_21) ?_
    intro v55 T55 lc55 X55 N55 hQ55
    obtain ⟨rfl, K55, r55_0, r55_1, r55_2, r55_3, r55_4⟩ := hQ55
    have E56_a4 := E52_a4.keep K55
    have E56_b1 := E52_b1.keep K55
    have F56_value_a4 := F52_value_a4.keep K55 (ninS ne_a4_b1 (ninS ne_a4_an_44 nin0))
    have F56_coder_a4 := F52_coder_a4.keep K55 (ninS ne_a4_b1 (ninS ne_a4_an_44 nin0))
    have A56_t4 := A52_t4.keep K55 (ninS ne_t4_b1 (ninS ne_t4_an_44 nin0))
    have O56 := O52.keep K55 (allS ge_b1 (allS ge_an_44 all0))
    have hk56 := Nat.le_trans hk47_ K55.1
    have KC56 := KB53.trans K55 (allS (Or.inl (List.mem_of_getElem? (i := 2) rfl)) (allS (Or.inl (List.mem_of_getElem? (i := 1) rfl)) all0))
    refine own_aloadN X55 hx (hb hby d7_24) rfl rfl ?_
    show Goes _ _ _ _ _ _ (T55.setTop (mkF m 25 #[.val (.ref a1), .val (.int p2), .val (.int p3), .val (.ref a4)] [(.ref a4), (.ref b1)]))
    refine own_virtual X55 hx hZ hown (y := (⟨"java/lang/StringBuilder", "append", "(Ljava/lang/String;)Ljava/lang/StringBuilder;"⟩ : MethodName)) (z := (⟨"java/lang/StringBuilder", "append", "(Ljava/lang/String;)Ljava/lang/StringBuilder;"⟩ : MethodName)) (own_w hw 52 rfl) (own_w hw 53 rfl) (notFace_of_selects (args := #[]) (mvT hZ (own_w hw 55 rfl))) (own_w hw 55 rfl) (own_w hw 54 rfl) (own_w hw 36 rfl) (own_w hw 56 rfl) (a := b1) E56_b1 (by decide) (W := 0) (by decide) (by decide) N55 rfl (by rw [hml]; rfl) (argsL := [(.ref a4)]) (rest := []) (lenOf pd_20 rfl) (Nat.le_of_eq rfl) (by decide) (by decide) (rm1034r l Z a0 hw [] b1 a4 an_44 kn_44 (((([] : List Int32) ++ cs1) ++ (posL p2 p3)) ++ tx1) (((((List.replicate 16 (Value.int (0 : Int32))).drop cs1.length) ++ (List.replicate 18 (Value.int (0 : Int32)))).drop (posL p2 p3).length).drop tx1.length) t4 k4 cs4 w_DigitOnes w_DigitTens zc fm k_ones k_tens T55.heap n0 O56 ⟨z0, z1, z2, z3, z4, z5, z6, hzc, z8, hfm, trivial⟩ E56_b1 r55_0 r55_1 r55_2 r55_3 ge_b1 ge_an_44 r55_4 E56_a4 F56_value_a4 F56_coder_a4 A56_t4 (by have q0 := posL_le p2 p3; have q1 := hl1; have q2 := hl4; simp only [List.length_append, List.length_nil, List.length_cons, dg_len, tx0_l, tx1_l, tx2_l] <;> omega)) rfl (hb hby d7_25) ?_
    intro v57 T57 lc57 X57 N57 hQ57
    obtain ⟨rfl, K57, r57_0, r57_1, r57_2, r57_3, r57_4⟩ := hQ57
    have E58_b1 := E56_b1.keep K57
    have O58 := O56.keep K57 (allS ge_b1 (allS ge_an_44 all0))
    have hk58 := Nat.le_trans hk56 K57.1
    have KC58 := KC56.trans K57 (allS (Or.inl (List.mem_of_getElem? (i := 2) rfl)) (allS (Or.inl (List.mem_of_getElem? (i := 1) rfl)) all0))
    show Goes _ _ _ _ _ _ (T57.setTop (mkF m 28 #[.val (.ref a1), .val (.int p2), .val (.int p3), .val (.ref a4)] [(.ref b1)]))
    refine own_virtual X57 hx hZ hown (y := (⟨"java/lang/StringBuilder", "toString", "()Ljava/lang/String;"⟩ : MethodName)) (z := (⟨"java/lang/StringBuilder", "toString", "()Ljava/lang/String;"⟩ : MethodName)) (own_w hw 127 rfl) (own_w hw 128 rfl) (notFace_of_selects (args := #[]) (mvT hZ (own_w hw 130 rfl))) (own_w hw 130 rfl) (own_w hw 129 rfl) (own_w hw 36 rfl) (own_w hw 131 rfl) (a := b1) E58_b1 (by decide) (W := 0) (by decide) (by decide) N57 rfl (by rw [hml]; rfl) (argsL := []) (rest := []) (lenOf pd_22 rfl) (Nat.le_of_eq rfl) (by decide) (by decide) (rm2434c l Z a0 hw [] b1 an_44 kn_44 ((((([] : List Int32) ++ cs1) ++ (posL p2 p3)) ++ tx1) ++ cs4) ((((((List.replicate 16 (Value.int (0 : Int32))).drop cs1.length) ++ (List.replicate 18 (Value.int (0 : Int32)))).drop (posL p2 p3).length).drop tx1.length).drop cs4.length) w_DigitOnes w_DigitTens zc fm k_ones k_tens T57.heap n0 O58 ⟨z0, z1, z2, z3, z4, z5, z6, hzc, z8, hfm, trivial⟩ E58_b1 r57_0 r57_1 r57_2 r57_3 ge_b1 ge_an_44 r57_4 (by have q0 := posL_le p2 p3; have q1 := hl1; have q2 := hl4; simp only [List.length_append, List.length_nil, List.length_cons, dg_len, tx0_l, tx1_l, tx2_l] <;> omega)) rfl (hb hby d7_28) ?_
    intro v59 T59 lc59 X59 N59 hQ59
    obtain ⟨x_59, an_59, kn_59, rfl, K59, r59_0, r59_1, r59_2, r59_3, r59_4, r59_5⟩ := hQ59
    have O60 := O58.keep K59 all0
    have hk60 := Nat.le_trans hk58 K59.1
    have KC60 := KC58.trans K59 all0
    have ge_x_59 : n0 ≤ x_59 := Nat.le_trans (own_sz O58) r59_0
    have sz_x_59 : h47.size ≤ x_59 := Nat.le_trans KC58.1 r59_0
    have ge_an_59 : n0 ≤ an_59 := Nat.le_trans (own_sz O58) r59_1
    have sz_an_59 : h47.size ≤ an_59 := Nat.le_trans KC58.1 r59_1
    show Goes _ _ _ _ _ _ (T59.setTop (mkF m 31 #[.val (.ref a1), .val (.int p2), .val (.int p3), .val (.ref a4)] [(.ref x_59)]))
    have Cc61 := CC47.trans (CHr.keep KC60 (allS SA53_an_3 (allS SA53_an_44 (allS SA53_b1 all0))) CC47.1)
    exact own_retRH X59 hx hS47 hk60 hZ hEL Cc61 N59 hlk (by decide) (by decide) hret rfl rfl rfl (hb hby d7_31) (⟨x_59, an_59, kn_59, rfl, (KQ53.trans KC60 (allS (Or.inr sz_an_3) (allS (Or.inr s0_49) (allS (Or.inr sz_b1) all0)))), r59_2, r59_3, r59_4, r59_5⟩)
theorem d42_0 : decode jdk_41_method_11_code 0 = .ok (.iload_n 0, 1) := by decide +kernel
theorem d42_1 : decode jdk_41_method_11_code 1 = .ok (.ifCond .lt 8, 3) := by decide +kernel
theorem d42_4 : decode jdk_41_method_11_code 4 = .ok (.iload_n 0, 1) := by decide +kernel
theorem d42_5 : decode jdk_41_method_11_code 5 = .ok (.iload_n 1, 1) := by decide +kernel
theorem d42_6 : decode jdk_41_method_11_code 6 = .ok (.if_icmp .lt 10, 3) := by decide +kernel
theorem d42_16 : decode jdk_41_method_11_code 16 = .ok (.iload_n 0, 1) := by decide +kernel
theorem d42_17 : decode jdk_41_method_11_code 17 = .ok (.ireturn, 1) := by decide +kernel
theorem pn_8 : plainName "jdk/internal/util/Preconditions" = true := by first | (simp [plainName, overriddenIn]; done) | decide +kernel
def Q42n (Z : State) (p1 : Int32) (p2 : Int32) (h0 : Heap) (n0 : Nat) (v : Option Value) (h : Heap) : Prop :=
  (v = some (.int p1) ∧ h = h0)
theorem ef_42n (m : MethodId) (p1 : Int32) (p2 : Int32) : entryFrame m #[(.int p1), (.int p2), .null] 3 = mkF m 0 #[.val (.int p1), .val (.int p2), .val .null] [] := by first | (simp [entryFrame, mkF, argsToLocals, Value.category]; done) | rfl
set_option maxRecDepth 65536 in
set_option maxHeartbeats 40000000 in
theorem rm42n (l : Launch) (Z : State) (a0 : Array Value) (hw : ∀ d ∈ tables_1, d.before a0 Z = true) (ws : List Jvm.Cond) (p1 : Int32) (p2 : Int32) (h0 : Heap) (n0 : Nat) (O0 : Old Z n0 h0) (hlo : ¬ (p1 < (0 : Int32))) (hhi : p1 < p2) :
    Meets l (⟨"jdk/internal/util/Preconditions", "checkIndex", "(IILjava/util/function/BiFunction;)I"⟩ : MethodName) jdk_41_method_11_code 3 (some .int) ws ({ frames := 0, cells := 0, slots := 0, locals := 0 } : Room) ({ frames := 0, cells := 0, slots := 0, locals := 0 } : Room).cells ({ frames := 0, cells := 0, slots := 0, locals := 0 } : Room).slots Z #[(.int p1), (.int p2), .null] h0 n0 (Q42n Z p1 p2 h0 n0) := by
  refine Meets.of (F := fun m => mkF m 0 #[.val (.int p1), .val (.int p2), .val .null] []) (plainFor_of_name pn_8) (fun m => ef_42n m p1 p2) ?_
  intro p e s m below meth c T0 hx hby hml hown0 hnm hret hlk hZ X0 e0
  have hown : s.vm.findClass "jdk/internal/util/Preconditions" = some m.cls := hown0
  have N0 := Fr.nil n0
  show Goes _ _ _ _ _ _ (T0.setTop (mkF m 0 #[.val (.int p1), .val (.int p2), .val .null] []))
  refine own_iloadN X0 hx (hb hby d42_0) rfl ?_
  refine own_ifNo X0 hx (hb hby d42_1) ((if0 _ _).trans (flt (hlo : ¬ (p1 < (0 : Int32)))).1) ?_
  refine own_iloadN X0 hx (hb hby d42_4) rfl ?_
  refine own_iloadN X0 hx (hb hby d42_5) rfl ?_
  refine own_icmpYes X0 hx (pc' := 16) (hb hby d42_6) (tlt (hhi : p1 < p2)).1 (by decide) (by decide) ?_
  refine own_iloadN X0 hx (hb hby d42_16) rfl ?_
  show Goes _ _ _ _ _ _ (T0.setTop (mkF m 17 #[.val (.int p1), .val (.int p2), .val .null] [(.int p1)]))
  exact own_retI X0 hx N0 hlk (by decide) (by decide) hret (hb hby d42_17) (by rw [e0]; exact ⟨rfl, rfl⟩)
def Q42 (Z : State) (p1 : Int32) (p2 : Int32) (a3 : Addr) (h0 : Heap) (n0 : Nat) (v : Option Value) (h : Heap) : Prop :=
  (v = some (.int p1) ∧ h = h0)
theorem ef_42 (m : MethodId) (p1 : Int32) (p2 : Int32) (a3 : Addr) : entryFrame m #[(.int p1), (.int p2), (.ref a3)] 3 = mkF m 0 #[.val (.int p1), .val (.int p2), .val (.ref a3)] [] := by first | (simp [entryFrame, mkF, argsToLocals, Value.category]; done) | rfl
set_option maxRecDepth 65536 in
set_option maxHeartbeats 40000000 in
theorem rm42 (l : Launch) (Z : State) (a0 : Array Value) (hw : ∀ d ∈ tables_1, d.before a0 Z = true) (ws : List Jvm.Cond) (p1 : Int32) (p2 : Int32) (a3 : Addr) (h0 : Heap) (n0 : Nat) (O0 : Old Z n0 h0) (hlo : ¬ (p1 < (0 : Int32))) (hhi : p1 < p2) :
    Meets l (⟨"jdk/internal/util/Preconditions", "checkIndex", "(IILjava/util/function/BiFunction;)I"⟩ : MethodName) jdk_41_method_11_code 3 (some .int) ws ({ frames := 0, cells := 0, slots := 0, locals := 0 } : Room) ({ frames := 0, cells := 0, slots := 0, locals := 0 } : Room).cells ({ frames := 0, cells := 0, slots := 0, locals := 0 } : Room).slots Z #[(.int p1), (.int p2), (.ref a3)] h0 n0 (Q42 Z p1 p2 a3 h0 n0) := by
  refine Meets.of (F := fun m => mkF m 0 #[.val (.int p1), .val (.int p2), .val (.ref a3)] []) (plainFor_of_name pn_8) (fun m => ef_42 m p1 p2 a3) ?_
  intro p e s m below meth c T0 hx hby hml hown0 hnm hret hlk hZ X0 e0
  have hown : s.vm.findClass "jdk/internal/util/Preconditions" = some m.cls := hown0
  have N0 := Fr.nil n0
  show Goes _ _ _ _ _ _ (T0.setTop (mkF m 0 #[.val (.int p1), .val (.int p2), .val (.ref a3)] []))
  refine own_iloadN X0 hx (hb hby d42_0) rfl ?_
  refine own_ifNo X0 hx (hb hby d42_1) ((if0 _ _).trans (flt (hlo : ¬ (p1 < (0 : Int32)))).1) ?_
  refine own_iloadN X0 hx (hb hby d42_4) rfl ?_
  refine own_iloadN X0 hx (hb hby d42_5) rfl ?_
  refine own_icmpYes X0 hx (pc' := 16) (hb hby d42_6) (tlt (hhi : p1 < p2)).1 (by decide) (by decide) ?_
  refine own_iloadN X0 hx (hb hby d42_16) rfl ?_
  show Goes _ _ _ _ _ _ (T0.setTop (mkF m 17 #[.val (.int p1), .val (.int p2), .val (.ref a3)] [(.int p1)]))
  exact own_retI X0 hx N0 hlk (by decide) (by decide) hret (hb hby d42_17) (by rw [e0]; exact ⟨rfl, rfl⟩)
theorem d41_0 : decode jdk_42_method_155_code 0 = .ok (.iload_n 0, 1) := by decide +kernel
theorem d41_1 : decode jdk_42_method_155_code 1 = .ok (.iload_n 1, 1) := by decide +kernel
theorem d41_2 : decode jdk_42_method_155_code 2 = .ok (.getstatic 1053, 3) := by decide +kernel
theorem d41_5 : decode jdk_42_method_155_code 5 = .ok (.invokestatic 1059, 3) := by decide +kernel
theorem pd_24 : parseMethodDescriptor "(IILjava/util/function/BiFunction;)I" = some ⟨[.int, .int, (.object "java/util/function/BiFunction")], some .int⟩ := by decide +kernel
theorem d41_8 : decode jdk_42_method_155_code 8 = .ok (.pop, 1) := by decide +kernel
theorem d41_9 : decode jdk_42_method_155_code 9 = .ok (.return_, 1) := by decide +kernel
def Q41 (Z : State) (p1 : Int32) (p2 : Int32) (w_DigitOnes : Addr) (w_DigitTens : Addr) (zc : Int32) (fm : Value) (k_ones : ClassId) (k_tens : ClassId) (h0 : Heap) (n0 : Nat) (v : Option Value) (h : Heap) : Prop :=
  (v = none ∧ h = h0)
theorem ef_41 (m : MethodId) (p1 : Int32) (p2 : Int32) : entryFrame m #[(.int p1), (.int p2)] 2 = mkF m 0 #[.val (.int p1), .val (.int p2)] [] := by first | (simp [entryFrame, mkF, argsToLocals, Value.category]; done) | rfl
set_option maxRecDepth 65536 in
set_option maxHeartbeats 40000000 in
theorem rm41 (l : Launch) (Z : State) (a0 : Array Value) (hw : ∀ d ∈ tables_1, d.before a0 Z = true) (ws : List Jvm.Cond) (p1 : Int32) (p2 : Int32) (w_DigitOnes : Addr) (w_DigitTens : Addr) (zc : Int32) (fm : Value) (k_ones : ClassId) (k_tens : ClassId) (h0 : Heap) (n0 : Nat) (O0 : Old Z n0 h0) (SF : Start Z w_DigitOnes w_DigitTens zc fm k_ones k_tens) (hlo : ¬ (p1 < (0 : Int32))) (hhi : p1 < p2) :
    Meets l (⟨"java/lang/String", "checkIndex", "(II)V"⟩ : MethodName) jdk_42_method_155_code 2 none ws ({ frames := 1, cells := 0, slots := 0, locals := 14 } : Room) ({ frames := 1, cells := 0, slots := 0, locals := 14 } : Room).cells ({ frames := 1, cells := 0, slots := 0, locals := 14 } : Room).slots Z #[(.int p1), (.int p2)] h0 n0 (Q41 Z p1 p2 w_DigitOnes w_DigitTens zc fm k_ones k_tens h0 n0) := by
  refine Meets.of (F := fun m => mkF m 0 #[.val (.int p1), .val (.int p2)] []) (plainFor_of_name pn_0) (fun m => ef_41 m p1 p2) ?_
  intro p e s m below meth c T0 hx hby hml hown0 hnm hret hlk hZ X0 e0
  have hown : s.vm.findClass "java/lang/String" = some m.cls := hown0
  have N0 := Fr.nil n0
  obtain ⟨z0, z1, z2, z3, z4, z5, z6, hzc, z8, hfm, -⟩ := SF
  show Goes _ _ _ _ _ _ (T0.setTop (mkF m 0 #[.val (.int p1), .val (.int p2)] []))
  refine own_iloadN X0 hx (hb hby d41_0) rfl ?_
  refine own_iloadN X0 hx (hb hby d41_1) rfl ?_
  refine own_getS X0 hx hZ hown (host := "") (Or.inl (own_w hw 200 rfl)) Via.refl e0 (z8.ext O0.2) (hb hby d41_2) (fun T1 X1 e1 => ?_)
  show Goes _ _ _ _ _ _ (T1.setTop (mkF m 5 #[.val (.int p1), .val (.int p2)] [fm, (.int p2), (.int p1)]))
  rcases ref_cases hfm with hf0 | ⟨fa, hf0⟩
  ·
    rw [hf0]
    show Goes _ _ _ _ _ _ (T1.setTop (mkF m 5 #[.val (.int p1), .val (.int p2)] [.null, (.int p2), (.int p1)]))
    refine own_callS X1 hx hZ hown (y := (⟨"jdk/internal/util/Preconditions", "checkIndex", "(IILjava/util/function/BiFunction;)I"⟩ : MethodName)) (own_w hw 202 rfl) (own_w hw 203 rfl) (own_w hw 201 rfl) (own_w hw 204 rfl) (by decide) (W := 0) (by decide) (by decide) N0 e1 (by rw [hml]; rfl) (argsL := [(.int p1), (.int p2), .null]) (rest := []) (lenOf pd_24 rfl) (Nat.le_of_eq rfl) (by decide) (by decide) (rm42n l Z a0 hw [] p1 p2 h0 n0 O0 hlo hhi) rfl (hb hby d41_5) ?_
    intro v2 T2 lc2 X2 N2 hQ2
    obtain ⟨rfl, e2⟩ := hQ2
    refine own_pop X2 hx (hb hby d41_8) rfl ?_
    show Goes _ _ _ _ _ _ (T2.setTop (mkF m 9 #[.val (.int p1), .val (.int p2)] []))
    exact own_retV X2 hx N2 hlk (by decide) (by decide) hret (hb hby d41_9) (by rw [e2]; exact ⟨rfl, rfl⟩)
  ·
    rw [hf0]
    show Goes _ _ _ _ _ _ (T1.setTop (mkF m 5 #[.val (.int p1), .val (.int p2)] [(.ref fa), (.int p2), (.int p1)]))
    refine own_callS X1 hx hZ hown (y := (⟨"jdk/internal/util/Preconditions", "checkIndex", "(IILjava/util/function/BiFunction;)I"⟩ : MethodName)) (own_w hw 202 rfl) (own_w hw 203 rfl) (own_w hw 201 rfl) (own_w hw 204 rfl) (by decide) (W := 0) (by decide) (by decide) N0 e1 (by rw [hml]; rfl) (argsL := [(.int p1), (.int p2), (.ref fa)]) (rest := []) (lenOf pd_24 rfl) (Nat.le_of_eq rfl) (by decide) (by decide) (rm42 l Z a0 hw [] p1 p2 fa h0 n0 O0 hlo hhi) rfl (hb hby d41_5) ?_
    intro v3 T3 lc3 X3 N3 hQ3
    obtain ⟨rfl, e3⟩ := hQ3
    refine own_pop X3 hx (hb hby d41_8) rfl ?_
    show Goes _ _ _ _ _ _ (T3.setTop (mkF m 9 #[.val (.int p1), .val (.int p2)] []))
    exact own_retV X3 hx N3 hlk (by decide) (by decide) hret (hb hby d41_9) (by rw [e3]; exact ⟨rfl, rfl⟩)
theorem d40_0 : decode jdk_43_method_2_code 0 = .ok (.iload_n 1, 1) := by decide +kernel
theorem d40_1 : decode jdk_43_method_2_code 1 = .ok (.aload_n 0, 1) := by decide +kernel
theorem d40_2 : decode jdk_43_method_2_code 2 = .ok (.arraylength, 1) := by decide +kernel
theorem d40_3 : decode jdk_43_method_2_code 3 = .ok (.invokestatic 9, 3) := by decide +kernel
theorem d40_6 : decode jdk_43_method_2_code 6 = .ok (.aload_n 0, 1) := by decide +kernel
theorem d40_7 : decode jdk_43_method_2_code 7 = .ok (.iload_n 1, 1) := by decide +kernel
theorem d40_8 : decode jdk_43_method_2_code 8 = .ok (.baload, 1) := by decide +kernel
theorem d40_9 : decode jdk_43_method_2_code 9 = .ok (.sipush 255, 3) := by decide +kernel
theorem d40_12 : decode jdk_43_method_2_code 12 = .ok (.iand, 1) := by decide +kernel
theorem d40_13 : decode jdk_43_method_2_code 13 = .ok (.i2c, 1) := by decide +kernel
theorem d40_14 : decode jdk_43_method_2_code 14 = .ok (.ireturn, 1) := by decide +kernel
theorem pn_9 : plainName "java/lang/StringLatin1" = true := by first | (simp [plainName, overriddenIn]; done) | decide +kernel
def Q40 (Z : State) (a1 : Addr) (p2 : Int32) (k : ClassId) (cs : List Int32) (w_DigitOnes : Addr) (w_DigitTens : Addr) (zc : Int32) (fm : Value) (k_ones : ClassId) (k_tens : ClassId) (h0 : Heap) (n0 : Nat) (v : Option Value) (h : Heap) : Prop :=
  (v = some (.int (cs.getD p2.toNatClampNeg (0 : Int32))) ∧ h = h0)
theorem ef_40 (m : MethodId) (a1 : Addr) (p2 : Int32) : entryFrame m #[(.ref a1), (.int p2)] 2 = mkF m 0 #[.val (.ref a1), .val (.int p2)] [] := by first | (simp [entryFrame, mkF, argsToLocals, Value.category]; done) | rfl
set_option maxRecDepth 65536 in
set_option maxHeartbeats 40000000 in
theorem rm40 (l : Launch) (Z : State) (a0 : Array Value) (hw : ∀ d ∈ tables_1, d.before a0 Z = true) (ws : List Jvm.Cond) (a1 : Addr) (p2 : Int32) (k : ClassId) (cs : List Int32) (w_DigitOnes : Addr) (w_DigitTens : Addr) (zc : Int32) (fm : Value) (k_ones : ClassId) (k_tens : ClassId) (h0 : Heap) (n0 : Nat) (O0 : Old Z n0 h0) (SF : Start Z w_DigitOnes w_DigitTens zc fm k_ones k_tens) (f0 : Arv Z h0 a1 k .byte (Int32.ofNat cs.length) (bl cs) (.int (0 : Int32))) (hlo : ¬ (p2 < (0 : Int32))) (hhi : p2 < (Int32.ofNat cs.length)) (hb8 : ∀ x ∈ cs, B8 x) :
    Meets l (⟨"java/lang/StringLatin1", "charAt", "([BI)C"⟩ : MethodName) jdk_43_method_2_code 2 (some .char) ws ({ frames := 2, cells := 0, slots := 0, locals := 27 } : Room) ({ frames := 2, cells := 0, slots := 0, locals := 27 } : Room).cells ({ frames := 2, cells := 0, slots := 0, locals := 27 } : Room).slots Z #[(.ref a1), (.int p2)] h0 n0 (Q40 Z a1 p2 k cs w_DigitOnes w_DigitTens zc fm k_ones k_tens h0 n0) := by
  refine Meets.of (F := fun m => mkF m 0 #[.val (.ref a1), .val (.int p2)] []) (plainFor_of_name pn_9) (fun m => ef_40 m a1 p2) ?_
  intro p e s m below meth c T0 hx hby hml hown0 hnm hret hlk hZ X0 e0
  have hown : s.vm.findClass "java/lang/StringLatin1" = some m.cls := hown0
  have N0 := Fr.nil n0
  obtain ⟨z0, z1, z2, z3, z4, z5, z6, hzc, z8, hfm, -⟩ := SF
  show Goes _ _ _ _ _ _ (T0.setTop (mkF m 0 #[.val (.ref a1), .val (.int p2)] []))
  refine own_iloadN X0 hx (hb hby d40_0) rfl ?_
  refine own_aloadN X0 hx (hb hby d40_1) rfl rfl ?_
  refine own_alen X0 hx hZ e0 f0 (hb hby d40_2) ?_
  refine own_callS X0 hx hZ hown (y := (⟨"java/lang/String", "checkIndex", "(II)V"⟩ : MethodName)) (own_w hw 197 rfl) (own_w hw 198 rfl) (own_w hw 2 rfl) (own_w hw 199 rfl) (by decide) (W := 0) (by decide) (by decide) N0 e0 (by rw [hml]; rfl) (argsL := [(.int p2), (.int (Int32.ofNat cs.length))]) (rest := []) (lenOf pd_14 rfl) (Nat.le_of_eq rfl) (by decide) (by decide) (rm41 l Z a0 hw [] p2 (Int32.ofNat cs.length) w_DigitOnes w_DigitTens zc fm k_ones k_tens h0 n0 O0 ⟨z0, z1, z2, z3, z4, z5, z6, hzc, z8, hfm, trivial⟩ hlo hhi) rfl (hb hby d40_3) ?_
  intro v1 T1 lc1 X1 N1 hQ1
  obtain ⟨rfl, e1⟩ := hQ1
  refine own_aloadN X1 hx (hb hby d40_6) rfl rfl ?_
  refine own_iloadN X1 hx (hb hby d40_7) rfl ?_
  refine own_baload X1 hx hZ e1 f0 ⟨hlo, hhi⟩ (v := (.int ((cs.getD p2.toNatClampNeg (0 : Int32)).toInt8.toInt32))) (own_blget cs _) (hb hby d40_8) ?_
  refine own_sipush X1 hx (v := (255 : Int32)) (hb hby d40_9) rfl ?_
  refine own_iand X1 hx (hb hby d40_12) ?_
  show Goes _ _ _ _ _ _ (T1.setTop (mkF m 13 #[.val (.ref a1), .val (.int p2)] [(.int (((cs.getD p2.toNatClampNeg (0 : Int32)).toInt8.toInt32) &&& (255 : Int32)))]))
  refine own_i2c X1 hx (hb hby d40_13) ?_
  show Goes _ _ _ _ _ _ (T1.setTop (mkF m 14 #[.val (.ref a1), .val (.int p2)] [(.int ((((cs.getD p2.toNatClampNeg (0 : Int32)).toInt8.toInt32) &&& (255 : Int32)).toUInt32.toUInt16.toUInt32.toInt32))]))
  exact own_retN X1 hx (t := .char) N1 hlk (by decide) (by decide) hret (by simp) (hb hby d40_14) (by rw [e1]; exact ⟨(congrArg (fun z => some (Value.int z)) (own_chr (own_b8get hb8 _))), rfl⟩)
theorem d38_0 : decode jdk_42_method_56_code 0 = .ok (.aload_n 0, 1) := by decide +kernel
theorem d38_1 : decode jdk_42_method_56_code 1 = .ok (.invokevirtual 492, 3) := by decide +kernel
theorem d38_4 : decode jdk_42_method_56_code 4 = .ok (.ifCond .eq 12, 3) := by decide +kernel
theorem d38_7 : decode jdk_42_method_56_code 7 = .ok (.aload_n 0, 1) := by decide +kernel
theorem d38_8 : decode jdk_42_method_56_code 8 = .ok (.getfield 9, 3) := by decide +kernel
theorem d38_11 : decode jdk_42_method_56_code 11 = .ok (.iload_n 1, 1) := by decide +kernel
theorem d38_12 : decode jdk_42_method_56_code 12 = .ok (.invokestatic 495, 3) := by decide +kernel
theorem pd_25 : parseMethodDescriptor "([BI)C" = some ⟨[(.array .byte), .int], some .char⟩ := by decide +kernel
theorem d38_15 : decode jdk_42_method_56_code 15 = .ok (.ireturn, 1) := by decide +kernel
def Q38 (Z : State) (a1 : Addr) (p2 : Int32) (t : Addr) (k : ClassId) (cs : List Int32) (w_DigitOnes : Addr) (w_DigitTens : Addr) (zc : Int32) (fm : Value) (k_ones : ClassId) (k_tens : ClassId) (h0 : Heap) (n0 : Nat) (v : Option Value) (h : Heap) : Prop :=
  (v = some (.int (cs.getD p2.toNatClampNeg (0 : Int32))) ∧ h = h0)
theorem ef_38 (m : MethodId) (a1 : Addr) (p2 : Int32) : entryFrame m #[(.ref a1), (.int p2)] 2 = mkF m 0 #[.val (.ref a1), .val (.int p2)] [] := by first | (simp [entryFrame, mkF, argsToLocals, Value.category]; done) | rfl
set_option maxRecDepth 65536 in
set_option maxHeartbeats 40000000 in
theorem rm38 (l : Launch) (Z : State) (a0 : Array Value) (hw : ∀ d ∈ tables_1, d.before a0 Z = true) (ws : List Jvm.Cond) (a1 : Addr) (p2 : Int32) (t : Addr) (k : ClassId) (cs : List Int32) (w_DigitOnes : Addr) (w_DigitTens : Addr) (zc : Int32) (fm : Value) (k_ones : ClassId) (k_tens : ClassId) (h0 : Heap) (n0 : Nat) (O0 : Old Z n0 h0) (SF : Start Z w_DigitOnes w_DigitTens zc fm k_ones k_tens) (f0 : Exa Z h0 a1 "java/lang/String") (f1 : Fld Z h0 a1 "java/lang/String" "value" "[B" (.ref t)) (f2 : Fld Z h0 a1 "java/lang/String" "coder" "B" (.int (0 : Int32))) (f3 : Arv Z h0 t k .byte (Int32.ofNat cs.length) (bl cs) (.int (0 : Int32))) (hlo : ¬ (p2 < (0 : Int32))) (hhi : p2 < (Int32.ofNat cs.length)) (hb8 : ∀ x ∈ cs, B8 x) :
    Meets l (⟨"java/lang/String", "charAt", "(I)C"⟩ : MethodName) jdk_42_method_56_code 2 (some .char) ws ({ frames := 3, cells := 0, slots := 0, locals := 40 } : Room) ({ frames := 3, cells := 0, slots := 0, locals := 40 } : Room).cells ({ frames := 3, cells := 0, slots := 0, locals := 40 } : Room).slots Z #[(.ref a1), (.int p2)] h0 n0 (Q38 Z a1 p2 t k cs w_DigitOnes w_DigitTens zc fm k_ones k_tens h0 n0) := by
  refine Meets.of (F := fun m => mkF m 0 #[.val (.ref a1), .val (.int p2)] []) (plainFor_of_name pn_0) (fun m => ef_38 m a1 p2) ?_
  intro p e s m below meth c T0 hx hby hml hown0 hnm hret hlk hZ X0 e0
  have hown : s.vm.findClass "java/lang/String" = some m.cls := hown0
  have N0 := Fr.nil n0
  obtain ⟨z0, z1, z2, z3, z4, z5, z6, hzc, z8, hfm, -⟩ := SF
  show Goes _ _ _ _ _ _ (T0.setTop (mkF m 0 #[.val (.ref a1), .val (.int p2)] []))
  refine own_aloadN X0 hx (hb hby d38_0) rfl rfl ?_
  refine own_virtual X0 hx hZ hown (y := (⟨"java/lang/String", "isLatin1", "()Z"⟩ : MethodName)) (z := (⟨"java/lang/String", "isLatin1", "()Z"⟩ : MethodName)) (own_w hw 188 rfl) (own_w hw 189 rfl) (notFace_of_selects (args := #[]) (mvT hZ (own_w hw 191 rfl))) (own_w hw 191 rfl) (own_w hw 190 rfl) (own_w hw 2 rfl) (own_w hw 192 rfl) (a := a1) f0 (by decide) (W := 0) (by decide) (by decide) N0 e0 (by rw [hml]; rfl) (argsL := []) (rest := []) (lenOf pd_11 rfl) (Nat.le_of_eq rfl) (by decide) (by decide) (rm39 l Z a0 hw [] a1 w_DigitOnes w_DigitTens zc fm k_ones k_tens h0 n0 O0 ⟨z0, z1, z2, z3, z4, z5, z6, hzc, z8, hfm, trivial⟩ f2) rfl (hb hby d38_1) ?_
  intro v1 T1 lc1 X1 N1 hQ1
  obtain ⟨rfl, e1⟩ := hQ1
  refine own_ifNo X1 hx (hb hby d38_4) ((if0 _ _).trans (feq (by decide : ¬ ((1 : Int32) = (0 : Int32)))).1) ?_
  refine own_aloadN X1 hx (hb hby d38_7) rfl rfl ?_
  refine own_getF X1 hx hZ hown (host := "") (Or.inl (own_w hw 28 rfl)) Via.refl e1 f1 (hb hby d38_8) (fun T2 X2 e2 => ?_)
  refine own_iloadN X2 hx (hb hby d38_11) rfl ?_
  refine own_callS X2 hx hZ hown (y := (⟨"java/lang/StringLatin1", "charAt", "([BI)C"⟩ : MethodName)) (own_w hw 193 rfl) (own_w hw 194 rfl) (own_w hw 195 rfl) (own_w hw 196 rfl) (by decide) (W := 0) (by decide) (by decide) N1 e2 (by rw [hml]; rfl) (argsL := [(.ref t), (.int p2)]) (rest := []) (lenOf pd_25 rfl) (Nat.le_of_eq rfl) (by decide) (by decide) (rm40 l Z a0 hw [] t p2 k cs w_DigitOnes w_DigitTens zc fm k_ones k_tens h0 n0 O0 ⟨z0, z1, z2, z3, z4, z5, z6, hzc, z8, hfm, trivial⟩ f3 hlo hhi hb8) rfl (hb hby d38_12) ?_
  intro v3 T3 lc3 X3 N3 hQ3
  obtain ⟨rfl, e3⟩ := hQ3
  show Goes _ _ _ _ _ _ (T3.setTop (mkF m 15 #[.val (.ref a1), .val (.int p2)] [(.int (cs.getD p2.toNatClampNeg (0 : Int32)))]))
  exact own_retN X3 hx (t := .char) N3 hlk (by decide) (by decide) hret (by simp) (hb hby d38_15) (by rw [e3]; exact ⟨(congrArg (fun z => some (Value.int z)) (own_nar (own_b8get hb8 _))), rfl⟩)
theorem d34_0 : decode method_7_code 0 = .ok (.iconst 2, 1) := by decide +kernel
theorem d34_1 : decode method_7_code 1 = .ok (.istore_n 2, 1) := by decide +kernel
theorem d34_2 : decode method_7_code 2 = .ok (.iload_n 0, 1) := by decide +kernel
theorem d34_3 : decode method_7_code 3 = .ok (.iconst 1, 1) := by decide +kernel
theorem d34_4 : decode method_7_code 4 = .ok (.if_icmp .lt 26, 3) := by decide +kernel
theorem d34_30 : decode method_7_code 30 = .ok (.iload_n 2, 1) := by decide +kernel
theorem d34_31 : decode method_7_code 31 = .ok (.iconst 4, 1) := by decide +kernel
theorem d34_32 : decode method_7_code 32 = .ok (.iadd, 1) := by decide +kernel
theorem d34_33 : decode method_7_code 33 = .ok (.ireturn, 1) := by decide +kernel
theorem d34_7 : decode method_7_code 7 = .ok (.iload_n 2, 1) := by decide +kernel
theorem d34_8 : decode method_7_code 8 = .ok (.iconst 1, 1) := by decide +kernel
theorem d34_9 : decode method_7_code 9 = .ok (.iadd, 1) := by decide +kernel
theorem d34_10 : decode method_7_code 10 = .ok (.iload_n 0, 1) := by decide +kernel
theorem d34_11 : decode method_7_code 11 = .ok (.invokestatic 48, 3) := by decide +kernel
theorem d34_14 : decode method_7_code 14 = .ok (.iadd, 1) := by decide +kernel
theorem d34_15 : decode method_7_code 15 = .ok (.istore_n 2, 1) := by decide +kernel
theorem d34_16 : decode method_7_code 16 = .ok (.iload_n 1, 1) := by decide +kernel
theorem d34_17 : decode method_7_code 17 = .ok (.iconst 1, 1) := by decide +kernel
theorem d34_18 : decode method_7_code 18 = .ok (.if_icmp .lt 12, 3) := by decide +kernel
theorem d34_21 : decode method_7_code 21 = .ok (.iload_n 2, 1) := by decide +kernel
theorem d34_22 : decode method_7_code 22 = .ok (.iconst 1, 1) := by decide +kernel
theorem d34_23 : decode method_7_code 23 = .ok (.iadd, 1) := by decide +kernel
theorem d34_24 : decode method_7_code 24 = .ok (.iload_n 1, 1) := by decide +kernel
theorem d34_25 : decode method_7_code 25 = .ok (.invokestatic 48, 3) := by decide +kernel
theorem d34_28 : decode method_7_code 28 = .ok (.iadd, 1) := by decide +kernel
theorem d34_29 : decode method_7_code 29 = .ok (.istore_n 2, 1) := by decide +kernel
def Q34 (Z : State) (p1 : Int32) (p2 : Int32) (h0 : Heap) (n0 : Nat) (v : Option Value) (h : Heap) : Prop :=
  (v = some (.int (Int32.ofNat (6 + (posL p1 p2).length))) ∧ h = h0)
theorem ef_34 (m : MethodId) (p1 : Int32) (p2 : Int32) : entryFrame m #[(.int p1), (.int p2)] 3 = mkF m 0 #[.val (.int p1), .val (.int p2), .unset] [] := by first | (simp [entryFrame, mkF, argsToLocals, Value.category]; done) | rfl
set_option maxRecDepth 65536 in
set_option maxHeartbeats 40000000 in
theorem rm34 (l : Launch) (Z : State) (a0 : Array Value) (hw : ∀ d ∈ tables_1, d.before a0 Z = true) (ws : List Jvm.Cond) (p1 : Int32) (p2 : Int32) (h0 : Heap) (n0 : Nat) (O0 : Old Z n0 h0) :
    Meets l (⟨"com/example/gantry/gantry/descriptor/DescriptorExceptionMessagePinLaw", "totalLen", "(II)I"⟩ : MethodName) method_7_code 3 (some .int) ws ({ frames := 1, cells := 0, slots := 0, locals := 13 } : Room) ({ frames := 1, cells := 0, slots := 0, locals := 13 } : Room).cells ({ frames := 1, cells := 0, slots := 0, locals := 13 } : Room).slots Z #[(.int p1), (.int p2)] h0 n0 (Q34 Z p1 p2 h0 n0) := by
  refine Meets.of (F := fun m => mkF m 0 #[.val (.int p1), .val (.int p2), .unset] []) (plainFor_of_name pn_6) (fun m => ef_34 m p1 p2) ?_
  intro p e s m below meth c T0 hx hby hml hown0 hnm hret hlk hZ X0 e0
  have hown : s.vm.findClass "com/example/gantry/gantry/descriptor/DescriptorExceptionMessagePinLaw" = some m.cls := hown0
  have N0 := Fr.nil n0
  show Goes _ _ _ _ _ _ (T0.setTop (mkF m 0 #[.val (.int p1), .val (.int p2), .unset] []))
  refine own_iconst X0 hx (v := (2 : Int32)) (hb hby d34_0) rfl ?_
  refine own_istoreN X0 hx (Ls' := #[.val (.int p1), .val (.int p2), .val (.int (2 : Int32))]) (hb hby d34_1) rfl ?_
  refine own_iloadN X0 hx (hb hby d34_2) rfl ?_
  refine own_iconst X0 hx (v := (1 : Int32)) (hb hby d34_3) rfl ?_
  by_cases hc4_1 : p1 < (1 : Int32)
  ·
    refine own_icmpYes X0 hx (pc' := 30) (hb hby d34_4) (tlt (hc4_1 : p1 < (1 : Int32))).1 (by decide) (by decide) ?_
    refine own_iloadN X0 hx (hb hby d34_30) rfl ?_
    refine own_iconst X0 hx (v := (4 : Int32)) (hb hby d34_31) rfl ?_
    refine own_iadd X0 hx (hb hby d34_32) ?_
    show Goes _ _ _ _ _ _ (T0.setTop (mkF m 33 #[.val (.int p1), .val (.int p2), .val (.int (2 : Int32))] [(.int ((2 : Int32) + (4 : Int32)))]))
    rw [show ((2 : Int32) + (4 : Int32)) = (6 : Int32) by decide]
    exact own_retI X0 hx N0 hlk (by decide) (by decide) hret (hb hby d34_33) (by rw [e0]; exact ⟨(congrArg (fun z => some (Value.int z)) (own_tot0 hc4_1)), rfl⟩)
  ·
    refine own_icmpNo X0 hx (hb hby d34_4) (flt (hc4_1 : ¬ (p1 < (1 : Int32)))).1 ?_
    refine own_iloadN X0 hx (hb hby d34_7) rfl ?_
    refine own_iconst X0 hx (v := (1 : Int32)) (hb hby d34_8) rfl ?_
    refine own_iadd X0 hx (hb hby d34_9) ?_
    show Goes _ _ _ _ _ _ (T0.setTop (mkF m 10 #[.val (.int p1), .val (.int p2), .val (.int (2 : Int32))] [(.int ((2 : Int32) + (1 : Int32)))]))
    rw [show ((2 : Int32) + (1 : Int32)) = (3 : Int32) by decide]
    refine own_iloadN X0 hx (hb hby d34_10) rfl ?_
    refine own_callS X0 hx hZ hown (y := (⟨"com/example/gantry/gantry/descriptor/DescriptorExceptionMessagePinLaw", "numLen", "(I)I"⟩ : MethodName)) (own_w hw 174 rfl) (own_w hw 175 rfl) (own_w hw 172 rfl) (own_w hw 176 rfl) (by decide) (W := 1) (by decide) (by decide) N0 e0 (by rw [hml]; rfl) (argsL := [(.int p1)]) (rest := [(.int (3 : Int32))]) (lenOf pd_4 rfl) (Nat.le_of_eq rfl) (by decide) (by decide) (rm35 l Z a0 hw [] p1 h0 n0 O0 (own_posi hc4_1)) rfl (hb hby d34_11) ?_
    intro v2 T2 lc2 X2 N2 hQ2
    obtain ⟨rfl, e2⟩ := hQ2
    refine own_iadd X2 hx (hb hby d34_14) ?_
    refine own_istoreN X2 hx (Ls' := #[.val (.int p1), .val (.int p2), .val (.int ((3 : Int32) + (Int32.ofNat (nd p1.toNatClampNeg))))]) (hb hby d34_15) rfl ?_
    refine own_iloadN X2 hx (hb hby d34_16) rfl ?_
    refine own_iconst X2 hx (v := (1 : Int32)) (hb hby d34_17) rfl ?_
    by_cases hc18_3 : p2 < (1 : Int32)
    ·
      refine own_icmpYes X2 hx (pc' := 30) (hb hby d34_18) (tlt (hc18_3 : p2 < (1 : Int32))).1 (by decide) (by decide) ?_
      refine own_iloadN X2 hx (hb hby d34_30) rfl ?_
      refine own_iconst X2 hx (v := (4 : Int32)) (hb hby d34_31) rfl ?_
      refine own_iadd X2 hx (hb hby d34_32) ?_
      show Goes _ _ _ _ _ _ (T2.setTop (mkF m 33 #[.val (.int p1), .val (.int p2), .val (.int ((3 : Int32) + (Int32.ofNat (nd p1.toNatClampNeg))))] [(.int (((3 : Int32) + (Int32.ofNat (nd p1.toNatClampNeg))) + (4 : Int32)))]))
      exact own_retI X2 hx N2 hlk (by decide) (by decide) hret (hb hby d34_33) (by rw [e2]; exact ⟨(congrArg (fun z => some (Value.int z)) (own_tot1 hc4_1 hc18_3)), rfl⟩)
    ·
      refine own_icmpNo X2 hx (hb hby d34_18) (flt (hc18_3 : ¬ (p2 < (1 : Int32)))).1 ?_
      refine own_iloadN X2 hx (hb hby d34_21) rfl ?_
      refine own_iconst X2 hx (v := (1 : Int32)) (hb hby d34_22) rfl ?_
      refine own_iadd X2 hx (hb hby d34_23) ?_
      refine own_iloadN X2 hx (hb hby d34_24) rfl ?_
      refine own_callS X2 hx hZ hown (y := (⟨"com/example/gantry/gantry/descriptor/DescriptorExceptionMessagePinLaw", "numLen", "(I)I"⟩ : MethodName)) (own_w hw 174 rfl) (own_w hw 175 rfl) (own_w hw 172 rfl) (own_w hw 176 rfl) (by decide) (W := 1) (by decide) (by decide) N2 e2 (by rw [hml]; rfl) (argsL := [(.int p2)]) (rest := [(.int (((3 : Int32) + (Int32.ofNat (nd p1.toNatClampNeg))) + (1 : Int32)))]) (lenOf pd_4 rfl) (Nat.le_of_eq rfl) (by decide) (by decide) (rm35 l Z a0 hw [] p2 h0 n0 O0 (own_posi hc18_3)) rfl (hb hby d34_25) ?_
      intro v4 T4 lc4 X4 N4 hQ4
      obtain ⟨rfl, e4⟩ := hQ4
      refine own_iadd X4 hx (hb hby d34_28) ?_
      refine own_istoreN X4 hx (Ls' := #[.val (.int p1), .val (.int p2), .val (.int ((((3 : Int32) + (Int32.ofNat (nd p1.toNatClampNeg))) + (1 : Int32)) + (Int32.ofNat (nd p2.toNatClampNeg))))]) (hb hby d34_29) rfl ?_
      refine own_iloadN X4 hx (hb hby d34_30) rfl ?_
      refine own_iconst X4 hx (v := (4 : Int32)) (hb hby d34_31) rfl ?_
      refine own_iadd X4 hx (hb hby d34_32) ?_
      show Goes _ _ _ _ _ _ (T4.setTop (mkF m 33 #[.val (.int p1), .val (.int p2), .val (.int ((((3 : Int32) + (Int32.ofNat (nd p1.toNatClampNeg))) + (1 : Int32)) + (Int32.ofNat (nd p2.toNatClampNeg))))] [(.int (((((3 : Int32) + (Int32.ofNat (nd p1.toNatClampNeg))) + (1 : Int32)) + (Int32.ofNat (nd p2.toNatClampNeg))) + (4 : Int32)))]))
      exact own_retI X4 hx N4 hlk (by decide) (by decide) hret (hb hby d34_33) (by rw [e4]; exact ⟨(congrArg (fun z => some (Value.int z)) (own_tot2 hc4_1 hc18_3)), rfl⟩)
theorem d44_0 : decode method_6_code 0 = .ok (.bipush 10, 2) := by decide +kernel
theorem d44_2 : decode method_6_code 2 = .ok (.newarray .int, 2) := by decide +kernel
theorem d44_4 : decode method_6_code 4 = .ok (.dup, 1) := by decide +kernel
theorem d44_5 : decode method_6_code 5 = .ok (.iconst 0, 1) := by decide +kernel
theorem d44_6 : decode method_6_code 6 = .ok (.iconst 1, 1) := by decide +kernel
theorem d44_7 : decode method_6_code 7 = .ok (.iastore, 1) := by decide +kernel
theorem d44_8 : decode method_6_code 8 = .ok (.dup, 1) := by decide +kernel
theorem d44_9 : decode method_6_code 9 = .ok (.iconst 1, 1) := by decide +kernel
theorem d44_10 : decode method_6_code 10 = .ok (.bipush 10, 2) := by decide +kernel
theorem d44_12 : decode method_6_code 12 = .ok (.iastore, 1) := by decide +kernel
theorem d44_13 : decode method_6_code 13 = .ok (.dup, 1) := by decide +kernel
theorem d44_14 : decode method_6_code 14 = .ok (.iconst 2, 1) := by decide +kernel
theorem d44_15 : decode method_6_code 15 = .ok (.bipush 100, 2) := by decide +kernel
theorem d44_17 : decode method_6_code 17 = .ok (.iastore, 1) := by decide +kernel
theorem d44_18 : decode method_6_code 18 = .ok (.dup, 1) := by decide +kernel
theorem d44_19 : decode method_6_code 19 = .ok (.iconst 3, 1) := by decide +kernel
theorem d44_20 : decode method_6_code 20 = .ok (.sipush 1000, 3) := by decide +kernel
theorem d44_23 : decode method_6_code 23 = .ok (.iastore, 1) := by decide +kernel
theorem d44_24 : decode method_6_code 24 = .ok (.dup, 1) := by decide +kernel
theorem d44_25 : decode method_6_code 25 = .ok (.iconst 4, 1) := by decide +kernel
theorem d44_26 : decode method_6_code 26 = .ok (.sipush 10000, 3) := by decide +kernel
theorem d44_29 : decode method_6_code 29 = .ok (.iastore, 1) := by decide +kernel
theorem d44_30 : decode method_6_code 30 = .ok (.dup, 1) := by decide +kernel
theorem d44_31 : decode method_6_code 31 = .ok (.iconst 5, 1) := by decide +kernel
theorem d44_32 : decode method_6_code 32 = .ok (.ldc 43, 2) := by decide +kernel
theorem d44_34 : decode method_6_code 34 = .ok (.iastore, 1) := by decide +kernel
theorem d44_35 : decode method_6_code 35 = .ok (.dup, 1) := by decide +kernel
theorem d44_36 : decode method_6_code 36 = .ok (.bipush 6, 2) := by decide +kernel
theorem d44_38 : decode method_6_code 38 = .ok (.ldc 44, 2) := by decide +kernel
theorem d44_40 : decode method_6_code 40 = .ok (.iastore, 1) := by decide +kernel
theorem d44_41 : decode method_6_code 41 = .ok (.dup, 1) := by decide +kernel
theorem d44_42 : decode method_6_code 42 = .ok (.bipush 7, 2) := by decide +kernel
theorem d44_44 : decode method_6_code 44 = .ok (.ldc 45, 2) := by decide +kernel
theorem d44_46 : decode method_6_code 46 = .ok (.iastore, 1) := by decide +kernel
theorem d44_47 : decode method_6_code 47 = .ok (.dup, 1) := by decide +kernel
theorem d44_48 : decode method_6_code 48 = .ok (.bipush 8, 2) := by decide +kernel
theorem d44_50 : decode method_6_code 50 = .ok (.ldc 46, 2) := by decide +kernel
theorem d44_52 : decode method_6_code 52 = .ok (.iastore, 1) := by decide +kernel
theorem d44_53 : decode method_6_code 53 = .ok (.dup, 1) := by decide +kernel
theorem d44_54 : decode method_6_code 54 = .ok (.bipush 9, 2) := by decide +kernel
theorem d44_56 : decode method_6_code 56 = .ok (.ldc 47, 2) := by decide +kernel
theorem d44_58 : decode method_6_code 58 = .ok (.iastore, 1) := by decide +kernel
theorem d44_59 : decode method_6_code 59 = .ok (.astore_n 3, 1) := by decide +kernel
theorem d44_60 : decode method_6_code 60 = .ok (.bipush 48, 2) := by decide +kernel
theorem d44_62 : decode method_6_code 62 = .ok (.iload_n 0, 1) := by decide +kernel
theorem d44_63 : decode method_6_code 63 = .ok (.aload_n 3, 1) := by decide +kernel
theorem d44_64 : decode method_6_code 64 = .ok (.iload_n 1, 1) := by decide +kernel
theorem d44_65 : decode method_6_code 65 = .ok (.iconst 1, 1) := by decide +kernel
theorem d44_66 : decode method_6_code 66 = .ok (.isub, 1) := by decide +kernel
theorem d44_67 : decode method_6_code 67 = .ok (.iload_n 2, 1) := by decide +kernel
theorem d44_68 : decode method_6_code 68 = .ok (.isub, 1) := by decide +kernel
theorem d44_69 : decode method_6_code 69 = .ok (.iaload, 1) := by decide +kernel
theorem d44_70 : decode method_6_code 70 = .ok (.idiv, 1) := by decide +kernel
theorem d44_71 : decode method_6_code 71 = .ok (.bipush 10, 2) := by decide +kernel
theorem d44_73 : decode method_6_code 73 = .ok (.irem, 1) := by decide +kernel
theorem d44_74 : decode method_6_code 74 = .ok (.iadd, 1) := by decide +kernel
theorem d44_75 : decode method_6_code 75 = .ok (.i2c, 1) := by decide +kernel
theorem d44_76 : decode method_6_code 76 = .ok (.ireturn, 1) := by decide +kernel
def Q44 (Z : State) (p1 : Int32) (p2 : Int32) (p3 : Int32) (j : Nat) (h0 : Heap) (n0 : Nat) (v : Option Value) (h : Heap) : Prop :=
  (v = some (.int (dj p1.toNatClampNeg j)) ∧ Keep h0 h [])
theorem ef_44 (m : MethodId) (p1 : Int32) (p2 : Int32) (p3 : Int32) : entryFrame m #[(.int p1), (.int p2), (.int p3)] 4 = mkF m 0 #[.val (.int p1), .val (.int p2), .val (.int p3), .unset] [] := by first | (simp [entryFrame, mkF, argsToLocals, Value.category]; done) | rfl
set_option maxRecDepth 65536 in
set_option maxHeartbeats 40000000 in
theorem rm44 (l : Launch) (Z : State) (a0 : Array Value) (hw : ∀ d ∈ tables_1, d.before a0 Z = true) (ws : List Jvm.Cond) (p1 : Int32) (p2 : Int32) (p3 : Int32) (j : Nat) (h0 : Heap) (n0 : Nat) (O0 : Old Z n0 h0) (hj : ((p2 - (1 : Int32)) - p3).toInt = (j : Int)) (hj10 : j < 10) (hpos : (0 : Int32) < p1) :
    Meets l (⟨"com/example/gantry/gantry/descriptor/DescriptorExceptionMessagePinLaw", "digit", "(III)C"⟩ : MethodName) method_6_code 4 (some .char) ws ({ frames := 0, cells := 1, slots := 10, locals := 0 } : Room) ({ frames := 0, cells := 1, slots := 10, locals := 0 } : Room).cells ({ frames := 0, cells := 1, slots := 10, locals := 0 } : Room).slots Z #[(.int p1), (.int p2), (.int p3)] h0 n0 (Q44 Z p1 p2 p3 j h0 n0) := by
  refine Meets.of (F := fun m => mkF m 0 #[.val (.int p1), .val (.int p2), .val (.int p3), .unset] []) (plainFor_of_name pn_6) (fun m => ef_44 m p1 p2 p3) ?_
  intro p e s m below meth c T0 hx hby hml hown0 hnm hret hlk hZ X0 e0
  have hown : s.vm.findClass "com/example/gantry/gantry/descriptor/DescriptorExceptionMessagePinLaw" = some m.cls := hown0
  have N0 := Fr.nil n0
  have KC0 := Keep.refl h0 []
  show Goes _ _ _ _ _ _ (T0.setTop (mkF m 0 #[.val (.int p1), .val (.int p2), .val (.int p3), .unset] []))
  refine own_bipush X0 hx (v := (10 : Int32)) (hb hby d44_0) rfl ?_
  refine own_newP X0 hx hZ (own_w hw 211 rfl) e0 (hb hby d44_2) (by decide) (cap := 10) (by decide) (by decide) (by decide) (by decide) (fun T1 h1 b1 k1 g1 X1 e1 E1 A1 => ?_)
  have ge_b1 : n0 ≤ b1 := Nat.le_trans (own_sz O0) (Nat.le_of_eq g1.symm)
  have sz_b1 : h0.size ≤ b1 := Nat.le_trans KC0.1 (Nat.le_of_eq g1.symm)
  have O2 := O0.ext E1
  have KC2 := KC0.ext E1
  have V1 : Arv Z h1 b1 k1 .int (10 : Int32) [(.int (0 : Int32)), (.int (0 : Int32)), (.int (0 : Int32)), (.int (0 : Int32)), (.int (0 : Int32)), (.int (0 : Int32)), (.int (0 : Int32)), (.int (0 : Int32)), (.int (0 : Int32)), (.int (0 : Int32))] (.int (0 : Int32)) := A1.pad (pad_rep [] (.int (0 : Int32)) 10)
  refine own_dup X1 hx (hb hby d44_4) rfl ?_
  refine own_iconst X1 hx (v := (0 : Int32)) (hb hby d44_5) rfl ?_
  refine own_iconst X1 hx (v := (1 : Int32)) (hb hby d44_6) rfl ?_
  refine own_iastore X1 hx hZ N0 e1 V1 ⟨by decide, by decide⟩ (i := 0) rfl (by first | decide | (simp; done)) ge_b1 (hb hby d44_7) (fun T3 h3 lc3 X3 e3 N3 W3 V3 => ?_)
  have O4 := O2.wr W3 ge_b1
  have KC4 := KC2.wr W3 (Or.inr sz_b1)
  have V3' : Arv Z h3 b1 k1 .int (10 : Int32) [(.int (1 : Int32)), (.int (0 : Int32)), (.int (0 : Int32)), (.int (0 : Int32)), (.int (0 : Int32)), (.int (0 : Int32)), (.int (0 : Int32)), (.int (0 : Int32)), (.int (0 : Int32)), (.int (0 : Int32))] (.int (0 : Int32)) := V3
  refine own_dup X3 hx (hb hby d44_8) rfl ?_
  refine own_iconst X3 hx (v := (1 : Int32)) (hb hby d44_9) rfl ?_
  refine own_bipush X3 hx (v := (10 : Int32)) (hb hby d44_10) rfl ?_
  refine own_iastore X3 hx hZ N3 e3 V3' ⟨by decide, by decide⟩ (i := 1) rfl (by first | decide | (simp; done)) ge_b1 (hb hby d44_12) (fun T5 h5 lc5 X5 e5 N5 W5 V5 => ?_)
  have O6 := O4.wr W5 ge_b1
  have KC6 := KC4.wr W5 (Or.inr sz_b1)
  have V5' : Arv Z h5 b1 k1 .int (10 : Int32) [(.int (1 : Int32)), (.int (10 : Int32)), (.int (0 : Int32)), (.int (0 : Int32)), (.int (0 : Int32)), (.int (0 : Int32)), (.int (0 : Int32)), (.int (0 : Int32)), (.int (0 : Int32)), (.int (0 : Int32))] (.int (0 : Int32)) := V5
  refine own_dup X5 hx (hb hby d44_13) rfl ?_
  refine own_iconst X5 hx (v := (2 : Int32)) (hb hby d44_14) rfl ?_
  refine own_bipush X5 hx (v := (100 : Int32)) (hb hby d44_15) rfl ?_
  refine own_iastore X5 hx hZ N5 e5 V5' ⟨by decide, by decide⟩ (i := 2) rfl (by first | decide | (simp; done)) ge_b1 (hb hby d44_17) (fun T7 h7 lc7 X7 e7 N7 W7 V7 => ?_)
  have O8 := O6.wr W7 ge_b1
  have KC8 := KC6.wr W7 (Or.inr sz_b1)
  have V7' : Arv Z h7 b1 k1 .int (10 : Int32) [(.int (1 : Int32)), (.int (10 : Int32)), (.int (100 : Int32)), (.int (0 : Int32)), (.int (0 : Int32)), (.int (0 : Int32)), (.int (0 : Int32)), (.int (0 : Int32)), (.int (0 : Int32)), (.int (0 : Int32))] (.int (0 : Int32)) := V7
  refine own_dup X7 hx (hb hby d44_18) rfl ?_
  refine own_iconst X7 hx (v := (3 : Int32)) (hb hby d44_19) rfl ?_
  refine own_sipush X7 hx (v := (1000 : Int32)) (hb hby d44_20) rfl ?_
  refine own_iastore X7 hx hZ N7 e7 V7' ⟨by decide, by decide⟩ (i := 3) rfl (by first | decide | (simp; done)) ge_b1 (hb hby d44_23) (fun T9 h9 lc9 X9 e9 N9 W9 V9 => ?_)
  have O10 := O8.wr W9 ge_b1
  have KC10 := KC8.wr W9 (Or.inr sz_b1)
  have V9' : Arv Z h9 b1 k1 .int (10 : Int32) [(.int (1 : Int32)), (.int (10 : Int32)), (.int (100 : Int32)), (.int (1000 : Int32)), (.int (0 : Int32)), (.int (0 : Int32)), (.int (0 : Int32)), (.int (0 : Int32)), (.int (0 : Int32)), (.int (0 : Int32))] (.int (0 : Int32)) := V9
  refine own_dup X9 hx (hb hby d44_24) rfl ?_
  refine own_iconst X9 hx (v := (4 : Int32)) (hb hby d44_25) rfl ?_
  refine own_sipush X9 hx (v := (10000 : Int32)) (hb hby d44_26) rfl ?_
  refine own_iastore X9 hx hZ N9 e9 V9' ⟨by decide, by decide⟩ (i := 4) rfl (by first | decide | (simp; done)) ge_b1 (hb hby d44_29) (fun T11 h11 lc11 X11 e11 N11 W11 V11 => ?_)
  have O12 := O10.wr W11 ge_b1
  have KC12 := KC10.wr W11 (Or.inr sz_b1)
  have V11' : Arv Z h11 b1 k1 .int (10 : Int32) [(.int (1 : Int32)), (.int (10 : Int32)), (.int (100 : Int32)), (.int (1000 : Int32)), (.int (10000 : Int32)), (.int (0 : Int32)), (.int (0 : Int32)), (.int (0 : Int32)), (.int (0 : Int32)), (.int (0 : Int32))] (.int (0 : Int32)) := V11
  refine own_dup X11 hx (hb hby d44_30) rfl ?_
  refine own_iconst X11 hx (v := (5 : Int32)) (hb hby d44_31) rfl ?_
  refine own_ldcInt X11 hx hZ hown (own_w hw 212 rfl) (hb hby d44_32) ?_
  refine own_iastore X11 hx hZ N11 e11 V11' ⟨by decide, by decide⟩ (i := 5) rfl (by first | decide | (simp; done)) ge_b1 (hb hby d44_34) (fun T13 h13 lc13 X13 e13 N13 W13 V13 => ?_)
  have O14 := O12.wr W13 ge_b1
  have KC14 := KC12.wr W13 (Or.inr sz_b1)
  have V13' : Arv Z h13 b1 k1 .int (10 : Int32) [(.int (1 : Int32)), (.int (10 : Int32)), (.int (100 : Int32)), (.int (1000 : Int32)), (.int (10000 : Int32)), (.int (100000 : Int32)), (.int (0 : Int32)), (.int (0 : Int32)), (.int (0 : Int32)), (.int (0 : Int32))] (.int (0 : Int32)) := V13
  refine own_dup X13 hx (hb hby d44_35) rfl ?_
  refine own_bipush X13 hx (v := (6 : Int32)) (hb hby d44_36) rfl ?_
  refine own_ldcInt X13 hx hZ hown (own_w hw 213 rfl) (hb hby d44_38) ?_
  refine own_iastore X13 hx hZ N13 e13 V13' ⟨by decide, by decide⟩ (i := 6) rfl (by first | decide | (simp; done)) ge_b1 (hb hby d44_40) (fun T15 h15 lc15 X15 e15 N15 W15 V15 => ?_)
  have O16 := O14.wr W15 ge_b1
  have KC16 := KC14.wr W15 (Or.inr sz_b1)
  have V15' : Arv Z h15 b1 k1 .int (10 : Int32) [(.int (1 : Int32)), (.int (10 : Int32)), (.int (100 : Int32)), (.int (1000 : Int32)), (.int (10000 : Int32)), (.int (100000 : Int32)), (.int (1000000 : Int32)), (.int (0 : Int32)), (.int (0 : Int32)), (.int (0 : Int32))] (.int (0 : Int32)) := V15
  refine own_dup X15 hx (hb hby d44_41) rfl ?_
  refine own_bipush X15 hx (v := (7 : Int32)) (hb hby d44_42) rfl ?_
  refine own_ldcInt X15 hx hZ hown (own_w hw 214 rfl) (hb hby d44_44) ?_
  refine own_iastore X15 hx hZ N15 e15 V15' ⟨by decide, by decide⟩ (i := 7) rfl (by first | decide | (simp; done)) ge_b1 (hb hby d44_46) (fun T17 h17 lc17 X17 e17 N17 W17 V17 => ?_)
  have O18 := O16.wr W17 ge_b1
  have KC18 := KC16.wr W17 (Or.inr sz_b1)
  have V17' : Arv Z h17 b1 k1 .int (10 : Int32) [(.int (1 : Int32)), (.int (10 : Int32)), (.int (100 : Int32)), (.int (1000 : Int32)), (.int (10000 : Int32)), (.int (100000 : Int32)), (.int (1000000 : Int32)), (.int (10000000 : Int32)), (.int (0 : Int32)), (.int (0 : Int32))] (.int (0 : Int32)) := V17
  refine own_dup X17 hx (hb hby d44_47) rfl ?_
  refine own_bipush X17 hx (v := (8 : Int32)) (hb hby d44_48) rfl ?_
  refine own_ldcInt X17 hx hZ hown (own_w hw 215 rfl) (hb hby d44_50) ?_
  refine own_iastore X17 hx hZ N17 e17 V17' ⟨by decide, by decide⟩ (i := 8) rfl (by first | decide | (simp; done)) ge_b1 (hb hby d44_52) (fun T19 h19 lc19 X19 e19 N19 W19 V19 => ?_)
  have O20 := O18.wr W19 ge_b1
  have KC20 := KC18.wr W19 (Or.inr sz_b1)
  have V19' : Arv Z h19 b1 k1 .int (10 : Int32) [(.int (1 : Int32)), (.int (10 : Int32)), (.int (100 : Int32)), (.int (1000 : Int32)), (.int (10000 : Int32)), (.int (100000 : Int32)), (.int (1000000 : Int32)), (.int (10000000 : Int32)), (.int (100000000 : Int32)), (.int (0 : Int32))] (.int (0 : Int32)) := V19
  refine own_dup X19 hx (hb hby d44_53) rfl ?_
  refine own_bipush X19 hx (v := (9 : Int32)) (hb hby d44_54) rfl ?_
  refine own_ldcInt X19 hx hZ hown (own_w hw 216 rfl) (hb hby d44_56) ?_
  refine own_iastore X19 hx hZ N19 e19 V19' ⟨by decide, by decide⟩ (i := 9) rfl (by first | decide | (simp; done)) ge_b1 (hb hby d44_58) (fun T21 h21 lc21 X21 e21 N21 W21 V21 => ?_)
  have O22 := O20.wr W21 ge_b1
  have KC22 := KC20.wr W21 (Or.inr sz_b1)
  have V21' : Arv Z h21 b1 k1 .int (10 : Int32) [(.int (1 : Int32)), (.int (10 : Int32)), (.int (100 : Int32)), (.int (1000 : Int32)), (.int (10000 : Int32)), (.int (100000 : Int32)), (.int (1000000 : Int32)), (.int (10000000 : Int32)), (.int (100000000 : Int32)), (.int (1000000000 : Int32))] (.int (0 : Int32)) := V21
  refine own_astoreN X21 hx (Ls' := #[.val (.int p1), .val (.int p2), .val (.int p3), .val (.ref b1)]) (hb hby d44_59) rfl rfl ?_
  refine own_bipush X21 hx (v := (48 : Int32)) (hb hby d44_60) rfl ?_
  refine own_iloadN X21 hx (hb hby d44_62) rfl ?_
  refine own_aloadN X21 hx (hb hby d44_63) rfl rfl ?_
  refine own_iloadN X21 hx (hb hby d44_64) rfl ?_
  show Goes _ _ _ _ _ _ (T21.setTop (mkF m 65 #[.val (.int p1), .val (.int p2), .val (.int p3), .val (.ref b1)] [(.int p2), (.ref b1), (.int p1), (.int (48 : Int32))]))
  refine own_iconst X21 hx (v := (1 : Int32)) (hb hby d44_65) rfl ?_
  refine own_isub X21 hx (hb hby d44_66) ?_
  refine own_iloadN X21 hx (hb hby d44_67) rfl ?_
  refine own_isub X21 hx (hb hby d44_68) ?_
  refine own_iaload X21 hx hZ e21 V21' (own_pwx (d := .null) hj10 hj).1 (v := (.int (pw j))) (own_pwx hj10 hj).2 (hb hby d44_69) ?_
  refine own_idiv X21 hx (hb hby d44_70) (own_pwz hj10) ?_
  refine own_bipush X21 hx (v := (10 : Int32)) (hb hby d44_71) rfl ?_
  refine own_irem X21 hx (hb hby d44_73) (by decide) ?_
  refine own_iadd X21 hx (hb hby d44_74) ?_
  refine own_i2c X21 hx (hb hby d44_75) ?_
  show Goes _ _ _ _ _ _ (T21.setTop (mkF m 76 #[.val (.int p1), .val (.int p2), .val (.int p3), .val (.ref b1)] [(.int (((48 : Int32) + ((p1 / (pw j)) % (10 : Int32))).toUInt32.toUInt16.toUInt32.toInt32))]))
  exact own_retN X21 hx (t := .char) N21 hlk (by decide) (by decide) hret (by simp) (hb hby d44_76) (by rw [e21]; exact ⟨(congrArg (fun z => some (Value.int z)) (own_dgL hpos hj10)), KC22⟩)
theorem d43_0 : decode method_8_code 0 = .ok (.iload_n 0, 1) := by decide +kernel
theorem d43_1 : decode method_8_code 1 = .ok (.ifCond .ne 10, 3) := by decide +kernel
theorem d43_4 : decode method_8_code 4 = .ok (.iload_n 1, 1) := by decide +kernel
theorem d43_5 : decode method_8_code 5 = .ok (.sipush 255, 3) := by decide +kernel
theorem d43_8 : decode method_8_code 8 = .ok (.iand, 1) := by decide +kernel
theorem d43_9 : decode method_8_code 9 = .ok (.i2c, 1) := by decide +kernel
theorem d43_10 : decode method_8_code 10 = .ok (.ireturn, 1) := by decide +kernel
theorem d43_11 : decode method_8_code 11 = .ok (.iload_n 0, 1) := by decide +kernel
theorem d43_12 : decode method_8_code 12 = .ok (.iconst 1, 1) := by decide +kernel
theorem d43_13 : decode method_8_code 13 = .ok (.if_icmp .ne 13, 3) := by decide +kernel
theorem d43_16 : decode method_8_code 16 = .ok (.iload_n 1, 1) := by decide +kernel
theorem d43_17 : decode method_8_code 17 = .ok (.bipush 8, 2) := by decide +kernel
theorem d43_19 : decode method_8_code 19 = .ok (.iushr, 1) := by decide +kernel
theorem d43_20 : decode method_8_code 20 = .ok (.sipush 255, 3) := by decide +kernel
theorem d43_23 : decode method_8_code 23 = .ok (.iand, 1) := by decide +kernel
theorem d43_24 : decode method_8_code 24 = .ok (.i2c, 1) := by decide +kernel
theorem d43_25 : decode method_8_code 25 = .ok (.ireturn, 1) := by decide +kernel
theorem d43_26 : decode method_8_code 26 = .ok (.iconst 2, 1) := by decide +kernel
theorem d43_27 : decode method_8_code 27 = .ok (.istore 5, 2) := by decide +kernel
theorem d43_29 : decode method_8_code 29 = .ok (.iload_n 3, 1) := by decide +kernel
theorem d43_30 : decode method_8_code 30 = .ok (.iconst 1, 1) := by decide +kernel
theorem d43_31 : decode method_8_code 31 = .ok (.if_icmp .lt 103, 3) := by decide +kernel
theorem d43_134 : decode method_8_code 134 = .ok (.iload_n 0, 1) := by decide +kernel
theorem d43_135 : decode method_8_code 135 = .ok (.iload 5, 2) := by decide +kernel
theorem d43_137 : decode method_8_code 137 = .ok (.if_icmp .ne 6, 3) := by decide +kernel
theorem d43_140 : decode method_8_code 140 = .ok (.bipush 58, 2) := by decide +kernel
theorem d43_142 : decode method_8_code 142 = .ok (.ireturn, 1) := by decide +kernel
theorem d43_143 : decode method_8_code 143 = .ok (.iload_n 0, 1) := by decide +kernel
theorem d43_144 : decode method_8_code 144 = .ok (.iload 5, 2) := by decide +kernel
theorem d43_146 : decode method_8_code 146 = .ok (.iconst 1, 1) := by decide +kernel
theorem d43_147 : decode method_8_code 147 = .ok (.iadd, 1) := by decide +kernel
theorem d43_148 : decode method_8_code 148 = .ok (.if_icmp .ne 6, 3) := by decide +kernel
theorem d43_151 : decode method_8_code 151 = .ok (.bipush 32, 2) := by decide +kernel
theorem d43_153 : decode method_8_code 153 = .ok (.ireturn, 1) := by decide +kernel
theorem d43_154 : decode method_8_code 154 = .ok (.iload_n 0, 1) := by decide +kernel
theorem d43_155 : decode method_8_code 155 = .ok (.iload 5, 2) := by decide +kernel
theorem d43_157 : decode method_8_code 157 = .ok (.iconst 2, 1) := by decide +kernel
theorem d43_158 : decode method_8_code 158 = .ok (.iadd, 1) := by decide +kernel
theorem d43_159 : decode method_8_code 159 = .ok (.if_icmp .ne 10, 3) := by decide +kernel
theorem d43_162 : decode method_8_code 162 = .ok (.iload_n 2, 1) := by decide +kernel
theorem d43_163 : decode method_8_code 163 = .ok (.sipush 255, 3) := by decide +kernel
theorem d43_166 : decode method_8_code 166 = .ok (.iand, 1) := by decide +kernel
theorem d43_167 : decode method_8_code 167 = .ok (.i2c, 1) := by decide +kernel
theorem d43_168 : decode method_8_code 168 = .ok (.ireturn, 1) := by decide +kernel
theorem d43_169 : decode method_8_code 169 = .ok (.iload_n 2, 1) := by decide +kernel
theorem d43_170 : decode method_8_code 170 = .ok (.bipush 8, 2) := by decide +kernel
theorem d43_172 : decode method_8_code 172 = .ok (.iushr, 1) := by decide +kernel
theorem d43_173 : decode method_8_code 173 = .ok (.sipush 255, 3) := by decide +kernel
theorem d43_176 : decode method_8_code 176 = .ok (.iand, 1) := by decide +kernel
theorem d43_177 : decode method_8_code 177 = .ok (.i2c, 1) := by decide +kernel
theorem d43_178 : decode method_8_code 178 = .ok (.ireturn, 1) := by decide +kernel
theorem d43_34 : decode method_8_code 34 = .ok (.iload_n 3, 1) := by decide +kernel
theorem d43_35 : decode method_8_code 35 = .ok (.invokestatic 48, 3) := by decide +kernel
theorem d43_38 : decode method_8_code 38 = .ok (.istore 6, 2) := by decide +kernel
theorem d43_40 : decode method_8_code 40 = .ok (.iload_n 0, 1) := by decide +kernel
theorem d43_41 : decode method_8_code 41 = .ok (.iload 5, 2) := by decide +kernel
theorem d43_43 : decode method_8_code 43 = .ok (.if_icmp .ne 6, 3) := by decide +kernel
theorem d43_46 : decode method_8_code 46 = .ok (.bipush 58, 2) := by decide +kernel
theorem d43_48 : decode method_8_code 48 = .ok (.ireturn, 1) := by decide +kernel
theorem d43_49 : decode method_8_code 49 = .ok (.iload_n 0, 1) := by decide +kernel
theorem d43_50 : decode method_8_code 50 = .ok (.iload 5, 2) := by decide +kernel
theorem d43_52 : decode method_8_code 52 = .ok (.iload 6, 2) := by decide +kernel
theorem d43_54 : decode method_8_code 54 = .ok (.iadd, 1) := by decide +kernel
theorem d43_55 : decode method_8_code 55 = .ok (.if_icmp .gt 16, 3) := by decide +kernel
theorem d43_71 : decode method_8_code 71 = .ok (.iload 5, 2) := by decide +kernel
theorem d43_73 : decode method_8_code 73 = .ok (.iconst 1, 1) := by decide +kernel
theorem d43_74 : decode method_8_code 74 = .ok (.iadd, 1) := by decide +kernel
theorem d43_75 : decode method_8_code 75 = .ok (.iload 6, 2) := by decide +kernel
theorem d43_77 : decode method_8_code 77 = .ok (.iadd, 1) := by decide +kernel
theorem d43_78 : decode method_8_code 78 = .ok (.istore 5, 2) := by decide +kernel
theorem d43_80 : decode method_8_code 80 = .ok (.iload 4, 2) := by decide +kernel
theorem d43_82 : decode method_8_code 82 = .ok (.iconst 1, 1) := by decide +kernel
theorem d43_83 : decode method_8_code 83 = .ok (.if_icmp .lt 51, 3) := by decide +kernel
theorem d43_86 : decode method_8_code 86 = .ok (.iload 4, 2) := by decide +kernel
theorem d43_88 : decode method_8_code 88 = .ok (.invokestatic 48, 3) := by decide +kernel
theorem d43_91 : decode method_8_code 91 = .ok (.istore 7, 2) := by decide +kernel
theorem d43_93 : decode method_8_code 93 = .ok (.iload_n 0, 1) := by decide +kernel
theorem d43_94 : decode method_8_code 94 = .ok (.iload 5, 2) := by decide +kernel
theorem d43_96 : decode method_8_code 96 = .ok (.if_icmp .ne 6, 3) := by decide +kernel
theorem d43_99 : decode method_8_code 99 = .ok (.bipush 58, 2) := by decide +kernel
theorem d43_101 : decode method_8_code 101 = .ok (.ireturn, 1) := by decide +kernel
theorem d43_102 : decode method_8_code 102 = .ok (.iload_n 0, 1) := by decide +kernel
theorem d43_103 : decode method_8_code 103 = .ok (.iload 5, 2) := by decide +kernel
theorem d43_105 : decode method_8_code 105 = .ok (.iload 7, 2) := by decide +kernel
theorem d43_107 : decode method_8_code 107 = .ok (.iadd, 1) := by decide +kernel
theorem d43_108 : decode method_8_code 108 = .ok (.if_icmp .gt 17, 3) := by decide +kernel
theorem d43_125 : decode method_8_code 125 = .ok (.iload 5, 2) := by decide +kernel
theorem d43_127 : decode method_8_code 127 = .ok (.iconst 1, 1) := by decide +kernel
theorem d43_128 : decode method_8_code 128 = .ok (.iadd, 1) := by decide +kernel
theorem d43_129 : decode method_8_code 129 = .ok (.iload 7, 2) := by decide +kernel
theorem d43_131 : decode method_8_code 131 = .ok (.iadd, 1) := by decide +kernel
theorem d43_132 : decode method_8_code 132 = .ok (.istore 5, 2) := by decide +kernel
theorem d43_111 : decode method_8_code 111 = .ok (.iload 4, 2) := by decide +kernel
theorem d43_113 : decode method_8_code 113 = .ok (.iload 7, 2) := by decide +kernel
theorem d43_115 : decode method_8_code 115 = .ok (.iload_n 0, 1) := by decide +kernel
theorem d43_116 : decode method_8_code 116 = .ok (.iload 5, 2) := by decide +kernel
theorem d43_118 : decode method_8_code 118 = .ok (.isub, 1) := by decide +kernel
theorem d43_119 : decode method_8_code 119 = .ok (.iconst 1, 1) := by decide +kernel
theorem d43_120 : decode method_8_code 120 = .ok (.isub, 1) := by decide +kernel
theorem d43_121 : decode method_8_code 121 = .ok (.invokestatic 52, 3) := by decide +kernel
theorem pd_26 : parseMethodDescriptor "(III)C" = some ⟨[.int, .int, .int], some .char⟩ := by decide +kernel
theorem d43_124 : decode method_8_code 124 = .ok (.ireturn, 1) := by decide +kernel
theorem d43_58 : decode method_8_code 58 = .ok (.iload_n 3, 1) := by decide +kernel
theorem d43_59 : decode method_8_code 59 = .ok (.iload 6, 2) := by decide +kernel
theorem d43_61 : decode method_8_code 61 = .ok (.iload_n 0, 1) := by decide +kernel
theorem d43_62 : decode method_8_code 62 = .ok (.iload 5, 2) := by decide +kernel
theorem d43_64 : decode method_8_code 64 = .ok (.isub, 1) := by decide +kernel
theorem d43_65 : decode method_8_code 65 = .ok (.iconst 1, 1) := by decide +kernel
theorem d43_66 : decode method_8_code 66 = .ok (.isub, 1) := by decide +kernel
theorem d43_67 : decode method_8_code 67 = .ok (.invokestatic 52, 3) := by decide +kernel
theorem d43_70 : decode method_8_code 70 = .ok (.ireturn, 1) := by decide +kernel
def Q43 (Z : State) (p1 : Int32) (p2 : Int32) (p3 : Int32) (p4 : Int32) (p5 : Int32) (h0 : Heap) (n0 : Nat) (v : Option Value) (h : Heap) : Prop :=
  (v = some (.int ((msg p2 p3 p4 p5).getD p1.toNatClampNeg (0 : Int32))) ∧ Keep h0 h [])
theorem ef_43 (m : MethodId) (p1 : Int32) (p2 : Int32) (p3 : Int32) (p4 : Int32) (p5 : Int32) : entryFrame m #[(.int p1), (.int p2), (.int p3), (.int p4), (.int p5)] 8 = mkF m 0 #[.val (.int p1), .val (.int p2), .val (.int p3), .val (.int p4), .val (.int p5), .unset, .unset, .unset] [] := by first | (simp [entryFrame, mkF, argsToLocals, Value.category]; done) | rfl
set_option maxRecDepth 65536 in
set_option maxHeartbeats 40000000 in
theorem rm43 (l : Launch) (Z : State) (a0 : Array Value) (hw : ∀ d ∈ tables_1, d.before a0 Z = true) (ws : List Jvm.Cond) (p1 : Int32) (p2 : Int32) (p3 : Int32) (p4 : Int32) (p5 : Int32) (h0 : Heap) (n0 : Nat) (O0 : Old Z n0 h0) (hlo : ¬ (p1 < (0 : Int32))) (hhi : p1 < (Int32.ofNat (msg p2 p3 p4 p5).length)) :
    Meets l (⟨"com/example/gantry/gantry/descriptor/DescriptorExceptionMessagePinLaw", "expected", "(IIIII)C"⟩ : MethodName) method_8_code 8 (some .char) ws ({ frames := 1, cells := 1, slots := 10, locals := 15 } : Room) ({ frames := 1, cells := 1, slots := 10, locals := 15 } : Room).cells ({ frames := 1, cells := 1, slots := 10, locals := 15 } : Room).slots Z #[(.int p1), (.int p2), (.int p3), (.int p4), (.int p5)] h0 n0 (Q43 Z p1 p2 p3 p4 p5 h0 n0) := by
  refine Meets.of (F := fun m => mkF m 0 #[.val (.int p1), .val (.int p2), .val (.int p3), .val (.int p4), .val (.int p5), .unset, .unset, .unset] []) (plainFor_of_name pn_6) (fun m => ef_43 m p1 p2 p3 p4 p5) ?_
  intro p e s m below meth c T0 hx hby hml hown0 hnm hret hlk hZ X0 e0
  have hown : s.vm.findClass "com/example/gantry/gantry/descriptor/DescriptorExceptionMessagePinLaw" = some m.cls := hown0
  have N0 := Fr.nil n0
  have KC0 := Keep.refl h0 []
  show Goes _ _ _ _ _ _ (T0.setTop (mkF m 0 #[.val (.int p1), .val (.int p2), .val (.int p3), .val (.int p4), .val (.int p5), .unset, .unset, .unset] []))
  refine own_iloadN X0 hx (hb hby d43_0) rfl ?_
  by_cases hc1_1 : p1 = (0 : Int32)
  ·
    refine own_ifNo X0 hx (hb hby d43_1) ((if0 _ _).trans (teq (hc1_1 : p1 = (0 : Int32))).2) ?_
    refine own_iloadN X0 hx (hb hby d43_4) rfl ?_
    refine own_sipush X0 hx (v := (255 : Int32)) (hb hby d43_5) rfl ?_
    refine own_iand X0 hx (hb hby d43_8) ?_
    refine own_i2c X0 hx (hb hby d43_9) ?_
    show Goes _ _ _ _ _ _ (T0.setTop (mkF m 10 #[.val (.int p1), .val (.int p2), .val (.int p3), .val (.int p4), .val (.int p5), .unset, .unset, .unset] [(.int ((p2 &&& (255 : Int32)).toUInt32.toUInt16.toUInt32.toInt32))]))
    exact own_retN X0 hx (t := .char) N0 hlk (by decide) (by decide) hret (by simp) (hb hby d43_10) (by rw [e0]; exact ⟨(congrArg (fun z => some (Value.int z)) (ex_0 hc1_1)), KC0⟩)
  ·
    refine own_ifYes X0 hx (pc' := 11) (hb hby d43_1) ((if0 _ _).trans (feq (hc1_1 : ¬ (p1 = (0 : Int32)))).2) (by decide) (by decide) ?_
    refine own_iloadN X0 hx (hb hby d43_11) rfl ?_
    refine own_iconst X0 hx (v := (1 : Int32)) (hb hby d43_12) rfl ?_
    by_cases hc13_2 : p1 = (1 : Int32)
    ·
      refine own_icmpNo X0 hx (hb hby d43_13) (teq (hc13_2 : p1 = (1 : Int32))).2 ?_
      refine own_iloadN X0 hx (hb hby d43_16) rfl ?_
      refine own_bipush X0 hx (v := (8 : Int32)) (hb hby d43_17) rfl ?_
      refine own_iushr X0 hx (hb hby d43_19) ?_
      refine own_sipush X0 hx (v := (255 : Int32)) (hb hby d43_20) rfl ?_
      refine own_iand X0 hx (hb hby d43_23) ?_
      show Goes _ _ _ _ _ _ (T0.setTop (mkF m 24 #[.val (.int p1), .val (.int p2), .val (.int p3), .val (.int p4), .val (.int p5), .unset, .unset, .unset] [(.int (((p2.toUInt32 >>> ((8 : Int32) &&& 31).toUInt32).toInt32) &&& (255 : Int32)))]))
      refine own_i2c X0 hx (hb hby d43_24) ?_
      show Goes _ _ _ _ _ _ (T0.setTop (mkF m 25 #[.val (.int p1), .val (.int p2), .val (.int p3), .val (.int p4), .val (.int p5), .unset, .unset, .unset] [(.int ((((p2.toUInt32 >>> ((8 : Int32) &&& 31).toUInt32).toInt32) &&& (255 : Int32)).toUInt32.toUInt16.toUInt32.toInt32))]))
      exact own_retN X0 hx (t := .char) N0 hlk (by decide) (by decide) hret (by simp) (hb hby d43_25) (by rw [e0]; exact ⟨(congrArg (fun z => some (Value.int z)) (ex_1 hc13_2)), KC0⟩)
    ·
      refine own_icmpYes X0 hx (pc' := 26) (hb hby d43_13) (feq (hc13_2 : ¬ (p1 = (1 : Int32)))).2 (by decide) (by decide) ?_
      refine own_iconst X0 hx (v := (2 : Int32)) (hb hby d43_26) rfl ?_
      refine own_istore X0 hx (Ls' := #[.val (.int p1), .val (.int p2), .val (.int p3), .val (.int p4), .val (.int p5), .val (.int (2 : Int32)), .unset, .unset]) (hb hby d43_27) rfl ?_
      refine own_iloadN X0 hx (hb hby d43_29) rfl ?_
      refine own_iconst X0 hx (v := (1 : Int32)) (hb hby d43_30) rfl ?_
      by_cases hc31_3 : p4 < (1 : Int32)
      ·
        refine own_icmpYes X0 hx (pc' := 134) (hb hby d43_31) (tlt (hc31_3 : p4 < (1 : Int32))).1 (by decide) (by decide) ?_
        refine own_iloadN X0 hx (hb hby d43_134) rfl ?_
        refine own_iload X0 hx (hb hby d43_135) rfl ?_
        by_cases hc137_4 : p1 = (2 : Int32)
        ·
          refine own_icmpNo X0 hx (hb hby d43_137) (teq (hc137_4 : p1 = (2 : Int32))).2 ?_
          refine own_bipush X0 hx (v := (58 : Int32)) (hb hby d43_140) rfl ?_
          show Goes _ _ _ _ _ _ (T0.setTop (mkF m 142 #[.val (.int p1), .val (.int p2), .val (.int p3), .val (.int p4), .val (.int p5), .val (.int (2 : Int32)), .unset, .unset] [(.int (58 : Int32))]))
          exact own_retN X0 hx (t := .char) N0 hlk (by decide) (by decide) hret (by simp) (hb hby d43_142) (by rw [e0]; exact ⟨(congrArg (fun z => some (Value.int z)) (ex_t0 hlo (hP0 (c := p5) hc31_3) hc137_4)), KC0⟩)
        ·
          refine own_icmpYes X0 hx (pc' := 143) (hb hby d43_137) (feq (hc137_4 : ¬ (p1 = (2 : Int32)))).2 (by decide) (by decide) ?_
          refine own_iloadN X0 hx (hb hby d43_143) rfl ?_
          refine own_iload X0 hx (hb hby d43_144) rfl ?_
          refine own_iconst X0 hx (v := (1 : Int32)) (hb hby d43_146) rfl ?_
          refine own_iadd X0 hx (hb hby d43_147) ?_
          show Goes _ _ _ _ _ _ (T0.setTop (mkF m 148 #[.val (.int p1), .val (.int p2), .val (.int p3), .val (.int p4), .val (.int p5), .val (.int (2 : Int32)), .unset, .unset] [(.int ((2 : Int32) + (1 : Int32))), (.int p1)]))
          rw [show ((2 : Int32) + (1 : Int32)) = (3 : Int32) by decide]
          by_cases hc148_5 : p1 = (3 : Int32)
          ·
            refine own_icmpNo X0 hx (hb hby d43_148) (teq (hc148_5 : p1 = (3 : Int32))).2 ?_
            refine own_bipush X0 hx (v := (32 : Int32)) (hb hby d43_151) rfl ?_
            show Goes _ _ _ _ _ _ (T0.setTop (mkF m 153 #[.val (.int p1), .val (.int p2), .val (.int p3), .val (.int p4), .val (.int p5), .val (.int (2 : Int32)), .unset, .unset] [(.int (32 : Int32))]))
            exact own_retN X0 hx (t := .char) N0 hlk (by decide) (by decide) hret (by simp) (hb hby d43_153) (by rw [e0]; exact ⟨(congrArg (fun z => some (Value.int z)) (ex_t1 hlo (hQ0 (c := p5) hc31_3) hc148_5)), KC0⟩)
          ·
            refine own_icmpYes X0 hx (pc' := 154) (hb hby d43_148) (feq (hc148_5 : ¬ (p1 = (3 : Int32)))).2 (by decide) (by decide) ?_
            refine own_iloadN X0 hx (hb hby d43_154) rfl ?_
            refine own_iload X0 hx (hb hby d43_155) rfl ?_
            refine own_iconst X0 hx (v := (2 : Int32)) (hb hby d43_157) rfl ?_
            refine own_iadd X0 hx (hb hby d43_158) ?_
            show Goes _ _ _ _ _ _ (T0.setTop (mkF m 159 #[.val (.int p1), .val (.int p2), .val (.int p3), .val (.int p4), .val (.int p5), .val (.int (2 : Int32)), .unset, .unset] [(.int ((2 : Int32) + (2 : Int32))), (.int p1)]))
            rw [show ((2 : Int32) + (2 : Int32)) = (4 : Int32) by decide]
            by_cases hc159_6 : p1 = (4 : Int32)
            ·
              refine own_icmpNo X0 hx (hb hby d43_159) (teq (hc159_6 : p1 = (4 : Int32))).2 ?_
              refine own_iloadN X0 hx (hb hby d43_162) rfl ?_
              refine own_sipush X0 hx (v := (255 : Int32)) (hb hby d43_163) rfl ?_
              refine own_iand X0 hx (hb hby d43_166) ?_
              refine own_i2c X0 hx (hb hby d43_167) ?_
              show Goes _ _ _ _ _ _ (T0.setTop (mkF m 168 #[.val (.int p1), .val (.int p2), .val (.int p3), .val (.int p4), .val (.int p5), .val (.int (2 : Int32)), .unset, .unset] [(.int ((p3 &&& (255 : Int32)).toUInt32.toUInt16.toUInt32.toInt32))]))
              exact own_retN X0 hx (t := .char) N0 hlk (by decide) (by decide) hret (by simp) (hb hby d43_168) (by rw [e0]; exact ⟨(congrArg (fun z => some (Value.int z)) (ex_t2 hlo (hR0 (c := p5) hc31_3) hc159_6)), KC0⟩)
            ·
              refine own_icmpYes X0 hx (pc' := 169) (hb hby d43_159) (feq (hc159_6 : ¬ (p1 = (4 : Int32)))).2 (by decide) (by decide) ?_
              refine own_iloadN X0 hx (hb hby d43_169) rfl ?_
              refine own_bipush X0 hx (v := (8 : Int32)) (hb hby d43_170) rfl ?_
              refine own_iushr X0 hx (hb hby d43_172) ?_
              refine own_sipush X0 hx (v := (255 : Int32)) (hb hby d43_173) rfl ?_
              refine own_iand X0 hx (hb hby d43_176) ?_
              show Goes _ _ _ _ _ _ (T0.setTop (mkF m 177 #[.val (.int p1), .val (.int p2), .val (.int p3), .val (.int p4), .val (.int p5), .val (.int (2 : Int32)), .unset, .unset] [(.int (((p3.toUInt32 >>> ((8 : Int32) &&& 31).toUInt32).toInt32) &&& (255 : Int32)))]))
              refine own_i2c X0 hx (hb hby d43_177) ?_
              show Goes _ _ _ _ _ _ (T0.setTop (mkF m 178 #[.val (.int p1), .val (.int p2), .val (.int p3), .val (.int p4), .val (.int p5), .val (.int (2 : Int32)), .unset, .unset] [(.int ((((p3.toUInt32 >>> ((8 : Int32) &&& 31).toUInt32).toInt32) &&& (255 : Int32)).toUInt32.toUInt16.toUInt32.toInt32))]))
              exact own_retN X0 hx (t := .char) N0 hlk (by decide) (by decide) hret (by simp) (hb hby d43_178) (by rw [e0]; exact ⟨(congrArg (fun z => some (Value.int z)) (ex_t3 hlo hhi (hP0 (c := p5) hc31_3) (hQ0 (c := p5) hc31_3) (hR0 (c := p5) hc31_3) (hg0 hlo hc31_3 hc1_1 hc13_2) hc137_4 hc148_5 hc159_6)), KC0⟩)
      ·
        refine own_icmpNo X0 hx (hb hby d43_31) (flt (hc31_3 : ¬ (p4 < (1 : Int32)))).1 ?_
        refine own_iloadN X0 hx (hb hby d43_34) rfl ?_
        refine own_callS X0 hx hZ hown (y := (⟨"com/example/gantry/gantry/descriptor/DescriptorExceptionMessagePinLaw", "numLen", "(I)I"⟩ : MethodName)) (own_w hw 174 rfl) (own_w hw 175 rfl) (own_w hw 172 rfl) (own_w hw 176 rfl) (by decide) (W := 0) (by decide) (by decide) N0 e0 (by rw [hml]; rfl) (argsL := [(.int p4)]) (rest := []) (lenOf pd_4 rfl) (Nat.le_of_eq rfl) (by decide) (by decide) (rm35 l Z a0 hw [] p4 h0 n0 O0 (own_posi hc31_3)) rfl (hb hby d43_35) ?_
        intro v7 T7 lc7 X7 N7 hQ7
        obtain ⟨rfl, e7⟩ := hQ7
        refine own_istore X7 hx (Ls' := #[.val (.int p1), .val (.int p2), .val (.int p3), .val (.int p4), .val (.int p5), .val (.int (2 : Int32)), .val (.int (Int32.ofNat (nd p4.toNatClampNeg))), .unset]) (hb hby d43_38) rfl ?_
        refine own_iloadN X7 hx (hb hby d43_40) rfl ?_
        refine own_iload X7 hx (hb hby d43_41) rfl ?_
        by_cases hc43_8 : p1 = (2 : Int32)
        ·
          refine own_icmpNo X7 hx (hb hby d43_43) (teq (hc43_8 : p1 = (2 : Int32))).2 ?_
          refine own_bipush X7 hx (v := (58 : Int32)) (hb hby d43_46) rfl ?_
          show Goes _ _ _ _ _ _ (T7.setTop (mkF m 48 #[.val (.int p1), .val (.int p2), .val (.int p3), .val (.int p4), .val (.int p5), .val (.int (2 : Int32)), .val (.int (Int32.ofNat (nd p4.toNatClampNeg))), .unset] [(.int (58 : Int32))]))
          exact own_retN X7 hx (t := .char) N7 hlk (by decide) (by decide) hret (by simp) (hb hby d43_48) (by rw [e7]; exact ⟨(congrArg (fun z => some (Value.int z)) (ex_3 hc31_3 hc43_8)), KC0⟩)
        ·
          refine own_icmpYes X7 hx (pc' := 49) (hb hby d43_43) (feq (hc43_8 : ¬ (p1 = (2 : Int32)))).2 (by decide) (by decide) ?_
          refine own_iloadN X7 hx (hb hby d43_49) rfl ?_
          refine own_iload X7 hx (hb hby d43_50) rfl ?_
          refine own_iload X7 hx (hb hby d43_52) rfl ?_
          refine own_iadd X7 hx (hb hby d43_54) ?_
          by_cases hc55_9 : ((2 : Int32) + (Int32.ofNat (nd p4.toNatClampNeg))) < p1
          ·
            refine own_icmpYes X7 hx (pc' := 71) (hb hby d43_55) (tlt (hc55_9 : ((2 : Int32) + (Int32.ofNat (nd p4.toNatClampNeg))) < p1)).2.2.1 (by decide) (by decide) ?_
            refine own_iload X7 hx (hb hby d43_71) rfl ?_
            refine own_iconst X7 hx (v := (1 : Int32)) (hb hby d43_73) rfl ?_
            refine own_iadd X7 hx (hb hby d43_74) ?_
            show Goes _ _ _ _ _ _ (T7.setTop (mkF m 75 #[.val (.int p1), .val (.int p2), .val (.int p3), .val (.int p4), .val (.int p5), .val (.int (2 : Int32)), .val (.int (Int32.ofNat (nd p4.toNatClampNeg))), .unset] [(.int ((2 : Int32) + (1 : Int32)))]))
            rw [show ((2 : Int32) + (1 : Int32)) = (3 : Int32) by decide]
            refine own_iload X7 hx (hb hby d43_75) rfl ?_
            refine own_iadd X7 hx (hb hby d43_77) ?_
            refine own_istore X7 hx (Ls' := #[.val (.int p1), .val (.int p2), .val (.int p3), .val (.int p4), .val (.int p5), .val (.int ((3 : Int32) + (Int32.ofNat (nd p4.toNatClampNeg)))), .val (.int (Int32.ofNat (nd p4.toNatClampNeg))), .unset]) (hb hby d43_78) rfl ?_
            refine own_iload X7 hx (hb hby d43_80) rfl ?_
            refine own_iconst X7 hx (v := (1 : Int32)) (hb hby d43_82) rfl ?_
            by_cases hc83_10 : p5 < (1 : Int32)
            ·
              refine own_icmpYes X7 hx (pc' := 134) (hb hby d43_83) (tlt (hc83_10 : p5 < (1 : Int32))).1 (by decide) (by decide) ?_
              refine own_iloadN X7 hx (hb hby d43_134) rfl ?_
              refine own_iload X7 hx (hb hby d43_135) rfl ?_
              by_cases hc137_11 : p1 = ((3 : Int32) + (Int32.ofNat (nd p4.toNatClampNeg)))
              ·
                refine own_icmpNo X7 hx (hb hby d43_137) (teq (hc137_11 : p1 = ((3 : Int32) + (Int32.ofNat (nd p4.toNatClampNeg))))).2 ?_
                refine own_bipush X7 hx (v := (58 : Int32)) (hb hby d43_140) rfl ?_
                show Goes _ _ _ _ _ _ (T7.setTop (mkF m 142 #[.val (.int p1), .val (.int p2), .val (.int p3), .val (.int p4), .val (.int p5), .val (.int ((3 : Int32) + (Int32.ofNat (nd p4.toNatClampNeg)))), .val (.int (Int32.ofNat (nd p4.toNatClampNeg))), .unset] [(.int (58 : Int32))]))
                exact own_retN X7 hx (t := .char) N7 hlk (by decide) (by decide) hret (by simp) (hb hby d43_142) (by rw [e7]; exact ⟨(congrArg (fun z => some (Value.int z)) (ex_t0 hlo (hP1 hc31_3 hc83_10) hc137_11)), KC0⟩)
              ·
                refine own_icmpYes X7 hx (pc' := 143) (hb hby d43_137) (feq (hc137_11 : ¬ (p1 = ((3 : Int32) + (Int32.ofNat (nd p4.toNatClampNeg)))))).2 (by decide) (by decide) ?_
                refine own_iloadN X7 hx (hb hby d43_143) rfl ?_
                refine own_iload X7 hx (hb hby d43_144) rfl ?_
                refine own_iconst X7 hx (v := (1 : Int32)) (hb hby d43_146) rfl ?_
                refine own_iadd X7 hx (hb hby d43_147) ?_
                by_cases hc148_12 : p1 = (((3 : Int32) + (Int32.ofNat (nd p4.toNatClampNeg))) + (1 : Int32))
                ·
                  refine own_icmpNo X7 hx (hb hby d43_148) (teq (hc148_12 : p1 = (((3 : Int32) + (Int32.ofNat (nd p4.toNatClampNeg))) + (1 : Int32)))).2 ?_
                  refine own_bipush X7 hx (v := (32 : Int32)) (hb hby d43_151) rfl ?_
                  show Goes _ _ _ _ _ _ (T7.setTop (mkF m 153 #[.val (.int p1), .val (.int p2), .val (.int p3), .val (.int p4), .val (.int p5), .val (.int ((3 : Int32) + (Int32.ofNat (nd p4.toNatClampNeg)))), .val (.int (Int32.ofNat (nd p4.toNatClampNeg))), .unset] [(.int (32 : Int32))]))
                  exact own_retN X7 hx (t := .char) N7 hlk (by decide) (by decide) hret (by simp) (hb hby d43_153) (by rw [e7]; exact ⟨(congrArg (fun z => some (Value.int z)) (ex_t1 hlo (own_q1 (hP1 hc31_3 hc83_10)) hc148_12)), KC0⟩)
                ·
                  refine own_icmpYes X7 hx (pc' := 154) (hb hby d43_148) (feq (hc148_12 : ¬ (p1 = (((3 : Int32) + (Int32.ofNat (nd p4.toNatClampNeg))) + (1 : Int32))))).2 (by decide) (by decide) ?_
                  refine own_iloadN X7 hx (hb hby d43_154) rfl ?_
                  refine own_iload X7 hx (hb hby d43_155) rfl ?_
                  refine own_iconst X7 hx (v := (2 : Int32)) (hb hby d43_157) rfl ?_
                  refine own_iadd X7 hx (hb hby d43_158) ?_
                  by_cases hc159_13 : p1 = (((3 : Int32) + (Int32.ofNat (nd p4.toNatClampNeg))) + (2 : Int32))
                  ·
                    refine own_icmpNo X7 hx (hb hby d43_159) (teq (hc159_13 : p1 = (((3 : Int32) + (Int32.ofNat (nd p4.toNatClampNeg))) + (2 : Int32)))).2 ?_
                    refine own_iloadN X7 hx (hb hby d43_162) rfl ?_
                    refine own_sipush X7 hx (v := (255 : Int32)) (hb hby d43_163) rfl ?_
                    refine own_iand X7 hx (hb hby d43_166) ?_
                    refine own_i2c X7 hx (hb hby d43_167) ?_
                    show Goes _ _ _ _ _ _ (T7.setTop (mkF m 168 #[.val (.int p1), .val (.int p2), .val (.int p3), .val (.int p4), .val (.int p5), .val (.int ((3 : Int32) + (Int32.ofNat (nd p4.toNatClampNeg)))), .val (.int (Int32.ofNat (nd p4.toNatClampNeg))), .unset] [(.int ((p3 &&& (255 : Int32)).toUInt32.toUInt16.toUInt32.toInt32))]))
                    exact own_retN X7 hx (t := .char) N7 hlk (by decide) (by decide) hret (by simp) (hb hby d43_168) (by rw [e7]; exact ⟨(congrArg (fun z => some (Value.int z)) (ex_t2 hlo (own_q2 (hP1 hc31_3 hc83_10)) hc159_13)), KC0⟩)
                  ·
                    refine own_icmpYes X7 hx (pc' := 169) (hb hby d43_159) (feq (hc159_13 : ¬ (p1 = (((3 : Int32) + (Int32.ofNat (nd p4.toNatClampNeg))) + (2 : Int32))))).2 (by decide) (by decide) ?_
                    refine own_iloadN X7 hx (hb hby d43_169) rfl ?_
                    refine own_bipush X7 hx (v := (8 : Int32)) (hb hby d43_170) rfl ?_
                    refine own_iushr X7 hx (hb hby d43_172) ?_
                    refine own_sipush X7 hx (v := (255 : Int32)) (hb hby d43_173) rfl ?_
                    refine own_iand X7 hx (hb hby d43_176) ?_
                    show Goes _ _ _ _ _ _ (T7.setTop (mkF m 177 #[.val (.int p1), .val (.int p2), .val (.int p3), .val (.int p4), .val (.int p5), .val (.int ((3 : Int32) + (Int32.ofNat (nd p4.toNatClampNeg)))), .val (.int (Int32.ofNat (nd p4.toNatClampNeg))), .unset] [(.int (((p3.toUInt32 >>> ((8 : Int32) &&& 31).toUInt32).toInt32) &&& (255 : Int32)))]))
                    refine own_i2c X7 hx (hb hby d43_177) ?_
                    show Goes _ _ _ _ _ _ (T7.setTop (mkF m 178 #[.val (.int p1), .val (.int p2), .val (.int p3), .val (.int p4), .val (.int p5), .val (.int ((3 : Int32) + (Int32.ofNat (nd p4.toNatClampNeg)))), .val (.int (Int32.ofNat (nd p4.toNatClampNeg))), .unset] [(.int ((((p3.toUInt32 >>> ((8 : Int32) &&& 31).toUInt32).toInt32) &&& (255 : Int32)).toUInt32.toUInt16.toUInt32.toInt32))]))
                    exact own_retN X7 hx (t := .char) N7 hlk (by decide) (by decide) hret (by simp) (hb hby d43_178) (by rw [e7]; exact ⟨(congrArg (fun z => some (Value.int z)) (ex_t3 hlo hhi (hP1 hc31_3 hc83_10) (own_q1 (hP1 hc31_3 hc83_10)) (own_q2 (hP1 hc31_3 hc83_10)) (hg1 hlo hc31_3 hc83_10 hc55_9) hc137_11 hc148_12 hc159_13)), KC0⟩)
            ·
              refine own_icmpNo X7 hx (hb hby d43_83) (flt (hc83_10 : ¬ (p5 < (1 : Int32)))).1 ?_
              refine own_iload X7 hx (hb hby d43_86) rfl ?_
              refine own_callS X7 hx hZ hown (y := (⟨"com/example/gantry/gantry/descriptor/DescriptorExceptionMessagePinLaw", "numLen", "(I)I"⟩ : MethodName)) (own_w hw 174 rfl) (own_w hw 175 rfl) (own_w hw 172 rfl) (own_w hw 176 rfl) (by decide) (W := 0) (by decide) (by decide) N7 e7 (by rw [hml]; rfl) (argsL := [(.int p5)]) (rest := []) (lenOf pd_4 rfl) (Nat.le_of_eq rfl) (by decide) (by decide) (rm35 l Z a0 hw [] p5 h0 n0 O0 (own_posi hc83_10)) rfl (hb hby d43_88) ?_
              intro v14 T14 lc14 X14 N14 hQ14
              obtain ⟨rfl, e14⟩ := hQ14
              refine own_istore X14 hx (Ls' := #[.val (.int p1), .val (.int p2), .val (.int p3), .val (.int p4), .val (.int p5), .val (.int ((3 : Int32) + (Int32.ofNat (nd p4.toNatClampNeg)))), .val (.int (Int32.ofNat (nd p4.toNatClampNeg))), .val (.int (Int32.ofNat (nd p5.toNatClampNeg)))]) (hb hby d43_91) rfl ?_
              refine own_iloadN X14 hx (hb hby d43_93) rfl ?_
              refine own_iload X14 hx (hb hby d43_94) rfl ?_
              by_cases hc96_15 : p1 = ((3 : Int32) + (Int32.ofNat (nd p4.toNatClampNeg)))
              ·
                refine own_icmpNo X14 hx (hb hby d43_96) (teq (hc96_15 : p1 = ((3 : Int32) + (Int32.ofNat (nd p4.toNatClampNeg))))).2 ?_
                refine own_bipush X14 hx (v := (58 : Int32)) (hb hby d43_99) rfl ?_
                show Goes _ _ _ _ _ _ (T14.setTop (mkF m 101 #[.val (.int p1), .val (.int p2), .val (.int p3), .val (.int p4), .val (.int p5), .val (.int ((3 : Int32) + (Int32.ofNat (nd p4.toNatClampNeg)))), .val (.int (Int32.ofNat (nd p4.toNatClampNeg))), .val (.int (Int32.ofNat (nd p5.toNatClampNeg)))] [(.int (58 : Int32))]))
                exact own_retN X14 hx (t := .char) N14 hlk (by decide) (by decide) hret (by simp) (hb hby d43_101) (by rw [e14]; exact ⟨(congrArg (fun z => some (Value.int z)) (ex_5 hlo hc31_3 hc83_10 hc96_15)), KC0⟩)
              ·
                refine own_icmpYes X14 hx (pc' := 102) (hb hby d43_96) (feq (hc96_15 : ¬ (p1 = ((3 : Int32) + (Int32.ofNat (nd p4.toNatClampNeg)))))).2 (by decide) (by decide) ?_
                refine own_iloadN X14 hx (hb hby d43_102) rfl ?_
                refine own_iload X14 hx (hb hby d43_103) rfl ?_
                refine own_iload X14 hx (hb hby d43_105) rfl ?_
                refine own_iadd X14 hx (hb hby d43_107) ?_
                by_cases hc108_16 : (((3 : Int32) + (Int32.ofNat (nd p4.toNatClampNeg))) + (Int32.ofNat (nd p5.toNatClampNeg))) < p1
                ·
                  refine own_icmpYes X14 hx (pc' := 125) (hb hby d43_108) (tlt (hc108_16 : (((3 : Int32) + (Int32.ofNat (nd p4.toNatClampNeg))) + (Int32.ofNat (nd p5.toNatClampNeg))) < p1)).2.2.1 (by decide) (by decide) ?_
                  refine own_iload X14 hx (hb hby d43_125) rfl ?_
                  refine own_iconst X14 hx (v := (1 : Int32)) (hb hby d43_127) rfl ?_
                  refine own_iadd X14 hx (hb hby d43_128) ?_
                  refine own_iload X14 hx (hb hby d43_129) rfl ?_
                  refine own_iadd X14 hx (hb hby d43_131) ?_
                  show Goes _ _ _ _ _ _ (T14.setTop (mkF m 132 #[.val (.int p1), .val (.int p2), .val (.int p3), .val (.int p4), .val (.int p5), .val (.int ((3 : Int32) + (Int32.ofNat (nd p4.toNatClampNeg)))), .val (.int (Int32.ofNat (nd p4.toNatClampNeg))), .val (.int (Int32.ofNat (nd p5.toNatClampNeg)))] [(.int ((((3 : Int32) + (Int32.ofNat (nd p4.toNatClampNeg))) + (1 : Int32)) + (Int32.ofNat (nd p5.toNatClampNeg))))]))
                  refine own_istore X14 hx (Ls' := #[.val (.int p1), .val (.int p2), .val (.int p3), .val (.int p4), .val (.int p5), .val (.int ((((3 : Int32) + (Int32.ofNat (nd p4.toNatClampNeg))) + (1 : Int32)) + (Int32.ofNat (nd p5.toNatClampNeg)))), .val (.int (Int32.ofNat (nd p4.toNatClampNeg))), .val (.int (Int32.ofNat (nd p5.toNatClampNeg)))]) (hb hby d43_132) rfl ?_
                  refine own_iloadN X14 hx (hb hby d43_134) rfl ?_
                  refine own_iload X14 hx (hb hby d43_135) rfl ?_
                  by_cases hc137_17 : p1 = ((((3 : Int32) + (Int32.ofNat (nd p4.toNatClampNeg))) + (1 : Int32)) + (Int32.ofNat (nd p5.toNatClampNeg)))
                  ·
                    refine own_icmpNo X14 hx (hb hby d43_137) (teq (hc137_17 : p1 = ((((3 : Int32) + (Int32.ofNat (nd p4.toNatClampNeg))) + (1 : Int32)) + (Int32.ofNat (nd p5.toNatClampNeg))))).2 ?_
                    refine own_bipush X14 hx (v := (58 : Int32)) (hb hby d43_140) rfl ?_
                    show Goes _ _ _ _ _ _ (T14.setTop (mkF m 142 #[.val (.int p1), .val (.int p2), .val (.int p3), .val (.int p4), .val (.int p5), .val (.int ((((3 : Int32) + (Int32.ofNat (nd p4.toNatClampNeg))) + (1 : Int32)) + (Int32.ofNat (nd p5.toNatClampNeg)))), .val (.int (Int32.ofNat (nd p4.toNatClampNeg))), .val (.int (Int32.ofNat (nd p5.toNatClampNeg)))] [(.int (58 : Int32))]))
                    exact own_retN X14 hx (t := .char) N14 hlk (by decide) (by decide) hret (by simp) (hb hby d43_142) (by rw [e14]; exact ⟨(congrArg (fun z => some (Value.int z)) (ex_t0 hlo (hP2 hc31_3 hc83_10) hc137_17)), KC0⟩)
                  ·
                    refine own_icmpYes X14 hx (pc' := 143) (hb hby d43_137) (feq (hc137_17 : ¬ (p1 = ((((3 : Int32) + (Int32.ofNat (nd p4.toNatClampNeg))) + (1 : Int32)) + (Int32.ofNat (nd p5.toNatClampNeg)))))).2 (by decide) (by decide) ?_
                    refine own_iloadN X14 hx (hb hby d43_143) rfl ?_
                    refine own_iload X14 hx (hb hby d43_144) rfl ?_
                    refine own_iconst X14 hx (v := (1 : Int32)) (hb hby d43_146) rfl ?_
                    refine own_iadd X14 hx (hb hby d43_147) ?_
                    by_cases hc148_18 : p1 = (((((3 : Int32) + (Int32.ofNat (nd p4.toNatClampNeg))) + (1 : Int32)) + (Int32.ofNat (nd p5.toNatClampNeg))) + (1 : Int32))
                    ·
                      refine own_icmpNo X14 hx (hb hby d43_148) (teq (hc148_18 : p1 = (((((3 : Int32) + (Int32.ofNat (nd p4.toNatClampNeg))) + (1 : Int32)) + (Int32.ofNat (nd p5.toNatClampNeg))) + (1 : Int32)))).2 ?_
                      refine own_bipush X14 hx (v := (32 : Int32)) (hb hby d43_151) rfl ?_
                      show Goes _ _ _ _ _ _ (T14.setTop (mkF m 153 #[.val (.int p1), .val (.int p2), .val (.int p3), .val (.int p4), .val (.int p5), .val (.int ((((3 : Int32) + (Int32.ofNat (nd p4.toNatClampNeg))) + (1 : Int32)) + (Int32.ofNat (nd p5.toNatClampNeg)))), .val (.int (Int32.ofNat (nd p4.toNatClampNeg))), .val (.int (Int32.ofNat (nd p5.toNatClampNeg)))] [(.int (32 : Int32))]))
                      exact own_retN X14 hx (t := .char) N14 hlk (by decide) (by decide) hret (by simp) (hb hby d43_153) (by rw [e14]; exact ⟨(congrArg (fun z => some (Value.int z)) (ex_t1 hlo (own_q1 (hP2 hc31_3 hc83_10)) hc148_18)), KC0⟩)
                    ·
                      refine own_icmpYes X14 hx (pc' := 154) (hb hby d43_148) (feq (hc148_18 : ¬ (p1 = (((((3 : Int32) + (Int32.ofNat (nd p4.toNatClampNeg))) + (1 : Int32)) + (Int32.ofNat (nd p5.toNatClampNeg))) + (1 : Int32))))).2 (by decide) (by decide) ?_
                      refine own_iloadN X14 hx (hb hby d43_154) rfl ?_
                      refine own_iload X14 hx (hb hby d43_155) rfl ?_
                      refine own_iconst X14 hx (v := (2 : Int32)) (hb hby d43_157) rfl ?_
                      refine own_iadd X14 hx (hb hby d43_158) ?_
                      by_cases hc159_19 : p1 = (((((3 : Int32) + (Int32.ofNat (nd p4.toNatClampNeg))) + (1 : Int32)) + (Int32.ofNat (nd p5.toNatClampNeg))) + (2 : Int32))
                      ·
                        refine own_icmpNo X14 hx (hb hby d43_159) (teq (hc159_19 : p1 = (((((3 : Int32) + (Int32.ofNat (nd p4.toNatClampNeg))) + (1 : Int32)) + (Int32.ofNat (nd p5.toNatClampNeg))) + (2 : Int32)))).2 ?_
                        refine own_iloadN X14 hx (hb hby d43_162) rfl ?_
                        refine own_sipush X14 hx (v := (255 : Int32)) (hb hby d43_163) rfl ?_
                        refine own_iand X14 hx (hb hby d43_166) ?_
                        refine own_i2c X14 hx (hb hby d43_167) ?_
                        show Goes _ _ _ _ _ _ (T14.setTop (mkF m 168 #[.val (.int p1), .val (.int p2), .val (.int p3), .val (.int p4), .val (.int p5), .val (.int ((((3 : Int32) + (Int32.ofNat (nd p4.toNatClampNeg))) + (1 : Int32)) + (Int32.ofNat (nd p5.toNatClampNeg)))), .val (.int (Int32.ofNat (nd p4.toNatClampNeg))), .val (.int (Int32.ofNat (nd p5.toNatClampNeg)))] [(.int ((p3 &&& (255 : Int32)).toUInt32.toUInt16.toUInt32.toInt32))]))
                        exact own_retN X14 hx (t := .char) N14 hlk (by decide) (by decide) hret (by simp) (hb hby d43_168) (by rw [e14]; exact ⟨(congrArg (fun z => some (Value.int z)) (ex_t2 hlo (own_q2 (hP2 hc31_3 hc83_10)) hc159_19)), KC0⟩)
                      ·
                        refine own_icmpYes X14 hx (pc' := 169) (hb hby d43_159) (feq (hc159_19 : ¬ (p1 = (((((3 : Int32) + (Int32.ofNat (nd p4.toNatClampNeg))) + (1 : Int32)) + (Int32.ofNat (nd p5.toNatClampNeg))) + (2 : Int32))))).2 (by decide) (by decide) ?_
                        refine own_iloadN X14 hx (hb hby d43_169) rfl ?_
                        refine own_bipush X14 hx (v := (8 : Int32)) (hb hby d43_170) rfl ?_
                        refine own_iushr X14 hx (hb hby d43_172) ?_
                        refine own_sipush X14 hx (v := (255 : Int32)) (hb hby d43_173) rfl ?_
                        refine own_iand X14 hx (hb hby d43_176) ?_
                        show Goes _ _ _ _ _ _ (T14.setTop (mkF m 177 #[.val (.int p1), .val (.int p2), .val (.int p3), .val (.int p4), .val (.int p5), .val (.int ((((3 : Int32) + (Int32.ofNat (nd p4.toNatClampNeg))) + (1 : Int32)) + (Int32.ofNat (nd p5.toNatClampNeg)))), .val (.int (Int32.ofNat (nd p4.toNatClampNeg))), .val (.int (Int32.ofNat (nd p5.toNatClampNeg)))] [(.int (((p3.toUInt32 >>> ((8 : Int32) &&& 31).toUInt32).toInt32) &&& (255 : Int32)))]))
                        refine own_i2c X14 hx (hb hby d43_177) ?_
                        show Goes _ _ _ _ _ _ (T14.setTop (mkF m 178 #[.val (.int p1), .val (.int p2), .val (.int p3), .val (.int p4), .val (.int p5), .val (.int ((((3 : Int32) + (Int32.ofNat (nd p4.toNatClampNeg))) + (1 : Int32)) + (Int32.ofNat (nd p5.toNatClampNeg)))), .val (.int (Int32.ofNat (nd p4.toNatClampNeg))), .val (.int (Int32.ofNat (nd p5.toNatClampNeg)))] [(.int ((((p3.toUInt32 >>> ((8 : Int32) &&& 31).toUInt32).toInt32) &&& (255 : Int32)).toUInt32.toUInt16.toUInt32.toInt32))]))
                        exact own_retN X14 hx (t := .char) N14 hlk (by decide) (by decide) hret (by simp) (hb hby d43_178) (by rw [e14]; exact ⟨(congrArg (fun z => some (Value.int z)) (ex_t3 hlo hhi (hP2 hc31_3 hc83_10) (own_q1 (hP2 hc31_3 hc83_10)) (own_q2 (hP2 hc31_3 hc83_10)) (hg2 hlo hc31_3 hc83_10 hc108_16) hc137_17 hc148_18 hc159_19)), KC0⟩)
                ·
                  refine own_icmpNo X14 hx (hb hby d43_108) (flt (hc108_16 : ¬ ((((3 : Int32) + (Int32.ofNat (nd p4.toNatClampNeg))) + (Int32.ofNat (nd p5.toNatClampNeg))) < p1))).2.2.1 ?_
                  refine own_iload X14 hx (hb hby d43_111) rfl ?_
                  refine own_iload X14 hx (hb hby d43_113) rfl ?_
                  refine own_iloadN X14 hx (hb hby d43_115) rfl ?_
                  refine own_iload X14 hx (hb hby d43_116) rfl ?_
                  refine own_isub X14 hx (hb hby d43_118) ?_
                  show Goes _ _ _ _ _ _ (T14.setTop (mkF m 119 #[.val (.int p1), .val (.int p2), .val (.int p3), .val (.int p4), .val (.int p5), .val (.int ((3 : Int32) + (Int32.ofNat (nd p4.toNatClampNeg)))), .val (.int (Int32.ofNat (nd p4.toNatClampNeg))), .val (.int (Int32.ofNat (nd p5.toNatClampNeg)))] [(.int (p1 - ((3 : Int32) + (Int32.ofNat (nd p4.toNatClampNeg))))), (.int (Int32.ofNat (nd p5.toNatClampNeg))), (.int p5)]))
                  refine own_iconst X14 hx (v := (1 : Int32)) (hb hby d43_119) rfl ?_
                  refine own_isub X14 hx (hb hby d43_120) ?_
                  refine own_callS X14 hx hZ hown (y := (⟨"com/example/gantry/gantry/descriptor/DescriptorExceptionMessagePinLaw", "digit", "(III)C"⟩ : MethodName)) (own_w hw 208 rfl) (own_w hw 209 rfl) (own_w hw 172 rfl) (own_w hw 210 rfl) (by decide) (W := 0) (by decide) (by decide) N14 e14 (by rw [hml]; rfl) (argsL := [(.int p5), (.int (Int32.ofNat (nd p5.toNatClampNeg))), (.int ((p1 - ((3 : Int32) + (Int32.ofNat (nd p4.toNatClampNeg)))) - (1 : Int32)))]) (rest := []) (lenOf pd_26 rfl) (Nat.le_of_eq rfl) (by decide) (by decide) (rm44 l Z a0 hw [] p5 (Int32.ofNat (nd p5.toNatClampNeg)) ((p1 - ((3 : Int32) + (Int32.ofNat (nd p4.toNatClampNeg)))) - (1 : Int32)) (nd p5.toNatClampNeg - 1 - (p1.toNatClampNeg - (4 + nd p4.toNatClampNeg))) h0 n0 O0 (own_dj2 hlo (ex_6 (a := p2) (b := p3) hlo hc31_3 hc83_10 hc55_9 hc96_15 hc108_16).1 (ex_6 (a := p2) (b := p3) hlo hc31_3 hc83_10 hc55_9 hc96_15 hc108_16).2.1).1 (own_dj2 hlo (ex_6 (a := p2) (b := p3) hlo hc31_3 hc83_10 hc55_9 hc96_15 hc108_16).1 (ex_6 (a := p2) (b := p3) hlo hc31_3 hc83_10 hc55_9 hc96_15 hc108_16).2.1).2 (own_posi hc83_10)) rfl (hb hby d43_121) ?_
                  intro v20 T20 lc20 X20 N20 hQ20
                  obtain ⟨rfl, K20⟩ := hQ20
                  have O21 := O0.keep K20 all0
                  have KC21 := KC0.trans K20 all0
                  show Goes _ _ _ _ _ _ (T20.setTop (mkF m 124 #[.val (.int p1), .val (.int p2), .val (.int p3), .val (.int p4), .val (.int p5), .val (.int ((3 : Int32) + (Int32.ofNat (nd p4.toNatClampNeg)))), .val (.int (Int32.ofNat (nd p4.toNatClampNeg))), .val (.int (Int32.ofNat (nd p5.toNatClampNeg)))] [(.int (dj p5.toNatClampNeg (nd p5.toNatClampNeg - 1 - (p1.toNatClampNeg - (4 + nd p4.toNatClampNeg)))))]))
                  exact own_retN X20 hx (t := .char) N20 hlk (by decide) (by decide) hret (by simp) (hb hby d43_124) (⟨(congrArg (fun z => some (Value.int z)) ((ex_6 (a := p2) (b := p3) hlo hc31_3 hc83_10 hc55_9 hc96_15 hc108_16).2.2)), KC21⟩)
          ·
            refine own_icmpNo X7 hx (hb hby d43_55) (flt (hc55_9 : ¬ (((2 : Int32) + (Int32.ofNat (nd p4.toNatClampNeg))) < p1))).2.2.1 ?_
            refine own_iloadN X7 hx (hb hby d43_58) rfl ?_
            refine own_iload X7 hx (hb hby d43_59) rfl ?_
            refine own_iloadN X7 hx (hb hby d43_61) rfl ?_
            refine own_iload X7 hx (hb hby d43_62) rfl ?_
            refine own_isub X7 hx (hb hby d43_64) ?_
            show Goes _ _ _ _ _ _ (T7.setTop (mkF m 65 #[.val (.int p1), .val (.int p2), .val (.int p3), .val (.int p4), .val (.int p5), .val (.int (2 : Int32)), .val (.int (Int32.ofNat (nd p4.toNatClampNeg))), .unset] [(.int (p1 - (2 : Int32))), (.int (Int32.ofNat (nd p4.toNatClampNeg))), (.int p4)]))
            refine own_iconst X7 hx (v := (1 : Int32)) (hb hby d43_65) rfl ?_
            refine own_isub X7 hx (hb hby d43_66) ?_
            refine own_callS X7 hx hZ hown (y := (⟨"com/example/gantry/gantry/descriptor/DescriptorExceptionMessagePinLaw", "digit", "(III)C"⟩ : MethodName)) (own_w hw 208 rfl) (own_w hw 209 rfl) (own_w hw 172 rfl) (own_w hw 210 rfl) (by decide) (W := 0) (by decide) (by decide) N7 e7 (by rw [hml]; rfl) (argsL := [(.int p4), (.int (Int32.ofNat (nd p4.toNatClampNeg))), (.int ((p1 - (2 : Int32)) - (1 : Int32)))]) (rest := []) (lenOf pd_26 rfl) (Nat.le_of_eq rfl) (by decide) (by decide) (rm44 l Z a0 hw [] p4 (Int32.ofNat (nd p4.toNatClampNeg)) ((p1 - (2 : Int32)) - (1 : Int32)) (nd p4.toNatClampNeg - 1 - (p1.toNatClampNeg - 3)) h0 n0 O0 (own_dj1 hlo (ex_4 (a := p2) (b := p3) (c := p5) hlo hc31_3 hc1_1 hc13_2 hc43_8 hc55_9).1 (ex_4 (a := p2) (b := p3) (c := p5) hlo hc31_3 hc1_1 hc13_2 hc43_8 hc55_9).2.1).1 (own_dj1 hlo (ex_4 (a := p2) (b := p3) (c := p5) hlo hc31_3 hc1_1 hc13_2 hc43_8 hc55_9).1 (ex_4 (a := p2) (b := p3) (c := p5) hlo hc31_3 hc1_1 hc13_2 hc43_8 hc55_9).2.1).2 (own_posi hc31_3)) rfl (hb hby d43_67) ?_
            intro v22 T22 lc22 X22 N22 hQ22
            obtain ⟨rfl, K22⟩ := hQ22
            have O23 := O0.keep K22 all0
            have KC23 := KC0.trans K22 all0
            show Goes _ _ _ _ _ _ (T22.setTop (mkF m 70 #[.val (.int p1), .val (.int p2), .val (.int p3), .val (.int p4), .val (.int p5), .val (.int (2 : Int32)), .val (.int (Int32.ofNat (nd p4.toNatClampNeg))), .unset] [(.int (dj p4.toNatClampNeg (nd p4.toNatClampNeg - 1 - (p1.toNatClampNeg - 3))))]))
            exact own_retN X22 hx (t := .char) N22 hlk (by decide) (by decide) hret (by simp) (hb hby d43_70) (⟨(congrArg (fun z => some (Value.int z)) ((ex_4 (a := p2) (b := p3) (c := p5) hlo hc31_3 hc1_1 hc13_2 hc43_8 hc55_9).2.2)), KC23⟩)
theorem d37_0 : decode method_4_code 0 = .ok (.iload_n 1, 1) := by decide +kernel
theorem d37_1 : decode method_4_code 1 = .ok (.aload_n 0, 1) := by decide +kernel
theorem d37_2 : decode method_4_code 2 = .ok (.invokevirtual 18, 3) := by decide +kernel
theorem d37_5 : decode method_4_code 5 = .ok (.if_icmp .ge 21, 3) := by decide +kernel
theorem d37_8 : decode method_4_code 8 = .ok (.aload_n 0, 1) := by decide +kernel
theorem d37_9 : decode method_4_code 9 = .ok (.iload_n 1, 1) := by decide +kernel
theorem d37_10 : decode method_4_code 10 = .ok (.invokevirtual 35, 3) := by decide +kernel
theorem pd_27 : parseMethodDescriptor "(I)C" = some ⟨[.int], some .char⟩ := by decide +kernel
theorem d37_13 : decode method_4_code 13 = .ok (.iload_n 1, 1) := by decide +kernel
theorem d37_14 : decode method_4_code 14 = .ok (.iload_n 2, 1) := by decide +kernel
theorem d37_15 : decode method_4_code 15 = .ok (.iload_n 3, 1) := by decide +kernel
theorem d37_16 : decode method_4_code 16 = .ok (.iload 4, 2) := by decide +kernel
theorem d37_18 : decode method_4_code 18 = .ok (.iload 5, 2) := by decide +kernel
theorem d37_20 : decode method_4_code 20 = .ok (.invokestatic 39, 3) := by decide +kernel
theorem pd_28 : parseMethodDescriptor "(IIIII)C" = some ⟨[.int, .int, .int, .int, .int], some .char⟩ := by decide +kernel
theorem d37_23 : decode method_4_code 23 = .ok (.if_icmp .ne 7, 3) := by decide +kernel
theorem d37_26 : decode method_4_code 26 = .ok (.iconst 1, 1) := by decide +kernel
theorem d37_27 : decode method_4_code 27 = .ok (.goto 4, 3) := by decide +kernel
theorem d37_31 : decode method_4_code 31 = .ok (.ireturn, 1) := by decide +kernel
def Q37 (Z : State) (a1 : Addr) (p2 : Int32) (p3 : Int32) (p4 : Int32) (p5 : Int32) (p6 : Int32) (t : Addr) (k : ClassId) (w_DigitOnes : Addr) (w_DigitTens : Addr) (zc : Int32) (fm : Value) (k_ones : ClassId) (k_tens : ClassId) (h0 : Heap) (n0 : Nat) (v : Option Value) (h : Heap) : Prop :=
  (v = some (.int (1 : Int32)) ∧ Keep h0 h [])
theorem ef_37 (m : MethodId) (a1 : Addr) (p2 : Int32) (p3 : Int32) (p4 : Int32) (p5 : Int32) (p6 : Int32) : entryFrame m #[(.ref a1), (.int p2), (.int p3), (.int p4), (.int p5), (.int p6)] 6 = mkF m 0 #[.val (.ref a1), .val (.int p2), .val (.int p3), .val (.int p4), .val (.int p5), .val (.int p6)] [] := by first | (simp [entryFrame, mkF, argsToLocals, Value.category]; done) | rfl
set_option maxRecDepth 65536 in
set_option maxHeartbeats 40000000 in
theorem rm37 (l : Launch) (Z : State) (a0 : Array Value) (hw : ∀ d ∈ tables_1, d.before a0 Z = true) (ws : List Jvm.Cond) (a1 : Addr) (p2 : Int32) (p3 : Int32) (p4 : Int32) (p5 : Int32) (p6 : Int32) (t : Addr) (k : ClassId) (w_DigitOnes : Addr) (w_DigitTens : Addr) (zc : Int32) (fm : Value) (k_ones : ClassId) (k_tens : ClassId) (h0 : Heap) (n0 : Nat) (O0 : Old Z n0 h0) (SF : Start Z w_DigitOnes w_DigitTens zc fm k_ones k_tens) (f0 : Exa Z h0 a1 "java/lang/String") (f1 : Fld Z h0 a1 "java/lang/String" "value" "[B" (.ref t)) (f2 : Fld Z h0 a1 "java/lang/String" "coder" "B" (.int (0 : Int32))) (f3 : Arv Z h0 t k .byte (Int32.ofNat (msg p3 p4 p5 p6).length) (bl (msg p3 p4 p5 p6)) (.int (0 : Int32))) (hlo : ¬ (p2 < (0 : Int32))) :
    Meets l (⟨"com/example/gantry/gantry/descriptor/DescriptorExceptionMessagePinLaw", "ok", "(Ljava/lang/String;IIIII)Z"⟩ : MethodName) method_4_code 6 (some .boolean) ws ({ frames := 4, cells := 1, slots := 10, locals := 53 } : Room) ({ frames := 4, cells := 1, slots := 10, locals := 53 } : Room).cells ({ frames := 4, cells := 1, slots := 10, locals := 53 } : Room).slots Z #[(.ref a1), (.int p2), (.int p3), (.int p4), (.int p5), (.int p6)] h0 n0 (Q37 Z a1 p2 p3 p4 p5 p6 t k w_DigitOnes w_DigitTens zc fm k_ones k_tens h0 n0) := by
  refine Meets.of (F := fun m => mkF m 0 #[.val (.ref a1), .val (.int p2), .val (.int p3), .val (.int p4), .val (.int p5), .val (.int p6)] []) (plainFor_of_name pn_6) (fun m => ef_37 m a1 p2 p3 p4 p5 p6) ?_
  intro p e s m below meth c T0 hx hby hml hown0 hnm hret hlk hZ X0 e0
  have hown : s.vm.findClass "com/example/gantry/gantry/descriptor/DescriptorExceptionMessagePinLaw" = some m.cls := hown0
  have N0 := Fr.nil n0
  have KC0 := Keep.refl h0 []
  obtain ⟨z0, z1, z2, z3, z4, z5, z6, hzc, z8, hfm, -⟩ := SF
  show Goes _ _ _ _ _ _ (T0.setTop (mkF m 0 #[.val (.ref a1), .val (.int p2), .val (.int p3), .val (.int p4), .val (.int p5), .val (.int p6)] []))
  refine own_iloadN X0 hx (hb hby d37_0) rfl ?_
  refine own_aloadN X0 hx (hb hby d37_1) rfl rfl ?_
  refine own_virtual X0 hx hZ hown (y := (⟨"java/lang/String", "length", "()I"⟩ : MethodName)) (z := (⟨"java/lang/String", "length", "()I"⟩ : MethodName)) (own_w hw 169 rfl) (own_w hw 63 rfl) (notFace_of_selects (args := #[]) (mvT hZ (own_w hw 65 rfl))) (own_w hw 65 rfl) (own_w hw 64 rfl) (own_w hw 2 rfl) (own_w hw 66 rfl) (a := a1) f0 (by decide) (W := 1) (by decide) (by decide) N0 e0 (by rw [hml]; rfl) (argsL := []) (rest := [(.int p2)]) (lenOf pd_8 rfl) (Nat.le_of_eq rfl) (by decide) (by decide) (rm12 l Z a0 hw [] a1 t k (msg p3 p4 p5 p6) w_DigitOnes w_DigitTens zc fm k_ones k_tens h0 n0 O0 ⟨z0, z1, z2, z3, z4, z5, z6, hzc, z8, hfm, trivial⟩ f0 f1 f2 f3) rfl (hb hby d37_2) ?_
  intro v1 T1 lc1 X1 N1 hQ1
  obtain ⟨rfl, e1⟩ := hQ1
  by_cases hc5_2 : p2 < (Int32.ofNat (msg p3 p4 p5 p6).length)
  ·
    refine own_icmpNo X1 hx (hb hby d37_5) (tlt (hc5_2 : p2 < (Int32.ofNat (msg p3 p4 p5 p6).length))).2.1 ?_
    refine own_aloadN X1 hx (hb hby d37_8) rfl rfl ?_
    refine own_iloadN X1 hx (hb hby d37_9) rfl ?_
    refine own_virtual X1 hx hZ hown (y := (⟨"java/lang/String", "charAt", "(I)C"⟩ : MethodName)) (z := (⟨"java/lang/String", "charAt", "(I)C"⟩ : MethodName)) (own_w hw 183 rfl) (own_w hw 184 rfl) (notFace_of_selects (args := #[]) (mvT hZ (own_w hw 186 rfl))) (own_w hw 186 rfl) (own_w hw 185 rfl) (own_w hw 2 rfl) (own_w hw 187 rfl) (a := a1) f0 (by decide) (W := 0) (by decide) (by decide) N1 e1 (by rw [hml]; rfl) (argsL := [(.int p2)]) (rest := []) (lenOf pd_27 rfl) (Nat.le_of_eq rfl) (by decide) (by decide) (rm38 l Z a0 hw [] a1 p2 t k (msg p3 p4 p5 p6) w_DigitOnes w_DigitTens zc fm k_ones k_tens h0 n0 O0 ⟨z0, z1, z2, z3, z4, z5, z6, hzc, z8, hfm, trivial⟩ f0 f1 f2 f3 hlo hc5_2 (msg_b8 p3 p4 p5 p6)) rfl (hb hby d37_10) ?_
    intro v3 T3 lc3 X3 N3 hQ3
    obtain ⟨rfl, e3⟩ := hQ3
    refine own_iloadN X3 hx (hb hby d37_13) rfl ?_
    refine own_iloadN X3 hx (hb hby d37_14) rfl ?_
    refine own_iloadN X3 hx (hb hby d37_15) rfl ?_
    refine own_iload X3 hx (hb hby d37_16) rfl ?_
    refine own_iload X3 hx (hb hby d37_18) rfl ?_
    show Goes _ _ _ _ _ _ (T3.setTop (mkF m 20 #[.val (.ref a1), .val (.int p2), .val (.int p3), .val (.int p4), .val (.int p5), .val (.int p6)] [(.int p6), (.int p5), (.int p4), (.int p3), (.int p2), (.int ((msg p3 p4 p5 p6).getD p2.toNatClampNeg (0 : Int32)))]))
    refine own_callS X3 hx hZ hown (y := (⟨"com/example/gantry/gantry/descriptor/DescriptorExceptionMessagePinLaw", "expected", "(IIIII)C"⟩ : MethodName)) (own_w hw 205 rfl) (own_w hw 206 rfl) (own_w hw 172 rfl) (own_w hw 207 rfl) (by decide) (W := 1) (by decide) (by decide) N3 e3 (by rw [hml]; rfl) (argsL := [(.int p2), (.int p3), (.int p4), (.int p5), (.int p6)]) (rest := [(.int ((msg p3 p4 p5 p6).getD p2.toNatClampNeg (0 : Int32)))]) (lenOf pd_28 rfl) (Nat.le_of_eq rfl) (by decide) (by decide) (rm43 l Z a0 hw [] p2 p3 p4 p5 p6 h0 n0 O0 hlo hc5_2) rfl (hb hby d37_20) ?_
    intro v4 T4 lc4 X4 N4 hQ4
    obtain ⟨rfl, K4⟩ := hQ4
    have O5 := O0.keep K4 all0
    have KC5 := KC0.trans K4 all0
    refine own_icmpNo X4 hx (hb hby d37_23) (teq (rfl : ((msg p3 p4 p5 p6).getD p2.toNatClampNeg (0 : Int32)) = ((msg p3 p4 p5 p6).getD p2.toNatClampNeg (0 : Int32)))).2 ?_
    refine own_iconst X4 hx (v := (1 : Int32)) (hb hby d37_26) rfl ?_
    refine own_goto X4 hx (pc' := 31) (hb hby d37_27) (by decide) (by decide) ?_
    show Goes _ _ _ _ _ _ (T4.setTop (mkF m 31 #[.val (.ref a1), .val (.int p2), .val (.int p3), .val (.int p4), .val (.int p5), .val (.int p6)] [(.int (1 : Int32))]))
    exact own_retN X4 hx (t := .boolean) N4 hlk (by decide) (by decide) hret (by simp) (hb hby d37_31) (⟨rfl, KC5⟩)
  ·
    refine own_icmpYes X1 hx (pc' := 26) (hb hby d37_5) (flt (hc5_2 : ¬ (p2 < (Int32.ofNat (msg p3 p4 p5 p6).length)))).2.1 (by decide) (by decide) ?_
    refine own_iconst X1 hx (v := (1 : Int32)) (hb hby d37_26) rfl ?_
    refine own_goto X1 hx (pc' := 31) (hb hby d37_27) (by decide) (by decide) ?_
    show Goes _ _ _ _ _ _ (T1.setTop (mkF m 31 #[.val (.ref a1), .val (.int p2), .val (.int p3), .val (.int p4), .val (.int p5), .val (.int p6)] [(.int (1 : Int32))]))
    exact own_retN X1 hx (t := .boolean) N1 hlk (by decide) (by decide) hret (by simp) (hb hby d37_31) (by rw [e1]; exact ⟨rfl, KC0⟩)
theorem d36_0 : decode method_3_code 0 = .ok (.aload_n 0, 1) := by decide +kernel
theorem d36_1 : decode method_3_code 1 = .ok (.iload_n 1, 1) := by decide +kernel
theorem d36_2 : decode method_3_code 2 = .ok (.iload_n 2, 1) := by decide +kernel
theorem d36_3 : decode method_3_code 3 = .ok (.iload_n 3, 1) := by decide +kernel
theorem d36_4 : decode method_3_code 4 = .ok (.iload 4, 2) := by decide +kernel
theorem d36_6 : decode method_3_code 6 = .ok (.iload 5, 2) := by decide +kernel
theorem d36_8 : decode method_3_code 8 = .ok (.invokestatic 32, 3) := by decide +kernel
theorem pd_29 : parseMethodDescriptor "(Ljava/lang/String;IIIII)Z" = some ⟨[(.object "java/lang/String"), .int, .int, .int, .int, .int], some .boolean⟩ := by decide +kernel
theorem d36_11 : decode method_3_code 11 = .ok (.ifCond .eq 55, 3) := by decide +kernel
theorem d36_14 : decode method_3_code 14 = .ok (.aload_n 0, 1) := by decide +kernel
theorem d36_15 : decode method_3_code 15 = .ok (.iload_n 1, 1) := by decide +kernel
theorem d36_16 : decode method_3_code 16 = .ok (.iconst 1, 1) := by decide +kernel
theorem d36_17 : decode method_3_code 17 = .ok (.iadd, 1) := by decide +kernel
theorem d36_18 : decode method_3_code 18 = .ok (.iload_n 2, 1) := by decide +kernel
theorem d36_19 : decode method_3_code 19 = .ok (.iload_n 3, 1) := by decide +kernel
theorem d36_20 : decode method_3_code 20 = .ok (.iload 4, 2) := by decide +kernel
theorem d36_22 : decode method_3_code 22 = .ok (.iload 5, 2) := by decide +kernel
theorem d36_24 : decode method_3_code 24 = .ok (.invokestatic 32, 3) := by decide +kernel
theorem d36_27 : decode method_3_code 27 = .ok (.ifCond .eq 39, 3) := by decide +kernel
theorem d36_30 : decode method_3_code 30 = .ok (.aload_n 0, 1) := by decide +kernel
theorem d36_31 : decode method_3_code 31 = .ok (.iload_n 1, 1) := by decide +kernel
theorem d36_32 : decode method_3_code 32 = .ok (.iconst 2, 1) := by decide +kernel
theorem d36_33 : decode method_3_code 33 = .ok (.iadd, 1) := by decide +kernel
theorem d36_34 : decode method_3_code 34 = .ok (.iload_n 2, 1) := by decide +kernel
theorem d36_35 : decode method_3_code 35 = .ok (.iload_n 3, 1) := by decide +kernel
theorem d36_36 : decode method_3_code 36 = .ok (.iload 4, 2) := by decide +kernel
theorem d36_38 : decode method_3_code 38 = .ok (.iload 5, 2) := by decide +kernel
theorem d36_40 : decode method_3_code 40 = .ok (.invokestatic 32, 3) := by decide +kernel
theorem d36_43 : decode method_3_code 43 = .ok (.ifCond .eq 23, 3) := by decide +kernel
theorem d36_46 : decode method_3_code 46 = .ok (.aload_n 0, 1) := by decide +kernel
theorem d36_47 : decode method_3_code 47 = .ok (.iload_n 1, 1) := by decide +kernel
theorem d36_48 : decode method_3_code 48 = .ok (.iconst 3, 1) := by decide +kernel
theorem d36_49 : decode method_3_code 49 = .ok (.iadd, 1) := by decide +kernel
theorem d36_50 : decode method_3_code 50 = .ok (.iload_n 2, 1) := by decide +kernel
theorem d36_51 : decode method_3_code 51 = .ok (.iload_n 3, 1) := by decide +kernel
theorem d36_52 : decode method_3_code 52 = .ok (.iload 4, 2) := by decide +kernel
theorem d36_54 : decode method_3_code 54 = .ok (.iload 5, 2) := by decide +kernel
theorem d36_56 : decode method_3_code 56 = .ok (.invokestatic 32, 3) := by decide +kernel
theorem d36_59 : decode method_3_code 59 = .ok (.ifCond .eq 7, 3) := by decide +kernel
theorem d36_62 : decode method_3_code 62 = .ok (.iconst 1, 1) := by decide +kernel
theorem d36_63 : decode method_3_code 63 = .ok (.goto 4, 3) := by decide +kernel
theorem d36_67 : decode method_3_code 67 = .ok (.ireturn, 1) := by decide +kernel
def Q36 (Z : State) (a1 : Addr) (p2 : Int32) (p3 : Int32) (p4 : Int32) (p5 : Int32) (p6 : Int32) (t : Addr) (k : ClassId) (w_DigitOnes : Addr) (w_DigitTens : Addr) (zc : Int32) (fm : Value) (k_ones : ClassId) (k_tens : ClassId) (h0 : Heap) (n0 : Nat) (v : Option Value) (h : Heap) : Prop :=
  (v = some (.int (1 : Int32)) ∧ Keep h0 h [])
theorem ef_36 (m : MethodId) (a1 : Addr) (p2 : Int32) (p3 : Int32) (p4 : Int32) (p5 : Int32) (p6 : Int32) : entryFrame m #[(.ref a1), (.int p2), (.int p3), (.int p4), (.int p5), (.int p6)] 6 = mkF m 0 #[.val (.ref a1), .val (.int p2), .val (.int p3), .val (.int p4), .val (.int p5), .val (.int p6)] [] := by first | (simp [entryFrame, mkF, argsToLocals, Value.category]; done) | rfl
set_option maxRecDepth 65536 in
set_option maxHeartbeats 40000000 in
theorem rm36 (l : Launch) (Z : State) (a0 : Array Value) (hw : ∀ d ∈ tables_1, d.before a0 Z = true) (ws : List Jvm.Cond) (a1 : Addr) (p2 : Int32) (p3 : Int32) (p4 : Int32) (p5 : Int32) (p6 : Int32) (t : Addr) (k : ClassId) (w_DigitOnes : Addr) (w_DigitTens : Addr) (zc : Int32) (fm : Value) (k_ones : ClassId) (k_tens : ClassId) (h0 : Heap) (n0 : Nat) (O0 : Old Z n0 h0) (SF : Start Z w_DigitOnes w_DigitTens zc fm k_ones k_tens) (f0 : Exa Z h0 a1 "java/lang/String") (f1 : Fld Z h0 a1 "java/lang/String" "value" "[B" (.ref t)) (f2 : Fld Z h0 a1 "java/lang/String" "coder" "B" (.int (0 : Int32))) (f3 : Arv Z h0 t k .byte (Int32.ofNat (msg p3 p4 p5 p6).length) (bl (msg p3 p4 p5 p6)) (.int (0 : Int32))) (hi : ¬ (p2 < (0 : Int32)) ∧ p2 < (25 : Int32)) :
    Meets l (⟨"com/example/gantry/gantry/descriptor/DescriptorExceptionMessagePinLaw", "ok4", "(Ljava/lang/String;IIIII)Z"⟩ : MethodName) method_3_code 6 (some .boolean) ws ({ frames := 5, cells := 4, slots := 40, locals := 70 } : Room) ({ frames := 5, cells := 4, slots := 40, locals := 70 } : Room).cells ({ frames := 5, cells := 4, slots := 40, locals := 70 } : Room).slots Z #[(.ref a1), (.int p2), (.int p3), (.int p4), (.int p5), (.int p6)] h0 n0 (Q36 Z a1 p2 p3 p4 p5 p6 t k w_DigitOnes w_DigitTens zc fm k_ones k_tens h0 n0) := by
  refine Meets.of (F := fun m => mkF m 0 #[.val (.ref a1), .val (.int p2), .val (.int p3), .val (.int p4), .val (.int p5), .val (.int p6)] []) (plainFor_of_name pn_6) (fun m => ef_36 m a1 p2 p3 p4 p5 p6) ?_
  intro p e s m below meth c T0 hx hby hml hown0 hnm hret hlk hZ X0 e0
  have hown : s.vm.findClass "com/example/gantry/gantry/descriptor/DescriptorExceptionMessagePinLaw" = some m.cls := hown0
  have N0 := Fr.nil n0
  have KC0 := Keep.refl h0 []
  obtain ⟨z0, z1, z2, z3, z4, z5, z6, hzc, z8, hfm, -⟩ := SF
  show Goes _ _ _ _ _ _ (T0.setTop (mkF m 0 #[.val (.ref a1), .val (.int p2), .val (.int p3), .val (.int p4), .val (.int p5), .val (.int p6)] []))
  refine own_aloadN X0 hx (hb hby d36_0) rfl rfl ?_
  refine own_iloadN X0 hx (hb hby d36_1) rfl ?_
  refine own_iloadN X0 hx (hb hby d36_2) rfl ?_
  refine own_iloadN X0 hx (hb hby d36_3) rfl ?_
  refine own_iload X0 hx (hb hby d36_4) rfl ?_
  refine own_iload X0 hx (hb hby d36_6) rfl ?_
  refine own_callS X0 hx hZ hown (y := (⟨"com/example/gantry/gantry/descriptor/DescriptorExceptionMessagePinLaw", "ok", "(Ljava/lang/String;IIIII)Z"⟩ : MethodName)) (own_w hw 180 rfl) (own_w hw 181 rfl) (own_w hw 172 rfl) (own_w hw 182 rfl) (by decide) (W := 0) (by decide) (by decide) N0 e0 (by rw [hml]; rfl) (argsL := [(.ref a1), (.int p2), (.int p3), (.int p4), (.int p5), (.int p6)]) (rest := []) (lenOf pd_29 rfl) (Nat.le_of_eq rfl) (by decide) (by decide) (rm37 l Z a0 hw [] a1 p2 p3 p4 p5 p6 t k w_DigitOnes w_DigitTens zc fm k_ones k_tens h0 n0 O0 ⟨z0, z1, z2, z3, z4, z5, z6, hzc, z8, hfm, trivial⟩ f0 f1 f2 f3 hi.1) rfl (hb hby d36_8) ?_
  intro v1 T1 lc1 X1 N1 hQ1
  obtain ⟨rfl, K1⟩ := hQ1
  have E2_a1 := f0.keep K1
  have F2_value_a1 := f1.keep K1 nin0
  have F2_coder_a1 := f2.keep K1 nin0
  have A2_t := f3.keep K1 nin0
  have O2 := O0.keep K1 all0
  have KC2 := KC0.trans K1 all0
  refine own_ifNo X1 hx (hb hby d36_11) ((if0 _ _).trans (feq (by decide : ¬ ((1 : Int32) = (0 : Int32)))).1) ?_
  refine own_aloadN X1 hx (hb hby d36_14) rfl rfl ?_
  refine own_iloadN X1 hx (hb hby d36_15) rfl ?_
  refine own_iconst X1 hx (v := (1 : Int32)) (hb hby d36_16) rfl ?_
  refine own_iadd X1 hx (hb hby d36_17) ?_
  refine own_iloadN X1 hx (hb hby d36_18) rfl ?_
  show Goes _ _ _ _ _ _ (T1.setTop (mkF m 19 #[.val (.ref a1), .val (.int p2), .val (.int p3), .val (.int p4), .val (.int p5), .val (.int p6)] [(.int p3), (.int (p2 + (1 : Int32))), (.ref a1)]))
  refine own_iloadN X1 hx (hb hby d36_19) rfl ?_
  refine own_iload X1 hx (hb hby d36_20) rfl ?_
  refine own_iload X1 hx (hb hby d36_22) rfl ?_
  refine own_callS X1 hx hZ hown (y := (⟨"com/example/gantry/gantry/descriptor/DescriptorExceptionMessagePinLaw", "ok", "(Ljava/lang/String;IIIII)Z"⟩ : MethodName)) (own_w hw 180 rfl) (own_w hw 181 rfl) (own_w hw 172 rfl) (own_w hw 182 rfl) (by decide) (W := 0) (by decide) (by decide) N1 rfl (by rw [hml]; rfl) (argsL := [(.ref a1), (.int (p2 + (1 : Int32))), (.int p3), (.int p4), (.int p5), (.int p6)]) (rest := []) (lenOf pd_29 rfl) (Nat.le_of_eq rfl) (by decide) (by decide) (rm37 l Z a0 hw [] a1 (p2 + (1 : Int32)) p3 p4 p5 p6 t k w_DigitOnes w_DigitTens zc fm k_ones k_tens T1.heap n0 O2 ⟨z0, z1, z2, z3, z4, z5, z6, hzc, z8, hfm, trivial⟩ E2_a1 F2_value_a1 F2_coder_a1 A2_t (own_i1 hi (by decide))) rfl (hb hby d36_24) ?_
  intro v3 T3 lc3 X3 N3 hQ3
  obtain ⟨rfl, K3⟩ := hQ3
  have E4_a1 := E2_a1.keep K3
  have F4_value_a1 := F2_value_a1.keep K3 nin0
  have F4_coder_a1 := F2_coder_a1.keep K3 nin0
  have A4_t := A2_t.keep K3 nin0
  have O4 := O2.keep K3 all0
  have KC4 := KC2.trans K3 all0
  refine own_ifNo X3 hx (hb hby d36_27) ((if0 _ _).trans (feq (by decide : ¬ ((1 : Int32) = (0 : Int32)))).1) ?_
  refine own_aloadN X3 hx (hb hby d36_30) rfl rfl ?_
  refine own_iloadN X3 hx (hb hby d36_31) rfl ?_
  refine own_iconst X3 hx (v := (2 : Int32)) (hb hby d36_32) rfl ?_
  refine own_iadd X3 hx (hb hby d36_33) ?_
  refine own_iloadN X3 hx (hb hby d36_34) rfl ?_
  show Goes _ _ _ _ _ _ (T3.setTop (mkF m 35 #[.val (.ref a1), .val (.int p2), .val (.int p3), .val (.int p4), .val (.int p5), .val (.int p6)] [(.int p3), (.int (p2 + (2 : Int32))), (.ref a1)]))
  refine own_iloadN X3 hx (hb hby d36_35) rfl ?_
  refine own_iload X3 hx (hb hby d36_36) rfl ?_
  refine own_iload X3 hx (hb hby d36_38) rfl ?_
  refine own_callS X3 hx hZ hown (y := (⟨"com/example/gantry/gantry/descriptor/DescriptorExceptionMessagePinLaw", "ok", "(Ljava/lang/String;IIIII)Z"⟩ : MethodName)) (own_w hw 180 rfl) (own_w hw 181 rfl) (own_w hw 172 rfl) (own_w hw 182 rfl) (by decide) (W := 0) (by decide) (by decide) N3 rfl (by rw [hml]; rfl) (argsL := [(.ref a1), (.int (p2 + (2 : Int32))), (.int p3), (.int p4), (.int p5), (.int p6)]) (rest := []) (lenOf pd_29 rfl) (Nat.le_of_eq rfl) (by decide) (by decide) (rm37 l Z a0 hw [] a1 (p2 + (2 : Int32)) p3 p4 p5 p6 t k w_DigitOnes w_DigitTens zc fm k_ones k_tens T3.heap n0 O4 ⟨z0, z1, z2, z3, z4, z5, z6, hzc, z8, hfm, trivial⟩ E4_a1 F4_value_a1 F4_coder_a1 A4_t (own_i1 hi (by decide))) rfl (hb hby d36_40) ?_
  intro v5 T5 lc5 X5 N5 hQ5
  obtain ⟨rfl, K5⟩ := hQ5
  have E6_a1 := E4_a1.keep K5
  have F6_value_a1 := F4_value_a1.keep K5 nin0
  have F6_coder_a1 := F4_coder_a1.keep K5 nin0
  have A6_t := A4_t.keep K5 nin0
  have O6 := O4.keep K5 all0
  have KC6 := KC4.trans K5 all0
  refine own_ifNo X5 hx (hb hby d36_43) ((if0 _ _).trans (feq (by decide : ¬ ((1 : Int32) = (0 : Int32)))).1) ?_
  refine own_aloadN X5 hx (hb hby d36_46) rfl rfl ?_
  refine own_iloadN X5 hx (hb hby d36_47) rfl ?_
  refine own_iconst X5 hx (v := (3 : Int32)) (hb hby d36_48) rfl ?_
  refine own_iadd X5 hx (hb hby d36_49) ?_
  refine own_iloadN X5 hx (hb hby d36_50) rfl ?_
  show Goes _ _ _ _ _ _ (T5.setTop (mkF m 51 #[.val (.ref a1), .val (.int p2), .val (.int p3), .val (.int p4), .val (.int p5), .val (.int p6)] [(.int p3), (.int (p2 + (3 : Int32))), (.ref a1)]))
  refine own_iloadN X5 hx (hb hby d36_51) rfl ?_
  refine own_iload X5 hx (hb hby d36_52) rfl ?_
  refine own_iload X5 hx (hb hby d36_54) rfl ?_
  refine own_callS X5 hx hZ hown (y := (⟨"com/example/gantry/gantry/descriptor/DescriptorExceptionMessagePinLaw", "ok", "(Ljava/lang/String;IIIII)Z"⟩ : MethodName)) (own_w hw 180 rfl) (own_w hw 181 rfl) (own_w hw 172 rfl) (own_w hw 182 rfl) (by decide) (W := 0) (by decide) (by decide) N5 rfl (by rw [hml]; rfl) (argsL := [(.ref a1), (.int (p2 + (3 : Int32))), (.int p3), (.int p4), (.int p5), (.int p6)]) (rest := []) (lenOf pd_29 rfl) (Nat.le_of_eq rfl) (by decide) (by decide) (rm37 l Z a0 hw [] a1 (p2 + (3 : Int32)) p3 p4 p5 p6 t k w_DigitOnes w_DigitTens zc fm k_ones k_tens T5.heap n0 O6 ⟨z0, z1, z2, z3, z4, z5, z6, hzc, z8, hfm, trivial⟩ E6_a1 F6_value_a1 F6_coder_a1 A6_t (own_i1 hi (by decide))) rfl (hb hby d36_56) ?_
  intro v7 T7 lc7 X7 N7 hQ7
  obtain ⟨rfl, K7⟩ := hQ7
  have O8 := O6.keep K7 all0
  have KC8 := KC6.trans K7 all0
  refine own_ifNo X7 hx (hb hby d36_59) ((if0 _ _).trans (feq (by decide : ¬ ((1 : Int32) = (0 : Int32)))).1) ?_
  refine own_iconst X7 hx (v := (1 : Int32)) (hb hby d36_62) rfl ?_
  refine own_goto X7 hx (pc' := 67) (hb hby d36_63) (by decide) (by decide) ?_
  show Goes _ _ _ _ _ _ (T7.setTop (mkF m 67 #[.val (.ref a1), .val (.int p2), .val (.int p3), .val (.int p4), .val (.int p5), .val (.int p6)] [(.int (1 : Int32))]))
  exact own_retN X7 hx (t := .boolean) N7 hlk (by decide) (by decide) hret (by simp) (hb hby d36_67) (⟨rfl, KC8⟩)
theorem pd_30 : parseMethodDescriptor "(Ljava/lang/String;IILjava/lang/String;)Ljava/lang/String;" = some ⟨[(.object "java/lang/String"), .int, .int, (.object "java/lang/String")], some (.object "java/lang/String")⟩ := by decide +kernel
def Q0 (Z : State) (p1 : Int32) (p2 : Int32) (p3 : Int32) (p4 : Int32) (w_DigitOnes : Addr) (w_DigitTens : Addr) (zc : Int32) (fm : Value) (k_ones : ClassId) (k_tens : ClassId) (h0 : Heap) (n0 : Nat) (v : Option Value) (h : Heap) : Prop :=
  (v = some (.int (1 : Int32)))
theorem ef_0 (m : MethodId) (p1 : Int32) (p2 : Int32) (p3 : Int32) (p4 : Int32) : entryFrame m #[(.int p1), (.int p2), (.int p3), (.int p4)] maxLocals = mkF m 0 #[.val (.int p1), .val (.int p2), .val (.int p3), .val (.int p4), .unset, .unset, .unset, .unset, .unset, .unset, .unset] [] := by first | (simp [entryFrame, mkF, argsToLocals, Value.category, maxLocals]; done) | rfl
set_option maxRecDepth 65536 in
set_option maxHeartbeats 40000000 in
theorem rm0 (l : Launch) (Z : State) (a0 : Array Value) (hw : ∀ d ∈ tables_1, d.before a0 Z = true) (hEL : EW Z a0 consts_1) (ws : List Jvm.Cond) (p1 : Int32) (p2 : Int32) (p3 : Int32) (p4 : Int32) (w_DigitOnes : Addr) (w_DigitTens : Addr) (zc : Int32) (fm : Value) (k_ones : ClassId) (k_tens : ClassId) (h0 : Heap) (n0 : Nat) (O0 : Old Z n0 h0) (SF : Start Z w_DigitOnes w_DigitTens zc fm k_ones k_tens) :
    MeetsH l x code maxLocals ret ws room_1 88 3968 Z consts_1 #[(.int p1), (.int p2), (.int p3), (.int p4)] h0 n0 (Q0 Z p1 p2 p3 p4 w_DigitOnes w_DigitTens zc fm k_ones k_tens h0 n0) := by
  refine MeetsH.of (F := fun m => mkF m 0 #[.val (.int p1), .val (.int p2), .val (.int p3), .val (.int p4), .unset, .unset, .unset, .unset, .unset, .unset, .unset] []) (plainFor_of_name pn_6) (fun m => ef_0 m p1 p2 p3 p4) ?_
  intro p e s m below meth c T0 hx hby hml hown0 hnm hret hlk hZ hS0 hC0 X0 e0
  have hown : s.vm.findClass "com/example/gantry/gantry/descriptor/DescriptorExceptionMessagePinLaw" = some m.cls := hown0
  have N0 := Fr.nil n0
  have KC0 := Keep.refl h0 []
  have C0 := CHr.refl hC0
  obtain ⟨z0, z1, z2, z3, z4, z5, z6, hzc, z8, hfm, -⟩ := SF
  show Goes _ _ _ _ _ _ (T0.setTop (mkF m 0 #[.val (.int p1), .val (.int p2), .val (.int p3), .val (.int p4), .unset, .unset, .unset, .unset, .unset, .unset, .unset] []))
  refine own_iloadN X0 hx (hb hby at_0) rfl ?_
  refine own_sipush X0 hx (v := (255 : Int32)) (hb hby at_1) rfl ?_
  refine own_iand X0 hx (hb hby at_4) ?_
  refine own_i2c X0 hx (hb hby at_5) ?_
  show Goes _ _ _ _ _ _ (T0.setTop (mkF m 6 #[.val (.int p1), .val (.int p2), .val (.int p3), .val (.int p4), .unset, .unset, .unset, .unset, .unset, .unset, .unset] [(.int ((p1 &&& (255 : Int32)).toUInt32.toUInt16.toUInt32.toInt32))]))
  rw [i2c_mask]
  refine own_istore X0 hx (Ls' := #[.val (.int p1), .val (.int p2), .val (.int p3), .val (.int p4), .val (.int (p1 &&& (255 : Int32))), .unset, .unset, .unset, .unset, .unset, .unset]) (hb hby at_6) rfl ?_
  refine own_iloadN X0 hx (hb hby at_8) rfl ?_
  refine own_bipush X0 hx (v := (8 : Int32)) (hb hby at_9) rfl ?_
  refine own_iushr X0 hx (hb hby at_11) ?_
  refine own_sipush X0 hx (v := (255 : Int32)) (hb hby at_12) rfl ?_
  show Goes _ _ _ _ _ _ (T0.setTop (mkF m 15 #[.val (.int p1), .val (.int p2), .val (.int p3), .val (.int p4), .val (.int (p1 &&& (255 : Int32))), .unset, .unset, .unset, .unset, .unset, .unset] [(.int (255 : Int32)), (.int ((p1.toUInt32 >>> ((8 : Int32) &&& 31).toUInt32).toInt32))]))
  refine own_iand X0 hx (hb hby at_15) ?_
  refine own_i2c X0 hx (hb hby at_16) ?_
  show Goes _ _ _ _ _ _ (T0.setTop (mkF m 17 #[.val (.int p1), .val (.int p2), .val (.int p3), .val (.int p4), .val (.int (p1 &&& (255 : Int32))), .unset, .unset, .unset, .unset, .unset, .unset] [(.int ((((p1.toUInt32 >>> ((8 : Int32) &&& 31).toUInt32).toInt32) &&& (255 : Int32)).toUInt32.toUInt16.toUInt32.toInt32))]))
  rw [i2c_mask]
  refine own_istore X0 hx (Ls' := #[.val (.int p1), .val (.int p2), .val (.int p3), .val (.int p4), .val (.int (p1 &&& (255 : Int32))), .val (.int (((p1.toUInt32 >>> ((8 : Int32) &&& 31).toUInt32).toInt32) &&& (255 : Int32))), .unset, .unset, .unset, .unset, .unset]) (hb hby at_17) rfl ?_
  refine own_iloadN X0 hx (hb hby at_19) rfl ?_
  refine own_sipush X0 hx (v := (255 : Int32)) (hb hby at_20) rfl ?_
  refine own_iand X0 hx (hb hby at_23) ?_
  refine own_i2c X0 hx (hb hby at_24) ?_
  show Goes _ _ _ _ _ _ (T0.setTop (mkF m 25 #[.val (.int p1), .val (.int p2), .val (.int p3), .val (.int p4), .val (.int (p1 &&& (255 : Int32))), .val (.int (((p1.toUInt32 >>> ((8 : Int32) &&& 31).toUInt32).toInt32) &&& (255 : Int32))), .unset, .unset, .unset, .unset, .unset] [(.int ((p2 &&& (255 : Int32)).toUInt32.toUInt16.toUInt32.toInt32))]))
  rw [i2c_mask]
  refine own_istore X0 hx (Ls' := #[.val (.int p1), .val (.int p2), .val (.int p3), .val (.int p4), .val (.int (p1 &&& (255 : Int32))), .val (.int (((p1.toUInt32 >>> ((8 : Int32) &&& 31).toUInt32).toInt32) &&& (255 : Int32))), .val (.int (p2 &&& (255 : Int32))), .unset, .unset, .unset, .unset]) (hb hby at_25) rfl ?_
  refine own_iloadN X0 hx (hb hby at_27) rfl ?_
  refine own_bipush X0 hx (v := (8 : Int32)) (hb hby at_28) rfl ?_
  refine own_iushr X0 hx (hb hby at_30) ?_
  refine own_sipush X0 hx (v := (255 : Int32)) (hb hby at_31) rfl ?_
  show Goes _ _ _ _ _ _ (T0.setTop (mkF m 34 #[.val (.int p1), .val (.int p2), .val (.int p3), .val (.int p4), .val (.int (p1 &&& (255 : Int32))), .val (.int (((p1.toUInt32 >>> ((8 : Int32) &&& 31).toUInt32).toInt32) &&& (255 : Int32))), .val (.int (p2 &&& (255 : Int32))), .unset, .unset, .unset, .unset] [(.int (255 : Int32)), (.int ((p2.toUInt32 >>> ((8 : Int32) &&& 31).toUInt32).toInt32))]))
  refine own_iand X0 hx (hb hby at_34) ?_
  refine own_i2c X0 hx (hb hby at_35) ?_
  show Goes _ _ _ _ _ _ (T0.setTop (mkF m 36 #[.val (.int p1), .val (.int p2), .val (.int p3), .val (.int p4), .val (.int (p1 &&& (255 : Int32))), .val (.int (((p1.toUInt32 >>> ((8 : Int32) &&& 31).toUInt32).toInt32) &&& (255 : Int32))), .val (.int (p2 &&& (255 : Int32))), .unset, .unset, .unset, .unset] [(.int ((((p2.toUInt32 >>> ((8 : Int32) &&& 31).toUInt32).toInt32) &&& (255 : Int32)).toUInt32.toUInt16.toUInt32.toInt32))]))
  rw [i2c_mask]
  refine own_istore X0 hx (Ls' := #[.val (.int p1), .val (.int p2), .val (.int p3), .val (.int p4), .val (.int (p1 &&& (255 : Int32))), .val (.int (((p1.toUInt32 >>> ((8 : Int32) &&& 31).toUInt32).toInt32) &&& (255 : Int32))), .val (.int (p2 &&& (255 : Int32))), .val (.int (((p2.toUInt32 >>> ((8 : Int32) &&& 31).toUInt32).toInt32) &&& (255 : Int32))), .unset, .unset, .unset]) (hb hby at_36) rfl ?_
  refine own_new X0 hx hZ hown (own_w hw 0 rfl) (own_w hw 1 rfl) (own_w hw 2 rfl) e0 (hb hby at_38) (by decide) (by decide) (fun T1 h1 b1 g1 X1 e1 E1 A1 D1 => ?_)
  have ge_b1 : n0 ≤ b1 := Nat.le_trans (own_sz O0) (Nat.le_of_eq g1.symm)
  have sz_b1 : h0.size ≤ b1 := Nat.le_trans KC0.1 (Nat.le_of_eq g1.symm)
  have O2 := O0.ext E1
  have KC2 := KC0.ext E1
  have F1_coder_b1 : Fld Z h1 b1 "java/lang/String" "coder" "B" (.int (0 : Int32)) := D1 (Or.inr (own_w hw 27 rfl)) (ty := .byte) (by decide)
  have F1_value_b1 : Fld Z h1 b1 "java/lang/String" "value" "[B" .null := D1 (Or.inr (own_w hw 29 rfl)) (ty := (.array .byte)) (by decide)
  refine own_dup X1 hx (hb hby at_41) rfl ?_
  refine own_iconst X1 hx (v := (2 : Int32)) (hb hby at_42) rfl ?_
  refine own_newP X1 hx hZ (own_w hw 3 rfl) e1 (hb hby at_43) (by decide) (cap := 2) (by decide) (by decide) (by decide) (by decide) (fun T3 h3 b3 k3 g3 X3 e3 E3 A3 => ?_)
  have ne_b1_b3 : b1 ≠ b3 := Nat.ne_of_lt (Nat.lt_of_lt_of_le A1.lt (Nat.le_of_eq g3.symm))
  have ge_b3 : n0 ≤ b3 := Nat.le_trans (own_sz O2) (Nat.le_of_eq g3.symm)
  have sz_b3 : h0.size ≤ b3 := Nat.le_trans KC2.1 (Nat.le_of_eq g3.symm)
  have E4_b1 := A1.ext E3
  have F4_coder_b1 := F1_coder_b1.ext E3
  have F4_value_b1 := F1_value_b1.ext E3
  have O4 := O2.ext E3
  have KC4 := KC2.ext E3
  have V3 : Arv Z h3 b3 k3 .char (2 : Int32) [(.int (0 : Int32)), (.int (0 : Int32))] (.int (0 : Int32)) := A3.pad (pad_rep [] (.int (0 : Int32)) 2)
  refine own_dup X3 hx (hb hby at_45) rfl ?_
  refine own_iconst X3 hx (v := (0 : Int32)) (hb hby at_46) rfl ?_
  refine own_iload X3 hx (hb hby at_47) rfl ?_
  refine own_castore X3 hx hZ N0 e3 V3 ⟨by decide, by decide⟩ (i := 0) rfl (by first | decide | (simp; done)) ge_b3 (hb hby at_49) (fun T5 h5 lc5 X5 e5 N5 W5 V5 => ?_)
  have E6_b1 := E4_b1.wr W5
  have F6_coder_b1 := F4_coder_b1.other W5 (Or.inl ne_b1_b3)
  have F6_value_b1 := F4_value_b1.other W5 (Or.inl ne_b1_b3)
  have O6 := O4.wr W5 ge_b3
  have KC6 := KC4.wr W5 (Or.inr sz_b3)
  have V5' : Arv Z h5 b3 k3 .char (2 : Int32) [(.int (nar .char (p1 &&& (255 : Int32)))), (.int (0 : Int32))] (.int (0 : Int32)) := V5
  refine own_dup X5 hx (hb hby at_50) rfl ?_
  refine own_iconst X5 hx (v := (1 : Int32)) (hb hby at_51) rfl ?_
  refine own_iload X5 hx (hb hby at_52) rfl ?_
  refine own_castore X5 hx hZ N5 e5 V5' ⟨by decide, by decide⟩ (i := 1) rfl (by first | decide | (simp; done)) ge_b3 (hb hby at_54) (fun T7 h7 lc7 X7 e7 N7 W7 V7 => ?_)
  have E8_b1 := E6_b1.wr W7
  have F8_coder_b1 := F6_coder_b1.other W7 (Or.inl ne_b1_b3)
  have F8_value_b1 := F6_value_b1.other W7 (Or.inl ne_b1_b3)
  have O8 := O6.wr W7 ge_b3
  have KC8 := KC6.wr W7 (Or.inr sz_b3)
  have V7' : Arv Z h7 b3 k3 .char (2 : Int32) [(.int (nar .char (p1 &&& (255 : Int32)))), (.int (nar .char (((p1.toUInt32 >>> ((8 : Int32) &&& 31).toUInt32).toInt32) &&& (255 : Int32))))] (.int (0 : Int32)) := V7
  show Goes _ _ _ _ _ _ (T7.setTop (mkF m 55 #[.val (.int p1), .val (.int p2), .val (.int p3), .val (.int p4), .val (.int (p1 &&& (255 : Int32))), .val (.int (((p1.toUInt32 >>> ((8 : Int32) &&& 31).toUInt32).toInt32) &&& (255 : Int32))), .val (.int (p2 &&& (255 : Int32))), .val (.int (((p2.toUInt32 >>> ((8 : Int32) &&& 31).toUInt32).toInt32) &&& (255 : Int32))), .unset, .unset, .unset] [(.ref b3), (.ref b1), (.ref b1)]))
  have VA9 : Arv Z h7 b3 k3 .char (2 : Int32) [(.int (p1 &&& (255 : Int32))), (.int (((p1.toUInt32 >>> ((8 : Int32) &&& 31).toUInt32).toInt32) &&& (255 : Int32)))] (.int (0 : Int32)) := by
    have V := V7'
    rw [own_nar (own_ch _), own_nar (own_ch _)] at V
    exact V
  refine own_strNew X7 hx hZ hown (own_w hw 4 rfl) (own_w hw 5 rfl) (own_w hw 6 rfl) (own_wNew hw) (own_w hw 1 rfl) (cs := [(p1 &&& (255 : Int32)), (((p1.toUInt32 >>> ((8 : Int32) &&& 31).toUInt32).toInt32) &&& (255 : Int32))]) N7 e7 ge_b1 (own_sz O8) E8_b1 F8_value_b1 F8_coder_b1 (n := 2) rfl (by decide +kernel) VA9 (z6.ext O8.2) hzc (by decide) (by decide) (own_pr2 (own_ch _) (own_ch _)) (W := 1) (rest := [(.ref b1)]) (by decide) (by decide) (by rw [hml]; rfl) (Nat.le_of_eq rfl) (by decide) (by decide) (hb hby at_55) (fun T9 lc9 h9 X9 e9 N9 K9 I9 => ?_)
  have E10_b1 := E8_b1.keep K9
  have O10 := O8.keep K9 (allS ge_b1 all0)
  have KC10 := KC8.trans K9 (allS (Or.inr sz_b1) all0)
  obtain ⟨t9, kb9, UE9, UV9, UC9, UA9, -⟩ := id I9
  refine own_astore X9 hx (Ls' := #[.val (.int p1), .val (.int p2), .val (.int p3), .val (.int p4), .val (.int (p1 &&& (255 : Int32))), .val (.int (((p1.toUInt32 >>> ((8 : Int32) &&& 31).toUInt32).toInt32) &&& (255 : Int32))), .val (.int (p2 &&& (255 : Int32))), .val (.int (((p2.toUInt32 >>> ((8 : Int32) &&& 31).toUInt32).toInt32) &&& (255 : Int32))), .val (.ref b1), .unset, .unset]) (hb hby at_58) rfl rfl ?_
  refine own_new X9 hx hZ hown (own_w hw 0 rfl) (own_w hw 1 rfl) (own_w hw 2 rfl) e9 (hb hby at_60) (by decide) (by decide) (fun T11 h11 b11 g11 X11 e11 E11 A11 D11 => ?_)
  have ne_t9_b11 : t9 ≠ b11 := Nat.ne_of_lt (Nat.lt_of_lt_of_le UA9.lt (Nat.le_of_eq g11.symm))
  have ne_b1_b11 : b1 ≠ b11 := Nat.ne_of_lt (Nat.lt_of_lt_of_le E10_b1.lt (Nat.le_of_eq g11.symm))
  have ge_b11 : n0 ≤ b11 := Nat.le_trans (own_sz O10) (Nat.le_of_eq g11.symm)
  have sz_b11 : h0.size ≤ b11 := Nat.le_trans KC10.1 (Nat.le_of_eq g11.symm)
  have E12_b1 := E10_b1.ext E11
  have F12_value_b1 := UV9.ext E11
  have F12_coder_b1 := UC9.ext E11
  have A12_t9 := UA9.ext E11
  have O12 := O10.ext E11
  have KC12 := KC10.ext E11
  have F11_coder_b11 : Fld Z h11 b11 "java/lang/String" "coder" "B" (.int (0 : Int32)) := D11 (Or.inr (own_w hw 27 rfl)) (ty := .byte) (by decide)
  have F11_value_b11 : Fld Z h11 b11 "java/lang/String" "value" "[B" .null := D11 (Or.inr (own_w hw 29 rfl)) (ty := (.array .byte)) (by decide)
  refine own_dup X11 hx (hb hby at_63) rfl ?_
  refine own_iconst X11 hx (v := (2 : Int32)) (hb hby at_64) rfl ?_
  refine own_newP X11 hx hZ (own_w hw 3 rfl) e11 (hb hby at_65) (by decide) (cap := 2) (by decide) (by decide) (by decide) (by decide) (fun T13 h13 b13 k13 g13 X13 e13 E13 A13 => ?_)
  have ne_b11_b13 : b11 ≠ b13 := Nat.ne_of_lt (Nat.lt_of_lt_of_le A11.lt (Nat.le_of_eq g13.symm))
  have ne_t9_b13 : t9 ≠ b13 := Nat.ne_of_lt (Nat.lt_of_lt_of_le A12_t9.lt (Nat.le_of_eq g13.symm))
  have ne_b1_b13 : b1 ≠ b13 := Nat.ne_of_lt (Nat.lt_of_lt_of_le E12_b1.lt (Nat.le_of_eq g13.symm))
  have ge_b13 : n0 ≤ b13 := Nat.le_trans (own_sz O12) (Nat.le_of_eq g13.symm)
  have sz_b13 : h0.size ≤ b13 := Nat.le_trans KC12.1 (Nat.le_of_eq g13.symm)
  have E14_b1 := E12_b1.ext E13
  have E14_b11 := A11.ext E13
  have F14_value_b1 := F12_value_b1.ext E13
  have F14_coder_b1 := F12_coder_b1.ext E13
  have F14_coder_b11 := F11_coder_b11.ext E13
  have F14_value_b11 := F11_value_b11.ext E13
  have A14_t9 := A12_t9.ext E13
  have O14 := O12.ext E13
  have KC14 := KC12.ext E13
  have V13 : Arv Z h13 b13 k13 .char (2 : Int32) [(.int (0 : Int32)), (.int (0 : Int32))] (.int (0 : Int32)) := A13.pad (pad_rep [] (.int (0 : Int32)) 2)
  refine own_dup X13 hx (hb hby at_67) rfl ?_
  refine own_iconst X13 hx (v := (0 : Int32)) (hb hby at_68) rfl ?_
  refine own_iload X13 hx (hb hby at_69) rfl ?_
  refine own_castore X13 hx hZ N9 e13 V13 ⟨by decide, by decide⟩ (i := 0) rfl (by first | decide | (simp; done)) ge_b13 (hb hby at_71) (fun T15 h15 lc15 X15 e15 N15 W15 V15 => ?_)
  have E16_b1 := E14_b1.wr W15
  have E16_b11 := E14_b11.wr W15
  have F16_value_b1 := F14_value_b1.other W15 (Or.inl ne_b1_b13)
  have F16_coder_b1 := F14_coder_b1.other W15 (Or.inl ne_b1_b13)
  have F16_coder_b11 := F14_coder_b11.other W15 (Or.inl ne_b11_b13)
  have F16_value_b11 := F14_value_b11.other W15 (Or.inl ne_b11_b13)
  have A16_t9 := A14_t9.other W15 ne_t9_b13
  have O16 := O14.wr W15 ge_b13
  have KC16 := KC14.wr W15 (Or.inr sz_b13)
  have V15' : Arv Z h15 b13 k13 .char (2 : Int32) [(.int (nar .char (p2 &&& (255 : Int32)))), (.int (0 : Int32))] (.int (0 : Int32)) := V15
  refine own_dup X15 hx (hb hby at_72) rfl ?_
  refine own_iconst X15 hx (v := (1 : Int32)) (hb hby at_73) rfl ?_
  refine own_iload X15 hx (hb hby at_74) rfl ?_
  refine own_castore X15 hx hZ N15 e15 V15' ⟨by decide, by decide⟩ (i := 1) rfl (by first | decide | (simp; done)) ge_b13 (hb hby at_76) (fun T17 h17 lc17 X17 e17 N17 W17 V17 => ?_)
  have E18_b1 := E16_b1.wr W17
  have E18_b11 := E16_b11.wr W17
  have F18_value_b1 := F16_value_b1.other W17 (Or.inl ne_b1_b13)
  have F18_coder_b1 := F16_coder_b1.other W17 (Or.inl ne_b1_b13)
  have F18_coder_b11 := F16_coder_b11.other W17 (Or.inl ne_b11_b13)
  have F18_value_b11 := F16_value_b11.other W17 (Or.inl ne_b11_b13)
  have A18_t9 := A16_t9.other W17 ne_t9_b13
  have O18 := O16.wr W17 ge_b13
  have KC18 := KC16.wr W17 (Or.inr sz_b13)
  have V17' : Arv Z h17 b13 k13 .char (2 : Int32) [(.int (nar .char (p2 &&& (255 : Int32)))), (.int (nar .char (((p2.toUInt32 >>> ((8 : Int32) &&& 31).toUInt32).toInt32) &&& (255 : Int32))))] (.int (0 : Int32)) := V17
  show Goes _ _ _ _ _ _ (T17.setTop (mkF m 77 #[.val (.int p1), .val (.int p2), .val (.int p3), .val (.int p4), .val (.int (p1 &&& (255 : Int32))), .val (.int (((p1.toUInt32 >>> ((8 : Int32) &&& 31).toUInt32).toInt32) &&& (255 : Int32))), .val (.int (p2 &&& (255 : Int32))), .val (.int (((p2.toUInt32 >>> ((8 : Int32) &&& 31).toUInt32).toInt32) &&& (255 : Int32))), .val (.ref b1), .unset, .unset] [(.ref b13), (.ref b11), (.ref b11)]))
  have VA19 : Arv Z h17 b13 k13 .char (2 : Int32) [(.int (p2 &&& (255 : Int32))), (.int (((p2.toUInt32 >>> ((8 : Int32) &&& 31).toUInt32).toInt32) &&& (255 : Int32)))] (.int (0 : Int32)) := by
    have V := V17'
    rw [own_nar (own_ch _), own_nar (own_ch _)] at V
    exact V
  refine own_strNew X17 hx hZ hown (own_w hw 4 rfl) (own_w hw 5 rfl) (own_w hw 6 rfl) (own_wNew hw) (own_w hw 1 rfl) (cs := [(p2 &&& (255 : Int32)), (((p2.toUInt32 >>> ((8 : Int32) &&& 31).toUInt32).toInt32) &&& (255 : Int32))]) N17 e17 ge_b11 (own_sz O18) E18_b11 F18_value_b11 F18_coder_b11 (n := 2) rfl (by decide +kernel) VA19 (z6.ext O18.2) hzc (by decide) (by decide) (own_pr2 (own_ch _) (own_ch _)) (W := 1) (rest := [(.ref b11)]) (by decide) (by decide) (by rw [hml]; rfl) (Nat.le_of_eq rfl) (by decide) (by decide) (hb hby at_77) (fun T19 lc19 h19 X19 e19 N19 K19 I19 => ?_)
  have E20_b1 := E18_b1.keep K19
  have E20_b11 := E18_b11.keep K19
  have F20_value_b1 := F18_value_b1.keep K19 (ninS ne_b1_b11 nin0)
  have F20_coder_b1 := F18_coder_b1.keep K19 (ninS ne_b1_b11 nin0)
  have A20_t9 := A18_t9.keep K19 (ninS ne_t9_b11 nin0)
  have O20 := O18.keep K19 (allS ge_b11 all0)
  have KC20 := KC18.trans K19 (allS (Or.inr sz_b11) all0)
  obtain ⟨t19, kb19, UE19, UV19, UC19, UA19, -⟩ := id I19
  refine own_astore X19 hx (Ls' := #[.val (.int p1), .val (.int p2), .val (.int p3), .val (.int p4), .val (.int (p1 &&& (255 : Int32))), .val (.int (((p1.toUInt32 >>> ((8 : Int32) &&& 31).toUInt32).toInt32) &&& (255 : Int32))), .val (.int (p2 &&& (255 : Int32))), .val (.int (((p2.toUInt32 >>> ((8 : Int32) &&& 31).toUInt32).toInt32) &&& (255 : Int32))), .val (.ref b1), .val (.ref b11), .unset]) (hb hby at_80) rfl rfl ?_
  refine own_aload X19 hx (hb hby at_82) rfl rfl ?_
  refine own_iloadN X19 hx (hb hby at_84) rfl ?_
  refine own_iloadN X19 hx (hb hby at_85) rfl ?_
  refine own_aload X19 hx (hb hby at_86) rfl rfl ?_
  show Goes _ _ _ _ _ _ (T19.setTop (mkF m 88 #[.val (.int p1), .val (.int p2), .val (.int p3), .val (.int p4), .val (.int (p1 &&& (255 : Int32))), .val (.int (((p1.toUInt32 >>> ((8 : Int32) &&& 31).toUInt32).toInt32) &&& (255 : Int32))), .val (.int (p2 &&& (255 : Int32))), .val (.int (((p2.toUInt32 >>> ((8 : Int32) &&& 31).toUInt32).toInt32) &&& (255 : Int32))), .val (.ref b1), .val (.ref b11), .unset] [(.ref b11), (.int p4), (.int p3), (.ref b1)]))
  have Cc21 := C0.trans (CHr.keep KC20 (by simp) C0.1)
  refine own_callSH X19 hx hZ hown hS0 (Nat.zero_le _) (y := (⟨"com/example/gantry/gantry/descriptor/DescriptorException", "message", "(Ljava/lang/String;IILjava/lang/String;)Ljava/lang/String;"⟩ : MethodName)) (own_w hw 30 rfl) (own_w hw 31 rfl) (own_w hw 32 rfl) (own_w hw 33 rfl) hEL Cc21.1 (by decide) (W := 0) (by decide) (by decide) N19 e19 (by rw [hml]; rfl) (argsL := [(.ref b1), (.int p3), (.int p4), (.ref b11)]) (rest := []) (lenOf pd_30 rfl) (Nat.le_of_eq rfl) (by decide) (by decide) (rm7 l Z a0 hw hEL [] b1 p3 p4 b11 t9 kb9 [(p1 &&& (255 : Int32)), (((p1.toUInt32 >>> ((8 : Int32) &&& 31).toUInt32).toInt32) &&& (255 : Int32))] t19 kb19 [(p2 &&& (255 : Int32)), (((p2.toUInt32 >>> ((8 : Int32) &&& 31).toUInt32).toInt32) &&& (255 : Int32))] w_DigitOnes w_DigitTens zc fm k_ones k_tens h19 n0 O20 ⟨z0, z1, z2, z3, z4, z5, z6, hzc, z8, hfm, trivial⟩ E20_b1 F20_value_b1 F20_coder_b1 A20_t9 E20_b11 UV19 UC19 UA19 rfl rfl) rfl (hb hby at_88) ?_
  intro v22 T22 lc22 k1_22 X22 hS22 hk22_ hZ hown N22 D22 hQ22
  have CC22 := Cc21.trans D22
  obtain ⟨x_22, an_22, kn_22, rfl, K22, r22_0, r22_1, r22_2, r22_3⟩ := hQ22
  have O23 := O20.keep K22 all0
  have KC23 := KC20.trans K22 all0
  have KB24 := Keep.refl T22.heap []
  show Goes _ _ _ _ _ _ (T22.setTop (mkF m 91 #[.val (.int p1), .val (.int p2), .val (.int p3), .val (.int p4), .val (.int (p1 &&& (255 : Int32))), .val (.int (((p1.toUInt32 >>> ((8 : Int32) &&& 31).toUInt32).toInt32) &&& (255 : Int32))), .val (.int (p2 &&& (255 : Int32))), .val (.int (((p2.toUInt32 >>> ((8 : Int32) &&& 31).toUInt32).toInt32) &&& (255 : Int32))), .val (.ref b1), .val (.ref b11), .unset] [(.ref x_22)]))
  have VM25 : Arv Z T22.heap an_22 kn_22 .byte (Int32.ofNat (msg p1 p2 p3 p4).length) (bl (msg p1 p2 p3 p4)) (.int (0 : Int32)) := r22_3
  refine own_astore X22 hx (Ls' := #[.val (.int p1), .val (.int p2), .val (.int p3), .val (.int p4), .val (.int (p1 &&& (255 : Int32))), .val (.int (((p1.toUInt32 >>> ((8 : Int32) &&& 31).toUInt32).toInt32) &&& (255 : Int32))), .val (.int (p2 &&& (255 : Int32))), .val (.int (((p2.toUInt32 >>> ((8 : Int32) &&& 31).toUInt32).toInt32) &&& (255 : Int32))), .val (.ref b1), .val (.ref b11), .val (.ref x_22)]) (hb hby at_91) rfl rfl ?_
  refine own_aload X22 hx (hb hby at_93) rfl rfl ?_
  refine own_virtual X22 hx hZ hown (y := (⟨"java/lang/String", "length", "()I"⟩ : MethodName)) (z := (⟨"java/lang/String", "length", "()I"⟩ : MethodName)) (own_w hw 169 rfl) (own_w hw 63 rfl) (notFace_of_selects (args := #[]) (mvT hZ (own_w hw 65 rfl))) (own_w hw 65 rfl) (own_w hw 64 rfl) (own_w hw 2 rfl) (own_w hw 66 rfl) (a := x_22) r22_0 (by decide) (W := 0) (by decide) (by decide) N22 rfl (by rw [hml]; rfl) (argsL := []) (rest := []) (lenOf pd_8 rfl) (Nat.le_of_eq rfl) (by decide) (by decide) (rm12 l Z a0 hw [] x_22 an_22 kn_22 (msg p1 p2 p3 p4) w_DigitOnes w_DigitTens zc fm k_ones k_tens T22.heap n0 O23 ⟨z0, z1, z2, z3, z4, z5, z6, hzc, z8, hfm, trivial⟩ r22_0 r22_1 r22_2 VM25) rfl (hb hby at_95) ?_
  intro v26 T26 lc26 X26 N26 hQ26
  obtain ⟨rfl, e26⟩ := hQ26
  refine own_iloadN X26 hx (hb hby at_98) rfl ?_
  refine own_iloadN X26 hx (hb hby at_99) rfl ?_
  refine own_callS X26 hx hZ hown (y := (⟨"com/example/gantry/gantry/descriptor/DescriptorExceptionMessagePinLaw", "totalLen", "(II)I"⟩ : MethodName)) (own_w hw 170 rfl) (own_w hw 171 rfl) (own_w hw 172 rfl) (own_w hw 173 rfl) (by decide) (W := 1) (by decide) (by decide) N26 e26 (by rw [hml]; rfl) (argsL := [(.int p3), (.int p4)]) (rest := [(.int (Int32.ofNat (msg p1 p2 p3 p4).length))]) (lenOf pd_2 rfl) (Nat.le_of_eq rfl) (by decide) (by decide) (rm34 l Z a0 hw [] p3 p4 T22.heap n0 O23) rfl (hb hby at_100) ?_
  intro v27 T27 lc27 X27 N27 hQ27
  obtain ⟨rfl, e27⟩ := hQ27
  refine own_icmpYes X27 hx (pc' := 108) (hb hby at_103) (teq ((by rw [msg_len]) : (Int32.ofNat (msg p1 p2 p3 p4).length) = (Int32.ofNat (6 + (posL p3 p4).length)))).1 (by decide) (by decide) ?_
  refine own_aload X27 hx (hb hby at_108) rfl rfl ?_
  refine own_iconst X27 hx (v := (0 : Int32)) (hb hby at_110) rfl ?_
  refine own_iloadN X27 hx (hb hby at_111) rfl ?_
  refine own_iloadN X27 hx (hb hby at_112) rfl ?_
  refine own_iloadN X27 hx (hb hby at_113) rfl ?_
  show Goes _ _ _ _ _ _ (T27.setTop (mkF m 114 #[.val (.int p1), .val (.int p2), .val (.int p3), .val (.int p4), .val (.int (p1 &&& (255 : Int32))), .val (.int (((p1.toUInt32 >>> ((8 : Int32) &&& 31).toUInt32).toInt32) &&& (255 : Int32))), .val (.int (p2 &&& (255 : Int32))), .val (.int (((p2.toUInt32 >>> ((8 : Int32) &&& 31).toUInt32).toInt32) &&& (255 : Int32))), .val (.ref b1), .val (.ref b11), .val (.ref x_22)] [(.int p3), (.int p2), (.int p1), (.int (0 : Int32)), (.ref x_22)]))
  refine own_iloadN X27 hx (hb hby at_114) rfl ?_
  refine own_callS X27 hx hZ hown (y := (⟨"com/example/gantry/gantry/descriptor/DescriptorExceptionMessagePinLaw", "ok4", "(Ljava/lang/String;IIIII)Z"⟩ : MethodName)) (own_w hw 177 rfl) (own_w hw 178 rfl) (own_w hw 172 rfl) (own_w hw 179 rfl) (by decide) (W := 0) (by decide) (by decide) N27 e27 (by rw [hml]; rfl) (argsL := [(.ref x_22), (.int (0 : Int32)), (.int p1), (.int p2), (.int p3), (.int p4)]) (rest := []) (lenOf pd_29 rfl) (Nat.le_of_eq rfl) (by decide) (by decide) (rm36 l Z a0 hw [] x_22 (0 : Int32) p1 p2 p3 p4 an_22 kn_22 w_DigitOnes w_DigitTens zc fm k_ones k_tens T22.heap n0 O23 ⟨z0, z1, z2, z3, z4, z5, z6, hzc, z8, hfm, trivial⟩ r22_0 r22_1 r22_2 VM25 (by decide)) rfl (hb hby at_115) ?_
  intro v28 T28 lc28 X28 N28 hQ28
  obtain ⟨rfl, K28⟩ := hQ28
  have E29_x_22 := r22_0.keep K28
  have F29_value_x_22 := r22_1.keep K28 nin0
  have F29_coder_x_22 := r22_2.keep K28 nin0
  have A29_an_22 := VM25.keep K28 nin0
  have O29 := O23.keep K28 all0
  have hk29 := Nat.le_trans hk22_ K28.1
  have KC29 := KB24.trans K28 all0
  refine own_ifNo X28 hx (hb hby at_118) ((if0 _ _).trans (feq (by decide : ¬ ((1 : Int32) = (0 : Int32)))).1) ?_
  refine own_aload X28 hx (hb hby at_121) rfl rfl ?_
  refine own_iconst X28 hx (v := (4 : Int32)) (hb hby at_123) rfl ?_
  refine own_iloadN X28 hx (hb hby at_124) rfl ?_
  refine own_iloadN X28 hx (hb hby at_125) rfl ?_
  refine own_iloadN X28 hx (hb hby at_126) rfl ?_
  show Goes _ _ _ _ _ _ (T28.setTop (mkF m 127 #[.val (.int p1), .val (.int p2), .val (.int p3), .val (.int p4), .val (.int (p1 &&& (255 : Int32))), .val (.int (((p1.toUInt32 >>> ((8 : Int32) &&& 31).toUInt32).toInt32) &&& (255 : Int32))), .val (.int (p2 &&& (255 : Int32))), .val (.int (((p2.toUInt32 >>> ((8 : Int32) &&& 31).toUInt32).toInt32) &&& (255 : Int32))), .val (.ref b1), .val (.ref b11), .val (.ref x_22)] [(.int p3), (.int p2), (.int p1), (.int (4 : Int32)), (.ref x_22)]))
  refine own_iloadN X28 hx (hb hby at_127) rfl ?_
  refine own_callS X28 hx hZ hown (y := (⟨"com/example/gantry/gantry/descriptor/DescriptorExceptionMessagePinLaw", "ok4", "(Ljava/lang/String;IIIII)Z"⟩ : MethodName)) (own_w hw 177 rfl) (own_w hw 178 rfl) (own_w hw 172 rfl) (own_w hw 179 rfl) (by decide) (W := 0) (by decide) (by decide) N28 rfl (by rw [hml]; rfl) (argsL := [(.ref x_22), (.int (4 : Int32)), (.int p1), (.int p2), (.int p3), (.int p4)]) (rest := []) (lenOf pd_29 rfl) (Nat.le_of_eq rfl) (by decide) (by decide) (rm36 l Z a0 hw [] x_22 (4 : Int32) p1 p2 p3 p4 an_22 kn_22 w_DigitOnes w_DigitTens zc fm k_ones k_tens T28.heap n0 O29 ⟨z0, z1, z2, z3, z4, z5, z6, hzc, z8, hfm, trivial⟩ E29_x_22 F29_value_x_22 F29_coder_x_22 A29_an_22 (by decide)) rfl (hb hby at_128) ?_
  intro v30 T30 lc30 X30 N30 hQ30
  obtain ⟨rfl, K30⟩ := hQ30
  have E31_x_22 := E29_x_22.keep K30
  have F31_value_x_22 := F29_value_x_22.keep K30 nin0
  have F31_coder_x_22 := F29_coder_x_22.keep K30 nin0
  have A31_an_22 := A29_an_22.keep K30 nin0
  have O31 := O29.keep K30 all0
  have hk31 := Nat.le_trans hk29 K30.1
  have KC31 := KC29.trans K30 all0
  refine own_ifNo X30 hx (hb hby at_131) ((if0 _ _).trans (feq (by decide : ¬ ((1 : Int32) = (0 : Int32)))).1) ?_
  refine own_aload X30 hx (hb hby at_134) rfl rfl ?_
  refine own_bipush X30 hx (v := (8 : Int32)) (hb hby at_136) rfl ?_
  refine own_iloadN X30 hx (hb hby at_138) rfl ?_
  refine own_iloadN X30 hx (hb hby at_139) rfl ?_
  refine own_iloadN X30 hx (hb hby at_140) rfl ?_
  show Goes _ _ _ _ _ _ (T30.setTop (mkF m 141 #[.val (.int p1), .val (.int p2), .val (.int p3), .val (.int p4), .val (.int (p1 &&& (255 : Int32))), .val (.int (((p1.toUInt32 >>> ((8 : Int32) &&& 31).toUInt32).toInt32) &&& (255 : Int32))), .val (.int (p2 &&& (255 : Int32))), .val (.int (((p2.toUInt32 >>> ((8 : Int32) &&& 31).toUInt32).toInt32) &&& (255 : Int32))), .val (.ref b1), .val (.ref b11), .val (.ref x_22)] [(.int p3), (.int p2), (.int p1), (.int (8 : Int32)), (.ref x_22)]))
  refine own_iloadN X30 hx (hb hby at_141) rfl ?_
  refine own_callS X30 hx hZ hown (y := (⟨"com/example/gantry/gantry/descriptor/DescriptorExceptionMessagePinLaw", "ok4", "(Ljava/lang/String;IIIII)Z"⟩ : MethodName)) (own_w hw 177 rfl) (own_w hw 178 rfl) (own_w hw 172 rfl) (own_w hw 179 rfl) (by decide) (W := 0) (by decide) (by decide) N30 rfl (by rw [hml]; rfl) (argsL := [(.ref x_22), (.int (8 : Int32)), (.int p1), (.int p2), (.int p3), (.int p4)]) (rest := []) (lenOf pd_29 rfl) (Nat.le_of_eq rfl) (by decide) (by decide) (rm36 l Z a0 hw [] x_22 (8 : Int32) p1 p2 p3 p4 an_22 kn_22 w_DigitOnes w_DigitTens zc fm k_ones k_tens T30.heap n0 O31 ⟨z0, z1, z2, z3, z4, z5, z6, hzc, z8, hfm, trivial⟩ E31_x_22 F31_value_x_22 F31_coder_x_22 A31_an_22 (by decide)) rfl (hb hby at_142) ?_
  intro v32 T32 lc32 X32 N32 hQ32
  obtain ⟨rfl, K32⟩ := hQ32
  have E33_x_22 := E31_x_22.keep K32
  have F33_value_x_22 := F31_value_x_22.keep K32 nin0
  have F33_coder_x_22 := F31_coder_x_22.keep K32 nin0
  have A33_an_22 := A31_an_22.keep K32 nin0
  have O33 := O31.keep K32 all0
  have hk33 := Nat.le_trans hk31 K32.1
  have KC33 := KC31.trans K32 all0
  refine own_ifNo X32 hx (hb hby at_145) ((if0 _ _).trans (feq (by decide : ¬ ((1 : Int32) = (0 : Int32)))).1) ?_
  refine own_aload X32 hx (hb hby at_148) rfl rfl ?_
  refine own_bipush X32 hx (v := (12 : Int32)) (hb hby at_150) rfl ?_
  refine own_iloadN X32 hx (hb hby at_152) rfl ?_
  refine own_iloadN X32 hx (hb hby at_153) rfl ?_
  refine own_iloadN X32 hx (hb hby at_154) rfl ?_
  show Goes _ _ _ _ _ _ (T32.setTop (mkF m 155 #[.val (.int p1), .val (.int p2), .val (.int p3), .val (.int p4), .val (.int (p1 &&& (255 : Int32))), .val (.int (((p1.toUInt32 >>> ((8 : Int32) &&& 31).toUInt32).toInt32) &&& (255 : Int32))), .val (.int (p2 &&& (255 : Int32))), .val (.int (((p2.toUInt32 >>> ((8 : Int32) &&& 31).toUInt32).toInt32) &&& (255 : Int32))), .val (.ref b1), .val (.ref b11), .val (.ref x_22)] [(.int p3), (.int p2), (.int p1), (.int (12 : Int32)), (.ref x_22)]))
  refine own_iloadN X32 hx (hb hby at_155) rfl ?_
  refine own_callS X32 hx hZ hown (y := (⟨"com/example/gantry/gantry/descriptor/DescriptorExceptionMessagePinLaw", "ok4", "(Ljava/lang/String;IIIII)Z"⟩ : MethodName)) (own_w hw 177 rfl) (own_w hw 178 rfl) (own_w hw 172 rfl) (own_w hw 179 rfl) (by decide) (W := 0) (by decide) (by decide) N32 rfl (by rw [hml]; rfl) (argsL := [(.ref x_22), (.int (12 : Int32)), (.int p1), (.int p2), (.int p3), (.int p4)]) (rest := []) (lenOf pd_29 rfl) (Nat.le_of_eq rfl) (by decide) (by decide) (rm36 l Z a0 hw [] x_22 (12 : Int32) p1 p2 p3 p4 an_22 kn_22 w_DigitOnes w_DigitTens zc fm k_ones k_tens T32.heap n0 O33 ⟨z0, z1, z2, z3, z4, z5, z6, hzc, z8, hfm, trivial⟩ E33_x_22 F33_value_x_22 F33_coder_x_22 A33_an_22 (by decide)) rfl (hb hby at_156) ?_
  intro v34 T34 lc34 X34 N34 hQ34
  obtain ⟨rfl, K34⟩ := hQ34
  have E35_x_22 := E33_x_22.keep K34
  have F35_value_x_22 := F33_value_x_22.keep K34 nin0
  have F35_coder_x_22 := F33_coder_x_22.keep K34 nin0
  have A35_an_22 := A33_an_22.keep K34 nin0
  have O35 := O33.keep K34 all0
  have hk35 := Nat.le_trans hk33 K34.1
  have KC35 := KC33.trans K34 all0
  refine own_ifNo X34 hx (hb hby at_159) ((if0 _ _).trans (feq (by decide : ¬ ((1 : Int32) = (0 : Int32)))).1) ?_
  refine own_aload X34 hx (hb hby at_162) rfl rfl ?_
  refine own_bipush X34 hx (v := (16 : Int32)) (hb hby at_164) rfl ?_
  refine own_iloadN X34 hx (hb hby at_166) rfl ?_
  refine own_iloadN X34 hx (hb hby at_167) rfl ?_
  refine own_iloadN X34 hx (hb hby at_168) rfl ?_
  show Goes _ _ _ _ _ _ (T34.setTop (mkF m 169 #[.val (.int p1), .val (.int p2), .val (.int p3), .val (.int p4), .val (.int (p1 &&& (255 : Int32))), .val (.int (((p1.toUInt32 >>> ((8 : Int32) &&& 31).toUInt32).toInt32) &&& (255 : Int32))), .val (.int (p2 &&& (255 : Int32))), .val (.int (((p2.toUInt32 >>> ((8 : Int32) &&& 31).toUInt32).toInt32) &&& (255 : Int32))), .val (.ref b1), .val (.ref b11), .val (.ref x_22)] [(.int p3), (.int p2), (.int p1), (.int (16 : Int32)), (.ref x_22)]))
  refine own_iloadN X34 hx (hb hby at_169) rfl ?_
  refine own_callS X34 hx hZ hown (y := (⟨"com/example/gantry/gantry/descriptor/DescriptorExceptionMessagePinLaw", "ok4", "(Ljava/lang/String;IIIII)Z"⟩ : MethodName)) (own_w hw 177 rfl) (own_w hw 178 rfl) (own_w hw 172 rfl) (own_w hw 179 rfl) (by decide) (W := 0) (by decide) (by decide) N34 rfl (by rw [hml]; rfl) (argsL := [(.ref x_22), (.int (16 : Int32)), (.int p1), (.int p2), (.int p3), (.int p4)]) (rest := []) (lenOf pd_29 rfl) (Nat.le_of_eq rfl) (by decide) (by decide) (rm36 l Z a0 hw [] x_22 (16 : Int32) p1 p2 p3 p4 an_22 kn_22 w_DigitOnes w_DigitTens zc fm k_ones k_tens T34.heap n0 O35 ⟨z0, z1, z2, z3, z4, z5, z6, hzc, z8, hfm, trivial⟩ E35_x_22 F35_value_x_22 F35_coder_x_22 A35_an_22 (by decide)) rfl (hb hby at_170) ?_
  intro v36 T36 lc36 X36 N36 hQ36
  obtain ⟨rfl, K36⟩ := hQ36
  have E37_x_22 := E35_x_22.keep K36
  have F37_value_x_22 := F35_value_x_22.keep K36 nin0
  have F37_coder_x_22 := F35_coder_x_22.keep K36 nin0
  have A37_an_22 := A35_an_22.keep K36 nin0
  have O37 := O35.keep K36 all0
  have hk37 := Nat.le_trans hk35 K36.1
  have KC37 := KC35.trans K36 all0
  refine own_ifNo X36 hx (hb hby at_173) ((if0 _ _).trans (feq (by decide : ¬ ((1 : Int32) = (0 : Int32)))).1) ?_
  refine own_aload X36 hx (hb hby at_176) rfl rfl ?_
  refine own_bipush X36 hx (v := (20 : Int32)) (hb hby at_178) rfl ?_
  refine own_iloadN X36 hx (hb hby at_180) rfl ?_
  refine own_iloadN X36 hx (hb hby at_181) rfl ?_
  refine own_iloadN X36 hx (hb hby at_182) rfl ?_
  show Goes _ _ _ _ _ _ (T36.setTop (mkF m 183 #[.val (.int p1), .val (.int p2), .val (.int p3), .val (.int p4), .val (.int (p1 &&& (255 : Int32))), .val (.int (((p1.toUInt32 >>> ((8 : Int32) &&& 31).toUInt32).toInt32) &&& (255 : Int32))), .val (.int (p2 &&& (255 : Int32))), .val (.int (((p2.toUInt32 >>> ((8 : Int32) &&& 31).toUInt32).toInt32) &&& (255 : Int32))), .val (.ref b1), .val (.ref b11), .val (.ref x_22)] [(.int p3), (.int p2), (.int p1), (.int (20 : Int32)), (.ref x_22)]))
  refine own_iloadN X36 hx (hb hby at_183) rfl ?_
  refine own_callS X36 hx hZ hown (y := (⟨"com/example/gantry/gantry/descriptor/DescriptorExceptionMessagePinLaw", "ok4", "(Ljava/lang/String;IIIII)Z"⟩ : MethodName)) (own_w hw 177 rfl) (own_w hw 178 rfl) (own_w hw 172 rfl) (own_w hw 179 rfl) (by decide) (W := 0) (by decide) (by decide) N36 rfl (by rw [hml]; rfl) (argsL := [(.ref x_22), (.int (20 : Int32)), (.int p1), (.int p2), (.int p3), (.int p4)]) (rest := []) (lenOf pd_29 rfl) (Nat.le_of_eq rfl) (by decide) (by decide) (rm36 l Z a0 hw [] x_22 (20 : Int32) p1 p2 p3 p4 an_22 kn_22 w_DigitOnes w_DigitTens zc fm k_ones k_tens T36.heap n0 O37 ⟨z0, z1, z2, z3, z4, z5, z6, hzc, z8, hfm, trivial⟩ E37_x_22 F37_value_x_22 F37_coder_x_22 A37_an_22 (by decide)) rfl (hb hby at_184) ?_
  intro v38 T38 lc38 X38 N38 hQ38
  obtain ⟨rfl, K38⟩ := hQ38
  have E39_x_22 := E37_x_22.keep K38
  have F39_value_x_22 := F37_value_x_22.keep K38 nin0
  have F39_coder_x_22 := F37_coder_x_22.keep K38 nin0
  have A39_an_22 := A37_an_22.keep K38 nin0
  have O39 := O37.keep K38 all0
  have hk39 := Nat.le_trans hk37 K38.1
  have KC39 := KC37.trans K38 all0
  refine own_ifNo X38 hx (hb hby at_187) ((if0 _ _).trans (feq (by decide : ¬ ((1 : Int32) = (0 : Int32)))).1) ?_
  refine own_aload X38 hx (hb hby at_190) rfl rfl ?_
  refine own_bipush X38 hx (v := (24 : Int32)) (hb hby at_192) rfl ?_
  refine own_iloadN X38 hx (hb hby at_194) rfl ?_
  refine own_iloadN X38 hx (hb hby at_195) rfl ?_
  refine own_iloadN X38 hx (hb hby at_196) rfl ?_
  show Goes _ _ _ _ _ _ (T38.setTop (mkF m 197 #[.val (.int p1), .val (.int p2), .val (.int p3), .val (.int p4), .val (.int (p1 &&& (255 : Int32))), .val (.int (((p1.toUInt32 >>> ((8 : Int32) &&& 31).toUInt32).toInt32) &&& (255 : Int32))), .val (.int (p2 &&& (255 : Int32))), .val (.int (((p2.toUInt32 >>> ((8 : Int32) &&& 31).toUInt32).toInt32) &&& (255 : Int32))), .val (.ref b1), .val (.ref b11), .val (.ref x_22)] [(.int p3), (.int p2), (.int p1), (.int (24 : Int32)), (.ref x_22)]))
  refine own_iloadN X38 hx (hb hby at_197) rfl ?_
  refine own_callS X38 hx hZ hown (y := (⟨"com/example/gantry/gantry/descriptor/DescriptorExceptionMessagePinLaw", "ok4", "(Ljava/lang/String;IIIII)Z"⟩ : MethodName)) (own_w hw 177 rfl) (own_w hw 178 rfl) (own_w hw 172 rfl) (own_w hw 179 rfl) (by decide) (W := 0) (by decide) (by decide) N38 rfl (by rw [hml]; rfl) (argsL := [(.ref x_22), (.int (24 : Int32)), (.int p1), (.int p2), (.int p3), (.int p4)]) (rest := []) (lenOf pd_29 rfl) (Nat.le_of_eq rfl) (by decide) (by decide) (rm36 l Z a0 hw [] x_22 (24 : Int32) p1 p2 p3 p4 an_22 kn_22 w_DigitOnes w_DigitTens zc fm k_ones k_tens T38.heap n0 O39 ⟨z0, z1, z2, z3, z4, z5, z6, hzc, z8, hfm, trivial⟩ E39_x_22 F39_value_x_22 F39_coder_x_22 A39_an_22 (by decide)) rfl (hb hby at_198) ?_
  intro v40 T40 lc40 X40 N40 hQ40
  obtain ⟨rfl, K40⟩ := hQ40
  have O41 := O39.keep K40 all0
  have hk41 := Nat.le_trans hk39 K40.1
  have KC41 := KC39.trans K40 all0
  refine own_ifNo X40 hx (hb hby at_201) ((if0 _ _).trans (feq (by decide : ¬ ((1 : Int32) = (0 : Int32)))).1) ?_
  refine own_iconst X40 hx (v := (1 : Int32)) (hb hby at_204) rfl ?_
  refine own_goto X40 hx (pc' := 209) (hb hby at_205) (by decide) (by decide) ?_
  show Goes _ _ _ _ _ _ (T40.setTop (mkF m 209 #[.val (.int p1), .val (.int p2), .val (.int p3), .val (.int p4), .val (.int (p1 &&& (255 : Int32))), .val (.int (((p1.toUInt32 >>> ((8 : Int32) &&& 31).toUInt32).toInt32) &&& (255 : Int32))), .val (.int (p2 &&& (255 : Int32))), .val (.int (((p2.toUInt32 >>> ((8 : Int32) &&& 31).toUInt32).toInt32) &&& (255 : Int32))), .val (.ref b1), .val (.ref b11), .val (.ref x_22)] [(.int (1 : Int32))]))
  have Cc42 := CC22.trans (CHr.keep KC41 (by simp) CC22.1)
  exact own_retNH X40 hx (t := .boolean) hS22 hk41 hZ hEL Cc42 N40 hlk (by decide) (by decide) hret (by simp) (hb hby at_209) (rfl)
set_option maxRecDepth 65536 in
set_option maxHeartbeats 40000000 in
theorem comes_1 {Post : Tables → Env → Array Value → State → Outcome → State → Prop} (hpost : ∀ tb e args s v u, (limb_1_1.after args s (.returned v) u = true ∧ limb_1_2.after args s (.returned v) u = true ∧ True) → ReturnedEndW s (.returned v) u (Jvm.fieldLocs frame_1_writes args s ++ Jvm.arrayLocs frame_1_arrays args s ++ Jvm.staticLocs frame_1_statics s) 88 3968 → Post tb e args s (.returned v) u) :
    ArmFor flags0 classFile x code maxLocals ret World_1 tables_1 room_1 Calls_1 rest_1 Pre_1 Post := by
  intro l hfl _ _ p e ha hc hk s m args below hf hA hF happ hP
  obtain ⟨hcalls, hrest, hpre⟩ := hP
  obtain ⟨-, -, -, hnamed, -, -, -, hat⟩ := (Spec.applies_iff hf).mp happ
  obtain ⟨hg, hn⟩ := and_e (Cond.before_iff.mp (show (Jvm.Cond.and given_1 narrow_1).before args s = true from hpre))
  obtain ⟨hg1a, hg1b⟩ := and_e hg
  obtain ⟨hg2a, hg2b⟩ := and_e hg1b
  obtain ⟨hg3a, hg3b⟩ := and_e hg2b
  obtain ⟨hg4a, hg4b⟩ := and_e hg3b
  obtain ⟨w0, w1, w2, w3, rfl⟩ : ∃ w0 w1 w2 w3 : Value, args = #[w0, w1, w2, w3] := by
    have hs : args.size = 4 := by simpa [Cond.value, given_1] using hg1a
    obtain ⟨L⟩ := args
    match L, hs with
    | [w0, w1, w2, w3], _ => exact ⟨w0, w1, w2, w3, rfl⟩
  have hw := fun d (hd : d ∈ tables_1) => atoms_spec (ws := Jvm.Cond.code x code maxLocals ret :: tables_1) hat d (List.mem_cons_of_mem _ hd)
  have hfit : Fit s := fun {y c} hc i hi => by
    obtain ⟨ha, rfl⟩ := Array.getElem?_eq_some_iff.mp hc
    have q := List.all_eq_true.mp ((Array.all_eq_true_iff_forall_mem.mp hF) _ (Array.getElem_mem ha)) i (List.mem_range.mpr hi)
    simpa [Array.getElem?_eq_getElem hi] using q
  obtain ⟨hsets, hown0⟩ := atoms_of _ (rest_1_c_eq ▸ (show rest_1_c.before _ s = true from hrest))
  obtain ⟨i0, ei0⟩ := is_v hg2a
  obtain rfl : w0 = (.int i0) := Option.some.inj ei0
  obtain ⟨i1, ei1⟩ := is_v hg3a
  obtain rfl : w1 = (.int i1) := Option.some.inj ei1
  obtain ⟨i2, ei2⟩ := is_v hg4a
  obtain rfl : w2 = (.int i2) := Option.some.inj ei2
  obtain ⟨i3, ei3⟩ := is_v hg4b
  obtain rfl : w3 = (.int i3) := Option.some.inj ei3
  obtain ⟨w_DigitOnes, ev_w_DigitOnes⟩ := exa_v (Cond.before_iff.mp (hsets _ (List.mem_of_getElem? (i := 12) rfl)))
  obtain ⟨w_DigitTens, ev_w_DigitTens⟩ := exa_v (Cond.before_iff.mp (hsets _ (List.mem_of_getElem? (i := 17) rfl)))
  have n3 := not_v (Cond.before_iff.mp (hsets _ (List.mem_of_getElem? (i := 2) rfl)))
  obtain ⟨zc, ezc⟩ := is_v (Cond.before_iff.mp (hsets _ (List.mem_of_getElem? (i := 1) rfl)))
  have hzc : ¬ (zc = (0 : Int32)) := gotF (Cond.eq_ints ezc (Term.int_eval (0))) n3
  obtain ⟨fm, efm, hfm⟩ := isR_v (Cond.before_iff.mp (hsets _ (List.mem_of_getElem? (i := 8) rfl)))
  obtain ⟨k_ones, hA_ones⟩ := own_dig (f := "DigitOnes") hfit ev_w_DigitOnes (Cond.before_iff.mp (hsets _ (List.mem_of_getElem? (i := 12) rfl))) (own_w hw 19 rfl) (own_eq (Cond.before_iff.mp (hsets _ (List.mem_of_getElem? (i := 13) rfl))) rfl) (F := fun r => 48 + r % 10) (fun r hr => by show _ = some (Value.int (Int32.ofNat (48 + r % 10))); rw [← Jvm.Free.SBG.ones_num r hr]; rfl) (Cond.before_iff.mp (hsets _ (List.mem_of_getElem? (i := 14) rfl)))
  obtain ⟨k_tens, hA_tens⟩ := own_dig (f := "DigitTens") hfit ev_w_DigitTens (Cond.before_iff.mp (hsets _ (List.mem_of_getElem? (i := 17) rfl))) (own_w hw 19 rfl) (own_eq (Cond.before_iff.mp (hsets _ (List.mem_of_getElem? (i := 18) rfl))) rfl) (F := fun r => 48 + r / 10) (fun r hr => by show _ = some (Value.int (Int32.ofNat (48 + r / 10))); rw [← Jvm.Free.SBG.tens_num r hr]; rfl) (Cond.before_iff.mp (hsets _ (List.mem_of_getElem? (i := 19) rfl)))
  have hEL : EW s _ consts_1 := (EW.cons (own_w hw 168 rfl) tx1_t.1 (EW.cons (own_w hw 218 rfl) tx2_t.1 (EW.cons (own_w hw 102 rfl) tx0_t.1 EW.nil)))
  have hCH : CHv s consts_1 s.vm s.heap := CHv.start hEL (fun p hp => hcalls.1 p hp) (hsets _ (List.mem_of_getElem? (i := 2) rfl)) (own_w hw 19 rfl) (own_w hw 1 rfl)
  obtain ⟨n, o, h1, h2, h3, v, L, rfl, ⟨N, hQ⟩, hq⟩ := rm0 l s _ hw hEL tables_1 i0 i1 i2 i3 w_DigitOnes w_DigitTens zc fm k_ones k_tens s.heap s.heap.size (Old.start s) ⟨Sta.start ev_w_DigitOnes (Or.inl (hsets _ (List.mem_of_getElem? (i := 11) rfl))), Exa.start ev_w_DigitOnes (Cond.before_iff.mp (hsets _ (List.mem_of_getElem? (i := 12) rfl))), Sta.start ev_w_DigitTens (Or.inl (hsets _ (List.mem_of_getElem? (i := 16) rfl))), Exa.start ev_w_DigitTens (Cond.before_iff.mp (hsets _ (List.mem_of_getElem? (i := 17) rfl))), hA_ones, hA_tens, Sta.start ezc (Or.inl (hsets _ (List.mem_of_getElem? (i := 0) rfl))), hzc, Sta.start efm (Or.inl (hsets _ (List.mem_of_getElem? (i := 7) rfl))), hfm, trivial⟩ p e ha hc hk s m _ below hf ((Spec.applies_iff_loose hf).mp happ).1 ⟨rfl, State.Warmed39.refl s, rfl, hCH⟩ trivial
  have hv : v = some (.int (1 : Int32)) := hQ
  subst hv
  replace hq := hq.2
  refine ⟨n, _, h1, h2, h3, hpost _ _ _ _ _ _ ⟨Cond.after_iff.mpr rfl, Cond.after_iff.mpr (eq_i res_at (Term.int_eval (1)) rfl), trivial⟩ ⟨hq.1, hq.2.1, hq.2.2.1, hq.2.2.2.sift fun y hy => Or.inr (N y hy)⟩⟩
theorem main_1_1 : Claimed_1_1 := comes_1 fun _ _ _ _ _ _ h hF => ⟨h.1, hF⟩
theorem main_1_2 : Claimed_1_2 := comes_1 fun _ _ _ _ _ _ h hF => ⟨h.2.1, hF⟩
end Jvm.Pilot.@@N@@
namespace Jvm.Pilot.@@N@@
open Jvm Jvm.ClassFile Sem Op Lib Jvm.Free Jvm.Stand Jvm.Pilot.@@N@@.Jvm.D
/-! MADE BY PROGRAM (witnessworld.py) out of the Statement's table words and the real class files: 30 classes; the members and pool entries that the words name. The judged class is class 1, her method 1. -/
namespace start1
open Jvm.ClassFile
def u (s : String) : CpInfo := .utf8 (stringToUtf16 s)
/-- a pool by its gaps: so many unusable entries, then the entry; so many at the end -/
def gap : Nat → List CpInfo → List CpInfo
  | 0, r => r
  | n + 1, r => .unusable :: gap n r
def poolList (es : List (Nat × CpInfo)) (last : Nat) : List CpInfo := es.foldr (fun e r => gap e.1 (e.2 :: r)) (gap last [])
def pool (es : List (Nat × CpInfo)) (last : Nat) : Array CpInfo := ⟨poolList es last⟩
def fileOf (pool : Array CpInfo) (this : Nat) (attrs : Array Attribute := #[]) (ms : Array MethodInfo := #[]) (fl : Nat := 33) (sup : Nat := 0) (ifs : Array Nat := #[]) (fds : Array FieldInfo := #[]) : ClassFile where
  minorVersion := 0
  majorVersion := 65
  constantPool := pool
  accessFlags := fl
  thisClass := this
  superClass := sup
  interfaces := ifs
  fields := fds
  methods := ms
  attributes := attrs
def plain (name : String) (sup : Option ClassId) : Class where
  name := name
  kind := .ordinary
  loader := none
  accessFlags := 33
  super := sup
  interfaces := #[]
  cf := none
  fields := #[]
  methods := #[]
  instanceTypes := #[]
  staticTypes := #[]
  resolved := #[]
  callSites := []
  init := .initialized
  statics := none
  mirror := none

def pool0 : Array CpInfo := pool [(5, u "<init>"), (0, u "()V"), (1, .class_ 10), (1, u "java/lang/Object"), (85, u "clone"), (0, u "()Ljava/lang/Object;")] 26

def k0c0 : Code := { maxStack := 0, maxLocals := 1, code := object_method_1_code, exceptionTable := #[], attributes := #[] }
def k0m0 : Method := { name := "<init>", desc := "()V", sig := { parameters := [], returnType := none }, accessFlags := 1, code := some k0c0 }
def k0m1 : Method := { name := "clone", desc := "()Ljava/lang/Object;", sig := { parameters := [], returnType := some (.object "java/lang/Object") }, accessFlags := 260, code := none }
/-- java/lang/Object -/
def k0 : Class := { plain "java/lang/Object" none with
  accessFlags := 33
  interfaces := #[]
  cf := some (fileOf pool0 8 #[] #[{ accessFlags := 1, nameIndex := 5, descriptorIndex := 6, attributes := #[] }, { accessFlags := 260, nameIndex := 96, descriptorIndex := 97, attributes := #[] }] 33 0 #[] #[])
  fields := #[]
  methods := #[k0m0, k0m1]
  instanceTypes := #[]
  staticTypes := #[]
  resolved := Array.replicate 124 none
  statics := none }

def pool1 : Array CpInfo := pool [(2, .class_ 4), (1, u "java/lang/Object"), (0, u "<init>"), (0, u "()V"), (0, .class_ 8), (0, u "java/lang/String"), (0, .methodref 7 10), (0, .nameAndType 5 11), (0, u "([C)V"), (0, .methodref 13 14), (0, .class_ 15), (0, .nameAndType 16 17), (0, u "com/example/gantry/gantry/descriptor/DescriptorException"), (0, u "message"), (0, u "(Ljava/lang/String;IILjava/lang/String;)Ljava/lang/String;"), (0, .methodref 7 19), (0, .nameAndType 20 21), (0, u "length"), (0, u "()I"), (0, .methodref 23 24), (0, .class_ 25), (0, .nameAndType 26 27), (0, u "com/example/gantry/gantry/descriptor/DescriptorExceptionMessagePinLaw"), (0, u "totalLen"), (0, u "(II)I"), (0, .methodref 23 29), (0, .nameAndType 30 31), (0, u "ok4"), (0, u "(Ljava/lang/String;IIIII)Z"), (0, .methodref 23 33), (0, .nameAndType 34 31), (0, u "ok"), (0, .methodref 7 36), (0, .nameAndType 37 38), (0, u "charAt"), (0, u "(I)C"), (0, .methodref 23 40), (0, .nameAndType 41 42), (0, u "expected"), (0, u "(IIIII)C"), (0, .integer 100000), (0, .integer 1000000), (0, .integer 10000000), (0, .integer 100000000), (0, .integer 1000000000), (0, .methodref 23 49), (0, .nameAndType 50 51), (0, u "numLen"), (0, u "(I)I"), (0, .methodref 23 53), (0, .nameAndType 54 55), (0, u "digit"), (0, u "(III)C"), (2, u "law"), (0, u "(IIII)Z")] 3

def k1m0 : Method := { name := "<init>", desc := "()V", sig := { parameters := [], returnType := none }, accessFlags := 1, code := none }
def k1c1 : Code := { maxStack := 6, maxLocals := 11, code := code, exceptionTable := #[], attributes := #[] }
def k1m1 : Method := { name := "law", desc := "(IIII)Z", sig := { parameters := [.int, .int, .int, .int], returnType := some .boolean }, accessFlags := 9, code := some k1c1 }
def k1c2 : Code := { maxStack := 6, maxLocals := 6, code := method_3_code, exceptionTable := #[], attributes := #[] }
def k1m2 : Method := { name := "ok4", desc := "(Ljava/lang/String;IIIII)Z", sig := { parameters := [(.object "java/lang/String"), .int, .int, .int, .int, .int], returnType := some .boolean }, accessFlags := 10, code := some k1c2 }
def k1c3 : Code := { maxStack := 6, maxLocals := 6, code := method_4_code, exceptionTable := #[], attributes := #[] }
def k1m3 : Method := { name := "ok", desc := "(Ljava/lang/String;IIIII)Z", sig := { parameters := [(.object "java/lang/String"), .int, .int, .int, .int, .int], returnType := some .boolean }, accessFlags := 10, code := some k1c3 }
def k1c4 : Code := { maxStack := 2, maxLocals := 1, code := method_5_code, exceptionTable := #[], attributes := #[] }
def k1m4 : Method := { name := "numLen", desc := "(I)I", sig := { parameters := [.int], returnType := some .int }, accessFlags := 10, code := some k1c4 }
def k1c5 : Code := { maxStack := 5, maxLocals := 4, code := method_6_code, exceptionTable := #[], attributes := #[] }
def k1m5 : Method := { name := "digit", desc := "(III)C", sig := { parameters := [.int, .int, .int], returnType := some .char }, accessFlags := 10, code := some k1c5 }
def k1c6 : Code := { maxStack := 2, maxLocals := 3, code := method_7_code, exceptionTable := #[], attributes := #[] }
def k1m6 : Method := { name := "totalLen", desc := "(II)I", sig := { parameters := [.int, .int], returnType := some .int }, accessFlags := 10, code := some k1c6 }
def k1c7 : Code := { maxStack := 4, maxLocals := 8, code := method_8_code, exceptionTable := #[], attributes := #[] }
def k1m7 : Method := { name := "expected", desc := "(IIIII)C", sig := { parameters := [.int, .int, .int, .int, .int], returnType := some .char }, accessFlags := 10, code := some k1c7 }
/-- com/example/gantry/gantry/descriptor/DescriptorExceptionMessagePinLaw -/
def k1 : Class := { plain "com/example/gantry/gantry/descriptor/DescriptorExceptionMessagePinLaw" (some 0) with
  accessFlags := 49
  interfaces := #[]
  cf := some (fileOf pool1 23 #[] #[{ accessFlags := 1, nameIndex := 5, descriptorIndex := 6, attributes := #[] }, { accessFlags := 9, nameIndex := 58, descriptorIndex := 59, attributes := #[] }, { accessFlags := 10, nameIndex := 30, descriptorIndex := 31, attributes := #[] }, { accessFlags := 10, nameIndex := 34, descriptorIndex := 31, attributes := #[] }, { accessFlags := 10, nameIndex := 50, descriptorIndex := 51, attributes := #[] }, { accessFlags := 10, nameIndex := 54, descriptorIndex := 55, attributes := #[] }, { accessFlags := 10, nameIndex := 26, descriptorIndex := 27, attributes := #[] }, { accessFlags := 10, nameIndex := 41, descriptorIndex := 42, attributes := #[] }] 49 2 #[] #[])
  fields := #[]
  methods := #[k1m0, k1m1, k1m2, k1m3, k1m4, k1m5, k1m6, k1m7]
  instanceTypes := #[]
  staticTypes := #[]
  resolved := Array.replicate 63 none
  statics := none }

def pool2 : Array CpInfo := pool [(1, .class_ 2), (0, u "java/io/Serializable"), (0, .class_ 4), (0, u "java/lang/Object")] 2

/-- java/io/Serializable -/
def k2 : Class := { plain "java/io/Serializable" (some 0) with
  accessFlags := 1537
  interfaces := #[]
  cf := some (fileOf pool2 1 #[] #[] 1537 3 #[] #[])
  fields := #[]
  methods := #[]
  instanceTypes := #[]
  staticTypes := #[]
  resolved := Array.replicate 7 none
  statics := none }

def pool3 : Array CpInfo := pool [(1, .class_ 2), (0, u "java/lang/Comparable"), (0, .class_ 4), (0, u "java/lang/Object")] 7

/-- java/lang/Comparable -/
def k3 : Class := { plain "java/lang/Comparable" (some 0) with
  accessFlags := 1537
  interfaces := #[]
  cf := some (fileOf pool3 1 #[] #[] 1537 3 #[] #[])
  fields := #[]
  methods := #[]
  instanceTypes := #[]
  staticTypes := #[]
  resolved := Array.replicate 12 none
  statics := none }

def pool4 : Array CpInfo := pool [(2, .class_ 4), (1, u "java/lang/CharSequence"), (42, .class_ 48), (0, u "java/lang/CharSequence$1CodePointIterator"), (10, .class_ 60), (0, u "java/lang/CharSequence$1CharIterator"), (5, .class_ 67), (0, u "java/lang/Object")] 63

/-- java/lang/CharSequence -/
def k4 : Class := { plain "java/lang/CharSequence" (some 0) with
  accessFlags := 1537
  interfaces := #[]
  cf := some (fileOf pool4 2 #[.nestMembers #[47, 59]] #[] 1537 66 #[] #[])
  fields := #[]
  methods := #[]
  instanceTypes := #[]
  staticTypes := #[]
  resolved := Array.replicate 131 none
  statics := none }

def pool5 : Array CpInfo := pool [(1, .class_ 2), (0, u "java/lang/constant/Constable"), (0, .class_ 4), (0, u "java/lang/Object")] 6

/-- java/lang/constant/Constable -/
def k5 : Class := { plain "java/lang/constant/Constable" (some 0) with
  accessFlags := 1537
  interfaces := #[]
  cf := some (fileOf pool5 1 #[] #[] 1537 3 #[] #[])
  fields := #[]
  methods := #[]
  instanceTypes := #[]
  staticTypes := #[]
  resolved := Array.replicate 11 none
  statics := none }

def pool6 : Array CpInfo := pool [(1, .class_ 2), (0, u "java/lang/constant/ConstantDesc"), (0, .class_ 4), (0, u "java/lang/Object")] 32

/-- java/lang/constant/ConstantDesc -/
def k6 : Class := { plain "java/lang/constant/ConstantDesc" (some 0) with
  accessFlags := 1537
  interfaces := #[]
  cf := some (fileOf pool6 1 #[] #[] 1537 3 #[] #[])
  fields := #[]
  methods := #[]
  instanceTypes := #[]
  staticTypes := #[]
  resolved := Array.replicate 37 none
  statics := none }

def pool7 : Array CpInfo := pool [(1, .methodref 2 3), (0, .class_ 4), (0, .nameAndType 5 6), (0, u "java/lang/Object"), (0, u "<init>"), (0, u "()V"), (2, .fieldref 10 11), (0, .class_ 12), (0, .nameAndType 13 14), (0, u "java/lang/String"), (0, u "value"), (0, u "[B"), (0, .fieldref 10 16), (0, .nameAndType 17 18), (0, u "coder"), (0, u "B"), (2, u "hash"), (0, u "I"), (2, u "hashIsZero"), (0, u "Z"), (0, .methodref 10 28), (0, .nameAndType 5 29), (0, u "([CIILjava/lang/Void;)V"), (8, .fieldref 10 39), (0, .nameAndType 40 26), (0, u "COMPACT_STRINGS"), (1, .class_ 44), (1, u "java/lang/StringUTF16"), (0, u "compress"), (1, .methodref 42 48), (0, .nameAndType 49 50), (0, u "coderFromArrayLen"), (0, u "([BI)B"), (3, .methodref 55 56), (0, .class_ 57), (0, .nameAndType 58 59), (0, u "java/util/Arrays"), (0, u "copyOfRange"), (0, u "([BII)[B"), (47, .class_ 109), (1, u "java/lang/StringLatin1"), (32, u "()Z"), (34, .methodref 42 178), (0, .nameAndType 45 179), (0, u "([CII)[B"), (13, .class_ 195), (1, u "java/lang/System"), (16, .methodref 193 213), (0, .nameAndType 214 215), (0, u "arraycopy"), (0, u "(Ljava/lang/Object;ILjava/lang/Object;II)V"), (118, u "()I"), (0, .methodref 10 336), (0, .nameAndType 17 337), (0, u "()B"), (2, u "()[B"), (22, u "([BI)C"), (27, u "(II)V"), (35, u "(I)C"), (61, .methodref 10 490), (0, .nameAndType 5 491), (0, u "(Ljava/lang/AbstractStringBuilder;Ljava/lang/Void;)V"), (0, .methodref 10 493), (0, .nameAndType 494 142), (0, u "isLatin1"), (0, .methodref 107 496), (0, .nameAndType 497 363), (0, u "charAt"), (3, u "checkIndex"), (4, .nameAndType 507 334), (0, u "length"), (24, u "getBytes"), (16, .methodref 550 506), (0, .class_ 551), (0, u "java/lang/AbstractStringBuilder"), (0, .methodref 550 553), (0, .nameAndType 554 340), (0, u "getValue"), (20, .class_ 576), (0, u "java/lang/CharSequence"), (22, u "CASE_INSENSITIVE_ORDER"), (0, u "Ljava/util/Comparator;"), (220, u "([BIB)V"), (188, u "([C)V"), (36, .methodref 550 493), (5, .fieldref 1054 1055), (0, .class_ 1056), (0, .nameAndType 1057 1058), (0, u "jdk/internal/util/Preconditions"), (0, u "SIOOBE_FORMATTER"), (0, u "Ljava/util/function/BiFunction;"), (0, .methodref 1054 1060), (0, .nameAndType 501 1061), (0, u "(IILjava/util/function/BiFunction;)I"), (39, u "serialPersistentFields"), (0, u "[Ljava/io/ObjectStreamField;"), (0, .class_ 1104), (0, u "java/lang/String$CaseInsensitiveComparator"), (1, .class_ 1107), (0, u "java/io/Serializable"), (0, .class_ 1109), (0, u "java/lang/Comparable"), (0, .class_ 1111), (0, u "java/lang/constant/Constable"), (0, .class_ 1113), (0, u "java/lang/constant/ConstantDesc"), (2, u "serialVersionUID"), (0, u "J"), (3, u "REPL"), (0, u "C"), (2, u "LATIN1"), (1, u "UTF16"), (105, u "(Ljava/lang/StringBuilder;)V")] 217

def k7m0 : Method := { name := "<init>", desc := "()V", sig := { parameters := [], returnType := none }, accessFlags := 1, code := none }
def k7c1 : Code := { maxStack := 5, maxLocals := 2, code := jdk_42_method_3_code, exceptionTable := #[], attributes := #[] }
def k7m1 : Method := { name := "<init>", desc := "([C)V", sig := { parameters := [(.array .char)], returnType := none }, accessFlags := 1, code := some k7c1 }
def k7c2 : Code := { maxStack := 3, maxLocals := 2, code := jdk_42_method_53_code, exceptionTable := #[], attributes := #[] }
def k7m2 : Method := { name := "<init>", desc := "(Ljava/lang/StringBuilder;)V", sig := { parameters := [(.object "java/lang/StringBuilder")], returnType := none }, accessFlags := 1, code := some k7c2 }
def k7c3 : Code := { maxStack := 2, maxLocals := 1, code := jdk_42_method_54_code, exceptionTable := #[], attributes := #[] }
def k7m3 : Method := { name := "length", desc := "()I", sig := { parameters := [], returnType := some .int }, accessFlags := 1, code := some k7c3 }
def k7c4 : Code := { maxStack := 2, maxLocals := 2, code := jdk_42_method_56_code, exceptionTable := #[], attributes := #[] }
def k7m4 : Method := { name := "charAt", desc := "(I)C", sig := { parameters := [.int], returnType := some .char }, accessFlags := 1, code := some k7c4 }
def k7c5 : Code := { maxStack := 5, maxLocals := 4, code := jdk_42_method_147_code, exceptionTable := #[], attributes := #[] }
def k7m5 : Method := { name := "getBytes", desc := "([BIB)V", sig := { parameters := [(.array .byte), .int, .byte], returnType := none }, accessFlags := 0, code := some k7c5 }
def k7c6 : Code := { maxStack := 4, maxLocals := 6, code := jdk_42_method_149_code, exceptionTable := #[], attributes := #[] }
def k7m6 : Method := { name := "<init>", desc := "([CIILjava/lang/Void;)V", sig := { parameters := [(.array .char), .int, .int, (.object "java/lang/Void")], returnType := none }, accessFlags := 2, code := some k7c6 }
def k7c7 : Code := { maxStack := 5, maxLocals := 5, code := jdk_42_method_150_code, exceptionTable := #[], attributes := #[] }
def k7m7 : Method := { name := "<init>", desc := "(Ljava/lang/AbstractStringBuilder;Ljava/lang/Void;)V", sig := { parameters := [(.object "java/lang/AbstractStringBuilder"), (.object "java/lang/Void")], returnType := none }, accessFlags := 0, code := some k7c7 }
def k7c8 : Code := { maxStack := 1, maxLocals := 1, code := jdk_42_method_152_code, exceptionTable := #[], attributes := #[] }
def k7m8 : Method := { name := "coder", desc := "()B", sig := { parameters := [], returnType := some .byte }, accessFlags := 0, code := some k7c8 }
def k7c9 : Code := { maxStack := 1, maxLocals := 1, code := jdk_42_method_154_code, exceptionTable := #[], attributes := #[] }
def k7m9 : Method := { name := "isLatin1", desc := "()Z", sig := { parameters := [], returnType := some .boolean }, accessFlags := 0, code := some k7c9 }
def k7c10 : Code := { maxStack := 3, maxLocals := 2, code := jdk_42_method_155_code, exceptionTable := #[], attributes := #[] }
def k7m10 : Method := { name := "checkIndex", desc := "(II)V", sig := { parameters := [.int, .int], returnType := none }, accessFlags := 8, code := some k7c10 }
/-- java/lang/String -/
def k7 : Class := { plain "java/lang/String" (some 0) with
  accessFlags := 49
  interfaces := #[2, 3, 4, 5, 6]
  cf := some (fileOf pool7 10 #[.nestMembers #[1103]] #[{ accessFlags := 1, nameIndex := 5, descriptorIndex := 6, attributes := #[] }, { accessFlags := 1, nameIndex := 5, descriptorIndex := 1010, attributes := #[] }, { accessFlags := 1, nameIndex := 5, descriptorIndex := 1233, attributes := #[] }, { accessFlags := 1, nameIndex := 507, descriptorIndex := 334, attributes := #[] }, { accessFlags := 1, nameIndex := 497, descriptorIndex := 427, attributes := #[] }, { accessFlags := 0, nameIndex := 532, descriptorIndex := 821, attributes := #[] }, { accessFlags := 2, nameIndex := 5, descriptorIndex := 29, attributes := #[] }, { accessFlags := 0, nameIndex := 5, descriptorIndex := 491, attributes := #[] }, { accessFlags := 0, nameIndex := 17, descriptorIndex := 337, attributes := #[] }, { accessFlags := 0, nameIndex := 494, descriptorIndex := 142, attributes := #[] }, { accessFlags := 8, nameIndex := 501, descriptorIndex := 391, attributes := #[] }] 49 2 #[1106, 1108, 575, 1110, 1112] #[{ accessFlags := 18, nameIndex := 13, descriptorIndex := 14, attributes := #[] }, { accessFlags := 18, nameIndex := 17, descriptorIndex := 18, attributes := #[] }, { accessFlags := 2, nameIndex := 21, descriptorIndex := 22, attributes := #[] }, { accessFlags := 2, nameIndex := 25, descriptorIndex := 26, attributes := #[] }, { accessFlags := 26, nameIndex := 1116, descriptorIndex := 1117, attributes := #[] }, { accessFlags := 24, nameIndex := 40, descriptorIndex := 26, attributes := #[] }, { accessFlags := 26, nameIndex := 1101, descriptorIndex := 1102, attributes := #[] }, { accessFlags := 26, nameIndex := 1121, descriptorIndex := 1122, attributes := #[] }, { accessFlags := 25, nameIndex := 599, descriptorIndex := 600, attributes := #[] }, { accessFlags := 24, nameIndex := 1125, descriptorIndex := 18, attributes := #[] }, { accessFlags := 24, nameIndex := 1127, descriptorIndex := 18, attributes := #[] }])
  fields := #[{ name := "value", type := (.array .byte), accessFlags := 18, slot := 0, constantValue := 0 }, { name := "coder", type := .byte, accessFlags := 18, slot := 1, constantValue := 0 }, { name := "hash", type := .int, accessFlags := 2, slot := 2, constantValue := 0 }, { name := "hashIsZero", type := .boolean, accessFlags := 2, slot := 3, constantValue := 0 }, { name := "serialVersionUID", type := .long, accessFlags := 26, slot := 0, constantValue := 0 }, { name := "COMPACT_STRINGS", type := .boolean, accessFlags := 24, slot := 1, constantValue := 0 }, { name := "serialPersistentFields", type := (.array (.object "java/io/ObjectStreamField")), accessFlags := 26, slot := 2, constantValue := 0 }, { name := "REPL", type := .char, accessFlags := 26, slot := 3, constantValue := 0 }, { name := "CASE_INSENSITIVE_ORDER", type := (.object "java/util/Comparator"), accessFlags := 25, slot := 4, constantValue := 0 }, { name := "LATIN1", type := .byte, accessFlags := 24, slot := 5, constantValue := 0 }, { name := "UTF16", type := .byte, accessFlags := 24, slot := 6, constantValue := 0 }]
  methods := #[k7m0, k7m1, k7m2, k7m3, k7m4, k7m5, k7m6, k7m7, k7m8, k7m9, k7m10]
  instanceTypes := #[(.array .byte), .byte, .int, .boolean]
  staticTypes := #[.long, .boolean, (.array (.object "java/io/ObjectStreamField")), .char, (.object "java/util/Comparator"), .byte, .byte]
  resolved := Array.replicate 1451 none
  statics := some 0 }

def pool8 : Array CpInfo := pool [(6, .class_ 8), (1, u "java/lang/Object"), (0, u "<init>"), (0, u "()V"), (1, .class_ 14), (1, u "java/lang/StringUTF16"), (31, u "$assertionsDisabled"), (0, u "Z"), (13, u "HI_BYTE_SHIFT"), (0, u "I"), (2, u "LO_BYTE_SHIFT"), (49, .methodref 12 116), (0, .nameAndType 117 118), (0, u "compress"), (0, u "([CI[BII)I"), (3, u "([CII)[B"), (138, u "coderFromArrayLen"), (0, u "([BI)B"), (106, .class_ 371), (1, u "java/lang/StringUTF16$LinesSpliterator"), (58, u "MAX_LENGTH"), (196, .class_ 628), (0, u "java/lang/StringUTF16$CodePointsSpliterator"), (0, .class_ 630), (0, u "java/lang/StringUTF16$CharsSpliterator")] 4

def k8m0 : Method := { name := "<init>", desc := "()V", sig := { parameters := [], returnType := none }, accessFlags := 0, code := none }
def k8c1 : Code := { maxStack := 2, maxLocals := 2, code := jdk_52_method_15_code, exceptionTable := #[], attributes := #[] }
def k8m1 : Method := { name := "coderFromArrayLen", desc := "([BI)B", sig := { parameters := [(.array .byte), .int], returnType := some .byte }, accessFlags := 8, code := some k8c1 }
def k8c2 : Code := { maxStack := 5, maxLocals := 6, code := jdk_52_method_16_code, exceptionTable := #[], attributes := #[] }
def k8m2 : Method := { name := "compress", desc := "([CII)[B", sig := { parameters := [(.array .char), .int, .int], returnType := some (.array .byte) }, accessFlags := 9, code := some k8c2 }
def k8c3 : Code := { maxStack := 3, maxLocals := 7, code := jdk_52_method_21_code, exceptionTable := #[], attributes := #[] }
def k8m3 : Method := { name := "compress", desc := "([CI[BII)I", sig := { parameters := [(.array .char), .int, (.array .byte), .int, .int], returnType := some .int }, accessFlags := 9, code := some k8c3 }
/-- java/lang/StringUTF16 -/
def k8 : Class := { plain "java/lang/StringUTF16" (some 0) with
  accessFlags := 48
  interfaces := #[]
  cf := some (fileOf pool8 12 #[.nestMembers #[627, 629, 369]] #[{ accessFlags := 0, nameIndex := 9, descriptorIndex := 10, attributes := #[] }, { accessFlags := 8, nameIndex := 261, descriptorIndex := 262, attributes := #[] }, { accessFlags := 9, nameIndex := 117, descriptorIndex := 122, attributes := #[] }, { accessFlags := 9, nameIndex := 117, descriptorIndex := 118, attributes := #[] }] 48 6 #[] #[{ accessFlags := 26, nameIndex := 61, descriptorIndex := 62, attributes := #[] }, { accessFlags := 26, nameIndex := 65, descriptorIndex := 62, attributes := #[] }, { accessFlags := 24, nameIndex := 430, descriptorIndex := 62, attributes := #[] }, { accessFlags := 4120, nameIndex := 46, descriptorIndex := 47, attributes := #[] }])
  fields := #[{ name := "HI_BYTE_SHIFT", type := .int, accessFlags := 26, slot := 0, constantValue := 0 }, { name := "LO_BYTE_SHIFT", type := .int, accessFlags := 26, slot := 1, constantValue := 0 }, { name := "MAX_LENGTH", type := .int, accessFlags := 24, slot := 2, constantValue := 0 }, { name := "$assertionsDisabled", type := .boolean, accessFlags := 4120, slot := 3, constantValue := 0 }]
  methods := #[k8m0, k8m1, k8m2, k8m3]
  instanceTypes := #[]
  staticTypes := #[.int, .int, .int, .boolean]
  resolved := Array.replicate 635 none
  statics := none }

def pool9 : Array CpInfo := pool [(2, .class_ 4), (1, u "java/lang/Object"), (0, u "<init>"), (0, u "()V"), (1, .class_ 10), (1, u "java/lang/Throwable"), (0, u "cause"), (0, u "Ljava/lang/Throwable;"), (2, u "UNASSIGNED_STACK"), (0, u "[Ljava/lang/StackTraceElement;"), (2, u "stackTrace"), (2, u "SUPPRESSED_SENTINEL"), (0, u "Ljava/util/List;"), (2, u "suppressedExceptions"), (6, u "detailMessage"), (0, u "Ljava/lang/String;"), (58, .class_ 94), (0, u "java/lang/Throwable$WrappedPrintStream"), (6, .class_ 103), (1, u "java/lang/Throwable$PrintStreamOrWriter"), (61, u "$assertionsDisabled"), (0, u "Z"), (26, .class_ 194), (0, u "java/lang/Throwable$WrappedPrintWriter"), (5, u "backtrace"), (0, u "Ljava/lang/Object;"), (9, u "depth"), (0, u "I"), (56, .class_ 271), (1, u "java/lang/Throwable$SentinelHolder"), (32, u "EMPTY_THROWABLE_ARRAY"), (0, u "[Ljava/lang/Throwable;"), (12, .class_ 319), (0, u "java/io/Serializable"), (0, u "serialVersionUID"), (0, u "J"), (5, u "NULL_CAUSE_MESSAGE"), (0, u "SELF_SUPPRESSION_MESSAGE"), (0, u "CAUSE_CAPTION"), (0, u "SUPPRESSED_CAPTION")] 73

def k9m0 : Method := { name := "<init>", desc := "()V", sig := { parameters := [], returnType := none }, accessFlags := 1, code := none }
/-- java/lang/Throwable -/
def k9 : Class := { plain "java/lang/Throwable" (some 0) with
  accessFlags := 33
  interfaces := #[2]
  cf := some (fileOf pool9 8 #[.nestMembers #[193, 93, 101, 269]] #[{ accessFlags := 1, nameIndex := 5, descriptorIndex := 6, attributes := #[] }] 33 2 #[318] #[{ accessFlags := 26, nameIndex := 320, descriptorIndex := 321, attributes := #[] }, { accessFlags := 130, nameIndex := 200, descriptorIndex := 201, attributes := #[] }, { accessFlags := 2, nameIndex := 33, descriptorIndex := 34, attributes := #[] }, { accessFlags := 26, nameIndex := 15, descriptorIndex := 16, attributes := #[] }, { accessFlags := 2, nameIndex := 11, descriptorIndex := 12, attributes := #[] }, { accessFlags := 2, nameIndex := 19, descriptorIndex := 16, attributes := #[] }, { accessFlags := 130, nameIndex := 211, descriptorIndex := 212, attributes := #[] }, { accessFlags := 26, nameIndex := 22, descriptorIndex := 23, attributes := #[] }, { accessFlags := 2, nameIndex := 26, descriptorIndex := 23, attributes := #[] }, { accessFlags := 26, nameIndex := 327, descriptorIndex := 34, attributes := #[] }, { accessFlags := 26, nameIndex := 328, descriptorIndex := 34, attributes := #[] }, { accessFlags := 26, nameIndex := 329, descriptorIndex := 34, attributes := #[] }, { accessFlags := 26, nameIndex := 330, descriptorIndex := 34, attributes := #[] }, { accessFlags := 26, nameIndex := 304, descriptorIndex := 305, attributes := #[] }, { accessFlags := 4120, nameIndex := 165, descriptorIndex := 166, attributes := #[] }])
  fields := #[{ name := "serialVersionUID", type := .long, accessFlags := 26, slot := 0, constantValue := 0 }, { name := "backtrace", type := (.object "java/lang/Object"), accessFlags := 130, slot := 0, constantValue := 0 }, { name := "detailMessage", type := (.object "java/lang/String"), accessFlags := 2, slot := 1, constantValue := 0 }, { name := "UNASSIGNED_STACK", type := (.array (.object "java/lang/StackTraceElement")), accessFlags := 26, slot := 1, constantValue := 0 }, { name := "cause", type := (.object "java/lang/Throwable"), accessFlags := 2, slot := 2, constantValue := 0 }, { name := "stackTrace", type := (.array (.object "java/lang/StackTraceElement")), accessFlags := 2, slot := 3, constantValue := 0 }, { name := "depth", type := .int, accessFlags := 130, slot := 4, constantValue := 0 }, { name := "SUPPRESSED_SENTINEL", type := (.object "java/util/List"), accessFlags := 26, slot := 2, constantValue := 0 }, { name := "suppressedExceptions", type := (.object "java/util/List"), accessFlags := 2, slot := 5, constantValue := 0 }, { name := "NULL_CAUSE_MESSAGE", type := (.object "java/lang/String"), accessFlags := 26, slot := 3, constantValue := 0 }, { name := "SELF_SUPPRESSION_MESSAGE", type := (.object "java/lang/String"), accessFlags := 26, slot := 4, constantValue := 0 }, { name := "CAUSE_CAPTION", type := (.object "java/lang/String"), accessFlags := 26, slot := 5, constantValue := 0 }, { name := "SUPPRESSED_CAPTION", type := (.object "java/lang/String"), accessFlags := 26, slot := 6, constantValue := 0 }, { name := "EMPTY_THROWABLE_ARRAY", type := (.array (.object "java/lang/Throwable")), accessFlags := 26, slot := 7, constantValue := 0 }, { name := "$assertionsDisabled", type := .boolean, accessFlags := 4120, slot := 8, constantValue := 0 }]
  methods := #[k9m0]
  instanceTypes := #[(.object "java/lang/Object"), (.object "java/lang/String"), (.object "java/lang/Throwable"), (.array (.object "java/lang/StackTraceElement")), .int, (.object "java/util/List")]
  staticTypes := #[.long, (.array (.object "java/lang/StackTraceElement")), (.object "java/util/List"), (.object "java/lang/String"), (.object "java/lang/String"), (.object "java/lang/String"), (.object "java/lang/String"), (.array (.object "java/lang/Throwable")), .boolean]
  resolved := Array.replicate 404 none
  statics := none }

def pool10 : Array CpInfo := pool [(2, .class_ 4), (1, u "java/lang/Throwable"), (0, u "<init>"), (0, u "()V"), (12, .class_ 20), (0, u "java/lang/Exception"), (0, u "serialVersionUID"), (0, u "J")] 17

def k10m0 : Method := { name := "<init>", desc := "()V", sig := { parameters := [], returnType := none }, accessFlags := 1, code := none }
/-- java/lang/Exception -/
def k10 : Class := { plain "java/lang/Exception" (some 9) with
  accessFlags := 33
  interfaces := #[]
  cf := some (fileOf pool10 19 #[] #[{ accessFlags := 1, nameIndex := 5, descriptorIndex := 6, attributes := #[] }] 33 2 #[] #[{ accessFlags := 24, nameIndex := 21, descriptorIndex := 22, attributes := #[] }])
  fields := #[{ name := "serialVersionUID", type := .long, accessFlags := 24, slot := 0, constantValue := 0 }]
  methods := #[k10m0]
  instanceTypes := #[(.object "java/lang/Object"), (.object "java/lang/String"), (.object "java/lang/Throwable"), (.array (.object "java/lang/StackTraceElement")), .int, (.object "java/util/List")]
  staticTypes := #[.long]
  resolved := Array.replicate 40 none
  statics := none }

def pool11 : Array CpInfo := pool [(2, .class_ 4), (1, u "com/example/gantry/gantry/descriptor/DescriptorException"), (0, u "message"), (0, u "(Ljava/lang/String;IILjava/lang/String;)Ljava/lang/String;"), (1, .class_ 10), (1, u "java/lang/Exception"), (0, u "<init>"), (1, .class_ 14), (0, u "java/lang/StringBuilder"), (0, .methodref 13 16), (0, .nameAndType 11 17), (0, u "()V"), (0, .methodref 13 19), (0, .nameAndType 20 21), (0, u "append"), (0, u "(Ljava/lang/String;)Ljava/lang/StringBuilder;"), (0, .methodref 2 23), (0, .nameAndType 24 25), (0, u "position"), (0, u "(II)Ljava/lang/String;"), (0, .string 27), (0, u ": "), (0, .methodref 13 29), (0, .nameAndType 30 31), (0, u "toString"), (0, u "()Ljava/lang/String;"), (0, .string 33), (0, u ""), (0, .string 35), (0, u ":"), (0, .methodref 13 37), (0, .nameAndType 20 38), (0, u "(I)Ljava/lang/StringBuilder;"), (0, u "serialVersionUID"), (0, u "J")] 11

def k11c0 : Code := { maxStack := 3, maxLocals := 4, code := prog_3_method_2_code, exceptionTable := #[], attributes := #[] }
def k11m0 : Method := { name := "message", desc := "(Ljava/lang/String;IILjava/lang/String;)Ljava/lang/String;", sig := { parameters := [(.object "java/lang/String"), .int, .int, (.object "java/lang/String")], returnType := some (.object "java/lang/String") }, accessFlags := 8, code := some k11c0 }
def k11c1 : Code := { maxStack := 2, maxLocals := 2, code := prog_3_method_3_code, exceptionTable := #[], attributes := #[] }
def k11m1 : Method := { name := "position", desc := "(II)Ljava/lang/String;", sig := { parameters := [.int, .int], returnType := some (.object "java/lang/String") }, accessFlags := 10, code := some k11c1 }
/-- com/example/gantry/gantry/descriptor/DescriptorException -/
def k11 : Class := { plain "com/example/gantry/gantry/descriptor/DescriptorException" (some 10) with
  accessFlags := 33
  interfaces := #[]
  cf := some (fileOf pool11 2 #[] #[{ accessFlags := 8, nameIndex := 5, descriptorIndex := 6, attributes := #[] }, { accessFlags := 10, nameIndex := 24, descriptorIndex := 25, attributes := #[] }] 33 8 #[] #[{ accessFlags := 26, nameIndex := 39, descriptorIndex := 40, attributes := #[] }])
  fields := #[{ name := "serialVersionUID", type := .long, accessFlags := 26, slot := 0, constantValue := 0 }]
  methods := #[k11m0, k11m1]
  instanceTypes := #[(.object "java/lang/Object"), (.object "java/lang/String"), (.object "java/lang/Throwable"), (.array (.object "java/lang/StackTraceElement")), .int, (.object "java/util/List")]
  staticTypes := #[.long]
  resolved := Array.replicate 52 none
  statics := none }

def pool12 : Array CpInfo := pool [(1, .class_ 2), (0, u "java/lang/Appendable"), (0, .class_ 4), (0, u "java/lang/Object")] 9

/-- java/lang/Appendable -/
def k12 : Class := { plain "java/lang/Appendable" (some 0) with
  accessFlags := 1537
  interfaces := #[]
  cf := some (fileOf pool12 1 #[] #[] 1537 3 #[] #[])
  fields := #[]
  methods := #[]
  instanceTypes := #[]
  staticTypes := #[]
  resolved := Array.replicate 14 none
  statics := none }

def pool13 : Array CpInfo := pool [(1, .class_ 2), (0, u "java/lang/String"), (0, .methodref 4 5), (0, .class_ 6), (0, .nameAndType 7 8), (0, u "java/lang/Object"), (0, u "<init>"), (0, u "()V"), (1, .class_ 12), (1, u "java/lang/AbstractStringBuilder"), (0, u "EMPTYVALUE"), (0, u "[B"), (0, .fieldref 10 16), (0, .nameAndType 17 14), (0, u "value"), (0, .fieldref 1 19), (0, .nameAndType 20 21), (0, u "COMPACT_STRINGS"), (0, u "Z"), (0, .fieldref 10 23), (0, .nameAndType 24 25), (0, u "coder"), (0, u "B"), (6, .methodref 1 33), (0, .nameAndType 34 35), (0, u "length"), (0, u "()I"), (0, .class_ 37), (0, u "java/lang/Integer"), (1, .integer 2147483647), (0, .methodref 1 41), (0, .nameAndType 24 42), (0, u "()B"), (2, u "append"), (0, u "(Ljava/lang/String;)Ljava/lang/AbstractStringBuilder;"), (1, .class_ 49), (0, u "java/lang/CharSequence"), (19, u "(Ljava/lang/String;)V"), (5, u "maybeLatin1"), (3, .fieldref 10 80), (0, .nameAndType 81 82), (0, u "count"), (0, u "I"), (0, .methodref 10 84), (0, .nameAndType 85 86), (0, u "isLatin1"), (0, u "()Z"), (13, .methodref 10 101), (0, .nameAndType 102 103), (0, u "ensureCapacityInternal"), (0, u "(I)V"), (0, .methodref 10 105), (0, .nameAndType 106 107), (0, u "newCapacity"), (0, u "(I)I"), (0, .methodref 109 110), (0, .class_ 111), (0, .nameAndType 112 113), (0, u "java/util/Arrays"), (0, u "copyOf"), (0, u "([BI)[B"), (0, .methodref 115 116), (0, .class_ 117), (0, .nameAndType 118 119), (0, u "jdk/internal/util/ArraysSupport"), (0, u "newLength"), (0, u "(III)I"), (68, u "getChars"), (19, .methodref 10 209), (0, .nameAndType 210 211), (0, u "putStringAt"), (0, u "(ILjava/lang/String;)V"), (5, u "inflateIfNeededFor"), (2, .nameAndType 221 222), (0, u "getBytes"), (0, u "([BIB)V"), (22, .methodref 36 246), (0, .nameAndType 247 107), (0, u "stringSize"), (0, .methodref 36 249), (0, .nameAndType 188 250), (0, u "(II[B)I"), (146, .methodref 10 398), (0, .nameAndType 217 69), (0, .methodref 1 220), (3, u "()[B"), (40, .class_ 445), (0, u "java/lang/Appendable"), (65, u "(I)Ljava/lang/AbstractStringBuilder;"), (40, u "getValue")] 56

def k13m0 : Method := { name := "<init>", desc := "()V", sig := { parameters := [], returnType := none }, accessFlags := 0, code := none }
def k13c1 : Code := { maxStack := 2, maxLocals := 2, code := jdk_68_method_2_code, exceptionTable := #[], attributes := #[] }
def k13m1 : Method := { name := "<init>", desc := "(I)V", sig := { parameters := [.int], returnType := none }, accessFlags := 0, code := some k13c1 }
def k13c2 : Code := { maxStack := 1, maxLocals := 1, code := jdk_68_method_6_code, exceptionTable := #[], attributes := #[] }
def k13m2 : Method := { name := "length", desc := "()I", sig := { parameters := [], returnType := some .int }, accessFlags := 1, code := some k13c2 }
def k13c3 : Code := { maxStack := 4, maxLocals := 3, code := jdk_68_method_9_code, exceptionTable := #[], attributes := #[] }
def k13m3 : Method := { name := "ensureCapacityInternal", desc := "(I)V", sig := { parameters := [.int], returnType := none }, accessFlags := 2, code := some k13c3 }
def k13c4 : Code := { maxStack := 5, maxLocals := 6, code := jdk_68_method_10_code, exceptionTable := #[], attributes := #[] }
def k13m4 : Method := { name := "newCapacity", desc := "(I)I", sig := { parameters := [.int], returnType := some .int }, accessFlags := 2, code := some k13c4 }
def k13c5 : Code := { maxStack := 3, maxLocals := 3, code := jdk_68_method_22_code, exceptionTable := #[], attributes := #[] }
def k13m5 : Method := { name := "append", desc := "(Ljava/lang/String;)Ljava/lang/AbstractStringBuilder;", sig := { parameters := [(.object "java/lang/String")], returnType := some (.object "java/lang/AbstractStringBuilder") }, accessFlags := 1, code := some k13c5 }
def k13c6 : Code := { maxStack := 4, maxLocals := 4, code := jdk_68_method_32_code, exceptionTable := #[], attributes := #[] }
def k13m6 : Method := { name := "append", desc := "(I)Ljava/lang/AbstractStringBuilder;", sig := { parameters := [.int], returnType := some (.object "java/lang/AbstractStringBuilder") }, accessFlags := 1, code := some k13c6 }
def k13c7 : Code := { maxStack := 1, maxLocals := 1, code := jdk_68_method_64_code, exceptionTable := #[], attributes := #[] }
def k13m7 : Method := { name := "getValue", desc := "()[B", sig := { parameters := [], returnType := some (.array .byte) }, accessFlags := 16, code := some k13c7 }
def k13c8 : Code := { maxStack := 1, maxLocals := 1, code := jdk_68_method_68_code, exceptionTable := #[], attributes := #[] }
def k13m8 : Method := { name := "isLatin1", desc := "()Z", sig := { parameters := [], returnType := some .boolean }, accessFlags := 16, code := some k13c8 }
def k13c9 : Code := { maxStack := 2, maxLocals := 2, code := jdk_68_method_71_code, exceptionTable := #[], attributes := #[] }
def k13m9 : Method := { name := "inflateIfNeededFor", desc := "(Ljava/lang/String;)V", sig := { parameters := [(.object "java/lang/String")], returnType := none }, accessFlags := 2, code := some k13c9 }
def k13c10 : Code := { maxStack := 4, maxLocals := 3, code := jdk_68_method_73_code, exceptionTable := #[], attributes := #[] }
def k13m10 : Method := { name := "putStringAt", desc := "(ILjava/lang/String;)V", sig := { parameters := [.int, (.object "java/lang/String")], returnType := none }, accessFlags := 2, code := some k13c10 }
/-- java/lang/AbstractStringBuilder -/
def k13 : Class := { plain "java/lang/AbstractStringBuilder" (some 0) with
  accessFlags := 1056
  interfaces := #[12, 4]
  cf := some (fileOf pool13 10 #[] #[{ accessFlags := 0, nameIndex := 7, descriptorIndex := 8, attributes := #[] }, { accessFlags := 0, nameIndex := 7, descriptorIndex := 103, attributes := #[] }, { accessFlags := 1, nameIndex := 34, descriptorIndex := 35, attributes := #[] }, { accessFlags := 2, nameIndex := 102, descriptorIndex := 103, attributes := #[] }, { accessFlags := 2, nameIndex := 106, descriptorIndex := 107, attributes := #[] }, { accessFlags := 1, nameIndex := 45, descriptorIndex := 46, attributes := #[] }, { accessFlags := 1, nameIndex := 45, descriptorIndex := 511, attributes := #[] }, { accessFlags := 16, nameIndex := 552, descriptorIndex := 403, attributes := #[] }, { accessFlags := 16, nameIndex := 85, descriptorIndex := 86, attributes := #[] }, { accessFlags := 2, nameIndex := 217, descriptorIndex := 69, attributes := #[] }, { accessFlags := 2, nameIndex := 210, descriptorIndex := 211, attributes := #[] }] 1056 4 #[444, 48] #[{ accessFlags := 0, nameIndex := 17, descriptorIndex := 14, attributes := #[] }, { accessFlags := 0, nameIndex := 24, descriptorIndex := 25, attributes := #[] }, { accessFlags := 0, nameIndex := 75, descriptorIndex := 21, attributes := #[] }, { accessFlags := 0, nameIndex := 81, descriptorIndex := 82, attributes := #[] }, { accessFlags := 26, nameIndex := 13, descriptorIndex := 14, attributes := #[] }])
  fields := #[{ name := "value", type := (.array .byte), accessFlags := 0, slot := 0, constantValue := 0 }, { name := "coder", type := .byte, accessFlags := 0, slot := 1, constantValue := 0 }, { name := "maybeLatin1", type := .boolean, accessFlags := 0, slot := 2, constantValue := 0 }, { name := "count", type := .int, accessFlags := 0, slot := 3, constantValue := 0 }, { name := "EMPTYVALUE", type := (.array .byte), accessFlags := 26, slot := 0, constantValue := 0 }]
  methods := #[k13m0, k13m1, k13m2, k13m3, k13m4, k13m5, k13m6, k13m7, k13m8, k13m9, k13m10]
  instanceTypes := #[(.array .byte), .byte, .boolean, .int]
  staticTypes := #[(.array .byte)]
  resolved := Array.replicate 609 none
  statics := none }

def pool14 : Array CpInfo := pool [(1, .methodref 2 3), (0, .class_ 4), (0, .nameAndType 5 6), (0, u "java/lang/AbstractStringBuilder"), (0, u "<init>"), (0, u "(I)V"), (11, .class_ 20), (1, u "java/lang/String"), (3, .class_ 26), (1, u "java/lang/StringBuilder"), (0, u "append"), (0, u "(Ljava/lang/String;)Ljava/lang/StringBuilder;"), (0, .methodref 2 30), (0, .nameAndType 27 31), (0, u "(Ljava/lang/String;)Ljava/lang/AbstractStringBuilder;"), (21, .methodref 2 54), (0, .nameAndType 27 55), (0, u "(I)Ljava/lang/AbstractStringBuilder;"), (81, .methodref 18 138), (0, .nameAndType 5 139), (0, u "(Ljava/lang/StringBuilder;)V"), (5, u "()V"), (10, u "()I"), (111, u "(I)Ljava/lang/StringBuilder;"), (74, .methodref 2 344), (0, .nameAndType 345 156), (0, u "length"), (3, .class_ 350), (0, u "java/lang/Appendable"), (0, .class_ 352), (0, u "java/io/Serializable"), (0, .class_ 354), (0, u "java/lang/Comparable"), (0, .class_ 356), (0, u "java/lang/CharSequence"), (0, u "serialVersionUID"), (0, u "J"), (40, u "toString"), (0, u "()Ljava/lang/String;")] 21

def k14c0 : Code := { maxStack := 2, maxLocals := 1, code := jdk_67_method_1_code, exceptionTable := #[], attributes := #[] }
def k14m0 : Method := { name := "<init>", desc := "()V", sig := { parameters := [], returnType := none }, accessFlags := 1, code := some k14c0 }
def k14c1 : Code := { maxStack := 2, maxLocals := 2, code := jdk_67_method_7_code, exceptionTable := #[], attributes := #[] }
def k14m1 : Method := { name := "append", desc := "(Ljava/lang/String;)Ljava/lang/StringBuilder;", sig := { parameters := [(.object "java/lang/String")], returnType := some (.object "java/lang/StringBuilder") }, accessFlags := 1, code := some k14c1 }
def k14c2 : Code := { maxStack := 2, maxLocals := 2, code := jdk_67_method_15_code, exceptionTable := #[], attributes := #[] }
def k14m2 : Method := { name := "append", desc := "(I)Ljava/lang/StringBuilder;", sig := { parameters := [.int], returnType := some (.object "java/lang/StringBuilder") }, accessFlags := 1, code := some k14c2 }
def k14c3 : Code := { maxStack := 3, maxLocals := 1, code := jdk_67_method_42_code, exceptionTable := #[], attributes := #[] }
def k14m3 : Method := { name := "toString", desc := "()Ljava/lang/String;", sig := { parameters := [], returnType := some (.object "java/lang/String") }, accessFlags := 1, code := some k14c3 }
def k14c4 : Code := { maxStack := 1, maxLocals := 1, code := jdk_67_method_93_code, exceptionTable := #[], attributes := #[] }
def k14m4 : Method := { name := "length", desc := "()I", sig := { parameters := [], returnType := some .int }, accessFlags := 4161, code := some k14c4 }
/-- java/lang/StringBuilder -/
def k14 : Class := { plain "java/lang/StringBuilder" (some 13) with
  accessFlags := 49
  interfaces := #[12, 2, 3, 4]
  cf := some (fileOf pool14 24 #[] #[{ accessFlags := 1, nameIndex := 5, descriptorIndex := 145, attributes := #[] }, { accessFlags := 1, nameIndex := 27, descriptorIndex := 28, attributes := #[] }, { accessFlags := 1, nameIndex := 27, descriptorIndex := 268, attributes := #[] }, { accessFlags := 1, nameIndex := 399, descriptorIndex := 400, attributes := #[] }, { accessFlags := 4161, nameIndex := 345, descriptorIndex := 156, attributes := #[] }] 49 2 #[349, 351, 353, 355] #[{ accessFlags := 24, nameIndex := 357, descriptorIndex := 358, attributes := #[] }])
  fields := #[{ name := "serialVersionUID", type := .long, accessFlags := 24, slot := 0, constantValue := 0 }]
  methods := #[k14m0, k14m1, k14m2, k14m3, k14m4]
  instanceTypes := #[(.array .byte), .byte, .boolean, .int]
  staticTypes := #[.long]
  resolved := Array.replicate 422 none
  statics := none }

def pool15 : Array CpInfo := pool [(2, .class_ 4), (1, u "java/lang/Object"), (0, u "<init>"), (0, u "()V"), (1, .class_ 10), (1, u "java/lang/System"), (0, u "allowSecurityManager"), (0, u "I"), (16, u "cons"), (0, u "Ljava/io/Console;"), (77, .class_ 110), (1, u "java/lang/System$CallersHolder"), (43, u "initialErrStream"), (0, u "Ljava/io/PrintStream;"), (19, u "security"), (0, u "Ljava/lang/SecurityManager;"), (31, .class_ 209), (0, u "java/lang/System$1"), (7, u "props"), (0, u "Ljava/util/Properties;"), (2, u "lineSeparator"), (0, u "Ljava/lang/String;"), (96, .class_ 321), (1, u "java/lang/System$LoggerFinder"), (5, .class_ 328), (0, u "java/lang/System$Logger"), (67, u "err"), (2, u "out"), (91, u "notSupportedJnuEncoding"), (15, u "in"), (17, u "initialIn"), (0, u "Ljava/io/InputStream;"), (35, u "bootLayer"), (0, u "Ljava/lang/ModuleLayer;"), (99, .class_ 664), (0, u "java/lang/System$2"), (9, u "NEVER"), (2, u "MAYBE"), (49, u "arraycopy"), (0, u "(Ljava/lang/Object;ILjava/lang/Object;II)V"), (72, .class_ 802), (0, u "java/lang/System$Logger$Level")] 31

def k15m0 : Method := { name := "<init>", desc := "()V", sig := { parameters := [], returnType := none }, accessFlags := 2, code := none }
def k15m1 : Method := { name := "arraycopy", desc := "(Ljava/lang/Object;ILjava/lang/Object;II)V", sig := { parameters := [(.object "java/lang/Object"), .int, (.object "java/lang/Object"), .int, .int], returnType := none }, accessFlags := 265, code := none }
/-- java/lang/System -/
def k15 : Class := { plain "java/lang/System" (some 0) with
  accessFlags := 49
  interfaces := #[]
  cf := some (fileOf pool15 8 #[.nestMembers #[319, 327, 801, 108, 663, 208]] #[{ accessFlags := 2, nameIndex := 5, descriptorIndex := 6, attributes := #[] }, { accessFlags := 265, nameIndex := 727, descriptorIndex := 728, attributes := #[] }] 49 2 #[] #[{ accessFlags := 25, nameIndex := 507, descriptorIndex := 526, attributes := #[] }, { accessFlags := 25, nameIndex := 399, descriptorIndex := 155, attributes := #[] }, { accessFlags := 25, nameIndex := 396, descriptorIndex := 155, attributes := #[] }, { accessFlags := 10, nameIndex := 525, descriptorIndex := 526, attributes := #[] }, { accessFlags := 26, nameIndex := 674, descriptorIndex := 12, attributes := #[] }, { accessFlags := 26, nameIndex := 677, descriptorIndex := 12, attributes := #[] }, { accessFlags := 10, nameIndex := 11, descriptorIndex := 12, attributes := #[] }, { accessFlags := 74, nameIndex := 175, descriptorIndex := 176, attributes := #[] }, { accessFlags := 10, nameIndex := 491, descriptorIndex := 222, attributes := #[] }, { accessFlags := 74, nameIndex := 29, descriptorIndex := 30, attributes := #[] }, { accessFlags := 74, nameIndex := 154, descriptorIndex := 155, attributes := #[] }, { accessFlags := 10, nameIndex := 217, descriptorIndex := 218, attributes := #[] }, { accessFlags := 10, nameIndex := 221, descriptorIndex := 222, attributes := #[] }, { accessFlags := 8, nameIndex := 562, descriptorIndex := 563, attributes := #[] }])
  fields := #[{ name := "in", type := (.object "java/io/InputStream"), accessFlags := 25, slot := 0, constantValue := 0 }, { name := "out", type := (.object "java/io/PrintStream"), accessFlags := 25, slot := 1, constantValue := 0 }, { name := "err", type := (.object "java/io/PrintStream"), accessFlags := 25, slot := 2, constantValue := 0 }, { name := "initialIn", type := (.object "java/io/InputStream"), accessFlags := 10, slot := 3, constantValue := 0 }, { name := "NEVER", type := .int, accessFlags := 26, slot := 4, constantValue := 0 }, { name := "MAYBE", type := .int, accessFlags := 26, slot := 5, constantValue := 0 }, { name := "allowSecurityManager", type := .int, accessFlags := 10, slot := 6, constantValue := 0 }, { name := "security", type := (.object "java/lang/SecurityManager"), accessFlags := 74, slot := 7, constantValue := 0 }, { name := "notSupportedJnuEncoding", type := (.object "java/lang/String"), accessFlags := 10, slot := 8, constantValue := 0 }, { name := "cons", type := (.object "java/io/Console"), accessFlags := 74, slot := 9, constantValue := 0 }, { name := "initialErrStream", type := (.object "java/io/PrintStream"), accessFlags := 74, slot := 10, constantValue := 0 }, { name := "props", type := (.object "java/util/Properties"), accessFlags := 10, slot := 11, constantValue := 0 }, { name := "lineSeparator", type := (.object "java/lang/String"), accessFlags := 10, slot := 12, constantValue := 0 }, { name := "bootLayer", type := (.object "java/lang/ModuleLayer"), accessFlags := 8, slot := 13, constantValue := 0 }]
  methods := #[k15m0, k15m1]
  instanceTypes := #[]
  staticTypes := #[(.object "java/io/InputStream"), (.object "java/io/PrintStream"), (.object "java/io/PrintStream"), (.object "java/io/InputStream"), .int, .int, .int, (.object "java/lang/SecurityManager"), (.object "java/lang/String"), (.object "java/io/Console"), (.object "java/io/PrintStream"), (.object "java/util/Properties"), (.object "java/lang/String"), (.object "java/lang/ModuleLayer")]
  resolved := Array.replicate 834 none
  statics := none }

def pool16 : Array CpInfo := pool [(2, .class_ 4), (1, u "java/lang/Object"), (0, u "<init>"), (0, u "()V"), (1, .class_ 10), (1, u "java/lang/Number"), (2, .class_ 14), (0, u "java/io/Serializable"), (0, u "serialVersionUID"), (0, u "J")] 20

def k16m0 : Method := { name := "<init>", desc := "()V", sig := { parameters := [], returnType := none }, accessFlags := 1, code := none }
/-- java/lang/Number -/
def k16 : Class := { plain "java/lang/Number" (some 0) with
  accessFlags := 1057
  interfaces := #[2]
  cf := some (fileOf pool16 8 #[] #[{ accessFlags := 1, nameIndex := 5, descriptorIndex := 6, attributes := #[] }] 1057 2 #[13] #[{ accessFlags := 26, nameIndex := 15, descriptorIndex := 16, attributes := #[] }])
  fields := #[{ name := "serialVersionUID", type := .long, accessFlags := 26, slot := 0, constantValue := 0 }]
  methods := #[k16m0]
  instanceTypes := #[]
  staticTypes := #[.long]
  resolved := Array.replicate 37 none
  statics := none }

def pool17 : Array CpInfo := pool [(1, .class_ 2), (0, u "java/lang/Integer"), (16, u "digits"), (0, u "[C"), (33, u "(I)I"), (19, u "stringSize"), (2, u "getChars"), (0, u "(II[B)I"), (4, .fieldref 1 84), (0, .nameAndType 85 86), (0, u "DigitOnes"), (0, u "[B"), (0, .fieldref 1 88), (0, .nameAndType 89 86), (0, u "DigitTens"), (99, .class_ 190), (0, u "java/lang/Integer$IntegerCache"), (3, u "I"), (8, .class_ 204), (0, u "java/lang/Number"), (2, u "value"), (94, u "TYPE"), (0, u "Ljava/lang/Class;"), (0, .class_ 305), (0, u "java/lang/Comparable"), (0, .class_ 307), (0, u "java/lang/constant/Constable"), (0, .class_ 309), (0, u "java/lang/constant/ConstantDesc"), (0, u "MIN_VALUE"), (1, u "MAX_VALUE"), (3, u "SIZE"), (1, u "BYTES"), (1, u "serialVersionUID"), (0, u "J")] 131

def k17c0 : Code := { maxStack := 4, maxLocals := 7, code := jdk_33_method_12_code, exceptionTable := #[], attributes := #[] }
def k17m0 : Method := { name := "getChars", desc := "(II[B)I", sig := { parameters := [.int, .int, (.array .byte)], returnType := some .int }, accessFlags := 8, code := some k17c0 }
def k17c1 : Code := { maxStack := 2, maxLocals := 4, code := jdk_33_method_13_code, exceptionTable := #[], attributes := #[] }
def k17m1 : Method := { name := "stringSize", desc := "(I)I", sig := { parameters := [.int], returnType := some .int }, accessFlags := 8, code := some k17c1 }
/-- java/lang/Integer -/
def k17 : Class := { plain "java/lang/Integer" (some 16) with
  accessFlags := 49
  interfaces := #[3, 5, 6]
  cf := some (fileOf pool17 1 #[.nestMembers #[189]] #[{ accessFlags := 8, nameIndex := 77, descriptorIndex := 78, attributes := #[] }, { accessFlags := 8, nameIndex := 74, descriptorIndex := 54, attributes := #[] }] 49 203 #[304, 306, 308] #[{ accessFlags := 25, nameIndex := 310, descriptorIndex := 194, attributes := #[] }, { accessFlags := 25, nameIndex := 312, descriptorIndex := 194, attributes := #[] }, { accessFlags := 25, nameIndex := 302, descriptorIndex := 303, attributes := #[] }, { accessFlags := 24, nameIndex := 19, descriptorIndex := 20, attributes := #[] }, { accessFlags := 24, nameIndex := 89, descriptorIndex := 86, attributes := #[] }, { accessFlags := 24, nameIndex := 85, descriptorIndex := 86, attributes := #[] }, { accessFlags := 18, nameIndex := 207, descriptorIndex := 194, attributes := #[] }, { accessFlags := 25, nameIndex := 316, descriptorIndex := 194, attributes := #[] }, { accessFlags := 25, nameIndex := 318, descriptorIndex := 194, attributes := #[] }, { accessFlags := 26, nameIndex := 320, descriptorIndex := 321, attributes := #[] }])
  fields := #[{ name := "MIN_VALUE", type := .int, accessFlags := 25, slot := 0, constantValue := 0 }, { name := "MAX_VALUE", type := .int, accessFlags := 25, slot := 1, constantValue := 0 }, { name := "TYPE", type := (.object "java/lang/Class"), accessFlags := 25, slot := 2, constantValue := 0 }, { name := "digits", type := (.array .char), accessFlags := 24, slot := 3, constantValue := 0 }, { name := "DigitTens", type := (.array .byte), accessFlags := 24, slot := 4, constantValue := 0 }, { name := "DigitOnes", type := (.array .byte), accessFlags := 24, slot := 5, constantValue := 0 }, { name := "value", type := .int, accessFlags := 18, slot := 0, constantValue := 0 }, { name := "SIZE", type := .int, accessFlags := 25, slot := 6, constantValue := 0 }, { name := "BYTES", type := .int, accessFlags := 25, slot := 7, constantValue := 0 }, { name := "serialVersionUID", type := .long, accessFlags := 26, slot := 8, constantValue := 0 }]
  methods := #[k17m0, k17m1]
  instanceTypes := #[.int]
  staticTypes := #[.int, .int, (.object "java/lang/Class"), (.array .char), (.array .byte), (.array .byte), .int, .int, .long]
  resolved := Array.replicate 453 none
  statics := some 1 }

def pool18 : Array CpInfo := pool [(2, .class_ 4), (1, u "java/lang/Object"), (0, u "<init>"), (0, u "()V"), (7, .class_ 16), (1, u "java/util/Arrays"), (57, .class_ 76), (1, u "java/util/Arrays$NaturalOrder"), (32, u "()Ljava/lang/Object;"), (3, .class_ 115), (1, u "java/util/Arrays$LegacyMergeSort"), (1, u "Z"), (10, .nameAndType 129 109), (0, u "clone"), (9, u "copyOfRange"), (10, .methodref 151 152), (0, .class_ 153), (0, .nameAndType 154 155), (0, u "java/lang/System"), (0, u "arraycopy"), (0, u "(Ljava/lang/Object;ILjava/lang/Object;II)V"), (146, u "copyOf"), (1, .methodref 305 306), (0, .class_ 307), (0, .nameAndType 308 309), (0, u "java/lang/Math"), (0, u "min"), (0, u "(II)I"), (0, .methodref 311 128), (0, .class_ 312), (0, u "[B"), (26, .methodref 14 340), (0, .nameAndType 341 342), (0, u "copyOfRangeByte"), (0, u "([BII)[B"), (0, .methodref 14 344), (0, .nameAndType 345 346), (0, u "checkLength"), (0, u "(II)V"), (28, .class_ 376), (0, u "java/util/Arrays$ArrayList"), (68, u "$assertionsDisabled"), (269, u "MIN_ARRAY_SORT_GRAN"), (0, u "I"), (2, u "INSERTIONSORT_THRESHOLD"), (149, u "([BI)[B"), (105, .class_ 976), (0, u "java/util/Arrays$ArrayItr")] 52

def k18m0 : Method := { name := "<init>", desc := "()V", sig := { parameters := [], returnType := none }, accessFlags := 2, code := none }
def k18c1 : Code := { maxStack := 6, maxLocals := 3, code := jdk_65_method_121_code, exceptionTable := #[], attributes := #[] }
def k18m1 : Method := { name := "copyOf", desc := "([BI)[B", sig := { parameters := [(.array .byte), .int], returnType := some (.array .byte) }, accessFlags := 9, code := some k18c1 }
def k18c2 : Code := { maxStack := 4, maxLocals := 2, code := jdk_65_method_131_code, exceptionTable := #[], attributes := #[] }
def k18m2 : Method := { name := "checkLength", desc := "(II)V", sig := { parameters := [.int, .int], returnType := none }, accessFlags := 10, code := some k18c2 }
def k18c3 : Code := { maxStack := 3, maxLocals := 3, code := jdk_65_method_132_code, exceptionTable := #[], attributes := #[] }
def k18m3 : Method := { name := "copyOfRange", desc := "([BII)[B", sig := { parameters := [(.array .byte), .int, .int], returnType := some (.array .byte) }, accessFlags := 9, code := some k18c3 }
def k18c4 : Code := { maxStack := 6, maxLocals := 5, code := jdk_65_method_133_code, exceptionTable := #[], attributes := #[] }
def k18m4 : Method := { name := "copyOfRangeByte", desc := "([BII)[B", sig := { parameters := [(.array .byte), .int, .int], returnType := some (.array .byte) }, accessFlags := 10, code := some k18c4 }
/-- java/util/Arrays -/
def k18 : Class := { plain "java/util/Arrays" (some 0) with
  accessFlags := 49
  interfaces := #[]
  cf := some (fileOf pool18 14 #[.nestMembers #[975, 375, 113, 74]] #[{ accessFlags := 2, nameIndex := 5, descriptorIndex := 6, attributes := #[] }, { accessFlags := 9, nameIndex := 302, descriptorIndex := 869, attributes := #[] }, { accessFlags := 10, nameIndex := 345, descriptorIndex := 346, attributes := #[] }, { accessFlags := 9, nameIndex := 139, descriptorIndex := 342, attributes := #[] }, { accessFlags := 10, nameIndex := 341, descriptorIndex := 342, attributes := #[] }] 49 2 #[] #[{ accessFlags := 26, nameIndex := 715, descriptorIndex := 716, attributes := #[] }, { accessFlags := 26, nameIndex := 719, descriptorIndex := 716, attributes := #[] }, { accessFlags := 4120, nameIndex := 445, descriptorIndex := 117, attributes := #[] }])
  fields := #[{ name := "MIN_ARRAY_SORT_GRAN", type := .int, accessFlags := 26, slot := 0, constantValue := 0 }, { name := "INSERTIONSORT_THRESHOLD", type := .int, accessFlags := 26, slot := 1, constantValue := 0 }, { name := "$assertionsDisabled", type := .boolean, accessFlags := 4120, slot := 2, constantValue := 0 }]
  methods := #[k18m0, k18m1, k18m2, k18m3, k18m4]
  instanceTypes := #[]
  staticTypes := #[.int, .int, .boolean]
  resolved := Array.replicate 1029 none
  statics := none }

def pool19 : Array CpInfo := pool [(1, .class_ 2), (0, u "java/lang/Math"), (1, .class_ 6), (1, u "java/lang/Object"), (0, u "<init>"), (0, u "()V"), (89, .class_ 100), (1, u "java/lang/Math$RandomNumberGeneratorHolder"), (71, u "negativeZeroFloatBits"), (0, u "J"), (2, u "negativeZeroDoubleBits"), (21, u "max"), (2, u "min"), (43, u "$assertionsDisabled"), (0, u "Z"), (88, u "(II)I"), (2, u "twoToTheDoubleScaleDown"), (0, u "D"), (4, u "twoToTheDoubleScaleUp"), (9, u "E"), (3, u "PI"), (2, u "TAU"), (2, u "DEGREES_TO_RADIANS"), (0, u "RADIANS_TO_DEGREES")] 94

def k19m0 : Method := { name := "<init>", desc := "()V", sig := { parameters := [], returnType := none }, accessFlags := 2, code := none }
def k19c1 : Code := { maxStack := 2, maxLocals := 2, code := jdk_29_method_65_code, exceptionTable := #[], attributes := #[] }
def k19m1 : Method := { name := "max", desc := "(II)I", sig := { parameters := [.int, .int], returnType := some .int }, accessFlags := 9, code := some k19c1 }
def k19c2 : Code := { maxStack := 2, maxLocals := 2, code := jdk_29_method_69_code, exceptionTable := #[], attributes := #[] }
def k19m2 : Method := { name := "min", desc := "(II)I", sig := { parameters := [.int, .int], returnType := some .int }, accessFlags := 9, code := some k19c2 }
/-- java/lang/Math -/
def k19 : Class := { plain "java/lang/Math" (some 0) with
  accessFlags := 49
  interfaces := #[]
  cf := some (fileOf pool19 1 #[.nestMembers #[98]] #[{ accessFlags := 2, nameIndex := 7, descriptorIndex := 8, attributes := #[] }, { accessFlags := 9, nameIndex := 198, descriptorIndex := 335, attributes := #[] }, { accessFlags := 9, nameIndex := 201, descriptorIndex := 335, attributes := #[] }] 49 4 #[] #[{ accessFlags := 25, nameIndex := 354, descriptorIndex := 339, attributes := #[] }, { accessFlags := 25, nameIndex := 358, descriptorIndex := 339, attributes := #[] }, { accessFlags := 25, nameIndex := 361, descriptorIndex := 339, attributes := #[] }, { accessFlags := 26, nameIndex := 364, descriptorIndex := 339, attributes := #[] }, { accessFlags := 26, nameIndex := 365, descriptorIndex := 339, attributes := #[] }, { accessFlags := 26, nameIndex := 172, descriptorIndex := 173, attributes := #[] }, { accessFlags := 26, nameIndex := 176, descriptorIndex := 173, attributes := #[] }, { accessFlags := 8, nameIndex := 344, descriptorIndex := 339, attributes := #[] }, { accessFlags := 8, nameIndex := 338, descriptorIndex := 339, attributes := #[] }, { accessFlags := 4120, nameIndex := 245, descriptorIndex := 246, attributes := #[] }])
  fields := #[{ name := "E", type := .double, accessFlags := 25, slot := 0, constantValue := 0 }, { name := "PI", type := .double, accessFlags := 25, slot := 1, constantValue := 0 }, { name := "TAU", type := .double, accessFlags := 25, slot := 2, constantValue := 0 }, { name := "DEGREES_TO_RADIANS", type := .double, accessFlags := 26, slot := 3, constantValue := 0 }, { name := "RADIANS_TO_DEGREES", type := .double, accessFlags := 26, slot := 4, constantValue := 0 }, { name := "negativeZeroFloatBits", type := .long, accessFlags := 26, slot := 5, constantValue := 0 }, { name := "negativeZeroDoubleBits", type := .long, accessFlags := 26, slot := 6, constantValue := 0 }, { name := "twoToTheDoubleScaleUp", type := .double, accessFlags := 8, slot := 7, constantValue := 0 }, { name := "twoToTheDoubleScaleDown", type := .double, accessFlags := 8, slot := 8, constantValue := 0 }, { name := "$assertionsDisabled", type := .boolean, accessFlags := 4120, slot := 9, constantValue := 0 }]
  methods := #[k19m0, k19m1, k19m2]
  instanceTypes := #[]
  staticTypes := #[.double, .double, .double, .double, .double, .long, .long, .double, .double, .boolean]
  resolved := Array.replicate 460 none
  statics := none }

def pool20 : Array CpInfo := pool [(1, .class_ 2), (0, u "java/lang/String"), (1, .class_ 6), (1, u "java/lang/Object"), (0, u "<init>"), (0, u "()V"), (0, .methodref 1 10), (0, .nameAndType 11 12), (0, u "checkIndex"), (0, u "(II)V"), (1, .class_ 16), (1, u "java/lang/StringLatin1"), (36, u "([BI)C"), (67, u "$assertionsDisabled"), (0, u "Z"), (98, .class_ 223), (1, u "java/lang/StringLatin1$LinesSpliterator"), (28, u "charAt"), (137, .class_ 391), (0, u "java/lang/StringLatin1$CharsSpliterator")] 3

def k20m0 : Method := { name := "<init>", desc := "()V", sig := { parameters := [], returnType := none }, accessFlags := 0, code := none }
def k20c1 : Code := { maxStack := 2, maxLocals := 2, code := jdk_43_method_2_code, exceptionTable := #[], attributes := #[] }
def k20m1 : Method := { name := "charAt", desc := "([BI)C", sig := { parameters := [(.array .byte), .int], returnType := some .char }, accessFlags := 9, code := some k20c1 }
/-- java/lang/StringLatin1 -/
def k20 : Class := { plain "java/lang/StringLatin1" (some 0) with
  accessFlags := 48
  interfaces := #[]
  cf := some (fileOf pool20 14 #[.nestMembers #[390, 221]] #[{ accessFlags := 0, nameIndex := 7, descriptorIndex := 8, attributes := #[] }, { accessFlags := 9, nameIndex := 252, descriptorIndex := 53, attributes := #[] }] 48 4 #[] #[{ accessFlags := 4120, nameIndex := 121, descriptorIndex := 122, attributes := #[] }])
  fields := #[{ name := "$assertionsDisabled", type := .boolean, accessFlags := 4120, slot := 0, constantValue := 0 }]
  methods := #[k20m0, k20m1]
  instanceTypes := #[]
  staticTypes := #[.boolean]
  resolved := Array.replicate 395 none
  statics := none }

def pool21 : Array CpInfo := pool [(2, .class_ 4), (1, u "java/lang/Object"), (0, u "<init>"), (0, u "()V"), (17, .class_ 26), (1, u "jdk/internal/util/Preconditions"), (6, u "checkIndex"), (21, .class_ 56), (0, u "jdk/internal/util/Preconditions$4"), (57, .class_ 115), (0, u "jdk/internal/util/Preconditions$1"), (7, u "SIOOBE_FORMATTER"), (0, u "Ljava/util/function/BiFunction;"), (0, .class_ 126), (0, u "jdk/internal/util/Preconditions$2"), (3, u "AIOOBE_FORMATTER"), (0, .class_ 132), (0, u "jdk/internal/util/Preconditions$3"), (3, u "IOOBE_FORMATTER"), (41, u "(IILjava/util/function/BiFunction;)I")] 15

def k21m0 : Method := { name := "<init>", desc := "()V", sig := { parameters := [], returnType := none }, accessFlags := 1, code := none }
def k21c1 : Code := { maxStack := 3, maxLocals := 3, code := jdk_41_method_11_code, exceptionTable := #[], attributes := #[] }
def k21m1 : Method := { name := "checkIndex", desc := "(IILjava/util/function/BiFunction;)I", sig := { parameters := [.int, .int, (.object "java/util/function/BiFunction")], returnType := some .int }, accessFlags := 9, code := some k21c1 }
/-- jdk/internal/util/Preconditions -/
def k21 : Class := { plain "jdk/internal/util/Preconditions" (some 0) with
  accessFlags := 33
  interfaces := #[]
  cf := some (fileOf pool21 24 #[.nestMembers #[55, 131, 125, 114]] #[{ accessFlags := 1, nameIndex := 5, descriptorIndex := 6, attributes := #[] }, { accessFlags := 9, nameIndex := 33, descriptorIndex := 178, attributes := #[] }] 33 2 #[] #[{ accessFlags := 25, nameIndex := 123, descriptorIndex := 124, attributes := #[] }, { accessFlags := 25, nameIndex := 130, descriptorIndex := 124, attributes := #[] }, { accessFlags := 25, nameIndex := 136, descriptorIndex := 124, attributes := #[] }])
  fields := #[{ name := "SIOOBE_FORMATTER", type := (.object "java/util/function/BiFunction"), accessFlags := 25, slot := 0, constantValue := 0 }, { name := "AIOOBE_FORMATTER", type := (.object "java/util/function/BiFunction"), accessFlags := 25, slot := 1, constantValue := 0 }, { name := "IOOBE_FORMATTER", type := (.object "java/util/function/BiFunction"), accessFlags := 25, slot := 2, constantValue := 0 }]
  methods := #[k21m0, k21m1]
  instanceTypes := #[]
  staticTypes := #[(.object "java/util/function/BiFunction"), (.object "java/util/function/BiFunction"), (.object "java/util/function/BiFunction")]
  resolved := Array.replicate 194 none
  statics := some 2 }

def pool22 : Array CpInfo := pool [(9, u "<init>"), (6, .class_ 18), (1, u "java/lang/Object"), (0, u "()V"), (1, .class_ 23), (1, u "jdk/internal/util/ArraysSupport"), (0, u "LOG2_ARRAY_LONG_INDEX_SCALE"), (0, u "I"), (2, u "U"), (0, u "Ljdk/internal/misc/Unsafe;"), (8, u "BIG_ENDIAN"), (0, u "Z"), (8, u "LOG2_BYTE_BIT_SIZE"), (4, u "LOG2_ARRAY_INT_INDEX_SCALE"), (54, u "JLA"), (0, u "Ljdk/internal/access/JavaLangAccess;"), (11, u "LOG2_ARRAY_BOOLEAN_INDEX_SCALE"), (9, u "LOG2_ARRAY_BYTE_INDEX_SCALE"), (5, u "LOG2_ARRAY_CHAR_INDEX_SCALE"), (5, u "LOG2_ARRAY_SHORT_INDEX_SCALE"), (18, u "LOG2_ARRAY_FLOAT_INDEX_SCALE"), (24, u "LOG2_ARRAY_DOUBLE_INDEX_SCALE"), (6, .methodref 195 196), (0, .class_ 197), (0, .nameAndType 198 199), (0, u "java/lang/Math"), (0, u "max"), (0, u "(II)I"), (0, .integer 2147483639), (76, u "T_BOOLEAN"), (2, u "T_CHAR"), (1, u "T_FLOAT"), (1, u "T_DOUBLE"), (1, u "T_BYTE"), (1, u "T_SHORT"), (1, u "T_INT"), (1, u "T_LONG"), (1, u "SOFT_MAX_ARRAY_LENGTH"), (56, u "newLength"), (0, u "(III)I")] 25

def k22m0 : Method := { name := "<init>", desc := "()V", sig := { parameters := [], returnType := none }, accessFlags := 2, code := none }
def k22c1 : Code := { maxStack := 3, maxLocals := 4, code := jdk_48_method_27_code, exceptionTable := #[], attributes := #[] }
def k22m1 : Method := { name := "newLength", desc := "(III)I", sig := { parameters := [.int, .int, .int], returnType := some .int }, accessFlags := 9, code := some k22c1 }
/-- jdk/internal/util/ArraysSupport -/
def k22 : Class := { plain "jdk/internal/util/ArraysSupport" (some 0) with
  accessFlags := 33
  interfaces := #[]
  cf := some (fileOf pool22 21 #[] #[{ accessFlags := 2, nameIndex := 9, descriptorIndex := 19, attributes := #[] }, { accessFlags := 9, nameIndex := 351, descriptorIndex := 352, attributes := #[] }] 33 16 #[] #[{ accessFlags := 24, nameIndex := 28, descriptorIndex := 29, attributes := #[] }, { accessFlags := 26, nameIndex := 38, descriptorIndex := 39, attributes := #[] }, { accessFlags := 25, nameIndex := 121, descriptorIndex := 25, attributes := #[] }, { accessFlags := 25, nameIndex := 131, descriptorIndex := 25, attributes := #[] }, { accessFlags := 25, nameIndex := 137, descriptorIndex := 25, attributes := #[] }, { accessFlags := 25, nameIndex := 143, descriptorIndex := 25, attributes := #[] }, { accessFlags := 25, nameIndex := 53, descriptorIndex := 25, attributes := #[] }, { accessFlags := 25, nameIndex := 24, descriptorIndex := 25, attributes := #[] }, { accessFlags := 25, nameIndex := 162, descriptorIndex := 25, attributes := #[] }, { accessFlags := 25, nameIndex := 187, descriptorIndex := 25, attributes := #[] }, { accessFlags := 26, nameIndex := 48, descriptorIndex := 25, attributes := #[] }, { accessFlags := 25, nameIndex := 277, descriptorIndex := 25, attributes := #[] }, { accessFlags := 25, nameIndex := 280, descriptorIndex := 25, attributes := #[] }, { accessFlags := 25, nameIndex := 282, descriptorIndex := 25, attributes := #[] }, { accessFlags := 25, nameIndex := 284, descriptorIndex := 25, attributes := #[] }, { accessFlags := 25, nameIndex := 286, descriptorIndex := 25, attributes := #[] }, { accessFlags := 25, nameIndex := 288, descriptorIndex := 25, attributes := #[] }, { accessFlags := 25, nameIndex := 290, descriptorIndex := 25, attributes := #[] }, { accessFlags := 25, nameIndex := 292, descriptorIndex := 25, attributes := #[] }, { accessFlags := 26, nameIndex := 108, descriptorIndex := 109, attributes := #[] }, { accessFlags := 25, nameIndex := 294, descriptorIndex := 25, attributes := #[] }])
  fields := #[{ name := "U", type := (.object "jdk/internal/misc/Unsafe"), accessFlags := 24, slot := 0, constantValue := 0 }, { name := "BIG_ENDIAN", type := .boolean, accessFlags := 26, slot := 1, constantValue := 0 }, { name := "LOG2_ARRAY_BOOLEAN_INDEX_SCALE", type := .int, accessFlags := 25, slot := 2, constantValue := 0 }, { name := "LOG2_ARRAY_BYTE_INDEX_SCALE", type := .int, accessFlags := 25, slot := 3, constantValue := 0 }, { name := "LOG2_ARRAY_CHAR_INDEX_SCALE", type := .int, accessFlags := 25, slot := 4, constantValue := 0 }, { name := "LOG2_ARRAY_SHORT_INDEX_SCALE", type := .int, accessFlags := 25, slot := 5, constantValue := 0 }, { name := "LOG2_ARRAY_INT_INDEX_SCALE", type := .int, accessFlags := 25, slot := 6, constantValue := 0 }, { name := "LOG2_ARRAY_LONG_INDEX_SCALE", type := .int, accessFlags := 25, slot := 7, constantValue := 0 }, { name := "LOG2_ARRAY_FLOAT_INDEX_SCALE", type := .int, accessFlags := 25, slot := 8, constantValue := 0 }, { name := "LOG2_ARRAY_DOUBLE_INDEX_SCALE", type := .int, accessFlags := 25, slot := 9, constantValue := 0 }, { name := "LOG2_BYTE_BIT_SIZE", type := .int, accessFlags := 26, slot := 10, constantValue := 0 }, { name := "T_BOOLEAN", type := .int, accessFlags := 25, slot := 11, constantValue := 0 }, { name := "T_CHAR", type := .int, accessFlags := 25, slot := 12, constantValue := 0 }, { name := "T_FLOAT", type := .int, accessFlags := 25, slot := 13, constantValue := 0 }, { name := "T_DOUBLE", type := .int, accessFlags := 25, slot := 14, constantValue := 0 }, { name := "T_BYTE", type := .int, accessFlags := 25, slot := 15, constantValue := 0 }, { name := "T_SHORT", type := .int, accessFlags := 25, slot := 16, constantValue := 0 }, { name := "T_INT", type := .int, accessFlags := 25, slot := 17, constantValue := 0 }, { name := "T_LONG", type := .int, accessFlags := 25, slot := 18, constantValue := 0 }, { name := "JLA", type := (.object "jdk/internal/access/JavaLangAccess"), accessFlags := 26, slot := 19, constantValue := 0 }, { name := "SOFT_MAX_ARRAY_LENGTH", type := .int, accessFlags := 25, slot := 20, constantValue := 0 }]
  methods := #[k22m0, k22m1]
  instanceTypes := #[]
  staticTypes := #[(.object "jdk/internal/misc/Unsafe"), .boolean, .int, .int, .int, .int, .int, .int, .int, .int, .int, .int, .int, .int, .int, .int, .int, .int, .int, (.object "jdk/internal/access/JavaLangAccess"), .int]
  resolved := Array.replicate 378 none
  statics := none }

def pool23 : Array CpInfo := pool [(1, .class_ 2), (0, u "java/lang/Cloneable"), (0, .class_ 4), (0, u "java/lang/Object")] 2

/-- java/lang/Cloneable -/
def k23 : Class := { plain "java/lang/Cloneable" (some 0) with
  accessFlags := 1537
  interfaces := #[]
  cf := some (fileOf pool23 1 #[] #[] 1537 3 #[] #[])
  fields := #[]
  methods := #[]
  instanceTypes := #[]
  staticTypes := #[]
  resolved := Array.replicate 7 none
  statics := none }

/-- the primitive byte -/
def k24 : Class := { plain "byte" none with kind := .primitive 'B', accessFlags := 0x411 }
/-- [B -/
def k25 : Class := { plain "[B" (some 0) with kind := .array 24 .byte, interfaces := #[23, 2], accessFlags := 1041 }

/-- the primitive char -/
def k26 : Class := { plain "char" none with kind := .primitive 'C', accessFlags := 0x411 }
/-- [C -/
def k27 : Class := { plain "[C" (some 0) with kind := .array 26 .char, interfaces := #[23, 2], accessFlags := 1041 }

/-- the primitive int -/
def k28 : Class := { plain "int" none with kind := .primitive 'I', accessFlags := 0x411 }
/-- [I -/
def k29 : Class := { plain "[I" (some 0) with kind := .array 28 .int, interfaces := #[23, 2], accessFlags := 1041 }

def heap : Heap := #[{ cls := 7, slots := #[.long 0, .int 1, .null, .int 0, .null, .int 0, .int 0], vm := .statics 7 },
  { cls := 17, slots := #[.int 0, .int 0, .null, .null, .ref 4, .ref 3, .int 0, .int 0, .long 0], vm := .statics 17 },
  { cls := 21, slots := #[.null, .null, .null], vm := .statics 21 },
  { cls := 25, slots := #[.int 48, .int 49, .int 50, .int 51, .int 52, .int 53, .int 54, .int 55, .int 56, .int 57, .int 48, .int 49, .int 50, .int 51, .int 52, .int 53, .int 54, .int 55, .int 56, .int 57, .int 48, .int 49, .int 50, .int 51, .int 52, .int 53, .int 54, .int 55, .int 56, .int 57, .int 48, .int 49, .int 50, .int 51, .int 52, .int 53, .int 54, .int 55, .int 56, .int 57, .int 48, .int 49, .int 50, .int 51, .int 52, .int 53, .int 54, .int 55, .int 56, .int 57, .int 48, .int 49, .int 50, .int 51, .int 52, .int 53, .int 54, .int 55, .int 56, .int 57, .int 48, .int 49, .int 50, .int 51, .int 52, .int 53, .int 54, .int 55, .int 56, .int 57, .int 48, .int 49, .int 50, .int 51, .int 52, .int 53, .int 54, .int 55, .int 56, .int 57, .int 48, .int 49, .int 50, .int 51, .int 52, .int 53, .int 54, .int 55, .int 56, .int 57, .int 48, .int 49, .int 50, .int 51, .int 52, .int 53, .int 54, .int 55, .int 56, .int 57], vm := .none },
  { cls := 25, slots := #[.int 48, .int 48, .int 48, .int 48, .int 48, .int 48, .int 48, .int 48, .int 48, .int 48, .int 49, .int 49, .int 49, .int 49, .int 49, .int 49, .int 49, .int 49, .int 49, .int 49, .int 50, .int 50, .int 50, .int 50, .int 50, .int 50, .int 50, .int 50, .int 50, .int 50, .int 51, .int 51, .int 51, .int 51, .int 51, .int 51, .int 51, .int 51, .int 51, .int 51, .int 52, .int 52, .int 52, .int 52, .int 52, .int 52, .int 52, .int 52, .int 52, .int 52, .int 53, .int 53, .int 53, .int 53, .int 53, .int 53, .int 53, .int 53, .int 53, .int 53, .int 54, .int 54, .int 54, .int 54, .int 54, .int 54, .int 54, .int 54, .int 54, .int 54, .int 55, .int 55, .int 55, .int 55, .int 55, .int 55, .int 55, .int 55, .int 55, .int 55, .int 56, .int 56, .int 56, .int 56, .int 56, .int 56, .int 56, .int 56, .int 56, .int 56, .int 57, .int 57, .int 57, .int 57, .int 57, .int 57, .int 57, .int 57, .int 57, .int 57], vm := .none }]
def classes : Array Class := #[k0, k1, k2, k3, k4, k5, k6, k7, k8, k9, k10, k11, k12, k13, k14, k15, k16, k17, k18, k19, k20, k21, k22, k23, k24, k25, k26, k27, k28, k29]
def interned : List (Array UInt16 × Addr) := []
def slotsUsed : Nat := 219
def theMethod : MethodId := ⟨1, 1⟩
def args0 : Array Value := #[.int 25185, .int 25699, .int 12, .int 3]
def aboutOver (below : List Frame) : State where
  vm := { classes := classes, interned := interned.toArray }
  heap := heap
  slotsUsed := slotsUsed
  threads := #[{ frames := .invoking theMethod args0 :: below }]
def below0 : List Frame := [.native { method := ⟨0, 0⟩, args := #[] }]
def about1 : State := aboutOver below0
def p0 : Program := .bare "" "" ""
def e0 : Env := launch0.env 0 0 0
theorem w_frames : about1.frames = Frame.invoking theMethod args0 :: below0 := rfl
set_option maxRecDepth 65536 in
theorem w_args : argsFit about1.vm theMethod args0 = true := by decide +kernel
set_option maxRecDepth 65536 in
theorem w_heap : heapFits about1 = true := by decide +kernel
set_option maxRecDepth 65536 in
theorem w_runnable : about1.curStatus? = some .runnable := by decide +kernel
set_option maxRecDepth 65536 in
theorem w_alone : about1.alone = true := by decide +kernel
set_option maxRecDepth 65536 in
theorem w_named : about1.methodNamed? x = some theMethod := by decide +kernel
set_option maxRecDepth 65536 in
theorem w_hears : about1.hears theMethod below0 = true := by decide +kernel
set_option maxRecDepth 65536 in
theorem w_ripe : about1.ripe theMethod args0 below0 = true := by decide +kernel
theorem w_running : about1.status = .running := rfl
set_option maxRecDepth 65536 in
theorem w_room : about1.hasRoom e0.platform room_1 = true :=
  launch0.hasRoom_least _ room_1 (by decide +kernel) (by decide +kernel) (by decide +kernel) (by decide +kernel) (by decide +kernel) (by decide +kernel)
theorem allAtoms_all (ts : List Jvm.Cond) (a : Array Jvm.Value) (st : Jvm.State) : (allAtoms ts).before a st = ts.all (fun c => c.before a st) := by
  induction ts with
  | nil => rfl
  | cons c t ih =>
    show (Jvm.Cond.and c (allAtoms t)).before a st = _
    rw [Jvm.Cond.before_and, ih, List.all_cons]
def words1 : List Jvm.Cond := Jvm.Cond.code x code maxLocals ret :: tables_1
/-- a 'code' word, met by the world's own term for the bytes: nothing is compared byte by byte -/
theorem code_word {y : MethodName} {bytes : ByteArray} {mx : Nat} {rt : Option FieldType} {a : Array Value} {s : State} {m : MethodId} {meth : Method} {c : Code} (h1 : s.methodNamed? y = some m) (h2 : s.vm.method? m = some meth) (h3 : meth.code = some c) (h4 : c.code = bytes)
    (h5 : (c.maxLocals == mx && c.exceptionTable.isEmpty && decide (c.maxStack ≤ mostOperands) && decide (meth.sig.returnType = rt) && !meth.locks && decide (parseMethodDescriptor y.desc = some meth.sig)) = true) : (Jvm.Cond.code y bytes mx rt).before a s = true := by
  simp only [Bool.and_eq_true, beq_iff_eq, Bool.not_eq_true', decide_eq_true_eq] at h5
  obtain ⟨⟨⟨⟨⟨g1, g2⟩, g3⟩, g4⟩, g5⟩, g6⟩ := h5
  simp [Cond.before, Cond.holds, Cond.value, h1, h2, h3, h4, g1, g2, g3, g4, g5, g6]
def isCode : Jvm.Cond → Bool
  | .code _ _ _ _ => true
  | _ => false
theorem all_split {L : List Jvm.Cond} {P : Jvm.Cond → Bool} (h1 : L.all (fun c => isCode c || P c) = true) (h2 : ∀ c ∈ L.filter isCode, P c = true) : L.all P = true := by
  refine List.all_eq_true.mpr fun c hc => ?_
  have h := List.all_eq_true.mp h1 c hc
  rcases Bool.eq_false_or_eq_true (isCode c) with hi | hi
  · exact h2 c (List.mem_filter.mpr ⟨hc, hi⟩)
  · simpa [hi] using h
set_option maxRecDepth 65536 in
theorem w_c0 : (Jvm.Cond.code x code maxLocals ret).before args0 about1 = true := code_word (m := ⟨1, 1⟩) (meth := k1m1) (c := k1c1) (by decide +kernel) rfl rfl rfl (by decide +kernel)
set_option maxRecDepth 65536 in
theorem w_c1 : (Jvm.Cond.code ({ cls := "java/lang/String", name := "<init>", desc := "([C)V" } : Jvm.MethodName) jdk_42_method_3_code (2 : Nat) (Option.none : Option Jvm.ClassFile.FieldType)).before args0 about1 = true := code_word (m := ⟨7, 1⟩) (meth := k7m1) (c := k7c1) (by decide +kernel) rfl rfl rfl (by decide +kernel)
set_option maxRecDepth 65536 in
theorem w_c2 : (Jvm.Cond.code ({ cls := "java/lang/String", name := "<init>", desc := "([CIILjava/lang/Void;)V" } : Jvm.MethodName) jdk_42_method_149_code (6 : Nat) (Option.none : Option Jvm.ClassFile.FieldType)).before args0 about1 = true := code_word (m := ⟨7, 6⟩) (meth := k7m6) (c := k7c6) (by decide +kernel) rfl rfl rfl (by decide +kernel)
set_option maxRecDepth 65536 in
theorem w_c3 : (Jvm.Cond.code ({ cls := "java/lang/Object", name := "<init>", desc := "()V" } : Jvm.MethodName) object_method_1_code (1 : Nat) (Option.none : Option Jvm.ClassFile.FieldType)).before args0 about1 = true := code_word (m := ⟨0, 0⟩) (meth := k0m0) (c := k0c0) (by decide +kernel) rfl rfl rfl (by decide +kernel)
set_option maxRecDepth 65536 in
theorem w_c4 : (Jvm.Cond.code ({ cls := "java/lang/StringUTF16", name := "compress", desc := "([CII)[B" } : Jvm.MethodName) jdk_52_method_16_code (6 : Nat) (Option.some (Jvm.ClassFile.FieldType.array Jvm.ClassFile.FieldType.byte))).before args0 about1 = true := code_word (m := ⟨8, 2⟩) (meth := k8m2) (c := k8c2) (by decide +kernel) rfl rfl rfl (by decide +kernel)
set_option maxRecDepth 65536 in
theorem w_c5 : (Jvm.Cond.code ({ cls := "java/lang/StringUTF16", name := "compress", desc := "([CI[BII)I" } : Jvm.MethodName) jdk_52_method_21_code (7 : Nat) (Option.some Jvm.ClassFile.FieldType.int)).before args0 about1 = true := code_word (m := ⟨8, 3⟩) (meth := k8m3) (c := k8c3) (by decide +kernel) rfl rfl rfl (by decide +kernel)
set_option maxRecDepth 65536 in
theorem w_c6 : (Jvm.Cond.code ({ cls := "java/lang/StringUTF16", name := "coderFromArrayLen", desc := "([BI)B" } : Jvm.MethodName) jdk_52_method_15_code (2 : Nat) (Option.some Jvm.ClassFile.FieldType.byte)).before args0 about1 = true := code_word (m := ⟨8, 1⟩) (meth := k8m1) (c := k8c1) (by decide +kernel) rfl rfl rfl (by decide +kernel)
set_option maxRecDepth 65536 in
theorem w_c7 : (Jvm.Cond.code ({ cls := "com/example/gantry/gantry/descriptor/DescriptorException", name := "message", desc := "(Ljava/lang/String;IILjava/lang/String;)Ljava/lang/String;" } : Jvm.MethodName) prog_3_method_2_code (4 : Nat) (Option.some (Jvm.ClassFile.FieldType.object "java/lang/String"))).before args0 about1 = true := code_word (m := ⟨11, 0⟩) (meth := k11m0) (c := k11c0) (by decide +kernel) rfl rfl rfl (by decide +kernel)
set_option maxRecDepth 65536 in
theorem w_c8 : (Jvm.Cond.code ({ cls := "java/lang/StringBuilder", name := "<init>", desc := "()V" } : Jvm.MethodName) jdk_67_method_1_code (1 : Nat) (Option.none : Option Jvm.ClassFile.FieldType)).before args0 about1 = true := code_word (m := ⟨14, 0⟩) (meth := k14m0) (c := k14c0) (by decide +kernel) rfl rfl rfl (by decide +kernel)
set_option maxRecDepth 65536 in
theorem w_c9 : (Jvm.Cond.code ({ cls := "java/lang/AbstractStringBuilder", name := "<init>", desc := "(I)V" } : Jvm.MethodName) jdk_68_method_2_code (2 : Nat) (Option.none : Option Jvm.ClassFile.FieldType)).before args0 about1 = true := code_word (m := ⟨13, 1⟩) (meth := k13m1) (c := k13c1) (by decide +kernel) rfl rfl rfl (by decide +kernel)
set_option maxRecDepth 65536 in
theorem w_c10 : (Jvm.Cond.code ({ cls := "java/lang/StringBuilder", name := "append", desc := "(Ljava/lang/String;)Ljava/lang/StringBuilder;" } : Jvm.MethodName) jdk_67_method_7_code (2 : Nat) (Option.some (Jvm.ClassFile.FieldType.object "java/lang/StringBuilder"))).before args0 about1 = true := code_word (m := ⟨14, 1⟩) (meth := k14m1) (c := k14c1) (by decide +kernel) rfl rfl rfl (by decide +kernel)
set_option maxRecDepth 65536 in
theorem w_c11 : (Jvm.Cond.code ({ cls := "java/lang/AbstractStringBuilder", name := "append", desc := "(Ljava/lang/String;)Ljava/lang/AbstractStringBuilder;" } : Jvm.MethodName) jdk_68_method_22_code (3 : Nat) (Option.some (Jvm.ClassFile.FieldType.object "java/lang/AbstractStringBuilder"))).before args0 about1 = true := code_word (m := ⟨13, 5⟩) (meth := k13m5) (c := k13c5) (by decide +kernel) rfl rfl rfl (by decide +kernel)
set_option maxRecDepth 65536 in
theorem w_c12 : (Jvm.Cond.code ({ cls := "java/lang/String", name := "length", desc := "()I" } : Jvm.MethodName) jdk_42_method_54_code (1 : Nat) (Option.some Jvm.ClassFile.FieldType.int)).before args0 about1 = true := code_word (m := ⟨7, 3⟩) (meth := k7m3) (c := k7c3) (by decide +kernel) rfl rfl rfl (by decide +kernel)
set_option maxRecDepth 65536 in
theorem w_c13 : (Jvm.Cond.code ({ cls := "java/lang/String", name := "coder", desc := "()B" } : Jvm.MethodName) jdk_42_method_152_code (1 : Nat) (Option.some Jvm.ClassFile.FieldType.byte)).before args0 about1 = true := code_word (m := ⟨7, 8⟩) (meth := k7m8) (c := k7c8) (by decide +kernel) rfl rfl rfl (by decide +kernel)
set_option maxRecDepth 65536 in
theorem w_c14 : (Jvm.Cond.code ({ cls := "java/lang/AbstractStringBuilder", name := "ensureCapacityInternal", desc := "(I)V" } : Jvm.MethodName) jdk_68_method_9_code (3 : Nat) (Option.none : Option Jvm.ClassFile.FieldType)).before args0 about1 = true := code_word (m := ⟨13, 3⟩) (meth := k13m3) (c := k13c3) (by decide +kernel) rfl rfl rfl (by decide +kernel)
set_option maxRecDepth 65536 in
theorem w_c15 : (Jvm.Cond.code ({ cls := "java/lang/AbstractStringBuilder", name := "putStringAt", desc := "(ILjava/lang/String;)V" } : Jvm.MethodName) jdk_68_method_73_code (3 : Nat) (Option.none : Option Jvm.ClassFile.FieldType)).before args0 about1 = true := code_word (m := ⟨13, 10⟩) (meth := k13m10) (c := k13c10) (by decide +kernel) rfl rfl rfl (by decide +kernel)
set_option maxRecDepth 65536 in
theorem w_c16 : (Jvm.Cond.code ({ cls := "java/lang/AbstractStringBuilder", name := "inflateIfNeededFor", desc := "(Ljava/lang/String;)V" } : Jvm.MethodName) jdk_68_method_71_code (2 : Nat) (Option.none : Option Jvm.ClassFile.FieldType)).before args0 about1 = true := code_word (m := ⟨13, 9⟩) (meth := k13m9) (c := k13c9) (by decide +kernel) rfl rfl rfl (by decide +kernel)
set_option maxRecDepth 65536 in
theorem w_c17 : (Jvm.Cond.code ({ cls := "java/lang/String", name := "getBytes", desc := "([BIB)V" } : Jvm.MethodName) jdk_42_method_147_code (4 : Nat) (Option.none : Option Jvm.ClassFile.FieldType)).before args0 about1 = true := code_word (m := ⟨7, 5⟩) (meth := k7m5) (c := k7c5) (by decide +kernel) rfl rfl rfl (by decide +kernel)
set_option maxRecDepth 65536 in
theorem w_c18 : (Jvm.Cond.code ({ cls := "com/example/gantry/gantry/descriptor/DescriptorException", name := "position", desc := "(II)Ljava/lang/String;" } : Jvm.MethodName) prog_3_method_3_code (2 : Nat) (Option.some (Jvm.ClassFile.FieldType.object "java/lang/String"))).before args0 about1 = true := code_word (m := ⟨11, 1⟩) (meth := k11m1) (c := k11c1) (by decide +kernel) rfl rfl rfl (by decide +kernel)
set_option maxRecDepth 65536 in
theorem w_c19 : (Jvm.Cond.code ({ cls := "java/lang/StringBuilder", name := "append", desc := "(I)Ljava/lang/StringBuilder;" } : Jvm.MethodName) jdk_67_method_15_code (2 : Nat) (Option.some (Jvm.ClassFile.FieldType.object "java/lang/StringBuilder"))).before args0 about1 = true := code_word (m := ⟨14, 2⟩) (meth := k14m2) (c := k14c2) (by decide +kernel) rfl rfl rfl (by decide +kernel)
set_option maxRecDepth 65536 in
theorem w_c20 : (Jvm.Cond.code ({ cls := "java/lang/AbstractStringBuilder", name := "append", desc := "(I)Ljava/lang/AbstractStringBuilder;" } : Jvm.MethodName) jdk_68_method_32_code (4 : Nat) (Option.some (Jvm.ClassFile.FieldType.object "java/lang/AbstractStringBuilder"))).before args0 about1 = true := code_word (m := ⟨13, 6⟩) (meth := k13m6) (c := k13c6) (by decide +kernel) rfl rfl rfl (by decide +kernel)
set_option maxRecDepth 65536 in
theorem w_c21 : (Jvm.Cond.code ({ cls := "java/lang/Integer", name := "stringSize", desc := "(I)I" } : Jvm.MethodName) jdk_33_method_13_code (4 : Nat) (Option.some Jvm.ClassFile.FieldType.int)).before args0 about1 = true := code_word (m := ⟨17, 1⟩) (meth := k17m1) (c := k17c1) (by decide +kernel) rfl rfl rfl (by decide +kernel)
set_option maxRecDepth 65536 in
theorem w_c22 : (Jvm.Cond.code ({ cls := "java/lang/AbstractStringBuilder", name := "isLatin1", desc := "()Z" } : Jvm.MethodName) jdk_68_method_68_code (1 : Nat) (Option.some Jvm.ClassFile.FieldType.boolean)).before args0 about1 = true := code_word (m := ⟨13, 8⟩) (meth := k13m8) (c := k13c8) (by decide +kernel) rfl rfl rfl (by decide +kernel)
set_option maxRecDepth 65536 in
theorem w_c23 : (Jvm.Cond.code ({ cls := "java/lang/Integer", name := "getChars", desc := "(II[B)I" } : Jvm.MethodName) jdk_33_method_12_code (7 : Nat) (Option.some Jvm.ClassFile.FieldType.int)).before args0 about1 = true := code_word (m := ⟨17, 0⟩) (meth := k17m0) (c := k17c0) (by decide +kernel) rfl rfl rfl (by decide +kernel)
set_option maxRecDepth 65536 in
theorem w_c24 : (Jvm.Cond.code ({ cls := "java/lang/StringBuilder", name := "toString", desc := "()Ljava/lang/String;" } : Jvm.MethodName) jdk_67_method_42_code (1 : Nat) (Option.some (Jvm.ClassFile.FieldType.object "java/lang/String"))).before args0 about1 = true := code_word (m := ⟨14, 3⟩) (meth := k14m3) (c := k14c3) (by decide +kernel) rfl rfl rfl (by decide +kernel)
set_option maxRecDepth 65536 in
theorem w_c25 : (Jvm.Cond.code ({ cls := "java/lang/String", name := "<init>", desc := "(Ljava/lang/StringBuilder;)V" } : Jvm.MethodName) jdk_42_method_53_code (2 : Nat) (Option.none : Option Jvm.ClassFile.FieldType)).before args0 about1 = true := code_word (m := ⟨7, 2⟩) (meth := k7m2) (c := k7c2) (by decide +kernel) rfl rfl rfl (by decide +kernel)
set_option maxRecDepth 65536 in
theorem w_c26 : (Jvm.Cond.code ({ cls := "java/lang/String", name := "<init>", desc := "(Ljava/lang/AbstractStringBuilder;Ljava/lang/Void;)V" } : Jvm.MethodName) jdk_42_method_150_code (5 : Nat) (Option.none : Option Jvm.ClassFile.FieldType)).before args0 about1 = true := code_word (m := ⟨7, 7⟩) (meth := k7m7) (c := k7c7) (by decide +kernel) rfl rfl rfl (by decide +kernel)
set_option maxRecDepth 65536 in
theorem w_c27 : (Jvm.Cond.code ({ cls := "java/lang/AbstractStringBuilder", name := "getValue", desc := "()[B" } : Jvm.MethodName) jdk_68_method_64_code (1 : Nat) (Option.some (Jvm.ClassFile.FieldType.array Jvm.ClassFile.FieldType.byte))).before args0 about1 = true := code_word (m := ⟨13, 7⟩) (meth := k13m7) (c := k13c7) (by decide +kernel) rfl rfl rfl (by decide +kernel)
set_option maxRecDepth 65536 in
theorem w_c28 : (Jvm.Cond.code ({ cls := "java/lang/StringBuilder", name := "length", desc := "()I" } : Jvm.MethodName) jdk_67_method_93_code (1 : Nat) (Option.some Jvm.ClassFile.FieldType.int)).before args0 about1 = true := code_word (m := ⟨14, 4⟩) (meth := k14m4) (c := k14c4) (by decide +kernel) rfl rfl rfl (by decide +kernel)
set_option maxRecDepth 65536 in
theorem w_c29 : (Jvm.Cond.code ({ cls := "java/lang/AbstractStringBuilder", name := "length", desc := "()I" } : Jvm.MethodName) jdk_68_method_6_code (1 : Nat) (Option.some Jvm.ClassFile.FieldType.int)).before args0 about1 = true := code_word (m := ⟨13, 2⟩) (meth := k13m2) (c := k13c2) (by decide +kernel) rfl rfl rfl (by decide +kernel)
set_option maxRecDepth 65536 in
theorem w_c30 : (Jvm.Cond.code ({ cls := "java/util/Arrays", name := "copyOfRange", desc := "([BII)[B" } : Jvm.MethodName) jdk_65_method_132_code (3 : Nat) (Option.some (Jvm.ClassFile.FieldType.array Jvm.ClassFile.FieldType.byte))).before args0 about1 = true := code_word (m := ⟨18, 3⟩) (meth := k18m3) (c := k18c3) (by decide +kernel) rfl rfl rfl (by decide +kernel)
set_option maxRecDepth 65536 in
theorem w_c31 : (Jvm.Cond.code ({ cls := "java/util/Arrays", name := "copyOfRangeByte", desc := "([BII)[B" } : Jvm.MethodName) jdk_65_method_133_code (5 : Nat) (Option.some (Jvm.ClassFile.FieldType.array Jvm.ClassFile.FieldType.byte))).before args0 about1 = true := code_word (m := ⟨18, 4⟩) (meth := k18m4) (c := k18c4) (by decide +kernel) rfl rfl rfl (by decide +kernel)
set_option maxRecDepth 65536 in
theorem w_c32 : (Jvm.Cond.code ({ cls := "java/util/Arrays", name := "checkLength", desc := "(II)V" } : Jvm.MethodName) jdk_65_method_131_code (2 : Nat) (Option.none : Option Jvm.ClassFile.FieldType)).before args0 about1 = true := code_word (m := ⟨18, 2⟩) (meth := k18m2) (c := k18c2) (by decide +kernel) rfl rfl rfl (by decide +kernel)
set_option maxRecDepth 65536 in
theorem w_c33 : (Jvm.Cond.code ({ cls := "java/lang/Math", name := "min", desc := "(II)I" } : Jvm.MethodName) jdk_29_method_69_code (2 : Nat) (Option.some Jvm.ClassFile.FieldType.int)).before args0 about1 = true := code_word (m := ⟨19, 2⟩) (meth := k19m2) (c := k19c2) (by decide +kernel) rfl rfl rfl (by decide +kernel)
set_option maxRecDepth 65536 in
theorem w_c34 : (Jvm.Cond.code ({ cls := "com/example/gantry/gantry/descriptor/DescriptorExceptionMessagePinLaw", name := "totalLen", desc := "(II)I" } : Jvm.MethodName) method_7_code (3 : Nat) (Option.some Jvm.ClassFile.FieldType.int)).before args0 about1 = true := code_word (m := ⟨1, 6⟩) (meth := k1m6) (c := k1c6) (by decide +kernel) rfl rfl rfl (by decide +kernel)
set_option maxRecDepth 65536 in
theorem w_c35 : (Jvm.Cond.code ({ cls := "com/example/gantry/gantry/descriptor/DescriptorExceptionMessagePinLaw", name := "numLen", desc := "(I)I" } : Jvm.MethodName) method_5_code (1 : Nat) (Option.some Jvm.ClassFile.FieldType.int)).before args0 about1 = true := code_word (m := ⟨1, 4⟩) (meth := k1m4) (c := k1c4) (by decide +kernel) rfl rfl rfl (by decide +kernel)
set_option maxRecDepth 65536 in
theorem w_c36 : (Jvm.Cond.code ({ cls := "com/example/gantry/gantry/descriptor/DescriptorExceptionMessagePinLaw", name := "ok4", desc := "(Ljava/lang/String;IIIII)Z" } : Jvm.MethodName) method_3_code (6 : Nat) (Option.some Jvm.ClassFile.FieldType.boolean)).before args0 about1 = true := code_word (m := ⟨1, 2⟩) (meth := k1m2) (c := k1c2) (by decide +kernel) rfl rfl rfl (by decide +kernel)
set_option maxRecDepth 65536 in
theorem w_c37 : (Jvm.Cond.code ({ cls := "com/example/gantry/gantry/descriptor/DescriptorExceptionMessagePinLaw", name := "ok", desc := "(Ljava/lang/String;IIIII)Z" } : Jvm.MethodName) method_4_code (6 : Nat) (Option.some Jvm.ClassFile.FieldType.boolean)).before args0 about1 = true := code_word (m := ⟨1, 3⟩) (meth := k1m3) (c := k1c3) (by decide +kernel) rfl rfl rfl (by decide +kernel)
set_option maxRecDepth 65536 in
theorem w_c38 : (Jvm.Cond.code ({ cls := "java/lang/String", name := "charAt", desc := "(I)C" } : Jvm.MethodName) jdk_42_method_56_code (2 : Nat) (Option.some Jvm.ClassFile.FieldType.char)).before args0 about1 = true := code_word (m := ⟨7, 4⟩) (meth := k7m4) (c := k7c4) (by decide +kernel) rfl rfl rfl (by decide +kernel)
set_option maxRecDepth 65536 in
theorem w_c39 : (Jvm.Cond.code ({ cls := "java/lang/String", name := "isLatin1", desc := "()Z" } : Jvm.MethodName) jdk_42_method_154_code (1 : Nat) (Option.some Jvm.ClassFile.FieldType.boolean)).before args0 about1 = true := code_word (m := ⟨7, 9⟩) (meth := k7m9) (c := k7c9) (by decide +kernel) rfl rfl rfl (by decide +kernel)
set_option maxRecDepth 65536 in
theorem w_c40 : (Jvm.Cond.code ({ cls := "java/lang/StringLatin1", name := "charAt", desc := "([BI)C" } : Jvm.MethodName) jdk_43_method_2_code (2 : Nat) (Option.some Jvm.ClassFile.FieldType.char)).before args0 about1 = true := code_word (m := ⟨20, 1⟩) (meth := k20m1) (c := k20c1) (by decide +kernel) rfl rfl rfl (by decide +kernel)
set_option maxRecDepth 65536 in
theorem w_c41 : (Jvm.Cond.code ({ cls := "java/lang/String", name := "checkIndex", desc := "(II)V" } : Jvm.MethodName) jdk_42_method_155_code (2 : Nat) (Option.none : Option Jvm.ClassFile.FieldType)).before args0 about1 = true := code_word (m := ⟨7, 10⟩) (meth := k7m10) (c := k7c10) (by decide +kernel) rfl rfl rfl (by decide +kernel)
set_option maxRecDepth 65536 in
theorem w_c42 : (Jvm.Cond.code ({ cls := "jdk/internal/util/Preconditions", name := "checkIndex", desc := "(IILjava/util/function/BiFunction;)I" } : Jvm.MethodName) jdk_41_method_11_code (3 : Nat) (Option.some Jvm.ClassFile.FieldType.int)).before args0 about1 = true := code_word (m := ⟨21, 1⟩) (meth := k21m1) (c := k21c1) (by decide +kernel) rfl rfl rfl (by decide +kernel)
set_option maxRecDepth 65536 in
theorem w_c43 : (Jvm.Cond.code ({ cls := "com/example/gantry/gantry/descriptor/DescriptorExceptionMessagePinLaw", name := "expected", desc := "(IIIII)C" } : Jvm.MethodName) method_8_code (8 : Nat) (Option.some Jvm.ClassFile.FieldType.char)).before args0 about1 = true := code_word (m := ⟨1, 7⟩) (meth := k1m7) (c := k1c7) (by decide +kernel) rfl rfl rfl (by decide +kernel)
set_option maxRecDepth 65536 in
theorem w_c44 : (Jvm.Cond.code ({ cls := "com/example/gantry/gantry/descriptor/DescriptorExceptionMessagePinLaw", name := "digit", desc := "(III)C" } : Jvm.MethodName) method_6_code (4 : Nat) (Option.some Jvm.ClassFile.FieldType.char)).before args0 about1 = true := code_word (m := ⟨1, 5⟩) (meth := k1m5) (c := k1c5) (by decide +kernel) rfl rfl rfl (by decide +kernel)
set_option maxRecDepth 65536 in
theorem w_c45 : (Jvm.Cond.code ({ cls := "java/lang/AbstractStringBuilder", name := "newCapacity", desc := "(I)I" } : Jvm.MethodName) jdk_68_method_10_code (6 : Nat) (Option.some Jvm.ClassFile.FieldType.int)).before args0 about1 = true := code_word (m := ⟨13, 4⟩) (meth := k13m4) (c := k13c4) (by decide +kernel) rfl rfl rfl (by decide +kernel)
set_option maxRecDepth 65536 in
theorem w_c46 : (Jvm.Cond.code ({ cls := "jdk/internal/util/ArraysSupport", name := "newLength", desc := "(III)I" } : Jvm.MethodName) jdk_48_method_27_code (4 : Nat) (Option.some Jvm.ClassFile.FieldType.int)).before args0 about1 = true := code_word (m := ⟨22, 1⟩) (meth := k22m1) (c := k22c1) (by decide +kernel) rfl rfl rfl (by decide +kernel)
set_option maxRecDepth 65536 in
theorem w_c47 : (Jvm.Cond.code ({ cls := "java/lang/Math", name := "max", desc := "(II)I" } : Jvm.MethodName) jdk_29_method_65_code (2 : Nat) (Option.some Jvm.ClassFile.FieldType.int)).before args0 about1 = true := code_word (m := ⟨19, 1⟩) (meth := k19m1) (c := k19c1) (by decide +kernel) rfl rfl rfl (by decide +kernel)
set_option maxRecDepth 65536 in
theorem w_c48 : (Jvm.Cond.code ({ cls := "java/util/Arrays", name := "copyOf", desc := "([BI)[B" } : Jvm.MethodName) jdk_65_method_121_code (3 : Nat) (Option.some (Jvm.ClassFile.FieldType.array Jvm.ClassFile.FieldType.byte))).before args0 about1 = true := code_word (m := ⟨18, 1⟩) (meth := k18m1) (c := k18c1) (by decide +kernel) rfl rfl rfl (by decide +kernel)
def codes1 : List Jvm.Cond := [Jvm.Cond.code x code maxLocals ret, Jvm.Cond.code ({ cls := "java/lang/String", name := "<init>", desc := "([C)V" } : Jvm.MethodName) jdk_42_method_3_code (2 : Nat) (Option.none : Option Jvm.ClassFile.FieldType), Jvm.Cond.code ({ cls := "java/lang/String", name := "<init>", desc := "([CIILjava/lang/Void;)V" } : Jvm.MethodName) jdk_42_method_149_code (6 : Nat) (Option.none : Option Jvm.ClassFile.FieldType), Jvm.Cond.code ({ cls := "java/lang/Object", name := "<init>", desc := "()V" } : Jvm.MethodName) object_method_1_code (1 : Nat) (Option.none : Option Jvm.ClassFile.FieldType), Jvm.Cond.code ({ cls := "java/lang/StringUTF16", name := "compress", desc := "([CII)[B" } : Jvm.MethodName) jdk_52_method_16_code (6 : Nat) (Option.some (Jvm.ClassFile.FieldType.array Jvm.ClassFile.FieldType.byte)), Jvm.Cond.code ({ cls := "java/lang/StringUTF16", name := "compress", desc := "([CI[BII)I" } : Jvm.MethodName) jdk_52_method_21_code (7 : Nat) (Option.some Jvm.ClassFile.FieldType.int), Jvm.Cond.code ({ cls := "java/lang/StringUTF16", name := "coderFromArrayLen", desc := "([BI)B" } : Jvm.MethodName) jdk_52_method_15_code (2 : Nat) (Option.some Jvm.ClassFile.FieldType.byte), Jvm.Cond.code ({ cls := "com/example/gantry/gantry/descriptor/DescriptorException", name := "message", desc := "(Ljava/lang/String;IILjava/lang/String;)Ljava/lang/String;" } : Jvm.MethodName) prog_3_method_2_code (4 : Nat) (Option.some (Jvm.ClassFile.FieldType.object "java/lang/String")), Jvm.Cond.code ({ cls := "java/lang/StringBuilder", name := "<init>", desc := "()V" } : Jvm.MethodName) jdk_67_method_1_code (1 : Nat) (Option.none : Option Jvm.ClassFile.FieldType), Jvm.Cond.code ({ cls := "java/lang/AbstractStringBuilder", name := "<init>", desc := "(I)V" } : Jvm.MethodName) jdk_68_method_2_code (2 : Nat) (Option.none : Option Jvm.ClassFile.FieldType), Jvm.Cond.code ({ cls := "java/lang/StringBuilder", name := "append", desc := "(Ljava/lang/String;)Ljava/lang/StringBuilder;" } : Jvm.MethodName) jdk_67_method_7_code (2 : Nat) (Option.some (Jvm.ClassFile.FieldType.object "java/lang/StringBuilder")), Jvm.Cond.code ({ cls := "java/lang/AbstractStringBuilder", name := "append", desc := "(Ljava/lang/String;)Ljava/lang/AbstractStringBuilder;" } : Jvm.MethodName) jdk_68_method_22_code (3 : Nat) (Option.some (Jvm.ClassFile.FieldType.object "java/lang/AbstractStringBuilder")), Jvm.Cond.code ({ cls := "java/lang/String", name := "length", desc := "()I" } : Jvm.MethodName) jdk_42_method_54_code (1 : Nat) (Option.some Jvm.ClassFile.FieldType.int), Jvm.Cond.code ({ cls := "java/lang/String", name := "coder", desc := "()B" } : Jvm.MethodName) jdk_42_method_152_code (1 : Nat) (Option.some Jvm.ClassFile.FieldType.byte), Jvm.Cond.code ({ cls := "java/lang/AbstractStringBuilder", name := "ensureCapacityInternal", desc := "(I)V" } : Jvm.MethodName) jdk_68_method_9_code (3 : Nat) (Option.none : Option Jvm.ClassFile.FieldType), Jvm.Cond.code ({ cls := "java/lang/AbstractStringBuilder", name := "putStringAt", desc := "(ILjava/lang/String;)V" } : Jvm.MethodName) jdk_68_method_73_code (3 : Nat) (Option.none : Option Jvm.ClassFile.FieldType), Jvm.Cond.code ({ cls := "java/lang/AbstractStringBuilder", name := "inflateIfNeededFor", desc := "(Ljava/lang/String;)V" } : Jvm.MethodName) jdk_68_method_71_code (2 : Nat) (Option.none : Option Jvm.ClassFile.FieldType), Jvm.Cond.code ({ cls := "java/lang/String", name := "getBytes", desc := "([BIB)V" } : Jvm.MethodName) jdk_42_method_147_code (4 : Nat) (Option.none : Option Jvm.ClassFile.FieldType), Jvm.Cond.code ({ cls := "com/example/gantry/gantry/descriptor/DescriptorException", name := "position", desc := "(II)Ljava/lang/String;" } : Jvm.MethodName) prog_3_method_3_code (2 : Nat) (Option.some (Jvm.ClassFile.FieldType.object "java/lang/String")), Jvm.Cond.code ({ cls := "java/lang/StringBuilder", name := "append", desc := "(I)Ljava/lang/StringBuilder;" } : Jvm.MethodName) jdk_67_method_15_code (2 : Nat) (Option.some (Jvm.ClassFile.FieldType.object "java/lang/StringBuilder")), Jvm.Cond.code ({ cls := "java/lang/AbstractStringBuilder", name := "append", desc := "(I)Ljava/lang/AbstractStringBuilder;" } : Jvm.MethodName) jdk_68_method_32_code (4 : Nat) (Option.some (Jvm.ClassFile.FieldType.object "java/lang/AbstractStringBuilder")), Jvm.Cond.code ({ cls := "java/lang/Integer", name := "stringSize", desc := "(I)I" } : Jvm.MethodName) jdk_33_method_13_code (4 : Nat) (Option.some Jvm.ClassFile.FieldType.int), Jvm.Cond.code ({ cls := "java/lang/AbstractStringBuilder", name := "isLatin1", desc := "()Z" } : Jvm.MethodName) jdk_68_method_68_code (1 : Nat) (Option.some Jvm.ClassFile.FieldType.boolean), Jvm.Cond.code ({ cls := "java/lang/Integer", name := "getChars", desc := "(II[B)I" } : Jvm.MethodName) jdk_33_method_12_code (7 : Nat) (Option.some Jvm.ClassFile.FieldType.int), Jvm.Cond.code ({ cls := "java/lang/StringBuilder", name := "toString", desc := "()Ljava/lang/String;" } : Jvm.MethodName) jdk_67_method_42_code (1 : Nat) (Option.some (Jvm.ClassFile.FieldType.object "java/lang/String")), Jvm.Cond.code ({ cls := "java/lang/String", name := "<init>", desc := "(Ljava/lang/StringBuilder;)V" } : Jvm.MethodName) jdk_42_method_53_code (2 : Nat) (Option.none : Option Jvm.ClassFile.FieldType), Jvm.Cond.code ({ cls := "java/lang/String", name := "<init>", desc := "(Ljava/lang/AbstractStringBuilder;Ljava/lang/Void;)V" } : Jvm.MethodName) jdk_42_method_150_code (5 : Nat) (Option.none : Option Jvm.ClassFile.FieldType), Jvm.Cond.code ({ cls := "java/lang/AbstractStringBuilder", name := "getValue", desc := "()[B" } : Jvm.MethodName) jdk_68_method_64_code (1 : Nat) (Option.some (Jvm.ClassFile.FieldType.array Jvm.ClassFile.FieldType.byte)), Jvm.Cond.code ({ cls := "java/lang/StringBuilder", name := "length", desc := "()I" } : Jvm.MethodName) jdk_67_method_93_code (1 : Nat) (Option.some Jvm.ClassFile.FieldType.int), Jvm.Cond.code ({ cls := "java/lang/AbstractStringBuilder", name := "length", desc := "()I" } : Jvm.MethodName) jdk_68_method_6_code (1 : Nat) (Option.some Jvm.ClassFile.FieldType.int), Jvm.Cond.code ({ cls := "java/util/Arrays", name := "copyOfRange", desc := "([BII)[B" } : Jvm.MethodName) jdk_65_method_132_code (3 : Nat) (Option.some (Jvm.ClassFile.FieldType.array Jvm.ClassFile.FieldType.byte)), Jvm.Cond.code ({ cls := "java/util/Arrays", name := "copyOfRangeByte", desc := "([BII)[B" } : Jvm.MethodName) jdk_65_method_133_code (5 : Nat) (Option.some (Jvm.ClassFile.FieldType.array Jvm.ClassFile.FieldType.byte)), Jvm.Cond.code ({ cls := "java/util/Arrays", name := "checkLength", desc := "(II)V" } : Jvm.MethodName) jdk_65_method_131_code (2 : Nat) (Option.none : Option Jvm.ClassFile.FieldType), Jvm.Cond.code ({ cls := "java/lang/Math", name := "min", desc := "(II)I" } : Jvm.MethodName) jdk_29_method_69_code (2 : Nat) (Option.some Jvm.ClassFile.FieldType.int), Jvm.Cond.code ({ cls := "com/example/gantry/gantry/descriptor/DescriptorExceptionMessagePinLaw", name := "totalLen", desc := "(II)I" } : Jvm.MethodName) method_7_code (3 : Nat) (Option.some Jvm.ClassFile.FieldType.int), Jvm.Cond.code ({ cls := "com/example/gantry/gantry/descriptor/DescriptorExceptionMessagePinLaw", name := "numLen", desc := "(I)I" } : Jvm.MethodName) method_5_code (1 : Nat) (Option.some Jvm.ClassFile.FieldType.int), Jvm.Cond.code ({ cls := "com/example/gantry/gantry/descriptor/DescriptorExceptionMessagePinLaw", name := "ok4", desc := "(Ljava/lang/String;IIIII)Z" } : Jvm.MethodName) method_3_code (6 : Nat) (Option.some Jvm.ClassFile.FieldType.boolean), Jvm.Cond.code ({ cls := "com/example/gantry/gantry/descriptor/DescriptorExceptionMessagePinLaw", name := "ok", desc := "(Ljava/lang/String;IIIII)Z" } : Jvm.MethodName) method_4_code (6 : Nat) (Option.some Jvm.ClassFile.FieldType.boolean), Jvm.Cond.code ({ cls := "java/lang/String", name := "charAt", desc := "(I)C" } : Jvm.MethodName) jdk_42_method_56_code (2 : Nat) (Option.some Jvm.ClassFile.FieldType.char), Jvm.Cond.code ({ cls := "java/lang/String", name := "isLatin1", desc := "()Z" } : Jvm.MethodName) jdk_42_method_154_code (1 : Nat) (Option.some Jvm.ClassFile.FieldType.boolean), Jvm.Cond.code ({ cls := "java/lang/StringLatin1", name := "charAt", desc := "([BI)C" } : Jvm.MethodName) jdk_43_method_2_code (2 : Nat) (Option.some Jvm.ClassFile.FieldType.char), Jvm.Cond.code ({ cls := "java/lang/String", name := "checkIndex", desc := "(II)V" } : Jvm.MethodName) jdk_42_method_155_code (2 : Nat) (Option.none : Option Jvm.ClassFile.FieldType), Jvm.Cond.code ({ cls := "jdk/internal/util/Preconditions", name := "checkIndex", desc := "(IILjava/util/function/BiFunction;)I" } : Jvm.MethodName) jdk_41_method_11_code (3 : Nat) (Option.some Jvm.ClassFile.FieldType.int), Jvm.Cond.code ({ cls := "com/example/gantry/gantry/descriptor/DescriptorExceptionMessagePinLaw", name := "expected", desc := "(IIIII)C" } : Jvm.MethodName) method_8_code (8 : Nat) (Option.some Jvm.ClassFile.FieldType.char), Jvm.Cond.code ({ cls := "com/example/gantry/gantry/descriptor/DescriptorExceptionMessagePinLaw", name := "digit", desc := "(III)C" } : Jvm.MethodName) method_6_code (4 : Nat) (Option.some Jvm.ClassFile.FieldType.char), Jvm.Cond.code ({ cls := "java/lang/AbstractStringBuilder", name := "newCapacity", desc := "(I)I" } : Jvm.MethodName) jdk_68_method_10_code (6 : Nat) (Option.some Jvm.ClassFile.FieldType.int), Jvm.Cond.code ({ cls := "jdk/internal/util/ArraysSupport", name := "newLength", desc := "(III)I" } : Jvm.MethodName) jdk_48_method_27_code (4 : Nat) (Option.some Jvm.ClassFile.FieldType.int), Jvm.Cond.code ({ cls := "java/lang/Math", name := "max", desc := "(II)I" } : Jvm.MethodName) jdk_29_method_65_code (2 : Nat) (Option.some Jvm.ClassFile.FieldType.int), Jvm.Cond.code ({ cls := "java/util/Arrays", name := "copyOf", desc := "([BI)[B" } : Jvm.MethodName) jdk_65_method_121_code (3 : Nat) (Option.some (Jvm.ClassFile.FieldType.array Jvm.ClassFile.FieldType.byte))]
set_option maxRecDepth 65536 in
theorem codes_eq : words1.filter isCode = codes1 := rfl
theorem w_codes : ∀ c ∈ words1.filter isCode, c.before args0 about1 = true := by
  rw [codes_eq]
  intro c hc
  simp only [codes1, List.mem_cons, List.not_mem_nil, or_false] at hc
  rcases hc with rfl | rfl | rfl | rfl | rfl | rfl | rfl | rfl | rfl | rfl | rfl | rfl | rfl | rfl | rfl | rfl | rfl | rfl | rfl | rfl | rfl | rfl | rfl | rfl | rfl | rfl | rfl | rfl | rfl | rfl | rfl | rfl | rfl | rfl | rfl | rfl | rfl | rfl | rfl | rfl | rfl | rfl | rfl | rfl | rfl | rfl | rfl | rfl | rfl
  · exact w_c0
  · exact w_c1
  · exact w_c2
  · exact w_c3
  · exact w_c4
  · exact w_c5
  · exact w_c6
  · exact w_c7
  · exact w_c8
  · exact w_c9
  · exact w_c10
  · exact w_c11
  · exact w_c12
  · exact w_c13
  · exact w_c14
  · exact w_c15
  · exact w_c16
  · exact w_c17
  · exact w_c18
  · exact w_c19
  · exact w_c20
  · exact w_c21
  · exact w_c22
  · exact w_c23
  · exact w_c24
  · exact w_c25
  · exact w_c26
  · exact w_c27
  · exact w_c28
  · exact w_c29
  · exact w_c30
  · exact w_c31
  · exact w_c32
  · exact w_c33
  · exact w_c34
  · exact w_c35
  · exact w_c36
  · exact w_c37
  · exact w_c38
  · exact w_c39
  · exact w_c40
  · exact w_c41
  · exact w_c42
  · exact w_c43
  · exact w_c44
  · exact w_c45
  · exact w_c46
  · exact w_c47
  · exact w_c48
set_option maxRecDepth 65536 in
theorem w_t1 : (words1.take 24).all (fun c => isCode c || c.before args0 about1) = true := by decide +kernel
set_option maxRecDepth 65536 in
theorem w_t2 : ((words1.drop 24).take 24).all (fun c => isCode c || c.before args0 about1) = true := by decide +kernel
set_option maxRecDepth 65536 in
theorem w_t3 : (((words1.drop 24).drop 24).take 24).all (fun c => isCode c || c.before args0 about1) = true := by decide +kernel
set_option maxRecDepth 65536 in
theorem w_t4 : ((((words1.drop 24).drop 24).drop 24).take 24).all (fun c => isCode c || c.before args0 about1) = true := by decide +kernel
set_option maxRecDepth 65536 in
theorem w_t5 : (((((words1.drop 24).drop 24).drop 24).drop 24).take 24).all (fun c => isCode c || c.before args0 about1) = true := by decide +kernel
set_option maxRecDepth 65536 in
theorem w_t6 : ((((((words1.drop 24).drop 24).drop 24).drop 24).drop 24).take 24).all (fun c => isCode c || c.before args0 about1) = true := by decide +kernel
set_option maxRecDepth 65536 in
theorem w_t7 : (((((((words1.drop 24).drop 24).drop 24).drop 24).drop 24).drop 24).take 24).all (fun c => isCode c || c.before args0 about1) = true := by decide +kernel
set_option maxRecDepth 65536 in
theorem w_t8 : ((((((((words1.drop 24).drop 24).drop 24).drop 24).drop 24).drop 24).drop 24).take 24).all (fun c => isCode c || c.before args0 about1) = true := by decide +kernel
set_option maxRecDepth 65536 in
theorem w_t9 : (((((((((words1.drop 24).drop 24).drop 24).drop 24).drop 24).drop 24).drop 24).drop 24).take 24).all (fun c => isCode c || c.before args0 about1) = true := by decide +kernel
set_option maxRecDepth 65536 in
theorem w_t10 : ((((((((((words1.drop 24).drop 24).drop 24).drop 24).drop 24).drop 24).drop 24).drop 24).drop 24).take 24).all (fun c => isCode c || c.before args0 about1) = true := by decide +kernel
set_option maxRecDepth 65536 in
theorem w_t11 : ((((((((((words1.drop 24).drop 24).drop 24).drop 24).drop 24).drop 24).drop 24).drop 24).drop 24).drop 24).all (fun c => isCode c || c.before args0 about1) = true := by decide +kernel
theorem w_tables : (allAtoms (Jvm.Cond.code x code maxLocals ret :: tables_1)).before args0 about1 = true := by
  rw [allAtoms_all]
  show words1.all (fun c => c.before args0 about1) = true
  refine all_split ?_ w_codes
  rw [← List.take_append_drop 24 words1, List.all_append, w_t1, ← List.take_append_drop 24 (words1.drop 24), List.all_append, w_t2, ← List.take_append_drop 24 ((words1.drop 24).drop 24), List.all_append, w_t3, ← List.take_append_drop 24 (((words1.drop 24).drop 24).drop 24), List.all_append, w_t4, ← List.take_append_drop 24 ((((words1.drop 24).drop 24).drop 24).drop 24), List.all_append, w_t5, ← List.take_append_drop 24 (((((words1.drop 24).drop 24).drop 24).drop 24).drop 24), List.all_append, w_t6, ← List.take_append_drop 24 ((((((words1.drop 24).drop 24).drop 24).drop 24).drop 24).drop 24), List.all_append, w_t7, ← List.take_append_drop 24 (((((((words1.drop 24).drop 24).drop 24).drop 24).drop 24).drop 24).drop 24), List.all_append, w_t8, ← List.take_append_drop 24 ((((((((words1.drop 24).drop 24).drop 24).drop 24).drop 24).drop 24).drop 24).drop 24), List.all_append, w_t9, ← List.take_append_drop 24 (((((((((words1.drop 24).drop 24).drop 24).drop 24).drop 24).drop 24).drop 24).drop 24).drop 24), List.all_append, w_t10, w_t11]
  rfl
set_option maxRecDepth 65536 in
theorem w_rest : rest_1_c.before args0 about1 = true := by decide +kernel
set_option maxRecDepth 65536 in
theorem w_case : (Jvm.Cond.and given_1 narrow_1).before args0 about1 = true := by decide +kernel
set_option maxRecDepth 65536 in
theorem w_consts : constsHeld consts_1 about1 := Jvm.Lit.constsHeldB_iff.mp (by decide +kernel)
theorem w_applies : (headSpec (Jvm.Cond.code x code maxLocals ret :: tables_1) room_1).applies x e0.platform about1 = true :=
  (Spec.applies_iff w_frames).mpr ⟨w_running, w_runnable, w_alone, w_named, w_hears, w_ripe, w_room, w_tables⟩
theorem atStart : AtStart classFile x code maxLocals ret World_1 tables_1 room_1 Calls_1 rest_1 Pre_1 launch0 p0 e0 about1 theMethod args0 below0 :=
  ⟨lists_1, trivial, launch0.admits_env _ _ _, launch0.least_env, fairChoices_fair.cas, fairChoices_fair.clock, w_frames, w_args, w_heap, w_applies, ⟨w_consts, trivial⟩, w_rest, w_case⟩
end start1
theorem witness_1 : WitnessClaimed_1 := ⟨start1.p0, start1.e0, start1.about1, start1.theMethod, start1.args0, start1.below0, start1.atStart⟩
end Jvm.Pilot.@@N@@
