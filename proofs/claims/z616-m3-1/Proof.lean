import JvmDerived
import JvmDerived.Pilot.@@N@@Statement
import JvmDerived.Pilot.@@N@@Code
set_option linter.unusedVariables false
set_option linter.unusedSimpArgs false
/- laws to paste: Road.backV (cut by pick.py; bodies as the Statement names them) -/
namespace Jvm.Pilot.@@N@@
namespace StrChars
open Jvm Sem ClassFile Op Lib Jvm.Stand Jvm.Free.XT Jvm.Free.ALB Jvm.Free.JM Jvm.Free
open Jvm.Lib.Cold (StaticIs)
/-- a char array whose places are chars -/
def Ch (a : Addr) (A : Cell) (U : State) : Prop := Arr .char a A U ∧ Typed .char A
theorem Ch.mv {a : Addr} {A : Cell} {U U' : State} (h : Ch a A U) (hal : U.vm.Alike U'.vm) (hh : U'.heap = U.heap) : Ch a A U' := ⟨h.1.mv hal hh, h.2⟩
theorem Ch.keep {a : Addr} {A : Cell} {U U' : State} (h : Ch a A U) (hal : U.vm.Alike U'.vm) (hk : U'.heap[a]? = some A) : Ch a A U' := ⟨h.1.keep hal hk, h.2⟩
/-- what place i of a char[]'s cell holds -/
def cv (A : Cell) (i : Nat) : Int32 := match A.slots[i]? with | some (.int x) => x | _ => 0
theorem Ch.get {a : Addr} {A : Cell} {U : State} (h : Ch a A U) {i : Nat} (hi : i < A.slots.size) : A.slots[i]? = some (.int (cv A i)) := by
  have e := Array.getElem?_eq_getElem hi
  have f := h.2 i _ e
  unfold cv; rw [e]
  generalize A.slots[i] = v at f
  cases v <;> simp [fits] at f ⊢
/-- the byte that i2b leaves of a char -/
def lo8 (x : Int32) : Int32 := x.toInt8.toInt32
theorem fits_lo8 (y : Int32) : fits .byte (.int (lo8 y)) = true := by
  have h1 := y.toInt8.le_toInt
  have h2 := y.toInt8.toInt_lt
  simp only [lo8, fits, Bool.and_eq_true, decide_eq_true_eq, Int32.le_iff_toInt_le, Int8.toInt_toInt32, show (-128 : Int32).toInt = -128 from by decide, show (127 : Int32).toInt = 127 from by decide]
  omega
/-- A' is A but that each place j of lo .. hi - 1 holds f j -/
def Laid (A A' : Cell) (lo hi : Nat) (f : Nat → Value) : Prop := A'.cls = A.cls ∧ A'.vm = A.vm ∧ A'.slots.size = A.slots.size ∧ ∀ i, A'.slots[i]? = if lo ≤ i ∧ i < hi then some (f i) else A.slots[i]?
theorem Laid.zero (A : Cell) (lo : Nat) (f : Nat → Value) : Laid A A lo (lo + 0) f := ⟨rfl, rfl, rfl, fun i => by rw [if_neg (by omega)]⟩
theorem Laid.step {A Ak : Cell} {lo k : Nat} {f : Nat → Value} {v : Value} (h : Laid A Ak lo k f) (hlo : lo ≤ k) (hk : k < Ak.slots.size) (hv : v = f k) : Laid A (Ak.setSlot k v) lo (k + 1) f := by
  refine ⟨h.1, h.2.1, by simpa [Cell.setSlot] using h.2.2.1, fun i => ?_⟩
  by_cases e : k = i
  · subst e; rw [Cell.slots_setSlot_self v hk, if_pos (by omega), hv]
  · rw [Cell.slots_setSlot_ne v e, h.2.2.2 i]
    by_cases q : lo ≤ i ∧ i < k
    · rw [if_pos q, if_pos (by omega)]
    · rw [if_neg q, if_neg (by omega)]
def U16 : String := "java/lang/StringUTF16"
namespace Cmp5
def yN : MethodName := ⟨"java/lang/StringUTF16", "compress", "([CI[BII)I"⟩
abbrev yB : ByteArray := jdk_52_method_21_code
theorem d0 : decode yB 0 = .ok (.iconst 0, 1) := by decide +kernel
theorem d1 : decode yB 1 = .ok (.istore 5, 2) := by decide +kernel
theorem d3 : decode yB 3 = .ok (.iload 5, 2) := by decide +kernel
theorem d5 : decode yB 5 = .ok (.iload 4, 2) := by decide +kernel
theorem d7 : decode yB 7 = .ok (.if_icmp (.ge) 37, 3) := by decide +kernel
theorem d10 : decode yB 10 = .ok (.aload_n 0, 1) := by decide +kernel
theorem d11 : decode yB 11 = .ok (.iload_n 1, 1) := by decide +kernel
theorem d12 : decode yB 12 = .ok (.caload, 1) := by decide +kernel
theorem d13 : decode yB 13 = .ok (.istore 6, 2) := by decide +kernel
theorem d15 : decode yB 15 = .ok (.iload 6, 2) := by decide +kernel
theorem d17 : decode yB 17 = .ok (.sipush 255, 3) := by decide +kernel
theorem d20 : decode yB 20 = .ok (.if_icmp (.le) 6, 3) := by decide +kernel
theorem d26 : decode yB 26 = .ok (.aload_n 2, 1) := by decide +kernel
theorem d27 : decode yB 27 = .ok (.iload_n 3, 1) := by decide +kernel
theorem d28 : decode yB 28 = .ok (.iload 6, 2) := by decide +kernel
theorem d30 : decode yB 30 = .ok (.i2b, 1) := by decide +kernel
theorem d31 : decode yB 31 = .ok (.bastore, 1) := by decide +kernel
theorem d32 : decode yB 32 = .ok (.iinc 1 1, 3) := by decide +kernel
theorem d35 : decode yB 35 = .ok (.iinc 3 1, 3) := by decide +kernel
theorem d38 : decode yB 38 = .ok (.iinc 5 1, 3) := by decide +kernel
theorem d41 : decode yB 41 = .ok (.goto (-38), 3) := by decide +kernel
theorem d44 : decode yB 44 = .ok (.iload 4, 2) := by decide +kernel
theorem d46 : decode yB 46 = .ok (.ireturn, 1) := by decide +kernel
def site : List Cond := []
def tab : Cond := tabOf yN yB 7 (some .int) site
def P (b : Addr) (A : Cell) (d : Addr) (B : Cell) (o q len : Nat) (args : Array Value) (s : State) : Prop := args = #[.ref b, .int (Int32.ofNat o), .ref d, .int (Int32.ofNat q), .int (Int32.ofNat len)] ∧ Ch b A s ∧ Arr .byte d B s ∧ b ≠ d ∧ o + len ≤ A.slots.size ∧ q + len ≤ B.slots.size ∧ ∀ i, i < len → ¬ 255 < cv A (o + i)
def E (b : Addr) (A : Cell) (d : Addr) (B : Cell) (o q len : Nat) (r : Option Value) (s u : State) : Prop := r = some (.int (Int32.ofNat len)) ∧ ∃ B', Put d B' s u ∧ Laid B B' q (q + len) (fun j => Value.int (lo8 (cv A (o + (j - q)))))
/-- no char of the range above 255: len; the places written hold each char's low byte -/
theorem law (l : Launch) (b : Addr) (A : Cell) (d : Addr) (B : Cell) (o q len : Nat) : Law l yN 5 5 0 0 yB 7 (some .int) site (P b A d B o q len) (E b A d B o q len) (copyLocs d q len) 0 0 := by
  refine Law.of_walk (plainFor_of_name (by decide +kernel)) (by decide +kernel) (by decide +kernel) (by decide) (fun _ _ h => by rw [h.1]; rfl) (fun _ U U' hal hh h => ⟨h.1, h.2.1.mv hal hh, h.2.2.1.mv hal hh, h.2.2.2⟩) (fun r U U' V V' h1 hal h2 h => ⟨h.1, h.2.elim fun B' q => ⟨B', q.1.mv h1 h2, q.2⟩⟩) ?_
  intro p e s m args below meth c s₁ X0 hexec hbytes hml hret hlk hnm hown hh0 W hP
  obtain ⟨rfl, hA, hB, hne, l1, l2, hp⟩ := hP
  have c1 : Steps p.tables e below (s₁.setTop (entryFrame m #[.ref b, .int (Int32.ofNat o), .ref d, .int (Int32.ofNat q), .int (Int32.ofNat len)] 7)) (s₁.setTop (mkF m 0 #[.val (.ref b), .val (.int (Int32.ofNat o)), .val (.ref d), .val (.int (Int32.ofNat q)), .val (.int (Int32.ofNat len)), .unset, .unset] [])) := entry rfl
  have hA0 := hA.1.mv X0.warmed.alike hh0
  have hB0 := hB.mv X0.warmed.alike hh0
  have a31 := hA.1.2.2.2
  have c2 : Steps p.tables e below (s₁.setTop (entryFrame m #[.ref b, .int (Int32.ofNat o), .ref d, .int (Int32.ofNat q), .int (Int32.ofNat len)] 7)) (s₁.setTop (mkF m 3 #[.val (.ref b), .val (.int (Int32.ofNat o)), .val (.ref d), .val (.int (Int32.ofNat q)), .val (.int (Int32.ofNat len)), .val (.int 0), .unset] [])) := c1.trans (by
    refine iconstV X0.here hexec rfl 0 (hb hbytes d0) (by decide) ?_
    refine XS.istore X0.here hexec rfl (hb hbytes d1) rfl rfl ?_
    exact Steps.refl _)
  have loop : ∀ (r i : Nat), i + r = len → ∀ (z : Slot), (z = .unset ∨ ∃ w, z = .val w ∧ w.category = 1) → ∀ (Tl : State) (Bk : Cell), Stand p l e { frames := 0, locals := 0, cells := 0, slots := 0 } s m #[.ref b, .int (Int32.ofNat o), .ref d, .int (Int32.ofNat q), .int (Int32.ofNat len)] below meth c Tl ([] ++ copyLocs d q i) 0 0 → Put d Bk s₁ Tl → Laid B Bk q (q + i) (fun j => Value.int (lo8 (cv A (o + (j - q))))) →
      Steps p.tables e below (s₁.setTop (entryFrame m #[.ref b, .int (Int32.ofNat o), .ref d, .int (Int32.ofNat q), .int (Int32.ofNat len)] 7)) (Tl.setTop (mkF m 3 #[.val (.ref b), .val (.int (Int32.ofNat (o + i))), .val (.ref d), .val (.int (Int32.ofNat (q + i))), .val (.int (Int32.ofNat len)), .val (.int (Int32.ofNat i)), z] [])) → ∃ (T' : State) (B' : Cell) (z' : Slot), Stand p l e { frames := 0, locals := 0, cells := 0, slots := 0 } s m #[.ref b, .int (Int32.ofNat o), .ref d, .int (Int32.ofNat q), .int (Int32.ofNat len)] below meth c T' ([] ++ copyLocs d q len) 0 0 ∧ Put d B' s₁ T' ∧ Laid B B' q (q + len) (fun j => Value.int (lo8 (cv A (o + (j - q))))) ∧
      Steps p.tables e below (s₁.setTop (entryFrame m #[.ref b, .int (Int32.ofNat o), .ref d, .int (Int32.ofNat q), .int (Int32.ofNat len)] 7)) (T'.setTop (mkF m 3 #[.val (.ref b), .val (.int (Int32.ofNat (o + len))), .val (.ref d), .val (.int (Int32.ofNat (q + len))), .val (.int (Int32.ofNat len)), .val (.int (Int32.ofNat len)), z'] [])) := by
    intro r
    induction r with
    | zero =>
      intro i hi z hz Tl Bk Xl pl fl cl
      have hil : i = len := by omega
      rw [hil] at Xl fl cl
      exact ⟨Tl, Bk, z, Xl, pl, fl, cl⟩
    | succ r ih =>
      intro i hi z hz Tl Bk Xl pl fl cl
      have all := X0.warmed.alike.symm.trans Xl.warmed.alike
      have hAl := hA0.keep all (pl.other hne hA0.1)
      have hBk := hB0.like all pl.1 fl.1 fl.2.1 fl.2.2.1
      have hlt : q + i < Bk.slots.size := by rw [fl.2.2.1]; omega
      have c3 : Steps p.tables e below (s₁.setTop (entryFrame m #[.ref b, .int (Int32.ofNat o), .ref d, .int (Int32.ofNat q), .int (Int32.ofNat len)] 7)) (Tl.setTop (mkF m 12 #[.val (.ref b), .val (.int (Int32.ofNat (o + i))), .val (.ref d), .val (.int (Int32.ofNat (q + i))), .val (.int (Int32.ofNat len)), .val (.int (Int32.ofNat i)), z] [.int (Int32.ofNat (o + i)), .ref b])) := cl.trans (by
        refine XS.iload Xl.here hexec rfl (hb hbytes d3) rfl ?_
        refine XS.iload Xl.here hexec rfl (hb hbytes d5) rfl ?_
        refine XS.icmpNo Xl.here hexec rfl (hb hbytes d7) rfl (ii_ge_f (lt32 (by omega) (by omega))) ?_
        refine XS.aloadN Xl.here hexec rfl (hb hbytes d10) rfl rfl ?_
        refine XS.iloadN Xl.here hexec rfl (hb hbytes d11) rfl ?_
        exact Steps.refl _)
      have c4 : Steps p.tables e below (s₁.setTop (entryFrame m #[.ref b, .int (Int32.ofNat o), .ref d, .int (Int32.ofNat q), .int (Int32.ofNat len)] 7)) (Tl.setTop (mkF m 13 #[.val (.ref b), .val (.int (Int32.ofNat (o + i))), .val (.ref d), .val (.int (Int32.ofNat (q + i))), .val (.int (Int32.ofNat len)), .val (.int (Int32.ofNat i)), z] [.int (cv A (o + i))])) := c3.trans (by
        refine Xl.aget hexec hAl rfl (hA.get (i := o + i) (by omega)) rfl rfl (hb hbytes d12) ?_
        exact Steps.refl _)
      have c5 : Steps p.tables e below (s₁.setTop (entryFrame m #[.ref b, .int (Int32.ofNat o), .ref d, .int (Int32.ofNat q), .int (Int32.ofNat len)] 7)) (Tl.setTop (mkF m 15 #[.val (.ref b), .val (.int (Int32.ofNat (o + i))), .val (.ref d), .val (.int (Int32.ofNat (q + i))), .val (.int (Int32.ofNat len)), .val (.int (Int32.ofNat i)), .val (.int (cv A (o + i)))] [])) := c4.trans (by
        refine XS.istoreS Xl.here hexec rfl (hb hbytes d13) rfl rfl hz ?_
        exact Steps.refl _)
      have c6 : Steps p.tables e below (s₁.setTop (entryFrame m #[.ref b, .int (Int32.ofNat o), .ref d, .int (Int32.ofNat q), .int (Int32.ofNat len)] 7)) (Tl.setTop (mkF m 31 #[.val (.ref b), .val (.int (Int32.ofNat (o + i))), .val (.ref d), .val (.int (Int32.ofNat (q + i))), .val (.int (Int32.ofNat len)), .val (.int (Int32.ofNat i)), .val (.int (cv A (o + i)))] [.int (lo8 (cv A (o + i))), .int (Int32.ofNat (q + i)), .ref d])) := c5.trans (by
        refine XS.iload Xl.here hexec rfl (hb hbytes d15) rfl ?_
        refine sipushV Xl.here hexec rfl 255 (hb hbytes d17) (by decide) ?_
        refine XS.icmpYes Xl.here hexec rfl (pc0 := 20) rfl (hb hbytes d20) rfl (ii_le_t (hp i (by omega))) (by decide) rfl ?_
        refine XS.aloadN Xl.here hexec rfl (hb hbytes d26) rfl rfl ?_
        refine XS.iloadN Xl.here hexec rfl (hb hbytes d27) rfl ?_
        refine XS.iload Xl.here hexec rfl (hb hbytes d28) rfl ?_
        refine i2b Xl.here hexec rfl (hb hbytes d30) rfl ?_
        exact Steps.refl _)
      obtain ⟨T7, X7, p7, st7⟩ := Xl.aput hexec hBk rfl hlt rfl (fits_lo8 (cv A (o + i))) (g := (mkF m 31 #[.val (.ref b), .val (.int (Int32.ofNat (o + i))), .val (.ref d), .val (.int (Int32.ofNat (q + i))), .val (.int (Int32.ofNat len)), .val (.int (Int32.ofNat i)), .val (.int (cv A (o + i)))] [.int (lo8 (cv A (o + i))), .int (Int32.ofNat (q + i)), .ref d])) rfl (rest := []) rfl (hb hbytes d31)
      have c8 : Steps p.tables e below (s₁.setTop (entryFrame m #[.ref b, .int (Int32.ofNat o), .ref d, .int (Int32.ofNat q), .int (Int32.ofNat len)] 7)) (T7.setTop (mkF m 32 #[.val (.ref b), .val (.int (Int32.ofNat (o + i))), .val (.ref d), .val (.int (Int32.ofNat (q + i))), .val (.int (Int32.ofNat len)), .val (.int (Int32.ofNat i)), .val (.int (cv A (o + i)))] [])) := c6.trans (st7 _ (Steps.refl _))
      have c9 : Steps p.tables e below (s₁.setTop (entryFrame m #[.ref b, .int (Int32.ofNat o), .ref d, .int (Int32.ofNat q), .int (Int32.ofNat len)] 7)) (T7.setTop (mkF m 3 #[.val (.ref b), .val (.int (Int32.ofNat (o + i) + 1)), .val (.ref d), .val (.int (Int32.ofNat (q + i) + 1)), .val (.int (Int32.ofNat len)), .val (.int (Int32.ofNat i + 1)), .val (.int (cv A (o + i)))] [])) := c8.trans (by
        refine iincV X7.here hexec rfl 1 (hb hbytes d32) (by decide) rfl rfl ?_
        refine iincV X7.here hexec rfl 1 (hb hbytes d35) (by decide) rfl rfl ?_
        refine iincV X7.here hexec rfl 1 (hb hbytes d38) (by decide) rfl rfl ?_
        refine XS.goto X7.here hexec rfl (pc0 := 41) rfl (hb hbytes d41) (by decide) rfl ?_
        exact Steps.refl _)
      have c10 : Steps p.tables e below (s₁.setTop (entryFrame m #[.ref b, .int (Int32.ofNat o), .ref d, .int (Int32.ofNat q), .int (Int32.ofNat len)] 7)) (T7.setTop (mkF m 3 #[.val (.ref b), .val (.int (Int32.ofNat (o + (i + 1)))), .val (.ref d), .val (.int (Int32.ofNat (q + (i + 1)))), .val (.int (Int32.ofNat len)), .val (.int (Int32.ofNat (i + 1))), .val (.int (cv A (o + i)))] [])) := by
        have := c9
        rw [succ32, succ32, succ32] at this
        exact this
      exact ih (i + 1) (by omega) _ (Or.inr ⟨_, rfl, rfl⟩) T7 _ (by rw [copyLocs_step, ← List.append_assoc]; exact X7) (pl.trans p7) (fl.step (by omega) hlt (by simp)) c10
  obtain ⟨T9, B9, z9, X9, p9, f9, g9⟩ := loop len 0 (by omega) .unset (Or.inl rfl) s₁ B (by simpa [copyLocs] using X0) ⟨hB0.1, fun _ _ => rfl, rfl⟩ (Laid.zero _ _ _) c2
  have c11 : Steps p.tables e below (s₁.setTop (entryFrame m #[.ref b, .int (Int32.ofNat o), .ref d, .int (Int32.ofNat q), .int (Int32.ofNat len)] 7)) (T9.setTop (mkF m 46 #[.val (.ref b), .val (.int (Int32.ofNat (o + len))), .val (.ref d), .val (.int (Int32.ofNat (q + len))), .val (.int (Int32.ofNat len)), .val (.int (Int32.ofNat len)), z9] [.int (Int32.ofNat len)])) := g9.trans (by
    refine XS.iload X9.here hexec rfl (hb hbytes d3) rfl ?_
    refine XS.iload X9.here hexec rfl (hb hbytes d5) rfl ?_
    refine XS.icmpYes X9.here hexec rfl (pc0 := 7) rfl (hb hbytes d7) rfl (ii_ge_t (nlt32 (by omega) (Nat.le_refl _))) (by decide) rfl ?_
    refine XS.iload X9.here hexec rfl (hb hbytes d44) rfl ?_
    exact Steps.refl _)
  exact ⟨T9, some (.int (Int32.ofNat len)), _, _, _, X9, by simp, rfl, rfl, (fun h => by cases h), ⟨rfl, B9, p9.from hh0, f9⟩, fun fs hl => c11.trans (X9.ireturnOut hexec hret rfl (Or.inl rfl) (hb hbytes d46) hl)⟩
end Cmp5
namespace Cmp3
def yN : MethodName := ⟨"java/lang/StringUTF16", "compress", "([CII)[B"⟩
abbrev yB : ByteArray := jdk_52_method_16_code
theorem d0 : decode yB 0 = .ok (.iload_n 2, 1) := by decide +kernel
theorem d1 : decode yB 1 = .ok (.newarray .byte, 2) := by decide +kernel
theorem d3 : decode yB 3 = .ok (.astore_n 3, 1) := by decide +kernel
theorem d4 : decode yB 4 = .ok (.aload_n 0, 1) := by decide +kernel
theorem d5 : decode yB 5 = .ok (.iload_n 1, 1) := by decide +kernel
theorem d6 : decode yB 6 = .ok (.aload_n 3, 1) := by decide +kernel
theorem d7 : decode yB 7 = .ok (.iconst 0, 1) := by decide +kernel
theorem d8 : decode yB 8 = .ok (.iload_n 2, 1) := by decide +kernel
theorem d9 : decode yB 9 = .ok (.invokestatic 115, 3) := by decide +kernel
theorem d12 : decode yB 12 = .ok (.istore 4, 2) := by decide +kernel
theorem d14 : decode yB 14 = .ok (.iload 4, 2) := by decide +kernel
theorem d16 : decode yB 16 = .ok (.iload_n 2, 1) := by decide +kernel
theorem d17 : decode yB 17 = .ok (.if_icmp (.eq) 40, 3) := by decide +kernel
theorem d57 : decode yB 57 = .ok (.aload_n 3, 1) := by decide +kernel
theorem d58 : decode yB 58 = .ok (.areturn, 1) := by decide +kernel
def site : List Cond := [.arrayClass .byte, Cmp5.tab] ++ staticW U16 115 Cmp5.yN
def tab : Cond := tabOf yN yB 6 (some (.array .byte)) site
def P (b : Addr) (A : Cell) (o len : Nat) (args : Array Value) (s : State) : Prop := args = #[.ref b, .int (Int32.ofNat o), .int (Int32.ofNat len)] ∧ Ch b A s ∧ o + len ≤ A.slots.size ∧ len ≤ 536870912 ∧ ∀ i, i < len → ¬ 255 < cv A (o + i)
def E (b : Addr) (A : Cell) (o len : Nat) (r : Option Value) (s u : State) : Prop := NewArr .byte "[B" len (fun j => .int (lo8 (cv A (o + j)))) r s u ∧ u.heap.size = s.heap.size + 1
/-- no char of the range above 255: a new byte[] of their low bytes -/
theorem law (l : Launch) (b : Addr) (A : Cell) (o len : Nat) : Law l yN 3 3 1 18 yB 6 (some (.array .byte)) site (P b A o len) (E b A o len) [] 1 len := by
  refine Law.of_walk (plainFor_of_name (by decide +kernel)) (by decide +kernel) (by decide +kernel) (by decide) (fun _ _ h => by rw [h.1]; rfl) (fun _ U U' hal hh h => ⟨h.1, h.2.1.mv hal hh, h.2.2⟩) (fun r U U' V V' h1 hal h2 h => ⟨NewArr.mv r U U' V V' h1 hal h2 h.1, by rw [h1, h2]; exact h.2⟩) ?_
  intro p e s m args below meth c s₁ X0 hexec hbytes hml hret hlk hnm hown hh0 W hP
  obtain ⟨rfl, hA, l1, l2, hp⟩ := hP
  have a31 := hA.1.2.2.2
  have c1 : Steps p.tables e below (s₁.setTop (entryFrame m #[.ref b, .int (Int32.ofNat o), .int (Int32.ofNat len)] 6)) (s₁.setTop (mkF m 0 #[.val (.ref b), .val (.int (Int32.ofNat o)), .val (.int (Int32.ofNat len)), .unset, .unset, .unset] [])) := entry rfl
  have c2 : Steps p.tables e below (s₁.setTop (entryFrame m #[.ref b, .int (Int32.ofNat o), .int (Int32.ofNat len)] 6)) (s₁.setTop (mkF m 1 #[.val (.ref b), .val (.int (Int32.ofNat o)), .val (.int (Int32.ofNat len)), .unset, .unset, .unset] [.int (Int32.ofNat len)])) := c1.trans (by
    refine XS.iloadN X0.here hexec rfl (hb hbytes d0) rfl ?_
    exact Steps.refl _)
  obtain ⟨T3, B3, X3, ba3, bs3, bv3, bh3, bf3, st3⟩ := X0.anew hexec (atype := .byte) (wk W (.arrayClass .byte)) rfl (by show len * 1 ≤ _; omega) (by omega) (g := (mkF m 1 #[.val (.ref b), .val (.int (Int32.ofNat o)), .val (.int (Int32.ofNat len)), .unset, .unset, .unset] [.int (Int32.ofNat len)])) rfl (hb hbytes d1) (rest := []) rfl (Nat.le_refl _) (by show 0 + len ≤ len; omega)
  rw [hh0] at ba3 st3
  have kp3 : XT.Kept s T3 := (XT.Kept.of_eq hh0).push bh3
  have hA3 := hA.keep X3.warmed.alike (kp3 _ _ hA.1.1)
  have hne : b ≠ s.heap.size := hA.1.ne
  have c4 : Steps p.tables e below (s₁.setTop (entryFrame m #[.ref b, .int (Int32.ofNat o), .int (Int32.ofNat len)] 6)) (T3.setTop (mkF m 3 #[.val (.ref b), .val (.int (Int32.ofNat o)), .val (.int (Int32.ofNat len)), .unset, .unset, .unset] [.ref s.heap.size])) := c2.trans (st3 _ (Steps.refl _))
  have c5 : Steps p.tables e below (s₁.setTop (entryFrame m #[.ref b, .int (Int32.ofNat o), .int (Int32.ofNat len)] 6)) (T3.setTop (mkF m 9 #[.val (.ref b), .val (.int (Int32.ofNat o)), .val (.int (Int32.ofNat len)), .val (.ref s.heap.size), .unset, .unset] [.int (Int32.ofNat len), .int 0, .ref s.heap.size, .int (Int32.ofNat o), .ref b])) := c4.trans (by
    refine XS.astoreN X3.here hexec rfl (hb hbytes d3) rfl rfl rfl ?_
    refine XS.aloadN X3.here hexec rfl (hb hbytes d4) rfl rfl ?_
    refine XS.iloadN X3.here hexec rfl (hb hbytes d5) rfl ?_
    refine XS.aloadN X3.here hexec rfl (hb hbytes d6) rfl rfl ?_
    refine iconstV X3.here hexec rfl 0 (hb hbytes d7) (by decide) ?_
    refine XS.iloadN X3.here hexec rfl (hb hbytes d8) rfl ?_
    exact Steps.refl _)
  obtain ⟨v6, T6, X6, E6, g6⟩ := X3.callS hexec (Cmp5.law l b A s.heap.size B3 o 0 len) hown (wks W (staticW U16 115 Cmp5.yN)) (wk W Cmp5.tab) (W := 0) (Nat.le_of_ble_eq_true rfl) (Nat.le_of_ble_eq_true rfl) (Nat.le_refl _) (by show 0 + len + 0 ≤ len; omega) (g := (mkF m 9 #[.val (.ref b), .val (.int (Int32.ofNat o)), .val (.int (Int32.ofNat len)), .val (.ref s.heap.size), .unset, .unset] [.int (Int32.ofNat len), .int (Int32.ofNat 0), .ref s.heap.size, .int (Int32.ofNat o), .ref b])) rfl (by rw [hml]; rfl) c5 (argsL := [.ref b, .int (Int32.ofNat o), .ref s.heap.size, .int (Int32.ofNat 0), .int (Int32.ofNat len)]) (rest := []) rfl rfl (by show 2 * 0 + 0 ≤ _; decide) (hb hbytes d9) (⟨rfl, hA3, ba3, hne, l1, by rw [bs3]; simp, hp⟩)
  obtain ⟨rfl, B6, p6, f6⟩ := E6
  have c7 : Steps p.tables e below (s₁.setTop (entryFrame m #[.ref b, .int (Int32.ofNat o), .int (Int32.ofNat len)] 6)) (T6.setTop (mkF m 12 #[.val (.ref b), .val (.int (Int32.ofNat o)), .val (.int (Int32.ofNat len)), .val (.ref s.heap.size), .unset, .unset] [.int (Int32.ofNat len)])) := g6
  have c8 : Steps p.tables e below (s₁.setTop (entryFrame m #[.ref b, .int (Int32.ofNat o), .int (Int32.ofNat len)] 6)) (T6.setTop (mkF m 58 #[.val (.ref b), .val (.int (Int32.ofNat o)), .val (.int (Int32.ofNat len)), .val (.ref s.heap.size), .val (.int (Int32.ofNat len)), .unset] [.ref s.heap.size])) := c7.trans (by
    refine XS.istore X6.here hexec rfl (hb hbytes d12) rfl rfl ?_
    refine XS.iload X6.here hexec rfl (hb hbytes d14) rfl ?_
    refine XS.iloadN X6.here hexec rfl (hb hbytes d16) rfl ?_
    refine XS.icmpYes X6.here hexec rfl (pc0 := 17) rfl (hb hbytes d17) rfl (ii_eq_t rfl) (by decide) rfl ?_
    refine XS.aloadN X6.here hexec rfl (hb hbytes d57) rfl rfl ?_
    exact Steps.refl _)
  have X8 := X6.wide (L' := []) (cells' := 1) (slots' := len) (fun x hx hlt => by
    simp only [List.nil_append, copyLocs, List.mem_map, List.mem_range] at hx
    obtain ⟨i, -, rfl⟩ := hx
    exact absurd hlt (Nat.lt_irrefl _)) (Nat.le_refl _) (by omega)
  exact ⟨T6, some (.ref s.heap.size), _, _, _, X8, rfl, rfl, rfl, (fun h => by cases h), ⟨⟨rfl, B6, ba3.like (X3.warmed.alike.symm.trans X6.warmed.alike) p6.1 f6.1 f6.2.1 f6.2.2.1, f6.2.1.trans bv3, by rw [X6.warmed.alike.findClass, f6.1]; exact bf3, by rw [f6.2.2.1, bs3]; simp, fun j hj => by rw [f6.2.2.2 j, if_pos (by omega)]; rfl, kp3.put p6 (Nat.le_refl _)⟩, by rw [p6.2.2, bh3, hh0]; simp⟩, fun fs hl => c8.trans (X8.areturnOut hexec rfl hret rfl (hb hbytes d58) hl)⟩
end Cmp3
namespace CodL
def yN : MethodName := ⟨"java/lang/StringUTF16", "coderFromArrayLen", "([BI)B"⟩
abbrev yB : ByteArray := jdk_52_method_15_code
theorem d0 : decode yB 0 = .ok (.iload_n 1, 1) := by decide +kernel
theorem d1 : decode yB 1 = .ok (.aload_n 0, 1) := by decide +kernel
theorem d2 : decode yB 2 = .ok (.arraylength, 1) := by decide +kernel
theorem d3 : decode yB 3 = .ok (.isub, 1) := by decide +kernel
theorem d4 : decode yB 4 = .ok (.bipush 31, 2) := by decide +kernel
theorem d6 : decode yB 6 = .ok (.iushr, 1) := by decide +kernel
theorem d7 : decode yB 7 = .ok (.i2b, 1) := by decide +kernel
theorem d8 : decode yB 8 = .ok (.ireturn, 1) := by decide +kernel
def site : List Cond := []
def tab : Cond := tabOf yN yB 2 (some .byte) site
def P (d : Addr) (B : Cell) (args : Array Value) (s : State) : Prop := args = #[.ref d, .int (Int32.ofNat B.slots.size)] ∧ Arr .byte d B s
def E (r : Option Value) (s u : State) : Prop := XT.PureE (some (.int 0)) r s u
/-- an array as long as the number of chars: LATIN1 -/
theorem law (l : Launch) (d : Addr) (B : Cell) : Law l yN 2 2 0 0 yB 2 (some .byte) site (P d B) E [] 0 0 := by
  refine Law.of_walk (plainFor_of_name (by decide +kernel)) (by decide +kernel) (by decide +kernel) (by decide) (fun _ _ h => by rw [h.1]; rfl) (fun _ U U' hal hh h => ⟨h.1, h.2.mv hal hh⟩) (fun r U U' V V' h1 hal h2 h => XT.PureE.mv r U U' V V' h1 hal h2 h) ?_
  intro p e s m args below meth c s₁ X0 hexec hbytes hml hret hlk hnm hown hh0 W hP
  obtain ⟨rfl, hB⟩ := hP
  have hB0 := hB.mv X0.warmed.alike hh0
  have c1 : Steps p.tables e below (s₁.setTop (entryFrame m #[.ref d, .int (Int32.ofNat B.slots.size)] 2)) (s₁.setTop (mkF m 0 #[.val (.ref d), .val (.int (Int32.ofNat B.slots.size))] [])) := entry rfl
  have c2 : Steps p.tables e below (s₁.setTop (entryFrame m #[.ref d, .int (Int32.ofNat B.slots.size)] 2)) (s₁.setTop (mkF m 2 #[.val (.ref d), .val (.int (Int32.ofNat B.slots.size))] [.ref d, .int (Int32.ofNat B.slots.size)])) := c1.trans (by
    refine XS.iloadN X0.here hexec rfl (hb hbytes d0) rfl ?_
    refine XS.aloadN X0.here hexec rfl (hb hbytes d1) rfl rfl ?_
    exact Steps.refl _)
  have c3 : Steps p.tables e below (s₁.setTop (entryFrame m #[.ref d, .int (Int32.ofNat B.slots.size)] 2)) (s₁.setTop (mkF m 8 #[.val (.ref d), .val (.int (Int32.ofNat B.slots.size))] [.int (lo8 (ushr (Int32.ofNat B.slots.size - Int32.ofNat B.slots.size) 31))])) := c2.trans (by
    refine X0.alen hexec hB0 rfl rfl (hb hbytes d2) ?_
    refine XS.isub X0.here hexec rfl (hb hbytes d3) rfl ?_
    refine bipushV X0.here hexec rfl 31 (hb hbytes d4) (by decide) ?_
    refine iushr X0.here hexec rfl (hb hbytes d6) rfl ?_
    refine i2b X0.here hexec rfl (hb hbytes d7) rfl ?_
    exact Steps.refl _)
  have e0 : lo8 (ushr (Int32.ofNat B.slots.size - Int32.ofNat B.slots.size) 31) = 0 := by rw [Int32.sub_self]; decide
  rw [e0] at c3
  exact ⟨s₁, some (.int 0), _, _, _, X0, rfl, rfl, rfl, (fun h => by cases h), ⟨rfl, hh0⟩, fun fs hl => c3.trans (X0.ireturnOut hexec hret rfl (Or.inr (Or.inr (Or.inl rfl))) (hb hbytes d8) hl)⟩
end CodL
/-- the String at a is Latin-1 over a new byte[] (the heap's one new cell): the low bytes of the len chars of A from o on; every cell but a is kept -/
def Got (a : Addr) (D : Cell) (fV fC : Field) (A : Cell) (o len : Nat) (r : Option Value) (s u : State) : Prop := r = none ∧ ∃ D' V : Cell, Blank "java/lang/String" a D' u ∧ Same D D' [fV.slot, fC.slot] ∧ D'.slots[fV.slot]? = some (.ref s.heap.size) ∧ D'.slots[fC.slot]? = some (.int 0) ∧ Arr .byte s.heap.size V u ∧ V.vm = .none ∧ u.vm.findClass "[B" = some V.cls ∧ V.slots.size = len ∧ (∀ j, j < len → V.slots[j]? = some (.int (lo8 (cv A (o + j))))) ∧ (∀ (y : Addr) (c : Cell), y ≠ a → s.heap[y]? = some c → u.heap[y]? = some c) ∧ u.heap.size = s.heap.size + 1
theorem Got.mv {a : Addr} {D A : Cell} {fV fC : Field} {o len : Nat} : ∀ r (U U' V V' : State), U'.heap = U.heap → V.vm.Alike V'.vm → V'.heap = V.heap → Got a D fV fC A o len r U V → Got a D fV fC A o len r U' V' :=
  fun r U U' V V' h1 hal h2 ⟨e0, D', X, a1, a2, a3, a4, a5, a6, a7, a8, a9, a10, a11⟩ => ⟨e0, D', X, a1.mv hal h2, a2, by rw [h1]; exact a3, a4, by rw [h1]; exact a5.mv hal h2, a6, by rw [hal.findClass]; exact a7, a8, a9, by rw [h1, h2]; exact a10, by rw [h1, h2]; exact a11⟩
namespace New4
def yN : MethodName := ⟨"java/lang/String", "<init>", "([CIILjava/lang/Void;)V"⟩
abbrev yB : ByteArray := jdk_42_method_149_code
theorem d0 : decode yB 0 = .ok (.aload_n 0, 1) := by decide +kernel
theorem d1 : decode yB 1 = .ok (.invokespecial 1, 3) := by decide +kernel
theorem d4 : decode yB 4 = .ok (.iload_n 3, 1) := by decide +kernel
theorem d5 : decode yB 5 = .ok (.ifCond (.ne) 22, 3) := by decide +kernel
theorem d27 : decode yB 27 = .ok (.getstatic 38, 3) := by decide +kernel
theorem d30 : decode yB 30 = .ok (.ifCond (.eq) 28, 3) := by decide +kernel
theorem d33 : decode yB 33 = .ok (.aload_n 1, 1) := by decide +kernel
theorem d34 : decode yB 34 = .ok (.iload_n 2, 1) := by decide +kernel
theorem d35 : decode yB 35 = .ok (.iload_n 3, 1) := by decide +kernel
theorem d36 : decode yB 36 = .ok (.invokestatic 177, 3) := by decide +kernel
theorem d39 : decode yB 39 = .ok (.astore 5, 2) := by decide +kernel
theorem d41 : decode yB 41 = .ok (.aload_n 0, 1) := by decide +kernel
theorem d42 : decode yB 42 = .ok (.aload 5, 2) := by decide +kernel
theorem d44 : decode yB 44 = .ok (.iload_n 3, 1) := by decide +kernel
theorem d45 : decode yB 45 = .ok (.invokestatic 47, 3) := by decide +kernel
theorem d48 : decode yB 48 = .ok (.putfield 15, 3) := by decide +kernel
theorem d51 : decode yB 51 = .ok (.aload_n 0, 1) := by decide +kernel
theorem d52 : decode yB 52 = .ok (.aload 5, 2) := by decide +kernel
theorem d54 : decode yB 54 = .ok (.putfield 9, 3) := by decide +kernel
theorem d57 : decode yB 57 = .ok (.return_, 1) := by decide +kernel
def site : List Cond := [.fieldLink "java/lang/String" 38 "java/lang/String" "COMPACT_STRINGS" "Z", Cmp3.tab, CodL.tab, .laysFinal "java/lang/String" "java/lang/String" "value" "[B", .fieldLink "java/lang/String" 9 "java/lang/String" "value" "[B", .laysFinal "java/lang/String" "java/lang/String" "coder" "B", .fieldLink "java/lang/String" 15 "java/lang/String" "coder" "B"] ++ objW "java/lang/String" 1 ++ staticW "java/lang/String" 177 Cmp3.yN ++ staticW "java/lang/String" 47 CodL.yN
def tab : Cond := tabOf yN yB 6 none site
def P (a : Addr) (D : Cell) (fV fC : Field) (b : Addr) (A : Cell) (z : Int32) (o len : Nat) (args : Array Value) (s : State) : Prop := args = #[.ref a, .ref b, .int (Int32.ofNat o), .int (Int32.ofNat len), .null] ∧ Blank "java/lang/String" a D s ∧ Found "java/lang/String" "value" "[B" fV s ∧ Found "java/lang/String" "coder" "B" fC s ∧ Ch b A s ∧ StaticIs s "java/lang/String" "COMPACT_STRINGS" "Z" (.int z) ∧ ¬ z = 0 ∧ 0 < len ∧ o + len ≤ A.slots.size ∧ len ≤ 536870912 ∧ ∀ i, i < len → ¬ 255 < cv A (o + i)
def E (a : Addr) (D : Cell) (fV fC : Field) (A : Cell) (o len : Nat) (r : Option Value) (s u : State) : Prop := Got a D fV fC A o len r s u
/-- len > 0, no char of the range above 255: a Latin-1 String of their low bytes -/
theorem law (l : Launch) (a : Addr) (D : Cell) (fV fC : Field) (b : Addr) (A : Cell) (z : Int32) (o len : Nat) : Law l yN 5 4 2 35 yB 6 none site (P a D fV fC b A z o len) (E a D fV fC A o len) [⟨a, fC.slot⟩, ⟨a, fV.slot⟩] 1 len := by
  refine Law.of_walk (plainFor_of_name (by decide +kernel)) (by decide +kernel) (by decide +kernel) (by decide) (fun _ _ h => by rw [h.1]; rfl) (fun _ U U' hal hh h => ⟨h.1, h.2.1.mv hal hh, h.2.2.1.al hal, h.2.2.2.1.al hal, h.2.2.2.2.1.mv hal hh, h.2.2.2.2.2.1.there hal hh, h.2.2.2.2.2.2⟩) (fun r U U' V V' h1 hal h2 h => Got.mv r U U' V V' h1 hal h2 h) ?_
  intro p e s m args below meth c s₁ X0 hexec hbytes hml hret hlk hnm hown hh0 W hP
  obtain ⟨rfl, hB, f1, f2, hA, s1, hz, l0, l1, l2, hp⟩ := hP
  have a31 := hA.1.2.2.2
  have c1 : Steps p.tables e below (s₁.setTop (entryFrame m #[.ref a, .ref b, .int (Int32.ofNat o), .int (Int32.ofNat len), .null] 6)) (s₁.setTop (mkF m 0 #[.val (.ref a), .val (.ref b), .val (.int (Int32.ofNat o)), .val (.int (Int32.ofNat len)), .val .null, .unset] [])) := entry rfl
  have c2 : Steps p.tables e below (s₁.setTop (entryFrame m #[.ref a, .ref b, .int (Int32.ofNat o), .int (Int32.ofNat len), .null] 6)) (s₁.setTop (mkF m 1 #[.val (.ref a), .val (.ref b), .val (.int (Int32.ofNat o)), .val (.int (Int32.ofNat len)), .val .null, .unset] [.ref a])) := c1.trans (by
    refine XS.aloadN X0.here hexec rfl (hb hbytes d0) rfl rfl ?_
    exact Steps.refl _)
  obtain ⟨T3, X3, q3, st3⟩ := X0.oinit hexec hown (wks W (objW "java/lang/String" 1)) (g := (mkF m 1 #[.val (.ref a), .val (.ref b), .val (.int (Int32.ofNat o)), .val (.int (Int32.ofNat len)), .val .null, .unset] [.ref a])) rfl (by rw [hml]; rfl) (rest := []) rfl (hb hbytes d1) (W := 0) (by show 2 * 0 + 0 ≤ _; decide) (Nat.le_of_ble_eq_true rfl) (Nat.le_of_ble_eq_true rfl)
  have hh3 := q3.trans hh0
  have c4 : Steps p.tables e below (s₁.setTop (entryFrame m #[.ref a, .ref b, .int (Int32.ofNat o), .int (Int32.ofNat len), .null] 6)) (T3.setTop (mkF m 27 #[.val (.ref a), .val (.ref b), .val (.int (Int32.ofNat o)), .val (.int (Int32.ofNat len)), .val .null, .unset] [])) := (c2.trans (st3 _ (Steps.refl _))).trans (by
    refine XS.iloadN X3.here hexec rfl (hb hbytes d4) rfl ?_
    refine XS.ifYes X3.here hexec rfl (pc0 := 5) rfl (hb hbytes d5) rfl (i0_ne_t (nz32 (by omega) l0)) (by decide) rfl ?_
    exact Steps.refl _)
  obtain ⟨T5, X5, q5, st5⟩ := X3.sget hexec hown (wk W (.fieldLink "java/lang/String" 38 "java/lang/String" "COMPACT_STRINGS" "Z")) s1 (fun _ _ h => by rw [hh3]; exact h) (g := (mkF m 27 #[.val (.ref a), .val (.ref b), .val (.int (Int32.ofNat o)), .val (.int (Int32.ofNat len)), .val .null, .unset] [])) rfl (hb hbytes d27)
  have hh5 := q5.trans hh3
  have c6 : Steps p.tables e below (s₁.setTop (entryFrame m #[.ref a, .ref b, .int (Int32.ofNat o), .int (Int32.ofNat len), .null] 6)) (T5.setTop (mkF m 30 #[.val (.ref a), .val (.ref b), .val (.int (Int32.ofNat o)), .val (.int (Int32.ofNat len)), .val .null, .unset] [.int z])) := c4.trans (st5 _ (Steps.refl _))
  have c7 : Steps p.tables e below (s₁.setTop (entryFrame m #[.ref a, .ref b, .int (Int32.ofNat o), .int (Int32.ofNat len), .null] 6)) (T5.setTop (mkF m 36 #[.val (.ref a), .val (.ref b), .val (.int (Int32.ofNat o)), .val (.int (Int32.ofNat len)), .val .null, .unset] [.int (Int32.ofNat len), .int (Int32.ofNat o), .ref b])) := c6.trans (by
    refine XS.ifNo X5.here hexec rfl (hb hbytes d30) rfl (i0_eq_f hz) ?_
    refine XS.aloadN X5.here hexec rfl (hb hbytes d33) rfl rfl ?_
    refine XS.iloadN X5.here hexec rfl (hb hbytes d34) rfl ?_
    refine XS.iloadN X5.here hexec rfl (hb hbytes d35) rfl ?_
    exact Steps.refl _)
  obtain ⟨v8, T8, X8, E8, g8⟩ := X5.callS hexec (Cmp3.law l b A o len) hown (wks W (staticW "java/lang/String" 177 Cmp3.yN)) (wk W Cmp3.tab) (W := 0) (Nat.le_of_ble_eq_true rfl) (Nat.le_of_ble_eq_true rfl) (Nat.le_refl _) (by show 0 + len ≤ len; omega) (g := (mkF m 36 #[.val (.ref a), .val (.ref b), .val (.int (Int32.ofNat o)), .val (.int (Int32.ofNat len)), .val .null, .unset] [.int (Int32.ofNat len), .int (Int32.ofNat o), .ref b])) rfl (by rw [hml]; rfl) c7 (argsL := [.ref b, .int (Int32.ofNat o), .int (Int32.ofNat len)]) (rest := []) rfl rfl (by show 2 * 0 + 0 ≤ _; decide) (hb hbytes d36) (⟨rfl, hA.mv X5.warmed.alike hh5, l1, l2, hp⟩)
  obtain ⟨e8, z8⟩ := E8
  obtain ⟨rfl, N, n1, n2, n3, n4, n5, n6⟩ := NewArr.mv _ T5 s _ _ hh5.symm (Vm.Alike.refl _) rfl e8
  rw [hh5] at z8
  have hB1 := hB.keep X8.warmed.alike (n6 _ _ hB.1)
  have hne : s.heap.size ≠ a := (Nat.ne_of_lt (Array.getElem?_eq_some_iff.mp hB.1).1).symm
  have c9 : Steps p.tables e below (s₁.setTop (entryFrame m #[.ref a, .ref b, .int (Int32.ofNat o), .int (Int32.ofNat len), .null] 6)) (T8.setTop (mkF m 39 #[.val (.ref a), .val (.ref b), .val (.int (Int32.ofNat o)), .val (.int (Int32.ofNat len)), .val .null, .unset] [.ref s.heap.size])) := g8
  have c10 : Steps p.tables e below (s₁.setTop (entryFrame m #[.ref a, .ref b, .int (Int32.ofNat o), .int (Int32.ofNat len), .null] 6)) (T8.setTop (mkF m 45 #[.val (.ref a), .val (.ref b), .val (.int (Int32.ofNat o)), .val (.int (Int32.ofNat len)), .val .null, .val (.ref s.heap.size)] [.int (Int32.ofNat N.slots.size), .ref s.heap.size, .ref a])) := by
    have hc : Steps p.tables e below (s₁.setTop (entryFrame m #[.ref a, .ref b, .int (Int32.ofNat o), .int (Int32.ofNat len), .null] 6)) (T8.setTop (mkF m 45 #[.val (.ref a), .val (.ref b), .val (.int (Int32.ofNat o)), .val (.int (Int32.ofNat len)), .val .null, .val (.ref s.heap.size)] [.int (Int32.ofNat len), .ref s.heap.size, .ref a])) := c9.trans (by
      refine XS.astore X8.here hexec rfl (hb hbytes d39) rfl rfl rfl ?_
      refine XS.aloadN X8.here hexec rfl (hb hbytes d41) rfl rfl ?_
      refine XS.aload X8.here hexec rfl (hb hbytes d42) rfl rfl ?_
      refine XS.iloadN X8.here hexec rfl (hb hbytes d44) rfl ?_
      exact Steps.refl _)
    rw [n4]; exact hc
  obtain ⟨v11, T11, X11, E11, g11⟩ := X8.callS hexec (CodL.law l s.heap.size N) hown (wks W (staticW "java/lang/String" 47 CodL.yN)) (wk W CodL.tab) (W := 1) (Nat.le_of_ble_eq_true rfl) (Nat.le_of_ble_eq_true rfl) (Nat.le_refl _) (by show 0 + len + 0 ≤ len; omega) (g := (mkF m 45 #[.val (.ref a), .val (.ref b), .val (.int (Int32.ofNat o)), .val (.int (Int32.ofNat len)), .val .null, .val (.ref s.heap.size)] [.int (Int32.ofNat N.slots.size), .ref s.heap.size, .ref a])) rfl (by rw [hml]; rfl) c10 (argsL := [.ref s.heap.size, .int (Int32.ofNat N.slots.size)]) (rest := [.ref a]) rfl rfl (by show 2 * 0 + (1 + 0) ≤ _; decide) (hb hbytes d45) (⟨rfl, n1⟩)
  obtain ⟨rfl, q11⟩ := E11
  have hB11 := hB1.mv (X8.warmed.alike.symm.trans X11.warmed.alike) q11
  have c12 : Steps p.tables e below (s₁.setTop (entryFrame m #[.ref a, .ref b, .int (Int32.ofNat o), .int (Int32.ofNat len), .null] 6)) (T11.setTop (mkF m 48 #[.val (.ref a), .val (.ref b), .val (.int (Int32.ofNat o)), .val (.int (Int32.ofNat len)), .val .null, .val (.ref s.heap.size)] [.int 0, .ref a])) := g11
  obtain ⟨T13, X13, p13, bl13, sl13, st13⟩ := X11.finit hexec hown (wk W (.fieldLink "java/lang/String" 15 "java/lang/String" "coder" "B")) (Or.inr ⟨_, (wk W (.laysFinal "java/lang/String" "java/lang/String" "coder" "B"))⟩) (Or.inl ⟨rfl, hnm⟩) f2 (Or.inl rfl) hB11 (t := .byte) (by decide +kernel) rfl (g := (mkF m 48 #[.val (.ref a), .val (.ref b), .val (.int (Int32.ofNat o)), .val (.int (Int32.ofNat len)), .val .null, .val (.ref s.heap.size)] [.int 0, .ref a])) rfl (rest := []) rfl (hb hbytes d48)
  have c14 : Steps p.tables e below (s₁.setTop (entryFrame m #[.ref a, .ref b, .int (Int32.ofNat o), .int (Int32.ofNat len), .null] 6)) (T13.setTop (mkF m 54 #[.val (.ref a), .val (.ref b), .val (.int (Int32.ofNat o)), .val (.int (Int32.ofNat len)), .val .null, .val (.ref s.heap.size)] [.ref s.heap.size, .ref a])) := (c12.trans (st13 _ (Steps.refl _))).trans (by
    refine XS.aloadN X13.here hexec rfl (hb hbytes d51) rfl rfl ?_
    refine XS.aload X13.here hexec rfl (hb hbytes d52) rfl rfl ?_
    exact Steps.refl _)
  obtain ⟨T15, X15, p15, bl15, sl15, st15⟩ := X13.finit hexec hown (wk W (.fieldLink "java/lang/String" 9 "java/lang/String" "value" "[B")) (Or.inr ⟨_, (wk W (.laysFinal "java/lang/String" "java/lang/String" "value" "[B"))⟩) (Or.inl ⟨rfl, hnm⟩) f1 (Or.inl rfl) bl13 (t := (.array .byte)) (by decide +kernel) rfl (g := (mkF m 54 #[.val (.ref a), .val (.ref b), .val (.int (Int32.ofNat o)), .val (.int (Int32.ofNat len)), .val .null, .val (.ref s.heap.size)] [.ref s.heap.size, .ref a])) rfl (rest := []) rfl (hb hbytes d54)
  have c16 : Steps p.tables e below (s₁.setTop (entryFrame m #[.ref a, .ref b, .int (Int32.ofNat o), .int (Int32.ofNat len), .null] 6)) (T15.setTop (mkF m 57 #[.val (.ref a), .val (.ref b), .val (.int (Int32.ofNat o)), .val (.int (Int32.ofNat len)), .val .null, .val (.ref s.heap.size)] [])) := c14.trans (st15 _ (Steps.refl _))
  have ap := apart (Or.inr ⟨_, (wk W (.laysFinal "java/lang/String" "java/lang/String" "value" "[B"))⟩) (Or.inr ⟨_, (wk W (.laysFinal "java/lang/String" "java/lang/String" "coder" "B"))⟩) f1 f2 (t₁ := .array .byte) (t₂ := .byte) (by decide +kernel) (by decide +kernel) (by decide)
  have al := X8.warmed.alike.symm.trans X15.warmed.alike
  have n7 : T11.heap[s.heap.size]? = some N := by rw [q11]; exact n1.1
  exact ⟨T15, none, _, _, _, X15, by simp, rfl, by omega, (fun _ => rfl), ⟨rfl, _, N, bl15, ((Same.refl D _).set _ (by simp)).set _ (by simp), sl15, (Cell.slots_setSlot_ne _ ap).trans sl13, n1.keep al (p15.other hne (p13.other hne n7)), n2, by rw [al.findClass]; exact n3, n4, n5, fun y c h1 h2 => p15.other h1 (p13.other h1 (by rw [q11]; exact n6 y c h2)), by rw [p15.2.2, p13.2.2, q11]; exact z8⟩, fun fs hl => c16.trans (X15.returnOut hexec hret (hb hbytes d57) hl)⟩
end New4
namespace New1
def yN : MethodName := ⟨"java/lang/String", "<init>", "([C)V"⟩
abbrev yB : ByteArray := jdk_42_method_3_code
theorem d0 : decode yB 0 = .ok (.aload_n 0, 1) := by decide +kernel
theorem d1 : decode yB 1 = .ok (.aload_n 1, 1) := by decide +kernel
theorem d2 : decode yB 2 = .ok (.iconst 0, 1) := by decide +kernel
theorem d3 : decode yB 3 = .ok (.aload_n 1, 1) := by decide +kernel
theorem d4 : decode yB 4 = .ok (.arraylength, 1) := by decide +kernel
theorem d5 : decode yB 5 = .ok (.aconst_null, 1) := by decide +kernel
theorem d6 : decode yB 6 = .ok (.invokespecial 27, 3) := by decide +kernel
theorem d9 : decode yB 9 = .ok (.return_, 1) := by decide +kernel
def site : List Cond := [New4.tab] ++ initW "java/lang/String" 27 New4.yN
def tab : Cond := tabOf yN yB 2 none site
def P (a : Addr) (D : Cell) (fV fC : Field) (b : Addr) (A : Cell) (z : Int32) (args : Array Value) (s : State) : Prop := args = #[.ref a, .ref b] ∧ Blank "java/lang/String" a D s ∧ Found "java/lang/String" "value" "[B" fV s ∧ Found "java/lang/String" "coder" "B" fC s ∧ Ch b A s ∧ StaticIs s "java/lang/String" "COMPACT_STRINGS" "Z" (.int z) ∧ ¬ z = 0 ∧ 0 < A.slots.size ∧ A.slots.size ≤ 536870912 ∧ ∀ i, i < A.slots.size → ¬ 255 < cv A i
def E (a : Addr) (D : Cell) (fV fC : Field) (A : Cell) (r : Option Value) (s u : State) : Prop := Got a D fV fC A 0 A.slots.size r s u
/-- new String(chars), not empty, no char above 255: a Latin-1 String of their low bytes -/
theorem law (l : Launch) (a : Addr) (D : Cell) (fV fC : Field) (b : Addr) (A : Cell) (z : Int32) : Law l yN 2 1 3 52 yB 2 none site (P a D fV fC b A z) (E a D fV fC A) [⟨a, fC.slot⟩, ⟨a, fV.slot⟩] 1 A.slots.size := by
  refine Law.of_walk (plainFor_of_name (by decide +kernel)) (by decide +kernel) (by decide +kernel) (by decide) (fun _ _ h => by rw [h.1]; rfl) (fun _ U U' hal hh h => ⟨h.1, h.2.1.mv hal hh, h.2.2.1.al hal, h.2.2.2.1.al hal, h.2.2.2.2.1.mv hal hh, h.2.2.2.2.2.1.there hal hh, h.2.2.2.2.2.2⟩) (fun r U U' V V' h1 hal h2 h => Got.mv r U U' V V' h1 hal h2 h) ?_
  intro p e s m args below meth c s₁ X0 hexec hbytes hml hret hlk hnm hown hh0 W hP
  obtain ⟨rfl, hB, f1, f2, hA, s1, hz, l0, l2, hp⟩ := hP
  have c1 : Steps p.tables e below (s₁.setTop (entryFrame m #[.ref a, .ref b] 2)) (s₁.setTop (mkF m 0 #[.val (.ref a), .val (.ref b)] [])) := entry rfl
  have c2 : Steps p.tables e below (s₁.setTop (entryFrame m #[.ref a, .ref b] 2)) (s₁.setTop (mkF m 6 #[.val (.ref a), .val (.ref b)] [.null, .int (Int32.ofNat A.slots.size), .int 0, .ref b, .ref a])) := c1.trans (by
    refine XS.aloadN X0.here hexec rfl (hb hbytes d0) rfl rfl ?_
    refine XS.aloadN X0.here hexec rfl (hb hbytes d1) rfl rfl ?_
    refine iconstV X0.here hexec rfl 0 (hb hbytes d2) (by decide) ?_
    refine XS.aloadN X0.here hexec rfl (hb hbytes d3) rfl rfl ?_
    refine X0.alen hexec (hA.1.mv X0.warmed.alike hh0) rfl rfl (hb hbytes d4) ?_
    refine XS.aconstNull X0.here hexec rfl (hb hbytes d5) ?_
    exact Steps.refl _)
  obtain ⟨v3, T3, X3, E3, g3⟩ := X0.callN hexec (New4.law l a D fV fC b A z 0 A.slots.size) rfl hown (wks W (initW "java/lang/String" 27 New4.yN)) (W New4.tab (by simp only [site, List.mem_cons, List.mem_append, true_or, or_true])) (W := 0) (Nat.le_of_ble_eq_true rfl) (Nat.le_of_ble_eq_true rfl) (Nat.le_refl _) (by show 0 + A.slots.size ≤ A.slots.size; omega) (g := (mkF m 6 #[.val (.ref a), .val (.ref b)] [.null, .int (Int32.ofNat A.slots.size), .int (Int32.ofNat 0), .ref b, .ref a])) rfl (by rw [hml]; rfl) c2 (argsL := [.ref b, .int (Int32.ofNat 0), .int (Int32.ofNat A.slots.size), .null]) (rest := []) rfl rfl (by show 2 * 0 + 0 ≤ _; decide) (hb hbytes d6) (⟨rfl, hB.mv X0.warmed.alike hh0, f1.al X0.warmed.alike, f2.al X0.warmed.alike, hA.mv X0.warmed.alike hh0, s1.there X0.warmed.alike hh0, hz, l0, by omega, l2, fun i hi => by rw [Nat.zero_add]; exact hp i hi⟩)
  have e0 := Got.mv _ s₁ s _ _ hh0.symm (Vm.Alike.refl _) rfl E3
  obtain rfl := e0.1
  have c4 : Steps p.tables e below (s₁.setTop (entryFrame m #[.ref a, .ref b] 2)) (T3.setTop (mkF m 9 #[.val (.ref a), .val (.ref b)] [])) := g3
  exact ⟨T3, none, _, _, _, X3, by simp, rfl, by omega, (fun _ => rfl), e0, fun fs hl => c4.trans (X3.returnOut hexec hret (hb hbytes d9) hl)⟩
theorem pays {l : Launch} {R : Room} {p : Program} {e : Env} {below : List Frame} {s : State} {sargs : Array Value} {len W : Nat} (a : Addr) (D : Cell) (fV fC : Field) (b : Addr) (A : Cell) (z : Int32) (htab : tab.before sargs s = true) (hfr : 4 ≤ R.frames) (hlo : W + 65 ≤ R.locals) :
    Back l R p e below s sargs yN len W (fun A₁ a₁ => A₁.cells + 1 ≤ R.cells ∧ A₁.slots + A.slots.size ≤ R.slots ∧ P a D fV fC b A z a₁ A₁.U) (fun A₁ _ v₁ B₁ => E a D fV fC A v₁ A₁.U B₁.U ∧ B₁.locs = A₁.locs ++ [⟨a, fC.slot⟩, ⟨a, fV.slot⟩] ∧ B₁.cells = A₁.cells + 1 ∧ B₁.slots = A₁.slots + A.slots.size) :=
  (law l a D fV fC b A z).pays htab hfr (by omega)
end New1
end StrChars
namespace StrChars.Road
open Jvm Sem ClassFile Op Lib Jvm.Stand Jvm.Free Jvm.Free.XT
open Jvm.Lib.Cold (StaticIs)
abbrev ST : String := "java/lang/String"
/-- every table word that New1's law asks, flat -/
abbrev words : List Jvm.Cond := [.code New1.yN New1.yB 2 none, .initialized ST, .methodLink ST 27 New4.yN, .instanceMethod New4.yN,
  .code New4.yN New4.yB 6 none, .fieldLink ST 38 ST "COMPACT_STRINGS" "Z", .laysFinal ST ST "value" "[B", .fieldLink ST 9 ST "value" "[B", .laysFinal ST ST "coder" "B", .fieldLink ST 15 ST "coder" "B",
  .methodLink ST 1 Lib.objectInit, .instanceMethod Lib.objectInit, .code Lib.objectInit ⟨#[0xb1]⟩ 1 none, .methodLink ST 177 Cmp3.yN, .static Cmp3.yN, .methodLink ST 47 CodL.yN, .static CodL.yN,
  .code Cmp3.yN Cmp3.yB 6 (some (.array .byte)), .initialized U16, .arrayClass .byte, .methodLink U16 115 Cmp5.yN, .static Cmp5.yN, .code Cmp5.yN Cmp5.yB 7 (some .int), .code CodL.yN CodL.yB 2 (some .byte)]
theorem tab_of {a : Array Value} {s : State} (h : ∀ w ∈ words, w.before a s = true) : New1.tab.before a s = true := by
  have h5 : Cmp5.tab.before a s = true := unparts (wk h (.code Cmp5.yN Cmp5.yB 7 (some .int))) (wks h (.initialized Cmp5.yN.cls :: Cmp5.site))
  have hc : CodL.tab.before a s = true := unparts (wk h (.code CodL.yN CodL.yB 2 (some .byte))) (wks h (.initialized CodL.yN.cls :: CodL.site))
  have q5 : ∀ w ∈ Cmp5.tab :: words, w.before a s = true := fun w hw => (List.mem_cons.mp hw).elim (fun e => e ▸ h5) (h w)
  have h3 : Cmp3.tab.before a s = true := unparts (wk q5 (.code Cmp3.yN Cmp3.yB 6 (some (.array .byte)))) (wks q5 (.initialized Cmp3.yN.cls :: Cmp3.site))
  have q3 : ∀ w ∈ Cmp3.tab :: CodL.tab :: words, w.before a s = true := fun w hw => (List.mem_cons.mp hw).elim (fun e => e ▸ h3) fun hw => (List.mem_cons.mp hw).elim (fun e => e ▸ hc) (h w)
  have h4 : New4.tab.before a s = true := unparts (wk q3 (.code New4.yN New4.yB 6 none)) (wks q3 (.initialized New4.yN.cls :: New4.site))
  have q4 : ∀ w ∈ New4.tab :: words, w.before a s = true := fun w hw => (List.mem_cons.mp hw).elim (fun e => e ▸ h4) (h w)
  exact unparts (wk q4 (.code New1.yN New1.yB 2 none)) (wks q4 (.initialized New1.yN.cls :: New1.site))
/-- the words ride from the start Z to the walk's own state -/
theorem moved {Z s : State} {a0 args : Array Value} (hZ : Z.Warmed39 s.vm) (hw : ∀ d ∈ words, d.before a0 Z = true) : ∀ d ∈ words, d.before args s = true := fun d hd => by
  have q := hw d hd
  have t : ∀ d ∈ words, d = .arrayClass .byte ∨ (d.onTables && d.keepsFace) = true := by decide +kernel
  rcases t d hd with rfl | t
  · exact RoadKit.mvA hZ q
  · exact RoadKit.mv hZ q t
/-- WHAT COMES BACK, over the tables of the start Z: h the heap at the call, h' behind it -/
def Q (Z : State) (x : Addr) (A : Cell) (h : Heap) (v : Option Value) (h' : Heap) (L : List Loc) : Prop := v = none ∧ (∀ y ∈ L, y.base = x) ∧ RoadKit.Keep h h' [x] ∧ h'.size = h.size + 1 ∧ RoadKit.Exa Z h' x ST ∧ RoadKit.Fld Z h' x ST "value" "[B" (.ref h.size) ∧ RoadKit.Fld Z h' x ST "coder" "B" (.int 0) ∧
  (∃ V : Cell, RoadKit.Arr Z h' h.size V .byte ∧ V.vm = .none ∧ Z.vm.findClass "[B" = some V.cls ∧ V.slots.size = A.slots.size ∧ ∀ j, j < A.slots.size → V.slots[j]? = some (.int (lo8 (cv A j)))) ∧
  ∀ (O n d : String) (w : Value), RoadKit.Fld Z h x O n d w → RoadKit.slotOf Z O n d ≠ RoadKit.slotOf Z ST "value" "[B" → RoadKit.slotOf Z O n d ≠ RoadKit.slotOf Z ST "coder" "B" → RoadKit.Fld Z h' x O n d w
/-- **new String(chars) AT A CALL, IN THE ROAD'S FORM**: for specialBack behind newO: x the fresh String, b the char[] with the cell A -/
theorem back {p : Program} {l : Launch} {e : Env} {R : Room} {s : State} {args : Array Value} {below : List Frame} {len W : Nat} {Z : State} {a0 : Array Value} {h : Heap} (hZ : Z.Warmed39 s.vm) (hw : ∀ d ∈ words, d.before a0 Z = true) {kI : Nat} (wi : (Jvm.Cond.instantiable ST kI).before a0 Z = true)
    {x b : Addr} {A : Cell} {z : Int32} {v0 c0 : Value} (E : RoadKit.Exa Z h x ST) (V : RoadKit.Fld Z h x ST "value" "[B" v0) (C : RoadKit.Fld Z h x ST "coder" "B" c0) (K : RoadKit.Arr Z h b A .char) (hty : Typed .char A) (S : RoadKit.Sta Z h ST "COMPACT_STRINGS" "Z" (.int z)) (hz : ¬ z = 0)
    (l0 : 0 < A.slots.size) (l2 : A.slots.size ≤ 536870912) (hp : ∀ i, i < A.slots.size → ¬ 255 < cv A i) (hfr : 4 ≤ R.frames) (hlo : W + 65 ≤ R.locals) :
    Back l R p e below s args New1.yN len W (fun P a => a = #[.ref x, .ref b] ∧ P.U.heap = h ∧ P.cells + 1 ≤ R.cells ∧ P.slots + A.slots.size ≤ R.slots)
      (fun P _ v B => ∃ L, Q Z x A h v B.U.heap L ∧ B.locs = P.locs ++ L ∧ B.cells = P.cells + 1 ∧ B.slots = P.slots + A.slots.size) := by
  intro m meth c P g ig mk a X hg hsize hdg hW hn hp'
  obtain ⟨rfl, rfl, r1, r2⟩ := hp'
  have al : Z.vm.Alike P.U.vm := hZ.alike.trans X.warmed.alike
  obtain ⟨D, cfV, kV, iV, fV, hD, gV, stV, knV, obV, asV, slV⟩ := id V
  obtain ⟨D', cfC, kC, iC, fC, hD', gC, stC, -, -, asC, slC⟩ := id C
  cases hD.symm.trans hD'
  obtain ⟨D2, kD, e1, e2, e3, e4, e5⟩ := id E
  cases hD.symm.trans e1
  obtain ⟨c2, k2, i1, i2, i3, -⟩ := Cond.instantiable_spec wi
  cases e2.symm.trans i1
  cases e3.symm.trans i2
  obtain ⟨kU, u1, u2⟩ := al.2.2 _ _ e3
  have hB : Blank ST x D P.U := ⟨hD, ⟨knV, fun q hq => by rw [hq] at obV; cases obV⟩, by rw [al.findClass]; exact e2, kU, u1, by rw [u2]; exact i3, by rw [u2]; exact e5 i3⟩
  have F1 : Found ST "value" "[B" fV P.U := ⟨SBG.found_only al ⟨cfV, kV, iV, gV⟩, stV⟩
  have F2 : Found ST "coder" "B" fC P.U := ⟨SBG.found_only al ⟨cfC, kC, iC, gC⟩, stC⟩
  have hA : Ch b A P.U := ⟨⟨K.1, State.isArrayOf_alike al K.2.1, K.2.2, by omega⟩, hty⟩
  have hS : StaticIs P.U ST "COMPACT_STRINGS" "Z" (.int z) := by
    obtain ⟨cfS, iS, kS, fS, st, cS, t1, t2, t3, t4, t5, t6, t7⟩ := S
    exact StaticIs.there (s := { Z with heap := P.U.heap }) ⟨cfS, iS, kS, fS, st, cS, t1, t2, t3, t4, t5, (fun q => by rw [q] at t6; cases t6), t7⟩ al rfl
  obtain ⟨v, B, X', ⟨⟨hv, E', V', q1, q2, q3, q4, q5, q6, q7, q8, q9, q10, q11⟩, hl, hc, hs⟩, st⟩ := New1.pays x D fV fC b A z (tab_of (moved hZ hw)) hfr hlo m meth c P g ig mk _ X hg hsize hdg hW hn ⟨r1, r2, rfl, hB, F1, F2, hA, hS, hz, l0, l2, hp⟩
  have al' : Z.vm.Alike B.U.vm := hZ.alike.trans X'.warmed.alike
  have hsz : E'.slots.size = D.slots.size := by
    obtain ⟨-, -, -, kB, w1, w2, w3⟩ := q1
    obtain ⟨kB', y1, y2⟩ := al'.2.2 _ _ e3
    rw [q2.2.1] at w1
    cases w1.symm.trans y1
    rw [w3, e5 i3, y2]
  refine ⟨v, B, X', ⟨_, ⟨hv, ?_, ⟨by omega, fun y cy hy hn' => q10 y cy (by simpa using hn') hy, fun y cy hy => ?_⟩, q11, ⟨E', _, q1.1, by rw [q2.2.1]; exact e2, by rw [q2.2.1]; exact e3, by rw [q2.1]; exact obV, fun _ => by rw [hsz]; exact e5 i3⟩,
    ⟨E', cfV, kV, iV, fV, q1.1, gV, stV, by rw [q2.1]; exact knV, by rw [q2.1]; exact obV, by rw [q2.2.1]; exact asV, q3⟩, ⟨E', cfC, kC, iC, fC, q1.1, gC, stC, by rw [q2.1]; exact knV, by rw [q2.1]; exact obV, by rw [q2.2.1]; exact asC, q4⟩,
    ⟨V', ⟨q5.1, State.isArrayOf_alike al'.symm q5.2.1, q5.2.2.1⟩, q6, by rw [← al'.findClass]; exact q7, q8, fun j hj => by have := q9 j hj; rwa [Nat.zero_add] at this⟩, fun O n d w F n1 n2 => ?_⟩, hl, hc, hs⟩, st⟩
  · intro y hy
    simp only [List.mem_cons, List.not_mem_nil, or_false] at hy
    rcases hy with rfl | rfl <;> rfl
  · by_cases q : y = x
    · subst q
      cases hD.symm.trans hy
      exact ⟨E', q1.1, q2.2.1, q2.1, hsz⟩
    · exact ⟨cy, q10 y cy q hy, rfl, rfl, rfl⟩
  · obtain ⟨D3, cf, k, i, f, g1, g2, g3, g4, g5, g6, g7⟩ := F
    cases hD.symm.trans g1
    simp only [RoadKit.slotOf, g2, gV, gC, Option.map_some, Option.getD_some] at n1 n2
    exact ⟨E', cf, k, i, f, q1.1, g2, g3, by rw [q2.1]; exact g4, by rw [q2.1]; exact g5, by rw [q2.2.1]; exact g6, by rw [q2.2.2 f.slot (by simp [n1, n2])]; exact g7⟩
end StrChars.Road
namespace StrChars.Road
open Jvm Sem ClassFile Op Lib Jvm.Stand Jvm.Free Jvm.Free.XT
/-- WHAT COMES BACK, the byte[] as a list of values -/
def QA (Z : State) (x : Addr) (zn : Int32) (cs : List Int32) (h : Heap) (v : Option Value) (h' : Heap) (L : List Loc) : Prop := v = none ∧ (∀ y ∈ L, y.base = x) ∧ RoadKit.Keep h h' [x] ∧ h'.size = h.size + 1 ∧ RoadKit.Exa Z h' x ST ∧ RoadKit.Fld Z h' x ST "value" "[B" (.ref h.size) ∧ RoadKit.Fld Z h' x ST "coder" "B" (.int 0) ∧
  (∃ kb, Z.vm.findClass "[B" = some kb ∧ RoadKit.Arv Z h' h.size kb .byte zn (cs.map fun c => .int (lo8 c)) (.int 0)) ∧
  ∀ (O n d : String) (w : Value), RoadKit.Fld Z h x O n d w → RoadKit.slotOf Z O n d ≠ RoadKit.slotOf Z ST "value" "[B" → RoadKit.slotOf Z O n d ≠ RoadKit.slotOf Z ST "coder" "B" → RoadKit.Fld Z h' x O n d w
/-- **new String(chars) AT A CALL, THE ARRAYS AS LISTS**: the char[] at b holds cs, not empty, no char above 255 -/
theorem backArv {p : Program} {l : Launch} {e : Env} {R : Room} {s : State} {args : Array Value} {below : List Frame} {len W : Nat} {Z : State} {a0 : Array Value} {h : Heap} (hZ : Z.Warmed39 s.vm) (hw : ∀ d ∈ words, d.before a0 Z = true) {kI : Nat} (wi : (Jvm.Cond.instantiable ST kI).before a0 Z = true)
    {x b : Addr} {k : ClassId} {zn z : Int32} {cs : List Int32} {dv v0 c0 : Value} (E : RoadKit.Exa Z h x ST) (V : RoadKit.Fld Z h x ST "value" "[B" v0) (C : RoadKit.Fld Z h x ST "coder" "B" c0) (K : RoadKit.Arv Z h b k .char zn (cs.map Value.int) dv) (S : RoadKit.Sta Z h ST "COMPACT_STRINGS" "Z" (.int z)) (hz : ¬ z = 0)
    (hlen : zn.toNatClampNeg = cs.length) (h0 : 0 < cs.length) (hbig : cs.length ≤ 536870912) (hall : ∀ c ∈ cs, ¬ 255 < c) (hfr : 4 ≤ R.frames) (hlo : W + 65 ≤ R.locals) :
    Back l R p e below s args New1.yN len W (fun P a => a = #[.ref x, .ref b] ∧ P.U.heap = h ∧ P.cells + 1 ≤ R.cells ∧ P.slots + cs.length ≤ R.slots)
      (fun P _ v B => ∃ L, QA Z x zn cs h v B.U.heap L ∧ B.locs = P.locs ++ L ∧ B.cells = P.cells + 1 ∧ B.slots = P.slots + cs.length) := by
  obtain ⟨A, K1, K2, K3, K4, K5, K6⟩ := K
  have e : A.slots.size = cs.length := K3.trans hlen
  have hat : ∀ (i : Nat) (hi : i < cs.length), A.slots[i]? = some (.int cs[i]) := fun i hi => by rw [K5 i (by omega)]; simp [List.getD_eq_getElem?_getD, hi]
  have hcv : ∀ (i : Nat) (hi : i < cs.length), cv A i = cs[i] := fun i hi => by unfold cv; rw [hat i hi]
  have hty : Typed .char A := fun i v hv => by
    have hi : i < A.slots.size := (Array.getElem?_eq_some_iff.mp hv).1
    have q := K5 i hi
    rw [hv] at q
    rw [Option.some.inj q]
    exact K6 i hi
  refine Back.mono (back hZ hw wi E V C K1 hty S hz (by omega) (by omega) (fun i hi => by rw [hcv i (by omega)]; exact hall _ (List.getElem_mem _)) hfr hlo) (fun P a hp => ⟨hp.1, hp.2.1, hp.2.2.1, by rw [e]; exact hp.2.2.2⟩) (fun P a v B hp hq => ?_)
  obtain ⟨L, ⟨q1, q2, q3, q4, q5, q6, q7, ⟨V', v1, v2, v3, v4, v5⟩, q9⟩, hl, hc, hs⟩ := hq
  refine ⟨L, ⟨q1, q2, q3, q4, q5, q6, q7, ⟨V'.cls, v3, V', v1, rfl, by rw [v4, e, hlen], K4, fun i hi => ?_, fun i hi => ?_⟩, q9⟩, hl, hc, by rw [hs, e]⟩
  · have hi' : i < cs.length := by omega
    rw [v5 i (by omega), hcv i hi']; simp [List.getD_eq_getElem?_getD, hi']
  · have hi' : i < cs.length := by omega
    simp only [List.getD_eq_getElem?_getD, List.getElem?_map, List.getElem?_eq_getElem hi', Option.map_some, Option.getD_some]
    exact fits_lo8 _
end StrChars.Road
namespace StrChars.Road
open Jvm Sem ClassFile Op Lib Jvm.Stand Jvm.Free Jvm.Free.XT
/-- WHAT COMES BACK, in the writer's own shape -/
def QV (Z : State) (x : Addr) (N : Int32) (bs : List Int32) (h : Heap) (n0 : Nat) (v : Option Value) (h' : Heap) (L : List Loc) : Prop := v = none ∧ RoadKit.Fr n0 L ∧ RoadKit.Keep h h' [x] ∧ RoadKit.Exa Z h' x ST ∧ RoadKit.Fld Z h' x ST "coder" "B" (.int 0) ∧
  ∃ (t : Addr) (kb : ClassId), n0 ≤ t ∧ h.size ≤ t ∧ ¬ t = x ∧ RoadKit.Fld Z h' x ST "value" "[B" (.ref t) ∧ RoadKit.Arv Z h' t kb .byte N (bs.map Value.int) (.int 0)
/-- **new String(chars) AT A CALL, FOR THE WRITER**: a char[] of n known ints, each 0 to 255 -/
theorem backV {p : Program} {l : Launch} {e : Env} {R : Room} {s : State} {args : Array Value} {below : List Frame} {len W : Nat} {Z : State} {a0 : Array Value} {h : Heap} (hZ : Z.Warmed39 s.vm) (hw : ∀ d ∈ words, d.before a0 Z = true) {kI : Nat} (wi : (Jvm.Cond.instantiable ST kI).before a0 Z = true)
    {x b : Addr} {kC : ClassId} {cs bs : List Int32} {d v0 c0 : Value} {z N : Int32} {n n0 : Nat} (hx0 : n0 ≤ x) (hh0 : n0 ≤ h.size) (E : RoadKit.Exa Z h x ST) (V : RoadKit.Fld Z h x ST "value" "[B" v0) (C : RoadKit.Fld Z h x ST "coder" "B" c0) (K : RoadKit.Arv Z h b kC .char N (cs.map Value.int) d) (S : RoadKit.Sta Z h ST "COMPACT_STRINGS" "Z" (.int z)) (hz : ¬ z = 0)
    (hn : cs.length = n) (hN : N = Int32.ofNat n) (l0 : 0 < n) (l2 : n ≤ 4000) (hp : ∀ c ∈ cs, ¬ c < 0 ∧ ¬ (255 : Int32) < c) (hb : bs = cs.map (fun c => c.toInt8.toInt32)) (hfr : 4 ≤ R.frames) (hlo : W + 65 ≤ R.locals) :
    Back l R p e below s args (⟨"java/lang/String", "<init>", "([C)V"⟩ : MethodName) len W (fun P a => a = #[.ref x, .ref b] ∧ P.U.heap = h ∧ P.cells + 1 ≤ R.cells ∧ P.slots + n ≤ R.slots)
      (fun P _ v B => ∃ L, QV Z x N bs h n0 v B.U.heap L ∧ B.locs = P.locs ++ L ∧ B.cells = P.cells + 1 ∧ B.slots = P.slots + n) := by
  subst hn hN hb
  refine Back.mono (backArv hZ hw wi E V C K S hz (n32 (by omega)) l0 (by omega) (fun c hc => (hp c hc).2) hfr hlo) (fun P a hp => hp) (fun P a v B hp hq => ?_)
  obtain ⟨L, ⟨q1, q2, q3, q4, q5, q6, q7, ⟨kb, v1, v2⟩, q9⟩, hl, hc, hs⟩ := hq
  exact ⟨L, ⟨q1, fun y hy => by rw [q2 y hy]; exact hx0, q3, q5, q7, h.size, kb, hh0, Nat.le_refl _, Nat.ne_of_gt E.lt, q6, by rw [List.map_map]; exact v2⟩, hl, hc, hs⟩
end StrChars.Road
end Jvm.Pilot.@@N@@
namespace Jvm.Pilot.@@N@@
open Jvm Jvm.ClassFile Sem Op Lib Jvm.Free Jvm.Stand Jvm.LawKit Jvm.RoadKit Bundle Jvm.Pilot.@@N@@.Jvm.D
section OwnKit
variable {p : Program} {l : Launch} {e : Env} {R : Room} {s : State} {m : MethodId} {args : Array Value} {below : List Frame} {meth : Method} {c : Code} {T : State} {locs : List Loc} {cells slots : Nat} {Z : State} {a0 : Array Value} {h : Heap} {n0 kc ks : Nat} {FE : Outcome → State → List Loc → Prop} {Q : Option Value → Heap → Prop} {pc pc' : Nat} {Ls Ls' : Array Slot} {st : List Value}
/-- from the state S the run comes back to its caller with what Q says, having written nothing below n0 -/
def Goes (p : Program) (e : Env) (below : List Frame) (FE : Outcome → State → List Loc → Prop) (n0 : Nat) (Q : Option Value → Heap → Prop) (S : State) : Prop :=
  ∃ s₂ o, Steps p.tables e below S s₂ ∧ s₂.status = .running ∧ Ended s₂ below o ∧ ∃ v L, o = .returned v ∧ (Fr n0 L ∧ Q v s₂.heap) ∧ FE o s₂ L
/-- the contract of a body -/
def Meets (l : Launch) (y : MethodName) (bytes : ByteArray) (maxL : Nat) (ret : Option FieldType) (ws : List Jvm.Cond) (rm : Room) (kc ks : Nat) (Z : State) (as' : Array Value) (h : Heap) (n0 : Nat) (Q : Option Value → Heap → Prop) : Prop :=
  MetFree l y (head1 (Jvm.Cond.code y bytes maxL ret :: ws) rm) (fun a U => a = as' ∧ Z.Warmed39 U.vm ∧ U.heap = h) (fun _ _ _ _ _ => True) (fun _ U o U' => ∃ v L, o = .returned v ∧ (Fr n0 L ∧ Q v U'.heap) ∧ FrameEnd U o U' L kc ks)
theorem Goes.via {S S' : State} (f : ∀ t, Steps p.tables e below S' t → Steps p.tables e below S t) (g : Goes p e below FE n0 Q S') : Goes p e below FE n0 Q S := by
  obtain ⟨s₂, o, k, r⟩ := g
  exact ⟨s₂, o, f _ k, r⟩
theorem Goes.ret {S : State} {v : Option Value} (X : Stand p l e R s m args below meth c T locs cells slots) (N : Fr n0 locs) (hlk : meth.locks = false) (hv : meth.sig.returnType = none → v = none) (hc : cells ≤ kc) (hs : slots ≤ ks) (hq : Q v T.heap)
    (f : ∀ fs, (∀ (f : JFrame) (acts : List Action), f.method = m → f.locked = none → f.entered = [] → (doReturn e (T.setTop f) acts v).1 = T.setFrames fs) → Steps p.tables e below S (T.setFrames fs)) : Goes p e below (fun o t L => FrameEnd s o t L kc ks) n0 Q S := by
  obtain ⟨fs, hr, hrun, hended, hW, hsame⟩ := X.leave hv hlk
  exact ⟨_, _, f fs hr, hrun, hended, _, _, rfl, ⟨N, hq⟩, ⟨_, rfl⟩, hW, hsame.mono hc hs⟩
theorem own_sz (O : Old Z n0 h) : n0 ≤ h.size := O.1 ▸ O.2.1
theorem Meets.of {y : MethodName} {bytes : ByteArray} {maxL : Nat} {ret : Option FieldType} {ws : List Jvm.Cond} {rm : Room} {as' : Array Value} (hx : plainFor y = true) {F : MethodId → JFrame} (hF : ∀ m, entryFrame m as' maxL = F m)
    (body : ∀ p e s m below meth c T, p.tables.exec = Jvm.exec → c.code = bytes → c.maxLocals = maxL → s.vm.findClass y.cls = some m.cls → meth.name = y.name → meth.sig.returnType = ret → meth.locks = false → Z.Warmed39 s.vm →
      Stand p l e rm s m as' below meth c T [] 0 0 → T.heap = h → Goes p e below (fun o t L => FrameEnd s o t L kc ks) n0 Q (T.setTop (F m))) :
    Meets l y bytes maxL ret ws rm kc ks Z as' h n0 Q := by
  refine MetFree.of_bodySF hx hisR ?_
  intro p e s m args below meth c s₁ Bd hml hP hK
  obtain ⟨rfl, hZ, hh⟩ := hP
  have X0 : Stand p l e rm s m args below meth c s₁ [] 0 0 := Stand.of_body Bd
  have e0 : s₁.heap = h := by rw [← hh, Bd.state]; rfl
  obtain ⟨s₂, o, k, r⟩ := body p e s m below meth c s₁ Bd.exec Bd.bytes hml (findClass_of_methodNamed Bd.named) (name_of_methodNamed Bd.named Bd.method).1 Bd.returns Bd.notSynchronized hZ X0 e0
  exact ⟨s₂, o, castTop (hF m) k, r⟩
theorem own_iloadN (X : Stand p l e R s m args below meth c T locs cells slots) (hx : p.tables.exec = Jvm.exec) {k : Fin 4} {v : Int32} (hd : decode c.code pc = .ok (.iload_n k, 1)) (hl : Ls[k.val]? = some (.val (.int v)))
    (g : Goes p e below FE n0 Q (T.setTop (mkF m (pc + 1) Ls (.int v :: st)))) : Goes p e below FE n0 Q (T.setTop (mkF m pc Ls st)) :=
  Goes.via (fun _ k => XS.iloadN X.here hx rfl hd hl k) g
theorem own_iload (X : Stand p l e R s m args below meth c T locs cells slots) (hx : p.tables.exec = Jvm.exec) {k : Nat} {v : Int32} (hd : decode c.code pc = .ok (.iload k, 2)) (hl : Ls[k]? = some (.val (.int v)))
    (g : Goes p e below FE n0 Q (T.setTop (mkF m (pc + 2) Ls (.int v :: st)))) : Goes p e below FE n0 Q (T.setTop (mkF m pc Ls st)) :=
  Goes.via (fun _ k => XS.iload X.here hx rfl hd hl k) g
theorem own_istoreN (X : Stand p l e R s m args below meth c T locs cells slots) (hx : p.tables.exec = Jvm.exec) {k : Fin 4} {x : Int32} (hd : decode c.code pc = .ok (.istore_n k, 1)) (hl : storeLocals Ls k.val (.int x) = some Ls')
    (g : Goes p e below FE n0 Q (T.setTop (mkF m (pc + 1) Ls' st))) : Goes p e below FE n0 Q (T.setTop (mkF m pc Ls (.int x :: st))) :=
  Goes.via (fun _ k => XS.istoreN X.here hx rfl hd rfl hl k) g
theorem own_istore (X : Stand p l e R s m args below meth c T locs cells slots) (hx : p.tables.exec = Jvm.exec) {k : Nat} {x : Int32} (hd : decode c.code pc = .ok (.istore k, 2)) (hl : storeLocals Ls k (.int x) = some Ls')
    (g : Goes p e below FE n0 Q (T.setTop (mkF m (pc + 2) Ls' st))) : Goes p e below FE n0 Q (T.setTop (mkF m pc Ls (.int x :: st))) :=
  Goes.via (fun _ k => XS.istore X.here hx rfl hd rfl hl k) g
theorem own_lloadN (X : Stand p l e R s m args below meth c T locs cells slots) (hx : p.tables.exec = Jvm.exec) {k : Fin 4} {v : Int64} (hd : decode c.code pc = .ok (.lload_n k, 1)) (hl : Ls[k.val]? = some (.val (.long v)))
    (g : Goes p e below FE n0 Q (T.setTop (mkF m (pc + 1) Ls (.long v :: st)))) : Goes p e below FE n0 Q (T.setTop (mkF m pc Ls st)) :=
  Goes.via (fun _ k => XS.lloadN X.here hx rfl hd hl k) g
theorem own_lload (X : Stand p l e R s m args below meth c T locs cells slots) (hx : p.tables.exec = Jvm.exec) {k : Nat} {v : Int64} (hd : decode c.code pc = .ok (.lload k, 2)) (hl : Ls[k]? = some (.val (.long v)))
    (g : Goes p e below FE n0 Q (T.setTop (mkF m (pc + 2) Ls (.long v :: st)))) : Goes p e below FE n0 Q (T.setTop (mkF m pc Ls st)) :=
  Goes.via (fun _ k => XS.lload X.here hx rfl hd hl k) g
theorem own_lstoreN (X : Stand p l e R s m args below meth c T locs cells slots) (hx : p.tables.exec = Jvm.exec) {k : Fin 4} {x : Int64} (hd : decode c.code pc = .ok (.lstore_n k, 1)) (hl : storeLocals Ls k.val (.long x) = some Ls')
    (g : Goes p e below FE n0 Q (T.setTop (mkF m (pc + 1) Ls' st))) : Goes p e below FE n0 Q (T.setTop (mkF m pc Ls (.long x :: st))) :=
  Goes.via (fun _ k => XS.lstoreN X.here hx rfl hd rfl hl k) g
theorem own_lstore (X : Stand p l e R s m args below meth c T locs cells slots) (hx : p.tables.exec = Jvm.exec) {k : Nat} {x : Int64} (hd : decode c.code pc = .ok (.lstore k, 2)) (hl : storeLocals Ls k (.long x) = some Ls')
    (g : Goes p e below FE n0 Q (T.setTop (mkF m (pc + 2) Ls' st))) : Goes p e below FE n0 Q (T.setTop (mkF m pc Ls (.long x :: st))) :=
  Goes.via (fun _ k => XS.lstore X.here hx rfl hd rfl hl k) g
theorem own_aloadN (X : Stand p l e R s m args below meth c T locs cells slots) (hx : p.tables.exec = Jvm.exec) {k : Fin 4} {v : Value} (hd : decode c.code pc = .ok (.aload_n k, 1)) (hl : Ls[k.val]? = some (.val v)) (hv : v.isRef = true)
    (g : Goes p e below FE n0 Q (T.setTop (mkF m (pc + 1) Ls (v :: st)))) : Goes p e below FE n0 Q (T.setTop (mkF m pc Ls st)) :=
  Goes.via (fun _ k => XS.aloadN X.here hx rfl hd hl hv k) g
theorem own_aload (X : Stand p l e R s m args below meth c T locs cells slots) (hx : p.tables.exec = Jvm.exec) {k : Nat} {v : Value} (hd : decode c.code pc = .ok (.aload k, 2)) (hl : Ls[k]? = some (.val v)) (hv : v.isRef = true)
    (g : Goes p e below FE n0 Q (T.setTop (mkF m (pc + 2) Ls (v :: st)))) : Goes p e below FE n0 Q (T.setTop (mkF m pc Ls st)) :=
  Goes.via (fun _ k => XS.aload X.here hx rfl hd hl hv k) g
theorem own_astoreN (X : Stand p l e R s m args below meth c T locs cells slots) (hx : p.tables.exec = Jvm.exec) {k : Fin 4} {x : Value} (hd : decode c.code pc = .ok (.astore_n k, 1)) (hv : x.isRef = true) (hl : storeLocals Ls k.val x = some Ls')
    (g : Goes p e below FE n0 Q (T.setTop (mkF m (pc + 1) Ls' st))) : Goes p e below FE n0 Q (T.setTop (mkF m pc Ls (x :: st))) :=
  Goes.via (fun _ k => XS.astoreN X.here hx rfl hd rfl hv hl k) g
theorem own_astore (X : Stand p l e R s m args below meth c T locs cells slots) (hx : p.tables.exec = Jvm.exec) {k : Nat} {x : Value} (hd : decode c.code pc = .ok (.astore k, 2)) (hv : x.isRef = true) (hl : storeLocals Ls k x = some Ls')
    (g : Goes p e below FE n0 Q (T.setTop (mkF m (pc + 2) Ls' st))) : Goes p e below FE n0 Q (T.setTop (mkF m pc Ls (x :: st))) :=
  Goes.via (fun _ k => XS.astore X.here hx rfl hd rfl hv hl k) g
theorem own_iconst (X : Stand p l e R s m args below meth c T locs cells slots) (hx : p.tables.exec = Jvm.exec) {i : Int} {v : Int32} (hd : decode c.code pc = .ok (.iconst i, 1)) (hv : Int32.ofInt i = v)
    (g : Goes p e below FE n0 Q (T.setTop (mkF m (pc + 1) Ls (.int v :: st)))) : Goes p e below FE n0 Q (T.setTop (mkF m pc Ls st)) := by
  subst hv
  exact Goes.via (fun _ k => XS.iconst X.here hx rfl hd k) g
theorem own_bipush (X : Stand p l e R s m args below meth c T locs cells slots) (hx : p.tables.exec = Jvm.exec) {i : Int} {v : Int32} (hd : decode c.code pc = .ok (.bipush i, 2)) (hv : (Int8.ofInt i).toInt32 = v)
    (g : Goes p e below FE n0 Q (T.setTop (mkF m (pc + 2) Ls (.int v :: st)))) : Goes p e below FE n0 Q (T.setTop (mkF m pc Ls st)) := by
  subst hv
  exact Goes.via (fun _ k => XS.bipush X.here hx rfl hd k) g
theorem own_sipush (X : Stand p l e R s m args below meth c T locs cells slots) (hx : p.tables.exec = Jvm.exec) {i : Int} {v : Int32} (hd : decode c.code pc = .ok (.sipush i, 3)) (hv : (Int16.ofInt i).toInt32 = v)
    (g : Goes p e below FE n0 Q (T.setTop (mkF m (pc + 3) Ls (.int v :: st)))) : Goes p e below FE n0 Q (T.setTop (mkF m pc Ls st)) := by
  subst hv
  exact Goes.via (fun _ k => XS.sipush X.here hx rfl hd k) g
theorem own_lconst (X : Stand p l e R s m args below meth c T locs cells slots) (hx : p.tables.exec = Jvm.exec) {i : Fin 2} {v : Int64} (hd : decode c.code pc = .ok (.lconst i, 1)) (hv : Int64.ofNat i = v)
    (g : Goes p e below FE n0 Q (T.setTop (mkF m (pc + 1) Ls (.long v :: st)))) : Goes p e below FE n0 Q (T.setTop (mkF m pc Ls st)) := by
  subst hv
  exact Goes.via (fun _ k => XS.lconst X.here hx rfl hd k) g
theorem own_aconst_null (X : Stand p l e R s m args below meth c T locs cells slots) (hx : p.tables.exec = Jvm.exec)  (hd : decode c.code pc = .ok (.aconst_null, 1))
    (g : Goes p e below FE n0 Q (T.setTop (mkF m (pc + 1) Ls (.null :: st)))) : Goes p e below FE n0 Q (T.setTop (mkF m pc Ls st)) :=
  Goes.via (fun _ k => XS.aconstNull X.here hx rfl hd k) g
theorem own_iadd (X : Stand p l e R s m args below meth c T locs cells slots) (hx : p.tables.exec = Jvm.exec) {x y : Int32} (hd : decode c.code pc = .ok (.iadd, 1))
    (g : Goes p e below FE n0 Q (T.setTop (mkF m (pc + 1) Ls (.int (x + y) :: st)))) : Goes p e below FE n0 Q (T.setTop (mkF m pc Ls (.int y :: .int x :: st))) :=
  Goes.via (fun _ k => XS.iadd X.here hx rfl hd rfl k) g
theorem own_isub (X : Stand p l e R s m args below meth c T locs cells slots) (hx : p.tables.exec = Jvm.exec) {x y : Int32} (hd : decode c.code pc = .ok (.isub, 1))
    (g : Goes p e below FE n0 Q (T.setTop (mkF m (pc + 1) Ls (.int (x - y) :: st)))) : Goes p e below FE n0 Q (T.setTop (mkF m pc Ls (.int y :: .int x :: st))) :=
  Goes.via (fun _ k => XS.isub X.here hx rfl hd rfl k) g
theorem own_imul (X : Stand p l e R s m args below meth c T locs cells slots) (hx : p.tables.exec = Jvm.exec) {x y : Int32} (hd : decode c.code pc = .ok (.imul, 1))
    (g : Goes p e below FE n0 Q (T.setTop (mkF m (pc + 1) Ls (.int (x * y) :: st)))) : Goes p e below FE n0 Q (T.setTop (mkF m pc Ls (.int y :: .int x :: st))) :=
  Goes.via (fun _ k => XS.imul X.here hx rfl hd rfl k) g
theorem own_iand (X : Stand p l e R s m args below meth c T locs cells slots) (hx : p.tables.exec = Jvm.exec) {x y : Int32} (hd : decode c.code pc = .ok (.iand, 1))
    (g : Goes p e below FE n0 Q (T.setTop (mkF m (pc + 1) Ls (.int (x &&& y) :: st)))) : Goes p e below FE n0 Q (T.setTop (mkF m pc Ls (.int y :: .int x :: st))) :=
  Goes.via (fun _ k => XS.iand X.here hx rfl hd rfl k) g
theorem own_ior (X : Stand p l e R s m args below meth c T locs cells slots) (hx : p.tables.exec = Jvm.exec) {x y : Int32} (hd : decode c.code pc = .ok (.ior, 1))
    (g : Goes p e below FE n0 Q (T.setTop (mkF m (pc + 1) Ls (.int (x ||| y) :: st)))) : Goes p e below FE n0 Q (T.setTop (mkF m pc Ls (.int y :: .int x :: st))) :=
  Goes.via (fun _ k => XS.ior X.here hx rfl hd rfl k) g
theorem own_ixor (X : Stand p l e R s m args below meth c T locs cells slots) (hx : p.tables.exec = Jvm.exec) {x y : Int32} (hd : decode c.code pc = .ok (.ixor, 1))
    (g : Goes p e below FE n0 Q (T.setTop (mkF m (pc + 1) Ls (.int (x ^^^ y) :: st)))) : Goes p e below FE n0 Q (T.setTop (mkF m pc Ls (.int y :: .int x :: st))) :=
  Goes.via (fun _ k => XS.ixor X.here hx rfl hd rfl k) g
theorem own_idiv (X : Stand p l e R s m args below meth c T locs cells slots) (hx : p.tables.exec = Jvm.exec) {x y : Int32} (hd : decode c.code pc = .ok (.idiv, 1)) (hy : y ≠ 0)
    (g : Goes p e below FE n0 Q (T.setTop (mkF m (pc + 1) Ls (.int (x / y) :: st)))) : Goes p e below FE n0 Q (T.setTop (mkF m pc Ls (.int y :: .int x :: st))) :=
  Goes.via (fun _ k => XS.idiv X.here hx rfl hd rfl hy k) g
theorem own_ineg (X : Stand p l e R s m args below meth c T locs cells slots) (hx : p.tables.exec = Jvm.exec) {x : Int32} (hd : decode c.code pc = .ok (.ineg, 1))
    (g : Goes p e below FE n0 Q (T.setTop (mkF m (pc + 1) Ls (.int (-x) :: st)))) : Goes p e below FE n0 Q (T.setTop (mkF m pc Ls (.int x :: st))) :=
  Goes.via (fun _ k => XS.ineg X.here hx rfl hd rfl k) g
theorem own_ladd (X : Stand p l e R s m args below meth c T locs cells slots) (hx : p.tables.exec = Jvm.exec) {x y : Int64} (hd : decode c.code pc = .ok (.ladd, 1))
    (g : Goes p e below FE n0 Q (T.setTop (mkF m (pc + 1) Ls (.long (x + y) :: st)))) : Goes p e below FE n0 Q (T.setTop (mkF m pc Ls (.long y :: .long x :: st))) :=
  Goes.via (fun _ k => XS.ladd X.here hx rfl hd rfl k) g
theorem own_lsub (X : Stand p l e R s m args below meth c T locs cells slots) (hx : p.tables.exec = Jvm.exec) {x y : Int64} (hd : decode c.code pc = .ok (.lsub, 1))
    (g : Goes p e below FE n0 Q (T.setTop (mkF m (pc + 1) Ls (.long (x - y) :: st)))) : Goes p e below FE n0 Q (T.setTop (mkF m pc Ls (.long y :: .long x :: st))) :=
  Goes.via (fun _ k => XS.lsub X.here hx rfl hd rfl k) g
theorem own_lmul (X : Stand p l e R s m args below meth c T locs cells slots) (hx : p.tables.exec = Jvm.exec) {x y : Int64} (hd : decode c.code pc = .ok (.lmul, 1))
    (g : Goes p e below FE n0 Q (T.setTop (mkF m (pc + 1) Ls (.long (x * y) :: st)))) : Goes p e below FE n0 Q (T.setTop (mkF m pc Ls (.long y :: .long x :: st))) :=
  Goes.via (fun _ k => XS.lmul X.here hx rfl hd rfl k) g
theorem own_land (X : Stand p l e R s m args below meth c T locs cells slots) (hx : p.tables.exec = Jvm.exec) {x y : Int64} (hd : decode c.code pc = .ok (.land, 1))
    (g : Goes p e below FE n0 Q (T.setTop (mkF m (pc + 1) Ls (.long (x &&& y) :: st)))) : Goes p e below FE n0 Q (T.setTop (mkF m pc Ls (.long y :: .long x :: st))) :=
  Goes.via (fun _ k => XS.land X.here hx rfl hd rfl k) g
theorem own_lor (X : Stand p l e R s m args below meth c T locs cells slots) (hx : p.tables.exec = Jvm.exec) {x y : Int64} (hd : decode c.code pc = .ok (.lor, 1))
    (g : Goes p e below FE n0 Q (T.setTop (mkF m (pc + 1) Ls (.long (x ||| y) :: st)))) : Goes p e below FE n0 Q (T.setTop (mkF m pc Ls (.long y :: .long x :: st))) :=
  Goes.via (fun _ k => XS.lor X.here hx rfl hd rfl k) g
theorem own_lxor (X : Stand p l e R s m args below meth c T locs cells slots) (hx : p.tables.exec = Jvm.exec) {x y : Int64} (hd : decode c.code pc = .ok (.lxor, 1))
    (g : Goes p e below FE n0 Q (T.setTop (mkF m (pc + 1) Ls (.long (x ^^^ y) :: st)))) : Goes p e below FE n0 Q (T.setTop (mkF m pc Ls (.long y :: .long x :: st))) :=
  Goes.via (fun _ k => XS.lxor X.here hx rfl hd rfl k) g
theorem own_ldiv (X : Stand p l e R s m args below meth c T locs cells slots) (hx : p.tables.exec = Jvm.exec) {x y : Int64} (hd : decode c.code pc = .ok (.ldiv, 1)) (hy : y ≠ 0)
    (g : Goes p e below FE n0 Q (T.setTop (mkF m (pc + 1) Ls (.long (x / y) :: st)))) : Goes p e below FE n0 Q (T.setTop (mkF m pc Ls (.long y :: .long x :: st))) :=
  Goes.via (fun _ k => XS.ldiv X.here hx rfl hd rfl hy k) g
theorem own_lneg (X : Stand p l e R s m args below meth c T locs cells slots) (hx : p.tables.exec = Jvm.exec) {x : Int64} (hd : decode c.code pc = .ok (.lneg, 1))
    (g : Goes p e below FE n0 Q (T.setTop (mkF m (pc + 1) Ls (.long (-x) :: st)))) : Goes p e below FE n0 Q (T.setTop (mkF m pc Ls (.long x :: st))) :=
  Goes.via (fun _ k => XS.lneg X.here hx rfl hd rfl k) g
theorem own_irem (X : Stand p l e R s m args below meth c T locs cells slots) (hx : p.tables.exec = Jvm.exec) {x y : Int32} (hd : decode c.code pc = .ok (.irem, 1)) (hy : y ≠ 0)
    (g : Goes p e below FE n0 Q (T.setTop (mkF m (pc + 1) Ls (.int (x % y) :: st)))) : Goes p e below FE n0 Q (T.setTop (mkF m pc Ls (.int y :: .int x :: st))) :=
  Goes.via (fun _ k => iremM (g := mkF m pc Ls (.int y :: .int x :: st)) X hx rfl hd rfl hy k) g
theorem own_lrem (X : Stand p l e R s m args below meth c T locs cells slots) (hx : p.tables.exec = Jvm.exec) {x y : Int64} (hd : decode c.code pc = .ok (.lrem, 1)) (hy : y ≠ 0)
    (g : Goes p e below FE n0 Q (T.setTop (mkF m (pc + 1) Ls (.long (x % y) :: st)))) : Goes p e below FE n0 Q (T.setTop (mkF m pc Ls (.long y :: .long x :: st))) := by
  rw [← lrem_mod] at g
  exact Goes.via (fun _ k => XS.lrem X.here hx rfl hd rfl hy k) g
theorem own_ishl (X : Stand p l e R s m args below meth c T locs cells slots) (hx : p.tables.exec = Jvm.exec) {x y : Int32} (hd : decode c.code pc = .ok (.ishl, 1))
    (g : Goes p e below FE n0 Q (T.setTop (mkF m (pc + 1) Ls (.int (x <<< (y &&& 31)) :: st)))) : Goes p e below FE n0 Q (T.setTop (mkF m pc Ls (.int y :: .int x :: st))) :=
  Goes.via (fun _ k => XS.ishl X.here hx rfl hd rfl k) g
theorem own_ishr (X : Stand p l e R s m args below meth c T locs cells slots) (hx : p.tables.exec = Jvm.exec) {x y : Int32} (hd : decode c.code pc = .ok (.ishr, 1))
    (g : Goes p e below FE n0 Q (T.setTop (mkF m (pc + 1) Ls (.int (x >>> (y &&& 31)) :: st)))) : Goes p e below FE n0 Q (T.setTop (mkF m pc Ls (.int y :: .int x :: st))) :=
  Goes.via (fun _ k => XS.ishr X.here hx rfl hd rfl k) g
theorem own_iushr (X : Stand p l e R s m args below meth c T locs cells slots) (hx : p.tables.exec = Jvm.exec) {x y : Int32} (hd : decode c.code pc = .ok (.iushr, 1))
    (g : Goes p e below FE n0 Q (T.setTop (mkF m (pc + 1) Ls (.int ((x.toUInt32 >>> (y &&& 31).toUInt32).toInt32) :: st)))) : Goes p e below FE n0 Q (T.setTop (mkF m pc Ls (.int y :: .int x :: st))) :=
  Goes.via (fun _ k => XS.iushr X.here hx rfl hd rfl k) g
theorem own_lshl (X : Stand p l e R s m args below meth c T locs cells slots) (hx : p.tables.exec = Jvm.exec) {x : Int64} {y : Int32} (hd : decode c.code pc = .ok (.lshl, 1))
    (g : Goes p e below FE n0 Q (T.setTop (mkF m (pc + 1) Ls (.long (x <<< (y &&& 0x3f).toInt64) :: st)))) : Goes p e below FE n0 Q (T.setTop (mkF m pc Ls (.int y :: .long x :: st))) :=
  Goes.via (fun _ k => by jvm_step X.here [X.here.top, hx, hd]; first | exact k | simpa [mkF] using k) g
theorem own_lshr (X : Stand p l e R s m args below meth c T locs cells slots) (hx : p.tables.exec = Jvm.exec) {x : Int64} {y : Int32} (hd : decode c.code pc = .ok (.lshr, 1))
    (g : Goes p e below FE n0 Q (T.setTop (mkF m (pc + 1) Ls (.long (x >>> (y &&& 0x3f).toInt64) :: st)))) : Goes p e below FE n0 Q (T.setTop (mkF m pc Ls (.int y :: .long x :: st))) :=
  Goes.via (fun _ k => by jvm_step X.here [X.here.top, hx, hd]; first | exact k | simpa [mkF] using k) g
theorem own_lushr (X : Stand p l e R s m args below meth c T locs cells slots) (hx : p.tables.exec = Jvm.exec) {x : Int64} {y : Int32} (hd : decode c.code pc = .ok (.lushr, 1))
    (g : Goes p e below FE n0 Q (T.setTop (mkF m (pc + 1) Ls (.long ((x.toUInt64 >>> (y &&& 0x3f).toInt64.toUInt64).toInt64) :: st)))) : Goes p e below FE n0 Q (T.setTop (mkF m pc Ls (.int y :: .long x :: st))) :=
  Goes.via (fun _ k => by jvm_step X.here [X.here.top, hx, hd]; first | exact k | simpa [mkF] using k) g
theorem own_i2l (X : Stand p l e R s m args below meth c T locs cells slots) (hx : p.tables.exec = Jvm.exec) {x : Int32} (hd : decode c.code pc = .ok (.i2l, 1))
    (g : Goes p e below FE n0 Q (T.setTop (mkF m (pc + 1) Ls (.long (x.toInt64) :: st)))) : Goes p e below FE n0 Q (T.setTop (mkF m pc Ls (.int x :: st))) :=
  Goes.via (fun _ k => XS.i2l X.here hx rfl hd rfl k) g
theorem own_l2i (X : Stand p l e R s m args below meth c T locs cells slots) (hx : p.tables.exec = Jvm.exec) {x : Int64} (hd : decode c.code pc = .ok (.l2i, 1))
    (g : Goes p e below FE n0 Q (T.setTop (mkF m (pc + 1) Ls (.int (x.toInt32) :: st)))) : Goes p e below FE n0 Q (T.setTop (mkF m pc Ls (.long x :: st))) :=
  Goes.via (fun _ k => XS.l2i X.here hx rfl hd rfl k) g
theorem own_i2b (X : Stand p l e R s m args below meth c T locs cells slots) (hx : p.tables.exec = Jvm.exec) {x : Int32} (hd : decode c.code pc = .ok (.i2b, 1))
    (g : Goes p e below FE n0 Q (T.setTop (mkF m (pc + 1) Ls (.int (x.toInt8.toInt32) :: st)))) : Goes p e below FE n0 Q (T.setTop (mkF m pc Ls (.int x :: st))) :=
  Goes.via (fun _ k => XS.i2b X.here hx rfl hd rfl k) g
theorem own_i2s (X : Stand p l e R s m args below meth c T locs cells slots) (hx : p.tables.exec = Jvm.exec) {x : Int32} (hd : decode c.code pc = .ok (.i2s, 1))
    (g : Goes p e below FE n0 Q (T.setTop (mkF m (pc + 1) Ls (.int (x.toInt16.toInt32) :: st)))) : Goes p e below FE n0 Q (T.setTop (mkF m pc Ls (.int x :: st))) :=
  Goes.via (fun _ k => XS.i2s X.here hx rfl hd rfl k) g
theorem own_i2c (X : Stand p l e R s m args below meth c T locs cells slots) (hx : p.tables.exec = Jvm.exec) {x : Int32} (hd : decode c.code pc = .ok (.i2c, 1))
    (g : Goes p e below FE n0 Q (T.setTop (mkF m (pc + 1) Ls (.int (x.toUInt32.toUInt16.toUInt32.toInt32) :: st)))) : Goes p e below FE n0 Q (T.setTop (mkF m pc Ls (.int x :: st))) :=
  Goes.via (fun _ k => XS.i2c X.here hx rfl hd rfl k) g
theorem own_lcmp (X : Stand p l e R s m args below meth c T locs cells slots) (hx : p.tables.exec = Jvm.exec) {x y : Int64} (hd : decode c.code pc = .ok (.lcmp, 1))
    (g : Goes p e below FE n0 Q (T.setTop (mkF m (pc + 1) Ls (.int (lcmpW x y) :: st)))) : Goes p e below FE n0 Q (T.setTop (mkF m pc Ls (.long y :: .long x :: st))) :=
  Goes.via (fun _ k => XS.lcmp X.here hx rfl hd rfl k) g
theorem own_dup (X : Stand p l e R s m args below meth c T locs cells slots) (hx : p.tables.exec = Jvm.exec) {x : Value} (hd : decode c.code pc = .ok (.dup, 1)) (hc : x.category = 1)
    (g : Goes p e below FE n0 Q (T.setTop (mkF m (pc + 1) Ls (x :: x :: st)))) : Goes p e below FE n0 Q (T.setTop (mkF m pc Ls (x :: st))) :=
  Goes.via (fun _ k => XS.dup X.here hx rfl hd rfl hc k) g
theorem own_pop (X : Stand p l e R s m args below meth c T locs cells slots) (hx : p.tables.exec = Jvm.exec) {x : Value} (hd : decode c.code pc = .ok (.pop, 1)) (hc : x.category = 1)
    (g : Goes p e below FE n0 Q (T.setTop (mkF m (pc + 1) Ls st))) : Goes p e below FE n0 Q (T.setTop (mkF m pc Ls (x :: st))) :=
  Goes.via (fun _ k => XS.pop X.here hx rfl hd rfl hc k) g
theorem own_dup_x1 (X : Stand p l e R s m args below meth c T locs cells slots) (hx : p.tables.exec = Jvm.exec) {x y : Value} (hd : decode c.code pc = .ok (.dup_x1, 1)) (hc : x.category = 1) (hc' : y.category = 1)
    (g : Goes p e below FE n0 Q (T.setTop (mkF m (pc + 1) Ls (x :: y :: x :: st)))) : Goes p e below FE n0 Q (T.setTop (mkF m pc Ls (x :: y :: st))) :=
  Goes.via (fun _ k => XS.dupX1 X.here hx rfl hd rfl hc hc' k) g
theorem own_dup2 (X : Stand p l e R s m args below meth c T locs cells slots) (hx : p.tables.exec = Jvm.exec) {x y : Value} (hd : decode c.code pc = .ok (.dup2, 1)) (hc : x.category = 1) (hc' : y.category = 1)
    (g : Goes p e below FE n0 Q (T.setTop (mkF m (pc + 1) Ls (x :: y :: x :: y :: st)))) : Goes p e below FE n0 Q (T.setTop (mkF m pc Ls (x :: y :: st))) :=
  Goes.via (fun _ k => Jvm.Free.XT.dup2 X.here hx rfl hd rfl hc hc' k) g
theorem own_iinc (X : Stand p l e R s m args below meth c T locs cells slots) (hx : p.tables.exec = Jvm.exec) {k : Nat} {cst : Int} {x : Int32} (hd : decode c.code pc = .ok (.iinc k cst, 3)) (hl : Ls[k]? = some (.val (.int x))) (hl' : storeLocals Ls k (.int (x + Int32.ofInt cst)) = some Ls')
    (g : Goes p e below FE n0 Q (T.setTop (mkF m (pc + 3) Ls' st))) : Goes p e below FE n0 Q (T.setTop (mkF m pc Ls st)) :=
  Goes.via (fun _ k => XS.iinc X.here hx rfl hd hl hl' k) g
theorem own_goto (X : Stand p l e R s m args below meth c T locs cells slots) (hx : p.tables.exec = Jvm.exec) {o : Int} (hd : decode c.code pc = .ok (.goto o, 3)) (ho : 0 ≤ (pc : Int) + o) (hp : ((pc : Int) + o).toNat = pc')
    (g : Goes p e below FE n0 Q (T.setTop (mkF m pc' Ls st))) : Goes p e below FE n0 Q (T.setTop (mkF m pc Ls st)) :=
  Goes.via (fun _ k => XS.goto X.here hx rfl rfl hd ho hp k) g
theorem own_ifYes (X : Stand p l e R s m args below meth c T locs cells slots) (hx : p.tables.exec = Jvm.exec) {cd : ClassFile.Cond} {o : Int} {x : Int32} (hd : decode c.code pc = .ok (.ifCond cd o, 3)) (hc : ifCond.holds cd x = true) (ho : 0 ≤ (pc : Int) + o) (hp : ((pc : Int) + o).toNat = pc')
    (g : Goes p e below FE n0 Q (T.setTop (mkF m pc' Ls st))) : Goes p e below FE n0 Q (T.setTop (mkF m pc Ls (.int x :: st))) :=
  Goes.via (fun _ k => XS.ifYes X.here hx rfl rfl hd rfl hc ho hp k) g
theorem own_ifNo (X : Stand p l e R s m args below meth c T locs cells slots) (hx : p.tables.exec = Jvm.exec) {cd : ClassFile.Cond} {o : Int} {x : Int32} (hd : decode c.code pc = .ok (.ifCond cd o, 3)) (hc : ifCond.holds cd x = false)
    (g : Goes p e below FE n0 Q (T.setTop (mkF m (pc + 3) Ls st))) : Goes p e below FE n0 Q (T.setTop (mkF m pc Ls (.int x :: st))) :=
  Goes.via (fun _ k => XS.ifNo X.here hx rfl hd rfl hc k) g
theorem own_icmpYes (X : Stand p l e R s m args below meth c T locs cells slots) (hx : p.tables.exec = Jvm.exec) {cd : ClassFile.Cond} {o : Int} {x y : Int32} (hd : decode c.code pc = .ok (.if_icmp cd o, 3)) (hc : if_icmp.holds cd x y = true) (ho : 0 ≤ (pc : Int) + o) (hp : ((pc : Int) + o).toNat = pc')
    (g : Goes p e below FE n0 Q (T.setTop (mkF m pc' Ls st))) : Goes p e below FE n0 Q (T.setTop (mkF m pc Ls (.int y :: .int x :: st))) :=
  Goes.via (fun _ k => XS.icmpYes X.here hx rfl rfl hd rfl hc ho hp k) g
theorem own_icmpNo (X : Stand p l e R s m args below meth c T locs cells slots) (hx : p.tables.exec = Jvm.exec) {cd : ClassFile.Cond} {o : Int} {x y : Int32} (hd : decode c.code pc = .ok (.if_icmp cd o, 3)) (hc : if_icmp.holds cd x y = false)
    (g : Goes p e below FE n0 Q (T.setTop (mkF m (pc + 3) Ls st))) : Goes p e below FE n0 Q (T.setTop (mkF m pc Ls (.int y :: .int x :: st))) :=
  Goes.via (fun _ k => XS.icmpNo X.here hx rfl hd rfl hc k) g
theorem own_ifnullYes (X : Stand p l e R s m args below meth c T locs cells slots) (hx : p.tables.exec = Jvm.exec) {o : Int} (hd : decode c.code pc = .ok (.ifnull o, 3)) (ho : 0 ≤ (pc : Int) + o) (hp : ((pc : Int) + o).toNat = pc')
    (g : Goes p e below FE n0 Q (T.setTop (mkF m pc' Ls st))) : Goes p e below FE n0 Q (T.setTop (mkF m pc Ls (.null :: st))) :=
  Goes.via (fun _ k => XS.ifnullYes X.here hx rfl rfl hd rfl ho hp k) g
theorem own_ifnullNo (X : Stand p l e R s m args below meth c T locs cells slots) (hx : p.tables.exec = Jvm.exec) {o : Int} {b : Addr} (hd : decode c.code pc = .ok (.ifnull o, 3))
    (g : Goes p e below FE n0 Q (T.setTop (mkF m (pc + 3) Ls st))) : Goes p e below FE n0 Q (T.setTop (mkF m pc Ls (.ref b :: st))) :=
  Goes.via (fun _ k => XS.ifnullNo X.here hx rfl hd rfl k) g
theorem own_ifnonnullYes (X : Stand p l e R s m args below meth c T locs cells slots) (hx : p.tables.exec = Jvm.exec) {o : Int} {b : Addr} (hd : decode c.code pc = .ok (.ifnonnull o, 3)) (ho : 0 ≤ (pc : Int) + o) (hp : ((pc : Int) + o).toNat = pc')
    (g : Goes p e below FE n0 Q (T.setTop (mkF m pc' Ls st))) : Goes p e below FE n0 Q (T.setTop (mkF m pc Ls (.ref b :: st))) :=
  Goes.via (fun _ k => XS.ifnonnullYes X.here hx rfl rfl hd rfl ho hp k) g
theorem own_ifnonnullNo (X : Stand p l e R s m args below meth c T locs cells slots) (hx : p.tables.exec = Jvm.exec) {o : Int} (hd : decode c.code pc = .ok (.ifnonnull o, 3))
    (g : Goes p e below FE n0 Q (T.setTop (mkF m (pc + 3) Ls st))) : Goes p e below FE n0 Q (T.setTop (mkF m pc Ls (.null :: st))) :=
  Goes.via (fun _ k => XS.ifnonnullNo X.here hx rfl hd rfl k) g
theorem own_acmp (X : Stand p l e R s m args below meth c T locs cells slots) (hx : p.tables.exec = Jvm.exec) {cd : ACond} {x y : Value} {o : Int} {same : Bool} (h1 : x.isRef = true) (h2 : y.isRef = true) (hd : decode c.code pc = .ok (.if_acmp cd o, 3)) (hq : decide (x = y) = same) (ho : 0 ≤ (pc : Int) + o) (hp : pc' = if acV cd same = true then ((pc : Int) + o).toNat else pc + 3)
    (g : Goes p e below FE n0 Q (T.setTop (mkF m pc' Ls st))) : Goes p e below FE n0 Q (T.setTop (mkF m pc Ls (y :: x :: st))) :=
  Goes.via (fun _ k => Jvm.RoadKit.acmp (g := mkF m pc Ls (y :: x :: st)) X hx rfl h1 h2 rfl hd rfl hq ho hp k) g
theorem own_tswIn (X : Stand p l e R s m args below meth c T locs cells slots) (hx : p.tables.exec = Jvm.exec) {dflt low high : Int} {offs : Array Int} {len : Nat} {o : Int} {i : Int32} (hd : decode c.code pc = .ok (.tableswitch dflt low high offs, len)) (hin : ¬ (i.toInt < low ∨ i.toInt > high)) (hoff : offs[(i.toInt - low).toNat]? = some o) (ho : 0 ≤ (pc : Int) + o) (hp : ((pc : Int) + o).toNat = pc')
    (g : Goes p e below FE n0 Q (T.setTop (mkF m pc' Ls st))) : Goes p e below FE n0 Q (T.setTop (mkF m pc Ls (.int i :: st))) :=
  Goes.via (fun _ k => XS.tswIn X.here hx rfl rfl hd rfl hin hoff ho hp k) g
theorem own_tswOut (X : Stand p l e R s m args below meth c T locs cells slots) (hx : p.tables.exec = Jvm.exec) {dflt low high : Int} {offs : Array Int} {len : Nat} {i : Int32} (hd : decode c.code pc = .ok (.tableswitch dflt low high offs, len)) (hout : i.toInt < low ∨ i.toInt > high) (ho : 0 ≤ (pc : Int) + dflt) (hp : ((pc : Int) + dflt).toNat = pc')
    (g : Goes p e below FE n0 Q (T.setTop (mkF m pc' Ls st))) : Goes p e below FE n0 Q (T.setTop (mkF m pc Ls (.int i :: st))) :=
  Goes.via (fun _ k => XS.tswOut X.here hx rfl rfl hd rfl hout ho hp k) g
theorem own_ldcInt (X : Stand p l e R s m args below meth c T locs cells slots) (hx : p.tables.exec = Jvm.exec) (hZ : Z.Warmed39 s.vm) {own : String} {index : Nat} (hown : s.vm.findClass own = some m.cls) {v : Int32} (w : (Jvm.Cond.constant own index v).before a0 Z = true) (hd : decode c.code pc = .ok (.ldc index, 2))
    (g : Goes p e below FE n0 Q (T.setTop (mkF m (pc + 2) Ls (.int v :: st)))) : Goes p e below FE n0 Q (T.setTop (mkF m pc Ls st)) :=
  Goes.via (X.ldcInt hx hown (mvT hZ w) (g := mkF m pc Ls st) rfl hd) g
theorem own_ldcwInt (X : Stand p l e R s m args below meth c T locs cells slots) (hx : p.tables.exec = Jvm.exec) (hZ : Z.Warmed39 s.vm) {own : String} {index : Nat} (hown : s.vm.findClass own = some m.cls) {v : Int32} (w : (Jvm.Cond.constant own index v).before a0 Z = true) (hd : decode c.code pc = .ok (.ldc_w index, 3))
    (g : Goes p e below FE n0 Q (T.setTop (mkF m (pc + 3) Ls (.int v :: st)))) : Goes p e below FE n0 Q (T.setTop (mkF m pc Ls st)) :=
  Goes.via (X.ldcwInt hx hown (mvT hZ w) (g := mkF m pc Ls st) rfl hd) g
theorem own_ldc2Long (X : Stand p l e R s m args below meth c T locs cells slots) (hx : p.tables.exec = Jvm.exec) (hZ : Z.Warmed39 s.vm) {own : String} {index : Nat} (hown : s.vm.findClass own = some m.cls) {v : Int64} (w : (Jvm.Cond.constantLong own index v).before a0 Z = true) (hd : decode c.code pc = .ok (.ldc2_w index, 3))
    (g : Goes p e below FE n0 Q (T.setTop (mkF m (pc + 3) Ls (.long v :: st)))) : Goes p e below FE n0 Q (T.setTop (mkF m pc Ls st)) :=
  Goes.via (X.ldc2Long hx hown (mvT hZ w) (g := mkF m pc Ls st) rfl hd) g
theorem own_getF (X : Stand p l e R s m args below meth c T locs cells slots) (hx : p.tables.exec = Jvm.exec) (hZ : Z.Warmed39 s.vm) {own : String} {index : Nat} (hown : s.vm.findClass own = some m.cls) {R0 O n d host : String} (w : ((Jvm.Cond.fieldLink own index R0 n d).before a0 Z = true ∨ (Jvm.Cond.fieldLinkNest own index R0 n d host).before a0 Z = true)) (via : Via Z R0 O n d) (eT : T.heap = h) {a : Addr} {v : Value} (F : Fld Z h a O n d v) (hd : decode c.code pc = .ok (.getfield index, 3))
    (k : ∀ T', Stand p l e R s m args below meth c T' locs cells slots → T'.heap = h → Goes p e below FE n0 Q (T'.setTop (mkF m (pc + 3) Ls (v :: st)))) : Goes p e below FE n0 Q (T.setTop (mkF m pc Ls (.ref a :: st))) := by
  obtain ⟨T', X', e', st'⟩ := getF X hx hZ hown w via eT F (g := mkF m pc Ls (.ref a :: st)) rfl rfl hd
  exact Goes.via st' (k T' X' e')
theorem own_getS (X : Stand p l e R s m args below meth c T locs cells slots) (hx : p.tables.exec = Jvm.exec) (hZ : Z.Warmed39 s.vm) {own : String} {index : Nat} (hown : s.vm.findClass own = some m.cls) {R0 O n d host : String} (w : ((Jvm.Cond.fieldLink own index R0 n d).before a0 Z = true ∨ (Jvm.Cond.fieldLinkNest own index R0 n d host).before a0 Z = true)) (via : Via Z R0 O n d) (eT : T.heap = h) {v : Value} (F : Sta Z h O n d v) (hd : decode c.code pc = .ok (.getstatic index, 3))
    (k : ∀ T', Stand p l e R s m args below meth c T' locs cells slots → T'.heap = h → Goes p e below FE n0 Q (T'.setTop (mkF m (pc + 3) Ls (v :: st)))) : Goes p e below FE n0 Q (T.setTop (mkF m pc Ls st)) := by
  obtain ⟨T', X', e', st'⟩ := getS2 X hx hZ hown w via eT F (g := mkF m pc Ls st) rfl hd
  exact Goes.via st' (k T' X' e')
theorem own_initO (X : Stand p l e R s m args below meth c T locs cells slots) (hx : p.tables.exec = Jvm.exec) (hZ : Z.Warmed39 s.vm) {own : String} {index : Nat} (hown : s.vm.findClass own = some m.cls) (w1 : (Jvm.Cond.methodLink own index Lib.objectInit).before a0 Z = true) (w2 : (Jvm.Cond.instanceMethod Lib.objectInit).before a0 Z = true) (w3 : (Jvm.Cond.code Lib.objectInit ⟨#[0xb1]⟩ 1 none).before a0 Z = true) (eT : T.heap = h) (hsize : Ls.size = c.maxLocals) {a : Addr} (hd : decode c.code pc = .ok (.invokespecial index, 3)) (hf : 1 ≤ R.frames) {W : Nat} (hW : (st.map fun v => v.category).sum ≤ W) (hl : W + 12 ≤ R.locals)
    (k : ∀ T', Stand p l e R s m args below meth c T' locs cells slots → T'.heap = h → Goes p e below FE n0 Q (T'.setTop (mkF m (pc + 3) Ls st))) : Goes p e below FE n0 Q (T.setTop (mkF m pc Ls (.ref a :: st))) := by
  obtain ⟨T', X', e', st'⟩ := initO X hx hZ hown w1 w2 w3 eT (g := mkF m pc Ls (.ref a :: st)) rfl hsize rfl hd hf (W := W) (by show 2 * 0 + _ ≤ _; omega) hl
  exact Goes.via st' (k T' X' e')
theorem own_new (X : Stand p l e R s m args below meth c T locs cells slots) (hx : p.tables.exec = Jvm.exec) (hZ : Z.Warmed39 s.vm) {own : String} {index : Nat} (hown : s.vm.findClass own = some m.cls) {C : String} {nn : Nat} (w : (Jvm.Cond.classLink own index C).before a0 Z = true) (wi : (Jvm.Cond.instantiable C nn).before a0 Z = true) (wz : (Jvm.Cond.initialized C).before a0 Z = true) (eT : T.heap = h) (hd : decode c.code pc = .ok (.new index, 3)) (hc : cells + 1 ≤ R.cells) (hl : slots + nn ≤ R.slots)
    (k : ∀ T' h' b, b = h.size → Stand p l e R s m args below meth c T' locs (cells + 1) (slots + nn) → T'.heap = h' → Ext h h' → Exa Z h' b C → (∀ {O nm d : String} {ty : FieldType}, Laid Z a0 C O nm d → parseFieldDescriptor d = some ty → Fld Z h' b O nm d (defaultValue ty)) → Goes p e below FE n0 Q (T'.setTop (mkF m (pc + 3) Ls (.ref b :: st)))) : Goes p e below FE n0 Q (T.setTop (mkF m pc Ls st)) := by
  obtain ⟨T', h', X', e', E', A', D', -, st'⟩ := newO X hx hZ hown w wi wz eT (g := mkF m pc Ls st) rfl hd hc hl
  exact Goes.via st' (k T' h' _ rfl X' e' E' A' D')
theorem own_putF (X : Stand p l e R s m args below meth c T locs cells slots) (hx : p.tables.exec = Jvm.exec) (hZ : Z.Warmed39 s.vm) {own : String} {index : Nat} (hown : s.vm.findClass own = some m.cls) {R0 O n d host C : String} {kk : Nat} {ty : FieldType} (N : Fr n0 locs) (w : ((Jvm.Cond.fieldLink own index R0 n d).before a0 Z = true ∨ (Jvm.Cond.fieldLinkNest own index R0 n d host).before a0 Z = true)) (via : Via Z R0 O n d) (eT : T.heap = h) {a : Addr} {v old : Value} (F : Fld Z h a O n d old) (E : Exa Z h a C) (L : (Jvm.Cond.lays C O n d).before a0 Z = true ∨ ((Jvm.Cond.laysFinal C O n d).before a0 Z = true ∧ own = O ∧ meth.name = "<init>")) (wi : (Jvm.Cond.instantiable C kk).before a0 Z = true) (hty : parseFieldDescriptor d = some ty) (hn : narrow ty v = v) (hf : fits ty v = true) (hge : n0 ≤ a) (hd : decode c.code pc = .ok (.putfield index, 3))
    (k : ∀ T' h' locs', Stand p l e R s m args below meth c T' locs' cells slots → T'.heap = h' → Fr n0 locs' → Wr h h' a (RoadKit.slotOf Z O n d) v → Goes p e below FE n0 Q (T'.setTop (mkF m (pc + 3) Ls st))) : Goes p e below FE n0 Q (T.setTop (mkF m pc Ls (v :: .ref a :: st))) := by
  obtain ⟨T', h', X', e', W', st'⟩ := putF X hx hZ hown w via eT F E L wi hty hn hf (g := mkF m pc Ls (v :: .ref a :: st)) rfl rfl hd
  exact Goes.via st' (k T' h' _ X' e' (Fr.snoc X' N hge) W')
theorem own_castY (X : Stand p l e R s m args below meth c T locs cells slots) (hx : p.tables.exec = Jvm.exec) (hZ : Z.Warmed39 s.vm) {own : String} {index : Nat} (hown : s.vm.findClass own = some m.cls) {K : String} (w : (Jvm.Cond.classLink own index K).before a0 Z = true) (eT : T.heap = h) {a : Addr} (F : Ins Z h a K true) (hd : decode c.code pc = .ok (.checkcast index, 3))
    (k : ∀ T', Stand p l e R s m args below meth c T' locs cells slots → T'.heap = h → Goes p e below FE n0 Q (T'.setTop (mkF m (pc + 3) Ls (.ref a :: st)))) : Goes p e below FE n0 Q (T.setTop (mkF m pc Ls (.ref a :: st))) := by
  obtain ⟨T', X', e', st'⟩ := castY X hx hZ hown w eT F (g := mkF m pc Ls (.ref a :: st)) rfl rfl hd
  exact Goes.via st' (k T' X' e')
theorem own_castNull (X : Stand p l e R s m args below meth c T locs cells slots) (hx : p.tables.exec = Jvm.exec) {index : Nat} (hd : decode c.code pc = .ok (.checkcast index, 3))
    (g : Goes p e below FE n0 Q (T.setTop (mkF m (pc + 3) Ls (.null :: st)))) : Goes p e below FE n0 Q (T.setTop (mkF m pc Ls (.null :: st))) :=
  Goes.via (X.checkcastNull hx (g := mkF m pc Ls (.null :: st)) rfl rfl hd) g
theorem own_instNull (X : Stand p l e R s m args below meth c T locs cells slots) (hx : p.tables.exec = Jvm.exec) {index : Nat} (hd : decode c.code pc = .ok (.instanceof index, 3))
    (g : Goes p e below FE n0 Q (T.setTop (mkF m (pc + 3) Ls (.int 0 :: st)))) : Goes p e below FE n0 Q (T.setTop (mkF m pc Ls (.null :: st))) :=
  Goes.via (X.instanceofNull hx (g := mkF m pc Ls (.null :: st)) rfl rfl hd) g
theorem own_instY (X : Stand p l e R s m args below meth c T locs cells slots) (hx : p.tables.exec = Jvm.exec) (hZ : Z.Warmed39 s.vm) {own : String} {index : Nat} (hown : s.vm.findClass own = some m.cls) {K : String} (w : (Jvm.Cond.classLink own index K).before a0 Z = true) (eT : T.heap = h) {a : Addr} (F : Ins Z h a K true) (hd : decode c.code pc = .ok (.instanceof index, 3))
    (k : ∀ T', Stand p l e R s m args below meth c T' locs cells slots → T'.heap = h → Goes p e below FE n0 Q (T'.setTop (mkF m (pc + 3) Ls (.int 1 :: st)))) : Goes p e below FE n0 Q (T.setTop (mkF m pc Ls (.ref a :: st))) := by
  obtain ⟨T', X', e', st'⟩ := instY X hx hZ hown w eT F (g := mkF m pc Ls (.ref a :: st)) rfl rfl hd
  exact Goes.via st' (k T' X' e')
theorem own_instN (X : Stand p l e R s m args below meth c T locs cells slots) (hx : p.tables.exec = Jvm.exec) (hZ : Z.Warmed39 s.vm) {own : String} {index : Nat} (hown : s.vm.findClass own = some m.cls) {K C : String} (w : (Jvm.Cond.classLink own index K).before a0 Z = true) (eT : T.heap = h) {a : Addr} (E : Exa Z h a C) (F : ∃ c t, Z.vm.findClass C = some c ∧ Z.vm.findClass K = some t ∧ Z.vm.assignable c t = false) (hd : decode c.code pc = .ok (.instanceof index, 3))
    (k : ∀ T', Stand p l e R s m args below meth c T' locs cells slots → T'.heap = h → Goes p e below FE n0 Q (T'.setTop (mkF m (pc + 3) Ls (.int 0 :: st)))) : Goes p e below FE n0 Q (T.setTop (mkF m pc Ls (.ref a :: st))) := by
  obtain ⟨T', X', e', st'⟩ := instNo X hx hZ hown w eT E F (g := mkF m pc Ls (.ref a :: st)) rfl rfl hd
  exact Goes.via st' (k T' X' e')
theorem own_lsw (X : Stand p l e R s m args below meth c T locs cells slots) (hx : p.tables.exec = Jvm.exec) {dflt : Int} {prs : Array (Int × Int)} {len : Nat} {o kk : Int} {i : Int32} (hd : decode c.code pc = .ok (.lookupswitch dflt prs, len)) (hso : (prs.toList.zip (prs.toList.drop 1)).all (fun (a, next) => a.1 < next.1) = true) (hf : prs.find? (·.1 == i.toInt) = some (kk, o)) (ho : 0 ≤ (pc : Int) + o) (hp : ((pc : Int) + o).toNat = pc')
    (g : Goes p e below FE n0 Q (T.setTop (mkF m pc' Ls st))) : Goes p e below FE n0 Q (T.setTop (mkF m pc Ls (.int i :: st))) := by
  subst hp
  exact Goes.via (X.lookupswitchHit hx (g := mkF m pc Ls (.int i :: st)) rfl rfl hd hso hf ho) g
theorem own_clone (X : Stand p l e R s m args below meth c T locs cells slots) (hx : p.tables.exec = Jvm.exec) (hZ : Z.Warmed39 s.vm) {own : String} {index : Nat} (hown : s.vm.findClass own = some m.cls) {ad : String} (w1 : (Jvm.Cond.methodLink own index ⟨ad, "clone", "()Ljava/lang/Object;"⟩).before a0 Z = true) (w2 : (Jvm.Cond.sameMethod ad "java/lang/Object" "clone" "()Ljava/lang/Object;").before a0 Z = true) (w3 : (Jvm.Cond.native ⟨"java/lang/Object", "clone", "()Ljava/lang/Object;"⟩).before a0 Z = true) (w4 : (Jvm.Cond.instanceMethod ⟨"java/lang/Object", "clone", "()Ljava/lang/Object;"⟩).before a0 Z = true) (w5 : (Jvm.Cond.selects ad ⟨ad, "clone", "()Ljava/lang/Object;"⟩ ⟨"java/lang/Object", "clone", "()Ljava/lang/Object;"⟩).before a0 Z = true) (w6 : (Jvm.Cond.castable ad "java/lang/Cloneable").before a0 Z = true) (eT : T.heap = h) {a : Addr} {k : ClassId} {ty : FieldType} {z : Int32} {vs : List Value} {dv : Value} (F : Arv Z h a k ty z vs dv) (E : Exa Z h a ad) (hsize : Ls.size = c.maxLocals) (hd : decode c.code pc = .ok (.invokevirtual index, 3)) (hf : 1 ≤ R.frames) {W cap : Nat} (hW : (st.map fun v => v.category).sum ≤ W) (hl : W + 14 ≤ R.locals) (hcap : z.toNatClampNeg ≤ cap) (hc : cells + 1 ≤ R.cells) (hsl : slots + cap ≤ R.slots)
    (k : ∀ T' h' b, b = h.size → Stand p l e R s m args below meth c T' locs (cells + 1) (slots + cap) → T'.heap = h' → Ext h h' → Arv Z h' b k ty z vs dv → Exa Z h' b ad → Goes p e below FE n0 Q (T'.setTop (mkF m (pc + 3) Ls (.ref b :: st)))) : Goes p e below FE n0 Q (T.setTop (mkF m pc Ls (.ref a :: st))) := by
  obtain ⟨T', h', X', e', E', A', Ex', st'⟩ := cloneH X hx hZ hown w1 w2 w3 w4 w5 w6 eT F.arh E (g := mkF m pc Ls (.ref a :: st)) rfl hsize rfl hd hf (W := W) (cap := cap) (by show 2 * 0 + _ ≤ _; omega) hl hcap hc hsl
  exact Goes.via st' (k T' h' _ rfl X' e' E' A' Ex')
theorem own_iaload (X : Stand p l e R s m args below meth c T locs cells slots) (hx : p.tables.exec = Jvm.exec) (hZ : Z.Warmed39 s.vm) (eT : T.heap = h) {a : Addr} {k : ClassId} {z j : Int32} {vs : List Value} {dv v : Value} (F : Arv Z h a k .int z vs dv) (hj : ¬ j < 0 ∧ j < z) (hv : vs.getD j.toNatClampNeg dv = v) (hd : decode c.code pc = .ok (.iaload, 1))
    (g : Goes p e below FE n0 Q (T.setTop (mkF m (pc + 1) Ls (v :: st)))) : Goes p e below FE n0 Q (T.setTop (mkF m pc Ls (.int j :: .ref a :: st))) := by
  obtain ⟨cl, A, -, S, -, H, -⟩ := F
  exact Goes.via (fun t k => X.iaload hx (j := j) (v := v) (by rw [eT]; exact A.1) (State.isArrayOf_alike hZ.alike A.2.1) A.2.2 (inb_of S hj) (H.at (inb_of S hj) hv) (g := mkF m pc Ls (.int j :: .ref a :: st)) rfl rfl hd t k) g
theorem own_laload (X : Stand p l e R s m args below meth c T locs cells slots) (hx : p.tables.exec = Jvm.exec) (hZ : Z.Warmed39 s.vm) (eT : T.heap = h) {a : Addr} {k : ClassId} {z j : Int32} {vs : List Value} {dv v : Value} (F : Arv Z h a k .long z vs dv) (hj : ¬ j < 0 ∧ j < z) (hv : vs.getD j.toNatClampNeg dv = v) (hd : decode c.code pc = .ok (.laload, 1))
    (g : Goes p e below FE n0 Q (T.setTop (mkF m (pc + 1) Ls (v :: st)))) : Goes p e below FE n0 Q (T.setTop (mkF m pc Ls (.int j :: .ref a :: st))) := by
  obtain ⟨cl, A, -, S, -, H, -⟩ := F
  exact Goes.via (fun t k => X.laload hx (j := j) (v := v) (by rw [eT]; exact A.1) (State.isArrayOf_alike hZ.alike A.2.1) A.2.2 (inb_of S hj) (H.at (inb_of S hj) hv) (g := mkF m pc Ls (.int j :: .ref a :: st)) rfl rfl hd t k) g
theorem own_caload (X : Stand p l e R s m args below meth c T locs cells slots) (hx : p.tables.exec = Jvm.exec) (hZ : Z.Warmed39 s.vm) (eT : T.heap = h) {a : Addr} {k : ClassId} {z j : Int32} {vs : List Value} {dv v : Value} (F : Arv Z h a k .char z vs dv) (hj : ¬ j < 0 ∧ j < z) (hv : vs.getD j.toNatClampNeg dv = v) (hd : decode c.code pc = .ok (.caload, 1))
    (g : Goes p e below FE n0 Q (T.setTop (mkF m (pc + 1) Ls (v :: st)))) : Goes p e below FE n0 Q (T.setTop (mkF m pc Ls (.int j :: .ref a :: st))) := by
  obtain ⟨cl, A, -, S, -, H, -⟩ := F
  exact Goes.via (fun t k => X.caload hx (j := j) (v := v) (by rw [eT]; exact A.1) (State.isArrayOf_alike hZ.alike A.2.1) A.2.2 (inb_of S hj) (H.at (inb_of S hj) hv) (g := mkF m pc Ls (.int j :: .ref a :: st)) rfl rfl hd t k) g
theorem own_baload (X : Stand p l e R s m args below meth c T locs cells slots) (hx : p.tables.exec = Jvm.exec) (hZ : Z.Warmed39 s.vm) (eT : T.heap = h) {a : Addr} {k : ClassId} {z j : Int32} {vs : List Value} {dv v : Value} (F : Arv Z h a k .byte z vs dv) (hj : ¬ j < 0 ∧ j < z) (hv : vs.getD j.toNatClampNeg dv = v) (hd : decode c.code pc = .ok (.baload, 1))
    (g : Goes p e below FE n0 Q (T.setTop (mkF m (pc + 1) Ls (v :: st)))) : Goes p e below FE n0 Q (T.setTop (mkF m pc Ls (.int j :: .ref a :: st))) := by
  obtain ⟨cl, A, -, S, -, H, -⟩ := F
  exact Goes.via (fun t k => X.baloadBytes hx (j := j) (v := v) (by rw [eT]; exact A.1) (State.isArrayOf_alike hZ.alike A.2.1) A.2.2 (inb_of S hj) (H.at (inb_of S hj) hv) (g := mkF m pc Ls (.int j :: .ref a :: st)) rfl rfl hd t k) g
theorem own_aaload (X : Stand p l e R s m args below meth c T locs cells slots) (hx : p.tables.exec = Jvm.exec) (hZ : Z.Warmed39 s.vm) (eT : T.heap = h) {a : Addr} {k : ClassId} {ty : FieldType} {z j : Int32} {vs : List Value} {dv v : Value} (F : Arv Z h a k ty z vs dv) (hty : ty.isReference = true) (hj : ¬ j < 0 ∧ j < z) (hv : vs.getD j.toNatClampNeg dv = v) (hd : decode c.code pc = .ok (.aaload, 1))
    (g : Goes p e below FE n0 Q (T.setTop (mkF m (pc + 1) Ls (v :: st)))) : Goes p e below FE n0 Q (T.setTop (mkF m pc Ls (.int j :: .ref a :: st))) := by
  obtain ⟨cl, A, -, S, -, H, -⟩ := F
  exact Goes.via (fun t k => X.aaload hx (j := j) (v := v) (by rw [eT]; exact A.1) (State.isArrayOf_alike hZ.alike A.2.1) hty A.2.2 (inb_of S hj) (H.at (inb_of S hj) hv) (g := mkF m pc Ls (.int j :: .ref a :: st)) rfl rfl hd t k) g
theorem own_aaloadC (X : Stand p l e R s m args below meth c T locs cells slots) (hx : p.tables.exec = Jvm.exec) (hZ : Z.Warmed39 s.vm) (eT : T.heap = h) {a : Addr} {cl : Cell} {ty : FieldType} {j : Int32} {v : Value} (A : Arr Z h a cl ty) (hty : ty.isReference = true) (hj : ¬ (j < 0 ∨ cl.slots.size ≤ j.toNatClampNeg)) (hv : cl.slots[j.toNatClampNeg]? = some v) (hd : decode c.code pc = .ok (.aaload, 1))
    (g : Goes p e below FE n0 Q (T.setTop (mkF m (pc + 1) Ls (v :: st)))) : Goes p e below FE n0 Q (T.setTop (mkF m pc Ls (.int j :: .ref a :: st))) :=
  Goes.via (fun t k => X.aaload hx (j := j) (v := v) (by rw [eT]; exact A.1) (State.isArrayOf_alike hZ.alike A.2.1) hty A.2.2 hj hv (g := mkF m pc Ls (.int j :: .ref a :: st)) rfl rfl hd t k) g
theorem own_alen (X : Stand p l e R s m args below meth c T locs cells slots) (hx : p.tables.exec = Jvm.exec) (hZ : Z.Warmed39 s.vm) (eT : T.heap = h) {a : Addr} {k : ClassId} {ty : FieldType} {z : Int32} {vs : List Value} {dv : Value} (F : Arv Z h a k ty z vs dv) (hd : decode c.code pc = .ok (.arraylength, 1))
    (g : Goes p e below FE n0 Q (T.setTop (mkF m (pc + 1) Ls (.int z :: st)))) : Goes p e below FE n0 Q (T.setTop (mkF m pc Ls (.ref a :: st))) := by
  obtain ⟨cl, A, -, S, hz, -, -⟩ := F
  rw [← len_of S hz] at g
  exact Goes.via (fun t k => X.arraylength hx (by rw [eT]; exact A.1) (State.isArrayOf_alike hZ.alike A.2.1) (g := mkF m pc Ls (.ref a :: st)) rfl rfl hd t k) g
theorem own_newP (X : Stand p l e R s m args below meth c T locs cells slots) (hx : p.tables.exec = Jvm.exec) (hZ : Z.Warmed39 s.vm) {aty : ArrayType} (w : (Jvm.Cond.arrayClass (newarray.typeOf aty)).before a0 Z = true) (eT : T.heap = h) {n : Int32} (hd : decode c.code pc = .ok (.newarray aty, 2)) (hn : ¬ n < 0) {cap : Nat} (hcap : n.toNatClampNeg ≤ cap) (hb : cap * 8 ≤ 536870912) (hc : cells + 1 ≤ R.cells) (hl : slots + cap ≤ R.slots)
    (k : ∀ T' h' b cA, b = h.size → Stand p l e R s m args below meth c T' locs (cells + 1) (slots + cap) → T'.heap = h' → Ext h h' → Arv Z h' b cA (newarray.typeOf aty) n [] (defaultValue (newarray.typeOf aty)) → Goes p e below FE n0 Q (T'.setTop (mkF m (pc + 2) Ls (.ref b :: st)))) : Goes p e below FE n0 Q (T.setTop (mkF m pc Ls (.int n :: st))) := by
  obtain ⟨T', h', cA, X', e', E', A', st'⟩ := newP X hx hZ w eT (g := mkF m pc Ls (.int n :: st)) rfl hd rfl hn hcap hb hc hl
  exact Goes.via st' (k T' h' _ cA rfl X' e' E' (Arv.new A' hn))
theorem own_newR (X : Stand p l e R s m args below meth c T locs cells slots) (hx : p.tables.exec = Jvm.exec) (hZ : Z.Warmed39 s.vm) {own : String} {index : Nat} (hown : s.vm.findClass own = some m.cls) {C : String} (w1 : (Jvm.Cond.classLink own index C).before a0 Z = true) (w2 : (Jvm.Cond.arrayOver (.object C)).before a0 Z = true) (eT : T.heap = h) {n : Int32} (hd : decode c.code pc = .ok (.anewarray index, 3)) (hn : ¬ n < 0) {cap : Nat} (hcap : n.toNatClampNeg ≤ cap) (hb : cap * 8 ≤ 536870912) (hc : cells + 1 ≤ R.cells) (hl : slots + cap ≤ R.slots)
    (k : ∀ T' h' b cA, b = h.size → Stand p l e R s m args below meth c T' locs (cells + 1) (slots + cap) → T'.heap = h' → Ext h h' → Arv Z h' b cA (.object C) n [] .null → Ovr Z cA C → Goes p e below FE n0 Q (T'.setTop (mkF m (pc + 3) Ls (.ref b :: st)))) : Goes p e below FE n0 Q (T.setTop (mkF m pc Ls (.int n :: st))) := by
  obtain ⟨T', h', cA, X', e', E', A', O', st'⟩ := newR X hx hZ hown w1 w2 eT (g := mkF m pc Ls (.int n :: st)) rfl hd rfl hn hcap hb hc hl
  exact Goes.via st' (k T' h' _ cA rfl X' e' E' (Arv.new A' hn) O')
theorem own_newPE (X : Stand p l e R s m args below meth c T locs cells slots) (hx : p.tables.exec = Jvm.exec) (hZ : Z.Warmed39 s.vm) {aty : ArrayType} (w : (Jvm.Cond.arrayClass (newarray.typeOf aty)).before a0 Z = true) (eT : T.heap = h) {n : Int32} {ad : String} (had : "[" ++ (newarray.typeOf aty).toString = ad) (hd : decode c.code pc = .ok (.newarray aty, 2)) (hn : ¬ n < 0) {cap : Nat} (hcap : n.toNatClampNeg ≤ cap) (hb : cap * 8 ≤ 536870912) (hc : cells + 1 ≤ R.cells) (hl : slots + cap ≤ R.slots)
    (k : ∀ T' h' b cA, b = h.size → Stand p l e R s m args below meth c T' locs (cells + 1) (slots + cap) → T'.heap = h' → Ext h h' → Arv Z h' b cA (newarray.typeOf aty) n [] (defaultValue (newarray.typeOf aty)) → Exa Z h' b ad → Goes p e below FE n0 Q (T'.setTop (mkF m (pc + 2) Ls (.ref b :: st)))) : Goes p e below FE n0 Q (T.setTop (mkF m pc Ls (.int n :: st))) := by
  obtain ⟨T', h', cA, X', e', E', A', Ex', st'⟩ := newPE X hx hZ w eT (g := mkF m pc Ls (.int n :: st)) rfl hd rfl hn hcap hb hc hl had
  exact Goes.via st' (k T' h' _ cA rfl X' e' E' (Arv.new A' hn) Ex')
theorem own_newRE (X : Stand p l e R s m args below meth c T locs cells slots) (hx : p.tables.exec = Jvm.exec) (hZ : Z.Warmed39 s.vm) {own : String} {index : Nat} (hown : s.vm.findClass own = some m.cls) {C ad : String} (had : "[" ++ (FieldType.object C).toString = ad) (w1 : (Jvm.Cond.classLink own index C).before a0 Z = true) (w2 : (Jvm.Cond.arrayOver (.object C)).before a0 Z = true) (eT : T.heap = h) {n : Int32} (hd : decode c.code pc = .ok (.anewarray index, 3)) (hn : ¬ n < 0) {cap : Nat} (hcap : n.toNatClampNeg ≤ cap) (hb : cap * 8 ≤ 536870912) (hc : cells + 1 ≤ R.cells) (hl : slots + cap ≤ R.slots)
    (k : ∀ T' h' b cA, b = h.size → Stand p l e R s m args below meth c T' locs (cells + 1) (slots + cap) → T'.heap = h' → Ext h h' → Arv Z h' b cA (.object C) n [] .null → Ovr Z cA C → Exa Z h' b ad → Goes p e below FE n0 Q (T'.setTop (mkF m (pc + 3) Ls (.ref b :: st)))) : Goes p e below FE n0 Q (T.setTop (mkF m pc Ls (.int n :: st))) := by
  obtain ⟨T', h', cA, X', e', E', A', Ex', O', st'⟩ := newRE X hx hZ hown w1 w2 eT (g := mkF m pc Ls (.int n :: st)) rfl hd rfl hn hcap hb hc hl had
  exact Goes.via st' (k T' h' _ cA rfl X' e' E' (Arv.new A' hn) O' Ex')
theorem own_newRA (X : Stand p l e R s m args below meth c T locs cells slots) (hx : p.tables.exec = Jvm.exec) (hZ : Z.Warmed39 s.vm) {own : String} {index : Nat} (hown : s.vm.findClass own = some m.cls) {C ad : String} {ty : FieldType} (hC : (FieldType.array ty).toString = C) (had : "[" ++ C = ad) (w1 : (Jvm.Cond.classLink own index C).before a0 Z = true) (w2 : (Jvm.Cond.arrayOver (.array ty)).before a0 Z = true) (eT : T.heap = h) {n : Int32} (hd : decode c.code pc = .ok (.anewarray index, 3)) (hn : ¬ n < 0) {cap : Nat} (hcap : n.toNatClampNeg ≤ cap) (hb : cap * 8 ≤ 536870912) (hc : cells + 1 ≤ R.cells) (hl : slots + cap ≤ R.slots)
    (k : ∀ T' h' b cA, b = h.size → Stand p l e R s m args below meth c T' locs (cells + 1) (slots + cap) → T'.heap = h' → Ext h h' → Arv Z h' b cA (.array ty) n [] .null → OvrA Z cA ty C → Goes p e below FE n0 Q (T'.setTop (mkF m (pc + 3) Ls (.ref b :: st)))) : Goes p e below FE n0 Q (T.setTop (mkF m pc Ls (.int n :: st))) := by
  obtain ⟨T', h', cA, X', e', E', A', Ex', O', st'⟩ := newRA X hx hZ hown hC w1 w2 eT (g := mkF m pc Ls (.int n :: st)) rfl hd rfl hn hcap hb hc hl had
  exact Goes.via st' (k T' h' _ cA rfl X' e' E' (Arv.new A' hn) O')
theorem own_iastore (X : Stand p l e R s m args below meth c T locs cells slots) (hx : p.tables.exec = Jvm.exec) (hZ : Z.Warmed39 s.vm) (N : Fr n0 locs) (eT : T.heap = h) {a : Addr} {k : ClassId} {z j : Int32} {vs : List Value} {dv : Value} {x : Int32} (F : Arv Z h a k .int z vs dv) (hj : ¬ j < 0 ∧ j < z) {i : Nat} (hi : j.toNatClampNeg = i) (hlen : i < vs.length) (hge : n0 ≤ a) (hd : decode c.code pc = .ok (.iastore, 1))
    (k : ∀ T' h' locs', Stand p l e R s m args below meth c T' locs' cells slots → T'.heap = h' → Fr n0 locs' → Wr h h' a j.toNatClampNeg (.int x) → Arv Z h' a k .int z (vs.set i (.int x)) dv → Goes p e below FE n0 Q (T'.setTop (mkF m (pc + 1) Ls st))) : Goes p e below FE n0 Q (T.setTop (mkF m pc Ls (.int x :: .int j :: .ref a :: st))) := by
  obtain ⟨cl, A, q1, S, q3, H, G⟩ := F
  obtain ⟨T', h', X', e', W', st'⟩ := stI X hx hZ eT A (j := j) (inb_of S hj) (g := mkF m pc Ls (.int x :: .int j :: .ref a :: st)) rfl rfl hd
  exact Goes.via st' (k T' h' _ X' e' (Fr.snoc X' N hge) W' (Arv.set A q1 S q3 H G rfl W' i hi hlen))
theorem own_lastore (X : Stand p l e R s m args below meth c T locs cells slots) (hx : p.tables.exec = Jvm.exec) (hZ : Z.Warmed39 s.vm) (N : Fr n0 locs) (eT : T.heap = h) {a : Addr} {k : ClassId} {z j : Int32} {vs : List Value} {dv : Value} {x : Int64} (F : Arv Z h a k .long z vs dv) (hj : ¬ j < 0 ∧ j < z) {i : Nat} (hi : j.toNatClampNeg = i) (hlen : i < vs.length) (hge : n0 ≤ a) (hd : decode c.code pc = .ok (.lastore, 1))
    (k : ∀ T' h' locs', Stand p l e R s m args below meth c T' locs' cells slots → T'.heap = h' → Fr n0 locs' → Wr h h' a j.toNatClampNeg (.long x) → Arv Z h' a k .long z (vs.set i (.long x)) dv → Goes p e below FE n0 Q (T'.setTop (mkF m (pc + 1) Ls st))) : Goes p e below FE n0 Q (T.setTop (mkF m pc Ls (.long x :: .int j :: .ref a :: st))) := by
  obtain ⟨cl, A, q1, S, q3, H, G⟩ := F
  obtain ⟨T', h', X', e', W', st'⟩ := stJ X hx hZ eT A (j := j) (inb_of S hj) (g := mkF m pc Ls (.long x :: .int j :: .ref a :: st)) rfl rfl hd
  exact Goes.via st' (k T' h' _ X' e' (Fr.snoc X' N hge) W' (Arv.set A q1 S q3 H G rfl W' i hi hlen))
theorem own_castore (X : Stand p l e R s m args below meth c T locs cells slots) (hx : p.tables.exec = Jvm.exec) (hZ : Z.Warmed39 s.vm) (N : Fr n0 locs) (eT : T.heap = h) {a : Addr} {k : ClassId} {z j : Int32} {vs : List Value} {dv : Value} {x : Int32} (F : Arv Z h a k .char z vs dv) (hj : ¬ j < 0 ∧ j < z) {i : Nat} (hi : j.toNatClampNeg = i) (hlen : i < vs.length) (hge : n0 ≤ a) (hd : decode c.code pc = .ok (.castore, 1))
    (k : ∀ T' h' locs', Stand p l e R s m args below meth c T' locs' cells slots → T'.heap = h' → Fr n0 locs' → Wr h h' a j.toNatClampNeg (.int (nar .char x)) → Arv Z h' a k .char z (vs.set i (.int (nar .char x))) dv → Goes p e below FE n0 Q (T'.setTop (mkF m (pc + 1) Ls st))) : Goes p e below FE n0 Q (T.setTop (mkF m pc Ls (.int x :: .int j :: .ref a :: st))) := by
  obtain ⟨cl, A, q1, S, q3, H, G⟩ := F
  obtain ⟨T', h', X', e', W', st'⟩ := stC X hx hZ eT A (j := j) (inb_of S hj) (g := mkF m pc Ls (.int x :: .int j :: .ref a :: st)) rfl rfl hd
  exact Goes.via st' (k T' h' _ X' e' (Fr.snoc X' N hge) W' (Arv.set A q1 S q3 H G (fits_nar_char _) W' i hi hlen))
theorem own_bastore (X : Stand p l e R s m args below meth c T locs cells slots) (hx : p.tables.exec = Jvm.exec) (hZ : Z.Warmed39 s.vm) (N : Fr n0 locs) (eT : T.heap = h) {a : Addr} {k : ClassId} {z j : Int32} {vs : List Value} {dv : Value} {x : Int32} (F : Arv Z h a k .byte z vs dv) (hj : ¬ j < 0 ∧ j < z) {i : Nat} (hi : j.toNatClampNeg = i) (hlen : i < vs.length) (hge : n0 ≤ a) (hd : decode c.code pc = .ok (.bastore, 1))
    (k : ∀ T' h' locs', Stand p l e R s m args below meth c T' locs' cells slots → T'.heap = h' → Fr n0 locs' → Wr h h' a j.toNatClampNeg (.int (x.toInt8.toInt32)) → Arv Z h' a k .byte z (vs.set i (.int (x.toInt8.toInt32))) dv → Goes p e below FE n0 Q (T'.setTop (mkF m (pc + 1) Ls st))) : Goes p e below FE n0 Q (T.setTop (mkF m pc Ls (.int x :: .int j :: .ref a :: st))) := by
  obtain ⟨cl, A, q1, S, q3, H, G⟩ := F
  obtain ⟨T', h', X', e', W', st'⟩ := stB X hx hZ eT A (j := j) (inb_of S hj) (g := mkF m pc Ls (.int x :: .int j :: .ref a :: st)) rfl rfl hd
  exact Goes.via st' (k T' h' _ X' e' (Fr.snoc X' N hge) W' (Arv.set A q1 S q3 H G (fits_nar_byte _) W' i hi hlen))
theorem own_aastore (X : Stand p l e R s m args below meth c T locs cells slots) (hx : p.tables.exec = Jvm.exec) (hZ : Z.Warmed39 s.vm) (N : Fr n0 locs) (eT : T.heap = h) {a : Addr} {k : ClassId} {ty : FieldType} {z j : Int32} {vs : List Value} {dv v : Value} (F : Arv Z h a k ty z vs dv) (hty : ty.isReference = true) (hfit : fits ty v = true) (hj : ¬ j < 0 ∧ j < z) {i : Nat} (hi : j.toNatClampNeg = i) (hlen : i < vs.length) (hge : n0 ≤ a) (hst : ∀ cl, Arr Z h a cl ty → cl.cls = k → Sto Z h a v) (hd : decode c.code pc = .ok (.aastore, 1))
    (k : ∀ T' h' locs', Stand p l e R s m args below meth c T' locs' cells slots → T'.heap = h' → Fr n0 locs' → Wr h h' a j.toNatClampNeg v → Arv Z h' a k ty z (vs.set i v) dv → Goes p e below FE n0 Q (T'.setTop (mkF m (pc + 1) Ls st))) : Goes p e below FE n0 Q (T.setTop (mkF m pc Ls (v :: .int j :: .ref a :: st))) := by
  obtain ⟨cl, A, q1, S, q3, H, G⟩ := F
  obtain ⟨T', h', X', e', W', st'⟩ := stR X hx hZ eT A (j := j) (inb_of S hj) hty (hst cl A q1) (g := mkF m pc Ls (v :: .int j :: .ref a :: st)) rfl rfl hd
  exact Goes.via st' (k T' h' _ X' e' (Fr.snoc X' N hge) W' (Arv.set A q1 S q3 H G hfit W' i hi hlen))
theorem own_selfsel {y : MethodName} {nn : Nat} (wi : (Jvm.Cond.instantiable y.cls nn).before a0 Z = true) (w2 : (Jvm.Cond.instanceMethod y).before a0 Z = true) (w6 : (Jvm.Cond.privateMethod y).before a0 Z = true) (hy : y.cls ≠ "java/lang/invoke/MethodHandle" ∧ y.cls ≠ "java/lang/invoke/VarHandle") : (Jvm.Cond.selects y.cls y y).before a0 Z = true := by
  obtain ⟨c, k, h1, h2, -, h4, -⟩ := Cond.instantiable_spec wi
  exact selects_self_of_private h1 h2 (by rw [Bool.or_eq_false_iff] at h4; exact h4.1) (Cond.privateMethod_at w6) w2 hy
theorem own_callS (X : Stand p l e R s m args below meth c T locs cells slots) (hx : p.tables.exec = Jvm.exec) (hZ : Z.Warmed39 s.vm) {own : String} {index : Nat} (hown : s.vm.findClass own = some m.cls) {y : MethodName} {bytes : ByteArray} {maxL : Nat} {ret : Option FieldType} {rm : Room} {W : Nat} {Q' : Option Value → Heap → Prop} (w1 : (Jvm.Cond.methodLink own index y).before a0 Z = true) (w2 : (Jvm.Cond.static y).before a0 Z = true) (w3 : (Jvm.Cond.initialized y.cls).before a0 Z = true) (w4 : (Jvm.Cond.code y bytes maxL ret).before a0 Z = true) (hy : y.cls ≠ "java/lang/invoke/MethodHandle" ∧ y.cls ≠ "java/lang/invoke/VarHandle") (hf : rm.frames + 1 ≤ R.frames) (hl : W + (maxL + 11) + rm.locals ≤ R.locals) (N : Fr n0 locs) (eT : T.heap = h) (hsize : Ls.size = c.maxLocals) {argsL rest : List Value} (hlen : ∀ sig, parseMethodDescriptor y.desc = some sig → argsL.length = sig.parameters.length) (hW : (rest.map fun v => v.category).sum ≤ W) (hc : cells + rm.cells ≤ R.cells) (hs : slots + rm.slots ≤ R.slots) (M : Meets l y bytes maxL ret [] rm rm.cells rm.slots Z argsL.toArray h n0 Q') (hst : st = argsL.reverse ++ rest) (hd : decode c.code pc = .ok (.invokestatic index, 3))
    (k : ∀ v T' locs', Stand p l e R s m args below meth c T' locs' (cells + rm.cells) (slots + rm.slots) → Fr n0 locs' → Q' v T'.heap → Goes p e below FE n0 Q (T'.setTop (mkF m (pc + 3) Ls (v.toList ++ rest)))) : Goes p e below FE n0 Q (T.setTop (mkF m pc Ls st)) := by
  subst hst
  obtain ⟨v, _, ⟨T', L', k', n'⟩, -, X', ⟨Lc, hQ, l1, l2, l3⟩, st'⟩ := Jvm.LawKit.callS X hx (y := y) hown (mvT hZ w1) (mvT hZ w2) (mvT hZ w3) (mvT hZ w4) hy (backOf (W := W) (Q := fun v h L => Fr n0 L ∧ Q' v h) M hZ w4 w3 hf hl) (g := mkF m pc Ls (argsL.reverse ++ rest)) rfl hsize (argsL := argsL) (rest := rest) hlen rfl (by show 2 * 0 + _ ≤ _; omega) hd (fun _ _ => ⟨rfl, eT, hc, hs⟩)
  dsimp only [Pt.U, Pt.locs, Pt.cells, Pt.slots] at X' l1 l2 l3 st' hQ
  subst l1 l2 l3
  exact Goes.via st' (k v T' _ X' (Fr.app N hQ.1) hQ.2)
theorem own_special (X : Stand p l e R s m args below meth c T locs cells slots) (hx : p.tables.exec = Jvm.exec) (hZ : Z.Warmed39 s.vm) {own : String} {index : Nat} (hown : s.vm.findClass own = some m.cls) {y : MethodName} {bytes : ByteArray} {maxL : Nat} {rm : Room} {W : Nat} {Q' : Option Value → Heap → Prop} (hy1 : y.name = "<init>") (w1 : (Jvm.Cond.methodLink own index y).before a0 Z = true) (w2 : (Jvm.Cond.instanceMethod y).before a0 Z = true) (w3 : (Jvm.Cond.initialized y.cls).before a0 Z = true) (w4 : (Jvm.Cond.code y bytes maxL none).before a0 Z = true) {a : Addr} (hy : y.cls ≠ "java/lang/invoke/MethodHandle" ∧ y.cls ≠ "java/lang/invoke/VarHandle") (hf : rm.frames + 1 ≤ R.frames) (hl : W + (maxL + 11) + rm.locals ≤ R.locals) (N : Fr n0 locs) (eT : T.heap = h) (hsize : Ls.size = c.maxLocals) {argsL rest : List Value} (hlen : ∀ sig, parseMethodDescriptor y.desc = some sig → argsL.length = sig.parameters.length) (hW : (rest.map fun v => v.category).sum ≤ W) (hc : cells + rm.cells ≤ R.cells) (hs : slots + rm.slots ≤ R.slots) (M : Meets l y bytes maxL none [] rm rm.cells rm.slots Z (.ref a :: argsL).toArray h n0 Q') (hst : st = argsL.reverse ++ .ref a :: rest) (hd : decode c.code pc = .ok (.invokespecial index, 3))
    (k : ∀ v T' locs', Stand p l e R s m args below meth c T' locs' (cells + rm.cells) (slots + rm.slots) → Fr n0 locs' → Q' v T'.heap → Goes p e below FE n0 Q (T'.setTop (mkF m (pc + 3) Ls (v.toList ++ rest)))) : Goes p e below FE n0 Q (T.setTop (mkF m pc Ls st)) := by
  subst hst
  obtain ⟨v, _, ⟨T', L', k', n'⟩, -, X', ⟨Lc, hQ, l1, l2, l3⟩, st'⟩ := X.specialBack hx (y := y) hy1 hown (mvT hZ w1) (mvT hZ w2) (mvT hZ w4) hy (backOf (W := W) (Q := fun v h L => Fr n0 L ∧ Q' v h) M hZ w4 w3 hf hl) (g := mkF m pc Ls (argsL.reverse ++ .ref a :: rest)) rfl hsize (Steps.refl _) (a := a) (argsL := argsL) (rest := rest) hlen rfl (by show 2 * 0 + _ ≤ _; omega) hd (fun _ _ => ⟨rfl, eT, hc, hs⟩)
  dsimp only [Pt.U, Pt.locs, Pt.cells, Pt.slots] at X' l1 l2 l3 st' hQ
  subst l1 l2 l3
  exact Goes.via (fun _ k => st'.trans k) (k v T' _ X' (Fr.app N hQ.1) hQ.2)
theorem own_specialNest (X : Stand p l e R s m args below meth c T locs cells slots) (hx : p.tables.exec = Jvm.exec) (hZ : Z.Warmed39 s.vm) {own : String} {index : Nat} (hown : s.vm.findClass own = some m.cls) {y : MethodName} {bytes : ByteArray} {maxL : Nat} {rm : Room} {W : Nat} {Q' : Option Value → Heap → Prop} {host : String} (hy1 : y.name = "<init>") (w1 : (Jvm.Cond.methodLinkNest own index y host).before a0 Z = true) (w2 : (Jvm.Cond.instanceMethod y).before a0 Z = true) (w3 : (Jvm.Cond.initialized y.cls).before a0 Z = true) (w4 : (Jvm.Cond.code y bytes maxL none).before a0 Z = true) {a : Addr} (hy : y.cls ≠ "java/lang/invoke/MethodHandle" ∧ y.cls ≠ "java/lang/invoke/VarHandle") (hf : rm.frames + 1 ≤ R.frames) (hl : W + (maxL + 11) + rm.locals ≤ R.locals) (N : Fr n0 locs) (eT : T.heap = h) (hsize : Ls.size = c.maxLocals) {argsL rest : List Value} (hlen : ∀ sig, parseMethodDescriptor y.desc = some sig → argsL.length = sig.parameters.length) (hW : (rest.map fun v => v.category).sum ≤ W) (hc : cells + rm.cells ≤ R.cells) (hs : slots + rm.slots ≤ R.slots) (M : Meets l y bytes maxL none [] rm rm.cells rm.slots Z (.ref a :: argsL).toArray h n0 Q') (hst : st = argsL.reverse ++ .ref a :: rest) (hd : decode c.code pc = .ok (.invokespecial index, 3))
    (k : ∀ v T' locs', Stand p l e R s m args below meth c T' locs' (cells + rm.cells) (slots + rm.slots) → Fr n0 locs' → Q' v T'.heap → Goes p e below FE n0 Q (T'.setTop (mkF m (pc + 3) Ls (v.toList ++ rest)))) : Goes p e below FE n0 Q (T.setTop (mkF m pc Ls st)) := by
  subst hst
  obtain ⟨v, _, ⟨T', L', k', n'⟩, -, X', ⟨Lc, hQ, l1, l2, l3⟩, st'⟩ := X.specialBackNest hx (y := y) hy1 hown (Cond.methodLinkNest_wide hZ w1 :) (mvT hZ w2) (mvT hZ w4) hy (backOf (W := W) (Q := fun v h L => Fr n0 L ∧ Q' v h) M hZ w4 w3 hf hl) (g := mkF m pc Ls (argsL.reverse ++ .ref a :: rest)) rfl hsize (Steps.refl _) (a := a) (argsL := argsL) (rest := rest) hlen rfl (by show 2 * 0 + _ ≤ _; omega) hd (fun _ _ => ⟨rfl, eT, hc, hs⟩)
  dsimp only [Pt.U, Pt.locs, Pt.cells, Pt.slots] at X' l1 l2 l3 st' hQ
  subst l1 l2 l3
  exact Goes.via (fun _ k => st'.trans k) (k v T' _ X' (Fr.app N hQ.1) hQ.2)
theorem own_virtual (X : Stand p l e R s m args below meth c T locs cells slots) (hx : p.tables.exec = Jvm.exec) (hZ : Z.Warmed39 s.vm) {own : String} {index : Nat} (hown : s.vm.findClass own = some m.cls) {y : MethodName} {bytes : ByteArray} {maxL : Nat} {ret : Option FieldType} {rm : Room} {W : Nat} {Q' : Option Value → Heap → Prop} {z : MethodName} {C : String} (w1 : (Jvm.Cond.methodLink own index y).before a0 Z = true) (w2 : (Jvm.Cond.declares y).before a0 Z = true) (hnf : NotFace s y) (w5 : (Jvm.Cond.selects C y z).before a0 Z = true) (w6 : (Jvm.Cond.instanceMethod z).before a0 Z = true) (w3 : (Jvm.Cond.initialized z.cls).before a0 Z = true) (w4 : (Jvm.Cond.code z bytes maxL ret).before a0 Z = true) {a : Addr} (E : Exa Z h a C) (hy : y.cls ≠ "java/lang/invoke/MethodHandle" ∧ y.cls ≠ "java/lang/invoke/VarHandle") (hf : rm.frames + 1 ≤ R.frames) (hl : W + (maxL + 11) + rm.locals ≤ R.locals) (N : Fr n0 locs) (eT : T.heap = h) (hsize : Ls.size = c.maxLocals) {argsL rest : List Value} (hlen : ∀ sig, parseMethodDescriptor y.desc = some sig → argsL.length = sig.parameters.length) (hW : (rest.map fun v => v.category).sum ≤ W) (hc : cells + rm.cells ≤ R.cells) (hs : slots + rm.slots ≤ R.slots) (M : Meets l z bytes maxL ret [] rm rm.cells rm.slots Z (.ref a :: argsL).toArray h n0 Q') (hst : st = argsL.reverse ++ .ref a :: rest) (hd : decode c.code pc = .ok (.invokevirtual index, 3))
    (k : ∀ v T' locs', Stand p l e R s m args below meth c T' locs' (cells + rm.cells) (slots + rm.slots) → Fr n0 locs' → Q' v T'.heap → Goes p e below FE n0 Q (T'.setTop (mkF m (pc + 3) Ls (v.toList ++ rest)))) : Goes p e below FE n0 Q (T.setTop (mkF m pc Ls st)) := by
  subst hst
  obtain ⟨cq, kq, qa, qb, qc⟩ := isOf hZ eT E
  obtain ⟨v, _, ⟨T', L', k', n'⟩, -, X', ⟨Lc, hQ, l1, l2, l3⟩, st'⟩ := X.virtualBack hx (y := y) (z := z) hown (mvT hZ w1) (mvT hZ w2) hnf (mvT hZ w5) (mvT hZ w6) hy (backOf (W := W) (Q := fun v h L => Fr n0 L ∧ Q' v h) M hZ w4 w3 hf hl) qa qc (g := mkF m pc Ls (argsL.reverse ++ .ref a :: rest)) rfl hsize (Steps.refl _) (argsL := argsL) (rest := rest) hlen rfl (by show 2 * 0 + _ ≤ _; omega) hd (fun _ _ => ⟨rfl, eT, hc, hs⟩)
  dsimp only [Pt.U, Pt.locs, Pt.cells, Pt.slots] at X' l1 l2 l3 st' hQ
  subst l1 l2 l3
  exact Goes.via (fun _ k => st'.trans k) (k v T' _ X' (Fr.app N hQ.1) hQ.2)
theorem own_private (X : Stand p l e R s m args below meth c T locs cells slots) (hx : p.tables.exec = Jvm.exec) (hZ : Z.Warmed39 s.vm) {own : String} {index : Nat} (hown : s.vm.findClass own = some m.cls) {y : MethodName} {bytes : ByteArray} {maxL : Nat} {ret : Option FieldType} {rm : Room} {W : Nat} {Q' : Option Value → Heap → Prop} (w1 : (Jvm.Cond.methodLink own index y).before a0 Z = true) (w2 : (Jvm.Cond.instanceMethod y).before a0 Z = true) {nn : Nat} (w5 : (Jvm.Cond.instantiable y.cls nn).before a0 Z = true) (w6 : (Jvm.Cond.privateMethod y).before a0 Z = true) (w3 : (Jvm.Cond.initialized y.cls).before a0 Z = true) (w4 : (Jvm.Cond.code y bytes maxL ret).before a0 Z = true) {a : Addr} {C : String} (E : Exa Z h a C) (hy : y.cls ≠ "java/lang/invoke/MethodHandle" ∧ y.cls ≠ "java/lang/invoke/VarHandle") (hf : rm.frames + 1 ≤ R.frames) (hl : W + (maxL + 11) + rm.locals ≤ R.locals) (N : Fr n0 locs) (eT : T.heap = h) (hsize : Ls.size = c.maxLocals) {argsL rest : List Value} (hlen : ∀ sig, parseMethodDescriptor y.desc = some sig → argsL.length = sig.parameters.length) (hW : (rest.map fun v => v.category).sum ≤ W) (hc : cells + rm.cells ≤ R.cells) (hs : slots + rm.slots ≤ R.slots) (M : Meets l y bytes maxL ret [] rm rm.cells rm.slots Z (.ref a :: argsL).toArray h n0 Q') (hst : st = argsL.reverse ++ .ref a :: rest) (hd : decode c.code pc = .ok (.invokevirtual index, 3))
    (k : ∀ v T' locs', Stand p l e R s m args below meth c T' locs' (cells + rm.cells) (slots + rm.slots) → Fr n0 locs' → Q' v T'.heap → Goes p e below FE n0 Q (T'.setTop (mkF m (pc + 3) Ls (v.toList ++ rest)))) : Goes p e below FE n0 Q (T.setTop (mkF m pc Ls st)) := by
  subst hst
  obtain ⟨cq, qa, qb⟩ := E.cell
  obtain ⟨v, _, ⟨T', L', k', n'⟩, -, X', ⟨Lc, hQ, l1, l2, l3⟩, st'⟩ := X.privateBack hx (y := y) hown (mvT hZ w1) (mvT hZ w2) (mvT hZ (own_selfsel w5 w2 w6 hy)) (Cond.privateMethod_at (mvP hZ w6 (args := #[]))) (mvT hZ w4) hy (backOf (W := W) (Q := fun v h L => Fr n0 L ∧ Q' v h) M hZ w4 w3 hf hl) (g := mkF m pc Ls (argsL.reverse ++ .ref a :: rest)) rfl hsize (Steps.refl _) (a := a) (by rw [eT]; exact qa) qb (argsL := argsL) (rest := rest) hlen rfl (by show 2 * 0 + _ ≤ _; omega) hd (fun _ _ => ⟨rfl, eT, hc, hs⟩)
  dsimp only [Pt.U, Pt.locs, Pt.cells, Pt.slots] at X' l1 l2 l3 st' hQ
  subst l1 l2 l3
  exact Goes.via (fun _ k => st'.trans k) (k v T' _ X' (Fr.app N hQ.1) hQ.2)
theorem own_virtualUp (X : Stand p l e R s m args below meth c T locs cells slots) (hx : p.tables.exec = Jvm.exec) (hZ : Z.Warmed39 s.vm) {own : String} {index : Nat} (hown : s.vm.findClass own = some m.cls) {y : MethodName} {bytes : ByteArray} {maxL : Nat} {ret : Option FieldType} {rm : Room} {W : Nat} {Q' : Option Value → Heap → Prop} {z : MethodName} {C owner : String} (w1 : (Jvm.Cond.methodLink own index y).before a0 Z = true) (w2 : (Jvm.Cond.sameMethod y.cls owner y.name y.desc).before a0 Z = true) (w7 : (Jvm.Cond.declares ⟨owner, y.name, y.desc⟩).before a0 Z = true) (w5 : (Jvm.Cond.selects C y z).before a0 Z = true) (w6 : (Jvm.Cond.instanceMethod z).before a0 Z = true) (w3 : (Jvm.Cond.initialized z.cls).before a0 Z = true) (w4 : (Jvm.Cond.code z bytes maxL ret).before a0 Z = true) {a : Addr} (E : Exa Z h a C) (hy : owner ≠ "java/lang/invoke/MethodHandle" ∧ owner ≠ "java/lang/invoke/VarHandle") (hf : rm.frames + 1 ≤ R.frames) (hl : W + (maxL + 11) + rm.locals ≤ R.locals) (N : Fr n0 locs) (eT : T.heap = h) (hsize : Ls.size = c.maxLocals) {argsL rest : List Value} (hlen : ∀ sig, parseMethodDescriptor y.desc = some sig → argsL.length = sig.parameters.length) (hW : (rest.map fun v => v.category).sum ≤ W) (hc : cells + rm.cells ≤ R.cells) (hs : slots + rm.slots ≤ R.slots) (M : Meets l z bytes maxL ret [] rm rm.cells rm.slots Z (.ref a :: argsL).toArray h n0 Q') (hst : st = argsL.reverse ++ .ref a :: rest) (hd : decode c.code pc = .ok (.invokevirtual index, 3))
    (k : ∀ v T' locs', Stand p l e R s m args below meth c T' locs' (cells + rm.cells) (slots + rm.slots) → Fr n0 locs' → Q' v T'.heap → Goes p e below FE n0 Q (T'.setTop (mkF m (pc + 3) Ls (v.toList ++ rest)))) : Goes p e below FE n0 Q (T.setTop (mkF m pc Ls st)) := by
  subst hst
  obtain ⟨cq, kq, qa, qb, qc⟩ := isOf hZ eT E
  obtain ⟨v, _, ⟨T', L', k', n'⟩, -, X', ⟨Lc, hQ, l1, l2, l3⟩, st'⟩ := X.virtualBackUp hx (x := y) (y := z) hown (mvT hZ w1) (mvT hZ w2) (mvT hZ w7 (by simp [Cond.onTables, Cond.keepsFace, Cond.keeps, Cond.steady, Cond.faceAtom, hy.1, hy.2])) hy (mvT hZ w5) (mvT hZ w6) (backOf (W := W) (Q := fun v h L => Fr n0 L ∧ Q' v h) M hZ w4 w3 hf hl) qa qc (g := mkF m pc Ls (argsL.reverse ++ .ref a :: rest)) rfl hsize (Steps.refl _) (argsL := argsL) (rest := rest) hlen rfl (by show 2 * 0 + _ ≤ _; omega) hd (fun _ _ => ⟨rfl, eT, hc, hs⟩)
  dsimp only [Pt.U, Pt.locs, Pt.cells, Pt.slots] at X' l1 l2 l3 st' hQ
  subst l1 l2 l3
  exact Goes.via (fun _ k => st'.trans k) (k v T' _ X' (Fr.app N hQ.1) hQ.2)
theorem own_iface (X : Stand p l e R s m args below meth c T locs cells slots) (hx : p.tables.exec = Jvm.exec) (hZ : Z.Warmed39 s.vm) {own : String} {index : Nat} (hown : s.vm.findClass own = some m.cls) {y : MethodName} {bytes : ByteArray} {maxL : Nat} {ret : Option FieldType} {rm : Room} {W : Nat} {Q' : Option Value → Heap → Prop} {z : MethodName} {C : String} {count : Nat} (w1 : (Jvm.Cond.methodLink own index y).before a0 Z = true) (w2 : (Jvm.Cond.declares y).before a0 Z = true) (w7 : (Jvm.Cond.interfaceMethod y.cls y.cls y.name y.desc).before a0 Z = true) (w5 : (Jvm.Cond.selects C y z).before a0 Z = true) (w6 : (Jvm.Cond.instanceMethod z).before a0 Z = true) (w8 : (Jvm.Cond.publicMethod z).before a0 Z = true) (w9 : (Jvm.Cond.unhidden C y.name y.desc).before a0 Z = true) (wc : (Jvm.Cond.castable C y.cls).before a0 Z = true) (w3 : (Jvm.Cond.initialized z.cls).before a0 Z = true) (w4 : (Jvm.Cond.code z bytes maxL ret).before a0 Z = true) {a : Addr} (E : Exa Z h a C) (hy : y.cls ≠ "java/lang/invoke/MethodHandle" ∧ y.cls ≠ "java/lang/invoke/VarHandle") (hf : rm.frames + 1 ≤ R.frames) (hl : W + (maxL + 11) + rm.locals ≤ R.locals) (N : Fr n0 locs) (eT : T.heap = h) (hsize : Ls.size = c.maxLocals) {argsL rest : List Value} (hlen : ∀ sig, parseMethodDescriptor y.desc = some sig → argsL.length = sig.parameters.length) (hW : (rest.map fun v => v.category).sum ≤ W) (hc : cells + rm.cells ≤ R.cells) (hs : slots + rm.slots ≤ R.slots) (M : Meets l z bytes maxL ret [] rm rm.cells rm.slots Z (.ref a :: argsL).toArray h n0 Q') (hst : st = argsL.reverse ++ .ref a :: rest) (hd : decode c.code pc = .ok (.invokeinterface index count, 5))
    (k : ∀ v T' locs', Stand p l e R s m args below meth c T' locs' (cells + rm.cells) (slots + rm.slots) → Fr n0 locs' → Q' v T'.heap → Goes p e below FE n0 Q (T'.setTop (mkF m (pc + 5) Ls (v.toList ++ rest)))) : Goes p e below FE n0 Q (T.setTop (mkF m pc Ls st)) := by
  subst hst
  obtain ⟨cq, kq, qa, qb, qc⟩ := isOf hZ eT E
  obtain ⟨v, _, ⟨T', L', k', n'⟩, -, X', ⟨Lc, hQ, l1, l2, l3⟩, st'⟩ := X.interfaceBack hx (xi := y) (y := z) hown (mvT hZ w1) (mvT hZ w2) (mvT hZ w7 (by simp [Cond.onTables, Cond.keepsFace, Cond.keeps, Cond.steady, Cond.faceAtom, hy.1, hy.2])) (mvT hZ w5) (mvT hZ w6) (mvT hZ w8) (mvT hZ w9) (mvT hZ wc) hy (backOf (W := W) (Q := fun v h L => Fr n0 L ∧ Q' v h) M hZ w4 w3 hf hl) qa qb qc (g := mkF m pc Ls (argsL.reverse ++ .ref a :: rest)) rfl hsize (Steps.refl _) (argsL := argsL) (rest := rest) hlen rfl (by show 2 * 0 + _ ≤ _; omega) hd (fun _ _ => ⟨rfl, eT, hc, hs⟩)
  dsimp only [Pt.U, Pt.locs, Pt.cells, Pt.slots] at X' l1 l2 l3 st' hQ
  subst l1 l2 l3
  exact Goes.via (fun _ k => st'.trans k) (k v T' _ X' (Fr.app N hQ.1) hQ.2)
theorem own_gcls (X : Stand p l e R s m args below meth c T locs cells slots) (hx : p.tables.exec = Jvm.exec) (hZ : Z.Warmed39 s.vm) {own : String} {index : Nat} (hown : s.vm.findClass own = some m.cls) {C : String} (w1 : (Jvm.Cond.methodLink own index ⟨"java/lang/Object", "getClass", "()Ljava/lang/Class;"⟩).before a0 Z = true) (w2 : (Jvm.Cond.declares ⟨"java/lang/Object", "getClass", "()Ljava/lang/Class;"⟩).before a0 Z = true) (w3 : (Jvm.Cond.noSuperclass "java/lang/Object").before a0 Z = true) (w4 : (Jvm.Cond.selects C ⟨"java/lang/Object", "getClass", "()Ljava/lang/Class;"⟩ ⟨"java/lang/Object", "getClass", "()Ljava/lang/Class;"⟩).before a0 Z = true) (w5 : (Jvm.Cond.instanceMethod ⟨"java/lang/Object", "getClass", "()Ljava/lang/Class;"⟩).before a0 Z = true) (w6 : (Jvm.Cond.native ⟨"java/lang/Object", "getClass", "()Ljava/lang/Class;"⟩).before a0 Z = true) (eT : T.heap = h) {a mr : Addr} (E : Exa Z h a C) (M : ∃ (c : ClassId) (k : Class), Z.vm.findClass C = some c ∧ Z.vm.classes[c]? = some k ∧ k.mirror = some mr) (hsize : Ls.size = c.maxLocals) (hd : decode c.code pc = .ok (.invokevirtual index, 3)) (hf : 1 ≤ R.frames) {W : Nat} (hW : (st.map fun v => v.category).sum ≤ W) (hl : W + 14 ≤ R.locals)
    (k : ∀ T', Stand p l e R s m args below meth c T' locs cells slots → T'.heap = h → Goes p e below FE n0 Q (T'.setTop (mkF m (pc + 3) Ls (.ref mr :: st)))) : Goes p e below FE n0 Q (T.setTop (mkF m pc Ls (.ref a :: st))) := by
  obtain ⟨cB, kB, i1, i2, i3⟩ := isOf hZ eT E
  obtain ⟨cc, kc, m1, m2, m3⟩ := M
  rw [hZ.alike.findClass] at i1
  cases i1.symm.trans m1
  obtain ⟨k', q, ek⟩ := hZ.alike.2.2 _ _ m2
  obtain ⟨vm', X', st'⟩ := X.getClassOf hx hown (mvT hZ w1) (mvT hZ w2) (nf_top (args := #[]) (mvT hZ w3)) (mvT hZ w4) (mvT hZ w5) (mvT hZ w6) (by rw [hZ.alike.findClass]; exact m1) i3 q (by rw [ek]; exact m3) (g := mkF m pc Ls (.ref a :: st)) rfl hsize rfl hd hf (by show 2 * 0 + _ + (1 + 2 + 11) ≤ _; omega)
  exact Goes.via st' (k _ X' eT)
theorem own_ldcMir (X : Stand p l e R s m args below meth c T locs cells slots) (hx : p.tables.exec = Jvm.exec) (hZ : Z.Warmed39 s.vm) {own : String} {index : Nat} (hown : s.vm.findClass own = some m.cls) {C : String} (w : (Jvm.Cond.classLink own index C).before a0 Z = true) (eT : T.heap = h) {mr : Addr} (M : ∃ (c : ClassId) (k : Class), Z.vm.findClass C = some c ∧ Z.vm.classes[c]? = some k ∧ k.mirror = some mr) (hd : decode c.code pc = .ok (.ldc index, 2))
    (k : ∀ T', Stand p l e R s m args below meth c T' locs cells slots → T'.heap = h → Goes p e below FE n0 Q (T'.setTop (mkF m (pc + 2) Ls (.ref mr :: st)))) : Goes p e below FE n0 Q (T.setTop (mkF m pc Ls st)) := by
  obtain ⟨cc, kc, m1, m2, m3⟩ := M
  obtain ⟨k', q, ek⟩ := hZ.alike.2.2 _ _ m2
  have hf' : s.vm.findClass C = some cc := by rw [hZ.alike.findClass]; exact m1
  obtain ⟨vm', X', st'⟩ := X.ldcMirror hx hown (mv hZ w) (a := mr) (by
    have hm : k'.mirror = some mr := by first | (rw [ek]; exact m3) | (rw [← ek]; exact m3) | (have := congrArg Class.mirror ek; simp at this; rw [← this]; exact m3) | (have := congrArg Class.mirror ek; simp at this; rw [this]; exact m3)
    show ((s.vm.findClass C).bind fun c => (s.vm.classes[c]?).bind fun k => k.mirror.bind fun a => some (Value.ref a)) = some (.ref mr)
    rw [hf']
    show ((s.vm.classes[cc]?).bind fun k => k.mirror.bind fun a => some (Value.ref a)) = some (.ref mr)
    rw [q]
    show (k'.mirror.bind fun a => some (Value.ref a)) = some (.ref mr)
    rw [hm]
    rfl) (g := mkF m pc Ls st) rfl hd
  exact Goes.via st' (k _ X' eT)
theorem own_cpA (X : Stand p l e R s m args below meth c T locs cells slots) (hx : p.tables.exec = Jvm.exec) (hZ : Z.Warmed39 s.vm) {own : String} {index : Nat} (hown : s.vm.findClass own = some m.cls) (w1 : (Jvm.Cond.methodLink own index Jvm.Stand.acN).before a0 Z = true) (w2 : (Jvm.Cond.native Jvm.Stand.acN).before a0 Z = true) (w3 : (Jvm.Cond.static Jvm.Stand.acN).before a0 Z = true) (w4 : (Jvm.Cond.initialized "java/lang/System").before a0 Z = true) (eT : T.heap = h) {a b : Addr} {k k' : ClassId} {ty ty' : FieldType} {z z' sp dp nn : Int32} {vs vd us vr : List Value} {dv dd : Value} (A : Arv Z h a k ty z vs dv) (B : Arv Z h b k' ty' z' vd dd) (hty : (ty = ty' ∧ refKind ty = false) ∨ (refKind ty = true ∧ refKind ty' = true ∧ StoL Z h b us)) (h1 : ¬ sp < 0) (h2 : ¬ dp < 0) (h3 : ¬ nn < 0) (h4 : sp.toNatClampNeg + nn.toNatClampNeg ≤ z.toNatClampNeg) (h5 : dp.toNatClampNeg + nn.toNatClampNeg ≤ z'.toNatClampNeg) (hus : us = (List.range nn.toNatClampNeg).map fun i => vs.getD (sp.toNatClampNeg + i) dv) (hl : dp.toNatClampNeg + nn.toNatClampNeg ≤ vd.length) (hvr : vd.take dp.toNatClampNeg ++ us ++ vd.drop (dp.toNatClampNeg + nn.toNatClampNeg) = vr) (N : Fr n0 locs) (ge : n0 ≤ b) (hsize : Ls.size = c.maxLocals) (hd : decode c.code pc = .ok (.invokestatic index, 3)) (hf : 1 ≤ R.frames) {W : Nat} (hW : (st.map fun v => v.category).sum ≤ W) (hlo : W + 18 ≤ R.locals)
    (k : ∀ T' h' locs', Stand p l e R s m args below meth c T' locs' cells slots → T'.heap = h' → Fr n0 locs' → Keep h h' [b] → Arv Z h' b k' ty' z' vr dd → Goes p e below FE n0 Q (T'.setTop (mkF m (pc + 3) Ls st))) : Goes p e below FE n0 Q (T.setTop (mkF m pc Ls (.int nn :: .int dp :: .ref b :: .int sp :: .ref a :: st))) := by
  subst hvr
  obtain ⟨T', h', L, X', e', N', K', V', st'⟩ := cpA X hx hZ hown w1 w2 w3 w4 eT A B hty h1 h2 h3 h4 h5 hus hl N ge (g := mkF m pc Ls (.int nn :: .int dp :: .ref b :: .int sp :: .ref a :: st)) rfl hsize rfl hd hf (W := W) (by show 2 * 0 + _ ≤ _; omega) hlo
  exact Goes.via st' (k T' h' L X' e' N' K' V')
theorem own_retN (X : Stand p l e R s m args below meth c T locs cells slots) (hx : p.tables.exec = Jvm.exec) {t : FieldType} {z : Int32} (N : Fr n0 locs) (hlk : meth.locks = false) (hc : cells ≤ kc) (hs : slots ≤ ks) (hret : meth.sig.returnType = some t) (ht : t = .boolean ∨ t = .byte ∨ t = .char ∨ t = .short) (hd : decode c.code pc = .ok (.ireturn, 1)) (hq : Q (some (.int (nar t z))) T.heap) : Goes p e below (fun o t L => FrameEnd s o t L kc ks) n0 Q (T.setTop (mkF m pc Ls (.int z :: st))) :=
  Goes.ret X N hlk (fun h => by rw [hret] at h; cases h) hc hs hq (fun fs hr => retN X hx hret ht hd hr)
theorem own_retI (X : Stand p l e R s m args below meth c T locs cells slots) (hx : p.tables.exec = Jvm.exec) {z : Int32} (N : Fr n0 locs) (hlk : meth.locks = false) (hc : cells ≤ kc) (hs : slots ≤ ks) (hret : meth.sig.returnType = some .int) (hd : decode c.code pc = .ok (.ireturn, 1)) (hq : Q (some (.int z)) T.heap) : Goes p e below (fun o t L => FrameEnd s o t L kc ks) n0 Q (T.setTop (mkF m pc Ls (.int z :: st))) :=
  Goes.ret X N hlk (fun h => by rw [hret] at h; cases h) hc hs hq (fun fs hr => retOut X hx hret rfl (Or.inl ⟨rfl, Or.inl rfl, _, rfl⟩) hd hr)
theorem own_retJ (X : Stand p l e R s m args below meth c T locs cells slots) (hx : p.tables.exec = Jvm.exec) {z : Int64} (N : Fr n0 locs) (hlk : meth.locks = false) (hc : cells ≤ kc) (hs : slots ≤ ks) (hret : meth.sig.returnType = some .long) (hd : decode c.code pc = .ok (.lreturn, 1)) (hq : Q (some (.long z)) T.heap) : Goes p e below (fun o t L => FrameEnd s o t L kc ks) n0 Q (T.setTop (mkF m pc Ls (.long z :: st))) :=
  Goes.ret X N hlk (fun h => by rw [hret] at h; cases h) hc hs hq (fun fs hr => retOut X hx hret rfl (Or.inr (Or.inl ⟨rfl, rfl, _, rfl⟩)) hd hr)
theorem own_retR (X : Stand p l e R s m args below meth c T locs cells slots) (hx : p.tables.exec = Jvm.exec) {v : Value} {t : FieldType} (N : Fr n0 locs) (hlk : meth.locks = false) (hc : cells ≤ kc) (hs : slots ≤ ks) (hret : meth.sig.returnType = some t) (ht : t.isReference = true) (hv : v.isRef = true) (hn : narrow t v = v) (hd : decode c.code pc = .ok (.areturn, 1)) (hq : Q (some v) T.heap) : Goes p e below (fun o t L => FrameEnd s o t L kc ks) n0 Q (T.setTop (mkF m pc Ls (v :: st))) :=
  Goes.ret X N hlk (fun h => by rw [hret] at h; cases h) hc hs hq (fun fs hr => retOut X hx hret hn (Or.inr (Or.inr (Or.inr (Or.inr ⟨rfl, ht, hv⟩)))) hd hr)
theorem own_retV (X : Stand p l e R s m args below meth c T locs cells slots) (hx : p.tables.exec = Jvm.exec) (N : Fr n0 locs) (hlk : meth.locks = false) (hc : cells ≤ kc) (hs : slots ≤ ks) (hret : meth.sig.returnType = none) (hd : decode c.code pc = .ok (.return_, 1)) (hq : Q none T.heap) : Goes p e below (fun o t L => FrameEnd s o t L kc ks) n0 Q (T.setTop (mkF m pc Ls [])) :=
  Goes.ret X N hlk (fun _ => rfl) hc hs hq (fun fs hr => X.returnOut hx hret hd hr)
theorem own_bz {P : Prop} [Decidable P] (h : ¬ P) : (if P then (1 : Int32) else (0 : Int32)) = (0 : Int32) := if_neg h
theorem own_bnz {P : Prop} [Decidable P] (h : ¬ ¬ P) : ¬ ((if P then (1 : Int32) else (0 : Int32)) = (0 : Int32)) := by rw [if_pos (Classical.not_not.mp h)]; decide
theorem own_nb (P : Prop) [Decidable P] : narrow .boolean (.int (if P then (1 : Int32) else (0 : Int32))) = (.int (if P then (1 : Int32) else (0 : Int32))) ∧ fits .boolean (.int (if P then (1 : Int32) else (0 : Int32))) = true := by
  by_cases h : P
  · rw [if_pos h]; exact ⟨rfl, rfl⟩
  · rw [if_neg h]; exact ⟨rfl, rfl⟩
theorem own_narb (P : Prop) [Decidable P] : nar .boolean (if P then (1 : Int32) else (0 : Int32)) = (if P then (1 : Int32) else (0 : Int32)) := by
  by_cases h : P
  · rw [if_pos h]; rfl
  · rw [if_neg h]; rfl
theorem own_eq {args : Array Value} {s s' : State} {o : Option Outcome} {idx : List Nat} {a b : Term} {v : Value} (h : (Jvm.Cond.eq a b).value args s o s' idx = some true) (hb : b.eval args s o idx s' = some v) : a.eval args s o idx s' = some v := by
  simp only [Cond.value, hb] at h
  cases ha : a.eval args s o idx s' with
  | none => simp [ha] at h
  | some w => rw [ha] at h; cases w <;> cases v <;> simp_all
theorem own_len {args : Array Value} {t : Term} {a : Addr} {cl : Cell} {ty : FieldType} {z : Int32} (ev : t.eval args Z none [] Z = some (.ref a)) (A : Arr Z Z.heap a cl ty) (hl : (Term.length t).eval args Z none [] Z = some (.int z)) : cl.slots.size < 2 ^ 31 ∧ cl.slots.size.toInt32 = z := by
  have ha : Z.arrayAt? a = some cl := A.fin (Vm.Alike.refl _)
  by_cases q : cl.slots.size < 2 ^ 31
  · have h2 := (len_f ev ha q).symm.trans hl
    exact ⟨q, by cases h2; rfl⟩
  · simp [Term.eval, ev, ha, q] at hl
theorem own_arr {args : Array Value} {t : Term} {a : Addr} {cl : Cell} {ty : FieldType} {z : Int32} {vs : List Value} {dv : Value} (hf : Fit Z) (ev : t.eval args Z none [] Z = some (.ref a)) (A : Arr Z Z.heap a cl ty) (hl : (Term.length t).eval args Z none [] Z = some (.int z)) (hz : ¬ z < 0) (hn : z.toNatClampNeg = vs.length) (H : HasL cl 0 vs) : Arv Z Z.heap a cl.cls ty z vs dv :=
  Arv.start hf A (own_len ev A hl).1 (own_len ev A hl).2 hz hn H
theorem own_fold {f : Nat → Option Bool} : ∀ (L : List Nat) (acc : Option Bool), L.foldl (fun acc i => match acc with | some true => f i | x => x) acc = some true → acc = some true ∧ ∀ i ∈ L, f i = some true
  | [], acc, h => ⟨h, fun _ q => nomatch q⟩
  | i :: L, acc, h => by
    obtain ⟨h1, h2⟩ := own_fold L _ h
    have h3 : acc = some true := by rcases acc with _ | (_ | _) <;> simp_all
    subst h3
    exact ⟨rfl, fun j hj => by rcases List.mem_cons.mp hj with rfl | q; exact h1; exact h2 j q⟩
theorem own_all {args : Array Value} {first s : State} {o : Option Outcome} {idx : List Nat} {t : Term} {c : Jvm.Cond} {a : Addr} {cell : Cell} (h : (Jvm.Cond.all t c).value args first o s idx = some true) (ev : t.eval args first o idx s = some (.ref a)) (ha : s.arrayAt? a = some cell) : ∀ i, i < cell.slots.size → c.value args first o s (i :: idx) = some true := by
  intro i hi
  simp only [Cond.value, ev, ha] at h
  exact (own_fold _ _ h).2 i (List.mem_range.mpr hi)
theorem own_exaI {args : Array Value} {t : Term} {C : String} {idx : List Nat} (h : (Jvm.Cond.exactly t C).value args Z none Z idx = some true) : ∃ b, t.eval args Z none idx Z = some (.ref b) ∧ Exa Z Z.heap b C := by
  obtain ⟨a, c, cell, k, e1, e2, e3, e4, e5, e6, e7⟩ := Cond.exactly_spec (beq_iff_eq.mpr h : (Jvm.Cond.exactly t C).holds args Z none Z idx = true)
  subst e6
  exact ⟨a, e1, cell, k, e3, e2, e4, e5, e7⟩
theorem own_NSroot {O K : String} {nn : Nat} (w : (Jvm.Cond.noSuperclass O).before a0 Z = true) (wi : (Jvm.Cond.instantiable K nn).before a0 Z = true) (hn : O ≠ K) : NS Z O K := by
  obtain ⟨c, k, h1, h2, h3, -, -⟩ := Cond.noSuperclass_spec w
  obtain ⟨t, kt, g1, -⟩ := Cond.instantiable_spec wi
  have ne := ids_ne h1 g1 hn
  refine ⟨c, t, h1, g1, fun fuel => ?_⟩
  cases fuel with
  | zero => rfl
  | succ f => simp [Vm.isSubclassAux, ne, h2, h3]
theorem own_NSno {C S K : String} {nn : Nat} (w : (Jvm.Cond.superclass C S).before a0 Z = true) (wi : (Jvm.Cond.instantiable K nn).before a0 Z = true) (n : NS Z C K) (hn : C ≠ K) : ∃ c t, Z.vm.findClass C = some c ∧ Z.vm.findClass K = some t ∧ Z.vm.assignable c t = false := by
  obtain ⟨c, t, h0, g0, n3⟩ := n
  obtain ⟨p, k, kp, h1, h2, h3, h4, h5, -, h7⟩ := Cond.superclass_spec h0 w
  obtain ⟨t', k', g1, g2, g5, g7, -⟩ := Cond.instantiable_spec wi
  cases g0.symm.trans g1
  rw [Bool.or_eq_false_iff] at g7
  have ne := ids_ne h0 g0 hn
  refine ⟨c, t, h0, g0, ?_⟩
  show Z.vm.assignableAux (255 + 1) c t = false
  simp [Vm.assignableAux, ne, h2, g2, h5, g5, g7.1, Vm.isSubclass, n3]
end OwnKit
section OwnWide
variable {p : Program} {l : Launch} {e : Env} {R : Room} {s : State} {m : MethodId} {args : Array Value} {below : List Frame} {meth : Method} {c : Code} {T : State} {locs : List Loc} {cells slots : Nat} {Z : State} {a0 : Array Value} {h : Heap} {n0 kc ks k0 : Nat} {vm0 : Vm} {FE : Outcome → State → List Loc → Prop} {Q : Option Value → Heap → Prop} {pc pc' : Nat} {Ls Ls' : Array Slot} {st : List Value}
/-- the contract of a body that may load String constants -/
def MeetsW (l : Launch) (y : MethodName) (bytes : ByteArray) (maxL : Nat) (ret : Option FieldType) (ws : List Jvm.Cond) (rm : Room) (kc ks : Nat) (Z : State) (as' : Array Value) (h : Heap) (n0 : Nat) (Q : Option Value → Heap → Prop) : Prop :=
  MetFree l y (head1 (Jvm.Cond.code y bytes maxL ret :: ws) rm) (fun a U => a = as' ∧ Z.Warmed39 U.vm ∧ U.heap = h) (fun _ _ _ _ _ => True) (fun _ U o U' => ∃ v L, o = .returned v ∧ (Fr n0 L ∧ Q v U'.heap) ∧ ReturnedEndW U o U' L kc ks)
theorem MeetsW.of {y : MethodName} {bytes : ByteArray} {maxL : Nat} {ret : Option FieldType} {ws : List Jvm.Cond} {rm : Room} {as' : Array Value} (hx : plainFor y = true) {F : MethodId → JFrame} (hF : ∀ m, entryFrame m as' maxL = F m)
    (body : ∀ p e s m below meth c T, p.tables.exec = Jvm.exec → c.code = bytes → c.maxLocals = maxL → s.vm.findClass y.cls = some m.cls → meth.name = y.name → meth.sig.returnType = ret → meth.locks = false → Z.Warmed39 s.vm → s.Since s.vm 0 →
      Stand p l e rm (s.setVm s.vm) m as' below meth c T [] 0 0 → T.heap = h → Goes p e below (fun o t L => ReturnedEndW s o t L kc ks) n0 Q (T.setTop (F m))) :
    MeetsW l y bytes maxL ret ws rm kc ks Z as' h n0 Q := by
  refine MetFree.of_bodySF hx hisR ?_
  intro p e s m args below meth c s₁ Bd hml hP hK
  obtain ⟨rfl, hZ, hh⟩ := hP
  have X0 : Stand p l e rm s m args below meth c s₁ [] 0 0 := Stand.of_body Bd
  have e0 : s₁.heap = h := by rw [← hh, Bd.state]; rfl
  obtain ⟨s₂, o, k, r⟩ := body p e s m below meth c s₁ Bd.exec Bd.bytes hml (findClass_of_methodNamed Bd.named) (name_of_methodNamed Bd.named Bd.method).1 Bd.returns Bd.notSynchronized hZ ((State.WarmedH.refl s).since 0) X0 e0
  exact ⟨s₂, o, castTop (hF m) k, r⟩
theorem Goes.retW {S : State} {v : Option Value} (X : Stand p l e R (s.setVm vm0) m args below meth c T locs cells slots) (hS : s.Since vm0 k0) (hk : k0 ≤ T.heap.size) (N : Fr n0 locs) (hlk : meth.locks = false) (hv : meth.sig.returnType = none → v = none) (hc : cells ≤ kc) (hs : slots ≤ ks) (hq : Q v T.heap)
    (f : ∀ fs, (∀ (f : JFrame) (acts : List Action), f.method = m → f.locked = none → f.entered = [] → (doReturn e (T.setTop f) acts v).1 = T.setFrames fs) → Steps p.tables e below S (T.setFrames fs)) : Goes p e below (fun o t L => ReturnedEndW s o t L kc ks) n0 Q S := by
  obtain ⟨fs, hr, hrun, hended, hE⟩ := X.leaveW hS hk hv hlk
  exact ⟨_, _, f fs hr, hrun, hended, _, _, rfl, ⟨N, hq⟩, hE.1, hE.2.1, hE.2.2.1, hE.2.2.2.mono hc hs⟩
theorem own_retNW (X : Stand p l e R (s.setVm vm0) m args below meth c T locs cells slots) (hx : p.tables.exec = Jvm.exec) {t : FieldType} {z : Int32} (hS : s.Since vm0 k0) (hk : k0 ≤ T.heap.size) (N : Fr n0 locs) (hlk : meth.locks = false) (hc : cells ≤ kc) (hs : slots ≤ ks) (hret : meth.sig.returnType = some t) (ht : t = .boolean ∨ t = .byte ∨ t = .char ∨ t = .short) (hd : decode c.code pc = .ok (.ireturn, 1)) (hq : Q (some (.int (nar t z))) T.heap) : Goes p e below (fun o t L => ReturnedEndW s o t L kc ks) n0 Q (T.setTop (mkF m pc Ls (.int z :: st))) :=
  Goes.retW X hS hk N hlk (fun h => by rw [hret] at h; cases h) hc hs hq (fun fs hr => retN X hx hret ht hd hr)
theorem own_retIW (X : Stand p l e R (s.setVm vm0) m args below meth c T locs cells slots) (hx : p.tables.exec = Jvm.exec) {z : Int32} (hS : s.Since vm0 k0) (hk : k0 ≤ T.heap.size) (N : Fr n0 locs) (hlk : meth.locks = false) (hc : cells ≤ kc) (hs : slots ≤ ks) (hret : meth.sig.returnType = some .int) (hd : decode c.code pc = .ok (.ireturn, 1)) (hq : Q (some (.int z)) T.heap) : Goes p e below (fun o t L => ReturnedEndW s o t L kc ks) n0 Q (T.setTop (mkF m pc Ls (.int z :: st))) :=
  Goes.retW X hS hk N hlk (fun h => by rw [hret] at h; cases h) hc hs hq (fun fs hr => retOut X hx hret rfl (Or.inl ⟨rfl, Or.inl rfl, _, rfl⟩) hd hr)
theorem own_retRW (X : Stand p l e R (s.setVm vm0) m args below meth c T locs cells slots) (hx : p.tables.exec = Jvm.exec) {v : Value} {t : FieldType} (hS : s.Since vm0 k0) (hk : k0 ≤ T.heap.size) (N : Fr n0 locs) (hlk : meth.locks = false) (hc : cells ≤ kc) (hs : slots ≤ ks) (hret : meth.sig.returnType = some t) (ht : t.isReference = true) (hv : v.isRef = true) (hn : narrow t v = v) (hd : decode c.code pc = .ok (.areturn, 1)) (hq : Q (some v) T.heap) : Goes p e below (fun o t L => ReturnedEndW s o t L kc ks) n0 Q (T.setTop (mkF m pc Ls (v :: st))) :=
  Goes.retW X hS hk N hlk (fun h => by rw [hret] at h; cases h) hc hs hq (fun fs hr => retOut X hx hret hn (Or.inr (Or.inr (Or.inr (Or.inr ⟨rfl, ht, hv⟩)))) hd hr)
theorem own_retVW (X : Stand p l e R (s.setVm vm0) m args below meth c T locs cells slots) (hx : p.tables.exec = Jvm.exec) (hS : s.Since vm0 k0) (hk : k0 ≤ T.heap.size) (N : Fr n0 locs) (hlk : meth.locks = false) (hc : cells ≤ kc) (hs : slots ≤ ks) (hret : meth.sig.returnType = none) (hd : decode c.code pc = .ok (.return_, 1)) (hq : Q none T.heap) : Goes p e below (fun o t L => ReturnedEndW s o t L kc ks) n0 Q (T.setTop (mkF m pc Ls [])) :=
  Goes.retW X hS hk N hlk (fun _ => rfl) hc hs hq (fun fs hr => X.returnOut hx hret hd hr)
theorem own_ldcS (X : Stand p l e R (s.setVm vm0) m args below meth c T locs cells slots) (hx : p.tables.exec = Jvm.exec) (hZ : Z.Warmed39 (s.setVm vm0).vm) {own : String} {index : Nat} (hown : (s.setVm vm0).vm.findClass own = some m.cls) (hS : s.Since vm0 k0) (hk : k0 ≤ h.size) {text : String} (w : (Jvm.Cond.stringLink own index text).before a0 Z = true) (wS : ∀ a ∈ Bundle.stringAtoms, a.before a0 Z = true) (eT : T.heap = h) {n : Nat} (hd : decode c.code pc = .ok (.ldc index, 2)) (hn : 4 * text.toList.length ≤ n) (hbig : n ≤ 536870912) (hc : cells + 2 ≤ R.cells) (hl : slots + (n + 4) ≤ R.slots)
    (k : ∀ a T' h' k1, Stand p l e R (s.setVm T'.vm) m args below meth c T' locs (cells + 2) (slots + (n + 4)) → s.Since T'.vm k1 → k1 ≤ h'.size → Z.Warmed39 (s.setVm T'.vm).vm → (s.setVm T'.vm).vm.findClass own = some m.cls → T'.heap = h' → Ext h h' → Goes p e below FE n0 Q (T'.setTop (mkF m (pc + 2) Ls (.ref a :: st)))) : Goes p e below FE n0 Q (T.setTop (mkF m pc Ls st)) := by
  obtain ⟨a, T', h', k1, X', e', E', S', q1, Z', o', st'⟩ := ldcS X hx hZ hown w wS eT hS hk (g := mkF m pc Ls st) rfl hd hn hbig hc hl
  exact Goes.via st' (k a T' h' k1 X' S' q1 Z' o' e' E')
theorem own_callSW (X : Stand p l e R (s.setVm vm0) m args below meth c T locs cells slots) (hx : p.tables.exec = Jvm.exec) (hZ : Z.Warmed39 (s.setVm vm0).vm) {own : String} {index : Nat} (hown : (s.setVm vm0).vm.findClass own = some m.cls) (hS : s.Since vm0 k0) (hk : k0 ≤ h.size) {y : MethodName} {bytes : ByteArray} {maxL : Nat} {ret : Option FieldType} {rm : Room} {W : Nat} {Q' : Option Value → Heap → Prop} (w1 : (Jvm.Cond.methodLink own index y).before a0 Z = true) (w2 : (Jvm.Cond.static y).before a0 Z = true) (w3 : (Jvm.Cond.initialized y.cls).before a0 Z = true) (w4 : (Jvm.Cond.code y bytes maxL ret).before a0 Z = true) (hy : y.cls ≠ "java/lang/invoke/MethodHandle" ∧ y.cls ≠ "java/lang/invoke/VarHandle") (hf : rm.frames + 1 ≤ R.frames) (hl : W + (maxL + 11) + rm.locals ≤ R.locals) (N : Fr n0 locs) (eT : T.heap = h) (hsize : Ls.size = c.maxLocals) {argsL rest : List Value} (hlen : ∀ sig, parseMethodDescriptor y.desc = some sig → argsL.length = sig.parameters.length) (hW : (rest.map fun v => v.category).sum ≤ W) (hc : cells + rm.cells ≤ R.cells) (hs : slots + rm.slots ≤ R.slots) (M : MeetsW l y bytes maxL ret [] rm rm.cells rm.slots Z argsL.toArray h n0 Q') (hst : st = argsL.reverse ++ rest) (hd : decode c.code pc = .ok (.invokestatic index, 3))
    (k : ∀ v T' locs' k1, Stand p l e R (s.setVm T'.vm) m args below meth c T' locs' (cells + rm.cells) (slots + rm.slots) → s.Since T'.vm k1 → k1 ≤ T'.heap.size → Z.Warmed39 (s.setVm T'.vm).vm → (s.setVm T'.vm).vm.findClass own = some m.cls → Fr n0 locs' → Q' v T'.heap → Goes p e below FE n0 Q (T'.setTop (mkF m (pc + 3) Ls (v.toList ++ rest)))) : Goes p e below FE n0 Q (T.setTop (mkF m pc Ls st)) := by
  subst hst
  obtain ⟨v, _, ⟨T', L', k', n'⟩, -, X', h2, hg, ⟨Lc, hQ, l1, l2, l3⟩, st'⟩ := callSS X hx (y := y) hown (mvT hZ w1) (mvT hZ w2) (mvT hZ w3) (mvT hZ w4) hy (backOfS (W := W) (Q := fun v h L => Fr n0 L ∧ Q' v h) M hZ w4 w3 hf hl) (g := mkF m pc Ls (argsL.reverse ++ rest)) rfl hsize (argsL := argsL) (rest := rest) hlen rfl (by show 2 * 0 + _ ≤ _; omega) hd (fun _ _ => ⟨rfl, eT, hc, hs⟩)
  dsimp only [Pt.U, Pt.locs, Pt.cells, Pt.slots] at X' l1 l2 l3 st' hQ h2 hg
  subst l1 l2 l3
  obtain ⟨X'', S'', Z'', o''⟩ := rebS hS hk X' h2 (eT ▸ hg) hZ hown
  exact Goes.via (fun _ k => st'.trans k) (k v T' _ _ X'' S'' (Nat.le_refl _) Z'' o'' (Fr.app N hQ.1) hQ.2)
theorem own_virtualW (X : Stand p l e R (s.setVm vm0) m args below meth c T locs cells slots) (hx : p.tables.exec = Jvm.exec) (hZ : Z.Warmed39 (s.setVm vm0).vm) {own : String} {index : Nat} (hown : (s.setVm vm0).vm.findClass own = some m.cls) (hS : s.Since vm0 k0) (hk : k0 ≤ h.size) {y : MethodName} {bytes : ByteArray} {maxL : Nat} {ret : Option FieldType} {rm : Room} {W : Nat} {Q' : Option Value → Heap → Prop} {z : MethodName} {C : String} (w1 : (Jvm.Cond.methodLink own index y).before a0 Z = true) (w2 : (Jvm.Cond.declares y).before a0 Z = true) (hnf : NotFace (s.setVm vm0) y) (w5 : (Jvm.Cond.selects C y z).before a0 Z = true) (w6 : (Jvm.Cond.instanceMethod z).before a0 Z = true) (w3 : (Jvm.Cond.initialized z.cls).before a0 Z = true) (w4 : (Jvm.Cond.code z bytes maxL ret).before a0 Z = true) {a : Addr} (E : Exa Z h a C) (hy : y.cls ≠ "java/lang/invoke/MethodHandle" ∧ y.cls ≠ "java/lang/invoke/VarHandle") (hf : rm.frames + 1 ≤ R.frames) (hl : W + (maxL + 11) + rm.locals ≤ R.locals) (N : Fr n0 locs) (eT : T.heap = h) (hsize : Ls.size = c.maxLocals) {argsL rest : List Value} (hlen : ∀ sig, parseMethodDescriptor y.desc = some sig → argsL.length = sig.parameters.length) (hW : (rest.map fun v => v.category).sum ≤ W) (hc : cells + rm.cells ≤ R.cells) (hs : slots + rm.slots ≤ R.slots) (M : MeetsW l z bytes maxL ret [] rm rm.cells rm.slots Z (.ref a :: argsL).toArray h n0 Q') (hst : st = argsL.reverse ++ .ref a :: rest) (hd : decode c.code pc = .ok (.invokevirtual index, 3))
    (k : ∀ v T' locs' k1, Stand p l e R (s.setVm T'.vm) m args below meth c T' locs' (cells + rm.cells) (slots + rm.slots) → s.Since T'.vm k1 → k1 ≤ T'.heap.size → Z.Warmed39 (s.setVm T'.vm).vm → (s.setVm T'.vm).vm.findClass own = some m.cls → Fr n0 locs' → Q' v T'.heap → Goes p e below FE n0 Q (T'.setTop (mkF m (pc + 3) Ls (v.toList ++ rest)))) : Goes p e below FE n0 Q (T.setTop (mkF m pc Ls st)) := by
  subst hst
  obtain ⟨cq, kq, qa, qb, qc⟩ := isOf hZ eT E
  obtain ⟨v, _, ⟨T', L', k', n'⟩, -, X', h2, hg, ⟨Lc, hQ, l1, l2, l3⟩, st'⟩ := X.virtualBackS hx (y := y) (z := z) hown (mvT hZ w1) (mvT hZ w2) hnf (mvT hZ w5) (mvT hZ w6) hy (backOfS (W := W) (Q := fun v h L => Fr n0 L ∧ Q' v h) M hZ w4 w3 hf hl) qa qc (g := mkF m pc Ls (argsL.reverse ++ .ref a :: rest)) rfl hsize (Steps.refl _) (argsL := argsL) (rest := rest) hlen rfl (by show 2 * 0 + _ ≤ _; omega) hd (fun _ _ => ⟨rfl, eT, hc, hs⟩)
  dsimp only [Pt.U, Pt.locs, Pt.cells, Pt.slots] at X' l1 l2 l3 st' hQ h2 hg
  subst l1 l2 l3
  obtain ⟨X'', S'', Z'', o''⟩ := rebS hS hk X' h2 (eT ▸ hg) hZ hown
  exact Goes.via (fun _ k => st'.trans k) (k v T' _ _ X'' S'' (Nat.le_refl _) Z'' o'' (Fr.app N hQ.1) hQ.2)
end OwnWide
section OwnHeld
variable {p : Program} {l : Launch} {e : Env} {R : Room} {s : State} {m : MethodId} {args : Array Value} {below : List Frame} {meth : Method} {c : Code} {T : State} {locs : List Loc} {cells slots : Nat} {Z : State} {a0 : Array Value} {h h' h0 : Heap} {n0 kc ks k0 : Nat} {vm0 : Vm} {FE : Outcome → State → List Loc → Prop} {Q : Option Value → Heap → Prop} {pc pc' : Nat} {Ls Ls' : Array Slot} {st : List Value} {EL : List (String × Nat)}
/-- x is a String of the signs cs, each 0 to 255 -/
def IsStr (Z : State) (h : Heap) (x : Addr) (cs : List Int32) : Prop := ∃ (t : Addr) (kb : ClassId), Exa Z h x "java/lang/String" ∧ Fld Z h x "java/lang/String" "value" "[B" (.ref t) ∧ Fld Z h x "java/lang/String" "coder" "B" (.int 0) ∧
  Arv Z h t kb .byte (Int32.ofNat cs.length) ((cs.map fun c => c.toInt8.toInt32).map Value.int) (.int 0) ∧ cs.length ≤ 4000 ∧ ∀ c ∈ cs, ¬ c < 0 ∧ ¬ (255 : Int32) < c
theorem IsStr.ext {x : Addr} {cs : List Int32} (S : IsStr Z h x cs) (E : Ext h h') : IsStr Z h' x cs := by
  obtain ⟨t, kb, a, b, c, d, r⟩ := S
  exact ⟨t, kb, a.ext E, b.ext E, c.ext E, d.ext E, r⟩
theorem IsStr.keep0 {x : Addr} {cs : List Int32} (S : IsStr Z h x cs) (K : Keep h h' []) : IsStr Z h' x cs := by
  obtain ⟨t, kb, a, b, c, d, r⟩ := S
  exact ⟨t, kb, a.keep K, b.keep K nin0, c.keep K nin0, d.keep K nin0, r⟩
theorem IsStr.exa {x : Addr} {cs : List Int32} (S : IsStr Z h x cs) : Exa Z h x "java/lang/String" := by
  obtain ⟨t, kb, a, r⟩ := S
  exact a
/-- a local's place that holds nothing or a word of one place -/
def Pl (x : Slot) : Prop := x = .unset ∨ (∃ b, x = .val (.ref b)) ∨ (∃ i, x = .val (.int i))
def MeetsH (l : Launch) (y : MethodName) (bytes : ByteArray) (maxL : Nat) (ret : Option FieldType) (ws : List Jvm.Cond) (rm : Room) (kc ks : Nat) (Z : State) (EL : List (String × Nat)) (as' : Array Value) (h : Heap) (n0 : Nat) (Q : Option Value → Heap → Prop) : Prop :=
  MetFree l y (head1 (Jvm.Cond.code y bytes maxL ret :: ws) rm) (fun a U => a = as' ∧ Z.Warmed39 U.vm ∧ U.heap = h ∧ CHv Z EL U.vm h) (fun _ _ _ _ _ => True) (fun _ U o U' => ∃ v L, o = .returned v ∧ (Fr n0 L ∧ Q v U'.heap) ∧ CHr Z EL U.vm U.heap U'.vm U'.heap ∧ ReturnedEndW U o U' L kc ks)
theorem MeetsH.of {y : MethodName} {bytes : ByteArray} {maxL : Nat} {ret : Option FieldType} {ws : List Jvm.Cond} {rm : Room} {as' : Array Value} (hx : plainFor y = true) {F : MethodId → JFrame} (hF : ∀ m, entryFrame m as' maxL = F m)
    (body : ∀ p e s m below meth c T, p.tables.exec = Jvm.exec → c.code = bytes → c.maxLocals = maxL → s.vm.findClass y.cls = some m.cls → meth.name = y.name → meth.sig.returnType = ret → meth.locks = false → Z.Warmed39 s.vm → s.Since s.vm 0 → CHv Z EL s.vm h →
      Stand p l e rm (s.setVm s.vm) m as' below meth c T [] 0 0 → T.heap = h → Goes p e below (fun o t L => CHr Z EL s.vm h t.vm t.heap ∧ ReturnedEndW s o t L kc ks) n0 Q (T.setTop (F m))) :
    MeetsH l y bytes maxL ret ws rm kc ks Z EL as' h n0 Q := by
  refine MetFree.of_bodySF hx hisR ?_
  intro p e s m args below meth c s₁ Bd hml hP hK
  obtain ⟨rfl, hZ, hh, hC⟩ := hP
  subst hh
  have X0 : Stand p l e rm s m args below meth c s₁ [] 0 0 := Stand.of_body Bd
  have e0 : s₁.heap = s.heap := by rw [Bd.state]; rfl
  obtain ⟨s₂, o, k, r⟩ := body p e s m below meth c s₁ Bd.exec Bd.bytes hml (findClass_of_methodNamed Bd.named) (name_of_methodNamed Bd.named Bd.method).1 Bd.returns Bd.notSynchronized hZ ((State.WarmedH.refl s).since 0) hC X0 e0
  exact ⟨s₂, o, castTop (hF m) k, r⟩
theorem Goes.retH {S : State} {v : Option Value} (X : Stand p l e R (s.setVm vm0) m args below meth c T locs cells slots) (hS : s.Since vm0 k0) (hk : k0 ≤ T.heap.size) (hZ : Z.Warmed39 vm0) (hEL : EW Z a0 EL) (C : CHr Z EL s.vm h0 vm0 T.heap) (N : Fr n0 locs) (hlk : meth.locks = false) (hv : meth.sig.returnType = none → v = none) (hc : cells ≤ kc) (hs : slots ≤ ks) (hq : Q v T.heap)
    (f : ∀ fs, (∀ (f : JFrame) (acts : List Action), f.method = m → f.locked = none → f.entered = [] → (doReturn e (T.setTop f) acts v).1 = T.setFrames fs) → Steps p.tables e below S (T.setFrames fs)) : Goes p e below (fun o t L => CHr Z EL s.vm h0 t.vm t.heap ∧ ReturnedEndW s o t L kc ks) n0 Q S := by
  obtain ⟨fs, hr, hrun, hended, hE⟩ := X.leaveW hS hk hv hlk
  have C' := C.trans (CHv.at X hZ hEL C.1)
  exact ⟨_, _, f fs hr, hrun, hended, _, _, rfl, ⟨N, hq⟩, C', hE.1, hE.2.1, hE.2.2.1, hE.2.2.2.mono hc hs⟩
theorem own_retNH (X : Stand p l e R (s.setVm vm0) m args below meth c T locs cells slots) (hx : p.tables.exec = Jvm.exec) {t : FieldType} {z : Int32} (hS : s.Since vm0 k0) (hk : k0 ≤ T.heap.size) (hZ : Z.Warmed39 vm0) (hEL : EW Z a0 EL) (C : CHr Z EL s.vm h0 vm0 T.heap) (N : Fr n0 locs) (hlk : meth.locks = false) (hc : cells ≤ kc) (hs : slots ≤ ks) (hret : meth.sig.returnType = some t) (ht : t = .boolean ∨ t = .byte ∨ t = .char ∨ t = .short) (hd : decode c.code pc = .ok (.ireturn, 1)) (hq : Q (some (.int (nar t z))) T.heap) : Goes p e below (fun o t L => CHr Z EL s.vm h0 t.vm t.heap ∧ ReturnedEndW s o t L kc ks) n0 Q (T.setTop (mkF m pc Ls (.int z :: st))) :=
  Goes.retH X hS hk hZ hEL C N hlk (fun h => by rw [hret] at h; cases h) hc hs hq (fun fs hr => retN X hx hret ht hd hr)
theorem own_ldcH (X : Stand p l e R (s.setVm vm0) m args below meth c T locs cells slots) (hx : p.tables.exec = Jvm.exec) (hZ : Z.Warmed39 (s.setVm vm0).vm) {own : String} {index : Nat} (hown : (s.setVm vm0).vm.findClass own = some m.cls) (hS : s.Since vm0 k0) (hk : k0 ≤ h.size) {text : String} (w : (Jvm.Cond.stringLink own index text).before a0 Z = true) (wS : ∀ a ∈ Bundle.stringAtoms, a.before a0 Z = true) (hEL : EW Z a0 EL) (hmem : (own, index) ∈ EL) (H : CHv Z EL vm0 h) (eT : T.heap = h) {cs : List Int32} (ht : (∀ c ∈ text.toList, c.toNat < 256) ∧ text.toList.map (fun c => Value.int (Jvm.Lit.byteI c.toNat.toUInt16)) = (cs.map fun c => c.toInt8.toInt32).map Value.int) (hz : ¬ Int32.ofNat cs.length < 0 ∧ (Int32.ofNat cs.length).toNatClampNeg = cs.length) (h4 : cs.length ≤ 4000) (h5 : ∀ c ∈ cs, ¬ c < 0 ∧ ¬ (255 : Int32) < c) {n : Nat} (hd : decode c.code pc = .ok (.ldc index, 2)) (hn : 4 * text.toList.length ≤ n) (hbig : n ≤ 536870912) (hc : cells + 2 ≤ R.cells) (hl : slots + (n + 4) ≤ R.slots)
    (k : ∀ a T' h' k1, Stand p l e R (s.setVm T'.vm) m args below meth c T' locs (cells + 2) (slots + (n + 4)) → s.Since T'.vm k1 → k1 ≤ h'.size → Z.Warmed39 (s.setVm T'.vm).vm → (s.setVm T'.vm).vm.findClass own = some m.cls → T'.heap = h' → Ext h h' → CHr Z EL vm0 h T'.vm h' → IsStr Z h' a cs → Goes p e below FE n0 Q (T'.setTop (mkF m (pc + 2) Ls (.ref a :: st)))) : Goes p e below FE n0 Q (T.setTop (mkF m pc Ls st)) := by
  obtain ⟨a, T', h', k1, b, kb, X', e', E', S', q1, Z', o', f1, f2, f3, f4, -, -, hC, -, -, st'⟩ := ldcCH X hx hZ hown w wS eT hS hk hEL hmem H ht hz.1 (by rw [hz.2]; simp) (g := mkF m pc Ls st) rfl hd hn hbig hc hl
  exact Goes.via st' (k a T' h' k1 X' S' q1 Z' o' e' E' hC ⟨b, kb, f1, f3, f2, f4, h4, h5⟩)
theorem own_virtualH (X : Stand p l e R (s.setVm vm0) m args below meth c T locs cells slots) (hx : p.tables.exec = Jvm.exec) (hZ : Z.Warmed39 (s.setVm vm0).vm) {own : String} {index : Nat} (hown : (s.setVm vm0).vm.findClass own = some m.cls) (hS : s.Since vm0 k0) (hk : k0 ≤ h.size) {y : MethodName} {bytes : ByteArray} {maxL : Nat} {ret : Option FieldType} {rm : Room} {W : Nat} {Q' : Option Value → Heap → Prop} {z : MethodName} {C : String} (w1 : (Jvm.Cond.methodLink own index y).before a0 Z = true) (w2 : (Jvm.Cond.declares y).before a0 Z = true) (hnf : NotFace (s.setVm vm0) y) (w5 : (Jvm.Cond.selects C y z).before a0 Z = true) (w6 : (Jvm.Cond.instanceMethod z).before a0 Z = true) (w3 : (Jvm.Cond.initialized z.cls).before a0 Z = true) (w4 : (Jvm.Cond.code z bytes maxL ret).before a0 Z = true) {a : Addr} (E : Exa Z h a C) (hEL : EW Z a0 EL) (H : CHv Z EL vm0 h) (hy : y.cls ≠ "java/lang/invoke/MethodHandle" ∧ y.cls ≠ "java/lang/invoke/VarHandle") (hf : rm.frames + 1 ≤ R.frames) (hl : W + (maxL + 11) + rm.locals ≤ R.locals) (N : Fr n0 locs) (eT : T.heap = h) (hsize : Ls.size = c.maxLocals) {argsL rest : List Value} (hlen : ∀ sig, parseMethodDescriptor y.desc = some sig → argsL.length = sig.parameters.length) (hW : (rest.map fun v => v.category).sum ≤ W) (hc : cells + rm.cells ≤ R.cells) (hs : slots + rm.slots ≤ R.slots) (M : MeetsH l z bytes maxL ret [] rm rm.cells rm.slots Z EL (.ref a :: argsL).toArray h n0 Q') (hst : st = argsL.reverse ++ .ref a :: rest) (hd : decode c.code pc = .ok (.invokevirtual index, 3))
    (k : ∀ v T' locs' k1, Stand p l e R (s.setVm T'.vm) m args below meth c T' locs' (cells + rm.cells) (slots + rm.slots) → s.Since T'.vm k1 → k1 ≤ T'.heap.size → Z.Warmed39 (s.setVm T'.vm).vm → (s.setVm T'.vm).vm.findClass own = some m.cls → Fr n0 locs' → CHr Z EL vm0 h T'.vm T'.heap → Q' v T'.heap → Goes p e below FE n0 Q (T'.setTop (mkF m (pc + 3) Ls (v.toList ++ rest)))) : Goes p e below FE n0 Q (T.setTop (mkF m pc Ls st)) := by
  subst hst
  obtain ⟨cq, kq, qa, qb, qc⟩ := isOf hZ eT E
  obtain ⟨v, _, ⟨T', L', k', n'⟩, -, X', h2, hg, ⟨Lc, hQ, l1, l2, l3, hC⟩, st'⟩ := X.virtualBackS hx (y := y) (z := z) hown (mvT hZ w1) (mvT hZ w2) hnf (mvT hZ w5) (mvT hZ w6) hy (backOfSH (W := W) (Q := fun v h L => Fr n0 L ∧ Q' v h) M hZ w4 w3 hf hl hEL H) qa qc (g := mkF m pc Ls (argsL.reverse ++ .ref a :: rest)) rfl hsize (Steps.refl _) (argsL := argsL) (rest := rest) hlen rfl (by show 2 * 0 + _ ≤ _; omega) hd (fun _ _ => ⟨rfl, eT, hc, hs⟩)
  dsimp only [Pt.U, Pt.locs, Pt.cells, Pt.slots] at X' l1 l2 l3 st' hQ h2 hg hC
  subst l1 l2 l3
  obtain ⟨X'', S'', Z'', o''⟩ := rebS hS hk X' h2 (eT ▸ hg) hZ hown
  exact Goes.via (fun _ k => st'.trans k) (k v T' _ _ X'' S'' (Nat.le_refl _) Z'' o'' (Fr.app N hQ.1) hC hQ.2)
theorem own_callSH (X : Stand p l e R (s.setVm vm0) m args below meth c T locs cells slots) (hx : p.tables.exec = Jvm.exec) (hZ : Z.Warmed39 (s.setVm vm0).vm) {own : String} {index : Nat} (hown : (s.setVm vm0).vm.findClass own = some m.cls) (hS : s.Since vm0 k0) (hk : k0 ≤ h.size) {y : MethodName} {bytes : ByteArray} {maxL : Nat} {ret : Option FieldType} {rm : Room} {W : Nat} {Q' : Option Value → Heap → Prop} (w1 : (Jvm.Cond.methodLink own index y).before a0 Z = true) (w2 : (Jvm.Cond.static y).before a0 Z = true) (w3 : (Jvm.Cond.initialized y.cls).before a0 Z = true) (w4 : (Jvm.Cond.code y bytes maxL ret).before a0 Z = true) (hEL : EW Z a0 EL) (H : CHv Z EL vm0 h) (hy : y.cls ≠ "java/lang/invoke/MethodHandle" ∧ y.cls ≠ "java/lang/invoke/VarHandle") (hf : rm.frames + 1 ≤ R.frames) (hl : W + (maxL + 11) + rm.locals ≤ R.locals) (N : Fr n0 locs) (eT : T.heap = h) (hsize : Ls.size = c.maxLocals) {argsL rest : List Value} (hlen : ∀ sig, parseMethodDescriptor y.desc = some sig → argsL.length = sig.parameters.length) (hW : (rest.map fun v => v.category).sum ≤ W) (hc : cells + rm.cells ≤ R.cells) (hs : slots + rm.slots ≤ R.slots) (M : MeetsH l y bytes maxL ret [] rm rm.cells rm.slots Z EL argsL.toArray h n0 Q') (hst : st = argsL.reverse ++ rest) (hd : decode c.code pc = .ok (.invokestatic index, 3))
    (k : ∀ v T' locs' k1, Stand p l e R (s.setVm T'.vm) m args below meth c T' locs' (cells + rm.cells) (slots + rm.slots) → s.Since T'.vm k1 → k1 ≤ T'.heap.size → Z.Warmed39 (s.setVm T'.vm).vm → (s.setVm T'.vm).vm.findClass own = some m.cls → Fr n0 locs' → CHr Z EL vm0 h T'.vm T'.heap → Q' v T'.heap → Goes p e below FE n0 Q (T'.setTop (mkF m (pc + 3) Ls (v.toList ++ rest)))) : Goes p e below FE n0 Q (T.setTop (mkF m pc Ls st)) := by
  subst hst
  obtain ⟨v, _, ⟨T', L', k', n'⟩, -, X', h2, hg, ⟨Lc, hQ, l1, l2, l3, hC⟩, st'⟩ := callSS X hx (y := y) hown (mvT hZ w1) (mvT hZ w2) (mvT hZ w3) (mvT hZ w4) hy (backOfSH (W := W) (Q := fun v h L => Fr n0 L ∧ Q' v h) M hZ w4 w3 hf hl hEL H) (g := mkF m pc Ls (argsL.reverse ++ rest)) rfl hsize (argsL := argsL) (rest := rest) hlen rfl (by show 2 * 0 + _ ≤ _; omega) hd (fun _ _ => ⟨rfl, eT, hc, hs⟩)
  dsimp only [Pt.U, Pt.locs, Pt.cells, Pt.slots] at X' l1 l2 l3 st' hQ h2 hg hC
  subst l1 l2 l3
  obtain ⟨X'', S'', Z'', o''⟩ := rebS hS hk X' h2 (eT ▸ hg) hZ hown
  exact Goes.via (fun _ k => st'.trans k) (k v T' _ _ X'' S'' (Nat.le_refl _) Z'' o'' (Fr.app N hQ.1) hC hQ.2)
theorem own_specialH (X : Stand p l e R (s.setVm vm0) m args below meth c T locs cells slots) (hx : p.tables.exec = Jvm.exec) (hZ : Z.Warmed39 (s.setVm vm0).vm) {own : String} {index : Nat} (hown : (s.setVm vm0).vm.findClass own = some m.cls) (hS : s.Since vm0 k0) (hk : k0 ≤ h.size) {y : MethodName} {bytes : ByteArray} {maxL : Nat} {rm : Room} {W : Nat} {Q' : Option Value → Heap → Prop} (hy1 : y.name = "<init>") (w1 : (Jvm.Cond.methodLink own index y).before a0 Z = true) (w2 : (Jvm.Cond.instanceMethod y).before a0 Z = true) (w3 : (Jvm.Cond.initialized y.cls).before a0 Z = true) (w4 : (Jvm.Cond.code y bytes maxL none).before a0 Z = true) {a : Addr} (hEL : EW Z a0 EL) (H : CHv Z EL vm0 h) (hy : y.cls ≠ "java/lang/invoke/MethodHandle" ∧ y.cls ≠ "java/lang/invoke/VarHandle") (hf : rm.frames + 1 ≤ R.frames) (hl : W + (maxL + 11) + rm.locals ≤ R.locals) (N : Fr n0 locs) (eT : T.heap = h) (hsize : Ls.size = c.maxLocals) {argsL rest : List Value} (hlen : ∀ sig, parseMethodDescriptor y.desc = some sig → argsL.length = sig.parameters.length) (hW : (rest.map fun v => v.category).sum ≤ W) (hc : cells + rm.cells ≤ R.cells) (hs : slots + rm.slots ≤ R.slots) (M : MeetsH l y bytes maxL none [] rm rm.cells rm.slots Z EL (.ref a :: argsL).toArray h n0 Q') (hst : st = argsL.reverse ++ .ref a :: rest) (hd : decode c.code pc = .ok (.invokespecial index, 3))
    (k : ∀ v T' locs' k1, Stand p l e R (s.setVm T'.vm) m args below meth c T' locs' (cells + rm.cells) (slots + rm.slots) → s.Since T'.vm k1 → k1 ≤ T'.heap.size → Z.Warmed39 (s.setVm T'.vm).vm → (s.setVm T'.vm).vm.findClass own = some m.cls → Fr n0 locs' → CHr Z EL vm0 h T'.vm T'.heap → Q' v T'.heap → Goes p e below FE n0 Q (T'.setTop (mkF m (pc + 3) Ls (v.toList ++ rest)))) : Goes p e below FE n0 Q (T.setTop (mkF m pc Ls st)) := by
  subst hst
  obtain ⟨v, _, ⟨T', L', k', n'⟩, -, X', h2, hg, ⟨Lc, hQ, l1, l2, l3, hC⟩, st'⟩ := X.specialBackS hx (y := y) hy1 hown (mvT hZ w1) (mvT hZ w2) (mvT hZ w4) hy (backOfSH (W := W) (Q := fun v h L => Fr n0 L ∧ Q' v h) M hZ w4 w3 hf hl hEL H) (g := mkF m pc Ls (argsL.reverse ++ .ref a :: rest)) rfl hsize (Steps.refl _) (a := a) (argsL := argsL) (rest := rest) hlen rfl (by show 2 * 0 + _ ≤ _; omega) hd (fun _ _ => ⟨rfl, eT, hc, hs⟩)
  dsimp only [Pt.U, Pt.locs, Pt.cells, Pt.slots] at X' l1 l2 l3 st' hQ h2 hg hC
  subst l1 l2 l3
  obtain ⟨X'', S'', Z'', o''⟩ := rebS hS hk X' h2 (eT ▸ hg) hZ hown
  exact Goes.via (fun _ k => st'.trans k) (k v T' _ _ X'' S'' (Nat.le_refl _) Z'' o'' (Fr.app N hQ.1) hC hQ.2)
theorem own_s1 {vm : Vm} {x : Addr} (S : Safe Z EL vm h x) : ∀ y ∈ [x], Safe Z EL vm h y := fun y hy => by rw [List.mem_singleton.mp hy]; exact S
def MeetsHS (l : Launch) (y : MethodName) (bytes : ByteArray) (maxL : Nat) (ret : Option FieldType) (ws : List Jvm.Cond) (rm : Room) (kc ks : Nat) (Z : State) (EL : List (String × Nat)) (x : Addr) (as' : Array Value) (h : Heap) (n0 : Nat) (Q : Option Value → Heap → Prop) : Prop :=
  MetFree l y (head1 (Jvm.Cond.code y bytes maxL ret :: ws) rm) (fun a U => a = as' ∧ Z.Warmed39 U.vm ∧ U.heap = h ∧ CHv Z EL U.vm h ∧ Safe Z EL U.vm h x) (fun _ _ _ _ _ => True) (fun _ U o U' => ∃ v L, o = .returned v ∧ (Fr n0 L ∧ Q v U'.heap) ∧ CHr Z EL U.vm U.heap U'.vm U'.heap ∧ ReturnedEndW U o U' L kc ks)
theorem MeetsHS.of {x : Addr} {y : MethodName} {bytes : ByteArray} {maxL : Nat} {ret : Option FieldType} {ws : List Jvm.Cond} {rm : Room} {as' : Array Value} (hx : plainFor y = true) {F : MethodId → JFrame} (hF : ∀ m, entryFrame m as' maxL = F m)
    (body : ∀ p e s m below meth c T, p.tables.exec = Jvm.exec → c.code = bytes → c.maxLocals = maxL → s.vm.findClass y.cls = some m.cls → meth.name = y.name → meth.sig.returnType = ret → meth.locks = false → Z.Warmed39 s.vm → s.Since s.vm 0 → CHv Z EL s.vm h → Safe Z EL s.vm h x →
      Stand p l e rm (s.setVm s.vm) m as' below meth c T [] 0 0 → T.heap = h → Goes p e below (fun o t L => CHr Z EL s.vm h t.vm t.heap ∧ ReturnedEndW s o t L kc ks) n0 Q (T.setTop (F m))) :
    MeetsHS l y bytes maxL ret ws rm kc ks Z EL x as' h n0 Q := by
  refine MetFree.of_bodySF hx hisR ?_
  intro p e s m args below meth c s₁ Bd hml hP hK
  obtain ⟨rfl, hZ, hh, hC, hSf⟩ := hP
  subst hh
  have X0 : Stand p l e rm s m args below meth c s₁ [] 0 0 := Stand.of_body Bd
  have e0 : s₁.heap = s.heap := by rw [Bd.state]; rfl
  obtain ⟨s₂, o, k, r⟩ := body p e s m below meth c s₁ Bd.exec Bd.bytes hml (findClass_of_methodNamed Bd.named) (name_of_methodNamed Bd.named Bd.method).1 Bd.returns Bd.notSynchronized hZ ((State.WarmedH.refl s).since 0) hC hSf X0 e0
  exact ⟨s₂, o, castTop (hF m) k, r⟩
/-- at a call: the contract's own premise that x is none of the held constants is met where it is known at the start's tables -/
theorem own_backHS {x : Addr} {y : MethodName} {bytes : ByteArray} {maxL : Nat} {ret : Option FieldType} {rm : Room} {len W : Nat} {as' : Array Value} {Q' : Option Value → Heap → Prop}
    (M : MeetsHS l y bytes maxL ret [] rm rm.cells rm.slots Z EL x as' h n0 Q') (hZ : Z.Warmed39 vm0) (w4 : (Cond.code y bytes maxL ret).before a0 Z = true) (w3 : (Cond.initialized y.cls).before a0 Z = true) (hf : rm.frames + 1 ≤ R.frames) (hl : W + (maxL + 11) + rm.locals ≤ R.locals) (hEL : EW Z a0 EL) (H : CHv Z EL vm0 h) (S : Safe Z EL vm0 h x) (hlt : x < h.size) :
    BackS l R p e below (s.setVm vm0) args y len W (fun A a => a = as' ∧ A.U.heap = h ∧ A.cells + rm.cells ≤ R.cells ∧ A.slots + rm.slots ≤ R.slots)
      (fun A _ v B => ∃ L, (Fr n0 L ∧ Q' v B.U.heap) ∧ B.locs = A.locs ++ L ∧ B.cells = A.cells + rm.cells ∧ B.slots = A.slots + rm.slots ∧ CHr Z EL vm0 h B.U.vm B.U.heap) := by
  have hU : ∀ {m : MethodId} {meth : Method} {c : Code} {A : Pt}, Stand p l e R (s.setVm vm0) m args below meth c A.U A.locs A.cells A.slots → Z.Warmed39 A.U.vm := fun Y => wtrans (s := s.setVm vm0) hZ Y.warmed
  refine BackS.of_freeW (bytes := bytes) (maxL := maxL) (ret := ret) (E := fun _ u o t L k n => (k = rm.cells ∧ n = rm.slots) ∧ (∃ v, o = .returned v ∧ Fr n0 L ∧ Q' v t.heap) ∧ CHr Z EL u.vm u.heap t.vm t.heap) M hf hl ?_ ?_ (fun _ _ _ _ _ _ _ _ _ => trivial) ?_ ?_
  · intro m meth c A a Y hp
    exact ⟨by show (Cond.and _ .tt).before a A.U = true; rw [Cond.before_and, mv (hU Y) w4]; rfl, mv (hU Y) w4, mv (hU Y) w3, hp.2.2.1, hp.2.2.2⟩
  · intro m meth c A a g mk Y hp
    have C := CHv.at Y hZ hEL H
    exact ⟨hp.1, hU Y, hp.2.1, C.1, C.safe hlt S⟩
  · intro a u o t hq
    obtain ⟨v, L, q1, q2, q3, q4⟩ := hq
    exact ⟨L, _, _, q4, ⟨rfl, rfl⟩, ⟨v, q1, q2⟩, q3⟩
  · intro m meth c A a g mk v t L k n Y hp _ _ hE
    obtain ⟨⟨rfl, rfl⟩, ⟨v', q1, q2⟩, q3⟩ := hE
    cases q1
    exact ⟨L, q2, rfl, rfl, rfl, (CHv.at Y hZ hEL H).trans (hp.2.1 ▸ q3)⟩
theorem own_specialHS (X : Stand p l e R (s.setVm vm0) m args below meth c T locs cells slots) (hx : p.tables.exec = Jvm.exec) (hZ : Z.Warmed39 (s.setVm vm0).vm) {own : String} {index : Nat} (hown : (s.setVm vm0).vm.findClass own = some m.cls) (hS : s.Since vm0 k0) (hk : k0 ≤ h.size) {y : MethodName} {bytes : ByteArray} {maxL : Nat} {rm : Room} {W : Nat} {Q' : Option Value → Heap → Prop} {x : Addr} (hy1 : y.name = "<init>") (w1 : (Jvm.Cond.methodLink own index y).before a0 Z = true) (w2 : (Jvm.Cond.instanceMethod y).before a0 Z = true) (w3 : (Jvm.Cond.initialized y.cls).before a0 Z = true) (w4 : (Jvm.Cond.code y bytes maxL none).before a0 Z = true) {a : Addr} (hEL : EW Z a0 EL) (H : CHv Z EL vm0 h) (S : Safe Z EL vm0 h x) (hlt : x < h.size) (hy : y.cls ≠ "java/lang/invoke/MethodHandle" ∧ y.cls ≠ "java/lang/invoke/VarHandle") (hf : rm.frames + 1 ≤ R.frames) (hl : W + (maxL + 11) + rm.locals ≤ R.locals) (N : Fr n0 locs) (eT : T.heap = h) (hsize : Ls.size = c.maxLocals) {argsL rest : List Value} (hlen : ∀ sig, parseMethodDescriptor y.desc = some sig → argsL.length = sig.parameters.length) (hW : (rest.map fun v => v.category).sum ≤ W) (hc : cells + rm.cells ≤ R.cells) (hs : slots + rm.slots ≤ R.slots) (M : MeetsHS l y bytes maxL none [] rm rm.cells rm.slots Z EL x (.ref a :: argsL).toArray h n0 Q') (hst : st = argsL.reverse ++ .ref a :: rest) (hd : decode c.code pc = .ok (.invokespecial index, 3))
    (k : ∀ v T' locs' k1, Stand p l e R (s.setVm T'.vm) m args below meth c T' locs' (cells + rm.cells) (slots + rm.slots) → s.Since T'.vm k1 → k1 ≤ T'.heap.size → Z.Warmed39 (s.setVm T'.vm).vm → (s.setVm T'.vm).vm.findClass own = some m.cls → Fr n0 locs' → CHr Z EL vm0 h T'.vm T'.heap → Q' v T'.heap → Goes p e below FE n0 Q (T'.setTop (mkF m (pc + 3) Ls (v.toList ++ rest)))) : Goes p e below FE n0 Q (T.setTop (mkF m pc Ls st)) := by
  subst hst
  obtain ⟨v, _, ⟨T', L', k', n'⟩, -, X', h2, hg, ⟨Lc, hQ, l1, l2, l3, hC⟩, st'⟩ := X.specialBackS hx (y := y) hy1 hown (mvT hZ w1) (mvT hZ w2) (mvT hZ w4) hy (own_backHS (W := W) M hZ w4 w3 hf hl hEL H S hlt) (g := mkF m pc Ls (argsL.reverse ++ .ref a :: rest)) rfl hsize (Steps.refl _) (a := a) (argsL := argsL) (rest := rest) hlen rfl (by show 2 * 0 + _ ≤ _; omega) hd (fun _ _ => ⟨rfl, eT, hc, hs⟩)
  dsimp only [Pt.U, Pt.locs, Pt.cells, Pt.slots] at X' l1 l2 l3 st' hQ h2 hg hC
  subst l1 l2 l3
  obtain ⟨X'', S'', Z'', o''⟩ := rebS hS hk X' h2 (eT ▸ hg) hZ hown
  exact Goes.via (fun _ k => st'.trans k) (k v T' _ _ X'' S'' (Nat.le_refl _) Z'' o'' (Fr.app N hQ.1) hC hQ.2)
theorem own_retVH (X : Stand p l e R (s.setVm vm0) m args below meth c T locs cells slots) (hx : p.tables.exec = Jvm.exec) (hS : s.Since vm0 k0) (hk : k0 ≤ T.heap.size) (hZ : Z.Warmed39 vm0) (hEL : EW Z a0 EL) (C : CHr Z EL s.vm h0 vm0 T.heap) (N : Fr n0 locs) (hlk : meth.locks = false) (hc : cells ≤ kc) (hs : slots ≤ ks) (hret : meth.sig.returnType = none) (hd : decode c.code pc = .ok (.return_, 1)) (hq : Q none T.heap) : Goes p e below (fun o t L => CHr Z EL s.vm h0 t.vm t.heap ∧ ReturnedEndW s o t L kc ks) n0 Q (T.setTop (mkF m pc Ls [])) :=
  Goes.retH X hS hk hZ hEL C N hlk (fun _ => rfl) hc hs hq (fun fs hr => X.returnOut hx hret hd hr)
theorem own_retRH (X : Stand p l e R (s.setVm vm0) m args below meth c T locs cells slots) (hx : p.tables.exec = Jvm.exec) {v : Value} {t : FieldType} (hS : s.Since vm0 k0) (hk : k0 ≤ T.heap.size) (hZ : Z.Warmed39 vm0) (hEL : EW Z a0 EL) (C : CHr Z EL s.vm h0 vm0 T.heap) (N : Fr n0 locs) (hlk : meth.locks = false) (hc : cells ≤ kc) (hs : slots ≤ ks) (hret : meth.sig.returnType = some t) (ht : t.isReference = true) (hv : v.isRef = true) (hn : narrow t v = v) (hd : decode c.code pc = .ok (.areturn, 1)) (hq : Q (some v) T.heap) : Goes p e below (fun o t L => CHr Z EL s.vm h0 t.vm t.heap ∧ ReturnedEndW s o t L kc ks) n0 Q (T.setTop (mkF m pc Ls (v :: st))) :=
  Goes.retH X hS hk hZ hEL C N hlk (fun h => by rw [hret] at h; cases h) hc hs hq (fun fs hr => retOut X hx hret hn (Or.inr (Or.inr (Or.inr (Or.inr ⟨rfl, ht, hv⟩)))) hd hr)
theorem own_strNew (X : Stand p l e R s m args below meth c T locs cells slots) (hx : p.tables.exec = Jvm.exec) (hZ : Z.Warmed39 s.vm) {own : String} {index : Nat} (hown : s.vm.findClass own = some m.cls) {bytes : ByteArray} (w1 : (Jvm.Cond.methodLink own index (⟨"java/lang/String", "<init>", "([C)V"⟩ : MethodName)).before a0 Z = true) (w2 : (Jvm.Cond.instanceMethod (⟨"java/lang/String", "<init>", "([C)V"⟩ : MethodName)).before a0 Z = true) (w4 : (Jvm.Cond.code (⟨"java/lang/String", "<init>", "([C)V"⟩ : MethodName) bytes 2 none).before a0 Z = true) (hws : ∀ d ∈ StrChars.Road.words, d.before a0 Z = true) (wi : (Jvm.Cond.instantiable "java/lang/String" 4).before a0 Z = true) {x b : Addr} {kC : ClassId} {cs : List Int32} {v0 c0 d : Value} {z : Int32} (N : Fr n0 locs) (eT : T.heap = h) (hx0 : n0 ≤ x) (hh0 : n0 ≤ h.size) (E : Exa Z h x "java/lang/String") (V : Fld Z h x "java/lang/String" "value" "[B" v0) (C : Fld Z h x "java/lang/String" "coder" "B" c0) {n : Nat} {Nn : Int32} (hn : cs.length = n) (hN : Nn = Int32.ofNat n) (K : Arv Z h b kC .char Nn (cs.map Value.int) d) (S : Sta Z h "java/lang/String" "COMPACT_STRINGS" "Z" (.int z)) (hz : ¬ z = 0) (l0 : 0 < n) (l2 : n ≤ 4000) (hp : ∀ c ∈ cs, ¬ c < 0 ∧ ¬ (255 : Int32) < c) {W : Nat} {rest : List Value} (hfr : 4 ≤ R.frames) (hlo : W + 65 ≤ R.locals) (hsize : Ls.size = c.maxLocals) (hW : (rest.map fun v => v.category).sum ≤ W) (hc : cells + 1 ≤ R.cells) (hs : slots + n ≤ R.slots) (hd : decode c.code pc = .ok (.invokespecial index, 3))
    (k : ∀ T' locs' h', Stand p l e R s m args below meth c T' locs' (cells + 1) (slots + n) → T'.heap = h' → Fr n0 locs' → Keep h h' [x] → IsStr Z h' x cs → Goes p e below FE n0 Q (T'.setTop (mkF m (pc + 3) Ls rest))) : Goes p e below FE n0 Q (T.setTop (mkF m pc Ls (.ref b :: .ref x :: rest))) := by
  subst hn hN
  obtain ⟨v, _, ⟨T', L', k', n'⟩, -, X', ⟨Lc, ⟨rfl, q1, q2, q3, q4, t, kb, -, -, -, q5, q6⟩, l1, l2', l3⟩, st'⟩ := X.specialBack hx (y := (⟨"java/lang/String", "<init>", "([C)V"⟩ : MethodName)) rfl hown (mvT hZ w1) (mvT hZ w2) (mvT hZ w4) (by decide) (StrChars.Road.backV (W := W) (n0 := n0) (cs := cs) hZ hws wi hx0 hh0 E V C K S hz rfl rfl l0 l2 hp rfl hfr hlo) (g := mkF m pc Ls (.ref b :: .ref x :: rest)) rfl hsize (Steps.refl _) (a := x) (argsL := [.ref b]) (rest := rest) (lenOf (by decide +kernel : parseMethodDescriptor "([C)V" = some ⟨[.array .char], none⟩) rfl) rfl (by show 2 * 0 + _ ≤ _; omega) hd (fun _ _ => ⟨rfl, eT, hc, hs⟩)
  dsimp only [Pt.U, Pt.locs, Pt.cells, Pt.slots] at X' l1 l2' l3 st' q1 q2 q3 q4 q5 q6
  subst l1 l2' l3
  exact Goes.via (fun _ k => st'.trans k) (k T' _ _ X' rfl (Fr.app N q1) q2 ⟨t, kb, q3, q5, q4, q6, l2, hp⟩)
theorem own_gd (l : List Int32) (i : Nat) (x : Int32) : (l.map Value.int).getD i (.int x) = .int (l.getD i x) := by
  simp only [List.getD_eq_getElem?_getD, List.getElem?_map]
  cases l[i]? <;> rfl
theorem own_seteq (l : List Int32) (i : Nat) (x : Int32) (hi : i < l.length) : l.set i x = l ↔ l.getD i 0 = x := by
  rw [List.getD_eq_getElem?_getD, List.getElem?_eq_getElem hi, Option.getD_some]
  constructor
  · intro q
    have := congrArg (fun z => z[i]?) q
    simp only [List.getElem?_set_self hi, List.getElem?_eq_getElem hi, Option.some.injEq] at this
    exact this.symm
  · intro q
    rw [← q, List.set_getElem_self]
theorem own_setb {l : List Int32} (h : ∀ c ∈ l, ¬ c < 0 ∧ ¬ (255 : Int32) < c) (i : Nat) {x : Int32} (hx : ¬ x < 0 ∧ ¬ (255 : Int32) < x) : ∀ c ∈ l.set i x, ¬ c < 0 ∧ ¬ (255 : Int32) < c := fun c hc => by
  rcases List.mem_or_eq_of_mem_set hc with q | rfl
  · exact h c q
  · exact hx
end OwnHeld
def tx0 : List Int32 := []
theorem tx0_t : (∀ c ∈ ("" : String).toList, c.toNat < 256) ∧ ("" : String).toList.map (fun c => Value.int (Jvm.Lit.byteI c.toNat.toUInt16)) = (tx0.map fun c => c.toInt8.toInt32).map Value.int := by decide +kernel
theorem tx0_z : ¬ Int32.ofNat tx0.length < 0 ∧ (Int32.ofNat tx0.length).toNatClampNeg = tx0.length := by decide +kernel
theorem tx0_4 : tx0.length ≤ 4000 := by decide +kernel
theorem tx0_5 : ∀ c ∈ tx0, ¬ c < 0 ∧ ¬ (255 : Int32) < c := by decide +kernel
def tx1 : List Int32 := [115, 101, 114, 118, 105, 99, 101]
theorem tx1_t : (∀ c ∈ ("service" : String).toList, c.toNat < 256) ∧ ("service" : String).toList.map (fun c => Value.int (Jvm.Lit.byteI c.toNat.toUInt16)) = (tx1.map fun c => c.toInt8.toInt32).map Value.int := by decide +kernel
theorem tx1_z : ¬ Int32.ofNat tx1.length < 0 ∧ (Int32.ofNat tx1.length).toNatClampNeg = tx1.length := by decide +kernel
theorem tx1_4 : tx1.length ≤ 4000 := by decide +kernel
theorem tx1_5 : ∀ c ∈ tx1, ¬ c < 0 ∧ ¬ (255 : Int32) < c := by decide +kernel
def tx2 : List Int32 := [45, 62]
theorem tx2_t : (∀ c ∈ ("->" : String).toList, c.toNat < 256) ∧ ("->" : String).toList.map (fun c => Value.int (Jvm.Lit.byteI c.toNat.toUInt16)) = (tx2.map fun c => c.toInt8.toInt32).map Value.int := by decide +kernel
theorem tx2_z : ¬ Int32.ofNat tx2.length < 0 ∧ (Int32.ofNat tx2.length).toNatClampNeg = tx2.length := by decide +kernel
theorem tx2_4 : tx2.length ≤ 4000 := by decide +kernel
theorem tx2_5 : ∀ c ∈ tx2, ¬ c < 0 ∧ ¬ (255 : Int32) < c := by decide +kernel
def tx3 : List Int32 := [58, 58]
theorem tx3_t : (∀ c ∈ ("::" : String).toList, c.toNat < 256) ∧ ("::" : String).toList.map (fun c => Value.int (Jvm.Lit.byteI c.toNat.toUInt16)) = (tx3.map fun c => c.toInt8.toInt32).map Value.int := by decide +kernel
theorem tx3_z : ¬ Int32.ofNat tx3.length < 0 ∧ (Int32.ofNat tx3.length).toNatClampNeg = tx3.length := by decide +kernel
theorem tx3_4 : tx3.length ≤ 4000 := by decide +kernel
theorem tx3_5 : ∀ c ∈ tx3, ¬ c < 0 ∧ ¬ (255 : Int32) < c := by decide +kernel
def tx4 : List Int32 := [58]
theorem tx4_t : (∀ c ∈ (":" : String).toList, c.toNat < 256) ∧ (":" : String).toList.map (fun c => Value.int (Jvm.Lit.byteI c.toNat.toUInt16)) = (tx4.map fun c => c.toInt8.toInt32).map Value.int := by decide +kernel
theorem tx4_z : ¬ Int32.ofNat tx4.length < 0 ∧ (Int32.ofNat tx4.length).toNatClampNeg = tx4.length := by decide +kernel
theorem tx4_4 : tx4.length ≤ 4000 := by decide +kernel
theorem tx4_5 : ∀ c ∈ tx4, ¬ c < 0 ∧ ¬ (255 : Int32) < c := by decide +kernel
def Start (Z : State) (zc : Int32) : Prop :=
  Sta Z Z.heap "java/lang/String" "COMPACT_STRINGS" "Z" (.int zc) ∧
  (¬ (zc = (0 : Int32))) ∧
  True
theorem own_wNew {Z : State} {a0 : Array Value} (hw : ∀ d ∈ tables_1, d.before a0 Z = true) : ∀ d ∈ StrChars.Road.words, d.before a0 Z = true := fun d hd => hw d ((by decide +kernel : ∀ d ∈ StrChars.Road.words, d ∈ tables_1) d hd)
abbrev B8 (x : Int32) : Prop := ¬ x < 0 ∧ ¬ (255 : Int32) < x
theorem own_ch (x : Int32) : B8 (x &&& (255 : Int32)) := by
  have e := c_mask x 255 8 (by decide) (by decide)
  have a : (0 : Int32).toInt = 0 := by decide
  have b : (255 : Int32).toInt = 255 := by decide
  unfold B8
  rw [Int32.lt_iff_toInt_lt, Int32.lt_iff_toInt_lt, a, b]
  omega
theorem own_rng8 {x : Int32} (h : B8 x) : 0 ≤ x.toInt ∧ x.toInt ≤ 255 := by
  have a : (0 : Int32).toInt = 0 := by decide
  have b : (255 : Int32).toInt = 255 := by decide
  have h1 := h.1
  have h2 := h.2
  rw [Int32.lt_iff_toInt_lt, a] at h1
  rw [Int32.lt_iff_toInt_lt, b] at h2
  omega
theorem own_nar {x : Int32} (h : B8 x) : nar .char x = x := by
  have e := c_i2c x
  have r := own_rng8 h
  apply Int32.toInt_inj.mp
  show x.toUInt32.toUInt16.toUInt32.toInt32.toInt = x.toInt
  omega
theorem own_b8 {x w : Int32} (h : B8 x) (hw : 0 ≤ w.toInt ∧ w.toInt < 128) (q : x.toInt8.toInt32 = w) : x = w := by
  have r := own_rng8 h
  have e := congrArg Int32.toInt q
  rw [Int8.toInt_toInt32, Int32.toInt_toInt8, Int.bmod_def] at e
  apply Int32.toInt_inj.mp
  split at e <;> omega
theorem own_pa {a b : Int32} (ha : B8 a) (hb : B8 b) (h : ¬ ((a = (45 : Int32) ∧ b = (62 : Int32)) ∨ (a = (58 : Int32) ∧ b = (58 : Int32)))) : ¬ (a.toInt8.toInt32 = (45 : Int32) ∧ b.toInt8.toInt32 = (62 : Int32)) := fun q => h (Or.inl ⟨own_b8 ha (by decide) q.1, own_b8 hb (by decide) q.2⟩)
theorem own_pc {a b : Int32} (ha : B8 a) (hb : B8 b) (h : ¬ ((a = (45 : Int32) ∧ b = (62 : Int32)) ∨ (a = (58 : Int32) ∧ b = (58 : Int32)))) : ¬ (a.toInt8.toInt32 = (58 : Int32) ∧ b.toInt8.toInt32 = (58 : Int32)) := fun q => h (Or.inr ⟨own_b8 ha (by decide) q.1, own_b8 hb (by decide) q.2⟩)
theorem own_pe {a : Int32} (ha : B8 a) (h : ¬ (a = (58 : Int32))) : ¬ (a.toInt8.toInt32 = (58 : Int32)) := fun q => h (own_b8 ha (by decide) q)
theorem own_len5 (x : Int32) : ((x &&& (2147483647 : Int32)) % (5 : Int32)) = (0 : Int32) ∨ ((x &&& (2147483647 : Int32)) % (5 : Int32)) = (1 : Int32) ∨ ((x &&& (2147483647 : Int32)) % (5 : Int32)) = (2 : Int32) ∨ ((x &&& (2147483647 : Int32)) % (5 : Int32)) = (3 : Int32) ∨ ((x &&& (2147483647 : Int32)) % (5 : Int32)) = (4 : Int32) := by
  have e := c_mask x 2147483647 31 (by decide) (by decide)
  have q := (c_irem (x &&& (2147483647 : Int32)) 5 5 (by decide)).1 (by omega)
  generalize ((x &&& (2147483647 : Int32)) % (5 : Int32)) = n at *
  have eq : ∀ {k : Int32} {i : Int}, k.toInt = i → n.toInt = i → n = k := fun h1 h2 => Int32.toInt_inj.mp (by rw [h1, h2])
  have h : n.toInt = 0 ∨ n.toInt = 1 ∨ n.toInt = 2 ∨ n.toInt = 3 ∨ n.toInt = 4 := by omega
  rcases h with h | h | h | h | h
  · exact Or.inl (eq (by decide) h)
  · exact Or.inr (Or.inl (eq (by decide) h))
  · exact Or.inr (Or.inr (Or.inl (eq (by decide) h)))
  · exact Or.inr (Or.inr (Or.inr (Or.inl (eq (by decide) h))))
  · exact Or.inr (Or.inr (Or.inr (Or.inr (eq (by decide) h))))
theorem d16_0 : decode jdk_42_method_152_code 0 = .ok (.getstatic 38, 3) := by decide +kernel
theorem d16_3 : decode jdk_42_method_152_code 3 = .ok (.ifCond .eq 10, 3) := by decide +kernel
theorem d16_6 : decode jdk_42_method_152_code 6 = .ok (.aload_n 0, 1) := by decide +kernel
theorem d16_7 : decode jdk_42_method_152_code 7 = .ok (.getfield 15, 3) := by decide +kernel
theorem d16_10 : decode jdk_42_method_152_code 10 = .ok (.goto 4, 3) := by decide +kernel
theorem d16_14 : decode jdk_42_method_152_code 14 = .ok (.ireturn, 1) := by decide +kernel
theorem pn_0 : plainName "java/lang/String" = true := by first | (simp [plainName, overriddenIn]; done) | decide +kernel
def Q16 (Z : State) (a1 : Addr) (zc : Int32) (h0 : Heap) (n0 : Nat) (v : Option Value) (h : Heap) : Prop :=
  (v = some (.int (0 : Int32)) ∧ h = h0)
theorem ef_16 (m : MethodId) (a1 : Addr) : entryFrame m #[(.ref a1)] 1 = mkF m 0 #[.val (.ref a1)] [] := by first | (simp [entryFrame, mkF, argsToLocals, Value.category]; done) | rfl
set_option maxRecDepth 65536 in
set_option maxHeartbeats 40000000 in
theorem rm16 (l : Launch) (Z : State) (a0 : Array Value) (hw : ∀ d ∈ tables_1, d.before a0 Z = true) (ws : List Jvm.Cond) (a1 : Addr) (zc : Int32) (h0 : Heap) (n0 : Nat) (O0 : Old Z n0 h0) (SF : Start Z zc) (f0 : Fld Z h0 a1 "java/lang/String" "coder" "B" (.int (0 : Int32))) :
    Meets l (⟨"java/lang/String", "coder", "()B"⟩ : MethodName) jdk_42_method_152_code 1 (some .byte) ws ({ frames := 0, cells := 0, slots := 0, locals := 0 } : Room) ({ frames := 0, cells := 0, slots := 0, locals := 0 } : Room).cells ({ frames := 0, cells := 0, slots := 0, locals := 0 } : Room).slots Z #[(.ref a1)] h0 n0 (Q16 Z a1 zc h0 n0) := by
  refine Meets.of (F := fun m => mkF m 0 #[.val (.ref a1)] []) (plainFor_of_name pn_0) (fun m => ef_16 m a1) ?_
  intro p e s m below meth c T0 hx hby hml hown0 hnm hret hlk hZ X0 e0
  have hown : s.vm.findClass "java/lang/String" = some m.cls := hown0
  have N0 := Fr.nil n0
  obtain ⟨z0, hzc, -⟩ := SF
  show Goes _ _ _ _ _ _ (T0.setTop (mkF m 0 #[.val (.ref a1)] []))
  refine own_getS X0 hx hZ hown (host := "") (Or.inl (hw _ (List.mem_of_getElem? (i := 27) rfl))) Via.refl e0 (z0.ext O0.2) (hb hby d16_0) (fun T1 X1 e1 => ?_)
  refine own_ifNo X1 hx (hb hby d16_3) ((if0 _ _).trans (feq (hzc : ¬ (zc = (0 : Int32)))).1) ?_
  refine own_aloadN X1 hx (hb hby d16_6) rfl rfl ?_
  refine own_getF X1 hx hZ hown (host := "") (Or.inl (hw _ (List.mem_of_getElem? (i := 26) rfl))) Via.refl e1 f0 (hb hby d16_7) (fun T2 X2 e2 => ?_)
  refine own_goto X2 hx (pc' := 14) (hb hby d16_10) (by decide) (by decide) ?_
  show Goes _ _ _ _ _ _ (T2.setTop (mkF m 14 #[.val (.ref a1)] [(.int (0 : Int32))]))
  exact own_retN X2 hx (t := .byte) N0 hlk (by decide) (by decide) hret (by simp) (hb hby d16_14) (by rw [e2]; exact ⟨rfl, rfl⟩)
theorem d17_0 : decode jdk_42_method_154_code 0 = .ok (.getstatic 38, 3) := by decide +kernel
theorem d17_3 : decode jdk_42_method_154_code 3 = .ok (.ifCond .eq 14, 3) := by decide +kernel
theorem d17_6 : decode jdk_42_method_154_code 6 = .ok (.aload_n 0, 1) := by decide +kernel
theorem d17_7 : decode jdk_42_method_154_code 7 = .ok (.getfield 15, 3) := by decide +kernel
theorem d17_10 : decode jdk_42_method_154_code 10 = .ok (.ifCond .ne 7, 3) := by decide +kernel
theorem d17_13 : decode jdk_42_method_154_code 13 = .ok (.iconst 1, 1) := by decide +kernel
theorem d17_14 : decode jdk_42_method_154_code 14 = .ok (.goto 4, 3) := by decide +kernel
theorem d17_18 : decode jdk_42_method_154_code 18 = .ok (.ireturn, 1) := by decide +kernel
def Q17 (Z : State) (a1 : Addr) (zc : Int32) (h0 : Heap) (n0 : Nat) (v : Option Value) (h : Heap) : Prop :=
  (v = some (.int (1 : Int32)) ∧ h = h0)
theorem ef_17 (m : MethodId) (a1 : Addr) : entryFrame m #[(.ref a1)] 1 = mkF m 0 #[.val (.ref a1)] [] := by first | (simp [entryFrame, mkF, argsToLocals, Value.category]; done) | rfl
set_option maxRecDepth 65536 in
set_option maxHeartbeats 40000000 in
theorem rm17 (l : Launch) (Z : State) (a0 : Array Value) (hw : ∀ d ∈ tables_1, d.before a0 Z = true) (ws : List Jvm.Cond) (a1 : Addr) (zc : Int32) (h0 : Heap) (n0 : Nat) (O0 : Old Z n0 h0) (SF : Start Z zc) (f0 : Fld Z h0 a1 "java/lang/String" "coder" "B" (.int (0 : Int32))) :
    Meets l (⟨"java/lang/String", "isLatin1", "()Z"⟩ : MethodName) jdk_42_method_154_code 1 (some .boolean) ws ({ frames := 0, cells := 0, slots := 0, locals := 0 } : Room) ({ frames := 0, cells := 0, slots := 0, locals := 0 } : Room).cells ({ frames := 0, cells := 0, slots := 0, locals := 0 } : Room).slots Z #[(.ref a1)] h0 n0 (Q17 Z a1 zc h0 n0) := by
  refine Meets.of (F := fun m => mkF m 0 #[.val (.ref a1)] []) (plainFor_of_name pn_0) (fun m => ef_17 m a1) ?_
  intro p e s m below meth c T0 hx hby hml hown0 hnm hret hlk hZ X0 e0
  have hown : s.vm.findClass "java/lang/String" = some m.cls := hown0
  have N0 := Fr.nil n0
  obtain ⟨z0, hzc, -⟩ := SF
  show Goes _ _ _ _ _ _ (T0.setTop (mkF m 0 #[.val (.ref a1)] []))
  refine own_getS X0 hx hZ hown (host := "") (Or.inl (hw _ (List.mem_of_getElem? (i := 27) rfl))) Via.refl e0 (z0.ext O0.2) (hb hby d17_0) (fun T1 X1 e1 => ?_)
  refine own_ifNo X1 hx (hb hby d17_3) ((if0 _ _).trans (feq (hzc : ¬ (zc = (0 : Int32)))).1) ?_
  refine own_aloadN X1 hx (hb hby d17_6) rfl rfl ?_
  refine own_getF X1 hx hZ hown (host := "") (Or.inl (hw _ (List.mem_of_getElem? (i := 26) rfl))) Via.refl e1 f0 (hb hby d17_7) (fun T2 X2 e2 => ?_)
  refine own_ifNo X2 hx (hb hby d17_10) ((if0 _ _).trans (teq (by decide : (0 : Int32) = (0 : Int32))).2) ?_
  refine own_iconst X2 hx (v := (1 : Int32)) (hb hby d17_13) rfl ?_
  refine own_goto X2 hx (pc' := 18) (hb hby d17_14) (by decide) (by decide) ?_
  show Goes _ _ _ _ _ _ (T2.setTop (mkF m 18 #[.val (.ref a1)] [(.int (1 : Int32))]))
  exact own_retN X2 hx (t := .boolean) N0 hlk (by decide) (by decide) hret (by simp) (hb hby d17_18) (by rw [e2]; exact ⟨rfl, rfl⟩)
theorem d14_0 : decode jdk_42_method_126_code 0 = .ok (.aload_n 0, 1) := by decide +kernel
theorem d14_1 : decode jdk_42_method_126_code 1 = .ok (.areturn, 1) := by decide +kernel
def Q14 (Z : State) (a1 : Addr) (h0 : Heap) (n0 : Nat) (v : Option Value) (h : Heap) : Prop :=
  (v = some (.ref a1) ∧ h = h0)
theorem ef_14 (m : MethodId) (a1 : Addr) : entryFrame m #[(.ref a1)] 1 = mkF m 0 #[.val (.ref a1)] [] := by first | (simp [entryFrame, mkF, argsToLocals, Value.category]; done) | rfl
set_option maxRecDepth 65536 in
set_option maxHeartbeats 40000000 in
theorem rm14 (l : Launch) (Z : State) (a0 : Array Value) (hw : ∀ d ∈ tables_1, d.before a0 Z = true) (ws : List Jvm.Cond) (a1 : Addr) (h0 : Heap) (n0 : Nat) (O0 : Old Z n0 h0) :
    Meets l (⟨"java/lang/String", "toString", "()Ljava/lang/String;"⟩ : MethodName) jdk_42_method_126_code 1 (some (.object "java/lang/String")) ws ({ frames := 0, cells := 0, slots := 0, locals := 0 } : Room) ({ frames := 0, cells := 0, slots := 0, locals := 0 } : Room).cells ({ frames := 0, cells := 0, slots := 0, locals := 0 } : Room).slots Z #[(.ref a1)] h0 n0 (Q14 Z a1 h0 n0) := by
  refine Meets.of (F := fun m => mkF m 0 #[.val (.ref a1)] []) (plainFor_of_name pn_0) (fun m => ef_14 m a1) ?_
  intro p e s m below meth c T0 hx hby hml hown0 hnm hret hlk hZ X0 e0
  have hown : s.vm.findClass "java/lang/String" = some m.cls := hown0
  have N0 := Fr.nil n0
  show Goes _ _ _ _ _ _ (T0.setTop (mkF m 0 #[.val (.ref a1)] []))
  refine own_aloadN X0 hx (hb hby d14_0) rfl rfl ?_
  show Goes _ _ _ _ _ _ (T0.setTop (mkF m 1 #[.val (.ref a1)] [(.ref a1)]))
  exact own_retR X0 hx N0 hlk (by decide) (by decide) hret rfl rfl rfl (hb hby d14_1) (by rw [e0]; exact ⟨rfl, rfl⟩)
theorem d11_0 : decode jdk_31_method_11_code 0 = .ok (.aload_n 0, 1) := by decide +kernel
theorem d11_1 : decode jdk_31_method_11_code 1 = .ok (.ifnonnull 12, 3) := by decide +kernel
theorem d11_13 : decode jdk_31_method_11_code 13 = .ok (.aload_n 0, 1) := by decide +kernel
theorem d11_14 : decode jdk_31_method_11_code 14 = .ok (.areturn, 1) := by decide +kernel
theorem pn_1 : plainName "java/util/Objects" = true := by first | (simp [plainName, overriddenIn]; done) | decide +kernel
def Q11 (Z : State) (a1 : Addr) (a2 : Addr) (h0 : Heap) (n0 : Nat) (v : Option Value) (h : Heap) : Prop :=
  (v = some (.ref a1) ∧ h = h0)
theorem ef_11 (m : MethodId) (a1 : Addr) (a2 : Addr) : entryFrame m #[(.ref a1), (.ref a2)] 2 = mkF m 0 #[.val (.ref a1), .val (.ref a2)] [] := by first | (simp [entryFrame, mkF, argsToLocals, Value.category]; done) | rfl
set_option maxRecDepth 65536 in
set_option maxHeartbeats 40000000 in
theorem rm11 (l : Launch) (Z : State) (a0 : Array Value) (hw : ∀ d ∈ tables_1, d.before a0 Z = true) (ws : List Jvm.Cond) (a1 : Addr) (a2 : Addr) (h0 : Heap) (n0 : Nat) (O0 : Old Z n0 h0) :
    Meets l (⟨"java/util/Objects", "requireNonNull", "(Ljava/lang/Object;Ljava/lang/String;)Ljava/lang/Object;"⟩ : MethodName) jdk_31_method_11_code 2 (some (.object "java/lang/Object")) ws ({ frames := 0, cells := 0, slots := 0, locals := 0 } : Room) ({ frames := 0, cells := 0, slots := 0, locals := 0 } : Room).cells ({ frames := 0, cells := 0, slots := 0, locals := 0 } : Room).slots Z #[(.ref a1), (.ref a2)] h0 n0 (Q11 Z a1 a2 h0 n0) := by
  refine Meets.of (F := fun m => mkF m 0 #[.val (.ref a1), .val (.ref a2)] []) (plainFor_of_name pn_1) (fun m => ef_11 m a1 a2) ?_
  intro p e s m below meth c T0 hx hby hml hown0 hnm hret hlk hZ X0 e0
  have hown : s.vm.findClass "java/util/Objects" = some m.cls := hown0
  have N0 := Fr.nil n0
  show Goes _ _ _ _ _ _ (T0.setTop (mkF m 0 #[.val (.ref a1), .val (.ref a2)] []))
  refine own_aloadN X0 hx (hb hby d11_0) rfl rfl ?_
  refine own_ifnonnullYes X0 hx (pc' := 13) (hb hby d11_1) (by decide) (by decide) ?_
  refine own_aloadN X0 hx (hb hby d11_13) rfl rfl ?_
  show Goes _ _ _ _ _ _ (T0.setTop (mkF m 14 #[.val (.ref a1), .val (.ref a2)] [(.ref a1)]))
  exact own_retR X0 hx N0 hlk (by decide) (by decide) hret rfl rfl rfl (hb hby d11_14) (by rw [e0]; exact ⟨rfl, rfl⟩)
theorem d24_0 : decode jdk_42_method_66_code 0 = .ok (.aload_n 0, 1) := by decide +kernel
theorem d24_1 : decode jdk_42_method_66_code 1 = .ok (.aload_n 1, 1) := by decide +kernel
theorem d24_2 : decode jdk_42_method_66_code 2 = .ok (.if_acmp .ne 5, 3) := by decide +kernel
theorem d24_5 : decode jdk_42_method_66_code 5 = .ok (.iconst 1, 1) := by decide +kernel
theorem d24_6 : decode jdk_42_method_66_code 6 = .ok (.ireturn, 1) := by decide +kernel
def Q24 (Z : State) (a1 : Addr) (a1 : Addr) (h0 : Heap) (n0 : Nat) (v : Option Value) (h : Heap) : Prop :=
  (v = some (.int (1 : Int32)) ∧ h = h0)
theorem ef_24 (m : MethodId) (a1 : Addr) (a1 : Addr) : entryFrame m #[(.ref a1), (.ref a1)] 3 = mkF m 0 #[.val (.ref a1), .val (.ref a1), .unset] [] := by first | (simp [entryFrame, mkF, argsToLocals, Value.category]; done) | rfl
set_option maxRecDepth 65536 in
set_option maxHeartbeats 40000000 in
theorem rm24 (l : Launch) (Z : State) (a0 : Array Value) (hw : ∀ d ∈ tables_1, d.before a0 Z = true) (ws : List Jvm.Cond) (a1 : Addr) (a1 : Addr) (h0 : Heap) (n0 : Nat) (O0 : Old Z n0 h0) :
    Meets l (⟨"java/lang/String", "equals", "(Ljava/lang/Object;)Z"⟩ : MethodName) jdk_42_method_66_code 3 (some .boolean) ws ({ frames := 0, cells := 0, slots := 0, locals := 0 } : Room) ({ frames := 0, cells := 0, slots := 0, locals := 0 } : Room).cells ({ frames := 0, cells := 0, slots := 0, locals := 0 } : Room).slots Z #[(.ref a1), (.ref a1)] h0 n0 (Q24 Z a1 a1 h0 n0) := by
  refine Meets.of (F := fun m => mkF m 0 #[.val (.ref a1), .val (.ref a1), .unset] []) (plainFor_of_name pn_0) (fun m => ef_24 m a1 a1) ?_
  intro p e s m below meth c T0 hx hby hml hown0 hnm hret hlk hZ X0 e0
  have hown : s.vm.findClass "java/lang/String" = some m.cls := hown0
  have N0 := Fr.nil n0
  show Goes _ _ _ _ _ _ (T0.setTop (mkF m 0 #[.val (.ref a1), .val (.ref a1), .unset] []))
  refine own_aloadN X0 hx (hb hby d24_0) rfl rfl ?_
  refine own_aloadN X0 hx (hb hby d24_1) rfl rfl ?_
  refine own_acmp X0 hx rfl rfl (same := true) (pc' := 5) (hb hby d24_2) (decide_eq_true rfl) (by decide) (by decide) ?_
  refine own_iconst X0 hx (v := (1 : Int32)) (hb hby d24_5) rfl ?_
  show Goes _ _ _ _ _ _ (T0.setTop (mkF m 6 #[.val (.ref a1), .val (.ref a1), .unset] [(.int (1 : Int32))]))
  exact own_retN X0 hx (t := .boolean) N0 hlk (by decide) (by decide) hret (by simp) (hb hby d24_6) (by rw [e0]; exact ⟨rfl, rfl⟩)
theorem d21_0 : decode jdk_42_method_54_code 0 = .ok (.aload_n 0, 1) := by decide +kernel
theorem d21_1 : decode jdk_42_method_54_code 1 = .ok (.getfield 9, 3) := by decide +kernel
theorem d21_4 : decode jdk_42_method_54_code 4 = .ok (.arraylength, 1) := by decide +kernel
theorem d21_5 : decode jdk_42_method_54_code 5 = .ok (.aload_n 0, 1) := by decide +kernel
theorem d21_6 : decode jdk_42_method_54_code 6 = .ok (.invokevirtual 335, 3) := by decide +kernel
theorem pd_0 : parseMethodDescriptor "()B" = some ⟨[], some .byte⟩ := by decide +kernel
theorem d21_9 : decode jdk_42_method_54_code 9 = .ok (.ishr, 1) := by decide +kernel
theorem d21_10 : decode jdk_42_method_54_code 10 = .ok (.ireturn, 1) := by decide +kernel
def Q211 (Z : State) (a1 : Addr) (t : Addr) (k : ClassId) (x0 : Int32) (zc : Int32) (h0 : Heap) (n0 : Nat) (v : Option Value) (h : Heap) : Prop :=
  (v = some (.int (1 : Int32)) ∧ h = h0)
theorem ef_211 (m : MethodId) (a1 : Addr) : entryFrame m #[(.ref a1)] 1 = mkF m 0 #[.val (.ref a1)] [] := by first | (simp [entryFrame, mkF, argsToLocals, Value.category]; done) | rfl
set_option maxRecDepth 65536 in
set_option maxHeartbeats 40000000 in
theorem rm211 (l : Launch) (Z : State) (a0 : Array Value) (hw : ∀ d ∈ tables_1, d.before a0 Z = true) (ws : List Jvm.Cond) (a1 : Addr) (t : Addr) (k : ClassId) (x0 : Int32) (zc : Int32) (h0 : Heap) (n0 : Nat) (O0 : Old Z n0 h0) (SF : Start Z zc) (f0 : Exa Z h0 a1 "java/lang/String") (f1 : Fld Z h0 a1 "java/lang/String" "value" "[B" (.ref t)) (f2 : Fld Z h0 a1 "java/lang/String" "coder" "B" (.int (0 : Int32))) (f3 : Arv Z h0 t k .byte (1 : Int32) [(.int x0)] (.int (0 : Int32))) :
    Meets l (⟨"java/lang/String", "length", "()I"⟩ : MethodName) jdk_42_method_54_code 1 (some .int) ws ({ frames := 1, cells := 0, slots := 0, locals := 13 } : Room) ({ frames := 1, cells := 0, slots := 0, locals := 13 } : Room).cells ({ frames := 1, cells := 0, slots := 0, locals := 13 } : Room).slots Z #[(.ref a1)] h0 n0 (Q211 Z a1 t k x0 zc h0 n0) := by
  refine Meets.of (F := fun m => mkF m 0 #[.val (.ref a1)] []) (plainFor_of_name pn_0) (fun m => ef_211 m a1) ?_
  intro p e s m below meth c T0 hx hby hml hown0 hnm hret hlk hZ X0 e0
  have hown : s.vm.findClass "java/lang/String" = some m.cls := hown0
  have N0 := Fr.nil n0
  obtain ⟨z0, hzc, -⟩ := SF
  show Goes _ _ _ _ _ _ (T0.setTop (mkF m 0 #[.val (.ref a1)] []))
  refine own_aloadN X0 hx (hb hby d21_0) rfl rfl ?_
  refine own_getF X0 hx hZ hown (host := "") (Or.inl (hw _ (List.mem_of_getElem? (i := 25) rfl))) Via.refl e0 f1 (hb hby d21_1) (fun T1 X1 e1 => ?_)
  refine own_alen X1 hx hZ e1 f3 (hb hby d21_4) ?_
  refine own_aloadN X1 hx (hb hby d21_5) rfl rfl ?_
  refine own_virtual X1 hx hZ hown (y := (⟨"java/lang/String", "coder", "()B"⟩ : MethodName)) (z := (⟨"java/lang/String", "coder", "()B"⟩ : MethodName)) (hw _ (List.mem_of_getElem? (i := 78) rfl)) (hw _ (List.mem_of_getElem? (i := 79) rfl)) (notFace_of_selects (args := #[]) (mvT hZ (hw _ (List.mem_of_getElem? (i := 81) rfl)))) (hw _ (List.mem_of_getElem? (i := 81) rfl)) (hw _ (List.mem_of_getElem? (i := 80) rfl)) (hw _ (List.mem_of_getElem? (i := 8) rfl)) (hw _ (List.mem_of_getElem? (i := 82) rfl)) (a := a1) f0 (by decide) (W := 1) (by decide) (by decide) N0 e1 (by rw [hml]; rfl) (argsL := []) (rest := [(.int (1 : Int32))]) (lenOf pd_0 rfl) (Nat.le_of_eq rfl) (by decide) (by decide) (rm16 l Z a0 hw [] a1 zc h0 n0 O0 ⟨z0, hzc, trivial⟩ f2) rfl (hb hby d21_6) ?_
  intro v2 T2 lc2 X2 N2 hQ2
  obtain ⟨rfl, e2⟩ := hQ2
  refine own_ishr X2 hx (hb hby d21_9) ?_
  show Goes _ _ _ _ _ _ (T2.setTop (mkF m 10 #[.val (.ref a1)] [(.int ((1 : Int32) >>> ((0 : Int32) &&& 31)))]))
  exact own_retI X2 hx N2 hlk (by decide) (by decide) hret (hb hby d21_10) (by rw [e2]; exact ⟨(by first | rfl | exact congrArg (fun z => some (Value.int z)) (by decide)), rfl⟩)
theorem d12_0 : decode jdk_42_method_55_code 0 = .ok (.aload_n 0, 1) := by decide +kernel
theorem d12_1 : decode jdk_42_method_55_code 1 = .ok (.getfield 9, 3) := by decide +kernel
theorem d12_4 : decode jdk_42_method_55_code 4 = .ok (.arraylength, 1) := by decide +kernel
theorem d12_5 : decode jdk_42_method_55_code 5 = .ok (.ifCond .ne 7, 3) := by decide +kernel
theorem d12_12 : decode jdk_42_method_55_code 12 = .ok (.iconst 0, 1) := by decide +kernel
theorem d12_13 : decode jdk_42_method_55_code 13 = .ok (.ireturn, 1) := by decide +kernel
def Q121 (Z : State) (a1 : Addr) (t : Addr) (k : ClassId) (x0 : Int32) (zc : Int32) (h0 : Heap) (n0 : Nat) (v : Option Value) (h : Heap) : Prop :=
  (v = some (.int (0 : Int32)) ∧ h = h0)
theorem ef_121 (m : MethodId) (a1 : Addr) : entryFrame m #[(.ref a1)] 1 = mkF m 0 #[.val (.ref a1)] [] := by first | (simp [entryFrame, mkF, argsToLocals, Value.category]; done) | rfl
set_option maxRecDepth 65536 in
set_option maxHeartbeats 40000000 in
theorem rm121 (l : Launch) (Z : State) (a0 : Array Value) (hw : ∀ d ∈ tables_1, d.before a0 Z = true) (ws : List Jvm.Cond) (a1 : Addr) (t : Addr) (k : ClassId) (x0 : Int32) (zc : Int32) (h0 : Heap) (n0 : Nat) (O0 : Old Z n0 h0) (SF : Start Z zc) (f0 : Exa Z h0 a1 "java/lang/String") (f1 : Fld Z h0 a1 "java/lang/String" "value" "[B" (.ref t)) (f2 : Fld Z h0 a1 "java/lang/String" "coder" "B" (.int (0 : Int32))) (f3 : Arv Z h0 t k .byte (1 : Int32) [(.int x0)] (.int (0 : Int32))) :
    Meets l (⟨"java/lang/String", "isEmpty", "()Z"⟩ : MethodName) jdk_42_method_55_code 1 (some .boolean) ws ({ frames := 0, cells := 0, slots := 0, locals := 0 } : Room) ({ frames := 0, cells := 0, slots := 0, locals := 0 } : Room).cells ({ frames := 0, cells := 0, slots := 0, locals := 0 } : Room).slots Z #[(.ref a1)] h0 n0 (Q121 Z a1 t k x0 zc h0 n0) := by
  refine Meets.of (F := fun m => mkF m 0 #[.val (.ref a1)] []) (plainFor_of_name pn_0) (fun m => ef_121 m a1) ?_
  intro p e s m below meth c T0 hx hby hml hown0 hnm hret hlk hZ X0 e0
  have hown : s.vm.findClass "java/lang/String" = some m.cls := hown0
  have N0 := Fr.nil n0
  obtain ⟨z0, hzc, -⟩ := SF
  show Goes _ _ _ _ _ _ (T0.setTop (mkF m 0 #[.val (.ref a1)] []))
  refine own_aloadN X0 hx (hb hby d12_0) rfl rfl ?_
  refine own_getF X0 hx hZ hown (host := "") (Or.inl (hw _ (List.mem_of_getElem? (i := 25) rfl))) Via.refl e0 f1 (hb hby d12_1) (fun T1 X1 e1 => ?_)
  refine own_alen X1 hx hZ e1 f3 (hb hby d12_4) ?_
  refine own_ifYes X1 hx (pc' := 12) (hb hby d12_5) ((if0 _ _).trans (feq (by decide : ¬ ((1 : Int32) = (0 : Int32)))).2) (by decide) (by decide) ?_
  refine own_iconst X1 hx (v := (0 : Int32)) (hb hby d12_12) rfl ?_
  show Goes _ _ _ _ _ _ (T1.setTop (mkF m 13 #[.val (.ref a1)] [(.int (0 : Int32))]))
  exact own_retN X1 hx (t := .boolean) N0 hlk (by decide) (by decide) hret (by simp) (hb hby d12_13) (by rw [e1]; exact ⟨rfl, rfl⟩)
theorem d19_0 : decode jdk_43_method_25_code 0 = .ok (.aload_n 2, 1) := by decide +kernel
theorem d19_1 : decode jdk_43_method_25_code 1 = .ok (.iconst 0, 1) := by decide +kernel
theorem d19_2 : decode jdk_43_method_25_code 2 = .ok (.baload, 1) := by decide +kernel
theorem d19_3 : decode jdk_43_method_25_code 3 = .ok (.istore 5, 2) := by decide +kernel
theorem d19_5 : decode jdk_43_method_25_code 5 = .ok (.iload_n 1, 1) := by decide +kernel
theorem d19_6 : decode jdk_43_method_25_code 6 = .ok (.iload_n 3, 1) := by decide +kernel
theorem d19_7 : decode jdk_43_method_25_code 7 = .ok (.isub, 1) := by decide +kernel
theorem d19_8 : decode jdk_43_method_25_code 8 = .ok (.istore 6, 2) := by decide +kernel
theorem d19_10 : decode jdk_43_method_25_code 10 = .ok (.iload 4, 2) := by decide +kernel
theorem d19_12 : decode jdk_43_method_25_code 12 = .ok (.istore 7, 2) := by decide +kernel
theorem d19_14 : decode jdk_43_method_25_code 14 = .ok (.iload 7, 2) := by decide +kernel
theorem d19_16 : decode jdk_43_method_25_code 16 = .ok (.iload 6, 2) := by decide +kernel
theorem d19_18 : decode jdk_43_method_25_code 18 = .ok (.if_icmp .gt 101, 3) := by decide +kernel
theorem d19_119 : decode jdk_43_method_25_code 119 = .ok (.iconst (-1), 1) := by decide +kernel
theorem d19_120 : decode jdk_43_method_25_code 120 = .ok (.ireturn, 1) := by decide +kernel
theorem pn_2 : plainName "java/lang/StringLatin1" = true := by first | (simp [plainName, overriddenIn]; done) | decide +kernel
def Q191a (Z : State) (a1 : Addr) (a3 : Addr) (k : ClassId) (k2 : ClassId) (x0 : Int32) (h0 : Heap) (n0 : Nat) (v : Option Value) (h : Heap) : Prop :=
  (v = some (.int (-1 : Int32)) ∧ h = h0)
theorem ef_191a (m : MethodId) (a1 : Addr) (a3 : Addr) : entryFrame m #[(.ref a1), (.int (1 : Int32)), (.ref a3), (.int (2 : Int32)), (.int (0 : Int32))] 11 = mkF m 0 #[.val (.ref a1), .val (.int (1 : Int32)), .val (.ref a3), .val (.int (2 : Int32)), .val (.int (0 : Int32)), .unset, .unset, .unset, .unset, .unset, .unset] [] := by first | (simp [entryFrame, mkF, argsToLocals, Value.category]; done) | rfl
set_option maxRecDepth 65536 in
set_option maxHeartbeats 40000000 in
theorem rm191a (l : Launch) (Z : State) (a0 : Array Value) (hw : ∀ d ∈ tables_1, d.before a0 Z = true) (ws : List Jvm.Cond) (a1 : Addr) (a3 : Addr) (k : ClassId) (k2 : ClassId) (x0 : Int32) (h0 : Heap) (n0 : Nat) (O0 : Old Z n0 h0) (f0 : Arv Z h0 a1 k .byte (1 : Int32) [(.int x0)] (.int (0 : Int32))) (f1 : Arv Z h0 a3 k2 .byte (2 : Int32) [(.int (45 : Int32)), (.int (62 : Int32))] (.int (0 : Int32))) :
    Meets l (⟨"java/lang/StringLatin1", "indexOf", "([BI[BII)I"⟩ : MethodName) jdk_43_method_25_code 11 (some .int) ws ({ frames := 0, cells := 0, slots := 0, locals := 0 } : Room) ({ frames := 0, cells := 0, slots := 0, locals := 0 } : Room).cells ({ frames := 0, cells := 0, slots := 0, locals := 0 } : Room).slots Z #[(.ref a1), (.int (1 : Int32)), (.ref a3), (.int (2 : Int32)), (.int (0 : Int32))] h0 n0 (Q191a Z a1 a3 k k2 x0 h0 n0) := by
  refine Meets.of (F := fun m => mkF m 0 #[.val (.ref a1), .val (.int (1 : Int32)), .val (.ref a3), .val (.int (2 : Int32)), .val (.int (0 : Int32)), .unset, .unset, .unset, .unset, .unset, .unset] []) (plainFor_of_name pn_2) (fun m => ef_191a m a1 a3) ?_
  intro p e s m below meth c T0 hx hby hml hown0 hnm hret hlk hZ X0 e0
  have hown : s.vm.findClass "java/lang/StringLatin1" = some m.cls := hown0
  have N0 := Fr.nil n0
  show Goes _ _ _ _ _ _ (T0.setTop (mkF m 0 #[.val (.ref a1), .val (.int (1 : Int32)), .val (.ref a3), .val (.int (2 : Int32)), .val (.int (0 : Int32)), .unset, .unset, .unset, .unset, .unset, .unset] []))
  refine own_aloadN X0 hx (hb hby d19_0) rfl rfl ?_
  refine own_iconst X0 hx (v := (0 : Int32)) (hb hby d19_1) rfl ?_
  refine own_baload X0 hx hZ e0 f1 ⟨by decide, by decide⟩ (v := (.int (45 : Int32))) rfl (hb hby d19_2) ?_
  refine own_istore X0 hx (Ls' := #[.val (.ref a1), .val (.int (1 : Int32)), .val (.ref a3), .val (.int (2 : Int32)), .val (.int (0 : Int32)), .val (.int (45 : Int32)), .unset, .unset, .unset, .unset, .unset]) (hb hby d19_3) rfl ?_
  refine own_iloadN X0 hx (hb hby d19_5) rfl ?_
  refine own_iloadN X0 hx (hb hby d19_6) rfl ?_
  refine own_isub X0 hx (hb hby d19_7) ?_
  refine own_istore X0 hx (Ls' := #[.val (.ref a1), .val (.int (1 : Int32)), .val (.ref a3), .val (.int (2 : Int32)), .val (.int (0 : Int32)), .val (.int (45 : Int32)), .val (.int ((1 : Int32) - (2 : Int32))), .unset, .unset, .unset, .unset]) (hb hby d19_8) rfl ?_
  refine own_iload X0 hx (hb hby d19_10) rfl ?_
  refine own_istore X0 hx (Ls' := #[.val (.ref a1), .val (.int (1 : Int32)), .val (.ref a3), .val (.int (2 : Int32)), .val (.int (0 : Int32)), .val (.int (45 : Int32)), .val (.int ((1 : Int32) - (2 : Int32))), .val (.int (0 : Int32)), .unset, .unset, .unset]) (hb hby d19_12) rfl ?_
  refine own_iload X0 hx (hb hby d19_14) rfl ?_
  refine own_iload X0 hx (hb hby d19_16) rfl ?_
  refine own_icmpYes X0 hx (pc' := 119) (hb hby d19_18) (tlt (by decide : ((1 : Int32) - (2 : Int32)) < (0 : Int32))).2.2.1 (by decide) (by decide) ?_
  refine own_iconst X0 hx (v := (-1 : Int32)) (hb hby d19_119) rfl ?_
  show Goes _ _ _ _ _ _ (T0.setTop (mkF m 120 #[.val (.ref a1), .val (.int (1 : Int32)), .val (.ref a3), .val (.int (2 : Int32)), .val (.int (0 : Int32)), .val (.int (45 : Int32)), .val (.int ((1 : Int32) - (2 : Int32))), .val (.int (0 : Int32)), .unset, .unset, .unset] [(.int (-1 : Int32))]))
  exact own_retI X0 hx N0 hlk (by decide) (by decide) hret (hb hby d19_120) (by rw [e0]; exact ⟨rfl, rfl⟩)
theorem d18_0 : decode jdk_43_method_24_code 0 = .ok (.aload_n 1, 1) := by decide +kernel
theorem d18_1 : decode jdk_43_method_24_code 1 = .ok (.arraylength, 1) := by decide +kernel
theorem d18_2 : decode jdk_43_method_24_code 2 = .ok (.ifCond .ne 5, 3) := by decide +kernel
theorem d18_7 : decode jdk_43_method_24_code 7 = .ok (.aload_n 0, 1) := by decide +kernel
theorem d18_8 : decode jdk_43_method_24_code 8 = .ok (.arraylength, 1) := by decide +kernel
theorem d18_9 : decode jdk_43_method_24_code 9 = .ok (.ifCond .ne 5, 3) := by decide +kernel
theorem d18_14 : decode jdk_43_method_24_code 14 = .ok (.aload_n 0, 1) := by decide +kernel
theorem d18_15 : decode jdk_43_method_24_code 15 = .ok (.aload_n 0, 1) := by decide +kernel
theorem d18_16 : decode jdk_43_method_24_code 16 = .ok (.arraylength, 1) := by decide +kernel
theorem d18_17 : decode jdk_43_method_24_code 17 = .ok (.aload_n 1, 1) := by decide +kernel
theorem d18_18 : decode jdk_43_method_24_code 18 = .ok (.aload_n 1, 1) := by decide +kernel
theorem d18_19 : decode jdk_43_method_24_code 19 = .ok (.arraylength, 1) := by decide +kernel
theorem d18_20 : decode jdk_43_method_24_code 20 = .ok (.iconst 0, 1) := by decide +kernel
theorem d18_21 : decode jdk_43_method_24_code 21 = .ok (.invokestatic 99, 3) := by decide +kernel
theorem pd_1 : parseMethodDescriptor "([BI[BII)I" = some ⟨[(.array .byte), .int, (.array .byte), .int, .int], some .int⟩ := by decide +kernel
theorem d18_24 : decode jdk_43_method_24_code 24 = .ok (.ireturn, 1) := by decide +kernel
def Q181a (Z : State) (a1 : Addr) (a2 : Addr) (k : ClassId) (k2 : ClassId) (x0 : Int32) (h0 : Heap) (n0 : Nat) (v : Option Value) (h : Heap) : Prop :=
  (v = some (.int (-1 : Int32)) ∧ h = h0)
theorem ef_181a (m : MethodId) (a1 : Addr) (a2 : Addr) : entryFrame m #[(.ref a1), (.ref a2)] 2 = mkF m 0 #[.val (.ref a1), .val (.ref a2)] [] := by first | (simp [entryFrame, mkF, argsToLocals, Value.category]; done) | rfl
set_option maxRecDepth 65536 in
set_option maxHeartbeats 40000000 in
theorem rm181a (l : Launch) (Z : State) (a0 : Array Value) (hw : ∀ d ∈ tables_1, d.before a0 Z = true) (ws : List Jvm.Cond) (a1 : Addr) (a2 : Addr) (k : ClassId) (k2 : ClassId) (x0 : Int32) (h0 : Heap) (n0 : Nat) (O0 : Old Z n0 h0) (f0 : Arv Z h0 a1 k .byte (1 : Int32) [(.int x0)] (.int (0 : Int32))) (f1 : Arv Z h0 a2 k2 .byte (2 : Int32) [(.int (45 : Int32)), (.int (62 : Int32))] (.int (0 : Int32))) :
    Meets l (⟨"java/lang/StringLatin1", "indexOf", "([B[B)I"⟩ : MethodName) jdk_43_method_24_code 2 (some .int) ws ({ frames := 1, cells := 0, slots := 0, locals := 22 } : Room) ({ frames := 1, cells := 0, slots := 0, locals := 22 } : Room).cells ({ frames := 1, cells := 0, slots := 0, locals := 22 } : Room).slots Z #[(.ref a1), (.ref a2)] h0 n0 (Q181a Z a1 a2 k k2 x0 h0 n0) := by
  refine Meets.of (F := fun m => mkF m 0 #[.val (.ref a1), .val (.ref a2)] []) (plainFor_of_name pn_2) (fun m => ef_181a m a1 a2) ?_
  intro p e s m below meth c T0 hx hby hml hown0 hnm hret hlk hZ X0 e0
  have hown : s.vm.findClass "java/lang/StringLatin1" = some m.cls := hown0
  have N0 := Fr.nil n0
  show Goes _ _ _ _ _ _ (T0.setTop (mkF m 0 #[.val (.ref a1), .val (.ref a2)] []))
  refine own_aloadN X0 hx (hb hby d18_0) rfl rfl ?_
  refine own_alen X0 hx hZ e0 f1 (hb hby d18_1) ?_
  refine own_ifYes X0 hx (pc' := 7) (hb hby d18_2) ((if0 _ _).trans (feq (by decide : ¬ ((2 : Int32) = (0 : Int32)))).2) (by decide) (by decide) ?_
  refine own_aloadN X0 hx (hb hby d18_7) rfl rfl ?_
  refine own_alen X0 hx hZ e0 f0 (hb hby d18_8) ?_
  refine own_ifYes X0 hx (pc' := 14) (hb hby d18_9) ((if0 _ _).trans (feq (by decide : ¬ ((1 : Int32) = (0 : Int32)))).2) (by decide) (by decide) ?_
  refine own_aloadN X0 hx (hb hby d18_14) rfl rfl ?_
  refine own_aloadN X0 hx (hb hby d18_15) rfl rfl ?_
  refine own_alen X0 hx hZ e0 f0 (hb hby d18_16) ?_
  refine own_aloadN X0 hx (hb hby d18_17) rfl rfl ?_
  refine own_aloadN X0 hx (hb hby d18_18) rfl rfl ?_
  show Goes _ _ _ _ _ _ (T0.setTop (mkF m 19 #[.val (.ref a1), .val (.ref a2)] [(.ref a2), (.ref a2), (.int (1 : Int32)), (.ref a1)]))
  refine own_alen X0 hx hZ e0 f1 (hb hby d18_19) ?_
  refine own_iconst X0 hx (v := (0 : Int32)) (hb hby d18_20) rfl ?_
  refine own_callS X0 hx hZ hown (y := (⟨"java/lang/StringLatin1", "indexOf", "([BI[BII)I"⟩ : MethodName)) (hw _ (List.mem_of_getElem? (i := 92) rfl)) (hw _ (List.mem_of_getElem? (i := 93) rfl)) (hw _ (List.mem_of_getElem? (i := 90) rfl)) (hw _ (List.mem_of_getElem? (i := 94) rfl)) (by decide) (W := 0) (by decide) (by decide) N0 e0 (by rw [hml]; rfl) (argsL := [(.ref a1), (.int (1 : Int32)), (.ref a2), (.int (2 : Int32)), (.int (0 : Int32))]) (rest := []) (lenOf pd_1 rfl) (Nat.le_of_eq rfl) (by decide) (by decide) (rm191a l Z a0 hw [] a1 a2 k k2 x0 h0 n0 O0 f0 f1) rfl (hb hby d18_21) ?_
  intro v1 T1 lc1 X1 N1 hQ1
  obtain ⟨rfl, e1⟩ := hQ1
  show Goes _ _ _ _ _ _ (T1.setTop (mkF m 24 #[.val (.ref a1), .val (.ref a2)] [(.int (-1 : Int32))]))
  exact own_retI X1 hx N1 hlk (by decide) (by decide) hret (hb hby d18_24) (by rw [e1]; exact ⟨rfl, rfl⟩)
theorem d15_0 : decode jdk_42_method_84_code 0 = .ok (.aload_n 0, 1) := by decide +kernel
theorem d15_1 : decode jdk_42_method_84_code 1 = .ok (.invokevirtual 335, 3) := by decide +kernel
theorem d15_4 : decode jdk_42_method_84_code 4 = .ok (.istore_n 2, 1) := by decide +kernel
theorem d15_5 : decode jdk_42_method_84_code 5 = .ok (.iload_n 2, 1) := by decide +kernel
theorem d15_6 : decode jdk_42_method_84_code 6 = .ok (.aload_n 1, 1) := by decide +kernel
theorem d15_7 : decode jdk_42_method_84_code 7 = .ok (.invokevirtual 335, 3) := by decide +kernel
theorem d15_10 : decode jdk_42_method_84_code 10 = .ok (.if_icmp .ne 36, 3) := by decide +kernel
theorem d15_13 : decode jdk_42_method_84_code 13 = .ok (.aload_n 0, 1) := by decide +kernel
theorem d15_14 : decode jdk_42_method_84_code 14 = .ok (.invokevirtual 492, 3) := by decide +kernel
theorem pd_2 : parseMethodDescriptor "()Z" = some ⟨[], some .boolean⟩ := by decide +kernel
theorem d15_17 : decode jdk_42_method_84_code 17 = .ok (.ifCond .eq 17, 3) := by decide +kernel
theorem d15_20 : decode jdk_42_method_84_code 20 = .ok (.aload_n 0, 1) := by decide +kernel
theorem d15_21 : decode jdk_42_method_84_code 21 = .ok (.getfield 9, 3) := by decide +kernel
theorem d15_24 : decode jdk_42_method_84_code 24 = .ok (.aload_n 1, 1) := by decide +kernel
theorem d15_25 : decode jdk_42_method_84_code 25 = .ok (.getfield 9, 3) := by decide +kernel
theorem d15_28 : decode jdk_42_method_84_code 28 = .ok (.invokestatic 647, 3) := by decide +kernel
theorem pd_3 : parseMethodDescriptor "([B[B)I" = some ⟨[(.array .byte), (.array .byte)], some .int⟩ := by decide +kernel
theorem d15_31 : decode jdk_42_method_84_code 31 = .ok (.goto 14, 3) := by decide +kernel
theorem d15_45 : decode jdk_42_method_84_code 45 = .ok (.ireturn, 1) := by decide +kernel
def Q151a (Z : State) (a1 : Addr) (a2 : Addr) (t : Addr) (k : ClassId) (x0 : Int32) (t2 : Addr) (k2 : ClassId) (zc : Int32) (h0 : Heap) (n0 : Nat) (v : Option Value) (h : Heap) : Prop :=
  (v = some (.int (-1 : Int32)) ∧ h = h0)
theorem ef_151a (m : MethodId) (a1 : Addr) (a2 : Addr) : entryFrame m #[(.ref a1), (.ref a2)] 3 = mkF m 0 #[.val (.ref a1), .val (.ref a2), .unset] [] := by first | (simp [entryFrame, mkF, argsToLocals, Value.category]; done) | rfl
set_option maxRecDepth 65536 in
set_option maxHeartbeats 40000000 in
theorem rm151a (l : Launch) (Z : State) (a0 : Array Value) (hw : ∀ d ∈ tables_1, d.before a0 Z = true) (ws : List Jvm.Cond) (a1 : Addr) (a2 : Addr) (t : Addr) (k : ClassId) (x0 : Int32) (t2 : Addr) (k2 : ClassId) (zc : Int32) (h0 : Heap) (n0 : Nat) (O0 : Old Z n0 h0) (SF : Start Z zc) (f0 : Exa Z h0 a1 "java/lang/String") (f1 : Fld Z h0 a1 "java/lang/String" "value" "[B" (.ref t)) (f2 : Fld Z h0 a1 "java/lang/String" "coder" "B" (.int (0 : Int32))) (f3 : Arv Z h0 t k .byte (1 : Int32) [(.int x0)] (.int (0 : Int32))) (f4 : Exa Z h0 a2 "java/lang/String") (f5 : Fld Z h0 a2 "java/lang/String" "value" "[B" (.ref t2)) (f6 : Fld Z h0 a2 "java/lang/String" "coder" "B" (.int (0 : Int32))) (f7 : Arv Z h0 t2 k2 .byte (2 : Int32) [(.int (45 : Int32)), (.int (62 : Int32))] (.int (0 : Int32))) :
    Meets l (⟨"java/lang/String", "indexOf", "(Ljava/lang/String;)I"⟩ : MethodName) jdk_42_method_84_code 3 (some .int) ws ({ frames := 2, cells := 0, slots := 0, locals := 35 } : Room) ({ frames := 2, cells := 0, slots := 0, locals := 35 } : Room).cells ({ frames := 2, cells := 0, slots := 0, locals := 35 } : Room).slots Z #[(.ref a1), (.ref a2)] h0 n0 (Q151a Z a1 a2 t k x0 t2 k2 zc h0 n0) := by
  refine Meets.of (F := fun m => mkF m 0 #[.val (.ref a1), .val (.ref a2), .unset] []) (plainFor_of_name pn_0) (fun m => ef_151a m a1 a2) ?_
  intro p e s m below meth c T0 hx hby hml hown0 hnm hret hlk hZ X0 e0
  have hown : s.vm.findClass "java/lang/String" = some m.cls := hown0
  have N0 := Fr.nil n0
  obtain ⟨z0, hzc, -⟩ := SF
  show Goes _ _ _ _ _ _ (T0.setTop (mkF m 0 #[.val (.ref a1), .val (.ref a2), .unset] []))
  refine own_aloadN X0 hx (hb hby d15_0) rfl rfl ?_
  refine own_virtual X0 hx hZ hown (y := (⟨"java/lang/String", "coder", "()B"⟩ : MethodName)) (z := (⟨"java/lang/String", "coder", "()B"⟩ : MethodName)) (hw _ (List.mem_of_getElem? (i := 78) rfl)) (hw _ (List.mem_of_getElem? (i := 79) rfl)) (notFace_of_selects (args := #[]) (mvT hZ (hw _ (List.mem_of_getElem? (i := 81) rfl)))) (hw _ (List.mem_of_getElem? (i := 81) rfl)) (hw _ (List.mem_of_getElem? (i := 80) rfl)) (hw _ (List.mem_of_getElem? (i := 8) rfl)) (hw _ (List.mem_of_getElem? (i := 82) rfl)) (a := a1) f0 (by decide) (W := 0) (by decide) (by decide) N0 e0 (by rw [hml]; rfl) (argsL := []) (rest := []) (lenOf pd_0 rfl) (Nat.le_of_eq rfl) (by decide) (by decide) (rm16 l Z a0 hw [] a1 zc h0 n0 O0 ⟨z0, hzc, trivial⟩ f2) rfl (hb hby d15_1) ?_
  intro v1 T1 lc1 X1 N1 hQ1
  obtain ⟨rfl, e1⟩ := hQ1
  refine own_istoreN X1 hx (Ls' := #[.val (.ref a1), .val (.ref a2), .val (.int (0 : Int32))]) (hb hby d15_4) rfl ?_
  refine own_iloadN X1 hx (hb hby d15_5) rfl ?_
  refine own_aloadN X1 hx (hb hby d15_6) rfl rfl ?_
  refine own_virtual X1 hx hZ hown (y := (⟨"java/lang/String", "coder", "()B"⟩ : MethodName)) (z := (⟨"java/lang/String", "coder", "()B"⟩ : MethodName)) (hw _ (List.mem_of_getElem? (i := 78) rfl)) (hw _ (List.mem_of_getElem? (i := 79) rfl)) (notFace_of_selects (args := #[]) (mvT hZ (hw _ (List.mem_of_getElem? (i := 81) rfl)))) (hw _ (List.mem_of_getElem? (i := 81) rfl)) (hw _ (List.mem_of_getElem? (i := 80) rfl)) (hw _ (List.mem_of_getElem? (i := 8) rfl)) (hw _ (List.mem_of_getElem? (i := 82) rfl)) (a := a2) f4 (by decide) (W := 1) (by decide) (by decide) N1 e1 (by rw [hml]; rfl) (argsL := []) (rest := [(.int (0 : Int32))]) (lenOf pd_0 rfl) (Nat.le_of_eq rfl) (by decide) (by decide) (rm16 l Z a0 hw [] a2 zc h0 n0 O0 ⟨z0, hzc, trivial⟩ f6) rfl (hb hby d15_7) ?_
  intro v2 T2 lc2 X2 N2 hQ2
  obtain ⟨rfl, e2⟩ := hQ2
  refine own_icmpNo X2 hx (hb hby d15_10) (teq (by decide : (0 : Int32) = (0 : Int32))).2 ?_
  refine own_aloadN X2 hx (hb hby d15_13) rfl rfl ?_
  refine own_virtual X2 hx hZ hown (y := (⟨"java/lang/String", "isLatin1", "()Z"⟩ : MethodName)) (z := (⟨"java/lang/String", "isLatin1", "()Z"⟩ : MethodName)) (hw _ (List.mem_of_getElem? (i := 83) rfl)) (hw _ (List.mem_of_getElem? (i := 84) rfl)) (notFace_of_selects (args := #[]) (mvT hZ (hw _ (List.mem_of_getElem? (i := 86) rfl)))) (hw _ (List.mem_of_getElem? (i := 86) rfl)) (hw _ (List.mem_of_getElem? (i := 85) rfl)) (hw _ (List.mem_of_getElem? (i := 8) rfl)) (hw _ (List.mem_of_getElem? (i := 87) rfl)) (a := a1) f0 (by decide) (W := 0) (by decide) (by decide) N2 e2 (by rw [hml]; rfl) (argsL := []) (rest := []) (lenOf pd_2 rfl) (Nat.le_of_eq rfl) (by decide) (by decide) (rm17 l Z a0 hw [] a1 zc h0 n0 O0 ⟨z0, hzc, trivial⟩ f2) rfl (hb hby d15_14) ?_
  intro v3 T3 lc3 X3 N3 hQ3
  obtain ⟨rfl, e3⟩ := hQ3
  refine own_ifNo X3 hx (hb hby d15_17) ((if0 _ _).trans (feq (by decide : ¬ ((1 : Int32) = (0 : Int32)))).1) ?_
  refine own_aloadN X3 hx (hb hby d15_20) rfl rfl ?_
  refine own_getF X3 hx hZ hown (host := "") (Or.inl (hw _ (List.mem_of_getElem? (i := 25) rfl))) Via.refl e3 f1 (hb hby d15_21) (fun T4 X4 e4 => ?_)
  refine own_aloadN X4 hx (hb hby d15_24) rfl rfl ?_
  refine own_getF X4 hx hZ hown (host := "") (Or.inl (hw _ (List.mem_of_getElem? (i := 25) rfl))) Via.refl e4 f5 (hb hby d15_25) (fun T5 X5 e5 => ?_)
  refine own_callS X5 hx hZ hown (y := (⟨"java/lang/StringLatin1", "indexOf", "([B[B)I"⟩ : MethodName)) (hw _ (List.mem_of_getElem? (i := 88) rfl)) (hw _ (List.mem_of_getElem? (i := 89) rfl)) (hw _ (List.mem_of_getElem? (i := 90) rfl)) (hw _ (List.mem_of_getElem? (i := 91) rfl)) (by decide) (W := 0) (by decide) (by decide) N3 e5 (by rw [hml]; rfl) (argsL := [(.ref t), (.ref t2)]) (rest := []) (lenOf pd_3 rfl) (Nat.le_of_eq rfl) (by decide) (by decide) (rm181a l Z a0 hw [] t t2 k k2 x0 h0 n0 O0 f3 f7) rfl (hb hby d15_28) ?_
  intro v6 T6 lc6 X6 N6 hQ6
  obtain ⟨rfl, e6⟩ := hQ6
  refine own_goto X6 hx (pc' := 45) (hb hby d15_31) (by decide) (by decide) ?_
  show Goes _ _ _ _ _ _ (T6.setTop (mkF m 45 #[.val (.ref a1), .val (.ref a2), .val (.int (0 : Int32))] [(.int (-1 : Int32))]))
  exact own_retI X6 hx N6 hlk (by decide) (by decide) hret (hb hby d15_45) (by rw [e6]; exact ⟨rfl, rfl⟩)
theorem d13_0 : decode jdk_42_method_97_code 0 = .ok (.aload_n 0, 1) := by decide +kernel
theorem d13_1 : decode jdk_42_method_97_code 1 = .ok (.aload_n 1, 1) := by decide +kernel
theorem d13_2 : decode jdk_42_method_97_code 2 = .ok (.invokeinterface 710 1, 5) := by decide +kernel
theorem pd_4 : parseMethodDescriptor "()Ljava/lang/String;" = some ⟨[], some (.object "java/lang/String")⟩ := by decide +kernel
theorem d13_7 : decode jdk_42_method_97_code 7 = .ok (.invokevirtual 711, 3) := by decide +kernel
theorem pd_5 : parseMethodDescriptor "(Ljava/lang/String;)I" = some ⟨[(.object "java/lang/String")], some .int⟩ := by decide +kernel
theorem d13_10 : decode jdk_42_method_97_code 10 = .ok (.ifCond .lt 7, 3) := by decide +kernel
theorem d13_17 : decode jdk_42_method_97_code 17 = .ok (.iconst 0, 1) := by decide +kernel
theorem d13_18 : decode jdk_42_method_97_code 18 = .ok (.ireturn, 1) := by decide +kernel
def Q131a (Z : State) (a1 : Addr) (a2 : Addr) (t : Addr) (k : ClassId) (x0 : Int32) (t2 : Addr) (k2 : ClassId) (zc : Int32) (h0 : Heap) (n0 : Nat) (v : Option Value) (h : Heap) : Prop :=
  (v = some (.int (0 : Int32)) ∧ h = h0)
theorem ef_131a (m : MethodId) (a1 : Addr) (a2 : Addr) : entryFrame m #[(.ref a1), (.ref a2)] 2 = mkF m 0 #[.val (.ref a1), .val (.ref a2)] [] := by first | (simp [entryFrame, mkF, argsToLocals, Value.category]; done) | rfl
set_option maxRecDepth 65536 in
set_option maxHeartbeats 40000000 in
theorem rm131a (l : Launch) (Z : State) (a0 : Array Value) (hw : ∀ d ∈ tables_1, d.before a0 Z = true) (ws : List Jvm.Cond) (a1 : Addr) (a2 : Addr) (t : Addr) (k : ClassId) (x0 : Int32) (t2 : Addr) (k2 : ClassId) (zc : Int32) (h0 : Heap) (n0 : Nat) (O0 : Old Z n0 h0) (SF : Start Z zc) (f0 : Exa Z h0 a1 "java/lang/String") (f1 : Fld Z h0 a1 "java/lang/String" "value" "[B" (.ref t)) (f2 : Fld Z h0 a1 "java/lang/String" "coder" "B" (.int (0 : Int32))) (f3 : Arv Z h0 t k .byte (1 : Int32) [(.int x0)] (.int (0 : Int32))) (f4 : Exa Z h0 a2 "java/lang/String") (f5 : Fld Z h0 a2 "java/lang/String" "value" "[B" (.ref t2)) (f6 : Fld Z h0 a2 "java/lang/String" "coder" "B" (.int (0 : Int32))) (f7 : Arv Z h0 t2 k2 .byte (2 : Int32) [(.int (45 : Int32)), (.int (62 : Int32))] (.int (0 : Int32))) :
    Meets l (⟨"java/lang/String", "contains", "(Ljava/lang/CharSequence;)Z"⟩ : MethodName) jdk_42_method_97_code 2 (some .boolean) ws ({ frames := 3, cells := 0, slots := 0, locals := 49 } : Room) ({ frames := 3, cells := 0, slots := 0, locals := 49 } : Room).cells ({ frames := 3, cells := 0, slots := 0, locals := 49 } : Room).slots Z #[(.ref a1), (.ref a2)] h0 n0 (Q131a Z a1 a2 t k x0 t2 k2 zc h0 n0) := by
  refine Meets.of (F := fun m => mkF m 0 #[.val (.ref a1), .val (.ref a2)] []) (plainFor_of_name pn_0) (fun m => ef_131a m a1 a2) ?_
  intro p e s m below meth c T0 hx hby hml hown0 hnm hret hlk hZ X0 e0
  have hown : s.vm.findClass "java/lang/String" = some m.cls := hown0
  have N0 := Fr.nil n0
  obtain ⟨z0, hzc, -⟩ := SF
  show Goes _ _ _ _ _ _ (T0.setTop (mkF m 0 #[.val (.ref a1), .val (.ref a2)] []))
  refine own_aloadN X0 hx (hb hby d13_0) rfl rfl ?_
  refine own_aloadN X0 hx (hb hby d13_1) rfl rfl ?_
  refine own_iface X0 hx hZ hown (y := (⟨"java/lang/CharSequence", "toString", "()Ljava/lang/String;"⟩ : MethodName)) (z := (⟨"java/lang/String", "toString", "()Ljava/lang/String;"⟩ : MethodName)) (hw _ (List.mem_of_getElem? (i := 64) rfl)) (hw _ (List.mem_of_getElem? (i := 65) rfl)) (hw _ (List.mem_of_getElem? (i := 66) rfl)) (hw _ (List.mem_of_getElem? (i := 67) rfl)) (hw _ (List.mem_of_getElem? (i := 68) rfl)) (hw _ (List.mem_of_getElem? (i := 69) rfl)) (hw _ (List.mem_of_getElem? (i := 70) rfl)) (hw _ (List.mem_of_getElem? (i := 71) rfl)) (hw _ (List.mem_of_getElem? (i := 8) rfl)) (hw _ (List.mem_of_getElem? (i := 72) rfl)) (a := a2) f4 (by decide) (W := 1) (by decide) (by decide) N0 e0 (by rw [hml]; rfl) (argsL := []) (rest := [(.ref a1)]) (lenOf pd_4 rfl) (Nat.le_of_eq rfl) (by decide) (by decide) (rm14 l Z a0 hw [] a2 h0 n0 O0) rfl (hb hby d13_2) ?_
  intro v1 T1 lc1 X1 N1 hQ1
  obtain ⟨rfl, e1⟩ := hQ1
  refine own_virtual X1 hx hZ hown (y := (⟨"java/lang/String", "indexOf", "(Ljava/lang/String;)I"⟩ : MethodName)) (z := (⟨"java/lang/String", "indexOf", "(Ljava/lang/String;)I"⟩ : MethodName)) (hw _ (List.mem_of_getElem? (i := 73) rfl)) (hw _ (List.mem_of_getElem? (i := 74) rfl)) (notFace_of_selects (args := #[]) (mvT hZ (hw _ (List.mem_of_getElem? (i := 76) rfl)))) (hw _ (List.mem_of_getElem? (i := 76) rfl)) (hw _ (List.mem_of_getElem? (i := 75) rfl)) (hw _ (List.mem_of_getElem? (i := 8) rfl)) (hw _ (List.mem_of_getElem? (i := 77) rfl)) (a := a1) f0 (by decide) (W := 0) (by decide) (by decide) N1 e1 (by rw [hml]; rfl) (argsL := [(.ref a2)]) (rest := []) (lenOf pd_5 rfl) (Nat.le_of_eq rfl) (by decide) (by decide) (rm151a l Z a0 hw [] a1 a2 t k x0 t2 k2 zc h0 n0 O0 ⟨z0, hzc, trivial⟩ f0 f1 f2 f3 f4 f5 f6 f7) rfl (hb hby d13_7) ?_
  intro v2 T2 lc2 X2 N2 hQ2
  obtain ⟨rfl, e2⟩ := hQ2
  refine own_ifYes X2 hx (pc' := 17) (hb hby d13_10) ((if0 _ _).trans (tlt (by decide : (-1 : Int32) < (0 : Int32))).1) (by decide) (by decide) ?_
  refine own_iconst X2 hx (v := (0 : Int32)) (hb hby d13_17) rfl ?_
  show Goes _ _ _ _ _ _ (T2.setTop (mkF m 18 #[.val (.ref a1), .val (.ref a2)] [(.int (0 : Int32))]))
  exact own_retN X2 hx (t := .boolean) N2 hlk (by decide) (by decide) hret (by simp) (hb hby d13_18) (by rw [e2]; exact ⟨rfl, rfl⟩)
def Q191c (Z : State) (a1 : Addr) (a3 : Addr) (k : ClassId) (k2 : ClassId) (x0 : Int32) (h0 : Heap) (n0 : Nat) (v : Option Value) (h : Heap) : Prop :=
  (v = some (.int (-1 : Int32)) ∧ h = h0)
theorem ef_191c (m : MethodId) (a1 : Addr) (a3 : Addr) : entryFrame m #[(.ref a1), (.int (1 : Int32)), (.ref a3), (.int (2 : Int32)), (.int (0 : Int32))] 11 = mkF m 0 #[.val (.ref a1), .val (.int (1 : Int32)), .val (.ref a3), .val (.int (2 : Int32)), .val (.int (0 : Int32)), .unset, .unset, .unset, .unset, .unset, .unset] [] := by first | (simp [entryFrame, mkF, argsToLocals, Value.category]; done) | rfl
set_option maxRecDepth 65536 in
set_option maxHeartbeats 40000000 in
theorem rm191c (l : Launch) (Z : State) (a0 : Array Value) (hw : ∀ d ∈ tables_1, d.before a0 Z = true) (ws : List Jvm.Cond) (a1 : Addr) (a3 : Addr) (k : ClassId) (k2 : ClassId) (x0 : Int32) (h0 : Heap) (n0 : Nat) (O0 : Old Z n0 h0) (f0 : Arv Z h0 a1 k .byte (1 : Int32) [(.int x0)] (.int (0 : Int32))) (f1 : Arv Z h0 a3 k2 .byte (2 : Int32) [(.int (58 : Int32)), (.int (58 : Int32))] (.int (0 : Int32))) :
    Meets l (⟨"java/lang/StringLatin1", "indexOf", "([BI[BII)I"⟩ : MethodName) jdk_43_method_25_code 11 (some .int) ws ({ frames := 0, cells := 0, slots := 0, locals := 0 } : Room) ({ frames := 0, cells := 0, slots := 0, locals := 0 } : Room).cells ({ frames := 0, cells := 0, slots := 0, locals := 0 } : Room).slots Z #[(.ref a1), (.int (1 : Int32)), (.ref a3), (.int (2 : Int32)), (.int (0 : Int32))] h0 n0 (Q191c Z a1 a3 k k2 x0 h0 n0) := by
  refine Meets.of (F := fun m => mkF m 0 #[.val (.ref a1), .val (.int (1 : Int32)), .val (.ref a3), .val (.int (2 : Int32)), .val (.int (0 : Int32)), .unset, .unset, .unset, .unset, .unset, .unset] []) (plainFor_of_name pn_2) (fun m => ef_191c m a1 a3) ?_
  intro p e s m below meth c T0 hx hby hml hown0 hnm hret hlk hZ X0 e0
  have hown : s.vm.findClass "java/lang/StringLatin1" = some m.cls := hown0
  have N0 := Fr.nil n0
  show Goes _ _ _ _ _ _ (T0.setTop (mkF m 0 #[.val (.ref a1), .val (.int (1 : Int32)), .val (.ref a3), .val (.int (2 : Int32)), .val (.int (0 : Int32)), .unset, .unset, .unset, .unset, .unset, .unset] []))
  refine own_aloadN X0 hx (hb hby d19_0) rfl rfl ?_
  refine own_iconst X0 hx (v := (0 : Int32)) (hb hby d19_1) rfl ?_
  refine own_baload X0 hx hZ e0 f1 ⟨by decide, by decide⟩ (v := (.int (58 : Int32))) rfl (hb hby d19_2) ?_
  refine own_istore X0 hx (Ls' := #[.val (.ref a1), .val (.int (1 : Int32)), .val (.ref a3), .val (.int (2 : Int32)), .val (.int (0 : Int32)), .val (.int (58 : Int32)), .unset, .unset, .unset, .unset, .unset]) (hb hby d19_3) rfl ?_
  refine own_iloadN X0 hx (hb hby d19_5) rfl ?_
  refine own_iloadN X0 hx (hb hby d19_6) rfl ?_
  refine own_isub X0 hx (hb hby d19_7) ?_
  refine own_istore X0 hx (Ls' := #[.val (.ref a1), .val (.int (1 : Int32)), .val (.ref a3), .val (.int (2 : Int32)), .val (.int (0 : Int32)), .val (.int (58 : Int32)), .val (.int ((1 : Int32) - (2 : Int32))), .unset, .unset, .unset, .unset]) (hb hby d19_8) rfl ?_
  refine own_iload X0 hx (hb hby d19_10) rfl ?_
  refine own_istore X0 hx (Ls' := #[.val (.ref a1), .val (.int (1 : Int32)), .val (.ref a3), .val (.int (2 : Int32)), .val (.int (0 : Int32)), .val (.int (58 : Int32)), .val (.int ((1 : Int32) - (2 : Int32))), .val (.int (0 : Int32)), .unset, .unset, .unset]) (hb hby d19_12) rfl ?_
  refine own_iload X0 hx (hb hby d19_14) rfl ?_
  refine own_iload X0 hx (hb hby d19_16) rfl ?_
  refine own_icmpYes X0 hx (pc' := 119) (hb hby d19_18) (tlt (by decide : ((1 : Int32) - (2 : Int32)) < (0 : Int32))).2.2.1 (by decide) (by decide) ?_
  refine own_iconst X0 hx (v := (-1 : Int32)) (hb hby d19_119) rfl ?_
  show Goes _ _ _ _ _ _ (T0.setTop (mkF m 120 #[.val (.ref a1), .val (.int (1 : Int32)), .val (.ref a3), .val (.int (2 : Int32)), .val (.int (0 : Int32)), .val (.int (58 : Int32)), .val (.int ((1 : Int32) - (2 : Int32))), .val (.int (0 : Int32)), .unset, .unset, .unset] [(.int (-1 : Int32))]))
  exact own_retI X0 hx N0 hlk (by decide) (by decide) hret (hb hby d19_120) (by rw [e0]; exact ⟨rfl, rfl⟩)
def Q181c (Z : State) (a1 : Addr) (a2 : Addr) (k : ClassId) (k2 : ClassId) (x0 : Int32) (h0 : Heap) (n0 : Nat) (v : Option Value) (h : Heap) : Prop :=
  (v = some (.int (-1 : Int32)) ∧ h = h0)
theorem ef_181c (m : MethodId) (a1 : Addr) (a2 : Addr) : entryFrame m #[(.ref a1), (.ref a2)] 2 = mkF m 0 #[.val (.ref a1), .val (.ref a2)] [] := by first | (simp [entryFrame, mkF, argsToLocals, Value.category]; done) | rfl
set_option maxRecDepth 65536 in
set_option maxHeartbeats 40000000 in
theorem rm181c (l : Launch) (Z : State) (a0 : Array Value) (hw : ∀ d ∈ tables_1, d.before a0 Z = true) (ws : List Jvm.Cond) (a1 : Addr) (a2 : Addr) (k : ClassId) (k2 : ClassId) (x0 : Int32) (h0 : Heap) (n0 : Nat) (O0 : Old Z n0 h0) (f0 : Arv Z h0 a1 k .byte (1 : Int32) [(.int x0)] (.int (0 : Int32))) (f1 : Arv Z h0 a2 k2 .byte (2 : Int32) [(.int (58 : Int32)), (.int (58 : Int32))] (.int (0 : Int32))) :
    Meets l (⟨"java/lang/StringLatin1", "indexOf", "([B[B)I"⟩ : MethodName) jdk_43_method_24_code 2 (some .int) ws ({ frames := 1, cells := 0, slots := 0, locals := 22 } : Room) ({ frames := 1, cells := 0, slots := 0, locals := 22 } : Room).cells ({ frames := 1, cells := 0, slots := 0, locals := 22 } : Room).slots Z #[(.ref a1), (.ref a2)] h0 n0 (Q181c Z a1 a2 k k2 x0 h0 n0) := by
  refine Meets.of (F := fun m => mkF m 0 #[.val (.ref a1), .val (.ref a2)] []) (plainFor_of_name pn_2) (fun m => ef_181c m a1 a2) ?_
  intro p e s m below meth c T0 hx hby hml hown0 hnm hret hlk hZ X0 e0
  have hown : s.vm.findClass "java/lang/StringLatin1" = some m.cls := hown0
  have N0 := Fr.nil n0
  show Goes _ _ _ _ _ _ (T0.setTop (mkF m 0 #[.val (.ref a1), .val (.ref a2)] []))
  refine own_aloadN X0 hx (hb hby d18_0) rfl rfl ?_
  refine own_alen X0 hx hZ e0 f1 (hb hby d18_1) ?_
  refine own_ifYes X0 hx (pc' := 7) (hb hby d18_2) ((if0 _ _).trans (feq (by decide : ¬ ((2 : Int32) = (0 : Int32)))).2) (by decide) (by decide) ?_
  refine own_aloadN X0 hx (hb hby d18_7) rfl rfl ?_
  refine own_alen X0 hx hZ e0 f0 (hb hby d18_8) ?_
  refine own_ifYes X0 hx (pc' := 14) (hb hby d18_9) ((if0 _ _).trans (feq (by decide : ¬ ((1 : Int32) = (0 : Int32)))).2) (by decide) (by decide) ?_
  refine own_aloadN X0 hx (hb hby d18_14) rfl rfl ?_
  refine own_aloadN X0 hx (hb hby d18_15) rfl rfl ?_
  refine own_alen X0 hx hZ e0 f0 (hb hby d18_16) ?_
  refine own_aloadN X0 hx (hb hby d18_17) rfl rfl ?_
  refine own_aloadN X0 hx (hb hby d18_18) rfl rfl ?_
  show Goes _ _ _ _ _ _ (T0.setTop (mkF m 19 #[.val (.ref a1), .val (.ref a2)] [(.ref a2), (.ref a2), (.int (1 : Int32)), (.ref a1)]))
  refine own_alen X0 hx hZ e0 f1 (hb hby d18_19) ?_
  refine own_iconst X0 hx (v := (0 : Int32)) (hb hby d18_20) rfl ?_
  refine own_callS X0 hx hZ hown (y := (⟨"java/lang/StringLatin1", "indexOf", "([BI[BII)I"⟩ : MethodName)) (hw _ (List.mem_of_getElem? (i := 92) rfl)) (hw _ (List.mem_of_getElem? (i := 93) rfl)) (hw _ (List.mem_of_getElem? (i := 90) rfl)) (hw _ (List.mem_of_getElem? (i := 94) rfl)) (by decide) (W := 0) (by decide) (by decide) N0 e0 (by rw [hml]; rfl) (argsL := [(.ref a1), (.int (1 : Int32)), (.ref a2), (.int (2 : Int32)), (.int (0 : Int32))]) (rest := []) (lenOf pd_1 rfl) (Nat.le_of_eq rfl) (by decide) (by decide) (rm191c l Z a0 hw [] a1 a2 k k2 x0 h0 n0 O0 f0 f1) rfl (hb hby d18_21) ?_
  intro v1 T1 lc1 X1 N1 hQ1
  obtain ⟨rfl, e1⟩ := hQ1
  show Goes _ _ _ _ _ _ (T1.setTop (mkF m 24 #[.val (.ref a1), .val (.ref a2)] [(.int (-1 : Int32))]))
  exact own_retI X1 hx N1 hlk (by decide) (by decide) hret (hb hby d18_24) (by rw [e1]; exact ⟨rfl, rfl⟩)
def Q151c (Z : State) (a1 : Addr) (a2 : Addr) (t : Addr) (k : ClassId) (x0 : Int32) (t2 : Addr) (k2 : ClassId) (zc : Int32) (h0 : Heap) (n0 : Nat) (v : Option Value) (h : Heap) : Prop :=
  (v = some (.int (-1 : Int32)) ∧ h = h0)
theorem ef_151c (m : MethodId) (a1 : Addr) (a2 : Addr) : entryFrame m #[(.ref a1), (.ref a2)] 3 = mkF m 0 #[.val (.ref a1), .val (.ref a2), .unset] [] := by first | (simp [entryFrame, mkF, argsToLocals, Value.category]; done) | rfl
set_option maxRecDepth 65536 in
set_option maxHeartbeats 40000000 in
theorem rm151c (l : Launch) (Z : State) (a0 : Array Value) (hw : ∀ d ∈ tables_1, d.before a0 Z = true) (ws : List Jvm.Cond) (a1 : Addr) (a2 : Addr) (t : Addr) (k : ClassId) (x0 : Int32) (t2 : Addr) (k2 : ClassId) (zc : Int32) (h0 : Heap) (n0 : Nat) (O0 : Old Z n0 h0) (SF : Start Z zc) (f0 : Exa Z h0 a1 "java/lang/String") (f1 : Fld Z h0 a1 "java/lang/String" "value" "[B" (.ref t)) (f2 : Fld Z h0 a1 "java/lang/String" "coder" "B" (.int (0 : Int32))) (f3 : Arv Z h0 t k .byte (1 : Int32) [(.int x0)] (.int (0 : Int32))) (f4 : Exa Z h0 a2 "java/lang/String") (f5 : Fld Z h0 a2 "java/lang/String" "value" "[B" (.ref t2)) (f6 : Fld Z h0 a2 "java/lang/String" "coder" "B" (.int (0 : Int32))) (f7 : Arv Z h0 t2 k2 .byte (2 : Int32) [(.int (58 : Int32)), (.int (58 : Int32))] (.int (0 : Int32))) :
    Meets l (⟨"java/lang/String", "indexOf", "(Ljava/lang/String;)I"⟩ : MethodName) jdk_42_method_84_code 3 (some .int) ws ({ frames := 2, cells := 0, slots := 0, locals := 35 } : Room) ({ frames := 2, cells := 0, slots := 0, locals := 35 } : Room).cells ({ frames := 2, cells := 0, slots := 0, locals := 35 } : Room).slots Z #[(.ref a1), (.ref a2)] h0 n0 (Q151c Z a1 a2 t k x0 t2 k2 zc h0 n0) := by
  refine Meets.of (F := fun m => mkF m 0 #[.val (.ref a1), .val (.ref a2), .unset] []) (plainFor_of_name pn_0) (fun m => ef_151c m a1 a2) ?_
  intro p e s m below meth c T0 hx hby hml hown0 hnm hret hlk hZ X0 e0
  have hown : s.vm.findClass "java/lang/String" = some m.cls := hown0
  have N0 := Fr.nil n0
  obtain ⟨z0, hzc, -⟩ := SF
  show Goes _ _ _ _ _ _ (T0.setTop (mkF m 0 #[.val (.ref a1), .val (.ref a2), .unset] []))
  refine own_aloadN X0 hx (hb hby d15_0) rfl rfl ?_
  refine own_virtual X0 hx hZ hown (y := (⟨"java/lang/String", "coder", "()B"⟩ : MethodName)) (z := (⟨"java/lang/String", "coder", "()B"⟩ : MethodName)) (hw _ (List.mem_of_getElem? (i := 78) rfl)) (hw _ (List.mem_of_getElem? (i := 79) rfl)) (notFace_of_selects (args := #[]) (mvT hZ (hw _ (List.mem_of_getElem? (i := 81) rfl)))) (hw _ (List.mem_of_getElem? (i := 81) rfl)) (hw _ (List.mem_of_getElem? (i := 80) rfl)) (hw _ (List.mem_of_getElem? (i := 8) rfl)) (hw _ (List.mem_of_getElem? (i := 82) rfl)) (a := a1) f0 (by decide) (W := 0) (by decide) (by decide) N0 e0 (by rw [hml]; rfl) (argsL := []) (rest := []) (lenOf pd_0 rfl) (Nat.le_of_eq rfl) (by decide) (by decide) (rm16 l Z a0 hw [] a1 zc h0 n0 O0 ⟨z0, hzc, trivial⟩ f2) rfl (hb hby d15_1) ?_
  intro v1 T1 lc1 X1 N1 hQ1
  obtain ⟨rfl, e1⟩ := hQ1
  refine own_istoreN X1 hx (Ls' := #[.val (.ref a1), .val (.ref a2), .val (.int (0 : Int32))]) (hb hby d15_4) rfl ?_
  refine own_iloadN X1 hx (hb hby d15_5) rfl ?_
  refine own_aloadN X1 hx (hb hby d15_6) rfl rfl ?_
  refine own_virtual X1 hx hZ hown (y := (⟨"java/lang/String", "coder", "()B"⟩ : MethodName)) (z := (⟨"java/lang/String", "coder", "()B"⟩ : MethodName)) (hw _ (List.mem_of_getElem? (i := 78) rfl)) (hw _ (List.mem_of_getElem? (i := 79) rfl)) (notFace_of_selects (args := #[]) (mvT hZ (hw _ (List.mem_of_getElem? (i := 81) rfl)))) (hw _ (List.mem_of_getElem? (i := 81) rfl)) (hw _ (List.mem_of_getElem? (i := 80) rfl)) (hw _ (List.mem_of_getElem? (i := 8) rfl)) (hw _ (List.mem_of_getElem? (i := 82) rfl)) (a := a2) f4 (by decide) (W := 1) (by decide) (by decide) N1 e1 (by rw [hml]; rfl) (argsL := []) (rest := [(.int (0 : Int32))]) (lenOf pd_0 rfl) (Nat.le_of_eq rfl) (by decide) (by decide) (rm16 l Z a0 hw [] a2 zc h0 n0 O0 ⟨z0, hzc, trivial⟩ f6) rfl (hb hby d15_7) ?_
  intro v2 T2 lc2 X2 N2 hQ2
  obtain ⟨rfl, e2⟩ := hQ2
  refine own_icmpNo X2 hx (hb hby d15_10) (teq (by decide : (0 : Int32) = (0 : Int32))).2 ?_
  refine own_aloadN X2 hx (hb hby d15_13) rfl rfl ?_
  refine own_virtual X2 hx hZ hown (y := (⟨"java/lang/String", "isLatin1", "()Z"⟩ : MethodName)) (z := (⟨"java/lang/String", "isLatin1", "()Z"⟩ : MethodName)) (hw _ (List.mem_of_getElem? (i := 83) rfl)) (hw _ (List.mem_of_getElem? (i := 84) rfl)) (notFace_of_selects (args := #[]) (mvT hZ (hw _ (List.mem_of_getElem? (i := 86) rfl)))) (hw _ (List.mem_of_getElem? (i := 86) rfl)) (hw _ (List.mem_of_getElem? (i := 85) rfl)) (hw _ (List.mem_of_getElem? (i := 8) rfl)) (hw _ (List.mem_of_getElem? (i := 87) rfl)) (a := a1) f0 (by decide) (W := 0) (by decide) (by decide) N2 e2 (by rw [hml]; rfl) (argsL := []) (rest := []) (lenOf pd_2 rfl) (Nat.le_of_eq rfl) (by decide) (by decide) (rm17 l Z a0 hw [] a1 zc h0 n0 O0 ⟨z0, hzc, trivial⟩ f2) rfl (hb hby d15_14) ?_
  intro v3 T3 lc3 X3 N3 hQ3
  obtain ⟨rfl, e3⟩ := hQ3
  refine own_ifNo X3 hx (hb hby d15_17) ((if0 _ _).trans (feq (by decide : ¬ ((1 : Int32) = (0 : Int32)))).1) ?_
  refine own_aloadN X3 hx (hb hby d15_20) rfl rfl ?_
  refine own_getF X3 hx hZ hown (host := "") (Or.inl (hw _ (List.mem_of_getElem? (i := 25) rfl))) Via.refl e3 f1 (hb hby d15_21) (fun T4 X4 e4 => ?_)
  refine own_aloadN X4 hx (hb hby d15_24) rfl rfl ?_
  refine own_getF X4 hx hZ hown (host := "") (Or.inl (hw _ (List.mem_of_getElem? (i := 25) rfl))) Via.refl e4 f5 (hb hby d15_25) (fun T5 X5 e5 => ?_)
  refine own_callS X5 hx hZ hown (y := (⟨"java/lang/StringLatin1", "indexOf", "([B[B)I"⟩ : MethodName)) (hw _ (List.mem_of_getElem? (i := 88) rfl)) (hw _ (List.mem_of_getElem? (i := 89) rfl)) (hw _ (List.mem_of_getElem? (i := 90) rfl)) (hw _ (List.mem_of_getElem? (i := 91) rfl)) (by decide) (W := 0) (by decide) (by decide) N3 e5 (by rw [hml]; rfl) (argsL := [(.ref t), (.ref t2)]) (rest := []) (lenOf pd_3 rfl) (Nat.le_of_eq rfl) (by decide) (by decide) (rm181c l Z a0 hw [] t t2 k k2 x0 h0 n0 O0 f3 f7) rfl (hb hby d15_28) ?_
  intro v6 T6 lc6 X6 N6 hQ6
  obtain ⟨rfl, e6⟩ := hQ6
  refine own_goto X6 hx (pc' := 45) (hb hby d15_31) (by decide) (by decide) ?_
  show Goes _ _ _ _ _ _ (T6.setTop (mkF m 45 #[.val (.ref a1), .val (.ref a2), .val (.int (0 : Int32))] [(.int (-1 : Int32))]))
  exact own_retI X6 hx N6 hlk (by decide) (by decide) hret (hb hby d15_45) (by rw [e6]; exact ⟨rfl, rfl⟩)
def Q131c (Z : State) (a1 : Addr) (a2 : Addr) (t : Addr) (k : ClassId) (x0 : Int32) (t2 : Addr) (k2 : ClassId) (zc : Int32) (h0 : Heap) (n0 : Nat) (v : Option Value) (h : Heap) : Prop :=
  (v = some (.int (0 : Int32)) ∧ h = h0)
theorem ef_131c (m : MethodId) (a1 : Addr) (a2 : Addr) : entryFrame m #[(.ref a1), (.ref a2)] 2 = mkF m 0 #[.val (.ref a1), .val (.ref a2)] [] := by first | (simp [entryFrame, mkF, argsToLocals, Value.category]; done) | rfl
set_option maxRecDepth 65536 in
set_option maxHeartbeats 40000000 in
theorem rm131c (l : Launch) (Z : State) (a0 : Array Value) (hw : ∀ d ∈ tables_1, d.before a0 Z = true) (ws : List Jvm.Cond) (a1 : Addr) (a2 : Addr) (t : Addr) (k : ClassId) (x0 : Int32) (t2 : Addr) (k2 : ClassId) (zc : Int32) (h0 : Heap) (n0 : Nat) (O0 : Old Z n0 h0) (SF : Start Z zc) (f0 : Exa Z h0 a1 "java/lang/String") (f1 : Fld Z h0 a1 "java/lang/String" "value" "[B" (.ref t)) (f2 : Fld Z h0 a1 "java/lang/String" "coder" "B" (.int (0 : Int32))) (f3 : Arv Z h0 t k .byte (1 : Int32) [(.int x0)] (.int (0 : Int32))) (f4 : Exa Z h0 a2 "java/lang/String") (f5 : Fld Z h0 a2 "java/lang/String" "value" "[B" (.ref t2)) (f6 : Fld Z h0 a2 "java/lang/String" "coder" "B" (.int (0 : Int32))) (f7 : Arv Z h0 t2 k2 .byte (2 : Int32) [(.int (58 : Int32)), (.int (58 : Int32))] (.int (0 : Int32))) :
    Meets l (⟨"java/lang/String", "contains", "(Ljava/lang/CharSequence;)Z"⟩ : MethodName) jdk_42_method_97_code 2 (some .boolean) ws ({ frames := 3, cells := 0, slots := 0, locals := 49 } : Room) ({ frames := 3, cells := 0, slots := 0, locals := 49 } : Room).cells ({ frames := 3, cells := 0, slots := 0, locals := 49 } : Room).slots Z #[(.ref a1), (.ref a2)] h0 n0 (Q131c Z a1 a2 t k x0 t2 k2 zc h0 n0) := by
  refine Meets.of (F := fun m => mkF m 0 #[.val (.ref a1), .val (.ref a2)] []) (plainFor_of_name pn_0) (fun m => ef_131c m a1 a2) ?_
  intro p e s m below meth c T0 hx hby hml hown0 hnm hret hlk hZ X0 e0
  have hown : s.vm.findClass "java/lang/String" = some m.cls := hown0
  have N0 := Fr.nil n0
  obtain ⟨z0, hzc, -⟩ := SF
  show Goes _ _ _ _ _ _ (T0.setTop (mkF m 0 #[.val (.ref a1), .val (.ref a2)] []))
  refine own_aloadN X0 hx (hb hby d13_0) rfl rfl ?_
  refine own_aloadN X0 hx (hb hby d13_1) rfl rfl ?_
  refine own_iface X0 hx hZ hown (y := (⟨"java/lang/CharSequence", "toString", "()Ljava/lang/String;"⟩ : MethodName)) (z := (⟨"java/lang/String", "toString", "()Ljava/lang/String;"⟩ : MethodName)) (hw _ (List.mem_of_getElem? (i := 64) rfl)) (hw _ (List.mem_of_getElem? (i := 65) rfl)) (hw _ (List.mem_of_getElem? (i := 66) rfl)) (hw _ (List.mem_of_getElem? (i := 67) rfl)) (hw _ (List.mem_of_getElem? (i := 68) rfl)) (hw _ (List.mem_of_getElem? (i := 69) rfl)) (hw _ (List.mem_of_getElem? (i := 70) rfl)) (hw _ (List.mem_of_getElem? (i := 71) rfl)) (hw _ (List.mem_of_getElem? (i := 8) rfl)) (hw _ (List.mem_of_getElem? (i := 72) rfl)) (a := a2) f4 (by decide) (W := 1) (by decide) (by decide) N0 e0 (by rw [hml]; rfl) (argsL := []) (rest := [(.ref a1)]) (lenOf pd_4 rfl) (Nat.le_of_eq rfl) (by decide) (by decide) (rm14 l Z a0 hw [] a2 h0 n0 O0) rfl (hb hby d13_2) ?_
  intro v1 T1 lc1 X1 N1 hQ1
  obtain ⟨rfl, e1⟩ := hQ1
  refine own_virtual X1 hx hZ hown (y := (⟨"java/lang/String", "indexOf", "(Ljava/lang/String;)I"⟩ : MethodName)) (z := (⟨"java/lang/String", "indexOf", "(Ljava/lang/String;)I"⟩ : MethodName)) (hw _ (List.mem_of_getElem? (i := 73) rfl)) (hw _ (List.mem_of_getElem? (i := 74) rfl)) (notFace_of_selects (args := #[]) (mvT hZ (hw _ (List.mem_of_getElem? (i := 76) rfl)))) (hw _ (List.mem_of_getElem? (i := 76) rfl)) (hw _ (List.mem_of_getElem? (i := 75) rfl)) (hw _ (List.mem_of_getElem? (i := 8) rfl)) (hw _ (List.mem_of_getElem? (i := 77) rfl)) (a := a1) f0 (by decide) (W := 0) (by decide) (by decide) N1 e1 (by rw [hml]; rfl) (argsL := [(.ref a2)]) (rest := []) (lenOf pd_5 rfl) (Nat.le_of_eq rfl) (by decide) (by decide) (rm151c l Z a0 hw [] a1 a2 t k x0 t2 k2 zc h0 n0 O0 ⟨z0, hzc, trivial⟩ f0 f1 f2 f3 f4 f5 f6 f7) rfl (hb hby d13_7) ?_
  intro v2 T2 lc2 X2 N2 hQ2
  obtain ⟨rfl, e2⟩ := hQ2
  refine own_ifYes X2 hx (pc' := 17) (hb hby d13_10) ((if0 _ _).trans (tlt (by decide : (-1 : Int32) < (0 : Int32))).1) (by decide) (by decide) ?_
  refine own_iconst X2 hx (v := (0 : Int32)) (hb hby d13_17) rfl ?_
  show Goes _ _ _ _ _ _ (T2.setTop (mkF m 18 #[.val (.ref a1), .val (.ref a2)] [(.int (0 : Int32))]))
  exact own_retN X2 hx (t := .boolean) N2 hlk (by decide) (by decide) hret (by simp) (hb hby d13_18) (by rw [e2]; exact ⟨rfl, rfl⟩)
theorem d23_0 : decode jdk_48_method_14_code 0 = .ok (.iconst 0, 1) := by decide +kernel
theorem d23_1 : decode jdk_48_method_14_code 1 = .ok (.istore 5, 2) := by decide +kernel
theorem d23_3 : decode jdk_48_method_14_code 3 = .ok (.iload 4, 2) := by decide +kernel
theorem d23_5 : decode jdk_48_method_14_code 5 = .ok (.bipush 7, 2) := by decide +kernel
theorem d23_7 : decode jdk_48_method_14_code 7 = .ok (.if_icmp .le 63, 3) := by decide +kernel
theorem d23_70 : decode jdk_48_method_14_code 70 = .ok (.iload 5, 2) := by decide +kernel
theorem d23_72 : decode jdk_48_method_14_code 72 = .ok (.iload 4, 2) := by decide +kernel
theorem d23_74 : decode jdk_48_method_14_code 74 = .ok (.if_icmp .ge 27, 3) := by decide +kernel
theorem d23_77 : decode jdk_48_method_14_code 77 = .ok (.aload_n 0, 1) := by decide +kernel
theorem d23_78 : decode jdk_48_method_14_code 78 = .ok (.iload_n 1, 1) := by decide +kernel
theorem d23_79 : decode jdk_48_method_14_code 79 = .ok (.iload 5, 2) := by decide +kernel
theorem d23_81 : decode jdk_48_method_14_code 81 = .ok (.iadd, 1) := by decide +kernel
theorem d23_82 : decode jdk_48_method_14_code 82 = .ok (.baload, 1) := by decide +kernel
theorem d23_83 : decode jdk_48_method_14_code 83 = .ok (.aload_n 2, 1) := by decide +kernel
theorem d23_84 : decode jdk_48_method_14_code 84 = .ok (.iload_n 3, 1) := by decide +kernel
theorem d23_85 : decode jdk_48_method_14_code 85 = .ok (.iload 5, 2) := by decide +kernel
theorem d23_87 : decode jdk_48_method_14_code 87 = .ok (.iadd, 1) := by decide +kernel
theorem d23_88 : decode jdk_48_method_14_code 88 = .ok (.baload, 1) := by decide +kernel
theorem d23_89 : decode jdk_48_method_14_code 89 = .ok (.if_icmp .eq 6, 3) := by decide +kernel
theorem d23_92 : decode jdk_48_method_14_code 92 = .ok (.iload 5, 2) := by decide +kernel
theorem d23_94 : decode jdk_48_method_14_code 94 = .ok (.ireturn, 1) := by decide +kernel
theorem pn_3 : plainName "jdk/internal/util/ArraysSupport" = true := by first | (simp [plainName, overriddenIn]; done) | decide +kernel
def Q231 (Z : State) (a1 : Addr) (a3 : Addr) (k : ClassId) (k2 : ClassId) (x0 : Int32) (h0 : Heap) (n0 : Nat) (v : Option Value) (h : Heap) : Prop :=
  (v = some (.int (0 : Int32)) ∧ h = h0)
theorem ef_231 (m : MethodId) (a1 : Addr) (a3 : Addr) : entryFrame m #[(.ref a1), (.int ((1 : Int32) - (1 : Int32))), (.ref a3), (.int (0 : Int32)), (.int (1 : Int32))] 8 = mkF m 0 #[.val (.ref a1), .val (.int ((1 : Int32) - (1 : Int32))), .val (.ref a3), .val (.int (0 : Int32)), .val (.int (1 : Int32)), .unset, .unset, .unset] [] := by first | (simp [entryFrame, mkF, argsToLocals, Value.category]; done) | rfl
set_option maxRecDepth 65536 in
set_option maxHeartbeats 40000000 in
theorem rm231 (l : Launch) (Z : State) (a0 : Array Value) (hw : ∀ d ∈ tables_1, d.before a0 Z = true) (ws : List Jvm.Cond) (a1 : Addr) (a3 : Addr) (k : ClassId) (k2 : ClassId) (x0 : Int32) (h0 : Heap) (n0 : Nat) (O0 : Old Z n0 h0) (f0 : Arv Z h0 a1 k .byte (1 : Int32) [(.int x0)] (.int (0 : Int32))) (f1 : Arv Z h0 a3 k2 .byte (1 : Int32) [(.int (58 : Int32))] (.int (0 : Int32))) (hpe : ¬ (x0 = (58 : Int32))) :
    Meets l (⟨"jdk/internal/util/ArraysSupport", "mismatch", "([BI[BII)I"⟩ : MethodName) jdk_48_method_14_code 8 (some .int) ws ({ frames := 0, cells := 0, slots := 0, locals := 0 } : Room) ({ frames := 0, cells := 0, slots := 0, locals := 0 } : Room).cells ({ frames := 0, cells := 0, slots := 0, locals := 0 } : Room).slots Z #[(.ref a1), (.int ((1 : Int32) - (1 : Int32))), (.ref a3), (.int (0 : Int32)), (.int (1 : Int32))] h0 n0 (Q231 Z a1 a3 k k2 x0 h0 n0) := by
  refine Meets.of (F := fun m => mkF m 0 #[.val (.ref a1), .val (.int ((1 : Int32) - (1 : Int32))), .val (.ref a3), .val (.int (0 : Int32)), .val (.int (1 : Int32)), .unset, .unset, .unset] []) (plainFor_of_name pn_3) (fun m => ef_231 m a1 a3) ?_
  intro p e s m below meth c T0 hx hby hml hown0 hnm hret hlk hZ X0 e0
  have hown : s.vm.findClass "jdk/internal/util/ArraysSupport" = some m.cls := hown0
  have N0 := Fr.nil n0
  show Goes _ _ _ _ _ _ (T0.setTop (mkF m 0 #[.val (.ref a1), .val (.int ((1 : Int32) - (1 : Int32))), .val (.ref a3), .val (.int (0 : Int32)), .val (.int (1 : Int32)), .unset, .unset, .unset] []))
  refine own_iconst X0 hx (v := (0 : Int32)) (hb hby d23_0) rfl ?_
  refine own_istore X0 hx (Ls' := #[.val (.ref a1), .val (.int ((1 : Int32) - (1 : Int32))), .val (.ref a3), .val (.int (0 : Int32)), .val (.int (1 : Int32)), .val (.int (0 : Int32)), .unset, .unset]) (hb hby d23_1) rfl ?_
  refine own_iload X0 hx (hb hby d23_3) rfl ?_
  refine own_bipush X0 hx (v := (7 : Int32)) (hb hby d23_5) rfl ?_
  refine own_icmpYes X0 hx (pc' := 70) (hb hby d23_7) (flt (by decide : ¬ ((7 : Int32) < (1 : Int32)))).2.2.2 (by decide) (by decide) ?_
  refine own_iload X0 hx (hb hby d23_70) rfl ?_
  refine own_iload X0 hx (hb hby d23_72) rfl ?_
  refine own_icmpNo X0 hx (hb hby d23_74) (tlt (by decide : (0 : Int32) < (1 : Int32))).2.1 ?_
  refine own_aloadN X0 hx (hb hby d23_77) rfl rfl ?_
  refine own_iloadN X0 hx (hb hby d23_78) rfl ?_
  refine own_iload X0 hx (hb hby d23_79) rfl ?_
  refine own_iadd X0 hx (hb hby d23_81) ?_
  refine own_baload X0 hx hZ e0 f0 ⟨by decide, by decide⟩ (v := (.int x0)) rfl (hb hby d23_82) ?_
  show Goes _ _ _ _ _ _ (T0.setTop (mkF m 83 #[.val (.ref a1), .val (.int ((1 : Int32) - (1 : Int32))), .val (.ref a3), .val (.int (0 : Int32)), .val (.int (1 : Int32)), .val (.int (0 : Int32)), .unset, .unset] [(.int x0)]))
  refine own_aloadN X0 hx (hb hby d23_83) rfl rfl ?_
  refine own_iloadN X0 hx (hb hby d23_84) rfl ?_
  refine own_iload X0 hx (hb hby d23_85) rfl ?_
  refine own_iadd X0 hx (hb hby d23_87) ?_
  refine own_baload X0 hx hZ e0 f1 ⟨by decide, by decide⟩ (v := (.int (58 : Int32))) rfl (hb hby d23_88) ?_
  refine own_icmpNo X0 hx (hb hby d23_89) (feq (hpe : ¬ (x0 = (58 : Int32)))).1 ?_
  refine own_iload X0 hx (hb hby d23_92) rfl ?_
  show Goes _ _ _ _ _ _ (T0.setTop (mkF m 94 #[.val (.ref a1), .val (.int ((1 : Int32) - (1 : Int32))), .val (.ref a3), .val (.int (0 : Int32)), .val (.int (1 : Int32)), .val (.int (0 : Int32)), .unset, .unset] [(.int (0 : Int32))]))
  exact own_retI X0 hx N0 hlk (by decide) (by decide) hret (hb hby d23_94) (by rw [e0]; exact ⟨rfl, rfl⟩)
theorem d22_0 : decode jdk_42_method_75_code 0 = .ok (.iload_n 2, 1) := by decide +kernel
theorem d22_1 : decode jdk_42_method_75_code 1 = .ok (.ifCond .lt 16, 3) := by decide +kernel
theorem d22_4 : decode jdk_42_method_75_code 4 = .ok (.iload_n 2, 1) := by decide +kernel
theorem d22_5 : decode jdk_42_method_75_code 5 = .ok (.aload_n 0, 1) := by decide +kernel
theorem d22_6 : decode jdk_42_method_75_code 6 = .ok (.invokevirtual 505, 3) := by decide +kernel
theorem pd_6 : parseMethodDescriptor "()I" = some ⟨[], some .int⟩ := by decide +kernel
theorem d22_9 : decode jdk_42_method_75_code 9 = .ok (.aload_n 1, 1) := by decide +kernel
theorem d22_10 : decode jdk_42_method_75_code 10 = .ok (.invokevirtual 505, 3) := by decide +kernel
theorem d22_13 : decode jdk_42_method_75_code 13 = .ok (.isub, 1) := by decide +kernel
theorem d22_14 : decode jdk_42_method_75_code 14 = .ok (.if_icmp .le 5, 3) := by decide +kernel
theorem d22_19 : decode jdk_42_method_75_code 19 = .ok (.aload_n 0, 1) := by decide +kernel
theorem d22_20 : decode jdk_42_method_75_code 20 = .ok (.getfield 9, 3) := by decide +kernel
theorem d22_23 : decode jdk_42_method_75_code 23 = .ok (.astore_n 3, 1) := by decide +kernel
theorem d22_24 : decode jdk_42_method_75_code 24 = .ok (.aload_n 1, 1) := by decide +kernel
theorem d22_25 : decode jdk_42_method_75_code 25 = .ok (.getfield 9, 3) := by decide +kernel
theorem d22_28 : decode jdk_42_method_75_code 28 = .ok (.astore 4, 2) := by decide +kernel
theorem d22_30 : decode jdk_42_method_75_code 30 = .ok (.iconst 0, 1) := by decide +kernel
theorem d22_31 : decode jdk_42_method_75_code 31 = .ok (.istore 5, 2) := by decide +kernel
theorem d22_33 : decode jdk_42_method_75_code 33 = .ok (.aload 4, 2) := by decide +kernel
theorem d22_35 : decode jdk_42_method_75_code 35 = .ok (.arraylength, 1) := by decide +kernel
theorem d22_36 : decode jdk_42_method_75_code 36 = .ok (.istore 6, 2) := by decide +kernel
theorem d22_38 : decode jdk_42_method_75_code 38 = .ok (.aload_n 0, 1) := by decide +kernel
theorem d22_39 : decode jdk_42_method_75_code 39 = .ok (.invokevirtual 335, 3) := by decide +kernel
theorem d22_42 : decode jdk_42_method_75_code 42 = .ok (.istore 7, 2) := by decide +kernel
theorem d22_44 : decode jdk_42_method_75_code 44 = .ok (.iload 7, 2) := by decide +kernel
theorem d22_46 : decode jdk_42_method_75_code 46 = .ok (.aload_n 1, 1) := by decide +kernel
theorem d22_47 : decode jdk_42_method_75_code 47 = .ok (.invokevirtual 335, 3) := by decide +kernel
theorem d22_50 : decode jdk_42_method_75_code 50 = .ok (.if_icmp .ne 32, 3) := by decide +kernel
theorem d22_53 : decode jdk_42_method_75_code 53 = .ok (.iload 7, 2) := by decide +kernel
theorem d22_55 : decode jdk_42_method_75_code 55 = .ok (.iconst 1, 1) := by decide +kernel
theorem d22_56 : decode jdk_42_method_75_code 56 = .ok (.if_icmp .ne 7, 3) := by decide +kernel
theorem d22_63 : decode jdk_42_method_75_code 63 = .ok (.aload_n 3, 1) := by decide +kernel
theorem d22_64 : decode jdk_42_method_75_code 64 = .ok (.iload_n 2, 1) := by decide +kernel
theorem d22_65 : decode jdk_42_method_75_code 65 = .ok (.aload 4, 2) := by decide +kernel
theorem d22_67 : decode jdk_42_method_75_code 67 = .ok (.iconst 0, 1) := by decide +kernel
theorem d22_68 : decode jdk_42_method_75_code 68 = .ok (.iload 6, 2) := by decide +kernel
theorem d22_70 : decode jdk_42_method_75_code 70 = .ok (.invokestatic 607, 3) := by decide +kernel
theorem d22_73 : decode jdk_42_method_75_code 73 = .ok (.ifCond .ge 7, 3) := by decide +kernel
theorem d22_80 : decode jdk_42_method_75_code 80 = .ok (.iconst 0, 1) := by decide +kernel
theorem d22_81 : decode jdk_42_method_75_code 81 = .ok (.ireturn, 1) := by decide +kernel
def Q221 (Z : State) (a1 : Addr) (a2 : Addr) (t : Addr) (k : ClassId) (x0 : Int32) (t2 : Addr) (k2 : ClassId) (zc : Int32) (h0 : Heap) (n0 : Nat) (v : Option Value) (h : Heap) : Prop :=
  (v = some (.int (0 : Int32)) ∧ h = h0)
theorem ef_221 (m : MethodId) (a1 : Addr) (a2 : Addr) : entryFrame m #[(.ref a1), (.ref a2), (.int ((1 : Int32) - (1 : Int32)))] 8 = mkF m 0 #[.val (.ref a1), .val (.ref a2), .val (.int ((1 : Int32) - (1 : Int32))), .unset, .unset, .unset, .unset, .unset] [] := by first | (simp [entryFrame, mkF, argsToLocals, Value.category]; done) | rfl
set_option maxRecDepth 65536 in
set_option maxHeartbeats 40000000 in
theorem rm221 (l : Launch) (Z : State) (a0 : Array Value) (hw : ∀ d ∈ tables_1, d.before a0 Z = true) (ws : List Jvm.Cond) (a1 : Addr) (a2 : Addr) (t : Addr) (k : ClassId) (x0 : Int32) (t2 : Addr) (k2 : ClassId) (zc : Int32) (h0 : Heap) (n0 : Nat) (O0 : Old Z n0 h0) (SF : Start Z zc) (f0 : Exa Z h0 a1 "java/lang/String") (f1 : Fld Z h0 a1 "java/lang/String" "value" "[B" (.ref t)) (f2 : Fld Z h0 a1 "java/lang/String" "coder" "B" (.int (0 : Int32))) (f3 : Arv Z h0 t k .byte (1 : Int32) [(.int x0)] (.int (0 : Int32))) (f4 : Exa Z h0 a2 "java/lang/String") (f5 : Fld Z h0 a2 "java/lang/String" "value" "[B" (.ref t2)) (f6 : Fld Z h0 a2 "java/lang/String" "coder" "B" (.int (0 : Int32))) (f7 : Arv Z h0 t2 k2 .byte (1 : Int32) [(.int (58 : Int32))] (.int (0 : Int32))) (hpe : ¬ (x0 = (58 : Int32))) :
    Meets l (⟨"java/lang/String", "startsWith", "(Ljava/lang/String;I)Z"⟩ : MethodName) jdk_42_method_75_code 8 (some .boolean) ws ({ frames := 2, cells := 0, slots := 0, locals := 27 } : Room) ({ frames := 2, cells := 0, slots := 0, locals := 27 } : Room).cells ({ frames := 2, cells := 0, slots := 0, locals := 27 } : Room).slots Z #[(.ref a1), (.ref a2), (.int ((1 : Int32) - (1 : Int32)))] h0 n0 (Q221 Z a1 a2 t k x0 t2 k2 zc h0 n0) := by
  refine Meets.of (F := fun m => mkF m 0 #[.val (.ref a1), .val (.ref a2), .val (.int ((1 : Int32) - (1 : Int32))), .unset, .unset, .unset, .unset, .unset] []) (plainFor_of_name pn_0) (fun m => ef_221 m a1 a2) ?_
  intro p e s m below meth c T0 hx hby hml hown0 hnm hret hlk hZ X0 e0
  have hown : s.vm.findClass "java/lang/String" = some m.cls := hown0
  have N0 := Fr.nil n0
  obtain ⟨z0, hzc, -⟩ := SF
  show Goes _ _ _ _ _ _ (T0.setTop (mkF m 0 #[.val (.ref a1), .val (.ref a2), .val (.int ((1 : Int32) - (1 : Int32))), .unset, .unset, .unset, .unset, .unset] []))
  refine own_iloadN X0 hx (hb hby d22_0) rfl ?_
  refine own_ifNo X0 hx (hb hby d22_1) ((if0 _ _).trans (flt (by decide : ¬ (((1 : Int32) - (1 : Int32)) < (0 : Int32)))).1) ?_
  refine own_iloadN X0 hx (hb hby d22_4) rfl ?_
  refine own_aloadN X0 hx (hb hby d22_5) rfl rfl ?_
  refine own_virtual X0 hx hZ hown (y := (⟨"java/lang/String", "length", "()I"⟩ : MethodName)) (z := (⟨"java/lang/String", "length", "()I"⟩ : MethodName)) (hw _ (List.mem_of_getElem? (i := 102) rfl)) (hw _ (List.mem_of_getElem? (i := 103) rfl)) (notFace_of_selects (args := #[]) (mvT hZ (hw _ (List.mem_of_getElem? (i := 105) rfl)))) (hw _ (List.mem_of_getElem? (i := 105) rfl)) (hw _ (List.mem_of_getElem? (i := 104) rfl)) (hw _ (List.mem_of_getElem? (i := 8) rfl)) (hw _ (List.mem_of_getElem? (i := 106) rfl)) (a := a1) f0 (by decide) (W := 1) (by decide) (by decide) N0 e0 (by rw [hml]; rfl) (argsL := []) (rest := [(.int ((1 : Int32) - (1 : Int32)))]) (lenOf pd_6 rfl) (Nat.le_of_eq rfl) (by decide) (by decide) (rm211 l Z a0 hw [] a1 t k x0 zc h0 n0 O0 ⟨z0, hzc, trivial⟩ f0 f1 f2 f3) rfl (hb hby d22_6) ?_
  intro v1 T1 lc1 X1 N1 hQ1
  obtain ⟨rfl, e1⟩ := hQ1
  refine own_aloadN X1 hx (hb hby d22_9) rfl rfl ?_
  refine own_virtual X1 hx hZ hown (y := (⟨"java/lang/String", "length", "()I"⟩ : MethodName)) (z := (⟨"java/lang/String", "length", "()I"⟩ : MethodName)) (hw _ (List.mem_of_getElem? (i := 102) rfl)) (hw _ (List.mem_of_getElem? (i := 103) rfl)) (notFace_of_selects (args := #[]) (mvT hZ (hw _ (List.mem_of_getElem? (i := 105) rfl)))) (hw _ (List.mem_of_getElem? (i := 105) rfl)) (hw _ (List.mem_of_getElem? (i := 104) rfl)) (hw _ (List.mem_of_getElem? (i := 8) rfl)) (hw _ (List.mem_of_getElem? (i := 106) rfl)) (a := a2) f4 (by decide) (W := 2) (by decide) (by decide) N1 e1 (by rw [hml]; rfl) (argsL := []) (rest := [(.int (1 : Int32)), (.int ((1 : Int32) - (1 : Int32)))]) (lenOf pd_6 rfl) (Nat.le_of_eq rfl) (by decide) (by decide) (rm211 l Z a0 hw [] a2 t2 k2 (58 : Int32) zc h0 n0 O0 ⟨z0, hzc, trivial⟩ f4 f5 f6 f7) rfl (hb hby d22_10) ?_
  intro v2 T2 lc2 X2 N2 hQ2
  obtain ⟨rfl, e2⟩ := hQ2
  refine own_isub X2 hx (hb hby d22_13) ?_
  refine own_icmpYes X2 hx (pc' := 19) (hb hby d22_14) (flt (by decide : ¬ (((1 : Int32) - (1 : Int32)) < ((1 : Int32) - (1 : Int32))))).2.2.2 (by decide) (by decide) ?_
  refine own_aloadN X2 hx (hb hby d22_19) rfl rfl ?_
  refine own_getF X2 hx hZ hown (host := "") (Or.inl (hw _ (List.mem_of_getElem? (i := 25) rfl))) Via.refl e2 f1 (hb hby d22_20) (fun T3 X3 e3 => ?_)
  refine own_astoreN X3 hx (Ls' := #[.val (.ref a1), .val (.ref a2), .val (.int ((1 : Int32) - (1 : Int32))), .val (.ref t), .unset, .unset, .unset, .unset]) (hb hby d22_23) rfl rfl ?_
  refine own_aloadN X3 hx (hb hby d22_24) rfl rfl ?_
  refine own_getF X3 hx hZ hown (host := "") (Or.inl (hw _ (List.mem_of_getElem? (i := 25) rfl))) Via.refl e3 f5 (hb hby d22_25) (fun T4 X4 e4 => ?_)
  refine own_astore X4 hx (Ls' := #[.val (.ref a1), .val (.ref a2), .val (.int ((1 : Int32) - (1 : Int32))), .val (.ref t), .val (.ref t2), .unset, .unset, .unset]) (hb hby d22_28) rfl rfl ?_
  refine own_iconst X4 hx (v := (0 : Int32)) (hb hby d22_30) rfl ?_
  refine own_istore X4 hx (Ls' := #[.val (.ref a1), .val (.ref a2), .val (.int ((1 : Int32) - (1 : Int32))), .val (.ref t), .val (.ref t2), .val (.int (0 : Int32)), .unset, .unset]) (hb hby d22_31) rfl ?_
  refine own_aload X4 hx (hb hby d22_33) rfl rfl ?_
  refine own_alen X4 hx hZ e4 f7 (hb hby d22_35) ?_
  show Goes _ _ _ _ _ _ (T4.setTop (mkF m 36 #[.val (.ref a1), .val (.ref a2), .val (.int ((1 : Int32) - (1 : Int32))), .val (.ref t), .val (.ref t2), .val (.int (0 : Int32)), .unset, .unset] [(.int (1 : Int32))]))
  refine own_istore X4 hx (Ls' := #[.val (.ref a1), .val (.ref a2), .val (.int ((1 : Int32) - (1 : Int32))), .val (.ref t), .val (.ref t2), .val (.int (0 : Int32)), .val (.int (1 : Int32)), .unset]) (hb hby d22_36) rfl ?_
  refine own_aloadN X4 hx (hb hby d22_38) rfl rfl ?_
  refine own_virtual X4 hx hZ hown (y := (⟨"java/lang/String", "coder", "()B"⟩ : MethodName)) (z := (⟨"java/lang/String", "coder", "()B"⟩ : MethodName)) (hw _ (List.mem_of_getElem? (i := 78) rfl)) (hw _ (List.mem_of_getElem? (i := 79) rfl)) (notFace_of_selects (args := #[]) (mvT hZ (hw _ (List.mem_of_getElem? (i := 81) rfl)))) (hw _ (List.mem_of_getElem? (i := 81) rfl)) (hw _ (List.mem_of_getElem? (i := 80) rfl)) (hw _ (List.mem_of_getElem? (i := 8) rfl)) (hw _ (List.mem_of_getElem? (i := 82) rfl)) (a := a1) f0 (by decide) (W := 0) (by decide) (by decide) N2 e4 (by rw [hml]; rfl) (argsL := []) (rest := []) (lenOf pd_0 rfl) (Nat.le_of_eq rfl) (by decide) (by decide) (rm16 l Z a0 hw [] a1 zc h0 n0 O0 ⟨z0, hzc, trivial⟩ f2) rfl (hb hby d22_39) ?_
  intro v5 T5 lc5 X5 N5 hQ5
  obtain ⟨rfl, e5⟩ := hQ5
  refine own_istore X5 hx (Ls' := #[.val (.ref a1), .val (.ref a2), .val (.int ((1 : Int32) - (1 : Int32))), .val (.ref t), .val (.ref t2), .val (.int (0 : Int32)), .val (.int (1 : Int32)), .val (.int (0 : Int32))]) (hb hby d22_42) rfl ?_
  refine own_iload X5 hx (hb hby d22_44) rfl ?_
  refine own_aloadN X5 hx (hb hby d22_46) rfl rfl ?_
  refine own_virtual X5 hx hZ hown (y := (⟨"java/lang/String", "coder", "()B"⟩ : MethodName)) (z := (⟨"java/lang/String", "coder", "()B"⟩ : MethodName)) (hw _ (List.mem_of_getElem? (i := 78) rfl)) (hw _ (List.mem_of_getElem? (i := 79) rfl)) (notFace_of_selects (args := #[]) (mvT hZ (hw _ (List.mem_of_getElem? (i := 81) rfl)))) (hw _ (List.mem_of_getElem? (i := 81) rfl)) (hw _ (List.mem_of_getElem? (i := 80) rfl)) (hw _ (List.mem_of_getElem? (i := 8) rfl)) (hw _ (List.mem_of_getElem? (i := 82) rfl)) (a := a2) f4 (by decide) (W := 1) (by decide) (by decide) N5 e5 (by rw [hml]; rfl) (argsL := []) (rest := [(.int (0 : Int32))]) (lenOf pd_0 rfl) (Nat.le_of_eq rfl) (by decide) (by decide) (rm16 l Z a0 hw [] a2 zc h0 n0 O0 ⟨z0, hzc, trivial⟩ f6) rfl (hb hby d22_47) ?_
  intro v6 T6 lc6 X6 N6 hQ6
  obtain ⟨rfl, e6⟩ := hQ6
  refine own_icmpNo X6 hx (hb hby d22_50) (teq (by decide : (0 : Int32) = (0 : Int32))).2 ?_
  refine own_iload X6 hx (hb hby d22_53) rfl ?_
  refine own_iconst X6 hx (v := (1 : Int32)) (hb hby d22_55) rfl ?_
  refine own_icmpYes X6 hx (pc' := 63) (hb hby d22_56) (feq (by decide : ¬ ((0 : Int32) = (1 : Int32)))).2 (by decide) (by decide) ?_
  refine own_aloadN X6 hx (hb hby d22_63) rfl rfl ?_
  refine own_iloadN X6 hx (hb hby d22_64) rfl ?_
  refine own_aload X6 hx (hb hby d22_65) rfl rfl ?_
  refine own_iconst X6 hx (v := (0 : Int32)) (hb hby d22_67) rfl ?_
  refine own_iload X6 hx (hb hby d22_68) rfl ?_
  show Goes _ _ _ _ _ _ (T6.setTop (mkF m 70 #[.val (.ref a1), .val (.ref a2), .val (.int ((1 : Int32) - (1 : Int32))), .val (.ref t), .val (.ref t2), .val (.int (0 : Int32)), .val (.int (1 : Int32)), .val (.int (0 : Int32))] [(.int (1 : Int32)), (.int (0 : Int32)), (.ref t2), (.int ((1 : Int32) - (1 : Int32))), (.ref t)]))
  refine own_callS X6 hx hZ hown (y := (⟨"jdk/internal/util/ArraysSupport", "mismatch", "([BI[BII)I"⟩ : MethodName)) (hw _ (List.mem_of_getElem? (i := 112) rfl)) (hw _ (List.mem_of_getElem? (i := 113) rfl)) (hw _ (List.mem_of_getElem? (i := 114) rfl)) (hw _ (List.mem_of_getElem? (i := 115) rfl)) (by decide) (W := 0) (by decide) (by decide) N6 e6 (by rw [hml]; rfl) (argsL := [(.ref t), (.int ((1 : Int32) - (1 : Int32))), (.ref t2), (.int (0 : Int32)), (.int (1 : Int32))]) (rest := []) (lenOf pd_1 rfl) (Nat.le_of_eq rfl) (by decide) (by decide) (rm231 l Z a0 hw [] t t2 k k2 x0 h0 n0 O0 f3 f7 hpe) rfl (hb hby d22_70) ?_
  intro v7 T7 lc7 X7 N7 hQ7
  obtain ⟨rfl, e7⟩ := hQ7
  refine own_ifYes X7 hx (pc' := 80) (hb hby d22_73) ((if0 _ _).trans (flt (by decide : ¬ ((0 : Int32) < (0 : Int32)))).2.1) (by decide) (by decide) ?_
  refine own_iconst X7 hx (v := (0 : Int32)) (hb hby d22_80) rfl ?_
  show Goes _ _ _ _ _ _ (T7.setTop (mkF m 81 #[.val (.ref a1), .val (.ref a2), .val (.int ((1 : Int32) - (1 : Int32))), .val (.ref t), .val (.ref t2), .val (.int (0 : Int32)), .val (.int (1 : Int32)), .val (.int (0 : Int32))] [(.int (0 : Int32))]))
  exact own_retN X7 hx (t := .boolean) N7 hlk (by decide) (by decide) hret (by simp) (hb hby d22_81) (by rw [e7]; exact ⟨rfl, rfl⟩)
theorem d20_0 : decode jdk_42_method_77_code 0 = .ok (.aload_n 0, 1) := by decide +kernel
theorem d20_1 : decode jdk_42_method_77_code 1 = .ok (.aload_n 1, 1) := by decide +kernel
theorem d20_2 : decode jdk_42_method_77_code 2 = .ok (.aload_n 0, 1) := by decide +kernel
theorem d20_3 : decode jdk_42_method_77_code 3 = .ok (.invokevirtual 505, 3) := by decide +kernel
theorem d20_6 : decode jdk_42_method_77_code 6 = .ok (.aload_n 1, 1) := by decide +kernel
theorem d20_7 : decode jdk_42_method_77_code 7 = .ok (.invokevirtual 505, 3) := by decide +kernel
theorem d20_10 : decode jdk_42_method_77_code 10 = .ok (.isub, 1) := by decide +kernel
theorem d20_11 : decode jdk_42_method_77_code 11 = .ok (.invokevirtual 624, 3) := by decide +kernel
theorem pd_7 : parseMethodDescriptor "(Ljava/lang/String;I)Z" = some ⟨[(.object "java/lang/String"), .int], some .boolean⟩ := by decide +kernel
theorem d20_14 : decode jdk_42_method_77_code 14 = .ok (.ireturn, 1) := by decide +kernel
def Q201 (Z : State) (a1 : Addr) (a2 : Addr) (t : Addr) (k : ClassId) (x0 : Int32) (t2 : Addr) (k2 : ClassId) (zc : Int32) (h0 : Heap) (n0 : Nat) (v : Option Value) (h : Heap) : Prop :=
  (v = some (.int (0 : Int32)) ∧ h = h0)
theorem ef_201 (m : MethodId) (a1 : Addr) (a2 : Addr) : entryFrame m #[(.ref a1), (.ref a2)] 2 = mkF m 0 #[.val (.ref a1), .val (.ref a2)] [] := by first | (simp [entryFrame, mkF, argsToLocals, Value.category]; done) | rfl
set_option maxRecDepth 65536 in
set_option maxHeartbeats 40000000 in
theorem rm201 (l : Launch) (Z : State) (a0 : Array Value) (hw : ∀ d ∈ tables_1, d.before a0 Z = true) (ws : List Jvm.Cond) (a1 : Addr) (a2 : Addr) (t : Addr) (k : ClassId) (x0 : Int32) (t2 : Addr) (k2 : ClassId) (zc : Int32) (h0 : Heap) (n0 : Nat) (O0 : Old Z n0 h0) (SF : Start Z zc) (f0 : Exa Z h0 a1 "java/lang/String") (f1 : Fld Z h0 a1 "java/lang/String" "value" "[B" (.ref t)) (f2 : Fld Z h0 a1 "java/lang/String" "coder" "B" (.int (0 : Int32))) (f3 : Arv Z h0 t k .byte (1 : Int32) [(.int x0)] (.int (0 : Int32))) (f4 : Exa Z h0 a2 "java/lang/String") (f5 : Fld Z h0 a2 "java/lang/String" "value" "[B" (.ref t2)) (f6 : Fld Z h0 a2 "java/lang/String" "coder" "B" (.int (0 : Int32))) (f7 : Arv Z h0 t2 k2 .byte (1 : Int32) [(.int (58 : Int32))] (.int (0 : Int32))) (hpe : ¬ (x0 = (58 : Int32))) :
    Meets l (⟨"java/lang/String", "endsWith", "(Ljava/lang/String;)Z"⟩ : MethodName) jdk_42_method_77_code 2 (some .boolean) ws ({ frames := 3, cells := 0, slots := 0, locals := 46 } : Room) ({ frames := 3, cells := 0, slots := 0, locals := 46 } : Room).cells ({ frames := 3, cells := 0, slots := 0, locals := 46 } : Room).slots Z #[(.ref a1), (.ref a2)] h0 n0 (Q201 Z a1 a2 t k x0 t2 k2 zc h0 n0) := by
  refine Meets.of (F := fun m => mkF m 0 #[.val (.ref a1), .val (.ref a2)] []) (plainFor_of_name pn_0) (fun m => ef_201 m a1 a2) ?_
  intro p e s m below meth c T0 hx hby hml hown0 hnm hret hlk hZ X0 e0
  have hown : s.vm.findClass "java/lang/String" = some m.cls := hown0
  have N0 := Fr.nil n0
  obtain ⟨z0, hzc, -⟩ := SF
  show Goes _ _ _ _ _ _ (T0.setTop (mkF m 0 #[.val (.ref a1), .val (.ref a2)] []))
  refine own_aloadN X0 hx (hb hby d20_0) rfl rfl ?_
  refine own_aloadN X0 hx (hb hby d20_1) rfl rfl ?_
  refine own_aloadN X0 hx (hb hby d20_2) rfl rfl ?_
  refine own_virtual X0 hx hZ hown (y := (⟨"java/lang/String", "length", "()I"⟩ : MethodName)) (z := (⟨"java/lang/String", "length", "()I"⟩ : MethodName)) (hw _ (List.mem_of_getElem? (i := 102) rfl)) (hw _ (List.mem_of_getElem? (i := 103) rfl)) (notFace_of_selects (args := #[]) (mvT hZ (hw _ (List.mem_of_getElem? (i := 105) rfl)))) (hw _ (List.mem_of_getElem? (i := 105) rfl)) (hw _ (List.mem_of_getElem? (i := 104) rfl)) (hw _ (List.mem_of_getElem? (i := 8) rfl)) (hw _ (List.mem_of_getElem? (i := 106) rfl)) (a := a1) f0 (by decide) (W := 2) (by decide) (by decide) N0 e0 (by rw [hml]; rfl) (argsL := []) (rest := [(.ref a2), (.ref a1)]) (lenOf pd_6 rfl) (Nat.le_of_eq rfl) (by decide) (by decide) (rm211 l Z a0 hw [] a1 t k x0 zc h0 n0 O0 ⟨z0, hzc, trivial⟩ f0 f1 f2 f3) rfl (hb hby d20_3) ?_
  intro v1 T1 lc1 X1 N1 hQ1
  obtain ⟨rfl, e1⟩ := hQ1
  refine own_aloadN X1 hx (hb hby d20_6) rfl rfl ?_
  refine own_virtual X1 hx hZ hown (y := (⟨"java/lang/String", "length", "()I"⟩ : MethodName)) (z := (⟨"java/lang/String", "length", "()I"⟩ : MethodName)) (hw _ (List.mem_of_getElem? (i := 102) rfl)) (hw _ (List.mem_of_getElem? (i := 103) rfl)) (notFace_of_selects (args := #[]) (mvT hZ (hw _ (List.mem_of_getElem? (i := 105) rfl)))) (hw _ (List.mem_of_getElem? (i := 105) rfl)) (hw _ (List.mem_of_getElem? (i := 104) rfl)) (hw _ (List.mem_of_getElem? (i := 8) rfl)) (hw _ (List.mem_of_getElem? (i := 106) rfl)) (a := a2) f4 (by decide) (W := 3) (by decide) (by decide) N1 e1 (by rw [hml]; rfl) (argsL := []) (rest := [(.int (1 : Int32)), (.ref a2), (.ref a1)]) (lenOf pd_6 rfl) (Nat.le_of_eq rfl) (by decide) (by decide) (rm211 l Z a0 hw [] a2 t2 k2 (58 : Int32) zc h0 n0 O0 ⟨z0, hzc, trivial⟩ f4 f5 f6 f7) rfl (hb hby d20_7) ?_
  intro v2 T2 lc2 X2 N2 hQ2
  obtain ⟨rfl, e2⟩ := hQ2
  refine own_isub X2 hx (hb hby d20_10) ?_
  refine own_virtual X2 hx hZ hown (y := (⟨"java/lang/String", "startsWith", "(Ljava/lang/String;I)Z"⟩ : MethodName)) (z := (⟨"java/lang/String", "startsWith", "(Ljava/lang/String;I)Z"⟩ : MethodName)) (hw _ (List.mem_of_getElem? (i := 107) rfl)) (hw _ (List.mem_of_getElem? (i := 108) rfl)) (notFace_of_selects (args := #[]) (mvT hZ (hw _ (List.mem_of_getElem? (i := 110) rfl)))) (hw _ (List.mem_of_getElem? (i := 110) rfl)) (hw _ (List.mem_of_getElem? (i := 109) rfl)) (hw _ (List.mem_of_getElem? (i := 8) rfl)) (hw _ (List.mem_of_getElem? (i := 111) rfl)) (a := a1) f0 (by decide) (W := 0) (by decide) (by decide) N2 e2 (by rw [hml]; rfl) (argsL := [(.ref a2), (.int ((1 : Int32) - (1 : Int32)))]) (rest := []) (lenOf pd_7 rfl) (Nat.le_of_eq rfl) (by decide) (by decide) (rm221 l Z a0 hw [] a1 a2 t k x0 t2 k2 zc h0 n0 O0 ⟨z0, hzc, trivial⟩ f0 f1 f2 f3 f4 f5 f6 f7 hpe) rfl (hb hby d20_11) ?_
  intro v3 T3 lc3 X3 N3 hQ3
  obtain ⟨rfl, e3⟩ := hQ3
  show Goes _ _ _ _ _ _ (T3.setTop (mkF m 14 #[.val (.ref a1), .val (.ref a2)] [(.int (0 : Int32))]))
  exact own_retN X3 hx (t := .boolean) N3 hlk (by decide) (by decide) hret (by simp) (hb hby d20_14) (by rw [e3]; exact ⟨rfl, rfl⟩)
theorem d10_0 : decode prog_10_method_8_code 0 = .ok (.aload_n 0, 1) := by decide +kernel
theorem d10_1 : decode prog_10_method_8_code 1 = .ok (.aload_n 1, 1) := by decide +kernel
theorem d10_2 : decode prog_10_method_8_code 2 = .ok (.invokestatic 40, 3) := by decide +kernel
theorem pd_8 : parseMethodDescriptor "(Ljava/lang/Object;Ljava/lang/String;)Ljava/lang/Object;" = some ⟨[(.object "java/lang/Object"), (.object "java/lang/String")], some (.object "java/lang/Object")⟩ := by decide +kernel
theorem d10_5 : decode prog_10_method_8_code 5 = .ok (.pop, 1) := by decide +kernel
theorem d10_6 : decode prog_10_method_8_code 6 = .ok (.aload_n 0, 1) := by decide +kernel
theorem d10_7 : decode prog_10_method_8_code 7 = .ok (.invokevirtual 89, 3) := by decide +kernel
theorem d10_10 : decode prog_10_method_8_code 10 = .ok (.ifCond .ne 21, 3) := by decide +kernel
theorem d10_13 : decode prog_10_method_8_code 13 = .ok (.aload_n 0, 1) := by decide +kernel
theorem d10_14 : decode prog_10_method_8_code 14 = .ok (.ldc 46, 2) := by decide +kernel
theorem own_wS {Z : State} {a0 : Array Value} (hw : ∀ d ∈ tables_1, d.before a0 Z = true) : ∀ a ∈ Bundle.stringAtoms, a.before a0 Z = true := by
  intro a ha
  simp only [Bundle.stringAtoms, List.mem_cons, List.not_mem_nil, or_false] at ha
  rcases ha with rfl | rfl | rfl | rfl | rfl | rfl | rfl
  · exact (hw _ (List.mem_of_getElem? (i := 8) rfl))
  · exact (hw _ (List.mem_of_getElem? (i := 7) rfl))
  · exact (hw _ (List.mem_of_getElem? (i := 20) rfl))
  · exact (hw _ (List.mem_of_getElem? (i := 21) rfl))
  · exact (hw _ (List.mem_of_getElem? (i := 22) rfl))
  · exact (hw _ (List.mem_of_getElem? (i := 23) rfl))
  · exact (hw _ (List.mem_of_getElem? (i := 24) rfl))
theorem d10_16 : decode prog_10_method_8_code 16 = .ok (.invokevirtual 93, 3) := by decide +kernel
theorem pd_9 : parseMethodDescriptor "(Ljava/lang/CharSequence;)Z" = some ⟨[(.object "java/lang/CharSequence")], some .boolean⟩ := by decide +kernel
theorem d10_19 : decode prog_10_method_8_code 19 = .ok (.ifCond .ne 12, 3) := by decide +kernel
theorem d10_22 : decode prog_10_method_8_code 22 = .ok (.aload_n 0, 1) := by decide +kernel
theorem d10_23 : decode prog_10_method_8_code 23 = .ok (.ldc 54, 2) := by decide +kernel
theorem d10_25 : decode prog_10_method_8_code 25 = .ok (.invokevirtual 93, 3) := by decide +kernel
theorem d10_28 : decode prog_10_method_8_code 28 = .ok (.ifCond .eq 18, 3) := by decide +kernel
theorem d10_46 : decode prog_10_method_8_code 46 = .ok (.aload_n 0, 1) := by decide +kernel
theorem d10_47 : decode prog_10_method_8_code 47 = .ok (.areturn, 1) := by decide +kernel
theorem pn_4 : plainName "com/example/fuseline/fuseline/CircuitKey" = true := by first | (simp [plainName, overriddenIn]; done) | decide +kernel
def Q101 (Z : State) (a1 : Addr) (a2 : Addr) (t : Addr) (k : ClassId) (x0 : Int32) (zc : Int32) (h0 : Heap) (n0 : Nat) (v : Option Value) (h : Heap) : Prop :=
  (v = some (.ref a1) ∧ Keep h0 h [])
theorem ef_101 (m : MethodId) (a1 : Addr) (a2 : Addr) : entryFrame m #[(.ref a1), (.ref a2)] 2 = mkF m 0 #[.val (.ref a1), .val (.ref a2)] [] := by first | (simp [entryFrame, mkF, argsToLocals, Value.category]; done) | rfl
set_option maxRecDepth 65536 in
set_option maxHeartbeats 40000000 in
theorem rm101 (l : Launch) (Z : State) (a0 : Array Value) (hw : ∀ d ∈ tables_1, d.before a0 Z = true) (hEL : EW Z a0 consts_1) (ws : List Jvm.Cond) (a1 : Addr) (a2 : Addr) (t : Addr) (k : ClassId) (x0 : Int32) (zc : Int32) (h0 : Heap) (n0 : Nat) (O0 : Old Z n0 h0) (SF : Start Z zc) (f0 : Exa Z h0 a1 "java/lang/String") (f1 : Fld Z h0 a1 "java/lang/String" "value" "[B" (.ref t)) (f2 : Fld Z h0 a1 "java/lang/String" "coder" "B" (.int (0 : Int32))) (f3 : Arv Z h0 t k .byte (1 : Int32) [(.int x0)] (.int (0 : Int32))) :
    MeetsH l (⟨"com/example/fuseline/fuseline/CircuitKey", "checkedPart", "(Ljava/lang/String;Ljava/lang/String;)Ljava/lang/String;"⟩ : MethodName) prog_10_method_8_code 2 (some (.object "java/lang/String")) ws ({ frames := 4, cells := 4, slots := 24, locals := 62 } : Room) ({ frames := 4, cells := 4, slots := 24, locals := 62 } : Room).cells ({ frames := 4, cells := 4, slots := 24, locals := 62 } : Room).slots Z consts_1 #[(.ref a1), (.ref a2)] h0 n0 (Q101 Z a1 a2 t k x0 zc h0 n0) := by
  refine MeetsH.of (F := fun m => mkF m 0 #[.val (.ref a1), .val (.ref a2)] []) (plainFor_of_name pn_4) (fun m => ef_101 m a1 a2) ?_
  intro p e s m below meth c T0 hx hby hml hown0 hnm hret hlk hZ hS0 hC0 X0 e0
  have hown : s.vm.findClass "com/example/fuseline/fuseline/CircuitKey" = some m.cls := hown0
  have N0 := Fr.nil n0
  have KC0 := Keep.refl h0 []
  have C0 := CHr.refl hC0
  obtain ⟨z0, hzc, -⟩ := SF
  show Goes _ _ _ _ _ _ (T0.setTop (mkF m 0 #[.val (.ref a1), .val (.ref a2)] []))
  refine own_aloadN X0 hx (hb hby d10_0) rfl rfl ?_
  refine own_aloadN X0 hx (hb hby d10_1) rfl rfl ?_
  refine own_callS X0 hx hZ hown (y := (⟨"java/util/Objects", "requireNonNull", "(Ljava/lang/Object;Ljava/lang/String;)Ljava/lang/Object;"⟩ : MethodName)) (hw _ (List.mem_of_getElem? (i := 49) rfl)) (hw _ (List.mem_of_getElem? (i := 50) rfl)) (hw _ (List.mem_of_getElem? (i := 51) rfl)) (hw _ (List.mem_of_getElem? (i := 52) rfl)) (by decide) (W := 0) (by decide) (by decide) N0 e0 (by rw [hml]; rfl) (argsL := [(.ref a1), (.ref a2)]) (rest := []) (lenOf pd_8 rfl) (Nat.le_of_eq rfl) (by decide) (by decide) (rm11 l Z a0 hw [] a1 a2 h0 n0 O0) rfl (hb hby d10_2) ?_
  intro v1 T1 lc1 X1 N1 hQ1
  obtain ⟨rfl, e1⟩ := hQ1
  refine own_pop X1 hx (hb hby d10_5) rfl ?_
  refine own_aloadN X1 hx (hb hby d10_6) rfl rfl ?_
  refine own_virtual X1 hx hZ hown (y := (⟨"java/lang/String", "isEmpty", "()Z"⟩ : MethodName)) (z := (⟨"java/lang/String", "isEmpty", "()Z"⟩ : MethodName)) (hw _ (List.mem_of_getElem? (i := 53) rfl)) (hw _ (List.mem_of_getElem? (i := 54) rfl)) (notFace_of_selects (args := #[]) (mvT hZ (hw _ (List.mem_of_getElem? (i := 56) rfl)))) (hw _ (List.mem_of_getElem? (i := 56) rfl)) (hw _ (List.mem_of_getElem? (i := 55) rfl)) (hw _ (List.mem_of_getElem? (i := 8) rfl)) (hw _ (List.mem_of_getElem? (i := 57) rfl)) (a := a1) f0 (by decide) (W := 0) (by decide) (by decide) N1 e1 (by rw [hml]; rfl) (argsL := []) (rest := []) (lenOf pd_2 rfl) (Nat.le_of_eq rfl) (by decide) (by decide) (rm121 l Z a0 hw [] a1 t k x0 zc h0 n0 O0 ⟨z0, hzc, trivial⟩ f0 f1 f2 f3) rfl (hb hby d10_7) ?_
  intro v2 T2 lc2 X2 N2 hQ2
  obtain ⟨rfl, e2⟩ := hQ2
  refine own_ifNo X2 hx (hb hby d10_10) ((if0 _ _).trans (teq (by decide : (0 : Int32) = (0 : Int32))).2) ?_
  refine own_aloadN X2 hx (hb hby d10_13) rfl rfl ?_
  refine own_ldcH X2 hx hZ hown hS0 (Nat.zero_le _) (hw _ (List.mem_of_getElem? (i := 58) rfl)) (own_wS hw) hEL (by simp [consts_1]) C0.1 e2 (cs := tx2) tx2_t tx2_z tx2_4 tx2_5 (n := 8) (hb hby d10_14) (by decide +kernel) (by decide) (by decide) (by decide) (fun sa3 T3 h3 k1_3 X3 hS3 hk3_ hZ hown e3 E3 D3 I3 => ?_)
  have E4_a1 := f0.ext E3
  have F4_value_a1 := f1.ext E3
  have F4_coder_a1 := f2.ext E3
  have A4_t := f3.ext E3
  have O4 := O0.ext E3
  have KC4 := KC0.ext E3
  have CC3 := C0.trans D3
  have KB5 := Keep.refl h3 []
  show Goes _ _ _ _ _ _ (T3.setTop (mkF m 16 #[.val (.ref a1), .val (.ref a2)] [(.ref sa3), (.ref a1)]))
  obtain ⟨t6, kb6, UE6, UV6, UC6, UA6, -⟩ := id I3
  have UB6 : Arv Z h3 t6 kb6 .byte (2 : Int32) [(.int (45 : Int32)), (.int (62 : Int32))] (.int (0 : Int32)) := UA6
  refine own_virtual X3 hx hZ hown (y := (⟨"java/lang/String", "contains", "(Ljava/lang/CharSequence;)Z"⟩ : MethodName)) (z := (⟨"java/lang/String", "contains", "(Ljava/lang/CharSequence;)Z"⟩ : MethodName)) (hw _ (List.mem_of_getElem? (i := 59) rfl)) (hw _ (List.mem_of_getElem? (i := 60) rfl)) (notFace_of_selects (args := #[]) (mvT hZ (hw _ (List.mem_of_getElem? (i := 62) rfl)))) (hw _ (List.mem_of_getElem? (i := 62) rfl)) (hw _ (List.mem_of_getElem? (i := 61) rfl)) (hw _ (List.mem_of_getElem? (i := 8) rfl)) (hw _ (List.mem_of_getElem? (i := 63) rfl)) (a := a1) E4_a1 (by decide) (W := 0) (by decide) (by decide) N2 e3 (by rw [hml]; rfl) (argsL := [(.ref sa3)]) (rest := []) (lenOf pd_9 rfl) (Nat.le_of_eq rfl) (by decide) (by decide) (rm131a l Z a0 hw [] a1 sa3 t k x0 t6 kb6 zc h3 n0 O4 ⟨z0, hzc, trivial⟩ E4_a1 F4_value_a1 F4_coder_a1 A4_t (IsStr.exa I3) UV6 UC6 UB6) rfl (hb hby d10_16) ?_
  intro v7 T7 lc7 X7 N7 hQ7
  obtain ⟨rfl, e7⟩ := hQ7
  refine own_ifNo X7 hx (hb hby d10_19) ((if0 _ _).trans (teq (by decide : (0 : Int32) = (0 : Int32))).2) ?_
  refine own_aloadN X7 hx (hb hby d10_22) rfl rfl ?_
  refine own_ldcH X7 hx hZ hown hS3 hk3_ (hw _ (List.mem_of_getElem? (i := 95) rfl)) (own_wS hw) hEL (by simp [consts_1]) CC3.1 e7 (cs := tx3) tx3_t tx3_z tx3_4 tx3_5 (n := 8) (hb hby d10_23) (by decide +kernel) (by decide) (by decide) (by decide) (fun sa8 T8 h8 k1_8 X8 hS8 hk8_ hZ hown e8 E8 D8 I8 => ?_)
  have E9_a1 := E4_a1.ext E8
  have F9_value_a1 := F4_value_a1.ext E8
  have F9_coder_a1 := F4_coder_a1.ext E8
  have A9_t := A4_t.ext E8
  have O9 := O4.ext E8
  have KC9 := KB5.ext E8
  have CC8 := CC3.trans D8
  have KQ10 := KC4.trans KC9 all0
  have KB10 := Keep.refl h8 []
  show Goes _ _ _ _ _ _ (T8.setTop (mkF m 25 #[.val (.ref a1), .val (.ref a2)] [(.ref sa8), (.ref a1)]))
  obtain ⟨t11, kb11, UE11, UV11, UC11, UA11, -⟩ := id I8
  have UB11 : Arv Z h8 t11 kb11 .byte (2 : Int32) [(.int (58 : Int32)), (.int (58 : Int32))] (.int (0 : Int32)) := UA11
  refine own_virtual X8 hx hZ hown (y := (⟨"java/lang/String", "contains", "(Ljava/lang/CharSequence;)Z"⟩ : MethodName)) (z := (⟨"java/lang/String", "contains", "(Ljava/lang/CharSequence;)Z"⟩ : MethodName)) (hw _ (List.mem_of_getElem? (i := 59) rfl)) (hw _ (List.mem_of_getElem? (i := 60) rfl)) (notFace_of_selects (args := #[]) (mvT hZ (hw _ (List.mem_of_getElem? (i := 62) rfl)))) (hw _ (List.mem_of_getElem? (i := 62) rfl)) (hw _ (List.mem_of_getElem? (i := 61) rfl)) (hw _ (List.mem_of_getElem? (i := 8) rfl)) (hw _ (List.mem_of_getElem? (i := 63) rfl)) (a := a1) E9_a1 (by decide) (W := 0) (by decide) (by decide) N7 e8 (by rw [hml]; rfl) (argsL := [(.ref sa8)]) (rest := []) (lenOf pd_9 rfl) (Nat.le_of_eq rfl) (by decide) (by decide) (rm131c l Z a0 hw [] a1 sa8 t k x0 t11 kb11 zc h8 n0 O9 ⟨z0, hzc, trivial⟩ E9_a1 F9_value_a1 F9_coder_a1 A9_t (IsStr.exa I8) UV11 UC11 UB11) rfl (hb hby d10_25) ?_
  intro v12 T12 lc12 X12 N12 hQ12
  obtain ⟨rfl, e12⟩ := hQ12
  refine own_ifYes X12 hx (pc' := 46) (hb hby d10_28) ((if0 _ _).trans (teq (by decide : (0 : Int32) = (0 : Int32))).1) (by decide) (by decide) ?_
  refine own_aloadN X12 hx (hb hby d10_46) rfl rfl ?_
  show Goes _ _ _ _ _ _ (T12.setTop (mkF m 47 #[.val (.ref a1), .val (.ref a2)] [(.ref a1)]))
  exact own_retRH X12 hx hS8 (by rw [e12]; exact hk8_) hZ hEL (by rw [e12]; exact CC8) N12 hlk (by decide) (by decide) hret rfl rfl rfl (hb hby d10_47) (by rw [e12]; exact ⟨rfl, (KQ10.trans KB10 all0)⟩)
theorem d9_0 : decode prog_10_method_7_code 0 = .ok (.aload_n 0, 1) := by decide +kernel
theorem d9_1 : decode prog_10_method_7_code 1 = .ok (.ldc 81, 2) := by decide +kernel
theorem d9_3 : decode prog_10_method_7_code 3 = .ok (.invokestatic 27, 3) := by decide +kernel
theorem pd_10 : parseMethodDescriptor "(Ljava/lang/String;Ljava/lang/String;)Ljava/lang/String;" = some ⟨[(.object "java/lang/String"), (.object "java/lang/String")], some (.object "java/lang/String")⟩ := by decide +kernel
theorem d9_6 : decode prog_10_method_7_code 6 = .ok (.pop, 1) := by decide +kernel
theorem d9_7 : decode prog_10_method_7_code 7 = .ok (.aload_n 0, 1) := by decide +kernel
theorem d9_8 : decode prog_10_method_7_code 8 = .ok (.ldc 82, 2) := by decide +kernel
theorem d9_10 : decode prog_10_method_7_code 10 = .ok (.invokevirtual 84, 3) := by decide +kernel
theorem pd_11 : parseMethodDescriptor "(Ljava/lang/String;)Z" = some ⟨[(.object "java/lang/String")], some .boolean⟩ := by decide +kernel
theorem d9_13 : decode prog_10_method_7_code 13 = .ok (.ifCond .eq 17, 3) := by decide +kernel
theorem d9_30 : decode prog_10_method_7_code 30 = .ok (.aload_n 0, 1) := by decide +kernel
theorem d9_31 : decode prog_10_method_7_code 31 = .ok (.areturn, 1) := by decide +kernel
def Q91 (Z : State) (a1 : Addr) (t : Addr) (k : ClassId) (x0 : Int32) (zc : Int32) (h0 : Heap) (n0 : Nat) (v : Option Value) (h : Heap) : Prop :=
  (v = some (.ref a1) ∧ Keep h0 h [])
theorem ef_91 (m : MethodId) (a1 : Addr) : entryFrame m #[(.ref a1)] 1 = mkF m 0 #[.val (.ref a1)] [] := by first | (simp [entryFrame, mkF, argsToLocals, Value.category]; done) | rfl
set_option maxRecDepth 65536 in
set_option maxHeartbeats 40000000 in
theorem rm91 (l : Launch) (Z : State) (a0 : Array Value) (hw : ∀ d ∈ tables_1, d.before a0 Z = true) (hEL : EW Z a0 consts_1) (ws : List Jvm.Cond) (a1 : Addr) (t : Addr) (k : ClassId) (x0 : Int32) (zc : Int32) (h0 : Heap) (n0 : Nat) (O0 : Old Z n0 h0) (SF : Start Z zc) (f0 : Exa Z h0 a1 "java/lang/String") (f1 : Fld Z h0 a1 "java/lang/String" "value" "[B" (.ref t)) (f2 : Fld Z h0 a1 "java/lang/String" "coder" "B" (.int (0 : Int32))) (f3 : Arv Z h0 t k .byte (1 : Int32) [(.int x0)] (.int (0 : Int32))) (hpe : ¬ (x0 = (58 : Int32))) :
    MeetsH l (⟨"com/example/fuseline/fuseline/CircuitKey", "checkedService", "(Ljava/lang/String;)Ljava/lang/String;"⟩ : MethodName) prog_10_method_7_code 1 (some (.object "java/lang/String")) ws ({ frames := 5, cells := 8, slots := 64, locals := 75 } : Room) ({ frames := 5, cells := 8, slots := 64, locals := 75 } : Room).cells ({ frames := 5, cells := 8, slots := 64, locals := 75 } : Room).slots Z consts_1 #[(.ref a1)] h0 n0 (Q91 Z a1 t k x0 zc h0 n0) := by
  refine MeetsH.of (F := fun m => mkF m 0 #[.val (.ref a1)] []) (plainFor_of_name pn_4) (fun m => ef_91 m a1) ?_
  intro p e s m below meth c T0 hx hby hml hown0 hnm hret hlk hZ hS0 hC0 X0 e0
  have hown : s.vm.findClass "com/example/fuseline/fuseline/CircuitKey" = some m.cls := hown0
  have N0 := Fr.nil n0
  have KC0 := Keep.refl h0 []
  have C0 := CHr.refl hC0
  obtain ⟨z0, hzc, -⟩ := SF
  show Goes _ _ _ _ _ _ (T0.setTop (mkF m 0 #[.val (.ref a1)] []))
  refine own_aloadN X0 hx (hb hby d9_0) rfl rfl ?_
  refine own_ldcH X0 hx hZ hown hS0 (Nat.zero_le _) (hw _ (List.mem_of_getElem? (i := 45) rfl)) (own_wS hw) hEL (by simp [consts_1]) C0.1 e0 (cs := tx1) tx1_t tx1_z tx1_4 tx1_5 (n := 28) (hb hby d9_1) (by decide +kernel) (by decide) (by decide) (by decide) (fun sa1 T1 h1 k1_1 X1 hS1 hk1_ hZ hown e1 E1 D1 I1 => ?_)
  have E2_a1 := f0.ext E1
  have F2_value_a1 := f1.ext E1
  have F2_coder_a1 := f2.ext E1
  have A2_t := f3.ext E1
  have O2 := O0.ext E1
  have KC2 := KC0.ext E1
  have CC1 := C0.trans D1
  have KB3 := Keep.refl h1 []
  refine own_callSH X1 hx hZ hown hS1 hk1_ (y := (⟨"com/example/fuseline/fuseline/CircuitKey", "checkedPart", "(Ljava/lang/String;Ljava/lang/String;)Ljava/lang/String;"⟩ : MethodName)) (hw _ (List.mem_of_getElem? (i := 46) rfl)) (hw _ (List.mem_of_getElem? (i := 47) rfl)) (hw _ (List.mem_of_getElem? (i := 43) rfl)) (hw _ (List.mem_of_getElem? (i := 48) rfl)) hEL CC1.1 (by decide) (W := 0) (by decide) (by decide) N0 e1 (by rw [hml]; rfl) (argsL := [(.ref a1), (.ref sa1)]) (rest := []) (lenOf pd_10 rfl) (Nat.le_of_eq rfl) (by decide) (by decide) (rm101 l Z a0 hw hEL [] a1 sa1 t k x0 zc h1 n0 O2 ⟨z0, hzc, trivial⟩ E2_a1 F2_value_a1 F2_coder_a1 A2_t) rfl (hb hby d9_3) ?_
  intro v4 T4 lc4 k1_4 X4 hS4 hk4_ hZ hown N4 D4 hQ4
  have CC4 := CC1.trans D4
  obtain ⟨rfl, K4⟩ := hQ4
  have E5_a1 := E2_a1.keep K4
  have F5_value_a1 := F2_value_a1.keep K4 nin0
  have F5_coder_a1 := F2_coder_a1.keep K4 nin0
  have A5_t := A2_t.keep K4 nin0
  have O5 := O2.keep K4 all0
  have hk5 := Nat.le_trans hk1_ K4.1
  have KC5 := KB3.trans K4 all0
  have KQ6 := KC2.trans KC5 all0
  have KB6 := Keep.refl T4.heap []
  refine own_pop X4 hx (hb hby d9_6) rfl ?_
  refine own_aloadN X4 hx (hb hby d9_7) rfl rfl ?_
  refine own_ldcH X4 hx hZ hown hS4 hk4_ (hw _ (List.mem_of_getElem? (i := 96) rfl)) (own_wS hw) hEL (by simp [consts_1]) CC4.1 rfl (cs := tx4) tx4_t tx4_z tx4_4 tx4_5 (n := 4) (hb hby d9_8) (by decide +kernel) (by decide) (by decide) (by decide) (fun sa7 T7 h7 k1_7 X7 hS7 hk7_ hZ hown e7 E7 D7 I7 => ?_)
  have E8_a1 := E5_a1.ext E7
  have F8_value_a1 := F5_value_a1.ext E7
  have F8_coder_a1 := F5_coder_a1.ext E7
  have A8_t := A5_t.ext E7
  have O8 := O5.ext E7
  have KC8 := KB6.ext E7
  have CC7 := CC4.trans D7
  have KQ9 := KQ6.trans KC8 all0
  have KB9 := Keep.refl h7 []
  show Goes _ _ _ _ _ _ (T7.setTop (mkF m 10 #[.val (.ref a1)] [(.ref sa7), (.ref a1)]))
  obtain ⟨t10, kb10, UE10, UV10, UC10, UA10, -⟩ := id I7
  have UB10 : Arv Z h7 t10 kb10 .byte (1 : Int32) [(.int (58 : Int32))] (.int (0 : Int32)) := UA10
  refine own_virtual X7 hx hZ hown (y := (⟨"java/lang/String", "endsWith", "(Ljava/lang/String;)Z"⟩ : MethodName)) (z := (⟨"java/lang/String", "endsWith", "(Ljava/lang/String;)Z"⟩ : MethodName)) (hw _ (List.mem_of_getElem? (i := 97) rfl)) (hw _ (List.mem_of_getElem? (i := 98) rfl)) (notFace_of_selects (args := #[]) (mvT hZ (hw _ (List.mem_of_getElem? (i := 100) rfl)))) (hw _ (List.mem_of_getElem? (i := 100) rfl)) (hw _ (List.mem_of_getElem? (i := 99) rfl)) (hw _ (List.mem_of_getElem? (i := 8) rfl)) (hw _ (List.mem_of_getElem? (i := 101) rfl)) (a := a1) E8_a1 (by decide) (W := 0) (by decide) (by decide) N4 e7 (by rw [hml]; rfl) (argsL := [(.ref sa7)]) (rest := []) (lenOf pd_11 rfl) (Nat.le_of_eq rfl) (by decide) (by decide) (rm201 l Z a0 hw [] a1 sa7 t k x0 t10 kb10 zc h7 n0 O8 ⟨z0, hzc, trivial⟩ E8_a1 F8_value_a1 F8_coder_a1 A8_t (IsStr.exa I7) UV10 UC10 UB10 hpe) rfl (hb hby d9_10) ?_
  intro v11 T11 lc11 X11 N11 hQ11
  obtain ⟨rfl, e11⟩ := hQ11
  refine own_ifYes X11 hx (pc' := 30) (hb hby d9_13) ((if0 _ _).trans (teq (by decide : (0 : Int32) = (0 : Int32))).1) (by decide) (by decide) ?_
  refine own_aloadN X11 hx (hb hby d9_30) rfl rfl ?_
  show Goes _ _ _ _ _ _ (T11.setTop (mkF m 31 #[.val (.ref a1)] [(.ref a1)]))
  exact own_retRH X11 hx hS7 (by rw [e11]; exact hk7_) hZ hEL (by rw [e11]; exact CC7) N11 hlk (by decide) (by decide) hret rfl rfl rfl (hb hby d9_31) (by rw [e11]; exact ⟨rfl, (KQ9.trans KB9 all0)⟩)
def Q212 (Z : State) (a1 : Addr) (t : Addr) (k : ClassId) (x0 : Int32) (x1 : Int32) (zc : Int32) (h0 : Heap) (n0 : Nat) (v : Option Value) (h : Heap) : Prop :=
  (v = some (.int (2 : Int32)) ∧ h = h0)
theorem ef_212 (m : MethodId) (a1 : Addr) : entryFrame m #[(.ref a1)] 1 = mkF m 0 #[.val (.ref a1)] [] := by first | (simp [entryFrame, mkF, argsToLocals, Value.category]; done) | rfl
set_option maxRecDepth 65536 in
set_option maxHeartbeats 40000000 in
theorem rm212 (l : Launch) (Z : State) (a0 : Array Value) (hw : ∀ d ∈ tables_1, d.before a0 Z = true) (ws : List Jvm.Cond) (a1 : Addr) (t : Addr) (k : ClassId) (x0 : Int32) (x1 : Int32) (zc : Int32) (h0 : Heap) (n0 : Nat) (O0 : Old Z n0 h0) (SF : Start Z zc) (f0 : Exa Z h0 a1 "java/lang/String") (f1 : Fld Z h0 a1 "java/lang/String" "value" "[B" (.ref t)) (f2 : Fld Z h0 a1 "java/lang/String" "coder" "B" (.int (0 : Int32))) (f3 : Arv Z h0 t k .byte (2 : Int32) [(.int x0), (.int x1)] (.int (0 : Int32))) :
    Meets l (⟨"java/lang/String", "length", "()I"⟩ : MethodName) jdk_42_method_54_code 1 (some .int) ws ({ frames := 1, cells := 0, slots := 0, locals := 13 } : Room) ({ frames := 1, cells := 0, slots := 0, locals := 13 } : Room).cells ({ frames := 1, cells := 0, slots := 0, locals := 13 } : Room).slots Z #[(.ref a1)] h0 n0 (Q212 Z a1 t k x0 x1 zc h0 n0) := by
  refine Meets.of (F := fun m => mkF m 0 #[.val (.ref a1)] []) (plainFor_of_name pn_0) (fun m => ef_212 m a1) ?_
  intro p e s m below meth c T0 hx hby hml hown0 hnm hret hlk hZ X0 e0
  have hown : s.vm.findClass "java/lang/String" = some m.cls := hown0
  have N0 := Fr.nil n0
  obtain ⟨z0, hzc, -⟩ := SF
  show Goes _ _ _ _ _ _ (T0.setTop (mkF m 0 #[.val (.ref a1)] []))
  refine own_aloadN X0 hx (hb hby d21_0) rfl rfl ?_
  refine own_getF X0 hx hZ hown (host := "") (Or.inl (hw _ (List.mem_of_getElem? (i := 25) rfl))) Via.refl e0 f1 (hb hby d21_1) (fun T1 X1 e1 => ?_)
  refine own_alen X1 hx hZ e1 f3 (hb hby d21_4) ?_
  refine own_aloadN X1 hx (hb hby d21_5) rfl rfl ?_
  refine own_virtual X1 hx hZ hown (y := (⟨"java/lang/String", "coder", "()B"⟩ : MethodName)) (z := (⟨"java/lang/String", "coder", "()B"⟩ : MethodName)) (hw _ (List.mem_of_getElem? (i := 78) rfl)) (hw _ (List.mem_of_getElem? (i := 79) rfl)) (notFace_of_selects (args := #[]) (mvT hZ (hw _ (List.mem_of_getElem? (i := 81) rfl)))) (hw _ (List.mem_of_getElem? (i := 81) rfl)) (hw _ (List.mem_of_getElem? (i := 80) rfl)) (hw _ (List.mem_of_getElem? (i := 8) rfl)) (hw _ (List.mem_of_getElem? (i := 82) rfl)) (a := a1) f0 (by decide) (W := 1) (by decide) (by decide) N0 e1 (by rw [hml]; rfl) (argsL := []) (rest := [(.int (2 : Int32))]) (lenOf pd_0 rfl) (Nat.le_of_eq rfl) (by decide) (by decide) (rm16 l Z a0 hw [] a1 zc h0 n0 O0 ⟨z0, hzc, trivial⟩ f2) rfl (hb hby d21_6) ?_
  intro v2 T2 lc2 X2 N2 hQ2
  obtain ⟨rfl, e2⟩ := hQ2
  refine own_ishr X2 hx (hb hby d21_9) ?_
  show Goes _ _ _ _ _ _ (T2.setTop (mkF m 10 #[.val (.ref a1)] [(.int ((2 : Int32) >>> ((0 : Int32) &&& 31)))]))
  exact own_retI X2 hx N2 hlk (by decide) (by decide) hret (hb hby d21_10) (by rw [e2]; exact ⟨(by first | rfl | exact congrArg (fun z => some (Value.int z)) (by decide)), rfl⟩)
def Q122 (Z : State) (a1 : Addr) (t : Addr) (k : ClassId) (x0 : Int32) (x1 : Int32) (zc : Int32) (h0 : Heap) (n0 : Nat) (v : Option Value) (h : Heap) : Prop :=
  (v = some (.int (0 : Int32)) ∧ h = h0)
theorem ef_122 (m : MethodId) (a1 : Addr) : entryFrame m #[(.ref a1)] 1 = mkF m 0 #[.val (.ref a1)] [] := by first | (simp [entryFrame, mkF, argsToLocals, Value.category]; done) | rfl
set_option maxRecDepth 65536 in
set_option maxHeartbeats 40000000 in
theorem rm122 (l : Launch) (Z : State) (a0 : Array Value) (hw : ∀ d ∈ tables_1, d.before a0 Z = true) (ws : List Jvm.Cond) (a1 : Addr) (t : Addr) (k : ClassId) (x0 : Int32) (x1 : Int32) (zc : Int32) (h0 : Heap) (n0 : Nat) (O0 : Old Z n0 h0) (SF : Start Z zc) (f0 : Exa Z h0 a1 "java/lang/String") (f1 : Fld Z h0 a1 "java/lang/String" "value" "[B" (.ref t)) (f2 : Fld Z h0 a1 "java/lang/String" "coder" "B" (.int (0 : Int32))) (f3 : Arv Z h0 t k .byte (2 : Int32) [(.int x0), (.int x1)] (.int (0 : Int32))) :
    Meets l (⟨"java/lang/String", "isEmpty", "()Z"⟩ : MethodName) jdk_42_method_55_code 1 (some .boolean) ws ({ frames := 0, cells := 0, slots := 0, locals := 0 } : Room) ({ frames := 0, cells := 0, slots := 0, locals := 0 } : Room).cells ({ frames := 0, cells := 0, slots := 0, locals := 0 } : Room).slots Z #[(.ref a1)] h0 n0 (Q122 Z a1 t k x0 x1 zc h0 n0) := by
  refine Meets.of (F := fun m => mkF m 0 #[.val (.ref a1)] []) (plainFor_of_name pn_0) (fun m => ef_122 m a1) ?_
  intro p e s m below meth c T0 hx hby hml hown0 hnm hret hlk hZ X0 e0
  have hown : s.vm.findClass "java/lang/String" = some m.cls := hown0
  have N0 := Fr.nil n0
  obtain ⟨z0, hzc, -⟩ := SF
  show Goes _ _ _ _ _ _ (T0.setTop (mkF m 0 #[.val (.ref a1)] []))
  refine own_aloadN X0 hx (hb hby d12_0) rfl rfl ?_
  refine own_getF X0 hx hZ hown (host := "") (Or.inl (hw _ (List.mem_of_getElem? (i := 25) rfl))) Via.refl e0 f1 (hb hby d12_1) (fun T1 X1 e1 => ?_)
  refine own_alen X1 hx hZ e1 f3 (hb hby d12_4) ?_
  refine own_ifYes X1 hx (pc' := 12) (hb hby d12_5) ((if0 _ _).trans (feq (by decide : ¬ ((2 : Int32) = (0 : Int32)))).2) (by decide) (by decide) ?_
  refine own_iconst X1 hx (v := (0 : Int32)) (hb hby d12_12) rfl ?_
  show Goes _ _ _ _ _ _ (T1.setTop (mkF m 13 #[.val (.ref a1)] [(.int (0 : Int32))]))
  exact own_retN X1 hx (t := .boolean) N0 hlk (by decide) (by decide) hret (by simp) (hb hby d12_13) (by rw [e1]; exact ⟨rfl, rfl⟩)
theorem d19_21 : decode jdk_43_method_25_code 21 = .ok (.aload_n 0, 1) := by decide +kernel
theorem d19_22 : decode jdk_43_method_25_code 22 = .ok (.iload 7, 2) := by decide +kernel
theorem d19_24 : decode jdk_43_method_25_code 24 = .ok (.baload, 1) := by decide +kernel
theorem d19_25 : decode jdk_43_method_25_code 25 = .ok (.iload 5, 2) := by decide +kernel
theorem d19_27 : decode jdk_43_method_25_code 27 = .ok (.if_icmp .eq 25, 3) := by decide +kernel
theorem d19_52 : decode jdk_43_method_25_code 52 = .ok (.iload 7, 2) := by decide +kernel
theorem d19_54 : decode jdk_43_method_25_code 54 = .ok (.iload 6, 2) := by decide +kernel
theorem d19_56 : decode jdk_43_method_25_code 56 = .ok (.if_icmp .gt 57, 3) := by decide +kernel
theorem d19_59 : decode jdk_43_method_25_code 59 = .ok (.iload 7, 2) := by decide +kernel
theorem d19_61 : decode jdk_43_method_25_code 61 = .ok (.iconst 1, 1) := by decide +kernel
theorem d19_62 : decode jdk_43_method_25_code 62 = .ok (.iadd, 1) := by decide +kernel
theorem d19_63 : decode jdk_43_method_25_code 63 = .ok (.istore 8, 2) := by decide +kernel
theorem d19_65 : decode jdk_43_method_25_code 65 = .ok (.iload 8, 2) := by decide +kernel
theorem d19_67 : decode jdk_43_method_25_code 67 = .ok (.iload_n 3, 1) := by decide +kernel
theorem d19_68 : decode jdk_43_method_25_code 68 = .ok (.iadd, 1) := by decide +kernel
theorem d19_69 : decode jdk_43_method_25_code 69 = .ok (.iconst 1, 1) := by decide +kernel
theorem d19_70 : decode jdk_43_method_25_code 70 = .ok (.isub, 1) := by decide +kernel
theorem d19_71 : decode jdk_43_method_25_code 71 = .ok (.istore 9, 2) := by decide +kernel
theorem d19_73 : decode jdk_43_method_25_code 73 = .ok (.iconst 1, 1) := by decide +kernel
theorem d19_74 : decode jdk_43_method_25_code 74 = .ok (.istore 10, 2) := by decide +kernel
theorem d19_76 : decode jdk_43_method_25_code 76 = .ok (.iload 8, 2) := by decide +kernel
theorem d19_78 : decode jdk_43_method_25_code 78 = .ok (.iload 9, 2) := by decide +kernel
theorem d19_80 : decode jdk_43_method_25_code 80 = .ok (.if_icmp .ge 23, 3) := by decide +kernel
theorem d19_83 : decode jdk_43_method_25_code 83 = .ok (.aload_n 0, 1) := by decide +kernel
theorem d19_84 : decode jdk_43_method_25_code 84 = .ok (.iload 8, 2) := by decide +kernel
theorem d19_86 : decode jdk_43_method_25_code 86 = .ok (.baload, 1) := by decide +kernel
theorem d19_87 : decode jdk_43_method_25_code 87 = .ok (.aload_n 2, 1) := by decide +kernel
theorem d19_88 : decode jdk_43_method_25_code 88 = .ok (.iload 10, 2) := by decide +kernel
theorem d19_90 : decode jdk_43_method_25_code 90 = .ok (.baload, 1) := by decide +kernel
theorem d19_91 : decode jdk_43_method_25_code 91 = .ok (.if_icmp .ne 12, 3) := by decide +kernel
theorem d19_103 : decode jdk_43_method_25_code 103 = .ok (.iload 8, 2) := by decide +kernel
theorem d19_105 : decode jdk_43_method_25_code 105 = .ok (.iload 9, 2) := by decide +kernel
theorem d19_107 : decode jdk_43_method_25_code 107 = .ok (.if_icmp .ne 6, 3) := by decide +kernel
theorem d19_113 : decode jdk_43_method_25_code 113 = .ok (.iinc 7 1, 3) := by decide +kernel
theorem d19_116 : decode jdk_43_method_25_code 116 = .ok (.goto (-102), 3) := by decide +kernel
theorem d19_30 : decode jdk_43_method_25_code 30 = .ok (.iinc 7 1, 3) := by decide +kernel
theorem d19_33 : decode jdk_43_method_25_code 33 = .ok (.iload 7, 2) := by decide +kernel
theorem d19_35 : decode jdk_43_method_25_code 35 = .ok (.iload 6, 2) := by decide +kernel
theorem d19_37 : decode jdk_43_method_25_code 37 = .ok (.if_icmp .gt 15, 3) := by decide +kernel
def Q192a (Z : State) (a1 : Addr) (a3 : Addr) (k : ClassId) (k2 : ClassId) (x0 : Int32) (x1 : Int32) (h0 : Heap) (n0 : Nat) (v : Option Value) (h : Heap) : Prop :=
  (v = some (.int (-1 : Int32)) ∧ h = h0)
theorem ef_192a (m : MethodId) (a1 : Addr) (a3 : Addr) : entryFrame m #[(.ref a1), (.int (2 : Int32)), (.ref a3), (.int (2 : Int32)), (.int (0 : Int32))] 11 = mkF m 0 #[.val (.ref a1), .val (.int (2 : Int32)), .val (.ref a3), .val (.int (2 : Int32)), .val (.int (0 : Int32)), .unset, .unset, .unset, .unset, .unset, .unset] [] := by first | (simp [entryFrame, mkF, argsToLocals, Value.category]; done) | rfl
set_option maxRecDepth 65536 in
set_option maxHeartbeats 40000000 in
theorem rm192a (l : Launch) (Z : State) (a0 : Array Value) (hw : ∀ d ∈ tables_1, d.before a0 Z = true) (ws : List Jvm.Cond) (a1 : Addr) (a3 : Addr) (k : ClassId) (k2 : ClassId) (x0 : Int32) (x1 : Int32) (h0 : Heap) (n0 : Nat) (O0 : Old Z n0 h0) (f0 : Arv Z h0 a1 k .byte (2 : Int32) [(.int x0), (.int x1)] (.int (0 : Int32))) (f1 : Arv Z h0 a3 k2 .byte (2 : Int32) [(.int (45 : Int32)), (.int (62 : Int32))] (.int (0 : Int32))) (hpa0 : ¬ (x0 = (45 : Int32) ∧ x1 = (62 : Int32))) :
    Meets l (⟨"java/lang/StringLatin1", "indexOf", "([BI[BII)I"⟩ : MethodName) jdk_43_method_25_code 11 (some .int) ws ({ frames := 0, cells := 0, slots := 0, locals := 0 } : Room) ({ frames := 0, cells := 0, slots := 0, locals := 0 } : Room).cells ({ frames := 0, cells := 0, slots := 0, locals := 0 } : Room).slots Z #[(.ref a1), (.int (2 : Int32)), (.ref a3), (.int (2 : Int32)), (.int (0 : Int32))] h0 n0 (Q192a Z a1 a3 k k2 x0 x1 h0 n0) := by
  refine Meets.of (F := fun m => mkF m 0 #[.val (.ref a1), .val (.int (2 : Int32)), .val (.ref a3), .val (.int (2 : Int32)), .val (.int (0 : Int32)), .unset, .unset, .unset, .unset, .unset, .unset] []) (plainFor_of_name pn_2) (fun m => ef_192a m a1 a3) ?_
  intro p e s m below meth c T0 hx hby hml hown0 hnm hret hlk hZ X0 e0
  have hown : s.vm.findClass "java/lang/StringLatin1" = some m.cls := hown0
  have N0 := Fr.nil n0
  show Goes _ _ _ _ _ _ (T0.setTop (mkF m 0 #[.val (.ref a1), .val (.int (2 : Int32)), .val (.ref a3), .val (.int (2 : Int32)), .val (.int (0 : Int32)), .unset, .unset, .unset, .unset, .unset, .unset] []))
  refine own_aloadN X0 hx (hb hby d19_0) rfl rfl ?_
  refine own_iconst X0 hx (v := (0 : Int32)) (hb hby d19_1) rfl ?_
  refine own_baload X0 hx hZ e0 f1 ⟨by decide, by decide⟩ (v := (.int (45 : Int32))) rfl (hb hby d19_2) ?_
  refine own_istore X0 hx (Ls' := #[.val (.ref a1), .val (.int (2 : Int32)), .val (.ref a3), .val (.int (2 : Int32)), .val (.int (0 : Int32)), .val (.int (45 : Int32)), .unset, .unset, .unset, .unset, .unset]) (hb hby d19_3) rfl ?_
  refine own_iloadN X0 hx (hb hby d19_5) rfl ?_
  refine own_iloadN X0 hx (hb hby d19_6) rfl ?_
  refine own_isub X0 hx (hb hby d19_7) ?_
  refine own_istore X0 hx (Ls' := #[.val (.ref a1), .val (.int (2 : Int32)), .val (.ref a3), .val (.int (2 : Int32)), .val (.int (0 : Int32)), .val (.int (45 : Int32)), .val (.int ((2 : Int32) - (2 : Int32))), .unset, .unset, .unset, .unset]) (hb hby d19_8) rfl ?_
  refine own_iload X0 hx (hb hby d19_10) rfl ?_
  refine own_istore X0 hx (Ls' := #[.val (.ref a1), .val (.int (2 : Int32)), .val (.ref a3), .val (.int (2 : Int32)), .val (.int (0 : Int32)), .val (.int (45 : Int32)), .val (.int ((2 : Int32) - (2 : Int32))), .val (.int (0 : Int32)), .unset, .unset, .unset]) (hb hby d19_12) rfl ?_
  refine own_iload X0 hx (hb hby d19_14) rfl ?_
  refine own_iload X0 hx (hb hby d19_16) rfl ?_
  refine own_icmpNo X0 hx (hb hby d19_18) (flt (by decide : ¬ (((2 : Int32) - (2 : Int32)) < (0 : Int32)))).2.2.1 ?_
  refine own_aloadN X0 hx (hb hby d19_21) rfl rfl ?_
  refine own_iload X0 hx (hb hby d19_22) rfl ?_
  refine own_baload X0 hx hZ e0 f0 ⟨by decide, by decide⟩ (v := (.int x0)) rfl (hb hby d19_24) ?_
  refine own_iload X0 hx (hb hby d19_25) rfl ?_
  by_cases hc27_1 : x0 = (45 : Int32)
  ·
    refine own_icmpYes X0 hx (pc' := 52) (hb hby d19_27) (teq (hc27_1 : x0 = (45 : Int32))).1 (by decide) (by decide) ?_
    refine own_iload X0 hx (hb hby d19_52) rfl ?_
    refine own_iload X0 hx (hb hby d19_54) rfl ?_
    refine own_icmpNo X0 hx (hb hby d19_56) (flt (by decide : ¬ (((2 : Int32) - (2 : Int32)) < (0 : Int32)))).2.2.1 ?_
    refine own_iload X0 hx (hb hby d19_59) rfl ?_
    refine own_iconst X0 hx (v := (1 : Int32)) (hb hby d19_61) rfl ?_
    refine own_iadd X0 hx (hb hby d19_62) ?_
    refine own_istore X0 hx (Ls' := #[.val (.ref a1), .val (.int (2 : Int32)), .val (.ref a3), .val (.int (2 : Int32)), .val (.int (0 : Int32)), .val (.int (45 : Int32)), .val (.int ((2 : Int32) - (2 : Int32))), .val (.int (0 : Int32)), .val (.int ((0 : Int32) + (1 : Int32))), .unset, .unset]) (hb hby d19_63) rfl ?_
    refine own_iload X0 hx (hb hby d19_65) rfl ?_
    show Goes _ _ _ _ _ _ (T0.setTop (mkF m 67 #[.val (.ref a1), .val (.int (2 : Int32)), .val (.ref a3), .val (.int (2 : Int32)), .val (.int (0 : Int32)), .val (.int (45 : Int32)), .val (.int ((2 : Int32) - (2 : Int32))), .val (.int (0 : Int32)), .val (.int ((0 : Int32) + (1 : Int32))), .unset, .unset] [(.int ((0 : Int32) + (1 : Int32)))]))
    refine own_iloadN X0 hx (hb hby d19_67) rfl ?_
    refine own_iadd X0 hx (hb hby d19_68) ?_
    refine own_iconst X0 hx (v := (1 : Int32)) (hb hby d19_69) rfl ?_
    refine own_isub X0 hx (hb hby d19_70) ?_
    refine own_istore X0 hx (Ls' := #[.val (.ref a1), .val (.int (2 : Int32)), .val (.ref a3), .val (.int (2 : Int32)), .val (.int (0 : Int32)), .val (.int (45 : Int32)), .val (.int ((2 : Int32) - (2 : Int32))), .val (.int (0 : Int32)), .val (.int ((0 : Int32) + (1 : Int32))), .val (.int ((((0 : Int32) + (1 : Int32)) + (2 : Int32)) - (1 : Int32))), .unset]) (hb hby d19_71) rfl ?_
    refine own_iconst X0 hx (v := (1 : Int32)) (hb hby d19_73) rfl ?_
    refine own_istore X0 hx (Ls' := #[.val (.ref a1), .val (.int (2 : Int32)), .val (.ref a3), .val (.int (2 : Int32)), .val (.int (0 : Int32)), .val (.int (45 : Int32)), .val (.int ((2 : Int32) - (2 : Int32))), .val (.int (0 : Int32)), .val (.int ((0 : Int32) + (1 : Int32))), .val (.int ((((0 : Int32) + (1 : Int32)) + (2 : Int32)) - (1 : Int32))), .val (.int (1 : Int32))]) (hb hby d19_74) rfl ?_
    refine own_iload X0 hx (hb hby d19_76) rfl ?_
    refine own_iload X0 hx (hb hby d19_78) rfl ?_
    refine own_icmpNo X0 hx (hb hby d19_80) (tlt (by decide : ((0 : Int32) + (1 : Int32)) < ((((0 : Int32) + (1 : Int32)) + (2 : Int32)) - (1 : Int32)))).2.1 ?_
    refine own_aloadN X0 hx (hb hby d19_83) rfl rfl ?_
    refine own_iload X0 hx (hb hby d19_84) rfl ?_
    refine own_baload X0 hx hZ e0 f0 ⟨by decide, by decide⟩ (v := (.int x1)) rfl (hb hby d19_86) ?_
    refine own_aloadN X0 hx (hb hby d19_87) rfl rfl ?_
    refine own_iload X0 hx (hb hby d19_88) rfl ?_
    show Goes _ _ _ _ _ _ (T0.setTop (mkF m 90 #[.val (.ref a1), .val (.int (2 : Int32)), .val (.ref a3), .val (.int (2 : Int32)), .val (.int (0 : Int32)), .val (.int (45 : Int32)), .val (.int ((2 : Int32) - (2 : Int32))), .val (.int (0 : Int32)), .val (.int ((0 : Int32) + (1 : Int32))), .val (.int ((((0 : Int32) + (1 : Int32)) + (2 : Int32)) - (1 : Int32))), .val (.int (1 : Int32))] [(.int (1 : Int32)), (.ref a3), (.int x1)]))
    refine own_baload X0 hx hZ e0 f1 ⟨by decide, by decide⟩ (v := (.int (62 : Int32))) rfl (hb hby d19_90) ?_
    by_cases hc91_2 : x1 = (62 : Int32)
    ·
      exact absurd ⟨hc27_1, hc91_2⟩ hpa0
    ·
      refine own_icmpYes X0 hx (pc' := 103) (hb hby d19_91) (feq (hc91_2 : ¬ (x1 = (62 : Int32)))).2 (by decide) (by decide) ?_
      refine own_iload X0 hx (hb hby d19_103) rfl ?_
      refine own_iload X0 hx (hb hby d19_105) rfl ?_
      refine own_icmpYes X0 hx (pc' := 113) (hb hby d19_107) (feq (by decide : ¬ (((0 : Int32) + (1 : Int32)) = ((((0 : Int32) + (1 : Int32)) + (2 : Int32)) - (1 : Int32))))).2 (by decide) (by decide) ?_
      refine own_iinc X0 hx (Ls' := #[.val (.ref a1), .val (.int (2 : Int32)), .val (.ref a3), .val (.int (2 : Int32)), .val (.int (0 : Int32)), .val (.int (45 : Int32)), .val (.int ((2 : Int32) - (2 : Int32))), .val (.int ((0 : Int32) + (1 : Int32))), .val (.int ((0 : Int32) + (1 : Int32))), .val (.int ((((0 : Int32) + (1 : Int32)) + (2 : Int32)) - (1 : Int32))), .val (.int (1 : Int32))]) (hb hby d19_113) rfl rfl ?_
      refine own_goto X0 hx (pc' := 14) (hb hby d19_116) (by decide) (by decide) ?_
      refine own_iload X0 hx (hb hby d19_14) rfl ?_
      refine own_iload X0 hx (hb hby d19_16) rfl ?_
      refine own_icmpYes X0 hx (pc' := 119) (hb hby d19_18) (tlt (by decide : ((2 : Int32) - (2 : Int32)) < ((0 : Int32) + (1 : Int32)))).2.2.1 (by decide) (by decide) ?_
      refine own_iconst X0 hx (v := (-1 : Int32)) (hb hby d19_119) rfl ?_
      show Goes _ _ _ _ _ _ (T0.setTop (mkF m 120 #[.val (.ref a1), .val (.int (2 : Int32)), .val (.ref a3), .val (.int (2 : Int32)), .val (.int (0 : Int32)), .val (.int (45 : Int32)), .val (.int ((2 : Int32) - (2 : Int32))), .val (.int ((0 : Int32) + (1 : Int32))), .val (.int ((0 : Int32) + (1 : Int32))), .val (.int ((((0 : Int32) + (1 : Int32)) + (2 : Int32)) - (1 : Int32))), .val (.int (1 : Int32))] [(.int (-1 : Int32))]))
      exact own_retI X0 hx N0 hlk (by decide) (by decide) hret (hb hby d19_120) (by rw [e0]; exact ⟨rfl, rfl⟩)
  ·
    refine own_icmpNo X0 hx (hb hby d19_27) (feq (hc27_1 : ¬ (x0 = (45 : Int32)))).1 ?_
    refine own_iinc X0 hx (Ls' := #[.val (.ref a1), .val (.int (2 : Int32)), .val (.ref a3), .val (.int (2 : Int32)), .val (.int (0 : Int32)), .val (.int (45 : Int32)), .val (.int ((2 : Int32) - (2 : Int32))), .val (.int ((0 : Int32) + (1 : Int32))), .unset, .unset, .unset]) (hb hby d19_30) rfl rfl ?_
    refine own_iload X0 hx (hb hby d19_33) rfl ?_
    refine own_iload X0 hx (hb hby d19_35) rfl ?_
    refine own_icmpYes X0 hx (pc' := 52) (hb hby d19_37) (tlt (by decide : ((2 : Int32) - (2 : Int32)) < ((0 : Int32) + (1 : Int32)))).2.2.1 (by decide) (by decide) ?_
    refine own_iload X0 hx (hb hby d19_52) rfl ?_
    refine own_iload X0 hx (hb hby d19_54) rfl ?_
    refine own_icmpYes X0 hx (pc' := 113) (hb hby d19_56) (tlt (by decide : ((2 : Int32) - (2 : Int32)) < ((0 : Int32) + (1 : Int32)))).2.2.1 (by decide) (by decide) ?_
    refine own_iinc X0 hx (Ls' := #[.val (.ref a1), .val (.int (2 : Int32)), .val (.ref a3), .val (.int (2 : Int32)), .val (.int (0 : Int32)), .val (.int (45 : Int32)), .val (.int ((2 : Int32) - (2 : Int32))), .val (.int (((0 : Int32) + (1 : Int32)) + (1 : Int32))), .unset, .unset, .unset]) (hb hby d19_113) rfl rfl ?_
    refine own_goto X0 hx (pc' := 14) (hb hby d19_116) (by decide) (by decide) ?_
    refine own_iload X0 hx (hb hby d19_14) rfl ?_
    refine own_iload X0 hx (hb hby d19_16) rfl ?_
    refine own_icmpYes X0 hx (pc' := 119) (hb hby d19_18) (tlt (by decide : ((2 : Int32) - (2 : Int32)) < (((0 : Int32) + (1 : Int32)) + (1 : Int32)))).2.2.1 (by decide) (by decide) ?_
    refine own_iconst X0 hx (v := (-1 : Int32)) (hb hby d19_119) rfl ?_
    show Goes _ _ _ _ _ _ (T0.setTop (mkF m 120 #[.val (.ref a1), .val (.int (2 : Int32)), .val (.ref a3), .val (.int (2 : Int32)), .val (.int (0 : Int32)), .val (.int (45 : Int32)), .val (.int ((2 : Int32) - (2 : Int32))), .val (.int (((0 : Int32) + (1 : Int32)) + (1 : Int32))), .unset, .unset, .unset] [(.int (-1 : Int32))]))
    exact own_retI X0 hx N0 hlk (by decide) (by decide) hret (hb hby d19_120) (by rw [e0]; exact ⟨rfl, rfl⟩)
def Q182a (Z : State) (a1 : Addr) (a2 : Addr) (k : ClassId) (k2 : ClassId) (x0 : Int32) (x1 : Int32) (h0 : Heap) (n0 : Nat) (v : Option Value) (h : Heap) : Prop :=
  (v = some (.int (-1 : Int32)) ∧ h = h0)
theorem ef_182a (m : MethodId) (a1 : Addr) (a2 : Addr) : entryFrame m #[(.ref a1), (.ref a2)] 2 = mkF m 0 #[.val (.ref a1), .val (.ref a2)] [] := by first | (simp [entryFrame, mkF, argsToLocals, Value.category]; done) | rfl
set_option maxRecDepth 65536 in
set_option maxHeartbeats 40000000 in
theorem rm182a (l : Launch) (Z : State) (a0 : Array Value) (hw : ∀ d ∈ tables_1, d.before a0 Z = true) (ws : List Jvm.Cond) (a1 : Addr) (a2 : Addr) (k : ClassId) (k2 : ClassId) (x0 : Int32) (x1 : Int32) (h0 : Heap) (n0 : Nat) (O0 : Old Z n0 h0) (f0 : Arv Z h0 a1 k .byte (2 : Int32) [(.int x0), (.int x1)] (.int (0 : Int32))) (f1 : Arv Z h0 a2 k2 .byte (2 : Int32) [(.int (45 : Int32)), (.int (62 : Int32))] (.int (0 : Int32))) (hpa0 : ¬ (x0 = (45 : Int32) ∧ x1 = (62 : Int32))) :
    Meets l (⟨"java/lang/StringLatin1", "indexOf", "([B[B)I"⟩ : MethodName) jdk_43_method_24_code 2 (some .int) ws ({ frames := 1, cells := 0, slots := 0, locals := 22 } : Room) ({ frames := 1, cells := 0, slots := 0, locals := 22 } : Room).cells ({ frames := 1, cells := 0, slots := 0, locals := 22 } : Room).slots Z #[(.ref a1), (.ref a2)] h0 n0 (Q182a Z a1 a2 k k2 x0 x1 h0 n0) := by
  refine Meets.of (F := fun m => mkF m 0 #[.val (.ref a1), .val (.ref a2)] []) (plainFor_of_name pn_2) (fun m => ef_182a m a1 a2) ?_
  intro p e s m below meth c T0 hx hby hml hown0 hnm hret hlk hZ X0 e0
  have hown : s.vm.findClass "java/lang/StringLatin1" = some m.cls := hown0
  have N0 := Fr.nil n0
  show Goes _ _ _ _ _ _ (T0.setTop (mkF m 0 #[.val (.ref a1), .val (.ref a2)] []))
  refine own_aloadN X0 hx (hb hby d18_0) rfl rfl ?_
  refine own_alen X0 hx hZ e0 f1 (hb hby d18_1) ?_
  refine own_ifYes X0 hx (pc' := 7) (hb hby d18_2) ((if0 _ _).trans (feq (by decide : ¬ ((2 : Int32) = (0 : Int32)))).2) (by decide) (by decide) ?_
  refine own_aloadN X0 hx (hb hby d18_7) rfl rfl ?_
  refine own_alen X0 hx hZ e0 f0 (hb hby d18_8) ?_
  refine own_ifYes X0 hx (pc' := 14) (hb hby d18_9) ((if0 _ _).trans (feq (by decide : ¬ ((2 : Int32) = (0 : Int32)))).2) (by decide) (by decide) ?_
  refine own_aloadN X0 hx (hb hby d18_14) rfl rfl ?_
  refine own_aloadN X0 hx (hb hby d18_15) rfl rfl ?_
  refine own_alen X0 hx hZ e0 f0 (hb hby d18_16) ?_
  refine own_aloadN X0 hx (hb hby d18_17) rfl rfl ?_
  refine own_aloadN X0 hx (hb hby d18_18) rfl rfl ?_
  show Goes _ _ _ _ _ _ (T0.setTop (mkF m 19 #[.val (.ref a1), .val (.ref a2)] [(.ref a2), (.ref a2), (.int (2 : Int32)), (.ref a1)]))
  refine own_alen X0 hx hZ e0 f1 (hb hby d18_19) ?_
  refine own_iconst X0 hx (v := (0 : Int32)) (hb hby d18_20) rfl ?_
  refine own_callS X0 hx hZ hown (y := (⟨"java/lang/StringLatin1", "indexOf", "([BI[BII)I"⟩ : MethodName)) (hw _ (List.mem_of_getElem? (i := 92) rfl)) (hw _ (List.mem_of_getElem? (i := 93) rfl)) (hw _ (List.mem_of_getElem? (i := 90) rfl)) (hw _ (List.mem_of_getElem? (i := 94) rfl)) (by decide) (W := 0) (by decide) (by decide) N0 e0 (by rw [hml]; rfl) (argsL := [(.ref a1), (.int (2 : Int32)), (.ref a2), (.int (2 : Int32)), (.int (0 : Int32))]) (rest := []) (lenOf pd_1 rfl) (Nat.le_of_eq rfl) (by decide) (by decide) (rm192a l Z a0 hw [] a1 a2 k k2 x0 x1 h0 n0 O0 f0 f1 hpa0) rfl (hb hby d18_21) ?_
  intro v1 T1 lc1 X1 N1 hQ1
  obtain ⟨rfl, e1⟩ := hQ1
  show Goes _ _ _ _ _ _ (T1.setTop (mkF m 24 #[.val (.ref a1), .val (.ref a2)] [(.int (-1 : Int32))]))
  exact own_retI X1 hx N1 hlk (by decide) (by decide) hret (hb hby d18_24) (by rw [e1]; exact ⟨rfl, rfl⟩)
def Q152a (Z : State) (a1 : Addr) (a2 : Addr) (t : Addr) (k : ClassId) (x0 : Int32) (x1 : Int32) (t2 : Addr) (k2 : ClassId) (zc : Int32) (h0 : Heap) (n0 : Nat) (v : Option Value) (h : Heap) : Prop :=
  (v = some (.int (-1 : Int32)) ∧ h = h0)
theorem ef_152a (m : MethodId) (a1 : Addr) (a2 : Addr) : entryFrame m #[(.ref a1), (.ref a2)] 3 = mkF m 0 #[.val (.ref a1), .val (.ref a2), .unset] [] := by first | (simp [entryFrame, mkF, argsToLocals, Value.category]; done) | rfl
set_option maxRecDepth 65536 in
set_option maxHeartbeats 40000000 in
theorem rm152a (l : Launch) (Z : State) (a0 : Array Value) (hw : ∀ d ∈ tables_1, d.before a0 Z = true) (ws : List Jvm.Cond) (a1 : Addr) (a2 : Addr) (t : Addr) (k : ClassId) (x0 : Int32) (x1 : Int32) (t2 : Addr) (k2 : ClassId) (zc : Int32) (h0 : Heap) (n0 : Nat) (O0 : Old Z n0 h0) (SF : Start Z zc) (f0 : Exa Z h0 a1 "java/lang/String") (f1 : Fld Z h0 a1 "java/lang/String" "value" "[B" (.ref t)) (f2 : Fld Z h0 a1 "java/lang/String" "coder" "B" (.int (0 : Int32))) (f3 : Arv Z h0 t k .byte (2 : Int32) [(.int x0), (.int x1)] (.int (0 : Int32))) (f4 : Exa Z h0 a2 "java/lang/String") (f5 : Fld Z h0 a2 "java/lang/String" "value" "[B" (.ref t2)) (f6 : Fld Z h0 a2 "java/lang/String" "coder" "B" (.int (0 : Int32))) (f7 : Arv Z h0 t2 k2 .byte (2 : Int32) [(.int (45 : Int32)), (.int (62 : Int32))] (.int (0 : Int32))) (hpa0 : ¬ (x0 = (45 : Int32) ∧ x1 = (62 : Int32))) :
    Meets l (⟨"java/lang/String", "indexOf", "(Ljava/lang/String;)I"⟩ : MethodName) jdk_42_method_84_code 3 (some .int) ws ({ frames := 2, cells := 0, slots := 0, locals := 35 } : Room) ({ frames := 2, cells := 0, slots := 0, locals := 35 } : Room).cells ({ frames := 2, cells := 0, slots := 0, locals := 35 } : Room).slots Z #[(.ref a1), (.ref a2)] h0 n0 (Q152a Z a1 a2 t k x0 x1 t2 k2 zc h0 n0) := by
  refine Meets.of (F := fun m => mkF m 0 #[.val (.ref a1), .val (.ref a2), .unset] []) (plainFor_of_name pn_0) (fun m => ef_152a m a1 a2) ?_
  intro p e s m below meth c T0 hx hby hml hown0 hnm hret hlk hZ X0 e0
  have hown : s.vm.findClass "java/lang/String" = some m.cls := hown0
  have N0 := Fr.nil n0
  obtain ⟨z0, hzc, -⟩ := SF
  show Goes _ _ _ _ _ _ (T0.setTop (mkF m 0 #[.val (.ref a1), .val (.ref a2), .unset] []))
  refine own_aloadN X0 hx (hb hby d15_0) rfl rfl ?_
  refine own_virtual X0 hx hZ hown (y := (⟨"java/lang/String", "coder", "()B"⟩ : MethodName)) (z := (⟨"java/lang/String", "coder", "()B"⟩ : MethodName)) (hw _ (List.mem_of_getElem? (i := 78) rfl)) (hw _ (List.mem_of_getElem? (i := 79) rfl)) (notFace_of_selects (args := #[]) (mvT hZ (hw _ (List.mem_of_getElem? (i := 81) rfl)))) (hw _ (List.mem_of_getElem? (i := 81) rfl)) (hw _ (List.mem_of_getElem? (i := 80) rfl)) (hw _ (List.mem_of_getElem? (i := 8) rfl)) (hw _ (List.mem_of_getElem? (i := 82) rfl)) (a := a1) f0 (by decide) (W := 0) (by decide) (by decide) N0 e0 (by rw [hml]; rfl) (argsL := []) (rest := []) (lenOf pd_0 rfl) (Nat.le_of_eq rfl) (by decide) (by decide) (rm16 l Z a0 hw [] a1 zc h0 n0 O0 ⟨z0, hzc, trivial⟩ f2) rfl (hb hby d15_1) ?_
  intro v1 T1 lc1 X1 N1 hQ1
  obtain ⟨rfl, e1⟩ := hQ1
  refine own_istoreN X1 hx (Ls' := #[.val (.ref a1), .val (.ref a2), .val (.int (0 : Int32))]) (hb hby d15_4) rfl ?_
  refine own_iloadN X1 hx (hb hby d15_5) rfl ?_
  refine own_aloadN X1 hx (hb hby d15_6) rfl rfl ?_
  refine own_virtual X1 hx hZ hown (y := (⟨"java/lang/String", "coder", "()B"⟩ : MethodName)) (z := (⟨"java/lang/String", "coder", "()B"⟩ : MethodName)) (hw _ (List.mem_of_getElem? (i := 78) rfl)) (hw _ (List.mem_of_getElem? (i := 79) rfl)) (notFace_of_selects (args := #[]) (mvT hZ (hw _ (List.mem_of_getElem? (i := 81) rfl)))) (hw _ (List.mem_of_getElem? (i := 81) rfl)) (hw _ (List.mem_of_getElem? (i := 80) rfl)) (hw _ (List.mem_of_getElem? (i := 8) rfl)) (hw _ (List.mem_of_getElem? (i := 82) rfl)) (a := a2) f4 (by decide) (W := 1) (by decide) (by decide) N1 e1 (by rw [hml]; rfl) (argsL := []) (rest := [(.int (0 : Int32))]) (lenOf pd_0 rfl) (Nat.le_of_eq rfl) (by decide) (by decide) (rm16 l Z a0 hw [] a2 zc h0 n0 O0 ⟨z0, hzc, trivial⟩ f6) rfl (hb hby d15_7) ?_
  intro v2 T2 lc2 X2 N2 hQ2
  obtain ⟨rfl, e2⟩ := hQ2
  refine own_icmpNo X2 hx (hb hby d15_10) (teq (by decide : (0 : Int32) = (0 : Int32))).2 ?_
  refine own_aloadN X2 hx (hb hby d15_13) rfl rfl ?_
  refine own_virtual X2 hx hZ hown (y := (⟨"java/lang/String", "isLatin1", "()Z"⟩ : MethodName)) (z := (⟨"java/lang/String", "isLatin1", "()Z"⟩ : MethodName)) (hw _ (List.mem_of_getElem? (i := 83) rfl)) (hw _ (List.mem_of_getElem? (i := 84) rfl)) (notFace_of_selects (args := #[]) (mvT hZ (hw _ (List.mem_of_getElem? (i := 86) rfl)))) (hw _ (List.mem_of_getElem? (i := 86) rfl)) (hw _ (List.mem_of_getElem? (i := 85) rfl)) (hw _ (List.mem_of_getElem? (i := 8) rfl)) (hw _ (List.mem_of_getElem? (i := 87) rfl)) (a := a1) f0 (by decide) (W := 0) (by decide) (by decide) N2 e2 (by rw [hml]; rfl) (argsL := []) (rest := []) (lenOf pd_2 rfl) (Nat.le_of_eq rfl) (by decide) (by decide) (rm17 l Z a0 hw [] a1 zc h0 n0 O0 ⟨z0, hzc, trivial⟩ f2) rfl (hb hby d15_14) ?_
  intro v3 T3 lc3 X3 N3 hQ3
  obtain ⟨rfl, e3⟩ := hQ3
  refine own_ifNo X3 hx (hb hby d15_17) ((if0 _ _).trans (feq (by decide : ¬ ((1 : Int32) = (0 : Int32)))).1) ?_
  refine own_aloadN X3 hx (hb hby d15_20) rfl rfl ?_
  refine own_getF X3 hx hZ hown (host := "") (Or.inl (hw _ (List.mem_of_getElem? (i := 25) rfl))) Via.refl e3 f1 (hb hby d15_21) (fun T4 X4 e4 => ?_)
  refine own_aloadN X4 hx (hb hby d15_24) rfl rfl ?_
  refine own_getF X4 hx hZ hown (host := "") (Or.inl (hw _ (List.mem_of_getElem? (i := 25) rfl))) Via.refl e4 f5 (hb hby d15_25) (fun T5 X5 e5 => ?_)
  refine own_callS X5 hx hZ hown (y := (⟨"java/lang/StringLatin1", "indexOf", "([B[B)I"⟩ : MethodName)) (hw _ (List.mem_of_getElem? (i := 88) rfl)) (hw _ (List.mem_of_getElem? (i := 89) rfl)) (hw _ (List.mem_of_getElem? (i := 90) rfl)) (hw _ (List.mem_of_getElem? (i := 91) rfl)) (by decide) (W := 0) (by decide) (by decide) N3 e5 (by rw [hml]; rfl) (argsL := [(.ref t), (.ref t2)]) (rest := []) (lenOf pd_3 rfl) (Nat.le_of_eq rfl) (by decide) (by decide) (rm182a l Z a0 hw [] t t2 k k2 x0 x1 h0 n0 O0 f3 f7 hpa0) rfl (hb hby d15_28) ?_
  intro v6 T6 lc6 X6 N6 hQ6
  obtain ⟨rfl, e6⟩ := hQ6
  refine own_goto X6 hx (pc' := 45) (hb hby d15_31) (by decide) (by decide) ?_
  show Goes _ _ _ _ _ _ (T6.setTop (mkF m 45 #[.val (.ref a1), .val (.ref a2), .val (.int (0 : Int32))] [(.int (-1 : Int32))]))
  exact own_retI X6 hx N6 hlk (by decide) (by decide) hret (hb hby d15_45) (by rw [e6]; exact ⟨rfl, rfl⟩)
def Q132a (Z : State) (a1 : Addr) (a2 : Addr) (t : Addr) (k : ClassId) (x0 : Int32) (x1 : Int32) (t2 : Addr) (k2 : ClassId) (zc : Int32) (h0 : Heap) (n0 : Nat) (v : Option Value) (h : Heap) : Prop :=
  (v = some (.int (0 : Int32)) ∧ h = h0)
theorem ef_132a (m : MethodId) (a1 : Addr) (a2 : Addr) : entryFrame m #[(.ref a1), (.ref a2)] 2 = mkF m 0 #[.val (.ref a1), .val (.ref a2)] [] := by first | (simp [entryFrame, mkF, argsToLocals, Value.category]; done) | rfl
set_option maxRecDepth 65536 in
set_option maxHeartbeats 40000000 in
theorem rm132a (l : Launch) (Z : State) (a0 : Array Value) (hw : ∀ d ∈ tables_1, d.before a0 Z = true) (ws : List Jvm.Cond) (a1 : Addr) (a2 : Addr) (t : Addr) (k : ClassId) (x0 : Int32) (x1 : Int32) (t2 : Addr) (k2 : ClassId) (zc : Int32) (h0 : Heap) (n0 : Nat) (O0 : Old Z n0 h0) (SF : Start Z zc) (f0 : Exa Z h0 a1 "java/lang/String") (f1 : Fld Z h0 a1 "java/lang/String" "value" "[B" (.ref t)) (f2 : Fld Z h0 a1 "java/lang/String" "coder" "B" (.int (0 : Int32))) (f3 : Arv Z h0 t k .byte (2 : Int32) [(.int x0), (.int x1)] (.int (0 : Int32))) (f4 : Exa Z h0 a2 "java/lang/String") (f5 : Fld Z h0 a2 "java/lang/String" "value" "[B" (.ref t2)) (f6 : Fld Z h0 a2 "java/lang/String" "coder" "B" (.int (0 : Int32))) (f7 : Arv Z h0 t2 k2 .byte (2 : Int32) [(.int (45 : Int32)), (.int (62 : Int32))] (.int (0 : Int32))) (hpa0 : ¬ (x0 = (45 : Int32) ∧ x1 = (62 : Int32))) :
    Meets l (⟨"java/lang/String", "contains", "(Ljava/lang/CharSequence;)Z"⟩ : MethodName) jdk_42_method_97_code 2 (some .boolean) ws ({ frames := 3, cells := 0, slots := 0, locals := 49 } : Room) ({ frames := 3, cells := 0, slots := 0, locals := 49 } : Room).cells ({ frames := 3, cells := 0, slots := 0, locals := 49 } : Room).slots Z #[(.ref a1), (.ref a2)] h0 n0 (Q132a Z a1 a2 t k x0 x1 t2 k2 zc h0 n0) := by
  refine Meets.of (F := fun m => mkF m 0 #[.val (.ref a1), .val (.ref a2)] []) (plainFor_of_name pn_0) (fun m => ef_132a m a1 a2) ?_
  intro p e s m below meth c T0 hx hby hml hown0 hnm hret hlk hZ X0 e0
  have hown : s.vm.findClass "java/lang/String" = some m.cls := hown0
  have N0 := Fr.nil n0
  obtain ⟨z0, hzc, -⟩ := SF
  show Goes _ _ _ _ _ _ (T0.setTop (mkF m 0 #[.val (.ref a1), .val (.ref a2)] []))
  refine own_aloadN X0 hx (hb hby d13_0) rfl rfl ?_
  refine own_aloadN X0 hx (hb hby d13_1) rfl rfl ?_
  refine own_iface X0 hx hZ hown (y := (⟨"java/lang/CharSequence", "toString", "()Ljava/lang/String;"⟩ : MethodName)) (z := (⟨"java/lang/String", "toString", "()Ljava/lang/String;"⟩ : MethodName)) (hw _ (List.mem_of_getElem? (i := 64) rfl)) (hw _ (List.mem_of_getElem? (i := 65) rfl)) (hw _ (List.mem_of_getElem? (i := 66) rfl)) (hw _ (List.mem_of_getElem? (i := 67) rfl)) (hw _ (List.mem_of_getElem? (i := 68) rfl)) (hw _ (List.mem_of_getElem? (i := 69) rfl)) (hw _ (List.mem_of_getElem? (i := 70) rfl)) (hw _ (List.mem_of_getElem? (i := 71) rfl)) (hw _ (List.mem_of_getElem? (i := 8) rfl)) (hw _ (List.mem_of_getElem? (i := 72) rfl)) (a := a2) f4 (by decide) (W := 1) (by decide) (by decide) N0 e0 (by rw [hml]; rfl) (argsL := []) (rest := [(.ref a1)]) (lenOf pd_4 rfl) (Nat.le_of_eq rfl) (by decide) (by decide) (rm14 l Z a0 hw [] a2 h0 n0 O0) rfl (hb hby d13_2) ?_
  intro v1 T1 lc1 X1 N1 hQ1
  obtain ⟨rfl, e1⟩ := hQ1
  refine own_virtual X1 hx hZ hown (y := (⟨"java/lang/String", "indexOf", "(Ljava/lang/String;)I"⟩ : MethodName)) (z := (⟨"java/lang/String", "indexOf", "(Ljava/lang/String;)I"⟩ : MethodName)) (hw _ (List.mem_of_getElem? (i := 73) rfl)) (hw _ (List.mem_of_getElem? (i := 74) rfl)) (notFace_of_selects (args := #[]) (mvT hZ (hw _ (List.mem_of_getElem? (i := 76) rfl)))) (hw _ (List.mem_of_getElem? (i := 76) rfl)) (hw _ (List.mem_of_getElem? (i := 75) rfl)) (hw _ (List.mem_of_getElem? (i := 8) rfl)) (hw _ (List.mem_of_getElem? (i := 77) rfl)) (a := a1) f0 (by decide) (W := 0) (by decide) (by decide) N1 e1 (by rw [hml]; rfl) (argsL := [(.ref a2)]) (rest := []) (lenOf pd_5 rfl) (Nat.le_of_eq rfl) (by decide) (by decide) (rm152a l Z a0 hw [] a1 a2 t k x0 x1 t2 k2 zc h0 n0 O0 ⟨z0, hzc, trivial⟩ f0 f1 f2 f3 f4 f5 f6 f7 hpa0) rfl (hb hby d13_7) ?_
  intro v2 T2 lc2 X2 N2 hQ2
  obtain ⟨rfl, e2⟩ := hQ2
  refine own_ifYes X2 hx (pc' := 17) (hb hby d13_10) ((if0 _ _).trans (tlt (by decide : (-1 : Int32) < (0 : Int32))).1) (by decide) (by decide) ?_
  refine own_iconst X2 hx (v := (0 : Int32)) (hb hby d13_17) rfl ?_
  show Goes _ _ _ _ _ _ (T2.setTop (mkF m 18 #[.val (.ref a1), .val (.ref a2)] [(.int (0 : Int32))]))
  exact own_retN X2 hx (t := .boolean) N2 hlk (by decide) (by decide) hret (by simp) (hb hby d13_18) (by rw [e2]; exact ⟨rfl, rfl⟩)
def Q192c (Z : State) (a1 : Addr) (a3 : Addr) (k : ClassId) (k2 : ClassId) (x0 : Int32) (x1 : Int32) (h0 : Heap) (n0 : Nat) (v : Option Value) (h : Heap) : Prop :=
  (v = some (.int (-1 : Int32)) ∧ h = h0)
theorem ef_192c (m : MethodId) (a1 : Addr) (a3 : Addr) : entryFrame m #[(.ref a1), (.int (2 : Int32)), (.ref a3), (.int (2 : Int32)), (.int (0 : Int32))] 11 = mkF m 0 #[.val (.ref a1), .val (.int (2 : Int32)), .val (.ref a3), .val (.int (2 : Int32)), .val (.int (0 : Int32)), .unset, .unset, .unset, .unset, .unset, .unset] [] := by first | (simp [entryFrame, mkF, argsToLocals, Value.category]; done) | rfl
set_option maxRecDepth 65536 in
set_option maxHeartbeats 40000000 in
theorem rm192c (l : Launch) (Z : State) (a0 : Array Value) (hw : ∀ d ∈ tables_1, d.before a0 Z = true) (ws : List Jvm.Cond) (a1 : Addr) (a3 : Addr) (k : ClassId) (k2 : ClassId) (x0 : Int32) (x1 : Int32) (h0 : Heap) (n0 : Nat) (O0 : Old Z n0 h0) (f0 : Arv Z h0 a1 k .byte (2 : Int32) [(.int x0), (.int x1)] (.int (0 : Int32))) (f1 : Arv Z h0 a3 k2 .byte (2 : Int32) [(.int (58 : Int32)), (.int (58 : Int32))] (.int (0 : Int32))) (hpc0 : ¬ (x0 = (58 : Int32) ∧ x1 = (58 : Int32))) :
    Meets l (⟨"java/lang/StringLatin1", "indexOf", "([BI[BII)I"⟩ : MethodName) jdk_43_method_25_code 11 (some .int) ws ({ frames := 0, cells := 0, slots := 0, locals := 0 } : Room) ({ frames := 0, cells := 0, slots := 0, locals := 0 } : Room).cells ({ frames := 0, cells := 0, slots := 0, locals := 0 } : Room).slots Z #[(.ref a1), (.int (2 : Int32)), (.ref a3), (.int (2 : Int32)), (.int (0 : Int32))] h0 n0 (Q192c Z a1 a3 k k2 x0 x1 h0 n0) := by
  refine Meets.of (F := fun m => mkF m 0 #[.val (.ref a1), .val (.int (2 : Int32)), .val (.ref a3), .val (.int (2 : Int32)), .val (.int (0 : Int32)), .unset, .unset, .unset, .unset, .unset, .unset] []) (plainFor_of_name pn_2) (fun m => ef_192c m a1 a3) ?_
  intro p e s m below meth c T0 hx hby hml hown0 hnm hret hlk hZ X0 e0
  have hown : s.vm.findClass "java/lang/StringLatin1" = some m.cls := hown0
  have N0 := Fr.nil n0
  show Goes _ _ _ _ _ _ (T0.setTop (mkF m 0 #[.val (.ref a1), .val (.int (2 : Int32)), .val (.ref a3), .val (.int (2 : Int32)), .val (.int (0 : Int32)), .unset, .unset, .unset, .unset, .unset, .unset] []))
  refine own_aloadN X0 hx (hb hby d19_0) rfl rfl ?_
  refine own_iconst X0 hx (v := (0 : Int32)) (hb hby d19_1) rfl ?_
  refine own_baload X0 hx hZ e0 f1 ⟨by decide, by decide⟩ (v := (.int (58 : Int32))) rfl (hb hby d19_2) ?_
  refine own_istore X0 hx (Ls' := #[.val (.ref a1), .val (.int (2 : Int32)), .val (.ref a3), .val (.int (2 : Int32)), .val (.int (0 : Int32)), .val (.int (58 : Int32)), .unset, .unset, .unset, .unset, .unset]) (hb hby d19_3) rfl ?_
  refine own_iloadN X0 hx (hb hby d19_5) rfl ?_
  refine own_iloadN X0 hx (hb hby d19_6) rfl ?_
  refine own_isub X0 hx (hb hby d19_7) ?_
  refine own_istore X0 hx (Ls' := #[.val (.ref a1), .val (.int (2 : Int32)), .val (.ref a3), .val (.int (2 : Int32)), .val (.int (0 : Int32)), .val (.int (58 : Int32)), .val (.int ((2 : Int32) - (2 : Int32))), .unset, .unset, .unset, .unset]) (hb hby d19_8) rfl ?_
  refine own_iload X0 hx (hb hby d19_10) rfl ?_
  refine own_istore X0 hx (Ls' := #[.val (.ref a1), .val (.int (2 : Int32)), .val (.ref a3), .val (.int (2 : Int32)), .val (.int (0 : Int32)), .val (.int (58 : Int32)), .val (.int ((2 : Int32) - (2 : Int32))), .val (.int (0 : Int32)), .unset, .unset, .unset]) (hb hby d19_12) rfl ?_
  refine own_iload X0 hx (hb hby d19_14) rfl ?_
  refine own_iload X0 hx (hb hby d19_16) rfl ?_
  refine own_icmpNo X0 hx (hb hby d19_18) (flt (by decide : ¬ (((2 : Int32) - (2 : Int32)) < (0 : Int32)))).2.2.1 ?_
  refine own_aloadN X0 hx (hb hby d19_21) rfl rfl ?_
  refine own_iload X0 hx (hb hby d19_22) rfl ?_
  refine own_baload X0 hx hZ e0 f0 ⟨by decide, by decide⟩ (v := (.int x0)) rfl (hb hby d19_24) ?_
  refine own_iload X0 hx (hb hby d19_25) rfl ?_
  by_cases hc27_1 : x0 = (58 : Int32)
  ·
    refine own_icmpYes X0 hx (pc' := 52) (hb hby d19_27) (teq (hc27_1 : x0 = (58 : Int32))).1 (by decide) (by decide) ?_
    refine own_iload X0 hx (hb hby d19_52) rfl ?_
    refine own_iload X0 hx (hb hby d19_54) rfl ?_
    refine own_icmpNo X0 hx (hb hby d19_56) (flt (by decide : ¬ (((2 : Int32) - (2 : Int32)) < (0 : Int32)))).2.2.1 ?_
    refine own_iload X0 hx (hb hby d19_59) rfl ?_
    refine own_iconst X0 hx (v := (1 : Int32)) (hb hby d19_61) rfl ?_
    refine own_iadd X0 hx (hb hby d19_62) ?_
    refine own_istore X0 hx (Ls' := #[.val (.ref a1), .val (.int (2 : Int32)), .val (.ref a3), .val (.int (2 : Int32)), .val (.int (0 : Int32)), .val (.int (58 : Int32)), .val (.int ((2 : Int32) - (2 : Int32))), .val (.int (0 : Int32)), .val (.int ((0 : Int32) + (1 : Int32))), .unset, .unset]) (hb hby d19_63) rfl ?_
    refine own_iload X0 hx (hb hby d19_65) rfl ?_
    show Goes _ _ _ _ _ _ (T0.setTop (mkF m 67 #[.val (.ref a1), .val (.int (2 : Int32)), .val (.ref a3), .val (.int (2 : Int32)), .val (.int (0 : Int32)), .val (.int (58 : Int32)), .val (.int ((2 : Int32) - (2 : Int32))), .val (.int (0 : Int32)), .val (.int ((0 : Int32) + (1 : Int32))), .unset, .unset] [(.int ((0 : Int32) + (1 : Int32)))]))
    refine own_iloadN X0 hx (hb hby d19_67) rfl ?_
    refine own_iadd X0 hx (hb hby d19_68) ?_
    refine own_iconst X0 hx (v := (1 : Int32)) (hb hby d19_69) rfl ?_
    refine own_isub X0 hx (hb hby d19_70) ?_
    refine own_istore X0 hx (Ls' := #[.val (.ref a1), .val (.int (2 : Int32)), .val (.ref a3), .val (.int (2 : Int32)), .val (.int (0 : Int32)), .val (.int (58 : Int32)), .val (.int ((2 : Int32) - (2 : Int32))), .val (.int (0 : Int32)), .val (.int ((0 : Int32) + (1 : Int32))), .val (.int ((((0 : Int32) + (1 : Int32)) + (2 : Int32)) - (1 : Int32))), .unset]) (hb hby d19_71) rfl ?_
    refine own_iconst X0 hx (v := (1 : Int32)) (hb hby d19_73) rfl ?_
    refine own_istore X0 hx (Ls' := #[.val (.ref a1), .val (.int (2 : Int32)), .val (.ref a3), .val (.int (2 : Int32)), .val (.int (0 : Int32)), .val (.int (58 : Int32)), .val (.int ((2 : Int32) - (2 : Int32))), .val (.int (0 : Int32)), .val (.int ((0 : Int32) + (1 : Int32))), .val (.int ((((0 : Int32) + (1 : Int32)) + (2 : Int32)) - (1 : Int32))), .val (.int (1 : Int32))]) (hb hby d19_74) rfl ?_
    refine own_iload X0 hx (hb hby d19_76) rfl ?_
    refine own_iload X0 hx (hb hby d19_78) rfl ?_
    refine own_icmpNo X0 hx (hb hby d19_80) (tlt (by decide : ((0 : Int32) + (1 : Int32)) < ((((0 : Int32) + (1 : Int32)) + (2 : Int32)) - (1 : Int32)))).2.1 ?_
    refine own_aloadN X0 hx (hb hby d19_83) rfl rfl ?_
    refine own_iload X0 hx (hb hby d19_84) rfl ?_
    refine own_baload X0 hx hZ e0 f0 ⟨by decide, by decide⟩ (v := (.int x1)) rfl (hb hby d19_86) ?_
    refine own_aloadN X0 hx (hb hby d19_87) rfl rfl ?_
    refine own_iload X0 hx (hb hby d19_88) rfl ?_
    show Goes _ _ _ _ _ _ (T0.setTop (mkF m 90 #[.val (.ref a1), .val (.int (2 : Int32)), .val (.ref a3), .val (.int (2 : Int32)), .val (.int (0 : Int32)), .val (.int (58 : Int32)), .val (.int ((2 : Int32) - (2 : Int32))), .val (.int (0 : Int32)), .val (.int ((0 : Int32) + (1 : Int32))), .val (.int ((((0 : Int32) + (1 : Int32)) + (2 : Int32)) - (1 : Int32))), .val (.int (1 : Int32))] [(.int (1 : Int32)), (.ref a3), (.int x1)]))
    refine own_baload X0 hx hZ e0 f1 ⟨by decide, by decide⟩ (v := (.int (58 : Int32))) rfl (hb hby d19_90) ?_
    by_cases hc91_2 : x1 = (58 : Int32)
    ·
      exact absurd ⟨hc27_1, hc91_2⟩ hpc0
    ·
      refine own_icmpYes X0 hx (pc' := 103) (hb hby d19_91) (feq (hc91_2 : ¬ (x1 = (58 : Int32)))).2 (by decide) (by decide) ?_
      refine own_iload X0 hx (hb hby d19_103) rfl ?_
      refine own_iload X0 hx (hb hby d19_105) rfl ?_
      refine own_icmpYes X0 hx (pc' := 113) (hb hby d19_107) (feq (by decide : ¬ (((0 : Int32) + (1 : Int32)) = ((((0 : Int32) + (1 : Int32)) + (2 : Int32)) - (1 : Int32))))).2 (by decide) (by decide) ?_
      refine own_iinc X0 hx (Ls' := #[.val (.ref a1), .val (.int (2 : Int32)), .val (.ref a3), .val (.int (2 : Int32)), .val (.int (0 : Int32)), .val (.int (58 : Int32)), .val (.int ((2 : Int32) - (2 : Int32))), .val (.int ((0 : Int32) + (1 : Int32))), .val (.int ((0 : Int32) + (1 : Int32))), .val (.int ((((0 : Int32) + (1 : Int32)) + (2 : Int32)) - (1 : Int32))), .val (.int (1 : Int32))]) (hb hby d19_113) rfl rfl ?_
      refine own_goto X0 hx (pc' := 14) (hb hby d19_116) (by decide) (by decide) ?_
      refine own_iload X0 hx (hb hby d19_14) rfl ?_
      refine own_iload X0 hx (hb hby d19_16) rfl ?_
      refine own_icmpYes X0 hx (pc' := 119) (hb hby d19_18) (tlt (by decide : ((2 : Int32) - (2 : Int32)) < ((0 : Int32) + (1 : Int32)))).2.2.1 (by decide) (by decide) ?_
      refine own_iconst X0 hx (v := (-1 : Int32)) (hb hby d19_119) rfl ?_
      show Goes _ _ _ _ _ _ (T0.setTop (mkF m 120 #[.val (.ref a1), .val (.int (2 : Int32)), .val (.ref a3), .val (.int (2 : Int32)), .val (.int (0 : Int32)), .val (.int (58 : Int32)), .val (.int ((2 : Int32) - (2 : Int32))), .val (.int ((0 : Int32) + (1 : Int32))), .val (.int ((0 : Int32) + (1 : Int32))), .val (.int ((((0 : Int32) + (1 : Int32)) + (2 : Int32)) - (1 : Int32))), .val (.int (1 : Int32))] [(.int (-1 : Int32))]))
      exact own_retI X0 hx N0 hlk (by decide) (by decide) hret (hb hby d19_120) (by rw [e0]; exact ⟨rfl, rfl⟩)
  ·
    refine own_icmpNo X0 hx (hb hby d19_27) (feq (hc27_1 : ¬ (x0 = (58 : Int32)))).1 ?_
    refine own_iinc X0 hx (Ls' := #[.val (.ref a1), .val (.int (2 : Int32)), .val (.ref a3), .val (.int (2 : Int32)), .val (.int (0 : Int32)), .val (.int (58 : Int32)), .val (.int ((2 : Int32) - (2 : Int32))), .val (.int ((0 : Int32) + (1 : Int32))), .unset, .unset, .unset]) (hb hby d19_30) rfl rfl ?_
    refine own_iload X0 hx (hb hby d19_33) rfl ?_
    refine own_iload X0 hx (hb hby d19_35) rfl ?_
    refine own_icmpYes X0 hx (pc' := 52) (hb hby d19_37) (tlt (by decide : ((2 : Int32) - (2 : Int32)) < ((0 : Int32) + (1 : Int32)))).2.2.1 (by decide) (by decide) ?_
    refine own_iload X0 hx (hb hby d19_52) rfl ?_
    refine own_iload X0 hx (hb hby d19_54) rfl ?_
    refine own_icmpYes X0 hx (pc' := 113) (hb hby d19_56) (tlt (by decide : ((2 : Int32) - (2 : Int32)) < ((0 : Int32) + (1 : Int32)))).2.2.1 (by decide) (by decide) ?_
    refine own_iinc X0 hx (Ls' := #[.val (.ref a1), .val (.int (2 : Int32)), .val (.ref a3), .val (.int (2 : Int32)), .val (.int (0 : Int32)), .val (.int (58 : Int32)), .val (.int ((2 : Int32) - (2 : Int32))), .val (.int (((0 : Int32) + (1 : Int32)) + (1 : Int32))), .unset, .unset, .unset]) (hb hby d19_113) rfl rfl ?_
    refine own_goto X0 hx (pc' := 14) (hb hby d19_116) (by decide) (by decide) ?_
    refine own_iload X0 hx (hb hby d19_14) rfl ?_
    refine own_iload X0 hx (hb hby d19_16) rfl ?_
    refine own_icmpYes X0 hx (pc' := 119) (hb hby d19_18) (tlt (by decide : ((2 : Int32) - (2 : Int32)) < (((0 : Int32) + (1 : Int32)) + (1 : Int32)))).2.2.1 (by decide) (by decide) ?_
    refine own_iconst X0 hx (v := (-1 : Int32)) (hb hby d19_119) rfl ?_
    show Goes _ _ _ _ _ _ (T0.setTop (mkF m 120 #[.val (.ref a1), .val (.int (2 : Int32)), .val (.ref a3), .val (.int (2 : Int32)), .val (.int (0 : Int32)), .val (.int (58 : Int32)), .val (.int ((2 : Int32) - (2 : Int32))), .val (.int (((0 : Int32) + (1 : Int32)) + (1 : Int32))), .unset, .unset, .unset] [(.int (-1 : Int32))]))
    exact own_retI X0 hx N0 hlk (by decide) (by decide) hret (hb hby d19_120) (by rw [e0]; exact ⟨rfl, rfl⟩)
def Q182c (Z : State) (a1 : Addr) (a2 : Addr) (k : ClassId) (k2 : ClassId) (x0 : Int32) (x1 : Int32) (h0 : Heap) (n0 : Nat) (v : Option Value) (h : Heap) : Prop :=
  (v = some (.int (-1 : Int32)) ∧ h = h0)
theorem ef_182c (m : MethodId) (a1 : Addr) (a2 : Addr) : entryFrame m #[(.ref a1), (.ref a2)] 2 = mkF m 0 #[.val (.ref a1), .val (.ref a2)] [] := by first | (simp [entryFrame, mkF, argsToLocals, Value.category]; done) | rfl
set_option maxRecDepth 65536 in
set_option maxHeartbeats 40000000 in
theorem rm182c (l : Launch) (Z : State) (a0 : Array Value) (hw : ∀ d ∈ tables_1, d.before a0 Z = true) (ws : List Jvm.Cond) (a1 : Addr) (a2 : Addr) (k : ClassId) (k2 : ClassId) (x0 : Int32) (x1 : Int32) (h0 : Heap) (n0 : Nat) (O0 : Old Z n0 h0) (f0 : Arv Z h0 a1 k .byte (2 : Int32) [(.int x0), (.int x1)] (.int (0 : Int32))) (f1 : Arv Z h0 a2 k2 .byte (2 : Int32) [(.int (58 : Int32)), (.int (58 : Int32))] (.int (0 : Int32))) (hpc0 : ¬ (x0 = (58 : Int32) ∧ x1 = (58 : Int32))) :
    Meets l (⟨"java/lang/StringLatin1", "indexOf", "([B[B)I"⟩ : MethodName) jdk_43_method_24_code 2 (some .int) ws ({ frames := 1, cells := 0, slots := 0, locals := 22 } : Room) ({ frames := 1, cells := 0, slots := 0, locals := 22 } : Room).cells ({ frames := 1, cells := 0, slots := 0, locals := 22 } : Room).slots Z #[(.ref a1), (.ref a2)] h0 n0 (Q182c Z a1 a2 k k2 x0 x1 h0 n0) := by
  refine Meets.of (F := fun m => mkF m 0 #[.val (.ref a1), .val (.ref a2)] []) (plainFor_of_name pn_2) (fun m => ef_182c m a1 a2) ?_
  intro p e s m below meth c T0 hx hby hml hown0 hnm hret hlk hZ X0 e0
  have hown : s.vm.findClass "java/lang/StringLatin1" = some m.cls := hown0
  have N0 := Fr.nil n0
  show Goes _ _ _ _ _ _ (T0.setTop (mkF m 0 #[.val (.ref a1), .val (.ref a2)] []))
  refine own_aloadN X0 hx (hb hby d18_0) rfl rfl ?_
  refine own_alen X0 hx hZ e0 f1 (hb hby d18_1) ?_
  refine own_ifYes X0 hx (pc' := 7) (hb hby d18_2) ((if0 _ _).trans (feq (by decide : ¬ ((2 : Int32) = (0 : Int32)))).2) (by decide) (by decide) ?_
  refine own_aloadN X0 hx (hb hby d18_7) rfl rfl ?_
  refine own_alen X0 hx hZ e0 f0 (hb hby d18_8) ?_
  refine own_ifYes X0 hx (pc' := 14) (hb hby d18_9) ((if0 _ _).trans (feq (by decide : ¬ ((2 : Int32) = (0 : Int32)))).2) (by decide) (by decide) ?_
  refine own_aloadN X0 hx (hb hby d18_14) rfl rfl ?_
  refine own_aloadN X0 hx (hb hby d18_15) rfl rfl ?_
  refine own_alen X0 hx hZ e0 f0 (hb hby d18_16) ?_
  refine own_aloadN X0 hx (hb hby d18_17) rfl rfl ?_
  refine own_aloadN X0 hx (hb hby d18_18) rfl rfl ?_
  show Goes _ _ _ _ _ _ (T0.setTop (mkF m 19 #[.val (.ref a1), .val (.ref a2)] [(.ref a2), (.ref a2), (.int (2 : Int32)), (.ref a1)]))
  refine own_alen X0 hx hZ e0 f1 (hb hby d18_19) ?_
  refine own_iconst X0 hx (v := (0 : Int32)) (hb hby d18_20) rfl ?_
  refine own_callS X0 hx hZ hown (y := (⟨"java/lang/StringLatin1", "indexOf", "([BI[BII)I"⟩ : MethodName)) (hw _ (List.mem_of_getElem? (i := 92) rfl)) (hw _ (List.mem_of_getElem? (i := 93) rfl)) (hw _ (List.mem_of_getElem? (i := 90) rfl)) (hw _ (List.mem_of_getElem? (i := 94) rfl)) (by decide) (W := 0) (by decide) (by decide) N0 e0 (by rw [hml]; rfl) (argsL := [(.ref a1), (.int (2 : Int32)), (.ref a2), (.int (2 : Int32)), (.int (0 : Int32))]) (rest := []) (lenOf pd_1 rfl) (Nat.le_of_eq rfl) (by decide) (by decide) (rm192c l Z a0 hw [] a1 a2 k k2 x0 x1 h0 n0 O0 f0 f1 hpc0) rfl (hb hby d18_21) ?_
  intro v1 T1 lc1 X1 N1 hQ1
  obtain ⟨rfl, e1⟩ := hQ1
  show Goes _ _ _ _ _ _ (T1.setTop (mkF m 24 #[.val (.ref a1), .val (.ref a2)] [(.int (-1 : Int32))]))
  exact own_retI X1 hx N1 hlk (by decide) (by decide) hret (hb hby d18_24) (by rw [e1]; exact ⟨rfl, rfl⟩)
def Q152c (Z : State) (a1 : Addr) (a2 : Addr) (t : Addr) (k : ClassId) (x0 : Int32) (x1 : Int32) (t2 : Addr) (k2 : ClassId) (zc : Int32) (h0 : Heap) (n0 : Nat) (v : Option Value) (h : Heap) : Prop :=
  (v = some (.int (-1 : Int32)) ∧ h = h0)
theorem ef_152c (m : MethodId) (a1 : Addr) (a2 : Addr) : entryFrame m #[(.ref a1), (.ref a2)] 3 = mkF m 0 #[.val (.ref a1), .val (.ref a2), .unset] [] := by first | (simp [entryFrame, mkF, argsToLocals, Value.category]; done) | rfl
set_option maxRecDepth 65536 in
set_option maxHeartbeats 40000000 in
theorem rm152c (l : Launch) (Z : State) (a0 : Array Value) (hw : ∀ d ∈ tables_1, d.before a0 Z = true) (ws : List Jvm.Cond) (a1 : Addr) (a2 : Addr) (t : Addr) (k : ClassId) (x0 : Int32) (x1 : Int32) (t2 : Addr) (k2 : ClassId) (zc : Int32) (h0 : Heap) (n0 : Nat) (O0 : Old Z n0 h0) (SF : Start Z zc) (f0 : Exa Z h0 a1 "java/lang/String") (f1 : Fld Z h0 a1 "java/lang/String" "value" "[B" (.ref t)) (f2 : Fld Z h0 a1 "java/lang/String" "coder" "B" (.int (0 : Int32))) (f3 : Arv Z h0 t k .byte (2 : Int32) [(.int x0), (.int x1)] (.int (0 : Int32))) (f4 : Exa Z h0 a2 "java/lang/String") (f5 : Fld Z h0 a2 "java/lang/String" "value" "[B" (.ref t2)) (f6 : Fld Z h0 a2 "java/lang/String" "coder" "B" (.int (0 : Int32))) (f7 : Arv Z h0 t2 k2 .byte (2 : Int32) [(.int (58 : Int32)), (.int (58 : Int32))] (.int (0 : Int32))) (hpc0 : ¬ (x0 = (58 : Int32) ∧ x1 = (58 : Int32))) :
    Meets l (⟨"java/lang/String", "indexOf", "(Ljava/lang/String;)I"⟩ : MethodName) jdk_42_method_84_code 3 (some .int) ws ({ frames := 2, cells := 0, slots := 0, locals := 35 } : Room) ({ frames := 2, cells := 0, slots := 0, locals := 35 } : Room).cells ({ frames := 2, cells := 0, slots := 0, locals := 35 } : Room).slots Z #[(.ref a1), (.ref a2)] h0 n0 (Q152c Z a1 a2 t k x0 x1 t2 k2 zc h0 n0) := by
  refine Meets.of (F := fun m => mkF m 0 #[.val (.ref a1), .val (.ref a2), .unset] []) (plainFor_of_name pn_0) (fun m => ef_152c m a1 a2) ?_
  intro p e s m below meth c T0 hx hby hml hown0 hnm hret hlk hZ X0 e0
  have hown : s.vm.findClass "java/lang/String" = some m.cls := hown0
  have N0 := Fr.nil n0
  obtain ⟨z0, hzc, -⟩ := SF
  show Goes _ _ _ _ _ _ (T0.setTop (mkF m 0 #[.val (.ref a1), .val (.ref a2), .unset] []))
  refine own_aloadN X0 hx (hb hby d15_0) rfl rfl ?_
  refine own_virtual X0 hx hZ hown (y := (⟨"java/lang/String", "coder", "()B"⟩ : MethodName)) (z := (⟨"java/lang/String", "coder", "()B"⟩ : MethodName)) (hw _ (List.mem_of_getElem? (i := 78) rfl)) (hw _ (List.mem_of_getElem? (i := 79) rfl)) (notFace_of_selects (args := #[]) (mvT hZ (hw _ (List.mem_of_getElem? (i := 81) rfl)))) (hw _ (List.mem_of_getElem? (i := 81) rfl)) (hw _ (List.mem_of_getElem? (i := 80) rfl)) (hw _ (List.mem_of_getElem? (i := 8) rfl)) (hw _ (List.mem_of_getElem? (i := 82) rfl)) (a := a1) f0 (by decide) (W := 0) (by decide) (by decide) N0 e0 (by rw [hml]; rfl) (argsL := []) (rest := []) (lenOf pd_0 rfl) (Nat.le_of_eq rfl) (by decide) (by decide) (rm16 l Z a0 hw [] a1 zc h0 n0 O0 ⟨z0, hzc, trivial⟩ f2) rfl (hb hby d15_1) ?_
  intro v1 T1 lc1 X1 N1 hQ1
  obtain ⟨rfl, e1⟩ := hQ1
  refine own_istoreN X1 hx (Ls' := #[.val (.ref a1), .val (.ref a2), .val (.int (0 : Int32))]) (hb hby d15_4) rfl ?_
  refine own_iloadN X1 hx (hb hby d15_5) rfl ?_
  refine own_aloadN X1 hx (hb hby d15_6) rfl rfl ?_
  refine own_virtual X1 hx hZ hown (y := (⟨"java/lang/String", "coder", "()B"⟩ : MethodName)) (z := (⟨"java/lang/String", "coder", "()B"⟩ : MethodName)) (hw _ (List.mem_of_getElem? (i := 78) rfl)) (hw _ (List.mem_of_getElem? (i := 79) rfl)) (notFace_of_selects (args := #[]) (mvT hZ (hw _ (List.mem_of_getElem? (i := 81) rfl)))) (hw _ (List.mem_of_getElem? (i := 81) rfl)) (hw _ (List.mem_of_getElem? (i := 80) rfl)) (hw _ (List.mem_of_getElem? (i := 8) rfl)) (hw _ (List.mem_of_getElem? (i := 82) rfl)) (a := a2) f4 (by decide) (W := 1) (by decide) (by decide) N1 e1 (by rw [hml]; rfl) (argsL := []) (rest := [(.int (0 : Int32))]) (lenOf pd_0 rfl) (Nat.le_of_eq rfl) (by decide) (by decide) (rm16 l Z a0 hw [] a2 zc h0 n0 O0 ⟨z0, hzc, trivial⟩ f6) rfl (hb hby d15_7) ?_
  intro v2 T2 lc2 X2 N2 hQ2
  obtain ⟨rfl, e2⟩ := hQ2
  refine own_icmpNo X2 hx (hb hby d15_10) (teq (by decide : (0 : Int32) = (0 : Int32))).2 ?_
  refine own_aloadN X2 hx (hb hby d15_13) rfl rfl ?_
  refine own_virtual X2 hx hZ hown (y := (⟨"java/lang/String", "isLatin1", "()Z"⟩ : MethodName)) (z := (⟨"java/lang/String", "isLatin1", "()Z"⟩ : MethodName)) (hw _ (List.mem_of_getElem? (i := 83) rfl)) (hw _ (List.mem_of_getElem? (i := 84) rfl)) (notFace_of_selects (args := #[]) (mvT hZ (hw _ (List.mem_of_getElem? (i := 86) rfl)))) (hw _ (List.mem_of_getElem? (i := 86) rfl)) (hw _ (List.mem_of_getElem? (i := 85) rfl)) (hw _ (List.mem_of_getElem? (i := 8) rfl)) (hw _ (List.mem_of_getElem? (i := 87) rfl)) (a := a1) f0 (by decide) (W := 0) (by decide) (by decide) N2 e2 (by rw [hml]; rfl) (argsL := []) (rest := []) (lenOf pd_2 rfl) (Nat.le_of_eq rfl) (by decide) (by decide) (rm17 l Z a0 hw [] a1 zc h0 n0 O0 ⟨z0, hzc, trivial⟩ f2) rfl (hb hby d15_14) ?_
  intro v3 T3 lc3 X3 N3 hQ3
  obtain ⟨rfl, e3⟩ := hQ3
  refine own_ifNo X3 hx (hb hby d15_17) ((if0 _ _).trans (feq (by decide : ¬ ((1 : Int32) = (0 : Int32)))).1) ?_
  refine own_aloadN X3 hx (hb hby d15_20) rfl rfl ?_
  refine own_getF X3 hx hZ hown (host := "") (Or.inl (hw _ (List.mem_of_getElem? (i := 25) rfl))) Via.refl e3 f1 (hb hby d15_21) (fun T4 X4 e4 => ?_)
  refine own_aloadN X4 hx (hb hby d15_24) rfl rfl ?_
  refine own_getF X4 hx hZ hown (host := "") (Or.inl (hw _ (List.mem_of_getElem? (i := 25) rfl))) Via.refl e4 f5 (hb hby d15_25) (fun T5 X5 e5 => ?_)
  refine own_callS X5 hx hZ hown (y := (⟨"java/lang/StringLatin1", "indexOf", "([B[B)I"⟩ : MethodName)) (hw _ (List.mem_of_getElem? (i := 88) rfl)) (hw _ (List.mem_of_getElem? (i := 89) rfl)) (hw _ (List.mem_of_getElem? (i := 90) rfl)) (hw _ (List.mem_of_getElem? (i := 91) rfl)) (by decide) (W := 0) (by decide) (by decide) N3 e5 (by rw [hml]; rfl) (argsL := [(.ref t), (.ref t2)]) (rest := []) (lenOf pd_3 rfl) (Nat.le_of_eq rfl) (by decide) (by decide) (rm182c l Z a0 hw [] t t2 k k2 x0 x1 h0 n0 O0 f3 f7 hpc0) rfl (hb hby d15_28) ?_
  intro v6 T6 lc6 X6 N6 hQ6
  obtain ⟨rfl, e6⟩ := hQ6
  refine own_goto X6 hx (pc' := 45) (hb hby d15_31) (by decide) (by decide) ?_
  show Goes _ _ _ _ _ _ (T6.setTop (mkF m 45 #[.val (.ref a1), .val (.ref a2), .val (.int (0 : Int32))] [(.int (-1 : Int32))]))
  exact own_retI X6 hx N6 hlk (by decide) (by decide) hret (hb hby d15_45) (by rw [e6]; exact ⟨rfl, rfl⟩)
def Q132c (Z : State) (a1 : Addr) (a2 : Addr) (t : Addr) (k : ClassId) (x0 : Int32) (x1 : Int32) (t2 : Addr) (k2 : ClassId) (zc : Int32) (h0 : Heap) (n0 : Nat) (v : Option Value) (h : Heap) : Prop :=
  (v = some (.int (0 : Int32)) ∧ h = h0)
theorem ef_132c (m : MethodId) (a1 : Addr) (a2 : Addr) : entryFrame m #[(.ref a1), (.ref a2)] 2 = mkF m 0 #[.val (.ref a1), .val (.ref a2)] [] := by first | (simp [entryFrame, mkF, argsToLocals, Value.category]; done) | rfl
set_option maxRecDepth 65536 in
set_option maxHeartbeats 40000000 in
theorem rm132c (l : Launch) (Z : State) (a0 : Array Value) (hw : ∀ d ∈ tables_1, d.before a0 Z = true) (ws : List Jvm.Cond) (a1 : Addr) (a2 : Addr) (t : Addr) (k : ClassId) (x0 : Int32) (x1 : Int32) (t2 : Addr) (k2 : ClassId) (zc : Int32) (h0 : Heap) (n0 : Nat) (O0 : Old Z n0 h0) (SF : Start Z zc) (f0 : Exa Z h0 a1 "java/lang/String") (f1 : Fld Z h0 a1 "java/lang/String" "value" "[B" (.ref t)) (f2 : Fld Z h0 a1 "java/lang/String" "coder" "B" (.int (0 : Int32))) (f3 : Arv Z h0 t k .byte (2 : Int32) [(.int x0), (.int x1)] (.int (0 : Int32))) (f4 : Exa Z h0 a2 "java/lang/String") (f5 : Fld Z h0 a2 "java/lang/String" "value" "[B" (.ref t2)) (f6 : Fld Z h0 a2 "java/lang/String" "coder" "B" (.int (0 : Int32))) (f7 : Arv Z h0 t2 k2 .byte (2 : Int32) [(.int (58 : Int32)), (.int (58 : Int32))] (.int (0 : Int32))) (hpc0 : ¬ (x0 = (58 : Int32) ∧ x1 = (58 : Int32))) :
    Meets l (⟨"java/lang/String", "contains", "(Ljava/lang/CharSequence;)Z"⟩ : MethodName) jdk_42_method_97_code 2 (some .boolean) ws ({ frames := 3, cells := 0, slots := 0, locals := 49 } : Room) ({ frames := 3, cells := 0, slots := 0, locals := 49 } : Room).cells ({ frames := 3, cells := 0, slots := 0, locals := 49 } : Room).slots Z #[(.ref a1), (.ref a2)] h0 n0 (Q132c Z a1 a2 t k x0 x1 t2 k2 zc h0 n0) := by
  refine Meets.of (F := fun m => mkF m 0 #[.val (.ref a1), .val (.ref a2)] []) (plainFor_of_name pn_0) (fun m => ef_132c m a1 a2) ?_
  intro p e s m below meth c T0 hx hby hml hown0 hnm hret hlk hZ X0 e0
  have hown : s.vm.findClass "java/lang/String" = some m.cls := hown0
  have N0 := Fr.nil n0
  obtain ⟨z0, hzc, -⟩ := SF
  show Goes _ _ _ _ _ _ (T0.setTop (mkF m 0 #[.val (.ref a1), .val (.ref a2)] []))
  refine own_aloadN X0 hx (hb hby d13_0) rfl rfl ?_
  refine own_aloadN X0 hx (hb hby d13_1) rfl rfl ?_
  refine own_iface X0 hx hZ hown (y := (⟨"java/lang/CharSequence", "toString", "()Ljava/lang/String;"⟩ : MethodName)) (z := (⟨"java/lang/String", "toString", "()Ljava/lang/String;"⟩ : MethodName)) (hw _ (List.mem_of_getElem? (i := 64) rfl)) (hw _ (List.mem_of_getElem? (i := 65) rfl)) (hw _ (List.mem_of_getElem? (i := 66) rfl)) (hw _ (List.mem_of_getElem? (i := 67) rfl)) (hw _ (List.mem_of_getElem? (i := 68) rfl)) (hw _ (List.mem_of_getElem? (i := 69) rfl)) (hw _ (List.mem_of_getElem? (i := 70) rfl)) (hw _ (List.mem_of_getElem? (i := 71) rfl)) (hw _ (List.mem_of_getElem? (i := 8) rfl)) (hw _ (List.mem_of_getElem? (i := 72) rfl)) (a := a2) f4 (by decide) (W := 1) (by decide) (by decide) N0 e0 (by rw [hml]; rfl) (argsL := []) (rest := [(.ref a1)]) (lenOf pd_4 rfl) (Nat.le_of_eq rfl) (by decide) (by decide) (rm14 l Z a0 hw [] a2 h0 n0 O0) rfl (hb hby d13_2) ?_
  intro v1 T1 lc1 X1 N1 hQ1
  obtain ⟨rfl, e1⟩ := hQ1
  refine own_virtual X1 hx hZ hown (y := (⟨"java/lang/String", "indexOf", "(Ljava/lang/String;)I"⟩ : MethodName)) (z := (⟨"java/lang/String", "indexOf", "(Ljava/lang/String;)I"⟩ : MethodName)) (hw _ (List.mem_of_getElem? (i := 73) rfl)) (hw _ (List.mem_of_getElem? (i := 74) rfl)) (notFace_of_selects (args := #[]) (mvT hZ (hw _ (List.mem_of_getElem? (i := 76) rfl)))) (hw _ (List.mem_of_getElem? (i := 76) rfl)) (hw _ (List.mem_of_getElem? (i := 75) rfl)) (hw _ (List.mem_of_getElem? (i := 8) rfl)) (hw _ (List.mem_of_getElem? (i := 77) rfl)) (a := a1) f0 (by decide) (W := 0) (by decide) (by decide) N1 e1 (by rw [hml]; rfl) (argsL := [(.ref a2)]) (rest := []) (lenOf pd_5 rfl) (Nat.le_of_eq rfl) (by decide) (by decide) (rm152c l Z a0 hw [] a1 a2 t k x0 x1 t2 k2 zc h0 n0 O0 ⟨z0, hzc, trivial⟩ f0 f1 f2 f3 f4 f5 f6 f7 hpc0) rfl (hb hby d13_7) ?_
  intro v2 T2 lc2 X2 N2 hQ2
  obtain ⟨rfl, e2⟩ := hQ2
  refine own_ifYes X2 hx (pc' := 17) (hb hby d13_10) ((if0 _ _).trans (tlt (by decide : (-1 : Int32) < (0 : Int32))).1) (by decide) (by decide) ?_
  refine own_iconst X2 hx (v := (0 : Int32)) (hb hby d13_17) rfl ?_
  show Goes _ _ _ _ _ _ (T2.setTop (mkF m 18 #[.val (.ref a1), .val (.ref a2)] [(.int (0 : Int32))]))
  exact own_retN X2 hx (t := .boolean) N2 hlk (by decide) (by decide) hret (by simp) (hb hby d13_18) (by rw [e2]; exact ⟨rfl, rfl⟩)
def Q232 (Z : State) (a1 : Addr) (a3 : Addr) (k : ClassId) (k2 : ClassId) (x0 : Int32) (x1 : Int32) (h0 : Heap) (n0 : Nat) (v : Option Value) (h : Heap) : Prop :=
  (v = some (.int (0 : Int32)) ∧ h = h0)
theorem ef_232 (m : MethodId) (a1 : Addr) (a3 : Addr) : entryFrame m #[(.ref a1), (.int ((2 : Int32) - (1 : Int32))), (.ref a3), (.int (0 : Int32)), (.int (1 : Int32))] 8 = mkF m 0 #[.val (.ref a1), .val (.int ((2 : Int32) - (1 : Int32))), .val (.ref a3), .val (.int (0 : Int32)), .val (.int (1 : Int32)), .unset, .unset, .unset] [] := by first | (simp [entryFrame, mkF, argsToLocals, Value.category]; done) | rfl
set_option maxRecDepth 65536 in
set_option maxHeartbeats 40000000 in
theorem rm232 (l : Launch) (Z : State) (a0 : Array Value) (hw : ∀ d ∈ tables_1, d.before a0 Z = true) (ws : List Jvm.Cond) (a1 : Addr) (a3 : Addr) (k : ClassId) (k2 : ClassId) (x0 : Int32) (x1 : Int32) (h0 : Heap) (n0 : Nat) (O0 : Old Z n0 h0) (f0 : Arv Z h0 a1 k .byte (2 : Int32) [(.int x0), (.int x1)] (.int (0 : Int32))) (f1 : Arv Z h0 a3 k2 .byte (1 : Int32) [(.int (58 : Int32))] (.int (0 : Int32))) (hpe : ¬ (x1 = (58 : Int32))) :
    Meets l (⟨"jdk/internal/util/ArraysSupport", "mismatch", "([BI[BII)I"⟩ : MethodName) jdk_48_method_14_code 8 (some .int) ws ({ frames := 0, cells := 0, slots := 0, locals := 0 } : Room) ({ frames := 0, cells := 0, slots := 0, locals := 0 } : Room).cells ({ frames := 0, cells := 0, slots := 0, locals := 0 } : Room).slots Z #[(.ref a1), (.int ((2 : Int32) - (1 : Int32))), (.ref a3), (.int (0 : Int32)), (.int (1 : Int32))] h0 n0 (Q232 Z a1 a3 k k2 x0 x1 h0 n0) := by
  refine Meets.of (F := fun m => mkF m 0 #[.val (.ref a1), .val (.int ((2 : Int32) - (1 : Int32))), .val (.ref a3), .val (.int (0 : Int32)), .val (.int (1 : Int32)), .unset, .unset, .unset] []) (plainFor_of_name pn_3) (fun m => ef_232 m a1 a3) ?_
  intro p e s m below meth c T0 hx hby hml hown0 hnm hret hlk hZ X0 e0
  have hown : s.vm.findClass "jdk/internal/util/ArraysSupport" = some m.cls := hown0
  have N0 := Fr.nil n0
  show Goes _ _ _ _ _ _ (T0.setTop (mkF m 0 #[.val (.ref a1), .val (.int ((2 : Int32) - (1 : Int32))), .val (.ref a3), .val (.int (0 : Int32)), .val (.int (1 : Int32)), .unset, .unset, .unset] []))
  refine own_iconst X0 hx (v := (0 : Int32)) (hb hby d23_0) rfl ?_
  refine own_istore X0 hx (Ls' := #[.val (.ref a1), .val (.int ((2 : Int32) - (1 : Int32))), .val (.ref a3), .val (.int (0 : Int32)), .val (.int (1 : Int32)), .val (.int (0 : Int32)), .unset, .unset]) (hb hby d23_1) rfl ?_
  refine own_iload X0 hx (hb hby d23_3) rfl ?_
  refine own_bipush X0 hx (v := (7 : Int32)) (hb hby d23_5) rfl ?_
  refine own_icmpYes X0 hx (pc' := 70) (hb hby d23_7) (flt (by decide : ¬ ((7 : Int32) < (1 : Int32)))).2.2.2 (by decide) (by decide) ?_
  refine own_iload X0 hx (hb hby d23_70) rfl ?_
  refine own_iload X0 hx (hb hby d23_72) rfl ?_
  refine own_icmpNo X0 hx (hb hby d23_74) (tlt (by decide : (0 : Int32) < (1 : Int32))).2.1 ?_
  refine own_aloadN X0 hx (hb hby d23_77) rfl rfl ?_
  refine own_iloadN X0 hx (hb hby d23_78) rfl ?_
  refine own_iload X0 hx (hb hby d23_79) rfl ?_
  refine own_iadd X0 hx (hb hby d23_81) ?_
  refine own_baload X0 hx hZ e0 f0 ⟨by decide, by decide⟩ (v := (.int x1)) rfl (hb hby d23_82) ?_
  show Goes _ _ _ _ _ _ (T0.setTop (mkF m 83 #[.val (.ref a1), .val (.int ((2 : Int32) - (1 : Int32))), .val (.ref a3), .val (.int (0 : Int32)), .val (.int (1 : Int32)), .val (.int (0 : Int32)), .unset, .unset] [(.int x1)]))
  refine own_aloadN X0 hx (hb hby d23_83) rfl rfl ?_
  refine own_iloadN X0 hx (hb hby d23_84) rfl ?_
  refine own_iload X0 hx (hb hby d23_85) rfl ?_
  refine own_iadd X0 hx (hb hby d23_87) ?_
  refine own_baload X0 hx hZ e0 f1 ⟨by decide, by decide⟩ (v := (.int (58 : Int32))) rfl (hb hby d23_88) ?_
  refine own_icmpNo X0 hx (hb hby d23_89) (feq (hpe : ¬ (x1 = (58 : Int32)))).1 ?_
  refine own_iload X0 hx (hb hby d23_92) rfl ?_
  show Goes _ _ _ _ _ _ (T0.setTop (mkF m 94 #[.val (.ref a1), .val (.int ((2 : Int32) - (1 : Int32))), .val (.ref a3), .val (.int (0 : Int32)), .val (.int (1 : Int32)), .val (.int (0 : Int32)), .unset, .unset] [(.int (0 : Int32))]))
  exact own_retI X0 hx N0 hlk (by decide) (by decide) hret (hb hby d23_94) (by rw [e0]; exact ⟨rfl, rfl⟩)
def Q222 (Z : State) (a1 : Addr) (a2 : Addr) (t : Addr) (k : ClassId) (x0 : Int32) (x1 : Int32) (t2 : Addr) (k2 : ClassId) (zc : Int32) (h0 : Heap) (n0 : Nat) (v : Option Value) (h : Heap) : Prop :=
  (v = some (.int (0 : Int32)) ∧ h = h0)
theorem ef_222 (m : MethodId) (a1 : Addr) (a2 : Addr) : entryFrame m #[(.ref a1), (.ref a2), (.int ((2 : Int32) - (1 : Int32)))] 8 = mkF m 0 #[.val (.ref a1), .val (.ref a2), .val (.int ((2 : Int32) - (1 : Int32))), .unset, .unset, .unset, .unset, .unset] [] := by first | (simp [entryFrame, mkF, argsToLocals, Value.category]; done) | rfl
set_option maxRecDepth 65536 in
set_option maxHeartbeats 40000000 in
theorem rm222 (l : Launch) (Z : State) (a0 : Array Value) (hw : ∀ d ∈ tables_1, d.before a0 Z = true) (ws : List Jvm.Cond) (a1 : Addr) (a2 : Addr) (t : Addr) (k : ClassId) (x0 : Int32) (x1 : Int32) (t2 : Addr) (k2 : ClassId) (zc : Int32) (h0 : Heap) (n0 : Nat) (O0 : Old Z n0 h0) (SF : Start Z zc) (f0 : Exa Z h0 a1 "java/lang/String") (f1 : Fld Z h0 a1 "java/lang/String" "value" "[B" (.ref t)) (f2 : Fld Z h0 a1 "java/lang/String" "coder" "B" (.int (0 : Int32))) (f3 : Arv Z h0 t k .byte (2 : Int32) [(.int x0), (.int x1)] (.int (0 : Int32))) (f4 : Exa Z h0 a2 "java/lang/String") (f5 : Fld Z h0 a2 "java/lang/String" "value" "[B" (.ref t2)) (f6 : Fld Z h0 a2 "java/lang/String" "coder" "B" (.int (0 : Int32))) (f7 : Arv Z h0 t2 k2 .byte (1 : Int32) [(.int (58 : Int32))] (.int (0 : Int32))) (hpe : ¬ (x1 = (58 : Int32))) :
    Meets l (⟨"java/lang/String", "startsWith", "(Ljava/lang/String;I)Z"⟩ : MethodName) jdk_42_method_75_code 8 (some .boolean) ws ({ frames := 2, cells := 0, slots := 0, locals := 27 } : Room) ({ frames := 2, cells := 0, slots := 0, locals := 27 } : Room).cells ({ frames := 2, cells := 0, slots := 0, locals := 27 } : Room).slots Z #[(.ref a1), (.ref a2), (.int ((2 : Int32) - (1 : Int32)))] h0 n0 (Q222 Z a1 a2 t k x0 x1 t2 k2 zc h0 n0) := by
  refine Meets.of (F := fun m => mkF m 0 #[.val (.ref a1), .val (.ref a2), .val (.int ((2 : Int32) - (1 : Int32))), .unset, .unset, .unset, .unset, .unset] []) (plainFor_of_name pn_0) (fun m => ef_222 m a1 a2) ?_
  intro p e s m below meth c T0 hx hby hml hown0 hnm hret hlk hZ X0 e0
  have hown : s.vm.findClass "java/lang/String" = some m.cls := hown0
  have N0 := Fr.nil n0
  obtain ⟨z0, hzc, -⟩ := SF
  show Goes _ _ _ _ _ _ (T0.setTop (mkF m 0 #[.val (.ref a1), .val (.ref a2), .val (.int ((2 : Int32) - (1 : Int32))), .unset, .unset, .unset, .unset, .unset] []))
  refine own_iloadN X0 hx (hb hby d22_0) rfl ?_
  refine own_ifNo X0 hx (hb hby d22_1) ((if0 _ _).trans (flt (by decide : ¬ (((2 : Int32) - (1 : Int32)) < (0 : Int32)))).1) ?_
  refine own_iloadN X0 hx (hb hby d22_4) rfl ?_
  refine own_aloadN X0 hx (hb hby d22_5) rfl rfl ?_
  refine own_virtual X0 hx hZ hown (y := (⟨"java/lang/String", "length", "()I"⟩ : MethodName)) (z := (⟨"java/lang/String", "length", "()I"⟩ : MethodName)) (hw _ (List.mem_of_getElem? (i := 102) rfl)) (hw _ (List.mem_of_getElem? (i := 103) rfl)) (notFace_of_selects (args := #[]) (mvT hZ (hw _ (List.mem_of_getElem? (i := 105) rfl)))) (hw _ (List.mem_of_getElem? (i := 105) rfl)) (hw _ (List.mem_of_getElem? (i := 104) rfl)) (hw _ (List.mem_of_getElem? (i := 8) rfl)) (hw _ (List.mem_of_getElem? (i := 106) rfl)) (a := a1) f0 (by decide) (W := 1) (by decide) (by decide) N0 e0 (by rw [hml]; rfl) (argsL := []) (rest := [(.int ((2 : Int32) - (1 : Int32)))]) (lenOf pd_6 rfl) (Nat.le_of_eq rfl) (by decide) (by decide) (rm212 l Z a0 hw [] a1 t k x0 x1 zc h0 n0 O0 ⟨z0, hzc, trivial⟩ f0 f1 f2 f3) rfl (hb hby d22_6) ?_
  intro v1 T1 lc1 X1 N1 hQ1
  obtain ⟨rfl, e1⟩ := hQ1
  refine own_aloadN X1 hx (hb hby d22_9) rfl rfl ?_
  refine own_virtual X1 hx hZ hown (y := (⟨"java/lang/String", "length", "()I"⟩ : MethodName)) (z := (⟨"java/lang/String", "length", "()I"⟩ : MethodName)) (hw _ (List.mem_of_getElem? (i := 102) rfl)) (hw _ (List.mem_of_getElem? (i := 103) rfl)) (notFace_of_selects (args := #[]) (mvT hZ (hw _ (List.mem_of_getElem? (i := 105) rfl)))) (hw _ (List.mem_of_getElem? (i := 105) rfl)) (hw _ (List.mem_of_getElem? (i := 104) rfl)) (hw _ (List.mem_of_getElem? (i := 8) rfl)) (hw _ (List.mem_of_getElem? (i := 106) rfl)) (a := a2) f4 (by decide) (W := 2) (by decide) (by decide) N1 e1 (by rw [hml]; rfl) (argsL := []) (rest := [(.int (2 : Int32)), (.int ((2 : Int32) - (1 : Int32)))]) (lenOf pd_6 rfl) (Nat.le_of_eq rfl) (by decide) (by decide) (rm211 l Z a0 hw [] a2 t2 k2 (58 : Int32) zc h0 n0 O0 ⟨z0, hzc, trivial⟩ f4 f5 f6 f7) rfl (hb hby d22_10) ?_
  intro v2 T2 lc2 X2 N2 hQ2
  obtain ⟨rfl, e2⟩ := hQ2
  refine own_isub X2 hx (hb hby d22_13) ?_
  refine own_icmpYes X2 hx (pc' := 19) (hb hby d22_14) (flt (by decide : ¬ (((2 : Int32) - (1 : Int32)) < ((2 : Int32) - (1 : Int32))))).2.2.2 (by decide) (by decide) ?_
  refine own_aloadN X2 hx (hb hby d22_19) rfl rfl ?_
  refine own_getF X2 hx hZ hown (host := "") (Or.inl (hw _ (List.mem_of_getElem? (i := 25) rfl))) Via.refl e2 f1 (hb hby d22_20) (fun T3 X3 e3 => ?_)
  refine own_astoreN X3 hx (Ls' := #[.val (.ref a1), .val (.ref a2), .val (.int ((2 : Int32) - (1 : Int32))), .val (.ref t), .unset, .unset, .unset, .unset]) (hb hby d22_23) rfl rfl ?_
  refine own_aloadN X3 hx (hb hby d22_24) rfl rfl ?_
  refine own_getF X3 hx hZ hown (host := "") (Or.inl (hw _ (List.mem_of_getElem? (i := 25) rfl))) Via.refl e3 f5 (hb hby d22_25) (fun T4 X4 e4 => ?_)
  refine own_astore X4 hx (Ls' := #[.val (.ref a1), .val (.ref a2), .val (.int ((2 : Int32) - (1 : Int32))), .val (.ref t), .val (.ref t2), .unset, .unset, .unset]) (hb hby d22_28) rfl rfl ?_
  refine own_iconst X4 hx (v := (0 : Int32)) (hb hby d22_30) rfl ?_
  refine own_istore X4 hx (Ls' := #[.val (.ref a1), .val (.ref a2), .val (.int ((2 : Int32) - (1 : Int32))), .val (.ref t), .val (.ref t2), .val (.int (0 : Int32)), .unset, .unset]) (hb hby d22_31) rfl ?_
  refine own_aload X4 hx (hb hby d22_33) rfl rfl ?_
  refine own_alen X4 hx hZ e4 f7 (hb hby d22_35) ?_
  show Goes _ _ _ _ _ _ (T4.setTop (mkF m 36 #[.val (.ref a1), .val (.ref a2), .val (.int ((2 : Int32) - (1 : Int32))), .val (.ref t), .val (.ref t2), .val (.int (0 : Int32)), .unset, .unset] [(.int (1 : Int32))]))
  refine own_istore X4 hx (Ls' := #[.val (.ref a1), .val (.ref a2), .val (.int ((2 : Int32) - (1 : Int32))), .val (.ref t), .val (.ref t2), .val (.int (0 : Int32)), .val (.int (1 : Int32)), .unset]) (hb hby d22_36) rfl ?_
  refine own_aloadN X4 hx (hb hby d22_38) rfl rfl ?_
  refine own_virtual X4 hx hZ hown (y := (⟨"java/lang/String", "coder", "()B"⟩ : MethodName)) (z := (⟨"java/lang/String", "coder", "()B"⟩ : MethodName)) (hw _ (List.mem_of_getElem? (i := 78) rfl)) (hw _ (List.mem_of_getElem? (i := 79) rfl)) (notFace_of_selects (args := #[]) (mvT hZ (hw _ (List.mem_of_getElem? (i := 81) rfl)))) (hw _ (List.mem_of_getElem? (i := 81) rfl)) (hw _ (List.mem_of_getElem? (i := 80) rfl)) (hw _ (List.mem_of_getElem? (i := 8) rfl)) (hw _ (List.mem_of_getElem? (i := 82) rfl)) (a := a1) f0 (by decide) (W := 0) (by decide) (by decide) N2 e4 (by rw [hml]; rfl) (argsL := []) (rest := []) (lenOf pd_0 rfl) (Nat.le_of_eq rfl) (by decide) (by decide) (rm16 l Z a0 hw [] a1 zc h0 n0 O0 ⟨z0, hzc, trivial⟩ f2) rfl (hb hby d22_39) ?_
  intro v5 T5 lc5 X5 N5 hQ5
  obtain ⟨rfl, e5⟩ := hQ5
  refine own_istore X5 hx (Ls' := #[.val (.ref a1), .val (.ref a2), .val (.int ((2 : Int32) - (1 : Int32))), .val (.ref t), .val (.ref t2), .val (.int (0 : Int32)), .val (.int (1 : Int32)), .val (.int (0 : Int32))]) (hb hby d22_42) rfl ?_
  refine own_iload X5 hx (hb hby d22_44) rfl ?_
  refine own_aloadN X5 hx (hb hby d22_46) rfl rfl ?_
  refine own_virtual X5 hx hZ hown (y := (⟨"java/lang/String", "coder", "()B"⟩ : MethodName)) (z := (⟨"java/lang/String", "coder", "()B"⟩ : MethodName)) (hw _ (List.mem_of_getElem? (i := 78) rfl)) (hw _ (List.mem_of_getElem? (i := 79) rfl)) (notFace_of_selects (args := #[]) (mvT hZ (hw _ (List.mem_of_getElem? (i := 81) rfl)))) (hw _ (List.mem_of_getElem? (i := 81) rfl)) (hw _ (List.mem_of_getElem? (i := 80) rfl)) (hw _ (List.mem_of_getElem? (i := 8) rfl)) (hw _ (List.mem_of_getElem? (i := 82) rfl)) (a := a2) f4 (by decide) (W := 1) (by decide) (by decide) N5 e5 (by rw [hml]; rfl) (argsL := []) (rest := [(.int (0 : Int32))]) (lenOf pd_0 rfl) (Nat.le_of_eq rfl) (by decide) (by decide) (rm16 l Z a0 hw [] a2 zc h0 n0 O0 ⟨z0, hzc, trivial⟩ f6) rfl (hb hby d22_47) ?_
  intro v6 T6 lc6 X6 N6 hQ6
  obtain ⟨rfl, e6⟩ := hQ6
  refine own_icmpNo X6 hx (hb hby d22_50) (teq (by decide : (0 : Int32) = (0 : Int32))).2 ?_
  refine own_iload X6 hx (hb hby d22_53) rfl ?_
  refine own_iconst X6 hx (v := (1 : Int32)) (hb hby d22_55) rfl ?_
  refine own_icmpYes X6 hx (pc' := 63) (hb hby d22_56) (feq (by decide : ¬ ((0 : Int32) = (1 : Int32)))).2 (by decide) (by decide) ?_
  refine own_aloadN X6 hx (hb hby d22_63) rfl rfl ?_
  refine own_iloadN X6 hx (hb hby d22_64) rfl ?_
  refine own_aload X6 hx (hb hby d22_65) rfl rfl ?_
  refine own_iconst X6 hx (v := (0 : Int32)) (hb hby d22_67) rfl ?_
  refine own_iload X6 hx (hb hby d22_68) rfl ?_
  show Goes _ _ _ _ _ _ (T6.setTop (mkF m 70 #[.val (.ref a1), .val (.ref a2), .val (.int ((2 : Int32) - (1 : Int32))), .val (.ref t), .val (.ref t2), .val (.int (0 : Int32)), .val (.int (1 : Int32)), .val (.int (0 : Int32))] [(.int (1 : Int32)), (.int (0 : Int32)), (.ref t2), (.int ((2 : Int32) - (1 : Int32))), (.ref t)]))
  refine own_callS X6 hx hZ hown (y := (⟨"jdk/internal/util/ArraysSupport", "mismatch", "([BI[BII)I"⟩ : MethodName)) (hw _ (List.mem_of_getElem? (i := 112) rfl)) (hw _ (List.mem_of_getElem? (i := 113) rfl)) (hw _ (List.mem_of_getElem? (i := 114) rfl)) (hw _ (List.mem_of_getElem? (i := 115) rfl)) (by decide) (W := 0) (by decide) (by decide) N6 e6 (by rw [hml]; rfl) (argsL := [(.ref t), (.int ((2 : Int32) - (1 : Int32))), (.ref t2), (.int (0 : Int32)), (.int (1 : Int32))]) (rest := []) (lenOf pd_1 rfl) (Nat.le_of_eq rfl) (by decide) (by decide) (rm232 l Z a0 hw [] t t2 k k2 x0 x1 h0 n0 O0 f3 f7 hpe) rfl (hb hby d22_70) ?_
  intro v7 T7 lc7 X7 N7 hQ7
  obtain ⟨rfl, e7⟩ := hQ7
  refine own_ifYes X7 hx (pc' := 80) (hb hby d22_73) ((if0 _ _).trans (flt (by decide : ¬ ((0 : Int32) < (0 : Int32)))).2.1) (by decide) (by decide) ?_
  refine own_iconst X7 hx (v := (0 : Int32)) (hb hby d22_80) rfl ?_
  show Goes _ _ _ _ _ _ (T7.setTop (mkF m 81 #[.val (.ref a1), .val (.ref a2), .val (.int ((2 : Int32) - (1 : Int32))), .val (.ref t), .val (.ref t2), .val (.int (0 : Int32)), .val (.int (1 : Int32)), .val (.int (0 : Int32))] [(.int (0 : Int32))]))
  exact own_retN X7 hx (t := .boolean) N7 hlk (by decide) (by decide) hret (by simp) (hb hby d22_81) (by rw [e7]; exact ⟨rfl, rfl⟩)
def Q202 (Z : State) (a1 : Addr) (a2 : Addr) (t : Addr) (k : ClassId) (x0 : Int32) (x1 : Int32) (t2 : Addr) (k2 : ClassId) (zc : Int32) (h0 : Heap) (n0 : Nat) (v : Option Value) (h : Heap) : Prop :=
  (v = some (.int (0 : Int32)) ∧ h = h0)
theorem ef_202 (m : MethodId) (a1 : Addr) (a2 : Addr) : entryFrame m #[(.ref a1), (.ref a2)] 2 = mkF m 0 #[.val (.ref a1), .val (.ref a2)] [] := by first | (simp [entryFrame, mkF, argsToLocals, Value.category]; done) | rfl
set_option maxRecDepth 65536 in
set_option maxHeartbeats 40000000 in
theorem rm202 (l : Launch) (Z : State) (a0 : Array Value) (hw : ∀ d ∈ tables_1, d.before a0 Z = true) (ws : List Jvm.Cond) (a1 : Addr) (a2 : Addr) (t : Addr) (k : ClassId) (x0 : Int32) (x1 : Int32) (t2 : Addr) (k2 : ClassId) (zc : Int32) (h0 : Heap) (n0 : Nat) (O0 : Old Z n0 h0) (SF : Start Z zc) (f0 : Exa Z h0 a1 "java/lang/String") (f1 : Fld Z h0 a1 "java/lang/String" "value" "[B" (.ref t)) (f2 : Fld Z h0 a1 "java/lang/String" "coder" "B" (.int (0 : Int32))) (f3 : Arv Z h0 t k .byte (2 : Int32) [(.int x0), (.int x1)] (.int (0 : Int32))) (f4 : Exa Z h0 a2 "java/lang/String") (f5 : Fld Z h0 a2 "java/lang/String" "value" "[B" (.ref t2)) (f6 : Fld Z h0 a2 "java/lang/String" "coder" "B" (.int (0 : Int32))) (f7 : Arv Z h0 t2 k2 .byte (1 : Int32) [(.int (58 : Int32))] (.int (0 : Int32))) (hpe : ¬ (x1 = (58 : Int32))) :
    Meets l (⟨"java/lang/String", "endsWith", "(Ljava/lang/String;)Z"⟩ : MethodName) jdk_42_method_77_code 2 (some .boolean) ws ({ frames := 3, cells := 0, slots := 0, locals := 46 } : Room) ({ frames := 3, cells := 0, slots := 0, locals := 46 } : Room).cells ({ frames := 3, cells := 0, slots := 0, locals := 46 } : Room).slots Z #[(.ref a1), (.ref a2)] h0 n0 (Q202 Z a1 a2 t k x0 x1 t2 k2 zc h0 n0) := by
  refine Meets.of (F := fun m => mkF m 0 #[.val (.ref a1), .val (.ref a2)] []) (plainFor_of_name pn_0) (fun m => ef_202 m a1 a2) ?_
  intro p e s m below meth c T0 hx hby hml hown0 hnm hret hlk hZ X0 e0
  have hown : s.vm.findClass "java/lang/String" = some m.cls := hown0
  have N0 := Fr.nil n0
  obtain ⟨z0, hzc, -⟩ := SF
  show Goes _ _ _ _ _ _ (T0.setTop (mkF m 0 #[.val (.ref a1), .val (.ref a2)] []))
  refine own_aloadN X0 hx (hb hby d20_0) rfl rfl ?_
  refine own_aloadN X0 hx (hb hby d20_1) rfl rfl ?_
  refine own_aloadN X0 hx (hb hby d20_2) rfl rfl ?_
  refine own_virtual X0 hx hZ hown (y := (⟨"java/lang/String", "length", "()I"⟩ : MethodName)) (z := (⟨"java/lang/String", "length", "()I"⟩ : MethodName)) (hw _ (List.mem_of_getElem? (i := 102) rfl)) (hw _ (List.mem_of_getElem? (i := 103) rfl)) (notFace_of_selects (args := #[]) (mvT hZ (hw _ (List.mem_of_getElem? (i := 105) rfl)))) (hw _ (List.mem_of_getElem? (i := 105) rfl)) (hw _ (List.mem_of_getElem? (i := 104) rfl)) (hw _ (List.mem_of_getElem? (i := 8) rfl)) (hw _ (List.mem_of_getElem? (i := 106) rfl)) (a := a1) f0 (by decide) (W := 2) (by decide) (by decide) N0 e0 (by rw [hml]; rfl) (argsL := []) (rest := [(.ref a2), (.ref a1)]) (lenOf pd_6 rfl) (Nat.le_of_eq rfl) (by decide) (by decide) (rm212 l Z a0 hw [] a1 t k x0 x1 zc h0 n0 O0 ⟨z0, hzc, trivial⟩ f0 f1 f2 f3) rfl (hb hby d20_3) ?_
  intro v1 T1 lc1 X1 N1 hQ1
  obtain ⟨rfl, e1⟩ := hQ1
  refine own_aloadN X1 hx (hb hby d20_6) rfl rfl ?_
  refine own_virtual X1 hx hZ hown (y := (⟨"java/lang/String", "length", "()I"⟩ : MethodName)) (z := (⟨"java/lang/String", "length", "()I"⟩ : MethodName)) (hw _ (List.mem_of_getElem? (i := 102) rfl)) (hw _ (List.mem_of_getElem? (i := 103) rfl)) (notFace_of_selects (args := #[]) (mvT hZ (hw _ (List.mem_of_getElem? (i := 105) rfl)))) (hw _ (List.mem_of_getElem? (i := 105) rfl)) (hw _ (List.mem_of_getElem? (i := 104) rfl)) (hw _ (List.mem_of_getElem? (i := 8) rfl)) (hw _ (List.mem_of_getElem? (i := 106) rfl)) (a := a2) f4 (by decide) (W := 3) (by decide) (by decide) N1 e1 (by rw [hml]; rfl) (argsL := []) (rest := [(.int (2 : Int32)), (.ref a2), (.ref a1)]) (lenOf pd_6 rfl) (Nat.le_of_eq rfl) (by decide) (by decide) (rm211 l Z a0 hw [] a2 t2 k2 (58 : Int32) zc h0 n0 O0 ⟨z0, hzc, trivial⟩ f4 f5 f6 f7) rfl (hb hby d20_7) ?_
  intro v2 T2 lc2 X2 N2 hQ2
  obtain ⟨rfl, e2⟩ := hQ2
  refine own_isub X2 hx (hb hby d20_10) ?_
  refine own_virtual X2 hx hZ hown (y := (⟨"java/lang/String", "startsWith", "(Ljava/lang/String;I)Z"⟩ : MethodName)) (z := (⟨"java/lang/String", "startsWith", "(Ljava/lang/String;I)Z"⟩ : MethodName)) (hw _ (List.mem_of_getElem? (i := 107) rfl)) (hw _ (List.mem_of_getElem? (i := 108) rfl)) (notFace_of_selects (args := #[]) (mvT hZ (hw _ (List.mem_of_getElem? (i := 110) rfl)))) (hw _ (List.mem_of_getElem? (i := 110) rfl)) (hw _ (List.mem_of_getElem? (i := 109) rfl)) (hw _ (List.mem_of_getElem? (i := 8) rfl)) (hw _ (List.mem_of_getElem? (i := 111) rfl)) (a := a1) f0 (by decide) (W := 0) (by decide) (by decide) N2 e2 (by rw [hml]; rfl) (argsL := [(.ref a2), (.int ((2 : Int32) - (1 : Int32)))]) (rest := []) (lenOf pd_7 rfl) (Nat.le_of_eq rfl) (by decide) (by decide) (rm222 l Z a0 hw [] a1 a2 t k x0 x1 t2 k2 zc h0 n0 O0 ⟨z0, hzc, trivial⟩ f0 f1 f2 f3 f4 f5 f6 f7 hpe) rfl (hb hby d20_11) ?_
  intro v3 T3 lc3 X3 N3 hQ3
  obtain ⟨rfl, e3⟩ := hQ3
  show Goes _ _ _ _ _ _ (T3.setTop (mkF m 14 #[.val (.ref a1), .val (.ref a2)] [(.int (0 : Int32))]))
  exact own_retN X3 hx (t := .boolean) N3 hlk (by decide) (by decide) hret (by simp) (hb hby d20_14) (by rw [e3]; exact ⟨rfl, rfl⟩)
def Q102 (Z : State) (a1 : Addr) (a2 : Addr) (t : Addr) (k : ClassId) (x0 : Int32) (x1 : Int32) (zc : Int32) (h0 : Heap) (n0 : Nat) (v : Option Value) (h : Heap) : Prop :=
  (v = some (.ref a1) ∧ Keep h0 h [])
theorem ef_102 (m : MethodId) (a1 : Addr) (a2 : Addr) : entryFrame m #[(.ref a1), (.ref a2)] 2 = mkF m 0 #[.val (.ref a1), .val (.ref a2)] [] := by first | (simp [entryFrame, mkF, argsToLocals, Value.category]; done) | rfl
set_option maxRecDepth 65536 in
set_option maxHeartbeats 40000000 in
theorem rm102 (l : Launch) (Z : State) (a0 : Array Value) (hw : ∀ d ∈ tables_1, d.before a0 Z = true) (hEL : EW Z a0 consts_1) (ws : List Jvm.Cond) (a1 : Addr) (a2 : Addr) (t : Addr) (k : ClassId) (x0 : Int32) (x1 : Int32) (zc : Int32) (h0 : Heap) (n0 : Nat) (O0 : Old Z n0 h0) (SF : Start Z zc) (f0 : Exa Z h0 a1 "java/lang/String") (f1 : Fld Z h0 a1 "java/lang/String" "value" "[B" (.ref t)) (f2 : Fld Z h0 a1 "java/lang/String" "coder" "B" (.int (0 : Int32))) (f3 : Arv Z h0 t k .byte (2 : Int32) [(.int x0), (.int x1)] (.int (0 : Int32))) (hpa0 : ¬ (x0 = (45 : Int32) ∧ x1 = (62 : Int32))) (hpc0 : ¬ (x0 = (58 : Int32) ∧ x1 = (58 : Int32))) :
    MeetsH l (⟨"com/example/fuseline/fuseline/CircuitKey", "checkedPart", "(Ljava/lang/String;Ljava/lang/String;)Ljava/lang/String;"⟩ : MethodName) prog_10_method_8_code 2 (some (.object "java/lang/String")) ws ({ frames := 4, cells := 4, slots := 24, locals := 62 } : Room) ({ frames := 4, cells := 4, slots := 24, locals := 62 } : Room).cells ({ frames := 4, cells := 4, slots := 24, locals := 62 } : Room).slots Z consts_1 #[(.ref a1), (.ref a2)] h0 n0 (Q102 Z a1 a2 t k x0 x1 zc h0 n0) := by
  refine MeetsH.of (F := fun m => mkF m 0 #[.val (.ref a1), .val (.ref a2)] []) (plainFor_of_name pn_4) (fun m => ef_102 m a1 a2) ?_
  intro p e s m below meth c T0 hx hby hml hown0 hnm hret hlk hZ hS0 hC0 X0 e0
  have hown : s.vm.findClass "com/example/fuseline/fuseline/CircuitKey" = some m.cls := hown0
  have N0 := Fr.nil n0
  have KC0 := Keep.refl h0 []
  have C0 := CHr.refl hC0
  obtain ⟨z0, hzc, -⟩ := SF
  show Goes _ _ _ _ _ _ (T0.setTop (mkF m 0 #[.val (.ref a1), .val (.ref a2)] []))
  refine own_aloadN X0 hx (hb hby d10_0) rfl rfl ?_
  refine own_aloadN X0 hx (hb hby d10_1) rfl rfl ?_
  refine own_callS X0 hx hZ hown (y := (⟨"java/util/Objects", "requireNonNull", "(Ljava/lang/Object;Ljava/lang/String;)Ljava/lang/Object;"⟩ : MethodName)) (hw _ (List.mem_of_getElem? (i := 49) rfl)) (hw _ (List.mem_of_getElem? (i := 50) rfl)) (hw _ (List.mem_of_getElem? (i := 51) rfl)) (hw _ (List.mem_of_getElem? (i := 52) rfl)) (by decide) (W := 0) (by decide) (by decide) N0 e0 (by rw [hml]; rfl) (argsL := [(.ref a1), (.ref a2)]) (rest := []) (lenOf pd_8 rfl) (Nat.le_of_eq rfl) (by decide) (by decide) (rm11 l Z a0 hw [] a1 a2 h0 n0 O0) rfl (hb hby d10_2) ?_
  intro v1 T1 lc1 X1 N1 hQ1
  obtain ⟨rfl, e1⟩ := hQ1
  refine own_pop X1 hx (hb hby d10_5) rfl ?_
  refine own_aloadN X1 hx (hb hby d10_6) rfl rfl ?_
  refine own_virtual X1 hx hZ hown (y := (⟨"java/lang/String", "isEmpty", "()Z"⟩ : MethodName)) (z := (⟨"java/lang/String", "isEmpty", "()Z"⟩ : MethodName)) (hw _ (List.mem_of_getElem? (i := 53) rfl)) (hw _ (List.mem_of_getElem? (i := 54) rfl)) (notFace_of_selects (args := #[]) (mvT hZ (hw _ (List.mem_of_getElem? (i := 56) rfl)))) (hw _ (List.mem_of_getElem? (i := 56) rfl)) (hw _ (List.mem_of_getElem? (i := 55) rfl)) (hw _ (List.mem_of_getElem? (i := 8) rfl)) (hw _ (List.mem_of_getElem? (i := 57) rfl)) (a := a1) f0 (by decide) (W := 0) (by decide) (by decide) N1 e1 (by rw [hml]; rfl) (argsL := []) (rest := []) (lenOf pd_2 rfl) (Nat.le_of_eq rfl) (by decide) (by decide) (rm122 l Z a0 hw [] a1 t k x0 x1 zc h0 n0 O0 ⟨z0, hzc, trivial⟩ f0 f1 f2 f3) rfl (hb hby d10_7) ?_
  intro v2 T2 lc2 X2 N2 hQ2
  obtain ⟨rfl, e2⟩ := hQ2
  refine own_ifNo X2 hx (hb hby d10_10) ((if0 _ _).trans (teq (by decide : (0 : Int32) = (0 : Int32))).2) ?_
  refine own_aloadN X2 hx (hb hby d10_13) rfl rfl ?_
  refine own_ldcH X2 hx hZ hown hS0 (Nat.zero_le _) (hw _ (List.mem_of_getElem? (i := 58) rfl)) (own_wS hw) hEL (by simp [consts_1]) C0.1 e2 (cs := tx2) tx2_t tx2_z tx2_4 tx2_5 (n := 8) (hb hby d10_14) (by decide +kernel) (by decide) (by decide) (by decide) (fun sa3 T3 h3 k1_3 X3 hS3 hk3_ hZ hown e3 E3 D3 I3 => ?_)
  have E4_a1 := f0.ext E3
  have F4_value_a1 := f1.ext E3
  have F4_coder_a1 := f2.ext E3
  have A4_t := f3.ext E3
  have O4 := O0.ext E3
  have KC4 := KC0.ext E3
  have CC3 := C0.trans D3
  have KB5 := Keep.refl h3 []
  show Goes _ _ _ _ _ _ (T3.setTop (mkF m 16 #[.val (.ref a1), .val (.ref a2)] [(.ref sa3), (.ref a1)]))
  obtain ⟨t6, kb6, UE6, UV6, UC6, UA6, -⟩ := id I3
  have UB6 : Arv Z h3 t6 kb6 .byte (2 : Int32) [(.int (45 : Int32)), (.int (62 : Int32))] (.int (0 : Int32)) := UA6
  refine own_virtual X3 hx hZ hown (y := (⟨"java/lang/String", "contains", "(Ljava/lang/CharSequence;)Z"⟩ : MethodName)) (z := (⟨"java/lang/String", "contains", "(Ljava/lang/CharSequence;)Z"⟩ : MethodName)) (hw _ (List.mem_of_getElem? (i := 59) rfl)) (hw _ (List.mem_of_getElem? (i := 60) rfl)) (notFace_of_selects (args := #[]) (mvT hZ (hw _ (List.mem_of_getElem? (i := 62) rfl)))) (hw _ (List.mem_of_getElem? (i := 62) rfl)) (hw _ (List.mem_of_getElem? (i := 61) rfl)) (hw _ (List.mem_of_getElem? (i := 8) rfl)) (hw _ (List.mem_of_getElem? (i := 63) rfl)) (a := a1) E4_a1 (by decide) (W := 0) (by decide) (by decide) N2 e3 (by rw [hml]; rfl) (argsL := [(.ref sa3)]) (rest := []) (lenOf pd_9 rfl) (Nat.le_of_eq rfl) (by decide) (by decide) (rm132a l Z a0 hw [] a1 sa3 t k x0 x1 t6 kb6 zc h3 n0 O4 ⟨z0, hzc, trivial⟩ E4_a1 F4_value_a1 F4_coder_a1 A4_t (IsStr.exa I3) UV6 UC6 UB6 hpa0) rfl (hb hby d10_16) ?_
  intro v7 T7 lc7 X7 N7 hQ7
  obtain ⟨rfl, e7⟩ := hQ7
  refine own_ifNo X7 hx (hb hby d10_19) ((if0 _ _).trans (teq (by decide : (0 : Int32) = (0 : Int32))).2) ?_
  refine own_aloadN X7 hx (hb hby d10_22) rfl rfl ?_
  refine own_ldcH X7 hx hZ hown hS3 hk3_ (hw _ (List.mem_of_getElem? (i := 95) rfl)) (own_wS hw) hEL (by simp [consts_1]) CC3.1 e7 (cs := tx3) tx3_t tx3_z tx3_4 tx3_5 (n := 8) (hb hby d10_23) (by decide +kernel) (by decide) (by decide) (by decide) (fun sa8 T8 h8 k1_8 X8 hS8 hk8_ hZ hown e8 E8 D8 I8 => ?_)
  have E9_a1 := E4_a1.ext E8
  have F9_value_a1 := F4_value_a1.ext E8
  have F9_coder_a1 := F4_coder_a1.ext E8
  have A9_t := A4_t.ext E8
  have O9 := O4.ext E8
  have KC9 := KB5.ext E8
  have CC8 := CC3.trans D8
  have KQ10 := KC4.trans KC9 all0
  have KB10 := Keep.refl h8 []
  show Goes _ _ _ _ _ _ (T8.setTop (mkF m 25 #[.val (.ref a1), .val (.ref a2)] [(.ref sa8), (.ref a1)]))
  obtain ⟨t11, kb11, UE11, UV11, UC11, UA11, -⟩ := id I8
  have UB11 : Arv Z h8 t11 kb11 .byte (2 : Int32) [(.int (58 : Int32)), (.int (58 : Int32))] (.int (0 : Int32)) := UA11
  refine own_virtual X8 hx hZ hown (y := (⟨"java/lang/String", "contains", "(Ljava/lang/CharSequence;)Z"⟩ : MethodName)) (z := (⟨"java/lang/String", "contains", "(Ljava/lang/CharSequence;)Z"⟩ : MethodName)) (hw _ (List.mem_of_getElem? (i := 59) rfl)) (hw _ (List.mem_of_getElem? (i := 60) rfl)) (notFace_of_selects (args := #[]) (mvT hZ (hw _ (List.mem_of_getElem? (i := 62) rfl)))) (hw _ (List.mem_of_getElem? (i := 62) rfl)) (hw _ (List.mem_of_getElem? (i := 61) rfl)) (hw _ (List.mem_of_getElem? (i := 8) rfl)) (hw _ (List.mem_of_getElem? (i := 63) rfl)) (a := a1) E9_a1 (by decide) (W := 0) (by decide) (by decide) N7 e8 (by rw [hml]; rfl) (argsL := [(.ref sa8)]) (rest := []) (lenOf pd_9 rfl) (Nat.le_of_eq rfl) (by decide) (by decide) (rm132c l Z a0 hw [] a1 sa8 t k x0 x1 t11 kb11 zc h8 n0 O9 ⟨z0, hzc, trivial⟩ E9_a1 F9_value_a1 F9_coder_a1 A9_t (IsStr.exa I8) UV11 UC11 UB11 hpc0) rfl (hb hby d10_25) ?_
  intro v12 T12 lc12 X12 N12 hQ12
  obtain ⟨rfl, e12⟩ := hQ12
  refine own_ifYes X12 hx (pc' := 46) (hb hby d10_28) ((if0 _ _).trans (teq (by decide : (0 : Int32) = (0 : Int32))).1) (by decide) (by decide) ?_
  refine own_aloadN X12 hx (hb hby d10_46) rfl rfl ?_
  show Goes _ _ _ _ _ _ (T12.setTop (mkF m 47 #[.val (.ref a1), .val (.ref a2)] [(.ref a1)]))
  exact own_retRH X12 hx hS8 (by rw [e12]; exact hk8_) hZ hEL (by rw [e12]; exact CC8) N12 hlk (by decide) (by decide) hret rfl rfl rfl (hb hby d10_47) (by rw [e12]; exact ⟨rfl, (KQ10.trans KB10 all0)⟩)
def Q92 (Z : State) (a1 : Addr) (t : Addr) (k : ClassId) (x0 : Int32) (x1 : Int32) (zc : Int32) (h0 : Heap) (n0 : Nat) (v : Option Value) (h : Heap) : Prop :=
  (v = some (.ref a1) ∧ Keep h0 h [])
theorem ef_92 (m : MethodId) (a1 : Addr) : entryFrame m #[(.ref a1)] 1 = mkF m 0 #[.val (.ref a1)] [] := by first | (simp [entryFrame, mkF, argsToLocals, Value.category]; done) | rfl
set_option maxRecDepth 65536 in
set_option maxHeartbeats 40000000 in
theorem rm92 (l : Launch) (Z : State) (a0 : Array Value) (hw : ∀ d ∈ tables_1, d.before a0 Z = true) (hEL : EW Z a0 consts_1) (ws : List Jvm.Cond) (a1 : Addr) (t : Addr) (k : ClassId) (x0 : Int32) (x1 : Int32) (zc : Int32) (h0 : Heap) (n0 : Nat) (O0 : Old Z n0 h0) (SF : Start Z zc) (f0 : Exa Z h0 a1 "java/lang/String") (f1 : Fld Z h0 a1 "java/lang/String" "value" "[B" (.ref t)) (f2 : Fld Z h0 a1 "java/lang/String" "coder" "B" (.int (0 : Int32))) (f3 : Arv Z h0 t k .byte (2 : Int32) [(.int x0), (.int x1)] (.int (0 : Int32))) (hpa0 : ¬ (x0 = (45 : Int32) ∧ x1 = (62 : Int32))) (hpc0 : ¬ (x0 = (58 : Int32) ∧ x1 = (58 : Int32))) (hpe : ¬ (x1 = (58 : Int32))) :
    MeetsH l (⟨"com/example/fuseline/fuseline/CircuitKey", "checkedService", "(Ljava/lang/String;)Ljava/lang/String;"⟩ : MethodName) prog_10_method_7_code 1 (some (.object "java/lang/String")) ws ({ frames := 5, cells := 8, slots := 64, locals := 75 } : Room) ({ frames := 5, cells := 8, slots := 64, locals := 75 } : Room).cells ({ frames := 5, cells := 8, slots := 64, locals := 75 } : Room).slots Z consts_1 #[(.ref a1)] h0 n0 (Q92 Z a1 t k x0 x1 zc h0 n0) := by
  refine MeetsH.of (F := fun m => mkF m 0 #[.val (.ref a1)] []) (plainFor_of_name pn_4) (fun m => ef_92 m a1) ?_
  intro p e s m below meth c T0 hx hby hml hown0 hnm hret hlk hZ hS0 hC0 X0 e0
  have hown : s.vm.findClass "com/example/fuseline/fuseline/CircuitKey" = some m.cls := hown0
  have N0 := Fr.nil n0
  have KC0 := Keep.refl h0 []
  have C0 := CHr.refl hC0
  obtain ⟨z0, hzc, -⟩ := SF
  show Goes _ _ _ _ _ _ (T0.setTop (mkF m 0 #[.val (.ref a1)] []))
  refine own_aloadN X0 hx (hb hby d9_0) rfl rfl ?_
  refine own_ldcH X0 hx hZ hown hS0 (Nat.zero_le _) (hw _ (List.mem_of_getElem? (i := 45) rfl)) (own_wS hw) hEL (by simp [consts_1]) C0.1 e0 (cs := tx1) tx1_t tx1_z tx1_4 tx1_5 (n := 28) (hb hby d9_1) (by decide +kernel) (by decide) (by decide) (by decide) (fun sa1 T1 h1 k1_1 X1 hS1 hk1_ hZ hown e1 E1 D1 I1 => ?_)
  have E2_a1 := f0.ext E1
  have F2_value_a1 := f1.ext E1
  have F2_coder_a1 := f2.ext E1
  have A2_t := f3.ext E1
  have O2 := O0.ext E1
  have KC2 := KC0.ext E1
  have CC1 := C0.trans D1
  have KB3 := Keep.refl h1 []
  refine own_callSH X1 hx hZ hown hS1 hk1_ (y := (⟨"com/example/fuseline/fuseline/CircuitKey", "checkedPart", "(Ljava/lang/String;Ljava/lang/String;)Ljava/lang/String;"⟩ : MethodName)) (hw _ (List.mem_of_getElem? (i := 46) rfl)) (hw _ (List.mem_of_getElem? (i := 47) rfl)) (hw _ (List.mem_of_getElem? (i := 43) rfl)) (hw _ (List.mem_of_getElem? (i := 48) rfl)) hEL CC1.1 (by decide) (W := 0) (by decide) (by decide) N0 e1 (by rw [hml]; rfl) (argsL := [(.ref a1), (.ref sa1)]) (rest := []) (lenOf pd_10 rfl) (Nat.le_of_eq rfl) (by decide) (by decide) (rm102 l Z a0 hw hEL [] a1 sa1 t k x0 x1 zc h1 n0 O2 ⟨z0, hzc, trivial⟩ E2_a1 F2_value_a1 F2_coder_a1 A2_t hpa0 hpc0) rfl (hb hby d9_3) ?_
  intro v4 T4 lc4 k1_4 X4 hS4 hk4_ hZ hown N4 D4 hQ4
  have CC4 := CC1.trans D4
  obtain ⟨rfl, K4⟩ := hQ4
  have E5_a1 := E2_a1.keep K4
  have F5_value_a1 := F2_value_a1.keep K4 nin0
  have F5_coder_a1 := F2_coder_a1.keep K4 nin0
  have A5_t := A2_t.keep K4 nin0
  have O5 := O2.keep K4 all0
  have hk5 := Nat.le_trans hk1_ K4.1
  have KC5 := KB3.trans K4 all0
  have KQ6 := KC2.trans KC5 all0
  have KB6 := Keep.refl T4.heap []
  refine own_pop X4 hx (hb hby d9_6) rfl ?_
  refine own_aloadN X4 hx (hb hby d9_7) rfl rfl ?_
  refine own_ldcH X4 hx hZ hown hS4 hk4_ (hw _ (List.mem_of_getElem? (i := 96) rfl)) (own_wS hw) hEL (by simp [consts_1]) CC4.1 rfl (cs := tx4) tx4_t tx4_z tx4_4 tx4_5 (n := 4) (hb hby d9_8) (by decide +kernel) (by decide) (by decide) (by decide) (fun sa7 T7 h7 k1_7 X7 hS7 hk7_ hZ hown e7 E7 D7 I7 => ?_)
  have E8_a1 := E5_a1.ext E7
  have F8_value_a1 := F5_value_a1.ext E7
  have F8_coder_a1 := F5_coder_a1.ext E7
  have A8_t := A5_t.ext E7
  have O8 := O5.ext E7
  have KC8 := KB6.ext E7
  have CC7 := CC4.trans D7
  have KQ9 := KQ6.trans KC8 all0
  have KB9 := Keep.refl h7 []
  show Goes _ _ _ _ _ _ (T7.setTop (mkF m 10 #[.val (.ref a1)] [(.ref sa7), (.ref a1)]))
  obtain ⟨t10, kb10, UE10, UV10, UC10, UA10, -⟩ := id I7
  have UB10 : Arv Z h7 t10 kb10 .byte (1 : Int32) [(.int (58 : Int32))] (.int (0 : Int32)) := UA10
  refine own_virtual X7 hx hZ hown (y := (⟨"java/lang/String", "endsWith", "(Ljava/lang/String;)Z"⟩ : MethodName)) (z := (⟨"java/lang/String", "endsWith", "(Ljava/lang/String;)Z"⟩ : MethodName)) (hw _ (List.mem_of_getElem? (i := 97) rfl)) (hw _ (List.mem_of_getElem? (i := 98) rfl)) (notFace_of_selects (args := #[]) (mvT hZ (hw _ (List.mem_of_getElem? (i := 100) rfl)))) (hw _ (List.mem_of_getElem? (i := 100) rfl)) (hw _ (List.mem_of_getElem? (i := 99) rfl)) (hw _ (List.mem_of_getElem? (i := 8) rfl)) (hw _ (List.mem_of_getElem? (i := 101) rfl)) (a := a1) E8_a1 (by decide) (W := 0) (by decide) (by decide) N4 e7 (by rw [hml]; rfl) (argsL := [(.ref sa7)]) (rest := []) (lenOf pd_11 rfl) (Nat.le_of_eq rfl) (by decide) (by decide) (rm202 l Z a0 hw [] a1 sa7 t k x0 x1 t10 kb10 zc h7 n0 O8 ⟨z0, hzc, trivial⟩ E8_a1 F8_value_a1 F8_coder_a1 A8_t (IsStr.exa I7) UV10 UC10 UB10 hpe) rfl (hb hby d9_10) ?_
  intro v11 T11 lc11 X11 N11 hQ11
  obtain ⟨rfl, e11⟩ := hQ11
  refine own_ifYes X11 hx (pc' := 30) (hb hby d9_13) ((if0 _ _).trans (teq (by decide : (0 : Int32) = (0 : Int32))).1) (by decide) (by decide) ?_
  refine own_aloadN X11 hx (hb hby d9_30) rfl rfl ?_
  show Goes _ _ _ _ _ _ (T11.setTop (mkF m 31 #[.val (.ref a1)] [(.ref a1)]))
  exact own_retRH X11 hx hS7 (by rw [e11]; exact hk7_) hZ hEL (by rw [e11]; exact CC7) N11 hlk (by decide) (by decide) hret rfl rfl rfl (hb hby d9_31) (by rw [e11]; exact ⟨rfl, (KQ9.trans KB9 all0)⟩)
def Q213 (Z : State) (a1 : Addr) (t : Addr) (k : ClassId) (x0 : Int32) (x1 : Int32) (x2 : Int32) (zc : Int32) (h0 : Heap) (n0 : Nat) (v : Option Value) (h : Heap) : Prop :=
  (v = some (.int (3 : Int32)) ∧ h = h0)
theorem ef_213 (m : MethodId) (a1 : Addr) : entryFrame m #[(.ref a1)] 1 = mkF m 0 #[.val (.ref a1)] [] := by first | (simp [entryFrame, mkF, argsToLocals, Value.category]; done) | rfl
set_option maxRecDepth 65536 in
set_option maxHeartbeats 40000000 in
theorem rm213 (l : Launch) (Z : State) (a0 : Array Value) (hw : ∀ d ∈ tables_1, d.before a0 Z = true) (ws : List Jvm.Cond) (a1 : Addr) (t : Addr) (k : ClassId) (x0 : Int32) (x1 : Int32) (x2 : Int32) (zc : Int32) (h0 : Heap) (n0 : Nat) (O0 : Old Z n0 h0) (SF : Start Z zc) (f0 : Exa Z h0 a1 "java/lang/String") (f1 : Fld Z h0 a1 "java/lang/String" "value" "[B" (.ref t)) (f2 : Fld Z h0 a1 "java/lang/String" "coder" "B" (.int (0 : Int32))) (f3 : Arv Z h0 t k .byte (3 : Int32) [(.int x0), (.int x1), (.int x2)] (.int (0 : Int32))) :
    Meets l (⟨"java/lang/String", "length", "()I"⟩ : MethodName) jdk_42_method_54_code 1 (some .int) ws ({ frames := 1, cells := 0, slots := 0, locals := 13 } : Room) ({ frames := 1, cells := 0, slots := 0, locals := 13 } : Room).cells ({ frames := 1, cells := 0, slots := 0, locals := 13 } : Room).slots Z #[(.ref a1)] h0 n0 (Q213 Z a1 t k x0 x1 x2 zc h0 n0) := by
  refine Meets.of (F := fun m => mkF m 0 #[.val (.ref a1)] []) (plainFor_of_name pn_0) (fun m => ef_213 m a1) ?_
  intro p e s m below meth c T0 hx hby hml hown0 hnm hret hlk hZ X0 e0
  have hown : s.vm.findClass "java/lang/String" = some m.cls := hown0
  have N0 := Fr.nil n0
  obtain ⟨z0, hzc, -⟩ := SF
  show Goes _ _ _ _ _ _ (T0.setTop (mkF m 0 #[.val (.ref a1)] []))
  refine own_aloadN X0 hx (hb hby d21_0) rfl rfl ?_
  refine own_getF X0 hx hZ hown (host := "") (Or.inl (hw _ (List.mem_of_getElem? (i := 25) rfl))) Via.refl e0 f1 (hb hby d21_1) (fun T1 X1 e1 => ?_)
  refine own_alen X1 hx hZ e1 f3 (hb hby d21_4) ?_
  refine own_aloadN X1 hx (hb hby d21_5) rfl rfl ?_
  refine own_virtual X1 hx hZ hown (y := (⟨"java/lang/String", "coder", "()B"⟩ : MethodName)) (z := (⟨"java/lang/String", "coder", "()B"⟩ : MethodName)) (hw _ (List.mem_of_getElem? (i := 78) rfl)) (hw _ (List.mem_of_getElem? (i := 79) rfl)) (notFace_of_selects (args := #[]) (mvT hZ (hw _ (List.mem_of_getElem? (i := 81) rfl)))) (hw _ (List.mem_of_getElem? (i := 81) rfl)) (hw _ (List.mem_of_getElem? (i := 80) rfl)) (hw _ (List.mem_of_getElem? (i := 8) rfl)) (hw _ (List.mem_of_getElem? (i := 82) rfl)) (a := a1) f0 (by decide) (W := 1) (by decide) (by decide) N0 e1 (by rw [hml]; rfl) (argsL := []) (rest := [(.int (3 : Int32))]) (lenOf pd_0 rfl) (Nat.le_of_eq rfl) (by decide) (by decide) (rm16 l Z a0 hw [] a1 zc h0 n0 O0 ⟨z0, hzc, trivial⟩ f2) rfl (hb hby d21_6) ?_
  intro v2 T2 lc2 X2 N2 hQ2
  obtain ⟨rfl, e2⟩ := hQ2
  refine own_ishr X2 hx (hb hby d21_9) ?_
  show Goes _ _ _ _ _ _ (T2.setTop (mkF m 10 #[.val (.ref a1)] [(.int ((3 : Int32) >>> ((0 : Int32) &&& 31)))]))
  exact own_retI X2 hx N2 hlk (by decide) (by decide) hret (hb hby d21_10) (by rw [e2]; exact ⟨(by first | rfl | exact congrArg (fun z => some (Value.int z)) (by decide)), rfl⟩)
def Q123 (Z : State) (a1 : Addr) (t : Addr) (k : ClassId) (x0 : Int32) (x1 : Int32) (x2 : Int32) (zc : Int32) (h0 : Heap) (n0 : Nat) (v : Option Value) (h : Heap) : Prop :=
  (v = some (.int (0 : Int32)) ∧ h = h0)
theorem ef_123 (m : MethodId) (a1 : Addr) : entryFrame m #[(.ref a1)] 1 = mkF m 0 #[.val (.ref a1)] [] := by first | (simp [entryFrame, mkF, argsToLocals, Value.category]; done) | rfl
set_option maxRecDepth 65536 in
set_option maxHeartbeats 40000000 in
theorem rm123 (l : Launch) (Z : State) (a0 : Array Value) (hw : ∀ d ∈ tables_1, d.before a0 Z = true) (ws : List Jvm.Cond) (a1 : Addr) (t : Addr) (k : ClassId) (x0 : Int32) (x1 : Int32) (x2 : Int32) (zc : Int32) (h0 : Heap) (n0 : Nat) (O0 : Old Z n0 h0) (SF : Start Z zc) (f0 : Exa Z h0 a1 "java/lang/String") (f1 : Fld Z h0 a1 "java/lang/String" "value" "[B" (.ref t)) (f2 : Fld Z h0 a1 "java/lang/String" "coder" "B" (.int (0 : Int32))) (f3 : Arv Z h0 t k .byte (3 : Int32) [(.int x0), (.int x1), (.int x2)] (.int (0 : Int32))) :
    Meets l (⟨"java/lang/String", "isEmpty", "()Z"⟩ : MethodName) jdk_42_method_55_code 1 (some .boolean) ws ({ frames := 0, cells := 0, slots := 0, locals := 0 } : Room) ({ frames := 0, cells := 0, slots := 0, locals := 0 } : Room).cells ({ frames := 0, cells := 0, slots := 0, locals := 0 } : Room).slots Z #[(.ref a1)] h0 n0 (Q123 Z a1 t k x0 x1 x2 zc h0 n0) := by
  refine Meets.of (F := fun m => mkF m 0 #[.val (.ref a1)] []) (plainFor_of_name pn_0) (fun m => ef_123 m a1) ?_
  intro p e s m below meth c T0 hx hby hml hown0 hnm hret hlk hZ X0 e0
  have hown : s.vm.findClass "java/lang/String" = some m.cls := hown0
  have N0 := Fr.nil n0
  obtain ⟨z0, hzc, -⟩ := SF
  show Goes _ _ _ _ _ _ (T0.setTop (mkF m 0 #[.val (.ref a1)] []))
  refine own_aloadN X0 hx (hb hby d12_0) rfl rfl ?_
  refine own_getF X0 hx hZ hown (host := "") (Or.inl (hw _ (List.mem_of_getElem? (i := 25) rfl))) Via.refl e0 f1 (hb hby d12_1) (fun T1 X1 e1 => ?_)
  refine own_alen X1 hx hZ e1 f3 (hb hby d12_4) ?_
  refine own_ifYes X1 hx (pc' := 12) (hb hby d12_5) ((if0 _ _).trans (feq (by decide : ¬ ((3 : Int32) = (0 : Int32)))).2) (by decide) (by decide) ?_
  refine own_iconst X1 hx (v := (0 : Int32)) (hb hby d12_12) rfl ?_
  show Goes _ _ _ _ _ _ (T1.setTop (mkF m 13 #[.val (.ref a1)] [(.int (0 : Int32))]))
  exact own_retN X1 hx (t := .boolean) N0 hlk (by decide) (by decide) hret (by simp) (hb hby d12_13) (by rw [e1]; exact ⟨rfl, rfl⟩)
theorem d19_40 : decode jdk_43_method_25_code 40 = .ok (.aload_n 0, 1) := by decide +kernel
theorem d19_41 : decode jdk_43_method_25_code 41 = .ok (.iload 7, 2) := by decide +kernel
theorem d19_43 : decode jdk_43_method_25_code 43 = .ok (.baload, 1) := by decide +kernel
theorem d19_44 : decode jdk_43_method_25_code 44 = .ok (.iload 5, 2) := by decide +kernel
theorem d19_46 : decode jdk_43_method_25_code 46 = .ok (.if_icmp .eq 6, 3) := by decide +kernel
theorem d19_49 : decode jdk_43_method_25_code 49 = .ok (.goto (-19), 3) := by decide +kernel
def Q193a (Z : State) (a1 : Addr) (a3 : Addr) (k : ClassId) (k2 : ClassId) (x0 : Int32) (x1 : Int32) (x2 : Int32) (h0 : Heap) (n0 : Nat) (v : Option Value) (h : Heap) : Prop :=
  (v = some (.int (-1 : Int32)) ∧ h = h0)
theorem ef_193a (m : MethodId) (a1 : Addr) (a3 : Addr) : entryFrame m #[(.ref a1), (.int (3 : Int32)), (.ref a3), (.int (2 : Int32)), (.int (0 : Int32))] 11 = mkF m 0 #[.val (.ref a1), .val (.int (3 : Int32)), .val (.ref a3), .val (.int (2 : Int32)), .val (.int (0 : Int32)), .unset, .unset, .unset, .unset, .unset, .unset] [] := by first | (simp [entryFrame, mkF, argsToLocals, Value.category]; done) | rfl
set_option maxRecDepth 65536 in
set_option maxHeartbeats 40000000 in
theorem rm193a (l : Launch) (Z : State) (a0 : Array Value) (hw : ∀ d ∈ tables_1, d.before a0 Z = true) (ws : List Jvm.Cond) (a1 : Addr) (a3 : Addr) (k : ClassId) (k2 : ClassId) (x0 : Int32) (x1 : Int32) (x2 : Int32) (h0 : Heap) (n0 : Nat) (O0 : Old Z n0 h0) (f0 : Arv Z h0 a1 k .byte (3 : Int32) [(.int x0), (.int x1), (.int x2)] (.int (0 : Int32))) (f1 : Arv Z h0 a3 k2 .byte (2 : Int32) [(.int (45 : Int32)), (.int (62 : Int32))] (.int (0 : Int32))) (hpa0 : ¬ (x0 = (45 : Int32) ∧ x1 = (62 : Int32))) (hpa1 : ¬ (x1 = (45 : Int32) ∧ x2 = (62 : Int32))) :
    Meets l (⟨"java/lang/StringLatin1", "indexOf", "([BI[BII)I"⟩ : MethodName) jdk_43_method_25_code 11 (some .int) ws ({ frames := 0, cells := 0, slots := 0, locals := 0 } : Room) ({ frames := 0, cells := 0, slots := 0, locals := 0 } : Room).cells ({ frames := 0, cells := 0, slots := 0, locals := 0 } : Room).slots Z #[(.ref a1), (.int (3 : Int32)), (.ref a3), (.int (2 : Int32)), (.int (0 : Int32))] h0 n0 (Q193a Z a1 a3 k k2 x0 x1 x2 h0 n0) := by
  refine Meets.of (F := fun m => mkF m 0 #[.val (.ref a1), .val (.int (3 : Int32)), .val (.ref a3), .val (.int (2 : Int32)), .val (.int (0 : Int32)), .unset, .unset, .unset, .unset, .unset, .unset] []) (plainFor_of_name pn_2) (fun m => ef_193a m a1 a3) ?_
  intro p e s m below meth c T0 hx hby hml hown0 hnm hret hlk hZ X0 e0
  have hown : s.vm.findClass "java/lang/StringLatin1" = some m.cls := hown0
  have N0 := Fr.nil n0
  show Goes _ _ _ _ _ _ (T0.setTop (mkF m 0 #[.val (.ref a1), .val (.int (3 : Int32)), .val (.ref a3), .val (.int (2 : Int32)), .val (.int (0 : Int32)), .unset, .unset, .unset, .unset, .unset, .unset] []))
  refine own_aloadN X0 hx (hb hby d19_0) rfl rfl ?_
  refine own_iconst X0 hx (v := (0 : Int32)) (hb hby d19_1) rfl ?_
  refine own_baload X0 hx hZ e0 f1 ⟨by decide, by decide⟩ (v := (.int (45 : Int32))) rfl (hb hby d19_2) ?_
  refine own_istore X0 hx (Ls' := #[.val (.ref a1), .val (.int (3 : Int32)), .val (.ref a3), .val (.int (2 : Int32)), .val (.int (0 : Int32)), .val (.int (45 : Int32)), .unset, .unset, .unset, .unset, .unset]) (hb hby d19_3) rfl ?_
  refine own_iloadN X0 hx (hb hby d19_5) rfl ?_
  refine own_iloadN X0 hx (hb hby d19_6) rfl ?_
  refine own_isub X0 hx (hb hby d19_7) ?_
  refine own_istore X0 hx (Ls' := #[.val (.ref a1), .val (.int (3 : Int32)), .val (.ref a3), .val (.int (2 : Int32)), .val (.int (0 : Int32)), .val (.int (45 : Int32)), .val (.int ((3 : Int32) - (2 : Int32))), .unset, .unset, .unset, .unset]) (hb hby d19_8) rfl ?_
  refine own_iload X0 hx (hb hby d19_10) rfl ?_
  refine own_istore X0 hx (Ls' := #[.val (.ref a1), .val (.int (3 : Int32)), .val (.ref a3), .val (.int (2 : Int32)), .val (.int (0 : Int32)), .val (.int (45 : Int32)), .val (.int ((3 : Int32) - (2 : Int32))), .val (.int (0 : Int32)), .unset, .unset, .unset]) (hb hby d19_12) rfl ?_
  refine own_iload X0 hx (hb hby d19_14) rfl ?_
  refine own_iload X0 hx (hb hby d19_16) rfl ?_
  refine own_icmpNo X0 hx (hb hby d19_18) (flt (by decide : ¬ (((3 : Int32) - (2 : Int32)) < (0 : Int32)))).2.2.1 ?_
  refine own_aloadN X0 hx (hb hby d19_21) rfl rfl ?_
  refine own_iload X0 hx (hb hby d19_22) rfl ?_
  refine own_baload X0 hx hZ e0 f0 ⟨by decide, by decide⟩ (v := (.int x0)) rfl (hb hby d19_24) ?_
  refine own_iload X0 hx (hb hby d19_25) rfl ?_
  by_cases hc27_1 : x0 = (45 : Int32)
  ·
    refine own_icmpYes X0 hx (pc' := 52) (hb hby d19_27) (teq (hc27_1 : x0 = (45 : Int32))).1 (by decide) (by decide) ?_
    refine own_iload X0 hx (hb hby d19_52) rfl ?_
    refine own_iload X0 hx (hb hby d19_54) rfl ?_
    refine own_icmpNo X0 hx (hb hby d19_56) (flt (by decide : ¬ (((3 : Int32) - (2 : Int32)) < (0 : Int32)))).2.2.1 ?_
    refine own_iload X0 hx (hb hby d19_59) rfl ?_
    refine own_iconst X0 hx (v := (1 : Int32)) (hb hby d19_61) rfl ?_
    refine own_iadd X0 hx (hb hby d19_62) ?_
    refine own_istore X0 hx (Ls' := #[.val (.ref a1), .val (.int (3 : Int32)), .val (.ref a3), .val (.int (2 : Int32)), .val (.int (0 : Int32)), .val (.int (45 : Int32)), .val (.int ((3 : Int32) - (2 : Int32))), .val (.int (0 : Int32)), .val (.int ((0 : Int32) + (1 : Int32))), .unset, .unset]) (hb hby d19_63) rfl ?_
    refine own_iload X0 hx (hb hby d19_65) rfl ?_
    show Goes _ _ _ _ _ _ (T0.setTop (mkF m 67 #[.val (.ref a1), .val (.int (3 : Int32)), .val (.ref a3), .val (.int (2 : Int32)), .val (.int (0 : Int32)), .val (.int (45 : Int32)), .val (.int ((3 : Int32) - (2 : Int32))), .val (.int (0 : Int32)), .val (.int ((0 : Int32) + (1 : Int32))), .unset, .unset] [(.int ((0 : Int32) + (1 : Int32)))]))
    refine own_iloadN X0 hx (hb hby d19_67) rfl ?_
    refine own_iadd X0 hx (hb hby d19_68) ?_
    refine own_iconst X0 hx (v := (1 : Int32)) (hb hby d19_69) rfl ?_
    refine own_isub X0 hx (hb hby d19_70) ?_
    refine own_istore X0 hx (Ls' := #[.val (.ref a1), .val (.int (3 : Int32)), .val (.ref a3), .val (.int (2 : Int32)), .val (.int (0 : Int32)), .val (.int (45 : Int32)), .val (.int ((3 : Int32) - (2 : Int32))), .val (.int (0 : Int32)), .val (.int ((0 : Int32) + (1 : Int32))), .val (.int ((((0 : Int32) + (1 : Int32)) + (2 : Int32)) - (1 : Int32))), .unset]) (hb hby d19_71) rfl ?_
    refine own_iconst X0 hx (v := (1 : Int32)) (hb hby d19_73) rfl ?_
    refine own_istore X0 hx (Ls' := #[.val (.ref a1), .val (.int (3 : Int32)), .val (.ref a3), .val (.int (2 : Int32)), .val (.int (0 : Int32)), .val (.int (45 : Int32)), .val (.int ((3 : Int32) - (2 : Int32))), .val (.int (0 : Int32)), .val (.int ((0 : Int32) + (1 : Int32))), .val (.int ((((0 : Int32) + (1 : Int32)) + (2 : Int32)) - (1 : Int32))), .val (.int (1 : Int32))]) (hb hby d19_74) rfl ?_
    refine own_iload X0 hx (hb hby d19_76) rfl ?_
    refine own_iload X0 hx (hb hby d19_78) rfl ?_
    refine own_icmpNo X0 hx (hb hby d19_80) (tlt (by decide : ((0 : Int32) + (1 : Int32)) < ((((0 : Int32) + (1 : Int32)) + (2 : Int32)) - (1 : Int32)))).2.1 ?_
    refine own_aloadN X0 hx (hb hby d19_83) rfl rfl ?_
    refine own_iload X0 hx (hb hby d19_84) rfl ?_
    refine own_baload X0 hx hZ e0 f0 ⟨by decide, by decide⟩ (v := (.int x1)) rfl (hb hby d19_86) ?_
    refine own_aloadN X0 hx (hb hby d19_87) rfl rfl ?_
    refine own_iload X0 hx (hb hby d19_88) rfl ?_
    show Goes _ _ _ _ _ _ (T0.setTop (mkF m 90 #[.val (.ref a1), .val (.int (3 : Int32)), .val (.ref a3), .val (.int (2 : Int32)), .val (.int (0 : Int32)), .val (.int (45 : Int32)), .val (.int ((3 : Int32) - (2 : Int32))), .val (.int (0 : Int32)), .val (.int ((0 : Int32) + (1 : Int32))), .val (.int ((((0 : Int32) + (1 : Int32)) + (2 : Int32)) - (1 : Int32))), .val (.int (1 : Int32))] [(.int (1 : Int32)), (.ref a3), (.int x1)]))
    refine own_baload X0 hx hZ e0 f1 ⟨by decide, by decide⟩ (v := (.int (62 : Int32))) rfl (hb hby d19_90) ?_
    by_cases hc91_2 : x1 = (62 : Int32)
    ·
      exact absurd ⟨hc27_1, hc91_2⟩ hpa0
    ·
      refine own_icmpYes X0 hx (pc' := 103) (hb hby d19_91) (feq (hc91_2 : ¬ (x1 = (62 : Int32)))).2 (by decide) (by decide) ?_
      refine own_iload X0 hx (hb hby d19_103) rfl ?_
      refine own_iload X0 hx (hb hby d19_105) rfl ?_
      refine own_icmpYes X0 hx (pc' := 113) (hb hby d19_107) (feq (by decide : ¬ (((0 : Int32) + (1 : Int32)) = ((((0 : Int32) + (1 : Int32)) + (2 : Int32)) - (1 : Int32))))).2 (by decide) (by decide) ?_
      refine own_iinc X0 hx (Ls' := #[.val (.ref a1), .val (.int (3 : Int32)), .val (.ref a3), .val (.int (2 : Int32)), .val (.int (0 : Int32)), .val (.int (45 : Int32)), .val (.int ((3 : Int32) - (2 : Int32))), .val (.int ((0 : Int32) + (1 : Int32))), .val (.int ((0 : Int32) + (1 : Int32))), .val (.int ((((0 : Int32) + (1 : Int32)) + (2 : Int32)) - (1 : Int32))), .val (.int (1 : Int32))]) (hb hby d19_113) rfl rfl ?_
      refine own_goto X0 hx (pc' := 14) (hb hby d19_116) (by decide) (by decide) ?_
      refine own_iload X0 hx (hb hby d19_14) rfl ?_
      refine own_iload X0 hx (hb hby d19_16) rfl ?_
      refine own_icmpNo X0 hx (hb hby d19_18) (flt (by decide : ¬ (((3 : Int32) - (2 : Int32)) < ((0 : Int32) + (1 : Int32))))).2.2.1 ?_
      refine own_aloadN X0 hx (hb hby d19_21) rfl rfl ?_
      refine own_iload X0 hx (hb hby d19_22) rfl ?_
      refine own_baload X0 hx hZ e0 f0 ⟨by decide, by decide⟩ (v := (.int x1)) rfl (hb hby d19_24) ?_
      refine own_iload X0 hx (hb hby d19_25) rfl ?_
      by_cases hc27_3 : x1 = (45 : Int32)
      ·
        refine own_icmpYes X0 hx (pc' := 52) (hb hby d19_27) (teq (hc27_3 : x1 = (45 : Int32))).1 (by decide) (by decide) ?_
        refine own_iload X0 hx (hb hby d19_52) rfl ?_
        refine own_iload X0 hx (hb hby d19_54) rfl ?_
        refine own_icmpNo X0 hx (hb hby d19_56) (flt (by decide : ¬ (((3 : Int32) - (2 : Int32)) < ((0 : Int32) + (1 : Int32))))).2.2.1 ?_
        refine own_iload X0 hx (hb hby d19_59) rfl ?_
        refine own_iconst X0 hx (v := (1 : Int32)) (hb hby d19_61) rfl ?_
        refine own_iadd X0 hx (hb hby d19_62) ?_
        refine own_istore X0 hx (Ls' := #[.val (.ref a1), .val (.int (3 : Int32)), .val (.ref a3), .val (.int (2 : Int32)), .val (.int (0 : Int32)), .val (.int (45 : Int32)), .val (.int ((3 : Int32) - (2 : Int32))), .val (.int ((0 : Int32) + (1 : Int32))), .val (.int (((0 : Int32) + (1 : Int32)) + (1 : Int32))), .val (.int ((((0 : Int32) + (1 : Int32)) + (2 : Int32)) - (1 : Int32))), .val (.int (1 : Int32))]) (hb hby d19_63) rfl ?_
        refine own_iload X0 hx (hb hby d19_65) rfl ?_
        show Goes _ _ _ _ _ _ (T0.setTop (mkF m 67 #[.val (.ref a1), .val (.int (3 : Int32)), .val (.ref a3), .val (.int (2 : Int32)), .val (.int (0 : Int32)), .val (.int (45 : Int32)), .val (.int ((3 : Int32) - (2 : Int32))), .val (.int ((0 : Int32) + (1 : Int32))), .val (.int (((0 : Int32) + (1 : Int32)) + (1 : Int32))), .val (.int ((((0 : Int32) + (1 : Int32)) + (2 : Int32)) - (1 : Int32))), .val (.int (1 : Int32))] [(.int (((0 : Int32) + (1 : Int32)) + (1 : Int32)))]))
        refine own_iloadN X0 hx (hb hby d19_67) rfl ?_
        refine own_iadd X0 hx (hb hby d19_68) ?_
        refine own_iconst X0 hx (v := (1 : Int32)) (hb hby d19_69) rfl ?_
        refine own_isub X0 hx (hb hby d19_70) ?_
        refine own_istore X0 hx (Ls' := #[.val (.ref a1), .val (.int (3 : Int32)), .val (.ref a3), .val (.int (2 : Int32)), .val (.int (0 : Int32)), .val (.int (45 : Int32)), .val (.int ((3 : Int32) - (2 : Int32))), .val (.int ((0 : Int32) + (1 : Int32))), .val (.int (((0 : Int32) + (1 : Int32)) + (1 : Int32))), .val (.int (((((0 : Int32) + (1 : Int32)) + (1 : Int32)) + (2 : Int32)) - (1 : Int32))), .val (.int (1 : Int32))]) (hb hby d19_71) rfl ?_
        refine own_iconst X0 hx (v := (1 : Int32)) (hb hby d19_73) rfl ?_
        refine own_istore X0 hx (Ls' := #[.val (.ref a1), .val (.int (3 : Int32)), .val (.ref a3), .val (.int (2 : Int32)), .val (.int (0 : Int32)), .val (.int (45 : Int32)), .val (.int ((3 : Int32) - (2 : Int32))), .val (.int ((0 : Int32) + (1 : Int32))), .val (.int (((0 : Int32) + (1 : Int32)) + (1 : Int32))), .val (.int (((((0 : Int32) + (1 : Int32)) + (1 : Int32)) + (2 : Int32)) - (1 : Int32))), .val (.int (1 : Int32))]) (hb hby d19_74) rfl ?_
        refine own_iload X0 hx (hb hby d19_76) rfl ?_
        refine own_iload X0 hx (hb hby d19_78) rfl ?_
        refine own_icmpNo X0 hx (hb hby d19_80) (tlt (by decide : (((0 : Int32) + (1 : Int32)) + (1 : Int32)) < (((((0 : Int32) + (1 : Int32)) + (1 : Int32)) + (2 : Int32)) - (1 : Int32)))).2.1 ?_
        refine own_aloadN X0 hx (hb hby d19_83) rfl rfl ?_
        refine own_iload X0 hx (hb hby d19_84) rfl ?_
        refine own_baload X0 hx hZ e0 f0 ⟨by decide, by decide⟩ (v := (.int x2)) rfl (hb hby d19_86) ?_
        refine own_aloadN X0 hx (hb hby d19_87) rfl rfl ?_
        refine own_iload X0 hx (hb hby d19_88) rfl ?_
        show Goes _ _ _ _ _ _ (T0.setTop (mkF m 90 #[.val (.ref a1), .val (.int (3 : Int32)), .val (.ref a3), .val (.int (2 : Int32)), .val (.int (0 : Int32)), .val (.int (45 : Int32)), .val (.int ((3 : Int32) - (2 : Int32))), .val (.int ((0 : Int32) + (1 : Int32))), .val (.int (((0 : Int32) + (1 : Int32)) + (1 : Int32))), .val (.int (((((0 : Int32) + (1 : Int32)) + (1 : Int32)) + (2 : Int32)) - (1 : Int32))), .val (.int (1 : Int32))] [(.int (1 : Int32)), (.ref a3), (.int x2)]))
        refine own_baload X0 hx hZ e0 f1 ⟨by decide, by decide⟩ (v := (.int (62 : Int32))) rfl (hb hby d19_90) ?_
        by_cases hc91_4 : x2 = (62 : Int32)
        ·
          exact absurd ⟨hc27_3, hc91_4⟩ hpa1
        ·
          refine own_icmpYes X0 hx (pc' := 103) (hb hby d19_91) (feq (hc91_4 : ¬ (x2 = (62 : Int32)))).2 (by decide) (by decide) ?_
          refine own_iload X0 hx (hb hby d19_103) rfl ?_
          refine own_iload X0 hx (hb hby d19_105) rfl ?_
          refine own_icmpYes X0 hx (pc' := 113) (hb hby d19_107) (feq (by decide : ¬ ((((0 : Int32) + (1 : Int32)) + (1 : Int32)) = (((((0 : Int32) + (1 : Int32)) + (1 : Int32)) + (2 : Int32)) - (1 : Int32))))).2 (by decide) (by decide) ?_
          refine own_iinc X0 hx (Ls' := #[.val (.ref a1), .val (.int (3 : Int32)), .val (.ref a3), .val (.int (2 : Int32)), .val (.int (0 : Int32)), .val (.int (45 : Int32)), .val (.int ((3 : Int32) - (2 : Int32))), .val (.int (((0 : Int32) + (1 : Int32)) + (1 : Int32))), .val (.int (((0 : Int32) + (1 : Int32)) + (1 : Int32))), .val (.int (((((0 : Int32) + (1 : Int32)) + (1 : Int32)) + (2 : Int32)) - (1 : Int32))), .val (.int (1 : Int32))]) (hb hby d19_113) rfl rfl ?_
          refine own_goto X0 hx (pc' := 14) (hb hby d19_116) (by decide) (by decide) ?_
          refine own_iload X0 hx (hb hby d19_14) rfl ?_
          refine own_iload X0 hx (hb hby d19_16) rfl ?_
          refine own_icmpYes X0 hx (pc' := 119) (hb hby d19_18) (tlt (by decide : ((3 : Int32) - (2 : Int32)) < (((0 : Int32) + (1 : Int32)) + (1 : Int32)))).2.2.1 (by decide) (by decide) ?_
          refine own_iconst X0 hx (v := (-1 : Int32)) (hb hby d19_119) rfl ?_
          show Goes _ _ _ _ _ _ (T0.setTop (mkF m 120 #[.val (.ref a1), .val (.int (3 : Int32)), .val (.ref a3), .val (.int (2 : Int32)), .val (.int (0 : Int32)), .val (.int (45 : Int32)), .val (.int ((3 : Int32) - (2 : Int32))), .val (.int (((0 : Int32) + (1 : Int32)) + (1 : Int32))), .val (.int (((0 : Int32) + (1 : Int32)) + (1 : Int32))), .val (.int (((((0 : Int32) + (1 : Int32)) + (1 : Int32)) + (2 : Int32)) - (1 : Int32))), .val (.int (1 : Int32))] [(.int (-1 : Int32))]))
          exact own_retI X0 hx N0 hlk (by decide) (by decide) hret (hb hby d19_120) (by rw [e0]; exact ⟨rfl, rfl⟩)
      ·
        refine own_icmpNo X0 hx (hb hby d19_27) (feq (hc27_3 : ¬ (x1 = (45 : Int32)))).1 ?_
        refine own_iinc X0 hx (Ls' := #[.val (.ref a1), .val (.int (3 : Int32)), .val (.ref a3), .val (.int (2 : Int32)), .val (.int (0 : Int32)), .val (.int (45 : Int32)), .val (.int ((3 : Int32) - (2 : Int32))), .val (.int (((0 : Int32) + (1 : Int32)) + (1 : Int32))), .val (.int ((0 : Int32) + (1 : Int32))), .val (.int ((((0 : Int32) + (1 : Int32)) + (2 : Int32)) - (1 : Int32))), .val (.int (1 : Int32))]) (hb hby d19_30) rfl rfl ?_
        refine own_iload X0 hx (hb hby d19_33) rfl ?_
        refine own_iload X0 hx (hb hby d19_35) rfl ?_
        refine own_icmpYes X0 hx (pc' := 52) (hb hby d19_37) (tlt (by decide : ((3 : Int32) - (2 : Int32)) < (((0 : Int32) + (1 : Int32)) + (1 : Int32)))).2.2.1 (by decide) (by decide) ?_
        refine own_iload X0 hx (hb hby d19_52) rfl ?_
        refine own_iload X0 hx (hb hby d19_54) rfl ?_
        refine own_icmpYes X0 hx (pc' := 113) (hb hby d19_56) (tlt (by decide : ((3 : Int32) - (2 : Int32)) < (((0 : Int32) + (1 : Int32)) + (1 : Int32)))).2.2.1 (by decide) (by decide) ?_
        refine own_iinc X0 hx (Ls' := #[.val (.ref a1), .val (.int (3 : Int32)), .val (.ref a3), .val (.int (2 : Int32)), .val (.int (0 : Int32)), .val (.int (45 : Int32)), .val (.int ((3 : Int32) - (2 : Int32))), .val (.int ((((0 : Int32) + (1 : Int32)) + (1 : Int32)) + (1 : Int32))), .val (.int ((0 : Int32) + (1 : Int32))), .val (.int ((((0 : Int32) + (1 : Int32)) + (2 : Int32)) - (1 : Int32))), .val (.int (1 : Int32))]) (hb hby d19_113) rfl rfl ?_
        refine own_goto X0 hx (pc' := 14) (hb hby d19_116) (by decide) (by decide) ?_
        refine own_iload X0 hx (hb hby d19_14) rfl ?_
        refine own_iload X0 hx (hb hby d19_16) rfl ?_
        refine own_icmpYes X0 hx (pc' := 119) (hb hby d19_18) (tlt (by decide : ((3 : Int32) - (2 : Int32)) < ((((0 : Int32) + (1 : Int32)) + (1 : Int32)) + (1 : Int32)))).2.2.1 (by decide) (by decide) ?_
        refine own_iconst X0 hx (v := (-1 : Int32)) (hb hby d19_119) rfl ?_
        show Goes _ _ _ _ _ _ (T0.setTop (mkF m 120 #[.val (.ref a1), .val (.int (3 : Int32)), .val (.ref a3), .val (.int (2 : Int32)), .val (.int (0 : Int32)), .val (.int (45 : Int32)), .val (.int ((3 : Int32) - (2 : Int32))), .val (.int ((((0 : Int32) + (1 : Int32)) + (1 : Int32)) + (1 : Int32))), .val (.int ((0 : Int32) + (1 : Int32))), .val (.int ((((0 : Int32) + (1 : Int32)) + (2 : Int32)) - (1 : Int32))), .val (.int (1 : Int32))] [(.int (-1 : Int32))]))
        exact own_retI X0 hx N0 hlk (by decide) (by decide) hret (hb hby d19_120) (by rw [e0]; exact ⟨rfl, rfl⟩)
  ·
    refine own_icmpNo X0 hx (hb hby d19_27) (feq (hc27_1 : ¬ (x0 = (45 : Int32)))).1 ?_
    refine own_iinc X0 hx (Ls' := #[.val (.ref a1), .val (.int (3 : Int32)), .val (.ref a3), .val (.int (2 : Int32)), .val (.int (0 : Int32)), .val (.int (45 : Int32)), .val (.int ((3 : Int32) - (2 : Int32))), .val (.int ((0 : Int32) + (1 : Int32))), .unset, .unset, .unset]) (hb hby d19_30) rfl rfl ?_
    refine own_iload X0 hx (hb hby d19_33) rfl ?_
    refine own_iload X0 hx (hb hby d19_35) rfl ?_
    refine own_icmpNo X0 hx (hb hby d19_37) (flt (by decide : ¬ (((3 : Int32) - (2 : Int32)) < ((0 : Int32) + (1 : Int32))))).2.2.1 ?_
    refine own_aloadN X0 hx (hb hby d19_40) rfl rfl ?_
    refine own_iload X0 hx (hb hby d19_41) rfl ?_
    refine own_baload X0 hx hZ e0 f0 ⟨by decide, by decide⟩ (v := (.int x1)) rfl (hb hby d19_43) ?_
    refine own_iload X0 hx (hb hby d19_44) rfl ?_
    by_cases hc46_5 : x1 = (45 : Int32)
    ·
      refine own_icmpYes X0 hx (pc' := 52) (hb hby d19_46) (teq (hc46_5 : x1 = (45 : Int32))).1 (by decide) (by decide) ?_
      refine own_iload X0 hx (hb hby d19_52) rfl ?_
      refine own_iload X0 hx (hb hby d19_54) rfl ?_
      refine own_icmpNo X0 hx (hb hby d19_56) (flt (by decide : ¬ (((3 : Int32) - (2 : Int32)) < ((0 : Int32) + (1 : Int32))))).2.2.1 ?_
      refine own_iload X0 hx (hb hby d19_59) rfl ?_
      refine own_iconst X0 hx (v := (1 : Int32)) (hb hby d19_61) rfl ?_
      refine own_iadd X0 hx (hb hby d19_62) ?_
      refine own_istore X0 hx (Ls' := #[.val (.ref a1), .val (.int (3 : Int32)), .val (.ref a3), .val (.int (2 : Int32)), .val (.int (0 : Int32)), .val (.int (45 : Int32)), .val (.int ((3 : Int32) - (2 : Int32))), .val (.int ((0 : Int32) + (1 : Int32))), .val (.int (((0 : Int32) + (1 : Int32)) + (1 : Int32))), .unset, .unset]) (hb hby d19_63) rfl ?_
      refine own_iload X0 hx (hb hby d19_65) rfl ?_
      show Goes _ _ _ _ _ _ (T0.setTop (mkF m 67 #[.val (.ref a1), .val (.int (3 : Int32)), .val (.ref a3), .val (.int (2 : Int32)), .val (.int (0 : Int32)), .val (.int (45 : Int32)), .val (.int ((3 : Int32) - (2 : Int32))), .val (.int ((0 : Int32) + (1 : Int32))), .val (.int (((0 : Int32) + (1 : Int32)) + (1 : Int32))), .unset, .unset] [(.int (((0 : Int32) + (1 : Int32)) + (1 : Int32)))]))
      refine own_iloadN X0 hx (hb hby d19_67) rfl ?_
      refine own_iadd X0 hx (hb hby d19_68) ?_
      refine own_iconst X0 hx (v := (1 : Int32)) (hb hby d19_69) rfl ?_
      refine own_isub X0 hx (hb hby d19_70) ?_
      refine own_istore X0 hx (Ls' := #[.val (.ref a1), .val (.int (3 : Int32)), .val (.ref a3), .val (.int (2 : Int32)), .val (.int (0 : Int32)), .val (.int (45 : Int32)), .val (.int ((3 : Int32) - (2 : Int32))), .val (.int ((0 : Int32) + (1 : Int32))), .val (.int (((0 : Int32) + (1 : Int32)) + (1 : Int32))), .val (.int (((((0 : Int32) + (1 : Int32)) + (1 : Int32)) + (2 : Int32)) - (1 : Int32))), .unset]) (hb hby d19_71) rfl ?_
      refine own_iconst X0 hx (v := (1 : Int32)) (hb hby d19_73) rfl ?_
      refine own_istore X0 hx (Ls' := #[.val (.ref a1), .val (.int (3 : Int32)), .val (.ref a3), .val (.int (2 : Int32)), .val (.int (0 : Int32)), .val (.int (45 : Int32)), .val (.int ((3 : Int32) - (2 : Int32))), .val (.int ((0 : Int32) + (1 : Int32))), .val (.int (((0 : Int32) + (1 : Int32)) + (1 : Int32))), .val (.int (((((0 : Int32) + (1 : Int32)) + (1 : Int32)) + (2 : Int32)) - (1 : Int32))), .val (.int (1 : Int32))]) (hb hby d19_74) rfl ?_
      refine own_iload X0 hx (hb hby d19_76) rfl ?_
      refine own_iload X0 hx (hb hby d19_78) rfl ?_
      refine own_icmpNo X0 hx (hb hby d19_80) (tlt (by decide : (((0 : Int32) + (1 : Int32)) + (1 : Int32)) < (((((0 : Int32) + (1 : Int32)) + (1 : Int32)) + (2 : Int32)) - (1 : Int32)))).2.1 ?_
      refine own_aloadN X0 hx (hb hby d19_83) rfl rfl ?_
      refine own_iload X0 hx (hb hby d19_84) rfl ?_
      refine own_baload X0 hx hZ e0 f0 ⟨by decide, by decide⟩ (v := (.int x2)) rfl (hb hby d19_86) ?_
      refine own_aloadN X0 hx (hb hby d19_87) rfl rfl ?_
      refine own_iload X0 hx (hb hby d19_88) rfl ?_
      show Goes _ _ _ _ _ _ (T0.setTop (mkF m 90 #[.val (.ref a1), .val (.int (3 : Int32)), .val (.ref a3), .val (.int (2 : Int32)), .val (.int (0 : Int32)), .val (.int (45 : Int32)), .val (.int ((3 : Int32) - (2 : Int32))), .val (.int ((0 : Int32) + (1 : Int32))), .val (.int (((0 : Int32) + (1 : Int32)) + (1 : Int32))), .val (.int (((((0 : Int32) + (1 : Int32)) + (1 : Int32)) + (2 : Int32)) - (1 : Int32))), .val (.int (1 : Int32))] [(.int (1 : Int32)), (.ref a3), (.int x2)]))
      refine own_baload X0 hx hZ e0 f1 ⟨by decide, by decide⟩ (v := (.int (62 : Int32))) rfl (hb hby d19_90) ?_
      by_cases hc91_6 : x2 = (62 : Int32)
      ·
        exact absurd ⟨hc46_5, hc91_6⟩ hpa1
      ·
        refine own_icmpYes X0 hx (pc' := 103) (hb hby d19_91) (feq (hc91_6 : ¬ (x2 = (62 : Int32)))).2 (by decide) (by decide) ?_
        refine own_iload X0 hx (hb hby d19_103) rfl ?_
        refine own_iload X0 hx (hb hby d19_105) rfl ?_
        refine own_icmpYes X0 hx (pc' := 113) (hb hby d19_107) (feq (by decide : ¬ ((((0 : Int32) + (1 : Int32)) + (1 : Int32)) = (((((0 : Int32) + (1 : Int32)) + (1 : Int32)) + (2 : Int32)) - (1 : Int32))))).2 (by decide) (by decide) ?_
        refine own_iinc X0 hx (Ls' := #[.val (.ref a1), .val (.int (3 : Int32)), .val (.ref a3), .val (.int (2 : Int32)), .val (.int (0 : Int32)), .val (.int (45 : Int32)), .val (.int ((3 : Int32) - (2 : Int32))), .val (.int (((0 : Int32) + (1 : Int32)) + (1 : Int32))), .val (.int (((0 : Int32) + (1 : Int32)) + (1 : Int32))), .val (.int (((((0 : Int32) + (1 : Int32)) + (1 : Int32)) + (2 : Int32)) - (1 : Int32))), .val (.int (1 : Int32))]) (hb hby d19_113) rfl rfl ?_
        refine own_goto X0 hx (pc' := 14) (hb hby d19_116) (by decide) (by decide) ?_
        refine own_iload X0 hx (hb hby d19_14) rfl ?_
        refine own_iload X0 hx (hb hby d19_16) rfl ?_
        refine own_icmpYes X0 hx (pc' := 119) (hb hby d19_18) (tlt (by decide : ((3 : Int32) - (2 : Int32)) < (((0 : Int32) + (1 : Int32)) + (1 : Int32)))).2.2.1 (by decide) (by decide) ?_
        refine own_iconst X0 hx (v := (-1 : Int32)) (hb hby d19_119) rfl ?_
        show Goes _ _ _ _ _ _ (T0.setTop (mkF m 120 #[.val (.ref a1), .val (.int (3 : Int32)), .val (.ref a3), .val (.int (2 : Int32)), .val (.int (0 : Int32)), .val (.int (45 : Int32)), .val (.int ((3 : Int32) - (2 : Int32))), .val (.int (((0 : Int32) + (1 : Int32)) + (1 : Int32))), .val (.int (((0 : Int32) + (1 : Int32)) + (1 : Int32))), .val (.int (((((0 : Int32) + (1 : Int32)) + (1 : Int32)) + (2 : Int32)) - (1 : Int32))), .val (.int (1 : Int32))] [(.int (-1 : Int32))]))
        exact own_retI X0 hx N0 hlk (by decide) (by decide) hret (hb hby d19_120) (by rw [e0]; exact ⟨rfl, rfl⟩)
    ·
      refine own_icmpNo X0 hx (hb hby d19_46) (feq (hc46_5 : ¬ (x1 = (45 : Int32)))).1 ?_
      refine own_goto X0 hx (pc' := 30) (hb hby d19_49) (by decide) (by decide) ?_
      refine own_iinc X0 hx (Ls' := #[.val (.ref a1), .val (.int (3 : Int32)), .val (.ref a3), .val (.int (2 : Int32)), .val (.int (0 : Int32)), .val (.int (45 : Int32)), .val (.int ((3 : Int32) - (2 : Int32))), .val (.int (((0 : Int32) + (1 : Int32)) + (1 : Int32))), .unset, .unset, .unset]) (hb hby d19_30) rfl rfl ?_
      refine own_iload X0 hx (hb hby d19_33) rfl ?_
      refine own_iload X0 hx (hb hby d19_35) rfl ?_
      refine own_icmpYes X0 hx (pc' := 52) (hb hby d19_37) (tlt (by decide : ((3 : Int32) - (2 : Int32)) < (((0 : Int32) + (1 : Int32)) + (1 : Int32)))).2.2.1 (by decide) (by decide) ?_
      refine own_iload X0 hx (hb hby d19_52) rfl ?_
      refine own_iload X0 hx (hb hby d19_54) rfl ?_
      refine own_icmpYes X0 hx (pc' := 113) (hb hby d19_56) (tlt (by decide : ((3 : Int32) - (2 : Int32)) < (((0 : Int32) + (1 : Int32)) + (1 : Int32)))).2.2.1 (by decide) (by decide) ?_
      refine own_iinc X0 hx (Ls' := #[.val (.ref a1), .val (.int (3 : Int32)), .val (.ref a3), .val (.int (2 : Int32)), .val (.int (0 : Int32)), .val (.int (45 : Int32)), .val (.int ((3 : Int32) - (2 : Int32))), .val (.int ((((0 : Int32) + (1 : Int32)) + (1 : Int32)) + (1 : Int32))), .unset, .unset, .unset]) (hb hby d19_113) rfl rfl ?_
      refine own_goto X0 hx (pc' := 14) (hb hby d19_116) (by decide) (by decide) ?_
      refine own_iload X0 hx (hb hby d19_14) rfl ?_
      refine own_iload X0 hx (hb hby d19_16) rfl ?_
      refine own_icmpYes X0 hx (pc' := 119) (hb hby d19_18) (tlt (by decide : ((3 : Int32) - (2 : Int32)) < ((((0 : Int32) + (1 : Int32)) + (1 : Int32)) + (1 : Int32)))).2.2.1 (by decide) (by decide) ?_
      refine own_iconst X0 hx (v := (-1 : Int32)) (hb hby d19_119) rfl ?_
      show Goes _ _ _ _ _ _ (T0.setTop (mkF m 120 #[.val (.ref a1), .val (.int (3 : Int32)), .val (.ref a3), .val (.int (2 : Int32)), .val (.int (0 : Int32)), .val (.int (45 : Int32)), .val (.int ((3 : Int32) - (2 : Int32))), .val (.int ((((0 : Int32) + (1 : Int32)) + (1 : Int32)) + (1 : Int32))), .unset, .unset, .unset] [(.int (-1 : Int32))]))
      exact own_retI X0 hx N0 hlk (by decide) (by decide) hret (hb hby d19_120) (by rw [e0]; exact ⟨rfl, rfl⟩)
def Q183a (Z : State) (a1 : Addr) (a2 : Addr) (k : ClassId) (k2 : ClassId) (x0 : Int32) (x1 : Int32) (x2 : Int32) (h0 : Heap) (n0 : Nat) (v : Option Value) (h : Heap) : Prop :=
  (v = some (.int (-1 : Int32)) ∧ h = h0)
theorem ef_183a (m : MethodId) (a1 : Addr) (a2 : Addr) : entryFrame m #[(.ref a1), (.ref a2)] 2 = mkF m 0 #[.val (.ref a1), .val (.ref a2)] [] := by first | (simp [entryFrame, mkF, argsToLocals, Value.category]; done) | rfl
set_option maxRecDepth 65536 in
set_option maxHeartbeats 40000000 in
theorem rm183a (l : Launch) (Z : State) (a0 : Array Value) (hw : ∀ d ∈ tables_1, d.before a0 Z = true) (ws : List Jvm.Cond) (a1 : Addr) (a2 : Addr) (k : ClassId) (k2 : ClassId) (x0 : Int32) (x1 : Int32) (x2 : Int32) (h0 : Heap) (n0 : Nat) (O0 : Old Z n0 h0) (f0 : Arv Z h0 a1 k .byte (3 : Int32) [(.int x0), (.int x1), (.int x2)] (.int (0 : Int32))) (f1 : Arv Z h0 a2 k2 .byte (2 : Int32) [(.int (45 : Int32)), (.int (62 : Int32))] (.int (0 : Int32))) (hpa0 : ¬ (x0 = (45 : Int32) ∧ x1 = (62 : Int32))) (hpa1 : ¬ (x1 = (45 : Int32) ∧ x2 = (62 : Int32))) :
    Meets l (⟨"java/lang/StringLatin1", "indexOf", "([B[B)I"⟩ : MethodName) jdk_43_method_24_code 2 (some .int) ws ({ frames := 1, cells := 0, slots := 0, locals := 22 } : Room) ({ frames := 1, cells := 0, slots := 0, locals := 22 } : Room).cells ({ frames := 1, cells := 0, slots := 0, locals := 22 } : Room).slots Z #[(.ref a1), (.ref a2)] h0 n0 (Q183a Z a1 a2 k k2 x0 x1 x2 h0 n0) := by
  refine Meets.of (F := fun m => mkF m 0 #[.val (.ref a1), .val (.ref a2)] []) (plainFor_of_name pn_2) (fun m => ef_183a m a1 a2) ?_
  intro p e s m below meth c T0 hx hby hml hown0 hnm hret hlk hZ X0 e0
  have hown : s.vm.findClass "java/lang/StringLatin1" = some m.cls := hown0
  have N0 := Fr.nil n0
  show Goes _ _ _ _ _ _ (T0.setTop (mkF m 0 #[.val (.ref a1), .val (.ref a2)] []))
  refine own_aloadN X0 hx (hb hby d18_0) rfl rfl ?_
  refine own_alen X0 hx hZ e0 f1 (hb hby d18_1) ?_
  refine own_ifYes X0 hx (pc' := 7) (hb hby d18_2) ((if0 _ _).trans (feq (by decide : ¬ ((2 : Int32) = (0 : Int32)))).2) (by decide) (by decide) ?_
  refine own_aloadN X0 hx (hb hby d18_7) rfl rfl ?_
  refine own_alen X0 hx hZ e0 f0 (hb hby d18_8) ?_
  refine own_ifYes X0 hx (pc' := 14) (hb hby d18_9) ((if0 _ _).trans (feq (by decide : ¬ ((3 : Int32) = (0 : Int32)))).2) (by decide) (by decide) ?_
  refine own_aloadN X0 hx (hb hby d18_14) rfl rfl ?_
  refine own_aloadN X0 hx (hb hby d18_15) rfl rfl ?_
  refine own_alen X0 hx hZ e0 f0 (hb hby d18_16) ?_
  refine own_aloadN X0 hx (hb hby d18_17) rfl rfl ?_
  refine own_aloadN X0 hx (hb hby d18_18) rfl rfl ?_
  show Goes _ _ _ _ _ _ (T0.setTop (mkF m 19 #[.val (.ref a1), .val (.ref a2)] [(.ref a2), (.ref a2), (.int (3 : Int32)), (.ref a1)]))
  refine own_alen X0 hx hZ e0 f1 (hb hby d18_19) ?_
  refine own_iconst X0 hx (v := (0 : Int32)) (hb hby d18_20) rfl ?_
  refine own_callS X0 hx hZ hown (y := (⟨"java/lang/StringLatin1", "indexOf", "([BI[BII)I"⟩ : MethodName)) (hw _ (List.mem_of_getElem? (i := 92) rfl)) (hw _ (List.mem_of_getElem? (i := 93) rfl)) (hw _ (List.mem_of_getElem? (i := 90) rfl)) (hw _ (List.mem_of_getElem? (i := 94) rfl)) (by decide) (W := 0) (by decide) (by decide) N0 e0 (by rw [hml]; rfl) (argsL := [(.ref a1), (.int (3 : Int32)), (.ref a2), (.int (2 : Int32)), (.int (0 : Int32))]) (rest := []) (lenOf pd_1 rfl) (Nat.le_of_eq rfl) (by decide) (by decide) (rm193a l Z a0 hw [] a1 a2 k k2 x0 x1 x2 h0 n0 O0 f0 f1 hpa0 hpa1) rfl (hb hby d18_21) ?_
  intro v1 T1 lc1 X1 N1 hQ1
  obtain ⟨rfl, e1⟩ := hQ1
  show Goes _ _ _ _ _ _ (T1.setTop (mkF m 24 #[.val (.ref a1), .val (.ref a2)] [(.int (-1 : Int32))]))
  exact own_retI X1 hx N1 hlk (by decide) (by decide) hret (hb hby d18_24) (by rw [e1]; exact ⟨rfl, rfl⟩)
def Q153a (Z : State) (a1 : Addr) (a2 : Addr) (t : Addr) (k : ClassId) (x0 : Int32) (x1 : Int32) (x2 : Int32) (t2 : Addr) (k2 : ClassId) (zc : Int32) (h0 : Heap) (n0 : Nat) (v : Option Value) (h : Heap) : Prop :=
  (v = some (.int (-1 : Int32)) ∧ h = h0)
theorem ef_153a (m : MethodId) (a1 : Addr) (a2 : Addr) : entryFrame m #[(.ref a1), (.ref a2)] 3 = mkF m 0 #[.val (.ref a1), .val (.ref a2), .unset] [] := by first | (simp [entryFrame, mkF, argsToLocals, Value.category]; done) | rfl
set_option maxRecDepth 65536 in
set_option maxHeartbeats 40000000 in
theorem rm153a (l : Launch) (Z : State) (a0 : Array Value) (hw : ∀ d ∈ tables_1, d.before a0 Z = true) (ws : List Jvm.Cond) (a1 : Addr) (a2 : Addr) (t : Addr) (k : ClassId) (x0 : Int32) (x1 : Int32) (x2 : Int32) (t2 : Addr) (k2 : ClassId) (zc : Int32) (h0 : Heap) (n0 : Nat) (O0 : Old Z n0 h0) (SF : Start Z zc) (f0 : Exa Z h0 a1 "java/lang/String") (f1 : Fld Z h0 a1 "java/lang/String" "value" "[B" (.ref t)) (f2 : Fld Z h0 a1 "java/lang/String" "coder" "B" (.int (0 : Int32))) (f3 : Arv Z h0 t k .byte (3 : Int32) [(.int x0), (.int x1), (.int x2)] (.int (0 : Int32))) (f4 : Exa Z h0 a2 "java/lang/String") (f5 : Fld Z h0 a2 "java/lang/String" "value" "[B" (.ref t2)) (f6 : Fld Z h0 a2 "java/lang/String" "coder" "B" (.int (0 : Int32))) (f7 : Arv Z h0 t2 k2 .byte (2 : Int32) [(.int (45 : Int32)), (.int (62 : Int32))] (.int (0 : Int32))) (hpa0 : ¬ (x0 = (45 : Int32) ∧ x1 = (62 : Int32))) (hpa1 : ¬ (x1 = (45 : Int32) ∧ x2 = (62 : Int32))) :
    Meets l (⟨"java/lang/String", "indexOf", "(Ljava/lang/String;)I"⟩ : MethodName) jdk_42_method_84_code 3 (some .int) ws ({ frames := 2, cells := 0, slots := 0, locals := 35 } : Room) ({ frames := 2, cells := 0, slots := 0, locals := 35 } : Room).cells ({ frames := 2, cells := 0, slots := 0, locals := 35 } : Room).slots Z #[(.ref a1), (.ref a2)] h0 n0 (Q153a Z a1 a2 t k x0 x1 x2 t2 k2 zc h0 n0) := by
  refine Meets.of (F := fun m => mkF m 0 #[.val (.ref a1), .val (.ref a2), .unset] []) (plainFor_of_name pn_0) (fun m => ef_153a m a1 a2) ?_
  intro p e s m below meth c T0 hx hby hml hown0 hnm hret hlk hZ X0 e0
  have hown : s.vm.findClass "java/lang/String" = some m.cls := hown0
  have N0 := Fr.nil n0
  obtain ⟨z0, hzc, -⟩ := SF
  show Goes _ _ _ _ _ _ (T0.setTop (mkF m 0 #[.val (.ref a1), .val (.ref a2), .unset] []))
  refine own_aloadN X0 hx (hb hby d15_0) rfl rfl ?_
  refine own_virtual X0 hx hZ hown (y := (⟨"java/lang/String", "coder", "()B"⟩ : MethodName)) (z := (⟨"java/lang/String", "coder", "()B"⟩ : MethodName)) (hw _ (List.mem_of_getElem? (i := 78) rfl)) (hw _ (List.mem_of_getElem? (i := 79) rfl)) (notFace_of_selects (args := #[]) (mvT hZ (hw _ (List.mem_of_getElem? (i := 81) rfl)))) (hw _ (List.mem_of_getElem? (i := 81) rfl)) (hw _ (List.mem_of_getElem? (i := 80) rfl)) (hw _ (List.mem_of_getElem? (i := 8) rfl)) (hw _ (List.mem_of_getElem? (i := 82) rfl)) (a := a1) f0 (by decide) (W := 0) (by decide) (by decide) N0 e0 (by rw [hml]; rfl) (argsL := []) (rest := []) (lenOf pd_0 rfl) (Nat.le_of_eq rfl) (by decide) (by decide) (rm16 l Z a0 hw [] a1 zc h0 n0 O0 ⟨z0, hzc, trivial⟩ f2) rfl (hb hby d15_1) ?_
  intro v1 T1 lc1 X1 N1 hQ1
  obtain ⟨rfl, e1⟩ := hQ1
  refine own_istoreN X1 hx (Ls' := #[.val (.ref a1), .val (.ref a2), .val (.int (0 : Int32))]) (hb hby d15_4) rfl ?_
  refine own_iloadN X1 hx (hb hby d15_5) rfl ?_
  refine own_aloadN X1 hx (hb hby d15_6) rfl rfl ?_
  refine own_virtual X1 hx hZ hown (y := (⟨"java/lang/String", "coder", "()B"⟩ : MethodName)) (z := (⟨"java/lang/String", "coder", "()B"⟩ : MethodName)) (hw _ (List.mem_of_getElem? (i := 78) rfl)) (hw _ (List.mem_of_getElem? (i := 79) rfl)) (notFace_of_selects (args := #[]) (mvT hZ (hw _ (List.mem_of_getElem? (i := 81) rfl)))) (hw _ (List.mem_of_getElem? (i := 81) rfl)) (hw _ (List.mem_of_getElem? (i := 80) rfl)) (hw _ (List.mem_of_getElem? (i := 8) rfl)) (hw _ (List.mem_of_getElem? (i := 82) rfl)) (a := a2) f4 (by decide) (W := 1) (by decide) (by decide) N1 e1 (by rw [hml]; rfl) (argsL := []) (rest := [(.int (0 : Int32))]) (lenOf pd_0 rfl) (Nat.le_of_eq rfl) (by decide) (by decide) (rm16 l Z a0 hw [] a2 zc h0 n0 O0 ⟨z0, hzc, trivial⟩ f6) rfl (hb hby d15_7) ?_
  intro v2 T2 lc2 X2 N2 hQ2
  obtain ⟨rfl, e2⟩ := hQ2
  refine own_icmpNo X2 hx (hb hby d15_10) (teq (by decide : (0 : Int32) = (0 : Int32))).2 ?_
  refine own_aloadN X2 hx (hb hby d15_13) rfl rfl ?_
  refine own_virtual X2 hx hZ hown (y := (⟨"java/lang/String", "isLatin1", "()Z"⟩ : MethodName)) (z := (⟨"java/lang/String", "isLatin1", "()Z"⟩ : MethodName)) (hw _ (List.mem_of_getElem? (i := 83) rfl)) (hw _ (List.mem_of_getElem? (i := 84) rfl)) (notFace_of_selects (args := #[]) (mvT hZ (hw _ (List.mem_of_getElem? (i := 86) rfl)))) (hw _ (List.mem_of_getElem? (i := 86) rfl)) (hw _ (List.mem_of_getElem? (i := 85) rfl)) (hw _ (List.mem_of_getElem? (i := 8) rfl)) (hw _ (List.mem_of_getElem? (i := 87) rfl)) (a := a1) f0 (by decide) (W := 0) (by decide) (by decide) N2 e2 (by rw [hml]; rfl) (argsL := []) (rest := []) (lenOf pd_2 rfl) (Nat.le_of_eq rfl) (by decide) (by decide) (rm17 l Z a0 hw [] a1 zc h0 n0 O0 ⟨z0, hzc, trivial⟩ f2) rfl (hb hby d15_14) ?_
  intro v3 T3 lc3 X3 N3 hQ3
  obtain ⟨rfl, e3⟩ := hQ3
  refine own_ifNo X3 hx (hb hby d15_17) ((if0 _ _).trans (feq (by decide : ¬ ((1 : Int32) = (0 : Int32)))).1) ?_
  refine own_aloadN X3 hx (hb hby d15_20) rfl rfl ?_
  refine own_getF X3 hx hZ hown (host := "") (Or.inl (hw _ (List.mem_of_getElem? (i := 25) rfl))) Via.refl e3 f1 (hb hby d15_21) (fun T4 X4 e4 => ?_)
  refine own_aloadN X4 hx (hb hby d15_24) rfl rfl ?_
  refine own_getF X4 hx hZ hown (host := "") (Or.inl (hw _ (List.mem_of_getElem? (i := 25) rfl))) Via.refl e4 f5 (hb hby d15_25) (fun T5 X5 e5 => ?_)
  refine own_callS X5 hx hZ hown (y := (⟨"java/lang/StringLatin1", "indexOf", "([B[B)I"⟩ : MethodName)) (hw _ (List.mem_of_getElem? (i := 88) rfl)) (hw _ (List.mem_of_getElem? (i := 89) rfl)) (hw _ (List.mem_of_getElem? (i := 90) rfl)) (hw _ (List.mem_of_getElem? (i := 91) rfl)) (by decide) (W := 0) (by decide) (by decide) N3 e5 (by rw [hml]; rfl) (argsL := [(.ref t), (.ref t2)]) (rest := []) (lenOf pd_3 rfl) (Nat.le_of_eq rfl) (by decide) (by decide) (rm183a l Z a0 hw [] t t2 k k2 x0 x1 x2 h0 n0 O0 f3 f7 hpa0 hpa1) rfl (hb hby d15_28) ?_
  intro v6 T6 lc6 X6 N6 hQ6
  obtain ⟨rfl, e6⟩ := hQ6
  refine own_goto X6 hx (pc' := 45) (hb hby d15_31) (by decide) (by decide) ?_
  show Goes _ _ _ _ _ _ (T6.setTop (mkF m 45 #[.val (.ref a1), .val (.ref a2), .val (.int (0 : Int32))] [(.int (-1 : Int32))]))
  exact own_retI X6 hx N6 hlk (by decide) (by decide) hret (hb hby d15_45) (by rw [e6]; exact ⟨rfl, rfl⟩)
def Q133a (Z : State) (a1 : Addr) (a2 : Addr) (t : Addr) (k : ClassId) (x0 : Int32) (x1 : Int32) (x2 : Int32) (t2 : Addr) (k2 : ClassId) (zc : Int32) (h0 : Heap) (n0 : Nat) (v : Option Value) (h : Heap) : Prop :=
  (v = some (.int (0 : Int32)) ∧ h = h0)
theorem ef_133a (m : MethodId) (a1 : Addr) (a2 : Addr) : entryFrame m #[(.ref a1), (.ref a2)] 2 = mkF m 0 #[.val (.ref a1), .val (.ref a2)] [] := by first | (simp [entryFrame, mkF, argsToLocals, Value.category]; done) | rfl
set_option maxRecDepth 65536 in
set_option maxHeartbeats 40000000 in
theorem rm133a (l : Launch) (Z : State) (a0 : Array Value) (hw : ∀ d ∈ tables_1, d.before a0 Z = true) (ws : List Jvm.Cond) (a1 : Addr) (a2 : Addr) (t : Addr) (k : ClassId) (x0 : Int32) (x1 : Int32) (x2 : Int32) (t2 : Addr) (k2 : ClassId) (zc : Int32) (h0 : Heap) (n0 : Nat) (O0 : Old Z n0 h0) (SF : Start Z zc) (f0 : Exa Z h0 a1 "java/lang/String") (f1 : Fld Z h0 a1 "java/lang/String" "value" "[B" (.ref t)) (f2 : Fld Z h0 a1 "java/lang/String" "coder" "B" (.int (0 : Int32))) (f3 : Arv Z h0 t k .byte (3 : Int32) [(.int x0), (.int x1), (.int x2)] (.int (0 : Int32))) (f4 : Exa Z h0 a2 "java/lang/String") (f5 : Fld Z h0 a2 "java/lang/String" "value" "[B" (.ref t2)) (f6 : Fld Z h0 a2 "java/lang/String" "coder" "B" (.int (0 : Int32))) (f7 : Arv Z h0 t2 k2 .byte (2 : Int32) [(.int (45 : Int32)), (.int (62 : Int32))] (.int (0 : Int32))) (hpa0 : ¬ (x0 = (45 : Int32) ∧ x1 = (62 : Int32))) (hpa1 : ¬ (x1 = (45 : Int32) ∧ x2 = (62 : Int32))) :
    Meets l (⟨"java/lang/String", "contains", "(Ljava/lang/CharSequence;)Z"⟩ : MethodName) jdk_42_method_97_code 2 (some .boolean) ws ({ frames := 3, cells := 0, slots := 0, locals := 49 } : Room) ({ frames := 3, cells := 0, slots := 0, locals := 49 } : Room).cells ({ frames := 3, cells := 0, slots := 0, locals := 49 } : Room).slots Z #[(.ref a1), (.ref a2)] h0 n0 (Q133a Z a1 a2 t k x0 x1 x2 t2 k2 zc h0 n0) := by
  refine Meets.of (F := fun m => mkF m 0 #[.val (.ref a1), .val (.ref a2)] []) (plainFor_of_name pn_0) (fun m => ef_133a m a1 a2) ?_
  intro p e s m below meth c T0 hx hby hml hown0 hnm hret hlk hZ X0 e0
  have hown : s.vm.findClass "java/lang/String" = some m.cls := hown0
  have N0 := Fr.nil n0
  obtain ⟨z0, hzc, -⟩ := SF
  show Goes _ _ _ _ _ _ (T0.setTop (mkF m 0 #[.val (.ref a1), .val (.ref a2)] []))
  refine own_aloadN X0 hx (hb hby d13_0) rfl rfl ?_
  refine own_aloadN X0 hx (hb hby d13_1) rfl rfl ?_
  refine own_iface X0 hx hZ hown (y := (⟨"java/lang/CharSequence", "toString", "()Ljava/lang/String;"⟩ : MethodName)) (z := (⟨"java/lang/String", "toString", "()Ljava/lang/String;"⟩ : MethodName)) (hw _ (List.mem_of_getElem? (i := 64) rfl)) (hw _ (List.mem_of_getElem? (i := 65) rfl)) (hw _ (List.mem_of_getElem? (i := 66) rfl)) (hw _ (List.mem_of_getElem? (i := 67) rfl)) (hw _ (List.mem_of_getElem? (i := 68) rfl)) (hw _ (List.mem_of_getElem? (i := 69) rfl)) (hw _ (List.mem_of_getElem? (i := 70) rfl)) (hw _ (List.mem_of_getElem? (i := 71) rfl)) (hw _ (List.mem_of_getElem? (i := 8) rfl)) (hw _ (List.mem_of_getElem? (i := 72) rfl)) (a := a2) f4 (by decide) (W := 1) (by decide) (by decide) N0 e0 (by rw [hml]; rfl) (argsL := []) (rest := [(.ref a1)]) (lenOf pd_4 rfl) (Nat.le_of_eq rfl) (by decide) (by decide) (rm14 l Z a0 hw [] a2 h0 n0 O0) rfl (hb hby d13_2) ?_
  intro v1 T1 lc1 X1 N1 hQ1
  obtain ⟨rfl, e1⟩ := hQ1
  refine own_virtual X1 hx hZ hown (y := (⟨"java/lang/String", "indexOf", "(Ljava/lang/String;)I"⟩ : MethodName)) (z := (⟨"java/lang/String", "indexOf", "(Ljava/lang/String;)I"⟩ : MethodName)) (hw _ (List.mem_of_getElem? (i := 73) rfl)) (hw _ (List.mem_of_getElem? (i := 74) rfl)) (notFace_of_selects (args := #[]) (mvT hZ (hw _ (List.mem_of_getElem? (i := 76) rfl)))) (hw _ (List.mem_of_getElem? (i := 76) rfl)) (hw _ (List.mem_of_getElem? (i := 75) rfl)) (hw _ (List.mem_of_getElem? (i := 8) rfl)) (hw _ (List.mem_of_getElem? (i := 77) rfl)) (a := a1) f0 (by decide) (W := 0) (by decide) (by decide) N1 e1 (by rw [hml]; rfl) (argsL := [(.ref a2)]) (rest := []) (lenOf pd_5 rfl) (Nat.le_of_eq rfl) (by decide) (by decide) (rm153a l Z a0 hw [] a1 a2 t k x0 x1 x2 t2 k2 zc h0 n0 O0 ⟨z0, hzc, trivial⟩ f0 f1 f2 f3 f4 f5 f6 f7 hpa0 hpa1) rfl (hb hby d13_7) ?_
  intro v2 T2 lc2 X2 N2 hQ2
  obtain ⟨rfl, e2⟩ := hQ2
  refine own_ifYes X2 hx (pc' := 17) (hb hby d13_10) ((if0 _ _).trans (tlt (by decide : (-1 : Int32) < (0 : Int32))).1) (by decide) (by decide) ?_
  refine own_iconst X2 hx (v := (0 : Int32)) (hb hby d13_17) rfl ?_
  show Goes _ _ _ _ _ _ (T2.setTop (mkF m 18 #[.val (.ref a1), .val (.ref a2)] [(.int (0 : Int32))]))
  exact own_retN X2 hx (t := .boolean) N2 hlk (by decide) (by decide) hret (by simp) (hb hby d13_18) (by rw [e2]; exact ⟨rfl, rfl⟩)
def Q193c (Z : State) (a1 : Addr) (a3 : Addr) (k : ClassId) (k2 : ClassId) (x0 : Int32) (x1 : Int32) (x2 : Int32) (h0 : Heap) (n0 : Nat) (v : Option Value) (h : Heap) : Prop :=
  (v = some (.int (-1 : Int32)) ∧ h = h0)
theorem ef_193c (m : MethodId) (a1 : Addr) (a3 : Addr) : entryFrame m #[(.ref a1), (.int (3 : Int32)), (.ref a3), (.int (2 : Int32)), (.int (0 : Int32))] 11 = mkF m 0 #[.val (.ref a1), .val (.int (3 : Int32)), .val (.ref a3), .val (.int (2 : Int32)), .val (.int (0 : Int32)), .unset, .unset, .unset, .unset, .unset, .unset] [] := by first | (simp [entryFrame, mkF, argsToLocals, Value.category]; done) | rfl
set_option maxRecDepth 65536 in
set_option maxHeartbeats 40000000 in
theorem rm193c (l : Launch) (Z : State) (a0 : Array Value) (hw : ∀ d ∈ tables_1, d.before a0 Z = true) (ws : List Jvm.Cond) (a1 : Addr) (a3 : Addr) (k : ClassId) (k2 : ClassId) (x0 : Int32) (x1 : Int32) (x2 : Int32) (h0 : Heap) (n0 : Nat) (O0 : Old Z n0 h0) (f0 : Arv Z h0 a1 k .byte (3 : Int32) [(.int x0), (.int x1), (.int x2)] (.int (0 : Int32))) (f1 : Arv Z h0 a3 k2 .byte (2 : Int32) [(.int (58 : Int32)), (.int (58 : Int32))] (.int (0 : Int32))) (hpc0 : ¬ (x0 = (58 : Int32) ∧ x1 = (58 : Int32))) (hpc1 : ¬ (x1 = (58 : Int32) ∧ x2 = (58 : Int32))) :
    Meets l (⟨"java/lang/StringLatin1", "indexOf", "([BI[BII)I"⟩ : MethodName) jdk_43_method_25_code 11 (some .int) ws ({ frames := 0, cells := 0, slots := 0, locals := 0 } : Room) ({ frames := 0, cells := 0, slots := 0, locals := 0 } : Room).cells ({ frames := 0, cells := 0, slots := 0, locals := 0 } : Room).slots Z #[(.ref a1), (.int (3 : Int32)), (.ref a3), (.int (2 : Int32)), (.int (0 : Int32))] h0 n0 (Q193c Z a1 a3 k k2 x0 x1 x2 h0 n0) := by
  refine Meets.of (F := fun m => mkF m 0 #[.val (.ref a1), .val (.int (3 : Int32)), .val (.ref a3), .val (.int (2 : Int32)), .val (.int (0 : Int32)), .unset, .unset, .unset, .unset, .unset, .unset] []) (plainFor_of_name pn_2) (fun m => ef_193c m a1 a3) ?_
  intro p e s m below meth c T0 hx hby hml hown0 hnm hret hlk hZ X0 e0
  have hown : s.vm.findClass "java/lang/StringLatin1" = some m.cls := hown0
  have N0 := Fr.nil n0
  show Goes _ _ _ _ _ _ (T0.setTop (mkF m 0 #[.val (.ref a1), .val (.int (3 : Int32)), .val (.ref a3), .val (.int (2 : Int32)), .val (.int (0 : Int32)), .unset, .unset, .unset, .unset, .unset, .unset] []))
  refine own_aloadN X0 hx (hb hby d19_0) rfl rfl ?_
  refine own_iconst X0 hx (v := (0 : Int32)) (hb hby d19_1) rfl ?_
  refine own_baload X0 hx hZ e0 f1 ⟨by decide, by decide⟩ (v := (.int (58 : Int32))) rfl (hb hby d19_2) ?_
  refine own_istore X0 hx (Ls' := #[.val (.ref a1), .val (.int (3 : Int32)), .val (.ref a3), .val (.int (2 : Int32)), .val (.int (0 : Int32)), .val (.int (58 : Int32)), .unset, .unset, .unset, .unset, .unset]) (hb hby d19_3) rfl ?_
  refine own_iloadN X0 hx (hb hby d19_5) rfl ?_
  refine own_iloadN X0 hx (hb hby d19_6) rfl ?_
  refine own_isub X0 hx (hb hby d19_7) ?_
  refine own_istore X0 hx (Ls' := #[.val (.ref a1), .val (.int (3 : Int32)), .val (.ref a3), .val (.int (2 : Int32)), .val (.int (0 : Int32)), .val (.int (58 : Int32)), .val (.int ((3 : Int32) - (2 : Int32))), .unset, .unset, .unset, .unset]) (hb hby d19_8) rfl ?_
  refine own_iload X0 hx (hb hby d19_10) rfl ?_
  refine own_istore X0 hx (Ls' := #[.val (.ref a1), .val (.int (3 : Int32)), .val (.ref a3), .val (.int (2 : Int32)), .val (.int (0 : Int32)), .val (.int (58 : Int32)), .val (.int ((3 : Int32) - (2 : Int32))), .val (.int (0 : Int32)), .unset, .unset, .unset]) (hb hby d19_12) rfl ?_
  refine own_iload X0 hx (hb hby d19_14) rfl ?_
  refine own_iload X0 hx (hb hby d19_16) rfl ?_
  refine own_icmpNo X0 hx (hb hby d19_18) (flt (by decide : ¬ (((3 : Int32) - (2 : Int32)) < (0 : Int32)))).2.2.1 ?_
  refine own_aloadN X0 hx (hb hby d19_21) rfl rfl ?_
  refine own_iload X0 hx (hb hby d19_22) rfl ?_
  refine own_baload X0 hx hZ e0 f0 ⟨by decide, by decide⟩ (v := (.int x0)) rfl (hb hby d19_24) ?_
  refine own_iload X0 hx (hb hby d19_25) rfl ?_
  by_cases hc27_1 : x0 = (58 : Int32)
  ·
    refine own_icmpYes X0 hx (pc' := 52) (hb hby d19_27) (teq (hc27_1 : x0 = (58 : Int32))).1 (by decide) (by decide) ?_
    refine own_iload X0 hx (hb hby d19_52) rfl ?_
    refine own_iload X0 hx (hb hby d19_54) rfl ?_
    refine own_icmpNo X0 hx (hb hby d19_56) (flt (by decide : ¬ (((3 : Int32) - (2 : Int32)) < (0 : Int32)))).2.2.1 ?_
    refine own_iload X0 hx (hb hby d19_59) rfl ?_
    refine own_iconst X0 hx (v := (1 : Int32)) (hb hby d19_61) rfl ?_
    refine own_iadd X0 hx (hb hby d19_62) ?_
    refine own_istore X0 hx (Ls' := #[.val (.ref a1), .val (.int (3 : Int32)), .val (.ref a3), .val (.int (2 : Int32)), .val (.int (0 : Int32)), .val (.int (58 : Int32)), .val (.int ((3 : Int32) - (2 : Int32))), .val (.int (0 : Int32)), .val (.int ((0 : Int32) + (1 : Int32))), .unset, .unset]) (hb hby d19_63) rfl ?_
    refine own_iload X0 hx (hb hby d19_65) rfl ?_
    show Goes _ _ _ _ _ _ (T0.setTop (mkF m 67 #[.val (.ref a1), .val (.int (3 : Int32)), .val (.ref a3), .val (.int (2 : Int32)), .val (.int (0 : Int32)), .val (.int (58 : Int32)), .val (.int ((3 : Int32) - (2 : Int32))), .val (.int (0 : Int32)), .val (.int ((0 : Int32) + (1 : Int32))), .unset, .unset] [(.int ((0 : Int32) + (1 : Int32)))]))
    refine own_iloadN X0 hx (hb hby d19_67) rfl ?_
    refine own_iadd X0 hx (hb hby d19_68) ?_
    refine own_iconst X0 hx (v := (1 : Int32)) (hb hby d19_69) rfl ?_
    refine own_isub X0 hx (hb hby d19_70) ?_
    refine own_istore X0 hx (Ls' := #[.val (.ref a1), .val (.int (3 : Int32)), .val (.ref a3), .val (.int (2 : Int32)), .val (.int (0 : Int32)), .val (.int (58 : Int32)), .val (.int ((3 : Int32) - (2 : Int32))), .val (.int (0 : Int32)), .val (.int ((0 : Int32) + (1 : Int32))), .val (.int ((((0 : Int32) + (1 : Int32)) + (2 : Int32)) - (1 : Int32))), .unset]) (hb hby d19_71) rfl ?_
    refine own_iconst X0 hx (v := (1 : Int32)) (hb hby d19_73) rfl ?_
    refine own_istore X0 hx (Ls' := #[.val (.ref a1), .val (.int (3 : Int32)), .val (.ref a3), .val (.int (2 : Int32)), .val (.int (0 : Int32)), .val (.int (58 : Int32)), .val (.int ((3 : Int32) - (2 : Int32))), .val (.int (0 : Int32)), .val (.int ((0 : Int32) + (1 : Int32))), .val (.int ((((0 : Int32) + (1 : Int32)) + (2 : Int32)) - (1 : Int32))), .val (.int (1 : Int32))]) (hb hby d19_74) rfl ?_
    refine own_iload X0 hx (hb hby d19_76) rfl ?_
    refine own_iload X0 hx (hb hby d19_78) rfl ?_
    refine own_icmpNo X0 hx (hb hby d19_80) (tlt (by decide : ((0 : Int32) + (1 : Int32)) < ((((0 : Int32) + (1 : Int32)) + (2 : Int32)) - (1 : Int32)))).2.1 ?_
    refine own_aloadN X0 hx (hb hby d19_83) rfl rfl ?_
    refine own_iload X0 hx (hb hby d19_84) rfl ?_
    refine own_baload X0 hx hZ e0 f0 ⟨by decide, by decide⟩ (v := (.int x1)) rfl (hb hby d19_86) ?_
    refine own_aloadN X0 hx (hb hby d19_87) rfl rfl ?_
    refine own_iload X0 hx (hb hby d19_88) rfl ?_
    show Goes _ _ _ _ _ _ (T0.setTop (mkF m 90 #[.val (.ref a1), .val (.int (3 : Int32)), .val (.ref a3), .val (.int (2 : Int32)), .val (.int (0 : Int32)), .val (.int (58 : Int32)), .val (.int ((3 : Int32) - (2 : Int32))), .val (.int (0 : Int32)), .val (.int ((0 : Int32) + (1 : Int32))), .val (.int ((((0 : Int32) + (1 : Int32)) + (2 : Int32)) - (1 : Int32))), .val (.int (1 : Int32))] [(.int (1 : Int32)), (.ref a3), (.int x1)]))
    refine own_baload X0 hx hZ e0 f1 ⟨by decide, by decide⟩ (v := (.int (58 : Int32))) rfl (hb hby d19_90) ?_
    by_cases hc91_2 : x1 = (58 : Int32)
    ·
      exact absurd ⟨hc27_1, hc91_2⟩ hpc0
    ·
      refine own_icmpYes X0 hx (pc' := 103) (hb hby d19_91) (feq (hc91_2 : ¬ (x1 = (58 : Int32)))).2 (by decide) (by decide) ?_
      refine own_iload X0 hx (hb hby d19_103) rfl ?_
      refine own_iload X0 hx (hb hby d19_105) rfl ?_
      refine own_icmpYes X0 hx (pc' := 113) (hb hby d19_107) (feq (by decide : ¬ (((0 : Int32) + (1 : Int32)) = ((((0 : Int32) + (1 : Int32)) + (2 : Int32)) - (1 : Int32))))).2 (by decide) (by decide) ?_
      refine own_iinc X0 hx (Ls' := #[.val (.ref a1), .val (.int (3 : Int32)), .val (.ref a3), .val (.int (2 : Int32)), .val (.int (0 : Int32)), .val (.int (58 : Int32)), .val (.int ((3 : Int32) - (2 : Int32))), .val (.int ((0 : Int32) + (1 : Int32))), .val (.int ((0 : Int32) + (1 : Int32))), .val (.int ((((0 : Int32) + (1 : Int32)) + (2 : Int32)) - (1 : Int32))), .val (.int (1 : Int32))]) (hb hby d19_113) rfl rfl ?_
      refine own_goto X0 hx (pc' := 14) (hb hby d19_116) (by decide) (by decide) ?_
      refine own_iload X0 hx (hb hby d19_14) rfl ?_
      refine own_iload X0 hx (hb hby d19_16) rfl ?_
      refine own_icmpNo X0 hx (hb hby d19_18) (flt (by decide : ¬ (((3 : Int32) - (2 : Int32)) < ((0 : Int32) + (1 : Int32))))).2.2.1 ?_
      refine own_aloadN X0 hx (hb hby d19_21) rfl rfl ?_
      refine own_iload X0 hx (hb hby d19_22) rfl ?_
      refine own_baload X0 hx hZ e0 f0 ⟨by decide, by decide⟩ (v := (.int x1)) rfl (hb hby d19_24) ?_
      refine own_iload X0 hx (hb hby d19_25) rfl ?_
      refine own_icmpNo X0 hx (hb hby d19_27) (feq (hc91_2 : ¬ (x1 = (58 : Int32)))).1 ?_
      refine own_iinc X0 hx (Ls' := #[.val (.ref a1), .val (.int (3 : Int32)), .val (.ref a3), .val (.int (2 : Int32)), .val (.int (0 : Int32)), .val (.int (58 : Int32)), .val (.int ((3 : Int32) - (2 : Int32))), .val (.int (((0 : Int32) + (1 : Int32)) + (1 : Int32))), .val (.int ((0 : Int32) + (1 : Int32))), .val (.int ((((0 : Int32) + (1 : Int32)) + (2 : Int32)) - (1 : Int32))), .val (.int (1 : Int32))]) (hb hby d19_30) rfl rfl ?_
      refine own_iload X0 hx (hb hby d19_33) rfl ?_
      refine own_iload X0 hx (hb hby d19_35) rfl ?_
      refine own_icmpYes X0 hx (pc' := 52) (hb hby d19_37) (tlt (by decide : ((3 : Int32) - (2 : Int32)) < (((0 : Int32) + (1 : Int32)) + (1 : Int32)))).2.2.1 (by decide) (by decide) ?_
      refine own_iload X0 hx (hb hby d19_52) rfl ?_
      refine own_iload X0 hx (hb hby d19_54) rfl ?_
      refine own_icmpYes X0 hx (pc' := 113) (hb hby d19_56) (tlt (by decide : ((3 : Int32) - (2 : Int32)) < (((0 : Int32) + (1 : Int32)) + (1 : Int32)))).2.2.1 (by decide) (by decide) ?_
      refine own_iinc X0 hx (Ls' := #[.val (.ref a1), .val (.int (3 : Int32)), .val (.ref a3), .val (.int (2 : Int32)), .val (.int (0 : Int32)), .val (.int (58 : Int32)), .val (.int ((3 : Int32) - (2 : Int32))), .val (.int ((((0 : Int32) + (1 : Int32)) + (1 : Int32)) + (1 : Int32))), .val (.int ((0 : Int32) + (1 : Int32))), .val (.int ((((0 : Int32) + (1 : Int32)) + (2 : Int32)) - (1 : Int32))), .val (.int (1 : Int32))]) (hb hby d19_113) rfl rfl ?_
      refine own_goto X0 hx (pc' := 14) (hb hby d19_116) (by decide) (by decide) ?_
      refine own_iload X0 hx (hb hby d19_14) rfl ?_
      refine own_iload X0 hx (hb hby d19_16) rfl ?_
      refine own_icmpYes X0 hx (pc' := 119) (hb hby d19_18) (tlt (by decide : ((3 : Int32) - (2 : Int32)) < ((((0 : Int32) + (1 : Int32)) + (1 : Int32)) + (1 : Int32)))).2.2.1 (by decide) (by decide) ?_
      refine own_iconst X0 hx (v := (-1 : Int32)) (hb hby d19_119) rfl ?_
      show Goes _ _ _ _ _ _ (T0.setTop (mkF m 120 #[.val (.ref a1), .val (.int (3 : Int32)), .val (.ref a3), .val (.int (2 : Int32)), .val (.int (0 : Int32)), .val (.int (58 : Int32)), .val (.int ((3 : Int32) - (2 : Int32))), .val (.int ((((0 : Int32) + (1 : Int32)) + (1 : Int32)) + (1 : Int32))), .val (.int ((0 : Int32) + (1 : Int32))), .val (.int ((((0 : Int32) + (1 : Int32)) + (2 : Int32)) - (1 : Int32))), .val (.int (1 : Int32))] [(.int (-1 : Int32))]))
      exact own_retI X0 hx N0 hlk (by decide) (by decide) hret (hb hby d19_120) (by rw [e0]; exact ⟨rfl, rfl⟩)
  ·
    refine own_icmpNo X0 hx (hb hby d19_27) (feq (hc27_1 : ¬ (x0 = (58 : Int32)))).1 ?_
    refine own_iinc X0 hx (Ls' := #[.val (.ref a1), .val (.int (3 : Int32)), .val (.ref a3), .val (.int (2 : Int32)), .val (.int (0 : Int32)), .val (.int (58 : Int32)), .val (.int ((3 : Int32) - (2 : Int32))), .val (.int ((0 : Int32) + (1 : Int32))), .unset, .unset, .unset]) (hb hby d19_30) rfl rfl ?_
    refine own_iload X0 hx (hb hby d19_33) rfl ?_
    refine own_iload X0 hx (hb hby d19_35) rfl ?_
    refine own_icmpNo X0 hx (hb hby d19_37) (flt (by decide : ¬ (((3 : Int32) - (2 : Int32)) < ((0 : Int32) + (1 : Int32))))).2.2.1 ?_
    refine own_aloadN X0 hx (hb hby d19_40) rfl rfl ?_
    refine own_iload X0 hx (hb hby d19_41) rfl ?_
    refine own_baload X0 hx hZ e0 f0 ⟨by decide, by decide⟩ (v := (.int x1)) rfl (hb hby d19_43) ?_
    refine own_iload X0 hx (hb hby d19_44) rfl ?_
    by_cases hc46_3 : x1 = (58 : Int32)
    ·
      refine own_icmpYes X0 hx (pc' := 52) (hb hby d19_46) (teq (hc46_3 : x1 = (58 : Int32))).1 (by decide) (by decide) ?_
      refine own_iload X0 hx (hb hby d19_52) rfl ?_
      refine own_iload X0 hx (hb hby d19_54) rfl ?_
      refine own_icmpNo X0 hx (hb hby d19_56) (flt (by decide : ¬ (((3 : Int32) - (2 : Int32)) < ((0 : Int32) + (1 : Int32))))).2.2.1 ?_
      refine own_iload X0 hx (hb hby d19_59) rfl ?_
      refine own_iconst X0 hx (v := (1 : Int32)) (hb hby d19_61) rfl ?_
      refine own_iadd X0 hx (hb hby d19_62) ?_
      refine own_istore X0 hx (Ls' := #[.val (.ref a1), .val (.int (3 : Int32)), .val (.ref a3), .val (.int (2 : Int32)), .val (.int (0 : Int32)), .val (.int (58 : Int32)), .val (.int ((3 : Int32) - (2 : Int32))), .val (.int ((0 : Int32) + (1 : Int32))), .val (.int (((0 : Int32) + (1 : Int32)) + (1 : Int32))), .unset, .unset]) (hb hby d19_63) rfl ?_
      refine own_iload X0 hx (hb hby d19_65) rfl ?_
      show Goes _ _ _ _ _ _ (T0.setTop (mkF m 67 #[.val (.ref a1), .val (.int (3 : Int32)), .val (.ref a3), .val (.int (2 : Int32)), .val (.int (0 : Int32)), .val (.int (58 : Int32)), .val (.int ((3 : Int32) - (2 : Int32))), .val (.int ((0 : Int32) + (1 : Int32))), .val (.int (((0 : Int32) + (1 : Int32)) + (1 : Int32))), .unset, .unset] [(.int (((0 : Int32) + (1 : Int32)) + (1 : Int32)))]))
      refine own_iloadN X0 hx (hb hby d19_67) rfl ?_
      refine own_iadd X0 hx (hb hby d19_68) ?_
      refine own_iconst X0 hx (v := (1 : Int32)) (hb hby d19_69) rfl ?_
      refine own_isub X0 hx (hb hby d19_70) ?_
      refine own_istore X0 hx (Ls' := #[.val (.ref a1), .val (.int (3 : Int32)), .val (.ref a3), .val (.int (2 : Int32)), .val (.int (0 : Int32)), .val (.int (58 : Int32)), .val (.int ((3 : Int32) - (2 : Int32))), .val (.int ((0 : Int32) + (1 : Int32))), .val (.int (((0 : Int32) + (1 : Int32)) + (1 : Int32))), .val (.int (((((0 : Int32) + (1 : Int32)) + (1 : Int32)) + (2 : Int32)) - (1 : Int32))), .unset]) (hb hby d19_71) rfl ?_
      refine own_iconst X0 hx (v := (1 : Int32)) (hb hby d19_73) rfl ?_
      refine own_istore X0 hx (Ls' := #[.val (.ref a1), .val (.int (3 : Int32)), .val (.ref a3), .val (.int (2 : Int32)), .val (.int (0 : Int32)), .val (.int (58 : Int32)), .val (.int ((3 : Int32) - (2 : Int32))), .val (.int ((0 : Int32) + (1 : Int32))), .val (.int (((0 : Int32) + (1 : Int32)) + (1 : Int32))), .val (.int (((((0 : Int32) + (1 : Int32)) + (1 : Int32)) + (2 : Int32)) - (1 : Int32))), .val (.int (1 : Int32))]) (hb hby d19_74) rfl ?_
      refine own_iload X0 hx (hb hby d19_76) rfl ?_
      refine own_iload X0 hx (hb hby d19_78) rfl ?_
      refine own_icmpNo X0 hx (hb hby d19_80) (tlt (by decide : (((0 : Int32) + (1 : Int32)) + (1 : Int32)) < (((((0 : Int32) + (1 : Int32)) + (1 : Int32)) + (2 : Int32)) - (1 : Int32)))).2.1 ?_
      refine own_aloadN X0 hx (hb hby d19_83) rfl rfl ?_
      refine own_iload X0 hx (hb hby d19_84) rfl ?_
      refine own_baload X0 hx hZ e0 f0 ⟨by decide, by decide⟩ (v := (.int x2)) rfl (hb hby d19_86) ?_
      refine own_aloadN X0 hx (hb hby d19_87) rfl rfl ?_
      refine own_iload X0 hx (hb hby d19_88) rfl ?_
      show Goes _ _ _ _ _ _ (T0.setTop (mkF m 90 #[.val (.ref a1), .val (.int (3 : Int32)), .val (.ref a3), .val (.int (2 : Int32)), .val (.int (0 : Int32)), .val (.int (58 : Int32)), .val (.int ((3 : Int32) - (2 : Int32))), .val (.int ((0 : Int32) + (1 : Int32))), .val (.int (((0 : Int32) + (1 : Int32)) + (1 : Int32))), .val (.int (((((0 : Int32) + (1 : Int32)) + (1 : Int32)) + (2 : Int32)) - (1 : Int32))), .val (.int (1 : Int32))] [(.int (1 : Int32)), (.ref a3), (.int x2)]))
      refine own_baload X0 hx hZ e0 f1 ⟨by decide, by decide⟩ (v := (.int (58 : Int32))) rfl (hb hby d19_90) ?_
      by_cases hc91_4 : x2 = (58 : Int32)
      ·
        exact absurd ⟨hc46_3, hc91_4⟩ hpc1
      ·
        refine own_icmpYes X0 hx (pc' := 103) (hb hby d19_91) (feq (hc91_4 : ¬ (x2 = (58 : Int32)))).2 (by decide) (by decide) ?_
        refine own_iload X0 hx (hb hby d19_103) rfl ?_
        refine own_iload X0 hx (hb hby d19_105) rfl ?_
        refine own_icmpYes X0 hx (pc' := 113) (hb hby d19_107) (feq (by decide : ¬ ((((0 : Int32) + (1 : Int32)) + (1 : Int32)) = (((((0 : Int32) + (1 : Int32)) + (1 : Int32)) + (2 : Int32)) - (1 : Int32))))).2 (by decide) (by decide) ?_
        refine own_iinc X0 hx (Ls' := #[.val (.ref a1), .val (.int (3 : Int32)), .val (.ref a3), .val (.int (2 : Int32)), .val (.int (0 : Int32)), .val (.int (58 : Int32)), .val (.int ((3 : Int32) - (2 : Int32))), .val (.int (((0 : Int32) + (1 : Int32)) + (1 : Int32))), .val (.int (((0 : Int32) + (1 : Int32)) + (1 : Int32))), .val (.int (((((0 : Int32) + (1 : Int32)) + (1 : Int32)) + (2 : Int32)) - (1 : Int32))), .val (.int (1 : Int32))]) (hb hby d19_113) rfl rfl ?_
        refine own_goto X0 hx (pc' := 14) (hb hby d19_116) (by decide) (by decide) ?_
        refine own_iload X0 hx (hb hby d19_14) rfl ?_
        refine own_iload X0 hx (hb hby d19_16) rfl ?_
        refine own_icmpYes X0 hx (pc' := 119) (hb hby d19_18) (tlt (by decide : ((3 : Int32) - (2 : Int32)) < (((0 : Int32) + (1 : Int32)) + (1 : Int32)))).2.2.1 (by decide) (by decide) ?_
        refine own_iconst X0 hx (v := (-1 : Int32)) (hb hby d19_119) rfl ?_
        show Goes _ _ _ _ _ _ (T0.setTop (mkF m 120 #[.val (.ref a1), .val (.int (3 : Int32)), .val (.ref a3), .val (.int (2 : Int32)), .val (.int (0 : Int32)), .val (.int (58 : Int32)), .val (.int ((3 : Int32) - (2 : Int32))), .val (.int (((0 : Int32) + (1 : Int32)) + (1 : Int32))), .val (.int (((0 : Int32) + (1 : Int32)) + (1 : Int32))), .val (.int (((((0 : Int32) + (1 : Int32)) + (1 : Int32)) + (2 : Int32)) - (1 : Int32))), .val (.int (1 : Int32))] [(.int (-1 : Int32))]))
        exact own_retI X0 hx N0 hlk (by decide) (by decide) hret (hb hby d19_120) (by rw [e0]; exact ⟨rfl, rfl⟩)
    ·
      refine own_icmpNo X0 hx (hb hby d19_46) (feq (hc46_3 : ¬ (x1 = (58 : Int32)))).1 ?_
      refine own_goto X0 hx (pc' := 30) (hb hby d19_49) (by decide) (by decide) ?_
      refine own_iinc X0 hx (Ls' := #[.val (.ref a1), .val (.int (3 : Int32)), .val (.ref a3), .val (.int (2 : Int32)), .val (.int (0 : Int32)), .val (.int (58 : Int32)), .val (.int ((3 : Int32) - (2 : Int32))), .val (.int (((0 : Int32) + (1 : Int32)) + (1 : Int32))), .unset, .unset, .unset]) (hb hby d19_30) rfl rfl ?_
      refine own_iload X0 hx (hb hby d19_33) rfl ?_
      refine own_iload X0 hx (hb hby d19_35) rfl ?_
      refine own_icmpYes X0 hx (pc' := 52) (hb hby d19_37) (tlt (by decide : ((3 : Int32) - (2 : Int32)) < (((0 : Int32) + (1 : Int32)) + (1 : Int32)))).2.2.1 (by decide) (by decide) ?_
      refine own_iload X0 hx (hb hby d19_52) rfl ?_
      refine own_iload X0 hx (hb hby d19_54) rfl ?_
      refine own_icmpYes X0 hx (pc' := 113) (hb hby d19_56) (tlt (by decide : ((3 : Int32) - (2 : Int32)) < (((0 : Int32) + (1 : Int32)) + (1 : Int32)))).2.2.1 (by decide) (by decide) ?_
      refine own_iinc X0 hx (Ls' := #[.val (.ref a1), .val (.int (3 : Int32)), .val (.ref a3), .val (.int (2 : Int32)), .val (.int (0 : Int32)), .val (.int (58 : Int32)), .val (.int ((3 : Int32) - (2 : Int32))), .val (.int ((((0 : Int32) + (1 : Int32)) + (1 : Int32)) + (1 : Int32))), .unset, .unset, .unset]) (hb hby d19_113) rfl rfl ?_
      refine own_goto X0 hx (pc' := 14) (hb hby d19_116) (by decide) (by decide) ?_
      refine own_iload X0 hx (hb hby d19_14) rfl ?_
      refine own_iload X0 hx (hb hby d19_16) rfl ?_
      refine own_icmpYes X0 hx (pc' := 119) (hb hby d19_18) (tlt (by decide : ((3 : Int32) - (2 : Int32)) < ((((0 : Int32) + (1 : Int32)) + (1 : Int32)) + (1 : Int32)))).2.2.1 (by decide) (by decide) ?_
      refine own_iconst X0 hx (v := (-1 : Int32)) (hb hby d19_119) rfl ?_
      show Goes _ _ _ _ _ _ (T0.setTop (mkF m 120 #[.val (.ref a1), .val (.int (3 : Int32)), .val (.ref a3), .val (.int (2 : Int32)), .val (.int (0 : Int32)), .val (.int (58 : Int32)), .val (.int ((3 : Int32) - (2 : Int32))), .val (.int ((((0 : Int32) + (1 : Int32)) + (1 : Int32)) + (1 : Int32))), .unset, .unset, .unset] [(.int (-1 : Int32))]))
      exact own_retI X0 hx N0 hlk (by decide) (by decide) hret (hb hby d19_120) (by rw [e0]; exact ⟨rfl, rfl⟩)
def Q183c (Z : State) (a1 : Addr) (a2 : Addr) (k : ClassId) (k2 : ClassId) (x0 : Int32) (x1 : Int32) (x2 : Int32) (h0 : Heap) (n0 : Nat) (v : Option Value) (h : Heap) : Prop :=
  (v = some (.int (-1 : Int32)) ∧ h = h0)
theorem ef_183c (m : MethodId) (a1 : Addr) (a2 : Addr) : entryFrame m #[(.ref a1), (.ref a2)] 2 = mkF m 0 #[.val (.ref a1), .val (.ref a2)] [] := by first | (simp [entryFrame, mkF, argsToLocals, Value.category]; done) | rfl
set_option maxRecDepth 65536 in
set_option maxHeartbeats 40000000 in
theorem rm183c (l : Launch) (Z : State) (a0 : Array Value) (hw : ∀ d ∈ tables_1, d.before a0 Z = true) (ws : List Jvm.Cond) (a1 : Addr) (a2 : Addr) (k : ClassId) (k2 : ClassId) (x0 : Int32) (x1 : Int32) (x2 : Int32) (h0 : Heap) (n0 : Nat) (O0 : Old Z n0 h0) (f0 : Arv Z h0 a1 k .byte (3 : Int32) [(.int x0), (.int x1), (.int x2)] (.int (0 : Int32))) (f1 : Arv Z h0 a2 k2 .byte (2 : Int32) [(.int (58 : Int32)), (.int (58 : Int32))] (.int (0 : Int32))) (hpc0 : ¬ (x0 = (58 : Int32) ∧ x1 = (58 : Int32))) (hpc1 : ¬ (x1 = (58 : Int32) ∧ x2 = (58 : Int32))) :
    Meets l (⟨"java/lang/StringLatin1", "indexOf", "([B[B)I"⟩ : MethodName) jdk_43_method_24_code 2 (some .int) ws ({ frames := 1, cells := 0, slots := 0, locals := 22 } : Room) ({ frames := 1, cells := 0, slots := 0, locals := 22 } : Room).cells ({ frames := 1, cells := 0, slots := 0, locals := 22 } : Room).slots Z #[(.ref a1), (.ref a2)] h0 n0 (Q183c Z a1 a2 k k2 x0 x1 x2 h0 n0) := by
  refine Meets.of (F := fun m => mkF m 0 #[.val (.ref a1), .val (.ref a2)] []) (plainFor_of_name pn_2) (fun m => ef_183c m a1 a2) ?_
  intro p e s m below meth c T0 hx hby hml hown0 hnm hret hlk hZ X0 e0
  have hown : s.vm.findClass "java/lang/StringLatin1" = some m.cls := hown0
  have N0 := Fr.nil n0
  show Goes _ _ _ _ _ _ (T0.setTop (mkF m 0 #[.val (.ref a1), .val (.ref a2)] []))
  refine own_aloadN X0 hx (hb hby d18_0) rfl rfl ?_
  refine own_alen X0 hx hZ e0 f1 (hb hby d18_1) ?_
  refine own_ifYes X0 hx (pc' := 7) (hb hby d18_2) ((if0 _ _).trans (feq (by decide : ¬ ((2 : Int32) = (0 : Int32)))).2) (by decide) (by decide) ?_
  refine own_aloadN X0 hx (hb hby d18_7) rfl rfl ?_
  refine own_alen X0 hx hZ e0 f0 (hb hby d18_8) ?_
  refine own_ifYes X0 hx (pc' := 14) (hb hby d18_9) ((if0 _ _).trans (feq (by decide : ¬ ((3 : Int32) = (0 : Int32)))).2) (by decide) (by decide) ?_
  refine own_aloadN X0 hx (hb hby d18_14) rfl rfl ?_
  refine own_aloadN X0 hx (hb hby d18_15) rfl rfl ?_
  refine own_alen X0 hx hZ e0 f0 (hb hby d18_16) ?_
  refine own_aloadN X0 hx (hb hby d18_17) rfl rfl ?_
  refine own_aloadN X0 hx (hb hby d18_18) rfl rfl ?_
  show Goes _ _ _ _ _ _ (T0.setTop (mkF m 19 #[.val (.ref a1), .val (.ref a2)] [(.ref a2), (.ref a2), (.int (3 : Int32)), (.ref a1)]))
  refine own_alen X0 hx hZ e0 f1 (hb hby d18_19) ?_
  refine own_iconst X0 hx (v := (0 : Int32)) (hb hby d18_20) rfl ?_
  refine own_callS X0 hx hZ hown (y := (⟨"java/lang/StringLatin1", "indexOf", "([BI[BII)I"⟩ : MethodName)) (hw _ (List.mem_of_getElem? (i := 92) rfl)) (hw _ (List.mem_of_getElem? (i := 93) rfl)) (hw _ (List.mem_of_getElem? (i := 90) rfl)) (hw _ (List.mem_of_getElem? (i := 94) rfl)) (by decide) (W := 0) (by decide) (by decide) N0 e0 (by rw [hml]; rfl) (argsL := [(.ref a1), (.int (3 : Int32)), (.ref a2), (.int (2 : Int32)), (.int (0 : Int32))]) (rest := []) (lenOf pd_1 rfl) (Nat.le_of_eq rfl) (by decide) (by decide) (rm193c l Z a0 hw [] a1 a2 k k2 x0 x1 x2 h0 n0 O0 f0 f1 hpc0 hpc1) rfl (hb hby d18_21) ?_
  intro v1 T1 lc1 X1 N1 hQ1
  obtain ⟨rfl, e1⟩ := hQ1
  show Goes _ _ _ _ _ _ (T1.setTop (mkF m 24 #[.val (.ref a1), .val (.ref a2)] [(.int (-1 : Int32))]))
  exact own_retI X1 hx N1 hlk (by decide) (by decide) hret (hb hby d18_24) (by rw [e1]; exact ⟨rfl, rfl⟩)
def Q153c (Z : State) (a1 : Addr) (a2 : Addr) (t : Addr) (k : ClassId) (x0 : Int32) (x1 : Int32) (x2 : Int32) (t2 : Addr) (k2 : ClassId) (zc : Int32) (h0 : Heap) (n0 : Nat) (v : Option Value) (h : Heap) : Prop :=
  (v = some (.int (-1 : Int32)) ∧ h = h0)
theorem ef_153c (m : MethodId) (a1 : Addr) (a2 : Addr) : entryFrame m #[(.ref a1), (.ref a2)] 3 = mkF m 0 #[.val (.ref a1), .val (.ref a2), .unset] [] := by first | (simp [entryFrame, mkF, argsToLocals, Value.category]; done) | rfl
set_option maxRecDepth 65536 in
set_option maxHeartbeats 40000000 in
theorem rm153c (l : Launch) (Z : State) (a0 : Array Value) (hw : ∀ d ∈ tables_1, d.before a0 Z = true) (ws : List Jvm.Cond) (a1 : Addr) (a2 : Addr) (t : Addr) (k : ClassId) (x0 : Int32) (x1 : Int32) (x2 : Int32) (t2 : Addr) (k2 : ClassId) (zc : Int32) (h0 : Heap) (n0 : Nat) (O0 : Old Z n0 h0) (SF : Start Z zc) (f0 : Exa Z h0 a1 "java/lang/String") (f1 : Fld Z h0 a1 "java/lang/String" "value" "[B" (.ref t)) (f2 : Fld Z h0 a1 "java/lang/String" "coder" "B" (.int (0 : Int32))) (f3 : Arv Z h0 t k .byte (3 : Int32) [(.int x0), (.int x1), (.int x2)] (.int (0 : Int32))) (f4 : Exa Z h0 a2 "java/lang/String") (f5 : Fld Z h0 a2 "java/lang/String" "value" "[B" (.ref t2)) (f6 : Fld Z h0 a2 "java/lang/String" "coder" "B" (.int (0 : Int32))) (f7 : Arv Z h0 t2 k2 .byte (2 : Int32) [(.int (58 : Int32)), (.int (58 : Int32))] (.int (0 : Int32))) (hpc0 : ¬ (x0 = (58 : Int32) ∧ x1 = (58 : Int32))) (hpc1 : ¬ (x1 = (58 : Int32) ∧ x2 = (58 : Int32))) :
    Meets l (⟨"java/lang/String", "indexOf", "(Ljava/lang/String;)I"⟩ : MethodName) jdk_42_method_84_code 3 (some .int) ws ({ frames := 2, cells := 0, slots := 0, locals := 35 } : Room) ({ frames := 2, cells := 0, slots := 0, locals := 35 } : Room).cells ({ frames := 2, cells := 0, slots := 0, locals := 35 } : Room).slots Z #[(.ref a1), (.ref a2)] h0 n0 (Q153c Z a1 a2 t k x0 x1 x2 t2 k2 zc h0 n0) := by
  refine Meets.of (F := fun m => mkF m 0 #[.val (.ref a1), .val (.ref a2), .unset] []) (plainFor_of_name pn_0) (fun m => ef_153c m a1 a2) ?_
  intro p e s m below meth c T0 hx hby hml hown0 hnm hret hlk hZ X0 e0
  have hown : s.vm.findClass "java/lang/String" = some m.cls := hown0
  have N0 := Fr.nil n0
  obtain ⟨z0, hzc, -⟩ := SF
  show Goes _ _ _ _ _ _ (T0.setTop (mkF m 0 #[.val (.ref a1), .val (.ref a2), .unset] []))
  refine own_aloadN X0 hx (hb hby d15_0) rfl rfl ?_
  refine own_virtual X0 hx hZ hown (y := (⟨"java/lang/String", "coder", "()B"⟩ : MethodName)) (z := (⟨"java/lang/String", "coder", "()B"⟩ : MethodName)) (hw _ (List.mem_of_getElem? (i := 78) rfl)) (hw _ (List.mem_of_getElem? (i := 79) rfl)) (notFace_of_selects (args := #[]) (mvT hZ (hw _ (List.mem_of_getElem? (i := 81) rfl)))) (hw _ (List.mem_of_getElem? (i := 81) rfl)) (hw _ (List.mem_of_getElem? (i := 80) rfl)) (hw _ (List.mem_of_getElem? (i := 8) rfl)) (hw _ (List.mem_of_getElem? (i := 82) rfl)) (a := a1) f0 (by decide) (W := 0) (by decide) (by decide) N0 e0 (by rw [hml]; rfl) (argsL := []) (rest := []) (lenOf pd_0 rfl) (Nat.le_of_eq rfl) (by decide) (by decide) (rm16 l Z a0 hw [] a1 zc h0 n0 O0 ⟨z0, hzc, trivial⟩ f2) rfl (hb hby d15_1) ?_
  intro v1 T1 lc1 X1 N1 hQ1
  obtain ⟨rfl, e1⟩ := hQ1
  refine own_istoreN X1 hx (Ls' := #[.val (.ref a1), .val (.ref a2), .val (.int (0 : Int32))]) (hb hby d15_4) rfl ?_
  refine own_iloadN X1 hx (hb hby d15_5) rfl ?_
  refine own_aloadN X1 hx (hb hby d15_6) rfl rfl ?_
  refine own_virtual X1 hx hZ hown (y := (⟨"java/lang/String", "coder", "()B"⟩ : MethodName)) (z := (⟨"java/lang/String", "coder", "()B"⟩ : MethodName)) (hw _ (List.mem_of_getElem? (i := 78) rfl)) (hw _ (List.mem_of_getElem? (i := 79) rfl)) (notFace_of_selects (args := #[]) (mvT hZ (hw _ (List.mem_of_getElem? (i := 81) rfl)))) (hw _ (List.mem_of_getElem? (i := 81) rfl)) (hw _ (List.mem_of_getElem? (i := 80) rfl)) (hw _ (List.mem_of_getElem? (i := 8) rfl)) (hw _ (List.mem_of_getElem? (i := 82) rfl)) (a := a2) f4 (by decide) (W := 1) (by decide) (by decide) N1 e1 (by rw [hml]; rfl) (argsL := []) (rest := [(.int (0 : Int32))]) (lenOf pd_0 rfl) (Nat.le_of_eq rfl) (by decide) (by decide) (rm16 l Z a0 hw [] a2 zc h0 n0 O0 ⟨z0, hzc, trivial⟩ f6) rfl (hb hby d15_7) ?_
  intro v2 T2 lc2 X2 N2 hQ2
  obtain ⟨rfl, e2⟩ := hQ2
  refine own_icmpNo X2 hx (hb hby d15_10) (teq (by decide : (0 : Int32) = (0 : Int32))).2 ?_
  refine own_aloadN X2 hx (hb hby d15_13) rfl rfl ?_
  refine own_virtual X2 hx hZ hown (y := (⟨"java/lang/String", "isLatin1", "()Z"⟩ : MethodName)) (z := (⟨"java/lang/String", "isLatin1", "()Z"⟩ : MethodName)) (hw _ (List.mem_of_getElem? (i := 83) rfl)) (hw _ (List.mem_of_getElem? (i := 84) rfl)) (notFace_of_selects (args := #[]) (mvT hZ (hw _ (List.mem_of_getElem? (i := 86) rfl)))) (hw _ (List.mem_of_getElem? (i := 86) rfl)) (hw _ (List.mem_of_getElem? (i := 85) rfl)) (hw _ (List.mem_of_getElem? (i := 8) rfl)) (hw _ (List.mem_of_getElem? (i := 87) rfl)) (a := a1) f0 (by decide) (W := 0) (by decide) (by decide) N2 e2 (by rw [hml]; rfl) (argsL := []) (rest := []) (lenOf pd_2 rfl) (Nat.le_of_eq rfl) (by decide) (by decide) (rm17 l Z a0 hw [] a1 zc h0 n0 O0 ⟨z0, hzc, trivial⟩ f2) rfl (hb hby d15_14) ?_
  intro v3 T3 lc3 X3 N3 hQ3
  obtain ⟨rfl, e3⟩ := hQ3
  refine own_ifNo X3 hx (hb hby d15_17) ((if0 _ _).trans (feq (by decide : ¬ ((1 : Int32) = (0 : Int32)))).1) ?_
  refine own_aloadN X3 hx (hb hby d15_20) rfl rfl ?_
  refine own_getF X3 hx hZ hown (host := "") (Or.inl (hw _ (List.mem_of_getElem? (i := 25) rfl))) Via.refl e3 f1 (hb hby d15_21) (fun T4 X4 e4 => ?_)
  refine own_aloadN X4 hx (hb hby d15_24) rfl rfl ?_
  refine own_getF X4 hx hZ hown (host := "") (Or.inl (hw _ (List.mem_of_getElem? (i := 25) rfl))) Via.refl e4 f5 (hb hby d15_25) (fun T5 X5 e5 => ?_)
  refine own_callS X5 hx hZ hown (y := (⟨"java/lang/StringLatin1", "indexOf", "([B[B)I"⟩ : MethodName)) (hw _ (List.mem_of_getElem? (i := 88) rfl)) (hw _ (List.mem_of_getElem? (i := 89) rfl)) (hw _ (List.mem_of_getElem? (i := 90) rfl)) (hw _ (List.mem_of_getElem? (i := 91) rfl)) (by decide) (W := 0) (by decide) (by decide) N3 e5 (by rw [hml]; rfl) (argsL := [(.ref t), (.ref t2)]) (rest := []) (lenOf pd_3 rfl) (Nat.le_of_eq rfl) (by decide) (by decide) (rm183c l Z a0 hw [] t t2 k k2 x0 x1 x2 h0 n0 O0 f3 f7 hpc0 hpc1) rfl (hb hby d15_28) ?_
  intro v6 T6 lc6 X6 N6 hQ6
  obtain ⟨rfl, e6⟩ := hQ6
  refine own_goto X6 hx (pc' := 45) (hb hby d15_31) (by decide) (by decide) ?_
  show Goes _ _ _ _ _ _ (T6.setTop (mkF m 45 #[.val (.ref a1), .val (.ref a2), .val (.int (0 : Int32))] [(.int (-1 : Int32))]))
  exact own_retI X6 hx N6 hlk (by decide) (by decide) hret (hb hby d15_45) (by rw [e6]; exact ⟨rfl, rfl⟩)
def Q133c (Z : State) (a1 : Addr) (a2 : Addr) (t : Addr) (k : ClassId) (x0 : Int32) (x1 : Int32) (x2 : Int32) (t2 : Addr) (k2 : ClassId) (zc : Int32) (h0 : Heap) (n0 : Nat) (v : Option Value) (h : Heap) : Prop :=
  (v = some (.int (0 : Int32)) ∧ h = h0)
theorem ef_133c (m : MethodId) (a1 : Addr) (a2 : Addr) : entryFrame m #[(.ref a1), (.ref a2)] 2 = mkF m 0 #[.val (.ref a1), .val (.ref a2)] [] := by first | (simp [entryFrame, mkF, argsToLocals, Value.category]; done) | rfl
set_option maxRecDepth 65536 in
set_option maxHeartbeats 40000000 in
theorem rm133c (l : Launch) (Z : State) (a0 : Array Value) (hw : ∀ d ∈ tables_1, d.before a0 Z = true) (ws : List Jvm.Cond) (a1 : Addr) (a2 : Addr) (t : Addr) (k : ClassId) (x0 : Int32) (x1 : Int32) (x2 : Int32) (t2 : Addr) (k2 : ClassId) (zc : Int32) (h0 : Heap) (n0 : Nat) (O0 : Old Z n0 h0) (SF : Start Z zc) (f0 : Exa Z h0 a1 "java/lang/String") (f1 : Fld Z h0 a1 "java/lang/String" "value" "[B" (.ref t)) (f2 : Fld Z h0 a1 "java/lang/String" "coder" "B" (.int (0 : Int32))) (f3 : Arv Z h0 t k .byte (3 : Int32) [(.int x0), (.int x1), (.int x2)] (.int (0 : Int32))) (f4 : Exa Z h0 a2 "java/lang/String") (f5 : Fld Z h0 a2 "java/lang/String" "value" "[B" (.ref t2)) (f6 : Fld Z h0 a2 "java/lang/String" "coder" "B" (.int (0 : Int32))) (f7 : Arv Z h0 t2 k2 .byte (2 : Int32) [(.int (58 : Int32)), (.int (58 : Int32))] (.int (0 : Int32))) (hpc0 : ¬ (x0 = (58 : Int32) ∧ x1 = (58 : Int32))) (hpc1 : ¬ (x1 = (58 : Int32) ∧ x2 = (58 : Int32))) :
    Meets l (⟨"java/lang/String", "contains", "(Ljava/lang/CharSequence;)Z"⟩ : MethodName) jdk_42_method_97_code 2 (some .boolean) ws ({ frames := 3, cells := 0, slots := 0, locals := 49 } : Room) ({ frames := 3, cells := 0, slots := 0, locals := 49 } : Room).cells ({ frames := 3, cells := 0, slots := 0, locals := 49 } : Room).slots Z #[(.ref a1), (.ref a2)] h0 n0 (Q133c Z a1 a2 t k x0 x1 x2 t2 k2 zc h0 n0) := by
  refine Meets.of (F := fun m => mkF m 0 #[.val (.ref a1), .val (.ref a2)] []) (plainFor_of_name pn_0) (fun m => ef_133c m a1 a2) ?_
  intro p e s m below meth c T0 hx hby hml hown0 hnm hret hlk hZ X0 e0
  have hown : s.vm.findClass "java/lang/String" = some m.cls := hown0
  have N0 := Fr.nil n0
  obtain ⟨z0, hzc, -⟩ := SF
  show Goes _ _ _ _ _ _ (T0.setTop (mkF m 0 #[.val (.ref a1), .val (.ref a2)] []))
  refine own_aloadN X0 hx (hb hby d13_0) rfl rfl ?_
  refine own_aloadN X0 hx (hb hby d13_1) rfl rfl ?_
  refine own_iface X0 hx hZ hown (y := (⟨"java/lang/CharSequence", "toString", "()Ljava/lang/String;"⟩ : MethodName)) (z := (⟨"java/lang/String", "toString", "()Ljava/lang/String;"⟩ : MethodName)) (hw _ (List.mem_of_getElem? (i := 64) rfl)) (hw _ (List.mem_of_getElem? (i := 65) rfl)) (hw _ (List.mem_of_getElem? (i := 66) rfl)) (hw _ (List.mem_of_getElem? (i := 67) rfl)) (hw _ (List.mem_of_getElem? (i := 68) rfl)) (hw _ (List.mem_of_getElem? (i := 69) rfl)) (hw _ (List.mem_of_getElem? (i := 70) rfl)) (hw _ (List.mem_of_getElem? (i := 71) rfl)) (hw _ (List.mem_of_getElem? (i := 8) rfl)) (hw _ (List.mem_of_getElem? (i := 72) rfl)) (a := a2) f4 (by decide) (W := 1) (by decide) (by decide) N0 e0 (by rw [hml]; rfl) (argsL := []) (rest := [(.ref a1)]) (lenOf pd_4 rfl) (Nat.le_of_eq rfl) (by decide) (by decide) (rm14 l Z a0 hw [] a2 h0 n0 O0) rfl (hb hby d13_2) ?_
  intro v1 T1 lc1 X1 N1 hQ1
  obtain ⟨rfl, e1⟩ := hQ1
  refine own_virtual X1 hx hZ hown (y := (⟨"java/lang/String", "indexOf", "(Ljava/lang/String;)I"⟩ : MethodName)) (z := (⟨"java/lang/String", "indexOf", "(Ljava/lang/String;)I"⟩ : MethodName)) (hw _ (List.mem_of_getElem? (i := 73) rfl)) (hw _ (List.mem_of_getElem? (i := 74) rfl)) (notFace_of_selects (args := #[]) (mvT hZ (hw _ (List.mem_of_getElem? (i := 76) rfl)))) (hw _ (List.mem_of_getElem? (i := 76) rfl)) (hw _ (List.mem_of_getElem? (i := 75) rfl)) (hw _ (List.mem_of_getElem? (i := 8) rfl)) (hw _ (List.mem_of_getElem? (i := 77) rfl)) (a := a1) f0 (by decide) (W := 0) (by decide) (by decide) N1 e1 (by rw [hml]; rfl) (argsL := [(.ref a2)]) (rest := []) (lenOf pd_5 rfl) (Nat.le_of_eq rfl) (by decide) (by decide) (rm153c l Z a0 hw [] a1 a2 t k x0 x1 x2 t2 k2 zc h0 n0 O0 ⟨z0, hzc, trivial⟩ f0 f1 f2 f3 f4 f5 f6 f7 hpc0 hpc1) rfl (hb hby d13_7) ?_
  intro v2 T2 lc2 X2 N2 hQ2
  obtain ⟨rfl, e2⟩ := hQ2
  refine own_ifYes X2 hx (pc' := 17) (hb hby d13_10) ((if0 _ _).trans (tlt (by decide : (-1 : Int32) < (0 : Int32))).1) (by decide) (by decide) ?_
  refine own_iconst X2 hx (v := (0 : Int32)) (hb hby d13_17) rfl ?_
  show Goes _ _ _ _ _ _ (T2.setTop (mkF m 18 #[.val (.ref a1), .val (.ref a2)] [(.int (0 : Int32))]))
  exact own_retN X2 hx (t := .boolean) N2 hlk (by decide) (by decide) hret (by simp) (hb hby d13_18) (by rw [e2]; exact ⟨rfl, rfl⟩)
def Q233 (Z : State) (a1 : Addr) (a3 : Addr) (k : ClassId) (k2 : ClassId) (x0 : Int32) (x1 : Int32) (x2 : Int32) (h0 : Heap) (n0 : Nat) (v : Option Value) (h : Heap) : Prop :=
  (v = some (.int (0 : Int32)) ∧ h = h0)
theorem ef_233 (m : MethodId) (a1 : Addr) (a3 : Addr) : entryFrame m #[(.ref a1), (.int ((3 : Int32) - (1 : Int32))), (.ref a3), (.int (0 : Int32)), (.int (1 : Int32))] 8 = mkF m 0 #[.val (.ref a1), .val (.int ((3 : Int32) - (1 : Int32))), .val (.ref a3), .val (.int (0 : Int32)), .val (.int (1 : Int32)), .unset, .unset, .unset] [] := by first | (simp [entryFrame, mkF, argsToLocals, Value.category]; done) | rfl
set_option maxRecDepth 65536 in
set_option maxHeartbeats 40000000 in
theorem rm233 (l : Launch) (Z : State) (a0 : Array Value) (hw : ∀ d ∈ tables_1, d.before a0 Z = true) (ws : List Jvm.Cond) (a1 : Addr) (a3 : Addr) (k : ClassId) (k2 : ClassId) (x0 : Int32) (x1 : Int32) (x2 : Int32) (h0 : Heap) (n0 : Nat) (O0 : Old Z n0 h0) (f0 : Arv Z h0 a1 k .byte (3 : Int32) [(.int x0), (.int x1), (.int x2)] (.int (0 : Int32))) (f1 : Arv Z h0 a3 k2 .byte (1 : Int32) [(.int (58 : Int32))] (.int (0 : Int32))) (hpe : ¬ (x2 = (58 : Int32))) :
    Meets l (⟨"jdk/internal/util/ArraysSupport", "mismatch", "([BI[BII)I"⟩ : MethodName) jdk_48_method_14_code 8 (some .int) ws ({ frames := 0, cells := 0, slots := 0, locals := 0 } : Room) ({ frames := 0, cells := 0, slots := 0, locals := 0 } : Room).cells ({ frames := 0, cells := 0, slots := 0, locals := 0 } : Room).slots Z #[(.ref a1), (.int ((3 : Int32) - (1 : Int32))), (.ref a3), (.int (0 : Int32)), (.int (1 : Int32))] h0 n0 (Q233 Z a1 a3 k k2 x0 x1 x2 h0 n0) := by
  refine Meets.of (F := fun m => mkF m 0 #[.val (.ref a1), .val (.int ((3 : Int32) - (1 : Int32))), .val (.ref a3), .val (.int (0 : Int32)), .val (.int (1 : Int32)), .unset, .unset, .unset] []) (plainFor_of_name pn_3) (fun m => ef_233 m a1 a3) ?_
  intro p e s m below meth c T0 hx hby hml hown0 hnm hret hlk hZ X0 e0
  have hown : s.vm.findClass "jdk/internal/util/ArraysSupport" = some m.cls := hown0
  have N0 := Fr.nil n0
  show Goes _ _ _ _ _ _ (T0.setTop (mkF m 0 #[.val (.ref a1), .val (.int ((3 : Int32) - (1 : Int32))), .val (.ref a3), .val (.int (0 : Int32)), .val (.int (1 : Int32)), .unset, .unset, .unset] []))
  refine own_iconst X0 hx (v := (0 : Int32)) (hb hby d23_0) rfl ?_
  refine own_istore X0 hx (Ls' := #[.val (.ref a1), .val (.int ((3 : Int32) - (1 : Int32))), .val (.ref a3), .val (.int (0 : Int32)), .val (.int (1 : Int32)), .val (.int (0 : Int32)), .unset, .unset]) (hb hby d23_1) rfl ?_
  refine own_iload X0 hx (hb hby d23_3) rfl ?_
  refine own_bipush X0 hx (v := (7 : Int32)) (hb hby d23_5) rfl ?_
  refine own_icmpYes X0 hx (pc' := 70) (hb hby d23_7) (flt (by decide : ¬ ((7 : Int32) < (1 : Int32)))).2.2.2 (by decide) (by decide) ?_
  refine own_iload X0 hx (hb hby d23_70) rfl ?_
  refine own_iload X0 hx (hb hby d23_72) rfl ?_
  refine own_icmpNo X0 hx (hb hby d23_74) (tlt (by decide : (0 : Int32) < (1 : Int32))).2.1 ?_
  refine own_aloadN X0 hx (hb hby d23_77) rfl rfl ?_
  refine own_iloadN X0 hx (hb hby d23_78) rfl ?_
  refine own_iload X0 hx (hb hby d23_79) rfl ?_
  refine own_iadd X0 hx (hb hby d23_81) ?_
  refine own_baload X0 hx hZ e0 f0 ⟨by decide, by decide⟩ (v := (.int x2)) rfl (hb hby d23_82) ?_
  show Goes _ _ _ _ _ _ (T0.setTop (mkF m 83 #[.val (.ref a1), .val (.int ((3 : Int32) - (1 : Int32))), .val (.ref a3), .val (.int (0 : Int32)), .val (.int (1 : Int32)), .val (.int (0 : Int32)), .unset, .unset] [(.int x2)]))
  refine own_aloadN X0 hx (hb hby d23_83) rfl rfl ?_
  refine own_iloadN X0 hx (hb hby d23_84) rfl ?_
  refine own_iload X0 hx (hb hby d23_85) rfl ?_
  refine own_iadd X0 hx (hb hby d23_87) ?_
  refine own_baload X0 hx hZ e0 f1 ⟨by decide, by decide⟩ (v := (.int (58 : Int32))) rfl (hb hby d23_88) ?_
  refine own_icmpNo X0 hx (hb hby d23_89) (feq (hpe : ¬ (x2 = (58 : Int32)))).1 ?_
  refine own_iload X0 hx (hb hby d23_92) rfl ?_
  show Goes _ _ _ _ _ _ (T0.setTop (mkF m 94 #[.val (.ref a1), .val (.int ((3 : Int32) - (1 : Int32))), .val (.ref a3), .val (.int (0 : Int32)), .val (.int (1 : Int32)), .val (.int (0 : Int32)), .unset, .unset] [(.int (0 : Int32))]))
  exact own_retI X0 hx N0 hlk (by decide) (by decide) hret (hb hby d23_94) (by rw [e0]; exact ⟨rfl, rfl⟩)
def Q223 (Z : State) (a1 : Addr) (a2 : Addr) (t : Addr) (k : ClassId) (x0 : Int32) (x1 : Int32) (x2 : Int32) (t2 : Addr) (k2 : ClassId) (zc : Int32) (h0 : Heap) (n0 : Nat) (v : Option Value) (h : Heap) : Prop :=
  (v = some (.int (0 : Int32)) ∧ h = h0)
theorem ef_223 (m : MethodId) (a1 : Addr) (a2 : Addr) : entryFrame m #[(.ref a1), (.ref a2), (.int ((3 : Int32) - (1 : Int32)))] 8 = mkF m 0 #[.val (.ref a1), .val (.ref a2), .val (.int ((3 : Int32) - (1 : Int32))), .unset, .unset, .unset, .unset, .unset] [] := by first | (simp [entryFrame, mkF, argsToLocals, Value.category]; done) | rfl
set_option maxRecDepth 65536 in
set_option maxHeartbeats 40000000 in
theorem rm223 (l : Launch) (Z : State) (a0 : Array Value) (hw : ∀ d ∈ tables_1, d.before a0 Z = true) (ws : List Jvm.Cond) (a1 : Addr) (a2 : Addr) (t : Addr) (k : ClassId) (x0 : Int32) (x1 : Int32) (x2 : Int32) (t2 : Addr) (k2 : ClassId) (zc : Int32) (h0 : Heap) (n0 : Nat) (O0 : Old Z n0 h0) (SF : Start Z zc) (f0 : Exa Z h0 a1 "java/lang/String") (f1 : Fld Z h0 a1 "java/lang/String" "value" "[B" (.ref t)) (f2 : Fld Z h0 a1 "java/lang/String" "coder" "B" (.int (0 : Int32))) (f3 : Arv Z h0 t k .byte (3 : Int32) [(.int x0), (.int x1), (.int x2)] (.int (0 : Int32))) (f4 : Exa Z h0 a2 "java/lang/String") (f5 : Fld Z h0 a2 "java/lang/String" "value" "[B" (.ref t2)) (f6 : Fld Z h0 a2 "java/lang/String" "coder" "B" (.int (0 : Int32))) (f7 : Arv Z h0 t2 k2 .byte (1 : Int32) [(.int (58 : Int32))] (.int (0 : Int32))) (hpe : ¬ (x2 = (58 : Int32))) :
    Meets l (⟨"java/lang/String", "startsWith", "(Ljava/lang/String;I)Z"⟩ : MethodName) jdk_42_method_75_code 8 (some .boolean) ws ({ frames := 2, cells := 0, slots := 0, locals := 27 } : Room) ({ frames := 2, cells := 0, slots := 0, locals := 27 } : Room).cells ({ frames := 2, cells := 0, slots := 0, locals := 27 } : Room).slots Z #[(.ref a1), (.ref a2), (.int ((3 : Int32) - (1 : Int32)))] h0 n0 (Q223 Z a1 a2 t k x0 x1 x2 t2 k2 zc h0 n0) := by
  refine Meets.of (F := fun m => mkF m 0 #[.val (.ref a1), .val (.ref a2), .val (.int ((3 : Int32) - (1 : Int32))), .unset, .unset, .unset, .unset, .unset] []) (plainFor_of_name pn_0) (fun m => ef_223 m a1 a2) ?_
  intro p e s m below meth c T0 hx hby hml hown0 hnm hret hlk hZ X0 e0
  have hown : s.vm.findClass "java/lang/String" = some m.cls := hown0
  have N0 := Fr.nil n0
  obtain ⟨z0, hzc, -⟩ := SF
  show Goes _ _ _ _ _ _ (T0.setTop (mkF m 0 #[.val (.ref a1), .val (.ref a2), .val (.int ((3 : Int32) - (1 : Int32))), .unset, .unset, .unset, .unset, .unset] []))
  refine own_iloadN X0 hx (hb hby d22_0) rfl ?_
  refine own_ifNo X0 hx (hb hby d22_1) ((if0 _ _).trans (flt (by decide : ¬ (((3 : Int32) - (1 : Int32)) < (0 : Int32)))).1) ?_
  refine own_iloadN X0 hx (hb hby d22_4) rfl ?_
  refine own_aloadN X0 hx (hb hby d22_5) rfl rfl ?_
  refine own_virtual X0 hx hZ hown (y := (⟨"java/lang/String", "length", "()I"⟩ : MethodName)) (z := (⟨"java/lang/String", "length", "()I"⟩ : MethodName)) (hw _ (List.mem_of_getElem? (i := 102) rfl)) (hw _ (List.mem_of_getElem? (i := 103) rfl)) (notFace_of_selects (args := #[]) (mvT hZ (hw _ (List.mem_of_getElem? (i := 105) rfl)))) (hw _ (List.mem_of_getElem? (i := 105) rfl)) (hw _ (List.mem_of_getElem? (i := 104) rfl)) (hw _ (List.mem_of_getElem? (i := 8) rfl)) (hw _ (List.mem_of_getElem? (i := 106) rfl)) (a := a1) f0 (by decide) (W := 1) (by decide) (by decide) N0 e0 (by rw [hml]; rfl) (argsL := []) (rest := [(.int ((3 : Int32) - (1 : Int32)))]) (lenOf pd_6 rfl) (Nat.le_of_eq rfl) (by decide) (by decide) (rm213 l Z a0 hw [] a1 t k x0 x1 x2 zc h0 n0 O0 ⟨z0, hzc, trivial⟩ f0 f1 f2 f3) rfl (hb hby d22_6) ?_
  intro v1 T1 lc1 X1 N1 hQ1
  obtain ⟨rfl, e1⟩ := hQ1
  refine own_aloadN X1 hx (hb hby d22_9) rfl rfl ?_
  refine own_virtual X1 hx hZ hown (y := (⟨"java/lang/String", "length", "()I"⟩ : MethodName)) (z := (⟨"java/lang/String", "length", "()I"⟩ : MethodName)) (hw _ (List.mem_of_getElem? (i := 102) rfl)) (hw _ (List.mem_of_getElem? (i := 103) rfl)) (notFace_of_selects (args := #[]) (mvT hZ (hw _ (List.mem_of_getElem? (i := 105) rfl)))) (hw _ (List.mem_of_getElem? (i := 105) rfl)) (hw _ (List.mem_of_getElem? (i := 104) rfl)) (hw _ (List.mem_of_getElem? (i := 8) rfl)) (hw _ (List.mem_of_getElem? (i := 106) rfl)) (a := a2) f4 (by decide) (W := 2) (by decide) (by decide) N1 e1 (by rw [hml]; rfl) (argsL := []) (rest := [(.int (3 : Int32)), (.int ((3 : Int32) - (1 : Int32)))]) (lenOf pd_6 rfl) (Nat.le_of_eq rfl) (by decide) (by decide) (rm211 l Z a0 hw [] a2 t2 k2 (58 : Int32) zc h0 n0 O0 ⟨z0, hzc, trivial⟩ f4 f5 f6 f7) rfl (hb hby d22_10) ?_
  intro v2 T2 lc2 X2 N2 hQ2
  obtain ⟨rfl, e2⟩ := hQ2
  refine own_isub X2 hx (hb hby d22_13) ?_
  refine own_icmpYes X2 hx (pc' := 19) (hb hby d22_14) (flt (by decide : ¬ (((3 : Int32) - (1 : Int32)) < ((3 : Int32) - (1 : Int32))))).2.2.2 (by decide) (by decide) ?_
  refine own_aloadN X2 hx (hb hby d22_19) rfl rfl ?_
  refine own_getF X2 hx hZ hown (host := "") (Or.inl (hw _ (List.mem_of_getElem? (i := 25) rfl))) Via.refl e2 f1 (hb hby d22_20) (fun T3 X3 e3 => ?_)
  refine own_astoreN X3 hx (Ls' := #[.val (.ref a1), .val (.ref a2), .val (.int ((3 : Int32) - (1 : Int32))), .val (.ref t), .unset, .unset, .unset, .unset]) (hb hby d22_23) rfl rfl ?_
  refine own_aloadN X3 hx (hb hby d22_24) rfl rfl ?_
  refine own_getF X3 hx hZ hown (host := "") (Or.inl (hw _ (List.mem_of_getElem? (i := 25) rfl))) Via.refl e3 f5 (hb hby d22_25) (fun T4 X4 e4 => ?_)
  refine own_astore X4 hx (Ls' := #[.val (.ref a1), .val (.ref a2), .val (.int ((3 : Int32) - (1 : Int32))), .val (.ref t), .val (.ref t2), .unset, .unset, .unset]) (hb hby d22_28) rfl rfl ?_
  refine own_iconst X4 hx (v := (0 : Int32)) (hb hby d22_30) rfl ?_
  refine own_istore X4 hx (Ls' := #[.val (.ref a1), .val (.ref a2), .val (.int ((3 : Int32) - (1 : Int32))), .val (.ref t), .val (.ref t2), .val (.int (0 : Int32)), .unset, .unset]) (hb hby d22_31) rfl ?_
  refine own_aload X4 hx (hb hby d22_33) rfl rfl ?_
  refine own_alen X4 hx hZ e4 f7 (hb hby d22_35) ?_
  show Goes _ _ _ _ _ _ (T4.setTop (mkF m 36 #[.val (.ref a1), .val (.ref a2), .val (.int ((3 : Int32) - (1 : Int32))), .val (.ref t), .val (.ref t2), .val (.int (0 : Int32)), .unset, .unset] [(.int (1 : Int32))]))
  refine own_istore X4 hx (Ls' := #[.val (.ref a1), .val (.ref a2), .val (.int ((3 : Int32) - (1 : Int32))), .val (.ref t), .val (.ref t2), .val (.int (0 : Int32)), .val (.int (1 : Int32)), .unset]) (hb hby d22_36) rfl ?_
  refine own_aloadN X4 hx (hb hby d22_38) rfl rfl ?_
  refine own_virtual X4 hx hZ hown (y := (⟨"java/lang/String", "coder", "()B"⟩ : MethodName)) (z := (⟨"java/lang/String", "coder", "()B"⟩ : MethodName)) (hw _ (List.mem_of_getElem? (i := 78) rfl)) (hw _ (List.mem_of_getElem? (i := 79) rfl)) (notFace_of_selects (args := #[]) (mvT hZ (hw _ (List.mem_of_getElem? (i := 81) rfl)))) (hw _ (List.mem_of_getElem? (i := 81) rfl)) (hw _ (List.mem_of_getElem? (i := 80) rfl)) (hw _ (List.mem_of_getElem? (i := 8) rfl)) (hw _ (List.mem_of_getElem? (i := 82) rfl)) (a := a1) f0 (by decide) (W := 0) (by decide) (by decide) N2 e4 (by rw [hml]; rfl) (argsL := []) (rest := []) (lenOf pd_0 rfl) (Nat.le_of_eq rfl) (by decide) (by decide) (rm16 l Z a0 hw [] a1 zc h0 n0 O0 ⟨z0, hzc, trivial⟩ f2) rfl (hb hby d22_39) ?_
  intro v5 T5 lc5 X5 N5 hQ5
  obtain ⟨rfl, e5⟩ := hQ5
  refine own_istore X5 hx (Ls' := #[.val (.ref a1), .val (.ref a2), .val (.int ((3 : Int32) - (1 : Int32))), .val (.ref t), .val (.ref t2), .val (.int (0 : Int32)), .val (.int (1 : Int32)), .val (.int (0 : Int32))]) (hb hby d22_42) rfl ?_
  refine own_iload X5 hx (hb hby d22_44) rfl ?_
  refine own_aloadN X5 hx (hb hby d22_46) rfl rfl ?_
  refine own_virtual X5 hx hZ hown (y := (⟨"java/lang/String", "coder", "()B"⟩ : MethodName)) (z := (⟨"java/lang/String", "coder", "()B"⟩ : MethodName)) (hw _ (List.mem_of_getElem? (i := 78) rfl)) (hw _ (List.mem_of_getElem? (i := 79) rfl)) (notFace_of_selects (args := #[]) (mvT hZ (hw _ (List.mem_of_getElem? (i := 81) rfl)))) (hw _ (List.mem_of_getElem? (i := 81) rfl)) (hw _ (List.mem_of_getElem? (i := 80) rfl)) (hw _ (List.mem_of_getElem? (i := 8) rfl)) (hw _ (List.mem_of_getElem? (i := 82) rfl)) (a := a2) f4 (by decide) (W := 1) (by decide) (by decide) N5 e5 (by rw [hml]; rfl) (argsL := []) (rest := [(.int (0 : Int32))]) (lenOf pd_0 rfl) (Nat.le_of_eq rfl) (by decide) (by decide) (rm16 l Z a0 hw [] a2 zc h0 n0 O0 ⟨z0, hzc, trivial⟩ f6) rfl (hb hby d22_47) ?_
  intro v6 T6 lc6 X6 N6 hQ6
  obtain ⟨rfl, e6⟩ := hQ6
  refine own_icmpNo X6 hx (hb hby d22_50) (teq (by decide : (0 : Int32) = (0 : Int32))).2 ?_
  refine own_iload X6 hx (hb hby d22_53) rfl ?_
  refine own_iconst X6 hx (v := (1 : Int32)) (hb hby d22_55) rfl ?_
  refine own_icmpYes X6 hx (pc' := 63) (hb hby d22_56) (feq (by decide : ¬ ((0 : Int32) = (1 : Int32)))).2 (by decide) (by decide) ?_
  refine own_aloadN X6 hx (hb hby d22_63) rfl rfl ?_
  refine own_iloadN X6 hx (hb hby d22_64) rfl ?_
  refine own_aload X6 hx (hb hby d22_65) rfl rfl ?_
  refine own_iconst X6 hx (v := (0 : Int32)) (hb hby d22_67) rfl ?_
  refine own_iload X6 hx (hb hby d22_68) rfl ?_
  show Goes _ _ _ _ _ _ (T6.setTop (mkF m 70 #[.val (.ref a1), .val (.ref a2), .val (.int ((3 : Int32) - (1 : Int32))), .val (.ref t), .val (.ref t2), .val (.int (0 : Int32)), .val (.int (1 : Int32)), .val (.int (0 : Int32))] [(.int (1 : Int32)), (.int (0 : Int32)), (.ref t2), (.int ((3 : Int32) - (1 : Int32))), (.ref t)]))
  refine own_callS X6 hx hZ hown (y := (⟨"jdk/internal/util/ArraysSupport", "mismatch", "([BI[BII)I"⟩ : MethodName)) (hw _ (List.mem_of_getElem? (i := 112) rfl)) (hw _ (List.mem_of_getElem? (i := 113) rfl)) (hw _ (List.mem_of_getElem? (i := 114) rfl)) (hw _ (List.mem_of_getElem? (i := 115) rfl)) (by decide) (W := 0) (by decide) (by decide) N6 e6 (by rw [hml]; rfl) (argsL := [(.ref t), (.int ((3 : Int32) - (1 : Int32))), (.ref t2), (.int (0 : Int32)), (.int (1 : Int32))]) (rest := []) (lenOf pd_1 rfl) (Nat.le_of_eq rfl) (by decide) (by decide) (rm233 l Z a0 hw [] t t2 k k2 x0 x1 x2 h0 n0 O0 f3 f7 hpe) rfl (hb hby d22_70) ?_
  intro v7 T7 lc7 X7 N7 hQ7
  obtain ⟨rfl, e7⟩ := hQ7
  refine own_ifYes X7 hx (pc' := 80) (hb hby d22_73) ((if0 _ _).trans (flt (by decide : ¬ ((0 : Int32) < (0 : Int32)))).2.1) (by decide) (by decide) ?_
  refine own_iconst X7 hx (v := (0 : Int32)) (hb hby d22_80) rfl ?_
  show Goes _ _ _ _ _ _ (T7.setTop (mkF m 81 #[.val (.ref a1), .val (.ref a2), .val (.int ((3 : Int32) - (1 : Int32))), .val (.ref t), .val (.ref t2), .val (.int (0 : Int32)), .val (.int (1 : Int32)), .val (.int (0 : Int32))] [(.int (0 : Int32))]))
  exact own_retN X7 hx (t := .boolean) N7 hlk (by decide) (by decide) hret (by simp) (hb hby d22_81) (by rw [e7]; exact ⟨rfl, rfl⟩)
def Q203 (Z : State) (a1 : Addr) (a2 : Addr) (t : Addr) (k : ClassId) (x0 : Int32) (x1 : Int32) (x2 : Int32) (t2 : Addr) (k2 : ClassId) (zc : Int32) (h0 : Heap) (n0 : Nat) (v : Option Value) (h : Heap) : Prop :=
  (v = some (.int (0 : Int32)) ∧ h = h0)
theorem ef_203 (m : MethodId) (a1 : Addr) (a2 : Addr) : entryFrame m #[(.ref a1), (.ref a2)] 2 = mkF m 0 #[.val (.ref a1), .val (.ref a2)] [] := by first | (simp [entryFrame, mkF, argsToLocals, Value.category]; done) | rfl
set_option maxRecDepth 65536 in
set_option maxHeartbeats 40000000 in
theorem rm203 (l : Launch) (Z : State) (a0 : Array Value) (hw : ∀ d ∈ tables_1, d.before a0 Z = true) (ws : List Jvm.Cond) (a1 : Addr) (a2 : Addr) (t : Addr) (k : ClassId) (x0 : Int32) (x1 : Int32) (x2 : Int32) (t2 : Addr) (k2 : ClassId) (zc : Int32) (h0 : Heap) (n0 : Nat) (O0 : Old Z n0 h0) (SF : Start Z zc) (f0 : Exa Z h0 a1 "java/lang/String") (f1 : Fld Z h0 a1 "java/lang/String" "value" "[B" (.ref t)) (f2 : Fld Z h0 a1 "java/lang/String" "coder" "B" (.int (0 : Int32))) (f3 : Arv Z h0 t k .byte (3 : Int32) [(.int x0), (.int x1), (.int x2)] (.int (0 : Int32))) (f4 : Exa Z h0 a2 "java/lang/String") (f5 : Fld Z h0 a2 "java/lang/String" "value" "[B" (.ref t2)) (f6 : Fld Z h0 a2 "java/lang/String" "coder" "B" (.int (0 : Int32))) (f7 : Arv Z h0 t2 k2 .byte (1 : Int32) [(.int (58 : Int32))] (.int (0 : Int32))) (hpe : ¬ (x2 = (58 : Int32))) :
    Meets l (⟨"java/lang/String", "endsWith", "(Ljava/lang/String;)Z"⟩ : MethodName) jdk_42_method_77_code 2 (some .boolean) ws ({ frames := 3, cells := 0, slots := 0, locals := 46 } : Room) ({ frames := 3, cells := 0, slots := 0, locals := 46 } : Room).cells ({ frames := 3, cells := 0, slots := 0, locals := 46 } : Room).slots Z #[(.ref a1), (.ref a2)] h0 n0 (Q203 Z a1 a2 t k x0 x1 x2 t2 k2 zc h0 n0) := by
  refine Meets.of (F := fun m => mkF m 0 #[.val (.ref a1), .val (.ref a2)] []) (plainFor_of_name pn_0) (fun m => ef_203 m a1 a2) ?_
  intro p e s m below meth c T0 hx hby hml hown0 hnm hret hlk hZ X0 e0
  have hown : s.vm.findClass "java/lang/String" = some m.cls := hown0
  have N0 := Fr.nil n0
  obtain ⟨z0, hzc, -⟩ := SF
  show Goes _ _ _ _ _ _ (T0.setTop (mkF m 0 #[.val (.ref a1), .val (.ref a2)] []))
  refine own_aloadN X0 hx (hb hby d20_0) rfl rfl ?_
  refine own_aloadN X0 hx (hb hby d20_1) rfl rfl ?_
  refine own_aloadN X0 hx (hb hby d20_2) rfl rfl ?_
  refine own_virtual X0 hx hZ hown (y := (⟨"java/lang/String", "length", "()I"⟩ : MethodName)) (z := (⟨"java/lang/String", "length", "()I"⟩ : MethodName)) (hw _ (List.mem_of_getElem? (i := 102) rfl)) (hw _ (List.mem_of_getElem? (i := 103) rfl)) (notFace_of_selects (args := #[]) (mvT hZ (hw _ (List.mem_of_getElem? (i := 105) rfl)))) (hw _ (List.mem_of_getElem? (i := 105) rfl)) (hw _ (List.mem_of_getElem? (i := 104) rfl)) (hw _ (List.mem_of_getElem? (i := 8) rfl)) (hw _ (List.mem_of_getElem? (i := 106) rfl)) (a := a1) f0 (by decide) (W := 2) (by decide) (by decide) N0 e0 (by rw [hml]; rfl) (argsL := []) (rest := [(.ref a2), (.ref a1)]) (lenOf pd_6 rfl) (Nat.le_of_eq rfl) (by decide) (by decide) (rm213 l Z a0 hw [] a1 t k x0 x1 x2 zc h0 n0 O0 ⟨z0, hzc, trivial⟩ f0 f1 f2 f3) rfl (hb hby d20_3) ?_
  intro v1 T1 lc1 X1 N1 hQ1
  obtain ⟨rfl, e1⟩ := hQ1
  refine own_aloadN X1 hx (hb hby d20_6) rfl rfl ?_
  refine own_virtual X1 hx hZ hown (y := (⟨"java/lang/String", "length", "()I"⟩ : MethodName)) (z := (⟨"java/lang/String", "length", "()I"⟩ : MethodName)) (hw _ (List.mem_of_getElem? (i := 102) rfl)) (hw _ (List.mem_of_getElem? (i := 103) rfl)) (notFace_of_selects (args := #[]) (mvT hZ (hw _ (List.mem_of_getElem? (i := 105) rfl)))) (hw _ (List.mem_of_getElem? (i := 105) rfl)) (hw _ (List.mem_of_getElem? (i := 104) rfl)) (hw _ (List.mem_of_getElem? (i := 8) rfl)) (hw _ (List.mem_of_getElem? (i := 106) rfl)) (a := a2) f4 (by decide) (W := 3) (by decide) (by decide) N1 e1 (by rw [hml]; rfl) (argsL := []) (rest := [(.int (3 : Int32)), (.ref a2), (.ref a1)]) (lenOf pd_6 rfl) (Nat.le_of_eq rfl) (by decide) (by decide) (rm211 l Z a0 hw [] a2 t2 k2 (58 : Int32) zc h0 n0 O0 ⟨z0, hzc, trivial⟩ f4 f5 f6 f7) rfl (hb hby d20_7) ?_
  intro v2 T2 lc2 X2 N2 hQ2
  obtain ⟨rfl, e2⟩ := hQ2
  refine own_isub X2 hx (hb hby d20_10) ?_
  refine own_virtual X2 hx hZ hown (y := (⟨"java/lang/String", "startsWith", "(Ljava/lang/String;I)Z"⟩ : MethodName)) (z := (⟨"java/lang/String", "startsWith", "(Ljava/lang/String;I)Z"⟩ : MethodName)) (hw _ (List.mem_of_getElem? (i := 107) rfl)) (hw _ (List.mem_of_getElem? (i := 108) rfl)) (notFace_of_selects (args := #[]) (mvT hZ (hw _ (List.mem_of_getElem? (i := 110) rfl)))) (hw _ (List.mem_of_getElem? (i := 110) rfl)) (hw _ (List.mem_of_getElem? (i := 109) rfl)) (hw _ (List.mem_of_getElem? (i := 8) rfl)) (hw _ (List.mem_of_getElem? (i := 111) rfl)) (a := a1) f0 (by decide) (W := 0) (by decide) (by decide) N2 e2 (by rw [hml]; rfl) (argsL := [(.ref a2), (.int ((3 : Int32) - (1 : Int32)))]) (rest := []) (lenOf pd_7 rfl) (Nat.le_of_eq rfl) (by decide) (by decide) (rm223 l Z a0 hw [] a1 a2 t k x0 x1 x2 t2 k2 zc h0 n0 O0 ⟨z0, hzc, trivial⟩ f0 f1 f2 f3 f4 f5 f6 f7 hpe) rfl (hb hby d20_11) ?_
  intro v3 T3 lc3 X3 N3 hQ3
  obtain ⟨rfl, e3⟩ := hQ3
  show Goes _ _ _ _ _ _ (T3.setTop (mkF m 14 #[.val (.ref a1), .val (.ref a2)] [(.int (0 : Int32))]))
  exact own_retN X3 hx (t := .boolean) N3 hlk (by decide) (by decide) hret (by simp) (hb hby d20_14) (by rw [e3]; exact ⟨rfl, rfl⟩)
def Q103 (Z : State) (a1 : Addr) (a2 : Addr) (t : Addr) (k : ClassId) (x0 : Int32) (x1 : Int32) (x2 : Int32) (zc : Int32) (h0 : Heap) (n0 : Nat) (v : Option Value) (h : Heap) : Prop :=
  (v = some (.ref a1) ∧ Keep h0 h [])
theorem ef_103 (m : MethodId) (a1 : Addr) (a2 : Addr) : entryFrame m #[(.ref a1), (.ref a2)] 2 = mkF m 0 #[.val (.ref a1), .val (.ref a2)] [] := by first | (simp [entryFrame, mkF, argsToLocals, Value.category]; done) | rfl
set_option maxRecDepth 65536 in
set_option maxHeartbeats 40000000 in
theorem rm103 (l : Launch) (Z : State) (a0 : Array Value) (hw : ∀ d ∈ tables_1, d.before a0 Z = true) (hEL : EW Z a0 consts_1) (ws : List Jvm.Cond) (a1 : Addr) (a2 : Addr) (t : Addr) (k : ClassId) (x0 : Int32) (x1 : Int32) (x2 : Int32) (zc : Int32) (h0 : Heap) (n0 : Nat) (O0 : Old Z n0 h0) (SF : Start Z zc) (f0 : Exa Z h0 a1 "java/lang/String") (f1 : Fld Z h0 a1 "java/lang/String" "value" "[B" (.ref t)) (f2 : Fld Z h0 a1 "java/lang/String" "coder" "B" (.int (0 : Int32))) (f3 : Arv Z h0 t k .byte (3 : Int32) [(.int x0), (.int x1), (.int x2)] (.int (0 : Int32))) (hpa0 : ¬ (x0 = (45 : Int32) ∧ x1 = (62 : Int32))) (hpa1 : ¬ (x1 = (45 : Int32) ∧ x2 = (62 : Int32))) (hpc0 : ¬ (x0 = (58 : Int32) ∧ x1 = (58 : Int32))) (hpc1 : ¬ (x1 = (58 : Int32) ∧ x2 = (58 : Int32))) :
    MeetsH l (⟨"com/example/fuseline/fuseline/CircuitKey", "checkedPart", "(Ljava/lang/String;Ljava/lang/String;)Ljava/lang/String;"⟩ : MethodName) prog_10_method_8_code 2 (some (.object "java/lang/String")) ws ({ frames := 4, cells := 4, slots := 24, locals := 62 } : Room) ({ frames := 4, cells := 4, slots := 24, locals := 62 } : Room).cells ({ frames := 4, cells := 4, slots := 24, locals := 62 } : Room).slots Z consts_1 #[(.ref a1), (.ref a2)] h0 n0 (Q103 Z a1 a2 t k x0 x1 x2 zc h0 n0) := by
  refine MeetsH.of (F := fun m => mkF m 0 #[.val (.ref a1), .val (.ref a2)] []) (plainFor_of_name pn_4) (fun m => ef_103 m a1 a2) ?_
  intro p e s m below meth c T0 hx hby hml hown0 hnm hret hlk hZ hS0 hC0 X0 e0
  have hown : s.vm.findClass "com/example/fuseline/fuseline/CircuitKey" = some m.cls := hown0
  have N0 := Fr.nil n0
  have KC0 := Keep.refl h0 []
  have C0 := CHr.refl hC0
  obtain ⟨z0, hzc, -⟩ := SF
  show Goes _ _ _ _ _ _ (T0.setTop (mkF m 0 #[.val (.ref a1), .val (.ref a2)] []))
  refine own_aloadN X0 hx (hb hby d10_0) rfl rfl ?_
  refine own_aloadN X0 hx (hb hby d10_1) rfl rfl ?_
  refine own_callS X0 hx hZ hown (y := (⟨"java/util/Objects", "requireNonNull", "(Ljava/lang/Object;Ljava/lang/String;)Ljava/lang/Object;"⟩ : MethodName)) (hw _ (List.mem_of_getElem? (i := 49) rfl)) (hw _ (List.mem_of_getElem? (i := 50) rfl)) (hw _ (List.mem_of_getElem? (i := 51) rfl)) (hw _ (List.mem_of_getElem? (i := 52) rfl)) (by decide) (W := 0) (by decide) (by decide) N0 e0 (by rw [hml]; rfl) (argsL := [(.ref a1), (.ref a2)]) (rest := []) (lenOf pd_8 rfl) (Nat.le_of_eq rfl) (by decide) (by decide) (rm11 l Z a0 hw [] a1 a2 h0 n0 O0) rfl (hb hby d10_2) ?_
  intro v1 T1 lc1 X1 N1 hQ1
  obtain ⟨rfl, e1⟩ := hQ1
  refine own_pop X1 hx (hb hby d10_5) rfl ?_
  refine own_aloadN X1 hx (hb hby d10_6) rfl rfl ?_
  refine own_virtual X1 hx hZ hown (y := (⟨"java/lang/String", "isEmpty", "()Z"⟩ : MethodName)) (z := (⟨"java/lang/String", "isEmpty", "()Z"⟩ : MethodName)) (hw _ (List.mem_of_getElem? (i := 53) rfl)) (hw _ (List.mem_of_getElem? (i := 54) rfl)) (notFace_of_selects (args := #[]) (mvT hZ (hw _ (List.mem_of_getElem? (i := 56) rfl)))) (hw _ (List.mem_of_getElem? (i := 56) rfl)) (hw _ (List.mem_of_getElem? (i := 55) rfl)) (hw _ (List.mem_of_getElem? (i := 8) rfl)) (hw _ (List.mem_of_getElem? (i := 57) rfl)) (a := a1) f0 (by decide) (W := 0) (by decide) (by decide) N1 e1 (by rw [hml]; rfl) (argsL := []) (rest := []) (lenOf pd_2 rfl) (Nat.le_of_eq rfl) (by decide) (by decide) (rm123 l Z a0 hw [] a1 t k x0 x1 x2 zc h0 n0 O0 ⟨z0, hzc, trivial⟩ f0 f1 f2 f3) rfl (hb hby d10_7) ?_
  intro v2 T2 lc2 X2 N2 hQ2
  obtain ⟨rfl, e2⟩ := hQ2
  refine own_ifNo X2 hx (hb hby d10_10) ((if0 _ _).trans (teq (by decide : (0 : Int32) = (0 : Int32))).2) ?_
  refine own_aloadN X2 hx (hb hby d10_13) rfl rfl ?_
  refine own_ldcH X2 hx hZ hown hS0 (Nat.zero_le _) (hw _ (List.mem_of_getElem? (i := 58) rfl)) (own_wS hw) hEL (by simp [consts_1]) C0.1 e2 (cs := tx2) tx2_t tx2_z tx2_4 tx2_5 (n := 8) (hb hby d10_14) (by decide +kernel) (by decide) (by decide) (by decide) (fun sa3 T3 h3 k1_3 X3 hS3 hk3_ hZ hown e3 E3 D3 I3 => ?_)
  have E4_a1 := f0.ext E3
  have F4_value_a1 := f1.ext E3
  have F4_coder_a1 := f2.ext E3
  have A4_t := f3.ext E3
  have O4 := O0.ext E3
  have KC4 := KC0.ext E3
  have CC3 := C0.trans D3
  have KB5 := Keep.refl h3 []
  show Goes _ _ _ _ _ _ (T3.setTop (mkF m 16 #[.val (.ref a1), .val (.ref a2)] [(.ref sa3), (.ref a1)]))
  obtain ⟨t6, kb6, UE6, UV6, UC6, UA6, -⟩ := id I3
  have UB6 : Arv Z h3 t6 kb6 .byte (2 : Int32) [(.int (45 : Int32)), (.int (62 : Int32))] (.int (0 : Int32)) := UA6
  refine own_virtual X3 hx hZ hown (y := (⟨"java/lang/String", "contains", "(Ljava/lang/CharSequence;)Z"⟩ : MethodName)) (z := (⟨"java/lang/String", "contains", "(Ljava/lang/CharSequence;)Z"⟩ : MethodName)) (hw _ (List.mem_of_getElem? (i := 59) rfl)) (hw _ (List.mem_of_getElem? (i := 60) rfl)) (notFace_of_selects (args := #[]) (mvT hZ (hw _ (List.mem_of_getElem? (i := 62) rfl)))) (hw _ (List.mem_of_getElem? (i := 62) rfl)) (hw _ (List.mem_of_getElem? (i := 61) rfl)) (hw _ (List.mem_of_getElem? (i := 8) rfl)) (hw _ (List.mem_of_getElem? (i := 63) rfl)) (a := a1) E4_a1 (by decide) (W := 0) (by decide) (by decide) N2 e3 (by rw [hml]; rfl) (argsL := [(.ref sa3)]) (rest := []) (lenOf pd_9 rfl) (Nat.le_of_eq rfl) (by decide) (by decide) (rm133a l Z a0 hw [] a1 sa3 t k x0 x1 x2 t6 kb6 zc h3 n0 O4 ⟨z0, hzc, trivial⟩ E4_a1 F4_value_a1 F4_coder_a1 A4_t (IsStr.exa I3) UV6 UC6 UB6 hpa0 hpa1) rfl (hb hby d10_16) ?_
  intro v7 T7 lc7 X7 N7 hQ7
  obtain ⟨rfl, e7⟩ := hQ7
  refine own_ifNo X7 hx (hb hby d10_19) ((if0 _ _).trans (teq (by decide : (0 : Int32) = (0 : Int32))).2) ?_
  refine own_aloadN X7 hx (hb hby d10_22) rfl rfl ?_
  refine own_ldcH X7 hx hZ hown hS3 hk3_ (hw _ (List.mem_of_getElem? (i := 95) rfl)) (own_wS hw) hEL (by simp [consts_1]) CC3.1 e7 (cs := tx3) tx3_t tx3_z tx3_4 tx3_5 (n := 8) (hb hby d10_23) (by decide +kernel) (by decide) (by decide) (by decide) (fun sa8 T8 h8 k1_8 X8 hS8 hk8_ hZ hown e8 E8 D8 I8 => ?_)
  have E9_a1 := E4_a1.ext E8
  have F9_value_a1 := F4_value_a1.ext E8
  have F9_coder_a1 := F4_coder_a1.ext E8
  have A9_t := A4_t.ext E8
  have O9 := O4.ext E8
  have KC9 := KB5.ext E8
  have CC8 := CC3.trans D8
  have KQ10 := KC4.trans KC9 all0
  have KB10 := Keep.refl h8 []
  show Goes _ _ _ _ _ _ (T8.setTop (mkF m 25 #[.val (.ref a1), .val (.ref a2)] [(.ref sa8), (.ref a1)]))
  obtain ⟨t11, kb11, UE11, UV11, UC11, UA11, -⟩ := id I8
  have UB11 : Arv Z h8 t11 kb11 .byte (2 : Int32) [(.int (58 : Int32)), (.int (58 : Int32))] (.int (0 : Int32)) := UA11
  refine own_virtual X8 hx hZ hown (y := (⟨"java/lang/String", "contains", "(Ljava/lang/CharSequence;)Z"⟩ : MethodName)) (z := (⟨"java/lang/String", "contains", "(Ljava/lang/CharSequence;)Z"⟩ : MethodName)) (hw _ (List.mem_of_getElem? (i := 59) rfl)) (hw _ (List.mem_of_getElem? (i := 60) rfl)) (notFace_of_selects (args := #[]) (mvT hZ (hw _ (List.mem_of_getElem? (i := 62) rfl)))) (hw _ (List.mem_of_getElem? (i := 62) rfl)) (hw _ (List.mem_of_getElem? (i := 61) rfl)) (hw _ (List.mem_of_getElem? (i := 8) rfl)) (hw _ (List.mem_of_getElem? (i := 63) rfl)) (a := a1) E9_a1 (by decide) (W := 0) (by decide) (by decide) N7 e8 (by rw [hml]; rfl) (argsL := [(.ref sa8)]) (rest := []) (lenOf pd_9 rfl) (Nat.le_of_eq rfl) (by decide) (by decide) (rm133c l Z a0 hw [] a1 sa8 t k x0 x1 x2 t11 kb11 zc h8 n0 O9 ⟨z0, hzc, trivial⟩ E9_a1 F9_value_a1 F9_coder_a1 A9_t (IsStr.exa I8) UV11 UC11 UB11 hpc0 hpc1) rfl (hb hby d10_25) ?_
  intro v12 T12 lc12 X12 N12 hQ12
  obtain ⟨rfl, e12⟩ := hQ12
  refine own_ifYes X12 hx (pc' := 46) (hb hby d10_28) ((if0 _ _).trans (teq (by decide : (0 : Int32) = (0 : Int32))).1) (by decide) (by decide) ?_
  refine own_aloadN X12 hx (hb hby d10_46) rfl rfl ?_
  show Goes _ _ _ _ _ _ (T12.setTop (mkF m 47 #[.val (.ref a1), .val (.ref a2)] [(.ref a1)]))
  exact own_retRH X12 hx hS8 (by rw [e12]; exact hk8_) hZ hEL (by rw [e12]; exact CC8) N12 hlk (by decide) (by decide) hret rfl rfl rfl (hb hby d10_47) (by rw [e12]; exact ⟨rfl, (KQ10.trans KB10 all0)⟩)
def Q93 (Z : State) (a1 : Addr) (t : Addr) (k : ClassId) (x0 : Int32) (x1 : Int32) (x2 : Int32) (zc : Int32) (h0 : Heap) (n0 : Nat) (v : Option Value) (h : Heap) : Prop :=
  (v = some (.ref a1) ∧ Keep h0 h [])
theorem ef_93 (m : MethodId) (a1 : Addr) : entryFrame m #[(.ref a1)] 1 = mkF m 0 #[.val (.ref a1)] [] := by first | (simp [entryFrame, mkF, argsToLocals, Value.category]; done) | rfl
set_option maxRecDepth 65536 in
set_option maxHeartbeats 40000000 in
theorem rm93 (l : Launch) (Z : State) (a0 : Array Value) (hw : ∀ d ∈ tables_1, d.before a0 Z = true) (hEL : EW Z a0 consts_1) (ws : List Jvm.Cond) (a1 : Addr) (t : Addr) (k : ClassId) (x0 : Int32) (x1 : Int32) (x2 : Int32) (zc : Int32) (h0 : Heap) (n0 : Nat) (O0 : Old Z n0 h0) (SF : Start Z zc) (f0 : Exa Z h0 a1 "java/lang/String") (f1 : Fld Z h0 a1 "java/lang/String" "value" "[B" (.ref t)) (f2 : Fld Z h0 a1 "java/lang/String" "coder" "B" (.int (0 : Int32))) (f3 : Arv Z h0 t k .byte (3 : Int32) [(.int x0), (.int x1), (.int x2)] (.int (0 : Int32))) (hpa0 : ¬ (x0 = (45 : Int32) ∧ x1 = (62 : Int32))) (hpa1 : ¬ (x1 = (45 : Int32) ∧ x2 = (62 : Int32))) (hpc0 : ¬ (x0 = (58 : Int32) ∧ x1 = (58 : Int32))) (hpc1 : ¬ (x1 = (58 : Int32) ∧ x2 = (58 : Int32))) (hpe : ¬ (x2 = (58 : Int32))) :
    MeetsH l (⟨"com/example/fuseline/fuseline/CircuitKey", "checkedService", "(Ljava/lang/String;)Ljava/lang/String;"⟩ : MethodName) prog_10_method_7_code 1 (some (.object "java/lang/String")) ws ({ frames := 5, cells := 8, slots := 64, locals := 75 } : Room) ({ frames := 5, cells := 8, slots := 64, locals := 75 } : Room).cells ({ frames := 5, cells := 8, slots := 64, locals := 75 } : Room).slots Z consts_1 #[(.ref a1)] h0 n0 (Q93 Z a1 t k x0 x1 x2 zc h0 n0) := by
  refine MeetsH.of (F := fun m => mkF m 0 #[.val (.ref a1)] []) (plainFor_of_name pn_4) (fun m => ef_93 m a1) ?_
  intro p e s m below meth c T0 hx hby hml hown0 hnm hret hlk hZ hS0 hC0 X0 e0
  have hown : s.vm.findClass "com/example/fuseline/fuseline/CircuitKey" = some m.cls := hown0
  have N0 := Fr.nil n0
  have KC0 := Keep.refl h0 []
  have C0 := CHr.refl hC0
  obtain ⟨z0, hzc, -⟩ := SF
  show Goes _ _ _ _ _ _ (T0.setTop (mkF m 0 #[.val (.ref a1)] []))
  refine own_aloadN X0 hx (hb hby d9_0) rfl rfl ?_
  refine own_ldcH X0 hx hZ hown hS0 (Nat.zero_le _) (hw _ (List.mem_of_getElem? (i := 45) rfl)) (own_wS hw) hEL (by simp [consts_1]) C0.1 e0 (cs := tx1) tx1_t tx1_z tx1_4 tx1_5 (n := 28) (hb hby d9_1) (by decide +kernel) (by decide) (by decide) (by decide) (fun sa1 T1 h1 k1_1 X1 hS1 hk1_ hZ hown e1 E1 D1 I1 => ?_)
  have E2_a1 := f0.ext E1
  have F2_value_a1 := f1.ext E1
  have F2_coder_a1 := f2.ext E1
  have A2_t := f3.ext E1
  have O2 := O0.ext E1
  have KC2 := KC0.ext E1
  have CC1 := C0.trans D1
  have KB3 := Keep.refl h1 []
  refine own_callSH X1 hx hZ hown hS1 hk1_ (y := (⟨"com/example/fuseline/fuseline/CircuitKey", "checkedPart", "(Ljava/lang/String;Ljava/lang/String;)Ljava/lang/String;"⟩ : MethodName)) (hw _ (List.mem_of_getElem? (i := 46) rfl)) (hw _ (List.mem_of_getElem? (i := 47) rfl)) (hw _ (List.mem_of_getElem? (i := 43) rfl)) (hw _ (List.mem_of_getElem? (i := 48) rfl)) hEL CC1.1 (by decide) (W := 0) (by decide) (by decide) N0 e1 (by rw [hml]; rfl) (argsL := [(.ref a1), (.ref sa1)]) (rest := []) (lenOf pd_10 rfl) (Nat.le_of_eq rfl) (by decide) (by decide) (rm103 l Z a0 hw hEL [] a1 sa1 t k x0 x1 x2 zc h1 n0 O2 ⟨z0, hzc, trivial⟩ E2_a1 F2_value_a1 F2_coder_a1 A2_t hpa0 hpa1 hpc0 hpc1) rfl (hb hby d9_3) ?_
  intro v4 T4 lc4 k1_4 X4 hS4 hk4_ hZ hown N4 D4 hQ4
  have CC4 := CC1.trans D4
  obtain ⟨rfl, K4⟩ := hQ4
  have E5_a1 := E2_a1.keep K4
  have F5_value_a1 := F2_value_a1.keep K4 nin0
  have F5_coder_a1 := F2_coder_a1.keep K4 nin0
  have A5_t := A2_t.keep K4 nin0
  have O5 := O2.keep K4 all0
  have hk5 := Nat.le_trans hk1_ K4.1
  have KC5 := KB3.trans K4 all0
  have KQ6 := KC2.trans KC5 all0
  have KB6 := Keep.refl T4.heap []
  refine own_pop X4 hx (hb hby d9_6) rfl ?_
  refine own_aloadN X4 hx (hb hby d9_7) rfl rfl ?_
  refine own_ldcH X4 hx hZ hown hS4 hk4_ (hw _ (List.mem_of_getElem? (i := 96) rfl)) (own_wS hw) hEL (by simp [consts_1]) CC4.1 rfl (cs := tx4) tx4_t tx4_z tx4_4 tx4_5 (n := 4) (hb hby d9_8) (by decide +kernel) (by decide) (by decide) (by decide) (fun sa7 T7 h7 k1_7 X7 hS7 hk7_ hZ hown e7 E7 D7 I7 => ?_)
  have E8_a1 := E5_a1.ext E7
  have F8_value_a1 := F5_value_a1.ext E7
  have F8_coder_a1 := F5_coder_a1.ext E7
  have A8_t := A5_t.ext E7
  have O8 := O5.ext E7
  have KC8 := KB6.ext E7
  have CC7 := CC4.trans D7
  have KQ9 := KQ6.trans KC8 all0
  have KB9 := Keep.refl h7 []
  show Goes _ _ _ _ _ _ (T7.setTop (mkF m 10 #[.val (.ref a1)] [(.ref sa7), (.ref a1)]))
  obtain ⟨t10, kb10, UE10, UV10, UC10, UA10, -⟩ := id I7
  have UB10 : Arv Z h7 t10 kb10 .byte (1 : Int32) [(.int (58 : Int32))] (.int (0 : Int32)) := UA10
  refine own_virtual X7 hx hZ hown (y := (⟨"java/lang/String", "endsWith", "(Ljava/lang/String;)Z"⟩ : MethodName)) (z := (⟨"java/lang/String", "endsWith", "(Ljava/lang/String;)Z"⟩ : MethodName)) (hw _ (List.mem_of_getElem? (i := 97) rfl)) (hw _ (List.mem_of_getElem? (i := 98) rfl)) (notFace_of_selects (args := #[]) (mvT hZ (hw _ (List.mem_of_getElem? (i := 100) rfl)))) (hw _ (List.mem_of_getElem? (i := 100) rfl)) (hw _ (List.mem_of_getElem? (i := 99) rfl)) (hw _ (List.mem_of_getElem? (i := 8) rfl)) (hw _ (List.mem_of_getElem? (i := 101) rfl)) (a := a1) E8_a1 (by decide) (W := 0) (by decide) (by decide) N4 e7 (by rw [hml]; rfl) (argsL := [(.ref sa7)]) (rest := []) (lenOf pd_11 rfl) (Nat.le_of_eq rfl) (by decide) (by decide) (rm203 l Z a0 hw [] a1 sa7 t k x0 x1 x2 t10 kb10 zc h7 n0 O8 ⟨z0, hzc, trivial⟩ E8_a1 F8_value_a1 F8_coder_a1 A8_t (IsStr.exa I7) UV10 UC10 UB10 hpe) rfl (hb hby d9_10) ?_
  intro v11 T11 lc11 X11 N11 hQ11
  obtain ⟨rfl, e11⟩ := hQ11
  refine own_ifYes X11 hx (pc' := 30) (hb hby d9_13) ((if0 _ _).trans (teq (by decide : (0 : Int32) = (0 : Int32))).1) (by decide) (by decide) ?_
  refine own_aloadN X11 hx (hb hby d9_30) rfl rfl ?_
  show Goes _ _ _ _ _ _ (T11.setTop (mkF m 31 #[.val (.ref a1)] [(.ref a1)]))
  exact own_retRH X11 hx hS7 (by rw [e11]; exact hk7_) hZ hEL (by rw [e11]; exact CC7) N11 hlk (by decide) (by decide) hret rfl rfl rfl (hb hby d9_31) (by rw [e11]; exact ⟨rfl, (KQ9.trans KB9 all0)⟩)
def Q214 (Z : State) (a1 : Addr) (t : Addr) (k : ClassId) (x0 : Int32) (x1 : Int32) (x2 : Int32) (x3 : Int32) (zc : Int32) (h0 : Heap) (n0 : Nat) (v : Option Value) (h : Heap) : Prop :=
  (v = some (.int (4 : Int32)) ∧ h = h0)
theorem ef_214 (m : MethodId) (a1 : Addr) : entryFrame m #[(.ref a1)] 1 = mkF m 0 #[.val (.ref a1)] [] := by first | (simp [entryFrame, mkF, argsToLocals, Value.category]; done) | rfl
set_option maxRecDepth 65536 in
set_option maxHeartbeats 40000000 in
theorem rm214 (l : Launch) (Z : State) (a0 : Array Value) (hw : ∀ d ∈ tables_1, d.before a0 Z = true) (ws : List Jvm.Cond) (a1 : Addr) (t : Addr) (k : ClassId) (x0 : Int32) (x1 : Int32) (x2 : Int32) (x3 : Int32) (zc : Int32) (h0 : Heap) (n0 : Nat) (O0 : Old Z n0 h0) (SF : Start Z zc) (f0 : Exa Z h0 a1 "java/lang/String") (f1 : Fld Z h0 a1 "java/lang/String" "value" "[B" (.ref t)) (f2 : Fld Z h0 a1 "java/lang/String" "coder" "B" (.int (0 : Int32))) (f3 : Arv Z h0 t k .byte (4 : Int32) [(.int x0), (.int x1), (.int x2), (.int x3)] (.int (0 : Int32))) :
    Meets l (⟨"java/lang/String", "length", "()I"⟩ : MethodName) jdk_42_method_54_code 1 (some .int) ws ({ frames := 1, cells := 0, slots := 0, locals := 13 } : Room) ({ frames := 1, cells := 0, slots := 0, locals := 13 } : Room).cells ({ frames := 1, cells := 0, slots := 0, locals := 13 } : Room).slots Z #[(.ref a1)] h0 n0 (Q214 Z a1 t k x0 x1 x2 x3 zc h0 n0) := by
  refine Meets.of (F := fun m => mkF m 0 #[.val (.ref a1)] []) (plainFor_of_name pn_0) (fun m => ef_214 m a1) ?_
  intro p e s m below meth c T0 hx hby hml hown0 hnm hret hlk hZ X0 e0
  have hown : s.vm.findClass "java/lang/String" = some m.cls := hown0
  have N0 := Fr.nil n0
  obtain ⟨z0, hzc, -⟩ := SF
  show Goes _ _ _ _ _ _ (T0.setTop (mkF m 0 #[.val (.ref a1)] []))
  refine own_aloadN X0 hx (hb hby d21_0) rfl rfl ?_
  refine own_getF X0 hx hZ hown (host := "") (Or.inl (hw _ (List.mem_of_getElem? (i := 25) rfl))) Via.refl e0 f1 (hb hby d21_1) (fun T1 X1 e1 => ?_)
  refine own_alen X1 hx hZ e1 f3 (hb hby d21_4) ?_
  refine own_aloadN X1 hx (hb hby d21_5) rfl rfl ?_
  refine own_virtual X1 hx hZ hown (y := (⟨"java/lang/String", "coder", "()B"⟩ : MethodName)) (z := (⟨"java/lang/String", "coder", "()B"⟩ : MethodName)) (hw _ (List.mem_of_getElem? (i := 78) rfl)) (hw _ (List.mem_of_getElem? (i := 79) rfl)) (notFace_of_selects (args := #[]) (mvT hZ (hw _ (List.mem_of_getElem? (i := 81) rfl)))) (hw _ (List.mem_of_getElem? (i := 81) rfl)) (hw _ (List.mem_of_getElem? (i := 80) rfl)) (hw _ (List.mem_of_getElem? (i := 8) rfl)) (hw _ (List.mem_of_getElem? (i := 82) rfl)) (a := a1) f0 (by decide) (W := 1) (by decide) (by decide) N0 e1 (by rw [hml]; rfl) (argsL := []) (rest := [(.int (4 : Int32))]) (lenOf pd_0 rfl) (Nat.le_of_eq rfl) (by decide) (by decide) (rm16 l Z a0 hw [] a1 zc h0 n0 O0 ⟨z0, hzc, trivial⟩ f2) rfl (hb hby d21_6) ?_
  intro v2 T2 lc2 X2 N2 hQ2
  obtain ⟨rfl, e2⟩ := hQ2
  refine own_ishr X2 hx (hb hby d21_9) ?_
  show Goes _ _ _ _ _ _ (T2.setTop (mkF m 10 #[.val (.ref a1)] [(.int ((4 : Int32) >>> ((0 : Int32) &&& 31)))]))
  exact own_retI X2 hx N2 hlk (by decide) (by decide) hret (hb hby d21_10) (by rw [e2]; exact ⟨(by first | rfl | exact congrArg (fun z => some (Value.int z)) (by decide)), rfl⟩)
def Q124 (Z : State) (a1 : Addr) (t : Addr) (k : ClassId) (x0 : Int32) (x1 : Int32) (x2 : Int32) (x3 : Int32) (zc : Int32) (h0 : Heap) (n0 : Nat) (v : Option Value) (h : Heap) : Prop :=
  (v = some (.int (0 : Int32)) ∧ h = h0)
theorem ef_124 (m : MethodId) (a1 : Addr) : entryFrame m #[(.ref a1)] 1 = mkF m 0 #[.val (.ref a1)] [] := by first | (simp [entryFrame, mkF, argsToLocals, Value.category]; done) | rfl
set_option maxRecDepth 65536 in
set_option maxHeartbeats 40000000 in
theorem rm124 (l : Launch) (Z : State) (a0 : Array Value) (hw : ∀ d ∈ tables_1, d.before a0 Z = true) (ws : List Jvm.Cond) (a1 : Addr) (t : Addr) (k : ClassId) (x0 : Int32) (x1 : Int32) (x2 : Int32) (x3 : Int32) (zc : Int32) (h0 : Heap) (n0 : Nat) (O0 : Old Z n0 h0) (SF : Start Z zc) (f0 : Exa Z h0 a1 "java/lang/String") (f1 : Fld Z h0 a1 "java/lang/String" "value" "[B" (.ref t)) (f2 : Fld Z h0 a1 "java/lang/String" "coder" "B" (.int (0 : Int32))) (f3 : Arv Z h0 t k .byte (4 : Int32) [(.int x0), (.int x1), (.int x2), (.int x3)] (.int (0 : Int32))) :
    Meets l (⟨"java/lang/String", "isEmpty", "()Z"⟩ : MethodName) jdk_42_method_55_code 1 (some .boolean) ws ({ frames := 0, cells := 0, slots := 0, locals := 0 } : Room) ({ frames := 0, cells := 0, slots := 0, locals := 0 } : Room).cells ({ frames := 0, cells := 0, slots := 0, locals := 0 } : Room).slots Z #[(.ref a1)] h0 n0 (Q124 Z a1 t k x0 x1 x2 x3 zc h0 n0) := by
  refine Meets.of (F := fun m => mkF m 0 #[.val (.ref a1)] []) (plainFor_of_name pn_0) (fun m => ef_124 m a1) ?_
  intro p e s m below meth c T0 hx hby hml hown0 hnm hret hlk hZ X0 e0
  have hown : s.vm.findClass "java/lang/String" = some m.cls := hown0
  have N0 := Fr.nil n0
  obtain ⟨z0, hzc, -⟩ := SF
  show Goes _ _ _ _ _ _ (T0.setTop (mkF m 0 #[.val (.ref a1)] []))
  refine own_aloadN X0 hx (hb hby d12_0) rfl rfl ?_
  refine own_getF X0 hx hZ hown (host := "") (Or.inl (hw _ (List.mem_of_getElem? (i := 25) rfl))) Via.refl e0 f1 (hb hby d12_1) (fun T1 X1 e1 => ?_)
  refine own_alen X1 hx hZ e1 f3 (hb hby d12_4) ?_
  refine own_ifYes X1 hx (pc' := 12) (hb hby d12_5) ((if0 _ _).trans (feq (by decide : ¬ ((4 : Int32) = (0 : Int32)))).2) (by decide) (by decide) ?_
  refine own_iconst X1 hx (v := (0 : Int32)) (hb hby d12_12) rfl ?_
  show Goes _ _ _ _ _ _ (T1.setTop (mkF m 13 #[.val (.ref a1)] [(.int (0 : Int32))]))
  exact own_retN X1 hx (t := .boolean) N0 hlk (by decide) (by decide) hret (by simp) (hb hby d12_13) (by rw [e1]; exact ⟨rfl, rfl⟩)
def Q194a (Z : State) (a1 : Addr) (a3 : Addr) (k : ClassId) (k2 : ClassId) (x0 : Int32) (x1 : Int32) (x2 : Int32) (x3 : Int32) (h0 : Heap) (n0 : Nat) (v : Option Value) (h : Heap) : Prop :=
  (v = some (.int (-1 : Int32)) ∧ h = h0)
theorem ef_194a (m : MethodId) (a1 : Addr) (a3 : Addr) : entryFrame m #[(.ref a1), (.int (4 : Int32)), (.ref a3), (.int (2 : Int32)), (.int (0 : Int32))] 11 = mkF m 0 #[.val (.ref a1), .val (.int (4 : Int32)), .val (.ref a3), .val (.int (2 : Int32)), .val (.int (0 : Int32)), .unset, .unset, .unset, .unset, .unset, .unset] [] := by first | (simp [entryFrame, mkF, argsToLocals, Value.category]; done) | rfl
set_option maxRecDepth 65536 in
set_option maxHeartbeats 40000000 in
theorem rm194a (l : Launch) (Z : State) (a0 : Array Value) (hw : ∀ d ∈ tables_1, d.before a0 Z = true) (ws : List Jvm.Cond) (a1 : Addr) (a3 : Addr) (k : ClassId) (k2 : ClassId) (x0 : Int32) (x1 : Int32) (x2 : Int32) (x3 : Int32) (h0 : Heap) (n0 : Nat) (O0 : Old Z n0 h0) (f0 : Arv Z h0 a1 k .byte (4 : Int32) [(.int x0), (.int x1), (.int x2), (.int x3)] (.int (0 : Int32))) (f1 : Arv Z h0 a3 k2 .byte (2 : Int32) [(.int (45 : Int32)), (.int (62 : Int32))] (.int (0 : Int32))) (hpa0 : ¬ (x0 = (45 : Int32) ∧ x1 = (62 : Int32))) (hpa1 : ¬ (x1 = (45 : Int32) ∧ x2 = (62 : Int32))) (hpa2 : ¬ (x2 = (45 : Int32) ∧ x3 = (62 : Int32))) :
    Meets l (⟨"java/lang/StringLatin1", "indexOf", "([BI[BII)I"⟩ : MethodName) jdk_43_method_25_code 11 (some .int) ws ({ frames := 0, cells := 0, slots := 0, locals := 0 } : Room) ({ frames := 0, cells := 0, slots := 0, locals := 0 } : Room).cells ({ frames := 0, cells := 0, slots := 0, locals := 0 } : Room).slots Z #[(.ref a1), (.int (4 : Int32)), (.ref a3), (.int (2 : Int32)), (.int (0 : Int32))] h0 n0 (Q194a Z a1 a3 k k2 x0 x1 x2 x3 h0 n0) := by
  refine Meets.of (F := fun m => mkF m 0 #[.val (.ref a1), .val (.int (4 : Int32)), .val (.ref a3), .val (.int (2 : Int32)), .val (.int (0 : Int32)), .unset, .unset, .unset, .unset, .unset, .unset] []) (plainFor_of_name pn_2) (fun m => ef_194a m a1 a3) ?_
  intro p e s m below meth c T0 hx hby hml hown0 hnm hret hlk hZ X0 e0
  have hown : s.vm.findClass "java/lang/StringLatin1" = some m.cls := hown0
  have N0 := Fr.nil n0
  show Goes _ _ _ _ _ _ (T0.setTop (mkF m 0 #[.val (.ref a1), .val (.int (4 : Int32)), .val (.ref a3), .val (.int (2 : Int32)), .val (.int (0 : Int32)), .unset, .unset, .unset, .unset, .unset, .unset] []))
  refine own_aloadN X0 hx (hb hby d19_0) rfl rfl ?_
  refine own_iconst X0 hx (v := (0 : Int32)) (hb hby d19_1) rfl ?_
  refine own_baload X0 hx hZ e0 f1 ⟨by decide, by decide⟩ (v := (.int (45 : Int32))) rfl (hb hby d19_2) ?_
  refine own_istore X0 hx (Ls' := #[.val (.ref a1), .val (.int (4 : Int32)), .val (.ref a3), .val (.int (2 : Int32)), .val (.int (0 : Int32)), .val (.int (45 : Int32)), .unset, .unset, .unset, .unset, .unset]) (hb hby d19_3) rfl ?_
  refine own_iloadN X0 hx (hb hby d19_5) rfl ?_
  refine own_iloadN X0 hx (hb hby d19_6) rfl ?_
  refine own_isub X0 hx (hb hby d19_7) ?_
  refine own_istore X0 hx (Ls' := #[.val (.ref a1), .val (.int (4 : Int32)), .val (.ref a3), .val (.int (2 : Int32)), .val (.int (0 : Int32)), .val (.int (45 : Int32)), .val (.int ((4 : Int32) - (2 : Int32))), .unset, .unset, .unset, .unset]) (hb hby d19_8) rfl ?_
  refine own_iload X0 hx (hb hby d19_10) rfl ?_
  refine own_istore X0 hx (Ls' := #[.val (.ref a1), .val (.int (4 : Int32)), .val (.ref a3), .val (.int (2 : Int32)), .val (.int (0 : Int32)), .val (.int (45 : Int32)), .val (.int ((4 : Int32) - (2 : Int32))), .val (.int (0 : Int32)), .unset, .unset, .unset]) (hb hby d19_12) rfl ?_
  refine own_iload X0 hx (hb hby d19_14) rfl ?_
  refine own_iload X0 hx (hb hby d19_16) rfl ?_
  refine own_icmpNo X0 hx (hb hby d19_18) (flt (by decide : ¬ (((4 : Int32) - (2 : Int32)) < (0 : Int32)))).2.2.1 ?_
  refine own_aloadN X0 hx (hb hby d19_21) rfl rfl ?_
  refine own_iload X0 hx (hb hby d19_22) rfl ?_
  refine own_baload X0 hx hZ e0 f0 ⟨by decide, by decide⟩ (v := (.int x0)) rfl (hb hby d19_24) ?_
  refine own_iload X0 hx (hb hby d19_25) rfl ?_
  by_cases hc27_1 : x0 = (45 : Int32)
  ·
    refine own_icmpYes X0 hx (pc' := 52) (hb hby d19_27) (teq (hc27_1 : x0 = (45 : Int32))).1 (by decide) (by decide) ?_
    refine own_iload X0 hx (hb hby d19_52) rfl ?_
    refine own_iload X0 hx (hb hby d19_54) rfl ?_
    refine own_icmpNo X0 hx (hb hby d19_56) (flt (by decide : ¬ (((4 : Int32) - (2 : Int32)) < (0 : Int32)))).2.2.1 ?_
    refine own_iload X0 hx (hb hby d19_59) rfl ?_
    refine own_iconst X0 hx (v := (1 : Int32)) (hb hby d19_61) rfl ?_
    refine own_iadd X0 hx (hb hby d19_62) ?_
    refine own_istore X0 hx (Ls' := #[.val (.ref a1), .val (.int (4 : Int32)), .val (.ref a3), .val (.int (2 : Int32)), .val (.int (0 : Int32)), .val (.int (45 : Int32)), .val (.int ((4 : Int32) - (2 : Int32))), .val (.int (0 : Int32)), .val (.int ((0 : Int32) + (1 : Int32))), .unset, .unset]) (hb hby d19_63) rfl ?_
    refine own_iload X0 hx (hb hby d19_65) rfl ?_
    show Goes _ _ _ _ _ _ (T0.setTop (mkF m 67 #[.val (.ref a1), .val (.int (4 : Int32)), .val (.ref a3), .val (.int (2 : Int32)), .val (.int (0 : Int32)), .val (.int (45 : Int32)), .val (.int ((4 : Int32) - (2 : Int32))), .val (.int (0 : Int32)), .val (.int ((0 : Int32) + (1 : Int32))), .unset, .unset] [(.int ((0 : Int32) + (1 : Int32)))]))
    refine own_iloadN X0 hx (hb hby d19_67) rfl ?_
    refine own_iadd X0 hx (hb hby d19_68) ?_
    refine own_iconst X0 hx (v := (1 : Int32)) (hb hby d19_69) rfl ?_
    refine own_isub X0 hx (hb hby d19_70) ?_
    refine own_istore X0 hx (Ls' := #[.val (.ref a1), .val (.int (4 : Int32)), .val (.ref a3), .val (.int (2 : Int32)), .val (.int (0 : Int32)), .val (.int (45 : Int32)), .val (.int ((4 : Int32) - (2 : Int32))), .val (.int (0 : Int32)), .val (.int ((0 : Int32) + (1 : Int32))), .val (.int ((((0 : Int32) + (1 : Int32)) + (2 : Int32)) - (1 : Int32))), .unset]) (hb hby d19_71) rfl ?_
    refine own_iconst X0 hx (v := (1 : Int32)) (hb hby d19_73) rfl ?_
    refine own_istore X0 hx (Ls' := #[.val (.ref a1), .val (.int (4 : Int32)), .val (.ref a3), .val (.int (2 : Int32)), .val (.int (0 : Int32)), .val (.int (45 : Int32)), .val (.int ((4 : Int32) - (2 : Int32))), .val (.int (0 : Int32)), .val (.int ((0 : Int32) + (1 : Int32))), .val (.int ((((0 : Int32) + (1 : Int32)) + (2 : Int32)) - (1 : Int32))), .val (.int (1 : Int32))]) (hb hby d19_74) rfl ?_
    refine own_iload X0 hx (hb hby d19_76) rfl ?_
    refine own_iload X0 hx (hb hby d19_78) rfl ?_
    refine own_icmpNo X0 hx (hb hby d19_80) (tlt (by decide : ((0 : Int32) + (1 : Int32)) < ((((0 : Int32) + (1 : Int32)) + (2 : Int32)) - (1 : Int32)))).2.1 ?_
    refine own_aloadN X0 hx (hb hby d19_83) rfl rfl ?_
    refine own_iload X0 hx (hb hby d19_84) rfl ?_
    refine own_baload X0 hx hZ e0 f0 ⟨by decide, by decide⟩ (v := (.int x1)) rfl (hb hby d19_86) ?_
    refine own_aloadN X0 hx (hb hby d19_87) rfl rfl ?_
    refine own_iload X0 hx (hb hby d19_88) rfl ?_
    show Goes _ _ _ _ _ _ (T0.setTop (mkF m 90 #[.val (.ref a1), .val (.int (4 : Int32)), .val (.ref a3), .val (.int (2 : Int32)), .val (.int (0 : Int32)), .val (.int (45 : Int32)), .val (.int ((4 : Int32) - (2 : Int32))), .val (.int (0 : Int32)), .val (.int ((0 : Int32) + (1 : Int32))), .val (.int ((((0 : Int32) + (1 : Int32)) + (2 : Int32)) - (1 : Int32))), .val (.int (1 : Int32))] [(.int (1 : Int32)), (.ref a3), (.int x1)]))
    refine own_baload X0 hx hZ e0 f1 ⟨by decide, by decide⟩ (v := (.int (62 : Int32))) rfl (hb hby d19_90) ?_
    by_cases hc91_2 : x1 = (62 : Int32)
    ·
      exact absurd ⟨hc27_1, hc91_2⟩ hpa0
    ·
      refine own_icmpYes X0 hx (pc' := 103) (hb hby d19_91) (feq (hc91_2 : ¬ (x1 = (62 : Int32)))).2 (by decide) (by decide) ?_
      refine own_iload X0 hx (hb hby d19_103) rfl ?_
      refine own_iload X0 hx (hb hby d19_105) rfl ?_
      refine own_icmpYes X0 hx (pc' := 113) (hb hby d19_107) (feq (by decide : ¬ (((0 : Int32) + (1 : Int32)) = ((((0 : Int32) + (1 : Int32)) + (2 : Int32)) - (1 : Int32))))).2 (by decide) (by decide) ?_
      refine own_iinc X0 hx (Ls' := #[.val (.ref a1), .val (.int (4 : Int32)), .val (.ref a3), .val (.int (2 : Int32)), .val (.int (0 : Int32)), .val (.int (45 : Int32)), .val (.int ((4 : Int32) - (2 : Int32))), .val (.int ((0 : Int32) + (1 : Int32))), .val (.int ((0 : Int32) + (1 : Int32))), .val (.int ((((0 : Int32) + (1 : Int32)) + (2 : Int32)) - (1 : Int32))), .val (.int (1 : Int32))]) (hb hby d19_113) rfl rfl ?_
      refine own_goto X0 hx (pc' := 14) (hb hby d19_116) (by decide) (by decide) ?_
      refine own_iload X0 hx (hb hby d19_14) rfl ?_
      refine own_iload X0 hx (hb hby d19_16) rfl ?_
      refine own_icmpNo X0 hx (hb hby d19_18) (flt (by decide : ¬ (((4 : Int32) - (2 : Int32)) < ((0 : Int32) + (1 : Int32))))).2.2.1 ?_
      refine own_aloadN X0 hx (hb hby d19_21) rfl rfl ?_
      refine own_iload X0 hx (hb hby d19_22) rfl ?_
      refine own_baload X0 hx hZ e0 f0 ⟨by decide, by decide⟩ (v := (.int x1)) rfl (hb hby d19_24) ?_
      refine own_iload X0 hx (hb hby d19_25) rfl ?_
      by_cases hc27_3 : x1 = (45 : Int32)
      ·
        refine own_icmpYes X0 hx (pc' := 52) (hb hby d19_27) (teq (hc27_3 : x1 = (45 : Int32))).1 (by decide) (by decide) ?_
        refine own_iload X0 hx (hb hby d19_52) rfl ?_
        refine own_iload X0 hx (hb hby d19_54) rfl ?_
        refine own_icmpNo X0 hx (hb hby d19_56) (flt (by decide : ¬ (((4 : Int32) - (2 : Int32)) < ((0 : Int32) + (1 : Int32))))).2.2.1 ?_
        refine own_iload X0 hx (hb hby d19_59) rfl ?_
        refine own_iconst X0 hx (v := (1 : Int32)) (hb hby d19_61) rfl ?_
        refine own_iadd X0 hx (hb hby d19_62) ?_
        refine own_istore X0 hx (Ls' := #[.val (.ref a1), .val (.int (4 : Int32)), .val (.ref a3), .val (.int (2 : Int32)), .val (.int (0 : Int32)), .val (.int (45 : Int32)), .val (.int ((4 : Int32) - (2 : Int32))), .val (.int ((0 : Int32) + (1 : Int32))), .val (.int (((0 : Int32) + (1 : Int32)) + (1 : Int32))), .val (.int ((((0 : Int32) + (1 : Int32)) + (2 : Int32)) - (1 : Int32))), .val (.int (1 : Int32))]) (hb hby d19_63) rfl ?_
        refine own_iload X0 hx (hb hby d19_65) rfl ?_
        show Goes _ _ _ _ _ _ (T0.setTop (mkF m 67 #[.val (.ref a1), .val (.int (4 : Int32)), .val (.ref a3), .val (.int (2 : Int32)), .val (.int (0 : Int32)), .val (.int (45 : Int32)), .val (.int ((4 : Int32) - (2 : Int32))), .val (.int ((0 : Int32) + (1 : Int32))), .val (.int (((0 : Int32) + (1 : Int32)) + (1 : Int32))), .val (.int ((((0 : Int32) + (1 : Int32)) + (2 : Int32)) - (1 : Int32))), .val (.int (1 : Int32))] [(.int (((0 : Int32) + (1 : Int32)) + (1 : Int32)))]))
        refine own_iloadN X0 hx (hb hby d19_67) rfl ?_
        refine own_iadd X0 hx (hb hby d19_68) ?_
        refine own_iconst X0 hx (v := (1 : Int32)) (hb hby d19_69) rfl ?_
        refine own_isub X0 hx (hb hby d19_70) ?_
        refine own_istore X0 hx (Ls' := #[.val (.ref a1), .val (.int (4 : Int32)), .val (.ref a3), .val (.int (2 : Int32)), .val (.int (0 : Int32)), .val (.int (45 : Int32)), .val (.int ((4 : Int32) - (2 : Int32))), .val (.int ((0 : Int32) + (1 : Int32))), .val (.int (((0 : Int32) + (1 : Int32)) + (1 : Int32))), .val (.int (((((0 : Int32) + (1 : Int32)) + (1 : Int32)) + (2 : Int32)) - (1 : Int32))), .val (.int (1 : Int32))]) (hb hby d19_71) rfl ?_
        refine own_iconst X0 hx (v := (1 : Int32)) (hb hby d19_73) rfl ?_
        refine own_istore X0 hx (Ls' := #[.val (.ref a1), .val (.int (4 : Int32)), .val (.ref a3), .val (.int (2 : Int32)), .val (.int (0 : Int32)), .val (.int (45 : Int32)), .val (.int ((4 : Int32) - (2 : Int32))), .val (.int ((0 : Int32) + (1 : Int32))), .val (.int (((0 : Int32) + (1 : Int32)) + (1 : Int32))), .val (.int (((((0 : Int32) + (1 : Int32)) + (1 : Int32)) + (2 : Int32)) - (1 : Int32))), .val (.int (1 : Int32))]) (hb hby d19_74) rfl ?_
        refine own_iload X0 hx (hb hby d19_76) rfl ?_
        refine own_iload X0 hx (hb hby d19_78) rfl ?_
        refine own_icmpNo X0 hx (hb hby d19_80) (tlt (by decide : (((0 : Int32) + (1 : Int32)) + (1 : Int32)) < (((((0 : Int32) + (1 : Int32)) + (1 : Int32)) + (2 : Int32)) - (1 : Int32)))).2.1 ?_
        refine own_aloadN X0 hx (hb hby d19_83) rfl rfl ?_
        refine own_iload X0 hx (hb hby d19_84) rfl ?_
        refine own_baload X0 hx hZ e0 f0 ⟨by decide, by decide⟩ (v := (.int x2)) rfl (hb hby d19_86) ?_
        refine own_aloadN X0 hx (hb hby d19_87) rfl rfl ?_
        refine own_iload X0 hx (hb hby d19_88) rfl ?_
        show Goes _ _ _ _ _ _ (T0.setTop (mkF m 90 #[.val (.ref a1), .val (.int (4 : Int32)), .val (.ref a3), .val (.int (2 : Int32)), .val (.int (0 : Int32)), .val (.int (45 : Int32)), .val (.int ((4 : Int32) - (2 : Int32))), .val (.int ((0 : Int32) + (1 : Int32))), .val (.int (((0 : Int32) + (1 : Int32)) + (1 : Int32))), .val (.int (((((0 : Int32) + (1 : Int32)) + (1 : Int32)) + (2 : Int32)) - (1 : Int32))), .val (.int (1 : Int32))] [(.int (1 : Int32)), (.ref a3), (.int x2)]))
        refine own_baload X0 hx hZ e0 f1 ⟨by decide, by decide⟩ (v := (.int (62 : Int32))) rfl (hb hby d19_90) ?_
        by_cases hc91_4 : x2 = (62 : Int32)
        ·
          exact absurd ⟨hc27_3, hc91_4⟩ hpa1
        ·
          refine own_icmpYes X0 hx (pc' := 103) (hb hby d19_91) (feq (hc91_4 : ¬ (x2 = (62 : Int32)))).2 (by decide) (by decide) ?_
          refine own_iload X0 hx (hb hby d19_103) rfl ?_
          refine own_iload X0 hx (hb hby d19_105) rfl ?_
          refine own_icmpYes X0 hx (pc' := 113) (hb hby d19_107) (feq (by decide : ¬ ((((0 : Int32) + (1 : Int32)) + (1 : Int32)) = (((((0 : Int32) + (1 : Int32)) + (1 : Int32)) + (2 : Int32)) - (1 : Int32))))).2 (by decide) (by decide) ?_
          refine own_iinc X0 hx (Ls' := #[.val (.ref a1), .val (.int (4 : Int32)), .val (.ref a3), .val (.int (2 : Int32)), .val (.int (0 : Int32)), .val (.int (45 : Int32)), .val (.int ((4 : Int32) - (2 : Int32))), .val (.int (((0 : Int32) + (1 : Int32)) + (1 : Int32))), .val (.int (((0 : Int32) + (1 : Int32)) + (1 : Int32))), .val (.int (((((0 : Int32) + (1 : Int32)) + (1 : Int32)) + (2 : Int32)) - (1 : Int32))), .val (.int (1 : Int32))]) (hb hby d19_113) rfl rfl ?_
          refine own_goto X0 hx (pc' := 14) (hb hby d19_116) (by decide) (by decide) ?_
          refine own_iload X0 hx (hb hby d19_14) rfl ?_
          refine own_iload X0 hx (hb hby d19_16) rfl ?_
          refine own_icmpNo X0 hx (hb hby d19_18) (flt (by decide : ¬ (((4 : Int32) - (2 : Int32)) < (((0 : Int32) + (1 : Int32)) + (1 : Int32))))).2.2.1 ?_
          refine own_aloadN X0 hx (hb hby d19_21) rfl rfl ?_
          refine own_iload X0 hx (hb hby d19_22) rfl ?_
          refine own_baload X0 hx hZ e0 f0 ⟨by decide, by decide⟩ (v := (.int x2)) rfl (hb hby d19_24) ?_
          refine own_iload X0 hx (hb hby d19_25) rfl ?_
          by_cases hc27_5 : x2 = (45 : Int32)
          ·
            refine own_icmpYes X0 hx (pc' := 52) (hb hby d19_27) (teq (hc27_5 : x2 = (45 : Int32))).1 (by decide) (by decide) ?_
            refine own_iload X0 hx (hb hby d19_52) rfl ?_
            refine own_iload X0 hx (hb hby d19_54) rfl ?_
            refine own_icmpNo X0 hx (hb hby d19_56) (flt (by decide : ¬ (((4 : Int32) - (2 : Int32)) < (((0 : Int32) + (1 : Int32)) + (1 : Int32))))).2.2.1 ?_
            refine own_iload X0 hx (hb hby d19_59) rfl ?_
            refine own_iconst X0 hx (v := (1 : Int32)) (hb hby d19_61) rfl ?_
            refine own_iadd X0 hx (hb hby d19_62) ?_
            refine own_istore X0 hx (Ls' := #[.val (.ref a1), .val (.int (4 : Int32)), .val (.ref a3), .val (.int (2 : Int32)), .val (.int (0 : Int32)), .val (.int (45 : Int32)), .val (.int ((4 : Int32) - (2 : Int32))), .val (.int (((0 : Int32) + (1 : Int32)) + (1 : Int32))), .val (.int ((((0 : Int32) + (1 : Int32)) + (1 : Int32)) + (1 : Int32))), .val (.int (((((0 : Int32) + (1 : Int32)) + (1 : Int32)) + (2 : Int32)) - (1 : Int32))), .val (.int (1 : Int32))]) (hb hby d19_63) rfl ?_
            refine own_iload X0 hx (hb hby d19_65) rfl ?_
            show Goes _ _ _ _ _ _ (T0.setTop (mkF m 67 #[.val (.ref a1), .val (.int (4 : Int32)), .val (.ref a3), .val (.int (2 : Int32)), .val (.int (0 : Int32)), .val (.int (45 : Int32)), .val (.int ((4 : Int32) - (2 : Int32))), .val (.int (((0 : Int32) + (1 : Int32)) + (1 : Int32))), .val (.int ((((0 : Int32) + (1 : Int32)) + (1 : Int32)) + (1 : Int32))), .val (.int (((((0 : Int32) + (1 : Int32)) + (1 : Int32)) + (2 : Int32)) - (1 : Int32))), .val (.int (1 : Int32))] [(.int ((((0 : Int32) + (1 : Int32)) + (1 : Int32)) + (1 : Int32)))]))
            refine own_iloadN X0 hx (hb hby d19_67) rfl ?_
            refine own_iadd X0 hx (hb hby d19_68) ?_
            refine own_iconst X0 hx (v := (1 : Int32)) (hb hby d19_69) rfl ?_
            refine own_isub X0 hx (hb hby d19_70) ?_
            refine own_istore X0 hx (Ls' := #[.val (.ref a1), .val (.int (4 : Int32)), .val (.ref a3), .val (.int (2 : Int32)), .val (.int (0 : Int32)), .val (.int (45 : Int32)), .val (.int ((4 : Int32) - (2 : Int32))), .val (.int (((0 : Int32) + (1 : Int32)) + (1 : Int32))), .val (.int ((((0 : Int32) + (1 : Int32)) + (1 : Int32)) + (1 : Int32))), .val (.int ((((((0 : Int32) + (1 : Int32)) + (1 : Int32)) + (1 : Int32)) + (2 : Int32)) - (1 : Int32))), .val (.int (1 : Int32))]) (hb hby d19_71) rfl ?_
            refine own_iconst X0 hx (v := (1 : Int32)) (hb hby d19_73) rfl ?_
            refine own_istore X0 hx (Ls' := #[.val (.ref a1), .val (.int (4 : Int32)), .val (.ref a3), .val (.int (2 : Int32)), .val (.int (0 : Int32)), .val (.int (45 : Int32)), .val (.int ((4 : Int32) - (2 : Int32))), .val (.int (((0 : Int32) + (1 : Int32)) + (1 : Int32))), .val (.int ((((0 : Int32) + (1 : Int32)) + (1 : Int32)) + (1 : Int32))), .val (.int ((((((0 : Int32) + (1 : Int32)) + (1 : Int32)) + (1 : Int32)) + (2 : Int32)) - (1 : Int32))), .val (.int (1 : Int32))]) (hb hby d19_74) rfl ?_
            refine own_iload X0 hx (hb hby d19_76) rfl ?_
            refine own_iload X0 hx (hb hby d19_78) rfl ?_
            refine own_icmpNo X0 hx (hb hby d19_80) (tlt (by decide : ((((0 : Int32) + (1 : Int32)) + (1 : Int32)) + (1 : Int32)) < ((((((0 : Int32) + (1 : Int32)) + (1 : Int32)) + (1 : Int32)) + (2 : Int32)) - (1 : Int32)))).2.1 ?_
            refine own_aloadN X0 hx (hb hby d19_83) rfl rfl ?_
            refine own_iload X0 hx (hb hby d19_84) rfl ?_
            refine own_baload X0 hx hZ e0 f0 ⟨by decide, by decide⟩ (v := (.int x3)) rfl (hb hby d19_86) ?_
            refine own_aloadN X0 hx (hb hby d19_87) rfl rfl ?_
            refine own_iload X0 hx (hb hby d19_88) rfl ?_
            show Goes _ _ _ _ _ _ (T0.setTop (mkF m 90 #[.val (.ref a1), .val (.int (4 : Int32)), .val (.ref a3), .val (.int (2 : Int32)), .val (.int (0 : Int32)), .val (.int (45 : Int32)), .val (.int ((4 : Int32) - (2 : Int32))), .val (.int (((0 : Int32) + (1 : Int32)) + (1 : Int32))), .val (.int ((((0 : Int32) + (1 : Int32)) + (1 : Int32)) + (1 : Int32))), .val (.int ((((((0 : Int32) + (1 : Int32)) + (1 : Int32)) + (1 : Int32)) + (2 : Int32)) - (1 : Int32))), .val (.int (1 : Int32))] [(.int (1 : Int32)), (.ref a3), (.int x3)]))
            refine own_baload X0 hx hZ e0 f1 ⟨by decide, by decide⟩ (v := (.int (62 : Int32))) rfl (hb hby d19_90) ?_
            by_cases hc91_6 : x3 = (62 : Int32)
            ·
              exact absurd ⟨hc27_5, hc91_6⟩ hpa2
            ·
              refine own_icmpYes X0 hx (pc' := 103) (hb hby d19_91) (feq (hc91_6 : ¬ (x3 = (62 : Int32)))).2 (by decide) (by decide) ?_
              refine own_iload X0 hx (hb hby d19_103) rfl ?_
              refine own_iload X0 hx (hb hby d19_105) rfl ?_
              refine own_icmpYes X0 hx (pc' := 113) (hb hby d19_107) (feq (by decide : ¬ (((((0 : Int32) + (1 : Int32)) + (1 : Int32)) + (1 : Int32)) = ((((((0 : Int32) + (1 : Int32)) + (1 : Int32)) + (1 : Int32)) + (2 : Int32)) - (1 : Int32))))).2 (by decide) (by decide) ?_
              refine own_iinc X0 hx (Ls' := #[.val (.ref a1), .val (.int (4 : Int32)), .val (.ref a3), .val (.int (2 : Int32)), .val (.int (0 : Int32)), .val (.int (45 : Int32)), .val (.int ((4 : Int32) - (2 : Int32))), .val (.int ((((0 : Int32) + (1 : Int32)) + (1 : Int32)) + (1 : Int32))), .val (.int ((((0 : Int32) + (1 : Int32)) + (1 : Int32)) + (1 : Int32))), .val (.int ((((((0 : Int32) + (1 : Int32)) + (1 : Int32)) + (1 : Int32)) + (2 : Int32)) - (1 : Int32))), .val (.int (1 : Int32))]) (hb hby d19_113) rfl rfl ?_
              refine own_goto X0 hx (pc' := 14) (hb hby d19_116) (by decide) (by decide) ?_
              refine own_iload X0 hx (hb hby d19_14) rfl ?_
              refine own_iload X0 hx (hb hby d19_16) rfl ?_
              refine own_icmpYes X0 hx (pc' := 119) (hb hby d19_18) (tlt (by decide : ((4 : Int32) - (2 : Int32)) < ((((0 : Int32) + (1 : Int32)) + (1 : Int32)) + (1 : Int32)))).2.2.1 (by decide) (by decide) ?_
              refine own_iconst X0 hx (v := (-1 : Int32)) (hb hby d19_119) rfl ?_
              show Goes _ _ _ _ _ _ (T0.setTop (mkF m 120 #[.val (.ref a1), .val (.int (4 : Int32)), .val (.ref a3), .val (.int (2 : Int32)), .val (.int (0 : Int32)), .val (.int (45 : Int32)), .val (.int ((4 : Int32) - (2 : Int32))), .val (.int ((((0 : Int32) + (1 : Int32)) + (1 : Int32)) + (1 : Int32))), .val (.int ((((0 : Int32) + (1 : Int32)) + (1 : Int32)) + (1 : Int32))), .val (.int ((((((0 : Int32) + (1 : Int32)) + (1 : Int32)) + (1 : Int32)) + (2 : Int32)) - (1 : Int32))), .val (.int (1 : Int32))] [(.int (-1 : Int32))]))
              exact own_retI X0 hx N0 hlk (by decide) (by decide) hret (hb hby d19_120) (by rw [e0]; exact ⟨rfl, rfl⟩)
          ·
            refine own_icmpNo X0 hx (hb hby d19_27) (feq (hc27_5 : ¬ (x2 = (45 : Int32)))).1 ?_
            refine own_iinc X0 hx (Ls' := #[.val (.ref a1), .val (.int (4 : Int32)), .val (.ref a3), .val (.int (2 : Int32)), .val (.int (0 : Int32)), .val (.int (45 : Int32)), .val (.int ((4 : Int32) - (2 : Int32))), .val (.int ((((0 : Int32) + (1 : Int32)) + (1 : Int32)) + (1 : Int32))), .val (.int (((0 : Int32) + (1 : Int32)) + (1 : Int32))), .val (.int (((((0 : Int32) + (1 : Int32)) + (1 : Int32)) + (2 : Int32)) - (1 : Int32))), .val (.int (1 : Int32))]) (hb hby d19_30) rfl rfl ?_
            refine own_iload X0 hx (hb hby d19_33) rfl ?_
            refine own_iload X0 hx (hb hby d19_35) rfl ?_
            refine own_icmpYes X0 hx (pc' := 52) (hb hby d19_37) (tlt (by decide : ((4 : Int32) - (2 : Int32)) < ((((0 : Int32) + (1 : Int32)) + (1 : Int32)) + (1 : Int32)))).2.2.1 (by decide) (by decide) ?_
            refine own_iload X0 hx (hb hby d19_52) rfl ?_
            refine own_iload X0 hx (hb hby d19_54) rfl ?_
            refine own_icmpYes X0 hx (pc' := 113) (hb hby d19_56) (tlt (by decide : ((4 : Int32) - (2 : Int32)) < ((((0 : Int32) + (1 : Int32)) + (1 : Int32)) + (1 : Int32)))).2.2.1 (by decide) (by decide) ?_
            refine own_iinc X0 hx (Ls' := #[.val (.ref a1), .val (.int (4 : Int32)), .val (.ref a3), .val (.int (2 : Int32)), .val (.int (0 : Int32)), .val (.int (45 : Int32)), .val (.int ((4 : Int32) - (2 : Int32))), .val (.int (((((0 : Int32) + (1 : Int32)) + (1 : Int32)) + (1 : Int32)) + (1 : Int32))), .val (.int (((0 : Int32) + (1 : Int32)) + (1 : Int32))), .val (.int (((((0 : Int32) + (1 : Int32)) + (1 : Int32)) + (2 : Int32)) - (1 : Int32))), .val (.int (1 : Int32))]) (hb hby d19_113) rfl rfl ?_
            refine own_goto X0 hx (pc' := 14) (hb hby d19_116) (by decide) (by decide) ?_
            refine own_iload X0 hx (hb hby d19_14) rfl ?_
            refine own_iload X0 hx (hb hby d19_16) rfl ?_
            refine own_icmpYes X0 hx (pc' := 119) (hb hby d19_18) (tlt (by decide : ((4 : Int32) - (2 : Int32)) < (((((0 : Int32) + (1 : Int32)) + (1 : Int32)) + (1 : Int32)) + (1 : Int32)))).2.2.1 (by decide) (by decide) ?_
            refine own_iconst X0 hx (v := (-1 : Int32)) (hb hby d19_119) rfl ?_
            show Goes _ _ _ _ _ _ (T0.setTop (mkF m 120 #[.val (.ref a1), .val (.int (4 : Int32)), .val (.ref a3), .val (.int (2 : Int32)), .val (.int (0 : Int32)), .val (.int (45 : Int32)), .val (.int ((4 : Int32) - (2 : Int32))), .val (.int (((((0 : Int32) + (1 : Int32)) + (1 : Int32)) + (1 : Int32)) + (1 : Int32))), .val (.int (((0 : Int32) + (1 : Int32)) + (1 : Int32))), .val (.int (((((0 : Int32) + (1 : Int32)) + (1 : Int32)) + (2 : Int32)) - (1 : Int32))), .val (.int (1 : Int32))] [(.int (-1 : Int32))]))
            exact own_retI X0 hx N0 hlk (by decide) (by decide) hret (hb hby d19_120) (by rw [e0]; exact ⟨rfl, rfl⟩)
      ·
        refine own_icmpNo X0 hx (hb hby d19_27) (feq (hc27_3 : ¬ (x1 = (45 : Int32)))).1 ?_
        refine own_iinc X0 hx (Ls' := #[.val (.ref a1), .val (.int (4 : Int32)), .val (.ref a3), .val (.int (2 : Int32)), .val (.int (0 : Int32)), .val (.int (45 : Int32)), .val (.int ((4 : Int32) - (2 : Int32))), .val (.int (((0 : Int32) + (1 : Int32)) + (1 : Int32))), .val (.int ((0 : Int32) + (1 : Int32))), .val (.int ((((0 : Int32) + (1 : Int32)) + (2 : Int32)) - (1 : Int32))), .val (.int (1 : Int32))]) (hb hby d19_30) rfl rfl ?_
        refine own_iload X0 hx (hb hby d19_33) rfl ?_
        refine own_iload X0 hx (hb hby d19_35) rfl ?_
        refine own_icmpNo X0 hx (hb hby d19_37) (flt (by decide : ¬ (((4 : Int32) - (2 : Int32)) < (((0 : Int32) + (1 : Int32)) + (1 : Int32))))).2.2.1 ?_
        refine own_aloadN X0 hx (hb hby d19_40) rfl rfl ?_
        refine own_iload X0 hx (hb hby d19_41) rfl ?_
        refine own_baload X0 hx hZ e0 f0 ⟨by decide, by decide⟩ (v := (.int x2)) rfl (hb hby d19_43) ?_
        refine own_iload X0 hx (hb hby d19_44) rfl ?_
        by_cases hc46_7 : x2 = (45 : Int32)
        ·
          refine own_icmpYes X0 hx (pc' := 52) (hb hby d19_46) (teq (hc46_7 : x2 = (45 : Int32))).1 (by decide) (by decide) ?_
          refine own_iload X0 hx (hb hby d19_52) rfl ?_
          refine own_iload X0 hx (hb hby d19_54) rfl ?_
          refine own_icmpNo X0 hx (hb hby d19_56) (flt (by decide : ¬ (((4 : Int32) - (2 : Int32)) < (((0 : Int32) + (1 : Int32)) + (1 : Int32))))).2.2.1 ?_
          refine own_iload X0 hx (hb hby d19_59) rfl ?_
          refine own_iconst X0 hx (v := (1 : Int32)) (hb hby d19_61) rfl ?_
          refine own_iadd X0 hx (hb hby d19_62) ?_
          refine own_istore X0 hx (Ls' := #[.val (.ref a1), .val (.int (4 : Int32)), .val (.ref a3), .val (.int (2 : Int32)), .val (.int (0 : Int32)), .val (.int (45 : Int32)), .val (.int ((4 : Int32) - (2 : Int32))), .val (.int (((0 : Int32) + (1 : Int32)) + (1 : Int32))), .val (.int ((((0 : Int32) + (1 : Int32)) + (1 : Int32)) + (1 : Int32))), .val (.int ((((0 : Int32) + (1 : Int32)) + (2 : Int32)) - (1 : Int32))), .val (.int (1 : Int32))]) (hb hby d19_63) rfl ?_
          refine own_iload X0 hx (hb hby d19_65) rfl ?_
          show Goes _ _ _ _ _ _ (T0.setTop (mkF m 67 #[.val (.ref a1), .val (.int (4 : Int32)), .val (.ref a3), .val (.int (2 : Int32)), .val (.int (0 : Int32)), .val (.int (45 : Int32)), .val (.int ((4 : Int32) - (2 : Int32))), .val (.int (((0 : Int32) + (1 : Int32)) + (1 : Int32))), .val (.int ((((0 : Int32) + (1 : Int32)) + (1 : Int32)) + (1 : Int32))), .val (.int ((((0 : Int32) + (1 : Int32)) + (2 : Int32)) - (1 : Int32))), .val (.int (1 : Int32))] [(.int ((((0 : Int32) + (1 : Int32)) + (1 : Int32)) + (1 : Int32)))]))
          refine own_iloadN X0 hx (hb hby d19_67) rfl ?_
          refine own_iadd X0 hx (hb hby d19_68) ?_
          refine own_iconst X0 hx (v := (1 : Int32)) (hb hby d19_69) rfl ?_
          refine own_isub X0 hx (hb hby d19_70) ?_
          refine own_istore X0 hx (Ls' := #[.val (.ref a1), .val (.int (4 : Int32)), .val (.ref a3), .val (.int (2 : Int32)), .val (.int (0 : Int32)), .val (.int (45 : Int32)), .val (.int ((4 : Int32) - (2 : Int32))), .val (.int (((0 : Int32) + (1 : Int32)) + (1 : Int32))), .val (.int ((((0 : Int32) + (1 : Int32)) + (1 : Int32)) + (1 : Int32))), .val (.int ((((((0 : Int32) + (1 : Int32)) + (1 : Int32)) + (1 : Int32)) + (2 : Int32)) - (1 : Int32))), .val (.int (1 : Int32))]) (hb hby d19_71) rfl ?_
          refine own_iconst X0 hx (v := (1 : Int32)) (hb hby d19_73) rfl ?_
          refine own_istore X0 hx (Ls' := #[.val (.ref a1), .val (.int (4 : Int32)), .val (.ref a3), .val (.int (2 : Int32)), .val (.int (0 : Int32)), .val (.int (45 : Int32)), .val (.int ((4 : Int32) - (2 : Int32))), .val (.int (((0 : Int32) + (1 : Int32)) + (1 : Int32))), .val (.int ((((0 : Int32) + (1 : Int32)) + (1 : Int32)) + (1 : Int32))), .val (.int ((((((0 : Int32) + (1 : Int32)) + (1 : Int32)) + (1 : Int32)) + (2 : Int32)) - (1 : Int32))), .val (.int (1 : Int32))]) (hb hby d19_74) rfl ?_
          refine own_iload X0 hx (hb hby d19_76) rfl ?_
          refine own_iload X0 hx (hb hby d19_78) rfl ?_
          refine own_icmpNo X0 hx (hb hby d19_80) (tlt (by decide : ((((0 : Int32) + (1 : Int32)) + (1 : Int32)) + (1 : Int32)) < ((((((0 : Int32) + (1 : Int32)) + (1 : Int32)) + (1 : Int32)) + (2 : Int32)) - (1 : Int32)))).2.1 ?_
          refine own_aloadN X0 hx (hb hby d19_83) rfl rfl ?_
          refine own_iload X0 hx (hb hby d19_84) rfl ?_
          refine own_baload X0 hx hZ e0 f0 ⟨by decide, by decide⟩ (v := (.int x3)) rfl (hb hby d19_86) ?_
          refine own_aloadN X0 hx (hb hby d19_87) rfl rfl ?_
          refine own_iload X0 hx (hb hby d19_88) rfl ?_
          show Goes _ _ _ _ _ _ (T0.setTop (mkF m 90 #[.val (.ref a1), .val (.int (4 : Int32)), .val (.ref a3), .val (.int (2 : Int32)), .val (.int (0 : Int32)), .val (.int (45 : Int32)), .val (.int ((4 : Int32) - (2 : Int32))), .val (.int (((0 : Int32) + (1 : Int32)) + (1 : Int32))), .val (.int ((((0 : Int32) + (1 : Int32)) + (1 : Int32)) + (1 : Int32))), .val (.int ((((((0 : Int32) + (1 : Int32)) + (1 : Int32)) + (1 : Int32)) + (2 : Int32)) - (1 : Int32))), .val (.int (1 : Int32))] [(.int (1 : Int32)), (.ref a3), (.int x3)]))
          refine own_baload X0 hx hZ e0 f1 ⟨by decide, by decide⟩ (v := (.int (62 : Int32))) rfl (hb hby d19_90) ?_
          by_cases hc91_8 : x3 = (62 : Int32)
          ·
            exact absurd ⟨hc46_7, hc91_8⟩ hpa2
          ·
            refine own_icmpYes X0 hx (pc' := 103) (hb hby d19_91) (feq (hc91_8 : ¬ (x3 = (62 : Int32)))).2 (by decide) (by decide) ?_
            refine own_iload X0 hx (hb hby d19_103) rfl ?_
            refine own_iload X0 hx (hb hby d19_105) rfl ?_
            refine own_icmpYes X0 hx (pc' := 113) (hb hby d19_107) (feq (by decide : ¬ (((((0 : Int32) + (1 : Int32)) + (1 : Int32)) + (1 : Int32)) = ((((((0 : Int32) + (1 : Int32)) + (1 : Int32)) + (1 : Int32)) + (2 : Int32)) - (1 : Int32))))).2 (by decide) (by decide) ?_
            refine own_iinc X0 hx (Ls' := #[.val (.ref a1), .val (.int (4 : Int32)), .val (.ref a3), .val (.int (2 : Int32)), .val (.int (0 : Int32)), .val (.int (45 : Int32)), .val (.int ((4 : Int32) - (2 : Int32))), .val (.int ((((0 : Int32) + (1 : Int32)) + (1 : Int32)) + (1 : Int32))), .val (.int ((((0 : Int32) + (1 : Int32)) + (1 : Int32)) + (1 : Int32))), .val (.int ((((((0 : Int32) + (1 : Int32)) + (1 : Int32)) + (1 : Int32)) + (2 : Int32)) - (1 : Int32))), .val (.int (1 : Int32))]) (hb hby d19_113) rfl rfl ?_
            refine own_goto X0 hx (pc' := 14) (hb hby d19_116) (by decide) (by decide) ?_
            refine own_iload X0 hx (hb hby d19_14) rfl ?_
            refine own_iload X0 hx (hb hby d19_16) rfl ?_
            refine own_icmpYes X0 hx (pc' := 119) (hb hby d19_18) (tlt (by decide : ((4 : Int32) - (2 : Int32)) < ((((0 : Int32) + (1 : Int32)) + (1 : Int32)) + (1 : Int32)))).2.2.1 (by decide) (by decide) ?_
            refine own_iconst X0 hx (v := (-1 : Int32)) (hb hby d19_119) rfl ?_
            show Goes _ _ _ _ _ _ (T0.setTop (mkF m 120 #[.val (.ref a1), .val (.int (4 : Int32)), .val (.ref a3), .val (.int (2 : Int32)), .val (.int (0 : Int32)), .val (.int (45 : Int32)), .val (.int ((4 : Int32) - (2 : Int32))), .val (.int ((((0 : Int32) + (1 : Int32)) + (1 : Int32)) + (1 : Int32))), .val (.int ((((0 : Int32) + (1 : Int32)) + (1 : Int32)) + (1 : Int32))), .val (.int ((((((0 : Int32) + (1 : Int32)) + (1 : Int32)) + (1 : Int32)) + (2 : Int32)) - (1 : Int32))), .val (.int (1 : Int32))] [(.int (-1 : Int32))]))
            exact own_retI X0 hx N0 hlk (by decide) (by decide) hret (hb hby d19_120) (by rw [e0]; exact ⟨rfl, rfl⟩)
        ·
          refine own_icmpNo X0 hx (hb hby d19_46) (feq (hc46_7 : ¬ (x2 = (45 : Int32)))).1 ?_
          refine own_goto X0 hx (pc' := 30) (hb hby d19_49) (by decide) (by decide) ?_
          refine own_iinc X0 hx (Ls' := #[.val (.ref a1), .val (.int (4 : Int32)), .val (.ref a3), .val (.int (2 : Int32)), .val (.int (0 : Int32)), .val (.int (45 : Int32)), .val (.int ((4 : Int32) - (2 : Int32))), .val (.int ((((0 : Int32) + (1 : Int32)) + (1 : Int32)) + (1 : Int32))), .val (.int ((0 : Int32) + (1 : Int32))), .val (.int ((((0 : Int32) + (1 : Int32)) + (2 : Int32)) - (1 : Int32))), .val (.int (1 : Int32))]) (hb hby d19_30) rfl rfl ?_
          refine own_iload X0 hx (hb hby d19_33) rfl ?_
          refine own_iload X0 hx (hb hby d19_35) rfl ?_
          refine own_icmpYes X0 hx (pc' := 52) (hb hby d19_37) (tlt (by decide : ((4 : Int32) - (2 : Int32)) < ((((0 : Int32) + (1 : Int32)) + (1 : Int32)) + (1 : Int32)))).2.2.1 (by decide) (by decide) ?_
          refine own_iload X0 hx (hb hby d19_52) rfl ?_
          refine own_iload X0 hx (hb hby d19_54) rfl ?_
          refine own_icmpYes X0 hx (pc' := 113) (hb hby d19_56) (tlt (by decide : ((4 : Int32) - (2 : Int32)) < ((((0 : Int32) + (1 : Int32)) + (1 : Int32)) + (1 : Int32)))).2.2.1 (by decide) (by decide) ?_
          refine own_iinc X0 hx (Ls' := #[.val (.ref a1), .val (.int (4 : Int32)), .val (.ref a3), .val (.int (2 : Int32)), .val (.int (0 : Int32)), .val (.int (45 : Int32)), .val (.int ((4 : Int32) - (2 : Int32))), .val (.int (((((0 : Int32) + (1 : Int32)) + (1 : Int32)) + (1 : Int32)) + (1 : Int32))), .val (.int ((0 : Int32) + (1 : Int32))), .val (.int ((((0 : Int32) + (1 : Int32)) + (2 : Int32)) - (1 : Int32))), .val (.int (1 : Int32))]) (hb hby d19_113) rfl rfl ?_
          refine own_goto X0 hx (pc' := 14) (hb hby d19_116) (by decide) (by decide) ?_
          refine own_iload X0 hx (hb hby d19_14) rfl ?_
          refine own_iload X0 hx (hb hby d19_16) rfl ?_
          refine own_icmpYes X0 hx (pc' := 119) (hb hby d19_18) (tlt (by decide : ((4 : Int32) - (2 : Int32)) < (((((0 : Int32) + (1 : Int32)) + (1 : Int32)) + (1 : Int32)) + (1 : Int32)))).2.2.1 (by decide) (by decide) ?_
          refine own_iconst X0 hx (v := (-1 : Int32)) (hb hby d19_119) rfl ?_
          show Goes _ _ _ _ _ _ (T0.setTop (mkF m 120 #[.val (.ref a1), .val (.int (4 : Int32)), .val (.ref a3), .val (.int (2 : Int32)), .val (.int (0 : Int32)), .val (.int (45 : Int32)), .val (.int ((4 : Int32) - (2 : Int32))), .val (.int (((((0 : Int32) + (1 : Int32)) + (1 : Int32)) + (1 : Int32)) + (1 : Int32))), .val (.int ((0 : Int32) + (1 : Int32))), .val (.int ((((0 : Int32) + (1 : Int32)) + (2 : Int32)) - (1 : Int32))), .val (.int (1 : Int32))] [(.int (-1 : Int32))]))
          exact own_retI X0 hx N0 hlk (by decide) (by decide) hret (hb hby d19_120) (by rw [e0]; exact ⟨rfl, rfl⟩)
  ·
    refine own_icmpNo X0 hx (hb hby d19_27) (feq (hc27_1 : ¬ (x0 = (45 : Int32)))).1 ?_
    refine own_iinc X0 hx (Ls' := #[.val (.ref a1), .val (.int (4 : Int32)), .val (.ref a3), .val (.int (2 : Int32)), .val (.int (0 : Int32)), .val (.int (45 : Int32)), .val (.int ((4 : Int32) - (2 : Int32))), .val (.int ((0 : Int32) + (1 : Int32))), .unset, .unset, .unset]) (hb hby d19_30) rfl rfl ?_
    refine own_iload X0 hx (hb hby d19_33) rfl ?_
    refine own_iload X0 hx (hb hby d19_35) rfl ?_
    refine own_icmpNo X0 hx (hb hby d19_37) (flt (by decide : ¬ (((4 : Int32) - (2 : Int32)) < ((0 : Int32) + (1 : Int32))))).2.2.1 ?_
    refine own_aloadN X0 hx (hb hby d19_40) rfl rfl ?_
    refine own_iload X0 hx (hb hby d19_41) rfl ?_
    refine own_baload X0 hx hZ e0 f0 ⟨by decide, by decide⟩ (v := (.int x1)) rfl (hb hby d19_43) ?_
    refine own_iload X0 hx (hb hby d19_44) rfl ?_
    by_cases hc46_9 : x1 = (45 : Int32)
    ·
      refine own_icmpYes X0 hx (pc' := 52) (hb hby d19_46) (teq (hc46_9 : x1 = (45 : Int32))).1 (by decide) (by decide) ?_
      refine own_iload X0 hx (hb hby d19_52) rfl ?_
      refine own_iload X0 hx (hb hby d19_54) rfl ?_
      refine own_icmpNo X0 hx (hb hby d19_56) (flt (by decide : ¬ (((4 : Int32) - (2 : Int32)) < ((0 : Int32) + (1 : Int32))))).2.2.1 ?_
      refine own_iload X0 hx (hb hby d19_59) rfl ?_
      refine own_iconst X0 hx (v := (1 : Int32)) (hb hby d19_61) rfl ?_
      refine own_iadd X0 hx (hb hby d19_62) ?_
      refine own_istore X0 hx (Ls' := #[.val (.ref a1), .val (.int (4 : Int32)), .val (.ref a3), .val (.int (2 : Int32)), .val (.int (0 : Int32)), .val (.int (45 : Int32)), .val (.int ((4 : Int32) - (2 : Int32))), .val (.int ((0 : Int32) + (1 : Int32))), .val (.int (((0 : Int32) + (1 : Int32)) + (1 : Int32))), .unset, .unset]) (hb hby d19_63) rfl ?_
      refine own_iload X0 hx (hb hby d19_65) rfl ?_
      show Goes _ _ _ _ _ _ (T0.setTop (mkF m 67 #[.val (.ref a1), .val (.int (4 : Int32)), .val (.ref a3), .val (.int (2 : Int32)), .val (.int (0 : Int32)), .val (.int (45 : Int32)), .val (.int ((4 : Int32) - (2 : Int32))), .val (.int ((0 : Int32) + (1 : Int32))), .val (.int (((0 : Int32) + (1 : Int32)) + (1 : Int32))), .unset, .unset] [(.int (((0 : Int32) + (1 : Int32)) + (1 : Int32)))]))
      refine own_iloadN X0 hx (hb hby d19_67) rfl ?_
      refine own_iadd X0 hx (hb hby d19_68) ?_
      refine own_iconst X0 hx (v := (1 : Int32)) (hb hby d19_69) rfl ?_
      refine own_isub X0 hx (hb hby d19_70) ?_
      refine own_istore X0 hx (Ls' := #[.val (.ref a1), .val (.int (4 : Int32)), .val (.ref a3), .val (.int (2 : Int32)), .val (.int (0 : Int32)), .val (.int (45 : Int32)), .val (.int ((4 : Int32) - (2 : Int32))), .val (.int ((0 : Int32) + (1 : Int32))), .val (.int (((0 : Int32) + (1 : Int32)) + (1 : Int32))), .val (.int (((((0 : Int32) + (1 : Int32)) + (1 : Int32)) + (2 : Int32)) - (1 : Int32))), .unset]) (hb hby d19_71) rfl ?_
      refine own_iconst X0 hx (v := (1 : Int32)) (hb hby d19_73) rfl ?_
      refine own_istore X0 hx (Ls' := #[.val (.ref a1), .val (.int (4 : Int32)), .val (.ref a3), .val (.int (2 : Int32)), .val (.int (0 : Int32)), .val (.int (45 : Int32)), .val (.int ((4 : Int32) - (2 : Int32))), .val (.int ((0 : Int32) + (1 : Int32))), .val (.int (((0 : Int32) + (1 : Int32)) + (1 : Int32))), .val (.int (((((0 : Int32) + (1 : Int32)) + (1 : Int32)) + (2 : Int32)) - (1 : Int32))), .val (.int (1 : Int32))]) (hb hby d19_74) rfl ?_
      refine own_iload X0 hx (hb hby d19_76) rfl ?_
      refine own_iload X0 hx (hb hby d19_78) rfl ?_
      refine own_icmpNo X0 hx (hb hby d19_80) (tlt (by decide : (((0 : Int32) + (1 : Int32)) + (1 : Int32)) < (((((0 : Int32) + (1 : Int32)) + (1 : Int32)) + (2 : Int32)) - (1 : Int32)))).2.1 ?_
      refine own_aloadN X0 hx (hb hby d19_83) rfl rfl ?_
      refine own_iload X0 hx (hb hby d19_84) rfl ?_
      refine own_baload X0 hx hZ e0 f0 ⟨by decide, by decide⟩ (v := (.int x2)) rfl (hb hby d19_86) ?_
      refine own_aloadN X0 hx (hb hby d19_87) rfl rfl ?_
      refine own_iload X0 hx (hb hby d19_88) rfl ?_
      show Goes _ _ _ _ _ _ (T0.setTop (mkF m 90 #[.val (.ref a1), .val (.int (4 : Int32)), .val (.ref a3), .val (.int (2 : Int32)), .val (.int (0 : Int32)), .val (.int (45 : Int32)), .val (.int ((4 : Int32) - (2 : Int32))), .val (.int ((0 : Int32) + (1 : Int32))), .val (.int (((0 : Int32) + (1 : Int32)) + (1 : Int32))), .val (.int (((((0 : Int32) + (1 : Int32)) + (1 : Int32)) + (2 : Int32)) - (1 : Int32))), .val (.int (1 : Int32))] [(.int (1 : Int32)), (.ref a3), (.int x2)]))
      refine own_baload X0 hx hZ e0 f1 ⟨by decide, by decide⟩ (v := (.int (62 : Int32))) rfl (hb hby d19_90) ?_
      by_cases hc91_10 : x2 = (62 : Int32)
      ·
        exact absurd ⟨hc46_9, hc91_10⟩ hpa1
      ·
        refine own_icmpYes X0 hx (pc' := 103) (hb hby d19_91) (feq (hc91_10 : ¬ (x2 = (62 : Int32)))).2 (by decide) (by decide) ?_
        refine own_iload X0 hx (hb hby d19_103) rfl ?_
        refine own_iload X0 hx (hb hby d19_105) rfl ?_
        refine own_icmpYes X0 hx (pc' := 113) (hb hby d19_107) (feq (by decide : ¬ ((((0 : Int32) + (1 : Int32)) + (1 : Int32)) = (((((0 : Int32) + (1 : Int32)) + (1 : Int32)) + (2 : Int32)) - (1 : Int32))))).2 (by decide) (by decide) ?_
        refine own_iinc X0 hx (Ls' := #[.val (.ref a1), .val (.int (4 : Int32)), .val (.ref a3), .val (.int (2 : Int32)), .val (.int (0 : Int32)), .val (.int (45 : Int32)), .val (.int ((4 : Int32) - (2 : Int32))), .val (.int (((0 : Int32) + (1 : Int32)) + (1 : Int32))), .val (.int (((0 : Int32) + (1 : Int32)) + (1 : Int32))), .val (.int (((((0 : Int32) + (1 : Int32)) + (1 : Int32)) + (2 : Int32)) - (1 : Int32))), .val (.int (1 : Int32))]) (hb hby d19_113) rfl rfl ?_
        refine own_goto X0 hx (pc' := 14) (hb hby d19_116) (by decide) (by decide) ?_
        refine own_iload X0 hx (hb hby d19_14) rfl ?_
        refine own_iload X0 hx (hb hby d19_16) rfl ?_
        refine own_icmpNo X0 hx (hb hby d19_18) (flt (by decide : ¬ (((4 : Int32) - (2 : Int32)) < (((0 : Int32) + (1 : Int32)) + (1 : Int32))))).2.2.1 ?_
        refine own_aloadN X0 hx (hb hby d19_21) rfl rfl ?_
        refine own_iload X0 hx (hb hby d19_22) rfl ?_
        refine own_baload X0 hx hZ e0 f0 ⟨by decide, by decide⟩ (v := (.int x2)) rfl (hb hby d19_24) ?_
        refine own_iload X0 hx (hb hby d19_25) rfl ?_
        by_cases hc27_11 : x2 = (45 : Int32)
        ·
          refine own_icmpYes X0 hx (pc' := 52) (hb hby d19_27) (teq (hc27_11 : x2 = (45 : Int32))).1 (by decide) (by decide) ?_
          refine own_iload X0 hx (hb hby d19_52) rfl ?_
          refine own_iload X0 hx (hb hby d19_54) rfl ?_
          refine own_icmpNo X0 hx (hb hby d19_56) (flt (by decide : ¬ (((4 : Int32) - (2 : Int32)) < (((0 : Int32) + (1 : Int32)) + (1 : Int32))))).2.2.1 ?_
          refine own_iload X0 hx (hb hby d19_59) rfl ?_
          refine own_iconst X0 hx (v := (1 : Int32)) (hb hby d19_61) rfl ?_
          refine own_iadd X0 hx (hb hby d19_62) ?_
          refine own_istore X0 hx (Ls' := #[.val (.ref a1), .val (.int (4 : Int32)), .val (.ref a3), .val (.int (2 : Int32)), .val (.int (0 : Int32)), .val (.int (45 : Int32)), .val (.int ((4 : Int32) - (2 : Int32))), .val (.int (((0 : Int32) + (1 : Int32)) + (1 : Int32))), .val (.int ((((0 : Int32) + (1 : Int32)) + (1 : Int32)) + (1 : Int32))), .val (.int (((((0 : Int32) + (1 : Int32)) + (1 : Int32)) + (2 : Int32)) - (1 : Int32))), .val (.int (1 : Int32))]) (hb hby d19_63) rfl ?_
          refine own_iload X0 hx (hb hby d19_65) rfl ?_
          show Goes _ _ _ _ _ _ (T0.setTop (mkF m 67 #[.val (.ref a1), .val (.int (4 : Int32)), .val (.ref a3), .val (.int (2 : Int32)), .val (.int (0 : Int32)), .val (.int (45 : Int32)), .val (.int ((4 : Int32) - (2 : Int32))), .val (.int (((0 : Int32) + (1 : Int32)) + (1 : Int32))), .val (.int ((((0 : Int32) + (1 : Int32)) + (1 : Int32)) + (1 : Int32))), .val (.int (((((0 : Int32) + (1 : Int32)) + (1 : Int32)) + (2 : Int32)) - (1 : Int32))), .val (.int (1 : Int32))] [(.int ((((0 : Int32) + (1 : Int32)) + (1 : Int32)) + (1 : Int32)))]))
          refine own_iloadN X0 hx (hb hby d19_67) rfl ?_
          refine own_iadd X0 hx (hb hby d19_68) ?_
          refine own_iconst X0 hx (v := (1 : Int32)) (hb hby d19_69) rfl ?_
          refine own_isub X0 hx (hb hby d19_70) ?_
          refine own_istore X0 hx (Ls' := #[.val (.ref a1), .val (.int (4 : Int32)), .val (.ref a3), .val (.int (2 : Int32)), .val (.int (0 : Int32)), .val (.int (45 : Int32)), .val (.int ((4 : Int32) - (2 : Int32))), .val (.int (((0 : Int32) + (1 : Int32)) + (1 : Int32))), .val (.int ((((0 : Int32) + (1 : Int32)) + (1 : Int32)) + (1 : Int32))), .val (.int ((((((0 : Int32) + (1 : Int32)) + (1 : Int32)) + (1 : Int32)) + (2 : Int32)) - (1 : Int32))), .val (.int (1 : Int32))]) (hb hby d19_71) rfl ?_
          refine own_iconst X0 hx (v := (1 : Int32)) (hb hby d19_73) rfl ?_
          refine own_istore X0 hx (Ls' := #[.val (.ref a1), .val (.int (4 : Int32)), .val (.ref a3), .val (.int (2 : Int32)), .val (.int (0 : Int32)), .val (.int (45 : Int32)), .val (.int ((4 : Int32) - (2 : Int32))), .val (.int (((0 : Int32) + (1 : Int32)) + (1 : Int32))), .val (.int ((((0 : Int32) + (1 : Int32)) + (1 : Int32)) + (1 : Int32))), .val (.int ((((((0 : Int32) + (1 : Int32)) + (1 : Int32)) + (1 : Int32)) + (2 : Int32)) - (1 : Int32))), .val (.int (1 : Int32))]) (hb hby d19_74) rfl ?_
          refine own_iload X0 hx (hb hby d19_76) rfl ?_
          refine own_iload X0 hx (hb hby d19_78) rfl ?_
          refine own_icmpNo X0 hx (hb hby d19_80) (tlt (by decide : ((((0 : Int32) + (1 : Int32)) + (1 : Int32)) + (1 : Int32)) < ((((((0 : Int32) + (1 : Int32)) + (1 : Int32)) + (1 : Int32)) + (2 : Int32)) - (1 : Int32)))).2.1 ?_
          refine own_aloadN X0 hx (hb hby d19_83) rfl rfl ?_
          refine own_iload X0 hx (hb hby d19_84) rfl ?_
          refine own_baload X0 hx hZ e0 f0 ⟨by decide, by decide⟩ (v := (.int x3)) rfl (hb hby d19_86) ?_
          refine own_aloadN X0 hx (hb hby d19_87) rfl rfl ?_
          refine own_iload X0 hx (hb hby d19_88) rfl ?_
          show Goes _ _ _ _ _ _ (T0.setTop (mkF m 90 #[.val (.ref a1), .val (.int (4 : Int32)), .val (.ref a3), .val (.int (2 : Int32)), .val (.int (0 : Int32)), .val (.int (45 : Int32)), .val (.int ((4 : Int32) - (2 : Int32))), .val (.int (((0 : Int32) + (1 : Int32)) + (1 : Int32))), .val (.int ((((0 : Int32) + (1 : Int32)) + (1 : Int32)) + (1 : Int32))), .val (.int ((((((0 : Int32) + (1 : Int32)) + (1 : Int32)) + (1 : Int32)) + (2 : Int32)) - (1 : Int32))), .val (.int (1 : Int32))] [(.int (1 : Int32)), (.ref a3), (.int x3)]))
          refine own_baload X0 hx hZ e0 f1 ⟨by decide, by decide⟩ (v := (.int (62 : Int32))) rfl (hb hby d19_90) ?_
          by_cases hc91_12 : x3 = (62 : Int32)
          ·
            exact absurd ⟨hc27_11, hc91_12⟩ hpa2
          ·
            refine own_icmpYes X0 hx (pc' := 103) (hb hby d19_91) (feq (hc91_12 : ¬ (x3 = (62 : Int32)))).2 (by decide) (by decide) ?_
            refine own_iload X0 hx (hb hby d19_103) rfl ?_
            refine own_iload X0 hx (hb hby d19_105) rfl ?_
            refine own_icmpYes X0 hx (pc' := 113) (hb hby d19_107) (feq (by decide : ¬ (((((0 : Int32) + (1 : Int32)) + (1 : Int32)) + (1 : Int32)) = ((((((0 : Int32) + (1 : Int32)) + (1 : Int32)) + (1 : Int32)) + (2 : Int32)) - (1 : Int32))))).2 (by decide) (by decide) ?_
            refine own_iinc X0 hx (Ls' := #[.val (.ref a1), .val (.int (4 : Int32)), .val (.ref a3), .val (.int (2 : Int32)), .val (.int (0 : Int32)), .val (.int (45 : Int32)), .val (.int ((4 : Int32) - (2 : Int32))), .val (.int ((((0 : Int32) + (1 : Int32)) + (1 : Int32)) + (1 : Int32))), .val (.int ((((0 : Int32) + (1 : Int32)) + (1 : Int32)) + (1 : Int32))), .val (.int ((((((0 : Int32) + (1 : Int32)) + (1 : Int32)) + (1 : Int32)) + (2 : Int32)) - (1 : Int32))), .val (.int (1 : Int32))]) (hb hby d19_113) rfl rfl ?_
            refine own_goto X0 hx (pc' := 14) (hb hby d19_116) (by decide) (by decide) ?_
            refine own_iload X0 hx (hb hby d19_14) rfl ?_
            refine own_iload X0 hx (hb hby d19_16) rfl ?_
            refine own_icmpYes X0 hx (pc' := 119) (hb hby d19_18) (tlt (by decide : ((4 : Int32) - (2 : Int32)) < ((((0 : Int32) + (1 : Int32)) + (1 : Int32)) + (1 : Int32)))).2.2.1 (by decide) (by decide) ?_
            refine own_iconst X0 hx (v := (-1 : Int32)) (hb hby d19_119) rfl ?_
            show Goes _ _ _ _ _ _ (T0.setTop (mkF m 120 #[.val (.ref a1), .val (.int (4 : Int32)), .val (.ref a3), .val (.int (2 : Int32)), .val (.int (0 : Int32)), .val (.int (45 : Int32)), .val (.int ((4 : Int32) - (2 : Int32))), .val (.int ((((0 : Int32) + (1 : Int32)) + (1 : Int32)) + (1 : Int32))), .val (.int ((((0 : Int32) + (1 : Int32)) + (1 : Int32)) + (1 : Int32))), .val (.int ((((((0 : Int32) + (1 : Int32)) + (1 : Int32)) + (1 : Int32)) + (2 : Int32)) - (1 : Int32))), .val (.int (1 : Int32))] [(.int (-1 : Int32))]))
            exact own_retI X0 hx N0 hlk (by decide) (by decide) hret (hb hby d19_120) (by rw [e0]; exact ⟨rfl, rfl⟩)
        ·
          refine own_icmpNo X0 hx (hb hby d19_27) (feq (hc27_11 : ¬ (x2 = (45 : Int32)))).1 ?_
          refine own_iinc X0 hx (Ls' := #[.val (.ref a1), .val (.int (4 : Int32)), .val (.ref a3), .val (.int (2 : Int32)), .val (.int (0 : Int32)), .val (.int (45 : Int32)), .val (.int ((4 : Int32) - (2 : Int32))), .val (.int ((((0 : Int32) + (1 : Int32)) + (1 : Int32)) + (1 : Int32))), .val (.int (((0 : Int32) + (1 : Int32)) + (1 : Int32))), .val (.int (((((0 : Int32) + (1 : Int32)) + (1 : Int32)) + (2 : Int32)) - (1 : Int32))), .val (.int (1 : Int32))]) (hb hby d19_30) rfl rfl ?_
          refine own_iload X0 hx (hb hby d19_33) rfl ?_
          refine own_iload X0 hx (hb hby d19_35) rfl ?_
          refine own_icmpYes X0 hx (pc' := 52) (hb hby d19_37) (tlt (by decide : ((4 : Int32) - (2 : Int32)) < ((((0 : Int32) + (1 : Int32)) + (1 : Int32)) + (1 : Int32)))).2.2.1 (by decide) (by decide) ?_
          refine own_iload X0 hx (hb hby d19_52) rfl ?_
          refine own_iload X0 hx (hb hby d19_54) rfl ?_
          refine own_icmpYes X0 hx (pc' := 113) (hb hby d19_56) (tlt (by decide : ((4 : Int32) - (2 : Int32)) < ((((0 : Int32) + (1 : Int32)) + (1 : Int32)) + (1 : Int32)))).2.2.1 (by decide) (by decide) ?_
          refine own_iinc X0 hx (Ls' := #[.val (.ref a1), .val (.int (4 : Int32)), .val (.ref a3), .val (.int (2 : Int32)), .val (.int (0 : Int32)), .val (.int (45 : Int32)), .val (.int ((4 : Int32) - (2 : Int32))), .val (.int (((((0 : Int32) + (1 : Int32)) + (1 : Int32)) + (1 : Int32)) + (1 : Int32))), .val (.int (((0 : Int32) + (1 : Int32)) + (1 : Int32))), .val (.int (((((0 : Int32) + (1 : Int32)) + (1 : Int32)) + (2 : Int32)) - (1 : Int32))), .val (.int (1 : Int32))]) (hb hby d19_113) rfl rfl ?_
          refine own_goto X0 hx (pc' := 14) (hb hby d19_116) (by decide) (by decide) ?_
          refine own_iload X0 hx (hb hby d19_14) rfl ?_
          refine own_iload X0 hx (hb hby d19_16) rfl ?_
          refine own_icmpYes X0 hx (pc' := 119) (hb hby d19_18) (tlt (by decide : ((4 : Int32) - (2 : Int32)) < (((((0 : Int32) + (1 : Int32)) + (1 : Int32)) + (1 : Int32)) + (1 : Int32)))).2.2.1 (by decide) (by decide) ?_
          refine own_iconst X0 hx (v := (-1 : Int32)) (hb hby d19_119) rfl ?_
          show Goes _ _ _ _ _ _ (T0.setTop (mkF m 120 #[.val (.ref a1), .val (.int (4 : Int32)), .val (.ref a3), .val (.int (2 : Int32)), .val (.int (0 : Int32)), .val (.int (45 : Int32)), .val (.int ((4 : Int32) - (2 : Int32))), .val (.int (((((0 : Int32) + (1 : Int32)) + (1 : Int32)) + (1 : Int32)) + (1 : Int32))), .val (.int (((0 : Int32) + (1 : Int32)) + (1 : Int32))), .val (.int (((((0 : Int32) + (1 : Int32)) + (1 : Int32)) + (2 : Int32)) - (1 : Int32))), .val (.int (1 : Int32))] [(.int (-1 : Int32))]))
          exact own_retI X0 hx N0 hlk (by decide) (by decide) hret (hb hby d19_120) (by rw [e0]; exact ⟨rfl, rfl⟩)
    ·
      refine own_icmpNo X0 hx (hb hby d19_46) (feq (hc46_9 : ¬ (x1 = (45 : Int32)))).1 ?_
      refine own_goto X0 hx (pc' := 30) (hb hby d19_49) (by decide) (by decide) ?_
      refine own_iinc X0 hx (Ls' := #[.val (.ref a1), .val (.int (4 : Int32)), .val (.ref a3), .val (.int (2 : Int32)), .val (.int (0 : Int32)), .val (.int (45 : Int32)), .val (.int ((4 : Int32) - (2 : Int32))), .val (.int (((0 : Int32) + (1 : Int32)) + (1 : Int32))), .unset, .unset, .unset]) (hb hby d19_30) rfl rfl ?_
      refine own_iload X0 hx (hb hby d19_33) rfl ?_
      refine own_iload X0 hx (hb hby d19_35) rfl ?_
      refine own_icmpNo X0 hx (hb hby d19_37) (flt (by decide : ¬ (((4 : Int32) - (2 : Int32)) < (((0 : Int32) + (1 : Int32)) + (1 : Int32))))).2.2.1 ?_
      refine own_aloadN X0 hx (hb hby d19_40) rfl rfl ?_
      refine own_iload X0 hx (hb hby d19_41) rfl ?_
      refine own_baload X0 hx hZ e0 f0 ⟨by decide, by decide⟩ (v := (.int x2)) rfl (hb hby d19_43) ?_
      refine own_iload X0 hx (hb hby d19_44) rfl ?_
      by_cases hc46_13 : x2 = (45 : Int32)
      ·
        refine own_icmpYes X0 hx (pc' := 52) (hb hby d19_46) (teq (hc46_13 : x2 = (45 : Int32))).1 (by decide) (by decide) ?_
        refine own_iload X0 hx (hb hby d19_52) rfl ?_
        refine own_iload X0 hx (hb hby d19_54) rfl ?_
        refine own_icmpNo X0 hx (hb hby d19_56) (flt (by decide : ¬ (((4 : Int32) - (2 : Int32)) < (((0 : Int32) + (1 : Int32)) + (1 : Int32))))).2.2.1 ?_
        refine own_iload X0 hx (hb hby d19_59) rfl ?_
        refine own_iconst X0 hx (v := (1 : Int32)) (hb hby d19_61) rfl ?_
        refine own_iadd X0 hx (hb hby d19_62) ?_
        refine own_istore X0 hx (Ls' := #[.val (.ref a1), .val (.int (4 : Int32)), .val (.ref a3), .val (.int (2 : Int32)), .val (.int (0 : Int32)), .val (.int (45 : Int32)), .val (.int ((4 : Int32) - (2 : Int32))), .val (.int (((0 : Int32) + (1 : Int32)) + (1 : Int32))), .val (.int ((((0 : Int32) + (1 : Int32)) + (1 : Int32)) + (1 : Int32))), .unset, .unset]) (hb hby d19_63) rfl ?_
        refine own_iload X0 hx (hb hby d19_65) rfl ?_
        show Goes _ _ _ _ _ _ (T0.setTop (mkF m 67 #[.val (.ref a1), .val (.int (4 : Int32)), .val (.ref a3), .val (.int (2 : Int32)), .val (.int (0 : Int32)), .val (.int (45 : Int32)), .val (.int ((4 : Int32) - (2 : Int32))), .val (.int (((0 : Int32) + (1 : Int32)) + (1 : Int32))), .val (.int ((((0 : Int32) + (1 : Int32)) + (1 : Int32)) + (1 : Int32))), .unset, .unset] [(.int ((((0 : Int32) + (1 : Int32)) + (1 : Int32)) + (1 : Int32)))]))
        refine own_iloadN X0 hx (hb hby d19_67) rfl ?_
        refine own_iadd X0 hx (hb hby d19_68) ?_
        refine own_iconst X0 hx (v := (1 : Int32)) (hb hby d19_69) rfl ?_
        refine own_isub X0 hx (hb hby d19_70) ?_
        refine own_istore X0 hx (Ls' := #[.val (.ref a1), .val (.int (4 : Int32)), .val (.ref a3), .val (.int (2 : Int32)), .val (.int (0 : Int32)), .val (.int (45 : Int32)), .val (.int ((4 : Int32) - (2 : Int32))), .val (.int (((0 : Int32) + (1 : Int32)) + (1 : Int32))), .val (.int ((((0 : Int32) + (1 : Int32)) + (1 : Int32)) + (1 : Int32))), .val (.int ((((((0 : Int32) + (1 : Int32)) + (1 : Int32)) + (1 : Int32)) + (2 : Int32)) - (1 : Int32))), .unset]) (hb hby d19_71) rfl ?_
        refine own_iconst X0 hx (v := (1 : Int32)) (hb hby d19_73) rfl ?_
        refine own_istore X0 hx (Ls' := #[.val (.ref a1), .val (.int (4 : Int32)), .val (.ref a3), .val (.int (2 : Int32)), .val (.int (0 : Int32)), .val (.int (45 : Int32)), .val (.int ((4 : Int32) - (2 : Int32))), .val (.int (((0 : Int32) + (1 : Int32)) + (1 : Int32))), .val (.int ((((0 : Int32) + (1 : Int32)) + (1 : Int32)) + (1 : Int32))), .val (.int ((((((0 : Int32) + (1 : Int32)) + (1 : Int32)) + (1 : Int32)) + (2 : Int32)) - (1 : Int32))), .val (.int (1 : Int32))]) (hb hby d19_74) rfl ?_
        refine own_iload X0 hx (hb hby d19_76) rfl ?_
        refine own_iload X0 hx (hb hby d19_78) rfl ?_
        refine own_icmpNo X0 hx (hb hby d19_80) (tlt (by decide : ((((0 : Int32) + (1 : Int32)) + (1 : Int32)) + (1 : Int32)) < ((((((0 : Int32) + (1 : Int32)) + (1 : Int32)) + (1 : Int32)) + (2 : Int32)) - (1 : Int32)))).2.1 ?_
        refine own_aloadN X0 hx (hb hby d19_83) rfl rfl ?_
        refine own_iload X0 hx (hb hby d19_84) rfl ?_
        refine own_baload X0 hx hZ e0 f0 ⟨by decide, by decide⟩ (v := (.int x3)) rfl (hb hby d19_86) ?_
        refine own_aloadN X0 hx (hb hby d19_87) rfl rfl ?_
        refine own_iload X0 hx (hb hby d19_88) rfl ?_
        show Goes _ _ _ _ _ _ (T0.setTop (mkF m 90 #[.val (.ref a1), .val (.int (4 : Int32)), .val (.ref a3), .val (.int (2 : Int32)), .val (.int (0 : Int32)), .val (.int (45 : Int32)), .val (.int ((4 : Int32) - (2 : Int32))), .val (.int (((0 : Int32) + (1 : Int32)) + (1 : Int32))), .val (.int ((((0 : Int32) + (1 : Int32)) + (1 : Int32)) + (1 : Int32))), .val (.int ((((((0 : Int32) + (1 : Int32)) + (1 : Int32)) + (1 : Int32)) + (2 : Int32)) - (1 : Int32))), .val (.int (1 : Int32))] [(.int (1 : Int32)), (.ref a3), (.int x3)]))
        refine own_baload X0 hx hZ e0 f1 ⟨by decide, by decide⟩ (v := (.int (62 : Int32))) rfl (hb hby d19_90) ?_
        by_cases hc91_14 : x3 = (62 : Int32)
        ·
          exact absurd ⟨hc46_13, hc91_14⟩ hpa2
        ·
          refine own_icmpYes X0 hx (pc' := 103) (hb hby d19_91) (feq (hc91_14 : ¬ (x3 = (62 : Int32)))).2 (by decide) (by decide) ?_
          refine own_iload X0 hx (hb hby d19_103) rfl ?_
          refine own_iload X0 hx (hb hby d19_105) rfl ?_
          refine own_icmpYes X0 hx (pc' := 113) (hb hby d19_107) (feq (by decide : ¬ (((((0 : Int32) + (1 : Int32)) + (1 : Int32)) + (1 : Int32)) = ((((((0 : Int32) + (1 : Int32)) + (1 : Int32)) + (1 : Int32)) + (2 : Int32)) - (1 : Int32))))).2 (by decide) (by decide) ?_
          refine own_iinc X0 hx (Ls' := #[.val (.ref a1), .val (.int (4 : Int32)), .val (.ref a3), .val (.int (2 : Int32)), .val (.int (0 : Int32)), .val (.int (45 : Int32)), .val (.int ((4 : Int32) - (2 : Int32))), .val (.int ((((0 : Int32) + (1 : Int32)) + (1 : Int32)) + (1 : Int32))), .val (.int ((((0 : Int32) + (1 : Int32)) + (1 : Int32)) + (1 : Int32))), .val (.int ((((((0 : Int32) + (1 : Int32)) + (1 : Int32)) + (1 : Int32)) + (2 : Int32)) - (1 : Int32))), .val (.int (1 : Int32))]) (hb hby d19_113) rfl rfl ?_
          refine own_goto X0 hx (pc' := 14) (hb hby d19_116) (by decide) (by decide) ?_
          refine own_iload X0 hx (hb hby d19_14) rfl ?_
          refine own_iload X0 hx (hb hby d19_16) rfl ?_
          refine own_icmpYes X0 hx (pc' := 119) (hb hby d19_18) (tlt (by decide : ((4 : Int32) - (2 : Int32)) < ((((0 : Int32) + (1 : Int32)) + (1 : Int32)) + (1 : Int32)))).2.2.1 (by decide) (by decide) ?_
          refine own_iconst X0 hx (v := (-1 : Int32)) (hb hby d19_119) rfl ?_
          show Goes _ _ _ _ _ _ (T0.setTop (mkF m 120 #[.val (.ref a1), .val (.int (4 : Int32)), .val (.ref a3), .val (.int (2 : Int32)), .val (.int (0 : Int32)), .val (.int (45 : Int32)), .val (.int ((4 : Int32) - (2 : Int32))), .val (.int ((((0 : Int32) + (1 : Int32)) + (1 : Int32)) + (1 : Int32))), .val (.int ((((0 : Int32) + (1 : Int32)) + (1 : Int32)) + (1 : Int32))), .val (.int ((((((0 : Int32) + (1 : Int32)) + (1 : Int32)) + (1 : Int32)) + (2 : Int32)) - (1 : Int32))), .val (.int (1 : Int32))] [(.int (-1 : Int32))]))
          exact own_retI X0 hx N0 hlk (by decide) (by decide) hret (hb hby d19_120) (by rw [e0]; exact ⟨rfl, rfl⟩)
      ·
        refine own_icmpNo X0 hx (hb hby d19_46) (feq (hc46_13 : ¬ (x2 = (45 : Int32)))).1 ?_
        refine own_goto X0 hx (pc' := 30) (hb hby d19_49) (by decide) (by decide) ?_
        refine own_iinc X0 hx (Ls' := #[.val (.ref a1), .val (.int (4 : Int32)), .val (.ref a3), .val (.int (2 : Int32)), .val (.int (0 : Int32)), .val (.int (45 : Int32)), .val (.int ((4 : Int32) - (2 : Int32))), .val (.int ((((0 : Int32) + (1 : Int32)) + (1 : Int32)) + (1 : Int32))), .unset, .unset, .unset]) (hb hby d19_30) rfl rfl ?_
        refine own_iload X0 hx (hb hby d19_33) rfl ?_
        refine own_iload X0 hx (hb hby d19_35) rfl ?_
        refine own_icmpYes X0 hx (pc' := 52) (hb hby d19_37) (tlt (by decide : ((4 : Int32) - (2 : Int32)) < ((((0 : Int32) + (1 : Int32)) + (1 : Int32)) + (1 : Int32)))).2.2.1 (by decide) (by decide) ?_
        refine own_iload X0 hx (hb hby d19_52) rfl ?_
        refine own_iload X0 hx (hb hby d19_54) rfl ?_
        refine own_icmpYes X0 hx (pc' := 113) (hb hby d19_56) (tlt (by decide : ((4 : Int32) - (2 : Int32)) < ((((0 : Int32) + (1 : Int32)) + (1 : Int32)) + (1 : Int32)))).2.2.1 (by decide) (by decide) ?_
        refine own_iinc X0 hx (Ls' := #[.val (.ref a1), .val (.int (4 : Int32)), .val (.ref a3), .val (.int (2 : Int32)), .val (.int (0 : Int32)), .val (.int (45 : Int32)), .val (.int ((4 : Int32) - (2 : Int32))), .val (.int (((((0 : Int32) + (1 : Int32)) + (1 : Int32)) + (1 : Int32)) + (1 : Int32))), .unset, .unset, .unset]) (hb hby d19_113) rfl rfl ?_
        refine own_goto X0 hx (pc' := 14) (hb hby d19_116) (by decide) (by decide) ?_
        refine own_iload X0 hx (hb hby d19_14) rfl ?_
        refine own_iload X0 hx (hb hby d19_16) rfl ?_
        refine own_icmpYes X0 hx (pc' := 119) (hb hby d19_18) (tlt (by decide : ((4 : Int32) - (2 : Int32)) < (((((0 : Int32) + (1 : Int32)) + (1 : Int32)) + (1 : Int32)) + (1 : Int32)))).2.2.1 (by decide) (by decide) ?_
        refine own_iconst X0 hx (v := (-1 : Int32)) (hb hby d19_119) rfl ?_
        show Goes _ _ _ _ _ _ (T0.setTop (mkF m 120 #[.val (.ref a1), .val (.int (4 : Int32)), .val (.ref a3), .val (.int (2 : Int32)), .val (.int (0 : Int32)), .val (.int (45 : Int32)), .val (.int ((4 : Int32) - (2 : Int32))), .val (.int (((((0 : Int32) + (1 : Int32)) + (1 : Int32)) + (1 : Int32)) + (1 : Int32))), .unset, .unset, .unset] [(.int (-1 : Int32))]))
        exact own_retI X0 hx N0 hlk (by decide) (by decide) hret (hb hby d19_120) (by rw [e0]; exact ⟨rfl, rfl⟩)
def Q184a (Z : State) (a1 : Addr) (a2 : Addr) (k : ClassId) (k2 : ClassId) (x0 : Int32) (x1 : Int32) (x2 : Int32) (x3 : Int32) (h0 : Heap) (n0 : Nat) (v : Option Value) (h : Heap) : Prop :=
  (v = some (.int (-1 : Int32)) ∧ h = h0)
theorem ef_184a (m : MethodId) (a1 : Addr) (a2 : Addr) : entryFrame m #[(.ref a1), (.ref a2)] 2 = mkF m 0 #[.val (.ref a1), .val (.ref a2)] [] := by first | (simp [entryFrame, mkF, argsToLocals, Value.category]; done) | rfl
set_option maxRecDepth 65536 in
set_option maxHeartbeats 40000000 in
theorem rm184a (l : Launch) (Z : State) (a0 : Array Value) (hw : ∀ d ∈ tables_1, d.before a0 Z = true) (ws : List Jvm.Cond) (a1 : Addr) (a2 : Addr) (k : ClassId) (k2 : ClassId) (x0 : Int32) (x1 : Int32) (x2 : Int32) (x3 : Int32) (h0 : Heap) (n0 : Nat) (O0 : Old Z n0 h0) (f0 : Arv Z h0 a1 k .byte (4 : Int32) [(.int x0), (.int x1), (.int x2), (.int x3)] (.int (0 : Int32))) (f1 : Arv Z h0 a2 k2 .byte (2 : Int32) [(.int (45 : Int32)), (.int (62 : Int32))] (.int (0 : Int32))) (hpa0 : ¬ (x0 = (45 : Int32) ∧ x1 = (62 : Int32))) (hpa1 : ¬ (x1 = (45 : Int32) ∧ x2 = (62 : Int32))) (hpa2 : ¬ (x2 = (45 : Int32) ∧ x3 = (62 : Int32))) :
    Meets l (⟨"java/lang/StringLatin1", "indexOf", "([B[B)I"⟩ : MethodName) jdk_43_method_24_code 2 (some .int) ws ({ frames := 1, cells := 0, slots := 0, locals := 22 } : Room) ({ frames := 1, cells := 0, slots := 0, locals := 22 } : Room).cells ({ frames := 1, cells := 0, slots := 0, locals := 22 } : Room).slots Z #[(.ref a1), (.ref a2)] h0 n0 (Q184a Z a1 a2 k k2 x0 x1 x2 x3 h0 n0) := by
  refine Meets.of (F := fun m => mkF m 0 #[.val (.ref a1), .val (.ref a2)] []) (plainFor_of_name pn_2) (fun m => ef_184a m a1 a2) ?_
  intro p e s m below meth c T0 hx hby hml hown0 hnm hret hlk hZ X0 e0
  have hown : s.vm.findClass "java/lang/StringLatin1" = some m.cls := hown0
  have N0 := Fr.nil n0
  show Goes _ _ _ _ _ _ (T0.setTop (mkF m 0 #[.val (.ref a1), .val (.ref a2)] []))
  refine own_aloadN X0 hx (hb hby d18_0) rfl rfl ?_
  refine own_alen X0 hx hZ e0 f1 (hb hby d18_1) ?_
  refine own_ifYes X0 hx (pc' := 7) (hb hby d18_2) ((if0 _ _).trans (feq (by decide : ¬ ((2 : Int32) = (0 : Int32)))).2) (by decide) (by decide) ?_
  refine own_aloadN X0 hx (hb hby d18_7) rfl rfl ?_
  refine own_alen X0 hx hZ e0 f0 (hb hby d18_8) ?_
  refine own_ifYes X0 hx (pc' := 14) (hb hby d18_9) ((if0 _ _).trans (feq (by decide : ¬ ((4 : Int32) = (0 : Int32)))).2) (by decide) (by decide) ?_
  refine own_aloadN X0 hx (hb hby d18_14) rfl rfl ?_
  refine own_aloadN X0 hx (hb hby d18_15) rfl rfl ?_
  refine own_alen X0 hx hZ e0 f0 (hb hby d18_16) ?_
  refine own_aloadN X0 hx (hb hby d18_17) rfl rfl ?_
  refine own_aloadN X0 hx (hb hby d18_18) rfl rfl ?_
  show Goes _ _ _ _ _ _ (T0.setTop (mkF m 19 #[.val (.ref a1), .val (.ref a2)] [(.ref a2), (.ref a2), (.int (4 : Int32)), (.ref a1)]))
  refine own_alen X0 hx hZ e0 f1 (hb hby d18_19) ?_
  refine own_iconst X0 hx (v := (0 : Int32)) (hb hby d18_20) rfl ?_
  refine own_callS X0 hx hZ hown (y := (⟨"java/lang/StringLatin1", "indexOf", "([BI[BII)I"⟩ : MethodName)) (hw _ (List.mem_of_getElem? (i := 92) rfl)) (hw _ (List.mem_of_getElem? (i := 93) rfl)) (hw _ (List.mem_of_getElem? (i := 90) rfl)) (hw _ (List.mem_of_getElem? (i := 94) rfl)) (by decide) (W := 0) (by decide) (by decide) N0 e0 (by rw [hml]; rfl) (argsL := [(.ref a1), (.int (4 : Int32)), (.ref a2), (.int (2 : Int32)), (.int (0 : Int32))]) (rest := []) (lenOf pd_1 rfl) (Nat.le_of_eq rfl) (by decide) (by decide) (rm194a l Z a0 hw [] a1 a2 k k2 x0 x1 x2 x3 h0 n0 O0 f0 f1 hpa0 hpa1 hpa2) rfl (hb hby d18_21) ?_
  intro v1 T1 lc1 X1 N1 hQ1
  obtain ⟨rfl, e1⟩ := hQ1
  show Goes _ _ _ _ _ _ (T1.setTop (mkF m 24 #[.val (.ref a1), .val (.ref a2)] [(.int (-1 : Int32))]))
  exact own_retI X1 hx N1 hlk (by decide) (by decide) hret (hb hby d18_24) (by rw [e1]; exact ⟨rfl, rfl⟩)
def Q154a (Z : State) (a1 : Addr) (a2 : Addr) (t : Addr) (k : ClassId) (x0 : Int32) (x1 : Int32) (x2 : Int32) (x3 : Int32) (t2 : Addr) (k2 : ClassId) (zc : Int32) (h0 : Heap) (n0 : Nat) (v : Option Value) (h : Heap) : Prop :=
  (v = some (.int (-1 : Int32)) ∧ h = h0)
theorem ef_154a (m : MethodId) (a1 : Addr) (a2 : Addr) : entryFrame m #[(.ref a1), (.ref a2)] 3 = mkF m 0 #[.val (.ref a1), .val (.ref a2), .unset] [] := by first | (simp [entryFrame, mkF, argsToLocals, Value.category]; done) | rfl
set_option maxRecDepth 65536 in
set_option maxHeartbeats 40000000 in
theorem rm154a (l : Launch) (Z : State) (a0 : Array Value) (hw : ∀ d ∈ tables_1, d.before a0 Z = true) (ws : List Jvm.Cond) (a1 : Addr) (a2 : Addr) (t : Addr) (k : ClassId) (x0 : Int32) (x1 : Int32) (x2 : Int32) (x3 : Int32) (t2 : Addr) (k2 : ClassId) (zc : Int32) (h0 : Heap) (n0 : Nat) (O0 : Old Z n0 h0) (SF : Start Z zc) (f0 : Exa Z h0 a1 "java/lang/String") (f1 : Fld Z h0 a1 "java/lang/String" "value" "[B" (.ref t)) (f2 : Fld Z h0 a1 "java/lang/String" "coder" "B" (.int (0 : Int32))) (f3 : Arv Z h0 t k .byte (4 : Int32) [(.int x0), (.int x1), (.int x2), (.int x3)] (.int (0 : Int32))) (f4 : Exa Z h0 a2 "java/lang/String") (f5 : Fld Z h0 a2 "java/lang/String" "value" "[B" (.ref t2)) (f6 : Fld Z h0 a2 "java/lang/String" "coder" "B" (.int (0 : Int32))) (f7 : Arv Z h0 t2 k2 .byte (2 : Int32) [(.int (45 : Int32)), (.int (62 : Int32))] (.int (0 : Int32))) (hpa0 : ¬ (x0 = (45 : Int32) ∧ x1 = (62 : Int32))) (hpa1 : ¬ (x1 = (45 : Int32) ∧ x2 = (62 : Int32))) (hpa2 : ¬ (x2 = (45 : Int32) ∧ x3 = (62 : Int32))) :
    Meets l (⟨"java/lang/String", "indexOf", "(Ljava/lang/String;)I"⟩ : MethodName) jdk_42_method_84_code 3 (some .int) ws ({ frames := 2, cells := 0, slots := 0, locals := 35 } : Room) ({ frames := 2, cells := 0, slots := 0, locals := 35 } : Room).cells ({ frames := 2, cells := 0, slots := 0, locals := 35 } : Room).slots Z #[(.ref a1), (.ref a2)] h0 n0 (Q154a Z a1 a2 t k x0 x1 x2 x3 t2 k2 zc h0 n0) := by
  refine Meets.of (F := fun m => mkF m 0 #[.val (.ref a1), .val (.ref a2), .unset] []) (plainFor_of_name pn_0) (fun m => ef_154a m a1 a2) ?_
  intro p e s m below meth c T0 hx hby hml hown0 hnm hret hlk hZ X0 e0
  have hown : s.vm.findClass "java/lang/String" = some m.cls := hown0
  have N0 := Fr.nil n0
  obtain ⟨z0, hzc, -⟩ := SF
  show Goes _ _ _ _ _ _ (T0.setTop (mkF m 0 #[.val (.ref a1), .val (.ref a2), .unset] []))
  refine own_aloadN X0 hx (hb hby d15_0) rfl rfl ?_
  refine own_virtual X0 hx hZ hown (y := (⟨"java/lang/String", "coder", "()B"⟩ : MethodName)) (z := (⟨"java/lang/String", "coder", "()B"⟩ : MethodName)) (hw _ (List.mem_of_getElem? (i := 78) rfl)) (hw _ (List.mem_of_getElem? (i := 79) rfl)) (notFace_of_selects (args := #[]) (mvT hZ (hw _ (List.mem_of_getElem? (i := 81) rfl)))) (hw _ (List.mem_of_getElem? (i := 81) rfl)) (hw _ (List.mem_of_getElem? (i := 80) rfl)) (hw _ (List.mem_of_getElem? (i := 8) rfl)) (hw _ (List.mem_of_getElem? (i := 82) rfl)) (a := a1) f0 (by decide) (W := 0) (by decide) (by decide) N0 e0 (by rw [hml]; rfl) (argsL := []) (rest := []) (lenOf pd_0 rfl) (Nat.le_of_eq rfl) (by decide) (by decide) (rm16 l Z a0 hw [] a1 zc h0 n0 O0 ⟨z0, hzc, trivial⟩ f2) rfl (hb hby d15_1) ?_
  intro v1 T1 lc1 X1 N1 hQ1
  obtain ⟨rfl, e1⟩ := hQ1
  refine own_istoreN X1 hx (Ls' := #[.val (.ref a1), .val (.ref a2), .val (.int (0 : Int32))]) (hb hby d15_4) rfl ?_
  refine own_iloadN X1 hx (hb hby d15_5) rfl ?_
  refine own_aloadN X1 hx (hb hby d15_6) rfl rfl ?_
  refine own_virtual X1 hx hZ hown (y := (⟨"java/lang/String", "coder", "()B"⟩ : MethodName)) (z := (⟨"java/lang/String", "coder", "()B"⟩ : MethodName)) (hw _ (List.mem_of_getElem? (i := 78) rfl)) (hw _ (List.mem_of_getElem? (i := 79) rfl)) (notFace_of_selects (args := #[]) (mvT hZ (hw _ (List.mem_of_getElem? (i := 81) rfl)))) (hw _ (List.mem_of_getElem? (i := 81) rfl)) (hw _ (List.mem_of_getElem? (i := 80) rfl)) (hw _ (List.mem_of_getElem? (i := 8) rfl)) (hw _ (List.mem_of_getElem? (i := 82) rfl)) (a := a2) f4 (by decide) (W := 1) (by decide) (by decide) N1 e1 (by rw [hml]; rfl) (argsL := []) (rest := [(.int (0 : Int32))]) (lenOf pd_0 rfl) (Nat.le_of_eq rfl) (by decide) (by decide) (rm16 l Z a0 hw [] a2 zc h0 n0 O0 ⟨z0, hzc, trivial⟩ f6) rfl (hb hby d15_7) ?_
  intro v2 T2 lc2 X2 N2 hQ2
  obtain ⟨rfl, e2⟩ := hQ2
  refine own_icmpNo X2 hx (hb hby d15_10) (teq (by decide : (0 : Int32) = (0 : Int32))).2 ?_
  refine own_aloadN X2 hx (hb hby d15_13) rfl rfl ?_
  refine own_virtual X2 hx hZ hown (y := (⟨"java/lang/String", "isLatin1", "()Z"⟩ : MethodName)) (z := (⟨"java/lang/String", "isLatin1", "()Z"⟩ : MethodName)) (hw _ (List.mem_of_getElem? (i := 83) rfl)) (hw _ (List.mem_of_getElem? (i := 84) rfl)) (notFace_of_selects (args := #[]) (mvT hZ (hw _ (List.mem_of_getElem? (i := 86) rfl)))) (hw _ (List.mem_of_getElem? (i := 86) rfl)) (hw _ (List.mem_of_getElem? (i := 85) rfl)) (hw _ (List.mem_of_getElem? (i := 8) rfl)) (hw _ (List.mem_of_getElem? (i := 87) rfl)) (a := a1) f0 (by decide) (W := 0) (by decide) (by decide) N2 e2 (by rw [hml]; rfl) (argsL := []) (rest := []) (lenOf pd_2 rfl) (Nat.le_of_eq rfl) (by decide) (by decide) (rm17 l Z a0 hw [] a1 zc h0 n0 O0 ⟨z0, hzc, trivial⟩ f2) rfl (hb hby d15_14) ?_
  intro v3 T3 lc3 X3 N3 hQ3
  obtain ⟨rfl, e3⟩ := hQ3
  refine own_ifNo X3 hx (hb hby d15_17) ((if0 _ _).trans (feq (by decide : ¬ ((1 : Int32) = (0 : Int32)))).1) ?_
  refine own_aloadN X3 hx (hb hby d15_20) rfl rfl ?_
  refine own_getF X3 hx hZ hown (host := "") (Or.inl (hw _ (List.mem_of_getElem? (i := 25) rfl))) Via.refl e3 f1 (hb hby d15_21) (fun T4 X4 e4 => ?_)
  refine own_aloadN X4 hx (hb hby d15_24) rfl rfl ?_
  refine own_getF X4 hx hZ hown (host := "") (Or.inl (hw _ (List.mem_of_getElem? (i := 25) rfl))) Via.refl e4 f5 (hb hby d15_25) (fun T5 X5 e5 => ?_)
  refine own_callS X5 hx hZ hown (y := (⟨"java/lang/StringLatin1", "indexOf", "([B[B)I"⟩ : MethodName)) (hw _ (List.mem_of_getElem? (i := 88) rfl)) (hw _ (List.mem_of_getElem? (i := 89) rfl)) (hw _ (List.mem_of_getElem? (i := 90) rfl)) (hw _ (List.mem_of_getElem? (i := 91) rfl)) (by decide) (W := 0) (by decide) (by decide) N3 e5 (by rw [hml]; rfl) (argsL := [(.ref t), (.ref t2)]) (rest := []) (lenOf pd_3 rfl) (Nat.le_of_eq rfl) (by decide) (by decide) (rm184a l Z a0 hw [] t t2 k k2 x0 x1 x2 x3 h0 n0 O0 f3 f7 hpa0 hpa1 hpa2) rfl (hb hby d15_28) ?_
  intro v6 T6 lc6 X6 N6 hQ6
  obtain ⟨rfl, e6⟩ := hQ6
  refine own_goto X6 hx (pc' := 45) (hb hby d15_31) (by decide) (by decide) ?_
  show Goes _ _ _ _ _ _ (T6.setTop (mkF m 45 #[.val (.ref a1), .val (.ref a2), .val (.int (0 : Int32))] [(.int (-1 : Int32))]))
  exact own_retI X6 hx N6 hlk (by decide) (by decide) hret (hb hby d15_45) (by rw [e6]; exact ⟨rfl, rfl⟩)
def Q134a (Z : State) (a1 : Addr) (a2 : Addr) (t : Addr) (k : ClassId) (x0 : Int32) (x1 : Int32) (x2 : Int32) (x3 : Int32) (t2 : Addr) (k2 : ClassId) (zc : Int32) (h0 : Heap) (n0 : Nat) (v : Option Value) (h : Heap) : Prop :=
  (v = some (.int (0 : Int32)) ∧ h = h0)
theorem ef_134a (m : MethodId) (a1 : Addr) (a2 : Addr) : entryFrame m #[(.ref a1), (.ref a2)] 2 = mkF m 0 #[.val (.ref a1), .val (.ref a2)] [] := by first | (simp [entryFrame, mkF, argsToLocals, Value.category]; done) | rfl
set_option maxRecDepth 65536 in
set_option maxHeartbeats 40000000 in
theorem rm134a (l : Launch) (Z : State) (a0 : Array Value) (hw : ∀ d ∈ tables_1, d.before a0 Z = true) (ws : List Jvm.Cond) (a1 : Addr) (a2 : Addr) (t : Addr) (k : ClassId) (x0 : Int32) (x1 : Int32) (x2 : Int32) (x3 : Int32) (t2 : Addr) (k2 : ClassId) (zc : Int32) (h0 : Heap) (n0 : Nat) (O0 : Old Z n0 h0) (SF : Start Z zc) (f0 : Exa Z h0 a1 "java/lang/String") (f1 : Fld Z h0 a1 "java/lang/String" "value" "[B" (.ref t)) (f2 : Fld Z h0 a1 "java/lang/String" "coder" "B" (.int (0 : Int32))) (f3 : Arv Z h0 t k .byte (4 : Int32) [(.int x0), (.int x1), (.int x2), (.int x3)] (.int (0 : Int32))) (f4 : Exa Z h0 a2 "java/lang/String") (f5 : Fld Z h0 a2 "java/lang/String" "value" "[B" (.ref t2)) (f6 : Fld Z h0 a2 "java/lang/String" "coder" "B" (.int (0 : Int32))) (f7 : Arv Z h0 t2 k2 .byte (2 : Int32) [(.int (45 : Int32)), (.int (62 : Int32))] (.int (0 : Int32))) (hpa0 : ¬ (x0 = (45 : Int32) ∧ x1 = (62 : Int32))) (hpa1 : ¬ (x1 = (45 : Int32) ∧ x2 = (62 : Int32))) (hpa2 : ¬ (x2 = (45 : Int32) ∧ x3 = (62 : Int32))) :
    Meets l (⟨"java/lang/String", "contains", "(Ljava/lang/CharSequence;)Z"⟩ : MethodName) jdk_42_method_97_code 2 (some .boolean) ws ({ frames := 3, cells := 0, slots := 0, locals := 49 } : Room) ({ frames := 3, cells := 0, slots := 0, locals := 49 } : Room).cells ({ frames := 3, cells := 0, slots := 0, locals := 49 } : Room).slots Z #[(.ref a1), (.ref a2)] h0 n0 (Q134a Z a1 a2 t k x0 x1 x2 x3 t2 k2 zc h0 n0) := by
  refine Meets.of (F := fun m => mkF m 0 #[.val (.ref a1), .val (.ref a2)] []) (plainFor_of_name pn_0) (fun m => ef_134a m a1 a2) ?_
  intro p e s m below meth c T0 hx hby hml hown0 hnm hret hlk hZ X0 e0
  have hown : s.vm.findClass "java/lang/String" = some m.cls := hown0
  have N0 := Fr.nil n0
  obtain ⟨z0, hzc, -⟩ := SF
  show Goes _ _ _ _ _ _ (T0.setTop (mkF m 0 #[.val (.ref a1), .val (.ref a2)] []))
  refine own_aloadN X0 hx (hb hby d13_0) rfl rfl ?_
  refine own_aloadN X0 hx (hb hby d13_1) rfl rfl ?_
  refine own_iface X0 hx hZ hown (y := (⟨"java/lang/CharSequence", "toString", "()Ljava/lang/String;"⟩ : MethodName)) (z := (⟨"java/lang/String", "toString", "()Ljava/lang/String;"⟩ : MethodName)) (hw _ (List.mem_of_getElem? (i := 64) rfl)) (hw _ (List.mem_of_getElem? (i := 65) rfl)) (hw _ (List.mem_of_getElem? (i := 66) rfl)) (hw _ (List.mem_of_getElem? (i := 67) rfl)) (hw _ (List.mem_of_getElem? (i := 68) rfl)) (hw _ (List.mem_of_getElem? (i := 69) rfl)) (hw _ (List.mem_of_getElem? (i := 70) rfl)) (hw _ (List.mem_of_getElem? (i := 71) rfl)) (hw _ (List.mem_of_getElem? (i := 8) rfl)) (hw _ (List.mem_of_getElem? (i := 72) rfl)) (a := a2) f4 (by decide) (W := 1) (by decide) (by decide) N0 e0 (by rw [hml]; rfl) (argsL := []) (rest := [(.ref a1)]) (lenOf pd_4 rfl) (Nat.le_of_eq rfl) (by decide) (by decide) (rm14 l Z a0 hw [] a2 h0 n0 O0) rfl (hb hby d13_2) ?_
  intro v1 T1 lc1 X1 N1 hQ1
  obtain ⟨rfl, e1⟩ := hQ1
  refine own_virtual X1 hx hZ hown (y := (⟨"java/lang/String", "indexOf", "(Ljava/lang/String;)I"⟩ : MethodName)) (z := (⟨"java/lang/String", "indexOf", "(Ljava/lang/String;)I"⟩ : MethodName)) (hw _ (List.mem_of_getElem? (i := 73) rfl)) (hw _ (List.mem_of_getElem? (i := 74) rfl)) (notFace_of_selects (args := #[]) (mvT hZ (hw _ (List.mem_of_getElem? (i := 76) rfl)))) (hw _ (List.mem_of_getElem? (i := 76) rfl)) (hw _ (List.mem_of_getElem? (i := 75) rfl)) (hw _ (List.mem_of_getElem? (i := 8) rfl)) (hw _ (List.mem_of_getElem? (i := 77) rfl)) (a := a1) f0 (by decide) (W := 0) (by decide) (by decide) N1 e1 (by rw [hml]; rfl) (argsL := [(.ref a2)]) (rest := []) (lenOf pd_5 rfl) (Nat.le_of_eq rfl) (by decide) (by decide) (rm154a l Z a0 hw [] a1 a2 t k x0 x1 x2 x3 t2 k2 zc h0 n0 O0 ⟨z0, hzc, trivial⟩ f0 f1 f2 f3 f4 f5 f6 f7 hpa0 hpa1 hpa2) rfl (hb hby d13_7) ?_
  intro v2 T2 lc2 X2 N2 hQ2
  obtain ⟨rfl, e2⟩ := hQ2
  refine own_ifYes X2 hx (pc' := 17) (hb hby d13_10) ((if0 _ _).trans (tlt (by decide : (-1 : Int32) < (0 : Int32))).1) (by decide) (by decide) ?_
  refine own_iconst X2 hx (v := (0 : Int32)) (hb hby d13_17) rfl ?_
  show Goes _ _ _ _ _ _ (T2.setTop (mkF m 18 #[.val (.ref a1), .val (.ref a2)] [(.int (0 : Int32))]))
  exact own_retN X2 hx (t := .boolean) N2 hlk (by decide) (by decide) hret (by simp) (hb hby d13_18) (by rw [e2]; exact ⟨rfl, rfl⟩)
def Q194c (Z : State) (a1 : Addr) (a3 : Addr) (k : ClassId) (k2 : ClassId) (x0 : Int32) (x1 : Int32) (x2 : Int32) (x3 : Int32) (h0 : Heap) (n0 : Nat) (v : Option Value) (h : Heap) : Prop :=
  (v = some (.int (-1 : Int32)) ∧ h = h0)
theorem ef_194c (m : MethodId) (a1 : Addr) (a3 : Addr) : entryFrame m #[(.ref a1), (.int (4 : Int32)), (.ref a3), (.int (2 : Int32)), (.int (0 : Int32))] 11 = mkF m 0 #[.val (.ref a1), .val (.int (4 : Int32)), .val (.ref a3), .val (.int (2 : Int32)), .val (.int (0 : Int32)), .unset, .unset, .unset, .unset, .unset, .unset] [] := by first | (simp [entryFrame, mkF, argsToLocals, Value.category]; done) | rfl
set_option maxRecDepth 65536 in
set_option maxHeartbeats 40000000 in
theorem rm194c (l : Launch) (Z : State) (a0 : Array Value) (hw : ∀ d ∈ tables_1, d.before a0 Z = true) (ws : List Jvm.Cond) (a1 : Addr) (a3 : Addr) (k : ClassId) (k2 : ClassId) (x0 : Int32) (x1 : Int32) (x2 : Int32) (x3 : Int32) (h0 : Heap) (n0 : Nat) (O0 : Old Z n0 h0) (f0 : Arv Z h0 a1 k .byte (4 : Int32) [(.int x0), (.int x1), (.int x2), (.int x3)] (.int (0 : Int32))) (f1 : Arv Z h0 a3 k2 .byte (2 : Int32) [(.int (58 : Int32)), (.int (58 : Int32))] (.int (0 : Int32))) (hpc0 : ¬ (x0 = (58 : Int32) ∧ x1 = (58 : Int32))) (hpc1 : ¬ (x1 = (58 : Int32) ∧ x2 = (58 : Int32))) (hpc2 : ¬ (x2 = (58 : Int32) ∧ x3 = (58 : Int32))) :
    Meets l (⟨"java/lang/StringLatin1", "indexOf", "([BI[BII)I"⟩ : MethodName) jdk_43_method_25_code 11 (some .int) ws ({ frames := 0, cells := 0, slots := 0, locals := 0 } : Room) ({ frames := 0, cells := 0, slots := 0, locals := 0 } : Room).cells ({ frames := 0, cells := 0, slots := 0, locals := 0 } : Room).slots Z #[(.ref a1), (.int (4 : Int32)), (.ref a3), (.int (2 : Int32)), (.int (0 : Int32))] h0 n0 (Q194c Z a1 a3 k k2 x0 x1 x2 x3 h0 n0) := by
  refine Meets.of (F := fun m => mkF m 0 #[.val (.ref a1), .val (.int (4 : Int32)), .val (.ref a3), .val (.int (2 : Int32)), .val (.int (0 : Int32)), .unset, .unset, .unset, .unset, .unset, .unset] []) (plainFor_of_name pn_2) (fun m => ef_194c m a1 a3) ?_
  intro p e s m below meth c T0 hx hby hml hown0 hnm hret hlk hZ X0 e0
  have hown : s.vm.findClass "java/lang/StringLatin1" = some m.cls := hown0
  have N0 := Fr.nil n0
  show Goes _ _ _ _ _ _ (T0.setTop (mkF m 0 #[.val (.ref a1), .val (.int (4 : Int32)), .val (.ref a3), .val (.int (2 : Int32)), .val (.int (0 : Int32)), .unset, .unset, .unset, .unset, .unset, .unset] []))
  refine own_aloadN X0 hx (hb hby d19_0) rfl rfl ?_
  refine own_iconst X0 hx (v := (0 : Int32)) (hb hby d19_1) rfl ?_
  refine own_baload X0 hx hZ e0 f1 ⟨by decide, by decide⟩ (v := (.int (58 : Int32))) rfl (hb hby d19_2) ?_
  refine own_istore X0 hx (Ls' := #[.val (.ref a1), .val (.int (4 : Int32)), .val (.ref a3), .val (.int (2 : Int32)), .val (.int (0 : Int32)), .val (.int (58 : Int32)), .unset, .unset, .unset, .unset, .unset]) (hb hby d19_3) rfl ?_
  refine own_iloadN X0 hx (hb hby d19_5) rfl ?_
  refine own_iloadN X0 hx (hb hby d19_6) rfl ?_
  refine own_isub X0 hx (hb hby d19_7) ?_
  refine own_istore X0 hx (Ls' := #[.val (.ref a1), .val (.int (4 : Int32)), .val (.ref a3), .val (.int (2 : Int32)), .val (.int (0 : Int32)), .val (.int (58 : Int32)), .val (.int ((4 : Int32) - (2 : Int32))), .unset, .unset, .unset, .unset]) (hb hby d19_8) rfl ?_
  refine own_iload X0 hx (hb hby d19_10) rfl ?_
  refine own_istore X0 hx (Ls' := #[.val (.ref a1), .val (.int (4 : Int32)), .val (.ref a3), .val (.int (2 : Int32)), .val (.int (0 : Int32)), .val (.int (58 : Int32)), .val (.int ((4 : Int32) - (2 : Int32))), .val (.int (0 : Int32)), .unset, .unset, .unset]) (hb hby d19_12) rfl ?_
  refine own_iload X0 hx (hb hby d19_14) rfl ?_
  refine own_iload X0 hx (hb hby d19_16) rfl ?_
  refine own_icmpNo X0 hx (hb hby d19_18) (flt (by decide : ¬ (((4 : Int32) - (2 : Int32)) < (0 : Int32)))).2.2.1 ?_
  refine own_aloadN X0 hx (hb hby d19_21) rfl rfl ?_
  refine own_iload X0 hx (hb hby d19_22) rfl ?_
  refine own_baload X0 hx hZ e0 f0 ⟨by decide, by decide⟩ (v := (.int x0)) rfl (hb hby d19_24) ?_
  refine own_iload X0 hx (hb hby d19_25) rfl ?_
  by_cases hc27_1 : x0 = (58 : Int32)
  ·
    refine own_icmpYes X0 hx (pc' := 52) (hb hby d19_27) (teq (hc27_1 : x0 = (58 : Int32))).1 (by decide) (by decide) ?_
    refine own_iload X0 hx (hb hby d19_52) rfl ?_
    refine own_iload X0 hx (hb hby d19_54) rfl ?_
    refine own_icmpNo X0 hx (hb hby d19_56) (flt (by decide : ¬ (((4 : Int32) - (2 : Int32)) < (0 : Int32)))).2.2.1 ?_
    refine own_iload X0 hx (hb hby d19_59) rfl ?_
    refine own_iconst X0 hx (v := (1 : Int32)) (hb hby d19_61) rfl ?_
    refine own_iadd X0 hx (hb hby d19_62) ?_
    refine own_istore X0 hx (Ls' := #[.val (.ref a1), .val (.int (4 : Int32)), .val (.ref a3), .val (.int (2 : Int32)), .val (.int (0 : Int32)), .val (.int (58 : Int32)), .val (.int ((4 : Int32) - (2 : Int32))), .val (.int (0 : Int32)), .val (.int ((0 : Int32) + (1 : Int32))), .unset, .unset]) (hb hby d19_63) rfl ?_
    refine own_iload X0 hx (hb hby d19_65) rfl ?_
    show Goes _ _ _ _ _ _ (T0.setTop (mkF m 67 #[.val (.ref a1), .val (.int (4 : Int32)), .val (.ref a3), .val (.int (2 : Int32)), .val (.int (0 : Int32)), .val (.int (58 : Int32)), .val (.int ((4 : Int32) - (2 : Int32))), .val (.int (0 : Int32)), .val (.int ((0 : Int32) + (1 : Int32))), .unset, .unset] [(.int ((0 : Int32) + (1 : Int32)))]))
    refine own_iloadN X0 hx (hb hby d19_67) rfl ?_
    refine own_iadd X0 hx (hb hby d19_68) ?_
    refine own_iconst X0 hx (v := (1 : Int32)) (hb hby d19_69) rfl ?_
    refine own_isub X0 hx (hb hby d19_70) ?_
    refine own_istore X0 hx (Ls' := #[.val (.ref a1), .val (.int (4 : Int32)), .val (.ref a3), .val (.int (2 : Int32)), .val (.int (0 : Int32)), .val (.int (58 : Int32)), .val (.int ((4 : Int32) - (2 : Int32))), .val (.int (0 : Int32)), .val (.int ((0 : Int32) + (1 : Int32))), .val (.int ((((0 : Int32) + (1 : Int32)) + (2 : Int32)) - (1 : Int32))), .unset]) (hb hby d19_71) rfl ?_
    refine own_iconst X0 hx (v := (1 : Int32)) (hb hby d19_73) rfl ?_
    refine own_istore X0 hx (Ls' := #[.val (.ref a1), .val (.int (4 : Int32)), .val (.ref a3), .val (.int (2 : Int32)), .val (.int (0 : Int32)), .val (.int (58 : Int32)), .val (.int ((4 : Int32) - (2 : Int32))), .val (.int (0 : Int32)), .val (.int ((0 : Int32) + (1 : Int32))), .val (.int ((((0 : Int32) + (1 : Int32)) + (2 : Int32)) - (1 : Int32))), .val (.int (1 : Int32))]) (hb hby d19_74) rfl ?_
    refine own_iload X0 hx (hb hby d19_76) rfl ?_
    refine own_iload X0 hx (hb hby d19_78) rfl ?_
    refine own_icmpNo X0 hx (hb hby d19_80) (tlt (by decide : ((0 : Int32) + (1 : Int32)) < ((((0 : Int32) + (1 : Int32)) + (2 : Int32)) - (1 : Int32)))).2.1 ?_
    refine own_aloadN X0 hx (hb hby d19_83) rfl rfl ?_
    refine own_iload X0 hx (hb hby d19_84) rfl ?_
    refine own_baload X0 hx hZ e0 f0 ⟨by decide, by decide⟩ (v := (.int x1)) rfl (hb hby d19_86) ?_
    refine own_aloadN X0 hx (hb hby d19_87) rfl rfl ?_
    refine own_iload X0 hx (hb hby d19_88) rfl ?_
    show Goes _ _ _ _ _ _ (T0.setTop (mkF m 90 #[.val (.ref a1), .val (.int (4 : Int32)), .val (.ref a3), .val (.int (2 : Int32)), .val (.int (0 : Int32)), .val (.int (58 : Int32)), .val (.int ((4 : Int32) - (2 : Int32))), .val (.int (0 : Int32)), .val (.int ((0 : Int32) + (1 : Int32))), .val (.int ((((0 : Int32) + (1 : Int32)) + (2 : Int32)) - (1 : Int32))), .val (.int (1 : Int32))] [(.int (1 : Int32)), (.ref a3), (.int x1)]))
    refine own_baload X0 hx hZ e0 f1 ⟨by decide, by decide⟩ (v := (.int (58 : Int32))) rfl (hb hby d19_90) ?_
    by_cases hc91_2 : x1 = (58 : Int32)
    ·
      exact absurd ⟨hc27_1, hc91_2⟩ hpc0
    ·
      refine own_icmpYes X0 hx (pc' := 103) (hb hby d19_91) (feq (hc91_2 : ¬ (x1 = (58 : Int32)))).2 (by decide) (by decide) ?_
      refine own_iload X0 hx (hb hby d19_103) rfl ?_
      refine own_iload X0 hx (hb hby d19_105) rfl ?_
      refine own_icmpYes X0 hx (pc' := 113) (hb hby d19_107) (feq (by decide : ¬ (((0 : Int32) + (1 : Int32)) = ((((0 : Int32) + (1 : Int32)) + (2 : Int32)) - (1 : Int32))))).2 (by decide) (by decide) ?_
      refine own_iinc X0 hx (Ls' := #[.val (.ref a1), .val (.int (4 : Int32)), .val (.ref a3), .val (.int (2 : Int32)), .val (.int (0 : Int32)), .val (.int (58 : Int32)), .val (.int ((4 : Int32) - (2 : Int32))), .val (.int ((0 : Int32) + (1 : Int32))), .val (.int ((0 : Int32) + (1 : Int32))), .val (.int ((((0 : Int32) + (1 : Int32)) + (2 : Int32)) - (1 : Int32))), .val (.int (1 : Int32))]) (hb hby d19_113) rfl rfl ?_
      refine own_goto X0 hx (pc' := 14) (hb hby d19_116) (by decide) (by decide) ?_
      refine own_iload X0 hx (hb hby d19_14) rfl ?_
      refine own_iload X0 hx (hb hby d19_16) rfl ?_
      refine own_icmpNo X0 hx (hb hby d19_18) (flt (by decide : ¬ (((4 : Int32) - (2 : Int32)) < ((0 : Int32) + (1 : Int32))))).2.2.1 ?_
      refine own_aloadN X0 hx (hb hby d19_21) rfl rfl ?_
      refine own_iload X0 hx (hb hby d19_22) rfl ?_
      refine own_baload X0 hx hZ e0 f0 ⟨by decide, by decide⟩ (v := (.int x1)) rfl (hb hby d19_24) ?_
      refine own_iload X0 hx (hb hby d19_25) rfl ?_
      refine own_icmpNo X0 hx (hb hby d19_27) (feq (hc91_2 : ¬ (x1 = (58 : Int32)))).1 ?_
      refine own_iinc X0 hx (Ls' := #[.val (.ref a1), .val (.int (4 : Int32)), .val (.ref a3), .val (.int (2 : Int32)), .val (.int (0 : Int32)), .val (.int (58 : Int32)), .val (.int ((4 : Int32) - (2 : Int32))), .val (.int (((0 : Int32) + (1 : Int32)) + (1 : Int32))), .val (.int ((0 : Int32) + (1 : Int32))), .val (.int ((((0 : Int32) + (1 : Int32)) + (2 : Int32)) - (1 : Int32))), .val (.int (1 : Int32))]) (hb hby d19_30) rfl rfl ?_
      refine own_iload X0 hx (hb hby d19_33) rfl ?_
      refine own_iload X0 hx (hb hby d19_35) rfl ?_
      refine own_icmpNo X0 hx (hb hby d19_37) (flt (by decide : ¬ (((4 : Int32) - (2 : Int32)) < (((0 : Int32) + (1 : Int32)) + (1 : Int32))))).2.2.1 ?_
      refine own_aloadN X0 hx (hb hby d19_40) rfl rfl ?_
      refine own_iload X0 hx (hb hby d19_41) rfl ?_
      refine own_baload X0 hx hZ e0 f0 ⟨by decide, by decide⟩ (v := (.int x2)) rfl (hb hby d19_43) ?_
      refine own_iload X0 hx (hb hby d19_44) rfl ?_
      by_cases hc46_3 : x2 = (58 : Int32)
      ·
        refine own_icmpYes X0 hx (pc' := 52) (hb hby d19_46) (teq (hc46_3 : x2 = (58 : Int32))).1 (by decide) (by decide) ?_
        refine own_iload X0 hx (hb hby d19_52) rfl ?_
        refine own_iload X0 hx (hb hby d19_54) rfl ?_
        refine own_icmpNo X0 hx (hb hby d19_56) (flt (by decide : ¬ (((4 : Int32) - (2 : Int32)) < (((0 : Int32) + (1 : Int32)) + (1 : Int32))))).2.2.1 ?_
        refine own_iload X0 hx (hb hby d19_59) rfl ?_
        refine own_iconst X0 hx (v := (1 : Int32)) (hb hby d19_61) rfl ?_
        refine own_iadd X0 hx (hb hby d19_62) ?_
        refine own_istore X0 hx (Ls' := #[.val (.ref a1), .val (.int (4 : Int32)), .val (.ref a3), .val (.int (2 : Int32)), .val (.int (0 : Int32)), .val (.int (58 : Int32)), .val (.int ((4 : Int32) - (2 : Int32))), .val (.int (((0 : Int32) + (1 : Int32)) + (1 : Int32))), .val (.int ((((0 : Int32) + (1 : Int32)) + (1 : Int32)) + (1 : Int32))), .val (.int ((((0 : Int32) + (1 : Int32)) + (2 : Int32)) - (1 : Int32))), .val (.int (1 : Int32))]) (hb hby d19_63) rfl ?_
        refine own_iload X0 hx (hb hby d19_65) rfl ?_
        show Goes _ _ _ _ _ _ (T0.setTop (mkF m 67 #[.val (.ref a1), .val (.int (4 : Int32)), .val (.ref a3), .val (.int (2 : Int32)), .val (.int (0 : Int32)), .val (.int (58 : Int32)), .val (.int ((4 : Int32) - (2 : Int32))), .val (.int (((0 : Int32) + (1 : Int32)) + (1 : Int32))), .val (.int ((((0 : Int32) + (1 : Int32)) + (1 : Int32)) + (1 : Int32))), .val (.int ((((0 : Int32) + (1 : Int32)) + (2 : Int32)) - (1 : Int32))), .val (.int (1 : Int32))] [(.int ((((0 : Int32) + (1 : Int32)) + (1 : Int32)) + (1 : Int32)))]))
        refine own_iloadN X0 hx (hb hby d19_67) rfl ?_
        refine own_iadd X0 hx (hb hby d19_68) ?_
        refine own_iconst X0 hx (v := (1 : Int32)) (hb hby d19_69) rfl ?_
        refine own_isub X0 hx (hb hby d19_70) ?_
        refine own_istore X0 hx (Ls' := #[.val (.ref a1), .val (.int (4 : Int32)), .val (.ref a3), .val (.int (2 : Int32)), .val (.int (0 : Int32)), .val (.int (58 : Int32)), .val (.int ((4 : Int32) - (2 : Int32))), .val (.int (((0 : Int32) + (1 : Int32)) + (1 : Int32))), .val (.int ((((0 : Int32) + (1 : Int32)) + (1 : Int32)) + (1 : Int32))), .val (.int ((((((0 : Int32) + (1 : Int32)) + (1 : Int32)) + (1 : Int32)) + (2 : Int32)) - (1 : Int32))), .val (.int (1 : Int32))]) (hb hby d19_71) rfl ?_
        refine own_iconst X0 hx (v := (1 : Int32)) (hb hby d19_73) rfl ?_
        refine own_istore X0 hx (Ls' := #[.val (.ref a1), .val (.int (4 : Int32)), .val (.ref a3), .val (.int (2 : Int32)), .val (.int (0 : Int32)), .val (.int (58 : Int32)), .val (.int ((4 : Int32) - (2 : Int32))), .val (.int (((0 : Int32) + (1 : Int32)) + (1 : Int32))), .val (.int ((((0 : Int32) + (1 : Int32)) + (1 : Int32)) + (1 : Int32))), .val (.int ((((((0 : Int32) + (1 : Int32)) + (1 : Int32)) + (1 : Int32)) + (2 : Int32)) - (1 : Int32))), .val (.int (1 : Int32))]) (hb hby d19_74) rfl ?_
        refine own_iload X0 hx (hb hby d19_76) rfl ?_
        refine own_iload X0 hx (hb hby d19_78) rfl ?_
        refine own_icmpNo X0 hx (hb hby d19_80) (tlt (by decide : ((((0 : Int32) + (1 : Int32)) + (1 : Int32)) + (1 : Int32)) < ((((((0 : Int32) + (1 : Int32)) + (1 : Int32)) + (1 : Int32)) + (2 : Int32)) - (1 : Int32)))).2.1 ?_
        refine own_aloadN X0 hx (hb hby d19_83) rfl rfl ?_
        refine own_iload X0 hx (hb hby d19_84) rfl ?_
        refine own_baload X0 hx hZ e0 f0 ⟨by decide, by decide⟩ (v := (.int x3)) rfl (hb hby d19_86) ?_
        refine own_aloadN X0 hx (hb hby d19_87) rfl rfl ?_
        refine own_iload X0 hx (hb hby d19_88) rfl ?_
        show Goes _ _ _ _ _ _ (T0.setTop (mkF m 90 #[.val (.ref a1), .val (.int (4 : Int32)), .val (.ref a3), .val (.int (2 : Int32)), .val (.int (0 : Int32)), .val (.int (58 : Int32)), .val (.int ((4 : Int32) - (2 : Int32))), .val (.int (((0 : Int32) + (1 : Int32)) + (1 : Int32))), .val (.int ((((0 : Int32) + (1 : Int32)) + (1 : Int32)) + (1 : Int32))), .val (.int ((((((0 : Int32) + (1 : Int32)) + (1 : Int32)) + (1 : Int32)) + (2 : Int32)) - (1 : Int32))), .val (.int (1 : Int32))] [(.int (1 : Int32)), (.ref a3), (.int x3)]))
        refine own_baload X0 hx hZ e0 f1 ⟨by decide, by decide⟩ (v := (.int (58 : Int32))) rfl (hb hby d19_90) ?_
        by_cases hc91_4 : x3 = (58 : Int32)
        ·
          exact absurd ⟨hc46_3, hc91_4⟩ hpc2
        ·
          refine own_icmpYes X0 hx (pc' := 103) (hb hby d19_91) (feq (hc91_4 : ¬ (x3 = (58 : Int32)))).2 (by decide) (by decide) ?_
          refine own_iload X0 hx (hb hby d19_103) rfl ?_
          refine own_iload X0 hx (hb hby d19_105) rfl ?_
          refine own_icmpYes X0 hx (pc' := 113) (hb hby d19_107) (feq (by decide : ¬ (((((0 : Int32) + (1 : Int32)) + (1 : Int32)) + (1 : Int32)) = ((((((0 : Int32) + (1 : Int32)) + (1 : Int32)) + (1 : Int32)) + (2 : Int32)) - (1 : Int32))))).2 (by decide) (by decide) ?_
          refine own_iinc X0 hx (Ls' := #[.val (.ref a1), .val (.int (4 : Int32)), .val (.ref a3), .val (.int (2 : Int32)), .val (.int (0 : Int32)), .val (.int (58 : Int32)), .val (.int ((4 : Int32) - (2 : Int32))), .val (.int ((((0 : Int32) + (1 : Int32)) + (1 : Int32)) + (1 : Int32))), .val (.int ((((0 : Int32) + (1 : Int32)) + (1 : Int32)) + (1 : Int32))), .val (.int ((((((0 : Int32) + (1 : Int32)) + (1 : Int32)) + (1 : Int32)) + (2 : Int32)) - (1 : Int32))), .val (.int (1 : Int32))]) (hb hby d19_113) rfl rfl ?_
          refine own_goto X0 hx (pc' := 14) (hb hby d19_116) (by decide) (by decide) ?_
          refine own_iload X0 hx (hb hby d19_14) rfl ?_
          refine own_iload X0 hx (hb hby d19_16) rfl ?_
          refine own_icmpYes X0 hx (pc' := 119) (hb hby d19_18) (tlt (by decide : ((4 : Int32) - (2 : Int32)) < ((((0 : Int32) + (1 : Int32)) + (1 : Int32)) + (1 : Int32)))).2.2.1 (by decide) (by decide) ?_
          refine own_iconst X0 hx (v := (-1 : Int32)) (hb hby d19_119) rfl ?_
          show Goes _ _ _ _ _ _ (T0.setTop (mkF m 120 #[.val (.ref a1), .val (.int (4 : Int32)), .val (.ref a3), .val (.int (2 : Int32)), .val (.int (0 : Int32)), .val (.int (58 : Int32)), .val (.int ((4 : Int32) - (2 : Int32))), .val (.int ((((0 : Int32) + (1 : Int32)) + (1 : Int32)) + (1 : Int32))), .val (.int ((((0 : Int32) + (1 : Int32)) + (1 : Int32)) + (1 : Int32))), .val (.int ((((((0 : Int32) + (1 : Int32)) + (1 : Int32)) + (1 : Int32)) + (2 : Int32)) - (1 : Int32))), .val (.int (1 : Int32))] [(.int (-1 : Int32))]))
          exact own_retI X0 hx N0 hlk (by decide) (by decide) hret (hb hby d19_120) (by rw [e0]; exact ⟨rfl, rfl⟩)
      ·
        refine own_icmpNo X0 hx (hb hby d19_46) (feq (hc46_3 : ¬ (x2 = (58 : Int32)))).1 ?_
        refine own_goto X0 hx (pc' := 30) (hb hby d19_49) (by decide) (by decide) ?_
        refine own_iinc X0 hx (Ls' := #[.val (.ref a1), .val (.int (4 : Int32)), .val (.ref a3), .val (.int (2 : Int32)), .val (.int (0 : Int32)), .val (.int (58 : Int32)), .val (.int ((4 : Int32) - (2 : Int32))), .val (.int ((((0 : Int32) + (1 : Int32)) + (1 : Int32)) + (1 : Int32))), .val (.int ((0 : Int32) + (1 : Int32))), .val (.int ((((0 : Int32) + (1 : Int32)) + (2 : Int32)) - (1 : Int32))), .val (.int (1 : Int32))]) (hb hby d19_30) rfl rfl ?_
        refine own_iload X0 hx (hb hby d19_33) rfl ?_
        refine own_iload X0 hx (hb hby d19_35) rfl ?_
        refine own_icmpYes X0 hx (pc' := 52) (hb hby d19_37) (tlt (by decide : ((4 : Int32) - (2 : Int32)) < ((((0 : Int32) + (1 : Int32)) + (1 : Int32)) + (1 : Int32)))).2.2.1 (by decide) (by decide) ?_
        refine own_iload X0 hx (hb hby d19_52) rfl ?_
        refine own_iload X0 hx (hb hby d19_54) rfl ?_
        refine own_icmpYes X0 hx (pc' := 113) (hb hby d19_56) (tlt (by decide : ((4 : Int32) - (2 : Int32)) < ((((0 : Int32) + (1 : Int32)) + (1 : Int32)) + (1 : Int32)))).2.2.1 (by decide) (by decide) ?_
        refine own_iinc X0 hx (Ls' := #[.val (.ref a1), .val (.int (4 : Int32)), .val (.ref a3), .val (.int (2 : Int32)), .val (.int (0 : Int32)), .val (.int (58 : Int32)), .val (.int ((4 : Int32) - (2 : Int32))), .val (.int (((((0 : Int32) + (1 : Int32)) + (1 : Int32)) + (1 : Int32)) + (1 : Int32))), .val (.int ((0 : Int32) + (1 : Int32))), .val (.int ((((0 : Int32) + (1 : Int32)) + (2 : Int32)) - (1 : Int32))), .val (.int (1 : Int32))]) (hb hby d19_113) rfl rfl ?_
        refine own_goto X0 hx (pc' := 14) (hb hby d19_116) (by decide) (by decide) ?_
        refine own_iload X0 hx (hb hby d19_14) rfl ?_
        refine own_iload X0 hx (hb hby d19_16) rfl ?_
        refine own_icmpYes X0 hx (pc' := 119) (hb hby d19_18) (tlt (by decide : ((4 : Int32) - (2 : Int32)) < (((((0 : Int32) + (1 : Int32)) + (1 : Int32)) + (1 : Int32)) + (1 : Int32)))).2.2.1 (by decide) (by decide) ?_
        refine own_iconst X0 hx (v := (-1 : Int32)) (hb hby d19_119) rfl ?_
        show Goes _ _ _ _ _ _ (T0.setTop (mkF m 120 #[.val (.ref a1), .val (.int (4 : Int32)), .val (.ref a3), .val (.int (2 : Int32)), .val (.int (0 : Int32)), .val (.int (58 : Int32)), .val (.int ((4 : Int32) - (2 : Int32))), .val (.int (((((0 : Int32) + (1 : Int32)) + (1 : Int32)) + (1 : Int32)) + (1 : Int32))), .val (.int ((0 : Int32) + (1 : Int32))), .val (.int ((((0 : Int32) + (1 : Int32)) + (2 : Int32)) - (1 : Int32))), .val (.int (1 : Int32))] [(.int (-1 : Int32))]))
        exact own_retI X0 hx N0 hlk (by decide) (by decide) hret (hb hby d19_120) (by rw [e0]; exact ⟨rfl, rfl⟩)
  ·
    refine own_icmpNo X0 hx (hb hby d19_27) (feq (hc27_1 : ¬ (x0 = (58 : Int32)))).1 ?_
    refine own_iinc X0 hx (Ls' := #[.val (.ref a1), .val (.int (4 : Int32)), .val (.ref a3), .val (.int (2 : Int32)), .val (.int (0 : Int32)), .val (.int (58 : Int32)), .val (.int ((4 : Int32) - (2 : Int32))), .val (.int ((0 : Int32) + (1 : Int32))), .unset, .unset, .unset]) (hb hby d19_30) rfl rfl ?_
    refine own_iload X0 hx (hb hby d19_33) rfl ?_
    refine own_iload X0 hx (hb hby d19_35) rfl ?_
    refine own_icmpNo X0 hx (hb hby d19_37) (flt (by decide : ¬ (((4 : Int32) - (2 : Int32)) < ((0 : Int32) + (1 : Int32))))).2.2.1 ?_
    refine own_aloadN X0 hx (hb hby d19_40) rfl rfl ?_
    refine own_iload X0 hx (hb hby d19_41) rfl ?_
    refine own_baload X0 hx hZ e0 f0 ⟨by decide, by decide⟩ (v := (.int x1)) rfl (hb hby d19_43) ?_
    refine own_iload X0 hx (hb hby d19_44) rfl ?_
    by_cases hc46_5 : x1 = (58 : Int32)
    ·
      refine own_icmpYes X0 hx (pc' := 52) (hb hby d19_46) (teq (hc46_5 : x1 = (58 : Int32))).1 (by decide) (by decide) ?_
      refine own_iload X0 hx (hb hby d19_52) rfl ?_
      refine own_iload X0 hx (hb hby d19_54) rfl ?_
      refine own_icmpNo X0 hx (hb hby d19_56) (flt (by decide : ¬ (((4 : Int32) - (2 : Int32)) < ((0 : Int32) + (1 : Int32))))).2.2.1 ?_
      refine own_iload X0 hx (hb hby d19_59) rfl ?_
      refine own_iconst X0 hx (v := (1 : Int32)) (hb hby d19_61) rfl ?_
      refine own_iadd X0 hx (hb hby d19_62) ?_
      refine own_istore X0 hx (Ls' := #[.val (.ref a1), .val (.int (4 : Int32)), .val (.ref a3), .val (.int (2 : Int32)), .val (.int (0 : Int32)), .val (.int (58 : Int32)), .val (.int ((4 : Int32) - (2 : Int32))), .val (.int ((0 : Int32) + (1 : Int32))), .val (.int (((0 : Int32) + (1 : Int32)) + (1 : Int32))), .unset, .unset]) (hb hby d19_63) rfl ?_
      refine own_iload X0 hx (hb hby d19_65) rfl ?_
      show Goes _ _ _ _ _ _ (T0.setTop (mkF m 67 #[.val (.ref a1), .val (.int (4 : Int32)), .val (.ref a3), .val (.int (2 : Int32)), .val (.int (0 : Int32)), .val (.int (58 : Int32)), .val (.int ((4 : Int32) - (2 : Int32))), .val (.int ((0 : Int32) + (1 : Int32))), .val (.int (((0 : Int32) + (1 : Int32)) + (1 : Int32))), .unset, .unset] [(.int (((0 : Int32) + (1 : Int32)) + (1 : Int32)))]))
      refine own_iloadN X0 hx (hb hby d19_67) rfl ?_
      refine own_iadd X0 hx (hb hby d19_68) ?_
      refine own_iconst X0 hx (v := (1 : Int32)) (hb hby d19_69) rfl ?_
      refine own_isub X0 hx (hb hby d19_70) ?_
      refine own_istore X0 hx (Ls' := #[.val (.ref a1), .val (.int (4 : Int32)), .val (.ref a3), .val (.int (2 : Int32)), .val (.int (0 : Int32)), .val (.int (58 : Int32)), .val (.int ((4 : Int32) - (2 : Int32))), .val (.int ((0 : Int32) + (1 : Int32))), .val (.int (((0 : Int32) + (1 : Int32)) + (1 : Int32))), .val (.int (((((0 : Int32) + (1 : Int32)) + (1 : Int32)) + (2 : Int32)) - (1 : Int32))), .unset]) (hb hby d19_71) rfl ?_
      refine own_iconst X0 hx (v := (1 : Int32)) (hb hby d19_73) rfl ?_
      refine own_istore X0 hx (Ls' := #[.val (.ref a1), .val (.int (4 : Int32)), .val (.ref a3), .val (.int (2 : Int32)), .val (.int (0 : Int32)), .val (.int (58 : Int32)), .val (.int ((4 : Int32) - (2 : Int32))), .val (.int ((0 : Int32) + (1 : Int32))), .val (.int (((0 : Int32) + (1 : Int32)) + (1 : Int32))), .val (.int (((((0 : Int32) + (1 : Int32)) + (1 : Int32)) + (2 : Int32)) - (1 : Int32))), .val (.int (1 : Int32))]) (hb hby d19_74) rfl ?_
      refine own_iload X0 hx (hb hby d19_76) rfl ?_
      refine own_iload X0 hx (hb hby d19_78) rfl ?_
      refine own_icmpNo X0 hx (hb hby d19_80) (tlt (by decide : (((0 : Int32) + (1 : Int32)) + (1 : Int32)) < (((((0 : Int32) + (1 : Int32)) + (1 : Int32)) + (2 : Int32)) - (1 : Int32)))).2.1 ?_
      refine own_aloadN X0 hx (hb hby d19_83) rfl rfl ?_
      refine own_iload X0 hx (hb hby d19_84) rfl ?_
      refine own_baload X0 hx hZ e0 f0 ⟨by decide, by decide⟩ (v := (.int x2)) rfl (hb hby d19_86) ?_
      refine own_aloadN X0 hx (hb hby d19_87) rfl rfl ?_
      refine own_iload X0 hx (hb hby d19_88) rfl ?_
      show Goes _ _ _ _ _ _ (T0.setTop (mkF m 90 #[.val (.ref a1), .val (.int (4 : Int32)), .val (.ref a3), .val (.int (2 : Int32)), .val (.int (0 : Int32)), .val (.int (58 : Int32)), .val (.int ((4 : Int32) - (2 : Int32))), .val (.int ((0 : Int32) + (1 : Int32))), .val (.int (((0 : Int32) + (1 : Int32)) + (1 : Int32))), .val (.int (((((0 : Int32) + (1 : Int32)) + (1 : Int32)) + (2 : Int32)) - (1 : Int32))), .val (.int (1 : Int32))] [(.int (1 : Int32)), (.ref a3), (.int x2)]))
      refine own_baload X0 hx hZ e0 f1 ⟨by decide, by decide⟩ (v := (.int (58 : Int32))) rfl (hb hby d19_90) ?_
      by_cases hc91_6 : x2 = (58 : Int32)
      ·
        exact absurd ⟨hc46_5, hc91_6⟩ hpc1
      ·
        refine own_icmpYes X0 hx (pc' := 103) (hb hby d19_91) (feq (hc91_6 : ¬ (x2 = (58 : Int32)))).2 (by decide) (by decide) ?_
        refine own_iload X0 hx (hb hby d19_103) rfl ?_
        refine own_iload X0 hx (hb hby d19_105) rfl ?_
        refine own_icmpYes X0 hx (pc' := 113) (hb hby d19_107) (feq (by decide : ¬ ((((0 : Int32) + (1 : Int32)) + (1 : Int32)) = (((((0 : Int32) + (1 : Int32)) + (1 : Int32)) + (2 : Int32)) - (1 : Int32))))).2 (by decide) (by decide) ?_
        refine own_iinc X0 hx (Ls' := #[.val (.ref a1), .val (.int (4 : Int32)), .val (.ref a3), .val (.int (2 : Int32)), .val (.int (0 : Int32)), .val (.int (58 : Int32)), .val (.int ((4 : Int32) - (2 : Int32))), .val (.int (((0 : Int32) + (1 : Int32)) + (1 : Int32))), .val (.int (((0 : Int32) + (1 : Int32)) + (1 : Int32))), .val (.int (((((0 : Int32) + (1 : Int32)) + (1 : Int32)) + (2 : Int32)) - (1 : Int32))), .val (.int (1 : Int32))]) (hb hby d19_113) rfl rfl ?_
        refine own_goto X0 hx (pc' := 14) (hb hby d19_116) (by decide) (by decide) ?_
        refine own_iload X0 hx (hb hby d19_14) rfl ?_
        refine own_iload X0 hx (hb hby d19_16) rfl ?_
        refine own_icmpNo X0 hx (hb hby d19_18) (flt (by decide : ¬ (((4 : Int32) - (2 : Int32)) < (((0 : Int32) + (1 : Int32)) + (1 : Int32))))).2.2.1 ?_
        refine own_aloadN X0 hx (hb hby d19_21) rfl rfl ?_
        refine own_iload X0 hx (hb hby d19_22) rfl ?_
        refine own_baload X0 hx hZ e0 f0 ⟨by decide, by decide⟩ (v := (.int x2)) rfl (hb hby d19_24) ?_
        refine own_iload X0 hx (hb hby d19_25) rfl ?_
        refine own_icmpNo X0 hx (hb hby d19_27) (feq (hc91_6 : ¬ (x2 = (58 : Int32)))).1 ?_
        refine own_iinc X0 hx (Ls' := #[.val (.ref a1), .val (.int (4 : Int32)), .val (.ref a3), .val (.int (2 : Int32)), .val (.int (0 : Int32)), .val (.int (58 : Int32)), .val (.int ((4 : Int32) - (2 : Int32))), .val (.int ((((0 : Int32) + (1 : Int32)) + (1 : Int32)) + (1 : Int32))), .val (.int (((0 : Int32) + (1 : Int32)) + (1 : Int32))), .val (.int (((((0 : Int32) + (1 : Int32)) + (1 : Int32)) + (2 : Int32)) - (1 : Int32))), .val (.int (1 : Int32))]) (hb hby d19_30) rfl rfl ?_
        refine own_iload X0 hx (hb hby d19_33) rfl ?_
        refine own_iload X0 hx (hb hby d19_35) rfl ?_
        refine own_icmpYes X0 hx (pc' := 52) (hb hby d19_37) (tlt (by decide : ((4 : Int32) - (2 : Int32)) < ((((0 : Int32) + (1 : Int32)) + (1 : Int32)) + (1 : Int32)))).2.2.1 (by decide) (by decide) ?_
        refine own_iload X0 hx (hb hby d19_52) rfl ?_
        refine own_iload X0 hx (hb hby d19_54) rfl ?_
        refine own_icmpYes X0 hx (pc' := 113) (hb hby d19_56) (tlt (by decide : ((4 : Int32) - (2 : Int32)) < ((((0 : Int32) + (1 : Int32)) + (1 : Int32)) + (1 : Int32)))).2.2.1 (by decide) (by decide) ?_
        refine own_iinc X0 hx (Ls' := #[.val (.ref a1), .val (.int (4 : Int32)), .val (.ref a3), .val (.int (2 : Int32)), .val (.int (0 : Int32)), .val (.int (58 : Int32)), .val (.int ((4 : Int32) - (2 : Int32))), .val (.int (((((0 : Int32) + (1 : Int32)) + (1 : Int32)) + (1 : Int32)) + (1 : Int32))), .val (.int (((0 : Int32) + (1 : Int32)) + (1 : Int32))), .val (.int (((((0 : Int32) + (1 : Int32)) + (1 : Int32)) + (2 : Int32)) - (1 : Int32))), .val (.int (1 : Int32))]) (hb hby d19_113) rfl rfl ?_
        refine own_goto X0 hx (pc' := 14) (hb hby d19_116) (by decide) (by decide) ?_
        refine own_iload X0 hx (hb hby d19_14) rfl ?_
        refine own_iload X0 hx (hb hby d19_16) rfl ?_
        refine own_icmpYes X0 hx (pc' := 119) (hb hby d19_18) (tlt (by decide : ((4 : Int32) - (2 : Int32)) < (((((0 : Int32) + (1 : Int32)) + (1 : Int32)) + (1 : Int32)) + (1 : Int32)))).2.2.1 (by decide) (by decide) ?_
        refine own_iconst X0 hx (v := (-1 : Int32)) (hb hby d19_119) rfl ?_
        show Goes _ _ _ _ _ _ (T0.setTop (mkF m 120 #[.val (.ref a1), .val (.int (4 : Int32)), .val (.ref a3), .val (.int (2 : Int32)), .val (.int (0 : Int32)), .val (.int (58 : Int32)), .val (.int ((4 : Int32) - (2 : Int32))), .val (.int (((((0 : Int32) + (1 : Int32)) + (1 : Int32)) + (1 : Int32)) + (1 : Int32))), .val (.int (((0 : Int32) + (1 : Int32)) + (1 : Int32))), .val (.int (((((0 : Int32) + (1 : Int32)) + (1 : Int32)) + (2 : Int32)) - (1 : Int32))), .val (.int (1 : Int32))] [(.int (-1 : Int32))]))
        exact own_retI X0 hx N0 hlk (by decide) (by decide) hret (hb hby d19_120) (by rw [e0]; exact ⟨rfl, rfl⟩)
    ·
      refine own_icmpNo X0 hx (hb hby d19_46) (feq (hc46_5 : ¬ (x1 = (58 : Int32)))).1 ?_
      refine own_goto X0 hx (pc' := 30) (hb hby d19_49) (by decide) (by decide) ?_
      refine own_iinc X0 hx (Ls' := #[.val (.ref a1), .val (.int (4 : Int32)), .val (.ref a3), .val (.int (2 : Int32)), .val (.int (0 : Int32)), .val (.int (58 : Int32)), .val (.int ((4 : Int32) - (2 : Int32))), .val (.int (((0 : Int32) + (1 : Int32)) + (1 : Int32))), .unset, .unset, .unset]) (hb hby d19_30) rfl rfl ?_
      refine own_iload X0 hx (hb hby d19_33) rfl ?_
      refine own_iload X0 hx (hb hby d19_35) rfl ?_
      refine own_icmpNo X0 hx (hb hby d19_37) (flt (by decide : ¬ (((4 : Int32) - (2 : Int32)) < (((0 : Int32) + (1 : Int32)) + (1 : Int32))))).2.2.1 ?_
      refine own_aloadN X0 hx (hb hby d19_40) rfl rfl ?_
      refine own_iload X0 hx (hb hby d19_41) rfl ?_
      refine own_baload X0 hx hZ e0 f0 ⟨by decide, by decide⟩ (v := (.int x2)) rfl (hb hby d19_43) ?_
      refine own_iload X0 hx (hb hby d19_44) rfl ?_
      by_cases hc46_7 : x2 = (58 : Int32)
      ·
        refine own_icmpYes X0 hx (pc' := 52) (hb hby d19_46) (teq (hc46_7 : x2 = (58 : Int32))).1 (by decide) (by decide) ?_
        refine own_iload X0 hx (hb hby d19_52) rfl ?_
        refine own_iload X0 hx (hb hby d19_54) rfl ?_
        refine own_icmpNo X0 hx (hb hby d19_56) (flt (by decide : ¬ (((4 : Int32) - (2 : Int32)) < (((0 : Int32) + (1 : Int32)) + (1 : Int32))))).2.2.1 ?_
        refine own_iload X0 hx (hb hby d19_59) rfl ?_
        refine own_iconst X0 hx (v := (1 : Int32)) (hb hby d19_61) rfl ?_
        refine own_iadd X0 hx (hb hby d19_62) ?_
        refine own_istore X0 hx (Ls' := #[.val (.ref a1), .val (.int (4 : Int32)), .val (.ref a3), .val (.int (2 : Int32)), .val (.int (0 : Int32)), .val (.int (58 : Int32)), .val (.int ((4 : Int32) - (2 : Int32))), .val (.int (((0 : Int32) + (1 : Int32)) + (1 : Int32))), .val (.int ((((0 : Int32) + (1 : Int32)) + (1 : Int32)) + (1 : Int32))), .unset, .unset]) (hb hby d19_63) rfl ?_
        refine own_iload X0 hx (hb hby d19_65) rfl ?_
        show Goes _ _ _ _ _ _ (T0.setTop (mkF m 67 #[.val (.ref a1), .val (.int (4 : Int32)), .val (.ref a3), .val (.int (2 : Int32)), .val (.int (0 : Int32)), .val (.int (58 : Int32)), .val (.int ((4 : Int32) - (2 : Int32))), .val (.int (((0 : Int32) + (1 : Int32)) + (1 : Int32))), .val (.int ((((0 : Int32) + (1 : Int32)) + (1 : Int32)) + (1 : Int32))), .unset, .unset] [(.int ((((0 : Int32) + (1 : Int32)) + (1 : Int32)) + (1 : Int32)))]))
        refine own_iloadN X0 hx (hb hby d19_67) rfl ?_
        refine own_iadd X0 hx (hb hby d19_68) ?_
        refine own_iconst X0 hx (v := (1 : Int32)) (hb hby d19_69) rfl ?_
        refine own_isub X0 hx (hb hby d19_70) ?_
        refine own_istore X0 hx (Ls' := #[.val (.ref a1), .val (.int (4 : Int32)), .val (.ref a3), .val (.int (2 : Int32)), .val (.int (0 : Int32)), .val (.int (58 : Int32)), .val (.int ((4 : Int32) - (2 : Int32))), .val (.int (((0 : Int32) + (1 : Int32)) + (1 : Int32))), .val (.int ((((0 : Int32) + (1 : Int32)) + (1 : Int32)) + (1 : Int32))), .val (.int ((((((0 : Int32) + (1 : Int32)) + (1 : Int32)) + (1 : Int32)) + (2 : Int32)) - (1 : Int32))), .unset]) (hb hby d19_71) rfl ?_
        refine own_iconst X0 hx (v := (1 : Int32)) (hb hby d19_73) rfl ?_
        refine own_istore X0 hx (Ls' := #[.val (.ref a1), .val (.int (4 : Int32)), .val (.ref a3), .val (.int (2 : Int32)), .val (.int (0 : Int32)), .val (.int (58 : Int32)), .val (.int ((4 : Int32) - (2 : Int32))), .val (.int (((0 : Int32) + (1 : Int32)) + (1 : Int32))), .val (.int ((((0 : Int32) + (1 : Int32)) + (1 : Int32)) + (1 : Int32))), .val (.int ((((((0 : Int32) + (1 : Int32)) + (1 : Int32)) + (1 : Int32)) + (2 : Int32)) - (1 : Int32))), .val (.int (1 : Int32))]) (hb hby d19_74) rfl ?_
        refine own_iload X0 hx (hb hby d19_76) rfl ?_
        refine own_iload X0 hx (hb hby d19_78) rfl ?_
        refine own_icmpNo X0 hx (hb hby d19_80) (tlt (by decide : ((((0 : Int32) + (1 : Int32)) + (1 : Int32)) + (1 : Int32)) < ((((((0 : Int32) + (1 : Int32)) + (1 : Int32)) + (1 : Int32)) + (2 : Int32)) - (1 : Int32)))).2.1 ?_
        refine own_aloadN X0 hx (hb hby d19_83) rfl rfl ?_
        refine own_iload X0 hx (hb hby d19_84) rfl ?_
        refine own_baload X0 hx hZ e0 f0 ⟨by decide, by decide⟩ (v := (.int x3)) rfl (hb hby d19_86) ?_
        refine own_aloadN X0 hx (hb hby d19_87) rfl rfl ?_
        refine own_iload X0 hx (hb hby d19_88) rfl ?_
        show Goes _ _ _ _ _ _ (T0.setTop (mkF m 90 #[.val (.ref a1), .val (.int (4 : Int32)), .val (.ref a3), .val (.int (2 : Int32)), .val (.int (0 : Int32)), .val (.int (58 : Int32)), .val (.int ((4 : Int32) - (2 : Int32))), .val (.int (((0 : Int32) + (1 : Int32)) + (1 : Int32))), .val (.int ((((0 : Int32) + (1 : Int32)) + (1 : Int32)) + (1 : Int32))), .val (.int ((((((0 : Int32) + (1 : Int32)) + (1 : Int32)) + (1 : Int32)) + (2 : Int32)) - (1 : Int32))), .val (.int (1 : Int32))] [(.int (1 : Int32)), (.ref a3), (.int x3)]))
        refine own_baload X0 hx hZ e0 f1 ⟨by decide, by decide⟩ (v := (.int (58 : Int32))) rfl (hb hby d19_90) ?_
        by_cases hc91_8 : x3 = (58 : Int32)
        ·
          exact absurd ⟨hc46_7, hc91_8⟩ hpc2
        ·
          refine own_icmpYes X0 hx (pc' := 103) (hb hby d19_91) (feq (hc91_8 : ¬ (x3 = (58 : Int32)))).2 (by decide) (by decide) ?_
          refine own_iload X0 hx (hb hby d19_103) rfl ?_
          refine own_iload X0 hx (hb hby d19_105) rfl ?_
          refine own_icmpYes X0 hx (pc' := 113) (hb hby d19_107) (feq (by decide : ¬ (((((0 : Int32) + (1 : Int32)) + (1 : Int32)) + (1 : Int32)) = ((((((0 : Int32) + (1 : Int32)) + (1 : Int32)) + (1 : Int32)) + (2 : Int32)) - (1 : Int32))))).2 (by decide) (by decide) ?_
          refine own_iinc X0 hx (Ls' := #[.val (.ref a1), .val (.int (4 : Int32)), .val (.ref a3), .val (.int (2 : Int32)), .val (.int (0 : Int32)), .val (.int (58 : Int32)), .val (.int ((4 : Int32) - (2 : Int32))), .val (.int ((((0 : Int32) + (1 : Int32)) + (1 : Int32)) + (1 : Int32))), .val (.int ((((0 : Int32) + (1 : Int32)) + (1 : Int32)) + (1 : Int32))), .val (.int ((((((0 : Int32) + (1 : Int32)) + (1 : Int32)) + (1 : Int32)) + (2 : Int32)) - (1 : Int32))), .val (.int (1 : Int32))]) (hb hby d19_113) rfl rfl ?_
          refine own_goto X0 hx (pc' := 14) (hb hby d19_116) (by decide) (by decide) ?_
          refine own_iload X0 hx (hb hby d19_14) rfl ?_
          refine own_iload X0 hx (hb hby d19_16) rfl ?_
          refine own_icmpYes X0 hx (pc' := 119) (hb hby d19_18) (tlt (by decide : ((4 : Int32) - (2 : Int32)) < ((((0 : Int32) + (1 : Int32)) + (1 : Int32)) + (1 : Int32)))).2.2.1 (by decide) (by decide) ?_
          refine own_iconst X0 hx (v := (-1 : Int32)) (hb hby d19_119) rfl ?_
          show Goes _ _ _ _ _ _ (T0.setTop (mkF m 120 #[.val (.ref a1), .val (.int (4 : Int32)), .val (.ref a3), .val (.int (2 : Int32)), .val (.int (0 : Int32)), .val (.int (58 : Int32)), .val (.int ((4 : Int32) - (2 : Int32))), .val (.int ((((0 : Int32) + (1 : Int32)) + (1 : Int32)) + (1 : Int32))), .val (.int ((((0 : Int32) + (1 : Int32)) + (1 : Int32)) + (1 : Int32))), .val (.int ((((((0 : Int32) + (1 : Int32)) + (1 : Int32)) + (1 : Int32)) + (2 : Int32)) - (1 : Int32))), .val (.int (1 : Int32))] [(.int (-1 : Int32))]))
          exact own_retI X0 hx N0 hlk (by decide) (by decide) hret (hb hby d19_120) (by rw [e0]; exact ⟨rfl, rfl⟩)
      ·
        refine own_icmpNo X0 hx (hb hby d19_46) (feq (hc46_7 : ¬ (x2 = (58 : Int32)))).1 ?_
        refine own_goto X0 hx (pc' := 30) (hb hby d19_49) (by decide) (by decide) ?_
        refine own_iinc X0 hx (Ls' := #[.val (.ref a1), .val (.int (4 : Int32)), .val (.ref a3), .val (.int (2 : Int32)), .val (.int (0 : Int32)), .val (.int (58 : Int32)), .val (.int ((4 : Int32) - (2 : Int32))), .val (.int ((((0 : Int32) + (1 : Int32)) + (1 : Int32)) + (1 : Int32))), .unset, .unset, .unset]) (hb hby d19_30) rfl rfl ?_
        refine own_iload X0 hx (hb hby d19_33) rfl ?_
        refine own_iload X0 hx (hb hby d19_35) rfl ?_
        refine own_icmpYes X0 hx (pc' := 52) (hb hby d19_37) (tlt (by decide : ((4 : Int32) - (2 : Int32)) < ((((0 : Int32) + (1 : Int32)) + (1 : Int32)) + (1 : Int32)))).2.2.1 (by decide) (by decide) ?_
        refine own_iload X0 hx (hb hby d19_52) rfl ?_
        refine own_iload X0 hx (hb hby d19_54) rfl ?_
        refine own_icmpYes X0 hx (pc' := 113) (hb hby d19_56) (tlt (by decide : ((4 : Int32) - (2 : Int32)) < ((((0 : Int32) + (1 : Int32)) + (1 : Int32)) + (1 : Int32)))).2.2.1 (by decide) (by decide) ?_
        refine own_iinc X0 hx (Ls' := #[.val (.ref a1), .val (.int (4 : Int32)), .val (.ref a3), .val (.int (2 : Int32)), .val (.int (0 : Int32)), .val (.int (58 : Int32)), .val (.int ((4 : Int32) - (2 : Int32))), .val (.int (((((0 : Int32) + (1 : Int32)) + (1 : Int32)) + (1 : Int32)) + (1 : Int32))), .unset, .unset, .unset]) (hb hby d19_113) rfl rfl ?_
        refine own_goto X0 hx (pc' := 14) (hb hby d19_116) (by decide) (by decide) ?_
        refine own_iload X0 hx (hb hby d19_14) rfl ?_
        refine own_iload X0 hx (hb hby d19_16) rfl ?_
        refine own_icmpYes X0 hx (pc' := 119) (hb hby d19_18) (tlt (by decide : ((4 : Int32) - (2 : Int32)) < (((((0 : Int32) + (1 : Int32)) + (1 : Int32)) + (1 : Int32)) + (1 : Int32)))).2.2.1 (by decide) (by decide) ?_
        refine own_iconst X0 hx (v := (-1 : Int32)) (hb hby d19_119) rfl ?_
        show Goes _ _ _ _ _ _ (T0.setTop (mkF m 120 #[.val (.ref a1), .val (.int (4 : Int32)), .val (.ref a3), .val (.int (2 : Int32)), .val (.int (0 : Int32)), .val (.int (58 : Int32)), .val (.int ((4 : Int32) - (2 : Int32))), .val (.int (((((0 : Int32) + (1 : Int32)) + (1 : Int32)) + (1 : Int32)) + (1 : Int32))), .unset, .unset, .unset] [(.int (-1 : Int32))]))
        exact own_retI X0 hx N0 hlk (by decide) (by decide) hret (hb hby d19_120) (by rw [e0]; exact ⟨rfl, rfl⟩)
def Q184c (Z : State) (a1 : Addr) (a2 : Addr) (k : ClassId) (k2 : ClassId) (x0 : Int32) (x1 : Int32) (x2 : Int32) (x3 : Int32) (h0 : Heap) (n0 : Nat) (v : Option Value) (h : Heap) : Prop :=
  (v = some (.int (-1 : Int32)) ∧ h = h0)
theorem ef_184c (m : MethodId) (a1 : Addr) (a2 : Addr) : entryFrame m #[(.ref a1), (.ref a2)] 2 = mkF m 0 #[.val (.ref a1), .val (.ref a2)] [] := by first | (simp [entryFrame, mkF, argsToLocals, Value.category]; done) | rfl
set_option maxRecDepth 65536 in
set_option maxHeartbeats 40000000 in
theorem rm184c (l : Launch) (Z : State) (a0 : Array Value) (hw : ∀ d ∈ tables_1, d.before a0 Z = true) (ws : List Jvm.Cond) (a1 : Addr) (a2 : Addr) (k : ClassId) (k2 : ClassId) (x0 : Int32) (x1 : Int32) (x2 : Int32) (x3 : Int32) (h0 : Heap) (n0 : Nat) (O0 : Old Z n0 h0) (f0 : Arv Z h0 a1 k .byte (4 : Int32) [(.int x0), (.int x1), (.int x2), (.int x3)] (.int (0 : Int32))) (f1 : Arv Z h0 a2 k2 .byte (2 : Int32) [(.int (58 : Int32)), (.int (58 : Int32))] (.int (0 : Int32))) (hpc0 : ¬ (x0 = (58 : Int32) ∧ x1 = (58 : Int32))) (hpc1 : ¬ (x1 = (58 : Int32) ∧ x2 = (58 : Int32))) (hpc2 : ¬ (x2 = (58 : Int32) ∧ x3 = (58 : Int32))) :
    Meets l (⟨"java/lang/StringLatin1", "indexOf", "([B[B)I"⟩ : MethodName) jdk_43_method_24_code 2 (some .int) ws ({ frames := 1, cells := 0, slots := 0, locals := 22 } : Room) ({ frames := 1, cells := 0, slots := 0, locals := 22 } : Room).cells ({ frames := 1, cells := 0, slots := 0, locals := 22 } : Room).slots Z #[(.ref a1), (.ref a2)] h0 n0 (Q184c Z a1 a2 k k2 x0 x1 x2 x3 h0 n0) := by
  refine Meets.of (F := fun m => mkF m 0 #[.val (.ref a1), .val (.ref a2)] []) (plainFor_of_name pn_2) (fun m => ef_184c m a1 a2) ?_
  intro p e s m below meth c T0 hx hby hml hown0 hnm hret hlk hZ X0 e0
  have hown : s.vm.findClass "java/lang/StringLatin1" = some m.cls := hown0
  have N0 := Fr.nil n0
  show Goes _ _ _ _ _ _ (T0.setTop (mkF m 0 #[.val (.ref a1), .val (.ref a2)] []))
  refine own_aloadN X0 hx (hb hby d18_0) rfl rfl ?_
  refine own_alen X0 hx hZ e0 f1 (hb hby d18_1) ?_
  refine own_ifYes X0 hx (pc' := 7) (hb hby d18_2) ((if0 _ _).trans (feq (by decide : ¬ ((2 : Int32) = (0 : Int32)))).2) (by decide) (by decide) ?_
  refine own_aloadN X0 hx (hb hby d18_7) rfl rfl ?_
  refine own_alen X0 hx hZ e0 f0 (hb hby d18_8) ?_
  refine own_ifYes X0 hx (pc' := 14) (hb hby d18_9) ((if0 _ _).trans (feq (by decide : ¬ ((4 : Int32) = (0 : Int32)))).2) (by decide) (by decide) ?_
  refine own_aloadN X0 hx (hb hby d18_14) rfl rfl ?_
  refine own_aloadN X0 hx (hb hby d18_15) rfl rfl ?_
  refine own_alen X0 hx hZ e0 f0 (hb hby d18_16) ?_
  refine own_aloadN X0 hx (hb hby d18_17) rfl rfl ?_
  refine own_aloadN X0 hx (hb hby d18_18) rfl rfl ?_
  show Goes _ _ _ _ _ _ (T0.setTop (mkF m 19 #[.val (.ref a1), .val (.ref a2)] [(.ref a2), (.ref a2), (.int (4 : Int32)), (.ref a1)]))
  refine own_alen X0 hx hZ e0 f1 (hb hby d18_19) ?_
  refine own_iconst X0 hx (v := (0 : Int32)) (hb hby d18_20) rfl ?_
  refine own_callS X0 hx hZ hown (y := (⟨"java/lang/StringLatin1", "indexOf", "([BI[BII)I"⟩ : MethodName)) (hw _ (List.mem_of_getElem? (i := 92) rfl)) (hw _ (List.mem_of_getElem? (i := 93) rfl)) (hw _ (List.mem_of_getElem? (i := 90) rfl)) (hw _ (List.mem_of_getElem? (i := 94) rfl)) (by decide) (W := 0) (by decide) (by decide) N0 e0 (by rw [hml]; rfl) (argsL := [(.ref a1), (.int (4 : Int32)), (.ref a2), (.int (2 : Int32)), (.int (0 : Int32))]) (rest := []) (lenOf pd_1 rfl) (Nat.le_of_eq rfl) (by decide) (by decide) (rm194c l Z a0 hw [] a1 a2 k k2 x0 x1 x2 x3 h0 n0 O0 f0 f1 hpc0 hpc1 hpc2) rfl (hb hby d18_21) ?_
  intro v1 T1 lc1 X1 N1 hQ1
  obtain ⟨rfl, e1⟩ := hQ1
  show Goes _ _ _ _ _ _ (T1.setTop (mkF m 24 #[.val (.ref a1), .val (.ref a2)] [(.int (-1 : Int32))]))
  exact own_retI X1 hx N1 hlk (by decide) (by decide) hret (hb hby d18_24) (by rw [e1]; exact ⟨rfl, rfl⟩)
def Q154c (Z : State) (a1 : Addr) (a2 : Addr) (t : Addr) (k : ClassId) (x0 : Int32) (x1 : Int32) (x2 : Int32) (x3 : Int32) (t2 : Addr) (k2 : ClassId) (zc : Int32) (h0 : Heap) (n0 : Nat) (v : Option Value) (h : Heap) : Prop :=
  (v = some (.int (-1 : Int32)) ∧ h = h0)
theorem ef_154c (m : MethodId) (a1 : Addr) (a2 : Addr) : entryFrame m #[(.ref a1), (.ref a2)] 3 = mkF m 0 #[.val (.ref a1), .val (.ref a2), .unset] [] := by first | (simp [entryFrame, mkF, argsToLocals, Value.category]; done) | rfl
set_option maxRecDepth 65536 in
set_option maxHeartbeats 40000000 in
theorem rm154c (l : Launch) (Z : State) (a0 : Array Value) (hw : ∀ d ∈ tables_1, d.before a0 Z = true) (ws : List Jvm.Cond) (a1 : Addr) (a2 : Addr) (t : Addr) (k : ClassId) (x0 : Int32) (x1 : Int32) (x2 : Int32) (x3 : Int32) (t2 : Addr) (k2 : ClassId) (zc : Int32) (h0 : Heap) (n0 : Nat) (O0 : Old Z n0 h0) (SF : Start Z zc) (f0 : Exa Z h0 a1 "java/lang/String") (f1 : Fld Z h0 a1 "java/lang/String" "value" "[B" (.ref t)) (f2 : Fld Z h0 a1 "java/lang/String" "coder" "B" (.int (0 : Int32))) (f3 : Arv Z h0 t k .byte (4 : Int32) [(.int x0), (.int x1), (.int x2), (.int x3)] (.int (0 : Int32))) (f4 : Exa Z h0 a2 "java/lang/String") (f5 : Fld Z h0 a2 "java/lang/String" "value" "[B" (.ref t2)) (f6 : Fld Z h0 a2 "java/lang/String" "coder" "B" (.int (0 : Int32))) (f7 : Arv Z h0 t2 k2 .byte (2 : Int32) [(.int (58 : Int32)), (.int (58 : Int32))] (.int (0 : Int32))) (hpc0 : ¬ (x0 = (58 : Int32) ∧ x1 = (58 : Int32))) (hpc1 : ¬ (x1 = (58 : Int32) ∧ x2 = (58 : Int32))) (hpc2 : ¬ (x2 = (58 : Int32) ∧ x3 = (58 : Int32))) :
    Meets l (⟨"java/lang/String", "indexOf", "(Ljava/lang/String;)I"⟩ : MethodName) jdk_42_method_84_code 3 (some .int) ws ({ frames := 2, cells := 0, slots := 0, locals := 35 } : Room) ({ frames := 2, cells := 0, slots := 0, locals := 35 } : Room).cells ({ frames := 2, cells := 0, slots := 0, locals := 35 } : Room).slots Z #[(.ref a1), (.ref a2)] h0 n0 (Q154c Z a1 a2 t k x0 x1 x2 x3 t2 k2 zc h0 n0) := by
  refine Meets.of (F := fun m => mkF m 0 #[.val (.ref a1), .val (.ref a2), .unset] []) (plainFor_of_name pn_0) (fun m => ef_154c m a1 a2) ?_
  intro p e s m below meth c T0 hx hby hml hown0 hnm hret hlk hZ X0 e0
  have hown : s.vm.findClass "java/lang/String" = some m.cls := hown0
  have N0 := Fr.nil n0
  obtain ⟨z0, hzc, -⟩ := SF
  show Goes _ _ _ _ _ _ (T0.setTop (mkF m 0 #[.val (.ref a1), .val (.ref a2), .unset] []))
  refine own_aloadN X0 hx (hb hby d15_0) rfl rfl ?_
  refine own_virtual X0 hx hZ hown (y := (⟨"java/lang/String", "coder", "()B"⟩ : MethodName)) (z := (⟨"java/lang/String", "coder", "()B"⟩ : MethodName)) (hw _ (List.mem_of_getElem? (i := 78) rfl)) (hw _ (List.mem_of_getElem? (i := 79) rfl)) (notFace_of_selects (args := #[]) (mvT hZ (hw _ (List.mem_of_getElem? (i := 81) rfl)))) (hw _ (List.mem_of_getElem? (i := 81) rfl)) (hw _ (List.mem_of_getElem? (i := 80) rfl)) (hw _ (List.mem_of_getElem? (i := 8) rfl)) (hw _ (List.mem_of_getElem? (i := 82) rfl)) (a := a1) f0 (by decide) (W := 0) (by decide) (by decide) N0 e0 (by rw [hml]; rfl) (argsL := []) (rest := []) (lenOf pd_0 rfl) (Nat.le_of_eq rfl) (by decide) (by decide) (rm16 l Z a0 hw [] a1 zc h0 n0 O0 ⟨z0, hzc, trivial⟩ f2) rfl (hb hby d15_1) ?_
  intro v1 T1 lc1 X1 N1 hQ1
  obtain ⟨rfl, e1⟩ := hQ1
  refine own_istoreN X1 hx (Ls' := #[.val (.ref a1), .val (.ref a2), .val (.int (0 : Int32))]) (hb hby d15_4) rfl ?_
  refine own_iloadN X1 hx (hb hby d15_5) rfl ?_
  refine own_aloadN X1 hx (hb hby d15_6) rfl rfl ?_
  refine own_virtual X1 hx hZ hown (y := (⟨"java/lang/String", "coder", "()B"⟩ : MethodName)) (z := (⟨"java/lang/String", "coder", "()B"⟩ : MethodName)) (hw _ (List.mem_of_getElem? (i := 78) rfl)) (hw _ (List.mem_of_getElem? (i := 79) rfl)) (notFace_of_selects (args := #[]) (mvT hZ (hw _ (List.mem_of_getElem? (i := 81) rfl)))) (hw _ (List.mem_of_getElem? (i := 81) rfl)) (hw _ (List.mem_of_getElem? (i := 80) rfl)) (hw _ (List.mem_of_getElem? (i := 8) rfl)) (hw _ (List.mem_of_getElem? (i := 82) rfl)) (a := a2) f4 (by decide) (W := 1) (by decide) (by decide) N1 e1 (by rw [hml]; rfl) (argsL := []) (rest := [(.int (0 : Int32))]) (lenOf pd_0 rfl) (Nat.le_of_eq rfl) (by decide) (by decide) (rm16 l Z a0 hw [] a2 zc h0 n0 O0 ⟨z0, hzc, trivial⟩ f6) rfl (hb hby d15_7) ?_
  intro v2 T2 lc2 X2 N2 hQ2
  obtain ⟨rfl, e2⟩ := hQ2
  refine own_icmpNo X2 hx (hb hby d15_10) (teq (by decide : (0 : Int32) = (0 : Int32))).2 ?_
  refine own_aloadN X2 hx (hb hby d15_13) rfl rfl ?_
  refine own_virtual X2 hx hZ hown (y := (⟨"java/lang/String", "isLatin1", "()Z"⟩ : MethodName)) (z := (⟨"java/lang/String", "isLatin1", "()Z"⟩ : MethodName)) (hw _ (List.mem_of_getElem? (i := 83) rfl)) (hw _ (List.mem_of_getElem? (i := 84) rfl)) (notFace_of_selects (args := #[]) (mvT hZ (hw _ (List.mem_of_getElem? (i := 86) rfl)))) (hw _ (List.mem_of_getElem? (i := 86) rfl)) (hw _ (List.mem_of_getElem? (i := 85) rfl)) (hw _ (List.mem_of_getElem? (i := 8) rfl)) (hw _ (List.mem_of_getElem? (i := 87) rfl)) (a := a1) f0 (by decide) (W := 0) (by decide) (by decide) N2 e2 (by rw [hml]; rfl) (argsL := []) (rest := []) (lenOf pd_2 rfl) (Nat.le_of_eq rfl) (by decide) (by decide) (rm17 l Z a0 hw [] a1 zc h0 n0 O0 ⟨z0, hzc, trivial⟩ f2) rfl (hb hby d15_14) ?_
  intro v3 T3 lc3 X3 N3 hQ3
  obtain ⟨rfl, e3⟩ := hQ3
  refine own_ifNo X3 hx (hb hby d15_17) ((if0 _ _).trans (feq (by decide : ¬ ((1 : Int32) = (0 : Int32)))).1) ?_
  refine own_aloadN X3 hx (hb hby d15_20) rfl rfl ?_
  refine own_getF X3 hx hZ hown (host := "") (Or.inl (hw _ (List.mem_of_getElem? (i := 25) rfl))) Via.refl e3 f1 (hb hby d15_21) (fun T4 X4 e4 => ?_)
  refine own_aloadN X4 hx (hb hby d15_24) rfl rfl ?_
  refine own_getF X4 hx hZ hown (host := "") (Or.inl (hw _ (List.mem_of_getElem? (i := 25) rfl))) Via.refl e4 f5 (hb hby d15_25) (fun T5 X5 e5 => ?_)
  refine own_callS X5 hx hZ hown (y := (⟨"java/lang/StringLatin1", "indexOf", "([B[B)I"⟩ : MethodName)) (hw _ (List.mem_of_getElem? (i := 88) rfl)) (hw _ (List.mem_of_getElem? (i := 89) rfl)) (hw _ (List.mem_of_getElem? (i := 90) rfl)) (hw _ (List.mem_of_getElem? (i := 91) rfl)) (by decide) (W := 0) (by decide) (by decide) N3 e5 (by rw [hml]; rfl) (argsL := [(.ref t), (.ref t2)]) (rest := []) (lenOf pd_3 rfl) (Nat.le_of_eq rfl) (by decide) (by decide) (rm184c l Z a0 hw [] t t2 k k2 x0 x1 x2 x3 h0 n0 O0 f3 f7 hpc0 hpc1 hpc2) rfl (hb hby d15_28) ?_
  intro v6 T6 lc6 X6 N6 hQ6
  obtain ⟨rfl, e6⟩ := hQ6
  refine own_goto X6 hx (pc' := 45) (hb hby d15_31) (by decide) (by decide) ?_
  show Goes _ _ _ _ _ _ (T6.setTop (mkF m 45 #[.val (.ref a1), .val (.ref a2), .val (.int (0 : Int32))] [(.int (-1 : Int32))]))
  exact own_retI X6 hx N6 hlk (by decide) (by decide) hret (hb hby d15_45) (by rw [e6]; exact ⟨rfl, rfl⟩)
def Q134c (Z : State) (a1 : Addr) (a2 : Addr) (t : Addr) (k : ClassId) (x0 : Int32) (x1 : Int32) (x2 : Int32) (x3 : Int32) (t2 : Addr) (k2 : ClassId) (zc : Int32) (h0 : Heap) (n0 : Nat) (v : Option Value) (h : Heap) : Prop :=
  (v = some (.int (0 : Int32)) ∧ h = h0)
theorem ef_134c (m : MethodId) (a1 : Addr) (a2 : Addr) : entryFrame m #[(.ref a1), (.ref a2)] 2 = mkF m 0 #[.val (.ref a1), .val (.ref a2)] [] := by first | (simp [entryFrame, mkF, argsToLocals, Value.category]; done) | rfl
set_option maxRecDepth 65536 in
set_option maxHeartbeats 40000000 in
theorem rm134c (l : Launch) (Z : State) (a0 : Array Value) (hw : ∀ d ∈ tables_1, d.before a0 Z = true) (ws : List Jvm.Cond) (a1 : Addr) (a2 : Addr) (t : Addr) (k : ClassId) (x0 : Int32) (x1 : Int32) (x2 : Int32) (x3 : Int32) (t2 : Addr) (k2 : ClassId) (zc : Int32) (h0 : Heap) (n0 : Nat) (O0 : Old Z n0 h0) (SF : Start Z zc) (f0 : Exa Z h0 a1 "java/lang/String") (f1 : Fld Z h0 a1 "java/lang/String" "value" "[B" (.ref t)) (f2 : Fld Z h0 a1 "java/lang/String" "coder" "B" (.int (0 : Int32))) (f3 : Arv Z h0 t k .byte (4 : Int32) [(.int x0), (.int x1), (.int x2), (.int x3)] (.int (0 : Int32))) (f4 : Exa Z h0 a2 "java/lang/String") (f5 : Fld Z h0 a2 "java/lang/String" "value" "[B" (.ref t2)) (f6 : Fld Z h0 a2 "java/lang/String" "coder" "B" (.int (0 : Int32))) (f7 : Arv Z h0 t2 k2 .byte (2 : Int32) [(.int (58 : Int32)), (.int (58 : Int32))] (.int (0 : Int32))) (hpc0 : ¬ (x0 = (58 : Int32) ∧ x1 = (58 : Int32))) (hpc1 : ¬ (x1 = (58 : Int32) ∧ x2 = (58 : Int32))) (hpc2 : ¬ (x2 = (58 : Int32) ∧ x3 = (58 : Int32))) :
    Meets l (⟨"java/lang/String", "contains", "(Ljava/lang/CharSequence;)Z"⟩ : MethodName) jdk_42_method_97_code 2 (some .boolean) ws ({ frames := 3, cells := 0, slots := 0, locals := 49 } : Room) ({ frames := 3, cells := 0, slots := 0, locals := 49 } : Room).cells ({ frames := 3, cells := 0, slots := 0, locals := 49 } : Room).slots Z #[(.ref a1), (.ref a2)] h0 n0 (Q134c Z a1 a2 t k x0 x1 x2 x3 t2 k2 zc h0 n0) := by
  refine Meets.of (F := fun m => mkF m 0 #[.val (.ref a1), .val (.ref a2)] []) (plainFor_of_name pn_0) (fun m => ef_134c m a1 a2) ?_
  intro p e s m below meth c T0 hx hby hml hown0 hnm hret hlk hZ X0 e0
  have hown : s.vm.findClass "java/lang/String" = some m.cls := hown0
  have N0 := Fr.nil n0
  obtain ⟨z0, hzc, -⟩ := SF
  show Goes _ _ _ _ _ _ (T0.setTop (mkF m 0 #[.val (.ref a1), .val (.ref a2)] []))
  refine own_aloadN X0 hx (hb hby d13_0) rfl rfl ?_
  refine own_aloadN X0 hx (hb hby d13_1) rfl rfl ?_
  refine own_iface X0 hx hZ hown (y := (⟨"java/lang/CharSequence", "toString", "()Ljava/lang/String;"⟩ : MethodName)) (z := (⟨"java/lang/String", "toString", "()Ljava/lang/String;"⟩ : MethodName)) (hw _ (List.mem_of_getElem? (i := 64) rfl)) (hw _ (List.mem_of_getElem? (i := 65) rfl)) (hw _ (List.mem_of_getElem? (i := 66) rfl)) (hw _ (List.mem_of_getElem? (i := 67) rfl)) (hw _ (List.mem_of_getElem? (i := 68) rfl)) (hw _ (List.mem_of_getElem? (i := 69) rfl)) (hw _ (List.mem_of_getElem? (i := 70) rfl)) (hw _ (List.mem_of_getElem? (i := 71) rfl)) (hw _ (List.mem_of_getElem? (i := 8) rfl)) (hw _ (List.mem_of_getElem? (i := 72) rfl)) (a := a2) f4 (by decide) (W := 1) (by decide) (by decide) N0 e0 (by rw [hml]; rfl) (argsL := []) (rest := [(.ref a1)]) (lenOf pd_4 rfl) (Nat.le_of_eq rfl) (by decide) (by decide) (rm14 l Z a0 hw [] a2 h0 n0 O0) rfl (hb hby d13_2) ?_
  intro v1 T1 lc1 X1 N1 hQ1
  obtain ⟨rfl, e1⟩ := hQ1
  refine own_virtual X1 hx hZ hown (y := (⟨"java/lang/String", "indexOf", "(Ljava/lang/String;)I"⟩ : MethodName)) (z := (⟨"java/lang/String", "indexOf", "(Ljava/lang/String;)I"⟩ : MethodName)) (hw _ (List.mem_of_getElem? (i := 73) rfl)) (hw _ (List.mem_of_getElem? (i := 74) rfl)) (notFace_of_selects (args := #[]) (mvT hZ (hw _ (List.mem_of_getElem? (i := 76) rfl)))) (hw _ (List.mem_of_getElem? (i := 76) rfl)) (hw _ (List.mem_of_getElem? (i := 75) rfl)) (hw _ (List.mem_of_getElem? (i := 8) rfl)) (hw _ (List.mem_of_getElem? (i := 77) rfl)) (a := a1) f0 (by decide) (W := 0) (by decide) (by decide) N1 e1 (by rw [hml]; rfl) (argsL := [(.ref a2)]) (rest := []) (lenOf pd_5 rfl) (Nat.le_of_eq rfl) (by decide) (by decide) (rm154c l Z a0 hw [] a1 a2 t k x0 x1 x2 x3 t2 k2 zc h0 n0 O0 ⟨z0, hzc, trivial⟩ f0 f1 f2 f3 f4 f5 f6 f7 hpc0 hpc1 hpc2) rfl (hb hby d13_7) ?_
  intro v2 T2 lc2 X2 N2 hQ2
  obtain ⟨rfl, e2⟩ := hQ2
  refine own_ifYes X2 hx (pc' := 17) (hb hby d13_10) ((if0 _ _).trans (tlt (by decide : (-1 : Int32) < (0 : Int32))).1) (by decide) (by decide) ?_
  refine own_iconst X2 hx (v := (0 : Int32)) (hb hby d13_17) rfl ?_
  show Goes _ _ _ _ _ _ (T2.setTop (mkF m 18 #[.val (.ref a1), .val (.ref a2)] [(.int (0 : Int32))]))
  exact own_retN X2 hx (t := .boolean) N2 hlk (by decide) (by decide) hret (by simp) (hb hby d13_18) (by rw [e2]; exact ⟨rfl, rfl⟩)
def Q234 (Z : State) (a1 : Addr) (a3 : Addr) (k : ClassId) (k2 : ClassId) (x0 : Int32) (x1 : Int32) (x2 : Int32) (x3 : Int32) (h0 : Heap) (n0 : Nat) (v : Option Value) (h : Heap) : Prop :=
  (v = some (.int (0 : Int32)) ∧ h = h0)
theorem ef_234 (m : MethodId) (a1 : Addr) (a3 : Addr) : entryFrame m #[(.ref a1), (.int ((4 : Int32) - (1 : Int32))), (.ref a3), (.int (0 : Int32)), (.int (1 : Int32))] 8 = mkF m 0 #[.val (.ref a1), .val (.int ((4 : Int32) - (1 : Int32))), .val (.ref a3), .val (.int (0 : Int32)), .val (.int (1 : Int32)), .unset, .unset, .unset] [] := by first | (simp [entryFrame, mkF, argsToLocals, Value.category]; done) | rfl
set_option maxRecDepth 65536 in
set_option maxHeartbeats 40000000 in
theorem rm234 (l : Launch) (Z : State) (a0 : Array Value) (hw : ∀ d ∈ tables_1, d.before a0 Z = true) (ws : List Jvm.Cond) (a1 : Addr) (a3 : Addr) (k : ClassId) (k2 : ClassId) (x0 : Int32) (x1 : Int32) (x2 : Int32) (x3 : Int32) (h0 : Heap) (n0 : Nat) (O0 : Old Z n0 h0) (f0 : Arv Z h0 a1 k .byte (4 : Int32) [(.int x0), (.int x1), (.int x2), (.int x3)] (.int (0 : Int32))) (f1 : Arv Z h0 a3 k2 .byte (1 : Int32) [(.int (58 : Int32))] (.int (0 : Int32))) (hpe : ¬ (x3 = (58 : Int32))) :
    Meets l (⟨"jdk/internal/util/ArraysSupport", "mismatch", "([BI[BII)I"⟩ : MethodName) jdk_48_method_14_code 8 (some .int) ws ({ frames := 0, cells := 0, slots := 0, locals := 0 } : Room) ({ frames := 0, cells := 0, slots := 0, locals := 0 } : Room).cells ({ frames := 0, cells := 0, slots := 0, locals := 0 } : Room).slots Z #[(.ref a1), (.int ((4 : Int32) - (1 : Int32))), (.ref a3), (.int (0 : Int32)), (.int (1 : Int32))] h0 n0 (Q234 Z a1 a3 k k2 x0 x1 x2 x3 h0 n0) := by
  refine Meets.of (F := fun m => mkF m 0 #[.val (.ref a1), .val (.int ((4 : Int32) - (1 : Int32))), .val (.ref a3), .val (.int (0 : Int32)), .val (.int (1 : Int32)), .unset, .unset, .unset] []) (plainFor_of_name pn_3) (fun m => ef_234 m a1 a3) ?_
  intro p e s m below meth c T0 hx hby hml hown0 hnm hret hlk hZ X0 e0
  have hown : s.vm.findClass "jdk/internal/util/ArraysSupport" = some m.cls := hown0
  have N0 := Fr.nil n0
  show Goes _ _ _ _ _ _ (T0.setTop (mkF m 0 #[.val (.ref a1), .val (.int ((4 : Int32) - (1 : Int32))), .val (.ref a3), .val (.int (0 : Int32)), .val (.int (1 : Int32)), .unset, .unset, .unset] []))
  refine own_iconst X0 hx (v := (0 : Int32)) (hb hby d23_0) rfl ?_
  refine own_istore X0 hx (Ls' := #[.val (.ref a1), .val (.int ((4 : Int32) - (1 : Int32))), .val (.ref a3), .val (.int (0 : Int32)), .val (.int (1 : Int32)), .val (.int (0 : Int32)), .unset, .unset]) (hb hby d23_1) rfl ?_
  refine own_iload X0 hx (hb hby d23_3) rfl ?_
  refine own_bipush X0 hx (v := (7 : Int32)) (hb hby d23_5) rfl ?_
  refine own_icmpYes X0 hx (pc' := 70) (hb hby d23_7) (flt (by decide : ¬ ((7 : Int32) < (1 : Int32)))).2.2.2 (by decide) (by decide) ?_
  refine own_iload X0 hx (hb hby d23_70) rfl ?_
  refine own_iload X0 hx (hb hby d23_72) rfl ?_
  refine own_icmpNo X0 hx (hb hby d23_74) (tlt (by decide : (0 : Int32) < (1 : Int32))).2.1 ?_
  refine own_aloadN X0 hx (hb hby d23_77) rfl rfl ?_
  refine own_iloadN X0 hx (hb hby d23_78) rfl ?_
  refine own_iload X0 hx (hb hby d23_79) rfl ?_
  refine own_iadd X0 hx (hb hby d23_81) ?_
  refine own_baload X0 hx hZ e0 f0 ⟨by decide, by decide⟩ (v := (.int x3)) rfl (hb hby d23_82) ?_
  show Goes _ _ _ _ _ _ (T0.setTop (mkF m 83 #[.val (.ref a1), .val (.int ((4 : Int32) - (1 : Int32))), .val (.ref a3), .val (.int (0 : Int32)), .val (.int (1 : Int32)), .val (.int (0 : Int32)), .unset, .unset] [(.int x3)]))
  refine own_aloadN X0 hx (hb hby d23_83) rfl rfl ?_
  refine own_iloadN X0 hx (hb hby d23_84) rfl ?_
  refine own_iload X0 hx (hb hby d23_85) rfl ?_
  refine own_iadd X0 hx (hb hby d23_87) ?_
  refine own_baload X0 hx hZ e0 f1 ⟨by decide, by decide⟩ (v := (.int (58 : Int32))) rfl (hb hby d23_88) ?_
  refine own_icmpNo X0 hx (hb hby d23_89) (feq (hpe : ¬ (x3 = (58 : Int32)))).1 ?_
  refine own_iload X0 hx (hb hby d23_92) rfl ?_
  show Goes _ _ _ _ _ _ (T0.setTop (mkF m 94 #[.val (.ref a1), .val (.int ((4 : Int32) - (1 : Int32))), .val (.ref a3), .val (.int (0 : Int32)), .val (.int (1 : Int32)), .val (.int (0 : Int32)), .unset, .unset] [(.int (0 : Int32))]))
  exact own_retI X0 hx N0 hlk (by decide) (by decide) hret (hb hby d23_94) (by rw [e0]; exact ⟨rfl, rfl⟩)
def Q224 (Z : State) (a1 : Addr) (a2 : Addr) (t : Addr) (k : ClassId) (x0 : Int32) (x1 : Int32) (x2 : Int32) (x3 : Int32) (t2 : Addr) (k2 : ClassId) (zc : Int32) (h0 : Heap) (n0 : Nat) (v : Option Value) (h : Heap) : Prop :=
  (v = some (.int (0 : Int32)) ∧ h = h0)
theorem ef_224 (m : MethodId) (a1 : Addr) (a2 : Addr) : entryFrame m #[(.ref a1), (.ref a2), (.int ((4 : Int32) - (1 : Int32)))] 8 = mkF m 0 #[.val (.ref a1), .val (.ref a2), .val (.int ((4 : Int32) - (1 : Int32))), .unset, .unset, .unset, .unset, .unset] [] := by first | (simp [entryFrame, mkF, argsToLocals, Value.category]; done) | rfl
set_option maxRecDepth 65536 in
set_option maxHeartbeats 40000000 in
theorem rm224 (l : Launch) (Z : State) (a0 : Array Value) (hw : ∀ d ∈ tables_1, d.before a0 Z = true) (ws : List Jvm.Cond) (a1 : Addr) (a2 : Addr) (t : Addr) (k : ClassId) (x0 : Int32) (x1 : Int32) (x2 : Int32) (x3 : Int32) (t2 : Addr) (k2 : ClassId) (zc : Int32) (h0 : Heap) (n0 : Nat) (O0 : Old Z n0 h0) (SF : Start Z zc) (f0 : Exa Z h0 a1 "java/lang/String") (f1 : Fld Z h0 a1 "java/lang/String" "value" "[B" (.ref t)) (f2 : Fld Z h0 a1 "java/lang/String" "coder" "B" (.int (0 : Int32))) (f3 : Arv Z h0 t k .byte (4 : Int32) [(.int x0), (.int x1), (.int x2), (.int x3)] (.int (0 : Int32))) (f4 : Exa Z h0 a2 "java/lang/String") (f5 : Fld Z h0 a2 "java/lang/String" "value" "[B" (.ref t2)) (f6 : Fld Z h0 a2 "java/lang/String" "coder" "B" (.int (0 : Int32))) (f7 : Arv Z h0 t2 k2 .byte (1 : Int32) [(.int (58 : Int32))] (.int (0 : Int32))) (hpe : ¬ (x3 = (58 : Int32))) :
    Meets l (⟨"java/lang/String", "startsWith", "(Ljava/lang/String;I)Z"⟩ : MethodName) jdk_42_method_75_code 8 (some .boolean) ws ({ frames := 2, cells := 0, slots := 0, locals := 27 } : Room) ({ frames := 2, cells := 0, slots := 0, locals := 27 } : Room).cells ({ frames := 2, cells := 0, slots := 0, locals := 27 } : Room).slots Z #[(.ref a1), (.ref a2), (.int ((4 : Int32) - (1 : Int32)))] h0 n0 (Q224 Z a1 a2 t k x0 x1 x2 x3 t2 k2 zc h0 n0) := by
  refine Meets.of (F := fun m => mkF m 0 #[.val (.ref a1), .val (.ref a2), .val (.int ((4 : Int32) - (1 : Int32))), .unset, .unset, .unset, .unset, .unset] []) (plainFor_of_name pn_0) (fun m => ef_224 m a1 a2) ?_
  intro p e s m below meth c T0 hx hby hml hown0 hnm hret hlk hZ X0 e0
  have hown : s.vm.findClass "java/lang/String" = some m.cls := hown0
  have N0 := Fr.nil n0
  obtain ⟨z0, hzc, -⟩ := SF
  show Goes _ _ _ _ _ _ (T0.setTop (mkF m 0 #[.val (.ref a1), .val (.ref a2), .val (.int ((4 : Int32) - (1 : Int32))), .unset, .unset, .unset, .unset, .unset] []))
  refine own_iloadN X0 hx (hb hby d22_0) rfl ?_
  refine own_ifNo X0 hx (hb hby d22_1) ((if0 _ _).trans (flt (by decide : ¬ (((4 : Int32) - (1 : Int32)) < (0 : Int32)))).1) ?_
  refine own_iloadN X0 hx (hb hby d22_4) rfl ?_
  refine own_aloadN X0 hx (hb hby d22_5) rfl rfl ?_
  refine own_virtual X0 hx hZ hown (y := (⟨"java/lang/String", "length", "()I"⟩ : MethodName)) (z := (⟨"java/lang/String", "length", "()I"⟩ : MethodName)) (hw _ (List.mem_of_getElem? (i := 102) rfl)) (hw _ (List.mem_of_getElem? (i := 103) rfl)) (notFace_of_selects (args := #[]) (mvT hZ (hw _ (List.mem_of_getElem? (i := 105) rfl)))) (hw _ (List.mem_of_getElem? (i := 105) rfl)) (hw _ (List.mem_of_getElem? (i := 104) rfl)) (hw _ (List.mem_of_getElem? (i := 8) rfl)) (hw _ (List.mem_of_getElem? (i := 106) rfl)) (a := a1) f0 (by decide) (W := 1) (by decide) (by decide) N0 e0 (by rw [hml]; rfl) (argsL := []) (rest := [(.int ((4 : Int32) - (1 : Int32)))]) (lenOf pd_6 rfl) (Nat.le_of_eq rfl) (by decide) (by decide) (rm214 l Z a0 hw [] a1 t k x0 x1 x2 x3 zc h0 n0 O0 ⟨z0, hzc, trivial⟩ f0 f1 f2 f3) rfl (hb hby d22_6) ?_
  intro v1 T1 lc1 X1 N1 hQ1
  obtain ⟨rfl, e1⟩ := hQ1
  refine own_aloadN X1 hx (hb hby d22_9) rfl rfl ?_
  refine own_virtual X1 hx hZ hown (y := (⟨"java/lang/String", "length", "()I"⟩ : MethodName)) (z := (⟨"java/lang/String", "length", "()I"⟩ : MethodName)) (hw _ (List.mem_of_getElem? (i := 102) rfl)) (hw _ (List.mem_of_getElem? (i := 103) rfl)) (notFace_of_selects (args := #[]) (mvT hZ (hw _ (List.mem_of_getElem? (i := 105) rfl)))) (hw _ (List.mem_of_getElem? (i := 105) rfl)) (hw _ (List.mem_of_getElem? (i := 104) rfl)) (hw _ (List.mem_of_getElem? (i := 8) rfl)) (hw _ (List.mem_of_getElem? (i := 106) rfl)) (a := a2) f4 (by decide) (W := 2) (by decide) (by decide) N1 e1 (by rw [hml]; rfl) (argsL := []) (rest := [(.int (4 : Int32)), (.int ((4 : Int32) - (1 : Int32)))]) (lenOf pd_6 rfl) (Nat.le_of_eq rfl) (by decide) (by decide) (rm211 l Z a0 hw [] a2 t2 k2 (58 : Int32) zc h0 n0 O0 ⟨z0, hzc, trivial⟩ f4 f5 f6 f7) rfl (hb hby d22_10) ?_
  intro v2 T2 lc2 X2 N2 hQ2
  obtain ⟨rfl, e2⟩ := hQ2
  refine own_isub X2 hx (hb hby d22_13) ?_
  refine own_icmpYes X2 hx (pc' := 19) (hb hby d22_14) (flt (by decide : ¬ (((4 : Int32) - (1 : Int32)) < ((4 : Int32) - (1 : Int32))))).2.2.2 (by decide) (by decide) ?_
  refine own_aloadN X2 hx (hb hby d22_19) rfl rfl ?_
  refine own_getF X2 hx hZ hown (host := "") (Or.inl (hw _ (List.mem_of_getElem? (i := 25) rfl))) Via.refl e2 f1 (hb hby d22_20) (fun T3 X3 e3 => ?_)
  refine own_astoreN X3 hx (Ls' := #[.val (.ref a1), .val (.ref a2), .val (.int ((4 : Int32) - (1 : Int32))), .val (.ref t), .unset, .unset, .unset, .unset]) (hb hby d22_23) rfl rfl ?_
  refine own_aloadN X3 hx (hb hby d22_24) rfl rfl ?_
  refine own_getF X3 hx hZ hown (host := "") (Or.inl (hw _ (List.mem_of_getElem? (i := 25) rfl))) Via.refl e3 f5 (hb hby d22_25) (fun T4 X4 e4 => ?_)
  refine own_astore X4 hx (Ls' := #[.val (.ref a1), .val (.ref a2), .val (.int ((4 : Int32) - (1 : Int32))), .val (.ref t), .val (.ref t2), .unset, .unset, .unset]) (hb hby d22_28) rfl rfl ?_
  refine own_iconst X4 hx (v := (0 : Int32)) (hb hby d22_30) rfl ?_
  refine own_istore X4 hx (Ls' := #[.val (.ref a1), .val (.ref a2), .val (.int ((4 : Int32) - (1 : Int32))), .val (.ref t), .val (.ref t2), .val (.int (0 : Int32)), .unset, .unset]) (hb hby d22_31) rfl ?_
  refine own_aload X4 hx (hb hby d22_33) rfl rfl ?_
  refine own_alen X4 hx hZ e4 f7 (hb hby d22_35) ?_
  show Goes _ _ _ _ _ _ (T4.setTop (mkF m 36 #[.val (.ref a1), .val (.ref a2), .val (.int ((4 : Int32) - (1 : Int32))), .val (.ref t), .val (.ref t2), .val (.int (0 : Int32)), .unset, .unset] [(.int (1 : Int32))]))
  refine own_istore X4 hx (Ls' := #[.val (.ref a1), .val (.ref a2), .val (.int ((4 : Int32) - (1 : Int32))), .val (.ref t), .val (.ref t2), .val (.int (0 : Int32)), .val (.int (1 : Int32)), .unset]) (hb hby d22_36) rfl ?_
  refine own_aloadN X4 hx (hb hby d22_38) rfl rfl ?_
  refine own_virtual X4 hx hZ hown (y := (⟨"java/lang/String", "coder", "()B"⟩ : MethodName)) (z := (⟨"java/lang/String", "coder", "()B"⟩ : MethodName)) (hw _ (List.mem_of_getElem? (i := 78) rfl)) (hw _ (List.mem_of_getElem? (i := 79) rfl)) (notFace_of_selects (args := #[]) (mvT hZ (hw _ (List.mem_of_getElem? (i := 81) rfl)))) (hw _ (List.mem_of_getElem? (i := 81) rfl)) (hw _ (List.mem_of_getElem? (i := 80) rfl)) (hw _ (List.mem_of_getElem? (i := 8) rfl)) (hw _ (List.mem_of_getElem? (i := 82) rfl)) (a := a1) f0 (by decide) (W := 0) (by decide) (by decide) N2 e4 (by rw [hml]; rfl) (argsL := []) (rest := []) (lenOf pd_0 rfl) (Nat.le_of_eq rfl) (by decide) (by decide) (rm16 l Z a0 hw [] a1 zc h0 n0 O0 ⟨z0, hzc, trivial⟩ f2) rfl (hb hby d22_39) ?_
  intro v5 T5 lc5 X5 N5 hQ5
  obtain ⟨rfl, e5⟩ := hQ5
  refine own_istore X5 hx (Ls' := #[.val (.ref a1), .val (.ref a2), .val (.int ((4 : Int32) - (1 : Int32))), .val (.ref t), .val (.ref t2), .val (.int (0 : Int32)), .val (.int (1 : Int32)), .val (.int (0 : Int32))]) (hb hby d22_42) rfl ?_
  refine own_iload X5 hx (hb hby d22_44) rfl ?_
  refine own_aloadN X5 hx (hb hby d22_46) rfl rfl ?_
  refine own_virtual X5 hx hZ hown (y := (⟨"java/lang/String", "coder", "()B"⟩ : MethodName)) (z := (⟨"java/lang/String", "coder", "()B"⟩ : MethodName)) (hw _ (List.mem_of_getElem? (i := 78) rfl)) (hw _ (List.mem_of_getElem? (i := 79) rfl)) (notFace_of_selects (args := #[]) (mvT hZ (hw _ (List.mem_of_getElem? (i := 81) rfl)))) (hw _ (List.mem_of_getElem? (i := 81) rfl)) (hw _ (List.mem_of_getElem? (i := 80) rfl)) (hw _ (List.mem_of_getElem? (i := 8) rfl)) (hw _ (List.mem_of_getElem? (i := 82) rfl)) (a := a2) f4 (by decide) (W := 1) (by decide) (by decide) N5 e5 (by rw [hml]; rfl) (argsL := []) (rest := [(.int (0 : Int32))]) (lenOf pd_0 rfl) (Nat.le_of_eq rfl) (by decide) (by decide) (rm16 l Z a0 hw [] a2 zc h0 n0 O0 ⟨z0, hzc, trivial⟩ f6) rfl (hb hby d22_47) ?_
  intro v6 T6 lc6 X6 N6 hQ6
  obtain ⟨rfl, e6⟩ := hQ6
  refine own_icmpNo X6 hx (hb hby d22_50) (teq (by decide : (0 : Int32) = (0 : Int32))).2 ?_
  refine own_iload X6 hx (hb hby d22_53) rfl ?_
  refine own_iconst X6 hx (v := (1 : Int32)) (hb hby d22_55) rfl ?_
  refine own_icmpYes X6 hx (pc' := 63) (hb hby d22_56) (feq (by decide : ¬ ((0 : Int32) = (1 : Int32)))).2 (by decide) (by decide) ?_
  refine own_aloadN X6 hx (hb hby d22_63) rfl rfl ?_
  refine own_iloadN X6 hx (hb hby d22_64) rfl ?_
  refine own_aload X6 hx (hb hby d22_65) rfl rfl ?_
  refine own_iconst X6 hx (v := (0 : Int32)) (hb hby d22_67) rfl ?_
  refine own_iload X6 hx (hb hby d22_68) rfl ?_
  show Goes _ _ _ _ _ _ (T6.setTop (mkF m 70 #[.val (.ref a1), .val (.ref a2), .val (.int ((4 : Int32) - (1 : Int32))), .val (.ref t), .val (.ref t2), .val (.int (0 : Int32)), .val (.int (1 : Int32)), .val (.int (0 : Int32))] [(.int (1 : Int32)), (.int (0 : Int32)), (.ref t2), (.int ((4 : Int32) - (1 : Int32))), (.ref t)]))
  refine own_callS X6 hx hZ hown (y := (⟨"jdk/internal/util/ArraysSupport", "mismatch", "([BI[BII)I"⟩ : MethodName)) (hw _ (List.mem_of_getElem? (i := 112) rfl)) (hw _ (List.mem_of_getElem? (i := 113) rfl)) (hw _ (List.mem_of_getElem? (i := 114) rfl)) (hw _ (List.mem_of_getElem? (i := 115) rfl)) (by decide) (W := 0) (by decide) (by decide) N6 e6 (by rw [hml]; rfl) (argsL := [(.ref t), (.int ((4 : Int32) - (1 : Int32))), (.ref t2), (.int (0 : Int32)), (.int (1 : Int32))]) (rest := []) (lenOf pd_1 rfl) (Nat.le_of_eq rfl) (by decide) (by decide) (rm234 l Z a0 hw [] t t2 k k2 x0 x1 x2 x3 h0 n0 O0 f3 f7 hpe) rfl (hb hby d22_70) ?_
  intro v7 T7 lc7 X7 N7 hQ7
  obtain ⟨rfl, e7⟩ := hQ7
  refine own_ifYes X7 hx (pc' := 80) (hb hby d22_73) ((if0 _ _).trans (flt (by decide : ¬ ((0 : Int32) < (0 : Int32)))).2.1) (by decide) (by decide) ?_
  refine own_iconst X7 hx (v := (0 : Int32)) (hb hby d22_80) rfl ?_
  show Goes _ _ _ _ _ _ (T7.setTop (mkF m 81 #[.val (.ref a1), .val (.ref a2), .val (.int ((4 : Int32) - (1 : Int32))), .val (.ref t), .val (.ref t2), .val (.int (0 : Int32)), .val (.int (1 : Int32)), .val (.int (0 : Int32))] [(.int (0 : Int32))]))
  exact own_retN X7 hx (t := .boolean) N7 hlk (by decide) (by decide) hret (by simp) (hb hby d22_81) (by rw [e7]; exact ⟨rfl, rfl⟩)
def Q204 (Z : State) (a1 : Addr) (a2 : Addr) (t : Addr) (k : ClassId) (x0 : Int32) (x1 : Int32) (x2 : Int32) (x3 : Int32) (t2 : Addr) (k2 : ClassId) (zc : Int32) (h0 : Heap) (n0 : Nat) (v : Option Value) (h : Heap) : Prop :=
  (v = some (.int (0 : Int32)) ∧ h = h0)
theorem ef_204 (m : MethodId) (a1 : Addr) (a2 : Addr) : entryFrame m #[(.ref a1), (.ref a2)] 2 = mkF m 0 #[.val (.ref a1), .val (.ref a2)] [] := by first | (simp [entryFrame, mkF, argsToLocals, Value.category]; done) | rfl
set_option maxRecDepth 65536 in
set_option maxHeartbeats 40000000 in
theorem rm204 (l : Launch) (Z : State) (a0 : Array Value) (hw : ∀ d ∈ tables_1, d.before a0 Z = true) (ws : List Jvm.Cond) (a1 : Addr) (a2 : Addr) (t : Addr) (k : ClassId) (x0 : Int32) (x1 : Int32) (x2 : Int32) (x3 : Int32) (t2 : Addr) (k2 : ClassId) (zc : Int32) (h0 : Heap) (n0 : Nat) (O0 : Old Z n0 h0) (SF : Start Z zc) (f0 : Exa Z h0 a1 "java/lang/String") (f1 : Fld Z h0 a1 "java/lang/String" "value" "[B" (.ref t)) (f2 : Fld Z h0 a1 "java/lang/String" "coder" "B" (.int (0 : Int32))) (f3 : Arv Z h0 t k .byte (4 : Int32) [(.int x0), (.int x1), (.int x2), (.int x3)] (.int (0 : Int32))) (f4 : Exa Z h0 a2 "java/lang/String") (f5 : Fld Z h0 a2 "java/lang/String" "value" "[B" (.ref t2)) (f6 : Fld Z h0 a2 "java/lang/String" "coder" "B" (.int (0 : Int32))) (f7 : Arv Z h0 t2 k2 .byte (1 : Int32) [(.int (58 : Int32))] (.int (0 : Int32))) (hpe : ¬ (x3 = (58 : Int32))) :
    Meets l (⟨"java/lang/String", "endsWith", "(Ljava/lang/String;)Z"⟩ : MethodName) jdk_42_method_77_code 2 (some .boolean) ws ({ frames := 3, cells := 0, slots := 0, locals := 46 } : Room) ({ frames := 3, cells := 0, slots := 0, locals := 46 } : Room).cells ({ frames := 3, cells := 0, slots := 0, locals := 46 } : Room).slots Z #[(.ref a1), (.ref a2)] h0 n0 (Q204 Z a1 a2 t k x0 x1 x2 x3 t2 k2 zc h0 n0) := by
  refine Meets.of (F := fun m => mkF m 0 #[.val (.ref a1), .val (.ref a2)] []) (plainFor_of_name pn_0) (fun m => ef_204 m a1 a2) ?_
  intro p e s m below meth c T0 hx hby hml hown0 hnm hret hlk hZ X0 e0
  have hown : s.vm.findClass "java/lang/String" = some m.cls := hown0
  have N0 := Fr.nil n0
  obtain ⟨z0, hzc, -⟩ := SF
  show Goes _ _ _ _ _ _ (T0.setTop (mkF m 0 #[.val (.ref a1), .val (.ref a2)] []))
  refine own_aloadN X0 hx (hb hby d20_0) rfl rfl ?_
  refine own_aloadN X0 hx (hb hby d20_1) rfl rfl ?_
  refine own_aloadN X0 hx (hb hby d20_2) rfl rfl ?_
  refine own_virtual X0 hx hZ hown (y := (⟨"java/lang/String", "length", "()I"⟩ : MethodName)) (z := (⟨"java/lang/String", "length", "()I"⟩ : MethodName)) (hw _ (List.mem_of_getElem? (i := 102) rfl)) (hw _ (List.mem_of_getElem? (i := 103) rfl)) (notFace_of_selects (args := #[]) (mvT hZ (hw _ (List.mem_of_getElem? (i := 105) rfl)))) (hw _ (List.mem_of_getElem? (i := 105) rfl)) (hw _ (List.mem_of_getElem? (i := 104) rfl)) (hw _ (List.mem_of_getElem? (i := 8) rfl)) (hw _ (List.mem_of_getElem? (i := 106) rfl)) (a := a1) f0 (by decide) (W := 2) (by decide) (by decide) N0 e0 (by rw [hml]; rfl) (argsL := []) (rest := [(.ref a2), (.ref a1)]) (lenOf pd_6 rfl) (Nat.le_of_eq rfl) (by decide) (by decide) (rm214 l Z a0 hw [] a1 t k x0 x1 x2 x3 zc h0 n0 O0 ⟨z0, hzc, trivial⟩ f0 f1 f2 f3) rfl (hb hby d20_3) ?_
  intro v1 T1 lc1 X1 N1 hQ1
  obtain ⟨rfl, e1⟩ := hQ1
  refine own_aloadN X1 hx (hb hby d20_6) rfl rfl ?_
  refine own_virtual X1 hx hZ hown (y := (⟨"java/lang/String", "length", "()I"⟩ : MethodName)) (z := (⟨"java/lang/String", "length", "()I"⟩ : MethodName)) (hw _ (List.mem_of_getElem? (i := 102) rfl)) (hw _ (List.mem_of_getElem? (i := 103) rfl)) (notFace_of_selects (args := #[]) (mvT hZ (hw _ (List.mem_of_getElem? (i := 105) rfl)))) (hw _ (List.mem_of_getElem? (i := 105) rfl)) (hw _ (List.mem_of_getElem? (i := 104) rfl)) (hw _ (List.mem_of_getElem? (i := 8) rfl)) (hw _ (List.mem_of_getElem? (i := 106) rfl)) (a := a2) f4 (by decide) (W := 3) (by decide) (by decide) N1 e1 (by rw [hml]; rfl) (argsL := []) (rest := [(.int (4 : Int32)), (.ref a2), (.ref a1)]) (lenOf pd_6 rfl) (Nat.le_of_eq rfl) (by decide) (by decide) (rm211 l Z a0 hw [] a2 t2 k2 (58 : Int32) zc h0 n0 O0 ⟨z0, hzc, trivial⟩ f4 f5 f6 f7) rfl (hb hby d20_7) ?_
  intro v2 T2 lc2 X2 N2 hQ2
  obtain ⟨rfl, e2⟩ := hQ2
  refine own_isub X2 hx (hb hby d20_10) ?_
  refine own_virtual X2 hx hZ hown (y := (⟨"java/lang/String", "startsWith", "(Ljava/lang/String;I)Z"⟩ : MethodName)) (z := (⟨"java/lang/String", "startsWith", "(Ljava/lang/String;I)Z"⟩ : MethodName)) (hw _ (List.mem_of_getElem? (i := 107) rfl)) (hw _ (List.mem_of_getElem? (i := 108) rfl)) (notFace_of_selects (args := #[]) (mvT hZ (hw _ (List.mem_of_getElem? (i := 110) rfl)))) (hw _ (List.mem_of_getElem? (i := 110) rfl)) (hw _ (List.mem_of_getElem? (i := 109) rfl)) (hw _ (List.mem_of_getElem? (i := 8) rfl)) (hw _ (List.mem_of_getElem? (i := 111) rfl)) (a := a1) f0 (by decide) (W := 0) (by decide) (by decide) N2 e2 (by rw [hml]; rfl) (argsL := [(.ref a2), (.int ((4 : Int32) - (1 : Int32)))]) (rest := []) (lenOf pd_7 rfl) (Nat.le_of_eq rfl) (by decide) (by decide) (rm224 l Z a0 hw [] a1 a2 t k x0 x1 x2 x3 t2 k2 zc h0 n0 O0 ⟨z0, hzc, trivial⟩ f0 f1 f2 f3 f4 f5 f6 f7 hpe) rfl (hb hby d20_11) ?_
  intro v3 T3 lc3 X3 N3 hQ3
  obtain ⟨rfl, e3⟩ := hQ3
  show Goes _ _ _ _ _ _ (T3.setTop (mkF m 14 #[.val (.ref a1), .val (.ref a2)] [(.int (0 : Int32))]))
  exact own_retN X3 hx (t := .boolean) N3 hlk (by decide) (by decide) hret (by simp) (hb hby d20_14) (by rw [e3]; exact ⟨rfl, rfl⟩)
def Q104 (Z : State) (a1 : Addr) (a2 : Addr) (t : Addr) (k : ClassId) (x0 : Int32) (x1 : Int32) (x2 : Int32) (x3 : Int32) (zc : Int32) (h0 : Heap) (n0 : Nat) (v : Option Value) (h : Heap) : Prop :=
  (v = some (.ref a1) ∧ Keep h0 h [])
theorem ef_104 (m : MethodId) (a1 : Addr) (a2 : Addr) : entryFrame m #[(.ref a1), (.ref a2)] 2 = mkF m 0 #[.val (.ref a1), .val (.ref a2)] [] := by first | (simp [entryFrame, mkF, argsToLocals, Value.category]; done) | rfl
set_option maxRecDepth 65536 in
set_option maxHeartbeats 40000000 in
theorem rm104 (l : Launch) (Z : State) (a0 : Array Value) (hw : ∀ d ∈ tables_1, d.before a0 Z = true) (hEL : EW Z a0 consts_1) (ws : List Jvm.Cond) (a1 : Addr) (a2 : Addr) (t : Addr) (k : ClassId) (x0 : Int32) (x1 : Int32) (x2 : Int32) (x3 : Int32) (zc : Int32) (h0 : Heap) (n0 : Nat) (O0 : Old Z n0 h0) (SF : Start Z zc) (f0 : Exa Z h0 a1 "java/lang/String") (f1 : Fld Z h0 a1 "java/lang/String" "value" "[B" (.ref t)) (f2 : Fld Z h0 a1 "java/lang/String" "coder" "B" (.int (0 : Int32))) (f3 : Arv Z h0 t k .byte (4 : Int32) [(.int x0), (.int x1), (.int x2), (.int x3)] (.int (0 : Int32))) (hpa0 : ¬ (x0 = (45 : Int32) ∧ x1 = (62 : Int32))) (hpa1 : ¬ (x1 = (45 : Int32) ∧ x2 = (62 : Int32))) (hpa2 : ¬ (x2 = (45 : Int32) ∧ x3 = (62 : Int32))) (hpc0 : ¬ (x0 = (58 : Int32) ∧ x1 = (58 : Int32))) (hpc1 : ¬ (x1 = (58 : Int32) ∧ x2 = (58 : Int32))) (hpc2 : ¬ (x2 = (58 : Int32) ∧ x3 = (58 : Int32))) :
    MeetsH l (⟨"com/example/fuseline/fuseline/CircuitKey", "checkedPart", "(Ljava/lang/String;Ljava/lang/String;)Ljava/lang/String;"⟩ : MethodName) prog_10_method_8_code 2 (some (.object "java/lang/String")) ws ({ frames := 4, cells := 4, slots := 24, locals := 62 } : Room) ({ frames := 4, cells := 4, slots := 24, locals := 62 } : Room).cells ({ frames := 4, cells := 4, slots := 24, locals := 62 } : Room).slots Z consts_1 #[(.ref a1), (.ref a2)] h0 n0 (Q104 Z a1 a2 t k x0 x1 x2 x3 zc h0 n0) := by
  refine MeetsH.of (F := fun m => mkF m 0 #[.val (.ref a1), .val (.ref a2)] []) (plainFor_of_name pn_4) (fun m => ef_104 m a1 a2) ?_
  intro p e s m below meth c T0 hx hby hml hown0 hnm hret hlk hZ hS0 hC0 X0 e0
  have hown : s.vm.findClass "com/example/fuseline/fuseline/CircuitKey" = some m.cls := hown0
  have N0 := Fr.nil n0
  have KC0 := Keep.refl h0 []
  have C0 := CHr.refl hC0
  obtain ⟨z0, hzc, -⟩ := SF
  show Goes _ _ _ _ _ _ (T0.setTop (mkF m 0 #[.val (.ref a1), .val (.ref a2)] []))
  refine own_aloadN X0 hx (hb hby d10_0) rfl rfl ?_
  refine own_aloadN X0 hx (hb hby d10_1) rfl rfl ?_
  refine own_callS X0 hx hZ hown (y := (⟨"java/util/Objects", "requireNonNull", "(Ljava/lang/Object;Ljava/lang/String;)Ljava/lang/Object;"⟩ : MethodName)) (hw _ (List.mem_of_getElem? (i := 49) rfl)) (hw _ (List.mem_of_getElem? (i := 50) rfl)) (hw _ (List.mem_of_getElem? (i := 51) rfl)) (hw _ (List.mem_of_getElem? (i := 52) rfl)) (by decide) (W := 0) (by decide) (by decide) N0 e0 (by rw [hml]; rfl) (argsL := [(.ref a1), (.ref a2)]) (rest := []) (lenOf pd_8 rfl) (Nat.le_of_eq rfl) (by decide) (by decide) (rm11 l Z a0 hw [] a1 a2 h0 n0 O0) rfl (hb hby d10_2) ?_
  intro v1 T1 lc1 X1 N1 hQ1
  obtain ⟨rfl, e1⟩ := hQ1
  refine own_pop X1 hx (hb hby d10_5) rfl ?_
  refine own_aloadN X1 hx (hb hby d10_6) rfl rfl ?_
  refine own_virtual X1 hx hZ hown (y := (⟨"java/lang/String", "isEmpty", "()Z"⟩ : MethodName)) (z := (⟨"java/lang/String", "isEmpty", "()Z"⟩ : MethodName)) (hw _ (List.mem_of_getElem? (i := 53) rfl)) (hw _ (List.mem_of_getElem? (i := 54) rfl)) (notFace_of_selects (args := #[]) (mvT hZ (hw _ (List.mem_of_getElem? (i := 56) rfl)))) (hw _ (List.mem_of_getElem? (i := 56) rfl)) (hw _ (List.mem_of_getElem? (i := 55) rfl)) (hw _ (List.mem_of_getElem? (i := 8) rfl)) (hw _ (List.mem_of_getElem? (i := 57) rfl)) (a := a1) f0 (by decide) (W := 0) (by decide) (by decide) N1 e1 (by rw [hml]; rfl) (argsL := []) (rest := []) (lenOf pd_2 rfl) (Nat.le_of_eq rfl) (by decide) (by decide) (rm124 l Z a0 hw [] a1 t k x0 x1 x2 x3 zc h0 n0 O0 ⟨z0, hzc, trivial⟩ f0 f1 f2 f3) rfl (hb hby d10_7) ?_
  intro v2 T2 lc2 X2 N2 hQ2
  obtain ⟨rfl, e2⟩ := hQ2
  refine own_ifNo X2 hx (hb hby d10_10) ((if0 _ _).trans (teq (by decide : (0 : Int32) = (0 : Int32))).2) ?_
  refine own_aloadN X2 hx (hb hby d10_13) rfl rfl ?_
  refine own_ldcH X2 hx hZ hown hS0 (Nat.zero_le _) (hw _ (List.mem_of_getElem? (i := 58) rfl)) (own_wS hw) hEL (by simp [consts_1]) C0.1 e2 (cs := tx2) tx2_t tx2_z tx2_4 tx2_5 (n := 8) (hb hby d10_14) (by decide +kernel) (by decide) (by decide) (by decide) (fun sa3 T3 h3 k1_3 X3 hS3 hk3_ hZ hown e3 E3 D3 I3 => ?_)
  have E4_a1 := f0.ext E3
  have F4_value_a1 := f1.ext E3
  have F4_coder_a1 := f2.ext E3
  have A4_t := f3.ext E3
  have O4 := O0.ext E3
  have KC4 := KC0.ext E3
  have CC3 := C0.trans D3
  have KB5 := Keep.refl h3 []
  show Goes _ _ _ _ _ _ (T3.setTop (mkF m 16 #[.val (.ref a1), .val (.ref a2)] [(.ref sa3), (.ref a1)]))
  obtain ⟨t6, kb6, UE6, UV6, UC6, UA6, -⟩ := id I3
  have UB6 : Arv Z h3 t6 kb6 .byte (2 : Int32) [(.int (45 : Int32)), (.int (62 : Int32))] (.int (0 : Int32)) := UA6
  refine own_virtual X3 hx hZ hown (y := (⟨"java/lang/String", "contains", "(Ljava/lang/CharSequence;)Z"⟩ : MethodName)) (z := (⟨"java/lang/String", "contains", "(Ljava/lang/CharSequence;)Z"⟩ : MethodName)) (hw _ (List.mem_of_getElem? (i := 59) rfl)) (hw _ (List.mem_of_getElem? (i := 60) rfl)) (notFace_of_selects (args := #[]) (mvT hZ (hw _ (List.mem_of_getElem? (i := 62) rfl)))) (hw _ (List.mem_of_getElem? (i := 62) rfl)) (hw _ (List.mem_of_getElem? (i := 61) rfl)) (hw _ (List.mem_of_getElem? (i := 8) rfl)) (hw _ (List.mem_of_getElem? (i := 63) rfl)) (a := a1) E4_a1 (by decide) (W := 0) (by decide) (by decide) N2 e3 (by rw [hml]; rfl) (argsL := [(.ref sa3)]) (rest := []) (lenOf pd_9 rfl) (Nat.le_of_eq rfl) (by decide) (by decide) (rm134a l Z a0 hw [] a1 sa3 t k x0 x1 x2 x3 t6 kb6 zc h3 n0 O4 ⟨z0, hzc, trivial⟩ E4_a1 F4_value_a1 F4_coder_a1 A4_t (IsStr.exa I3) UV6 UC6 UB6 hpa0 hpa1 hpa2) rfl (hb hby d10_16) ?_
  intro v7 T7 lc7 X7 N7 hQ7
  obtain ⟨rfl, e7⟩ := hQ7
  refine own_ifNo X7 hx (hb hby d10_19) ((if0 _ _).trans (teq (by decide : (0 : Int32) = (0 : Int32))).2) ?_
  refine own_aloadN X7 hx (hb hby d10_22) rfl rfl ?_
  refine own_ldcH X7 hx hZ hown hS3 hk3_ (hw _ (List.mem_of_getElem? (i := 95) rfl)) (own_wS hw) hEL (by simp [consts_1]) CC3.1 e7 (cs := tx3) tx3_t tx3_z tx3_4 tx3_5 (n := 8) (hb hby d10_23) (by decide +kernel) (by decide) (by decide) (by decide) (fun sa8 T8 h8 k1_8 X8 hS8 hk8_ hZ hown e8 E8 D8 I8 => ?_)
  have E9_a1 := E4_a1.ext E8
  have F9_value_a1 := F4_value_a1.ext E8
  have F9_coder_a1 := F4_coder_a1.ext E8
  have A9_t := A4_t.ext E8
  have O9 := O4.ext E8
  have KC9 := KB5.ext E8
  have CC8 := CC3.trans D8
  have KQ10 := KC4.trans KC9 all0
  have KB10 := Keep.refl h8 []
  show Goes _ _ _ _ _ _ (T8.setTop (mkF m 25 #[.val (.ref a1), .val (.ref a2)] [(.ref sa8), (.ref a1)]))
  obtain ⟨t11, kb11, UE11, UV11, UC11, UA11, -⟩ := id I8
  have UB11 : Arv Z h8 t11 kb11 .byte (2 : Int32) [(.int (58 : Int32)), (.int (58 : Int32))] (.int (0 : Int32)) := UA11
  refine own_virtual X8 hx hZ hown (y := (⟨"java/lang/String", "contains", "(Ljava/lang/CharSequence;)Z"⟩ : MethodName)) (z := (⟨"java/lang/String", "contains", "(Ljava/lang/CharSequence;)Z"⟩ : MethodName)) (hw _ (List.mem_of_getElem? (i := 59) rfl)) (hw _ (List.mem_of_getElem? (i := 60) rfl)) (notFace_of_selects (args := #[]) (mvT hZ (hw _ (List.mem_of_getElem? (i := 62) rfl)))) (hw _ (List.mem_of_getElem? (i := 62) rfl)) (hw _ (List.mem_of_getElem? (i := 61) rfl)) (hw _ (List.mem_of_getElem? (i := 8) rfl)) (hw _ (List.mem_of_getElem? (i := 63) rfl)) (a := a1) E9_a1 (by decide) (W := 0) (by decide) (by decide) N7 e8 (by rw [hml]; rfl) (argsL := [(.ref sa8)]) (rest := []) (lenOf pd_9 rfl) (Nat.le_of_eq rfl) (by decide) (by decide) (rm134c l Z a0 hw [] a1 sa8 t k x0 x1 x2 x3 t11 kb11 zc h8 n0 O9 ⟨z0, hzc, trivial⟩ E9_a1 F9_value_a1 F9_coder_a1 A9_t (IsStr.exa I8) UV11 UC11 UB11 hpc0 hpc1 hpc2) rfl (hb hby d10_25) ?_
  intro v12 T12 lc12 X12 N12 hQ12
  obtain ⟨rfl, e12⟩ := hQ12
  refine own_ifYes X12 hx (pc' := 46) (hb hby d10_28) ((if0 _ _).trans (teq (by decide : (0 : Int32) = (0 : Int32))).1) (by decide) (by decide) ?_
  refine own_aloadN X12 hx (hb hby d10_46) rfl rfl ?_
  show Goes _ _ _ _ _ _ (T12.setTop (mkF m 47 #[.val (.ref a1), .val (.ref a2)] [(.ref a1)]))
  exact own_retRH X12 hx hS8 (by rw [e12]; exact hk8_) hZ hEL (by rw [e12]; exact CC8) N12 hlk (by decide) (by decide) hret rfl rfl rfl (hb hby d10_47) (by rw [e12]; exact ⟨rfl, (KQ10.trans KB10 all0)⟩)
def Q94 (Z : State) (a1 : Addr) (t : Addr) (k : ClassId) (x0 : Int32) (x1 : Int32) (x2 : Int32) (x3 : Int32) (zc : Int32) (h0 : Heap) (n0 : Nat) (v : Option Value) (h : Heap) : Prop :=
  (v = some (.ref a1) ∧ Keep h0 h [])
theorem ef_94 (m : MethodId) (a1 : Addr) : entryFrame m #[(.ref a1)] 1 = mkF m 0 #[.val (.ref a1)] [] := by first | (simp [entryFrame, mkF, argsToLocals, Value.category]; done) | rfl
set_option maxRecDepth 65536 in
set_option maxHeartbeats 40000000 in
theorem rm94 (l : Launch) (Z : State) (a0 : Array Value) (hw : ∀ d ∈ tables_1, d.before a0 Z = true) (hEL : EW Z a0 consts_1) (ws : List Jvm.Cond) (a1 : Addr) (t : Addr) (k : ClassId) (x0 : Int32) (x1 : Int32) (x2 : Int32) (x3 : Int32) (zc : Int32) (h0 : Heap) (n0 : Nat) (O0 : Old Z n0 h0) (SF : Start Z zc) (f0 : Exa Z h0 a1 "java/lang/String") (f1 : Fld Z h0 a1 "java/lang/String" "value" "[B" (.ref t)) (f2 : Fld Z h0 a1 "java/lang/String" "coder" "B" (.int (0 : Int32))) (f3 : Arv Z h0 t k .byte (4 : Int32) [(.int x0), (.int x1), (.int x2), (.int x3)] (.int (0 : Int32))) (hpa0 : ¬ (x0 = (45 : Int32) ∧ x1 = (62 : Int32))) (hpa1 : ¬ (x1 = (45 : Int32) ∧ x2 = (62 : Int32))) (hpa2 : ¬ (x2 = (45 : Int32) ∧ x3 = (62 : Int32))) (hpc0 : ¬ (x0 = (58 : Int32) ∧ x1 = (58 : Int32))) (hpc1 : ¬ (x1 = (58 : Int32) ∧ x2 = (58 : Int32))) (hpc2 : ¬ (x2 = (58 : Int32) ∧ x3 = (58 : Int32))) (hpe : ¬ (x3 = (58 : Int32))) :
    MeetsH l (⟨"com/example/fuseline/fuseline/CircuitKey", "checkedService", "(Ljava/lang/String;)Ljava/lang/String;"⟩ : MethodName) prog_10_method_7_code 1 (some (.object "java/lang/String")) ws ({ frames := 5, cells := 8, slots := 64, locals := 75 } : Room) ({ frames := 5, cells := 8, slots := 64, locals := 75 } : Room).cells ({ frames := 5, cells := 8, slots := 64, locals := 75 } : Room).slots Z consts_1 #[(.ref a1)] h0 n0 (Q94 Z a1 t k x0 x1 x2 x3 zc h0 n0) := by
  refine MeetsH.of (F := fun m => mkF m 0 #[.val (.ref a1)] []) (plainFor_of_name pn_4) (fun m => ef_94 m a1) ?_
  intro p e s m below meth c T0 hx hby hml hown0 hnm hret hlk hZ hS0 hC0 X0 e0
  have hown : s.vm.findClass "com/example/fuseline/fuseline/CircuitKey" = some m.cls := hown0
  have N0 := Fr.nil n0
  have KC0 := Keep.refl h0 []
  have C0 := CHr.refl hC0
  obtain ⟨z0, hzc, -⟩ := SF
  show Goes _ _ _ _ _ _ (T0.setTop (mkF m 0 #[.val (.ref a1)] []))
  refine own_aloadN X0 hx (hb hby d9_0) rfl rfl ?_
  refine own_ldcH X0 hx hZ hown hS0 (Nat.zero_le _) (hw _ (List.mem_of_getElem? (i := 45) rfl)) (own_wS hw) hEL (by simp [consts_1]) C0.1 e0 (cs := tx1) tx1_t tx1_z tx1_4 tx1_5 (n := 28) (hb hby d9_1) (by decide +kernel) (by decide) (by decide) (by decide) (fun sa1 T1 h1 k1_1 X1 hS1 hk1_ hZ hown e1 E1 D1 I1 => ?_)
  have E2_a1 := f0.ext E1
  have F2_value_a1 := f1.ext E1
  have F2_coder_a1 := f2.ext E1
  have A2_t := f3.ext E1
  have O2 := O0.ext E1
  have KC2 := KC0.ext E1
  have CC1 := C0.trans D1
  have KB3 := Keep.refl h1 []
  refine own_callSH X1 hx hZ hown hS1 hk1_ (y := (⟨"com/example/fuseline/fuseline/CircuitKey", "checkedPart", "(Ljava/lang/String;Ljava/lang/String;)Ljava/lang/String;"⟩ : MethodName)) (hw _ (List.mem_of_getElem? (i := 46) rfl)) (hw _ (List.mem_of_getElem? (i := 47) rfl)) (hw _ (List.mem_of_getElem? (i := 43) rfl)) (hw _ (List.mem_of_getElem? (i := 48) rfl)) hEL CC1.1 (by decide) (W := 0) (by decide) (by decide) N0 e1 (by rw [hml]; rfl) (argsL := [(.ref a1), (.ref sa1)]) (rest := []) (lenOf pd_10 rfl) (Nat.le_of_eq rfl) (by decide) (by decide) (rm104 l Z a0 hw hEL [] a1 sa1 t k x0 x1 x2 x3 zc h1 n0 O2 ⟨z0, hzc, trivial⟩ E2_a1 F2_value_a1 F2_coder_a1 A2_t hpa0 hpa1 hpa2 hpc0 hpc1 hpc2) rfl (hb hby d9_3) ?_
  intro v4 T4 lc4 k1_4 X4 hS4 hk4_ hZ hown N4 D4 hQ4
  have CC4 := CC1.trans D4
  obtain ⟨rfl, K4⟩ := hQ4
  have E5_a1 := E2_a1.keep K4
  have F5_value_a1 := F2_value_a1.keep K4 nin0
  have F5_coder_a1 := F2_coder_a1.keep K4 nin0
  have A5_t := A2_t.keep K4 nin0
  have O5 := O2.keep K4 all0
  have hk5 := Nat.le_trans hk1_ K4.1
  have KC5 := KB3.trans K4 all0
  have KQ6 := KC2.trans KC5 all0
  have KB6 := Keep.refl T4.heap []
  refine own_pop X4 hx (hb hby d9_6) rfl ?_
  refine own_aloadN X4 hx (hb hby d9_7) rfl rfl ?_
  refine own_ldcH X4 hx hZ hown hS4 hk4_ (hw _ (List.mem_of_getElem? (i := 96) rfl)) (own_wS hw) hEL (by simp [consts_1]) CC4.1 rfl (cs := tx4) tx4_t tx4_z tx4_4 tx4_5 (n := 4) (hb hby d9_8) (by decide +kernel) (by decide) (by decide) (by decide) (fun sa7 T7 h7 k1_7 X7 hS7 hk7_ hZ hown e7 E7 D7 I7 => ?_)
  have E8_a1 := E5_a1.ext E7
  have F8_value_a1 := F5_value_a1.ext E7
  have F8_coder_a1 := F5_coder_a1.ext E7
  have A8_t := A5_t.ext E7
  have O8 := O5.ext E7
  have KC8 := KB6.ext E7
  have CC7 := CC4.trans D7
  have KQ9 := KQ6.trans KC8 all0
  have KB9 := Keep.refl h7 []
  show Goes _ _ _ _ _ _ (T7.setTop (mkF m 10 #[.val (.ref a1)] [(.ref sa7), (.ref a1)]))
  obtain ⟨t10, kb10, UE10, UV10, UC10, UA10, -⟩ := id I7
  have UB10 : Arv Z h7 t10 kb10 .byte (1 : Int32) [(.int (58 : Int32))] (.int (0 : Int32)) := UA10
  refine own_virtual X7 hx hZ hown (y := (⟨"java/lang/String", "endsWith", "(Ljava/lang/String;)Z"⟩ : MethodName)) (z := (⟨"java/lang/String", "endsWith", "(Ljava/lang/String;)Z"⟩ : MethodName)) (hw _ (List.mem_of_getElem? (i := 97) rfl)) (hw _ (List.mem_of_getElem? (i := 98) rfl)) (notFace_of_selects (args := #[]) (mvT hZ (hw _ (List.mem_of_getElem? (i := 100) rfl)))) (hw _ (List.mem_of_getElem? (i := 100) rfl)) (hw _ (List.mem_of_getElem? (i := 99) rfl)) (hw _ (List.mem_of_getElem? (i := 8) rfl)) (hw _ (List.mem_of_getElem? (i := 101) rfl)) (a := a1) E8_a1 (by decide) (W := 0) (by decide) (by decide) N4 e7 (by rw [hml]; rfl) (argsL := [(.ref sa7)]) (rest := []) (lenOf pd_11 rfl) (Nat.le_of_eq rfl) (by decide) (by decide) (rm204 l Z a0 hw [] a1 sa7 t k x0 x1 x2 x3 t10 kb10 zc h7 n0 O8 ⟨z0, hzc, trivial⟩ E8_a1 F8_value_a1 F8_coder_a1 A8_t (IsStr.exa I7) UV10 UC10 UB10 hpe) rfl (hb hby d9_10) ?_
  intro v11 T11 lc11 X11 N11 hQ11
  obtain ⟨rfl, e11⟩ := hQ11
  refine own_ifYes X11 hx (pc' := 30) (hb hby d9_13) ((if0 _ _).trans (teq (by decide : (0 : Int32) = (0 : Int32))).1) (by decide) (by decide) ?_
  refine own_aloadN X11 hx (hb hby d9_30) rfl rfl ?_
  show Goes _ _ _ _ _ _ (T11.setTop (mkF m 31 #[.val (.ref a1)] [(.ref a1)]))
  exact own_retRH X11 hx hS7 (by rw [e11]; exact hk7_) hZ hEL (by rw [e11]; exact CC7) N11 hlk (by decide) (by decide) hret rfl rfl rfl (hb hby d9_31) (by rw [e11]; exact ⟨rfl, (KQ9.trans KB9 all0)⟩)
theorem d1_0 : decode method_3_code 0 = .ok (.iload_n 0, 1) := by decide +kernel
theorem d1_1 : decode method_3_code 1 = .ok (.iconst 3, 1) := by decide +kernel
theorem d1_2 : decode method_3_code 2 = .ok (.iand, 1) := by decide +kernel
theorem d1_3 : decode method_3_code 3 = .ok (.istore_n 1, 1) := by decide +kernel
theorem d1_4 : decode method_3_code 4 = .ok (.iload_n 1, 1) := by decide +kernel
theorem d1_5 : decode method_3_code 5 = .ok (.ifCond .ne 6, 3) := by decide +kernel
theorem d1_8 : decode method_3_code 8 = .ok (.bipush 45, 2) := by decide +kernel
theorem d1_10 : decode method_3_code 10 = .ok (.ireturn, 1) := by decide +kernel
theorem d1_11 : decode method_3_code 11 = .ok (.iload_n 1, 1) := by decide +kernel
theorem d1_12 : decode method_3_code 12 = .ok (.iconst 1, 1) := by decide +kernel
theorem d1_13 : decode method_3_code 13 = .ok (.if_icmp .ne 6, 3) := by decide +kernel
theorem d1_16 : decode method_3_code 16 = .ok (.bipush 62, 2) := by decide +kernel
theorem d1_18 : decode method_3_code 18 = .ok (.ireturn, 1) := by decide +kernel
theorem d1_19 : decode method_3_code 19 = .ok (.iload_n 1, 1) := by decide +kernel
theorem d1_20 : decode method_3_code 20 = .ok (.iconst 2, 1) := by decide +kernel
theorem d1_21 : decode method_3_code 21 = .ok (.if_icmp .ne 6, 3) := by decide +kernel
theorem d1_24 : decode method_3_code 24 = .ok (.bipush 58, 2) := by decide +kernel
theorem d1_26 : decode method_3_code 26 = .ok (.ireturn, 1) := by decide +kernel
theorem d1_27 : decode method_3_code 27 = .ok (.iload_n 0, 1) := by decide +kernel
theorem d1_28 : decode method_3_code 28 = .ok (.iconst 2, 1) := by decide +kernel
theorem d1_29 : decode method_3_code 29 = .ok (.iushr, 1) := by decide +kernel
theorem d1_30 : decode method_3_code 30 = .ok (.sipush 255, 3) := by decide +kernel
theorem d1_33 : decode method_3_code 33 = .ok (.iand, 1) := by decide +kernel
theorem d1_34 : decode method_3_code 34 = .ok (.i2c, 1) := by decide +kernel
theorem d1_35 : decode method_3_code 35 = .ok (.ireturn, 1) := by decide +kernel
theorem pn_5 : plainName "com/example/fuseline/fuseline/CircuitKeyCheckedServicePinLaw" = true := by first | (simp [plainName, overriddenIn]; done) | decide +kernel
def Q1 (Z : State) (p1 : Int32) (h0 : Heap) (n0 : Nat) (v : Option Value) (h : Heap) : Prop :=
  (∃ (w : Int32), v = some (.int w) ∧ B8 w ∧ h = h0)
theorem ef_1 (m : MethodId) (p1 : Int32) : entryFrame m #[(.int p1)] 2 = mkF m 0 #[.val (.int p1), .unset] [] := by first | (simp [entryFrame, mkF, argsToLocals, Value.category]; done) | rfl
set_option maxRecDepth 65536 in
set_option maxHeartbeats 40000000 in
theorem rm1 (l : Launch) (Z : State) (a0 : Array Value) (hw : ∀ d ∈ tables_1, d.before a0 Z = true) (ws : List Jvm.Cond) (p1 : Int32) (h0 : Heap) (n0 : Nat) (O0 : Old Z n0 h0) :
    Meets l (⟨"com/example/fuseline/fuseline/CircuitKeyCheckedServicePinLaw", "pick", "(I)C"⟩ : MethodName) method_3_code 2 (some .char) ws ({ frames := 0, cells := 0, slots := 0, locals := 0 } : Room) ({ frames := 0, cells := 0, slots := 0, locals := 0 } : Room).cells ({ frames := 0, cells := 0, slots := 0, locals := 0 } : Room).slots Z #[(.int p1)] h0 n0 (Q1 Z p1 h0 n0) := by
  refine Meets.of (F := fun m => mkF m 0 #[.val (.int p1), .unset] []) (plainFor_of_name pn_5) (fun m => ef_1 m p1) ?_
  intro p e s m below meth c T0 hx hby hml hown0 hnm hret hlk hZ X0 e0
  have hown : s.vm.findClass "com/example/fuseline/fuseline/CircuitKeyCheckedServicePinLaw" = some m.cls := hown0
  have N0 := Fr.nil n0
  show Goes _ _ _ _ _ _ (T0.setTop (mkF m 0 #[.val (.int p1), .unset] []))
  refine own_iloadN X0 hx (hb hby d1_0) rfl ?_
  refine own_iconst X0 hx (v := (3 : Int32)) (hb hby d1_1) rfl ?_
  refine own_iand X0 hx (hb hby d1_2) ?_
  refine own_istoreN X0 hx (Ls' := #[.val (.int p1), .val (.int (p1 &&& (3 : Int32)))]) (hb hby d1_3) rfl ?_
  refine own_iloadN X0 hx (hb hby d1_4) rfl ?_
  by_cases hc5_1 : (p1 &&& (3 : Int32)) = (0 : Int32)
  ·
    refine own_ifNo X0 hx (hb hby d1_5) ((if0 _ _).trans (teq (hc5_1 : (p1 &&& (3 : Int32)) = (0 : Int32))).2) ?_
    refine own_bipush X0 hx (v := (45 : Int32)) (hb hby d1_8) rfl ?_
    show Goes _ _ _ _ _ _ (T0.setTop (mkF m 10 #[.val (.int p1), .val (.int (p1 &&& (3 : Int32)))] [(.int (45 : Int32))]))
    exact own_retN X0 hx (t := .char) N0 hlk (by decide) (by decide) hret (by simp) (hb hby d1_10) (by rw [e0]; exact ⟨(45 : Int32), rfl, (by decide), rfl⟩)
  ·
    refine own_ifYes X0 hx (pc' := 11) (hb hby d1_5) ((if0 _ _).trans (feq (hc5_1 : ¬ ((p1 &&& (3 : Int32)) = (0 : Int32)))).2) (by decide) (by decide) ?_
    refine own_iloadN X0 hx (hb hby d1_11) rfl ?_
    refine own_iconst X0 hx (v := (1 : Int32)) (hb hby d1_12) rfl ?_
    by_cases hc13_2 : (p1 &&& (3 : Int32)) = (1 : Int32)
    ·
      refine own_icmpNo X0 hx (hb hby d1_13) (teq (hc13_2 : (p1 &&& (3 : Int32)) = (1 : Int32))).2 ?_
      refine own_bipush X0 hx (v := (62 : Int32)) (hb hby d1_16) rfl ?_
      show Goes _ _ _ _ _ _ (T0.setTop (mkF m 18 #[.val (.int p1), .val (.int (p1 &&& (3 : Int32)))] [(.int (62 : Int32))]))
      exact own_retN X0 hx (t := .char) N0 hlk (by decide) (by decide) hret (by simp) (hb hby d1_18) (by rw [e0]; exact ⟨(62 : Int32), rfl, (by decide), rfl⟩)
    ·
      refine own_icmpYes X0 hx (pc' := 19) (hb hby d1_13) (feq (hc13_2 : ¬ ((p1 &&& (3 : Int32)) = (1 : Int32)))).2 (by decide) (by decide) ?_
      refine own_iloadN X0 hx (hb hby d1_19) rfl ?_
      refine own_iconst X0 hx (v := (2 : Int32)) (hb hby d1_20) rfl ?_
      by_cases hc21_3 : (p1 &&& (3 : Int32)) = (2 : Int32)
      ·
        refine own_icmpNo X0 hx (hb hby d1_21) (teq (hc21_3 : (p1 &&& (3 : Int32)) = (2 : Int32))).2 ?_
        refine own_bipush X0 hx (v := (58 : Int32)) (hb hby d1_24) rfl ?_
        show Goes _ _ _ _ _ _ (T0.setTop (mkF m 26 #[.val (.int p1), .val (.int (p1 &&& (3 : Int32)))] [(.int (58 : Int32))]))
        exact own_retN X0 hx (t := .char) N0 hlk (by decide) (by decide) hret (by simp) (hb hby d1_26) (by rw [e0]; exact ⟨(58 : Int32), rfl, (by decide), rfl⟩)
      ·
        refine own_icmpYes X0 hx (pc' := 27) (hb hby d1_21) (feq (hc21_3 : ¬ ((p1 &&& (3 : Int32)) = (2 : Int32)))).2 (by decide) (by decide) ?_
        refine own_iloadN X0 hx (hb hby d1_27) rfl ?_
        refine own_iconst X0 hx (v := (2 : Int32)) (hb hby d1_28) rfl ?_
        refine own_iushr X0 hx (hb hby d1_29) ?_
        refine own_sipush X0 hx (v := (255 : Int32)) (hb hby d1_30) rfl ?_
        refine own_iand X0 hx (hb hby d1_33) ?_
        show Goes _ _ _ _ _ _ (T0.setTop (mkF m 34 #[.val (.int p1), .val (.int (p1 &&& (3 : Int32)))] [(.int (((p1.toUInt32 >>> ((2 : Int32) &&& 31).toUInt32).toInt32) &&& (255 : Int32)))]))
        refine own_i2c X0 hx (hb hby d1_34) ?_
        show Goes _ _ _ _ _ _ (T0.setTop (mkF m 35 #[.val (.int p1), .val (.int (p1 &&& (3 : Int32)))] [(.int ((((p1.toUInt32 >>> ((2 : Int32) &&& 31).toUInt32).toInt32) &&& (255 : Int32)).toUInt32.toUInt16.toUInt32.toInt32))]))
        rw [i2c_mask]
        exact own_retN X0 hx (t := .char) N0 hlk (by decide) (by decide) hret (by simp) (hb hby d1_35) (by rw [e0]; exact ⟨(((p1.toUInt32 >>> ((2 : Int32) &&& 31).toUInt32).toInt32) &&& (255 : Int32)), (congrArg (fun z => some (Value.int z)) (i2c_mask _)), (own_ch _), rfl⟩)
theorem d8_0 : decode method_4_code 0 = .ok (.iload_n 0, 1) := by decide +kernel
theorem d8_1 : decode method_4_code 1 = .ok (.bipush 45, 2) := by decide +kernel
theorem d8_3 : decode method_4_code 3 = .ok (.if_icmp .ne 9, 3) := by decide +kernel
theorem d8_6 : decode method_4_code 6 = .ok (.iload_n 1, 1) := by decide +kernel
theorem d8_7 : decode method_4_code 7 = .ok (.bipush 62, 2) := by decide +kernel
theorem d8_9 : decode method_4_code 9 = .ok (.if_icmp .eq 15, 3) := by decide +kernel
theorem d8_24 : decode method_4_code 24 = .ok (.iconst 1, 1) := by decide +kernel
theorem d8_25 : decode method_4_code 25 = .ok (.goto 4, 3) := by decide +kernel
theorem d8_29 : decode method_4_code 29 = .ok (.ireturn, 1) := by decide +kernel
theorem d8_12 : decode method_4_code 12 = .ok (.iload_n 0, 1) := by decide +kernel
theorem d8_13 : decode method_4_code 13 = .ok (.bipush 58, 2) := by decide +kernel
theorem d8_15 : decode method_4_code 15 = .ok (.if_icmp .ne 13, 3) := by decide +kernel
theorem d8_28 : decode method_4_code 28 = .ok (.iconst 0, 1) := by decide +kernel
theorem d8_18 : decode method_4_code 18 = .ok (.iload_n 1, 1) := by decide +kernel
theorem d8_19 : decode method_4_code 19 = .ok (.bipush 58, 2) := by decide +kernel
theorem d8_21 : decode method_4_code 21 = .ok (.if_icmp .ne 7, 3) := by decide +kernel
def Q8 (Z : State) (p1 : Int32) (p2 : Int32) (h0 : Heap) (n0 : Nat) (v : Option Value) (h : Heap) : Prop :=
  (v = some (.int (1 : Int32)) ∧ ((p1 = (45 : Int32) ∧ p2 = (62 : Int32)) ∨ (p1 = (58 : Int32) ∧ p2 = (58 : Int32))) ∧ h = h0) ∨
  (v = some (.int (0 : Int32)) ∧ ¬ ((p1 = (45 : Int32) ∧ p2 = (62 : Int32)) ∨ (p1 = (58 : Int32) ∧ p2 = (58 : Int32))) ∧ h = h0)
theorem ef_8 (m : MethodId) (p1 : Int32) (p2 : Int32) : entryFrame m #[(.int p1), (.int p2)] 2 = mkF m 0 #[.val (.int p1), .val (.int p2)] [] := by first | (simp [entryFrame, mkF, argsToLocals, Value.category]; done) | rfl
set_option maxRecDepth 65536 in
set_option maxHeartbeats 40000000 in
theorem rm8 (l : Launch) (Z : State) (a0 : Array Value) (hw : ∀ d ∈ tables_1, d.before a0 Z = true) (ws : List Jvm.Cond) (p1 : Int32) (p2 : Int32) (h0 : Heap) (n0 : Nat) (O0 : Old Z n0 h0) :
    Meets l (⟨"com/example/fuseline/fuseline/CircuitKeyCheckedServicePinLaw", "joins", "(CC)Z"⟩ : MethodName) method_4_code 2 (some .boolean) ws ({ frames := 0, cells := 0, slots := 0, locals := 0 } : Room) ({ frames := 0, cells := 0, slots := 0, locals := 0 } : Room).cells ({ frames := 0, cells := 0, slots := 0, locals := 0 } : Room).slots Z #[(.int p1), (.int p2)] h0 n0 (Q8 Z p1 p2 h0 n0) := by
  refine Meets.of (F := fun m => mkF m 0 #[.val (.int p1), .val (.int p2)] []) (plainFor_of_name pn_5) (fun m => ef_8 m p1 p2) ?_
  intro p e s m below meth c T0 hx hby hml hown0 hnm hret hlk hZ X0 e0
  have hown : s.vm.findClass "com/example/fuseline/fuseline/CircuitKeyCheckedServicePinLaw" = some m.cls := hown0
  have N0 := Fr.nil n0
  show Goes _ _ _ _ _ _ (T0.setTop (mkF m 0 #[.val (.int p1), .val (.int p2)] []))
  refine own_iloadN X0 hx (hb hby d8_0) rfl ?_
  refine own_bipush X0 hx (v := (45 : Int32)) (hb hby d8_1) rfl ?_
  by_cases hc3_1 : p1 = (45 : Int32)
  ·
    refine own_icmpNo X0 hx (hb hby d8_3) (teq (hc3_1 : p1 = (45 : Int32))).2 ?_
    refine own_iloadN X0 hx (hb hby d8_6) rfl ?_
    refine own_bipush X0 hx (v := (62 : Int32)) (hb hby d8_7) rfl ?_
    by_cases hc9_2 : p2 = (62 : Int32)
    ·
      refine own_icmpYes X0 hx (pc' := 24) (hb hby d8_9) (teq (hc9_2 : p2 = (62 : Int32))).1 (by decide) (by decide) ?_
      refine own_iconst X0 hx (v := (1 : Int32)) (hb hby d8_24) rfl ?_
      refine own_goto X0 hx (pc' := 29) (hb hby d8_25) (by decide) (by decide) ?_
      show Goes _ _ _ _ _ _ (T0.setTop (mkF m 29 #[.val (.int p1), .val (.int p2)] [(.int (1 : Int32))]))
      exact own_retN X0 hx (t := .boolean) N0 hlk (by decide) (by decide) hret (by simp) (hb hby d8_29) (by rw [e0]; exact Or.inl ⟨rfl, (by simp_all), rfl⟩)
    ·
      refine own_icmpNo X0 hx (hb hby d8_9) (feq (hc9_2 : ¬ (p2 = (62 : Int32)))).1 ?_
      refine own_iloadN X0 hx (hb hby d8_12) rfl ?_
      refine own_bipush X0 hx (v := (58 : Int32)) (hb hby d8_13) rfl ?_
      refine own_icmpYes X0 hx (pc' := 28) (hb hby d8_15) (feq ((by first | (rw [hc3_1]; done) | (rw [hc3_1]; decide)) : ¬ (p1 = (58 : Int32)))).2 (by decide) (by decide) ?_
      refine own_iconst X0 hx (v := (0 : Int32)) (hb hby d8_28) rfl ?_
      show Goes _ _ _ _ _ _ (T0.setTop (mkF m 29 #[.val (.int p1), .val (.int p2)] [(.int (0 : Int32))]))
      exact own_retN X0 hx (t := .boolean) N0 hlk (by decide) (by decide) hret (by simp) (hb hby d8_29) (by rw [e0]; exact Or.inr (⟨rfl, (by simp_all), rfl⟩))
  ·
    refine own_icmpYes X0 hx (pc' := 12) (hb hby d8_3) (feq (hc3_1 : ¬ (p1 = (45 : Int32)))).2 (by decide) (by decide) ?_
    refine own_iloadN X0 hx (hb hby d8_12) rfl ?_
    refine own_bipush X0 hx (v := (58 : Int32)) (hb hby d8_13) rfl ?_
    by_cases hc15_3 : p1 = (58 : Int32)
    ·
      refine own_icmpNo X0 hx (hb hby d8_15) (teq (hc15_3 : p1 = (58 : Int32))).2 ?_
      refine own_iloadN X0 hx (hb hby d8_18) rfl ?_
      refine own_bipush X0 hx (v := (58 : Int32)) (hb hby d8_19) rfl ?_
      by_cases hc21_4 : p2 = (58 : Int32)
      ·
        refine own_icmpNo X0 hx (hb hby d8_21) (teq (hc21_4 : p2 = (58 : Int32))).2 ?_
        refine own_iconst X0 hx (v := (1 : Int32)) (hb hby d8_24) rfl ?_
        refine own_goto X0 hx (pc' := 29) (hb hby d8_25) (by decide) (by decide) ?_
        show Goes _ _ _ _ _ _ (T0.setTop (mkF m 29 #[.val (.int p1), .val (.int p2)] [(.int (1 : Int32))]))
        exact own_retN X0 hx (t := .boolean) N0 hlk (by decide) (by decide) hret (by simp) (hb hby d8_29) (by rw [e0]; exact Or.inl ⟨rfl, (by simp_all), rfl⟩)
      ·
        refine own_icmpYes X0 hx (pc' := 28) (hb hby d8_21) (feq (hc21_4 : ¬ (p2 = (58 : Int32)))).2 (by decide) (by decide) ?_
        refine own_iconst X0 hx (v := (0 : Int32)) (hb hby d8_28) rfl ?_
        show Goes _ _ _ _ _ _ (T0.setTop (mkF m 29 #[.val (.int p1), .val (.int p2)] [(.int (0 : Int32))]))
        exact own_retN X0 hx (t := .boolean) N0 hlk (by decide) (by decide) hret (by simp) (hb hby d8_29) (by rw [e0]; exact Or.inr (⟨rfl, (by simp_all), rfl⟩))
    ·
      refine own_icmpYes X0 hx (pc' := 28) (hb hby d8_15) (feq (hc15_3 : ¬ (p1 = (58 : Int32)))).2 (by decide) (by decide) ?_
      refine own_iconst X0 hx (v := (0 : Int32)) (hb hby d8_28) rfl ?_
      show Goes _ _ _ _ _ _ (T0.setTop (mkF m 29 #[.val (.int p1), .val (.int p2)] [(.int (0 : Int32))]))
      exact own_retN X0 hx (t := .boolean) N0 hlk (by decide) (by decide) hret (by simp) (hb hby d8_29) (by rw [e0]; exact Or.inr (⟨rfl, (by simp_all), rfl⟩))
theorem d3_0 : decode jdk_42_method_149_code 0 = .ok (.aload_n 0, 1) := by decide +kernel
theorem d3_1 : decode jdk_42_method_149_code 1 = .ok (.invokespecial 1, 3) := by decide +kernel
theorem d3_4 : decode jdk_42_method_149_code 4 = .ok (.iload_n 3, 1) := by decide +kernel
theorem d3_5 : decode jdk_42_method_149_code 5 = .ok (.ifCond .ne 22, 3) := by decide +kernel
theorem d3_8 : decode jdk_42_method_149_code 8 = .ok (.aload_n 0, 1) := by decide +kernel
theorem d3_9 : decode jdk_42_method_149_code 9 = .ok (.ldc 7, 2) := by decide +kernel
theorem d3_11 : decode jdk_42_method_149_code 11 = .ok (.getfield 9, 3) := by decide +kernel
theorem d3_14 : decode jdk_42_method_149_code 14 = .ok (.putfield 9, 3) := by decide +kernel
theorem d3_17 : decode jdk_42_method_149_code 17 = .ok (.aload_n 0, 1) := by decide +kernel
theorem d3_18 : decode jdk_42_method_149_code 18 = .ok (.ldc 7, 2) := by decide +kernel
theorem d3_20 : decode jdk_42_method_149_code 20 = .ok (.getfield 15, 3) := by decide +kernel
theorem d3_23 : decode jdk_42_method_149_code 23 = .ok (.putfield 15, 3) := by decide +kernel
theorem d3_26 : decode jdk_42_method_149_code 26 = .ok (.return_, 1) := by decide +kernel
def Q3e (Z : State) (a1 : Addr) (a2 : Addr) (u1 : Value) (u2 : Value) (k : ClassId) (zc : Int32) (h0 : Heap) (n0 : Nat) (v : Option Value) (h : Heap) : Prop :=
  (v = none)
theorem ef_3e (m : MethodId) (a1 : Addr) (a2 : Addr) : entryFrame m #[(.ref a1), (.ref a2), (.int (0 : Int32)), (.int (0 : Int32)), .null] 6 = mkF m 0 #[.val (.ref a1), .val (.ref a2), .val (.int (0 : Int32)), .val (.int (0 : Int32)), .val .null, .unset] [] := by first | (simp [entryFrame, mkF, argsToLocals, Value.category]; done) | rfl
set_option maxRecDepth 65536 in
set_option maxHeartbeats 40000000 in
theorem rm3e (l : Launch) (Z : State) (a0 : Array Value) (hw : ∀ d ∈ tables_1, d.before a0 Z = true) (hEL : EW Z a0 consts_1) (ws : List Jvm.Cond) (a1 : Addr) (a2 : Addr) (u1 : Value) (u2 : Value) (k : ClassId) (zc : Int32) (h0 : Heap) (n0 : Nat) (O0 : Old Z n0 h0) (SF : Start Z zc) (f0 : Exa Z h0 a1 "java/lang/String") (f1 : Fld Z h0 a1 "java/lang/String" "value" "[B" u1) (f2 : Fld Z h0 a1 "java/lang/String" "coder" "B" u2) (f3 : n0 ≤ a1) (f4 : Arv Z h0 a2 k .char (0 : Int32) [] (.int (0 : Int32))) :
    MeetsHS l (⟨"java/lang/String", "<init>", "([CIILjava/lang/Void;)V"⟩ : MethodName) jdk_42_method_149_code 6 none ws ({ frames := 1, cells := 4, slots := 8, locals := 12 } : Room) ({ frames := 1, cells := 4, slots := 8, locals := 12 } : Room).cells ({ frames := 1, cells := 4, slots := 8, locals := 12 } : Room).slots Z consts_1 a1 #[(.ref a1), (.ref a2), (.int (0 : Int32)), (.int (0 : Int32)), .null] h0 n0 (Q3e Z a1 a2 u1 u2 k zc h0 n0) := by
  refine MeetsHS.of (F := fun m => mkF m 0 #[.val (.ref a1), .val (.ref a2), .val (.int (0 : Int32)), .val (.int (0 : Int32)), .val .null, .unset] []) (plainFor_of_name pn_0) (fun m => ef_3e m a1 a2) ?_
  intro p e s m below meth c T0 hx hby hml hown0 hnm hret hlk hZ hS0 hC0 hSf0 X0 e0
  have hown : s.vm.findClass "java/lang/String" = some m.cls := hown0
  have N0 := Fr.nil n0
  have KC0 := Keep.refl h0 [a1]
  have C0 := CHr.refl hC0
  obtain ⟨z0, hzc, -⟩ := SF
  show Goes _ _ _ _ _ _ (T0.setTop (mkF m 0 #[.val (.ref a1), .val (.ref a2), .val (.int (0 : Int32)), .val (.int (0 : Int32)), .val .null, .unset] []))
  refine own_aloadN X0 hx (hb hby d3_0) rfl rfl ?_
  refine own_initO X0 hx hZ hown (hw _ (List.mem_of_getElem? (i := 16) rfl)) (hw _ (List.mem_of_getElem? (i := 17) rfl)) (hw _ (List.mem_of_getElem? (i := 18) rfl)) e0 (by rw [hml]; rfl) (hb hby d3_1) (by decide) (W := 0) (Nat.le_of_eq rfl) (by decide) (fun T1 X1 e1 => ?_)
  refine own_iloadN X1 hx (hb hby d3_4) rfl ?_
  refine own_ifNo X1 hx (hb hby d3_5) ((if0 _ _).trans (teq (by decide : (0 : Int32) = (0 : Int32))).2) ?_
  refine own_aloadN X1 hx (hb hby d3_8) rfl rfl ?_
  refine own_ldcH X1 hx hZ hown hS0 (Nat.zero_le _) (hw _ (List.mem_of_getElem? (i := 19) rfl)) (own_wS hw) hEL (by simp [consts_1]) C0.1 e1 (cs := tx0) tx0_t tx0_z tx0_4 tx0_5 (n := 0) (hb hby d3_9) (by decide +kernel) (by decide) (by decide) (by decide) (fun sa2 T2 h2 k1_2 X2 hS2 hk2_ hZ hown e2 E2 D2 I2 => ?_)
  have E3_a1 := f0.ext E2
  have F3_value_a1 := f1.ext E2
  have F3_coder_a1 := f2.ext E2
  have O3 := O0.ext E2
  have KC3 := KC0.ext E2
  have CC2 := C0.trans D2
  have KB4 := Keep.refl h2 [a1]
  have SA2 := D2.safe f0.lt hSf0
  show Goes _ _ _ _ _ _ (T2.setTop (mkF m 11 #[.val (.ref a1), .val (.ref a2), .val (.int (0 : Int32)), .val (.int (0 : Int32)), .val .null, .unset] [(.ref sa2), (.ref a1)]))
  obtain ⟨t5, kb5, UE5, UV5, UC5, UA5, -⟩ := id I2
  have UB5 : Arv Z h2 t5 kb5 .byte (0 : Int32) [] (.int (0 : Int32)) := UA5
  refine own_getF X2 hx hZ hown (host := "") (Or.inl (hw _ (List.mem_of_getElem? (i := 25) rfl))) Via.refl e2 UV5 (hb hby d3_11) (fun T6 X6 e6 => ?_)
  show Goes _ _ _ _ _ _ (T6.setTop (mkF m 14 #[.val (.ref a1), .val (.ref a2), .val (.int (0 : Int32)), .val (.int (0 : Int32)), .val .null, .unset] [(.ref t5), (.ref a1)]))
  refine own_putF X6 hx hZ hown N0 (host := "") (Or.inl (hw _ (List.mem_of_getElem? (i := 25) rfl))) Via.refl e6 F3_value_a1 E3_a1 (Or.inr ⟨(hw _ (List.mem_of_getElem? (i := 21) rfl)), rfl, hnm⟩) (hw _ (List.mem_of_getElem? (i := 7) rfl)) (ty := (.array .byte)) (by decide) rfl rfl f3 (hb hby d3_14) (fun T7 h7 lc7 X7 e7 N7 W7 => ?_)
  have E8_a1 := E3_a1.wr W7
  have F8_coder_a1 := F3_coder_a1.other W7 (Or.inr (slot_ne (Or.inr (hw _ (List.mem_of_getElem? (i := 22) rfl))) (Or.inr (hw _ (List.mem_of_getElem? (i := 21) rfl))) (by decide) (t := .byte) (t' := (.array .byte)) (by decide) (by decide)))
  have O8 := O3.wr W7 f3
  have hk8 := Nat.le_trans hk2_ (Keep.of_wr W7).1
  have KC8 := KB4.wr W7 (Or.inl (List.mem_of_getElem? (i := 0) rfl))
  refine own_aloadN X7 hx (hb hby d3_17) rfl rfl ?_
  have Cc9 := CC2.trans (CHr.keep KC8 (own_s1 SA2) CC2.1)
  refine own_ldcH X7 hx hZ hown hS2 hk8 (hw _ (List.mem_of_getElem? (i := 19) rfl)) (own_wS hw) hEL (by simp [consts_1]) Cc9.1 e7 (cs := tx0) tx0_t tx0_z tx0_4 tx0_5 (n := 0) (hb hby d3_18) (by decide +kernel) (by decide) (by decide) (by decide) (fun sa10 T10 h10 k1_10 X10 hS10 hk10_ hZ hown e10 E10 D10 I10 => ?_)
  have E11_a1 := E8_a1.ext E10
  have F11_coder_a1 := F8_coder_a1.ext E10
  have O11 := O8.ext E10
  have KC11 := KC8.ext E10
  have CC10 := Cc9.trans D10
  have KB12 := Keep.refl h10 [a1]
  have SA10 := D10.safe E8_a1.lt (Safe.keep KC8 (own_s1 SA2) CC2.1 SA2)
  show Goes _ _ _ _ _ _ (T10.setTop (mkF m 20 #[.val (.ref a1), .val (.ref a2), .val (.int (0 : Int32)), .val (.int (0 : Int32)), .val .null, .unset] [(.ref sa10), (.ref a1)]))
  obtain ⟨t13, kb13, UE13, UV13, UC13, UA13, -⟩ := id I10
  have UB13 : Arv Z h10 t13 kb13 .byte (0 : Int32) [] (.int (0 : Int32)) := UA13
  refine own_getF X10 hx hZ hown (host := "") (Or.inl (hw _ (List.mem_of_getElem? (i := 26) rfl))) Via.refl e10 UC13 (hb hby d3_20) (fun T14 X14 e14 => ?_)
  show Goes _ _ _ _ _ _ (T14.setTop (mkF m 23 #[.val (.ref a1), .val (.ref a2), .val (.int (0 : Int32)), .val (.int (0 : Int32)), .val .null, .unset] [(.int (0 : Int32)), (.ref a1)]))
  refine own_putF X14 hx hZ hown N7 (host := "") (Or.inl (hw _ (List.mem_of_getElem? (i := 26) rfl))) Via.refl e14 F11_coder_a1 E11_a1 (Or.inr ⟨(hw _ (List.mem_of_getElem? (i := 22) rfl)), rfl, hnm⟩) (hw _ (List.mem_of_getElem? (i := 7) rfl)) (ty := .byte) (by decide) rfl rfl f3 (hb hby d3_23) (fun T15 h15 lc15 X15 e15 N15 W15 => ?_)
  have O16 := O11.wr W15 f3
  have hk16 := Nat.le_trans hk10_ (Keep.of_wr W15).1
  have KC16 := KB12.wr W15 (Or.inl (List.mem_of_getElem? (i := 0) rfl))
  show Goes _ _ _ _ _ _ (T15.setTop (mkF m 26 #[.val (.ref a1), .val (.ref a2), .val (.int (0 : Int32)), .val (.int (0 : Int32)), .val .null, .unset] []))
  have Cc17 := CC10.trans (CHr.keep KC16 (own_s1 SA10) CC10.1)
  exact own_retVH X15 hx hS10 (by rw [e15]; exact hk16) hZ hEL (by rw [e15]; exact Cc17) N15 hlk (by decide) (by decide) hret (hb hby d3_26) (by rw [e15]; exact rfl)
theorem d2_0 : decode jdk_42_method_3_code 0 = .ok (.aload_n 0, 1) := by decide +kernel
theorem d2_1 : decode jdk_42_method_3_code 1 = .ok (.aload_n 1, 1) := by decide +kernel
theorem d2_2 : decode jdk_42_method_3_code 2 = .ok (.iconst 0, 1) := by decide +kernel
theorem d2_3 : decode jdk_42_method_3_code 3 = .ok (.aload_n 1, 1) := by decide +kernel
theorem d2_4 : decode jdk_42_method_3_code 4 = .ok (.arraylength, 1) := by decide +kernel
theorem d2_5 : decode jdk_42_method_3_code 5 = .ok (.aconst_null, 1) := by decide +kernel
theorem d2_6 : decode jdk_42_method_3_code 6 = .ok (.invokespecial 27, 3) := by decide +kernel
theorem pd_12 : parseMethodDescriptor "([CIILjava/lang/Void;)V" = some ⟨[(.array .char), .int, .int, (.object "java/lang/Void")], none⟩ := by decide +kernel
theorem d2_9 : decode jdk_42_method_3_code 9 = .ok (.return_, 1) := by decide +kernel
def Q2e (Z : State) (a1 : Addr) (a2 : Addr) (u1 : Value) (u2 : Value) (k : ClassId) (zc : Int32) (h0 : Heap) (n0 : Nat) (v : Option Value) (h : Heap) : Prop :=
  (v = none)
theorem ef_2e (m : MethodId) (a1 : Addr) (a2 : Addr) : entryFrame m #[(.ref a1), (.ref a2)] 2 = mkF m 0 #[.val (.ref a1), .val (.ref a2)] [] := by first | (simp [entryFrame, mkF, argsToLocals, Value.category]; done) | rfl
set_option maxRecDepth 65536 in
set_option maxHeartbeats 40000000 in
theorem rm2e (l : Launch) (Z : State) (a0 : Array Value) (hw : ∀ d ∈ tables_1, d.before a0 Z = true) (hEL : EW Z a0 consts_1) (ws : List Jvm.Cond) (a1 : Addr) (a2 : Addr) (u1 : Value) (u2 : Value) (k : ClassId) (zc : Int32) (h0 : Heap) (n0 : Nat) (O0 : Old Z n0 h0) (SF : Start Z zc) (f0 : Exa Z h0 a1 "java/lang/String") (f1 : Fld Z h0 a1 "java/lang/String" "value" "[B" u1) (f2 : Fld Z h0 a1 "java/lang/String" "coder" "B" u2) (f3 : n0 ≤ a1) (f4 : Arv Z h0 a2 k .char (0 : Int32) [] (.int (0 : Int32))) :
    MeetsHS l (⟨"java/lang/String", "<init>", "([C)V"⟩ : MethodName) jdk_42_method_3_code 2 none ws ({ frames := 2, cells := 4, slots := 8, locals := 29 } : Room) ({ frames := 2, cells := 4, slots := 8, locals := 29 } : Room).cells ({ frames := 2, cells := 4, slots := 8, locals := 29 } : Room).slots Z consts_1 a1 #[(.ref a1), (.ref a2)] h0 n0 (Q2e Z a1 a2 u1 u2 k zc h0 n0) := by
  refine MeetsHS.of (F := fun m => mkF m 0 #[.val (.ref a1), .val (.ref a2)] []) (plainFor_of_name pn_0) (fun m => ef_2e m a1 a2) ?_
  intro p e s m below meth c T0 hx hby hml hown0 hnm hret hlk hZ hS0 hC0 hSf0 X0 e0
  have hown : s.vm.findClass "java/lang/String" = some m.cls := hown0
  have N0 := Fr.nil n0
  have KC0 := Keep.refl h0 [a1]
  have C0 := CHr.refl hC0
  obtain ⟨z0, hzc, -⟩ := SF
  show Goes _ _ _ _ _ _ (T0.setTop (mkF m 0 #[.val (.ref a1), .val (.ref a2)] []))
  refine own_aloadN X0 hx (hb hby d2_0) rfl rfl ?_
  refine own_aloadN X0 hx (hb hby d2_1) rfl rfl ?_
  refine own_iconst X0 hx (v := (0 : Int32)) (hb hby d2_2) rfl ?_
  refine own_aloadN X0 hx (hb hby d2_3) rfl rfl ?_
  refine own_alen X0 hx hZ e0 f4 (hb hby d2_4) ?_
  refine own_aconst_null X0 hx (hb hby d2_5) ?_
  refine own_specialHS X0 hx hZ hown hS0 (Nat.zero_le _) (y := (⟨"java/lang/String", "<init>", "([CIILjava/lang/Void;)V"⟩ : MethodName)) rfl (hw _ (List.mem_of_getElem? (i := 12) rfl)) (hw _ (List.mem_of_getElem? (i := 13) rfl)) (hw _ (List.mem_of_getElem? (i := 8) rfl)) (hw _ (List.mem_of_getElem? (i := 15) rfl)) (a := a1) hEL C0.1 hSf0 f0.lt (by decide) (W := 0) (by decide) (by decide) N0 e0 (by rw [hml]; rfl) (argsL := [(.ref a2), (.int (0 : Int32)), (.int (0 : Int32)), .null]) (rest := []) (lenOf pd_12 rfl) (Nat.le_of_eq rfl) (by decide) (by decide) (rm3e l Z a0 hw hEL [] a1 a2 (u1) (u2) k zc h0 n0 O0 ⟨z0, hzc, trivial⟩ f0 f1 f2 f3 f4) rfl (hb hby d2_6) ?_
  intro v1 T1 lc1 k1_1 X1 hS1 hk1_ hZ hown N1 D1 hQ1
  have CC1 := C0.trans D1
  obtain rfl := hQ1
  have KB2 := Keep.refl T1.heap [a1]
  show Goes _ _ _ _ _ _ (T1.setTop (mkF m 9 #[.val (.ref a1), .val (.ref a2)] []))
  exact own_retVH X1 hx hS1 hk1_ hZ hEL CC1 N1 hlk (by decide) (by decide) hret (hb hby d2_9) (rfl)
theorem pd_13 : parseMethodDescriptor "(I)C" = some ⟨[.int], some .char⟩ := by decide +kernel
theorem pd_14 : parseMethodDescriptor "([C)V" = some ⟨[(.array .char)], none⟩ := by decide +kernel
theorem pd_15 : parseMethodDescriptor "(Ljava/lang/String;)Ljava/lang/String;" = some ⟨[(.object "java/lang/String")], some (.object "java/lang/String")⟩ := by decide +kernel
theorem pd_16 : parseMethodDescriptor "(Ljava/lang/Object;)Z" = some ⟨[(.object "java/lang/Object")], some .boolean⟩ := by decide +kernel
theorem pd_17 : parseMethodDescriptor "(CC)Z" = some ⟨[.char, .char], some .boolean⟩ := by decide +kernel
def Q0 (Z : State) (p1 : Int32) (p2 : Int32) (p3 : Int32) (p4 : Int32) (p5 : Int32) (zc : Int32) (h0 : Heap) (n0 : Nat) (v : Option Value) (h : Heap) : Prop :=
  (v = some (.int (1 : Int32)))
theorem ef_0 (m : MethodId) (p1 : Int32) (p2 : Int32) (p3 : Int32) (p4 : Int32) (p5 : Int32) : entryFrame m #[(.int p1), (.int p2), (.int p3), (.int p4), (.int p5)] maxLocals = mkF m 0 #[.val (.int p1), .val (.int p2), .val (.int p3), .val (.int p4), .val (.int p5), .unset, .unset, .unset, .unset, .unset, .unset, .unset, .unset, .unset] [] := by first | (simp [entryFrame, mkF, argsToLocals, Value.category, maxLocals]; done) | rfl
set_option maxRecDepth 65536 in
set_option maxHeartbeats 40000000 in
theorem rm0 (l : Launch) (Z : State) (a0 : Array Value) (hw : ∀ d ∈ tables_1, d.before a0 Z = true) (hEL : EW Z a0 consts_1) (ws : List Jvm.Cond) (p1 : Int32) (p2 : Int32) (p3 : Int32) (p4 : Int32) (p5 : Int32) (zc : Int32) (h0 : Heap) (n0 : Nat) (O0 : Old Z n0 h0) (SF : Start Z zc) :
    MeetsH l x code maxLocals ret ws room_1 24 5248 Z consts_1 #[(.int p1), (.int p2), (.int p3), (.int p4), (.int p5)] h0 n0 (Q0 Z p1 p2 p3 p4 p5 zc h0 n0) := by
  refine MeetsH.of (F := fun m => mkF m 0 #[.val (.int p1), .val (.int p2), .val (.int p3), .val (.int p4), .val (.int p5), .unset, .unset, .unset, .unset, .unset, .unset, .unset, .unset, .unset] []) (plainFor_of_name pn_5) (fun m => ef_0 m p1 p2 p3 p4 p5) ?_
  intro p e s m below meth c T0 hx hby hml hown0 hnm hret hlk hZ hS0 hC0 X0 e0
  have hown : s.vm.findClass "com/example/fuseline/fuseline/CircuitKeyCheckedServicePinLaw" = some m.cls := hown0
  have N0 := Fr.nil n0
  have KC0 := Keep.refl h0 []
  have C0 := CHr.refl hC0
  obtain ⟨z0, hzc, -⟩ := SF
  show Goes _ _ _ _ _ _ (T0.setTop (mkF m 0 #[.val (.int p1), .val (.int p2), .val (.int p3), .val (.int p4), .val (.int p5), .unset, .unset, .unset, .unset, .unset, .unset, .unset, .unset, .unset] []))
  refine own_iloadN X0 hx (hb hby at_0) rfl ?_
  refine own_ldcInt X0 hx hZ hown (hw _ (List.mem_of_getElem? (i := 0) rfl)) (hb hby at_1) ?_
  refine own_iand X0 hx (hb hby at_3) ?_
  refine own_iconst X0 hx (v := (5 : Int32)) (hb hby at_4) rfl ?_
  refine own_irem X0 hx (hb hby at_5) (by decide) ?_
  refine own_istore X0 hx (Ls' := #[.val (.int p1), .val (.int p2), .val (.int p3), .val (.int p4), .val (.int p5), .val (.int ((p1 &&& (2147483647 : Int32)) % (5 : Int32))), .unset, .unset, .unset, .unset, .unset, .unset, .unset, .unset]) (hb hby at_6) rfl ?_
  show Goes _ _ _ _ _ _ (T0.setTop (mkF m 8 #[.val (.int p1), .val (.int p2), .val (.int p3), .val (.int p4), .val (.int p5), .val (.int ((p1 &&& (2147483647 : Int32)) % (5 : Int32))), .unset, .unset, .unset, .unset, .unset, .unset, .unset, .unset] []))
  rcases own_len5 p1 with hn | hn | hn | hn | hn
  ·
    rw [hn]
    show Goes _ _ _ _ _ _ (T0.setTop (mkF m 8 #[.val (.int p1), .val (.int p2), .val (.int p3), .val (.int p4), .val (.int p5), .val (.int (0 : Int32)), .unset, .unset, .unset, .unset, .unset, .unset, .unset, .unset] []))
    refine own_iloadN X0 hx (hb hby at_8) rfl ?_
    refine own_callS X0 hx hZ hown (y := (⟨"com/example/fuseline/fuseline/CircuitKeyCheckedServicePinLaw", "pick", "(I)C"⟩ : MethodName)) (hw _ (List.mem_of_getElem? (i := 1) rfl)) (hw _ (List.mem_of_getElem? (i := 2) rfl)) (hw _ (List.mem_of_getElem? (i := 3) rfl)) (hw _ (List.mem_of_getElem? (i := 4) rfl)) (by decide) (W := 0) (by decide) (by decide) N0 e0 (by rw [hml]; rfl) (argsL := [(.int p2)]) (rest := []) (lenOf pd_13 rfl) (Nat.le_of_eq rfl) (by decide) (by decide) (rm1 l Z a0 hw [] p2 h0 n0 O0) rfl (hb hby at_9) ?_
    intro v1 T1 lc1 X1 N1 hQ1
    obtain ⟨w_1, rfl, hq1_0, e1⟩ := hQ1
    refine own_istore X1 hx (Ls' := #[.val (.int p1), .val (.int p2), .val (.int p3), .val (.int p4), .val (.int p5), .val (.int (0 : Int32)), .val (.int w_1), .unset, .unset, .unset, .unset, .unset, .unset, .unset]) (hb hby at_12) rfl ?_
    refine own_iloadN X1 hx (hb hby at_14) rfl ?_
    refine own_callS X1 hx hZ hown (y := (⟨"com/example/fuseline/fuseline/CircuitKeyCheckedServicePinLaw", "pick", "(I)C"⟩ : MethodName)) (hw _ (List.mem_of_getElem? (i := 1) rfl)) (hw _ (List.mem_of_getElem? (i := 2) rfl)) (hw _ (List.mem_of_getElem? (i := 3) rfl)) (hw _ (List.mem_of_getElem? (i := 4) rfl)) (by decide) (W := 0) (by decide) (by decide) N1 e1 (by rw [hml]; rfl) (argsL := [(.int p3)]) (rest := []) (lenOf pd_13 rfl) (Nat.le_of_eq rfl) (by decide) (by decide) (rm1 l Z a0 hw [] p3 h0 n0 O0) rfl (hb hby at_15) ?_
    intro v2 T2 lc2 X2 N2 hQ2
    obtain ⟨w_2, rfl, hq2_0, e2⟩ := hQ2
    refine own_istore X2 hx (Ls' := #[.val (.int p1), .val (.int p2), .val (.int p3), .val (.int p4), .val (.int p5), .val (.int (0 : Int32)), .val (.int w_1), .val (.int w_2), .unset, .unset, .unset, .unset, .unset, .unset]) (hb hby at_18) rfl ?_
    refine own_iloadN X2 hx (hb hby at_20) rfl ?_
    refine own_callS X2 hx hZ hown (y := (⟨"com/example/fuseline/fuseline/CircuitKeyCheckedServicePinLaw", "pick", "(I)C"⟩ : MethodName)) (hw _ (List.mem_of_getElem? (i := 1) rfl)) (hw _ (List.mem_of_getElem? (i := 2) rfl)) (hw _ (List.mem_of_getElem? (i := 3) rfl)) (hw _ (List.mem_of_getElem? (i := 4) rfl)) (by decide) (W := 0) (by decide) (by decide) N2 e2 (by rw [hml]; rfl) (argsL := [(.int p4)]) (rest := []) (lenOf pd_13 rfl) (Nat.le_of_eq rfl) (by decide) (by decide) (rm1 l Z a0 hw [] p4 h0 n0 O0) rfl (hb hby at_21) ?_
    intro v3 T3 lc3 X3 N3 hQ3
    obtain ⟨w_3, rfl, hq3_0, e3⟩ := hQ3
    refine own_istore X3 hx (Ls' := #[.val (.int p1), .val (.int p2), .val (.int p3), .val (.int p4), .val (.int p5), .val (.int (0 : Int32)), .val (.int w_1), .val (.int w_2), .val (.int w_3), .unset, .unset, .unset, .unset, .unset]) (hb hby at_24) rfl ?_
    refine own_iload X3 hx (hb hby at_26) rfl ?_
    refine own_callS X3 hx hZ hown (y := (⟨"com/example/fuseline/fuseline/CircuitKeyCheckedServicePinLaw", "pick", "(I)C"⟩ : MethodName)) (hw _ (List.mem_of_getElem? (i := 1) rfl)) (hw _ (List.mem_of_getElem? (i := 2) rfl)) (hw _ (List.mem_of_getElem? (i := 3) rfl)) (hw _ (List.mem_of_getElem? (i := 4) rfl)) (by decide) (W := 0) (by decide) (by decide) N3 e3 (by rw [hml]; rfl) (argsL := [(.int p5)]) (rest := []) (lenOf pd_13 rfl) (Nat.le_of_eq rfl) (by decide) (by decide) (rm1 l Z a0 hw [] p5 h0 n0 O0) rfl (hb hby at_28) ?_
    intro v4 T4 lc4 X4 N4 hQ4
    obtain ⟨w_4, rfl, hq4_0, e4⟩ := hQ4
    refine own_istore X4 hx (Ls' := #[.val (.int p1), .val (.int p2), .val (.int p3), .val (.int p4), .val (.int p5), .val (.int (0 : Int32)), .val (.int w_1), .val (.int w_2), .val (.int w_3), .val (.int w_4), .unset, .unset, .unset, .unset]) (hb hby at_31) rfl ?_
    refine own_iload X4 hx (hb hby at_33) rfl ?_
    refine own_newP X4 hx hZ (hw _ (List.mem_of_getElem? (i := 5) rfl)) e4 (hb hby at_35) (by decide) (cap := 0) (by decide) (by decide) (by decide) (by decide) (fun T5 h5 b5 k5 g5 X5 e5 E5 A5 => ?_)
    have ge_b5 : n0 ≤ b5 := Nat.le_trans (own_sz O0) (Nat.le_of_eq g5.symm)
    have sz_b5 : h0.size ≤ b5 := Nat.le_trans KC0.1 (Nat.le_of_eq g5.symm)
    have O6 := O0.ext E5
    have KC6 := KC0.ext E5
    have V5 : Arv Z h5 b5 k5 .char (0 : Int32) [] (.int (0 : Int32)) := A5
    refine own_astore X5 hx (Ls' := #[.val (.int p1), .val (.int p2), .val (.int p3), .val (.int p4), .val (.int p5), .val (.int (0 : Int32)), .val (.int w_1), .val (.int w_2), .val (.int w_3), .val (.int w_4), .val (.ref b5), .unset, .unset, .unset]) (hb hby at_37) rfl rfl ?_
    refine own_iload X5 hx (hb hby at_39) rfl ?_
    refine own_ifYes X5 hx (pc' := 50) (hb hby at_41) ((if0 _ _).trans (flt (by decide : ¬ ((0 : Int32) < (0 : Int32)))).2.2.2) (by decide) (by decide) ?_
    refine own_iload X5 hx (hb hby at_50) rfl ?_
    refine own_iconst X5 hx (v := (1 : Int32)) (hb hby at_52) rfl ?_
    refine own_icmpYes X5 hx (pc' := 62) (hb hby at_53) (flt (by decide : ¬ ((1 : Int32) < (0 : Int32)))).2.2.2 (by decide) (by decide) ?_
    refine own_iload X5 hx (hb hby at_62) rfl ?_
    refine own_iconst X5 hx (v := (2 : Int32)) (hb hby at_64) rfl ?_
    refine own_icmpYes X5 hx (pc' := 74) (hb hby at_65) (flt (by decide : ¬ ((2 : Int32) < (0 : Int32)))).2.2.2 (by decide) (by decide) ?_
    refine own_iload X5 hx (hb hby at_74) rfl ?_
    refine own_iconst X5 hx (v := (3 : Int32)) (hb hby at_76) rfl ?_
    refine own_icmpYes X5 hx (pc' := 86) (hb hby at_77) (flt (by decide : ¬ ((3 : Int32) < (0 : Int32)))).2.2.2 (by decide) (by decide) ?_
    show Goes _ _ _ _ _ _ (T5.setTop (mkF m 86 #[.val (.int p1), .val (.int p2), .val (.int p3), .val (.int p4), .val (.int p5), .val (.int (0 : Int32)), .val (.int w_1), .val (.int w_2), .val (.int w_3), .val (.int w_4), .val (.ref b5), .unset, .unset, .unset] []))
    refine own_new X5 hx hZ hown (hw _ (List.mem_of_getElem? (i := 6) rfl)) (hw _ (List.mem_of_getElem? (i := 7) rfl)) (hw _ (List.mem_of_getElem? (i := 8) rfl)) e5 (hb hby at_86) (by decide) (by decide) (fun T8 h8 b8 g8 X8 e8 E8 A8 D8 => ?_)
    have ge_b8 : n0 ≤ b8 := Nat.le_trans (own_sz O6) (Nat.le_of_eq g8.symm)
    have sz_b8 : h0.size ≤ b8 := Nat.le_trans KC6.1 (Nat.le_of_eq g8.symm)
    have A9_b5 := V5.ext E8
    have O9 := O6.ext E8
    have KC9 := KC6.ext E8
    have F8_value_b8 : Fld Z h8 b8 "java/lang/String" "value" "[B" .null := D8 (Or.inr (hw _ (List.mem_of_getElem? (i := 21) rfl))) (ty := (.array .byte)) (by decide)
    have F8_coder_b8 : Fld Z h8 b8 "java/lang/String" "coder" "B" (.int (0 : Int32)) := D8 (Or.inr (hw _ (List.mem_of_getElem? (i := 22) rfl))) (ty := .byte) (by decide)
    refine own_dup X8 hx (hb hby at_89) rfl ?_
    refine own_aload X8 hx (hb hby at_90) rfl rfl ?_
    show Goes _ _ _ _ _ _ (T8.setTop (mkF m 92 #[.val (.int p1), .val (.int p2), .val (.int p3), .val (.int p4), .val (.int p5), .val (.int (0 : Int32)), .val (.int w_1), .val (.int w_2), .val (.int w_3), .val (.int w_4), .val (.ref b5), .unset, .unset, .unset] [(.ref b5), (.ref b8), (.ref b8)]))
    have Cc10 := C0.trans (CHr.keep KC9 (by simp) C0.1)
    refine own_specialHS X8 hx hZ hown hS0 (Nat.zero_le _) (y := (⟨"java/lang/String", "<init>", "([C)V"⟩ : MethodName)) rfl (hw _ (List.mem_of_getElem? (i := 9) rfl)) (hw _ (List.mem_of_getElem? (i := 10) rfl)) (hw _ (List.mem_of_getElem? (i := 8) rfl)) (hw _ (List.mem_of_getElem? (i := 11) rfl)) (a := b8) hEL Cc10.1 (Safe.keep KC9 (by simp) C0.1 (Safe.new sz_b8)) A8.lt (by decide) (W := 1) (by decide) (by decide) N4 e8 (by rw [hml]; rfl) (argsL := [(.ref b5)]) (rest := [(.ref b8)]) (lenOf pd_14 rfl) (Nat.le_of_eq rfl) (by decide) (by decide) (rm2e l Z a0 hw hEL [] b8 b5 (.null) ((.int (0 : Int32))) k5 zc h8 n0 O9 ⟨z0, hzc, trivial⟩ A8 F8_value_b8 F8_coder_b8 ge_b8 A9_b5) rfl (hb hby at_92) ?_
    intro v11 T11 lc11 k1_11 X11 hS11 hk11_ hZ hown N11 D11 hQ11
    have CC11 := Cc10.trans D11
    obtain rfl := hQ11
    have KB12 := Keep.refl T11.heap []
    refine own_astore X11 hx (Ls' := #[.val (.int p1), .val (.int p2), .val (.int p3), .val (.int p4), .val (.int p5), .val (.int (0 : Int32)), .val (.int w_1), .val (.int w_2), .val (.int w_3), .val (.int w_4), .val (.ref b5), .val (.ref b8), .unset, .unset]) (hb hby at_95) rfl rfl ?_
    refine own_iload X11 hx (hb hby at_97) rfl ?_
    refine own_ifYes X11 hx (pc' := 106) (hb hby at_99) ((if0 _ _).trans (flt (by decide : ¬ ((0 : Int32) < (0 : Int32)))).2.2.2) (by decide) (by decide) ?_
    refine own_iconst X11 hx (v := (0 : Int32)) (hb hby at_106) rfl ?_
    refine own_istore X11 hx (Ls' := #[.val (.int p1), .val (.int p2), .val (.int p3), .val (.int p4), .val (.int p5), .val (.int (0 : Int32)), .val (.int w_1), .val (.int w_2), .val (.int w_3), .val (.int w_4), .val (.ref b5), .val (.ref b8), .val (.int (0 : Int32)), .unset]) (hb hby at_107) rfl ?_
    refine own_iload X11 hx (hb hby at_109) rfl ?_
    refine own_iconst X11 hx (v := (1 : Int32)) (hb hby at_111) rfl ?_
    refine own_icmpYes X11 hx (pc' := 128) (hb hby at_112) (flt (by decide : ¬ ((1 : Int32) < (0 : Int32)))).2.2.2 (by decide) (by decide) ?_
    refine own_iload X11 hx (hb hby at_128) rfl ?_
    refine own_iconst X11 hx (v := (2 : Int32)) (hb hby at_130) rfl ?_
    refine own_icmpYes X11 hx (pc' := 147) (hb hby at_131) (flt (by decide : ¬ ((2 : Int32) < (0 : Int32)))).2.2.2 (by decide) (by decide) ?_
    refine own_iload X11 hx (hb hby at_147) rfl ?_
    refine own_iconst X11 hx (v := (3 : Int32)) (hb hby at_149) rfl ?_
    refine own_icmpYes X11 hx (pc' := 166) (hb hby at_150) (flt (by decide : ¬ ((3 : Int32) < (0 : Int32)))).2.2.2 (by decide) (by decide) ?_
    refine own_iload X11 hx (hb hby at_166) rfl ?_
    refine own_ifYes X11 hx (pc' := 186) (hb hby at_168) ((if0 _ _).trans (flt (by decide : ¬ ((0 : Int32) < (0 : Int32)))).2.2.2) (by decide) (by decide) ?_
    refine own_iload X11 hx (hb hby at_186) rfl ?_
    refine own_ifNo X11 hx (hb hby at_188) ((if0 _ _).trans (teq (by decide : (0 : Int32) = (0 : Int32))).2) ?_
    refine own_iconst X11 hx (v := (1 : Int32)) (hb hby at_191) rfl ?_
    show Goes _ _ _ _ _ _ (T11.setTop (mkF m 192 #[.val (.int p1), .val (.int p2), .val (.int p3), .val (.int p4), .val (.int p5), .val (.int (0 : Int32)), .val (.int w_1), .val (.int w_2), .val (.int w_3), .val (.int w_4), .val (.ref b5), .val (.ref b8), .val (.int (0 : Int32)), .unset] [(.int (1 : Int32))]))
    exact own_retNH X11 hx (t := .boolean) hS11 hk11_ hZ hEL CC11 N11 hlk (by decide) (by decide) hret (by simp) (hb hby at_192) (rfl)
  ·
    rw [hn]
    show Goes _ _ _ _ _ _ (T0.setTop (mkF m 8 #[.val (.int p1), .val (.int p2), .val (.int p3), .val (.int p4), .val (.int p5), .val (.int (1 : Int32)), .unset, .unset, .unset, .unset, .unset, .unset, .unset, .unset] []))
    refine own_iloadN X0 hx (hb hby at_8) rfl ?_
    refine own_callS X0 hx hZ hown (y := (⟨"com/example/fuseline/fuseline/CircuitKeyCheckedServicePinLaw", "pick", "(I)C"⟩ : MethodName)) (hw _ (List.mem_of_getElem? (i := 1) rfl)) (hw _ (List.mem_of_getElem? (i := 2) rfl)) (hw _ (List.mem_of_getElem? (i := 3) rfl)) (hw _ (List.mem_of_getElem? (i := 4) rfl)) (by decide) (W := 0) (by decide) (by decide) N0 e0 (by rw [hml]; rfl) (argsL := [(.int p2)]) (rest := []) (lenOf pd_13 rfl) (Nat.le_of_eq rfl) (by decide) (by decide) (rm1 l Z a0 hw [] p2 h0 n0 O0) rfl (hb hby at_9) ?_
    intro v13 T13 lc13 X13 N13 hQ13
    obtain ⟨w_13, rfl, hq13_0, e13⟩ := hQ13
    refine own_istore X13 hx (Ls' := #[.val (.int p1), .val (.int p2), .val (.int p3), .val (.int p4), .val (.int p5), .val (.int (1 : Int32)), .val (.int w_13), .unset, .unset, .unset, .unset, .unset, .unset, .unset]) (hb hby at_12) rfl ?_
    refine own_iloadN X13 hx (hb hby at_14) rfl ?_
    refine own_callS X13 hx hZ hown (y := (⟨"com/example/fuseline/fuseline/CircuitKeyCheckedServicePinLaw", "pick", "(I)C"⟩ : MethodName)) (hw _ (List.mem_of_getElem? (i := 1) rfl)) (hw _ (List.mem_of_getElem? (i := 2) rfl)) (hw _ (List.mem_of_getElem? (i := 3) rfl)) (hw _ (List.mem_of_getElem? (i := 4) rfl)) (by decide) (W := 0) (by decide) (by decide) N13 e13 (by rw [hml]; rfl) (argsL := [(.int p3)]) (rest := []) (lenOf pd_13 rfl) (Nat.le_of_eq rfl) (by decide) (by decide) (rm1 l Z a0 hw [] p3 h0 n0 O0) rfl (hb hby at_15) ?_
    intro v14 T14 lc14 X14 N14 hQ14
    obtain ⟨w_14, rfl, hq14_0, e14⟩ := hQ14
    refine own_istore X14 hx (Ls' := #[.val (.int p1), .val (.int p2), .val (.int p3), .val (.int p4), .val (.int p5), .val (.int (1 : Int32)), .val (.int w_13), .val (.int w_14), .unset, .unset, .unset, .unset, .unset, .unset]) (hb hby at_18) rfl ?_
    refine own_iloadN X14 hx (hb hby at_20) rfl ?_
    refine own_callS X14 hx hZ hown (y := (⟨"com/example/fuseline/fuseline/CircuitKeyCheckedServicePinLaw", "pick", "(I)C"⟩ : MethodName)) (hw _ (List.mem_of_getElem? (i := 1) rfl)) (hw _ (List.mem_of_getElem? (i := 2) rfl)) (hw _ (List.mem_of_getElem? (i := 3) rfl)) (hw _ (List.mem_of_getElem? (i := 4) rfl)) (by decide) (W := 0) (by decide) (by decide) N14 e14 (by rw [hml]; rfl) (argsL := [(.int p4)]) (rest := []) (lenOf pd_13 rfl) (Nat.le_of_eq rfl) (by decide) (by decide) (rm1 l Z a0 hw [] p4 h0 n0 O0) rfl (hb hby at_21) ?_
    intro v15 T15 lc15 X15 N15 hQ15
    obtain ⟨w_15, rfl, hq15_0, e15⟩ := hQ15
    refine own_istore X15 hx (Ls' := #[.val (.int p1), .val (.int p2), .val (.int p3), .val (.int p4), .val (.int p5), .val (.int (1 : Int32)), .val (.int w_13), .val (.int w_14), .val (.int w_15), .unset, .unset, .unset, .unset, .unset]) (hb hby at_24) rfl ?_
    refine own_iload X15 hx (hb hby at_26) rfl ?_
    refine own_callS X15 hx hZ hown (y := (⟨"com/example/fuseline/fuseline/CircuitKeyCheckedServicePinLaw", "pick", "(I)C"⟩ : MethodName)) (hw _ (List.mem_of_getElem? (i := 1) rfl)) (hw _ (List.mem_of_getElem? (i := 2) rfl)) (hw _ (List.mem_of_getElem? (i := 3) rfl)) (hw _ (List.mem_of_getElem? (i := 4) rfl)) (by decide) (W := 0) (by decide) (by decide) N15 e15 (by rw [hml]; rfl) (argsL := [(.int p5)]) (rest := []) (lenOf pd_13 rfl) (Nat.le_of_eq rfl) (by decide) (by decide) (rm1 l Z a0 hw [] p5 h0 n0 O0) rfl (hb hby at_28) ?_
    intro v16 T16 lc16 X16 N16 hQ16
    obtain ⟨w_16, rfl, hq16_0, e16⟩ := hQ16
    refine own_istore X16 hx (Ls' := #[.val (.int p1), .val (.int p2), .val (.int p3), .val (.int p4), .val (.int p5), .val (.int (1 : Int32)), .val (.int w_13), .val (.int w_14), .val (.int w_15), .val (.int w_16), .unset, .unset, .unset, .unset]) (hb hby at_31) rfl ?_
    refine own_iload X16 hx (hb hby at_33) rfl ?_
    refine own_newP X16 hx hZ (hw _ (List.mem_of_getElem? (i := 5) rfl)) e16 (hb hby at_35) (by decide) (cap := 1) (by decide) (by decide) (by decide) (by decide) (fun T17 h17 b17 k17 g17 X17 e17 E17 A17 => ?_)
    have ge_b17 : n0 ≤ b17 := Nat.le_trans (own_sz O0) (Nat.le_of_eq g17.symm)
    have sz_b17 : h0.size ≤ b17 := Nat.le_trans KC0.1 (Nat.le_of_eq g17.symm)
    have O18 := O0.ext E17
    have KC18 := KC0.ext E17
    have V17 : Arv Z h17 b17 k17 .char (1 : Int32) [(.int (0 : Int32))] (.int (0 : Int32)) := A17.pad (pad_rep [] (.int (0 : Int32)) 1)
    refine own_astore X17 hx (Ls' := #[.val (.int p1), .val (.int p2), .val (.int p3), .val (.int p4), .val (.int p5), .val (.int (1 : Int32)), .val (.int w_13), .val (.int w_14), .val (.int w_15), .val (.int w_16), .val (.ref b17), .unset, .unset, .unset]) (hb hby at_37) rfl rfl ?_
    refine own_iload X17 hx (hb hby at_39) rfl ?_
    refine own_ifNo X17 hx (hb hby at_41) ((if0 _ _).trans (tlt (by decide : (0 : Int32) < (1 : Int32))).2.2.2) ?_
    refine own_aload X17 hx (hb hby at_44) rfl rfl ?_
    refine own_iconst X17 hx (v := (0 : Int32)) (hb hby at_46) rfl ?_
    refine own_iload X17 hx (hb hby at_47) rfl ?_
    refine own_castore X17 hx hZ N16 e17 V17 ⟨by decide, by decide⟩ (i := 0) rfl (by first | decide | (simp; done)) ge_b17 (hb hby at_49) (fun T19 h19 lc19 X19 e19 N19 W19 V19 => ?_)
    have O20 := O18.wr W19 ge_b17
    have KC20 := KC18.wr W19 (Or.inr sz_b17)
    have V19' : Arv Z h19 b17 k17 .char (1 : Int32) [(.int (nar .char w_13))] (.int (0 : Int32)) := V19
    refine own_iload X19 hx (hb hby at_50) rfl ?_
    refine own_iconst X19 hx (v := (1 : Int32)) (hb hby at_52) rfl ?_
    refine own_icmpYes X19 hx (pc' := 62) (hb hby at_53) (flt (by decide : ¬ ((1 : Int32) < (1 : Int32)))).2.2.2 (by decide) (by decide) ?_
    refine own_iload X19 hx (hb hby at_62) rfl ?_
    refine own_iconst X19 hx (v := (2 : Int32)) (hb hby at_64) rfl ?_
    refine own_icmpYes X19 hx (pc' := 74) (hb hby at_65) (flt (by decide : ¬ ((2 : Int32) < (1 : Int32)))).2.2.2 (by decide) (by decide) ?_
    refine own_iload X19 hx (hb hby at_74) rfl ?_
    refine own_iconst X19 hx (v := (3 : Int32)) (hb hby at_76) rfl ?_
    refine own_icmpYes X19 hx (pc' := 86) (hb hby at_77) (flt (by decide : ¬ ((3 : Int32) < (1 : Int32)))).2.2.2 (by decide) (by decide) ?_
    show Goes _ _ _ _ _ _ (T19.setTop (mkF m 86 #[.val (.int p1), .val (.int p2), .val (.int p3), .val (.int p4), .val (.int p5), .val (.int (1 : Int32)), .val (.int w_13), .val (.int w_14), .val (.int w_15), .val (.int w_16), .val (.ref b17), .unset, .unset, .unset] []))
    have VA21 : Arv Z h19 b17 k17 .char (1 : Int32) [(.int w_13)] (.int (0 : Int32)) := by
      have V := V19'
      rw [own_nar hq13_0] at V
      exact V
    refine own_new X19 hx hZ hown (hw _ (List.mem_of_getElem? (i := 6) rfl)) (hw _ (List.mem_of_getElem? (i := 7) rfl)) (hw _ (List.mem_of_getElem? (i := 8) rfl)) e19 (hb hby at_86) (by decide) (by decide) (fun T22 h22 b22 g22 X22 e22 E22 A22 D22 => ?_)
    have ne_b17_b22 : b17 ≠ b22 := Nat.ne_of_lt (Nat.lt_of_lt_of_le VA21.lt (Nat.le_of_eq g22.symm))
    have ge_b22 : n0 ≤ b22 := Nat.le_trans (own_sz O20) (Nat.le_of_eq g22.symm)
    have sz_b22 : h0.size ≤ b22 := Nat.le_trans KC20.1 (Nat.le_of_eq g22.symm)
    have A23_b17 := VA21.ext E22
    have O23 := O20.ext E22
    have KC23 := KC20.ext E22
    have F22_value_b22 : Fld Z h22 b22 "java/lang/String" "value" "[B" .null := D22 (Or.inr (hw _ (List.mem_of_getElem? (i := 21) rfl))) (ty := (.array .byte)) (by decide)
    have F22_coder_b22 : Fld Z h22 b22 "java/lang/String" "coder" "B" (.int (0 : Int32)) := D22 (Or.inr (hw _ (List.mem_of_getElem? (i := 22) rfl))) (ty := .byte) (by decide)
    refine own_dup X22 hx (hb hby at_89) rfl ?_
    refine own_aload X22 hx (hb hby at_90) rfl rfl ?_
    show Goes _ _ _ _ _ _ (T22.setTop (mkF m 92 #[.val (.int p1), .val (.int p2), .val (.int p3), .val (.int p4), .val (.int p5), .val (.int (1 : Int32)), .val (.int w_13), .val (.int w_14), .val (.int w_15), .val (.int w_16), .val (.ref b17), .unset, .unset, .unset] [(.ref b17), (.ref b22), (.ref b22)]))
    refine own_strNew X22 hx hZ hown (hw _ (List.mem_of_getElem? (i := 9) rfl)) (hw _ (List.mem_of_getElem? (i := 10) rfl)) (hw _ (List.mem_of_getElem? (i := 11) rfl)) (own_wNew hw) (hw _ (List.mem_of_getElem? (i := 7) rfl)) (cs := [w_13]) N19 e22 ge_b22 (own_sz O23) A22 F22_value_b22 F22_coder_b22 (n := 1) rfl (by decide +kernel) A23_b17 (z0.ext O23.2) hzc (by decide) (by decide) (by simp only [List.mem_cons, List.not_mem_nil, or_false, forall_eq]; exact hq13_0) (W := 1) (rest := [(.ref b22)]) (by decide) (by decide) (by rw [hml]; rfl) (Nat.le_of_eq rfl) (by decide) (by decide) (hb hby at_92) (fun T24 lc24 h24 X24 e24 N24 K24 I24 => ?_)
    have E25_b22 := A22.keep K24
    have A25_b17 := A23_b17.keep K24 (ninS ne_b17_b22 nin0)
    have O25 := O23.keep K24 (allS ge_b22 all0)
    have KC25 := KC23.trans K24 (allS (Or.inr sz_b22) all0)
    obtain ⟨t24, kb24, UE24, UV24, UC24, UA24, -⟩ := id I24
    have UB24 : Arv Z h24 t24 kb24 .byte (1 : Int32) [(.int (w_13.toInt8.toInt32))] (.int (0 : Int32)) := UA24
    refine own_astore X24 hx (Ls' := #[.val (.int p1), .val (.int p2), .val (.int p3), .val (.int p4), .val (.int p5), .val (.int (1 : Int32)), .val (.int w_13), .val (.int w_14), .val (.int w_15), .val (.int w_16), .val (.ref b17), .val (.ref b22), .unset, .unset]) (hb hby at_95) rfl rfl ?_
    refine own_iload X24 hx (hb hby at_97) rfl ?_
    refine own_ifNo X24 hx (hb hby at_99) ((if0 _ _).trans (tlt (by decide : (0 : Int32) < (1 : Int32))).2.2.2) ?_
    refine own_iconst X24 hx (v := (1 : Int32)) (hb hby at_102) rfl ?_
    refine own_goto X24 hx (pc' := 107) (hb hby at_103) (by decide) (by decide) ?_
    refine own_istore X24 hx (Ls' := #[.val (.int p1), .val (.int p2), .val (.int p3), .val (.int p4), .val (.int p5), .val (.int (1 : Int32)), .val (.int w_13), .val (.int w_14), .val (.int w_15), .val (.int w_16), .val (.ref b17), .val (.ref b22), .val (.int (1 : Int32)), .unset]) (hb hby at_107) rfl ?_
    refine own_iload X24 hx (hb hby at_109) rfl ?_
    refine own_iconst X24 hx (v := (1 : Int32)) (hb hby at_111) rfl ?_
    show Goes _ _ _ _ _ _ (T24.setTop (mkF m 112 #[.val (.int p1), .val (.int p2), .val (.int p3), .val (.int p4), .val (.int p5), .val (.int (1 : Int32)), .val (.int w_13), .val (.int w_14), .val (.int w_15), .val (.int w_16), .val (.ref b17), .val (.ref b22), .val (.int (1 : Int32)), .unset] [(.int (1 : Int32)), (.int (1 : Int32))]))
    refine own_icmpYes X24 hx (pc' := 128) (hb hby at_112) (flt (by decide : ¬ ((1 : Int32) < (1 : Int32)))).2.2.2 (by decide) (by decide) ?_
    refine own_iload X24 hx (hb hby at_128) rfl ?_
    refine own_iconst X24 hx (v := (2 : Int32)) (hb hby at_130) rfl ?_
    refine own_icmpYes X24 hx (pc' := 147) (hb hby at_131) (flt (by decide : ¬ ((2 : Int32) < (1 : Int32)))).2.2.2 (by decide) (by decide) ?_
    refine own_iload X24 hx (hb hby at_147) rfl ?_
    refine own_iconst X24 hx (v := (3 : Int32)) (hb hby at_149) rfl ?_
    refine own_icmpYes X24 hx (pc' := 166) (hb hby at_150) (flt (by decide : ¬ ((3 : Int32) < (1 : Int32)))).2.2.2 (by decide) (by decide) ?_
    refine own_iload X24 hx (hb hby at_166) rfl ?_
    refine own_ifNo X24 hx (hb hby at_168) ((if0 _ _).trans (tlt (by decide : (0 : Int32) < (1 : Int32))).2.2.2) ?_
    refine own_aload X24 hx (hb hby at_171) rfl rfl ?_
    refine own_iload X24 hx (hb hby at_173) rfl ?_
    refine own_iconst X24 hx (v := (1 : Int32)) (hb hby at_175) rfl ?_
    refine own_isub X24 hx (hb hby at_176) ?_
    refine own_caload X24 hx hZ e24 A25_b17 ⟨by decide, by decide⟩ (v := (.int w_13)) rfl (hb hby at_177) ?_
    show Goes _ _ _ _ _ _ (T24.setTop (mkF m 178 #[.val (.int p1), .val (.int p2), .val (.int p3), .val (.int p4), .val (.int p5), .val (.int (1 : Int32)), .val (.int w_13), .val (.int w_14), .val (.int w_15), .val (.int w_16), .val (.ref b17), .val (.ref b22), .val (.int (1 : Int32)), .unset] [(.int w_13)]))
    refine own_bipush X24 hx (v := (58 : Int32)) (hb hby at_178) rfl ?_
    by_cases hc180_26 : w_13 = (58 : Int32)
    ·
      refine own_icmpNo X24 hx (hb hby at_180) (teq (hc180_26 : w_13 = (58 : Int32))).2 ?_
      refine own_iconst X24 hx (v := (0 : Int32)) (hb hby at_183) rfl ?_
      refine own_istore X24 hx (Ls' := #[.val (.int p1), .val (.int p2), .val (.int p3), .val (.int p4), .val (.int p5), .val (.int (1 : Int32)), .val (.int w_13), .val (.int w_14), .val (.int w_15), .val (.int w_16), .val (.ref b17), .val (.ref b22), .val (.int (0 : Int32)), .unset]) (hb hby at_184) rfl ?_
      refine own_iload X24 hx (hb hby at_186) rfl ?_
      refine own_ifNo X24 hx (hb hby at_188) ((if0 _ _).trans (teq (by decide : (0 : Int32) = (0 : Int32))).2) ?_
      refine own_iconst X24 hx (v := (1 : Int32)) (hb hby at_191) rfl ?_
      show Goes _ _ _ _ _ _ (T24.setTop (mkF m 192 #[.val (.int p1), .val (.int p2), .val (.int p3), .val (.int p4), .val (.int p5), .val (.int (1 : Int32)), .val (.int w_13), .val (.int w_14), .val (.int w_15), .val (.int w_16), .val (.ref b17), .val (.ref b22), .val (.int (0 : Int32)), .unset] [(.int (1 : Int32))]))
      have Cc27 := C0.trans (CHr.keep KC25 (by simp) C0.1)
      exact own_retNH X24 hx (t := .boolean) hS0 (Nat.zero_le _) hZ hEL (by rw [e24]; exact Cc27) N24 hlk (by decide) (by decide) hret (by simp) (hb hby at_192) (by rw [e24]; exact rfl)
    ·
      refine own_icmpYes X24 hx (pc' := 186) (hb hby at_180) (feq (hc180_26 : ¬ (w_13 = (58 : Int32)))).2 (by decide) (by decide) ?_
      refine own_iload X24 hx (hb hby at_186) rfl ?_
      refine own_ifYes X24 hx (pc' := 193) (hb hby at_188) ((if0 _ _).trans (feq (by decide : ¬ ((1 : Int32) = (0 : Int32)))).2) (by decide) (by decide) ?_
      refine own_aload X24 hx (hb hby at_193) rfl rfl ?_
      have Cc28 := C0.trans (CHr.keep KC25 (by simp) C0.1)
      refine own_callSH X24 hx hZ hown hS0 (Nat.zero_le _) (y := (⟨"com/example/fuseline/fuseline/CircuitKey", "checkedService", "(Ljava/lang/String;)Ljava/lang/String;"⟩ : MethodName)) (hw _ (List.mem_of_getElem? (i := 41) rfl)) (hw _ (List.mem_of_getElem? (i := 42) rfl)) (hw _ (List.mem_of_getElem? (i := 43) rfl)) (hw _ (List.mem_of_getElem? (i := 44) rfl)) hEL Cc28.1 (by decide) (W := 0) (by decide) (by decide) N24 e24 (by rw [hml]; rfl) (argsL := [(.ref b22)]) (rest := []) (lenOf pd_15 rfl) (Nat.le_of_eq rfl) (by decide) (by decide) (rm91 l Z a0 hw hEL [] b22 t24 kb24 (w_13.toInt8.toInt32) zc h24 n0 O25 ⟨z0, hzc, trivial⟩ E25_b22 UV24 UC24 UB24 (own_pe hq13_0 hc180_26)) rfl (hb hby at_195) ?_
      intro v29 T29 lc29 k1_29 X29 hS29 hk29_ hZ hown N29 D29 hQ29
      have CC29 := Cc28.trans D29
      obtain ⟨rfl, K29⟩ := hQ29
      have E30_b22 := E25_b22.keep K29
      have O30 := O25.keep K29 all0
      have KC30 := KC25.trans K29 all0
      have KB31 := Keep.refl T29.heap []
      refine own_astore X29 hx (Ls' := #[.val (.int p1), .val (.int p2), .val (.int p3), .val (.int p4), .val (.int p5), .val (.int (1 : Int32)), .val (.int w_13), .val (.int w_14), .val (.int w_15), .val (.int w_16), .val (.ref b17), .val (.ref b22), .val (.int (1 : Int32)), .val (.ref b22)]) (hb hby at_198) rfl rfl ?_
      refine own_aload X29 hx (hb hby at_200) rfl rfl ?_
      refine own_aload X29 hx (hb hby at_202) rfl rfl ?_
      refine own_virtual X29 hx hZ hown (y := (⟨"java/lang/String", "equals", "(Ljava/lang/Object;)Z"⟩ : MethodName)) (z := (⟨"java/lang/String", "equals", "(Ljava/lang/Object;)Z"⟩ : MethodName)) (hw _ (List.mem_of_getElem? (i := 116) rfl)) (hw _ (List.mem_of_getElem? (i := 117) rfl)) (notFace_of_selects (args := #[]) (mvT hZ (hw _ (List.mem_of_getElem? (i := 119) rfl)))) (hw _ (List.mem_of_getElem? (i := 119) rfl)) (hw _ (List.mem_of_getElem? (i := 118) rfl)) (hw _ (List.mem_of_getElem? (i := 8) rfl)) (hw _ (List.mem_of_getElem? (i := 120) rfl)) (a := b22) E30_b22 (by decide) (W := 0) (by decide) (by decide) N29 rfl (by rw [hml]; rfl) (argsL := [(.ref b22)]) (rest := []) (lenOf pd_16 rfl) (Nat.le_of_eq rfl) (by decide) (by decide) (rm24 l Z a0 hw [] b22 b22 T29.heap n0 O30) rfl (hb hby at_204) ?_
      intro v32 T32 lc32 X32 N32 hQ32
      obtain ⟨rfl, e32⟩ := hQ32
      show Goes _ _ _ _ _ _ (T32.setTop (mkF m 207 #[.val (.int p1), .val (.int p2), .val (.int p3), .val (.int p4), .val (.int p5), .val (.int (1 : Int32)), .val (.int w_13), .val (.int w_14), .val (.int w_15), .val (.int w_16), .val (.ref b17), .val (.ref b22), .val (.int (1 : Int32)), .val (.ref b22)] [(.int (1 : Int32))]))
      exact own_retNH X32 hx (t := .boolean) hS29 (by rw [e32]; exact hk29_) hZ hEL (by rw [e32]; exact CC29) N32 hlk (by decide) (by decide) hret (by simp) (hb hby at_207) (by rw [e32]; exact rfl)
  ·
    rw [hn]
    show Goes _ _ _ _ _ _ (T0.setTop (mkF m 8 #[.val (.int p1), .val (.int p2), .val (.int p3), .val (.int p4), .val (.int p5), .val (.int (2 : Int32)), .unset, .unset, .unset, .unset, .unset, .unset, .unset, .unset] []))
    refine own_iloadN X0 hx (hb hby at_8) rfl ?_
    refine own_callS X0 hx hZ hown (y := (⟨"com/example/fuseline/fuseline/CircuitKeyCheckedServicePinLaw", "pick", "(I)C"⟩ : MethodName)) (hw _ (List.mem_of_getElem? (i := 1) rfl)) (hw _ (List.mem_of_getElem? (i := 2) rfl)) (hw _ (List.mem_of_getElem? (i := 3) rfl)) (hw _ (List.mem_of_getElem? (i := 4) rfl)) (by decide) (W := 0) (by decide) (by decide) N0 e0 (by rw [hml]; rfl) (argsL := [(.int p2)]) (rest := []) (lenOf pd_13 rfl) (Nat.le_of_eq rfl) (by decide) (by decide) (rm1 l Z a0 hw [] p2 h0 n0 O0) rfl (hb hby at_9) ?_
    intro v33 T33 lc33 X33 N33 hQ33
    obtain ⟨w_33, rfl, hq33_0, e33⟩ := hQ33
    refine own_istore X33 hx (Ls' := #[.val (.int p1), .val (.int p2), .val (.int p3), .val (.int p4), .val (.int p5), .val (.int (2 : Int32)), .val (.int w_33), .unset, .unset, .unset, .unset, .unset, .unset, .unset]) (hb hby at_12) rfl ?_
    refine own_iloadN X33 hx (hb hby at_14) rfl ?_
    refine own_callS X33 hx hZ hown (y := (⟨"com/example/fuseline/fuseline/CircuitKeyCheckedServicePinLaw", "pick", "(I)C"⟩ : MethodName)) (hw _ (List.mem_of_getElem? (i := 1) rfl)) (hw _ (List.mem_of_getElem? (i := 2) rfl)) (hw _ (List.mem_of_getElem? (i := 3) rfl)) (hw _ (List.mem_of_getElem? (i := 4) rfl)) (by decide) (W := 0) (by decide) (by decide) N33 e33 (by rw [hml]; rfl) (argsL := [(.int p3)]) (rest := []) (lenOf pd_13 rfl) (Nat.le_of_eq rfl) (by decide) (by decide) (rm1 l Z a0 hw [] p3 h0 n0 O0) rfl (hb hby at_15) ?_
    intro v34 T34 lc34 X34 N34 hQ34
    obtain ⟨w_34, rfl, hq34_0, e34⟩ := hQ34
    refine own_istore X34 hx (Ls' := #[.val (.int p1), .val (.int p2), .val (.int p3), .val (.int p4), .val (.int p5), .val (.int (2 : Int32)), .val (.int w_33), .val (.int w_34), .unset, .unset, .unset, .unset, .unset, .unset]) (hb hby at_18) rfl ?_
    refine own_iloadN X34 hx (hb hby at_20) rfl ?_
    refine own_callS X34 hx hZ hown (y := (⟨"com/example/fuseline/fuseline/CircuitKeyCheckedServicePinLaw", "pick", "(I)C"⟩ : MethodName)) (hw _ (List.mem_of_getElem? (i := 1) rfl)) (hw _ (List.mem_of_getElem? (i := 2) rfl)) (hw _ (List.mem_of_getElem? (i := 3) rfl)) (hw _ (List.mem_of_getElem? (i := 4) rfl)) (by decide) (W := 0) (by decide) (by decide) N34 e34 (by rw [hml]; rfl) (argsL := [(.int p4)]) (rest := []) (lenOf pd_13 rfl) (Nat.le_of_eq rfl) (by decide) (by decide) (rm1 l Z a0 hw [] p4 h0 n0 O0) rfl (hb hby at_21) ?_
    intro v35 T35 lc35 X35 N35 hQ35
    obtain ⟨w_35, rfl, hq35_0, e35⟩ := hQ35
    refine own_istore X35 hx (Ls' := #[.val (.int p1), .val (.int p2), .val (.int p3), .val (.int p4), .val (.int p5), .val (.int (2 : Int32)), .val (.int w_33), .val (.int w_34), .val (.int w_35), .unset, .unset, .unset, .unset, .unset]) (hb hby at_24) rfl ?_
    refine own_iload X35 hx (hb hby at_26) rfl ?_
    refine own_callS X35 hx hZ hown (y := (⟨"com/example/fuseline/fuseline/CircuitKeyCheckedServicePinLaw", "pick", "(I)C"⟩ : MethodName)) (hw _ (List.mem_of_getElem? (i := 1) rfl)) (hw _ (List.mem_of_getElem? (i := 2) rfl)) (hw _ (List.mem_of_getElem? (i := 3) rfl)) (hw _ (List.mem_of_getElem? (i := 4) rfl)) (by decide) (W := 0) (by decide) (by decide) N35 e35 (by rw [hml]; rfl) (argsL := [(.int p5)]) (rest := []) (lenOf pd_13 rfl) (Nat.le_of_eq rfl) (by decide) (by decide) (rm1 l Z a0 hw [] p5 h0 n0 O0) rfl (hb hby at_28) ?_
    intro v36 T36 lc36 X36 N36 hQ36
    obtain ⟨w_36, rfl, hq36_0, e36⟩ := hQ36
    refine own_istore X36 hx (Ls' := #[.val (.int p1), .val (.int p2), .val (.int p3), .val (.int p4), .val (.int p5), .val (.int (2 : Int32)), .val (.int w_33), .val (.int w_34), .val (.int w_35), .val (.int w_36), .unset, .unset, .unset, .unset]) (hb hby at_31) rfl ?_
    refine own_iload X36 hx (hb hby at_33) rfl ?_
    refine own_newP X36 hx hZ (hw _ (List.mem_of_getElem? (i := 5) rfl)) e36 (hb hby at_35) (by decide) (cap := 2) (by decide) (by decide) (by decide) (by decide) (fun T37 h37 b37 k37 g37 X37 e37 E37 A37 => ?_)
    have ge_b37 : n0 ≤ b37 := Nat.le_trans (own_sz O0) (Nat.le_of_eq g37.symm)
    have sz_b37 : h0.size ≤ b37 := Nat.le_trans KC0.1 (Nat.le_of_eq g37.symm)
    have O38 := O0.ext E37
    have KC38 := KC0.ext E37
    have V37 : Arv Z h37 b37 k37 .char (2 : Int32) [(.int (0 : Int32)), (.int (0 : Int32))] (.int (0 : Int32)) := A37.pad (pad_rep [] (.int (0 : Int32)) 2)
    refine own_astore X37 hx (Ls' := #[.val (.int p1), .val (.int p2), .val (.int p3), .val (.int p4), .val (.int p5), .val (.int (2 : Int32)), .val (.int w_33), .val (.int w_34), .val (.int w_35), .val (.int w_36), .val (.ref b37), .unset, .unset, .unset]) (hb hby at_37) rfl rfl ?_
    refine own_iload X37 hx (hb hby at_39) rfl ?_
    refine own_ifNo X37 hx (hb hby at_41) ((if0 _ _).trans (tlt (by decide : (0 : Int32) < (2 : Int32))).2.2.2) ?_
    refine own_aload X37 hx (hb hby at_44) rfl rfl ?_
    refine own_iconst X37 hx (v := (0 : Int32)) (hb hby at_46) rfl ?_
    refine own_iload X37 hx (hb hby at_47) rfl ?_
    refine own_castore X37 hx hZ N36 e37 V37 ⟨by decide, by decide⟩ (i := 0) rfl (by first | decide | (simp; done)) ge_b37 (hb hby at_49) (fun T39 h39 lc39 X39 e39 N39 W39 V39 => ?_)
    have O40 := O38.wr W39 ge_b37
    have KC40 := KC38.wr W39 (Or.inr sz_b37)
    have V39' : Arv Z h39 b37 k37 .char (2 : Int32) [(.int (nar .char w_33)), (.int (0 : Int32))] (.int (0 : Int32)) := V39
    refine own_iload X39 hx (hb hby at_50) rfl ?_
    refine own_iconst X39 hx (v := (1 : Int32)) (hb hby at_52) rfl ?_
    refine own_icmpNo X39 hx (hb hby at_53) (tlt (by decide : (1 : Int32) < (2 : Int32))).2.2.2 ?_
    refine own_aload X39 hx (hb hby at_56) rfl rfl ?_
    refine own_iconst X39 hx (v := (1 : Int32)) (hb hby at_58) rfl ?_
    refine own_iload X39 hx (hb hby at_59) rfl ?_
    refine own_castore X39 hx hZ N39 e39 V39' ⟨by decide, by decide⟩ (i := 1) rfl (by first | decide | (simp; done)) ge_b37 (hb hby at_61) (fun T41 h41 lc41 X41 e41 N41 W41 V41 => ?_)
    have O42 := O40.wr W41 ge_b37
    have KC42 := KC40.wr W41 (Or.inr sz_b37)
    have V41' : Arv Z h41 b37 k37 .char (2 : Int32) [(.int (nar .char w_33)), (.int (nar .char w_34))] (.int (0 : Int32)) := V41
    refine own_iload X41 hx (hb hby at_62) rfl ?_
    refine own_iconst X41 hx (v := (2 : Int32)) (hb hby at_64) rfl ?_
    refine own_icmpYes X41 hx (pc' := 74) (hb hby at_65) (flt (by decide : ¬ ((2 : Int32) < (2 : Int32)))).2.2.2 (by decide) (by decide) ?_
    refine own_iload X41 hx (hb hby at_74) rfl ?_
    refine own_iconst X41 hx (v := (3 : Int32)) (hb hby at_76) rfl ?_
    refine own_icmpYes X41 hx (pc' := 86) (hb hby at_77) (flt (by decide : ¬ ((3 : Int32) < (2 : Int32)))).2.2.2 (by decide) (by decide) ?_
    show Goes _ _ _ _ _ _ (T41.setTop (mkF m 86 #[.val (.int p1), .val (.int p2), .val (.int p3), .val (.int p4), .val (.int p5), .val (.int (2 : Int32)), .val (.int w_33), .val (.int w_34), .val (.int w_35), .val (.int w_36), .val (.ref b37), .unset, .unset, .unset] []))
    have VA43 : Arv Z h41 b37 k37 .char (2 : Int32) [(.int w_33), (.int w_34)] (.int (0 : Int32)) := by
      have V := V41'
      rw [own_nar hq33_0, own_nar hq34_0] at V
      exact V
    refine own_new X41 hx hZ hown (hw _ (List.mem_of_getElem? (i := 6) rfl)) (hw _ (List.mem_of_getElem? (i := 7) rfl)) (hw _ (List.mem_of_getElem? (i := 8) rfl)) e41 (hb hby at_86) (by decide) (by decide) (fun T44 h44 b44 g44 X44 e44 E44 A44 D44 => ?_)
    have ne_b37_b44 : b37 ≠ b44 := Nat.ne_of_lt (Nat.lt_of_lt_of_le VA43.lt (Nat.le_of_eq g44.symm))
    have ge_b44 : n0 ≤ b44 := Nat.le_trans (own_sz O42) (Nat.le_of_eq g44.symm)
    have sz_b44 : h0.size ≤ b44 := Nat.le_trans KC42.1 (Nat.le_of_eq g44.symm)
    have A45_b37 := VA43.ext E44
    have O45 := O42.ext E44
    have KC45 := KC42.ext E44
    have F44_value_b44 : Fld Z h44 b44 "java/lang/String" "value" "[B" .null := D44 (Or.inr (hw _ (List.mem_of_getElem? (i := 21) rfl))) (ty := (.array .byte)) (by decide)
    have F44_coder_b44 : Fld Z h44 b44 "java/lang/String" "coder" "B" (.int (0 : Int32)) := D44 (Or.inr (hw _ (List.mem_of_getElem? (i := 22) rfl))) (ty := .byte) (by decide)
    refine own_dup X44 hx (hb hby at_89) rfl ?_
    refine own_aload X44 hx (hb hby at_90) rfl rfl ?_
    show Goes _ _ _ _ _ _ (T44.setTop (mkF m 92 #[.val (.int p1), .val (.int p2), .val (.int p3), .val (.int p4), .val (.int p5), .val (.int (2 : Int32)), .val (.int w_33), .val (.int w_34), .val (.int w_35), .val (.int w_36), .val (.ref b37), .unset, .unset, .unset] [(.ref b37), (.ref b44), (.ref b44)]))
    refine own_strNew X44 hx hZ hown (hw _ (List.mem_of_getElem? (i := 9) rfl)) (hw _ (List.mem_of_getElem? (i := 10) rfl)) (hw _ (List.mem_of_getElem? (i := 11) rfl)) (own_wNew hw) (hw _ (List.mem_of_getElem? (i := 7) rfl)) (cs := [w_33, w_34]) N41 e44 ge_b44 (own_sz O45) A44 F44_value_b44 F44_coder_b44 (n := 2) rfl (by decide +kernel) A45_b37 (z0.ext O45.2) hzc (by decide) (by decide) (by simp only [List.mem_cons, List.not_mem_nil, or_false, forall_eq_or_imp, forall_eq]; exact ⟨hq33_0, hq34_0⟩) (W := 1) (rest := [(.ref b44)]) (by decide) (by decide) (by rw [hml]; rfl) (Nat.le_of_eq rfl) (by decide) (by decide) (hb hby at_92) (fun T46 lc46 h46 X46 e46 N46 K46 I46 => ?_)
    have E47_b44 := A44.keep K46
    have A47_b37 := A45_b37.keep K46 (ninS ne_b37_b44 nin0)
    have O47 := O45.keep K46 (allS ge_b44 all0)
    have KC47 := KC45.trans K46 (allS (Or.inr sz_b44) all0)
    obtain ⟨t46, kb46, UE46, UV46, UC46, UA46, -⟩ := id I46
    have UB46 : Arv Z h46 t46 kb46 .byte (2 : Int32) [(.int (w_33.toInt8.toInt32)), (.int (w_34.toInt8.toInt32))] (.int (0 : Int32)) := UA46
    refine own_astore X46 hx (Ls' := #[.val (.int p1), .val (.int p2), .val (.int p3), .val (.int p4), .val (.int p5), .val (.int (2 : Int32)), .val (.int w_33), .val (.int w_34), .val (.int w_35), .val (.int w_36), .val (.ref b37), .val (.ref b44), .unset, .unset]) (hb hby at_95) rfl rfl ?_
    refine own_iload X46 hx (hb hby at_97) rfl ?_
    refine own_ifNo X46 hx (hb hby at_99) ((if0 _ _).trans (tlt (by decide : (0 : Int32) < (2 : Int32))).2.2.2) ?_
    refine own_iconst X46 hx (v := (1 : Int32)) (hb hby at_102) rfl ?_
    refine own_goto X46 hx (pc' := 107) (hb hby at_103) (by decide) (by decide) ?_
    refine own_istore X46 hx (Ls' := #[.val (.int p1), .val (.int p2), .val (.int p3), .val (.int p4), .val (.int p5), .val (.int (2 : Int32)), .val (.int w_33), .val (.int w_34), .val (.int w_35), .val (.int w_36), .val (.ref b37), .val (.ref b44), .val (.int (1 : Int32)), .unset]) (hb hby at_107) rfl ?_
    refine own_iload X46 hx (hb hby at_109) rfl ?_
    refine own_iconst X46 hx (v := (1 : Int32)) (hb hby at_111) rfl ?_
    show Goes _ _ _ _ _ _ (T46.setTop (mkF m 112 #[.val (.int p1), .val (.int p2), .val (.int p3), .val (.int p4), .val (.int p5), .val (.int (2 : Int32)), .val (.int w_33), .val (.int w_34), .val (.int w_35), .val (.int w_36), .val (.ref b37), .val (.ref b44), .val (.int (1 : Int32)), .unset] [(.int (1 : Int32)), (.int (2 : Int32))]))
    refine own_icmpNo X46 hx (hb hby at_112) (tlt (by decide : (1 : Int32) < (2 : Int32))).2.2.2 ?_
    refine own_iload X46 hx (hb hby at_115) rfl ?_
    refine own_iload X46 hx (hb hby at_117) rfl ?_
    refine own_callS X46 hx hZ hown (y := (⟨"com/example/fuseline/fuseline/CircuitKeyCheckedServicePinLaw", "joins", "(CC)Z"⟩ : MethodName)) (hw _ (List.mem_of_getElem? (i := 38) rfl)) (hw _ (List.mem_of_getElem? (i := 39) rfl)) (hw _ (List.mem_of_getElem? (i := 3) rfl)) (hw _ (List.mem_of_getElem? (i := 40) rfl)) (by decide) (W := 0) (by decide) (by decide) N46 e46 (by rw [hml]; rfl) (argsL := [(.int w_33), (.int w_34)]) (rest := []) (lenOf pd_17 rfl) (Nat.le_of_eq rfl) (by decide) (by decide) (rm8 l Z a0 hw [] w_33 w_34 h46 n0 O47) rfl (hb hby at_119) ?_
    intro v48 T48 lc48 X48 N48 hQ48
    rcases hQ48 with hQ48_0 | hQ48_1
    ·
      obtain ⟨rfl, hq48_0_0, e48⟩ := hQ48_0
      refine own_ifNo X48 hx (hb hby at_122) ((if0 _ _).trans (feq (by decide : ¬ ((1 : Int32) = (0 : Int32)))).1) ?_
      refine own_iconst X48 hx (v := (0 : Int32)) (hb hby at_125) rfl ?_
      refine own_istore X48 hx (Ls' := #[.val (.int p1), .val (.int p2), .val (.int p3), .val (.int p4), .val (.int p5), .val (.int (2 : Int32)), .val (.int w_33), .val (.int w_34), .val (.int w_35), .val (.int w_36), .val (.ref b37), .val (.ref b44), .val (.int (0 : Int32)), .unset]) (hb hby at_126) rfl ?_
      refine own_iload X48 hx (hb hby at_128) rfl ?_
      refine own_iconst X48 hx (v := (2 : Int32)) (hb hby at_130) rfl ?_
      refine own_icmpYes X48 hx (pc' := 147) (hb hby at_131) (flt (by decide : ¬ ((2 : Int32) < (2 : Int32)))).2.2.2 (by decide) (by decide) ?_
      refine own_iload X48 hx (hb hby at_147) rfl ?_
      refine own_iconst X48 hx (v := (3 : Int32)) (hb hby at_149) rfl ?_
      refine own_icmpYes X48 hx (pc' := 166) (hb hby at_150) (flt (by decide : ¬ ((3 : Int32) < (2 : Int32)))).2.2.2 (by decide) (by decide) ?_
      refine own_iload X48 hx (hb hby at_166) rfl ?_
      refine own_ifNo X48 hx (hb hby at_168) ((if0 _ _).trans (tlt (by decide : (0 : Int32) < (2 : Int32))).2.2.2) ?_
      refine own_aload X48 hx (hb hby at_171) rfl rfl ?_
      refine own_iload X48 hx (hb hby at_173) rfl ?_
      refine own_iconst X48 hx (v := (1 : Int32)) (hb hby at_175) rfl ?_
      refine own_isub X48 hx (hb hby at_176) ?_
      refine own_caload X48 hx hZ e48 A47_b37 ⟨by decide, by decide⟩ (v := (.int w_34)) rfl (hb hby at_177) ?_
      show Goes _ _ _ _ _ _ (T48.setTop (mkF m 178 #[.val (.int p1), .val (.int p2), .val (.int p3), .val (.int p4), .val (.int p5), .val (.int (2 : Int32)), .val (.int w_33), .val (.int w_34), .val (.int w_35), .val (.int w_36), .val (.ref b37), .val (.ref b44), .val (.int (0 : Int32)), .unset] [(.int w_34)]))
      refine own_bipush X48 hx (v := (58 : Int32)) (hb hby at_178) rfl ?_
      by_cases hc180_49 : w_34 = (58 : Int32)
      ·
        refine own_icmpNo X48 hx (hb hby at_180) (teq (hc180_49 : w_34 = (58 : Int32))).2 ?_
        refine own_iconst X48 hx (v := (0 : Int32)) (hb hby at_183) rfl ?_
        refine own_istore X48 hx (Ls' := #[.val (.int p1), .val (.int p2), .val (.int p3), .val (.int p4), .val (.int p5), .val (.int (2 : Int32)), .val (.int w_33), .val (.int w_34), .val (.int w_35), .val (.int w_36), .val (.ref b37), .val (.ref b44), .val (.int (0 : Int32)), .unset]) (hb hby at_184) rfl ?_
        refine own_iload X48 hx (hb hby at_186) rfl ?_
        refine own_ifNo X48 hx (hb hby at_188) ((if0 _ _).trans (teq (by decide : (0 : Int32) = (0 : Int32))).2) ?_
        refine own_iconst X48 hx (v := (1 : Int32)) (hb hby at_191) rfl ?_
        show Goes _ _ _ _ _ _ (T48.setTop (mkF m 192 #[.val (.int p1), .val (.int p2), .val (.int p3), .val (.int p4), .val (.int p5), .val (.int (2 : Int32)), .val (.int w_33), .val (.int w_34), .val (.int w_35), .val (.int w_36), .val (.ref b37), .val (.ref b44), .val (.int (0 : Int32)), .unset] [(.int (1 : Int32))]))
        have Cc50 := C0.trans (CHr.keep KC47 (by simp) C0.1)
        exact own_retNH X48 hx (t := .boolean) hS0 (Nat.zero_le _) hZ hEL (by rw [e48]; exact Cc50) N48 hlk (by decide) (by decide) hret (by simp) (hb hby at_192) (by rw [e48]; exact rfl)
      ·
        refine own_icmpYes X48 hx (pc' := 186) (hb hby at_180) (feq (hc180_49 : ¬ (w_34 = (58 : Int32)))).2 (by decide) (by decide) ?_
        refine own_iload X48 hx (hb hby at_186) rfl ?_
        refine own_ifNo X48 hx (hb hby at_188) ((if0 _ _).trans (teq (by decide : (0 : Int32) = (0 : Int32))).2) ?_
        refine own_iconst X48 hx (v := (1 : Int32)) (hb hby at_191) rfl ?_
        show Goes _ _ _ _ _ _ (T48.setTop (mkF m 192 #[.val (.int p1), .val (.int p2), .val (.int p3), .val (.int p4), .val (.int p5), .val (.int (2 : Int32)), .val (.int w_33), .val (.int w_34), .val (.int w_35), .val (.int w_36), .val (.ref b37), .val (.ref b44), .val (.int (0 : Int32)), .unset] [(.int (1 : Int32))]))
        have Cc51 := C0.trans (CHr.keep KC47 (by simp) C0.1)
        exact own_retNH X48 hx (t := .boolean) hS0 (Nat.zero_le _) hZ hEL (by rw [e48]; exact Cc51) N48 hlk (by decide) (by decide) hret (by simp) (hb hby at_192) (by rw [e48]; exact rfl)
    ·
      obtain ⟨rfl, hq48_1_0, e48⟩ := hQ48_1
      refine own_ifYes X48 hx (pc' := 128) (hb hby at_122) ((if0 _ _).trans (teq (by decide : (0 : Int32) = (0 : Int32))).1) (by decide) (by decide) ?_
      refine own_iload X48 hx (hb hby at_128) rfl ?_
      refine own_iconst X48 hx (v := (2 : Int32)) (hb hby at_130) rfl ?_
      refine own_icmpYes X48 hx (pc' := 147) (hb hby at_131) (flt (by decide : ¬ ((2 : Int32) < (2 : Int32)))).2.2.2 (by decide) (by decide) ?_
      refine own_iload X48 hx (hb hby at_147) rfl ?_
      refine own_iconst X48 hx (v := (3 : Int32)) (hb hby at_149) rfl ?_
      refine own_icmpYes X48 hx (pc' := 166) (hb hby at_150) (flt (by decide : ¬ ((3 : Int32) < (2 : Int32)))).2.2.2 (by decide) (by decide) ?_
      refine own_iload X48 hx (hb hby at_166) rfl ?_
      refine own_ifNo X48 hx (hb hby at_168) ((if0 _ _).trans (tlt (by decide : (0 : Int32) < (2 : Int32))).2.2.2) ?_
      refine own_aload X48 hx (hb hby at_171) rfl rfl ?_
      refine own_iload X48 hx (hb hby at_173) rfl ?_
      refine own_iconst X48 hx (v := (1 : Int32)) (hb hby at_175) rfl ?_
      refine own_isub X48 hx (hb hby at_176) ?_
      refine own_caload X48 hx hZ e48 A47_b37 ⟨by decide, by decide⟩ (v := (.int w_34)) rfl (hb hby at_177) ?_
      show Goes _ _ _ _ _ _ (T48.setTop (mkF m 178 #[.val (.int p1), .val (.int p2), .val (.int p3), .val (.int p4), .val (.int p5), .val (.int (2 : Int32)), .val (.int w_33), .val (.int w_34), .val (.int w_35), .val (.int w_36), .val (.ref b37), .val (.ref b44), .val (.int (1 : Int32)), .unset] [(.int w_34)]))
      refine own_bipush X48 hx (v := (58 : Int32)) (hb hby at_178) rfl ?_
      by_cases hc180_52 : w_34 = (58 : Int32)
      ·
        refine own_icmpNo X48 hx (hb hby at_180) (teq (hc180_52 : w_34 = (58 : Int32))).2 ?_
        refine own_iconst X48 hx (v := (0 : Int32)) (hb hby at_183) rfl ?_
        refine own_istore X48 hx (Ls' := #[.val (.int p1), .val (.int p2), .val (.int p3), .val (.int p4), .val (.int p5), .val (.int (2 : Int32)), .val (.int w_33), .val (.int w_34), .val (.int w_35), .val (.int w_36), .val (.ref b37), .val (.ref b44), .val (.int (0 : Int32)), .unset]) (hb hby at_184) rfl ?_
        refine own_iload X48 hx (hb hby at_186) rfl ?_
        refine own_ifNo X48 hx (hb hby at_188) ((if0 _ _).trans (teq (by decide : (0 : Int32) = (0 : Int32))).2) ?_
        refine own_iconst X48 hx (v := (1 : Int32)) (hb hby at_191) rfl ?_
        show Goes _ _ _ _ _ _ (T48.setTop (mkF m 192 #[.val (.int p1), .val (.int p2), .val (.int p3), .val (.int p4), .val (.int p5), .val (.int (2 : Int32)), .val (.int w_33), .val (.int w_34), .val (.int w_35), .val (.int w_36), .val (.ref b37), .val (.ref b44), .val (.int (0 : Int32)), .unset] [(.int (1 : Int32))]))
        have Cc53 := C0.trans (CHr.keep KC47 (by simp) C0.1)
        exact own_retNH X48 hx (t := .boolean) hS0 (Nat.zero_le _) hZ hEL (by rw [e48]; exact Cc53) N48 hlk (by decide) (by decide) hret (by simp) (hb hby at_192) (by rw [e48]; exact rfl)
      ·
        refine own_icmpYes X48 hx (pc' := 186) (hb hby at_180) (feq (hc180_52 : ¬ (w_34 = (58 : Int32)))).2 (by decide) (by decide) ?_
        refine own_iload X48 hx (hb hby at_186) rfl ?_
        refine own_ifYes X48 hx (pc' := 193) (hb hby at_188) ((if0 _ _).trans (feq (by decide : ¬ ((1 : Int32) = (0 : Int32)))).2) (by decide) (by decide) ?_
        refine own_aload X48 hx (hb hby at_193) rfl rfl ?_
        have Cc54 := C0.trans (CHr.keep KC47 (by simp) C0.1)
        refine own_callSH X48 hx hZ hown hS0 (Nat.zero_le _) (y := (⟨"com/example/fuseline/fuseline/CircuitKey", "checkedService", "(Ljava/lang/String;)Ljava/lang/String;"⟩ : MethodName)) (hw _ (List.mem_of_getElem? (i := 41) rfl)) (hw _ (List.mem_of_getElem? (i := 42) rfl)) (hw _ (List.mem_of_getElem? (i := 43) rfl)) (hw _ (List.mem_of_getElem? (i := 44) rfl)) hEL Cc54.1 (by decide) (W := 0) (by decide) (by decide) N48 e48 (by rw [hml]; rfl) (argsL := [(.ref b44)]) (rest := []) (lenOf pd_15 rfl) (Nat.le_of_eq rfl) (by decide) (by decide) (rm92 l Z a0 hw hEL [] b44 t46 kb46 (w_33.toInt8.toInt32) (w_34.toInt8.toInt32) zc h46 n0 O47 ⟨z0, hzc, trivial⟩ E47_b44 UV46 UC46 UB46 (own_pa hq33_0 hq34_0 hq48_1_0) (own_pc hq33_0 hq34_0 hq48_1_0) (own_pe hq34_0 hc180_52)) rfl (hb hby at_195) ?_
        intro v55 T55 lc55 k1_55 X55 hS55 hk55_ hZ hown N55 D55 hQ55
        have CC55 := Cc54.trans D55
        obtain ⟨rfl, K55⟩ := hQ55
        have E56_b44 := E47_b44.keep K55
        have O56 := O47.keep K55 all0
        have KC56 := KC47.trans K55 all0
        have KB57 := Keep.refl T55.heap []
        refine own_astore X55 hx (Ls' := #[.val (.int p1), .val (.int p2), .val (.int p3), .val (.int p4), .val (.int p5), .val (.int (2 : Int32)), .val (.int w_33), .val (.int w_34), .val (.int w_35), .val (.int w_36), .val (.ref b37), .val (.ref b44), .val (.int (1 : Int32)), .val (.ref b44)]) (hb hby at_198) rfl rfl ?_
        refine own_aload X55 hx (hb hby at_200) rfl rfl ?_
        refine own_aload X55 hx (hb hby at_202) rfl rfl ?_
        refine own_virtual X55 hx hZ hown (y := (⟨"java/lang/String", "equals", "(Ljava/lang/Object;)Z"⟩ : MethodName)) (z := (⟨"java/lang/String", "equals", "(Ljava/lang/Object;)Z"⟩ : MethodName)) (hw _ (List.mem_of_getElem? (i := 116) rfl)) (hw _ (List.mem_of_getElem? (i := 117) rfl)) (notFace_of_selects (args := #[]) (mvT hZ (hw _ (List.mem_of_getElem? (i := 119) rfl)))) (hw _ (List.mem_of_getElem? (i := 119) rfl)) (hw _ (List.mem_of_getElem? (i := 118) rfl)) (hw _ (List.mem_of_getElem? (i := 8) rfl)) (hw _ (List.mem_of_getElem? (i := 120) rfl)) (a := b44) E56_b44 (by decide) (W := 0) (by decide) (by decide) N55 rfl (by rw [hml]; rfl) (argsL := [(.ref b44)]) (rest := []) (lenOf pd_16 rfl) (Nat.le_of_eq rfl) (by decide) (by decide) (rm24 l Z a0 hw [] b44 b44 T55.heap n0 O56) rfl (hb hby at_204) ?_
        intro v58 T58 lc58 X58 N58 hQ58
        obtain ⟨rfl, e58⟩ := hQ58
        show Goes _ _ _ _ _ _ (T58.setTop (mkF m 207 #[.val (.int p1), .val (.int p2), .val (.int p3), .val (.int p4), .val (.int p5), .val (.int (2 : Int32)), .val (.int w_33), .val (.int w_34), .val (.int w_35), .val (.int w_36), .val (.ref b37), .val (.ref b44), .val (.int (1 : Int32)), .val (.ref b44)] [(.int (1 : Int32))]))
        exact own_retNH X58 hx (t := .boolean) hS55 (by rw [e58]; exact hk55_) hZ hEL (by rw [e58]; exact CC55) N58 hlk (by decide) (by decide) hret (by simp) (hb hby at_207) (by rw [e58]; exact rfl)
  ·
    rw [hn]
    show Goes _ _ _ _ _ _ (T0.setTop (mkF m 8 #[.val (.int p1), .val (.int p2), .val (.int p3), .val (.int p4), .val (.int p5), .val (.int (3 : Int32)), .unset, .unset, .unset, .unset, .unset, .unset, .unset, .unset] []))
    refine own_iloadN X0 hx (hb hby at_8) rfl ?_
    refine own_callS X0 hx hZ hown (y := (⟨"com/example/fuseline/fuseline/CircuitKeyCheckedServicePinLaw", "pick", "(I)C"⟩ : MethodName)) (hw _ (List.mem_of_getElem? (i := 1) rfl)) (hw _ (List.mem_of_getElem? (i := 2) rfl)) (hw _ (List.mem_of_getElem? (i := 3) rfl)) (hw _ (List.mem_of_getElem? (i := 4) rfl)) (by decide) (W := 0) (by decide) (by decide) N0 e0 (by rw [hml]; rfl) (argsL := [(.int p2)]) (rest := []) (lenOf pd_13 rfl) (Nat.le_of_eq rfl) (by decide) (by decide) (rm1 l Z a0 hw [] p2 h0 n0 O0) rfl (hb hby at_9) ?_
    intro v59 T59 lc59 X59 N59 hQ59
    obtain ⟨w_59, rfl, hq59_0, e59⟩ := hQ59
    refine own_istore X59 hx (Ls' := #[.val (.int p1), .val (.int p2), .val (.int p3), .val (.int p4), .val (.int p5), .val (.int (3 : Int32)), .val (.int w_59), .unset, .unset, .unset, .unset, .unset, .unset, .unset]) (hb hby at_12) rfl ?_
    refine own_iloadN X59 hx (hb hby at_14) rfl ?_
    refine own_callS X59 hx hZ hown (y := (⟨"com/example/fuseline/fuseline/CircuitKeyCheckedServicePinLaw", "pick", "(I)C"⟩ : MethodName)) (hw _ (List.mem_of_getElem? (i := 1) rfl)) (hw _ (List.mem_of_getElem? (i := 2) rfl)) (hw _ (List.mem_of_getElem? (i := 3) rfl)) (hw _ (List.mem_of_getElem? (i := 4) rfl)) (by decide) (W := 0) (by decide) (by decide) N59 e59 (by rw [hml]; rfl) (argsL := [(.int p3)]) (rest := []) (lenOf pd_13 rfl) (Nat.le_of_eq rfl) (by decide) (by decide) (rm1 l Z a0 hw [] p3 h0 n0 O0) rfl (hb hby at_15) ?_
    intro v60 T60 lc60 X60 N60 hQ60
    obtain ⟨w_60, rfl, hq60_0, e60⟩ := hQ60
    refine own_istore X60 hx (Ls' := #[.val (.int p1), .val (.int p2), .val (.int p3), .val (.int p4), .val (.int p5), .val (.int (3 : Int32)), .val (.int w_59), .val (.int w_60), .unset, .unset, .unset, .unset, .unset, .unset]) (hb hby at_18) rfl ?_
    refine own_iloadN X60 hx (hb hby at_20) rfl ?_
    refine own_callS X60 hx hZ hown (y := (⟨"com/example/fuseline/fuseline/CircuitKeyCheckedServicePinLaw", "pick", "(I)C"⟩ : MethodName)) (hw _ (List.mem_of_getElem? (i := 1) rfl)) (hw _ (List.mem_of_getElem? (i := 2) rfl)) (hw _ (List.mem_of_getElem? (i := 3) rfl)) (hw _ (List.mem_of_getElem? (i := 4) rfl)) (by decide) (W := 0) (by decide) (by decide) N60 e60 (by rw [hml]; rfl) (argsL := [(.int p4)]) (rest := []) (lenOf pd_13 rfl) (Nat.le_of_eq rfl) (by decide) (by decide) (rm1 l Z a0 hw [] p4 h0 n0 O0) rfl (hb hby at_21) ?_
    intro v61 T61 lc61 X61 N61 hQ61
    obtain ⟨w_61, rfl, hq61_0, e61⟩ := hQ61
    refine own_istore X61 hx (Ls' := #[.val (.int p1), .val (.int p2), .val (.int p3), .val (.int p4), .val (.int p5), .val (.int (3 : Int32)), .val (.int w_59), .val (.int w_60), .val (.int w_61), .unset, .unset, .unset, .unset, .unset]) (hb hby at_24) rfl ?_
    refine own_iload X61 hx (hb hby at_26) rfl ?_
    refine own_callS X61 hx hZ hown (y := (⟨"com/example/fuseline/fuseline/CircuitKeyCheckedServicePinLaw", "pick", "(I)C"⟩ : MethodName)) (hw _ (List.mem_of_getElem? (i := 1) rfl)) (hw _ (List.mem_of_getElem? (i := 2) rfl)) (hw _ (List.mem_of_getElem? (i := 3) rfl)) (hw _ (List.mem_of_getElem? (i := 4) rfl)) (by decide) (W := 0) (by decide) (by decide) N61 e61 (by rw [hml]; rfl) (argsL := [(.int p5)]) (rest := []) (lenOf pd_13 rfl) (Nat.le_of_eq rfl) (by decide) (by decide) (rm1 l Z a0 hw [] p5 h0 n0 O0) rfl (hb hby at_28) ?_
    intro v62 T62 lc62 X62 N62 hQ62
    obtain ⟨w_62, rfl, hq62_0, e62⟩ := hQ62
    refine own_istore X62 hx (Ls' := #[.val (.int p1), .val (.int p2), .val (.int p3), .val (.int p4), .val (.int p5), .val (.int (3 : Int32)), .val (.int w_59), .val (.int w_60), .val (.int w_61), .val (.int w_62), .unset, .unset, .unset, .unset]) (hb hby at_31) rfl ?_
    refine own_iload X62 hx (hb hby at_33) rfl ?_
    refine own_newP X62 hx hZ (hw _ (List.mem_of_getElem? (i := 5) rfl)) e62 (hb hby at_35) (by decide) (cap := 3) (by decide) (by decide) (by decide) (by decide) (fun T63 h63 b63 k63 g63 X63 e63 E63 A63 => ?_)
    have ge_b63 : n0 ≤ b63 := Nat.le_trans (own_sz O0) (Nat.le_of_eq g63.symm)
    have sz_b63 : h0.size ≤ b63 := Nat.le_trans KC0.1 (Nat.le_of_eq g63.symm)
    have O64 := O0.ext E63
    have KC64 := KC0.ext E63
    have V63 : Arv Z h63 b63 k63 .char (3 : Int32) [(.int (0 : Int32)), (.int (0 : Int32)), (.int (0 : Int32))] (.int (0 : Int32)) := A63.pad (pad_rep [] (.int (0 : Int32)) 3)
    refine own_astore X63 hx (Ls' := #[.val (.int p1), .val (.int p2), .val (.int p3), .val (.int p4), .val (.int p5), .val (.int (3 : Int32)), .val (.int w_59), .val (.int w_60), .val (.int w_61), .val (.int w_62), .val (.ref b63), .unset, .unset, .unset]) (hb hby at_37) rfl rfl ?_
    refine own_iload X63 hx (hb hby at_39) rfl ?_
    refine own_ifNo X63 hx (hb hby at_41) ((if0 _ _).trans (tlt (by decide : (0 : Int32) < (3 : Int32))).2.2.2) ?_
    refine own_aload X63 hx (hb hby at_44) rfl rfl ?_
    refine own_iconst X63 hx (v := (0 : Int32)) (hb hby at_46) rfl ?_
    refine own_iload X63 hx (hb hby at_47) rfl ?_
    refine own_castore X63 hx hZ N62 e63 V63 ⟨by decide, by decide⟩ (i := 0) rfl (by first | decide | (simp; done)) ge_b63 (hb hby at_49) (fun T65 h65 lc65 X65 e65 N65 W65 V65 => ?_)
    have O66 := O64.wr W65 ge_b63
    have KC66 := KC64.wr W65 (Or.inr sz_b63)
    have V65' : Arv Z h65 b63 k63 .char (3 : Int32) [(.int (nar .char w_59)), (.int (0 : Int32)), (.int (0 : Int32))] (.int (0 : Int32)) := V65
    refine own_iload X65 hx (hb hby at_50) rfl ?_
    refine own_iconst X65 hx (v := (1 : Int32)) (hb hby at_52) rfl ?_
    refine own_icmpNo X65 hx (hb hby at_53) (tlt (by decide : (1 : Int32) < (3 : Int32))).2.2.2 ?_
    refine own_aload X65 hx (hb hby at_56) rfl rfl ?_
    refine own_iconst X65 hx (v := (1 : Int32)) (hb hby at_58) rfl ?_
    refine own_iload X65 hx (hb hby at_59) rfl ?_
    refine own_castore X65 hx hZ N65 e65 V65' ⟨by decide, by decide⟩ (i := 1) rfl (by first | decide | (simp; done)) ge_b63 (hb hby at_61) (fun T67 h67 lc67 X67 e67 N67 W67 V67 => ?_)
    have O68 := O66.wr W67 ge_b63
    have KC68 := KC66.wr W67 (Or.inr sz_b63)
    have V67' : Arv Z h67 b63 k63 .char (3 : Int32) [(.int (nar .char w_59)), (.int (nar .char w_60)), (.int (0 : Int32))] (.int (0 : Int32)) := V67
    refine own_iload X67 hx (hb hby at_62) rfl ?_
    refine own_iconst X67 hx (v := (2 : Int32)) (hb hby at_64) rfl ?_
    refine own_icmpNo X67 hx (hb hby at_65) (tlt (by decide : (2 : Int32) < (3 : Int32))).2.2.2 ?_
    refine own_aload X67 hx (hb hby at_68) rfl rfl ?_
    refine own_iconst X67 hx (v := (2 : Int32)) (hb hby at_70) rfl ?_
    refine own_iload X67 hx (hb hby at_71) rfl ?_
    refine own_castore X67 hx hZ N67 e67 V67' ⟨by decide, by decide⟩ (i := 2) rfl (by first | decide | (simp; done)) ge_b63 (hb hby at_73) (fun T69 h69 lc69 X69 e69 N69 W69 V69 => ?_)
    have O70 := O68.wr W69 ge_b63
    have KC70 := KC68.wr W69 (Or.inr sz_b63)
    have V69' : Arv Z h69 b63 k63 .char (3 : Int32) [(.int (nar .char w_59)), (.int (nar .char w_60)), (.int (nar .char w_61))] (.int (0 : Int32)) := V69
    refine own_iload X69 hx (hb hby at_74) rfl ?_
    refine own_iconst X69 hx (v := (3 : Int32)) (hb hby at_76) rfl ?_
    refine own_icmpYes X69 hx (pc' := 86) (hb hby at_77) (flt (by decide : ¬ ((3 : Int32) < (3 : Int32)))).2.2.2 (by decide) (by decide) ?_
    show Goes _ _ _ _ _ _ (T69.setTop (mkF m 86 #[.val (.int p1), .val (.int p2), .val (.int p3), .val (.int p4), .val (.int p5), .val (.int (3 : Int32)), .val (.int w_59), .val (.int w_60), .val (.int w_61), .val (.int w_62), .val (.ref b63), .unset, .unset, .unset] []))
    have VA71 : Arv Z h69 b63 k63 .char (3 : Int32) [(.int w_59), (.int w_60), (.int w_61)] (.int (0 : Int32)) := by
      have V := V69'
      rw [own_nar hq59_0, own_nar hq60_0, own_nar hq61_0] at V
      exact V
    refine own_new X69 hx hZ hown (hw _ (List.mem_of_getElem? (i := 6) rfl)) (hw _ (List.mem_of_getElem? (i := 7) rfl)) (hw _ (List.mem_of_getElem? (i := 8) rfl)) e69 (hb hby at_86) (by decide) (by decide) (fun T72 h72 b72 g72 X72 e72 E72 A72 D72 => ?_)
    have ne_b63_b72 : b63 ≠ b72 := Nat.ne_of_lt (Nat.lt_of_lt_of_le VA71.lt (Nat.le_of_eq g72.symm))
    have ge_b72 : n0 ≤ b72 := Nat.le_trans (own_sz O70) (Nat.le_of_eq g72.symm)
    have sz_b72 : h0.size ≤ b72 := Nat.le_trans KC70.1 (Nat.le_of_eq g72.symm)
    have A73_b63 := VA71.ext E72
    have O73 := O70.ext E72
    have KC73 := KC70.ext E72
    have F72_value_b72 : Fld Z h72 b72 "java/lang/String" "value" "[B" .null := D72 (Or.inr (hw _ (List.mem_of_getElem? (i := 21) rfl))) (ty := (.array .byte)) (by decide)
    have F72_coder_b72 : Fld Z h72 b72 "java/lang/String" "coder" "B" (.int (0 : Int32)) := D72 (Or.inr (hw _ (List.mem_of_getElem? (i := 22) rfl))) (ty := .byte) (by decide)
    refine own_dup X72 hx (hb hby at_89) rfl ?_
    refine own_aload X72 hx (hb hby at_90) rfl rfl ?_
    show Goes _ _ _ _ _ _ (T72.setTop (mkF m 92 #[.val (.int p1), .val (.int p2), .val (.int p3), .val (.int p4), .val (.int p5), .val (.int (3 : Int32)), .val (.int w_59), .val (.int w_60), .val (.int w_61), .val (.int w_62), .val (.ref b63), .unset, .unset, .unset] [(.ref b63), (.ref b72), (.ref b72)]))
    refine own_strNew X72 hx hZ hown (hw _ (List.mem_of_getElem? (i := 9) rfl)) (hw _ (List.mem_of_getElem? (i := 10) rfl)) (hw _ (List.mem_of_getElem? (i := 11) rfl)) (own_wNew hw) (hw _ (List.mem_of_getElem? (i := 7) rfl)) (cs := [w_59, w_60, w_61]) N69 e72 ge_b72 (own_sz O73) A72 F72_value_b72 F72_coder_b72 (n := 3) rfl (by decide +kernel) A73_b63 (z0.ext O73.2) hzc (by decide) (by decide) (by simp only [List.mem_cons, List.not_mem_nil, or_false, forall_eq_or_imp, forall_eq]; exact ⟨hq59_0, hq60_0, hq61_0⟩) (W := 1) (rest := [(.ref b72)]) (by decide) (by decide) (by rw [hml]; rfl) (Nat.le_of_eq rfl) (by decide) (by decide) (hb hby at_92) (fun T74 lc74 h74 X74 e74 N74 K74 I74 => ?_)
    have E75_b72 := A72.keep K74
    have A75_b63 := A73_b63.keep K74 (ninS ne_b63_b72 nin0)
    have O75 := O73.keep K74 (allS ge_b72 all0)
    have KC75 := KC73.trans K74 (allS (Or.inr sz_b72) all0)
    obtain ⟨t74, kb74, UE74, UV74, UC74, UA74, -⟩ := id I74
    have UB74 : Arv Z h74 t74 kb74 .byte (3 : Int32) [(.int (w_59.toInt8.toInt32)), (.int (w_60.toInt8.toInt32)), (.int (w_61.toInt8.toInt32))] (.int (0 : Int32)) := UA74
    refine own_astore X74 hx (Ls' := #[.val (.int p1), .val (.int p2), .val (.int p3), .val (.int p4), .val (.int p5), .val (.int (3 : Int32)), .val (.int w_59), .val (.int w_60), .val (.int w_61), .val (.int w_62), .val (.ref b63), .val (.ref b72), .unset, .unset]) (hb hby at_95) rfl rfl ?_
    refine own_iload X74 hx (hb hby at_97) rfl ?_
    refine own_ifNo X74 hx (hb hby at_99) ((if0 _ _).trans (tlt (by decide : (0 : Int32) < (3 : Int32))).2.2.2) ?_
    refine own_iconst X74 hx (v := (1 : Int32)) (hb hby at_102) rfl ?_
    refine own_goto X74 hx (pc' := 107) (hb hby at_103) (by decide) (by decide) ?_
    refine own_istore X74 hx (Ls' := #[.val (.int p1), .val (.int p2), .val (.int p3), .val (.int p4), .val (.int p5), .val (.int (3 : Int32)), .val (.int w_59), .val (.int w_60), .val (.int w_61), .val (.int w_62), .val (.ref b63), .val (.ref b72), .val (.int (1 : Int32)), .unset]) (hb hby at_107) rfl ?_
    refine own_iload X74 hx (hb hby at_109) rfl ?_
    refine own_iconst X74 hx (v := (1 : Int32)) (hb hby at_111) rfl ?_
    show Goes _ _ _ _ _ _ (T74.setTop (mkF m 112 #[.val (.int p1), .val (.int p2), .val (.int p3), .val (.int p4), .val (.int p5), .val (.int (3 : Int32)), .val (.int w_59), .val (.int w_60), .val (.int w_61), .val (.int w_62), .val (.ref b63), .val (.ref b72), .val (.int (1 : Int32)), .unset] [(.int (1 : Int32)), (.int (3 : Int32))]))
    refine own_icmpNo X74 hx (hb hby at_112) (tlt (by decide : (1 : Int32) < (3 : Int32))).2.2.2 ?_
    refine own_iload X74 hx (hb hby at_115) rfl ?_
    refine own_iload X74 hx (hb hby at_117) rfl ?_
    refine own_callS X74 hx hZ hown (y := (⟨"com/example/fuseline/fuseline/CircuitKeyCheckedServicePinLaw", "joins", "(CC)Z"⟩ : MethodName)) (hw _ (List.mem_of_getElem? (i := 38) rfl)) (hw _ (List.mem_of_getElem? (i := 39) rfl)) (hw _ (List.mem_of_getElem? (i := 3) rfl)) (hw _ (List.mem_of_getElem? (i := 40) rfl)) (by decide) (W := 0) (by decide) (by decide) N74 e74 (by rw [hml]; rfl) (argsL := [(.int w_59), (.int w_60)]) (rest := []) (lenOf pd_17 rfl) (Nat.le_of_eq rfl) (by decide) (by decide) (rm8 l Z a0 hw [] w_59 w_60 h74 n0 O75) rfl (hb hby at_119) ?_
    intro v76 T76 lc76 X76 N76 hQ76
    rcases hQ76 with hQ76_0 | hQ76_1
    ·
      obtain ⟨rfl, hq76_0_0, e76⟩ := hQ76_0
      refine own_ifNo X76 hx (hb hby at_122) ((if0 _ _).trans (feq (by decide : ¬ ((1 : Int32) = (0 : Int32)))).1) ?_
      refine own_iconst X76 hx (v := (0 : Int32)) (hb hby at_125) rfl ?_
      refine own_istore X76 hx (Ls' := #[.val (.int p1), .val (.int p2), .val (.int p3), .val (.int p4), .val (.int p5), .val (.int (3 : Int32)), .val (.int w_59), .val (.int w_60), .val (.int w_61), .val (.int w_62), .val (.ref b63), .val (.ref b72), .val (.int (0 : Int32)), .unset]) (hb hby at_126) rfl ?_
      refine own_iload X76 hx (hb hby at_128) rfl ?_
      refine own_iconst X76 hx (v := (2 : Int32)) (hb hby at_130) rfl ?_
      refine own_icmpNo X76 hx (hb hby at_131) (tlt (by decide : (2 : Int32) < (3 : Int32))).2.2.2 ?_
      refine own_iload X76 hx (hb hby at_134) rfl ?_
      refine own_iload X76 hx (hb hby at_136) rfl ?_
      refine own_callS X76 hx hZ hown (y := (⟨"com/example/fuseline/fuseline/CircuitKeyCheckedServicePinLaw", "joins", "(CC)Z"⟩ : MethodName)) (hw _ (List.mem_of_getElem? (i := 38) rfl)) (hw _ (List.mem_of_getElem? (i := 39) rfl)) (hw _ (List.mem_of_getElem? (i := 3) rfl)) (hw _ (List.mem_of_getElem? (i := 40) rfl)) (by decide) (W := 0) (by decide) (by decide) N76 e76 (by rw [hml]; rfl) (argsL := [(.int w_60), (.int w_61)]) (rest := []) (lenOf pd_17 rfl) (Nat.le_of_eq rfl) (by decide) (by decide) (rm8 l Z a0 hw [] w_60 w_61 h74 n0 O75) rfl (hb hby at_138) ?_
      intro v77 T77 lc77 X77 N77 hQ77
      rcases hQ77 with hQ77_0 | hQ77_1
      ·
        obtain ⟨rfl, hq77_0_0, e77⟩ := hQ77_0
        refine own_ifNo X77 hx (hb hby at_141) ((if0 _ _).trans (feq (by decide : ¬ ((1 : Int32) = (0 : Int32)))).1) ?_
        refine own_iconst X77 hx (v := (0 : Int32)) (hb hby at_144) rfl ?_
        refine own_istore X77 hx (Ls' := #[.val (.int p1), .val (.int p2), .val (.int p3), .val (.int p4), .val (.int p5), .val (.int (3 : Int32)), .val (.int w_59), .val (.int w_60), .val (.int w_61), .val (.int w_62), .val (.ref b63), .val (.ref b72), .val (.int (0 : Int32)), .unset]) (hb hby at_145) rfl ?_
        refine own_iload X77 hx (hb hby at_147) rfl ?_
        refine own_iconst X77 hx (v := (3 : Int32)) (hb hby at_149) rfl ?_
        refine own_icmpYes X77 hx (pc' := 166) (hb hby at_150) (flt (by decide : ¬ ((3 : Int32) < (3 : Int32)))).2.2.2 (by decide) (by decide) ?_
        refine own_iload X77 hx (hb hby at_166) rfl ?_
        refine own_ifNo X77 hx (hb hby at_168) ((if0 _ _).trans (tlt (by decide : (0 : Int32) < (3 : Int32))).2.2.2) ?_
        refine own_aload X77 hx (hb hby at_171) rfl rfl ?_
        refine own_iload X77 hx (hb hby at_173) rfl ?_
        refine own_iconst X77 hx (v := (1 : Int32)) (hb hby at_175) rfl ?_
        refine own_isub X77 hx (hb hby at_176) ?_
        refine own_caload X77 hx hZ e77 A75_b63 ⟨by decide, by decide⟩ (v := (.int w_61)) rfl (hb hby at_177) ?_
        show Goes _ _ _ _ _ _ (T77.setTop (mkF m 178 #[.val (.int p1), .val (.int p2), .val (.int p3), .val (.int p4), .val (.int p5), .val (.int (3 : Int32)), .val (.int w_59), .val (.int w_60), .val (.int w_61), .val (.int w_62), .val (.ref b63), .val (.ref b72), .val (.int (0 : Int32)), .unset] [(.int w_61)]))
        refine own_bipush X77 hx (v := (58 : Int32)) (hb hby at_178) rfl ?_
        by_cases hc180_78 : w_61 = (58 : Int32)
        ·
          refine own_icmpNo X77 hx (hb hby at_180) (teq (hc180_78 : w_61 = (58 : Int32))).2 ?_
          refine own_iconst X77 hx (v := (0 : Int32)) (hb hby at_183) rfl ?_
          refine own_istore X77 hx (Ls' := #[.val (.int p1), .val (.int p2), .val (.int p3), .val (.int p4), .val (.int p5), .val (.int (3 : Int32)), .val (.int w_59), .val (.int w_60), .val (.int w_61), .val (.int w_62), .val (.ref b63), .val (.ref b72), .val (.int (0 : Int32)), .unset]) (hb hby at_184) rfl ?_
          refine own_iload X77 hx (hb hby at_186) rfl ?_
          refine own_ifNo X77 hx (hb hby at_188) ((if0 _ _).trans (teq (by decide : (0 : Int32) = (0 : Int32))).2) ?_
          refine own_iconst X77 hx (v := (1 : Int32)) (hb hby at_191) rfl ?_
          show Goes _ _ _ _ _ _ (T77.setTop (mkF m 192 #[.val (.int p1), .val (.int p2), .val (.int p3), .val (.int p4), .val (.int p5), .val (.int (3 : Int32)), .val (.int w_59), .val (.int w_60), .val (.int w_61), .val (.int w_62), .val (.ref b63), .val (.ref b72), .val (.int (0 : Int32)), .unset] [(.int (1 : Int32))]))
          have Cc79 := C0.trans (CHr.keep KC75 (by simp) C0.1)
          exact own_retNH X77 hx (t := .boolean) hS0 (Nat.zero_le _) hZ hEL (by rw [e77]; exact Cc79) N77 hlk (by decide) (by decide) hret (by simp) (hb hby at_192) (by rw [e77]; exact rfl)
        ·
          refine own_icmpYes X77 hx (pc' := 186) (hb hby at_180) (feq (hc180_78 : ¬ (w_61 = (58 : Int32)))).2 (by decide) (by decide) ?_
          refine own_iload X77 hx (hb hby at_186) rfl ?_
          refine own_ifNo X77 hx (hb hby at_188) ((if0 _ _).trans (teq (by decide : (0 : Int32) = (0 : Int32))).2) ?_
          refine own_iconst X77 hx (v := (1 : Int32)) (hb hby at_191) rfl ?_
          show Goes _ _ _ _ _ _ (T77.setTop (mkF m 192 #[.val (.int p1), .val (.int p2), .val (.int p3), .val (.int p4), .val (.int p5), .val (.int (3 : Int32)), .val (.int w_59), .val (.int w_60), .val (.int w_61), .val (.int w_62), .val (.ref b63), .val (.ref b72), .val (.int (0 : Int32)), .unset] [(.int (1 : Int32))]))
          have Cc80 := C0.trans (CHr.keep KC75 (by simp) C0.1)
          exact own_retNH X77 hx (t := .boolean) hS0 (Nat.zero_le _) hZ hEL (by rw [e77]; exact Cc80) N77 hlk (by decide) (by decide) hret (by simp) (hb hby at_192) (by rw [e77]; exact rfl)
      ·
        obtain ⟨rfl, hq77_1_0, e77⟩ := hQ77_1
        refine own_ifYes X77 hx (pc' := 147) (hb hby at_141) ((if0 _ _).trans (teq (by decide : (0 : Int32) = (0 : Int32))).1) (by decide) (by decide) ?_
        refine own_iload X77 hx (hb hby at_147) rfl ?_
        refine own_iconst X77 hx (v := (3 : Int32)) (hb hby at_149) rfl ?_
        refine own_icmpYes X77 hx (pc' := 166) (hb hby at_150) (flt (by decide : ¬ ((3 : Int32) < (3 : Int32)))).2.2.2 (by decide) (by decide) ?_
        refine own_iload X77 hx (hb hby at_166) rfl ?_
        refine own_ifNo X77 hx (hb hby at_168) ((if0 _ _).trans (tlt (by decide : (0 : Int32) < (3 : Int32))).2.2.2) ?_
        refine own_aload X77 hx (hb hby at_171) rfl rfl ?_
        refine own_iload X77 hx (hb hby at_173) rfl ?_
        refine own_iconst X77 hx (v := (1 : Int32)) (hb hby at_175) rfl ?_
        refine own_isub X77 hx (hb hby at_176) ?_
        refine own_caload X77 hx hZ e77 A75_b63 ⟨by decide, by decide⟩ (v := (.int w_61)) rfl (hb hby at_177) ?_
        show Goes _ _ _ _ _ _ (T77.setTop (mkF m 178 #[.val (.int p1), .val (.int p2), .val (.int p3), .val (.int p4), .val (.int p5), .val (.int (3 : Int32)), .val (.int w_59), .val (.int w_60), .val (.int w_61), .val (.int w_62), .val (.ref b63), .val (.ref b72), .val (.int (0 : Int32)), .unset] [(.int w_61)]))
        refine own_bipush X77 hx (v := (58 : Int32)) (hb hby at_178) rfl ?_
        by_cases hc180_81 : w_61 = (58 : Int32)
        ·
          refine own_icmpNo X77 hx (hb hby at_180) (teq (hc180_81 : w_61 = (58 : Int32))).2 ?_
          refine own_iconst X77 hx (v := (0 : Int32)) (hb hby at_183) rfl ?_
          refine own_istore X77 hx (Ls' := #[.val (.int p1), .val (.int p2), .val (.int p3), .val (.int p4), .val (.int p5), .val (.int (3 : Int32)), .val (.int w_59), .val (.int w_60), .val (.int w_61), .val (.int w_62), .val (.ref b63), .val (.ref b72), .val (.int (0 : Int32)), .unset]) (hb hby at_184) rfl ?_
          refine own_iload X77 hx (hb hby at_186) rfl ?_
          refine own_ifNo X77 hx (hb hby at_188) ((if0 _ _).trans (teq (by decide : (0 : Int32) = (0 : Int32))).2) ?_
          refine own_iconst X77 hx (v := (1 : Int32)) (hb hby at_191) rfl ?_
          show Goes _ _ _ _ _ _ (T77.setTop (mkF m 192 #[.val (.int p1), .val (.int p2), .val (.int p3), .val (.int p4), .val (.int p5), .val (.int (3 : Int32)), .val (.int w_59), .val (.int w_60), .val (.int w_61), .val (.int w_62), .val (.ref b63), .val (.ref b72), .val (.int (0 : Int32)), .unset] [(.int (1 : Int32))]))
          have Cc82 := C0.trans (CHr.keep KC75 (by simp) C0.1)
          exact own_retNH X77 hx (t := .boolean) hS0 (Nat.zero_le _) hZ hEL (by rw [e77]; exact Cc82) N77 hlk (by decide) (by decide) hret (by simp) (hb hby at_192) (by rw [e77]; exact rfl)
        ·
          refine own_icmpYes X77 hx (pc' := 186) (hb hby at_180) (feq (hc180_81 : ¬ (w_61 = (58 : Int32)))).2 (by decide) (by decide) ?_
          refine own_iload X77 hx (hb hby at_186) rfl ?_
          refine own_ifNo X77 hx (hb hby at_188) ((if0 _ _).trans (teq (by decide : (0 : Int32) = (0 : Int32))).2) ?_
          refine own_iconst X77 hx (v := (1 : Int32)) (hb hby at_191) rfl ?_
          show Goes _ _ _ _ _ _ (T77.setTop (mkF m 192 #[.val (.int p1), .val (.int p2), .val (.int p3), .val (.int p4), .val (.int p5), .val (.int (3 : Int32)), .val (.int w_59), .val (.int w_60), .val (.int w_61), .val (.int w_62), .val (.ref b63), .val (.ref b72), .val (.int (0 : Int32)), .unset] [(.int (1 : Int32))]))
          have Cc83 := C0.trans (CHr.keep KC75 (by simp) C0.1)
          exact own_retNH X77 hx (t := .boolean) hS0 (Nat.zero_le _) hZ hEL (by rw [e77]; exact Cc83) N77 hlk (by decide) (by decide) hret (by simp) (hb hby at_192) (by rw [e77]; exact rfl)
    ·
      obtain ⟨rfl, hq76_1_0, e76⟩ := hQ76_1
      refine own_ifYes X76 hx (pc' := 128) (hb hby at_122) ((if0 _ _).trans (teq (by decide : (0 : Int32) = (0 : Int32))).1) (by decide) (by decide) ?_
      refine own_iload X76 hx (hb hby at_128) rfl ?_
      refine own_iconst X76 hx (v := (2 : Int32)) (hb hby at_130) rfl ?_
      refine own_icmpNo X76 hx (hb hby at_131) (tlt (by decide : (2 : Int32) < (3 : Int32))).2.2.2 ?_
      refine own_iload X76 hx (hb hby at_134) rfl ?_
      refine own_iload X76 hx (hb hby at_136) rfl ?_
      refine own_callS X76 hx hZ hown (y := (⟨"com/example/fuseline/fuseline/CircuitKeyCheckedServicePinLaw", "joins", "(CC)Z"⟩ : MethodName)) (hw _ (List.mem_of_getElem? (i := 38) rfl)) (hw _ (List.mem_of_getElem? (i := 39) rfl)) (hw _ (List.mem_of_getElem? (i := 3) rfl)) (hw _ (List.mem_of_getElem? (i := 40) rfl)) (by decide) (W := 0) (by decide) (by decide) N76 e76 (by rw [hml]; rfl) (argsL := [(.int w_60), (.int w_61)]) (rest := []) (lenOf pd_17 rfl) (Nat.le_of_eq rfl) (by decide) (by decide) (rm8 l Z a0 hw [] w_60 w_61 h74 n0 O75) rfl (hb hby at_138) ?_
      intro v84 T84 lc84 X84 N84 hQ84
      rcases hQ84 with hQ84_0 | hQ84_1
      ·
        obtain ⟨rfl, hq84_0_0, e84⟩ := hQ84_0
        refine own_ifNo X84 hx (hb hby at_141) ((if0 _ _).trans (feq (by decide : ¬ ((1 : Int32) = (0 : Int32)))).1) ?_
        refine own_iconst X84 hx (v := (0 : Int32)) (hb hby at_144) rfl ?_
        refine own_istore X84 hx (Ls' := #[.val (.int p1), .val (.int p2), .val (.int p3), .val (.int p4), .val (.int p5), .val (.int (3 : Int32)), .val (.int w_59), .val (.int w_60), .val (.int w_61), .val (.int w_62), .val (.ref b63), .val (.ref b72), .val (.int (0 : Int32)), .unset]) (hb hby at_145) rfl ?_
        refine own_iload X84 hx (hb hby at_147) rfl ?_
        refine own_iconst X84 hx (v := (3 : Int32)) (hb hby at_149) rfl ?_
        refine own_icmpYes X84 hx (pc' := 166) (hb hby at_150) (flt (by decide : ¬ ((3 : Int32) < (3 : Int32)))).2.2.2 (by decide) (by decide) ?_
        refine own_iload X84 hx (hb hby at_166) rfl ?_
        refine own_ifNo X84 hx (hb hby at_168) ((if0 _ _).trans (tlt (by decide : (0 : Int32) < (3 : Int32))).2.2.2) ?_
        refine own_aload X84 hx (hb hby at_171) rfl rfl ?_
        refine own_iload X84 hx (hb hby at_173) rfl ?_
        refine own_iconst X84 hx (v := (1 : Int32)) (hb hby at_175) rfl ?_
        refine own_isub X84 hx (hb hby at_176) ?_
        refine own_caload X84 hx hZ e84 A75_b63 ⟨by decide, by decide⟩ (v := (.int w_61)) rfl (hb hby at_177) ?_
        show Goes _ _ _ _ _ _ (T84.setTop (mkF m 178 #[.val (.int p1), .val (.int p2), .val (.int p3), .val (.int p4), .val (.int p5), .val (.int (3 : Int32)), .val (.int w_59), .val (.int w_60), .val (.int w_61), .val (.int w_62), .val (.ref b63), .val (.ref b72), .val (.int (0 : Int32)), .unset] [(.int w_61)]))
        refine own_bipush X84 hx (v := (58 : Int32)) (hb hby at_178) rfl ?_
        by_cases hc180_85 : w_61 = (58 : Int32)
        ·
          refine own_icmpNo X84 hx (hb hby at_180) (teq (hc180_85 : w_61 = (58 : Int32))).2 ?_
          refine own_iconst X84 hx (v := (0 : Int32)) (hb hby at_183) rfl ?_
          refine own_istore X84 hx (Ls' := #[.val (.int p1), .val (.int p2), .val (.int p3), .val (.int p4), .val (.int p5), .val (.int (3 : Int32)), .val (.int w_59), .val (.int w_60), .val (.int w_61), .val (.int w_62), .val (.ref b63), .val (.ref b72), .val (.int (0 : Int32)), .unset]) (hb hby at_184) rfl ?_
          refine own_iload X84 hx (hb hby at_186) rfl ?_
          refine own_ifNo X84 hx (hb hby at_188) ((if0 _ _).trans (teq (by decide : (0 : Int32) = (0 : Int32))).2) ?_
          refine own_iconst X84 hx (v := (1 : Int32)) (hb hby at_191) rfl ?_
          show Goes _ _ _ _ _ _ (T84.setTop (mkF m 192 #[.val (.int p1), .val (.int p2), .val (.int p3), .val (.int p4), .val (.int p5), .val (.int (3 : Int32)), .val (.int w_59), .val (.int w_60), .val (.int w_61), .val (.int w_62), .val (.ref b63), .val (.ref b72), .val (.int (0 : Int32)), .unset] [(.int (1 : Int32))]))
          have Cc86 := C0.trans (CHr.keep KC75 (by simp) C0.1)
          exact own_retNH X84 hx (t := .boolean) hS0 (Nat.zero_le _) hZ hEL (by rw [e84]; exact Cc86) N84 hlk (by decide) (by decide) hret (by simp) (hb hby at_192) (by rw [e84]; exact rfl)
        ·
          refine own_icmpYes X84 hx (pc' := 186) (hb hby at_180) (feq (hc180_85 : ¬ (w_61 = (58 : Int32)))).2 (by decide) (by decide) ?_
          refine own_iload X84 hx (hb hby at_186) rfl ?_
          refine own_ifNo X84 hx (hb hby at_188) ((if0 _ _).trans (teq (by decide : (0 : Int32) = (0 : Int32))).2) ?_
          refine own_iconst X84 hx (v := (1 : Int32)) (hb hby at_191) rfl ?_
          show Goes _ _ _ _ _ _ (T84.setTop (mkF m 192 #[.val (.int p1), .val (.int p2), .val (.int p3), .val (.int p4), .val (.int p5), .val (.int (3 : Int32)), .val (.int w_59), .val (.int w_60), .val (.int w_61), .val (.int w_62), .val (.ref b63), .val (.ref b72), .val (.int (0 : Int32)), .unset] [(.int (1 : Int32))]))
          have Cc87 := C0.trans (CHr.keep KC75 (by simp) C0.1)
          exact own_retNH X84 hx (t := .boolean) hS0 (Nat.zero_le _) hZ hEL (by rw [e84]; exact Cc87) N84 hlk (by decide) (by decide) hret (by simp) (hb hby at_192) (by rw [e84]; exact rfl)
      ·
        obtain ⟨rfl, hq84_1_0, e84⟩ := hQ84_1
        refine own_ifYes X84 hx (pc' := 147) (hb hby at_141) ((if0 _ _).trans (teq (by decide : (0 : Int32) = (0 : Int32))).1) (by decide) (by decide) ?_
        refine own_iload X84 hx (hb hby at_147) rfl ?_
        refine own_iconst X84 hx (v := (3 : Int32)) (hb hby at_149) rfl ?_
        refine own_icmpYes X84 hx (pc' := 166) (hb hby at_150) (flt (by decide : ¬ ((3 : Int32) < (3 : Int32)))).2.2.2 (by decide) (by decide) ?_
        refine own_iload X84 hx (hb hby at_166) rfl ?_
        refine own_ifNo X84 hx (hb hby at_168) ((if0 _ _).trans (tlt (by decide : (0 : Int32) < (3 : Int32))).2.2.2) ?_
        refine own_aload X84 hx (hb hby at_171) rfl rfl ?_
        refine own_iload X84 hx (hb hby at_173) rfl ?_
        refine own_iconst X84 hx (v := (1 : Int32)) (hb hby at_175) rfl ?_
        refine own_isub X84 hx (hb hby at_176) ?_
        refine own_caload X84 hx hZ e84 A75_b63 ⟨by decide, by decide⟩ (v := (.int w_61)) rfl (hb hby at_177) ?_
        show Goes _ _ _ _ _ _ (T84.setTop (mkF m 178 #[.val (.int p1), .val (.int p2), .val (.int p3), .val (.int p4), .val (.int p5), .val (.int (3 : Int32)), .val (.int w_59), .val (.int w_60), .val (.int w_61), .val (.int w_62), .val (.ref b63), .val (.ref b72), .val (.int (1 : Int32)), .unset] [(.int w_61)]))
        refine own_bipush X84 hx (v := (58 : Int32)) (hb hby at_178) rfl ?_
        by_cases hc180_88 : w_61 = (58 : Int32)
        ·
          refine own_icmpNo X84 hx (hb hby at_180) (teq (hc180_88 : w_61 = (58 : Int32))).2 ?_
          refine own_iconst X84 hx (v := (0 : Int32)) (hb hby at_183) rfl ?_
          refine own_istore X84 hx (Ls' := #[.val (.int p1), .val (.int p2), .val (.int p3), .val (.int p4), .val (.int p5), .val (.int (3 : Int32)), .val (.int w_59), .val (.int w_60), .val (.int w_61), .val (.int w_62), .val (.ref b63), .val (.ref b72), .val (.int (0 : Int32)), .unset]) (hb hby at_184) rfl ?_
          refine own_iload X84 hx (hb hby at_186) rfl ?_
          refine own_ifNo X84 hx (hb hby at_188) ((if0 _ _).trans (teq (by decide : (0 : Int32) = (0 : Int32))).2) ?_
          refine own_iconst X84 hx (v := (1 : Int32)) (hb hby at_191) rfl ?_
          show Goes _ _ _ _ _ _ (T84.setTop (mkF m 192 #[.val (.int p1), .val (.int p2), .val (.int p3), .val (.int p4), .val (.int p5), .val (.int (3 : Int32)), .val (.int w_59), .val (.int w_60), .val (.int w_61), .val (.int w_62), .val (.ref b63), .val (.ref b72), .val (.int (0 : Int32)), .unset] [(.int (1 : Int32))]))
          have Cc89 := C0.trans (CHr.keep KC75 (by simp) C0.1)
          exact own_retNH X84 hx (t := .boolean) hS0 (Nat.zero_le _) hZ hEL (by rw [e84]; exact Cc89) N84 hlk (by decide) (by decide) hret (by simp) (hb hby at_192) (by rw [e84]; exact rfl)
        ·
          refine own_icmpYes X84 hx (pc' := 186) (hb hby at_180) (feq (hc180_88 : ¬ (w_61 = (58 : Int32)))).2 (by decide) (by decide) ?_
          refine own_iload X84 hx (hb hby at_186) rfl ?_
          refine own_ifYes X84 hx (pc' := 193) (hb hby at_188) ((if0 _ _).trans (feq (by decide : ¬ ((1 : Int32) = (0 : Int32)))).2) (by decide) (by decide) ?_
          refine own_aload X84 hx (hb hby at_193) rfl rfl ?_
          have Cc90 := C0.trans (CHr.keep KC75 (by simp) C0.1)
          refine own_callSH X84 hx hZ hown hS0 (Nat.zero_le _) (y := (⟨"com/example/fuseline/fuseline/CircuitKey", "checkedService", "(Ljava/lang/String;)Ljava/lang/String;"⟩ : MethodName)) (hw _ (List.mem_of_getElem? (i := 41) rfl)) (hw _ (List.mem_of_getElem? (i := 42) rfl)) (hw _ (List.mem_of_getElem? (i := 43) rfl)) (hw _ (List.mem_of_getElem? (i := 44) rfl)) hEL Cc90.1 (by decide) (W := 0) (by decide) (by decide) N84 e84 (by rw [hml]; rfl) (argsL := [(.ref b72)]) (rest := []) (lenOf pd_15 rfl) (Nat.le_of_eq rfl) (by decide) (by decide) (rm93 l Z a0 hw hEL [] b72 t74 kb74 (w_59.toInt8.toInt32) (w_60.toInt8.toInt32) (w_61.toInt8.toInt32) zc h74 n0 O75 ⟨z0, hzc, trivial⟩ E75_b72 UV74 UC74 UB74 (own_pa hq59_0 hq60_0 hq76_1_0) (own_pa hq60_0 hq61_0 hq84_1_0) (own_pc hq59_0 hq60_0 hq76_1_0) (own_pc hq60_0 hq61_0 hq84_1_0) (own_pe hq61_0 hc180_88)) rfl (hb hby at_195) ?_
          intro v91 T91 lc91 k1_91 X91 hS91 hk91_ hZ hown N91 D91 hQ91
          have CC91 := Cc90.trans D91
          obtain ⟨rfl, K91⟩ := hQ91
          have E92_b72 := E75_b72.keep K91
          have O92 := O75.keep K91 all0
          have KC92 := KC75.trans K91 all0
          have KB93 := Keep.refl T91.heap []
          refine own_astore X91 hx (Ls' := #[.val (.int p1), .val (.int p2), .val (.int p3), .val (.int p4), .val (.int p5), .val (.int (3 : Int32)), .val (.int w_59), .val (.int w_60), .val (.int w_61), .val (.int w_62), .val (.ref b63), .val (.ref b72), .val (.int (1 : Int32)), .val (.ref b72)]) (hb hby at_198) rfl rfl ?_
          refine own_aload X91 hx (hb hby at_200) rfl rfl ?_
          refine own_aload X91 hx (hb hby at_202) rfl rfl ?_
          refine own_virtual X91 hx hZ hown (y := (⟨"java/lang/String", "equals", "(Ljava/lang/Object;)Z"⟩ : MethodName)) (z := (⟨"java/lang/String", "equals", "(Ljava/lang/Object;)Z"⟩ : MethodName)) (hw _ (List.mem_of_getElem? (i := 116) rfl)) (hw _ (List.mem_of_getElem? (i := 117) rfl)) (notFace_of_selects (args := #[]) (mvT hZ (hw _ (List.mem_of_getElem? (i := 119) rfl)))) (hw _ (List.mem_of_getElem? (i := 119) rfl)) (hw _ (List.mem_of_getElem? (i := 118) rfl)) (hw _ (List.mem_of_getElem? (i := 8) rfl)) (hw _ (List.mem_of_getElem? (i := 120) rfl)) (a := b72) E92_b72 (by decide) (W := 0) (by decide) (by decide) N91 rfl (by rw [hml]; rfl) (argsL := [(.ref b72)]) (rest := []) (lenOf pd_16 rfl) (Nat.le_of_eq rfl) (by decide) (by decide) (rm24 l Z a0 hw [] b72 b72 T91.heap n0 O92) rfl (hb hby at_204) ?_
          intro v94 T94 lc94 X94 N94 hQ94
          obtain ⟨rfl, e94⟩ := hQ94
          show Goes _ _ _ _ _ _ (T94.setTop (mkF m 207 #[.val (.int p1), .val (.int p2), .val (.int p3), .val (.int p4), .val (.int p5), .val (.int (3 : Int32)), .val (.int w_59), .val (.int w_60), .val (.int w_61), .val (.int w_62), .val (.ref b63), .val (.ref b72), .val (.int (1 : Int32)), .val (.ref b72)] [(.int (1 : Int32))]))
          exact own_retNH X94 hx (t := .boolean) hS91 (by rw [e94]; exact hk91_) hZ hEL (by rw [e94]; exact CC91) N94 hlk (by decide) (by decide) hret (by simp) (hb hby at_207) (by rw [e94]; exact rfl)
  ·
    rw [hn]
    show Goes _ _ _ _ _ _ (T0.setTop (mkF m 8 #[.val (.int p1), .val (.int p2), .val (.int p3), .val (.int p4), .val (.int p5), .val (.int (4 : Int32)), .unset, .unset, .unset, .unset, .unset, .unset, .unset, .unset] []))
    refine own_iloadN X0 hx (hb hby at_8) rfl ?_
    refine own_callS X0 hx hZ hown (y := (⟨"com/example/fuseline/fuseline/CircuitKeyCheckedServicePinLaw", "pick", "(I)C"⟩ : MethodName)) (hw _ (List.mem_of_getElem? (i := 1) rfl)) (hw _ (List.mem_of_getElem? (i := 2) rfl)) (hw _ (List.mem_of_getElem? (i := 3) rfl)) (hw _ (List.mem_of_getElem? (i := 4) rfl)) (by decide) (W := 0) (by decide) (by decide) N0 e0 (by rw [hml]; rfl) (argsL := [(.int p2)]) (rest := []) (lenOf pd_13 rfl) (Nat.le_of_eq rfl) (by decide) (by decide) (rm1 l Z a0 hw [] p2 h0 n0 O0) rfl (hb hby at_9) ?_
    intro v95 T95 lc95 X95 N95 hQ95
    obtain ⟨w_95, rfl, hq95_0, e95⟩ := hQ95
    refine own_istore X95 hx (Ls' := #[.val (.int p1), .val (.int p2), .val (.int p3), .val (.int p4), .val (.int p5), .val (.int (4 : Int32)), .val (.int w_95), .unset, .unset, .unset, .unset, .unset, .unset, .unset]) (hb hby at_12) rfl ?_
    refine own_iloadN X95 hx (hb hby at_14) rfl ?_
    refine own_callS X95 hx hZ hown (y := (⟨"com/example/fuseline/fuseline/CircuitKeyCheckedServicePinLaw", "pick", "(I)C"⟩ : MethodName)) (hw _ (List.mem_of_getElem? (i := 1) rfl)) (hw _ (List.mem_of_getElem? (i := 2) rfl)) (hw _ (List.mem_of_getElem? (i := 3) rfl)) (hw _ (List.mem_of_getElem? (i := 4) rfl)) (by decide) (W := 0) (by decide) (by decide) N95 e95 (by rw [hml]; rfl) (argsL := [(.int p3)]) (rest := []) (lenOf pd_13 rfl) (Nat.le_of_eq rfl) (by decide) (by decide) (rm1 l Z a0 hw [] p3 h0 n0 O0) rfl (hb hby at_15) ?_
    intro v96 T96 lc96 X96 N96 hQ96
    obtain ⟨w_96, rfl, hq96_0, e96⟩ := hQ96
    refine own_istore X96 hx (Ls' := #[.val (.int p1), .val (.int p2), .val (.int p3), .val (.int p4), .val (.int p5), .val (.int (4 : Int32)), .val (.int w_95), .val (.int w_96), .unset, .unset, .unset, .unset, .unset, .unset]) (hb hby at_18) rfl ?_
    refine own_iloadN X96 hx (hb hby at_20) rfl ?_
    refine own_callS X96 hx hZ hown (y := (⟨"com/example/fuseline/fuseline/CircuitKeyCheckedServicePinLaw", "pick", "(I)C"⟩ : MethodName)) (hw _ (List.mem_of_getElem? (i := 1) rfl)) (hw _ (List.mem_of_getElem? (i := 2) rfl)) (hw _ (List.mem_of_getElem? (i := 3) rfl)) (hw _ (List.mem_of_getElem? (i := 4) rfl)) (by decide) (W := 0) (by decide) (by decide) N96 e96 (by rw [hml]; rfl) (argsL := [(.int p4)]) (rest := []) (lenOf pd_13 rfl) (Nat.le_of_eq rfl) (by decide) (by decide) (rm1 l Z a0 hw [] p4 h0 n0 O0) rfl (hb hby at_21) ?_
    intro v97 T97 lc97 X97 N97 hQ97
    obtain ⟨w_97, rfl, hq97_0, e97⟩ := hQ97
    refine own_istore X97 hx (Ls' := #[.val (.int p1), .val (.int p2), .val (.int p3), .val (.int p4), .val (.int p5), .val (.int (4 : Int32)), .val (.int w_95), .val (.int w_96), .val (.int w_97), .unset, .unset, .unset, .unset, .unset]) (hb hby at_24) rfl ?_
    refine own_iload X97 hx (hb hby at_26) rfl ?_
    refine own_callS X97 hx hZ hown (y := (⟨"com/example/fuseline/fuseline/CircuitKeyCheckedServicePinLaw", "pick", "(I)C"⟩ : MethodName)) (hw _ (List.mem_of_getElem? (i := 1) rfl)) (hw _ (List.mem_of_getElem? (i := 2) rfl)) (hw _ (List.mem_of_getElem? (i := 3) rfl)) (hw _ (List.mem_of_getElem? (i := 4) rfl)) (by decide) (W := 0) (by decide) (by decide) N97 e97 (by rw [hml]; rfl) (argsL := [(.int p5)]) (rest := []) (lenOf pd_13 rfl) (Nat.le_of_eq rfl) (by decide) (by decide) (rm1 l Z a0 hw [] p5 h0 n0 O0) rfl (hb hby at_28) ?_
    intro v98 T98 lc98 X98 N98 hQ98
    obtain ⟨w_98, rfl, hq98_0, e98⟩ := hQ98
    refine own_istore X98 hx (Ls' := #[.val (.int p1), .val (.int p2), .val (.int p3), .val (.int p4), .val (.int p5), .val (.int (4 : Int32)), .val (.int w_95), .val (.int w_96), .val (.int w_97), .val (.int w_98), .unset, .unset, .unset, .unset]) (hb hby at_31) rfl ?_
    refine own_iload X98 hx (hb hby at_33) rfl ?_
    refine own_newP X98 hx hZ (hw _ (List.mem_of_getElem? (i := 5) rfl)) e98 (hb hby at_35) (by decide) (cap := 4) (by decide) (by decide) (by decide) (by decide) (fun T99 h99 b99 k99 g99 X99 e99 E99 A99 => ?_)
    have ge_b99 : n0 ≤ b99 := Nat.le_trans (own_sz O0) (Nat.le_of_eq g99.symm)
    have sz_b99 : h0.size ≤ b99 := Nat.le_trans KC0.1 (Nat.le_of_eq g99.symm)
    have O100 := O0.ext E99
    have KC100 := KC0.ext E99
    have V99 : Arv Z h99 b99 k99 .char (4 : Int32) [(.int (0 : Int32)), (.int (0 : Int32)), (.int (0 : Int32)), (.int (0 : Int32))] (.int (0 : Int32)) := A99.pad (pad_rep [] (.int (0 : Int32)) 4)
    refine own_astore X99 hx (Ls' := #[.val (.int p1), .val (.int p2), .val (.int p3), .val (.int p4), .val (.int p5), .val (.int (4 : Int32)), .val (.int w_95), .val (.int w_96), .val (.int w_97), .val (.int w_98), .val (.ref b99), .unset, .unset, .unset]) (hb hby at_37) rfl rfl ?_
    refine own_iload X99 hx (hb hby at_39) rfl ?_
    refine own_ifNo X99 hx (hb hby at_41) ((if0 _ _).trans (tlt (by decide : (0 : Int32) < (4 : Int32))).2.2.2) ?_
    refine own_aload X99 hx (hb hby at_44) rfl rfl ?_
    refine own_iconst X99 hx (v := (0 : Int32)) (hb hby at_46) rfl ?_
    refine own_iload X99 hx (hb hby at_47) rfl ?_
    refine own_castore X99 hx hZ N98 e99 V99 ⟨by decide, by decide⟩ (i := 0) rfl (by first | decide | (simp; done)) ge_b99 (hb hby at_49) (fun T101 h101 lc101 X101 e101 N101 W101 V101 => ?_)
    have O102 := O100.wr W101 ge_b99
    have KC102 := KC100.wr W101 (Or.inr sz_b99)
    have V101' : Arv Z h101 b99 k99 .char (4 : Int32) [(.int (nar .char w_95)), (.int (0 : Int32)), (.int (0 : Int32)), (.int (0 : Int32))] (.int (0 : Int32)) := V101
    refine own_iload X101 hx (hb hby at_50) rfl ?_
    refine own_iconst X101 hx (v := (1 : Int32)) (hb hby at_52) rfl ?_
    refine own_icmpNo X101 hx (hb hby at_53) (tlt (by decide : (1 : Int32) < (4 : Int32))).2.2.2 ?_
    refine own_aload X101 hx (hb hby at_56) rfl rfl ?_
    refine own_iconst X101 hx (v := (1 : Int32)) (hb hby at_58) rfl ?_
    refine own_iload X101 hx (hb hby at_59) rfl ?_
    refine own_castore X101 hx hZ N101 e101 V101' ⟨by decide, by decide⟩ (i := 1) rfl (by first | decide | (simp; done)) ge_b99 (hb hby at_61) (fun T103 h103 lc103 X103 e103 N103 W103 V103 => ?_)
    have O104 := O102.wr W103 ge_b99
    have KC104 := KC102.wr W103 (Or.inr sz_b99)
    have V103' : Arv Z h103 b99 k99 .char (4 : Int32) [(.int (nar .char w_95)), (.int (nar .char w_96)), (.int (0 : Int32)), (.int (0 : Int32))] (.int (0 : Int32)) := V103
    refine own_iload X103 hx (hb hby at_62) rfl ?_
    refine own_iconst X103 hx (v := (2 : Int32)) (hb hby at_64) rfl ?_
    refine own_icmpNo X103 hx (hb hby at_65) (tlt (by decide : (2 : Int32) < (4 : Int32))).2.2.2 ?_
    refine own_aload X103 hx (hb hby at_68) rfl rfl ?_
    refine own_iconst X103 hx (v := (2 : Int32)) (hb hby at_70) rfl ?_
    refine own_iload X103 hx (hb hby at_71) rfl ?_
    refine own_castore X103 hx hZ N103 e103 V103' ⟨by decide, by decide⟩ (i := 2) rfl (by first | decide | (simp; done)) ge_b99 (hb hby at_73) (fun T105 h105 lc105 X105 e105 N105 W105 V105 => ?_)
    have O106 := O104.wr W105 ge_b99
    have KC106 := KC104.wr W105 (Or.inr sz_b99)
    have V105' : Arv Z h105 b99 k99 .char (4 : Int32) [(.int (nar .char w_95)), (.int (nar .char w_96)), (.int (nar .char w_97)), (.int (0 : Int32))] (.int (0 : Int32)) := V105
    refine own_iload X105 hx (hb hby at_74) rfl ?_
    refine own_iconst X105 hx (v := (3 : Int32)) (hb hby at_76) rfl ?_
    refine own_icmpNo X105 hx (hb hby at_77) (tlt (by decide : (3 : Int32) < (4 : Int32))).2.2.2 ?_
    refine own_aload X105 hx (hb hby at_80) rfl rfl ?_
    refine own_iconst X105 hx (v := (3 : Int32)) (hb hby at_82) rfl ?_
    refine own_iload X105 hx (hb hby at_83) rfl ?_
    refine own_castore X105 hx hZ N105 e105 V105' ⟨by decide, by decide⟩ (i := 3) rfl (by first | decide | (simp; done)) ge_b99 (hb hby at_85) (fun T107 h107 lc107 X107 e107 N107 W107 V107 => ?_)
    have O108 := O106.wr W107 ge_b99
    have KC108 := KC106.wr W107 (Or.inr sz_b99)
    have V107' : Arv Z h107 b99 k99 .char (4 : Int32) [(.int (nar .char w_95)), (.int (nar .char w_96)), (.int (nar .char w_97)), (.int (nar .char w_98))] (.int (0 : Int32)) := V107
    show Goes _ _ _ _ _ _ (T107.setTop (mkF m 86 #[.val (.int p1), .val (.int p2), .val (.int p3), .val (.int p4), .val (.int p5), .val (.int (4 : Int32)), .val (.int w_95), .val (.int w_96), .val (.int w_97), .val (.int w_98), .val (.ref b99), .unset, .unset, .unset] []))
    have VA109 : Arv Z h107 b99 k99 .char (4 : Int32) [(.int w_95), (.int w_96), (.int w_97), (.int w_98)] (.int (0 : Int32)) := by
      have V := V107'
      rw [own_nar hq95_0, own_nar hq96_0, own_nar hq97_0, own_nar hq98_0] at V
      exact V
    refine own_new X107 hx hZ hown (hw _ (List.mem_of_getElem? (i := 6) rfl)) (hw _ (List.mem_of_getElem? (i := 7) rfl)) (hw _ (List.mem_of_getElem? (i := 8) rfl)) e107 (hb hby at_86) (by decide) (by decide) (fun T110 h110 b110 g110 X110 e110 E110 A110 D110 => ?_)
    have ne_b99_b110 : b99 ≠ b110 := Nat.ne_of_lt (Nat.lt_of_lt_of_le VA109.lt (Nat.le_of_eq g110.symm))
    have ge_b110 : n0 ≤ b110 := Nat.le_trans (own_sz O108) (Nat.le_of_eq g110.symm)
    have sz_b110 : h0.size ≤ b110 := Nat.le_trans KC108.1 (Nat.le_of_eq g110.symm)
    have A111_b99 := VA109.ext E110
    have O111 := O108.ext E110
    have KC111 := KC108.ext E110
    have F110_value_b110 : Fld Z h110 b110 "java/lang/String" "value" "[B" .null := D110 (Or.inr (hw _ (List.mem_of_getElem? (i := 21) rfl))) (ty := (.array .byte)) (by decide)
    have F110_coder_b110 : Fld Z h110 b110 "java/lang/String" "coder" "B" (.int (0 : Int32)) := D110 (Or.inr (hw _ (List.mem_of_getElem? (i := 22) rfl))) (ty := .byte) (by decide)
    refine own_dup X110 hx (hb hby at_89) rfl ?_
    refine own_aload X110 hx (hb hby at_90) rfl rfl ?_
    show Goes _ _ _ _ _ _ (T110.setTop (mkF m 92 #[.val (.int p1), .val (.int p2), .val (.int p3), .val (.int p4), .val (.int p5), .val (.int (4 : Int32)), .val (.int w_95), .val (.int w_96), .val (.int w_97), .val (.int w_98), .val (.ref b99), .unset, .unset, .unset] [(.ref b99), (.ref b110), (.ref b110)]))
    refine own_strNew X110 hx hZ hown (hw _ (List.mem_of_getElem? (i := 9) rfl)) (hw _ (List.mem_of_getElem? (i := 10) rfl)) (hw _ (List.mem_of_getElem? (i := 11) rfl)) (own_wNew hw) (hw _ (List.mem_of_getElem? (i := 7) rfl)) (cs := [w_95, w_96, w_97, w_98]) N107 e110 ge_b110 (own_sz O111) A110 F110_value_b110 F110_coder_b110 (n := 4) rfl (by decide +kernel) A111_b99 (z0.ext O111.2) hzc (by decide) (by decide) (by simp only [List.mem_cons, List.not_mem_nil, or_false, forall_eq_or_imp, forall_eq]; exact ⟨hq95_0, hq96_0, hq97_0, hq98_0⟩) (W := 1) (rest := [(.ref b110)]) (by decide) (by decide) (by rw [hml]; rfl) (Nat.le_of_eq rfl) (by decide) (by decide) (hb hby at_92) (fun T112 lc112 h112 X112 e112 N112 K112 I112 => ?_)
    have E113_b110 := A110.keep K112
    have A113_b99 := A111_b99.keep K112 (ninS ne_b99_b110 nin0)
    have O113 := O111.keep K112 (allS ge_b110 all0)
    have KC113 := KC111.trans K112 (allS (Or.inr sz_b110) all0)
    obtain ⟨t112, kb112, UE112, UV112, UC112, UA112, -⟩ := id I112
    have UB112 : Arv Z h112 t112 kb112 .byte (4 : Int32) [(.int (w_95.toInt8.toInt32)), (.int (w_96.toInt8.toInt32)), (.int (w_97.toInt8.toInt32)), (.int (w_98.toInt8.toInt32))] (.int (0 : Int32)) := UA112
    refine own_astore X112 hx (Ls' := #[.val (.int p1), .val (.int p2), .val (.int p3), .val (.int p4), .val (.int p5), .val (.int (4 : Int32)), .val (.int w_95), .val (.int w_96), .val (.int w_97), .val (.int w_98), .val (.ref b99), .val (.ref b110), .unset, .unset]) (hb hby at_95) rfl rfl ?_
    refine own_iload X112 hx (hb hby at_97) rfl ?_
    refine own_ifNo X112 hx (hb hby at_99) ((if0 _ _).trans (tlt (by decide : (0 : Int32) < (4 : Int32))).2.2.2) ?_
    refine own_iconst X112 hx (v := (1 : Int32)) (hb hby at_102) rfl ?_
    refine own_goto X112 hx (pc' := 107) (hb hby at_103) (by decide) (by decide) ?_
    refine own_istore X112 hx (Ls' := #[.val (.int p1), .val (.int p2), .val (.int p3), .val (.int p4), .val (.int p5), .val (.int (4 : Int32)), .val (.int w_95), .val (.int w_96), .val (.int w_97), .val (.int w_98), .val (.ref b99), .val (.ref b110), .val (.int (1 : Int32)), .unset]) (hb hby at_107) rfl ?_
    refine own_iload X112 hx (hb hby at_109) rfl ?_
    refine own_iconst X112 hx (v := (1 : Int32)) (hb hby at_111) rfl ?_
    show Goes _ _ _ _ _ _ (T112.setTop (mkF m 112 #[.val (.int p1), .val (.int p2), .val (.int p3), .val (.int p4), .val (.int p5), .val (.int (4 : Int32)), .val (.int w_95), .val (.int w_96), .val (.int w_97), .val (.int w_98), .val (.ref b99), .val (.ref b110), .val (.int (1 : Int32)), .unset] [(.int (1 : Int32)), (.int (4 : Int32))]))
    refine own_icmpNo X112 hx (hb hby at_112) (tlt (by decide : (1 : Int32) < (4 : Int32))).2.2.2 ?_
    refine own_iload X112 hx (hb hby at_115) rfl ?_
    refine own_iload X112 hx (hb hby at_117) rfl ?_
    refine own_callS X112 hx hZ hown (y := (⟨"com/example/fuseline/fuseline/CircuitKeyCheckedServicePinLaw", "joins", "(CC)Z"⟩ : MethodName)) (hw _ (List.mem_of_getElem? (i := 38) rfl)) (hw _ (List.mem_of_getElem? (i := 39) rfl)) (hw _ (List.mem_of_getElem? (i := 3) rfl)) (hw _ (List.mem_of_getElem? (i := 40) rfl)) (by decide) (W := 0) (by decide) (by decide) N112 e112 (by rw [hml]; rfl) (argsL := [(.int w_95), (.int w_96)]) (rest := []) (lenOf pd_17 rfl) (Nat.le_of_eq rfl) (by decide) (by decide) (rm8 l Z a0 hw [] w_95 w_96 h112 n0 O113) rfl (hb hby at_119) ?_
    intro v114 T114 lc114 X114 N114 hQ114
    rcases hQ114 with hQ114_0 | hQ114_1
    ·
      obtain ⟨rfl, hq114_0_0, e114⟩ := hQ114_0
      refine own_ifNo X114 hx (hb hby at_122) ((if0 _ _).trans (feq (by decide : ¬ ((1 : Int32) = (0 : Int32)))).1) ?_
      refine own_iconst X114 hx (v := (0 : Int32)) (hb hby at_125) rfl ?_
      refine own_istore X114 hx (Ls' := #[.val (.int p1), .val (.int p2), .val (.int p3), .val (.int p4), .val (.int p5), .val (.int (4 : Int32)), .val (.int w_95), .val (.int w_96), .val (.int w_97), .val (.int w_98), .val (.ref b99), .val (.ref b110), .val (.int (0 : Int32)), .unset]) (hb hby at_126) rfl ?_
      refine own_iload X114 hx (hb hby at_128) rfl ?_
      refine own_iconst X114 hx (v := (2 : Int32)) (hb hby at_130) rfl ?_
      refine own_icmpNo X114 hx (hb hby at_131) (tlt (by decide : (2 : Int32) < (4 : Int32))).2.2.2 ?_
      refine own_iload X114 hx (hb hby at_134) rfl ?_
      refine own_iload X114 hx (hb hby at_136) rfl ?_
      refine own_callS X114 hx hZ hown (y := (⟨"com/example/fuseline/fuseline/CircuitKeyCheckedServicePinLaw", "joins", "(CC)Z"⟩ : MethodName)) (hw _ (List.mem_of_getElem? (i := 38) rfl)) (hw _ (List.mem_of_getElem? (i := 39) rfl)) (hw _ (List.mem_of_getElem? (i := 3) rfl)) (hw _ (List.mem_of_getElem? (i := 40) rfl)) (by decide) (W := 0) (by decide) (by decide) N114 e114 (by rw [hml]; rfl) (argsL := [(.int w_96), (.int w_97)]) (rest := []) (lenOf pd_17 rfl) (Nat.le_of_eq rfl) (by decide) (by decide) (rm8 l Z a0 hw [] w_96 w_97 h112 n0 O113) rfl (hb hby at_138) ?_
      intro v115 T115 lc115 X115 N115 hQ115
      rcases hQ115 with hQ115_0 | hQ115_1
      ·
        obtain ⟨rfl, hq115_0_0, e115⟩ := hQ115_0
        refine own_ifNo X115 hx (hb hby at_141) ((if0 _ _).trans (feq (by decide : ¬ ((1 : Int32) = (0 : Int32)))).1) ?_
        refine own_iconst X115 hx (v := (0 : Int32)) (hb hby at_144) rfl ?_
        refine own_istore X115 hx (Ls' := #[.val (.int p1), .val (.int p2), .val (.int p3), .val (.int p4), .val (.int p5), .val (.int (4 : Int32)), .val (.int w_95), .val (.int w_96), .val (.int w_97), .val (.int w_98), .val (.ref b99), .val (.ref b110), .val (.int (0 : Int32)), .unset]) (hb hby at_145) rfl ?_
        refine own_iload X115 hx (hb hby at_147) rfl ?_
        refine own_iconst X115 hx (v := (3 : Int32)) (hb hby at_149) rfl ?_
        refine own_icmpNo X115 hx (hb hby at_150) (tlt (by decide : (3 : Int32) < (4 : Int32))).2.2.2 ?_
        refine own_iload X115 hx (hb hby at_153) rfl ?_
        refine own_iload X115 hx (hb hby at_155) rfl ?_
        refine own_callS X115 hx hZ hown (y := (⟨"com/example/fuseline/fuseline/CircuitKeyCheckedServicePinLaw", "joins", "(CC)Z"⟩ : MethodName)) (hw _ (List.mem_of_getElem? (i := 38) rfl)) (hw _ (List.mem_of_getElem? (i := 39) rfl)) (hw _ (List.mem_of_getElem? (i := 3) rfl)) (hw _ (List.mem_of_getElem? (i := 40) rfl)) (by decide) (W := 0) (by decide) (by decide) N115 e115 (by rw [hml]; rfl) (argsL := [(.int w_97), (.int w_98)]) (rest := []) (lenOf pd_17 rfl) (Nat.le_of_eq rfl) (by decide) (by decide) (rm8 l Z a0 hw [] w_97 w_98 h112 n0 O113) rfl (hb hby at_157) ?_
        intro v116 T116 lc116 X116 N116 hQ116
        rcases hQ116 with hQ116_0 | hQ116_1
        ·
          obtain ⟨rfl, hq116_0_0, e116⟩ := hQ116_0
          refine own_ifNo X116 hx (hb hby at_160) ((if0 _ _).trans (feq (by decide : ¬ ((1 : Int32) = (0 : Int32)))).1) ?_
          refine own_iconst X116 hx (v := (0 : Int32)) (hb hby at_163) rfl ?_
          refine own_istore X116 hx (Ls' := #[.val (.int p1), .val (.int p2), .val (.int p3), .val (.int p4), .val (.int p5), .val (.int (4 : Int32)), .val (.int w_95), .val (.int w_96), .val (.int w_97), .val (.int w_98), .val (.ref b99), .val (.ref b110), .val (.int (0 : Int32)), .unset]) (hb hby at_164) rfl ?_
          refine own_iload X116 hx (hb hby at_166) rfl ?_
          refine own_ifNo X116 hx (hb hby at_168) ((if0 _ _).trans (tlt (by decide : (0 : Int32) < (4 : Int32))).2.2.2) ?_
          refine own_aload X116 hx (hb hby at_171) rfl rfl ?_
          refine own_iload X116 hx (hb hby at_173) rfl ?_
          refine own_iconst X116 hx (v := (1 : Int32)) (hb hby at_175) rfl ?_
          refine own_isub X116 hx (hb hby at_176) ?_
          refine own_caload X116 hx hZ e116 A113_b99 ⟨by decide, by decide⟩ (v := (.int w_98)) rfl (hb hby at_177) ?_
          show Goes _ _ _ _ _ _ (T116.setTop (mkF m 178 #[.val (.int p1), .val (.int p2), .val (.int p3), .val (.int p4), .val (.int p5), .val (.int (4 : Int32)), .val (.int w_95), .val (.int w_96), .val (.int w_97), .val (.int w_98), .val (.ref b99), .val (.ref b110), .val (.int (0 : Int32)), .unset] [(.int w_98)]))
          refine own_bipush X116 hx (v := (58 : Int32)) (hb hby at_178) rfl ?_
          by_cases hc180_117 : w_98 = (58 : Int32)
          ·
            refine own_icmpNo X116 hx (hb hby at_180) (teq (hc180_117 : w_98 = (58 : Int32))).2 ?_
            refine own_iconst X116 hx (v := (0 : Int32)) (hb hby at_183) rfl ?_
            refine own_istore X116 hx (Ls' := #[.val (.int p1), .val (.int p2), .val (.int p3), .val (.int p4), .val (.int p5), .val (.int (4 : Int32)), .val (.int w_95), .val (.int w_96), .val (.int w_97), .val (.int w_98), .val (.ref b99), .val (.ref b110), .val (.int (0 : Int32)), .unset]) (hb hby at_184) rfl ?_
            refine own_iload X116 hx (hb hby at_186) rfl ?_
            refine own_ifNo X116 hx (hb hby at_188) ((if0 _ _).trans (teq (by decide : (0 : Int32) = (0 : Int32))).2) ?_
            refine own_iconst X116 hx (v := (1 : Int32)) (hb hby at_191) rfl ?_
            show Goes _ _ _ _ _ _ (T116.setTop (mkF m 192 #[.val (.int p1), .val (.int p2), .val (.int p3), .val (.int p4), .val (.int p5), .val (.int (4 : Int32)), .val (.int w_95), .val (.int w_96), .val (.int w_97), .val (.int w_98), .val (.ref b99), .val (.ref b110), .val (.int (0 : Int32)), .unset] [(.int (1 : Int32))]))
            have Cc118 := C0.trans (CHr.keep KC113 (by simp) C0.1)
            exact own_retNH X116 hx (t := .boolean) hS0 (Nat.zero_le _) hZ hEL (by rw [e116]; exact Cc118) N116 hlk (by decide) (by decide) hret (by simp) (hb hby at_192) (by rw [e116]; exact rfl)
          ·
            refine own_icmpYes X116 hx (pc' := 186) (hb hby at_180) (feq (hc180_117 : ¬ (w_98 = (58 : Int32)))).2 (by decide) (by decide) ?_
            refine own_iload X116 hx (hb hby at_186) rfl ?_
            refine own_ifNo X116 hx (hb hby at_188) ((if0 _ _).trans (teq (by decide : (0 : Int32) = (0 : Int32))).2) ?_
            refine own_iconst X116 hx (v := (1 : Int32)) (hb hby at_191) rfl ?_
            show Goes _ _ _ _ _ _ (T116.setTop (mkF m 192 #[.val (.int p1), .val (.int p2), .val (.int p3), .val (.int p4), .val (.int p5), .val (.int (4 : Int32)), .val (.int w_95), .val (.int w_96), .val (.int w_97), .val (.int w_98), .val (.ref b99), .val (.ref b110), .val (.int (0 : Int32)), .unset] [(.int (1 : Int32))]))
            have Cc119 := C0.trans (CHr.keep KC113 (by simp) C0.1)
            exact own_retNH X116 hx (t := .boolean) hS0 (Nat.zero_le _) hZ hEL (by rw [e116]; exact Cc119) N116 hlk (by decide) (by decide) hret (by simp) (hb hby at_192) (by rw [e116]; exact rfl)
        ·
          obtain ⟨rfl, hq116_1_0, e116⟩ := hQ116_1
          refine own_ifYes X116 hx (pc' := 166) (hb hby at_160) ((if0 _ _).trans (teq (by decide : (0 : Int32) = (0 : Int32))).1) (by decide) (by decide) ?_
          refine own_iload X116 hx (hb hby at_166) rfl ?_
          refine own_ifNo X116 hx (hb hby at_168) ((if0 _ _).trans (tlt (by decide : (0 : Int32) < (4 : Int32))).2.2.2) ?_
          refine own_aload X116 hx (hb hby at_171) rfl rfl ?_
          refine own_iload X116 hx (hb hby at_173) rfl ?_
          refine own_iconst X116 hx (v := (1 : Int32)) (hb hby at_175) rfl ?_
          refine own_isub X116 hx (hb hby at_176) ?_
          refine own_caload X116 hx hZ e116 A113_b99 ⟨by decide, by decide⟩ (v := (.int w_98)) rfl (hb hby at_177) ?_
          show Goes _ _ _ _ _ _ (T116.setTop (mkF m 178 #[.val (.int p1), .val (.int p2), .val (.int p3), .val (.int p4), .val (.int p5), .val (.int (4 : Int32)), .val (.int w_95), .val (.int w_96), .val (.int w_97), .val (.int w_98), .val (.ref b99), .val (.ref b110), .val (.int (0 : Int32)), .unset] [(.int w_98)]))
          refine own_bipush X116 hx (v := (58 : Int32)) (hb hby at_178) rfl ?_
          by_cases hc180_120 : w_98 = (58 : Int32)
          ·
            refine own_icmpNo X116 hx (hb hby at_180) (teq (hc180_120 : w_98 = (58 : Int32))).2 ?_
            refine own_iconst X116 hx (v := (0 : Int32)) (hb hby at_183) rfl ?_
            refine own_istore X116 hx (Ls' := #[.val (.int p1), .val (.int p2), .val (.int p3), .val (.int p4), .val (.int p5), .val (.int (4 : Int32)), .val (.int w_95), .val (.int w_96), .val (.int w_97), .val (.int w_98), .val (.ref b99), .val (.ref b110), .val (.int (0 : Int32)), .unset]) (hb hby at_184) rfl ?_
            refine own_iload X116 hx (hb hby at_186) rfl ?_
            refine own_ifNo X116 hx (hb hby at_188) ((if0 _ _).trans (teq (by decide : (0 : Int32) = (0 : Int32))).2) ?_
            refine own_iconst X116 hx (v := (1 : Int32)) (hb hby at_191) rfl ?_
            show Goes _ _ _ _ _ _ (T116.setTop (mkF m 192 #[.val (.int p1), .val (.int p2), .val (.int p3), .val (.int p4), .val (.int p5), .val (.int (4 : Int32)), .val (.int w_95), .val (.int w_96), .val (.int w_97), .val (.int w_98), .val (.ref b99), .val (.ref b110), .val (.int (0 : Int32)), .unset] [(.int (1 : Int32))]))
            have Cc121 := C0.trans (CHr.keep KC113 (by simp) C0.1)
            exact own_retNH X116 hx (t := .boolean) hS0 (Nat.zero_le _) hZ hEL (by rw [e116]; exact Cc121) N116 hlk (by decide) (by decide) hret (by simp) (hb hby at_192) (by rw [e116]; exact rfl)
          ·
            refine own_icmpYes X116 hx (pc' := 186) (hb hby at_180) (feq (hc180_120 : ¬ (w_98 = (58 : Int32)))).2 (by decide) (by decide) ?_
            refine own_iload X116 hx (hb hby at_186) rfl ?_
            refine own_ifNo X116 hx (hb hby at_188) ((if0 _ _).trans (teq (by decide : (0 : Int32) = (0 : Int32))).2) ?_
            refine own_iconst X116 hx (v := (1 : Int32)) (hb hby at_191) rfl ?_
            show Goes _ _ _ _ _ _ (T116.setTop (mkF m 192 #[.val (.int p1), .val (.int p2), .val (.int p3), .val (.int p4), .val (.int p5), .val (.int (4 : Int32)), .val (.int w_95), .val (.int w_96), .val (.int w_97), .val (.int w_98), .val (.ref b99), .val (.ref b110), .val (.int (0 : Int32)), .unset] [(.int (1 : Int32))]))
            have Cc122 := C0.trans (CHr.keep KC113 (by simp) C0.1)
            exact own_retNH X116 hx (t := .boolean) hS0 (Nat.zero_le _) hZ hEL (by rw [e116]; exact Cc122) N116 hlk (by decide) (by decide) hret (by simp) (hb hby at_192) (by rw [e116]; exact rfl)
      ·
        obtain ⟨rfl, hq115_1_0, e115⟩ := hQ115_1
        refine own_ifYes X115 hx (pc' := 147) (hb hby at_141) ((if0 _ _).trans (teq (by decide : (0 : Int32) = (0 : Int32))).1) (by decide) (by decide) ?_
        refine own_iload X115 hx (hb hby at_147) rfl ?_
        refine own_iconst X115 hx (v := (3 : Int32)) (hb hby at_149) rfl ?_
        refine own_icmpNo X115 hx (hb hby at_150) (tlt (by decide : (3 : Int32) < (4 : Int32))).2.2.2 ?_
        refine own_iload X115 hx (hb hby at_153) rfl ?_
        refine own_iload X115 hx (hb hby at_155) rfl ?_
        refine own_callS X115 hx hZ hown (y := (⟨"com/example/fuseline/fuseline/CircuitKeyCheckedServicePinLaw", "joins", "(CC)Z"⟩ : MethodName)) (hw _ (List.mem_of_getElem? (i := 38) rfl)) (hw _ (List.mem_of_getElem? (i := 39) rfl)) (hw _ (List.mem_of_getElem? (i := 3) rfl)) (hw _ (List.mem_of_getElem? (i := 40) rfl)) (by decide) (W := 0) (by decide) (by decide) N115 e115 (by rw [hml]; rfl) (argsL := [(.int w_97), (.int w_98)]) (rest := []) (lenOf pd_17 rfl) (Nat.le_of_eq rfl) (by decide) (by decide) (rm8 l Z a0 hw [] w_97 w_98 h112 n0 O113) rfl (hb hby at_157) ?_
        intro v123 T123 lc123 X123 N123 hQ123
        rcases hQ123 with hQ123_0 | hQ123_1
        ·
          obtain ⟨rfl, hq123_0_0, e123⟩ := hQ123_0
          refine own_ifNo X123 hx (hb hby at_160) ((if0 _ _).trans (feq (by decide : ¬ ((1 : Int32) = (0 : Int32)))).1) ?_
          refine own_iconst X123 hx (v := (0 : Int32)) (hb hby at_163) rfl ?_
          refine own_istore X123 hx (Ls' := #[.val (.int p1), .val (.int p2), .val (.int p3), .val (.int p4), .val (.int p5), .val (.int (4 : Int32)), .val (.int w_95), .val (.int w_96), .val (.int w_97), .val (.int w_98), .val (.ref b99), .val (.ref b110), .val (.int (0 : Int32)), .unset]) (hb hby at_164) rfl ?_
          refine own_iload X123 hx (hb hby at_166) rfl ?_
          refine own_ifNo X123 hx (hb hby at_168) ((if0 _ _).trans (tlt (by decide : (0 : Int32) < (4 : Int32))).2.2.2) ?_
          refine own_aload X123 hx (hb hby at_171) rfl rfl ?_
          refine own_iload X123 hx (hb hby at_173) rfl ?_
          refine own_iconst X123 hx (v := (1 : Int32)) (hb hby at_175) rfl ?_
          refine own_isub X123 hx (hb hby at_176) ?_
          refine own_caload X123 hx hZ e123 A113_b99 ⟨by decide, by decide⟩ (v := (.int w_98)) rfl (hb hby at_177) ?_
          show Goes _ _ _ _ _ _ (T123.setTop (mkF m 178 #[.val (.int p1), .val (.int p2), .val (.int p3), .val (.int p4), .val (.int p5), .val (.int (4 : Int32)), .val (.int w_95), .val (.int w_96), .val (.int w_97), .val (.int w_98), .val (.ref b99), .val (.ref b110), .val (.int (0 : Int32)), .unset] [(.int w_98)]))
          refine own_bipush X123 hx (v := (58 : Int32)) (hb hby at_178) rfl ?_
          by_cases hc180_124 : w_98 = (58 : Int32)
          ·
            refine own_icmpNo X123 hx (hb hby at_180) (teq (hc180_124 : w_98 = (58 : Int32))).2 ?_
            refine own_iconst X123 hx (v := (0 : Int32)) (hb hby at_183) rfl ?_
            refine own_istore X123 hx (Ls' := #[.val (.int p1), .val (.int p2), .val (.int p3), .val (.int p4), .val (.int p5), .val (.int (4 : Int32)), .val (.int w_95), .val (.int w_96), .val (.int w_97), .val (.int w_98), .val (.ref b99), .val (.ref b110), .val (.int (0 : Int32)), .unset]) (hb hby at_184) rfl ?_
            refine own_iload X123 hx (hb hby at_186) rfl ?_
            refine own_ifNo X123 hx (hb hby at_188) ((if0 _ _).trans (teq (by decide : (0 : Int32) = (0 : Int32))).2) ?_
            refine own_iconst X123 hx (v := (1 : Int32)) (hb hby at_191) rfl ?_
            show Goes _ _ _ _ _ _ (T123.setTop (mkF m 192 #[.val (.int p1), .val (.int p2), .val (.int p3), .val (.int p4), .val (.int p5), .val (.int (4 : Int32)), .val (.int w_95), .val (.int w_96), .val (.int w_97), .val (.int w_98), .val (.ref b99), .val (.ref b110), .val (.int (0 : Int32)), .unset] [(.int (1 : Int32))]))
            have Cc125 := C0.trans (CHr.keep KC113 (by simp) C0.1)
            exact own_retNH X123 hx (t := .boolean) hS0 (Nat.zero_le _) hZ hEL (by rw [e123]; exact Cc125) N123 hlk (by decide) (by decide) hret (by simp) (hb hby at_192) (by rw [e123]; exact rfl)
          ·
            refine own_icmpYes X123 hx (pc' := 186) (hb hby at_180) (feq (hc180_124 : ¬ (w_98 = (58 : Int32)))).2 (by decide) (by decide) ?_
            refine own_iload X123 hx (hb hby at_186) rfl ?_
            refine own_ifNo X123 hx (hb hby at_188) ((if0 _ _).trans (teq (by decide : (0 : Int32) = (0 : Int32))).2) ?_
            refine own_iconst X123 hx (v := (1 : Int32)) (hb hby at_191) rfl ?_
            show Goes _ _ _ _ _ _ (T123.setTop (mkF m 192 #[.val (.int p1), .val (.int p2), .val (.int p3), .val (.int p4), .val (.int p5), .val (.int (4 : Int32)), .val (.int w_95), .val (.int w_96), .val (.int w_97), .val (.int w_98), .val (.ref b99), .val (.ref b110), .val (.int (0 : Int32)), .unset] [(.int (1 : Int32))]))
            have Cc126 := C0.trans (CHr.keep KC113 (by simp) C0.1)
            exact own_retNH X123 hx (t := .boolean) hS0 (Nat.zero_le _) hZ hEL (by rw [e123]; exact Cc126) N123 hlk (by decide) (by decide) hret (by simp) (hb hby at_192) (by rw [e123]; exact rfl)
        ·
          obtain ⟨rfl, hq123_1_0, e123⟩ := hQ123_1
          refine own_ifYes X123 hx (pc' := 166) (hb hby at_160) ((if0 _ _).trans (teq (by decide : (0 : Int32) = (0 : Int32))).1) (by decide) (by decide) ?_
          refine own_iload X123 hx (hb hby at_166) rfl ?_
          refine own_ifNo X123 hx (hb hby at_168) ((if0 _ _).trans (tlt (by decide : (0 : Int32) < (4 : Int32))).2.2.2) ?_
          refine own_aload X123 hx (hb hby at_171) rfl rfl ?_
          refine own_iload X123 hx (hb hby at_173) rfl ?_
          refine own_iconst X123 hx (v := (1 : Int32)) (hb hby at_175) rfl ?_
          refine own_isub X123 hx (hb hby at_176) ?_
          refine own_caload X123 hx hZ e123 A113_b99 ⟨by decide, by decide⟩ (v := (.int w_98)) rfl (hb hby at_177) ?_
          show Goes _ _ _ _ _ _ (T123.setTop (mkF m 178 #[.val (.int p1), .val (.int p2), .val (.int p3), .val (.int p4), .val (.int p5), .val (.int (4 : Int32)), .val (.int w_95), .val (.int w_96), .val (.int w_97), .val (.int w_98), .val (.ref b99), .val (.ref b110), .val (.int (0 : Int32)), .unset] [(.int w_98)]))
          refine own_bipush X123 hx (v := (58 : Int32)) (hb hby at_178) rfl ?_
          by_cases hc180_127 : w_98 = (58 : Int32)
          ·
            refine own_icmpNo X123 hx (hb hby at_180) (teq (hc180_127 : w_98 = (58 : Int32))).2 ?_
            refine own_iconst X123 hx (v := (0 : Int32)) (hb hby at_183) rfl ?_
            refine own_istore X123 hx (Ls' := #[.val (.int p1), .val (.int p2), .val (.int p3), .val (.int p4), .val (.int p5), .val (.int (4 : Int32)), .val (.int w_95), .val (.int w_96), .val (.int w_97), .val (.int w_98), .val (.ref b99), .val (.ref b110), .val (.int (0 : Int32)), .unset]) (hb hby at_184) rfl ?_
            refine own_iload X123 hx (hb hby at_186) rfl ?_
            refine own_ifNo X123 hx (hb hby at_188) ((if0 _ _).trans (teq (by decide : (0 : Int32) = (0 : Int32))).2) ?_
            refine own_iconst X123 hx (v := (1 : Int32)) (hb hby at_191) rfl ?_
            show Goes _ _ _ _ _ _ (T123.setTop (mkF m 192 #[.val (.int p1), .val (.int p2), .val (.int p3), .val (.int p4), .val (.int p5), .val (.int (4 : Int32)), .val (.int w_95), .val (.int w_96), .val (.int w_97), .val (.int w_98), .val (.ref b99), .val (.ref b110), .val (.int (0 : Int32)), .unset] [(.int (1 : Int32))]))
            have Cc128 := C0.trans (CHr.keep KC113 (by simp) C0.1)
            exact own_retNH X123 hx (t := .boolean) hS0 (Nat.zero_le _) hZ hEL (by rw [e123]; exact Cc128) N123 hlk (by decide) (by decide) hret (by simp) (hb hby at_192) (by rw [e123]; exact rfl)
          ·
            refine own_icmpYes X123 hx (pc' := 186) (hb hby at_180) (feq (hc180_127 : ¬ (w_98 = (58 : Int32)))).2 (by decide) (by decide) ?_
            refine own_iload X123 hx (hb hby at_186) rfl ?_
            refine own_ifNo X123 hx (hb hby at_188) ((if0 _ _).trans (teq (by decide : (0 : Int32) = (0 : Int32))).2) ?_
            refine own_iconst X123 hx (v := (1 : Int32)) (hb hby at_191) rfl ?_
            show Goes _ _ _ _ _ _ (T123.setTop (mkF m 192 #[.val (.int p1), .val (.int p2), .val (.int p3), .val (.int p4), .val (.int p5), .val (.int (4 : Int32)), .val (.int w_95), .val (.int w_96), .val (.int w_97), .val (.int w_98), .val (.ref b99), .val (.ref b110), .val (.int (0 : Int32)), .unset] [(.int (1 : Int32))]))
            have Cc129 := C0.trans (CHr.keep KC113 (by simp) C0.1)
            exact own_retNH X123 hx (t := .boolean) hS0 (Nat.zero_le _) hZ hEL (by rw [e123]; exact Cc129) N123 hlk (by decide) (by decide) hret (by simp) (hb hby at_192) (by rw [e123]; exact rfl)
    ·
      obtain ⟨rfl, hq114_1_0, e114⟩ := hQ114_1
      refine own_ifYes X114 hx (pc' := 128) (hb hby at_122) ((if0 _ _).trans (teq (by decide : (0 : Int32) = (0 : Int32))).1) (by decide) (by decide) ?_
      refine own_iload X114 hx (hb hby at_128) rfl ?_
      refine own_iconst X114 hx (v := (2 : Int32)) (hb hby at_130) rfl ?_
      refine own_icmpNo X114 hx (hb hby at_131) (tlt (by decide : (2 : Int32) < (4 : Int32))).2.2.2 ?_
      refine own_iload X114 hx (hb hby at_134) rfl ?_
      refine own_iload X114 hx (hb hby at_136) rfl ?_
      refine own_callS X114 hx hZ hown (y := (⟨"com/example/fuseline/fuseline/CircuitKeyCheckedServicePinLaw", "joins", "(CC)Z"⟩ : MethodName)) (hw _ (List.mem_of_getElem? (i := 38) rfl)) (hw _ (List.mem_of_getElem? (i := 39) rfl)) (hw _ (List.mem_of_getElem? (i := 3) rfl)) (hw _ (List.mem_of_getElem? (i := 40) rfl)) (by decide) (W := 0) (by decide) (by decide) N114 e114 (by rw [hml]; rfl) (argsL := [(.int w_96), (.int w_97)]) (rest := []) (lenOf pd_17 rfl) (Nat.le_of_eq rfl) (by decide) (by decide) (rm8 l Z a0 hw [] w_96 w_97 h112 n0 O113) rfl (hb hby at_138) ?_
      intro v130 T130 lc130 X130 N130 hQ130
      rcases hQ130 with hQ130_0 | hQ130_1
      ·
        obtain ⟨rfl, hq130_0_0, e130⟩ := hQ130_0
        refine own_ifNo X130 hx (hb hby at_141) ((if0 _ _).trans (feq (by decide : ¬ ((1 : Int32) = (0 : Int32)))).1) ?_
        refine own_iconst X130 hx (v := (0 : Int32)) (hb hby at_144) rfl ?_
        refine own_istore X130 hx (Ls' := #[.val (.int p1), .val (.int p2), .val (.int p3), .val (.int p4), .val (.int p5), .val (.int (4 : Int32)), .val (.int w_95), .val (.int w_96), .val (.int w_97), .val (.int w_98), .val (.ref b99), .val (.ref b110), .val (.int (0 : Int32)), .unset]) (hb hby at_145) rfl ?_
        refine own_iload X130 hx (hb hby at_147) rfl ?_
        refine own_iconst X130 hx (v := (3 : Int32)) (hb hby at_149) rfl ?_
        refine own_icmpNo X130 hx (hb hby at_150) (tlt (by decide : (3 : Int32) < (4 : Int32))).2.2.2 ?_
        refine own_iload X130 hx (hb hby at_153) rfl ?_
        refine own_iload X130 hx (hb hby at_155) rfl ?_
        refine own_callS X130 hx hZ hown (y := (⟨"com/example/fuseline/fuseline/CircuitKeyCheckedServicePinLaw", "joins", "(CC)Z"⟩ : MethodName)) (hw _ (List.mem_of_getElem? (i := 38) rfl)) (hw _ (List.mem_of_getElem? (i := 39) rfl)) (hw _ (List.mem_of_getElem? (i := 3) rfl)) (hw _ (List.mem_of_getElem? (i := 40) rfl)) (by decide) (W := 0) (by decide) (by decide) N130 e130 (by rw [hml]; rfl) (argsL := [(.int w_97), (.int w_98)]) (rest := []) (lenOf pd_17 rfl) (Nat.le_of_eq rfl) (by decide) (by decide) (rm8 l Z a0 hw [] w_97 w_98 h112 n0 O113) rfl (hb hby at_157) ?_
        intro v131 T131 lc131 X131 N131 hQ131
        rcases hQ131 with hQ131_0 | hQ131_1
        ·
          obtain ⟨rfl, hq131_0_0, e131⟩ := hQ131_0
          refine own_ifNo X131 hx (hb hby at_160) ((if0 _ _).trans (feq (by decide : ¬ ((1 : Int32) = (0 : Int32)))).1) ?_
          refine own_iconst X131 hx (v := (0 : Int32)) (hb hby at_163) rfl ?_
          refine own_istore X131 hx (Ls' := #[.val (.int p1), .val (.int p2), .val (.int p3), .val (.int p4), .val (.int p5), .val (.int (4 : Int32)), .val (.int w_95), .val (.int w_96), .val (.int w_97), .val (.int w_98), .val (.ref b99), .val (.ref b110), .val (.int (0 : Int32)), .unset]) (hb hby at_164) rfl ?_
          refine own_iload X131 hx (hb hby at_166) rfl ?_
          refine own_ifNo X131 hx (hb hby at_168) ((if0 _ _).trans (tlt (by decide : (0 : Int32) < (4 : Int32))).2.2.2) ?_
          refine own_aload X131 hx (hb hby at_171) rfl rfl ?_
          refine own_iload X131 hx (hb hby at_173) rfl ?_
          refine own_iconst X131 hx (v := (1 : Int32)) (hb hby at_175) rfl ?_
          refine own_isub X131 hx (hb hby at_176) ?_
          refine own_caload X131 hx hZ e131 A113_b99 ⟨by decide, by decide⟩ (v := (.int w_98)) rfl (hb hby at_177) ?_
          show Goes _ _ _ _ _ _ (T131.setTop (mkF m 178 #[.val (.int p1), .val (.int p2), .val (.int p3), .val (.int p4), .val (.int p5), .val (.int (4 : Int32)), .val (.int w_95), .val (.int w_96), .val (.int w_97), .val (.int w_98), .val (.ref b99), .val (.ref b110), .val (.int (0 : Int32)), .unset] [(.int w_98)]))
          refine own_bipush X131 hx (v := (58 : Int32)) (hb hby at_178) rfl ?_
          by_cases hc180_132 : w_98 = (58 : Int32)
          ·
            refine own_icmpNo X131 hx (hb hby at_180) (teq (hc180_132 : w_98 = (58 : Int32))).2 ?_
            refine own_iconst X131 hx (v := (0 : Int32)) (hb hby at_183) rfl ?_
            refine own_istore X131 hx (Ls' := #[.val (.int p1), .val (.int p2), .val (.int p3), .val (.int p4), .val (.int p5), .val (.int (4 : Int32)), .val (.int w_95), .val (.int w_96), .val (.int w_97), .val (.int w_98), .val (.ref b99), .val (.ref b110), .val (.int (0 : Int32)), .unset]) (hb hby at_184) rfl ?_
            refine own_iload X131 hx (hb hby at_186) rfl ?_
            refine own_ifNo X131 hx (hb hby at_188) ((if0 _ _).trans (teq (by decide : (0 : Int32) = (0 : Int32))).2) ?_
            refine own_iconst X131 hx (v := (1 : Int32)) (hb hby at_191) rfl ?_
            show Goes _ _ _ _ _ _ (T131.setTop (mkF m 192 #[.val (.int p1), .val (.int p2), .val (.int p3), .val (.int p4), .val (.int p5), .val (.int (4 : Int32)), .val (.int w_95), .val (.int w_96), .val (.int w_97), .val (.int w_98), .val (.ref b99), .val (.ref b110), .val (.int (0 : Int32)), .unset] [(.int (1 : Int32))]))
            have Cc133 := C0.trans (CHr.keep KC113 (by simp) C0.1)
            exact own_retNH X131 hx (t := .boolean) hS0 (Nat.zero_le _) hZ hEL (by rw [e131]; exact Cc133) N131 hlk (by decide) (by decide) hret (by simp) (hb hby at_192) (by rw [e131]; exact rfl)
          ·
            refine own_icmpYes X131 hx (pc' := 186) (hb hby at_180) (feq (hc180_132 : ¬ (w_98 = (58 : Int32)))).2 (by decide) (by decide) ?_
            refine own_iload X131 hx (hb hby at_186) rfl ?_
            refine own_ifNo X131 hx (hb hby at_188) ((if0 _ _).trans (teq (by decide : (0 : Int32) = (0 : Int32))).2) ?_
            refine own_iconst X131 hx (v := (1 : Int32)) (hb hby at_191) rfl ?_
            show Goes _ _ _ _ _ _ (T131.setTop (mkF m 192 #[.val (.int p1), .val (.int p2), .val (.int p3), .val (.int p4), .val (.int p5), .val (.int (4 : Int32)), .val (.int w_95), .val (.int w_96), .val (.int w_97), .val (.int w_98), .val (.ref b99), .val (.ref b110), .val (.int (0 : Int32)), .unset] [(.int (1 : Int32))]))
            have Cc134 := C0.trans (CHr.keep KC113 (by simp) C0.1)
            exact own_retNH X131 hx (t := .boolean) hS0 (Nat.zero_le _) hZ hEL (by rw [e131]; exact Cc134) N131 hlk (by decide) (by decide) hret (by simp) (hb hby at_192) (by rw [e131]; exact rfl)
        ·
          obtain ⟨rfl, hq131_1_0, e131⟩ := hQ131_1
          refine own_ifYes X131 hx (pc' := 166) (hb hby at_160) ((if0 _ _).trans (teq (by decide : (0 : Int32) = (0 : Int32))).1) (by decide) (by decide) ?_
          refine own_iload X131 hx (hb hby at_166) rfl ?_
          refine own_ifNo X131 hx (hb hby at_168) ((if0 _ _).trans (tlt (by decide : (0 : Int32) < (4 : Int32))).2.2.2) ?_
          refine own_aload X131 hx (hb hby at_171) rfl rfl ?_
          refine own_iload X131 hx (hb hby at_173) rfl ?_
          refine own_iconst X131 hx (v := (1 : Int32)) (hb hby at_175) rfl ?_
          refine own_isub X131 hx (hb hby at_176) ?_
          refine own_caload X131 hx hZ e131 A113_b99 ⟨by decide, by decide⟩ (v := (.int w_98)) rfl (hb hby at_177) ?_
          show Goes _ _ _ _ _ _ (T131.setTop (mkF m 178 #[.val (.int p1), .val (.int p2), .val (.int p3), .val (.int p4), .val (.int p5), .val (.int (4 : Int32)), .val (.int w_95), .val (.int w_96), .val (.int w_97), .val (.int w_98), .val (.ref b99), .val (.ref b110), .val (.int (0 : Int32)), .unset] [(.int w_98)]))
          refine own_bipush X131 hx (v := (58 : Int32)) (hb hby at_178) rfl ?_
          by_cases hc180_135 : w_98 = (58 : Int32)
          ·
            refine own_icmpNo X131 hx (hb hby at_180) (teq (hc180_135 : w_98 = (58 : Int32))).2 ?_
            refine own_iconst X131 hx (v := (0 : Int32)) (hb hby at_183) rfl ?_
            refine own_istore X131 hx (Ls' := #[.val (.int p1), .val (.int p2), .val (.int p3), .val (.int p4), .val (.int p5), .val (.int (4 : Int32)), .val (.int w_95), .val (.int w_96), .val (.int w_97), .val (.int w_98), .val (.ref b99), .val (.ref b110), .val (.int (0 : Int32)), .unset]) (hb hby at_184) rfl ?_
            refine own_iload X131 hx (hb hby at_186) rfl ?_
            refine own_ifNo X131 hx (hb hby at_188) ((if0 _ _).trans (teq (by decide : (0 : Int32) = (0 : Int32))).2) ?_
            refine own_iconst X131 hx (v := (1 : Int32)) (hb hby at_191) rfl ?_
            show Goes _ _ _ _ _ _ (T131.setTop (mkF m 192 #[.val (.int p1), .val (.int p2), .val (.int p3), .val (.int p4), .val (.int p5), .val (.int (4 : Int32)), .val (.int w_95), .val (.int w_96), .val (.int w_97), .val (.int w_98), .val (.ref b99), .val (.ref b110), .val (.int (0 : Int32)), .unset] [(.int (1 : Int32))]))
            have Cc136 := C0.trans (CHr.keep KC113 (by simp) C0.1)
            exact own_retNH X131 hx (t := .boolean) hS0 (Nat.zero_le _) hZ hEL (by rw [e131]; exact Cc136) N131 hlk (by decide) (by decide) hret (by simp) (hb hby at_192) (by rw [e131]; exact rfl)
          ·
            refine own_icmpYes X131 hx (pc' := 186) (hb hby at_180) (feq (hc180_135 : ¬ (w_98 = (58 : Int32)))).2 (by decide) (by decide) ?_
            refine own_iload X131 hx (hb hby at_186) rfl ?_
            refine own_ifNo X131 hx (hb hby at_188) ((if0 _ _).trans (teq (by decide : (0 : Int32) = (0 : Int32))).2) ?_
            refine own_iconst X131 hx (v := (1 : Int32)) (hb hby at_191) rfl ?_
            show Goes _ _ _ _ _ _ (T131.setTop (mkF m 192 #[.val (.int p1), .val (.int p2), .val (.int p3), .val (.int p4), .val (.int p5), .val (.int (4 : Int32)), .val (.int w_95), .val (.int w_96), .val (.int w_97), .val (.int w_98), .val (.ref b99), .val (.ref b110), .val (.int (0 : Int32)), .unset] [(.int (1 : Int32))]))
            have Cc137 := C0.trans (CHr.keep KC113 (by simp) C0.1)
            exact own_retNH X131 hx (t := .boolean) hS0 (Nat.zero_le _) hZ hEL (by rw [e131]; exact Cc137) N131 hlk (by decide) (by decide) hret (by simp) (hb hby at_192) (by rw [e131]; exact rfl)
      ·
        obtain ⟨rfl, hq130_1_0, e130⟩ := hQ130_1
        refine own_ifYes X130 hx (pc' := 147) (hb hby at_141) ((if0 _ _).trans (teq (by decide : (0 : Int32) = (0 : Int32))).1) (by decide) (by decide) ?_
        refine own_iload X130 hx (hb hby at_147) rfl ?_
        refine own_iconst X130 hx (v := (3 : Int32)) (hb hby at_149) rfl ?_
        refine own_icmpNo X130 hx (hb hby at_150) (tlt (by decide : (3 : Int32) < (4 : Int32))).2.2.2 ?_
        refine own_iload X130 hx (hb hby at_153) rfl ?_
        refine own_iload X130 hx (hb hby at_155) rfl ?_
        refine own_callS X130 hx hZ hown (y := (⟨"com/example/fuseline/fuseline/CircuitKeyCheckedServicePinLaw", "joins", "(CC)Z"⟩ : MethodName)) (hw _ (List.mem_of_getElem? (i := 38) rfl)) (hw _ (List.mem_of_getElem? (i := 39) rfl)) (hw _ (List.mem_of_getElem? (i := 3) rfl)) (hw _ (List.mem_of_getElem? (i := 40) rfl)) (by decide) (W := 0) (by decide) (by decide) N130 e130 (by rw [hml]; rfl) (argsL := [(.int w_97), (.int w_98)]) (rest := []) (lenOf pd_17 rfl) (Nat.le_of_eq rfl) (by decide) (by decide) (rm8 l Z a0 hw [] w_97 w_98 h112 n0 O113) rfl (hb hby at_157) ?_
        intro v138 T138 lc138 X138 N138 hQ138
        rcases hQ138 with hQ138_0 | hQ138_1
        ·
          obtain ⟨rfl, hq138_0_0, e138⟩ := hQ138_0
          refine own_ifNo X138 hx (hb hby at_160) ((if0 _ _).trans (feq (by decide : ¬ ((1 : Int32) = (0 : Int32)))).1) ?_
          refine own_iconst X138 hx (v := (0 : Int32)) (hb hby at_163) rfl ?_
          refine own_istore X138 hx (Ls' := #[.val (.int p1), .val (.int p2), .val (.int p3), .val (.int p4), .val (.int p5), .val (.int (4 : Int32)), .val (.int w_95), .val (.int w_96), .val (.int w_97), .val (.int w_98), .val (.ref b99), .val (.ref b110), .val (.int (0 : Int32)), .unset]) (hb hby at_164) rfl ?_
          refine own_iload X138 hx (hb hby at_166) rfl ?_
          refine own_ifNo X138 hx (hb hby at_168) ((if0 _ _).trans (tlt (by decide : (0 : Int32) < (4 : Int32))).2.2.2) ?_
          refine own_aload X138 hx (hb hby at_171) rfl rfl ?_
          refine own_iload X138 hx (hb hby at_173) rfl ?_
          refine own_iconst X138 hx (v := (1 : Int32)) (hb hby at_175) rfl ?_
          refine own_isub X138 hx (hb hby at_176) ?_
          refine own_caload X138 hx hZ e138 A113_b99 ⟨by decide, by decide⟩ (v := (.int w_98)) rfl (hb hby at_177) ?_
          show Goes _ _ _ _ _ _ (T138.setTop (mkF m 178 #[.val (.int p1), .val (.int p2), .val (.int p3), .val (.int p4), .val (.int p5), .val (.int (4 : Int32)), .val (.int w_95), .val (.int w_96), .val (.int w_97), .val (.int w_98), .val (.ref b99), .val (.ref b110), .val (.int (0 : Int32)), .unset] [(.int w_98)]))
          refine own_bipush X138 hx (v := (58 : Int32)) (hb hby at_178) rfl ?_
          by_cases hc180_139 : w_98 = (58 : Int32)
          ·
            refine own_icmpNo X138 hx (hb hby at_180) (teq (hc180_139 : w_98 = (58 : Int32))).2 ?_
            refine own_iconst X138 hx (v := (0 : Int32)) (hb hby at_183) rfl ?_
            refine own_istore X138 hx (Ls' := #[.val (.int p1), .val (.int p2), .val (.int p3), .val (.int p4), .val (.int p5), .val (.int (4 : Int32)), .val (.int w_95), .val (.int w_96), .val (.int w_97), .val (.int w_98), .val (.ref b99), .val (.ref b110), .val (.int (0 : Int32)), .unset]) (hb hby at_184) rfl ?_
            refine own_iload X138 hx (hb hby at_186) rfl ?_
            refine own_ifNo X138 hx (hb hby at_188) ((if0 _ _).trans (teq (by decide : (0 : Int32) = (0 : Int32))).2) ?_
            refine own_iconst X138 hx (v := (1 : Int32)) (hb hby at_191) rfl ?_
            show Goes _ _ _ _ _ _ (T138.setTop (mkF m 192 #[.val (.int p1), .val (.int p2), .val (.int p3), .val (.int p4), .val (.int p5), .val (.int (4 : Int32)), .val (.int w_95), .val (.int w_96), .val (.int w_97), .val (.int w_98), .val (.ref b99), .val (.ref b110), .val (.int (0 : Int32)), .unset] [(.int (1 : Int32))]))
            have Cc140 := C0.trans (CHr.keep KC113 (by simp) C0.1)
            exact own_retNH X138 hx (t := .boolean) hS0 (Nat.zero_le _) hZ hEL (by rw [e138]; exact Cc140) N138 hlk (by decide) (by decide) hret (by simp) (hb hby at_192) (by rw [e138]; exact rfl)
          ·
            refine own_icmpYes X138 hx (pc' := 186) (hb hby at_180) (feq (hc180_139 : ¬ (w_98 = (58 : Int32)))).2 (by decide) (by decide) ?_
            refine own_iload X138 hx (hb hby at_186) rfl ?_
            refine own_ifNo X138 hx (hb hby at_188) ((if0 _ _).trans (teq (by decide : (0 : Int32) = (0 : Int32))).2) ?_
            refine own_iconst X138 hx (v := (1 : Int32)) (hb hby at_191) rfl ?_
            show Goes _ _ _ _ _ _ (T138.setTop (mkF m 192 #[.val (.int p1), .val (.int p2), .val (.int p3), .val (.int p4), .val (.int p5), .val (.int (4 : Int32)), .val (.int w_95), .val (.int w_96), .val (.int w_97), .val (.int w_98), .val (.ref b99), .val (.ref b110), .val (.int (0 : Int32)), .unset] [(.int (1 : Int32))]))
            have Cc141 := C0.trans (CHr.keep KC113 (by simp) C0.1)
            exact own_retNH X138 hx (t := .boolean) hS0 (Nat.zero_le _) hZ hEL (by rw [e138]; exact Cc141) N138 hlk (by decide) (by decide) hret (by simp) (hb hby at_192) (by rw [e138]; exact rfl)
        ·
          obtain ⟨rfl, hq138_1_0, e138⟩ := hQ138_1
          refine own_ifYes X138 hx (pc' := 166) (hb hby at_160) ((if0 _ _).trans (teq (by decide : (0 : Int32) = (0 : Int32))).1) (by decide) (by decide) ?_
          refine own_iload X138 hx (hb hby at_166) rfl ?_
          refine own_ifNo X138 hx (hb hby at_168) ((if0 _ _).trans (tlt (by decide : (0 : Int32) < (4 : Int32))).2.2.2) ?_
          refine own_aload X138 hx (hb hby at_171) rfl rfl ?_
          refine own_iload X138 hx (hb hby at_173) rfl ?_
          refine own_iconst X138 hx (v := (1 : Int32)) (hb hby at_175) rfl ?_
          refine own_isub X138 hx (hb hby at_176) ?_
          refine own_caload X138 hx hZ e138 A113_b99 ⟨by decide, by decide⟩ (v := (.int w_98)) rfl (hb hby at_177) ?_
          show Goes _ _ _ _ _ _ (T138.setTop (mkF m 178 #[.val (.int p1), .val (.int p2), .val (.int p3), .val (.int p4), .val (.int p5), .val (.int (4 : Int32)), .val (.int w_95), .val (.int w_96), .val (.int w_97), .val (.int w_98), .val (.ref b99), .val (.ref b110), .val (.int (1 : Int32)), .unset] [(.int w_98)]))
          refine own_bipush X138 hx (v := (58 : Int32)) (hb hby at_178) rfl ?_
          by_cases hc180_142 : w_98 = (58 : Int32)
          ·
            refine own_icmpNo X138 hx (hb hby at_180) (teq (hc180_142 : w_98 = (58 : Int32))).2 ?_
            refine own_iconst X138 hx (v := (0 : Int32)) (hb hby at_183) rfl ?_
            refine own_istore X138 hx (Ls' := #[.val (.int p1), .val (.int p2), .val (.int p3), .val (.int p4), .val (.int p5), .val (.int (4 : Int32)), .val (.int w_95), .val (.int w_96), .val (.int w_97), .val (.int w_98), .val (.ref b99), .val (.ref b110), .val (.int (0 : Int32)), .unset]) (hb hby at_184) rfl ?_
            refine own_iload X138 hx (hb hby at_186) rfl ?_
            refine own_ifNo X138 hx (hb hby at_188) ((if0 _ _).trans (teq (by decide : (0 : Int32) = (0 : Int32))).2) ?_
            refine own_iconst X138 hx (v := (1 : Int32)) (hb hby at_191) rfl ?_
            show Goes _ _ _ _ _ _ (T138.setTop (mkF m 192 #[.val (.int p1), .val (.int p2), .val (.int p3), .val (.int p4), .val (.int p5), .val (.int (4 : Int32)), .val (.int w_95), .val (.int w_96), .val (.int w_97), .val (.int w_98), .val (.ref b99), .val (.ref b110), .val (.int (0 : Int32)), .unset] [(.int (1 : Int32))]))
            have Cc143 := C0.trans (CHr.keep KC113 (by simp) C0.1)
            exact own_retNH X138 hx (t := .boolean) hS0 (Nat.zero_le _) hZ hEL (by rw [e138]; exact Cc143) N138 hlk (by decide) (by decide) hret (by simp) (hb hby at_192) (by rw [e138]; exact rfl)
          ·
            refine own_icmpYes X138 hx (pc' := 186) (hb hby at_180) (feq (hc180_142 : ¬ (w_98 = (58 : Int32)))).2 (by decide) (by decide) ?_
            refine own_iload X138 hx (hb hby at_186) rfl ?_
            refine own_ifYes X138 hx (pc' := 193) (hb hby at_188) ((if0 _ _).trans (feq (by decide : ¬ ((1 : Int32) = (0 : Int32)))).2) (by decide) (by decide) ?_
            refine own_aload X138 hx (hb hby at_193) rfl rfl ?_
            have Cc144 := C0.trans (CHr.keep KC113 (by simp) C0.1)
            refine own_callSH X138 hx hZ hown hS0 (Nat.zero_le _) (y := (⟨"com/example/fuseline/fuseline/CircuitKey", "checkedService", "(Ljava/lang/String;)Ljava/lang/String;"⟩ : MethodName)) (hw _ (List.mem_of_getElem? (i := 41) rfl)) (hw _ (List.mem_of_getElem? (i := 42) rfl)) (hw _ (List.mem_of_getElem? (i := 43) rfl)) (hw _ (List.mem_of_getElem? (i := 44) rfl)) hEL Cc144.1 (by decide) (W := 0) (by decide) (by decide) N138 e138 (by rw [hml]; rfl) (argsL := [(.ref b110)]) (rest := []) (lenOf pd_15 rfl) (Nat.le_of_eq rfl) (by decide) (by decide) (rm94 l Z a0 hw hEL [] b110 t112 kb112 (w_95.toInt8.toInt32) (w_96.toInt8.toInt32) (w_97.toInt8.toInt32) (w_98.toInt8.toInt32) zc h112 n0 O113 ⟨z0, hzc, trivial⟩ E113_b110 UV112 UC112 UB112 (own_pa hq95_0 hq96_0 hq114_1_0) (own_pa hq96_0 hq97_0 hq130_1_0) (own_pa hq97_0 hq98_0 hq138_1_0) (own_pc hq95_0 hq96_0 hq114_1_0) (own_pc hq96_0 hq97_0 hq130_1_0) (own_pc hq97_0 hq98_0 hq138_1_0) (own_pe hq98_0 hc180_142)) rfl (hb hby at_195) ?_
            intro v145 T145 lc145 k1_145 X145 hS145 hk145_ hZ hown N145 D145 hQ145
            have CC145 := Cc144.trans D145
            obtain ⟨rfl, K145⟩ := hQ145
            have E146_b110 := E113_b110.keep K145
            have O146 := O113.keep K145 all0
            have KC146 := KC113.trans K145 all0
            have KB147 := Keep.refl T145.heap []
            refine own_astore X145 hx (Ls' := #[.val (.int p1), .val (.int p2), .val (.int p3), .val (.int p4), .val (.int p5), .val (.int (4 : Int32)), .val (.int w_95), .val (.int w_96), .val (.int w_97), .val (.int w_98), .val (.ref b99), .val (.ref b110), .val (.int (1 : Int32)), .val (.ref b110)]) (hb hby at_198) rfl rfl ?_
            refine own_aload X145 hx (hb hby at_200) rfl rfl ?_
            refine own_aload X145 hx (hb hby at_202) rfl rfl ?_
            refine own_virtual X145 hx hZ hown (y := (⟨"java/lang/String", "equals", "(Ljava/lang/Object;)Z"⟩ : MethodName)) (z := (⟨"java/lang/String", "equals", "(Ljava/lang/Object;)Z"⟩ : MethodName)) (hw _ (List.mem_of_getElem? (i := 116) rfl)) (hw _ (List.mem_of_getElem? (i := 117) rfl)) (notFace_of_selects (args := #[]) (mvT hZ (hw _ (List.mem_of_getElem? (i := 119) rfl)))) (hw _ (List.mem_of_getElem? (i := 119) rfl)) (hw _ (List.mem_of_getElem? (i := 118) rfl)) (hw _ (List.mem_of_getElem? (i := 8) rfl)) (hw _ (List.mem_of_getElem? (i := 120) rfl)) (a := b110) E146_b110 (by decide) (W := 0) (by decide) (by decide) N145 rfl (by rw [hml]; rfl) (argsL := [(.ref b110)]) (rest := []) (lenOf pd_16 rfl) (Nat.le_of_eq rfl) (by decide) (by decide) (rm24 l Z a0 hw [] b110 b110 T145.heap n0 O146) rfl (hb hby at_204) ?_
            intro v148 T148 lc148 X148 N148 hQ148
            obtain ⟨rfl, e148⟩ := hQ148
            show Goes _ _ _ _ _ _ (T148.setTop (mkF m 207 #[.val (.int p1), .val (.int p2), .val (.int p3), .val (.int p4), .val (.int p5), .val (.int (4 : Int32)), .val (.int w_95), .val (.int w_96), .val (.int w_97), .val (.int w_98), .val (.ref b99), .val (.ref b110), .val (.int (1 : Int32)), .val (.ref b110)] [(.int (1 : Int32))]))
            exact own_retNH X148 hx (t := .boolean) hS145 (by rw [e148]; exact hk145_) hZ hEL (by rw [e148]; exact CC145) N148 hlk (by decide) (by decide) hret (by simp) (hb hby at_207) (by rw [e148]; exact rfl)
set_option maxRecDepth 65536 in
set_option maxHeartbeats 40000000 in
theorem comes_1 {Post : Tables → Env → Array Value → State → Outcome → State → Prop} (hpost : ∀ tb e args s v u, (limb_1_1.after args s (.returned v) u = true ∧ limb_1_2.after args s (.returned v) u = true ∧ True) → ReturnedEndW s (.returned v) u (Jvm.fieldLocs frame_1_writes args s ++ Jvm.arrayLocs frame_1_arrays args s ++ Jvm.staticLocs frame_1_statics s) 24 5248 → Post tb e args s (.returned v) u) :
    ArmFor flags0 classFile x code maxLocals ret World_1 tables_1 room_1 Calls_1 rest_1 Pre_1 Post := by
  intro l hfl _ _ p e ha hc hk s m args below hf hA hF happ hP
  obtain ⟨hcalls, hrest, hpre⟩ := hP
  obtain ⟨-, -, -, hnamed, -, -, -, hat⟩ := (Spec.applies_iff hf).mp happ
  obtain ⟨hg, hn⟩ := and_e (Cond.before_iff.mp (show (Jvm.Cond.and given_1 narrow_1).before args s = true from hpre))
  obtain ⟨hg1a, hg1b⟩ := and_e hg
  obtain ⟨hg2a, hg2b⟩ := and_e hg1b
  obtain ⟨hg3a, hg3b⟩ := and_e hg2b
  obtain ⟨hg4a, hg4b⟩ := and_e hg3b
  obtain ⟨hg5a, hg5b⟩ := and_e hg4b
  obtain ⟨w0, w1, w2, w3, w4, rfl⟩ : ∃ w0 w1 w2 w3 w4 : Value, args = #[w0, w1, w2, w3, w4] := by
    have hs : args.size = 5 := by simpa [Cond.value, given_1] using hg1a
    obtain ⟨L⟩ := args
    match L, hs with
    | [w0, w1, w2, w3, w4], _ => exact ⟨w0, w1, w2, w3, w4, rfl⟩
  have hw := fun d (hd : d ∈ tables_1) => atoms_spec (ws := Jvm.Cond.code x code maxLocals ret :: tables_1) hat d (List.mem_cons_of_mem _ hd)
  have hfit : Fit s := fun {y c} hc i hi => by
    obtain ⟨ha, rfl⟩ := Array.getElem?_eq_some_iff.mp hc
    have q := List.all_eq_true.mp ((Array.all_eq_true_iff_forall_mem.mp hF) _ (Array.getElem_mem ha)) i (List.mem_range.mpr hi)
    simpa [Array.getElem?_eq_getElem hi] using q
  obtain ⟨hsets, hown0⟩ := atoms_of _ (rest_1_c_eq ▸ (show rest_1_c.before _ s = true from hrest))
  obtain ⟨i0, ei0⟩ := is_v hg2a
  obtain rfl : w0 = (.int i0) := Option.some.inj ei0
  obtain ⟨i1, ei1⟩ := is_v hg3a
  obtain rfl : w1 = (.int i1) := Option.some.inj ei1
  obtain ⟨i2, ei2⟩ := is_v hg4a
  obtain rfl : w2 = (.int i2) := Option.some.inj ei2
  obtain ⟨i3, ei3⟩ := is_v hg5a
  obtain rfl : w3 = (.int i3) := Option.some.inj ei3
  obtain ⟨i4, ei4⟩ := is_v hg5b
  obtain rfl : w4 = (.int i4) := Option.some.inj ei4
  have n3 := not_v (Cond.before_iff.mp (hsets _ (List.mem_of_getElem? (i := 2) rfl)))
  obtain ⟨zc, ezc⟩ := is_v (Cond.before_iff.mp (hsets _ (List.mem_of_getElem? (i := 1) rfl)))
  have hzc : ¬ (zc = (0 : Int32)) := gotF (Cond.eq_ints ezc (Term.int_eval (0))) n3
  have hEL : EW s _ consts_1 := (EW.cons (hw _ (List.mem_of_getElem? (i := 58) rfl)) tx2_t.1 (EW.cons (hw _ (List.mem_of_getElem? (i := 95) rfl)) tx3_t.1 (EW.cons (hw _ (List.mem_of_getElem? (i := 45) rfl)) tx1_t.1 (EW.cons (hw _ (List.mem_of_getElem? (i := 96) rfl)) tx4_t.1 (EW.cons (hw _ (List.mem_of_getElem? (i := 19) rfl)) tx0_t.1 EW.nil)))))
  have hCH : CHv s consts_1 s.vm s.heap := CHv.start hEL (fun p hp => hcalls.1 p hp) (hsets _ (List.mem_of_getElem? (i := 2) rfl)) (hw _ (List.mem_of_getElem? (i := 20) rfl)) (hw _ (List.mem_of_getElem? (i := 7) rfl))
  obtain ⟨n, o, h1, h2, h3, v, L, rfl, ⟨N, hQ⟩, hq⟩ := rm0 l s _ hw hEL tables_1 i0 i1 i2 i3 i4 zc s.heap s.heap.size (Old.start s) ⟨Sta.start ezc (Or.inl (hsets _ (List.mem_of_getElem? (i := 0) rfl))), hzc, trivial⟩ p e ha hc hk s m _ below hf ((Spec.applies_iff_loose hf).mp happ).1 ⟨rfl, State.Warmed39.refl s, rfl, hCH⟩ trivial
  have hv : v = some (.int (1 : Int32)) := hQ
  subst hv
  replace hq := hq.2
  refine ⟨n, _, h1, h2, h3, hpost _ _ _ _ _ _ ⟨Cond.after_iff.mpr rfl, Cond.after_iff.mpr (eq_i res_at (Term.int_eval (1)) rfl), trivial⟩ ⟨hq.1, hq.2.1, hq.2.2.1, hq.2.2.2.sift fun y hy => Or.inr (N y hy)⟩⟩
theorem main_1_1 : Claimed_1_1 := comes_1 fun _ _ _ _ _ _ h hF => ⟨h.1, hF⟩
theorem main_1_2 : Claimed_1_2 := comes_1 fun _ _ _ _ _ _ h hF => ⟨h.2.1, hF⟩
end Jvm.Pilot.@@N@@
namespace Jvm.Pilot.@@N@@
open Jvm Jvm.ClassFile Sem Op Lib Jvm.Free Jvm.Stand Jvm.Pilot.@@N@@.Jvm.D
/-! MADE BY PROGRAM (witnessworld.py) out of the Statement's table words and the real class files: 21 classes; the members and pool entries that the words name. The judged class is class 1, her method 1. -/
namespace start1
open Jvm.ClassFile
def u (s : String) : CpInfo := .utf8 (stringToUtf16 s)
/-- a pool by its gaps: so many unusable entries, then the entry; so many at the end -/
def gap : Nat → List CpInfo → List CpInfo
  | 0, r => r
  | n + 1, r => .unusable :: gap n r
def poolList (es : List (Nat × CpInfo)) (last : Nat) : List CpInfo := es.foldr (fun e r => gap e.1 (e.2 :: r)) (gap last [])
def pool (es : List (Nat × CpInfo)) (last : Nat) : Array CpInfo := ⟨poolList es last⟩
def fileOf (pool : Array CpInfo) (this : Nat) (attrs : Array Attribute := #[]) (ms : Array MethodInfo := #[]) (fl : Nat := 33) (sup : Nat := 0) (ifs : Array Nat := #[]) (fds : Array FieldInfo := #[]) : ClassFile where
  minorVersion := 0
  majorVersion := 65
  constantPool := pool
  accessFlags := fl
  thisClass := this
  superClass := sup
  interfaces := ifs
  fields := fds
  methods := ms
  attributes := attrs
def plain (name : String) (sup : Option ClassId) : Class where
  name := name
  kind := .ordinary
  loader := none
  accessFlags := 33
  super := sup
  interfaces := #[]
  cf := none
  fields := #[]
  methods := #[]
  instanceTypes := #[]
  staticTypes := #[]
  resolved := #[]
  callSites := []
  init := .initialized
  statics := none
  mirror := none

def pool0 : Array CpInfo := pool [(5, u "<init>"), (0, u "()V"), (1, .class_ 10), (1, u "java/lang/Object")] 113

def k0c0 : Code := { maxStack := 0, maxLocals := 1, code := object_method_1_code, exceptionTable := #[], attributes := #[] }
def k0m0 : Method := { name := "<init>", desc := "()V", sig := { parameters := [], returnType := none }, accessFlags := 1, code := some k0c0 }
/-- java/lang/Object -/
def k0 : Class := { plain "java/lang/Object" none with
  accessFlags := 33
  interfaces := #[]
  cf := some (fileOf pool0 8 #[] #[{ accessFlags := 1, nameIndex := 5, descriptorIndex := 6, attributes := #[] }] 33 0 #[] #[])
  fields := #[]
  methods := #[k0m0]
  instanceTypes := #[]
  staticTypes := #[]
  resolved := Array.replicate 124 none
  statics := none }

def pool1 : Array CpInfo := pool [(2, .class_ 4), (1, u "java/lang/Object"), (0, u "<init>"), (0, u "()V"), (0, .integer 2147483647), (0, .methodref 9 10), (0, .class_ 11), (0, .nameAndType 12 13), (0, u "com/example/fuseline/fuseline/CircuitKeyCheckedServicePinLaw"), (0, u "pick"), (0, u "(I)C"), (0, .class_ 15), (0, u "java/lang/String"), (0, .methodref 14 17), (0, .nameAndType 5 18), (0, u "([C)V"), (0, .methodref 9 20), (0, .nameAndType 21 22), (0, u "joins"), (0, u "(CC)Z"), (0, .methodref 24 25), (0, .class_ 26), (0, .nameAndType 27 28), (0, u "com/example/fuseline/fuseline/CircuitKey"), (0, u "checkedService"), (0, u "(Ljava/lang/String;)Ljava/lang/String;"), (0, .methodref 14 30), (0, .nameAndType 31 32), (0, u "equals"), (0, u "(Ljava/lang/Object;)Z"), (2, u "law"), (0, u "(IIIII)Z")] 5

def k1m0 : Method := { name := "<init>", desc := "()V", sig := { parameters := [], returnType := none }, accessFlags := 1, code := none }
def k1c1 : Code := { maxStack := 3, maxLocals := 14, code := code, exceptionTable := #[], attributes := #[] }
def k1m1 : Method := { name := "law", desc := "(IIIII)Z", sig := { parameters := [.int, .int, .int, .int, .int], returnType := some .boolean }, accessFlags := 9, code := some k1c1 }
def k1c2 : Code := { maxStack := 2, maxLocals := 2, code := method_3_code, exceptionTable := #[], attributes := #[] }
def k1m2 : Method := { name := "pick", desc := "(I)C", sig := { parameters := [.int], returnType := some .char }, accessFlags := 10, code := some k1c2 }
def k1c3 : Code := { maxStack := 2, maxLocals := 2, code := method_4_code, exceptionTable := #[], attributes := #[] }
def k1m3 : Method := { name := "joins", desc := "(CC)Z", sig := { parameters := [.char, .char], returnType := some .boolean }, accessFlags := 10, code := some k1c3 }
/-- com/example/fuseline/fuseline/CircuitKeyCheckedServicePinLaw -/
def k1 : Class := { plain "com/example/fuseline/fuseline/CircuitKeyCheckedServicePinLaw" (some 0) with
  accessFlags := 49
  interfaces := #[]
  cf := some (fileOf pool1 9 #[] #[{ accessFlags := 1, nameIndex := 5, descriptorIndex := 6, attributes := #[] }, { accessFlags := 9, nameIndex := 35, descriptorIndex := 36, attributes := #[] }, { accessFlags := 10, nameIndex := 12, descriptorIndex := 13, attributes := #[] }, { accessFlags := 10, nameIndex := 21, descriptorIndex := 22, attributes := #[] }] 49 2 #[] #[])
  fields := #[]
  methods := #[k1m0, k1m1, k1m2, k1m3]
  instanceTypes := #[]
  staticTypes := #[]
  resolved := Array.replicate 42 none
  statics := none }

def pool2 : Array CpInfo := pool [(1, .class_ 2), (0, u "java/io/Serializable"), (0, .class_ 4), (0, u "java/lang/Object")] 2

/-- java/io/Serializable -/
def k2 : Class := { plain "java/io/Serializable" (some 0) with
  accessFlags := 1537
  interfaces := #[]
  cf := some (fileOf pool2 1 #[] #[] 1537 3 #[] #[])
  fields := #[]
  methods := #[]
  instanceTypes := #[]
  staticTypes := #[]
  resolved := Array.replicate 7 none
  statics := none }

def pool3 : Array CpInfo := pool [(1, .class_ 2), (0, u "java/lang/Comparable"), (0, .class_ 4), (0, u "java/lang/Object")] 7

/-- java/lang/Comparable -/
def k3 : Class := { plain "java/lang/Comparable" (some 0) with
  accessFlags := 1537
  interfaces := #[]
  cf := some (fileOf pool3 1 #[] #[] 1537 3 #[] #[])
  fields := #[]
  methods := #[]
  instanceTypes := #[]
  staticTypes := #[]
  resolved := Array.replicate 12 none
  statics := none }

def pool4 : Array CpInfo := pool [(2, .class_ 4), (1, u "java/lang/CharSequence"), (42, .class_ 48), (0, u "java/lang/CharSequence$1CodePointIterator"), (10, .class_ 60), (0, u "java/lang/CharSequence$1CharIterator"), (5, .class_ 67), (0, u "java/lang/Object"), (10, u "toString"), (0, u "()Ljava/lang/String;")] 51

def k4m0 : Method := { name := "toString", desc := "()Ljava/lang/String;", sig := { parameters := [], returnType := some (.object "java/lang/String") }, accessFlags := 1025, code := none }
/-- java/lang/CharSequence -/
def k4 : Class := { plain "java/lang/CharSequence" (some 0) with
  accessFlags := 1537
  interfaces := #[]
  cf := some (fileOf pool4 2 #[.nestMembers #[47, 59]] #[{ accessFlags := 1025, nameIndex := 78, descriptorIndex := 79, attributes := #[] }] 1537 66 #[] #[])
  fields := #[]
  methods := #[k4m0]
  instanceTypes := #[]
  staticTypes := #[]
  resolved := Array.replicate 131 none
  statics := none }

def pool5 : Array CpInfo := pool [(1, .class_ 2), (0, u "java/lang/constant/Constable"), (0, .class_ 4), (0, u "java/lang/Object")] 6

/-- java/lang/constant/Constable -/
def k5 : Class := { plain "java/lang/constant/Constable" (some 0) with
  accessFlags := 1537
  interfaces := #[]
  cf := some (fileOf pool5 1 #[] #[] 1537 3 #[] #[])
  fields := #[]
  methods := #[]
  instanceTypes := #[]
  staticTypes := #[]
  resolved := Array.replicate 11 none
  statics := none }

def pool6 : Array CpInfo := pool [(1, .class_ 2), (0, u "java/lang/constant/ConstantDesc"), (0, .class_ 4), (0, u "java/lang/Object")] 32

/-- java/lang/constant/ConstantDesc -/
def k6 : Class := { plain "java/lang/constant/ConstantDesc" (some 0) with
  accessFlags := 1537
  interfaces := #[]
  cf := some (fileOf pool6 1 #[] #[] 1537 3 #[] #[])
  fields := #[]
  methods := #[]
  instanceTypes := #[]
  staticTypes := #[]
  resolved := Array.replicate 37 none
  statics := none }

def pool7 : Array CpInfo := pool [(1, .methodref 2 3), (0, .class_ 4), (0, .nameAndType 5 6), (0, u "java/lang/Object"), (0, u "<init>"), (0, u "()V"), (0, .string 8), (0, u ""), (0, .fieldref 10 11), (0, .class_ 12), (0, .nameAndType 13 14), (0, u "java/lang/String"), (0, u "value"), (0, u "[B"), (0, .fieldref 10 16), (0, .nameAndType 17 18), (0, u "coder"), (0, u "B"), (2, u "hash"), (0, u "I"), (2, u "hashIsZero"), (0, u "Z"), (0, .methodref 10 28), (0, .nameAndType 5 29), (0, u "([CIILjava/lang/Void;)V"), (8, .fieldref 10 39), (0, .nameAndType 40 26), (0, u "COMPACT_STRINGS"), (1, .class_ 44), (1, u "java/lang/StringUTF16"), (0, u "compress"), (1, .methodref 42 48), (0, .nameAndType 49 50), (0, u "coderFromArrayLen"), (0, u "([BI)B"), (56, .class_ 109), (1, u "java/lang/StringLatin1"), (32, u "()Z"), (34, .methodref 42 178), (0, .nameAndType 45 179), (0, u "([CII)[B"), (154, u "()I"), (0, .methodref 10 336), (0, .nameAndType 17 337), (0, u "()B"), (38, u "([BI[BII)I"), (85, .nameAndType 463 464), (0, u "toString"), (0, u "()Ljava/lang/String;"), (27, .methodref 10 493), (0, .nameAndType 494 142), (0, u "isLatin1"), (10, .methodref 10 506), (0, .nameAndType 507 334), (0, u "length"), (35, u "equals"), (4, u "(Ljava/lang/CharSequence;)Z"), (10, .class_ 561), (1, u "jdk/internal/util/ArraysSupport"), (0, u "mismatch"), (10, u "(Ljava/lang/Object;)Z"), (1, .class_ 576), (0, u "java/lang/CharSequence"), (12, u "([B[B)I"), (9, u "CASE_INSENSITIVE_ORDER"), (0, u "Ljava/util/Comparator;"), (6, .methodref 559 608), (0, .nameAndType 562 376), (15, .methodref 10 625), (0, .nameAndType 626 627), (0, u "startsWith"), (0, u "(Ljava/lang/String;I)Z"), (7, u "indexOf"), (11, .methodref 107 648), (0, .nameAndType 635 589), (43, u "isEmpty"), (17, .interfaceMethodref 575 462), (0, .methodref 10 712), (0, .nameAndType 635 713), (0, u "(Ljava/lang/String;)I"), (296, u "([C)V"), (90, u "serialPersistentFields"), (0, u "[Ljava/io/ObjectStreamField;"), (0, .class_ 1104), (0, u "java/lang/String$CaseInsensitiveComparator"), (1, .class_ 1107), (0, u "java/io/Serializable"), (0, .class_ 1109), (0, u "java/lang/Comparable"), (0, .class_ 1111), (0, u "java/lang/constant/Constable"), (0, .class_ 1113), (0, u "java/lang/constant/ConstantDesc"), (2, u "serialVersionUID"), (0, u "J"), (3, u "REPL"), (0, u "C"), (2, u "LATIN1"), (1, u "UTF16"), (129, u "(Ljava/lang/String;)Z"), (14, u "endsWith"), (18, u "contains")] 159

def k7m0 : Method := { name := "<init>", desc := "()V", sig := { parameters := [], returnType := none }, accessFlags := 1, code := none }
def k7c1 : Code := { maxStack := 5, maxLocals := 2, code := jdk_42_method_3_code, exceptionTable := #[], attributes := #[] }
def k7m1 : Method := { name := "<init>", desc := "([C)V", sig := { parameters := [(.array .char)], returnType := none }, accessFlags := 1, code := some k7c1 }
def k7c2 : Code := { maxStack := 2, maxLocals := 1, code := jdk_42_method_54_code, exceptionTable := #[], attributes := #[] }
def k7m2 : Method := { name := "length", desc := "()I", sig := { parameters := [], returnType := some .int }, accessFlags := 1, code := some k7c2 }
def k7c3 : Code := { maxStack := 1, maxLocals := 1, code := jdk_42_method_55_code, exceptionTable := #[], attributes := #[] }
def k7m3 : Method := { name := "isEmpty", desc := "()Z", sig := { parameters := [], returnType := some .boolean }, accessFlags := 1, code := some k7c3 }
def k7c4 : Code := { maxStack := 2, maxLocals := 3, code := jdk_42_method_66_code, exceptionTable := #[], attributes := #[] }
def k7m4 : Method := { name := "equals", desc := "(Ljava/lang/Object;)Z", sig := { parameters := [(.object "java/lang/Object")], returnType := some .boolean }, accessFlags := 1, code := some k7c4 }
def k7c5 : Code := { maxStack := 5, maxLocals := 8, code := jdk_42_method_75_code, exceptionTable := #[], attributes := #[] }
def k7m5 : Method := { name := "startsWith", desc := "(Ljava/lang/String;I)Z", sig := { parameters := [(.object "java/lang/String"), .int], returnType := some .boolean }, accessFlags := 1, code := some k7c5 }
def k7c6 : Code := { maxStack := 4, maxLocals := 2, code := jdk_42_method_77_code, exceptionTable := #[], attributes := #[] }
def k7m6 : Method := { name := "endsWith", desc := "(Ljava/lang/String;)Z", sig := { parameters := [(.object "java/lang/String")], returnType := some .boolean }, accessFlags := 1, code := some k7c6 }
def k7c7 : Code := { maxStack := 2, maxLocals := 3, code := jdk_42_method_84_code, exceptionTable := #[], attributes := #[] }
def k7m7 : Method := { name := "indexOf", desc := "(Ljava/lang/String;)I", sig := { parameters := [(.object "java/lang/String")], returnType := some .int }, accessFlags := 1, code := some k7c7 }
def k7c8 : Code := { maxStack := 2, maxLocals := 2, code := jdk_42_method_97_code, exceptionTable := #[], attributes := #[] }
def k7m8 : Method := { name := "contains", desc := "(Ljava/lang/CharSequence;)Z", sig := { parameters := [(.object "java/lang/CharSequence")], returnType := some .boolean }, accessFlags := 1, code := some k7c8 }
def k7c9 : Code := { maxStack := 1, maxLocals := 1, code := jdk_42_method_126_code, exceptionTable := #[], attributes := #[] }
def k7m9 : Method := { name := "toString", desc := "()Ljava/lang/String;", sig := { parameters := [], returnType := some (.object "java/lang/String") }, accessFlags := 1, code := some k7c9 }
def k7c10 : Code := { maxStack := 4, maxLocals := 6, code := jdk_42_method_149_code, exceptionTable := #[], attributes := #[] }
def k7m10 : Method := { name := "<init>", desc := "([CIILjava/lang/Void;)V", sig := { parameters := [(.array .char), .int, .int, (.object "java/lang/Void")], returnType := none }, accessFlags := 2, code := some k7c10 }
def k7c11 : Code := { maxStack := 1, maxLocals := 1, code := jdk_42_method_152_code, exceptionTable := #[], attributes := #[] }
def k7m11 : Method := { name := "coder", desc := "()B", sig := { parameters := [], returnType := some .byte }, accessFlags := 0, code := some k7c11 }
def k7c12 : Code := { maxStack := 1, maxLocals := 1, code := jdk_42_method_154_code, exceptionTable := #[], attributes := #[] }
def k7m12 : Method := { name := "isLatin1", desc := "()Z", sig := { parameters := [], returnType := some .boolean }, accessFlags := 0, code := some k7c12 }
/-- java/lang/String -/
def k7 : Class := { plain "java/lang/String" (some 0) with
  accessFlags := 49
  interfaces := #[2, 3, 4, 5, 6]
  cf := some (fileOf pool7 10 #[.nestMembers #[1103]] #[{ accessFlags := 1, nameIndex := 5, descriptorIndex := 6, attributes := #[] }, { accessFlags := 1, nameIndex := 5, descriptorIndex := 1010, attributes := #[] }, { accessFlags := 1, nameIndex := 507, descriptorIndex := 334, attributes := #[] }, { accessFlags := 1, nameIndex := 692, descriptorIndex := 142, attributes := #[] }, { accessFlags := 1, nameIndex := 543, descriptorIndex := 573, attributes := #[] }, { accessFlags := 1, nameIndex := 626, descriptorIndex := 627, attributes := #[] }, { accessFlags := 1, nameIndex := 1272, descriptorIndex := 1257, attributes := #[] }, { accessFlags := 1, nameIndex := 635, descriptorIndex := 713, attributes := #[] }, { accessFlags := 1, nameIndex := 1291, descriptorIndex := 548, attributes := #[] }, { accessFlags := 1, nameIndex := 463, descriptorIndex := 464, attributes := #[] }, { accessFlags := 2, nameIndex := 5, descriptorIndex := 29, attributes := #[] }, { accessFlags := 0, nameIndex := 17, descriptorIndex := 337, attributes := #[] }, { accessFlags := 0, nameIndex := 494, descriptorIndex := 142, attributes := #[] }] 49 2 #[1106, 1108, 575, 1110, 1112] #[{ accessFlags := 18, nameIndex := 13, descriptorIndex := 14, attributes := #[] }, { accessFlags := 18, nameIndex := 17, descriptorIndex := 18, attributes := #[] }, { accessFlags := 2, nameIndex := 21, descriptorIndex := 22, attributes := #[] }, { accessFlags := 2, nameIndex := 25, descriptorIndex := 26, attributes := #[] }, { accessFlags := 26, nameIndex := 1116, descriptorIndex := 1117, attributes := #[] }, { accessFlags := 24, nameIndex := 40, descriptorIndex := 26, attributes := #[] }, { accessFlags := 26, nameIndex := 1101, descriptorIndex := 1102, attributes := #[] }, { accessFlags := 26, nameIndex := 1121, descriptorIndex := 1122, attributes := #[] }, { accessFlags := 25, nameIndex := 599, descriptorIndex := 600, attributes := #[] }, { accessFlags := 24, nameIndex := 1125, descriptorIndex := 18, attributes := #[] }, { accessFlags := 24, nameIndex := 1127, descriptorIndex := 18, attributes := #[] }])
  fields := #[{ name := "value", type := (.array .byte), accessFlags := 18, slot := 0, constantValue := 0 }, { name := "coder", type := .byte, accessFlags := 18, slot := 1, constantValue := 0 }, { name := "hash", type := .int, accessFlags := 2, slot := 2, constantValue := 0 }, { name := "hashIsZero", type := .boolean, accessFlags := 2, slot := 3, constantValue := 0 }, { name := "serialVersionUID", type := .long, accessFlags := 26, slot := 0, constantValue := 0 }, { name := "COMPACT_STRINGS", type := .boolean, accessFlags := 24, slot := 1, constantValue := 0 }, { name := "serialPersistentFields", type := (.array (.object "java/io/ObjectStreamField")), accessFlags := 26, slot := 2, constantValue := 0 }, { name := "REPL", type := .char, accessFlags := 26, slot := 3, constantValue := 0 }, { name := "CASE_INSENSITIVE_ORDER", type := (.object "java/util/Comparator"), accessFlags := 25, slot := 4, constantValue := 0 }, { name := "LATIN1", type := .byte, accessFlags := 24, slot := 5, constantValue := 0 }, { name := "UTF16", type := .byte, accessFlags := 24, slot := 6, constantValue := 0 }]
  methods := #[k7m0, k7m1, k7m2, k7m3, k7m4, k7m5, k7m6, k7m7, k7m8, k7m9, k7m10, k7m11, k7m12]
  instanceTypes := #[(.array .byte), .byte, .int, .boolean]
  staticTypes := #[.long, .boolean, (.array (.object "java/io/ObjectStreamField")), .char, (.object "java/util/Comparator"), .byte, .byte]
  resolved := Array.replicate 1451 none
  statics := some 0 }

def pool8 : Array CpInfo := pool [(6, .class_ 8), (1, u "java/lang/Object"), (0, u "<init>"), (0, u "()V"), (1, .class_ 14), (1, u "java/lang/StringUTF16"), (31, u "$assertionsDisabled"), (0, u "Z"), (13, u "HI_BYTE_SHIFT"), (0, u "I"), (2, u "LO_BYTE_SHIFT"), (49, .methodref 12 116), (0, .nameAndType 117 118), (0, u "compress"), (0, u "([CI[BII)I"), (3, u "([CII)[B"), (138, u "coderFromArrayLen"), (0, u "([BI)B"), (106, .class_ 371), (1, u "java/lang/StringUTF16$LinesSpliterator"), (58, u "MAX_LENGTH"), (196, .class_ 628), (0, u "java/lang/StringUTF16$CodePointsSpliterator"), (0, .class_ 630), (0, u "java/lang/StringUTF16$CharsSpliterator")] 4

def k8m0 : Method := { name := "<init>", desc := "()V", sig := { parameters := [], returnType := none }, accessFlags := 0, code := none }
def k8c1 : Code := { maxStack := 2, maxLocals := 2, code := jdk_52_method_15_code, exceptionTable := #[], attributes := #[] }
def k8m1 : Method := { name := "coderFromArrayLen", desc := "([BI)B", sig := { parameters := [(.array .byte), .int], returnType := some .byte }, accessFlags := 8, code := some k8c1 }
def k8c2 : Code := { maxStack := 5, maxLocals := 6, code := jdk_52_method_16_code, exceptionTable := #[], attributes := #[] }
def k8m2 : Method := { name := "compress", desc := "([CII)[B", sig := { parameters := [(.array .char), .int, .int], returnType := some (.array .byte) }, accessFlags := 9, code := some k8c2 }
def k8c3 : Code := { maxStack := 3, maxLocals := 7, code := jdk_52_method_21_code, exceptionTable := #[], attributes := #[] }
def k8m3 : Method := { name := "compress", desc := "([CI[BII)I", sig := { parameters := [(.array .char), .int, (.array .byte), .int, .int], returnType := some .int }, accessFlags := 9, code := some k8c3 }
/-- java/lang/StringUTF16 -/
def k8 : Class := { plain "java/lang/StringUTF16" (some 0) with
  accessFlags := 48
  interfaces := #[]
  cf := some (fileOf pool8 12 #[.nestMembers #[627, 629, 369]] #[{ accessFlags := 0, nameIndex := 9, descriptorIndex := 10, attributes := #[] }, { accessFlags := 8, nameIndex := 261, descriptorIndex := 262, attributes := #[] }, { accessFlags := 9, nameIndex := 117, descriptorIndex := 122, attributes := #[] }, { accessFlags := 9, nameIndex := 117, descriptorIndex := 118, attributes := #[] }] 48 6 #[] #[{ accessFlags := 26, nameIndex := 61, descriptorIndex := 62, attributes := #[] }, { accessFlags := 26, nameIndex := 65, descriptorIndex := 62, attributes := #[] }, { accessFlags := 24, nameIndex := 430, descriptorIndex := 62, attributes := #[] }, { accessFlags := 4120, nameIndex := 46, descriptorIndex := 47, attributes := #[] }])
  fields := #[{ name := "HI_BYTE_SHIFT", type := .int, accessFlags := 26, slot := 0, constantValue := 0 }, { name := "LO_BYTE_SHIFT", type := .int, accessFlags := 26, slot := 1, constantValue := 0 }, { name := "MAX_LENGTH", type := .int, accessFlags := 24, slot := 2, constantValue := 0 }, { name := "$assertionsDisabled", type := .boolean, accessFlags := 4120, slot := 3, constantValue := 0 }]
  methods := #[k8m0, k8m1, k8m2, k8m3]
  instanceTypes := #[]
  staticTypes := #[.int, .int, .int, .boolean]
  resolved := Array.replicate 635 none
  statics := none }

def pool9 : Array CpInfo := pool [(2, .class_ 4), (1, u "java/lang/Object"), (3, .class_ 10), (1, u "com/example/fuseline/fuseline/CircuitKey"), (0, u "caller"), (0, u "Ljava/lang/String;"), (2, u "service"), (2, u "endpoint"), (6, u "written"), (1, .methodref 8 28), (0, .nameAndType 29 30), (0, u "checkedPart"), (0, u "(Ljava/lang/String;Ljava/lang/String;)Ljava/lang/String;"), (2, u "checkedService"), (0, u "(Ljava/lang/String;)Ljava/lang/String;"), (5, .methodref 41 42), (0, .class_ 43), (0, .nameAndType 44 45), (0, u "java/util/Objects"), (0, u "requireNonNull"), (0, u "(Ljava/lang/Object;Ljava/lang/String;)Ljava/lang/Object;"), (0, .string 47), (0, u "->"), (1, .class_ 51), (1, u "java/lang/String"), (2, .string 55), (0, u "::"), (25, .string 15), (0, .string 83), (0, u ":"), (0, .methodref 49 85), (0, .nameAndType 86 87), (0, u "endsWith"), (0, u "(Ljava/lang/String;)Z"), (1, .methodref 49 90), (0, .nameAndType 91 92), (0, u "isEmpty"), (0, u "()Z"), (0, .methodref 49 94), (0, .nameAndType 95 96), (0, u "contains"), (0, u "(Ljava/lang/CharSequence;)Z"), (15, .class_ 113), (0, u "java/lang/Comparable"), (0, u "TO_SERVICE"), (1, u "TO_ENDPOINT")] 34

def k9c0 : Code := { maxStack := 3, maxLocals := 1, code := prog_10_method_7_code, exceptionTable := #[], attributes := #[] }
def k9m0 : Method := { name := "checkedService", desc := "(Ljava/lang/String;)Ljava/lang/String;", sig := { parameters := [(.object "java/lang/String")], returnType := some (.object "java/lang/String") }, accessFlags := 8, code := some k9c0 }
def k9c1 : Code := { maxStack := 4, maxLocals := 2, code := prog_10_method_8_code, exceptionTable := #[], attributes := #[] }
def k9m1 : Method := { name := "checkedPart", desc := "(Ljava/lang/String;Ljava/lang/String;)Ljava/lang/String;", sig := { parameters := [(.object "java/lang/String"), (.object "java/lang/String")], returnType := some (.object "java/lang/String") }, accessFlags := 10, code := some k9c1 }
/-- com/example/fuseline/fuseline/CircuitKey -/
def k9 : Class := { plain "com/example/fuseline/fuseline/CircuitKey" (some 0) with
  accessFlags := 49
  interfaces := #[3]
  cf := some (fileOf pool9 8 #[] #[{ accessFlags := 8, nameIndex := 33, descriptorIndex := 34, attributes := #[] }, { accessFlags := 10, nameIndex := 29, descriptorIndex := 30, attributes := #[] }] 49 2 #[112] #[{ accessFlags := 26, nameIndex := 114, descriptorIndex := 12, attributes := #[] }, { accessFlags := 26, nameIndex := 116, descriptorIndex := 12, attributes := #[] }, { accessFlags := 18, nameIndex := 11, descriptorIndex := 12, attributes := #[] }, { accessFlags := 18, nameIndex := 15, descriptorIndex := 12, attributes := #[] }, { accessFlags := 18, nameIndex := 18, descriptorIndex := 12, attributes := #[] }, { accessFlags := 18, nameIndex := 25, descriptorIndex := 12, attributes := #[] }])
  fields := #[{ name := "TO_SERVICE", type := (.object "java/lang/String"), accessFlags := 26, slot := 0, constantValue := 0 }, { name := "TO_ENDPOINT", type := (.object "java/lang/String"), accessFlags := 26, slot := 1, constantValue := 0 }, { name := "caller", type := (.object "java/lang/String"), accessFlags := 18, slot := 0, constantValue := 0 }, { name := "service", type := (.object "java/lang/String"), accessFlags := 18, slot := 1, constantValue := 0 }, { name := "endpoint", type := (.object "java/lang/String"), accessFlags := 18, slot := 2, constantValue := 0 }, { name := "written", type := (.object "java/lang/String"), accessFlags := 18, slot := 3, constantValue := 0 }]
  methods := #[k9m0, k9m1]
  instanceTypes := #[(.object "java/lang/String"), (.object "java/lang/String"), (.object "java/lang/String"), (.object "java/lang/String")]
  staticTypes := #[(.object "java/lang/String"), (.object "java/lang/String")]
  resolved := Array.replicate 151 none
  statics := none }

def pool10 : Array CpInfo := pool [(2, .class_ 4), (1, u "java/lang/Object"), (0, u "<init>"), (0, u "()V"), (35, .class_ 44), (1, u "java/util/Objects"), (0, u "requireNonNull"), (48, u "(Ljava/lang/Object;Ljava/lang/String;)Ljava/lang/Object;")] 89

def k10m0 : Method := { name := "<init>", desc := "()V", sig := { parameters := [], returnType := none }, accessFlags := 2, code := none }
def k10c1 : Code := { maxStack := 3, maxLocals := 2, code := jdk_31_method_11_code, exceptionTable := #[], attributes := #[] }
def k10m1 : Method := { name := "requireNonNull", desc := "(Ljava/lang/Object;Ljava/lang/String;)Ljava/lang/Object;", sig := { parameters := [(.object "java/lang/Object"), (.object "java/lang/String")], returnType := some (.object "java/lang/Object") }, accessFlags := 9, code := some k10c1 }
/-- java/util/Objects -/
def k10 : Class := { plain "java/util/Objects" (some 0) with
  accessFlags := 49
  interfaces := #[]
  cf := some (fileOf pool10 42 #[] #[{ accessFlags := 2, nameIndex := 5, descriptorIndex := 6, attributes := #[] }, { accessFlags := 9, nameIndex := 45, descriptorIndex := 94, attributes := #[] }] 49 2 #[] #[])
  fields := #[]
  methods := #[k10m0, k10m1]
  instanceTypes := #[]
  staticTypes := #[]
  resolved := Array.replicate 184 none
  statics := none }

def pool11 : Array CpInfo := pool [(4, .class_ 6), (1, u "java/lang/Object"), (0, u "<init>"), (0, u "()V"), (5, .class_ 16), (1, u "java/lang/StringLatin1"), (82, .methodref 14 100), (0, .nameAndType 101 102), (0, u "indexOf"), (0, u "([BI[BII)I"), (18, u "$assertionsDisabled"), (0, u "Z"), (98, .class_ 223), (1, u "java/lang/StringLatin1$LinesSpliterator"), (63, u "([B[B)I"), (102, .class_ 391), (0, u "java/lang/StringLatin1$CharsSpliterator")] 3

def k11m0 : Method := { name := "<init>", desc := "()V", sig := { parameters := [], returnType := none }, accessFlags := 0, code := none }
def k11c1 : Code := { maxStack := 5, maxLocals := 2, code := jdk_43_method_24_code, exceptionTable := #[], attributes := #[] }
def k11m1 : Method := { name := "indexOf", desc := "([B[B)I", sig := { parameters := [(.array .byte), (.array .byte)], returnType := some .int }, accessFlags := 9, code := some k11c1 }
def k11c2 : Code := { maxStack := 3, maxLocals := 11, code := jdk_43_method_25_code, exceptionTable := #[], attributes := #[] }
def k11m2 : Method := { name := "indexOf", desc := "([BI[BII)I", sig := { parameters := [(.array .byte), .int, (.array .byte), .int, .int], returnType := some .int }, accessFlags := 9, code := some k11c2 }
/-- java/lang/StringLatin1 -/
def k11 : Class := { plain "java/lang/StringLatin1" (some 0) with
  accessFlags := 48
  interfaces := #[]
  cf := some (fileOf pool11 14 #[.nestMembers #[390, 221]] #[{ accessFlags := 0, nameIndex := 7, descriptorIndex := 8, attributes := #[] }, { accessFlags := 9, nameIndex := 101, descriptorIndex := 287, attributes := #[] }, { accessFlags := 9, nameIndex := 101, descriptorIndex := 102, attributes := #[] }] 48 4 #[] #[{ accessFlags := 4120, nameIndex := 121, descriptorIndex := 122, attributes := #[] }])
  fields := #[{ name := "$assertionsDisabled", type := .boolean, accessFlags := 4120, slot := 0, constantValue := 0 }]
  methods := #[k11m0, k11m1, k11m2]
  instanceTypes := #[]
  staticTypes := #[.boolean]
  resolved := Array.replicate 395 none
  statics := none }

def pool12 : Array CpInfo := pool [(9, u "<init>"), (6, .class_ 18), (1, u "java/lang/Object"), (0, u "()V"), (1, .class_ 23), (1, u "jdk/internal/util/ArraysSupport"), (0, u "LOG2_ARRAY_LONG_INDEX_SCALE"), (0, u "I"), (2, u "U"), (0, u "Ljdk/internal/misc/Unsafe;"), (8, u "BIG_ENDIAN"), (0, u "Z"), (8, u "LOG2_BYTE_BIT_SIZE"), (4, u "LOG2_ARRAY_INT_INDEX_SCALE"), (54, u "JLA"), (0, u "Ljdk/internal/access/JavaLangAccess;"), (11, u "LOG2_ARRAY_BOOLEAN_INDEX_SCALE"), (9, u "LOG2_ARRAY_BYTE_INDEX_SCALE"), (5, u "LOG2_ARRAY_CHAR_INDEX_SCALE"), (5, u "LOG2_ARRAY_SHORT_INDEX_SCALE"), (5, u "mismatch"), (12, u "LOG2_ARRAY_FLOAT_INDEX_SCALE"), (24, u "LOG2_ARRAY_DOUBLE_INDEX_SCALE"), (89, u "T_BOOLEAN"), (2, u "T_CHAR"), (1, u "T_FLOAT"), (1, u "T_DOUBLE"), (1, u "T_BYTE"), (1, u "T_SHORT"), (1, u "T_INT"), (1, u "T_LONG"), (1, u "SOFT_MAX_ARRAY_LENGTH"), (42, u "([BI[BII)I")] 40

def k12m0 : Method := { name := "<init>", desc := "()V", sig := { parameters := [], returnType := none }, accessFlags := 2, code := none }
def k12c1 : Code := { maxStack := 8, maxLocals := 8, code := jdk_48_method_14_code, exceptionTable := #[], attributes := #[] }
def k12m1 : Method := { name := "mismatch", desc := "([BI[BII)I", sig := { parameters := [(.array .byte), .int, (.array .byte), .int, .int], returnType := some .int }, accessFlags := 9, code := some k12c1 }
/-- jdk/internal/util/ArraysSupport -/
def k12 : Class := { plain "jdk/internal/util/ArraysSupport" (some 0) with
  accessFlags := 33
  interfaces := #[]
  cf := some (fileOf pool12 21 #[] #[{ accessFlags := 2, nameIndex := 9, descriptorIndex := 19, attributes := #[] }, { accessFlags := 9, nameIndex := 149, descriptorIndex := 337, attributes := #[] }] 33 16 #[] #[{ accessFlags := 24, nameIndex := 28, descriptorIndex := 29, attributes := #[] }, { accessFlags := 26, nameIndex := 38, descriptorIndex := 39, attributes := #[] }, { accessFlags := 25, nameIndex := 121, descriptorIndex := 25, attributes := #[] }, { accessFlags := 25, nameIndex := 131, descriptorIndex := 25, attributes := #[] }, { accessFlags := 25, nameIndex := 137, descriptorIndex := 25, attributes := #[] }, { accessFlags := 25, nameIndex := 143, descriptorIndex := 25, attributes := #[] }, { accessFlags := 25, nameIndex := 53, descriptorIndex := 25, attributes := #[] }, { accessFlags := 25, nameIndex := 24, descriptorIndex := 25, attributes := #[] }, { accessFlags := 25, nameIndex := 162, descriptorIndex := 25, attributes := #[] }, { accessFlags := 25, nameIndex := 187, descriptorIndex := 25, attributes := #[] }, { accessFlags := 26, nameIndex := 48, descriptorIndex := 25, attributes := #[] }, { accessFlags := 25, nameIndex := 277, descriptorIndex := 25, attributes := #[] }, { accessFlags := 25, nameIndex := 280, descriptorIndex := 25, attributes := #[] }, { accessFlags := 25, nameIndex := 282, descriptorIndex := 25, attributes := #[] }, { accessFlags := 25, nameIndex := 284, descriptorIndex := 25, attributes := #[] }, { accessFlags := 25, nameIndex := 286, descriptorIndex := 25, attributes := #[] }, { accessFlags := 25, nameIndex := 288, descriptorIndex := 25, attributes := #[] }, { accessFlags := 25, nameIndex := 290, descriptorIndex := 25, attributes := #[] }, { accessFlags := 25, nameIndex := 292, descriptorIndex := 25, attributes := #[] }, { accessFlags := 26, nameIndex := 108, descriptorIndex := 109, attributes := #[] }, { accessFlags := 25, nameIndex := 294, descriptorIndex := 25, attributes := #[] }])
  fields := #[{ name := "U", type := (.object "jdk/internal/misc/Unsafe"), accessFlags := 24, slot := 0, constantValue := 0 }, { name := "BIG_ENDIAN", type := .boolean, accessFlags := 26, slot := 1, constantValue := 0 }, { name := "LOG2_ARRAY_BOOLEAN_INDEX_SCALE", type := .int, accessFlags := 25, slot := 2, constantValue := 0 }, { name := "LOG2_ARRAY_BYTE_INDEX_SCALE", type := .int, accessFlags := 25, slot := 3, constantValue := 0 }, { name := "LOG2_ARRAY_CHAR_INDEX_SCALE", type := .int, accessFlags := 25, slot := 4, constantValue := 0 }, { name := "LOG2_ARRAY_SHORT_INDEX_SCALE", type := .int, accessFlags := 25, slot := 5, constantValue := 0 }, { name := "LOG2_ARRAY_INT_INDEX_SCALE", type := .int, accessFlags := 25, slot := 6, constantValue := 0 }, { name := "LOG2_ARRAY_LONG_INDEX_SCALE", type := .int, accessFlags := 25, slot := 7, constantValue := 0 }, { name := "LOG2_ARRAY_FLOAT_INDEX_SCALE", type := .int, accessFlags := 25, slot := 8, constantValue := 0 }, { name := "LOG2_ARRAY_DOUBLE_INDEX_SCALE", type := .int, accessFlags := 25, slot := 9, constantValue := 0 }, { name := "LOG2_BYTE_BIT_SIZE", type := .int, accessFlags := 26, slot := 10, constantValue := 0 }, { name := "T_BOOLEAN", type := .int, accessFlags := 25, slot := 11, constantValue := 0 }, { name := "T_CHAR", type := .int, accessFlags := 25, slot := 12, constantValue := 0 }, { name := "T_FLOAT", type := .int, accessFlags := 25, slot := 13, constantValue := 0 }, { name := "T_DOUBLE", type := .int, accessFlags := 25, slot := 14, constantValue := 0 }, { name := "T_BYTE", type := .int, accessFlags := 25, slot := 15, constantValue := 0 }, { name := "T_SHORT", type := .int, accessFlags := 25, slot := 16, constantValue := 0 }, { name := "T_INT", type := .int, accessFlags := 25, slot := 17, constantValue := 0 }, { name := "T_LONG", type := .int, accessFlags := 25, slot := 18, constantValue := 0 }, { name := "JLA", type := (.object "jdk/internal/access/JavaLangAccess"), accessFlags := 26, slot := 19, constantValue := 0 }, { name := "SOFT_MAX_ARRAY_LENGTH", type := .int, accessFlags := 25, slot := 20, constantValue := 0 }]
  methods := #[k12m0, k12m1]
  instanceTypes := #[]
  staticTypes := #[(.object "jdk/internal/misc/Unsafe"), .boolean, .int, .int, .int, .int, .int, .int, .int, .int, .int, .int, .int, .int, .int, .int, .int, .int, .int, (.object "jdk/internal/access/JavaLangAccess"), .int]
  resolved := Array.replicate 378 none
  statics := none }

def pool13 : Array CpInfo := pool [(2, .class_ 4), (1, u "java/lang/Object"), (0, u "<init>"), (0, u "()V"), (17, .class_ 26), (1, u "jdk/internal/util/Preconditions"), (28, .class_ 56), (0, u "jdk/internal/util/Preconditions$4"), (57, .class_ 115), (0, u "jdk/internal/util/Preconditions$1"), (7, u "SIOOBE_FORMATTER"), (0, u "Ljava/util/function/BiFunction;"), (0, .class_ 126), (0, u "jdk/internal/util/Preconditions$2"), (3, u "AIOOBE_FORMATTER"), (0, .class_ 132), (0, u "jdk/internal/util/Preconditions$3"), (3, u "IOOBE_FORMATTER")] 57

def k13m0 : Method := { name := "<init>", desc := "()V", sig := { parameters := [], returnType := none }, accessFlags := 1, code := none }
/-- jdk/internal/util/Preconditions -/
def k13 : Class := { plain "jdk/internal/util/Preconditions" (some 0) with
  accessFlags := 33
  interfaces := #[]
  cf := some (fileOf pool13 24 #[.nestMembers #[55, 131, 125, 114]] #[{ accessFlags := 1, nameIndex := 5, descriptorIndex := 6, attributes := #[] }] 33 2 #[] #[{ accessFlags := 25, nameIndex := 123, descriptorIndex := 124, attributes := #[] }, { accessFlags := 25, nameIndex := 130, descriptorIndex := 124, attributes := #[] }, { accessFlags := 25, nameIndex := 136, descriptorIndex := 124, attributes := #[] }])
  fields := #[{ name := "SIOOBE_FORMATTER", type := (.object "java/util/function/BiFunction"), accessFlags := 25, slot := 0, constantValue := 0 }, { name := "AIOOBE_FORMATTER", type := (.object "java/util/function/BiFunction"), accessFlags := 25, slot := 1, constantValue := 0 }, { name := "IOOBE_FORMATTER", type := (.object "java/util/function/BiFunction"), accessFlags := 25, slot := 2, constantValue := 0 }]
  methods := #[k13m0]
  instanceTypes := #[]
  staticTypes := #[(.object "java/util/function/BiFunction"), (.object "java/util/function/BiFunction"), (.object "java/util/function/BiFunction")]
  resolved := Array.replicate 194 none
  statics := some 1 }

def pool14 : Array CpInfo := pool [(1, u "java/lang/Cloneable"), (0, .class_ 1), (0, u "java/lang/Object"), (0, .class_ 3)] 3

/-- java/lang/Cloneable -/
def k14 : Class := { plain "java/lang/Cloneable" (some 0) with
  accessFlags := 1537
  interfaces := #[]
  cf := some (fileOf pool14 2 #[] #[] 1537 4 #[] #[])
  fields := #[]
  methods := #[]
  instanceTypes := #[]
  staticTypes := #[]
  resolved := Array.replicate 8 none
  statics := none }

/-- the primitive byte -/
def k15 : Class := { plain "byte" none with kind := .primitive 'B', accessFlags := 0x411 }
/-- [B -/
def k16 : Class := { plain "[B" (some 0) with kind := .array 15 .byte, interfaces := #[14, 2], accessFlags := 1041 }

/-- the primitive char -/
def k17 : Class := { plain "char" none with kind := .primitive 'C', accessFlags := 0x411 }
/-- [C -/
def k18 : Class := { plain "[C" (some 0) with kind := .array 17 .char, interfaces := #[14, 2], accessFlags := 1041 }

/-- the primitive int -/
def k19 : Class := { plain "int" none with kind := .primitive 'I', accessFlags := 0x411 }
/-- [I -/
def k20 : Class := { plain "[I" (some 0) with kind := .array 19 .int, interfaces := #[14, 2], accessFlags := 1041 }

def heap : Heap := #[{ cls := 7, slots := #[.long 0, .int 1, .null, .int 0, .null, .int 0, .int 0], vm := .statics 7 },
  { cls := 13, slots := #[.null, .null, .null], vm := .statics 13 }]
def classes : Array Class := #[k0, k1, k2, k3, k4, k5, k6, k7, k8, k9, k10, k11, k12, k13, k14, k15, k16, k17, k18, k19, k20]
def interned : List (Array UInt16 × Addr) := []
def slotsUsed : Nat := 10
def theMethod : MethodId := ⟨1, 1⟩
def args0 : Array Value := #[.int 2, .int 3, .int 7, .int 8, .int 9]
def aboutOver (below : List Frame) : State where
  vm := { classes := classes, interned := interned.toArray }
  heap := heap
  slotsUsed := slotsUsed
  threads := #[{ frames := .invoking theMethod args0 :: below }]
def below0 : List Frame := [.native { method := ⟨0, 0⟩, args := #[] }]
def about1 : State := aboutOver below0
def p0 : Program := .bare "" "" ""
def e0 : Env := launch0.env 0 0 0
theorem w_frames : about1.frames = Frame.invoking theMethod args0 :: below0 := rfl
set_option maxRecDepth 65536 in
theorem w_args : argsFit about1.vm theMethod args0 = true := by decide +kernel
set_option maxRecDepth 65536 in
theorem w_heap : heapFits about1 = true := by decide +kernel
set_option maxRecDepth 65536 in
theorem w_runnable : about1.curStatus? = some .runnable := by decide +kernel
set_option maxRecDepth 65536 in
theorem w_alone : about1.alone = true := by decide +kernel
set_option maxRecDepth 65536 in
theorem w_named : about1.methodNamed? x = some theMethod := by decide +kernel
set_option maxRecDepth 65536 in
theorem w_hears : about1.hears theMethod below0 = true := by decide +kernel
set_option maxRecDepth 65536 in
theorem w_ripe : about1.ripe theMethod args0 below0 = true := by decide +kernel
theorem w_running : about1.status = .running := rfl
set_option maxRecDepth 65536 in
theorem w_room : about1.hasRoom e0.platform room_1 = true :=
  launch0.hasRoom_least _ room_1 (by decide +kernel) (by decide +kernel) (by decide +kernel) (by decide +kernel) (by decide +kernel) (by decide +kernel)
theorem allAtoms_all (ts : List Jvm.Cond) (a : Array Jvm.Value) (st : Jvm.State) : (allAtoms ts).before a st = ts.all (fun c => c.before a st) := by
  induction ts with
  | nil => rfl
  | cons c t ih =>
    show (Jvm.Cond.and c (allAtoms t)).before a st = _
    rw [Jvm.Cond.before_and, ih, List.all_cons]
def words1 : List Jvm.Cond := Jvm.Cond.code x code maxLocals ret :: tables_1
/-- a 'code' word, met by the world's own term for the bytes: nothing is compared byte by byte -/
theorem code_word {y : MethodName} {bytes : ByteArray} {mx : Nat} {rt : Option FieldType} {a : Array Value} {s : State} {m : MethodId} {meth : Method} {c : Code} (h1 : s.methodNamed? y = some m) (h2 : s.vm.method? m = some meth) (h3 : meth.code = some c) (h4 : c.code = bytes)
    (h5 : (c.maxLocals == mx && c.exceptionTable.isEmpty && decide (c.maxStack ≤ mostOperands) && decide (meth.sig.returnType = rt) && !meth.locks && decide (parseMethodDescriptor y.desc = some meth.sig)) = true) : (Jvm.Cond.code y bytes mx rt).before a s = true := by
  simp only [Bool.and_eq_true, beq_iff_eq, Bool.not_eq_true', decide_eq_true_eq] at h5
  obtain ⟨⟨⟨⟨⟨g1, g2⟩, g3⟩, g4⟩, g5⟩, g6⟩ := h5
  simp [Cond.before, Cond.holds, Cond.value, h1, h2, h3, h4, g1, g2, g3, g4, g5, g6]
def isCode : Jvm.Cond → Bool
  | .code _ _ _ _ => true
  | _ => false
theorem all_split {L : List Jvm.Cond} {P : Jvm.Cond → Bool} (h1 : L.all (fun c => isCode c || P c) = true) (h2 : ∀ c ∈ L.filter isCode, P c = true) : L.all P = true := by
  refine List.all_eq_true.mpr fun c hc => ?_
  have h := List.all_eq_true.mp h1 c hc
  rcases Bool.eq_false_or_eq_true (isCode c) with hi | hi
  · exact h2 c (List.mem_filter.mpr ⟨hc, hi⟩)
  · simpa [hi] using h
set_option maxRecDepth 65536 in
theorem w_c0 : (Jvm.Cond.code x code maxLocals ret).before args0 about1 = true := code_word (m := ⟨1, 1⟩) (meth := k1m1) (c := k1c1) (by decide +kernel) rfl rfl rfl (by decide +kernel)
set_option maxRecDepth 65536 in
theorem w_c1 : (Jvm.Cond.code ({ cls := "com/example/fuseline/fuseline/CircuitKeyCheckedServicePinLaw", name := "pick", desc := "(I)C" } : Jvm.MethodName) method_3_code (2 : Nat) (Option.some Jvm.ClassFile.FieldType.char)).before args0 about1 = true := code_word (m := ⟨1, 2⟩) (meth := k1m2) (c := k1c2) (by decide +kernel) rfl rfl rfl (by decide +kernel)
set_option maxRecDepth 65536 in
theorem w_c2 : (Jvm.Cond.code ({ cls := "java/lang/String", name := "<init>", desc := "([C)V" } : Jvm.MethodName) jdk_42_method_3_code (2 : Nat) (Option.none : Option Jvm.ClassFile.FieldType)).before args0 about1 = true := code_word (m := ⟨7, 1⟩) (meth := k7m1) (c := k7c1) (by decide +kernel) rfl rfl rfl (by decide +kernel)
set_option maxRecDepth 65536 in
theorem w_c3 : (Jvm.Cond.code ({ cls := "java/lang/String", name := "<init>", desc := "([CIILjava/lang/Void;)V" } : Jvm.MethodName) jdk_42_method_149_code (6 : Nat) (Option.none : Option Jvm.ClassFile.FieldType)).before args0 about1 = true := code_word (m := ⟨7, 10⟩) (meth := k7m10) (c := k7c10) (by decide +kernel) rfl rfl rfl (by decide +kernel)
set_option maxRecDepth 65536 in
theorem w_c4 : (Jvm.Cond.code ({ cls := "java/lang/Object", name := "<init>", desc := "()V" } : Jvm.MethodName) object_method_1_code (1 : Nat) (Option.none : Option Jvm.ClassFile.FieldType)).before args0 about1 = true := code_word (m := ⟨0, 0⟩) (meth := k0m0) (c := k0c0) (by decide +kernel) rfl rfl rfl (by decide +kernel)
set_option maxRecDepth 65536 in
theorem w_c5 : (Jvm.Cond.code ({ cls := "java/lang/StringUTF16", name := "compress", desc := "([CII)[B" } : Jvm.MethodName) jdk_52_method_16_code (6 : Nat) (Option.some (Jvm.ClassFile.FieldType.array Jvm.ClassFile.FieldType.byte))).before args0 about1 = true := code_word (m := ⟨8, 2⟩) (meth := k8m2) (c := k8c2) (by decide +kernel) rfl rfl rfl (by decide +kernel)
set_option maxRecDepth 65536 in
theorem w_c6 : (Jvm.Cond.code ({ cls := "java/lang/StringUTF16", name := "compress", desc := "([CI[BII)I" } : Jvm.MethodName) jdk_52_method_21_code (7 : Nat) (Option.some Jvm.ClassFile.FieldType.int)).before args0 about1 = true := code_word (m := ⟨8, 3⟩) (meth := k8m3) (c := k8c3) (by decide +kernel) rfl rfl rfl (by decide +kernel)
set_option maxRecDepth 65536 in
theorem w_c7 : (Jvm.Cond.code ({ cls := "java/lang/StringUTF16", name := "coderFromArrayLen", desc := "([BI)B" } : Jvm.MethodName) jdk_52_method_15_code (2 : Nat) (Option.some Jvm.ClassFile.FieldType.byte)).before args0 about1 = true := code_word (m := ⟨8, 1⟩) (meth := k8m1) (c := k8c1) (by decide +kernel) rfl rfl rfl (by decide +kernel)
set_option maxRecDepth 65536 in
theorem w_c8 : (Jvm.Cond.code ({ cls := "com/example/fuseline/fuseline/CircuitKeyCheckedServicePinLaw", name := "joins", desc := "(CC)Z" } : Jvm.MethodName) method_4_code (2 : Nat) (Option.some Jvm.ClassFile.FieldType.boolean)).before args0 about1 = true := code_word (m := ⟨1, 3⟩) (meth := k1m3) (c := k1c3) (by decide +kernel) rfl rfl rfl (by decide +kernel)
set_option maxRecDepth 65536 in
theorem w_c9 : (Jvm.Cond.code ({ cls := "com/example/fuseline/fuseline/CircuitKey", name := "checkedService", desc := "(Ljava/lang/String;)Ljava/lang/String;" } : Jvm.MethodName) prog_10_method_7_code (1 : Nat) (Option.some (Jvm.ClassFile.FieldType.object "java/lang/String"))).before args0 about1 = true := code_word (m := ⟨9, 0⟩) (meth := k9m0) (c := k9c0) (by decide +kernel) rfl rfl rfl (by decide +kernel)
set_option maxRecDepth 65536 in
theorem w_c10 : (Jvm.Cond.code ({ cls := "com/example/fuseline/fuseline/CircuitKey", name := "checkedPart", desc := "(Ljava/lang/String;Ljava/lang/String;)Ljava/lang/String;" } : Jvm.MethodName) prog_10_method_8_code (2 : Nat) (Option.some (Jvm.ClassFile.FieldType.object "java/lang/String"))).before args0 about1 = true := code_word (m := ⟨9, 1⟩) (meth := k9m1) (c := k9c1) (by decide +kernel) rfl rfl rfl (by decide +kernel)
set_option maxRecDepth 65536 in
theorem w_c11 : (Jvm.Cond.code ({ cls := "java/util/Objects", name := "requireNonNull", desc := "(Ljava/lang/Object;Ljava/lang/String;)Ljava/lang/Object;" } : Jvm.MethodName) jdk_31_method_11_code (2 : Nat) (Option.some (Jvm.ClassFile.FieldType.object "java/lang/Object"))).before args0 about1 = true := code_word (m := ⟨10, 1⟩) (meth := k10m1) (c := k10c1) (by decide +kernel) rfl rfl rfl (by decide +kernel)
set_option maxRecDepth 65536 in
theorem w_c12 : (Jvm.Cond.code ({ cls := "java/lang/String", name := "isEmpty", desc := "()Z" } : Jvm.MethodName) jdk_42_method_55_code (1 : Nat) (Option.some Jvm.ClassFile.FieldType.boolean)).before args0 about1 = true := code_word (m := ⟨7, 3⟩) (meth := k7m3) (c := k7c3) (by decide +kernel) rfl rfl rfl (by decide +kernel)
set_option maxRecDepth 65536 in
theorem w_c13 : (Jvm.Cond.code ({ cls := "java/lang/String", name := "contains", desc := "(Ljava/lang/CharSequence;)Z" } : Jvm.MethodName) jdk_42_method_97_code (2 : Nat) (Option.some Jvm.ClassFile.FieldType.boolean)).before args0 about1 = true := code_word (m := ⟨7, 8⟩) (meth := k7m8) (c := k7c8) (by decide +kernel) rfl rfl rfl (by decide +kernel)
set_option maxRecDepth 65536 in
theorem w_c14 : (Jvm.Cond.code ({ cls := "java/lang/String", name := "toString", desc := "()Ljava/lang/String;" } : Jvm.MethodName) jdk_42_method_126_code (1 : Nat) (Option.some (Jvm.ClassFile.FieldType.object "java/lang/String"))).before args0 about1 = true := code_word (m := ⟨7, 9⟩) (meth := k7m9) (c := k7c9) (by decide +kernel) rfl rfl rfl (by decide +kernel)
set_option maxRecDepth 65536 in
theorem w_c15 : (Jvm.Cond.code ({ cls := "java/lang/String", name := "indexOf", desc := "(Ljava/lang/String;)I" } : Jvm.MethodName) jdk_42_method_84_code (3 : Nat) (Option.some Jvm.ClassFile.FieldType.int)).before args0 about1 = true := code_word (m := ⟨7, 7⟩) (meth := k7m7) (c := k7c7) (by decide +kernel) rfl rfl rfl (by decide +kernel)
set_option maxRecDepth 65536 in
theorem w_c16 : (Jvm.Cond.code ({ cls := "java/lang/String", name := "coder", desc := "()B" } : Jvm.MethodName) jdk_42_method_152_code (1 : Nat) (Option.some Jvm.ClassFile.FieldType.byte)).before args0 about1 = true := code_word (m := ⟨7, 11⟩) (meth := k7m11) (c := k7c11) (by decide +kernel) rfl rfl rfl (by decide +kernel)
set_option maxRecDepth 65536 in
theorem w_c17 : (Jvm.Cond.code ({ cls := "java/lang/String", name := "isLatin1", desc := "()Z" } : Jvm.MethodName) jdk_42_method_154_code (1 : Nat) (Option.some Jvm.ClassFile.FieldType.boolean)).before args0 about1 = true := code_word (m := ⟨7, 12⟩) (meth := k7m12) (c := k7c12) (by decide +kernel) rfl rfl rfl (by decide +kernel)
set_option maxRecDepth 65536 in
theorem w_c18 : (Jvm.Cond.code ({ cls := "java/lang/StringLatin1", name := "indexOf", desc := "([B[B)I" } : Jvm.MethodName) jdk_43_method_24_code (2 : Nat) (Option.some Jvm.ClassFile.FieldType.int)).before args0 about1 = true := code_word (m := ⟨11, 1⟩) (meth := k11m1) (c := k11c1) (by decide +kernel) rfl rfl rfl (by decide +kernel)
set_option maxRecDepth 65536 in
theorem w_c19 : (Jvm.Cond.code ({ cls := "java/lang/StringLatin1", name := "indexOf", desc := "([BI[BII)I" } : Jvm.MethodName) jdk_43_method_25_code (11 : Nat) (Option.some Jvm.ClassFile.FieldType.int)).before args0 about1 = true := code_word (m := ⟨11, 2⟩) (meth := k11m2) (c := k11c2) (by decide +kernel) rfl rfl rfl (by decide +kernel)
set_option maxRecDepth 65536 in
theorem w_c20 : (Jvm.Cond.code ({ cls := "java/lang/String", name := "endsWith", desc := "(Ljava/lang/String;)Z" } : Jvm.MethodName) jdk_42_method_77_code (2 : Nat) (Option.some Jvm.ClassFile.FieldType.boolean)).before args0 about1 = true := code_word (m := ⟨7, 6⟩) (meth := k7m6) (c := k7c6) (by decide +kernel) rfl rfl rfl (by decide +kernel)
set_option maxRecDepth 65536 in
theorem w_c21 : (Jvm.Cond.code ({ cls := "java/lang/String", name := "length", desc := "()I" } : Jvm.MethodName) jdk_42_method_54_code (1 : Nat) (Option.some Jvm.ClassFile.FieldType.int)).before args0 about1 = true := code_word (m := ⟨7, 2⟩) (meth := k7m2) (c := k7c2) (by decide +kernel) rfl rfl rfl (by decide +kernel)
set_option maxRecDepth 65536 in
theorem w_c22 : (Jvm.Cond.code ({ cls := "java/lang/String", name := "startsWith", desc := "(Ljava/lang/String;I)Z" } : Jvm.MethodName) jdk_42_method_75_code (8 : Nat) (Option.some Jvm.ClassFile.FieldType.boolean)).before args0 about1 = true := code_word (m := ⟨7, 5⟩) (meth := k7m5) (c := k7c5) (by decide +kernel) rfl rfl rfl (by decide +kernel)
set_option maxRecDepth 65536 in
theorem w_c23 : (Jvm.Cond.code ({ cls := "jdk/internal/util/ArraysSupport", name := "mismatch", desc := "([BI[BII)I" } : Jvm.MethodName) jdk_48_method_14_code (8 : Nat) (Option.some Jvm.ClassFile.FieldType.int)).before args0 about1 = true := code_word (m := ⟨12, 1⟩) (meth := k12m1) (c := k12c1) (by decide +kernel) rfl rfl rfl (by decide +kernel)
set_option maxRecDepth 65536 in
theorem w_c24 : (Jvm.Cond.code ({ cls := "java/lang/String", name := "equals", desc := "(Ljava/lang/Object;)Z" } : Jvm.MethodName) jdk_42_method_66_code (3 : Nat) (Option.some Jvm.ClassFile.FieldType.boolean)).before args0 about1 = true := code_word (m := ⟨7, 4⟩) (meth := k7m4) (c := k7c4) (by decide +kernel) rfl rfl rfl (by decide +kernel)
def codes1 : List Jvm.Cond := [Jvm.Cond.code x code maxLocals ret, Jvm.Cond.code ({ cls := "com/example/fuseline/fuseline/CircuitKeyCheckedServicePinLaw", name := "pick", desc := "(I)C" } : Jvm.MethodName) method_3_code (2 : Nat) (Option.some Jvm.ClassFile.FieldType.char), Jvm.Cond.code ({ cls := "java/lang/String", name := "<init>", desc := "([C)V" } : Jvm.MethodName) jdk_42_method_3_code (2 : Nat) (Option.none : Option Jvm.ClassFile.FieldType), Jvm.Cond.code ({ cls := "java/lang/String", name := "<init>", desc := "([CIILjava/lang/Void;)V" } : Jvm.MethodName) jdk_42_method_149_code (6 : Nat) (Option.none : Option Jvm.ClassFile.FieldType), Jvm.Cond.code ({ cls := "java/lang/Object", name := "<init>", desc := "()V" } : Jvm.MethodName) object_method_1_code (1 : Nat) (Option.none : Option Jvm.ClassFile.FieldType), Jvm.Cond.code ({ cls := "java/lang/StringUTF16", name := "compress", desc := "([CII)[B" } : Jvm.MethodName) jdk_52_method_16_code (6 : Nat) (Option.some (Jvm.ClassFile.FieldType.array Jvm.ClassFile.FieldType.byte)), Jvm.Cond.code ({ cls := "java/lang/StringUTF16", name := "compress", desc := "([CI[BII)I" } : Jvm.MethodName) jdk_52_method_21_code (7 : Nat) (Option.some Jvm.ClassFile.FieldType.int), Jvm.Cond.code ({ cls := "java/lang/StringUTF16", name := "coderFromArrayLen", desc := "([BI)B" } : Jvm.MethodName) jdk_52_method_15_code (2 : Nat) (Option.some Jvm.ClassFile.FieldType.byte), Jvm.Cond.code ({ cls := "com/example/fuseline/fuseline/CircuitKeyCheckedServicePinLaw", name := "joins", desc := "(CC)Z" } : Jvm.MethodName) method_4_code (2 : Nat) (Option.some Jvm.ClassFile.FieldType.boolean), Jvm.Cond.code ({ cls := "com/example/fuseline/fuseline/CircuitKey", name := "checkedService", desc := "(Ljava/lang/String;)Ljava/lang/String;" } : Jvm.MethodName) prog_10_method_7_code (1 : Nat) (Option.some (Jvm.ClassFile.FieldType.object "java/lang/String")), Jvm.Cond.code ({ cls := "com/example/fuseline/fuseline/CircuitKey", name := "checkedPart", desc := "(Ljava/lang/String;Ljava/lang/String;)Ljava/lang/String;" } : Jvm.MethodName) prog_10_method_8_code (2 : Nat) (Option.some (Jvm.ClassFile.FieldType.object "java/lang/String")), Jvm.Cond.code ({ cls := "java/util/Objects", name := "requireNonNull", desc := "(Ljava/lang/Object;Ljava/lang/String;)Ljava/lang/Object;" } : Jvm.MethodName) jdk_31_method_11_code (2 : Nat) (Option.some (Jvm.ClassFile.FieldType.object "java/lang/Object")), Jvm.Cond.code ({ cls := "java/lang/String", name := "isEmpty", desc := "()Z" } : Jvm.MethodName) jdk_42_method_55_code (1 : Nat) (Option.some Jvm.ClassFile.FieldType.boolean), Jvm.Cond.code ({ cls := "java/lang/String", name := "contains", desc := "(Ljava/lang/CharSequence;)Z" } : Jvm.MethodName) jdk_42_method_97_code (2 : Nat) (Option.some Jvm.ClassFile.FieldType.boolean), Jvm.Cond.code ({ cls := "java/lang/String", name := "toString", desc := "()Ljava/lang/String;" } : Jvm.MethodName) jdk_42_method_126_code (1 : Nat) (Option.some (Jvm.ClassFile.FieldType.object "java/lang/String")), Jvm.Cond.code ({ cls := "java/lang/String", name := "indexOf", desc := "(Ljava/lang/String;)I" } : Jvm.MethodName) jdk_42_method_84_code (3 : Nat) (Option.some Jvm.ClassFile.FieldType.int), Jvm.Cond.code ({ cls := "java/lang/String", name := "coder", desc := "()B" } : Jvm.MethodName) jdk_42_method_152_code (1 : Nat) (Option.some Jvm.ClassFile.FieldType.byte), Jvm.Cond.code ({ cls := "java/lang/String", name := "isLatin1", desc := "()Z" } : Jvm.MethodName) jdk_42_method_154_code (1 : Nat) (Option.some Jvm.ClassFile.FieldType.boolean), Jvm.Cond.code ({ cls := "java/lang/StringLatin1", name := "indexOf", desc := "([B[B)I" } : Jvm.MethodName) jdk_43_method_24_code (2 : Nat) (Option.some Jvm.ClassFile.FieldType.int), Jvm.Cond.code ({ cls := "java/lang/StringLatin1", name := "indexOf", desc := "([BI[BII)I" } : Jvm.MethodName) jdk_43_method_25_code (11 : Nat) (Option.some Jvm.ClassFile.FieldType.int), Jvm.Cond.code ({ cls := "java/lang/String", name := "endsWith", desc := "(Ljava/lang/String;)Z" } : Jvm.MethodName) jdk_42_method_77_code (2 : Nat) (Option.some Jvm.ClassFile.FieldType.boolean), Jvm.Cond.code ({ cls := "java/lang/String", name := "length", desc := "()I" } : Jvm.MethodName) jdk_42_method_54_code (1 : Nat) (Option.some Jvm.ClassFile.FieldType.int), Jvm.Cond.code ({ cls := "java/lang/String", name := "startsWith", desc := "(Ljava/lang/String;I)Z" } : Jvm.MethodName) jdk_42_method_75_code (8 : Nat) (Option.some Jvm.ClassFile.FieldType.boolean), Jvm.Cond.code ({ cls := "jdk/internal/util/ArraysSupport", name := "mismatch", desc := "([BI[BII)I" } : Jvm.MethodName) jdk_48_method_14_code (8 : Nat) (Option.some Jvm.ClassFile.FieldType.int), Jvm.Cond.code ({ cls := "java/lang/String", name := "equals", desc := "(Ljava/lang/Object;)Z" } : Jvm.MethodName) jdk_42_method_66_code (3 : Nat) (Option.some Jvm.ClassFile.FieldType.boolean)]
set_option maxRecDepth 65536 in
theorem codes_eq : words1.filter isCode = codes1 := rfl
theorem w_codes : ∀ c ∈ words1.filter isCode, c.before args0 about1 = true := by
  rw [codes_eq]
  intro c hc
  simp only [codes1, List.mem_cons, List.not_mem_nil, or_false] at hc
  rcases hc with rfl | rfl | rfl | rfl | rfl | rfl | rfl | rfl | rfl | rfl | rfl | rfl | rfl | rfl | rfl | rfl | rfl | rfl | rfl | rfl | rfl | rfl | rfl | rfl | rfl
  · exact w_c0
  · exact w_c1
  · exact w_c2
  · exact w_c3
  · exact w_c4
  · exact w_c5
  · exact w_c6
  · exact w_c7
  · exact w_c8
  · exact w_c9
  · exact w_c10
  · exact w_c11
  · exact w_c12
  · exact w_c13
  · exact w_c14
  · exact w_c15
  · exact w_c16
  · exact w_c17
  · exact w_c18
  · exact w_c19
  · exact w_c20
  · exact w_c21
  · exact w_c22
  · exact w_c23
  · exact w_c24
set_option maxRecDepth 65536 in
theorem w_t1 : (words1.take 24).all (fun c => isCode c || c.before args0 about1) = true := by decide +kernel
set_option maxRecDepth 65536 in
theorem w_t2 : ((words1.drop 24).take 24).all (fun c => isCode c || c.before args0 about1) = true := by decide +kernel
set_option maxRecDepth 65536 in
theorem w_t3 : (((words1.drop 24).drop 24).take 24).all (fun c => isCode c || c.before args0 about1) = true := by decide +kernel
set_option maxRecDepth 65536 in
theorem w_t4 : ((((words1.drop 24).drop 24).drop 24).take 24).all (fun c => isCode c || c.before args0 about1) = true := by decide +kernel
set_option maxRecDepth 65536 in
theorem w_t5 : (((((words1.drop 24).drop 24).drop 24).drop 24).take 24).all (fun c => isCode c || c.before args0 about1) = true := by decide +kernel
set_option maxRecDepth 65536 in
theorem w_t6 : (((((words1.drop 24).drop 24).drop 24).drop 24).drop 24).all (fun c => isCode c || c.before args0 about1) = true := by decide +kernel
theorem w_tables : (allAtoms (Jvm.Cond.code x code maxLocals ret :: tables_1)).before args0 about1 = true := by
  rw [allAtoms_all]
  show words1.all (fun c => c.before args0 about1) = true
  refine all_split ?_ w_codes
  rw [← List.take_append_drop 24 words1, List.all_append, w_t1, ← List.take_append_drop 24 (words1.drop 24), List.all_append, w_t2, ← List.take_append_drop 24 ((words1.drop 24).drop 24), List.all_append, w_t3, ← List.take_append_drop 24 (((words1.drop 24).drop 24).drop 24), List.all_append, w_t4, ← List.take_append_drop 24 ((((words1.drop 24).drop 24).drop 24).drop 24), List.all_append, w_t5, w_t6]
  rfl
set_option maxRecDepth 65536 in
theorem w_rest : rest_1_c.before args0 about1 = true := by decide +kernel
set_option maxRecDepth 65536 in
theorem w_case : (Jvm.Cond.and given_1 narrow_1).before args0 about1 = true := by decide +kernel
set_option maxRecDepth 65536 in
theorem w_consts : constsHeld consts_1 about1 := Jvm.Lit.constsHeldB_iff.mp (by decide +kernel)
theorem w_applies : (headSpec (Jvm.Cond.code x code maxLocals ret :: tables_1) room_1).applies x e0.platform about1 = true :=
  (Spec.applies_iff w_frames).mpr ⟨w_running, w_runnable, w_alone, w_named, w_hears, w_ripe, w_room, w_tables⟩
theorem atStart : AtStart classFile x code maxLocals ret World_1 tables_1 room_1 Calls_1 rest_1 Pre_1 launch0 p0 e0 about1 theMethod args0 below0 :=
  ⟨lists_1, trivial, launch0.admits_env _ _ _, launch0.least_env, fairChoices_fair.cas, fairChoices_fair.clock, w_frames, w_args, w_heap, w_applies, ⟨w_consts, trivial⟩, w_rest, w_case⟩
end start1
theorem witness_1 : WitnessClaimed_1 := ⟨start1.p0, start1.e0, start1.about1, start1.theMethod, start1.args0, start1.below0, start1.atStart⟩
end Jvm.Pilot.@@N@@
