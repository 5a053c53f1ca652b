import JvmDerived
import JvmDerived.Pilot.@@N@@Statement
import JvmDerived.Pilot.@@N@@Code
set_option linter.unusedVariables false
set_option linter.unusedSimpArgs false
/- laws to paste: Road.backV, Road.eqW, Road.codOf (cut by pick.py; bodies as the Statement names them) -/
namespace Jvm.Pilot.@@N@@
namespace StrChars
open Jvm Sem ClassFile Op Lib Jvm.Stand Jvm.Free.XT Jvm.Free.ALB Jvm.Free.JM Jvm.Free
open Jvm.Lib.Cold (StaticIs)
/-- a char array whose places are chars -/
def Ch (a : Addr) (A : Cell) (U : State) : Prop := Arr .char a A U ∧ Typed .char A
theorem Ch.mv {a : Addr} {A : Cell} {U U' : State} (h : Ch a A U) (hal : U.vm.Alike U'.vm) (hh : U'.heap = U.heap) : Ch a A U' := ⟨h.1.mv hal hh, h.2⟩
theorem Ch.keep {a : Addr} {A : Cell} {U U' : State} (h : Ch a A U) (hal : U.vm.Alike U'.vm) (hk : U'.heap[a]? = some A) : Ch a A U' := ⟨h.1.keep hal hk, h.2⟩
/-- what place i of a char[]'s cell holds -/
def cv (A : Cell) (i : Nat) : Int32 := match A.slots[i]? with | some (.int x) => x | _ => 0
theorem Ch.get {a : Addr} {A : Cell} {U : State} (h : Ch a A U) {i : Nat} (hi : i < A.slots.size) : A.slots[i]? = some (.int (cv A i)) := by
  have e := Array.getElem?_eq_getElem hi
  have f := h.2 i _ e
  unfold cv; rw [e]
  generalize A.slots[i] = v at f
  cases v <;> simp [fits] at f ⊢
/-- the byte that i2b leaves of a char -/
def lo8 (x : Int32) : Int32 := x.toInt8.toInt32
theorem fits_lo8 (y : Int32) : fits .byte (.int (lo8 y)) = true := by
  have h1 := y.toInt8.le_toInt
  have h2 := y.toInt8.toInt_lt
  simp only [lo8, fits, Bool.and_eq_true, decide_eq_true_eq, Int32.le_iff_toInt_le, Int8.toInt_toInt32, show (-128 : Int32).toInt = -128 from by decide, show (127 : Int32).toInt = 127 from by decide]
  omega
/-- A' is A but that each place j of lo .. hi - 1 holds f j -/
def Laid (A A' : Cell) (lo hi : Nat) (f : Nat → Value) : Prop := A'.cls = A.cls ∧ A'.vm = A.vm ∧ A'.slots.size = A.slots.size ∧ ∀ i, A'.slots[i]? = if lo ≤ i ∧ i < hi then some (f i) else A.slots[i]?
theorem Laid.zero (A : Cell) (lo : Nat) (f : Nat → Value) : Laid A A lo (lo + 0) f := ⟨rfl, rfl, rfl, fun i => by rw [if_neg (by omega)]⟩
theorem Laid.step {A Ak : Cell} {lo k : Nat} {f : Nat → Value} {v : Value} (h : Laid A Ak lo k f) (hlo : lo ≤ k) (hk : k < Ak.slots.size) (hv : v = f k) : Laid A (Ak.setSlot k v) lo (k + 1) f := by
  refine ⟨h.1, h.2.1, by simpa [Cell.setSlot] using h.2.2.1, fun i => ?_⟩
  by_cases e : k = i
  · subst e; rw [Cell.slots_setSlot_self v hk, if_pos (by omega), hv]
  · rw [Cell.slots_setSlot_ne v e, h.2.2.2 i]
    by_cases q : lo ≤ i ∧ i < k
    · rw [if_pos q, if_pos (by omega)]
    · rw [if_neg q, if_neg (by omega)]
def U16 : String := "java/lang/StringUTF16"
namespace Cmp5
def yN : MethodName := ⟨"java/lang/StringUTF16", "compress", "([CI[BII)I"⟩
abbrev yB : ByteArray := jdk_52_method_21_code
theorem d0 : decode yB 0 = .ok (.iconst 0, 1) := by decide +kernel
theorem d1 : decode yB 1 = .ok (.istore 5, 2) := by decide +kernel
theorem d3 : decode yB 3 = .ok (.iload 5, 2) := by decide +kernel
theorem d5 : decode yB 5 = .ok (.iload 4, 2) := by decide +kernel
theorem d7 : decode yB 7 = .ok (.if_icmp (.ge) 37, 3) := by decide +kernel
theorem d10 : decode yB 10 = .ok (.aload_n 0, 1) := by decide +kernel
theorem d11 : decode yB 11 = .ok (.iload_n 1, 1) := by decide +kernel
theorem d12 : decode yB 12 = .ok (.caload, 1) := by decide +kernel
theorem d13 : decode yB 13 = .ok (.istore 6, 2) := by decide +kernel
theorem d15 : decode yB 15 = .ok (.iload 6, 2) := by decide +kernel
theorem d17 : decode yB 17 = .ok (.sipush 255, 3) := by decide +kernel
theorem d20 : decode yB 20 = .ok (.if_icmp (.le) 6, 3) := by decide +kernel
theorem d26 : decode yB 26 = .ok (.aload_n 2, 1) := by decide +kernel
theorem d27 : decode yB 27 = .ok (.iload_n 3, 1) := by decide +kernel
theorem d28 : decode yB 28 = .ok (.iload 6, 2) := by decide +kernel
theorem d30 : decode yB 30 = .ok (.i2b, 1) := by decide +kernel
theorem d31 : decode yB 31 = .ok (.bastore, 1) := by decide +kernel
theorem d32 : decode yB 32 = .ok (.iinc 1 1, 3) := by decide +kernel
theorem d35 : decode yB 35 = .ok (.iinc 3 1, 3) := by decide +kernel
theorem d38 : decode yB 38 = .ok (.iinc 5 1, 3) := by decide +kernel
theorem d41 : decode yB 41 = .ok (.goto (-38), 3) := by decide +kernel
theorem d44 : decode yB 44 = .ok (.iload 4, 2) := by decide +kernel
theorem d46 : decode yB 46 = .ok (.ireturn, 1) := by decide +kernel
def site : List Cond := []
def tab : Cond := tabOf yN yB 7 (some .int) site
def P (b : Addr) (A : Cell) (d : Addr) (B : Cell) (o q len : Nat) (args : Array Value) (s : State) : Prop := args = #[.ref b, .int (Int32.ofNat o), .ref d, .int (Int32.ofNat q), .int (Int32.ofNat len)] ∧ Ch b A s ∧ Arr .byte d B s ∧ b ≠ d ∧ o + len ≤ A.slots.size ∧ q + len ≤ B.slots.size ∧ ∀ i, i < len → ¬ 255 < cv A (o + i)
def E (b : Addr) (A : Cell) (d : Addr) (B : Cell) (o q len : Nat) (r : Option Value) (s u : State) : Prop := r = some (.int (Int32.ofNat len)) ∧ ∃ B', Put d B' s u ∧ Laid B B' q (q + len) (fun j => Value.int (lo8 (cv A (o + (j - q)))))
/-- no char of the range above 255: len; the places written hold each char's low byte -/
theorem law (l : Launch) (b : Addr) (A : Cell) (d : Addr) (B : Cell) (o q len : Nat) : Law l yN 5 5 0 0 yB 7 (some .int) site (P b A d B o q len) (E b A d B o q len) (copyLocs d q len) 0 0 := by
  refine Law.of_walk (plainFor_of_name (by decide +kernel)) (by decide +kernel) (by decide +kernel) (by decide) (fun _ _ h => by rw [h.1]; rfl) (fun _ U U' hal hh h => ⟨h.1, h.2.1.mv hal hh, h.2.2.1.mv hal hh, h.2.2.2⟩) (fun r U U' V V' h1 hal h2 h => ⟨h.1, h.2.elim fun B' q => ⟨B', q.1.mv h1 h2, q.2⟩⟩) ?_
  intro p e s m args below meth c s₁ X0 hexec hbytes hml hret hlk hnm hown hh0 W hP
  obtain ⟨rfl, hA, hB, hne, l1, l2, hp⟩ := hP
  have c1 : Steps p.tables e below (s₁.setTop (entryFrame m #[.ref b, .int (Int32.ofNat o), .ref d, .int (Int32.ofNat q), .int (Int32.ofNat len)] 7)) (s₁.setTop (mkF m 0 #[.val (.ref b), .val (.int (Int32.ofNat o)), .val (.ref d), .val (.int (Int32.ofNat q)), .val (.int (Int32.ofNat len)), .unset, .unset] [])) := entry rfl
  have hA0 := hA.1.mv X0.warmed.alike hh0
  have hB0 := hB.mv X0.warmed.alike hh0
  have a31 := hA.1.2.2.2
  have c2 : Steps p.tables e below (s₁.setTop (entryFrame m #[.ref b, .int (Int32.ofNat o), .ref d, .int (Int32.ofNat q), .int (Int32.ofNat len)] 7)) (s₁.setTop (mkF m 3 #[.val (.ref b), .val (.int (Int32.ofNat o)), .val (.ref d), .val (.int (Int32.ofNat q)), .val (.int (Int32.ofNat len)), .val (.int 0), .unset] [])) := c1.trans (by
    refine iconstV X0.here hexec rfl 0 (hb hbytes d0) (by decide) ?_
    refine XS.istore X0.here hexec rfl (hb hbytes d1) rfl rfl ?_
    exact Steps.refl _)
  have loop : ∀ (r i : Nat), i + r = len → ∀ (z : Slot), (z = .unset ∨ ∃ w, z = .val w ∧ w.category = 1) → ∀ (Tl : State) (Bk : Cell), Stand p l e { frames := 0, locals := 0, cells := 0, slots := 0 } s m #[.ref b, .int (Int32.ofNat o), .ref d, .int (Int32.ofNat q), .int (Int32.ofNat len)] below meth c Tl ([] ++ copyLocs d q i) 0 0 → Put d Bk s₁ Tl → Laid B Bk q (q + i) (fun j => Value.int (lo8 (cv A (o + (j - q))))) →
      Steps p.tables e below (s₁.setTop (entryFrame m #[.ref b, .int (Int32.ofNat o), .ref d, .int (Int32.ofNat q), .int (Int32.ofNat len)] 7)) (Tl.setTop (mkF m 3 #[.val (.ref b), .val (.int (Int32.ofNat (o + i))), .val (.ref d), .val (.int (Int32.ofNat (q + i))), .val (.int (Int32.ofNat len)), .val (.int (Int32.ofNat i)), z] [])) → ∃ (T' : State) (B' : Cell) (z' : Slot), Stand p l e { frames := 0, locals := 0, cells := 0, slots := 0 } s m #[.ref b, .int (Int32.ofNat o), .ref d, .int (Int32.ofNat q), .int (Int32.ofNat len)] below meth c T' ([] ++ copyLocs d q len) 0 0 ∧ Put d B' s₁ T' ∧ Laid B B' q (q + len) (fun j => Value.int (lo8 (cv A (o + (j - q))))) ∧
      Steps p.tables e below (s₁.setTop (entryFrame m #[.ref b, .int (Int32.ofNat o), .ref d, .int (Int32.ofNat q), .int (Int32.ofNat len)] 7)) (T'.setTop (mkF m 3 #[.val (.ref b), .val (.int (Int32.ofNat (o + len))), .val (.ref d), .val (.int (Int32.ofNat (q + len))), .val (.int (Int32.ofNat len)), .val (.int (Int32.ofNat len)), z'] [])) := by
    intro r
    induction r with
    | zero =>
      intro i hi z hz Tl Bk Xl pl fl cl
      have hil : i = len := by omega
      rw [hil] at Xl fl cl
      exact ⟨Tl, Bk, z, Xl, pl, fl, cl⟩
    | succ r ih =>
      intro i hi z hz Tl Bk Xl pl fl cl
      have all := X0.warmed.alike.symm.trans Xl.warmed.alike
      have hAl := hA0.keep all (pl.other hne hA0.1)
      have hBk := hB0.like all pl.1 fl.1 fl.2.1 fl.2.2.1
      have hlt : q + i < Bk.slots.size := by rw [fl.2.2.1]; omega
      have c3 : Steps p.tables e below (s₁.setTop (entryFrame m #[.ref b, .int (Int32.ofNat o), .ref d, .int (Int32.ofNat q), .int (Int32.ofNat len)] 7)) (Tl.setTop (mkF m 12 #[.val (.ref b), .val (.int (Int32.ofNat (o + i))), .val (.ref d), .val (.int (Int32.ofNat (q + i))), .val (.int (Int32.ofNat len)), .val (.int (Int32.ofNat i)), z] [.int (Int32.ofNat (o + i)), .ref b])) := cl.trans (by
        refine XS.iload Xl.here hexec rfl (hb hbytes d3) rfl ?_
        refine XS.iload Xl.here hexec rfl (hb hbytes d5) rfl ?_
        refine XS.icmpNo Xl.here hexec rfl (hb hbytes d7) rfl (ii_ge_f (lt32 (by omega) (by omega))) ?_
        refine XS.aloadN Xl.here hexec rfl (hb hbytes d10) rfl rfl ?_
        refine XS.iloadN Xl.here hexec rfl (hb hbytes d11) rfl ?_
        exact Steps.refl _)
      have c4 : Steps p.tables e below (s₁.setTop (entryFrame m #[.ref b, .int (Int32.ofNat o), .ref d, .int (Int32.ofNat q), .int (Int32.ofNat len)] 7)) (Tl.setTop (mkF m 13 #[.val (.ref b), .val (.int (Int32.ofNat (o + i))), .val (.ref d), .val (.int (Int32.ofNat (q + i))), .val (.int (Int32.ofNat len)), .val (.int (Int32.ofNat i)), z] [.int (cv A (o + i))])) := c3.trans (by
        refine Xl.aget hexec hAl rfl (hA.get (i := o + i) (by omega)) rfl rfl (hb hbytes d12) ?_
        exact Steps.refl _)
      have c5 : Steps p.tables e below (s₁.setTop (entryFrame m #[.ref b, .int (Int32.ofNat o), .ref d, .int (Int32.ofNat q), .int (Int32.ofNat len)] 7)) (Tl.setTop (mkF m 15 #[.val (.ref b), .val (.int (Int32.ofNat (o + i))), .val (.ref d), .val (.int (Int32.ofNat (q + i))), .val (.int (Int32.ofNat len)), .val (.int (Int32.ofNat i)), .val (.int (cv A (o + i)))] [])) := c4.trans (by
        refine XS.istoreS Xl.here hexec rfl (hb hbytes d13) rfl rfl hz ?_
        exact Steps.refl _)
      have c6 : Steps p.tables e below (s₁.setTop (entryFrame m #[.ref b, .int (Int32.ofNat o), .ref d, .int (Int32.ofNat q), .int (Int32.ofNat len)] 7)) (Tl.setTop (mkF m 31 #[.val (.ref b), .val (.int (Int32.ofNat (o + i))), .val (.ref d), .val (.int (Int32.ofNat (q + i))), .val (.int (Int32.ofNat len)), .val (.int (Int32.ofNat i)), .val (.int (cv A (o + i)))] [.int (lo8 (cv A (o + i))), .int (Int32.ofNat (q + i)), .ref d])) := c5.trans (by
        refine XS.iload Xl.here hexec rfl (hb hbytes d15) rfl ?_
        refine sipushV Xl.here hexec rfl 255 (hb hbytes d17) (by decide) ?_
        refine XS.icmpYes Xl.here hexec rfl (pc0 := 20) rfl (hb hbytes d20) rfl (ii_le_t (hp i (by omega))) (by decide) rfl ?_
        refine XS.aloadN Xl.here hexec rfl (hb hbytes d26) rfl rfl ?_
        refine XS.iloadN Xl.here hexec rfl (hb hbytes d27) rfl ?_
        refine XS.iload Xl.here hexec rfl (hb hbytes d28) rfl ?_
        refine i2b Xl.here hexec rfl (hb hbytes d30) rfl ?_
        exact Steps.refl _)
      obtain ⟨T7, X7, p7, st7⟩ := Xl.aput hexec hBk rfl hlt rfl (fits_lo8 (cv A (o + i))) (g := (mkF m 31 #[.val (.ref b), .val (.int (Int32.ofNat (o + i))), .val (.ref d), .val (.int (Int32.ofNat (q + i))), .val (.int (Int32.ofNat len)), .val (.int (Int32.ofNat i)), .val (.int (cv A (o + i)))] [.int (lo8 (cv A (o + i))), .int (Int32.ofNat (q + i)), .ref d])) rfl (rest := []) rfl (hb hbytes d31)
      have c8 : Steps p.tables e below (s₁.setTop (entryFrame m #[.ref b, .int (Int32.ofNat o), .ref d, .int (Int32.ofNat q), .int (Int32.ofNat len)] 7)) (T7.setTop (mkF m 32 #[.val (.ref b), .val (.int (Int32.ofNat (o + i))), .val (.ref d), .val (.int (Int32.ofNat (q + i))), .val (.int (Int32.ofNat len)), .val (.int (Int32.ofNat i)), .val (.int (cv A (o + i)))] [])) := c6.trans (st7 _ (Steps.refl _))
      have c9 : Steps p.tables e below (s₁.setTop (entryFrame m #[.ref b, .int (Int32.ofNat o), .ref d, .int (Int32.ofNat q), .int (Int32.ofNat len)] 7)) (T7.setTop (mkF m 3 #[.val (.ref b), .val (.int (Int32.ofNat (o + i) + 1)), .val (.ref d), .val (.int (Int32.ofNat (q + i) + 1)), .val (.int (Int32.ofNat len)), .val (.int (Int32.ofNat i + 1)), .val (.int (cv A (o + i)))] [])) := c8.trans (by
        refine iincV X7.here hexec rfl 1 (hb hbytes d32) (by decide) rfl rfl ?_
        refine iincV X7.here hexec rfl 1 (hb hbytes d35) (by decide) rfl rfl ?_
        refine iincV X7.here hexec rfl 1 (hb hbytes d38) (by decide) rfl rfl ?_
        refine XS.goto X7.here hexec rfl (pc0 := 41) rfl (hb hbytes d41) (by decide) rfl ?_
        exact Steps.refl _)
      have c10 : Steps p.tables e below (s₁.setTop (entryFrame m #[.ref b, .int (Int32.ofNat o), .ref d, .int (Int32.ofNat q), .int (Int32.ofNat len)] 7)) (T7.setTop (mkF m 3 #[.val (.ref b), .val (.int (Int32.ofNat (o + (i + 1)))), .val (.ref d), .val (.int (Int32.ofNat (q + (i + 1)))), .val (.int (Int32.ofNat len)), .val (.int (Int32.ofNat (i + 1))), .val (.int (cv A (o + i)))] [])) := by
        have := c9
        rw [succ32, succ32, succ32] at this
        exact this
      exact ih (i + 1) (by omega) _ (Or.inr ⟨_, rfl, rfl⟩) T7 _ (by rw [copyLocs_step, ← List.append_assoc]; exact X7) (pl.trans p7) (fl.step (by omega) hlt (by simp)) c10
  obtain ⟨T9, B9, z9, X9, p9, f9, g9⟩ := loop len 0 (by omega) .unset (Or.inl rfl) s₁ B (by simpa [copyLocs] using X0) ⟨hB0.1, fun _ _ => rfl, rfl⟩ (Laid.zero _ _ _) c2
  have c11 : Steps p.tables e below (s₁.setTop (entryFrame m #[.ref b, .int (Int32.ofNat o), .ref d, .int (Int32.ofNat q), .int (Int32.ofNat len)] 7)) (T9.setTop (mkF m 46 #[.val (.ref b), .val (.int (Int32.ofNat (o + len))), .val (.ref d), .val (.int (Int32.ofNat (q + len))), .val (.int (Int32.ofNat len)), .val (.int (Int32.ofNat len)), z9] [.int (Int32.ofNat len)])) := g9.trans (by
    refine XS.iload X9.here hexec rfl (hb hbytes d3) rfl ?_
    refine XS.iload X9.here hexec rfl (hb hbytes d5) rfl ?_
    refine XS.icmpYes X9.here hexec rfl (pc0 := 7) rfl (hb hbytes d7) rfl (ii_ge_t (nlt32 (by omega) (Nat.le_refl _))) (by decide) rfl ?_
    refine XS.iload X9.here hexec rfl (hb hbytes d44) rfl ?_
    exact Steps.refl _)
  exact ⟨T9, some (.int (Int32.ofNat len)), _, _, _, X9, by simp, rfl, rfl, (fun h => by cases h), ⟨rfl, B9, p9.from hh0, f9⟩, fun fs hl => c11.trans (X9.ireturnOut hexec hret rfl (Or.inl rfl) (hb hbytes d46) hl)⟩
end Cmp5
namespace Cmp3
def yN : MethodName := ⟨"java/lang/StringUTF16", "compress", "([CII)[B"⟩
abbrev yB : ByteArray := jdk_52_method_16_code
theorem d0 : decode yB 0 = .ok (.iload_n 2, 1) := by decide +kernel
theorem d1 : decode yB 1 = .ok (.newarray .byte, 2) := by decide +kernel
theorem d3 : decode yB 3 = .ok (.astore_n 3, 1) := by decide +kernel
theorem d4 : decode yB 4 = .ok (.aload_n 0, 1) := by decide +kernel
theorem d5 : decode yB 5 = .ok (.iload_n 1, 1) := by decide +kernel
theorem d6 : decode yB 6 = .ok (.aload_n 3, 1) := by decide +kernel
theorem d7 : decode yB 7 = .ok (.iconst 0, 1) := by decide +kernel
theorem d8 : decode yB 8 = .ok (.iload_n 2, 1) := by decide +kernel
theorem d9 : decode yB 9 = .ok (.invokestatic 115, 3) := by decide +kernel
theorem d12 : decode yB 12 = .ok (.istore 4, 2) := by decide +kernel
theorem d14 : decode yB 14 = .ok (.iload 4, 2) := by decide +kernel
theorem d16 : decode yB 16 = .ok (.iload_n 2, 1) := by decide +kernel
theorem d17 : decode yB 17 = .ok (.if_icmp (.eq) 40, 3) := by decide +kernel
theorem d57 : decode yB 57 = .ok (.aload_n 3, 1) := by decide +kernel
theorem d58 : decode yB 58 = .ok (.areturn, 1) := by decide +kernel
def site : List Cond := [.arrayClass .byte, Cmp5.tab] ++ staticW U16 115 Cmp5.yN
def tab : Cond := tabOf yN yB 6 (some (.array .byte)) site
def P (b : Addr) (A : Cell) (o len : Nat) (args : Array Value) (s : State) : Prop := args = #[.ref b, .int (Int32.ofNat o), .int (Int32.ofNat len)] ∧ Ch b A s ∧ o + len ≤ A.slots.size ∧ len ≤ 536870912 ∧ ∀ i, i < len → ¬ 255 < cv A (o + i)
def E (b : Addr) (A : Cell) (o len : Nat) (r : Option Value) (s u : State) : Prop := NewArr .byte "[B" len (fun j => .int (lo8 (cv A (o + j)))) r s u ∧ u.heap.size = s.heap.size + 1
/-- no char of the range above 255: a new byte[] of their low bytes -/
theorem law (l : Launch) (b : Addr) (A : Cell) (o len : Nat) : Law l yN 3 3 1 18 yB 6 (some (.array .byte)) site (P b A o len) (E b A o len) [] 1 len := by
  refine Law.of_walk (plainFor_of_name (by decide +kernel)) (by decide +kernel) (by decide +kernel) (by decide) (fun _ _ h => by rw [h.1]; rfl) (fun _ U U' hal hh h => ⟨h.1, h.2.1.mv hal hh, h.2.2⟩) (fun r U U' V V' h1 hal h2 h => ⟨NewArr.mv r U U' V V' h1 hal h2 h.1, by rw [h1, h2]; exact h.2⟩) ?_
  intro p e s m args below meth c s₁ X0 hexec hbytes hml hret hlk hnm hown hh0 W hP
  obtain ⟨rfl, hA, l1, l2, hp⟩ := hP
  have a31 := hA.1.2.2.2
  have c1 : Steps p.tables e below (s₁.setTop (entryFrame m #[.ref b, .int (Int32.ofNat o), .int (Int32.ofNat len)] 6)) (s₁.setTop (mkF m 0 #[.val (.ref b), .val (.int (Int32.ofNat o)), .val (.int (Int32.ofNat len)), .unset, .unset, .unset] [])) := entry rfl
  have c2 : Steps p.tables e below (s₁.setTop (entryFrame m #[.ref b, .int (Int32.ofNat o), .int (Int32.ofNat len)] 6)) (s₁.setTop (mkF m 1 #[.val (.ref b), .val (.int (Int32.ofNat o)), .val (.int (Int32.ofNat len)), .unset, .unset, .unset] [.int (Int32.ofNat len)])) := c1.trans (by
    refine XS.iloadN X0.here hexec rfl (hb hbytes d0) rfl ?_
    exact Steps.refl _)
  obtain ⟨T3, B3, X3, ba3, bs3, bv3, bh3, bf3, st3⟩ := X0.anew hexec (atype := .byte) (wk W (.arrayClass .byte)) rfl (by show len * 1 ≤ _; omega) (by omega) (g := (mkF m 1 #[.val (.ref b), .val (.int (Int32.ofNat o)), .val (.int (Int32.ofNat len)), .unset, .unset, .unset] [.int (Int32.ofNat len)])) rfl (hb hbytes d1) (rest := []) rfl (Nat.le_refl _) (by show 0 + len ≤ len; omega)
  rw [hh0] at ba3 st3
  have kp3 : XT.Kept s T3 := (XT.Kept.of_eq hh0).push bh3
  have hA3 := hA.keep X3.warmed.alike (kp3 _ _ hA.1.1)
  have hne : b ≠ s.heap.size := hA.1.ne
  have c4 : Steps p.tables e below (s₁.setTop (entryFrame m #[.ref b, .int (Int32.ofNat o), .int (Int32.ofNat len)] 6)) (T3.setTop (mkF m 3 #[.val (.ref b), .val (.int (Int32.ofNat o)), .val (.int (Int32.ofNat len)), .unset, .unset, .unset] [.ref s.heap.size])) := c2.trans (st3 _ (Steps.refl _))
  have c5 : Steps p.tables e below (s₁.setTop (entryFrame m #[.ref b, .int (Int32.ofNat o), .int (Int32.ofNat len)] 6)) (T3.setTop (mkF m 9 #[.val (.ref b), .val (.int (Int32.ofNat o)), .val (.int (Int32.ofNat len)), .val (.ref s.heap.size), .unset, .unset] [.int (Int32.ofNat len), .int 0, .ref s.heap.size, .int (Int32.ofNat o), .ref b])) := c4.trans (by
    refine XS.astoreN X3.here hexec rfl (hb hbytes d3) rfl rfl rfl ?_
    refine XS.aloadN X3.here hexec rfl (hb hbytes d4) rfl rfl ?_
    refine XS.iloadN X3.here hexec rfl (hb hbytes d5) rfl ?_
    refine XS.aloadN X3.here hexec rfl (hb hbytes d6) rfl rfl ?_
    refine iconstV X3.here hexec rfl 0 (hb hbytes d7) (by decide) ?_
    refine XS.iloadN X3.here hexec rfl (hb hbytes d8) rfl ?_
    exact Steps.refl _)
  obtain ⟨v6, T6, X6, E6, g6⟩ := X3.callS hexec (Cmp5.law l b A s.heap.size B3 o 0 len) hown (wks W (staticW U16 115 Cmp5.yN)) (wk W Cmp5.tab) (W := 0) (Nat.le_of_ble_eq_true rfl) (Nat.le_of_ble_eq_true rfl) (Nat.le_refl _) (by show 0 + len + 0 ≤ len; omega) (g := (mkF m 9 #[.val (.ref b), .val (.int (Int32.ofNat o)), .val (.int (Int32.ofNat len)), .val (.ref s.heap.size), .unset, .unset] [.int (Int32.ofNat len), .int (Int32.ofNat 0), .ref s.heap.size, .int (Int32.ofNat o), .ref b])) rfl (by rw [hml]; rfl) c5 (argsL := [.ref b, .int (Int32.ofNat o), .ref s.heap.size, .int (Int32.ofNat 0), .int (Int32.ofNat len)]) (rest := []) rfl rfl (by show 2 * 0 + 0 ≤ _; decide) (hb hbytes d9) (⟨rfl, hA3, ba3, hne, l1, by rw [bs3]; simp, hp⟩)
  obtain ⟨rfl, B6, p6, f6⟩ := E6
  have c7 : Steps p.tables e below (s₁.setTop (entryFrame m #[.ref b, .int (Int32.ofNat o), .int (Int32.ofNat len)] 6)) (T6.setTop (mkF m 12 #[.val (.ref b), .val (.int (Int32.ofNat o)), .val (.int (Int32.ofNat len)), .val (.ref s.heap.size), .unset, .unset] [.int (Int32.ofNat len)])) := g6
  have c8 : Steps p.tables e below (s₁.setTop (entryFrame m #[.ref b, .int (Int32.ofNat o), .int (Int32.ofNat len)] 6)) (T6.setTop (mkF m 58 #[.val (.ref b), .val (.int (Int32.ofNat o)), .val (.int (Int32.ofNat len)), .val (.ref s.heap.size), .val (.int (Int32.ofNat len)), .unset] [.ref s.heap.size])) := c7.trans (by
    refine XS.istore X6.here hexec rfl (hb hbytes d12) rfl rfl ?_
    refine XS.iload X6.here hexec rfl (hb hbytes d14) rfl ?_
    refine XS.iloadN X6.here hexec rfl (hb hbytes d16) rfl ?_
    refine XS.icmpYes X6.here hexec rfl (pc0 := 17) rfl (hb hbytes d17) rfl (ii_eq_t rfl) (by decide) rfl ?_
    refine XS.aloadN X6.here hexec rfl (hb hbytes d57) rfl rfl ?_
    exact Steps.refl _)
  have X8 := X6.wide (L' := []) (cells' := 1) (slots' := len) (fun x hx hlt => by
    simp only [List.nil_append, copyLocs, List.mem_map, List.mem_range] at hx
    obtain ⟨i, -, rfl⟩ := hx
    exact absurd hlt (Nat.lt_irrefl _)) (Nat.le_refl _) (by omega)
  exact ⟨T6, some (.ref s.heap.size), _, _, _, X8, rfl, rfl, rfl, (fun h => by cases h), ⟨⟨rfl, B6, ba3.like (X3.warmed.alike.symm.trans X6.warmed.alike) p6.1 f6.1 f6.2.1 f6.2.2.1, f6.2.1.trans bv3, by rw [X6.warmed.alike.findClass, f6.1]; exact bf3, by rw [f6.2.2.1, bs3]; simp, fun j hj => by rw [f6.2.2.2 j, if_pos (by omega)]; rfl, kp3.put p6 (Nat.le_refl _)⟩, by rw [p6.2.2, bh3, hh0]; simp⟩, fun fs hl => c8.trans (X8.areturnOut hexec rfl hret rfl (hb hbytes d58) hl)⟩
end Cmp3
namespace CodL
def yN : MethodName := ⟨"java/lang/StringUTF16", "coderFromArrayLen", "([BI)B"⟩
abbrev yB : ByteArray := jdk_52_method_15_code
theorem d0 : decode yB 0 = .ok (.iload_n 1, 1) := by decide +kernel
theorem d1 : decode yB 1 = .ok (.aload_n 0, 1) := by decide +kernel
theorem d2 : decode yB 2 = .ok (.arraylength, 1) := by decide +kernel
theorem d3 : decode yB 3 = .ok (.isub, 1) := by decide +kernel
theorem d4 : decode yB 4 = .ok (.bipush 31, 2) := by decide +kernel
theorem d6 : decode yB 6 = .ok (.iushr, 1) := by decide +kernel
theorem d7 : decode yB 7 = .ok (.i2b, 1) := by decide +kernel
theorem d8 : decode yB 8 = .ok (.ireturn, 1) := by decide +kernel
def site : List Cond := []
def tab : Cond := tabOf yN yB 2 (some .byte) site
def P (d : Addr) (B : Cell) (args : Array Value) (s : State) : Prop := args = #[.ref d, .int (Int32.ofNat B.slots.size)] ∧ Arr .byte d B s
def E (r : Option Value) (s u : State) : Prop := XT.PureE (some (.int 0)) r s u
/-- an array as long as the number of chars: LATIN1 -/
theorem law (l : Launch) (d : Addr) (B : Cell) : Law l yN 2 2 0 0 yB 2 (some .byte) site (P d B) E [] 0 0 := by
  refine Law.of_walk (plainFor_of_name (by decide +kernel)) (by decide +kernel) (by decide +kernel) (by decide) (fun _ _ h => by rw [h.1]; rfl) (fun _ U U' hal hh h => ⟨h.1, h.2.mv hal hh⟩) (fun r U U' V V' h1 hal h2 h => XT.PureE.mv r U U' V V' h1 hal h2 h) ?_
  intro p e s m args below meth c s₁ X0 hexec hbytes hml hret hlk hnm hown hh0 W hP
  obtain ⟨rfl, hB⟩ := hP
  have hB0 := hB.mv X0.warmed.alike hh0
  have c1 : Steps p.tables e below (s₁.setTop (entryFrame m #[.ref d, .int (Int32.ofNat B.slots.size)] 2)) (s₁.setTop (mkF m 0 #[.val (.ref d), .val (.int (Int32.ofNat B.slots.size))] [])) := entry rfl
  have c2 : Steps p.tables e below (s₁.setTop (entryFrame m #[.ref d, .int (Int32.ofNat B.slots.size)] 2)) (s₁.setTop (mkF m 2 #[.val (.ref d), .val (.int (Int32.ofNat B.slots.size))] [.ref d, .int (Int32.ofNat B.slots.size)])) := c1.trans (by
    refine XS.iloadN X0.here hexec rfl (hb hbytes d0) rfl ?_
    refine XS.aloadN X0.here hexec rfl (hb hbytes d1) rfl rfl ?_
    exact Steps.refl _)
  have c3 : Steps p.tables e below (s₁.setTop (entryFrame m #[.ref d, .int (Int32.ofNat B.slots.size)] 2)) (s₁.setTop (mkF m 8 #[.val (.ref d), .val (.int (Int32.ofNat B.slots.size))] [.int (lo8 (ushr (Int32.ofNat B.slots.size - Int32.ofNat B.slots.size) 31))])) := c2.trans (by
    refine X0.alen hexec hB0 rfl rfl (hb hbytes d2) ?_
    refine XS.isub X0.here hexec rfl (hb hbytes d3) rfl ?_
    refine bipushV X0.here hexec rfl 31 (hb hbytes d4) (by decide) ?_
    refine iushr X0.here hexec rfl (hb hbytes d6) rfl ?_
    refine i2b X0.here hexec rfl (hb hbytes d7) rfl ?_
    exact Steps.refl _)
  have e0 : lo8 (ushr (Int32.ofNat B.slots.size - Int32.ofNat B.slots.size) 31) = 0 := by rw [Int32.sub_self]; decide
  rw [e0] at c3
  exact ⟨s₁, some (.int 0), _, _, _, X0, rfl, rfl, rfl, (fun h => by cases h), ⟨rfl, hh0⟩, fun fs hl => c3.trans (X0.ireturnOut hexec hret rfl (Or.inr (Or.inr (Or.inl rfl))) (hb hbytes d8) hl)⟩
end CodL
/-- the String at a is Latin-1 over a new byte[] (the heap's one new cell): the low bytes of the len chars of A from o on; every cell but a is kept -/
def Got (a : Addr) (D : Cell) (fV fC : Field) (A : Cell) (o len : Nat) (r : Option Value) (s u : State) : Prop := r = none ∧ ∃ D' V : Cell, Blank "java/lang/String" a D' u ∧ Same D D' [fV.slot, fC.slot] ∧ D'.slots[fV.slot]? = some (.ref s.heap.size) ∧ D'.slots[fC.slot]? = some (.int 0) ∧ Arr .byte s.heap.size V u ∧ V.vm = .none ∧ u.vm.findClass "[B" = some V.cls ∧ V.slots.size = len ∧ (∀ j, j < len → V.slots[j]? = some (.int (lo8 (cv A (o + j))))) ∧ (∀ (y : Addr) (c : Cell), y ≠ a → s.heap[y]? = some c → u.heap[y]? = some c) ∧ u.heap.size = s.heap.size + 1
theorem Got.mv {a : Addr} {D A : Cell} {fV fC : Field} {o len : Nat} : ∀ r (U U' V V' : State), U'.heap = U.heap → V.vm.Alike V'.vm → V'.heap = V.heap → Got a D fV fC A o len r U V → Got a D fV fC A o len r U' V' :=
  fun r U U' V V' h1 hal h2 ⟨e0, D', X, a1, a2, a3, a4, a5, a6, a7, a8, a9, a10, a11⟩ => ⟨e0, D', X, a1.mv hal h2, a2, by rw [h1]; exact a3, a4, by rw [h1]; exact a5.mv hal h2, a6, by rw [hal.findClass]; exact a7, a8, a9, by rw [h1, h2]; exact a10, by rw [h1, h2]; exact a11⟩
namespace New4
def yN : MethodName := ⟨"java/lang/String", "<init>", "([CIILjava/lang/Void;)V"⟩
abbrev yB : ByteArray := jdk_42_method_149_code
theorem d0 : decode yB 0 = .ok (.aload_n 0, 1) := by decide +kernel
theorem d1 : decode yB 1 = .ok (.invokespecial 1, 3) := by decide +kernel
theorem d4 : decode yB 4 = .ok (.iload_n 3, 1) := by decide +kernel
theorem d5 : decode yB 5 = .ok (.ifCond (.ne) 22, 3) := by decide +kernel
theorem d27 : decode yB 27 = .ok (.getstatic 38, 3) := by decide +kernel
theorem d30 : decode yB 30 = .ok (.ifCond (.eq) 28, 3) := by decide +kernel
theorem d33 : decode yB 33 = .ok (.aload_n 1, 1) := by decide +kernel
theorem d34 : decode yB 34 = .ok (.iload_n 2, 1) := by decide +kernel
theorem d35 : decode yB 35 = .ok (.iload_n 3, 1) := by decide +kernel
theorem d36 : decode yB 36 = .ok (.invokestatic 177, 3) := by decide +kernel
theorem d39 : decode yB 39 = .ok (.astore 5, 2) := by decide +kernel
theorem d41 : decode yB 41 = .ok (.aload_n 0, 1) := by decide +kernel
theorem d42 : decode yB 42 = .ok (.aload 5, 2) := by decide +kernel
theorem d44 : decode yB 44 = .ok (.iload_n 3, 1) := by decide +kernel
theorem d45 : decode yB 45 = .ok (.invokestatic 47, 3) := by decide +kernel
theorem d48 : decode yB 48 = .ok (.putfield 15, 3) := by decide +kernel
theorem d51 : decode yB 51 = .ok (.aload_n 0, 1) := by decide +kernel
theorem d52 : decode yB 52 = .ok (.aload 5, 2) := by decide +kernel
theorem d54 : decode yB 54 = .ok (.putfield 9, 3) := by decide +kernel
theorem d57 : decode yB 57 = .ok (.return_, 1) := by decide +kernel
def site : List Cond := [.fieldLink "java/lang/String" 38 "java/lang/String" "COMPACT_STRINGS" "Z", Cmp3.tab, CodL.tab, .laysFinal "java/lang/String" "java/lang/String" "value" "[B", .fieldLink "java/lang/String" 9 "java/lang/String" "value" "[B", .laysFinal "java/lang/String" "java/lang/String" "coder" "B", .fieldLink "java/lang/String" 15 "java/lang/String" "coder" "B"] ++ objW "java/lang/String" 1 ++ staticW "java/lang/String" 177 Cmp3.yN ++ staticW "java/lang/String" 47 CodL.yN
def tab : Cond := tabOf yN yB 6 none site
def P (a : Addr) (D : Cell) (fV fC : Field) (b : Addr) (A : Cell) (z : Int32) (o len : Nat) (args : Array Value) (s : State) : Prop := args = #[.ref a, .ref b, .int (Int32.ofNat o), .int (Int32.ofNat len), .null] ∧ Blank "java/lang/String" a D s ∧ Found "java/lang/String" "value" "[B" fV s ∧ Found "java/lang/String" "coder" "B" fC s ∧ Ch b A s ∧ StaticIs s "java/lang/String" "COMPACT_STRINGS" "Z" (.int z) ∧ ¬ z = 0 ∧ 0 < len ∧ o + len ≤ A.slots.size ∧ len ≤ 536870912 ∧ ∀ i, i < len → ¬ 255 < cv A (o + i)
def E (a : Addr) (D : Cell) (fV fC : Field) (A : Cell) (o len : Nat) (r : Option Value) (s u : State) : Prop := Got a D fV fC A o len r s u
/-- len > 0, no char of the range above 255: a Latin-1 String of their low bytes -/
theorem law (l : Launch) (a : Addr) (D : Cell) (fV fC : Field) (b : Addr) (A : Cell) (z : Int32) (o len : Nat) : Law l yN 5 4 2 35 yB 6 none site (P a D fV fC b A z o len) (E a D fV fC A o len) [⟨a, fC.slot⟩, ⟨a, fV.slot⟩] 1 len := by
  refine Law.of_walk (plainFor_of_name (by decide +kernel)) (by decide +kernel) (by decide +kernel) (by decide) (fun _ _ h => by rw [h.1]; rfl) (fun _ U U' hal hh h => ⟨h.1, h.2.1.mv hal hh, h.2.2.1.al hal, h.2.2.2.1.al hal, h.2.2.2.2.1.mv hal hh, h.2.2.2.2.2.1.there hal hh, h.2.2.2.2.2.2⟩) (fun r U U' V V' h1 hal h2 h => Got.mv r U U' V V' h1 hal h2 h) ?_
  intro p e s m args below meth c s₁ X0 hexec hbytes hml hret hlk hnm hown hh0 W hP
  obtain ⟨rfl, hB, f1, f2, hA, s1, hz, l0, l1, l2, hp⟩ := hP
  have a31 := hA.1.2.2.2
  have c1 : Steps p.tables e below (s₁.setTop (entryFrame m #[.ref a, .ref b, .int (Int32.ofNat o), .int (Int32.ofNat len), .null] 6)) (s₁.setTop (mkF m 0 #[.val (.ref a), .val (.ref b), .val (.int (Int32.ofNat o)), .val (.int (Int32.ofNat len)), .val .null, .unset] [])) := entry rfl
  have c2 : Steps p.tables e below (s₁.setTop (entryFrame m #[.ref a, .ref b, .int (Int32.ofNat o), .int (Int32.ofNat len), .null] 6)) (s₁.setTop (mkF m 1 #[.val (.ref a), .val (.ref b), .val (.int (Int32.ofNat o)), .val (.int (Int32.ofNat len)), .val .null, .unset] [.ref a])) := c1.trans (by
    refine XS.aloadN X0.here hexec rfl (hb hbytes d0) rfl rfl ?_
    exact Steps.refl _)
  obtain ⟨T3, X3, q3, st3⟩ := X0.oinit hexec hown (wks W (objW "java/lang/String" 1)) (g := (mkF m 1 #[.val (.ref a), .val (.ref b), .val (.int (Int32.ofNat o)), .val (.int (Int32.ofNat len)), .val .null, .unset] [.ref a])) rfl (by rw [hml]; rfl) (rest := []) rfl (hb hbytes d1) (W := 0) (by show 2 * 0 + 0 ≤ _; decide) (Nat.le_of_ble_eq_true rfl) (Nat.le_of_ble_eq_true rfl)
  have hh3 := q3.trans hh0
  have c4 : Steps p.tables e below (s₁.setTop (entryFrame m #[.ref a, .ref b, .int (Int32.ofNat o), .int (Int32.ofNat len), .null] 6)) (T3.setTop (mkF m 27 #[.val (.ref a), .val (.ref b), .val (.int (Int32.ofNat o)), .val (.int (Int32.ofNat len)), .val .null, .unset] [])) := (c2.trans (st3 _ (Steps.refl _))).trans (by
    refine XS.iloadN X3.here hexec rfl (hb hbytes d4) rfl ?_
    refine XS.ifYes X3.here hexec rfl (pc0 := 5) rfl (hb hbytes d5) rfl (i0_ne_t (nz32 (by omega) l0)) (by decide) rfl ?_
    exact Steps.refl _)
  obtain ⟨T5, X5, q5, st5⟩ := X3.sget hexec hown (wk W (.fieldLink "java/lang/String" 38 "java/lang/String" "COMPACT_STRINGS" "Z")) s1 (fun _ _ h => by rw [hh3]; exact h) (g := (mkF m 27 #[.val (.ref a), .val (.ref b), .val (.int (Int32.ofNat o)), .val (.int (Int32.ofNat len)), .val .null, .unset] [])) rfl (hb hbytes d27)
  have hh5 := q5.trans hh3
  have c6 : Steps p.tables e below (s₁.setTop (entryFrame m #[.ref a, .ref b, .int (Int32.ofNat o), .int (Int32.ofNat len), .null] 6)) (T5.setTop (mkF m 30 #[.val (.ref a), .val (.ref b), .val (.int (Int32.ofNat o)), .val (.int (Int32.ofNat len)), .val .null, .unset] [.int z])) := c4.trans (st5 _ (Steps.refl _))
  have c7 : Steps p.tables e below (s₁.setTop (entryFrame m #[.ref a, .ref b, .int (Int32.ofNat o), .int (Int32.ofNat len), .null] 6)) (T5.setTop (mkF m 36 #[.val (.ref a), .val (.ref b), .val (.int (Int32.ofNat o)), .val (.int (Int32.ofNat len)), .val .null, .unset] [.int (Int32.ofNat len), .int (Int32.ofNat o), .ref b])) := c6.trans (by
    refine XS.ifNo X5.here hexec rfl (hb hbytes d30) rfl (i0_eq_f hz) ?_
    refine XS.aloadN X5.here hexec rfl (hb hbytes d33) rfl rfl ?_
    refine XS.iloadN X5.here hexec rfl (hb hbytes d34) rfl ?_
    refine XS.iloadN X5.here hexec rfl (hb hbytes d35) rfl ?_
    exact Steps.refl _)
  obtain ⟨v8, T8, X8, E8, g8⟩ := X5.callS hexec (Cmp3.law l b A o len) hown (wks W (staticW "java/lang/String" 177 Cmp3.yN)) (wk W Cmp3.tab) (W := 0) (Nat.le_of_ble_eq_true rfl) (Nat.le_of_ble_eq_true rfl) (Nat.le_refl _) (by show 0 + len ≤ len; omega) (g := (mkF m 36 #[.val (.ref a), .val (.ref b), .val (.int (Int32.ofNat o)), .val (.int (Int32.ofNat len)), .val .null, .unset] [.int (Int32.ofNat len), .int (Int32.ofNat o), .ref b])) rfl (by rw [hml]; rfl) c7 (argsL := [.ref b, .int (Int32.ofNat o), .int (Int32.ofNat len)]) (rest := []) rfl rfl (by show 2 * 0 + 0 ≤ _; decide) (hb hbytes d36) (⟨rfl, hA.mv X5.warmed.alike hh5, l1, l2, hp⟩)
  obtain ⟨e8, z8⟩ := E8
  obtain ⟨rfl, N, n1, n2, n3, n4, n5, n6⟩ := NewArr.mv _ T5 s _ _ hh5.symm (Vm.Alike.refl _) rfl e8
  rw [hh5] at z8
  have hB1 := hB.keep X8.warmed.alike (n6 _ _ hB.1)
  have hne : s.heap.size ≠ a := (Nat.ne_of_lt (Array.getElem?_eq_some_iff.mp hB.1).1).symm
  have c9 : Steps p.tables e below (s₁.setTop (entryFrame m #[.ref a, .ref b, .int (Int32.ofNat o), .int (Int32.ofNat len), .null] 6)) (T8.setTop (mkF m 39 #[.val (.ref a), .val (.ref b), .val (.int (Int32.ofNat o)), .val (.int (Int32.ofNat len)), .val .null, .unset] [.ref s.heap.size])) := g8
  have c10 : Steps p.tables e below (s₁.setTop (entryFrame m #[.ref a, .ref b, .int (Int32.ofNat o), .int (Int32.ofNat len), .null] 6)) (T8.setTop (mkF m 45 #[.val (.ref a), .val (.ref b), .val (.int (Int32.ofNat o)), .val (.int (Int32.ofNat len)), .val .null, .val (.ref s.heap.size)] [.int (Int32.ofNat N.slots.size), .ref s.heap.size, .ref a])) := by
    have hc : Steps p.tables e below (s₁.setTop (entryFrame m #[.ref a, .ref b, .int (Int32.ofNat o), .int (Int32.ofNat len), .null] 6)) (T8.setTop (mkF m 45 #[.val (.ref a), .val (.ref b), .val (.int (Int32.ofNat o)), .val (.int (Int32.ofNat len)), .val .null, .val (.ref s.heap.size)] [.int (Int32.ofNat len), .ref s.heap.size, .ref a])) := c9.trans (by
      refine XS.astore X8.here hexec rfl (hb hbytes d39) rfl rfl rfl ?_
      refine XS.aloadN X8.here hexec rfl (hb hbytes d41) rfl rfl ?_
      refine XS.aload X8.here hexec rfl (hb hbytes d42) rfl rfl ?_
      refine XS.iloadN X8.here hexec rfl (hb hbytes d44) rfl ?_
      exact Steps.refl _)
    rw [n4]; exact hc
  obtain ⟨v11, T11, X11, E11, g11⟩ := X8.callS hexec (CodL.law l s.heap.size N) hown (wks W (staticW "java/lang/String" 47 CodL.yN)) (wk W CodL.tab) (W := 1) (Nat.le_of_ble_eq_true rfl) (Nat.le_of_ble_eq_true rfl) (Nat.le_refl _) (by show 0 + len + 0 ≤ len; omega) (g := (mkF m 45 #[.val (.ref a), .val (.ref b), .val (.int (Int32.ofNat o)), .val (.int (Int32.ofNat len)), .val .null, .val (.ref s.heap.size)] [.int (Int32.ofNat N.slots.size), .ref s.heap.size, .ref a])) rfl (by rw [hml]; rfl) c10 (argsL := [.ref s.heap.size, .int (Int32.ofNat N.slots.size)]) (rest := [.ref a]) rfl rfl (by show 2 * 0 + (1 + 0) ≤ _; decide) (hb hbytes d45) (⟨rfl, n1⟩)
  obtain ⟨rfl, q11⟩ := E11
  have hB11 := hB1.mv (X8.warmed.alike.symm.trans X11.warmed.alike) q11
  have c12 : Steps p.tables e below (s₁.setTop (entryFrame m #[.ref a, .ref b, .int (Int32.ofNat o), .int (Int32.ofNat len), .null] 6)) (T11.setTop (mkF m 48 #[.val (.ref a), .val (.ref b), .val (.int (Int32.ofNat o)), .val (.int (Int32.ofNat len)), .val .null, .val (.ref s.heap.size)] [.int 0, .ref a])) := g11
  obtain ⟨T13, X13, p13, bl13, sl13, st13⟩ := X11.finit hexec hown (wk W (.fieldLink "java/lang/String" 15 "java/lang/String" "coder" "B")) (Or.inr ⟨_, (wk W (.laysFinal "java/lang/String" "java/lang/String" "coder" "B"))⟩) (Or.inl ⟨rfl, hnm⟩) f2 (Or.inl rfl) hB11 (t := .byte) (by decide +kernel) rfl (g := (mkF m 48 #[.val (.ref a), .val (.ref b), .val (.int (Int32.ofNat o)), .val (.int (Int32.ofNat len)), .val .null, .val (.ref s.heap.size)] [.int 0, .ref a])) rfl (rest := []) rfl (hb hbytes d48)
  have c14 : Steps p.tables e below (s₁.setTop (entryFrame m #[.ref a, .ref b, .int (Int32.ofNat o), .int (Int32.ofNat len), .null] 6)) (T13.setTop (mkF m 54 #[.val (.ref a), .val (.ref b), .val (.int (Int32.ofNat o)), .val (.int (Int32.ofNat len)), .val .null, .val (.ref s.heap.size)] [.ref s.heap.size, .ref a])) := (c12.trans (st13 _ (Steps.refl _))).trans (by
    refine XS.aloadN X13.here hexec rfl (hb hbytes d51) rfl rfl ?_
    refine XS.aload X13.here hexec rfl (hb hbytes d52) rfl rfl ?_
    exact Steps.refl _)
  obtain ⟨T15, X15, p15, bl15, sl15, st15⟩ := X13.finit hexec hown (wk W (.fieldLink "java/lang/String" 9 "java/lang/String" "value" "[B")) (Or.inr ⟨_, (wk W (.laysFinal "java/lang/String" "java/lang/String" "value" "[B"))⟩) (Or.inl ⟨rfl, hnm⟩) f1 (Or.inl rfl) bl13 (t := (.array .byte)) (by decide +kernel) rfl (g := (mkF m 54 #[.val (.ref a), .val (.ref b), .val (.int (Int32.ofNat o)), .val (.int (Int32.ofNat len)), .val .null, .val (.ref s.heap.size)] [.ref s.heap.size, .ref a])) rfl (rest := []) rfl (hb hbytes d54)
  have c16 : Steps p.tables e below (s₁.setTop (entryFrame m #[.ref a, .ref b, .int (Int32.ofNat o), .int (Int32.ofNat len), .null] 6)) (T15.setTop (mkF m 57 #[.val (.ref a), .val (.ref b), .val (.int (Int32.ofNat o)), .val (.int (Int32.ofNat len)), .val .null, .val (.ref s.heap.size)] [])) := c14.trans (st15 _ (Steps.refl _))
  have ap := apart (Or.inr ⟨_, (wk W (.laysFinal "java/lang/String" "java/lang/String" "value" "[B"))⟩) (Or.inr ⟨_, (wk W (.laysFinal "java/lang/String" "java/lang/String" "coder" "B"))⟩) f1 f2 (t₁ := .array .byte) (t₂ := .byte) (by decide +kernel) (by decide +kernel) (by decide)
  have al := X8.warmed.alike.symm.trans X15.warmed.alike
  have n7 : T11.heap[s.heap.size]? = some N := by rw [q11]; exact n1.1
  exact ⟨T15, none, _, _, _, X15, by simp, rfl, by omega, (fun _ => rfl), ⟨rfl, _, N, bl15, ((Same.refl D _).set _ (by simp)).set _ (by simp), sl15, (Cell.slots_setSlot_ne _ ap).trans sl13, n1.keep al (p15.other hne (p13.other hne n7)), n2, by rw [al.findClass]; exact n3, n4, n5, fun y c h1 h2 => p15.other h1 (p13.other h1 (by rw [q11]; exact n6 y c h2)), by rw [p15.2.2, p13.2.2, q11]; exact z8⟩, fun fs hl => c16.trans (X15.returnOut hexec hret (hb hbytes d57) hl)⟩
end New4
namespace New1
def yN : MethodName := ⟨"java/lang/String", "<init>", "([C)V"⟩
abbrev yB : ByteArray := jdk_42_method_3_code
theorem d0 : decode yB 0 = .ok (.aload_n 0, 1) := by decide +kernel
theorem d1 : decode yB 1 = .ok (.aload_n 1, 1) := by decide +kernel
theorem d2 : decode yB 2 = .ok (.iconst 0, 1) := by decide +kernel
theorem d3 : decode yB 3 = .ok (.aload_n 1, 1) := by decide +kernel
theorem d4 : decode yB 4 = .ok (.arraylength, 1) := by decide +kernel
theorem d5 : decode yB 5 = .ok (.aconst_null, 1) := by decide +kernel
theorem d6 : decode yB 6 = .ok (.invokespecial 27, 3) := by decide +kernel
theorem d9 : decode yB 9 = .ok (.return_, 1) := by decide +kernel
def site : List Cond := [New4.tab] ++ initW "java/lang/String" 27 New4.yN
def tab : Cond := tabOf yN yB 2 none site
def P (a : Addr) (D : Cell) (fV fC : Field) (b : Addr) (A : Cell) (z : Int32) (args : Array Value) (s : State) : Prop := args = #[.ref a, .ref b] ∧ Blank "java/lang/String" a D s ∧ Found "java/lang/String" "value" "[B" fV s ∧ Found "java/lang/String" "coder" "B" fC s ∧ Ch b A s ∧ StaticIs s "java/lang/String" "COMPACT_STRINGS" "Z" (.int z) ∧ ¬ z = 0 ∧ 0 < A.slots.size ∧ A.slots.size ≤ 536870912 ∧ ∀ i, i < A.slots.size → ¬ 255 < cv A i
def E (a : Addr) (D : Cell) (fV fC : Field) (A : Cell) (r : Option Value) (s u : State) : Prop := Got a D fV fC A 0 A.slots.size r s u
/-- new String(chars), not empty, no char above 255: a Latin-1 String of their low bytes -/
theorem law (l : Launch) (a : Addr) (D : Cell) (fV fC : Field) (b : Addr) (A : Cell) (z : Int32) : Law l yN 2 1 3 52 yB 2 none site (P a D fV fC b A z) (E a D fV fC A) [⟨a, fC.slot⟩, ⟨a, fV.slot⟩] 1 A.slots.size := by
  refine Law.of_walk (plainFor_of_name (by decide +kernel)) (by decide +kernel) (by decide +kernel) (by decide) (fun _ _ h => by rw [h.1]; rfl) (fun _ U U' hal hh h => ⟨h.1, h.2.1.mv hal hh, h.2.2.1.al hal, h.2.2.2.1.al hal, h.2.2.2.2.1.mv hal hh, h.2.2.2.2.2.1.there hal hh, h.2.2.2.2.2.2⟩) (fun r U U' V V' h1 hal h2 h => Got.mv r U U' V V' h1 hal h2 h) ?_
  intro p e s m args below meth c s₁ X0 hexec hbytes hml hret hlk hnm hown hh0 W hP
  obtain ⟨rfl, hB, f1, f2, hA, s1, hz, l0, l2, hp⟩ := hP
  have c1 : Steps p.tables e below (s₁.setTop (entryFrame m #[.ref a, .ref b] 2)) (s₁.setTop (mkF m 0 #[.val (.ref a), .val (.ref b)] [])) := entry rfl
  have c2 : Steps p.tables e below (s₁.setTop (entryFrame m #[.ref a, .ref b] 2)) (s₁.setTop (mkF m 6 #[.val (.ref a), .val (.ref b)] [.null, .int (Int32.ofNat A.slots.size), .int 0, .ref b, .ref a])) := c1.trans (by
    refine XS.aloadN X0.here hexec rfl (hb hbytes d0) rfl rfl ?_
    refine XS.aloadN X0.here hexec rfl (hb hbytes d1) rfl rfl ?_
    refine iconstV X0.here hexec rfl 0 (hb hbytes d2) (by decide) ?_
    refine XS.aloadN X0.here hexec rfl (hb hbytes d3) rfl rfl ?_
    refine X0.alen hexec (hA.1.mv X0.warmed.alike hh0) rfl rfl (hb hbytes d4) ?_
    refine XS.aconstNull X0.here hexec rfl (hb hbytes d5) ?_
    exact Steps.refl _)
  obtain ⟨v3, T3, X3, E3, g3⟩ := X0.callN hexec (New4.law l a D fV fC b A z 0 A.slots.size) rfl hown (wks W (initW "java/lang/String" 27 New4.yN)) (W New4.tab (by simp only [site, List.mem_cons, List.mem_append, true_or, or_true])) (W := 0) (Nat.le_of_ble_eq_true rfl) (Nat.le_of_ble_eq_true rfl) (Nat.le_refl _) (by show 0 + A.slots.size ≤ A.slots.size; omega) (g := (mkF m 6 #[.val (.ref a), .val (.ref b)] [.null, .int (Int32.ofNat A.slots.size), .int (Int32.ofNat 0), .ref b, .ref a])) rfl (by rw [hml]; rfl) c2 (argsL := [.ref b, .int (Int32.ofNat 0), .int (Int32.ofNat A.slots.size), .null]) (rest := []) rfl rfl (by show 2 * 0 + 0 ≤ _; decide) (hb hbytes d6) (⟨rfl, hB.mv X0.warmed.alike hh0, f1.al X0.warmed.alike, f2.al X0.warmed.alike, hA.mv X0.warmed.alike hh0, s1.there X0.warmed.alike hh0, hz, l0, by omega, l2, fun i hi => by rw [Nat.zero_add]; exact hp i hi⟩)
  have e0 := Got.mv _ s₁ s _ _ hh0.symm (Vm.Alike.refl _) rfl E3
  obtain rfl := e0.1
  have c4 : Steps p.tables e below (s₁.setTop (entryFrame m #[.ref a, .ref b] 2)) (T3.setTop (mkF m 9 #[.val (.ref a), .val (.ref b)] [])) := g3
  exact ⟨T3, none, _, _, _, X3, by simp, rfl, by omega, (fun _ => rfl), e0, fun fs hl => c4.trans (X3.returnOut hexec hret (hb hbytes d9) hl)⟩
theorem pays {l : Launch} {R : Room} {p : Program} {e : Env} {below : List Frame} {s : State} {sargs : Array Value} {len W : Nat} (a : Addr) (D : Cell) (fV fC : Field) (b : Addr) (A : Cell) (z : Int32) (htab : tab.before sargs s = true) (hfr : 4 ≤ R.frames) (hlo : W + 65 ≤ R.locals) :
    Back l R p e below s sargs yN len W (fun A₁ a₁ => A₁.cells + 1 ≤ R.cells ∧ A₁.slots + A.slots.size ≤ R.slots ∧ P a D fV fC b A z a₁ A₁.U) (fun A₁ _ v₁ B₁ => E a D fV fC A v₁ A₁.U B₁.U ∧ B₁.locs = A₁.locs ++ [⟨a, fC.slot⟩, ⟨a, fV.slot⟩] ∧ B₁.cells = A₁.cells + 1 ∧ B₁.slots = A₁.slots + A.slots.size) :=
  (law l a D fV fC b A z).pays htab hfr (by omega)
end New1
/-- the byte, read back as charAt reads it, is the char -/
theorem lo8_mask {x : Int32} (h0 : ¬ x < 0) (h1 : ¬ 255 < x) : lo8 x &&& 255 = x := by
  have t : ∀ k : Fin 256, lo8 (Int32.ofNat k.val) &&& 255 = Int32.ofNat k.val := by decide +kernel
  rw [Int32.lt_iff_toInt_lt] at h0 h1
  have e0 : (0 : Int32).toInt = 0 := rfl
  have e1 : (255 : Int32).toInt = 255 := rfl
  obtain ⟨k, hk⟩ : ∃ k : Nat, x.toInt = k := ⟨x.toInt.toNat, by omega⟩
  have hx : x = Int32.ofNat k := Int32.toInt_inj.mp (by rw [hk, Int32.toInt_ofNat_small (by omega)])
  rw [hx]
  exact t ⟨k, by omega⟩
end StrChars
namespace StrChars.Road
open Jvm Sem ClassFile Op Lib Jvm.Stand Jvm.Free Jvm.Free.XT
open Jvm.Lib.Cold (StaticIs)
abbrev ST : String := "java/lang/String"
/-- every table word that New1's law asks, flat -/
abbrev words : List Jvm.Cond := [.code New1.yN New1.yB 2 none, .initialized ST, .methodLink ST 27 New4.yN, .instanceMethod New4.yN,
  .code New4.yN New4.yB 6 none, .fieldLink ST 38 ST "COMPACT_STRINGS" "Z", .laysFinal ST ST "value" "[B", .fieldLink ST 9 ST "value" "[B", .laysFinal ST ST "coder" "B", .fieldLink ST 15 ST "coder" "B",
  .methodLink ST 1 Lib.objectInit, .instanceMethod Lib.objectInit, .code Lib.objectInit ⟨#[0xb1]⟩ 1 none, .methodLink ST 177 Cmp3.yN, .static Cmp3.yN, .methodLink ST 47 CodL.yN, .static CodL.yN,
  .code Cmp3.yN Cmp3.yB 6 (some (.array .byte)), .initialized U16, .arrayClass .byte, .methodLink U16 115 Cmp5.yN, .static Cmp5.yN, .code Cmp5.yN Cmp5.yB 7 (some .int), .code CodL.yN CodL.yB 2 (some .byte)]
theorem tab_of {a : Array Value} {s : State} (h : ∀ w ∈ words, w.before a s = true) : New1.tab.before a s = true := by
  have h5 : Cmp5.tab.before a s = true := unparts (wk h (.code Cmp5.yN Cmp5.yB 7 (some .int))) (wks h (.initialized Cmp5.yN.cls :: Cmp5.site))
  have hc : CodL.tab.before a s = true := unparts (wk h (.code CodL.yN CodL.yB 2 (some .byte))) (wks h (.initialized CodL.yN.cls :: CodL.site))
  have q5 : ∀ w ∈ Cmp5.tab :: words, w.before a s = true := fun w hw => (List.mem_cons.mp hw).elim (fun e => e ▸ h5) (h w)
  have h3 : Cmp3.tab.before a s = true := unparts (wk q5 (.code Cmp3.yN Cmp3.yB 6 (some (.array .byte)))) (wks q5 (.initialized Cmp3.yN.cls :: Cmp3.site))
  have q3 : ∀ w ∈ Cmp3.tab :: CodL.tab :: words, w.before a s = true := fun w hw => (List.mem_cons.mp hw).elim (fun e => e ▸ h3) fun hw => (List.mem_cons.mp hw).elim (fun e => e ▸ hc) (h w)
  have h4 : New4.tab.before a s = true := unparts (wk q3 (.code New4.yN New4.yB 6 none)) (wks q3 (.initialized New4.yN.cls :: New4.site))
  have q4 : ∀ w ∈ New4.tab :: words, w.before a s = true := fun w hw => (List.mem_cons.mp hw).elim (fun e => e ▸ h4) (h w)
  exact unparts (wk q4 (.code New1.yN New1.yB 2 none)) (wks q4 (.initialized New1.yN.cls :: New1.site))
/-- the words ride from the start Z to the walk's own state -/
theorem moved {Z s : State} {a0 args : Array Value} (hZ : Z.Warmed39 s.vm) (hw : ∀ d ∈ words, d.before a0 Z = true) : ∀ d ∈ words, d.before args s = true := fun d hd => by
  have q := hw d hd
  have t : ∀ d ∈ words, d = .arrayClass .byte ∨ (d.onTables && d.keepsFace) = true := by decide +kernel
  rcases t d hd with rfl | t
  · exact RoadKit.mvA hZ q
  · exact RoadKit.mv hZ q t
/-- WHAT COMES BACK, over the tables of the start Z: h the heap at the call, h' behind it -/
def Q (Z : State) (x : Addr) (A : Cell) (h : Heap) (v : Option Value) (h' : Heap) (L : List Loc) : Prop := v = none ∧ (∀ y ∈ L, y.base = x) ∧ RoadKit.Keep h h' [x] ∧ h'.size = h.size + 1 ∧ RoadKit.Exa Z h' x ST ∧ RoadKit.Fld Z h' x ST "value" "[B" (.ref h.size) ∧ RoadKit.Fld Z h' x ST "coder" "B" (.int 0) ∧
  (∃ V : Cell, RoadKit.Arr Z h' h.size V .byte ∧ V.vm = .none ∧ Z.vm.findClass "[B" = some V.cls ∧ V.slots.size = A.slots.size ∧ ∀ j, j < A.slots.size → V.slots[j]? = some (.int (lo8 (cv A j)))) ∧
  ∀ (O n d : String) (w : Value), RoadKit.Fld Z h x O n d w → RoadKit.slotOf Z O n d ≠ RoadKit.slotOf Z ST "value" "[B" → RoadKit.slotOf Z O n d ≠ RoadKit.slotOf Z ST "coder" "B" → RoadKit.Fld Z h' x O n d w
/-- **new String(chars) AT A CALL, IN THE ROAD'S FORM**: for specialBack behind newO: x the fresh String, b the char[] with the cell A -/
theorem back {p : Program} {l : Launch} {e : Env} {R : Room} {s : State} {args : Array Value} {below : List Frame} {len W : Nat} {Z : State} {a0 : Array Value} {h : Heap} (hZ : Z.Warmed39 s.vm) (hw : ∀ d ∈ words, d.before a0 Z = true) {kI : Nat} (wi : (Jvm.Cond.instantiable ST kI).before a0 Z = true)
    {x b : Addr} {A : Cell} {z : Int32} {v0 c0 : Value} (E : RoadKit.Exa Z h x ST) (V : RoadKit.Fld Z h x ST "value" "[B" v0) (C : RoadKit.Fld Z h x ST "coder" "B" c0) (K : RoadKit.Arr Z h b A .char) (hty : Typed .char A) (S : RoadKit.Sta Z h ST "COMPACT_STRINGS" "Z" (.int z)) (hz : ¬ z = 0)
    (l0 : 0 < A.slots.size) (l2 : A.slots.size ≤ 536870912) (hp : ∀ i, i < A.slots.size → ¬ 255 < cv A i) (hfr : 4 ≤ R.frames) (hlo : W + 65 ≤ R.locals) :
    Back l R p e below s args New1.yN len W (fun P a => a = #[.ref x, .ref b] ∧ P.U.heap = h ∧ P.cells + 1 ≤ R.cells ∧ P.slots + A.slots.size ≤ R.slots)
      (fun P _ v B => ∃ L, Q Z x A h v B.U.heap L ∧ B.locs = P.locs ++ L ∧ B.cells = P.cells + 1 ∧ B.slots = P.slots + A.slots.size) := by
  intro m meth c P g ig mk a X hg hsize hdg hW hn hp'
  obtain ⟨rfl, rfl, r1, r2⟩ := hp'
  have al : Z.vm.Alike P.U.vm := hZ.alike.trans X.warmed.alike
  obtain ⟨D, cfV, kV, iV, fV, hD, gV, stV, knV, obV, asV, slV⟩ := id V
  obtain ⟨D', cfC, kC, iC, fC, hD', gC, stC, -, -, asC, slC⟩ := id C
  cases hD.symm.trans hD'
  obtain ⟨D2, kD, e1, e2, e3, e4, e5⟩ := id E
  cases hD.symm.trans e1
  obtain ⟨c2, k2, i1, i2, i3, -⟩ := Cond.instantiable_spec wi
  cases e2.symm.trans i1
  cases e3.symm.trans i2
  obtain ⟨kU, u1, u2⟩ := al.2.2 _ _ e3
  have hB : Blank ST x D P.U := ⟨hD, ⟨knV, fun q hq => by rw [hq] at obV; cases obV⟩, by rw [al.findClass]; exact e2, kU, u1, by rw [u2]; exact i3, by rw [u2]; exact e5 i3⟩
  have F1 : Found ST "value" "[B" fV P.U := ⟨SBG.found_only al ⟨cfV, kV, iV, gV⟩, stV⟩
  have F2 : Found ST "coder" "B" fC P.U := ⟨SBG.found_only al ⟨cfC, kC, iC, gC⟩, stC⟩
  have hA : Ch b A P.U := ⟨⟨K.1, State.isArrayOf_alike al K.2.1, K.2.2, by omega⟩, hty⟩
  have hS : StaticIs P.U ST "COMPACT_STRINGS" "Z" (.int z) := by
    obtain ⟨cfS, iS, kS, fS, st, cS, t1, t2, t3, t4, t5, t6, t7⟩ := S
    exact StaticIs.there (s := { Z with heap := P.U.heap }) ⟨cfS, iS, kS, fS, st, cS, t1, t2, t3, t4, t5, (fun q => by rw [q] at t6; cases t6), t7⟩ al rfl
  obtain ⟨v, B, X', ⟨⟨hv, E', V', q1, q2, q3, q4, q5, q6, q7, q8, q9, q10, q11⟩, hl, hc, hs⟩, st⟩ := New1.pays x D fV fC b A z (tab_of (moved hZ hw)) hfr hlo m meth c P g ig mk _ X hg hsize hdg hW hn ⟨r1, r2, rfl, hB, F1, F2, hA, hS, hz, l0, l2, hp⟩
  have al' : Z.vm.Alike B.U.vm := hZ.alike.trans X'.warmed.alike
  have hsz : E'.slots.size = D.slots.size := by
    obtain ⟨-, -, -, kB, w1, w2, w3⟩ := q1
    obtain ⟨kB', y1, y2⟩ := al'.2.2 _ _ e3
    rw [q2.2.1] at w1
    cases w1.symm.trans y1
    rw [w3, e5 i3, y2]
  refine ⟨v, B, X', ⟨_, ⟨hv, ?_, ⟨by omega, fun y cy hy hn' => q10 y cy (by simpa using hn') hy, fun y cy hy => ?_⟩, q11, ⟨E', _, q1.1, by rw [q2.2.1]; exact e2, by rw [q2.2.1]; exact e3, by rw [q2.1]; exact obV, fun _ => by rw [hsz]; exact e5 i3⟩,
    ⟨E', cfV, kV, iV, fV, q1.1, gV, stV, by rw [q2.1]; exact knV, by rw [q2.1]; exact obV, by rw [q2.2.1]; exact asV, q3⟩, ⟨E', cfC, kC, iC, fC, q1.1, gC, stC, by rw [q2.1]; exact knV, by rw [q2.1]; exact obV, by rw [q2.2.1]; exact asC, q4⟩,
    ⟨V', ⟨q5.1, State.isArrayOf_alike al'.symm q5.2.1, q5.2.2.1⟩, q6, by rw [← al'.findClass]; exact q7, q8, fun j hj => by have := q9 j hj; rwa [Nat.zero_add] at this⟩, fun O n d w F n1 n2 => ?_⟩, hl, hc, hs⟩, st⟩
  · intro y hy
    simp only [List.mem_cons, List.not_mem_nil, or_false] at hy
    rcases hy with rfl | rfl <;> rfl
  · by_cases q : y = x
    · subst q
      cases hD.symm.trans hy
      exact ⟨E', q1.1, q2.2.1, q2.1, hsz⟩
    · exact ⟨cy, q10 y cy q hy, rfl, rfl, rfl⟩
  · obtain ⟨D3, cf, k, i, f, g1, g2, g3, g4, g5, g6, g7⟩ := F
    cases hD.symm.trans g1
    simp only [RoadKit.slotOf, g2, gV, gC, Option.map_some, Option.getD_some] at n1 n2
    exact ⟨E', cf, k, i, f, q1.1, g2, g3, by rw [q2.1]; exact g4, by rw [q2.1]; exact g5, by rw [q2.2.1]; exact g6, by rw [q2.2.2 f.slot (by simp [n1, n2])]; exact g7⟩
end StrChars.Road
namespace StrChars.Road
open Jvm Sem ClassFile Op Lib Jvm.Stand Jvm.Free Jvm.Free.XT
/-- WHAT COMES BACK, the byte[] as a list of values -/
def QA (Z : State) (x : Addr) (zn : Int32) (cs : List Int32) (h : Heap) (v : Option Value) (h' : Heap) (L : List Loc) : Prop := v = none ∧ (∀ y ∈ L, y.base = x) ∧ RoadKit.Keep h h' [x] ∧ h'.size = h.size + 1 ∧ RoadKit.Exa Z h' x ST ∧ RoadKit.Fld Z h' x ST "value" "[B" (.ref h.size) ∧ RoadKit.Fld Z h' x ST "coder" "B" (.int 0) ∧
  (∃ kb, Z.vm.findClass "[B" = some kb ∧ RoadKit.Arv Z h' h.size kb .byte zn (cs.map fun c => .int (lo8 c)) (.int 0)) ∧
  ∀ (O n d : String) (w : Value), RoadKit.Fld Z h x O n d w → RoadKit.slotOf Z O n d ≠ RoadKit.slotOf Z ST "value" "[B" → RoadKit.slotOf Z O n d ≠ RoadKit.slotOf Z ST "coder" "B" → RoadKit.Fld Z h' x O n d w
/-- **new String(chars) AT A CALL, THE ARRAYS AS LISTS**: the char[] at b holds cs, not empty, no char above 255 -/
theorem backArv {p : Program} {l : Launch} {e : Env} {R : Room} {s : State} {args : Array Value} {below : List Frame} {len W : Nat} {Z : State} {a0 : Array Value} {h : Heap} (hZ : Z.Warmed39 s.vm) (hw : ∀ d ∈ words, d.before a0 Z = true) {kI : Nat} (wi : (Jvm.Cond.instantiable ST kI).before a0 Z = true)
    {x b : Addr} {k : ClassId} {zn z : Int32} {cs : List Int32} {dv v0 c0 : Value} (E : RoadKit.Exa Z h x ST) (V : RoadKit.Fld Z h x ST "value" "[B" v0) (C : RoadKit.Fld Z h x ST "coder" "B" c0) (K : RoadKit.Arv Z h b k .char zn (cs.map Value.int) dv) (S : RoadKit.Sta Z h ST "COMPACT_STRINGS" "Z" (.int z)) (hz : ¬ z = 0)
    (hlen : zn.toNatClampNeg = cs.length) (h0 : 0 < cs.length) (hbig : cs.length ≤ 536870912) (hall : ∀ c ∈ cs, ¬ 255 < c) (hfr : 4 ≤ R.frames) (hlo : W + 65 ≤ R.locals) :
    Back l R p e below s args New1.yN len W (fun P a => a = #[.ref x, .ref b] ∧ P.U.heap = h ∧ P.cells + 1 ≤ R.cells ∧ P.slots + cs.length ≤ R.slots)
      (fun P _ v B => ∃ L, QA Z x zn cs h v B.U.heap L ∧ B.locs = P.locs ++ L ∧ B.cells = P.cells + 1 ∧ B.slots = P.slots + cs.length) := by
  obtain ⟨A, K1, K2, K3, K4, K5, K6⟩ := K
  have e : A.slots.size = cs.length := K3.trans hlen
  have hat : ∀ (i : Nat) (hi : i < cs.length), A.slots[i]? = some (.int cs[i]) := fun i hi => by rw [K5 i (by omega)]; simp [List.getD_eq_getElem?_getD, hi]
  have hcv : ∀ (i : Nat) (hi : i < cs.length), cv A i = cs[i] := fun i hi => by unfold cv; rw [hat i hi]
  have hty : Typed .char A := fun i v hv => by
    have hi : i < A.slots.size := (Array.getElem?_eq_some_iff.mp hv).1
    have q := K5 i hi
    rw [hv] at q
    rw [Option.some.inj q]
    exact K6 i hi
  refine Back.mono (back hZ hw wi E V C K1 hty S hz (by omega) (by omega) (fun i hi => by rw [hcv i (by omega)]; exact hall _ (List.getElem_mem _)) hfr hlo) (fun P a hp => ⟨hp.1, hp.2.1, hp.2.2.1, by rw [e]; exact hp.2.2.2⟩) (fun P a v B hp hq => ?_)
  obtain ⟨L, ⟨q1, q2, q3, q4, q5, q6, q7, ⟨V', v1, v2, v3, v4, v5⟩, q9⟩, hl, hc, hs⟩ := hq
  refine ⟨L, ⟨q1, q2, q3, q4, q5, q6, q7, ⟨V'.cls, v3, V', v1, rfl, by rw [v4, e, hlen], K4, fun i hi => ?_, fun i hi => ?_⟩, q9⟩, hl, hc, by rw [hs, e]⟩
  · have hi' : i < cs.length := by omega
    rw [v5 i (by omega), hcv i hi']; simp [List.getD_eq_getElem?_getD, hi']
  · have hi' : i < cs.length := by omega
    simp only [List.getD_eq_getElem?_getD, List.getElem?_map, List.getElem?_eq_getElem hi', Option.map_some, Option.getD_some]
    exact fits_lo8 _
end StrChars.Road
namespace StrChars.Road
open Jvm Sem ClassFile Op Lib Jvm.Stand Jvm.Free Jvm.Free.XT
/-- WHAT COMES BACK, in the writer's own shape -/
def QV (Z : State) (x : Addr) (N : Int32) (bs : List Int32) (h : Heap) (n0 : Nat) (v : Option Value) (h' : Heap) (L : List Loc) : Prop := v = none ∧ RoadKit.Fr n0 L ∧ RoadKit.Keep h h' [x] ∧ RoadKit.Exa Z h' x ST ∧ RoadKit.Fld Z h' x ST "coder" "B" (.int 0) ∧
  ∃ (t : Addr) (kb : ClassId), n0 ≤ t ∧ h.size ≤ t ∧ ¬ t = x ∧ RoadKit.Fld Z h' x ST "value" "[B" (.ref t) ∧ RoadKit.Arv Z h' t kb .byte N (bs.map Value.int) (.int 0)
/-- **new String(chars) AT A CALL, FOR THE WRITER**: a char[] of n known ints, each 0 to 255 -/
theorem backV {p : Program} {l : Launch} {e : Env} {R : Room} {s : State} {args : Array Value} {below : List Frame} {len W : Nat} {Z : State} {a0 : Array Value} {h : Heap} (hZ : Z.Warmed39 s.vm) (hw : ∀ d ∈ words, d.before a0 Z = true) {kI : Nat} (wi : (Jvm.Cond.instantiable ST kI).before a0 Z = true)
    {x b : Addr} {kC : ClassId} {cs bs : List Int32} {d v0 c0 : Value} {z N : Int32} {n n0 : Nat} (hx0 : n0 ≤ x) (hh0 : n0 ≤ h.size) (E : RoadKit.Exa Z h x ST) (V : RoadKit.Fld Z h x ST "value" "[B" v0) (C : RoadKit.Fld Z h x ST "coder" "B" c0) (K : RoadKit.Arv Z h b kC .char N (cs.map Value.int) d) (S : RoadKit.Sta Z h ST "COMPACT_STRINGS" "Z" (.int z)) (hz : ¬ z = 0)
    (hn : cs.length = n) (hN : N = Int32.ofNat n) (l0 : 0 < n) (l2 : n ≤ 4000) (hp : ∀ c ∈ cs, ¬ c < 0 ∧ ¬ (255 : Int32) < c) (hb : bs = cs.map (fun c => c.toInt8.toInt32)) (hfr : 4 ≤ R.frames) (hlo : W + 65 ≤ R.locals) :
    Back l R p e below s args (⟨"java/lang/String", "<init>", "([C)V"⟩ : MethodName) len W (fun P a => a = #[.ref x, .ref b] ∧ P.U.heap = h ∧ P.cells + 1 ≤ R.cells ∧ P.slots + n ≤ R.slots)
      (fun P _ v B => ∃ L, QV Z x N bs h n0 v B.U.heap L ∧ B.locs = P.locs ++ L ∧ B.cells = P.cells + 1 ∧ B.slots = P.slots + n) := by
  subst hn hN hb
  refine Back.mono (backArv hZ hw wi E V C K S hz (n32 (by omega)) l0 (by omega) (fun c hc => (hp c hc).2) hfr hlo) (fun P a hp => hp) (fun P a v B hp hq => ?_)
  obtain ⟨L, ⟨q1, q2, q3, q4, q5, q6, q7, ⟨kb, v1, v2⟩, q9⟩, hl, hc, hs⟩ := hq
  exact ⟨L, ⟨q1, fun y hy => by rw [q2 y hy]; exact hx0, q3, q5, q7, h.size, kb, hh0, Nat.le_refl _, Nat.ne_of_gt E.lt, q6, by rw [List.map_map]; exact v2⟩, hl, hc, hs⟩
end StrChars.Road
namespace StrChars
open Jvm Sem ClassFile Op Lib Jvm.Stand Jvm.Free.XT Jvm.Free.ALB Jvm.Free.JM Jvm.Free
open Jvm.Lib.Cold (StaticIs)
def hi8 (x : Int32) : Int32 := lo8 (x >>> ((8 : Int32) &&& 31))
/-- what StringUTF16.getChar makes of two bytes -/
def pairCh (u v : Int32) : Int32 := (((u &&& 255) <<< ((0 : Int32) &&& 31)) ||| ((v &&& 255) <<< ((8 : Int32) &&& 31))).toUInt32.toUInt16.toUInt32.toInt32
theorem lo8_and (x : Int32) : (lo8 x &&& 255).toBitVec.toNat = x.toBitVec.toNat % 256 := by
  have h : (lo8 x).toBitVec = (x.toBitVec.signExtend 8).signExtend 32 := by rw [lo8, Int8.toBitVec_toInt32, Int32.toBitVec_toInt8]
  rw [Int32.toBitVec_and, BitVec.toNat_and, h]
  have e : ((x.toBitVec.signExtend 8).signExtend 32).toNat % 256 = x.toBitVec.toNat % 256 := by
    rw [BitVec.toNat_signExtend]
    have hlt := x.toBitVec.isLt
    simp only [BitVec.toNat_setWidth, BitVec.toNat_signExtend]
    split <;> split <;> omega
  rw [← e]
  exact Nat.and_two_pow_sub_one_eq_mod _ 8
theorem pair_says {c : Int32} (h0 : ¬ c < 0) (h1 : ¬ 65535 < c) : pairCh (lo8 c) (hi8 c) = c := by
  rw [Int32.lt_iff_toInt_lt] at h0 h1
  have e0 : (0 : Int32).toInt = 0 := rfl
  have e1 : (65535 : Int32).toInt = 65535 := rfl
  have hc : c.toInt = c.toBitVec.toNat := by
    have := c.toBitVec.isLt
    have e : c.toInt = c.toBitVec.toInt := rfl
    rw [e] at h0 h1
    rw [e]
    rw [BitVec.toInt_eq_toNat_cond] at h0 h1 ⊢
    split at h0 <;> split <;> omega
  have hn : c.toBitVec.toNat < 65536 := by omega
  have a1 := lo8_and c
  have a2 : (hi8 c &&& 255).toBitVec.toNat = c.toBitVec.toNat / 256 := by
    rw [hi8, lo8_and]
    have e : ((8 : Int32) &&& 31) = 8 := by decide
    rw [e, Int32.toBitVec_shiftRight]
    have e2 : ((8 : Int32).toBitVec.smod 32) = 8#32 := by decide
    rw [e2, BitVec.sshiftRight_eq', BitVec.toNat_sshiftRight_of_msb_false (by rw [BitVec.msb_eq_false_iff_two_mul_lt]; omega)]
    show c.toBitVec.toNat >>> 8 % 256 = _
    rw [Nat.shiftRight_eq_div_pow]
    omega
  unfold pairCh
  apply Int32.toBitVec_inj.mp
  apply BitVec.eq_of_toNat_eq
  have f0 : ((0 : Int32) &&& 31) = 0 := by decide
  have f8 : ((8 : Int32) &&& 31) = 8 := by decide
  rw [f0, f8]
  have g : (((lo8 c &&& 255) <<< (0 : Int32)) ||| ((hi8 c &&& 255) <<< (8 : Int32))).toBitVec.toNat = c.toBitVec.toNat := by
    rw [Int32.toBitVec_or, Int32.toBitVec_shiftLeft, Int32.toBitVec_shiftLeft]
    have s0 : ((0 : Int32).toBitVec.smod 32) = 0#32 := by decide
    have s8 : ((8 : Int32).toBitVec.smod 32) = 8#32 := by decide
    rw [s0, s8, BitVec.toNat_or]
    simp only [BitVec.shiftLeft_eq', BitVec.toNat_shiftLeft, a1, a2]
    show (c.toBitVec.toNat % 256) <<< 0 % 2 ^ 32 ||| (c.toBitVec.toNat / 256) <<< 8 % 2 ^ 32 = _
    rw [Nat.shiftLeft_zero, Nat.mod_eq_of_lt (show c.toBitVec.toNat % 256 < 2 ^ 32 by omega), Nat.mod_eq_of_lt (show (c.toBitVec.toNat / 256) <<< 8 < 2 ^ 32 by rw [Nat.shiftLeft_eq]; omega), Nat.or_comm, ← Nat.shiftLeft_add_eq_or_of_lt (by omega), Nat.shiftLeft_eq]
    omega
  show BitVec.toNat (((((lo8 c &&& 255) <<< (0 : Int32)) ||| ((hi8 c &&& 255) <<< (8 : Int32))).toBitVec.setWidth 16).setWidth 32) = _
  rw [BitVec.toNat_setWidth, BitVec.toNat_setWidth, g]
  omega
end StrChars
namespace StrChars
open Jvm Sem ClassFile Op Lib Jvm.Stand Jvm.Free.XT Jvm.Free.ALB Jvm.Free.JM Jvm.Free
open Jvm.Lib.Cold (StaticIs)
/-- the array's cell V codes the n chars f 0 .. f (n - 1) by the coder cd, as the JDK does: coder 1 just where some char is above 255 -/
def Cod (cd : Int32) (n : Nat) (f : Nat → Int32) (V : Cell) : Prop := (cd = 0 ∧ V.slots.size = n ∧ ∀ j, j < n → V.slots[j]? = some (.int (lo8 (f j))) ∧ ¬ 255 < f j) ∨ (cd = 1 ∧ V.slots.size = 2 * n ∧ (∀ j, j < n → V.slots[2 * j]? = some (.int (lo8 (f j))) ∧ V.slots[2 * j + 1]? = some (.int (hi8 (f j)))) ∧ ∃ j, j < n ∧ 255 < f j)
/-- **x is a String of the n chars f 0 .. f (n - 1)**, Latin-1 or UTF-16; its array at t has the cell V -/
def Txt (x t : Addr) (V : Cell) (cd : Int32) (n : Nat) (f : Nat → Int32) (U : State) : Prop := Exact "java/lang/String" x U ∧ Has x "java/lang/String" "value" "[B" (.ref t) U ∧ Has x "java/lang/String" "coder" "B" (.int cd) U ∧ XT.Arr .byte t V U ∧ Cod cd n f V ∧ ∀ j, j < n → ¬ f j < 0 ∧ ¬ 65535 < f j
theorem Txt.mv {x t : Addr} {V : Cell} {cd : Int32} {n : Nat} {f : Nat → Int32} {U U' : State} (h : Txt x t V cd n f U) (hal : U.vm.Alike U'.vm) (hh : U'.heap = U.heap) : Txt x t V cd n f U' := ⟨h.1.mv hal hh, h.2.1.mv hal hh, h.2.2.1.mv hal hh, h.2.2.2.1.mv hal hh, h.2.2.2.2⟩
end StrChars
namespace StrChars.Road
open Jvm Sem ClassFile Op Lib Jvm.Stand Jvm.Free Jvm.Free.XT
open Jvm.Lib.Cold (StaticIs)
theorem consq {a : Array Value} {s : State} {c : Jvm.Cond} {L : List Jvm.Cond} (h0 : c.before a s = true) (h : ∀ w ∈ L, w.before a s = true) : ∀ w ∈ c :: L, w.before a s = true := fun w hw => (List.mem_cons.mp hw).elim (fun e => e ▸ h0) (h w)
/-- the bytes of the chars cs, low before high -/
def wideBytes : List Int32 → List Value
  | [] => []
  | c :: cs => .int (lo8 c) :: .int (hi8 c) :: wideBytes cs
theorem wide_lo (d : Value) : ∀ (cs : List Int32) (j : Nat), j < cs.length → (wideBytes cs).getD (2 * j) d = .int (lo8 (cs.getD j 0))
  | [], j, h => absurd h (Nat.not_lt_zero j)
  | c :: cs, 0, _ => rfl
  | c :: cs, j + 1, h => by
    have q := wide_lo d cs j (by simpa using h)
    rw [show 2 * (j + 1) = 2 * j + 1 + 1 from by omega]
    simpa [wideBytes] using q
theorem wide_hi (d : Value) : ∀ (cs : List Int32) (j : Nat), j < cs.length → (wideBytes cs).getD (2 * j + 1) d = .int (hi8 (cs.getD j 0))
  | [], j, h => absurd h (Nat.not_lt_zero j)
  | c :: cs, 0, _ => rfl
  | c :: cs, j + 1, h => by
    have q := wide_hi d cs j (by simpa using h)
    rw [show 2 * (j + 1) + 1 = 2 * j + 1 + 1 + 1 from by omega]
    simpa [wideBytes] using q
theorem low_at (d : Value) (cs : List Int32) (j : Nat) (h : j < cs.length) : (cs.map fun c => Value.int (lo8 c)).getD j d = .int (lo8 (cs.getD j 0)) := by
  simp [List.getD_eq_getElem?_getD, h]
/-- an array of N2 bytes vs codes the chars cs by the coder cd -/
def CodA (cs : List Int32) (cd N2 : Int32) (vs : List Value) : Prop := (cd = 0 ∧ N2 = Int32.ofNat cs.length ∧ vs = (cs.map fun c => Value.int (lo8 c)) ∧ ∀ c ∈ cs, ¬ 255 < c) ∨ (cd = 1 ∧ N2 = Int32.ofNat (2 * cs.length) ∧ vs = wideBytes cs ∧ ∃ c ∈ cs, 255 < c)
theorem CodA.cod {cs : List Int32} {cd N2 : Int32} {vs : List Value} {V : Cell} (h : CodA cs cd N2 vs) (hn : 2 * cs.length < 2 ^ 31) (hs : V.slots.size = N2.toNatClampNeg) (hv : RoadKit.Has V vs (.int 0)) : Cod cd cs.length (fun j => cs.getD j 0) V := by
  rcases h with ⟨rfl, rfl, rfl, h⟩ | ⟨rfl, rfl, rfl, c, hc, hw⟩
  · rw [n32 (by omega)] at hs
    exact Or.inl ⟨rfl, hs, fun j hj => ⟨by rw [hv j (by omega), low_at _ _ _ hj], by
      have e : cs.getD j 0 = cs[j] := by simp [List.getD_eq_getElem?_getD, hj]
      show ¬ 255 < cs.getD j 0
      rw [e]; exact h _ (List.getElem_mem _)⟩⟩
  · rw [n32 (by omega)] at hs
    obtain ⟨j, hj, rfl⟩ := List.getElem_of_mem hc
    exact Or.inr ⟨rfl, hs, fun j hj => ⟨by rw [hv _ (by omega), wide_lo _ _ _ hj], by rw [hv _ (by omega), wide_hi _ _ _ hj]⟩, j, hj, by
      have e : cs.getD j 0 = cs[j] := by simp [List.getD_eq_getElem?_getD, hj]
      show 255 < cs.getD j 0
      rw [e]; exact hw⟩
/-- an object of exactly java/lang/String, its two fields found: as the laws ask it -/
theorem strObj {Z U : State} {a0 : Array Value} {kI : Nat} (wi : (Jvm.Cond.instantiable ST kI).before a0 Z = true) (al : Z.vm.Alike U.vm) {x : Addr} {v0 c0 : Value} (E : RoadKit.Exa Z U.heap x ST) (V : RoadKit.Fld Z U.heap x ST "value" "[B" v0) (C : RoadKit.Fld Z U.heap x ST "coder" "B" c0) :
    ∃ (D : Cell) (fV fC : Field), Blank ST x D U ∧ Found ST "value" "[B" fV U ∧ Found ST "coder" "B" fC U ∧ D.slots[fV.slot]? = some v0 ∧ D.slots[fC.slot]? = some c0 ∧ RoadKit.slotOf Z ST "value" "[B" = fV.slot ∧ RoadKit.slotOf Z ST "coder" "B" = fC.slot := by
  obtain ⟨D, cfV, kV, iV, fV, hD, gV, stV, knV, obV, asV, slV⟩ := V
  obtain ⟨D', cfC, kC, iC, fC, hD', gC, stC, -, -, asC, slC⟩ := C
  cases hD.symm.trans hD'
  obtain ⟨D2, kD, e1, e2, e3, e4, e5⟩ := E
  cases hD.symm.trans e1
  obtain ⟨c2, k2, i1, i2, i3, -⟩ := Cond.instantiable_spec wi
  cases e2.symm.trans i1
  cases e3.symm.trans i2
  obtain ⟨kU, u1, u2⟩ := al.2.2 _ _ e3
  exact ⟨D, fV, fC, ⟨hD, ⟨knV, fun q hq => by rw [hq] at obV; cases obV⟩, by rw [al.findClass]; exact e2, kU, u1, by rw [u2]; exact i3, by rw [u2]; exact e5 i3⟩, ⟨SBG.found_only al ⟨cfV, kV, iV, gV⟩, stV⟩, ⟨SBG.found_only al ⟨cfC, kC, iC, gC⟩, stC⟩, slV, slC, by simp [RoadKit.slotOf, gV], by simp [RoadKit.slotOf, gC]⟩
theorem sta_is {Z U : State} (al : Z.vm.Alike U.vm) {C n d : String} {v : Value} (S : RoadKit.Sta Z U.heap C n d v) : StaticIs U C n d v := by
  obtain ⟨cfS, iS, kS, fS, st, cS, t1, t2, t3, t4, t5, t6, t7⟩ := S
  exact StaticIs.there (s := { Z with heap := U.heap }) ⟨cfS, iS, kS, fS, st, cS, t1, t2, t3, t4, t5, (fun q => by rw [q] at t6; cases t6), t7⟩ al rfl
end StrChars.Road
namespace StrChars
open Jvm Sem ClassFile Op Lib Jvm.Stand Jvm.Free.XT Jvm.Free.ALB Jvm.Free.JM Jvm.Free
open Jvm.Lib.Cold (StaticIs)
/-- what place i of a byte[]'s cell holds -/
def yv (A : Cell) (i : Nat) : Int32 := match A.slots[i]? with | some (.int x) => x | _ => 0
theorem yv_get {a : Addr} {A : Cell} {U : State} (h : XT.Arr .byte a A U) (ht : Typed .byte A) {i : Nat} (hi : i < A.slots.size) : A.slots[i]? = some (.int (yv A i)) := by
  have e := Array.getElem?_eq_getElem hi
  have f := ht i _ e
  unfold yv; rw [e]
  generalize A.slots[i] = v at f
  cases v <;> simp [fits] at f ⊢
/-- the two arrays are equal, place for place -/
def EqC (A B : Cell) : Prop := A.slots.size = B.slots.size ∧ ∀ i, i < A.slots.size → yv A i = yv B i
/-- a boolean that says whether p -/
def Says01 (q : Prop) (r : Option Value) (s u : State) : Prop := ∃ v : Int32, r = some (.int v) ∧ u.heap = s.heap ∧ ((v = 1 ∧ q) ∨ (v = 0 ∧ ¬ q))
theorem Says01.mv {q : Prop} : ∀ r (U U' V V' : State), U'.heap = U.heap → V.vm.Alike V'.vm → V'.heap = V.heap → Says01 q r U V → Says01 q r U' V' :=
  fun r U U' V V' h1 _ h2 ⟨v, a, b, c⟩ => ⟨v, a, by rw [h1, h2]; exact b, c⟩
namespace LEq
def yN : MethodName := ⟨"java/lang/StringLatin1", "equals", "([B[B)Z"⟩
abbrev yB : ByteArray := jdk_43_method_13_code
theorem d0 : decode yB 0 = .ok (.aload_n 0, 1) := by decide +kernel
theorem d1 : decode yB 1 = .ok (.arraylength, 1) := by decide +kernel
theorem d2 : decode yB 2 = .ok (.aload_n 1, 1) := by decide +kernel
theorem d3 : decode yB 3 = .ok (.arraylength, 1) := by decide +kernel
theorem d4 : decode yB 4 = .ok (.if_icmp (.ne) 30, 3) := by decide +kernel
theorem d7 : decode yB 7 = .ok (.iconst 0, 1) := by decide +kernel
theorem d8 : decode yB 8 = .ok (.istore_n 2, 1) := by decide +kernel
theorem d9 : decode yB 9 = .ok (.iload_n 2, 1) := by decide +kernel
theorem d10 : decode yB 10 = .ok (.aload_n 0, 1) := by decide +kernel
theorem d11 : decode yB 11 = .ok (.arraylength, 1) := by decide +kernel
theorem d12 : decode yB 12 = .ok (.if_icmp (.ge) 20, 3) := by decide +kernel
theorem d15 : decode yB 15 = .ok (.aload_n 0, 1) := by decide +kernel
theorem d16 : decode yB 16 = .ok (.iload_n 2, 1) := by decide +kernel
theorem d17 : decode yB 17 = .ok (.baload, 1) := by decide +kernel
theorem d18 : decode yB 18 = .ok (.aload_n 1, 1) := by decide +kernel
theorem d19 : decode yB 19 = .ok (.iload_n 2, 1) := by decide +kernel
theorem d20 : decode yB 20 = .ok (.baload, 1) := by decide +kernel
theorem d21 : decode yB 21 = .ok (.if_icmp (.eq) 5, 3) := by decide +kernel
theorem d24 : decode yB 24 = .ok (.iconst 0, 1) := by decide +kernel
theorem d25 : decode yB 25 = .ok (.ireturn, 1) := by decide +kernel
theorem d26 : decode yB 26 = .ok (.iinc 2 1, 3) := by decide +kernel
theorem d29 : decode yB 29 = .ok (.goto (-20), 3) := by decide +kernel
theorem d32 : decode yB 32 = .ok (.iconst 1, 1) := by decide +kernel
theorem d33 : decode yB 33 = .ok (.ireturn, 1) := by decide +kernel
theorem d34 : decode yB 34 = .ok (.iconst 0, 1) := by decide +kernel
theorem d35 : decode yB 35 = .ok (.ireturn, 1) := by decide +kernel
def site : List Cond := []
def tab : Cond := tabOf yN yB 3 (some .boolean) site
def P (a : Addr) (A : Cell) (b : Addr) (B : Cell) (args : Array Value) (s : State) : Prop := args = #[.ref a, .ref b] ∧ XT.Arr .byte a A s ∧ Typed .byte A ∧ XT.Arr .byte b B s ∧ Typed .byte B
/-- whether two byte[] are equal, place for place -/
theorem law (l : Launch) (a : Addr) (A : Cell) (b : Addr) (B : Cell) : Law l yN 2 2 0 0 yB 3 (some .boolean) site (P a A b B) (Says01 (EqC A B)) [] 0 0 := by
  refine Law.of_walk (plainFor_of_name (by decide +kernel)) (by decide +kernel) (by decide +kernel) (by decide) (fun _ _ h => by rw [h.1]; rfl) (fun _ U U' hal hh h => ⟨h.1, h.2.1.mv hal hh, h.2.2.1, h.2.2.2.1.mv hal hh, h.2.2.2.2⟩) (fun r U U' V V' h1 hal h2 h => Says01.mv r U U' V V' h1 hal h2 h) ?_
  intro p e s m args below meth c s₁ X0 hexec hbytes hml hret hlk hnm hown hh0 W hP
  obtain ⟨rfl, hA, tA, hB, tB⟩ := hP
  have a31 := hA.2.2.2
  have b31 := hB.2.2.2
  have hA0 := hA.mv X0.warmed.alike hh0
  have hB0 := hB.mv X0.warmed.alike hh0
  have c1 : Steps p.tables e below (s₁.setTop (entryFrame m #[.ref a, .ref b] 3)) (s₁.setTop (mkF m 0 #[.val (.ref a), .val (.ref b), .unset] [])) := entry rfl
  have c2 : Steps p.tables e below (s₁.setTop (entryFrame m #[.ref a, .ref b] 3)) (s₁.setTop (mkF m 4 #[.val (.ref a), .val (.ref b), .unset] [.int (Int32.ofNat B.slots.size), .int (Int32.ofNat A.slots.size)])) := c1.trans (by
    refine XS.aloadN X0.here hexec rfl (hb hbytes d0) rfl rfl ?_
    refine X0.alen hexec hA0 rfl rfl (hb hbytes d1) ?_
    refine XS.aloadN X0.here hexec rfl (hb hbytes d2) rfl rfl ?_
    refine X0.alen hexec hB0 rfl rfl (hb hbytes d3) ?_
    exact Steps.refl _)
  by_cases hs : A.slots.size = B.slots.size
  · have c3 : Steps p.tables e below (s₁.setTop (entryFrame m #[.ref a, .ref b] 3)) (s₁.setTop (mkF m 9 #[.val (.ref a), .val (.ref b), .val (.int 0)] [])) := c2.trans (by
      refine XS.icmpNo X0.here hexec rfl (hb hbytes d4) rfl (ii_ne_f (by rw [hs])) ?_
      refine iconstV X0.here hexec rfl 0 (hb hbytes d7) (by decide) ?_
      refine XS.istoreN X0.here hexec rfl (hb hbytes d8) rfl rfl ?_
      exact Steps.refl _)
    have loop : ∀ (r i : Nat), i + r = A.slots.size → (∀ j, j < i → yv A j = yv B j) → Steps p.tables e below (s₁.setTop (entryFrame m #[.ref a, .ref b] 3)) (s₁.setTop (mkF m 9 #[.val (.ref a), .val (.ref b), .val (.int (Int32.ofNat i))] [])) → ∃ (pc : Nat) (Ls : Array Slot) (v : Int32), (pc = 25 ∨ pc = 33) ∧ ((v = 1 ∧ EqC A B) ∨ (v = 0 ∧ ¬ EqC A B)) ∧ Steps p.tables e below (s₁.setTop (entryFrame m #[.ref a, .ref b] 3)) (s₁.setTop (mkF m pc Ls [.int v])) := by
      intro r
      induction r with
      | zero =>
        intro i hi he cl
        exact ⟨33, _, 1, Or.inr rfl, Or.inl ⟨rfl, hs, fun j hj => he j (by omega)⟩, cl.trans (by
          refine XS.iloadN X0.here hexec rfl (hb hbytes d9) rfl ?_
          refine XS.aloadN X0.here hexec rfl (hb hbytes d10) rfl rfl ?_
          refine X0.alen hexec hA0 rfl rfl (hb hbytes d11) ?_
          refine XS.icmpYes X0.here hexec rfl (pc0 := 12) rfl (hb hbytes d12) rfl (ii_ge_t (nlt32 (by omega) (by omega))) (by decide) rfl ?_
          refine iconstV X0.here hexec rfl 1 (hb hbytes d32) (by decide) ?_
          exact Steps.refl _)⟩
      | succ r ih =>
        intro i hi he cl
        have c4 : Steps p.tables e below (s₁.setTop (entryFrame m #[.ref a, .ref b] 3)) (s₁.setTop (mkF m 21 #[.val (.ref a), .val (.ref b), .val (.int (Int32.ofNat i))] [.int (yv B i), .int (yv A i)])) := cl.trans (by
          refine XS.iloadN X0.here hexec rfl (hb hbytes d9) rfl ?_
          refine XS.aloadN X0.here hexec rfl (hb hbytes d10) rfl rfl ?_
          refine X0.alen hexec hA0 rfl rfl (hb hbytes d11) ?_
          refine XS.icmpNo X0.here hexec rfl (hb hbytes d12) rfl (ii_ge_f (lt32 (by omega) (by omega))) ?_
          refine XS.aloadN X0.here hexec rfl (hb hbytes d15) rfl rfl ?_
          refine XS.iloadN X0.here hexec rfl (hb hbytes d16) rfl ?_
          refine X0.aget hexec hA0 rfl (yv_get hA tA (i := i) (by omega)) rfl rfl (hb hbytes d17) ?_
          refine XS.aloadN X0.here hexec rfl (hb hbytes d18) rfl rfl ?_
          refine XS.iloadN X0.here hexec rfl (hb hbytes d19) rfl ?_
          refine X0.aget hexec hB0 rfl (yv_get hB tB (i := i) (by omega)) rfl rfl (hb hbytes d20) ?_
          exact Steps.refl _)
        by_cases hv : yv A i = yv B i
        · have c5 : Steps p.tables e below (s₁.setTop (entryFrame m #[.ref a, .ref b] 3)) (s₁.setTop (mkF m 9 #[.val (.ref a), .val (.ref b), .val (.int (Int32.ofNat i + 1))] [])) := c4.trans (by
            refine XS.icmpYes X0.here hexec rfl (pc0 := 21) rfl (hb hbytes d21) rfl (ii_eq_t hv) (by decide) rfl ?_
            refine iincV X0.here hexec rfl 1 (hb hbytes d26) (by decide) rfl rfl ?_
            refine XS.goto X0.here hexec rfl (pc0 := 29) rfl (hb hbytes d29) (by decide) rfl ?_
            exact Steps.refl _)
          rw [succ32] at c5
          exact ih (i + 1) (by omega) (fun j hj => by
            by_cases e : j = i
            · rw [e]; exact hv
            · exact he j (by omega)) c5
        · exact ⟨25, _, 0, Or.inl rfl, Or.inr ⟨rfl, fun q => hv (q.2 i (by omega))⟩, c4.trans (by
            refine XS.icmpNo X0.here hexec rfl (hb hbytes d21) rfl (ii_eq_f hv) ?_
            refine iconstV X0.here hexec rfl 0 (hb hbytes d24) (by decide) ?_
            exact Steps.refl _)⟩
    obtain ⟨pc, Ls, v, hpc, hv, cz⟩ := loop A.slots.size 0 (by omega) (fun j hj => absurd hj (Nat.not_lt_zero j)) c3
    have nv : narrow .boolean (.int v) = .int v := by rcases hv with ⟨rfl, -⟩ | ⟨rfl, -⟩ <;> rfl
    rcases hpc with rfl | rfl
    · exact ⟨s₁, some (.int v), _, _, _, X0, rfl, rfl, rfl, (fun h => by cases h), ⟨v, rfl, hh0, hv⟩, fun fs hl => cz.trans (X0.ireturnOut hexec hret nv (Or.inr (Or.inl rfl)) (hb hbytes d25) hl)⟩
    · exact ⟨s₁, some (.int v), _, _, _, X0, rfl, rfl, rfl, (fun h => by cases h), ⟨v, rfl, hh0, hv⟩, fun fs hl => cz.trans (X0.ireturnOut hexec hret nv (Or.inr (Or.inl rfl)) (hb hbytes d33) hl)⟩
  · have c3 : Steps p.tables e below (s₁.setTop (entryFrame m #[.ref a, .ref b] 3)) (s₁.setTop (mkF m 35 #[.val (.ref a), .val (.ref b), .unset] [.int 0])) := c2.trans (by
      refine XS.icmpYes X0.here hexec rfl (pc0 := 4) rfl (hb hbytes d4) rfl (ii_ne_t (ne32 a31 b31 hs)) (by decide) rfl ?_
      refine iconstV X0.here hexec rfl 0 (hb hbytes d34) (by decide) ?_
      exact Steps.refl _)
    exact ⟨s₁, some (.int 0), _, _, _, X0, rfl, rfl, rfl, (fun h => by cases h), ⟨0, rfl, hh0, Or.inr ⟨rfl, fun q => hs q.1⟩⟩, fun fs hl => c3.trans (X0.ireturnOut hexec hret rfl (Or.inr (Or.inl rfl)) (hb hbytes d35) hl)⟩
end LEq
theorem Cod.ty {cd : Int32} {n : Nat} {f : Nat → Int32} {V : Cell} (h : Cod cd n f V) : Typed .byte V := fun i v hv => by
  have hi : i < V.slots.size := (Array.getElem?_eq_some_iff.mp hv).1
  rcases h with ⟨-, k1, k2⟩ | ⟨-, k1, k2, -⟩
  · rw [(k2 i (by omega)).1] at hv; cases hv; exact fits_lo8 _
  · rcases Nat.mod_two_eq_zero_or_one i with e | e
    · obtain ⟨j, rfl⟩ : ∃ j, i = 2 * j := ⟨i / 2, by omega⟩
      rw [(k2 j (by omega)).1] at hv; cases hv; exact fits_lo8 _
    · obtain ⟨j, rfl⟩ : ∃ j, i = 2 * j + 1 := ⟨i / 2, by omega⟩
      rw [(k2 j (by omega)).2] at hv; cases hv; exact fits_lo8 _
/-- the same text -/
def SameT (n : Nat) (f : Nat → Int32) (k : Nat) (g : Nat → Int32) : Prop := n = k ∧ ∀ j, j < n → f j = g j
theorem lo8_inj {x y : Int32} (h0 : ¬ x < 0) (h1 : ¬ 255 < x) (k0 : ¬ y < 0) (k1 : ¬ 255 < y) (h : lo8 x = lo8 y) : x = y := by
  rw [← lo8_mask h0 h1, ← lo8_mask k0 k1, h]
/-- arrays coded by one coder are equal just where the texts are -/
theorem Cod.eqv {cd : Int32} {n k : Nat} {f g : Nat → Int32} {V V' : Cell} (h : Cod cd n f V) (h' : Cod cd k g V') (hf : ∀ j, j < n → ¬ f j < 0 ∧ ¬ 65535 < f j) (hg : ∀ j, j < k → ¬ g j < 0 ∧ ¬ 65535 < g j) : EqC V V' ↔ SameT n f k g := by
  have yvv : ∀ {W : Cell} {i : Nat} {x : Int32}, W.slots[i]? = some (.int x) → yv W i = x := fun q => by unfold yv; rw [q]
  rcases h with ⟨rfl, k1, k2⟩ | ⟨rfl, k1, k2, -⟩
  · rcases h' with ⟨-, m1, m2⟩ | ⟨e, -⟩
    · constructor
      · rintro ⟨e1, e2⟩
        refine ⟨by omega, fun j hj => ?_⟩
        have q := e2 j (by omega)
        rw [yvv (k2 j hj).1, yvv (m2 j (by omega)).1] at q
        exact lo8_inj (hf j hj).1 (k2 j hj).2 (hg j (by omega)).1 (m2 j (by omega)).2 q
      · rintro ⟨rfl, e2⟩
        refine ⟨by omega, fun j hj => ?_⟩
        rw [yvv (k2 j (by omega)).1, yvv (m2 j (by omega)).1, e2 j (by omega)]
    · exact absurd e (by decide)
  · rcases h' with ⟨e, -⟩ | ⟨-, m1, m2, -⟩
    · exact absurd e (by decide)
    · constructor
      · rintro ⟨e1, e2⟩
        refine ⟨by omega, fun j hj => ?_⟩
        have q1 := e2 (2 * j) (by omega)
        have q2 := e2 (2 * j + 1) (by omega)
        rw [yvv (k2 j hj).1, yvv (m2 j (by omega)).1] at q1
        rw [yvv (k2 j hj).2, yvv (m2 j (by omega)).2] at q2
        rw [← pair_says (hf j hj).1 (hf j hj).2, ← pair_says (hg j (by omega)).1 (hg j (by omega)).2, q1, q2]
      · rintro ⟨rfl, e2⟩
        refine ⟨by omega, fun i hi => ?_⟩
        rcases Nat.mod_two_eq_zero_or_one i with e | e
        · obtain ⟨j, rfl⟩ : ∃ j, i = 2 * j := ⟨i / 2, by omega⟩
          rw [yvv (k2 j (by omega)).1, yvv (m2 j (by omega)).1, e2 j (by omega)]
        · obtain ⟨j, rfl⟩ : ∃ j, i = 2 * j + 1 := ⟨i / 2, by omega⟩
          rw [yvv (k2 j (by omega)).2, yvv (m2 j (by omega)).2, e2 j (by omega)]
/-- two codings differ: so do the texts -/
theorem Cod.dif {cd cd' : Int32} {n k : Nat} {f g : Nat → Int32} {V V' : Cell} (h : Cod cd n f V) (h' : Cod cd' k g V') (hne : ¬ cd = cd') : ¬ SameT n f k g := by
  rintro ⟨rfl, e⟩
  rcases h with ⟨rfl, -, k2⟩ | ⟨rfl, -, -, j, hj, hw⟩
  · rcases h' with ⟨rfl, -⟩ | ⟨-, -, -, j, hj, hw⟩
    · exact hne rfl
    · exact (k2 j hj).2 (by rw [e j hj]; exact hw)
  · rcases h' with ⟨-, -, m2⟩ | ⟨rfl, -⟩
    · exact (m2 j hj).2 (by rw [← e j hj]; exact hw)
    · exact hne rfl
/-- an object of exactly C is an instance of C -/
theorem cinst {p : Program} {l : Launch} {e : Env} {R : Room} {s : State} {m : MethodId} {args : Array Value} {below : List Frame} {meth : Method} {c : Code} {T : State} {locs : List Loc} {cells slots : Nat} (X : Stand p l e R s m args below meth c T locs cells slots) (hexec : p.tables.exec = Jvm.exec) {own C : String} {index : Nat} (hown : s.vm.findClass own = some m.cls) (hlink : (Cond.classLink own index C).before args s = true) {a : Addr} (hE : Exact C a T)
    {g : JFrame} (hg : g.method = m) {rest : List Value} (hstack : g.stack = .ref a :: rest) (hdg : decode c.code g.pc = .ok (.instanceof index, 3)) :
    ∃ T', Stand p l e R s m args below meth c T' locs cells slots ∧ T'.heap = T.heap ∧ ∀ target, Steps p.tables e below (T'.setTop { g with pc := g.pc + 3, stack := .int 1 :: rest }) target → Steps p.tables e below (T.setTop g) target := by
  obtain ⟨cB, h1, D, h2, h3, h4⟩ := hE
  have h1' : s.vm.findClass C = some cB := by rw [← X.warmed.alike.findClass]; exact h1
  obtain ⟨vm', X', st⟩ := X.instanceofYes hexec hown hlink h2 h4 h1' (by rw [h3]; exact Jvm.Free.SB.assignable_self _ _) hg hstack hdg
  exact ⟨_, X', rfl, st⟩
theorem cself {p : Program} {l : Launch} {e : Env} {R : Room} {s : State} {m : MethodId} {args : Array Value} {below : List Frame} {meth : Method} {c : Code} {T : State} {locs : List Loc} {cells slots : Nat} (X : Stand p l e R s m args below meth c T locs cells slots) (hexec : p.tables.exec = Jvm.exec) {own C : String} {index : Nat} (hown : s.vm.findClass own = some m.cls) (hlink : (Cond.classLink own index C).before args s = true) {a : Addr} (hE : Exact C a T)
    {g : JFrame} (hg : g.method = m) {rest : List Value} (hstack : g.stack = .ref a :: rest) (hdg : decode c.code g.pc = .ok (.checkcast index, 3)) :
    ∃ T', Stand p l e R s m args below meth c T' locs cells slots ∧ T'.heap = T.heap ∧ ∀ target, Steps p.tables e below (T'.setTop { g with pc := g.pc + 3, stack := .ref a :: rest }) target → Steps p.tables e below (T.setTop g) target := by
  obtain ⟨cB, h1, D, h2, h3, h4⟩ := hE
  have h1' : s.vm.findClass C = some cB := by rw [← X.warmed.alike.findClass]; exact h1
  obtain ⟨vm', X', st⟩ := X.checkcastYes hexec hown hlink h2 h4 h1' (by rw [h3]; exact Jvm.Free.SB.assignable_self _ _) hg hstack hdg
  exact ⟨_, X', rfl, fun t h => st t (by rw [← hstack] at h; exact h)⟩
namespace SEq
def yN : MethodName := ⟨"java/lang/String", "equals", "(Ljava/lang/Object;)Z"⟩
abbrev yB : ByteArray := jdk_42_method_66_code
theorem d0 : decode yB 0 = .ok (.aload_n 0, 1) := by decide +kernel
theorem d1 : decode yB 1 = .ok (.aload_n 1, 1) := by decide +kernel
theorem d2 : decode yB 2 = .ok (.if_acmp (.ne) 5, 3) := by decide +kernel
theorem d5 : decode yB 5 = .ok (.iconst 1, 1) := by decide +kernel
theorem d6 : decode yB 6 = .ok (.ireturn, 1) := by decide +kernel
theorem d7 : decode yB 7 = .ok (.aload_n 1, 1) := by decide +kernel
theorem d8 : decode yB 8 = .ok (.instanceof 10, 3) := by decide +kernel
theorem d11 : decode yB 11 = .ok (.ifCond (.eq) 43, 3) := by decide +kernel
theorem d14 : decode yB 14 = .ok (.aload_n 1, 1) := by decide +kernel
theorem d15 : decode yB 15 = .ok (.checkcast 10, 3) := by decide +kernel
theorem d18 : decode yB 18 = .ok (.astore_n 2, 1) := by decide +kernel
theorem d19 : decode yB 19 = .ok (.getstatic 38, 3) := by decide +kernel
theorem d22 : decode yB 22 = .ok (.ifCond (.eq) 14, 3) := by decide +kernel
theorem d25 : decode yB 25 = .ok (.aload_n 0, 1) := by decide +kernel
theorem d26 : decode yB 26 = .ok (.getfield 15, 3) := by decide +kernel
theorem d29 : decode yB 29 = .ok (.aload_n 2, 1) := by decide +kernel
theorem d30 : decode yB 30 = .ok (.getfield 15, 3) := by decide +kernel
theorem d33 : decode yB 33 = .ok (.if_icmp (.ne) 21, 3) := by decide +kernel
theorem d36 : decode yB 36 = .ok (.aload_n 0, 1) := by decide +kernel
theorem d37 : decode yB 37 = .ok (.getfield 9, 3) := by decide +kernel
theorem d40 : decode yB 40 = .ok (.aload_n 2, 1) := by decide +kernel
theorem d41 : decode yB 41 = .ok (.getfield 9, 3) := by decide +kernel
theorem d44 : decode yB 44 = .ok (.invokestatic 541, 3) := by decide +kernel
theorem d47 : decode yB 47 = .ok (.ifCond (.eq) 7, 3) := by decide +kernel
theorem d50 : decode yB 50 = .ok (.iconst 1, 1) := by decide +kernel
theorem d51 : decode yB 51 = .ok (.goto 4, 3) := by decide +kernel
theorem d54 : decode yB 54 = .ok (.iconst 0, 1) := by decide +kernel
theorem d55 : decode yB 55 = .ok (.ireturn, 1) := by decide +kernel
def site : List Cond := [.classLink "java/lang/String" 10 "java/lang/String", .fieldLink "java/lang/String" 38 "java/lang/String" "COMPACT_STRINGS" "Z", .fieldLink "java/lang/String" 15 "java/lang/String" "coder" "B", .fieldLink "java/lang/String" 9 "java/lang/String" "value" "[B", LEq.tab] ++ staticW "java/lang/String" 541 LEq.yN
def tab : Cond := tabOf yN yB 3 (some .boolean) site
def P (x t : Addr) (V : Cell) (cd : Int32) (n : Nat) (f : Nat → Int32) (y t' : Addr) (V' : Cell) (cd' : Int32) (k : Nat) (g : Nat → Int32) (z : Int32) (args : Array Value) (s : State) : Prop := args = #[.ref x, .ref y] ∧ Txt x t V cd n f s ∧ Txt y t' V' cd' k g s ∧ StaticIs s "java/lang/String" "COMPACT_STRINGS" "Z" (.int z) ∧ ¬ z = 0
/-- equals(Object) of two Strings: whether the texts are the same -/
theorem law (l : Launch) (x t : Addr) (V : Cell) (cd : Int32) (n : Nat) (f : Nat → Int32) (y t' : Addr) (V' : Cell) (cd' : Int32) (k : Nat) (g : Nat → Int32) (z : Int32) : Law l yN 2 1 1 14 yB 3 (some .boolean) site (P x t V cd n f y t' V' cd' k g z) (Says01 (SameT n f k g)) [] 0 0 := by
  refine Law.of_walk (plainFor_of_name (by decide +kernel)) (by decide +kernel) (by decide +kernel) (by decide) (fun _ _ h => by rw [h.1]; rfl) (fun _ U U' hal hh h => ⟨h.1, h.2.1.mv hal hh, h.2.2.1.mv hal hh, h.2.2.2.1.there hal hh, h.2.2.2.2⟩) (fun r U U' V V' h1 hal h2 h => Says01.mv r U U' V V' h1 hal h2 h) ?_
  intro p e s m args below meth c s₁ X0 hexec hbytes hml hret hlk hnm hown hh0 W hP
  obtain ⟨rfl, hx, hy, s1, hz⟩ := hP
  have c1 : Steps p.tables e below (s₁.setTop (entryFrame m #[.ref x, .ref y] 3)) (s₁.setTop (mkF m 2 #[.val (.ref x), .val (.ref y), .unset] [.ref y, .ref x])) := Steps.trans (entry rfl) (by
    show Steps p.tables e below (s₁.setTop (mkF m 0 #[.val (.ref x), .val (.ref y), .unset] [])) _
    refine XS.aloadN X0.here hexec rfl (hb hbytes d0) rfl rfl ?_
    refine XS.aloadN X0.here hexec rfl (hb hbytes d1) rfl rfl ?_
    exact Steps.refl _)
  by_cases hxy : x = y
  · have c2 : Steps p.tables e below (s₁.setTop (entryFrame m #[.ref x, .ref y] 3)) (s₁.setTop (mkF m 6 #[.val (.ref x), .val (.ref y), .unset] [.int 1])) := c1.trans (by
      refine acmpNo X0.here hexec rfl (hb hbytes d2) rfl rfl rfl (by simp [acmp, hxy]) ?_
      refine iconstV X0.here hexec rfl 1 (hb hbytes d5) (by decide) ?_
      exact Steps.refl _)
    subst hxy
    have ec : cd = cd' := by
      obtain ⟨D, fd, a1, a2, a3⟩ := hx.2.2.1
      obtain ⟨D', fd', b1, b2, b3⟩ := hy.2.2.1
      cases a1.symm.trans b1
      obtain ⟨q1, q2, q3, q4⟩ := a2.1
      obtain ⟨r1, r2, r3, r4⟩ := b2.1
      cases q4.symm.trans r4
      cases a3.symm.trans b3; rfl
    have et : t = t' := by
      obtain ⟨D, fd, a1, a2, a3⟩ := hx.2.1
      obtain ⟨D', fd', b1, b2, b3⟩ := hy.2.1
      cases a1.symm.trans b1
      obtain ⟨q1, q2, q3, q4⟩ := a2.1
      obtain ⟨r1, r2, r3, r4⟩ := b2.1
      cases q4.symm.trans r4
      cases a3.symm.trans b3; rfl
    subst ec et
    have ev : V = V' := by cases hx.2.2.2.1.1.symm.trans hy.2.2.2.1.1; rfl
    subst ev
    have hs : SameT n f k g := (Cod.eqv hx.2.2.2.2.1 hy.2.2.2.2.1 hx.2.2.2.2.2 hy.2.2.2.2.2).mp ⟨rfl, fun _ _ => rfl⟩
    exact ⟨s₁, some (.int 1), _, _, _, X0, rfl, rfl, rfl, (fun h => by cases h), ⟨1, rfl, hh0, Or.inl ⟨rfl, hs⟩⟩, fun fs hl => c2.trans (X0.ireturnOut hexec hret rfl (Or.inr (Or.inl rfl)) (hb hbytes d6) hl)⟩
  · have c2 : Steps p.tables e below (s₁.setTop (entryFrame m #[.ref x, .ref y] 3)) (s₁.setTop (mkF m 8 #[.val (.ref x), .val (.ref y), .unset] [.ref y])) := c1.trans (by
      refine acmpYes X0.here hexec rfl (pc0 := 2) rfl (hb hbytes d2) rfl rfl rfl (by simp [acmp, hxy]) (by decide) rfl ?_
      refine XS.aloadN X0.here hexec rfl (hb hbytes d7) rfl rfl ?_
      exact Steps.refl _)
    obtain ⟨T3, X3, q3, st3⟩ := cinst X0 hexec hown (wk W (.classLink "java/lang/String" 10 "java/lang/String")) (hy.mv X0.warmed.alike hh0).1 (g := (mkF m 8 #[.val (.ref x), .val (.ref y), .unset] [.ref y])) rfl (rest := []) rfl (hb hbytes d8)
    have hh3 := q3.trans hh0
    have c4 : Steps p.tables e below (s₁.setTop (entryFrame m #[.ref x, .ref y] 3)) (T3.setTop (mkF m 15 #[.val (.ref x), .val (.ref y), .unset] [.ref y])) := (c2.trans (st3 _ (Steps.refl _))).trans (by
      refine XS.ifNo X3.here hexec rfl (hb hbytes d11) rfl (i0_eq_f (by decide)) ?_
      refine XS.aloadN X3.here hexec rfl (hb hbytes d14) rfl rfl ?_
      exact Steps.refl _)
    obtain ⟨T5, X5, q5, st5⟩ := cself X3 hexec hown (wk W (.classLink "java/lang/String" 10 "java/lang/String")) (hy.mv X3.warmed.alike hh3).1 (g := (mkF m 15 #[.val (.ref x), .val (.ref y), .unset] [.ref y])) rfl (rest := []) rfl (hb hbytes d15)
    have hh5 := q5.trans hh3
    have c6 : Steps p.tables e below (s₁.setTop (entryFrame m #[.ref x, .ref y] 3)) (T5.setTop (mkF m 19 #[.val (.ref x), .val (.ref y), .val (.ref y)] [])) := (c4.trans (st5 _ (Steps.refl _))).trans (by
      refine XS.astoreN X5.here hexec rfl (hb hbytes d18) rfl rfl rfl ?_
      exact Steps.refl _)
    obtain ⟨T7, X7, q7, st7⟩ := X5.sget hexec hown (wk W (.fieldLink "java/lang/String" 38 "java/lang/String" "COMPACT_STRINGS" "Z")) s1 (fun _ _ h => by rw [hh5]; exact h) (g := (mkF m 19 #[.val (.ref x), .val (.ref y), .val (.ref y)] [])) rfl (hb hbytes d19)
    have hh7 := q7.trans hh5
    have c8 : Steps p.tables e below (s₁.setTop (entryFrame m #[.ref x, .ref y] 3)) (T7.setTop (mkF m 26 #[.val (.ref x), .val (.ref y), .val (.ref y)] [.ref x])) := (c6.trans (st7 _ (Steps.refl _))).trans (by
      refine XS.ifNo X7.here hexec rfl (hb hbytes d22) rfl (i0_eq_f hz) ?_
      refine XS.aloadN X7.here hexec rfl (hb hbytes d25) rfl rfl ?_
      exact Steps.refl _)
    obtain ⟨T9, X9, q9, st9⟩ := X7.hget hexec hown (wk W (.fieldLink "java/lang/String" 15 "java/lang/String" "coder" "B")) (hx.mv X7.warmed.alike hh7).2.2.1 (g := (mkF m 26 #[.val (.ref x), .val (.ref y), .val (.ref y)] [.ref x])) rfl (rest := []) rfl (hb hbytes d26)
    have hh9 := q9.trans hh7
    have c10 : Steps p.tables e below (s₁.setTop (entryFrame m #[.ref x, .ref y] 3)) (T9.setTop (mkF m 30 #[.val (.ref x), .val (.ref y), .val (.ref y)] [.ref y, .int cd])) := (c8.trans (st9 _ (Steps.refl _))).trans (by
      refine XS.aloadN X9.here hexec rfl (hb hbytes d29) rfl rfl ?_
      exact Steps.refl _)
    obtain ⟨T11, X11, q11, st11⟩ := X9.hget hexec hown (wk W (.fieldLink "java/lang/String" 15 "java/lang/String" "coder" "B")) (hy.mv X9.warmed.alike hh9).2.2.1 (g := (mkF m 30 #[.val (.ref x), .val (.ref y), .val (.ref y)] [.ref y, .int cd])) rfl (rest := [.int cd]) rfl (hb hbytes d30)
    have hh11 := q11.trans hh9
    have c12 : Steps p.tables e below (s₁.setTop (entryFrame m #[.ref x, .ref y] 3)) (T11.setTop (mkF m 33 #[.val (.ref x), .val (.ref y), .val (.ref y)] [.int cd', .int cd])) := c10.trans (st11 _ (Steps.refl _))
    by_cases hcd : cd = cd'
    · subst hcd
      have c13 : Steps p.tables e below (s₁.setTop (entryFrame m #[.ref x, .ref y] 3)) (T11.setTop (mkF m 37 #[.val (.ref x), .val (.ref y), .val (.ref y)] [.ref x])) := c12.trans (by
        refine XS.icmpNo X11.here hexec rfl (hb hbytes d33) rfl (ii_ne_f rfl) ?_
        refine XS.aloadN X11.here hexec rfl (hb hbytes d36) rfl rfl ?_
        exact Steps.refl _)
      obtain ⟨T14, X14, q14, st14⟩ := X11.hget hexec hown (wk W (.fieldLink "java/lang/String" 9 "java/lang/String" "value" "[B")) (hx.mv X11.warmed.alike hh11).2.1 (g := (mkF m 37 #[.val (.ref x), .val (.ref y), .val (.ref y)] [.ref x])) rfl (rest := []) rfl (hb hbytes d37)
      have hh14 := q14.trans hh11
      have c15 : Steps p.tables e below (s₁.setTop (entryFrame m #[.ref x, .ref y] 3)) (T14.setTop (mkF m 41 #[.val (.ref x), .val (.ref y), .val (.ref y)] [.ref y, .ref t])) := (c13.trans (st14 _ (Steps.refl _))).trans (by
        refine XS.aloadN X14.here hexec rfl (hb hbytes d40) rfl rfl ?_
        exact Steps.refl _)
      obtain ⟨T16, X16, q16, st16⟩ := X14.hget hexec hown (wk W (.fieldLink "java/lang/String" 9 "java/lang/String" "value" "[B")) (hy.mv X14.warmed.alike hh14).2.1 (g := (mkF m 41 #[.val (.ref x), .val (.ref y), .val (.ref y)] [.ref y, .ref t])) rfl (rest := [.ref t]) rfl (hb hbytes d41)
      have hh16 := q16.trans hh14
      have c17 : Steps p.tables e below (s₁.setTop (entryFrame m #[.ref x, .ref y] 3)) (T16.setTop (mkF m 44 #[.val (.ref x), .val (.ref y), .val (.ref y)] [.ref t', .ref t])) := c15.trans (st16 _ (Steps.refl _))
      obtain ⟨v18, T18, X18, E18, g18⟩ := X16.callS hexec (LEq.law l t V t' V') hown (wks W (staticW "java/lang/String" 541 LEq.yN)) (wk W LEq.tab) (W := 0) (Nat.le_of_ble_eq_true rfl) (Nat.le_of_ble_eq_true rfl) (Nat.le_refl _) (Nat.le_refl _) (g := (mkF m 44 #[.val (.ref x), .val (.ref y), .val (.ref y)] [.ref t', .ref t])) rfl (by rw [hml]; rfl) c17 (argsL := [.ref t, .ref t']) (rest := []) rfl rfl (by show 2 * 0 + 0 ≤ _; decide) (hb hbytes d44) (⟨rfl, hx.2.2.2.1.mv X16.warmed.alike hh16, hx.2.2.2.2.1.ty, hy.2.2.2.1.mv X16.warmed.alike hh16, hy.2.2.2.2.1.ty⟩)
      obtain ⟨v, rfl, q18, hv⟩ := E18
      have iff := Cod.eqv hx.2.2.2.2.1 hy.2.2.2.2.1 hx.2.2.2.2.2 hy.2.2.2.2.2
      rcases hv with ⟨rfl, he⟩ | ⟨rfl, he⟩
      · have c19 : Steps p.tables e below (s₁.setTop (entryFrame m #[.ref x, .ref y] 3)) (T18.setTop (mkF m 55 #[.val (.ref x), .val (.ref y), .val (.ref y)] [.int 1])) := Steps.trans g18 (by
          refine XS.ifNo X18.here hexec rfl (hb hbytes d47) rfl (i0_eq_f (by decide)) ?_
          refine iconstV X18.here hexec rfl 1 (hb hbytes d50) (by decide) ?_
          refine XS.goto X18.here hexec rfl (pc0 := 51) rfl (hb hbytes d51) (by decide) rfl ?_
          exact Steps.refl _)
        exact ⟨T18, some (.int 1), _, _, _, X18, rfl, rfl, rfl, (fun h => by cases h), ⟨1, rfl, q18.trans hh16, Or.inl ⟨rfl, iff.mp he⟩⟩, fun fs hl => c19.trans (X18.ireturnOut hexec hret rfl (Or.inr (Or.inl rfl)) (hb hbytes d55) hl)⟩
      · have c19 : Steps p.tables e below (s₁.setTop (entryFrame m #[.ref x, .ref y] 3)) (T18.setTop (mkF m 55 #[.val (.ref x), .val (.ref y), .val (.ref y)] [.int 0])) := Steps.trans g18 (by
          refine XS.ifYes X18.here hexec rfl (pc0 := 47) rfl (hb hbytes d47) rfl (i0_eq_t rfl) (by decide) rfl ?_
          refine iconstV X18.here hexec rfl 0 (hb hbytes d54) (by decide) ?_
          exact Steps.refl _)
        exact ⟨T18, some (.int 0), _, _, _, X18, rfl, rfl, rfl, (fun h => by cases h), ⟨0, rfl, q18.trans hh16, Or.inr ⟨rfl, fun q => he (iff.mpr q)⟩⟩, fun fs hl => c19.trans (X18.ireturnOut hexec hret rfl (Or.inr (Or.inl rfl)) (hb hbytes d55) hl)⟩
    · have c13 : Steps p.tables e below (s₁.setTop (entryFrame m #[.ref x, .ref y] 3)) (T11.setTop (mkF m 55 #[.val (.ref x), .val (.ref y), .val (.ref y)] [.int 0])) := c12.trans (by
        refine XS.icmpYes X11.here hexec rfl (pc0 := 33) rfl (hb hbytes d33) rfl (ii_ne_t hcd) (by decide) rfl ?_
        refine iconstV X11.here hexec rfl 0 (hb hbytes d54) (by decide) ?_
        exact Steps.refl _)
      exact ⟨T11, some (.int 0), _, _, _, X11, rfl, rfl, rfl, (fun h => by cases h), ⟨0, rfl, hh11, Or.inr ⟨rfl, Cod.dif hx.2.2.2.2.1 hy.2.2.2.2.1 hcd⟩⟩, fun fs hl => c13.trans (X11.ireturnOut hexec hret rfl (Or.inr (Or.inl rfl)) (hb hbytes d55) hl)⟩
theorem pays {l : Launch} {R : Room} {p : Program} {e : Env} {below : List Frame} {s : State} {sargs : Array Value} {len W : Nat} (x t : Addr) (V : Cell) (cd : Int32) (n : Nat) (f : Nat → Int32) (y t' : Addr) (V' : Cell) (cd' : Int32) (k : Nat) (g : Nat → Int32) (z : Int32) (htab : tab.before sargs s = true) (hfr : 2 ≤ R.frames) (hlo : W + 28 ≤ R.locals) :
    Back l R p e below s sargs yN len W (fun A₁ a₁ => A₁.cells + 0 ≤ R.cells ∧ A₁.slots + 0 ≤ R.slots ∧ P x t V cd n f y t' V' cd' k g z a₁ A₁.U) (fun A₁ _ v₁ B₁ => Says01 (SameT n f k g) v₁ A₁.U B₁.U ∧ B₁.locs = A₁.locs ++ [] ∧ B₁.cells = A₁.cells + 0 ∧ B₁.slots = A₁.slots + 0) :=
  (law l x t V cd n f y t' V' cd' k g z).pays htab hfr (by omega)
end SEq
end StrChars
namespace StrChars.Road
open Jvm Sem ClassFile Op Lib Jvm.Stand Jvm.Free Jvm.Free.XT
open Jvm.Lib.Cold (StaticIs)
/-- the words of String.equals(Object) -/
abbrev wordsEq : List Jvm.Cond := [.code SEq.yN SEq.yB 3 (some .boolean), .initialized ST, .classLink ST 10 ST, .fieldLink ST 38 ST "COMPACT_STRINGS" "Z", .fieldLink ST 15 ST "coder" "B", .fieldLink ST 9 ST "value" "[B", .methodLink ST 541 LEq.yN, .static LEq.yN, .code LEq.yN LEq.yB 3 (some .boolean), .initialized "java/lang/StringLatin1"]
theorem tabEq_of {a : Array Value} {s : State} (h : ∀ w ∈ wordsEq, w.before a s = true) : SEq.tab.before a s = true := by
  have hl : LEq.tab.before a s = true := unparts (wk h (.code LEq.yN LEq.yB 3 (some .boolean))) (wks h (.initialized LEq.yN.cls :: LEq.site))
  have q := consq hl h
  exact unparts (wk q (.code SEq.yN SEq.yB 3 (some .boolean))) (wks q (.initialized SEq.yN.cls :: SEq.site))
theorem movedEq {Z s : State} {a0 args : Array Value} (hZ : Z.Warmed39 s.vm) (hw : ∀ d ∈ wordsEq, d.before a0 Z = true) : ∀ d ∈ wordsEq, d.before args s = true := fun d hd => by
  have t : ∀ d ∈ wordsEq, (d.onTables && d.keepsFace) = true := by decide +kernel
  exact RoadKit.mv hZ (hw d hd) (t d hd)
/-- the road's facts of a String, as the laws ask it -/
theorem txt_of {Z U : State} {a0 : Array Value} {kI : Nat} (wi : (Jvm.Cond.instantiable ST kI).before a0 Z = true) (al : Z.vm.Alike U.vm) {x t : Addr} {kb : ClassId} {cs : List Int32} {cd N2 : Int32} {vs : List Value} (E : RoadKit.Exa Z U.heap x ST) (V : RoadKit.Fld Z U.heap x ST "value" "[B" (.ref t)) (C : RoadKit.Fld Z U.heap x ST "coder" "B" (.int cd)) (K : RoadKit.Arv Z U.heap t kb .byte N2 vs (.int 0)) (hc : CodA cs cd N2 vs) (hb : ∀ c ∈ cs, ¬ c < 0 ∧ ¬ (65535 : Int32) < c) (l2 : cs.length ≤ 4000) :
    ∃ A, Txt x t A cd cs.length (fun j => cs.getD j 0) U := by
  obtain ⟨A, K1, K2, K3, K4, K5, K6⟩ := K
  have hcod := hc.cod (by omega) K3 K5
  obtain ⟨D, fV, fC, hB, F1, F2, g1, g2, -, -⟩ := strObj wi al E V C
  exact ⟨A, ⟨_, hB.2.2.1, D, hB.1, rfl, by cases q : D.vm <;> first | rfl | exact absurd q (hB.2.1.2 _)⟩, Has.of hB F1 g1, Has.of hB F2 g2, ⟨K1.1, State.isArrayOf_alike al K1.2.1, K1.2.2, by rcases hcod with ⟨-, q, -⟩ | ⟨-, q, -⟩ <;> omega⟩, hcod, fun j hj => by
    have e : cs.getD j 0 = cs[j] := by simp [List.getD_eq_getElem?_getD, hj]
    show ¬ cs.getD j 0 < 0 ∧ ¬ 65535 < cs.getD j 0
    rw [e]; exact hb _ (List.getElem_mem _)⟩
theorem same_list (cs ds : List Int32) : SameT cs.length (fun j => cs.getD j 0) ds.length (fun j => ds.getD j 0) ↔ cs = ds := by
  constructor
  · rintro ⟨e, q⟩
    refine List.ext_getElem e fun j h1 h2 => ?_
    have := q j h1
    simpa [List.getD_eq_getElem?_getD, h1, h2] using this
  · rintro rfl
    exact ⟨rfl, fun _ _ => rfl⟩
/-- **equals(Object) OF TWO SUCH STRINGS**: 1 just where the chars are the same -/
theorem eqW {p : Program} {l : Launch} {e : Env} {R : Room} {s : State} {args : Array Value} {below : List Frame} {len W : Nat} {Z : State} {a0 : Array Value} {h : Heap} (hZ : Z.Warmed39 s.vm) (hw : ∀ d ∈ wordsEq, d.before a0 Z = true) {kI : Nat} (wi : (Jvm.Cond.instantiable ST kI).before a0 Z = true)
    {x t : Addr} {kb : ClassId} {cs : List Int32} {cd N2 : Int32} {vs : List Value} (E : RoadKit.Exa Z h x ST) (V : RoadKit.Fld Z h x ST "value" "[B" (.ref t)) (C : RoadKit.Fld Z h x ST "coder" "B" (.int cd)) (K : RoadKit.Arv Z h t kb .byte N2 vs (.int 0)) (hc : CodA cs cd N2 vs) (hb : ∀ c ∈ cs, ¬ c < 0 ∧ ¬ (65535 : Int32) < c) (l2 : cs.length ≤ 4000)
    {y t' : Addr} {kb' : ClassId} {ds : List Int32} {cd' N2' : Int32} {vs' : List Value} (E' : RoadKit.Exa Z h y ST) (V' : RoadKit.Fld Z h y ST "value" "[B" (.ref t')) (C' : RoadKit.Fld Z h y ST "coder" "B" (.int cd')) (K' : RoadKit.Arv Z h t' kb' .byte N2' vs' (.int 0)) (hc' : CodA ds cd' N2' vs') (hb' : ∀ c ∈ ds, ¬ c < 0 ∧ ¬ (65535 : Int32) < c) (l2' : ds.length ≤ 4000)
    {z : Int32} (S : RoadKit.Sta Z h ST "COMPACT_STRINGS" "Z" (.int z)) (hz : ¬ z = 0) (hfr : 2 ≤ R.frames) (hlo : W + 28 ≤ R.locals) :
    Back l R p e below s args (⟨"java/lang/String", "equals", "(Ljava/lang/Object;)Z"⟩ : MethodName) len W (fun P a => a = #[.ref x, .ref y] ∧ P.U.heap = h ∧ P.cells + 0 ≤ R.cells ∧ P.slots + 0 ≤ R.slots)
      (fun P _ v B => ∃ L, (((v = some (.int 1) ∧ cs = ds) ∨ (v = some (.int 0) ∧ ¬ cs = ds)) ∧ L = [] ∧ B.U.heap = h) ∧ B.locs = P.locs ++ L ∧ B.cells = P.cells + 0 ∧ B.slots = P.slots + 0) := by
  intro m meth c P g ig mk a X hg hsize hdg hW hn hp'
  obtain ⟨rfl, rfl, r1, r2⟩ := hp'
  have al : Z.vm.Alike P.U.vm := hZ.alike.trans X.warmed.alike
  obtain ⟨A, hx⟩ := txt_of wi al E V C K hc hb l2
  obtain ⟨A', hy⟩ := txt_of wi al E' V' C' K' hc' hb' l2'
  obtain ⟨v, B, X', ⟨⟨w, hv, hh, hq⟩, hl, hk, hs⟩, st⟩ := SEq.pays x t A cd cs.length (fun j => cs.getD j 0) y t' A' cd' ds.length (fun j => ds.getD j 0) z (tabEq_of (movedEq hZ hw)) hfr hlo m meth c P g ig mk _ X hg hsize hdg hW hn ⟨r1, r2, rfl, hx, hy, sta_is al S, hz⟩
  refine ⟨v, B, X', ⟨[], ⟨?_, rfl, hh⟩, hl, hk, hs⟩, st⟩
  rcases hq with ⟨rfl, q⟩ | ⟨rfl, q⟩
  · exact Or.inl ⟨hv, (same_list cs ds).mp q⟩
  · exact Or.inr ⟨hv, fun e => q ((same_list cs ds).mpr e)⟩
end StrChars.Road
namespace StrChars.Road
open Jvm Sem ClassFile Op Lib Jvm.Stand Jvm.Free Jvm.Free.XT
open Jvm.Lib.Cold (StaticIs)
/-- what backV says of its String, as the contracts of this text ask it: cs's low bytes, coder 0 -/
theorem codOf {cs : List Int32} {n : Nat} (hn : cs.length = n) (hb : ∀ c ∈ cs, ¬ 255 < c) : CodA cs 0 (Int32.ofNat n) ((cs.map lo8).map Value.int) := Or.inl ⟨rfl, by rw [hn], by simp [List.map_map, Function.comp_def], hb⟩
end StrChars.Road
end Jvm.Pilot.@@N@@
namespace Jvm.Pilot.@@N@@
open Jvm Jvm.ClassFile Sem Op Lib Jvm.Free Jvm.Stand Jvm.LawKit Jvm.RoadKit Bundle Jvm.Pilot.@@N@@.Jvm.D
section OwnKit
variable {p : Program} {l : Launch} {e : Env} {R : Room} {s : State} {m : MethodId} {args : Array Value} {below : List Frame} {meth : Method} {c : Code} {T : State} {locs : List Loc} {cells slots : Nat} {Z : State} {a0 : Array Value} {h : Heap} {n0 kc ks : Nat} {FE : Outcome → State → List Loc → Prop} {Q : Option Value → Heap → Prop} {pc pc' : Nat} {Ls Ls' : Array Slot} {st : List Value}
/-- from the state S the run comes back to its caller with what Q says, having written nothing below n0 -/
def Goes (p : Program) (e : Env) (below : List Frame) (FE : Outcome → State → List Loc → Prop) (n0 : Nat) (Q : Option Value → Heap → Prop) (S : State) : Prop :=
  ∃ s₂ o, Steps p.tables e below S s₂ ∧ s₂.status = .running ∧ Ended s₂ below o ∧ ∃ v L, o = .returned v ∧ (Fr n0 L ∧ Q v s₂.heap) ∧ FE o s₂ L
/-- the contract of a body -/
def Meets (l : Launch) (y : MethodName) (bytes : ByteArray) (maxL : Nat) (ret : Option FieldType) (ws : List Jvm.Cond) (rm : Room) (kc ks : Nat) (Z : State) (as' : Array Value) (h : Heap) (n0 : Nat) (Q : Option Value → Heap → Prop) : Prop :=
  MetFree l y (head1 (Jvm.Cond.code y bytes maxL ret :: ws) rm) (fun a U => a = as' ∧ Z.Warmed39 U.vm ∧ U.heap = h) (fun _ _ _ _ _ => True) (fun _ U o U' => ∃ v L, o = .returned v ∧ (Fr n0 L ∧ Q v U'.heap) ∧ FrameEnd U o U' L kc ks)
theorem Goes.via {S S' : State} (f : ∀ t, Steps p.tables e below S' t → Steps p.tables e below S t) (g : Goes p e below FE n0 Q S') : Goes p e below FE n0 Q S := by
  obtain ⟨s₂, o, k, r⟩ := g
  exact ⟨s₂, o, f _ k, r⟩
theorem Goes.ret {S : State} {v : Option Value} (X : Stand p l e R s m args below meth c T locs cells slots) (N : Fr n0 locs) (hlk : meth.locks = false) (hv : meth.sig.returnType = none → v = none) (hc : cells ≤ kc) (hs : slots ≤ ks) (hq : Q v T.heap)
    (f : ∀ fs, (∀ (f : JFrame) (acts : List Action), f.method = m → f.locked = none → f.entered = [] → (doReturn e (T.setTop f) acts v).1 = T.setFrames fs) → Steps p.tables e below S (T.setFrames fs)) : Goes p e below (fun o t L => FrameEnd s o t L kc ks) n0 Q S := by
  obtain ⟨fs, hr, hrun, hended, hW, hsame⟩ := X.leave hv hlk
  exact ⟨_, _, f fs hr, hrun, hended, _, _, rfl, ⟨N, hq⟩, ⟨_, rfl⟩, hW, hsame.mono hc hs⟩
theorem own_sz (O : Old Z n0 h) : n0 ≤ h.size := O.1 ▸ O.2.1
theorem Meets.of {y : MethodName} {bytes : ByteArray} {maxL : Nat} {ret : Option FieldType} {ws : List Jvm.Cond} {rm : Room} {as' : Array Value} (hx : plainFor y = true) {F : MethodId → JFrame} (hF : ∀ m, entryFrame m as' maxL = F m)
    (body : ∀ p e s m below meth c T, p.tables.exec = Jvm.exec → c.code = bytes → c.maxLocals = maxL → s.vm.findClass y.cls = some m.cls → meth.name = y.name → meth.sig.returnType = ret → meth.locks = false → Z.Warmed39 s.vm →
      Stand p l e rm s m as' below meth c T [] 0 0 → T.heap = h → Goes p e below (fun o t L => FrameEnd s o t L kc ks) n0 Q (T.setTop (F m))) :
    Meets l y bytes maxL ret ws rm kc ks Z as' h n0 Q := by
  refine MetFree.of_bodySF hx hisR ?_
  intro p e s m args below meth c s₁ Bd hml hP hK
  obtain ⟨rfl, hZ, hh⟩ := hP
  have X0 : Stand p l e rm s m args below meth c s₁ [] 0 0 := Stand.of_body Bd
  have e0 : s₁.heap = h := by rw [← hh, Bd.state]; rfl
  obtain ⟨s₂, o, k, r⟩ := body p e s m below meth c s₁ Bd.exec Bd.bytes hml (findClass_of_methodNamed Bd.named) (name_of_methodNamed Bd.named Bd.method).1 Bd.returns Bd.notSynchronized hZ X0 e0
  exact ⟨s₂, o, castTop (hF m) k, r⟩
theorem own_iloadN (X : Stand p l e R s m args below meth c T locs cells slots) (hx : p.tables.exec = Jvm.exec) {k : Fin 4} {v : Int32} (hd : decode c.code pc = .ok (.iload_n k, 1)) (hl : Ls[k.val]? = some (.val (.int v)))
    (g : Goes p e below FE n0 Q (T.setTop (mkF m (pc + 1) Ls (.int v :: st)))) : Goes p e below FE n0 Q (T.setTop (mkF m pc Ls st)) :=
  Goes.via (fun _ k => XS.iloadN X.here hx rfl hd hl k) g
theorem own_iload (X : Stand p l e R s m args below meth c T locs cells slots) (hx : p.tables.exec = Jvm.exec) {k : Nat} {v : Int32} (hd : decode c.code pc = .ok (.iload k, 2)) (hl : Ls[k]? = some (.val (.int v)))
    (g : Goes p e below FE n0 Q (T.setTop (mkF m (pc + 2) Ls (.int v :: st)))) : Goes p e below FE n0 Q (T.setTop (mkF m pc Ls st)) :=
  Goes.via (fun _ k => XS.iload X.here hx rfl hd hl k) g
theorem own_istoreN (X : Stand p l e R s m args below meth c T locs cells slots) (hx : p.tables.exec = Jvm.exec) {k : Fin 4} {x : Int32} (hd : decode c.code pc = .ok (.istore_n k, 1)) (hl : storeLocals Ls k.val (.int x) = some Ls')
    (g : Goes p e below FE n0 Q (T.setTop (mkF m (pc + 1) Ls' st))) : Goes p e below FE n0 Q (T.setTop (mkF m pc Ls (.int x :: st))) :=
  Goes.via (fun _ k => XS.istoreN X.here hx rfl hd rfl hl k) g
theorem own_istore (X : Stand p l e R s m args below meth c T locs cells slots) (hx : p.tables.exec = Jvm.exec) {k : Nat} {x : Int32} (hd : decode c.code pc = .ok (.istore k, 2)) (hl : storeLocals Ls k (.int x) = some Ls')
    (g : Goes p e below FE n0 Q (T.setTop (mkF m (pc + 2) Ls' st))) : Goes p e below FE n0 Q (T.setTop (mkF m pc Ls (.int x :: st))) :=
  Goes.via (fun _ k => XS.istore X.here hx rfl hd rfl hl k) g
theorem own_lloadN (X : Stand p l e R s m args below meth c T locs cells slots) (hx : p.tables.exec = Jvm.exec) {k : Fin 4} {v : Int64} (hd : decode c.code pc = .ok (.lload_n k, 1)) (hl : Ls[k.val]? = some (.val (.long v)))
    (g : Goes p e below FE n0 Q (T.setTop (mkF m (pc + 1) Ls (.long v :: st)))) : Goes p e below FE n0 Q (T.setTop (mkF m pc Ls st)) :=
  Goes.via (fun _ k => XS.lloadN X.here hx rfl hd hl k) g
theorem own_lload (X : Stand p l e R s m args below meth c T locs cells slots) (hx : p.tables.exec = Jvm.exec) {k : Nat} {v : Int64} (hd : decode c.code pc = .ok (.lload k, 2)) (hl : Ls[k]? = some (.val (.long v)))
    (g : Goes p e below FE n0 Q (T.setTop (mkF m (pc + 2) Ls (.long v :: st)))) : Goes p e below FE n0 Q (T.setTop (mkF m pc Ls st)) :=
  Goes.via (fun _ k => XS.lload X.here hx rfl hd hl k) g
theorem own_lstoreN (X : Stand p l e R s m args below meth c T locs cells slots) (hx : p.tables.exec = Jvm.exec) {k : Fin 4} {x : Int64} (hd : decode c.code pc = .ok (.lstore_n k, 1)) (hl : storeLocals Ls k.val (.long x) = some Ls')
    (g : Goes p e below FE n0 Q (T.setTop (mkF m (pc + 1) Ls' st))) : Goes p e below FE n0 Q (T.setTop (mkF m pc Ls (.long x :: st))) :=
  Goes.via (fun _ k => XS.lstoreN X.here hx rfl hd rfl hl k) g
theorem own_lstore (X : Stand p l e R s m args below meth c T locs cells slots) (hx : p.tables.exec = Jvm.exec) {k : Nat} {x : Int64} (hd : decode c.code pc = .ok (.lstore k, 2)) (hl : storeLocals Ls k (.long x) = some Ls')
    (g : Goes p e below FE n0 Q (T.setTop (mkF m (pc + 2) Ls' st))) : Goes p e below FE n0 Q (T.setTop (mkF m pc Ls (.long x :: st))) :=
  Goes.via (fun _ k => XS.lstore X.here hx rfl hd rfl hl k) g
theorem own_aloadN (X : Stand p l e R s m args below meth c T locs cells slots) (hx : p.tables.exec = Jvm.exec) {k : Fin 4} {v : Value} (hd : decode c.code pc = .ok (.aload_n k, 1)) (hl : Ls[k.val]? = some (.val v)) (hv : v.isRef = true)
    (g : Goes p e below FE n0 Q (T.setTop (mkF m (pc + 1) Ls (v :: st)))) : Goes p e below FE n0 Q (T.setTop (mkF m pc Ls st)) :=
  Goes.via (fun _ k => XS.aloadN X.here hx rfl hd hl hv k) g
theorem own_aload (X : Stand p l e R s m args below meth c T locs cells slots) (hx : p.tables.exec = Jvm.exec) {k : Nat} {v : Value} (hd : decode c.code pc = .ok (.aload k, 2)) (hl : Ls[k]? = some (.val v)) (hv : v.isRef = true)
    (g : Goes p e below FE n0 Q (T.setTop (mkF m (pc + 2) Ls (v :: st)))) : Goes p e below FE n0 Q (T.setTop (mkF m pc Ls st)) :=
  Goes.via (fun _ k => XS.aload X.here hx rfl hd hl hv k) g
theorem own_astoreN (X : Stand p l e R s m args below meth c T locs cells slots) (hx : p.tables.exec = Jvm.exec) {k : Fin 4} {x : Value} (hd : decode c.code pc = .ok (.astore_n k, 1)) (hv : x.isRef = true) (hl : storeLocals Ls k.val x = some Ls')
    (g : Goes p e below FE n0 Q (T.setTop (mkF m (pc + 1) Ls' st))) : Goes p e below FE n0 Q (T.setTop (mkF m pc Ls (x :: st))) :=
  Goes.via (fun _ k => XS.astoreN X.here hx rfl hd rfl hv hl k) g
theorem own_astore (X : Stand p l e R s m args below meth c T locs cells slots) (hx : p.tables.exec = Jvm.exec) {k : Nat} {x : Value} (hd : decode c.code pc = .ok (.astore k, 2)) (hv : x.isRef = true) (hl : storeLocals Ls k x = some Ls')
    (g : Goes p e below FE n0 Q (T.setTop (mkF m (pc + 2) Ls' st))) : Goes p e below FE n0 Q (T.setTop (mkF m pc Ls (x :: st))) :=
  Goes.via (fun _ k => XS.astore X.here hx rfl hd rfl hv hl k) g
theorem own_iconst (X : Stand p l e R s m args below meth c T locs cells slots) (hx : p.tables.exec = Jvm.exec) {i : Int} {v : Int32} (hd : decode c.code pc = .ok (.iconst i, 1)) (hv : Int32.ofInt i = v)
    (g : Goes p e below FE n0 Q (T.setTop (mkF m (pc + 1) Ls (.int v :: st)))) : Goes p e below FE n0 Q (T.setTop (mkF m pc Ls st)) := by
  subst hv
  exact Goes.via (fun _ k => XS.iconst X.here hx rfl hd k) g
theorem own_bipush (X : Stand p l e R s m args below meth c T locs cells slots) (hx : p.tables.exec = Jvm.exec) {i : Int} {v : Int32} (hd : decode c.code pc = .ok (.bipush i, 2)) (hv : (Int8.ofInt i).toInt32 = v)
    (g : Goes p e below FE n0 Q (T.setTop (mkF m (pc + 2) Ls (.int v :: st)))) : Goes p e below FE n0 Q (T.setTop (mkF m pc Ls st)) := by
  subst hv
  exact Goes.via (fun _ k => XS.bipush X.here hx rfl hd k) g
theorem own_sipush (X : Stand p l e R s m args below meth c T locs cells slots) (hx : p.tables.exec = Jvm.exec) {i : Int} {v : Int32} (hd : decode c.code pc = .ok (.sipush i, 3)) (hv : (Int16.ofInt i).toInt32 = v)
    (g : Goes p e below FE n0 Q (T.setTop (mkF m (pc + 3) Ls (.int v :: st)))) : Goes p e below FE n0 Q (T.setTop (mkF m pc Ls st)) := by
  subst hv
  exact Goes.via (fun _ k => XS.sipush X.here hx rfl hd k) g
theorem own_lconst (X : Stand p l e R s m args below meth c T locs cells slots) (hx : p.tables.exec = Jvm.exec) {i : Fin 2} {v : Int64} (hd : decode c.code pc = .ok (.lconst i, 1)) (hv : Int64.ofNat i = v)
    (g : Goes p e below FE n0 Q (T.setTop (mkF m (pc + 1) Ls (.long v :: st)))) : Goes p e below FE n0 Q (T.setTop (mkF m pc Ls st)) := by
  subst hv
  exact Goes.via (fun _ k => XS.lconst X.here hx rfl hd k) g
theorem own_aconst_null (X : Stand p l e R s m args below meth c T locs cells slots) (hx : p.tables.exec = Jvm.exec)  (hd : decode c.code pc = .ok (.aconst_null, 1))
    (g : Goes p e below FE n0 Q (T.setTop (mkF m (pc + 1) Ls (.null :: st)))) : Goes p e below FE n0 Q (T.setTop (mkF m pc Ls st)) :=
  Goes.via (fun _ k => XS.aconstNull X.here hx rfl hd k) g
theorem own_iadd (X : Stand p l e R s m args below meth c T locs cells slots) (hx : p.tables.exec = Jvm.exec) {x y : Int32} (hd : decode c.code pc = .ok (.iadd, 1))
    (g : Goes p e below FE n0 Q (T.setTop (mkF m (pc + 1) Ls (.int (x + y) :: st)))) : Goes p e below FE n0 Q (T.setTop (mkF m pc Ls (.int y :: .int x :: st))) :=
  Goes.via (fun _ k => XS.iadd X.here hx rfl hd rfl k) g
theorem own_isub (X : Stand p l e R s m args below meth c T locs cells slots) (hx : p.tables.exec = Jvm.exec) {x y : Int32} (hd : decode c.code pc = .ok (.isub, 1))
    (g : Goes p e below FE n0 Q (T.setTop (mkF m (pc + 1) Ls (.int (x - y) :: st)))) : Goes p e below FE n0 Q (T.setTop (mkF m pc Ls (.int y :: .int x :: st))) :=
  Goes.via (fun _ k => XS.isub X.here hx rfl hd rfl k) g
theorem own_imul (X : Stand p l e R s m args below meth c T locs cells slots) (hx : p.tables.exec = Jvm.exec) {x y : Int32} (hd : decode c.code pc = .ok (.imul, 1))
    (g : Goes p e below FE n0 Q (T.setTop (mkF m (pc + 1) Ls (.int (x * y) :: st)))) : Goes p e below FE n0 Q (T.setTop (mkF m pc Ls (.int y :: .int x :: st))) :=
  Goes.via (fun _ k => XS.imul X.here hx rfl hd rfl k) g
theorem own_iand (X : Stand p l e R s m args below meth c T locs cells slots) (hx : p.tables.exec = Jvm.exec) {x y : Int32} (hd : decode c.code pc = .ok (.iand, 1))
    (g : Goes p e below FE n0 Q (T.setTop (mkF m (pc + 1) Ls (.int (x &&& y) :: st)))) : Goes p e below FE n0 Q (T.setTop (mkF m pc Ls (.int y :: .int x :: st))) :=
  Goes.via (fun _ k => XS.iand X.here hx rfl hd rfl k) g
theorem own_ior (X : Stand p l e R s m args below meth c T locs cells slots) (hx : p.tables.exec = Jvm.exec) {x y : Int32} (hd : decode c.code pc = .ok (.ior, 1))
    (g : Goes p e below FE n0 Q (T.setTop (mkF m (pc + 1) Ls (.int (x ||| y) :: st)))) : Goes p e below FE n0 Q (T.setTop (mkF m pc Ls (.int y :: .int x :: st))) :=
  Goes.via (fun _ k => XS.ior X.here hx rfl hd rfl k) g
theorem own_ixor (X : Stand p l e R s m args below meth c T locs cells slots) (hx : p.tables.exec = Jvm.exec) {x y : Int32} (hd : decode c.code pc = .ok (.ixor, 1))
    (g : Goes p e below FE n0 Q (T.setTop (mkF m (pc + 1) Ls (.int (x ^^^ y) :: st)))) : Goes p e below FE n0 Q (T.setTop (mkF m pc Ls (.int y :: .int x :: st))) :=
  Goes.via (fun _ k => XS.ixor X.here hx rfl hd rfl k) g
theorem own_idiv (X : Stand p l e R s m args below meth c T locs cells slots) (hx : p.tables.exec = Jvm.exec) {x y : Int32} (hd : decode c.code pc = .ok (.idiv, 1)) (hy : y ≠ 0)
    (g : Goes p e below FE n0 Q (T.setTop (mkF m (pc + 1) Ls (.int (x / y) :: st)))) : Goes p e below FE n0 Q (T.setTop (mkF m pc Ls (.int y :: .int x :: st))) :=
  Goes.via (fun _ k => XS.idiv X.here hx rfl hd rfl hy k) g
theorem own_ineg (X : Stand p l e R s m args below meth c T locs cells slots) (hx : p.tables.exec = Jvm.exec) {x : Int32} (hd : decode c.code pc = .ok (.ineg, 1))
    (g : Goes p e below FE n0 Q (T.setTop (mkF m (pc + 1) Ls (.int (-x) :: st)))) : Goes p e below FE n0 Q (T.setTop (mkF m pc Ls (.int x :: st))) :=
  Goes.via (fun _ k => XS.ineg X.here hx rfl hd rfl k) g
theorem own_ladd (X : Stand p l e R s m args below meth c T locs cells slots) (hx : p.tables.exec = Jvm.exec) {x y : Int64} (hd : decode c.code pc = .ok (.ladd, 1))
    (g : Goes p e below FE n0 Q (T.setTop (mkF m (pc + 1) Ls (.long (x + y) :: st)))) : Goes p e below FE n0 Q (T.setTop (mkF m pc Ls (.long y :: .long x :: st))) :=
  Goes.via (fun _ k => XS.ladd X.here hx rfl hd rfl k) g
theorem own_lsub (X : Stand p l e R s m args below meth c T locs cells slots) (hx : p.tables.exec = Jvm.exec) {x y : Int64} (hd : decode c.code pc = .ok (.lsub, 1))
    (g : Goes p e below FE n0 Q (T.setTop (mkF m (pc + 1) Ls (.long (x - y) :: st)))) : Goes p e below FE n0 Q (T.setTop (mkF m pc Ls (.long y :: .long x :: st))) :=
  Goes.via (fun _ k => XS.lsub X.here hx rfl hd rfl k) g
theorem own_lmul (X : Stand p l e R s m args below meth c T locs cells slots) (hx : p.tables.exec = Jvm.exec) {x y : Int64} (hd : decode c.code pc = .ok (.lmul, 1))
    (g : Goes p e below FE n0 Q (T.setTop (mkF m (pc + 1) Ls (.long (x * y) :: st)))) : Goes p e below FE n0 Q (T.setTop (mkF m pc Ls (.long y :: .long x :: st))) :=
  Goes.via (fun _ k => XS.lmul X.here hx rfl hd rfl k) g
theorem own_land (X : Stand p l e R s m args below meth c T locs cells slots) (hx : p.tables.exec = Jvm.exec) {x y : Int64} (hd : decode c.code pc = .ok (.land, 1))
    (g : Goes p e below FE n0 Q (T.setTop (mkF m (pc + 1) Ls (.long (x &&& y) :: st)))) : Goes p e below FE n0 Q (T.setTop (mkF m pc Ls (.long y :: .long x :: st))) :=
  Goes.via (fun _ k => XS.land X.here hx rfl hd rfl k) g
theorem own_lor (X : Stand p l e R s m args below meth c T locs cells slots) (hx : p.tables.exec = Jvm.exec) {x y : Int64} (hd : decode c.code pc = .ok (.lor, 1))
    (g : Goes p e below FE n0 Q (T.setTop (mkF m (pc + 1) Ls (.long (x ||| y) :: st)))) : Goes p e below FE n0 Q (T.setTop (mkF m pc Ls (.long y :: .long x :: st))) :=
  Goes.via (fun _ k => XS.lor X.here hx rfl hd rfl k) g
theorem own_lxor (X : Stand p l e R s m args below meth c T locs cells slots) (hx : p.tables.exec = Jvm.exec) {x y : Int64} (hd : decode c.code pc = .ok (.lxor, 1))
    (g : Goes p e below FE n0 Q (T.setTop (mkF m (pc + 1) Ls (.long (x ^^^ y) :: st)))) : Goes p e below FE n0 Q (T.setTop (mkF m pc Ls (.long y :: .long x :: st))) :=
  Goes.via (fun _ k => XS.lxor X.here hx rfl hd rfl k) g
theorem own_ldiv (X : Stand p l e R s m args below meth c T locs cells slots) (hx : p.tables.exec = Jvm.exec) {x y : Int64} (hd : decode c.code pc = .ok (.ldiv, 1)) (hy : y ≠ 0)
    (g : Goes p e below FE n0 Q (T.setTop (mkF m (pc + 1) Ls (.long (x / y) :: st)))) : Goes p e below FE n0 Q (T.setTop (mkF m pc Ls (.long y :: .long x :: st))) :=
  Goes.via (fun _ k => XS.ldiv X.here hx rfl hd rfl hy k) g
theorem own_lneg (X : Stand p l e R s m args below meth c T locs cells slots) (hx : p.tables.exec = Jvm.exec) {x : Int64} (hd : decode c.code pc = .ok (.lneg, 1))
    (g : Goes p e below FE n0 Q (T.setTop (mkF m (pc + 1) Ls (.long (-x) :: st)))) : Goes p e below FE n0 Q (T.setTop (mkF m pc Ls (.long x :: st))) :=
  Goes.via (fun _ k => XS.lneg X.here hx rfl hd rfl k) g
theorem own_irem (X : Stand p l e R s m args below meth c T locs cells slots) (hx : p.tables.exec = Jvm.exec) {x y : Int32} (hd : decode c.code pc = .ok (.irem, 1)) (hy : y ≠ 0)
    (g : Goes p e below FE n0 Q (T.setTop (mkF m (pc + 1) Ls (.int (x % y) :: st)))) : Goes p e below FE n0 Q (T.setTop (mkF m pc Ls (.int y :: .int x :: st))) :=
  Goes.via (fun _ k => iremM (g := mkF m pc Ls (.int y :: .int x :: st)) X hx rfl hd rfl hy k) g
theorem own_lrem (X : Stand p l e R s m args below meth c T locs cells slots) (hx : p.tables.exec = Jvm.exec) {x y : Int64} (hd : decode c.code pc = .ok (.lrem, 1)) (hy : y ≠ 0)
    (g : Goes p e below FE n0 Q (T.setTop (mkF m (pc + 1) Ls (.long (x % y) :: st)))) : Goes p e below FE n0 Q (T.setTop (mkF m pc Ls (.long y :: .long x :: st))) := by
  rw [← lrem_mod] at g
  exact Goes.via (fun _ k => XS.lrem X.here hx rfl hd rfl hy k) g
theorem own_ishl (X : Stand p l e R s m args below meth c T locs cells slots) (hx : p.tables.exec = Jvm.exec) {x y : Int32} (hd : decode c.code pc = .ok (.ishl, 1))
    (g : Goes p e below FE n0 Q (T.setTop (mkF m (pc + 1) Ls (.int (x <<< (y &&& 31)) :: st)))) : Goes p e below FE n0 Q (T.setTop (mkF m pc Ls (.int y :: .int x :: st))) :=
  Goes.via (fun _ k => XS.ishl X.here hx rfl hd rfl k) g
theorem own_ishr (X : Stand p l e R s m args below meth c T locs cells slots) (hx : p.tables.exec = Jvm.exec) {x y : Int32} (hd : decode c.code pc = .ok (.ishr, 1))
    (g : Goes p e below FE n0 Q (T.setTop (mkF m (pc + 1) Ls (.int (x >>> (y &&& 31)) :: st)))) : Goes p e below FE n0 Q (T.setTop (mkF m pc Ls (.int y :: .int x :: st))) :=
  Goes.via (fun _ k => XS.ishr X.here hx rfl hd rfl k) g
theorem own_iushr (X : Stand p l e R s m args below meth c T locs cells slots) (hx : p.tables.exec = Jvm.exec) {x y : Int32} (hd : decode c.code pc = .ok (.iushr, 1))
    (g : Goes p e below FE n0 Q (T.setTop (mkF m (pc + 1) Ls (.int ((x.toUInt32 >>> (y &&& 31).toUInt32).toInt32) :: st)))) : Goes p e below FE n0 Q (T.setTop (mkF m pc Ls (.int y :: .int x :: st))) :=
  Goes.via (fun _ k => XS.iushr X.here hx rfl hd rfl k) g
theorem own_lshl (X : Stand p l e R s m args below meth c T locs cells slots) (hx : p.tables.exec = Jvm.exec) {x : Int64} {y : Int32} (hd : decode c.code pc = .ok (.lshl, 1))
    (g : Goes p e below FE n0 Q (T.setTop (mkF m (pc + 1) Ls (.long (x <<< (y &&& 0x3f).toInt64) :: st)))) : Goes p e below FE n0 Q (T.setTop (mkF m pc Ls (.int y :: .long x :: st))) :=
  Goes.via (fun _ k => by jvm_step X.here [X.here.top, hx, hd]; first | exact k | simpa [mkF] using k) g
theorem own_lshr (X : Stand p l e R s m args below meth c T locs cells slots) (hx : p.tables.exec = Jvm.exec) {x : Int64} {y : Int32} (hd : decode c.code pc = .ok (.lshr, 1))
    (g : Goes p e below FE n0 Q (T.setTop (mkF m (pc + 1) Ls (.long (x >>> (y &&& 0x3f).toInt64) :: st)))) : Goes p e below FE n0 Q (T.setTop (mkF m pc Ls (.int y :: .long x :: st))) :=
  Goes.via (fun _ k => by jvm_step X.here [X.here.top, hx, hd]; first | exact k | simpa [mkF] using k) g
theorem own_lushr (X : Stand p l e R s m args below meth c T locs cells slots) (hx : p.tables.exec = Jvm.exec) {x : Int64} {y : Int32} (hd : decode c.code pc = .ok (.lushr, 1))
    (g : Goes p e below FE n0 Q (T.setTop (mkF m (pc + 1) Ls (.long ((x.toUInt64 >>> (y &&& 0x3f).toInt64.toUInt64).toInt64) :: st)))) : Goes p e below FE n0 Q (T.setTop (mkF m pc Ls (.int y :: .long x :: st))) :=
  Goes.via (fun _ k => by jvm_step X.here [X.here.top, hx, hd]; first | exact k | simpa [mkF] using k) g
theorem own_i2l (X : Stand p l e R s m args below meth c T locs cells slots) (hx : p.tables.exec = Jvm.exec) {x : Int32} (hd : decode c.code pc = .ok (.i2l, 1))
    (g : Goes p e below FE n0 Q (T.setTop (mkF m (pc + 1) Ls (.long (x.toInt64) :: st)))) : Goes p e below FE n0 Q (T.setTop (mkF m pc Ls (.int x :: st))) :=
  Goes.via (fun _ k => XS.i2l X.here hx rfl hd rfl k) g
theorem own_l2i (X : Stand p l e R s m args below meth c T locs cells slots) (hx : p.tables.exec = Jvm.exec) {x : Int64} (hd : decode c.code pc = .ok (.l2i, 1))
    (g : Goes p e below FE n0 Q (T.setTop (mkF m (pc + 1) Ls (.int (x.toInt32) :: st)))) : Goes p e below FE n0 Q (T.setTop (mkF m pc Ls (.long x :: st))) :=
  Goes.via (fun _ k => XS.l2i X.here hx rfl hd rfl k) g
theorem own_i2b (X : Stand p l e R s m args below meth c T locs cells slots) (hx : p.tables.exec = Jvm.exec) {x : Int32} (hd : decode c.code pc = .ok (.i2b, 1))
    (g : Goes p e below FE n0 Q (T.setTop (mkF m (pc + 1) Ls (.int (x.toInt8.toInt32) :: st)))) : Goes p e below FE n0 Q (T.setTop (mkF m pc Ls (.int x :: st))) :=
  Goes.via (fun _ k => XS.i2b X.here hx rfl hd rfl k) g
theorem own_i2s (X : Stand p l e R s m args below meth c T locs cells slots) (hx : p.tables.exec = Jvm.exec) {x : Int32} (hd : decode c.code pc = .ok (.i2s, 1))
    (g : Goes p e below FE n0 Q (T.setTop (mkF m (pc + 1) Ls (.int (x.toInt16.toInt32) :: st)))) : Goes p e below FE n0 Q (T.setTop (mkF m pc Ls (.int x :: st))) :=
  Goes.via (fun _ k => XS.i2s X.here hx rfl hd rfl k) g
theorem own_i2c (X : Stand p l e R s m args below meth c T locs cells slots) (hx : p.tables.exec = Jvm.exec) {x : Int32} (hd : decode c.code pc = .ok (.i2c, 1))
    (g : Goes p e below FE n0 Q (T.setTop (mkF m (pc + 1) Ls (.int (x.toUInt32.toUInt16.toUInt32.toInt32) :: st)))) : Goes p e below FE n0 Q (T.setTop (mkF m pc Ls (.int x :: st))) :=
  Goes.via (fun _ k => XS.i2c X.here hx rfl hd rfl k) g
theorem own_lcmp (X : Stand p l e R s m args below meth c T locs cells slots) (hx : p.tables.exec = Jvm.exec) {x y : Int64} (hd : decode c.code pc = .ok (.lcmp, 1))
    (g : Goes p e below FE n0 Q (T.setTop (mkF m (pc + 1) Ls (.int (lcmpW x y) :: st)))) : Goes p e below FE n0 Q (T.setTop (mkF m pc Ls (.long y :: .long x :: st))) :=
  Goes.via (fun _ k => XS.lcmp X.here hx rfl hd rfl k) g
theorem own_dup (X : Stand p l e R s m args below meth c T locs cells slots) (hx : p.tables.exec = Jvm.exec) {x : Value} (hd : decode c.code pc = .ok (.dup, 1)) (hc : x.category = 1)
    (g : Goes p e below FE n0 Q (T.setTop (mkF m (pc + 1) Ls (x :: x :: st)))) : Goes p e below FE n0 Q (T.setTop (mkF m pc Ls (x :: st))) :=
  Goes.via (fun _ k => XS.dup X.here hx rfl hd rfl hc k) g
theorem own_pop (X : Stand p l e R s m args below meth c T locs cells slots) (hx : p.tables.exec = Jvm.exec) {x : Value} (hd : decode c.code pc = .ok (.pop, 1)) (hc : x.category = 1)
    (g : Goes p e below FE n0 Q (T.setTop (mkF m (pc + 1) Ls st))) : Goes p e below FE n0 Q (T.setTop (mkF m pc Ls (x :: st))) :=
  Goes.via (fun _ k => XS.pop X.here hx rfl hd rfl hc k) g
theorem own_dup_x1 (X : Stand p l e R s m args below meth c T locs cells slots) (hx : p.tables.exec = Jvm.exec) {x y : Value} (hd : decode c.code pc = .ok (.dup_x1, 1)) (hc : x.category = 1) (hc' : y.category = 1)
    (g : Goes p e below FE n0 Q (T.setTop (mkF m (pc + 1) Ls (x :: y :: x :: st)))) : Goes p e below FE n0 Q (T.setTop (mkF m pc Ls (x :: y :: st))) :=
  Goes.via (fun _ k => XS.dupX1 X.here hx rfl hd rfl hc hc' k) g
theorem own_dup2 (X : Stand p l e R s m args below meth c T locs cells slots) (hx : p.tables.exec = Jvm.exec) {x y : Value} (hd : decode c.code pc = .ok (.dup2, 1)) (hc : x.category = 1) (hc' : y.category = 1)
    (g : Goes p e below FE n0 Q (T.setTop (mkF m (pc + 1) Ls (x :: y :: x :: y :: st)))) : Goes p e below FE n0 Q (T.setTop (mkF m pc Ls (x :: y :: st))) :=
  Goes.via (fun _ k => Jvm.Free.XT.dup2 X.here hx rfl hd rfl hc hc' k) g
theorem own_iinc (X : Stand p l e R s m args below meth c T locs cells slots) (hx : p.tables.exec = Jvm.exec) {k : Nat} {cst : Int} {x : Int32} (hd : decode c.code pc = .ok (.iinc k cst, 3)) (hl : Ls[k]? = some (.val (.int x))) (hl' : storeLocals Ls k (.int (x + Int32.ofInt cst)) = some Ls')
    (g : Goes p e below FE n0 Q (T.setTop (mkF m (pc + 3) Ls' st))) : Goes p e below FE n0 Q (T.setTop (mkF m pc Ls st)) :=
  Goes.via (fun _ k => XS.iinc X.here hx rfl hd hl hl' k) g
theorem own_goto (X : Stand p l e R s m args below meth c T locs cells slots) (hx : p.tables.exec = Jvm.exec) {o : Int} (hd : decode c.code pc = .ok (.goto o, 3)) (ho : 0 ≤ (pc : Int) + o) (hp : ((pc : Int) + o).toNat = pc')
    (g : Goes p e below FE n0 Q (T.setTop (mkF m pc' Ls st))) : Goes p e below FE n0 Q (T.setTop (mkF m pc Ls st)) :=
  Goes.via (fun _ k => XS.goto X.here hx rfl rfl hd ho hp k) g
theorem own_ifYes (X : Stand p l e R s m args below meth c T locs cells slots) (hx : p.tables.exec = Jvm.exec) {cd : ClassFile.Cond} {o : Int} {x : Int32} (hd : decode c.code pc = .ok (.ifCond cd o, 3)) (hc : ifCond.holds cd x = true) (ho : 0 ≤ (pc : Int) + o) (hp : ((pc : Int) + o).toNat = pc')
    (g : Goes p e below FE n0 Q (T.setTop (mkF m pc' Ls st))) : Goes p e below FE n0 Q (T.setTop (mkF m pc Ls (.int x :: st))) :=
  Goes.via (fun _ k => XS.ifYes X.here hx rfl rfl hd rfl hc ho hp k) g
theorem own_ifNo (X : Stand p l e R s m args below meth c T locs cells slots) (hx : p.tables.exec = Jvm.exec) {cd : ClassFile.Cond} {o : Int} {x : Int32} (hd : decode c.code pc = .ok (.ifCond cd o, 3)) (hc : ifCond.holds cd x = false)
    (g : Goes p e below FE n0 Q (T.setTop (mkF m (pc + 3) Ls st))) : Goes p e below FE n0 Q (T.setTop (mkF m pc Ls (.int x :: st))) :=
  Goes.via (fun _ k => XS.ifNo X.here hx rfl hd rfl hc k) g
theorem own_icmpYes (X : Stand p l e R s m args below meth c T locs cells slots) (hx : p.tables.exec = Jvm.exec) {cd : ClassFile.Cond} {o : Int} {x y : Int32} (hd : decode c.code pc = .ok (.if_icmp cd o, 3)) (hc : if_icmp.holds cd x y = true) (ho : 0 ≤ (pc : Int) + o) (hp : ((pc : Int) + o).toNat = pc')
    (g : Goes p e below FE n0 Q (T.setTop (mkF m pc' Ls st))) : Goes p e below FE n0 Q (T.setTop (mkF m pc Ls (.int y :: .int x :: st))) :=
  Goes.via (fun _ k => XS.icmpYes X.here hx rfl rfl hd rfl hc ho hp k) g
theorem own_icmpNo (X : Stand p l e R s m args below meth c T locs cells slots) (hx : p.tables.exec = Jvm.exec) {cd : ClassFile.Cond} {o : Int} {x y : Int32} (hd : decode c.code pc = .ok (.if_icmp cd o, 3)) (hc : if_icmp.holds cd x y = false)
    (g : Goes p e below FE n0 Q (T.setTop (mkF m (pc + 3) Ls st))) : Goes p e below FE n0 Q (T.setTop (mkF m pc Ls (.int y :: .int x :: st))) :=
  Goes.via (fun _ k => XS.icmpNo X.here hx rfl hd rfl hc k) g
theorem own_ifnullYes (X : Stand p l e R s m args below meth c T locs cells slots) (hx : p.tables.exec = Jvm.exec) {o : Int} (hd : decode c.code pc = .ok (.ifnull o, 3)) (ho : 0 ≤ (pc : Int) + o) (hp : ((pc : Int) + o).toNat = pc')
    (g : Goes p e below FE n0 Q (T.setTop (mkF m pc' Ls st))) : Goes p e below FE n0 Q (T.setTop (mkF m pc Ls (.null :: st))) :=
  Goes.via (fun _ k => XS.ifnullYes X.here hx rfl rfl hd rfl ho hp k) g
theorem own_ifnullNo (X : Stand p l e R s m args below meth c T locs cells slots) (hx : p.tables.exec = Jvm.exec) {o : Int} {b : Addr} (hd : decode c.code pc = .ok (.ifnull o, 3))
    (g : Goes p e below FE n0 Q (T.setTop (mkF m (pc + 3) Ls st))) : Goes p e below FE n0 Q (T.setTop (mkF m pc Ls (.ref b :: st))) :=
  Goes.via (fun _ k => XS.ifnullNo X.here hx rfl hd rfl k) g
theorem own_ifnonnullYes (X : Stand p l e R s m args below meth c T locs cells slots) (hx : p.tables.exec = Jvm.exec) {o : Int} {b : Addr} (hd : decode c.code pc = .ok (.ifnonnull o, 3)) (ho : 0 ≤ (pc : Int) + o) (hp : ((pc : Int) + o).toNat = pc')
    (g : Goes p e below FE n0 Q (T.setTop (mkF m pc' Ls st))) : Goes p e below FE n0 Q (T.setTop (mkF m pc Ls (.ref b :: st))) :=
  Goes.via (fun _ k => XS.ifnonnullYes X.here hx rfl rfl hd rfl ho hp k) g
theorem own_ifnonnullNo (X : Stand p l e R s m args below meth c T locs cells slots) (hx : p.tables.exec = Jvm.exec) {o : Int} (hd : decode c.code pc = .ok (.ifnonnull o, 3))
    (g : Goes p e below FE n0 Q (T.setTop (mkF m (pc + 3) Ls st))) : Goes p e below FE n0 Q (T.setTop (mkF m pc Ls (.null :: st))) :=
  Goes.via (fun _ k => XS.ifnonnullNo X.here hx rfl hd rfl k) g
theorem own_acmp (X : Stand p l e R s m args below meth c T locs cells slots) (hx : p.tables.exec = Jvm.exec) {cd : ACond} {x y : Value} {o : Int} {same : Bool} (h1 : x.isRef = true) (h2 : y.isRef = true) (hd : decode c.code pc = .ok (.if_acmp cd o, 3)) (hq : decide (x = y) = same) (ho : 0 ≤ (pc : Int) + o) (hp : pc' = if acV cd same = true then ((pc : Int) + o).toNat else pc + 3)
    (g : Goes p e below FE n0 Q (T.setTop (mkF m pc' Ls st))) : Goes p e below FE n0 Q (T.setTop (mkF m pc Ls (y :: x :: st))) :=
  Goes.via (fun _ k => Jvm.RoadKit.acmp (g := mkF m pc Ls (y :: x :: st)) X hx rfl h1 h2 rfl hd rfl hq ho hp k) g
theorem own_tswIn (X : Stand p l e R s m args below meth c T locs cells slots) (hx : p.tables.exec = Jvm.exec) {dflt low high : Int} {offs : Array Int} {len : Nat} {o : Int} {i : Int32} (hd : decode c.code pc = .ok (.tableswitch dflt low high offs, len)) (hin : ¬ (i.toInt < low ∨ i.toInt > high)) (hoff : offs[(i.toInt - low).toNat]? = some o) (ho : 0 ≤ (pc : Int) + o) (hp : ((pc : Int) + o).toNat = pc')
    (g : Goes p e below FE n0 Q (T.setTop (mkF m pc' Ls st))) : Goes p e below FE n0 Q (T.setTop (mkF m pc Ls (.int i :: st))) :=
  Goes.via (fun _ k => XS.tswIn X.here hx rfl rfl hd rfl hin hoff ho hp k) g
theorem own_tswOut (X : Stand p l e R s m args below meth c T locs cells slots) (hx : p.tables.exec = Jvm.exec) {dflt low high : Int} {offs : Array Int} {len : Nat} {i : Int32} (hd : decode c.code pc = .ok (.tableswitch dflt low high offs, len)) (hout : i.toInt < low ∨ i.toInt > high) (ho : 0 ≤ (pc : Int) + dflt) (hp : ((pc : Int) + dflt).toNat = pc')
    (g : Goes p e below FE n0 Q (T.setTop (mkF m pc' Ls st))) : Goes p e below FE n0 Q (T.setTop (mkF m pc Ls (.int i :: st))) :=
  Goes.via (fun _ k => XS.tswOut X.here hx rfl rfl hd rfl hout ho hp k) g
theorem own_ldcInt (X : Stand p l e R s m args below meth c T locs cells slots) (hx : p.tables.exec = Jvm.exec) (hZ : Z.Warmed39 s.vm) {own : String} {index : Nat} (hown : s.vm.findClass own = some m.cls) {v : Int32} (w : (Jvm.Cond.constant own index v).before a0 Z = true) (hd : decode c.code pc = .ok (.ldc index, 2))
    (g : Goes p e below FE n0 Q (T.setTop (mkF m (pc + 2) Ls (.int v :: st)))) : Goes p e below FE n0 Q (T.setTop (mkF m pc Ls st)) :=
  Goes.via (X.ldcInt hx hown (mvT hZ w) (g := mkF m pc Ls st) rfl hd) g
theorem own_ldcwInt (X : Stand p l e R s m args below meth c T locs cells slots) (hx : p.tables.exec = Jvm.exec) (hZ : Z.Warmed39 s.vm) {own : String} {index : Nat} (hown : s.vm.findClass own = some m.cls) {v : Int32} (w : (Jvm.Cond.constant own index v).before a0 Z = true) (hd : decode c.code pc = .ok (.ldc_w index, 3))
    (g : Goes p e below FE n0 Q (T.setTop (mkF m (pc + 3) Ls (.int v :: st)))) : Goes p e below FE n0 Q (T.setTop (mkF m pc Ls st)) :=
  Goes.via (X.ldcwInt hx hown (mvT hZ w) (g := mkF m pc Ls st) rfl hd) g
theorem own_ldc2Long (X : Stand p l e R s m args below meth c T locs cells slots) (hx : p.tables.exec = Jvm.exec) (hZ : Z.Warmed39 s.vm) {own : String} {index : Nat} (hown : s.vm.findClass own = some m.cls) {v : Int64} (w : (Jvm.Cond.constantLong own index v).before a0 Z = true) (hd : decode c.code pc = .ok (.ldc2_w index, 3))
    (g : Goes p e below FE n0 Q (T.setTop (mkF m (pc + 3) Ls (.long v :: st)))) : Goes p e below FE n0 Q (T.setTop (mkF m pc Ls st)) :=
  Goes.via (X.ldc2Long hx hown (mvT hZ w) (g := mkF m pc Ls st) rfl hd) g
theorem own_getF (X : Stand p l e R s m args below meth c T locs cells slots) (hx : p.tables.exec = Jvm.exec) (hZ : Z.Warmed39 s.vm) {own : String} {index : Nat} (hown : s.vm.findClass own = some m.cls) {R0 O n d host : String} (w : ((Jvm.Cond.fieldLink own index R0 n d).before a0 Z = true ∨ (Jvm.Cond.fieldLinkNest own index R0 n d host).before a0 Z = true)) (via : Via Z R0 O n d) (eT : T.heap = h) {a : Addr} {v : Value} (F : Fld Z h a O n d v) (hd : decode c.code pc = .ok (.getfield index, 3))
    (k : ∀ T', Stand p l e R s m args below meth c T' locs cells slots → T'.heap = h → Goes p e below FE n0 Q (T'.setTop (mkF m (pc + 3) Ls (v :: st)))) : Goes p e below FE n0 Q (T.setTop (mkF m pc Ls (.ref a :: st))) := by
  obtain ⟨T', X', e', st'⟩ := getF X hx hZ hown w via eT F (g := mkF m pc Ls (.ref a :: st)) rfl rfl hd
  exact Goes.via st' (k T' X' e')
theorem own_getS (X : Stand p l e R s m args below meth c T locs cells slots) (hx : p.tables.exec = Jvm.exec) (hZ : Z.Warmed39 s.vm) {own : String} {index : Nat} (hown : s.vm.findClass own = some m.cls) {R0 O n d host : String} (w : ((Jvm.Cond.fieldLink own index R0 n d).before a0 Z = true ∨ (Jvm.Cond.fieldLinkNest own index R0 n d host).before a0 Z = true)) (via : Via Z R0 O n d) (eT : T.heap = h) {v : Value} (F : Sta Z h O n d v) (hd : decode c.code pc = .ok (.getstatic index, 3))
    (k : ∀ T', Stand p l e R s m args below meth c T' locs cells slots → T'.heap = h → Goes p e below FE n0 Q (T'.setTop (mkF m (pc + 3) Ls (v :: st)))) : Goes p e below FE n0 Q (T.setTop (mkF m pc Ls st)) := by
  obtain ⟨T', X', e', st'⟩ := getS2 X hx hZ hown w via eT F (g := mkF m pc Ls st) rfl hd
  exact Goes.via st' (k T' X' e')
theorem own_initO (X : Stand p l e R s m args below meth c T locs cells slots) (hx : p.tables.exec = Jvm.exec) (hZ : Z.Warmed39 s.vm) {own : String} {index : Nat} (hown : s.vm.findClass own = some m.cls) (w1 : (Jvm.Cond.methodLink own index Lib.objectInit).before a0 Z = true) (w2 : (Jvm.Cond.instanceMethod Lib.objectInit).before a0 Z = true) (w3 : (Jvm.Cond.code Lib.objectInit ⟨#[0xb1]⟩ 1 none).before a0 Z = true) (eT : T.heap = h) (hsize : Ls.size = c.maxLocals) {a : Addr} (hd : decode c.code pc = .ok (.invokespecial index, 3)) (hf : 1 ≤ R.frames) {W : Nat} (hW : (st.map fun v => v.category).sum ≤ W) (hl : W + 12 ≤ R.locals)
    (k : ∀ T', Stand p l e R s m args below meth c T' locs cells slots → T'.heap = h → Goes p e below FE n0 Q (T'.setTop (mkF m (pc + 3) Ls st))) : Goes p e below FE n0 Q (T.setTop (mkF m pc Ls (.ref a :: st))) := by
  obtain ⟨T', X', e', st'⟩ := initO X hx hZ hown w1 w2 w3 eT (g := mkF m pc Ls (.ref a :: st)) rfl hsize rfl hd hf (W := W) (by show 2 * 0 + _ ≤ _; omega) hl
  exact Goes.via st' (k T' X' e')
theorem own_new (X : Stand p l e R s m args below meth c T locs cells slots) (hx : p.tables.exec = Jvm.exec) (hZ : Z.Warmed39 s.vm) {own : String} {index : Nat} (hown : s.vm.findClass own = some m.cls) {C : String} {nn : Nat} (w : (Jvm.Cond.classLink own index C).before a0 Z = true) (wi : (Jvm.Cond.instantiable C nn).before a0 Z = true) (wz : (Jvm.Cond.initialized C).before a0 Z = true) (eT : T.heap = h) (hd : decode c.code pc = .ok (.new index, 3)) (hc : cells + 1 ≤ R.cells) (hl : slots + nn ≤ R.slots)
    (k : ∀ T' h' b, b = h.size → Stand p l e R s m args below meth c T' locs (cells + 1) (slots + nn) → T'.heap = h' → Ext h h' → Exa Z h' b C → (∀ {O nm d : String} {ty : FieldType}, Laid Z a0 C O nm d → parseFieldDescriptor d = some ty → Fld Z h' b O nm d (defaultValue ty)) → Goes p e below FE n0 Q (T'.setTop (mkF m (pc + 3) Ls (.ref b :: st)))) : Goes p e below FE n0 Q (T.setTop (mkF m pc Ls st)) := by
  obtain ⟨T', h', X', e', E', A', D', -, st'⟩ := newO X hx hZ hown w wi wz eT (g := mkF m pc Ls st) rfl hd hc hl
  exact Goes.via st' (k T' h' _ rfl X' e' E' A' D')
theorem own_putF (X : Stand p l e R s m args below meth c T locs cells slots) (hx : p.tables.exec = Jvm.exec) (hZ : Z.Warmed39 s.vm) {own : String} {index : Nat} (hown : s.vm.findClass own = some m.cls) {R0 O n d host C : String} {kk : Nat} {ty : FieldType} (N : Fr n0 locs) (w : ((Jvm.Cond.fieldLink own index R0 n d).before a0 Z = true ∨ (Jvm.Cond.fieldLinkNest own index R0 n d host).before a0 Z = true)) (via : Via Z R0 O n d) (eT : T.heap = h) {a : Addr} {v old : Value} (F : Fld Z h a O n d old) (E : Exa Z h a C) (L : (Jvm.Cond.lays C O n d).before a0 Z = true ∨ ((Jvm.Cond.laysFinal C O n d).before a0 Z = true ∧ own = O ∧ meth.name = "<init>")) (wi : (Jvm.Cond.instantiable C kk).before a0 Z = true) (hty : parseFieldDescriptor d = some ty) (hn : narrow ty v = v) (hf : fits ty v = true) (hge : n0 ≤ a) (hd : decode c.code pc = .ok (.putfield index, 3))
    (k : ∀ T' h' locs', Stand p l e R s m args below meth c T' locs' cells slots → T'.heap = h' → Fr n0 locs' → Wr h h' a (RoadKit.slotOf Z O n d) v → Goes p e below FE n0 Q (T'.setTop (mkF m (pc + 3) Ls st))) : Goes p e below FE n0 Q (T.setTop (mkF m pc Ls (v :: .ref a :: st))) := by
  obtain ⟨T', h', X', e', W', st'⟩ := putF X hx hZ hown w via eT F E L wi hty hn hf (g := mkF m pc Ls (v :: .ref a :: st)) rfl rfl hd
  exact Goes.via st' (k T' h' _ X' e' (Fr.snoc X' N hge) W')
theorem own_castY (X : Stand p l e R s m args below meth c T locs cells slots) (hx : p.tables.exec = Jvm.exec) (hZ : Z.Warmed39 s.vm) {own : String} {index : Nat} (hown : s.vm.findClass own = some m.cls) {K : String} (w : (Jvm.Cond.classLink own index K).before a0 Z = true) (eT : T.heap = h) {a : Addr} (F : Ins Z h a K true) (hd : decode c.code pc = .ok (.checkcast index, 3))
    (k : ∀ T', Stand p l e R s m args below meth c T' locs cells slots → T'.heap = h → Goes p e below FE n0 Q (T'.setTop (mkF m (pc + 3) Ls (.ref a :: st)))) : Goes p e below FE n0 Q (T.setTop (mkF m pc Ls (.ref a :: st))) := by
  obtain ⟨T', X', e', st'⟩ := castY X hx hZ hown w eT F (g := mkF m pc Ls (.ref a :: st)) rfl rfl hd
  exact Goes.via st' (k T' X' e')
theorem own_castNull (X : Stand p l e R s m args below meth c T locs cells slots) (hx : p.tables.exec = Jvm.exec) {index : Nat} (hd : decode c.code pc = .ok (.checkcast index, 3))
    (g : Goes p e below FE n0 Q (T.setTop (mkF m (pc + 3) Ls (.null :: st)))) : Goes p e below FE n0 Q (T.setTop (mkF m pc Ls (.null :: st))) :=
  Goes.via (X.checkcastNull hx (g := mkF m pc Ls (.null :: st)) rfl rfl hd) g
theorem own_instNull (X : Stand p l e R s m args below meth c T locs cells slots) (hx : p.tables.exec = Jvm.exec) {index : Nat} (hd : decode c.code pc = .ok (.instanceof index, 3))
    (g : Goes p e below FE n0 Q (T.setTop (mkF m (pc + 3) Ls (.int 0 :: st)))) : Goes p e below FE n0 Q (T.setTop (mkF m pc Ls (.null :: st))) :=
  Goes.via (X.instanceofNull hx (g := mkF m pc Ls (.null :: st)) rfl rfl hd) g
theorem own_instY (X : Stand p l e R s m args below meth c T locs cells slots) (hx : p.tables.exec = Jvm.exec) (hZ : Z.Warmed39 s.vm) {own : String} {index : Nat} (hown : s.vm.findClass own = some m.cls) {K : String} (w : (Jvm.Cond.classLink own index K).before a0 Z = true) (eT : T.heap = h) {a : Addr} (F : Ins Z h a K true) (hd : decode c.code pc = .ok (.instanceof index, 3))
    (k : ∀ T', Stand p l e R s m args below meth c T' locs cells slots → T'.heap = h → Goes p e below FE n0 Q (T'.setTop (mkF m (pc + 3) Ls (.int 1 :: st)))) : Goes p e below FE n0 Q (T.setTop (mkF m pc Ls (.ref a :: st))) := by
  obtain ⟨T', X', e', st'⟩ := instY X hx hZ hown w eT F (g := mkF m pc Ls (.ref a :: st)) rfl rfl hd
  exact Goes.via st' (k T' X' e')
theorem own_instN (X : Stand p l e R s m args below meth c T locs cells slots) (hx : p.tables.exec = Jvm.exec) (hZ : Z.Warmed39 s.vm) {own : String} {index : Nat} (hown : s.vm.findClass own = some m.cls) {K C : String} (w : (Jvm.Cond.classLink own index K).before a0 Z = true) (eT : T.heap = h) {a : Addr} (E : Exa Z h a C) (F : ∃ c t, Z.vm.findClass C = some c ∧ Z.vm.findClass K = some t ∧ Z.vm.assignable c t = false) (hd : decode c.code pc = .ok (.instanceof index, 3))
    (k : ∀ T', Stand p l e R s m args below meth c T' locs cells slots → T'.heap = h → Goes p e below FE n0 Q (T'.setTop (mkF m (pc + 3) Ls (.int 0 :: st)))) : Goes p e below FE n0 Q (T.setTop (mkF m pc Ls (.ref a :: st))) := by
  obtain ⟨T', X', e', st'⟩ := instNo X hx hZ hown w eT E F (g := mkF m pc Ls (.ref a :: st)) rfl rfl hd
  exact Goes.via st' (k T' X' e')
theorem own_lsw (X : Stand p l e R s m args below meth c T locs cells slots) (hx : p.tables.exec = Jvm.exec) {dflt : Int} {prs : Array (Int × Int)} {len : Nat} {o kk : Int} {i : Int32} (hd : decode c.code pc = .ok (.lookupswitch dflt prs, len)) (hso : (prs.toList.zip (prs.toList.drop 1)).all (fun (a, next) => a.1 < next.1) = true) (hf : prs.find? (·.1 == i.toInt) = some (kk, o)) (ho : 0 ≤ (pc : Int) + o) (hp : ((pc : Int) + o).toNat = pc')
    (g : Goes p e below FE n0 Q (T.setTop (mkF m pc' Ls st))) : Goes p e below FE n0 Q (T.setTop (mkF m pc Ls (.int i :: st))) := by
  subst hp
  exact Goes.via (X.lookupswitchHit hx (g := mkF m pc Ls (.int i :: st)) rfl rfl hd hso hf ho) g
theorem own_clone (X : Stand p l e R s m args below meth c T locs cells slots) (hx : p.tables.exec = Jvm.exec) (hZ : Z.Warmed39 s.vm) {own : String} {index : Nat} (hown : s.vm.findClass own = some m.cls) {ad : String} (w1 : (Jvm.Cond.methodLink own index ⟨ad, "clone", "()Ljava/lang/Object;"⟩).before a0 Z = true) (w2 : (Jvm.Cond.sameMethod ad "java/lang/Object" "clone" "()Ljava/lang/Object;").before a0 Z = true) (w3 : (Jvm.Cond.native ⟨"java/lang/Object", "clone", "()Ljava/lang/Object;"⟩).before a0 Z = true) (w4 : (Jvm.Cond.instanceMethod ⟨"java/lang/Object", "clone", "()Ljava/lang/Object;"⟩).before a0 Z = true) (w5 : (Jvm.Cond.selects ad ⟨ad, "clone", "()Ljava/lang/Object;"⟩ ⟨"java/lang/Object", "clone", "()Ljava/lang/Object;"⟩).before a0 Z = true) (w6 : (Jvm.Cond.castable ad "java/lang/Cloneable").before a0 Z = true) (eT : T.heap = h) {a : Addr} {k : ClassId} {ty : FieldType} {z : Int32} {vs : List Value} {dv : Value} (F : Arv Z h a k ty z vs dv) (E : Exa Z h a ad) (hsize : Ls.size = c.maxLocals) (hd : decode c.code pc = .ok (.invokevirtual index, 3)) (hf : 1 ≤ R.frames) {W cap : Nat} (hW : (st.map fun v => v.category).sum ≤ W) (hl : W + 14 ≤ R.locals) (hcap : z.toNatClampNeg ≤ cap) (hc : cells + 1 ≤ R.cells) (hsl : slots + cap ≤ R.slots)
    (k : ∀ T' h' b, b = h.size → Stand p l e R s m args below meth c T' locs (cells + 1) (slots + cap) → T'.heap = h' → Ext h h' → Arv Z h' b k ty z vs dv → Exa Z h' b ad → Goes p e below FE n0 Q (T'.setTop (mkF m (pc + 3) Ls (.ref b :: st)))) : Goes p e below FE n0 Q (T.setTop (mkF m pc Ls (.ref a :: st))) := by
  obtain ⟨T', h', X', e', E', A', Ex', st'⟩ := cloneH X hx hZ hown w1 w2 w3 w4 w5 w6 eT F.arh E (g := mkF m pc Ls (.ref a :: st)) rfl hsize rfl hd hf (W := W) (cap := cap) (by show 2 * 0 + _ ≤ _; omega) hl hcap hc hsl
  exact Goes.via st' (k T' h' _ rfl X' e' E' A' Ex')
theorem own_iaload (X : Stand p l e R s m args below meth c T locs cells slots) (hx : p.tables.exec = Jvm.exec) (hZ : Z.Warmed39 s.vm) (eT : T.heap = h) {a : Addr} {k : ClassId} {z j : Int32} {vs : List Value} {dv v : Value} (F : Arv Z h a k .int z vs dv) (hj : ¬ j < 0 ∧ j < z) (hv : vs.getD j.toNatClampNeg dv = v) (hd : decode c.code pc = .ok (.iaload, 1))
    (g : Goes p e below FE n0 Q (T.setTop (mkF m (pc + 1) Ls (v :: st)))) : Goes p e below FE n0 Q (T.setTop (mkF m pc Ls (.int j :: .ref a :: st))) := by
  obtain ⟨cl, A, -, S, -, H, -⟩ := F
  exact Goes.via (fun t k => X.iaload hx (j := j) (v := v) (by rw [eT]; exact A.1) (State.isArrayOf_alike hZ.alike A.2.1) A.2.2 (inb_of S hj) (H.at (inb_of S hj) hv) (g := mkF m pc Ls (.int j :: .ref a :: st)) rfl rfl hd t k) g
theorem own_laload (X : Stand p l e R s m args below meth c T locs cells slots) (hx : p.tables.exec = Jvm.exec) (hZ : Z.Warmed39 s.vm) (eT : T.heap = h) {a : Addr} {k : ClassId} {z j : Int32} {vs : List Value} {dv v : Value} (F : Arv Z h a k .long z vs dv) (hj : ¬ j < 0 ∧ j < z) (hv : vs.getD j.toNatClampNeg dv = v) (hd : decode c.code pc = .ok (.laload, 1))
    (g : Goes p e below FE n0 Q (T.setTop (mkF m (pc + 1) Ls (v :: st)))) : Goes p e below FE n0 Q (T.setTop (mkF m pc Ls (.int j :: .ref a :: st))) := by
  obtain ⟨cl, A, -, S, -, H, -⟩ := F
  exact Goes.via (fun t k => X.laload hx (j := j) (v := v) (by rw [eT]; exact A.1) (State.isArrayOf_alike hZ.alike A.2.1) A.2.2 (inb_of S hj) (H.at (inb_of S hj) hv) (g := mkF m pc Ls (.int j :: .ref a :: st)) rfl rfl hd t k) g
theorem own_caload (X : Stand p l e R s m args below meth c T locs cells slots) (hx : p.tables.exec = Jvm.exec) (hZ : Z.Warmed39 s.vm) (eT : T.heap = h) {a : Addr} {k : ClassId} {z j : Int32} {vs : List Value} {dv v : Value} (F : Arv Z h a k .char z vs dv) (hj : ¬ j < 0 ∧ j < z) (hv : vs.getD j.toNatClampNeg dv = v) (hd : decode c.code pc = .ok (.caload, 1))
    (g : Goes p e below FE n0 Q (T.setTop (mkF m (pc + 1) Ls (v :: st)))) : Goes p e below FE n0 Q (T.setTop (mkF m pc Ls (.int j :: .ref a :: st))) := by
  obtain ⟨cl, A, -, S, -, H, -⟩ := F
  exact Goes.via (fun t k => X.caload hx (j := j) (v := v) (by rw [eT]; exact A.1) (State.isArrayOf_alike hZ.alike A.2.1) A.2.2 (inb_of S hj) (H.at (inb_of S hj) hv) (g := mkF m pc Ls (.int j :: .ref a :: st)) rfl rfl hd t k) g
theorem own_baload (X : Stand p l e R s m args below meth c T locs cells slots) (hx : p.tables.exec = Jvm.exec) (hZ : Z.Warmed39 s.vm) (eT : T.heap = h) {a : Addr} {k : ClassId} {z j : Int32} {vs : List Value} {dv v : Value} (F : Arv Z h a k .byte z vs dv) (hj : ¬ j < 0 ∧ j < z) (hv : vs.getD j.toNatClampNeg dv = v) (hd : decode c.code pc = .ok (.baload, 1))
    (g : Goes p e below FE n0 Q (T.setTop (mkF m (pc + 1) Ls (v :: st)))) : Goes p e below FE n0 Q (T.setTop (mkF m pc Ls (.int j :: .ref a :: st))) := by
  obtain ⟨cl, A, -, S, -, H, -⟩ := F
  exact Goes.via (fun t k => X.baloadBytes hx (j := j) (v := v) (by rw [eT]; exact A.1) (State.isArrayOf_alike hZ.alike A.2.1) A.2.2 (inb_of S hj) (H.at (inb_of S hj) hv) (g := mkF m pc Ls (.int j :: .ref a :: st)) rfl rfl hd t k) g
theorem own_aaload (X : Stand p l e R s m args below meth c T locs cells slots) (hx : p.tables.exec = Jvm.exec) (hZ : Z.Warmed39 s.vm) (eT : T.heap = h) {a : Addr} {k : ClassId} {ty : FieldType} {z j : Int32} {vs : List Value} {dv v : Value} (F : Arv Z h a k ty z vs dv) (hty : ty.isReference = true) (hj : ¬ j < 0 ∧ j < z) (hv : vs.getD j.toNatClampNeg dv = v) (hd : decode c.code pc = .ok (.aaload, 1))
    (g : Goes p e below FE n0 Q (T.setTop (mkF m (pc + 1) Ls (v :: st)))) : Goes p e below FE n0 Q (T.setTop (mkF m pc Ls (.int j :: .ref a :: st))) := by
  obtain ⟨cl, A, -, S, -, H, -⟩ := F
  exact Goes.via (fun t k => X.aaload hx (j := j) (v := v) (by rw [eT]; exact A.1) (State.isArrayOf_alike hZ.alike A.2.1) hty A.2.2 (inb_of S hj) (H.at (inb_of S hj) hv) (g := mkF m pc Ls (.int j :: .ref a :: st)) rfl rfl hd t k) g
theorem own_aaloadC (X : Stand p l e R s m args below meth c T locs cells slots) (hx : p.tables.exec = Jvm.exec) (hZ : Z.Warmed39 s.vm) (eT : T.heap = h) {a : Addr} {cl : Cell} {ty : FieldType} {j : Int32} {v : Value} (A : Arr Z h a cl ty) (hty : ty.isReference = true) (hj : ¬ (j < 0 ∨ cl.slots.size ≤ j.toNatClampNeg)) (hv : cl.slots[j.toNatClampNeg]? = some v) (hd : decode c.code pc = .ok (.aaload, 1))
    (g : Goes p e below FE n0 Q (T.setTop (mkF m (pc + 1) Ls (v :: st)))) : Goes p e below FE n0 Q (T.setTop (mkF m pc Ls (.int j :: .ref a :: st))) :=
  Goes.via (fun t k => X.aaload hx (j := j) (v := v) (by rw [eT]; exact A.1) (State.isArrayOf_alike hZ.alike A.2.1) hty A.2.2 hj hv (g := mkF m pc Ls (.int j :: .ref a :: st)) rfl rfl hd t k) g
theorem own_alen (X : Stand p l e R s m args below meth c T locs cells slots) (hx : p.tables.exec = Jvm.exec) (hZ : Z.Warmed39 s.vm) (eT : T.heap = h) {a : Addr} {k : ClassId} {ty : FieldType} {z : Int32} {vs : List Value} {dv : Value} (F : Arv Z h a k ty z vs dv) (hd : decode c.code pc = .ok (.arraylength, 1))
    (g : Goes p e below FE n0 Q (T.setTop (mkF m (pc + 1) Ls (.int z :: st)))) : Goes p e below FE n0 Q (T.setTop (mkF m pc Ls (.ref a :: st))) := by
  obtain ⟨cl, A, -, S, hz, -, -⟩ := F
  rw [← len_of S hz] at g
  exact Goes.via (fun t k => X.arraylength hx (by rw [eT]; exact A.1) (State.isArrayOf_alike hZ.alike A.2.1) (g := mkF m pc Ls (.ref a :: st)) rfl rfl hd t k) g
theorem own_newP (X : Stand p l e R s m args below meth c T locs cells slots) (hx : p.tables.exec = Jvm.exec) (hZ : Z.Warmed39 s.vm) {aty : ArrayType} (w : (Jvm.Cond.arrayClass (newarray.typeOf aty)).before a0 Z = true) (eT : T.heap = h) {n : Int32} (hd : decode c.code pc = .ok (.newarray aty, 2)) (hn : ¬ n < 0) {cap : Nat} (hcap : n.toNatClampNeg ≤ cap) (hb : cap * 8 ≤ 536870912) (hc : cells + 1 ≤ R.cells) (hl : slots + cap ≤ R.slots)
    (k : ∀ T' h' b cA, b = h.size → Stand p l e R s m args below meth c T' locs (cells + 1) (slots + cap) → T'.heap = h' → Ext h h' → Arv Z h' b cA (newarray.typeOf aty) n [] (defaultValue (newarray.typeOf aty)) → Goes p e below FE n0 Q (T'.setTop (mkF m (pc + 2) Ls (.ref b :: st)))) : Goes p e below FE n0 Q (T.setTop (mkF m pc Ls (.int n :: st))) := by
  obtain ⟨T', h', cA, X', e', E', A', st'⟩ := newP X hx hZ w eT (g := mkF m pc Ls (.int n :: st)) rfl hd rfl hn hcap hb hc hl
  exact Goes.via st' (k T' h' _ cA rfl X' e' E' (Arv.new A' hn))
theorem own_newR (X : Stand p l e R s m args below meth c T locs cells slots) (hx : p.tables.exec = Jvm.exec) (hZ : Z.Warmed39 s.vm) {own : String} {index : Nat} (hown : s.vm.findClass own = some m.cls) {C : String} (w1 : (Jvm.Cond.classLink own index C).before a0 Z = true) (w2 : (Jvm.Cond.arrayOver (.object C)).before a0 Z = true) (eT : T.heap = h) {n : Int32} (hd : decode c.code pc = .ok (.anewarray index, 3)) (hn : ¬ n < 0) {cap : Nat} (hcap : n.toNatClampNeg ≤ cap) (hb : cap * 8 ≤ 536870912) (hc : cells + 1 ≤ R.cells) (hl : slots + cap ≤ R.slots)
    (k : ∀ T' h' b cA, b = h.size → Stand p l e R s m args below meth c T' locs (cells + 1) (slots + cap) → T'.heap = h' → Ext h h' → Arv Z h' b cA (.object C) n [] .null → Ovr Z cA C → Goes p e below FE n0 Q (T'.setTop (mkF m (pc + 3) Ls (.ref b :: st)))) : Goes p e below FE n0 Q (T.setTop (mkF m pc Ls (.int n :: st))) := by
  obtain ⟨T', h', cA, X', e', E', A', O', st'⟩ := newR X hx hZ hown w1 w2 eT (g := mkF m pc Ls (.int n :: st)) rfl hd rfl hn hcap hb hc hl
  exact Goes.via st' (k T' h' _ cA rfl X' e' E' (Arv.new A' hn) O')
theorem own_newPE (X : Stand p l e R s m args below meth c T locs cells slots) (hx : p.tables.exec = Jvm.exec) (hZ : Z.Warmed39 s.vm) {aty : ArrayType} (w : (Jvm.Cond.arrayClass (newarray.typeOf aty)).before a0 Z = true) (eT : T.heap = h) {n : Int32} {ad : String} (had : "[" ++ (newarray.typeOf aty).toString = ad) (hd : decode c.code pc = .ok (.newarray aty, 2)) (hn : ¬ n < 0) {cap : Nat} (hcap : n.toNatClampNeg ≤ cap) (hb : cap * 8 ≤ 536870912) (hc : cells + 1 ≤ R.cells) (hl : slots + cap ≤ R.slots)
    (k : ∀ T' h' b cA, b = h.size → Stand p l e R s m args below meth c T' locs (cells + 1) (slots + cap) → T'.heap = h' → Ext h h' → Arv Z h' b cA (newarray.typeOf aty) n [] (defaultValue (newarray.typeOf aty)) → Exa Z h' b ad → Goes p e below FE n0 Q (T'.setTop (mkF m (pc + 2) Ls (.ref b :: st)))) : Goes p e below FE n0 Q (T.setTop (mkF m pc Ls (.int n :: st))) := by
  obtain ⟨T', h', cA, X', e', E', A', Ex', st'⟩ := newPE X hx hZ w eT (g := mkF m pc Ls (.int n :: st)) rfl hd rfl hn hcap hb hc hl had
  exact Goes.via st' (k T' h' _ cA rfl X' e' E' (Arv.new A' hn) Ex')
theorem own_newRE (X : Stand p l e R s m args below meth c T locs cells slots) (hx : p.tables.exec = Jvm.exec) (hZ : Z.Warmed39 s.vm) {own : String} {index : Nat} (hown : s.vm.findClass own = some m.cls) {C ad : String} (had : "[" ++ (FieldType.object C).toString = ad) (w1 : (Jvm.Cond.classLink own index C).before a0 Z = true) (w2 : (Jvm.Cond.arrayOver (.object C)).before a0 Z = true) (eT : T.heap = h) {n : Int32} (hd : decode c.code pc = .ok (.anewarray index, 3)) (hn : ¬ n < 0) {cap : Nat} (hcap : n.toNatClampNeg ≤ cap) (hb : cap * 8 ≤ 536870912) (hc : cells + 1 ≤ R.cells) (hl : slots + cap ≤ R.slots)
    (k : ∀ T' h' b cA, b = h.size → Stand p l e R s m args below meth c T' locs (cells + 1) (slots + cap) → T'.heap = h' → Ext h h' → Arv Z h' b cA (.object C) n [] .null → Ovr Z cA C → Exa Z h' b ad → Goes p e below FE n0 Q (T'.setTop (mkF m (pc + 3) Ls (.ref b :: st)))) : Goes p e below FE n0 Q (T.setTop (mkF m pc Ls (.int n :: st))) := by
  obtain ⟨T', h', cA, X', e', E', A', Ex', O', st'⟩ := newRE X hx hZ hown w1 w2 eT (g := mkF m pc Ls (.int n :: st)) rfl hd rfl hn hcap hb hc hl had
  exact Goes.via st' (k T' h' _ cA rfl X' e' E' (Arv.new A' hn) O' Ex')
theorem own_newRA (X : Stand p l e R s m args below meth c T locs cells slots) (hx : p.tables.exec = Jvm.exec) (hZ : Z.Warmed39 s.vm) {own : String} {index : Nat} (hown : s.vm.findClass own = some m.cls) {C ad : String} {ty : FieldType} (hC : (FieldType.array ty).toString = C) (had : "[" ++ C = ad) (w1 : (Jvm.Cond.classLink own index C).before a0 Z = true) (w2 : (Jvm.Cond.arrayOver (.array ty)).before a0 Z = true) (eT : T.heap = h) {n : Int32} (hd : decode c.code pc = .ok (.anewarray index, 3)) (hn : ¬ n < 0) {cap : Nat} (hcap : n.toNatClampNeg ≤ cap) (hb : cap * 8 ≤ 536870912) (hc : cells + 1 ≤ R.cells) (hl : slots + cap ≤ R.slots)
    (k : ∀ T' h' b cA, b = h.size → Stand p l e R s m args below meth c T' locs (cells + 1) (slots + cap) → T'.heap = h' → Ext h h' → Arv Z h' b cA (.array ty) n [] .null → OvrA Z cA ty C → Goes p e below FE n0 Q (T'.setTop (mkF m (pc + 3) Ls (.ref b :: st)))) : Goes p e below FE n0 Q (T.setTop (mkF m pc Ls (.int n :: st))) := by
  obtain ⟨T', h', cA, X', e', E', A', Ex', O', st'⟩ := newRA X hx hZ hown hC w1 w2 eT (g := mkF m pc Ls (.int n :: st)) rfl hd rfl hn hcap hb hc hl had
  exact Goes.via st' (k T' h' _ cA rfl X' e' E' (Arv.new A' hn) O')
theorem own_iastore (X : Stand p l e R s m args below meth c T locs cells slots) (hx : p.tables.exec = Jvm.exec) (hZ : Z.Warmed39 s.vm) (N : Fr n0 locs) (eT : T.heap = h) {a : Addr} {k : ClassId} {z j : Int32} {vs : List Value} {dv : Value} {x : Int32} (F : Arv Z h a k .int z vs dv) (hj : ¬ j < 0 ∧ j < z) {i : Nat} (hi : j.toNatClampNeg = i) (hlen : i < vs.length) (hge : n0 ≤ a) (hd : decode c.code pc = .ok (.iastore, 1))
    (k : ∀ T' h' locs', Stand p l e R s m args below meth c T' locs' cells slots → T'.heap = h' → Fr n0 locs' → Wr h h' a j.toNatClampNeg (.int x) → Arv Z h' a k .int z (vs.set i (.int x)) dv → Goes p e below FE n0 Q (T'.setTop (mkF m (pc + 1) Ls st))) : Goes p e below FE n0 Q (T.setTop (mkF m pc Ls (.int x :: .int j :: .ref a :: st))) := by
  obtain ⟨cl, A, q1, S, q3, H, G⟩ := F
  obtain ⟨T', h', X', e', W', st'⟩ := stI X hx hZ eT A (j := j) (inb_of S hj) (g := mkF m pc Ls (.int x :: .int j :: .ref a :: st)) rfl rfl hd
  exact Goes.via st' (k T' h' _ X' e' (Fr.snoc X' N hge) W' (Arv.set A q1 S q3 H G rfl W' i hi hlen))
theorem own_lastore (X : Stand p l e R s m args below meth c T locs cells slots) (hx : p.tables.exec = Jvm.exec) (hZ : Z.Warmed39 s.vm) (N : Fr n0 locs) (eT : T.heap = h) {a : Addr} {k : ClassId} {z j : Int32} {vs : List Value} {dv : Value} {x : Int64} (F : Arv Z h a k .long z vs dv) (hj : ¬ j < 0 ∧ j < z) {i : Nat} (hi : j.toNatClampNeg = i) (hlen : i < vs.length) (hge : n0 ≤ a) (hd : decode c.code pc = .ok (.lastore, 1))
    (k : ∀ T' h' locs', Stand p l e R s m args below meth c T' locs' cells slots → T'.heap = h' → Fr n0 locs' → Wr h h' a j.toNatClampNeg (.long x) → Arv Z h' a k .long z (vs.set i (.long x)) dv → Goes p e below FE n0 Q (T'.setTop (mkF m (pc + 1) Ls st))) : Goes p e below FE n0 Q (T.setTop (mkF m pc Ls (.long x :: .int j :: .ref a :: st))) := by
  obtain ⟨cl, A, q1, S, q3, H, G⟩ := F
  obtain ⟨T', h', X', e', W', st'⟩ := stJ X hx hZ eT A (j := j) (inb_of S hj) (g := mkF m pc Ls (.long x :: .int j :: .ref a :: st)) rfl rfl hd
  exact Goes.via st' (k T' h' _ X' e' (Fr.snoc X' N hge) W' (Arv.set A q1 S q3 H G rfl W' i hi hlen))
theorem own_castore (X : Stand p l e R s m args below meth c T locs cells slots) (hx : p.tables.exec = Jvm.exec) (hZ : Z.Warmed39 s.vm) (N : Fr n0 locs) (eT : T.heap = h) {a : Addr} {k : ClassId} {z j : Int32} {vs : List Value} {dv : Value} {x : Int32} (F : Arv Z h a k .char z vs dv) (hj : ¬ j < 0 ∧ j < z) {i : Nat} (hi : j.toNatClampNeg = i) (hlen : i < vs.length) (hge : n0 ≤ a) (hd : decode c.code pc = .ok (.castore, 1))
    (k : ∀ T' h' locs', Stand p l e R s m args below meth c T' locs' cells slots → T'.heap = h' → Fr n0 locs' → Wr h h' a j.toNatClampNeg (.int (nar .char x)) → Arv Z h' a k .char z (vs.set i (.int (nar .char x))) dv → Goes p e below FE n0 Q (T'.setTop (mkF m (pc + 1) Ls st))) : Goes p e below FE n0 Q (T.setTop (mkF m pc Ls (.int x :: .int j :: .ref a :: st))) := by
  obtain ⟨cl, A, q1, S, q3, H, G⟩ := F
  obtain ⟨T', h', X', e', W', st'⟩ := stC X hx hZ eT A (j := j) (inb_of S hj) (g := mkF m pc Ls (.int x :: .int j :: .ref a :: st)) rfl rfl hd
  exact Goes.via st' (k T' h' _ X' e' (Fr.snoc X' N hge) W' (Arv.set A q1 S q3 H G (fits_nar_char _) W' i hi hlen))
theorem own_bastore (X : Stand p l e R s m args below meth c T locs cells slots) (hx : p.tables.exec = Jvm.exec) (hZ : Z.Warmed39 s.vm) (N : Fr n0 locs) (eT : T.heap = h) {a : Addr} {k : ClassId} {z j : Int32} {vs : List Value} {dv : Value} {x : Int32} (F : Arv Z h a k .byte z vs dv) (hj : ¬ j < 0 ∧ j < z) {i : Nat} (hi : j.toNatClampNeg = i) (hlen : i < vs.length) (hge : n0 ≤ a) (hd : decode c.code pc = .ok (.bastore, 1))
    (k : ∀ T' h' locs', Stand p l e R s m args below meth c T' locs' cells slots → T'.heap = h' → Fr n0 locs' → Wr h h' a j.toNatClampNeg (.int (x.toInt8.toInt32)) → Arv Z h' a k .byte z (vs.set i (.int (x.toInt8.toInt32))) dv → Goes p e below FE n0 Q (T'.setTop (mkF m (pc + 1) Ls st))) : Goes p e below FE n0 Q (T.setTop (mkF m pc Ls (.int x :: .int j :: .ref a :: st))) := by
  obtain ⟨cl, A, q1, S, q3, H, G⟩ := F
  obtain ⟨T', h', X', e', W', st'⟩ := stB X hx hZ eT A (j := j) (inb_of S hj) (g := mkF m pc Ls (.int x :: .int j :: .ref a :: st)) rfl rfl hd
  exact Goes.via st' (k T' h' _ X' e' (Fr.snoc X' N hge) W' (Arv.set A q1 S q3 H G (fits_nar_byte _) W' i hi hlen))
theorem own_aastore (X : Stand p l e R s m args below meth c T locs cells slots) (hx : p.tables.exec = Jvm.exec) (hZ : Z.Warmed39 s.vm) (N : Fr n0 locs) (eT : T.heap = h) {a : Addr} {k : ClassId} {ty : FieldType} {z j : Int32} {vs : List Value} {dv v : Value} (F : Arv Z h a k ty z vs dv) (hty : ty.isReference = true) (hfit : fits ty v = true) (hj : ¬ j < 0 ∧ j < z) {i : Nat} (hi : j.toNatClampNeg = i) (hlen : i < vs.length) (hge : n0 ≤ a) (hst : ∀ cl, Arr Z h a cl ty → cl.cls = k → Sto Z h a v) (hd : decode c.code pc = .ok (.aastore, 1))
    (k : ∀ T' h' locs', Stand p l e R s m args below meth c T' locs' cells slots → T'.heap = h' → Fr n0 locs' → Wr h h' a j.toNatClampNeg v → Arv Z h' a k ty z (vs.set i v) dv → Goes p e below FE n0 Q (T'.setTop (mkF m (pc + 1) Ls st))) : Goes p e below FE n0 Q (T.setTop (mkF m pc Ls (v :: .int j :: .ref a :: st))) := by
  obtain ⟨cl, A, q1, S, q3, H, G⟩ := F
  obtain ⟨T', h', X', e', W', st'⟩ := stR X hx hZ eT A (j := j) (inb_of S hj) hty (hst cl A q1) (g := mkF m pc Ls (v :: .int j :: .ref a :: st)) rfl rfl hd
  exact Goes.via st' (k T' h' _ X' e' (Fr.snoc X' N hge) W' (Arv.set A q1 S q3 H G hfit W' i hi hlen))
theorem own_selfsel {y : MethodName} {nn : Nat} (wi : (Jvm.Cond.instantiable y.cls nn).before a0 Z = true) (w2 : (Jvm.Cond.instanceMethod y).before a0 Z = true) (w6 : (Jvm.Cond.privateMethod y).before a0 Z = true) (hy : y.cls ≠ "java/lang/invoke/MethodHandle" ∧ y.cls ≠ "java/lang/invoke/VarHandle") : (Jvm.Cond.selects y.cls y y).before a0 Z = true := by
  obtain ⟨c, k, h1, h2, -, h4, -⟩ := Cond.instantiable_spec wi
  exact selects_self_of_private h1 h2 (by rw [Bool.or_eq_false_iff] at h4; exact h4.1) (Cond.privateMethod_at w6) w2 hy
theorem own_callS (X : Stand p l e R s m args below meth c T locs cells slots) (hx : p.tables.exec = Jvm.exec) (hZ : Z.Warmed39 s.vm) {own : String} {index : Nat} (hown : s.vm.findClass own = some m.cls) {y : MethodName} {bytes : ByteArray} {maxL : Nat} {ret : Option FieldType} {rm : Room} {W : Nat} {Q' : Option Value → Heap → Prop} (w1 : (Jvm.Cond.methodLink own index y).before a0 Z = true) (w2 : (Jvm.Cond.static y).before a0 Z = true) (w3 : (Jvm.Cond.initialized y.cls).before a0 Z = true) (w4 : (Jvm.Cond.code y bytes maxL ret).before a0 Z = true) (hy : y.cls ≠ "java/lang/invoke/MethodHandle" ∧ y.cls ≠ "java/lang/invoke/VarHandle") (hf : rm.frames + 1 ≤ R.frames) (hl : W + (maxL + 11) + rm.locals ≤ R.locals) (N : Fr n0 locs) (eT : T.heap = h) (hsize : Ls.size = c.maxLocals) {argsL rest : List Value} (hlen : ∀ sig, parseMethodDescriptor y.desc = some sig → argsL.length = sig.parameters.length) (hW : (rest.map fun v => v.category).sum ≤ W) (hc : cells + rm.cells ≤ R.cells) (hs : slots + rm.slots ≤ R.slots) (M : Meets l y bytes maxL ret [] rm rm.cells rm.slots Z argsL.toArray h n0 Q') (hst : st = argsL.reverse ++ rest) (hd : decode c.code pc = .ok (.invokestatic index, 3))
    (k : ∀ v T' locs', Stand p l e R s m args below meth c T' locs' (cells + rm.cells) (slots + rm.slots) → Fr n0 locs' → Q' v T'.heap → Goes p e below FE n0 Q (T'.setTop (mkF m (pc + 3) Ls (v.toList ++ rest)))) : Goes p e below FE n0 Q (T.setTop (mkF m pc Ls st)) := by
  subst hst
  obtain ⟨v, _, ⟨T', L', k', n'⟩, -, X', ⟨Lc, hQ, l1, l2, l3⟩, st'⟩ := Jvm.LawKit.callS X hx (y := y) hown (mvT hZ w1) (mvT hZ w2) (mvT hZ w3) (mvT hZ w4) hy (backOf (W := W) (Q := fun v h L => Fr n0 L ∧ Q' v h) M hZ w4 w3 hf hl) (g := mkF m pc Ls (argsL.reverse ++ rest)) rfl hsize (argsL := argsL) (rest := rest) hlen rfl (by show 2 * 0 + _ ≤ _; omega) hd (fun _ _ => ⟨rfl, eT, hc, hs⟩)
  dsimp only [Pt.U, Pt.locs, Pt.cells, Pt.slots] at X' l1 l2 l3 st' hQ
  subst l1 l2 l3
  exact Goes.via st' (k v T' _ X' (Fr.app N hQ.1) hQ.2)
theorem own_special (X : Stand p l e R s m args below meth c T locs cells slots) (hx : p.tables.exec = Jvm.exec) (hZ : Z.Warmed39 s.vm) {own : String} {index : Nat} (hown : s.vm.findClass own = some m.cls) {y : MethodName} {bytes : ByteArray} {maxL : Nat} {rm : Room} {W : Nat} {Q' : Option Value → Heap → Prop} (hy1 : y.name = "<init>") (w1 : (Jvm.Cond.methodLink own index y).before a0 Z = true) (w2 : (Jvm.Cond.instanceMethod y).before a0 Z = true) (w3 : (Jvm.Cond.initialized y.cls).before a0 Z = true) (w4 : (Jvm.Cond.code y bytes maxL none).before a0 Z = true) {a : Addr} (hy : y.cls ≠ "java/lang/invoke/MethodHandle" ∧ y.cls ≠ "java/lang/invoke/VarHandle") (hf : rm.frames + 1 ≤ R.frames) (hl : W + (maxL + 11) + rm.locals ≤ R.locals) (N : Fr n0 locs) (eT : T.heap = h) (hsize : Ls.size = c.maxLocals) {argsL rest : List Value} (hlen : ∀ sig, parseMethodDescriptor y.desc = some sig → argsL.length = sig.parameters.length) (hW : (rest.map fun v => v.category).sum ≤ W) (hc : cells + rm.cells ≤ R.cells) (hs : slots + rm.slots ≤ R.slots) (M : Meets l y bytes maxL none [] rm rm.cells rm.slots Z (.ref a :: argsL).toArray h n0 Q') (hst : st = argsL.reverse ++ .ref a :: rest) (hd : decode c.code pc = .ok (.invokespecial index, 3))
    (k : ∀ v T' locs', Stand p l e R s m args below meth c T' locs' (cells + rm.cells) (slots + rm.slots) → Fr n0 locs' → Q' v T'.heap → Goes p e below FE n0 Q (T'.setTop (mkF m (pc + 3) Ls (v.toList ++ rest)))) : Goes p e below FE n0 Q (T.setTop (mkF m pc Ls st)) := by
  subst hst
  obtain ⟨v, _, ⟨T', L', k', n'⟩, -, X', ⟨Lc, hQ, l1, l2, l3⟩, st'⟩ := X.specialBack hx (y := y) hy1 hown (mvT hZ w1) (mvT hZ w2) (mvT hZ w4) hy (backOf (W := W) (Q := fun v h L => Fr n0 L ∧ Q' v h) M hZ w4 w3 hf hl) (g := mkF m pc Ls (argsL.reverse ++ .ref a :: rest)) rfl hsize (Steps.refl _) (a := a) (argsL := argsL) (rest := rest) hlen rfl (by show 2 * 0 + _ ≤ _; omega) hd (fun _ _ => ⟨rfl, eT, hc, hs⟩)
  dsimp only [Pt.U, Pt.locs, Pt.cells, Pt.slots] at X' l1 l2 l3 st' hQ
  subst l1 l2 l3
  exact Goes.via (fun _ k => st'.trans k) (k v T' _ X' (Fr.app N hQ.1) hQ.2)
theorem own_specialNest (X : Stand p l e R s m args below meth c T locs cells slots) (hx : p.tables.exec = Jvm.exec) (hZ : Z.Warmed39 s.vm) {own : String} {index : Nat} (hown : s.vm.findClass own = some m.cls) {y : MethodName} {bytes : ByteArray} {maxL : Nat} {rm : Room} {W : Nat} {Q' : Option Value → Heap → Prop} {host : String} (hy1 : y.name = "<init>") (w1 : (Jvm.Cond.methodLinkNest own index y host).before a0 Z = true) (w2 : (Jvm.Cond.instanceMethod y).before a0 Z = true) (w3 : (Jvm.Cond.initialized y.cls).before a0 Z = true) (w4 : (Jvm.Cond.code y bytes maxL none).before a0 Z = true) {a : Addr} (hy : y.cls ≠ "java/lang/invoke/MethodHandle" ∧ y.cls ≠ "java/lang/invoke/VarHandle") (hf : rm.frames + 1 ≤ R.frames) (hl : W + (maxL + 11) + rm.locals ≤ R.locals) (N : Fr n0 locs) (eT : T.heap = h) (hsize : Ls.size = c.maxLocals) {argsL rest : List Value} (hlen : ∀ sig, parseMethodDescriptor y.desc = some sig → argsL.length = sig.parameters.length) (hW : (rest.map fun v => v.category).sum ≤ W) (hc : cells + rm.cells ≤ R.cells) (hs : slots + rm.slots ≤ R.slots) (M : Meets l y bytes maxL none [] rm rm.cells rm.slots Z (.ref a :: argsL).toArray h n0 Q') (hst : st = argsL.reverse ++ .ref a :: rest) (hd : decode c.code pc = .ok (.invokespecial index, 3))
    (k : ∀ v T' locs', Stand p l e R s m args below meth c T' locs' (cells + rm.cells) (slots + rm.slots) → Fr n0 locs' → Q' v T'.heap → Goes p e below FE n0 Q (T'.setTop (mkF m (pc + 3) Ls (v.toList ++ rest)))) : Goes p e below FE n0 Q (T.setTop (mkF m pc Ls st)) := by
  subst hst
  obtain ⟨v, _, ⟨T', L', k', n'⟩, -, X', ⟨Lc, hQ, l1, l2, l3⟩, st'⟩ := X.specialBackNest hx (y := y) hy1 hown (Cond.methodLinkNest_wide hZ w1 :) (mvT hZ w2) (mvT hZ w4) hy (backOf (W := W) (Q := fun v h L => Fr n0 L ∧ Q' v h) M hZ w4 w3 hf hl) (g := mkF m pc Ls (argsL.reverse ++ .ref a :: rest)) rfl hsize (Steps.refl _) (a := a) (argsL := argsL) (rest := rest) hlen rfl (by show 2 * 0 + _ ≤ _; omega) hd (fun _ _ => ⟨rfl, eT, hc, hs⟩)
  dsimp only [Pt.U, Pt.locs, Pt.cells, Pt.slots] at X' l1 l2 l3 st' hQ
  subst l1 l2 l3
  exact Goes.via (fun _ k => st'.trans k) (k v T' _ X' (Fr.app N hQ.1) hQ.2)
theorem own_virtual (X : Stand p l e R s m args below meth c T locs cells slots) (hx : p.tables.exec = Jvm.exec) (hZ : Z.Warmed39 s.vm) {own : String} {index : Nat} (hown : s.vm.findClass own = some m.cls) {y : MethodName} {bytes : ByteArray} {maxL : Nat} {ret : Option FieldType} {rm : Room} {W : Nat} {Q' : Option Value → Heap → Prop} {z : MethodName} {C : String} (w1 : (Jvm.Cond.methodLink own index y).before a0 Z = true) (w2 : (Jvm.Cond.declares y).before a0 Z = true) (hnf : NotFace s y) (w5 : (Jvm.Cond.selects C y z).before a0 Z = true) (w6 : (Jvm.Cond.instanceMethod z).before a0 Z = true) (w3 : (Jvm.Cond.initialized z.cls).before a0 Z = true) (w4 : (Jvm.Cond.code z bytes maxL ret).before a0 Z = true) {a : Addr} (E : Exa Z h a C) (hy : y.cls ≠ "java/lang/invoke/MethodHandle" ∧ y.cls ≠ "java/lang/invoke/VarHandle") (hf : rm.frames + 1 ≤ R.frames) (hl : W + (maxL + 11) + rm.locals ≤ R.locals) (N : Fr n0 locs) (eT : T.heap = h) (hsize : Ls.size = c.maxLocals) {argsL rest : List Value} (hlen : ∀ sig, parseMethodDescriptor y.desc = some sig → argsL.length = sig.parameters.length) (hW : (rest.map fun v => v.category).sum ≤ W) (hc : cells + rm.cells ≤ R.cells) (hs : slots + rm.slots ≤ R.slots) (M : Meets l z bytes maxL ret [] rm rm.cells rm.slots Z (.ref a :: argsL).toArray h n0 Q') (hst : st = argsL.reverse ++ .ref a :: rest) (hd : decode c.code pc = .ok (.invokevirtual index, 3))
    (k : ∀ v T' locs', Stand p l e R s m args below meth c T' locs' (cells + rm.cells) (slots + rm.slots) → Fr n0 locs' → Q' v T'.heap → Goes p e below FE n0 Q (T'.setTop (mkF m (pc + 3) Ls (v.toList ++ rest)))) : Goes p e below FE n0 Q (T.setTop (mkF m pc Ls st)) := by
  subst hst
  obtain ⟨cq, kq, qa, qb, qc⟩ := isOf hZ eT E
  obtain ⟨v, _, ⟨T', L', k', n'⟩, -, X', ⟨Lc, hQ, l1, l2, l3⟩, st'⟩ := X.virtualBack hx (y := y) (z := z) hown (mvT hZ w1) (mvT hZ w2) hnf (mvT hZ w5) (mvT hZ w6) hy (backOf (W := W) (Q := fun v h L => Fr n0 L ∧ Q' v h) M hZ w4 w3 hf hl) qa qc (g := mkF m pc Ls (argsL.reverse ++ .ref a :: rest)) rfl hsize (Steps.refl _) (argsL := argsL) (rest := rest) hlen rfl (by show 2 * 0 + _ ≤ _; omega) hd (fun _ _ => ⟨rfl, eT, hc, hs⟩)
  dsimp only [Pt.U, Pt.locs, Pt.cells, Pt.slots] at X' l1 l2 l3 st' hQ
  subst l1 l2 l3
  exact Goes.via (fun _ k => st'.trans k) (k v T' _ X' (Fr.app N hQ.1) hQ.2)
theorem own_private (X : Stand p l e R s m args below meth c T locs cells slots) (hx : p.tables.exec = Jvm.exec) (hZ : Z.Warmed39 s.vm) {own : String} {index : Nat} (hown : s.vm.findClass own = some m.cls) {y : MethodName} {bytes : ByteArray} {maxL : Nat} {ret : Option FieldType} {rm : Room} {W : Nat} {Q' : Option Value → Heap → Prop} (w1 : (Jvm.Cond.methodLink own index y).before a0 Z = true) (w2 : (Jvm.Cond.instanceMethod y).before a0 Z = true) {nn : Nat} (w5 : (Jvm.Cond.instantiable y.cls nn).before a0 Z = true) (w6 : (Jvm.Cond.privateMethod y).before a0 Z = true) (w3 : (Jvm.Cond.initialized y.cls).before a0 Z = true) (w4 : (Jvm.Cond.code y bytes maxL ret).before a0 Z = true) {a : Addr} {C : String} (E : Exa Z h a C) (hy : y.cls ≠ "java/lang/invoke/MethodHandle" ∧ y.cls ≠ "java/lang/invoke/VarHandle") (hf : rm.frames + 1 ≤ R.frames) (hl : W + (maxL + 11) + rm.locals ≤ R.locals) (N : Fr n0 locs) (eT : T.heap = h) (hsize : Ls.size = c.maxLocals) {argsL rest : List Value} (hlen : ∀ sig, parseMethodDescriptor y.desc = some sig → argsL.length = sig.parameters.length) (hW : (rest.map fun v => v.category).sum ≤ W) (hc : cells + rm.cells ≤ R.cells) (hs : slots + rm.slots ≤ R.slots) (M : Meets l y bytes maxL ret [] rm rm.cells rm.slots Z (.ref a :: argsL).toArray h n0 Q') (hst : st = argsL.reverse ++ .ref a :: rest) (hd : decode c.code pc = .ok (.invokevirtual index, 3))
    (k : ∀ v T' locs', Stand p l e R s m args below meth c T' locs' (cells + rm.cells) (slots + rm.slots) → Fr n0 locs' → Q' v T'.heap → Goes p e below FE n0 Q (T'.setTop (mkF m (pc + 3) Ls (v.toList ++ rest)))) : Goes p e below FE n0 Q (T.setTop (mkF m pc Ls st)) := by
  subst hst
  obtain ⟨cq, qa, qb⟩ := E.cell
  obtain ⟨v, _, ⟨T', L', k', n'⟩, -, X', ⟨Lc, hQ, l1, l2, l3⟩, st'⟩ := X.privateBack hx (y := y) hown (mvT hZ w1) (mvT hZ w2) (mvT hZ (own_selfsel w5 w2 w6 hy)) (Cond.privateMethod_at (mvP hZ w6 (args := #[]))) (mvT hZ w4) hy (backOf (W := W) (Q := fun v h L => Fr n0 L ∧ Q' v h) M hZ w4 w3 hf hl) (g := mkF m pc Ls (argsL.reverse ++ .ref a :: rest)) rfl hsize (Steps.refl _) (a := a) (by rw [eT]; exact qa) qb (argsL := argsL) (rest := rest) hlen rfl (by show 2 * 0 + _ ≤ _; omega) hd (fun _ _ => ⟨rfl, eT, hc, hs⟩)
  dsimp only [Pt.U, Pt.locs, Pt.cells, Pt.slots] at X' l1 l2 l3 st' hQ
  subst l1 l2 l3
  exact Goes.via (fun _ k => st'.trans k) (k v T' _ X' (Fr.app N hQ.1) hQ.2)
theorem own_virtualUp (X : Stand p l e R s m args below meth c T locs cells slots) (hx : p.tables.exec = Jvm.exec) (hZ : Z.Warmed39 s.vm) {own : String} {index : Nat} (hown : s.vm.findClass own = some m.cls) {y : MethodName} {bytes : ByteArray} {maxL : Nat} {ret : Option FieldType} {rm : Room} {W : Nat} {Q' : Option Value → Heap → Prop} {z : MethodName} {C owner : String} (w1 : (Jvm.Cond.methodLink own index y).before a0 Z = true) (w2 : (Jvm.Cond.sameMethod y.cls owner y.name y.desc).before a0 Z = true) (w7 : (Jvm.Cond.declares ⟨owner, y.name, y.desc⟩).before a0 Z = true) (w5 : (Jvm.Cond.selects C y z).before a0 Z = true) (w6 : (Jvm.Cond.instanceMethod z).before a0 Z = true) (w3 : (Jvm.Cond.initialized z.cls).before a0 Z = true) (w4 : (Jvm.Cond.code z bytes maxL ret).before a0 Z = true) {a : Addr} (E : Exa Z h a C) (hy : owner ≠ "java/lang/invoke/MethodHandle" ∧ owner ≠ "java/lang/invoke/VarHandle") (hf : rm.frames + 1 ≤ R.frames) (hl : W + (maxL + 11) + rm.locals ≤ R.locals) (N : Fr n0 locs) (eT : T.heap = h) (hsize : Ls.size = c.maxLocals) {argsL rest : List Value} (hlen : ∀ sig, parseMethodDescriptor y.desc = some sig → argsL.length = sig.parameters.length) (hW : (rest.map fun v => v.category).sum ≤ W) (hc : cells + rm.cells ≤ R.cells) (hs : slots + rm.slots ≤ R.slots) (M : Meets l z bytes maxL ret [] rm rm.cells rm.slots Z (.ref a :: argsL).toArray h n0 Q') (hst : st = argsL.reverse ++ .ref a :: rest) (hd : decode c.code pc = .ok (.invokevirtual index, 3))
    (k : ∀ v T' locs', Stand p l e R s m args below meth c T' locs' (cells + rm.cells) (slots + rm.slots) → Fr n0 locs' → Q' v T'.heap → Goes p e below FE n0 Q (T'.setTop (mkF m (pc + 3) Ls (v.toList ++ rest)))) : Goes p e below FE n0 Q (T.setTop (mkF m pc Ls st)) := by
  subst hst
  obtain ⟨cq, kq, qa, qb, qc⟩ := isOf hZ eT E
  obtain ⟨v, _, ⟨T', L', k', n'⟩, -, X', ⟨Lc, hQ, l1, l2, l3⟩, st'⟩ := X.virtualBackUp hx (x := y) (y := z) hown (mvT hZ w1) (mvT hZ w2) (mvT hZ w7 (by simp [Cond.onTables, Cond.keepsFace, Cond.keeps, Cond.steady, Cond.faceAtom, hy.1, hy.2])) hy (mvT hZ w5) (mvT hZ w6) (backOf (W := W) (Q := fun v h L => Fr n0 L ∧ Q' v h) M hZ w4 w3 hf hl) qa qc (g := mkF m pc Ls (argsL.reverse ++ .ref a :: rest)) rfl hsize (Steps.refl _) (argsL := argsL) (rest := rest) hlen rfl (by show 2 * 0 + _ ≤ _; omega) hd (fun _ _ => ⟨rfl, eT, hc, hs⟩)
  dsimp only [Pt.U, Pt.locs, Pt.cells, Pt.slots] at X' l1 l2 l3 st' hQ
  subst l1 l2 l3
  exact Goes.via (fun _ k => st'.trans k) (k v T' _ X' (Fr.app N hQ.1) hQ.2)
theorem own_iface (X : Stand p l e R s m args below meth c T locs cells slots) (hx : p.tables.exec = Jvm.exec) (hZ : Z.Warmed39 s.vm) {own : String} {index : Nat} (hown : s.vm.findClass own = some m.cls) {y : MethodName} {bytes : ByteArray} {maxL : Nat} {ret : Option FieldType} {rm : Room} {W : Nat} {Q' : Option Value → Heap → Prop} {z : MethodName} {C : String} {count : Nat} (w1 : (Jvm.Cond.methodLink own index y).before a0 Z = true) (w2 : (Jvm.Cond.declares y).before a0 Z = true) (w7 : (Jvm.Cond.interfaceMethod y.cls y.cls y.name y.desc).before a0 Z = true) (w5 : (Jvm.Cond.selects C y z).before a0 Z = true) (w6 : (Jvm.Cond.instanceMethod z).before a0 Z = true) (w8 : (Jvm.Cond.publicMethod z).before a0 Z = true) (w9 : (Jvm.Cond.unhidden C y.name y.desc).before a0 Z = true) (wc : (Jvm.Cond.castable C y.cls).before a0 Z = true) (w3 : (Jvm.Cond.initialized z.cls).before a0 Z = true) (w4 : (Jvm.Cond.code z bytes maxL ret).before a0 Z = true) {a : Addr} (E : Exa Z h a C) (hy : y.cls ≠ "java/lang/invoke/MethodHandle" ∧ y.cls ≠ "java/lang/invoke/VarHandle") (hf : rm.frames + 1 ≤ R.frames) (hl : W + (maxL + 11) + rm.locals ≤ R.locals) (N : Fr n0 locs) (eT : T.heap = h) (hsize : Ls.size = c.maxLocals) {argsL rest : List Value} (hlen : ∀ sig, parseMethodDescriptor y.desc = some sig → argsL.length = sig.parameters.length) (hW : (rest.map fun v => v.category).sum ≤ W) (hc : cells + rm.cells ≤ R.cells) (hs : slots + rm.slots ≤ R.slots) (M : Meets l z bytes maxL ret [] rm rm.cells rm.slots Z (.ref a :: argsL).toArray h n0 Q') (hst : st = argsL.reverse ++ .ref a :: rest) (hd : decode c.code pc = .ok (.invokeinterface index count, 5))
    (k : ∀ v T' locs', Stand p l e R s m args below meth c T' locs' (cells + rm.cells) (slots + rm.slots) → Fr n0 locs' → Q' v T'.heap → Goes p e below FE n0 Q (T'.setTop (mkF m (pc + 5) Ls (v.toList ++ rest)))) : Goes p e below FE n0 Q (T.setTop (mkF m pc Ls st)) := by
  subst hst
  obtain ⟨cq, kq, qa, qb, qc⟩ := isOf hZ eT E
  obtain ⟨v, _, ⟨T', L', k', n'⟩, -, X', ⟨Lc, hQ, l1, l2, l3⟩, st'⟩ := X.interfaceBack hx (xi := y) (y := z) hown (mvT hZ w1) (mvT hZ w2) (mvT hZ w7 (by simp [Cond.onTables, Cond.keepsFace, Cond.keeps, Cond.steady, Cond.faceAtom, hy.1, hy.2])) (mvT hZ w5) (mvT hZ w6) (mvT hZ w8) (mvT hZ w9) (mvT hZ wc) hy (backOf (W := W) (Q := fun v h L => Fr n0 L ∧ Q' v h) M hZ w4 w3 hf hl) qa qb qc (g := mkF m pc Ls (argsL.reverse ++ .ref a :: rest)) rfl hsize (Steps.refl _) (argsL := argsL) (rest := rest) hlen rfl (by show 2 * 0 + _ ≤ _; omega) hd (fun _ _ => ⟨rfl, eT, hc, hs⟩)
  dsimp only [Pt.U, Pt.locs, Pt.cells, Pt.slots] at X' l1 l2 l3 st' hQ
  subst l1 l2 l3
  exact Goes.via (fun _ k => st'.trans k) (k v T' _ X' (Fr.app N hQ.1) hQ.2)
theorem own_gcls (X : Stand p l e R s m args below meth c T locs cells slots) (hx : p.tables.exec = Jvm.exec) (hZ : Z.Warmed39 s.vm) {own : String} {index : Nat} (hown : s.vm.findClass own = some m.cls) {C : String} (w1 : (Jvm.Cond.methodLink own index ⟨"java/lang/Object", "getClass", "()Ljava/lang/Class;"⟩).before a0 Z = true) (w2 : (Jvm.Cond.declares ⟨"java/lang/Object", "getClass", "()Ljava/lang/Class;"⟩).before a0 Z = true) (w3 : (Jvm.Cond.noSuperclass "java/lang/Object").before a0 Z = true) (w4 : (Jvm.Cond.selects C ⟨"java/lang/Object", "getClass", "()Ljava/lang/Class;"⟩ ⟨"java/lang/Object", "getClass", "()Ljava/lang/Class;"⟩).before a0 Z = true) (w5 : (Jvm.Cond.instanceMethod ⟨"java/lang/Object", "getClass", "()Ljava/lang/Class;"⟩).before a0 Z = true) (w6 : (Jvm.Cond.native ⟨"java/lang/Object", "getClass", "()Ljava/lang/Class;"⟩).before a0 Z = true) (eT : T.heap = h) {a mr : Addr} (E : Exa Z h a C) (M : ∃ (c : ClassId) (k : Class), Z.vm.findClass C = some c ∧ Z.vm.classes[c]? = some k ∧ k.mirror = some mr) (hsize : Ls.size = c.maxLocals) (hd : decode c.code pc = .ok (.invokevirtual index, 3)) (hf : 1 ≤ R.frames) {W : Nat} (hW : (st.map fun v => v.category).sum ≤ W) (hl : W + 14 ≤ R.locals)
    (k : ∀ T', Stand p l e R s m args below meth c T' locs cells slots → T'.heap = h → Goes p e below FE n0 Q (T'.setTop (mkF m (pc + 3) Ls (.ref mr :: st)))) : Goes p e below FE n0 Q (T.setTop (mkF m pc Ls (.ref a :: st))) := by
  obtain ⟨cB, kB, i1, i2, i3⟩ := isOf hZ eT E
  obtain ⟨cc, kc, m1, m2, m3⟩ := M
  rw [hZ.alike.findClass] at i1
  cases i1.symm.trans m1
  obtain ⟨k', q, ek⟩ := hZ.alike.2.2 _ _ m2
  obtain ⟨vm', X', st'⟩ := X.getClassOf hx hown (mvT hZ w1) (mvT hZ w2) (nf_top (args := #[]) (mvT hZ w3)) (mvT hZ w4) (mvT hZ w5) (mvT hZ w6) (by rw [hZ.alike.findClass]; exact m1) i3 q (by rw [ek]; exact m3) (g := mkF m pc Ls (.ref a :: st)) rfl hsize rfl hd hf (by show 2 * 0 + _ + (1 + 2 + 11) ≤ _; omega)
  exact Goes.via st' (k _ X' eT)
theorem own_ldcMir (X : Stand p l e R s m args below meth c T locs cells slots) (hx : p.tables.exec = Jvm.exec) (hZ : Z.Warmed39 s.vm) {own : String} {index : Nat} (hown : s.vm.findClass own = some m.cls) {C : String} (w : (Jvm.Cond.classLink own index C).before a0 Z = true) (eT : T.heap = h) {mr : Addr} (M : ∃ (c : ClassId) (k : Class), Z.vm.findClass C = some c ∧ Z.vm.classes[c]? = some k ∧ k.mirror = some mr) (hd : decode c.code pc = .ok (.ldc index, 2))
    (k : ∀ T', Stand p l e R s m args below meth c T' locs cells slots → T'.heap = h → Goes p e below FE n0 Q (T'.setTop (mkF m (pc + 2) Ls (.ref mr :: st)))) : Goes p e below FE n0 Q (T.setTop (mkF m pc Ls st)) := by
  obtain ⟨cc, kc, m1, m2, m3⟩ := M
  obtain ⟨k', q, ek⟩ := hZ.alike.2.2 _ _ m2
  have hf' : s.vm.findClass C = some cc := by rw [hZ.alike.findClass]; exact m1
  obtain ⟨vm', X', st'⟩ := X.ldcMirror hx hown (mv hZ w) (a := mr) (by
    have hm : k'.mirror = some mr := by first | (rw [ek]; exact m3) | (rw [← ek]; exact m3) | (have := congrArg Class.mirror ek; simp at this; rw [← this]; exact m3) | (have := congrArg Class.mirror ek; simp at this; rw [this]; exact m3)
    show ((s.vm.findClass C).bind fun c => (s.vm.classes[c]?).bind fun k => k.mirror.bind fun a => some (Value.ref a)) = some (.ref mr)
    rw [hf']
    show ((s.vm.classes[cc]?).bind fun k => k.mirror.bind fun a => some (Value.ref a)) = some (.ref mr)
    rw [q]
    show (k'.mirror.bind fun a => some (Value.ref a)) = some (.ref mr)
    rw [hm]
    rfl) (g := mkF m pc Ls st) rfl hd
  exact Goes.via st' (k _ X' eT)
theorem own_cpA (X : Stand p l e R s m args below meth c T locs cells slots) (hx : p.tables.exec = Jvm.exec) (hZ : Z.Warmed39 s.vm) {own : String} {index : Nat} (hown : s.vm.findClass own = some m.cls) (w1 : (Jvm.Cond.methodLink own index Jvm.Stand.acN).before a0 Z = true) (w2 : (Jvm.Cond.native Jvm.Stand.acN).before a0 Z = true) (w3 : (Jvm.Cond.static Jvm.Stand.acN).before a0 Z = true) (w4 : (Jvm.Cond.initialized "java/lang/System").before a0 Z = true) (eT : T.heap = h) {a b : Addr} {k k' : ClassId} {ty ty' : FieldType} {z z' sp dp nn : Int32} {vs vd us vr : List Value} {dv dd : Value} (A : Arv Z h a k ty z vs dv) (B : Arv Z h b k' ty' z' vd dd) (hty : (ty = ty' ∧ refKind ty = false) ∨ (refKind ty = true ∧ refKind ty' = true ∧ StoL Z h b us)) (h1 : ¬ sp < 0) (h2 : ¬ dp < 0) (h3 : ¬ nn < 0) (h4 : sp.toNatClampNeg + nn.toNatClampNeg ≤ z.toNatClampNeg) (h5 : dp.toNatClampNeg + nn.toNatClampNeg ≤ z'.toNatClampNeg) (hus : us = (List.range nn.toNatClampNeg).map fun i => vs.getD (sp.toNatClampNeg + i) dv) (hl : dp.toNatClampNeg + nn.toNatClampNeg ≤ vd.length) (hvr : vd.take dp.toNatClampNeg ++ us ++ vd.drop (dp.toNatClampNeg + nn.toNatClampNeg) = vr) (N : Fr n0 locs) (ge : n0 ≤ b) (hsize : Ls.size = c.maxLocals) (hd : decode c.code pc = .ok (.invokestatic index, 3)) (hf : 1 ≤ R.frames) {W : Nat} (hW : (st.map fun v => v.category).sum ≤ W) (hlo : W + 18 ≤ R.locals)
    (k : ∀ T' h' locs', Stand p l e R s m args below meth c T' locs' cells slots → T'.heap = h' → Fr n0 locs' → Keep h h' [b] → Arv Z h' b k' ty' z' vr dd → Goes p e below FE n0 Q (T'.setTop (mkF m (pc + 3) Ls st))) : Goes p e below FE n0 Q (T.setTop (mkF m pc Ls (.int nn :: .int dp :: .ref b :: .int sp :: .ref a :: st))) := by
  subst hvr
  obtain ⟨T', h', L, X', e', N', K', V', st'⟩ := cpA X hx hZ hown w1 w2 w3 w4 eT A B hty h1 h2 h3 h4 h5 hus hl N ge (g := mkF m pc Ls (.int nn :: .int dp :: .ref b :: .int sp :: .ref a :: st)) rfl hsize rfl hd hf (W := W) (by show 2 * 0 + _ ≤ _; omega) hlo
  exact Goes.via st' (k T' h' L X' e' N' K' V')
theorem own_retN (X : Stand p l e R s m args below meth c T locs cells slots) (hx : p.tables.exec = Jvm.exec) {t : FieldType} {z : Int32} (N : Fr n0 locs) (hlk : meth.locks = false) (hc : cells ≤ kc) (hs : slots ≤ ks) (hret : meth.sig.returnType = some t) (ht : t = .boolean ∨ t = .byte ∨ t = .char ∨ t = .short) (hd : decode c.code pc = .ok (.ireturn, 1)) (hq : Q (some (.int (nar t z))) T.heap) : Goes p e below (fun o t L => FrameEnd s o t L kc ks) n0 Q (T.setTop (mkF m pc Ls (.int z :: st))) :=
  Goes.ret X N hlk (fun h => by rw [hret] at h; cases h) hc hs hq (fun fs hr => retN X hx hret ht hd hr)
theorem own_retI (X : Stand p l e R s m args below meth c T locs cells slots) (hx : p.tables.exec = Jvm.exec) {z : Int32} (N : Fr n0 locs) (hlk : meth.locks = false) (hc : cells ≤ kc) (hs : slots ≤ ks) (hret : meth.sig.returnType = some .int) (hd : decode c.code pc = .ok (.ireturn, 1)) (hq : Q (some (.int z)) T.heap) : Goes p e below (fun o t L => FrameEnd s o t L kc ks) n0 Q (T.setTop (mkF m pc Ls (.int z :: st))) :=
  Goes.ret X N hlk (fun h => by rw [hret] at h; cases h) hc hs hq (fun fs hr => retOut X hx hret rfl (Or.inl ⟨rfl, Or.inl rfl, _, rfl⟩) hd hr)
theorem own_retJ (X : Stand p l e R s m args below meth c T locs cells slots) (hx : p.tables.exec = Jvm.exec) {z : Int64} (N : Fr n0 locs) (hlk : meth.locks = false) (hc : cells ≤ kc) (hs : slots ≤ ks) (hret : meth.sig.returnType = some .long) (hd : decode c.code pc = .ok (.lreturn, 1)) (hq : Q (some (.long z)) T.heap) : Goes p e below (fun o t L => FrameEnd s o t L kc ks) n0 Q (T.setTop (mkF m pc Ls (.long z :: st))) :=
  Goes.ret X N hlk (fun h => by rw [hret] at h; cases h) hc hs hq (fun fs hr => retOut X hx hret rfl (Or.inr (Or.inl ⟨rfl, rfl, _, rfl⟩)) hd hr)
theorem own_retR (X : Stand p l e R s m args below meth c T locs cells slots) (hx : p.tables.exec = Jvm.exec) {v : Value} {t : FieldType} (N : Fr n0 locs) (hlk : meth.locks = false) (hc : cells ≤ kc) (hs : slots ≤ ks) (hret : meth.sig.returnType = some t) (ht : t.isReference = true) (hv : v.isRef = true) (hn : narrow t v = v) (hd : decode c.code pc = .ok (.areturn, 1)) (hq : Q (some v) T.heap) : Goes p e below (fun o t L => FrameEnd s o t L kc ks) n0 Q (T.setTop (mkF m pc Ls (v :: st))) :=
  Goes.ret X N hlk (fun h => by rw [hret] at h; cases h) hc hs hq (fun fs hr => retOut X hx hret hn (Or.inr (Or.inr (Or.inr (Or.inr ⟨rfl, ht, hv⟩)))) hd hr)
theorem own_retV (X : Stand p l e R s m args below meth c T locs cells slots) (hx : p.tables.exec = Jvm.exec) (N : Fr n0 locs) (hlk : meth.locks = false) (hc : cells ≤ kc) (hs : slots ≤ ks) (hret : meth.sig.returnType = none) (hd : decode c.code pc = .ok (.return_, 1)) (hq : Q none T.heap) : Goes p e below (fun o t L => FrameEnd s o t L kc ks) n0 Q (T.setTop (mkF m pc Ls [])) :=
  Goes.ret X N hlk (fun _ => rfl) hc hs hq (fun fs hr => X.returnOut hx hret hd hr)
theorem own_bz {P : Prop} [Decidable P] (h : ¬ P) : (if P then (1 : Int32) else (0 : Int32)) = (0 : Int32) := if_neg h
theorem own_bnz {P : Prop} [Decidable P] (h : ¬ ¬ P) : ¬ ((if P then (1 : Int32) else (0 : Int32)) = (0 : Int32)) := by rw [if_pos (Classical.not_not.mp h)]; decide
theorem own_nb (P : Prop) [Decidable P] : narrow .boolean (.int (if P then (1 : Int32) else (0 : Int32))) = (.int (if P then (1 : Int32) else (0 : Int32))) ∧ fits .boolean (.int (if P then (1 : Int32) else (0 : Int32))) = true := by
  by_cases h : P
  · rw [if_pos h]; exact ⟨rfl, rfl⟩
  · rw [if_neg h]; exact ⟨rfl, rfl⟩
theorem own_narb (P : Prop) [Decidable P] : nar .boolean (if P then (1 : Int32) else (0 : Int32)) = (if P then (1 : Int32) else (0 : Int32)) := by
  by_cases h : P
  · rw [if_pos h]; rfl
  · rw [if_neg h]; rfl
theorem own_eq {args : Array Value} {s s' : State} {o : Option Outcome} {idx : List Nat} {a b : Term} {v : Value} (h : (Jvm.Cond.eq a b).value args s o s' idx = some true) (hb : b.eval args s o idx s' = some v) : a.eval args s o idx s' = some v := by
  simp only [Cond.value, hb] at h
  cases ha : a.eval args s o idx s' with
  | none => simp [ha] at h
  | some w => rw [ha] at h; cases w <;> cases v <;> simp_all
theorem own_len {args : Array Value} {t : Term} {a : Addr} {cl : Cell} {ty : FieldType} {z : Int32} (ev : t.eval args Z none [] Z = some (.ref a)) (A : Arr Z Z.heap a cl ty) (hl : (Term.length t).eval args Z none [] Z = some (.int z)) : cl.slots.size < 2 ^ 31 ∧ cl.slots.size.toInt32 = z := by
  have ha : Z.arrayAt? a = some cl := A.fin (Vm.Alike.refl _)
  by_cases q : cl.slots.size < 2 ^ 31
  · have h2 := (len_f ev ha q).symm.trans hl
    exact ⟨q, by cases h2; rfl⟩
  · simp [Term.eval, ev, ha, q] at hl
theorem own_arr {args : Array Value} {t : Term} {a : Addr} {cl : Cell} {ty : FieldType} {z : Int32} {vs : List Value} {dv : Value} (hf : Fit Z) (ev : t.eval args Z none [] Z = some (.ref a)) (A : Arr Z Z.heap a cl ty) (hl : (Term.length t).eval args Z none [] Z = some (.int z)) (hz : ¬ z < 0) (hn : z.toNatClampNeg = vs.length) (H : HasL cl 0 vs) : Arv Z Z.heap a cl.cls ty z vs dv :=
  Arv.start hf A (own_len ev A hl).1 (own_len ev A hl).2 hz hn H
theorem own_fold {f : Nat → Option Bool} : ∀ (L : List Nat) (acc : Option Bool), L.foldl (fun acc i => match acc with | some true => f i | x => x) acc = some true → acc = some true ∧ ∀ i ∈ L, f i = some true
  | [], acc, h => ⟨h, fun _ q => nomatch q⟩
  | i :: L, acc, h => by
    obtain ⟨h1, h2⟩ := own_fold L _ h
    have h3 : acc = some true := by rcases acc with _ | (_ | _) <;> simp_all
    subst h3
    exact ⟨rfl, fun j hj => by rcases List.mem_cons.mp hj with rfl | q; exact h1; exact h2 j q⟩
theorem own_all {args : Array Value} {first s : State} {o : Option Outcome} {idx : List Nat} {t : Term} {c : Jvm.Cond} {a : Addr} {cell : Cell} (h : (Jvm.Cond.all t c).value args first o s idx = some true) (ev : t.eval args first o idx s = some (.ref a)) (ha : s.arrayAt? a = some cell) : ∀ i, i < cell.slots.size → c.value args first o s (i :: idx) = some true := by
  intro i hi
  simp only [Cond.value, ev, ha] at h
  exact (own_fold _ _ h).2 i (List.mem_range.mpr hi)
theorem own_exaI {args : Array Value} {t : Term} {C : String} {idx : List Nat} (h : (Jvm.Cond.exactly t C).value args Z none Z idx = some true) : ∃ b, t.eval args Z none idx Z = some (.ref b) ∧ Exa Z Z.heap b C := by
  obtain ⟨a, c, cell, k, e1, e2, e3, e4, e5, e6, e7⟩ := Cond.exactly_spec (beq_iff_eq.mpr h : (Jvm.Cond.exactly t C).holds args Z none Z idx = true)
  subst e6
  exact ⟨a, e1, cell, k, e3, e2, e4, e5, e7⟩
theorem own_NSroot {O K : String} {nn : Nat} (w : (Jvm.Cond.noSuperclass O).before a0 Z = true) (wi : (Jvm.Cond.instantiable K nn).before a0 Z = true) (hn : O ≠ K) : NS Z O K := by
  obtain ⟨c, k, h1, h2, h3, -, -⟩ := Cond.noSuperclass_spec w
  obtain ⟨t, kt, g1, -⟩ := Cond.instantiable_spec wi
  have ne := ids_ne h1 g1 hn
  refine ⟨c, t, h1, g1, fun fuel => ?_⟩
  cases fuel with
  | zero => rfl
  | succ f => simp [Vm.isSubclassAux, ne, h2, h3]
theorem own_NSno {C S K : String} {nn : Nat} (w : (Jvm.Cond.superclass C S).before a0 Z = true) (wi : (Jvm.Cond.instantiable K nn).before a0 Z = true) (n : NS Z C K) (hn : C ≠ K) : ∃ c t, Z.vm.findClass C = some c ∧ Z.vm.findClass K = some t ∧ Z.vm.assignable c t = false := by
  obtain ⟨c, t, h0, g0, n3⟩ := n
  obtain ⟨p, k, kp, h1, h2, h3, h4, h5, -, h7⟩ := Cond.superclass_spec h0 w
  obtain ⟨t', k', g1, g2, g5, g7, -⟩ := Cond.instantiable_spec wi
  cases g0.symm.trans g1
  rw [Bool.or_eq_false_iff] at g7
  have ne := ids_ne h0 g0 hn
  refine ⟨c, t, h0, g0, ?_⟩
  show Z.vm.assignableAux (255 + 1) c t = false
  simp [Vm.assignableAux, ne, h2, g2, h5, g5, g7.1, Vm.isSubclass, n3]
end OwnKit
section OwnWide
variable {p : Program} {l : Launch} {e : Env} {R : Room} {s : State} {m : MethodId} {args : Array Value} {below : List Frame} {meth : Method} {c : Code} {T : State} {locs : List Loc} {cells slots : Nat} {Z : State} {a0 : Array Value} {h : Heap} {n0 kc ks k0 : Nat} {vm0 : Vm} {FE : Outcome → State → List Loc → Prop} {Q : Option Value → Heap → Prop} {pc pc' : Nat} {Ls Ls' : Array Slot} {st : List Value}
/-- the contract of a body that may load String constants -/
def MeetsW (l : Launch) (y : MethodName) (bytes : ByteArray) (maxL : Nat) (ret : Option FieldType) (ws : List Jvm.Cond) (rm : Room) (kc ks : Nat) (Z : State) (as' : Array Value) (h : Heap) (n0 : Nat) (Q : Option Value → Heap → Prop) : Prop :=
  MetFree l y (head1 (Jvm.Cond.code y bytes maxL ret :: ws) rm) (fun a U => a = as' ∧ Z.Warmed39 U.vm ∧ U.heap = h) (fun _ _ _ _ _ => True) (fun _ U o U' => ∃ v L, o = .returned v ∧ (Fr n0 L ∧ Q v U'.heap) ∧ ReturnedEndW U o U' L kc ks)
theorem MeetsW.of {y : MethodName} {bytes : ByteArray} {maxL : Nat} {ret : Option FieldType} {ws : List Jvm.Cond} {rm : Room} {as' : Array Value} (hx : plainFor y = true) {F : MethodId → JFrame} (hF : ∀ m, entryFrame m as' maxL = F m)
    (body : ∀ p e s m below meth c T, p.tables.exec = Jvm.exec → c.code = bytes → c.maxLocals = maxL → s.vm.findClass y.cls = some m.cls → meth.name = y.name → meth.sig.returnType = ret → meth.locks = false → Z.Warmed39 s.vm → s.Since s.vm 0 →
      Stand p l e rm (s.setVm s.vm) m as' below meth c T [] 0 0 → T.heap = h → Goes p e below (fun o t L => ReturnedEndW s o t L kc ks) n0 Q (T.setTop (F m))) :
    MeetsW l y bytes maxL ret ws rm kc ks Z as' h n0 Q := by
  refine MetFree.of_bodySF hx hisR ?_
  intro p e s m args below meth c s₁ Bd hml hP hK
  obtain ⟨rfl, hZ, hh⟩ := hP
  have X0 : Stand p l e rm s m args below meth c s₁ [] 0 0 := Stand.of_body Bd
  have e0 : s₁.heap = h := by rw [← hh, Bd.state]; rfl
  obtain ⟨s₂, o, k, r⟩ := body p e s m below meth c s₁ Bd.exec Bd.bytes hml (findClass_of_methodNamed Bd.named) (name_of_methodNamed Bd.named Bd.method).1 Bd.returns Bd.notSynchronized hZ ((State.WarmedH.refl s).since 0) X0 e0
  exact ⟨s₂, o, castTop (hF m) k, r⟩
theorem Goes.retW {S : State} {v : Option Value} (X : Stand p l e R (s.setVm vm0) m args below meth c T locs cells slots) (hS : s.Since vm0 k0) (hk : k0 ≤ T.heap.size) (N : Fr n0 locs) (hlk : meth.locks = false) (hv : meth.sig.returnType = none → v = none) (hc : cells ≤ kc) (hs : slots ≤ ks) (hq : Q v T.heap)
    (f : ∀ fs, (∀ (f : JFrame) (acts : List Action), f.method = m → f.locked = none → f.entered = [] → (doReturn e (T.setTop f) acts v).1 = T.setFrames fs) → Steps p.tables e below S (T.setFrames fs)) : Goes p e below (fun o t L => ReturnedEndW s o t L kc ks) n0 Q S := by
  obtain ⟨fs, hr, hrun, hended, hE⟩ := X.leaveW hS hk hv hlk
  exact ⟨_, _, f fs hr, hrun, hended, _, _, rfl, ⟨N, hq⟩, hE.1, hE.2.1, hE.2.2.1, hE.2.2.2.mono hc hs⟩
theorem own_retNW (X : Stand p l e R (s.setVm vm0) m args below meth c T locs cells slots) (hx : p.tables.exec = Jvm.exec) {t : FieldType} {z : Int32} (hS : s.Since vm0 k0) (hk : k0 ≤ T.heap.size) (N : Fr n0 locs) (hlk : meth.locks = false) (hc : cells ≤ kc) (hs : slots ≤ ks) (hret : meth.sig.returnType = some t) (ht : t = .boolean ∨ t = .byte ∨ t = .char ∨ t = .short) (hd : decode c.code pc = .ok (.ireturn, 1)) (hq : Q (some (.int (nar t z))) T.heap) : Goes p e below (fun o t L => ReturnedEndW s o t L kc ks) n0 Q (T.setTop (mkF m pc Ls (.int z :: st))) :=
  Goes.retW X hS hk N hlk (fun h => by rw [hret] at h; cases h) hc hs hq (fun fs hr => retN X hx hret ht hd hr)
theorem own_retIW (X : Stand p l e R (s.setVm vm0) m args below meth c T locs cells slots) (hx : p.tables.exec = Jvm.exec) {z : Int32} (hS : s.Since vm0 k0) (hk : k0 ≤ T.heap.size) (N : Fr n0 locs) (hlk : meth.locks = false) (hc : cells ≤ kc) (hs : slots ≤ ks) (hret : meth.sig.returnType = some .int) (hd : decode c.code pc = .ok (.ireturn, 1)) (hq : Q (some (.int z)) T.heap) : Goes p e below (fun o t L => ReturnedEndW s o t L kc ks) n0 Q (T.setTop (mkF m pc Ls (.int z :: st))) :=
  Goes.retW X hS hk N hlk (fun h => by rw [hret] at h; cases h) hc hs hq (fun fs hr => retOut X hx hret rfl (Or.inl ⟨rfl, Or.inl rfl, _, rfl⟩) hd hr)
theorem own_retRW (X : Stand p l e R (s.setVm vm0) m args below meth c T locs cells slots) (hx : p.tables.exec = Jvm.exec) {v : Value} {t : FieldType} (hS : s.Since vm0 k0) (hk : k0 ≤ T.heap.size) (N : Fr n0 locs) (hlk : meth.locks = false) (hc : cells ≤ kc) (hs : slots ≤ ks) (hret : meth.sig.returnType = some t) (ht : t.isReference = true) (hv : v.isRef = true) (hn : narrow t v = v) (hd : decode c.code pc = .ok (.areturn, 1)) (hq : Q (some v) T.heap) : Goes p e below (fun o t L => ReturnedEndW s o t L kc ks) n0 Q (T.setTop (mkF m pc Ls (v :: st))) :=
  Goes.retW X hS hk N hlk (fun h => by rw [hret] at h; cases h) hc hs hq (fun fs hr => retOut X hx hret hn (Or.inr (Or.inr (Or.inr (Or.inr ⟨rfl, ht, hv⟩)))) hd hr)
theorem own_retVW (X : Stand p l e R (s.setVm vm0) m args below meth c T locs cells slots) (hx : p.tables.exec = Jvm.exec) (hS : s.Since vm0 k0) (hk : k0 ≤ T.heap.size) (N : Fr n0 locs) (hlk : meth.locks = false) (hc : cells ≤ kc) (hs : slots ≤ ks) (hret : meth.sig.returnType = none) (hd : decode c.code pc = .ok (.return_, 1)) (hq : Q none T.heap) : Goes p e below (fun o t L => ReturnedEndW s o t L kc ks) n0 Q (T.setTop (mkF m pc Ls [])) :=
  Goes.retW X hS hk N hlk (fun _ => rfl) hc hs hq (fun fs hr => X.returnOut hx hret hd hr)
theorem own_ldcS (X : Stand p l e R (s.setVm vm0) m args below meth c T locs cells slots) (hx : p.tables.exec = Jvm.exec) (hZ : Z.Warmed39 (s.setVm vm0).vm) {own : String} {index : Nat} (hown : (s.setVm vm0).vm.findClass own = some m.cls) (hS : s.Since vm0 k0) (hk : k0 ≤ h.size) {text : String} (w : (Jvm.Cond.stringLink own index text).before a0 Z = true) (wS : ∀ a ∈ Bundle.stringAtoms, a.before a0 Z = true) (eT : T.heap = h) {n : Nat} (hd : decode c.code pc = .ok (.ldc index, 2)) (hn : 4 * text.toList.length ≤ n) (hbig : n ≤ 536870912) (hc : cells + 2 ≤ R.cells) (hl : slots + (n + 4) ≤ R.slots)
    (k : ∀ a T' h' k1, Stand p l e R (s.setVm T'.vm) m args below meth c T' locs (cells + 2) (slots + (n + 4)) → s.Since T'.vm k1 → k1 ≤ h'.size → Z.Warmed39 (s.setVm T'.vm).vm → (s.setVm T'.vm).vm.findClass own = some m.cls → T'.heap = h' → Ext h h' → Goes p e below FE n0 Q (T'.setTop (mkF m (pc + 2) Ls (.ref a :: st)))) : Goes p e below FE n0 Q (T.setTop (mkF m pc Ls st)) := by
  obtain ⟨a, T', h', k1, X', e', E', S', q1, Z', o', st'⟩ := ldcS X hx hZ hown w wS eT hS hk (g := mkF m pc Ls st) rfl hd hn hbig hc hl
  exact Goes.via st' (k a T' h' k1 X' S' q1 Z' o' e' E')
theorem own_callSW (X : Stand p l e R (s.setVm vm0) m args below meth c T locs cells slots) (hx : p.tables.exec = Jvm.exec) (hZ : Z.Warmed39 (s.setVm vm0).vm) {own : String} {index : Nat} (hown : (s.setVm vm0).vm.findClass own = some m.cls) (hS : s.Since vm0 k0) (hk : k0 ≤ h.size) {y : MethodName} {bytes : ByteArray} {maxL : Nat} {ret : Option FieldType} {rm : Room} {W : Nat} {Q' : Option Value → Heap → Prop} (w1 : (Jvm.Cond.methodLink own index y).before a0 Z = true) (w2 : (Jvm.Cond.static y).before a0 Z = true) (w3 : (Jvm.Cond.initialized y.cls).before a0 Z = true) (w4 : (Jvm.Cond.code y bytes maxL ret).before a0 Z = true) (hy : y.cls ≠ "java/lang/invoke/MethodHandle" ∧ y.cls ≠ "java/lang/invoke/VarHandle") (hf : rm.frames + 1 ≤ R.frames) (hl : W + (maxL + 11) + rm.locals ≤ R.locals) (N : Fr n0 locs) (eT : T.heap = h) (hsize : Ls.size = c.maxLocals) {argsL rest : List Value} (hlen : ∀ sig, parseMethodDescriptor y.desc = some sig → argsL.length = sig.parameters.length) (hW : (rest.map fun v => v.category).sum ≤ W) (hc : cells + rm.cells ≤ R.cells) (hs : slots + rm.slots ≤ R.slots) (M : MeetsW l y bytes maxL ret [] rm rm.cells rm.slots Z argsL.toArray h n0 Q') (hst : st = argsL.reverse ++ rest) (hd : decode c.code pc = .ok (.invokestatic index, 3))
    (k : ∀ v T' locs' k1, Stand p l e R (s.setVm T'.vm) m args below meth c T' locs' (cells + rm.cells) (slots + rm.slots) → s.Since T'.vm k1 → k1 ≤ T'.heap.size → Z.Warmed39 (s.setVm T'.vm).vm → (s.setVm T'.vm).vm.findClass own = some m.cls → Fr n0 locs' → Q' v T'.heap → Goes p e below FE n0 Q (T'.setTop (mkF m (pc + 3) Ls (v.toList ++ rest)))) : Goes p e below FE n0 Q (T.setTop (mkF m pc Ls st)) := by
  subst hst
  obtain ⟨v, _, ⟨T', L', k', n'⟩, -, X', h2, hg, ⟨Lc, hQ, l1, l2, l3⟩, st'⟩ := callSS X hx (y := y) hown (mvT hZ w1) (mvT hZ w2) (mvT hZ w3) (mvT hZ w4) hy (backOfS (W := W) (Q := fun v h L => Fr n0 L ∧ Q' v h) M hZ w4 w3 hf hl) (g := mkF m pc Ls (argsL.reverse ++ rest)) rfl hsize (argsL := argsL) (rest := rest) hlen rfl (by show 2 * 0 + _ ≤ _; omega) hd (fun _ _ => ⟨rfl, eT, hc, hs⟩)
  dsimp only [Pt.U, Pt.locs, Pt.cells, Pt.slots] at X' l1 l2 l3 st' hQ h2 hg
  subst l1 l2 l3
  obtain ⟨X'', S'', Z'', o''⟩ := rebS hS hk X' h2 (eT ▸ hg) hZ hown
  exact Goes.via (fun _ k => st'.trans k) (k v T' _ _ X'' S'' (Nat.le_refl _) Z'' o'' (Fr.app N hQ.1) hQ.2)
theorem own_virtualW (X : Stand p l e R (s.setVm vm0) m args below meth c T locs cells slots) (hx : p.tables.exec = Jvm.exec) (hZ : Z.Warmed39 (s.setVm vm0).vm) {own : String} {index : Nat} (hown : (s.setVm vm0).vm.findClass own = some m.cls) (hS : s.Since vm0 k0) (hk : k0 ≤ h.size) {y : MethodName} {bytes : ByteArray} {maxL : Nat} {ret : Option FieldType} {rm : Room} {W : Nat} {Q' : Option Value → Heap → Prop} {z : MethodName} {C : String} (w1 : (Jvm.Cond.methodLink own index y).before a0 Z = true) (w2 : (Jvm.Cond.declares y).before a0 Z = true) (hnf : NotFace (s.setVm vm0) y) (w5 : (Jvm.Cond.selects C y z).before a0 Z = true) (w6 : (Jvm.Cond.instanceMethod z).before a0 Z = true) (w3 : (Jvm.Cond.initialized z.cls).before a0 Z = true) (w4 : (Jvm.Cond.code z bytes maxL ret).before a0 Z = true) {a : Addr} (E : Exa Z h a C) (hy : y.cls ≠ "java/lang/invoke/MethodHandle" ∧ y.cls ≠ "java/lang/invoke/VarHandle") (hf : rm.frames + 1 ≤ R.frames) (hl : W + (maxL + 11) + rm.locals ≤ R.locals) (N : Fr n0 locs) (eT : T.heap = h) (hsize : Ls.size = c.maxLocals) {argsL rest : List Value} (hlen : ∀ sig, parseMethodDescriptor y.desc = some sig → argsL.length = sig.parameters.length) (hW : (rest.map fun v => v.category).sum ≤ W) (hc : cells + rm.cells ≤ R.cells) (hs : slots + rm.slots ≤ R.slots) (M : MeetsW l z bytes maxL ret [] rm rm.cells rm.slots Z (.ref a :: argsL).toArray h n0 Q') (hst : st = argsL.reverse ++ .ref a :: rest) (hd : decode c.code pc = .ok (.invokevirtual index, 3))
    (k : ∀ v T' locs' k1, Stand p l e R (s.setVm T'.vm) m args below meth c T' locs' (cells + rm.cells) (slots + rm.slots) → s.Since T'.vm k1 → k1 ≤ T'.heap.size → Z.Warmed39 (s.setVm T'.vm).vm → (s.setVm T'.vm).vm.findClass own = some m.cls → Fr n0 locs' → Q' v T'.heap → Goes p e below FE n0 Q (T'.setTop (mkF m (pc + 3) Ls (v.toList ++ rest)))) : Goes p e below FE n0 Q (T.setTop (mkF m pc Ls st)) := by
  subst hst
  obtain ⟨cq, kq, qa, qb, qc⟩ := isOf hZ eT E
  obtain ⟨v, _, ⟨T', L', k', n'⟩, -, X', h2, hg, ⟨Lc, hQ, l1, l2, l3⟩, st'⟩ := X.virtualBackS hx (y := y) (z := z) hown (mvT hZ w1) (mvT hZ w2) hnf (mvT hZ w5) (mvT hZ w6) hy (backOfS (W := W) (Q := fun v h L => Fr n0 L ∧ Q' v h) M hZ w4 w3 hf hl) qa qc (g := mkF m pc Ls (argsL.reverse ++ .ref a :: rest)) rfl hsize (Steps.refl _) (argsL := argsL) (rest := rest) hlen rfl (by show 2 * 0 + _ ≤ _; omega) hd (fun _ _ => ⟨rfl, eT, hc, hs⟩)
  dsimp only [Pt.U, Pt.locs, Pt.cells, Pt.slots] at X' l1 l2 l3 st' hQ h2 hg
  subst l1 l2 l3
  obtain ⟨X'', S'', Z'', o''⟩ := rebS hS hk X' h2 (eT ▸ hg) hZ hown
  exact Goes.via (fun _ k => st'.trans k) (k v T' _ _ X'' S'' (Nat.le_refl _) Z'' o'' (Fr.app N hQ.1) hQ.2)
end OwnWide
section OwnHeld
variable {p : Program} {l : Launch} {e : Env} {R : Room} {s : State} {m : MethodId} {args : Array Value} {below : List Frame} {meth : Method} {c : Code} {T : State} {locs : List Loc} {cells slots : Nat} {Z : State} {a0 : Array Value} {h h' h0 : Heap} {n0 kc ks k0 : Nat} {vm0 : Vm} {FE : Outcome → State → List Loc → Prop} {Q : Option Value → Heap → Prop} {pc pc' : Nat} {Ls Ls' : Array Slot} {st : List Value} {EL : List (String × Nat)}
/-- x is a String of the signs cs, each 0 to 255 -/
def IsStr (Z : State) (h : Heap) (x : Addr) (cs : List Int32) : Prop := ∃ (t : Addr) (kb : ClassId), Exa Z h x "java/lang/String" ∧ Fld Z h x "java/lang/String" "value" "[B" (.ref t) ∧ Fld Z h x "java/lang/String" "coder" "B" (.int 0) ∧
  Arv Z h t kb .byte (Int32.ofNat cs.length) ((cs.map fun c => c.toInt8.toInt32).map Value.int) (.int 0) ∧ cs.length ≤ 4000 ∧ ∀ c ∈ cs, ¬ c < 0 ∧ ¬ (255 : Int32) < c
theorem IsStr.ext {x : Addr} {cs : List Int32} (S : IsStr Z h x cs) (E : Ext h h') : IsStr Z h' x cs := by
  obtain ⟨t, kb, a, b, c, d, r⟩ := S
  exact ⟨t, kb, a.ext E, b.ext E, c.ext E, d.ext E, r⟩
theorem IsStr.keep0 {x : Addr} {cs : List Int32} (S : IsStr Z h x cs) (K : Keep h h' []) : IsStr Z h' x cs := by
  obtain ⟨t, kb, a, b, c, d, r⟩ := S
  exact ⟨t, kb, a.keep K, b.keep K nin0, c.keep K nin0, d.keep K nin0, r⟩
theorem IsStr.exa {x : Addr} {cs : List Int32} (S : IsStr Z h x cs) : Exa Z h x "java/lang/String" := by
  obtain ⟨t, kb, a, r⟩ := S
  exact a
/-- a local's place that holds nothing or a word of one place -/
def Pl (x : Slot) : Prop := x = .unset ∨ (∃ b, x = .val (.ref b)) ∨ (∃ i, x = .val (.int i))
def MeetsH (l : Launch) (y : MethodName) (bytes : ByteArray) (maxL : Nat) (ret : Option FieldType) (ws : List Jvm.Cond) (rm : Room) (kc ks : Nat) (Z : State) (EL : List (String × Nat)) (as' : Array Value) (h : Heap) (n0 : Nat) (Q : Option Value → Heap → Prop) : Prop :=
  MetFree l y (head1 (Jvm.Cond.code y bytes maxL ret :: ws) rm) (fun a U => a = as' ∧ Z.Warmed39 U.vm ∧ U.heap = h ∧ CHv Z EL U.vm h) (fun _ _ _ _ _ => True) (fun _ U o U' => ∃ v L, o = .returned v ∧ (Fr n0 L ∧ Q v U'.heap) ∧ CHr Z EL U.vm U.heap U'.vm U'.heap ∧ ReturnedEndW U o U' L kc ks)
theorem MeetsH.of {y : MethodName} {bytes : ByteArray} {maxL : Nat} {ret : Option FieldType} {ws : List Jvm.Cond} {rm : Room} {as' : Array Value} (hx : plainFor y = true) {F : MethodId → JFrame} (hF : ∀ m, entryFrame m as' maxL = F m)
    (body : ∀ p e s m below meth c T, p.tables.exec = Jvm.exec → c.code = bytes → c.maxLocals = maxL → s.vm.findClass y.cls = some m.cls → meth.name = y.name → meth.sig.returnType = ret → meth.locks = false → Z.Warmed39 s.vm → s.Since s.vm 0 → CHv Z EL s.vm h →
      Stand p l e rm (s.setVm s.vm) m as' below meth c T [] 0 0 → T.heap = h → Goes p e below (fun o t L => CHr Z EL s.vm h t.vm t.heap ∧ ReturnedEndW s o t L kc ks) n0 Q (T.setTop (F m))) :
    MeetsH l y bytes maxL ret ws rm kc ks Z EL as' h n0 Q := by
  refine MetFree.of_bodySF hx hisR ?_
  intro p e s m args below meth c s₁ Bd hml hP hK
  obtain ⟨rfl, hZ, hh, hC⟩ := hP
  subst hh
  have X0 : Stand p l e rm s m args below meth c s₁ [] 0 0 := Stand.of_body Bd
  have e0 : s₁.heap = s.heap := by rw [Bd.state]; rfl
  obtain ⟨s₂, o, k, r⟩ := body p e s m below meth c s₁ Bd.exec Bd.bytes hml (findClass_of_methodNamed Bd.named) (name_of_methodNamed Bd.named Bd.method).1 Bd.returns Bd.notSynchronized hZ ((State.WarmedH.refl s).since 0) hC X0 e0
  exact ⟨s₂, o, castTop (hF m) k, r⟩
theorem Goes.retH {S : State} {v : Option Value} (X : Stand p l e R (s.setVm vm0) m args below meth c T locs cells slots) (hS : s.Since vm0 k0) (hk : k0 ≤ T.heap.size) (hZ : Z.Warmed39 vm0) (hEL : EW Z a0 EL) (C : CHr Z EL s.vm h0 vm0 T.heap) (N : Fr n0 locs) (hlk : meth.locks = false) (hv : meth.sig.returnType = none → v = none) (hc : cells ≤ kc) (hs : slots ≤ ks) (hq : Q v T.heap)
    (f : ∀ fs, (∀ (f : JFrame) (acts : List Action), f.method = m → f.locked = none → f.entered = [] → (doReturn e (T.setTop f) acts v).1 = T.setFrames fs) → Steps p.tables e below S (T.setFrames fs)) : Goes p e below (fun o t L => CHr Z EL s.vm h0 t.vm t.heap ∧ ReturnedEndW s o t L kc ks) n0 Q S := by
  obtain ⟨fs, hr, hrun, hended, hE⟩ := X.leaveW hS hk hv hlk
  have C' := C.trans (CHv.at X hZ hEL C.1)
  exact ⟨_, _, f fs hr, hrun, hended, _, _, rfl, ⟨N, hq⟩, C', hE.1, hE.2.1, hE.2.2.1, hE.2.2.2.mono hc hs⟩
theorem own_retNH (X : Stand p l e R (s.setVm vm0) m args below meth c T locs cells slots) (hx : p.tables.exec = Jvm.exec) {t : FieldType} {z : Int32} (hS : s.Since vm0 k0) (hk : k0 ≤ T.heap.size) (hZ : Z.Warmed39 vm0) (hEL : EW Z a0 EL) (C : CHr Z EL s.vm h0 vm0 T.heap) (N : Fr n0 locs) (hlk : meth.locks = false) (hc : cells ≤ kc) (hs : slots ≤ ks) (hret : meth.sig.returnType = some t) (ht : t = .boolean ∨ t = .byte ∨ t = .char ∨ t = .short) (hd : decode c.code pc = .ok (.ireturn, 1)) (hq : Q (some (.int (nar t z))) T.heap) : Goes p e below (fun o t L => CHr Z EL s.vm h0 t.vm t.heap ∧ ReturnedEndW s o t L kc ks) n0 Q (T.setTop (mkF m pc Ls (.int z :: st))) :=
  Goes.retH X hS hk hZ hEL C N hlk (fun h => by rw [hret] at h; cases h) hc hs hq (fun fs hr => retN X hx hret ht hd hr)
theorem own_ldcH (X : Stand p l e R (s.setVm vm0) m args below meth c T locs cells slots) (hx : p.tables.exec = Jvm.exec) (hZ : Z.Warmed39 (s.setVm vm0).vm) {own : String} {index : Nat} (hown : (s.setVm vm0).vm.findClass own = some m.cls) (hS : s.Since vm0 k0) (hk : k0 ≤ h.size) {text : String} (w : (Jvm.Cond.stringLink own index text).before a0 Z = true) (wS : ∀ a ∈ Bundle.stringAtoms, a.before a0 Z = true) (hEL : EW Z a0 EL) (hmem : (own, index) ∈ EL) (H : CHv Z EL vm0 h) (eT : T.heap = h) {cs : List Int32} (ht : (∀ c ∈ text.toList, c.toNat < 256) ∧ text.toList.map (fun c => Value.int (Jvm.Lit.byteI c.toNat.toUInt16)) = (cs.map fun c => c.toInt8.toInt32).map Value.int) (hz : ¬ Int32.ofNat cs.length < 0 ∧ (Int32.ofNat cs.length).toNatClampNeg = cs.length) (h4 : cs.length ≤ 4000) (h5 : ∀ c ∈ cs, ¬ c < 0 ∧ ¬ (255 : Int32) < c) {n : Nat} (hd : decode c.code pc = .ok (.ldc index, 2)) (hn : 4 * text.toList.length ≤ n) (hbig : n ≤ 536870912) (hc : cells + 2 ≤ R.cells) (hl : slots + (n + 4) ≤ R.slots)
    (k : ∀ a T' h' k1, Stand p l e R (s.setVm T'.vm) m args below meth c T' locs (cells + 2) (slots + (n + 4)) → s.Since T'.vm k1 → k1 ≤ h'.size → Z.Warmed39 (s.setVm T'.vm).vm → (s.setVm T'.vm).vm.findClass own = some m.cls → T'.heap = h' → Ext h h' → CHr Z EL vm0 h T'.vm h' → IsStr Z h' a cs → Goes p e below FE n0 Q (T'.setTop (mkF m (pc + 2) Ls (.ref a :: st)))) : Goes p e below FE n0 Q (T.setTop (mkF m pc Ls st)) := by
  obtain ⟨a, T', h', k1, b, kb, X', e', E', S', q1, Z', o', f1, f2, f3, f4, -, -, hC, -, -, st'⟩ := ldcCH X hx hZ hown w wS eT hS hk hEL hmem H ht hz.1 (by rw [hz.2]; simp) (g := mkF m pc Ls st) rfl hd hn hbig hc hl
  exact Goes.via st' (k a T' h' k1 X' S' q1 Z' o' e' E' hC ⟨b, kb, f1, f3, f2, f4, h4, h5⟩)
theorem own_virtualH (X : Stand p l e R (s.setVm vm0) m args below meth c T locs cells slots) (hx : p.tables.exec = Jvm.exec) (hZ : Z.Warmed39 (s.setVm vm0).vm) {own : String} {index : Nat} (hown : (s.setVm vm0).vm.findClass own = some m.cls) (hS : s.Since vm0 k0) (hk : k0 ≤ h.size) {y : MethodName} {bytes : ByteArray} {maxL : Nat} {ret : Option FieldType} {rm : Room} {W : Nat} {Q' : Option Value → Heap → Prop} {z : MethodName} {C : String} (w1 : (Jvm.Cond.methodLink own index y).before a0 Z = true) (w2 : (Jvm.Cond.declares y).before a0 Z = true) (hnf : NotFace (s.setVm vm0) y) (w5 : (Jvm.Cond.selects C y z).before a0 Z = true) (w6 : (Jvm.Cond.instanceMethod z).before a0 Z = true) (w3 : (Jvm.Cond.initialized z.cls).before a0 Z = true) (w4 : (Jvm.Cond.code z bytes maxL ret).before a0 Z = true) {a : Addr} (E : Exa Z h a C) (hEL : EW Z a0 EL) (H : CHv Z EL vm0 h) (hy : y.cls ≠ "java/lang/invoke/MethodHandle" ∧ y.cls ≠ "java/lang/invoke/VarHandle") (hf : rm.frames + 1 ≤ R.frames) (hl : W + (maxL + 11) + rm.locals ≤ R.locals) (N : Fr n0 locs) (eT : T.heap = h) (hsize : Ls.size = c.maxLocals) {argsL rest : List Value} (hlen : ∀ sig, parseMethodDescriptor y.desc = some sig → argsL.length = sig.parameters.length) (hW : (rest.map fun v => v.category).sum ≤ W) (hc : cells + rm.cells ≤ R.cells) (hs : slots + rm.slots ≤ R.slots) (M : MeetsH l z bytes maxL ret [] rm rm.cells rm.slots Z EL (.ref a :: argsL).toArray h n0 Q') (hst : st = argsL.reverse ++ .ref a :: rest) (hd : decode c.code pc = .ok (.invokevirtual index, 3))
    (k : ∀ v T' locs' k1, Stand p l e R (s.setVm T'.vm) m args below meth c T' locs' (cells + rm.cells) (slots + rm.slots) → s.Since T'.vm k1 → k1 ≤ T'.heap.size → Z.Warmed39 (s.setVm T'.vm).vm → (s.setVm T'.vm).vm.findClass own = some m.cls → Fr n0 locs' → CHr Z EL vm0 h T'.vm T'.heap → Q' v T'.heap → Goes p e below FE n0 Q (T'.setTop (mkF m (pc + 3) Ls (v.toList ++ rest)))) : Goes p e below FE n0 Q (T.setTop (mkF m pc Ls st)) := by
  subst hst
  obtain ⟨cq, kq, qa, qb, qc⟩ := isOf hZ eT E
  obtain ⟨v, _, ⟨T', L', k', n'⟩, -, X', h2, hg, ⟨Lc, hQ, l1, l2, l3, hC⟩, st'⟩ := X.virtualBackS hx (y := y) (z := z) hown (mvT hZ w1) (mvT hZ w2) hnf (mvT hZ w5) (mvT hZ w6) hy (backOfSH (W := W) (Q := fun v h L => Fr n0 L ∧ Q' v h) M hZ w4 w3 hf hl hEL H) qa qc (g := mkF m pc Ls (argsL.reverse ++ .ref a :: rest)) rfl hsize (Steps.refl _) (argsL := argsL) (rest := rest) hlen rfl (by show 2 * 0 + _ ≤ _; omega) hd (fun _ _ => ⟨rfl, eT, hc, hs⟩)
  dsimp only [Pt.U, Pt.locs, Pt.cells, Pt.slots] at X' l1 l2 l3 st' hQ h2 hg hC
  subst l1 l2 l3
  obtain ⟨X'', S'', Z'', o''⟩ := rebS hS hk X' h2 (eT ▸ hg) hZ hown
  exact Goes.via (fun _ k => st'.trans k) (k v T' _ _ X'' S'' (Nat.le_refl _) Z'' o'' (Fr.app N hQ.1) hC hQ.2)
theorem own_strNew (X : Stand p l e R s m args below meth c T locs cells slots) (hx : p.tables.exec = Jvm.exec) (hZ : Z.Warmed39 s.vm) {own : String} {index : Nat} (hown : s.vm.findClass own = some m.cls) {bytes : ByteArray} (w1 : (Jvm.Cond.methodLink own index (⟨"java/lang/String", "<init>", "([C)V"⟩ : MethodName)).before a0 Z = true) (w2 : (Jvm.Cond.instanceMethod (⟨"java/lang/String", "<init>", "([C)V"⟩ : MethodName)).before a0 Z = true) (w4 : (Jvm.Cond.code (⟨"java/lang/String", "<init>", "([C)V"⟩ : MethodName) bytes 2 none).before a0 Z = true) (hws : ∀ d ∈ StrChars.Road.words, d.before a0 Z = true) (wi : (Jvm.Cond.instantiable "java/lang/String" 4).before a0 Z = true) {x b : Addr} {kC : ClassId} {cs : List Int32} {v0 c0 d : Value} {z : Int32} (N : Fr n0 locs) (eT : T.heap = h) (hx0 : n0 ≤ x) (hh0 : n0 ≤ h.size) (E : Exa Z h x "java/lang/String") (V : Fld Z h x "java/lang/String" "value" "[B" v0) (C : Fld Z h x "java/lang/String" "coder" "B" c0) {n : Nat} {Nn : Int32} (hn : cs.length = n) (hN : Nn = Int32.ofNat n) (K : Arv Z h b kC .char Nn (cs.map Value.int) d) (S : Sta Z h "java/lang/String" "COMPACT_STRINGS" "Z" (.int z)) (hz : ¬ z = 0) (l0 : 0 < n) (l2 : n ≤ 4000) (hp : ∀ c ∈ cs, ¬ c < 0 ∧ ¬ (255 : Int32) < c) {W : Nat} {rest : List Value} (hfr : 4 ≤ R.frames) (hlo : W + 65 ≤ R.locals) (hsize : Ls.size = c.maxLocals) (hW : (rest.map fun v => v.category).sum ≤ W) (hc : cells + 1 ≤ R.cells) (hs : slots + n ≤ R.slots) (hd : decode c.code pc = .ok (.invokespecial index, 3))
    (k : ∀ T' locs' h', Stand p l e R s m args below meth c T' locs' (cells + 1) (slots + n) → T'.heap = h' → Fr n0 locs' → Keep h h' [x] → IsStr Z h' x cs → Goes p e below FE n0 Q (T'.setTop (mkF m (pc + 3) Ls rest))) : Goes p e below FE n0 Q (T.setTop (mkF m pc Ls (.ref b :: .ref x :: rest))) := by
  subst hn hN
  obtain ⟨v, _, ⟨T', L', k', n'⟩, -, X', ⟨Lc, ⟨rfl, q1, q2, q3, q4, t, kb, -, -, -, q5, q6⟩, l1, l2', l3⟩, st'⟩ := X.specialBack hx (y := (⟨"java/lang/String", "<init>", "([C)V"⟩ : MethodName)) rfl hown (mvT hZ w1) (mvT hZ w2) (mvT hZ w4) (by decide) (StrChars.Road.backV (W := W) (n0 := n0) (cs := cs) hZ hws wi hx0 hh0 E V C K S hz rfl rfl l0 l2 hp rfl hfr hlo) (g := mkF m pc Ls (.ref b :: .ref x :: rest)) rfl hsize (Steps.refl _) (a := x) (argsL := [.ref b]) (rest := rest) (lenOf (by decide +kernel : parseMethodDescriptor "([C)V" = some ⟨[.array .char], none⟩) rfl) rfl (by show 2 * 0 + _ ≤ _; omega) hd (fun _ _ => ⟨rfl, eT, hc, hs⟩)
  dsimp only [Pt.U, Pt.locs, Pt.cells, Pt.slots] at X' l1 l2' l3 st' q1 q2 q3 q4 q5 q6
  subst l1 l2' l3
  exact Goes.via (fun _ k => st'.trans k) (k T' _ _ X' rfl (Fr.app N q1) q2 ⟨t, kb, q3, q5, q4, q6, l2, hp⟩)
theorem own_strEq (X : Stand p l e R s m args below meth c T locs cells slots) (hx : p.tables.exec = Jvm.exec) (hZ : Z.Warmed39 s.vm) {own : String} {index : Nat} (hown : s.vm.findClass own = some m.cls) (w1 : (Jvm.Cond.methodLink own index (⟨"java/lang/String", "equals", "(Ljava/lang/Object;)Z"⟩ : MethodName)).before a0 Z = true) (w2 : (Jvm.Cond.declares (⟨"java/lang/String", "equals", "(Ljava/lang/Object;)Z"⟩ : MethodName)).before a0 Z = true) (hnf : NotFace s (⟨"java/lang/String", "equals", "(Ljava/lang/Object;)Z"⟩ : MethodName)) (w5 : (Jvm.Cond.selects "java/lang/String" (⟨"java/lang/String", "equals", "(Ljava/lang/Object;)Z"⟩ : MethodName) (⟨"java/lang/String", "equals", "(Ljava/lang/Object;)Z"⟩ : MethodName)).before a0 Z = true) (w6 : (Jvm.Cond.instanceMethod (⟨"java/lang/String", "equals", "(Ljava/lang/Object;)Z"⟩ : MethodName)).before a0 Z = true) (hws : ∀ d ∈ StrChars.Road.wordsEq, d.before a0 Z = true) (wi : (Jvm.Cond.instantiable "java/lang/String" 4).before a0 Z = true) {x y : Addr} {cs ds : List Int32} {z : Int32} (eT : T.heap = h) (Sx : IsStr Z h x cs) (Sy : IsStr Z h y ds) (S : Sta Z h "java/lang/String" "COMPACT_STRINGS" "Z" (.int z)) (hz : ¬ z = 0) {W : Nat} {rest : List Value} (hfr : 2 ≤ R.frames) (hlo : W + 28 ≤ R.locals) (hsize : Ls.size = c.maxLocals) (hW : (rest.map fun v => v.category).sum ≤ W) (hc : cells ≤ R.cells) (hs : slots ≤ R.slots) (hd : decode c.code pc = .ok (.invokevirtual index, 3))
    (k : ∀ T' (v : Int32), Stand p l e R s m args below meth c T' locs cells slots → T'.heap = h → ((v = 1 ∧ cs = ds) ∨ (v = 0 ∧ ¬ cs = ds)) → Goes p e below FE n0 Q (T'.setTop (mkF m (pc + 3) Ls (.int v :: rest)))) : Goes p e below FE n0 Q (T.setTop (mkF m pc Ls (.ref y :: .ref x :: rest))) := by
  obtain ⟨t, kb, E1, V1, C1, A1, b1, b2⟩ := Sx
  obtain ⟨t', kb', E2, V2, C2, A2, d1, d2⟩ := Sy
  obtain ⟨cq, kq, qa, qb, qc⟩ := isOf hZ eT E1
  have up : ∀ {l : List Int32}, (∀ c ∈ l, ¬ c < 0 ∧ ¬ (255 : Int32) < c) → ∀ c ∈ l, ¬ c < 0 ∧ ¬ (65535 : Int32) < c := fun hl c hc => ⟨(hl c hc).1, fun q => (hl c hc).2 (Int32.lt_trans (by decide) q)⟩
  obtain ⟨v, _, ⟨T', L', k', n'⟩, -, X', ⟨Lc, ⟨hq, rfl, eH⟩, l1, l2, l3⟩, st'⟩ := X.virtualBack hx (y := (⟨"java/lang/String", "equals", "(Ljava/lang/Object;)Z"⟩ : MethodName)) (z := (⟨"java/lang/String", "equals", "(Ljava/lang/Object;)Z"⟩ : MethodName)) hown (mvT hZ w1) (mvT hZ w2) hnf (mvT hZ w5) (mvT hZ w6) (by decide) (StrChars.Road.eqW (W := W) hZ hws wi E1 V1 C1 A1 (StrChars.Road.codOf rfl fun c hc => (b2 c hc).2) (up b2) b1 E2 V2 C2 A2 (StrChars.Road.codOf rfl fun c hc => (d2 c hc).2) (up d2) d1 S hz hfr hlo) qa qc (g := mkF m pc Ls (.ref y :: .ref x :: rest)) rfl hsize (Steps.refl _) (argsL := [.ref y]) (rest := rest) (lenOf (by decide +kernel : parseMethodDescriptor "(Ljava/lang/Object;)Z" = some ⟨[.object "java/lang/Object"], some .boolean⟩) rfl) rfl (by show 2 * 0 + _ ≤ _; omega) hd (fun _ _ => ⟨rfl, eT, hc, hs⟩)
  dsimp only [Pt.U, Pt.locs, Pt.cells, Pt.slots] at X' l1 l2 l3 st' hq eH
  subst l1 l2 l3
  rw [List.append_nil] at X'
  rcases hq with ⟨rfl, q⟩ | ⟨rfl, q⟩
  · exact Goes.via (fun _ k => st'.trans k) (k T' 1 X' eH (Or.inl ⟨rfl, q⟩))
  · exact Goes.via (fun _ k => st'.trans k) (k T' 0 X' eH (Or.inr ⟨rfl, q⟩))
theorem own_gd (l : List Int32) (i : Nat) (x : Int32) : (l.map Value.int).getD i (.int x) = .int (l.getD i x) := by
  simp only [List.getD_eq_getElem?_getD, List.getElem?_map]
  cases l[i]? <;> rfl
theorem own_seteq (l : List Int32) (i : Nat) (x : Int32) (hi : i < l.length) : l.set i x = l ↔ l.getD i 0 = x := by
  rw [List.getD_eq_getElem?_getD, List.getElem?_eq_getElem hi, Option.getD_some]
  constructor
  · intro q
    have := congrArg (fun z => z[i]?) q
    simp only [List.getElem?_set_self hi, List.getElem?_eq_getElem hi, Option.some.injEq] at this
    exact this.symm
  · intro q
    rw [← q, List.set_getElem_self]
theorem own_setb {l : List Int32} (h : ∀ c ∈ l, ¬ c < 0 ∧ ¬ (255 : Int32) < c) (i : Nat) {x : Int32} (hx : ¬ x < 0 ∧ ¬ (255 : Int32) < x) : ∀ c ∈ l.set i x, ¬ c < 0 ∧ ¬ (255 : Int32) < c := fun c hc => by
  rcases List.mem_or_eq_of_mem_set hc with q | rfl
  · exact h c q
  · exact hx
end OwnHeld
def tx0 : List Int32 := [117, 114, 110, 58, 111, 97, 115, 105, 115, 58, 110, 97, 109, 101, 115, 58, 116, 99, 58, 83, 65, 77, 76, 58, 50, 46, 48, 58, 115, 116, 97, 116, 117, 115, 58, 82, 101, 115, 112, 111, 110, 100, 101, 114]
theorem tx0_t : (∀ c ∈ ("urn:oasis:names:tc:SAML:2.0:status:Responder" : String).toList, c.toNat < 256) ∧ ("urn:oasis:names:tc:SAML:2.0:status:Responder" : String).toList.map (fun c => Value.int (Jvm.Lit.byteI c.toNat.toUInt16)) = (tx0.map fun c => c.toInt8.toInt32).map Value.int := by decide +kernel
theorem tx0_z : ¬ Int32.ofNat tx0.length < 0 ∧ (Int32.ofNat tx0.length).toNatClampNeg = tx0.length := by decide +kernel
theorem tx0_4 : tx0.length ≤ 4000 := by decide +kernel
theorem tx0_5 : ∀ c ∈ tx0, ¬ c < 0 ∧ ¬ (255 : Int32) < c := by decide +kernel
def tx1 : List Int32 := [117, 114, 110, 58, 111, 97, 115, 105, 115, 58, 110, 97, 109, 101, 115, 58, 116, 99, 58, 83, 65, 77, 76, 58, 50, 46, 48, 58, 115, 116, 97, 116, 117, 115, 58, 65, 117, 116, 104, 110, 70, 97, 105, 108, 101, 100]
theorem tx1_t : (∀ c ∈ ("urn:oasis:names:tc:SAML:2.0:status:AuthnFailed" : String).toList, c.toNat < 256) ∧ ("urn:oasis:names:tc:SAML:2.0:status:AuthnFailed" : String).toList.map (fun c => Value.int (Jvm.Lit.byteI c.toNat.toUInt16)) = (tx1.map fun c => c.toInt8.toInt32).map Value.int := by decide +kernel
theorem tx1_z : ¬ Int32.ofNat tx1.length < 0 ∧ (Int32.ofNat tx1.length).toNatClampNeg = tx1.length := by decide +kernel
theorem tx1_4 : tx1.length ≤ 4000 := by decide +kernel
theorem tx1_5 : ∀ c ∈ tx1, ¬ c < 0 ∧ ¬ (255 : Int32) < c := by decide +kernel
def tx2 : List Int32 := [117, 114, 110, 58, 111, 97, 115, 105, 115, 58, 110, 97, 109, 101, 115, 58, 116, 99, 58, 83, 65, 77, 76, 58, 50, 46, 48, 58, 115, 116, 97, 116, 117, 115, 58, 86, 101, 114, 115, 105, 111, 110, 77, 105, 115, 109, 97, 116, 99, 104]
theorem tx2_t : (∀ c ∈ ("urn:oasis:names:tc:SAML:2.0:status:VersionMismatch" : String).toList, c.toNat < 256) ∧ ("urn:oasis:names:tc:SAML:2.0:status:VersionMismatch" : String).toList.map (fun c => Value.int (Jvm.Lit.byteI c.toNat.toUInt16)) = (tx2.map fun c => c.toInt8.toInt32).map Value.int := by decide +kernel
theorem tx2_z : ¬ Int32.ofNat tx2.length < 0 ∧ (Int32.ofNat tx2.length).toNatClampNeg = tx2.length := by decide +kernel
theorem tx2_4 : tx2.length ≤ 4000 := by decide +kernel
theorem tx2_5 : ∀ c ∈ tx2, ¬ c < 0 ∧ ¬ (255 : Int32) < c := by decide +kernel
def tx3 : List Int32 := [117, 114, 110, 58, 111, 97, 115, 105, 115, 58, 110, 97, 109, 101, 115, 58, 116, 99, 58, 83, 65, 77, 76, 58, 50, 46, 48, 58, 115, 116, 97, 116, 117, 115, 58, 78, 111, 65, 117, 116, 104, 110, 67, 111, 110, 116, 101, 120, 116]
theorem tx3_t : (∀ c ∈ ("urn:oasis:names:tc:SAML:2.0:status:NoAuthnContext" : String).toList, c.toNat < 256) ∧ ("urn:oasis:names:tc:SAML:2.0:status:NoAuthnContext" : String).toList.map (fun c => Value.int (Jvm.Lit.byteI c.toNat.toUInt16)) = (tx3.map fun c => c.toInt8.toInt32).map Value.int := by decide +kernel
theorem tx3_z : ¬ Int32.ofNat tx3.length < 0 ∧ (Int32.ofNat tx3.length).toNatClampNeg = tx3.length := by decide +kernel
theorem tx3_4 : tx3.length ≤ 4000 := by decide +kernel
theorem tx3_5 : ∀ c ∈ tx3, ¬ c < 0 ∧ ¬ (255 : Int32) < c := by decide +kernel
def tx4 : List Int32 := [117, 114, 110, 58, 111, 97, 115, 105, 115, 58, 110, 97, 109, 101, 115, 58, 116, 99, 58, 83, 65, 77, 76, 58, 50, 46, 48, 58, 115, 116, 97, 116, 117, 115, 58, 83, 117, 99, 99, 101, 115, 115]
theorem tx4_t : (∀ c ∈ ("urn:oasis:names:tc:SAML:2.0:status:Success" : String).toList, c.toNat < 256) ∧ ("urn:oasis:names:tc:SAML:2.0:status:Success" : String).toList.map (fun c => Value.int (Jvm.Lit.byteI c.toNat.toUInt16)) = (tx4.map fun c => c.toInt8.toInt32).map Value.int := by decide +kernel
theorem tx4_z : ¬ Int32.ofNat tx4.length < 0 ∧ (Int32.ofNat tx4.length).toNatClampNeg = tx4.length := by decide +kernel
theorem tx4_4 : tx4.length ≤ 4000 := by decide +kernel
theorem tx4_5 : ∀ c ∈ tx4, ¬ c < 0 ∧ ¬ (255 : Int32) < c := by decide +kernel
def tx5 : List Int32 := [117, 114, 110, 58, 111, 97, 115, 105, 115, 58, 110, 97, 109, 101, 115, 58, 116, 99, 58, 83, 65, 77, 76, 58, 50, 46, 48, 58, 115, 116, 97, 116, 117, 115, 58, 82, 101, 113, 117, 101, 115, 116, 101, 114]
theorem tx5_t : (∀ c ∈ ("urn:oasis:names:tc:SAML:2.0:status:Requester" : String).toList, c.toNat < 256) ∧ ("urn:oasis:names:tc:SAML:2.0:status:Requester" : String).toList.map (fun c => Value.int (Jvm.Lit.byteI c.toNat.toUInt16)) = (tx5.map fun c => c.toInt8.toInt32).map Value.int := by decide +kernel
theorem tx5_z : ¬ Int32.ofNat tx5.length < 0 ∧ (Int32.ofNat tx5.length).toNatClampNeg = tx5.length := by decide +kernel
theorem tx5_4 : tx5.length ≤ 4000 := by decide +kernel
theorem tx5_5 : ∀ c ∈ tx5, ¬ c < 0 ∧ ¬ (255 : Int32) < c := by decide +kernel
def Start (Z : State) (zc : Int32) : Prop :=
  Sta Z Z.heap "java/lang/String" "COMPACT_STRINGS" "Z" (.int zc) ∧
  (¬ (zc = (0 : Int32))) ∧
  True
theorem own_wNew {Z : State} {a0 : Array Value} (hw : ∀ d ∈ tables_1, d.before a0 Z = true) : ∀ d ∈ StrChars.Road.words, d.before a0 Z = true := fun d hd => hw d ((by decide +kernel : ∀ d ∈ StrChars.Road.words, d ∈ tables_1) d hd)
theorem own_wEq {Z : State} {a0 : Array Value} (hw : ∀ d ∈ tables_1, d.before a0 Z = true) : ∀ d ∈ StrChars.Road.wordsEq, d.before a0 Z = true := fun d hd => hw d ((by decide +kernel : ∀ d ∈ StrChars.Road.wordsEq, d ∈ tables_1) d hd)
theorem own_ch (x : Int32) : ¬ (x &&& (255 : Int32)) < 0 ∧ ¬ (255 : Int32) < (x &&& (255 : Int32)) := by
  have e := c_mask x 255 8 (by decide) (by decide)
  have a : (0 : Int32).toInt = 0 := by decide
  have b : (255 : Int32).toInt = 255 := by decide
  rw [Int32.lt_iff_toInt_lt, Int32.lt_iff_toInt_lt, a, b]
  omega
theorem own_isv {Z : State} {h : Heap} {b t : Addr} {k : ClassId} {x : Int32} (hx : ¬ x < 0 ∧ ¬ (255 : Int32) < x) (E : Exa Z h b "java/lang/String") (V : Fld Z h b "java/lang/String" "value" "[B" (.ref t)) (C : Fld Z h b "java/lang/String" "coder" "B" (.int (0 : Int32))) (A : Arv Z h t k .byte (1 : Int32) [(.int (nar .byte (x.toInt8.toInt32)))] (.int (0 : Int32))) : IsStr Z h b [x] := by
  refine ⟨t, k, E, V, C, ?_, by simp, fun c hc => by rw [List.mem_singleton.mp hc]; exact hx⟩
  have e : nar .byte (x.toInt8.toInt32) = x.toInt8.toInt32 := by simp [nar]
  rw [e] at A
  exact A
theorem own_lenne {cs ds : List Int32} (h : cs.length ≠ ds.length) : ¬ cs = ds := fun q => h (congrArg _ q)
theorem own_px (x : Int32) (n : Int32) (k : Nat) (hn : n.toInt = k) (h0 : 0 < k) : (¬ ((x &&& (2147483647 : Int32)) % n) < 0 ∧ ((x &&& (2147483647 : Int32)) % n) < n) ∧ ((x &&& (2147483647 : Int32)) % n).toNatClampNeg < k := by
  have e := c_mask x 2147483647 31 (by decide) (by decide)
  have q := (c_iremV (x &&& (2147483647 : Int32)) n).1 (by omega) (by omega)
  have a : (0 : Int32).toInt = 0 := by decide
  have hl : ¬ ((x &&& (2147483647 : Int32)) % n) < 0 := by rw [Int32.lt_iff_toInt_lt, a]; omega
  refine ⟨⟨hl, ?_⟩, ?_⟩
  · rw [Int32.lt_iff_toInt_lt]; omega
  · have := nat_of hl
    omega
theorem d10_0 : decode jdk_30_method_1_code 0 = .ok (.aload_n 0, 1) := by decide +kernel
theorem d10_1 : decode jdk_30_method_1_code 1 = .ok (.invokespecial 1, 3) := by decide +kernel
theorem d10_4 : decode jdk_30_method_1_code 4 = .ok (.return_, 1) := by decide +kernel
theorem pn_0 : plainName "java/lang/Record" = true := by first | (simp [plainName, overriddenIn]; done) | decide +kernel
def Q10 (Z : State) (a1 : Addr) (h0 : Heap) (n0 : Nat) (v : Option Value) (h : Heap) : Prop :=
  (v = none ∧ h = h0)
theorem ef_10 (m : MethodId) (a1 : Addr) : entryFrame m #[(.ref a1)] 1 = mkF m 0 #[.val (.ref a1)] [] := by first | (simp [entryFrame, mkF, argsToLocals, Value.category]; done) | rfl
set_option maxRecDepth 65536 in
set_option maxHeartbeats 40000000 in
theorem rm10 (l : Launch) (Z : State) (a0 : Array Value) (hw : ∀ d ∈ tables_1, d.before a0 Z = true) (ws : List Jvm.Cond) (a1 : Addr) (h0 : Heap) (n0 : Nat) (O0 : Old Z n0 h0) :
    Meets l (⟨"java/lang/Record", "<init>", "()V"⟩ : MethodName) jdk_30_method_1_code 1 none ws ({ frames := 1, cells := 0, slots := 0, locals := 12 } : Room) ({ frames := 1, cells := 0, slots := 0, locals := 12 } : Room).cells ({ frames := 1, cells := 0, slots := 0, locals := 12 } : Room).slots Z #[(.ref a1)] h0 n0 (Q10 Z a1 h0 n0) := by
  refine Meets.of (F := fun m => mkF m 0 #[.val (.ref a1)] []) (plainFor_of_name pn_0) (fun m => ef_10 m a1) ?_
  intro p e s m below meth c T0 hx hby hml hown0 hnm hret hlk hZ X0 e0
  have hown : s.vm.findClass "java/lang/Record" = some m.cls := hown0
  have N0 := Fr.nil n0
  show Goes _ _ _ _ _ _ (T0.setTop (mkF m 0 #[.val (.ref a1)] []))
  refine own_aloadN X0 hx (hb hby d10_0) rfl rfl ?_
  refine own_initO X0 hx hZ hown (hw _ (List.mem_of_getElem? (i := 49) rfl)) (hw _ (List.mem_of_getElem? (i := 16) rfl)) (hw _ (List.mem_of_getElem? (i := 17) rfl)) e0 (by rw [hml]; rfl) (hb hby d10_1) (by decide) (W := 0) (Nat.le_of_eq rfl) (by decide) (fun T1 X1 e1 => ?_)
  show Goes _ _ _ _ _ _ (T1.setTop (mkF m 4 #[.val (.ref a1)] []))
  exact own_retV X1 hx N0 hlk (by decide) (by decide) hret (hb hby d10_4) (by rw [e1]; exact ⟨rfl, rfl⟩)
theorem d1_0 : decode method_2_code 0 = .ok (.bipush 44, 2) := by decide +kernel
theorem d1_2 : decode method_2_code 2 = .ok (.newarray .char, 2) := by decide +kernel
theorem d1_4 : decode method_2_code 4 = .ok (.dup, 1) := by decide +kernel
theorem d1_5 : decode method_2_code 5 = .ok (.iconst 0, 1) := by decide +kernel
theorem d1_6 : decode method_2_code 6 = .ok (.bipush 117, 2) := by decide +kernel
theorem d1_8 : decode method_2_code 8 = .ok (.castore, 1) := by decide +kernel
theorem d1_9 : decode method_2_code 9 = .ok (.dup, 1) := by decide +kernel
theorem d1_10 : decode method_2_code 10 = .ok (.iconst 1, 1) := by decide +kernel
theorem d1_11 : decode method_2_code 11 = .ok (.bipush 114, 2) := by decide +kernel
theorem d1_13 : decode method_2_code 13 = .ok (.castore, 1) := by decide +kernel
theorem d1_14 : decode method_2_code 14 = .ok (.dup, 1) := by decide +kernel
theorem d1_15 : decode method_2_code 15 = .ok (.iconst 2, 1) := by decide +kernel
theorem d1_16 : decode method_2_code 16 = .ok (.bipush 110, 2) := by decide +kernel
theorem d1_18 : decode method_2_code 18 = .ok (.castore, 1) := by decide +kernel
theorem d1_19 : decode method_2_code 19 = .ok (.dup, 1) := by decide +kernel
theorem d1_20 : decode method_2_code 20 = .ok (.iconst 3, 1) := by decide +kernel
theorem d1_21 : decode method_2_code 21 = .ok (.bipush 58, 2) := by decide +kernel
theorem d1_23 : decode method_2_code 23 = .ok (.castore, 1) := by decide +kernel
theorem d1_24 : decode method_2_code 24 = .ok (.dup, 1) := by decide +kernel
theorem d1_25 : decode method_2_code 25 = .ok (.iconst 4, 1) := by decide +kernel
theorem d1_26 : decode method_2_code 26 = .ok (.bipush 111, 2) := by decide +kernel
theorem d1_28 : decode method_2_code 28 = .ok (.castore, 1) := by decide +kernel
theorem d1_29 : decode method_2_code 29 = .ok (.dup, 1) := by decide +kernel
theorem d1_30 : decode method_2_code 30 = .ok (.iconst 5, 1) := by decide +kernel
theorem d1_31 : decode method_2_code 31 = .ok (.bipush 97, 2) := by decide +kernel
theorem d1_33 : decode method_2_code 33 = .ok (.castore, 1) := by decide +kernel
theorem d1_34 : decode method_2_code 34 = .ok (.dup, 1) := by decide +kernel
theorem d1_35 : decode method_2_code 35 = .ok (.bipush 6, 2) := by decide +kernel
theorem d1_37 : decode method_2_code 37 = .ok (.bipush 115, 2) := by decide +kernel
theorem d1_39 : decode method_2_code 39 = .ok (.castore, 1) := by decide +kernel
theorem d1_40 : decode method_2_code 40 = .ok (.dup, 1) := by decide +kernel
theorem d1_41 : decode method_2_code 41 = .ok (.bipush 7, 2) := by decide +kernel
theorem d1_43 : decode method_2_code 43 = .ok (.bipush 105, 2) := by decide +kernel
theorem d1_45 : decode method_2_code 45 = .ok (.castore, 1) := by decide +kernel
theorem d1_46 : decode method_2_code 46 = .ok (.dup, 1) := by decide +kernel
theorem d1_47 : decode method_2_code 47 = .ok (.bipush 8, 2) := by decide +kernel
theorem d1_49 : decode method_2_code 49 = .ok (.bipush 115, 2) := by decide +kernel
theorem d1_51 : decode method_2_code 51 = .ok (.castore, 1) := by decide +kernel
theorem d1_52 : decode method_2_code 52 = .ok (.dup, 1) := by decide +kernel
theorem d1_53 : decode method_2_code 53 = .ok (.bipush 9, 2) := by decide +kernel
theorem d1_55 : decode method_2_code 55 = .ok (.bipush 58, 2) := by decide +kernel
theorem d1_57 : decode method_2_code 57 = .ok (.castore, 1) := by decide +kernel
theorem d1_58 : decode method_2_code 58 = .ok (.dup, 1) := by decide +kernel
theorem d1_59 : decode method_2_code 59 = .ok (.bipush 10, 2) := by decide +kernel
theorem d1_61 : decode method_2_code 61 = .ok (.bipush 110, 2) := by decide +kernel
theorem d1_63 : decode method_2_code 63 = .ok (.castore, 1) := by decide +kernel
theorem d1_64 : decode method_2_code 64 = .ok (.dup, 1) := by decide +kernel
theorem d1_65 : decode method_2_code 65 = .ok (.bipush 11, 2) := by decide +kernel
theorem d1_67 : decode method_2_code 67 = .ok (.bipush 97, 2) := by decide +kernel
theorem d1_69 : decode method_2_code 69 = .ok (.castore, 1) := by decide +kernel
theorem d1_70 : decode method_2_code 70 = .ok (.dup, 1) := by decide +kernel
theorem d1_71 : decode method_2_code 71 = .ok (.bipush 12, 2) := by decide +kernel
theorem d1_73 : decode method_2_code 73 = .ok (.bipush 109, 2) := by decide +kernel
theorem d1_75 : decode method_2_code 75 = .ok (.castore, 1) := by decide +kernel
theorem d1_76 : decode method_2_code 76 = .ok (.dup, 1) := by decide +kernel
theorem d1_77 : decode method_2_code 77 = .ok (.bipush 13, 2) := by decide +kernel
theorem d1_79 : decode method_2_code 79 = .ok (.bipush 101, 2) := by decide +kernel
theorem d1_81 : decode method_2_code 81 = .ok (.castore, 1) := by decide +kernel
theorem d1_82 : decode method_2_code 82 = .ok (.dup, 1) := by decide +kernel
theorem d1_83 : decode method_2_code 83 = .ok (.bipush 14, 2) := by decide +kernel
theorem d1_85 : decode method_2_code 85 = .ok (.bipush 115, 2) := by decide +kernel
theorem d1_87 : decode method_2_code 87 = .ok (.castore, 1) := by decide +kernel
theorem d1_88 : decode method_2_code 88 = .ok (.dup, 1) := by decide +kernel
theorem d1_89 : decode method_2_code 89 = .ok (.bipush 15, 2) := by decide +kernel
theorem d1_91 : decode method_2_code 91 = .ok (.bipush 58, 2) := by decide +kernel
theorem d1_93 : decode method_2_code 93 = .ok (.castore, 1) := by decide +kernel
theorem d1_94 : decode method_2_code 94 = .ok (.dup, 1) := by decide +kernel
theorem d1_95 : decode method_2_code 95 = .ok (.bipush 16, 2) := by decide +kernel
theorem d1_97 : decode method_2_code 97 = .ok (.bipush 116, 2) := by decide +kernel
theorem d1_99 : decode method_2_code 99 = .ok (.castore, 1) := by decide +kernel
theorem d1_100 : decode method_2_code 100 = .ok (.dup, 1) := by decide +kernel
theorem d1_101 : decode method_2_code 101 = .ok (.bipush 17, 2) := by decide +kernel
theorem d1_103 : decode method_2_code 103 = .ok (.bipush 99, 2) := by decide +kernel
theorem d1_105 : decode method_2_code 105 = .ok (.castore, 1) := by decide +kernel
theorem d1_106 : decode method_2_code 106 = .ok (.dup, 1) := by decide +kernel
theorem d1_107 : decode method_2_code 107 = .ok (.bipush 18, 2) := by decide +kernel
theorem d1_109 : decode method_2_code 109 = .ok (.bipush 58, 2) := by decide +kernel
theorem d1_111 : decode method_2_code 111 = .ok (.castore, 1) := by decide +kernel
theorem d1_112 : decode method_2_code 112 = .ok (.dup, 1) := by decide +kernel
theorem d1_113 : decode method_2_code 113 = .ok (.bipush 19, 2) := by decide +kernel
theorem d1_115 : decode method_2_code 115 = .ok (.bipush 83, 2) := by decide +kernel
theorem d1_117 : decode method_2_code 117 = .ok (.castore, 1) := by decide +kernel
theorem d1_118 : decode method_2_code 118 = .ok (.dup, 1) := by decide +kernel
theorem d1_119 : decode method_2_code 119 = .ok (.bipush 20, 2) := by decide +kernel
theorem d1_121 : decode method_2_code 121 = .ok (.bipush 65, 2) := by decide +kernel
theorem d1_123 : decode method_2_code 123 = .ok (.castore, 1) := by decide +kernel
theorem d1_124 : decode method_2_code 124 = .ok (.dup, 1) := by decide +kernel
theorem d1_125 : decode method_2_code 125 = .ok (.bipush 21, 2) := by decide +kernel
theorem d1_127 : decode method_2_code 127 = .ok (.bipush 77, 2) := by decide +kernel
theorem d1_129 : decode method_2_code 129 = .ok (.castore, 1) := by decide +kernel
theorem d1_130 : decode method_2_code 130 = .ok (.dup, 1) := by decide +kernel
theorem d1_131 : decode method_2_code 131 = .ok (.bipush 22, 2) := by decide +kernel
theorem d1_133 : decode method_2_code 133 = .ok (.bipush 76, 2) := by decide +kernel
theorem d1_135 : decode method_2_code 135 = .ok (.castore, 1) := by decide +kernel
theorem d1_136 : decode method_2_code 136 = .ok (.dup, 1) := by decide +kernel
theorem d1_137 : decode method_2_code 137 = .ok (.bipush 23, 2) := by decide +kernel
theorem d1_139 : decode method_2_code 139 = .ok (.bipush 58, 2) := by decide +kernel
theorem d1_141 : decode method_2_code 141 = .ok (.castore, 1) := by decide +kernel
theorem d1_142 : decode method_2_code 142 = .ok (.dup, 1) := by decide +kernel
theorem d1_143 : decode method_2_code 143 = .ok (.bipush 24, 2) := by decide +kernel
theorem d1_145 : decode method_2_code 145 = .ok (.bipush 50, 2) := by decide +kernel
theorem d1_147 : decode method_2_code 147 = .ok (.castore, 1) := by decide +kernel
theorem d1_148 : decode method_2_code 148 = .ok (.dup, 1) := by decide +kernel
theorem d1_149 : decode method_2_code 149 = .ok (.bipush 25, 2) := by decide +kernel
theorem d1_151 : decode method_2_code 151 = .ok (.bipush 46, 2) := by decide +kernel
theorem d1_153 : decode method_2_code 153 = .ok (.castore, 1) := by decide +kernel
theorem d1_154 : decode method_2_code 154 = .ok (.dup, 1) := by decide +kernel
theorem d1_155 : decode method_2_code 155 = .ok (.bipush 26, 2) := by decide +kernel
theorem d1_157 : decode method_2_code 157 = .ok (.bipush 48, 2) := by decide +kernel
theorem d1_159 : decode method_2_code 159 = .ok (.castore, 1) := by decide +kernel
theorem d1_160 : decode method_2_code 160 = .ok (.dup, 1) := by decide +kernel
theorem d1_161 : decode method_2_code 161 = .ok (.bipush 27, 2) := by decide +kernel
theorem d1_163 : decode method_2_code 163 = .ok (.bipush 58, 2) := by decide +kernel
theorem d1_165 : decode method_2_code 165 = .ok (.castore, 1) := by decide +kernel
theorem d1_166 : decode method_2_code 166 = .ok (.dup, 1) := by decide +kernel
theorem d1_167 : decode method_2_code 167 = .ok (.bipush 28, 2) := by decide +kernel
theorem d1_169 : decode method_2_code 169 = .ok (.bipush 115, 2) := by decide +kernel
theorem d1_171 : decode method_2_code 171 = .ok (.castore, 1) := by decide +kernel
theorem d1_172 : decode method_2_code 172 = .ok (.dup, 1) := by decide +kernel
theorem d1_173 : decode method_2_code 173 = .ok (.bipush 29, 2) := by decide +kernel
theorem d1_175 : decode method_2_code 175 = .ok (.bipush 116, 2) := by decide +kernel
theorem d1_177 : decode method_2_code 177 = .ok (.castore, 1) := by decide +kernel
theorem d1_178 : decode method_2_code 178 = .ok (.dup, 1) := by decide +kernel
theorem d1_179 : decode method_2_code 179 = .ok (.bipush 30, 2) := by decide +kernel
theorem d1_181 : decode method_2_code 181 = .ok (.bipush 97, 2) := by decide +kernel
theorem d1_183 : decode method_2_code 183 = .ok (.castore, 1) := by decide +kernel
theorem d1_184 : decode method_2_code 184 = .ok (.dup, 1) := by decide +kernel
theorem d1_185 : decode method_2_code 185 = .ok (.bipush 31, 2) := by decide +kernel
theorem d1_187 : decode method_2_code 187 = .ok (.bipush 116, 2) := by decide +kernel
theorem d1_189 : decode method_2_code 189 = .ok (.castore, 1) := by decide +kernel
theorem d1_190 : decode method_2_code 190 = .ok (.dup, 1) := by decide +kernel
theorem d1_191 : decode method_2_code 191 = .ok (.bipush 32, 2) := by decide +kernel
theorem d1_193 : decode method_2_code 193 = .ok (.bipush 117, 2) := by decide +kernel
theorem d1_195 : decode method_2_code 195 = .ok (.castore, 1) := by decide +kernel
theorem d1_196 : decode method_2_code 196 = .ok (.dup, 1) := by decide +kernel
theorem d1_197 : decode method_2_code 197 = .ok (.bipush 33, 2) := by decide +kernel
theorem d1_199 : decode method_2_code 199 = .ok (.bipush 115, 2) := by decide +kernel
theorem d1_201 : decode method_2_code 201 = .ok (.castore, 1) := by decide +kernel
theorem d1_202 : decode method_2_code 202 = .ok (.dup, 1) := by decide +kernel
theorem d1_203 : decode method_2_code 203 = .ok (.bipush 34, 2) := by decide +kernel
theorem d1_205 : decode method_2_code 205 = .ok (.bipush 58, 2) := by decide +kernel
theorem d1_207 : decode method_2_code 207 = .ok (.castore, 1) := by decide +kernel
theorem d1_208 : decode method_2_code 208 = .ok (.dup, 1) := by decide +kernel
theorem d1_209 : decode method_2_code 209 = .ok (.bipush 35, 2) := by decide +kernel
theorem d1_211 : decode method_2_code 211 = .ok (.bipush 82, 2) := by decide +kernel
theorem d1_213 : decode method_2_code 213 = .ok (.castore, 1) := by decide +kernel
theorem d1_214 : decode method_2_code 214 = .ok (.dup, 1) := by decide +kernel
theorem d1_215 : decode method_2_code 215 = .ok (.bipush 36, 2) := by decide +kernel
theorem d1_217 : decode method_2_code 217 = .ok (.bipush 101, 2) := by decide +kernel
theorem d1_219 : decode method_2_code 219 = .ok (.castore, 1) := by decide +kernel
theorem d1_220 : decode method_2_code 220 = .ok (.dup, 1) := by decide +kernel
theorem d1_221 : decode method_2_code 221 = .ok (.bipush 37, 2) := by decide +kernel
theorem d1_223 : decode method_2_code 223 = .ok (.bipush 115, 2) := by decide +kernel
theorem d1_225 : decode method_2_code 225 = .ok (.castore, 1) := by decide +kernel
theorem d1_226 : decode method_2_code 226 = .ok (.dup, 1) := by decide +kernel
theorem d1_227 : decode method_2_code 227 = .ok (.bipush 38, 2) := by decide +kernel
theorem d1_229 : decode method_2_code 229 = .ok (.bipush 112, 2) := by decide +kernel
theorem d1_231 : decode method_2_code 231 = .ok (.castore, 1) := by decide +kernel
theorem d1_232 : decode method_2_code 232 = .ok (.dup, 1) := by decide +kernel
theorem d1_233 : decode method_2_code 233 = .ok (.bipush 39, 2) := by decide +kernel
theorem d1_235 : decode method_2_code 235 = .ok (.bipush 111, 2) := by decide +kernel
theorem d1_237 : decode method_2_code 237 = .ok (.castore, 1) := by decide +kernel
theorem d1_238 : decode method_2_code 238 = .ok (.dup, 1) := by decide +kernel
theorem d1_239 : decode method_2_code 239 = .ok (.bipush 40, 2) := by decide +kernel
theorem d1_241 : decode method_2_code 241 = .ok (.bipush 110, 2) := by decide +kernel
theorem d1_243 : decode method_2_code 243 = .ok (.castore, 1) := by decide +kernel
theorem d1_244 : decode method_2_code 244 = .ok (.dup, 1) := by decide +kernel
theorem d1_245 : decode method_2_code 245 = .ok (.bipush 41, 2) := by decide +kernel
theorem d1_247 : decode method_2_code 247 = .ok (.bipush 100, 2) := by decide +kernel
theorem d1_249 : decode method_2_code 249 = .ok (.castore, 1) := by decide +kernel
theorem d1_250 : decode method_2_code 250 = .ok (.dup, 1) := by decide +kernel
theorem d1_251 : decode method_2_code 251 = .ok (.bipush 42, 2) := by decide +kernel
theorem d1_253 : decode method_2_code 253 = .ok (.bipush 101, 2) := by decide +kernel
theorem d1_255 : decode method_2_code 255 = .ok (.castore, 1) := by decide +kernel
theorem d1_256 : decode method_2_code 256 = .ok (.dup, 1) := by decide +kernel
theorem d1_257 : decode method_2_code 257 = .ok (.bipush 43, 2) := by decide +kernel
theorem d1_259 : decode method_2_code 259 = .ok (.bipush 114, 2) := by decide +kernel
theorem d1_261 : decode method_2_code 261 = .ok (.castore, 1) := by decide +kernel
theorem d1_262 : decode method_2_code 262 = .ok (.areturn, 1) := by decide +kernel
theorem pn_1 : plainName "com/example/ketenwacht/ketenwacht/model/SamlStatusIsCancellationPinLaw" = true := by first | (simp [plainName, overriddenIn]; done) | decide +kernel
def Q1 (Z : State) (h0 : Heap) (n0 : Nat) (v : Option Value) (h : Heap) : Prop :=
  (∃ (b : Addr) (k : ClassId), v = some (.ref b) ∧ Keep h0 h [] ∧ Arv Z h b k .char (44 : Int32) (tx0.map Value.int) (.int (0 : Int32)) ∧ h0.size ≤ b)
theorem ef_1 (m : MethodId) : entryFrame m #[] 0 = mkF m 0 #[] [] := by first | (simp [entryFrame, mkF, argsToLocals, Value.category]; done) | rfl
set_option maxRecDepth 65536 in
set_option maxHeartbeats 40000000 in
theorem rm1 (l : Launch) (Z : State) (a0 : Array Value) (hw : ∀ d ∈ tables_1, d.before a0 Z = true) (ws : List Jvm.Cond) (h0 : Heap) (n0 : Nat) (O0 : Old Z n0 h0) :
    Meets l (⟨"com/example/ketenwacht/ketenwacht/model/SamlStatusIsCancellationPinLaw", "responderChars", "()[C"⟩ : MethodName) method_2_code 0 (some (.array .char)) ws ({ frames := 0, cells := 1, slots := 44, locals := 0 } : Room) ({ frames := 0, cells := 1, slots := 44, locals := 0 } : Room).cells ({ frames := 0, cells := 1, slots := 44, locals := 0 } : Room).slots Z #[] h0 n0 (Q1 Z h0 n0) := by
  refine Meets.of (F := fun m => mkF m 0 #[] []) (plainFor_of_name pn_1) (fun m => ef_1 m) ?_
  intro p e s m below meth c T0 hx hby hml hown0 hnm hret hlk hZ X0 e0
  have hown : s.vm.findClass "com/example/ketenwacht/ketenwacht/model/SamlStatusIsCancellationPinLaw" = some m.cls := hown0
  have N0 := Fr.nil n0
  have KC0 := Keep.refl h0 []
  show Goes _ _ _ _ _ _ (T0.setTop (mkF m 0 #[] []))
  refine own_bipush X0 hx (v := (44 : Int32)) (hb hby d1_0) rfl ?_
  refine own_newP X0 hx hZ (hw _ (List.mem_of_getElem? (i := 7) rfl)) e0 (hb hby d1_2) (by decide) (cap := 44) (by decide) (by decide) (by decide) (by decide) (fun T1 h1 b1 k1 g1 X1 e1 E1 A1 => ?_)
  have ge_b1 : n0 ≤ b1 := Nat.le_trans (own_sz O0) (Nat.le_of_eq g1.symm)
  have sz_b1 : h0.size ≤ b1 := Nat.le_trans KC0.1 (Nat.le_of_eq g1.symm)
  have O2 := O0.ext E1
  have KC2 := KC0.ext E1
  have V1 : Arv Z h1 b1 k1 .char (44 : Int32) [(.int (0 : Int32)), (.int (0 : Int32)), (.int (0 : Int32)), (.int (0 : Int32)), (.int (0 : Int32)), (.int (0 : Int32)), (.int (0 : Int32)), (.int (0 : Int32)), (.int (0 : Int32)), (.int (0 : Int32)), (.int (0 : Int32)), (.int (0 : Int32)), (.int (0 : Int32)), (.int (0 : Int32)), (.int (0 : Int32)), (.int (0 : Int32)), (.int (0 : Int32)), (.int (0 : Int32)), (.int (0 : Int32)), (.int (0 : Int32)), (.int (0 : Int32)), (.int (0 : Int32)), (.int (0 : Int32)), (.int (0 : Int32)), (.int (0 : Int32)), (.int (0 : Int32)), (.int (0 : Int32)), (.int (0 : Int32)), (.int (0 : Int32)), (.int (0 : Int32)), (.int (0 : Int32)), (.int (0 : Int32)), (.int (0 : Int32)), (.int (0 : Int32)), (.int (0 : Int32)), (.int (0 : Int32)), (.int (0 : Int32)), (.int (0 : Int32)), (.int (0 : Int32)), (.int (0 : Int32)), (.int (0 : Int32)), (.int (0 : Int32)), (.int (0 : Int32)), (.int (0 : Int32))] (.int (0 : Int32)) := A1.pad (pad_rep [] (.int (0 : Int32)) 44)
  show Goes _ _ _ _ _ _ (T1.setTop (mkF m 4 #[] [(.ref b1)]))
  refine own_dup X1 hx (hb hby d1_4) rfl ?_
  refine own_iconst X1 hx (v := (0 : Int32)) (hb hby d1_5) rfl ?_
  refine own_bipush X1 hx (v := (117 : Int32)) (hb hby d1_6) rfl ?_
  show Goes _ _ _ _ _ _ (T1.setTop (mkF m 8 #[] [(.int (117 : Int32)), (.int (0 : Int32)), (.ref b1), (.ref b1)]))
  refine own_castore X1 hx hZ N0 e1 V1 ⟨by decide, by decide⟩ (i := 0) rfl (by first | decide | (simp; done)) ge_b1 (hb hby d1_8) (fun T3 h3 lc3 X3 e3 N3 W3 V3 => ?_)
  have O4 := O2.wr W3 ge_b1
  have KC4 := KC2.wr W3 (Or.inr sz_b1)
  have V3' : Arv Z h3 b1 k1 .char (44 : Int32) [(.int (117 : Int32)), (.int (0 : Int32)), (.int (0 : Int32)), (.int (0 : Int32)), (.int (0 : Int32)), (.int (0 : Int32)), (.int (0 : Int32)), (.int (0 : Int32)), (.int (0 : Int32)), (.int (0 : Int32)), (.int (0 : Int32)), (.int (0 : Int32)), (.int (0 : Int32)), (.int (0 : Int32)), (.int (0 : Int32)), (.int (0 : Int32)), (.int (0 : Int32)), (.int (0 : Int32)), (.int (0 : Int32)), (.int (0 : Int32)), (.int (0 : Int32)), (.int (0 : Int32)), (.int (0 : Int32)), (.int (0 : Int32)), (.int (0 : Int32)), (.int (0 : Int32)), (.int (0 : Int32)), (.int (0 : Int32)), (.int (0 : Int32)), (.int (0 : Int32)), (.int (0 : Int32)), (.int (0 : Int32)), (.int (0 : Int32)), (.int (0 : Int32)), (.int (0 : Int32)), (.int (0 : Int32)), (.int (0 : Int32)), (.int (0 : Int32)), (.int (0 : Int32)), (.int (0 : Int32)), (.int (0 : Int32)), (.int (0 : Int32)), (.int (0 : Int32)), (.int (0 : Int32))] (.int (0 : Int32)) := V3
  show Goes _ _ _ _ _ _ (T3.setTop (mkF m 9 #[] [(.ref b1)]))
  refine own_dup X3 hx (hb hby d1_9) rfl ?_
  refine own_iconst X3 hx (v := (1 : Int32)) (hb hby d1_10) rfl ?_
  refine own_bipush X3 hx (v := (114 : Int32)) (hb hby d1_11) rfl ?_
  show Goes _ _ _ _ _ _ (T3.setTop (mkF m 13 #[] [(.int (114 : Int32)), (.int (1 : Int32)), (.ref b1), (.ref b1)]))
  refine own_castore X3 hx hZ N3 e3 V3' ⟨by decide, by decide⟩ (i := 1) rfl (by first | decide | (simp; done)) ge_b1 (hb hby d1_13) (fun T5 h5 lc5 X5 e5 N5 W5 V5 => ?_)
  have O6 := O4.wr W5 ge_b1
  have KC6 := KC4.wr W5 (Or.inr sz_b1)
  have V5' : Arv Z h5 b1 k1 .char (44 : Int32) [(.int (117 : Int32)), (.int (114 : Int32)), (.int (0 : Int32)), (.int (0 : Int32)), (.int (0 : Int32)), (.int (0 : Int32)), (.int (0 : Int32)), (.int (0 : Int32)), (.int (0 : Int32)), (.int (0 : Int32)), (.int (0 : Int32)), (.int (0 : Int32)), (.int (0 : Int32)), (.int (0 : Int32)), (.int (0 : Int32)), (.int (0 : Int32)), (.int (0 : Int32)), (.int (0 : Int32)), (.int (0 : Int32)), (.int (0 : Int32)), (.int (0 : Int32)), (.int (0 : Int32)), (.int (0 : Int32)), (.int (0 : Int32)), (.int (0 : Int32)), (.int (0 : Int32)), (.int (0 : Int32)), (.int (0 : Int32)), (.int (0 : Int32)), (.int (0 : Int32)), (.int (0 : Int32)), (.int (0 : Int32)), (.int (0 : Int32)), (.int (0 : Int32)), (.int (0 : Int32)), (.int (0 : Int32)), (.int (0 : Int32)), (.int (0 : Int32)), (.int (0 : Int32)), (.int (0 : Int32)), (.int (0 : Int32)), (.int (0 : Int32)), (.int (0 : Int32)), (.int (0 : Int32))] (.int (0 : Int32)) := V5
  show Goes _ _ _ _ _ _ (T5.setTop (mkF m 14 #[] [(.ref b1)]))
  refine own_dup X5 hx (hb hby d1_14) rfl ?_
  refine own_iconst X5 hx (v := (2 : Int32)) (hb hby d1_15) rfl ?_
  refine own_bipush X5 hx (v := (110 : Int32)) (hb hby d1_16) rfl ?_
  show Goes _ _ _ _ _ _ (T5.setTop (mkF m 18 #[] [(.int (110 : Int32)), (.int (2 : Int32)), (.ref b1), (.ref b1)]))
  refine own_castore X5 hx hZ N5 e5 V5' ⟨by decide, by decide⟩ (i := 2) rfl (by first | decide | (simp; done)) ge_b1 (hb hby d1_18) (fun T7 h7 lc7 X7 e7 N7 W7 V7 => ?_)
  have O8 := O6.wr W7 ge_b1
  have KC8 := KC6.wr W7 (Or.inr sz_b1)
  have V7' : Arv Z h7 b1 k1 .char (44 : Int32) [(.int (117 : Int32)), (.int (114 : Int32)), (.int (110 : Int32)), (.int (0 : Int32)), (.int (0 : Int32)), (.int (0 : Int32)), (.int (0 : Int32)), (.int (0 : Int32)), (.int (0 : Int32)), (.int (0 : Int32)), (.int (0 : Int32)), (.int (0 : Int32)), (.int (0 : Int32)), (.int (0 : Int32)), (.int (0 : Int32)), (.int (0 : Int32)), (.int (0 : Int32)), (.int (0 : Int32)), (.int (0 : Int32)), (.int (0 : Int32)), (.int (0 : Int32)), (.int (0 : Int32)), (.int (0 : Int32)), (.int (0 : Int32)), (.int (0 : Int32)), (.int (0 : Int32)), (.int (0 : Int32)), (.int (0 : Int32)), (.int (0 : Int32)), (.int (0 : Int32)), (.int (0 : Int32)), (.int (0 : Int32)), (.int (0 : Int32)), (.int (0 : Int32)), (.int (0 : Int32)), (.int (0 : Int32)), (.int (0 : Int32)), (.int (0 : Int32)), (.int (0 : Int32)), (.int (0 : Int32)), (.int (0 : Int32)), (.int (0 : Int32)), (.int (0 : Int32)), (.int (0 : Int32))] (.int (0 : Int32)) := V7
  show Goes _ _ _ _ _ _ (T7.setTop (mkF m 19 #[] [(.ref b1)]))
  refine own_dup X7 hx (hb hby d1_19) rfl ?_
  refine own_iconst X7 hx (v := (3 : Int32)) (hb hby d1_20) rfl ?_
  refine own_bipush X7 hx (v := (58 : Int32)) (hb hby d1_21) rfl ?_
  show Goes _ _ _ _ _ _ (T7.setTop (mkF m 23 #[] [(.int (58 : Int32)), (.int (3 : Int32)), (.ref b1), (.ref b1)]))
  refine own_castore X7 hx hZ N7 e7 V7' ⟨by decide, by decide⟩ (i := 3) rfl (by first | decide | (simp; done)) ge_b1 (hb hby d1_23) (fun T9 h9 lc9 X9 e9 N9 W9 V9 => ?_)
  have O10 := O8.wr W9 ge_b1
  have KC10 := KC8.wr W9 (Or.inr sz_b1)
  have V9' : Arv Z h9 b1 k1 .char (44 : Int32) [(.int (117 : Int32)), (.int (114 : Int32)), (.int (110 : Int32)), (.int (58 : Int32)), (.int (0 : Int32)), (.int (0 : Int32)), (.int (0 : Int32)), (.int (0 : Int32)), (.int (0 : Int32)), (.int (0 : Int32)), (.int (0 : Int32)), (.int (0 : Int32)), (.int (0 : Int32)), (.int (0 : Int32)), (.int (0 : Int32)), (.int (0 : Int32)), (.int (0 : Int32)), (.int (0 : Int32)), (.int (0 : Int32)), (.int (0 : Int32)), (.int (0 : Int32)), (.int (0 : Int32)), (.int (0 : Int32)), (.int (0 : Int32)), (.int (0 : Int32)), (.int (0 : Int32)), (.int (0 : Int32)), (.int (0 : Int32)), (.int (0 : Int32)), (.int (0 : Int32)), (.int (0 : Int32)), (.int (0 : Int32)), (.int (0 : Int32)), (.int (0 : Int32)), (.int (0 : Int32)), (.int (0 : Int32)), (.int (0 : Int32)), (.int (0 : Int32)), (.int (0 : Int32)), (.int (0 : Int32)), (.int (0 : Int32)), (.int (0 : Int32)), (.int (0 : Int32)), (.int (0 : Int32))] (.int (0 : Int32)) := V9
  show Goes _ _ _ _ _ _ (T9.setTop (mkF m 24 #[] [(.ref b1)]))
  refine own_dup X9 hx (hb hby d1_24) rfl ?_
  refine own_iconst X9 hx (v := (4 : Int32)) (hb hby d1_25) rfl ?_
  refine own_bipush X9 hx (v := (111 : Int32)) (hb hby d1_26) rfl ?_
  show Goes _ _ _ _ _ _ (T9.setTop (mkF m 28 #[] [(.int (111 : Int32)), (.int (4 : Int32)), (.ref b1), (.ref b1)]))
  refine own_castore X9 hx hZ N9 e9 V9' ⟨by decide, by decide⟩ (i := 4) rfl (by first | decide | (simp; done)) ge_b1 (hb hby d1_28) (fun T11 h11 lc11 X11 e11 N11 W11 V11 => ?_)
  have O12 := O10.wr W11 ge_b1
  have KC12 := KC10.wr W11 (Or.inr sz_b1)
  have V11' : Arv Z h11 b1 k1 .char (44 : Int32) [(.int (117 : Int32)), (.int (114 : Int32)), (.int (110 : Int32)), (.int (58 : Int32)), (.int (111 : Int32)), (.int (0 : Int32)), (.int (0 : Int32)), (.int (0 : Int32)), (.int (0 : Int32)), (.int (0 : Int32)), (.int (0 : Int32)), (.int (0 : Int32)), (.int (0 : Int32)), (.int (0 : Int32)), (.int (0 : Int32)), (.int (0 : Int32)), (.int (0 : Int32)), (.int (0 : Int32)), (.int (0 : Int32)), (.int (0 : Int32)), (.int (0 : Int32)), (.int (0 : Int32)), (.int (0 : Int32)), (.int (0 : Int32)), (.int (0 : Int32)), (.int (0 : Int32)), (.int (0 : Int32)), (.int (0 : Int32)), (.int (0 : Int32)), (.int (0 : Int32)), (.int (0 : Int32)), (.int (0 : Int32)), (.int (0 : Int32)), (.int (0 : Int32)), (.int (0 : Int32)), (.int (0 : Int32)), (.int (0 : Int32)), (.int (0 : Int32)), (.int (0 : Int32)), (.int (0 : Int32)), (.int (0 : Int32)), (.int (0 : Int32)), (.int (0 : Int32)), (.int (0 : Int32))] (.int (0 : Int32)) := V11
  show Goes _ _ _ _ _ _ (T11.setTop (mkF m 29 #[] [(.ref b1)]))
  refine own_dup X11 hx (hb hby d1_29) rfl ?_
  refine own_iconst X11 hx (v := (5 : Int32)) (hb hby d1_30) rfl ?_
  refine own_bipush X11 hx (v := (97 : Int32)) (hb hby d1_31) rfl ?_
  show Goes _ _ _ _ _ _ (T11.setTop (mkF m 33 #[] [(.int (97 : Int32)), (.int (5 : Int32)), (.ref b1), (.ref b1)]))
  refine own_castore X11 hx hZ N11 e11 V11' ⟨by decide, by decide⟩ (i := 5) rfl (by first | decide | (simp; done)) ge_b1 (hb hby d1_33) (fun T13 h13 lc13 X13 e13 N13 W13 V13 => ?_)
  have O14 := O12.wr W13 ge_b1
  have KC14 := KC12.wr W13 (Or.inr sz_b1)
  have V13' : Arv Z h13 b1 k1 .char (44 : Int32) [(.int (117 : Int32)), (.int (114 : Int32)), (.int (110 : Int32)), (.int (58 : Int32)), (.int (111 : Int32)), (.int (97 : Int32)), (.int (0 : Int32)), (.int (0 : Int32)), (.int (0 : Int32)), (.int (0 : Int32)), (.int (0 : Int32)), (.int (0 : Int32)), (.int (0 : Int32)), (.int (0 : Int32)), (.int (0 : Int32)), (.int (0 : Int32)), (.int (0 : Int32)), (.int (0 : Int32)), (.int (0 : Int32)), (.int (0 : Int32)), (.int (0 : Int32)), (.int (0 : Int32)), (.int (0 : Int32)), (.int (0 : Int32)), (.int (0 : Int32)), (.int (0 : Int32)), (.int (0 : Int32)), (.int (0 : Int32)), (.int (0 : Int32)), (.int (0 : Int32)), (.int (0 : Int32)), (.int (0 : Int32)), (.int (0 : Int32)), (.int (0 : Int32)), (.int (0 : Int32)), (.int (0 : Int32)), (.int (0 : Int32)), (.int (0 : Int32)), (.int (0 : Int32)), (.int (0 : Int32)), (.int (0 : Int32)), (.int (0 : Int32)), (.int (0 : Int32)), (.int (0 : Int32))] (.int (0 : Int32)) := V13
  show Goes _ _ _ _ _ _ (T13.setTop (mkF m 34 #[] [(.ref b1)]))
  refine own_dup X13 hx (hb hby d1_34) rfl ?_
  refine own_bipush X13 hx (v := (6 : Int32)) (hb hby d1_35) rfl ?_
  refine own_bipush X13 hx (v := (115 : Int32)) (hb hby d1_37) rfl ?_
  show Goes _ _ _ _ _ _ (T13.setTop (mkF m 39 #[] [(.int (115 : Int32)), (.int (6 : Int32)), (.ref b1), (.ref b1)]))
  refine own_castore X13 hx hZ N13 e13 V13' ⟨by decide, by decide⟩ (i := 6) rfl (by first | decide | (simp; done)) ge_b1 (hb hby d1_39) (fun T15 h15 lc15 X15 e15 N15 W15 V15 => ?_)
  have O16 := O14.wr W15 ge_b1
  have KC16 := KC14.wr W15 (Or.inr sz_b1)
  have V15' : Arv Z h15 b1 k1 .char (44 : Int32) [(.int (117 : Int32)), (.int (114 : Int32)), (.int (110 : Int32)), (.int (58 : Int32)), (.int (111 : Int32)), (.int (97 : Int32)), (.int (115 : Int32)), (.int (0 : Int32)), (.int (0 : Int32)), (.int (0 : Int32)), (.int (0 : Int32)), (.int (0 : Int32)), (.int (0 : Int32)), (.int (0 : Int32)), (.int (0 : Int32)), (.int (0 : Int32)), (.int (0 : Int32)), (.int (0 : Int32)), (.int (0 : Int32)), (.int (0 : Int32)), (.int (0 : Int32)), (.int (0 : Int32)), (.int (0 : Int32)), (.int (0 : Int32)), (.int (0 : Int32)), (.int (0 : Int32)), (.int (0 : Int32)), (.int (0 : Int32)), (.int (0 : Int32)), (.int (0 : Int32)), (.int (0 : Int32)), (.int (0 : Int32)), (.int (0 : Int32)), (.int (0 : Int32)), (.int (0 : Int32)), (.int (0 : Int32)), (.int (0 : Int32)), (.int (0 : Int32)), (.int (0 : Int32)), (.int (0 : Int32)), (.int (0 : Int32)), (.int (0 : Int32)), (.int (0 : Int32)), (.int (0 : Int32))] (.int (0 : Int32)) := V15
  show Goes _ _ _ _ _ _ (T15.setTop (mkF m 40 #[] [(.ref b1)]))
  refine own_dup X15 hx (hb hby d1_40) rfl ?_
  refine own_bipush X15 hx (v := (7 : Int32)) (hb hby d1_41) rfl ?_
  refine own_bipush X15 hx (v := (105 : Int32)) (hb hby d1_43) rfl ?_
  show Goes _ _ _ _ _ _ (T15.setTop (mkF m 45 #[] [(.int (105 : Int32)), (.int (7 : Int32)), (.ref b1), (.ref b1)]))
  refine own_castore X15 hx hZ N15 e15 V15' ⟨by decide, by decide⟩ (i := 7) rfl (by first | decide | (simp; done)) ge_b1 (hb hby d1_45) (fun T17 h17 lc17 X17 e17 N17 W17 V17 => ?_)
  have O18 := O16.wr W17 ge_b1
  have KC18 := KC16.wr W17 (Or.inr sz_b1)
  have V17' : Arv Z h17 b1 k1 .char (44 : Int32) [(.int (117 : Int32)), (.int (114 : Int32)), (.int (110 : Int32)), (.int (58 : Int32)), (.int (111 : Int32)), (.int (97 : Int32)), (.int (115 : Int32)), (.int (105 : Int32)), (.int (0 : Int32)), (.int (0 : Int32)), (.int (0 : Int32)), (.int (0 : Int32)), (.int (0 : Int32)), (.int (0 : Int32)), (.int (0 : Int32)), (.int (0 : Int32)), (.int (0 : Int32)), (.int (0 : Int32)), (.int (0 : Int32)), (.int (0 : Int32)), (.int (0 : Int32)), (.int (0 : Int32)), (.int (0 : Int32)), (.int (0 : Int32)), (.int (0 : Int32)), (.int (0 : Int32)), (.int (0 : Int32)), (.int (0 : Int32)), (.int (0 : Int32)), (.int (0 : Int32)), (.int (0 : Int32)), (.int (0 : Int32)), (.int (0 : Int32)), (.int (0 : Int32)), (.int (0 : Int32)), (.int (0 : Int32)), (.int (0 : Int32)), (.int (0 : Int32)), (.int (0 : Int32)), (.int (0 : Int32)), (.int (0 : Int32)), (.int (0 : Int32)), (.int (0 : Int32)), (.int (0 : Int32))] (.int (0 : Int32)) := V17
  show Goes _ _ _ _ _ _ (T17.setTop (mkF m 46 #[] [(.ref b1)]))
  refine own_dup X17 hx (hb hby d1_46) rfl ?_
  refine own_bipush X17 hx (v := (8 : Int32)) (hb hby d1_47) rfl ?_
  refine own_bipush X17 hx (v := (115 : Int32)) (hb hby d1_49) rfl ?_
  show Goes _ _ _ _ _ _ (T17.setTop (mkF m 51 #[] [(.int (115 : Int32)), (.int (8 : Int32)), (.ref b1), (.ref b1)]))
  refine own_castore X17 hx hZ N17 e17 V17' ⟨by decide, by decide⟩ (i := 8) rfl (by first | decide | (simp; done)) ge_b1 (hb hby d1_51) (fun T19 h19 lc19 X19 e19 N19 W19 V19 => ?_)
  have O20 := O18.wr W19 ge_b1
  have KC20 := KC18.wr W19 (Or.inr sz_b1)
  have V19' : Arv Z h19 b1 k1 .char (44 : Int32) [(.int (117 : Int32)), (.int (114 : Int32)), (.int (110 : Int32)), (.int (58 : Int32)), (.int (111 : Int32)), (.int (97 : Int32)), (.int (115 : Int32)), (.int (105 : Int32)), (.int (115 : Int32)), (.int (0 : Int32)), (.int (0 : Int32)), (.int (0 : Int32)), (.int (0 : Int32)), (.int (0 : Int32)), (.int (0 : Int32)), (.int (0 : Int32)), (.int (0 : Int32)), (.int (0 : Int32)), (.int (0 : Int32)), (.int (0 : Int32)), (.int (0 : Int32)), (.int (0 : Int32)), (.int (0 : Int32)), (.int (0 : Int32)), (.int (0 : Int32)), (.int (0 : Int32)), (.int (0 : Int32)), (.int (0 : Int32)), (.int (0 : Int32)), (.int (0 : Int32)), (.int (0 : Int32)), (.int (0 : Int32)), (.int (0 : Int32)), (.int (0 : Int32)), (.int (0 : Int32)), (.int (0 : Int32)), (.int (0 : Int32)), (.int (0 : Int32)), (.int (0 : Int32)), (.int (0 : Int32)), (.int (0 : Int32)), (.int (0 : Int32)), (.int (0 : Int32)), (.int (0 : Int32))] (.int (0 : Int32)) := V19
  show Goes _ _ _ _ _ _ (T19.setTop (mkF m 52 #[] [(.ref b1)]))
  refine own_dup X19 hx (hb hby d1_52) rfl ?_
  refine own_bipush X19 hx (v := (9 : Int32)) (hb hby d1_53) rfl ?_
  refine own_bipush X19 hx (v := (58 : Int32)) (hb hby d1_55) rfl ?_
  show Goes _ _ _ _ _ _ (T19.setTop (mkF m 57 #[] [(.int (58 : Int32)), (.int (9 : Int32)), (.ref b1), (.ref b1)]))
  refine own_castore X19 hx hZ N19 e19 V19' ⟨by decide, by decide⟩ (i := 9) rfl (by first | decide | (simp; done)) ge_b1 (hb hby d1_57) (fun T21 h21 lc21 X21 e21 N21 W21 V21 => ?_)
  have O22 := O20.wr W21 ge_b1
  have KC22 := KC20.wr W21 (Or.inr sz_b1)
  have V21' : Arv Z h21 b1 k1 .char (44 : Int32) [(.int (117 : Int32)), (.int (114 : Int32)), (.int (110 : Int32)), (.int (58 : Int32)), (.int (111 : Int32)), (.int (97 : Int32)), (.int (115 : Int32)), (.int (105 : Int32)), (.int (115 : Int32)), (.int (58 : Int32)), (.int (0 : Int32)), (.int (0 : Int32)), (.int (0 : Int32)), (.int (0 : Int32)), (.int (0 : Int32)), (.int (0 : Int32)), (.int (0 : Int32)), (.int (0 : Int32)), (.int (0 : Int32)), (.int (0 : Int32)), (.int (0 : Int32)), (.int (0 : Int32)), (.int (0 : Int32)), (.int (0 : Int32)), (.int (0 : Int32)), (.int (0 : Int32)), (.int (0 : Int32)), (.int (0 : Int32)), (.int (0 : Int32)), (.int (0 : Int32)), (.int (0 : Int32)), (.int (0 : Int32)), (.int (0 : Int32)), (.int (0 : Int32)), (.int (0 : Int32)), (.int (0 : Int32)), (.int (0 : Int32)), (.int (0 : Int32)), (.int (0 : Int32)), (.int (0 : Int32)), (.int (0 : Int32)), (.int (0 : Int32)), (.int (0 : Int32)), (.int (0 : Int32))] (.int (0 : Int32)) := V21
  show Goes _ _ _ _ _ _ (T21.setTop (mkF m 58 #[] [(.ref b1)]))
  refine own_dup X21 hx (hb hby d1_58) rfl ?_
  refine own_bipush X21 hx (v := (10 : Int32)) (hb hby d1_59) rfl ?_
  refine own_bipush X21 hx (v := (110 : Int32)) (hb hby d1_61) rfl ?_
  show Goes _ _ _ _ _ _ (T21.setTop (mkF m 63 #[] [(.int (110 : Int32)), (.int (10 : Int32)), (.ref b1), (.ref b1)]))
  refine own_castore X21 hx hZ N21 e21 V21' ⟨by decide, by decide⟩ (i := 10) rfl (by first | decide | (simp; done)) ge_b1 (hb hby d1_63) (fun T23 h23 lc23 X23 e23 N23 W23 V23 => ?_)
  have O24 := O22.wr W23 ge_b1
  have KC24 := KC22.wr W23 (Or.inr sz_b1)
  have V23' : Arv Z h23 b1 k1 .char (44 : Int32) [(.int (117 : Int32)), (.int (114 : Int32)), (.int (110 : Int32)), (.int (58 : Int32)), (.int (111 : Int32)), (.int (97 : Int32)), (.int (115 : Int32)), (.int (105 : Int32)), (.int (115 : Int32)), (.int (58 : Int32)), (.int (110 : Int32)), (.int (0 : Int32)), (.int (0 : Int32)), (.int (0 : Int32)), (.int (0 : Int32)), (.int (0 : Int32)), (.int (0 : Int32)), (.int (0 : Int32)), (.int (0 : Int32)), (.int (0 : Int32)), (.int (0 : Int32)), (.int (0 : Int32)), (.int (0 : Int32)), (.int (0 : Int32)), (.int (0 : Int32)), (.int (0 : Int32)), (.int (0 : Int32)), (.int (0 : Int32)), (.int (0 : Int32)), (.int (0 : Int32)), (.int (0 : Int32)), (.int (0 : Int32)), (.int (0 : Int32)), (.int (0 : Int32)), (.int (0 : Int32)), (.int (0 : Int32)), (.int (0 : Int32)), (.int (0 : Int32)), (.int (0 : Int32)), (.int (0 : Int32)), (.int (0 : Int32)), (.int (0 : Int32)), (.int (0 : Int32)), (.int (0 : Int32))] (.int (0 : Int32)) := V23
  show Goes _ _ _ _ _ _ (T23.setTop (mkF m 64 #[] [(.ref b1)]))
  refine own_dup X23 hx (hb hby d1_64) rfl ?_
  refine own_bipush X23 hx (v := (11 : Int32)) (hb hby d1_65) rfl ?_
  refine own_bipush X23 hx (v := (97 : Int32)) (hb hby d1_67) rfl ?_
  show Goes _ _ _ _ _ _ (T23.setTop (mkF m 69 #[] [(.int (97 : Int32)), (.int (11 : Int32)), (.ref b1), (.ref b1)]))
  refine own_castore X23 hx hZ N23 e23 V23' ⟨by decide, by decide⟩ (i := 11) rfl (by first | decide | (simp; done)) ge_b1 (hb hby d1_69) (fun T25 h25 lc25 X25 e25 N25 W25 V25 => ?_)
  have O26 := O24.wr W25 ge_b1
  have KC26 := KC24.wr W25 (Or.inr sz_b1)
  have V25' : Arv Z h25 b1 k1 .char (44 : Int32) [(.int (117 : Int32)), (.int (114 : Int32)), (.int (110 : Int32)), (.int (58 : Int32)), (.int (111 : Int32)), (.int (97 : Int32)), (.int (115 : Int32)), (.int (105 : Int32)), (.int (115 : Int32)), (.int (58 : Int32)), (.int (110 : Int32)), (.int (97 : Int32)), (.int (0 : Int32)), (.int (0 : Int32)), (.int (0 : Int32)), (.int (0 : Int32)), (.int (0 : Int32)), (.int (0 : Int32)), (.int (0 : Int32)), (.int (0 : Int32)), (.int (0 : Int32)), (.int (0 : Int32)), (.int (0 : Int32)), (.int (0 : Int32)), (.int (0 : Int32)), (.int (0 : Int32)), (.int (0 : Int32)), (.int (0 : Int32)), (.int (0 : Int32)), (.int (0 : Int32)), (.int (0 : Int32)), (.int (0 : Int32)), (.int (0 : Int32)), (.int (0 : Int32)), (.int (0 : Int32)), (.int (0 : Int32)), (.int (0 : Int32)), (.int (0 : Int32)), (.int (0 : Int32)), (.int (0 : Int32)), (.int (0 : Int32)), (.int (0 : Int32)), (.int (0 : Int32)), (.int (0 : Int32))] (.int (0 : Int32)) := V25
  show Goes _ _ _ _ _ _ (T25.setTop (mkF m 70 #[] [(.ref b1)]))
  refine own_dup X25 hx (hb hby d1_70) rfl ?_
  refine own_bipush X25 hx (v := (12 : Int32)) (hb hby d1_71) rfl ?_
  refine own_bipush X25 hx (v := (109 : Int32)) (hb hby d1_73) rfl ?_
  show Goes _ _ _ _ _ _ (T25.setTop (mkF m 75 #[] [(.int (109 : Int32)), (.int (12 : Int32)), (.ref b1), (.ref b1)]))
  refine own_castore X25 hx hZ N25 e25 V25' ⟨by decide, by decide⟩ (i := 12) rfl (by first | decide | (simp; done)) ge_b1 (hb hby d1_75) (fun T27 h27 lc27 X27 e27 N27 W27 V27 => ?_)
  have O28 := O26.wr W27 ge_b1
  have KC28 := KC26.wr W27 (Or.inr sz_b1)
  have V27' : Arv Z h27 b1 k1 .char (44 : Int32) [(.int (117 : Int32)), (.int (114 : Int32)), (.int (110 : Int32)), (.int (58 : Int32)), (.int (111 : Int32)), (.int (97 : Int32)), (.int (115 : Int32)), (.int (105 : Int32)), (.int (115 : Int32)), (.int (58 : Int32)), (.int (110 : Int32)), (.int (97 : Int32)), (.int (109 : Int32)), (.int (0 : Int32)), (.int (0 : Int32)), (.int (0 : Int32)), (.int (0 : Int32)), (.int (0 : Int32)), (.int (0 : Int32)), (.int (0 : Int32)), (.int (0 : Int32)), (.int (0 : Int32)), (.int (0 : Int32)), (.int (0 : Int32)), (.int (0 : Int32)), (.int (0 : Int32)), (.int (0 : Int32)), (.int (0 : Int32)), (.int (0 : Int32)), (.int (0 : Int32)), (.int (0 : Int32)), (.int (0 : Int32)), (.int (0 : Int32)), (.int (0 : Int32)), (.int (0 : Int32)), (.int (0 : Int32)), (.int (0 : Int32)), (.int (0 : Int32)), (.int (0 : Int32)), (.int (0 : Int32)), (.int (0 : Int32)), (.int (0 : Int32)), (.int (0 : Int32)), (.int (0 : Int32))] (.int (0 : Int32)) := V27
  show Goes _ _ _ _ _ _ (T27.setTop (mkF m 76 #[] [(.ref b1)]))
  refine own_dup X27 hx (hb hby d1_76) rfl ?_
  refine own_bipush X27 hx (v := (13 : Int32)) (hb hby d1_77) rfl ?_
  refine own_bipush X27 hx (v := (101 : Int32)) (hb hby d1_79) rfl ?_
  show Goes _ _ _ _ _ _ (T27.setTop (mkF m 81 #[] [(.int (101 : Int32)), (.int (13 : Int32)), (.ref b1), (.ref b1)]))
  refine own_castore X27 hx hZ N27 e27 V27' ⟨by decide, by decide⟩ (i := 13) rfl (by first | decide | (simp; done)) ge_b1 (hb hby d1_81) (fun T29 h29 lc29 X29 e29 N29 W29 V29 => ?_)
  have O30 := O28.wr W29 ge_b1
  have KC30 := KC28.wr W29 (Or.inr sz_b1)
  have V29' : Arv Z h29 b1 k1 .char (44 : Int32) [(.int (117 : Int32)), (.int (114 : Int32)), (.int (110 : Int32)), (.int (58 : Int32)), (.int (111 : Int32)), (.int (97 : Int32)), (.int (115 : Int32)), (.int (105 : Int32)), (.int (115 : Int32)), (.int (58 : Int32)), (.int (110 : Int32)), (.int (97 : Int32)), (.int (109 : Int32)), (.int (101 : Int32)), (.int (0 : Int32)), (.int (0 : Int32)), (.int (0 : Int32)), (.int (0 : Int32)), (.int (0 : Int32)), (.int (0 : Int32)), (.int (0 : Int32)), (.int (0 : Int32)), (.int (0 : Int32)), (.int (0 : Int32)), (.int (0 : Int32)), (.int (0 : Int32)), (.int (0 : Int32)), (.int (0 : Int32)), (.int (0 : Int32)), (.int (0 : Int32)), (.int (0 : Int32)), (.int (0 : Int32)), (.int (0 : Int32)), (.int (0 : Int32)), (.int (0 : Int32)), (.int (0 : Int32)), (.int (0 : Int32)), (.int (0 : Int32)), (.int (0 : Int32)), (.int (0 : Int32)), (.int (0 : Int32)), (.int (0 : Int32)), (.int (0 : Int32)), (.int (0 : Int32))] (.int (0 : Int32)) := V29
  show Goes _ _ _ _ _ _ (T29.setTop (mkF m 82 #[] [(.ref b1)]))
  refine own_dup X29 hx (hb hby d1_82) rfl ?_
  refine own_bipush X29 hx (v := (14 : Int32)) (hb hby d1_83) rfl ?_
  refine own_bipush X29 hx (v := (115 : Int32)) (hb hby d1_85) rfl ?_
  show Goes _ _ _ _ _ _ (T29.setTop (mkF m 87 #[] [(.int (115 : Int32)), (.int (14 : Int32)), (.ref b1), (.ref b1)]))
  refine own_castore X29 hx hZ N29 e29 V29' ⟨by decide, by decide⟩ (i := 14) rfl (by first | decide | (simp; done)) ge_b1 (hb hby d1_87) (fun T31 h31 lc31 X31 e31 N31 W31 V31 => ?_)
  have O32 := O30.wr W31 ge_b1
  have KC32 := KC30.wr W31 (Or.inr sz_b1)
  have V31' : Arv Z h31 b1 k1 .char (44 : Int32) [(.int (117 : Int32)), (.int (114 : Int32)), (.int (110 : Int32)), (.int (58 : Int32)), (.int (111 : Int32)), (.int (97 : Int32)), (.int (115 : Int32)), (.int (105 : Int32)), (.int (115 : Int32)), (.int (58 : Int32)), (.int (110 : Int32)), (.int (97 : Int32)), (.int (109 : Int32)), (.int (101 : Int32)), (.int (115 : Int32)), (.int (0 : Int32)), (.int (0 : Int32)), (.int (0 : Int32)), (.int (0 : Int32)), (.int (0 : Int32)), (.int (0 : Int32)), (.int (0 : Int32)), (.int (0 : Int32)), (.int (0 : Int32)), (.int (0 : Int32)), (.int (0 : Int32)), (.int (0 : Int32)), (.int (0 : Int32)), (.int (0 : Int32)), (.int (0 : Int32)), (.int (0 : Int32)), (.int (0 : Int32)), (.int (0 : Int32)), (.int (0 : Int32)), (.int (0 : Int32)), (.int (0 : Int32)), (.int (0 : Int32)), (.int (0 : Int32)), (.int (0 : Int32)), (.int (0 : Int32)), (.int (0 : Int32)), (.int (0 : Int32)), (.int (0 : Int32)), (.int (0 : Int32))] (.int (0 : Int32)) := V31
  show Goes _ _ _ _ _ _ (T31.setTop (mkF m 88 #[] [(.ref b1)]))
  refine own_dup X31 hx (hb hby d1_88) rfl ?_
  refine own_bipush X31 hx (v := (15 : Int32)) (hb hby d1_89) rfl ?_
  refine own_bipush X31 hx (v := (58 : Int32)) (hb hby d1_91) rfl ?_
  show Goes _ _ _ _ _ _ (T31.setTop (mkF m 93 #[] [(.int (58 : Int32)), (.int (15 : Int32)), (.ref b1), (.ref b1)]))
  refine own_castore X31 hx hZ N31 e31 V31' ⟨by decide, by decide⟩ (i := 15) rfl (by first | decide | (simp; done)) ge_b1 (hb hby d1_93) (fun T33 h33 lc33 X33 e33 N33 W33 V33 => ?_)
  have O34 := O32.wr W33 ge_b1
  have KC34 := KC32.wr W33 (Or.inr sz_b1)
  have V33' : Arv Z h33 b1 k1 .char (44 : Int32) [(.int (117 : Int32)), (.int (114 : Int32)), (.int (110 : Int32)), (.int (58 : Int32)), (.int (111 : Int32)), (.int (97 : Int32)), (.int (115 : Int32)), (.int (105 : Int32)), (.int (115 : Int32)), (.int (58 : Int32)), (.int (110 : Int32)), (.int (97 : Int32)), (.int (109 : Int32)), (.int (101 : Int32)), (.int (115 : Int32)), (.int (58 : Int32)), (.int (0 : Int32)), (.int (0 : Int32)), (.int (0 : Int32)), (.int (0 : Int32)), (.int (0 : Int32)), (.int (0 : Int32)), (.int (0 : Int32)), (.int (0 : Int32)), (.int (0 : Int32)), (.int (0 : Int32)), (.int (0 : Int32)), (.int (0 : Int32)), (.int (0 : Int32)), (.int (0 : Int32)), (.int (0 : Int32)), (.int (0 : Int32)), (.int (0 : Int32)), (.int (0 : Int32)), (.int (0 : Int32)), (.int (0 : Int32)), (.int (0 : Int32)), (.int (0 : Int32)), (.int (0 : Int32)), (.int (0 : Int32)), (.int (0 : Int32)), (.int (0 : Int32)), (.int (0 : Int32)), (.int (0 : Int32))] (.int (0 : Int32)) := V33
  show Goes _ _ _ _ _ _ (T33.setTop (mkF m 94 #[] [(.ref b1)]))
  refine own_dup X33 hx (hb hby d1_94) rfl ?_
  refine own_bipush X33 hx (v := (16 : Int32)) (hb hby d1_95) rfl ?_
  refine own_bipush X33 hx (v := (116 : Int32)) (hb hby d1_97) rfl ?_
  show Goes _ _ _ _ _ _ (T33.setTop (mkF m 99 #[] [(.int (116 : Int32)), (.int (16 : Int32)), (.ref b1), (.ref b1)]))
  refine own_castore X33 hx hZ N33 e33 V33' ⟨by decide, by decide⟩ (i := 16) rfl (by first | decide | (simp; done)) ge_b1 (hb hby d1_99) (fun T35 h35 lc35 X35 e35 N35 W35 V35 => ?_)
  have O36 := O34.wr W35 ge_b1
  have KC36 := KC34.wr W35 (Or.inr sz_b1)
  have V35' : Arv Z h35 b1 k1 .char (44 : Int32) [(.int (117 : Int32)), (.int (114 : Int32)), (.int (110 : Int32)), (.int (58 : Int32)), (.int (111 : Int32)), (.int (97 : Int32)), (.int (115 : Int32)), (.int (105 : Int32)), (.int (115 : Int32)), (.int (58 : Int32)), (.int (110 : Int32)), (.int (97 : Int32)), (.int (109 : Int32)), (.int (101 : Int32)), (.int (115 : Int32)), (.int (58 : Int32)), (.int (116 : Int32)), (.int (0 : Int32)), (.int (0 : Int32)), (.int (0 : Int32)), (.int (0 : Int32)), (.int (0 : Int32)), (.int (0 : Int32)), (.int (0 : Int32)), (.int (0 : Int32)), (.int (0 : Int32)), (.int (0 : Int32)), (.int (0 : Int32)), (.int (0 : Int32)), (.int (0 : Int32)), (.int (0 : Int32)), (.int (0 : Int32)), (.int (0 : Int32)), (.int (0 : Int32)), (.int (0 : Int32)), (.int (0 : Int32)), (.int (0 : Int32)), (.int (0 : Int32)), (.int (0 : Int32)), (.int (0 : Int32)), (.int (0 : Int32)), (.int (0 : Int32)), (.int (0 : Int32)), (.int (0 : Int32))] (.int (0 : Int32)) := V35
  show Goes _ _ _ _ _ _ (T35.setTop (mkF m 100 #[] [(.ref b1)]))
  refine own_dup X35 hx (hb hby d1_100) rfl ?_
  refine own_bipush X35 hx (v := (17 : Int32)) (hb hby d1_101) rfl ?_
  refine own_bipush X35 hx (v := (99 : Int32)) (hb hby d1_103) rfl ?_
  show Goes _ _ _ _ _ _ (T35.setTop (mkF m 105 #[] [(.int (99 : Int32)), (.int (17 : Int32)), (.ref b1), (.ref b1)]))
  refine own_castore X35 hx hZ N35 e35 V35' ⟨by decide, by decide⟩ (i := 17) rfl (by first | decide | (simp; done)) ge_b1 (hb hby d1_105) (fun T37 h37 lc37 X37 e37 N37 W37 V37 => ?_)
  have O38 := O36.wr W37 ge_b1
  have KC38 := KC36.wr W37 (Or.inr sz_b1)
  have V37' : Arv Z h37 b1 k1 .char (44 : Int32) [(.int (117 : Int32)), (.int (114 : Int32)), (.int (110 : Int32)), (.int (58 : Int32)), (.int (111 : Int32)), (.int (97 : Int32)), (.int (115 : Int32)), (.int (105 : Int32)), (.int (115 : Int32)), (.int (58 : Int32)), (.int (110 : Int32)), (.int (97 : Int32)), (.int (109 : Int32)), (.int (101 : Int32)), (.int (115 : Int32)), (.int (58 : Int32)), (.int (116 : Int32)), (.int (99 : Int32)), (.int (0 : Int32)), (.int (0 : Int32)), (.int (0 : Int32)), (.int (0 : Int32)), (.int (0 : Int32)), (.int (0 : Int32)), (.int (0 : Int32)), (.int (0 : Int32)), (.int (0 : Int32)), (.int (0 : Int32)), (.int (0 : Int32)), (.int (0 : Int32)), (.int (0 : Int32)), (.int (0 : Int32)), (.int (0 : Int32)), (.int (0 : Int32)), (.int (0 : Int32)), (.int (0 : Int32)), (.int (0 : Int32)), (.int (0 : Int32)), (.int (0 : Int32)), (.int (0 : Int32)), (.int (0 : Int32)), (.int (0 : Int32)), (.int (0 : Int32)), (.int (0 : Int32))] (.int (0 : Int32)) := V37
  show Goes _ _ _ _ _ _ (T37.setTop (mkF m 106 #[] [(.ref b1)]))
  refine own_dup X37 hx (hb hby d1_106) rfl ?_
  refine own_bipush X37 hx (v := (18 : Int32)) (hb hby d1_107) rfl ?_
  refine own_bipush X37 hx (v := (58 : Int32)) (hb hby d1_109) rfl ?_
  show Goes _ _ _ _ _ _ (T37.setTop (mkF m 111 #[] [(.int (58 : Int32)), (.int (18 : Int32)), (.ref b1), (.ref b1)]))
  refine own_castore X37 hx hZ N37 e37 V37' ⟨by decide, by decide⟩ (i := 18) rfl (by first | decide | (simp; done)) ge_b1 (hb hby d1_111) (fun T39 h39 lc39 X39 e39 N39 W39 V39 => ?_)
  have O40 := O38.wr W39 ge_b1
  have KC40 := KC38.wr W39 (Or.inr sz_b1)
  have V39' : Arv Z h39 b1 k1 .char (44 : Int32) [(.int (117 : Int32)), (.int (114 : Int32)), (.int (110 : Int32)), (.int (58 : Int32)), (.int (111 : Int32)), (.int (97 : Int32)), (.int (115 : Int32)), (.int (105 : Int32)), (.int (115 : Int32)), (.int (58 : Int32)), (.int (110 : Int32)), (.int (97 : Int32)), (.int (109 : Int32)), (.int (101 : Int32)), (.int (115 : Int32)), (.int (58 : Int32)), (.int (116 : Int32)), (.int (99 : Int32)), (.int (58 : Int32)), (.int (0 : Int32)), (.int (0 : Int32)), (.int (0 : Int32)), (.int (0 : Int32)), (.int (0 : Int32)), (.int (0 : Int32)), (.int (0 : Int32)), (.int (0 : Int32)), (.int (0 : Int32)), (.int (0 : Int32)), (.int (0 : Int32)), (.int (0 : Int32)), (.int (0 : Int32)), (.int (0 : Int32)), (.int (0 : Int32)), (.int (0 : Int32)), (.int (0 : Int32)), (.int (0 : Int32)), (.int (0 : Int32)), (.int (0 : Int32)), (.int (0 : Int32)), (.int (0 : Int32)), (.int (0 : Int32)), (.int (0 : Int32)), (.int (0 : Int32))] (.int (0 : Int32)) := V39
  show Goes _ _ _ _ _ _ (T39.setTop (mkF m 112 #[] [(.ref b1)]))
  refine own_dup X39 hx (hb hby d1_112) rfl ?_
  refine own_bipush X39 hx (v := (19 : Int32)) (hb hby d1_113) rfl ?_
  refine own_bipush X39 hx (v := (83 : Int32)) (hb hby d1_115) rfl ?_
  show Goes _ _ _ _ _ _ (T39.setTop (mkF m 117 #[] [(.int (83 : Int32)), (.int (19 : Int32)), (.ref b1), (.ref b1)]))
  refine own_castore X39 hx hZ N39 e39 V39' ⟨by decide, by decide⟩ (i := 19) rfl (by first | decide | (simp; done)) ge_b1 (hb hby d1_117) (fun T41 h41 lc41 X41 e41 N41 W41 V41 => ?_)
  have O42 := O40.wr W41 ge_b1
  have KC42 := KC40.wr W41 (Or.inr sz_b1)
  have V41' : Arv Z h41 b1 k1 .char (44 : Int32) [(.int (117 : Int32)), (.int (114 : Int32)), (.int (110 : Int32)), (.int (58 : Int32)), (.int (111 : Int32)), (.int (97 : Int32)), (.int (115 : Int32)), (.int (105 : Int32)), (.int (115 : Int32)), (.int (58 : Int32)), (.int (110 : Int32)), (.int (97 : Int32)), (.int (109 : Int32)), (.int (101 : Int32)), (.int (115 : Int32)), (.int (58 : Int32)), (.int (116 : Int32)), (.int (99 : Int32)), (.int (58 : Int32)), (.int (83 : Int32)), (.int (0 : Int32)), (.int (0 : Int32)), (.int (0 : Int32)), (.int (0 : Int32)), (.int (0 : Int32)), (.int (0 : Int32)), (.int (0 : Int32)), (.int (0 : Int32)), (.int (0 : Int32)), (.int (0 : Int32)), (.int (0 : Int32)), (.int (0 : Int32)), (.int (0 : Int32)), (.int (0 : Int32)), (.int (0 : Int32)), (.int (0 : Int32)), (.int (0 : Int32)), (.int (0 : Int32)), (.int (0 : Int32)), (.int (0 : Int32)), (.int (0 : Int32)), (.int (0 : Int32)), (.int (0 : Int32)), (.int (0 : Int32))] (.int (0 : Int32)) := V41
  show Goes _ _ _ _ _ _ (T41.setTop (mkF m 118 #[] [(.ref b1)]))
  refine own_dup X41 hx (hb hby d1_118) rfl ?_
  refine own_bipush X41 hx (v := (20 : Int32)) (hb hby d1_119) rfl ?_
  refine own_bipush X41 hx (v := (65 : Int32)) (hb hby d1_121) rfl ?_
  show Goes _ _ _ _ _ _ (T41.setTop (mkF m 123 #[] [(.int (65 : Int32)), (.int (20 : Int32)), (.ref b1), (.ref b1)]))
  refine own_castore X41 hx hZ N41 e41 V41' ⟨by decide, by decide⟩ (i := 20) rfl (by first | decide | (simp; done)) ge_b1 (hb hby d1_123) (fun T43 h43 lc43 X43 e43 N43 W43 V43 => ?_)
  have O44 := O42.wr W43 ge_b1
  have KC44 := KC42.wr W43 (Or.inr sz_b1)
  have V43' : Arv Z h43 b1 k1 .char (44 : Int32) [(.int (117 : Int32)), (.int (114 : Int32)), (.int (110 : Int32)), (.int (58 : Int32)), (.int (111 : Int32)), (.int (97 : Int32)), (.int (115 : Int32)), (.int (105 : Int32)), (.int (115 : Int32)), (.int (58 : Int32)), (.int (110 : Int32)), (.int (97 : Int32)), (.int (109 : Int32)), (.int (101 : Int32)), (.int (115 : Int32)), (.int (58 : Int32)), (.int (116 : Int32)), (.int (99 : Int32)), (.int (58 : Int32)), (.int (83 : Int32)), (.int (65 : Int32)), (.int (0 : Int32)), (.int (0 : Int32)), (.int (0 : Int32)), (.int (0 : Int32)), (.int (0 : Int32)), (.int (0 : Int32)), (.int (0 : Int32)), (.int (0 : Int32)), (.int (0 : Int32)), (.int (0 : Int32)), (.int (0 : Int32)), (.int (0 : Int32)), (.int (0 : Int32)), (.int (0 : Int32)), (.int (0 : Int32)), (.int (0 : Int32)), (.int (0 : Int32)), (.int (0 : Int32)), (.int (0 : Int32)), (.int (0 : Int32)), (.int (0 : Int32)), (.int (0 : Int32)), (.int (0 : Int32))] (.int (0 : Int32)) := V43
  show Goes _ _ _ _ _ _ (T43.setTop (mkF m 124 #[] [(.ref b1)]))
  refine own_dup X43 hx (hb hby d1_124) rfl ?_
  refine own_bipush X43 hx (v := (21 : Int32)) (hb hby d1_125) rfl ?_
  refine own_bipush X43 hx (v := (77 : Int32)) (hb hby d1_127) rfl ?_
  show Goes _ _ _ _ _ _ (T43.setTop (mkF m 129 #[] [(.int (77 : Int32)), (.int (21 : Int32)), (.ref b1), (.ref b1)]))
  refine own_castore X43 hx hZ N43 e43 V43' ⟨by decide, by decide⟩ (i := 21) rfl (by first | decide | (simp; done)) ge_b1 (hb hby d1_129) (fun T45 h45 lc45 X45 e45 N45 W45 V45 => ?_)
  have O46 := O44.wr W45 ge_b1
  have KC46 := KC44.wr W45 (Or.inr sz_b1)
  have V45' : Arv Z h45 b1 k1 .char (44 : Int32) [(.int (117 : Int32)), (.int (114 : Int32)), (.int (110 : Int32)), (.int (58 : Int32)), (.int (111 : Int32)), (.int (97 : Int32)), (.int (115 : Int32)), (.int (105 : Int32)), (.int (115 : Int32)), (.int (58 : Int32)), (.int (110 : Int32)), (.int (97 : Int32)), (.int (109 : Int32)), (.int (101 : Int32)), (.int (115 : Int32)), (.int (58 : Int32)), (.int (116 : Int32)), (.int (99 : Int32)), (.int (58 : Int32)), (.int (83 : Int32)), (.int (65 : Int32)), (.int (77 : Int32)), (.int (0 : Int32)), (.int (0 : Int32)), (.int (0 : Int32)), (.int (0 : Int32)), (.int (0 : Int32)), (.int (0 : Int32)), (.int (0 : Int32)), (.int (0 : Int32)), (.int (0 : Int32)), (.int (0 : Int32)), (.int (0 : Int32)), (.int (0 : Int32)), (.int (0 : Int32)), (.int (0 : Int32)), (.int (0 : Int32)), (.int (0 : Int32)), (.int (0 : Int32)), (.int (0 : Int32)), (.int (0 : Int32)), (.int (0 : Int32)), (.int (0 : Int32)), (.int (0 : Int32))] (.int (0 : Int32)) := V45
  show Goes _ _ _ _ _ _ (T45.setTop (mkF m 130 #[] [(.ref b1)]))
  refine own_dup X45 hx (hb hby d1_130) rfl ?_
  refine own_bipush X45 hx (v := (22 : Int32)) (hb hby d1_131) rfl ?_
  refine own_bipush X45 hx (v := (76 : Int32)) (hb hby d1_133) rfl ?_
  show Goes _ _ _ _ _ _ (T45.setTop (mkF m 135 #[] [(.int (76 : Int32)), (.int (22 : Int32)), (.ref b1), (.ref b1)]))
  refine own_castore X45 hx hZ N45 e45 V45' ⟨by decide, by decide⟩ (i := 22) rfl (by first | decide | (simp; done)) ge_b1 (hb hby d1_135) (fun T47 h47 lc47 X47 e47 N47 W47 V47 => ?_)
  have O48 := O46.wr W47 ge_b1
  have KC48 := KC46.wr W47 (Or.inr sz_b1)
  have V47' : Arv Z h47 b1 k1 .char (44 : Int32) [(.int (117 : Int32)), (.int (114 : Int32)), (.int (110 : Int32)), (.int (58 : Int32)), (.int (111 : Int32)), (.int (97 : Int32)), (.int (115 : Int32)), (.int (105 : Int32)), (.int (115 : Int32)), (.int (58 : Int32)), (.int (110 : Int32)), (.int (97 : Int32)), (.int (109 : Int32)), (.int (101 : Int32)), (.int (115 : Int32)), (.int (58 : Int32)), (.int (116 : Int32)), (.int (99 : Int32)), (.int (58 : Int32)), (.int (83 : Int32)), (.int (65 : Int32)), (.int (77 : Int32)), (.int (76 : Int32)), (.int (0 : Int32)), (.int (0 : Int32)), (.int (0 : Int32)), (.int (0 : Int32)), (.int (0 : Int32)), (.int (0 : Int32)), (.int (0 : Int32)), (.int (0 : Int32)), (.int (0 : Int32)), (.int (0 : Int32)), (.int (0 : Int32)), (.int (0 : Int32)), (.int (0 : Int32)), (.int (0 : Int32)), (.int (0 : Int32)), (.int (0 : Int32)), (.int (0 : Int32)), (.int (0 : Int32)), (.int (0 : Int32)), (.int (0 : Int32)), (.int (0 : Int32))] (.int (0 : Int32)) := V47
  show Goes _ _ _ _ _ _ (T47.setTop (mkF m 136 #[] [(.ref b1)]))
  refine own_dup X47 hx (hb hby d1_136) rfl ?_
  refine own_bipush X47 hx (v := (23 : Int32)) (hb hby d1_137) rfl ?_
  refine own_bipush X47 hx (v := (58 : Int32)) (hb hby d1_139) rfl ?_
  show Goes _ _ _ _ _ _ (T47.setTop (mkF m 141 #[] [(.int (58 : Int32)), (.int (23 : Int32)), (.ref b1), (.ref b1)]))
  refine own_castore X47 hx hZ N47 e47 V47' ⟨by decide, by decide⟩ (i := 23) rfl (by first | decide | (simp; done)) ge_b1 (hb hby d1_141) (fun T49 h49 lc49 X49 e49 N49 W49 V49 => ?_)
  have O50 := O48.wr W49 ge_b1
  have KC50 := KC48.wr W49 (Or.inr sz_b1)
  have V49' : Arv Z h49 b1 k1 .char (44 : Int32) [(.int (117 : Int32)), (.int (114 : Int32)), (.int (110 : Int32)), (.int (58 : Int32)), (.int (111 : Int32)), (.int (97 : Int32)), (.int (115 : Int32)), (.int (105 : Int32)), (.int (115 : Int32)), (.int (58 : Int32)), (.int (110 : Int32)), (.int (97 : Int32)), (.int (109 : Int32)), (.int (101 : Int32)), (.int (115 : Int32)), (.int (58 : Int32)), (.int (116 : Int32)), (.int (99 : Int32)), (.int (58 : Int32)), (.int (83 : Int32)), (.int (65 : Int32)), (.int (77 : Int32)), (.int (76 : Int32)), (.int (58 : Int32)), (.int (0 : Int32)), (.int (0 : Int32)), (.int (0 : Int32)), (.int (0 : Int32)), (.int (0 : Int32)), (.int (0 : Int32)), (.int (0 : Int32)), (.int (0 : Int32)), (.int (0 : Int32)), (.int (0 : Int32)), (.int (0 : Int32)), (.int (0 : Int32)), (.int (0 : Int32)), (.int (0 : Int32)), (.int (0 : Int32)), (.int (0 : Int32)), (.int (0 : Int32)), (.int (0 : Int32)), (.int (0 : Int32)), (.int (0 : Int32))] (.int (0 : Int32)) := V49
  show Goes _ _ _ _ _ _ (T49.setTop (mkF m 142 #[] [(.ref b1)]))
  refine own_dup X49 hx (hb hby d1_142) rfl ?_
  refine own_bipush X49 hx (v := (24 : Int32)) (hb hby d1_143) rfl ?_
  refine own_bipush X49 hx (v := (50 : Int32)) (hb hby d1_145) rfl ?_
  show Goes _ _ _ _ _ _ (T49.setTop (mkF m 147 #[] [(.int (50 : Int32)), (.int (24 : Int32)), (.ref b1), (.ref b1)]))
  refine own_castore X49 hx hZ N49 e49 V49' ⟨by decide, by decide⟩ (i := 24) rfl (by first | decide | (simp; done)) ge_b1 (hb hby d1_147) (fun T51 h51 lc51 X51 e51 N51 W51 V51 => ?_)
  have O52 := O50.wr W51 ge_b1
  have KC52 := KC50.wr W51 (Or.inr sz_b1)
  have V51' : Arv Z h51 b1 k1 .char (44 : Int32) [(.int (117 : Int32)), (.int (114 : Int32)), (.int (110 : Int32)), (.int (58 : Int32)), (.int (111 : Int32)), (.int (97 : Int32)), (.int (115 : Int32)), (.int (105 : Int32)), (.int (115 : Int32)), (.int (58 : Int32)), (.int (110 : Int32)), (.int (97 : Int32)), (.int (109 : Int32)), (.int (101 : Int32)), (.int (115 : Int32)), (.int (58 : Int32)), (.int (116 : Int32)), (.int (99 : Int32)), (.int (58 : Int32)), (.int (83 : Int32)), (.int (65 : Int32)), (.int (77 : Int32)), (.int (76 : Int32)), (.int (58 : Int32)), (.int (50 : Int32)), (.int (0 : Int32)), (.int (0 : Int32)), (.int (0 : Int32)), (.int (0 : Int32)), (.int (0 : Int32)), (.int (0 : Int32)), (.int (0 : Int32)), (.int (0 : Int32)), (.int (0 : Int32)), (.int (0 : Int32)), (.int (0 : Int32)), (.int (0 : Int32)), (.int (0 : Int32)), (.int (0 : Int32)), (.int (0 : Int32)), (.int (0 : Int32)), (.int (0 : Int32)), (.int (0 : Int32)), (.int (0 : Int32))] (.int (0 : Int32)) := V51
  show Goes _ _ _ _ _ _ (T51.setTop (mkF m 148 #[] [(.ref b1)]))
  refine own_dup X51 hx (hb hby d1_148) rfl ?_
  refine own_bipush X51 hx (v := (25 : Int32)) (hb hby d1_149) rfl ?_
  refine own_bipush X51 hx (v := (46 : Int32)) (hb hby d1_151) rfl ?_
  show Goes _ _ _ _ _ _ (T51.setTop (mkF m 153 #[] [(.int (46 : Int32)), (.int (25 : Int32)), (.ref b1), (.ref b1)]))
  refine own_castore X51 hx hZ N51 e51 V51' ⟨by decide, by decide⟩ (i := 25) rfl (by first | decide | (simp; done)) ge_b1 (hb hby d1_153) (fun T53 h53 lc53 X53 e53 N53 W53 V53 => ?_)
  have O54 := O52.wr W53 ge_b1
  have KC54 := KC52.wr W53 (Or.inr sz_b1)
  have V53' : Arv Z h53 b1 k1 .char (44 : Int32) [(.int (117 : Int32)), (.int (114 : Int32)), (.int (110 : Int32)), (.int (58 : Int32)), (.int (111 : Int32)), (.int (97 : Int32)), (.int (115 : Int32)), (.int (105 : Int32)), (.int (115 : Int32)), (.int (58 : Int32)), (.int (110 : Int32)), (.int (97 : Int32)), (.int (109 : Int32)), (.int (101 : Int32)), (.int (115 : Int32)), (.int (58 : Int32)), (.int (116 : Int32)), (.int (99 : Int32)), (.int (58 : Int32)), (.int (83 : Int32)), (.int (65 : Int32)), (.int (77 : Int32)), (.int (76 : Int32)), (.int (58 : Int32)), (.int (50 : Int32)), (.int (46 : Int32)), (.int (0 : Int32)), (.int (0 : Int32)), (.int (0 : Int32)), (.int (0 : Int32)), (.int (0 : Int32)), (.int (0 : Int32)), (.int (0 : Int32)), (.int (0 : Int32)), (.int (0 : Int32)), (.int (0 : Int32)), (.int (0 : Int32)), (.int (0 : Int32)), (.int (0 : Int32)), (.int (0 : Int32)), (.int (0 : Int32)), (.int (0 : Int32)), (.int (0 : Int32)), (.int (0 : Int32))] (.int (0 : Int32)) := V53
  show Goes _ _ _ _ _ _ (T53.setTop (mkF m 154 #[] [(.ref b1)]))
  refine own_dup X53 hx (hb hby d1_154) rfl ?_
  refine own_bipush X53 hx (v := (26 : Int32)) (hb hby d1_155) rfl ?_
  refine own_bipush X53 hx (v := (48 : Int32)) (hb hby d1_157) rfl ?_
  show Goes _ _ _ _ _ _ (T53.setTop (mkF m 159 #[] [(.int (48 : Int32)), (.int (26 : Int32)), (.ref b1), (.ref b1)]))
  refine own_castore X53 hx hZ N53 e53 V53' ⟨by decide, by decide⟩ (i := 26) rfl (by first | decide | (simp; done)) ge_b1 (hb hby d1_159) (fun T55 h55 lc55 X55 e55 N55 W55 V55 => ?_)
  have O56 := O54.wr W55 ge_b1
  have KC56 := KC54.wr W55 (Or.inr sz_b1)
  have V55' : Arv Z h55 b1 k1 .char (44 : Int32) [(.int (117 : Int32)), (.int (114 : Int32)), (.int (110 : Int32)), (.int (58 : Int32)), (.int (111 : Int32)), (.int (97 : Int32)), (.int (115 : Int32)), (.int (105 : Int32)), (.int (115 : Int32)), (.int (58 : Int32)), (.int (110 : Int32)), (.int (97 : Int32)), (.int (109 : Int32)), (.int (101 : Int32)), (.int (115 : Int32)), (.int (58 : Int32)), (.int (116 : Int32)), (.int (99 : Int32)), (.int (58 : Int32)), (.int (83 : Int32)), (.int (65 : Int32)), (.int (77 : Int32)), (.int (76 : Int32)), (.int (58 : Int32)), (.int (50 : Int32)), (.int (46 : Int32)), (.int (48 : Int32)), (.int (0 : Int32)), (.int (0 : Int32)), (.int (0 : Int32)), (.int (0 : Int32)), (.int (0 : Int32)), (.int (0 : Int32)), (.int (0 : Int32)), (.int (0 : Int32)), (.int (0 : Int32)), (.int (0 : Int32)), (.int (0 : Int32)), (.int (0 : Int32)), (.int (0 : Int32)), (.int (0 : Int32)), (.int (0 : Int32)), (.int (0 : Int32)), (.int (0 : Int32))] (.int (0 : Int32)) := V55
  show Goes _ _ _ _ _ _ (T55.setTop (mkF m 160 #[] [(.ref b1)]))
  refine own_dup X55 hx (hb hby d1_160) rfl ?_
  refine own_bipush X55 hx (v := (27 : Int32)) (hb hby d1_161) rfl ?_
  refine own_bipush X55 hx (v := (58 : Int32)) (hb hby d1_163) rfl ?_
  show Goes _ _ _ _ _ _ (T55.setTop (mkF m 165 #[] [(.int (58 : Int32)), (.int (27 : Int32)), (.ref b1), (.ref b1)]))
  refine own_castore X55 hx hZ N55 e55 V55' ⟨by decide, by decide⟩ (i := 27) rfl (by first | decide | (simp; done)) ge_b1 (hb hby d1_165) (fun T57 h57 lc57 X57 e57 N57 W57 V57 => ?_)
  have O58 := O56.wr W57 ge_b1
  have KC58 := KC56.wr W57 (Or.inr sz_b1)
  have V57' : Arv Z h57 b1 k1 .char (44 : Int32) [(.int (117 : Int32)), (.int (114 : Int32)), (.int (110 : Int32)), (.int (58 : Int32)), (.int (111 : Int32)), (.int (97 : Int32)), (.int (115 : Int32)), (.int (105 : Int32)), (.int (115 : Int32)), (.int (58 : Int32)), (.int (110 : Int32)), (.int (97 : Int32)), (.int (109 : Int32)), (.int (101 : Int32)), (.int (115 : Int32)), (.int (58 : Int32)), (.int (116 : Int32)), (.int (99 : Int32)), (.int (58 : Int32)), (.int (83 : Int32)), (.int (65 : Int32)), (.int (77 : Int32)), (.int (76 : Int32)), (.int (58 : Int32)), (.int (50 : Int32)), (.int (46 : Int32)), (.int (48 : Int32)), (.int (58 : Int32)), (.int (0 : Int32)), (.int (0 : Int32)), (.int (0 : Int32)), (.int (0 : Int32)), (.int (0 : Int32)), (.int (0 : Int32)), (.int (0 : Int32)), (.int (0 : Int32)), (.int (0 : Int32)), (.int (0 : Int32)), (.int (0 : Int32)), (.int (0 : Int32)), (.int (0 : Int32)), (.int (0 : Int32)), (.int (0 : Int32)), (.int (0 : Int32))] (.int (0 : Int32)) := V57
  show Goes _ _ _ _ _ _ (T57.setTop (mkF m 166 #[] [(.ref b1)]))
  refine own_dup X57 hx (hb hby d1_166) rfl ?_
  refine own_bipush X57 hx (v := (28 : Int32)) (hb hby d1_167) rfl ?_
  refine own_bipush X57 hx (v := (115 : Int32)) (hb hby d1_169) rfl ?_
  show Goes _ _ _ _ _ _ (T57.setTop (mkF m 171 #[] [(.int (115 : Int32)), (.int (28 : Int32)), (.ref b1), (.ref b1)]))
  refine own_castore X57 hx hZ N57 e57 V57' ⟨by decide, by decide⟩ (i := 28) rfl (by first | decide | (simp; done)) ge_b1 (hb hby d1_171) (fun T59 h59 lc59 X59 e59 N59 W59 V59 => ?_)
  have O60 := O58.wr W59 ge_b1
  have KC60 := KC58.wr W59 (Or.inr sz_b1)
  have V59' : Arv Z h59 b1 k1 .char (44 : Int32) [(.int (117 : Int32)), (.int (114 : Int32)), (.int (110 : Int32)), (.int (58 : Int32)), (.int (111 : Int32)), (.int (97 : Int32)), (.int (115 : Int32)), (.int (105 : Int32)), (.int (115 : Int32)), (.int (58 : Int32)), (.int (110 : Int32)), (.int (97 : Int32)), (.int (109 : Int32)), (.int (101 : Int32)), (.int (115 : Int32)), (.int (58 : Int32)), (.int (116 : Int32)), (.int (99 : Int32)), (.int (58 : Int32)), (.int (83 : Int32)), (.int (65 : Int32)), (.int (77 : Int32)), (.int (76 : Int32)), (.int (58 : Int32)), (.int (50 : Int32)), (.int (46 : Int32)), (.int (48 : Int32)), (.int (58 : Int32)), (.int (115 : Int32)), (.int (0 : Int32)), (.int (0 : Int32)), (.int (0 : Int32)), (.int (0 : Int32)), (.int (0 : Int32)), (.int (0 : Int32)), (.int (0 : Int32)), (.int (0 : Int32)), (.int (0 : Int32)), (.int (0 : Int32)), (.int (0 : Int32)), (.int (0 : Int32)), (.int (0 : Int32)), (.int (0 : Int32)), (.int (0 : Int32))] (.int (0 : Int32)) := V59
  show Goes _ _ _ _ _ _ (T59.setTop (mkF m 172 #[] [(.ref b1)]))
  refine own_dup X59 hx (hb hby d1_172) rfl ?_
  refine own_bipush X59 hx (v := (29 : Int32)) (hb hby d1_173) rfl ?_
  refine own_bipush X59 hx (v := (116 : Int32)) (hb hby d1_175) rfl ?_
  show Goes _ _ _ _ _ _ (T59.setTop (mkF m 177 #[] [(.int (116 : Int32)), (.int (29 : Int32)), (.ref b1), (.ref b1)]))
  refine own_castore X59 hx hZ N59 e59 V59' ⟨by decide, by decide⟩ (i := 29) rfl (by first | decide | (simp; done)) ge_b1 (hb hby d1_177) (fun T61 h61 lc61 X61 e61 N61 W61 V61 => ?_)
  have O62 := O60.wr W61 ge_b1
  have KC62 := KC60.wr W61 (Or.inr sz_b1)
  have V61' : Arv Z h61 b1 k1 .char (44 : Int32) [(.int (117 : Int32)), (.int (114 : Int32)), (.int (110 : Int32)), (.int (58 : Int32)), (.int (111 : Int32)), (.int (97 : Int32)), (.int (115 : Int32)), (.int (105 : Int32)), (.int (115 : Int32)), (.int (58 : Int32)), (.int (110 : Int32)), (.int (97 : Int32)), (.int (109 : Int32)), (.int (101 : Int32)), (.int (115 : Int32)), (.int (58 : Int32)), (.int (116 : Int32)), (.int (99 : Int32)), (.int (58 : Int32)), (.int (83 : Int32)), (.int (65 : Int32)), (.int (77 : Int32)), (.int (76 : Int32)), (.int (58 : Int32)), (.int (50 : Int32)), (.int (46 : Int32)), (.int (48 : Int32)), (.int (58 : Int32)), (.int (115 : Int32)), (.int (116 : Int32)), (.int (0 : Int32)), (.int (0 : Int32)), (.int (0 : Int32)), (.int (0 : Int32)), (.int (0 : Int32)), (.int (0 : Int32)), (.int (0 : Int32)), (.int (0 : Int32)), (.int (0 : Int32)), (.int (0 : Int32)), (.int (0 : Int32)), (.int (0 : Int32)), (.int (0 : Int32)), (.int (0 : Int32))] (.int (0 : Int32)) := V61
  show Goes _ _ _ _ _ _ (T61.setTop (mkF m 178 #[] [(.ref b1)]))
  refine own_dup X61 hx (hb hby d1_178) rfl ?_
  refine own_bipush X61 hx (v := (30 : Int32)) (hb hby d1_179) rfl ?_
  refine own_bipush X61 hx (v := (97 : Int32)) (hb hby d1_181) rfl ?_
  show Goes _ _ _ _ _ _ (T61.setTop (mkF m 183 #[] [(.int (97 : Int32)), (.int (30 : Int32)), (.ref b1), (.ref b1)]))
  refine own_castore X61 hx hZ N61 e61 V61' ⟨by decide, by decide⟩ (i := 30) rfl (by first | decide | (simp; done)) ge_b1 (hb hby d1_183) (fun T63 h63 lc63 X63 e63 N63 W63 V63 => ?_)
  have O64 := O62.wr W63 ge_b1
  have KC64 := KC62.wr W63 (Or.inr sz_b1)
  have V63' : Arv Z h63 b1 k1 .char (44 : Int32) [(.int (117 : Int32)), (.int (114 : Int32)), (.int (110 : Int32)), (.int (58 : Int32)), (.int (111 : Int32)), (.int (97 : Int32)), (.int (115 : Int32)), (.int (105 : Int32)), (.int (115 : Int32)), (.int (58 : Int32)), (.int (110 : Int32)), (.int (97 : Int32)), (.int (109 : Int32)), (.int (101 : Int32)), (.int (115 : Int32)), (.int (58 : Int32)), (.int (116 : Int32)), (.int (99 : Int32)), (.int (58 : Int32)), (.int (83 : Int32)), (.int (65 : Int32)), (.int (77 : Int32)), (.int (76 : Int32)), (.int (58 : Int32)), (.int (50 : Int32)), (.int (46 : Int32)), (.int (48 : Int32)), (.int (58 : Int32)), (.int (115 : Int32)), (.int (116 : Int32)), (.int (97 : Int32)), (.int (0 : Int32)), (.int (0 : Int32)), (.int (0 : Int32)), (.int (0 : Int32)), (.int (0 : Int32)), (.int (0 : Int32)), (.int (0 : Int32)), (.int (0 : Int32)), (.int (0 : Int32)), (.int (0 : Int32)), (.int (0 : Int32)), (.int (0 : Int32)), (.int (0 : Int32))] (.int (0 : Int32)) := V63
  show Goes _ _ _ _ _ _ (T63.setTop (mkF m 184 #[] [(.ref b1)]))
  refine own_dup X63 hx (hb hby d1_184) rfl ?_
  refine own_bipush X63 hx (v := (31 : Int32)) (hb hby d1_185) rfl ?_
  refine own_bipush X63 hx (v := (116 : Int32)) (hb hby d1_187) rfl ?_
  show Goes _ _ _ _ _ _ (T63.setTop (mkF m 189 #[] [(.int (116 : Int32)), (.int (31 : Int32)), (.ref b1), (.ref b1)]))
  refine own_castore X63 hx hZ N63 e63 V63' ⟨by decide, by decide⟩ (i := 31) rfl (by first | decide | (simp; done)) ge_b1 (hb hby d1_189) (fun T65 h65 lc65 X65 e65 N65 W65 V65 => ?_)
  have O66 := O64.wr W65 ge_b1
  have KC66 := KC64.wr W65 (Or.inr sz_b1)
  have V65' : Arv Z h65 b1 k1 .char (44 : Int32) [(.int (117 : Int32)), (.int (114 : Int32)), (.int (110 : Int32)), (.int (58 : Int32)), (.int (111 : Int32)), (.int (97 : Int32)), (.int (115 : Int32)), (.int (105 : Int32)), (.int (115 : Int32)), (.int (58 : Int32)), (.int (110 : Int32)), (.int (97 : Int32)), (.int (109 : Int32)), (.int (101 : Int32)), (.int (115 : Int32)), (.int (58 : Int32)), (.int (116 : Int32)), (.int (99 : Int32)), (.int (58 : Int32)), (.int (83 : Int32)), (.int (65 : Int32)), (.int (77 : Int32)), (.int (76 : Int32)), (.int (58 : Int32)), (.int (50 : Int32)), (.int (46 : Int32)), (.int (48 : Int32)), (.int (58 : Int32)), (.int (115 : Int32)), (.int (116 : Int32)), (.int (97 : Int32)), (.int (116 : Int32)), (.int (0 : Int32)), (.int (0 : Int32)), (.int (0 : Int32)), (.int (0 : Int32)), (.int (0 : Int32)), (.int (0 : Int32)), (.int (0 : Int32)), (.int (0 : Int32)), (.int (0 : Int32)), (.int (0 : Int32)), (.int (0 : Int32)), (.int (0 : Int32))] (.int (0 : Int32)) := V65
  show Goes _ _ _ _ _ _ (T65.setTop (mkF m 190 #[] [(.ref b1)]))
  refine own_dup X65 hx (hb hby d1_190) rfl ?_
  refine own_bipush X65 hx (v := (32 : Int32)) (hb hby d1_191) rfl ?_
  refine own_bipush X65 hx (v := (117 : Int32)) (hb hby d1_193) rfl ?_
  show Goes _ _ _ _ _ _ (T65.setTop (mkF m 195 #[] [(.int (117 : Int32)), (.int (32 : Int32)), (.ref b1), (.ref b1)]))
  refine own_castore X65 hx hZ N65 e65 V65' ⟨by decide, by decide⟩ (i := 32) rfl (by first | decide | (simp; done)) ge_b1 (hb hby d1_195) (fun T67 h67 lc67 X67 e67 N67 W67 V67 => ?_)
  have O68 := O66.wr W67 ge_b1
  have KC68 := KC66.wr W67 (Or.inr sz_b1)
  have V67' : Arv Z h67 b1 k1 .char (44 : Int32) [(.int (117 : Int32)), (.int (114 : Int32)), (.int (110 : Int32)), (.int (58 : Int32)), (.int (111 : Int32)), (.int (97 : Int32)), (.int (115 : Int32)), (.int (105 : Int32)), (.int (115 : Int32)), (.int (58 : Int32)), (.int (110 : Int32)), (.int (97 : Int32)), (.int (109 : Int32)), (.int (101 : Int32)), (.int (115 : Int32)), (.int (58 : Int32)), (.int (116 : Int32)), (.int (99 : Int32)), (.int (58 : Int32)), (.int (83 : Int32)), (.int (65 : Int32)), (.int (77 : Int32)), (.int (76 : Int32)), (.int (58 : Int32)), (.int (50 : Int32)), (.int (46 : Int32)), (.int (48 : Int32)), (.int (58 : Int32)), (.int (115 : Int32)), (.int (116 : Int32)), (.int (97 : Int32)), (.int (116 : Int32)), (.int (117 : Int32)), (.int (0 : Int32)), (.int (0 : Int32)), (.int (0 : Int32)), (.int (0 : Int32)), (.int (0 : Int32)), (.int (0 : Int32)), (.int (0 : Int32)), (.int (0 : Int32)), (.int (0 : Int32)), (.int (0 : Int32)), (.int (0 : Int32))] (.int (0 : Int32)) := V67
  show Goes _ _ _ _ _ _ (T67.setTop (mkF m 196 #[] [(.ref b1)]))
  refine own_dup X67 hx (hb hby d1_196) rfl ?_
  refine own_bipush X67 hx (v := (33 : Int32)) (hb hby d1_197) rfl ?_
  refine own_bipush X67 hx (v := (115 : Int32)) (hb hby d1_199) rfl ?_
  show Goes _ _ _ _ _ _ (T67.setTop (mkF m 201 #[] [(.int (115 : Int32)), (.int (33 : Int32)), (.ref b1), (.ref b1)]))
  refine own_castore X67 hx hZ N67 e67 V67' ⟨by decide, by decide⟩ (i := 33) rfl (by first | decide | (simp; done)) ge_b1 (hb hby d1_201) (fun T69 h69 lc69 X69 e69 N69 W69 V69 => ?_)
  have O70 := O68.wr W69 ge_b1
  have KC70 := KC68.wr W69 (Or.inr sz_b1)
  have V69' : Arv Z h69 b1 k1 .char (44 : Int32) [(.int (117 : Int32)), (.int (114 : Int32)), (.int (110 : Int32)), (.int (58 : Int32)), (.int (111 : Int32)), (.int (97 : Int32)), (.int (115 : Int32)), (.int (105 : Int32)), (.int (115 : Int32)), (.int (58 : Int32)), (.int (110 : Int32)), (.int (97 : Int32)), (.int (109 : Int32)), (.int (101 : Int32)), (.int (115 : Int32)), (.int (58 : Int32)), (.int (116 : Int32)), (.int (99 : Int32)), (.int (58 : Int32)), (.int (83 : Int32)), (.int (65 : Int32)), (.int (77 : Int32)), (.int (76 : Int32)), (.int (58 : Int32)), (.int (50 : Int32)), (.int (46 : Int32)), (.int (48 : Int32)), (.int (58 : Int32)), (.int (115 : Int32)), (.int (116 : Int32)), (.int (97 : Int32)), (.int (116 : Int32)), (.int (117 : Int32)), (.int (115 : Int32)), (.int (0 : Int32)), (.int (0 : Int32)), (.int (0 : Int32)), (.int (0 : Int32)), (.int (0 : Int32)), (.int (0 : Int32)), (.int (0 : Int32)), (.int (0 : Int32)), (.int (0 : Int32)), (.int (0 : Int32))] (.int (0 : Int32)) := V69
  show Goes _ _ _ _ _ _ (T69.setTop (mkF m 202 #[] [(.ref b1)]))
  refine own_dup X69 hx (hb hby d1_202) rfl ?_
  refine own_bipush X69 hx (v := (34 : Int32)) (hb hby d1_203) rfl ?_
  refine own_bipush X69 hx (v := (58 : Int32)) (hb hby d1_205) rfl ?_
  show Goes _ _ _ _ _ _ (T69.setTop (mkF m 207 #[] [(.int (58 : Int32)), (.int (34 : Int32)), (.ref b1), (.ref b1)]))
  refine own_castore X69 hx hZ N69 e69 V69' ⟨by decide, by decide⟩ (i := 34) rfl (by first | decide | (simp; done)) ge_b1 (hb hby d1_207) (fun T71 h71 lc71 X71 e71 N71 W71 V71 => ?_)
  have O72 := O70.wr W71 ge_b1
  have KC72 := KC70.wr W71 (Or.inr sz_b1)
  have V71' : Arv Z h71 b1 k1 .char (44 : Int32) [(.int (117 : Int32)), (.int (114 : Int32)), (.int (110 : Int32)), (.int (58 : Int32)), (.int (111 : Int32)), (.int (97 : Int32)), (.int (115 : Int32)), (.int (105 : Int32)), (.int (115 : Int32)), (.int (58 : Int32)), (.int (110 : Int32)), (.int (97 : Int32)), (.int (109 : Int32)), (.int (101 : Int32)), (.int (115 : Int32)), (.int (58 : Int32)), (.int (116 : Int32)), (.int (99 : Int32)), (.int (58 : Int32)), (.int (83 : Int32)), (.int (65 : Int32)), (.int (77 : Int32)), (.int (76 : Int32)), (.int (58 : Int32)), (.int (50 : Int32)), (.int (46 : Int32)), (.int (48 : Int32)), (.int (58 : Int32)), (.int (115 : Int32)), (.int (116 : Int32)), (.int (97 : Int32)), (.int (116 : Int32)), (.int (117 : Int32)), (.int (115 : Int32)), (.int (58 : Int32)), (.int (0 : Int32)), (.int (0 : Int32)), (.int (0 : Int32)), (.int (0 : Int32)), (.int (0 : Int32)), (.int (0 : Int32)), (.int (0 : Int32)), (.int (0 : Int32)), (.int (0 : Int32))] (.int (0 : Int32)) := V71
  show Goes _ _ _ _ _ _ (T71.setTop (mkF m 208 #[] [(.ref b1)]))
  refine own_dup X71 hx (hb hby d1_208) rfl ?_
  refine own_bipush X71 hx (v := (35 : Int32)) (hb hby d1_209) rfl ?_
  refine own_bipush X71 hx (v := (82 : Int32)) (hb hby d1_211) rfl ?_
  show Goes _ _ _ _ _ _ (T71.setTop (mkF m 213 #[] [(.int (82 : Int32)), (.int (35 : Int32)), (.ref b1), (.ref b1)]))
  refine own_castore X71 hx hZ N71 e71 V71' ⟨by decide, by decide⟩ (i := 35) rfl (by first | decide | (simp; done)) ge_b1 (hb hby d1_213) (fun T73 h73 lc73 X73 e73 N73 W73 V73 => ?_)
  have O74 := O72.wr W73 ge_b1
  have KC74 := KC72.wr W73 (Or.inr sz_b1)
  have V73' : Arv Z h73 b1 k1 .char (44 : Int32) [(.int (117 : Int32)), (.int (114 : Int32)), (.int (110 : Int32)), (.int (58 : Int32)), (.int (111 : Int32)), (.int (97 : Int32)), (.int (115 : Int32)), (.int (105 : Int32)), (.int (115 : Int32)), (.int (58 : Int32)), (.int (110 : Int32)), (.int (97 : Int32)), (.int (109 : Int32)), (.int (101 : Int32)), (.int (115 : Int32)), (.int (58 : Int32)), (.int (116 : Int32)), (.int (99 : Int32)), (.int (58 : Int32)), (.int (83 : Int32)), (.int (65 : Int32)), (.int (77 : Int32)), (.int (76 : Int32)), (.int (58 : Int32)), (.int (50 : Int32)), (.int (46 : Int32)), (.int (48 : Int32)), (.int (58 : Int32)), (.int (115 : Int32)), (.int (116 : Int32)), (.int (97 : Int32)), (.int (116 : Int32)), (.int (117 : Int32)), (.int (115 : Int32)), (.int (58 : Int32)), (.int (82 : Int32)), (.int (0 : Int32)), (.int (0 : Int32)), (.int (0 : Int32)), (.int (0 : Int32)), (.int (0 : Int32)), (.int (0 : Int32)), (.int (0 : Int32)), (.int (0 : Int32))] (.int (0 : Int32)) := V73
  show Goes _ _ _ _ _ _ (T73.setTop (mkF m 214 #[] [(.ref b1)]))
  refine own_dup X73 hx (hb hby d1_214) rfl ?_
  refine own_bipush X73 hx (v := (36 : Int32)) (hb hby d1_215) rfl ?_
  refine own_bipush X73 hx (v := (101 : Int32)) (hb hby d1_217) rfl ?_
  show Goes _ _ _ _ _ _ (T73.setTop (mkF m 219 #[] [(.int (101 : Int32)), (.int (36 : Int32)), (.ref b1), (.ref b1)]))
  refine own_castore X73 hx hZ N73 e73 V73' ⟨by decide, by decide⟩ (i := 36) rfl (by first | decide | (simp; done)) ge_b1 (hb hby d1_219) (fun T75 h75 lc75 X75 e75 N75 W75 V75 => ?_)
  have O76 := O74.wr W75 ge_b1
  have KC76 := KC74.wr W75 (Or.inr sz_b1)
  have V75' : Arv Z h75 b1 k1 .char (44 : Int32) [(.int (117 : Int32)), (.int (114 : Int32)), (.int (110 : Int32)), (.int (58 : Int32)), (.int (111 : Int32)), (.int (97 : Int32)), (.int (115 : Int32)), (.int (105 : Int32)), (.int (115 : Int32)), (.int (58 : Int32)), (.int (110 : Int32)), (.int (97 : Int32)), (.int (109 : Int32)), (.int (101 : Int32)), (.int (115 : Int32)), (.int (58 : Int32)), (.int (116 : Int32)), (.int (99 : Int32)), (.int (58 : Int32)), (.int (83 : Int32)), (.int (65 : Int32)), (.int (77 : Int32)), (.int (76 : Int32)), (.int (58 : Int32)), (.int (50 : Int32)), (.int (46 : Int32)), (.int (48 : Int32)), (.int (58 : Int32)), (.int (115 : Int32)), (.int (116 : Int32)), (.int (97 : Int32)), (.int (116 : Int32)), (.int (117 : Int32)), (.int (115 : Int32)), (.int (58 : Int32)), (.int (82 : Int32)), (.int (101 : Int32)), (.int (0 : Int32)), (.int (0 : Int32)), (.int (0 : Int32)), (.int (0 : Int32)), (.int (0 : Int32)), (.int (0 : Int32)), (.int (0 : Int32))] (.int (0 : Int32)) := V75
  show Goes _ _ _ _ _ _ (T75.setTop (mkF m 220 #[] [(.ref b1)]))
  refine own_dup X75 hx (hb hby d1_220) rfl ?_
  refine own_bipush X75 hx (v := (37 : Int32)) (hb hby d1_221) rfl ?_
  refine own_bipush X75 hx (v := (115 : Int32)) (hb hby d1_223) rfl ?_
  show Goes _ _ _ _ _ _ (T75.setTop (mkF m 225 #[] [(.int (115 : Int32)), (.int (37 : Int32)), (.ref b1), (.ref b1)]))
  refine own_castore X75 hx hZ N75 e75 V75' ⟨by decide, by decide⟩ (i := 37) rfl (by first | decide | (simp; done)) ge_b1 (hb hby d1_225) (fun T77 h77 lc77 X77 e77 N77 W77 V77 => ?_)
  have O78 := O76.wr W77 ge_b1
  have KC78 := KC76.wr W77 (Or.inr sz_b1)
  have V77' : Arv Z h77 b1 k1 .char (44 : Int32) [(.int (117 : Int32)), (.int (114 : Int32)), (.int (110 : Int32)), (.int (58 : Int32)), (.int (111 : Int32)), (.int (97 : Int32)), (.int (115 : Int32)), (.int (105 : Int32)), (.int (115 : Int32)), (.int (58 : Int32)), (.int (110 : Int32)), (.int (97 : Int32)), (.int (109 : Int32)), (.int (101 : Int32)), (.int (115 : Int32)), (.int (58 : Int32)), (.int (116 : Int32)), (.int (99 : Int32)), (.int (58 : Int32)), (.int (83 : Int32)), (.int (65 : Int32)), (.int (77 : Int32)), (.int (76 : Int32)), (.int (58 : Int32)), (.int (50 : Int32)), (.int (46 : Int32)), (.int (48 : Int32)), (.int (58 : Int32)), (.int (115 : Int32)), (.int (116 : Int32)), (.int (97 : Int32)), (.int (116 : Int32)), (.int (117 : Int32)), (.int (115 : Int32)), (.int (58 : Int32)), (.int (82 : Int32)), (.int (101 : Int32)), (.int (115 : Int32)), (.int (0 : Int32)), (.int (0 : Int32)), (.int (0 : Int32)), (.int (0 : Int32)), (.int (0 : Int32)), (.int (0 : Int32))] (.int (0 : Int32)) := V77
  show Goes _ _ _ _ _ _ (T77.setTop (mkF m 226 #[] [(.ref b1)]))
  refine own_dup X77 hx (hb hby d1_226) rfl ?_
  refine own_bipush X77 hx (v := (38 : Int32)) (hb hby d1_227) rfl ?_
  refine own_bipush X77 hx (v := (112 : Int32)) (hb hby d1_229) rfl ?_
  show Goes _ _ _ _ _ _ (T77.setTop (mkF m 231 #[] [(.int (112 : Int32)), (.int (38 : Int32)), (.ref b1), (.ref b1)]))
  refine own_castore X77 hx hZ N77 e77 V77' ⟨by decide, by decide⟩ (i := 38) rfl (by first | decide | (simp; done)) ge_b1 (hb hby d1_231) (fun T79 h79 lc79 X79 e79 N79 W79 V79 => ?_)
  have O80 := O78.wr W79 ge_b1
  have KC80 := KC78.wr W79 (Or.inr sz_b1)
  have V79' : Arv Z h79 b1 k1 .char (44 : Int32) [(.int (117 : Int32)), (.int (114 : Int32)), (.int (110 : Int32)), (.int (58 : Int32)), (.int (111 : Int32)), (.int (97 : Int32)), (.int (115 : Int32)), (.int (105 : Int32)), (.int (115 : Int32)), (.int (58 : Int32)), (.int (110 : Int32)), (.int (97 : Int32)), (.int (109 : Int32)), (.int (101 : Int32)), (.int (115 : Int32)), (.int (58 : Int32)), (.int (116 : Int32)), (.int (99 : Int32)), (.int (58 : Int32)), (.int (83 : Int32)), (.int (65 : Int32)), (.int (77 : Int32)), (.int (76 : Int32)), (.int (58 : Int32)), (.int (50 : Int32)), (.int (46 : Int32)), (.int (48 : Int32)), (.int (58 : Int32)), (.int (115 : Int32)), (.int (116 : Int32)), (.int (97 : Int32)), (.int (116 : Int32)), (.int (117 : Int32)), (.int (115 : Int32)), (.int (58 : Int32)), (.int (82 : Int32)), (.int (101 : Int32)), (.int (115 : Int32)), (.int (112 : Int32)), (.int (0 : Int32)), (.int (0 : Int32)), (.int (0 : Int32)), (.int (0 : Int32)), (.int (0 : Int32))] (.int (0 : Int32)) := V79
  show Goes _ _ _ _ _ _ (T79.setTop (mkF m 232 #[] [(.ref b1)]))
  refine own_dup X79 hx (hb hby d1_232) rfl ?_
  refine own_bipush X79 hx (v := (39 : Int32)) (hb hby d1_233) rfl ?_
  refine own_bipush X79 hx (v := (111 : Int32)) (hb hby d1_235) rfl ?_
  show Goes _ _ _ _ _ _ (T79.setTop (mkF m 237 #[] [(.int (111 : Int32)), (.int (39 : Int32)), (.ref b1), (.ref b1)]))
  refine own_castore X79 hx hZ N79 e79 V79' ⟨by decide, by decide⟩ (i := 39) rfl (by first | decide | (simp; done)) ge_b1 (hb hby d1_237) (fun T81 h81 lc81 X81 e81 N81 W81 V81 => ?_)
  have O82 := O80.wr W81 ge_b1
  have KC82 := KC80.wr W81 (Or.inr sz_b1)
  have V81' : Arv Z h81 b1 k1 .char (44 : Int32) [(.int (117 : Int32)), (.int (114 : Int32)), (.int (110 : Int32)), (.int (58 : Int32)), (.int (111 : Int32)), (.int (97 : Int32)), (.int (115 : Int32)), (.int (105 : Int32)), (.int (115 : Int32)), (.int (58 : Int32)), (.int (110 : Int32)), (.int (97 : Int32)), (.int (109 : Int32)), (.int (101 : Int32)), (.int (115 : Int32)), (.int (58 : Int32)), (.int (116 : Int32)), (.int (99 : Int32)), (.int (58 : Int32)), (.int (83 : Int32)), (.int (65 : Int32)), (.int (77 : Int32)), (.int (76 : Int32)), (.int (58 : Int32)), (.int (50 : Int32)), (.int (46 : Int32)), (.int (48 : Int32)), (.int (58 : Int32)), (.int (115 : Int32)), (.int (116 : Int32)), (.int (97 : Int32)), (.int (116 : Int32)), (.int (117 : Int32)), (.int (115 : Int32)), (.int (58 : Int32)), (.int (82 : Int32)), (.int (101 : Int32)), (.int (115 : Int32)), (.int (112 : Int32)), (.int (111 : Int32)), (.int (0 : Int32)), (.int (0 : Int32)), (.int (0 : Int32)), (.int (0 : Int32))] (.int (0 : Int32)) := V81
  show Goes _ _ _ _ _ _ (T81.setTop (mkF m 238 #[] [(.ref b1)]))
  refine own_dup X81 hx (hb hby d1_238) rfl ?_
  refine own_bipush X81 hx (v := (40 : Int32)) (hb hby d1_239) rfl ?_
  refine own_bipush X81 hx (v := (110 : Int32)) (hb hby d1_241) rfl ?_
  show Goes _ _ _ _ _ _ (T81.setTop (mkF m 243 #[] [(.int (110 : Int32)), (.int (40 : Int32)), (.ref b1), (.ref b1)]))
  refine own_castore X81 hx hZ N81 e81 V81' ⟨by decide, by decide⟩ (i := 40) rfl (by first | decide | (simp; done)) ge_b1 (hb hby d1_243) (fun T83 h83 lc83 X83 e83 N83 W83 V83 => ?_)
  have O84 := O82.wr W83 ge_b1
  have KC84 := KC82.wr W83 (Or.inr sz_b1)
  have V83' : Arv Z h83 b1 k1 .char (44 : Int32) [(.int (117 : Int32)), (.int (114 : Int32)), (.int (110 : Int32)), (.int (58 : Int32)), (.int (111 : Int32)), (.int (97 : Int32)), (.int (115 : Int32)), (.int (105 : Int32)), (.int (115 : Int32)), (.int (58 : Int32)), (.int (110 : Int32)), (.int (97 : Int32)), (.int (109 : Int32)), (.int (101 : Int32)), (.int (115 : Int32)), (.int (58 : Int32)), (.int (116 : Int32)), (.int (99 : Int32)), (.int (58 : Int32)), (.int (83 : Int32)), (.int (65 : Int32)), (.int (77 : Int32)), (.int (76 : Int32)), (.int (58 : Int32)), (.int (50 : Int32)), (.int (46 : Int32)), (.int (48 : Int32)), (.int (58 : Int32)), (.int (115 : Int32)), (.int (116 : Int32)), (.int (97 : Int32)), (.int (116 : Int32)), (.int (117 : Int32)), (.int (115 : Int32)), (.int (58 : Int32)), (.int (82 : Int32)), (.int (101 : Int32)), (.int (115 : Int32)), (.int (112 : Int32)), (.int (111 : Int32)), (.int (110 : Int32)), (.int (0 : Int32)), (.int (0 : Int32)), (.int (0 : Int32))] (.int (0 : Int32)) := V83
  show Goes _ _ _ _ _ _ (T83.setTop (mkF m 244 #[] [(.ref b1)]))
  refine own_dup X83 hx (hb hby d1_244) rfl ?_
  refine own_bipush X83 hx (v := (41 : Int32)) (hb hby d1_245) rfl ?_
  refine own_bipush X83 hx (v := (100 : Int32)) (hb hby d1_247) rfl ?_
  show Goes _ _ _ _ _ _ (T83.setTop (mkF m 249 #[] [(.int (100 : Int32)), (.int (41 : Int32)), (.ref b1), (.ref b1)]))
  refine own_castore X83 hx hZ N83 e83 V83' ⟨by decide, by decide⟩ (i := 41) rfl (by first | decide | (simp; done)) ge_b1 (hb hby d1_249) (fun T85 h85 lc85 X85 e85 N85 W85 V85 => ?_)
  have O86 := O84.wr W85 ge_b1
  have KC86 := KC84.wr W85 (Or.inr sz_b1)
  have V85' : Arv Z h85 b1 k1 .char (44 : Int32) [(.int (117 : Int32)), (.int (114 : Int32)), (.int (110 : Int32)), (.int (58 : Int32)), (.int (111 : Int32)), (.int (97 : Int32)), (.int (115 : Int32)), (.int (105 : Int32)), (.int (115 : Int32)), (.int (58 : Int32)), (.int (110 : Int32)), (.int (97 : Int32)), (.int (109 : Int32)), (.int (101 : Int32)), (.int (115 : Int32)), (.int (58 : Int32)), (.int (116 : Int32)), (.int (99 : Int32)), (.int (58 : Int32)), (.int (83 : Int32)), (.int (65 : Int32)), (.int (77 : Int32)), (.int (76 : Int32)), (.int (58 : Int32)), (.int (50 : Int32)), (.int (46 : Int32)), (.int (48 : Int32)), (.int (58 : Int32)), (.int (115 : Int32)), (.int (116 : Int32)), (.int (97 : Int32)), (.int (116 : Int32)), (.int (117 : Int32)), (.int (115 : Int32)), (.int (58 : Int32)), (.int (82 : Int32)), (.int (101 : Int32)), (.int (115 : Int32)), (.int (112 : Int32)), (.int (111 : Int32)), (.int (110 : Int32)), (.int (100 : Int32)), (.int (0 : Int32)), (.int (0 : Int32))] (.int (0 : Int32)) := V85
  show Goes _ _ _ _ _ _ (T85.setTop (mkF m 250 #[] [(.ref b1)]))
  refine own_dup X85 hx (hb hby d1_250) rfl ?_
  refine own_bipush X85 hx (v := (42 : Int32)) (hb hby d1_251) rfl ?_
  refine own_bipush X85 hx (v := (101 : Int32)) (hb hby d1_253) rfl ?_
  show Goes _ _ _ _ _ _ (T85.setTop (mkF m 255 #[] [(.int (101 : Int32)), (.int (42 : Int32)), (.ref b1), (.ref b1)]))
  refine own_castore X85 hx hZ N85 e85 V85' ⟨by decide, by decide⟩ (i := 42) rfl (by first | decide | (simp; done)) ge_b1 (hb hby d1_255) (fun T87 h87 lc87 X87 e87 N87 W87 V87 => ?_)
  have O88 := O86.wr W87 ge_b1
  have KC88 := KC86.wr W87 (Or.inr sz_b1)
  have V87' : Arv Z h87 b1 k1 .char (44 : Int32) [(.int (117 : Int32)), (.int (114 : Int32)), (.int (110 : Int32)), (.int (58 : Int32)), (.int (111 : Int32)), (.int (97 : Int32)), (.int (115 : Int32)), (.int (105 : Int32)), (.int (115 : Int32)), (.int (58 : Int32)), (.int (110 : Int32)), (.int (97 : Int32)), (.int (109 : Int32)), (.int (101 : Int32)), (.int (115 : Int32)), (.int (58 : Int32)), (.int (116 : Int32)), (.int (99 : Int32)), (.int (58 : Int32)), (.int (83 : Int32)), (.int (65 : Int32)), (.int (77 : Int32)), (.int (76 : Int32)), (.int (58 : Int32)), (.int (50 : Int32)), (.int (46 : Int32)), (.int (48 : Int32)), (.int (58 : Int32)), (.int (115 : Int32)), (.int (116 : Int32)), (.int (97 : Int32)), (.int (116 : Int32)), (.int (117 : Int32)), (.int (115 : Int32)), (.int (58 : Int32)), (.int (82 : Int32)), (.int (101 : Int32)), (.int (115 : Int32)), (.int (112 : Int32)), (.int (111 : Int32)), (.int (110 : Int32)), (.int (100 : Int32)), (.int (101 : Int32)), (.int (0 : Int32))] (.int (0 : Int32)) := V87
  show Goes _ _ _ _ _ _ (T87.setTop (mkF m 256 #[] [(.ref b1)]))
  refine own_dup X87 hx (hb hby d1_256) rfl ?_
  refine own_bipush X87 hx (v := (43 : Int32)) (hb hby d1_257) rfl ?_
  refine own_bipush X87 hx (v := (114 : Int32)) (hb hby d1_259) rfl ?_
  show Goes _ _ _ _ _ _ (T87.setTop (mkF m 261 #[] [(.int (114 : Int32)), (.int (43 : Int32)), (.ref b1), (.ref b1)]))
  refine own_castore X87 hx hZ N87 e87 V87' ⟨by decide, by decide⟩ (i := 43) rfl (by first | decide | (simp; done)) ge_b1 (hb hby d1_261) (fun T89 h89 lc89 X89 e89 N89 W89 V89 => ?_)
  have O90 := O88.wr W89 ge_b1
  have KC90 := KC88.wr W89 (Or.inr sz_b1)
  have V89' : Arv Z h89 b1 k1 .char (44 : Int32) [(.int (117 : Int32)), (.int (114 : Int32)), (.int (110 : Int32)), (.int (58 : Int32)), (.int (111 : Int32)), (.int (97 : Int32)), (.int (115 : Int32)), (.int (105 : Int32)), (.int (115 : Int32)), (.int (58 : Int32)), (.int (110 : Int32)), (.int (97 : Int32)), (.int (109 : Int32)), (.int (101 : Int32)), (.int (115 : Int32)), (.int (58 : Int32)), (.int (116 : Int32)), (.int (99 : Int32)), (.int (58 : Int32)), (.int (83 : Int32)), (.int (65 : Int32)), (.int (77 : Int32)), (.int (76 : Int32)), (.int (58 : Int32)), (.int (50 : Int32)), (.int (46 : Int32)), (.int (48 : Int32)), (.int (58 : Int32)), (.int (115 : Int32)), (.int (116 : Int32)), (.int (97 : Int32)), (.int (116 : Int32)), (.int (117 : Int32)), (.int (115 : Int32)), (.int (58 : Int32)), (.int (82 : Int32)), (.int (101 : Int32)), (.int (115 : Int32)), (.int (112 : Int32)), (.int (111 : Int32)), (.int (110 : Int32)), (.int (100 : Int32)), (.int (101 : Int32)), (.int (114 : Int32))] (.int (0 : Int32)) := V89
  show Goes _ _ _ _ _ _ (T89.setTop (mkF m 262 #[] [(.ref b1)]))
  exact own_retR X89 hx N89 hlk (by decide) (by decide) hret rfl rfl rfl (hb hby d1_262) (by rw [e89]; exact ⟨b1, k1, rfl, KC90, V89', sz_b1⟩)
theorem d8_0 : decode method_3_code 0 = .ok (.bipush 46, 2) := by decide +kernel
theorem d8_2 : decode method_3_code 2 = .ok (.newarray .char, 2) := by decide +kernel
theorem d8_4 : decode method_3_code 4 = .ok (.dup, 1) := by decide +kernel
theorem d8_5 : decode method_3_code 5 = .ok (.iconst 0, 1) := by decide +kernel
theorem d8_6 : decode method_3_code 6 = .ok (.bipush 117, 2) := by decide +kernel
theorem d8_8 : decode method_3_code 8 = .ok (.castore, 1) := by decide +kernel
theorem d8_9 : decode method_3_code 9 = .ok (.dup, 1) := by decide +kernel
theorem d8_10 : decode method_3_code 10 = .ok (.iconst 1, 1) := by decide +kernel
theorem d8_11 : decode method_3_code 11 = .ok (.bipush 114, 2) := by decide +kernel
theorem d8_13 : decode method_3_code 13 = .ok (.castore, 1) := by decide +kernel
theorem d8_14 : decode method_3_code 14 = .ok (.dup, 1) := by decide +kernel
theorem d8_15 : decode method_3_code 15 = .ok (.iconst 2, 1) := by decide +kernel
theorem d8_16 : decode method_3_code 16 = .ok (.bipush 110, 2) := by decide +kernel
theorem d8_18 : decode method_3_code 18 = .ok (.castore, 1) := by decide +kernel
theorem d8_19 : decode method_3_code 19 = .ok (.dup, 1) := by decide +kernel
theorem d8_20 : decode method_3_code 20 = .ok (.iconst 3, 1) := by decide +kernel
theorem d8_21 : decode method_3_code 21 = .ok (.bipush 58, 2) := by decide +kernel
theorem d8_23 : decode method_3_code 23 = .ok (.castore, 1) := by decide +kernel
theorem d8_24 : decode method_3_code 24 = .ok (.dup, 1) := by decide +kernel
theorem d8_25 : decode method_3_code 25 = .ok (.iconst 4, 1) := by decide +kernel
theorem d8_26 : decode method_3_code 26 = .ok (.bipush 111, 2) := by decide +kernel
theorem d8_28 : decode method_3_code 28 = .ok (.castore, 1) := by decide +kernel
theorem d8_29 : decode method_3_code 29 = .ok (.dup, 1) := by decide +kernel
theorem d8_30 : decode method_3_code 30 = .ok (.iconst 5, 1) := by decide +kernel
theorem d8_31 : decode method_3_code 31 = .ok (.bipush 97, 2) := by decide +kernel
theorem d8_33 : decode method_3_code 33 = .ok (.castore, 1) := by decide +kernel
theorem d8_34 : decode method_3_code 34 = .ok (.dup, 1) := by decide +kernel
theorem d8_35 : decode method_3_code 35 = .ok (.bipush 6, 2) := by decide +kernel
theorem d8_37 : decode method_3_code 37 = .ok (.bipush 115, 2) := by decide +kernel
theorem d8_39 : decode method_3_code 39 = .ok (.castore, 1) := by decide +kernel
theorem d8_40 : decode method_3_code 40 = .ok (.dup, 1) := by decide +kernel
theorem d8_41 : decode method_3_code 41 = .ok (.bipush 7, 2) := by decide +kernel
theorem d8_43 : decode method_3_code 43 = .ok (.bipush 105, 2) := by decide +kernel
theorem d8_45 : decode method_3_code 45 = .ok (.castore, 1) := by decide +kernel
theorem d8_46 : decode method_3_code 46 = .ok (.dup, 1) := by decide +kernel
theorem d8_47 : decode method_3_code 47 = .ok (.bipush 8, 2) := by decide +kernel
theorem d8_49 : decode method_3_code 49 = .ok (.bipush 115, 2) := by decide +kernel
theorem d8_51 : decode method_3_code 51 = .ok (.castore, 1) := by decide +kernel
theorem d8_52 : decode method_3_code 52 = .ok (.dup, 1) := by decide +kernel
theorem d8_53 : decode method_3_code 53 = .ok (.bipush 9, 2) := by decide +kernel
theorem d8_55 : decode method_3_code 55 = .ok (.bipush 58, 2) := by decide +kernel
theorem d8_57 : decode method_3_code 57 = .ok (.castore, 1) := by decide +kernel
theorem d8_58 : decode method_3_code 58 = .ok (.dup, 1) := by decide +kernel
theorem d8_59 : decode method_3_code 59 = .ok (.bipush 10, 2) := by decide +kernel
theorem d8_61 : decode method_3_code 61 = .ok (.bipush 110, 2) := by decide +kernel
theorem d8_63 : decode method_3_code 63 = .ok (.castore, 1) := by decide +kernel
theorem d8_64 : decode method_3_code 64 = .ok (.dup, 1) := by decide +kernel
theorem d8_65 : decode method_3_code 65 = .ok (.bipush 11, 2) := by decide +kernel
theorem d8_67 : decode method_3_code 67 = .ok (.bipush 97, 2) := by decide +kernel
theorem d8_69 : decode method_3_code 69 = .ok (.castore, 1) := by decide +kernel
theorem d8_70 : decode method_3_code 70 = .ok (.dup, 1) := by decide +kernel
theorem d8_71 : decode method_3_code 71 = .ok (.bipush 12, 2) := by decide +kernel
theorem d8_73 : decode method_3_code 73 = .ok (.bipush 109, 2) := by decide +kernel
theorem d8_75 : decode method_3_code 75 = .ok (.castore, 1) := by decide +kernel
theorem d8_76 : decode method_3_code 76 = .ok (.dup, 1) := by decide +kernel
theorem d8_77 : decode method_3_code 77 = .ok (.bipush 13, 2) := by decide +kernel
theorem d8_79 : decode method_3_code 79 = .ok (.bipush 101, 2) := by decide +kernel
theorem d8_81 : decode method_3_code 81 = .ok (.castore, 1) := by decide +kernel
theorem d8_82 : decode method_3_code 82 = .ok (.dup, 1) := by decide +kernel
theorem d8_83 : decode method_3_code 83 = .ok (.bipush 14, 2) := by decide +kernel
theorem d8_85 : decode method_3_code 85 = .ok (.bipush 115, 2) := by decide +kernel
theorem d8_87 : decode method_3_code 87 = .ok (.castore, 1) := by decide +kernel
theorem d8_88 : decode method_3_code 88 = .ok (.dup, 1) := by decide +kernel
theorem d8_89 : decode method_3_code 89 = .ok (.bipush 15, 2) := by decide +kernel
theorem d8_91 : decode method_3_code 91 = .ok (.bipush 58, 2) := by decide +kernel
theorem d8_93 : decode method_3_code 93 = .ok (.castore, 1) := by decide +kernel
theorem d8_94 : decode method_3_code 94 = .ok (.dup, 1) := by decide +kernel
theorem d8_95 : decode method_3_code 95 = .ok (.bipush 16, 2) := by decide +kernel
theorem d8_97 : decode method_3_code 97 = .ok (.bipush 116, 2) := by decide +kernel
theorem d8_99 : decode method_3_code 99 = .ok (.castore, 1) := by decide +kernel
theorem d8_100 : decode method_3_code 100 = .ok (.dup, 1) := by decide +kernel
theorem d8_101 : decode method_3_code 101 = .ok (.bipush 17, 2) := by decide +kernel
theorem d8_103 : decode method_3_code 103 = .ok (.bipush 99, 2) := by decide +kernel
theorem d8_105 : decode method_3_code 105 = .ok (.castore, 1) := by decide +kernel
theorem d8_106 : decode method_3_code 106 = .ok (.dup, 1) := by decide +kernel
theorem d8_107 : decode method_3_code 107 = .ok (.bipush 18, 2) := by decide +kernel
theorem d8_109 : decode method_3_code 109 = .ok (.bipush 58, 2) := by decide +kernel
theorem d8_111 : decode method_3_code 111 = .ok (.castore, 1) := by decide +kernel
theorem d8_112 : decode method_3_code 112 = .ok (.dup, 1) := by decide +kernel
theorem d8_113 : decode method_3_code 113 = .ok (.bipush 19, 2) := by decide +kernel
theorem d8_115 : decode method_3_code 115 = .ok (.bipush 83, 2) := by decide +kernel
theorem d8_117 : decode method_3_code 117 = .ok (.castore, 1) := by decide +kernel
theorem d8_118 : decode method_3_code 118 = .ok (.dup, 1) := by decide +kernel
theorem d8_119 : decode method_3_code 119 = .ok (.bipush 20, 2) := by decide +kernel
theorem d8_121 : decode method_3_code 121 = .ok (.bipush 65, 2) := by decide +kernel
theorem d8_123 : decode method_3_code 123 = .ok (.castore, 1) := by decide +kernel
theorem d8_124 : decode method_3_code 124 = .ok (.dup, 1) := by decide +kernel
theorem d8_125 : decode method_3_code 125 = .ok (.bipush 21, 2) := by decide +kernel
theorem d8_127 : decode method_3_code 127 = .ok (.bipush 77, 2) := by decide +kernel
theorem d8_129 : decode method_3_code 129 = .ok (.castore, 1) := by decide +kernel
theorem d8_130 : decode method_3_code 130 = .ok (.dup, 1) := by decide +kernel
theorem d8_131 : decode method_3_code 131 = .ok (.bipush 22, 2) := by decide +kernel
theorem d8_133 : decode method_3_code 133 = .ok (.bipush 76, 2) := by decide +kernel
theorem d8_135 : decode method_3_code 135 = .ok (.castore, 1) := by decide +kernel
theorem d8_136 : decode method_3_code 136 = .ok (.dup, 1) := by decide +kernel
theorem d8_137 : decode method_3_code 137 = .ok (.bipush 23, 2) := by decide +kernel
theorem d8_139 : decode method_3_code 139 = .ok (.bipush 58, 2) := by decide +kernel
theorem d8_141 : decode method_3_code 141 = .ok (.castore, 1) := by decide +kernel
theorem d8_142 : decode method_3_code 142 = .ok (.dup, 1) := by decide +kernel
theorem d8_143 : decode method_3_code 143 = .ok (.bipush 24, 2) := by decide +kernel
theorem d8_145 : decode method_3_code 145 = .ok (.bipush 50, 2) := by decide +kernel
theorem d8_147 : decode method_3_code 147 = .ok (.castore, 1) := by decide +kernel
theorem d8_148 : decode method_3_code 148 = .ok (.dup, 1) := by decide +kernel
theorem d8_149 : decode method_3_code 149 = .ok (.bipush 25, 2) := by decide +kernel
theorem d8_151 : decode method_3_code 151 = .ok (.bipush 46, 2) := by decide +kernel
theorem d8_153 : decode method_3_code 153 = .ok (.castore, 1) := by decide +kernel
theorem d8_154 : decode method_3_code 154 = .ok (.dup, 1) := by decide +kernel
theorem d8_155 : decode method_3_code 155 = .ok (.bipush 26, 2) := by decide +kernel
theorem d8_157 : decode method_3_code 157 = .ok (.bipush 48, 2) := by decide +kernel
theorem d8_159 : decode method_3_code 159 = .ok (.castore, 1) := by decide +kernel
theorem d8_160 : decode method_3_code 160 = .ok (.dup, 1) := by decide +kernel
theorem d8_161 : decode method_3_code 161 = .ok (.bipush 27, 2) := by decide +kernel
theorem d8_163 : decode method_3_code 163 = .ok (.bipush 58, 2) := by decide +kernel
theorem d8_165 : decode method_3_code 165 = .ok (.castore, 1) := by decide +kernel
theorem d8_166 : decode method_3_code 166 = .ok (.dup, 1) := by decide +kernel
theorem d8_167 : decode method_3_code 167 = .ok (.bipush 28, 2) := by decide +kernel
theorem d8_169 : decode method_3_code 169 = .ok (.bipush 115, 2) := by decide +kernel
theorem d8_171 : decode method_3_code 171 = .ok (.castore, 1) := by decide +kernel
theorem d8_172 : decode method_3_code 172 = .ok (.dup, 1) := by decide +kernel
theorem d8_173 : decode method_3_code 173 = .ok (.bipush 29, 2) := by decide +kernel
theorem d8_175 : decode method_3_code 175 = .ok (.bipush 116, 2) := by decide +kernel
theorem d8_177 : decode method_3_code 177 = .ok (.castore, 1) := by decide +kernel
theorem d8_178 : decode method_3_code 178 = .ok (.dup, 1) := by decide +kernel
theorem d8_179 : decode method_3_code 179 = .ok (.bipush 30, 2) := by decide +kernel
theorem d8_181 : decode method_3_code 181 = .ok (.bipush 97, 2) := by decide +kernel
theorem d8_183 : decode method_3_code 183 = .ok (.castore, 1) := by decide +kernel
theorem d8_184 : decode method_3_code 184 = .ok (.dup, 1) := by decide +kernel
theorem d8_185 : decode method_3_code 185 = .ok (.bipush 31, 2) := by decide +kernel
theorem d8_187 : decode method_3_code 187 = .ok (.bipush 116, 2) := by decide +kernel
theorem d8_189 : decode method_3_code 189 = .ok (.castore, 1) := by decide +kernel
theorem d8_190 : decode method_3_code 190 = .ok (.dup, 1) := by decide +kernel
theorem d8_191 : decode method_3_code 191 = .ok (.bipush 32, 2) := by decide +kernel
theorem d8_193 : decode method_3_code 193 = .ok (.bipush 117, 2) := by decide +kernel
theorem d8_195 : decode method_3_code 195 = .ok (.castore, 1) := by decide +kernel
theorem d8_196 : decode method_3_code 196 = .ok (.dup, 1) := by decide +kernel
theorem d8_197 : decode method_3_code 197 = .ok (.bipush 33, 2) := by decide +kernel
theorem d8_199 : decode method_3_code 199 = .ok (.bipush 115, 2) := by decide +kernel
theorem d8_201 : decode method_3_code 201 = .ok (.castore, 1) := by decide +kernel
theorem d8_202 : decode method_3_code 202 = .ok (.dup, 1) := by decide +kernel
theorem d8_203 : decode method_3_code 203 = .ok (.bipush 34, 2) := by decide +kernel
theorem d8_205 : decode method_3_code 205 = .ok (.bipush 58, 2) := by decide +kernel
theorem d8_207 : decode method_3_code 207 = .ok (.castore, 1) := by decide +kernel
theorem d8_208 : decode method_3_code 208 = .ok (.dup, 1) := by decide +kernel
theorem d8_209 : decode method_3_code 209 = .ok (.bipush 35, 2) := by decide +kernel
theorem d8_211 : decode method_3_code 211 = .ok (.bipush 65, 2) := by decide +kernel
theorem d8_213 : decode method_3_code 213 = .ok (.castore, 1) := by decide +kernel
theorem d8_214 : decode method_3_code 214 = .ok (.dup, 1) := by decide +kernel
theorem d8_215 : decode method_3_code 215 = .ok (.bipush 36, 2) := by decide +kernel
theorem d8_217 : decode method_3_code 217 = .ok (.bipush 117, 2) := by decide +kernel
theorem d8_219 : decode method_3_code 219 = .ok (.castore, 1) := by decide +kernel
theorem d8_220 : decode method_3_code 220 = .ok (.dup, 1) := by decide +kernel
theorem d8_221 : decode method_3_code 221 = .ok (.bipush 37, 2) := by decide +kernel
theorem d8_223 : decode method_3_code 223 = .ok (.bipush 116, 2) := by decide +kernel
theorem d8_225 : decode method_3_code 225 = .ok (.castore, 1) := by decide +kernel
theorem d8_226 : decode method_3_code 226 = .ok (.dup, 1) := by decide +kernel
theorem d8_227 : decode method_3_code 227 = .ok (.bipush 38, 2) := by decide +kernel
theorem d8_229 : decode method_3_code 229 = .ok (.bipush 104, 2) := by decide +kernel
theorem d8_231 : decode method_3_code 231 = .ok (.castore, 1) := by decide +kernel
theorem d8_232 : decode method_3_code 232 = .ok (.dup, 1) := by decide +kernel
theorem d8_233 : decode method_3_code 233 = .ok (.bipush 39, 2) := by decide +kernel
theorem d8_235 : decode method_3_code 235 = .ok (.bipush 110, 2) := by decide +kernel
theorem d8_237 : decode method_3_code 237 = .ok (.castore, 1) := by decide +kernel
theorem d8_238 : decode method_3_code 238 = .ok (.dup, 1) := by decide +kernel
theorem d8_239 : decode method_3_code 239 = .ok (.bipush 40, 2) := by decide +kernel
theorem d8_241 : decode method_3_code 241 = .ok (.bipush 70, 2) := by decide +kernel
theorem d8_243 : decode method_3_code 243 = .ok (.castore, 1) := by decide +kernel
theorem d8_244 : decode method_3_code 244 = .ok (.dup, 1) := by decide +kernel
theorem d8_245 : decode method_3_code 245 = .ok (.bipush 41, 2) := by decide +kernel
theorem d8_247 : decode method_3_code 247 = .ok (.bipush 97, 2) := by decide +kernel
theorem d8_249 : decode method_3_code 249 = .ok (.castore, 1) := by decide +kernel
theorem d8_250 : decode method_3_code 250 = .ok (.dup, 1) := by decide +kernel
theorem d8_251 : decode method_3_code 251 = .ok (.bipush 42, 2) := by decide +kernel
theorem d8_253 : decode method_3_code 253 = .ok (.bipush 105, 2) := by decide +kernel
theorem d8_255 : decode method_3_code 255 = .ok (.castore, 1) := by decide +kernel
theorem d8_256 : decode method_3_code 256 = .ok (.dup, 1) := by decide +kernel
theorem d8_257 : decode method_3_code 257 = .ok (.bipush 43, 2) := by decide +kernel
theorem d8_259 : decode method_3_code 259 = .ok (.bipush 108, 2) := by decide +kernel
theorem d8_261 : decode method_3_code 261 = .ok (.castore, 1) := by decide +kernel
theorem d8_262 : decode method_3_code 262 = .ok (.dup, 1) := by decide +kernel
theorem d8_263 : decode method_3_code 263 = .ok (.bipush 44, 2) := by decide +kernel
theorem d8_265 : decode method_3_code 265 = .ok (.bipush 101, 2) := by decide +kernel
theorem d8_267 : decode method_3_code 267 = .ok (.castore, 1) := by decide +kernel
theorem d8_268 : decode method_3_code 268 = .ok (.dup, 1) := by decide +kernel
theorem d8_269 : decode method_3_code 269 = .ok (.bipush 45, 2) := by decide +kernel
theorem d8_271 : decode method_3_code 271 = .ok (.bipush 100, 2) := by decide +kernel
theorem d8_273 : decode method_3_code 273 = .ok (.castore, 1) := by decide +kernel
theorem d8_274 : decode method_3_code 274 = .ok (.areturn, 1) := by decide +kernel
def Q8 (Z : State) (h0 : Heap) (n0 : Nat) (v : Option Value) (h : Heap) : Prop :=
  (∃ (b : Addr) (k : ClassId), v = some (.ref b) ∧ Keep h0 h [] ∧ Arv Z h b k .char (46 : Int32) (tx1.map Value.int) (.int (0 : Int32)) ∧ h0.size ≤ b)
theorem ef_8 (m : MethodId) : entryFrame m #[] 0 = mkF m 0 #[] [] := by first | (simp [entryFrame, mkF, argsToLocals, Value.category]; done) | rfl
set_option maxRecDepth 65536 in
set_option maxHeartbeats 40000000 in
theorem rm8 (l : Launch) (Z : State) (a0 : Array Value) (hw : ∀ d ∈ tables_1, d.before a0 Z = true) (ws : List Jvm.Cond) (h0 : Heap) (n0 : Nat) (O0 : Old Z n0 h0) :
    Meets l (⟨"com/example/ketenwacht/ketenwacht/model/SamlStatusIsCancellationPinLaw", "authnFailedChars", "()[C"⟩ : MethodName) method_3_code 0 (some (.array .char)) ws ({ frames := 0, cells := 1, slots := 46, locals := 0 } : Room) ({ frames := 0, cells := 1, slots := 46, locals := 0 } : Room).cells ({ frames := 0, cells := 1, slots := 46, locals := 0 } : Room).slots Z #[] h0 n0 (Q8 Z h0 n0) := by
  refine Meets.of (F := fun m => mkF m 0 #[] []) (plainFor_of_name pn_1) (fun m => ef_8 m) ?_
  intro p e s m below meth c T0 hx hby hml hown0 hnm hret hlk hZ X0 e0
  have hown : s.vm.findClass "com/example/ketenwacht/ketenwacht/model/SamlStatusIsCancellationPinLaw" = some m.cls := hown0
  have N0 := Fr.nil n0
  have KC0 := Keep.refl h0 []
  show Goes _ _ _ _ _ _ (T0.setTop (mkF m 0 #[] []))
  refine own_bipush X0 hx (v := (46 : Int32)) (hb hby d8_0) rfl ?_
  refine own_newP X0 hx hZ (hw _ (List.mem_of_getElem? (i := 7) rfl)) e0 (hb hby d8_2) (by decide) (cap := 46) (by decide) (by decide) (by decide) (by decide) (fun T1 h1 b1 k1 g1 X1 e1 E1 A1 => ?_)
  have ge_b1 : n0 ≤ b1 := Nat.le_trans (own_sz O0) (Nat.le_of_eq g1.symm)
  have sz_b1 : h0.size ≤ b1 := Nat.le_trans KC0.1 (Nat.le_of_eq g1.symm)
  have O2 := O0.ext E1
  have KC2 := KC0.ext E1
  have V1 : Arv Z h1 b1 k1 .char (46 : Int32) [(.int (0 : Int32)), (.int (0 : Int32)), (.int (0 : Int32)), (.int (0 : Int32)), (.int (0 : Int32)), (.int (0 : Int32)), (.int (0 : Int32)), (.int (0 : Int32)), (.int (0 : Int32)), (.int (0 : Int32)), (.int (0 : Int32)), (.int (0 : Int32)), (.int (0 : Int32)), (.int (0 : Int32)), (.int (0 : Int32)), (.int (0 : Int32)), (.int (0 : Int32)), (.int (0 : Int32)), (.int (0 : Int32)), (.int (0 : Int32)), (.int (0 : Int32)), (.int (0 : Int32)), (.int (0 : Int32)), (.int (0 : Int32)), (.int (0 : Int32)), (.int (0 : Int32)), (.int (0 : Int32)), (.int (0 : Int32)), (.int (0 : Int32)), (.int (0 : Int32)), (.int (0 : Int32)), (.int (0 : Int32)), (.int (0 : Int32)), (.int (0 : Int32)), (.int (0 : Int32)), (.int (0 : Int32)), (.int (0 : Int32)), (.int (0 : Int32)), (.int (0 : Int32)), (.int (0 : Int32)), (.int (0 : Int32)), (.int (0 : Int32)), (.int (0 : Int32)), (.int (0 : Int32)), (.int (0 : Int32)), (.int (0 : Int32))] (.int (0 : Int32)) := A1.pad (pad_rep [] (.int (0 : Int32)) 46)
  show Goes _ _ _ _ _ _ (T1.setTop (mkF m 4 #[] [(.ref b1)]))
  refine own_dup X1 hx (hb hby d8_4) rfl ?_
  refine own_iconst X1 hx (v := (0 : Int32)) (hb hby d8_5) rfl ?_
  refine own_bipush X1 hx (v := (117 : Int32)) (hb hby d8_6) rfl ?_
  show Goes _ _ _ _ _ _ (T1.setTop (mkF m 8 #[] [(.int (117 : Int32)), (.int (0 : Int32)), (.ref b1), (.ref b1)]))
  refine own_castore X1 hx hZ N0 e1 V1 ⟨by decide, by decide⟩ (i := 0) rfl (by first | decide | (simp; done)) ge_b1 (hb hby d8_8) (fun T3 h3 lc3 X3 e3 N3 W3 V3 => ?_)
  have O4 := O2.wr W3 ge_b1
  have KC4 := KC2.wr W3 (Or.inr sz_b1)
  have V3' : Arv Z h3 b1 k1 .char (46 : Int32) [(.int (117 : Int32)), (.int (0 : Int32)), (.int (0 : Int32)), (.int (0 : Int32)), (.int (0 : Int32)), (.int (0 : Int32)), (.int (0 : Int32)), (.int (0 : Int32)), (.int (0 : Int32)), (.int (0 : Int32)), (.int (0 : Int32)), (.int (0 : Int32)), (.int (0 : Int32)), (.int (0 : Int32)), (.int (0 : Int32)), (.int (0 : Int32)), (.int (0 : Int32)), (.int (0 : Int32)), (.int (0 : Int32)), (.int (0 : Int32)), (.int (0 : Int32)), (.int (0 : Int32)), (.int (0 : Int32)), (.int (0 : Int32)), (.int (0 : Int32)), (.int (0 : Int32)), (.int (0 : Int32)), (.int (0 : Int32)), (.int (0 : Int32)), (.int (0 : Int32)), (.int (0 : Int32)), (.int (0 : Int32)), (.int (0 : Int32)), (.int (0 : Int32)), (.int (0 : Int32)), (.int (0 : Int32)), (.int (0 : Int32)), (.int (0 : Int32)), (.int (0 : Int32)), (.int (0 : Int32)), (.int (0 : Int32)), (.int (0 : Int32)), (.int (0 : Int32)), (.int (0 : Int32)), (.int (0 : Int32)), (.int (0 : Int32))] (.int (0 : Int32)) := V3
  show Goes _ _ _ _ _ _ (T3.setTop (mkF m 9 #[] [(.ref b1)]))
  refine own_dup X3 hx (hb hby d8_9) rfl ?_
  refine own_iconst X3 hx (v := (1 : Int32)) (hb hby d8_10) rfl ?_
  refine own_bipush X3 hx (v := (114 : Int32)) (hb hby d8_11) rfl ?_
  show Goes _ _ _ _ _ _ (T3.setTop (mkF m 13 #[] [(.int (114 : Int32)), (.int (1 : Int32)), (.ref b1), (.ref b1)]))
  refine own_castore X3 hx hZ N3 e3 V3' ⟨by decide, by decide⟩ (i := 1) rfl (by first | decide | (simp; done)) ge_b1 (hb hby d8_13) (fun T5 h5 lc5 X5 e5 N5 W5 V5 => ?_)
  have O6 := O4.wr W5 ge_b1
  have KC6 := KC4.wr W5 (Or.inr sz_b1)
  have V5' : Arv Z h5 b1 k1 .char (46 : Int32) [(.int (117 : Int32)), (.int (114 : Int32)), (.int (0 : Int32)), (.int (0 : Int32)), (.int (0 : Int32)), (.int (0 : Int32)), (.int (0 : Int32)), (.int (0 : Int32)), (.int (0 : Int32)), (.int (0 : Int32)), (.int (0 : Int32)), (.int (0 : Int32)), (.int (0 : Int32)), (.int (0 : Int32)), (.int (0 : Int32)), (.int (0 : Int32)), (.int (0 : Int32)), (.int (0 : Int32)), (.int (0 : Int32)), (.int (0 : Int32)), (.int (0 : Int32)), (.int (0 : Int32)), (.int (0 : Int32)), (.int (0 : Int32)), (.int (0 : Int32)), (.int (0 : Int32)), (.int (0 : Int32)), (.int (0 : Int32)), (.int (0 : Int32)), (.int (0 : Int32)), (.int (0 : Int32)), (.int (0 : Int32)), (.int (0 : Int32)), (.int (0 : Int32)), (.int (0 : Int32)), (.int (0 : Int32)), (.int (0 : Int32)), (.int (0 : Int32)), (.int (0 : Int32)), (.int (0 : Int32)), (.int (0 : Int32)), (.int (0 : Int32)), (.int (0 : Int32)), (.int (0 : Int32)), (.int (0 : Int32)), (.int (0 : Int32))] (.int (0 : Int32)) := V5
  show Goes _ _ _ _ _ _ (T5.setTop (mkF m 14 #[] [(.ref b1)]))
  refine own_dup X5 hx (hb hby d8_14) rfl ?_
  refine own_iconst X5 hx (v := (2 : Int32)) (hb hby d8_15) rfl ?_
  refine own_bipush X5 hx (v := (110 : Int32)) (hb hby d8_16) rfl ?_
  show Goes _ _ _ _ _ _ (T5.setTop (mkF m 18 #[] [(.int (110 : Int32)), (.int (2 : Int32)), (.ref b1), (.ref b1)]))
  refine own_castore X5 hx hZ N5 e5 V5' ⟨by decide, by decide⟩ (i := 2) rfl (by first | decide | (simp; done)) ge_b1 (hb hby d8_18) (fun T7 h7 lc7 X7 e7 N7 W7 V7 => ?_)
  have O8 := O6.wr W7 ge_b1
  have KC8 := KC6.wr W7 (Or.inr sz_b1)
  have V7' : Arv Z h7 b1 k1 .char (46 : Int32) [(.int (117 : Int32)), (.int (114 : Int32)), (.int (110 : Int32)), (.int (0 : Int32)), (.int (0 : Int32)), (.int (0 : Int32)), (.int (0 : Int32)), (.int (0 : Int32)), (.int (0 : Int32)), (.int (0 : Int32)), (.int (0 : Int32)), (.int (0 : Int32)), (.int (0 : Int32)), (.int (0 : Int32)), (.int (0 : Int32)), (.int (0 : Int32)), (.int (0 : Int32)), (.int (0 : Int32)), (.int (0 : Int32)), (.int (0 : Int32)), (.int (0 : Int32)), (.int (0 : Int32)), (.int (0 : Int32)), (.int (0 : Int32)), (.int (0 : Int32)), (.int (0 : Int32)), (.int (0 : Int32)), (.int (0 : Int32)), (.int (0 : Int32)), (.int (0 : Int32)), (.int (0 : Int32)), (.int (0 : Int32)), (.int (0 : Int32)), (.int (0 : Int32)), (.int (0 : Int32)), (.int (0 : Int32)), (.int (0 : Int32)), (.int (0 : Int32)), (.int (0 : Int32)), (.int (0 : Int32)), (.int (0 : Int32)), (.int (0 : Int32)), (.int (0 : Int32)), (.int (0 : Int32)), (.int (0 : Int32)), (.int (0 : Int32))] (.int (0 : Int32)) := V7
  show Goes _ _ _ _ _ _ (T7.setTop (mkF m 19 #[] [(.ref b1)]))
  refine own_dup X7 hx (hb hby d8_19) rfl ?_
  refine own_iconst X7 hx (v := (3 : Int32)) (hb hby d8_20) rfl ?_
  refine own_bipush X7 hx (v := (58 : Int32)) (hb hby d8_21) rfl ?_
  show Goes _ _ _ _ _ _ (T7.setTop (mkF m 23 #[] [(.int (58 : Int32)), (.int (3 : Int32)), (.ref b1), (.ref b1)]))
  refine own_castore X7 hx hZ N7 e7 V7' ⟨by decide, by decide⟩ (i := 3) rfl (by first | decide | (simp; done)) ge_b1 (hb hby d8_23) (fun T9 h9 lc9 X9 e9 N9 W9 V9 => ?_)
  have O10 := O8.wr W9 ge_b1
  have KC10 := KC8.wr W9 (Or.inr sz_b1)
  have V9' : Arv Z h9 b1 k1 .char (46 : Int32) [(.int (117 : Int32)), (.int (114 : Int32)), (.int (110 : Int32)), (.int (58 : Int32)), (.int (0 : Int32)), (.int (0 : Int32)), (.int (0 : Int32)), (.int (0 : Int32)), (.int (0 : Int32)), (.int (0 : Int32)), (.int (0 : Int32)), (.int (0 : Int32)), (.int (0 : Int32)), (.int (0 : Int32)), (.int (0 : Int32)), (.int (0 : Int32)), (.int (0 : Int32)), (.int (0 : Int32)), (.int (0 : Int32)), (.int (0 : Int32)), (.int (0 : Int32)), (.int (0 : Int32)), (.int (0 : Int32)), (.int (0 : Int32)), (.int (0 : Int32)), (.int (0 : Int32)), (.int (0 : Int32)), (.int (0 : Int32)), (.int (0 : Int32)), (.int (0 : Int32)), (.int (0 : Int32)), (.int (0 : Int32)), (.int (0 : Int32)), (.int (0 : Int32)), (.int (0 : Int32)), (.int (0 : Int32)), (.int (0 : Int32)), (.int (0 : Int32)), (.int (0 : Int32)), (.int (0 : Int32)), (.int (0 : Int32)), (.int (0 : Int32)), (.int (0 : Int32)), (.int (0 : Int32)), (.int (0 : Int32)), (.int (0 : Int32))] (.int (0 : Int32)) := V9
  show Goes _ _ _ _ _ _ (T9.setTop (mkF m 24 #[] [(.ref b1)]))
  refine own_dup X9 hx (hb hby d8_24) rfl ?_
  refine own_iconst X9 hx (v := (4 : Int32)) (hb hby d8_25) rfl ?_
  refine own_bipush X9 hx (v := (111 : Int32)) (hb hby d8_26) rfl ?_
  show Goes _ _ _ _ _ _ (T9.setTop (mkF m 28 #[] [(.int (111 : Int32)), (.int (4 : Int32)), (.ref b1), (.ref b1)]))
  refine own_castore X9 hx hZ N9 e9 V9' ⟨by decide, by decide⟩ (i := 4) rfl (by first | decide | (simp; done)) ge_b1 (hb hby d8_28) (fun T11 h11 lc11 X11 e11 N11 W11 V11 => ?_)
  have O12 := O10.wr W11 ge_b1
  have KC12 := KC10.wr W11 (Or.inr sz_b1)
  have V11' : Arv Z h11 b1 k1 .char (46 : Int32) [(.int (117 : Int32)), (.int (114 : Int32)), (.int (110 : Int32)), (.int (58 : Int32)), (.int (111 : Int32)), (.int (0 : Int32)), (.int (0 : Int32)), (.int (0 : Int32)), (.int (0 : Int32)), (.int (0 : Int32)), (.int (0 : Int32)), (.int (0 : Int32)), (.int (0 : Int32)), (.int (0 : Int32)), (.int (0 : Int32)), (.int (0 : Int32)), (.int (0 : Int32)), (.int (0 : Int32)), (.int (0 : Int32)), (.int (0 : Int32)), (.int (0 : Int32)), (.int (0 : Int32)), (.int (0 : Int32)), (.int (0 : Int32)), (.int (0 : Int32)), (.int (0 : Int32)), (.int (0 : Int32)), (.int (0 : Int32)), (.int (0 : Int32)), (.int (0 : Int32)), (.int (0 : Int32)), (.int (0 : Int32)), (.int (0 : Int32)), (.int (0 : Int32)), (.int (0 : Int32)), (.int (0 : Int32)), (.int (0 : Int32)), (.int (0 : Int32)), (.int (0 : Int32)), (.int (0 : Int32)), (.int (0 : Int32)), (.int (0 : Int32)), (.int (0 : Int32)), (.int (0 : Int32)), (.int (0 : Int32)), (.int (0 : Int32))] (.int (0 : Int32)) := V11
  show Goes _ _ _ _ _ _ (T11.setTop (mkF m 29 #[] [(.ref b1)]))
  refine own_dup X11 hx (hb hby d8_29) rfl ?_
  refine own_iconst X11 hx (v := (5 : Int32)) (hb hby d8_30) rfl ?_
  refine own_bipush X11 hx (v := (97 : Int32)) (hb hby d8_31) rfl ?_
  show Goes _ _ _ _ _ _ (T11.setTop (mkF m 33 #[] [(.int (97 : Int32)), (.int (5 : Int32)), (.ref b1), (.ref b1)]))
  refine own_castore X11 hx hZ N11 e11 V11' ⟨by decide, by decide⟩ (i := 5) rfl (by first | decide | (simp; done)) ge_b1 (hb hby d8_33) (fun T13 h13 lc13 X13 e13 N13 W13 V13 => ?_)
  have O14 := O12.wr W13 ge_b1
  have KC14 := KC12.wr W13 (Or.inr sz_b1)
  have V13' : Arv Z h13 b1 k1 .char (46 : Int32) [(.int (117 : Int32)), (.int (114 : Int32)), (.int (110 : Int32)), (.int (58 : Int32)), (.int (111 : Int32)), (.int (97 : Int32)), (.int (0 : Int32)), (.int (0 : Int32)), (.int (0 : Int32)), (.int (0 : Int32)), (.int (0 : Int32)), (.int (0 : Int32)), (.int (0 : Int32)), (.int (0 : Int32)), (.int (0 : Int32)), (.int (0 : Int32)), (.int (0 : Int32)), (.int (0 : Int32)), (.int (0 : Int32)), (.int (0 : Int32)), (.int (0 : Int32)), (.int (0 : Int32)), (.int (0 : Int32)), (.int (0 : Int32)), (.int (0 : Int32)), (.int (0 : Int32)), (.int (0 : Int32)), (.int (0 : Int32)), (.int (0 : Int32)), (.int (0 : Int32)), (.int (0 : Int32)), (.int (0 : Int32)), (.int (0 : Int32)), (.int (0 : Int32)), (.int (0 : Int32)), (.int (0 : Int32)), (.int (0 : Int32)), (.int (0 : Int32)), (.int (0 : Int32)), (.int (0 : Int32)), (.int (0 : Int32)), (.int (0 : Int32)), (.int (0 : Int32)), (.int (0 : Int32)), (.int (0 : Int32)), (.int (0 : Int32))] (.int (0 : Int32)) := V13
  show Goes _ _ _ _ _ _ (T13.setTop (mkF m 34 #[] [(.ref b1)]))
  refine own_dup X13 hx (hb hby d8_34) rfl ?_
  refine own_bipush X13 hx (v := (6 : Int32)) (hb hby d8_35) rfl ?_
  refine own_bipush X13 hx (v := (115 : Int32)) (hb hby d8_37) rfl ?_
  show Goes _ _ _ _ _ _ (T13.setTop (mkF m 39 #[] [(.int (115 : Int32)), (.int (6 : Int32)), (.ref b1), (.ref b1)]))
  refine own_castore X13 hx hZ N13 e13 V13' ⟨by decide, by decide⟩ (i := 6) rfl (by first | decide | (simp; done)) ge_b1 (hb hby d8_39) (fun T15 h15 lc15 X15 e15 N15 W15 V15 => ?_)
  have O16 := O14.wr W15 ge_b1
  have KC16 := KC14.wr W15 (Or.inr sz_b1)
  have V15' : Arv Z h15 b1 k1 .char (46 : Int32) [(.int (117 : Int32)), (.int (114 : Int32)), (.int (110 : Int32)), (.int (58 : Int32)), (.int (111 : Int32)), (.int (97 : Int32)), (.int (115 : Int32)), (.int (0 : Int32)), (.int (0 : Int32)), (.int (0 : Int32)), (.int (0 : Int32)), (.int (0 : Int32)), (.int (0 : Int32)), (.int (0 : Int32)), (.int (0 : Int32)), (.int (0 : Int32)), (.int (0 : Int32)), (.int (0 : Int32)), (.int (0 : Int32)), (.int (0 : Int32)), (.int (0 : Int32)), (.int (0 : Int32)), (.int (0 : Int32)), (.int (0 : Int32)), (.int (0 : Int32)), (.int (0 : Int32)), (.int (0 : Int32)), (.int (0 : Int32)), (.int (0 : Int32)), (.int (0 : Int32)), (.int (0 : Int32)), (.int (0 : Int32)), (.int (0 : Int32)), (.int (0 : Int32)), (.int (0 : Int32)), (.int (0 : Int32)), (.int (0 : Int32)), (.int (0 : Int32)), (.int (0 : Int32)), (.int (0 : Int32)), (.int (0 : Int32)), (.int (0 : Int32)), (.int (0 : Int32)), (.int (0 : Int32)), (.int (0 : Int32)), (.int (0 : Int32))] (.int (0 : Int32)) := V15
  show Goes _ _ _ _ _ _ (T15.setTop (mkF m 40 #[] [(.ref b1)]))
  refine own_dup X15 hx (hb hby d8_40) rfl ?_
  refine own_bipush X15 hx (v := (7 : Int32)) (hb hby d8_41) rfl ?_
  refine own_bipush X15 hx (v := (105 : Int32)) (hb hby d8_43) rfl ?_
  show Goes _ _ _ _ _ _ (T15.setTop (mkF m 45 #[] [(.int (105 : Int32)), (.int (7 : Int32)), (.ref b1), (.ref b1)]))
  refine own_castore X15 hx hZ N15 e15 V15' ⟨by decide, by decide⟩ (i := 7) rfl (by first | decide | (simp; done)) ge_b1 (hb hby d8_45) (fun T17 h17 lc17 X17 e17 N17 W17 V17 => ?_)
  have O18 := O16.wr W17 ge_b1
  have KC18 := KC16.wr W17 (Or.inr sz_b1)
  have V17' : Arv Z h17 b1 k1 .char (46 : Int32) [(.int (117 : Int32)), (.int (114 : Int32)), (.int (110 : Int32)), (.int (58 : Int32)), (.int (111 : Int32)), (.int (97 : Int32)), (.int (115 : Int32)), (.int (105 : Int32)), (.int (0 : Int32)), (.int (0 : Int32)), (.int (0 : Int32)), (.int (0 : Int32)), (.int (0 : Int32)), (.int (0 : Int32)), (.int (0 : Int32)), (.int (0 : Int32)), (.int (0 : Int32)), (.int (0 : Int32)), (.int (0 : Int32)), (.int (0 : Int32)), (.int (0 : Int32)), (.int (0 : Int32)), (.int (0 : Int32)), (.int (0 : Int32)), (.int (0 : Int32)), (.int (0 : Int32)), (.int (0 : Int32)), (.int (0 : Int32)), (.int (0 : Int32)), (.int (0 : Int32)), (.int (0 : Int32)), (.int (0 : Int32)), (.int (0 : Int32)), (.int (0 : Int32)), (.int (0 : Int32)), (.int (0 : Int32)), (.int (0 : Int32)), (.int (0 : Int32)), (.int (0 : Int32)), (.int (0 : Int32)), (.int (0 : Int32)), (.int (0 : Int32)), (.int (0 : Int32)), (.int (0 : Int32)), (.int (0 : Int32)), (.int (0 : Int32))] (.int (0 : Int32)) := V17
  show Goes _ _ _ _ _ _ (T17.setTop (mkF m 46 #[] [(.ref b1)]))
  refine own_dup X17 hx (hb hby d8_46) rfl ?_
  refine own_bipush X17 hx (v := (8 : Int32)) (hb hby d8_47) rfl ?_
  refine own_bipush X17 hx (v := (115 : Int32)) (hb hby d8_49) rfl ?_
  show Goes _ _ _ _ _ _ (T17.setTop (mkF m 51 #[] [(.int (115 : Int32)), (.int (8 : Int32)), (.ref b1), (.ref b1)]))
  refine own_castore X17 hx hZ N17 e17 V17' ⟨by decide, by decide⟩ (i := 8) rfl (by first | decide | (simp; done)) ge_b1 (hb hby d8_51) (fun T19 h19 lc19 X19 e19 N19 W19 V19 => ?_)
  have O20 := O18.wr W19 ge_b1
  have KC20 := KC18.wr W19 (Or.inr sz_b1)
  have V19' : Arv Z h19 b1 k1 .char (46 : Int32) [(.int (117 : Int32)), (.int (114 : Int32)), (.int (110 : Int32)), (.int (58 : Int32)), (.int (111 : Int32)), (.int (97 : Int32)), (.int (115 : Int32)), (.int (105 : Int32)), (.int (115 : Int32)), (.int (0 : Int32)), (.int (0 : Int32)), (.int (0 : Int32)), (.int (0 : Int32)), (.int (0 : Int32)), (.int (0 : Int32)), (.int (0 : Int32)), (.int (0 : Int32)), (.int (0 : Int32)), (.int (0 : Int32)), (.int (0 : Int32)), (.int (0 : Int32)), (.int (0 : Int32)), (.int (0 : Int32)), (.int (0 : Int32)), (.int (0 : Int32)), (.int (0 : Int32)), (.int (0 : Int32)), (.int (0 : Int32)), (.int (0 : Int32)), (.int (0 : Int32)), (.int (0 : Int32)), (.int (0 : Int32)), (.int (0 : Int32)), (.int (0 : Int32)), (.int (0 : Int32)), (.int (0 : Int32)), (.int (0 : Int32)), (.int (0 : Int32)), (.int (0 : Int32)), (.int (0 : Int32)), (.int (0 : Int32)), (.int (0 : Int32)), (.int (0 : Int32)), (.int (0 : Int32)), (.int (0 : Int32)), (.int (0 : Int32))] (.int (0 : Int32)) := V19
  show Goes _ _ _ _ _ _ (T19.setTop (mkF m 52 #[] [(.ref b1)]))
  refine own_dup X19 hx (hb hby d8_52) rfl ?_
  refine own_bipush X19 hx (v := (9 : Int32)) (hb hby d8_53) rfl ?_
  refine own_bipush X19 hx (v := (58 : Int32)) (hb hby d8_55) rfl ?_
  show Goes _ _ _ _ _ _ (T19.setTop (mkF m 57 #[] [(.int (58 : Int32)), (.int (9 : Int32)), (.ref b1), (.ref b1)]))
  refine own_castore X19 hx hZ N19 e19 V19' ⟨by decide, by decide⟩ (i := 9) rfl (by first | decide | (simp; done)) ge_b1 (hb hby d8_57) (fun T21 h21 lc21 X21 e21 N21 W21 V21 => ?_)
  have O22 := O20.wr W21 ge_b1
  have KC22 := KC20.wr W21 (Or.inr sz_b1)
  have V21' : Arv Z h21 b1 k1 .char (46 : Int32) [(.int (117 : Int32)), (.int (114 : Int32)), (.int (110 : Int32)), (.int (58 : Int32)), (.int (111 : Int32)), (.int (97 : Int32)), (.int (115 : Int32)), (.int (105 : Int32)), (.int (115 : Int32)), (.int (58 : Int32)), (.int (0 : Int32)), (.int (0 : Int32)), (.int (0 : Int32)), (.int (0 : Int32)), (.int (0 : Int32)), (.int (0 : Int32)), (.int (0 : Int32)), (.int (0 : Int32)), (.int (0 : Int32)), (.int (0 : Int32)), (.int (0 : Int32)), (.int (0 : Int32)), (.int (0 : Int32)), (.int (0 : Int32)), (.int (0 : Int32)), (.int (0 : Int32)), (.int (0 : Int32)), (.int (0 : Int32)), (.int (0 : Int32)), (.int (0 : Int32)), (.int (0 : Int32)), (.int (0 : Int32)), (.int (0 : Int32)), (.int (0 : Int32)), (.int (0 : Int32)), (.int (0 : Int32)), (.int (0 : Int32)), (.int (0 : Int32)), (.int (0 : Int32)), (.int (0 : Int32)), (.int (0 : Int32)), (.int (0 : Int32)), (.int (0 : Int32)), (.int (0 : Int32)), (.int (0 : Int32)), (.int (0 : Int32))] (.int (0 : Int32)) := V21
  show Goes _ _ _ _ _ _ (T21.setTop (mkF m 58 #[] [(.ref b1)]))
  refine own_dup X21 hx (hb hby d8_58) rfl ?_
  refine own_bipush X21 hx (v := (10 : Int32)) (hb hby d8_59) rfl ?_
  refine own_bipush X21 hx (v := (110 : Int32)) (hb hby d8_61) rfl ?_
  show Goes _ _ _ _ _ _ (T21.setTop (mkF m 63 #[] [(.int (110 : Int32)), (.int (10 : Int32)), (.ref b1), (.ref b1)]))
  refine own_castore X21 hx hZ N21 e21 V21' ⟨by decide, by decide⟩ (i := 10) rfl (by first | decide | (simp; done)) ge_b1 (hb hby d8_63) (fun T23 h23 lc23 X23 e23 N23 W23 V23 => ?_)
  have O24 := O22.wr W23 ge_b1
  have KC24 := KC22.wr W23 (Or.inr sz_b1)
  have V23' : Arv Z h23 b1 k1 .char (46 : Int32) [(.int (117 : Int32)), (.int (114 : Int32)), (.int (110 : Int32)), (.int (58 : Int32)), (.int (111 : Int32)), (.int (97 : Int32)), (.int (115 : Int32)), (.int (105 : Int32)), (.int (115 : Int32)), (.int (58 : Int32)), (.int (110 : Int32)), (.int (0 : Int32)), (.int (0 : Int32)), (.int (0 : Int32)), (.int (0 : Int32)), (.int (0 : Int32)), (.int (0 : Int32)), (.int (0 : Int32)), (.int (0 : Int32)), (.int (0 : Int32)), (.int (0 : Int32)), (.int (0 : Int32)), (.int (0 : Int32)), (.int (0 : Int32)), (.int (0 : Int32)), (.int (0 : Int32)), (.int (0 : Int32)), (.int (0 : Int32)), (.int (0 : Int32)), (.int (0 : Int32)), (.int (0 : Int32)), (.int (0 : Int32)), (.int (0 : Int32)), (.int (0 : Int32)), (.int (0 : Int32)), (.int (0 : Int32)), (.int (0 : Int32)), (.int (0 : Int32)), (.int (0 : Int32)), (.int (0 : Int32)), (.int (0 : Int32)), (.int (0 : Int32)), (.int (0 : Int32)), (.int (0 : Int32)), (.int (0 : Int32)), (.int (0 : Int32))] (.int (0 : Int32)) := V23
  show Goes _ _ _ _ _ _ (T23.setTop (mkF m 64 #[] [(.ref b1)]))
  refine own_dup X23 hx (hb hby d8_64) rfl ?_
  refine own_bipush X23 hx (v := (11 : Int32)) (hb hby d8_65) rfl ?_
  refine own_bipush X23 hx (v := (97 : Int32)) (hb hby d8_67) rfl ?_
  show Goes _ _ _ _ _ _ (T23.setTop (mkF m 69 #[] [(.int (97 : Int32)), (.int (11 : Int32)), (.ref b1), (.ref b1)]))
  refine own_castore X23 hx hZ N23 e23 V23' ⟨by decide, by decide⟩ (i := 11) rfl (by first | decide | (simp; done)) ge_b1 (hb hby d8_69) (fun T25 h25 lc25 X25 e25 N25 W25 V25 => ?_)
  have O26 := O24.wr W25 ge_b1
  have KC26 := KC24.wr W25 (Or.inr sz_b1)
  have V25' : Arv Z h25 b1 k1 .char (46 : Int32) [(.int (117 : Int32)), (.int (114 : Int32)), (.int (110 : Int32)), (.int (58 : Int32)), (.int (111 : Int32)), (.int (97 : Int32)), (.int (115 : Int32)), (.int (105 : Int32)), (.int (115 : Int32)), (.int (58 : Int32)), (.int (110 : Int32)), (.int (97 : Int32)), (.int (0 : Int32)), (.int (0 : Int32)), (.int (0 : Int32)), (.int (0 : Int32)), (.int (0 : Int32)), (.int (0 : Int32)), (.int (0 : Int32)), (.int (0 : Int32)), (.int (0 : Int32)), (.int (0 : Int32)), (.int (0 : Int32)), (.int (0 : Int32)), (.int (0 : Int32)), (.int (0 : Int32)), (.int (0 : Int32)), (.int (0 : Int32)), (.int (0 : Int32)), (.int (0 : Int32)), (.int (0 : Int32)), (.int (0 : Int32)), (.int (0 : Int32)), (.int (0 : Int32)), (.int (0 : Int32)), (.int (0 : Int32)), (.int (0 : Int32)), (.int (0 : Int32)), (.int (0 : Int32)), (.int (0 : Int32)), (.int (0 : Int32)), (.int (0 : Int32)), (.int (0 : Int32)), (.int (0 : Int32)), (.int (0 : Int32)), (.int (0 : Int32))] (.int (0 : Int32)) := V25
  show Goes _ _ _ _ _ _ (T25.setTop (mkF m 70 #[] [(.ref b1)]))
  refine own_dup X25 hx (hb hby d8_70) rfl ?_
  refine own_bipush X25 hx (v := (12 : Int32)) (hb hby d8_71) rfl ?_
  refine own_bipush X25 hx (v := (109 : Int32)) (hb hby d8_73) rfl ?_
  show Goes _ _ _ _ _ _ (T25.setTop (mkF m 75 #[] [(.int (109 : Int32)), (.int (12 : Int32)), (.ref b1), (.ref b1)]))
  refine own_castore X25 hx hZ N25 e25 V25' ⟨by decide, by decide⟩ (i := 12) rfl (by first | decide | (simp; done)) ge_b1 (hb hby d8_75) (fun T27 h27 lc27 X27 e27 N27 W27 V27 => ?_)
  have O28 := O26.wr W27 ge_b1
  have KC28 := KC26.wr W27 (Or.inr sz_b1)
  have V27' : Arv Z h27 b1 k1 .char (46 : Int32) [(.int (117 : Int32)), (.int (114 : Int32)), (.int (110 : Int32)), (.int (58 : Int32)), (.int (111 : Int32)), (.int (97 : Int32)), (.int (115 : Int32)), (.int (105 : Int32)), (.int (115 : Int32)), (.int (58 : Int32)), (.int (110 : Int32)), (.int (97 : Int32)), (.int (109 : Int32)), (.int (0 : Int32)), (.int (0 : Int32)), (.int (0 : Int32)), (.int (0 : Int32)), (.int (0 : Int32)), (.int (0 : Int32)), (.int (0 : Int32)), (.int (0 : Int32)), (.int (0 : Int32)), (.int (0 : Int32)), (.int (0 : Int32)), (.int (0 : Int32)), (.int (0 : Int32)), (.int (0 : Int32)), (.int (0 : Int32)), (.int (0 : Int32)), (.int (0 : Int32)), (.int (0 : Int32)), (.int (0 : Int32)), (.int (0 : Int32)), (.int (0 : Int32)), (.int (0 : Int32)), (.int (0 : Int32)), (.int (0 : Int32)), (.int (0 : Int32)), (.int (0 : Int32)), (.int (0 : Int32)), (.int (0 : Int32)), (.int (0 : Int32)), (.int (0 : Int32)), (.int (0 : Int32)), (.int (0 : Int32)), (.int (0 : Int32))] (.int (0 : Int32)) := V27
  show Goes _ _ _ _ _ _ (T27.setTop (mkF m 76 #[] [(.ref b1)]))
  refine own_dup X27 hx (hb hby d8_76) rfl ?_
  refine own_bipush X27 hx (v := (13 : Int32)) (hb hby d8_77) rfl ?_
  refine own_bipush X27 hx (v := (101 : Int32)) (hb hby d8_79) rfl ?_
  show Goes _ _ _ _ _ _ (T27.setTop (mkF m 81 #[] [(.int (101 : Int32)), (.int (13 : Int32)), (.ref b1), (.ref b1)]))
  refine own_castore X27 hx hZ N27 e27 V27' ⟨by decide, by decide⟩ (i := 13) rfl (by first | decide | (simp; done)) ge_b1 (hb hby d8_81) (fun T29 h29 lc29 X29 e29 N29 W29 V29 => ?_)
  have O30 := O28.wr W29 ge_b1
  have KC30 := KC28.wr W29 (Or.inr sz_b1)
  have V29' : Arv Z h29 b1 k1 .char (46 : Int32) [(.int (117 : Int32)), (.int (114 : Int32)), (.int (110 : Int32)), (.int (58 : Int32)), (.int (111 : Int32)), (.int (97 : Int32)), (.int (115 : Int32)), (.int (105 : Int32)), (.int (115 : Int32)), (.int (58 : Int32)), (.int (110 : Int32)), (.int (97 : Int32)), (.int (109 : Int32)), (.int (101 : Int32)), (.int (0 : Int32)), (.int (0 : Int32)), (.int (0 : Int32)), (.int (0 : Int32)), (.int (0 : Int32)), (.int (0 : Int32)), (.int (0 : Int32)), (.int (0 : Int32)), (.int (0 : Int32)), (.int (0 : Int32)), (.int (0 : Int32)), (.int (0 : Int32)), (.int (0 : Int32)), (.int (0 : Int32)), (.int (0 : Int32)), (.int (0 : Int32)), (.int (0 : Int32)), (.int (0 : Int32)), (.int (0 : Int32)), (.int (0 : Int32)), (.int (0 : Int32)), (.int (0 : Int32)), (.int (0 : Int32)), (.int (0 : Int32)), (.int (0 : Int32)), (.int (0 : Int32)), (.int (0 : Int32)), (.int (0 : Int32)), (.int (0 : Int32)), (.int (0 : Int32)), (.int (0 : Int32)), (.int (0 : Int32))] (.int (0 : Int32)) := V29
  show Goes _ _ _ _ _ _ (T29.setTop (mkF m 82 #[] [(.ref b1)]))
  refine own_dup X29 hx (hb hby d8_82) rfl ?_
  refine own_bipush X29 hx (v := (14 : Int32)) (hb hby d8_83) rfl ?_
  refine own_bipush X29 hx (v := (115 : Int32)) (hb hby d8_85) rfl ?_
  show Goes _ _ _ _ _ _ (T29.setTop (mkF m 87 #[] [(.int (115 : Int32)), (.int (14 : Int32)), (.ref b1), (.ref b1)]))
  refine own_castore X29 hx hZ N29 e29 V29' ⟨by decide, by decide⟩ (i := 14) rfl (by first | decide | (simp; done)) ge_b1 (hb hby d8_87) (fun T31 h31 lc31 X31 e31 N31 W31 V31 => ?_)
  have O32 := O30.wr W31 ge_b1
  have KC32 := KC30.wr W31 (Or.inr sz_b1)
  have V31' : Arv Z h31 b1 k1 .char (46 : Int32) [(.int (117 : Int32)), (.int (114 : Int32)), (.int (110 : Int32)), (.int (58 : Int32)), (.int (111 : Int32)), (.int (97 : Int32)), (.int (115 : Int32)), (.int (105 : Int32)), (.int (115 : Int32)), (.int (58 : Int32)), (.int (110 : Int32)), (.int (97 : Int32)), (.int (109 : Int32)), (.int (101 : Int32)), (.int (115 : Int32)), (.int (0 : Int32)), (.int (0 : Int32)), (.int (0 : Int32)), (.int (0 : Int32)), (.int (0 : Int32)), (.int (0 : Int32)), (.int (0 : Int32)), (.int (0 : Int32)), (.int (0 : Int32)), (.int (0 : Int32)), (.int (0 : Int32)), (.int (0 : Int32)), (.int (0 : Int32)), (.int (0 : Int32)), (.int (0 : Int32)), (.int (0 : Int32)), (.int (0 : Int32)), (.int (0 : Int32)), (.int (0 : Int32)), (.int (0 : Int32)), (.int (0 : Int32)), (.int (0 : Int32)), (.int (0 : Int32)), (.int (0 : Int32)), (.int (0 : Int32)), (.int (0 : Int32)), (.int (0 : Int32)), (.int (0 : Int32)), (.int (0 : Int32)), (.int (0 : Int32)), (.int (0 : Int32))] (.int (0 : Int32)) := V31
  show Goes _ _ _ _ _ _ (T31.setTop (mkF m 88 #[] [(.ref b1)]))
  refine own_dup X31 hx (hb hby d8_88) rfl ?_
  refine own_bipush X31 hx (v := (15 : Int32)) (hb hby d8_89) rfl ?_
  refine own_bipush X31 hx (v := (58 : Int32)) (hb hby d8_91) rfl ?_
  show Goes _ _ _ _ _ _ (T31.setTop (mkF m 93 #[] [(.int (58 : Int32)), (.int (15 : Int32)), (.ref b1), (.ref b1)]))
  refine own_castore X31 hx hZ N31 e31 V31' ⟨by decide, by decide⟩ (i := 15) rfl (by first | decide | (simp; done)) ge_b1 (hb hby d8_93) (fun T33 h33 lc33 X33 e33 N33 W33 V33 => ?_)
  have O34 := O32.wr W33 ge_b1
  have KC34 := KC32.wr W33 (Or.inr sz_b1)
  have V33' : Arv Z h33 b1 k1 .char (46 : Int32) [(.int (117 : Int32)), (.int (114 : Int32)), (.int (110 : Int32)), (.int (58 : Int32)), (.int (111 : Int32)), (.int (97 : Int32)), (.int (115 : Int32)), (.int (105 : Int32)), (.int (115 : Int32)), (.int (58 : Int32)), (.int (110 : Int32)), (.int (97 : Int32)), (.int (109 : Int32)), (.int (101 : Int32)), (.int (115 : Int32)), (.int (58 : Int32)), (.int (0 : Int32)), (.int (0 : Int32)), (.int (0 : Int32)), (.int (0 : Int32)), (.int (0 : Int32)), (.int (0 : Int32)), (.int (0 : Int32)), (.int (0 : Int32)), (.int (0 : Int32)), (.int (0 : Int32)), (.int (0 : Int32)), (.int (0 : Int32)), (.int (0 : Int32)), (.int (0 : Int32)), (.int (0 : Int32)), (.int (0 : Int32)), (.int (0 : Int32)), (.int (0 : Int32)), (.int (0 : Int32)), (.int (0 : Int32)), (.int (0 : Int32)), (.int (0 : Int32)), (.int (0 : Int32)), (.int (0 : Int32)), (.int (0 : Int32)), (.int (0 : Int32)), (.int (0 : Int32)), (.int (0 : Int32)), (.int (0 : Int32)), (.int (0 : Int32))] (.int (0 : Int32)) := V33
  show Goes _ _ _ _ _ _ (T33.setTop (mkF m 94 #[] [(.ref b1)]))
  refine own_dup X33 hx (hb hby d8_94) rfl ?_
  refine own_bipush X33 hx (v := (16 : Int32)) (hb hby d8_95) rfl ?_
  refine own_bipush X33 hx (v := (116 : Int32)) (hb hby d8_97) rfl ?_
  show Goes _ _ _ _ _ _ (T33.setTop (mkF m 99 #[] [(.int (116 : Int32)), (.int (16 : Int32)), (.ref b1), (.ref b1)]))
  refine own_castore X33 hx hZ N33 e33 V33' ⟨by decide, by decide⟩ (i := 16) rfl (by first | decide | (simp; done)) ge_b1 (hb hby d8_99) (fun T35 h35 lc35 X35 e35 N35 W35 V35 => ?_)
  have O36 := O34.wr W35 ge_b1
  have KC36 := KC34.wr W35 (Or.inr sz_b1)
  have V35' : Arv Z h35 b1 k1 .char (46 : Int32) [(.int (117 : Int32)), (.int (114 : Int32)), (.int (110 : Int32)), (.int (58 : Int32)), (.int (111 : Int32)), (.int (97 : Int32)), (.int (115 : Int32)), (.int (105 : Int32)), (.int (115 : Int32)), (.int (58 : Int32)), (.int (110 : Int32)), (.int (97 : Int32)), (.int (109 : Int32)), (.int (101 : Int32)), (.int (115 : Int32)), (.int (58 : Int32)), (.int (116 : Int32)), (.int (0 : Int32)), (.int (0 : Int32)), (.int (0 : Int32)), (.int (0 : Int32)), (.int (0 : Int32)), (.int (0 : Int32)), (.int (0 : Int32)), (.int (0 : Int32)), (.int (0 : Int32)), (.int (0 : Int32)), (.int (0 : Int32)), (.int (0 : Int32)), (.int (0 : Int32)), (.int (0 : Int32)), (.int (0 : Int32)), (.int (0 : Int32)), (.int (0 : Int32)), (.int (0 : Int32)), (.int (0 : Int32)), (.int (0 : Int32)), (.int (0 : Int32)), (.int (0 : Int32)), (.int (0 : Int32)), (.int (0 : Int32)), (.int (0 : Int32)), (.int (0 : Int32)), (.int (0 : Int32)), (.int (0 : Int32)), (.int (0 : Int32))] (.int (0 : Int32)) := V35
  show Goes _ _ _ _ _ _ (T35.setTop (mkF m 100 #[] [(.ref b1)]))
  refine own_dup X35 hx (hb hby d8_100) rfl ?_
  refine own_bipush X35 hx (v := (17 : Int32)) (hb hby d8_101) rfl ?_
  refine own_bipush X35 hx (v := (99 : Int32)) (hb hby d8_103) rfl ?_
  show Goes _ _ _ _ _ _ (T35.setTop (mkF m 105 #[] [(.int (99 : Int32)), (.int (17 : Int32)), (.ref b1), (.ref b1)]))
  refine own_castore X35 hx hZ N35 e35 V35' ⟨by decide, by decide⟩ (i := 17) rfl (by first | decide | (simp; done)) ge_b1 (hb hby d8_105) (fun T37 h37 lc37 X37 e37 N37 W37 V37 => ?_)
  have O38 := O36.wr W37 ge_b1
  have KC38 := KC36.wr W37 (Or.inr sz_b1)
  have V37' : Arv Z h37 b1 k1 .char (46 : Int32) [(.int (117 : Int32)), (.int (114 : Int32)), (.int (110 : Int32)), (.int (58 : Int32)), (.int (111 : Int32)), (.int (97 : Int32)), (.int (115 : Int32)), (.int (105 : Int32)), (.int (115 : Int32)), (.int (58 : Int32)), (.int (110 : Int32)), (.int (97 : Int32)), (.int (109 : Int32)), (.int (101 : Int32)), (.int (115 : Int32)), (.int (58 : Int32)), (.int (116 : Int32)), (.int (99 : Int32)), (.int (0 : Int32)), (.int (0 : Int32)), (.int (0 : Int32)), (.int (0 : Int32)), (.int (0 : Int32)), (.int (0 : Int32)), (.int (0 : Int32)), (.int (0 : Int32)), (.int (0 : Int32)), (.int (0 : Int32)), (.int (0 : Int32)), (.int (0 : Int32)), (.int (0 : Int32)), (.int (0 : Int32)), (.int (0 : Int32)), (.int (0 : Int32)), (.int (0 : Int32)), (.int (0 : Int32)), (.int (0 : Int32)), (.int (0 : Int32)), (.int (0 : Int32)), (.int (0 : Int32)), (.int (0 : Int32)), (.int (0 : Int32)), (.int (0 : Int32)), (.int (0 : Int32)), (.int (0 : Int32)), (.int (0 : Int32))] (.int (0 : Int32)) := V37
  show Goes _ _ _ _ _ _ (T37.setTop (mkF m 106 #[] [(.ref b1)]))
  refine own_dup X37 hx (hb hby d8_106) rfl ?_
  refine own_bipush X37 hx (v := (18 : Int32)) (hb hby d8_107) rfl ?_
  refine own_bipush X37 hx (v := (58 : Int32)) (hb hby d8_109) rfl ?_
  show Goes _ _ _ _ _ _ (T37.setTop (mkF m 111 #[] [(.int (58 : Int32)), (.int (18 : Int32)), (.ref b1), (.ref b1)]))
  refine own_castore X37 hx hZ N37 e37 V37' ⟨by decide, by decide⟩ (i := 18) rfl (by first | decide | (simp; done)) ge_b1 (hb hby d8_111) (fun T39 h39 lc39 X39 e39 N39 W39 V39 => ?_)
  have O40 := O38.wr W39 ge_b1
  have KC40 := KC38.wr W39 (Or.inr sz_b1)
  have V39' : Arv Z h39 b1 k1 .char (46 : Int32) [(.int (117 : Int32)), (.int (114 : Int32)), (.int (110 : Int32)), (.int (58 : Int32)), (.int (111 : Int32)), (.int (97 : Int32)), (.int (115 : Int32)), (.int (105 : Int32)), (.int (115 : Int32)), (.int (58 : Int32)), (.int (110 : Int32)), (.int (97 : Int32)), (.int (109 : Int32)), (.int (101 : Int32)), (.int (115 : Int32)), (.int (58 : Int32)), (.int (116 : Int32)), (.int (99 : Int32)), (.int (58 : Int32)), (.int (0 : Int32)), (.int (0 : Int32)), (.int (0 : Int32)), (.int (0 : Int32)), (.int (0 : Int32)), (.int (0 : Int32)), (.int (0 : Int32)), (.int (0 : Int32)), (.int (0 : Int32)), (.int (0 : Int32)), (.int (0 : Int32)), (.int (0 : Int32)), (.int (0 : Int32)), (.int (0 : Int32)), (.int (0 : Int32)), (.int (0 : Int32)), (.int (0 : Int32)), (.int (0 : Int32)), (.int (0 : Int32)), (.int (0 : Int32)), (.int (0 : Int32)), (.int (0 : Int32)), (.int (0 : Int32)), (.int (0 : Int32)), (.int (0 : Int32)), (.int (0 : Int32)), (.int (0 : Int32))] (.int (0 : Int32)) := V39
  show Goes _ _ _ _ _ _ (T39.setTop (mkF m 112 #[] [(.ref b1)]))
  refine own_dup X39 hx (hb hby d8_112) rfl ?_
  refine own_bipush X39 hx (v := (19 : Int32)) (hb hby d8_113) rfl ?_
  refine own_bipush X39 hx (v := (83 : Int32)) (hb hby d8_115) rfl ?_
  show Goes _ _ _ _ _ _ (T39.setTop (mkF m 117 #[] [(.int (83 : Int32)), (.int (19 : Int32)), (.ref b1), (.ref b1)]))
  refine own_castore X39 hx hZ N39 e39 V39' ⟨by decide, by decide⟩ (i := 19) rfl (by first | decide | (simp; done)) ge_b1 (hb hby d8_117) (fun T41 h41 lc41 X41 e41 N41 W41 V41 => ?_)
  have O42 := O40.wr W41 ge_b1
  have KC42 := KC40.wr W41 (Or.inr sz_b1)
  have V41' : Arv Z h41 b1 k1 .char (46 : Int32) [(.int (117 : Int32)), (.int (114 : Int32)), (.int (110 : Int32)), (.int (58 : Int32)), (.int (111 : Int32)), (.int (97 : Int32)), (.int (115 : Int32)), (.int (105 : Int32)), (.int (115 : Int32)), (.int (58 : Int32)), (.int (110 : Int32)), (.int (97 : Int32)), (.int (109 : Int32)), (.int (101 : Int32)), (.int (115 : Int32)), (.int (58 : Int32)), (.int (116 : Int32)), (.int (99 : Int32)), (.int (58 : Int32)), (.int (83 : Int32)), (.int (0 : Int32)), (.int (0 : Int32)), (.int (0 : Int32)), (.int (0 : Int32)), (.int (0 : Int32)), (.int (0 : Int32)), (.int (0 : Int32)), (.int (0 : Int32)), (.int (0 : Int32)), (.int (0 : Int32)), (.int (0 : Int32)), (.int (0 : Int32)), (.int (0 : Int32)), (.int (0 : Int32)), (.int (0 : Int32)), (.int (0 : Int32)), (.int (0 : Int32)), (.int (0 : Int32)), (.int (0 : Int32)), (.int (0 : Int32)), (.int (0 : Int32)), (.int (0 : Int32)), (.int (0 : Int32)), (.int (0 : Int32)), (.int (0 : Int32)), (.int (0 : Int32))] (.int (0 : Int32)) := V41
  show Goes _ _ _ _ _ _ (T41.setTop (mkF m 118 #[] [(.ref b1)]))
  refine own_dup X41 hx (hb hby d8_118) rfl ?_
  refine own_bipush X41 hx (v := (20 : Int32)) (hb hby d8_119) rfl ?_
  refine own_bipush X41 hx (v := (65 : Int32)) (hb hby d8_121) rfl ?_
  show Goes _ _ _ _ _ _ (T41.setTop (mkF m 123 #[] [(.int (65 : Int32)), (.int (20 : Int32)), (.ref b1), (.ref b1)]))
  refine own_castore X41 hx hZ N41 e41 V41' ⟨by decide, by decide⟩ (i := 20) rfl (by first | decide | (simp; done)) ge_b1 (hb hby d8_123) (fun T43 h43 lc43 X43 e43 N43 W43 V43 => ?_)
  have O44 := O42.wr W43 ge_b1
  have KC44 := KC42.wr W43 (Or.inr sz_b1)
  have V43' : Arv Z h43 b1 k1 .char (46 : Int32) [(.int (117 : Int32)), (.int (114 : Int32)), (.int (110 : Int32)), (.int (58 : Int32)), (.int (111 : Int32)), (.int (97 : Int32)), (.int (115 : Int32)), (.int (105 : Int32)), (.int (115 : Int32)), (.int (58 : Int32)), (.int (110 : Int32)), (.int (97 : Int32)), (.int (109 : Int32)), (.int (101 : Int32)), (.int (115 : Int32)), (.int (58 : Int32)), (.int (116 : Int32)), (.int (99 : Int32)), (.int (58 : Int32)), (.int (83 : Int32)), (.int (65 : Int32)), (.int (0 : Int32)), (.int (0 : Int32)), (.int (0 : Int32)), (.int (0 : Int32)), (.int (0 : Int32)), (.int (0 : Int32)), (.int (0 : Int32)), (.int (0 : Int32)), (.int (0 : Int32)), (.int (0 : Int32)), (.int (0 : Int32)), (.int (0 : Int32)), (.int (0 : Int32)), (.int (0 : Int32)), (.int (0 : Int32)), (.int (0 : Int32)), (.int (0 : Int32)), (.int (0 : Int32)), (.int (0 : Int32)), (.int (0 : Int32)), (.int (0 : Int32)), (.int (0 : Int32)), (.int (0 : Int32)), (.int (0 : Int32)), (.int (0 : Int32))] (.int (0 : Int32)) := V43
  show Goes _ _ _ _ _ _ (T43.setTop (mkF m 124 #[] [(.ref b1)]))
  refine own_dup X43 hx (hb hby d8_124) rfl ?_
  refine own_bipush X43 hx (v := (21 : Int32)) (hb hby d8_125) rfl ?_
  refine own_bipush X43 hx (v := (77 : Int32)) (hb hby d8_127) rfl ?_
  show Goes _ _ _ _ _ _ (T43.setTop (mkF m 129 #[] [(.int (77 : Int32)), (.int (21 : Int32)), (.ref b1), (.ref b1)]))
  refine own_castore X43 hx hZ N43 e43 V43' ⟨by decide, by decide⟩ (i := 21) rfl (by first | decide | (simp; done)) ge_b1 (hb hby d8_129) (fun T45 h45 lc45 X45 e45 N45 W45 V45 => ?_)
  have O46 := O44.wr W45 ge_b1
  have KC46 := KC44.wr W45 (Or.inr sz_b1)
  have V45' : Arv Z h45 b1 k1 .char (46 : Int32) [(.int (117 : Int32)), (.int (114 : Int32)), (.int (110 : Int32)), (.int (58 : Int32)), (.int (111 : Int32)), (.int (97 : Int32)), (.int (115 : Int32)), (.int (105 : Int32)), (.int (115 : Int32)), (.int (58 : Int32)), (.int (110 : Int32)), (.int (97 : Int32)), (.int (109 : Int32)), (.int (101 : Int32)), (.int (115 : Int32)), (.int (58 : Int32)), (.int (116 : Int32)), (.int (99 : Int32)), (.int (58 : Int32)), (.int (83 : Int32)), (.int (65 : Int32)), (.int (77 : Int32)), (.int (0 : Int32)), (.int (0 : Int32)), (.int (0 : Int32)), (.int (0 : Int32)), (.int (0 : Int32)), (.int (0 : Int32)), (.int (0 : Int32)), (.int (0 : Int32)), (.int (0 : Int32)), (.int (0 : Int32)), (.int (0 : Int32)), (.int (0 : Int32)), (.int (0 : Int32)), (.int (0 : Int32)), (.int (0 : Int32)), (.int (0 : Int32)), (.int (0 : Int32)), (.int (0 : Int32)), (.int (0 : Int32)), (.int (0 : Int32)), (.int (0 : Int32)), (.int (0 : Int32)), (.int (0 : Int32)), (.int (0 : Int32))] (.int (0 : Int32)) := V45
  show Goes _ _ _ _ _ _ (T45.setTop (mkF m 130 #[] [(.ref b1)]))
  refine own_dup X45 hx (hb hby d8_130) rfl ?_
  refine own_bipush X45 hx (v := (22 : Int32)) (hb hby d8_131) rfl ?_
  refine own_bipush X45 hx (v := (76 : Int32)) (hb hby d8_133) rfl ?_
  show Goes _ _ _ _ _ _ (T45.setTop (mkF m 135 #[] [(.int (76 : Int32)), (.int (22 : Int32)), (.ref b1), (.ref b1)]))
  refine own_castore X45 hx hZ N45 e45 V45' ⟨by decide, by decide⟩ (i := 22) rfl (by first | decide | (simp; done)) ge_b1 (hb hby d8_135) (fun T47 h47 lc47 X47 e47 N47 W47 V47 => ?_)
  have O48 := O46.wr W47 ge_b1
  have KC48 := KC46.wr W47 (Or.inr sz_b1)
  have V47' : Arv Z h47 b1 k1 .char (46 : Int32) [(.int (117 : Int32)), (.int (114 : Int32)), (.int (110 : Int32)), (.int (58 : Int32)), (.int (111 : Int32)), (.int (97 : Int32)), (.int (115 : Int32)), (.int (105 : Int32)), (.int (115 : Int32)), (.int (58 : Int32)), (.int (110 : Int32)), (.int (97 : Int32)), (.int (109 : Int32)), (.int (101 : Int32)), (.int (115 : Int32)), (.int (58 : Int32)), (.int (116 : Int32)), (.int (99 : Int32)), (.int (58 : Int32)), (.int (83 : Int32)), (.int (65 : Int32)), (.int (77 : Int32)), (.int (76 : Int32)), (.int (0 : Int32)), (.int (0 : Int32)), (.int (0 : Int32)), (.int (0 : Int32)), (.int (0 : Int32)), (.int (0 : Int32)), (.int (0 : Int32)), (.int (0 : Int32)), (.int (0 : Int32)), (.int (0 : Int32)), (.int (0 : Int32)), (.int (0 : Int32)), (.int (0 : Int32)), (.int (0 : Int32)), (.int (0 : Int32)), (.int (0 : Int32)), (.int (0 : Int32)), (.int (0 : Int32)), (.int (0 : Int32)), (.int (0 : Int32)), (.int (0 : Int32)), (.int (0 : Int32)), (.int (0 : Int32))] (.int (0 : Int32)) := V47
  show Goes _ _ _ _ _ _ (T47.setTop (mkF m 136 #[] [(.ref b1)]))
  refine own_dup X47 hx (hb hby d8_136) rfl ?_
  refine own_bipush X47 hx (v := (23 : Int32)) (hb hby d8_137) rfl ?_
  refine own_bipush X47 hx (v := (58 : Int32)) (hb hby d8_139) rfl ?_
  show Goes _ _ _ _ _ _ (T47.setTop (mkF m 141 #[] [(.int (58 : Int32)), (.int (23 : Int32)), (.ref b1), (.ref b1)]))
  refine own_castore X47 hx hZ N47 e47 V47' ⟨by decide, by decide⟩ (i := 23) rfl (by first | decide | (simp; done)) ge_b1 (hb hby d8_141) (fun T49 h49 lc49 X49 e49 N49 W49 V49 => ?_)
  have O50 := O48.wr W49 ge_b1
  have KC50 := KC48.wr W49 (Or.inr sz_b1)
  have V49' : Arv Z h49 b1 k1 .char (46 : Int32) [(.int (117 : Int32)), (.int (114 : Int32)), (.int (110 : Int32)), (.int (58 : Int32)), (.int (111 : Int32)), (.int (97 : Int32)), (.int (115 : Int32)), (.int (105 : Int32)), (.int (115 : Int32)), (.int (58 : Int32)), (.int (110 : Int32)), (.int (97 : Int32)), (.int (109 : Int32)), (.int (101 : Int32)), (.int (115 : Int32)), (.int (58 : Int32)), (.int (116 : Int32)), (.int (99 : Int32)), (.int (58 : Int32)), (.int (83 : Int32)), (.int (65 : Int32)), (.int (77 : Int32)), (.int (76 : Int32)), (.int (58 : Int32)), (.int (0 : Int32)), (.int (0 : Int32)), (.int (0 : Int32)), (.int (0 : Int32)), (.int (0 : Int32)), (.int (0 : Int32)), (.int (0 : Int32)), (.int (0 : Int32)), (.int (0 : Int32)), (.int (0 : Int32)), (.int (0 : Int32)), (.int (0 : Int32)), (.int (0 : Int32)), (.int (0 : Int32)), (.int (0 : Int32)), (.int (0 : Int32)), (.int (0 : Int32)), (.int (0 : Int32)), (.int (0 : Int32)), (.int (0 : Int32)), (.int (0 : Int32)), (.int (0 : Int32))] (.int (0 : Int32)) := V49
  show Goes _ _ _ _ _ _ (T49.setTop (mkF m 142 #[] [(.ref b1)]))
  refine own_dup X49 hx (hb hby d8_142) rfl ?_
  refine own_bipush X49 hx (v := (24 : Int32)) (hb hby d8_143) rfl ?_
  refine own_bipush X49 hx (v := (50 : Int32)) (hb hby d8_145) rfl ?_
  show Goes _ _ _ _ _ _ (T49.setTop (mkF m 147 #[] [(.int (50 : Int32)), (.int (24 : Int32)), (.ref b1), (.ref b1)]))
  refine own_castore X49 hx hZ N49 e49 V49' ⟨by decide, by decide⟩ (i := 24) rfl (by first | decide | (simp; done)) ge_b1 (hb hby d8_147) (fun T51 h51 lc51 X51 e51 N51 W51 V51 => ?_)
  have O52 := O50.wr W51 ge_b1
  have KC52 := KC50.wr W51 (Or.inr sz_b1)
  have V51' : Arv Z h51 b1 k1 .char (46 : Int32) [(.int (117 : Int32)), (.int (114 : Int32)), (.int (110 : Int32)), (.int (58 : Int32)), (.int (111 : Int32)), (.int (97 : Int32)), (.int (115 : Int32)), (.int (105 : Int32)), (.int (115 : Int32)), (.int (58 : Int32)), (.int (110 : Int32)), (.int (97 : Int32)), (.int (109 : Int32)), (.int (101 : Int32)), (.int (115 : Int32)), (.int (58 : Int32)), (.int (116 : Int32)), (.int (99 : Int32)), (.int (58 : Int32)), (.int (83 : Int32)), (.int (65 : Int32)), (.int (77 : Int32)), (.int (76 : Int32)), (.int (58 : Int32)), (.int (50 : Int32)), (.int (0 : Int32)), (.int (0 : Int32)), (.int (0 : Int32)), (.int (0 : Int32)), (.int (0 : Int32)), (.int (0 : Int32)), (.int (0 : Int32)), (.int (0 : Int32)), (.int (0 : Int32)), (.int (0 : Int32)), (.int (0 : Int32)), (.int (0 : Int32)), (.int (0 : Int32)), (.int (0 : Int32)), (.int (0 : Int32)), (.int (0 : Int32)), (.int (0 : Int32)), (.int (0 : Int32)), (.int (0 : Int32)), (.int (0 : Int32)), (.int (0 : Int32))] (.int (0 : Int32)) := V51
  show Goes _ _ _ _ _ _ (T51.setTop (mkF m 148 #[] [(.ref b1)]))
  refine own_dup X51 hx (hb hby d8_148) rfl ?_
  refine own_bipush X51 hx (v := (25 : Int32)) (hb hby d8_149) rfl ?_
  refine own_bipush X51 hx (v := (46 : Int32)) (hb hby d8_151) rfl ?_
  show Goes _ _ _ _ _ _ (T51.setTop (mkF m 153 #[] [(.int (46 : Int32)), (.int (25 : Int32)), (.ref b1), (.ref b1)]))
  refine own_castore X51 hx hZ N51 e51 V51' ⟨by decide, by decide⟩ (i := 25) rfl (by first | decide | (simp; done)) ge_b1 (hb hby d8_153) (fun T53 h53 lc53 X53 e53 N53 W53 V53 => ?_)
  have O54 := O52.wr W53 ge_b1
  have KC54 := KC52.wr W53 (Or.inr sz_b1)
  have V53' : Arv Z h53 b1 k1 .char (46 : Int32) [(.int (117 : Int32)), (.int (114 : Int32)), (.int (110 : Int32)), (.int (58 : Int32)), (.int (111 : Int32)), (.int (97 : Int32)), (.int (115 : Int32)), (.int (105 : Int32)), (.int (115 : Int32)), (.int (58 : Int32)), (.int (110 : Int32)), (.int (97 : Int32)), (.int (109 : Int32)), (.int (101 : Int32)), (.int (115 : Int32)), (.int (58 : Int32)), (.int (116 : Int32)), (.int (99 : Int32)), (.int (58 : Int32)), (.int (83 : Int32)), (.int (65 : Int32)), (.int (77 : Int32)), (.int (76 : Int32)), (.int (58 : Int32)), (.int (50 : Int32)), (.int (46 : Int32)), (.int (0 : Int32)), (.int (0 : Int32)), (.int (0 : Int32)), (.int (0 : Int32)), (.int (0 : Int32)), (.int (0 : Int32)), (.int (0 : Int32)), (.int (0 : Int32)), (.int (0 : Int32)), (.int (0 : Int32)), (.int (0 : Int32)), (.int (0 : Int32)), (.int (0 : Int32)), (.int (0 : Int32)), (.int (0 : Int32)), (.int (0 : Int32)), (.int (0 : Int32)), (.int (0 : Int32)), (.int (0 : Int32)), (.int (0 : Int32))] (.int (0 : Int32)) := V53
  show Goes _ _ _ _ _ _ (T53.setTop (mkF m 154 #[] [(.ref b1)]))
  refine own_dup X53 hx (hb hby d8_154) rfl ?_
  refine own_bipush X53 hx (v := (26 : Int32)) (hb hby d8_155) rfl ?_
  refine own_bipush X53 hx (v := (48 : Int32)) (hb hby d8_157) rfl ?_
  show Goes _ _ _ _ _ _ (T53.setTop (mkF m 159 #[] [(.int (48 : Int32)), (.int (26 : Int32)), (.ref b1), (.ref b1)]))
  refine own_castore X53 hx hZ N53 e53 V53' ⟨by decide, by decide⟩ (i := 26) rfl (by first | decide | (simp; done)) ge_b1 (hb hby d8_159) (fun T55 h55 lc55 X55 e55 N55 W55 V55 => ?_)
  have O56 := O54.wr W55 ge_b1
  have KC56 := KC54.wr W55 (Or.inr sz_b1)
  have V55' : Arv Z h55 b1 k1 .char (46 : Int32) [(.int (117 : Int32)), (.int (114 : Int32)), (.int (110 : Int32)), (.int (58 : Int32)), (.int (111 : Int32)), (.int (97 : Int32)), (.int (115 : Int32)), (.int (105 : Int32)), (.int (115 : Int32)), (.int (58 : Int32)), (.int (110 : Int32)), (.int (97 : Int32)), (.int (109 : Int32)), (.int (101 : Int32)), (.int (115 : Int32)), (.int (58 : Int32)), (.int (116 : Int32)), (.int (99 : Int32)), (.int (58 : Int32)), (.int (83 : Int32)), (.int (65 : Int32)), (.int (77 : Int32)), (.int (76 : Int32)), (.int (58 : Int32)), (.int (50 : Int32)), (.int (46 : Int32)), (.int (48 : Int32)), (.int (0 : Int32)), (.int (0 : Int32)), (.int (0 : Int32)), (.int (0 : Int32)), (.int (0 : Int32)), (.int (0 : Int32)), (.int (0 : Int32)), (.int (0 : Int32)), (.int (0 : Int32)), (.int (0 : Int32)), (.int (0 : Int32)), (.int (0 : Int32)), (.int (0 : Int32)), (.int (0 : Int32)), (.int (0 : Int32)), (.int (0 : Int32)), (.int (0 : Int32)), (.int (0 : Int32)), (.int (0 : Int32))] (.int (0 : Int32)) := V55
  show Goes _ _ _ _ _ _ (T55.setTop (mkF m 160 #[] [(.ref b1)]))
  refine own_dup X55 hx (hb hby d8_160) rfl ?_
  refine own_bipush X55 hx (v := (27 : Int32)) (hb hby d8_161) rfl ?_
  refine own_bipush X55 hx (v := (58 : Int32)) (hb hby d8_163) rfl ?_
  show Goes _ _ _ _ _ _ (T55.setTop (mkF m 165 #[] [(.int (58 : Int32)), (.int (27 : Int32)), (.ref b1), (.ref b1)]))
  refine own_castore X55 hx hZ N55 e55 V55' ⟨by decide, by decide⟩ (i := 27) rfl (by first | decide | (simp; done)) ge_b1 (hb hby d8_165) (fun T57 h57 lc57 X57 e57 N57 W57 V57 => ?_)
  have O58 := O56.wr W57 ge_b1
  have KC58 := KC56.wr W57 (Or.inr sz_b1)
  have V57' : Arv Z h57 b1 k1 .char (46 : Int32) [(.int (117 : Int32)), (.int (114 : Int32)), (.int (110 : Int32)), (.int (58 : Int32)), (.int (111 : Int32)), (.int (97 : Int32)), (.int (115 : Int32)), (.int (105 : Int32)), (.int (115 : Int32)), (.int (58 : Int32)), (.int (110 : Int32)), (.int (97 : Int32)), (.int (109 : Int32)), (.int (101 : Int32)), (.int (115 : Int32)), (.int (58 : Int32)), (.int (116 : Int32)), (.int (99 : Int32)), (.int (58 : Int32)), (.int (83 : Int32)), (.int (65 : Int32)), (.int (77 : Int32)), (.int (76 : Int32)), (.int (58 : Int32)), (.int (50 : Int32)), (.int (46 : Int32)), (.int (48 : Int32)), (.int (58 : Int32)), (.int (0 : Int32)), (.int (0 : Int32)), (.int (0 : Int32)), (.int (0 : Int32)), (.int (0 : Int32)), (.int (0 : Int32)), (.int (0 : Int32)), (.int (0 : Int32)), (.int (0 : Int32)), (.int (0 : Int32)), (.int (0 : Int32)), (.int (0 : Int32)), (.int (0 : Int32)), (.int (0 : Int32)), (.int (0 : Int32)), (.int (0 : Int32)), (.int (0 : Int32)), (.int (0 : Int32))] (.int (0 : Int32)) := V57
  show Goes _ _ _ _ _ _ (T57.setTop (mkF m 166 #[] [(.ref b1)]))
  refine own_dup X57 hx (hb hby d8_166) rfl ?_
  refine own_bipush X57 hx (v := (28 : Int32)) (hb hby d8_167) rfl ?_
  refine own_bipush X57 hx (v := (115 : Int32)) (hb hby d8_169) rfl ?_
  show Goes _ _ _ _ _ _ (T57.setTop (mkF m 171 #[] [(.int (115 : Int32)), (.int (28 : Int32)), (.ref b1), (.ref b1)]))
  refine own_castore X57 hx hZ N57 e57 V57' ⟨by decide, by decide⟩ (i := 28) rfl (by first | decide | (simp; done)) ge_b1 (hb hby d8_171) (fun T59 h59 lc59 X59 e59 N59 W59 V59 => ?_)
  have O60 := O58.wr W59 ge_b1
  have KC60 := KC58.wr W59 (Or.inr sz_b1)
  have V59' : Arv Z h59 b1 k1 .char (46 : Int32) [(.int (117 : Int32)), (.int (114 : Int32)), (.int (110 : Int32)), (.int (58 : Int32)), (.int (111 : Int32)), (.int (97 : Int32)), (.int (115 : Int32)), (.int (105 : Int32)), (.int (115 : Int32)), (.int (58 : Int32)), (.int (110 : Int32)), (.int (97 : Int32)), (.int (109 : Int32)), (.int (101 : Int32)), (.int (115 : Int32)), (.int (58 : Int32)), (.int (116 : Int32)), (.int (99 : Int32)), (.int (58 : Int32)), (.int (83 : Int32)), (.int (65 : Int32)), (.int (77 : Int32)), (.int (76 : Int32)), (.int (58 : Int32)), (.int (50 : Int32)), (.int (46 : Int32)), (.int (48 : Int32)), (.int (58 : Int32)), (.int (115 : Int32)), (.int (0 : Int32)), (.int (0 : Int32)), (.int (0 : Int32)), (.int (0 : Int32)), (.int (0 : Int32)), (.int (0 : Int32)), (.int (0 : Int32)), (.int (0 : Int32)), (.int (0 : Int32)), (.int (0 : Int32)), (.int (0 : Int32)), (.int (0 : Int32)), (.int (0 : Int32)), (.int (0 : Int32)), (.int (0 : Int32)), (.int (0 : Int32)), (.int (0 : Int32))] (.int (0 : Int32)) := V59
  show Goes _ _ _ _ _ _ (T59.setTop (mkF m 172 #[] [(.ref b1)]))
  refine own_dup X59 hx (hb hby d8_172) rfl ?_
  refine own_bipush X59 hx (v := (29 : Int32)) (hb hby d8_173) rfl ?_
  refine own_bipush X59 hx (v := (116 : Int32)) (hb hby d8_175) rfl ?_
  show Goes _ _ _ _ _ _ (T59.setTop (mkF m 177 #[] [(.int (116 : Int32)), (.int (29 : Int32)), (.ref b1), (.ref b1)]))
  refine own_castore X59 hx hZ N59 e59 V59' ⟨by decide, by decide⟩ (i := 29) rfl (by first | decide | (simp; done)) ge_b1 (hb hby d8_177) (fun T61 h61 lc61 X61 e61 N61 W61 V61 => ?_)
  have O62 := O60.wr W61 ge_b1
  have KC62 := KC60.wr W61 (Or.inr sz_b1)
  have V61' : Arv Z h61 b1 k1 .char (46 : Int32) [(.int (117 : Int32)), (.int (114 : Int32)), (.int (110 : Int32)), (.int (58 : Int32)), (.int (111 : Int32)), (.int (97 : Int32)), (.int (115 : Int32)), (.int (105 : Int32)), (.int (115 : Int32)), (.int (58 : Int32)), (.int (110 : Int32)), (.int (97 : Int32)), (.int (109 : Int32)), (.int (101 : Int32)), (.int (115 : Int32)), (.int (58 : Int32)), (.int (116 : Int32)), (.int (99 : Int32)), (.int (58 : Int32)), (.int (83 : Int32)), (.int (65 : Int32)), (.int (77 : Int32)), (.int (76 : Int32)), (.int (58 : Int32)), (.int (50 : Int32)), (.int (46 : Int32)), (.int (48 : Int32)), (.int (58 : Int32)), (.int (115 : Int32)), (.int (116 : Int32)), (.int (0 : Int32)), (.int (0 : Int32)), (.int (0 : Int32)), (.int (0 : Int32)), (.int (0 : Int32)), (.int (0 : Int32)), (.int (0 : Int32)), (.int (0 : Int32)), (.int (0 : Int32)), (.int (0 : Int32)), (.int (0 : Int32)), (.int (0 : Int32)), (.int (0 : Int32)), (.int (0 : Int32)), (.int (0 : Int32)), (.int (0 : Int32))] (.int (0 : Int32)) := V61
  show Goes _ _ _ _ _ _ (T61.setTop (mkF m 178 #[] [(.ref b1)]))
  refine own_dup X61 hx (hb hby d8_178) rfl ?_
  refine own_bipush X61 hx (v := (30 : Int32)) (hb hby d8_179) rfl ?_
  refine own_bipush X61 hx (v := (97 : Int32)) (hb hby d8_181) rfl ?_
  show Goes _ _ _ _ _ _ (T61.setTop (mkF m 183 #[] [(.int (97 : Int32)), (.int (30 : Int32)), (.ref b1), (.ref b1)]))
  refine own_castore X61 hx hZ N61 e61 V61' ⟨by decide, by decide⟩ (i := 30) rfl (by first | decide | (simp; done)) ge_b1 (hb hby d8_183) (fun T63 h63 lc63 X63 e63 N63 W63 V63 => ?_)
  have O64 := O62.wr W63 ge_b1
  have KC64 := KC62.wr W63 (Or.inr sz_b1)
  have V63' : Arv Z h63 b1 k1 .char (46 : Int32) [(.int (117 : Int32)), (.int (114 : Int32)), (.int (110 : Int32)), (.int (58 : Int32)), (.int (111 : Int32)), (.int (97 : Int32)), (.int (115 : Int32)), (.int (105 : Int32)), (.int (115 : Int32)), (.int (58 : Int32)), (.int (110 : Int32)), (.int (97 : Int32)), (.int (109 : Int32)), (.int (101 : Int32)), (.int (115 : Int32)), (.int (58 : Int32)), (.int (116 : Int32)), (.int (99 : Int32)), (.int (58 : Int32)), (.int (83 : Int32)), (.int (65 : Int32)), (.int (77 : Int32)), (.int (76 : Int32)), (.int (58 : Int32)), (.int (50 : Int32)), (.int (46 : Int32)), (.int (48 : Int32)), (.int (58 : Int32)), (.int (115 : Int32)), (.int (116 : Int32)), (.int (97 : Int32)), (.int (0 : Int32)), (.int (0 : Int32)), (.int (0 : Int32)), (.int (0 : Int32)), (.int (0 : Int32)), (.int (0 : Int32)), (.int (0 : Int32)), (.int (0 : Int32)), (.int (0 : Int32)), (.int (0 : Int32)), (.int (0 : Int32)), (.int (0 : Int32)), (.int (0 : Int32)), (.int (0 : Int32)), (.int (0 : Int32))] (.int (0 : Int32)) := V63
  show Goes _ _ _ _ _ _ (T63.setTop (mkF m 184 #[] [(.ref b1)]))
  refine own_dup X63 hx (hb hby d8_184) rfl ?_
  refine own_bipush X63 hx (v := (31 : Int32)) (hb hby d8_185) rfl ?_
  refine own_bipush X63 hx (v := (116 : Int32)) (hb hby d8_187) rfl ?_
  show Goes _ _ _ _ _ _ (T63.setTop (mkF m 189 #[] [(.int (116 : Int32)), (.int (31 : Int32)), (.ref b1), (.ref b1)]))
  refine own_castore X63 hx hZ N63 e63 V63' ⟨by decide, by decide⟩ (i := 31) rfl (by first | decide | (simp; done)) ge_b1 (hb hby d8_189) (fun T65 h65 lc65 X65 e65 N65 W65 V65 => ?_)
  have O66 := O64.wr W65 ge_b1
  have KC66 := KC64.wr W65 (Or.inr sz_b1)
  have V65' : Arv Z h65 b1 k1 .char (46 : Int32) [(.int (117 : Int32)), (.int (114 : Int32)), (.int (110 : Int32)), (.int (58 : Int32)), (.int (111 : Int32)), (.int (97 : Int32)), (.int (115 : Int32)), (.int (105 : Int32)), (.int (115 : Int32)), (.int (58 : Int32)), (.int (110 : Int32)), (.int (97 : Int32)), (.int (109 : Int32)), (.int (101 : Int32)), (.int (115 : Int32)), (.int (58 : Int32)), (.int (116 : Int32)), (.int (99 : Int32)), (.int (58 : Int32)), (.int (83 : Int32)), (.int (65 : Int32)), (.int (77 : Int32)), (.int (76 : Int32)), (.int (58 : Int32)), (.int (50 : Int32)), (.int (46 : Int32)), (.int (48 : Int32)), (.int (58 : Int32)), (.int (115 : Int32)), (.int (116 : Int32)), (.int (97 : Int32)), (.int (116 : Int32)), (.int (0 : Int32)), (.int (0 : Int32)), (.int (0 : Int32)), (.int (0 : Int32)), (.int (0 : Int32)), (.int (0 : Int32)), (.int (0 : Int32)), (.int (0 : Int32)), (.int (0 : Int32)), (.int (0 : Int32)), (.int (0 : Int32)), (.int (0 : Int32)), (.int (0 : Int32)), (.int (0 : Int32))] (.int (0 : Int32)) := V65
  show Goes _ _ _ _ _ _ (T65.setTop (mkF m 190 #[] [(.ref b1)]))
  refine own_dup X65 hx (hb hby d8_190) rfl ?_
  refine own_bipush X65 hx (v := (32 : Int32)) (hb hby d8_191) rfl ?_
  refine own_bipush X65 hx (v := (117 : Int32)) (hb hby d8_193) rfl ?_
  show Goes _ _ _ _ _ _ (T65.setTop (mkF m 195 #[] [(.int (117 : Int32)), (.int (32 : Int32)), (.ref b1), (.ref b1)]))
  refine own_castore X65 hx hZ N65 e65 V65' ⟨by decide, by decide⟩ (i := 32) rfl (by first | decide | (simp; done)) ge_b1 (hb hby d8_195) (fun T67 h67 lc67 X67 e67 N67 W67 V67 => ?_)
  have O68 := O66.wr W67 ge_b1
  have KC68 := KC66.wr W67 (Or.inr sz_b1)
  have V67' : Arv Z h67 b1 k1 .char (46 : Int32) [(.int (117 : Int32)), (.int (114 : Int32)), (.int (110 : Int32)), (.int (58 : Int32)), (.int (111 : Int32)), (.int (97 : Int32)), (.int (115 : Int32)), (.int (105 : Int32)), (.int (115 : Int32)), (.int (58 : Int32)), (.int (110 : Int32)), (.int (97 : Int32)), (.int (109 : Int32)), (.int (101 : Int32)), (.int (115 : Int32)), (.int (58 : Int32)), (.int (116 : Int32)), (.int (99 : Int32)), (.int (58 : Int32)), (.int (83 : Int32)), (.int (65 : Int32)), (.int (77 : Int32)), (.int (76 : Int32)), (.int (58 : Int32)), (.int (50 : Int32)), (.int (46 : Int32)), (.int (48 : Int32)), (.int (58 : Int32)), (.int (115 : Int32)), (.int (116 : Int32)), (.int (97 : Int32)), (.int (116 : Int32)), (.int (117 : Int32)), (.int (0 : Int32)), (.int (0 : Int32)), (.int (0 : Int32)), (.int (0 : Int32)), (.int (0 : Int32)), (.int (0 : Int32)), (.int (0 : Int32)), (.int (0 : Int32)), (.int (0 : Int32)), (.int (0 : Int32)), (.int (0 : Int32)), (.int (0 : Int32)), (.int (0 : Int32))] (.int (0 : Int32)) := V67
  show Goes _ _ _ _ _ _ (T67.setTop (mkF m 196 #[] [(.ref b1)]))
  refine own_dup X67 hx (hb hby d8_196) rfl ?_
  refine own_bipush X67 hx (v := (33 : Int32)) (hb hby d8_197) rfl ?_
  refine own_bipush X67 hx (v := (115 : Int32)) (hb hby d8_199) rfl ?_
  show Goes _ _ _ _ _ _ (T67.setTop (mkF m 201 #[] [(.int (115 : Int32)), (.int (33 : Int32)), (.ref b1), (.ref b1)]))
  refine own_castore X67 hx hZ N67 e67 V67' ⟨by decide, by decide⟩ (i := 33) rfl (by first | decide | (simp; done)) ge_b1 (hb hby d8_201) (fun T69 h69 lc69 X69 e69 N69 W69 V69 => ?_)
  have O70 := O68.wr W69 ge_b1
  have KC70 := KC68.wr W69 (Or.inr sz_b1)
  have V69' : Arv Z h69 b1 k1 .char (46 : Int32) [(.int (117 : Int32)), (.int (114 : Int32)), (.int (110 : Int32)), (.int (58 : Int32)), (.int (111 : Int32)), (.int (97 : Int32)), (.int (115 : Int32)), (.int (105 : Int32)), (.int (115 : Int32)), (.int (58 : Int32)), (.int (110 : Int32)), (.int (97 : Int32)), (.int (109 : Int32)), (.int (101 : Int32)), (.int (115 : Int32)), (.int (58 : Int32)), (.int (116 : Int32)), (.int (99 : Int32)), (.int (58 : Int32)), (.int (83 : Int32)), (.int (65 : Int32)), (.int (77 : Int32)), (.int (76 : Int32)), (.int (58 : Int32)), (.int (50 : Int32)), (.int (46 : Int32)), (.int (48 : Int32)), (.int (58 : Int32)), (.int (115 : Int32)), (.int (116 : Int32)), (.int (97 : Int32)), (.int (116 : Int32)), (.int (117 : Int32)), (.int (115 : Int32)), (.int (0 : Int32)), (.int (0 : Int32)), (.int (0 : Int32)), (.int (0 : Int32)), (.int (0 : Int32)), (.int (0 : Int32)), (.int (0 : Int32)), (.int (0 : Int32)), (.int (0 : Int32)), (.int (0 : Int32)), (.int (0 : Int32)), (.int (0 : Int32))] (.int (0 : Int32)) := V69
  show Goes _ _ _ _ _ _ (T69.setTop (mkF m 202 #[] [(.ref b1)]))
  refine own_dup X69 hx (hb hby d8_202) rfl ?_
  refine own_bipush X69 hx (v := (34 : Int32)) (hb hby d8_203) rfl ?_
  refine own_bipush X69 hx (v := (58 : Int32)) (hb hby d8_205) rfl ?_
  show Goes _ _ _ _ _ _ (T69.setTop (mkF m 207 #[] [(.int (58 : Int32)), (.int (34 : Int32)), (.ref b1), (.ref b1)]))
  refine own_castore X69 hx hZ N69 e69 V69' ⟨by decide, by decide⟩ (i := 34) rfl (by first | decide | (simp; done)) ge_b1 (hb hby d8_207) (fun T71 h71 lc71 X71 e71 N71 W71 V71 => ?_)
  have O72 := O70.wr W71 ge_b1
  have KC72 := KC70.wr W71 (Or.inr sz_b1)
  have V71' : Arv Z h71 b1 k1 .char (46 : Int32) [(.int (117 : Int32)), (.int (114 : Int32)), (.int (110 : Int32)), (.int (58 : Int32)), (.int (111 : Int32)), (.int (97 : Int32)), (.int (115 : Int32)), (.int (105 : Int32)), (.int (115 : Int32)), (.int (58 : Int32)), (.int (110 : Int32)), (.int (97 : Int32)), (.int (109 : Int32)), (.int (101 : Int32)), (.int (115 : Int32)), (.int (58 : Int32)), (.int (116 : Int32)), (.int (99 : Int32)), (.int (58 : Int32)), (.int (83 : Int32)), (.int (65 : Int32)), (.int (77 : Int32)), (.int (76 : Int32)), (.int (58 : Int32)), (.int (50 : Int32)), (.int (46 : Int32)), (.int (48 : Int32)), (.int (58 : Int32)), (.int (115 : Int32)), (.int (116 : Int32)), (.int (97 : Int32)), (.int (116 : Int32)), (.int (117 : Int32)), (.int (115 : Int32)), (.int (58 : Int32)), (.int (0 : Int32)), (.int (0 : Int32)), (.int (0 : Int32)), (.int (0 : Int32)), (.int (0 : Int32)), (.int (0 : Int32)), (.int (0 : Int32)), (.int (0 : Int32)), (.int (0 : Int32)), (.int (0 : Int32)), (.int (0 : Int32))] (.int (0 : Int32)) := V71
  show Goes _ _ _ _ _ _ (T71.setTop (mkF m 208 #[] [(.ref b1)]))
  refine own_dup X71 hx (hb hby d8_208) rfl ?_
  refine own_bipush X71 hx (v := (35 : Int32)) (hb hby d8_209) rfl ?_
  refine own_bipush X71 hx (v := (65 : Int32)) (hb hby d8_211) rfl ?_
  show Goes _ _ _ _ _ _ (T71.setTop (mkF m 213 #[] [(.int (65 : Int32)), (.int (35 : Int32)), (.ref b1), (.ref b1)]))
  refine own_castore X71 hx hZ N71 e71 V71' ⟨by decide, by decide⟩ (i := 35) rfl (by first | decide | (simp; done)) ge_b1 (hb hby d8_213) (fun T73 h73 lc73 X73 e73 N73 W73 V73 => ?_)
  have O74 := O72.wr W73 ge_b1
  have KC74 := KC72.wr W73 (Or.inr sz_b1)
  have V73' : Arv Z h73 b1 k1 .char (46 : Int32) [(.int (117 : Int32)), (.int (114 : Int32)), (.int (110 : Int32)), (.int (58 : Int32)), (.int (111 : Int32)), (.int (97 : Int32)), (.int (115 : Int32)), (.int (105 : Int32)), (.int (115 : Int32)), (.int (58 : Int32)), (.int (110 : Int32)), (.int (97 : Int32)), (.int (109 : Int32)), (.int (101 : Int32)), (.int (115 : Int32)), (.int (58 : Int32)), (.int (116 : Int32)), (.int (99 : Int32)), (.int (58 : Int32)), (.int (83 : Int32)), (.int (65 : Int32)), (.int (77 : Int32)), (.int (76 : Int32)), (.int (58 : Int32)), (.int (50 : Int32)), (.int (46 : Int32)), (.int (48 : Int32)), (.int (58 : Int32)), (.int (115 : Int32)), (.int (116 : Int32)), (.int (97 : Int32)), (.int (116 : Int32)), (.int (117 : Int32)), (.int (115 : Int32)), (.int (58 : Int32)), (.int (65 : Int32)), (.int (0 : Int32)), (.int (0 : Int32)), (.int (0 : Int32)), (.int (0 : Int32)), (.int (0 : Int32)), (.int (0 : Int32)), (.int (0 : Int32)), (.int (0 : Int32)), (.int (0 : Int32)), (.int (0 : Int32))] (.int (0 : Int32)) := V73
  show Goes _ _ _ _ _ _ (T73.setTop (mkF m 214 #[] [(.ref b1)]))
  refine own_dup X73 hx (hb hby d8_214) rfl ?_
  refine own_bipush X73 hx (v := (36 : Int32)) (hb hby d8_215) rfl ?_
  refine own_bipush X73 hx (v := (117 : Int32)) (hb hby d8_217) rfl ?_
  show Goes _ _ _ _ _ _ (T73.setTop (mkF m 219 #[] [(.int (117 : Int32)), (.int (36 : Int32)), (.ref b1), (.ref b1)]))
  refine own_castore X73 hx hZ N73 e73 V73' ⟨by decide, by decide⟩ (i := 36) rfl (by first | decide | (simp; done)) ge_b1 (hb hby d8_219) (fun T75 h75 lc75 X75 e75 N75 W75 V75 => ?_)
  have O76 := O74.wr W75 ge_b1
  have KC76 := KC74.wr W75 (Or.inr sz_b1)
  have V75' : Arv Z h75 b1 k1 .char (46 : Int32) [(.int (117 : Int32)), (.int (114 : Int32)), (.int (110 : Int32)), (.int (58 : Int32)), (.int (111 : Int32)), (.int (97 : Int32)), (.int (115 : Int32)), (.int (105 : Int32)), (.int (115 : Int32)), (.int (58 : Int32)), (.int (110 : Int32)), (.int (97 : Int32)), (.int (109 : Int32)), (.int (101 : Int32)), (.int (115 : Int32)), (.int (58 : Int32)), (.int (116 : Int32)), (.int (99 : Int32)), (.int (58 : Int32)), (.int (83 : Int32)), (.int (65 : Int32)), (.int (77 : Int32)), (.int (76 : Int32)), (.int (58 : Int32)), (.int (50 : Int32)), (.int (46 : Int32)), (.int (48 : Int32)), (.int (58 : Int32)), (.int (115 : Int32)), (.int (116 : Int32)), (.int (97 : Int32)), (.int (116 : Int32)), (.int (117 : Int32)), (.int (115 : Int32)), (.int (58 : Int32)), (.int (65 : Int32)), (.int (117 : Int32)), (.int (0 : Int32)), (.int (0 : Int32)), (.int (0 : Int32)), (.int (0 : Int32)), (.int (0 : Int32)), (.int (0 : Int32)), (.int (0 : Int32)), (.int (0 : Int32)), (.int (0 : Int32))] (.int (0 : Int32)) := V75
  show Goes _ _ _ _ _ _ (T75.setTop (mkF m 220 #[] [(.ref b1)]))
  refine own_dup X75 hx (hb hby d8_220) rfl ?_
  refine own_bipush X75 hx (v := (37 : Int32)) (hb hby d8_221) rfl ?_
  refine own_bipush X75 hx (v := (116 : Int32)) (hb hby d8_223) rfl ?_
  show Goes _ _ _ _ _ _ (T75.setTop (mkF m 225 #[] [(.int (116 : Int32)), (.int (37 : Int32)), (.ref b1), (.ref b1)]))
  refine own_castore X75 hx hZ N75 e75 V75' ⟨by decide, by decide⟩ (i := 37) rfl (by first | decide | (simp; done)) ge_b1 (hb hby d8_225) (fun T77 h77 lc77 X77 e77 N77 W77 V77 => ?_)
  have O78 := O76.wr W77 ge_b1
  have KC78 := KC76.wr W77 (Or.inr sz_b1)
  have V77' : Arv Z h77 b1 k1 .char (46 : Int32) [(.int (117 : Int32)), (.int (114 : Int32)), (.int (110 : Int32)), (.int (58 : Int32)), (.int (111 : Int32)), (.int (97 : Int32)), (.int (115 : Int32)), (.int (105 : Int32)), (.int (115 : Int32)), (.int (58 : Int32)), (.int (110 : Int32)), (.int (97 : Int32)), (.int (109 : Int32)), (.int (101 : Int32)), (.int (115 : Int32)), (.int (58 : Int32)), (.int (116 : Int32)), (.int (99 : Int32)), (.int (58 : Int32)), (.int (83 : Int32)), (.int (65 : Int32)), (.int (77 : Int32)), (.int (76 : Int32)), (.int (58 : Int32)), (.int (50 : Int32)), (.int (46 : Int32)), (.int (48 : Int32)), (.int (58 : Int32)), (.int (115 : Int32)), (.int (116 : Int32)), (.int (97 : Int32)), (.int (116 : Int32)), (.int (117 : Int32)), (.int (115 : Int32)), (.int (58 : Int32)), (.int (65 : Int32)), (.int (117 : Int32)), (.int (116 : Int32)), (.int (0 : Int32)), (.int (0 : Int32)), (.int (0 : Int32)), (.int (0 : Int32)), (.int (0 : Int32)), (.int (0 : Int32)), (.int (0 : Int32)), (.int (0 : Int32))] (.int (0 : Int32)) := V77
  show Goes _ _ _ _ _ _ (T77.setTop (mkF m 226 #[] [(.ref b1)]))
  refine own_dup X77 hx (hb hby d8_226) rfl ?_
  refine own_bipush X77 hx (v := (38 : Int32)) (hb hby d8_227) rfl ?_
  refine own_bipush X77 hx (v := (104 : Int32)) (hb hby d8_229) rfl ?_
  show Goes _ _ _ _ _ _ (T77.setTop (mkF m 231 #[] [(.int (104 : Int32)), (.int (38 : Int32)), (.ref b1), (.ref b1)]))
  refine own_castore X77 hx hZ N77 e77 V77' ⟨by decide, by decide⟩ (i := 38) rfl (by first | decide | (simp; done)) ge_b1 (hb hby d8_231) (fun T79 h79 lc79 X79 e79 N79 W79 V79 => ?_)
  have O80 := O78.wr W79 ge_b1
  have KC80 := KC78.wr W79 (Or.inr sz_b1)
  have V79' : Arv Z h79 b1 k1 .char (46 : Int32) [(.int (117 : Int32)), (.int (114 : Int32)), (.int (110 : Int32)), (.int (58 : Int32)), (.int (111 : Int32)), (.int (97 : Int32)), (.int (115 : Int32)), (.int (105 : Int32)), (.int (115 : Int32)), (.int (58 : Int32)), (.int (110 : Int32)), (.int (97 : Int32)), (.int (109 : Int32)), (.int (101 : Int32)), (.int (115 : Int32)), (.int (58 : Int32)), (.int (116 : Int32)), (.int (99 : Int32)), (.int (58 : Int32)), (.int (83 : Int32)), (.int (65 : Int32)), (.int (77 : Int32)), (.int (76 : Int32)), (.int (58 : Int32)), (.int (50 : Int32)), (.int (46 : Int32)), (.int (48 : Int32)), (.int (58 : Int32)), (.int (115 : Int32)), (.int (116 : Int32)), (.int (97 : Int32)), (.int (116 : Int32)), (.int (117 : Int32)), (.int (115 : Int32)), (.int (58 : Int32)), (.int (65 : Int32)), (.int (117 : Int32)), (.int (116 : Int32)), (.int (104 : Int32)), (.int (0 : Int32)), (.int (0 : Int32)), (.int (0 : Int32)), (.int (0 : Int32)), (.int (0 : Int32)), (.int (0 : Int32)), (.int (0 : Int32))] (.int (0 : Int32)) := V79
  show Goes _ _ _ _ _ _ (T79.setTop (mkF m 232 #[] [(.ref b1)]))
  refine own_dup X79 hx (hb hby d8_232) rfl ?_
  refine own_bipush X79 hx (v := (39 : Int32)) (hb hby d8_233) rfl ?_
  refine own_bipush X79 hx (v := (110 : Int32)) (hb hby d8_235) rfl ?_
  show Goes _ _ _ _ _ _ (T79.setTop (mkF m 237 #[] [(.int (110 : Int32)), (.int (39 : Int32)), (.ref b1), (.ref b1)]))
  refine own_castore X79 hx hZ N79 e79 V79' ⟨by decide, by decide⟩ (i := 39) rfl (by first | decide | (simp; done)) ge_b1 (hb hby d8_237) (fun T81 h81 lc81 X81 e81 N81 W81 V81 => ?_)
  have O82 := O80.wr W81 ge_b1
  have KC82 := KC80.wr W81 (Or.inr sz_b1)
  have V81' : Arv Z h81 b1 k1 .char (46 : Int32) [(.int (117 : Int32)), (.int (114 : Int32)), (.int (110 : Int32)), (.int (58 : Int32)), (.int (111 : Int32)), (.int (97 : Int32)), (.int (115 : Int32)), (.int (105 : Int32)), (.int (115 : Int32)), (.int (58 : Int32)), (.int (110 : Int32)), (.int (97 : Int32)), (.int (109 : Int32)), (.int (101 : Int32)), (.int (115 : Int32)), (.int (58 : Int32)), (.int (116 : Int32)), (.int (99 : Int32)), (.int (58 : Int32)), (.int (83 : Int32)), (.int (65 : Int32)), (.int (77 : Int32)), (.int (76 : Int32)), (.int (58 : Int32)), (.int (50 : Int32)), (.int (46 : Int32)), (.int (48 : Int32)), (.int (58 : Int32)), (.int (115 : Int32)), (.int (116 : Int32)), (.int (97 : Int32)), (.int (116 : Int32)), (.int (117 : Int32)), (.int (115 : Int32)), (.int (58 : Int32)), (.int (65 : Int32)), (.int (117 : Int32)), (.int (116 : Int32)), (.int (104 : Int32)), (.int (110 : Int32)), (.int (0 : Int32)), (.int (0 : Int32)), (.int (0 : Int32)), (.int (0 : Int32)), (.int (0 : Int32)), (.int (0 : Int32))] (.int (0 : Int32)) := V81
  show Goes _ _ _ _ _ _ (T81.setTop (mkF m 238 #[] [(.ref b1)]))
  refine own_dup X81 hx (hb hby d8_238) rfl ?_
  refine own_bipush X81 hx (v := (40 : Int32)) (hb hby d8_239) rfl ?_
  refine own_bipush X81 hx (v := (70 : Int32)) (hb hby d8_241) rfl ?_
  show Goes _ _ _ _ _ _ (T81.setTop (mkF m 243 #[] [(.int (70 : Int32)), (.int (40 : Int32)), (.ref b1), (.ref b1)]))
  refine own_castore X81 hx hZ N81 e81 V81' ⟨by decide, by decide⟩ (i := 40) rfl (by first | decide | (simp; done)) ge_b1 (hb hby d8_243) (fun T83 h83 lc83 X83 e83 N83 W83 V83 => ?_)
  have O84 := O82.wr W83 ge_b1
  have KC84 := KC82.wr W83 (Or.inr sz_b1)
  have V83' : Arv Z h83 b1 k1 .char (46 : Int32) [(.int (117 : Int32)), (.int (114 : Int32)), (.int (110 : Int32)), (.int (58 : Int32)), (.int (111 : Int32)), (.int (97 : Int32)), (.int (115 : Int32)), (.int (105 : Int32)), (.int (115 : Int32)), (.int (58 : Int32)), (.int (110 : Int32)), (.int (97 : Int32)), (.int (109 : Int32)), (.int (101 : Int32)), (.int (115 : Int32)), (.int (58 : Int32)), (.int (116 : Int32)), (.int (99 : Int32)), (.int (58 : Int32)), (.int (83 : Int32)), (.int (65 : Int32)), (.int (77 : Int32)), (.int (76 : Int32)), (.int (58 : Int32)), (.int (50 : Int32)), (.int (46 : Int32)), (.int (48 : Int32)), (.int (58 : Int32)), (.int (115 : Int32)), (.int (116 : Int32)), (.int (97 : Int32)), (.int (116 : Int32)), (.int (117 : Int32)), (.int (115 : Int32)), (.int (58 : Int32)), (.int (65 : Int32)), (.int (117 : Int32)), (.int (116 : Int32)), (.int (104 : Int32)), (.int (110 : Int32)), (.int (70 : Int32)), (.int (0 : Int32)), (.int (0 : Int32)), (.int (0 : Int32)), (.int (0 : Int32)), (.int (0 : Int32))] (.int (0 : Int32)) := V83
  show Goes _ _ _ _ _ _ (T83.setTop (mkF m 244 #[] [(.ref b1)]))
  refine own_dup X83 hx (hb hby d8_244) rfl ?_
  refine own_bipush X83 hx (v := (41 : Int32)) (hb hby d8_245) rfl ?_
  refine own_bipush X83 hx (v := (97 : Int32)) (hb hby d8_247) rfl ?_
  show Goes _ _ _ _ _ _ (T83.setTop (mkF m 249 #[] [(.int (97 : Int32)), (.int (41 : Int32)), (.ref b1), (.ref b1)]))
  refine own_castore X83 hx hZ N83 e83 V83' ⟨by decide, by decide⟩ (i := 41) rfl (by first | decide | (simp; done)) ge_b1 (hb hby d8_249) (fun T85 h85 lc85 X85 e85 N85 W85 V85 => ?_)
  have O86 := O84.wr W85 ge_b1
  have KC86 := KC84.wr W85 (Or.inr sz_b1)
  have V85' : Arv Z h85 b1 k1 .char (46 : Int32) [(.int (117 : Int32)), (.int (114 : Int32)), (.int (110 : Int32)), (.int (58 : Int32)), (.int (111 : Int32)), (.int (97 : Int32)), (.int (115 : Int32)), (.int (105 : Int32)), (.int (115 : Int32)), (.int (58 : Int32)), (.int (110 : Int32)), (.int (97 : Int32)), (.int (109 : Int32)), (.int (101 : Int32)), (.int (115 : Int32)), (.int (58 : Int32)), (.int (116 : Int32)), (.int (99 : Int32)), (.int (58 : Int32)), (.int (83 : Int32)), (.int (65 : Int32)), (.int (77 : Int32)), (.int (76 : Int32)), (.int (58 : Int32)), (.int (50 : Int32)), (.int (46 : Int32)), (.int (48 : Int32)), (.int (58 : Int32)), (.int (115 : Int32)), (.int (116 : Int32)), (.int (97 : Int32)), (.int (116 : Int32)), (.int (117 : Int32)), (.int (115 : Int32)), (.int (58 : Int32)), (.int (65 : Int32)), (.int (117 : Int32)), (.int (116 : Int32)), (.int (104 : Int32)), (.int (110 : Int32)), (.int (70 : Int32)), (.int (97 : Int32)), (.int (0 : Int32)), (.int (0 : Int32)), (.int (0 : Int32)), (.int (0 : Int32))] (.int (0 : Int32)) := V85
  show Goes _ _ _ _ _ _ (T85.setTop (mkF m 250 #[] [(.ref b1)]))
  refine own_dup X85 hx (hb hby d8_250) rfl ?_
  refine own_bipush X85 hx (v := (42 : Int32)) (hb hby d8_251) rfl ?_
  refine own_bipush X85 hx (v := (105 : Int32)) (hb hby d8_253) rfl ?_
  show Goes _ _ _ _ _ _ (T85.setTop (mkF m 255 #[] [(.int (105 : Int32)), (.int (42 : Int32)), (.ref b1), (.ref b1)]))
  refine own_castore X85 hx hZ N85 e85 V85' ⟨by decide, by decide⟩ (i := 42) rfl (by first | decide | (simp; done)) ge_b1 (hb hby d8_255) (fun T87 h87 lc87 X87 e87 N87 W87 V87 => ?_)
  have O88 := O86.wr W87 ge_b1
  have KC88 := KC86.wr W87 (Or.inr sz_b1)
  have V87' : Arv Z h87 b1 k1 .char (46 : Int32) [(.int (117 : Int32)), (.int (114 : Int32)), (.int (110 : Int32)), (.int (58 : Int32)), (.int (111 : Int32)), (.int (97 : Int32)), (.int (115 : Int32)), (.int (105 : Int32)), (.int (115 : Int32)), (.int (58 : Int32)), (.int (110 : Int32)), (.int (97 : Int32)), (.int (109 : Int32)), (.int (101 : Int32)), (.int (115 : Int32)), (.int (58 : Int32)), (.int (116 : Int32)), (.int (99 : Int32)), (.int (58 : Int32)), (.int (83 : Int32)), (.int (65 : Int32)), (.int (77 : Int32)), (.int (76 : Int32)), (.int (58 : Int32)), (.int (50 : Int32)), (.int (46 : Int32)), (.int (48 : Int32)), (.int (58 : Int32)), (.int (115 : Int32)), (.int (116 : Int32)), (.int (97 : Int32)), (.int (116 : Int32)), (.int (117 : Int32)), (.int (115 : Int32)), (.int (58 : Int32)), (.int (65 : Int32)), (.int (117 : Int32)), (.int (116 : Int32)), (.int (104 : Int32)), (.int (110 : Int32)), (.int (70 : Int32)), (.int (97 : Int32)), (.int (105 : Int32)), (.int (0 : Int32)), (.int (0 : Int32)), (.int (0 : Int32))] (.int (0 : Int32)) := V87
  show Goes _ _ _ _ _ _ (T87.setTop (mkF m 256 #[] [(.ref b1)]))
  refine own_dup X87 hx (hb hby d8_256) rfl ?_
  refine own_bipush X87 hx (v := (43 : Int32)) (hb hby d8_257) rfl ?_
  refine own_bipush X87 hx (v := (108 : Int32)) (hb hby d8_259) rfl ?_
  show Goes _ _ _ _ _ _ (T87.setTop (mkF m 261 #[] [(.int (108 : Int32)), (.int (43 : Int32)), (.ref b1), (.ref b1)]))
  refine own_castore X87 hx hZ N87 e87 V87' ⟨by decide, by decide⟩ (i := 43) rfl (by first | decide | (simp; done)) ge_b1 (hb hby d8_261) (fun T89 h89 lc89 X89 e89 N89 W89 V89 => ?_)
  have O90 := O88.wr W89 ge_b1
  have KC90 := KC88.wr W89 (Or.inr sz_b1)
  have V89' : Arv Z h89 b1 k1 .char (46 : Int32) [(.int (117 : Int32)), (.int (114 : Int32)), (.int (110 : Int32)), (.int (58 : Int32)), (.int (111 : Int32)), (.int (97 : Int32)), (.int (115 : Int32)), (.int (105 : Int32)), (.int (115 : Int32)), (.int (58 : Int32)), (.int (110 : Int32)), (.int (97 : Int32)), (.int (109 : Int32)), (.int (101 : Int32)), (.int (115 : Int32)), (.int (58 : Int32)), (.int (116 : Int32)), (.int (99 : Int32)), (.int (58 : Int32)), (.int (83 : Int32)), (.int (65 : Int32)), (.int (77 : Int32)), (.int (76 : Int32)), (.int (58 : Int32)), (.int (50 : Int32)), (.int (46 : Int32)), (.int (48 : Int32)), (.int (58 : Int32)), (.int (115 : Int32)), (.int (116 : Int32)), (.int (97 : Int32)), (.int (116 : Int32)), (.int (117 : Int32)), (.int (115 : Int32)), (.int (58 : Int32)), (.int (65 : Int32)), (.int (117 : Int32)), (.int (116 : Int32)), (.int (104 : Int32)), (.int (110 : Int32)), (.int (70 : Int32)), (.int (97 : Int32)), (.int (105 : Int32)), (.int (108 : Int32)), (.int (0 : Int32)), (.int (0 : Int32))] (.int (0 : Int32)) := V89
  show Goes _ _ _ _ _ _ (T89.setTop (mkF m 262 #[] [(.ref b1)]))
  refine own_dup X89 hx (hb hby d8_262) rfl ?_
  refine own_bipush X89 hx (v := (44 : Int32)) (hb hby d8_263) rfl ?_
  refine own_bipush X89 hx (v := (101 : Int32)) (hb hby d8_265) rfl ?_
  show Goes _ _ _ _ _ _ (T89.setTop (mkF m 267 #[] [(.int (101 : Int32)), (.int (44 : Int32)), (.ref b1), (.ref b1)]))
  refine own_castore X89 hx hZ N89 e89 V89' ⟨by decide, by decide⟩ (i := 44) rfl (by first | decide | (simp; done)) ge_b1 (hb hby d8_267) (fun T91 h91 lc91 X91 e91 N91 W91 V91 => ?_)
  have O92 := O90.wr W91 ge_b1
  have KC92 := KC90.wr W91 (Or.inr sz_b1)
  have V91' : Arv Z h91 b1 k1 .char (46 : Int32) [(.int (117 : Int32)), (.int (114 : Int32)), (.int (110 : Int32)), (.int (58 : Int32)), (.int (111 : Int32)), (.int (97 : Int32)), (.int (115 : Int32)), (.int (105 : Int32)), (.int (115 : Int32)), (.int (58 : Int32)), (.int (110 : Int32)), (.int (97 : Int32)), (.int (109 : Int32)), (.int (101 : Int32)), (.int (115 : Int32)), (.int (58 : Int32)), (.int (116 : Int32)), (.int (99 : Int32)), (.int (58 : Int32)), (.int (83 : Int32)), (.int (65 : Int32)), (.int (77 : Int32)), (.int (76 : Int32)), (.int (58 : Int32)), (.int (50 : Int32)), (.int (46 : Int32)), (.int (48 : Int32)), (.int (58 : Int32)), (.int (115 : Int32)), (.int (116 : Int32)), (.int (97 : Int32)), (.int (116 : Int32)), (.int (117 : Int32)), (.int (115 : Int32)), (.int (58 : Int32)), (.int (65 : Int32)), (.int (117 : Int32)), (.int (116 : Int32)), (.int (104 : Int32)), (.int (110 : Int32)), (.int (70 : Int32)), (.int (97 : Int32)), (.int (105 : Int32)), (.int (108 : Int32)), (.int (101 : Int32)), (.int (0 : Int32))] (.int (0 : Int32)) := V91
  show Goes _ _ _ _ _ _ (T91.setTop (mkF m 268 #[] [(.ref b1)]))
  refine own_dup X91 hx (hb hby d8_268) rfl ?_
  refine own_bipush X91 hx (v := (45 : Int32)) (hb hby d8_269) rfl ?_
  refine own_bipush X91 hx (v := (100 : Int32)) (hb hby d8_271) rfl ?_
  show Goes _ _ _ _ _ _ (T91.setTop (mkF m 273 #[] [(.int (100 : Int32)), (.int (45 : Int32)), (.ref b1), (.ref b1)]))
  refine own_castore X91 hx hZ N91 e91 V91' ⟨by decide, by decide⟩ (i := 45) rfl (by first | decide | (simp; done)) ge_b1 (hb hby d8_273) (fun T93 h93 lc93 X93 e93 N93 W93 V93 => ?_)
  have O94 := O92.wr W93 ge_b1
  have KC94 := KC92.wr W93 (Or.inr sz_b1)
  have V93' : Arv Z h93 b1 k1 .char (46 : Int32) [(.int (117 : Int32)), (.int (114 : Int32)), (.int (110 : Int32)), (.int (58 : Int32)), (.int (111 : Int32)), (.int (97 : Int32)), (.int (115 : Int32)), (.int (105 : Int32)), (.int (115 : Int32)), (.int (58 : Int32)), (.int (110 : Int32)), (.int (97 : Int32)), (.int (109 : Int32)), (.int (101 : Int32)), (.int (115 : Int32)), (.int (58 : Int32)), (.int (116 : Int32)), (.int (99 : Int32)), (.int (58 : Int32)), (.int (83 : Int32)), (.int (65 : Int32)), (.int (77 : Int32)), (.int (76 : Int32)), (.int (58 : Int32)), (.int (50 : Int32)), (.int (46 : Int32)), (.int (48 : Int32)), (.int (58 : Int32)), (.int (115 : Int32)), (.int (116 : Int32)), (.int (97 : Int32)), (.int (116 : Int32)), (.int (117 : Int32)), (.int (115 : Int32)), (.int (58 : Int32)), (.int (65 : Int32)), (.int (117 : Int32)), (.int (116 : Int32)), (.int (104 : Int32)), (.int (110 : Int32)), (.int (70 : Int32)), (.int (97 : Int32)), (.int (105 : Int32)), (.int (108 : Int32)), (.int (101 : Int32)), (.int (100 : Int32))] (.int (0 : Int32)) := V93
  show Goes _ _ _ _ _ _ (T93.setTop (mkF m 274 #[] [(.ref b1)]))
  exact own_retR X93 hx N93 hlk (by decide) (by decide) hret rfl rfl rfl (hb hby d8_274) (by rw [e93]; exact ⟨b1, k1, rfl, KC94, V93', sz_b1⟩)
theorem d15_0 : decode jdk_43_method_3_code 0 = .ok (.iload_n 0, 1) := by decide +kernel
theorem d15_1 : decode jdk_43_method_3_code 1 = .ok (.sipush 255, 3) := by decide +kernel
theorem d15_4 : decode jdk_43_method_3_code 4 = .ok (.if_icmp .gt 7, 3) := by decide +kernel
theorem d15_7 : decode jdk_43_method_3_code 7 = .ok (.iconst 1, 1) := by decide +kernel
theorem d15_8 : decode jdk_43_method_3_code 8 = .ok (.goto 4, 3) := by decide +kernel
theorem d15_12 : decode jdk_43_method_3_code 12 = .ok (.ireturn, 1) := by decide +kernel
theorem pn_2 : plainName "java/lang/StringLatin1" = true := by first | (simp [plainName, overriddenIn]; done) | decide +kernel
def Q15 (Z : State) (p1 : Int32) (h0 : Heap) (n0 : Nat) (v : Option Value) (h : Heap) : Prop :=
  (v = some (.int (1 : Int32)) ∧ h = h0)
theorem ef_15 (m : MethodId) (p1 : Int32) : entryFrame m #[(.int p1)] 1 = mkF m 0 #[.val (.int p1)] [] := by first | (simp [entryFrame, mkF, argsToLocals, Value.category]; done) | rfl
set_option maxRecDepth 65536 in
set_option maxHeartbeats 40000000 in
theorem rm15 (l : Launch) (Z : State) (a0 : Array Value) (hw : ∀ d ∈ tables_1, d.before a0 Z = true) (ws : List Jvm.Cond) (p1 : Int32) (h0 : Heap) (n0 : Nat) (O0 : Old Z n0 h0) (hp : ¬ (p1 < (0 : Int32)) ∧ ¬ ((255 : Int32) < p1)) :
    Meets l (⟨"java/lang/StringLatin1", "canEncode", "(C)Z"⟩ : MethodName) jdk_43_method_3_code 1 (some .boolean) ws ({ frames := 0, cells := 0, slots := 0, locals := 0 } : Room) ({ frames := 0, cells := 0, slots := 0, locals := 0 } : Room).cells ({ frames := 0, cells := 0, slots := 0, locals := 0 } : Room).slots Z #[(.int p1)] h0 n0 (Q15 Z p1 h0 n0) := by
  refine Meets.of (F := fun m => mkF m 0 #[.val (.int p1)] []) (plainFor_of_name pn_2) (fun m => ef_15 m p1) ?_
  intro p e s m below meth c T0 hx hby hml hown0 hnm hret hlk hZ X0 e0
  have hown : s.vm.findClass "java/lang/StringLatin1" = some m.cls := hown0
  have N0 := Fr.nil n0
  show Goes _ _ _ _ _ _ (T0.setTop (mkF m 0 #[.val (.int p1)] []))
  refine own_iloadN X0 hx (hb hby d15_0) rfl ?_
  refine own_sipush X0 hx (v := (255 : Int32)) (hb hby d15_1) rfl ?_
  refine own_icmpNo X0 hx (hb hby d15_4) (flt (hp.2 : ¬ ((255 : Int32) < p1))).2.2.1 ?_
  show Goes _ _ _ _ _ _ (T0.setTop (mkF m 7 #[.val (.int p1)] []))
  refine own_iconst X0 hx (v := (1 : Int32)) (hb hby d15_7) rfl ?_
  refine own_goto X0 hx (pc' := 12) (hb hby d15_8) (by decide) (by decide) ?_
  show Goes _ _ _ _ _ _ (T0.setTop (mkF m 12 #[.val (.int p1)] [(.int (1 : Int32))]))
  exact own_retN X0 hx (t := .boolean) N0 hlk (by decide) (by decide) hret (by simp) (hb hby d15_12) (by rw [e0]; exact ⟨rfl, rfl⟩)
theorem d16_0 : decode jdk_43_method_46_code 0 = .ok (.iconst 1, 1) := by decide +kernel
theorem d16_1 : decode jdk_43_method_46_code 1 = .ok (.newarray .byte, 2) := by decide +kernel
theorem d16_3 : decode jdk_43_method_46_code 3 = .ok (.dup, 1) := by decide +kernel
theorem d16_4 : decode jdk_43_method_46_code 4 = .ok (.iconst 0, 1) := by decide +kernel
theorem d16_5 : decode jdk_43_method_46_code 5 = .ok (.iload_n 0, 1) := by decide +kernel
theorem d16_6 : decode jdk_43_method_46_code 6 = .ok (.i2b, 1) := by decide +kernel
theorem d16_7 : decode jdk_43_method_46_code 7 = .ok (.bastore, 1) := by decide +kernel
theorem d16_8 : decode jdk_43_method_46_code 8 = .ok (.areturn, 1) := by decide +kernel
def Q16 (Z : State) (p1 : Int32) (h0 : Heap) (n0 : Nat) (v : Option Value) (h : Heap) : Prop :=
  (∃ (b : Addr) (k : ClassId), v = some (.ref b) ∧ Keep h0 h [] ∧ Arv Z h b k .byte (1 : Int32) [(.int (nar .byte (p1.toInt8.toInt32)))] (.int (0 : Int32)) ∧ h0.size ≤ b)
theorem ef_16 (m : MethodId) (p1 : Int32) : entryFrame m #[(.int p1)] 1 = mkF m 0 #[.val (.int p1)] [] := by first | (simp [entryFrame, mkF, argsToLocals, Value.category]; done) | rfl
set_option maxRecDepth 65536 in
set_option maxHeartbeats 40000000 in
theorem rm16 (l : Launch) (Z : State) (a0 : Array Value) (hw : ∀ d ∈ tables_1, d.before a0 Z = true) (ws : List Jvm.Cond) (p1 : Int32) (h0 : Heap) (n0 : Nat) (O0 : Old Z n0 h0) :
    Meets l (⟨"java/lang/StringLatin1", "toBytes", "(C)[B"⟩ : MethodName) jdk_43_method_46_code 1 (some (.array .byte)) ws ({ frames := 0, cells := 1, slots := 1, locals := 0 } : Room) ({ frames := 0, cells := 1, slots := 1, locals := 0 } : Room).cells ({ frames := 0, cells := 1, slots := 1, locals := 0 } : Room).slots Z #[(.int p1)] h0 n0 (Q16 Z p1 h0 n0) := by
  refine Meets.of (F := fun m => mkF m 0 #[.val (.int p1)] []) (plainFor_of_name pn_2) (fun m => ef_16 m p1) ?_
  intro p e s m below meth c T0 hx hby hml hown0 hnm hret hlk hZ X0 e0
  have hown : s.vm.findClass "java/lang/StringLatin1" = some m.cls := hown0
  have N0 := Fr.nil n0
  have KC0 := Keep.refl h0 []
  show Goes _ _ _ _ _ _ (T0.setTop (mkF m 0 #[.val (.int p1)] []))
  refine own_iconst X0 hx (v := (1 : Int32)) (hb hby d16_0) rfl ?_
  refine own_newP X0 hx hZ (hw _ (List.mem_of_getElem? (i := 23) rfl)) e0 (hb hby d16_1) (by decide) (cap := 1) (by decide) (by decide) (by decide) (by decide) (fun T1 h1 b1 k1 g1 X1 e1 E1 A1 => ?_)
  have ge_b1 : n0 ≤ b1 := Nat.le_trans (own_sz O0) (Nat.le_of_eq g1.symm)
  have sz_b1 : h0.size ≤ b1 := Nat.le_trans KC0.1 (Nat.le_of_eq g1.symm)
  have O2 := O0.ext E1
  have KC2 := KC0.ext E1
  have V1 : Arv Z h1 b1 k1 .byte (1 : Int32) [(.int (0 : Int32))] (.int (0 : Int32)) := A1.pad (pad_rep [] (.int (0 : Int32)) 1)
  show Goes _ _ _ _ _ _ (T1.setTop (mkF m 3 #[.val (.int p1)] [(.ref b1)]))
  refine own_dup X1 hx (hb hby d16_3) rfl ?_
  refine own_iconst X1 hx (v := (0 : Int32)) (hb hby d16_4) rfl ?_
  refine own_iloadN X1 hx (hb hby d16_5) rfl ?_
  show Goes _ _ _ _ _ _ (T1.setTop (mkF m 6 #[.val (.int p1)] [(.int p1), (.int (0 : Int32)), (.ref b1), (.ref b1)]))
  refine own_i2b X1 hx (hb hby d16_6) ?_
  refine own_bastore X1 hx hZ N0 e1 V1 ⟨by decide, by decide⟩ (i := 0) rfl (by first | decide | (simp; done)) ge_b1 (hb hby d16_7) (fun T3 h3 lc3 X3 e3 N3 W3 V3 => ?_)
  have O4 := O2.wr W3 ge_b1
  have KC4 := KC2.wr W3 (Or.inr sz_b1)
  have V3' : Arv Z h3 b1 k1 .byte (1 : Int32) [(.int ((p1.toInt8.toInt32).toInt8.toInt32))] (.int (0 : Int32)) := V3
  show Goes _ _ _ _ _ _ (T3.setTop (mkF m 8 #[.val (.int p1)] [(.ref b1)]))
  exact own_retR X3 hx N3 hlk (by decide) (by decide) hret rfl rfl rfl (hb hby d16_8) (by rw [e3]; exact ⟨b1, k1, rfl, KC4, V3', sz_b1⟩)
theorem d17_0 : decode jdk_42_method_151_code 0 = .ok (.aload_n 0, 1) := by decide +kernel
theorem d17_1 : decode jdk_42_method_151_code 1 = .ok (.invokespecial 1, 3) := by decide +kernel
theorem d17_4 : decode jdk_42_method_151_code 4 = .ok (.aload_n 0, 1) := by decide +kernel
theorem d17_5 : decode jdk_42_method_151_code 5 = .ok (.aload_n 1, 1) := by decide +kernel
theorem d17_6 : decode jdk_42_method_151_code 6 = .ok (.putfield 9, 3) := by decide +kernel
theorem d17_9 : decode jdk_42_method_151_code 9 = .ok (.aload_n 0, 1) := by decide +kernel
theorem d17_10 : decode jdk_42_method_151_code 10 = .ok (.iload_n 2, 1) := by decide +kernel
theorem d17_11 : decode jdk_42_method_151_code 11 = .ok (.putfield 15, 3) := by decide +kernel
theorem d17_14 : decode jdk_42_method_151_code 14 = .ok (.return_, 1) := by decide +kernel
theorem pn_3 : plainName "java/lang/String" = true := by first | (simp [plainName, overriddenIn]; done) | decide +kernel
def Q17 (Z : State) (a1 : Addr) (a2 : Addr) (u1 : Value) (u2 : Value) (h0 : Heap) (n0 : Nat) (v : Option Value) (h : Heap) : Prop :=
  (v = none ∧ Keep h0 h [a1] ∧ Exa Z h a1 "java/lang/String" ∧ Fld Z h a1 "java/lang/String" "value" "[B" (.ref a2) ∧ Fld Z h a1 "java/lang/String" "coder" "B" (.int (0 : Int32)))
theorem ef_17 (m : MethodId) (a1 : Addr) (a2 : Addr) : entryFrame m #[(.ref a1), (.ref a2), (.int (0 : Int32))] 3 = mkF m 0 #[.val (.ref a1), .val (.ref a2), .val (.int (0 : Int32))] [] := by first | (simp [entryFrame, mkF, argsToLocals, Value.category]; done) | rfl
set_option maxRecDepth 65536 in
set_option maxHeartbeats 40000000 in
theorem rm17 (l : Launch) (Z : State) (a0 : Array Value) (hw : ∀ d ∈ tables_1, d.before a0 Z = true) (ws : List Jvm.Cond) (a1 : Addr) (a2 : Addr) (u1 : Value) (u2 : Value) (h0 : Heap) (n0 : Nat) (O0 : Old Z n0 h0) (f0 : Exa Z h0 a1 "java/lang/String") (f1 : Fld Z h0 a1 "java/lang/String" "value" "[B" u1) (f2 : Fld Z h0 a1 "java/lang/String" "coder" "B" u2) (f3 : n0 ≤ a1) :
    Meets l (⟨"java/lang/String", "<init>", "([BB)V"⟩ : MethodName) jdk_42_method_151_code 3 none ws ({ frames := 1, cells := 0, slots := 0, locals := 12 } : Room) ({ frames := 1, cells := 0, slots := 0, locals := 12 } : Room).cells ({ frames := 1, cells := 0, slots := 0, locals := 12 } : Room).slots Z #[(.ref a1), (.ref a2), (.int (0 : Int32))] h0 n0 (Q17 Z a1 a2 u1 u2 h0 n0) := by
  refine Meets.of (F := fun m => mkF m 0 #[.val (.ref a1), .val (.ref a2), .val (.int (0 : Int32))] []) (plainFor_of_name pn_3) (fun m => ef_17 m a1 a2) ?_
  intro p e s m below meth c T0 hx hby hml hown0 hnm hret hlk hZ X0 e0
  have hown : s.vm.findClass "java/lang/String" = some m.cls := hown0
  have N0 := Fr.nil n0
  have KC0 := Keep.refl h0 [a1]
  show Goes _ _ _ _ _ _ (T0.setTop (mkF m 0 #[.val (.ref a1), .val (.ref a2), .val (.int (0 : Int32))] []))
  refine own_aloadN X0 hx (hb hby d17_0) rfl rfl ?_
  refine own_initO X0 hx hZ hown (hw _ (List.mem_of_getElem? (i := 15) rfl)) (hw _ (List.mem_of_getElem? (i := 16) rfl)) (hw _ (List.mem_of_getElem? (i := 17) rfl)) e0 (by rw [hml]; rfl) (hb hby d17_1) (by decide) (W := 0) (Nat.le_of_eq rfl) (by decide) (fun T1 X1 e1 => ?_)
  show Goes _ _ _ _ _ _ (T1.setTop (mkF m 4 #[.val (.ref a1), .val (.ref a2), .val (.int (0 : Int32))] []))
  refine own_aloadN X1 hx (hb hby d17_4) rfl rfl ?_
  refine own_aloadN X1 hx (hb hby d17_5) rfl rfl ?_
  refine own_putF X1 hx hZ hown N0 (host := "") (Or.inl (hw _ (List.mem_of_getElem? (i := 32) rfl))) Via.refl e1 f1 f0 (Or.inr ⟨(hw _ (List.mem_of_getElem? (i := 33) rfl)), rfl, hnm⟩) (hw _ (List.mem_of_getElem? (i := 1) rfl)) (ty := (.array .byte)) (by decide) rfl rfl f3 (hb hby d17_6) (fun T2 h2 lc2 X2 e2 N2 W2 => ?_)
  have E3_a1 := f0.wr W2
  have F3_value_a1 := f1.same W2
  have F3_coder_a1 := f2.other W2 (Or.inr (slot_ne (Or.inr (hw _ (List.mem_of_getElem? (i := 31) rfl))) (Or.inr (hw _ (List.mem_of_getElem? (i := 33) rfl))) (by decide) (t := .byte) (t' := (.array .byte)) (by decide) (by decide)))
  have O3 := O0.wr W2 f3
  have KC3 := KC0.wr W2 (Or.inl (List.mem_of_getElem? (i := 0) rfl))
  show Goes _ _ _ _ _ _ (T2.setTop (mkF m 9 #[.val (.ref a1), .val (.ref a2), .val (.int (0 : Int32))] []))
  refine own_aloadN X2 hx (hb hby d17_9) rfl rfl ?_
  refine own_iloadN X2 hx (hb hby d17_10) rfl ?_
  refine own_putF X2 hx hZ hown N2 (host := "") (Or.inl (hw _ (List.mem_of_getElem? (i := 30) rfl))) Via.refl e2 F3_coder_a1 E3_a1 (Or.inr ⟨(hw _ (List.mem_of_getElem? (i := 31) rfl)), rfl, hnm⟩) (hw _ (List.mem_of_getElem? (i := 1) rfl)) (ty := .byte) (by decide) rfl rfl f3 (hb hby d17_11) (fun T4 h4 lc4 X4 e4 N4 W4 => ?_)
  have E5_a1 := E3_a1.wr W4
  have F5_value_a1 := F3_value_a1.other W4 (Or.inr (slot_ne (Or.inr (hw _ (List.mem_of_getElem? (i := 33) rfl))) (Or.inr (hw _ (List.mem_of_getElem? (i := 31) rfl))) (by decide) (t := (.array .byte)) (t' := .byte) (by decide) (by decide)))
  have F5_coder_a1 := F3_coder_a1.same W4
  have O5 := O3.wr W4 f3
  have KC5 := KC3.wr W4 (Or.inl (List.mem_of_getElem? (i := 0) rfl))
  show Goes _ _ _ _ _ _ (T4.setTop (mkF m 14 #[.val (.ref a1), .val (.ref a2), .val (.int (0 : Int32))] []))
  exact own_retV X4 hx N4 hlk (by decide) (by decide) hret (hb hby d17_14) (by rw [e4]; exact ⟨rfl, KC5, E5_a1, F5_value_a1, F5_coder_a1⟩)
theorem d14_0 : decode jdk_42_method_139_code 0 = .ok (.getstatic 38, 3) := by decide +kernel
theorem d14_3 : decode jdk_42_method_139_code 3 = .ok (.ifCond .eq 23, 3) := by decide +kernel
theorem d14_6 : decode jdk_42_method_139_code 6 = .ok (.iload_n 0, 1) := by decide +kernel
theorem d14_7 : decode jdk_42_method_139_code 7 = .ok (.invokestatic 1015, 3) := by decide +kernel
theorem pd_0 : parseMethodDescriptor "(C)Z" = some ⟨[.char], some .boolean⟩ := by decide +kernel
theorem d14_10 : decode jdk_42_method_139_code 10 = .ok (.ifCond .eq 16, 3) := by decide +kernel
theorem d14_13 : decode jdk_42_method_139_code 13 = .ok (.new 10, 3) := by decide +kernel
theorem d14_16 : decode jdk_42_method_139_code 16 = .ok (.dup, 1) := by decide +kernel
theorem d14_17 : decode jdk_42_method_139_code 17 = .ok (.iload_n 0, 1) := by decide +kernel
theorem d14_18 : decode jdk_42_method_139_code 18 = .ok (.invokestatic 1018, 3) := by decide +kernel
theorem pd_1 : parseMethodDescriptor "(C)[B" = some ⟨[.char], some (.array .byte)⟩ := by decide +kernel
theorem d14_21 : decode jdk_42_method_139_code 21 = .ok (.iconst 0, 1) := by decide +kernel
theorem d14_22 : decode jdk_42_method_139_code 22 = .ok (.invokespecial 209, 3) := by decide +kernel
theorem pd_2 : parseMethodDescriptor "([BB)V" = some ⟨[(.array .byte), .byte], none⟩ := by decide +kernel
theorem d14_25 : decode jdk_42_method_139_code 25 = .ok (.areturn, 1) := by decide +kernel
def Q14 (Z : State) (p1 : Int32) (zc : Int32) (h0 : Heap) (n0 : Nat) (v : Option Value) (h : Heap) : Prop :=
  (∃ (b : Addr), v = some (.ref b) ∧ Keep h0 h [] ∧ IsStr Z h b [p1] ∧ h0.size ≤ b)
theorem ef_14 (m : MethodId) (p1 : Int32) : entryFrame m #[(.int p1)] 1 = mkF m 0 #[.val (.int p1)] [] := by first | (simp [entryFrame, mkF, argsToLocals, Value.category]; done) | rfl
set_option maxRecDepth 65536 in
set_option maxHeartbeats 40000000 in
theorem rm14 (l : Launch) (Z : State) (a0 : Array Value) (hw : ∀ d ∈ tables_1, d.before a0 Z = true) (ws : List Jvm.Cond) (p1 : Int32) (zc : Int32) (h0 : Heap) (n0 : Nat) (O0 : Old Z n0 h0) (SF : Start Z zc) (hp : ¬ (p1 < (0 : Int32)) ∧ ¬ ((255 : Int32) < p1)) :
    Meets l (⟨"java/lang/String", "valueOf", "(C)Ljava/lang/String;"⟩ : MethodName) jdk_42_method_139_code 1 (some (.object "java/lang/String")) ws ({ frames := 2, cells := 2, slots := 5, locals := 27 } : Room) ({ frames := 2, cells := 2, slots := 5, locals := 27 } : Room).cells ({ frames := 2, cells := 2, slots := 5, locals := 27 } : Room).slots Z #[(.int p1)] h0 n0 (Q14 Z p1 zc h0 n0) := by
  refine Meets.of (F := fun m => mkF m 0 #[.val (.int p1)] []) (plainFor_of_name pn_3) (fun m => ef_14 m p1) ?_
  intro p e s m below meth c T0 hx hby hml hown0 hnm hret hlk hZ X0 e0
  have hown : s.vm.findClass "java/lang/String" = some m.cls := hown0
  have N0 := Fr.nil n0
  have KC0 := Keep.refl h0 []
  obtain ⟨z0, hzc, -⟩ := SF
  show Goes _ _ _ _ _ _ (T0.setTop (mkF m 0 #[.val (.int p1)] []))
  refine own_getS X0 hx hZ hown (host := "") (Or.inl (hw _ (List.mem_of_getElem? (i := 18) rfl))) Via.refl e0 (z0.ext O0.2) (hb hby d14_0) (fun T1 X1 e1 => ?_)
  show Goes _ _ _ _ _ _ (T1.setTop (mkF m 3 #[.val (.int p1)] [(.int zc)]))
  refine own_ifNo X1 hx (hb hby d14_3) ((if0 _ _).trans (feq (hzc : ¬ (zc = (0 : Int32)))).1) ?_
  show Goes _ _ _ _ _ _ (T1.setTop (mkF m 6 #[.val (.int p1)] []))
  refine own_iloadN X1 hx (hb hby d14_6) rfl ?_
  refine own_callS X1 hx hZ hown (y := (⟨"java/lang/StringLatin1", "canEncode", "(C)Z"⟩ : MethodName)) (hw _ (List.mem_of_getElem? (i := 80) rfl)) (hw _ (List.mem_of_getElem? (i := 81) rfl)) (hw _ (List.mem_of_getElem? (i := 72) rfl)) (hw _ (List.mem_of_getElem? (i := 82) rfl)) (by decide) (W := 0) (by decide) (by decide) N0 e1 (by rw [hml]; rfl) (argsL := [(.int p1)]) (rest := []) (lenOf pd_0 rfl) (Nat.le_of_eq rfl) (by decide) (by decide) (rm15 l Z a0 hw [] p1 h0 n0 O0 hp) rfl (hb hby d14_7) ?_
  intro v2 T2 lc2 X2 N2 hQ2
  obtain ⟨rfl, e2⟩ := hQ2
  show Goes _ _ _ _ _ _ (T2.setTop (mkF m 10 #[.val (.int p1)] [(.int (1 : Int32))]))
  refine own_ifNo X2 hx (hb hby d14_10) ((if0 _ _).trans (feq (by decide : ¬ ((1 : Int32) = (0 : Int32)))).1) ?_
  show Goes _ _ _ _ _ _ (T2.setTop (mkF m 13 #[.val (.int p1)] []))
  refine own_new X2 hx hZ hown (hw _ (List.mem_of_getElem? (i := 69) rfl)) (hw _ (List.mem_of_getElem? (i := 1) rfl)) (hw _ (List.mem_of_getElem? (i := 2) rfl)) e2 (hb hby d14_13) (by decide) (by decide) (fun T3 h3 b3 g3 X3 e3 E3 A3 D3 => ?_)
  have ge_b3 : n0 ≤ b3 := Nat.le_trans (own_sz O0) (Nat.le_of_eq g3.symm)
  have sz_b3 : h0.size ≤ b3 := Nat.le_trans KC0.1 (Nat.le_of_eq g3.symm)
  have O4 := O0.ext E3
  have KC4 := KC0.ext E3
  have F3_coder_b3 : Fld Z h3 b3 "java/lang/String" "coder" "B" (.int (0 : Int32)) := D3 (Or.inr (hw _ (List.mem_of_getElem? (i := 31) rfl))) (ty := .byte) (by decide)
  have F3_value_b3 : Fld Z h3 b3 "java/lang/String" "value" "[B" .null := D3 (Or.inr (hw _ (List.mem_of_getElem? (i := 33) rfl))) (ty := (.array .byte)) (by decide)
  show Goes _ _ _ _ _ _ (T3.setTop (mkF m 16 #[.val (.int p1)] [(.ref b3)]))
  refine own_dup X3 hx (hb hby d14_16) rfl ?_
  refine own_iloadN X3 hx (hb hby d14_17) rfl ?_
  refine own_callS X3 hx hZ hown (y := (⟨"java/lang/StringLatin1", "toBytes", "(C)[B"⟩ : MethodName)) (hw _ (List.mem_of_getElem? (i := 83) rfl)) (hw _ (List.mem_of_getElem? (i := 84) rfl)) (hw _ (List.mem_of_getElem? (i := 72) rfl)) (hw _ (List.mem_of_getElem? (i := 85) rfl)) (by decide) (W := 2) (by decide) (by decide) N2 e3 (by rw [hml]; rfl) (argsL := [(.int p1)]) (rest := [(.ref b3), (.ref b3)]) (lenOf pd_1 rfl) (Nat.le_of_eq rfl) (by decide) (by decide) (rm16 l Z a0 hw [] p1 h3 n0 O4) rfl (hb hby d14_18) ?_
  intro v5 T5 lc5 X5 N5 hQ5
  obtain ⟨b_5, k_5, rfl, K5, r5_0, r5_1⟩ := hQ5
  have E6_b3 := A3.keep K5
  have F6_coder_b3 := F3_coder_b3.keep K5 nin0
  have F6_value_b3 := F3_value_b3.keep K5 nin0
  have O6 := O4.keep K5 all0
  have KC6 := KC4.trans K5 all0
  have ne_b3_b_5 : b3 ≠ b_5 := Nat.ne_of_lt (Nat.lt_of_lt_of_le A3.lt r5_1)
  have ge_b_5 : n0 ≤ b_5 := Nat.le_trans (own_sz O4) r5_1
  have sz_b_5 : h0.size ≤ b_5 := Nat.le_trans KC4.1 r5_1
  show Goes _ _ _ _ _ _ (T5.setTop (mkF m 21 #[.val (.int p1)] [(.ref b_5), (.ref b3), (.ref b3)]))
  refine own_iconst X5 hx (v := (0 : Int32)) (hb hby d14_21) rfl ?_
  refine own_special X5 hx hZ hown (y := (⟨"java/lang/String", "<init>", "([BB)V"⟩ : MethodName)) rfl (hw _ (List.mem_of_getElem? (i := 86) rfl)) (hw _ (List.mem_of_getElem? (i := 87) rfl)) (hw _ (List.mem_of_getElem? (i := 2) rfl)) (hw _ (List.mem_of_getElem? (i := 88) rfl)) (a := b3) (by decide) (W := 1) (by decide) (by decide) N5 rfl (by rw [hml]; rfl) (argsL := [(.ref b_5), (.int (0 : Int32))]) (rest := [(.ref b3)]) (lenOf pd_2 rfl) (Nat.le_of_eq rfl) (by decide) (by decide) (rm17 l Z a0 hw [] b3 b_5 (.null) ((.int (0 : Int32))) T5.heap n0 O6 E6_b3 F6_value_b3 F6_coder_b3 ge_b3) rfl (hb hby d14_22) ?_
  intro v7 T7 lc7 X7 N7 hQ7
  obtain ⟨rfl, K7, r7_0, r7_1, r7_2⟩ := hQ7
  have A8_b_5 := r5_0.keep K7 (ninS (Ne.symm ne_b3_b_5) nin0)
  have O8 := O6.keep K7 (allS ge_b3 all0)
  have KC8 := KC6.trans K7 (allS (Or.inr sz_b3) all0)
  show Goes _ _ _ _ _ _ (T7.setTop (mkF m 25 #[.val (.int p1)] [(.ref b3)]))
  exact own_retR X7 hx N7 hlk (by decide) (by decide) hret rfl rfl rfl (hb hby d14_25) (⟨b3, rfl, KC8, (own_isv hp r7_0 r7_1 r7_2 A8_b_5), sz_b3⟩)
theorem d12_0 : decode jdk_42_method_66_code 0 = .ok (.aload_n 0, 1) := by decide +kernel
theorem d12_1 : decode jdk_42_method_66_code 1 = .ok (.aload_n 1, 1) := by decide +kernel
theorem d12_2 : decode jdk_42_method_66_code 2 = .ok (.if_acmp .ne 5, 3) := by decide +kernel
theorem d12_7 : decode jdk_42_method_66_code 7 = .ok (.aload_n 1, 1) := by decide +kernel
theorem d12_8 : decode jdk_42_method_66_code 8 = .ok (.instanceof 10, 3) := by decide +kernel
theorem d12_11 : decode jdk_42_method_66_code 11 = .ok (.ifCond .eq 43, 3) := by decide +kernel
theorem d12_54 : decode jdk_42_method_66_code 54 = .ok (.iconst 0, 1) := by decide +kernel
theorem d12_55 : decode jdk_42_method_66_code 55 = .ok (.ireturn, 1) := by decide +kernel
def Q12n (Z : State) (a1 : Addr) (h0 : Heap) (n0 : Nat) (v : Option Value) (h : Heap) : Prop :=
  (v = some (.int (0 : Int32)) ∧ h = h0)
theorem ef_12n (m : MethodId) (a1 : Addr) : entryFrame m #[(.ref a1), .null] 3 = mkF m 0 #[.val (.ref a1), .val .null, .unset] [] := by first | (simp [entryFrame, mkF, argsToLocals, Value.category]; done) | rfl
set_option maxRecDepth 65536 in
set_option maxHeartbeats 40000000 in
theorem rm12n (l : Launch) (Z : State) (a0 : Array Value) (hw : ∀ d ∈ tables_1, d.before a0 Z = true) (ws : List Jvm.Cond) (a1 : Addr) (h0 : Heap) (n0 : Nat) (O0 : Old Z n0 h0) :
    Meets l (⟨"java/lang/String", "equals", "(Ljava/lang/Object;)Z"⟩ : MethodName) jdk_42_method_66_code 3 (some .boolean) ws ({ frames := 0, cells := 0, slots := 0, locals := 0 } : Room) ({ frames := 0, cells := 0, slots := 0, locals := 0 } : Room).cells ({ frames := 0, cells := 0, slots := 0, locals := 0 } : Room).slots Z #[(.ref a1), .null] h0 n0 (Q12n Z a1 h0 n0) := by
  refine Meets.of (F := fun m => mkF m 0 #[.val (.ref a1), .val .null, .unset] []) (plainFor_of_name pn_3) (fun m => ef_12n m a1) ?_
  intro p e s m below meth c T0 hx hby hml hown0 hnm hret hlk hZ X0 e0
  have hown : s.vm.findClass "java/lang/String" = some m.cls := hown0
  have N0 := Fr.nil n0
  show Goes _ _ _ _ _ _ (T0.setTop (mkF m 0 #[.val (.ref a1), .val .null, .unset] []))
  refine own_aloadN X0 hx (hb hby d12_0) rfl rfl ?_
  refine own_aloadN X0 hx (hb hby d12_1) rfl rfl ?_
  refine own_acmp X0 hx rfl rfl (same := false) (pc' := 7) (hb hby d12_2) (decide_eq_false nofun) (by decide) (by decide) ?_
  show Goes _ _ _ _ _ _ (T0.setTop (mkF m 7 #[.val (.ref a1), .val .null, .unset] []))
  refine own_aloadN X0 hx (hb hby d12_7) rfl rfl ?_
  refine own_instNull X0 hx (hb hby d12_8) ?_
  refine own_ifYes X0 hx (pc' := 54) (hb hby d12_11) ((if0 _ _).trans (teq (by decide : (0 : Int32) = (0 : Int32))).1) (by decide) (by decide) ?_
  show Goes _ _ _ _ _ _ (T0.setTop (mkF m 54 #[.val (.ref a1), .val .null, .unset] []))
  refine own_iconst X0 hx (v := (0 : Int32)) (hb hby d12_54) rfl ?_
  show Goes _ _ _ _ _ _ (T0.setTop (mkF m 55 #[.val (.ref a1), .val .null, .unset] [(.int (0 : Int32))]))
  exact own_retN X0 hx (t := .boolean) N0 hlk (by decide) (by decide) hret (by simp) (hb hby d12_55) (by rw [e0]; exact ⟨rfl, rfl⟩)
theorem d9_0 : decode prog_41_method_1_code 0 = .ok (.aload_n 0, 1) := by decide +kernel
theorem d9_1 : decode prog_41_method_1_code 1 = .ok (.invokespecial 1, 3) := by decide +kernel
theorem pd_3 : parseMethodDescriptor "()V" = some ⟨[], none⟩ := by decide +kernel
theorem d9_4 : decode prog_41_method_1_code 4 = .ok (.aload_n 1, 1) := by decide +kernel
theorem d9_5 : decode prog_41_method_1_code 5 = .ok (.ifnonnull 13, 3) := by decide +kernel
theorem d9_18 : decode prog_41_method_1_code 18 = .ok (.aload_n 0, 1) := by decide +kernel
theorem d9_19 : decode prog_41_method_1_code 19 = .ok (.aload_n 1, 1) := by decide +kernel
theorem d9_20 : decode prog_41_method_1_code 20 = .ok (.putfield 14, 3) := by decide +kernel
theorem d9_23 : decode prog_41_method_1_code 23 = .ok (.aload_n 0, 1) := by decide +kernel
theorem d9_24 : decode prog_41_method_1_code 24 = .ok (.aload_n 2, 1) := by decide +kernel
theorem d9_25 : decode prog_41_method_1_code 25 = .ok (.putfield 20, 3) := by decide +kernel
theorem d9_28 : decode prog_41_method_1_code 28 = .ok (.aload_n 0, 1) := by decide +kernel
theorem d9_29 : decode prog_41_method_1_code 29 = .ok (.aload_n 3, 1) := by decide +kernel
theorem d9_30 : decode prog_41_method_1_code 30 = .ok (.putfield 23, 3) := by decide +kernel
theorem d9_33 : decode prog_41_method_1_code 33 = .ok (.return_, 1) := by decide +kernel
theorem pn_4 : plainName "com/example/ketenwacht/ketenwacht/model/SamlStatus" = true := by first | (simp [plainName, overriddenIn]; done) | decide +kernel
def Q9 (Z : State) (a1 : Addr) (a2 : Addr) (a3 : Addr) (a4 : Addr) (u0 : Value) (u1 : Value) (u2 : Value) (h0 : Heap) (n0 : Nat) (v : Option Value) (h : Heap) : Prop :=
  (v = none ∧ Keep h0 h [a1] ∧ Exa Z h a1 "com/example/ketenwacht/ketenwacht/model/SamlStatus" ∧ Fld Z h a1 "com/example/ketenwacht/ketenwacht/model/SamlStatus" "code" "Ljava/lang/String;" (.ref a2) ∧ Fld Z h a1 "com/example/ketenwacht/ketenwacht/model/SamlStatus" "subCode" "Ljava/lang/String;" (.ref a3) ∧ Fld Z h a1 "com/example/ketenwacht/ketenwacht/model/SamlStatus" "message" "Ljava/lang/String;" (.ref a4))
theorem ef_9 (m : MethodId) (a1 : Addr) (a2 : Addr) (a3 : Addr) (a4 : Addr) : entryFrame m #[(.ref a1), (.ref a2), (.ref a3), (.ref a4)] 4 = mkF m 0 #[.val (.ref a1), .val (.ref a2), .val (.ref a3), .val (.ref a4)] [] := by first | (simp [entryFrame, mkF, argsToLocals, Value.category]; done) | rfl
set_option maxRecDepth 65536 in
set_option maxHeartbeats 40000000 in
theorem rm9 (l : Launch) (Z : State) (a0 : Array Value) (hw : ∀ d ∈ tables_1, d.before a0 Z = true) (ws : List Jvm.Cond) (a1 : Addr) (a2 : Addr) (a3 : Addr) (a4 : Addr) (u0 : Value) (u1 : Value) (u2 : Value) (h0 : Heap) (n0 : Nat) (O0 : Old Z n0 h0) (f0 : Exa Z h0 a1 "com/example/ketenwacht/ketenwacht/model/SamlStatus") (f1 : Fld Z h0 a1 "com/example/ketenwacht/ketenwacht/model/SamlStatus" "code" "Ljava/lang/String;" u0) (f2 : Fld Z h0 a1 "com/example/ketenwacht/ketenwacht/model/SamlStatus" "subCode" "Ljava/lang/String;" u1) (f3 : Fld Z h0 a1 "com/example/ketenwacht/ketenwacht/model/SamlStatus" "message" "Ljava/lang/String;" u2) (f4 : n0 ≤ a1) :
    Meets l (⟨"com/example/ketenwacht/ketenwacht/model/SamlStatus", "<init>", "(Ljava/lang/String;Ljava/lang/String;Ljava/lang/String;)V"⟩ : MethodName) prog_41_method_1_code 4 none ws ({ frames := 2, cells := 0, slots := 0, locals := 24 } : Room) ({ frames := 2, cells := 0, slots := 0, locals := 24 } : Room).cells ({ frames := 2, cells := 0, slots := 0, locals := 24 } : Room).slots Z #[(.ref a1), (.ref a2), (.ref a3), (.ref a4)] h0 n0 (Q9 Z a1 a2 a3 a4 u0 u1 u2 h0 n0) := by
  refine Meets.of (F := fun m => mkF m 0 #[.val (.ref a1), .val (.ref a2), .val (.ref a3), .val (.ref a4)] []) (plainFor_of_name pn_4) (fun m => ef_9 m a1 a2 a3 a4) ?_
  intro p e s m below meth c T0 hx hby hml hown0 hnm hret hlk hZ X0 e0
  have hown : s.vm.findClass "com/example/ketenwacht/ketenwacht/model/SamlStatus" = some m.cls := hown0
  have N0 := Fr.nil n0
  have KC0 := Keep.refl h0 [a1]
  show Goes _ _ _ _ _ _ (T0.setTop (mkF m 0 #[.val (.ref a1), .val (.ref a2), .val (.ref a3), .val (.ref a4)] []))
  refine own_aloadN X0 hx (hb hby d9_0) rfl rfl ?_
  refine own_special X0 hx hZ hown (y := (⟨"java/lang/Record", "<init>", "()V"⟩ : MethodName)) rfl (hw _ (List.mem_of_getElem? (i := 44) rfl)) (hw _ (List.mem_of_getElem? (i := 45) rfl)) (hw _ (List.mem_of_getElem? (i := 47) rfl)) (hw _ (List.mem_of_getElem? (i := 48) rfl)) (a := a1) (by decide) (W := 0) (by decide) (by decide) N0 e0 (by rw [hml]; rfl) (argsL := []) (rest := []) (lenOf pd_3 rfl) (Nat.le_of_eq rfl) (by decide) (by decide) (rm10 l Z a0 hw [] a1 h0 n0 O0) rfl (hb hby d9_1) ?_
  intro v1 T1 lc1 X1 N1 hQ1
  obtain ⟨rfl, e1⟩ := hQ1
  show Goes _ _ _ _ _ _ (T1.setTop (mkF m 4 #[.val (.ref a1), .val (.ref a2), .val (.ref a3), .val (.ref a4)] []))
  refine own_aloadN X1 hx (hb hby d9_4) rfl rfl ?_
  refine own_ifnonnullYes X1 hx (pc' := 18) (hb hby d9_5) (by decide) (by decide) ?_
  refine own_aloadN X1 hx (hb hby d9_18) rfl rfl ?_
  show Goes _ _ _ _ _ _ (T1.setTop (mkF m 19 #[.val (.ref a1), .val (.ref a2), .val (.ref a3), .val (.ref a4)] [(.ref a1)]))
  refine own_aloadN X1 hx (hb hby d9_19) rfl rfl ?_
  refine own_putF X1 hx hZ hown N1 (host := "") (Or.inl (hw _ (List.mem_of_getElem? (i := 50) rfl))) Via.refl e1 f1 f0 (Or.inr ⟨(hw _ (List.mem_of_getElem? (i := 51) rfl)), rfl, hnm⟩) (hw _ (List.mem_of_getElem? (i := 39) rfl)) (ty := (.object "java/lang/String")) (by decide) rfl rfl f4 (hb hby d9_20) (fun T2 h2 lc2 X2 e2 N2 W2 => ?_)
  have E3_a1 := f0.wr W2
  have F3_code_a1 := f1.same W2
  have F3_subCode_a1 := f2.other W2 (Or.inr (slot_ne (Or.inr (hw _ (List.mem_of_getElem? (i := 53) rfl))) (Or.inr (hw _ (List.mem_of_getElem? (i := 51) rfl))) (by decide) (t := (.object "java/lang/String")) (t' := (.object "java/lang/String")) (by decide) (by decide)))
  have F3_message_a1 := f3.other W2 (Or.inr (slot_ne (Or.inr (hw _ (List.mem_of_getElem? (i := 55) rfl))) (Or.inr (hw _ (List.mem_of_getElem? (i := 51) rfl))) (by decide) (t := (.object "java/lang/String")) (t' := (.object "java/lang/String")) (by decide) (by decide)))
  have O3 := O0.wr W2 f4
  have KC3 := KC0.wr W2 (Or.inl (List.mem_of_getElem? (i := 0) rfl))
  show Goes _ _ _ _ _ _ (T2.setTop (mkF m 23 #[.val (.ref a1), .val (.ref a2), .val (.ref a3), .val (.ref a4)] []))
  refine own_aloadN X2 hx (hb hby d9_23) rfl rfl ?_
  refine own_aloadN X2 hx (hb hby d9_24) rfl rfl ?_
  refine own_putF X2 hx hZ hown N2 (host := "") (Or.inl (hw _ (List.mem_of_getElem? (i := 52) rfl))) Via.refl e2 F3_subCode_a1 E3_a1 (Or.inr ⟨(hw _ (List.mem_of_getElem? (i := 53) rfl)), rfl, hnm⟩) (hw _ (List.mem_of_getElem? (i := 39) rfl)) (ty := (.object "java/lang/String")) (by decide) rfl rfl f4 (hb hby d9_25) (fun T4 h4 lc4 X4 e4 N4 W4 => ?_)
  have E5_a1 := E3_a1.wr W4
  have F5_code_a1 := F3_code_a1.other W4 (Or.inr (slot_ne (Or.inr (hw _ (List.mem_of_getElem? (i := 51) rfl))) (Or.inr (hw _ (List.mem_of_getElem? (i := 53) rfl))) (by decide) (t := (.object "java/lang/String")) (t' := (.object "java/lang/String")) (by decide) (by decide)))
  have F5_subCode_a1 := F3_subCode_a1.same W4
  have F5_message_a1 := F3_message_a1.other W4 (Or.inr (slot_ne (Or.inr (hw _ (List.mem_of_getElem? (i := 55) rfl))) (Or.inr (hw _ (List.mem_of_getElem? (i := 53) rfl))) (by decide) (t := (.object "java/lang/String")) (t' := (.object "java/lang/String")) (by decide) (by decide)))
  have O5 := O3.wr W4 f4
  have KC5 := KC3.wr W4 (Or.inl (List.mem_of_getElem? (i := 0) rfl))
  show Goes _ _ _ _ _ _ (T4.setTop (mkF m 28 #[.val (.ref a1), .val (.ref a2), .val (.ref a3), .val (.ref a4)] []))
  refine own_aloadN X4 hx (hb hby d9_28) rfl rfl ?_
  refine own_aloadN X4 hx (hb hby d9_29) rfl rfl ?_
  refine own_putF X4 hx hZ hown N4 (host := "") (Or.inl (hw _ (List.mem_of_getElem? (i := 54) rfl))) Via.refl e4 F5_message_a1 E5_a1 (Or.inr ⟨(hw _ (List.mem_of_getElem? (i := 55) rfl)), rfl, hnm⟩) (hw _ (List.mem_of_getElem? (i := 39) rfl)) (ty := (.object "java/lang/String")) (by decide) rfl rfl f4 (hb hby d9_30) (fun T6 h6 lc6 X6 e6 N6 W6 => ?_)
  have E7_a1 := E5_a1.wr W6
  have F7_code_a1 := F5_code_a1.other W6 (Or.inr (slot_ne (Or.inr (hw _ (List.mem_of_getElem? (i := 51) rfl))) (Or.inr (hw _ (List.mem_of_getElem? (i := 55) rfl))) (by decide) (t := (.object "java/lang/String")) (t' := (.object "java/lang/String")) (by decide) (by decide)))
  have F7_subCode_a1 := F5_subCode_a1.other W6 (Or.inr (slot_ne (Or.inr (hw _ (List.mem_of_getElem? (i := 53) rfl))) (Or.inr (hw _ (List.mem_of_getElem? (i := 55) rfl))) (by decide) (t := (.object "java/lang/String")) (t' := (.object "java/lang/String")) (by decide) (by decide)))
  have F7_message_a1 := F5_message_a1.same W6
  have O7 := O5.wr W6 f4
  have KC7 := KC5.wr W6 (Or.inl (List.mem_of_getElem? (i := 0) rfl))
  show Goes _ _ _ _ _ _ (T6.setTop (mkF m 33 #[.val (.ref a1), .val (.ref a2), .val (.ref a3), .val (.ref a4)] []))
  exact own_retV X6 hx N6 hlk (by decide) (by decide) hret (hb hby d9_33) (by rw [e6]; exact ⟨rfl, KC7, E7_a1, F7_code_a1, F7_subCode_a1, F7_message_a1⟩)
def Q9s (Z : State) (a1 : Addr) (a2 : Addr) (a4 : Addr) (u0 : Value) (u1 : Value) (u2 : Value) (h0 : Heap) (n0 : Nat) (v : Option Value) (h : Heap) : Prop :=
  (v = none ∧ Keep h0 h [a1] ∧ Exa Z h a1 "com/example/ketenwacht/ketenwacht/model/SamlStatus" ∧ Fld Z h a1 "com/example/ketenwacht/ketenwacht/model/SamlStatus" "code" "Ljava/lang/String;" (.ref a2) ∧ Fld Z h a1 "com/example/ketenwacht/ketenwacht/model/SamlStatus" "subCode" "Ljava/lang/String;" .null ∧ Fld Z h a1 "com/example/ketenwacht/ketenwacht/model/SamlStatus" "message" "Ljava/lang/String;" (.ref a4))
theorem ef_9s (m : MethodId) (a1 : Addr) (a2 : Addr) (a4 : Addr) : entryFrame m #[(.ref a1), (.ref a2), .null, (.ref a4)] 4 = mkF m 0 #[.val (.ref a1), .val (.ref a2), .val .null, .val (.ref a4)] [] := by first | (simp [entryFrame, mkF, argsToLocals, Value.category]; done) | rfl
set_option maxRecDepth 65536 in
set_option maxHeartbeats 40000000 in
theorem rm9s (l : Launch) (Z : State) (a0 : Array Value) (hw : ∀ d ∈ tables_1, d.before a0 Z = true) (ws : List Jvm.Cond) (a1 : Addr) (a2 : Addr) (a4 : Addr) (u0 : Value) (u1 : Value) (u2 : Value) (h0 : Heap) (n0 : Nat) (O0 : Old Z n0 h0) (f0 : Exa Z h0 a1 "com/example/ketenwacht/ketenwacht/model/SamlStatus") (f1 : Fld Z h0 a1 "com/example/ketenwacht/ketenwacht/model/SamlStatus" "code" "Ljava/lang/String;" u0) (f2 : Fld Z h0 a1 "com/example/ketenwacht/ketenwacht/model/SamlStatus" "subCode" "Ljava/lang/String;" u1) (f3 : Fld Z h0 a1 "com/example/ketenwacht/ketenwacht/model/SamlStatus" "message" "Ljava/lang/String;" u2) (f4 : n0 ≤ a1) :
    Meets l (⟨"com/example/ketenwacht/ketenwacht/model/SamlStatus", "<init>", "(Ljava/lang/String;Ljava/lang/String;Ljava/lang/String;)V"⟩ : MethodName) prog_41_method_1_code 4 none ws ({ frames := 2, cells := 0, slots := 0, locals := 24 } : Room) ({ frames := 2, cells := 0, slots := 0, locals := 24 } : Room).cells ({ frames := 2, cells := 0, slots := 0, locals := 24 } : Room).slots Z #[(.ref a1), (.ref a2), .null, (.ref a4)] h0 n0 (Q9s Z a1 a2 a4 u0 u1 u2 h0 n0) := by
  refine Meets.of (F := fun m => mkF m 0 #[.val (.ref a1), .val (.ref a2), .val .null, .val (.ref a4)] []) (plainFor_of_name pn_4) (fun m => ef_9s m a1 a2 a4) ?_
  intro p e s m below meth c T0 hx hby hml hown0 hnm hret hlk hZ X0 e0
  have hown : s.vm.findClass "com/example/ketenwacht/ketenwacht/model/SamlStatus" = some m.cls := hown0
  have N0 := Fr.nil n0
  have KC0 := Keep.refl h0 [a1]
  show Goes _ _ _ _ _ _ (T0.setTop (mkF m 0 #[.val (.ref a1), .val (.ref a2), .val .null, .val (.ref a4)] []))
  refine own_aloadN X0 hx (hb hby d9_0) rfl rfl ?_
  refine own_special X0 hx hZ hown (y := (⟨"java/lang/Record", "<init>", "()V"⟩ : MethodName)) rfl (hw _ (List.mem_of_getElem? (i := 44) rfl)) (hw _ (List.mem_of_getElem? (i := 45) rfl)) (hw _ (List.mem_of_getElem? (i := 47) rfl)) (hw _ (List.mem_of_getElem? (i := 48) rfl)) (a := a1) (by decide) (W := 0) (by decide) (by decide) N0 e0 (by rw [hml]; rfl) (argsL := []) (rest := []) (lenOf pd_3 rfl) (Nat.le_of_eq rfl) (by decide) (by decide) (rm10 l Z a0 hw [] a1 h0 n0 O0) rfl (hb hby d9_1) ?_
  intro v1 T1 lc1 X1 N1 hQ1
  obtain ⟨rfl, e1⟩ := hQ1
  show Goes _ _ _ _ _ _ (T1.setTop (mkF m 4 #[.val (.ref a1), .val (.ref a2), .val .null, .val (.ref a4)] []))
  refine own_aloadN X1 hx (hb hby d9_4) rfl rfl ?_
  refine own_ifnonnullYes X1 hx (pc' := 18) (hb hby d9_5) (by decide) (by decide) ?_
  refine own_aloadN X1 hx (hb hby d9_18) rfl rfl ?_
  show Goes _ _ _ _ _ _ (T1.setTop (mkF m 19 #[.val (.ref a1), .val (.ref a2), .val .null, .val (.ref a4)] [(.ref a1)]))
  refine own_aloadN X1 hx (hb hby d9_19) rfl rfl ?_
  refine own_putF X1 hx hZ hown N1 (host := "") (Or.inl (hw _ (List.mem_of_getElem? (i := 50) rfl))) Via.refl e1 f1 f0 (Or.inr ⟨(hw _ (List.mem_of_getElem? (i := 51) rfl)), rfl, hnm⟩) (hw _ (List.mem_of_getElem? (i := 39) rfl)) (ty := (.object "java/lang/String")) (by decide) rfl rfl f4 (hb hby d9_20) (fun T2 h2 lc2 X2 e2 N2 W2 => ?_)
  have E3_a1 := f0.wr W2
  have F3_code_a1 := f1.same W2
  have F3_subCode_a1 := f2.other W2 (Or.inr (slot_ne (Or.inr (hw _ (List.mem_of_getElem? (i := 53) rfl))) (Or.inr (hw _ (List.mem_of_getElem? (i := 51) rfl))) (by decide) (t := (.object "java/lang/String")) (t' := (.object "java/lang/String")) (by decide) (by decide)))
  have F3_message_a1 := f3.other W2 (Or.inr (slot_ne (Or.inr (hw _ (List.mem_of_getElem? (i := 55) rfl))) (Or.inr (hw _ (List.mem_of_getElem? (i := 51) rfl))) (by decide) (t := (.object "java/lang/String")) (t' := (.object "java/lang/String")) (by decide) (by decide)))
  have O3 := O0.wr W2 f4
  have KC3 := KC0.wr W2 (Or.inl (List.mem_of_getElem? (i := 0) rfl))
  show Goes _ _ _ _ _ _ (T2.setTop (mkF m 23 #[.val (.ref a1), .val (.ref a2), .val .null, .val (.ref a4)] []))
  refine own_aloadN X2 hx (hb hby d9_23) rfl rfl ?_
  refine own_aloadN X2 hx (hb hby d9_24) rfl rfl ?_
  refine own_putF X2 hx hZ hown N2 (host := "") (Or.inl (hw _ (List.mem_of_getElem? (i := 52) rfl))) Via.refl e2 F3_subCode_a1 E3_a1 (Or.inr ⟨(hw _ (List.mem_of_getElem? (i := 53) rfl)), rfl, hnm⟩) (hw _ (List.mem_of_getElem? (i := 39) rfl)) (ty := (.object "java/lang/String")) (by decide) rfl rfl f4 (hb hby d9_25) (fun T4 h4 lc4 X4 e4 N4 W4 => ?_)
  have E5_a1 := E3_a1.wr W4
  have F5_code_a1 := F3_code_a1.other W4 (Or.inr (slot_ne (Or.inr (hw _ (List.mem_of_getElem? (i := 51) rfl))) (Or.inr (hw _ (List.mem_of_getElem? (i := 53) rfl))) (by decide) (t := (.object "java/lang/String")) (t' := (.object "java/lang/String")) (by decide) (by decide)))
  have F5_subCode_a1 := F3_subCode_a1.same W4
  have F5_message_a1 := F3_message_a1.other W4 (Or.inr (slot_ne (Or.inr (hw _ (List.mem_of_getElem? (i := 55) rfl))) (Or.inr (hw _ (List.mem_of_getElem? (i := 53) rfl))) (by decide) (t := (.object "java/lang/String")) (t' := (.object "java/lang/String")) (by decide) (by decide)))
  have O5 := O3.wr W4 f4
  have KC5 := KC3.wr W4 (Or.inl (List.mem_of_getElem? (i := 0) rfl))
  show Goes _ _ _ _ _ _ (T4.setTop (mkF m 28 #[.val (.ref a1), .val (.ref a2), .val .null, .val (.ref a4)] []))
  refine own_aloadN X4 hx (hb hby d9_28) rfl rfl ?_
  refine own_aloadN X4 hx (hb hby d9_29) rfl rfl ?_
  refine own_putF X4 hx hZ hown N4 (host := "") (Or.inl (hw _ (List.mem_of_getElem? (i := 54) rfl))) Via.refl e4 F5_message_a1 E5_a1 (Or.inr ⟨(hw _ (List.mem_of_getElem? (i := 55) rfl)), rfl, hnm⟩) (hw _ (List.mem_of_getElem? (i := 39) rfl)) (ty := (.object "java/lang/String")) (by decide) rfl rfl f4 (hb hby d9_30) (fun T6 h6 lc6 X6 e6 N6 W6 => ?_)
  have E7_a1 := E5_a1.wr W6
  have F7_code_a1 := F5_code_a1.other W6 (Or.inr (slot_ne (Or.inr (hw _ (List.mem_of_getElem? (i := 51) rfl))) (Or.inr (hw _ (List.mem_of_getElem? (i := 55) rfl))) (by decide) (t := (.object "java/lang/String")) (t' := (.object "java/lang/String")) (by decide) (by decide)))
  have F7_subCode_a1 := F5_subCode_a1.other W6 (Or.inr (slot_ne (Or.inr (hw _ (List.mem_of_getElem? (i := 53) rfl))) (Or.inr (hw _ (List.mem_of_getElem? (i := 55) rfl))) (by decide) (t := (.object "java/lang/String")) (t' := (.object "java/lang/String")) (by decide) (by decide)))
  have F7_message_a1 := F5_message_a1.same W6
  have O7 := O5.wr W6 f4
  have KC7 := KC5.wr W6 (Or.inl (List.mem_of_getElem? (i := 0) rfl))
  show Goes _ _ _ _ _ _ (T6.setTop (mkF m 33 #[.val (.ref a1), .val (.ref a2), .val .null, .val (.ref a4)] []))
  exact own_retV X6 hx N6 hlk (by decide) (by decide) hret (hb hby d9_33) (by rw [e6]; exact ⟨rfl, KC7, E7_a1, F7_code_a1, F7_subCode_a1, F7_message_a1⟩)
def Q9m (Z : State) (a1 : Addr) (a2 : Addr) (a3 : Addr) (u0 : Value) (u1 : Value) (u2 : Value) (h0 : Heap) (n0 : Nat) (v : Option Value) (h : Heap) : Prop :=
  (v = none ∧ Keep h0 h [a1] ∧ Exa Z h a1 "com/example/ketenwacht/ketenwacht/model/SamlStatus" ∧ Fld Z h a1 "com/example/ketenwacht/ketenwacht/model/SamlStatus" "code" "Ljava/lang/String;" (.ref a2) ∧ Fld Z h a1 "com/example/ketenwacht/ketenwacht/model/SamlStatus" "subCode" "Ljava/lang/String;" (.ref a3) ∧ Fld Z h a1 "com/example/ketenwacht/ketenwacht/model/SamlStatus" "message" "Ljava/lang/String;" .null)
theorem ef_9m (m : MethodId) (a1 : Addr) (a2 : Addr) (a3 : Addr) : entryFrame m #[(.ref a1), (.ref a2), (.ref a3), .null] 4 = mkF m 0 #[.val (.ref a1), .val (.ref a2), .val (.ref a3), .val .null] [] := by first | (simp [entryFrame, mkF, argsToLocals, Value.category]; done) | rfl
set_option maxRecDepth 65536 in
set_option maxHeartbeats 40000000 in
theorem rm9m (l : Launch) (Z : State) (a0 : Array Value) (hw : ∀ d ∈ tables_1, d.before a0 Z = true) (ws : List Jvm.Cond) (a1 : Addr) (a2 : Addr) (a3 : Addr) (u0 : Value) (u1 : Value) (u2 : Value) (h0 : Heap) (n0 : Nat) (O0 : Old Z n0 h0) (f0 : Exa Z h0 a1 "com/example/ketenwacht/ketenwacht/model/SamlStatus") (f1 : Fld Z h0 a1 "com/example/ketenwacht/ketenwacht/model/SamlStatus" "code" "Ljava/lang/String;" u0) (f2 : Fld Z h0 a1 "com/example/ketenwacht/ketenwacht/model/SamlStatus" "subCode" "Ljava/lang/String;" u1) (f3 : Fld Z h0 a1 "com/example/ketenwacht/ketenwacht/model/SamlStatus" "message" "Ljava/lang/String;" u2) (f4 : n0 ≤ a1) :
    Meets l (⟨"com/example/ketenwacht/ketenwacht/model/SamlStatus", "<init>", "(Ljava/lang/String;Ljava/lang/String;Ljava/lang/String;)V"⟩ : MethodName) prog_41_method_1_code 4 none ws ({ frames := 2, cells := 0, slots := 0, locals := 24 } : Room) ({ frames := 2, cells := 0, slots := 0, locals := 24 } : Room).cells ({ frames := 2, cells := 0, slots := 0, locals := 24 } : Room).slots Z #[(.ref a1), (.ref a2), (.ref a3), .null] h0 n0 (Q9m Z a1 a2 a3 u0 u1 u2 h0 n0) := by
  refine Meets.of (F := fun m => mkF m 0 #[.val (.ref a1), .val (.ref a2), .val (.ref a3), .val .null] []) (plainFor_of_name pn_4) (fun m => ef_9m m a1 a2 a3) ?_
  intro p e s m below meth c T0 hx hby hml hown0 hnm hret hlk hZ X0 e0
  have hown : s.vm.findClass "com/example/ketenwacht/ketenwacht/model/SamlStatus" = some m.cls := hown0
  have N0 := Fr.nil n0
  have KC0 := Keep.refl h0 [a1]
  show Goes _ _ _ _ _ _ (T0.setTop (mkF m 0 #[.val (.ref a1), .val (.ref a2), .val (.ref a3), .val .null] []))
  refine own_aloadN X0 hx (hb hby d9_0) rfl rfl ?_
  refine own_special X0 hx hZ hown (y := (⟨"java/lang/Record", "<init>", "()V"⟩ : MethodName)) rfl (hw _ (List.mem_of_getElem? (i := 44) rfl)) (hw _ (List.mem_of_getElem? (i := 45) rfl)) (hw _ (List.mem_of_getElem? (i := 47) rfl)) (hw _ (List.mem_of_getElem? (i := 48) rfl)) (a := a1) (by decide) (W := 0) (by decide) (by decide) N0 e0 (by rw [hml]; rfl) (argsL := []) (rest := []) (lenOf pd_3 rfl) (Nat.le_of_eq rfl) (by decide) (by decide) (rm10 l Z a0 hw [] a1 h0 n0 O0) rfl (hb hby d9_1) ?_
  intro v1 T1 lc1 X1 N1 hQ1
  obtain ⟨rfl, e1⟩ := hQ1
  show Goes _ _ _ _ _ _ (T1.setTop (mkF m 4 #[.val (.ref a1), .val (.ref a2), .val (.ref a3), .val .null] []))
  refine own_aloadN X1 hx (hb hby d9_4) rfl rfl ?_
  refine own_ifnonnullYes X1 hx (pc' := 18) (hb hby d9_5) (by decide) (by decide) ?_
  refine own_aloadN X1 hx (hb hby d9_18) rfl rfl ?_
  show Goes _ _ _ _ _ _ (T1.setTop (mkF m 19 #[.val (.ref a1), .val (.ref a2), .val (.ref a3), .val .null] [(.ref a1)]))
  refine own_aloadN X1 hx (hb hby d9_19) rfl rfl ?_
  refine own_putF X1 hx hZ hown N1 (host := "") (Or.inl (hw _ (List.mem_of_getElem? (i := 50) rfl))) Via.refl e1 f1 f0 (Or.inr ⟨(hw _ (List.mem_of_getElem? (i := 51) rfl)), rfl, hnm⟩) (hw _ (List.mem_of_getElem? (i := 39) rfl)) (ty := (.object "java/lang/String")) (by decide) rfl rfl f4 (hb hby d9_20) (fun T2 h2 lc2 X2 e2 N2 W2 => ?_)
  have E3_a1 := f0.wr W2
  have F3_code_a1 := f1.same W2
  have F3_subCode_a1 := f2.other W2 (Or.inr (slot_ne (Or.inr (hw _ (List.mem_of_getElem? (i := 53) rfl))) (Or.inr (hw _ (List.mem_of_getElem? (i := 51) rfl))) (by decide) (t := (.object "java/lang/String")) (t' := (.object "java/lang/String")) (by decide) (by decide)))
  have F3_message_a1 := f3.other W2 (Or.inr (slot_ne (Or.inr (hw _ (List.mem_of_getElem? (i := 55) rfl))) (Or.inr (hw _ (List.mem_of_getElem? (i := 51) rfl))) (by decide) (t := (.object "java/lang/String")) (t' := (.object "java/lang/String")) (by decide) (by decide)))
  have O3 := O0.wr W2 f4
  have KC3 := KC0.wr W2 (Or.inl (List.mem_of_getElem? (i := 0) rfl))
  show Goes _ _ _ _ _ _ (T2.setTop (mkF m 23 #[.val (.ref a1), .val (.ref a2), .val (.ref a3), .val .null] []))
  refine own_aloadN X2 hx (hb hby d9_23) rfl rfl ?_
  refine own_aloadN X2 hx (hb hby d9_24) rfl rfl ?_
  refine own_putF X2 hx hZ hown N2 (host := "") (Or.inl (hw _ (List.mem_of_getElem? (i := 52) rfl))) Via.refl e2 F3_subCode_a1 E3_a1 (Or.inr ⟨(hw _ (List.mem_of_getElem? (i := 53) rfl)), rfl, hnm⟩) (hw _ (List.mem_of_getElem? (i := 39) rfl)) (ty := (.object "java/lang/String")) (by decide) rfl rfl f4 (hb hby d9_25) (fun T4 h4 lc4 X4 e4 N4 W4 => ?_)
  have E5_a1 := E3_a1.wr W4
  have F5_code_a1 := F3_code_a1.other W4 (Or.inr (slot_ne (Or.inr (hw _ (List.mem_of_getElem? (i := 51) rfl))) (Or.inr (hw _ (List.mem_of_getElem? (i := 53) rfl))) (by decide) (t := (.object "java/lang/String")) (t' := (.object "java/lang/String")) (by decide) (by decide)))
  have F5_subCode_a1 := F3_subCode_a1.same W4
  have F5_message_a1 := F3_message_a1.other W4 (Or.inr (slot_ne (Or.inr (hw _ (List.mem_of_getElem? (i := 55) rfl))) (Or.inr (hw _ (List.mem_of_getElem? (i := 53) rfl))) (by decide) (t := (.object "java/lang/String")) (t' := (.object "java/lang/String")) (by decide) (by decide)))
  have O5 := O3.wr W4 f4
  have KC5 := KC3.wr W4 (Or.inl (List.mem_of_getElem? (i := 0) rfl))
  show Goes _ _ _ _ _ _ (T4.setTop (mkF m 28 #[.val (.ref a1), .val (.ref a2), .val (.ref a3), .val .null] []))
  refine own_aloadN X4 hx (hb hby d9_28) rfl rfl ?_
  refine own_aloadN X4 hx (hb hby d9_29) rfl rfl ?_
  refine own_putF X4 hx hZ hown N4 (host := "") (Or.inl (hw _ (List.mem_of_getElem? (i := 54) rfl))) Via.refl e4 F5_message_a1 E5_a1 (Or.inr ⟨(hw _ (List.mem_of_getElem? (i := 55) rfl)), rfl, hnm⟩) (hw _ (List.mem_of_getElem? (i := 39) rfl)) (ty := (.object "java/lang/String")) (by decide) rfl rfl f4 (hb hby d9_30) (fun T6 h6 lc6 X6 e6 N6 W6 => ?_)
  have E7_a1 := E5_a1.wr W6
  have F7_code_a1 := F5_code_a1.other W6 (Or.inr (slot_ne (Or.inr (hw _ (List.mem_of_getElem? (i := 51) rfl))) (Or.inr (hw _ (List.mem_of_getElem? (i := 55) rfl))) (by decide) (t := (.object "java/lang/String")) (t' := (.object "java/lang/String")) (by decide) (by decide)))
  have F7_subCode_a1 := F5_subCode_a1.other W6 (Or.inr (slot_ne (Or.inr (hw _ (List.mem_of_getElem? (i := 53) rfl))) (Or.inr (hw _ (List.mem_of_getElem? (i := 55) rfl))) (by decide) (t := (.object "java/lang/String")) (t' := (.object "java/lang/String")) (by decide) (by decide)))
  have F7_message_a1 := F5_message_a1.same W6
  have O7 := O5.wr W6 f4
  have KC7 := KC5.wr W6 (Or.inl (List.mem_of_getElem? (i := 0) rfl))
  show Goes _ _ _ _ _ _ (T6.setTop (mkF m 33 #[.val (.ref a1), .val (.ref a2), .val (.ref a3), .val .null] []))
  exact own_retV X6 hx N6 hlk (by decide) (by decide) hret (hb hby d9_33) (by rw [e6]; exact ⟨rfl, KC7, E7_a1, F7_code_a1, F7_subCode_a1, F7_message_a1⟩)
def Q9sm (Z : State) (a1 : Addr) (a2 : Addr) (u0 : Value) (u1 : Value) (u2 : Value) (h0 : Heap) (n0 : Nat) (v : Option Value) (h : Heap) : Prop :=
  (v = none ∧ Keep h0 h [a1] ∧ Exa Z h a1 "com/example/ketenwacht/ketenwacht/model/SamlStatus" ∧ Fld Z h a1 "com/example/ketenwacht/ketenwacht/model/SamlStatus" "code" "Ljava/lang/String;" (.ref a2) ∧ Fld Z h a1 "com/example/ketenwacht/ketenwacht/model/SamlStatus" "subCode" "Ljava/lang/String;" .null ∧ Fld Z h a1 "com/example/ketenwacht/ketenwacht/model/SamlStatus" "message" "Ljava/lang/String;" .null)
theorem ef_9sm (m : MethodId) (a1 : Addr) (a2 : Addr) : entryFrame m #[(.ref a1), (.ref a2), .null, .null] 4 = mkF m 0 #[.val (.ref a1), .val (.ref a2), .val .null, .val .null] [] := by first | (simp [entryFrame, mkF, argsToLocals, Value.category]; done) | rfl
set_option maxRecDepth 65536 in
set_option maxHeartbeats 40000000 in
theorem rm9sm (l : Launch) (Z : State) (a0 : Array Value) (hw : ∀ d ∈ tables_1, d.before a0 Z = true) (ws : List Jvm.Cond) (a1 : Addr) (a2 : Addr) (u0 : Value) (u1 : Value) (u2 : Value) (h0 : Heap) (n0 : Nat) (O0 : Old Z n0 h0) (f0 : Exa Z h0 a1 "com/example/ketenwacht/ketenwacht/model/SamlStatus") (f1 : Fld Z h0 a1 "com/example/ketenwacht/ketenwacht/model/SamlStatus" "code" "Ljava/lang/String;" u0) (f2 : Fld Z h0 a1 "com/example/ketenwacht/ketenwacht/model/SamlStatus" "subCode" "Ljava/lang/String;" u1) (f3 : Fld Z h0 a1 "com/example/ketenwacht/ketenwacht/model/SamlStatus" "message" "Ljava/lang/String;" u2) (f4 : n0 ≤ a1) :
    Meets l (⟨"com/example/ketenwacht/ketenwacht/model/SamlStatus", "<init>", "(Ljava/lang/String;Ljava/lang/String;Ljava/lang/String;)V"⟩ : MethodName) prog_41_method_1_code 4 none ws ({ frames := 2, cells := 0, slots := 0, locals := 24 } : Room) ({ frames := 2, cells := 0, slots := 0, locals := 24 } : Room).cells ({ frames := 2, cells := 0, slots := 0, locals := 24 } : Room).slots Z #[(.ref a1), (.ref a2), .null, .null] h0 n0 (Q9sm Z a1 a2 u0 u1 u2 h0 n0) := by
  refine Meets.of (F := fun m => mkF m 0 #[.val (.ref a1), .val (.ref a2), .val .null, .val .null] []) (plainFor_of_name pn_4) (fun m => ef_9sm m a1 a2) ?_
  intro p e s m below meth c T0 hx hby hml hown0 hnm hret hlk hZ X0 e0
  have hown : s.vm.findClass "com/example/ketenwacht/ketenwacht/model/SamlStatus" = some m.cls := hown0
  have N0 := Fr.nil n0
  have KC0 := Keep.refl h0 [a1]
  show Goes _ _ _ _ _ _ (T0.setTop (mkF m 0 #[.val (.ref a1), .val (.ref a2), .val .null, .val .null] []))
  refine own_aloadN X0 hx (hb hby d9_0) rfl rfl ?_
  refine own_special X0 hx hZ hown (y := (⟨"java/lang/Record", "<init>", "()V"⟩ : MethodName)) rfl (hw _ (List.mem_of_getElem? (i := 44) rfl)) (hw _ (List.mem_of_getElem? (i := 45) rfl)) (hw _ (List.mem_of_getElem? (i := 47) rfl)) (hw _ (List.mem_of_getElem? (i := 48) rfl)) (a := a1) (by decide) (W := 0) (by decide) (by decide) N0 e0 (by rw [hml]; rfl) (argsL := []) (rest := []) (lenOf pd_3 rfl) (Nat.le_of_eq rfl) (by decide) (by decide) (rm10 l Z a0 hw [] a1 h0 n0 O0) rfl (hb hby d9_1) ?_
  intro v1 T1 lc1 X1 N1 hQ1
  obtain ⟨rfl, e1⟩ := hQ1
  show Goes _ _ _ _ _ _ (T1.setTop (mkF m 4 #[.val (.ref a1), .val (.ref a2), .val .null, .val .null] []))
  refine own_aloadN X1 hx (hb hby d9_4) rfl rfl ?_
  refine own_ifnonnullYes X1 hx (pc' := 18) (hb hby d9_5) (by decide) (by decide) ?_
  refine own_aloadN X1 hx (hb hby d9_18) rfl rfl ?_
  show Goes _ _ _ _ _ _ (T1.setTop (mkF m 19 #[.val (.ref a1), .val (.ref a2), .val .null, .val .null] [(.ref a1)]))
  refine own_aloadN X1 hx (hb hby d9_19) rfl rfl ?_
  refine own_putF X1 hx hZ hown N1 (host := "") (Or.inl (hw _ (List.mem_of_getElem? (i := 50) rfl))) Via.refl e1 f1 f0 (Or.inr ⟨(hw _ (List.mem_of_getElem? (i := 51) rfl)), rfl, hnm⟩) (hw _ (List.mem_of_getElem? (i := 39) rfl)) (ty := (.object "java/lang/String")) (by decide) rfl rfl f4 (hb hby d9_20) (fun T2 h2 lc2 X2 e2 N2 W2 => ?_)
  have E3_a1 := f0.wr W2
  have F3_code_a1 := f1.same W2
  have F3_subCode_a1 := f2.other W2 (Or.inr (slot_ne (Or.inr (hw _ (List.mem_of_getElem? (i := 53) rfl))) (Or.inr (hw _ (List.mem_of_getElem? (i := 51) rfl))) (by decide) (t := (.object "java/lang/String")) (t' := (.object "java/lang/String")) (by decide) (by decide)))
  have F3_message_a1 := f3.other W2 (Or.inr (slot_ne (Or.inr (hw _ (List.mem_of_getElem? (i := 55) rfl))) (Or.inr (hw _ (List.mem_of_getElem? (i := 51) rfl))) (by decide) (t := (.object "java/lang/String")) (t' := (.object "java/lang/String")) (by decide) (by decide)))
  have O3 := O0.wr W2 f4
  have KC3 := KC0.wr W2 (Or.inl (List.mem_of_getElem? (i := 0) rfl))
  show Goes _ _ _ _ _ _ (T2.setTop (mkF m 23 #[.val (.ref a1), .val (.ref a2), .val .null, .val .null] []))
  refine own_aloadN X2 hx (hb hby d9_23) rfl rfl ?_
  refine own_aloadN X2 hx (hb hby d9_24) rfl rfl ?_
  refine own_putF X2 hx hZ hown N2 (host := "") (Or.inl (hw _ (List.mem_of_getElem? (i := 52) rfl))) Via.refl e2 F3_subCode_a1 E3_a1 (Or.inr ⟨(hw _ (List.mem_of_getElem? (i := 53) rfl)), rfl, hnm⟩) (hw _ (List.mem_of_getElem? (i := 39) rfl)) (ty := (.object "java/lang/String")) (by decide) rfl rfl f4 (hb hby d9_25) (fun T4 h4 lc4 X4 e4 N4 W4 => ?_)
  have E5_a1 := E3_a1.wr W4
  have F5_code_a1 := F3_code_a1.other W4 (Or.inr (slot_ne (Or.inr (hw _ (List.mem_of_getElem? (i := 51) rfl))) (Or.inr (hw _ (List.mem_of_getElem? (i := 53) rfl))) (by decide) (t := (.object "java/lang/String")) (t' := (.object "java/lang/String")) (by decide) (by decide)))
  have F5_subCode_a1 := F3_subCode_a1.same W4
  have F5_message_a1 := F3_message_a1.other W4 (Or.inr (slot_ne (Or.inr (hw _ (List.mem_of_getElem? (i := 55) rfl))) (Or.inr (hw _ (List.mem_of_getElem? (i := 53) rfl))) (by decide) (t := (.object "java/lang/String")) (t' := (.object "java/lang/String")) (by decide) (by decide)))
  have O5 := O3.wr W4 f4
  have KC5 := KC3.wr W4 (Or.inl (List.mem_of_getElem? (i := 0) rfl))
  show Goes _ _ _ _ _ _ (T4.setTop (mkF m 28 #[.val (.ref a1), .val (.ref a2), .val .null, .val .null] []))
  refine own_aloadN X4 hx (hb hby d9_28) rfl rfl ?_
  refine own_aloadN X4 hx (hb hby d9_29) rfl rfl ?_
  refine own_putF X4 hx hZ hown N4 (host := "") (Or.inl (hw _ (List.mem_of_getElem? (i := 54) rfl))) Via.refl e4 F5_message_a1 E5_a1 (Or.inr ⟨(hw _ (List.mem_of_getElem? (i := 55) rfl)), rfl, hnm⟩) (hw _ (List.mem_of_getElem? (i := 39) rfl)) (ty := (.object "java/lang/String")) (by decide) rfl rfl f4 (hb hby d9_30) (fun T6 h6 lc6 X6 e6 N6 W6 => ?_)
  have E7_a1 := E5_a1.wr W6
  have F7_code_a1 := F5_code_a1.other W6 (Or.inr (slot_ne (Or.inr (hw _ (List.mem_of_getElem? (i := 51) rfl))) (Or.inr (hw _ (List.mem_of_getElem? (i := 55) rfl))) (by decide) (t := (.object "java/lang/String")) (t' := (.object "java/lang/String")) (by decide) (by decide)))
  have F7_subCode_a1 := F5_subCode_a1.other W6 (Or.inr (slot_ne (Or.inr (hw _ (List.mem_of_getElem? (i := 53) rfl))) (Or.inr (hw _ (List.mem_of_getElem? (i := 55) rfl))) (by decide) (t := (.object "java/lang/String")) (t' := (.object "java/lang/String")) (by decide) (by decide)))
  have F7_message_a1 := F5_message_a1.same W6
  have O7 := O5.wr W6 f4
  have KC7 := KC5.wr W6 (Or.inl (List.mem_of_getElem? (i := 0) rfl))
  show Goes _ _ _ _ _ _ (T6.setTop (mkF m 33 #[.val (.ref a1), .val (.ref a2), .val .null, .val .null] []))
  exact own_retV X6 hx N6 hlk (by decide) (by decide) hret (hb hby d9_33) (by rw [e6]; exact ⟨rfl, KC7, E7_a1, F7_code_a1, F7_subCode_a1, F7_message_a1⟩)
theorem d11_0 : decode prog_41_method_4_code 0 = .ok (.ldc 37, 2) := by decide +kernel
theorem own_wS {Z : State} {a0 : Array Value} (hw : ∀ d ∈ tables_1, d.before a0 Z = true) : ∀ a ∈ Bundle.stringAtoms, a.before a0 Z = true := by
  intro a ha
  simp only [Bundle.stringAtoms, List.mem_cons, List.not_mem_nil, or_false] at ha
  rcases ha with rfl | rfl | rfl | rfl | rfl | rfl | rfl
  · exact (hw _ (List.mem_of_getElem? (i := 2) rfl))
  · exact (hw _ (List.mem_of_getElem? (i := 1) rfl))
  · exact (hw _ (List.mem_of_getElem? (i := 23) rfl))
  · exact (hw _ (List.mem_of_getElem? (i := 33) rfl))
  · exact (hw _ (List.mem_of_getElem? (i := 31) rfl))
  · exact (hw _ (List.mem_of_getElem? (i := 62) rfl))
  · exact (hw _ (List.mem_of_getElem? (i := 63) rfl))
theorem d11_2 : decode prog_41_method_4_code 2 = .ok (.aload_n 0, 1) := by decide +kernel
theorem d11_3 : decode prog_41_method_4_code 3 = .ok (.getfield 14, 3) := by decide +kernel
theorem d11_6 : decode prog_41_method_4_code 6 = .ok (.invokevirtual 31, 3) := by decide +kernel
theorem d11_9 : decode prog_41_method_4_code 9 = .ok (.ifCond .eq 19, 3) := by decide +kernel
theorem d11_12 : decode prog_41_method_4_code 12 = .ok (.ldc 39, 2) := by decide +kernel
theorem d11_14 : decode prog_41_method_4_code 14 = .ok (.aload_n 0, 1) := by decide +kernel
theorem d11_15 : decode prog_41_method_4_code 15 = .ok (.getfield 20, 3) := by decide +kernel
theorem d11_18 : decode prog_41_method_4_code 18 = .ok (.invokevirtual 31, 3) := by decide +kernel
theorem d11_21 : decode prog_41_method_4_code 21 = .ok (.ifCond .eq 7, 3) := by decide +kernel
theorem d11_24 : decode prog_41_method_4_code 24 = .ok (.iconst 1, 1) := by decide +kernel
theorem d11_25 : decode prog_41_method_4_code 25 = .ok (.goto 4, 3) := by decide +kernel
theorem d11_29 : decode prog_41_method_4_code 29 = .ok (.ireturn, 1) := by decide +kernel
theorem d11_28 : decode prog_41_method_4_code 28 = .ok (.iconst 0, 1) := by decide +kernel
def Q11s (Z : State) (a1 : Addr) (x : Addr) (y : Addr) (cs : List Int32) (ds : List Int32) (zc : Int32) (h0 : Heap) (n0 : Nat) (v : Option Value) (h : Heap) : Prop :=
  (v = some (.int (if cs = tx0 ∧ ds = tx1 then (1 : Int32) else (0 : Int32))))
theorem ef_11s (m : MethodId) (a1 : Addr) : entryFrame m #[(.ref a1)] 1 = mkF m 0 #[.val (.ref a1)] [] := by first | (simp [entryFrame, mkF, argsToLocals, Value.category]; done) | rfl
set_option maxRecDepth 65536 in
set_option maxHeartbeats 40000000 in
theorem rm11s (l : Launch) (Z : State) (a0 : Array Value) (hw : ∀ d ∈ tables_1, d.before a0 Z = true) (hEL : EW Z a0 consts_1) (ws : List Jvm.Cond) (a1 : Addr) (x : Addr) (y : Addr) (cs : List Int32) (ds : List Int32) (zc : Int32) (h0 : Heap) (n0 : Nat) (O0 : Old Z n0 h0) (SF : Start Z zc) (f0 : Exa Z h0 a1 "com/example/ketenwacht/ketenwacht/model/SamlStatus") (f1 : Fld Z h0 a1 "com/example/ketenwacht/ketenwacht/model/SamlStatus" "code" "Ljava/lang/String;" (.ref x)) (f2 : Fld Z h0 a1 "com/example/ketenwacht/ketenwacht/model/SamlStatus" "subCode" "Ljava/lang/String;" (.ref y)) (f3 : IsStr Z h0 x cs) (f4 : IsStr Z h0 y ds) :
    MeetsH l (⟨"com/example/ketenwacht/ketenwacht/model/SamlStatus", "isCancellation", "()Z"⟩ : MethodName) prog_41_method_4_code 1 (some .boolean) ws ({ frames := 3, cells := 4, slots := 368, locals := 40 } : Room) ({ frames := 3, cells := 4, slots := 368, locals := 40 } : Room).cells ({ frames := 3, cells := 4, slots := 368, locals := 40 } : Room).slots Z consts_1 #[(.ref a1)] h0 n0 (Q11s Z a1 x y cs ds zc h0 n0) := by
  refine MeetsH.of (F := fun m => mkF m 0 #[.val (.ref a1)] []) (plainFor_of_name pn_4) (fun m => ef_11s m a1) ?_
  intro p e s m below meth c T0 hx hby hml hown0 hnm hret hlk hZ hS0 hC0 X0 e0
  have hown : s.vm.findClass "com/example/ketenwacht/ketenwacht/model/SamlStatus" = some m.cls := hown0
  have N0 := Fr.nil n0
  have KC0 := Keep.refl h0 []
  have C0 := CHr.refl hC0
  obtain ⟨z0, hzc, -⟩ := SF
  show Goes _ _ _ _ _ _ (T0.setTop (mkF m 0 #[.val (.ref a1)] []))
  have Cc1 := C0.trans (CHr.keep KC0 (by simp) C0.1)
  refine own_ldcH X0 hx hZ hown hS0 (Nat.zero_le _) (hw _ (List.mem_of_getElem? (i := 61) rfl)) (own_wS hw) hEL (by simp [consts_1]) Cc1.1 e0 (cs := tx0) tx0_t tx0_z tx0_4 tx0_5 (n := 176) (hb hby d11_0) (by decide +kernel) (by decide) (by decide) (by decide) (fun sa2 T2 h2 k1_2 X2 hS2 hk2_ hZ hown e2 E2 D2 I2 => ?_)
  have F3_code_a1 := f1.ext E2
  have F3_subCode_a1 := f2.ext E2
  have O3 := O0.ext E2
  have KC3 := KC0.ext E2
  have IS2_x := IsStr.ext f3 E2
  have IS2_y := IsStr.ext f4 E2
  have CC2 := Cc1.trans D2
  have KB4 := Keep.refl h2 []
  show Goes _ _ _ _ _ _ (T2.setTop (mkF m 2 #[.val (.ref a1)] [(.ref sa2)]))
  refine own_aloadN X2 hx (hb hby d11_2) rfl rfl ?_
  refine own_getF X2 hx hZ hown (host := "") (Or.inl (hw _ (List.mem_of_getElem? (i := 50) rfl))) Via.refl e2 F3_code_a1 (hb hby d11_3) (fun T5 X5 e5 => ?_)
  show Goes _ _ _ _ _ _ (T5.setTop (mkF m 6 #[.val (.ref a1)] [(.ref x), (.ref sa2)]))
  refine own_strEq X5 hx hZ hown (hw _ (List.mem_of_getElem? (i := 64) rfl)) (hw _ (List.mem_of_getElem? (i := 65) rfl)) (notFace_of_selects (args := #[]) (mvT hZ (hw _ (List.mem_of_getElem? (i := 67) rfl)))) (hw _ (List.mem_of_getElem? (i := 67) rfl)) (hw _ (List.mem_of_getElem? (i := 66) rfl)) (own_wEq hw) (hw _ (List.mem_of_getElem? (i := 1) rfl)) e5 I2 IS2_x (z0.ext O3.2) hzc (W := 0) (rest := []) (by decide) (by decide) (by rw [hml]; rfl) (by decide) (by decide) (by decide) (hb hby d11_6) (fun T6 v6 X6 e6 hv6 => ?_)
  rcases hv6 with ⟨rfl, hv6⟩ | ⟨rfl, hv6⟩
  ·
    show Goes _ _ _ _ _ _ (T6.setTop (mkF m 9 #[.val (.ref a1)] [(.int (1 : Int32))]))
    refine own_ifNo X6 hx (hb hby d11_9) ((if0 _ _).trans (feq (by decide : ¬ ((1 : Int32) = (0 : Int32)))).1) ?_
    show Goes _ _ _ _ _ _ (T6.setTop (mkF m 12 #[.val (.ref a1)] []))
    have Cc7 := CC2.trans (CHr.keep KB4 (by simp) CC2.1)
    refine own_ldcH X6 hx hZ hown hS2 hk2_ (hw _ (List.mem_of_getElem? (i := 74) rfl)) (own_wS hw) hEL (by simp [consts_1]) Cc7.1 e6 (cs := tx1) tx1_t tx1_z tx1_4 tx1_5 (n := 184) (hb hby d11_12) (by decide +kernel) (by decide) (by decide) (by decide) (fun sa8 T8 h8 k1_8 X8 hS8 hk8_ hZ hown e8 E8 D8 I8 => ?_)
    have F9_subCode_a1 := F3_subCode_a1.ext E8
    have O9 := O3.ext E8
    have KC9 := KB4.ext E8
    have IS8_x := IsStr.ext IS2_x E8
    have IS8_y := IsStr.ext IS2_y E8
    have IS8_sa2 := IsStr.ext I2 E8
    have CC8 := Cc7.trans D8
    have KQ10 := KC3.trans KC9 all0
    have KB10 := Keep.refl h8 []
    show Goes _ _ _ _ _ _ (T8.setTop (mkF m 14 #[.val (.ref a1)] [(.ref sa8)]))
    refine own_aloadN X8 hx (hb hby d11_14) rfl rfl ?_
    refine own_getF X8 hx hZ hown (host := "") (Or.inl (hw _ (List.mem_of_getElem? (i := 52) rfl))) Via.refl e8 F9_subCode_a1 (hb hby d11_15) (fun T11 X11 e11 => ?_)
    show Goes _ _ _ _ _ _ (T11.setTop (mkF m 18 #[.val (.ref a1)] [(.ref y), (.ref sa8)]))
    refine own_strEq X11 hx hZ hown (hw _ (List.mem_of_getElem? (i := 64) rfl)) (hw _ (List.mem_of_getElem? (i := 65) rfl)) (notFace_of_selects (args := #[]) (mvT hZ (hw _ (List.mem_of_getElem? (i := 67) rfl)))) (hw _ (List.mem_of_getElem? (i := 67) rfl)) (hw _ (List.mem_of_getElem? (i := 66) rfl)) (own_wEq hw) (hw _ (List.mem_of_getElem? (i := 1) rfl)) e11 I8 IS8_y (z0.ext O9.2) hzc (W := 0) (rest := []) (by decide) (by decide) (by rw [hml]; rfl) (by decide) (by decide) (by decide) (hb hby d11_18) (fun T12 v12 X12 e12 hv12 => ?_)
    rcases hv12 with ⟨rfl, hv12⟩ | ⟨rfl, hv12⟩
    ·
      show Goes _ _ _ _ _ _ (T12.setTop (mkF m 21 #[.val (.ref a1)] [(.int (1 : Int32))]))
      refine own_ifNo X12 hx (hb hby d11_21) ((if0 _ _).trans (feq (by decide : ¬ ((1 : Int32) = (0 : Int32)))).1) ?_
      show Goes _ _ _ _ _ _ (T12.setTop (mkF m 24 #[.val (.ref a1)] []))
      refine own_iconst X12 hx (v := (1 : Int32)) (hb hby d11_24) rfl ?_
      refine own_goto X12 hx (pc' := 29) (hb hby d11_25) (by decide) (by decide) ?_
      show Goes _ _ _ _ _ _ (T12.setTop (mkF m 29 #[.val (.ref a1)] [(.int (1 : Int32))]))
      have Cc13 := CC8.trans (CHr.keep KB10 (by simp) CC8.1)
      exact own_retNH X12 hx (t := .boolean) hS8 (by rw [e12]; exact hk8_) hZ hEL (by rw [e12]; exact Cc13) N0 hlk (by decide) (by decide) hret (by simp) (hb hby d11_29) (by rw [e12]; exact (by unfold Q11s; rw [if_pos ⟨hv6.symm, hv12.symm⟩]; rfl))
    ·
      show Goes _ _ _ _ _ _ (T12.setTop (mkF m 21 #[.val (.ref a1)] [(.int (0 : Int32))]))
      refine own_ifYes X12 hx (pc' := 28) (hb hby d11_21) ((if0 _ _).trans (teq (by decide : (0 : Int32) = (0 : Int32))).1) (by decide) (by decide) ?_
      show Goes _ _ _ _ _ _ (T12.setTop (mkF m 28 #[.val (.ref a1)] []))
      refine own_iconst X12 hx (v := (0 : Int32)) (hb hby d11_28) rfl ?_
      show Goes _ _ _ _ _ _ (T12.setTop (mkF m 29 #[.val (.ref a1)] [(.int (0 : Int32))]))
      have Cc14 := CC8.trans (CHr.keep KB10 (by simp) CC8.1)
      exact own_retNH X12 hx (t := .boolean) hS8 (by rw [e12]; exact hk8_) hZ hEL (by rw [e12]; exact Cc14) N0 hlk (by decide) (by decide) hret (by simp) (hb hby d11_29) (by rw [e12]; exact (by unfold Q11s; rw [if_neg (fun q => hv12 q.2.symm)]; rfl))
  ·
    show Goes _ _ _ _ _ _ (T6.setTop (mkF m 9 #[.val (.ref a1)] [(.int (0 : Int32))]))
    refine own_ifYes X6 hx (pc' := 28) (hb hby d11_9) ((if0 _ _).trans (teq (by decide : (0 : Int32) = (0 : Int32))).1) (by decide) (by decide) ?_
    show Goes _ _ _ _ _ _ (T6.setTop (mkF m 28 #[.val (.ref a1)] []))
    refine own_iconst X6 hx (v := (0 : Int32)) (hb hby d11_28) rfl ?_
    show Goes _ _ _ _ _ _ (T6.setTop (mkF m 29 #[.val (.ref a1)] [(.int (0 : Int32))]))
    have Cc15 := CC2.trans (CHr.keep KB4 (by simp) CC2.1)
    exact own_retNH X6 hx (t := .boolean) hS2 (by rw [e6]; exact hk2_) hZ hEL (by rw [e6]; exact Cc15) N0 hlk (by decide) (by decide) hret (by simp) (hb hby d11_29) (by rw [e6]; exact (by unfold Q11s; rw [if_neg (fun q => hv6 q.1.symm)]; rfl))
theorem pd_4 : parseMethodDescriptor "(Ljava/lang/Object;)Z" = some ⟨[(.object "java/lang/Object")], some .boolean⟩ := by decide +kernel
def Q11n (Z : State) (a1 : Addr) (x : Addr) (cs : List Int32) (zc : Int32) (h0 : Heap) (n0 : Nat) (v : Option Value) (h : Heap) : Prop :=
  (v = some (.int (0 : Int32)))
theorem ef_11n (m : MethodId) (a1 : Addr) : entryFrame m #[(.ref a1)] 1 = mkF m 0 #[.val (.ref a1)] [] := by first | (simp [entryFrame, mkF, argsToLocals, Value.category]; done) | rfl
set_option maxRecDepth 65536 in
set_option maxHeartbeats 40000000 in
theorem rm11n (l : Launch) (Z : State) (a0 : Array Value) (hw : ∀ d ∈ tables_1, d.before a0 Z = true) (hEL : EW Z a0 consts_1) (ws : List Jvm.Cond) (a1 : Addr) (x : Addr) (cs : List Int32) (zc : Int32) (h0 : Heap) (n0 : Nat) (O0 : Old Z n0 h0) (SF : Start Z zc) (f0 : Exa Z h0 a1 "com/example/ketenwacht/ketenwacht/model/SamlStatus") (f1 : Fld Z h0 a1 "com/example/ketenwacht/ketenwacht/model/SamlStatus" "code" "Ljava/lang/String;" (.ref x)) (f2 : Fld Z h0 a1 "com/example/ketenwacht/ketenwacht/model/SamlStatus" "subCode" "Ljava/lang/String;" .null) (f3 : IsStr Z h0 x cs) :
    MeetsH l (⟨"com/example/ketenwacht/ketenwacht/model/SamlStatus", "isCancellation", "()Z"⟩ : MethodName) prog_41_method_4_code 1 (some .boolean) ws ({ frames := 3, cells := 4, slots := 368, locals := 40 } : Room) ({ frames := 3, cells := 4, slots := 368, locals := 40 } : Room).cells ({ frames := 3, cells := 4, slots := 368, locals := 40 } : Room).slots Z consts_1 #[(.ref a1)] h0 n0 (Q11n Z a1 x cs zc h0 n0) := by
  refine MeetsH.of (F := fun m => mkF m 0 #[.val (.ref a1)] []) (plainFor_of_name pn_4) (fun m => ef_11n m a1) ?_
  intro p e s m below meth c T0 hx hby hml hown0 hnm hret hlk hZ hS0 hC0 X0 e0
  have hown : s.vm.findClass "com/example/ketenwacht/ketenwacht/model/SamlStatus" = some m.cls := hown0
  have N0 := Fr.nil n0
  have KC0 := Keep.refl h0 []
  have C0 := CHr.refl hC0
  obtain ⟨z0, hzc, -⟩ := SF
  show Goes _ _ _ _ _ _ (T0.setTop (mkF m 0 #[.val (.ref a1)] []))
  have Cc1 := C0.trans (CHr.keep KC0 (by simp) C0.1)
  refine own_ldcH X0 hx hZ hown hS0 (Nat.zero_le _) (hw _ (List.mem_of_getElem? (i := 61) rfl)) (own_wS hw) hEL (by simp [consts_1]) Cc1.1 e0 (cs := tx0) tx0_t tx0_z tx0_4 tx0_5 (n := 176) (hb hby d11_0) (by decide +kernel) (by decide) (by decide) (by decide) (fun sa2 T2 h2 k1_2 X2 hS2 hk2_ hZ hown e2 E2 D2 I2 => ?_)
  have F3_code_a1 := f1.ext E2
  have F3_subCode_a1 := f2.ext E2
  have O3 := O0.ext E2
  have KC3 := KC0.ext E2
  have IS2_x := IsStr.ext f3 E2
  have CC2 := Cc1.trans D2
  have KB4 := Keep.refl h2 []
  show Goes _ _ _ _ _ _ (T2.setTop (mkF m 2 #[.val (.ref a1)] [(.ref sa2)]))
  refine own_aloadN X2 hx (hb hby d11_2) rfl rfl ?_
  refine own_getF X2 hx hZ hown (host := "") (Or.inl (hw _ (List.mem_of_getElem? (i := 50) rfl))) Via.refl e2 F3_code_a1 (hb hby d11_3) (fun T5 X5 e5 => ?_)
  show Goes _ _ _ _ _ _ (T5.setTop (mkF m 6 #[.val (.ref a1)] [(.ref x), (.ref sa2)]))
  refine own_strEq X5 hx hZ hown (hw _ (List.mem_of_getElem? (i := 64) rfl)) (hw _ (List.mem_of_getElem? (i := 65) rfl)) (notFace_of_selects (args := #[]) (mvT hZ (hw _ (List.mem_of_getElem? (i := 67) rfl)))) (hw _ (List.mem_of_getElem? (i := 67) rfl)) (hw _ (List.mem_of_getElem? (i := 66) rfl)) (own_wEq hw) (hw _ (List.mem_of_getElem? (i := 1) rfl)) e5 I2 IS2_x (z0.ext O3.2) hzc (W := 0) (rest := []) (by decide) (by decide) (by rw [hml]; rfl) (by decide) (by decide) (by decide) (hb hby d11_6) (fun T6 v6 X6 e6 hv6 => ?_)
  rcases hv6 with ⟨rfl, hv6⟩ | ⟨rfl, hv6⟩
  ·
    show Goes _ _ _ _ _ _ (T6.setTop (mkF m 9 #[.val (.ref a1)] [(.int (1 : Int32))]))
    refine own_ifNo X6 hx (hb hby d11_9) ((if0 _ _).trans (feq (by decide : ¬ ((1 : Int32) = (0 : Int32)))).1) ?_
    show Goes _ _ _ _ _ _ (T6.setTop (mkF m 12 #[.val (.ref a1)] []))
    have Cc7 := CC2.trans (CHr.keep KB4 (by simp) CC2.1)
    refine own_ldcH X6 hx hZ hown hS2 hk2_ (hw _ (List.mem_of_getElem? (i := 74) rfl)) (own_wS hw) hEL (by simp [consts_1]) Cc7.1 e6 (cs := tx1) tx1_t tx1_z tx1_4 tx1_5 (n := 184) (hb hby d11_12) (by decide +kernel) (by decide) (by decide) (by decide) (fun sa8 T8 h8 k1_8 X8 hS8 hk8_ hZ hown e8 E8 D8 I8 => ?_)
    have F9_subCode_a1 := F3_subCode_a1.ext E8
    have O9 := O3.ext E8
    have KC9 := KB4.ext E8
    have IS8_x := IsStr.ext IS2_x E8
    have IS8_sa2 := IsStr.ext I2 E8
    have CC8 := Cc7.trans D8
    have KQ10 := KC3.trans KC9 all0
    have KB10 := Keep.refl h8 []
    show Goes _ _ _ _ _ _ (T8.setTop (mkF m 14 #[.val (.ref a1)] [(.ref sa8)]))
    refine own_aloadN X8 hx (hb hby d11_14) rfl rfl ?_
    refine own_getF X8 hx hZ hown (host := "") (Or.inl (hw _ (List.mem_of_getElem? (i := 52) rfl))) Via.refl e8 F9_subCode_a1 (hb hby d11_15) (fun T11 X11 e11 => ?_)
    show Goes _ _ _ _ _ _ (T11.setTop (mkF m 18 #[.val (.ref a1)] [.null, (.ref sa8)]))
    refine own_virtual X11 hx hZ hown (y := (⟨"java/lang/String", "equals", "(Ljava/lang/Object;)Z"⟩ : MethodName)) (z := (⟨"java/lang/String", "equals", "(Ljava/lang/Object;)Z"⟩ : MethodName)) (hw _ (List.mem_of_getElem? (i := 64) rfl)) (hw _ (List.mem_of_getElem? (i := 65) rfl)) (notFace_of_selects (args := #[]) (mvT hZ (hw _ (List.mem_of_getElem? (i := 67) rfl)))) (hw _ (List.mem_of_getElem? (i := 67) rfl)) (hw _ (List.mem_of_getElem? (i := 66) rfl)) (hw _ (List.mem_of_getElem? (i := 2) rfl)) (hw _ (List.mem_of_getElem? (i := 68) rfl)) (a := sa8) (IsStr.exa I8) (by decide) (W := 0) (by decide) (by decide) N0 e11 (by rw [hml]; rfl) (argsL := [.null]) (rest := []) (lenOf pd_4 rfl) (Nat.le_of_eq rfl) (by decide) (by decide) (rm12n l Z a0 hw [] sa8 h8 n0 O9) rfl (hb hby d11_18) ?_
    intro v12 T12 lc12 X12 N12 hQ12
    obtain ⟨rfl, e12⟩ := hQ12
    show Goes _ _ _ _ _ _ (T12.setTop (mkF m 21 #[.val (.ref a1)] [(.int (0 : Int32))]))
    refine own_ifYes X12 hx (pc' := 28) (hb hby d11_21) ((if0 _ _).trans (teq (by decide : (0 : Int32) = (0 : Int32))).1) (by decide) (by decide) ?_
    show Goes _ _ _ _ _ _ (T12.setTop (mkF m 28 #[.val (.ref a1)] []))
    refine own_iconst X12 hx (v := (0 : Int32)) (hb hby d11_28) rfl ?_
    show Goes _ _ _ _ _ _ (T12.setTop (mkF m 29 #[.val (.ref a1)] [(.int (0 : Int32))]))
    have Cc13 := CC8.trans (CHr.keep KB10 (by simp) CC8.1)
    exact own_retNH X12 hx (t := .boolean) hS8 (by rw [e12]; exact hk8_) hZ hEL (by rw [e12]; exact Cc13) N12 hlk (by decide) (by decide) hret (by simp) (hb hby d11_29) (by rw [e12]; exact rfl)
  ·
    show Goes _ _ _ _ _ _ (T6.setTop (mkF m 9 #[.val (.ref a1)] [(.int (0 : Int32))]))
    refine own_ifYes X6 hx (pc' := 28) (hb hby d11_9) ((if0 _ _).trans (teq (by decide : (0 : Int32) = (0 : Int32))).1) (by decide) (by decide) ?_
    show Goes _ _ _ _ _ _ (T6.setTop (mkF m 28 #[.val (.ref a1)] []))
    refine own_iconst X6 hx (v := (0 : Int32)) (hb hby d11_28) rfl ?_
    show Goes _ _ _ _ _ _ (T6.setTop (mkF m 29 #[.val (.ref a1)] [(.int (0 : Int32))]))
    have Cc14 := CC2.trans (CHr.keep KB4 (by simp) CC2.1)
    exact own_retNH X6 hx (t := .boolean) hS2 (by rw [e6]; exact hk2_) hZ hEL (by rw [e6]; exact Cc14) N0 hlk (by decide) (by decide) hret (by simp) (hb hby d11_29) (by rw [e6]; exact rfl)
theorem pd_5 : parseMethodDescriptor "(Ljava/lang/String;Ljava/lang/String;Ljava/lang/String;)V" = some ⟨[(.object "java/lang/String"), (.object "java/lang/String"), (.object "java/lang/String")], none⟩ := by decide +kernel
theorem pd_6 : parseMethodDescriptor "()Z" = some ⟨[], some .boolean⟩ := by decide +kernel
theorem pd_7 : parseMethodDescriptor "(C)Ljava/lang/String;" = some ⟨[.char], some (.object "java/lang/String")⟩ := by decide +kernel
theorem pd_8 : parseMethodDescriptor "()[C" = some ⟨[], some (.array .char)⟩ := by decide +kernel
def Q0 (Z : State) (p1 : Int32) (p2 : Int32) (p3 : Int32) (p4 : Int32) (p5 : Int32) (p6 : Int32) (zc : Int32) (h0 : Heap) (n0 : Nat) (v : Option Value) (h : Heap) : Prop :=
  (v = some (.int (1 : Int32)))
theorem ef_0 (m : MethodId) (p1 : Int32) (p2 : Int32) (p3 : Int32) (p4 : Int32) (p5 : Int32) (p6 : Int32) : entryFrame m #[(.int p1), (.int p2), (.int p3), (.int p4), (.int p5), (.int p6)] maxLocals = mkF m 0 #[.val (.int p1), .val (.int p2), .val (.int p3), .val (.int p4), .val (.int p5), .val (.int p6), .unset, .unset, .unset, .unset, .unset, .unset, .unset, .unset, .unset, .unset, .unset] [] := by first | (simp [entryFrame, mkF, argsToLocals, Value.category, maxLocals]; done) | rfl
set_option maxRecDepth 65536 in
set_option maxHeartbeats 40000000 in
theorem rm0 (l : Launch) (Z : State) (a0 : Array Value) (hw : ∀ d ∈ tables_1, d.before a0 Z = true) (hEL : EW Z a0 consts_1) (ws : List Jvm.Cond) (p1 : Int32) (p2 : Int32) (p3 : Int32) (p4 : Int32) (p5 : Int32) (p6 : Int32) (zc : Int32) (h0 : Heap) (n0 : Nat) (O0 : Old Z n0 h0) (SF : Start Z zc) :
    MeetsH l x code maxLocals ret ws room_1 48 8704 Z consts_1 #[(.int p1), (.int p2), (.int p3), (.int p4), (.int p5), (.int p6)] h0 n0 (Q0 Z p1 p2 p3 p4 p5 p6 zc h0 n0) := by
  refine MeetsH.of (F := fun m => mkF m 0 #[.val (.int p1), .val (.int p2), .val (.int p3), .val (.int p4), .val (.int p5), .val (.int p6), .unset, .unset, .unset, .unset, .unset, .unset, .unset, .unset, .unset, .unset, .unset] []) (plainFor_of_name pn_1) (fun m => ef_0 m p1 p2 p3 p4 p5 p6) ?_
  intro p e s m below meth c T0 hx hby hml hown0 hnm hret hlk hZ hS0 hC0 X0 e0
  have hown : s.vm.findClass "com/example/ketenwacht/ketenwacht/model/SamlStatusIsCancellationPinLaw" = some m.cls := hown0
  have N0 := Fr.nil n0
  have KC0 := Keep.refl h0 []
  have C0 := CHr.refl hC0
  obtain ⟨z0, hzc, -⟩ := SF
  show Goes _ _ _ _ _ _ (T0.setTop (mkF m 0 #[.val (.int p1), .val (.int p2), .val (.int p3), .val (.int p4), .val (.int p5), .val (.int p6), .unset, .unset, .unset, .unset, .unset, .unset, .unset, .unset, .unset, .unset, .unset] []))
  refine own_iloadN X0 hx (hb hby at_0) rfl ?_
  refine own_sipush X0 hx (v := (255 : Int32)) (hb hby at_1) rfl ?_
  refine own_iand X0 hx (hb hby at_4) ?_
  show Goes _ _ _ _ _ _ (T0.setTop (mkF m 5 #[.val (.int p1), .val (.int p2), .val (.int p3), .val (.int p4), .val (.int p5), .val (.int p6), .unset, .unset, .unset, .unset, .unset, .unset, .unset, .unset, .unset, .unset, .unset] [(.int (p3 &&& (255 : Int32)))]))
  refine own_i2c X0 hx (hb hby at_5) ?_
  show Goes _ _ _ _ _ _ (T0.setTop (mkF m 6 #[.val (.int p1), .val (.int p2), .val (.int p3), .val (.int p4), .val (.int p5), .val (.int p6), .unset, .unset, .unset, .unset, .unset, .unset, .unset, .unset, .unset, .unset, .unset] [(.int ((p3 &&& (255 : Int32)).toUInt32.toUInt16.toUInt32.toInt32))]))
  rw [i2c_mask p3]
  refine own_istore X0 hx (Ls' := #[.val (.int p1), .val (.int p2), .val (.int p3), .val (.int p4), .val (.int p5), .val (.int p6), .val (.int (p3 &&& (255 : Int32))), .unset, .unset, .unset, .unset, .unset, .unset, .unset, .unset, .unset, .unset]) (hb hby at_6) rfl ?_
  refine own_iload X0 hx (hb hby at_8) rfl ?_
  refine own_sipush X0 hx (v := (255 : Int32)) (hb hby at_10) rfl ?_
  show Goes _ _ _ _ _ _ (T0.setTop (mkF m 13 #[.val (.int p1), .val (.int p2), .val (.int p3), .val (.int p4), .val (.int p5), .val (.int p6), .val (.int (p3 &&& (255 : Int32))), .unset, .unset, .unset, .unset, .unset, .unset, .unset, .unset, .unset, .unset] [(.int (255 : Int32)), (.int p6)]))
  refine own_iand X0 hx (hb hby at_13) ?_
  refine own_i2c X0 hx (hb hby at_14) ?_
  show Goes _ _ _ _ _ _ (T0.setTop (mkF m 15 #[.val (.int p1), .val (.int p2), .val (.int p3), .val (.int p4), .val (.int p5), .val (.int p6), .val (.int (p3 &&& (255 : Int32))), .unset, .unset, .unset, .unset, .unset, .unset, .unset, .unset, .unset, .unset] [(.int ((p6 &&& (255 : Int32)).toUInt32.toUInt16.toUInt32.toInt32))]))
  rw [i2c_mask p6]
  refine own_istore X0 hx (Ls' := #[.val (.int p1), .val (.int p2), .val (.int p3), .val (.int p4), .val (.int p5), .val (.int p6), .val (.int (p3 &&& (255 : Int32))), .val (.int (p6 &&& (255 : Int32))), .unset, .unset, .unset, .unset, .unset, .unset, .unset, .unset, .unset]) (hb hby at_15) rfl ?_
  show Goes _ _ _ _ _ _ (T0.setTop (mkF m 17 #[.val (.int p1), .val (.int p2), .val (.int p3), .val (.int p4), .val (.int p5), .val (.int p6), .val (.int (p3 &&& (255 : Int32))), .val (.int (p6 &&& (255 : Int32))), .unset, .unset, .unset, .unset, .unset, .unset, .unset, .unset, .unset] []))
  have jn196_1 : ∀ (T1 : State) (lc1 : List Loc) (vm1 : Vm) (kk1 : Nat) (h1 : Heap) (x : Addr) (cs : List Int32) (v9 : Int32) (s11 : Slot) (s12 : Slot) (X1 : Stand p l e room_1 (s.setVm vm1) m #[(.int p1), (.int p2), (.int p3), (.int p4), (.int p5), (.int p6)] below meth c T1 lc1 8 300) (hS1 : s.Since vm1 kk1) (hk1_ : kk1 ≤ h1.size) (hZ : Z.Warmed39 (s.setVm vm1).vm) (hown : (s.setVm vm1).vm.findClass "com/example/ketenwacht/ketenwacht/model/SamlStatusIsCancellationPinLaw" = some m.cls) (e1 : T1.heap = h1) (N1 : Fr n0 lc1) (O1 : Old Z n0 h1) (C1 : CHr Z consts_1 s.vm h0 vm1 h1) (KK1 : Keep h0 h1 []) (i1 : IsStr Z h1 x cs) (hok : (v9 = (1 : Int32) ∧ cs = tx0) ∨ (v9 = (0 : Int32) ∧ ¬ cs = tx0)) (hp_s11 : Pl s11) (hp_s12 : Pl s12), Goes p e below (fun o t L => CHr Z consts_1 s.vm h0 t.vm t.heap ∧ ReturnedEndW s o t L (48) (8704)) n0 (Q0 Z p1 p2 p3 p4 p5 p6 zc h0 n0) (T1.setTop (mkF m 196 #[.val (.int p1), .val (.int p2), .val (.int p3), .val (.int p4), .val (.int p5), .val (.int p6), .val (.int (p3 &&& (255 : Int32))), .val (.int (p6 &&& (255 : Int32))), .val (.ref x), .val (.int v9), .val (.int (p1 &&& (7 : Int32))), s11, s12, .unset, .unset, .unset, .unset] [])) := by
    intro T1 lc1 vm1 kk1 h1 x cs v9 s11 s12 X1 hS1 hk1_ hZ hown e1 N1 O1 C1 KK1 i1 hok hp_s11 hp_s12
    have KB2 := Keep.refl h1 []
    show Goes _ _ _ _ _ _ (T1.setTop (mkF m 196 #[.val (.int p1), .val (.int p2), .val (.int p3), .val (.int p4), .val (.int p5), .val (.int p6), .val (.int (p3 &&& (255 : Int32))), .val (.int (p6 &&& (255 : Int32))), .val (.ref x), .val (.int v9), .val (.int (p1 &&& (7 : Int32))), s11, s12, .unset, .unset, .unset, .unset] []))
    have jn375_3 : ∀ (T3 : State) (lc3 : List Loc) (vm3 : Vm) (kk3 : Nat) (h3 : Heap) (yv : Value) (v12 : Int32) (s14 : Slot) (s15 : Slot) (X3 : Stand p l e room_1 (s.setVm vm3) m #[(.int p1), (.int p2), (.int p3), (.int p4), (.int p5), (.int p6)] below meth c T3 lc3 16 600) (hS3 : s.Since vm3 kk3) (hk3_ : kk3 ≤ h3.size) (hZ : Z.Warmed39 (s.setVm vm3).vm) (hown : (s.setVm vm3).vm.findClass "com/example/ketenwacht/ketenwacht/model/SamlStatusIsCancellationPinLaw" = some m.cls) (e3 : T3.heap = h3) (N3 : Fr n0 lc3) (O3 : Old Z n0 h3) (C3 : CHr Z consts_1 s.vm h0 vm3 h3) (KK3 : Keep h1 h3 []) (hy : (yv = .null ∧ v12 = (0 : Int32)) ∨ ∃ (y : Addr) (ds : List Int32), yv = .ref y ∧ IsStr Z h3 y ds ∧ ((v12 = (1 : Int32) ∧ ds = tx1) ∨ (v12 = (0 : Int32) ∧ ¬ ds = tx1))) (hp_s14 : Pl s14) (hp_s15 : Pl s15), Goes p e below (fun o t L => CHr Z consts_1 s.vm h0 t.vm t.heap ∧ ReturnedEndW s o t L (48) (8704)) n0 (Q0 Z p1 p2 p3 p4 p5 p6 zc h0 n0) (T3.setTop (mkF m 375 #[.val (.int p1), .val (.int p2), .val (.int p3), .val (.int p4), .val (.int p5), .val (.int p6), .val (.int (p3 &&& (255 : Int32))), .val (.int (p6 &&& (255 : Int32))), .val (.ref x), .val (.int v9), .val (.int (p1 &&& (7 : Int32))), .val yv, .val (.int v12), .val (.int (p4 &&& (7 : Int32))), s14, s15, .unset] [])) := by
      intro T3 lc3 vm3 kk3 h3 yv v12 s14 s15 X3 hS3 hk3_ hZ hown e3 N3 O3 C3 KK3 hy hp_s14 hp_s15
      have IS3_x := IsStr.keep0 i1 KK3
      have KB4 := Keep.refl h3 []
      rcases hy with ⟨rfl, rfl⟩ | ⟨y, ds, rfl, i2, hok2⟩
      ·
        show Goes _ _ _ _ _ _ (T3.setTop (mkF m 375 #[.val (.int p1), .val (.int p2), .val (.int p3), .val (.int p4), .val (.int p5), .val (.int p6), .val (.int (p3 &&& (255 : Int32))), .val (.int (p6 &&& (255 : Int32))), .val (.ref x), .val (.int v9), .val (.int (p1 &&& (7 : Int32))), .val .null, .val (.int (0 : Int32)), .val (.int (p4 &&& (7 : Int32))), s14, s15, .unset] []))
        refine own_iloadN X3 hx (hb hby at_375) rfl ?_
        refine own_iconst X3 hx (v := (3 : Int32)) (hb hby at_376) rfl ?_
        refine own_iushr X3 hx (hb hby at_377) ?_
        show Goes _ _ _ _ _ _ (T3.setTop (mkF m 378 #[.val (.int p1), .val (.int p2), .val (.int p3), .val (.int p4), .val (.int p5), .val (.int p6), .val (.int (p3 &&& (255 : Int32))), .val (.int (p6 &&& (255 : Int32))), .val (.ref x), .val (.int v9), .val (.int (p1 &&& (7 : Int32))), .val .null, .val (.int (0 : Int32)), .val (.int (p4 &&& (7 : Int32))), s14, s15, .unset] [(.int ((p1.toUInt32 >>> ((3 : Int32) &&& 31).toUInt32).toInt32))]))
        refine own_iconst X3 hx (v := (3 : Int32)) (hb hby at_378) rfl ?_
        refine own_iand X3 hx (hb hby at_379) ?_
        refine own_istore X3 hx (Ls' := #[.val (.int p1), .val (.int p2), .val (.int p3), .val (.int p4), .val (.int p5), .val (.int p6), .val (.int (p3 &&& (255 : Int32))), .val (.int (p6 &&& (255 : Int32))), .val (.ref x), .val (.int v9), .val (.int (p1 &&& (7 : Int32))), .val .null, .val (.int (0 : Int32)), .val (.int (p4 &&& (7 : Int32))), s14, .val (.int (((p1.toUInt32 >>> ((3 : Int32) &&& 31).toUInt32).toInt32) &&& (3 : Int32))), .unset]) (hb hby at_380) (by rcases hp_s15 with rfl | ⟨_, rfl⟩ | ⟨_, rfl⟩ <;> rfl) ?_
        show Goes _ _ _ _ _ _ (T3.setTop (mkF m 382 #[.val (.int p1), .val (.int p2), .val (.int p3), .val (.int p4), .val (.int p5), .val (.int p6), .val (.int (p3 &&& (255 : Int32))), .val (.int (p6 &&& (255 : Int32))), .val (.ref x), .val (.int v9), .val (.int (p1 &&& (7 : Int32))), .val .null, .val (.int (0 : Int32)), .val (.int (p4 &&& (7 : Int32))), s14, .val (.int (((p1.toUInt32 >>> ((3 : Int32) &&& 31).toUInt32).toInt32) &&& (3 : Int32))), .unset] []))
        have jn426_5 : ∀ (T5 : State) (lc5 : List Loc) (vm5 : Vm) (kk5 : Nat) (h5 : Heap) (zv : Value) (X5 : Stand p l e room_1 (s.setVm vm5) m #[(.int p1), (.int p2), (.int p3), (.int p4), (.int p5), (.int p6)] below meth c T5 lc5 20 900) (hS5 : s.Since vm5 kk5) (hk5_ : kk5 ≤ h5.size) (hZ : Z.Warmed39 (s.setVm vm5).vm) (hown : (s.setVm vm5).vm.findClass "com/example/ketenwacht/ketenwacht/model/SamlStatusIsCancellationPinLaw" = some m.cls) (e5 : T5.heap = h5) (N5 : Fr n0 lc5) (O5 : Old Z n0 h5) (C5 : CHr Z consts_1 s.vm h0 vm5 h5) (KK5 : Keep h3 h5 []) (hz3 : zv = .null ∨ ∃ z : Addr, zv = .ref z), Goes p e below (fun o t L => CHr Z consts_1 s.vm h0 t.vm t.heap ∧ ReturnedEndW s o t L (48) (8704)) n0 (Q0 Z p1 p2 p3 p4 p5 p6 zc h0 n0) (T5.setTop (mkF m 426 #[.val (.int p1), .val (.int p2), .val (.int p3), .val (.int p4), .val (.int p5), .val (.int p6), .val (.int (p3 &&& (255 : Int32))), .val (.int (p6 &&& (255 : Int32))), .val (.ref x), .val (.int v9), .val (.int (p1 &&& (7 : Int32))), .val .null, .val (.int (0 : Int32)), .val (.int (p4 &&& (7 : Int32))), .val zv, .val (.int (((p1.toUInt32 >>> ((3 : Int32) &&& 31).toUInt32).toInt32) &&& (3 : Int32))), .unset] [])) := by
          intro T5 lc5 vm5 kk5 h5 zv X5 hS5 hk5_ hZ hown e5 N5 O5 C5 KK5 hz3
          have IS5_x := IsStr.keep0 IS3_x KK5
          have KB6 := Keep.refl h5 []
          rcases hz3 with rfl | ⟨z, rfl⟩
          ·
            rcases hok with ⟨rfl, hcs⟩ | ⟨rfl, hcs⟩
            ·
              show Goes _ _ _ _ _ _ (T5.setTop (mkF m 426 #[.val (.int p1), .val (.int p2), .val (.int p3), .val (.int p4), .val (.int p5), .val (.int p6), .val (.int (p3 &&& (255 : Int32))), .val (.int (p6 &&& (255 : Int32))), .val (.ref x), .val (.int (1 : Int32)), .val (.int (p1 &&& (7 : Int32))), .val .null, .val (.int (0 : Int32)), .val (.int (p4 &&& (7 : Int32))), .val .null, .val (.int (((p1.toUInt32 >>> ((3 : Int32) &&& 31).toUInt32).toInt32) &&& (3 : Int32))), .unset] []))
              refine own_new X5 hx hZ hown (hw _ (List.mem_of_getElem? (i := 38) rfl)) (hw _ (List.mem_of_getElem? (i := 39) rfl)) (hw _ (List.mem_of_getElem? (i := 40) rfl)) e5 (hb hby at_426) (by decide) (by decide) (fun T7 h7 b7 g7 X7 e7 E7 A7 D7 => ?_)
              have ge_b7 : n0 ≤ b7 := Nat.le_trans (own_sz O5) (Nat.le_of_eq g7.symm)
              have sz_b7 : h5.size ≤ b7 := Nat.le_trans KB6.1 (Nat.le_of_eq g7.symm)
              have O8 := O5.ext E7
              have hk8 := Nat.le_trans hk5_ E7.1
              have KC8 := KB6.ext E7
              have F7_code_b7 : Fld Z h7 b7 "com/example/ketenwacht/ketenwacht/model/SamlStatus" "code" "Ljava/lang/String;" .null := D7 (Or.inr (hw _ (List.mem_of_getElem? (i := 51) rfl))) (ty := (.object "java/lang/String")) (by decide)
              have F7_subCode_b7 : Fld Z h7 b7 "com/example/ketenwacht/ketenwacht/model/SamlStatus" "subCode" "Ljava/lang/String;" .null := D7 (Or.inr (hw _ (List.mem_of_getElem? (i := 53) rfl))) (ty := (.object "java/lang/String")) (by decide)
              have F7_message_b7 : Fld Z h7 b7 "com/example/ketenwacht/ketenwacht/model/SamlStatus" "message" "Ljava/lang/String;" .null := D7 (Or.inr (hw _ (List.mem_of_getElem? (i := 55) rfl))) (ty := (.object "java/lang/String")) (by decide)
              show Goes _ _ _ _ _ _ (T7.setTop (mkF m 429 #[.val (.int p1), .val (.int p2), .val (.int p3), .val (.int p4), .val (.int p5), .val (.int p6), .val (.int (p3 &&& (255 : Int32))), .val (.int (p6 &&& (255 : Int32))), .val (.ref x), .val (.int (1 : Int32)), .val (.int (p1 &&& (7 : Int32))), .val .null, .val (.int (0 : Int32)), .val (.int (p4 &&& (7 : Int32))), .val .null, .val (.int (((p1.toUInt32 >>> ((3 : Int32) &&& 31).toUInt32).toInt32) &&& (3 : Int32))), .unset] [(.ref b7)]))
              refine own_dup X7 hx (hb hby at_429) rfl ?_
              refine own_aload X7 hx (hb hby at_430) rfl rfl ?_
              refine own_aload X7 hx (hb hby at_432) rfl rfl ?_
              show Goes _ _ _ _ _ _ (T7.setTop (mkF m 434 #[.val (.int p1), .val (.int p2), .val (.int p3), .val (.int p4), .val (.int p5), .val (.int p6), .val (.int (p3 &&& (255 : Int32))), .val (.int (p6 &&& (255 : Int32))), .val (.ref x), .val (.int (1 : Int32)), .val (.int (p1 &&& (7 : Int32))), .val .null, .val (.int (0 : Int32)), .val (.int (p4 &&& (7 : Int32))), .val .null, .val (.int (((p1.toUInt32 >>> ((3 : Int32) &&& 31).toUInt32).toInt32) &&& (3 : Int32))), .unset] [.null, (.ref x), (.ref b7), (.ref b7)]))
              refine own_aload X7 hx (hb hby at_434) rfl rfl ?_
              refine own_special X7 hx hZ hown (y := (⟨"com/example/ketenwacht/ketenwacht/model/SamlStatus", "<init>", "(Ljava/lang/String;Ljava/lang/String;Ljava/lang/String;)V"⟩ : MethodName)) rfl (hw _ (List.mem_of_getElem? (i := 41) rfl)) (hw _ (List.mem_of_getElem? (i := 42) rfl)) (hw _ (List.mem_of_getElem? (i := 40) rfl)) (hw _ (List.mem_of_getElem? (i := 43) rfl)) (a := b7) (by decide) (W := 1) (by decide) (by decide) N5 e7 (by rw [hml]; rfl) (argsL := [(.ref x), .null, .null]) (rest := [(.ref b7)]) (lenOf pd_5 rfl) (Nat.le_of_eq rfl) (by decide) (by decide) (rm9sm l Z a0 hw [] b7 x (.null) (.null) (.null) h7 n0 O8 A7 F7_code_b7 F7_subCode_b7 F7_message_b7 ge_b7) rfl (hb hby at_436) ?_
              intro v9 T9 lc9 X9 N9 hQ9
              obtain ⟨rfl, K9, r9_0, r9_1, r9_2, r9_3⟩ := hQ9
              have O10 := O8.keep K9 (allS ge_b7 all0)
              have hk10 := Nat.le_trans hk8 K9.1
              have KC10 := KC8.trans K9 (allS (Or.inr sz_b7) all0)
              show Goes _ _ _ _ _ _ (T9.setTop (mkF m 439 #[.val (.int p1), .val (.int p2), .val (.int p3), .val (.int p4), .val (.int p5), .val (.int p6), .val (.int (p3 &&& (255 : Int32))), .val (.int (p6 &&& (255 : Int32))), .val (.ref x), .val (.int (1 : Int32)), .val (.int (p1 &&& (7 : Int32))), .val .null, .val (.int (0 : Int32)), .val (.int (p4 &&& (7 : Int32))), .val .null, .val (.int (((p1.toUInt32 >>> ((3 : Int32) &&& 31).toUInt32).toInt32) &&& (3 : Int32))), .unset] [(.ref b7)]))
              refine own_astore X9 hx (Ls' := #[.val (.int p1), .val (.int p2), .val (.int p3), .val (.int p4), .val (.int p5), .val (.int p6), .val (.int (p3 &&& (255 : Int32))), .val (.int (p6 &&& (255 : Int32))), .val (.ref x), .val (.int (1 : Int32)), .val (.int (p1 &&& (7 : Int32))), .val .null, .val (.int (0 : Int32)), .val (.int (p4 &&& (7 : Int32))), .val .null, .val (.int (((p1.toUInt32 >>> ((3 : Int32) &&& 31).toUInt32).toInt32) &&& (3 : Int32))), .val (.ref b7)]) (hb hby at_439) rfl rfl ?_
              refine own_aload X9 hx (hb hby at_441) rfl rfl ?_
              have Cc11 := C5.trans (CHr.keep KC10 (by simp) C5.1)
              refine own_virtualH X9 hx hZ hown hS5 hk10 (y := (⟨"com/example/ketenwacht/ketenwacht/model/SamlStatus", "isCancellation", "()Z"⟩ : MethodName)) (z := (⟨"com/example/ketenwacht/ketenwacht/model/SamlStatus", "isCancellation", "()Z"⟩ : MethodName)) (hw _ (List.mem_of_getElem? (i := 56) rfl)) (hw _ (List.mem_of_getElem? (i := 57) rfl)) (notFace_of_selects (args := #[]) (mvT hZ (hw _ (List.mem_of_getElem? (i := 59) rfl)))) (hw _ (List.mem_of_getElem? (i := 59) rfl)) (hw _ (List.mem_of_getElem? (i := 58) rfl)) (hw _ (List.mem_of_getElem? (i := 40) rfl)) (hw _ (List.mem_of_getElem? (i := 60) rfl)) (a := b7) r9_0 hEL Cc11.1 (by decide) (W := 0) (by decide) (by decide) N9 rfl (by rw [hml]; rfl) (argsL := []) (rest := []) (lenOf pd_6 rfl) (Nat.le_of_eq rfl) (by decide) (by decide) (rm11n l Z a0 hw hEL [] b7 x cs zc T9.heap n0 O10 ⟨z0, hzc, trivial⟩ r9_0 r9_1 r9_2 (IsStr.keep0 IS5_x KC10)) rfl (hb hby at_443) ?_
              intro v12 T12 lc12 k1_12 X12 hS12 hk12_ hZ hown N12 D12 hQ12
              have CC12 := Cc11.trans D12
              obtain rfl := hQ12
              have KB13 := Keep.refl T12.heap []
              show Goes _ _ _ _ _ _ (T12.setTop (mkF m 446 #[.val (.int p1), .val (.int p2), .val (.int p3), .val (.int p4), .val (.int p5), .val (.int p6), .val (.int (p3 &&& (255 : Int32))), .val (.int (p6 &&& (255 : Int32))), .val (.ref x), .val (.int (1 : Int32)), .val (.int (p1 &&& (7 : Int32))), .val .null, .val (.int (0 : Int32)), .val (.int (p4 &&& (7 : Int32))), .val .null, .val (.int (((p1.toUInt32 >>> ((3 : Int32) &&& 31).toUInt32).toInt32) &&& (3 : Int32))), .val (.ref b7)] [(.int (0 : Int32))]))
              refine own_iload X12 hx (hb hby at_446) rfl ?_
              refine own_ifNo X12 hx (hb hby at_448) ((if0 _ _).trans (feq (by decide : ¬ ((1 : Int32) = (0 : Int32)))).1) ?_
              show Goes _ _ _ _ _ _ (T12.setTop (mkF m 451 #[.val (.int p1), .val (.int p2), .val (.int p3), .val (.int p4), .val (.int p5), .val (.int p6), .val (.int (p3 &&& (255 : Int32))), .val (.int (p6 &&& (255 : Int32))), .val (.ref x), .val (.int (1 : Int32)), .val (.int (p1 &&& (7 : Int32))), .val .null, .val (.int (0 : Int32)), .val (.int (p4 &&& (7 : Int32))), .val .null, .val (.int (((p1.toUInt32 >>> ((3 : Int32) &&& 31).toUInt32).toInt32) &&& (3 : Int32))), .val (.ref b7)] [(.int (0 : Int32))]))
              refine own_iload X12 hx (hb hby at_451) rfl ?_
              refine own_ifYes X12 hx (pc' := 460) (hb hby at_453) ((if0 _ _).trans (teq (by decide : (0 : Int32) = (0 : Int32))).1) (by decide) (by decide) ?_
              show Goes _ _ _ _ _ _ (T12.setTop (mkF m 460 #[.val (.int p1), .val (.int p2), .val (.int p3), .val (.int p4), .val (.int p5), .val (.int p6), .val (.int (p3 &&& (255 : Int32))), .val (.int (p6 &&& (255 : Int32))), .val (.ref x), .val (.int (1 : Int32)), .val (.int (p1 &&& (7 : Int32))), .val .null, .val (.int (0 : Int32)), .val (.int (p4 &&& (7 : Int32))), .val .null, .val (.int (((p1.toUInt32 >>> ((3 : Int32) &&& 31).toUInt32).toInt32) &&& (3 : Int32))), .val (.ref b7)] [(.int (0 : Int32))]))
              refine own_iconst X12 hx (v := (0 : Int32)) (hb hby at_460) rfl ?_
              refine own_icmpNo X12 hx (hb hby at_461) (teq (by decide : (0 : Int32) = (0 : Int32))).2 ?_
              show Goes _ _ _ _ _ _ (T12.setTop (mkF m 464 #[.val (.int p1), .val (.int p2), .val (.int p3), .val (.int p4), .val (.int p5), .val (.int p6), .val (.int (p3 &&& (255 : Int32))), .val (.int (p6 &&& (255 : Int32))), .val (.ref x), .val (.int (1 : Int32)), .val (.int (p1 &&& (7 : Int32))), .val .null, .val (.int (0 : Int32)), .val (.int (p4 &&& (7 : Int32))), .val .null, .val (.int (((p1.toUInt32 >>> ((3 : Int32) &&& 31).toUInt32).toInt32) &&& (3 : Int32))), .val (.ref b7)] []))
              refine own_iconst X12 hx (v := (1 : Int32)) (hb hby at_464) rfl ?_
              refine own_goto X12 hx (pc' := 469) (hb hby at_465) (by decide) (by decide) ?_
              show Goes _ _ _ _ _ _ (T12.setTop (mkF m 469 #[.val (.int p1), .val (.int p2), .val (.int p3), .val (.int p4), .val (.int p5), .val (.int p6), .val (.int (p3 &&& (255 : Int32))), .val (.int (p6 &&& (255 : Int32))), .val (.ref x), .val (.int (1 : Int32)), .val (.int (p1 &&& (7 : Int32))), .val .null, .val (.int (0 : Int32)), .val (.int (p4 &&& (7 : Int32))), .val .null, .val (.int (((p1.toUInt32 >>> ((3 : Int32) &&& 31).toUInt32).toInt32) &&& (3 : Int32))), .val (.ref b7)] [(.int (1 : Int32))]))
              have Cc14 := CC12.trans (CHr.keep KB13 (by simp) CC12.1)
              exact own_retNH X12 hx (t := .boolean) hS12 hk12_ hZ hEL Cc14 N12 hlk (by decide) (by decide) hret (by simp) (hb hby at_469) (rfl)
            ·
              show Goes _ _ _ _ _ _ (T5.setTop (mkF m 426 #[.val (.int p1), .val (.int p2), .val (.int p3), .val (.int p4), .val (.int p5), .val (.int p6), .val (.int (p3 &&& (255 : Int32))), .val (.int (p6 &&& (255 : Int32))), .val (.ref x), .val (.int (0 : Int32)), .val (.int (p1 &&& (7 : Int32))), .val .null, .val (.int (0 : Int32)), .val (.int (p4 &&& (7 : Int32))), .val .null, .val (.int (((p1.toUInt32 >>> ((3 : Int32) &&& 31).toUInt32).toInt32) &&& (3 : Int32))), .unset] []))
              refine own_new X5 hx hZ hown (hw _ (List.mem_of_getElem? (i := 38) rfl)) (hw _ (List.mem_of_getElem? (i := 39) rfl)) (hw _ (List.mem_of_getElem? (i := 40) rfl)) e5 (hb hby at_426) (by decide) (by decide) (fun T15 h15 b15 g15 X15 e15 E15 A15 D15 => ?_)
              have ge_b15 : n0 ≤ b15 := Nat.le_trans (own_sz O5) (Nat.le_of_eq g15.symm)
              have sz_b15 : h5.size ≤ b15 := Nat.le_trans KB6.1 (Nat.le_of_eq g15.symm)
              have O16 := O5.ext E15
              have hk16 := Nat.le_trans hk5_ E15.1
              have KC16 := KB6.ext E15
              have F15_code_b15 : Fld Z h15 b15 "com/example/ketenwacht/ketenwacht/model/SamlStatus" "code" "Ljava/lang/String;" .null := D15 (Or.inr (hw _ (List.mem_of_getElem? (i := 51) rfl))) (ty := (.object "java/lang/String")) (by decide)
              have F15_subCode_b15 : Fld Z h15 b15 "com/example/ketenwacht/ketenwacht/model/SamlStatus" "subCode" "Ljava/lang/String;" .null := D15 (Or.inr (hw _ (List.mem_of_getElem? (i := 53) rfl))) (ty := (.object "java/lang/String")) (by decide)
              have F15_message_b15 : Fld Z h15 b15 "com/example/ketenwacht/ketenwacht/model/SamlStatus" "message" "Ljava/lang/String;" .null := D15 (Or.inr (hw _ (List.mem_of_getElem? (i := 55) rfl))) (ty := (.object "java/lang/String")) (by decide)
              show Goes _ _ _ _ _ _ (T15.setTop (mkF m 429 #[.val (.int p1), .val (.int p2), .val (.int p3), .val (.int p4), .val (.int p5), .val (.int p6), .val (.int (p3 &&& (255 : Int32))), .val (.int (p6 &&& (255 : Int32))), .val (.ref x), .val (.int (0 : Int32)), .val (.int (p1 &&& (7 : Int32))), .val .null, .val (.int (0 : Int32)), .val (.int (p4 &&& (7 : Int32))), .val .null, .val (.int (((p1.toUInt32 >>> ((3 : Int32) &&& 31).toUInt32).toInt32) &&& (3 : Int32))), .unset] [(.ref b15)]))
              refine own_dup X15 hx (hb hby at_429) rfl ?_
              refine own_aload X15 hx (hb hby at_430) rfl rfl ?_
              refine own_aload X15 hx (hb hby at_432) rfl rfl ?_
              show Goes _ _ _ _ _ _ (T15.setTop (mkF m 434 #[.val (.int p1), .val (.int p2), .val (.int p3), .val (.int p4), .val (.int p5), .val (.int p6), .val (.int (p3 &&& (255 : Int32))), .val (.int (p6 &&& (255 : Int32))), .val (.ref x), .val (.int (0 : Int32)), .val (.int (p1 &&& (7 : Int32))), .val .null, .val (.int (0 : Int32)), .val (.int (p4 &&& (7 : Int32))), .val .null, .val (.int (((p1.toUInt32 >>> ((3 : Int32) &&& 31).toUInt32).toInt32) &&& (3 : Int32))), .unset] [.null, (.ref x), (.ref b15), (.ref b15)]))
              refine own_aload X15 hx (hb hby at_434) rfl rfl ?_
              refine own_special X15 hx hZ hown (y := (⟨"com/example/ketenwacht/ketenwacht/model/SamlStatus", "<init>", "(Ljava/lang/String;Ljava/lang/String;Ljava/lang/String;)V"⟩ : MethodName)) rfl (hw _ (List.mem_of_getElem? (i := 41) rfl)) (hw _ (List.mem_of_getElem? (i := 42) rfl)) (hw _ (List.mem_of_getElem? (i := 40) rfl)) (hw _ (List.mem_of_getElem? (i := 43) rfl)) (a := b15) (by decide) (W := 1) (by decide) (by decide) N5 e15 (by rw [hml]; rfl) (argsL := [(.ref x), .null, .null]) (rest := [(.ref b15)]) (lenOf pd_5 rfl) (Nat.le_of_eq rfl) (by decide) (by decide) (rm9sm l Z a0 hw [] b15 x (.null) (.null) (.null) h15 n0 O16 A15 F15_code_b15 F15_subCode_b15 F15_message_b15 ge_b15) rfl (hb hby at_436) ?_
              intro v17 T17 lc17 X17 N17 hQ17
              obtain ⟨rfl, K17, r17_0, r17_1, r17_2, r17_3⟩ := hQ17
              have O18 := O16.keep K17 (allS ge_b15 all0)
              have hk18 := Nat.le_trans hk16 K17.1
              have KC18 := KC16.trans K17 (allS (Or.inr sz_b15) all0)
              show Goes _ _ _ _ _ _ (T17.setTop (mkF m 439 #[.val (.int p1), .val (.int p2), .val (.int p3), .val (.int p4), .val (.int p5), .val (.int p6), .val (.int (p3 &&& (255 : Int32))), .val (.int (p6 &&& (255 : Int32))), .val (.ref x), .val (.int (0 : Int32)), .val (.int (p1 &&& (7 : Int32))), .val .null, .val (.int (0 : Int32)), .val (.int (p4 &&& (7 : Int32))), .val .null, .val (.int (((p1.toUInt32 >>> ((3 : Int32) &&& 31).toUInt32).toInt32) &&& (3 : Int32))), .unset] [(.ref b15)]))
              refine own_astore X17 hx (Ls' := #[.val (.int p1), .val (.int p2), .val (.int p3), .val (.int p4), .val (.int p5), .val (.int p6), .val (.int (p3 &&& (255 : Int32))), .val (.int (p6 &&& (255 : Int32))), .val (.ref x), .val (.int (0 : Int32)), .val (.int (p1 &&& (7 : Int32))), .val .null, .val (.int (0 : Int32)), .val (.int (p4 &&& (7 : Int32))), .val .null, .val (.int (((p1.toUInt32 >>> ((3 : Int32) &&& 31).toUInt32).toInt32) &&& (3 : Int32))), .val (.ref b15)]) (hb hby at_439) rfl rfl ?_
              refine own_aload X17 hx (hb hby at_441) rfl rfl ?_
              have Cc19 := C5.trans (CHr.keep KC18 (by simp) C5.1)
              refine own_virtualH X17 hx hZ hown hS5 hk18 (y := (⟨"com/example/ketenwacht/ketenwacht/model/SamlStatus", "isCancellation", "()Z"⟩ : MethodName)) (z := (⟨"com/example/ketenwacht/ketenwacht/model/SamlStatus", "isCancellation", "()Z"⟩ : MethodName)) (hw _ (List.mem_of_getElem? (i := 56) rfl)) (hw _ (List.mem_of_getElem? (i := 57) rfl)) (notFace_of_selects (args := #[]) (mvT hZ (hw _ (List.mem_of_getElem? (i := 59) rfl)))) (hw _ (List.mem_of_getElem? (i := 59) rfl)) (hw _ (List.mem_of_getElem? (i := 58) rfl)) (hw _ (List.mem_of_getElem? (i := 40) rfl)) (hw _ (List.mem_of_getElem? (i := 60) rfl)) (a := b15) r17_0 hEL Cc19.1 (by decide) (W := 0) (by decide) (by decide) N17 rfl (by rw [hml]; rfl) (argsL := []) (rest := []) (lenOf pd_6 rfl) (Nat.le_of_eq rfl) (by decide) (by decide) (rm11n l Z a0 hw hEL [] b15 x cs zc T17.heap n0 O18 ⟨z0, hzc, trivial⟩ r17_0 r17_1 r17_2 (IsStr.keep0 IS5_x KC18)) rfl (hb hby at_443) ?_
              intro v20 T20 lc20 k1_20 X20 hS20 hk20_ hZ hown N20 D20 hQ20
              have CC20 := Cc19.trans D20
              obtain rfl := hQ20
              have KB21 := Keep.refl T20.heap []
              show Goes _ _ _ _ _ _ (T20.setTop (mkF m 446 #[.val (.int p1), .val (.int p2), .val (.int p3), .val (.int p4), .val (.int p5), .val (.int p6), .val (.int (p3 &&& (255 : Int32))), .val (.int (p6 &&& (255 : Int32))), .val (.ref x), .val (.int (0 : Int32)), .val (.int (p1 &&& (7 : Int32))), .val .null, .val (.int (0 : Int32)), .val (.int (p4 &&& (7 : Int32))), .val .null, .val (.int (((p1.toUInt32 >>> ((3 : Int32) &&& 31).toUInt32).toInt32) &&& (3 : Int32))), .val (.ref b15)] [(.int (0 : Int32))]))
              refine own_iload X20 hx (hb hby at_446) rfl ?_
              refine own_ifYes X20 hx (pc' := 460) (hb hby at_448) ((if0 _ _).trans (teq (by decide : (0 : Int32) = (0 : Int32))).1) (by decide) (by decide) ?_
              show Goes _ _ _ _ _ _ (T20.setTop (mkF m 460 #[.val (.int p1), .val (.int p2), .val (.int p3), .val (.int p4), .val (.int p5), .val (.int p6), .val (.int (p3 &&& (255 : Int32))), .val (.int (p6 &&& (255 : Int32))), .val (.ref x), .val (.int (0 : Int32)), .val (.int (p1 &&& (7 : Int32))), .val .null, .val (.int (0 : Int32)), .val (.int (p4 &&& (7 : Int32))), .val .null, .val (.int (((p1.toUInt32 >>> ((3 : Int32) &&& 31).toUInt32).toInt32) &&& (3 : Int32))), .val (.ref b15)] [(.int (0 : Int32))]))
              refine own_iconst X20 hx (v := (0 : Int32)) (hb hby at_460) rfl ?_
              refine own_icmpNo X20 hx (hb hby at_461) (teq (by decide : (0 : Int32) = (0 : Int32))).2 ?_
              show Goes _ _ _ _ _ _ (T20.setTop (mkF m 464 #[.val (.int p1), .val (.int p2), .val (.int p3), .val (.int p4), .val (.int p5), .val (.int p6), .val (.int (p3 &&& (255 : Int32))), .val (.int (p6 &&& (255 : Int32))), .val (.ref x), .val (.int (0 : Int32)), .val (.int (p1 &&& (7 : Int32))), .val .null, .val (.int (0 : Int32)), .val (.int (p4 &&& (7 : Int32))), .val .null, .val (.int (((p1.toUInt32 >>> ((3 : Int32) &&& 31).toUInt32).toInt32) &&& (3 : Int32))), .val (.ref b15)] []))
              refine own_iconst X20 hx (v := (1 : Int32)) (hb hby at_464) rfl ?_
              refine own_goto X20 hx (pc' := 469) (hb hby at_465) (by decide) (by decide) ?_
              show Goes _ _ _ _ _ _ (T20.setTop (mkF m 469 #[.val (.int p1), .val (.int p2), .val (.int p3), .val (.int p4), .val (.int p5), .val (.int p6), .val (.int (p3 &&& (255 : Int32))), .val (.int (p6 &&& (255 : Int32))), .val (.ref x), .val (.int (0 : Int32)), .val (.int (p1 &&& (7 : Int32))), .val .null, .val (.int (0 : Int32)), .val (.int (p4 &&& (7 : Int32))), .val .null, .val (.int (((p1.toUInt32 >>> ((3 : Int32) &&& 31).toUInt32).toInt32) &&& (3 : Int32))), .val (.ref b15)] [(.int (1 : Int32))]))
              have Cc22 := CC20.trans (CHr.keep KB21 (by simp) CC20.1)
              exact own_retNH X20 hx (t := .boolean) hS20 hk20_ hZ hEL Cc22 N20 hlk (by decide) (by decide) hret (by simp) (hb hby at_469) (rfl)
          ·
            rcases hok with ⟨rfl, hcs⟩ | ⟨rfl, hcs⟩
            ·
              show Goes _ _ _ _ _ _ (T5.setTop (mkF m 426 #[.val (.int p1), .val (.int p2), .val (.int p3), .val (.int p4), .val (.int p5), .val (.int p6), .val (.int (p3 &&& (255 : Int32))), .val (.int (p6 &&& (255 : Int32))), .val (.ref x), .val (.int (1 : Int32)), .val (.int (p1 &&& (7 : Int32))), .val .null, .val (.int (0 : Int32)), .val (.int (p4 &&& (7 : Int32))), .val (.ref z), .val (.int (((p1.toUInt32 >>> ((3 : Int32) &&& 31).toUInt32).toInt32) &&& (3 : Int32))), .unset] []))
              refine own_new X5 hx hZ hown (hw _ (List.mem_of_getElem? (i := 38) rfl)) (hw _ (List.mem_of_getElem? (i := 39) rfl)) (hw _ (List.mem_of_getElem? (i := 40) rfl)) e5 (hb hby at_426) (by decide) (by decide) (fun T23 h23 b23 g23 X23 e23 E23 A23 D23 => ?_)
              have ge_b23 : n0 ≤ b23 := Nat.le_trans (own_sz O5) (Nat.le_of_eq g23.symm)
              have sz_b23 : h5.size ≤ b23 := Nat.le_trans KB6.1 (Nat.le_of_eq g23.symm)
              have O24 := O5.ext E23
              have hk24 := Nat.le_trans hk5_ E23.1
              have KC24 := KB6.ext E23
              have F23_code_b23 : Fld Z h23 b23 "com/example/ketenwacht/ketenwacht/model/SamlStatus" "code" "Ljava/lang/String;" .null := D23 (Or.inr (hw _ (List.mem_of_getElem? (i := 51) rfl))) (ty := (.object "java/lang/String")) (by decide)
              have F23_subCode_b23 : Fld Z h23 b23 "com/example/ketenwacht/ketenwacht/model/SamlStatus" "subCode" "Ljava/lang/String;" .null := D23 (Or.inr (hw _ (List.mem_of_getElem? (i := 53) rfl))) (ty := (.object "java/lang/String")) (by decide)
              have F23_message_b23 : Fld Z h23 b23 "com/example/ketenwacht/ketenwacht/model/SamlStatus" "message" "Ljava/lang/String;" .null := D23 (Or.inr (hw _ (List.mem_of_getElem? (i := 55) rfl))) (ty := (.object "java/lang/String")) (by decide)
              show Goes _ _ _ _ _ _ (T23.setTop (mkF m 429 #[.val (.int p1), .val (.int p2), .val (.int p3), .val (.int p4), .val (.int p5), .val (.int p6), .val (.int (p3 &&& (255 : Int32))), .val (.int (p6 &&& (255 : Int32))), .val (.ref x), .val (.int (1 : Int32)), .val (.int (p1 &&& (7 : Int32))), .val .null, .val (.int (0 : Int32)), .val (.int (p4 &&& (7 : Int32))), .val (.ref z), .val (.int (((p1.toUInt32 >>> ((3 : Int32) &&& 31).toUInt32).toInt32) &&& (3 : Int32))), .unset] [(.ref b23)]))
              refine own_dup X23 hx (hb hby at_429) rfl ?_
              refine own_aload X23 hx (hb hby at_430) rfl rfl ?_
              refine own_aload X23 hx (hb hby at_432) rfl rfl ?_
              show Goes _ _ _ _ _ _ (T23.setTop (mkF m 434 #[.val (.int p1), .val (.int p2), .val (.int p3), .val (.int p4), .val (.int p5), .val (.int p6), .val (.int (p3 &&& (255 : Int32))), .val (.int (p6 &&& (255 : Int32))), .val (.ref x), .val (.int (1 : Int32)), .val (.int (p1 &&& (7 : Int32))), .val .null, .val (.int (0 : Int32)), .val (.int (p4 &&& (7 : Int32))), .val (.ref z), .val (.int (((p1.toUInt32 >>> ((3 : Int32) &&& 31).toUInt32).toInt32) &&& (3 : Int32))), .unset] [.null, (.ref x), (.ref b23), (.ref b23)]))
              refine own_aload X23 hx (hb hby at_434) rfl rfl ?_
              refine own_special X23 hx hZ hown (y := (⟨"com/example/ketenwacht/ketenwacht/model/SamlStatus", "<init>", "(Ljava/lang/String;Ljava/lang/String;Ljava/lang/String;)V"⟩ : MethodName)) rfl (hw _ (List.mem_of_getElem? (i := 41) rfl)) (hw _ (List.mem_of_getElem? (i := 42) rfl)) (hw _ (List.mem_of_getElem? (i := 40) rfl)) (hw _ (List.mem_of_getElem? (i := 43) rfl)) (a := b23) (by decide) (W := 1) (by decide) (by decide) N5 e23 (by rw [hml]; rfl) (argsL := [(.ref x), .null, (.ref z)]) (rest := [(.ref b23)]) (lenOf pd_5 rfl) (Nat.le_of_eq rfl) (by decide) (by decide) (rm9s l Z a0 hw [] b23 x z (.null) (.null) (.null) h23 n0 O24 A23 F23_code_b23 F23_subCode_b23 F23_message_b23 ge_b23) rfl (hb hby at_436) ?_
              intro v25 T25 lc25 X25 N25 hQ25
              obtain ⟨rfl, K25, r25_0, r25_1, r25_2, r25_3⟩ := hQ25
              have O26 := O24.keep K25 (allS ge_b23 all0)
              have hk26 := Nat.le_trans hk24 K25.1
              have KC26 := KC24.trans K25 (allS (Or.inr sz_b23) all0)
              show Goes _ _ _ _ _ _ (T25.setTop (mkF m 439 #[.val (.int p1), .val (.int p2), .val (.int p3), .val (.int p4), .val (.int p5), .val (.int p6), .val (.int (p3 &&& (255 : Int32))), .val (.int (p6 &&& (255 : Int32))), .val (.ref x), .val (.int (1 : Int32)), .val (.int (p1 &&& (7 : Int32))), .val .null, .val (.int (0 : Int32)), .val (.int (p4 &&& (7 : Int32))), .val (.ref z), .val (.int (((p1.toUInt32 >>> ((3 : Int32) &&& 31).toUInt32).toInt32) &&& (3 : Int32))), .unset] [(.ref b23)]))
              refine own_astore X25 hx (Ls' := #[.val (.int p1), .val (.int p2), .val (.int p3), .val (.int p4), .val (.int p5), .val (.int p6), .val (.int (p3 &&& (255 : Int32))), .val (.int (p6 &&& (255 : Int32))), .val (.ref x), .val (.int (1 : Int32)), .val (.int (p1 &&& (7 : Int32))), .val .null, .val (.int (0 : Int32)), .val (.int (p4 &&& (7 : Int32))), .val (.ref z), .val (.int (((p1.toUInt32 >>> ((3 : Int32) &&& 31).toUInt32).toInt32) &&& (3 : Int32))), .val (.ref b23)]) (hb hby at_439) rfl rfl ?_
              refine own_aload X25 hx (hb hby at_441) rfl rfl ?_
              have Cc27 := C5.trans (CHr.keep KC26 (by simp) C5.1)
              refine own_virtualH X25 hx hZ hown hS5 hk26 (y := (⟨"com/example/ketenwacht/ketenwacht/model/SamlStatus", "isCancellation", "()Z"⟩ : MethodName)) (z := (⟨"com/example/ketenwacht/ketenwacht/model/SamlStatus", "isCancellation", "()Z"⟩ : MethodName)) (hw _ (List.mem_of_getElem? (i := 56) rfl)) (hw _ (List.mem_of_getElem? (i := 57) rfl)) (notFace_of_selects (args := #[]) (mvT hZ (hw _ (List.mem_of_getElem? (i := 59) rfl)))) (hw _ (List.mem_of_getElem? (i := 59) rfl)) (hw _ (List.mem_of_getElem? (i := 58) rfl)) (hw _ (List.mem_of_getElem? (i := 40) rfl)) (hw _ (List.mem_of_getElem? (i := 60) rfl)) (a := b23) r25_0 hEL Cc27.1 (by decide) (W := 0) (by decide) (by decide) N25 rfl (by rw [hml]; rfl) (argsL := []) (rest := []) (lenOf pd_6 rfl) (Nat.le_of_eq rfl) (by decide) (by decide) (rm11n l Z a0 hw hEL [] b23 x cs zc T25.heap n0 O26 ⟨z0, hzc, trivial⟩ r25_0 r25_1 r25_2 (IsStr.keep0 IS5_x KC26)) rfl (hb hby at_443) ?_
              intro v28 T28 lc28 k1_28 X28 hS28 hk28_ hZ hown N28 D28 hQ28
              have CC28 := Cc27.trans D28
              obtain rfl := hQ28
              have KB29 := Keep.refl T28.heap []
              show Goes _ _ _ _ _ _ (T28.setTop (mkF m 446 #[.val (.int p1), .val (.int p2), .val (.int p3), .val (.int p4), .val (.int p5), .val (.int p6), .val (.int (p3 &&& (255 : Int32))), .val (.int (p6 &&& (255 : Int32))), .val (.ref x), .val (.int (1 : Int32)), .val (.int (p1 &&& (7 : Int32))), .val .null, .val (.int (0 : Int32)), .val (.int (p4 &&& (7 : Int32))), .val (.ref z), .val (.int (((p1.toUInt32 >>> ((3 : Int32) &&& 31).toUInt32).toInt32) &&& (3 : Int32))), .val (.ref b23)] [(.int (0 : Int32))]))
              refine own_iload X28 hx (hb hby at_446) rfl ?_
              refine own_ifNo X28 hx (hb hby at_448) ((if0 _ _).trans (feq (by decide : ¬ ((1 : Int32) = (0 : Int32)))).1) ?_
              show Goes _ _ _ _ _ _ (T28.setTop (mkF m 451 #[.val (.int p1), .val (.int p2), .val (.int p3), .val (.int p4), .val (.int p5), .val (.int p6), .val (.int (p3 &&& (255 : Int32))), .val (.int (p6 &&& (255 : Int32))), .val (.ref x), .val (.int (1 : Int32)), .val (.int (p1 &&& (7 : Int32))), .val .null, .val (.int (0 : Int32)), .val (.int (p4 &&& (7 : Int32))), .val (.ref z), .val (.int (((p1.toUInt32 >>> ((3 : Int32) &&& 31).toUInt32).toInt32) &&& (3 : Int32))), .val (.ref b23)] [(.int (0 : Int32))]))
              refine own_iload X28 hx (hb hby at_451) rfl ?_
              refine own_ifYes X28 hx (pc' := 460) (hb hby at_453) ((if0 _ _).trans (teq (by decide : (0 : Int32) = (0 : Int32))).1) (by decide) (by decide) ?_
              show Goes _ _ _ _ _ _ (T28.setTop (mkF m 460 #[.val (.int p1), .val (.int p2), .val (.int p3), .val (.int p4), .val (.int p5), .val (.int p6), .val (.int (p3 &&& (255 : Int32))), .val (.int (p6 &&& (255 : Int32))), .val (.ref x), .val (.int (1 : Int32)), .val (.int (p1 &&& (7 : Int32))), .val .null, .val (.int (0 : Int32)), .val (.int (p4 &&& (7 : Int32))), .val (.ref z), .val (.int (((p1.toUInt32 >>> ((3 : Int32) &&& 31).toUInt32).toInt32) &&& (3 : Int32))), .val (.ref b23)] [(.int (0 : Int32))]))
              refine own_iconst X28 hx (v := (0 : Int32)) (hb hby at_460) rfl ?_
              refine own_icmpNo X28 hx (hb hby at_461) (teq (by decide : (0 : Int32) = (0 : Int32))).2 ?_
              show Goes _ _ _ _ _ _ (T28.setTop (mkF m 464 #[.val (.int p1), .val (.int p2), .val (.int p3), .val (.int p4), .val (.int p5), .val (.int p6), .val (.int (p3 &&& (255 : Int32))), .val (.int (p6 &&& (255 : Int32))), .val (.ref x), .val (.int (1 : Int32)), .val (.int (p1 &&& (7 : Int32))), .val .null, .val (.int (0 : Int32)), .val (.int (p4 &&& (7 : Int32))), .val (.ref z), .val (.int (((p1.toUInt32 >>> ((3 : Int32) &&& 31).toUInt32).toInt32) &&& (3 : Int32))), .val (.ref b23)] []))
              refine own_iconst X28 hx (v := (1 : Int32)) (hb hby at_464) rfl ?_
              refine own_goto X28 hx (pc' := 469) (hb hby at_465) (by decide) (by decide) ?_
              show Goes _ _ _ _ _ _ (T28.setTop (mkF m 469 #[.val (.int p1), .val (.int p2), .val (.int p3), .val (.int p4), .val (.int p5), .val (.int p6), .val (.int (p3 &&& (255 : Int32))), .val (.int (p6 &&& (255 : Int32))), .val (.ref x), .val (.int (1 : Int32)), .val (.int (p1 &&& (7 : Int32))), .val .null, .val (.int (0 : Int32)), .val (.int (p4 &&& (7 : Int32))), .val (.ref z), .val (.int (((p1.toUInt32 >>> ((3 : Int32) &&& 31).toUInt32).toInt32) &&& (3 : Int32))), .val (.ref b23)] [(.int (1 : Int32))]))
              have Cc30 := CC28.trans (CHr.keep KB29 (by simp) CC28.1)
              exact own_retNH X28 hx (t := .boolean) hS28 hk28_ hZ hEL Cc30 N28 hlk (by decide) (by decide) hret (by simp) (hb hby at_469) (rfl)
            ·
              show Goes _ _ _ _ _ _ (T5.setTop (mkF m 426 #[.val (.int p1), .val (.int p2), .val (.int p3), .val (.int p4), .val (.int p5), .val (.int p6), .val (.int (p3 &&& (255 : Int32))), .val (.int (p6 &&& (255 : Int32))), .val (.ref x), .val (.int (0 : Int32)), .val (.int (p1 &&& (7 : Int32))), .val .null, .val (.int (0 : Int32)), .val (.int (p4 &&& (7 : Int32))), .val (.ref z), .val (.int (((p1.toUInt32 >>> ((3 : Int32) &&& 31).toUInt32).toInt32) &&& (3 : Int32))), .unset] []))
              refine own_new X5 hx hZ hown (hw _ (List.mem_of_getElem? (i := 38) rfl)) (hw _ (List.mem_of_getElem? (i := 39) rfl)) (hw _ (List.mem_of_getElem? (i := 40) rfl)) e5 (hb hby at_426) (by decide) (by decide) (fun T31 h31 b31 g31 X31 e31 E31 A31 D31 => ?_)
              have ge_b31 : n0 ≤ b31 := Nat.le_trans (own_sz O5) (Nat.le_of_eq g31.symm)
              have sz_b31 : h5.size ≤ b31 := Nat.le_trans KB6.1 (Nat.le_of_eq g31.symm)
              have O32 := O5.ext E31
              have hk32 := Nat.le_trans hk5_ E31.1
              have KC32 := KB6.ext E31
              have F31_code_b31 : Fld Z h31 b31 "com/example/ketenwacht/ketenwacht/model/SamlStatus" "code" "Ljava/lang/String;" .null := D31 (Or.inr (hw _ (List.mem_of_getElem? (i := 51) rfl))) (ty := (.object "java/lang/String")) (by decide)
              have F31_subCode_b31 : Fld Z h31 b31 "com/example/ketenwacht/ketenwacht/model/SamlStatus" "subCode" "Ljava/lang/String;" .null := D31 (Or.inr (hw _ (List.mem_of_getElem? (i := 53) rfl))) (ty := (.object "java/lang/String")) (by decide)
              have F31_message_b31 : Fld Z h31 b31 "com/example/ketenwacht/ketenwacht/model/SamlStatus" "message" "Ljava/lang/String;" .null := D31 (Or.inr (hw _ (List.mem_of_getElem? (i := 55) rfl))) (ty := (.object "java/lang/String")) (by decide)
              show Goes _ _ _ _ _ _ (T31.setTop (mkF m 429 #[.val (.int p1), .val (.int p2), .val (.int p3), .val (.int p4), .val (.int p5), .val (.int p6), .val (.int (p3 &&& (255 : Int32))), .val (.int (p6 &&& (255 : Int32))), .val (.ref x), .val (.int (0 : Int32)), .val (.int (p1 &&& (7 : Int32))), .val .null, .val (.int (0 : Int32)), .val (.int (p4 &&& (7 : Int32))), .val (.ref z), .val (.int (((p1.toUInt32 >>> ((3 : Int32) &&& 31).toUInt32).toInt32) &&& (3 : Int32))), .unset] [(.ref b31)]))
              refine own_dup X31 hx (hb hby at_429) rfl ?_
              refine own_aload X31 hx (hb hby at_430) rfl rfl ?_
              refine own_aload X31 hx (hb hby at_432) rfl rfl ?_
              show Goes _ _ _ _ _ _ (T31.setTop (mkF m 434 #[.val (.int p1), .val (.int p2), .val (.int p3), .val (.int p4), .val (.int p5), .val (.int p6), .val (.int (p3 &&& (255 : Int32))), .val (.int (p6 &&& (255 : Int32))), .val (.ref x), .val (.int (0 : Int32)), .val (.int (p1 &&& (7 : Int32))), .val .null, .val (.int (0 : Int32)), .val (.int (p4 &&& (7 : Int32))), .val (.ref z), .val (.int (((p1.toUInt32 >>> ((3 : Int32) &&& 31).toUInt32).toInt32) &&& (3 : Int32))), .unset] [.null, (.ref x), (.ref b31), (.ref b31)]))
              refine own_aload X31 hx (hb hby at_434) rfl rfl ?_
              refine own_special X31 hx hZ hown (y := (⟨"com/example/ketenwacht/ketenwacht/model/SamlStatus", "<init>", "(Ljava/lang/String;Ljava/lang/String;Ljava/lang/String;)V"⟩ : MethodName)) rfl (hw _ (List.mem_of_getElem? (i := 41) rfl)) (hw _ (List.mem_of_getElem? (i := 42) rfl)) (hw _ (List.mem_of_getElem? (i := 40) rfl)) (hw _ (List.mem_of_getElem? (i := 43) rfl)) (a := b31) (by decide) (W := 1) (by decide) (by decide) N5 e31 (by rw [hml]; rfl) (argsL := [(.ref x), .null, (.ref z)]) (rest := [(.ref b31)]) (lenOf pd_5 rfl) (Nat.le_of_eq rfl) (by decide) (by decide) (rm9s l Z a0 hw [] b31 x z (.null) (.null) (.null) h31 n0 O32 A31 F31_code_b31 F31_subCode_b31 F31_message_b31 ge_b31) rfl (hb hby at_436) ?_
              intro v33 T33 lc33 X33 N33 hQ33
              obtain ⟨rfl, K33, r33_0, r33_1, r33_2, r33_3⟩ := hQ33
              have O34 := O32.keep K33 (allS ge_b31 all0)
              have hk34 := Nat.le_trans hk32 K33.1
              have KC34 := KC32.trans K33 (allS (Or.inr sz_b31) all0)
              show Goes _ _ _ _ _ _ (T33.setTop (mkF m 439 #[.val (.int p1), .val (.int p2), .val (.int p3), .val (.int p4), .val (.int p5), .val (.int p6), .val (.int (p3 &&& (255 : Int32))), .val (.int (p6 &&& (255 : Int32))), .val (.ref x), .val (.int (0 : Int32)), .val (.int (p1 &&& (7 : Int32))), .val .null, .val (.int (0 : Int32)), .val (.int (p4 &&& (7 : Int32))), .val (.ref z), .val (.int (((p1.toUInt32 >>> ((3 : Int32) &&& 31).toUInt32).toInt32) &&& (3 : Int32))), .unset] [(.ref b31)]))
              refine own_astore X33 hx (Ls' := #[.val (.int p1), .val (.int p2), .val (.int p3), .val (.int p4), .val (.int p5), .val (.int p6), .val (.int (p3 &&& (255 : Int32))), .val (.int (p6 &&& (255 : Int32))), .val (.ref x), .val (.int (0 : Int32)), .val (.int (p1 &&& (7 : Int32))), .val .null, .val (.int (0 : Int32)), .val (.int (p4 &&& (7 : Int32))), .val (.ref z), .val (.int (((p1.toUInt32 >>> ((3 : Int32) &&& 31).toUInt32).toInt32) &&& (3 : Int32))), .val (.ref b31)]) (hb hby at_439) rfl rfl ?_
              refine own_aload X33 hx (hb hby at_441) rfl rfl ?_
              have Cc35 := C5.trans (CHr.keep KC34 (by simp) C5.1)
              refine own_virtualH X33 hx hZ hown hS5 hk34 (y := (⟨"com/example/ketenwacht/ketenwacht/model/SamlStatus", "isCancellation", "()Z"⟩ : MethodName)) (z := (⟨"com/example/ketenwacht/ketenwacht/model/SamlStatus", "isCancellation", "()Z"⟩ : MethodName)) (hw _ (List.mem_of_getElem? (i := 56) rfl)) (hw _ (List.mem_of_getElem? (i := 57) rfl)) (notFace_of_selects (args := #[]) (mvT hZ (hw _ (List.mem_of_getElem? (i := 59) rfl)))) (hw _ (List.mem_of_getElem? (i := 59) rfl)) (hw _ (List.mem_of_getElem? (i := 58) rfl)) (hw _ (List.mem_of_getElem? (i := 40) rfl)) (hw _ (List.mem_of_getElem? (i := 60) rfl)) (a := b31) r33_0 hEL Cc35.1 (by decide) (W := 0) (by decide) (by decide) N33 rfl (by rw [hml]; rfl) (argsL := []) (rest := []) (lenOf pd_6 rfl) (Nat.le_of_eq rfl) (by decide) (by decide) (rm11n l Z a0 hw hEL [] b31 x cs zc T33.heap n0 O34 ⟨z0, hzc, trivial⟩ r33_0 r33_1 r33_2 (IsStr.keep0 IS5_x KC34)) rfl (hb hby at_443) ?_
              intro v36 T36 lc36 k1_36 X36 hS36 hk36_ hZ hown N36 D36 hQ36
              have CC36 := Cc35.trans D36
              obtain rfl := hQ36
              have KB37 := Keep.refl T36.heap []
              show Goes _ _ _ _ _ _ (T36.setTop (mkF m 446 #[.val (.int p1), .val (.int p2), .val (.int p3), .val (.int p4), .val (.int p5), .val (.int p6), .val (.int (p3 &&& (255 : Int32))), .val (.int (p6 &&& (255 : Int32))), .val (.ref x), .val (.int (0 : Int32)), .val (.int (p1 &&& (7 : Int32))), .val .null, .val (.int (0 : Int32)), .val (.int (p4 &&& (7 : Int32))), .val (.ref z), .val (.int (((p1.toUInt32 >>> ((3 : Int32) &&& 31).toUInt32).toInt32) &&& (3 : Int32))), .val (.ref b31)] [(.int (0 : Int32))]))
              refine own_iload X36 hx (hb hby at_446) rfl ?_
              refine own_ifYes X36 hx (pc' := 460) (hb hby at_448) ((if0 _ _).trans (teq (by decide : (0 : Int32) = (0 : Int32))).1) (by decide) (by decide) ?_
              show Goes _ _ _ _ _ _ (T36.setTop (mkF m 460 #[.val (.int p1), .val (.int p2), .val (.int p3), .val (.int p4), .val (.int p5), .val (.int p6), .val (.int (p3 &&& (255 : Int32))), .val (.int (p6 &&& (255 : Int32))), .val (.ref x), .val (.int (0 : Int32)), .val (.int (p1 &&& (7 : Int32))), .val .null, .val (.int (0 : Int32)), .val (.int (p4 &&& (7 : Int32))), .val (.ref z), .val (.int (((p1.toUInt32 >>> ((3 : Int32) &&& 31).toUInt32).toInt32) &&& (3 : Int32))), .val (.ref b31)] [(.int (0 : Int32))]))
              refine own_iconst X36 hx (v := (0 : Int32)) (hb hby at_460) rfl ?_
              refine own_icmpNo X36 hx (hb hby at_461) (teq (by decide : (0 : Int32) = (0 : Int32))).2 ?_
              show Goes _ _ _ _ _ _ (T36.setTop (mkF m 464 #[.val (.int p1), .val (.int p2), .val (.int p3), .val (.int p4), .val (.int p5), .val (.int p6), .val (.int (p3 &&& (255 : Int32))), .val (.int (p6 &&& (255 : Int32))), .val (.ref x), .val (.int (0 : Int32)), .val (.int (p1 &&& (7 : Int32))), .val .null, .val (.int (0 : Int32)), .val (.int (p4 &&& (7 : Int32))), .val (.ref z), .val (.int (((p1.toUInt32 >>> ((3 : Int32) &&& 31).toUInt32).toInt32) &&& (3 : Int32))), .val (.ref b31)] []))
              refine own_iconst X36 hx (v := (1 : Int32)) (hb hby at_464) rfl ?_
              refine own_goto X36 hx (pc' := 469) (hb hby at_465) (by decide) (by decide) ?_
              show Goes _ _ _ _ _ _ (T36.setTop (mkF m 469 #[.val (.int p1), .val (.int p2), .val (.int p3), .val (.int p4), .val (.int p5), .val (.int p6), .val (.int (p3 &&& (255 : Int32))), .val (.int (p6 &&& (255 : Int32))), .val (.ref x), .val (.int (0 : Int32)), .val (.int (p1 &&& (7 : Int32))), .val .null, .val (.int (0 : Int32)), .val (.int (p4 &&& (7 : Int32))), .val (.ref z), .val (.int (((p1.toUInt32 >>> ((3 : Int32) &&& 31).toUInt32).toInt32) &&& (3 : Int32))), .val (.ref b31)] [(.int (1 : Int32))]))
              have Cc38 := CC36.trans (CHr.keep KB37 (by simp) CC36.1)
              exact own_retNH X36 hx (t := .boolean) hS36 hk36_ hZ hEL Cc38 N36 hlk (by decide) (by decide) hret (by simp) (hb hby at_469) (rfl)
        show Goes _ _ _ _ _ _ (T3.setTop (mkF m 382 #[.val (.int p1), .val (.int p2), .val (.int p3), .val (.int p4), .val (.int p5), .val (.int p6), .val (.int (p3 &&& (255 : Int32))), .val (.int (p6 &&& (255 : Int32))), .val (.ref x), .val (.int v9), .val (.int (p1 &&& (7 : Int32))), .val .null, .val (.int (0 : Int32)), .val (.int (p4 &&& (7 : Int32))), s14, .val (.int (((p1.toUInt32 >>> ((3 : Int32) &&& 31).toUInt32).toInt32) &&& (3 : Int32))), .unset] []))
        refine own_iload X3 hx (hb hby at_382) rfl ?_
        by_cases hc384_39 : (((p1.toUInt32 >>> ((3 : Int32) &&& 31).toUInt32).toInt32) &&& (3 : Int32)) = (0 : Int32)
        ·
          refine own_ifNo X3 hx (hb hby at_384) ((if0 _ _).trans (teq (hc384_39 : (((p1.toUInt32 >>> ((3 : Int32) &&& 31).toUInt32).toInt32) &&& (3 : Int32)) = (0 : Int32))).2) ?_
          show Goes _ _ _ _ _ _ (T3.setTop (mkF m 387 #[.val (.int p1), .val (.int p2), .val (.int p3), .val (.int p4), .val (.int p5), .val (.int p6), .val (.int (p3 &&& (255 : Int32))), .val (.int (p6 &&& (255 : Int32))), .val (.ref x), .val (.int v9), .val (.int (p1 &&& (7 : Int32))), .val .null, .val (.int (0 : Int32)), .val (.int (p4 &&& (7 : Int32))), s14, .val (.int (((p1.toUInt32 >>> ((3 : Int32) &&& 31).toUInt32).toInt32) &&& (3 : Int32))), .unset] []))
          refine own_aconst_null X3 hx (hb hby at_387) ?_
          refine own_astore X3 hx (Ls' := #[.val (.int p1), .val (.int p2), .val (.int p3), .val (.int p4), .val (.int p5), .val (.int p6), .val (.int (p3 &&& (255 : Int32))), .val (.int (p6 &&& (255 : Int32))), .val (.ref x), .val (.int v9), .val (.int (p1 &&& (7 : Int32))), .val .null, .val (.int (0 : Int32)), .val (.int (p4 &&& (7 : Int32))), .val .null, .val (.int (((p1.toUInt32 >>> ((3 : Int32) &&& 31).toUInt32).toInt32) &&& (3 : Int32))), .unset]) (hb hby at_388) rfl (by rcases hp_s14 with rfl | ⟨_, rfl⟩ | ⟨_, rfl⟩ <;> rfl) ?_
          refine own_goto X3 hx (pc' := 426) (hb hby at_390) (by decide) (by decide) ?_
          show Goes _ _ _ _ _ _ (T3.setTop (mkF m 426 #[.val (.int p1), .val (.int p2), .val (.int p3), .val (.int p4), .val (.int p5), .val (.int p6), .val (.int (p3 &&& (255 : Int32))), .val (.int (p6 &&& (255 : Int32))), .val (.ref x), .val (.int v9), .val (.int (p1 &&& (7 : Int32))), .val .null, .val (.int (0 : Int32)), .val (.int (p4 &&& (7 : Int32))), .val .null, .val (.int (((p1.toUInt32 >>> ((3 : Int32) &&& 31).toUInt32).toInt32) &&& (3 : Int32))), .unset] []))
          have Cc40 := C3.trans (CHr.keep KB4 (by simp) C3.1)
          exact jn426_5 T3 _ vm3 _ h3 .null (X3.mono (by decide) (by decide)) hS3 hk3_ hZ hown e3 N3 O3 Cc40 KB4 (Or.inl rfl)
        ·
          refine own_ifYes X3 hx (pc' := 393) (hb hby at_384) ((if0 _ _).trans (feq (hc384_39 : ¬ ((((p1.toUInt32 >>> ((3 : Int32) &&& 31).toUInt32).toInt32) &&& (3 : Int32)) = (0 : Int32)))).2) (by decide) (by decide) ?_
          show Goes _ _ _ _ _ _ (T3.setTop (mkF m 393 #[.val (.int p1), .val (.int p2), .val (.int p3), .val (.int p4), .val (.int p5), .val (.int p6), .val (.int (p3 &&& (255 : Int32))), .val (.int (p6 &&& (255 : Int32))), .val (.ref x), .val (.int v9), .val (.int (p1 &&& (7 : Int32))), .val .null, .val (.int (0 : Int32)), .val (.int (p4 &&& (7 : Int32))), s14, .val (.int (((p1.toUInt32 >>> ((3 : Int32) &&& 31).toUInt32).toInt32) &&& (3 : Int32))), .unset] []))
          refine own_iload X3 hx (hb hby at_393) rfl ?_
          refine own_iconst X3 hx (v := (1 : Int32)) (hb hby at_395) rfl ?_
          by_cases hc396_41 : (((p1.toUInt32 >>> ((3 : Int32) &&& 31).toUInt32).toInt32) &&& (3 : Int32)) = (1 : Int32)
          ·
            refine own_icmpNo X3 hx (hb hby at_396) (teq (hc396_41 : (((p1.toUInt32 >>> ((3 : Int32) &&& 31).toUInt32).toInt32) &&& (3 : Int32)) = (1 : Int32))).2 ?_
            show Goes _ _ _ _ _ _ (T3.setTop (mkF m 399 #[.val (.int p1), .val (.int p2), .val (.int p3), .val (.int p4), .val (.int p5), .val (.int p6), .val (.int (p3 &&& (255 : Int32))), .val (.int (p6 &&& (255 : Int32))), .val (.ref x), .val (.int v9), .val (.int (p1 &&& (7 : Int32))), .val .null, .val (.int (0 : Int32)), .val (.int (p4 &&& (7 : Int32))), s14, .val (.int (((p1.toUInt32 >>> ((3 : Int32) &&& 31).toUInt32).toInt32) &&& (3 : Int32))), .unset] []))
            have Cc42 := C3.trans (CHr.keep KB4 (by simp) C3.1)
            refine own_ldcH X3 hx hZ hown hS3 hk3_ (hw _ (List.mem_of_getElem? (i := 76) rfl)) (own_wS hw) hEL (by simp [consts_1]) Cc42.1 e3 (cs := tx1) tx1_t tx1_z tx1_4 tx1_5 (n := 184) (hb hby at_399) (by decide +kernel) (by decide) (by decide) (by decide) (fun sa43 T43 h43 k1_43 X43 hS43 hk43_ hZ hown e43 E43 D43 I43 => ?_)
            have O44 := O3.ext E43
            have KC44 := KB4.ext E43
            have IS43_x := IsStr.ext IS3_x E43
            have CC43 := Cc42.trans D43
            have KB45 := Keep.refl h43 []
            show Goes _ _ _ _ _ _ (T43.setTop (mkF m 401 #[.val (.int p1), .val (.int p2), .val (.int p3), .val (.int p4), .val (.int p5), .val (.int p6), .val (.int (p3 &&& (255 : Int32))), .val (.int (p6 &&& (255 : Int32))), .val (.ref x), .val (.int v9), .val (.int (p1 &&& (7 : Int32))), .val .null, .val (.int (0 : Int32)), .val (.int (p4 &&& (7 : Int32))), s14, .val (.int (((p1.toUInt32 >>> ((3 : Int32) &&& 31).toUInt32).toInt32) &&& (3 : Int32))), .unset] [(.ref sa43)]))
            refine own_astore X43 hx (Ls' := #[.val (.int p1), .val (.int p2), .val (.int p3), .val (.int p4), .val (.int p5), .val (.int p6), .val (.int (p3 &&& (255 : Int32))), .val (.int (p6 &&& (255 : Int32))), .val (.ref x), .val (.int v9), .val (.int (p1 &&& (7 : Int32))), .val .null, .val (.int (0 : Int32)), .val (.int (p4 &&& (7 : Int32))), .val (.ref sa43), .val (.int (((p1.toUInt32 >>> ((3 : Int32) &&& 31).toUInt32).toInt32) &&& (3 : Int32))), .unset]) (hb hby at_401) rfl (by rcases hp_s14 with rfl | ⟨_, rfl⟩ | ⟨_, rfl⟩ <;> rfl) ?_
            refine own_goto X43 hx (pc' := 426) (hb hby at_403) (by decide) (by decide) ?_
            show Goes _ _ _ _ _ _ (T43.setTop (mkF m 426 #[.val (.int p1), .val (.int p2), .val (.int p3), .val (.int p4), .val (.int p5), .val (.int p6), .val (.int (p3 &&& (255 : Int32))), .val (.int (p6 &&& (255 : Int32))), .val (.ref x), .val (.int v9), .val (.int (p1 &&& (7 : Int32))), .val .null, .val (.int (0 : Int32)), .val (.int (p4 &&& (7 : Int32))), .val (.ref sa43), .val (.int (((p1.toUInt32 >>> ((3 : Int32) &&& 31).toUInt32).toInt32) &&& (3 : Int32))), .unset] []))
            have Cc46 := CC43.trans (CHr.keep KB45 (by simp) CC43.1)
            exact jn426_5 T43 _ T43.vm _ h43 (.ref sa43) (X43.mono (by decide) (by decide)) hS43 hk43_ hZ hown e43 N3 O44 Cc46 (KC44.trans KB45 all0) (Or.inr ⟨_, rfl⟩)
          ·
            refine own_icmpYes X3 hx (pc' := 406) (hb hby at_396) (feq (hc396_41 : ¬ ((((p1.toUInt32 >>> ((3 : Int32) &&& 31).toUInt32).toInt32) &&& (3 : Int32)) = (1 : Int32)))).2 (by decide) (by decide) ?_
            show Goes _ _ _ _ _ _ (T3.setTop (mkF m 406 #[.val (.int p1), .val (.int p2), .val (.int p3), .val (.int p4), .val (.int p5), .val (.int p6), .val (.int (p3 &&& (255 : Int32))), .val (.int (p6 &&& (255 : Int32))), .val (.ref x), .val (.int v9), .val (.int (p1 &&& (7 : Int32))), .val .null, .val (.int (0 : Int32)), .val (.int (p4 &&& (7 : Int32))), s14, .val (.int (((p1.toUInt32 >>> ((3 : Int32) &&& 31).toUInt32).toInt32) &&& (3 : Int32))), .unset] []))
            refine own_iload X3 hx (hb hby at_406) rfl ?_
            refine own_iconst X3 hx (v := (2 : Int32)) (hb hby at_408) rfl ?_
            by_cases hc409_47 : (((p1.toUInt32 >>> ((3 : Int32) &&& 31).toUInt32).toInt32) &&& (3 : Int32)) = (2 : Int32)
            ·
              refine own_icmpNo X3 hx (hb hby at_409) (teq (hc409_47 : (((p1.toUInt32 >>> ((3 : Int32) &&& 31).toUInt32).toInt32) &&& (3 : Int32)) = (2 : Int32))).2 ?_
              show Goes _ _ _ _ _ _ (T3.setTop (mkF m 412 #[.val (.int p1), .val (.int p2), .val (.int p3), .val (.int p4), .val (.int p5), .val (.int p6), .val (.int (p3 &&& (255 : Int32))), .val (.int (p6 &&& (255 : Int32))), .val (.ref x), .val (.int v9), .val (.int (p1 &&& (7 : Int32))), .val .null, .val (.int (0 : Int32)), .val (.int (p4 &&& (7 : Int32))), s14, .val (.int (((p1.toUInt32 >>> ((3 : Int32) &&& 31).toUInt32).toInt32) &&& (3 : Int32))), .unset] []))
              have Cc48 := C3.trans (CHr.keep KB4 (by simp) C3.1)
              refine own_ldcH X3 hx hZ hown hS3 hk3_ (hw _ (List.mem_of_getElem? (i := 90) rfl)) (own_wS hw) hEL (by simp [consts_1]) Cc48.1 e3 (cs := tx0) tx0_t tx0_z tx0_4 tx0_5 (n := 176) (hb hby at_412) (by decide +kernel) (by decide) (by decide) (by decide) (fun sa49 T49 h49 k1_49 X49 hS49 hk49_ hZ hown e49 E49 D49 I49 => ?_)
              have O50 := O3.ext E49
              have KC50 := KB4.ext E49
              have IS49_x := IsStr.ext IS3_x E49
              have CC49 := Cc48.trans D49
              have KB51 := Keep.refl h49 []
              show Goes _ _ _ _ _ _ (T49.setTop (mkF m 414 #[.val (.int p1), .val (.int p2), .val (.int p3), .val (.int p4), .val (.int p5), .val (.int p6), .val (.int (p3 &&& (255 : Int32))), .val (.int (p6 &&& (255 : Int32))), .val (.ref x), .val (.int v9), .val (.int (p1 &&& (7 : Int32))), .val .null, .val (.int (0 : Int32)), .val (.int (p4 &&& (7 : Int32))), s14, .val (.int (((p1.toUInt32 >>> ((3 : Int32) &&& 31).toUInt32).toInt32) &&& (3 : Int32))), .unset] [(.ref sa49)]))
              refine own_astore X49 hx (Ls' := #[.val (.int p1), .val (.int p2), .val (.int p3), .val (.int p4), .val (.int p5), .val (.int p6), .val (.int (p3 &&& (255 : Int32))), .val (.int (p6 &&& (255 : Int32))), .val (.ref x), .val (.int v9), .val (.int (p1 &&& (7 : Int32))), .val .null, .val (.int (0 : Int32)), .val (.int (p4 &&& (7 : Int32))), .val (.ref sa49), .val (.int (((p1.toUInt32 >>> ((3 : Int32) &&& 31).toUInt32).toInt32) &&& (3 : Int32))), .unset]) (hb hby at_414) rfl (by rcases hp_s14 with rfl | ⟨_, rfl⟩ | ⟨_, rfl⟩ <;> rfl) ?_
              refine own_goto X49 hx (pc' := 426) (hb hby at_416) (by decide) (by decide) ?_
              show Goes _ _ _ _ _ _ (T49.setTop (mkF m 426 #[.val (.int p1), .val (.int p2), .val (.int p3), .val (.int p4), .val (.int p5), .val (.int p6), .val (.int (p3 &&& (255 : Int32))), .val (.int (p6 &&& (255 : Int32))), .val (.ref x), .val (.int v9), .val (.int (p1 &&& (7 : Int32))), .val .null, .val (.int (0 : Int32)), .val (.int (p4 &&& (7 : Int32))), .val (.ref sa49), .val (.int (((p1.toUInt32 >>> ((3 : Int32) &&& 31).toUInt32).toInt32) &&& (3 : Int32))), .unset] []))
              have Cc52 := CC49.trans (CHr.keep KB51 (by simp) CC49.1)
              exact jn426_5 T49 _ T49.vm _ h49 (.ref sa49) (X49.mono (by decide) (by decide)) hS49 hk49_ hZ hown e49 N3 O50 Cc52 (KC50.trans KB51 all0) (Or.inr ⟨_, rfl⟩)
            ·
              refine own_icmpYes X3 hx (pc' := 419) (hb hby at_409) (feq (hc409_47 : ¬ ((((p1.toUInt32 >>> ((3 : Int32) &&& 31).toUInt32).toInt32) &&& (3 : Int32)) = (2 : Int32)))).2 (by decide) (by decide) ?_
              show Goes _ _ _ _ _ _ (T3.setTop (mkF m 419 #[.val (.int p1), .val (.int p2), .val (.int p3), .val (.int p4), .val (.int p5), .val (.int p6), .val (.int (p3 &&& (255 : Int32))), .val (.int (p6 &&& (255 : Int32))), .val (.ref x), .val (.int v9), .val (.int (p1 &&& (7 : Int32))), .val .null, .val (.int (0 : Int32)), .val (.int (p4 &&& (7 : Int32))), s14, .val (.int (((p1.toUInt32 >>> ((3 : Int32) &&& 31).toUInt32).toInt32) &&& (3 : Int32))), .unset] []))
              refine own_iload X3 hx (hb hby at_419) rfl ?_
              refine own_callS X3 hx hZ hown (y := (⟨"java/lang/String", "valueOf", "(C)Ljava/lang/String;"⟩ : MethodName)) (hw _ (List.mem_of_getElem? (i := 77) rfl)) (hw _ (List.mem_of_getElem? (i := 78) rfl)) (hw _ (List.mem_of_getElem? (i := 2) rfl)) (hw _ (List.mem_of_getElem? (i := 79) rfl)) (by decide) (W := 0) (by decide) (by decide) N3 e3 (by rw [hml]; rfl) (argsL := [(.int (p6 &&& (255 : Int32)))]) (rest := []) (lenOf pd_7 rfl) (Nat.le_of_eq rfl) (by decide) (by decide) (rm14 l Z a0 hw [] (p6 &&& (255 : Int32)) zc h3 n0 O3 ⟨z0, hzc, trivial⟩ (own_ch p6)) rfl (hb hby at_421) ?_
              intro v53 T53 lc53 X53 N53 hQ53
              obtain ⟨b_53, rfl, K53, r53_0, r53_1⟩ := hQ53
              have O54 := O3.keep K53 all0
              have hk54 := Nat.le_trans hk3_ K53.1
              have KC54 := KB4.trans K53 all0
              have ge_b_53 : n0 ≤ b_53 := Nat.le_trans (own_sz O3) r53_1
              have sz_b_53 : h3.size ≤ b_53 := Nat.le_trans KB4.1 r53_1
              show Goes _ _ _ _ _ _ (T53.setTop (mkF m 424 #[.val (.int p1), .val (.int p2), .val (.int p3), .val (.int p4), .val (.int p5), .val (.int p6), .val (.int (p3 &&& (255 : Int32))), .val (.int (p6 &&& (255 : Int32))), .val (.ref x), .val (.int v9), .val (.int (p1 &&& (7 : Int32))), .val .null, .val (.int (0 : Int32)), .val (.int (p4 &&& (7 : Int32))), s14, .val (.int (((p1.toUInt32 >>> ((3 : Int32) &&& 31).toUInt32).toInt32) &&& (3 : Int32))), .unset] [(.ref b_53)]))
              refine own_astore X53 hx (Ls' := #[.val (.int p1), .val (.int p2), .val (.int p3), .val (.int p4), .val (.int p5), .val (.int p6), .val (.int (p3 &&& (255 : Int32))), .val (.int (p6 &&& (255 : Int32))), .val (.ref x), .val (.int v9), .val (.int (p1 &&& (7 : Int32))), .val .null, .val (.int (0 : Int32)), .val (.int (p4 &&& (7 : Int32))), .val (.ref b_53), .val (.int (((p1.toUInt32 >>> ((3 : Int32) &&& 31).toUInt32).toInt32) &&& (3 : Int32))), .unset]) (hb hby at_424) rfl (by rcases hp_s14 with rfl | ⟨_, rfl⟩ | ⟨_, rfl⟩ <;> rfl) ?_
              show Goes _ _ _ _ _ _ (T53.setTop (mkF m 426 #[.val (.int p1), .val (.int p2), .val (.int p3), .val (.int p4), .val (.int p5), .val (.int p6), .val (.int (p3 &&& (255 : Int32))), .val (.int (p6 &&& (255 : Int32))), .val (.ref x), .val (.int v9), .val (.int (p1 &&& (7 : Int32))), .val .null, .val (.int (0 : Int32)), .val (.int (p4 &&& (7 : Int32))), .val (.ref b_53), .val (.int (((p1.toUInt32 >>> ((3 : Int32) &&& 31).toUInt32).toInt32) &&& (3 : Int32))), .unset] []))
              have Cc55 := C3.trans (CHr.keep KC54 (by simp) C3.1)
              exact jn426_5 T53 _ vm3 _ T53.heap (.ref b_53) (X53.mono (by decide) (by decide)) hS3 hk54 hZ hown rfl N53 O54 Cc55 KC54 (Or.inr ⟨_, rfl⟩)
      ·
        show Goes _ _ _ _ _ _ (T3.setTop (mkF m 375 #[.val (.int p1), .val (.int p2), .val (.int p3), .val (.int p4), .val (.int p5), .val (.int p6), .val (.int (p3 &&& (255 : Int32))), .val (.int (p6 &&& (255 : Int32))), .val (.ref x), .val (.int v9), .val (.int (p1 &&& (7 : Int32))), .val (.ref y), .val (.int v12), .val (.int (p4 &&& (7 : Int32))), s14, s15, .unset] []))
        refine own_iloadN X3 hx (hb hby at_375) rfl ?_
        refine own_iconst X3 hx (v := (3 : Int32)) (hb hby at_376) rfl ?_
        refine own_iushr X3 hx (hb hby at_377) ?_
        show Goes _ _ _ _ _ _ (T3.setTop (mkF m 378 #[.val (.int p1), .val (.int p2), .val (.int p3), .val (.int p4), .val (.int p5), .val (.int p6), .val (.int (p3 &&& (255 : Int32))), .val (.int (p6 &&& (255 : Int32))), .val (.ref x), .val (.int v9), .val (.int (p1 &&& (7 : Int32))), .val (.ref y), .val (.int v12), .val (.int (p4 &&& (7 : Int32))), s14, s15, .unset] [(.int ((p1.toUInt32 >>> ((3 : Int32) &&& 31).toUInt32).toInt32))]))
        refine own_iconst X3 hx (v := (3 : Int32)) (hb hby at_378) rfl ?_
        refine own_iand X3 hx (hb hby at_379) ?_
        refine own_istore X3 hx (Ls' := #[.val (.int p1), .val (.int p2), .val (.int p3), .val (.int p4), .val (.int p5), .val (.int p6), .val (.int (p3 &&& (255 : Int32))), .val (.int (p6 &&& (255 : Int32))), .val (.ref x), .val (.int v9), .val (.int (p1 &&& (7 : Int32))), .val (.ref y), .val (.int v12), .val (.int (p4 &&& (7 : Int32))), s14, .val (.int (((p1.toUInt32 >>> ((3 : Int32) &&& 31).toUInt32).toInt32) &&& (3 : Int32))), .unset]) (hb hby at_380) (by rcases hp_s15 with rfl | ⟨_, rfl⟩ | ⟨_, rfl⟩ <;> rfl) ?_
        show Goes _ _ _ _ _ _ (T3.setTop (mkF m 382 #[.val (.int p1), .val (.int p2), .val (.int p3), .val (.int p4), .val (.int p5), .val (.int p6), .val (.int (p3 &&& (255 : Int32))), .val (.int (p6 &&& (255 : Int32))), .val (.ref x), .val (.int v9), .val (.int (p1 &&& (7 : Int32))), .val (.ref y), .val (.int v12), .val (.int (p4 &&& (7 : Int32))), s14, .val (.int (((p1.toUInt32 >>> ((3 : Int32) &&& 31).toUInt32).toInt32) &&& (3 : Int32))), .unset] []))
        have jn426_56 : ∀ (T56 : State) (lc56 : List Loc) (vm56 : Vm) (kk56 : Nat) (h56 : Heap) (zv : Value) (X56 : Stand p l e room_1 (s.setVm vm56) m #[(.int p1), (.int p2), (.int p3), (.int p4), (.int p5), (.int p6)] below meth c T56 lc56 20 900) (hS56 : s.Since vm56 kk56) (hk56_ : kk56 ≤ h56.size) (hZ : Z.Warmed39 (s.setVm vm56).vm) (hown : (s.setVm vm56).vm.findClass "com/example/ketenwacht/ketenwacht/model/SamlStatusIsCancellationPinLaw" = some m.cls) (e56 : T56.heap = h56) (N56 : Fr n0 lc56) (O56 : Old Z n0 h56) (C56 : CHr Z consts_1 s.vm h0 vm56 h56) (KK56 : Keep h3 h56 []) (hz3 : zv = .null ∨ ∃ z : Addr, zv = .ref z), Goes p e below (fun o t L => CHr Z consts_1 s.vm h0 t.vm t.heap ∧ ReturnedEndW s o t L (48) (8704)) n0 (Q0 Z p1 p2 p3 p4 p5 p6 zc h0 n0) (T56.setTop (mkF m 426 #[.val (.int p1), .val (.int p2), .val (.int p3), .val (.int p4), .val (.int p5), .val (.int p6), .val (.int (p3 &&& (255 : Int32))), .val (.int (p6 &&& (255 : Int32))), .val (.ref x), .val (.int v9), .val (.int (p1 &&& (7 : Int32))), .val (.ref y), .val (.int v12), .val (.int (p4 &&& (7 : Int32))), .val zv, .val (.int (((p1.toUInt32 >>> ((3 : Int32) &&& 31).toUInt32).toInt32) &&& (3 : Int32))), .unset] [])) := by
          intro T56 lc56 vm56 kk56 h56 zv X56 hS56 hk56_ hZ hown e56 N56 O56 C56 KK56 hz3
          have IS56_x := IsStr.keep0 IS3_x KK56
          have IS56_y := IsStr.keep0 i2 KK56
          have KB57 := Keep.refl h56 []
          rcases hz3 with rfl | ⟨z, rfl⟩
          ·
            rcases hok with ⟨rfl, hcs⟩ | ⟨rfl, hcs⟩
            ·
              rcases hok2 with ⟨rfl, hds⟩ | ⟨rfl, hds⟩
              ·
                have hphi : cs = tx0 ∧ ds = tx1 := ⟨hcs, hds⟩
                show Goes _ _ _ _ _ _ (T56.setTop (mkF m 426 #[.val (.int p1), .val (.int p2), .val (.int p3), .val (.int p4), .val (.int p5), .val (.int p6), .val (.int (p3 &&& (255 : Int32))), .val (.int (p6 &&& (255 : Int32))), .val (.ref x), .val (.int (1 : Int32)), .val (.int (p1 &&& (7 : Int32))), .val (.ref y), .val (.int (1 : Int32)), .val (.int (p4 &&& (7 : Int32))), .val .null, .val (.int (((p1.toUInt32 >>> ((3 : Int32) &&& 31).toUInt32).toInt32) &&& (3 : Int32))), .unset] []))
                refine own_new X56 hx hZ hown (hw _ (List.mem_of_getElem? (i := 38) rfl)) (hw _ (List.mem_of_getElem? (i := 39) rfl)) (hw _ (List.mem_of_getElem? (i := 40) rfl)) e56 (hb hby at_426) (by decide) (by decide) (fun T58 h58 b58 g58 X58 e58 E58 A58 D58 => ?_)
                have ge_b58 : n0 ≤ b58 := Nat.le_trans (own_sz O56) (Nat.le_of_eq g58.symm)
                have sz_b58 : h56.size ≤ b58 := Nat.le_trans KB57.1 (Nat.le_of_eq g58.symm)
                have O59 := O56.ext E58
                have hk59 := Nat.le_trans hk56_ E58.1
                have KC59 := KB57.ext E58
                have F58_code_b58 : Fld Z h58 b58 "com/example/ketenwacht/ketenwacht/model/SamlStatus" "code" "Ljava/lang/String;" .null := D58 (Or.inr (hw _ (List.mem_of_getElem? (i := 51) rfl))) (ty := (.object "java/lang/String")) (by decide)
                have F58_subCode_b58 : Fld Z h58 b58 "com/example/ketenwacht/ketenwacht/model/SamlStatus" "subCode" "Ljava/lang/String;" .null := D58 (Or.inr (hw _ (List.mem_of_getElem? (i := 53) rfl))) (ty := (.object "java/lang/String")) (by decide)
                have F58_message_b58 : Fld Z h58 b58 "com/example/ketenwacht/ketenwacht/model/SamlStatus" "message" "Ljava/lang/String;" .null := D58 (Or.inr (hw _ (List.mem_of_getElem? (i := 55) rfl))) (ty := (.object "java/lang/String")) (by decide)
                show Goes _ _ _ _ _ _ (T58.setTop (mkF m 429 #[.val (.int p1), .val (.int p2), .val (.int p3), .val (.int p4), .val (.int p5), .val (.int p6), .val (.int (p3 &&& (255 : Int32))), .val (.int (p6 &&& (255 : Int32))), .val (.ref x), .val (.int (1 : Int32)), .val (.int (p1 &&& (7 : Int32))), .val (.ref y), .val (.int (1 : Int32)), .val (.int (p4 &&& (7 : Int32))), .val .null, .val (.int (((p1.toUInt32 >>> ((3 : Int32) &&& 31).toUInt32).toInt32) &&& (3 : Int32))), .unset] [(.ref b58)]))
                refine own_dup X58 hx (hb hby at_429) rfl ?_
                refine own_aload X58 hx (hb hby at_430) rfl rfl ?_
                refine own_aload X58 hx (hb hby at_432) rfl rfl ?_
                show Goes _ _ _ _ _ _ (T58.setTop (mkF m 434 #[.val (.int p1), .val (.int p2), .val (.int p3), .val (.int p4), .val (.int p5), .val (.int p6), .val (.int (p3 &&& (255 : Int32))), .val (.int (p6 &&& (255 : Int32))), .val (.ref x), .val (.int (1 : Int32)), .val (.int (p1 &&& (7 : Int32))), .val (.ref y), .val (.int (1 : Int32)), .val (.int (p4 &&& (7 : Int32))), .val .null, .val (.int (((p1.toUInt32 >>> ((3 : Int32) &&& 31).toUInt32).toInt32) &&& (3 : Int32))), .unset] [(.ref y), (.ref x), (.ref b58), (.ref b58)]))
                refine own_aload X58 hx (hb hby at_434) rfl rfl ?_
                refine own_special X58 hx hZ hown (y := (⟨"com/example/ketenwacht/ketenwacht/model/SamlStatus", "<init>", "(Ljava/lang/String;Ljava/lang/String;Ljava/lang/String;)V"⟩ : MethodName)) rfl (hw _ (List.mem_of_getElem? (i := 41) rfl)) (hw _ (List.mem_of_getElem? (i := 42) rfl)) (hw _ (List.mem_of_getElem? (i := 40) rfl)) (hw _ (List.mem_of_getElem? (i := 43) rfl)) (a := b58) (by decide) (W := 1) (by decide) (by decide) N56 e58 (by rw [hml]; rfl) (argsL := [(.ref x), (.ref y), .null]) (rest := [(.ref b58)]) (lenOf pd_5 rfl) (Nat.le_of_eq rfl) (by decide) (by decide) (rm9m l Z a0 hw [] b58 x y (.null) (.null) (.null) h58 n0 O59 A58 F58_code_b58 F58_subCode_b58 F58_message_b58 ge_b58) rfl (hb hby at_436) ?_
                intro v60 T60 lc60 X60 N60 hQ60
                obtain ⟨rfl, K60, r60_0, r60_1, r60_2, r60_3⟩ := hQ60
                have O61 := O59.keep K60 (allS ge_b58 all0)
                have hk61 := Nat.le_trans hk59 K60.1
                have KC61 := KC59.trans K60 (allS (Or.inr sz_b58) all0)
                show Goes _ _ _ _ _ _ (T60.setTop (mkF m 439 #[.val (.int p1), .val (.int p2), .val (.int p3), .val (.int p4), .val (.int p5), .val (.int p6), .val (.int (p3 &&& (255 : Int32))), .val (.int (p6 &&& (255 : Int32))), .val (.ref x), .val (.int (1 : Int32)), .val (.int (p1 &&& (7 : Int32))), .val (.ref y), .val (.int (1 : Int32)), .val (.int (p4 &&& (7 : Int32))), .val .null, .val (.int (((p1.toUInt32 >>> ((3 : Int32) &&& 31).toUInt32).toInt32) &&& (3 : Int32))), .unset] [(.ref b58)]))
                refine own_astore X60 hx (Ls' := #[.val (.int p1), .val (.int p2), .val (.int p3), .val (.int p4), .val (.int p5), .val (.int p6), .val (.int (p3 &&& (255 : Int32))), .val (.int (p6 &&& (255 : Int32))), .val (.ref x), .val (.int (1 : Int32)), .val (.int (p1 &&& (7 : Int32))), .val (.ref y), .val (.int (1 : Int32)), .val (.int (p4 &&& (7 : Int32))), .val .null, .val (.int (((p1.toUInt32 >>> ((3 : Int32) &&& 31).toUInt32).toInt32) &&& (3 : Int32))), .val (.ref b58)]) (hb hby at_439) rfl rfl ?_
                refine own_aload X60 hx (hb hby at_441) rfl rfl ?_
                have Cc62 := C56.trans (CHr.keep KC61 (by simp) C56.1)
                refine own_virtualH X60 hx hZ hown hS56 hk61 (y := (⟨"com/example/ketenwacht/ketenwacht/model/SamlStatus", "isCancellation", "()Z"⟩ : MethodName)) (z := (⟨"com/example/ketenwacht/ketenwacht/model/SamlStatus", "isCancellation", "()Z"⟩ : MethodName)) (hw _ (List.mem_of_getElem? (i := 56) rfl)) (hw _ (List.mem_of_getElem? (i := 57) rfl)) (notFace_of_selects (args := #[]) (mvT hZ (hw _ (List.mem_of_getElem? (i := 59) rfl)))) (hw _ (List.mem_of_getElem? (i := 59) rfl)) (hw _ (List.mem_of_getElem? (i := 58) rfl)) (hw _ (List.mem_of_getElem? (i := 40) rfl)) (hw _ (List.mem_of_getElem? (i := 60) rfl)) (a := b58) r60_0 hEL Cc62.1 (by decide) (W := 0) (by decide) (by decide) N60 rfl (by rw [hml]; rfl) (argsL := []) (rest := []) (lenOf pd_6 rfl) (Nat.le_of_eq rfl) (by decide) (by decide) (rm11s l Z a0 hw hEL [] b58 x y cs ds zc T60.heap n0 O61 ⟨z0, hzc, trivial⟩ r60_0 r60_1 r60_2 (IsStr.keep0 IS56_x KC61) (IsStr.keep0 IS56_y KC61)) rfl (hb hby at_443) ?_
                intro v63 T63 lc63 k1_63 X63 hS63 hk63_ hZ hown N63 D63 hQ63
                have CC63 := Cc62.trans D63
                obtain rfl := hQ63
                have KB64 := Keep.refl T63.heap []
                show Goes _ _ _ _ _ _ (T63.setTop (mkF m 446 #[.val (.int p1), .val (.int p2), .val (.int p3), .val (.int p4), .val (.int p5), .val (.int p6), .val (.int (p3 &&& (255 : Int32))), .val (.int (p6 &&& (255 : Int32))), .val (.ref x), .val (.int (1 : Int32)), .val (.int (p1 &&& (7 : Int32))), .val (.ref y), .val (.int (1 : Int32)), .val (.int (p4 &&& (7 : Int32))), .val .null, .val (.int (((p1.toUInt32 >>> ((3 : Int32) &&& 31).toUInt32).toInt32) &&& (3 : Int32))), .val (.ref b58)] [(.int (if cs = tx0 ∧ ds = tx1 then (1 : Int32) else (0 : Int32)))]))
                refine own_iload X63 hx (hb hby at_446) rfl ?_
                refine own_ifNo X63 hx (hb hby at_448) ((if0 _ _).trans (feq (by decide : ¬ ((1 : Int32) = (0 : Int32)))).1) ?_
                show Goes _ _ _ _ _ _ (T63.setTop (mkF m 451 #[.val (.int p1), .val (.int p2), .val (.int p3), .val (.int p4), .val (.int p5), .val (.int p6), .val (.int (p3 &&& (255 : Int32))), .val (.int (p6 &&& (255 : Int32))), .val (.ref x), .val (.int (1 : Int32)), .val (.int (p1 &&& (7 : Int32))), .val (.ref y), .val (.int (1 : Int32)), .val (.int (p4 &&& (7 : Int32))), .val .null, .val (.int (((p1.toUInt32 >>> ((3 : Int32) &&& 31).toUInt32).toInt32) &&& (3 : Int32))), .val (.ref b58)] [(.int (if cs = tx0 ∧ ds = tx1 then (1 : Int32) else (0 : Int32)))]))
                refine own_iload X63 hx (hb hby at_451) rfl ?_
                refine own_ifNo X63 hx (hb hby at_453) ((if0 _ _).trans (feq (by decide : ¬ ((1 : Int32) = (0 : Int32)))).1) ?_
                show Goes _ _ _ _ _ _ (T63.setTop (mkF m 456 #[.val (.int p1), .val (.int p2), .val (.int p3), .val (.int p4), .val (.int p5), .val (.int p6), .val (.int (p3 &&& (255 : Int32))), .val (.int (p6 &&& (255 : Int32))), .val (.ref x), .val (.int (1 : Int32)), .val (.int (p1 &&& (7 : Int32))), .val (.ref y), .val (.int (1 : Int32)), .val (.int (p4 &&& (7 : Int32))), .val .null, .val (.int (((p1.toUInt32 >>> ((3 : Int32) &&& 31).toUInt32).toInt32) &&& (3 : Int32))), .val (.ref b58)] [(.int (if cs = tx0 ∧ ds = tx1 then (1 : Int32) else (0 : Int32)))]))
                refine own_iconst X63 hx (v := (1 : Int32)) (hb hby at_456) rfl ?_
                refine own_goto X63 hx (pc' := 461) (hb hby at_457) (by decide) (by decide) ?_
                refine own_icmpNo X63 hx (hb hby at_461) (teq ((by first | (rw [if_pos hphi]; done) | (rw [if_pos hphi]; decide)) : (if cs = tx0 ∧ ds = tx1 then (1 : Int32) else (0 : Int32)) = (1 : Int32))).2 ?_
                show Goes _ _ _ _ _ _ (T63.setTop (mkF m 464 #[.val (.int p1), .val (.int p2), .val (.int p3), .val (.int p4), .val (.int p5), .val (.int p6), .val (.int (p3 &&& (255 : Int32))), .val (.int (p6 &&& (255 : Int32))), .val (.ref x), .val (.int (1 : Int32)), .val (.int (p1 &&& (7 : Int32))), .val (.ref y), .val (.int (1 : Int32)), .val (.int (p4 &&& (7 : Int32))), .val .null, .val (.int (((p1.toUInt32 >>> ((3 : Int32) &&& 31).toUInt32).toInt32) &&& (3 : Int32))), .val (.ref b58)] []))
                refine own_iconst X63 hx (v := (1 : Int32)) (hb hby at_464) rfl ?_
                refine own_goto X63 hx (pc' := 469) (hb hby at_465) (by decide) (by decide) ?_
                show Goes _ _ _ _ _ _ (T63.setTop (mkF m 469 #[.val (.int p1), .val (.int p2), .val (.int p3), .val (.int p4), .val (.int p5), .val (.int p6), .val (.int (p3 &&& (255 : Int32))), .val (.int (p6 &&& (255 : Int32))), .val (.ref x), .val (.int (1 : Int32)), .val (.int (p1 &&& (7 : Int32))), .val (.ref y), .val (.int (1 : Int32)), .val (.int (p4 &&& (7 : Int32))), .val .null, .val (.int (((p1.toUInt32 >>> ((3 : Int32) &&& 31).toUInt32).toInt32) &&& (3 : Int32))), .val (.ref b58)] [(.int (1 : Int32))]))
                have Cc65 := CC63.trans (CHr.keep KB64 (by simp) CC63.1)
                exact own_retNH X63 hx (t := .boolean) hS63 hk63_ hZ hEL Cc65 N63 hlk (by decide) (by decide) hret (by simp) (hb hby at_469) (rfl)
              ·
                have hphi : ¬ (cs = tx0 ∧ ds = tx1) := fun q => hds q.2
                show Goes _ _ _ _ _ _ (T56.setTop (mkF m 426 #[.val (.int p1), .val (.int p2), .val (.int p3), .val (.int p4), .val (.int p5), .val (.int p6), .val (.int (p3 &&& (255 : Int32))), .val (.int (p6 &&& (255 : Int32))), .val (.ref x), .val (.int (1 : Int32)), .val (.int (p1 &&& (7 : Int32))), .val (.ref y), .val (.int (0 : Int32)), .val (.int (p4 &&& (7 : Int32))), .val .null, .val (.int (((p1.toUInt32 >>> ((3 : Int32) &&& 31).toUInt32).toInt32) &&& (3 : Int32))), .unset] []))
                refine own_new X56 hx hZ hown (hw _ (List.mem_of_getElem? (i := 38) rfl)) (hw _ (List.mem_of_getElem? (i := 39) rfl)) (hw _ (List.mem_of_getElem? (i := 40) rfl)) e56 (hb hby at_426) (by decide) (by decide) (fun T66 h66 b66 g66 X66 e66 E66 A66 D66 => ?_)
                have ge_b66 : n0 ≤ b66 := Nat.le_trans (own_sz O56) (Nat.le_of_eq g66.symm)
                have sz_b66 : h56.size ≤ b66 := Nat.le_trans KB57.1 (Nat.le_of_eq g66.symm)
                have O67 := O56.ext E66
                have hk67 := Nat.le_trans hk56_ E66.1
                have KC67 := KB57.ext E66
                have F66_code_b66 : Fld Z h66 b66 "com/example/ketenwacht/ketenwacht/model/SamlStatus" "code" "Ljava/lang/String;" .null := D66 (Or.inr (hw _ (List.mem_of_getElem? (i := 51) rfl))) (ty := (.object "java/lang/String")) (by decide)
                have F66_subCode_b66 : Fld Z h66 b66 "com/example/ketenwacht/ketenwacht/model/SamlStatus" "subCode" "Ljava/lang/String;" .null := D66 (Or.inr (hw _ (List.mem_of_getElem? (i := 53) rfl))) (ty := (.object "java/lang/String")) (by decide)
                have F66_message_b66 : Fld Z h66 b66 "com/example/ketenwacht/ketenwacht/model/SamlStatus" "message" "Ljava/lang/String;" .null := D66 (Or.inr (hw _ (List.mem_of_getElem? (i := 55) rfl))) (ty := (.object "java/lang/String")) (by decide)
                show Goes _ _ _ _ _ _ (T66.setTop (mkF m 429 #[.val (.int p1), .val (.int p2), .val (.int p3), .val (.int p4), .val (.int p5), .val (.int p6), .val (.int (p3 &&& (255 : Int32))), .val (.int (p6 &&& (255 : Int32))), .val (.ref x), .val (.int (1 : Int32)), .val (.int (p1 &&& (7 : Int32))), .val (.ref y), .val (.int (0 : Int32)), .val (.int (p4 &&& (7 : Int32))), .val .null, .val (.int (((p1.toUInt32 >>> ((3 : Int32) &&& 31).toUInt32).toInt32) &&& (3 : Int32))), .unset] [(.ref b66)]))
                refine own_dup X66 hx (hb hby at_429) rfl ?_
                refine own_aload X66 hx (hb hby at_430) rfl rfl ?_
                refine own_aload X66 hx (hb hby at_432) rfl rfl ?_
                show Goes _ _ _ _ _ _ (T66.setTop (mkF m 434 #[.val (.int p1), .val (.int p2), .val (.int p3), .val (.int p4), .val (.int p5), .val (.int p6), .val (.int (p3 &&& (255 : Int32))), .val (.int (p6 &&& (255 : Int32))), .val (.ref x), .val (.int (1 : Int32)), .val (.int (p1 &&& (7 : Int32))), .val (.ref y), .val (.int (0 : Int32)), .val (.int (p4 &&& (7 : Int32))), .val .null, .val (.int (((p1.toUInt32 >>> ((3 : Int32) &&& 31).toUInt32).toInt32) &&& (3 : Int32))), .unset] [(.ref y), (.ref x), (.ref b66), (.ref b66)]))
                refine own_aload X66 hx (hb hby at_434) rfl rfl ?_
                refine own_special X66 hx hZ hown (y := (⟨"com/example/ketenwacht/ketenwacht/model/SamlStatus", "<init>", "(Ljava/lang/String;Ljava/lang/String;Ljava/lang/String;)V"⟩ : MethodName)) rfl (hw _ (List.mem_of_getElem? (i := 41) rfl)) (hw _ (List.mem_of_getElem? (i := 42) rfl)) (hw _ (List.mem_of_getElem? (i := 40) rfl)) (hw _ (List.mem_of_getElem? (i := 43) rfl)) (a := b66) (by decide) (W := 1) (by decide) (by decide) N56 e66 (by rw [hml]; rfl) (argsL := [(.ref x), (.ref y), .null]) (rest := [(.ref b66)]) (lenOf pd_5 rfl) (Nat.le_of_eq rfl) (by decide) (by decide) (rm9m l Z a0 hw [] b66 x y (.null) (.null) (.null) h66 n0 O67 A66 F66_code_b66 F66_subCode_b66 F66_message_b66 ge_b66) rfl (hb hby at_436) ?_
                intro v68 T68 lc68 X68 N68 hQ68
                obtain ⟨rfl, K68, r68_0, r68_1, r68_2, r68_3⟩ := hQ68
                have O69 := O67.keep K68 (allS ge_b66 all0)
                have hk69 := Nat.le_trans hk67 K68.1
                have KC69 := KC67.trans K68 (allS (Or.inr sz_b66) all0)
                show Goes _ _ _ _ _ _ (T68.setTop (mkF m 439 #[.val (.int p1), .val (.int p2), .val (.int p3), .val (.int p4), .val (.int p5), .val (.int p6), .val (.int (p3 &&& (255 : Int32))), .val (.int (p6 &&& (255 : Int32))), .val (.ref x), .val (.int (1 : Int32)), .val (.int (p1 &&& (7 : Int32))), .val (.ref y), .val (.int (0 : Int32)), .val (.int (p4 &&& (7 : Int32))), .val .null, .val (.int (((p1.toUInt32 >>> ((3 : Int32) &&& 31).toUInt32).toInt32) &&& (3 : Int32))), .unset] [(.ref b66)]))
                refine own_astore X68 hx (Ls' := #[.val (.int p1), .val (.int p2), .val (.int p3), .val (.int p4), .val (.int p5), .val (.int p6), .val (.int (p3 &&& (255 : Int32))), .val (.int (p6 &&& (255 : Int32))), .val (.ref x), .val (.int (1 : Int32)), .val (.int (p1 &&& (7 : Int32))), .val (.ref y), .val (.int (0 : Int32)), .val (.int (p4 &&& (7 : Int32))), .val .null, .val (.int (((p1.toUInt32 >>> ((3 : Int32) &&& 31).toUInt32).toInt32) &&& (3 : Int32))), .val (.ref b66)]) (hb hby at_439) rfl rfl ?_
                refine own_aload X68 hx (hb hby at_441) rfl rfl ?_
                have Cc70 := C56.trans (CHr.keep KC69 (by simp) C56.1)
                refine own_virtualH X68 hx hZ hown hS56 hk69 (y := (⟨"com/example/ketenwacht/ketenwacht/model/SamlStatus", "isCancellation", "()Z"⟩ : MethodName)) (z := (⟨"com/example/ketenwacht/ketenwacht/model/SamlStatus", "isCancellation", "()Z"⟩ : MethodName)) (hw _ (List.mem_of_getElem? (i := 56) rfl)) (hw _ (List.mem_of_getElem? (i := 57) rfl)) (notFace_of_selects (args := #[]) (mvT hZ (hw _ (List.mem_of_getElem? (i := 59) rfl)))) (hw _ (List.mem_of_getElem? (i := 59) rfl)) (hw _ (List.mem_of_getElem? (i := 58) rfl)) (hw _ (List.mem_of_getElem? (i := 40) rfl)) (hw _ (List.mem_of_getElem? (i := 60) rfl)) (a := b66) r68_0 hEL Cc70.1 (by decide) (W := 0) (by decide) (by decide) N68 rfl (by rw [hml]; rfl) (argsL := []) (rest := []) (lenOf pd_6 rfl) (Nat.le_of_eq rfl) (by decide) (by decide) (rm11s l Z a0 hw hEL [] b66 x y cs ds zc T68.heap n0 O69 ⟨z0, hzc, trivial⟩ r68_0 r68_1 r68_2 (IsStr.keep0 IS56_x KC69) (IsStr.keep0 IS56_y KC69)) rfl (hb hby at_443) ?_
                intro v71 T71 lc71 k1_71 X71 hS71 hk71_ hZ hown N71 D71 hQ71
                have CC71 := Cc70.trans D71
                obtain rfl := hQ71
                have KB72 := Keep.refl T71.heap []
                show Goes _ _ _ _ _ _ (T71.setTop (mkF m 446 #[.val (.int p1), .val (.int p2), .val (.int p3), .val (.int p4), .val (.int p5), .val (.int p6), .val (.int (p3 &&& (255 : Int32))), .val (.int (p6 &&& (255 : Int32))), .val (.ref x), .val (.int (1 : Int32)), .val (.int (p1 &&& (7 : Int32))), .val (.ref y), .val (.int (0 : Int32)), .val (.int (p4 &&& (7 : Int32))), .val .null, .val (.int (((p1.toUInt32 >>> ((3 : Int32) &&& 31).toUInt32).toInt32) &&& (3 : Int32))), .val (.ref b66)] [(.int (if cs = tx0 ∧ ds = tx1 then (1 : Int32) else (0 : Int32)))]))
                refine own_iload X71 hx (hb hby at_446) rfl ?_
                refine own_ifNo X71 hx (hb hby at_448) ((if0 _ _).trans (feq (by decide : ¬ ((1 : Int32) = (0 : Int32)))).1) ?_
                show Goes _ _ _ _ _ _ (T71.setTop (mkF m 451 #[.val (.int p1), .val (.int p2), .val (.int p3), .val (.int p4), .val (.int p5), .val (.int p6), .val (.int (p3 &&& (255 : Int32))), .val (.int (p6 &&& (255 : Int32))), .val (.ref x), .val (.int (1 : Int32)), .val (.int (p1 &&& (7 : Int32))), .val (.ref y), .val (.int (0 : Int32)), .val (.int (p4 &&& (7 : Int32))), .val .null, .val (.int (((p1.toUInt32 >>> ((3 : Int32) &&& 31).toUInt32).toInt32) &&& (3 : Int32))), .val (.ref b66)] [(.int (if cs = tx0 ∧ ds = tx1 then (1 : Int32) else (0 : Int32)))]))
                refine own_iload X71 hx (hb hby at_451) rfl ?_
                refine own_ifYes X71 hx (pc' := 460) (hb hby at_453) ((if0 _ _).trans (teq (by decide : (0 : Int32) = (0 : Int32))).1) (by decide) (by decide) ?_
                show Goes _ _ _ _ _ _ (T71.setTop (mkF m 460 #[.val (.int p1), .val (.int p2), .val (.int p3), .val (.int p4), .val (.int p5), .val (.int p6), .val (.int (p3 &&& (255 : Int32))), .val (.int (p6 &&& (255 : Int32))), .val (.ref x), .val (.int (1 : Int32)), .val (.int (p1 &&& (7 : Int32))), .val (.ref y), .val (.int (0 : Int32)), .val (.int (p4 &&& (7 : Int32))), .val .null, .val (.int (((p1.toUInt32 >>> ((3 : Int32) &&& 31).toUInt32).toInt32) &&& (3 : Int32))), .val (.ref b66)] [(.int (if cs = tx0 ∧ ds = tx1 then (1 : Int32) else (0 : Int32)))]))
                refine own_iconst X71 hx (v := (0 : Int32)) (hb hby at_460) rfl ?_
                refine own_icmpNo X71 hx (hb hby at_461) (teq ((by first | (rw [if_neg hphi]; done) | (rw [if_neg hphi]; decide)) : (if cs = tx0 ∧ ds = tx1 then (1 : Int32) else (0 : Int32)) = (0 : Int32))).2 ?_
                show Goes _ _ _ _ _ _ (T71.setTop (mkF m 464 #[.val (.int p1), .val (.int p2), .val (.int p3), .val (.int p4), .val (.int p5), .val (.int p6), .val (.int (p3 &&& (255 : Int32))), .val (.int (p6 &&& (255 : Int32))), .val (.ref x), .val (.int (1 : Int32)), .val (.int (p1 &&& (7 : Int32))), .val (.ref y), .val (.int (0 : Int32)), .val (.int (p4 &&& (7 : Int32))), .val .null, .val (.int (((p1.toUInt32 >>> ((3 : Int32) &&& 31).toUInt32).toInt32) &&& (3 : Int32))), .val (.ref b66)] []))
                refine own_iconst X71 hx (v := (1 : Int32)) (hb hby at_464) rfl ?_
                refine own_goto X71 hx (pc' := 469) (hb hby at_465) (by decide) (by decide) ?_
                show Goes _ _ _ _ _ _ (T71.setTop (mkF m 469 #[.val (.int p1), .val (.int p2), .val (.int p3), .val (.int p4), .val (.int p5), .val (.int p6), .val (.int (p3 &&& (255 : Int32))), .val (.int (p6 &&& (255 : Int32))), .val (.ref x), .val (.int (1 : Int32)), .val (.int (p1 &&& (7 : Int32))), .val (.ref y), .val (.int (0 : Int32)), .val (.int (p4 &&& (7 : Int32))), .val .null, .val (.int (((p1.toUInt32 >>> ((3 : Int32) &&& 31).toUInt32).toInt32) &&& (3 : Int32))), .val (.ref b66)] [(.int (1 : Int32))]))
                have Cc73 := CC71.trans (CHr.keep KB72 (by simp) CC71.1)
                exact own_retNH X71 hx (t := .boolean) hS71 hk71_ hZ hEL Cc73 N71 hlk (by decide) (by decide) hret (by simp) (hb hby at_469) (rfl)
            ·
              rcases hok2 with ⟨rfl, hds⟩ | ⟨rfl, hds⟩
              ·
                have hphi : ¬ (cs = tx0 ∧ ds = tx1) := fun q => hcs q.1
                show Goes _ _ _ _ _ _ (T56.setTop (mkF m 426 #[.val (.int p1), .val (.int p2), .val (.int p3), .val (.int p4), .val (.int p5), .val (.int p6), .val (.int (p3 &&& (255 : Int32))), .val (.int (p6 &&& (255 : Int32))), .val (.ref x), .val (.int (0 : Int32)), .val (.int (p1 &&& (7 : Int32))), .val (.ref y), .val (.int (1 : Int32)), .val (.int (p4 &&& (7 : Int32))), .val .null, .val (.int (((p1.toUInt32 >>> ((3 : Int32) &&& 31).toUInt32).toInt32) &&& (3 : Int32))), .unset] []))
                refine own_new X56 hx hZ hown (hw _ (List.mem_of_getElem? (i := 38) rfl)) (hw _ (List.mem_of_getElem? (i := 39) rfl)) (hw _ (List.mem_of_getElem? (i := 40) rfl)) e56 (hb hby at_426) (by decide) (by decide) (fun T74 h74 b74 g74 X74 e74 E74 A74 D74 => ?_)
                have ge_b74 : n0 ≤ b74 := Nat.le_trans (own_sz O56) (Nat.le_of_eq g74.symm)
                have sz_b74 : h56.size ≤ b74 := Nat.le_trans KB57.1 (Nat.le_of_eq g74.symm)
                have O75 := O56.ext E74
                have hk75 := Nat.le_trans hk56_ E74.1
                have KC75 := KB57.ext E74
                have F74_code_b74 : Fld Z h74 b74 "com/example/ketenwacht/ketenwacht/model/SamlStatus" "code" "Ljava/lang/String;" .null := D74 (Or.inr (hw _ (List.mem_of_getElem? (i := 51) rfl))) (ty := (.object "java/lang/String")) (by decide)
                have F74_subCode_b74 : Fld Z h74 b74 "com/example/ketenwacht/ketenwacht/model/SamlStatus" "subCode" "Ljava/lang/String;" .null := D74 (Or.inr (hw _ (List.mem_of_getElem? (i := 53) rfl))) (ty := (.object "java/lang/String")) (by decide)
                have F74_message_b74 : Fld Z h74 b74 "com/example/ketenwacht/ketenwacht/model/SamlStatus" "message" "Ljava/lang/String;" .null := D74 (Or.inr (hw _ (List.mem_of_getElem? (i := 55) rfl))) (ty := (.object "java/lang/String")) (by decide)
                show Goes _ _ _ _ _ _ (T74.setTop (mkF m 429 #[.val (.int p1), .val (.int p2), .val (.int p3), .val (.int p4), .val (.int p5), .val (.int p6), .val (.int (p3 &&& (255 : Int32))), .val (.int (p6 &&& (255 : Int32))), .val (.ref x), .val (.int (0 : Int32)), .val (.int (p1 &&& (7 : Int32))), .val (.ref y), .val (.int (1 : Int32)), .val (.int (p4 &&& (7 : Int32))), .val .null, .val (.int (((p1.toUInt32 >>> ((3 : Int32) &&& 31).toUInt32).toInt32) &&& (3 : Int32))), .unset] [(.ref b74)]))
                refine own_dup X74 hx (hb hby at_429) rfl ?_
                refine own_aload X74 hx (hb hby at_430) rfl rfl ?_
                refine own_aload X74 hx (hb hby at_432) rfl rfl ?_
                show Goes _ _ _ _ _ _ (T74.setTop (mkF m 434 #[.val (.int p1), .val (.int p2), .val (.int p3), .val (.int p4), .val (.int p5), .val (.int p6), .val (.int (p3 &&& (255 : Int32))), .val (.int (p6 &&& (255 : Int32))), .val (.ref x), .val (.int (0 : Int32)), .val (.int (p1 &&& (7 : Int32))), .val (.ref y), .val (.int (1 : Int32)), .val (.int (p4 &&& (7 : Int32))), .val .null, .val (.int (((p1.toUInt32 >>> ((3 : Int32) &&& 31).toUInt32).toInt32) &&& (3 : Int32))), .unset] [(.ref y), (.ref x), (.ref b74), (.ref b74)]))
                refine own_aload X74 hx (hb hby at_434) rfl rfl ?_
                refine own_special X74 hx hZ hown (y := (⟨"com/example/ketenwacht/ketenwacht/model/SamlStatus", "<init>", "(Ljava/lang/String;Ljava/lang/String;Ljava/lang/String;)V"⟩ : MethodName)) rfl (hw _ (List.mem_of_getElem? (i := 41) rfl)) (hw _ (List.mem_of_getElem? (i := 42) rfl)) (hw _ (List.mem_of_getElem? (i := 40) rfl)) (hw _ (List.mem_of_getElem? (i := 43) rfl)) (a := b74) (by decide) (W := 1) (by decide) (by decide) N56 e74 (by rw [hml]; rfl) (argsL := [(.ref x), (.ref y), .null]) (rest := [(.ref b74)]) (lenOf pd_5 rfl) (Nat.le_of_eq rfl) (by decide) (by decide) (rm9m l Z a0 hw [] b74 x y (.null) (.null) (.null) h74 n0 O75 A74 F74_code_b74 F74_subCode_b74 F74_message_b74 ge_b74) rfl (hb hby at_436) ?_
                intro v76 T76 lc76 X76 N76 hQ76
                obtain ⟨rfl, K76, r76_0, r76_1, r76_2, r76_3⟩ := hQ76
                have O77 := O75.keep K76 (allS ge_b74 all0)
                have hk77 := Nat.le_trans hk75 K76.1
                have KC77 := KC75.trans K76 (allS (Or.inr sz_b74) all0)
                show Goes _ _ _ _ _ _ (T76.setTop (mkF m 439 #[.val (.int p1), .val (.int p2), .val (.int p3), .val (.int p4), .val (.int p5), .val (.int p6), .val (.int (p3 &&& (255 : Int32))), .val (.int (p6 &&& (255 : Int32))), .val (.ref x), .val (.int (0 : Int32)), .val (.int (p1 &&& (7 : Int32))), .val (.ref y), .val (.int (1 : Int32)), .val (.int (p4 &&& (7 : Int32))), .val .null, .val (.int (((p1.toUInt32 >>> ((3 : Int32) &&& 31).toUInt32).toInt32) &&& (3 : Int32))), .unset] [(.ref b74)]))
                refine own_astore X76 hx (Ls' := #[.val (.int p1), .val (.int p2), .val (.int p3), .val (.int p4), .val (.int p5), .val (.int p6), .val (.int (p3 &&& (255 : Int32))), .val (.int (p6 &&& (255 : Int32))), .val (.ref x), .val (.int (0 : Int32)), .val (.int (p1 &&& (7 : Int32))), .val (.ref y), .val (.int (1 : Int32)), .val (.int (p4 &&& (7 : Int32))), .val .null, .val (.int (((p1.toUInt32 >>> ((3 : Int32) &&& 31).toUInt32).toInt32) &&& (3 : Int32))), .val (.ref b74)]) (hb hby at_439) rfl rfl ?_
                refine own_aload X76 hx (hb hby at_441) rfl rfl ?_
                have Cc78 := C56.trans (CHr.keep KC77 (by simp) C56.1)
                refine own_virtualH X76 hx hZ hown hS56 hk77 (y := (⟨"com/example/ketenwacht/ketenwacht/model/SamlStatus", "isCancellation", "()Z"⟩ : MethodName)) (z := (⟨"com/example/ketenwacht/ketenwacht/model/SamlStatus", "isCancellation", "()Z"⟩ : MethodName)) (hw _ (List.mem_of_getElem? (i := 56) rfl)) (hw _ (List.mem_of_getElem? (i := 57) rfl)) (notFace_of_selects (args := #[]) (mvT hZ (hw _ (List.mem_of_getElem? (i := 59) rfl)))) (hw _ (List.mem_of_getElem? (i := 59) rfl)) (hw _ (List.mem_of_getElem? (i := 58) rfl)) (hw _ (List.mem_of_getElem? (i := 40) rfl)) (hw _ (List.mem_of_getElem? (i := 60) rfl)) (a := b74) r76_0 hEL Cc78.1 (by decide) (W := 0) (by decide) (by decide) N76 rfl (by rw [hml]; rfl) (argsL := []) (rest := []) (lenOf pd_6 rfl) (Nat.le_of_eq rfl) (by decide) (by decide) (rm11s l Z a0 hw hEL [] b74 x y cs ds zc T76.heap n0 O77 ⟨z0, hzc, trivial⟩ r76_0 r76_1 r76_2 (IsStr.keep0 IS56_x KC77) (IsStr.keep0 IS56_y KC77)) rfl (hb hby at_443) ?_
                intro v79 T79 lc79 k1_79 X79 hS79 hk79_ hZ hown N79 D79 hQ79
                have CC79 := Cc78.trans D79
                obtain rfl := hQ79
                have KB80 := Keep.refl T79.heap []
                show Goes _ _ _ _ _ _ (T79.setTop (mkF m 446 #[.val (.int p1), .val (.int p2), .val (.int p3), .val (.int p4), .val (.int p5), .val (.int p6), .val (.int (p3 &&& (255 : Int32))), .val (.int (p6 &&& (255 : Int32))), .val (.ref x), .val (.int (0 : Int32)), .val (.int (p1 &&& (7 : Int32))), .val (.ref y), .val (.int (1 : Int32)), .val (.int (p4 &&& (7 : Int32))), .val .null, .val (.int (((p1.toUInt32 >>> ((3 : Int32) &&& 31).toUInt32).toInt32) &&& (3 : Int32))), .val (.ref b74)] [(.int (if cs = tx0 ∧ ds = tx1 then (1 : Int32) else (0 : Int32)))]))
                refine own_iload X79 hx (hb hby at_446) rfl ?_
                refine own_ifYes X79 hx (pc' := 460) (hb hby at_448) ((if0 _ _).trans (teq (by decide : (0 : Int32) = (0 : Int32))).1) (by decide) (by decide) ?_
                show Goes _ _ _ _ _ _ (T79.setTop (mkF m 460 #[.val (.int p1), .val (.int p2), .val (.int p3), .val (.int p4), .val (.int p5), .val (.int p6), .val (.int (p3 &&& (255 : Int32))), .val (.int (p6 &&& (255 : Int32))), .val (.ref x), .val (.int (0 : Int32)), .val (.int (p1 &&& (7 : Int32))), .val (.ref y), .val (.int (1 : Int32)), .val (.int (p4 &&& (7 : Int32))), .val .null, .val (.int (((p1.toUInt32 >>> ((3 : Int32) &&& 31).toUInt32).toInt32) &&& (3 : Int32))), .val (.ref b74)] [(.int (if cs = tx0 ∧ ds = tx1 then (1 : Int32) else (0 : Int32)))]))
                refine own_iconst X79 hx (v := (0 : Int32)) (hb hby at_460) rfl ?_
                refine own_icmpNo X79 hx (hb hby at_461) (teq ((by first | (rw [if_neg hphi]; done) | (rw [if_neg hphi]; decide)) : (if cs = tx0 ∧ ds = tx1 then (1 : Int32) else (0 : Int32)) = (0 : Int32))).2 ?_
                show Goes _ _ _ _ _ _ (T79.setTop (mkF m 464 #[.val (.int p1), .val (.int p2), .val (.int p3), .val (.int p4), .val (.int p5), .val (.int p6), .val (.int (p3 &&& (255 : Int32))), .val (.int (p6 &&& (255 : Int32))), .val (.ref x), .val (.int (0 : Int32)), .val (.int (p1 &&& (7 : Int32))), .val (.ref y), .val (.int (1 : Int32)), .val (.int (p4 &&& (7 : Int32))), .val .null, .val (.int (((p1.toUInt32 >>> ((3 : Int32) &&& 31).toUInt32).toInt32) &&& (3 : Int32))), .val (.ref b74)] []))
                refine own_iconst X79 hx (v := (1 : Int32)) (hb hby at_464) rfl ?_
                refine own_goto X79 hx (pc' := 469) (hb hby at_465) (by decide) (by decide) ?_
                show Goes _ _ _ _ _ _ (T79.setTop (mkF m 469 #[.val (.int p1), .val (.int p2), .val (.int p3), .val (.int p4), .val (.int p5), .val (.int p6), .val (.int (p3 &&& (255 : Int32))), .val (.int (p6 &&& (255 : Int32))), .val (.ref x), .val (.int (0 : Int32)), .val (.int (p1 &&& (7 : Int32))), .val (.ref y), .val (.int (1 : Int32)), .val (.int (p4 &&& (7 : Int32))), .val .null, .val (.int (((p1.toUInt32 >>> ((3 : Int32) &&& 31).toUInt32).toInt32) &&& (3 : Int32))), .val (.ref b74)] [(.int (1 : Int32))]))
                have Cc81 := CC79.trans (CHr.keep KB80 (by simp) CC79.1)
                exact own_retNH X79 hx (t := .boolean) hS79 hk79_ hZ hEL Cc81 N79 hlk (by decide) (by decide) hret (by simp) (hb hby at_469) (rfl)
              ·
                have hphi : ¬ (cs = tx0 ∧ ds = tx1) := fun q => hcs q.1
                show Goes _ _ _ _ _ _ (T56.setTop (mkF m 426 #[.val (.int p1), .val (.int p2), .val (.int p3), .val (.int p4), .val (.int p5), .val (.int p6), .val (.int (p3 &&& (255 : Int32))), .val (.int (p6 &&& (255 : Int32))), .val (.ref x), .val (.int (0 : Int32)), .val (.int (p1 &&& (7 : Int32))), .val (.ref y), .val (.int (0 : Int32)), .val (.int (p4 &&& (7 : Int32))), .val .null, .val (.int (((p1.toUInt32 >>> ((3 : Int32) &&& 31).toUInt32).toInt32) &&& (3 : Int32))), .unset] []))
                refine own_new X56 hx hZ hown (hw _ (List.mem_of_getElem? (i := 38) rfl)) (hw _ (List.mem_of_getElem? (i := 39) rfl)) (hw _ (List.mem_of_getElem? (i := 40) rfl)) e56 (hb hby at_426) (by decide) (by decide) (fun T82 h82 b82 g82 X82 e82 E82 A82 D82 => ?_)
                have ge_b82 : n0 ≤ b82 := Nat.le_trans (own_sz O56) (Nat.le_of_eq g82.symm)
                have sz_b82 : h56.size ≤ b82 := Nat.le_trans KB57.1 (Nat.le_of_eq g82.symm)
                have O83 := O56.ext E82
                have hk83 := Nat.le_trans hk56_ E82.1
                have KC83 := KB57.ext E82
                have F82_code_b82 : Fld Z h82 b82 "com/example/ketenwacht/ketenwacht/model/SamlStatus" "code" "Ljava/lang/String;" .null := D82 (Or.inr (hw _ (List.mem_of_getElem? (i := 51) rfl))) (ty := (.object "java/lang/String")) (by decide)
                have F82_subCode_b82 : Fld Z h82 b82 "com/example/ketenwacht/ketenwacht/model/SamlStatus" "subCode" "Ljava/lang/String;" .null := D82 (Or.inr (hw _ (List.mem_of_getElem? (i := 53) rfl))) (ty := (.object "java/lang/String")) (by decide)
                have F82_message_b82 : Fld Z h82 b82 "com/example/ketenwacht/ketenwacht/model/SamlStatus" "message" "Ljava/lang/String;" .null := D82 (Or.inr (hw _ (List.mem_of_getElem? (i := 55) rfl))) (ty := (.object "java/lang/String")) (by decide)
                show Goes _ _ _ _ _ _ (T82.setTop (mkF m 429 #[.val (.int p1), .val (.int p2), .val (.int p3), .val (.int p4), .val (.int p5), .val (.int p6), .val (.int (p3 &&& (255 : Int32))), .val (.int (p6 &&& (255 : Int32))), .val (.ref x), .val (.int (0 : Int32)), .val (.int (p1 &&& (7 : Int32))), .val (.ref y), .val (.int (0 : Int32)), .val (.int (p4 &&& (7 : Int32))), .val .null, .val (.int (((p1.toUInt32 >>> ((3 : Int32) &&& 31).toUInt32).toInt32) &&& (3 : Int32))), .unset] [(.ref b82)]))
                refine own_dup X82 hx (hb hby at_429) rfl ?_
                refine own_aload X82 hx (hb hby at_430) rfl rfl ?_
                refine own_aload X82 hx (hb hby at_432) rfl rfl ?_
                show Goes _ _ _ _ _ _ (T82.setTop (mkF m 434 #[.val (.int p1), .val (.int p2), .val (.int p3), .val (.int p4), .val (.int p5), .val (.int p6), .val (.int (p3 &&& (255 : Int32))), .val (.int (p6 &&& (255 : Int32))), .val (.ref x), .val (.int (0 : Int32)), .val (.int (p1 &&& (7 : Int32))), .val (.ref y), .val (.int (0 : Int32)), .val (.int (p4 &&& (7 : Int32))), .val .null, .val (.int (((p1.toUInt32 >>> ((3 : Int32) &&& 31).toUInt32).toInt32) &&& (3 : Int32))), .unset] [(.ref y), (.ref x), (.ref b82), (.ref b82)]))
                refine own_aload X82 hx (hb hby at_434) rfl rfl ?_
                refine own_special X82 hx hZ hown (y := (⟨"com/example/ketenwacht/ketenwacht/model/SamlStatus", "<init>", "(Ljava/lang/String;Ljava/lang/String;Ljava/lang/String;)V"⟩ : MethodName)) rfl (hw _ (List.mem_of_getElem? (i := 41) rfl)) (hw _ (List.mem_of_getElem? (i := 42) rfl)) (hw _ (List.mem_of_getElem? (i := 40) rfl)) (hw _ (List.mem_of_getElem? (i := 43) rfl)) (a := b82) (by decide) (W := 1) (by decide) (by decide) N56 e82 (by rw [hml]; rfl) (argsL := [(.ref x), (.ref y), .null]) (rest := [(.ref b82)]) (lenOf pd_5 rfl) (Nat.le_of_eq rfl) (by decide) (by decide) (rm9m l Z a0 hw [] b82 x y (.null) (.null) (.null) h82 n0 O83 A82 F82_code_b82 F82_subCode_b82 F82_message_b82 ge_b82) rfl (hb hby at_436) ?_
                intro v84 T84 lc84 X84 N84 hQ84
                obtain ⟨rfl, K84, r84_0, r84_1, r84_2, r84_3⟩ := hQ84
                have O85 := O83.keep K84 (allS ge_b82 all0)
                have hk85 := Nat.le_trans hk83 K84.1
                have KC85 := KC83.trans K84 (allS (Or.inr sz_b82) all0)
                show Goes _ _ _ _ _ _ (T84.setTop (mkF m 439 #[.val (.int p1), .val (.int p2), .val (.int p3), .val (.int p4), .val (.int p5), .val (.int p6), .val (.int (p3 &&& (255 : Int32))), .val (.int (p6 &&& (255 : Int32))), .val (.ref x), .val (.int (0 : Int32)), .val (.int (p1 &&& (7 : Int32))), .val (.ref y), .val (.int (0 : Int32)), .val (.int (p4 &&& (7 : Int32))), .val .null, .val (.int (((p1.toUInt32 >>> ((3 : Int32) &&& 31).toUInt32).toInt32) &&& (3 : Int32))), .unset] [(.ref b82)]))
                refine own_astore X84 hx (Ls' := #[.val (.int p1), .val (.int p2), .val (.int p3), .val (.int p4), .val (.int p5), .val (.int p6), .val (.int (p3 &&& (255 : Int32))), .val (.int (p6 &&& (255 : Int32))), .val (.ref x), .val (.int (0 : Int32)), .val (.int (p1 &&& (7 : Int32))), .val (.ref y), .val (.int (0 : Int32)), .val (.int (p4 &&& (7 : Int32))), .val .null, .val (.int (((p1.toUInt32 >>> ((3 : Int32) &&& 31).toUInt32).toInt32) &&& (3 : Int32))), .val (.ref b82)]) (hb hby at_439) rfl rfl ?_
                refine own_aload X84 hx (hb hby at_441) rfl rfl ?_
                have Cc86 := C56.trans (CHr.keep KC85 (by simp) C56.1)
                refine own_virtualH X84 hx hZ hown hS56 hk85 (y := (⟨"com/example/ketenwacht/ketenwacht/model/SamlStatus", "isCancellation", "()Z"⟩ : MethodName)) (z := (⟨"com/example/ketenwacht/ketenwacht/model/SamlStatus", "isCancellation", "()Z"⟩ : MethodName)) (hw _ (List.mem_of_getElem? (i := 56) rfl)) (hw _ (List.mem_of_getElem? (i := 57) rfl)) (notFace_of_selects (args := #[]) (mvT hZ (hw _ (List.mem_of_getElem? (i := 59) rfl)))) (hw _ (List.mem_of_getElem? (i := 59) rfl)) (hw _ (List.mem_of_getElem? (i := 58) rfl)) (hw _ (List.mem_of_getElem? (i := 40) rfl)) (hw _ (List.mem_of_getElem? (i := 60) rfl)) (a := b82) r84_0 hEL Cc86.1 (by decide) (W := 0) (by decide) (by decide) N84 rfl (by rw [hml]; rfl) (argsL := []) (rest := []) (lenOf pd_6 rfl) (Nat.le_of_eq rfl) (by decide) (by decide) (rm11s l Z a0 hw hEL [] b82 x y cs ds zc T84.heap n0 O85 ⟨z0, hzc, trivial⟩ r84_0 r84_1 r84_2 (IsStr.keep0 IS56_x KC85) (IsStr.keep0 IS56_y KC85)) rfl (hb hby at_443) ?_
                intro v87 T87 lc87 k1_87 X87 hS87 hk87_ hZ hown N87 D87 hQ87
                have CC87 := Cc86.trans D87
                obtain rfl := hQ87
                have KB88 := Keep.refl T87.heap []
                show Goes _ _ _ _ _ _ (T87.setTop (mkF m 446 #[.val (.int p1), .val (.int p2), .val (.int p3), .val (.int p4), .val (.int p5), .val (.int p6), .val (.int (p3 &&& (255 : Int32))), .val (.int (p6 &&& (255 : Int32))), .val (.ref x), .val (.int (0 : Int32)), .val (.int (p1 &&& (7 : Int32))), .val (.ref y), .val (.int (0 : Int32)), .val (.int (p4 &&& (7 : Int32))), .val .null, .val (.int (((p1.toUInt32 >>> ((3 : Int32) &&& 31).toUInt32).toInt32) &&& (3 : Int32))), .val (.ref b82)] [(.int (if cs = tx0 ∧ ds = tx1 then (1 : Int32) else (0 : Int32)))]))
                refine own_iload X87 hx (hb hby at_446) rfl ?_
                refine own_ifYes X87 hx (pc' := 460) (hb hby at_448) ((if0 _ _).trans (teq (by decide : (0 : Int32) = (0 : Int32))).1) (by decide) (by decide) ?_
                show Goes _ _ _ _ _ _ (T87.setTop (mkF m 460 #[.val (.int p1), .val (.int p2), .val (.int p3), .val (.int p4), .val (.int p5), .val (.int p6), .val (.int (p3 &&& (255 : Int32))), .val (.int (p6 &&& (255 : Int32))), .val (.ref x), .val (.int (0 : Int32)), .val (.int (p1 &&& (7 : Int32))), .val (.ref y), .val (.int (0 : Int32)), .val (.int (p4 &&& (7 : Int32))), .val .null, .val (.int (((p1.toUInt32 >>> ((3 : Int32) &&& 31).toUInt32).toInt32) &&& (3 : Int32))), .val (.ref b82)] [(.int (if cs = tx0 ∧ ds = tx1 then (1 : Int32) else (0 : Int32)))]))
                refine own_iconst X87 hx (v := (0 : Int32)) (hb hby at_460) rfl ?_
                refine own_icmpNo X87 hx (hb hby at_461) (teq ((by first | (rw [if_neg hphi]; done) | (rw [if_neg hphi]; decide)) : (if cs = tx0 ∧ ds = tx1 then (1 : Int32) else (0 : Int32)) = (0 : Int32))).2 ?_
                show Goes _ _ _ _ _ _ (T87.setTop (mkF m 464 #[.val (.int p1), .val (.int p2), .val (.int p3), .val (.int p4), .val (.int p5), .val (.int p6), .val (.int (p3 &&& (255 : Int32))), .val (.int (p6 &&& (255 : Int32))), .val (.ref x), .val (.int (0 : Int32)), .val (.int (p1 &&& (7 : Int32))), .val (.ref y), .val (.int (0 : Int32)), .val (.int (p4 &&& (7 : Int32))), .val .null, .val (.int (((p1.toUInt32 >>> ((3 : Int32) &&& 31).toUInt32).toInt32) &&& (3 : Int32))), .val (.ref b82)] []))
                refine own_iconst X87 hx (v := (1 : Int32)) (hb hby at_464) rfl ?_
                refine own_goto X87 hx (pc' := 469) (hb hby at_465) (by decide) (by decide) ?_
                show Goes _ _ _ _ _ _ (T87.setTop (mkF m 469 #[.val (.int p1), .val (.int p2), .val (.int p3), .val (.int p4), .val (.int p5), .val (.int p6), .val (.int (p3 &&& (255 : Int32))), .val (.int (p6 &&& (255 : Int32))), .val (.ref x), .val (.int (0 : Int32)), .val (.int (p1 &&& (7 : Int32))), .val (.ref y), .val (.int (0 : Int32)), .val (.int (p4 &&& (7 : Int32))), .val .null, .val (.int (((p1.toUInt32 >>> ((3 : Int32) &&& 31).toUInt32).toInt32) &&& (3 : Int32))), .val (.ref b82)] [(.int (1 : Int32))]))
                have Cc89 := CC87.trans (CHr.keep KB88 (by simp) CC87.1)
                exact own_retNH X87 hx (t := .boolean) hS87 hk87_ hZ hEL Cc89 N87 hlk (by decide) (by decide) hret (by simp) (hb hby at_469) (rfl)
          ·
            rcases hok with ⟨rfl, hcs⟩ | ⟨rfl, hcs⟩
            ·
              rcases hok2 with ⟨rfl, hds⟩ | ⟨rfl, hds⟩
              ·
                have hphi : cs = tx0 ∧ ds = tx1 := ⟨hcs, hds⟩
                show Goes _ _ _ _ _ _ (T56.setTop (mkF m 426 #[.val (.int p1), .val (.int p2), .val (.int p3), .val (.int p4), .val (.int p5), .val (.int p6), .val (.int (p3 &&& (255 : Int32))), .val (.int (p6 &&& (255 : Int32))), .val (.ref x), .val (.int (1 : Int32)), .val (.int (p1 &&& (7 : Int32))), .val (.ref y), .val (.int (1 : Int32)), .val (.int (p4 &&& (7 : Int32))), .val (.ref z), .val (.int (((p1.toUInt32 >>> ((3 : Int32) &&& 31).toUInt32).toInt32) &&& (3 : Int32))), .unset] []))
                refine own_new X56 hx hZ hown (hw _ (List.mem_of_getElem? (i := 38) rfl)) (hw _ (List.mem_of_getElem? (i := 39) rfl)) (hw _ (List.mem_of_getElem? (i := 40) rfl)) e56 (hb hby at_426) (by decide) (by decide) (fun T90 h90 b90 g90 X90 e90 E90 A90 D90 => ?_)
                have ge_b90 : n0 ≤ b90 := Nat.le_trans (own_sz O56) (Nat.le_of_eq g90.symm)
                have sz_b90 : h56.size ≤ b90 := Nat.le_trans KB57.1 (Nat.le_of_eq g90.symm)
                have O91 := O56.ext E90
                have hk91 := Nat.le_trans hk56_ E90.1
                have KC91 := KB57.ext E90
                have F90_code_b90 : Fld Z h90 b90 "com/example/ketenwacht/ketenwacht/model/SamlStatus" "code" "Ljava/lang/String;" .null := D90 (Or.inr (hw _ (List.mem_of_getElem? (i := 51) rfl))) (ty := (.object "java/lang/String")) (by decide)
                have F90_subCode_b90 : Fld Z h90 b90 "com/example/ketenwacht/ketenwacht/model/SamlStatus" "subCode" "Ljava/lang/String;" .null := D90 (Or.inr (hw _ (List.mem_of_getElem? (i := 53) rfl))) (ty := (.object "java/lang/String")) (by decide)
                have F90_message_b90 : Fld Z h90 b90 "com/example/ketenwacht/ketenwacht/model/SamlStatus" "message" "Ljava/lang/String;" .null := D90 (Or.inr (hw _ (List.mem_of_getElem? (i := 55) rfl))) (ty := (.object "java/lang/String")) (by decide)
                show Goes _ _ _ _ _ _ (T90.setTop (mkF m 429 #[.val (.int p1), .val (.int p2), .val (.int p3), .val (.int p4), .val (.int p5), .val (.int p6), .val (.int (p3 &&& (255 : Int32))), .val (.int (p6 &&& (255 : Int32))), .val (.ref x), .val (.int (1 : Int32)), .val (.int (p1 &&& (7 : Int32))), .val (.ref y), .val (.int (1 : Int32)), .val (.int (p4 &&& (7 : Int32))), .val (.ref z), .val (.int (((p1.toUInt32 >>> ((3 : Int32) &&& 31).toUInt32).toInt32) &&& (3 : Int32))), .unset] [(.ref b90)]))
                refine own_dup X90 hx (hb hby at_429) rfl ?_
                refine own_aload X90 hx (hb hby at_430) rfl rfl ?_
                refine own_aload X90 hx (hb hby at_432) rfl rfl ?_
                show Goes _ _ _ _ _ _ (T90.setTop (mkF m 434 #[.val (.int p1), .val (.int p2), .val (.int p3), .val (.int p4), .val (.int p5), .val (.int p6), .val (.int (p3 &&& (255 : Int32))), .val (.int (p6 &&& (255 : Int32))), .val (.ref x), .val (.int (1 : Int32)), .val (.int (p1 &&& (7 : Int32))), .val (.ref y), .val (.int (1 : Int32)), .val (.int (p4 &&& (7 : Int32))), .val (.ref z), .val (.int (((p1.toUInt32 >>> ((3 : Int32) &&& 31).toUInt32).toInt32) &&& (3 : Int32))), .unset] [(.ref y), (.ref x), (.ref b90), (.ref b90)]))
                refine own_aload X90 hx (hb hby at_434) rfl rfl ?_
                refine own_special X90 hx hZ hown (y := (⟨"com/example/ketenwacht/ketenwacht/model/SamlStatus", "<init>", "(Ljava/lang/String;Ljava/lang/String;Ljava/lang/String;)V"⟩ : MethodName)) rfl (hw _ (List.mem_of_getElem? (i := 41) rfl)) (hw _ (List.mem_of_getElem? (i := 42) rfl)) (hw _ (List.mem_of_getElem? (i := 40) rfl)) (hw _ (List.mem_of_getElem? (i := 43) rfl)) (a := b90) (by decide) (W := 1) (by decide) (by decide) N56 e90 (by rw [hml]; rfl) (argsL := [(.ref x), (.ref y), (.ref z)]) (rest := [(.ref b90)]) (lenOf pd_5 rfl) (Nat.le_of_eq rfl) (by decide) (by decide) (rm9 l Z a0 hw [] b90 x y z (.null) (.null) (.null) h90 n0 O91 A90 F90_code_b90 F90_subCode_b90 F90_message_b90 ge_b90) rfl (hb hby at_436) ?_
                intro v92 T92 lc92 X92 N92 hQ92
                obtain ⟨rfl, K92, r92_0, r92_1, r92_2, r92_3⟩ := hQ92
                have O93 := O91.keep K92 (allS ge_b90 all0)
                have hk93 := Nat.le_trans hk91 K92.1
                have KC93 := KC91.trans K92 (allS (Or.inr sz_b90) all0)
                show Goes _ _ _ _ _ _ (T92.setTop (mkF m 439 #[.val (.int p1), .val (.int p2), .val (.int p3), .val (.int p4), .val (.int p5), .val (.int p6), .val (.int (p3 &&& (255 : Int32))), .val (.int (p6 &&& (255 : Int32))), .val (.ref x), .val (.int (1 : Int32)), .val (.int (p1 &&& (7 : Int32))), .val (.ref y), .val (.int (1 : Int32)), .val (.int (p4 &&& (7 : Int32))), .val (.ref z), .val (.int (((p1.toUInt32 >>> ((3 : Int32) &&& 31).toUInt32).toInt32) &&& (3 : Int32))), .unset] [(.ref b90)]))
                refine own_astore X92 hx (Ls' := #[.val (.int p1), .val (.int p2), .val (.int p3), .val (.int p4), .val (.int p5), .val (.int p6), .val (.int (p3 &&& (255 : Int32))), .val (.int (p6 &&& (255 : Int32))), .val (.ref x), .val (.int (1 : Int32)), .val (.int (p1 &&& (7 : Int32))), .val (.ref y), .val (.int (1 : Int32)), .val (.int (p4 &&& (7 : Int32))), .val (.ref z), .val (.int (((p1.toUInt32 >>> ((3 : Int32) &&& 31).toUInt32).toInt32) &&& (3 : Int32))), .val (.ref b90)]) (hb hby at_439) rfl rfl ?_
                refine own_aload X92 hx (hb hby at_441) rfl rfl ?_
                have Cc94 := C56.trans (CHr.keep KC93 (by simp) C56.1)
                refine own_virtualH X92 hx hZ hown hS56 hk93 (y := (⟨"com/example/ketenwacht/ketenwacht/model/SamlStatus", "isCancellation", "()Z"⟩ : MethodName)) (z := (⟨"com/example/ketenwacht/ketenwacht/model/SamlStatus", "isCancellation", "()Z"⟩ : MethodName)) (hw _ (List.mem_of_getElem? (i := 56) rfl)) (hw _ (List.mem_of_getElem? (i := 57) rfl)) (notFace_of_selects (args := #[]) (mvT hZ (hw _ (List.mem_of_getElem? (i := 59) rfl)))) (hw _ (List.mem_of_getElem? (i := 59) rfl)) (hw _ (List.mem_of_getElem? (i := 58) rfl)) (hw _ (List.mem_of_getElem? (i := 40) rfl)) (hw _ (List.mem_of_getElem? (i := 60) rfl)) (a := b90) r92_0 hEL Cc94.1 (by decide) (W := 0) (by decide) (by decide) N92 rfl (by rw [hml]; rfl) (argsL := []) (rest := []) (lenOf pd_6 rfl) (Nat.le_of_eq rfl) (by decide) (by decide) (rm11s l Z a0 hw hEL [] b90 x y cs ds zc T92.heap n0 O93 ⟨z0, hzc, trivial⟩ r92_0 r92_1 r92_2 (IsStr.keep0 IS56_x KC93) (IsStr.keep0 IS56_y KC93)) rfl (hb hby at_443) ?_
                intro v95 T95 lc95 k1_95 X95 hS95 hk95_ hZ hown N95 D95 hQ95
                have CC95 := Cc94.trans D95
                obtain rfl := hQ95
                have KB96 := Keep.refl T95.heap []
                show Goes _ _ _ _ _ _ (T95.setTop (mkF m 446 #[.val (.int p1), .val (.int p2), .val (.int p3), .val (.int p4), .val (.int p5), .val (.int p6), .val (.int (p3 &&& (255 : Int32))), .val (.int (p6 &&& (255 : Int32))), .val (.ref x), .val (.int (1 : Int32)), .val (.int (p1 &&& (7 : Int32))), .val (.ref y), .val (.int (1 : Int32)), .val (.int (p4 &&& (7 : Int32))), .val (.ref z), .val (.int (((p1.toUInt32 >>> ((3 : Int32) &&& 31).toUInt32).toInt32) &&& (3 : Int32))), .val (.ref b90)] [(.int (if cs = tx0 ∧ ds = tx1 then (1 : Int32) else (0 : Int32)))]))
                refine own_iload X95 hx (hb hby at_446) rfl ?_
                refine own_ifNo X95 hx (hb hby at_448) ((if0 _ _).trans (feq (by decide : ¬ ((1 : Int32) = (0 : Int32)))).1) ?_
                show Goes _ _ _ _ _ _ (T95.setTop (mkF m 451 #[.val (.int p1), .val (.int p2), .val (.int p3), .val (.int p4), .val (.int p5), .val (.int p6), .val (.int (p3 &&& (255 : Int32))), .val (.int (p6 &&& (255 : Int32))), .val (.ref x), .val (.int (1 : Int32)), .val (.int (p1 &&& (7 : Int32))), .val (.ref y), .val (.int (1 : Int32)), .val (.int (p4 &&& (7 : Int32))), .val (.ref z), .val (.int (((p1.toUInt32 >>> ((3 : Int32) &&& 31).toUInt32).toInt32) &&& (3 : Int32))), .val (.ref b90)] [(.int (if cs = tx0 ∧ ds = tx1 then (1 : Int32) else (0 : Int32)))]))
                refine own_iload X95 hx (hb hby at_451) rfl ?_
                refine own_ifNo X95 hx (hb hby at_453) ((if0 _ _).trans (feq (by decide : ¬ ((1 : Int32) = (0 : Int32)))).1) ?_
                show Goes _ _ _ _ _ _ (T95.setTop (mkF m 456 #[.val (.int p1), .val (.int p2), .val (.int p3), .val (.int p4), .val (.int p5), .val (.int p6), .val (.int (p3 &&& (255 : Int32))), .val (.int (p6 &&& (255 : Int32))), .val (.ref x), .val (.int (1 : Int32)), .val (.int (p1 &&& (7 : Int32))), .val (.ref y), .val (.int (1 : Int32)), .val (.int (p4 &&& (7 : Int32))), .val (.ref z), .val (.int (((p1.toUInt32 >>> ((3 : Int32) &&& 31).toUInt32).toInt32) &&& (3 : Int32))), .val (.ref b90)] [(.int (if cs = tx0 ∧ ds = tx1 then (1 : Int32) else (0 : Int32)))]))
                refine own_iconst X95 hx (v := (1 : Int32)) (hb hby at_456) rfl ?_
                refine own_goto X95 hx (pc' := 461) (hb hby at_457) (by decide) (by decide) ?_
                refine own_icmpNo X95 hx (hb hby at_461) (teq ((by first | (rw [if_pos hphi]; done) | (rw [if_pos hphi]; decide)) : (if cs = tx0 ∧ ds = tx1 then (1 : Int32) else (0 : Int32)) = (1 : Int32))).2 ?_
                show Goes _ _ _ _ _ _ (T95.setTop (mkF m 464 #[.val (.int p1), .val (.int p2), .val (.int p3), .val (.int p4), .val (.int p5), .val (.int p6), .val (.int (p3 &&& (255 : Int32))), .val (.int (p6 &&& (255 : Int32))), .val (.ref x), .val (.int (1 : Int32)), .val (.int (p1 &&& (7 : Int32))), .val (.ref y), .val (.int (1 : Int32)), .val (.int (p4 &&& (7 : Int32))), .val (.ref z), .val (.int (((p1.toUInt32 >>> ((3 : Int32) &&& 31).toUInt32).toInt32) &&& (3 : Int32))), .val (.ref b90)] []))
                refine own_iconst X95 hx (v := (1 : Int32)) (hb hby at_464) rfl ?_
                refine own_goto X95 hx (pc' := 469) (hb hby at_465) (by decide) (by decide) ?_
                show Goes _ _ _ _ _ _ (T95.setTop (mkF m 469 #[.val (.int p1), .val (.int p2), .val (.int p3), .val (.int p4), .val (.int p5), .val (.int p6), .val (.int (p3 &&& (255 : Int32))), .val (.int (p6 &&& (255 : Int32))), .val (.ref x), .val (.int (1 : Int32)), .val (.int (p1 &&& (7 : Int32))), .val (.ref y), .val (.int (1 : Int32)), .val (.int (p4 &&& (7 : Int32))), .val (.ref z), .val (.int (((p1.toUInt32 >>> ((3 : Int32) &&& 31).toUInt32).toInt32) &&& (3 : Int32))), .val (.ref b90)] [(.int (1 : Int32))]))
                have Cc97 := CC95.trans (CHr.keep KB96 (by simp) CC95.1)
                exact own_retNH X95 hx (t := .boolean) hS95 hk95_ hZ hEL Cc97 N95 hlk (by decide) (by decide) hret (by simp) (hb hby at_469) (rfl)
              ·
                have hphi : ¬ (cs = tx0 ∧ ds = tx1) := fun q => hds q.2
                show Goes _ _ _ _ _ _ (T56.setTop (mkF m 426 #[.val (.int p1), .val (.int p2), .val (.int p3), .val (.int p4), .val (.int p5), .val (.int p6), .val (.int (p3 &&& (255 : Int32))), .val (.int (p6 &&& (255 : Int32))), .val (.ref x), .val (.int (1 : Int32)), .val (.int (p1 &&& (7 : Int32))), .val (.ref y), .val (.int (0 : Int32)), .val (.int (p4 &&& (7 : Int32))), .val (.ref z), .val (.int (((p1.toUInt32 >>> ((3 : Int32) &&& 31).toUInt32).toInt32) &&& (3 : Int32))), .unset] []))
                refine own_new X56 hx hZ hown (hw _ (List.mem_of_getElem? (i := 38) rfl)) (hw _ (List.mem_of_getElem? (i := 39) rfl)) (hw _ (List.mem_of_getElem? (i := 40) rfl)) e56 (hb hby at_426) (by decide) (by decide) (fun T98 h98 b98 g98 X98 e98 E98 A98 D98 => ?_)
                have ge_b98 : n0 ≤ b98 := Nat.le_trans (own_sz O56) (Nat.le_of_eq g98.symm)
                have sz_b98 : h56.size ≤ b98 := Nat.le_trans KB57.1 (Nat.le_of_eq g98.symm)
                have O99 := O56.ext E98
                have hk99 := Nat.le_trans hk56_ E98.1
                have KC99 := KB57.ext E98
                have F98_code_b98 : Fld Z h98 b98 "com/example/ketenwacht/ketenwacht/model/SamlStatus" "code" "Ljava/lang/String;" .null := D98 (Or.inr (hw _ (List.mem_of_getElem? (i := 51) rfl))) (ty := (.object "java/lang/String")) (by decide)
                have F98_subCode_b98 : Fld Z h98 b98 "com/example/ketenwacht/ketenwacht/model/SamlStatus" "subCode" "Ljava/lang/String;" .null := D98 (Or.inr (hw _ (List.mem_of_getElem? (i := 53) rfl))) (ty := (.object "java/lang/String")) (by decide)
                have F98_message_b98 : Fld Z h98 b98 "com/example/ketenwacht/ketenwacht/model/SamlStatus" "message" "Ljava/lang/String;" .null := D98 (Or.inr (hw _ (List.mem_of_getElem? (i := 55) rfl))) (ty := (.object "java/lang/String")) (by decide)
                show Goes _ _ _ _ _ _ (T98.setTop (mkF m 429 #[.val (.int p1), .val (.int p2), .val (.int p3), .val (.int p4), .val (.int p5), .val (.int p6), .val (.int (p3 &&& (255 : Int32))), .val (.int (p6 &&& (255 : Int32))), .val (.ref x), .val (.int (1 : Int32)), .val (.int (p1 &&& (7 : Int32))), .val (.ref y), .val (.int (0 : Int32)), .val (.int (p4 &&& (7 : Int32))), .val (.ref z), .val (.int (((p1.toUInt32 >>> ((3 : Int32) &&& 31).toUInt32).toInt32) &&& (3 : Int32))), .unset] [(.ref b98)]))
                refine own_dup X98 hx (hb hby at_429) rfl ?_
                refine own_aload X98 hx (hb hby at_430) rfl rfl ?_
                refine own_aload X98 hx (hb hby at_432) rfl rfl ?_
                show Goes _ _ _ _ _ _ (T98.setTop (mkF m 434 #[.val (.int p1), .val (.int p2), .val (.int p3), .val (.int p4), .val (.int p5), .val (.int p6), .val (.int (p3 &&& (255 : Int32))), .val (.int (p6 &&& (255 : Int32))), .val (.ref x), .val (.int (1 : Int32)), .val (.int (p1 &&& (7 : Int32))), .val (.ref y), .val (.int (0 : Int32)), .val (.int (p4 &&& (7 : Int32))), .val (.ref z), .val (.int (((p1.toUInt32 >>> ((3 : Int32) &&& 31).toUInt32).toInt32) &&& (3 : Int32))), .unset] [(.ref y), (.ref x), (.ref b98), (.ref b98)]))
                refine own_aload X98 hx (hb hby at_434) rfl rfl ?_
                refine own_special X98 hx hZ hown (y := (⟨"com/example/ketenwacht/ketenwacht/model/SamlStatus", "<init>", "(Ljava/lang/String;Ljava/lang/String;Ljava/lang/String;)V"⟩ : MethodName)) rfl (hw _ (List.mem_of_getElem? (i := 41) rfl)) (hw _ (List.mem_of_getElem? (i := 42) rfl)) (hw _ (List.mem_of_getElem? (i := 40) rfl)) (hw _ (List.mem_of_getElem? (i := 43) rfl)) (a := b98) (by decide) (W := 1) (by decide) (by decide) N56 e98 (by rw [hml]; rfl) (argsL := [(.ref x), (.ref y), (.ref z)]) (rest := [(.ref b98)]) (lenOf pd_5 rfl) (Nat.le_of_eq rfl) (by decide) (by decide) (rm9 l Z a0 hw [] b98 x y z (.null) (.null) (.null) h98 n0 O99 A98 F98_code_b98 F98_subCode_b98 F98_message_b98 ge_b98) rfl (hb hby at_436) ?_
                intro v100 T100 lc100 X100 N100 hQ100
                obtain ⟨rfl, K100, r100_0, r100_1, r100_2, r100_3⟩ := hQ100
                have O101 := O99.keep K100 (allS ge_b98 all0)
                have hk101 := Nat.le_trans hk99 K100.1
                have KC101 := KC99.trans K100 (allS (Or.inr sz_b98) all0)
                show Goes _ _ _ _ _ _ (T100.setTop (mkF m 439 #[.val (.int p1), .val (.int p2), .val (.int p3), .val (.int p4), .val (.int p5), .val (.int p6), .val (.int (p3 &&& (255 : Int32))), .val (.int (p6 &&& (255 : Int32))), .val (.ref x), .val (.int (1 : Int32)), .val (.int (p1 &&& (7 : Int32))), .val (.ref y), .val (.int (0 : Int32)), .val (.int (p4 &&& (7 : Int32))), .val (.ref z), .val (.int (((p1.toUInt32 >>> ((3 : Int32) &&& 31).toUInt32).toInt32) &&& (3 : Int32))), .unset] [(.ref b98)]))
                refine own_astore X100 hx (Ls' := #[.val (.int p1), .val (.int p2), .val (.int p3), .val (.int p4), .val (.int p5), .val (.int p6), .val (.int (p3 &&& (255 : Int32))), .val (.int (p6 &&& (255 : Int32))), .val (.ref x), .val (.int (1 : Int32)), .val (.int (p1 &&& (7 : Int32))), .val (.ref y), .val (.int (0 : Int32)), .val (.int (p4 &&& (7 : Int32))), .val (.ref z), .val (.int (((p1.toUInt32 >>> ((3 : Int32) &&& 31).toUInt32).toInt32) &&& (3 : Int32))), .val (.ref b98)]) (hb hby at_439) rfl rfl ?_
                refine own_aload X100 hx (hb hby at_441) rfl rfl ?_
                have Cc102 := C56.trans (CHr.keep KC101 (by simp) C56.1)
                refine own_virtualH X100 hx hZ hown hS56 hk101 (y := (⟨"com/example/ketenwacht/ketenwacht/model/SamlStatus", "isCancellation", "()Z"⟩ : MethodName)) (z := (⟨"com/example/ketenwacht/ketenwacht/model/SamlStatus", "isCancellation", "()Z"⟩ : MethodName)) (hw _ (List.mem_of_getElem? (i := 56) rfl)) (hw _ (List.mem_of_getElem? (i := 57) rfl)) (notFace_of_selects (args := #[]) (mvT hZ (hw _ (List.mem_of_getElem? (i := 59) rfl)))) (hw _ (List.mem_of_getElem? (i := 59) rfl)) (hw _ (List.mem_of_getElem? (i := 58) rfl)) (hw _ (List.mem_of_getElem? (i := 40) rfl)) (hw _ (List.mem_of_getElem? (i := 60) rfl)) (a := b98) r100_0 hEL Cc102.1 (by decide) (W := 0) (by decide) (by decide) N100 rfl (by rw [hml]; rfl) (argsL := []) (rest := []) (lenOf pd_6 rfl) (Nat.le_of_eq rfl) (by decide) (by decide) (rm11s l Z a0 hw hEL [] b98 x y cs ds zc T100.heap n0 O101 ⟨z0, hzc, trivial⟩ r100_0 r100_1 r100_2 (IsStr.keep0 IS56_x KC101) (IsStr.keep0 IS56_y KC101)) rfl (hb hby at_443) ?_
                intro v103 T103 lc103 k1_103 X103 hS103 hk103_ hZ hown N103 D103 hQ103
                have CC103 := Cc102.trans D103
                obtain rfl := hQ103
                have KB104 := Keep.refl T103.heap []
                show Goes _ _ _ _ _ _ (T103.setTop (mkF m 446 #[.val (.int p1), .val (.int p2), .val (.int p3), .val (.int p4), .val (.int p5), .val (.int p6), .val (.int (p3 &&& (255 : Int32))), .val (.int (p6 &&& (255 : Int32))), .val (.ref x), .val (.int (1 : Int32)), .val (.int (p1 &&& (7 : Int32))), .val (.ref y), .val (.int (0 : Int32)), .val (.int (p4 &&& (7 : Int32))), .val (.ref z), .val (.int (((p1.toUInt32 >>> ((3 : Int32) &&& 31).toUInt32).toInt32) &&& (3 : Int32))), .val (.ref b98)] [(.int (if cs = tx0 ∧ ds = tx1 then (1 : Int32) else (0 : Int32)))]))
                refine own_iload X103 hx (hb hby at_446) rfl ?_
                refine own_ifNo X103 hx (hb hby at_448) ((if0 _ _).trans (feq (by decide : ¬ ((1 : Int32) = (0 : Int32)))).1) ?_
                show Goes _ _ _ _ _ _ (T103.setTop (mkF m 451 #[.val (.int p1), .val (.int p2), .val (.int p3), .val (.int p4), .val (.int p5), .val (.int p6), .val (.int (p3 &&& (255 : Int32))), .val (.int (p6 &&& (255 : Int32))), .val (.ref x), .val (.int (1 : Int32)), .val (.int (p1 &&& (7 : Int32))), .val (.ref y), .val (.int (0 : Int32)), .val (.int (p4 &&& (7 : Int32))), .val (.ref z), .val (.int (((p1.toUInt32 >>> ((3 : Int32) &&& 31).toUInt32).toInt32) &&& (3 : Int32))), .val (.ref b98)] [(.int (if cs = tx0 ∧ ds = tx1 then (1 : Int32) else (0 : Int32)))]))
                refine own_iload X103 hx (hb hby at_451) rfl ?_
                refine own_ifYes X103 hx (pc' := 460) (hb hby at_453) ((if0 _ _).trans (teq (by decide : (0 : Int32) = (0 : Int32))).1) (by decide) (by decide) ?_
                show Goes _ _ _ _ _ _ (T103.setTop (mkF m 460 #[.val (.int p1), .val (.int p2), .val (.int p3), .val (.int p4), .val (.int p5), .val (.int p6), .val (.int (p3 &&& (255 : Int32))), .val (.int (p6 &&& (255 : Int32))), .val (.ref x), .val (.int (1 : Int32)), .val (.int (p1 &&& (7 : Int32))), .val (.ref y), .val (.int (0 : Int32)), .val (.int (p4 &&& (7 : Int32))), .val (.ref z), .val (.int (((p1.toUInt32 >>> ((3 : Int32) &&& 31).toUInt32).toInt32) &&& (3 : Int32))), .val (.ref b98)] [(.int (if cs = tx0 ∧ ds = tx1 then (1 : Int32) else (0 : Int32)))]))
                refine own_iconst X103 hx (v := (0 : Int32)) (hb hby at_460) rfl ?_
                refine own_icmpNo X103 hx (hb hby at_461) (teq ((by first | (rw [if_neg hphi]; done) | (rw [if_neg hphi]; decide)) : (if cs = tx0 ∧ ds = tx1 then (1 : Int32) else (0 : Int32)) = (0 : Int32))).2 ?_
                show Goes _ _ _ _ _ _ (T103.setTop (mkF m 464 #[.val (.int p1), .val (.int p2), .val (.int p3), .val (.int p4), .val (.int p5), .val (.int p6), .val (.int (p3 &&& (255 : Int32))), .val (.int (p6 &&& (255 : Int32))), .val (.ref x), .val (.int (1 : Int32)), .val (.int (p1 &&& (7 : Int32))), .val (.ref y), .val (.int (0 : Int32)), .val (.int (p4 &&& (7 : Int32))), .val (.ref z), .val (.int (((p1.toUInt32 >>> ((3 : Int32) &&& 31).toUInt32).toInt32) &&& (3 : Int32))), .val (.ref b98)] []))
                refine own_iconst X103 hx (v := (1 : Int32)) (hb hby at_464) rfl ?_
                refine own_goto X103 hx (pc' := 469) (hb hby at_465) (by decide) (by decide) ?_
                show Goes _ _ _ _ _ _ (T103.setTop (mkF m 469 #[.val (.int p1), .val (.int p2), .val (.int p3), .val (.int p4), .val (.int p5), .val (.int p6), .val (.int (p3 &&& (255 : Int32))), .val (.int (p6 &&& (255 : Int32))), .val (.ref x), .val (.int (1 : Int32)), .val (.int (p1 &&& (7 : Int32))), .val (.ref y), .val (.int (0 : Int32)), .val (.int (p4 &&& (7 : Int32))), .val (.ref z), .val (.int (((p1.toUInt32 >>> ((3 : Int32) &&& 31).toUInt32).toInt32) &&& (3 : Int32))), .val (.ref b98)] [(.int (1 : Int32))]))
                have Cc105 := CC103.trans (CHr.keep KB104 (by simp) CC103.1)
                exact own_retNH X103 hx (t := .boolean) hS103 hk103_ hZ hEL Cc105 N103 hlk (by decide) (by decide) hret (by simp) (hb hby at_469) (rfl)
            ·
              rcases hok2 with ⟨rfl, hds⟩ | ⟨rfl, hds⟩
              ·
                have hphi : ¬ (cs = tx0 ∧ ds = tx1) := fun q => hcs q.1
                show Goes _ _ _ _ _ _ (T56.setTop (mkF m 426 #[.val (.int p1), .val (.int p2), .val (.int p3), .val (.int p4), .val (.int p5), .val (.int p6), .val (.int (p3 &&& (255 : Int32))), .val (.int (p6 &&& (255 : Int32))), .val (.ref x), .val (.int (0 : Int32)), .val (.int (p1 &&& (7 : Int32))), .val (.ref y), .val (.int (1 : Int32)), .val (.int (p4 &&& (7 : Int32))), .val (.ref z), .val (.int (((p1.toUInt32 >>> ((3 : Int32) &&& 31).toUInt32).toInt32) &&& (3 : Int32))), .unset] []))
                refine own_new X56 hx hZ hown (hw _ (List.mem_of_getElem? (i := 38) rfl)) (hw _ (List.mem_of_getElem? (i := 39) rfl)) (hw _ (List.mem_of_getElem? (i := 40) rfl)) e56 (hb hby at_426) (by decide) (by decide) (fun T106 h106 b106 g106 X106 e106 E106 A106 D106 => ?_)
                have ge_b106 : n0 ≤ b106 := Nat.le_trans (own_sz O56) (Nat.le_of_eq g106.symm)
                have sz_b106 : h56.size ≤ b106 := Nat.le_trans KB57.1 (Nat.le_of_eq g106.symm)
                have O107 := O56.ext E106
                have hk107 := Nat.le_trans hk56_ E106.1
                have KC107 := KB57.ext E106
                have F106_code_b106 : Fld Z h106 b106 "com/example/ketenwacht/ketenwacht/model/SamlStatus" "code" "Ljava/lang/String;" .null := D106 (Or.inr (hw _ (List.mem_of_getElem? (i := 51) rfl))) (ty := (.object "java/lang/String")) (by decide)
                have F106_subCode_b106 : Fld Z h106 b106 "com/example/ketenwacht/ketenwacht/model/SamlStatus" "subCode" "Ljava/lang/String;" .null := D106 (Or.inr (hw _ (List.mem_of_getElem? (i := 53) rfl))) (ty := (.object "java/lang/String")) (by decide)
                have F106_message_b106 : Fld Z h106 b106 "com/example/ketenwacht/ketenwacht/model/SamlStatus" "message" "Ljava/lang/String;" .null := D106 (Or.inr (hw _ (List.mem_of_getElem? (i := 55) rfl))) (ty := (.object "java/lang/String")) (by decide)
                show Goes _ _ _ _ _ _ (T106.setTop (mkF m 429 #[.val (.int p1), .val (.int p2), .val (.int p3), .val (.int p4), .val (.int p5), .val (.int p6), .val (.int (p3 &&& (255 : Int32))), .val (.int (p6 &&& (255 : Int32))), .val (.ref x), .val (.int (0 : Int32)), .val (.int (p1 &&& (7 : Int32))), .val (.ref y), .val (.int (1 : Int32)), .val (.int (p4 &&& (7 : Int32))), .val (.ref z), .val (.int (((p1.toUInt32 >>> ((3 : Int32) &&& 31).toUInt32).toInt32) &&& (3 : Int32))), .unset] [(.ref b106)]))
                refine own_dup X106 hx (hb hby at_429) rfl ?_
                refine own_aload X106 hx (hb hby at_430) rfl rfl ?_
                refine own_aload X106 hx (hb hby at_432) rfl rfl ?_
                show Goes _ _ _ _ _ _ (T106.setTop (mkF m 434 #[.val (.int p1), .val (.int p2), .val (.int p3), .val (.int p4), .val (.int p5), .val (.int p6), .val (.int (p3 &&& (255 : Int32))), .val (.int (p6 &&& (255 : Int32))), .val (.ref x), .val (.int (0 : Int32)), .val (.int (p1 &&& (7 : Int32))), .val (.ref y), .val (.int (1 : Int32)), .val (.int (p4 &&& (7 : Int32))), .val (.ref z), .val (.int (((p1.toUInt32 >>> ((3 : Int32) &&& 31).toUInt32).toInt32) &&& (3 : Int32))), .unset] [(.ref y), (.ref x), (.ref b106), (.ref b106)]))
                refine own_aload X106 hx (hb hby at_434) rfl rfl ?_
                refine own_special X106 hx hZ hown (y := (⟨"com/example/ketenwacht/ketenwacht/model/SamlStatus", "<init>", "(Ljava/lang/String;Ljava/lang/String;Ljava/lang/String;)V"⟩ : MethodName)) rfl (hw _ (List.mem_of_getElem? (i := 41) rfl)) (hw _ (List.mem_of_getElem? (i := 42) rfl)) (hw _ (List.mem_of_getElem? (i := 40) rfl)) (hw _ (List.mem_of_getElem? (i := 43) rfl)) (a := b106) (by decide) (W := 1) (by decide) (by decide) N56 e106 (by rw [hml]; rfl) (argsL := [(.ref x), (.ref y), (.ref z)]) (rest := [(.ref b106)]) (lenOf pd_5 rfl) (Nat.le_of_eq rfl) (by decide) (by decide) (rm9 l Z a0 hw [] b106 x y z (.null) (.null) (.null) h106 n0 O107 A106 F106_code_b106 F106_subCode_b106 F106_message_b106 ge_b106) rfl (hb hby at_436) ?_
                intro v108 T108 lc108 X108 N108 hQ108
                obtain ⟨rfl, K108, r108_0, r108_1, r108_2, r108_3⟩ := hQ108
                have O109 := O107.keep K108 (allS ge_b106 all0)
                have hk109 := Nat.le_trans hk107 K108.1
                have KC109 := KC107.trans K108 (allS (Or.inr sz_b106) all0)
                show Goes _ _ _ _ _ _ (T108.setTop (mkF m 439 #[.val (.int p1), .val (.int p2), .val (.int p3), .val (.int p4), .val (.int p5), .val (.int p6), .val (.int (p3 &&& (255 : Int32))), .val (.int (p6 &&& (255 : Int32))), .val (.ref x), .val (.int (0 : Int32)), .val (.int (p1 &&& (7 : Int32))), .val (.ref y), .val (.int (1 : Int32)), .val (.int (p4 &&& (7 : Int32))), .val (.ref z), .val (.int (((p1.toUInt32 >>> ((3 : Int32) &&& 31).toUInt32).toInt32) &&& (3 : Int32))), .unset] [(.ref b106)]))
                refine own_astore X108 hx (Ls' := #[.val (.int p1), .val (.int p2), .val (.int p3), .val (.int p4), .val (.int p5), .val (.int p6), .val (.int (p3 &&& (255 : Int32))), .val (.int (p6 &&& (255 : Int32))), .val (.ref x), .val (.int (0 : Int32)), .val (.int (p1 &&& (7 : Int32))), .val (.ref y), .val (.int (1 : Int32)), .val (.int (p4 &&& (7 : Int32))), .val (.ref z), .val (.int (((p1.toUInt32 >>> ((3 : Int32) &&& 31).toUInt32).toInt32) &&& (3 : Int32))), .val (.ref b106)]) (hb hby at_439) rfl rfl ?_
                refine own_aload X108 hx (hb hby at_441) rfl rfl ?_
                have Cc110 := C56.trans (CHr.keep KC109 (by simp) C56.1)
                refine own_virtualH X108 hx hZ hown hS56 hk109 (y := (⟨"com/example/ketenwacht/ketenwacht/model/SamlStatus", "isCancellation", "()Z"⟩ : MethodName)) (z := (⟨"com/example/ketenwacht/ketenwacht/model/SamlStatus", "isCancellation", "()Z"⟩ : MethodName)) (hw _ (List.mem_of_getElem? (i := 56) rfl)) (hw _ (List.mem_of_getElem? (i := 57) rfl)) (notFace_of_selects (args := #[]) (mvT hZ (hw _ (List.mem_of_getElem? (i := 59) rfl)))) (hw _ (List.mem_of_getElem? (i := 59) rfl)) (hw _ (List.mem_of_getElem? (i := 58) rfl)) (hw _ (List.mem_of_getElem? (i := 40) rfl)) (hw _ (List.mem_of_getElem? (i := 60) rfl)) (a := b106) r108_0 hEL Cc110.1 (by decide) (W := 0) (by decide) (by decide) N108 rfl (by rw [hml]; rfl) (argsL := []) (rest := []) (lenOf pd_6 rfl) (Nat.le_of_eq rfl) (by decide) (by decide) (rm11s l Z a0 hw hEL [] b106 x y cs ds zc T108.heap n0 O109 ⟨z0, hzc, trivial⟩ r108_0 r108_1 r108_2 (IsStr.keep0 IS56_x KC109) (IsStr.keep0 IS56_y KC109)) rfl (hb hby at_443) ?_
                intro v111 T111 lc111 k1_111 X111 hS111 hk111_ hZ hown N111 D111 hQ111
                have CC111 := Cc110.trans D111
                obtain rfl := hQ111
                have KB112 := Keep.refl T111.heap []
                show Goes _ _ _ _ _ _ (T111.setTop (mkF m 446 #[.val (.int p1), .val (.int p2), .val (.int p3), .val (.int p4), .val (.int p5), .val (.int p6), .val (.int (p3 &&& (255 : Int32))), .val (.int (p6 &&& (255 : Int32))), .val (.ref x), .val (.int (0 : Int32)), .val (.int (p1 &&& (7 : Int32))), .val (.ref y), .val (.int (1 : Int32)), .val (.int (p4 &&& (7 : Int32))), .val (.ref z), .val (.int (((p1.toUInt32 >>> ((3 : Int32) &&& 31).toUInt32).toInt32) &&& (3 : Int32))), .val (.ref b106)] [(.int (if cs = tx0 ∧ ds = tx1 then (1 : Int32) else (0 : Int32)))]))
                refine own_iload X111 hx (hb hby at_446) rfl ?_
                refine own_ifYes X111 hx (pc' := 460) (hb hby at_448) ((if0 _ _).trans (teq (by decide : (0 : Int32) = (0 : Int32))).1) (by decide) (by decide) ?_
                show Goes _ _ _ _ _ _ (T111.setTop (mkF m 460 #[.val (.int p1), .val (.int p2), .val (.int p3), .val (.int p4), .val (.int p5), .val (.int p6), .val (.int (p3 &&& (255 : Int32))), .val (.int (p6 &&& (255 : Int32))), .val (.ref x), .val (.int (0 : Int32)), .val (.int (p1 &&& (7 : Int32))), .val (.ref y), .val (.int (1 : Int32)), .val (.int (p4 &&& (7 : Int32))), .val (.ref z), .val (.int (((p1.toUInt32 >>> ((3 : Int32) &&& 31).toUInt32).toInt32) &&& (3 : Int32))), .val (.ref b106)] [(.int (if cs = tx0 ∧ ds = tx1 then (1 : Int32) else (0 : Int32)))]))
                refine own_iconst X111 hx (v := (0 : Int32)) (hb hby at_460) rfl ?_
                refine own_icmpNo X111 hx (hb hby at_461) (teq ((by first | (rw [if_neg hphi]; done) | (rw [if_neg hphi]; decide)) : (if cs = tx0 ∧ ds = tx1 then (1 : Int32) else (0 : Int32)) = (0 : Int32))).2 ?_
                show Goes _ _ _ _ _ _ (T111.setTop (mkF m 464 #[.val (.int p1), .val (.int p2), .val (.int p3), .val (.int p4), .val (.int p5), .val (.int p6), .val (.int (p3 &&& (255 : Int32))), .val (.int (p6 &&& (255 : Int32))), .val (.ref x), .val (.int (0 : Int32)), .val (.int (p1 &&& (7 : Int32))), .val (.ref y), .val (.int (1 : Int32)), .val (.int (p4 &&& (7 : Int32))), .val (.ref z), .val (.int (((p1.toUInt32 >>> ((3 : Int32) &&& 31).toUInt32).toInt32) &&& (3 : Int32))), .val (.ref b106)] []))
                refine own_iconst X111 hx (v := (1 : Int32)) (hb hby at_464) rfl ?_
                refine own_goto X111 hx (pc' := 469) (hb hby at_465) (by decide) (by decide) ?_
                show Goes _ _ _ _ _ _ (T111.setTop (mkF m 469 #[.val (.int p1), .val (.int p2), .val (.int p3), .val (.int p4), .val (.int p5), .val (.int p6), .val (.int (p3 &&& (255 : Int32))), .val (.int (p6 &&& (255 : Int32))), .val (.ref x), .val (.int (0 : Int32)), .val (.int (p1 &&& (7 : Int32))), .val (.ref y), .val (.int (1 : Int32)), .val (.int (p4 &&& (7 : Int32))), .val (.ref z), .val (.int (((p1.toUInt32 >>> ((3 : Int32) &&& 31).toUInt32).toInt32) &&& (3 : Int32))), .val (.ref b106)] [(.int (1 : Int32))]))
                have Cc113 := CC111.trans (CHr.keep KB112 (by simp) CC111.1)
                exact own_retNH X111 hx (t := .boolean) hS111 hk111_ hZ hEL Cc113 N111 hlk (by decide) (by decide) hret (by simp) (hb hby at_469) (rfl)
              ·
                have hphi : ¬ (cs = tx0 ∧ ds = tx1) := fun q => hcs q.1
                show Goes _ _ _ _ _ _ (T56.setTop (mkF m 426 #[.val (.int p1), .val (.int p2), .val (.int p3), .val (.int p4), .val (.int p5), .val (.int p6), .val (.int (p3 &&& (255 : Int32))), .val (.int (p6 &&& (255 : Int32))), .val (.ref x), .val (.int (0 : Int32)), .val (.int (p1 &&& (7 : Int32))), .val (.ref y), .val (.int (0 : Int32)), .val (.int (p4 &&& (7 : Int32))), .val (.ref z), .val (.int (((p1.toUInt32 >>> ((3 : Int32) &&& 31).toUInt32).toInt32) &&& (3 : Int32))), .unset] []))
                refine own_new X56 hx hZ hown (hw _ (List.mem_of_getElem? (i := 38) rfl)) (hw _ (List.mem_of_getElem? (i := 39) rfl)) (hw _ (List.mem_of_getElem? (i := 40) rfl)) e56 (hb hby at_426) (by decide) (by decide) (fun T114 h114 b114 g114 X114 e114 E114 A114 D114 => ?_)
                have ge_b114 : n0 ≤ b114 := Nat.le_trans (own_sz O56) (Nat.le_of_eq g114.symm)
                have sz_b114 : h56.size ≤ b114 := Nat.le_trans KB57.1 (Nat.le_of_eq g114.symm)
                have O115 := O56.ext E114
                have hk115 := Nat.le_trans hk56_ E114.1
                have KC115 := KB57.ext E114
                have F114_code_b114 : Fld Z h114 b114 "com/example/ketenwacht/ketenwacht/model/SamlStatus" "code" "Ljava/lang/String;" .null := D114 (Or.inr (hw _ (List.mem_of_getElem? (i := 51) rfl))) (ty := (.object "java/lang/String")) (by decide)
                have F114_subCode_b114 : Fld Z h114 b114 "com/example/ketenwacht/ketenwacht/model/SamlStatus" "subCode" "Ljava/lang/String;" .null := D114 (Or.inr (hw _ (List.mem_of_getElem? (i := 53) rfl))) (ty := (.object "java/lang/String")) (by decide)
                have F114_message_b114 : Fld Z h114 b114 "com/example/ketenwacht/ketenwacht/model/SamlStatus" "message" "Ljava/lang/String;" .null := D114 (Or.inr (hw _ (List.mem_of_getElem? (i := 55) rfl))) (ty := (.object "java/lang/String")) (by decide)
                show Goes _ _ _ _ _ _ (T114.setTop (mkF m 429 #[.val (.int p1), .val (.int p2), .val (.int p3), .val (.int p4), .val (.int p5), .val (.int p6), .val (.int (p3 &&& (255 : Int32))), .val (.int (p6 &&& (255 : Int32))), .val (.ref x), .val (.int (0 : Int32)), .val (.int (p1 &&& (7 : Int32))), .val (.ref y), .val (.int (0 : Int32)), .val (.int (p4 &&& (7 : Int32))), .val (.ref z), .val (.int (((p1.toUInt32 >>> ((3 : Int32) &&& 31).toUInt32).toInt32) &&& (3 : Int32))), .unset] [(.ref b114)]))
                refine own_dup X114 hx (hb hby at_429) rfl ?_
                refine own_aload X114 hx (hb hby at_430) rfl rfl ?_
                refine own_aload X114 hx (hb hby at_432) rfl rfl ?_
                show Goes _ _ _ _ _ _ (T114.setTop (mkF m 434 #[.val (.int p1), .val (.int p2), .val (.int p3), .val (.int p4), .val (.int p5), .val (.int p6), .val (.int (p3 &&& (255 : Int32))), .val (.int (p6 &&& (255 : Int32))), .val (.ref x), .val (.int (0 : Int32)), .val (.int (p1 &&& (7 : Int32))), .val (.ref y), .val (.int (0 : Int32)), .val (.int (p4 &&& (7 : Int32))), .val (.ref z), .val (.int (((p1.toUInt32 >>> ((3 : Int32) &&& 31).toUInt32).toInt32) &&& (3 : Int32))), .unset] [(.ref y), (.ref x), (.ref b114), (.ref b114)]))
                refine own_aload X114 hx (hb hby at_434) rfl rfl ?_
                refine own_special X114 hx hZ hown (y := (⟨"com/example/ketenwacht/ketenwacht/model/SamlStatus", "<init>", "(Ljava/lang/String;Ljava/lang/String;Ljava/lang/String;)V"⟩ : MethodName)) rfl (hw _ (List.mem_of_getElem? (i := 41) rfl)) (hw _ (List.mem_of_getElem? (i := 42) rfl)) (hw _ (List.mem_of_getElem? (i := 40) rfl)) (hw _ (List.mem_of_getElem? (i := 43) rfl)) (a := b114) (by decide) (W := 1) (by decide) (by decide) N56 e114 (by rw [hml]; rfl) (argsL := [(.ref x), (.ref y), (.ref z)]) (rest := [(.ref b114)]) (lenOf pd_5 rfl) (Nat.le_of_eq rfl) (by decide) (by decide) (rm9 l Z a0 hw [] b114 x y z (.null) (.null) (.null) h114 n0 O115 A114 F114_code_b114 F114_subCode_b114 F114_message_b114 ge_b114) rfl (hb hby at_436) ?_
                intro v116 T116 lc116 X116 N116 hQ116
                obtain ⟨rfl, K116, r116_0, r116_1, r116_2, r116_3⟩ := hQ116
                have O117 := O115.keep K116 (allS ge_b114 all0)
                have hk117 := Nat.le_trans hk115 K116.1
                have KC117 := KC115.trans K116 (allS (Or.inr sz_b114) all0)
                show Goes _ _ _ _ _ _ (T116.setTop (mkF m 439 #[.val (.int p1), .val (.int p2), .val (.int p3), .val (.int p4), .val (.int p5), .val (.int p6), .val (.int (p3 &&& (255 : Int32))), .val (.int (p6 &&& (255 : Int32))), .val (.ref x), .val (.int (0 : Int32)), .val (.int (p1 &&& (7 : Int32))), .val (.ref y), .val (.int (0 : Int32)), .val (.int (p4 &&& (7 : Int32))), .val (.ref z), .val (.int (((p1.toUInt32 >>> ((3 : Int32) &&& 31).toUInt32).toInt32) &&& (3 : Int32))), .unset] [(.ref b114)]))
                refine own_astore X116 hx (Ls' := #[.val (.int p1), .val (.int p2), .val (.int p3), .val (.int p4), .val (.int p5), .val (.int p6), .val (.int (p3 &&& (255 : Int32))), .val (.int (p6 &&& (255 : Int32))), .val (.ref x), .val (.int (0 : Int32)), .val (.int (p1 &&& (7 : Int32))), .val (.ref y), .val (.int (0 : Int32)), .val (.int (p4 &&& (7 : Int32))), .val (.ref z), .val (.int (((p1.toUInt32 >>> ((3 : Int32) &&& 31).toUInt32).toInt32) &&& (3 : Int32))), .val (.ref b114)]) (hb hby at_439) rfl rfl ?_
                refine own_aload X116 hx (hb hby at_441) rfl rfl ?_
                have Cc118 := C56.trans (CHr.keep KC117 (by simp) C56.1)
                refine own_virtualH X116 hx hZ hown hS56 hk117 (y := (⟨"com/example/ketenwacht/ketenwacht/model/SamlStatus", "isCancellation", "()Z"⟩ : MethodName)) (z := (⟨"com/example/ketenwacht/ketenwacht/model/SamlStatus", "isCancellation", "()Z"⟩ : MethodName)) (hw _ (List.mem_of_getElem? (i := 56) rfl)) (hw _ (List.mem_of_getElem? (i := 57) rfl)) (notFace_of_selects (args := #[]) (mvT hZ (hw _ (List.mem_of_getElem? (i := 59) rfl)))) (hw _ (List.mem_of_getElem? (i := 59) rfl)) (hw _ (List.mem_of_getElem? (i := 58) rfl)) (hw _ (List.mem_of_getElem? (i := 40) rfl)) (hw _ (List.mem_of_getElem? (i := 60) rfl)) (a := b114) r116_0 hEL Cc118.1 (by decide) (W := 0) (by decide) (by decide) N116 rfl (by rw [hml]; rfl) (argsL := []) (rest := []) (lenOf pd_6 rfl) (Nat.le_of_eq rfl) (by decide) (by decide) (rm11s l Z a0 hw hEL [] b114 x y cs ds zc T116.heap n0 O117 ⟨z0, hzc, trivial⟩ r116_0 r116_1 r116_2 (IsStr.keep0 IS56_x KC117) (IsStr.keep0 IS56_y KC117)) rfl (hb hby at_443) ?_
                intro v119 T119 lc119 k1_119 X119 hS119 hk119_ hZ hown N119 D119 hQ119
                have CC119 := Cc118.trans D119
                obtain rfl := hQ119
                have KB120 := Keep.refl T119.heap []
                show Goes _ _ _ _ _ _ (T119.setTop (mkF m 446 #[.val (.int p1), .val (.int p2), .val (.int p3), .val (.int p4), .val (.int p5), .val (.int p6), .val (.int (p3 &&& (255 : Int32))), .val (.int (p6 &&& (255 : Int32))), .val (.ref x), .val (.int (0 : Int32)), .val (.int (p1 &&& (7 : Int32))), .val (.ref y), .val (.int (0 : Int32)), .val (.int (p4 &&& (7 : Int32))), .val (.ref z), .val (.int (((p1.toUInt32 >>> ((3 : Int32) &&& 31).toUInt32).toInt32) &&& (3 : Int32))), .val (.ref b114)] [(.int (if cs = tx0 ∧ ds = tx1 then (1 : Int32) else (0 : Int32)))]))
                refine own_iload X119 hx (hb hby at_446) rfl ?_
                refine own_ifYes X119 hx (pc' := 460) (hb hby at_448) ((if0 _ _).trans (teq (by decide : (0 : Int32) = (0 : Int32))).1) (by decide) (by decide) ?_
                show Goes _ _ _ _ _ _ (T119.setTop (mkF m 460 #[.val (.int p1), .val (.int p2), .val (.int p3), .val (.int p4), .val (.int p5), .val (.int p6), .val (.int (p3 &&& (255 : Int32))), .val (.int (p6 &&& (255 : Int32))), .val (.ref x), .val (.int (0 : Int32)), .val (.int (p1 &&& (7 : Int32))), .val (.ref y), .val (.int (0 : Int32)), .val (.int (p4 &&& (7 : Int32))), .val (.ref z), .val (.int (((p1.toUInt32 >>> ((3 : Int32) &&& 31).toUInt32).toInt32) &&& (3 : Int32))), .val (.ref b114)] [(.int (if cs = tx0 ∧ ds = tx1 then (1 : Int32) else (0 : Int32)))]))
                refine own_iconst X119 hx (v := (0 : Int32)) (hb hby at_460) rfl ?_
                refine own_icmpNo X119 hx (hb hby at_461) (teq ((by first | (rw [if_neg hphi]; done) | (rw [if_neg hphi]; decide)) : (if cs = tx0 ∧ ds = tx1 then (1 : Int32) else (0 : Int32)) = (0 : Int32))).2 ?_
                show Goes _ _ _ _ _ _ (T119.setTop (mkF m 464 #[.val (.int p1), .val (.int p2), .val (.int p3), .val (.int p4), .val (.int p5), .val (.int p6), .val (.int (p3 &&& (255 : Int32))), .val (.int (p6 &&& (255 : Int32))), .val (.ref x), .val (.int (0 : Int32)), .val (.int (p1 &&& (7 : Int32))), .val (.ref y), .val (.int (0 : Int32)), .val (.int (p4 &&& (7 : Int32))), .val (.ref z), .val (.int (((p1.toUInt32 >>> ((3 : Int32) &&& 31).toUInt32).toInt32) &&& (3 : Int32))), .val (.ref b114)] []))
                refine own_iconst X119 hx (v := (1 : Int32)) (hb hby at_464) rfl ?_
                refine own_goto X119 hx (pc' := 469) (hb hby at_465) (by decide) (by decide) ?_
                show Goes _ _ _ _ _ _ (T119.setTop (mkF m 469 #[.val (.int p1), .val (.int p2), .val (.int p3), .val (.int p4), .val (.int p5), .val (.int p6), .val (.int (p3 &&& (255 : Int32))), .val (.int (p6 &&& (255 : Int32))), .val (.ref x), .val (.int (0 : Int32)), .val (.int (p1 &&& (7 : Int32))), .val (.ref y), .val (.int (0 : Int32)), .val (.int (p4 &&& (7 : Int32))), .val (.ref z), .val (.int (((p1.toUInt32 >>> ((3 : Int32) &&& 31).toUInt32).toInt32) &&& (3 : Int32))), .val (.ref b114)] [(.int (1 : Int32))]))
                have Cc121 := CC119.trans (CHr.keep KB120 (by simp) CC119.1)
                exact own_retNH X119 hx (t := .boolean) hS119 hk119_ hZ hEL Cc121 N119 hlk (by decide) (by decide) hret (by simp) (hb hby at_469) (rfl)
        show Goes _ _ _ _ _ _ (T3.setTop (mkF m 382 #[.val (.int p1), .val (.int p2), .val (.int p3), .val (.int p4), .val (.int p5), .val (.int p6), .val (.int (p3 &&& (255 : Int32))), .val (.int (p6 &&& (255 : Int32))), .val (.ref x), .val (.int v9), .val (.int (p1 &&& (7 : Int32))), .val (.ref y), .val (.int v12), .val (.int (p4 &&& (7 : Int32))), s14, .val (.int (((p1.toUInt32 >>> ((3 : Int32) &&& 31).toUInt32).toInt32) &&& (3 : Int32))), .unset] []))
        refine own_iload X3 hx (hb hby at_382) rfl ?_
        by_cases hc384_122 : (((p1.toUInt32 >>> ((3 : Int32) &&& 31).toUInt32).toInt32) &&& (3 : Int32)) = (0 : Int32)
        ·
          refine own_ifNo X3 hx (hb hby at_384) ((if0 _ _).trans (teq (hc384_122 : (((p1.toUInt32 >>> ((3 : Int32) &&& 31).toUInt32).toInt32) &&& (3 : Int32)) = (0 : Int32))).2) ?_
          show Goes _ _ _ _ _ _ (T3.setTop (mkF m 387 #[.val (.int p1), .val (.int p2), .val (.int p3), .val (.int p4), .val (.int p5), .val (.int p6), .val (.int (p3 &&& (255 : Int32))), .val (.int (p6 &&& (255 : Int32))), .val (.ref x), .val (.int v9), .val (.int (p1 &&& (7 : Int32))), .val (.ref y), .val (.int v12), .val (.int (p4 &&& (7 : Int32))), s14, .val (.int (((p1.toUInt32 >>> ((3 : Int32) &&& 31).toUInt32).toInt32) &&& (3 : Int32))), .unset] []))
          refine own_aconst_null X3 hx (hb hby at_387) ?_
          refine own_astore X3 hx (Ls' := #[.val (.int p1), .val (.int p2), .val (.int p3), .val (.int p4), .val (.int p5), .val (.int p6), .val (.int (p3 &&& (255 : Int32))), .val (.int (p6 &&& (255 : Int32))), .val (.ref x), .val (.int v9), .val (.int (p1 &&& (7 : Int32))), .val (.ref y), .val (.int v12), .val (.int (p4 &&& (7 : Int32))), .val .null, .val (.int (((p1.toUInt32 >>> ((3 : Int32) &&& 31).toUInt32).toInt32) &&& (3 : Int32))), .unset]) (hb hby at_388) rfl (by rcases hp_s14 with rfl | ⟨_, rfl⟩ | ⟨_, rfl⟩ <;> rfl) ?_
          refine own_goto X3 hx (pc' := 426) (hb hby at_390) (by decide) (by decide) ?_
          show Goes _ _ _ _ _ _ (T3.setTop (mkF m 426 #[.val (.int p1), .val (.int p2), .val (.int p3), .val (.int p4), .val (.int p5), .val (.int p6), .val (.int (p3 &&& (255 : Int32))), .val (.int (p6 &&& (255 : Int32))), .val (.ref x), .val (.int v9), .val (.int (p1 &&& (7 : Int32))), .val (.ref y), .val (.int v12), .val (.int (p4 &&& (7 : Int32))), .val .null, .val (.int (((p1.toUInt32 >>> ((3 : Int32) &&& 31).toUInt32).toInt32) &&& (3 : Int32))), .unset] []))
          have Cc123 := C3.trans (CHr.keep KB4 (by simp) C3.1)
          exact jn426_56 T3 _ vm3 _ h3 .null (X3.mono (by decide) (by decide)) hS3 hk3_ hZ hown e3 N3 O3 Cc123 KB4 (Or.inl rfl)
        ·
          refine own_ifYes X3 hx (pc' := 393) (hb hby at_384) ((if0 _ _).trans (feq (hc384_122 : ¬ ((((p1.toUInt32 >>> ((3 : Int32) &&& 31).toUInt32).toInt32) &&& (3 : Int32)) = (0 : Int32)))).2) (by decide) (by decide) ?_
          show Goes _ _ _ _ _ _ (T3.setTop (mkF m 393 #[.val (.int p1), .val (.int p2), .val (.int p3), .val (.int p4), .val (.int p5), .val (.int p6), .val (.int (p3 &&& (255 : Int32))), .val (.int (p6 &&& (255 : Int32))), .val (.ref x), .val (.int v9), .val (.int (p1 &&& (7 : Int32))), .val (.ref y), .val (.int v12), .val (.int (p4 &&& (7 : Int32))), s14, .val (.int (((p1.toUInt32 >>> ((3 : Int32) &&& 31).toUInt32).toInt32) &&& (3 : Int32))), .unset] []))
          refine own_iload X3 hx (hb hby at_393) rfl ?_
          refine own_iconst X3 hx (v := (1 : Int32)) (hb hby at_395) rfl ?_
          by_cases hc396_124 : (((p1.toUInt32 >>> ((3 : Int32) &&& 31).toUInt32).toInt32) &&& (3 : Int32)) = (1 : Int32)
          ·
            refine own_icmpNo X3 hx (hb hby at_396) (teq (hc396_124 : (((p1.toUInt32 >>> ((3 : Int32) &&& 31).toUInt32).toInt32) &&& (3 : Int32)) = (1 : Int32))).2 ?_
            show Goes _ _ _ _ _ _ (T3.setTop (mkF m 399 #[.val (.int p1), .val (.int p2), .val (.int p3), .val (.int p4), .val (.int p5), .val (.int p6), .val (.int (p3 &&& (255 : Int32))), .val (.int (p6 &&& (255 : Int32))), .val (.ref x), .val (.int v9), .val (.int (p1 &&& (7 : Int32))), .val (.ref y), .val (.int v12), .val (.int (p4 &&& (7 : Int32))), s14, .val (.int (((p1.toUInt32 >>> ((3 : Int32) &&& 31).toUInt32).toInt32) &&& (3 : Int32))), .unset] []))
            have Cc125 := C3.trans (CHr.keep KB4 (by simp) C3.1)
            refine own_ldcH X3 hx hZ hown hS3 hk3_ (hw _ (List.mem_of_getElem? (i := 76) rfl)) (own_wS hw) hEL (by simp [consts_1]) Cc125.1 e3 (cs := tx1) tx1_t tx1_z tx1_4 tx1_5 (n := 184) (hb hby at_399) (by decide +kernel) (by decide) (by decide) (by decide) (fun sa126 T126 h126 k1_126 X126 hS126 hk126_ hZ hown e126 E126 D126 I126 => ?_)
            have O127 := O3.ext E126
            have KC127 := KB4.ext E126
            have IS126_x := IsStr.ext IS3_x E126
            have IS126_y := IsStr.ext i2 E126
            have CC126 := Cc125.trans D126
            have KB128 := Keep.refl h126 []
            show Goes _ _ _ _ _ _ (T126.setTop (mkF m 401 #[.val (.int p1), .val (.int p2), .val (.int p3), .val (.int p4), .val (.int p5), .val (.int p6), .val (.int (p3 &&& (255 : Int32))), .val (.int (p6 &&& (255 : Int32))), .val (.ref x), .val (.int v9), .val (.int (p1 &&& (7 : Int32))), .val (.ref y), .val (.int v12), .val (.int (p4 &&& (7 : Int32))), s14, .val (.int (((p1.toUInt32 >>> ((3 : Int32) &&& 31).toUInt32).toInt32) &&& (3 : Int32))), .unset] [(.ref sa126)]))
            refine own_astore X126 hx (Ls' := #[.val (.int p1), .val (.int p2), .val (.int p3), .val (.int p4), .val (.int p5), .val (.int p6), .val (.int (p3 &&& (255 : Int32))), .val (.int (p6 &&& (255 : Int32))), .val (.ref x), .val (.int v9), .val (.int (p1 &&& (7 : Int32))), .val (.ref y), .val (.int v12), .val (.int (p4 &&& (7 : Int32))), .val (.ref sa126), .val (.int (((p1.toUInt32 >>> ((3 : Int32) &&& 31).toUInt32).toInt32) &&& (3 : Int32))), .unset]) (hb hby at_401) rfl (by rcases hp_s14 with rfl | ⟨_, rfl⟩ | ⟨_, rfl⟩ <;> rfl) ?_
            refine own_goto X126 hx (pc' := 426) (hb hby at_403) (by decide) (by decide) ?_
            show Goes _ _ _ _ _ _ (T126.setTop (mkF m 426 #[.val (.int p1), .val (.int p2), .val (.int p3), .val (.int p4), .val (.int p5), .val (.int p6), .val (.int (p3 &&& (255 : Int32))), .val (.int (p6 &&& (255 : Int32))), .val (.ref x), .val (.int v9), .val (.int (p1 &&& (7 : Int32))), .val (.ref y), .val (.int v12), .val (.int (p4 &&& (7 : Int32))), .val (.ref sa126), .val (.int (((p1.toUInt32 >>> ((3 : Int32) &&& 31).toUInt32).toInt32) &&& (3 : Int32))), .unset] []))
            have Cc129 := CC126.trans (CHr.keep KB128 (by simp) CC126.1)
            exact jn426_56 T126 _ T126.vm _ h126 (.ref sa126) (X126.mono (by decide) (by decide)) hS126 hk126_ hZ hown e126 N3 O127 Cc129 (KC127.trans KB128 all0) (Or.inr ⟨_, rfl⟩)
          ·
            refine own_icmpYes X3 hx (pc' := 406) (hb hby at_396) (feq (hc396_124 : ¬ ((((p1.toUInt32 >>> ((3 : Int32) &&& 31).toUInt32).toInt32) &&& (3 : Int32)) = (1 : Int32)))).2 (by decide) (by decide) ?_
            show Goes _ _ _ _ _ _ (T3.setTop (mkF m 406 #[.val (.int p1), .val (.int p2), .val (.int p3), .val (.int p4), .val (.int p5), .val (.int p6), .val (.int (p3 &&& (255 : Int32))), .val (.int (p6 &&& (255 : Int32))), .val (.ref x), .val (.int v9), .val (.int (p1 &&& (7 : Int32))), .val (.ref y), .val (.int v12), .val (.int (p4 &&& (7 : Int32))), s14, .val (.int (((p1.toUInt32 >>> ((3 : Int32) &&& 31).toUInt32).toInt32) &&& (3 : Int32))), .unset] []))
            refine own_iload X3 hx (hb hby at_406) rfl ?_
            refine own_iconst X3 hx (v := (2 : Int32)) (hb hby at_408) rfl ?_
            by_cases hc409_130 : (((p1.toUInt32 >>> ((3 : Int32) &&& 31).toUInt32).toInt32) &&& (3 : Int32)) = (2 : Int32)
            ·
              refine own_icmpNo X3 hx (hb hby at_409) (teq (hc409_130 : (((p1.toUInt32 >>> ((3 : Int32) &&& 31).toUInt32).toInt32) &&& (3 : Int32)) = (2 : Int32))).2 ?_
              show Goes _ _ _ _ _ _ (T3.setTop (mkF m 412 #[.val (.int p1), .val (.int p2), .val (.int p3), .val (.int p4), .val (.int p5), .val (.int p6), .val (.int (p3 &&& (255 : Int32))), .val (.int (p6 &&& (255 : Int32))), .val (.ref x), .val (.int v9), .val (.int (p1 &&& (7 : Int32))), .val (.ref y), .val (.int v12), .val (.int (p4 &&& (7 : Int32))), s14, .val (.int (((p1.toUInt32 >>> ((3 : Int32) &&& 31).toUInt32).toInt32) &&& (3 : Int32))), .unset] []))
              have Cc131 := C3.trans (CHr.keep KB4 (by simp) C3.1)
              refine own_ldcH X3 hx hZ hown hS3 hk3_ (hw _ (List.mem_of_getElem? (i := 90) rfl)) (own_wS hw) hEL (by simp [consts_1]) Cc131.1 e3 (cs := tx0) tx0_t tx0_z tx0_4 tx0_5 (n := 176) (hb hby at_412) (by decide +kernel) (by decide) (by decide) (by decide) (fun sa132 T132 h132 k1_132 X132 hS132 hk132_ hZ hown e132 E132 D132 I132 => ?_)
              have O133 := O3.ext E132
              have KC133 := KB4.ext E132
              have IS132_x := IsStr.ext IS3_x E132
              have IS132_y := IsStr.ext i2 E132
              have CC132 := Cc131.trans D132
              have KB134 := Keep.refl h132 []
              show Goes _ _ _ _ _ _ (T132.setTop (mkF m 414 #[.val (.int p1), .val (.int p2), .val (.int p3), .val (.int p4), .val (.int p5), .val (.int p6), .val (.int (p3 &&& (255 : Int32))), .val (.int (p6 &&& (255 : Int32))), .val (.ref x), .val (.int v9), .val (.int (p1 &&& (7 : Int32))), .val (.ref y), .val (.int v12), .val (.int (p4 &&& (7 : Int32))), s14, .val (.int (((p1.toUInt32 >>> ((3 : Int32) &&& 31).toUInt32).toInt32) &&& (3 : Int32))), .unset] [(.ref sa132)]))
              refine own_astore X132 hx (Ls' := #[.val (.int p1), .val (.int p2), .val (.int p3), .val (.int p4), .val (.int p5), .val (.int p6), .val (.int (p3 &&& (255 : Int32))), .val (.int (p6 &&& (255 : Int32))), .val (.ref x), .val (.int v9), .val (.int (p1 &&& (7 : Int32))), .val (.ref y), .val (.int v12), .val (.int (p4 &&& (7 : Int32))), .val (.ref sa132), .val (.int (((p1.toUInt32 >>> ((3 : Int32) &&& 31).toUInt32).toInt32) &&& (3 : Int32))), .unset]) (hb hby at_414) rfl (by rcases hp_s14 with rfl | ⟨_, rfl⟩ | ⟨_, rfl⟩ <;> rfl) ?_
              refine own_goto X132 hx (pc' := 426) (hb hby at_416) (by decide) (by decide) ?_
              show Goes _ _ _ _ _ _ (T132.setTop (mkF m 426 #[.val (.int p1), .val (.int p2), .val (.int p3), .val (.int p4), .val (.int p5), .val (.int p6), .val (.int (p3 &&& (255 : Int32))), .val (.int (p6 &&& (255 : Int32))), .val (.ref x), .val (.int v9), .val (.int (p1 &&& (7 : Int32))), .val (.ref y), .val (.int v12), .val (.int (p4 &&& (7 : Int32))), .val (.ref sa132), .val (.int (((p1.toUInt32 >>> ((3 : Int32) &&& 31).toUInt32).toInt32) &&& (3 : Int32))), .unset] []))
              have Cc135 := CC132.trans (CHr.keep KB134 (by simp) CC132.1)
              exact jn426_56 T132 _ T132.vm _ h132 (.ref sa132) (X132.mono (by decide) (by decide)) hS132 hk132_ hZ hown e132 N3 O133 Cc135 (KC133.trans KB134 all0) (Or.inr ⟨_, rfl⟩)
            ·
              refine own_icmpYes X3 hx (pc' := 419) (hb hby at_409) (feq (hc409_130 : ¬ ((((p1.toUInt32 >>> ((3 : Int32) &&& 31).toUInt32).toInt32) &&& (3 : Int32)) = (2 : Int32)))).2 (by decide) (by decide) ?_
              show Goes _ _ _ _ _ _ (T3.setTop (mkF m 419 #[.val (.int p1), .val (.int p2), .val (.int p3), .val (.int p4), .val (.int p5), .val (.int p6), .val (.int (p3 &&& (255 : Int32))), .val (.int (p6 &&& (255 : Int32))), .val (.ref x), .val (.int v9), .val (.int (p1 &&& (7 : Int32))), .val (.ref y), .val (.int v12), .val (.int (p4 &&& (7 : Int32))), s14, .val (.int (((p1.toUInt32 >>> ((3 : Int32) &&& 31).toUInt32).toInt32) &&& (3 : Int32))), .unset] []))
              refine own_iload X3 hx (hb hby at_419) rfl ?_
              refine own_callS X3 hx hZ hown (y := (⟨"java/lang/String", "valueOf", "(C)Ljava/lang/String;"⟩ : MethodName)) (hw _ (List.mem_of_getElem? (i := 77) rfl)) (hw _ (List.mem_of_getElem? (i := 78) rfl)) (hw _ (List.mem_of_getElem? (i := 2) rfl)) (hw _ (List.mem_of_getElem? (i := 79) rfl)) (by decide) (W := 0) (by decide) (by decide) N3 e3 (by rw [hml]; rfl) (argsL := [(.int (p6 &&& (255 : Int32)))]) (rest := []) (lenOf pd_7 rfl) (Nat.le_of_eq rfl) (by decide) (by decide) (rm14 l Z a0 hw [] (p6 &&& (255 : Int32)) zc h3 n0 O3 ⟨z0, hzc, trivial⟩ (own_ch p6)) rfl (hb hby at_421) ?_
              intro v136 T136 lc136 X136 N136 hQ136
              obtain ⟨b_136, rfl, K136, r136_0, r136_1⟩ := hQ136
              have O137 := O3.keep K136 all0
              have hk137 := Nat.le_trans hk3_ K136.1
              have KC137 := KB4.trans K136 all0
              have ge_b_136 : n0 ≤ b_136 := Nat.le_trans (own_sz O3) r136_1
              have sz_b_136 : h3.size ≤ b_136 := Nat.le_trans KB4.1 r136_1
              show Goes _ _ _ _ _ _ (T136.setTop (mkF m 424 #[.val (.int p1), .val (.int p2), .val (.int p3), .val (.int p4), .val (.int p5), .val (.int p6), .val (.int (p3 &&& (255 : Int32))), .val (.int (p6 &&& (255 : Int32))), .val (.ref x), .val (.int v9), .val (.int (p1 &&& (7 : Int32))), .val (.ref y), .val (.int v12), .val (.int (p4 &&& (7 : Int32))), s14, .val (.int (((p1.toUInt32 >>> ((3 : Int32) &&& 31).toUInt32).toInt32) &&& (3 : Int32))), .unset] [(.ref b_136)]))
              refine own_astore X136 hx (Ls' := #[.val (.int p1), .val (.int p2), .val (.int p3), .val (.int p4), .val (.int p5), .val (.int p6), .val (.int (p3 &&& (255 : Int32))), .val (.int (p6 &&& (255 : Int32))), .val (.ref x), .val (.int v9), .val (.int (p1 &&& (7 : Int32))), .val (.ref y), .val (.int v12), .val (.int (p4 &&& (7 : Int32))), .val (.ref b_136), .val (.int (((p1.toUInt32 >>> ((3 : Int32) &&& 31).toUInt32).toInt32) &&& (3 : Int32))), .unset]) (hb hby at_424) rfl (by rcases hp_s14 with rfl | ⟨_, rfl⟩ | ⟨_, rfl⟩ <;> rfl) ?_
              show Goes _ _ _ _ _ _ (T136.setTop (mkF m 426 #[.val (.int p1), .val (.int p2), .val (.int p3), .val (.int p4), .val (.int p5), .val (.int p6), .val (.int (p3 &&& (255 : Int32))), .val (.int (p6 &&& (255 : Int32))), .val (.ref x), .val (.int v9), .val (.int (p1 &&& (7 : Int32))), .val (.ref y), .val (.int v12), .val (.int (p4 &&& (7 : Int32))), .val (.ref b_136), .val (.int (((p1.toUInt32 >>> ((3 : Int32) &&& 31).toUInt32).toInt32) &&& (3 : Int32))), .unset] []))
              have Cc138 := C3.trans (CHr.keep KC137 (by simp) C3.1)
              exact jn426_56 T136 _ vm3 _ T136.heap (.ref b_136) (X136.mono (by decide) (by decide)) hS3 hk137 hZ hown rfl N136 O137 Cc138 KC137 (Or.inr ⟨_, rfl⟩)
    show Goes _ _ _ _ _ _ (T1.setTop (mkF m 196 #[.val (.int p1), .val (.int p2), .val (.int p3), .val (.int p4), .val (.int p5), .val (.int p6), .val (.int (p3 &&& (255 : Int32))), .val (.int (p6 &&& (255 : Int32))), .val (.ref x), .val (.int v9), .val (.int (p1 &&& (7 : Int32))), s11, s12, .unset, .unset, .unset, .unset] []))
    refine own_iloadN X1 hx (hb hby at_196) rfl ?_
    refine own_bipush X1 hx (v := (7 : Int32)) (hb hby at_197) rfl ?_
    refine own_iand X1 hx (hb hby at_199) ?_
    show Goes _ _ _ _ _ _ (T1.setTop (mkF m 200 #[.val (.int p1), .val (.int p2), .val (.int p3), .val (.int p4), .val (.int p5), .val (.int p6), .val (.int (p3 &&& (255 : Int32))), .val (.int (p6 &&& (255 : Int32))), .val (.ref x), .val (.int v9), .val (.int (p1 &&& (7 : Int32))), s11, s12, .unset, .unset, .unset, .unset] [(.int (p4 &&& (7 : Int32)))]))
    refine own_istore X1 hx (Ls' := #[.val (.int p1), .val (.int p2), .val (.int p3), .val (.int p4), .val (.int p5), .val (.int p6), .val (.int (p3 &&& (255 : Int32))), .val (.int (p6 &&& (255 : Int32))), .val (.ref x), .val (.int v9), .val (.int (p1 &&& (7 : Int32))), s11, s12, .val (.int (p4 &&& (7 : Int32))), .unset, .unset, .unset]) (hb hby at_200) rfl ?_
    refine own_iload X1 hx (hb hby at_202) rfl ?_
    by_cases hc204_139 : (p4 &&& (7 : Int32)) = (0 : Int32)
    ·
      refine own_ifNo X1 hx (hb hby at_204) ((if0 _ _).trans (teq (hc204_139 : (p4 &&& (7 : Int32)) = (0 : Int32))).2) ?_
      show Goes _ _ _ _ _ _ (T1.setTop (mkF m 207 #[.val (.int p1), .val (.int p2), .val (.int p3), .val (.int p4), .val (.int p5), .val (.int p6), .val (.int (p3 &&& (255 : Int32))), .val (.int (p6 &&& (255 : Int32))), .val (.ref x), .val (.int v9), .val (.int (p1 &&& (7 : Int32))), s11, s12, .val (.int (p4 &&& (7 : Int32))), .unset, .unset, .unset] []))
      refine own_new X1 hx hZ hown (hw _ (List.mem_of_getElem? (i := 0) rfl)) (hw _ (List.mem_of_getElem? (i := 1) rfl)) (hw _ (List.mem_of_getElem? (i := 2) rfl)) e1 (hb hby at_207) (by decide) (by decide) (fun T140 h140 b140 g140 X140 e140 E140 A140 D140 => ?_)
      have ge_b140 : n0 ≤ b140 := Nat.le_trans (own_sz O1) (Nat.le_of_eq g140.symm)
      have sz_b140 : h1.size ≤ b140 := Nat.le_trans KB2.1 (Nat.le_of_eq g140.symm)
      have O141 := O1.ext E140
      have hk141 := Nat.le_trans hk1_ E140.1
      have KC141 := KB2.ext E140
      have F140_coder_b140 : Fld Z h140 b140 "java/lang/String" "coder" "B" (.int (0 : Int32)) := D140 (Or.inr (hw _ (List.mem_of_getElem? (i := 31) rfl))) (ty := .byte) (by decide)
      have F140_value_b140 : Fld Z h140 b140 "java/lang/String" "value" "[B" .null := D140 (Or.inr (hw _ (List.mem_of_getElem? (i := 33) rfl))) (ty := (.array .byte)) (by decide)
      show Goes _ _ _ _ _ _ (T140.setTop (mkF m 210 #[.val (.int p1), .val (.int p2), .val (.int p3), .val (.int p4), .val (.int p5), .val (.int p6), .val (.int (p3 &&& (255 : Int32))), .val (.int (p6 &&& (255 : Int32))), .val (.ref x), .val (.int v9), .val (.int (p1 &&& (7 : Int32))), s11, s12, .val (.int (p4 &&& (7 : Int32))), .unset, .unset, .unset] [(.ref b140)]))
      refine own_dup X140 hx (hb hby at_210) rfl ?_
      refine own_callS X140 hx hZ hown (y := (⟨"com/example/ketenwacht/ketenwacht/model/SamlStatusIsCancellationPinLaw", "authnFailedChars", "()[C"⟩ : MethodName)) (hw _ (List.mem_of_getElem? (i := 34) rfl)) (hw _ (List.mem_of_getElem? (i := 35) rfl)) (hw _ (List.mem_of_getElem? (i := 5) rfl)) (hw _ (List.mem_of_getElem? (i := 36) rfl)) (by decide) (W := 2) (by decide) (by decide) N1 e140 (by rw [hml]; rfl) (argsL := []) (rest := [(.ref b140), (.ref b140)]) (lenOf pd_8 rfl) (Nat.le_of_eq rfl) (by decide) (by decide) (rm8 l Z a0 hw [] h140 n0 O141) rfl (hb hby at_211) ?_
      intro v142 T142 lc142 X142 N142 hQ142
      obtain ⟨b_142, k_142, rfl, K142, r142_0, r142_1⟩ := hQ142
      have E143_b140 := A140.keep K142
      have F143_coder_b140 := F140_coder_b140.keep K142 nin0
      have F143_value_b140 := F140_value_b140.keep K142 nin0
      have O143 := O141.keep K142 all0
      have hk143 := Nat.le_trans hk141 K142.1
      have KC143 := KC141.trans K142 all0
      have ge_b_142 : n0 ≤ b_142 := Nat.le_trans (own_sz O141) r142_1
      have sz_b_142 : h1.size ≤ b_142 := Nat.le_trans KC141.1 r142_1
      show Goes _ _ _ _ _ _ (T142.setTop (mkF m 214 #[.val (.int p1), .val (.int p2), .val (.int p3), .val (.int p4), .val (.int p5), .val (.int p6), .val (.int (p3 &&& (255 : Int32))), .val (.int (p6 &&& (255 : Int32))), .val (.ref x), .val (.int v9), .val (.int (p1 &&& (7 : Int32))), s11, s12, .val (.int (p4 &&& (7 : Int32))), .unset, .unset, .unset] [(.ref b_142), (.ref b140), (.ref b140)]))
      refine own_strNew X142 hx hZ hown (hw _ (List.mem_of_getElem? (i := 8) rfl)) (hw _ (List.mem_of_getElem? (i := 9) rfl)) (hw _ (List.mem_of_getElem? (i := 10) rfl)) (own_wNew hw) (hw _ (List.mem_of_getElem? (i := 1) rfl)) (cs := tx1) N142 rfl ge_b140 (own_sz O143) E143_b140 F143_value_b140 F143_coder_b140 (n := 46) (by decide +kernel) (by decide +kernel) r142_0 (z0.ext O143.2) hzc (by decide) (by decide) tx1_5 (W := 1) (rest := [(.ref b140)]) (by decide) (by decide) (by rw [hml]; rfl) (Nat.le_of_eq rfl) (by decide) (by decide) (hb hby at_214) (fun T144 lc144 h144 X144 e144 N144 K144 I144 => ?_)
      have O145 := O143.keep K144 (allS ge_b140 all0)
      have hk145 := Nat.le_trans hk143 K144.1
      have KC145 := KC143.trans K144 (allS (Or.inr sz_b140) all0)
      show Goes _ _ _ _ _ _ (T144.setTop (mkF m 217 #[.val (.int p1), .val (.int p2), .val (.int p3), .val (.int p4), .val (.int p5), .val (.int p6), .val (.int (p3 &&& (255 : Int32))), .val (.int (p6 &&& (255 : Int32))), .val (.ref x), .val (.int v9), .val (.int (p1 &&& (7 : Int32))), s11, s12, .val (.int (p4 &&& (7 : Int32))), .unset, .unset, .unset] [(.ref b140)]))
      refine own_astore X144 hx (Ls' := #[.val (.int p1), .val (.int p2), .val (.int p3), .val (.int p4), .val (.int p5), .val (.int p6), .val (.int (p3 &&& (255 : Int32))), .val (.int (p6 &&& (255 : Int32))), .val (.ref x), .val (.int v9), .val (.int (p1 &&& (7 : Int32))), .val (.ref b140), s12, .val (.int (p4 &&& (7 : Int32))), .unset, .unset, .unset]) (hb hby at_217) rfl (by rcases hp_s11 with rfl | ⟨_, rfl⟩ | ⟨_, rfl⟩ <;> rfl) ?_
      refine own_iconst X144 hx (v := (1 : Int32)) (hb hby at_219) rfl ?_
      refine own_istore X144 hx (Ls' := #[.val (.int p1), .val (.int p2), .val (.int p3), .val (.int p4), .val (.int p5), .val (.int p6), .val (.int (p3 &&& (255 : Int32))), .val (.int (p6 &&& (255 : Int32))), .val (.ref x), .val (.int v9), .val (.int (p1 &&& (7 : Int32))), .val (.ref b140), .val (.int (1 : Int32)), .val (.int (p4 &&& (7 : Int32))), .unset, .unset, .unset]) (hb hby at_220) (by rcases hp_s12 with rfl | ⟨_, rfl⟩ | ⟨_, rfl⟩ <;> rfl) ?_
      show Goes _ _ _ _ _ _ (T144.setTop (mkF m 222 #[.val (.int p1), .val (.int p2), .val (.int p3), .val (.int p4), .val (.int p5), .val (.int p6), .val (.int (p3 &&& (255 : Int32))), .val (.int (p6 &&& (255 : Int32))), .val (.ref x), .val (.int v9), .val (.int (p1 &&& (7 : Int32))), .val (.ref b140), .val (.int (1 : Int32)), .val (.int (p4 &&& (7 : Int32))), .unset, .unset, .unset] []))
      refine own_goto X144 hx (pc' := 375) (hb hby at_222) (by decide) (by decide) ?_
      show Goes _ _ _ _ _ _ (T144.setTop (mkF m 375 #[.val (.int p1), .val (.int p2), .val (.int p3), .val (.int p4), .val (.int p5), .val (.int p6), .val (.int (p3 &&& (255 : Int32))), .val (.int (p6 &&& (255 : Int32))), .val (.ref x), .val (.int v9), .val (.int (p1 &&& (7 : Int32))), .val (.ref b140), .val (.int (1 : Int32)), .val (.int (p4 &&& (7 : Int32))), .unset, .unset, .unset] []))
      have Cc146 := C1.trans (CHr.keep KC145 (by simp) C1.1)
      exact jn375_3 T144 _ vm1 _ h144 (.ref b140) (1 : Int32) .unset .unset (X144.mono (by decide) (by decide)) hS1 hk145 hZ hown e144 N144 O145 Cc146 KC145 (Or.inr ⟨b140, tx1, rfl, I144, (Or.inl ⟨rfl, rfl⟩)⟩) (Or.inl rfl) (Or.inl rfl)
    ·
      refine own_ifYes X1 hx (pc' := 225) (hb hby at_204) ((if0 _ _).trans (feq (hc204_139 : ¬ ((p4 &&& (7 : Int32)) = (0 : Int32)))).2) (by decide) (by decide) ?_
      show Goes _ _ _ _ _ _ (T1.setTop (mkF m 225 #[.val (.int p1), .val (.int p2), .val (.int p3), .val (.int p4), .val (.int p5), .val (.int p6), .val (.int (p3 &&& (255 : Int32))), .val (.int (p6 &&& (255 : Int32))), .val (.ref x), .val (.int v9), .val (.int (p1 &&& (7 : Int32))), s11, s12, .val (.int (p4 &&& (7 : Int32))), .unset, .unset, .unset] []))
      refine own_iload X1 hx (hb hby at_225) rfl ?_
      refine own_iconst X1 hx (v := (1 : Int32)) (hb hby at_227) rfl ?_
      by_cases hc228_147 : (p4 &&& (7 : Int32)) = (1 : Int32)
      ·
        refine own_icmpNo X1 hx (hb hby at_228) (teq (hc228_147 : (p4 &&& (7 : Int32)) = (1 : Int32))).2 ?_
        show Goes _ _ _ _ _ _ (T1.setTop (mkF m 231 #[.val (.int p1), .val (.int p2), .val (.int p3), .val (.int p4), .val (.int p5), .val (.int p6), .val (.int (p3 &&& (255 : Int32))), .val (.int (p6 &&& (255 : Int32))), .val (.ref x), .val (.int v9), .val (.int (p1 &&& (7 : Int32))), s11, s12, .val (.int (p4 &&& (7 : Int32))), .unset, .unset, .unset] []))
        refine own_callS X1 hx hZ hown (y := (⟨"com/example/ketenwacht/ketenwacht/model/SamlStatusIsCancellationPinLaw", "authnFailedChars", "()[C"⟩ : MethodName)) (hw _ (List.mem_of_getElem? (i := 34) rfl)) (hw _ (List.mem_of_getElem? (i := 35) rfl)) (hw _ (List.mem_of_getElem? (i := 5) rfl)) (hw _ (List.mem_of_getElem? (i := 36) rfl)) (by decide) (W := 0) (by decide) (by decide) N1 e1 (by rw [hml]; rfl) (argsL := []) (rest := []) (lenOf pd_8 rfl) (Nat.le_of_eq rfl) (by decide) (by decide) (rm8 l Z a0 hw [] h1 n0 O1) rfl (hb hby at_231) ?_
        intro v148 T148 lc148 X148 N148 hQ148
        obtain ⟨b_148, k_148, rfl, K148, r148_0, r148_1⟩ := hQ148
        have O149 := O1.keep K148 all0
        have hk149 := Nat.le_trans hk1_ K148.1
        have KC149 := KB2.trans K148 all0
        have ge_b_148 : n0 ≤ b_148 := Nat.le_trans (own_sz O1) r148_1
        have sz_b_148 : h1.size ≤ b_148 := Nat.le_trans KB2.1 r148_1
        show Goes _ _ _ _ _ _ (T148.setTop (mkF m 234 #[.val (.int p1), .val (.int p2), .val (.int p3), .val (.int p4), .val (.int p5), .val (.int p6), .val (.int (p3 &&& (255 : Int32))), .val (.int (p6 &&& (255 : Int32))), .val (.ref x), .val (.int v9), .val (.int (p1 &&& (7 : Int32))), s11, s12, .val (.int (p4 &&& (7 : Int32))), .unset, .unset, .unset] [(.ref b_148)]))
        refine own_astore X148 hx (Ls' := #[.val (.int p1), .val (.int p2), .val (.int p3), .val (.int p4), .val (.int p5), .val (.int p6), .val (.int (p3 &&& (255 : Int32))), .val (.int (p6 &&& (255 : Int32))), .val (.ref x), .val (.int v9), .val (.int (p1 &&& (7 : Int32))), s11, s12, .val (.int (p4 &&& (7 : Int32))), .val (.ref b_148), .unset, .unset]) (hb hby at_234) rfl rfl ?_
        refine own_iload X148 hx (hb hby at_236) rfl ?_
        refine own_ldcInt X148 hx hZ hown (hw _ (List.mem_of_getElem? (i := 37) rfl)) (hb hby at_238) ?_
        show Goes _ _ _ _ _ _ (T148.setTop (mkF m 240 #[.val (.int p1), .val (.int p2), .val (.int p3), .val (.int p4), .val (.int p5), .val (.int p6), .val (.int (p3 &&& (255 : Int32))), .val (.int (p6 &&& (255 : Int32))), .val (.ref x), .val (.int v9), .val (.int (p1 &&& (7 : Int32))), s11, s12, .val (.int (p4 &&& (7 : Int32))), .val (.ref b_148), .unset, .unset] [(.int (2147483647 : Int32)), (.int p5)]))
        refine own_iand X148 hx (hb hby at_240) ?_
        refine own_aload X148 hx (hb hby at_241) rfl rfl ?_
        refine own_alen X148 hx hZ rfl r148_0 (hb hby at_243) ?_
        show Goes _ _ _ _ _ _ (T148.setTop (mkF m 244 #[.val (.int p1), .val (.int p2), .val (.int p3), .val (.int p4), .val (.int p5), .val (.int p6), .val (.int (p3 &&& (255 : Int32))), .val (.int (p6 &&& (255 : Int32))), .val (.ref x), .val (.int v9), .val (.int (p1 &&& (7 : Int32))), s11, s12, .val (.int (p4 &&& (7 : Int32))), .val (.ref b_148), .unset, .unset] [(.int (46 : Int32)), (.int (p5 &&& (2147483647 : Int32)))]))
        refine own_irem X148 hx (hb hby at_244) (by decide) ?_
        refine own_istore X148 hx (Ls' := #[.val (.int p1), .val (.int p2), .val (.int p3), .val (.int p4), .val (.int p5), .val (.int p6), .val (.int (p3 &&& (255 : Int32))), .val (.int (p6 &&& (255 : Int32))), .val (.ref x), .val (.int v9), .val (.int (p1 &&& (7 : Int32))), s11, s12, .val (.int (p4 &&& (7 : Int32))), .val (.ref b_148), .val (.int ((p5 &&& (2147483647 : Int32)) % (46 : Int32))), .unset]) (hb hby at_245) rfl ?_
        refine own_aload X148 hx (hb hby at_247) rfl rfl ?_
        show Goes _ _ _ _ _ _ (T148.setTop (mkF m 249 #[.val (.int p1), .val (.int p2), .val (.int p3), .val (.int p4), .val (.int p5), .val (.int p6), .val (.int (p3 &&& (255 : Int32))), .val (.int (p6 &&& (255 : Int32))), .val (.ref x), .val (.int v9), .val (.int (p1 &&& (7 : Int32))), s11, s12, .val (.int (p4 &&& (7 : Int32))), .val (.ref b_148), .val (.int ((p5 &&& (2147483647 : Int32)) % (46 : Int32))), .unset] [(.ref b_148)]))
        refine own_iload X148 hx (hb hby at_249) rfl ?_
        show Goes _ _ _ _ _ _ (T148.setTop (mkF m 251 #[.val (.int p1), .val (.int p2), .val (.int p3), .val (.int p4), .val (.int p5), .val (.int p6), .val (.int (p3 &&& (255 : Int32))), .val (.int (p6 &&& (255 : Int32))), .val (.ref x), .val (.int v9), .val (.int (p1 &&& (7 : Int32))), s11, s12, .val (.int (p4 &&& (7 : Int32))), .val (.ref b_148), .val (.int ((p5 &&& (2147483647 : Int32)) % (46 : Int32))), .unset] [(.int ((p5 &&& (2147483647 : Int32)) % (46 : Int32))), (.ref b_148)]))
        have hpx150 := own_px p5 (46 : Int32) 46 (by decide) (by decide)
        refine own_caload X148 hx hZ rfl r148_0 hpx150.1 (v := .int (tx1.getD (((p5 &&& (2147483647 : Int32)) % (46 : Int32))).toNatClampNeg (0 : Int32))) (own_gd _ _ _) (hb hby at_251) ?_
        show Goes _ _ _ _ _ _ (T148.setTop (mkF m 252 #[.val (.int p1), .val (.int p2), .val (.int p3), .val (.int p4), .val (.int p5), .val (.int p6), .val (.int (p3 &&& (255 : Int32))), .val (.int (p6 &&& (255 : Int32))), .val (.ref x), .val (.int v9), .val (.int (p1 &&& (7 : Int32))), s11, s12, .val (.int (p4 &&& (7 : Int32))), .val (.ref b_148), .val (.int ((p5 &&& (2147483647 : Int32)) % (46 : Int32))), .unset] [(.int (tx1.getD (((p5 &&& (2147483647 : Int32)) % (46 : Int32))).toNatClampNeg (0 : Int32)))]))
        refine own_iload X148 hx (hb hby at_252) rfl ?_
        by_cases hc254_151 : (tx1.getD (((p5 &&& (2147483647 : Int32)) % (46 : Int32))).toNatClampNeg (0 : Int32)) = (p6 &&& (255 : Int32))
        ·
          refine own_icmpNo X148 hx (hb hby at_254) (teq (hc254_151 : (tx1.getD (((p5 &&& (2147483647 : Int32)) % (46 : Int32))).toNatClampNeg (0 : Int32)) = (p6 &&& (255 : Int32)))).2 ?_
          show Goes _ _ _ _ _ _ (T148.setTop (mkF m 257 #[.val (.int p1), .val (.int p2), .val (.int p3), .val (.int p4), .val (.int p5), .val (.int p6), .val (.int (p3 &&& (255 : Int32))), .val (.int (p6 &&& (255 : Int32))), .val (.ref x), .val (.int v9), .val (.int (p1 &&& (7 : Int32))), s11, s12, .val (.int (p4 &&& (7 : Int32))), .val (.ref b_148), .val (.int ((p5 &&& (2147483647 : Int32)) % (46 : Int32))), .unset] []))
          refine own_iconst X148 hx (v := (1 : Int32)) (hb hby at_257) rfl ?_
          refine own_goto X148 hx (pc' := 262) (hb hby at_258) (by decide) (by decide) ?_
          refine own_istore X148 hx (Ls' := #[.val (.int p1), .val (.int p2), .val (.int p3), .val (.int p4), .val (.int p5), .val (.int p6), .val (.int (p3 &&& (255 : Int32))), .val (.int (p6 &&& (255 : Int32))), .val (.ref x), .val (.int v9), .val (.int (p1 &&& (7 : Int32))), s11, .val (.int (1 : Int32)), .val (.int (p4 &&& (7 : Int32))), .val (.ref b_148), .val (.int ((p5 &&& (2147483647 : Int32)) % (46 : Int32))), .unset]) (hb hby at_262) (by rcases hp_s12 with rfl | ⟨_, rfl⟩ | ⟨_, rfl⟩ <;> rfl) ?_
          show Goes _ _ _ _ _ _ (T148.setTop (mkF m 264 #[.val (.int p1), .val (.int p2), .val (.int p3), .val (.int p4), .val (.int p5), .val (.int p6), .val (.int (p3 &&& (255 : Int32))), .val (.int (p6 &&& (255 : Int32))), .val (.ref x), .val (.int v9), .val (.int (p1 &&& (7 : Int32))), s11, .val (.int (1 : Int32)), .val (.int (p4 &&& (7 : Int32))), .val (.ref b_148), .val (.int ((p5 &&& (2147483647 : Int32)) % (46 : Int32))), .unset] []))
          refine own_aload X148 hx (hb hby at_264) rfl rfl ?_
          refine own_iload X148 hx (hb hby at_266) rfl ?_
          refine own_iload X148 hx (hb hby at_268) rfl ?_
          show Goes _ _ _ _ _ _ (T148.setTop (mkF m 270 #[.val (.int p1), .val (.int p2), .val (.int p3), .val (.int p4), .val (.int p5), .val (.int p6), .val (.int (p3 &&& (255 : Int32))), .val (.int (p6 &&& (255 : Int32))), .val (.ref x), .val (.int v9), .val (.int (p1 &&& (7 : Int32))), s11, .val (.int (1 : Int32)), .val (.int (p4 &&& (7 : Int32))), .val (.ref b_148), .val (.int ((p5 &&& (2147483647 : Int32)) % (46 : Int32))), .unset] [(.int (p6 &&& (255 : Int32))), (.int ((p5 &&& (2147483647 : Int32)) % (46 : Int32))), (.ref b_148)]))
          refine own_castore X148 hx hZ N148 rfl r148_0 hpx150.1 (i := (((p5 &&& (2147483647 : Int32)) % (46 : Int32))).toNatClampNeg) rfl (by rw [List.length_map]; exact hpx150.2) ge_b_148 (hb hby at_270) (fun T152 h152 lc152 X152 e152 N152 W152 V152 => ?_)
          have O153 := O149.wr W152 ge_b_148
          have hk153 := Nat.le_trans hk149 (Keep.of_wr W152).1
          have KC153 := KC149.wr W152 (Or.inr sz_b_148)
          show Goes _ _ _ _ _ _ (T152.setTop (mkF m 271 #[.val (.int p1), .val (.int p2), .val (.int p3), .val (.int p4), .val (.int p5), .val (.int p6), .val (.int (p3 &&& (255 : Int32))), .val (.int (p6 &&& (255 : Int32))), .val (.ref x), .val (.int v9), .val (.int (p1 &&& (7 : Int32))), s11, .val (.int (1 : Int32)), .val (.int (p4 &&& (7 : Int32))), .val (.ref b_148), .val (.int ((p5 &&& (2147483647 : Int32)) % (46 : Int32))), .unset] []))
          refine own_new X152 hx hZ hown (hw _ (List.mem_of_getElem? (i := 0) rfl)) (hw _ (List.mem_of_getElem? (i := 1) rfl)) (hw _ (List.mem_of_getElem? (i := 2) rfl)) e152 (hb hby at_271) (by decide) (by decide) (fun T154 h154 b154 g154 X154 e154 E154 A154 D154 => ?_)
          have ge_b154 : n0 ≤ b154 := Nat.le_trans (own_sz O153) (Nat.le_of_eq g154.symm)
          have sz_b154 : h1.size ≤ b154 := Nat.le_trans KC153.1 (Nat.le_of_eq g154.symm)
          have A155_b_148 := V152.ext E154
          have O155 := O153.ext E154
          have hk155 := Nat.le_trans hk153 E154.1
          have KC155 := KC153.ext E154
          have F154_coder_b154 : Fld Z h154 b154 "java/lang/String" "coder" "B" (.int (0 : Int32)) := D154 (Or.inr (hw _ (List.mem_of_getElem? (i := 31) rfl))) (ty := .byte) (by decide)
          have F154_value_b154 : Fld Z h154 b154 "java/lang/String" "value" "[B" .null := D154 (Or.inr (hw _ (List.mem_of_getElem? (i := 33) rfl))) (ty := (.array .byte)) (by decide)
          show Goes _ _ _ _ _ _ (T154.setTop (mkF m 274 #[.val (.int p1), .val (.int p2), .val (.int p3), .val (.int p4), .val (.int p5), .val (.int p6), .val (.int (p3 &&& (255 : Int32))), .val (.int (p6 &&& (255 : Int32))), .val (.ref x), .val (.int v9), .val (.int (p1 &&& (7 : Int32))), s11, .val (.int (1 : Int32)), .val (.int (p4 &&& (7 : Int32))), .val (.ref b_148), .val (.int ((p5 &&& (2147483647 : Int32)) % (46 : Int32))), .unset] [(.ref b154)]))
          refine own_dup X154 hx (hb hby at_274) rfl ?_
          refine own_aload X154 hx (hb hby at_275) rfl rfl ?_
          show Goes _ _ _ _ _ _ (T154.setTop (mkF m 277 #[.val (.int p1), .val (.int p2), .val (.int p3), .val (.int p4), .val (.int p5), .val (.int p6), .val (.int (p3 &&& (255 : Int32))), .val (.int (p6 &&& (255 : Int32))), .val (.ref x), .val (.int v9), .val (.int (p1 &&& (7 : Int32))), s11, .val (.int (1 : Int32)), .val (.int (p4 &&& (7 : Int32))), .val (.ref b_148), .val (.int ((p5 &&& (2147483647 : Int32)) % (46 : Int32))), .unset] [(.ref b_148), (.ref b154), (.ref b154)]))
          have VA156 : Arv Z h154 b_148 k_148 .char (46 : Int32) ((tx1.set (((p5 &&& (2147483647 : Int32)) % (46 : Int32))).toNatClampNeg (p6 &&& (255 : Int32))).map Value.int) (.int (0 : Int32)) := by
            have e : nar .char (p6 &&& (255 : Int32)) = (p6 &&& (255 : Int32)) := i2c_mask p6
            have V := A155_b_148
            rw [e] at V
            rw [List.map_set]
            exact V
          refine own_strNew X154 hx hZ hown (hw _ (List.mem_of_getElem? (i := 8) rfl)) (hw _ (List.mem_of_getElem? (i := 9) rfl)) (hw _ (List.mem_of_getElem? (i := 10) rfl)) (own_wNew hw) (hw _ (List.mem_of_getElem? (i := 1) rfl)) (cs := (tx1.set (((p5 &&& (2147483647 : Int32)) % (46 : Int32))).toNatClampNeg (p6 &&& (255 : Int32)))) N152 e154 ge_b154 (own_sz O155) A154 F154_value_b154 F154_coder_b154 (n := 46) (by rw [List.length_set]; decide +kernel) (by decide +kernel) VA156 (z0.ext O155.2) hzc (by decide) (by decide) (own_setb tx1_5 _ (own_ch p6)) (W := 1) (rest := [(.ref b154)]) (by decide) (by decide) (by rw [hml]; rfl) (Nat.le_of_eq rfl) (by decide) (by decide) (hb hby at_277) (fun T156 lc156 h156 X156 e156 N156 K156 I156 => ?_)
          have O157 := O155.keep K156 (allS ge_b154 all0)
          have hk157 := Nat.le_trans hk155 K156.1
          have KC157 := KC155.trans K156 (allS (Or.inr sz_b154) all0)
          show Goes _ _ _ _ _ _ (T156.setTop (mkF m 280 #[.val (.int p1), .val (.int p2), .val (.int p3), .val (.int p4), .val (.int p5), .val (.int p6), .val (.int (p3 &&& (255 : Int32))), .val (.int (p6 &&& (255 : Int32))), .val (.ref x), .val (.int v9), .val (.int (p1 &&& (7 : Int32))), s11, .val (.int (1 : Int32)), .val (.int (p4 &&& (7 : Int32))), .val (.ref b_148), .val (.int ((p5 &&& (2147483647 : Int32)) % (46 : Int32))), .unset] [(.ref b154)]))
          refine own_astore X156 hx (Ls' := #[.val (.int p1), .val (.int p2), .val (.int p3), .val (.int p4), .val (.int p5), .val (.int p6), .val (.int (p3 &&& (255 : Int32))), .val (.int (p6 &&& (255 : Int32))), .val (.ref x), .val (.int v9), .val (.int (p1 &&& (7 : Int32))), .val (.ref b154), .val (.int (1 : Int32)), .val (.int (p4 &&& (7 : Int32))), .val (.ref b_148), .val (.int ((p5 &&& (2147483647 : Int32)) % (46 : Int32))), .unset]) (hb hby at_280) rfl (by rcases hp_s11 with rfl | ⟨_, rfl⟩ | ⟨_, rfl⟩ <;> rfl) ?_
          refine own_goto X156 hx (pc' := 375) (hb hby at_282) (by decide) (by decide) ?_
          show Goes _ _ _ _ _ _ (T156.setTop (mkF m 375 #[.val (.int p1), .val (.int p2), .val (.int p3), .val (.int p4), .val (.int p5), .val (.int p6), .val (.int (p3 &&& (255 : Int32))), .val (.int (p6 &&& (255 : Int32))), .val (.ref x), .val (.int v9), .val (.int (p1 &&& (7 : Int32))), .val (.ref b154), .val (.int (1 : Int32)), .val (.int (p4 &&& (7 : Int32))), .val (.ref b_148), .val (.int ((p5 &&& (2147483647 : Int32)) % (46 : Int32))), .unset] []))
          have Cc158 := C1.trans (CHr.keep KC157 (by simp) C1.1)
          exact jn375_3 T156 _ vm1 _ h156 (.ref b154) (1 : Int32) (.val (.ref b_148)) (.val (.int ((p5 &&& (2147483647 : Int32)) % (46 : Int32)))) (X156.mono (by decide) (by decide)) hS1 hk157 hZ hown e156 N156 O157 Cc158 KC157 (Or.inr ⟨b154, ((tx1.set (((p5 &&& (2147483647 : Int32)) % (46 : Int32))).toNatClampNeg (p6 &&& (255 : Int32)))), rfl, I156, (Or.inl ⟨rfl, (own_seteq _ _ _ hpx150.2).mpr hc254_151⟩)⟩) (Or.inr (Or.inl ⟨_, rfl⟩)) (Or.inr (Or.inr ⟨_, rfl⟩))
        ·
          refine own_icmpYes X148 hx (pc' := 261) (hb hby at_254) (feq (hc254_151 : ¬ ((tx1.getD (((p5 &&& (2147483647 : Int32)) % (46 : Int32))).toNatClampNeg (0 : Int32)) = (p6 &&& (255 : Int32))))).2 (by decide) (by decide) ?_
          show Goes _ _ _ _ _ _ (T148.setTop (mkF m 261 #[.val (.int p1), .val (.int p2), .val (.int p3), .val (.int p4), .val (.int p5), .val (.int p6), .val (.int (p3 &&& (255 : Int32))), .val (.int (p6 &&& (255 : Int32))), .val (.ref x), .val (.int v9), .val (.int (p1 &&& (7 : Int32))), s11, s12, .val (.int (p4 &&& (7 : Int32))), .val (.ref b_148), .val (.int ((p5 &&& (2147483647 : Int32)) % (46 : Int32))), .unset] []))
          refine own_iconst X148 hx (v := (0 : Int32)) (hb hby at_261) rfl ?_
          refine own_istore X148 hx (Ls' := #[.val (.int p1), .val (.int p2), .val (.int p3), .val (.int p4), .val (.int p5), .val (.int p6), .val (.int (p3 &&& (255 : Int32))), .val (.int (p6 &&& (255 : Int32))), .val (.ref x), .val (.int v9), .val (.int (p1 &&& (7 : Int32))), s11, .val (.int (0 : Int32)), .val (.int (p4 &&& (7 : Int32))), .val (.ref b_148), .val (.int ((p5 &&& (2147483647 : Int32)) % (46 : Int32))), .unset]) (hb hby at_262) (by rcases hp_s12 with rfl | ⟨_, rfl⟩ | ⟨_, rfl⟩ <;> rfl) ?_
          refine own_aload X148 hx (hb hby at_264) rfl rfl ?_
          show Goes _ _ _ _ _ _ (T148.setTop (mkF m 266 #[.val (.int p1), .val (.int p2), .val (.int p3), .val (.int p4), .val (.int p5), .val (.int p6), .val (.int (p3 &&& (255 : Int32))), .val (.int (p6 &&& (255 : Int32))), .val (.ref x), .val (.int v9), .val (.int (p1 &&& (7 : Int32))), s11, .val (.int (0 : Int32)), .val (.int (p4 &&& (7 : Int32))), .val (.ref b_148), .val (.int ((p5 &&& (2147483647 : Int32)) % (46 : Int32))), .unset] [(.ref b_148)]))
          refine own_iload X148 hx (hb hby at_266) rfl ?_
          refine own_iload X148 hx (hb hby at_268) rfl ?_
          refine own_castore X148 hx hZ N148 rfl r148_0 hpx150.1 (i := (((p5 &&& (2147483647 : Int32)) % (46 : Int32))).toNatClampNeg) rfl (by rw [List.length_map]; exact hpx150.2) ge_b_148 (hb hby at_270) (fun T159 h159 lc159 X159 e159 N159 W159 V159 => ?_)
          have O160 := O149.wr W159 ge_b_148
          have hk160 := Nat.le_trans hk149 (Keep.of_wr W159).1
          have KC160 := KC149.wr W159 (Or.inr sz_b_148)
          show Goes _ _ _ _ _ _ (T159.setTop (mkF m 271 #[.val (.int p1), .val (.int p2), .val (.int p3), .val (.int p4), .val (.int p5), .val (.int p6), .val (.int (p3 &&& (255 : Int32))), .val (.int (p6 &&& (255 : Int32))), .val (.ref x), .val (.int v9), .val (.int (p1 &&& (7 : Int32))), s11, .val (.int (0 : Int32)), .val (.int (p4 &&& (7 : Int32))), .val (.ref b_148), .val (.int ((p5 &&& (2147483647 : Int32)) % (46 : Int32))), .unset] []))
          refine own_new X159 hx hZ hown (hw _ (List.mem_of_getElem? (i := 0) rfl)) (hw _ (List.mem_of_getElem? (i := 1) rfl)) (hw _ (List.mem_of_getElem? (i := 2) rfl)) e159 (hb hby at_271) (by decide) (by decide) (fun T161 h161 b161 g161 X161 e161 E161 A161 D161 => ?_)
          have ge_b161 : n0 ≤ b161 := Nat.le_trans (own_sz O160) (Nat.le_of_eq g161.symm)
          have sz_b161 : h1.size ≤ b161 := Nat.le_trans KC160.1 (Nat.le_of_eq g161.symm)
          have A162_b_148 := V159.ext E161
          have O162 := O160.ext E161
          have hk162 := Nat.le_trans hk160 E161.1
          have KC162 := KC160.ext E161
          have F161_coder_b161 : Fld Z h161 b161 "java/lang/String" "coder" "B" (.int (0 : Int32)) := D161 (Or.inr (hw _ (List.mem_of_getElem? (i := 31) rfl))) (ty := .byte) (by decide)
          have F161_value_b161 : Fld Z h161 b161 "java/lang/String" "value" "[B" .null := D161 (Or.inr (hw _ (List.mem_of_getElem? (i := 33) rfl))) (ty := (.array .byte)) (by decide)
          show Goes _ _ _ _ _ _ (T161.setTop (mkF m 274 #[.val (.int p1), .val (.int p2), .val (.int p3), .val (.int p4), .val (.int p5), .val (.int p6), .val (.int (p3 &&& (255 : Int32))), .val (.int (p6 &&& (255 : Int32))), .val (.ref x), .val (.int v9), .val (.int (p1 &&& (7 : Int32))), s11, .val (.int (0 : Int32)), .val (.int (p4 &&& (7 : Int32))), .val (.ref b_148), .val (.int ((p5 &&& (2147483647 : Int32)) % (46 : Int32))), .unset] [(.ref b161)]))
          refine own_dup X161 hx (hb hby at_274) rfl ?_
          refine own_aload X161 hx (hb hby at_275) rfl rfl ?_
          show Goes _ _ _ _ _ _ (T161.setTop (mkF m 277 #[.val (.int p1), .val (.int p2), .val (.int p3), .val (.int p4), .val (.int p5), .val (.int p6), .val (.int (p3 &&& (255 : Int32))), .val (.int (p6 &&& (255 : Int32))), .val (.ref x), .val (.int v9), .val (.int (p1 &&& (7 : Int32))), s11, .val (.int (0 : Int32)), .val (.int (p4 &&& (7 : Int32))), .val (.ref b_148), .val (.int ((p5 &&& (2147483647 : Int32)) % (46 : Int32))), .unset] [(.ref b_148), (.ref b161), (.ref b161)]))
          have VA163 : Arv Z h161 b_148 k_148 .char (46 : Int32) ((tx1.set (((p5 &&& (2147483647 : Int32)) % (46 : Int32))).toNatClampNeg (p6 &&& (255 : Int32))).map Value.int) (.int (0 : Int32)) := by
            have e : nar .char (p6 &&& (255 : Int32)) = (p6 &&& (255 : Int32)) := i2c_mask p6
            have V := A162_b_148
            rw [e] at V
            rw [List.map_set]
            exact V
          refine own_strNew X161 hx hZ hown (hw _ (List.mem_of_getElem? (i := 8) rfl)) (hw _ (List.mem_of_getElem? (i := 9) rfl)) (hw _ (List.mem_of_getElem? (i := 10) rfl)) (own_wNew hw) (hw _ (List.mem_of_getElem? (i := 1) rfl)) (cs := (tx1.set (((p5 &&& (2147483647 : Int32)) % (46 : Int32))).toNatClampNeg (p6 &&& (255 : Int32)))) N159 e161 ge_b161 (own_sz O162) A161 F161_value_b161 F161_coder_b161 (n := 46) (by rw [List.length_set]; decide +kernel) (by decide +kernel) VA163 (z0.ext O162.2) hzc (by decide) (by decide) (own_setb tx1_5 _ (own_ch p6)) (W := 1) (rest := [(.ref b161)]) (by decide) (by decide) (by rw [hml]; rfl) (Nat.le_of_eq rfl) (by decide) (by decide) (hb hby at_277) (fun T163 lc163 h163 X163 e163 N163 K163 I163 => ?_)
          have O164 := O162.keep K163 (allS ge_b161 all0)
          have hk164 := Nat.le_trans hk162 K163.1
          have KC164 := KC162.trans K163 (allS (Or.inr sz_b161) all0)
          show Goes _ _ _ _ _ _ (T163.setTop (mkF m 280 #[.val (.int p1), .val (.int p2), .val (.int p3), .val (.int p4), .val (.int p5), .val (.int p6), .val (.int (p3 &&& (255 : Int32))), .val (.int (p6 &&& (255 : Int32))), .val (.ref x), .val (.int v9), .val (.int (p1 &&& (7 : Int32))), s11, .val (.int (0 : Int32)), .val (.int (p4 &&& (7 : Int32))), .val (.ref b_148), .val (.int ((p5 &&& (2147483647 : Int32)) % (46 : Int32))), .unset] [(.ref b161)]))
          refine own_astore X163 hx (Ls' := #[.val (.int p1), .val (.int p2), .val (.int p3), .val (.int p4), .val (.int p5), .val (.int p6), .val (.int (p3 &&& (255 : Int32))), .val (.int (p6 &&& (255 : Int32))), .val (.ref x), .val (.int v9), .val (.int (p1 &&& (7 : Int32))), .val (.ref b161), .val (.int (0 : Int32)), .val (.int (p4 &&& (7 : Int32))), .val (.ref b_148), .val (.int ((p5 &&& (2147483647 : Int32)) % (46 : Int32))), .unset]) (hb hby at_280) rfl (by rcases hp_s11 with rfl | ⟨_, rfl⟩ | ⟨_, rfl⟩ <;> rfl) ?_
          refine own_goto X163 hx (pc' := 375) (hb hby at_282) (by decide) (by decide) ?_
          show Goes _ _ _ _ _ _ (T163.setTop (mkF m 375 #[.val (.int p1), .val (.int p2), .val (.int p3), .val (.int p4), .val (.int p5), .val (.int p6), .val (.int (p3 &&& (255 : Int32))), .val (.int (p6 &&& (255 : Int32))), .val (.ref x), .val (.int v9), .val (.int (p1 &&& (7 : Int32))), .val (.ref b161), .val (.int (0 : Int32)), .val (.int (p4 &&& (7 : Int32))), .val (.ref b_148), .val (.int ((p5 &&& (2147483647 : Int32)) % (46 : Int32))), .unset] []))
          have Cc165 := C1.trans (CHr.keep KC164 (by simp) C1.1)
          exact jn375_3 T163 _ vm1 _ h163 (.ref b161) (0 : Int32) (.val (.ref b_148)) (.val (.int ((p5 &&& (2147483647 : Int32)) % (46 : Int32)))) (X163.mono (by decide) (by decide)) hS1 hk164 hZ hown e163 N163 O164 Cc165 KC164 (Or.inr ⟨b161, ((tx1.set (((p5 &&& (2147483647 : Int32)) % (46 : Int32))).toNatClampNeg (p6 &&& (255 : Int32)))), rfl, I163, (Or.inr ⟨rfl, fun q => hc254_151 ((own_seteq _ _ _ hpx150.2).mp q)⟩)⟩) (Or.inr (Or.inl ⟨_, rfl⟩)) (Or.inr (Or.inr ⟨_, rfl⟩))
      ·
        refine own_icmpYes X1 hx (pc' := 285) (hb hby at_228) (feq (hc228_147 : ¬ ((p4 &&& (7 : Int32)) = (1 : Int32)))).2 (by decide) (by decide) ?_
        show Goes _ _ _ _ _ _ (T1.setTop (mkF m 285 #[.val (.int p1), .val (.int p2), .val (.int p3), .val (.int p4), .val (.int p5), .val (.int p6), .val (.int (p3 &&& (255 : Int32))), .val (.int (p6 &&& (255 : Int32))), .val (.ref x), .val (.int v9), .val (.int (p1 &&& (7 : Int32))), s11, s12, .val (.int (p4 &&& (7 : Int32))), .unset, .unset, .unset] []))
        refine own_iload X1 hx (hb hby at_285) rfl ?_
        refine own_iconst X1 hx (v := (2 : Int32)) (hb hby at_287) rfl ?_
        by_cases hc288_166 : (p4 &&& (7 : Int32)) = (2 : Int32)
        ·
          refine own_icmpNo X1 hx (hb hby at_288) (teq (hc288_166 : (p4 &&& (7 : Int32)) = (2 : Int32))).2 ?_
          show Goes _ _ _ _ _ _ (T1.setTop (mkF m 291 #[.val (.int p1), .val (.int p2), .val (.int p3), .val (.int p4), .val (.int p5), .val (.int p6), .val (.int (p3 &&& (255 : Int32))), .val (.int (p6 &&& (255 : Int32))), .val (.ref x), .val (.int v9), .val (.int (p1 &&& (7 : Int32))), s11, s12, .val (.int (p4 &&& (7 : Int32))), .unset, .unset, .unset] []))
          refine own_aconst_null X1 hx (hb hby at_291) ?_
          refine own_astore X1 hx (Ls' := #[.val (.int p1), .val (.int p2), .val (.int p3), .val (.int p4), .val (.int p5), .val (.int p6), .val (.int (p3 &&& (255 : Int32))), .val (.int (p6 &&& (255 : Int32))), .val (.ref x), .val (.int v9), .val (.int (p1 &&& (7 : Int32))), .val .null, s12, .val (.int (p4 &&& (7 : Int32))), .unset, .unset, .unset]) (hb hby at_292) rfl (by rcases hp_s11 with rfl | ⟨_, rfl⟩ | ⟨_, rfl⟩ <;> rfl) ?_
          refine own_iconst X1 hx (v := (0 : Int32)) (hb hby at_294) rfl ?_
          show Goes _ _ _ _ _ _ (T1.setTop (mkF m 295 #[.val (.int p1), .val (.int p2), .val (.int p3), .val (.int p4), .val (.int p5), .val (.int p6), .val (.int (p3 &&& (255 : Int32))), .val (.int (p6 &&& (255 : Int32))), .val (.ref x), .val (.int v9), .val (.int (p1 &&& (7 : Int32))), .val .null, s12, .val (.int (p4 &&& (7 : Int32))), .unset, .unset, .unset] [(.int (0 : Int32))]))
          refine own_istore X1 hx (Ls' := #[.val (.int p1), .val (.int p2), .val (.int p3), .val (.int p4), .val (.int p5), .val (.int p6), .val (.int (p3 &&& (255 : Int32))), .val (.int (p6 &&& (255 : Int32))), .val (.ref x), .val (.int v9), .val (.int (p1 &&& (7 : Int32))), .val .null, .val (.int (0 : Int32)), .val (.int (p4 &&& (7 : Int32))), .unset, .unset, .unset]) (hb hby at_295) (by rcases hp_s12 with rfl | ⟨_, rfl⟩ | ⟨_, rfl⟩ <;> rfl) ?_
          refine own_goto X1 hx (pc' := 375) (hb hby at_297) (by decide) (by decide) ?_
          show Goes _ _ _ _ _ _ (T1.setTop (mkF m 375 #[.val (.int p1), .val (.int p2), .val (.int p3), .val (.int p4), .val (.int p5), .val (.int p6), .val (.int (p3 &&& (255 : Int32))), .val (.int (p6 &&& (255 : Int32))), .val (.ref x), .val (.int v9), .val (.int (p1 &&& (7 : Int32))), .val .null, .val (.int (0 : Int32)), .val (.int (p4 &&& (7 : Int32))), .unset, .unset, .unset] []))
          have Cc167 := C1.trans (CHr.keep KB2 (by simp) C1.1)
          exact jn375_3 T1 _ vm1 _ h1 .null (0 : Int32) .unset .unset (X1.mono (by decide) (by decide)) hS1 hk1_ hZ hown e1 N1 O1 Cc167 KB2 (Or.inl ⟨rfl, rfl⟩) (Or.inl rfl) (Or.inl rfl)
        ·
          refine own_icmpYes X1 hx (pc' := 300) (hb hby at_288) (feq (hc288_166 : ¬ ((p4 &&& (7 : Int32)) = (2 : Int32)))).2 (by decide) (by decide) ?_
          show Goes _ _ _ _ _ _ (T1.setTop (mkF m 300 #[.val (.int p1), .val (.int p2), .val (.int p3), .val (.int p4), .val (.int p5), .val (.int p6), .val (.int (p3 &&& (255 : Int32))), .val (.int (p6 &&& (255 : Int32))), .val (.ref x), .val (.int v9), .val (.int (p1 &&& (7 : Int32))), s11, s12, .val (.int (p4 &&& (7 : Int32))), .unset, .unset, .unset] []))
          refine own_iload X1 hx (hb hby at_300) rfl ?_
          refine own_iconst X1 hx (v := (3 : Int32)) (hb hby at_302) rfl ?_
          by_cases hc303_168 : (p4 &&& (7 : Int32)) = (3 : Int32)
          ·
            refine own_icmpNo X1 hx (hb hby at_303) (teq (hc303_168 : (p4 &&& (7 : Int32)) = (3 : Int32))).2 ?_
            show Goes _ _ _ _ _ _ (T1.setTop (mkF m 306 #[.val (.int p1), .val (.int p2), .val (.int p3), .val (.int p4), .val (.int p5), .val (.int p6), .val (.int (p3 &&& (255 : Int32))), .val (.int (p6 &&& (255 : Int32))), .val (.ref x), .val (.int v9), .val (.int (p1 &&& (7 : Int32))), s11, s12, .val (.int (p4 &&& (7 : Int32))), .unset, .unset, .unset] []))
            have Cc169 := C1.trans (CHr.keep KB2 (by simp) C1.1)
            refine own_ldcH X1 hx hZ hown hS1 hk1_ (hw _ (List.mem_of_getElem? (i := 89) rfl)) (own_wS hw) hEL (by simp [consts_1]) Cc169.1 e1 (cs := tx3) tx3_t tx3_z tx3_4 tx3_5 (n := 196) (hb hby at_306) (by decide +kernel) (by decide) (by decide) (by decide) (fun sa170 T170 h170 k1_170 X170 hS170 hk170_ hZ hown e170 E170 D170 I170 => ?_)
            have O171 := O1.ext E170
            have KC171 := KB2.ext E170
            have IS170_x := IsStr.ext i1 E170
            have CC170 := Cc169.trans D170
            have KB172 := Keep.refl h170 []
            show Goes _ _ _ _ _ _ (T170.setTop (mkF m 308 #[.val (.int p1), .val (.int p2), .val (.int p3), .val (.int p4), .val (.int p5), .val (.int p6), .val (.int (p3 &&& (255 : Int32))), .val (.int (p6 &&& (255 : Int32))), .val (.ref x), .val (.int v9), .val (.int (p1 &&& (7 : Int32))), s11, s12, .val (.int (p4 &&& (7 : Int32))), .unset, .unset, .unset] [(.ref sa170)]))
            refine own_astore X170 hx (Ls' := #[.val (.int p1), .val (.int p2), .val (.int p3), .val (.int p4), .val (.int p5), .val (.int p6), .val (.int (p3 &&& (255 : Int32))), .val (.int (p6 &&& (255 : Int32))), .val (.ref x), .val (.int v9), .val (.int (p1 &&& (7 : Int32))), .val (.ref sa170), s12, .val (.int (p4 &&& (7 : Int32))), .unset, .unset, .unset]) (hb hby at_308) rfl (by rcases hp_s11 with rfl | ⟨_, rfl⟩ | ⟨_, rfl⟩ <;> rfl) ?_
            refine own_iconst X170 hx (v := (0 : Int32)) (hb hby at_310) rfl ?_
            refine own_istore X170 hx (Ls' := #[.val (.int p1), .val (.int p2), .val (.int p3), .val (.int p4), .val (.int p5), .val (.int p6), .val (.int (p3 &&& (255 : Int32))), .val (.int (p6 &&& (255 : Int32))), .val (.ref x), .val (.int v9), .val (.int (p1 &&& (7 : Int32))), .val (.ref sa170), .val (.int (0 : Int32)), .val (.int (p4 &&& (7 : Int32))), .unset, .unset, .unset]) (hb hby at_311) (by rcases hp_s12 with rfl | ⟨_, rfl⟩ | ⟨_, rfl⟩ <;> rfl) ?_
            show Goes _ _ _ _ _ _ (T170.setTop (mkF m 313 #[.val (.int p1), .val (.int p2), .val (.int p3), .val (.int p4), .val (.int p5), .val (.int p6), .val (.int (p3 &&& (255 : Int32))), .val (.int (p6 &&& (255 : Int32))), .val (.ref x), .val (.int v9), .val (.int (p1 &&& (7 : Int32))), .val (.ref sa170), .val (.int (0 : Int32)), .val (.int (p4 &&& (7 : Int32))), .unset, .unset, .unset] []))
            refine own_goto X170 hx (pc' := 375) (hb hby at_313) (by decide) (by decide) ?_
            show Goes _ _ _ _ _ _ (T170.setTop (mkF m 375 #[.val (.int p1), .val (.int p2), .val (.int p3), .val (.int p4), .val (.int p5), .val (.int p6), .val (.int (p3 &&& (255 : Int32))), .val (.int (p6 &&& (255 : Int32))), .val (.ref x), .val (.int v9), .val (.int (p1 &&& (7 : Int32))), .val (.ref sa170), .val (.int (0 : Int32)), .val (.int (p4 &&& (7 : Int32))), .unset, .unset, .unset] []))
            have Cc173 := CC170.trans (CHr.keep KB172 (by simp) CC170.1)
            exact jn375_3 T170 _ T170.vm _ h170 (.ref sa170) (0 : Int32) .unset .unset (X170.mono (by decide) (by decide)) hS170 hk170_ hZ hown e170 N1 O171 Cc173 (KC171.trans KB172 all0) (Or.inr ⟨sa170, tx3, rfl, I170, (Or.inr ⟨rfl, by decide +kernel⟩)⟩) (Or.inl rfl) (Or.inl rfl)
          ·
            refine own_icmpYes X1 hx (pc' := 316) (hb hby at_303) (feq (hc303_168 : ¬ ((p4 &&& (7 : Int32)) = (3 : Int32)))).2 (by decide) (by decide) ?_
            show Goes _ _ _ _ _ _ (T1.setTop (mkF m 316 #[.val (.int p1), .val (.int p2), .val (.int p3), .val (.int p4), .val (.int p5), .val (.int p6), .val (.int (p3 &&& (255 : Int32))), .val (.int (p6 &&& (255 : Int32))), .val (.ref x), .val (.int v9), .val (.int (p1 &&& (7 : Int32))), s11, s12, .val (.int (p4 &&& (7 : Int32))), .unset, .unset, .unset] []))
            refine own_iload X1 hx (hb hby at_316) rfl ?_
            refine own_iconst X1 hx (v := (4 : Int32)) (hb hby at_318) rfl ?_
            by_cases hc319_174 : (p4 &&& (7 : Int32)) = (4 : Int32)
            ·
              refine own_icmpNo X1 hx (hb hby at_319) (teq (hc319_174 : (p4 &&& (7 : Int32)) = (4 : Int32))).2 ?_
              show Goes _ _ _ _ _ _ (T1.setTop (mkF m 322 #[.val (.int p1), .val (.int p2), .val (.int p3), .val (.int p4), .val (.int p5), .val (.int p6), .val (.int (p3 &&& (255 : Int32))), .val (.int (p6 &&& (255 : Int32))), .val (.ref x), .val (.int v9), .val (.int (p1 &&& (7 : Int32))), s11, s12, .val (.int (p4 &&& (7 : Int32))), .unset, .unset, .unset] []))
              have Cc175 := C1.trans (CHr.keep KB2 (by simp) C1.1)
              refine own_ldcH X1 hx hZ hown hS1 hk1_ (hw _ (List.mem_of_getElem? (i := 90) rfl)) (own_wS hw) hEL (by simp [consts_1]) Cc175.1 e1 (cs := tx0) tx0_t tx0_z tx0_4 tx0_5 (n := 176) (hb hby at_322) (by decide +kernel) (by decide) (by decide) (by decide) (fun sa176 T176 h176 k1_176 X176 hS176 hk176_ hZ hown e176 E176 D176 I176 => ?_)
              have O177 := O1.ext E176
              have KC177 := KB2.ext E176
              have IS176_x := IsStr.ext i1 E176
              have CC176 := Cc175.trans D176
              have KB178 := Keep.refl h176 []
              show Goes _ _ _ _ _ _ (T176.setTop (mkF m 324 #[.val (.int p1), .val (.int p2), .val (.int p3), .val (.int p4), .val (.int p5), .val (.int p6), .val (.int (p3 &&& (255 : Int32))), .val (.int (p6 &&& (255 : Int32))), .val (.ref x), .val (.int v9), .val (.int (p1 &&& (7 : Int32))), s11, s12, .val (.int (p4 &&& (7 : Int32))), .unset, .unset, .unset] [(.ref sa176)]))
              refine own_astore X176 hx (Ls' := #[.val (.int p1), .val (.int p2), .val (.int p3), .val (.int p4), .val (.int p5), .val (.int p6), .val (.int (p3 &&& (255 : Int32))), .val (.int (p6 &&& (255 : Int32))), .val (.ref x), .val (.int v9), .val (.int (p1 &&& (7 : Int32))), .val (.ref sa176), s12, .val (.int (p4 &&& (7 : Int32))), .unset, .unset, .unset]) (hb hby at_324) rfl (by rcases hp_s11 with rfl | ⟨_, rfl⟩ | ⟨_, rfl⟩ <;> rfl) ?_
              refine own_iconst X176 hx (v := (0 : Int32)) (hb hby at_326) rfl ?_
              refine own_istore X176 hx (Ls' := #[.val (.int p1), .val (.int p2), .val (.int p3), .val (.int p4), .val (.int p5), .val (.int p6), .val (.int (p3 &&& (255 : Int32))), .val (.int (p6 &&& (255 : Int32))), .val (.ref x), .val (.int v9), .val (.int (p1 &&& (7 : Int32))), .val (.ref sa176), .val (.int (0 : Int32)), .val (.int (p4 &&& (7 : Int32))), .unset, .unset, .unset]) (hb hby at_327) (by rcases hp_s12 with rfl | ⟨_, rfl⟩ | ⟨_, rfl⟩ <;> rfl) ?_
              show Goes _ _ _ _ _ _ (T176.setTop (mkF m 329 #[.val (.int p1), .val (.int p2), .val (.int p3), .val (.int p4), .val (.int p5), .val (.int p6), .val (.int (p3 &&& (255 : Int32))), .val (.int (p6 &&& (255 : Int32))), .val (.ref x), .val (.int v9), .val (.int (p1 &&& (7 : Int32))), .val (.ref sa176), .val (.int (0 : Int32)), .val (.int (p4 &&& (7 : Int32))), .unset, .unset, .unset] []))
              refine own_goto X176 hx (pc' := 375) (hb hby at_329) (by decide) (by decide) ?_
              show Goes _ _ _ _ _ _ (T176.setTop (mkF m 375 #[.val (.int p1), .val (.int p2), .val (.int p3), .val (.int p4), .val (.int p5), .val (.int p6), .val (.int (p3 &&& (255 : Int32))), .val (.int (p6 &&& (255 : Int32))), .val (.ref x), .val (.int v9), .val (.int (p1 &&& (7 : Int32))), .val (.ref sa176), .val (.int (0 : Int32)), .val (.int (p4 &&& (7 : Int32))), .unset, .unset, .unset] []))
              have Cc179 := CC176.trans (CHr.keep KB178 (by simp) CC176.1)
              exact jn375_3 T176 _ T176.vm _ h176 (.ref sa176) (0 : Int32) .unset .unset (X176.mono (by decide) (by decide)) hS176 hk176_ hZ hown e176 N1 O177 Cc179 (KC177.trans KB178 all0) (Or.inr ⟨sa176, tx0, rfl, I176, (Or.inr ⟨rfl, by decide +kernel⟩)⟩) (Or.inl rfl) (Or.inl rfl)
            ·
              refine own_icmpYes X1 hx (pc' := 332) (hb hby at_319) (feq (hc319_174 : ¬ ((p4 &&& (7 : Int32)) = (4 : Int32)))).2 (by decide) (by decide) ?_
              show Goes _ _ _ _ _ _ (T1.setTop (mkF m 332 #[.val (.int p1), .val (.int p2), .val (.int p3), .val (.int p4), .val (.int p5), .val (.int p6), .val (.int (p3 &&& (255 : Int32))), .val (.int (p6 &&& (255 : Int32))), .val (.ref x), .val (.int v9), .val (.int (p1 &&& (7 : Int32))), s11, s12, .val (.int (p4 &&& (7 : Int32))), .unset, .unset, .unset] []))
              refine own_iload X1 hx (hb hby at_332) rfl ?_
              refine own_iconst X1 hx (v := (5 : Int32)) (hb hby at_334) rfl ?_
              by_cases hc335_180 : (p4 &&& (7 : Int32)) = (5 : Int32)
              ·
                refine own_icmpNo X1 hx (hb hby at_335) (teq (hc335_180 : (p4 &&& (7 : Int32)) = (5 : Int32))).2 ?_
                show Goes _ _ _ _ _ _ (T1.setTop (mkF m 338 #[.val (.int p1), .val (.int p2), .val (.int p3), .val (.int p4), .val (.int p5), .val (.int p6), .val (.int (p3 &&& (255 : Int32))), .val (.int (p6 &&& (255 : Int32))), .val (.ref x), .val (.int v9), .val (.int (p1 &&& (7 : Int32))), s11, s12, .val (.int (p4 &&& (7 : Int32))), .unset, .unset, .unset] []))
                have Cc181 := C1.trans (CHr.keep KB2 (by simp) C1.1)
                refine own_ldcH X1 hx hZ hown hS1 hk1_ (hw _ (List.mem_of_getElem? (i := 91) rfl)) (own_wS hw) hEL (by simp [consts_1]) Cc181.1 e1 (cs := tx4) tx4_t tx4_z tx4_4 tx4_5 (n := 168) (hb hby at_338) (by decide +kernel) (by decide) (by decide) (by decide) (fun sa182 T182 h182 k1_182 X182 hS182 hk182_ hZ hown e182 E182 D182 I182 => ?_)
                have O183 := O1.ext E182
                have KC183 := KB2.ext E182
                have IS182_x := IsStr.ext i1 E182
                have CC182 := Cc181.trans D182
                have KB184 := Keep.refl h182 []
                show Goes _ _ _ _ _ _ (T182.setTop (mkF m 340 #[.val (.int p1), .val (.int p2), .val (.int p3), .val (.int p4), .val (.int p5), .val (.int p6), .val (.int (p3 &&& (255 : Int32))), .val (.int (p6 &&& (255 : Int32))), .val (.ref x), .val (.int v9), .val (.int (p1 &&& (7 : Int32))), s11, s12, .val (.int (p4 &&& (7 : Int32))), .unset, .unset, .unset] [(.ref sa182)]))
                refine own_astore X182 hx (Ls' := #[.val (.int p1), .val (.int p2), .val (.int p3), .val (.int p4), .val (.int p5), .val (.int p6), .val (.int (p3 &&& (255 : Int32))), .val (.int (p6 &&& (255 : Int32))), .val (.ref x), .val (.int v9), .val (.int (p1 &&& (7 : Int32))), .val (.ref sa182), s12, .val (.int (p4 &&& (7 : Int32))), .unset, .unset, .unset]) (hb hby at_340) rfl (by rcases hp_s11 with rfl | ⟨_, rfl⟩ | ⟨_, rfl⟩ <;> rfl) ?_
                refine own_iconst X182 hx (v := (0 : Int32)) (hb hby at_342) rfl ?_
                refine own_istore X182 hx (Ls' := #[.val (.int p1), .val (.int p2), .val (.int p3), .val (.int p4), .val (.int p5), .val (.int p6), .val (.int (p3 &&& (255 : Int32))), .val (.int (p6 &&& (255 : Int32))), .val (.ref x), .val (.int v9), .val (.int (p1 &&& (7 : Int32))), .val (.ref sa182), .val (.int (0 : Int32)), .val (.int (p4 &&& (7 : Int32))), .unset, .unset, .unset]) (hb hby at_343) (by rcases hp_s12 with rfl | ⟨_, rfl⟩ | ⟨_, rfl⟩ <;> rfl) ?_
                show Goes _ _ _ _ _ _ (T182.setTop (mkF m 345 #[.val (.int p1), .val (.int p2), .val (.int p3), .val (.int p4), .val (.int p5), .val (.int p6), .val (.int (p3 &&& (255 : Int32))), .val (.int (p6 &&& (255 : Int32))), .val (.ref x), .val (.int v9), .val (.int (p1 &&& (7 : Int32))), .val (.ref sa182), .val (.int (0 : Int32)), .val (.int (p4 &&& (7 : Int32))), .unset, .unset, .unset] []))
                refine own_goto X182 hx (pc' := 375) (hb hby at_345) (by decide) (by decide) ?_
                show Goes _ _ _ _ _ _ (T182.setTop (mkF m 375 #[.val (.int p1), .val (.int p2), .val (.int p3), .val (.int p4), .val (.int p5), .val (.int p6), .val (.int (p3 &&& (255 : Int32))), .val (.int (p6 &&& (255 : Int32))), .val (.ref x), .val (.int v9), .val (.int (p1 &&& (7 : Int32))), .val (.ref sa182), .val (.int (0 : Int32)), .val (.int (p4 &&& (7 : Int32))), .unset, .unset, .unset] []))
                have Cc185 := CC182.trans (CHr.keep KB184 (by simp) CC182.1)
                exact jn375_3 T182 _ T182.vm _ h182 (.ref sa182) (0 : Int32) .unset .unset (X182.mono (by decide) (by decide)) hS182 hk182_ hZ hown e182 N1 O183 Cc185 (KC183.trans KB184 all0) (Or.inr ⟨sa182, tx4, rfl, I182, (Or.inr ⟨rfl, by decide +kernel⟩)⟩) (Or.inl rfl) (Or.inl rfl)
              ·
                refine own_icmpYes X1 hx (pc' := 348) (hb hby at_335) (feq (hc335_180 : ¬ ((p4 &&& (7 : Int32)) = (5 : Int32)))).2 (by decide) (by decide) ?_
                show Goes _ _ _ _ _ _ (T1.setTop (mkF m 348 #[.val (.int p1), .val (.int p2), .val (.int p3), .val (.int p4), .val (.int p5), .val (.int p6), .val (.int (p3 &&& (255 : Int32))), .val (.int (p6 &&& (255 : Int32))), .val (.ref x), .val (.int v9), .val (.int (p1 &&& (7 : Int32))), s11, s12, .val (.int (p4 &&& (7 : Int32))), .unset, .unset, .unset] []))
                refine own_iload X1 hx (hb hby at_348) rfl ?_
                refine own_bipush X1 hx (v := (6 : Int32)) (hb hby at_350) rfl ?_
                by_cases hc352_186 : (p4 &&& (7 : Int32)) = (6 : Int32)
                ·
                  refine own_icmpNo X1 hx (hb hby at_352) (teq (hc352_186 : (p4 &&& (7 : Int32)) = (6 : Int32))).2 ?_
                  show Goes _ _ _ _ _ _ (T1.setTop (mkF m 355 #[.val (.int p1), .val (.int p2), .val (.int p3), .val (.int p4), .val (.int p5), .val (.int p6), .val (.int (p3 &&& (255 : Int32))), .val (.int (p6 &&& (255 : Int32))), .val (.ref x), .val (.int v9), .val (.int (p1 &&& (7 : Int32))), s11, s12, .val (.int (p4 &&& (7 : Int32))), .unset, .unset, .unset] []))
                  refine own_iload X1 hx (hb hby at_355) rfl ?_
                  refine own_callS X1 hx hZ hown (y := (⟨"java/lang/String", "valueOf", "(C)Ljava/lang/String;"⟩ : MethodName)) (hw _ (List.mem_of_getElem? (i := 77) rfl)) (hw _ (List.mem_of_getElem? (i := 78) rfl)) (hw _ (List.mem_of_getElem? (i := 2) rfl)) (hw _ (List.mem_of_getElem? (i := 79) rfl)) (by decide) (W := 0) (by decide) (by decide) N1 e1 (by rw [hml]; rfl) (argsL := [(.int (p6 &&& (255 : Int32)))]) (rest := []) (lenOf pd_7 rfl) (Nat.le_of_eq rfl) (by decide) (by decide) (rm14 l Z a0 hw [] (p6 &&& (255 : Int32)) zc h1 n0 O1 ⟨z0, hzc, trivial⟩ (own_ch p6)) rfl (hb hby at_357) ?_
                  intro v187 T187 lc187 X187 N187 hQ187
                  obtain ⟨b_187, rfl, K187, r187_0, r187_1⟩ := hQ187
                  have O188 := O1.keep K187 all0
                  have hk188 := Nat.le_trans hk1_ K187.1
                  have KC188 := KB2.trans K187 all0
                  have ge_b_187 : n0 ≤ b_187 := Nat.le_trans (own_sz O1) r187_1
                  have sz_b_187 : h1.size ≤ b_187 := Nat.le_trans KB2.1 r187_1
                  show Goes _ _ _ _ _ _ (T187.setTop (mkF m 360 #[.val (.int p1), .val (.int p2), .val (.int p3), .val (.int p4), .val (.int p5), .val (.int p6), .val (.int (p3 &&& (255 : Int32))), .val (.int (p6 &&& (255 : Int32))), .val (.ref x), .val (.int v9), .val (.int (p1 &&& (7 : Int32))), s11, s12, .val (.int (p4 &&& (7 : Int32))), .unset, .unset, .unset] [(.ref b_187)]))
                  refine own_astore X187 hx (Ls' := #[.val (.int p1), .val (.int p2), .val (.int p3), .val (.int p4), .val (.int p5), .val (.int p6), .val (.int (p3 &&& (255 : Int32))), .val (.int (p6 &&& (255 : Int32))), .val (.ref x), .val (.int v9), .val (.int (p1 &&& (7 : Int32))), .val (.ref b_187), s12, .val (.int (p4 &&& (7 : Int32))), .unset, .unset, .unset]) (hb hby at_360) rfl (by rcases hp_s11 with rfl | ⟨_, rfl⟩ | ⟨_, rfl⟩ <;> rfl) ?_
                  refine own_iconst X187 hx (v := (0 : Int32)) (hb hby at_362) rfl ?_
                  refine own_istore X187 hx (Ls' := #[.val (.int p1), .val (.int p2), .val (.int p3), .val (.int p4), .val (.int p5), .val (.int p6), .val (.int (p3 &&& (255 : Int32))), .val (.int (p6 &&& (255 : Int32))), .val (.ref x), .val (.int v9), .val (.int (p1 &&& (7 : Int32))), .val (.ref b_187), .val (.int (0 : Int32)), .val (.int (p4 &&& (7 : Int32))), .unset, .unset, .unset]) (hb hby at_363) (by rcases hp_s12 with rfl | ⟨_, rfl⟩ | ⟨_, rfl⟩ <;> rfl) ?_
                  show Goes _ _ _ _ _ _ (T187.setTop (mkF m 365 #[.val (.int p1), .val (.int p2), .val (.int p3), .val (.int p4), .val (.int p5), .val (.int p6), .val (.int (p3 &&& (255 : Int32))), .val (.int (p6 &&& (255 : Int32))), .val (.ref x), .val (.int v9), .val (.int (p1 &&& (7 : Int32))), .val (.ref b_187), .val (.int (0 : Int32)), .val (.int (p4 &&& (7 : Int32))), .unset, .unset, .unset] []))
                  refine own_goto X187 hx (pc' := 375) (hb hby at_365) (by decide) (by decide) ?_
                  show Goes _ _ _ _ _ _ (T187.setTop (mkF m 375 #[.val (.int p1), .val (.int p2), .val (.int p3), .val (.int p4), .val (.int p5), .val (.int p6), .val (.int (p3 &&& (255 : Int32))), .val (.int (p6 &&& (255 : Int32))), .val (.ref x), .val (.int v9), .val (.int (p1 &&& (7 : Int32))), .val (.ref b_187), .val (.int (0 : Int32)), .val (.int (p4 &&& (7 : Int32))), .unset, .unset, .unset] []))
                  have Cc189 := C1.trans (CHr.keep KC188 (by simp) C1.1)
                  exact jn375_3 T187 _ vm1 _ T187.heap (.ref b_187) (0 : Int32) .unset .unset (X187.mono (by decide) (by decide)) hS1 hk188 hZ hown rfl N187 O188 Cc189 KC188 (Or.inr ⟨b_187, [(p6 &&& (255 : Int32))], rfl, r187_0, (Or.inr ⟨rfl, own_lenne (show (1 : Nat) ≠ 46 by decide)⟩)⟩) (Or.inl rfl) (Or.inl rfl)
                ·
                  refine own_icmpYes X1 hx (pc' := 368) (hb hby at_352) (feq (hc352_186 : ¬ ((p4 &&& (7 : Int32)) = (6 : Int32)))).2 (by decide) (by decide) ?_
                  show Goes _ _ _ _ _ _ (T1.setTop (mkF m 368 #[.val (.int p1), .val (.int p2), .val (.int p3), .val (.int p4), .val (.int p5), .val (.int p6), .val (.int (p3 &&& (255 : Int32))), .val (.int (p6 &&& (255 : Int32))), .val (.ref x), .val (.int v9), .val (.int (p1 &&& (7 : Int32))), s11, s12, .val (.int (p4 &&& (7 : Int32))), .unset, .unset, .unset] []))
                  have Cc190 := C1.trans (CHr.keep KB2 (by simp) C1.1)
                  refine own_ldcH X1 hx hZ hown hS1 hk1_ (hw _ (List.mem_of_getElem? (i := 76) rfl)) (own_wS hw) hEL (by simp [consts_1]) Cc190.1 e1 (cs := tx1) tx1_t tx1_z tx1_4 tx1_5 (n := 184) (hb hby at_368) (by decide +kernel) (by decide) (by decide) (by decide) (fun sa191 T191 h191 k1_191 X191 hS191 hk191_ hZ hown e191 E191 D191 I191 => ?_)
                  have O192 := O1.ext E191
                  have KC192 := KB2.ext E191
                  have IS191_x := IsStr.ext i1 E191
                  have CC191 := Cc190.trans D191
                  have KB193 := Keep.refl h191 []
                  show Goes _ _ _ _ _ _ (T191.setTop (mkF m 370 #[.val (.int p1), .val (.int p2), .val (.int p3), .val (.int p4), .val (.int p5), .val (.int p6), .val (.int (p3 &&& (255 : Int32))), .val (.int (p6 &&& (255 : Int32))), .val (.ref x), .val (.int v9), .val (.int (p1 &&& (7 : Int32))), s11, s12, .val (.int (p4 &&& (7 : Int32))), .unset, .unset, .unset] [(.ref sa191)]))
                  refine own_astore X191 hx (Ls' := #[.val (.int p1), .val (.int p2), .val (.int p3), .val (.int p4), .val (.int p5), .val (.int p6), .val (.int (p3 &&& (255 : Int32))), .val (.int (p6 &&& (255 : Int32))), .val (.ref x), .val (.int v9), .val (.int (p1 &&& (7 : Int32))), .val (.ref sa191), s12, .val (.int (p4 &&& (7 : Int32))), .unset, .unset, .unset]) (hb hby at_370) rfl (by rcases hp_s11 with rfl | ⟨_, rfl⟩ | ⟨_, rfl⟩ <;> rfl) ?_
                  refine own_iconst X191 hx (v := (1 : Int32)) (hb hby at_372) rfl ?_
                  refine own_istore X191 hx (Ls' := #[.val (.int p1), .val (.int p2), .val (.int p3), .val (.int p4), .val (.int p5), .val (.int p6), .val (.int (p3 &&& (255 : Int32))), .val (.int (p6 &&& (255 : Int32))), .val (.ref x), .val (.int v9), .val (.int (p1 &&& (7 : Int32))), .val (.ref sa191), .val (.int (1 : Int32)), .val (.int (p4 &&& (7 : Int32))), .unset, .unset, .unset]) (hb hby at_373) (by rcases hp_s12 with rfl | ⟨_, rfl⟩ | ⟨_, rfl⟩ <;> rfl) ?_
                  show Goes _ _ _ _ _ _ (T191.setTop (mkF m 375 #[.val (.int p1), .val (.int p2), .val (.int p3), .val (.int p4), .val (.int p5), .val (.int p6), .val (.int (p3 &&& (255 : Int32))), .val (.int (p6 &&& (255 : Int32))), .val (.ref x), .val (.int v9), .val (.int (p1 &&& (7 : Int32))), .val (.ref sa191), .val (.int (1 : Int32)), .val (.int (p4 &&& (7 : Int32))), .unset, .unset, .unset] []))
                  have Cc194 := CC191.trans (CHr.keep KB193 (by simp) CC191.1)
                  exact jn375_3 T191 _ T191.vm _ h191 (.ref sa191) (1 : Int32) .unset .unset (X191.mono (by decide) (by decide)) hS191 hk191_ hZ hown e191 N1 O192 Cc194 (KC192.trans KB193 all0) (Or.inr ⟨sa191, tx1, rfl, I191, (Or.inl ⟨rfl, rfl⟩)⟩) (Or.inl rfl) (Or.inl rfl)
  show Goes _ _ _ _ _ _ (T0.setTop (mkF m 17 #[.val (.int p1), .val (.int p2), .val (.int p3), .val (.int p4), .val (.int p5), .val (.int p6), .val (.int (p3 &&& (255 : Int32))), .val (.int (p6 &&& (255 : Int32))), .unset, .unset, .unset, .unset, .unset, .unset, .unset, .unset, .unset] []))
  refine own_iloadN X0 hx (hb hby at_17) rfl ?_
  refine own_bipush X0 hx (v := (7 : Int32)) (hb hby at_18) rfl ?_
  refine own_iand X0 hx (hb hby at_20) ?_
  show Goes _ _ _ _ _ _ (T0.setTop (mkF m 21 #[.val (.int p1), .val (.int p2), .val (.int p3), .val (.int p4), .val (.int p5), .val (.int p6), .val (.int (p3 &&& (255 : Int32))), .val (.int (p6 &&& (255 : Int32))), .unset, .unset, .unset, .unset, .unset, .unset, .unset, .unset, .unset] [(.int (p1 &&& (7 : Int32)))]))
  refine own_istore X0 hx (Ls' := #[.val (.int p1), .val (.int p2), .val (.int p3), .val (.int p4), .val (.int p5), .val (.int p6), .val (.int (p3 &&& (255 : Int32))), .val (.int (p6 &&& (255 : Int32))), .unset, .unset, .val (.int (p1 &&& (7 : Int32))), .unset, .unset, .unset, .unset, .unset, .unset]) (hb hby at_21) rfl ?_
  refine own_iload X0 hx (hb hby at_23) rfl ?_
  by_cases hc25_195 : (p1 &&& (7 : Int32)) = (0 : Int32)
  ·
    refine own_ifNo X0 hx (hb hby at_25) ((if0 _ _).trans (teq (hc25_195 : (p1 &&& (7 : Int32)) = (0 : Int32))).2) ?_
    show Goes _ _ _ _ _ _ (T0.setTop (mkF m 28 #[.val (.int p1), .val (.int p2), .val (.int p3), .val (.int p4), .val (.int p5), .val (.int p6), .val (.int (p3 &&& (255 : Int32))), .val (.int (p6 &&& (255 : Int32))), .unset, .unset, .val (.int (p1 &&& (7 : Int32))), .unset, .unset, .unset, .unset, .unset, .unset] []))
    refine own_new X0 hx hZ hown (hw _ (List.mem_of_getElem? (i := 0) rfl)) (hw _ (List.mem_of_getElem? (i := 1) rfl)) (hw _ (List.mem_of_getElem? (i := 2) rfl)) e0 (hb hby at_28) (by decide) (by decide) (fun T196 h196 b196 g196 X196 e196 E196 A196 D196 => ?_)
    have ge_b196 : n0 ≤ b196 := Nat.le_trans (own_sz O0) (Nat.le_of_eq g196.symm)
    have sz_b196 : h0.size ≤ b196 := Nat.le_trans KC0.1 (Nat.le_of_eq g196.symm)
    have O197 := O0.ext E196
    have KC197 := KC0.ext E196
    have F196_coder_b196 : Fld Z h196 b196 "java/lang/String" "coder" "B" (.int (0 : Int32)) := D196 (Or.inr (hw _ (List.mem_of_getElem? (i := 31) rfl))) (ty := .byte) (by decide)
    have F196_value_b196 : Fld Z h196 b196 "java/lang/String" "value" "[B" .null := D196 (Or.inr (hw _ (List.mem_of_getElem? (i := 33) rfl))) (ty := (.array .byte)) (by decide)
    show Goes _ _ _ _ _ _ (T196.setTop (mkF m 31 #[.val (.int p1), .val (.int p2), .val (.int p3), .val (.int p4), .val (.int p5), .val (.int p6), .val (.int (p3 &&& (255 : Int32))), .val (.int (p6 &&& (255 : Int32))), .unset, .unset, .val (.int (p1 &&& (7 : Int32))), .unset, .unset, .unset, .unset, .unset, .unset] [(.ref b196)]))
    refine own_dup X196 hx (hb hby at_31) rfl ?_
    refine own_callS X196 hx hZ hown (y := (⟨"com/example/ketenwacht/ketenwacht/model/SamlStatusIsCancellationPinLaw", "responderChars", "()[C"⟩ : MethodName)) (hw _ (List.mem_of_getElem? (i := 3) rfl)) (hw _ (List.mem_of_getElem? (i := 4) rfl)) (hw _ (List.mem_of_getElem? (i := 5) rfl)) (hw _ (List.mem_of_getElem? (i := 6) rfl)) (by decide) (W := 2) (by decide) (by decide) N0 e196 (by rw [hml]; rfl) (argsL := []) (rest := [(.ref b196), (.ref b196)]) (lenOf pd_8 rfl) (Nat.le_of_eq rfl) (by decide) (by decide) (rm1 l Z a0 hw [] h196 n0 O197) rfl (hb hby at_32) ?_
    intro v198 T198 lc198 X198 N198 hQ198
    obtain ⟨b_198, k_198, rfl, K198, r198_0, r198_1⟩ := hQ198
    have E199_b196 := A196.keep K198
    have F199_coder_b196 := F196_coder_b196.keep K198 nin0
    have F199_value_b196 := F196_value_b196.keep K198 nin0
    have O199 := O197.keep K198 all0
    have KC199 := KC197.trans K198 all0
    have ge_b_198 : n0 ≤ b_198 := Nat.le_trans (own_sz O197) r198_1
    have sz_b_198 : h0.size ≤ b_198 := Nat.le_trans KC197.1 r198_1
    show Goes _ _ _ _ _ _ (T198.setTop (mkF m 35 #[.val (.int p1), .val (.int p2), .val (.int p3), .val (.int p4), .val (.int p5), .val (.int p6), .val (.int (p3 &&& (255 : Int32))), .val (.int (p6 &&& (255 : Int32))), .unset, .unset, .val (.int (p1 &&& (7 : Int32))), .unset, .unset, .unset, .unset, .unset, .unset] [(.ref b_198), (.ref b196), (.ref b196)]))
    refine own_strNew X198 hx hZ hown (hw _ (List.mem_of_getElem? (i := 8) rfl)) (hw _ (List.mem_of_getElem? (i := 9) rfl)) (hw _ (List.mem_of_getElem? (i := 10) rfl)) (own_wNew hw) (hw _ (List.mem_of_getElem? (i := 1) rfl)) (cs := tx0) N198 rfl ge_b196 (own_sz O199) E199_b196 F199_value_b196 F199_coder_b196 (n := 44) (by decide +kernel) (by decide +kernel) r198_0 (z0.ext O199.2) hzc (by decide) (by decide) tx0_5 (W := 1) (rest := [(.ref b196)]) (by decide) (by decide) (by rw [hml]; rfl) (Nat.le_of_eq rfl) (by decide) (by decide) (hb hby at_35) (fun T200 lc200 h200 X200 e200 N200 K200 I200 => ?_)
    have O201 := O199.keep K200 (allS ge_b196 all0)
    have KC201 := KC199.trans K200 (allS (Or.inr sz_b196) all0)
    show Goes _ _ _ _ _ _ (T200.setTop (mkF m 38 #[.val (.int p1), .val (.int p2), .val (.int p3), .val (.int p4), .val (.int p5), .val (.int p6), .val (.int (p3 &&& (255 : Int32))), .val (.int (p6 &&& (255 : Int32))), .unset, .unset, .val (.int (p1 &&& (7 : Int32))), .unset, .unset, .unset, .unset, .unset, .unset] [(.ref b196)]))
    refine own_astore X200 hx (Ls' := #[.val (.int p1), .val (.int p2), .val (.int p3), .val (.int p4), .val (.int p5), .val (.int p6), .val (.int (p3 &&& (255 : Int32))), .val (.int (p6 &&& (255 : Int32))), .val (.ref b196), .unset, .val (.int (p1 &&& (7 : Int32))), .unset, .unset, .unset, .unset, .unset, .unset]) (hb hby at_38) rfl rfl ?_
    refine own_iconst X200 hx (v := (1 : Int32)) (hb hby at_40) rfl ?_
    refine own_istore X200 hx (Ls' := #[.val (.int p1), .val (.int p2), .val (.int p3), .val (.int p4), .val (.int p5), .val (.int p6), .val (.int (p3 &&& (255 : Int32))), .val (.int (p6 &&& (255 : Int32))), .val (.ref b196), .val (.int (1 : Int32)), .val (.int (p1 &&& (7 : Int32))), .unset, .unset, .unset, .unset, .unset, .unset]) (hb hby at_41) rfl ?_
    show Goes _ _ _ _ _ _ (T200.setTop (mkF m 43 #[.val (.int p1), .val (.int p2), .val (.int p3), .val (.int p4), .val (.int p5), .val (.int p6), .val (.int (p3 &&& (255 : Int32))), .val (.int (p6 &&& (255 : Int32))), .val (.ref b196), .val (.int (1 : Int32)), .val (.int (p1 &&& (7 : Int32))), .unset, .unset, .unset, .unset, .unset, .unset] []))
    refine own_goto X200 hx (pc' := 196) (hb hby at_43) (by decide) (by decide) ?_
    show Goes _ _ _ _ _ _ (T200.setTop (mkF m 196 #[.val (.int p1), .val (.int p2), .val (.int p3), .val (.int p4), .val (.int p5), .val (.int p6), .val (.int (p3 &&& (255 : Int32))), .val (.int (p6 &&& (255 : Int32))), .val (.ref b196), .val (.int (1 : Int32)), .val (.int (p1 &&& (7 : Int32))), .unset, .unset, .unset, .unset, .unset, .unset] []))
    have Cc202 := C0.trans (CHr.keep KC201 (by simp) C0.1)
    exact jn196_1 T200 _ s.vm _ h200 b196 tx0 (1 : Int32) .unset .unset (X200.mono (by decide) (by decide)) hS0 (Nat.zero_le _) hZ hown e200 N200 O201 Cc202 KC201 I200 (Or.inl ⟨rfl, rfl⟩) (Or.inl rfl) (Or.inl rfl)
  ·
    refine own_ifYes X0 hx (pc' := 46) (hb hby at_25) ((if0 _ _).trans (feq (hc25_195 : ¬ ((p1 &&& (7 : Int32)) = (0 : Int32)))).2) (by decide) (by decide) ?_
    show Goes _ _ _ _ _ _ (T0.setTop (mkF m 46 #[.val (.int p1), .val (.int p2), .val (.int p3), .val (.int p4), .val (.int p5), .val (.int p6), .val (.int (p3 &&& (255 : Int32))), .val (.int (p6 &&& (255 : Int32))), .unset, .unset, .val (.int (p1 &&& (7 : Int32))), .unset, .unset, .unset, .unset, .unset, .unset] []))
    refine own_iload X0 hx (hb hby at_46) rfl ?_
    refine own_iconst X0 hx (v := (1 : Int32)) (hb hby at_48) rfl ?_
    by_cases hc49_203 : (p1 &&& (7 : Int32)) = (1 : Int32)
    ·
      refine own_icmpNo X0 hx (hb hby at_49) (teq (hc49_203 : (p1 &&& (7 : Int32)) = (1 : Int32))).2 ?_
      show Goes _ _ _ _ _ _ (T0.setTop (mkF m 52 #[.val (.int p1), .val (.int p2), .val (.int p3), .val (.int p4), .val (.int p5), .val (.int p6), .val (.int (p3 &&& (255 : Int32))), .val (.int (p6 &&& (255 : Int32))), .unset, .unset, .val (.int (p1 &&& (7 : Int32))), .unset, .unset, .unset, .unset, .unset, .unset] []))
      refine own_callS X0 hx hZ hown (y := (⟨"com/example/ketenwacht/ketenwacht/model/SamlStatusIsCancellationPinLaw", "responderChars", "()[C"⟩ : MethodName)) (hw _ (List.mem_of_getElem? (i := 3) rfl)) (hw _ (List.mem_of_getElem? (i := 4) rfl)) (hw _ (List.mem_of_getElem? (i := 5) rfl)) (hw _ (List.mem_of_getElem? (i := 6) rfl)) (by decide) (W := 0) (by decide) (by decide) N0 e0 (by rw [hml]; rfl) (argsL := []) (rest := []) (lenOf pd_8 rfl) (Nat.le_of_eq rfl) (by decide) (by decide) (rm1 l Z a0 hw [] h0 n0 O0) rfl (hb hby at_52) ?_
      intro v204 T204 lc204 X204 N204 hQ204
      obtain ⟨b_204, k_204, rfl, K204, r204_0, r204_1⟩ := hQ204
      have O205 := O0.keep K204 all0
      have KC205 := KC0.trans K204 all0
      have ge_b_204 : n0 ≤ b_204 := Nat.le_trans (own_sz O0) r204_1
      have sz_b_204 : h0.size ≤ b_204 := Nat.le_trans KC0.1 r204_1
      show Goes _ _ _ _ _ _ (T204.setTop (mkF m 55 #[.val (.int p1), .val (.int p2), .val (.int p3), .val (.int p4), .val (.int p5), .val (.int p6), .val (.int (p3 &&& (255 : Int32))), .val (.int (p6 &&& (255 : Int32))), .unset, .unset, .val (.int (p1 &&& (7 : Int32))), .unset, .unset, .unset, .unset, .unset, .unset] [(.ref b_204)]))
      refine own_astore X204 hx (Ls' := #[.val (.int p1), .val (.int p2), .val (.int p3), .val (.int p4), .val (.int p5), .val (.int p6), .val (.int (p3 &&& (255 : Int32))), .val (.int (p6 &&& (255 : Int32))), .unset, .unset, .val (.int (p1 &&& (7 : Int32))), .val (.ref b_204), .unset, .unset, .unset, .unset, .unset]) (hb hby at_55) rfl rfl ?_
      refine own_iloadN X204 hx (hb hby at_57) rfl ?_
      refine own_ldcInt X204 hx hZ hown (hw _ (List.mem_of_getElem? (i := 37) rfl)) (hb hby at_58) ?_
      show Goes _ _ _ _ _ _ (T204.setTop (mkF m 60 #[.val (.int p1), .val (.int p2), .val (.int p3), .val (.int p4), .val (.int p5), .val (.int p6), .val (.int (p3 &&& (255 : Int32))), .val (.int (p6 &&& (255 : Int32))), .unset, .unset, .val (.int (p1 &&& (7 : Int32))), .val (.ref b_204), .unset, .unset, .unset, .unset, .unset] [(.int (2147483647 : Int32)), (.int p2)]))
      refine own_iand X204 hx (hb hby at_60) ?_
      refine own_aload X204 hx (hb hby at_61) rfl rfl ?_
      refine own_alen X204 hx hZ rfl r204_0 (hb hby at_63) ?_
      show Goes _ _ _ _ _ _ (T204.setTop (mkF m 64 #[.val (.int p1), .val (.int p2), .val (.int p3), .val (.int p4), .val (.int p5), .val (.int p6), .val (.int (p3 &&& (255 : Int32))), .val (.int (p6 &&& (255 : Int32))), .unset, .unset, .val (.int (p1 &&& (7 : Int32))), .val (.ref b_204), .unset, .unset, .unset, .unset, .unset] [(.int (44 : Int32)), (.int (p2 &&& (2147483647 : Int32)))]))
      refine own_irem X204 hx (hb hby at_64) (by decide) ?_
      refine own_istore X204 hx (Ls' := #[.val (.int p1), .val (.int p2), .val (.int p3), .val (.int p4), .val (.int p5), .val (.int p6), .val (.int (p3 &&& (255 : Int32))), .val (.int (p6 &&& (255 : Int32))), .unset, .unset, .val (.int (p1 &&& (7 : Int32))), .val (.ref b_204), .val (.int ((p2 &&& (2147483647 : Int32)) % (44 : Int32))), .unset, .unset, .unset, .unset]) (hb hby at_65) rfl ?_
      refine own_aload X204 hx (hb hby at_67) rfl rfl ?_
      show Goes _ _ _ _ _ _ (T204.setTop (mkF m 69 #[.val (.int p1), .val (.int p2), .val (.int p3), .val (.int p4), .val (.int p5), .val (.int p6), .val (.int (p3 &&& (255 : Int32))), .val (.int (p6 &&& (255 : Int32))), .unset, .unset, .val (.int (p1 &&& (7 : Int32))), .val (.ref b_204), .val (.int ((p2 &&& (2147483647 : Int32)) % (44 : Int32))), .unset, .unset, .unset, .unset] [(.ref b_204)]))
      refine own_iload X204 hx (hb hby at_69) rfl ?_
      show Goes _ _ _ _ _ _ (T204.setTop (mkF m 71 #[.val (.int p1), .val (.int p2), .val (.int p3), .val (.int p4), .val (.int p5), .val (.int p6), .val (.int (p3 &&& (255 : Int32))), .val (.int (p6 &&& (255 : Int32))), .unset, .unset, .val (.int (p1 &&& (7 : Int32))), .val (.ref b_204), .val (.int ((p2 &&& (2147483647 : Int32)) % (44 : Int32))), .unset, .unset, .unset, .unset] [(.int ((p2 &&& (2147483647 : Int32)) % (44 : Int32))), (.ref b_204)]))
      have hpx206 := own_px p2 (44 : Int32) 44 (by decide) (by decide)
      refine own_caload X204 hx hZ rfl r204_0 hpx206.1 (v := .int (tx0.getD (((p2 &&& (2147483647 : Int32)) % (44 : Int32))).toNatClampNeg (0 : Int32))) (own_gd _ _ _) (hb hby at_71) ?_
      show Goes _ _ _ _ _ _ (T204.setTop (mkF m 72 #[.val (.int p1), .val (.int p2), .val (.int p3), .val (.int p4), .val (.int p5), .val (.int p6), .val (.int (p3 &&& (255 : Int32))), .val (.int (p6 &&& (255 : Int32))), .unset, .unset, .val (.int (p1 &&& (7 : Int32))), .val (.ref b_204), .val (.int ((p2 &&& (2147483647 : Int32)) % (44 : Int32))), .unset, .unset, .unset, .unset] [(.int (tx0.getD (((p2 &&& (2147483647 : Int32)) % (44 : Int32))).toNatClampNeg (0 : Int32)))]))
      refine own_iload X204 hx (hb hby at_72) rfl ?_
      by_cases hc74_207 : (tx0.getD (((p2 &&& (2147483647 : Int32)) % (44 : Int32))).toNatClampNeg (0 : Int32)) = (p3 &&& (255 : Int32))
      ·
        refine own_icmpNo X204 hx (hb hby at_74) (teq (hc74_207 : (tx0.getD (((p2 &&& (2147483647 : Int32)) % (44 : Int32))).toNatClampNeg (0 : Int32)) = (p3 &&& (255 : Int32)))).2 ?_
        show Goes _ _ _ _ _ _ (T204.setTop (mkF m 77 #[.val (.int p1), .val (.int p2), .val (.int p3), .val (.int p4), .val (.int p5), .val (.int p6), .val (.int (p3 &&& (255 : Int32))), .val (.int (p6 &&& (255 : Int32))), .unset, .unset, .val (.int (p1 &&& (7 : Int32))), .val (.ref b_204), .val (.int ((p2 &&& (2147483647 : Int32)) % (44 : Int32))), .unset, .unset, .unset, .unset] []))
        refine own_iconst X204 hx (v := (1 : Int32)) (hb hby at_77) rfl ?_
        refine own_goto X204 hx (pc' := 82) (hb hby at_78) (by decide) (by decide) ?_
        refine own_istore X204 hx (Ls' := #[.val (.int p1), .val (.int p2), .val (.int p3), .val (.int p4), .val (.int p5), .val (.int p6), .val (.int (p3 &&& (255 : Int32))), .val (.int (p6 &&& (255 : Int32))), .unset, .val (.int (1 : Int32)), .val (.int (p1 &&& (7 : Int32))), .val (.ref b_204), .val (.int ((p2 &&& (2147483647 : Int32)) % (44 : Int32))), .unset, .unset, .unset, .unset]) (hb hby at_82) rfl ?_
        show Goes _ _ _ _ _ _ (T204.setTop (mkF m 84 #[.val (.int p1), .val (.int p2), .val (.int p3), .val (.int p4), .val (.int p5), .val (.int p6), .val (.int (p3 &&& (255 : Int32))), .val (.int (p6 &&& (255 : Int32))), .unset, .val (.int (1 : Int32)), .val (.int (p1 &&& (7 : Int32))), .val (.ref b_204), .val (.int ((p2 &&& (2147483647 : Int32)) % (44 : Int32))), .unset, .unset, .unset, .unset] []))
        refine own_aload X204 hx (hb hby at_84) rfl rfl ?_
        refine own_iload X204 hx (hb hby at_86) rfl ?_
        refine own_iload X204 hx (hb hby at_88) rfl ?_
        show Goes _ _ _ _ _ _ (T204.setTop (mkF m 90 #[.val (.int p1), .val (.int p2), .val (.int p3), .val (.int p4), .val (.int p5), .val (.int p6), .val (.int (p3 &&& (255 : Int32))), .val (.int (p6 &&& (255 : Int32))), .unset, .val (.int (1 : Int32)), .val (.int (p1 &&& (7 : Int32))), .val (.ref b_204), .val (.int ((p2 &&& (2147483647 : Int32)) % (44 : Int32))), .unset, .unset, .unset, .unset] [(.int (p3 &&& (255 : Int32))), (.int ((p2 &&& (2147483647 : Int32)) % (44 : Int32))), (.ref b_204)]))
        refine own_castore X204 hx hZ N204 rfl r204_0 hpx206.1 (i := (((p2 &&& (2147483647 : Int32)) % (44 : Int32))).toNatClampNeg) rfl (by rw [List.length_map]; exact hpx206.2) ge_b_204 (hb hby at_90) (fun T208 h208 lc208 X208 e208 N208 W208 V208 => ?_)
        have O209 := O205.wr W208 ge_b_204
        have KC209 := KC205.wr W208 (Or.inr sz_b_204)
        show Goes _ _ _ _ _ _ (T208.setTop (mkF m 91 #[.val (.int p1), .val (.int p2), .val (.int p3), .val (.int p4), .val (.int p5), .val (.int p6), .val (.int (p3 &&& (255 : Int32))), .val (.int (p6 &&& (255 : Int32))), .unset, .val (.int (1 : Int32)), .val (.int (p1 &&& (7 : Int32))), .val (.ref b_204), .val (.int ((p2 &&& (2147483647 : Int32)) % (44 : Int32))), .unset, .unset, .unset, .unset] []))
        refine own_new X208 hx hZ hown (hw _ (List.mem_of_getElem? (i := 0) rfl)) (hw _ (List.mem_of_getElem? (i := 1) rfl)) (hw _ (List.mem_of_getElem? (i := 2) rfl)) e208 (hb hby at_91) (by decide) (by decide) (fun T210 h210 b210 g210 X210 e210 E210 A210 D210 => ?_)
        have ge_b210 : n0 ≤ b210 := Nat.le_trans (own_sz O209) (Nat.le_of_eq g210.symm)
        have sz_b210 : h0.size ≤ b210 := Nat.le_trans KC209.1 (Nat.le_of_eq g210.symm)
        have A211_b_204 := V208.ext E210
        have O211 := O209.ext E210
        have KC211 := KC209.ext E210
        have F210_coder_b210 : Fld Z h210 b210 "java/lang/String" "coder" "B" (.int (0 : Int32)) := D210 (Or.inr (hw _ (List.mem_of_getElem? (i := 31) rfl))) (ty := .byte) (by decide)
        have F210_value_b210 : Fld Z h210 b210 "java/lang/String" "value" "[B" .null := D210 (Or.inr (hw _ (List.mem_of_getElem? (i := 33) rfl))) (ty := (.array .byte)) (by decide)
        show Goes _ _ _ _ _ _ (T210.setTop (mkF m 94 #[.val (.int p1), .val (.int p2), .val (.int p3), .val (.int p4), .val (.int p5), .val (.int p6), .val (.int (p3 &&& (255 : Int32))), .val (.int (p6 &&& (255 : Int32))), .unset, .val (.int (1 : Int32)), .val (.int (p1 &&& (7 : Int32))), .val (.ref b_204), .val (.int ((p2 &&& (2147483647 : Int32)) % (44 : Int32))), .unset, .unset, .unset, .unset] [(.ref b210)]))
        refine own_dup X210 hx (hb hby at_94) rfl ?_
        refine own_aload X210 hx (hb hby at_95) rfl rfl ?_
        show Goes _ _ _ _ _ _ (T210.setTop (mkF m 97 #[.val (.int p1), .val (.int p2), .val (.int p3), .val (.int p4), .val (.int p5), .val (.int p6), .val (.int (p3 &&& (255 : Int32))), .val (.int (p6 &&& (255 : Int32))), .unset, .val (.int (1 : Int32)), .val (.int (p1 &&& (7 : Int32))), .val (.ref b_204), .val (.int ((p2 &&& (2147483647 : Int32)) % (44 : Int32))), .unset, .unset, .unset, .unset] [(.ref b_204), (.ref b210), (.ref b210)]))
        have VA212 : Arv Z h210 b_204 k_204 .char (44 : Int32) ((tx0.set (((p2 &&& (2147483647 : Int32)) % (44 : Int32))).toNatClampNeg (p3 &&& (255 : Int32))).map Value.int) (.int (0 : Int32)) := by
          have e : nar .char (p3 &&& (255 : Int32)) = (p3 &&& (255 : Int32)) := i2c_mask p3
          have V := A211_b_204
          rw [e] at V
          rw [List.map_set]
          exact V
        refine own_strNew X210 hx hZ hown (hw _ (List.mem_of_getElem? (i := 8) rfl)) (hw _ (List.mem_of_getElem? (i := 9) rfl)) (hw _ (List.mem_of_getElem? (i := 10) rfl)) (own_wNew hw) (hw _ (List.mem_of_getElem? (i := 1) rfl)) (cs := (tx0.set (((p2 &&& (2147483647 : Int32)) % (44 : Int32))).toNatClampNeg (p3 &&& (255 : Int32)))) N208 e210 ge_b210 (own_sz O211) A210 F210_value_b210 F210_coder_b210 (n := 44) (by rw [List.length_set]; decide +kernel) (by decide +kernel) VA212 (z0.ext O211.2) hzc (by decide) (by decide) (own_setb tx0_5 _ (own_ch p3)) (W := 1) (rest := [(.ref b210)]) (by decide) (by decide) (by rw [hml]; rfl) (Nat.le_of_eq rfl) (by decide) (by decide) (hb hby at_97) (fun T212 lc212 h212 X212 e212 N212 K212 I212 => ?_)
        have O213 := O211.keep K212 (allS ge_b210 all0)
        have KC213 := KC211.trans K212 (allS (Or.inr sz_b210) all0)
        show Goes _ _ _ _ _ _ (T212.setTop (mkF m 100 #[.val (.int p1), .val (.int p2), .val (.int p3), .val (.int p4), .val (.int p5), .val (.int p6), .val (.int (p3 &&& (255 : Int32))), .val (.int (p6 &&& (255 : Int32))), .unset, .val (.int (1 : Int32)), .val (.int (p1 &&& (7 : Int32))), .val (.ref b_204), .val (.int ((p2 &&& (2147483647 : Int32)) % (44 : Int32))), .unset, .unset, .unset, .unset] [(.ref b210)]))
        refine own_astore X212 hx (Ls' := #[.val (.int p1), .val (.int p2), .val (.int p3), .val (.int p4), .val (.int p5), .val (.int p6), .val (.int (p3 &&& (255 : Int32))), .val (.int (p6 &&& (255 : Int32))), .val (.ref b210), .val (.int (1 : Int32)), .val (.int (p1 &&& (7 : Int32))), .val (.ref b_204), .val (.int ((p2 &&& (2147483647 : Int32)) % (44 : Int32))), .unset, .unset, .unset, .unset]) (hb hby at_100) rfl rfl ?_
        refine own_goto X212 hx (pc' := 196) (hb hby at_102) (by decide) (by decide) ?_
        show Goes _ _ _ _ _ _ (T212.setTop (mkF m 196 #[.val (.int p1), .val (.int p2), .val (.int p3), .val (.int p4), .val (.int p5), .val (.int p6), .val (.int (p3 &&& (255 : Int32))), .val (.int (p6 &&& (255 : Int32))), .val (.ref b210), .val (.int (1 : Int32)), .val (.int (p1 &&& (7 : Int32))), .val (.ref b_204), .val (.int ((p2 &&& (2147483647 : Int32)) % (44 : Int32))), .unset, .unset, .unset, .unset] []))
        have Cc214 := C0.trans (CHr.keep KC213 (by simp) C0.1)
        exact jn196_1 T212 _ s.vm _ h212 b210 ((tx0.set (((p2 &&& (2147483647 : Int32)) % (44 : Int32))).toNatClampNeg (p3 &&& (255 : Int32)))) (1 : Int32) (.val (.ref b_204)) (.val (.int ((p2 &&& (2147483647 : Int32)) % (44 : Int32)))) (X212.mono (by decide) (by decide)) hS0 (Nat.zero_le _) hZ hown e212 N212 O213 Cc214 KC213 I212 (Or.inl ⟨rfl, (own_seteq _ _ _ hpx206.2).mpr hc74_207⟩) (Or.inr (Or.inl ⟨_, rfl⟩)) (Or.inr (Or.inr ⟨_, rfl⟩))
      ·
        refine own_icmpYes X204 hx (pc' := 81) (hb hby at_74) (feq (hc74_207 : ¬ ((tx0.getD (((p2 &&& (2147483647 : Int32)) % (44 : Int32))).toNatClampNeg (0 : Int32)) = (p3 &&& (255 : Int32))))).2 (by decide) (by decide) ?_
        show Goes _ _ _ _ _ _ (T204.setTop (mkF m 81 #[.val (.int p1), .val (.int p2), .val (.int p3), .val (.int p4), .val (.int p5), .val (.int p6), .val (.int (p3 &&& (255 : Int32))), .val (.int (p6 &&& (255 : Int32))), .unset, .unset, .val (.int (p1 &&& (7 : Int32))), .val (.ref b_204), .val (.int ((p2 &&& (2147483647 : Int32)) % (44 : Int32))), .unset, .unset, .unset, .unset] []))
        refine own_iconst X204 hx (v := (0 : Int32)) (hb hby at_81) rfl ?_
        refine own_istore X204 hx (Ls' := #[.val (.int p1), .val (.int p2), .val (.int p3), .val (.int p4), .val (.int p5), .val (.int p6), .val (.int (p3 &&& (255 : Int32))), .val (.int (p6 &&& (255 : Int32))), .unset, .val (.int (0 : Int32)), .val (.int (p1 &&& (7 : Int32))), .val (.ref b_204), .val (.int ((p2 &&& (2147483647 : Int32)) % (44 : Int32))), .unset, .unset, .unset, .unset]) (hb hby at_82) rfl ?_
        refine own_aload X204 hx (hb hby at_84) rfl rfl ?_
        show Goes _ _ _ _ _ _ (T204.setTop (mkF m 86 #[.val (.int p1), .val (.int p2), .val (.int p3), .val (.int p4), .val (.int p5), .val (.int p6), .val (.int (p3 &&& (255 : Int32))), .val (.int (p6 &&& (255 : Int32))), .unset, .val (.int (0 : Int32)), .val (.int (p1 &&& (7 : Int32))), .val (.ref b_204), .val (.int ((p2 &&& (2147483647 : Int32)) % (44 : Int32))), .unset, .unset, .unset, .unset] [(.ref b_204)]))
        refine own_iload X204 hx (hb hby at_86) rfl ?_
        refine own_iload X204 hx (hb hby at_88) rfl ?_
        refine own_castore X204 hx hZ N204 rfl r204_0 hpx206.1 (i := (((p2 &&& (2147483647 : Int32)) % (44 : Int32))).toNatClampNeg) rfl (by rw [List.length_map]; exact hpx206.2) ge_b_204 (hb hby at_90) (fun T215 h215 lc215 X215 e215 N215 W215 V215 => ?_)
        have O216 := O205.wr W215 ge_b_204
        have KC216 := KC205.wr W215 (Or.inr sz_b_204)
        show Goes _ _ _ _ _ _ (T215.setTop (mkF m 91 #[.val (.int p1), .val (.int p2), .val (.int p3), .val (.int p4), .val (.int p5), .val (.int p6), .val (.int (p3 &&& (255 : Int32))), .val (.int (p6 &&& (255 : Int32))), .unset, .val (.int (0 : Int32)), .val (.int (p1 &&& (7 : Int32))), .val (.ref b_204), .val (.int ((p2 &&& (2147483647 : Int32)) % (44 : Int32))), .unset, .unset, .unset, .unset] []))
        refine own_new X215 hx hZ hown (hw _ (List.mem_of_getElem? (i := 0) rfl)) (hw _ (List.mem_of_getElem? (i := 1) rfl)) (hw _ (List.mem_of_getElem? (i := 2) rfl)) e215 (hb hby at_91) (by decide) (by decide) (fun T217 h217 b217 g217 X217 e217 E217 A217 D217 => ?_)
        have ge_b217 : n0 ≤ b217 := Nat.le_trans (own_sz O216) (Nat.le_of_eq g217.symm)
        have sz_b217 : h0.size ≤ b217 := Nat.le_trans KC216.1 (Nat.le_of_eq g217.symm)
        have A218_b_204 := V215.ext E217
        have O218 := O216.ext E217
        have KC218 := KC216.ext E217
        have F217_coder_b217 : Fld Z h217 b217 "java/lang/String" "coder" "B" (.int (0 : Int32)) := D217 (Or.inr (hw _ (List.mem_of_getElem? (i := 31) rfl))) (ty := .byte) (by decide)
        have F217_value_b217 : Fld Z h217 b217 "java/lang/String" "value" "[B" .null := D217 (Or.inr (hw _ (List.mem_of_getElem? (i := 33) rfl))) (ty := (.array .byte)) (by decide)
        show Goes _ _ _ _ _ _ (T217.setTop (mkF m 94 #[.val (.int p1), .val (.int p2), .val (.int p3), .val (.int p4), .val (.int p5), .val (.int p6), .val (.int (p3 &&& (255 : Int32))), .val (.int (p6 &&& (255 : Int32))), .unset, .val (.int (0 : Int32)), .val (.int (p1 &&& (7 : Int32))), .val (.ref b_204), .val (.int ((p2 &&& (2147483647 : Int32)) % (44 : Int32))), .unset, .unset, .unset, .unset] [(.ref b217)]))
        refine own_dup X217 hx (hb hby at_94) rfl ?_
        refine own_aload X217 hx (hb hby at_95) rfl rfl ?_
        show Goes _ _ _ _ _ _ (T217.setTop (mkF m 97 #[.val (.int p1), .val (.int p2), .val (.int p3), .val (.int p4), .val (.int p5), .val (.int p6), .val (.int (p3 &&& (255 : Int32))), .val (.int (p6 &&& (255 : Int32))), .unset, .val (.int (0 : Int32)), .val (.int (p1 &&& (7 : Int32))), .val (.ref b_204), .val (.int ((p2 &&& (2147483647 : Int32)) % (44 : Int32))), .unset, .unset, .unset, .unset] [(.ref b_204), (.ref b217), (.ref b217)]))
        have VA219 : Arv Z h217 b_204 k_204 .char (44 : Int32) ((tx0.set (((p2 &&& (2147483647 : Int32)) % (44 : Int32))).toNatClampNeg (p3 &&& (255 : Int32))).map Value.int) (.int (0 : Int32)) := by
          have e : nar .char (p3 &&& (255 : Int32)) = (p3 &&& (255 : Int32)) := i2c_mask p3
          have V := A218_b_204
          rw [e] at V
          rw [List.map_set]
          exact V
        refine own_strNew X217 hx hZ hown (hw _ (List.mem_of_getElem? (i := 8) rfl)) (hw _ (List.mem_of_getElem? (i := 9) rfl)) (hw _ (List.mem_of_getElem? (i := 10) rfl)) (own_wNew hw) (hw _ (List.mem_of_getElem? (i := 1) rfl)) (cs := (tx0.set (((p2 &&& (2147483647 : Int32)) % (44 : Int32))).toNatClampNeg (p3 &&& (255 : Int32)))) N215 e217 ge_b217 (own_sz O218) A217 F217_value_b217 F217_coder_b217 (n := 44) (by rw [List.length_set]; decide +kernel) (by decide +kernel) VA219 (z0.ext O218.2) hzc (by decide) (by decide) (own_setb tx0_5 _ (own_ch p3)) (W := 1) (rest := [(.ref b217)]) (by decide) (by decide) (by rw [hml]; rfl) (Nat.le_of_eq rfl) (by decide) (by decide) (hb hby at_97) (fun T219 lc219 h219 X219 e219 N219 K219 I219 => ?_)
        have O220 := O218.keep K219 (allS ge_b217 all0)
        have KC220 := KC218.trans K219 (allS (Or.inr sz_b217) all0)
        show Goes _ _ _ _ _ _ (T219.setTop (mkF m 100 #[.val (.int p1), .val (.int p2), .val (.int p3), .val (.int p4), .val (.int p5), .val (.int p6), .val (.int (p3 &&& (255 : Int32))), .val (.int (p6 &&& (255 : Int32))), .unset, .val (.int (0 : Int32)), .val (.int (p1 &&& (7 : Int32))), .val (.ref b_204), .val (.int ((p2 &&& (2147483647 : Int32)) % (44 : Int32))), .unset, .unset, .unset, .unset] [(.ref b217)]))
        refine own_astore X219 hx (Ls' := #[.val (.int p1), .val (.int p2), .val (.int p3), .val (.int p4), .val (.int p5), .val (.int p6), .val (.int (p3 &&& (255 : Int32))), .val (.int (p6 &&& (255 : Int32))), .val (.ref b217), .val (.int (0 : Int32)), .val (.int (p1 &&& (7 : Int32))), .val (.ref b_204), .val (.int ((p2 &&& (2147483647 : Int32)) % (44 : Int32))), .unset, .unset, .unset, .unset]) (hb hby at_100) rfl rfl ?_
        refine own_goto X219 hx (pc' := 196) (hb hby at_102) (by decide) (by decide) ?_
        show Goes _ _ _ _ _ _ (T219.setTop (mkF m 196 #[.val (.int p1), .val (.int p2), .val (.int p3), .val (.int p4), .val (.int p5), .val (.int p6), .val (.int (p3 &&& (255 : Int32))), .val (.int (p6 &&& (255 : Int32))), .val (.ref b217), .val (.int (0 : Int32)), .val (.int (p1 &&& (7 : Int32))), .val (.ref b_204), .val (.int ((p2 &&& (2147483647 : Int32)) % (44 : Int32))), .unset, .unset, .unset, .unset] []))
        have Cc221 := C0.trans (CHr.keep KC220 (by simp) C0.1)
        exact jn196_1 T219 _ s.vm _ h219 b217 ((tx0.set (((p2 &&& (2147483647 : Int32)) % (44 : Int32))).toNatClampNeg (p3 &&& (255 : Int32)))) (0 : Int32) (.val (.ref b_204)) (.val (.int ((p2 &&& (2147483647 : Int32)) % (44 : Int32)))) (X219.mono (by decide) (by decide)) hS0 (Nat.zero_le _) hZ hown e219 N219 O220 Cc221 KC220 I219 (Or.inr ⟨rfl, fun q => hc74_207 ((own_seteq _ _ _ hpx206.2).mp q)⟩) (Or.inr (Or.inl ⟨_, rfl⟩)) (Or.inr (Or.inr ⟨_, rfl⟩))
    ·
      refine own_icmpYes X0 hx (pc' := 105) (hb hby at_49) (feq (hc49_203 : ¬ ((p1 &&& (7 : Int32)) = (1 : Int32)))).2 (by decide) (by decide) ?_
      show Goes _ _ _ _ _ _ (T0.setTop (mkF m 105 #[.val (.int p1), .val (.int p2), .val (.int p3), .val (.int p4), .val (.int p5), .val (.int p6), .val (.int (p3 &&& (255 : Int32))), .val (.int (p6 &&& (255 : Int32))), .unset, .unset, .val (.int (p1 &&& (7 : Int32))), .unset, .unset, .unset, .unset, .unset, .unset] []))
      refine own_iload X0 hx (hb hby at_105) rfl ?_
      refine own_iconst X0 hx (v := (2 : Int32)) (hb hby at_107) rfl ?_
      by_cases hc108_222 : (p1 &&& (7 : Int32)) = (2 : Int32)
      ·
        refine own_icmpNo X0 hx (hb hby at_108) (teq (hc108_222 : (p1 &&& (7 : Int32)) = (2 : Int32))).2 ?_
        show Goes _ _ _ _ _ _ (T0.setTop (mkF m 111 #[.val (.int p1), .val (.int p2), .val (.int p3), .val (.int p4), .val (.int p5), .val (.int p6), .val (.int (p3 &&& (255 : Int32))), .val (.int (p6 &&& (255 : Int32))), .unset, .unset, .val (.int (p1 &&& (7 : Int32))), .unset, .unset, .unset, .unset, .unset, .unset] []))
        have Cc223 := C0.trans (CHr.keep KC0 (by simp) C0.1)
        refine own_ldcH X0 hx hZ hown hS0 (Nat.zero_le _) (hw _ (List.mem_of_getElem? (i := 91) rfl)) (own_wS hw) hEL (by simp [consts_1]) Cc223.1 e0 (cs := tx4) tx4_t tx4_z tx4_4 tx4_5 (n := 168) (hb hby at_111) (by decide +kernel) (by decide) (by decide) (by decide) (fun sa224 T224 h224 k1_224 X224 hS224 hk224_ hZ hown e224 E224 D224 I224 => ?_)
        have O225 := O0.ext E224
        have KC225 := KC0.ext E224
        have CC224 := Cc223.trans D224
        have KB226 := Keep.refl h224 []
        show Goes _ _ _ _ _ _ (T224.setTop (mkF m 113 #[.val (.int p1), .val (.int p2), .val (.int p3), .val (.int p4), .val (.int p5), .val (.int p6), .val (.int (p3 &&& (255 : Int32))), .val (.int (p6 &&& (255 : Int32))), .unset, .unset, .val (.int (p1 &&& (7 : Int32))), .unset, .unset, .unset, .unset, .unset, .unset] [(.ref sa224)]))
        refine own_astore X224 hx (Ls' := #[.val (.int p1), .val (.int p2), .val (.int p3), .val (.int p4), .val (.int p5), .val (.int p6), .val (.int (p3 &&& (255 : Int32))), .val (.int (p6 &&& (255 : Int32))), .val (.ref sa224), .unset, .val (.int (p1 &&& (7 : Int32))), .unset, .unset, .unset, .unset, .unset, .unset]) (hb hby at_113) rfl rfl ?_
        refine own_iconst X224 hx (v := (0 : Int32)) (hb hby at_115) rfl ?_
        refine own_istore X224 hx (Ls' := #[.val (.int p1), .val (.int p2), .val (.int p3), .val (.int p4), .val (.int p5), .val (.int p6), .val (.int (p3 &&& (255 : Int32))), .val (.int (p6 &&& (255 : Int32))), .val (.ref sa224), .val (.int (0 : Int32)), .val (.int (p1 &&& (7 : Int32))), .unset, .unset, .unset, .unset, .unset, .unset]) (hb hby at_116) rfl ?_
        show Goes _ _ _ _ _ _ (T224.setTop (mkF m 118 #[.val (.int p1), .val (.int p2), .val (.int p3), .val (.int p4), .val (.int p5), .val (.int p6), .val (.int (p3 &&& (255 : Int32))), .val (.int (p6 &&& (255 : Int32))), .val (.ref sa224), .val (.int (0 : Int32)), .val (.int (p1 &&& (7 : Int32))), .unset, .unset, .unset, .unset, .unset, .unset] []))
        refine own_goto X224 hx (pc' := 196) (hb hby at_118) (by decide) (by decide) ?_
        show Goes _ _ _ _ _ _ (T224.setTop (mkF m 196 #[.val (.int p1), .val (.int p2), .val (.int p3), .val (.int p4), .val (.int p5), .val (.int p6), .val (.int (p3 &&& (255 : Int32))), .val (.int (p6 &&& (255 : Int32))), .val (.ref sa224), .val (.int (0 : Int32)), .val (.int (p1 &&& (7 : Int32))), .unset, .unset, .unset, .unset, .unset, .unset] []))
        have Cc227 := CC224.trans (CHr.keep KB226 (by simp) CC224.1)
        exact jn196_1 T224 _ T224.vm _ h224 sa224 tx4 (0 : Int32) .unset .unset (X224.mono (by decide) (by decide)) hS224 hk224_ hZ hown e224 N0 O225 Cc227 (KC225.trans KB226 all0) I224 (Or.inr ⟨rfl, by decide +kernel⟩) (Or.inl rfl) (Or.inl rfl)
      ·
        refine own_icmpYes X0 hx (pc' := 121) (hb hby at_108) (feq (hc108_222 : ¬ ((p1 &&& (7 : Int32)) = (2 : Int32)))).2 (by decide) (by decide) ?_
        show Goes _ _ _ _ _ _ (T0.setTop (mkF m 121 #[.val (.int p1), .val (.int p2), .val (.int p3), .val (.int p4), .val (.int p5), .val (.int p6), .val (.int (p3 &&& (255 : Int32))), .val (.int (p6 &&& (255 : Int32))), .unset, .unset, .val (.int (p1 &&& (7 : Int32))), .unset, .unset, .unset, .unset, .unset, .unset] []))
        refine own_iload X0 hx (hb hby at_121) rfl ?_
        refine own_iconst X0 hx (v := (3 : Int32)) (hb hby at_123) rfl ?_
        by_cases hc124_228 : (p1 &&& (7 : Int32)) = (3 : Int32)
        ·
          refine own_icmpNo X0 hx (hb hby at_124) (teq (hc124_228 : (p1 &&& (7 : Int32)) = (3 : Int32))).2 ?_
          show Goes _ _ _ _ _ _ (T0.setTop (mkF m 127 #[.val (.int p1), .val (.int p2), .val (.int p3), .val (.int p4), .val (.int p5), .val (.int p6), .val (.int (p3 &&& (255 : Int32))), .val (.int (p6 &&& (255 : Int32))), .unset, .unset, .val (.int (p1 &&& (7 : Int32))), .unset, .unset, .unset, .unset, .unset, .unset] []))
          have Cc229 := C0.trans (CHr.keep KC0 (by simp) C0.1)
          refine own_ldcH X0 hx hZ hown hS0 (Nat.zero_le _) (hw _ (List.mem_of_getElem? (i := 92) rfl)) (own_wS hw) hEL (by simp [consts_1]) Cc229.1 e0 (cs := tx5) tx5_t tx5_z tx5_4 tx5_5 (n := 176) (hb hby at_127) (by decide +kernel) (by decide) (by decide) (by decide) (fun sa230 T230 h230 k1_230 X230 hS230 hk230_ hZ hown e230 E230 D230 I230 => ?_)
          have O231 := O0.ext E230
          have KC231 := KC0.ext E230
          have CC230 := Cc229.trans D230
          have KB232 := Keep.refl h230 []
          show Goes _ _ _ _ _ _ (T230.setTop (mkF m 129 #[.val (.int p1), .val (.int p2), .val (.int p3), .val (.int p4), .val (.int p5), .val (.int p6), .val (.int (p3 &&& (255 : Int32))), .val (.int (p6 &&& (255 : Int32))), .unset, .unset, .val (.int (p1 &&& (7 : Int32))), .unset, .unset, .unset, .unset, .unset, .unset] [(.ref sa230)]))
          refine own_astore X230 hx (Ls' := #[.val (.int p1), .val (.int p2), .val (.int p3), .val (.int p4), .val (.int p5), .val (.int p6), .val (.int (p3 &&& (255 : Int32))), .val (.int (p6 &&& (255 : Int32))), .val (.ref sa230), .unset, .val (.int (p1 &&& (7 : Int32))), .unset, .unset, .unset, .unset, .unset, .unset]) (hb hby at_129) rfl rfl ?_
          refine own_iconst X230 hx (v := (0 : Int32)) (hb hby at_131) rfl ?_
          refine own_istore X230 hx (Ls' := #[.val (.int p1), .val (.int p2), .val (.int p3), .val (.int p4), .val (.int p5), .val (.int p6), .val (.int (p3 &&& (255 : Int32))), .val (.int (p6 &&& (255 : Int32))), .val (.ref sa230), .val (.int (0 : Int32)), .val (.int (p1 &&& (7 : Int32))), .unset, .unset, .unset, .unset, .unset, .unset]) (hb hby at_132) rfl ?_
          show Goes _ _ _ _ _ _ (T230.setTop (mkF m 134 #[.val (.int p1), .val (.int p2), .val (.int p3), .val (.int p4), .val (.int p5), .val (.int p6), .val (.int (p3 &&& (255 : Int32))), .val (.int (p6 &&& (255 : Int32))), .val (.ref sa230), .val (.int (0 : Int32)), .val (.int (p1 &&& (7 : Int32))), .unset, .unset, .unset, .unset, .unset, .unset] []))
          refine own_goto X230 hx (pc' := 196) (hb hby at_134) (by decide) (by decide) ?_
          show Goes _ _ _ _ _ _ (T230.setTop (mkF m 196 #[.val (.int p1), .val (.int p2), .val (.int p3), .val (.int p4), .val (.int p5), .val (.int p6), .val (.int (p3 &&& (255 : Int32))), .val (.int (p6 &&& (255 : Int32))), .val (.ref sa230), .val (.int (0 : Int32)), .val (.int (p1 &&& (7 : Int32))), .unset, .unset, .unset, .unset, .unset, .unset] []))
          have Cc233 := CC230.trans (CHr.keep KB232 (by simp) CC230.1)
          exact jn196_1 T230 _ T230.vm _ h230 sa230 tx5 (0 : Int32) .unset .unset (X230.mono (by decide) (by decide)) hS230 hk230_ hZ hown e230 N0 O231 Cc233 (KC231.trans KB232 all0) I230 (Or.inr ⟨rfl, by decide +kernel⟩) (Or.inl rfl) (Or.inl rfl)
        ·
          refine own_icmpYes X0 hx (pc' := 137) (hb hby at_124) (feq (hc124_228 : ¬ ((p1 &&& (7 : Int32)) = (3 : Int32)))).2 (by decide) (by decide) ?_
          show Goes _ _ _ _ _ _ (T0.setTop (mkF m 137 #[.val (.int p1), .val (.int p2), .val (.int p3), .val (.int p4), .val (.int p5), .val (.int p6), .val (.int (p3 &&& (255 : Int32))), .val (.int (p6 &&& (255 : Int32))), .unset, .unset, .val (.int (p1 &&& (7 : Int32))), .unset, .unset, .unset, .unset, .unset, .unset] []))
          refine own_iload X0 hx (hb hby at_137) rfl ?_
          refine own_iconst X0 hx (v := (4 : Int32)) (hb hby at_139) rfl ?_
          by_cases hc140_234 : (p1 &&& (7 : Int32)) = (4 : Int32)
          ·
            refine own_icmpNo X0 hx (hb hby at_140) (teq (hc140_234 : (p1 &&& (7 : Int32)) = (4 : Int32))).2 ?_
            show Goes _ _ _ _ _ _ (T0.setTop (mkF m 143 #[.val (.int p1), .val (.int p2), .val (.int p3), .val (.int p4), .val (.int p5), .val (.int p6), .val (.int (p3 &&& (255 : Int32))), .val (.int (p6 &&& (255 : Int32))), .unset, .unset, .val (.int (p1 &&& (7 : Int32))), .unset, .unset, .unset, .unset, .unset, .unset] []))
            have Cc235 := C0.trans (CHr.keep KC0 (by simp) C0.1)
            refine own_ldcH X0 hx hZ hown hS0 (Nat.zero_le _) (hw _ (List.mem_of_getElem? (i := 75) rfl)) (own_wS hw) hEL (by simp [consts_1]) Cc235.1 e0 (cs := tx2) tx2_t tx2_z tx2_4 tx2_5 (n := 200) (hb hby at_143) (by decide +kernel) (by decide) (by decide) (by decide) (fun sa236 T236 h236 k1_236 X236 hS236 hk236_ hZ hown e236 E236 D236 I236 => ?_)
            have O237 := O0.ext E236
            have KC237 := KC0.ext E236
            have CC236 := Cc235.trans D236
            have KB238 := Keep.refl h236 []
            show Goes _ _ _ _ _ _ (T236.setTop (mkF m 145 #[.val (.int p1), .val (.int p2), .val (.int p3), .val (.int p4), .val (.int p5), .val (.int p6), .val (.int (p3 &&& (255 : Int32))), .val (.int (p6 &&& (255 : Int32))), .unset, .unset, .val (.int (p1 &&& (7 : Int32))), .unset, .unset, .unset, .unset, .unset, .unset] [(.ref sa236)]))
            refine own_astore X236 hx (Ls' := #[.val (.int p1), .val (.int p2), .val (.int p3), .val (.int p4), .val (.int p5), .val (.int p6), .val (.int (p3 &&& (255 : Int32))), .val (.int (p6 &&& (255 : Int32))), .val (.ref sa236), .unset, .val (.int (p1 &&& (7 : Int32))), .unset, .unset, .unset, .unset, .unset, .unset]) (hb hby at_145) rfl rfl ?_
            refine own_iconst X236 hx (v := (0 : Int32)) (hb hby at_147) rfl ?_
            refine own_istore X236 hx (Ls' := #[.val (.int p1), .val (.int p2), .val (.int p3), .val (.int p4), .val (.int p5), .val (.int p6), .val (.int (p3 &&& (255 : Int32))), .val (.int (p6 &&& (255 : Int32))), .val (.ref sa236), .val (.int (0 : Int32)), .val (.int (p1 &&& (7 : Int32))), .unset, .unset, .unset, .unset, .unset, .unset]) (hb hby at_148) rfl ?_
            show Goes _ _ _ _ _ _ (T236.setTop (mkF m 150 #[.val (.int p1), .val (.int p2), .val (.int p3), .val (.int p4), .val (.int p5), .val (.int p6), .val (.int (p3 &&& (255 : Int32))), .val (.int (p6 &&& (255 : Int32))), .val (.ref sa236), .val (.int (0 : Int32)), .val (.int (p1 &&& (7 : Int32))), .unset, .unset, .unset, .unset, .unset, .unset] []))
            refine own_goto X236 hx (pc' := 196) (hb hby at_150) (by decide) (by decide) ?_
            show Goes _ _ _ _ _ _ (T236.setTop (mkF m 196 #[.val (.int p1), .val (.int p2), .val (.int p3), .val (.int p4), .val (.int p5), .val (.int p6), .val (.int (p3 &&& (255 : Int32))), .val (.int (p6 &&& (255 : Int32))), .val (.ref sa236), .val (.int (0 : Int32)), .val (.int (p1 &&& (7 : Int32))), .unset, .unset, .unset, .unset, .unset, .unset] []))
            have Cc239 := CC236.trans (CHr.keep KB238 (by simp) CC236.1)
            exact jn196_1 T236 _ T236.vm _ h236 sa236 tx2 (0 : Int32) .unset .unset (X236.mono (by decide) (by decide)) hS236 hk236_ hZ hown e236 N0 O237 Cc239 (KC237.trans KB238 all0) I236 (Or.inr ⟨rfl, by decide +kernel⟩) (Or.inl rfl) (Or.inl rfl)
          ·
            refine own_icmpYes X0 hx (pc' := 153) (hb hby at_140) (feq (hc140_234 : ¬ ((p1 &&& (7 : Int32)) = (4 : Int32)))).2 (by decide) (by decide) ?_
            show Goes _ _ _ _ _ _ (T0.setTop (mkF m 153 #[.val (.int p1), .val (.int p2), .val (.int p3), .val (.int p4), .val (.int p5), .val (.int p6), .val (.int (p3 &&& (255 : Int32))), .val (.int (p6 &&& (255 : Int32))), .unset, .unset, .val (.int (p1 &&& (7 : Int32))), .unset, .unset, .unset, .unset, .unset, .unset] []))
            refine own_iload X0 hx (hb hby at_153) rfl ?_
            refine own_iconst X0 hx (v := (5 : Int32)) (hb hby at_155) rfl ?_
            by_cases hc156_240 : (p1 &&& (7 : Int32)) = (5 : Int32)
            ·
              refine own_icmpNo X0 hx (hb hby at_156) (teq (hc156_240 : (p1 &&& (7 : Int32)) = (5 : Int32))).2 ?_
              show Goes _ _ _ _ _ _ (T0.setTop (mkF m 159 #[.val (.int p1), .val (.int p2), .val (.int p3), .val (.int p4), .val (.int p5), .val (.int p6), .val (.int (p3 &&& (255 : Int32))), .val (.int (p6 &&& (255 : Int32))), .unset, .unset, .val (.int (p1 &&& (7 : Int32))), .unset, .unset, .unset, .unset, .unset, .unset] []))
              have Cc241 := C0.trans (CHr.keep KC0 (by simp) C0.1)
              refine own_ldcH X0 hx hZ hown hS0 (Nat.zero_le _) (hw _ (List.mem_of_getElem? (i := 76) rfl)) (own_wS hw) hEL (by simp [consts_1]) Cc241.1 e0 (cs := tx1) tx1_t tx1_z tx1_4 tx1_5 (n := 184) (hb hby at_159) (by decide +kernel) (by decide) (by decide) (by decide) (fun sa242 T242 h242 k1_242 X242 hS242 hk242_ hZ hown e242 E242 D242 I242 => ?_)
              have O243 := O0.ext E242
              have KC243 := KC0.ext E242
              have CC242 := Cc241.trans D242
              have KB244 := Keep.refl h242 []
              show Goes _ _ _ _ _ _ (T242.setTop (mkF m 161 #[.val (.int p1), .val (.int p2), .val (.int p3), .val (.int p4), .val (.int p5), .val (.int p6), .val (.int (p3 &&& (255 : Int32))), .val (.int (p6 &&& (255 : Int32))), .unset, .unset, .val (.int (p1 &&& (7 : Int32))), .unset, .unset, .unset, .unset, .unset, .unset] [(.ref sa242)]))
              refine own_astore X242 hx (Ls' := #[.val (.int p1), .val (.int p2), .val (.int p3), .val (.int p4), .val (.int p5), .val (.int p6), .val (.int (p3 &&& (255 : Int32))), .val (.int (p6 &&& (255 : Int32))), .val (.ref sa242), .unset, .val (.int (p1 &&& (7 : Int32))), .unset, .unset, .unset, .unset, .unset, .unset]) (hb hby at_161) rfl rfl ?_
              refine own_iconst X242 hx (v := (0 : Int32)) (hb hby at_163) rfl ?_
              refine own_istore X242 hx (Ls' := #[.val (.int p1), .val (.int p2), .val (.int p3), .val (.int p4), .val (.int p5), .val (.int p6), .val (.int (p3 &&& (255 : Int32))), .val (.int (p6 &&& (255 : Int32))), .val (.ref sa242), .val (.int (0 : Int32)), .val (.int (p1 &&& (7 : Int32))), .unset, .unset, .unset, .unset, .unset, .unset]) (hb hby at_164) rfl ?_
              show Goes _ _ _ _ _ _ (T242.setTop (mkF m 166 #[.val (.int p1), .val (.int p2), .val (.int p3), .val (.int p4), .val (.int p5), .val (.int p6), .val (.int (p3 &&& (255 : Int32))), .val (.int (p6 &&& (255 : Int32))), .val (.ref sa242), .val (.int (0 : Int32)), .val (.int (p1 &&& (7 : Int32))), .unset, .unset, .unset, .unset, .unset, .unset] []))
              refine own_goto X242 hx (pc' := 196) (hb hby at_166) (by decide) (by decide) ?_
              show Goes _ _ _ _ _ _ (T242.setTop (mkF m 196 #[.val (.int p1), .val (.int p2), .val (.int p3), .val (.int p4), .val (.int p5), .val (.int p6), .val (.int (p3 &&& (255 : Int32))), .val (.int (p6 &&& (255 : Int32))), .val (.ref sa242), .val (.int (0 : Int32)), .val (.int (p1 &&& (7 : Int32))), .unset, .unset, .unset, .unset, .unset, .unset] []))
              have Cc245 := CC242.trans (CHr.keep KB244 (by simp) CC242.1)
              exact jn196_1 T242 _ T242.vm _ h242 sa242 tx1 (0 : Int32) .unset .unset (X242.mono (by decide) (by decide)) hS242 hk242_ hZ hown e242 N0 O243 Cc245 (KC243.trans KB244 all0) I242 (Or.inr ⟨rfl, by decide +kernel⟩) (Or.inl rfl) (Or.inl rfl)
            ·
              refine own_icmpYes X0 hx (pc' := 169) (hb hby at_156) (feq (hc156_240 : ¬ ((p1 &&& (7 : Int32)) = (5 : Int32)))).2 (by decide) (by decide) ?_
              show Goes _ _ _ _ _ _ (T0.setTop (mkF m 169 #[.val (.int p1), .val (.int p2), .val (.int p3), .val (.int p4), .val (.int p5), .val (.int p6), .val (.int (p3 &&& (255 : Int32))), .val (.int (p6 &&& (255 : Int32))), .unset, .unset, .val (.int (p1 &&& (7 : Int32))), .unset, .unset, .unset, .unset, .unset, .unset] []))
              refine own_iload X0 hx (hb hby at_169) rfl ?_
              refine own_bipush X0 hx (v := (6 : Int32)) (hb hby at_171) rfl ?_
              by_cases hc173_246 : (p1 &&& (7 : Int32)) = (6 : Int32)
              ·
                refine own_icmpNo X0 hx (hb hby at_173) (teq (hc173_246 : (p1 &&& (7 : Int32)) = (6 : Int32))).2 ?_
                show Goes _ _ _ _ _ _ (T0.setTop (mkF m 176 #[.val (.int p1), .val (.int p2), .val (.int p3), .val (.int p4), .val (.int p5), .val (.int p6), .val (.int (p3 &&& (255 : Int32))), .val (.int (p6 &&& (255 : Int32))), .unset, .unset, .val (.int (p1 &&& (7 : Int32))), .unset, .unset, .unset, .unset, .unset, .unset] []))
                refine own_iload X0 hx (hb hby at_176) rfl ?_
                refine own_callS X0 hx hZ hown (y := (⟨"java/lang/String", "valueOf", "(C)Ljava/lang/String;"⟩ : MethodName)) (hw _ (List.mem_of_getElem? (i := 77) rfl)) (hw _ (List.mem_of_getElem? (i := 78) rfl)) (hw _ (List.mem_of_getElem? (i := 2) rfl)) (hw _ (List.mem_of_getElem? (i := 79) rfl)) (by decide) (W := 0) (by decide) (by decide) N0 e0 (by rw [hml]; rfl) (argsL := [(.int (p3 &&& (255 : Int32)))]) (rest := []) (lenOf pd_7 rfl) (Nat.le_of_eq rfl) (by decide) (by decide) (rm14 l Z a0 hw [] (p3 &&& (255 : Int32)) zc h0 n0 O0 ⟨z0, hzc, trivial⟩ (own_ch p3)) rfl (hb hby at_178) ?_
                intro v247 T247 lc247 X247 N247 hQ247
                obtain ⟨b_247, rfl, K247, r247_0, r247_1⟩ := hQ247
                have O248 := O0.keep K247 all0
                have KC248 := KC0.trans K247 all0
                have ge_b_247 : n0 ≤ b_247 := Nat.le_trans (own_sz O0) r247_1
                have sz_b_247 : h0.size ≤ b_247 := Nat.le_trans KC0.1 r247_1
                show Goes _ _ _ _ _ _ (T247.setTop (mkF m 181 #[.val (.int p1), .val (.int p2), .val (.int p3), .val (.int p4), .val (.int p5), .val (.int p6), .val (.int (p3 &&& (255 : Int32))), .val (.int (p6 &&& (255 : Int32))), .unset, .unset, .val (.int (p1 &&& (7 : Int32))), .unset, .unset, .unset, .unset, .unset, .unset] [(.ref b_247)]))
                refine own_astore X247 hx (Ls' := #[.val (.int p1), .val (.int p2), .val (.int p3), .val (.int p4), .val (.int p5), .val (.int p6), .val (.int (p3 &&& (255 : Int32))), .val (.int (p6 &&& (255 : Int32))), .val (.ref b_247), .unset, .val (.int (p1 &&& (7 : Int32))), .unset, .unset, .unset, .unset, .unset, .unset]) (hb hby at_181) rfl rfl ?_
                refine own_iconst X247 hx (v := (0 : Int32)) (hb hby at_183) rfl ?_
                refine own_istore X247 hx (Ls' := #[.val (.int p1), .val (.int p2), .val (.int p3), .val (.int p4), .val (.int p5), .val (.int p6), .val (.int (p3 &&& (255 : Int32))), .val (.int (p6 &&& (255 : Int32))), .val (.ref b_247), .val (.int (0 : Int32)), .val (.int (p1 &&& (7 : Int32))), .unset, .unset, .unset, .unset, .unset, .unset]) (hb hby at_184) rfl ?_
                show Goes _ _ _ _ _ _ (T247.setTop (mkF m 186 #[.val (.int p1), .val (.int p2), .val (.int p3), .val (.int p4), .val (.int p5), .val (.int p6), .val (.int (p3 &&& (255 : Int32))), .val (.int (p6 &&& (255 : Int32))), .val (.ref b_247), .val (.int (0 : Int32)), .val (.int (p1 &&& (7 : Int32))), .unset, .unset, .unset, .unset, .unset, .unset] []))
                refine own_goto X247 hx (pc' := 196) (hb hby at_186) (by decide) (by decide) ?_
                show Goes _ _ _ _ _ _ (T247.setTop (mkF m 196 #[.val (.int p1), .val (.int p2), .val (.int p3), .val (.int p4), .val (.int p5), .val (.int p6), .val (.int (p3 &&& (255 : Int32))), .val (.int (p6 &&& (255 : Int32))), .val (.ref b_247), .val (.int (0 : Int32)), .val (.int (p1 &&& (7 : Int32))), .unset, .unset, .unset, .unset, .unset, .unset] []))
                have Cc249 := C0.trans (CHr.keep KC248 (by simp) C0.1)
                exact jn196_1 T247 _ s.vm _ T247.heap b_247 [(p3 &&& (255 : Int32))] (0 : Int32) .unset .unset (X247.mono (by decide) (by decide)) hS0 (Nat.zero_le _) hZ hown rfl N247 O248 Cc249 KC248 r247_0 (Or.inr ⟨rfl, own_lenne (show (1 : Nat) ≠ 44 by decide)⟩) (Or.inl rfl) (Or.inl rfl)
              ·
                refine own_icmpYes X0 hx (pc' := 189) (hb hby at_173) (feq (hc173_246 : ¬ ((p1 &&& (7 : Int32)) = (6 : Int32)))).2 (by decide) (by decide) ?_
                show Goes _ _ _ _ _ _ (T0.setTop (mkF m 189 #[.val (.int p1), .val (.int p2), .val (.int p3), .val (.int p4), .val (.int p5), .val (.int p6), .val (.int (p3 &&& (255 : Int32))), .val (.int (p6 &&& (255 : Int32))), .unset, .unset, .val (.int (p1 &&& (7 : Int32))), .unset, .unset, .unset, .unset, .unset, .unset] []))
                have Cc250 := C0.trans (CHr.keep KC0 (by simp) C0.1)
                refine own_ldcH X0 hx hZ hown hS0 (Nat.zero_le _) (hw _ (List.mem_of_getElem? (i := 90) rfl)) (own_wS hw) hEL (by simp [consts_1]) Cc250.1 e0 (cs := tx0) tx0_t tx0_z tx0_4 tx0_5 (n := 176) (hb hby at_189) (by decide +kernel) (by decide) (by decide) (by decide) (fun sa251 T251 h251 k1_251 X251 hS251 hk251_ hZ hown e251 E251 D251 I251 => ?_)
                have O252 := O0.ext E251
                have KC252 := KC0.ext E251
                have CC251 := Cc250.trans D251
                have KB253 := Keep.refl h251 []
                show Goes _ _ _ _ _ _ (T251.setTop (mkF m 191 #[.val (.int p1), .val (.int p2), .val (.int p3), .val (.int p4), .val (.int p5), .val (.int p6), .val (.int (p3 &&& (255 : Int32))), .val (.int (p6 &&& (255 : Int32))), .unset, .unset, .val (.int (p1 &&& (7 : Int32))), .unset, .unset, .unset, .unset, .unset, .unset] [(.ref sa251)]))
                refine own_astore X251 hx (Ls' := #[.val (.int p1), .val (.int p2), .val (.int p3), .val (.int p4), .val (.int p5), .val (.int p6), .val (.int (p3 &&& (255 : Int32))), .val (.int (p6 &&& (255 : Int32))), .val (.ref sa251), .unset, .val (.int (p1 &&& (7 : Int32))), .unset, .unset, .unset, .unset, .unset, .unset]) (hb hby at_191) rfl rfl ?_
                refine own_iconst X251 hx (v := (1 : Int32)) (hb hby at_193) rfl ?_
                refine own_istore X251 hx (Ls' := #[.val (.int p1), .val (.int p2), .val (.int p3), .val (.int p4), .val (.int p5), .val (.int p6), .val (.int (p3 &&& (255 : Int32))), .val (.int (p6 &&& (255 : Int32))), .val (.ref sa251), .val (.int (1 : Int32)), .val (.int (p1 &&& (7 : Int32))), .unset, .unset, .unset, .unset, .unset, .unset]) (hb hby at_194) rfl ?_
                show Goes _ _ _ _ _ _ (T251.setTop (mkF m 196 #[.val (.int p1), .val (.int p2), .val (.int p3), .val (.int p4), .val (.int p5), .val (.int p6), .val (.int (p3 &&& (255 : Int32))), .val (.int (p6 &&& (255 : Int32))), .val (.ref sa251), .val (.int (1 : Int32)), .val (.int (p1 &&& (7 : Int32))), .unset, .unset, .unset, .unset, .unset, .unset] []))
                have Cc254 := CC251.trans (CHr.keep KB253 (by simp) CC251.1)
                exact jn196_1 T251 _ T251.vm _ h251 sa251 tx0 (1 : Int32) .unset .unset (X251.mono (by decide) (by decide)) hS251 hk251_ hZ hown e251 N0 O252 Cc254 (KC252.trans KB253 all0) I251 (Or.inl ⟨rfl, rfl⟩) (Or.inl rfl) (Or.inl rfl)
set_option maxRecDepth 65536 in
set_option maxHeartbeats 40000000 in
theorem comes_1 {Post : Tables → Env → Array Value → State → Outcome → State → Prop} (hpost : ∀ tb e args s v u, (limb_1_1.after args s (.returned v) u = true ∧ limb_1_2.after args s (.returned v) u = true ∧ True) → ReturnedEndW s (.returned v) u (Jvm.fieldLocs frame_1_writes args s ++ Jvm.arrayLocs frame_1_arrays args s ++ Jvm.staticLocs frame_1_statics s) 48 8704 → Post tb e args s (.returned v) u) :
    ArmFor flags0 classFile x code maxLocals ret World_1 tables_1 room_1 Calls_1 rest_1 Pre_1 Post := by
  intro l hfl _ _ p e ha hc hk s m args below hf hA hF happ hP
  obtain ⟨hcalls, hrest, hpre⟩ := hP
  obtain ⟨-, -, -, hnamed, -, -, -, hat⟩ := (Spec.applies_iff hf).mp happ
  obtain ⟨hg, hn⟩ := and_e (Cond.before_iff.mp (show (Jvm.Cond.and given_1 narrow_1).before args s = true from hpre))
  obtain ⟨hg1a, hg1b⟩ := and_e hg
  obtain ⟨hg2a, hg2b⟩ := and_e hg1b
  obtain ⟨hg3a, hg3b⟩ := and_e hg2b
  obtain ⟨hg4a, hg4b⟩ := and_e hg3b
  obtain ⟨hg5a, hg5b⟩ := and_e hg4b
  obtain ⟨hg6a, hg6b⟩ := and_e hg5b
  obtain ⟨w0, w1, w2, w3, w4, w5, rfl⟩ : ∃ w0 w1 w2 w3 w4 w5 : Value, args = #[w0, w1, w2, w3, w4, w5] := by
    have hs : args.size = 6 := by simpa [Cond.value, given_1] using hg1a
    obtain ⟨L⟩ := args
    match L, hs with
    | [w0, w1, w2, w3, w4, w5], _ => exact ⟨w0, w1, w2, w3, w4, w5, rfl⟩
  have hw := fun d (hd : d ∈ tables_1) => atoms_spec (ws := Jvm.Cond.code x code maxLocals ret :: tables_1) hat d (List.mem_cons_of_mem _ hd)
  have hfit : Fit s := fun {y c} hc i hi => by
    obtain ⟨ha, rfl⟩ := Array.getElem?_eq_some_iff.mp hc
    have q := List.all_eq_true.mp ((Array.all_eq_true_iff_forall_mem.mp hF) _ (Array.getElem_mem ha)) i (List.mem_range.mpr hi)
    simpa [Array.getElem?_eq_getElem hi] using q
  obtain ⟨hsets, hown0⟩ := atoms_of _ (rest_1_c_eq ▸ (show rest_1_c.before _ s = true from hrest))
  obtain ⟨i0, ei0⟩ := is_v hg2a
  obtain rfl : w0 = (.int i0) := Option.some.inj ei0
  obtain ⟨i1, ei1⟩ := is_v hg3a
  obtain rfl : w1 = (.int i1) := Option.some.inj ei1
  obtain ⟨i2, ei2⟩ := is_v hg4a
  obtain rfl : w2 = (.int i2) := Option.some.inj ei2
  obtain ⟨i3, ei3⟩ := is_v hg5a
  obtain rfl : w3 = (.int i3) := Option.some.inj ei3
  obtain ⟨i4, ei4⟩ := is_v hg6a
  obtain rfl : w4 = (.int i4) := Option.some.inj ei4
  obtain ⟨i5, ei5⟩ := is_v hg6b
  obtain rfl : w5 = (.int i5) := Option.some.inj ei5
  have n3 := not_v (Cond.before_iff.mp (hsets _ (List.mem_of_getElem? (i := 2) rfl)))
  obtain ⟨zc, ezc⟩ := is_v (Cond.before_iff.mp (hsets _ (List.mem_of_getElem? (i := 1) rfl)))
  have hzc : ¬ (zc = (0 : Int32)) := gotF (Cond.eq_ints ezc (Term.int_eval (0))) n3
  have hEL : EW s _ consts_1 := (EW.cons (hw _ (List.mem_of_getElem? (i := 61) rfl)) tx0_t.1 (EW.cons (hw _ (List.mem_of_getElem? (i := 74) rfl)) tx1_t.1 (EW.cons (hw _ (List.mem_of_getElem? (i := 91) rfl)) tx4_t.1 (EW.cons (hw _ (List.mem_of_getElem? (i := 92) rfl)) tx5_t.1 (EW.cons (hw _ (List.mem_of_getElem? (i := 75) rfl)) tx2_t.1 (EW.cons (hw _ (List.mem_of_getElem? (i := 76) rfl)) tx1_t.1 (EW.cons (hw _ (List.mem_of_getElem? (i := 90) rfl)) tx0_t.1 (EW.cons (hw _ (List.mem_of_getElem? (i := 89) rfl)) tx3_t.1 EW.nil))))))))
  have hCH : CHv s consts_1 s.vm s.heap := CHv.start hEL (fun p hp => hcalls.1 p hp) (hsets _ (List.mem_of_getElem? (i := 2) rfl)) (hw _ (List.mem_of_getElem? (i := 23) rfl)) (hw _ (List.mem_of_getElem? (i := 1) rfl))
  obtain ⟨n, o, h1, h2, h3, v, L, rfl, ⟨N, hQ⟩, hq⟩ := rm0 l s _ hw hEL tables_1 i0 i1 i2 i3 i4 i5 zc s.heap s.heap.size (Old.start s) ⟨Sta.start ezc (Or.inl (hsets _ (List.mem_of_getElem? (i := 0) rfl))), hzc, trivial⟩ p e ha hc hk s m _ below hf ((Spec.applies_iff_loose hf).mp happ).1 ⟨rfl, State.Warmed39.refl s, rfl, hCH⟩ trivial
  have hv : v = some (.int (1 : Int32)) := hQ
  subst hv
  replace hq := hq.2
  refine ⟨n, _, h1, h2, h3, hpost _ _ _ _ _ _ ⟨Cond.after_iff.mpr rfl, Cond.after_iff.mpr (eq_i res_at (Term.int_eval (1)) rfl), trivial⟩ ⟨hq.1, hq.2.1, hq.2.2.1, hq.2.2.2.sift fun y hy => Or.inr (N y hy)⟩⟩
theorem main_1_1 : Claimed_1_1 := comes_1 fun _ _ _ _ _ _ h hF => ⟨h.1, hF⟩
theorem main_1_2 : Claimed_1_2 := comes_1 fun _ _ _ _ _ _ h hF => ⟨h.2.1, hF⟩
end Jvm.Pilot.@@N@@
namespace Jvm.Pilot.@@N@@
open Jvm Jvm.ClassFile Sem Op Lib Jvm.Free Jvm.Stand Jvm.Pilot.@@N@@.Jvm.D
/-! MADE BY PROGRAM (witnessworld.py) out of the Statement's table words and the real class files: 21 classes; the members and pool entries that the words name. The judged class is class 1, her method 3. -/
namespace start1
open Jvm.ClassFile
def u (s : String) : CpInfo := .utf8 (stringToUtf16 s)
/-- a pool by its gaps: so many unusable entries, then the entry; so many at the end -/
def gap : Nat → List CpInfo → List CpInfo
  | 0, r => r
  | n + 1, r => .unusable :: gap n r
def poolList (es : List (Nat × CpInfo)) (last : Nat) : List CpInfo := es.foldr (fun e r => gap e.1 (e.2 :: r)) (gap last [])
def pool (es : List (Nat × CpInfo)) (last : Nat) : Array CpInfo := ⟨poolList es last⟩
def fileOf (pool : Array CpInfo) (this : Nat) (attrs : Array Attribute := #[]) (ms : Array MethodInfo := #[]) (fl : Nat := 33) (sup : Nat := 0) (ifs : Array Nat := #[]) (fds : Array FieldInfo := #[]) : ClassFile where
  minorVersion := 0
  majorVersion := 65
  constantPool := pool
  accessFlags := fl
  thisClass := this
  superClass := sup
  interfaces := ifs
  fields := fds
  methods := ms
  attributes := attrs
def plain (name : String) (sup : Option ClassId) : Class where
  name := name
  kind := .ordinary
  loader := none
  accessFlags := 33
  super := sup
  interfaces := #[]
  cf := none
  fields := #[]
  methods := #[]
  instanceTypes := #[]
  staticTypes := #[]
  resolved := #[]
  callSites := []
  init := .initialized
  statics := none
  mirror := none

def pool0 : Array CpInfo := pool [(5, u "<init>"), (0, u "()V"), (1, .class_ 10), (1, u "java/lang/Object")] 113

def k0c0 : Code := { maxStack := 0, maxLocals := 1, code := object_method_1_code, exceptionTable := #[], attributes := #[] }
def k0m0 : Method := { name := "<init>", desc := "()V", sig := { parameters := [], returnType := none }, accessFlags := 1, code := some k0c0 }
/-- java/lang/Object -/
def k0 : Class := { plain "java/lang/Object" none with
  accessFlags := 33
  interfaces := #[]
  cf := some (fileOf pool0 8 #[] #[{ accessFlags := 1, nameIndex := 5, descriptorIndex := 6, attributes := #[] }] 33 0 #[] #[])
  fields := #[]
  methods := #[k0m0]
  instanceTypes := #[]
  staticTypes := #[]
  resolved := Array.replicate 124 none
  statics := none }

def pool1 : Array CpInfo := pool [(2, .class_ 4), (1, u "java/lang/Object"), (0, u "<init>"), (0, u "()V"), (0, .class_ 8), (0, u "java/lang/String"), (0, .methodref 10 11), (0, .class_ 12), (0, .nameAndType 13 14), (0, u "com/example/ketenwacht/ketenwacht/model/SamlStatusIsCancellationPinLaw"), (0, u "responderChars"), (0, u "()[C"), (0, .methodref 7 16), (0, .nameAndType 5 17), (0, u "([C)V"), (0, .integer 2147483647), (0, .class_ 20), (0, u "com/example/ketenwacht/ketenwacht/model/SamlStatus"), (0, .string 22), (0, u "urn:oasis:names:tc:SAML:2.0:status:Success"), (0, .string 24), (0, u "urn:oasis:names:tc:SAML:2.0:status:Requester"), (0, .string 26), (0, u "urn:oasis:names:tc:SAML:2.0:status:VersionMismatch"), (0, .string 28), (0, u "urn:oasis:names:tc:SAML:2.0:status:AuthnFailed"), (0, .methodref 7 30), (0, .nameAndType 31 32), (0, u "valueOf"), (0, u "(C)Ljava/lang/String;"), (0, .string 34), (0, u "urn:oasis:names:tc:SAML:2.0:status:Responder"), (0, .methodref 10 36), (0, .nameAndType 37 14), (0, u "authnFailedChars"), (0, .string 39), (0, u "urn:oasis:names:tc:SAML:2.0:status:NoAuthnContext"), (0, .methodref 19 41), (0, .nameAndType 5 42), (0, u "(Ljava/lang/String;Ljava/lang/String;Ljava/lang/String;)V"), (0, .methodref 19 44), (0, .nameAndType 45 46), (0, u "isCancellation"), (0, u "()Z"), (2, u "law"), (0, u "(IIIIII)Z")] 5

def k1m0 : Method := { name := "<init>", desc := "()V", sig := { parameters := [], returnType := none }, accessFlags := 1, code := none }
def k1c1 : Code := { maxStack := 4, maxLocals := 0, code := method_2_code, exceptionTable := #[], attributes := #[] }
def k1m1 : Method := { name := "responderChars", desc := "()[C", sig := { parameters := [], returnType := some (.array .char) }, accessFlags := 10, code := some k1c1 }
def k1c2 : Code := { maxStack := 4, maxLocals := 0, code := method_3_code, exceptionTable := #[], attributes := #[] }
def k1m2 : Method := { name := "authnFailedChars", desc := "()[C", sig := { parameters := [], returnType := some (.array .char) }, accessFlags := 10, code := some k1c2 }
def k1c3 : Code := { maxStack := 5, maxLocals := 17, code := code, exceptionTable := #[], attributes := #[] }
def k1m3 : Method := { name := "law", desc := "(IIIIII)Z", sig := { parameters := [.int, .int, .int, .int, .int, .int], returnType := some .boolean }, accessFlags := 9, code := some k1c3 }
/-- com/example/ketenwacht/ketenwacht/model/SamlStatusIsCancellationPinLaw -/
def k1 : Class := { plain "com/example/ketenwacht/ketenwacht/model/SamlStatusIsCancellationPinLaw" (some 0) with
  accessFlags := 49
  interfaces := #[]
  cf := some (fileOf pool1 10 #[] #[{ accessFlags := 1, nameIndex := 5, descriptorIndex := 6, attributes := #[] }, { accessFlags := 10, nameIndex := 13, descriptorIndex := 14, attributes := #[] }, { accessFlags := 10, nameIndex := 37, descriptorIndex := 14, attributes := #[] }, { accessFlags := 9, nameIndex := 49, descriptorIndex := 50, attributes := #[] }] 49 2 #[] #[])
  fields := #[]
  methods := #[k1m0, k1m1, k1m2, k1m3]
  instanceTypes := #[]
  staticTypes := #[]
  resolved := Array.replicate 56 none
  statics := none }

def pool2 : Array CpInfo := pool [(1, .class_ 2), (0, u "java/io/Serializable"), (0, .class_ 4), (0, u "java/lang/Object")] 2

/-- java/io/Serializable -/
def k2 : Class := { plain "java/io/Serializable" (some 0) with
  accessFlags := 1537
  interfaces := #[]
  cf := some (fileOf pool2 1 #[] #[] 1537 3 #[] #[])
  fields := #[]
  methods := #[]
  instanceTypes := #[]
  staticTypes := #[]
  resolved := Array.replicate 7 none
  statics := none }

def pool3 : Array CpInfo := pool [(1, .class_ 2), (0, u "java/lang/Comparable"), (0, .class_ 4), (0, u "java/lang/Object")] 7

/-- java/lang/Comparable -/
def k3 : Class := { plain "java/lang/Comparable" (some 0) with
  accessFlags := 1537
  interfaces := #[]
  cf := some (fileOf pool3 1 #[] #[] 1537 3 #[] #[])
  fields := #[]
  methods := #[]
  instanceTypes := #[]
  staticTypes := #[]
  resolved := Array.replicate 12 none
  statics := none }

def pool4 : Array CpInfo := pool [(2, .class_ 4), (1, u "java/lang/CharSequence"), (42, .class_ 48), (0, u "java/lang/CharSequence$1CodePointIterator"), (10, .class_ 60), (0, u "java/lang/CharSequence$1CharIterator"), (5, .class_ 67), (0, u "java/lang/Object")] 63

/-- java/lang/CharSequence -/
def k4 : Class := { plain "java/lang/CharSequence" (some 0) with
  accessFlags := 1537
  interfaces := #[]
  cf := some (fileOf pool4 2 #[.nestMembers #[47, 59]] #[] 1537 66 #[] #[])
  fields := #[]
  methods := #[]
  instanceTypes := #[]
  staticTypes := #[]
  resolved := Array.replicate 131 none
  statics := none }

def pool5 : Array CpInfo := pool [(1, .class_ 2), (0, u "java/lang/constant/Constable"), (0, .class_ 4), (0, u "java/lang/Object")] 6

/-- java/lang/constant/Constable -/
def k5 : Class := { plain "java/lang/constant/Constable" (some 0) with
  accessFlags := 1537
  interfaces := #[]
  cf := some (fileOf pool5 1 #[] #[] 1537 3 #[] #[])
  fields := #[]
  methods := #[]
  instanceTypes := #[]
  staticTypes := #[]
  resolved := Array.replicate 11 none
  statics := none }

def pool6 : Array CpInfo := pool [(1, .class_ 2), (0, u "java/lang/constant/ConstantDesc"), (0, .class_ 4), (0, u "java/lang/Object")] 32

/-- java/lang/constant/ConstantDesc -/
def k6 : Class := { plain "java/lang/constant/ConstantDesc" (some 0) with
  accessFlags := 1537
  interfaces := #[]
  cf := some (fileOf pool6 1 #[] #[] 1537 3 #[] #[])
  fields := #[]
  methods := #[]
  instanceTypes := #[]
  staticTypes := #[]
  resolved := Array.replicate 37 none
  statics := none }

def pool7 : Array CpInfo := pool [(1, .methodref 2 3), (0, .class_ 4), (0, .nameAndType 5 6), (0, u "java/lang/Object"), (0, u "<init>"), (0, u "()V"), (2, .fieldref 10 11), (0, .class_ 12), (0, .nameAndType 13 14), (0, u "java/lang/String"), (0, u "value"), (0, u "[B"), (0, .fieldref 10 16), (0, .nameAndType 17 18), (0, u "coder"), (0, u "B"), (2, u "hash"), (0, u "I"), (2, u "hashIsZero"), (0, u "Z"), (0, .methodref 10 28), (0, .nameAndType 5 29), (0, u "([CIILjava/lang/Void;)V"), (8, .fieldref 10 39), (0, .nameAndType 40 26), (0, u "COMPACT_STRINGS"), (1, .class_ 44), (1, u "java/lang/StringUTF16"), (0, u "compress"), (1, .methodref 42 48), (0, .nameAndType 49 50), (0, u "coderFromArrayLen"), (0, u "([BI)B"), (2, u "toBytes"), (53, .class_ 109), (1, u "java/lang/StringLatin1"), (67, .methodref 42 178), (0, .nameAndType 45 179), (0, u "([CII)[B"), (29, .methodref 10 210), (0, .nameAndType 5 211), (0, u "([BB)V"), (157, u "(C)Z"), (171, .methodref 107 542), (0, .nameAndType 543 544), (0, u "equals"), (0, u "([B[B)Z"), (28, u "(Ljava/lang/Object;)Z"), (1, .class_ 576), (0, u "java/lang/CharSequence"), (22, u "CASE_INSENSITIVE_ORDER"), (0, u "Ljava/util/Comparator;"), (181, u "valueOf"), (0, u "(C)Ljava/lang/String;"), (226, u "([C)V"), (4, .methodref 107 1016), (0, .nameAndType 1017 369), (0, u "canEncode"), (0, .methodref 107 1019), (0, .nameAndType 53 1020), (0, u "(C)[B"), (80, u "serialPersistentFields"), (0, u "[Ljava/io/ObjectStreamField;"), (0, .class_ 1104), (0, u "java/lang/String$CaseInsensitiveComparator"), (1, .class_ 1107), (0, u "java/io/Serializable"), (0, .class_ 1109), (0, u "java/lang/Comparable"), (0, .class_ 1111), (0, u "java/lang/constant/Constable"), (0, .class_ 1113), (0, u "java/lang/constant/ConstantDesc"), (2, u "serialVersionUID"), (0, u "J"), (3, u "REPL"), (0, u "C"), (2, u "LATIN1"), (1, u "UTF16")] 323

def k7m0 : Method := { name := "<init>", desc := "()V", sig := { parameters := [], returnType := none }, accessFlags := 1, code := none }
def k7c1 : Code := { maxStack := 5, maxLocals := 2, code := jdk_42_method_3_code, exceptionTable := #[], attributes := #[] }
def k7m1 : Method := { name := "<init>", desc := "([C)V", sig := { parameters := [(.array .char)], returnType := none }, accessFlags := 1, code := some k7c1 }
def k7c2 : Code := { maxStack := 2, maxLocals := 3, code := jdk_42_method_66_code, exceptionTable := #[], attributes := #[] }
def k7m2 : Method := { name := "equals", desc := "(Ljava/lang/Object;)Z", sig := { parameters := [(.object "java/lang/Object")], returnType := some .boolean }, accessFlags := 1, code := some k7c2 }
def k7c3 : Code := { maxStack := 4, maxLocals := 1, code := jdk_42_method_139_code, exceptionTable := #[], attributes := #[] }
def k7m3 : Method := { name := "valueOf", desc := "(C)Ljava/lang/String;", sig := { parameters := [.char], returnType := some (.object "java/lang/String") }, accessFlags := 9, code := some k7c3 }
def k7c4 : Code := { maxStack := 4, maxLocals := 6, code := jdk_42_method_149_code, exceptionTable := #[], attributes := #[] }
def k7m4 : Method := { name := "<init>", desc := "([CIILjava/lang/Void;)V", sig := { parameters := [(.array .char), .int, .int, (.object "java/lang/Void")], returnType := none }, accessFlags := 2, code := some k7c4 }
def k7c5 : Code := { maxStack := 2, maxLocals := 3, code := jdk_42_method_151_code, exceptionTable := #[], attributes := #[] }
def k7m5 : Method := { name := "<init>", desc := "([BB)V", sig := { parameters := [(.array .byte), .byte], returnType := none }, accessFlags := 0, code := some k7c5 }
/-- java/lang/String -/
def k7 : Class := { plain "java/lang/String" (some 0) with
  accessFlags := 49
  interfaces := #[2, 3, 4, 5, 6]
  cf := some (fileOf pool7 10 #[.nestMembers #[1103]] #[{ accessFlags := 1, nameIndex := 5, descriptorIndex := 6, attributes := #[] }, { accessFlags := 1, nameIndex := 5, descriptorIndex := 1010, attributes := #[] }, { accessFlags := 1, nameIndex := 543, descriptorIndex := 573, attributes := #[] }, { accessFlags := 9, nameIndex := 782, descriptorIndex := 783, attributes := #[] }, { accessFlags := 2, nameIndex := 5, descriptorIndex := 29, attributes := #[] }, { accessFlags := 0, nameIndex := 5, descriptorIndex := 211, attributes := #[] }] 49 2 #[1106, 1108, 575, 1110, 1112] #[{ accessFlags := 18, nameIndex := 13, descriptorIndex := 14, attributes := #[] }, { accessFlags := 18, nameIndex := 17, descriptorIndex := 18, attributes := #[] }, { accessFlags := 2, nameIndex := 21, descriptorIndex := 22, attributes := #[] }, { accessFlags := 2, nameIndex := 25, descriptorIndex := 26, attributes := #[] }, { accessFlags := 26, nameIndex := 1116, descriptorIndex := 1117, attributes := #[] }, { accessFlags := 24, nameIndex := 40, descriptorIndex := 26, attributes := #[] }, { accessFlags := 26, nameIndex := 1101, descriptorIndex := 1102, attributes := #[] }, { accessFlags := 26, nameIndex := 1121, descriptorIndex := 1122, attributes := #[] }, { accessFlags := 25, nameIndex := 599, descriptorIndex := 600, attributes := #[] }, { accessFlags := 24, nameIndex := 1125, descriptorIndex := 18, attributes := #[] }, { accessFlags := 24, nameIndex := 1127, descriptorIndex := 18, attributes := #[] }])
  fields := #[{ name := "value", type := (.array .byte), accessFlags := 18, slot := 0, constantValue := 0 }, { name := "coder", type := .byte, accessFlags := 18, slot := 1, constantValue := 0 }, { name := "hash", type := .int, accessFlags := 2, slot := 2, constantValue := 0 }, { name := "hashIsZero", type := .boolean, accessFlags := 2, slot := 3, constantValue := 0 }, { name := "serialVersionUID", type := .long, accessFlags := 26, slot := 0, constantValue := 0 }, { name := "COMPACT_STRINGS", type := .boolean, accessFlags := 24, slot := 1, constantValue := 0 }, { name := "serialPersistentFields", type := (.array (.object "java/io/ObjectStreamField")), accessFlags := 26, slot := 2, constantValue := 0 }, { name := "REPL", type := .char, accessFlags := 26, slot := 3, constantValue := 0 }, { name := "CASE_INSENSITIVE_ORDER", type := (.object "java/util/Comparator"), accessFlags := 25, slot := 4, constantValue := 0 }, { name := "LATIN1", type := .byte, accessFlags := 24, slot := 5, constantValue := 0 }, { name := "UTF16", type := .byte, accessFlags := 24, slot := 6, constantValue := 0 }]
  methods := #[k7m0, k7m1, k7m2, k7m3, k7m4, k7m5]
  instanceTypes := #[(.array .byte), .byte, .int, .boolean]
  staticTypes := #[.long, .boolean, (.array (.object "java/io/ObjectStreamField")), .char, (.object "java/util/Comparator"), .byte, .byte]
  resolved := Array.replicate 1451 none
  statics := some 0 }

def pool8 : Array CpInfo := pool [(6, .class_ 8), (1, u "java/lang/Object"), (0, u "<init>"), (0, u "()V"), (1, .class_ 14), (1, u "java/lang/StringUTF16"), (31, u "$assertionsDisabled"), (0, u "Z"), (13, u "HI_BYTE_SHIFT"), (0, u "I"), (2, u "LO_BYTE_SHIFT"), (49, .methodref 12 116), (0, .nameAndType 117 118), (0, u "compress"), (0, u "([CI[BII)I"), (3, u "([CII)[B"), (138, u "coderFromArrayLen"), (0, u "([BI)B"), (106, .class_ 371), (1, u "java/lang/StringUTF16$LinesSpliterator"), (58, u "MAX_LENGTH"), (196, .class_ 628), (0, u "java/lang/StringUTF16$CodePointsSpliterator"), (0, .class_ 630), (0, u "java/lang/StringUTF16$CharsSpliterator")] 4

def k8m0 : Method := { name := "<init>", desc := "()V", sig := { parameters := [], returnType := none }, accessFlags := 0, code := none }
def k8c1 : Code := { maxStack := 2, maxLocals := 2, code := jdk_52_method_15_code, exceptionTable := #[], attributes := #[] }
def k8m1 : Method := { name := "coderFromArrayLen", desc := "([BI)B", sig := { parameters := [(.array .byte), .int], returnType := some .byte }, accessFlags := 8, code := some k8c1 }
def k8c2 : Code := { maxStack := 5, maxLocals := 6, code := jdk_52_method_16_code, exceptionTable := #[], attributes := #[] }
def k8m2 : Method := { name := "compress", desc := "([CII)[B", sig := { parameters := [(.array .char), .int, .int], returnType := some (.array .byte) }, accessFlags := 9, code := some k8c2 }
def k8c3 : Code := { maxStack := 3, maxLocals := 7, code := jdk_52_method_21_code, exceptionTable := #[], attributes := #[] }
def k8m3 : Method := { name := "compress", desc := "([CI[BII)I", sig := { parameters := [(.array .char), .int, (.array .byte), .int, .int], returnType := some .int }, accessFlags := 9, code := some k8c3 }
/-- java/lang/StringUTF16 -/
def k8 : Class := { plain "java/lang/StringUTF16" (some 0) with
  accessFlags := 48
  interfaces := #[]
  cf := some (fileOf pool8 12 #[.nestMembers #[627, 629, 369]] #[{ accessFlags := 0, nameIndex := 9, descriptorIndex := 10, attributes := #[] }, { accessFlags := 8, nameIndex := 261, descriptorIndex := 262, attributes := #[] }, { accessFlags := 9, nameIndex := 117, descriptorIndex := 122, attributes := #[] }, { accessFlags := 9, nameIndex := 117, descriptorIndex := 118, attributes := #[] }] 48 6 #[] #[{ accessFlags := 26, nameIndex := 61, descriptorIndex := 62, attributes := #[] }, { accessFlags := 26, nameIndex := 65, descriptorIndex := 62, attributes := #[] }, { accessFlags := 24, nameIndex := 430, descriptorIndex := 62, attributes := #[] }, { accessFlags := 4120, nameIndex := 46, descriptorIndex := 47, attributes := #[] }])
  fields := #[{ name := "HI_BYTE_SHIFT", type := .int, accessFlags := 26, slot := 0, constantValue := 0 }, { name := "LO_BYTE_SHIFT", type := .int, accessFlags := 26, slot := 1, constantValue := 0 }, { name := "MAX_LENGTH", type := .int, accessFlags := 24, slot := 2, constantValue := 0 }, { name := "$assertionsDisabled", type := .boolean, accessFlags := 4120, slot := 3, constantValue := 0 }]
  methods := #[k8m0, k8m1, k8m2, k8m3]
  instanceTypes := #[]
  staticTypes := #[.int, .int, .int, .boolean]
  resolved := Array.replicate 635 none
  statics := none }

def pool9 : Array CpInfo := pool [(1, .methodref 2 3), (0, .class_ 4), (0, .nameAndType 5 6), (0, u "java/lang/Object"), (0, u "<init>"), (0, u "()V"), (0, .class_ 8), (0, u "java/lang/Record")] 13

def k9c0 : Code := { maxStack := 1, maxLocals := 1, code := jdk_30_method_1_code, exceptionTable := #[], attributes := #[] }
def k9m0 : Method := { name := "<init>", desc := "()V", sig := { parameters := [], returnType := none }, accessFlags := 4, code := some k9c0 }
/-- java/lang/Record -/
def k9 : Class := { plain "java/lang/Record" (some 0) with
  accessFlags := 1057
  interfaces := #[]
  cf := some (fileOf pool9 7 #[] #[{ accessFlags := 4, nameIndex := 5, descriptorIndex := 6, attributes := #[] }] 1057 2 #[] #[])
  fields := #[]
  methods := #[k9m0]
  instanceTypes := #[]
  staticTypes := #[]
  resolved := Array.replicate 22 none
  statics := none }

def pool10 : Array CpInfo := pool [(1, .methodref 2 3), (0, .class_ 4), (0, .nameAndType 5 6), (0, u "java/lang/Record"), (0, u "<init>"), (0, u "()V"), (7, .fieldref 15 16), (0, .class_ 17), (0, .nameAndType 18 19), (0, u "com/example/ketenwacht/ketenwacht/model/SamlStatus"), (0, u "code"), (0, u "Ljava/lang/String;"), (0, .fieldref 15 21), (0, .nameAndType 22 19), (0, u "subCode"), (0, .fieldref 15 24), (0, .nameAndType 25 19), (0, u "message"), (4, u "(Ljava/lang/String;Ljava/lang/String;Ljava/lang/String;)V"), (0, .methodref 32 33), (0, .class_ 34), (0, .nameAndType 35 36), (0, u "java/lang/String"), (0, u "equals"), (0, u "(Ljava/lang/Object;)Z"), (0, .string 38), (0, u "urn:oasis:names:tc:SAML:2.0:status:Responder"), (0, .string 40), (0, u "urn:oasis:names:tc:SAML:2.0:status:AuthnFailed"), (11, u "SUCCESS"), (1, u "REQUESTER"), (2, u "RESPONDER"), (0, u "VERSION_MISMATCH"), (2, u "AUTHN_FAILED"), (0, u "NO_AUTHN_CONTEXT"), (9, u "()Z"), (0, u "isCancellation")] 24

def k10c0 : Code := { maxStack := 3, maxLocals := 4, code := prog_41_method_1_code, exceptionTable := #[], attributes := #[] }
def k10m0 : Method := { name := "<init>", desc := "(Ljava/lang/String;Ljava/lang/String;Ljava/lang/String;)V", sig := { parameters := [(.object "java/lang/String"), (.object "java/lang/String"), (.object "java/lang/String")], returnType := none }, accessFlags := 1, code := some k10c0 }
def k10c1 : Code := { maxStack := 2, maxLocals := 1, code := prog_41_method_4_code, exceptionTable := #[], attributes := #[] }
def k10m1 : Method := { name := "isCancellation", desc := "()Z", sig := { parameters := [], returnType := some .boolean }, accessFlags := 1, code := some k10c1 }
/-- com/example/ketenwacht/ketenwacht/model/SamlStatus -/
def k10 : Class := { plain "com/example/ketenwacht/ketenwacht/model/SamlStatus" (some 9) with
  accessFlags := 49
  interfaces := #[]
  cf := some (fileOf pool10 15 #[] #[{ accessFlags := 1, nameIndex := 5, descriptorIndex := 30, attributes := #[] }, { accessFlags := 1, nameIndex := 73, descriptorIndex := 72, attributes := #[] }] 49 2 #[] #[{ accessFlags := 18, nameIndex := 18, descriptorIndex := 19, attributes := #[] }, { accessFlags := 18, nameIndex := 22, descriptorIndex := 19, attributes := #[] }, { accessFlags := 18, nameIndex := 25, descriptorIndex := 19, attributes := #[] }, { accessFlags := 25, nameIndex := 52, descriptorIndex := 19, attributes := #[] }, { accessFlags := 25, nameIndex := 54, descriptorIndex := 19, attributes := #[] }, { accessFlags := 25, nameIndex := 57, descriptorIndex := 19, attributes := #[] }, { accessFlags := 25, nameIndex := 58, descriptorIndex := 19, attributes := #[] }, { accessFlags := 25, nameIndex := 61, descriptorIndex := 19, attributes := #[] }, { accessFlags := 25, nameIndex := 62, descriptorIndex := 19, attributes := #[] }])
  fields := #[{ name := "code", type := (.object "java/lang/String"), accessFlags := 18, slot := 0, constantValue := 0 }, { name := "subCode", type := (.object "java/lang/String"), accessFlags := 18, slot := 1, constantValue := 0 }, { name := "message", type := (.object "java/lang/String"), accessFlags := 18, slot := 2, constantValue := 0 }, { name := "SUCCESS", type := (.object "java/lang/String"), accessFlags := 25, slot := 0, constantValue := 0 }, { name := "REQUESTER", type := (.object "java/lang/String"), accessFlags := 25, slot := 1, constantValue := 0 }, { name := "RESPONDER", type := (.object "java/lang/String"), accessFlags := 25, slot := 2, constantValue := 0 }, { name := "VERSION_MISMATCH", type := (.object "java/lang/String"), accessFlags := 25, slot := 3, constantValue := 0 }, { name := "AUTHN_FAILED", type := (.object "java/lang/String"), accessFlags := 25, slot := 4, constantValue := 0 }, { name := "NO_AUTHN_CONTEXT", type := (.object "java/lang/String"), accessFlags := 25, slot := 5, constantValue := 0 }]
  methods := #[k10m0, k10m1]
  instanceTypes := #[(.object "java/lang/String"), (.object "java/lang/String"), (.object "java/lang/String")]
  staticTypes := #[(.object "java/lang/String"), (.object "java/lang/String"), (.object "java/lang/String"), (.object "java/lang/String"), (.object "java/lang/String"), (.object "java/lang/String")]
  resolved := Array.replicate 98 none
  statics := none }

def pool11 : Array CpInfo := pool [(4, .class_ 6), (1, u "java/lang/Object"), (0, u "<init>"), (0, u "()V"), (5, .class_ 16), (1, u "java/lang/StringLatin1"), (73, u "canEncode"), (14, u "(C)Z"), (15, u "$assertionsDisabled"), (0, u "Z"), (98, .class_ 223), (1, u "java/lang/StringLatin1$LinesSpliterator"), (57, u "equals"), (0, u "([B[B)Z"), (97, u "toBytes"), (1, u "(C)[B"), (7, .class_ 391), (0, u "java/lang/StringLatin1$CharsSpliterator")] 3

def k11m0 : Method := { name := "<init>", desc := "()V", sig := { parameters := [], returnType := none }, accessFlags := 0, code := none }
def k11c1 : Code := { maxStack := 2, maxLocals := 1, code := jdk_43_method_3_code, exceptionTable := #[], attributes := #[] }
def k11m1 : Method := { name := "canEncode", desc := "(C)Z", sig := { parameters := [.char], returnType := some .boolean }, accessFlags := 9, code := some k11c1 }
def k11c2 : Code := { maxStack := 3, maxLocals := 3, code := jdk_43_method_13_code, exceptionTable := #[], attributes := #[] }
def k11m2 : Method := { name := "equals", desc := "([B[B)Z", sig := { parameters := [(.array .byte), (.array .byte)], returnType := some .boolean }, accessFlags := 9, code := some k11c2 }
def k11c3 : Code := { maxStack := 4, maxLocals := 1, code := jdk_43_method_46_code, exceptionTable := #[], attributes := #[] }
def k11m3 : Method := { name := "toBytes", desc := "(C)[B", sig := { parameters := [.char], returnType := some (.array .byte) }, accessFlags := 9, code := some k11c3 }
/-- java/lang/StringLatin1 -/
def k11 : Class := { plain "java/lang/StringLatin1" (some 0) with
  accessFlags := 48
  interfaces := #[]
  cf := some (fileOf pool11 14 #[.nestMembers #[390, 221]] #[{ accessFlags := 0, nameIndex := 7, descriptorIndex := 8, attributes := #[] }, { accessFlags := 9, nameIndex := 90, descriptorIndex := 105, attributes := #[] }, { accessFlags := 9, nameIndex := 281, descriptorIndex := 282, attributes := #[] }, { accessFlags := 9, nameIndex := 380, descriptorIndex := 382, attributes := #[] }] 48 4 #[] #[{ accessFlags := 4120, nameIndex := 121, descriptorIndex := 122, attributes := #[] }])
  fields := #[{ name := "$assertionsDisabled", type := .boolean, accessFlags := 4120, slot := 0, constantValue := 0 }]
  methods := #[k11m0, k11m1, k11m2, k11m3]
  instanceTypes := #[]
  staticTypes := #[.boolean]
  resolved := Array.replicate 395 none
  statics := none }

def pool12 : Array CpInfo := pool [(2, .class_ 4), (1, u "java/lang/Object"), (0, u "<init>"), (0, u "()V"), (17, .class_ 26), (1, u "jdk/internal/util/Preconditions"), (28, .class_ 56), (0, u "jdk/internal/util/Preconditions$4"), (57, .class_ 115), (0, u "jdk/internal/util/Preconditions$1"), (7, u "SIOOBE_FORMATTER"), (0, u "Ljava/util/function/BiFunction;"), (0, .class_ 126), (0, u "jdk/internal/util/Preconditions$2"), (3, u "AIOOBE_FORMATTER"), (0, .class_ 132), (0, u "jdk/internal/util/Preconditions$3"), (3, u "IOOBE_FORMATTER")] 57

def k12m0 : Method := { name := "<init>", desc := "()V", sig := { parameters := [], returnType := none }, accessFlags := 1, code := none }
/-- jdk/internal/util/Preconditions -/
def k12 : Class := { plain "jdk/internal/util/Preconditions" (some 0) with
  accessFlags := 33
  interfaces := #[]
  cf := some (fileOf pool12 24 #[.nestMembers #[55, 131, 125, 114]] #[{ accessFlags := 1, nameIndex := 5, descriptorIndex := 6, attributes := #[] }] 33 2 #[] #[{ accessFlags := 25, nameIndex := 123, descriptorIndex := 124, attributes := #[] }, { accessFlags := 25, nameIndex := 130, descriptorIndex := 124, attributes := #[] }, { accessFlags := 25, nameIndex := 136, descriptorIndex := 124, attributes := #[] }])
  fields := #[{ name := "SIOOBE_FORMATTER", type := (.object "java/util/function/BiFunction"), accessFlags := 25, slot := 0, constantValue := 0 }, { name := "AIOOBE_FORMATTER", type := (.object "java/util/function/BiFunction"), accessFlags := 25, slot := 1, constantValue := 0 }, { name := "IOOBE_FORMATTER", type := (.object "java/util/function/BiFunction"), accessFlags := 25, slot := 2, constantValue := 0 }]
  methods := #[k12m0]
  instanceTypes := #[]
  staticTypes := #[(.object "java/util/function/BiFunction"), (.object "java/util/function/BiFunction"), (.object "java/util/function/BiFunction")]
  resolved := Array.replicate 194 none
  statics := some 1 }

def pool13 : Array CpInfo := pool [(9, u "<init>"), (6, .class_ 18), (1, u "java/lang/Object"), (0, u "()V"), (1, .class_ 23), (1, u "jdk/internal/util/ArraysSupport"), (0, u "LOG2_ARRAY_LONG_INDEX_SCALE"), (0, u "I"), (2, u "U"), (0, u "Ljdk/internal/misc/Unsafe;"), (8, u "BIG_ENDIAN"), (0, u "Z"), (8, u "LOG2_BYTE_BIT_SIZE"), (4, u "LOG2_ARRAY_INT_INDEX_SCALE"), (54, u "JLA"), (0, u "Ljdk/internal/access/JavaLangAccess;"), (11, u "LOG2_ARRAY_BOOLEAN_INDEX_SCALE"), (9, u "LOG2_ARRAY_BYTE_INDEX_SCALE"), (5, u "LOG2_ARRAY_CHAR_INDEX_SCALE"), (5, u "LOG2_ARRAY_SHORT_INDEX_SCALE"), (18, u "LOG2_ARRAY_FLOAT_INDEX_SCALE"), (24, u "LOG2_ARRAY_DOUBLE_INDEX_SCALE"), (89, u "T_BOOLEAN"), (2, u "T_CHAR"), (1, u "T_FLOAT"), (1, u "T_DOUBLE"), (1, u "T_BYTE"), (1, u "T_SHORT"), (1, u "T_INT"), (1, u "T_LONG"), (1, u "SOFT_MAX_ARRAY_LENGTH")] 83

def k13m0 : Method := { name := "<init>", desc := "()V", sig := { parameters := [], returnType := none }, accessFlags := 2, code := none }
/-- jdk/internal/util/ArraysSupport -/
def k13 : Class := { plain "jdk/internal/util/ArraysSupport" (some 0) with
  accessFlags := 33
  interfaces := #[]
  cf := some (fileOf pool13 21 #[] #[{ accessFlags := 2, nameIndex := 9, descriptorIndex := 19, attributes := #[] }] 33 16 #[] #[{ accessFlags := 24, nameIndex := 28, descriptorIndex := 29, attributes := #[] }, { accessFlags := 26, nameIndex := 38, descriptorIndex := 39, attributes := #[] }, { accessFlags := 25, nameIndex := 121, descriptorIndex := 25, attributes := #[] }, { accessFlags := 25, nameIndex := 131, descriptorIndex := 25, attributes := #[] }, { accessFlags := 25, nameIndex := 137, descriptorIndex := 25, attributes := #[] }, { accessFlags := 25, nameIndex := 143, descriptorIndex := 25, attributes := #[] }, { accessFlags := 25, nameIndex := 53, descriptorIndex := 25, attributes := #[] }, { accessFlags := 25, nameIndex := 24, descriptorIndex := 25, attributes := #[] }, { accessFlags := 25, nameIndex := 162, descriptorIndex := 25, attributes := #[] }, { accessFlags := 25, nameIndex := 187, descriptorIndex := 25, attributes := #[] }, { accessFlags := 26, nameIndex := 48, descriptorIndex := 25, attributes := #[] }, { accessFlags := 25, nameIndex := 277, descriptorIndex := 25, attributes := #[] }, { accessFlags := 25, nameIndex := 280, descriptorIndex := 25, attributes := #[] }, { accessFlags := 25, nameIndex := 282, descriptorIndex := 25, attributes := #[] }, { accessFlags := 25, nameIndex := 284, descriptorIndex := 25, attributes := #[] }, { accessFlags := 25, nameIndex := 286, descriptorIndex := 25, attributes := #[] }, { accessFlags := 25, nameIndex := 288, descriptorIndex := 25, attributes := #[] }, { accessFlags := 25, nameIndex := 290, descriptorIndex := 25, attributes := #[] }, { accessFlags := 25, nameIndex := 292, descriptorIndex := 25, attributes := #[] }, { accessFlags := 26, nameIndex := 108, descriptorIndex := 109, attributes := #[] }, { accessFlags := 25, nameIndex := 294, descriptorIndex := 25, attributes := #[] }])
  fields := #[{ name := "U", type := (.object "jdk/internal/misc/Unsafe"), accessFlags := 24, slot := 0, constantValue := 0 }, { name := "BIG_ENDIAN", type := .boolean, accessFlags := 26, slot := 1, constantValue := 0 }, { name := "LOG2_ARRAY_BOOLEAN_INDEX_SCALE", type := .int, accessFlags := 25, slot := 2, constantValue := 0 }, { name := "LOG2_ARRAY_BYTE_INDEX_SCALE", type := .int, accessFlags := 25, slot := 3, constantValue := 0 }, { name := "LOG2_ARRAY_CHAR_INDEX_SCALE", type := .int, accessFlags := 25, slot := 4, constantValue := 0 }, { name := "LOG2_ARRAY_SHORT_INDEX_SCALE", type := .int, accessFlags := 25, slot := 5, constantValue := 0 }, { name := "LOG2_ARRAY_INT_INDEX_SCALE", type := .int, accessFlags := 25, slot := 6, constantValue := 0 }, { name := "LOG2_ARRAY_LONG_INDEX_SCALE", type := .int, accessFlags := 25, slot := 7, constantValue := 0 }, { name := "LOG2_ARRAY_FLOAT_INDEX_SCALE", type := .int, accessFlags := 25, slot := 8, constantValue := 0 }, { name := "LOG2_ARRAY_DOUBLE_INDEX_SCALE", type := .int, accessFlags := 25, slot := 9, constantValue := 0 }, { name := "LOG2_BYTE_BIT_SIZE", type := .int, accessFlags := 26, slot := 10, constantValue := 0 }, { name := "T_BOOLEAN", type := .int, accessFlags := 25, slot := 11, constantValue := 0 }, { name := "T_CHAR", type := .int, accessFlags := 25, slot := 12, constantValue := 0 }, { name := "T_FLOAT", type := .int, accessFlags := 25, slot := 13, constantValue := 0 }, { name := "T_DOUBLE", type := .int, accessFlags := 25, slot := 14, constantValue := 0 }, { name := "T_BYTE", type := .int, accessFlags := 25, slot := 15, constantValue := 0 }, { name := "T_SHORT", type := .int, accessFlags := 25, slot := 16, constantValue := 0 }, { name := "T_INT", type := .int, accessFlags := 25, slot := 17, constantValue := 0 }, { name := "T_LONG", type := .int, accessFlags := 25, slot := 18, constantValue := 0 }, { name := "JLA", type := (.object "jdk/internal/access/JavaLangAccess"), accessFlags := 26, slot := 19, constantValue := 0 }, { name := "SOFT_MAX_ARRAY_LENGTH", type := .int, accessFlags := 25, slot := 20, constantValue := 0 }]
  methods := #[k13m0]
  instanceTypes := #[]
  staticTypes := #[(.object "jdk/internal/misc/Unsafe"), .boolean, .int, .int, .int, .int, .int, .int, .int, .int, .int, .int, .int, .int, .int, .int, .int, .int, .int, (.object "jdk/internal/access/JavaLangAccess"), .int]
  resolved := Array.replicate 378 none
  statics := none }

def pool14 : Array CpInfo := pool [(1, u "java/lang/Cloneable"), (0, .class_ 1), (0, u "java/lang/Object"), (0, .class_ 3)] 3

/-- java/lang/Cloneable -/
def k14 : Class := { plain "java/lang/Cloneable" (some 0) with
  accessFlags := 1537
  interfaces := #[]
  cf := some (fileOf pool14 2 #[] #[] 1537 4 #[] #[])
  fields := #[]
  methods := #[]
  instanceTypes := #[]
  staticTypes := #[]
  resolved := Array.replicate 8 none
  statics := none }

/-- the primitive byte -/
def k15 : Class := { plain "byte" none with kind := .primitive 'B', accessFlags := 0x411 }
/-- [B -/
def k16 : Class := { plain "[B" (some 0) with kind := .array 15 .byte, interfaces := #[14, 2], accessFlags := 1041 }

/-- the primitive char -/
def k17 : Class := { plain "char" none with kind := .primitive 'C', accessFlags := 0x411 }
/-- [C -/
def k18 : Class := { plain "[C" (some 0) with kind := .array 17 .char, interfaces := #[14, 2], accessFlags := 1041 }

/-- the primitive int -/
def k19 : Class := { plain "int" none with kind := .primitive 'I', accessFlags := 0x411 }
/-- [I -/
def k20 : Class := { plain "[I" (some 0) with kind := .array 19 .int, interfaces := #[14, 2], accessFlags := 1041 }

def heap : Heap := #[{ cls := 7, slots := #[.long 0, .int 1, .null, .int 0, .null, .int 0, .int 0], vm := .statics 7 },
  { cls := 12, slots := #[.null, .null, .null], vm := .statics 12 }]
def classes : Array Class := #[k0, k1, k2, k3, k4, k5, k6, k7, k8, k9, k10, k11, k12, k13, k14, k15, k16, k17, k18, k19, k20]
def interned : List (Array UInt16 × Addr) := []
def slotsUsed : Nat := 10
def theMethod : MethodId := ⟨1, 3⟩
def args0 : Array Value := #[.int 5, .int 3, .int 7, .int 8, .int 9, .int 4]
def aboutOver (below : List Frame) : State where
  vm := { classes := classes, interned := interned.toArray }
  heap := heap
  slotsUsed := slotsUsed
  threads := #[{ frames := .invoking theMethod args0 :: below }]
def below0 : List Frame := [.native { method := ⟨0, 0⟩, args := #[] }]
def about1 : State := aboutOver below0
def p0 : Program := .bare "" "" ""
def e0 : Env := launch0.env 0 0 0
theorem w_frames : about1.frames = Frame.invoking theMethod args0 :: below0 := rfl
set_option maxRecDepth 65536 in
theorem w_args : argsFit about1.vm theMethod args0 = true := by decide +kernel
set_option maxRecDepth 65536 in
theorem w_heap : heapFits about1 = true := by decide +kernel
set_option maxRecDepth 65536 in
theorem w_runnable : about1.curStatus? = some .runnable := by decide +kernel
set_option maxRecDepth 65536 in
theorem w_alone : about1.alone = true := by decide +kernel
set_option maxRecDepth 65536 in
theorem w_named : about1.methodNamed? x = some theMethod := by decide +kernel
set_option maxRecDepth 65536 in
theorem w_hears : about1.hears theMethod below0 = true := by decide +kernel
set_option maxRecDepth 65536 in
theorem w_ripe : about1.ripe theMethod args0 below0 = true := by decide +kernel
theorem w_running : about1.status = .running := rfl
set_option maxRecDepth 65536 in
theorem w_room : about1.hasRoom e0.platform room_1 = true :=
  launch0.hasRoom_least _ room_1 (by decide +kernel) (by decide +kernel) (by decide +kernel) (by decide +kernel) (by decide +kernel) (by decide +kernel)
theorem allAtoms_all (ts : List Jvm.Cond) (a : Array Jvm.Value) (st : Jvm.State) : (allAtoms ts).before a st = ts.all (fun c => c.before a st) := by
  induction ts with
  | nil => rfl
  | cons c t ih =>
    show (Jvm.Cond.and c (allAtoms t)).before a st = _
    rw [Jvm.Cond.before_and, ih, List.all_cons]
def words1 : List Jvm.Cond := Jvm.Cond.code x code maxLocals ret :: tables_1
/-- a 'code' word, met by the world's own term for the bytes: nothing is compared byte by byte -/
theorem code_word {y : MethodName} {bytes : ByteArray} {mx : Nat} {rt : Option FieldType} {a : Array Value} {s : State} {m : MethodId} {meth : Method} {c : Code} (h1 : s.methodNamed? y = some m) (h2 : s.vm.method? m = some meth) (h3 : meth.code = some c) (h4 : c.code = bytes)
    (h5 : (c.maxLocals == mx && c.exceptionTable.isEmpty && decide (c.maxStack ≤ mostOperands) && decide (meth.sig.returnType = rt) && !meth.locks && decide (parseMethodDescriptor y.desc = some meth.sig)) = true) : (Jvm.Cond.code y bytes mx rt).before a s = true := by
  simp only [Bool.and_eq_true, beq_iff_eq, Bool.not_eq_true', decide_eq_true_eq] at h5
  obtain ⟨⟨⟨⟨⟨g1, g2⟩, g3⟩, g4⟩, g5⟩, g6⟩ := h5
  simp [Cond.before, Cond.holds, Cond.value, h1, h2, h3, h4, g1, g2, g3, g4, g5, g6]
def isCode : Jvm.Cond → Bool
  | .code _ _ _ _ => true
  | _ => false
theorem all_split {L : List Jvm.Cond} {P : Jvm.Cond → Bool} (h1 : L.all (fun c => isCode c || P c) = true) (h2 : ∀ c ∈ L.filter isCode, P c = true) : L.all P = true := by
  refine List.all_eq_true.mpr fun c hc => ?_
  have h := List.all_eq_true.mp h1 c hc
  rcases Bool.eq_false_or_eq_true (isCode c) with hi | hi
  · exact h2 c (List.mem_filter.mpr ⟨hc, hi⟩)
  · simpa [hi] using h
set_option maxRecDepth 65536 in
theorem w_c0 : (Jvm.Cond.code x code maxLocals ret).before args0 about1 = true := code_word (m := ⟨1, 3⟩) (meth := k1m3) (c := k1c3) (by decide +kernel) rfl rfl rfl (by decide +kernel)
set_option maxRecDepth 65536 in
theorem w_c1 : (Jvm.Cond.code ({ cls := "com/example/ketenwacht/ketenwacht/model/SamlStatusIsCancellationPinLaw", name := "responderChars", desc := "()[C" } : Jvm.MethodName) method_2_code (0 : Nat) (Option.some (Jvm.ClassFile.FieldType.array Jvm.ClassFile.FieldType.char))).before args0 about1 = true := code_word (m := ⟨1, 1⟩) (meth := k1m1) (c := k1c1) (by decide +kernel) rfl rfl rfl (by decide +kernel)
set_option maxRecDepth 65536 in
theorem w_c2 : (Jvm.Cond.code ({ cls := "java/lang/String", name := "<init>", desc := "([C)V" } : Jvm.MethodName) jdk_42_method_3_code (2 : Nat) (Option.none : Option Jvm.ClassFile.FieldType)).before args0 about1 = true := code_word (m := ⟨7, 1⟩) (meth := k7m1) (c := k7c1) (by decide +kernel) rfl rfl rfl (by decide +kernel)
set_option maxRecDepth 65536 in
theorem w_c3 : (Jvm.Cond.code ({ cls := "java/lang/String", name := "<init>", desc := "([CIILjava/lang/Void;)V" } : Jvm.MethodName) jdk_42_method_149_code (6 : Nat) (Option.none : Option Jvm.ClassFile.FieldType)).before args0 about1 = true := code_word (m := ⟨7, 4⟩) (meth := k7m4) (c := k7c4) (by decide +kernel) rfl rfl rfl (by decide +kernel)
set_option maxRecDepth 65536 in
theorem w_c4 : (Jvm.Cond.code ({ cls := "java/lang/Object", name := "<init>", desc := "()V" } : Jvm.MethodName) object_method_1_code (1 : Nat) (Option.none : Option Jvm.ClassFile.FieldType)).before args0 about1 = true := code_word (m := ⟨0, 0⟩) (meth := k0m0) (c := k0c0) (by decide +kernel) rfl rfl rfl (by decide +kernel)
set_option maxRecDepth 65536 in
theorem w_c5 : (Jvm.Cond.code ({ cls := "java/lang/StringUTF16", name := "compress", desc := "([CII)[B" } : Jvm.MethodName) jdk_52_method_16_code (6 : Nat) (Option.some (Jvm.ClassFile.FieldType.array Jvm.ClassFile.FieldType.byte))).before args0 about1 = true := code_word (m := ⟨8, 2⟩) (meth := k8m2) (c := k8c2) (by decide +kernel) rfl rfl rfl (by decide +kernel)
set_option maxRecDepth 65536 in
theorem w_c6 : (Jvm.Cond.code ({ cls := "java/lang/StringUTF16", name := "compress", desc := "([CI[BII)I" } : Jvm.MethodName) jdk_52_method_21_code (7 : Nat) (Option.some Jvm.ClassFile.FieldType.int)).before args0 about1 = true := code_word (m := ⟨8, 3⟩) (meth := k8m3) (c := k8c3) (by decide +kernel) rfl rfl rfl (by decide +kernel)
set_option maxRecDepth 65536 in
theorem w_c7 : (Jvm.Cond.code ({ cls := "java/lang/StringUTF16", name := "coderFromArrayLen", desc := "([BI)B" } : Jvm.MethodName) jdk_52_method_15_code (2 : Nat) (Option.some Jvm.ClassFile.FieldType.byte)).before args0 about1 = true := code_word (m := ⟨8, 1⟩) (meth := k8m1) (c := k8c1) (by decide +kernel) rfl rfl rfl (by decide +kernel)
set_option maxRecDepth 65536 in
theorem w_c8 : (Jvm.Cond.code ({ cls := "com/example/ketenwacht/ketenwacht/model/SamlStatusIsCancellationPinLaw", name := "authnFailedChars", desc := "()[C" } : Jvm.MethodName) method_3_code (0 : Nat) (Option.some (Jvm.ClassFile.FieldType.array Jvm.ClassFile.FieldType.char))).before args0 about1 = true := code_word (m := ⟨1, 2⟩) (meth := k1m2) (c := k1c2) (by decide +kernel) rfl rfl rfl (by decide +kernel)
set_option maxRecDepth 65536 in
theorem w_c9 : (Jvm.Cond.code ({ cls := "com/example/ketenwacht/ketenwacht/model/SamlStatus", name := "<init>", desc := "(Ljava/lang/String;Ljava/lang/String;Ljava/lang/String;)V" } : Jvm.MethodName) prog_41_method_1_code (4 : Nat) (Option.none : Option Jvm.ClassFile.FieldType)).before args0 about1 = true := code_word (m := ⟨10, 0⟩) (meth := k10m0) (c := k10c0) (by decide +kernel) rfl rfl rfl (by decide +kernel)
set_option maxRecDepth 65536 in
theorem w_c10 : (Jvm.Cond.code ({ cls := "java/lang/Record", name := "<init>", desc := "()V" } : Jvm.MethodName) jdk_30_method_1_code (1 : Nat) (Option.none : Option Jvm.ClassFile.FieldType)).before args0 about1 = true := code_word (m := ⟨9, 0⟩) (meth := k9m0) (c := k9c0) (by decide +kernel) rfl rfl rfl (by decide +kernel)
set_option maxRecDepth 65536 in
theorem w_c11 : (Jvm.Cond.code ({ cls := "com/example/ketenwacht/ketenwacht/model/SamlStatus", name := "isCancellation", desc := "()Z" } : Jvm.MethodName) prog_41_method_4_code (1 : Nat) (Option.some Jvm.ClassFile.FieldType.boolean)).before args0 about1 = true := code_word (m := ⟨10, 1⟩) (meth := k10m1) (c := k10c1) (by decide +kernel) rfl rfl rfl (by decide +kernel)
set_option maxRecDepth 65536 in
theorem w_c12 : (Jvm.Cond.code ({ cls := "java/lang/String", name := "equals", desc := "(Ljava/lang/Object;)Z" } : Jvm.MethodName) jdk_42_method_66_code (3 : Nat) (Option.some Jvm.ClassFile.FieldType.boolean)).before args0 about1 = true := code_word (m := ⟨7, 2⟩) (meth := k7m2) (c := k7c2) (by decide +kernel) rfl rfl rfl (by decide +kernel)
set_option maxRecDepth 65536 in
theorem w_c13 : (Jvm.Cond.code ({ cls := "java/lang/StringLatin1", name := "equals", desc := "([B[B)Z" } : Jvm.MethodName) jdk_43_method_13_code (3 : Nat) (Option.some Jvm.ClassFile.FieldType.boolean)).before args0 about1 = true := code_word (m := ⟨11, 2⟩) (meth := k11m2) (c := k11c2) (by decide +kernel) rfl rfl rfl (by decide +kernel)
set_option maxRecDepth 65536 in
theorem w_c14 : (Jvm.Cond.code ({ cls := "java/lang/String", name := "valueOf", desc := "(C)Ljava/lang/String;" } : Jvm.MethodName) jdk_42_method_139_code (1 : Nat) (Option.some (Jvm.ClassFile.FieldType.object "java/lang/String"))).before args0 about1 = true := code_word (m := ⟨7, 3⟩) (meth := k7m3) (c := k7c3) (by decide +kernel) rfl rfl rfl (by decide +kernel)
set_option maxRecDepth 65536 in
theorem w_c15 : (Jvm.Cond.code ({ cls := "java/lang/StringLatin1", name := "canEncode", desc := "(C)Z" } : Jvm.MethodName) jdk_43_method_3_code (1 : Nat) (Option.some Jvm.ClassFile.FieldType.boolean)).before args0 about1 = true := code_word (m := ⟨11, 1⟩) (meth := k11m1) (c := k11c1) (by decide +kernel) rfl rfl rfl (by decide +kernel)
set_option maxRecDepth 65536 in
theorem w_c16 : (Jvm.Cond.code ({ cls := "java/lang/StringLatin1", name := "toBytes", desc := "(C)[B" } : Jvm.MethodName) jdk_43_method_46_code (1 : Nat) (Option.some (Jvm.ClassFile.FieldType.array Jvm.ClassFile.FieldType.byte))).before args0 about1 = true := code_word (m := ⟨11, 3⟩) (meth := k11m3) (c := k11c3) (by decide +kernel) rfl rfl rfl (by decide +kernel)
set_option maxRecDepth 65536 in
theorem w_c17 : (Jvm.Cond.code ({ cls := "java/lang/String", name := "<init>", desc := "([BB)V" } : Jvm.MethodName) jdk_42_method_151_code (3 : Nat) (Option.none : Option Jvm.ClassFile.FieldType)).before args0 about1 = true := code_word (m := ⟨7, 5⟩) (meth := k7m5) (c := k7c5) (by decide +kernel) rfl rfl rfl (by decide +kernel)
def codes1 : List Jvm.Cond := [Jvm.Cond.code x code maxLocals ret, Jvm.Cond.code ({ cls := "com/example/ketenwacht/ketenwacht/model/SamlStatusIsCancellationPinLaw", name := "responderChars", desc := "()[C" } : Jvm.MethodName) method_2_code (0 : Nat) (Option.some (Jvm.ClassFile.FieldType.array Jvm.ClassFile.FieldType.char)), Jvm.Cond.code ({ cls := "java/lang/String", name := "<init>", desc := "([C)V" } : Jvm.MethodName) jdk_42_method_3_code (2 : Nat) (Option.none : Option Jvm.ClassFile.FieldType), Jvm.Cond.code ({ cls := "java/lang/String", name := "<init>", desc := "([CIILjava/lang/Void;)V" } : Jvm.MethodName) jdk_42_method_149_code (6 : Nat) (Option.none : Option Jvm.ClassFile.FieldType), Jvm.Cond.code ({ cls := "java/lang/Object", name := "<init>", desc := "()V" } : Jvm.MethodName) object_method_1_code (1 : Nat) (Option.none : Option Jvm.ClassFile.FieldType), Jvm.Cond.code ({ cls := "java/lang/StringUTF16", name := "compress", desc := "([CII)[B" } : Jvm.MethodName) jdk_52_method_16_code (6 : Nat) (Option.some (Jvm.ClassFile.FieldType.array Jvm.ClassFile.FieldType.byte)), Jvm.Cond.code ({ cls := "java/lang/StringUTF16", name := "compress", desc := "([CI[BII)I" } : Jvm.MethodName) jdk_52_method_21_code (7 : Nat) (Option.some Jvm.ClassFile.FieldType.int), Jvm.Cond.code ({ cls := "java/lang/StringUTF16", name := "coderFromArrayLen", desc := "([BI)B" } : Jvm.MethodName) jdk_52_method_15_code (2 : Nat) (Option.some Jvm.ClassFile.FieldType.byte), Jvm.Cond.code ({ cls := "com/example/ketenwacht/ketenwacht/model/SamlStatusIsCancellationPinLaw", name := "authnFailedChars", desc := "()[C" } : Jvm.MethodName) method_3_code (0 : Nat) (Option.some (Jvm.ClassFile.FieldType.array Jvm.ClassFile.FieldType.char)), Jvm.Cond.code ({ cls := "com/example/ketenwacht/ketenwacht/model/SamlStatus", name := "<init>", desc := "(Ljava/lang/String;Ljava/lang/String;Ljava/lang/String;)V" } : Jvm.MethodName) prog_41_method_1_code (4 : Nat) (Option.none : Option Jvm.ClassFile.FieldType), Jvm.Cond.code ({ cls := "java/lang/Record", name := "<init>", desc := "()V" } : Jvm.MethodName) jdk_30_method_1_code (1 : Nat) (Option.none : Option Jvm.ClassFile.FieldType), Jvm.Cond.code ({ cls := "com/example/ketenwacht/ketenwacht/model/SamlStatus", name := "isCancellation", desc := "()Z" } : Jvm.MethodName) prog_41_method_4_code (1 : Nat) (Option.some Jvm.ClassFile.FieldType.boolean), Jvm.Cond.code ({ cls := "java/lang/String", name := "equals", desc := "(Ljava/lang/Object;)Z" } : Jvm.MethodName) jdk_42_method_66_code (3 : Nat) (Option.some Jvm.ClassFile.FieldType.boolean), Jvm.Cond.code ({ cls := "java/lang/StringLatin1", name := "equals", desc := "([B[B)Z" } : Jvm.MethodName) jdk_43_method_13_code (3 : Nat) (Option.some Jvm.ClassFile.FieldType.boolean), Jvm.Cond.code ({ cls := "java/lang/String", name := "valueOf", desc := "(C)Ljava/lang/String;" } : Jvm.MethodName) jdk_42_method_139_code (1 : Nat) (Option.some (Jvm.ClassFile.FieldType.object "java/lang/String")), Jvm.Cond.code ({ cls := "java/lang/StringLatin1", name := "canEncode", desc := "(C)Z" } : Jvm.MethodName) jdk_43_method_3_code (1 : Nat) (Option.some Jvm.ClassFile.FieldType.boolean), Jvm.Cond.code ({ cls := "java/lang/StringLatin1", name := "toBytes", desc := "(C)[B" } : Jvm.MethodName) jdk_43_method_46_code (1 : Nat) (Option.some (Jvm.ClassFile.FieldType.array Jvm.ClassFile.FieldType.byte)), Jvm.Cond.code ({ cls := "java/lang/String", name := "<init>", desc := "([BB)V" } : Jvm.MethodName) jdk_42_method_151_code (3 : Nat) (Option.none : Option Jvm.ClassFile.FieldType)]
set_option maxRecDepth 65536 in
theorem codes_eq : words1.filter isCode = codes1 := rfl
theorem w_codes : ∀ c ∈ words1.filter isCode, c.before args0 about1 = true := by
  rw [codes_eq]
  intro c hc
  simp only [codes1, List.mem_cons, List.not_mem_nil, or_false] at hc
  rcases hc with rfl | rfl | rfl | rfl | rfl | rfl | rfl | rfl | rfl | rfl | rfl | rfl | rfl | rfl | rfl | rfl | rfl | rfl
  · exact w_c0
  · exact w_c1
  · exact w_c2
  · exact w_c3
  · exact w_c4
  · exact w_c5
  · exact w_c6
  · exact w_c7
  · exact w_c8
  · exact w_c9
  · exact w_c10
  · exact w_c11
  · exact w_c12
  · exact w_c13
  · exact w_c14
  · exact w_c15
  · exact w_c16
  · exact w_c17
set_option maxRecDepth 65536 in
theorem w_t1 : (words1.take 24).all (fun c => isCode c || c.before args0 about1) = true := by decide +kernel
set_option maxRecDepth 65536 in
theorem w_t2 : ((words1.drop 24).take 24).all (fun c => isCode c || c.before args0 about1) = true := by decide +kernel
set_option maxRecDepth 65536 in
theorem w_t3 : (((words1.drop 24).drop 24).take 24).all (fun c => isCode c || c.before args0 about1) = true := by decide +kernel
set_option maxRecDepth 65536 in
theorem w_t4 : (((words1.drop 24).drop 24).drop 24).all (fun c => isCode c || c.before args0 about1) = true := by decide +kernel
theorem w_tables : (allAtoms (Jvm.Cond.code x code maxLocals ret :: tables_1)).before args0 about1 = true := by
  rw [allAtoms_all]
  show words1.all (fun c => c.before args0 about1) = true
  refine all_split ?_ w_codes
  rw [← List.take_append_drop 24 words1, List.all_append, w_t1, ← List.take_append_drop 24 (words1.drop 24), List.all_append, w_t2, ← List.take_append_drop 24 ((words1.drop 24).drop 24), List.all_append, w_t3, w_t4]
  rfl
set_option maxRecDepth 65536 in
theorem w_rest : rest_1_c.before args0 about1 = true := by decide +kernel
set_option maxRecDepth 65536 in
theorem w_case : (Jvm.Cond.and given_1 narrow_1).before args0 about1 = true := by decide +kernel
set_option maxRecDepth 65536 in
theorem w_consts : constsHeld consts_1 about1 := Jvm.Lit.constsHeldB_iff.mp (by decide +kernel)
theorem w_applies : (headSpec (Jvm.Cond.code x code maxLocals ret :: tables_1) room_1).applies x e0.platform about1 = true :=
  (Spec.applies_iff w_frames).mpr ⟨w_running, w_runnable, w_alone, w_named, w_hears, w_ripe, w_room, w_tables⟩
theorem atStart : AtStart classFile x code maxLocals ret World_1 tables_1 room_1 Calls_1 rest_1 Pre_1 launch0 p0 e0 about1 theMethod args0 below0 :=
  ⟨lists_1, trivial, launch0.admits_env _ _ _, launch0.least_env, fairChoices_fair.cas, fairChoices_fair.clock, w_frames, w_args, w_heap, w_applies, ⟨w_consts, trivial⟩, w_rest, w_case⟩
end start1
theorem witness_1 : WitnessClaimed_1 := ⟨start1.p0, start1.e0, start1.about1, start1.theMethod, start1.args0, start1.below0, start1.atStart⟩
end Jvm.Pilot.@@N@@
